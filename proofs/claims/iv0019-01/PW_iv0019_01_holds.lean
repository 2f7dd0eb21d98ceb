import PyProof.Rows.All
import Wide.All
import OpenK.AllK
import Wide.FinOn
import KE.KBytesWalk
import KE.KxBytes
import KE.KBytesCut
import PyProof.ExcBaseAll.Exception
import OpenK.KMore
import KE.KTypeOf
import PyProof.StrHeap
import PyProof.ListNew
import PyProof.ListCopy
import PyProof.RangeFor
import PyProof.ListIndexNeg
import PyProof.Rows.RuleIs
import PyProof.Rows.Tup
import PyProof.Rows.TupAssign
import KE.KTryMore
import PyProof.RulesAs
import PyProof.Rows.Catch
import Lean
import PySem.Challenge.RW_iv0019_01
open PySem PySem.W PyProof.Rows
set_option Elab.async false
set_option linter.unusedVariables false
set_option maxRecDepth 100000

set_option genSizeOf false
namespace Mine
/-- the run of the top over the tree-shaped heap, by the quick twins -/
noncomputable def topRunT (p : Program) (w : World) (n₀ : Nat) (ann : Option Value) (n : Nat) : SharedT → Thread → Option SharedT :=
  @Nat.rec (fun _ => SharedT → Thread → Option SharedT) (fun _ _ => none) (fun _ ih s t =>
    @Bool.rec (fun _ => Option SharedT) (@Bool.rec (fun _ => Option SharedT) none (@Option.rec (SharedT × Thread) (fun _ => Option SharedT) none (fun r => ih r.1 r.2) (PySem.W.Fast.tw10156331382660048174 (PySem.W.Fast.tw11892475500146522536 PySem.W.Fast.tw14364793385576792824) p w s t)) (PySem.W.Fast.tw6613529449190102663 n₀ ann t)) (some s) (through t)) n
theorem topRun_ofT {p : Program} {w : World} {n₀ : Nat} {ann : Option Value} {n : Nat} : ∀ {s s' : SharedT} {t : Thread}, topRunT p w n₀ ann n s t = some s' → topRun treeTable p w n₀ ann n s.abs t = some s'.abs := by
  induction n with
  | zero => intro _ _ _ h; cases h
  | succ n ih =>
    intro s s' t h
    change @Bool.rec (fun _ => Option SharedT) (@Bool.rec (fun _ => Option SharedT) none (@Option.rec (SharedT × Thread) (fun _ => Option SharedT) none (fun r => topRunT p w n₀ ann n r.1 r.2) (PySem.W.Fast.tw10156331382660048174 (PySem.W.Fast.tw11892475500146522536 PySem.W.Fast.tw14364793385576792824) p w s t)) (PySem.W.Fast.tw6613529449190102663 n₀ ann t)) (some s) (through t) = some s' at h
    rw [← PySem.W.Fast.te6613529449190102663, ← PySem.W.Fast.te10156331382660048174, ← PySem.W.Fast.te11892475500146522536, ← PySem.W.Fast.te14364793385576792824] at h
    unfold topRun
    cases he : through t with
    | true => rw [he] at h; cases h; rfl
    | false =>
      rw [he] at h
      cases hk : stepOk n₀ ann t with
      | false => rw [hk] at h; cases h
      | true =>
        rw [hk] at h
        cases hs : stepT (denote treeTable) p w s t with
        | none => rw [hs] at h; cases h
        | some r => rw [hs] at h; rw [stepT_spec (s' := r.1) (t' := r.2) hs]; exact ih h
noncomputable def treeOf (l : List Obj) : BT := ((l.foldl (fun (x : BT × Nat) o => (x.1.ins x.2 o, x.2 + 1)) (BT.nil, 0))).1
noncomputable def startT (w : World) (os : OsState) : SharedT := ⟨treeOf (boot_heap w.params).objs.toList, (boot_heap w.params).objs.size, (boot_heap w.params).life, Array.mk [], boot_drawn, boot_toks, os⟩
theorem startT_abs (w : World) (os : OsState) : (startT w os).abs = ⟨boot_heap w.params, Array.mk [], boot_drawn, boot_toks, os⟩ := by kernel_rfl
noncomputable def endT (p : Program) (w : World) (N : Nat) (os : OsState) : Option SharedT := topRunT p w (boot_heap w.params).objs.size ((boot_heap w.params).nsMap mainGlobals "__annotations__") N (startT w os) (topStub p)
theorem boot_ns (w : World) : ((boot_heap w.params).isNs mainGlobals && (Array.mk [] : Array GenState).size == 0) = true := by kernel_rfl
/-- the second of two, told by cases -/
def sndOf {α β : Type} (x : α × β) : β := Prod.casesOn x fun _ y => y
/-- the first of two, told by cases -/
def fstOf {α β : Type} (x : α × β) : α := Prod.casesOn x fun y _ => y
theorem hl_of {p q : Program} {loose : List Str} {Xt : Shared → Bool} {α : Type} {Yf : Shared → α} {Ya : World → α} {N : Nat} {g0 : Bool} (e : opening p = plainProg p.main.scope.names) (hN : Nat.ble 600 N = true) (f : ∀ s, fenceModules? p s = some s)
    (h0 : ∀ (w : World) (os : OsState), (endT p w N os).map (fun s => (PySem.W.Fast.tw4187177175401517315 q loose (importedModules p.main.body) Xt g0 s.abs).1) = some (expectedOf q))
    (h1 : ∀ (w : World) (os : OsState), (endT p w N os).map (fun s => (staticsOk (importedModules p.main.body) (boot_heap w.params) s.abs.heap && namesBound p s.abs.heap && gensDone s.abs && laidKept (boot_heap w.params) s.abs.heap, (PySem.W.Fast.tw4187177175401517315 q loose (importedModules p.main.body) Xt g0 s.abs).2.1, (PySem.W.Fast.tw4187177175401517315 q loose (importedModules p.main.body) Xt g0 s.abs).2.2.1, (PySem.W.Fast.tw4187177175401517315 q loose (importedModules p.main.body) Xt g0 s.abs).2.2.2.1, (PySem.W.Fast.tw4187177175401517315 q loose (importedModules p.main.body) Xt g0 s.abs).2.2.2.2.1)) = some (true, fstOf (sndOf (openGood q loose)), fstOf (sndOf (sndOf (openGood q loose))), fstOf (sndOf (sndOf (sndOf (openGood q loose)))), fstOf (sndOf (sndOf (sndOf (sndOf (openGood q loose)))))))
    (h3 : ∀ (w : World) (os : OsState), (endT p w N os).map (fun s => (PySem.W.Fast.tw4187177175401517315 q loose (importedModules p.main.body) Xt g0 s.abs).2.2.2.2.2) = some (sndOf (sndOf (sndOf (sndOf (sndOf (openGood q loose)))))))
    {Yt : SharedT → α} (hy : ∀ s, Yf s.abs = Yt s)
    (h2 : ∀ (w : World) (os : OsState), (endT p w N os).map Yt = some (Ya w)) : LeftO p q loose Xt Yf Ya N g0 := fun w => by
  obtain ⟨s, hs, hv⟩ := Option.map_eq_some_iff.mp (boot_open e hN f w)
  obtain ⟨hp, gs, d, k, os⟩ := s
  simp only [Prod.mk.injEq] at hv
  obtain ⟨rfl, rfl, rfl, rfl⟩ := hv
  unfold openEnds
  rw [hs]
  obtain ⟨s0, e0, k0⟩ := Option.map_eq_some_iff.mp (h0 w os)
  obtain ⟨s1, e1, k1⟩ := Option.map_eq_some_iff.mp (h1 w os)
  obtain ⟨s2, e2, k2⟩ := Option.map_eq_some_iff.mp (h2 w os)
  obtain ⟨s3, e3, k3⟩ := Option.map_eq_some_iff.mp (h3 w os)
  rw [e0] at e1 e2 e3
  cases e1; cases e2; cases e3
  rw [← PySem.W.Fast.te4187177175401517315] at k0 k1 k3
  obtain ⟨ks, ka, kb, kc, kd⟩ : _ ∧ _ ∧ _ ∧ _ ∧ _ := by simpa only [Prod.mk.injEq] using k1
  have ka : openSeen q loose (importedModules p.main.body) Xt g0 s0.abs = openGood q loose := Prod.ext k0 (Prod.ext ka (Prod.ext kb (Prod.ext kc (Prod.ext kd k3))))
  replace k0 := ks
  have r := topRun_ofT e0
  rw [startT_abs] at r
  have t : topFrom treeTable p w N ⟨boot_heap w.params, Array.mk [], boot_drawn, boot_toks, os⟩ = some s0.abs := by
    unfold topFrom
    dsimp only
    rw [boot_ns, r]
    show (match _ with | true => some s0.abs | false => none) = _
    rw [k0]
  show (topFrom treeTable p w N _).map _ = _
  rw [t]
  show some (_, _) = some (_, _)
  rw [ka, hy, k2]
/-- the statements that the view keeps -/
def viewP : Program := { PySem.Challenge.pw_iv0019_01 with main := { PySem.Challenge.pw_iv0019_01.main with body := ((List.range 50).filter fun i => !([1, 3, 6, 34, 37] : List Nat).contains i).filterMap fun i => PySem.Challenge.pw_iv0019_01.main.body[i]? } }
local macro_rules | `(tactic| o_head $_) => `(tactic| assumption)
theorem kd (h : OpenRow.Holds (OpenLaw.row PySem.Challenge.rw_iv0019_01)) : OpenRow.Holds (OpenLaw.row PySem.Challenge.rw_iv0019_01) := by k_head
/-- the addresses of what is known -/
def asK : List Addr := [2, 3, 15, 17, 18, 20, 21, 36, 43, 44, 45, 46, 49, 56, 57, 58, 68, 70, 71, 73, 74, 75, 76, 78, 79, 81, 82, 83, 85, 86, 88, 89, 90, 92, 93, 95, 96, 97, 98, 99, 100, 101, 104, 105, 106, 107, 108, 109, 110, 112, 113, 115, 116, 117, 120, 125, 126, 127, 128, 130, 131, 133, 134, 135, 137, 138, 140, 141, 142, 143, 144, 145, 146, 148, 149, 151, 152, 153, 155, 156, 158, 159, 160, 162, 163, 165, 166, 167, 169, 170, 172, 173, 174, 175, 176, 178, 179, 181, 182, 184, 185, 187, 189, 190, 191, 194, 196, 197, 199, 200, 201, 203, 204, 206, 207, 208, 210, 211, 213, 214, 215, 217, 218, 220, 221, 222, 224, 225, 227, 228, 229, 231, 232, 234, 235, 236, 238, 239, 241, 242, 243, 246, 247, 248, 250, 251, 253, 254, 255, 257, 258, 260, 261, 262, 264, 265, 267, 268, 269, 271, 272, 274, 275, 276, 278, 279, 281, 282, 283, 285, 286, 288, 289, 290, 292, 293, 295, 296, 297, 299, 300, 302, 303, 304, 306, 307, 309, 310, 311, 312, 314, 315, 317, 318, 319, 321, 322, 324, 325, 326, 328, 329, 331, 332, 333, 335, 336, 338, 339, 340, 342, 343, 345, 346, 347, 348, 349, 350, 351, 352, 353, 354, 355, 356, 357, 358, 359, 360, 361, 362, 363, 364, 365, 366, 367, 368, 369, 370, 372, 373, 375, 376, 377, 379, 380, 382, 383, 384, 386, 387, 389, 390, 391, 393, 394, 396, 397, 398, 401, 402, 403, 406, 407, 408, 410, 411, 413, 414, 415, 418, 419, 420, 423, 424]
theorem asK_eq : ∀ P, asK = (kd.heap_1 P).map (·.1) := fun _ => by kernel_rfl
noncomputable abbrev hk : Hook := kmHook kd.heap_1 asK asK_eq [263]
noncomputable def getT (s : SharedT) (a : Addr) : Option Obj := match Nat.blt a s.n with
  | true => alive ((s.tree.get a).getD default)
  | false => none
theorem getT_eq (s : SharedT) (a : Addr) : s.abs.heap.get? a = getT s a := by
  unfold getT
  show (absHeap s.tree s.n s.life).get? a = _
  cases e : Nat.blt a s.n with
  | false => exact abs_get_none fun q => by rw [show Nat.blt a s.n = true from Nat.ble_eq_true_of_le q] at e; cases e
  | true =>
    have lt : a < s.n := Nat.le_of_ble_eq_true e
    unfold Heap.get?
    rw [absHeap_at, if_pos lt]
    obtain ⟨c, d, dt, sl⟩ := (s.tree.get a).getD default
    cases dt <;> rfl
theorem hl_0 (w : World) (os : OsState) : (endT PySem.Challenge.pw_iv0019_01 w 7220 os).map (fun s => (PySem.W.Fast.tw4187177175401517315 viewP [Str.ofString "ErrorCodes", Str.ofString "ProtocolError", Str.ofString "_tuplegetter", Str.ofString "SIGIL", Str.ofString "HeaderValidationFlags", Str.ofString "normalize_outbound_headers", Str.ofString "_law_blocks"] (importedModules PySem.Challenge.pw_iv0019_01.main.body) (fun s => xlAt viewP [(Str.ofString "SIGIL", WData.int 58)] s && recOk (RowW.records (OpenRow.toRowW (OpenLaw.row PySem.Challenge.rw_iv0019_01))) s) true s.abs).1) = some (expectedOf viewP) := by kernel_rfl
theorem hl_1 (w : World) (os : OsState) : (endT PySem.Challenge.pw_iv0019_01 w 7220 os).map (fun s => (staticsOk (importedModules PySem.Challenge.pw_iv0019_01.main.body) (boot_heap w.params) s.abs.heap && namesBound PySem.Challenge.pw_iv0019_01 s.abs.heap && gensDone s.abs && laidKept (boot_heap w.params) s.abs.heap, (PySem.W.Fast.tw4187177175401517315 viewP [Str.ofString "ErrorCodes", Str.ofString "ProtocolError", Str.ofString "_tuplegetter", Str.ofString "SIGIL", Str.ofString "HeaderValidationFlags", Str.ofString "normalize_outbound_headers", Str.ofString "_law_blocks"] (importedModules PySem.Challenge.pw_iv0019_01.main.body) (fun s => xlAt viewP [(Str.ofString "SIGIL", WData.int 58)] s && recOk (RowW.records (OpenRow.toRowW (OpenLaw.row PySem.Challenge.rw_iv0019_01))) s) true s.abs).2.1, (PySem.W.Fast.tw4187177175401517315 viewP [Str.ofString "ErrorCodes", Str.ofString "ProtocolError", Str.ofString "_tuplegetter", Str.ofString "SIGIL", Str.ofString "HeaderValidationFlags", Str.ofString "normalize_outbound_headers", Str.ofString "_law_blocks"] (importedModules PySem.Challenge.pw_iv0019_01.main.body) (fun s => xlAt viewP [(Str.ofString "SIGIL", WData.int 58)] s && recOk (RowW.records (OpenRow.toRowW (OpenLaw.row PySem.Challenge.rw_iv0019_01))) s) true s.abs).2.2.1, (PySem.W.Fast.tw4187177175401517315 viewP [Str.ofString "ErrorCodes", Str.ofString "ProtocolError", Str.ofString "_tuplegetter", Str.ofString "SIGIL", Str.ofString "HeaderValidationFlags", Str.ofString "normalize_outbound_headers", Str.ofString "_law_blocks"] (importedModules PySem.Challenge.pw_iv0019_01.main.body) (fun s => xlAt viewP [(Str.ofString "SIGIL", WData.int 58)] s && recOk (RowW.records (OpenRow.toRowW (OpenLaw.row PySem.Challenge.rw_iv0019_01))) s) true s.abs).2.2.2.1, (PySem.W.Fast.tw4187177175401517315 viewP [Str.ofString "ErrorCodes", Str.ofString "ProtocolError", Str.ofString "_tuplegetter", Str.ofString "SIGIL", Str.ofString "HeaderValidationFlags", Str.ofString "normalize_outbound_headers", Str.ofString "_law_blocks"] (importedModules PySem.Challenge.pw_iv0019_01.main.body) (fun s => xlAt viewP [(Str.ofString "SIGIL", WData.int 58)] s && recOk (RowW.records (OpenRow.toRowW (OpenLaw.row PySem.Challenge.rw_iv0019_01))) s) true s.abs).2.2.2.2.1)) = some (true, fstOf (sndOf (openGood viewP [Str.ofString "ErrorCodes", Str.ofString "ProtocolError", Str.ofString "_tuplegetter", Str.ofString "SIGIL", Str.ofString "HeaderValidationFlags", Str.ofString "normalize_outbound_headers", Str.ofString "_law_blocks"])), fstOf (sndOf (sndOf (openGood viewP [Str.ofString "ErrorCodes", Str.ofString "ProtocolError", Str.ofString "_tuplegetter", Str.ofString "SIGIL", Str.ofString "HeaderValidationFlags", Str.ofString "normalize_outbound_headers", Str.ofString "_law_blocks"]))), fstOf (sndOf (sndOf (sndOf (openGood viewP [Str.ofString "ErrorCodes", Str.ofString "ProtocolError", Str.ofString "_tuplegetter", Str.ofString "SIGIL", Str.ofString "HeaderValidationFlags", Str.ofString "normalize_outbound_headers", Str.ofString "_law_blocks"])))), fstOf (sndOf (sndOf (sndOf (sndOf (openGood viewP [Str.ofString "ErrorCodes", Str.ofString "ProtocolError", Str.ofString "_tuplegetter", Str.ofString "SIGIL", Str.ofString "HeaderValidationFlags", Str.ofString "normalize_outbound_headers", Str.ofString "_law_blocks"])))))) := by kernel_rfl
theorem hl_3 (w : World) (os : OsState) : (endT PySem.Challenge.pw_iv0019_01 w 7220 os).map (fun s => (PySem.W.Fast.tw4187177175401517315 viewP [Str.ofString "ErrorCodes", Str.ofString "ProtocolError", Str.ofString "_tuplegetter", Str.ofString "SIGIL", Str.ofString "HeaderValidationFlags", Str.ofString "normalize_outbound_headers", Str.ofString "_law_blocks"] (importedModules PySem.Challenge.pw_iv0019_01.main.body) (fun s => xlAt viewP [(Str.ofString "SIGIL", WData.int 58)] s && recOk (RowW.records (OpenRow.toRowW (OpenLaw.row PySem.Challenge.rw_iv0019_01))) s) true s.abs).2.2.2.2.2) = some (sndOf (sndOf (sndOf (sndOf (sndOf (openGood viewP [Str.ofString "ErrorCodes", Str.ofString "ProtocolError", Str.ofString "_tuplegetter", Str.ofString "SIGIL", Str.ofString "HeaderValidationFlags", Str.ofString "normalize_outbound_headers", Str.ofString "_law_blocks"])))))) := by kernel_rfl
theorem hl_2 (w : World) (os : OsState) : (endT PySem.Challenge.pw_iv0019_01 w 7220 os).map (fun s => (asK.map (getT s), [263].map (getT s))) = some (Hook.val hk w) := by kernel_rfl
theorem hl_y (s : SharedT) : Hook.obs hk s.abs = (asK.map (getT s), [263].map (getT s)) := by
  show (asK.map s.abs.heap.get?, [263].map s.abs.heap.get?) = _
  rw [show s.abs.heap.get? = getT s from funext (getT_eq s)]
local macro_rules | `(tactic| o_head $H) => `(tactic|
  (refine holds_open (q := viewP) (loose := [Str.ofString "ErrorCodes", Str.ofString "ProtocolError", Str.ofString "_tuplegetter", Str.ofString "SIGIL", Str.ofString "HeaderValidationFlags", Str.ofString "normalize_outbound_headers", Str.ofString "_law_blocks"])
    (Xt := (fun s => xlAt viewP [(Str.ofString "SIGIL", WData.int 58)] s && recOk (RowW.records (OpenRow.toRowW (OpenLaw.row PySem.Challenge.rw_iv0019_01))) s)) (XP := XL viewP [(Str.ofString "SIGIL", WData.int 58)]) (Yf := Hook.obs $H) (Ya := Hook.val $H) (YP := Hook.says $H) (N := 7220) ?hl
    (Hook.of $H) (Hook.keeps $H) (fun s e => xl_of s (Bool.and_eq_true_iff.mp e).1) XL.keeps (by rfl) (by rfl) (by rfl) (fun s e => recFacts_of (Bool.and_eq_true_iff.mp e).2) (by rfl) (by first | assumption | decide +kernel) (by decide +kernel) ⟨rfl, rfl, rfl, rfl, rfl, by decide +kernel⟩ ?hw ?hc
   case hl => exact hl_of (by kernel_rfl) (by kernel_rfl) (fun s => by kernel_rfl) hl_0 hl_1 hl_3 hl_y hl_2))
theorem hl_row : OpenRow.wellSaid (OpenLaw.row PySem.Challenge.rw_iv0019_01) = true := by rw [PySem.W.Fast.te17960256430627541270]; kernel_rfl
theorem hl_rest (h : OpenRow.wellSaid (OpenLaw.row PySem.Challenge.rw_iv0019_01) = true) : OpenLaw.wellSaid PySem.Challenge.rw_iv0019_01 = true := by
  unfold OpenLaw.wellSaid
  rw [h]
  kernel_rfl
local macro_rules | `(tactic| k_head) => `(tactic| o_head hk)
local macro_rules | `(tactic| o_law) => `(tactic| refine holds_law (hl_rest hl_row) fun said => ?_)
set_option maxHeartbeats 0 in
open_top hd for PySem.Challenge.rw_iv0019_01
end Mine

namespace Mine
open PySem PySem.W PySem.Calls PyProof.Rows

/-- what is known and never changes -/
noncomputable abbrev GH := Addr → Option Obj

noncomputable def tabs : List (Addr × Addr) := [(267,263),(260,256),(295,291)]
noncomputable def isTab (a : Addr) : Prop := a = 263 ∨ a = 256 ∨ a = 291

noncomputable def IsD (o : Obj) : Prop := ∃ es ep, o.data = .dict es ep
noncomputable def Sim (o o' : Obj) : Prop := o' = o ∨ (IsD o ∧ ∃ sl, o' = { o with slots := sl })
theorem Sim.refl (o : Obj) : Sim o o := .inl rfl
theorem Sim.trans {a b c : Obj} (x : Sim a b) (y : Sim b c) : Sim a c := by
  rcases x with rfl | ⟨hd, sl, rfl⟩
  · exact y
  · rcases y with rfl | ⟨_, sl', rfl⟩
    · exact .inr ⟨hd, sl, rfl⟩
    · exact .inr ⟨hd, sl', rfl⟩
theorem Sim.eq_of_not {o o' : Obj} (x : Sim o o') (h : ¬ IsD o) : o' = o := by
  rcases x with x | ⟨y, _⟩
  · exact x
  · exact absurd y h
theorem Sim.isD {o o' : Obj} (x : Sim o o') (h : IsD o) : IsD o' := by
  rcases x with rfl | ⟨⟨es, ep, e⟩, sl, rfl⟩
  · exact h
  · exact ⟨es, ep, e⟩

structure Ext (F : Addr → Prop) (K : Nat → Prop) (s s' : Shared) : Prop where
  live : ∀ a o, s.heap.get? a = some o → ∃ o', s'.heap.get? a = some o'
  old : ∀ a o, s.heap.get? a = some o → ¬ F a → ¬ isTab a → ∃ o', s'.heap.get? a = some o' ∧ Sim o o'
  dicts : ∀ a o, s.heap.get? a = some o → IsD o → ∃ o', s'.heap.get? a = some o' ∧ IsD o'
  gsize : s.gens.size ≤ s'.gens.size
  gens : ∀ g st, s.gens[g]? = some st → ¬ K g → s'.gens[g]? = some st
  os : s'.os = s.os

noncomputable abbrev No : Nat → Prop := fun _ => False

theorem Ext.refl (F K) (s : Shared) : Ext F K s s :=
  ⟨fun a o e => ⟨o, e⟩, fun a o e _ _ => ⟨o, e, .refl o⟩, fun a o e d => ⟨o, e, d⟩, Nat.le_refl _, fun _ _ e _ => e, rfl⟩
theorem gens_lt {s : Shared} {g : Nat} {st : GenState} (e : s.gens[g]? = some st) : g < s.gens.size := by
  rcases Nat.lt_or_ge g s.gens.size with h | h
  · exact h
  · rw [Array.getElem?_eq_none h] at e; cases e
theorem Ext.trans {F K F' K'} {s s' s'' : Shared} (x : Ext F K s s') (y : Ext F' K' s' s'')
    (hF : ∀ a, F' a → F a ∨ s.heap.get? a = none) (hK : ∀ g, K' g → K g ∨ s.gens.size ≤ g) : Ext F K s s'' where
  live := fun a o e => let ⟨o', e'⟩ := x.live a o e; y.live a o' e'
  old := fun a o e nf nt => by
    obtain ⟨o', e', z⟩ := x.old a o e nf nt
    obtain ⟨o'', e'', z'⟩ := y.old a o' e' (fun q => (hF a q).elim nf fun q => by rw [e] at q; cases q) nt
    exact ⟨o'', e'', z.trans z'⟩
  dicts := fun a o e d => by
    obtain ⟨o', e', d'⟩ := x.dicts a o e d
    exact y.dicts a o' e' d'
  gsize := Nat.le_trans x.gsize y.gsize
  gens := fun g st e nk => y.gens g st (x.gens g st e nk) fun q => (hK g q).elim nk fun q => absurd (gens_lt e) (Nat.not_lt.mpr q)
  os := y.os.trans x.os
theorem Ext.mono {F K F' K'} {s s' : Shared} (x : Ext F K s s') (hF : ∀ a, F a → F' a) (hK : ∀ g, K g → K' g) : Ext F' K' s s' :=
  ⟨x.live, fun a o e nf nt => x.old a o e (fun q => nf (hF a q)) nt, x.dicts, x.gsize, fun g st e nk => x.gens g st e fun q => nk (hK g q), x.os⟩
theorem Ext.of_keeps {F K} {s : Shared} {h' : Heap} {tk dr} (k : ∀ b o, s.heap.get? b = some o → h'.get? b = some o) : Ext F K s { s with heap := h', toks := tk, drawn := dr } :=
  ⟨fun a o e => ⟨o, k _ _ e⟩, fun a o e _ _ => ⟨o, k _ _ e, .refl o⟩, fun a o e d => ⟨o, k _ _ e, d⟩, Nat.le_refl _, fun _ _ e _ => e, rfl⟩
theorem Ext.dead {F K} {s s' : Shared} (x : Ext F K s s') {a : Addr} (h : s'.heap.get? a = none) : s.heap.get? a = none := by
  cases q : s.heap.get? a with
  | none => rfl
  | some o => obtain ⟨o', e⟩ := x.live a o q; rw [h] at e; cases e

noncomputable def CodeRecG (G : GH) (cd : Value) (q : Str) : Prop := ∃ c oc vs t, cd = .ref c ∧ G c = some oc ∧ oc.data = .fields vs ∧ vs[1]? = some (.str q t)

noncomputable abbrev topK (w : World) : Frag := kd.heap_1 w.params

/-- the place of the one nested def -/
noncomputable def innerPos : Nat × Nat := (321, 4)
noncomputable def innerQual : Str := "_check_path_header.<locals>.inner"

noncomputable def TabOk (G : GH) (P : Addr) (ps : Array Value) : Prop :=
  TriplesOk ps.toList ∧ (P = 263 → ∀ pos : Pos, pos.line = innerPos.1 → pos.col = innerPos.2 → ∀ c', codeAmong pos ps.toList = some c' → CodeRecG G c' innerQual)

structure Base (w : World) (g₀ : Heap) : Prop where
  K : (topK w).In g₀
  T : ∃ loose mean mg mb, Top topProg loose mean mg mb g₀
  C : ∀ q ∈ tabs, CodeHd g₀ q.1 q.2

noncomputable def HIn (g : Heap) (G : GH) : Prop := ∀ b o, g.get? b = some o → G b = some o

structure Wld (w : World) (G : GH) (s : Shared) : Prop where
  sub : ∀ a o, G a = some o → s.heap.get? a = some o
  base : ∃ g₀, Base w g₀ ∧ HIn g₀ G
  tab : ∀ q ∈ tabs, G q.2 = none ∧ ∃ ps, s.heap.get? q.2 = some (tabObj ps) ∧ TabOk G q.2 ps
  bare : AllBare s.gens

structure Grow (w : World) (F : Addr → Prop) (K : Nat → Prop) (G : GH) (s : Shared) (G' : GH) (s' : Shared) : Prop where
  ext : Ext F K s s'
  wld : Wld w G' s'
  sub : ∀ a o, G a = some o → G' a = some o
  new : ∀ a o, G' a = some o → G a = some o ∨ s.heap.get? a = none

noncomputable abbrev Pure : Addr → Prop := fun _ => False

theorem Grow.refl {w F K G s} (W : Wld w G s) : Grow w F K G s G s := ⟨.refl _ _ _, W, fun _ _ e => e, fun _ _ e => .inl e⟩
theorem Grow.trans {w F K F' K' G s G' s' G'' s''} (x : Grow w F K G s G' s') (y : Grow w F' K' G' s' G'' s'')
    (hF : ∀ a, F' a → F a ∨ s.heap.get? a = none) (hK : ∀ g, K' g → K g ∨ s.gens.size ≤ g) : Grow w F K G s G'' s'' where
  ext := x.ext.trans y.ext hF hK
  wld := y.wld
  sub := fun a o e => y.sub a o (x.sub a o e)
  new := fun a o e => (y.new a o e).elim (x.new a o) fun h => .inr (x.ext.dead h)
theorem Grow.mono {w F K F' K' G s G' s'} (x : Grow w F K G s G' s') (hF : ∀ a, F a → F' a) (hK : ∀ g, K g → K' g) : Grow w F' K' G s G' s' :=
  ⟨x.ext.mono hF hK, x.wld, x.sub, x.new⟩
theorem Grow.pur {w F K G s G' s'} (x : Grow w Pure No G s G' s') : Grow w F K G s G' s' := x.mono (fun _ h => h.elim) (fun _ h => h.elim)
theorem Grow.trans' {w F K G s G' s' G'' s''} (x : Grow w F K G s G' s') (y : Grow w F K G' s' G'' s'') : Grow w F K G s G'' s'' :=
  x.trans y (fun _ h => .inl h) (fun _ h => .inl h)
theorem Grow.gnone {w F K G s G' s'} (x : Grow w F K G s G' s') {a : Addr} {o : Obj} (h : G a = none) (hl : s.heap.get? a = some o) : G' a = none := by
  cases q : G' a with
  | none => rfl
  | some o => rcases x.new a o q with e | e
              · rw [h] at e; cases e
              · rw [hl] at e; cases e

/-- only the heap grew, by objects that we do not care for -/
theorem Wld.keeps {w G s h' tk dr} (W : Wld w G s) (k : ∀ b o, s.heap.get? b = some o → h'.get? b = some o) : Wld w G { s with heap := h', toks := tk, drawn := dr } :=
  ⟨fun a o e => k _ _ (W.sub a o e), W.base, fun q hq => let ⟨a, ps, b, c⟩ := W.tab q hq; ⟨a, ps, k _ _ b, c⟩, W.bare⟩
theorem Grow.keeps {w F K G s h' tk dr} (W : Wld w G s) (k : ∀ b o, s.heap.get? b = some o → h'.get? b = some o) :
    Grow w F K G s G { s with heap := h', toks := tk, drawn := dr } :=
  ⟨.of_keeps k, W.keeps k, fun _ _ e => e, fun _ _ e => .inl e⟩
theorem Grow.toks {w F K G s tk} (W : Wld w G s) : Grow w F K G s G { s with toks := tk } := Grow.keeps (h' := s.heap) (dr := s.drawn) W (fun _ _ e => e)

theorem TabOk.mono {G G' : GH} {P ps} (h : ∀ a o, G a = some o → G' a = some o) (x : TabOk G P ps) : TabOk G' P ps :=
  ⟨x.1, fun e pos h1 h2 c' hc => let ⟨c, oc, vs, t, a, b, r⟩ := x.2 e pos h1 h2 c' hc; ⟨c, oc, vs, t, a, h _ _ b, r⟩⟩

/-- a new object becomes known -/
noncomputable def GH.add (G : GH) (a : Addr) (o : Obj) : GH := fun b => if b = a then some o else G b
theorem Wld.add {w G s a o} (W : Wld w G s) (h : s.heap.get? a = some o) (hn : G a = none) (ht : ¬ isTab a) : Wld w (G.add a o) s where
  sub := fun b ob e => by
    unfold GH.add at e
    split at e
    · rename_i q; cases e; rw [q]; exact h
    · exact W.sub b ob e
  base := let ⟨g₀, b, i⟩ := W.base; ⟨g₀, b, fun c oc e => by
    unfold GH.add
    split
    · rename_i q; rw [q] at e; rw [i _ _ e] at hn; cases hn
    · exact i _ _ e⟩
  tab := fun q hq => by
    obtain ⟨h1, ps, h2, h3⟩ := W.tab q hq
    refine ⟨?_, ps, h2, h3.mono fun b ob e => ?_⟩
    · unfold GH.add
      split
      · rename_i e
        exfalso; apply ht
        rw [← e]
        simp only [tabs, List.mem_cons, List.not_mem_nil, or_false] at hq
        rcases hq with rfl | rfl | rfl <;> simp [isTab]
      · exact h1
    · unfold GH.add
      split
      · rename_i q; rw [q, hn] at e; cases e
      · exact e
  bare := W.bare
theorem GH.add_sub {G : GH} {a : Addr} {o : Obj} (hn : G a = none) : ∀ b ob, G b = some ob → G.add a o b = some ob := fun b ob e => by
  unfold GH.add
  split
  · rename_i q; rw [q, hn] at e; cases e
  · exact e
theorem GH.add_self {G : GH} {a : Addr} {o : Obj} : G.add a o a = some o := by unfold GH.add; rw [if_pos rfl]

theorem tab_live {w G s} (W : Wld w G s) {a : Addr} (h : isTab a) : ∃ o, s.heap.get? a = some o := by
  rcases h with rfl | rfl | rfl
  · obtain ⟨_, _, e, _⟩ := W.tab (267,263) (by simp [tabs]); exact ⟨_, e⟩
  · obtain ⟨_, _, e, _⟩ := W.tab (260,256) (by simp [tabs]); exact ⟨_, e⟩
  · obtain ⟨_, _, e, _⟩ := W.tab (295,291) (by simp [tabs]); exact ⟨_, e⟩
theorem Wld.fresh {w G s} (W : Wld w G s) {a : Addr} (h : s.heap.get? a = none) : G a = none := by
  cases q : G a with
  | none => rfl
  | some o => have := W.sub _ _ q; rw [h] at this; cases this
theorem Wld.ntab {w G s} (W : Wld w G s) {a : Addr} (h : s.heap.get? a = none) : ¬ isTab a := fun t => by
  obtain ⟨o, e⟩ := tab_live W t; rw [h] at e; cases e
theorem end_dead (h : Heap) : h.get? h.objs.size = none := Heap.get?_none_of_le (Nat.le_refl _)

/-- one object is pushed and becomes known -/
theorem Grow.push {w F K G s o tk} (W : Wld w G s) (hf : o.isFreed = false) :
    Grow w F K G s (G.add s.heap.objs.size o) { s with heap := s.heap.push o, toks := tk } := by
  have k : ∀ b ob, s.heap.get? b = some ob → (s.heap.push o).get? b = some ob := fun b ob e => Heap.get?_push_of_some o e
  have hn := W.fresh (end_dead s.heap)
  refine ⟨.of_keeps (dr := s.drawn) k, ?_, GH.add_sub hn, fun a oa e => ?_⟩
  · exact (W.keeps (dr := s.drawn) k).add (Heap.get?_push_size _ hf) hn (W.ntab (end_dead s.heap))
  · unfold GH.add at e
    split at e
    · rename_i q; exact .inr (by rw [q]; exact end_dead s.heap)
    · exact .inl e
/-- one object is pushed, not to be known (it will change) -/
theorem Grow.push0 {w F K G s o tk} (W : Wld w G s) : Grow w F K G s G { s with heap := s.heap.push o, toks := tk } :=
  Grow.keeps (dr := s.drawn) W (fun b ob e => Heap.get?_push_of_some o e)

-- room
structure Rm (n : Nat) (A : Around) : Prop where
  handled : A.handled = none
  depth : A.depth + n ≤ 990
  units : A.units + 12 * n ≤ 9880
  guards : A.guards = some []
theorem Rm.le {n m A} (x : Rm n A) (h : m ≤ n) : Rm m A := ⟨x.handled, by have := x.depth; omega, by have := x.units; omega, x.guards⟩
theorem Rm.in1 {n A} (x : Rm (n+1) A) : Rm n A.in1 := ⟨x.handled, by have := x.depth; simp; omega, by have := x.units; simp; omega, x.guards⟩
theorem Rm.deeper {n A env} (x : Rm (n+1) A) : Rm n (A.deeper env) := ⟨x.handled, by have := x.depth; simp [Around.deeper]; omega, by have := x.units; simp; omega, x.guards⟩
theorem Rm.room {n A} (x : Rm n A) : A.depth < recursionLimit := by have := x.depth; simp [recursionLimit]; omega
theorem Rm.line {n A} (x : Rm n A) : A.units < cLine := by have := x.units; simp [cLine]; omega

noncomputable def Frames (G : GH) (s : Shared) (l : List Env) : Prop :=
  ∀ env ∈ l, env.scope.kind ≠ .module ∧ ∃ L o, env.frame = some L ∧ G L = none ∧ s.heap.get? L = some o ∧ IsD o
theorem Frames.grow {w F K G s G' s' l} (x : Frames G s l) (g : Grow w F K G s G' s') : Frames G' s' l := fun env he =>
  let ⟨hk, L, o, hf, hn, ho, hd⟩ := x env he
  let ⟨o', ho', hd'⟩ := g.ext.dicts L o ho hd
  ⟨hk, L, o', hf, g.gnone hn ho, ho', hd'⟩

end Mine

namespace Mine
open PySem PySem.W PySem.Calls PyProof.Rows

noncomputable abbrev B := Array UInt8

inductive PV where
  | none
  | bool (b : Bool)
  | int (i : Int)
  | byt (b : B)
  | str (s : Str)
  | tup (l : List PV)
  | lst (l : List PV)
  | flg (a b c d : Bool)
  | oth (v : Value)
  | gen (a g : Nat)
  | any
  | obj (F : Obj → Prop) (t : Bool)

mutual
noncomputable def Rep (G : GH) : PV → Value → Prop
  | .none, v => v = .none
  | .bool b, v => v = .bool b
  | .int i, v => ∃ t, v = .int i t
  | .byt b, v => ∃ t, v = .bytes b t
  | .str x, v => ∃ t, v = .str x t
  | .tup l, v => ∃ a vs ep, v = .ref a ∧ G a = some { cls := .type "tuple", data := .seq vs ep } ∧ RepL G l vs.toList
  | .lst l, v => ∃ a vs ep, v = .ref a ∧ G a = some { cls := .type "list", data := .seq vs ep } ∧ RepL G l vs.toList
  | .flg a b c d, v => ∃ x ep dx, v = .ref x ∧ G x = some { cls := .ref 190, dict := some dx, data := .seq #[.bool a, .bool b, .bool c, .bool d] ep } ∧ G dx = some { cls := .type "dict", data := .dict #[] }
  | .oth x, v => v = x
  | .any, _ => True
  | .obj F _, v => ∃ a o, v = .ref a ∧ G a = some o ∧ F o
  | .gen a g, v => v = .ref a ∧ ∃ t1 t2, G a = some { cls := .type "generator", data := .fields #[.int g 0, t1, t2] }
noncomputable def RepL (G : GH) : List PV → List Value → Prop
  | [], vs => vs = []
  | p :: ps, vs => ∃ v r, vs = v :: r ∧ Rep G p v ∧ RepL G ps r
end

mutual
theorem Rep.mono {G G' : GH} (h : ∀ a o, G a = some o → G' a = some o) : ∀ {p v}, Rep G p v → Rep G' p v
  | .none, _, x => x
  | .bool _, _, x => x
  | .int _, _, x => x
  | .byt _, _, x => x
  | .str _, _, x => x
  | .tup l, _, x => by
    unfold Rep at x ⊢
    obtain ⟨a, vs, ep, e, g, r⟩ := x
    exact ⟨a, vs, ep, e, h _ _ g, RepL.mono h r⟩
  | .lst l, _, x => by
    unfold Rep at x ⊢
    obtain ⟨a, vs, ep, e, g, r⟩ := x
    exact ⟨a, vs, ep, e, h _ _ g, RepL.mono h r⟩
  | .flg .., _, x => by
    unfold Rep at x ⊢
    obtain ⟨a, ep, dx, e, g, g2⟩ := x
    exact ⟨a, ep, dx, e, h _ _ g, h _ _ g2⟩
  | .oth _, _, x => x
  | .any, _, x => x
  | .obj F _, _, x => by
    unfold Rep at x ⊢
    obtain ⟨a, o, e, g, f⟩ := x
    exact ⟨a, o, e, h _ _ g, f⟩
  | .gen _ _, _, x => by
    unfold Rep at x ⊢
    obtain ⟨e, t1, t2, g⟩ := x
    exact ⟨e, t1, t2, h _ _ g⟩
theorem RepL.mono {G G' : GH} (h : ∀ a o, G a = some o → G' a = some o) : ∀ {ps vs}, RepL G ps vs → RepL G' ps vs
  | [], _, x => x
  | p :: ps, _, x => by
    unfold RepL at x ⊢
    obtain ⟨v, r, e, a, b⟩ := x
    exact ⟨v, r, e, Rep.mono h a, RepL.mono h b⟩
end
theorem RepL.nil {G : GH} : RepL G [] [] := by unfold RepL; rfl
theorem RepL.cons {G : GH} {p ps v vs} (a : Rep G p v) (b : RepL G ps vs) : RepL G (p :: ps) (v :: vs) := by unfold RepL; exact ⟨v, vs, rfl, a, b⟩
theorem RepL.length {G : GH} : ∀ {ps vs}, RepL G ps vs → vs.length = ps.length
  | [], vs, x => by unfold RepL at x; subst x; rfl
  | p :: ps, vs, x => by unfold RepL at x; obtain ⟨v, r, rfl, _, b⟩ := x; simp [RepL.length b]
theorem RepL.append {G : GH} : ∀ {ps vs qs us}, RepL G ps vs → RepL G qs us → RepL G (ps ++ qs) (vs ++ us)
  | [], vs, qs, us, x, y => by unfold RepL at x; subst x; exact y
  | p :: ps, vs, qs, us, x, y => by
    unfold RepL at x; obtain ⟨v, r, rfl, a, b⟩ := x
    exact RepL.cons a (RepL.append b y)
theorem RepL.get {G : GH} : ∀ {ps : List PV} {vs : List Value}, RepL G ps vs → ∀ {i : Nat} {p}, ps[i]? = some p → ∃ v, vs[i]? = some v ∧ Rep G p v
  | [], vs, x, i, p, e => by simp at e
  | q :: ps, vs, x, 0, p, e => by
    unfold RepL at x; obtain ⟨v, r, rfl, a, b⟩ := x
    simp at e; subst e; exact ⟨v, by simp, a⟩
  | q :: ps, vs, x, i+1, p, e => by
    unfold RepL at x; obtain ⟨v, r, rfl, a, b⟩ := x
    simp at e
    obtain ⟨v', h1, h2⟩ := RepL.get b e
    exact ⟨v', by simpa using h1, h2⟩
theorem RepL.take {G : GH} : ∀ {ps vs} (n : Nat), RepL G ps vs → RepL G (ps.take n) (vs.take n)
  | [], vs, n, x => by unfold RepL at x; subst x; simp; exact .nil
  | p :: ps, vs, 0, x => by simp; exact .nil
  | p :: ps, vs, n+1, x => by
    unfold RepL at x; obtain ⟨v, r, rfl, a, b⟩ := x
    simp; exact .cons a (RepL.take n b)
theorem RepL.drop {G : GH} : ∀ {ps vs} (n : Nat), RepL G ps vs → RepL G (ps.drop n) (vs.drop n)
  | [], vs, n, x => by unfold RepL at x; subst x; simp; exact .nil
  | p :: ps, vs, 0, x => x
  | p :: ps, vs, n+1, x => by
    unfold RepL at x; obtain ⟨v, r, rfl, a, b⟩ := x
    simp; exact RepL.drop n b

/-- an object of one's own that will change -/
inductive OwnD where
  | list (l : List PV)
  | obj (F : Obj → Prop) (t : Bool)

structure Lcl where
  vars : List (Str × PV)
  own : Option (Str × OwnD) := none

noncomputable def Lcl.set (Γ : Lcl) (x : Str) (p : PV) : Lcl := { Γ with vars := (x, p) :: Γ.vars }

noncomputable def OwnIs (G : GH) (o : Obj) : OwnD → Prop
  | .list l => ∃ vs ep, o = { cls := .type "list", data := .seq vs ep } ∧ RepL G l vs.toList
  | .obj F _ => F o

noncomputable def OwnOk (env : Env) (O : Option Addr) (own : Option (Str × OwnD)) (m : Str → Option Value) (G : GH) (s : Shared) : Prop :=
  match own with
  | none => True
  | some (x, d) => ∃ a o, O = some a ∧ env.kindOf x = some .local ∧ m x = some (.ref a) ∧ s.heap.get? a = some o ∧ OwnIs G o d

noncomputable def Reads (env : Env) (m : Str → Option Value) (G : GH) (x : Str) (v : Value) : Prop :=
  (env.kindOf x = some .local ∧ m x = some v) ∨
  ((env.kindOf x = some .cell ∨ env.kindOf x = some .free) ∧ (x == ("__classdict__" : Str)) = false ∧ ∃ c o, env.cells.lookup x = some c ∧ G c = some o ∧ o.data = .cell (some v))

structure Good (w : World) (A : Around) (env : Env) (O : Option Addr) (Γ : Lcl) (G : GH) (s : Shared) : Prop where
  wld : Wld w G s
  frames : ∃ l, A.frames = some l ∧ Frames G s l
  kind : env.scope.kind = .function
  globals : env.globals = mainGlobals
  builtins : env.builtins = builtinsNs
  fresh : G env.locals = none
  ntab : ¬ isTab env.locals
  oown : ∀ a, O = some a → G a = none ∧ a ≠ env.locals ∧ ¬ isTab a ∧ ∃ o, s.heap.get? a = some o ∧ ¬ IsD o ∧ ∀ vs, o.data ≠ .fields vs
  vars : ∃ m, s.heap.Ns env.locals m ∧ (∀ x p, Γ.vars.lookup x = some p → ∃ v, Reads env m G x v ∧ Rep G p v) ∧ OwnOk env O Γ.own m G s

theorem Ns.sim {h h' : Heap} {a : Addr} {m} (x : h.Ns a m) (k : ∀ o, h.get? a = some o → ∃ o', h'.get? a = some o' ∧ Sim o o') : h'.Ns a m := by
  obtain ⟨o, es, ep, e, hd, r⟩ := x
  obtain ⟨o', e', sm⟩ := k o e
  rcases sm with rfl | ⟨_, sl, rfl⟩
  · exact ⟨_, es, ep, e', hd, r⟩
  · exact ⟨_, es, ep, e', hd, r⟩

theorem Reads.mono {env m G G' x v} (h : ∀ a o, G a = some o → G' a = some o) (r : Reads env m G x v) : Reads env m G' x v := by
  rcases r with r | ⟨k, nc, c, o, a, b, d⟩
  · exact .inl r
  · exact .inr ⟨k, nc, c, o, a, h _ _ b, d⟩
theorem OwnIs.mono {G G' : GH} (h : ∀ a o, G a = some o → G' a = some o) {o d} (x : OwnIs G o d) : OwnIs G' o d := by
  cases d with
  | list l => obtain ⟨vs, ep, e, r⟩ := x; exact ⟨vs, ep, e, r.mono h⟩
  | obj F t => exact x

/-- a step that touches neither the locals nor the own object -/
theorem Good.grow {w A env O Γ G s F K G' s'} (x : Good w A env O Γ G s) (g : Grow w F K G s G' s') (hL : ¬ F env.locals) (hO : ∀ a, O = some a → ¬ F a) : Good w A env O Γ G' s' := by
  obtain ⟨m, hm, hv, ho⟩ := x.vars
  obtain ⟨l, hl, hfr⟩ := x.frames
  refine ⟨g.wld, ⟨l, hl, hfr.grow g⟩, x.kind, x.globals, x.builtins, g.gnone x.fresh hm.choose_spec.choose_spec.choose_spec.1, x.ntab, fun a ha => ?_, m, Ns.sim hm fun o e => g.ext.old _ o e hL x.ntab, fun y p e => ?_, ?_⟩
  · obtain ⟨h1, h2, h3, o, h4, h5⟩ := x.oown a ha
    obtain ⟨o', e', sm⟩ := g.ext.old a o h4 (hO a ha) h3
    rw [sm.eq_of_not h5.1] at e'
    exact ⟨g.gnone h1 h4, h2, h3, o, e', h5⟩
  · obtain ⟨v, r, rp⟩ := hv y p e
    exact ⟨v, r.mono g.sub, rp.mono g.sub⟩
  · unfold OwnOk at ho ⊢
    split
    · trivial
    · rename_i own y d eq
      rw [eq] at ho
      obtain ⟨a, o, h1, h2, h3, h4, h5⟩ := ho
      obtain ⟨_, _, h3', o₂, h4', h5'⟩ := x.oown a h1
      rw [h4] at h4'; cases h4'
      obtain ⟨o', e', sm⟩ := g.ext.old a o h4 (hO a h1) h3'
      rw [sm.eq_of_not h5'.1] at e'
      exact ⟨a, o, h1, h2, h3, e', h5.mono g.sub⟩
theorem Good.pur {w A env O Γ G s G' s'} (x : Good w A env O Γ G s) (g : Grow w Pure No G s G' s') : Good w A env O Γ G' s' := x.grow g (fun h => h) (fun _ _ h => h)

/-- an evaluation that changes nothing that is there -/
noncomputable def Ev (prog : Program) (w : World) (n : Nat) (env : Env) (Γ : Lcl) {α : Type} (t : Sem α) (Q : GH → α → Prop) : Prop :=
  ∀ A O G s, Rm n A → Good w A env O Γ G s → wpAny (model prog w) A t (fun v s' => ∃ G', Grow w Pure No G s G' s' ∧ Q G' v) (fun _ _ => False) s

noncomputable abbrev EvP (prog : Program) (w : World) (n : Nat) (env : Env) (Γ : Lcl) (e : Expr) (p : PV) : Prop := Ev prog w n env Γ (eval e env) (fun G v => Rep G p v)

section
variable {prog : Program} {w : World} {n : Nat} {env : Env} {Γ : Lcl}

theorem Ev.use {α : Type} {t : Sem α} {Q : GH → α → Prop} {A : Around} {O : Option Addr} {G : GH} {s : Shared} {P : α → Shared → Prop} {E : Value → Shared → Prop}
    (h : Ev prog w n env Γ t Q) (hr : Rm n A) (g : Good w A env O Γ G s)
    (k : ∀ v G' s', Grow w Pure No G s G' s' → Good w A env O Γ G' s' → Q G' v → P v s') : wpAny (model prog w) A t P E s :=
  wpAny_mono (h A O G s hr g) (fun v s' ⟨G', g', q⟩ => k v G' s' g' (g.pur g') q) fun _ _ q => q.elim

/-- name of a local -/
theorem ev_name {x : Str} {pos : Pos} {p : PV} (h : Γ.vars.lookup x = some p) (hd : (x == ("__debug__" : Str)) = false := by decide) : EvP prog w n env Γ (.Name x pos) p := by
  intro A O G s hr g
  obtain ⟨m, hm, hv, _⟩ := g.vars
  obtain ⟨v, r, rp⟩ := hv x p h
  refine wpAny_Name ?_ hd
  rcases r with ⟨hl, hv⟩ | ⟨hk | hk, nc, c, o, hc, ho, hdt⟩
  · exact wpAny_loadName_local g.kind hl hm hv ⟨G, .refl g.wld, rp⟩
  · exact wpAny_loadName_cell g.kind hk hc ⟨o, g.wld.sub _ _ ho, hdt⟩ ⟨G, .refl g.wld, rp⟩
  · exact wpAny_loadName_free g.kind hk hc ⟨o, g.wld.sub _ _ ho, hdt⟩ ⟨G, .refl g.wld, rp⟩ nc

/-- name of a thing of the module -/
theorem ev_global {x : Str} {pos : Pos} {p : PV} {v : Value} (hk : env.kindOf x = some .globalImplicit) (e : nsIn (topK w) mainGlobals x = some (some v)) (hp : ∀ G, (∀ a o, (topK w).lookup a = some o → G a = some o) → Rep G p v)
    (hd : (x == ("__debug__" : Str)) = false := by decide) : EvP prog w n env Γ (.Name x pos) p := by
  intro A O G s hr g
  obtain ⟨g₀, b, hi⟩ := g.wld.base
  obtain ⟨_, _, mg, mb, T⟩ := b.T
  have kp : ∀ a o, g₀.get? a = some o → s.heap.get? a = some o := fun a o e => g.wld.sub _ _ (hi _ _ e)
  refine Name_function_global g.kind hk ?_ hd
  refine loadGlobal_global (mg := mg) (v := v) ?_ (mg_of b.K T.g e) ?_
  · rw [g.globals]; exact T.g.keeps kp
  · exact ⟨G, .refl g.wld, hp G fun a o e => hi _ _ (b.K a o e)⟩

theorem ev_builtin {x : Str} {pos : Pos} {v : Value} (hk : env.kindOf x = some .globalImplicit) (e : nsIn (topK w) mainGlobals x = some none) (hb : bootBuiltins x = some v) (hn : x ≠ "__name__")
    (hd : (x == ("__debug__" : Str)) = false := by decide) : EvP prog w n env Γ (.Name x pos) (.oth v) := by
  intro A O G s hr g
  obtain ⟨g₀, b, hi⟩ := g.wld.base
  obtain ⟨_, _, mg, mb, T⟩ := b.T
  have kp : ∀ a o, g₀.get? a = some o → s.heap.get? a = some o := fun a o e => g.wld.sub _ _ (hi _ _ e)
  refine Name_function_global g.kind hk ?_ hd
  refine loadGlobal_builtin (mg := mg) (mb := mb) (v := v) ?_ (mg_none_of b.K T.g e) ?_ ((T.builtins x hn).trans hb) ?_
  · rw [g.globals]; exact T.g.keeps kp
  · rw [g.builtins]; exact T.b.keeps kp
  · exact ⟨G, .refl g.wld, by unfold Rep; rfl⟩
end

end Mine

namespace Mine
open PySem PySem.W PySem.Calls PyProof.Rows

/-- one object that may change is changed -/
theorem Grow.upd {w F K G₀ s₀ G s T oT tk} {f : Obj → Obj} (x : Grow w F K G₀ s₀ G s) (hT : F T ∨ s₀.heap.get? T = none) (hG : G T = none) (ht : ¬ isTab T) (ho : s.heap.get? T = some oT)
    (hf : (f oT).isFreed = false) (hd : IsD oT → IsD (f oT)) : Grow w F K G₀ s₀ G { s with heap := s.heap.update T f, toks := tk } := by
  have self := Heap.get?_update_self f ho hf
  have ne : ∀ b, b ≠ T → (s.heap.update T f).get? b = s.heap.get? b := fun b hb => Heap.get?_update_other _ _ (Ne.symm hb)
  refine ⟨⟨fun a o e => ?_, fun a o e nf nt => ?_, fun a o e d => ?_, x.ext.gsize, x.ext.gens, x.ext.os⟩, ⟨fun a o e => ?_, x.wld.base, fun q hq => ?_, x.wld.bare⟩, x.sub, x.new⟩
  · obtain ⟨o', e'⟩ := x.ext.live a o e
    by_cases hb : a = T
    · subst hb; exact ⟨_, self⟩
    · exact ⟨o', (ne a hb).trans e'⟩
  · obtain ⟨o', e', sm⟩ := x.ext.old a o e nf nt
    by_cases hb : a = T
    · subst hb
      exact hT.elim (fun h => absurd h nf) fun h => by rw [h] at e; cases e
    · exact ⟨o', (ne a hb).trans e', sm⟩
  · obtain ⟨o', e', d'⟩ := x.ext.dicts a o e d
    by_cases hb : a = T
    · subst hb; rw [ho] at e'; cases e'; exact ⟨_, self, hd d'⟩
    · exact ⟨o', (ne a hb).trans e', d'⟩
  · have hb : a ≠ T := fun q => by rw [q, hG] at e; cases e
    exact (ne a hb).trans (x.wld.sub _ _ e)
  · obtain ⟨h1, ps, h2, h3⟩ := x.wld.tab q hq
    have hb : q.2 ≠ T := fun e => ht (by
      rw [← e]; simp only [tabs, List.mem_cons, List.not_mem_nil, or_false] at hq
      rcases hq with rfl | rfl | rfl <;> simp [isTab])
    exact ⟨h1, ps, (ne _ hb).trans h2, h3⟩

/-- a ProtocolError on its way; fl: what its newest traceback says, none: it has none yet -/
inductive ErrC (G : GH) (h₀ h : Heap) (x : Value) (fl : Option Value) : Prop
  | mk (e : Addr) (oe : Obj) (vs : Array Value) (a0 : Value) (h1 : x = .ref e) (h2 : h₀.get? e = none) (h3 : G e = none) (h4 : h.get? e = some oe) (h5 : oe.cls = .ref 58 ∧ oe.dict = none) (h6 : oe.data = .fields vs) (h7 : vs[0]? = some a0) (h8 : 1 < vs.size)
      (h9 : match fl with
        | none => vs[1]? = some .none
        | some f => ∃ T oT ts, vs[1]? = some (.ref T) ∧ T ≠ e ∧ h₀.get? T = none ∧ G T = none ∧ h.get? T = some oT ∧ oT.data = .fields ts ∧ ts[3]? = some f)
noncomputable def Err (G : GH) (h₀ : Heap) (s : Shared) (x : Value) (fl : Option Value) : Prop := ErrC G h₀ s.heap x fl

theorem not_isD {o : Obj} {vs} (h : o.data = .fields vs) : ¬ IsD o := fun ⟨es, ep, e⟩ => by rw [h] at e; cases e

theorem Err.start {G h₀ h₁ s x fl} (e : Err G h₁ s x fl) (h : ∀ a o, h₀.get? a = some o → ∃ o', h₁.get? a = some o') : Err G h₀ s x fl := by
  have dead : ∀ a, h₁.get? a = none → h₀.get? a = none := fun a q => by
    cases r : h₀.get? a with
    | none => rfl
    | some o => obtain ⟨o', e'⟩ := h a o r; rw [q] at e'; cases e'
  obtain ⟨e, oe, vs, a0, h1, h2, h3, h4, h5, h6, h7, h8, h9⟩ := e
  refine ⟨e, oe, vs, a0, h1, dead _ h2, h3, h4, h5, h6, h7, h8, ?_⟩
  cases fl with
  | none => exact h9
  | some f =>
    obtain ⟨T, oT, ts, k1, k2, k3, k4⟩ := h9
    exact ⟨T, oT, ts, k1, k2, dead _ k3, k4⟩

/-- what an exception on its way may change: itself and its tracebacks, none of which was there at the start -/
noncomputable abbrev EF (h₀ : Heap) (s : Shared) : Addr → Prop := fun a => h₀.get? a = none ∧ ∃ o vs, s.heap.get? a = some o ∧ o.data = .fields vs
noncomputable abbrev EStep (w : World) (h₀ : Heap) (G : GH) (s s' : Shared) : Prop := Grow w (EF h₀ s) No G s G s'

theorem EStep.grow {w F K G₀ s₀ G s s'} (x : EStep w s₀.heap G s s') (g : Grow w F K G₀ s₀ G s) : Grow w F K G₀ s₀ G s' :=
  g.trans x (fun _ h => .inr h.1) (fun _ h => h.elim)
theorem Good.estep {w A env O Γ G s s' h₀} (gd : Good w A env O Γ G s) (x : EStep w h₀ G s s') : Good w A env O Γ G s' := by
  refine gd.grow x (fun ⟨_, o, vs, ho, hd⟩ => ?_) fun a ha ⟨_, o, vs, ho, hd⟩ => ?_
  · obtain ⟨m, ⟨oL, es, ep, hL, hdL, _⟩, _⟩ := gd.vars
    rw [ho] at hL; cases hL; rw [hd] at hdL; cases hdL
  · obtain ⟨_, _, _, o', ho', _, hn⟩ := gd.oown a ha
    rw [ho] at ho'; cases ho'; exact hn _ hd

section
variable {M : Model} {A : Around} {E : Value → Shared → Prop} {w : World} {G : GH} {h₀ : Heap} {s : Shared} {env : Env} {outer : List Env} {L : Addr} {x : Value}

theorem funFrames_of {base : Heap} : ∀ {l : List Env}, Frames G s l → (∀ env ∈ l, ∀ L, env.frame = some L → base.get? L = none) → s.heap.FunFrames base l
  | [], _, _ => trivial
  | env :: l, h, k => by
    obtain ⟨h1, L, o, h2, h3, h4, es, ep, h5⟩ := h env (.head _)
    exact ⟨h1, ⟨L, o, h2, k env (.head _) L h2, h4, fun vs q => by rw [h5] at q; cases q⟩, funFrames_of (fun e he => h e (.tail _ he)) fun e he => k e (.tail _ he)⟩

/-- what stays when an exception notes the frames on the stack -/
theorem noted_grow {l : List Env} {base h' : Heap} {e : Addr} {oe oe' : Obj} (W : Wld w G s) (fr : Frames G s l)
    (hb : base = hideAll s.heap (e :: l.filterMap (·.frame))) (he0 : h₀.get? e = none) (hGe : G e = none)
    (he : s.heap.get? e = some oe) (hde : ∃ vs, oe.data = .fields vs) (hce : oe.cls = .ref 58) (he' : h'.get? e = some oe')
    (k1 : base.StaysIn h') (k4 : ∀ b o, s.heap.get? b = some o → (∀ vs, o.data ≠ .fields vs) → ∃ sl, h'.get? b = some { o with slots := sl }) :
    EStep w h₀ G s { s with heap := h' } ∧ ∀ T' oT', base.get? T' = none → h'.get? T' = some oT' → (∃ vs, oT'.data = .fields vs) → T' ≠ e → s.heap.get? T' = none := by
  subst hb
  have frm : ∀ b, b ∈ l.filterMap (·.frame) → G b = none ∧ ∃ o, s.heap.get? b = some o ∧ IsD o := fun b hb => by
    obtain ⟨env, he, hf⟩ := List.mem_filterMap.mp hb
    obtain ⟨_, L, o, h2, h3, h4, h5⟩ := fr env he
    rw [hf] at h2; cases h2
    exact ⟨h3, o, h4, h5⟩
  have keep : ∀ b o, s.heap.get? b = some o → b ≠ e → b ∉ l.filterMap (·.frame) → h'.get? b = some o := fun b o hb n1 n3 =>
    k1 b o (hideAll_get _ hb (by simp only [List.mem_cons, not_or]; exact ⟨n1, n3⟩))
  have frk : ∀ b o, s.heap.get? b = some o → IsD o → ∃ sl, h'.get? b = some { o with slots := sl } := fun b o hb ⟨es, ep, hd⟩ => k4 b o hb fun vs q => by rw [hd] at q; cases q
  refine ⟨⟨⟨fun a o q => ?_, fun a o q nf nt => ?_, fun a o q d => ?_, Nat.le_refl _, fun _ _ q _ => q, rfl⟩, ⟨fun a o q => ?_, W.base, fun q hq => ?_, W.bare⟩, fun _ _ q => q, fun _ _ q => .inl q⟩, fun T' oT' n h3 h4 h5 => ?_⟩
  · by_cases n1 : a = e
    · exact ⟨_, n1 ▸ he'⟩
    · by_cases hm : a ∈ l.filterMap (·.frame)
      · obtain ⟨_, o2, e2, d2⟩ := frm a hm
        obtain ⟨sl, e3⟩ := frk a o2 e2 d2
        exact ⟨_, e3⟩
      · exact ⟨o, keep a o q n1 hm⟩
  · have n1 : a ≠ e := fun r => nf ⟨r ▸ he0, oe, let ⟨vs, hv⟩ := hde; ⟨vs, r ▸ he, hv⟩⟩
    by_cases hm : a ∈ l.filterMap (·.frame)
    · obtain ⟨_, o2, e2, d2⟩ := frm a hm
      rw [q] at e2; cases e2
      obtain ⟨sl, e3⟩ := frk a o q d2
      exact ⟨_, e3, .inr ⟨d2, sl, rfl⟩⟩
    · exact ⟨o, keep a o q n1 hm, .refl o⟩
  · obtain ⟨sl, e3⟩ := frk a o q d
    obtain ⟨es, ep, hd⟩ := d
    exact ⟨_, e3, es, ep, hd⟩
  · have hs := W.sub a o q
    refine keep a o hs (fun r => by rw [r, hGe] at q; cases q) fun hm => ?_
    rw [(frm a hm).1] at q; cases q
  · obtain ⟨h1, ps, h2, h3⟩ := W.tab q hq
    refine ⟨h1, ps, keep _ _ h2 (fun r => ?_) fun hm => ?_, h3⟩
    · rw [r, he] at h2; cases h2; cases hce
    · obtain ⟨_, o2, e2, es, ep, d2⟩ := frm _ hm
      rw [h2] at e2; cases e2; cases d2
  · by_cases hm : T' ∈ e :: l.filterMap (·.frame)
    · simp only [List.mem_cons] at hm
      rcases hm with r | r
      · exact absurd r h5
      · obtain ⟨_, o2, e2, d2⟩ := frm _ r
        obtain ⟨sl, e3⟩ := frk _ _ e2 d2
        rw [h3] at e3; cases e3
        obtain ⟨vs, hv⟩ := h4
        obtain ⟨es, ep, hd⟩ := d2
        exact absurd (hd.symm.trans hv) (by simp)
    · cases q : s.heap.get? T' with
      | none => rfl
      | some o => rw [hideAll_get _ q hm] at n; cases n

/-- the tables were there -/
noncomputable def Tabd (h₀ : Heap) : Prop := ∀ a, isTab a → ∃ o, h₀.get? a = some o
theorem Wld.tabd (W : Wld w G s) : Tabd s.heap := fun _ h => tab_live W h

/-- a traceback's field is set -/
theorem tb_set {T : Addr} {oT : Obj} {f : Obj → Obj} (W : Wld w G s) (t0 : Tabd h₀) (hT0 : h₀.get? T = none) (hGT : G T = none) (hT : s.heap.get? T = some oT) (hdT : ∃ ts, oT.data = .fields ts) (hf : ∃ ts, (f oT).data = .fields ts) :
    EStep w h₀ G s { s with heap := s.heap.update T f } := by
  obtain ⟨ts, hts⟩ := hf
  obtain ⟨ts0, hts0⟩ := hdT
  have ht : ¬ isTab T := fun q => by obtain ⟨o, r⟩ := t0 T q; rw [hT0] at r; cases r
  exact (Grow.refl W).upd (tk := s.toks) (.inl ⟨hT0, oT, ts0, hT, hts0⟩) hGT ht hT (Obj.isFreed_of_fields hts) fun q => absurd q (not_isD hts0)

theorem EStep.trans {s' s'' : Shared} (t0 : Tabd h₀) (x : EStep w h₀ G s s') (y : EStep w h₀ G s' s'') : EStep w h₀ G s s'' := by
  refine Grow.trans x y (fun a ⟨h1, o, vs, h2, h3⟩ => ?_) fun _ h => .inl h
  cases q : s.heap.get? a with
  | none => exact .inr rfl
  | some o' =>
    left
    refine ⟨h1, o', ?_⟩
    by_cases hd : IsD o'
    · obtain ⟨o2, e2, es, ep, d2⟩ := x.ext.dicts a o' q hd
      rw [h2] at e2; cases e2; rw [h3] at d2; cases d2
    · by_cases hf : EF h₀ s a
      · obtain ⟨_, o3, vs3, e3, d3⟩ := hf
        rw [q] at e3; cases e3
        exact ⟨vs3, q, d3⟩
      · have ht : ¬ isTab a := fun t => by obtain ⟨o3, e3⟩ := t0 a t; rw [h1] at e3; cases e3
        obtain ⟨o2, e2, sm⟩ := x.ext.old a o' q hf ht
        rw [sm.eq_of_not hd, h2] at e2; cases e2
        exact ⟨vs, q, h3⟩

noncomputable def Alive (h₀ : Heap) (s : Shared) : Prop := ∀ a o, h₀.get? a = some o → ∃ o', s.heap.get? a = some o'
theorem Alive.dead {h₀ : Heap} {s : Shared} (x : Alive h₀ s) {a : Addr} (h : s.heap.get? a = none) : h₀.get? a = none := by
  cases q : h₀.get? a with
  | none => rfl
  | some o => obtain ⟨o', e⟩ := x a o q; rw [h] at e; cases e
theorem Alive.estep {s' : Shared} (x : Alive h₀ s) (g : EStep w h₀ G s s') : Alive h₀ s' := fun a o e => let ⟨o', e'⟩ := x a o e; g.ext.live a o' e'

theorem Frames.estep {s' l} (x : Frames G s l) (g : EStep w h₀ G s s') : Frames G s' l := x.grow g

/-- a traceback's entry is made; the exception's own dict stays what it was -/
theorem entry_own {base : Heap} {e : Addr} {oe : Obj} {vs : Array Value} {head a0 : Value} {hadNext : Bool} {Q : Unit → Shared → Prop} (hfr : A.frames = some (env :: outer)) (hl : s.heap.FunFrames base (env :: outer)) (hf : env.frame = some L)
    (he : s.heap.get? e = some oe) (hkb : base.StaysIn s.heap) (hen : base.get? e = none) (hd : oe.data = .fields vs) (hsz : 1 < vs.size) (h0 : vs[0]? = some a0)
    (h : ∀ h', Heap.NotedW base (env :: outer) e oe.cls a0 (rawInt L) s.heap h' → (∀ o, h'.get? e = some o → o.dict = oe.dict) → Q () { s with heap := h' }) :
    wpAny M A (do let a ← frameOf env; let pl ← entryPlaceOf L hadNext; let b ← EntryCells.newEntry head a .none (rawInt L) .none pl; setField (.ref e) 1 b) Q E s := by
  have hne : e ∉ (env :: outer).filterMap (·.frame) := fun hm => by
    obtain ⟨_, o, ho, hnf⟩ := hl.mem hm
    rw [he] at ho; cases ho; exact hnf vs hd
  refine wpAny_bind (wpAny_frameOf_fun hfr hl hf fun h₁ hs₁ => wpAny_bind (wpAny_entryPlaceOf fun pl hpl => ?_))
  unfold EntryCells.newEntry newFields
  refine wpAny_bind (wpAny_newObj_type ?_ (hpl.sizeOk5 _ _ _ _ _))
  generalize hob : ({ cls := .type "traceback", dict := none, data := .fields ([head, .ref L, .none, rawInt L, .none] ++ (if pl.isEmpty then List.replicate 6 Value.none else pl)).toArray } : Obj) = ob
  have he₁ : h₁.get? e = some oe := (hs₁.2.1 e hne).trans he
  have kb₁ : base.StaysIn h₁ := fun b o q => (hs₁.2.1 b fun hm => by rw [(hl.mem hm).1] at q; cases q).trans (hkb b o q)
  have he₂ := Heap.get?_push_of_some (h := h₁) ob he₁
  have ne : h₁.objs.size ≠ e := Nat.ne_of_gt (Heap.lt_size he₁)
  have hd₃ := Obj.data_mapFields hd (·.setIfInBounds 1 (Value.ref h₁.objs.size))
  have he₃ := Heap.get?_update_self (Obj.mapFields (·.setIfInBounds 1 (Value.ref h₁.objs.size))) he₂ (Obj.isFreed_of_fields hd₃)
  have other : ∀ b, b ≠ e → ((h₁.push ob).update e (Obj.mapFields (·.setIfInBounds 1 (Value.ref h₁.objs.size)))).get? b = (h₁.push ob).get? b := fun b hb => Heap.get?_update_other _ _ (Ne.symm hb)
  have keep : ∀ b o, b ≠ e → h₁.get? b = some o → ((h₁.push ob).update e (Obj.mapFields (·.setIfInBounds 1 (Value.ref h₁.objs.size)))).get? b = some o := fun b o hb q => (other b hb).trans (Heap.get?_push_of_some _ q)
  have hT := (other _ ne).trans (Heap.get?_push_size h₁ (o := ob) (by rw [← hob]; rfl))
  have apart : ∀ b o, s.heap.get? b = some o → (∀ vs, o.data ≠ .fields vs) → b ≠ e := fun b o q nf r => by rw [r, he] at q; cases q; exact nf vs hd
  have hdict : ∀ g : Array Value → Array Value, (Obj.mapFields g oe).dict = oe.dict := fun g => by unfold Obj.mapFields; split <;> rfl
  refine wpAny_setField he₂ hd hsz (h _ ⟨fun b o q => keep b o (fun r => by rw [r, hen] at q; cases q) (kb₁ b o q), hl.of_keeps fun b o q nf => ?_, ⟨_, _, h₁.objs.size, ob, ([head, .ref L, .none, rawInt L, .none] ++ (if pl.isEmpty then List.replicate 6 Value.none else pl)).toArray, he₃, ⟨Obj.cls_mapFields _ _, ?_⟩, hd₃, ?_, kb₁.fresh, ne, hT, ?_, ?_⟩, fun b o q nf => ?_⟩ fun o q => ?_)
  · obtain ⟨sl, r⟩ := hs₁.2.2 b o q
    exact ⟨_, keep b _ (apart b o q nf) r, rfl⟩
  · rw [Array.getElem?_setIfInBounds_ne (by decide)]; exact h0
  · simp [hsz]
  · rw [← hob]
  · first
      | (simp; done)
      | (rcases hpl with rfl | ⟨_, _, _, _, _, _, _, rfl⟩ <;> simp)
  · obtain ⟨sl, r⟩ := hs₁.2.2 b o q
    exact ⟨sl, keep b _ (apart b o q nf) r⟩
  · rw [he₃] at q; cases q; exact hdict _

theorem err_note {fl : Option Value} {Q : Unit → Shared → Prop} (W : Wld w G s) (t0 : Tabd h₀) (al : Alive h₀ s) (hfr : A.frames = some (env :: outer)) (fr : Frames G s (env :: outer)) (hf : env.frame = some L)
    (x9 : Err G h₀ s x fl) (hfl : fl = none ∨ fl = some .none)
    (h : ∀ h', EStep w h₀ G s { s with heap := h' } → Err G h₀ { s with heap := h' } x (some (rawInt L)) → Q () { s with heap := h' }) : wpAny M A (noteFrame x env) Q E s := by
  obtain ⟨e, oe, vs, a0, rfl, he0, hGe, he, hcls, hd, h0, hsz, h9⟩ := x9
  have fin : ∀ (s1 : Shared), Wld w G s1 → Frames G s1 (env :: outer) → s1.heap.get? e = some oe → EStep w h₀ G s s1 → (∀ b, s1.heap.get? b = none → h₀.get? b = none) → (∀ b, s1.heap.get? b = none → G b = none) →
      ∀ h', Heap.NotedW (hideAll s1.heap (e :: (env :: outer).filterMap (·.frame))) (env :: outer) e oe.cls a0 (rawInt L) s1.heap h' → (∀ o, h'.get? e = some o → o.dict = oe.dict) → s1 = { s with heap := s1.heap } → Q () { s with heap := h' } := by
    intro s1 W1 fr1 he1 st dead gdead h' hN hD hs1
    obtain ⟨k1, k2, ⟨oe', vs', T', oT', ts', q1, ⟨q2, q3⟩, q4, q5, q6, q7, q8, q9, q10⟩, k4⟩ := hN
    obtain ⟨gr, nw⟩ := noted_grow (h₀ := h₀) W1 fr1 rfl he0 hGe he1 ⟨_, hd⟩ hcls.1 q1 k1 k4
    have n1 := nw T' oT' q6 q8 ⟨_, q9⟩ q7
    have e1 : ({ s1 with heap := h' } : Shared) = { s with heap := h' } := by rw [hs1]
    rw [e1] at gr
    refine h h' (st.trans t0 gr) ⟨e, oe', vs', a0, rfl, he0, hGe, q1, ⟨q2.trans hcls.1, (hD _ q1).trans hcls.2⟩, q4, q3, (Array.getElem?_eq_some_iff.mp q5).1, T', oT', ts', q5, q7, dead _ n1, gdead _ n1, q8, q9, q10⟩
  have ff : ∀ s1 : Shared, Frames G s1 (env :: outer) → s1.heap.FunFrames (hideAll s1.heap (e :: (env :: outer).filterMap (·.frame))) (env :: outer) := fun s1 fr1 =>
    funFrames_of fr1 fun env he L hL => hideAll_none _ (List.mem_cons_of_mem _ (List.mem_filterMap.mpr ⟨env, he, hL⟩))
  have stay : ∀ (h1 : Heap) l, (hideAll h1 l).StaysIn h1 := fun h1 l b o q => of_hideAll _ q
  have en : ∀ (h1 : Heap) l, (hideAll h1 (e :: l)).get? e = none := fun h1 l => hideAll_none _ (.head _)
  cases fl with
  | none =>
    have h1 : vs[1]? = some .none := h9
    unfold noteFrame
    simp only [hf]
    refine wpAny_bind (wpAny_field he hd h1 ?_)
    rw [if_neg (by decide)]
    exact entry_own hfr (ff s fr) hf he (stay _ _) (en _ _) hd hsz h0 fun h' hN hD => fin s W fr he (.refl W) (fun b q => al.dead q) (fun b q => W.fresh q) h' hN hD rfl
  | some f =>
    have hf' : f = .none := hfl.elim (fun q => by cases q) fun q => by cases q; rfl
    subst hf'
    obtain ⟨T, oT, ts, h1, hTe, hT0, hGT, hT, hdT, h3⟩ := h9
    unfold noteFrame
    simp only [hf]
    refine wpAny_bind (wpAny_field he hd h1 ?_)
    rw [if_pos (show (Value.ref T != Value.none) = true from by simp)]
    refine wpAny_bind (wpAny_field hT hdT h3 ?_)
    rw [if_neg (show ¬ ((Value.none == rawInt L) = true) from by simp [rawInt])]
    refine wpAny_bind (wpAny_setField hT hdT (Array.getElem?_eq_some_iff.mp h3).1 ?_)
    have st1 : EStep w h₀ G s { s with heap := s.heap.update T (Obj.mapFields (·.setIfInBounds 3 Value.none)) } := tb_set W t0 hT0 hGT hT ⟨_, hdT⟩ ⟨_, Obj.data_mapFields hdT _⟩
    have he1 : (s.heap.update T (Obj.mapFields (·.setIfInBounds 3 Value.none))).get? e = some oe := (Heap.get?_update_other _ _ hTe).trans he
    have al1 := al.estep st1
    exact entry_own (s := { s with heap := s.heap.update T (Obj.mapFields (·.setIfInBounds 3 Value.none)) }) hfr (ff { s with heap := _ } (fr.estep st1)) hf he1 (stay _ _) (en _ _) hd hsz h0
      fun h' hN hD => fin _ st1.wld (fr.estep st1) he1 st1 (fun b q => al1.dead q) (fun b q => st1.wld.fresh q) h' hN hD rfl

theorem err_note_again {Q : Unit → Shared → Prop} (hf : env.frame = some L) (x9 : Err G h₀ s x (some (rawInt L))) (h : Q () s) : wpAny M A (noteFrame x env) Q E s := by
  obtain ⟨e, oe, vs, a0, rfl, he0, hGe, he, hcls, hd, h0, hsz, T, oT, ts, h1, hTe, hT0, hGT, hT, hdT, h3⟩ := x9
  unfold noteFrame
  simp only [hf]
  refine wpAny_bind (wpAny_field he hd h1 ?_)
  rw [if_pos (show (Value.ref T != Value.none) = true from by simp)]
  refine wpAny_bind (wpAny_field hT hdT h3 ?_)
  rw [if_pos (show (rawInt L == rawInt L) = true from by simp)]
  exact wpAny_pure h

theorem err_flight {f : Value} {fr : Option Addr} {Q : Unit → Shared → Prop} (W : Wld w G s) (t0 : Tabd h₀) (x9 : Err G h₀ s x (some f))
    (h : ∀ h', EStep w h₀ G s { s with heap := h' } → Err G h₀ { s with heap := h' } x (some (fr.elim .none fun a => rawInt a)) → Q () { s with heap := h' }) : wpAny M A (setFlight x fr) Q E s := by
  obtain ⟨e, oe, vs, a0, rfl, he0, hGe, he, hcls, hd, h0, hsz, T, oT, ts, h1, hTe, hT0, hGT, hT, hdT, h3⟩ := x9
  unfold setFlight
  refine wpAny_bind (wpAny_field he hd h1 ?_)
  rw [if_pos (show (Value.ref T != Value.none) = true from by simp)]
  have hsz3 : 3 < ts.size := (Array.getElem?_eq_some_iff.mp h3).1
  refine wpAny_setField hT hdT hsz3 ?_
  have hd' := Obj.data_mapFields hdT (·.setIfInBounds 3 (fr.elim Value.none fun a => rawInt a))
  refine h _ (tb_set W t0 hT0 hGT hT ⟨_, hdT⟩ ⟨_, hd'⟩) ⟨e, oe, vs, a0, rfl, he0, hGe, ?_, hcls, hd, h0, hsz, T, _, _, h1, hTe, hT0, hGT, Heap.get?_update_self _ hT (Obj.isFreed_of_fields hd'), hd', by simp [hsz3]⟩
  exact (Heap.get?_update_other _ _ hTe).trans he

theorem err_leaving {fl : Option Value} {Q : Unit → Shared → Prop} (W : Wld w G s) (t0 : Tabd h₀) (al : Alive h₀ s) (hfr : A.frames = some (env :: outer)) (fr : Frames G s (env :: outer)) (hf : env.frame = some L)
    (x9 : Err G h₀ s x fl) (hfl : fl = none ∨ fl = some .none ∨ fl = some (rawInt L))
    (h : ∀ h', EStep w h₀ G s { s with heap := h' } → Err G h₀ { s with heap := h' } x (some .none) → Q () { s with heap := h' }) : wpAny M A (leaving env x) Q E s := by
  unfold leaving
  rcases hfl with hfl | hfl | hfl
  · refine wpAny_bind (err_note W t0 al hfr fr hf x9 (.inl hfl) fun h' g' e' => ?_)
    exact err_flight (fr := none) g'.wld t0 e' fun h'' g'' e'' => h h'' (g'.trans t0 g'') e''
  · refine wpAny_bind (err_note W t0 al hfr fr hf x9 (.inr hfl) fun h' g' e' => ?_)
    exact err_flight (fr := none) g'.wld t0 e' fun h'' g'' e'' => h h'' (g'.trans t0 g'') e''
  · subst hfl
    refine wpAny_bind (err_note_again hf x9 ?_)
    exact err_flight (fr := none) W t0 x9 h

end
end Mine

namespace Mine
open PySem PySem.W PySem.Calls PyProof.Rows

section
variable {M : Model} {A : Around} {c : Code} {fs : List Frame} {s : Shared}

noncomputable abbrev QY := Value → (Resume → Sem Fin) → Code → List Frame → Shared → Prop

noncomputable def RunEnd (Qy : QY) (Qr : Result → Shared → Prop) (e : PySem.End) (s' : Shared) : Prop :=
  match e with
  | .ret r => Qr r s'
  | .susp v g l k c' p' fs' => (End.susp v g l k c' p' fs').quiet = true ∧ Qy v k c' fs' s'

/-- from here to the next yield or to the end -/
noncomputable def Run1 (M : Model) (A : Around) (c : Code) (t : Sem Fin) (fs : List Frame) (s : Shared) (Qy : QY) (Qr : Result → Shared → Prop) : Prop :=
  ∀ Γ p, Γ.code = c → Γ.Woken A → ∃ e s', Runs M Γ p t fs s e s' ∧ RunEnd Qy Qr e s'

variable {Qy : QY} {Qr : Result → Shared → Prop}

theorem run_wrap {α : Type} {m : Sem α} {K : α → Sem Fin} {H : Value → Sem Fin} {gd lv}
    (h : wpAny M (A.over c fs) m (fun a s' => Run1 M A c (K a) fs s' Qy Qr) (fun x s' => Run1 M A c (H x) fs s' Qy Qr) s) : Run1 M A c (m.wrap K H gd lv) fs s Qy Qr := by
  rintro Γ p rfl hΓ
  obtain ⟨e, s', h1, h2⟩ := runs_wrap_of_wp (Φ := RunEnd Qy Qr) K H gd lv m (h (Γ.over fs) p (hΓ.over fs)) (fun a p' s' h' => h' Γ p' rfl hΓ) (fun x p' s' h' => h' Γ p' rfl hΓ)
  exact ⟨e, s', h1, h2⟩

theorem run_at {p' : Pos} {k : Unit → Sem Fin} (h : Run1 M A c (k ()) fs s Qy Qr) : Run1 M A c (.at p' k) fs s Qy Qr :=
  run_wrap (m := standAt p') (K := k) (H := .raise) (gd := id) (lv := id) (wpAny_standAt h)
theorem run_point {l : List Value} {k : Unit → Sem Fin} (h : Run1 M A c (k ()) fs s Qy Qr) : Run1 M A c (.point l k) fs s Qy Qr :=
  run_wrap (m := point) (K := k) (H := .raise) (gd := id) (lv := fun _ => l) (wpAny_point h)

theorem run_call {c' : Code} {h g l} {k : Result → Sem Fin} (hc : ∀ p, Run1 M A c' (M.den c') (.ret k h g l c p [] :: fs) s Qy Qr) : Run1 M A c (.call c' h g l k) fs s Qy Qr := by
  rintro Γ p rfl hΓ
  obtain ⟨e, s', hr, he⟩ := hc p (Γ.goto c') p rfl (hΓ.goto c')
  exact ⟨e, s', runs_call_seg hr, he⟩

theorem run_leaf {k h g l c₁ p₁ kp} (r : Result) (hk : Run1 M A c₁ (k r) fs s Qy Qr) : Run1 M A c (leafOf r) (.ret k h g l c₁ p₁ kp :: fs) s Qy Qr := by
  rintro Γ p rfl hΓ
  obtain ⟨e, s', hr, he⟩ := hk (Γ.goto c₁) p₁ rfl (hΓ.goto c₁)
  exact ⟨e, s', Runs.pop r hr, he⟩

theorem run_again {c' : Code} (hq : c'.quiet = true) (hc : Run1 M A c' (M.den c') fs s Qy Qr) : Run1 M A c (.pure (.again c')) fs s Qy Qr := by
  rintro Γ p rfl hΓ
  obtain ⟨e, s', hr, he⟩ := hc (Γ.goto c') p rfl (hΓ.goto c')
  exact ⟨e, s', Runs.head (c₁ := c') (fun _ _ x => .again hq x) hr, he⟩

theorem run_end (r : Result) (h : Qr r s) : Run1 M A c (leafOf r) [] s Qy Qr := by
  rintro Γ p rfl _
  exact ⟨.ret r, s, Runs.leaf r, h⟩

theorem run_yield {v g l} {k : Resume → Sem Fin} (hfs : splitAtGen fs = none) (hg : g = false) (hfg : fs.any Frame.guarded = false) (h : Qy v k c fs s) : Run1 M A c (.yield v g l k) fs s Qy Qr := by
  rintro Γ p rfl _
  exact ⟨_, s, Runs.yield' fs hfs, by simp [End.quiet, hg, hfg], h⟩

/-- the state of a generator, woken -/
noncomputable def Woke (M : Model) (A : Around) (gs : GenState) (s : Shared) (Qy : QY) (Qr : Result → Shared → Prop) : Prop :=
  match gs with
  | .fresh c => Run1 M A c (M.den c) [] s Qy Qr
  | .suspended k _ c _ fs _ => Run1 M A c (k (.send .none)) fs s Qy Qr
  | _ => False

theorem wpAny_wake {E : Value → Shared → Prop} {g : Nat} {gs : GenState} {l : List Value} {α : Type} {k : GenResult → Sem α} {Q : α → Shared → Prop} (hg : s.gens[g]? = some gs)
    (hgo : Woke M A gs (s.setGen g .running) Qy Qr)
    (hR : ∀ x s₁, Qr x s₁ → wpAny M A (k (End.ret x).result) Q E (s₁.setGen g .finished))
    (hY : ∀ v k' c' fs' s₁ l' p' b, (GenState.suspended k' l' c' p' fs' b).bare = true → Qy v k' c' fs' s₁ → wpAny M A (k (.yielded v)) Q E (s₁.setGen g (.suspended k' l' c' p' fs' b))) :
    wpAny M A (.resume g (.send .none) l k) Q E s := by
  intro Γ p hΓ
  rw [Sem.wp_resume]
  have hB : ∀ c, (Γ.wake c p).Woken A := fun c => hΓ.wake c p
  have fin : ∀ e₁ s₁, RunEnd Qy Qr e₁ s₁ →
      Sem.wp M Γ (k e₁.result) (fun a _ s' => Q a s') (fun e _ s' => E e s') p (s₁.setGen g e₁.genState) := by
    intro e₁ s₁ he
    cases e₁ with
    | ret x => exact hR x s₁ he Γ p hΓ
    | susp v g₀ l₀ k₀ c₀ p₀ fs₀ => exact hY v k₀ c₀ fs₀ s₁ l₀ p₀ _ (End.bare_of_quiet he.1) he.2 Γ p hΓ
  have hqt : ∀ e₁ s₁, RunEnd Qy Qr e₁ s₁ → e₁.quiet = true := by
    intro e₁ s₁ he
    cases e₁ with
    | ret x => rfl
    | susp v g₀ l₀ k₀ c₀ p₀ fs₀ => exact he.1
  cases gs with
  | fresh c =>
    obtain ⟨e₁, s₁, hr, he⟩ := hgo (Γ.wake c p) p rfl (hB c)
    exact ⟨_, _, by unfold Wakes; rw [hg]; exact ⟨e₁, s₁, hr, hqt e₁ s₁ he, rfl, rfl⟩, fin e₁ s₁ he⟩
  | suspended k₀ l₀ c₀ p₀ fs₀ cl =>
    obtain ⟨e₁, s₁, hr, he⟩ := hgo (Γ.wake c₀ p) p₀ rfl (hB c₀)
    exact ⟨_, _, by unfold Wakes; rw [hg]; exact ⟨e₁, s₁, hr, hqt e₁ s₁ he, rfl, rfl⟩, fin e₁ s₁ he⟩
  | running => exact hgo.elim
  | finished => exact hgo.elim
end

/-- how it ends -/
inductive End' where
  | done
  | err

/-- the stack around: room, and its frames alive -/
structure Cx (n : Nat) (A : Around) (G : GH) (s : Shared) : Prop where
  rm : Rm n A
  fr : ∃ l, A.frames = some l ∧ Frames G s l
theorem Cx.grow {n A G s w F K G' s'} (x : Cx n A G s) (g : Grow w F K G s G' s') : Cx n A G' s' := ⟨x.rm, let ⟨l, h, f⟩ := x.fr; ⟨l, h, f.grow g⟩⟩
theorem Cx.le {n m A G s} (x : Cx n A G s) (h : m ≤ n) : Cx m A G s := ⟨x.rm.le h, x.fr⟩

/-- all this is there -/
noncomputable def There (F : Addr → Prop) (K : Nat → Prop) (s : Shared) : Prop := (∀ a, F a → ∃ o, s.heap.get? a = some o) ∧ ∀ k, K k → k < s.gens.size
theorem There.grow {F K s w F' K' G G' s'} (x : There F K s) (g : Grow w F' K' G s G' s') : There F K s' :=
  ⟨fun a h => let ⟨o, e⟩ := x.1 a h; g.ext.live a o e, fun k h => Nat.lt_of_lt_of_le (x.2 k h) g.ext.gsize⟩

/-- what the iterator hands out is not its own -/
noncomputable def LetGo (prog : Program) (w : World) (it v : Value) (s : Shared) : Prop := ∀ (tgt : Expr) (A : Around) (Q : Unit → Shared → Prop) (E : Value → Shared → Prop), Q () s → wpAny (model prog w) A (letOwnedTupleGo tgt it v) Q E s
theorem letGo_of {prog : Program} {w : World} {s : Shared} {a : Addr} {o : Obj} {n : String} {vs : Array Value} {v : Value} (ho : s.heap.get? a = some o) (hc : o.cls = .type n) (hd : o.data = .fields vs)
    (hn : ["enumerate", "zip", "dict_itemiterator", "dict_reverseitemiterator", "odict_iterator", "itertools.zip_longest", "itertools.pairwise"].contains n = false) : LetGo prog w (.ref a) v s := by
  intro tgt A Q E h
  have key : wpAny (model prog w) A (match ((.ref a, v) : Value × Value) with
      | (.ref r, .ref a) => load r >>= fun o => match o.cls, o.data with
        | .type n, .fields vs =>
          if (["enumerate", "zip", "dict_itemiterator", "dict_reverseitemiterator", "odict_iterator", "itertools.zip_longest", "itertools.pairwise"].contains n && vs[0]? == some (rawInt a)) = true then
            rule "for.unpacks-the-owned-tuple" >>= fun _ => updateField r 0 .none
          else pure ()
        | _, _ => pure ()
      | _ => pure () : Sem Unit) Q E s := by
    cases v with
    | ref b =>
      refine wpAny_bind (wpAny_load ho ?_)
      rw [hc, hd]
      simp only [hn, Bool.false_and, Bool.false_eq_true, if_false]
      exact wpAny_pure h
    | _ => exact wpAny_pure h
  cases tgt with
  | Tuple _ _ _ => exact key
  | List _ _ => exact key
  | _ => exact wpAny_pure h

/-- what an iterator does when it hands out o -/
inductive EmS (prog : Program) (w : World) (it : Value) (o : PV) (FP : Addr → Prop) (GP : Nat → Prop) (P : (Addr → Prop) → (Nat → Prop) → GH → Shared → Prop) (G₁ : GH) (s₁ : Shared) (r : Option Value) (s₂ : Shared) : Prop
  | mk (v : Value) (G₂ : GH) (FP' : Addr → Prop) (GP' : Nat → Prop) (e1 : r = some v) (rp : Rep G₂ o v) (g : Grow w FP GP G₁ s₁ G₂ s₂)
      (f1 : ∀ a, FP a → FP' a) (f2 : ∀ g, GP g → GP' g) (f3 : ∀ a, FP' a → FP a ∨ s₁.heap.get? a = none) (f4 : ∀ g, GP' g → GP g ∨ s₁.gens.size ≤ g) (th : There FP' GP' s₂) (lg : LetGo prog w it v s₂) (em : P FP' GP' G₂ s₂)

/-- an iterator that hands out just these and then ends so; FP, GP: what it may change and what it leans on beside G -/
noncomputable def Em (prog : Program) (w : World) (n : Nat) (it : Value) : List PV → End' → (Addr → Prop) → (Nat → Prop) → GH → Shared → Prop
  | [], e, FP, GP, G, s => ∀ A G₁ s₁, Grow w (fun a => ¬ FP a) (fun g => ¬ GP g) G s G₁ s₁ → Cx n A G₁ s₁ →
      wpAny (model prog w) A (pyNext it) (fun r s₂ => r = none ∧ e = .done ∧ ∃ G₂, Grow w FP GP G₁ s₁ G₂ s₂)
        (fun x s₂ => e = .err ∧ ∃ G₂, Grow w FP GP G₁ s₁ G₂ s₂ ∧ Err G₂ s₁.heap s₂ x (some .none)) s₁
  | o :: outs, e, FP, GP, G, s => ∀ A G₁ s₁, Grow w (fun a => ¬ FP a) (fun g => ¬ GP g) G s G₁ s₁ → Cx n A G₁ s₁ →
      wpAny (model prog w) A (pyNext it) (fun r s₂ => EmS prog w it o FP GP (Em prog w n it outs e) G₁ s₁ r s₂)
        (fun _ _ => False) s₁

theorem Em.later {prog w n it e FP GP} : ∀ {outs G s G₁ s₁}, Em prog w n it outs e FP GP G s → Grow w (fun a => ¬ FP a) (fun g => ¬ GP g) G s G₁ s₁ → Em prog w n it outs e FP GP G₁ s₁
  | [], _, _, _, _, h, g => fun A G₂ s₂ g' cx => h A G₂ s₂ (g.trans' g') cx
  | _ :: _, _, _, _, _, h, g => fun A G₂ s₂ g' cx => h A G₂ s₂ (g.trans' g') cx

/-- what a generator does when it yields o -/
inductive SgS (w : World) (o : PV) (FP : Addr → Prop) (GP : Nat → Prop) (G₀ : GH) (s₀ : Shared) (P : (Addr → Prop) → (Nat → Prop) → GH → Prop) (v : Value) (s₂ : Shared) : Prop
  | mk (G₂ : GH) (FP' : Addr → Prop) (GP' : Nat → Prop) (rp : Rep G₂ o v) (g : Grow w FP GP G₀ s₀ G₂ s₂)
      (f1 : ∀ a, FP a → FP' a) (f2 : ∀ g, GP g → GP' g) (f3 : ∀ a, FP' a → FP a ∨ s₀.heap.get? a = none) (f4 : ∀ g, GP' g → GP g ∨ s₀.gens.size ≤ g) (th : There FP' GP' s₂) (k : P FP' GP' G₂)

/-- a generator's run from here, its outputs and its end; G₀, s₀: where this piece of the run began -/
noncomputable def Sg (prog : Program) (w : World) (n : Nat) (e : End') : List PV → Around → (Addr → Prop) → (Nat → Prop) → GH → Shared → Code → Sem Fin → List Frame → Shared → Prop
  | [], A, FP, GP, G₀, s₀, c, t, fs, s => Run1 (model prog w) A c t fs s (fun _ _ _ _ _ => False)
      (fun r s₂ => match e with
        | .done => (r = .ok (.ret .none) ∨ r = .ok .next) ∧ ∃ G₂, Grow w FP GP G₀ s₀ G₂ s₂
        | .err => ∃ x G₂, r = .error x ∧ Grow w FP GP G₀ s₀ G₂ s₂ ∧ Err G₂ s₀.heap s₂ x (some .none))
  | o :: outs, A, FP, GP, G₀, s₀, c, t, fs, s => Run1 (model prog w) A c t fs s (fun v k c' fs' s₂ => SgS w o FP GP G₀ s₀ (fun FP' GP' G₂ => ∀ A' G₃ s₃, Grow w (fun a => ¬ FP' a) (fun g => ¬ GP' g) G₂ s₂ G₃ s₃ → Cx n A' G₃ s₃ → Sg prog w n e outs A' FP' GP' G₃ s₃ c' (k (.send .none)) fs' s₃) v s₂)
      (fun _ _ => False)

end Mine

namespace Mine
open PySem PySem.W PySem.Calls PyProof.Rows

noncomputable def SgY (prog : Program) (w : World) (n : Nat) (e : End') (outs : List PV) (FP : Addr → Prop) (GP : Nat → Prop) (G₀ : GH) (s₀ : Shared) : QY :=
  match outs with
  | [] => fun _ _ _ _ _ => False
  | o :: outs => fun v k c' fs' s₂ => SgS w o FP GP G₀ s₀ (fun FP' GP' G₂ => ∀ A' G₃ s₃, Grow w (fun a => ¬ FP' a) (fun g => ¬ GP' g) G₂ s₂ G₃ s₃ → Cx n A' G₃ s₃ → Sg prog w n e outs A' FP' GP' G₃ s₃ c' (k (.send .none)) fs' s₃) v s₂
noncomputable def SgR (w : World) (e : End') (outs : List PV) (FP : Addr → Prop) (GP : Nat → Prop) (G₀ : GH) (s₀ : Shared) : Result → Shared → Prop :=
  match outs with
  | [] => fun r s₂ => match e with
        | .done => (r = .ok (.ret .none) ∨ r = .ok .next) ∧ ∃ G₂, Grow w FP GP G₀ s₀ G₂ s₂
        | .err => ∃ x G₂, r = .error x ∧ Grow w FP GP G₀ s₀ G₂ s₂ ∧ Err G₂ s₀.heap s₂ x (some .none)
  | _ :: _ => fun _ _ => False
theorem sg_iff {prog w n e outs A FP GP G₀ s₀ c t fs s} : Sg prog w n e outs A FP GP G₀ s₀ c t fs s ↔ Run1 (model prog w) A c t fs s (SgY prog w n e outs FP GP G₀ s₀) (SgR w e outs FP GP G₀ s₀) := by
  cases outs <;> rfl

theorem setGen_get {s : Shared} {g k : Nat} {st : GenState} (h : k ≠ g) : (s.setGen g st).gens[k]? = s.gens[k]? := by
  show (s.gens.setIfInBounds g st)[k]? = _
  rw [Array.getElem?_setIfInBounds_ne (Ne.symm h)]
theorem setGen_self {s : Shared} {g : Nat} {st st' : GenState} (h : s.gens[g]? = some st') : (s.setGen g st).gens[g]? = some st := by
  show (s.gens.setIfInBounds g st)[g]? = _
  have := gens_lt h
  simp [this]
theorem AllBare.set {gens : Array GenState} {g : Nat} {st : GenState} (x : AllBare gens) (h : st.bare = true) : AllBare (gens.setIfInBounds g st) := fun y hy => by
  rcases Array.mem_or_eq_of_mem_setIfInBounds hy with hy | hy
  · exact x y hy
  · exact hy ▸ h
theorem Wld.setGen {w G s g st} (W : Wld w G s) (h : st.bare = true) : Wld w G (s.setGen g st) := ⟨W.sub, W.base, W.tab, AllBare.set W.bare h⟩
theorem Ext.setGen {F K} {s : Shared} {g st} (hg : K g) : Ext F K s (s.setGen g st) :=
  ⟨fun a o e => ⟨o, e⟩, fun a o e _ _ => ⟨o, e, .refl o⟩, fun a o e d => ⟨o, e, d⟩, by show s.gens.size ≤ (s.gens.setIfInBounds g st).size; simp, fun k st' e nk => by
    rw [setGen_get fun q => nk (by rw [q]; exact hg)]; exact e, rfl⟩
theorem Grow.setGen {w F K G s g st} (W : Wld w G s) (hg : K g) (h : st.bare = true) : Grow w F K G s G (s.setGen g st) :=
  ⟨.setGen hg, W.setGen h, fun _ _ e => e, fun _ _ e => .inl e⟩
theorem Cx.setGen {n A G s g st} (x : Cx n A G s) : Cx n A G (s.setGen g st) := ⟨x.rm, x.fr⟩
theorem Cx.in1 {n A G s} (x : Cx (n+1) A G s) : Cx n A.in1 G s := ⟨x.rm.in1, x.fr⟩

theorem noLimit {w G s} (W : Wld w G s) : s.heap.NoLimit := by
  obtain ⟨g₀, b, hi⟩ := W.base
  obtain ⟨_, _, mg, mb, T⟩ := b.T
  exact T.nolimit.keeps fun a o e => W.sub _ _ (hi _ _ e)

theorem pe_stop {w : World} {M : Model} (hM : M.w = w) : peek (topK w) ⟨M.prog, M.w.params⟩ (isSubtype (.ref 58) (.type "StopIteration")) = some false := by
  subst hM
  kernel_rfl

section
variable {prog : Program} {w : World} {A : Around} {E : Value → Shared → Prop}

theorem err_isStop {G : GH} {s : Shared} {h₀ : Heap} {x : Value} {fl : Option Value} {Q : Bool → Shared → Prop} (W : Wld w G s) (e9 : Err G h₀ s x fl) (h : Q false s) :
    wpAny (model prog w) A (isInstance x (.type "StopIteration")) Q E s := by
  obtain ⟨e, oe, vs, a0, rfl, he0, hGe, he, hcls, hd, _⟩ := e9
  obtain ⟨g₀, b, hi⟩ := W.base
  have X : (topK w).In s.heap := fun a o q => W.sub _ _ (hi _ _ (b.K a o q))
  unfold isInstance
  refine wpAny_bind ?_
  refine wpAny_mono (Q := fun v s' => v = .ref 58 ∧ s' = s) (E := fun _ _ => False) ?_ (fun v s' ⟨e1, e2⟩ => ?_) fun _ _ q => q.elim
  · have : ∃ p, True := ⟨(), trivial⟩
    exact wpAny_typeOf_ref (o := oe) he (by rw [hcls.1]; exact ⟨rfl, rfl⟩)
  · subst e1; subst e2
    intro Γ p _
    exact wp_of_peek X h _ (pe_stop (M := model prog w) rfl)

theorem genLeft_err {α : Type} {G : GH} {s : Shared} {h₀ : Heap} {x : Value} {a g : Nat} {fl : Option Value} {Q : α → Shared → Prop} (W : Wld w G s) (hg : ∃ t1 t2, G a = some { cls := .type "generator", data := .fields #[.int g 0, t1, t2] })
    (e9 : Err G h₀ s x fl) (h : E x s) :
    wpAny (model prog w) A (Builtin.Generator.genLeft (α := α) (.ref a) x) Q E s := by
  obtain ⟨t1, t2, hga⟩ := hg
  unfold Builtin.Generator.genLeft
  refine wpAny_bind (wpAny_bind ?_)
  refine wpAny_load (W.sub _ _ hga) (wpAny_pure ?_)
  refine wpAny_bind (err_isStop W e9 ?_)
  rw [if_neg (by simp)]
  unfold Builtin.Generator.genEscaped
  refine wpAny_bind (err_isStop W e9 ?_)
  exact wpAny_throw h

/-- the state in which a generator sleeps -/
noncomputable def Sleeps (c : Code) (t : Sem Fin) (fs : List Frame) (gs : GenState) (M : Model) : Prop := match gs with
  | .fresh c' => c' = c ∧ t = M.den c ∧ fs = []
  | .suspended k _ c' _ fs' _ => c' = c ∧ t = k (.send .none) ∧ fs' = fs
  | _ => False
theorem Sleeps.woke {M : Model} {A c t fs gs s Qy Qr} (x : Sleeps c t fs gs M) (h : Run1 M A c t fs s Qy Qr) : Woke M A gs s Qy Qr := by
  unfold Sleeps at x; unfold Woke
  split at x
  · obtain ⟨rfl, rfl, rfl⟩ := x; exact h
  · obtain ⟨rfl, rfl, rfl⟩ := x; exact h
  · exact x.elim

theorem around {FP : Addr → Prop} {GP GP' : Nat → Prop} {g : Nat} {G₁ G₂ : GH} {s₁ s₂ : Shared} {st : GenState} (W : Wld w G₁ s₁)
    (gr : Grow w FP GP G₁ (s₁.setGen g .running) G₂ s₂) (hb : st.bare = true) : Grow w FP (fun k => GP k ∨ k = g) G₁ s₁ G₂ (s₂.setGen g st) := by
  have g1 : Grow w FP (fun k => GP k ∨ k = g) G₁ s₁ G₁ (s₁.setGen g .running) := .setGen W (.inr rfl) rfl
  have g2 : Grow w FP (fun k => GP k ∨ k = g) G₁ (s₁.setGen g .running) G₂ s₂ := gr.mono (fun _ h => h) (fun _ h => .inl h)
  have g3 : Grow w FP (fun k => GP k ∨ k = g) G₂ s₂ G₂ (s₂.setGen g st) := .setGen gr.wld (.inr rfl) hb
  exact (g1.trans' g2).trans' g3

theorem pyNext_gen {n : Nat} {a g : Nat} {G₁ : GH} {s₁ : Shared} {gs : GenState} {c : Code} {t : Sem Fin} {fs : List Frame} {Qy : QY} {Qr : Result → Shared → Prop} {Q : Option Value → Shared → Prop}
    (W : Wld w G₁ s₁) (cx : Cx (n+1) A G₁ s₁) (hga : ∃ t1 t2, G₁ a = some { cls := .type "generator", data := .fields #[.int g 0, t1, t2] }) (hgs : s₁.gens[g]? = some gs) (hsl : Sleeps c t fs gs (model prog w))
    (hr : Run1 (model prog w) A.in1 c t fs (s₁.setGen g .running) Qy Qr)
    (hY : ∀ v k' c' fs' s₂ l' p' b, (GenState.suspended k' l' c' p' fs' b).bare = true → Qy v k' c' fs' s₂ → Q (some v) (s₂.setGen g (.suspended k' l' c' p' fs' b)))
    (hR : ∀ r s₂, Qr r s₂ → ((r = .ok (.ret .none) ∨ r = .ok .next) ∧ ∀ h', (∀ b o, s₂.heap.get? b = some o → h'.get? b = some o) → Q none { s₂.setGen g .finished with heap := h' }) ∨
      (∃ x G₂ h₀, r = .error x ∧ Wld w G₂ s₂ ∧ (∃ t1 t2, G₂ a = some { cls := .type "generator", data := .fields #[.int g 0, t1, t2] }) ∧ Err G₂ h₀ s₂ x (some .none) ∧ E x (s₂.setGen g .finished))) :
    wpAny (model prog w) A (pyNext (.ref a)) Q E s₁ := by
  have hIs : s₁.heap.IsGen a g := by
    obtain ⟨t1, t2, q⟩ := hga
    exact ⟨_, t1, t2, W.sub _ _ q, rfl, rfl, rfl⟩
  unfold pyNext
  refine wpAny_bind (wpAny_attempt (wpAny_callSpecial?_slot (name := Str.ofString "__next__") hIs.typeIs slot_gen_next
    (wpAny_call_entry slot_gen_next hIs.typeIs entry_gen_next ?_ (args_gen_next _))))
  show wpAny _ _ (Builtin.Generator.genWake (.ref a) (.send .none)) _ _ s₁
  unfold Builtin.Generator.genWake
  refine wpAny_bind (wpAny_holding (wpAny_genNumber hIs (wpAny_bind (wpAny_genState hgs ?_))))
  cases gs with
  | running => exact hsl.elim
  | finished => exact hsl.elim
  | _ =>
    refine wpAny_bind (wpAny_roomToWake (noLimit W) cx.in1.rm.room ?_)
    show wpAny _ _ (.resume g (.send .none) [] _) _ _ s₁
    refine wpAny_wake hgs (hsl.woke hr) (fun r s₂ hx => ?_) (fun v k' c' fs' s₂ l' p' b hb hy => ?_)
    · rcases hR r s₂ hx with ⟨hr, hp⟩ | ⟨x, G₂, h₀, rfl, W₂, hg₂, e9, hE⟩
      · rcases hr with rfl | rfl
        all_goals
          show wpAny _ _ (newExc (.type "StopIteration") [] >>= _) _ _ _
          refine wpAny_bind ?_
          simp only [newExc, newTuple]
          refine wpAny_bind (wpAny_newObj_type ?_ (by size_fits))
          refine wpAny_bind (m := firstArgMember _ _) (wpAny_of_eq (a := Value.none) (by first | rfl | (simp only [firstArgMember]; rfl)) ?_)
          refine wpAny_newObj_type ?_ (by size_fits)
          simp only [raiseNew]
          refine wpAny_bind (wpAny_bind (wpAny_handled ?_))
          rw [show A.in1.handled = none from cx.rm.handled]
          refine wpAny_throw ?_
          refine wpAny_bind (wpAny_isInstance (T := "StopIteration") (b := true) ⟨_, Heap.get?_push_size _ rfl, rfl⟩ isSubtype_stop ?_)
          exact wpAny_pure (hp _ fun b o hb => Heap.get?_push_of_some _ (Heap.get?_push_of_some _ hb))
      · show wpAny _ _ (Builtin.Generator.genLeft (.ref a) x) _ _ _
        have W₂' : Wld w G₂ (s₂.setGen g .finished) := W₂.setGen rfl
        have e9 : Err G₂ h₀ (s₂.setGen g .finished) x (some .none) := e9
        refine genLeft_err W₂' hg₂ e9 ?_
        show wpAny _ _ (isInstance x (.type "StopIteration") >>= _) _ _ _
        refine wpAny_bind (err_isStop W₂' e9 ?_)
        rw [if_neg (by simp)]
        exact wpAny_throw hE
    · exact wpAny_pure ⟨v, rfl, wpAny_pure (hY v k' c' fs' s₂ l' p' b hb hy)⟩

theorem em_gen {n : Nat} {e : End'} {a g : Nat} : ∀ {outs : List PV} {FP : Addr → Prop} {GP : Nat → Prop} {G : GH} {s : Shared} {gs : GenState} {c : Code} {t : Sem Fin} {fs : List Frame},
    (∃ t1 t2, G a = some { cls := .type "generator", data := .fields #[.int g 0, t1, t2] }) → s.gens[g]? = some gs → Sleeps c t fs gs (model prog w) → ¬ GP g →
    (∀ A G₁ s₁, Grow w (fun a => ¬ FP a) (fun k => ¬ (GP k ∨ k = g)) G s G₁ s₁ → Cx n A G₁ s₁ → Sg prog w n e outs A FP GP G₁ (s₁.setGen g .running) c t fs (s₁.setGen g .running)) →
    Em prog w (n+1) (.ref a) outs e FP (fun k => GP k ∨ k = g) G s := by
  intro outs
  induction outs with
  | nil =>
    intro FP GP G s gs c t fs hga hgs hsl hng hrun
    intro A G₁ s₁ gr cx
    refine pyNext_gen gr.wld cx (hga.imp fun _ => Exists.imp fun _ q => gr.sub _ _ q) (gr.ext.gens g gs hgs (fun q => q (.inr rfl))) hsl (sg_iff.mp (hrun A.in1 G₁ s₁ gr cx.in1))
      (fun _ _ _ _ _ _ _ _ _ h => h.elim) fun r s₂ hr => ?_
    cases e with
    | done =>
      obtain ⟨hre, G₂, g2⟩ := hr
      refine .inl ⟨hre, fun h' k => ⟨rfl, rfl, G₂, ?_⟩⟩
      have g3 := around gr.wld (st := .finished) (GP' := GP) g2 rfl
      exact g3.trans' (Grow.keeps (s := s₂.setGen g .finished) (dr := s₂.drawn) (tk := s₂.toks) g3.wld k)
    | err =>
      obtain ⟨x, G₂, rfl, g2, e9⟩ := hr
      refine .inr ⟨x, G₂, _, rfl, g2.wld, hga.imp fun _ => Exists.imp fun _ q => g2.sub _ _ (gr.sub _ _ q), e9, rfl, G₂, around gr.wld (GP' := GP) g2 rfl, e9⟩
  | cons o outs ih =>
    intro FP GP G s gs c t fs hga hgs hsl hng hrun
    intro A G₁ s₁ gr cx
    have hgs₁ := gr.ext.gens g gs hgs (fun q => q (.inr rfl))
    refine pyNext_gen gr.wld cx (hga.imp fun _ => Exists.imp fun _ q => gr.sub _ _ q) hgs₁ hsl (sg_iff.mp (hrun A.in1 G₁ s₁ gr cx.in1))
      (fun v k' c' fs' s₂ l' p' b hb hy => ?_) fun r s₂ hr => hr.elim
    obtain ⟨G₂, FP', GP', hv, g2, f1, f2, f3, f4, th, hnext⟩ := hy
    have gls : ∀ k, GP' k → GP k ∨ s₁.gens.size ≤ k := fun k hk => (f4 k hk).imp_right fun q => by
      have : (s₁.setGen g .running).gens.size = s₁.gens.size := by show (s₁.gens.setIfInBounds g _).size = _; simp
      rw [this] at q; exact q
    have hng' : ¬ GP' g := fun q => (gls g q).elim hng fun q => absurd (gens_lt hgs₁) (Nat.not_lt.mpr q)
    have run2 : s₂.gens[g]? = some .running := g2.ext.gens g .running (setGen_self hgs₁) hng
    refine ⟨v, G₂, FP', fun k => GP' k ∨ k = g, rfl, hv, around gr.wld (GP' := GP) g2 hb, f1, fun k hk => hk.imp_left (f2 k), f3, fun k hk => ?_, ⟨th.1, fun k hk => ?_⟩, ?_, ?_⟩
    · rcases hk with hk | hk
      · rcases gls k hk with q | q
        · exact .inl (.inl q)
        · exact .inr q
      · exact .inl (.inr hk)
    · have sz : (s₂.setGen g (.suspended k' l' c' p' fs' b)).gens.size = s₂.gens.size := by show (s₂.gens.setIfInBounds g _).size = _; simp
      rw [sz]
      rcases hk with hk | hk
      · exact th.2 k hk
      · exact hk ▸ gens_lt run2
    · obtain ⟨t1, t2, q⟩ := hga
      exact letGo_of (s := s₂.setGen g (.suspended k' l' c' p' fs' b)) (g2.wld.sub _ _ (g2.sub _ _ (gr.sub _ _ q))) rfl rfl (by decide +kernel)
    · refine ih (gs := .suspended k' l' c' p' fs' b) (hga.imp fun _ => Exists.imp fun _ q => g2.sub _ _ (gr.sub _ _ q)) (setGen_self run2) ⟨rfl, rfl, rfl⟩ hng' fun A' G₃ s₃ g3 cx3 => ?_
      refine hnext A' G₃ (s₃.setGen g .running) ?_ cx3.setGen
      have h1 : Grow w (fun a => ¬ FP' a) (fun k => ¬ GP' k) G₂ s₂ G₂ (s₂.setGen g (.suspended k' l' c' p' fs' b)) := .setGen g2.wld hng' hb
      have h2 : Grow w (fun a => ¬ FP' a) (fun k => ¬ GP' k) G₂ (s₂.setGen g (.suspended k' l' c' p' fs' b)) G₃ s₃ := g3.mono (fun _ h => h) (fun k h q => h (.inl q))
      have h3 : Grow w (fun a => ¬ FP' a) (fun k => ¬ GP' k) G₃ s₃ G₃ (s₃.setGen g .running) := .setGen g3.wld hng' rfl
      exact (h1.trans' h2).trans' h3
end
end Mine

namespace Mine
open PySem PySem.W PySem.Calls PyProof.Rows

theorem over_push {A : Around} {c c' : Code} {fs : List Frame} {k g l p kp} (h1 : c'.weight = 0) (h2 : c'.envs = []) (h3 : c'.guards = []) (h4 : c'.cUnits = 0) :
    A.over c' (.ret k none g l c p kp :: fs) = A.over c fs := by
  unfold Around.over
  simp only [h1, h2, h3, h4, List.map_cons, Frame.where_, frameCount_cons, envsOf_cons, guardsOf_cons, unitsOf_cons, Around.mk.injEq]
  refine ⟨?_, by omega, ?_, ?_, by omega⟩
  · simp [marksOver, Frame.marks, markOver]
  · simp only [pushEnvs_eq, Option.map_map]; cases A.frames <;> simp
  · simp only [pushGuards_eq, Option.map_map]; cases A.guards <;> simp

structure GFr (env : Env) (c : Code) (fs : List Frame) : Prop where
  split : splitAtGen fs = none
  plain : fs.any Frame.guarded = false
  over : ∀ A n l, Rm (n+1) A → A.frames = some l → Rm n (A.over c fs) ∧ (A.over c fs).frames = some (env :: l)

theorem gfr_func {body : List Stmt} {env : Env} : GFr env (.func body env) [] := by
  refine ⟨rfl, rfl, fun A n l hr hl => ⟨⟨?_, ?_, ?_, ?_⟩, ?_⟩⟩
  · exact hr.handled
  · have := hr.depth
    show A.depth + frameCount [] + (Code.func body env).weight + n ≤ 990
    have h2 : (Code.func body env).weight = 1 := rfl
    simp only [frameCount, h2, List.map_nil, List.sum_nil]; omega
  · have := hr.units
    show A.units + unitsOf [] + (Code.func body env).cUnits + 12 * n ≤ 9880
    have h2 : (Code.func body env).cUnits = 3 := rfl
    simp only [unitsOf_nil, h2]; omega
  · show pushGuards (Code.func body env).guards (pushGuards (guardsOf []) A.guards) = some []
    rw [hr.guards]; rfl
  · show pushEnvs (Code.func body env).envs (pushEnvs (envsOf []) A.frames) = some (env :: l)
    rw [hl]; rfl
theorem gfr_push {env : Env} {c c' : Code} {fs : List Frame} {k l p kp} (x : GFr env c fs) (h1 : c'.weight = 0) (h2 : c'.envs = []) (h3 : c'.guards = []) (h4 : c'.cUnits = 0) : GFr env c' (.ret k none false l c p kp :: fs) := by
  refine ⟨?_, ?_, fun A n l' hr hl => ?_⟩
  · simp [splitAtGen, x.split]
  · simp [List.any_cons, Frame.guarded, x.plain]
  · rw [over_push h1 h2 h3 h4]; exact x.over A n l' hr hl

/-- something laid aside while the body runs -/
structure Res (w : World) where
  fr : Addr → Prop
  gr : Nat → Prop
  holds : GH → Shared → Prop
  st : ∀ G s G' s', Grow w (fun a => ¬ fr a) (fun g => ¬ gr g) G s G' s' → holds G s → holds G' s'
noncomputable def Res.nil (w : World) : Res w := ⟨fun _ => False, fun _ => False, fun _ _ => True, fun _ _ _ _ _ h => h⟩
noncomputable def Res.em (prog : Program) (w : World) (n : Nat) (it : Value) (ins : List PV) (e : End') (fr : Addr → Prop) (gr : Nat → Prop) : Res w :=
  ⟨fr, gr, fun G s => Em prog w n it ins e fr gr G s, fun _ _ _ _ g h => h.later g⟩

structure Pt where
  A : Around
  F0 : Addr → Prop
  K0 : Nat → Prop
  F : Addr → Prop
  K : Nat → Prop
  G0 : GH
  s0 : Shared
  G : GH
  s : Shared

noncomputable def Wr (env : Env) (O : Option Addr) : Addr → Prop := fun a => a = env.locals ∨ O = some a

structure At (w : World) (n : Nat) (env : Env) (O : Option Addr) (Γ : Lcl) (c : Code) (fs : List Frame) (ρ : Res w) (X : Pt) : Prop where
  gfr : GFr env c fs
  self : env.frame = some env.locals
  cx : Cx (n+1) X.A X.G X.s
  w0 : Wld w X.G0 X.s0
  grow : Grow w X.F X.K X.G0 X.s0 X.G X.s
  ff : ∀ a, X.F0 a → X.F a
  kk : ∀ g, X.K0 g → X.K g
  fn : ∀ a, X.F a → X.F0 a ∨ X.s0.heap.get? a = none
  kn : ∀ g, X.K g → X.K0 g ∨ X.s0.gens.size ≤ g
  good : Good w (X.A.over c fs) env O Γ X.G X.s
  fL : X.F env.locals
  fO : ∀ a, O = some a → X.F a
  th : There X.F X.K X.s
  rF : ∀ a, ρ.fr a → X.F a
  rK : ∀ g, ρ.gr g → X.K g
  rL : ¬ ρ.fr env.locals
  rO : ∀ a, O = some a → ¬ ρ.fr a
  res : ρ.holds X.G X.s

noncomputable abbrev SgX (prog : Program) (w : World) (n : Nat) (e : End') (outs : List PV) (c : Code) (t : Sem Fin) (fs : List Frame) (X : Pt) : Prop := Sg prog w n e outs X.A X.F0 X.K0 X.G0 X.s0 c t fs X.s

theorem Grow.shrink {w F K F0 K0 G s G' s'} (g : Grow w F K G s G' s') (fn : ∀ a, F a → F0 a ∨ s.heap.get? a = none) (kn : ∀ k, K k → K0 k ∨ s.gens.size ≤ k) : Grow w F0 K0 G s G' s' :=
  ⟨⟨g.ext.live, fun a o e nf nt => g.ext.old a o e (fun q => (fn a q).elim nf fun r => by rw [e] at r; cases r) nt, g.ext.dicts, g.ext.gsize,
    fun k st e nk => g.ext.gens k st e fun q => (kn k q).elim nk fun r => absurd (gens_lt e) (Nat.not_lt.mpr r), g.ext.os⟩, g.wld, g.sub, g.new⟩

/-- the same frame, another stack below -/
theorem Good.around {w A A' env O Γ G s} (x : Good w A env O Γ G s) (h : ∃ l, A'.frames = some l ∧ Frames G s l) : Good w A' env O Γ G s :=
  ⟨x.wld, h, x.kind, x.globals, x.builtins, x.fresh, x.ntab, x.oown, x.vars⟩

section
variable {prog : Program} {w : World} {n : Nat} {env : Env} {O : Option Addr} {Γ Γ' : Lcl} {c : Code} {fs : List Frame} {ρ : Res w} {X : Pt} {e : End'} {outs : List PV}

theorem At.rm (x : At w n env O Γ c fs ρ X) : Rm n (X.A.over c fs) := let ⟨l, hl, _⟩ := x.cx.fr; (x.gfr.over X.A n l x.cx.rm hl).1

/-- a step of one's own -/
theorem At.step' {O' : Option Addr} {G' s'} (x : At w n env O Γ c fs ρ X) (g : Grow w (Wr env O) No X.G X.s G' s') (hO : ∀ a, O' = some a → O = some a) (gd : Good w (X.A.over c fs) env O' Γ' G' s') : At w n env O' Γ' c fs ρ { X with G := G', s := s' } where
  gfr := x.gfr
  self := x.self
  cx := x.cx.grow g
  w0 := x.w0
  grow := x.grow.trans' (g.mono (fun a h => h.elim (fun h => h ▸ x.fL) fun h => x.fO a h) fun _ h => h.elim)
  ff := x.ff
  kk := x.kk
  fn := x.fn
  kn := x.kn
  good := gd
  fL := x.fL
  fO := fun a h => x.fO a (hO a h)
  th := x.th.grow g
  rF := x.rF
  rK := x.rK
  rL := x.rL
  rO := fun a h => x.rO a (hO a h)
  res := ρ.st _ _ _ _ (g.mono (fun a h => h.elim (fun h => h ▸ x.rL) fun h => x.rO a h) fun _ h => h.elim) x.res
theorem At.step {G' s'} (x : At w n env O Γ c fs ρ X) (g : Grow w (Wr env O) No X.G X.s G' s') (gd : Good w (X.A.over c fs) env O Γ' G' s') : At w n env O Γ' c fs ρ { X with G := G', s := s' } := x.step' g (fun _ h => h) gd

theorem At.pure {G' s'} (x : At w n env O Γ c fs ρ X) (g : Grow w Pure No X.G X.s G' s') : At w n env O Γ c fs ρ { X with G := G', s := s' } := x.step g.pur (x.good.pur g)

theorem good_frames {A A' : Around} {l l' : List Env} {G s} (gd : Good w A env O Γ G s) (hl : A.frames = some (env :: l)) (hl' : A'.frames = some (env :: l')) (f' : Frames G s l') : ∃ l, A'.frames = some l ∧ Frames G s l := by
  obtain ⟨l₀, h₀, f₀⟩ := gd.frames
  rw [hl] at h₀; cases h₀
  refine ⟨_, hl', fun ev hev => ?_⟩
  rcases List.mem_cons.mp hev with rfl | hev
  · exact f₀ _ (.head _)
  · exact f' ev hev

/-- woken again after a yield -/
theorem At.woken {A' G' s'} (x : At w n env O Γ c fs ρ X) (g : Grow w (fun a => ¬ X.F a) (fun k => ¬ X.K k) X.G X.s G' s') (cx : Cx (n+1) A' G' s') :
    At w n env O Γ c fs ρ ⟨A', X.F, X.K, X.F, X.K, G', s', G', s'⟩ where
  gfr := x.gfr
  self := x.self
  cx := cx
  w0 := g.wld
  grow := .refl g.wld
  ff := fun _ h => h
  kk := fun _ h => h
  fn := fun _ h => .inl h
  kn := fun _ h => .inl h
  good := by
    have gd := x.good.grow g (fun h => h x.fL) (fun a h q => q (x.fO a h))
    obtain ⟨l, hl, fl⟩ := x.cx.fr
    obtain ⟨l', hl', fl'⟩ := cx.fr
    exact gd.around (good_frames gd (x.gfr.over X.A n l x.cx.rm hl).2 (x.gfr.over A' n l' cx.rm hl').2 fl')
  fL := x.fL
  fO := x.fO
  th := x.th.grow g
  rF := x.rF
  rK := x.rK
  rL := x.rL
  rO := x.rO
  res := ρ.st _ _ _ _ (g.mono (fun a h q => h (x.rF a q)) (fun k h q => h (x.rK k q))) x.res

theorem At.noRes (x : At w n env O Γ c fs ρ X) : At w n env O Γ c fs (Res.nil w) X :=
  { x with rF := fun _ h => h.elim, rK := fun _ h => h.elim, rL := fun h => h, rO := fun _ _ h => h, res := trivial }
theorem At.estep {s'} (x : At w n env O Γ c fs ρ X) (g : EStep w X.s0.heap X.G X.s s') : At w n env O Γ c fs (Res.nil w) { X with s := s' } :=
  { x.noRes with cx := x.cx.grow g, grow := g.grow x.grow, good := x.good.estep g, th := x.th.grow g }

inductive Out where
  | next (Γ : Lcl)
  | cont (Γ : Lcl)
  | ret (p : PV)
  | err

noncomputable def ErrFl (env : Env) (fl : Option Value) : Prop := fl = none ∨ fl = some .none ∨ fl = some (rawInt env.locals)

noncomputable def OutOk (w : World) (A : Around) (env : Env) (O : Option Addr) (o : Out) (fl : Flow) (G' : GH) (s' : Shared) : Prop := match o with
      | .next Γ' => fl = .next ∧ Good w A env O Γ' G' s'
      | .cont Γ' => fl = .cont ∧ Good w A env O Γ' G' s'
      | .ret p => ∃ v, fl = .ret v ∧ Rep G' p v ∧ Good w A env none ⟨[], none⟩ G' s'
      | .err => False

/-- statements that do not yield -/
noncomputable def ExP (prog : Program) (w : World) (n : Nat) (env : Env) (O : Option Addr) (Γ : Lcl) (t : Sem Flow) (o : Out) : Prop :=
  ∀ A l G s, Rm n A → A.frames = some (env :: l) → env.frame = some env.locals → Good w A env O Γ G s → wpAny (model prog w) A t
    (fun fl s' => ∃ G', Grow w (Wr env O) No G s G' s' ∧ OutOk w A env O o fl G' s')
    (fun x s' => o = .err ∧ ∃ G' fl, Grow w (Wr env O) No G s G' s' ∧ Good w A env O ⟨[], none⟩ G' s' ∧ Err G' s.heap s' x fl ∧ ErrFl env fl) s

/-- what must hold after statements of a generator -/
noncomputable def After (prog : Program) (w : World) (n : Nat) (env : Env) (O : Option Addr) (c : Code) (fs : List Frame) (ρ : Res w) (K : Flow → Sem Fin) (H : Value → Sem Fin) (e : End') (outs : List PV) : Out → Prop
  | .next Γ' => ∀ X', At w n env O Γ' c fs ρ X' → SgX prog w (n+1) e outs c (K .next) fs X'
  | .cont Γ' => ∀ X', At w n env O Γ' c fs ρ X' → SgX prog w (n+1) e outs c (K .cont) fs X'
  | .ret p => ∀ X' v, At w n env none ⟨[], none⟩ c fs ρ X' → Rep X'.G p v → SgX prog w (n+1) e outs c (K (.ret v)) fs X'
  | .err => ∀ X' x fl, At w n env O ⟨[], none⟩ c fs (Res.nil w) X' → Err X'.G X'.s0.heap X'.s x fl → ErrFl env fl → SgX prog w (n+1) e outs c (H x) fs X'

/-- statements of a generator: what they hand out and how they end -/
noncomputable def Gs (prog : Program) (w : World) (n : Nat) (env : Env) (O : Option Addr) (Γ : Lcl) (t : Sem Flow) (outs : List PV) (o : Out) : Prop :=
  ∀ c fs ρ K H gd lv e outs2 X, At w n env O Γ c fs ρ X → gd false = false → After prog w n env O c fs ρ K H e outs2 o → SgX prog w (n+1) e (outs ++ outs2) c (t.wrap K H gd lv) fs X

theorem gs_leaf {t : Sem Flow} {o : Out} (h : ExP prog w n env O Γ t o) : Gs prog w n env O Γ t [] o := by
  intro c fs ρ K H gd lv e outs2 X x hgd ha
  refine sg_iff.mpr (run_wrap ?_)
  obtain ⟨l, hl, _⟩ := x.cx.fr
  have ho := x.gfr.over X.A n l x.cx.rm hl
  refine wpAny_mono (h _ _ _ _ ho.1 ho.2 x.self x.good) (fun fl s' ⟨G', g, q⟩ => ?_) (fun y s' ⟨q, G', fl, g, gd', e9, hfl⟩ => ?_)
  · cases o with
    | next Γ' => obtain ⟨rfl, gd'⟩ := q; exact sg_iff.mp (ha _ (x.step g gd'))
    | cont Γ' => obtain ⟨rfl, gd'⟩ := q; exact sg_iff.mp (ha _ (x.step g gd'))
    | ret p => obtain ⟨v, rfl, rp, gd'⟩ := q; exact sg_iff.mp (ha _ v (x.step' g (fun _ h => by cases h) gd') rp)
    | err => exact q.elim
  · subst q
    exact sg_iff.mp (ha _ y fl (x.step g gd').noRes (e9.start fun a o ho => x.grow.ext.live a o ho) hfl)

theorem gs_nil : Gs prog w n env O Γ (execs [] env) [] (.next Γ) := by
  intro c fs ρ K H gd lv e outs2 X x hgd ha
  exact ha X x

theorem gs_cons {st : Stmt} {rest : List Stmt} {outs1 outs2 : List PV} {o : Out} (h1 : Gs prog w n env O Γ (exec st env) outs1 (.next Γ')) (h2 : Gs prog w n env O Γ' (execs rest env) outs2 o) :
    Gs prog w n env O Γ (execs (st :: rest) env) (outs1 ++ outs2) o := by
  intro c fs ρ K H gd lv e outs3 X x hgd ha
  rw [execs_cons_wrap, List.append_assoc]
  exact h1 c fs ρ _ H gd lv e (outs2 ++ outs3) X x hgd fun X' x' => h2 c fs ρ K H gd lv e outs3 X' x' hgd ha

/-- the first statement ends it -/
theorem gs_stop {st : Stmt} {rest : List Stmt} {outs1 : List PV} {o : Out} (h1 : Gs prog w n env O Γ (exec st env) outs1 o) (ho : ∀ Γ', o ≠ .next Γ') :
    Gs prog w n env O Γ (execs (st :: rest) env) outs1 o := by
  intro c fs ρ K H gd lv e outs3 X x hgd ha
  rw [execs_cons_wrap]
  refine h1 c fs ρ _ H gd lv e outs3 X x hgd ?_
  cases o with
  | next Γ' => exact absurd rfl (ho Γ')
  | cont Γ' => exact ha
  | ret p => exact ha
  | err => exact ha

theorem gs_if {test : Expr} {body orelse : List Stmt} {pos : Pos} {b : Bool} {outs : List PV} {o : Out} (ht : Ev prog w n env Γ (isTrue test env (eval test env)) (fun _ v => v = b))
    (h1 : b = true → Gs prog w n env O Γ (execs body env) outs o) (h2 : b = false → Gs prog w n env O Γ (execs orelse env) outs o) : Gs prog w n env O Γ (exec (.If test body orelse pos) env) outs o := by
  intro c fs ρ K H gd lv e outs2 X x hgd ha
  rw [exec_If]
  refine sg_iff.mpr (run_at ?_)
  show Run1 _ _ c ((isTrue test env (eval test env) >>= fun b => if b = true then execs body env else execs orelse env).wrap K H gd lv) fs _ _ _
  rw [Sem.bind_eq_wrap', Sem.wrap_wrap]
  refine run_wrap (ht.use x.rm x.good fun v G' s' g gd' q => ?_)
  subst q
  cases v with
  | true => exact sg_iff.mp (h1 rfl c fs ρ K H gd lv e outs2 _ (x.pure g) hgd ha)
  | false => exact sg_iff.mp (h2 rfl c fs ρ K H gd lv e outs2 _ (x.pure g) hgd ha)

theorem gs_yield {ex : Expr} {ypos pos : Pos} {p : PV} (h : EvP prog w n env Γ ex p) (hco : env.scope.isCoroutine = false) (hi : interactive env = false) :
    Gs prog w n env O Γ (exec (.Expr (.Yield (some ex) ypos) pos) env) [p] (.next Γ) := by
  intro c fs ρ K H gd lv e outs2 X x hgd ha
  rw [exec_Expr env _ pos hi rfl]
  show Sg prog w (n+1) e (p :: outs2) X.A X.F0 X.K0 X.G0 X.s0 c (.at pos fun _ => ((eval ex env >>= fun v => (standAt ypos >>= fun _ => yieldOut env v)) >>= fun y =>
    dropValue (.Yield (some ex) ypos) pos y).wrap K H gd lv) fs X.s
  have hy : ∀ v, yieldOut env v = yieldValue v := fun v => by simp only [yieldOut, hco, Bool.false_eq_true, if_false]
  simp only [hy]
  refine sg_iff.mpr (run_at ?_)
  rw [Sem.bind_eq_wrap', Sem.bind_eq_wrap', Sem.wrap_wrap, Sem.wrap_wrap]
  refine run_wrap (h.use x.rm x.good fun v G' s' g gd' q => ?_)
  have x' := x.pure g
  refine run_at (run_yield x.gfr.split hgd x.gfr.plain ?_)
  refine ⟨G', X.F, X.K, q, x'.grow.shrink x.fn x.kn, x.ff, x.kk, x.fn, x.kn, x'.th, fun A' G₃ s₃ g3 cx => ?_⟩
  exact ha _ (x'.woken g3 cx)
end
end Mine

namespace Mine
open PySem PySem.W PySem.Calls PyProof.Rows

noncomputable def Res.and {w : World} (ρ σ : Res w) : Res w :=
  ⟨fun a => ρ.fr a ∨ σ.fr a, fun g => ρ.gr g ∨ σ.gr g, fun G s => ρ.holds G s ∧ σ.holds G s,
   fun _ _ _ _ g h => ⟨ρ.st _ _ _ _ (g.mono (fun _ n q => n (.inl q)) fun _ n q => n (.inl q)) h.1, σ.st _ _ _ _ (g.mono (fun _ n q => n (.inr q)) fun _ n q => n (.inr q)) h.2⟩⟩

section
variable {prog : Program} {w : World} {n : Nat} {env : Env} {O : Option Addr} {Γ Γ' : Lcl} {c c' : Code} {fs : List Frame} {ρ σ : Res w} {X : Pt} {e : End'} {outs : List PV}

theorem At.left (x : At w n env O Γ c fs (ρ.and σ) X) : At w n env O Γ c fs ρ X :=
  { x with rF := fun a h => x.rF a (.inl h), rK := fun g h => x.rK g (.inl h), rL := fun h => x.rL (.inl h), rO := fun a h q => x.rO a h (.inl q), res := x.res.1 }
theorem At.push {k l p kp} (x : At w n env O Γ c fs ρ X) (h1 : c'.weight = 0) (h2 : c'.envs = []) (h3 : c'.guards = []) (h4 : c'.cUnits = 0) : At w n env O Γ c' (.ret k none false l c p kp :: fs) ρ X :=
  { x with gfr := gfr_push x.gfr h1 h2 h3 h4, good := by rw [over_push h1 h2 h3 h4]; exact x.good }
theorem At.pop {k l p kp} (x : At w n env O Γ c' (.ret k none false l c p kp :: fs) ρ X) (y : GFr env c fs) (h1 : c'.weight = 0) (h2 : c'.envs = []) (h3 : c'.guards = []) (h4 : c'.cUnits = 0) : At w n env O Γ c fs ρ X :=
  { x with gfr := y, good := by have := x.good; rw [over_push h1 h2 h3 h4] at this; exact this }

/-- the iterator has been asked -/
theorem At.drawn {it ins ins' e' fr gr fr' gr' G' s'} (x : At w n env O Γ c fs (ρ.and (Res.em prog w n it ins e' fr gr)) X) (g : Grow w fr gr X.G X.s G' s')
    (apart : ∀ a, fr a → ¬ ρ.fr a) (gapart : ∀ k, gr k → ¬ ρ.gr k)
    (f1 : ∀ a, fr a → fr' a) (f2 : ∀ k, gr k → gr' k) (f3 : ∀ a, fr' a → fr a ∨ X.s.heap.get? a = none) (f4 : ∀ k, gr' k → gr k ∨ X.s.gens.size ≤ k) (th : There fr' gr' s')
    (hem : Em prog w n it ins' e' fr' gr' G' s') :
    At w n env O Γ c fs (ρ.and (Res.em prog w n it ins' e' fr' gr')) ⟨X.A, X.F0, X.K0, fun a => X.F a ∨ fr' a, fun k => X.K k ∨ gr' k, X.G0, X.s0, G', s'⟩ where
  gfr := x.gfr
  self := x.self
  cx := x.cx.grow g
  w0 := x.w0
  grow := (x.grow.mono (fun _ h => .inl h) (fun _ h => .inl h)).trans' (g.mono (fun a h => .inr (f1 a h)) fun k h => .inr (f2 k h))
  ff := fun a h => .inl (x.ff a h)
  kk := fun k h => .inl (x.kk k h)
  fn := fun a h => h.elim (x.fn a) fun h => (f3 a h).elim (fun h => x.fn a (x.rF a (.inr h))) fun h => .inr (x.grow.ext.dead h)
  kn := fun k h => h.elim (x.kn k) fun h => (f4 k h).elim (fun h => x.kn k (x.rK k (.inr h))) fun h => .inr (Nat.le_trans x.grow.ext.gsize h)
  good := x.good.grow g (fun h => x.rL (.inr h)) fun a h q => x.rO a h (.inr q)
  fL := .inl x.fL
  fO := fun a h => .inl (x.fO a h)
  th := ⟨fun a h => h.elim ((x.th.grow g).1 a) (th.1 a), fun k h => h.elim ((x.th.grow g).2 k) (th.2 k)⟩
  rF := fun a h => h.elim (fun h => .inl (x.rF a (.inl h))) .inr
  rK := fun a h => h.elim (fun h => .inl (x.rK a (.inl h))) .inr
  rL := fun h => h.elim (fun h => x.rL (.inl h)) fun h => (f3 _ h).elim (fun h => x.rL (.inr h)) fun h => by
    obtain ⟨m, hm, _⟩ := x.good.vars
    obtain ⟨o, es, ep, ho, _⟩ := hm
    rw [ho] at h; cases h
  rO := fun a h q => q.elim (fun q => x.rO a h (.inl q)) fun q => (f3 _ q).elim (fun q => x.rO a h (.inr q)) fun q => by
    obtain ⟨_, _, _, o, ho, _⟩ := x.good.oown a h
    rw [ho] at q; cases q
  res := ⟨ρ.st _ _ _ _ (g.mono apart gapart) x.res.1, hem⟩

/-- a local gets a value -/
theorem good_set {A : Around} {G : GH} {s : Shared} {y : Str} {v : Value} {p : PV} {tk : Nat} {h' : Heap} {m : Str → Option Value} (gd : Good w A env O Γ G s) (hl : env.kindOf y = some .local) (rp : Rep G p v)
    (hm : s.heap.Ns env.locals m) (hv : ∀ x p, Γ.vars.lookup x = some p → ∃ v, Reads env m G x v ∧ Rep G p v) (ho : OwnOk env O Γ.own m G s)
    (hm' : h'.Ns env.locals (fun z => if z = y then some v else m z)) (hs : Heap.SameBut env.locals s.heap h') (hown : ∀ z d, Γ.own = some (z, d) → z ≠ y) :
    Grow w (Wr env O) No G s G { s with heap := h', toks := tk } ∧ Good w A env O (Γ.set y p) G { s with heap := h', toks := tk } := by
  obtain ⟨oL, es, ep, hoL, hdL, _⟩ := id hm
  obtain ⟨oL', es', ep', hoL', hdL', _⟩ := id hm'
  have ne : ∀ a, a ≠ env.locals → h'.get? a = s.heap.get? a := fun a ha => hs.2 a ha
  have g : Grow w (Wr env O) No G s G { s with heap := h', toks := tk } := by
    refine ⟨⟨fun a o q => ?_, fun a o q nf nt => ?_, fun a o q d => ?_, Nat.le_refl _, fun _ _ q _ => q, rfl⟩, ⟨fun a o q => ?_, gd.wld.base, fun q hq => ?_, gd.wld.bare⟩, fun _ _ q => q, fun _ _ q => .inl q⟩
    · by_cases ha : a = env.locals
      · exact ⟨oL', by rw [ha]; exact hoL'⟩
      · exact ⟨o, (ne a ha).trans q⟩
    · exact ⟨o, (ne a fun r => nf (.inl r)).trans q, .refl o⟩
    · by_cases ha : a = env.locals
      · exact ⟨oL', by rw [ha]; exact hoL', es', ep', hdL'⟩
      · exact ⟨o, (ne a ha).trans q, d⟩
    · refine (ne a fun r => ?_).trans (gd.wld.sub a o q)
      rw [r, gd.fresh] at q; cases q
    · obtain ⟨h1, ps, h2, h3⟩ := gd.wld.tab q hq
      refine ⟨h1, ps, (ne _ fun r => gd.ntab ?_).trans h2, h3⟩
      rw [← r]
      simp only [tabs, List.mem_cons, List.not_mem_nil, or_false] at hq
      rcases hq with rfl | rfl | rfl <;> simp [isTab]
  obtain ⟨l, hfr, fr⟩ := gd.frames
  refine ⟨g, g.wld, ⟨l, hfr, fr.grow g⟩, gd.kind, gd.globals, gd.builtins, gd.fresh, gd.ntab, fun a ha => ?_, _, hm', fun z q e => ?_, ?_⟩
  · obtain ⟨h1, h2, h3, o, h4, h5⟩ := gd.oown a ha
    exact ⟨h1, h2, h3, o, (ne a h2).trans h4, h5⟩
  · unfold Lcl.set at e
    simp only [List.lookup_cons] at e
    by_cases hz : z = y
    · subst hz
      simp at e; subst e
      exact ⟨v, .inl ⟨hl, by simp⟩, rp⟩
    · have : (z == y) = false := by simpa using hz
      rw [this] at e
      obtain ⟨u, r, ru⟩ := hv z q e
      refine ⟨u, ?_, ru⟩
      rcases r with ⟨r1, r2⟩ | r
      · exact .inl ⟨r1, by simp [hz]; exact r2⟩
      · exact .inr r
  · unfold OwnOk at ho ⊢
    show match Γ.own with | none => True | some (x, d) => _
    split
    · trivial
    · rename_i z d eq
      rw [eq] at ho
      obtain ⟨a, o, h1, h2, h3, h4, h5⟩ := ho
      refine ⟨a, o, h1, h2, ?_, (ne a (gd.oown a h1).2.1).trans h4, h5⟩
      simp [hown z d eq]; exact h3

theorem wpAny_store_good {A : Around} {G : GH} {s : Shared} {y : Str} {v : Value} {p : PV} {Q : Unit → Shared → Prop} {E : Value → Shared → Prop} (gd : Good w A env O Γ G s) (hl : env.kindOf y = some .local) (rp : Rep G p v)
    (hown : ∀ z d, Γ.own = some (z, d) → z ≠ y)
    (h : ∀ s', Grow w (Wr env O) No G s G s' → Good w A env O (Γ.set y p) G s' → Q () s') : wpAny (model prog w) A (storeName env y v) Q E s := by
  obtain ⟨m, hm, hv, ho⟩ := id gd.vars
  refine wpAny_storeName_local hl hm (fun h' hn hs => ?_) ?_
  · obtain ⟨g, gd'⟩ := good_set (tk := s.toks + 1) gd hl rp hm hv ho hn hs hown
    exact h _ g gd'
  · rw [gd.kind]; rfl
theorem wpAny_assign_good {A : Around} {G : GH} {s : Shared} {y : Str} {pos : Pos} {v : Value} {p : PV} {Q : Unit → Shared → Prop} {E : Value → Shared → Prop} (gd : Good w A env O Γ G s) (hl : env.kindOf y = some .local) (rp : Rep G p v)
    (hown : ∀ z d, Γ.own = some (z, d) → z ≠ y)
    (h : ∀ s', Grow w (Wr env O) No G s G s' → Good w A env O (Γ.set y p) G s' → Q () s') : wpAny (model prog w) A (assign (.Name y pos) env v) Q E s :=
  wpAny_assign_Name (wpAny_store_good gd hl rp hown h)

/-- the turns of a loop of a generator, over what the iterator hands out -/
inductive LoopG (prog : Program) (w : World) (n : Nat) (env : Env) (O : Option Addr) (y : Str) (body : List Stmt) : Lcl → List PV → End' → List PV → Out → Prop
  | done (Γ₀ : Lcl) : LoopG prog w n env O y body Γ₀ [] .done [] (.next Γ₀)
  | fail (Γ₀ : Lcl) : LoopG prog w n env O y body Γ₀ [] .err [] .err
  | next {Γ Γ' h ins e outs1 outs2 o} : (∀ z d, Γ.own = some (z, d) → z ≠ y) → Gs prog w n env O (Γ.set y h) (execs body env) outs1 (.next Γ') → LoopG prog w n env O y body Γ' ins e outs2 o → LoopG prog w n env O y body Γ (h :: ins) e (outs1 ++ outs2) o
  | cont {Γ Γ' h ins e outs1 outs2 o} : (∀ z d, Γ.own = some (z, d) → z ≠ y) → Gs prog w n env O (Γ.set y h) (execs body env) outs1 (.cont Γ') → LoopG prog w n env O y body Γ' ins e outs2 o → LoopG prog w n env O y body Γ (h :: ins) e (outs1 ++ outs2) o
  | stop {Γ h ins e outs1} : (∀ z d, Γ.own = some (z, d) → z ≠ y) → Gs prog w n env O (Γ.set y h) (execs body env) outs1 .err → LoopG prog w n env O y body Γ (h :: ins) e outs1 .err

noncomputable def Kon (env : Env) (K : Flow → Sem Fin) (H : Value → Sem Fin) (gd : Bool → Bool) (lv : List Value → List Value) : Result → Sem Fin :=
  fun r => ((match r with | .ok f => (.pure f : Sem Flow) | .error e => .raise e).onRaise fun (x : Value) => do
        if (← field x 1) == Value.none then unsupported "frame.own-activation:exception-without-traceback"
        setFlight x env.frame).wrap K H gd lv

theorem Err.field1 {M : Model} {A : Around} {E : Value → Shared → Prop} {G : GH} {h₀ : Heap} {s : Shared} {x f : Value} {Q : Value → Shared → Prop} (e9 : Err G h₀ s x (some f)) (h : ∀ T, Q (.ref T) s) : wpAny M A (field x 1) Q E s := by
  obtain ⟨e, oe, vs, a0, rfl, he0, hGe, he, hcls, hd, h0, hsz, T, oT, ts, h1, _⟩ := e9
  exact wpAny_field he hd h1 (h T)

theorem At.tabd (x : At w n env O Γ c fs ρ X) : Tabd X.s0.heap := x.w0.tabd
theorem At.alive (x : At w n env O Γ c fs ρ X) : Alive X.s0.heap X.s := x.grow.ext.live
theorem At.frames (x : At w n env O Γ c fs ρ X) : ∃ l, (X.A.over c fs).frames = some (env :: l) ∧ Frames X.G X.s (env :: l) := by
  obtain ⟨l, hl, _⟩ := x.cx.fr
  have h := (x.gfr.over X.A n l x.cx.rm hl).2
  obtain ⟨l', h', f⟩ := x.good.frames
  rw [h] at h'; cases h'
  exact ⟨l, h, f⟩

/-- an exception comes back to the frame's own text -/
theorem kon_err {K : Flow → Sem Fin} {H : Value → Sem Fin} {gd lv} {x : Value} {f : Value} (q : At w n env O Γ c fs ρ X) (e9 : Err X.G X.s0.heap X.s x (some f))
    (h : ∀ X', At w n env O Γ c fs (Res.nil w) X' → Err X'.G X'.s0.heap X'.s x (some (rawInt env.locals)) → X'.A = X.A ∧ X'.F0 = X.F0 ∧ X'.K0 = X.K0 ∧ X'.G0 = X.G0 ∧ X'.s0 = X.s0 → SgX prog w (n+1) e outs c (H x) fs X') : SgX prog w (n+1) e outs c (Kon env K H gd lv (.error x)) fs X := by
  refine sg_iff.mpr ?_
  show Run1 _ _ c (Sem.wrap K H gd lv (Sem.onRaise (Sem.raise x) _)) fs _ _ _
  rw [Sem.onRaise_eq_wrap]
  show Run1 _ _ c (Sem.wrap K H gd lv (Sem.bind (do
        if (← field x 1) == Value.none then unsupported "frame.own-activation:exception-without-traceback"
        setFlight x env.frame : Sem Unit) fun _ => .raise x)) fs _ _ _
  rw [Sem.bind_eq_wrap, Sem.wrap_wrap]
  refine run_wrap (wpAny_bind (e9.field1 fun T => ?_))
  rw [if_neg (by simp)]
  refine err_flight (fr := env.frame) q.good.wld q.tabd e9 fun h' g' e' => ?_
  rw [q.self] at e'
  exact sg_iff.mp (h _ (q.estep g') e' ⟨rfl, rfl, rfl, rfl, rfl⟩)

/-- an exception leaves a loop -/
theorem loop_err {tgt : Expr} {it : Value} {body orelse : List Stmt} {K : Flow → Sem Fin} {H : Value → Sem Fin} {gd lv} {l p kp} {x : Value} {fl : Option Value} (y : GFr env c fs)
    (q : At w n env O ⟨[], none⟩ (.forLoop tgt it body orelse env) (.ret (Kon env K H gd lv) none false l c p kp :: fs) (Res.nil w) X) (e9 : Err X.G X.s0.heap X.s x fl) (hfl : ErrFl env fl)
    (h : After prog w n env O c fs ρ K H e outs .err) :
    SgX prog w (n+1) e outs (.forLoop tgt it body orelse env) ((do noteFrame x env; theTreesLotGoes x : Sem Unit).bind fun _ => .raise x) (.ret (Kon env K H gd lv) none false l c p kp :: fs) X := by
  refine sg_iff.mpr ?_
  rw [Sem.bind_eq_wrap]
  obtain ⟨l', hfr, fr⟩ := q.frames
  have last : ∀ h', EStep w X.s0.heap X.G X.s { X.s with heap := h' } → Err X.G X.s0.heap { X.s with heap := h' } x (some (rawInt env.locals)) →
      Run1 (model prog w) X.A (.forLoop tgt it body orelse env) (.raise x) (.ret (Kon env K H gd lv) none false l c p kp :: fs) { X.s with heap := h' } (SgY prog w (n+1) e outs X.F0 X.K0 X.G0 X.s0) (SgR w e outs X.F0 X.K0 X.G0 X.s0) := by
    intro h' g' e'
    refine run_leaf (.error x) (sg_iff.mp (kon_err (X := { X with s := { X.s with heap := h' } }) ((q.estep g').pop y rfl rfl rfl rfl) e' fun X' x' e'' _ => h X' x _ x' e'' (.inr (.inr rfl))))
  refine run_wrap (wpAny_bind ?_)
  rcases hfl with hfl | hfl | hfl
  · exact err_note q.good.wld q.tabd q.alive hfr fr q.self e9 (.inl hfl) fun h' g' e' => wpAny_theTreesLotGoes (last h' g' e')
  · exact err_note q.good.wld q.tabd q.alive hfr fr q.self e9 (.inr hfl) fun h' g' e' => wpAny_theTreesLotGoes (last h' g' e')
  · subst hfl
    exact err_note_again q.self e9 (wpAny_theTreesLotGoes (last X.s.heap (.refl q.good.wld) e9))
end
end Mine

namespace Mine
open PySem PySem.W PySem.Calls PyProof.Rows

section
variable {prog : Program} {w : World} {n : Nat} {env : Env} {O : Option Addr} {Γ Γ' : Lcl} {c c' : Code} {fs : List Frame} {ρ σ : Res w} {X : Pt} {e e2 : End'} {outs outs2 : List PV}

/-- an iterator apart from what is laid aside -/
structure Apart (ρ : Res w) (fr : Addr → Prop) (gr : Nat → Prop) : Prop where
  a : ∀ a, fr a → ¬ ρ.fr a
  g : ∀ k, gr k → ¬ ρ.gr k
theorem At.apart {it ins fr gr fr' gr'} (q : At w n env O Γ c fs (ρ.and (Res.em prog w n it ins e fr gr)) X) (x : Apart ρ fr gr)
    (f3 : ∀ a, fr' a → fr a ∨ X.s.heap.get? a = none) (f4 : ∀ k, gr' k → gr k ∨ X.s.gens.size ≤ k) : Apart ρ fr' gr' :=
  ⟨fun a h r => (f3 a h).elim (fun h => x.a a h r) fun h => (by obtain ⟨o, e⟩ := q.th.1 a (q.rF a (.inl r)); rw [h] at e; cases e),
   fun k h r => (f4 k h).elim (fun h => x.g k h r) fun h => absurd (q.th.2 k (q.rK k (.inl r))) (Nat.not_lt.mpr h)⟩

theorem sg_loop {y : Str} {pt : Pos} {it : Value} {body : List Stmt} {K : Flow → Sem Fin} {H : Value → Sem Fin} {gd lv} {l p kp} (hl : env.kindOf y = some .local) {Γ : Lcl} {ins : List PV} {outs : List PV} {o : Out}
    (L : LoopG prog w n env O y body Γ ins e outs o) (hgd : gd false = false) (yf : GFr env c fs) :
    ∀ X fr gr, At w n env O Γ (.forLoop (.Name y pt) it body [] env) (.ret (Kon env K H gd lv) none false l c p kp :: fs) (ρ.and (Res.em prog w n it ins e fr gr)) X → Apart ρ fr gr →
      (After prog w n env O c fs ρ K H e2 outs2 o) →
      SgX prog w (n+1) e2 (outs ++ outs2) (.forLoop (.Name y pt) it body [] env) ((model prog w).den (.forLoop (.Name y pt) it body [] env)) (.ret (Kon env K H gd lv) none false l c p kp :: fs) X := by
  -- the tree of one turn
  have tree : ∀ (Qy : QY) (Qr : Result → Shared → Prop) (X : Pt),
      wpAny (model prog w) (X.A.over (.forLoop (.Name y pt) it body [] env) (.ret (Kon env K H gd lv) none false l c p kp :: fs)) (pyNext it)
        (fun r s' => Run1 (model prog w) X.A (.forLoop (.Name y pt) it body [] env) ((match r with
          | none => again (.block [] env)
          | some v => assign (.Name y pt) env v >>= fun _ => execs body env >>= fun f => match f with
            | .next | .cont => again (.forLoop (.Name y pt) it body [] env)
            | .brk => pure (.done .next)
            | .ret v => pure (.done (.ret v)) : Sem Fin).wrap .pure (fun x => (do noteFrame x env; theTreesLotGoes x : Sem Unit).bind fun _ => .raise x) id id) (.ret (Kon env K H gd lv) none false l c p kp :: fs) s' Qy Qr)
        (fun x s' => Run1 (model prog w) X.A (.forLoop (.Name y pt) it body [] env) ((do noteFrame x env; theTreesLotGoes x : Sem Unit).bind fun _ => .raise x) (.ret (Kon env K H gd lv) none false l c p kp :: fs) s' Qy Qr) X.s →
      Run1 (model prog w) X.A (.forLoop (.Name y pt) it body [] env) ((model prog w).den (.forLoop (.Name y pt) it body [] env)) (.ret (Kon env K H gd lv) none false l c p kp :: fs) X.s Qy Qr := by
    intro Qy Qr X h
    show Run1 _ _ _ ((forTurn (.Name y pt) it body [] env).onRaise (fun x => do noteFrame x env; theTreesLotGoes x)) _ _ _ _
    rw [Sem.onRaise_eq_wrap]
    show Run1 _ _ _ (Sem.wrap _ _ _ _ (Sem.at pt fun _ => ((pyNext it).onRaise (fun _ => standAt { pt with line := 0 }) >>= fun r => (match r with
          | none => again (.block [] env)
          | some v => assign (.Name y pt) env v >>= fun _ => execs body env >>= fun f => match f with
            | .next | .cont => again (.forLoop (.Name y pt) it body [] env)
            | .brk => pure (.done .next)
            | .ret v => pure (.done (.ret v)) : Sem Fin)))) _ _ _ _
    refine run_at ?_
    rw [Sem.bind_eq_wrap', Sem.wrap_wrap]
    refine run_wrap (wpAny_onRaise (wpAny_mono h (fun r s' h' => h') fun x s' h' => wpAny_standAt h'))
  -- one item
  have item : ∀ {Γ : Lcl} {h : PV} {ins : List PV} {e : End'} {outs1 outs2' : List PV} {o1 : Out} (X : Pt) (fr : Addr → Prop) (gr : Nat → Prop), (∀ z d, Γ.own = some (z, d) → z ≠ y) → Gs prog w n env O (Γ.set y h) (execs body env) outs1 o1 →
      At w n env O Γ (.forLoop (.Name y pt) it body [] env) (.ret (Kon env K H gd lv) none false l c p kp :: fs) (ρ.and (Res.em prog w n it (h :: ins) e fr gr)) X → Apart ρ fr gr →
      (∀ fr' gr', Apart ρ fr' gr' → After prog w n env O (.forLoop (.Name y pt) it body [] env) (.ret (Kon env K H gd lv) none false l c p kp :: fs) (ρ.and (Res.em prog w n it ins e fr' gr'))
        (fun f => ((match f with
            | .next | .cont => again (.forLoop (.Name y pt) it body [] env)
            | .brk => pure (.done .next)
            | .ret v => pure (.done (.ret v)) : Sem Fin)).wrap .pure (fun x => (do noteFrame x env; theTreesLotGoes x : Sem Unit).bind fun _ => .raise x) id id)
        (fun x => (do noteFrame x env; theTreesLotGoes x : Sem Unit).bind fun _ => .raise x) e2 outs2' o1) →
      SgX prog w (n+1) e2 (outs1 ++ outs2') (.forLoop (.Name y pt) it body [] env) ((model prog w).den (.forLoop (.Name y pt) it body [] env)) (.ret (Kon env K H gd lv) none false l c p kp :: fs) X := by
    intro Γ h ins e outs1 outs2' o1 X fr gr hown hb q ap ha
    refine sg_iff.mpr (tree _ _ X ?_)
    obtain ⟨l', hfr, frm⟩ := q.frames
    refine wpAny_mono (q.res.2 _ X.G X.s (.refl q.good.wld) ⟨q.rm, _, hfr, frm⟩) (fun r s' h' => ?_) (fun x s' h' => h'.elim)
    obtain ⟨v, G₂, fr', gr', rfl, rp, g, f1, f2, f3, f4, th, _, em'⟩ := h'
    have q' := q.drawn g ap.a ap.g f1 f2 f3 f4 th em'
    have ap' := q.apart ap f3 f4
    show Run1 _ _ _ (Sem.wrap _ _ _ _ (assign (.Name y pt) env v >>= _)) _ _ _ _
    rw [Sem.bind_eq_wrap', Sem.wrap_wrap]
    refine run_wrap (wpAny_assign_good q'.good hl rp hown fun s'' g'' gd'' => ?_)
    have q'' := q'.step g'' gd''
    rw [Sem.bind_eq_wrap', Sem.wrap_wrap]
    exact sg_iff.mp (hb _ _ _ _ _ _ _ e2 outs2' _ q'' rfl (ha fr' gr' ap'))
  induction L with
  | done Γ₀ =>
    intro X fr gr q ap ha
    refine sg_iff.mpr (tree _ _ X ?_)
    obtain ⟨l', hfr, frm⟩ := q.frames
    refine wpAny_mono (q.res.2 _ X.G X.s (.refl q.good.wld) ⟨q.rm, _, hfr, frm⟩) (fun r s' h' => ?_) (fun x s' h' => ?_)
    · obtain ⟨rfl, _, G₂, g⟩ := h'
      show Run1 _ _ _ (.pure (.again (.block [] env))) _ _ _ _
      refine run_again rfl ?_
      show Run1 _ _ _ (leafOf (.ok .next)) _ _ _ _
      refine run_leaf (.ok .next) ?_
      show Run1 _ _ c (K .next) _ _ _ _
      have q' : At w n env O Γ₀ c fs ρ ⟨X.A, X.F0, X.K0, X.F, X.K, X.G0, X.s0, G₂, s'⟩ :=
        { q.left.pop yf rfl rfl rfl rfl with
          cx := q.cx.grow g
          grow := q.grow.trans' (g.mono (fun a h => q.rF a (.inr h)) fun k h => q.rK k (.inr h))
          good := (q.left.pop yf rfl rfl rfl rfl).good.grow g (fun h => q.rL (.inr h)) fun a h r => q.rO a h (.inr r)
          th := q.th.grow g
          res := ρ.st _ _ _ _ (g.mono ap.a ap.g) q.res.1 }
      exact sg_iff.mp (ha _ q')
    · exact absurd h'.1 (by simp)
  | fail Γ₀ =>
    intro X fr gr q ap ha
    refine sg_iff.mpr (tree _ _ X ?_)
    obtain ⟨l', hfr, frm⟩ := q.frames
    refine wpAny_mono (q.res.2 _ X.G X.s (.refl q.good.wld) ⟨q.rm, _, hfr, frm⟩) (fun r s' h' => ?_) (fun x s' h' => ?_)
    · exact absurd h'.2.1 (by simp)
    · obtain ⟨_, G₂, g, e9⟩ := h'
      have q0 := q.left.noRes
      have q' : At w n env O ⟨[], none⟩ (.forLoop (.Name y pt) it body [] env) (.ret (Kon env K H gd lv) none false l c p kp :: fs) (Res.nil w) ⟨X.A, X.F0, X.K0, X.F, X.K, X.G0, X.s0, G₂, s'⟩ :=
        { q0 with
          cx := q.cx.grow g
          grow := q.grow.trans' (g.mono (fun a h => q.rF a (.inr h)) fun k h => q.rK k (.inr h))
          good := by
            have gd' := q.good.grow g (fun h => q.rL (.inr h)) fun a h r => q.rO a h (.inr r)
            exact { gd' with vars := let ⟨m, hm, _⟩ := gd'.vars; ⟨m, hm, fun _ _ e => by simp at e, trivial⟩ }
          th := q.th.grow g
          res := trivial }
      exact sg_iff.mp (loop_err (ρ := ρ) yf q' (e9.start q.grow.ext.live) (.inr (.inl rfl)) ha)
  | next hown hb L ih =>
    intro X fr gr q ap ha
    rw [List.append_assoc]
    refine item X fr gr hown hb q ap fun fr' gr' ap' => fun X' q' => ?_
    exact sg_iff.mpr (run_again rfl (sg_iff.mp (ih X' fr' gr' q' ap' ha)))
  | cont hown hb L ih =>
    intro X fr gr q ap ha
    rw [List.append_assoc]
    refine item X fr gr hown hb q ap fun fr' gr' ap' => fun X' q' => ?_
    exact sg_iff.mpr (run_again rfl (sg_iff.mp (ih X' fr' gr' q' ap' ha)))
  | stop hown hb =>
    intro X fr gr q ap ha
    refine item X fr gr hown hb q ap fun fr' gr' ap' => fun X' x fl q' e9 hfl => ?_
    exact loop_err (ρ := ρ) yf q' e9 hfl ha
end
end Mine

namespace Mine
open PySem PySem.W PySem.Calls PyProof.Rows

section
variable {prog : Program} {w : World} {A : Around} {E : Value → Shared → Prop} {s : Shared}

/-- the walk is over: StopIteration is made and caught -/
theorem stop_tail {α : Type} {A' : Around} {Q : Option Value → Shared → Prop} (hh : A'.handled = none) {t : Sem α} (ht : t = (newExc (.type "StopIteration") [] >>= fun e => raiseNew e))
    (hQ : ∀ h', (∀ b o, s.heap.get? b = some o → h'.get? b = some o) → Q none { s with heap := h' }) :
    wpAny (model prog w) A' t (fun _ _ => False) (fun e s' => wpAny (model prog w) A (isInstance e (.type "StopIteration") >>= fun b => if b = true then pure none else throw e) Q E s') s := by
  subst ht
  refine wpAny_bind ?_
  simp only [newExc, newTuple]
  refine wpAny_bind (wpAny_newObj_type ?_ (by size_fits))
  refine wpAny_bind (m := firstArgMember _ _) (wpAny_of_eq (a := Value.none) (by first | rfl | (simp only [firstArgMember]; rfl)) ?_)
  refine wpAny_newObj_type ?_ (by size_fits)
  simp only [raiseNew]
  refine wpAny_bind (wpAny_handled ?_)
  rw [hh]
  refine wpAny_throw ?_
  refine wpAny_bind (wpAny_isInstance (T := "StopIteration") (b := true) ⟨_, Heap.get?_push_size _ rfl, rfl⟩ isSubtype_stop ?_)
  exact wpAny_pure (hQ _ fun b o hb => Heap.get?_push_of_some _ (Heap.get?_push_of_some _ hb))

theorem list_end {it l : Addr} {i : Nat} {items} {Q : Option Value → Shared → Prop} (hh : A.handled = none)
    (hit : s.heap.IsListIter it l i) (hl : s.heap.IsList l items) (hx : items[i]? = none)
    (hQ : ∀ h', Heap.ExtBut it s.heap h' → (∃ o, h'.get? it = some o) → Q none { s with heap := h' }) : wpAny (model prog w) A (pyNext (.ref it)) Q E s := by
  obtain ⟨o, ho, hc, hd⟩ := id hit
  obtain ⟨ol, hol, _, nl, hdl⟩ := hl
  unfold pyNext
  refine wpAny_bind (wpAny_attempt (wpAny_callSpecial?_slot (name := Str.ofString "__next__") hit.typeIs slot_listiter_next
    (wpAny_call_entry slot_listiter_next hit.typeIs entry_listiter_next ?_ (args_listiter_next _))))
  show wpAny _ _ (field (.ref it) 0 >>= _) _ _ s
  refine wpAny_bind (wpAny_field ho hd (x := .ref l) rfl ?_)
  show wpAny _ _ (if (Value.ref l == Value.none) = true then _ else _) _ _ s
  rw [if_neg (show ¬ ((Value.ref l == Value.none) = true) from Bool.false_ne_true)]
  show wpAny _ _ (field (.ref it) 1 >>= _) _ _ s
  refine wpAny_bind (wpAny_field ho hd (x := .int i 0) rfl ?_)
  show wpAny _ _ (seqItems? (.ref l) >>= _) _ _ s
  refine wpAny_bind (wpAny_seqItems hol hdl ?_)
  simp only [Int.toNat_natCast, hx]
  refine wpAny_bind (wpAny_rule (wpAny_bind (wpAny_setField ho hd (by simp) ?_)))
  have self := Heap.get?_update_self (Obj.mapFields (·.setIfInBounds 0 Value.none)) ho (Obj.isFreed_of_fields (Obj.data_mapFields hd _))
  exact wpAny_mono (stop_tail (A := A) (Q := Q) (E := E) (A' := A.in1) (t := Builtin.SmallTypes.stopIteration) hh rfl fun h' k => hQ h' (fun b ob hb e => k b ob ((Heap.SameBut.update ..).extBut b ob hb e)) ⟨_, k _ _ self⟩) (fun _ _ q => q.elim) fun _ _ q => q

theorem tuple_end {it l : Addr} {i : Nat} {items} {Q : Option Value → Shared → Prop} (hh : A.handled = none)
    (hit : s.heap.IsTupleIter it l i) (hl : s.heap.IsTuple l items) (hx : items[i]? = none)
    (hQ : ∀ h', Heap.ExtBut it s.heap h' → (∃ o, h'.get? it = some o) → Q none { s with heap := h' }) : wpAny (model prog w) A (pyNext (.ref it)) Q E s := by
  obtain ⟨o, ho, hc, hd⟩ := id hit
  obtain ⟨ol, hol, _, nl, hdl⟩ := hl
  unfold pyNext
  refine wpAny_bind (wpAny_attempt (wpAny_callSpecial?_slot (name := Str.ofString "__next__") hit.typeIs F.slot_tuple_iterator_next
    (wpAny_call_entry F.slot_tuple_iterator_next hit.typeIs F.entry_tuple_iterator_next ?_ (F.args_tuple_iterator_next_1 _))))
  show wpAny _ _ (field (.ref it) 0 >>= _) _ _ s
  refine wpAny_bind (wpAny_field ho hd (x := .ref l) rfl ?_)
  show wpAny _ _ (if (Value.ref l == Value.none) = true then _ else _) _ _ s
  rw [if_neg (show ¬ ((Value.ref l == Value.none) = true) from Bool.false_ne_true)]
  show wpAny _ _ (field (.ref it) 1 >>= _) _ _ s
  refine wpAny_bind (wpAny_field ho hd (x := .int i 0) rfl ?_)
  show wpAny _ _ (seqItems? (.ref l) >>= _) _ _ s
  refine wpAny_bind (wpAny_seqItems hol hdl ?_)
  simp only [Int.toNat_natCast, hx]
  refine wpAny_bind (wpAny_rule (wpAny_bind (wpAny_setField ho hd (by simp) ?_)))
  have self := Heap.get?_update_self (Obj.mapFields (·.setIfInBounds 0 Value.none)) ho (Obj.isFreed_of_fields (Obj.data_mapFields hd _))
  exact wpAny_mono (stop_tail (A := A) (Q := Q) (E := E) (A' := A.in1) (t := Builtin.SmallTypes.stopIteration) hh rfl fun h' k => hQ h' (fun b ob hb e => k b ob ((Heap.SameBut.update ..).extBut b ob hb e)) ⟨_, k _ _ self⟩) (fun _ _ q => q.elim) fun _ _ q => q

theorem bytes_end {it : Addr} {b : Array UInt8} {t : Tok} {i : Nat} {Q : Option Value → Shared → Prop} (hh : A.handled = none) (hit : KBw.IsBytesIter s.heap it b t i) (hx : b[i]? = none)
    (hQ : ∀ h', Heap.ExtBut it s.heap h' → (∃ o, h'.get? it = some o) → Q none { s with heap := h' }) : wpAny (model prog w) A (pyNext (.ref it)) Q E s := by
  obtain ⟨o, ho, hc, hd⟩ := id hit
  unfold pyNext
  refine wpAny_bind (wpAny_attempt (wpAny_callSpecial?_slot (name := PySem.Str.ofString "__next__") (KBw.iter_typeIs hit) KBw.slot_next
    (wpAny_call_entry KBw.slot_next (KBw.iter_typeIs hit) KBw.entry_next ?_ (KBw.args_next _))))
  show wpAny _ _ (field (.ref it) 0 >>= _) _ _ s
  refine wpAny_bind (wpAny_field ho hd (x := .bytes b t) rfl ?_)
  show wpAny _ _ (if (Value.bytes b t == Value.none) = true then _ else _) _ _ s
  rw [if_neg (show ¬ ((Value.bytes b t == Value.none) = true) from Bool.false_ne_true)]
  show wpAny _ _ (field (.ref it) 1 >>= _) _ _ s
  refine wpAny_bind (wpAny_field ho hd (x := .int i 0) rfl ?_)
  refine wpAny_bind (wpAny_of_eq (a := b) rfl ?_)
  simp only [Int.toNat_natCast, hx]
  refine wpAny_bind (wpAny_rule (wpAny_bind (wpAny_setField ho hd (by simp) ?_)))
  have self := Heap.get?_update_self (Obj.mapFields (·.setIfInBounds 0 Value.none)) ho (Obj.isFreed_of_fields (Obj.data_mapFields hd _))
  exact wpAny_mono (stop_tail (A := A) (Q := Q) (E := E) (A' := A.in1) (t := Builtin.SmallTypes.stopIteration) hh rfl fun h' k => hQ h' (fun b ob hb e => k b ob ((Heap.SameBut.update ..).extBut b ob hb e)) ⟨_, k _ _ self⟩) (fun _ _ q => q.elim) fun _ _ q => q

theorem range_end {it : Addr} {x left step : Int} {Q : Option Value → Shared → Prop} (hh : A.handled = none) (hit : IsRangeIter s.heap it x left step) (hleft : left ≤ 0)
    (hQ : ∀ h', Heap.ExtBut it s.heap h' → (∃ o, h'.get? it = some o) → Q none { s with heap := h' }) : wpAny (model prog w) A (pyNext (.ref it)) Q E s := by
  have hT : s.TypeIs (.ref it) "range_iterator" := ⟨_, hit, rfl⟩
  unfold pyNext
  refine wpAny_bind (wpAny_attempt (wpAny_callSpecial?_slot (name := Str.ofString "__next__") hT F.slot_range_iterator_next
    (wpAny_call_entry F.slot_range_iterator_next hT F.entry_range_iterator_next ?_ (F.args_range_iterator_next_1 _))))
  show wpAny _ _ (field (.ref it) 0 >>= _) _ _ s
  refine wpAny_bind (wpAny_field hit rfl (x := rawInt x) rfl ?_)
  show wpAny _ _ (field (.ref it) 1 >>= _) _ _ s
  refine wpAny_bind (wpAny_field hit rfl (x := rawInt left) rfl ?_)
  show wpAny _ _ (field (.ref it) 2 >>= _) _ _ s
  refine wpAny_bind (wpAny_field hit rfl (x := rawInt step) rfl ?_)
  show wpAny _ _ (if left ≤ 0 then _ else _) _ _ s
  rw [if_pos hleft]
  refine wpAny_bind (wpAny_rule ?_)
  refine wpAny_bind ?_
  exact wpAny_mono (stop_tail (A := A) (Q := Q) (E := E) (A' := A.in1) (t := Builtin.SmallTypes.stopIteration) hh rfl fun h' k => hQ h' (fun b ob _ e => k b ob e) ⟨_, k _ _ hit⟩) (fun _ _ q => q.elim) fun _ _ q => q
end

section
variable {prog : Program} {w : World}

theorem one_step {G : GH} {s s' : Shared} {it : Addr} {o : Obj} (W : Wld w G s) (hG : G it = none) (ht : ¬ isTab it) (ho : s.heap.get? it = some o) (hd : ¬ IsD o) (hs : Heap.ExtBut it s.heap s'.heap) (hl : ∃ o, s'.heap.get? it = some o)
    (hg : s'.gens = s.gens) (hos : s'.os = s.os) : Grow w (fun a => a = it) No G s G s' := by
  refine ⟨⟨fun a ob q => ?_, fun a ob q nf nt => ⟨ob, hs a ob nf q, .refl _⟩, fun a ob q d => ?_, by rw [hg]; exact Nat.le_refl _, fun _ _ q _ => by rw [hg]; exact q, hos⟩, ⟨fun a ob q => ?_, W.base, fun q hq => ?_, by rw [hg]; exact W.bare⟩, fun _ _ q => q, fun _ _ q => .inl q⟩
  · by_cases h : a = it
    · rw [h]; exact hl
    · exact ⟨ob, hs a ob h q⟩
  · exact ⟨ob, hs a ob (fun h => by rw [h, ho] at q; cases q; exact hd d) q, d⟩
  · exact hs a ob (fun h => by rw [h, hG] at q; cases q) (W.sub a ob q)
  · obtain ⟨h1, ps, h2, h3⟩ := W.tab q hq
    refine ⟨h1, ps, hs _ _ (fun h => ht ?_) h2, h3⟩
    rw [← h]
    simp only [tabs, List.mem_cons, List.not_mem_nil, or_false] at hq
    rcases hq with rfl | rfl | rfl <;> simp [isTab]

/-- the walk over a list (its items known) -/
theorem em_list {n : Nat} {it l : Addr} {vs : Array Value} {ep : Nat} : ∀ {ins : List PV} {i : Nat} {G : GH} {s : Shared}, G l = some { cls := .type "list", data := .seq vs ep } → RepL G ins (vs.toList.drop i) →
    s.heap.IsListIter it l i → G it = none → ¬ isTab it → Em prog w n (.ref it) ins .done (fun a => a = it) No G s := by
  intro ins
  induction ins with
  | nil =>
    intro i G s hl hr hit hG ht
    intro A G₁ s₁ gr cx
    have hl₁ := gr.wld.sub _ _ (gr.sub _ _ hl)
    obtain ⟨o, ho, hc, hd⟩ := hit
    have ho₁ : ∃ o', s₁.heap.get? it = some o' ∧ Sim o o' := gr.ext.old it o ho (fun h => h rfl) ht
    obtain ⟨o', ho', sm⟩ := ho₁
    have nd : ¬ IsD o := not_isD hd
    rw [sm.eq_of_not nd] at ho'
    have hG₁ := gr.gnone hG ho
    unfold RepL at hr
    have hx : vs[i]? = none := by
      have : vs.toList.length ≤ i := by simpa using hr
      simpa using this
    refine list_end cx.rm.handled ⟨o, ho', hc, hd⟩ ⟨_, hl₁, rfl, ep, rfl⟩ hx fun h' hs hl' => ⟨rfl, rfl, G₁, one_step gr.wld hG₁ ht ho' nd hs hl' rfl rfl⟩
  | cons p ins ih =>
    intro i G s hl hr hit hG ht
    intro A G₁ s₁ gr cx
    have hl₁ := gr.wld.sub _ _ (gr.sub _ _ hl)
    obtain ⟨o, ho, hc, hd⟩ := hit
    obtain ⟨o', ho', sm⟩ := gr.ext.old it o ho (fun h => h rfl) ht
    have nd : ¬ IsD o := not_isD hd
    rw [sm.eq_of_not nd] at ho'
    have hG₁ := gr.gnone hG ho
    unfold RepL at hr
    obtain ⟨v, r, e, rp, rr⟩ := hr
    have hx : vs[i]? = some v := by
      have : (vs.toList.drop i)[0]? = some v := by rw [e]; rfl
      simpa using this
    have hr' : vs.toList.drop (i+1) = r := by
      have : (vs.toList.drop i).drop 1 = r := by rw [e]; rfl
      simpa [List.drop_drop, Nat.add_comm] using this
    refine wpAny_pyNext_list_item ⟨o, ho', hc, hd⟩ ⟨_, hl₁, rfl, ep, rfl⟩ hx fun h' hit' hs => ?_
    have lv : ∃ o, h'.get? it = some o := let ⟨o2, e2, _⟩ := hit'; ⟨o2, e2⟩
    have lgo : ∀ {v tk}, LetGo prog w (.ref it) v { s₁ with heap := h', toks := tk } := let ⟨o2, e2, c2, d2⟩ := hit'; letGo_of e2 c2 d2 (by decide +kernel)
    have g := one_step (s' := { s₁ with heap := h' }) gr.wld hG₁ ht ho' nd hs.extBut lv rfl rfl
    exact ⟨v, G₁, fun a => a = it, No, rfl, rp.mono gr.sub, g, fun _ h => h, fun _ h => h, fun _ h => .inl h, fun _ h => .inl h, ⟨fun a h => h ▸ lv, fun _ h => h.elim⟩, lgo,
      ih (i := i+1) (gr.sub _ _ hl) (by rw [hr']; exact rr.mono gr.sub) hit' hG₁ ht⟩
end
end Mine

namespace Mine
open PySem PySem.W PySem.Calls PyProof.Rows

section
variable {prog : Program} {w : World}

theorem em_tuple {n : Nat} {it l : Addr} {vs : Array Value} {ep : Nat} : ∀ {ins : List PV} {i : Nat} {G : GH} {s : Shared}, G l = some { cls := .type "tuple", data := .seq vs ep } → RepL G ins (vs.toList.drop i) →
    s.heap.IsTupleIter it l i → G it = none → ¬ isTab it → Em prog w n (.ref it) ins .done (fun a => a = it) No G s := by
  intro ins
  induction ins with
  | nil =>
    intro i G s hl hr hit hG ht
    intro A G₁ s₁ gr cx
    have hl₁ := gr.wld.sub _ _ (gr.sub _ _ hl)
    obtain ⟨o, ho, hc, hd⟩ := hit
    obtain ⟨o', ho', sm⟩ := gr.ext.old it o ho (fun h => h rfl) ht
    have nd : ¬ IsD o := not_isD hd
    rw [sm.eq_of_not nd] at ho'
    have hG₁ := gr.gnone hG ho
    unfold RepL at hr
    have hx : vs[i]? = none := by
      have : vs.toList.length ≤ i := by simpa using hr
      simpa using this
    refine tuple_end cx.rm.handled ⟨o, ho', hc, hd⟩ ⟨_, hl₁, rfl, ep, rfl⟩ hx fun h' hs hl' => ⟨rfl, rfl, G₁, one_step gr.wld hG₁ ht ho' nd hs hl' rfl rfl⟩
  | cons p ins ih =>
    intro i G s hl hr hit hG ht
    intro A G₁ s₁ gr cx
    have hl₁ := gr.wld.sub _ _ (gr.sub _ _ hl)
    obtain ⟨o, ho, hc, hd⟩ := hit
    obtain ⟨o', ho', sm⟩ := gr.ext.old it o ho (fun h => h rfl) ht
    have nd : ¬ IsD o := not_isD hd
    rw [sm.eq_of_not nd] at ho'
    have hG₁ := gr.gnone hG ho
    unfold RepL at hr
    obtain ⟨v, r, e, rp, rr⟩ := hr
    have hx : vs[i]? = some v := by
      have : (vs.toList.drop i)[0]? = some v := by rw [e]; rfl
      simpa using this
    have hr' : vs.toList.drop (i+1) = r := by
      have : (vs.toList.drop i).drop 1 = r := by rw [e]; rfl
      simpa [List.drop_drop, Nat.add_comm] using this
    refine wpAny_pyNext_tuple_item ⟨o, ho', hc, hd⟩ ⟨_, hl₁, rfl, ep, rfl⟩ hx fun h' hit' hs => ?_
    have lv : ∃ o, h'.get? it = some o := let ⟨o2, e2, _⟩ := hit'; ⟨o2, e2⟩
    have lgo : ∀ {v tk}, LetGo prog w (.ref it) v { s₁ with heap := h', toks := tk } := let ⟨o2, e2, c2, d2⟩ := hit'; letGo_of e2 c2 d2 (by decide +kernel)
    have g := one_step (s' := { s₁ with heap := h' }) gr.wld hG₁ ht ho' nd hs.extBut lv rfl rfl
    exact ⟨v, G₁, fun a => a = it, No, rfl, rp.mono gr.sub, g, fun _ h => h, fun _ h => h, fun _ h => .inl h, fun _ h => .inl h, ⟨fun a h => h ▸ lv, fun _ h => h.elim⟩, lgo,
      ih (i := i+1) (gr.sub _ _ hl) (by rw [hr']; exact rr.mono gr.sub) hit' hG₁ ht⟩

noncomputable def bytePVs (l : List UInt8) : List PV := l.map fun c => .int c.toNat

theorem em_bytes {n : Nat} {it : Addr} {b : Array UInt8} {t : Tok} : ∀ {l : List UInt8} {i : Nat} {G : GH} {s : Shared}, b.toList.drop i = l →
    KBw.IsBytesIter s.heap it b t i → G it = none → ¬ isTab it → Em prog w n (.ref it) (bytePVs l) .done (fun a => a = it) No G s := by
  intro l
  induction l with
  | nil =>
    intro i G s hr hit hG ht
    intro A G₁ s₁ gr cx
    obtain ⟨o, ho, hc, hd⟩ := hit
    obtain ⟨o', ho', sm⟩ := gr.ext.old it o ho (fun h => h rfl) ht
    have nd : ¬ IsD o := not_isD hd
    rw [sm.eq_of_not nd] at ho'
    have hG₁ := gr.gnone hG ho
    have hx : b[i]? = none := by
      have : b.toList.length ≤ i := by simpa using hr
      simpa using this
    refine bytes_end cx.rm.handled ⟨o, ho', hc, hd⟩ hx fun h' hs hl' => ⟨rfl, rfl, G₁, one_step gr.wld hG₁ ht ho' nd hs hl' rfl rfl⟩
  | cons p l ih =>
    intro i G s hr hit hG ht
    intro A G₁ s₁ gr cx
    obtain ⟨o, ho, hc, hd⟩ := hit
    obtain ⟨o', ho', sm⟩ := gr.ext.old it o ho (fun h => h rfl) ht
    have nd : ¬ IsD o := not_isD hd
    rw [sm.eq_of_not nd] at ho'
    have hG₁ := gr.gnone hG ho
    have hx : b[i]? = some p := by
      have : (b.toList.drop i)[0]? = some p := by rw [hr]; rfl
      simpa using this
    have hr' : b.toList.drop (i+1) = l := by
      have : (b.toList.drop i).drop 1 = l := by rw [hr]; rfl
      simpa [List.drop_drop, Nat.add_comm] using this
    refine KBw.next_item ⟨o, ho', hc, hd⟩ hx fun h' hit' hs => ?_
    have lv : ∃ o, h'.get? it = some o := let ⟨o2, e2, _⟩ := hit'; ⟨o2, e2⟩
    have lgo : ∀ {v tk}, LetGo prog w (.ref it) v { s₁ with heap := h', toks := tk } := let ⟨o2, e2, c2, d2⟩ := hit'; letGo_of e2 c2 d2 (by decide +kernel)
    have g := one_step (s' := { s₁ with heap := h', toks := s₁.toks + 1 }) gr.wld hG₁ ht ho' nd hs.extBut lv rfl rfl
    exact ⟨_, G₁, fun a => a = it, No, rfl, ⟨_, rfl⟩, g, fun _ h => h, fun _ h => h, fun _ h => .inl h, fun _ h => .inl h, ⟨fun a h => h ▸ lv, fun _ h => h.elim⟩, lgo,
      ih (i := i+1) hr' hit' hG₁ ht⟩

noncomputable def rangePVs (x : Int) : Nat → List PV
  | 0 => []
  | n+1 => .int x :: rangePVs (x+1) n

theorem em_range {n : Nat} {it : Addr} : ∀ {k : Nat} {x : Int} {G : GH} {s : Shared}, IsRangeIter s.heap it x k 1 → G it = none → ¬ isTab it → Em prog w n (.ref it) (rangePVs x k) .done (fun a => a = it) No G s := by
  intro k
  induction k with
  | zero =>
    intro x G s hit hG ht
    intro A G₁ s₁ gr cx
    have ho : s.heap.get? it = some _ := hit
    obtain ⟨o', ho', sm⟩ := gr.ext.old it _ ho (fun h => h rfl) ht
    have nd : ¬ IsD _ := not_isD (o := { cls := .type "range_iterator", data := .fields #[rawInt x, rawInt ((0 : Nat) : Int), rawInt 1] }) rfl
    rw [sm.eq_of_not nd] at ho'
    have hG₁ := gr.gnone hG ho
    refine range_end cx.rm.handled ho' (by simp) fun h' hs hl' => ⟨rfl, rfl, G₁, one_step gr.wld hG₁ ht ho' nd hs hl' rfl rfl⟩
  | succ k ih =>
    intro x G s hit hG ht
    intro A G₁ s₁ gr cx
    have ho : s.heap.get? it = some _ := hit
    obtain ⟨o', ho', sm⟩ := gr.ext.old it _ ho (fun h => h rfl) ht
    have nd : ¬ IsD _ := not_isD (o := { cls := .type "range_iterator", data := .fields #[rawInt x, rawInt ((k + 1 : Nat) : Int), rawInt 1] }) rfl
    rw [sm.eq_of_not nd] at ho'
    have hG₁ := gr.gnone hG ho
    refine wpAny_pyNext_range_item (x := x) (left := ((k + 1 : Nat) : Int)) (step := 1) ho' (by omega) fun h' hit' hs => ?_
    have lv : ∃ o, h'.get? it = some o := ⟨_, hit'⟩
    have lgo : ∀ {v tk}, LetGo prog w (.ref it) v { s₁ with heap := h', toks := tk } := letGo_of (show _ = some _ from hit') rfl rfl (by decide +kernel)
    have g := one_step (s' := { s₁ with heap := h', toks := s₁.toks + 1 }) gr.wld hG₁ ht ho' nd hs.extBut lv rfl rfl
    have e : ((k + 1 : Nat) : Int) - 1 = (k : Int) := by omega
    rw [e] at hit'
    exact ⟨_, G₁, fun a => a = it, No, rfl, ⟨_, rfl⟩, g, fun _ h => h, fun _ h => h, fun _ h => .inl h, fun _ h => .inl h, ⟨fun a h => h ▸ lv, fun _ h => h.elim⟩, lgo, ih hit' hG₁ ht⟩
end

section
variable {prog : Program} {w : World} {n : Nat} {env : Env} {O : Option Addr} {Γ Γ' : Lcl} {c c' : Code} {fs : List Frame} {ρ σ : Res w} {X : Pt} {e e2 : End'} {outs outs2 : List PV}

/-- an expression, walked over -/
noncomputable def EvIt (prog : Program) (w : World) (n : Nat) (env : Env) (Γ : Lcl) (iter : Expr) (ins : List PV) (e : End') : Prop :=
  ∀ A O G s, Rm n A → Good w A env O Γ G s → wpAny (model prog w) A (eval iter env) (fun v s' => foldedSetIterable iter env v = pure v ∧
    wpAny (model prog w) A (pyIter v) (fun it s'' => ∃ G'' fr gr, Grow w Pure No G s G'' s'' ∧ (∀ a, fr a → s.heap.get? a = none) ∧ (∀ k, gr k → s.gens.size ≤ k) ∧ There fr gr s'' ∧ Em prog w n it ins e fr gr G'' s'') (fun _ _ => False) s') (fun _ _ => False) s

theorem iter_new {G : GH} {s : Shared} {o : Obj} {ins : List PV} (W : Wld w G s) (hf : o.isFreed = false) (h : ∀ s', s' = { s with heap := s.heap.push o } → Em prog w n (.ref s.heap.objs.size) ins e (fun a => a = s.heap.objs.size) No G s') :
    ∃ G'' fr gr, Grow w Pure No G s G'' { s with heap := s.heap.push o } ∧ (∀ a, fr a → s.heap.get? a = none) ∧ (∀ k, gr k → s.gens.size ≤ k) ∧ There fr gr { s with heap := s.heap.push o } ∧ Em prog w n (.ref s.heap.objs.size) ins e fr gr G'' { s with heap := s.heap.push o } :=
  ⟨G, fun a => a = s.heap.objs.size, No, .push0 (tk := s.toks) W, fun a h => h ▸ end_dead _, fun _ h => h.elim, ⟨fun a h => h ▸ ⟨o, Heap.get?_push_size _ hf⟩, fun _ h => h.elim⟩, h _ rfl⟩

theorem evIt_list {iter : Expr} {ins : List PV} (h : EvP prog w n env Γ iter (.lst ins)) (hs : ∀ v, foldedSetIterable iter env v = pure v) : EvIt prog w n env Γ iter ins .done := by
  intro A O G s hr g
  refine h.use hr g fun v G1 s1 g1 gd1 q => ⟨hs v, ?_⟩
  unfold Rep at q
  obtain ⟨a, vs, ep, rfl, hG, rl⟩ := q
  refine wpAny_pyIter_list ⟨_, gd1.wld.sub _ _ hG, rfl, ep, rfl⟩ ?_
  obtain ⟨G'', fr, gr, x1, x2, x3, x4, x5⟩ := iter_new (prog := prog) (n := n) (e := .done) (ins := ins) (o := { cls := .type "list_iterator", data := .fields #[.ref a, .int 0 0] }) gd1.wld rfl fun s' e' => em_list (i := 0) hG rl (by subst e'; exact ⟨_, Heap.get?_push_size _ rfl, rfl, rfl⟩) (gd1.wld.fresh (end_dead _)) (gd1.wld.ntab (end_dead _))
  exact ⟨G'', fr, gr, g1.trans' x1, fun a h => g1.ext.dead (x2 a h), fun k h => Nat.le_trans g1.ext.gsize (x3 k h), x4, x5⟩
theorem evIt_tuple {iter : Expr} {ins : List PV} (h : EvP prog w n env Γ iter (.tup ins)) (hs : ∀ v, foldedSetIterable iter env v = pure v) : EvIt prog w n env Γ iter ins .done := by
  intro A O G s hr g
  refine h.use hr g fun v G1 s1 g1 gd1 q => ⟨hs v, ?_⟩
  unfold Rep at q
  obtain ⟨a, vs, ep, rfl, hG, rl⟩ := q
  refine wpAny_pyIter_tuple ⟨_, gd1.wld.sub _ _ hG, rfl, ep, rfl⟩ ?_
  obtain ⟨G'', fr, gr, x1, x2, x3, x4, x5⟩ := iter_new (prog := prog) (n := n) (e := .done) (ins := ins) (o := { cls := .type "tuple_iterator", data := .fields #[.ref a, .int 0 0] }) gd1.wld rfl fun s' e' => em_tuple (i := 0) hG rl (by subst e'; exact ⟨_, Heap.get?_push_size _ rfl, rfl, rfl⟩) (gd1.wld.fresh (end_dead _)) (gd1.wld.ntab (end_dead _))
  exact ⟨G'', fr, gr, g1.trans' x1, fun a h => g1.ext.dead (x2 a h), fun k h => Nat.le_trans g1.ext.gsize (x3 k h), x4, x5⟩
theorem evIt_bytes {iter : Expr} {b : B} (h : EvP prog w n env Γ iter (.byt b)) (hs : ∀ v, foldedSetIterable iter env v = pure v) : EvIt prog w n env Γ iter (bytePVs b.toList) .done := by
  intro A O G s hr g
  refine h.use hr g fun v G1 s1 g1 gd1 q => ⟨hs v, ?_⟩
  unfold Rep at q
  obtain ⟨t, rfl⟩ := q
  refine KBw.pyIter_bytes ?_
  obtain ⟨G'', fr, gr, x1, x2, x3, x4, x5⟩ := iter_new (prog := prog) (n := n) (e := .done) (ins := bytePVs b.toList) (o := { cls := .type "bytes_iterator", data := .fields #[.bytes b t, .int 0 0] }) gd1.wld rfl fun s' e' => em_bytes (i := 0) rfl (by subst e'; exact ⟨_, Heap.get?_push_size _ rfl, rfl, rfl⟩) (gd1.wld.fresh (end_dead _)) (gd1.wld.ntab (end_dead _))
  exact ⟨G'', fr, gr, g1.trans' x1, fun a h => g1.ext.dead (x2 a h), fun k h => Nat.le_trans g1.ext.gsize (x3 k h), x4, x5⟩

theorem sg_forIt {y : Str} {pt : Pos} {it : Value} {body : List Stmt} {K : Flow → Sem Fin} {H : Value → Sem Fin} {gd lv} (hl : env.kindOf y = some .local) {ins : List PV} {o : Out}
    (L : LoopG prog w n env O y body Γ ins e outs o) (hgd : gd false = false) {fr gr} (q : At w n env O Γ c fs (ρ.and (Res.em prog w n it ins e fr gr)) X) (ap : Apart ρ fr gr)
    (ha : After prog w n env O c fs ρ K H e2 outs2 o) : SgX prog w (n+1) e2 (outs ++ outs2) c ((runOwn (.forLoop (.Name y pt) it body [] env) env).wrap K H gd lv) fs X := by
  refine sg_iff.mpr ?_
  show Run1 _ _ c (.call (.forLoop (.Name y pt) it body [] env) none (gd false) (lv []) (Kon env K H gd lv)) fs _ _ _
  rw [hgd]
  refine run_call fun p => ?_
  exact sg_iff.mp (sg_loop hl L hgd q.gfr X fr gr (q.push rfl rfl rfl rfl) ap ha)

/-- a loop in a generator -/
theorem gs_for {y : Str} {pt pos : Pos} {iter : Expr} {body : List Stmt} {ins : List PV} {o : Out} (hit : EvIt prog w n env Γ iter ins e) (hl : env.kindOf y = some .local)
    (L : LoopG prog w n env O y body Γ ins e outs o) : Gs prog w n env O Γ (exec (.For (.Name y pt) iter body [] pos) env) outs o := by
  intro c fs ρ K H gd lv e2 outs2 X q hgd ha
  rw [exec_For]
  refine sg_iff.mpr (run_at ?_)
  show Run1 _ _ c ((eval iter env >>= fun x0 => foldedSetIterable iter env x0 >>= fun x => standAt iter.pos >>= fun _ => holding [x] (pyIter x) >>= fun it => runOwn (.forLoop (.Name y pt) it body [] env) env).wrap K H gd lv) fs _ _ _
  rw [Sem.bind_eq_wrap', Sem.wrap_wrap]
  refine run_wrap (wpAny_mono (hit _ _ _ _ q.rm q.good) (fun v s1 h1 => ?_) fun _ _ h => h.elim)
  rw [h1.1]
  refine run_at ?_
  show Run1 _ _ c ((holding [v] (pyIter v) >>= fun it => runOwn (.forLoop (.Name y pt) it body [] env) env).wrap K H gd lv) fs _ _ _
  rw [Sem.bind_eq_wrap', Sem.wrap_wrap]
  refine run_wrap (wpAny_holding (wpAny_mono h1.2 (fun it s2 h2 => ?_) fun _ _ h => h.elim))
  obtain ⟨G2, fr, gr, g, d1, d2, th, em⟩ := h2
  have q1 := q.pure g
  have q2 : At w n env O Γ c fs (ρ.and (Res.em prog w n it ins e fr gr)) ⟨X.A, X.F0, X.K0, fun a => X.F a ∨ fr a, fun k => X.K k ∨ gr k, X.G0, X.s0, G2, s2⟩ :=
    { q1 with
      grow := q1.grow.mono (fun _ h => .inl h) fun _ h => .inl h
      ff := fun a h => .inl (q1.ff a h)
      kk := fun a h => .inl (q1.kk a h)
      fn := fun a h => h.elim (q1.fn a) fun h => .inr (q.grow.ext.dead (d1 a h))
      kn := fun a h => h.elim (q1.kn a) fun h => .inr (Nat.le_trans q.grow.ext.gsize (d2 a h))
      fL := .inl q1.fL
      fO := fun a h => .inl (q1.fO a h)
      th := ⟨fun a h => h.elim (q1.th.1 a) (th.1 a), fun k h => h.elim (q1.th.2 k) (th.2 k)⟩
      rF := fun a h => h.elim (fun h => .inl (q1.rF a h)) .inr
      rK := fun a h => h.elim (fun h => .inl (q1.rK a h)) .inr
      rL := fun h => h.elim q1.rL fun h => by
        obtain ⟨m, ⟨o, es, ep, ho, _⟩, _⟩ := q.good.vars
        have := d1 _ h; rw [ho] at this; cases this
      rO := fun a h r => r.elim (q1.rO a h) fun r => by
        obtain ⟨_, _, _, o, ho, _⟩ := q.good.oown a h
        have := d1 _ r; rw [ho] at this; cases this
      res := ⟨q1.res, em⟩ }
  have ap : Apart ρ fr gr := ⟨fun a h r => (by obtain ⟨o, ho⟩ := q.th.1 a (q.rF a r); have := d1 _ h; rw [ho] at this; cases this), fun k h r => absurd (q.th.2 k (q.rK k r)) (Nat.not_lt.mpr (d2 k h))⟩
  exact sg_iff.mp (sg_forIt hl L hgd q2 ap ha)
end
end Mine

namespace Mine
open PySem PySem.W PySem.Calls PyProof.Rows

section
variable {prog : Program} {w : World} {n : Nat} {env : Env} {O : Option Addr} {Γ Γ' : Lcl} {c c' : Code} {fs : List Frame} {ρ ρ' σ : Res w} {X : Pt} {e e2 : End'} {outs outs2 : List PV}

/-- statements of a generator that take from what was laid aside -/
noncomputable def GsR (prog : Program) (w : World) (n : Nat) (env : Env) (O : Option Addr) (ρ ρ' : Res w) (Γ : Lcl) (t : Sem Flow) (outs : List PV) (o : Out) : Prop :=
  ∀ c fs K H gd lv e outs2 X, At w n env O Γ c fs ρ X → gd false = false → After prog w n env O c fs ρ' K H e outs2 o → SgX prog w (n+1) e (outs ++ outs2) c (t.wrap K H gd lv) fs X

theorem Gs.r {t o} (h : Gs prog w n env O Γ t outs o) : GsR prog w n env O ρ ρ Γ t outs o := fun c fs K H gd lv e outs2 X x hgd ha => h c fs ρ K H gd lv e outs2 X x hgd ha
theorem gsr_first {st : Stmt} {rest : List Stmt} {outs1 outs2 : List PV} {o : Out} (h1 : GsR prog w n env O ρ ρ' Γ (exec st env) outs1 (.next Γ')) (h2 : Gs prog w n env O Γ' (execs rest env) outs2 o) :
    GsR prog w n env O ρ ρ' Γ (execs (st :: rest) env) (outs1 ++ outs2) o := by
  intro c fs K H gd lv e outs3 X x hgd ha
  rw [execs_cons_wrap, List.append_assoc]
  exact h1 c fs _ H gd lv e (outs2 ++ outs3) X x hgd fun X' x' => h2 c fs ρ' K H gd lv e outs3 X' x' hgd ha
theorem gsr_then {st : Stmt} {rest : List Stmt} {outs2 : List PV} {o : Out} (h1 : Gs prog w n env O Γ (exec st env) [] (.next Γ')) (h2 : GsR prog w n env O ρ ρ' Γ' (execs rest env) outs2 o) :
    GsR prog w n env O ρ ρ' Γ (execs (st :: rest) env) outs2 o := by
  intro c fs K H gd lv e outs3 X x hgd ha
  rw [execs_cons_wrap]
  exact h1 c fs ρ _ H gd lv e (outs2 ++ outs3) X x hgd fun X' x' => h2 c fs K H gd lv e outs3 X' x' hgd ha
theorem gsr_stop {st : Stmt} {rest : List Stmt} {outs1 : List PV} {o : Out} (h1 : GsR prog w n env O ρ ρ' Γ (exec st env) outs1 o) (ho : ∀ Γ', o ≠ .next Γ') :
    GsR prog w n env O ρ ρ' Γ (execs (st :: rest) env) outs1 o := by
  intro c fs K H gd lv e outs3 X x hgd ha
  rw [execs_cons_wrap]
  refine h1 c fs _ H gd lv e outs3 X x hgd ?_
  cases o with
  | next Γ' => exact absurd rfl (ho Γ')
  | cont Γ' => exact ha
  | ret p => exact ha
  | err => exact ha

/-- the headers that come in: a list, or a generator laid aside -/
noncomputable def Inp (prog : Program) (w : World) (n : Nat) (ins : List PV) (e : End') (p : PV) (ρ : Res w) : Prop :=
  (p = .lst ins ∧ e = .done ∧ ρ = Res.nil w) ∨ ∃ a g fr gr, p = .gen a g ∧ ρ = (Res.nil w).and (Res.em prog w n (.ref a) ins e fr gr)

theorem gsr_for {y x : Str} {px pt pos : Pos} {body : List Stmt} {ins : List PV} {o : Out} {p : PV} (hin : Inp prog w n ins e p ρ) (hx : Γ.vars.lookup x = some p) (hl : env.kindOf y = some .local)
    (L : LoopG prog w n env O y body Γ ins e outs o) (hd : (x == ("__debug__" : Str)) = false := by decide) : GsR prog w n env O ρ (Res.nil w) Γ (exec (.For (.Name y pt) (.Name x px) body [] pos) env) outs o := by
  rcases hin with ⟨rfl, rfl, rfl⟩ | ⟨a, g, fr, gr, rfl, rfl⟩
  · exact (gs_for (evIt_list (ev_name hx hd) fun v => rfl) hl L).r
  · intro c fs K H gd lv e2 outs2 X q hgd ha
    rw [exec_For]
    refine sg_iff.mpr (run_at ?_)
    show Run1 _ _ c ((eval (.Name x px) env >>= fun x0 => foldedSetIterable (.Name x px) env x0 >>= fun x1 => standAt px >>= fun _ => holding [x1] (pyIter x1) >>= fun it => runOwn (.forLoop (.Name y pt) it body [] env) env).wrap K H gd lv) fs _ _ _
    rw [Sem.bind_eq_wrap', Sem.wrap_wrap]
    refine run_wrap ((ev_name (prog := prog) (n := n) hx hd).use q.rm q.good fun v G1 s1 g1 gd1 r => ?_)
    unfold Rep at r
    obtain ⟨rfl, t1, t2, hG⟩ := r
    have q1 := q.pure g1
    show Run1 _ _ c ((standAt px >>= fun _ => holding [.ref a] (pyIter (.ref a)) >>= fun it => runOwn (.forLoop (.Name y pt) it body [] env) env).wrap K H gd lv) fs _ _ _
    refine run_at ?_
    show Run1 _ _ c ((holding [.ref a] (pyIter (.ref a)) >>= fun it => runOwn (.forLoop (.Name y pt) it body [] env) env).wrap K H gd lv) fs _ _ _
    rw [Sem.bind_eq_wrap', Sem.wrap_wrap]
    refine run_wrap (wpAny_holding (wpAny_pyIter_gen (g := g) ⟨_, t1, t2, gd1.wld.sub _ _ hG, rfl, rfl, rfl⟩ ?_))
    exact sg_iff.mp (sg_forIt hl L hgd q1 ⟨fun _ _ h => h, fun _ _ h => h⟩ ha)

/-- the tail of a generator function's frame -/
noncomputable def Kf : Flow → Sem Fin := fun f => .pure (.done (.ret (match f with | .ret v => v | _ => .none)))
noncomputable def Hf (env : Env) : Value → Sem Fin := fun e => (leaving env e).wrap (fun _ => .raise e) .raise id id

theorem sg_func {body : List Stmt} (h : SgX prog w n e outs (.func body env) ((execs body env).wrap Kf (Hf env) id id) fs X) : SgX prog w n e outs (.func body env) ((model prog w).den (.func body env)) fs X := by
  refine sg_iff.mpr ?_
  show Run1 _ _ (.func body env) (.point [] fun _ => ((execs body env).onRaise (leaving env)) >>= _) fs _ _ _
  refine run_point ?_
  rw [Sem.onRaise_eq_wrap, Sem.bind_eq_wrap', Sem.wrap_wrap]
  rw [Sem.wrap_congr (execs body env) _ _ (K' := Kf) (H' := Hf env) (fun f => by cases f <;> rfl) (fun e => by rw [Sem.bind_eq_wrap, Sem.wrap_wrap]; rfl)]
  exact sg_iff.mp h

theorem after_done (c : Code) : After prog w n env O c [] ρ Kf (Hf env) .done [] (.next Γ) := by
  intro X' q
  exact sg_iff.mpr (run_end (.ok (.ret .none)) ⟨.inl rfl, X'.G, q.grow.shrink q.fn q.kn⟩)
theorem after_err (c : Code) : After prog w n env O c [] ρ Kf (Hf env) .err [] .err := by
  intro X' x fl q e9 hfl
  obtain ⟨l, hfr, fr⟩ := q.frames
  refine sg_iff.mpr (run_wrap (err_leaving q.good.wld q.tabd q.alive hfr fr q.self e9 hfl fun h' g' e' => ?_))
  refine run_end (.error x) ⟨x, X'.G, rfl, (g'.grow q.grow).shrink q.fn q.kn, e'⟩

/-- a whole body -/
theorem gen_body {body : List Stmt} {o : Out} (h : GsR prog w n env O ρ ρ' Γ (execs body env) outs o) (ho : (e = .done ∧ ∃ Γ', o = .next Γ') ∨ (e = .err ∧ o = .err))
    (q : At w n env O Γ (.func body env) [] ρ X) : SgX prog w (n+1) e outs (.func body env) ((model prog w).den (.func body env)) [] X := by
  refine sg_func ?_
  have := h (.func body env) [] Kf (Hf env) id id e [] X q rfl
  rw [List.append_nil] at this
  refine this ?_
  rcases ho with ⟨rfl, Γ', rfl⟩ | ⟨rfl, rfl⟩
  · exact after_done _
  · exact after_err _
end
end Mine

namespace Mine
open PySem PySem.W PySem.Calls PyProof.Rows

theorem Grow.newGen {w F K G s c} (W : Wld w G s) : Grow w F K G s G { s with gens := s.gens.push (.fresh c) } :=
  ⟨⟨fun a o e => ⟨o, e⟩, fun a o e _ _ => ⟨o, e, .refl o⟩, fun a o e d => ⟨o, e, d⟩, by simp, fun k st e _ => by
      have := gens_lt e
      show (s.gens.push _)[k]? = _
      rw [Array.getElem?_push_lt this, ← e, Array.getElem?_eq_getElem this], rfl⟩,
    ⟨W.sub, W.base, W.tab, W.bare.push rfl⟩, fun _ _ e => e, fun _ _ e => .inl e⟩

theorem CodeRecG.rec {w G s cd q} (W : Wld w G s) (x : CodeRecG G cd q) : s.heap.CodeRec cd q := by
  obtain ⟨c, oc, vs, t, h1, h2, h3, h4⟩ := x
  exact ⟨c, oc, vs, t, h1, W.sub _ _ h2, h3, h4⟩

section
variable {prog : Program} {w : World} {n : Nat} {A : Around} {G : GH} {s : Shared} {e : End'} {outs : List PV}

/-- what is needed of a function's record -/
structure FnOk (fd : FuncData) (body : List Stmt) : Prop where
  body : fd.body = .stmts body
  co : fd.scope.isCoroutine = false
  cell : ∀ x ∈ fd.scope.names, x.2 ≠ .cell
  kind : fd.scope.kind = .function
  glob : fd.globals = mainGlobals
  bi : fd.builtins = builtinsNs

/-- what a call that gives a generator leaves behind; F: what it may change; fr, gr: the generator that it feeds on -/
inductive GenC (prog : Program) (w : World) (m : Nat) (F : Addr → Prop) (fr : Addr → Prop) (gr : Nat → Prop) (G : GH) (s : Shared) (outs : List PV) (e' : End') (v : Value) (s' : Shared) : Prop
  | mk (g k : Nat) (G' : GH) (FP : Addr → Prop) (GP : Nat → Prop) (h1 : v = .ref g) (h2 : Grow w F No G s G' s') (h3 : Rep G' (.gen g k) (.ref g)) (h4 : Em prog w m (.ref g) outs e' FP GP G' s')
      (h5 : ∀ a, FP a → fr a ∨ s.heap.get? a = none) (h6 : ∀ k, GP k → gr k ∨ s.gens.size ≤ k) (h7 : There FP GP s')

theorem call_gen {fa : Addr} {fd : FuncData} {body : List Stmt} {args : Args} {binds : List (Str × Value)} {Γ₀ : Lcl} {ρ : Res w}
    (hfo : G fa = some { cls := .type "function", data := .func fd }) (ok : FnOk fd body) (hgen : fd.scope.isGenerator = true) (hcd : CodeRecG G fd.code fd.qualname)
    (hbind : bindArgs fd args = pure binds) (hloc : ∀ x ∈ binds, fd.scope.names.lookup x.1 = some .local)
    (hΓ : ∀ L x p, Γ₀.vars.lookup x = some p → ∃ v, Reads (callEnv fd L fa) (fun y => binds.reverse.lookup y) G x v ∧ Rep G p v) (hown : Γ₀.own = none)
    (W : Wld w G s) (cx : Cx 1 A G s) (hρ : ρ.holds G s) (hth : There ρ.fr ρ.gr s)
    (run : ∀ L X, At w n (callEnv fd L fa) none Γ₀ (.func body (callEnv fd L fa)) [] ρ X → SgX prog w (n+1) e outs (.func body (callEnv fd L fa)) ((model prog w).den (.func body (callEnv fd L fa))) [] X) :
    codeAny (model prog w) A (.call (.ref fa) args) (fun r s' => ∃ v, r = .ok (.ret v) ∧ GenC prog w (n+2) Pure ρ.fr ρ.gr G s outs e v s') s := by
  refine codeAny_call_generator cx.rm.room (W.sub _ _ hfo) rfl ok.co hgen ok.body (hcd.rec W) ?_
  rw [hbind]
  refine wpAny_pure (wpAny_newFunctionEnv ok.cell hloc (fun h' hns hsb => ⟨(noLimit W).fresh _ hsb, ?_⟩) ok.kind)
  simp only [Option.isSome_none, Bool.false_eq_true, if_false] at hsb
  -- the steps
  have k1 : ∀ b o, s.heap.get? b = some o → h'.get? b = some o := fun b o e => hsb.extBut b o (Nat.ne_of_lt (Heap.lt_size e)) (Heap.get?_push_of_some _ e)
  have g1 : Grow w Pure No G s G { s with heap := h', toks := s.toks + binds.length } := Grow.keeps (dr := s.drawn) W k1
  have g2 : Grow w Pure No G { s with heap := h', toks := s.toks + binds.length } G { s with heap := h', toks := s.toks + binds.length, gens := s.gens.push (.fresh (.func body (callEnv fd s.heap.objs.size fa))) } := .newGen g1.wld
  have g3 := Grow.push (F := Pure) (K := No) (tk := s.toks + binds.length + 1 + 1) g2.wld (o := { cls := .type "generator", data := .fields #[.int s.gens.size 0, .str fd.name (s.toks + binds.length), .str fd.qualname (s.toks + binds.length + 1)] }) rfl
  have gg := (g1.trans' g2).trans' g3
  have hLd : s.heap.get? s.heap.objs.size = none := end_dead _
  have hGL : G s.heap.objs.size = none := W.fresh hLd
  have hng : ¬ ρ.gr s.gens.size := fun h => absurd (hth.2 _ h) (Nat.lt_irrefl _)
  have hLn : ¬ ρ.fr s.heap.objs.size := fun h => by obtain ⟨o, q⟩ := hth.1 _ h; rw [hLd] at q; cases q
  have hnt : ¬ isTab s.heap.objs.size := W.ntab hLd
  refine ⟨_, rfl, _, s.gens.size, _, fun a => a = s.heap.objs.size ∨ ρ.fr a, fun k => ρ.gr k ∨ k = s.gens.size, rfl, gg, ?_, ?_, fun a h => h.elim (fun h => .inr (h ▸ hLd)) .inl, fun k h => h.elim .inl fun h => .inr (Nat.le_of_eq h.symm), ?_⟩
  · unfold Rep
    exact ⟨rfl, _, _, GH.add_self⟩
  · refine em_gen (c := .func body (callEnv fd s.heap.objs.size fa)) (gs := .fresh (.func body (callEnv fd s.heap.objs.size fa))) ⟨_, _, GH.add_self⟩ ?_ ⟨rfl, rfl, rfl⟩ hng fun A' G₁ s₁ gr cx' => ?_
    · show (s.gens.push _)[s.gens.size]? = _
      simp [callEnv]
    · -- woken for the first time
      have hL3 : (h'.push { cls := .type "generator", data := .fields #[.int s.gens.size 0, .str fd.name (s.toks + binds.length), .str fd.qualname (s.toks + binds.length + 1)] }).Ns s.heap.objs.size (fun y => binds.reverse.lookup y) := hns.push _
      have hL1 : s₁.heap.Ns s.heap.objs.size (fun y => binds.reverse.lookup y) := Ns.sim hL3 fun o e => gr.ext.old _ o e (fun h => h (.inl rfl)) hnt
      have gsub : ∀ a o, G a = some o → G₁ a = some o := fun a o q => gr.sub _ _ (gg.sub _ _ q)
      have hGL1 : G₁ s.heap.objs.size = none := by
        obtain ⟨o, es, ep, ho, hd, _⟩ := hL3
        refine gr.gnone (o := o) ?_ ho
        cases q : (GH.add G h'.objs.size { cls := .type "generator", data := .fields #[.int s.gens.size 0, .str fd.name (s.toks + binds.length), .str fd.qualname (s.toks + binds.length + 1)] }) s.heap.objs.size with
        | none => rfl
        | some o2 =>
          have : G s.heap.objs.size = some o2 ∨ s.heap.objs.size = h'.objs.size := by
            unfold GH.add at q
            split at q
            · rename_i r; exact .inr r
            · exact .inl q
          rcases this with r | r
          · rw [hGL] at r; cases r
          · obtain ⟨o3, _, _, e3, _⟩ := hns
            exact absurd (Heap.lt_size e3) (by rw [← r]; exact Nat.lt_irrefl _)
      have rest : Grow w (fun a => ¬ ρ.fr a) (fun k => ¬ ρ.gr k) G s G₁ (s₁.setGen s.gens.size .running) :=
        (gg.pur.trans' (gr.mono (fun a h q => h (.inr q)) fun k h q => h (.inl q))).trans' (.setGen gr.wld hng rfl)
      refine run s.heap.objs.size ⟨A', fun a => a = s.heap.objs.size ∨ ρ.fr a, ρ.gr, fun a => a = s.heap.objs.size ∨ ρ.fr a, ρ.gr, G₁, s₁.setGen s.gens.size .running, G₁, s₁.setGen s.gens.size .running⟩ ?_
      obtain ⟨l', hl', fl'⟩ := cx'.fr
      exact {
        gfr := gfr_func
        self := rfl
        cx := cx'.setGen
        w0 := gr.wld.setGen rfl
        grow := .refl (gr.wld.setGen rfl)
        ff := fun _ h => h
        kk := fun _ h => h
        fn := fun _ h => .inl h
        kn := fun _ h => .inl h
        good := {
          wld := gr.wld.setGen rfl
          frames := ⟨_, (gfr_func.over A' n l' cx'.rm hl').2, fun ev hev => by
            rcases List.mem_cons.mp hev with rfl | hev
            · obtain ⟨o, es, ep, ho, hd, _⟩ := hL1
              refine ⟨by show fd.scope.kind ≠ .module; rw [ok.kind]; decide, s.heap.objs.size, o, rfl, hGL1, ho, es, ep, hd⟩
            · exact fl' ev hev⟩
          kind := ok.kind
          globals := ok.glob
          builtins := ok.bi
          fresh := hGL1
          ntab := hnt
          oown := fun a h => by cases h
          vars := ⟨_, hL1, fun x p h => by
            obtain ⟨v, r, rp⟩ := hΓ s.heap.objs.size x p h
            exact ⟨v, r.mono gsub, rp.mono gsub⟩, by unfold OwnOk; rw [hown]; trivial⟩ }
        fL := .inl rfl
        fO := fun a h => by cases h
        th := ⟨fun a h => h.elim (fun h => (by subst h; obtain ⟨o, _, _, ho, _⟩ := hL1; exact ⟨o, ho⟩)) fun h => (hth.grow rest).1 a h, fun k h => (hth.grow rest).2 k h⟩
        rF := fun a h => .inr h
        rK := fun _ h => h
        rL := hLn
        rO := fun a h => by cases h
        res := ρ.st _ _ _ _ rest hρ }
  · refine ⟨fun a h => h.elim (fun h => ?_) fun h => (hth.grow gg).1 a h, fun k h => h.elim (fun h => (hth.grow gg).2 k h) fun h => ?_⟩
    · subst h
      obtain ⟨o, _, _, ho, _⟩ := hns.push { cls := .type "generator", data := .fields #[.int s.gens.size 0, .str fd.name (s.toks + binds.length), .str fd.qualname (s.toks + binds.length + 1)] }
      exact ⟨o, ho⟩
    · rw [h]; show _ < (s.gens.push _).size; simp
end
end Mine

namespace Mine
open PySem PySem.W PySem.Calls PyProof.Rows

section
variable {prog : Program} {w : World} {n : Nat} {env : Env} {Γ : Lcl} {α β : Type}

/-- an operation on values, where nothing that is there changes -/
noncomputable def Do (prog : Program) (w : World) (n : Nat) (G : GH) (s : Shared) (t : Sem α) (Q : GH → α → Prop) : Prop :=
  ∀ A, Cx n A G s → wpAny (model prog w) A t (fun v s' => ∃ G', Grow w Pure No G s G' s' ∧ Q G' v) (fun _ _ => False) s

theorem Do.use {G s} {t : Sem α} {Q : GH → α → Prop} {A} {P : α → Shared → Prop} {E} (h : Do prog w n G s t Q) (cx : Cx n A G s) (k : ∀ v G' s', Grow w Pure No G s G' s' → Q G' v → P v s') : wpAny (model prog w) A t P E s :=
  wpAny_mono (h A cx) (fun v s' ⟨G', g, q⟩ => k v G' s' g q) fun _ _ q => q.elim
theorem Good.cx {A O G s} (gd : Good w A env O Γ G s) (r : Rm n A) : Cx n A G s := ⟨r, gd.frames⟩

noncomputable abbrev EvT (prog : Program) (w : World) (n : Nat) (env : Env) (Γ : Lcl) (e : Expr) (b : Bool) : Prop := Ev prog w n env Γ (isTrue e env (eval e env)) (fun _ v => v = b)

/-- truth of a plain value -/
noncomputable def PV.truth : PV → Bool
  | .none => false
  | .bool b => b
  | .int i => i != 0
  | .byt b => b.size != 0
  | .str s => s.length != 0
  | .tup l => l.length != 0
  | .lst l => l.length != 0
  | .flg .. => true
  | .oth _ => true
  | .gen .. => true
  | .any => true
  | .obj _ t => t

theorem ev_eq {e : Expr} {p q : PV} (h : EvP prog w n env Γ e p) (hq : p = q) : EvP prog w n env Γ e q := hq ▸ h
theorem evt_eq {e : Expr} {p q : Bool} (h : EvT prog w n env Γ e p) (hq : p = q) : EvT prog w n env Γ e q := hq ▸ h
-- constants
theorem ev_int {i : Int} {k pos} : EvP prog w n env Γ (.Constant (.int i) k pos) (.int i) := fun A O G s r g =>
  wpAny_Constant_int ⟨G, .toks g.wld, by unfold Rep; exact ⟨_, rfl⟩⟩
theorem ev_bytes {x : List UInt8} {k pos} : EvP prog w n env Γ (.Constant (.bytes x) k pos) (.byt x.toArray) := fun A O G s r g =>
  Constant_bytes ⟨G, .toks g.wld, by unfold Rep; exact ⟨_, rfl⟩⟩
theorem ev_none {k pos} : EvP prog w n env Γ (.Constant .none k pos) .none := fun A O G s r g =>
  wpAny_Constant_none ⟨G, .refl g.wld, by unfold Rep; rfl⟩
theorem ev_bool {b : Bool} {k pos} : EvP prog w n env Γ (.Constant (.bool b) k pos) (.bool b) := fun A O G s r g =>
  wpAny_Constant_bool ⟨G, .refl g.wld, by unfold Rep; rfl⟩
theorem ev_str {x : Str} {k pos} : EvP prog w n env Γ (.Constant (.str x) k pos) (.str x) := fun A O G s r g =>
  Constant_str ⟨G, .toks g.wld, by unfold Rep; exact ⟨_, rfl⟩⟩

-- tests
theorem evt_not {e : Expr} {pos : Pos} {b : Bool} (h : EvT prog w n env Γ e b) : EvT prog w n env Γ (.UnaryOp .Not e pos) (!b) := fun A O G s r g =>
  wpAny_isTrue_Not (h.use r g fun v G' s' g1 _ q => ⟨G', g1, by rw [q]⟩)
noncomputable abbrev EvA (prog : Program) (w : World) (n : Nat) (env : Env) (Γ : Lcl) (op : BoolOp) (es : List Expr) (b : Bool) : Prop := Ev prog w n env Γ (allTrue op es env) (fun _ v => v = b)
theorem evt_boolop {op : BoolOp} {es : List Expr} {pos : Pos} {b : Bool} (h : EvA prog w n env Γ op es b) : EvT prog w n env Γ (.BoolOp op es pos) b := fun A O G s r g =>
  wpAny_isTrue_BoolOp (h.use r g fun v G' s' g1 _ q => ⟨G', g1, q⟩)
theorem eva_and_nil : EvA prog w n env Γ .And [] true := fun A O G s r g => wpAny_allTrue_And_nil ⟨G, .refl g.wld, rfl⟩
theorem eva_or_nil : EvA prog w n env Γ .Or [] false := fun A O G s r g => wpAny_allTrue_Or_nil ⟨G, .refl g.wld, rfl⟩
theorem eva_and {e : Expr} {es : List Expr} {a b : Bool} (h : EvT prog w n env Γ e a) (k : a = true → EvA prog w n env Γ .And es b) : EvA prog w n env Γ .And (e :: es) (a && b) := fun A O G s r g => by
  refine wpAny_allTrue_And_cons (h.use r g fun v G' s' g1 gd1 q => ?_)
  subst q
  cases v with
  | false => exact ⟨G', g1, rfl⟩
  | true => exact (k rfl).use r gd1 fun v2 G2 s2 g2 _ q2 => ⟨G2, g1.trans' g2, q2⟩
theorem eva_or {e : Expr} {es : List Expr} {a b : Bool} (h : EvT prog w n env Γ e a) (k : a = false → EvA prog w n env Γ .Or es b) : EvA prog w n env Γ .Or (e :: es) (a || b) := fun A O G s r g => by
  refine wpAny_allTrue_Or_cons (h.use r g fun v G' s' g1 gd1 q => ?_)
  subst q
  cases v with
  | true => exact ⟨G', g1, rfl⟩
  | false => exact (k rfl).use r gd1 fun v2 G2 s2 g2 _ q2 => ⟨G2, g1.trans' g2, q2⟩

/-- the truth of a value -/
noncomputable def TruthIs (prog : Program) (w : World) (n : Nat) (p : PV) : Prop := ∀ G s v, Wld w G s → Rep G p v → Do prog w n G s (truthy v) (fun _ b => b = p.truth)
theorem evt_value {e : Expr} {p : PV} (h : EvP prog w n env Γ e p) (ht : TruthIs prog w n p) (he : ∀ whole, isTrue e env whole = (do let v ← whole; standAt e.pos; holding [v] (truthy v)) := by intro _; rfl) : EvT prog w n env Γ e p.truth := fun A O G s r g =>
  wpAny_isTrue_value (h.use r g fun v G' s' g1 gd1 q => (ht G' s' v gd1.wld q).use (gd1.cx r) fun b G2 s2 g2 q2 => ⟨G2, g1.trans' g2, q2⟩) (he _)

/-- a comparison of values -/
noncomputable def CmpIs (prog : Program) (w : World) (n : Nat) (op : CmpOp) (p q : PV) (b : Bool) : Prop := ∀ G s u v, Wld w G s → Rep G p u → Rep G q v → Do prog w n G s (compareOp op u v) (fun _ r => r = .bool b)
theorem ev_cmp {l r : Expr} {op : CmpOp} {pos : Pos} {p q : PV} {b : Bool} (h1 : EvP prog w n env Γ l p) (h2 : EvP prog w n env Γ r q) (hc : CmpIs prog w n op p q b) (hm : behindInMarks op r = false := by with_unfolding_all rfl) :
    EvP prog w n env Γ (.Compare l [op] [r] pos) (.bool b) := fun A O G s rm g => by
  refine wpAny_Compare1 (h1.use rm g fun u G1 s1 g1 gd1 q1 => h2.use rm gd1 fun v G2 s2 g2 gd2 q2 => (hc G2 s2 u v gd2.wld (q1.mono g2.sub) q2).use (gd2.cx rm) fun x G3 s3 g3 q3 => ?_) hm
  exact ⟨G3, (g1.trans' g2).trans' g3, by subst q3; unfold Rep; rfl⟩
theorem evt_cmp {l r : Expr} {op : CmpOp} {pos : Pos} {p q : PV} {b : Bool} (h1 : EvP prog w n env Γ l p) (h2 : EvP prog w n env Γ r q) (hc : CmpIs prog w n op p q b) (hm : behindInMarks op r = false := by with_unfolding_all rfl) :
    EvT prog w n env Γ (.Compare l [op] [r] pos) b := fun A O G s rm g => by
  refine wpAny_isTrue_Compare1 (h1.use rm g fun u G1 s1 g1 gd1 q1 => h2.use rm gd1 fun v G2 s2 g2 gd2 q2 => (hc G2 s2 u v gd2.wld (q1.mono g2.sub) q2).use (gd2.cx rm) fun x G3 s3 g3 q3 => ?_) hm
  subst q3
  exact wpAny_truthy_bool ⟨G3, (g1.trans' g2).trans' g3, rfl⟩

/-- a binary operation -/
noncomputable def BinIs (prog : Program) (w : World) (n : Nat) (op : Operator) (p q r : PV) : Prop := ∀ G s u v, Wld w G s → Rep G p u → Rep G q v → Do prog w n G s (binaryOp op u v) (fun G' x => Rep G' r x)
theorem ev_bin {l r : Expr} {op : Operator} {pos : Pos} {p q t : PV} (h1 : EvP prog w n env Γ l p) (h2 : EvP prog w n env Γ r q) (hb : BinIs prog w n op p q t) : EvP prog w n env Γ (.BinOp l op r pos) t := fun A O G s rm g => by
  refine wpAny_BinOp (h1.use rm g fun u G1 s1 g1 gd1 q1 => h2.use rm gd1 fun v G2 s2 g2 gd2 q2 => (hb G2 s2 u v gd2.wld (q1.mono g2.sub) q2).use (gd2.cx rm) fun x G3 s3 g3 q3 => ?_)
  exact ⟨G3, (g1.trans' g2).trans' g3, q3⟩

theorem ev_if {test body orelse : Expr} {pos : Pos} {b : Bool} {p : PV} (ht : EvT prog w n env Γ test b) (h1 : b = true → EvP prog w n env Γ body p) (h2 : b = false → EvP prog w n env Γ orelse p) :
    EvP prog w n env Γ (.IfExp test body orelse pos) p := fun A O G s rm g => by
  refine wpAny_IfExp (ht.use rm g fun v G1 s1 g1 gd1 q1 => ?_)
  subst q1
  cases v with
  | true => exact (h1 rfl).use rm gd1 fun v2 G2 s2 g2 _ q2 => ⟨G2, g1.trans' g2, q2⟩
  | false => exact (h2 rfl).use rm gd1 fun v2 G2 s2 g2 _ q2 => ⟨G2, g1.trans' g2, q2⟩

theorem ev_and2 {x y : Expr} {pos : Pos} {p q : PV} (h1 : EvP prog w n env Γ x p) (ht : TruthIs prog w n p) (h2 : p.truth = true → EvP prog w n env Γ y q) : EvP prog w n env Γ (.BoolOp .And [x, y] pos) (if p.truth then q else p) := fun A O G s rm g => by
  refine wpAny_And2 (h1.use rm g fun u G1 s1 g1 gd1 q1 => (ht G1 s1 u gd1.wld q1).use (gd1.cx rm) fun b G2 s2 g2 q2 => ?_)
  subst q2
  cases hb : p.truth with
  | true => exact (h2 hb).use rm (gd1.pur g2) fun v3 G3 s3 g3 _ q3 => ⟨G3, (g1.trans' g2).trans' g3, q3⟩
  | false => exact ⟨G2, g1.trans' g2, q1.mono g2.sub⟩
theorem ev_or2 {x y : Expr} {pos : Pos} {p q : PV} (h1 : EvP prog w n env Γ x p) (ht : TruthIs prog w n p) (h2 : p.truth = false → EvP prog w n env Γ y q) : EvP prog w n env Γ (.BoolOp .Or [x, y] pos) (if p.truth then p else q) := fun A O G s rm g => by
  refine wpAny_Or2 (h1.use rm g fun u G1 s1 g1 gd1 q1 => (ht G1 s1 u gd1.wld q1).use (gd1.cx rm) fun b G2 s2 g2 q2 => ?_)
  subst q2
  cases hb : p.truth with
  | true => exact ⟨G2, g1.trans' g2, q1.mono g2.sub⟩
  | false => exact (h2 hb).use rm (gd1.pur g2) fun v3 G3 s3 g3 _ q3 => ⟨G3, (g1.trans' g2).trans' g3, q3⟩
theorem ev_not {x : Expr} {pos : Pos} {p : PV} (h1 : EvP prog w n env Γ x p) (ht : TruthIs prog w n p) : EvP prog w n env Γ (.UnaryOp .Not x pos) (.bool (!p.truth)) := fun A O G s rm g => by
  refine wpAny_UnaryOp (h1.use rm g fun u G1 s1 g1 gd1 q1 => not_value ((ht G1 s1 u gd1.wld q1).use (gd1.cx rm) fun b G2 s2 g2 q2 => ?_))
  subst q2
  exact ⟨G2, g1.trans' g2, by unfold Rep; rfl⟩

-- lists of expressions
noncomputable abbrev EvL (prog : Program) (w : World) (n : Nat) (env : Env) (Γ : Lcl) (pos : Pos) (es : List Expr) (ps : List PV) : Prop := Ev prog w n env Γ (spliced (backTo pos (starEach es env))) (fun G vs => RepL G ps vs)
theorem evl_nil {pos : Pos} : EvL prog w n env Γ pos [] [] := fun A O G s rm g => spliced_nil ⟨G, .refl g.wld, .nil⟩
theorem evl_cons {pos : Pos} {e : Expr} {es : List Expr} {p : PV} {ps : List PV} (h1 : EvP prog w n env Γ e p) (h2 : EvL prog w n env Γ pos es ps)
    (hs : starEach (e :: es) env = (false, eval e env) :: starEach es env := by rfl) : EvL prog w n env Γ pos (e :: es) (p :: ps) := fun A O G s rm g => by
  rw [hs]
  show wpAny _ A (spliced ((false, eval e env) :: backTo pos (starEach es env))) _ _ s
  refine spliced_cons (h1.use rm g fun u G1 s1 g1 gd1 q1 => h2.use rm gd1 fun vs G2 s2 g2 gd2 q2 => ?_)
  exact ⟨G2, g1.trans' g2, .cons (q1.mono g2.sub) q2⟩

theorem ev_tuple {es : List Expr} {k : Nat} {pos : Pos} {ps : List PV} (h : EvL prog w n env Γ pos es ps) (hz : ps.length ≤ sizeLine := by simp [sizeLine]) : EvP prog w n env Γ (.Tuple es k pos) (.tup ps) := fun A O G s rm g => by
  refine wpAny_Tuple (h.use rm g fun vs G1 s1 g1 gd1 q1 => ⟨by rw [q1.length]; exact hz, ?_⟩)
  have g2 := Grow.push (F := Pure) (K := No) (tk := s1.toks) gd1.wld (o := { cls := .type "tuple", data := .seq vs.toArray }) rfl
  exact ⟨_, g1.trans' g2, by unfold Rep; exact ⟨_, vs.toArray, 0, rfl, GH.add_self, by simpa using q1.mono g2.sub⟩⟩
theorem ev_list {es : List Expr} {pos : Pos} {ps : List PV} (h : EvL prog w n env Γ pos es ps) (hz : ps.length ≤ sizeLine := by simp [sizeLine]) : EvP prog w n env Γ (.List es pos) (.lst ps) := fun A O G s rm g => by
  refine wpAny_List (h.use rm g fun vs G1 s1 g1 gd1 q1 => ⟨by rw [q1.length]; exact hz, ?_⟩)
  have g2 := Grow.push (F := Pure) (K := No) (tk := s1.toks) gd1.wld (o := { cls := .type "list", data := .seq vs.toArray }) rfl
  exact ⟨_, g1.trans' g2, by unfold Rep; exact ⟨_, vs.toArray, 0, rfl, GH.add_self, by simpa using q1.mono g2.sub⟩⟩

-- calls
/-- a callee, its arguments evaluated -/
noncomputable def CallIs (prog : Program) (w : World) (n : Nat) (f : Value) (ps : List PV) (r : PV) : Prop := ∀ G s vs, Wld w G s → RepL G ps vs → Do prog w n G s (call f vs []) (fun G' v => Rep G' r v)

noncomputable abbrev EvArgs (prog : Program) (w : World) (n : Nat) (env : Env) (Γ : Lcl) (pos : Pos) (es : List Expr) (ps : List PV) : Prop :=
  ∀ f, Ev prog w n env Γ (evalArgs f true (backTo pos (starEach es env)) []) (fun G a => a.kw = [] ∧ RepL G ps a.pos)
theorem args_nil {pos : Pos} : EvArgs prog w n env Γ pos [] [] := fun f A O G s rm g => evalArgs_nil3 ⟨G, .refl g.wld, rfl, .nil⟩
theorem args_cons {pos : Pos} {e : Expr} {es : List Expr} {ps : List PV} (h : EvL prog w n env Γ pos (e :: es) ps)
    (hs : starEach (e :: es) env = (false, eval e env) :: starEach es env := by rfl) : EvArgs prog w n env Γ pos (e :: es) ps := fun f A O G s rm g => by
  have h' := h A O G s rm g
  rw [hs] at h' ⊢
  exact evalArgs_plain (wpAny_mono h' (fun vs s' ⟨G', g', q⟩ => ⟨G', g', rfl, q⟩) fun _ _ q => q)

/-- f(..) where f is a builtin -/
theorem ev_call_bi {f : Str} {fp pos : Pos} {es : List Expr} {ps : List PV} {id : String} {r : PV} (hf : EvP prog w n env Γ (.Name f fp) (.oth (.builtin id))) (ha : EvArgs prog w n env Γ pos es ps)
    (hc : CallIs prog w n (.builtin id) ps r) (hplain : (backTo pos (starEach es env)).any (·.1) = false := by rfl) : EvP prog w n env Γ (.Call (.Name f fp) es [] pos) r := fun A O G s rm g => by
  refine wpAny_Call_ofName (hf.use rm g fun u G1 s1 g1 gd1 q1 => ?_)
  unfold Rep at q1
  subst q1
  refine callWith_builtin hplain ((ha _).use rm gd1 fun a G2 s2 g2 gd2 q2 => ?_)
  rw [q2.1]
  exact (hc G2 s2 a.pos gd2.wld q2.2).use (gd2.cx rm) fun v G3 s3 g3 q3 => ⟨G3, (g1.trans' g2).trans' g3, q3⟩

/-- o.name(..) where o's class is built in -/
theorem ev_method {o : Expr} {name : Str} {apos pos : Pos} {es : List Expr} {p : PV} {ps : List PV} {r : PV} {T id : String} (ho : EvP prog w n env Γ o p) (ha : EvArgs prog w n env Γ pos es ps)
    (hT : ∀ G s v, Wld w G s → Rep G p v → s.TypeIs v T ∧ ∀ a, v = .ref a → ∃ ob, s.heap.get? a = some ob ∧ ob.dict = none)
    (pa : PlainAttrs T) (slot : Slot T name id) (hty : typeOf (.builtin id) = pure (.type "method_descriptor"))
    (hc : CallIs prog w n (.builtin id) (p :: ps) r)
    (hbase : attributeBase o name env (eval o env) = eval o env := by rfl)
    (hfew : ((backTo pos (starEach es env)).all (fun x => !x.1) && (backToKw pos (keywordEach [] env)).all (fun x => x.1.isSome)
      && decide (es.length + ([] : List Keyword).length + (if ([] : List Keyword).isEmpty then 0 else 1) < 30)) = true := by rfl)
    (hline : (apos.endLine == pos.line) = true := by rfl) (hplain : (backTo pos (starEach es env)).any (·.1) = false := by rfl) : EvP prog w n env Γ (.Call (.Attribute o name apos) es [] pos) r := fun A O G s rm g => by
  refine wpAny_Call_method hbase hfew hline pa slot hty (ho.use rm g fun u G1 s1 g1 gd1 q1 => ?_)
  obtain ⟨t1, t2⟩ := hT G1 s1 u gd1.wld q1
  refine ⟨t1, t2, ?_⟩
  refine callWith_builtin hplain ((ha _).use rm gd1 fun a G2 s2 g2 gd2 q2 => ?_)
  rw [q2.1]
  exact (hc G2 s2 (u :: a.pos) gd2.wld (.cons (q1.mono g2.sub) q2.2)).use (gd2.cx rm) fun v G3 s3 g3 q3 => ⟨G3, (g1.trans' g2).trans' g3, q3⟩
end
end Mine

namespace Mine
open PySem PySem.W PySem.Calls PyProof.Rows
theorem slot_lower : Slot "bytes" "lower" "bytes.lower" :=
  .of (owner := "bytes") (n := "lower") (by rw [typeLookup_type, builtinLookup_eq_fast]; kernel_rfl) (by decide +kernel) (by decide +kernel) (by decide +kernel)
    (by first | exact .inl (by decide +kernel) | exact .inr (by decide +kernel)) (by rw [isSubtype_type]; kernel_rfl)
theorem type_lower : typeOf (.builtin "bytes.lower") = pure (.type "method_descriptor") := by show builtinType _ = _; rw [builtinType_eq_fast]; kernel_rfl
theorem entry_lower : entryFor table "bytes.lower" = some Builtin.«bytes.lower» := entryFor_of_tree (by kernel_rfl)
theorem args_lower_1 (a : Value) : argsOk "bytes.lower" ⟨[a], []⟩ := by
  unfold argsOk; rw [signature?_of (id := "bytes.lower") (n := ['r', 'e', 'w', 'o', 'l']) (o := ['s', 'e', 't', 'y', 'b']) (by kernel_rfl) FB.owner_bytes]; kernel_rfl
theorem slot_upper : Slot "bytes" "upper" "bytes.upper" :=
  .of (owner := "bytes") (n := "upper") (by rw [typeLookup_type, builtinLookup_eq_fast]; kernel_rfl) (by decide +kernel) (by decide +kernel) (by decide +kernel)
    (by first | exact .inl (by decide +kernel) | exact .inr (by decide +kernel)) (by rw [isSubtype_type]; kernel_rfl)
theorem type_upper : typeOf (.builtin "bytes.upper") = pure (.type "method_descriptor") := by show builtinType _ = _; rw [builtinType_eq_fast]; kernel_rfl
theorem entry_upper : entryFor table "bytes.upper" = some Builtin.«bytes.upper» := entryFor_of_tree (by kernel_rfl)
theorem args_upper_1 (a : Value) : argsOk "bytes.upper" ⟨[a], []⟩ := by
  unfold argsOk; rw [signature?_of (id := "bytes.upper") (n := ['r', 'e', 'p', 'p', 'u']) (o := ['s', 'e', 't', 'y', 'b']) (by kernel_rfl) FB.owner_bytes]; kernel_rfl
theorem slot_strip : Slot "bytes" "strip" "bytes.strip" :=
  .of (owner := "bytes") (n := "strip") (by rw [typeLookup_type, builtinLookup_eq_fast]; kernel_rfl) (by decide +kernel) (by decide +kernel) (by decide +kernel)
    (by first | exact .inl (by decide +kernel) | exact .inr (by decide +kernel)) (by rw [isSubtype_type]; kernel_rfl)
theorem type_strip : typeOf (.builtin "bytes.strip") = pure (.type "method_descriptor") := by show builtinType _ = _; rw [builtinType_eq_fast]; kernel_rfl
theorem entry_strip : entryFor table "bytes.strip" = some Builtin.«bytes.strip» := entryFor_of_tree (by kernel_rfl)
theorem args_strip_1 (a : Value) : argsOk "bytes.strip" ⟨[a], []⟩ := by
  unfold argsOk; rw [signature?_of (id := "bytes.strip") (n := ['p', 'i', 'r', 't', 's']) (o := ['s', 'e', 't', 'y', 'b']) (by kernel_rfl) FB.owner_bytes]; kernel_rfl
theorem args_strip_2 (a b : Value) : argsOk "bytes.strip" ⟨[a, b], []⟩ := by
  unfold argsOk; rw [signature?_of (id := "bytes.strip") (n := ['p', 'i', 'r', 't', 's']) (o := ['s', 'e', 't', 'y', 'b']) (by kernel_rfl) FB.owner_bytes]; kernel_rfl
theorem slot_split : Slot "bytes" "split" "bytes.split" :=
  .of (owner := "bytes") (n := "split") (by rw [typeLookup_type, builtinLookup_eq_fast]; kernel_rfl) (by decide +kernel) (by decide +kernel) (by decide +kernel)
    (by first | exact .inl (by decide +kernel) | exact .inr (by decide +kernel)) (by rw [isSubtype_type]; kernel_rfl)
theorem type_split : typeOf (.builtin "bytes.split") = pure (.type "method_descriptor") := by show builtinType _ = _; rw [builtinType_eq_fast]; kernel_rfl
theorem entry_split : entryFor table "bytes.split" = some Builtin.«bytes.split» := entryFor_of_tree (by kernel_rfl)
theorem args_split_2 (a b : Value) : argsOk "bytes.split" ⟨[a, b], []⟩ := by
  unfold argsOk; rw [signature?_of (id := "bytes.split") (n := ['t', 'i', 'l', 'p', 's']) (o := ['s', 'e', 't', 'y', 'b']) (by kernel_rfl) FB.owner_bytes]; kernel_rfl
theorem slot_find : Slot "bytes" "find" "bytes.find" :=
  .of (owner := "bytes") (n := "find") (by rw [typeLookup_type, builtinLookup_eq_fast]; kernel_rfl) (by decide +kernel) (by decide +kernel) (by decide +kernel)
    (by first | exact .inl (by decide +kernel) | exact .inr (by decide +kernel)) (by rw [isSubtype_type]; kernel_rfl)
theorem type_find : typeOf (.builtin "bytes.find") = pure (.type "method_descriptor") := by show builtinType _ = _; rw [builtinType_eq_fast]; kernel_rfl
theorem entry_find : entryFor table "bytes.find" = some Builtin.«bytes.find» := entryFor_of_tree (by kernel_rfl)
theorem args_find_3 (a b c : Value) : argsOk "bytes.find" ⟨[a, b, c], []⟩ := by
  unfold argsOk; rw [signature?_of (id := "bytes.find") (n := ['d', 'n', 'i', 'f']) (o := ['s', 'e', 't', 'y', 'b']) (by kernel_rfl) FB.owner_bytes]; kernel_rfl
theorem slot_join : Slot "bytes" "join" "bytes.join" :=
  .of (owner := "bytes") (n := "join") (by rw [typeLookup_type, builtinLookup_eq_fast]; kernel_rfl) (by decide +kernel) (by decide +kernel) (by decide +kernel)
    (by first | exact .inl (by decide +kernel) | exact .inr (by decide +kernel)) (by rw [isSubtype_type]; kernel_rfl)
theorem type_join : typeOf (.builtin "bytes.join") = pure (.type "method_descriptor") := by show builtinType _ = _; rw [builtinType_eq_fast]; kernel_rfl
theorem entry_join : entryFor table "bytes.join" = some Builtin.«bytes.join» := entryFor_of_tree (by kernel_rfl)
theorem args_join_2 (a b : Value) : argsOk "bytes.join" ⟨[a, b], []⟩ := by
  unfold argsOk; rw [signature?_of (id := "bytes.join") (n := ['n', 'i', 'o', 'j']) (o := ['s', 'e', 't', 'y', 'b']) (by kernel_rfl) FB.owner_bytes]; kernel_rfl
theorem slot_repr : Slot "bytes" "__repr__" "bytes.__repr__" :=
  .of (owner := "bytes") (n := "__repr__") (by rw [typeLookup_type, builtinLookup_eq_fast]; kernel_rfl) (by decide +kernel) (by decide +kernel) (by decide +kernel)
    (by first | exact .inl (by decide +kernel) | exact .inr (by decide +kernel)) (by rw [isSubtype_type]; kernel_rfl)
theorem entry_repr : entryFor table "bytes.__repr__" = some Builtin.«bytes.__repr__» := entryFor_of_tree (by kernel_rfl)
theorem args_repr_1 (a : Value) : argsOk "bytes.__repr__" ⟨[a], []⟩ := by
  unfold argsOk; rw [signature?_of (id := "bytes.__repr__") (n := ['_', '_', 'r', 'p', 'e', 'r', '_', '_']) (o := ['s', 'e', 't', 'y', 'b']) (by kernel_rfl) FB.owner_bytes]; kernel_rfl

section
variable {prog : Program} {w : World} {n : Nat}

theorem rep_byt {G : GH} {b : B} {v : Value} (h : Rep G (.byt b) v) : ∃ t, v = .bytes b t := by unfold Rep at h; exact h
theorem repl1 {G : GH} {p : PV} {vs : List Value} (h : RepL G [p] vs) : ∃ v, vs = [v] ∧ Rep G p v := by
  unfold RepL at h; obtain ⟨v, r, rfl, a, b⟩ := h; unfold RepL at b; subst b; exact ⟨v, rfl, a⟩
theorem repl2 {G : GH} {p q : PV} {vs : List Value} (h : RepL G [p, q] vs) : ∃ v u, vs = [v, u] ∧ Rep G p v ∧ Rep G q u := by
  unfold RepL at h; obtain ⟨v, r, rfl, a, b⟩ := h; obtain ⟨u, rfl, c⟩ := repl1 b; exact ⟨v, u, rfl, a, c⟩
theorem repl3 {G : GH} {p q t : PV} {vs : List Value} (h : RepL G [p, q, t] vs) : ∃ v u x, vs = [v, u, x] ∧ Rep G p v ∧ Rep G q u ∧ Rep G t x := by
  unfold RepL at h; obtain ⟨v, r, rfl, a, b⟩ := h; obtain ⟨u, x, rfl, c⟩ := repl2 b; exact ⟨v, u, x, rfl, a, c⟩

/-- small bytes -/
noncomputable abbrev Sm (b : B) : Prop := b.size ≤ 1048576

theorem gives_lower {b : B} {t : Tok} : Gives (Builtin.«bytes.lower» ⟨[.bytes b t], []⟩) (.bytes (b.toList.map Builtin.Bytes.toLower).toArray) := .of_eq rfl
theorem gives_upper {b : B} {t : Tok} : Gives (Builtin.«bytes.upper» ⟨[.bytes b t], []⟩) (.bytes (b.toList.map Builtin.Bytes.toUpper).toArray) := .of_eq rfl

theorem call_lower {b : B} (h : Sm b) : CallIs prog w n (.builtin "bytes.lower") [.byt b] (.byt (b.toList.map Builtin.Bytes.toLower).toArray) := by
  intro G s vs W r A cx
  obtain ⟨v, rfl, q⟩ := repl1 r
  obtain ⟨t, rfl⟩ := rep_byt q
  refine call_gives slot_lower (typeIs_bytes s b t) entry_lower (args_lower_1 _) gives_lower ⟨?_, G, .toks W, by unfold Rep; exact ⟨_, rfl⟩⟩
  have := h; simp [sizeLine]; omega
theorem call_upper {b : B} (h : Sm b) : CallIs prog w n (.builtin "bytes.upper") [.byt b] (.byt (b.toList.map Builtin.Bytes.toUpper).toArray) := by
  intro G s vs W r A cx
  obtain ⟨v, rfl, q⟩ := repl1 r
  obtain ⟨t, rfl⟩ := rep_byt q
  refine call_gives slot_upper (typeIs_bytes s b t) entry_upper (args_upper_1 _) gives_upper ⟨?_, G, .toks W, by unfold Rep; exact ⟨_, rfl⟩⟩
  have := h; simp [sizeLine]; omega

noncomputable def stripBy (drop : UInt8 → Bool) (l : List UInt8) : List UInt8 := ((l.dropWhile drop).reverse.dropWhile drop).reverse
theorem dropWhile_le {α : Type} (p : α → Bool) : ∀ l : List α, (l.dropWhile p).length ≤ l.length
  | [] => Nat.le_refl _
  | a :: l => by
    rw [List.dropWhile_cons]
    split
    · exact Nat.le_succ_of_le (dropWhile_le p l)
    · exact Nat.le_refl _
theorem dropWhile_same {α : Type} (p : α → Bool) : ∀ l : List α, (l.dropWhile p).length = l.length → l.dropWhile p = l
  | [], _ => rfl
  | a :: l, h => by
    rw [List.dropWhile_cons] at h ⊢
    split at h
    · have := dropWhile_le p l
      simp at h; omega
    · rename_i hp; rw [if_neg hp]
theorem stripBy_le (d) (l : List UInt8) : (stripBy d l).length ≤ l.length := by
  unfold stripBy
  have h1 := dropWhile_le d l
  have h2 := dropWhile_le d (l.dropWhile d).reverse
  simp at *; omega
theorem stripBy_same (d) (l : List UInt8) (h : (stripBy d l).length = l.length) : stripBy d l = l := by
  unfold stripBy at *
  have h1 := dropWhile_le d l
  have h2 := dropWhile_le d (l.dropWhile d).reverse
  simp at h h1 h2
  have e1 : l.dropWhile d = l := dropWhile_same d l (by omega)
  rw [e1] at h h2 ⊢
  have e2 : l.reverse.dropWhile d = l.reverse := dropWhile_same d l.reverse (by simp; omega)
  rw [e2, List.reverse_reverse]

theorem strip_tail {A : Around} {E : Value → Shared → Prop} {G : GH} {s : Shared} {b : B} {t : Tok} {d : UInt8 → Bool} (W : Wld w G s) (h : Sm b) {id : String} :
    wpAny (model prog w) A (do
      if (stripBy d b.toList).length == b.size then rule s!"{id}.unchanged"; ret (← Builtin.Bytes.Kind.same .bytes (.bytes b t)) else ret (← Builtin.Bytes.Kind.new .bytes (stripBy d b.toList).toArray) : Sem Fin)
      (fun fin s' => ∃ v, fin = .done (.ret v) ∧ ∃ G', Grow w Pure No G s G' s' ∧ Rep G' (.byt (stripBy d b.toList).toArray) v) E s := by
  by_cases hs : ((stripBy d b.toList).length == b.size) = true
  · rw [if_pos hs]
    refine wpAny_bind (wpAny_rule ?_)
    have e : stripBy d b.toList = b.toList := stripBy_same d _ (by simpa using hs)
    refine wpAny_bind (wpAny_pure (wpAny_pure ⟨_, rfl, G, .refl W, ?_⟩))
    rw [e]; unfold Rep; exact ⟨t, by simp⟩
  · rw [if_neg hs]
    refine wpAny_bind (wpAny_mkBytes (wpAny_pure ⟨_, rfl, G, .toks W, by unfold Rep; exact ⟨_, rfl⟩⟩) ?_)
    have := stripBy_le d b.toList
    have h2 := h
    simp [sizeLine] at *; omega

theorem call_strip0 {b : B} (h : Sm b) : CallIs prog w n (.builtin "bytes.strip") [.byt b] (.byt (stripBy Builtin.Bytes.isSpace b.toList).toArray) := by
  intro G s vs W r A cx
  obtain ⟨v, rfl, q⟩ := repl1 r
  obtain ⟨t, rfl⟩ := rep_byt q
  refine wpAny_call_entry slot_strip (typeIs_bytes s b t) entry_strip ?_ (args_strip_1 _)
  exact strip_tail (id := "bytes.strip") W h

theorem call_strip1 {b c : B} (h : Sm b) : CallIs prog w n (.builtin "bytes.strip") [.byt b, .byt c] (.byt (stripBy c.contains b.toList).toArray) := by
  intro G s vs W r A cx
  obtain ⟨v, u, rfl, q, q2⟩ := repl2 r
  obtain ⟨t, rfl⟩ := rep_byt q
  obtain ⟨t2, rfl⟩ := rep_byt q2
  refine wpAny_call_entry slot_strip (typeIs_bytes s b t) entry_strip ?_ (args_strip_2 _ _)
  show wpAny _ _ (Builtin.Bytes.bytesLike "bytes.strip" (.bytes c t2) >>= _) _ _ s
  refine wpAny_bind ?_
  unfold Builtin.Bytes.bytesLike
  refine wpAny_bind (wpAny_of_eq KBy.buffer_eq ?_)
  refine wpAny_pure ?_
  exact strip_tail (id := "bytes.strip") W h
end
end Mine

namespace Mine
open PySem PySem.W PySem.Calls PyProof.Rows

section
variable {prog : Program} {w : World} {n : Nat} {env : Env} {Γ : Lcl}

theorem rep_int {G : GH} {i : Int} {v : Value} (h : Rep G (.int i) v) : ∃ t, v = .int i t := by unfold Rep at h; exact h
theorem rep_none {G : GH} {v : Value} (h : Rep G .none v) : v = .none := by unfold Rep at h; exact h
theorem rep_bool {G : GH} {b : Bool} {v : Value} (h : Rep G (.bool b) v) : v = .bool b := by unfold Rep at h; exact h
theorem rep_tup {G : GH} {l : List PV} {v : Value} (h : Rep G (.tup l) v) : ∃ a vs ep, v = .ref a ∧ G a = some { cls := .type "tuple", data := .seq vs ep } ∧ RepL G l vs.toList := by unfold Rep at h; exact h
theorem rep_lst {G : GH} {l : List PV} {v : Value} (h : Rep G (.lst l) v) : ∃ a vs ep, v = .ref a ∧ G a = some { cls := .type "list", data := .seq vs ep } ∧ RepL G l vs.toList := by unfold Rep at h; exact h
theorem mk_int {G : GH} {i : Int} {t} : Rep G (.int i) (.int i t) := by unfold Rep; exact ⟨_, rfl⟩
theorem mk_byt {G : GH} {b : B} {t} : Rep G (.byt b) (.bytes b t) := by unfold Rep; exact ⟨_, rfl⟩
theorem mk_bool {G : GH} {b : Bool} : Rep G (.bool b) (.bool b) := by unfold Rep; rfl
theorem mk_tup {G : GH} {a l vs ep} (h : G a = some { cls := .type "tuple", data := .seq vs ep }) (r : RepL G l vs.toList) : Rep G (.tup l) (.ref a) := by unfold Rep; exact ⟨_, _, _, rfl, h, r⟩
theorem mk_lst {G : GH} {a l vs ep} (h : G a = some { cls := .type "list", data := .seq vs ep }) (r : RepL G l vs.toList) : Rep G (.lst l) (.ref a) := by unfold Rep; exact ⟨_, _, _, rfl, h, r⟩

-- truth
theorem tr_bool {b : Bool} : TruthIs prog w n (.bool b) := fun G s v W r A cx => by
  rw [rep_bool r]; exact wpAny_truthy_bool ⟨G, .refl W, rfl⟩
theorem tr_bytes {b : B} (h : Sm b) : TruthIs prog w n (.byt b) := fun G s v W r A cx => by
  obtain ⟨t, rfl⟩ := rep_byt r
  refine truthy_bytes (by omega) ⟨G, .toks W, ?_⟩
  show ((b.size : Int) != 0) = (b.size != 0)
  rw [Bool.eq_iff_iff, bne_iff_ne, bne_iff_ne]
  omega
theorem tr_list {l : List PV} (h : l.length ≤ 1048576) : TruthIs prog w n (.lst l) := fun G s v W r A cx => by
  obtain ⟨a, vs, ep, rfl, hG, rl⟩ := rep_lst r
  have hl := rl.length
  refine wpAny_truthy_list ⟨_, W.sub _ _ hG, rfl, ep, rfl⟩ (by simp at hl; omega) ⟨G, .toks W, ?_⟩
  show (!vs.isEmpty) = (l.length != 0)
  rw [← hl, Array.length_toList]
  rfl

-- comparisons
theorem cmp_eq_int {i j : Int} : CmpIs prog w n .Eq (.int i) (.int j) (i == j) := fun G s u v W r1 r2 A cx => by
  obtain ⟨t, rfl⟩ := rep_int r1; obtain ⟨t2, rfl⟩ := rep_int r2
  exact PySem.P.eq_int ⟨G, .refl W, rfl⟩
theorem cmp_ne_int {i j : Int} : CmpIs prog w n .NotEq (.int i) (.int j) (i != j) := fun G s u v W r1 r2 A cx => by
  obtain ⟨t, rfl⟩ := rep_int r1; obtain ⟨t2, rfl⟩ := rep_int r2
  exact PySem.P.ne_int ⟨G, .refl W, rfl⟩
theorem cmp_lt_int {i j : Int} : CmpIs prog w n .Lt (.int i) (.int j) (decide (i < j)) := fun G s u v W r1 r2 A cx => by
  obtain ⟨t, rfl⟩ := rep_int r1; obtain ⟨t2, rfl⟩ := rep_int r2
  exact PySem.P.lt_int ⟨G, .refl W, rfl⟩
theorem cmp_le_int {i j : Int} : CmpIs prog w n .LtE (.int i) (.int j) (decide (i ≤ j)) := fun G s u v W r1 r2 A cx => by
  obtain ⟨t, rfl⟩ := rep_int r1; obtain ⟨t2, rfl⟩ := rep_int r2
  exact PySem.P.le_int ⟨G, .refl W, rfl⟩
theorem cmp_ge_int {i j : Int} : CmpIs prog w n .GtE (.int i) (.int j) (decide (i ≥ j)) := fun G s u v W r1 r2 A cx => by
  obtain ⟨t, rfl⟩ := rep_int r1; obtain ⟨t2, rfl⟩ := rep_int r2
  exact PySem.P.ge_int ⟨G, .refl W, rfl⟩
theorem toList_beq (b c : B) : (b.toList == c.toList) = (b == c) := by
  rw [Bool.eq_iff_iff]; simp [Array.toList_inj]
theorem cmp_eq_byt {b c : B} : CmpIs prog w n .Eq (.byt b) (.byt c) (b == c) := fun G s u v W r1 r2 A cx => by
  obtain ⟨t, rfl⟩ := rep_byt r1; obtain ⟨t2, rfl⟩ := rep_byt r2
  exact eq_bytes ⟨G, .refl W, by rw [toList_beq]⟩
theorem cmp_ne_byt {b c : B} : CmpIs prog w n .NotEq (.byt b) (.byt c) (b != c) := fun G s u v W r1 r2 A cx => by
  obtain ⟨t, rfl⟩ := rep_byt r1; obtain ⟨t2, rfl⟩ := rep_byt r2
  exact ne_bytes ⟨G, .refl W, by show Value.bool (!(b.toList == c.toList)) = Value.bool (!(b == c)); rw [toList_beq]⟩
noncomputable def PV.isNone : PV → Bool
  | .none => true
  | _ => false
theorem rep_isNone {G : GH} {p : PV} {v : Value} (h : Rep G p v) (ho : (∀ x, p ≠ .oth x) ∧ p ≠ .any) : (v == .none) = p.isNone := by
  cases p with
  | none => rw [rep_none h]; rfl
  | bool b => rw [rep_bool h]; rfl
  | int i => obtain ⟨t, rfl⟩ := rep_int h; rfl
  | byt b => obtain ⟨t, rfl⟩ := rep_byt h; rfl
  | str x => unfold Rep at h; obtain ⟨t, rfl⟩ := h; rfl
  | tup l => obtain ⟨a, vs, ep, rfl, _⟩ := rep_tup h; rfl
  | lst l => obtain ⟨a, vs, ep, rfl, _⟩ := rep_lst h; rfl
  | flg a b c d => unfold Rep at h; obtain ⟨a, _, _, rfl, _⟩ := h; rfl
  | oth x => exact absurd rfl (ho.1 x)
  | any => exact absurd rfl ho.2
  | gen a g => unfold Rep at h; rw [h.1]; rfl
  | obj F t => unfold Rep at h; obtain ⟨a, o, rfl, _⟩ := h; rfl
theorem cmp_is_none {p : PV} (ho : (∀ x, p ≠ .oth x) ∧ p ≠ .any) : CmpIs prog w n .Is p .none p.isNone := fun G s u v W r1 r2 A cx => by
  rw [rep_none r2]
  exact _root_.PySem.is_none ⟨G, .refl W, by rw [rep_isNone r1 ho]⟩
theorem cmp_isnot_none {p : PV} (ho : (∀ x, p ≠ .oth x) ∧ p ≠ .any) : CmpIs prog w n .IsNot p .none (!p.isNone) := fun G s u v W r1 r2 A cx => by
  rw [rep_none r2]
  exact _root_.PySem.isNot_none ⟨G, .refl W, by rw [rep_isNone r1 ho]⟩

-- sums
theorem bin_add_int {i j : Int} : BinIs prog w n .Add (.int i) (.int j) (.int (i + j)) := fun G s u v W r1 r2 A cx => by
  obtain ⟨t, rfl⟩ := rep_int r1; obtain ⟨t2, rfl⟩ := rep_int r2
  exact wpAny_add_int ⟨G, .toks W, mk_int⟩
theorem bin_mod_int {i j : Int} (h : j ≠ 0) : BinIs prog w n .Mod (.int i) (.int j) (.int (i.fmod j)) := fun G s u v W r1 r2 A cx => by
  obtain ⟨t, rfl⟩ := rep_int r1; obtain ⟨t2, rfl⟩ := rep_int r2
  exact mod_int' h ⟨G, .toks W, mk_int⟩
theorem bin_add_byt {b c : B} (h : b.size + c.size ≤ 1048576) : BinIs prog w n .Add (.byt b) (.byt c) (.byt (b ++ c)) := fun G s u v W r1 r2 A cx => by
  obtain ⟨t, rfl⟩ := rep_byt r1; obtain ⟨t2, rfl⟩ := rep_byt r2
  exact KBy.add_bytes (by omega) fun t' k => ⟨G, .toks W, mk_byt⟩

-- len
theorem call_len_byt {b : B} (h : Sm b) : CallIs prog w n (.builtin "len") [.byt b] (.int b.size) := fun G s vs W r A cx => by
  obtain ⟨v, rfl, q⟩ := repl1 r
  obtain ⟨t, rfl⟩ := rep_byt q
  exact len_bytes (by omega) ⟨G, .toks W, mk_int⟩
theorem call_len_lst {l : List PV} (h : l.length ≤ 1048576) : CallIs prog w n (.builtin "len") [.lst l] (.int l.length) := fun G s vs W r A cx => by
  obtain ⟨v, rfl, q⟩ := repl1 r
  obtain ⟨a, vs, ep, rfl, hG, rl⟩ := rep_lst q
  have hl := rl.length
  refine call_len_list ⟨_, W.sub _ _ hG, rfl, ep, rfl⟩ (by simp at hl; omega) ⟨G, .toks W, ?_⟩
  rw [← hl]; exact mk_int
theorem call_isinstance_byt {b : B} : CallIs prog w n (.builtin "isinstance") [.byt b, .oth (.type "bytes")] (.bool true) := fun G s vs W r A cx => by
  obtain ⟨v, u, rfl, q, q2⟩ := repl2 r
  obtain ⟨t, rfl⟩ := rep_byt q
  unfold Rep at q2
  subst q2
  exact call_isinstance_yes (typeIs_bytes s b t) (by kernel_rfl) F.sub_bytes_bytes ⟨G, .refl W, mk_bool⟩
end
end Mine

namespace Mine
open PySem PySem.W PySem.Calls PyProof.Rows

section
variable {prog : Program} {w : World} {n : Nat} {env : Env} {Γ : Lcl}

/-- o[i] -/
noncomputable def IdxIs (prog : Program) (w : World) (n : Nat) (p q r : PV) : Prop := ∀ G s u v, Wld w G s → Rep G p u → Rep G q v → Do prog w n G s (getItem u v) (fun G' x => Rep G' r x)

/-- the class of a plain value -/
noncomputable def TyIs (w : World) (p : PV) (T : String) : Prop := ∀ G s v, Wld w G s → Rep G p v → s.TypeIs v T
theorem ty_byt {b : B} : TyIs w (.byt b) "bytes" := fun G s v W r => by obtain ⟨t, rfl⟩ := rep_byt r; exact typeIs_bytes s b t
theorem ty_lst {l : List PV} : TyIs w (.lst l) "list" := fun G s v W r => by
  obtain ⟨a, vs, ep, rfl, hG, rl⟩ := rep_lst r
  exact ⟨_, W.sub _ _ hG, rfl⟩
theorem ty_tup {l : List PV} : TyIs w (.tup l) "tuple" := fun G s v W r => by
  obtain ⟨a, vs, ep, rfl, hG, rl⟩ := rep_tup r
  exact ⟨_, W.sub _ _ hG, rfl⟩
theorem hd_byt {b : B} : ∀ G s v, Wld w G s → Rep G (.byt b) v → s.TypeIs v "bytes" ∧ ∀ a, v = .ref a → ∃ ob, s.heap.get? a = some ob ∧ ob.dict = none := fun G s v W r => by
  refine ⟨ty_byt G s v W r, fun a h => ?_⟩
  obtain ⟨t, rfl⟩ := rep_byt r; cases h
theorem sub_tail {value slice : Expr} {A : Around} {E : Value → Shared → Prop} {s : Shared} {o i : Value} {T id : String} {ops : List Value} {Q : Value → Shared → Prop} (hT : s.TypeIs o T)
    (hl : typeLookup (.type T) "__getitem__" = pure (some (.builtin id))) (h : wpAny (model prog w) A (getItem o i) Q E s)
    (hs : subscripted slice false o i = operate ops (getItem o i)) : wpAny (model prog w) A (subscriptTail value slice o i) Q E s := by
  unfold subscriptTail
  refine wpAny_bind ?_
  rw [getitemInPython_of_ne hT.not_modules]
  refine wpAny_bind (wpAny_specialOf hT hl ?_)
  refine wpAny_pure ?_
  rw [hs]
  refine wpAny_bind (wpAny_operating (wpAny_mono h (fun r s₃ h₃ => wpAny_bind (wpAny_letTemporaryGo (wpAny_pure h₃))) fun _ _ x => x))

theorem ev_sub {value slice : Expr} {pos : Pos} {p q r : PV} {T id : String} (hv : EvP prog w n env Γ value p) (hi : EvP prog w n env Γ slice q) (hT : TyIs w p T)
    (hl : typeLookup (.type T) "__getitem__" = pure (some (.builtin id))) (hg : IdxIs prog w n p q r)
    (hs : ∀ o i, subscripted slice false o i = operate [o, i] (getItem o i) := by intro _ _; rfl) : EvP prog w n env Γ (.Subscript value slice pos) r := fun A O G s rm g => by
  refine Subscript_ (hv.use rm g fun u G1 s1 g1 gd1 q1 => hi.use rm gd1 fun v G2 s2 g2 gd2 q2 => ?_)
  refine sub_tail (hT G2 s2 u gd2.wld (q1.mono g2.sub)) hl ((hg G2 s2 u v gd2.wld (q1.mono g2.sub) q2).use (gd2.cx rm) fun x G3 s3 g3 q3 => ?_) (hs u v)
  exact ⟨G3, (g1.trans' g2).trans' g3, q3⟩

theorem idx_tup {l : List PV} {k : Nat} {r : PV} (h : l[k]? = some r) (hk : k < 1000) : IdxIs prog w n (.tup l) (.int k) r := fun G s u v W r1 r2 A cx => by
  obtain ⟨a, vs, ep, rfl, hG, rl⟩ := rep_tup r1
  obtain ⟨t, rfl⟩ := rep_int r2
  obtain ⟨x, hx, rx⟩ := rl.get h
  have hx' : vs[k]? = some x := by simpa using hx
  have hlt : k < vs.size := by
    rcases Nat.lt_or_ge k vs.size with h | h
    · exact h
    · rw [Array.getElem?_eq_none h] at hx'; cases hx'
  refine getItem_tuple (j := k) ⟨_, W.sub _ _ hG, rfl, ep, rfl⟩ (by omega) (by omega) ?_ hx' ⟨G, .refl W, rx⟩
  have hn : ¬ ((k : Int) < 0) := by omega
  simp [seqIndex?, hn, hlt]
theorem idx_lst {l : List PV} {k : Nat} {r : PV} (h : l[k]? = some r) (hk : l.length ≤ 1048576) : IdxIs prog w n (.lst l) (.int k) r := fun G s u v W r1 r2 A cx => by
  obtain ⟨a, vs, ep, rfl, hG, rl⟩ := rep_lst r1
  obtain ⟨t, rfl⟩ := rep_int r2
  obtain ⟨x, hx, rx⟩ := rl.get h
  have hx' : vs[k]? = some x := by simpa using hx
  have hlt : k < l.length := by
    rcases Nat.lt_or_ge k l.length with h2 | h2
    · exact h2
    · rw [List.getElem?_eq_none h2] at h; cases h
  have h63 : (k : Int) < 2 ^ 63 := by omega
  have htn : ((k : Int)).toNat = k := Int.toNat_natCast k
  exact wpAny_getItem_list ⟨_, W.sub _ _ hG, rfl, ep, rfl⟩ (Int.natCast_nonneg k) h63 (by rw [htn]; exact hx') ⟨G, .refl W, rx⟩
theorem idx_byt' {b : B} {i : Int} {c : UInt8} (hf : Builtin.Bytes.fitsIndex i = true) (h : (seqIndex? i b.size).bind (b[·]?) = some c) : IdxIs prog w n (.byt b) (.int i) (.int c.toNat) := fun G s u v W r1 r2 A cx => by
  obtain ⟨t, rfl⟩ := rep_byt r1
  obtain ⟨t2, rfl⟩ := rep_int r2
  exact getItem_gives (typeIs_bytes s _ t) (by decide) FB.slot_bytes_getitem FB.entry_bytes_getitem (FB.args_bytes_getitem_2 _ _) (gives_bytes_getitem b i t t2 c hf h) ⟨G, .toks W, mk_int⟩
theorem idx_byt {b : B} {k : Nat} {c : UInt8} (h : b[k]? = some c) (hb : Sm b) : IdxIs prog w n (.byt b) (.int k) (.int c.toNat) := by
  have hlt : k < b.size := by
    rcases Nat.lt_or_ge k b.size with h2 | h2
    · exact h2
    · rw [Array.getElem?_eq_none h2] at h; cases h
  refine idx_byt' ?_ ?_
  · simp only [Builtin.Bytes.fitsIndex, Bool.and_eq_true, decide_eq_true_eq]; omega
  · have hn : ¬ ((k : Int) < 0) := by omega
    have e : seqIndex? (k : Int) b.size = some k := by simp [seqIndex?, hn, hlt]
    rw [e]; exact h
theorem idx_byt_last {b : B} {c : UInt8} (h : b[b.size - 1]? = some c) (hb : Sm b) : IdxIs prog w n (.byt b) (.int (-1)) (.int c.toNat) := fun G s u v W r1 r2 A cx => by
  obtain ⟨t, rfl⟩ := rep_byt r1
  obtain ⟨t2, rfl⟩ := rep_int r2
  have hlt : b.size - 1 < b.size := by
    rcases Nat.lt_or_ge (b.size - 1) b.size with h2 | h2
    · exact h2
    · rw [Array.getElem?_eq_none h2] at h; cases h
  refine getItem_gives (typeIs_bytes s _ t) (by decide) FB.slot_bytes_getitem FB.entry_bytes_getitem (FB.args_bytes_getitem_2 _ _) (gives_bytes_getitem _ (-1) t t2 c ?_ ?_) ⟨G, .toks W, mk_int⟩
  · decide
  · have h1 : (-1 : Int) < 0 := by omega
    have h2 : 0 ≤ -1 + (b.size : Int) := by omega
    have h3 : -1 + (b.size : Int) < b.size := by omega
    have h4 : (-1 + (b.size : Int)).toNat = b.size - 1 := by omega
    simp [seqIndex?, h2, h3, h4]
    simpa [Array.getElem?_eq_getElem hlt] using h

-- slices
noncomputable abbrev EvPart (prog : Program) (w : World) (n : Nat) (env : Env) (Γ : Lcl) (x : Option Expr) (o : Option Int) : Prop := Ev prog w n env Γ (evalPart x env) (fun _ v => IsPart v o)
theorem part_none : EvPart prog w n env Γ none none := fun A O G s rm g => wpAny_pure ⟨G, .refl g.wld, .none⟩
theorem part_some {e : Expr} {i : Int} (h : EvP prog w n env Γ e (.int i)) : EvPart prog w n env Γ (some e) (some i) := fun A O G s rm g => by
  refine h.use rm g fun v G1 s1 g1 gd1 q1 => ?_
  obtain ⟨t, rfl⟩ := rep_int q1
  exact ⟨G1, g1, .int i t⟩

/-- o[lo:hi] -/
noncomputable def SliIs (prog : Program) (w : World) (n : Nat) (p : PV) (lo hi : Option Int) (r : PV) : Prop := ∀ G s u vl vu sl, Wld w G s → Rep G p u → IsPart vl lo → IsPart vu hi → s.heap.IsSliceOf sl vl vu .none →
  Do prog w n G s (getItem u (.ref sl)) (fun G' x => Rep G' r x)
theorem ev_slice {value : Expr} {lower upper : Option Expr} {p2 pos : Pos} {p r : PV} {lo hi : Option Int} {T id : String} (hv : EvP prog w n env Γ value p) (h1 : EvPart prog w n env Γ lower lo) (h2 : EvPart prog w n env Γ upper hi) (hT : TyIs w p T)
    (hl : typeLookup (.type T) "__getitem__" = pure (some (.builtin id))) (hg : SliIs prog w n p lo hi r) : EvP prog w n env Γ (.Subscript value (.Slice lower upper none p2) pos) r := fun A O G s rm g => by
  refine Subscript_ (hv.use rm g fun u G1 s1 g1 gd1 q1 => wpAny_Slice (h1.use rm gd1 fun vl G2 s2 g2 gd2 pl => h2.use rm gd2 fun vu G3 s3 g3 gd3 pu => wpAny_pure ?_))
  have g4 : Grow w Pure No G3 s3 G3 { s3 with heap := s3.heap.push { cls := .type "slice", data := .fields #[vl, vu, .none] } } := .push0 (tk := s3.toks) gd3.wld
  have gd4 := gd3.pur g4
  have q4 := ((q1.mono g2.sub).mono g3.sub).mono g4.sub
  refine sub_tail (ops := [.ref s3.heap.objs.size, u]) (hT _ _ u gd4.wld q4) hl ((hg _ _ u vl vu s3.heap.objs.size gd4.wld q4 pl pu (Heap.IsSliceOf.new ..)).use (gd4.cx rm) fun x G5 s5 g5 q5 => ?_) rfl
  exact ⟨G5, (((g1.trans' g2).trans' g3).trans' g4).trans' g5, q5⟩

noncomputable def clip (len : Nat) (lo hi : Option Int) : Nat × Nat := (lo.elim 0 (clipAt len), hi.elim len (clipAt len) - lo.elim 0 (clipAt len))

theorem sli_byt {b : B} {lo hi : Option Int} (hb : Sm b) : SliIs prog w n (.byt b) lo hi (.byt ((b.toList.drop (lo.elim 0 (clipAt b.size))).take (hi.elim b.size (clipAt b.size) - lo.elim 0 (clipAt b.size))).toArray) :=
  fun G s u vl vu sl W r1 pl pu hs A cx => by
  obtain ⟨t, rfl⟩ := rep_byt r1
  refine getItem_meets (typeIs_bytes _ _ _) (by decide) FB.slot_bytes_getitem FB.entry_bytes_getitem (FB.args_bytes_getitem_2 _ _) (KBc.meets_slice2 b t _ pl pu) ⟨hs, ?_, fun t' k => ?_⟩
  · have := KBc.size_picked_le b lo hi
    have h2 := hb
    simp [sizeLine] at *; omega
  · rw [← KBc.picked_eq]
    exact ⟨G, .toks W, mk_byt⟩
theorem sli_lst {l : List PV} {lo hi : Option Int} (hb : l.length ≤ 1048576) : SliIs prog w n (.lst l) lo hi (.lst ((l.drop (lo.elim 0 (clipAt l.length))).take (hi.elim l.length (clipAt l.length) - lo.elim 0 (clipAt l.length)))) :=
  fun G s u vl vu sl W r1 pl pu hs A cx => by
  obtain ⟨a, vs, ep, rfl, hG, rl⟩ := rep_lst r1
  have hl := rl.length
  have hl' : vs.size = l.length := by simpa using hl
  refine wpAny_getItem_list_slice ⟨_, W.sub _ _ hG, rfl, ep, rfl⟩ hs pl pu .none (by simp) ?_ (by simp [sizeLine]; omega)
  have g2 := Grow.push (F := Pure) (K := No) (tk := s.toks) W (o := { cls := .type "list", data := .seq (slicePick vs lo hi none) }) rfl
  refine ⟨_, g2, mk_lst GH.add_self ?_⟩
  have := ((rl.drop (lo.elim 0 (clipAt l.length))).take (hi.elim l.length (clipAt l.length) - lo.elim 0 (clipAt l.length))).mono g2.sub
  have e : (slicePick vs lo hi none).toList = (vs.toList.drop (lo.elim 0 (clipAt l.length))).take (hi.elim l.length (clipAt l.length) - lo.elim 0 (clipAt l.length)) := by rw [slicePick_plain, hl']
  rw [e]; exact this
theorem sli_tup_from {l : List PV} {k : Nat} (h1 : 1 ≤ k) (hk : k ≤ l.length) (hb : l.length ≤ 1000) : SliIs prog w n (.tup l) (some k) none (.tup (l.drop k)) :=
  fun G s u vl vu sl W r1 pl pu hs A cx => by
  obtain ⟨a, vs, ep, rfl, hG, rl⟩ := rep_tup r1
  have hl : vs.size = l.length := by simpa using rl.length
  cases pl with
  | int _ t =>
    cases pu
    refine getItem_tuple_from (a := k) ⟨_, W.sub _ _ hG, rfl, ep, rfl⟩ hs h1 (by omega) ?_ (by simp [sizeLine]; omega)
    have g2 := Grow.push (F := Pure) (K := No) (tk := s.toks) W (o := { cls := .type "tuple", data := .seq (vs.toList.drop k).toArray }) rfl
    exact ⟨_, g2, mk_tup GH.add_self (by simpa using (rl.drop k).mono g2.sub)⟩

-- sums of lists and tuples
theorem bin_add_lst {l m : List PV} (h : l.length + m.length ≤ 1048576) : BinIs prog w n .Add (.lst l) (.lst m) (.lst (l ++ m)) := fun G s u v W r1 r2 A cx => by
  obtain ⟨a, vs, ep, rfl, hG, rl⟩ := rep_lst r1
  obtain ⟨a2, vs2, ep2, rfl, hG2, rl2⟩ := rep_lst r2
  have hl : vs.size = l.length := by simpa using rl.length
  have hl2 : vs2.size = m.length := by simpa using rl2.length
  have g2 := Grow.push (F := Pure) (K := No) (tk := s.toks) W (o := { cls := .type "list", data := .seq (vs ++ vs2) }) rfl
  refine concat_meets (T := "list") ⟨_, W.sub _ _ hG, rfl⟩ ⟨_, W.sub _ _ hG2, rfl⟩ noFill_list_add seq_list_add F.slot_list_add F.entry_list_add (F.args_list_add_2 _ _) (list_addW a a2 vs vs2 ep ep2 none none #[] #[] (by simp [sizeLine]; omega)) ⟨W.sub _ _ hG, W.sub _ _ hG2, ?_⟩
  refine ⟨_, g2, mk_lst GH.add_self ?_⟩
  simpa using (rl.append rl2).mono g2.sub

theorem bin_add_tup {l m : List PV} (h : l.length + m.length ≤ 1000) : BinIs prog w n .Add (.tup l) (.tup m) (.tup (l ++ m)) := fun G s u v W r1 r2 A cx => by
  obtain ⟨a, vs, ep, rfl, hG, rl⟩ := rep_tup r1
  obtain ⟨a2, vs2, ep2, rfl, hG2, rl2⟩ := rep_tup r2
  have hl : vs.size = l.length := by simpa using rl.length
  have hl2 : vs2.size = m.length := by simpa using rl2.length
  by_cases h1 : vs.isEmpty = true
  · have e : l = [] := by
      have : vs.size = 0 := by simpa [Array.isEmpty] using h1
      exact List.eq_nil_of_length_eq_zero (by omega)
    subst e
    refine concat_meets (T := "tuple") ⟨_, W.sub _ _ hG, rfl⟩ ⟨_, W.sub _ _ hG2, rfl⟩ noFill_tuple_add seq_tuple_add F.slot_tuple_add F.entry_tuple_add (F.args_tuple_add_2 _ _) (tuple_addW0 a a2 vs vs2 ep ep2 none none #[] #[] h1) ⟨W.sub _ _ hG, W.sub _ _ hG2, ?_⟩
    exact ⟨G, .refl W, mk_tup hG2 rl2⟩
  · by_cases h2 : vs2.isEmpty = true
    · have e : m = [] := by
        have : vs2.size = 0 := by simpa [Array.isEmpty] using h2
        exact List.eq_nil_of_length_eq_zero (by omega)
      subst e
      rw [List.append_nil]
      refine concat_meets (T := "tuple") ⟨_, W.sub _ _ hG, rfl⟩ ⟨_, W.sub _ _ hG2, rfl⟩ noFill_tuple_add seq_tuple_add F.slot_tuple_add F.entry_tuple_add (F.args_tuple_add_2 _ _) (tuple_addW1 a a2 vs vs2 ep ep2 none none #[] #[] h1 h2) ⟨W.sub _ _ hG, W.sub _ _ hG2, ?_⟩
      exact ⟨G, .refl W, mk_tup hG rl⟩
    · have g2 := Grow.push (F := Pure) (K := No) (tk := s.toks) W (o := { cls := .type "tuple", data := .seq (vs ++ vs2) }) rfl
      refine concat_meets (T := "tuple") ⟨_, W.sub _ _ hG, rfl⟩ ⟨_, W.sub _ _ hG2, rfl⟩ noFill_tuple_add seq_tuple_add F.slot_tuple_add F.entry_tuple_add (F.args_tuple_add_2 _ _) (tuple_addW2 a a2 vs vs2 ep ep2 none none #[] #[] h1 h2 (by simp [sizeLine]; omega)) ⟨W.sub _ _ hG, W.sub _ _ hG2, ?_⟩
      refine ⟨_, g2, mk_tup GH.add_self ?_⟩
      simpa using (rl.append rl2).mono g2.sub
end
end Mine

namespace Mine
open PySem PySem.W PySem.Calls PyProof.Rows

noncomputable def fdOf (w : World) (a : Addr) : FuncData := match (topK w).lookup a with | some ⟨_,_,.func fd,_⟩ => fd | _ => default
noncomputable def bodyOf (w : World) (a : Addr) : List Stmt := match (fdOf w a).body with | .stmts b => b | _ => []

section
variable {prog : Program} {w : World} {n : Nat} {env : Env} {O : Option Addr} {Γ Γ' : Lcl} {G : GH} {s : Shared} {e e' : End'} {ins outs : List PV}

theorem lookup_zip_rep {G : GH} : ∀ {names : List Str} {ps : List PV} {vs : List Value} {x : Str} {p : PV}, RepL G ps vs → (names.zip ps).lookup x = some p → ∃ v, (names.zip vs).lookup x = some v ∧ Rep G p v
  | [], _, _, _, _, _, h => by simp at h
  | _ :: _, [], _, _, _, _, h => by simp at h
  | nm :: names, q :: ps, vs, x, p, r, h => by
    unfold RepL at r
    obtain ⟨v, r', rfl, a, b⟩ := r
    simp only [List.zip_cons_cons, List.lookup_cons] at h ⊢
    cases hx : x == nm with
    | true => rw [hx] at h; cases h; exact ⟨v, rfl, a⟩
    | false => rw [hx] at h; exact lookup_zip_rep b h
theorem lookup_append_l {x : Str} {v : Value} : ∀ {l m : List (Str × Value)}, l.lookup x = some v → (l ++ m).lookup x = some v
  | [], _, h => by cases h
  | (k, u) :: l, m, h => by
    simp only [List.cons_append, List.lookup_cons] at h ⊢
    cases hx : x == k with
    | true => rw [hx] at h; exact h
    | false => rw [hx] at h; exact lookup_append_l h
theorem lookup_append_none {x : Str} : ∀ {l m : List (Str × Value)}, l.lookup x = none → (l ++ m).lookup x = m.lookup x
  | [], _, _ => rfl
  | (k, u) :: l, m, h => by
    simp only [List.cons_append, List.lookup_cons] at h ⊢
    cases hx : x == k with
    | true => rw [hx] at h; cases h
    | false => rw [hx] at h; exact lookup_append_none h
theorem lookup_none_of_not_mem {x : Str} : ∀ {l : List (Str × Value)}, x ∉ l.map (·.1) → l.lookup x = none
  | [], _ => rfl
  | (k, u) :: l, h => by
    simp only [List.map_cons, List.mem_cons, not_or] at h
    rw [List.lookup_cons]
    have : (x == k) = false := by simpa using h.1
    rw [this]; exact lookup_none_of_not_mem h.2
theorem lookup_reverse {x : Str} : ∀ {l : List (Str × Value)}, (l.map (·.1)).Nodup → l.reverse.lookup x = l.lookup x
  | [], _ => rfl
  | (k, u) :: l, h => by
    simp only [List.map_cons, List.nodup_cons] at h
    rw [List.reverse_cons, List.lookup_cons]
    cases hx : x == k with
    | true =>
      have e : x = k := by simpa using hx
      subst e
      rw [lookup_append_none]
      · simp
      · rw [lookup_reverse h.2]; exact lookup_none_of_not_mem h.1
    | false =>
      rw [← lookup_reverse h.2]
      cases hl : l.reverse.lookup x with
      | some v => exact lookup_append_l hl
      | none => rw [lookup_append_none hl]; simp [List.lookup_cons, hx]
theorem mem_zip_fst {names : List Str} {vs : List Value} {x : Str × Value} (h : x ∈ names.zip vs) : x.1 ∈ names := (List.of_mem_zip (a := x.1) (b := x.2) h).1
theorem map_zip_fst : ∀ {names : List Str} {vs : List Value}, vs.length = names.length → (names.zip vs).map (·.1) = names
  | [], _, _ => rfl
  | _ :: _, [], h => by simp at h
  | a :: names, v :: vs, h => by simp at h; simp [map_zip_fst h]

/-- what a call's parameters stand for -/
theorem param_reads {fd : FuncData} {fa : Addr} {names : List Str} {ps : List PV} {vs : List Value} (r : RepL G ps vs) (hn : names.Nodup) (hlen : ps.length = names.length) (hloc : ∀ x ∈ names, fd.scope.names.lookup x = some .local) :
    ∀ L x p, (names.zip ps).lookup x = some p → ∃ v, Reads (callEnv fd L fa) (fun y => (names.zip vs).reverse.lookup y) G x v ∧ Rep G p v := by
  intro L x p h
  obtain ⟨v, hv, rp⟩ := lookup_zip_rep r h
  have hl := r.length
  refine ⟨v, .inl ⟨?_, ?_⟩, rp⟩
  · have : x ∈ names := by
      have hm : ∀ {l : List (Str × Value)}, l.lookup x = some v → x ∈ l.map (·.1) := by
        intro l
        induction l with
        | nil => intro h; cases h
        | cons a l ih =>
          intro h
          obtain ⟨k, u⟩ := a
          rw [List.lookup_cons] at h
          cases hx : x == k with
          | true => have : x = k := by simpa using hx
                    simp [this]
          | false => rw [hx] at h; simp only [List.map_cons, List.mem_cons]; exact .inr (ih h)
      have := hm hv
      rwa [map_zip_fst (by omega)] at this
    exact hloc x this
  · show (names.zip vs).reverse.lookup x = some v
    rw [lookup_reverse (by rw [map_zip_fst (by omega)]; exact hn)]; exact hv

/-- what a generator stage gives: its input is a list, or a generator (laid aside) -/
noncomputable def Stage (prog : Program) (w : World) (n : Nat) (fa : Addr) (ins : List PV) (e : End') (outs : List PV) (e' : End') : Prop :=
  ∀ A G s hv fv p q ρ, Inp prog w n ins e p ρ → Rep G p hv → Rep G q fv → Wld w G s → Cx 1 A G s → ρ.holds G s → There ρ.fr ρ.gr s →
    codeAny (model prog w) A (.call (.ref fa) ⟨[hv, fv], []⟩) (fun r s' => ∃ v, r = .ok (.ret v) ∧ GenC prog w (n+2) Pure ρ.fr ρ.gr G s outs e' v s') s

theorem top_in (W : Wld w G s) {a : Addr} {o : Obj} (h : (topK w).lookup a = some o) : G a = some o := by
  obtain ⟨g₀, b, hi⟩ := W.base
  exact hi _ _ (b.K a o h)
theorem code_in (W : Wld w G s) {cd : Value} {q : Str} (h : codeIn (topK w) cd q = true) : CodeRecG G cd q := by
  obtain ⟨g₀, b, hi⟩ := W.base
  obtain ⟨c, oc, vs, t, h1, h2, h3, h4⟩ := codeRec_of b.K h
  exact ⟨c, oc, vs, t, h1, hi _ _ h2, h3, h4⟩

/-- a function's record, checked -/
noncomputable def fnB (fd : FuncData) (names : List Str) : Bool :=
  !fd.scope.isCoroutine && fd.scope.names.all (fun x => decide (x.2 ≠ .cell)) && decide (fd.scope.kind = .function) && decide (fd.globals = mainGlobals) && decide (fd.builtins = builtinsNs) &&
    names.all (fun x => decide (fd.scope.names.lookup x = some .local)) && decide names.Nodup
theorem fnB_ok {fd : FuncData} {names : List Str} {body : List Stmt} (h : fnB fd names = true) (hb : fd.body = .stmts body) : FnOk fd body ∧ (∀ x ∈ names, fd.scope.names.lookup x = some .local) ∧ names.Nodup := by
  simp only [fnB, Bool.and_eq_true, Bool.not_eq_true', decide_eq_true_eq, List.all_eq_true] at h
  obtain ⟨⟨⟨⟨⟨⟨h1, h2⟩, h3⟩, h4⟩, h5⟩, h6⟩, h7⟩ := h
  exact ⟨⟨hb, h1, h2, h3, h4, h5⟩, h6, h7⟩

/-- the frame of a function of the text -/
structure EnvOk (w : World) (fa : Addr) (env : Env) : Prop where
  kinds : ∀ x, env.kindOf x = (fdOf w fa).scope.names.lookup x
  inter : interactive env = false
  co : env.scope.isCoroutine = false
  code : env.code = (fdOf w fa).code
  qual : env.qual = (fdOf w fa).qualname ++ ".<locals>."
  globals : env.globals = mainGlobals
  builtins : env.builtins = builtinsNs
  frame : env.frame = some env.locals
theorem EnvOk.k {w : World} {fa : Addr} {env : Env} (x : EnvOk w fa env) (y : Str) (k : NameKind) (h : (fdOf w fa).scope.names.lookup y = some k) : env.kindOf y = some k := (x.kinds y).trans h
theorem envOk_call {fa : Addr} {body : List Stmt} (ok : FnOk (fdOf w fa) body) (L : Addr) : EnvOk w fa (callEnv (fdOf w fa) L fa) where
  kinds := fun x => rfl
  inter := by
    have := ok.kind
    unfold interactive
    show (_ : Bool) = false
    simp only [callEnv, newEnv, this]
    rfl
  co := ok.co
  code := rfl
  qual := rfl
  globals := ok.glob
  builtins := ok.bi
  frame := rfl

/-- a stage from its body -/
theorem stage_of {fa : Addr} {x1 x2 : Str} (hfo : (topK w).lookup fa = some { cls := .type "function", data := .func (fdOf w fa) }) (hb : fnB (fdOf w fa) [x1, x2] = true) (hbody : (fdOf w fa).body = .stmts (bodyOf w fa)) (hgen : (fdOf w fa).scope.isGenerator = true)
    (hcd : codeIn (topK w) (fdOf w fa).code (fdOf w fa).qualname = true) (hbind : ∀ hv fv, bindArgs (fdOf w fa) ⟨[hv, fv], []⟩ = pure ([x1, x2].zip [hv, fv]))
    (run : ∀ env p q ρ, EnvOk w fa env → Inp prog w n ins e p ρ → ∃ o, GsR prog w n env none ρ (Res.nil w) ⟨[(x1, p), (x2, q)], none⟩ (execs (bodyOf w fa) env) outs o ∧ ((e' = .done ∧ ∃ Γ', o = .next Γ') ∨ (e' = .err ∧ o = .err))) :
    Stage prog w n fa ins e outs e' := by
  intro A G s hv fv p q ρ hin r1 r2 W cx hρ hth
  obtain ⟨ok, hloc, hnd⟩ := fnB_ok hb hbody
  refine call_gen (binds := [x1, x2].zip [hv, fv]) (Γ₀ := ⟨[x1, x2].zip [p, q], none⟩) (top_in W hfo) ok hgen (code_in W hcd) (hbind hv fv) (fun x hx => hloc _ (mem_zip_fst hx)) (param_reads (.cons r1 (.cons r2 .nil)) hnd rfl hloc) rfl W cx hρ hth fun L X h => ?_
  obtain ⟨o, hg, ho⟩ := run _ p q ρ (envOk_call ok L) hin
  exact gen_body hg ho h

-- statements without a yield
theorem Good.toE {A : Around} (gd : Good w A env O Γ G s) : Good w A env O ⟨[], none⟩ G s :=
  { gd with vars := let ⟨m, hm, _⟩ := gd.vars; ⟨m, hm, fun _ _ e => by simp at e, trivial⟩ }

theorem Good.forget {A : Around} (gd : Good w A env O Γ G s) : Good w A env none ⟨Γ.vars, none⟩ G s :=
  { gd with oown := (fun _ h => by cases h), vars := let ⟨m, hm, hv, _⟩ := gd.vars; ⟨m, hm, hv, trivial⟩ }
theorem exp_doc {x : Str} {k : Nat} {p1 p2 : Pos} (hi : interactive env = false := by rfl) : ExP prog w n env O Γ (exec (.Expr (.Constant (.str x) k p1) p2) env) (.next Γ) := by
  intro A l G s r hl hf gd
  refine wpAny_Expr (Constant_str ?_) hi
  exact ⟨G, .toks gd.wld, rfl, gd.pur (.toks gd.wld)⟩
theorem gs_doc {x : Str} {k : Nat} {p1 p2 : Pos} (hi : interactive env = false := by rfl) : Gs prog w n env O Γ (exec (.Expr (.Constant (.str x) k p1) p2) env) [] (.next Γ) := gs_leaf (exp_doc hi)
end
end Mine

namespace Mine
open PySem PySem.W PySem.Calls PyProof.Rows PySem.SeqAt

mutual
/-- == on plain values (of one kind) -/
noncomputable def PV.eqb : PV → PV → Bool
  | .byt a, .byt b => a == b
  | .bool a, .bool b => a == b
  | .int a, .int b => a == b
  | .str a, .str b => a == b
  | .tup l, .tup m => eqbL l m
  | .lst l, .lst m => eqbL l m
  | _, _ => false
noncomputable def eqbL : List PV → List PV → Bool
  | [], [] => true
  | a :: l, b :: m => PV.eqb a b && eqbL l m
  | _, _ => false
end

/-- what may be compared here, and how deep it goes -/
inductive Cmpb : Nat → PV → PV → Prop
  | byt {d a b} : Cmpb d (.byt a) (.byt b)
  | bool {d a b} : Cmpb d (.bool a) (.bool b)
  | int {d a b} : Cmpb d (.int a) (.int b)
  | str {d a b} : Cmpb d (.str a) (.str b)
  | mix {d l i} : Cmpb d (.lst l) (.int i)
  | tup {d l m} : (∀ (i : Nat) (a b : PV), l[i]? = some a → m[i]? = some b → Cmpb d a b) → Cmpb (d+1) (.tup l) (.tup m)
  | lst {d l m} : (∀ (i : Nat) (a b : PV), l[i]? = some a → m[i]? = some b → Cmpb d a b) → Cmpb (d+1) (.lst l) (.lst m)

theorem eqb_tup (l m : List PV) : PV.eqb (.tup l) (.tup m) = eqbL l m := rfl
theorem eqb_lst (l m : List PV) : PV.eqb (.lst l) (.lst m) = eqbL l m := rfl
theorem eqb_byt (a : B) : PV.eqb (.byt a) (.byt a) = true := beq_self_eq_true a
theorem eqb_bool (a : Bool) : PV.eqb (.bool a) (.bool a) = true := beq_self_eq_true a
theorem eqb_int (a : Int) : PV.eqb (.int a) (.int a) = true := beq_self_eq_true a
theorem eqb_str (a : Str) : PV.eqb (.str a) (.str a) = true := beq_self_eq_true a
theorem eqbL_cons (a b : PV) (l m : List PV) : eqbL (a :: l) (b :: m) = (PV.eqb a b && eqbL l m) := rfl
theorem eqbL_iff : ∀ {l m : List PV}, eqbL l m = ((List.range (min l.length m.length)).all (fun i => PV.eqb ((l[i]?).getD .none) ((m[i]?).getD .none)) && l.length == m.length)
  | [], [] => rfl
  | [], b :: m => by rw [show eqbL [] (b :: m) = false from rfl]; simp
  | a :: l, [] => by rw [show eqbL (a :: l) [] = false from rfl]; simp
  | a :: l, b :: m => by
    have ih := eqbL_iff (l := l) (m := m)
    rw [eqbL_cons, ih]
    have hmin : min (a :: l).length (b :: m).length = min l.length m.length + 1 := by simp [Nat.succ_min_succ]
    rw [hmin, List.range_succ_eq_map, List.all_cons, List.all_map]
    simp only [List.getElem?_cons_zero, Option.getD_some, Function.comp_def, List.getElem?_cons_succ, List.length_cons]
    have : (l.length + 1 == m.length + 1) = (l.length == m.length) := by simp [Bool.beq_eq_decide_eq]
    rw [this, Bool.and_assoc]

theorem repL_get {G : GH} {l : List PV} {vs : Array Value} (h : RepL G l vs.toList) {j : Nat} (h1 : j < vs.size) : ∃ p, l[j]? = some p ∧ Rep G p vs[j] := by
  have hl := h.length
  have hj : j < l.length := by simp at hl; omega
  obtain ⟨v, hv, rv⟩ := h.get (List.getElem?_eq_getElem hj)
  have : v = vs[j] := by
    have : vs[j]? = some v := by simpa using hv
    rw [Array.getElem?_eq_getElem h1] at this
    exact (Option.some.inj this).symm
  exact ⟨_, List.getElem?_eq_getElem hj, this ▸ rv⟩

theorem eqb_same {G : GH} : ∀ {d p q}, Cmpb d p q → ∀ {v}, Rep G p v → Rep G q v → PV.eqb p q = true := by
  intro d p q h
  induction h with
  | byt => intro v r1 r2; unfold Rep at r1 r2; obtain ⟨t, rfl⟩ := r1; obtain ⟨t2, e⟩ := r2; cases e; exact eqb_byt _
  | bool => intro v r1 r2; unfold Rep at r1 r2; subst r1; cases r2; exact eqb_bool _
  | int => intro v r1 r2; unfold Rep at r1 r2; obtain ⟨t, rfl⟩ := r1; obtain ⟨t2, e⟩ := r2; cases e; exact eqb_int _
  | str => intro v r1 r2; unfold Rep at r1 r2; obtain ⟨t, rfl⟩ := r1; obtain ⟨t2, e⟩ := r2; cases e; exact eqb_str _
  | mix => intro v r1 r2; unfold Rep at r1 r2; obtain ⟨a, _, _, rfl, _⟩ := r1; obtain ⟨t2, e⟩ := r2; cases e
  | @tup d l m hh ih =>
    intro v r1 r2
    unfold Rep at r1 r2
    obtain ⟨a, vs, ep, rfl, hG, rl⟩ := r1
    obtain ⟨a2, vs2, ep2, e, hG2, rl2⟩ := r2
    cases e
    rw [hG] at hG2; cases hG2
    have h1 := rl.length; have h2 := rl2.length
    rw [eqb_tup, eqbL_iff]
    simp only [Bool.and_eq_true, List.all_eq_true, List.mem_range, beq_iff_eq]
    refine ⟨fun i hi => ?_, by omega⟩
    have hi1 : i < vs.size := by simp at h1; omega
    obtain ⟨p, hp, rp⟩ := repL_get rl hi1
    obtain ⟨q, hq, rq⟩ := repL_get rl2 hi1
    rw [hp, hq]
    exact ih i p q hp hq rp rq
  | @lst d l m hh ih =>
    intro v r1 r2
    unfold Rep at r1 r2
    obtain ⟨a, vs, ep, rfl, hG, rl⟩ := r1
    obtain ⟨a2, vs2, ep2, e, hG2, rl2⟩ := r2
    cases e
    rw [hG] at hG2; cases hG2
    have h1 := rl.length; have h2 := rl2.length
    rw [eqb_lst, eqbL_iff]
    simp only [Bool.and_eq_true, List.all_eq_true, List.mem_range, beq_iff_eq]
    refine ⟨fun i hi => ?_, by omega⟩
    have hi1 : i < vs.size := by simp at h1; omega
    obtain ⟨p, hp, rp⟩ := repL_get rl hi1
    obtain ⟨q, hq, rq⟩ := repL_get rl2 hi1
    rw [hp, hq]
    exact ih i p q hp hq rp rq

section
variable {prog : Program} {w : World} {n : Nat} {G : GH} {s : Shared}

theorem eqAt_byt {A : Around} {b c : B} {t u : Tok} : EqAt A s (.bytes b t) (.bytes c u) (b == c) := fun prog w E Q h => by
  refine eqBool_bytes ?_
  have : decide (b.toList = c.toList) = (b == c) := by
    rw [Bool.eq_iff_iff]; simp
  rw [this]; exact h

theorem all_items {A : Around} {d : Nat} {l m : List PV} {vs vs2 : Array Value} (rl : RepL G l vs.toList) (rl2 : RepL G m vs2.toList)
    (h : ∀ (i : Nat) (a b : PV), l[i]? = some a → m[i]? = some b → ∀ u v, Rep G a u → Rep G b v → EqAt A s u v (PV.eqb a b)) :
    ∀ j (h1 : j < vs.size) (h2 : j < vs2.size), EqAt A s vs[j] vs2[j] (PV.eqb ((l[j]?).getD .none) ((m[j]?).getD .none)) := by
  intro j h1 h2
  obtain ⟨p, hp, rp⟩ := repL_get rl h1
  obtain ⟨q, hq, rq⟩ := repL_get rl2 h2
  rw [hp, hq]
  exact h j p q hp hq _ _ rp rq

theorem eqAt_pv (W : Wld w G s) : ∀ {d p q}, Cmpb d p q → ∀ {A u v}, Rm d A → Rep G p u → Rep G q v → EqAt A s u v (PV.eqb p q) := by
  intro d p q h
  induction h with
  | byt => intro A u v r r1 r2; unfold Rep at r1 r2; obtain ⟨t, rfl⟩ := r1; obtain ⟨t2, rfl⟩ := r2; exact eqAt_byt
  | bool => intro A u v r r1 r2; unfold Rep at r1 r2; subst r1; subst r2; exact EqAt.bool_bool _ _
  | int => intro A u v r r1 r2; unfold Rep at r1 r2; obtain ⟨t, rfl⟩ := r1; obtain ⟨t2, rfl⟩ := r2; exact EqAt.int_int _ _ _ _
  | str => intro A u v r r1 r2; unfold Rep at r1 r2; obtain ⟨t, rfl⟩ := r1; obtain ⟨t2, rfl⟩ := r2; exact EqAt.str_str _ _ _ _
  | mix =>
    intro A u v r r1 r2; unfold Rep at r1 r2; obtain ⟨a, vs, ep, rfl, hG, rl⟩ := r1; obtain ⟨t2, rfl⟩ := r2
    exact EqAt.list_int _ _ ⟨_, W.sub _ _ hG, rfl, ep, rfl⟩ r.line
  | @tup d l m hh ih =>
    intro A u v r r1 r2
    have r1' := r1; have r2' := r2
    unfold Rep at r1 r2
    obtain ⟨a, vs, ep, rfl, hG, rl⟩ := r1
    obtain ⟨a2, vs2, ep2, rfl, hG2, rl2⟩ := r2
    by_cases hab : a = a2
    · subst hab
      rw [eqb_same (.tup hh) r1' r2']
      exact EqAt.same _
    · have hl : vs.size = l.length := by simpa using rl.length
      have hl2 : vs2.size = m.length := by simpa using rl2.length
      refine EqAt.of_refs hab ?_
      have := RcAt.tuples (A := A) (s := s) (l := a) (b := a2) ⟨_, W.sub _ _ hG, rfl, ep, rfl⟩ ⟨_, W.sub _ _ hG2, rfl, ep2, rfl⟩ r.line (all_items (A := A.in1) (d := d) rl rl2 fun i p q hp hq u v ru rv => ih i p q hp hq r.in1 ru rv)
      rw [eqb_tup, eqbL_iff, ← hl, ← hl2]
      exact this
  | @lst d l m hh ih =>
    intro A u v r r1 r2
    have r1' := r1; have r2' := r2
    unfold Rep at r1 r2
    obtain ⟨a, vs, ep, rfl, hG, rl⟩ := r1
    obtain ⟨a2, vs2, ep2, rfl, hG2, rl2⟩ := r2
    by_cases hab : a = a2
    · subst hab
      rw [eqb_same (.lst hh) r1' r2']
      exact EqAt.same _
    · have hl : vs.size = l.length := by simpa using rl.length
      have hl2 : vs2.size = m.length := by simpa using rl2.length
      refine EqAt.of_refs hab ?_
      rw [eqb_lst, eqbL_iff, ← hl, ← hl2]
      by_cases hsz : vs.size = vs2.size
      · have := RcAt.lists (A := A) (s := s) (l := a) (b := a2) ⟨_, W.sub _ _ hG, rfl, ep, rfl⟩ ⟨_, W.sub _ _ hG2, rfl, ep2, rfl⟩ hsz r.line (all_items (A := A.in1) (d := d) rl rl2 fun i p q hp hq u v ru rv => ih i p q hp hq r.in1 ru rv)
        have e : (vs.size == vs2.size) = true := by simpa using hsz
        rw [e, Bool.and_true, hsz, Nat.min_self]
        rw [hsz] at this
        exact this
      · have := RcAt.lists_lengths (A := A) (s := s) (l := a) (b := a2) ⟨_, W.sub _ _ hG, rfl, ep, rfl⟩ ⟨_, W.sub _ _ hG2, rfl, ep2, rfl⟩ (by simpa using hsz) r.line
        have e : (vs.size == vs2.size) = false := by simpa using hsz
        rw [e, Bool.and_false]
        exact this

theorem rcAt_of {A : Around} {d : Nat} {p q : PV} (W : Wld w G s) (h : Cmpb d p q) (hs : (∃ l m, p = .tup l ∧ q = .tup m) ∨ (∃ l m, p = .lst l ∧ q = .lst m)) (r : Rm d A) {u v : Value} (r1 : Rep G p u) (r2 : Rep G q v) : RcAt A s u v (PV.eqb p q) ∧ RcNeAt A s u v (!PV.eqb p q) := by
  rcases hs with ⟨l, m, rfl, rfl⟩ | ⟨l, m, rfl, rfl⟩
  · cases h with
    | tup hh =>
      unfold Rep at r1 r2
      obtain ⟨a, vs, ep, rfl, hG, rl⟩ := r1
      obtain ⟨a2, vs2, ep2, rfl, hG2, rl2⟩ := r2
      have hl : vs.size = l.length := by simpa using rl.length
      have hl2 : vs2.size = m.length := by simpa using rl2.length
      have he := all_items (s := s) (A := A.in1) (d := 0) rl rl2 fun i p q hp hq u v ru rv => eqAt_pv W (hh i p q hp hq) r.in1 ru rv
      rw [eqb_tup, eqbL_iff, ← hl, ← hl2]
      exact ⟨RcAt.tuples ⟨_, W.sub _ _ hG, rfl, ep, rfl⟩ ⟨_, W.sub _ _ hG2, rfl, ep2, rfl⟩ r.line he, RcNeAt.tuples ⟨_, W.sub _ _ hG, rfl, ep, rfl⟩ ⟨_, W.sub _ _ hG2, rfl, ep2, rfl⟩ r.line he⟩
  · cases h with
    | lst hh =>
      unfold Rep at r1 r2
      obtain ⟨a, vs, ep, rfl, hG, rl⟩ := r1
      obtain ⟨a2, vs2, ep2, rfl, hG2, rl2⟩ := r2
      have hl : vs.size = l.length := by simpa using rl.length
      have hl2 : vs2.size = m.length := by simpa using rl2.length
      have he := all_items (s := s) (A := A.in1) (d := 0) rl rl2 fun i p q hp hq u v ru rv => eqAt_pv W (hh i p q hp hq) r.in1 ru rv
      rw [eqb_lst, eqbL_iff, ← hl, ← hl2]
      by_cases hsz : vs.size = vs2.size
      · have e : (vs.size == vs2.size) = true := by simpa using hsz
        rw [e, Bool.and_true, ← hsz, Nat.min_self]
        exact ⟨RcAt.lists ⟨_, W.sub _ _ hG, rfl, ep, rfl⟩ ⟨_, W.sub _ _ hG2, rfl, ep2, rfl⟩ hsz r.line he, RcNeAt.lists ⟨_, W.sub _ _ hG, rfl, ep, rfl⟩ ⟨_, W.sub _ _ hG2, rfl, ep2, rfl⟩ hsz r.line he⟩
      · have e : (vs.size == vs2.size) = false := by simpa using hsz
        rw [e, Bool.and_false]
        exact ⟨RcAt.lists_lengths ⟨_, W.sub _ _ hG, rfl, ep, rfl⟩ ⟨_, W.sub _ _ hG2, rfl, ep2, rfl⟩ (by simpa using hsz) r.line, RcNeAt.lists_lengths ⟨_, W.sub _ _ hG, rfl, ep, rfl⟩ ⟨_, W.sub _ _ hG2, rfl, ep2, rfl⟩ (by simpa using hsz) r.line⟩

theorem cmp_eq_deep {p q : PV} (h : Cmpb n p q) (hs : (∃ l m, p = .tup l ∧ q = .tup m) ∨ (∃ l m, p = .lst l ∧ q = .lst m)) : CmpIs prog w n .Eq p q (PV.eqb p q) := fun G s u v W r1 r2 A cx => by
  obtain ⟨h1, _⟩ := rcAt_of W h hs cx.rm r1 r2
  exact h1 prog w _ _ ⟨G, .refl W, rfl⟩
theorem cmp_ne_deep {p q : PV} (h : Cmpb n p q) (hs : (∃ l m, p = .tup l ∧ q = .tup m) ∨ (∃ l m, p = .lst l ∧ q = .lst m)) : CmpIs prog w n .NotEq p q (!PV.eqb p q) := fun G s u v W r1 r2 A cx => by
  obtain ⟨_, h1⟩ := rcAt_of W h hs cx.rm r1 r2
  exact h1 prog w _ _ ⟨G, .refl W, rfl⟩

-- in
/-- a value is these bytes -/
noncomputable def isB (x : B) : Value → Bool
  | .bytes b _ => b == x
  | _ => false
theorem isB_bytes {x b : B} {t : Tok} : isB x (.bytes b t) = (x == b) := by
  show (b == x) = (x == b)
  rw [Bool.eq_iff_iff, beq_iff_eq, beq_iff_eq]; exact eq_comm
theorem any_isB {x : B} {l : List B} : ∀ {vs : List Value}, RepL G (l.map .byt) vs → vs.any (isB x) = l.contains x := by
  induction l with
  | nil => intro vs h; rw [List.map_nil] at h; unfold RepL at h; rw [h, List.any_nil, List.contains_nil]
  | cons b l ih =>
    intro vs h
    rw [List.map_cons] at h
    unfold RepL at h
    obtain ⟨v, r, rfl, a, c⟩ := h
    obtain ⟨t, rfl⟩ := rep_byt a
    rw [List.any_cons, ih c, List.contains_cons, isB_bytes]
theorem eq_isB {A : Around} {x : B} {t : Tok} {l : List B} {vs : Array Value} (h : RepL G (l.map .byt) vs.toList) : ∀ y, y ∈ vs → EqAt A s y (.bytes x t) (isB x y) := by
  intro y hy
  obtain ⟨j, hj, rfl⟩ := Array.mem_iff_getElem.mp hy
  obtain ⟨p, hp, rp⟩ := repL_get h hj
  rw [List.getElem?_map] at hp
  cases hb : l[j]? with
  | none => rw [hb] at hp; cases hp
  | some b =>
    rw [hb] at hp; cases hp
    obtain ⟨t2, e⟩ := rep_byt rp
    rw [e]
    exact eqAt_byt
theorem cmp_in_tup {x : B} {l : List B} : CmpIs prog w n .In (.byt x) (.tup (l.map .byt)) (l.contains x) := fun G s u v W r1 r2 A cx => by
  obtain ⟨t, rfl⟩ := rep_byt r1
  obtain ⟨a, vs, ep, rfl, hG, rl⟩ := rep_tup r2
  refine in_tupleAt (isB x) ⟨_, W.sub _ _ hG, rfl, ep, rfl⟩ (eq_isB rl) ⟨G, .refl W, ?_⟩
  have := any_isB (x := x) rl
  rw [← this]; simp
theorem cmp_notin_tup {x : B} {l : List B} : CmpIs prog w n .NotIn (.byt x) (.tup (l.map .byt)) (!l.contains x) := fun G s u v W r1 r2 A cx => by
  obtain ⟨t, rfl⟩ := rep_byt r1
  obtain ⟨a, vs, ep, rfl, hG, rl⟩ := rep_tup r2
  refine notIn_tupleAt (isB x) ⟨_, W.sub _ _ hG, rfl, ep, rfl⟩ (eq_isB rl) ⟨G, .refl W, ?_⟩
  have := any_isB (x := x) rl
  rw [← this]; simp
theorem cmp_in_lst {x : B} {l : List B} : CmpIs prog w n .In (.byt x) (.lst (l.map .byt)) (l.contains x) := fun G s u v W r1 r2 A cx => by
  obtain ⟨t, rfl⟩ := rep_byt r1
  obtain ⟨a, vs, ep, rfl, hG, rl⟩ := rep_lst r2
  refine in_listAt (isB x) ⟨_, W.sub _ _ hG, rfl, ep, rfl⟩ (eq_isB rl) ⟨G, .refl W, ?_⟩
  have := any_isB (x := x) rl
  rw [← this]; simp
end
end Mine

namespace Mine
open PySem PySem.W PySem.Calls PyProof.Rows

noncomputable def objOf (w : World) (a : Addr) : Obj := ((topK w).lookup a).getD default
noncomputable def entsOf (w : World) (a : Addr) : Array DictEntry := match (objOf w a).data with | .dict es _ => es | _ => #[]
noncomputable def epOf (w : World) (a : Addr) : Nat := match (objOf w a).data with | .dict _ n => n | _ => 0
noncomputable def strKeysB (es : Array DictEntry) : Bool := es.toList.all fun e => match e.key with | .str _ _ => true | _ => false
theorem strKeys_of {es : Array DictEntry} (h : strKeysB es = true) : StrKeys es := by
  intro e he
  have := List.all_eq_true.mp h e (by simpa using he)
  cases hk : e.key with
  | str n t => exact ⟨n, t, rfl⟩
  | _ => rw [hk] at this; cases this

section
variable {prog : Program} {w : World} {n : Nat} {env : Env} {O : Option Addr} {Γ Γ' : Lcl} {G : GH} {s : Shared}

theorem ns_top (W : Wld w G s) {a : Addr} (h1 : (topK w).lookup a = some (objOf w a)) (h2 : (objOf w a).data = .dict (entsOf w a) (epOf w a)) (h3 : strKeysB (entsOf w a) = true) : s.heap.Ns a (nsFind (entsOf w a)) :=
  ⟨objOf w a, entsOf w a, epOf w a, W.sub _ _ (top_in W h1), h2, strKeys_of h3, fun _ => rfl⟩

theorem pe_cls : (topK w).lookup 58 = some (excClassObj "ProtocolError" "ProtocolError" 58 57 [.ref 45] [.ref 45, .type "Exception", .type "BaseException", .type "object"] true [] [] false none none
    (some (.ref 49)) none (some (.str "ProtocolError" 270)) (some (.str "ProtocolError" 278)) (some (.bool true)) "Exception.__new__") := by kernel_rfl
theorem h2_cls : (topK w).lookup 45 = some (objOf w 45) := by kernel_rfl
theorem ns57a : (topK w).lookup 57 = some (objOf w 57) := by kernel_rfl
theorem ns57b : (objOf w 57).data = .dict (entsOf w 57) (epOf w 57) := by kernel_rfl
theorem ns57c : strKeysB (entsOf w 57) = true := by kernel_rfl
theorem ns57d : nsFind (entsOf w 57) "__init__" = none := by kernel_rfl
theorem ns44a : (topK w).lookup 44 = some (objOf w 44) := by kernel_rfl
theorem ns44b : (objOf w 44).data = .dict (entsOf w 44) (epOf w 44) := by kernel_rfl
theorem ns44c : strKeysB (entsOf w 44) = true := by kernel_rfl
theorem ns44d : nsFind (entsOf w 44) "__init__" = none := by kernel_rfl
theorem pe_name : nsIn (topK w) mainGlobals "ProtocolError" = some (some (.ref 58)) := by kernel_rfl
noncomputable def cls45 (w : World) : ClassData := match (objOf w 45).data with | .cls c => c | _ => default
theorem h2_obj : objOf w 45 = { cls := (objOf w 45).cls, dict := (objOf w 45).dict, data := .cls (cls45 w), slots := (objOf w 45).slots } := by kernel_rfl
theorem h2_ns : (cls45 w).ns = 44 := by kernel_rfl

theorem exp_raise {args : List Expr} {ps : List PV} {np cpos pos : Pos} (hk : env.kindOf "ProtocolError" = some .globalImplicit) (ha : EvArgs prog w n env Γ cpos args ps) (hlen : ps.length ≤ 1000)
    (hplain : (backTo cpos (starEach args env)).any (·.1) = false := by rfl) : ExP prog w n env O Γ (exec (.Raise (some (.Call (.Name "ProtocolError" np) args [] cpos)) none pos) env) .err := by
  intro A l G s r hl hf gd
  refine wpAny_Raise_call_subT (nm := "ProtocolError") (q := "ProtocolError") (C := 58) (N := 57) (bs := [.ref 45]) (bm := [.ref 45, .type "Exception", .type "BaseException", .type "object"]) (hdct := true) (sn := []) (sub := []) (ab := false) (col := none) (dd := none)
    (k0 := some (.ref 49)) (k1 := none) (k2 := some (.str "ProtocolError" 270)) (k3 := some (.str "ProtocolError" 278)) (k5 := some (.bool true)) PySem.F.excBase_Exception (mN := nsFind (entsOf w 57)) (by decide) r.handled hplain ns57d ?_
  refine (ev_global (n := n) (p := .oth (.ref 58)) hk pe_name (fun _ _ => by unfold Rep; rfl) (by decide +kernel)).use r gd fun v G1 s1 g1 gd1 q1 => ?_
  unfold Rep at q1
  refine ⟨q1, (ha _).use r gd1 fun a G2 s2 g2 gd2 q2 => ?_⟩
  have W := gd2.wld
  refine ⟨q2.1, ?_, W.sub _ _ (top_in W pe_cls), ns_top W ns57a ns57b ns57c, ?_, fun h' e hm => ?_⟩
  · have := q2.2.length; simp [sizeLine]; omega
  · have h45 := W.sub _ _ (top_in W h2_cls)
    rw [h2_obj] at h45
    refine .own h45 (mA := nsFind (entsOf w 44)) ?_ ns44d .base
    rw [h2_ns]
    exact ns_top W ns44a ns44b ns44c
  · have g3 : Grow w Pure No G2 s2 G2 { s2 with heap := h' } := Grow.keeps (dr := s2.drawn) (tk := s2.toks) W hm.keeps
    have gg := (g1.trans' g2).trans' g3
    obtain ⟨t, ht, htd, hto⟩ := hm.there
    refine ⟨rfl, G2, none, gg.pur, ((gd.pur gg).toE), ?_, .inl rfl⟩
    have hed : s.heap.get? e = none := (g1.trans' g2).ext.dead hm.new
    exact ⟨e, _, _, _, rfl, hed, W.fresh hm.new, ht, ⟨rfl, rfl⟩, rfl, rfl, by simp, rfl⟩
end
end Mine

namespace Mine
open PySem PySem.W PySem.Calls PyProof.Rows

section
variable {prog : Program} {w : World} {n : Nat} {env : Env} {O : Option Addr} {Γ Γ' : Lcl} {G : GH} {s : Shared}

-- texts of errors
/-- a part of a text, no longer than this -/
noncomputable abbrev EvS (prog : Program) (w : World) (n : Nat) (env : Env) (Γ : Lcl) (e : Expr) (k : Nat) : Prop := Ev prog w n env Γ (eval e env) (fun _ v => ∃ x t, v = .str x t ∧ x.length ≤ k)
theorem evs_const {x : Str} {k : Nat} {pos : Pos} {m : Nat} (h : x.length ≤ m) : EvS prog w n env Γ (.Constant (.str x) k pos) m := fun A O G s r g =>
  Constant_str ⟨G, .toks g.wld, _, _, rfl, h⟩

theorem foldl_len (f : UInt8 → Array Nat) (hf : ∀ c, (f c).size ≤ 4) : ∀ (l : List UInt8) (acc : Array Nat), (l.foldl (fun acc c => acc ++ f c) acc).size ≤ acc.size + 4 * l.length
  | [], acc => by simp
  | c :: l, acc => by
    rw [List.foldl_cons]
    have h := foldl_len f hf l (acc ++ f c)
    have h2 := hf c
    simp only [Array.size_append] at h
    simp only [List.length_cons]; omega
theorem literal_len (b : B) : (Builtin.Bytes.literal b).length ≤ 4 * b.size + 3 := by
  unfold Builtin.Bytes.literal
  show (Array.push _ _).size ≤ _
  rw [Array.size_push, ← Array.foldl_toList]
  refine Nat.le_trans (Nat.add_le_add_right (foldl_len _ (fun c => ?_) b.toList _) 1) ?_
  · dsimp only
    repeat' split
    all_goals simp
  · simp; omega
theorem gives_repr {b : B} {t : Tok} (h : Sm b) : Gives (Builtin.«bytes.__repr__» ⟨[.bytes b t], []⟩) (.str (Builtin.Bytes.literal b)) := by
  refine .of_wp fun M A E s Q hq => ?_
  show wpAny M A (Builtin.Bytes.literalAsked b >>= fun r => retStr r) _ E s
  unfold Builtin.Bytes.literalAsked
  have h1 : Builtin.Bytes.tooLong (4 * b.size + 3 + 0) = false := by
    refine KBy.tooLong_not ?_
    have := h; omega
  rw [h1]
  exact wpAny_bind (wpAny_pure (wpAny_bind (wpAny_mkStr (wpAny_pure ⟨_, rfl, hq.2⟩) hq.1)))
theorem evs_repr {e : Expr} {pos : Pos} {b : B} (h : EvP prog w n env Γ e (.byt b)) (hb : b.size ≤ 65536) : EvS prog w n env Γ (.FormattedValue e 114 none pos) 262147 := fun A O G s r g => by
  have hl := literal_len b
  refine wpAny_FormattedValue_repr (h.use r g fun v G1 s1 g1 gd1 q => ?_)
  obtain ⟨t, rfl⟩ := rep_byt q
  refine wpAny_pyReprObj_gives (x := Builtin.Bytes.literal b) (typeIs_bytes s1 b t) slot_repr entry_repr (args_repr_1 _) (gives_repr (by show b.size ≤ 1048576; omega)) ?_ rfl (by simp [sizeLine]; omega)
  refine wpAny_formatField_str ⟨G1, g1.trans' (.toks gd1.wld), _, _, rfl, by omega⟩ ⟨G1, (g1.trans' (.toks (tk := s1.toks + 1) gd1.wld)).trans' (.toks (by exact (Grow.toks (F := Pure) (K := No) gd1.wld).wld)), _, _, rfl, by omega⟩ (by simp [sizeLine]; omega)

noncomputable def EvJ (prog : Program) (w : World) (n : Nat) (env : Env) (Γ : Lcl) (es : List Expr) (k : Nat) : Prop :=
  ∀ A O G s acc (Q : Str → Shared → Prop), Rm n A → Good w A env O Γ G s → (∀ out G' s', Grow w Pure No G s G' s' → out.length ≤ acc.length + k → Q out s') → acc.length + k ≤ sizeLine → ∀ E, Joins (model prog w) A E (evalEach es env) acc Q s
theorem evj_nil : EvJ prog w n env Γ [] 0 := fun A O G s acc Q r g h hz E => h acc G s (.refl g.wld) (Nat.le_refl _)
theorem strLen_app (a b : Str) : (a ++ b).length = a.length + b.length := strLen_append a b
theorem evj_cons {e : Expr} {es : List Expr} {k m : Nat} (h1 : EvS prog w n env Γ e k) (h2 : EvJ prog w n env Γ es m) : EvJ prog w n env Γ (e :: es) (k + m) := fun A O G s acc Q r g h hz E => by
  show wpAny _ A (eval e env) _ E s
  refine h1.use r g fun v G1 s1 g1 gd1 q => ?_
  obtain ⟨x, t, rfl, hx⟩ := q
  refine ⟨x, t, rfl, by rw [strLen_app]; omega, ?_⟩
  refine h2 A O G1 s1 (acc ++ x) Q r gd1 (fun out G' s' g' ho => h out G' s' (g1.trans' g') ?_) (by rw [strLen_app]; omega) E
  rw [strLen_app] at ho; omega
theorem ev_joined {e1 e2 : Expr} {es : List Expr} {pos : Pos} {k : Nat} (h : EvJ prog w n env Γ (e1 :: e2 :: es) k) (hk : k ≤ 16777216) : EvP prog w n env Γ (.JoinedStr (e1 :: e2 :: es) pos) .any := fun A O G s r g => by
  have hz : (Str.empty).length + k ≤ sizeLine := by show 0 + k ≤ _; simp [sizeLine]; omega
  refine wpAny_JoinedStr (h A O G s Str.empty _ r g (fun out G' s' g' ho => ⟨by omega, G', g'.trans' (.toks g'.wld), by unfold Rep; trivial⟩) hz _)

-- statements
theorem exp_assign {y : Str} {yp pos : Pos} {e : Expr} {p : PV} (h : EvP prog w n env Γ e p) (hl : env.kindOf y = some .local) (hown : ∀ z d, Γ.own = some (z, d) → z ≠ y)
    (hs : swapsWith e (some (.Name y yp)) pos.line env = pure false := by rfl) : ExP prog w n env O Γ (exec (.Assign [.Name y yp] e pos) env) (.next (Γ.set y p)) := by
  intro A l G s r hf hself gd
  refine wpAny_Assign_Name (h.use r gd fun v G1 s1 g1 gd1 q => wpAny_store_good gd1 hl q hown fun s2 g2 gd2 => ?_) hs
  exact ⟨G1, g1.pur.trans' g2, rfl, gd2⟩
theorem exp_return {e : Expr} {pos : Pos} {p : PV} (h : EvP prog w n env Γ e p) : ExP prog w n env O Γ (exec (.Return (some e) pos) env) (.ret p) := by
  intro A l G s r hf hself gd
  refine wpAny_Return_some (h.use r gd fun v G1 s1 g1 gd1 q => ?_)
  exact ⟨G1, g1.pur, v, rfl, q, gd1.toE.forget⟩
theorem exp_nil : ExP prog w n env O Γ (execs [] env) (.next Γ) := by
  intro A l G s r hf hself gd
  exact wpAny_execs_nil ⟨G, .refl gd.wld, rfl, gd⟩
theorem exp_cons {st : Stmt} {rest : List Stmt} {o : Out} (h1 : ExP prog w n env O Γ (exec st env) (.next Γ')) (h2 : ExP prog w n env O Γ' (execs rest env) o) : ExP prog w n env O Γ (execs (st :: rest) env) o := by
  intro A l G s r hf hself gd
  refine wpAny_execs_cons (wpAny_mono (h1 A l G s r hf hself gd) (fun fl s1 ⟨G1, g1, q⟩ => ?_) (fun x s1 ⟨q, _⟩ => by cases q))
  obtain ⟨rfl, gd1⟩ := q
  refine wpAny_mono (h2 A l G1 s1 r hf hself gd1) (fun fl s2 ⟨G2, g2, q⟩ => ⟨G2, g1.trans' g2, ?_⟩) (fun x s2 ⟨q, G2, fl, g2, gd2, e9, hfl⟩ => ⟨q, G2, fl, g1.trans' g2, gd2, e9.start g1.ext.live, hfl⟩)
  exact q
theorem exp_stop {st : Stmt} {rest : List Stmt} {o : Out} (h1 : ExP prog w n env O Γ (exec st env) o) (ho : ∀ Γ', o ≠ .next Γ') : ExP prog w n env O Γ (execs (st :: rest) env) o := by
  intro A l G s r hf hself gd
  refine wpAny_execs_cons (wpAny_mono (h1 A l G s r hf hself gd) (fun fl s1 ⟨G1, g1, q⟩ => ?_) (fun x s1 q => q))
  cases o with
  | next Γ' => exact absurd rfl (ho Γ')
  | cont Γ' => obtain ⟨rfl, gd1⟩ := q; exact ⟨G1, g1, rfl, gd1⟩
  | ret p => obtain ⟨v, rfl, rp, gd1⟩ := q; exact ⟨G1, g1, v, rfl, rp, gd1⟩
  | err => exact q.elim
theorem exp_if {test : Expr} {body orelse : List Stmt} {pos : Pos} {b : Bool} {o : Out} (ht : EvT prog w n env Γ test b) (h1 : b = true → ExP prog w n env O Γ (execs body env) o) (h2 : b = false → ExP prog w n env O Γ (execs orelse env) o) :
    ExP prog w n env O Γ (exec (.If test body orelse pos) env) o := by
  intro A l G s r hf hself gd
  refine wpAny_If (ht.use r gd fun v G1 s1 g1 gd1 q => ?_)
  subst q
  have fin : ∀ t, ExP prog w n env O Γ t o → wpAny (model prog w) A t (fun fl s' => ∃ G', Grow w (Wr env O) No G s G' s' ∧ OutOk w A env O o fl G' s')
    (fun x s' => o = .err ∧ ∃ G' fl, Grow w (Wr env O) No G s G' s' ∧ Good w A env O ⟨[], none⟩ G' s' ∧ Err G' s.heap s' x fl ∧ ErrFl env fl) s1 := by
    intro t ht
    refine wpAny_mono (ht A l G1 s1 r hf hself gd1) (fun fl s2 ⟨G2, g2, q⟩ => ⟨G2, g1.pur.trans' g2, q⟩) (fun x s2 ⟨q, G2, fl, g2, gd2, e9, hfl⟩ => ⟨q, G2, fl, g1.pur.trans' g2, gd2, e9.start g1.ext.live, hfl⟩)
  cases v with
  | true => exact fin _ (h1 rfl)
  | false => exact fin _ (h2 rfl)
theorem exp_cons1 {st : Stmt} {o : Out} (h : ExP prog w n env O Γ (exec st env) o) : ExP prog w n env O Γ (execs [st] env) o := by
  cases o with
  | next Γ' => exact exp_cons h exp_nil
  | cont Γ' => exact exp_stop h (by simp)
  | ret p => exact exp_stop h (by simp)
  | err => exact exp_stop h (by simp)
theorem exp_continue {pos : Pos} : ExP prog w n env O Γ (exec (.Continue pos) env) (.cont Γ) := by
  intro A l G s r hf hself gd
  exact wpAny_Continue ⟨G, .refl gd.wld, rfl, gd⟩
theorem exp_assert {test : Expr} {msg : Option Expr} {pos : Pos} (ht : EvT prog w n env Γ test true) : ExP prog w n env O Γ (exec (.Assert test msg pos) env) (.next Γ) := by
  intro A l G s r hf hself gd
  exact wpAny_Assert_holds (ht.use r gd fun v G1 s1 g1 gd1 q => ⟨q, G1, g1.pur, rfl, gd1⟩)

/-- msg = ..; raise ProtocolError(msg) -/
theorem exp_msg_raise {y : Str} {yp pos np mp cpos rpos : Pos} {e : Expr} {p : PV} (h : EvP prog w n env Γ e p) (hl : env.kindOf y = some .local) (hk : env.kindOf "ProtocolError" = some .globalImplicit) (hown : Γ.own = none) (hd : (y == ("__debug__" : Str)) = false)
    (hs : swapsWith e (some (.Name y yp)) pos.line env = pure false := by rfl) :
    ExP prog w n env O Γ (execs [.Assign [.Name y yp] e pos, .Raise (some (.Call (.Name "ProtocolError" np) [.Name y mp] [] cpos)) none rpos] env) .err :=
  exp_cons (exp_assign h hl (fun z d q => by rw [hown] at q; cases q) hs) (exp_cons1 (exp_raise hk (args_cons (evl_cons (ev_name (p := p) (by simp [Lcl.set]) hd) evl_nil)) (by simp)))
end
end Mine

namespace Mine
open PySem PySem.W PySem.Calls PyProof.Rows

section
variable {prog : Program} {w : World} {n : Nat} {env : Env} {O : Option Addr} {Γ Γ' : Lcl} {G : GH} {s : Shared}

/-- a op b op' c, a test -/
theorem evt_chain2 {l r1 r2 : Expr} {op op' : CmpOp} {pos : Pos} {p q t : PV} {a b : Bool} (h1 : EvP prog w n env Γ l p) (h2 : EvP prog w n env Γ r1 q) (h3 : EvP prog w n env Γ r2 t)
    (c1 : CmpIs prog w n op p q a) (c2 : CmpIs prog w n op' q t b) (hm : lastMarks (op :: op' :: []) (r1 :: r2 :: []) = false := by with_unfolding_all rfl) :
    EvT prog w n env Γ (.Compare l [op, op'] [r1, r2] pos) (a && b) := fun A O G s rm g => by
  refine isTrue_chain (h1.use rm g fun u G1 s1 g1 gd1 q1 => test_link (h2.use rm gd1 fun v G2 s2 g2 gd2 q2 => (c1 G2 s2 u v gd2.wld (q1.mono g2.sub) q2).use (gd2.cx rm) fun x G3 s3 g3 q3 => ?_)) hm
  subst q3
  refine wpAny_truthy_bool ?_
  have gd3 := gd2.pur g3
  cases a with
  | false => exact ⟨G3, (g1.trans' g2).trans' g3, rfl⟩
  | true =>
    refine test_last (h3.use rm gd3 fun z G4 s4 g4 gd4 q4 => (c2 G4 s4 v z gd4.wld ((q2.mono g3.sub).mono g4.sub) q4).use (gd4.cx rm) fun y G5 s5 g5 q5 => ?_)
    subst q5
    exact wpAny_truthy_bool ⟨G5, (((g1.trans' g2).trans' g3).trans' g4).trans' g5, by simp⟩

theorem ev_neg {x : Expr} {pos : Pos} {i : Int} (h1 : EvP prog w n env Γ x (.int i)) : EvP prog w n env Γ (.UnaryOp .USub x pos) (.int (-i)) := fun A O G s rm g => by
  refine wpAny_UnaryOp (h1.use rm g fun u G1 s1 g1 gd1 q1 => ?_)
  obtain ⟨t, rfl⟩ := rep_int q1
  exact PySem.P.neg_int ⟨G1, g1.trans' (.toks gd1.wld), mk_int⟩

theorem bin_floordiv_int {i j : Int} (h : j ≠ 0) (hs : j.natAbs < 1073741824) : BinIs prog w n .FloorDiv (.int i) (.int j) (.int (i.fdiv j)) := fun G s u v W r1 r2 A cx => by
  obtain ⟨t, rfl⟩ := rep_int r1; obtain ⟨t2, rfl⟩ := rep_int r2
  exact PyProof.Rows.floordiv_int h ⟨G, .toks W, mk_int⟩ (.inl (PyProof.noPylong_small hs))

-- loops that keep a state
noncomputable def runF {S α : Type} (f : S → α → Option (List PV × S)) : S → List α → End' → List PV × S × End'
  | σ, [], e => ([], σ, e)
  | σ, h :: hs, e => match f σ h with
    | none => ([], σ, .err)
    | some (l, σ') => (l ++ (runF f σ' hs e).1, (runF f σ' hs e).2)

theorem loop_state {S α : Type} {g : α → PV} {y : Str} {body : List Stmt} {e : End'} {f : S → α → Option (List PV × S)} {R : S → List α → Lcl → Prop} (hown : ∀ σ l Γ, R σ l Γ → ∀ z d, Γ.own = some (z, d) → z ≠ y)
    (hb : ∀ σ h tl Γ, R σ (h :: tl) Γ → match f σ h with
      | some (l, σ') => ∃ Γ', R σ' tl Γ' ∧ (Gs prog w n env O (Γ.set y (g h)) (execs body env) l (.next Γ') ∨ Gs prog w n env O (Γ.set y (g h)) (execs body env) l (.cont Γ'))
      | none => Gs prog w n env O (Γ.set y (g h)) (execs body env) [] .err) : ∀ {ins : List α} {σ : S} {Γ : Lcl}, R σ ins Γ →
    ∃ o, LoopG prog w n env O y body Γ (ins.map g) e (runF f σ ins e).1 o ∧ (((runF f σ ins e).2.2 = .done ∧ ∃ Γ', o = .next Γ' ∧ R (runF f σ ins e).2.1 [] Γ') ∨ ((runF f σ ins e).2.2 = .err ∧ o = .err))
  | [], σ, Γ, hR => by
    cases e with
    | done => exact ⟨_, .done _, .inl ⟨rfl, _, rfl, hR⟩⟩
    | err => exact ⟨_, .fail _, .inr ⟨rfl, rfl⟩⟩
  | x :: ins, σ, Γ, hR => by
    have hx := hb σ x ins Γ hR
    unfold runF
    cases hf : f σ x with
    | none =>
      rw [hf] at hx
      exact ⟨.err, LoopG.stop (hown σ _ Γ hR) hx, .inr ⟨rfl, rfl⟩⟩
    | some lσ =>
      obtain ⟨l, σ'⟩ := lσ
      rw [hf] at hx
      obtain ⟨Γ', hR', hg⟩ := hx
      obtain ⟨o, L, ho⟩ := loop_state (e := e) hown hb (ins := ins) (σ := σ') (Γ := Γ') hR'
      refine ⟨o, ?_, ho⟩
      rcases hg with hg | hg
      · exact LoopG.next (hown σ _ Γ hR) hg L
      · exact LoopG.cont (hown σ _ Γ hR) hg L

/-- a loop that only looks -/
theorem loop_look {y : Str} {body : List Stmt} {P : List (Str × PV) → Prop} : ∀ {ins : List PV} {vars : List (Str × PV)},
    (∀ h ∈ ins, ∀ vars, P vars → ∃ vars', P vars' ∧ Gs prog w n env O ⟨(y, h) :: vars, none⟩ (execs body env) [] (.next ⟨vars', none⟩)) → P vars →
    ∃ vars', P vars' ∧ LoopG prog w n env O y body ⟨vars, none⟩ ins .done [] (.next ⟨vars', none⟩)
  | [], vars, _, hP => ⟨vars, hP, .done _⟩
  | h :: ins, vars, hb, hP => by
    obtain ⟨vars', hP', hg⟩ := hb h (.head _) vars hP
    obtain ⟨vars'', hP'', L⟩ := loop_look (ins := ins) (fun h hh => hb h (.tail _ hh)) hP'
    exact ⟨vars'', hP'', LoopG.next (outs1 := []) (by intro z d q; cases q) hg L⟩
end
end Mine

namespace Mine
open PySem PySem.W PySem.Calls PyProof.Rows
open PySem.Builtin

section
variable {prog : Program} {w : World} {n : Nat} {A : Around} {E : Value → Shared → Prop} {s : Shared}

theorem find_none {b : B} (h : ∀ i, 1 ≤ i → b[i]? ≠ some 58) : ∀ hi, Bytes.find? b #[58] 1 hi = none := by
  intro hi
  unfold Bytes.find?
  rw [List.find?_eq_none]
  intro i hm
  simp only [List.mem_map, List.mem_range] at hm
  obtain ⟨j, _, rfl⟩ := hm
  intro hc
  have e : b.extract (j + 1) (j + 1 + 1) = #[58] := by simpa using hc
  have : (b.extract (j + 1) (j + 1 + 1))[0]? = some 58 := by rw [e]; rfl
  rw [Array.getElem?_extract] at this
  split at this
  · exact h (j + 1) (by omega) (by simpa using this)
  · cases this

theorem call_find_none {b : B} (h : ∀ i, 1 ≤ i → b[i]? ≠ some 58) : CallIs prog w n (.builtin "bytes.find") [.byt b, .byt #[58], .int 1] (.int (-1)) := by
  intro G s vs W r A cx
  obtain ⟨v, u, x, rfl, q, q2, q3⟩ := repl3 r
  obtain ⟨t, rfl⟩ := rep_byt q
  obtain ⟨t2, rfl⟩ := rep_byt q2
  obtain ⟨t3, rfl⟩ := rep_int q3
  refine wpAny_call_entry slot_find (typeIs_bytes s b t) entry_find ?_ (args_find_3 _ _ _)
  show wpAny _ _ (Bytes.searchM .bytes "find" false false _) _ _ s
  unfold Bytes.searchM Bytes.searchArgs
  refine wpAny_bind ?_
  refine wpAny_bind (m := selfAndSome _ _ _ _ _) (wpAny_pure ?_)
  show wpAny _ _ (Bytes.bound? (some (.int 1 t3)) >>= _) _ _ s
  refine wpAny_bind ?_
  unfold Bytes.bound?
  refine wpAny_bind (wpAny_specialOf (T := "int") (typeIs_int _ _ _) F.slot_int_index.lookup ?_)
  refine wpAny_ite (KBy.ite_no (show ¬ (Option.isNone (some _) = true) from Bool.false_ne_true) ?_)
  refine wpAny_bind (wpAny_of_eq (a := (1 : Int)) rfl (wpAny_pure ?_))
  refine wpAny_bind (m := Bytes.bound? none) (wpAny_pure ?_)
  show wpAny _ _ (Bytes.buffer? _ (.bytes #[58] t2) >>= _) _ _ s
  refine wpAny_bind (wpAny_of_eq KBy.buffer_eq ?_)
  refine wpAny_bind (wpAny_pure ?_)
  refine wpAny_bind (m := Bytes.payload _) (wpAny_of_eq (a := b) rfl ?_)
  refine wpAny_pure ?_
  have key : ((if (Bytes.window b.size (some 1) none).2 - (Bytes.window b.size (some 1) none).1 < ((#[58] : B).size : Int) then none else some ((Bytes.window b.size (some 1) none).1.toNat, (Bytes.window b.size (some 1) none).2.toNat) : Option (Nat × Nat)).bind
      fun (x : Nat × Nat) => Bytes.find? b #[58] x.1 x.2) = none := by
    split
    · rfl
    · exact find_none h _
  show wpAny _ _ (match ((if (Bytes.window b.size (some 1) none).2 - (Bytes.window b.size (some 1) none).1 < ((#[58] : B).size : Int) then none else some ((Bytes.window b.size (some 1) none).1.toNat, (Bytes.window b.size (some 1) none).2.toNat) : Option (Nat × Nat)).bind
      fun (x : Nat × Nat) => Bytes.find? b #[58] x.1 x.2) with
      | some i => retInt i
      | none => rule _ >>= fun _ => retInt (-1)) _ _ s
  rw [key]
  refine wpAny_bind (wpAny_rule ?_)
  unfold retInt
  exact wpAny_bind (wpAny_mkInt (wpAny_pure ⟨_, rfl, G, .toks W, mk_int⟩))

-- split
noncomputable def bytesFrom : Nat → List B → List Value
  | _, [] => []
  | t, b :: l => .bytes b t :: bytesFrom (t+1) l
theorem bytesFrom_rep {G : GH} : ∀ {l : List B} {t}, RepL G (l.map .byt) (bytesFrom t l)
  | [], _ => .nil
  | b :: l, t => .cons mk_byt (bytesFrom_rep (t := t+1))
theorem wpAny_mapM_new {M : Model} : ∀ (xs : List B) (s : Shared) (Q : List Value → Shared → Prop), (∀ x ∈ xs, x.size ≤ sizeLine) → Q (bytesFrom s.toks xs) { s with toks := s.toks + xs.length } → wpAny M A (xs.mapM (Bytes.Kind.new .bytes)) Q E s
  | [], s, Q, _, h => by rw [List.mapM_nil]; exact wpAny_pure h
  | x :: r, s, Q, hx, h => by
    rw [List.mapM_cons]
    refine wpAny_bind (wpAny_mkBytes (wpAny_bind (wpAny_mapM_new r _ _ (fun y hy => hx y (List.mem_cons_of_mem _ hy)) (wpAny_pure ?_))) (hx x (List.mem_cons_self ..)))
    have e : s.toks + 1 + r.length = s.toks + (x :: r).length := by simp [Nat.add_comm, Nat.add_left_comm]
    show Q (.bytes x s.toks :: bytesFrom (s.toks + 1) r) { s with toks := s.toks + 1 + r.length }
    rw [e]; exact h

noncomputable def splitB (b sep : B) : List B := if ((Bytes.occurrences b sep 0 b.size).take (b.size + 1)).isEmpty then [b] else Bytes.between b sep.size ((Bytes.occurrences b sep 0 b.size).take (b.size + 1))
theorem bo_split (v : Value) : Bytes.bindOptional "bytes.split" "split" ["sep", "maxsplit"] [v] [] = pure [some v, none] := by kernel_rfl
theorem call_split {b sep : B} (hb : Sm b) (hsep : sep.isEmpty = false) (hsz : ∀ x ∈ splitB b sep, x.size ≤ 16777216) (hl : (splitB b sep).length ≤ 16777216) : CallIs prog w n (.builtin "bytes.split") [.byt b, .byt sep] (.lst ((splitB b sep).map .byt)) := by
  intro G s vs W r A cx
  obtain ⟨v, u, rfl, q, q2⟩ := repl2 r
  obtain ⟨t, rfl⟩ := rep_byt q
  obtain ⟨t2, rfl⟩ := rep_byt q2
  refine wpAny_call_entry slot_split (typeIs_bytes s b t) entry_split ?_ (args_split_2 _ _)
  show wpAny _ _ (Bytes.splitM .bytes "split" false _) _ _ s
  unfold Bytes.splitM
  show wpAny _ _ (Bytes.bindOptional "bytes.split" "split" ["sep", "maxsplit"] [.bytes sep t2] [] >>= _) _ _ s
  rw [bo_split]
  refine wpAny_bind (wpAny_pure ?_)
  refine wpAny_bind (wpAny_pure ?_)
  refine wpAny_bind (m := Bytes.payload _) (wpAny_of_eq (a := b) rfl ?_)
  show wpAny _ _ (Bytes.bytesLike _ (.bytes sep t2) >>= _) _ _ s
  refine wpAny_bind ?_
  unfold Bytes.bytesLike
  refine wpAny_bind (wpAny_of_eq KBy.buffer_eq (wpAny_pure ?_))
  rw [if_neg (by rw [hsep]; exact Bool.false_ne_true)]
  unfold splitB at hsz hl ⊢
  show wpAny _ _ (if ((Bytes.occurrences b sep 0 b.size).take (b.size + 1)).isEmpty = true then _ else _) _ _ s
  by_cases he : ((Bytes.occurrences b sep 0 b.size).take (b.size + 1)).isEmpty = true
  · rw [if_pos he] at hsz hl ⊢
    rw [if_pos he]
    refine wpAny_bind (wpAny_rule ?_)
    refine wpAny_bind (m := Bytes.Kind.same .bytes (.bytes b t)) (wpAny_pure ?_)
    refine wpAny_bind (wpAny_newList ?_)
    have g2 := Grow.push (F := Pure) (K := No) (tk := s.toks) W (o := { cls := .type "list", data := .seq [Value.bytes b t].toArray }) rfl
    exact wpAny_pure ⟨_, rfl, _, g2, mk_lst GH.add_self (.cons mk_byt .nil)⟩
  · rw [if_neg he] at hsz hl ⊢
    rw [if_neg he]
    refine wpAny_bind (wpAny_mapM_new _ _ _ (fun x hx => by have := hsz x hx; simp [sizeLine]; omega) ?_)
    have hlen : ∀ (l : List B) t, (bytesFrom t l).length = l.length := by
      intro l; induction l with
      | nil => intro t; rfl
      | cons a l ih => intro t; simp [bytesFrom, ih]
    refine wpAny_bind (wpAny_newList ?_ (by rw [hlen]; simp [sizeLine]; omega))
    have g1 : Grow w Pure No G s G { s with toks := s.toks + (Bytes.between b sep.size ((Bytes.occurrences b sep 0 b.size).take (b.size + 1))).length } := .toks W
    have g2 := Grow.push (F := Pure) (K := No) (tk := s.toks + (Bytes.between b sep.size ((Bytes.occurrences b sep 0 b.size).take (b.size + 1))).length) g1.wld (o := { cls := .type "list", data := .seq (bytesFrom s.toks (Bytes.between b sep.size ((Bytes.occurrences b sep 0 b.size).take (b.size + 1)))).toArray }) rfl
    exact wpAny_pure ⟨_, rfl, _, g1.trans' g2, mk_lst GH.add_self (by simpa using bytesFrom_rep)⟩
end
end Mine

namespace Mine
open PySem PySem.W PySem.Calls PyProof.Rows
open PySem.Builtin

section
variable {prog : Program} {w : World} {n : Nat} {A : Around} {E : Value → Shared → Prop} {s : Shared}

theorem take_eq {b : B} {t : Tok} {id : String} {f : Int} : Bytes.takeBufferQuiet? id (.bytes b t) f = pure (some (b, none)) := by
  unfold Bytes.takeBufferQuiet? Bytes.takeBuffer?
  rw [KBy.special_eq KBy.look_buffer, KBy.own_buffer]
  have e : Bytes.buffer? id (.bytes b t) (f == Bytes.fullReadOnly) = pure (some b) := by
    unfold Bytes.buffer?
    rw [KBy.special_eq KBy.look_buffer, KBy.own_buffer, KBy.own_release]
    kernel_rfl
  show (Sem.attempt (Bytes.buffer? id (.bytes b t) (f == Bytes.fullReadOnly) >>= fun r => pure (r.map (·, none))) >>= _) = _
  rw [e]
  rfl

theorem loop_inv {β : Type} {M : Model} {m : Nat} {init : β} {body : Nat → β → Sem (ForInStep β)} {Q : β → Shared → Prop} (I : Nat → β → Prop)
    (hb : ∀ j st, j < m → I j st → wpAny M A (body j st) (fun r s' => s' = s ∧ ∃ st', r = .yield st' ∧ I (j+1) st') E s) (h0 : I 0 init) (hQ : ∀ st, I m st → Q st s) : wpAny M A (forIn [0:m] init body) Q E s := by
  rw [Std.Legacy.Range.forIn_eq_forIn_range']
  have key : ∀ k j st, j + k = m → I j st → wpAny M A (forIn (List.range' j k 1) st body) Q E s := by
    intro k
    induction k with
    | zero =>
      intro j st e h
      have e2 : j = m := by omega
      subst e2
      exact wpAny_pure (hQ st h)
    | succ k ih =>
      intro j st e h
      rw [List.range'_succ, List.forIn_cons]
      refine wpAny_bind (wpAny_mono (hb j st (by omega) h) (fun r s' ⟨e1, st', e2, h'⟩ => ?_) fun _ _ x => x)
      subst e1; subst e2
      exact ih (j+1) st' (by omega) h'
  have e : Std.Legacy.Range.size [0:m] = m := by simp [Std.Legacy.Range.size]
  show wpAny M A (forIn (List.range' 0 (Std.Legacy.Range.size [0:m]) 1) init body) Q E s
  rw [e]
  exact key m 0 init (by omega) h0

theorem letGo_none {M : Model} {keep : List Value} : ∀ {vs : List Value} {Q : Unit → Shared → Prop}, Q () s → wpAny M A (Bytes.joinLetGo (vs.map fun v => (v, none)) keep) Q E s
  | [], Q, h => wpAny_pure h
  | v :: vs, Q, h => by
    show wpAny M A (letGo [v] _ >>= fun _ => Bytes.joinLetGo (vs.map fun v => (v, none)) keep) Q E s
    exact wpAny_bind (wpAny_letGo (letGo_none h))

theorem call_join {sep : B} {l : List B} (hl : l.length ≤ 1048576) (hz : l.foldl (· + ·.size) (sep.size * (l.length - 1)) ≤ 16777216) (hj : (Bytes.joined sep l).size ≤ 16777216) : CallIs prog w n (.builtin "bytes.join") [.byt sep, .lst (l.map .byt)] (.byt (Bytes.joined sep l)) := by
  intro G s vs W r A cx
  obtain ⟨v, u, rfl, q, q2⟩ := repl2 r
  obtain ⟨t, rfl⟩ := rep_byt q
  obtain ⟨a, xs, ep, rfl, hG, rl⟩ := rep_lst q2
  have ho := W.sub _ _ hG
  refine wpAny_call_entry slot_join (typeIs_bytes s _ t) entry_join ?_ (args_join_2 _ _)
  show wpAny _ _ (Bytes.joinM .bytes _) _ _ s
  unfold Bytes.joinM
  refine wpAny_bind (m := selfAndOne _ _) (wpAny_pure ?_)
  show wpAny _ _ (Bytes.joinItems (.ref a) >>= _) _ _ s
  refine wpAny_bind ?_
  unfold Bytes.joinItems
  refine wpAny_bind (wpAny_typeOf (T := "list") ⟨_, ho, rfl⟩ ?_)
  refine wpAny_pure ?_
  refine wpAny_bind (wpAny_seqItems ho rfl ?_)
  have hsz : xs.size = l.length := by simpa using rl.length
  have ho' : s.heap.get? a = some { cls := .type "list", data := .seq xs ep } := ho
  have item : ∀ j, j < l.length → ∃ b tb, l[j]? = some b ∧ xs[j]? = some (.bytes b tb) := fun j hj => by
    obtain ⟨v, hv, rv⟩ := rl.get (i := j) (p := .byt l[j]) (by simp [hj])
    obtain ⟨tb, rfl⟩ := rep_byt rv
    exact ⟨l[j], tb, by simp [hj], by simpa using hv⟩
  by_cases h1 : ∃ x, l = [x]
  · obtain ⟨x, rfl⟩ := h1
    obtain ⟨v, e, rv⟩ := repl1 (p := .byt x) rl
    obtain ⟨tb, rfl⟩ := rep_byt rv
    obtain ⟨ls⟩ := xs
    simp only at e
    subst e
    show wpAny _ _ (typeOf (.bytes x tb) >>= _) _ _ s
    refine wpAny_bind (wpAny_typeOf (typeIs_bytes _ _ _) ?_)
    refine wpAny_bind (wpAny_rule (wpAny_pure ⟨_, rfl, G, .refl W, ?_⟩))
    have e2 : Bytes.joined sep [x] = x := by simp [Bytes.joined]
    rw [e2]; exact mk_byt
  · obtain ⟨ls⟩ := xs
    rcases ls with _ | ⟨v, _ | ⟨v2, rest⟩⟩
    rotate_left
    · exact absurd ⟨l[0]'(by simp at hsz; omega), by
          match l, hsz with
          | [x], _ => rfl⟩ h1
    all_goals
      refine wpAny_bind (loop_inv (fun j st => st.1 = (l.take j).toArray ∧ ∃ vs' : List Value, st.2 = vs'.map (fun v => (v, none)) ∧ ∀ v ∈ vs', v.onHeap = false) ?_ ?_ ?_)
      · intro j st hj ⟨i1, vs', i2, i3⟩
        obtain ⟨parts, taken⟩ := st
        simp only at i1 i2
        subst i1; subst i2
        have hj' : j < l.length := by rw [← hsz]; exact hj
        obtain ⟨b, tb, e1, e2⟩ := item j hj'
        refine wpAny_bind (wpAny_seqItems ho rfl ?_)
        have hg : ∀ ys : Array Value, ys[j]? = some (.bytes b tb) → ys.getD j .none = .bytes b tb := fun ys h => by simp [Array.getD_eq_getD_getElem?, h]
        dsimp only
        rw [hg _ e2]
        have hno : (Bytes.Kind.bytes == Bytes.Kind.bytearray || (vs'.map fun v => ((v, none) : Value × Option Value)).any fun x => x.1.onHeap) = false := by
          have : ((vs'.map fun v => ((v, none) : Value × Option Value)).any fun x => x.1.onHeap) = false := by
            rw [List.any_map, List.any_eq_false]
            intro v hv
            simp [i3 v hv]
          rw [this]; rfl
        rw [hno, if_neg Bool.false_ne_true]
        refine wpAny_bind (wpAny_holding (wpAny_of_eq take_eq ?_))
        refine wpAny_bind (wpAny_seqItems ho rfl ?_)
        dsimp only
        rw [bne_self_eq_false, if_neg Bool.false_ne_true]
        refine wpAny_pure ⟨rfl, _, rfl, ?_, vs' ++ [.bytes b tb], by simp, fun v hv => ?_⟩
        · rw [List.take_add_one, e1]; simp
        · rcases List.mem_append.mp hv with h | h
          · exact i3 v h
          · simp at h; subst h; rfl
      · exact ⟨rfl, [], rfl, fun v hv => by cases hv⟩
      · intro st ⟨i1, vs', i2, i3⟩
        obtain ⟨parts, taken⟩ := st
        simp only at i1 i2
        rw [hsz, List.take_length] at i1
        subst i1; subst i2
        dsimp only
        refine wpAny_bind (m := Bytes.payload _) (wpAny_of_eq (a := sep) rfl ?_)
        rw [if_neg (by
          rw [KBy.tooLong_not]
          · exact Bool.false_ne_true
          · simpa using hz)]
        refine wpAny_bind (wpAny_mkBytes ?_ (by simpa [sizeLine] using hj))
        refine wpAny_bind (wpAny_holding (wpAny_point ?_))
        refine wpAny_bind (letGo_none (wpAny_pure ⟨_, rfl, G, .toks W, ?_⟩))
        exact mk_byt
end
end Mine

namespace Mine
open PySem PySem.W PySem.Calls PyProof.Rows

/-- a header field: name, value, and whether a third item (True) stands behind -/
noncomputable abbrev Hd := B × B × Bool
noncomputable def Hd.pv (h : Hd) : PV := .tup ([.byt h.1, .byt h.2.1] ++ if h.2.2 then [.bool true] else [])
/-- small -/
noncomputable def SmH (h : Hd) : Prop := h.1.size ≤ 4096 ∧ h.2.1.size ≤ 4096
noncomputable def low (b : B) : B := (b.toList.map Builtin.Bytes.toLower).toArray
noncomputable def strip0 (b : B) : B := (stripBy Builtin.Bytes.isSpace b.toList).toArray

noncomputable def bCookie : B := [99, 111, 111, 107, 105, 101].toArray
noncomputable def bTe : B := [116, 101].toArray
noncomputable def bTrailers : B := [116, 114, 97, 105, 108, 101, 114, 115].toArray
noncomputable def connNames : List B := [[99, 111, 110, 110, 101, 99, 116, 105, 111, 110].toArray, [112, 114, 111, 120, 121, 45, 99, 111, 110, 110, 101, 99, 116, 105, 111, 110].toArray, [107, 101, 101, 112, 45, 97, 108, 105, 118, 101].toArray,
  [116, 114, 97, 110, 115, 102, 101, 114, 45, 101, 110, 99, 111, 100, 105, 110, 103].toArray, [117, 112, 103, 114, 97, 100, 101].toArray]
noncomputable def secNames : List B := [[97, 117, 116, 104, 111, 114, 105, 122, 97, 116, 105, 111, 110].toArray, [112, 114, 111, 120, 121, 45, 97, 117, 116, 104, 111, 114, 105, 122, 97, 116, 105, 111, 110].toArray]

/-- a stage without a memory: each field gives some fields, or is refused -/
noncomputable def runS (f : Hd → Option (List Hd)) : List Hd → End' → List Hd × End'
  | [], e => ([], e)
  | h :: hs, e => match f h with
    | none => ([], .err)
    | some l => (l ++ (runS f hs e).1, (runS f hs e).2)

section
variable {prog : Program} {w : World} {n : Nat} {env : Env} {O : Option Addr} {Γ Γ' : Lcl}
theorem Hd.get0 (h : Hd) : (([.byt h.1, .byt h.2.1] ++ if h.2.2 then [PV.bool true] else []) : List PV)[0]? = some (.byt h.1) := rfl
theorem Hd.get1 (h : Hd) : (([.byt h.1, .byt h.2.1] ++ if h.2.2 then [PV.bool true] else []) : List PV)[1]? = some (.byt h.2.1) := rfl

/-- header[0], header[1], header[2:] -/
theorem ev_h0 {x : Str} {p1 p2 p3 : Pos} {h : Hd} {k : Nat} (hx : Γ.vars.lookup x = some h.pv) (hd : (x == ("__debug__" : Str)) = false := by decide) : EvP prog w n env Γ (.Subscript (.Name x p1) (.Constant (.int 0) k p2) p3) (.byt h.1) :=
  ev_sub (T := "tuple") (ev_name hx hd) ev_int ty_tup F.slot_tuple_getitem.lookup (idx_tup (k := 0) h.get0 (by omega))
theorem ev_h1 {x : Str} {p1 p2 p3 : Pos} {h : Hd} {k : Nat} (hx : Γ.vars.lookup x = some h.pv) (hd : (x == ("__debug__" : Str)) = false := by decide) : EvP prog w n env Γ (.Subscript (.Name x p1) (.Constant (.int 1) k p2) p3) (.byt h.2.1) :=
  ev_sub (T := "tuple") (ev_name hx hd) ev_int ty_tup F.slot_tuple_getitem.lookup (idx_tup (k := 1) h.get1 (by omega))
theorem ev_h2 {x : Str} {p1 p2 p3 p4 : Pos} {h : Hd} {k : Nat} (hx : Γ.vars.lookup x = some h.pv) (hd : (x == ("__debug__" : Str)) = false := by decide) :
    EvP prog w n env Γ (.Subscript (.Name x p1) (.Slice (some (.Constant (.int 2) k p2)) none none p3) p4) (.tup (if h.2.2 then [.bool true] else [])) := by
  have hlen : (([.byt h.1, .byt h.2.1] ++ if h.2.2 then [PV.bool true] else []) : List PV).length ≤ 1000 := by simp; split <;> simp
  have := ev_slice (T := "tuple") (prog := prog) (w := w) (n := n) (env := env) (p2 := p3) (pos := p4) (value := .Name x p1) (ev_name hx hd) (part_some (ev_int (i := 2) (k := k) (pos := p2))) part_none ty_tup F.slot_tuple_getitem.lookup
    (sli_tup_from (k := 2) (by omega) (by simp) hlen)
  simpa using this

theorem ev_lower {o : Expr} {apos pos : Pos} {b : B} (ho : EvP prog w n env Γ o (.byt b)) (hb : Sm b)
    (hbase : attributeBase o "lower" env (eval o env) = eval o env := by rfl) (hline : (apos.endLine == pos.line) = true := by rfl) :
    EvP prog w n env Γ (.Call (.Attribute o "lower" apos) [] [] pos) (.byt (low b)) :=
  ev_method ho args_nil hd_byt FB.plainAttrs_bytes slot_lower type_lower (call_lower hb) hbase rfl hline rfl
theorem ev_strip0 {o : Expr} {apos pos : Pos} {b : B} (ho : EvP prog w n env Γ o (.byt b)) (hb : Sm b)
    (hbase : attributeBase o "strip" env (eval o env) = eval o env := by rfl) (hline : (apos.endLine == pos.line) = true := by rfl) :
    EvP prog w n env Γ (.Call (.Attribute o "strip" apos) [] [] pos) (.byt (strip0 b)) :=
  ev_method ho args_nil hd_byt FB.plainAttrs_bytes slot_strip type_strip (call_strip0 hb) hbase rfl hline rfl
theorem ev_len {a : Expr} {p1 pos : Pos} {b : B} (hk : env.kindOf "len" = some .globalImplicit) (ha : EvP prog w n env Γ a (.byt b)) (hb : Sm b) (hs : starEach [a] env = (false, eval a env) :: starEach [] env := by rfl) :
    EvP prog w n env Γ (.Call (.Name "len" p1) [a] [] pos) (.int b.size) :=
  ev_call_bi (ev_builtin hk (by kernel_rfl) (by kernel_rfl) (by decide +kernel) (by decide +kernel)) (args_cons (evl_cons ha evl_nil hs) hs) (call_len_byt hb) (by rw [hs]; rfl)
theorem ev_isb {a : Expr} {p1 p2 pos : Pos} {b : B} (hk : env.kindOf "isinstance" = some .globalImplicit) (hk2 : env.kindOf "bytes" = some .globalImplicit) (ha : EvP prog w n env Γ a (.byt b))
    (hs : starEach [a, .Name "bytes" p2] env = (false, eval a env) :: starEach [.Name "bytes" p2] env := by rfl) :
    EvP prog w n env Γ (.Call (.Name "isinstance" p1) [a, .Name "bytes" p2] [] pos) (.bool true) :=
  ev_call_bi (ev_builtin hk (by kernel_rfl) (by kernel_rfl) (by decide +kernel) (by decide +kernel))
    (args_cons (evl_cons ha (evl_cons (ev_builtin hk2 (by kernel_rfl) (v := .type "bytes") (by kernel_rfl) (by decide +kernel) (by decide +kernel)) evl_nil) hs) hs) call_isinstance_byt (by rw [hs]; rfl)

/-- what a stage hands on, field by field -/
theorem loop_run {y : Str} {body : List Stmt} {e : End'} {f : Hd → Option (List Hd)} : ∀ {hs : List Hd} {vars : List (Str × PV)}, (∀ x ∈ hs, ∀ vars, match f x with
      | some l => ∃ vars', Gs prog w n env none ⟨(y, x.pv) :: vars, none⟩ (execs body env) (l.map Hd.pv) (.next ⟨vars', none⟩)
      | none => Gs prog w n env none ⟨(y, x.pv) :: vars, none⟩ (execs body env) [] .err) →
    ∃ o, LoopG prog w n env none y body ⟨vars, none⟩ (hs.map Hd.pv) e ((runS f hs e).1.map Hd.pv) o ∧ (((runS f hs e).2 = .done ∧ ∃ Γ', o = .next Γ') ∨ ((runS f hs e).2 = .err ∧ o = .err))
  | [], vars, _ => by
    cases e with
    | done => exact ⟨_, .done _, .inl ⟨rfl, _, rfl⟩⟩
    | err => exact ⟨_, .fail _, .inr ⟨rfl, rfl⟩⟩
  | x :: hs, vars, hb => by
    have hx := hb x (.head _) vars
    unfold runS
    cases hf : f x with
    | none =>
      rw [hf] at hx
      exact ⟨.err, LoopG.stop (by intro z d q; cases q) hx, .inr ⟨rfl, rfl⟩⟩
    | some l =>
      rw [hf] at hx
      obtain ⟨vars', hg⟩ := hx
      obtain ⟨o, L, ho⟩ := loop_run (e := e) (hs := hs) (vars := vars') fun z hz => hb z (.tail _ hz)
      refine ⟨o, ?_, ho⟩
      show LoopG prog w n env none y body ⟨vars, none⟩ (x.pv :: hs.map Hd.pv) e ((l ++ (runS f hs e).1).map Hd.pv) o
      rw [List.map_append]
      exact LoopG.next (by intro z d q; cases q) hg L

theorem gs_ift {test : Expr} {body orelse : List Stmt} {pos : Pos} {b : Bool} {outs : List PV} {o : Out} (ht : EvT prog w n env Γ test b) (hb : b = true) (h : Gs prog w n env O Γ (execs body env) outs o) : Gs prog w n env O Γ (exec (.If test body orelse pos) env) outs o :=
  gs_if ht (fun _ => h) fun q => by rw [hb] at q; cases q
theorem gs_iff {test : Expr} {body orelse : List Stmt} {pos : Pos} {b : Bool} {outs : List PV} {o : Out} (ht : EvT prog w n env Γ test b) (hb : b = false) (h : Gs prog w n env O Γ (execs orelse env) outs o) : Gs prog w n env O Γ (exec (.If test body orelse pos) env) outs o :=
  gs_if ht (fun q => by rw [hb] at q; cases q) fun _ => h
theorem exp_ift {test : Expr} {body orelse : List Stmt} {pos : Pos} {b : Bool} {o : Out} (ht : EvT prog w n env Γ test b) (hb : b = true) (h : ExP prog w n env O Γ (execs body env) o) : ExP prog w n env O Γ (exec (.If test body orelse pos) env) o :=
  exp_if ht (fun _ => h) fun q => by rw [hb] at q; cases q
theorem exp_iff {test : Expr} {body orelse : List Stmt} {pos : Pos} {b : Bool} {o : Out} (ht : EvT prog w n env Γ test b) (hb : b = false) (h : ExP prog w n env O Γ (execs orelse env) o) : ExP prog w n env O Γ (exec (.If test body orelse pos) env) o :=
  exp_if ht (fun q => by rw [hb] at q; cases q) fun _ => h
theorem gs_cons1 {st : Stmt} {outs : List PV} {o : Out} (h : Gs prog w n env O Γ (exec st env) outs o) : Gs prog w n env O Γ (execs [st] env) outs o := by
  cases o with
  | next Γ' => have := gs_cons h (gs_nil (prog := prog) (w := w) (n := n)); rwa [List.append_nil] at this
  | cont Γ' => exact gs_stop h (by simp)
  | ret p => exact gs_stop h (by simp)
  | err => exact gs_stop h (by simp)
theorem gs_then {st : Stmt} {rest : List Stmt} {outs : List PV} {o : Out} (h1 : ExP prog w n env O Γ (exec st env) (.next Γ')) (h2 : Gs prog w n env O Γ' (execs rest env) outs o) : Gs prog w n env O Γ (execs (st :: rest) env) outs o := by
  have := gs_cons (gs_leaf h1) h2
  rwa [List.nil_append] at this
theorem gsr_cons1 {ρ ρ' : Res w} {st : Stmt} {outs : List PV} {o : Out} (h : GsR prog w n env O ρ ρ' Γ (exec st env) outs o) : GsR prog w n env O ρ ρ' Γ (execs [st] env) outs o := by
  cases o with
  | next Γ' => have := gsr_first h (gs_nil (prog := prog) (w := w) (n := n)); rwa [List.append_nil] at this
  | cont Γ' => exact gsr_stop h (by simp)
  | ret p => exact gsr_stop h (by simp)
  | err => exact gsr_stop h (by simp)

theorem stage_run {ρ : Res w} {p : PV} {d x1 y : Str} {k : Nat} {p1 p2 pt px pos : Pos} {body : List Stmt} {vars0 : List (Str × PV)} {hs : List Hd} {e : End'} (f : Hd → Option (List Hd)) (hin : Inp prog w n (hs.map Hd.pv) e p ρ) (hx : vars0.lookup x1 = some p) (hl : env.kindOf y = some .local)
    (hi : interactive env = false) (hd : (x1 == ("__debug__" : Str)) = false)
    (hb : ∀ x ∈ hs, ∀ vars, match f x with
      | some l => ∃ vars', Gs prog w n env none ⟨(y, x.pv) :: vars, none⟩ (execs body env) (l.map Hd.pv) (.next ⟨vars', none⟩)
      | none => Gs prog w n env none ⟨(y, x.pv) :: vars, none⟩ (execs body env) [] .err) :
    ∃ o, GsR prog w n env none ρ (Res.nil w) ⟨vars0, none⟩ (execs [.Expr (.Constant (.str d) k p1) p2, .For (.Name y pt) (.Name x1 px) body [] pos] env) ((runS f hs e).1.map Hd.pv) o ∧ (((runS f hs e).2 = .done ∧ ∃ Γ', o = .next Γ') ∨ ((runS f hs e).2 = .err ∧ o = .err)) := by
  obtain ⟨o, L1, ho⟩ := loop_run (e := e) (f := f) (vars := vars0) hb
  exact ⟨o, gsr_then (gs_doc hi) (gsr_cons1 (gsr_for hin hx hl L1 hd)), ho⟩

noncomputable def fLower (h : Hd) : Option (List Hd) := some [(low h.1, h.2.1, h.2.2)]
noncomputable def fStrip (h : Hd) : Option (List Hd) := some [(strip0 h.1, strip0 h.2.1, h.2.2)]
noncomputable def fConn (h : Hd) : Option (List Hd) := if connNames.contains h.1 then some [] else some [h]
noncomputable def fSecure (h : Hd) : Option (List Hd) := if secNames.contains h.1 || (h.1 == bCookie && decide (h.2.1.size < 20)) then some [(h.1, h.2.1, true)] else some [h]
noncomputable def fTe (h : Hd) : Option (List Hd) := if h.1 == bTe && low h.2.1 != bTrailers then none else some [h]
noncomputable def fNoConn (h : Hd) : Option (List Hd) := if connNames.contains h.1 then none else some [h]
noncomputable def fEmpty (h : Hd) : Option (List Hd) := if h.1.size == 0 then none else some [h]

theorem SmH.a {h : Hd} (x : SmH h) : Sm h.1 := Nat.le_trans x.1 (by omega)
theorem SmH.b {h : Hd} (x : SmH h) : Sm h.2.1 := Nat.le_trans x.2 (by omega)

theorem st_lower {hs : List Hd} {e : End'} (hsm : ∀ h ∈ hs, SmH h) : Stage prog w n 275 (hs.map Hd.pv) e ((runS fLower hs e).1.map Hd.pv) (runS fLower hs e).2 := by
  refine stage_of (x1 := "headers") (x2 := "hdr_validation_flags") (by kernel_rfl) (by kernel_rfl) (by kernel_rfl) (by kernel_rfl) (by kernel_rfl) (fun hv fv => by kernel_rfl) fun env p q ρ ok hin => ?_
  conv in bodyOf w 275 => whnf
  refine stage_run fLower hin (by rfl) (ok.k _ _ (by kernel_rfl)) ok.inter (by decide) fun x hx vars => ?_
  have sx := hsm x hx
  refine ⟨_, gs_cons1 (gs_yield ?_ ok.co ok.inter)⟩
  refine ev_eq (ev_bin (ev_tuple (evl_cons (ev_lower (ev_h0 (h := x) (by rfl)) sx.a) (evl_cons (ev_h1 (h := x) (by rfl)) evl_nil))) (ev_h2 (h := x) (by rfl)) (bin_add_tup (by simp; split <;> simp))) rfl

theorem st_strip {hs : List Hd} {e : End'} (hsm : ∀ h ∈ hs, SmH h) : Stage prog w n 282 (hs.map Hd.pv) e ((runS fStrip hs e).1.map Hd.pv) (runS fStrip hs e).2 := by
  refine stage_of (x1 := "headers") (x2 := "hdr_validation_flags") (by kernel_rfl) (by kernel_rfl) (by kernel_rfl) (by kernel_rfl) (by kernel_rfl) (fun hv fv => by kernel_rfl) fun env p q ρ ok hin => ?_
  conv in bodyOf w 282 => whnf
  refine stage_run fStrip hin (by rfl) (ok.k _ _ (by kernel_rfl)) ok.inter (by decide) fun x hx vars => ?_
  have sx := hsm x hx
  refine ⟨_, gs_cons1 (gs_yield ?_ ok.co ok.inter)⟩
  refine ev_eq (ev_bin (ev_tuple (evl_cons (ev_strip0 (ev_h0 (h := x) (by rfl)) sx.a) (evl_cons (ev_strip0 (ev_h1 (h := x) (by rfl)) sx.b) evl_nil))) (ev_h2 (h := x) (by rfl)) (bin_add_tup (by simp; split <;> simp))) rfl
end
end Mine

namespace Mine
open PySem PySem.W PySem.Calls PyProof.Rows

noncomputable def tagOf : Value → Nat
  | .bytes _ t => t
  | _ => 0
noncomputable def bytesOf (b : B) (v : Value) : Value := .bytes b (tagOf v)
theorem repL_bytes {G : GH} {vs : List Value} : ∀ {l : List B}, vs = List.zipWith bytesOf l vs → l.length = vs.length → RepL G (l.map .byt) vs := by
  induction vs with
  | nil => intro l h h2; rw [List.eq_nil_of_length_eq_zero h2]; exact .nil
  | cons v vs ih =>
    intro l h h2
    cases l with
    | nil => cases h2
    | cons b l =>
      have q := List.cons.inj h
      rw [q.1]
      exact .cons (by unfold Rep; exact ⟨_, rfl⟩) (ih q.2 (Nat.succ.inj h2))
/-- the tuple holds these bytes -/
noncomputable def TupB (l : List B) (vs : List Value) : Prop := vs = List.zipWith bytesOf l vs ∧ l.length = vs.length
noncomputable def itemsOf (w : World) (a : Addr) : Array Value := match (objOf w a).data with | .seq vs _ => vs | _ => #[]
noncomputable def epS (w : World) (a : Addr) : Nat := match (objOf w a).data with | .seq _ n => n | _ => 0

section
variable {prog : Program} {w : World} {n : Nat} {env : Env} {O : Option Addr} {Γ Γ' : Lcl}

theorem ev_tupname {x : Str} {pos : Pos} {a : Addr} {l : List B} (hk : env.kindOf x = some .globalImplicit) (e : nsIn (topK w) mainGlobals x = some (some (.ref a)))
    (ho : (topK w).lookup a = some { cls := .type "tuple", data := .seq (itemsOf w a) (epS w a) }) (hb : TupB l (itemsOf w a).toList) (hd : (x == ("__debug__" : Str)) = false) : EvP prog w n env Γ (.Name x pos) (.tup (l.map .byt)) :=
  ev_global hk e (fun G hG => mk_tup (hG _ _ ho) (repL_bytes hb.1 hb.2)) hd
theorem g_conn : nsIn (topK w) mainGlobals "CONNECTION_HEADERS" = some (some (.ref 104)) := by kernel_rfl
theorem o_conn : (topK w).lookup 104 = some { cls := .type "tuple", data := .seq (itemsOf w 104) (epS w 104) } := by kernel_rfl
theorem b_conn : TupB connNames (itemsOf w 104).toList := ⟨by kernel_rfl, by kernel_rfl⟩
theorem ev_conn {pos : Pos} (hk : env.kindOf "CONNECTION_HEADERS" = some .globalImplicit) : EvP prog w n env Γ (.Name "CONNECTION_HEADERS" pos) (.tup (connNames.map .byt)) := ev_tupname hk g_conn o_conn b_conn (by decide +kernel)
theorem g_sec : nsIn (topK w) mainGlobals "_SECURE_HEADERS" = some (some (.ref 106)) := by kernel_rfl
theorem o_sec : (topK w).lookup 106 = some { cls := .type "tuple", data := .seq (itemsOf w 106) (epS w 106) } := by kernel_rfl
theorem b_sec : TupB secNames (itemsOf w 106).toList := ⟨by kernel_rfl, by kernel_rfl⟩
theorem ev_sec {pos : Pos} (hk : env.kindOf "_SECURE_HEADERS" = some .globalImplicit) : EvP prog w n env Γ (.Name "_SECURE_HEADERS" pos) (.tup (secNames.map .byt)) := ev_tupname hk g_sec o_sec b_sec (by decide +kernel)

theorem st_conn {hs : List Hd} {e : End'} : Stage prog w n 289 (hs.map Hd.pv) e ((runS fConn hs e).1.map Hd.pv) (runS fConn hs e).2 := by
  refine stage_of (x1 := "headers") (x2 := "hdr_validation_flags") (by kernel_rfl) (by kernel_rfl) (by kernel_rfl) (by kernel_rfl) (by kernel_rfl) (fun hv fv => by kernel_rfl) fun env p q ρ ok hin => ?_
  conv in bodyOf w 289 => whnf
  refine stage_run fConn hin (by rfl) (ok.k _ _ (by kernel_rfl)) ok.inter (by decide) fun x hx vars => ?_
  have hc := ok.k "CONNECTION_HEADERS" .globalImplicit (by kernel_rfl)
  unfold fConn
  cases hb : connNames.contains x.1 with
  | true =>
    rw [if_pos rfl]
    refine ⟨_, gs_cons1 (gs_if (evt_cmp (ev_h0 (h := x) (by rfl)) (ev_conn hc) cmp_notin_tup) (fun h => ?_) (fun h => gs_nil))⟩
    rw [hb] at h; cases h
  | false =>
    rw [if_neg Bool.false_ne_true]
    refine ⟨_, gs_cons1 (gs_if (evt_cmp (ev_h0 (h := x) (by rfl)) (ev_conn hc) cmp_notin_tup) (fun h => gs_cons1 (gs_yield (ev_name (by rfl)) ok.co ok.inter)) (fun h => ?_))⟩
    rw [hb] at h; cases h

theorem st_secure {hs : List Hd} {e : End'} (hsm : ∀ h ∈ hs, SmH h) : Stage prog w n 116 (hs.map Hd.pv) e ((runS fSecure hs e).1.map Hd.pv) (runS fSecure hs e).2 := by
  refine stage_of (x1 := "headers") (x2 := "hdr_validation_flags") (by kernel_rfl) (by kernel_rfl) (by kernel_rfl) (by kernel_rfl) (by kernel_rfl) (fun hv fv => by kernel_rfl) fun env p q ρ ok hin => ?_
  conv in bodyOf w 116 => whnf
  refine stage_run fSecure hin (by rfl) (ok.k _ _ (by kernel_rfl)) ok.inter (by decide) fun x hx vars => ?_
  have sx := hsm x hx
  have k1 := ok.k "_SECURE_HEADERS" .globalImplicit (by kernel_rfl)
  have k2 := ok.k "isinstance" .globalImplicit (by kernel_rfl)
  have k3 := ok.k "bytes" .globalImplicit (by kernel_rfl)
  have k4 := ok.k "len" .globalImplicit (by kernel_rfl)
  have hx0 : (⟨("header", x.pv) :: vars, none⟩ : Lcl).vars.lookup ("header" : Str) = some x.pv := by rfl
  unfold fSecure
  cases hb : (secNames.contains x.1 || (x.1 == bCookie && decide (x.2.1.size < 20))) with
  | true =>
    rw [if_pos rfl]
    refine ⟨_, gs_then (exp_assert (evt_value (p := .bool true) (ev_isb k2 k3 (ev_h0 (h := x) hx0)) tr_bool)) (gs_cons1 (gs_ift (evt_boolop (eva_or (evt_cmp (ev_h0 (h := x) hx0) (ev_sec k1) cmp_in_tup) fun _ => eva_or (evt_boolop (eva_and (evt_cmp (ev_h0 (h := x) hx0) ev_bytes cmp_eq_byt) fun _ => eva_and (evt_cmp (ev_len k4 (ev_h1 (h := x) hx0) sx.b) ev_int cmp_lt_int) fun _ => eva_and_nil)) fun _ => eva_or_nil)) ?_ (gs_cons1 (gs_yield (ev_eq (ev_tuple (evl_cons (ev_h0 (h := x) hx0) (evl_cons (ev_h1 (h := x) hx0) (evl_cons ev_bool evl_nil)))) rfl) ok.co ok.inter))))⟩
    rw [Bool.and_true, Bool.or_false, ← hb]; congr 2; simp; omega
  | false =>
    rw [if_neg Bool.false_ne_true]
    refine ⟨_, gs_then (exp_assert (evt_value (p := .bool true) (ev_isb k2 k3 (ev_h0 (h := x) hx0)) tr_bool)) (gs_cons1 (gs_iff (evt_boolop (eva_or (evt_cmp (ev_h0 (h := x) hx0) (ev_sec k1) cmp_in_tup) fun _ => eva_or (evt_boolop (eva_and (evt_cmp (ev_h0 (h := x) hx0) ev_bytes cmp_eq_byt) fun _ => eva_and (evt_cmp (ev_len k4 (ev_h1 (h := x) hx0) sx.b) ev_int cmp_lt_int) fun _ => eva_and_nil)) fun _ => eva_or_nil)) ?_ (gs_cons1 (gs_yield (ev_name hx0) ok.co ok.inter))))⟩
    rw [Bool.and_true, Bool.or_false, ← hb]; congr 2; simp; omega

theorem st_te {hs : List Hd} {e : End'} (hsm : ∀ h ∈ hs, SmH h) : Stage prog w n 221 (hs.map Hd.pv) e ((runS fTe hs e).1.map Hd.pv) (runS fTe hs e).2 := by
  refine stage_of (x1 := "headers") (x2 := "hdr_validation_flags") (by kernel_rfl) (by kernel_rfl) (by kernel_rfl) (by kernel_rfl) (by kernel_rfl) (fun hv fv => by kernel_rfl) fun env p q ρ ok hin => ?_
  conv in bodyOf w 221 => whnf
  refine stage_run fTe hin (by rfl) (ok.k _ _ (by kernel_rfl)) ok.inter (by decide) fun x hx vars => ?_
  have sx := hsm x hx
  have k1 := ok.k "msg" .local (by kernel_rfl)
  have k2 := ok.k "ProtocolError" .globalImplicit (by kernel_rfl)
  have hx0 : (⟨("header", x.pv) :: vars, none⟩ : Lcl).vars.lookup ("header" : Str) = some x.pv := by rfl
  unfold fTe
  cases hb : (x.1 == bTe && low x.2.1 != bTrailers) with
  | true =>
    rw [if_pos rfl]
    refine gs_stop (gs_ift (evt_boolop (eva_and (evt_cmp (ev_h0 (h := x) hx0) ev_bytes cmp_eq_byt) fun _ => eva_and (evt_cmp (ev_lower (ev_h1 (h := x) hx0) sx.b) ev_bytes cmp_ne_byt) fun _ => eva_and_nil)) (by rw [Bool.and_true, ← hb]; rfl) (gs_leaf (exp_msg_raise (ev_joined (evj_cons (evs_const (m := 1000) (by decide)) (evj_cons (evs_repr (ev_h1 (h := x) hx0) (Nat.le_trans sx.2 (by omega))) evj_nil)) (by omega)) k1 k2 rfl (by decide)))) (by simp)
  | false =>
    rw [if_neg Bool.false_ne_true]
    refine ⟨_, gs_cons (outs1 := []) (gs_iff (evt_boolop (eva_and (evt_cmp (ev_h0 (h := x) hx0) ev_bytes cmp_eq_byt) fun _ => eva_and (evt_cmp (ev_lower (ev_h1 (h := x) hx0) sx.b) ev_bytes cmp_ne_byt) fun _ => eva_and_nil)) (by rw [Bool.and_true, ← hb]; rfl) gs_nil) (gs_cons1 (gs_yield (ev_name hx0) ok.co ok.inter))⟩

theorem st_noconn {hs : List Hd} {e : End'} (hsm : ∀ h ∈ hs, SmH h) : Stage prog w n 228 (hs.map Hd.pv) e ((runS fNoConn hs e).1.map Hd.pv) (runS fNoConn hs e).2 := by
  refine stage_of (x1 := "headers") (x2 := "hdr_validation_flags") (by kernel_rfl) (by kernel_rfl) (by kernel_rfl) (by kernel_rfl) (by kernel_rfl) (fun hv fv => by kernel_rfl) fun env p q ρ ok hin => ?_
  conv in bodyOf w 228 => whnf
  refine stage_run fNoConn hin (by rfl) (ok.k _ _ (by kernel_rfl)) ok.inter (by decide) fun x hx vars => ?_
  have sx := hsm x hx
  have k0 := ok.k "CONNECTION_HEADERS" .globalImplicit (by kernel_rfl)
  have k1 := ok.k "msg" .local (by kernel_rfl)
  have k2 := ok.k "ProtocolError" .globalImplicit (by kernel_rfl)
  have hx0 : (⟨("header", x.pv) :: vars, none⟩ : Lcl).vars.lookup ("header" : Str) = some x.pv := by rfl
  unfold fNoConn
  cases hb : connNames.contains x.1 with
  | true =>
    rw [if_pos rfl]
    exact gs_stop (gs_ift (evt_cmp (ev_h0 (h := x) hx0) (ev_conn k0) cmp_in_tup) hb (gs_leaf (exp_msg_raise (ev_joined (evj_cons (evs_const (m := 1000) (by decide)) (evj_cons (evs_repr (ev_h0 (h := x) hx0) (Nat.le_trans sx.1 (by omega))) (evj_cons (evs_const (m := 1000) (by decide)) evj_nil))) (by omega)) k1 k2 rfl (by decide)))) (by simp)
  | false =>
    rw [if_neg Bool.false_ne_true]
    exact ⟨_, gs_cons (outs1 := []) (gs_iff (evt_cmp (ev_h0 (h := x) hx0) (ev_conn k0) cmp_in_tup) hb gs_nil) (gs_cons1 (gs_yield (ev_name hx0) ok.co ok.inter))⟩

theorem st_empty {hs : List Hd} {e : End'} (hsm : ∀ h ∈ hs, SmH h) : Stage prog w n 214 (hs.map Hd.pv) e ((runS fEmpty hs e).1.map Hd.pv) (runS fEmpty hs e).2 := by
  refine stage_of (x1 := "headers") (x2 := "hdr_validation_flags") (by kernel_rfl) (by kernel_rfl) (by kernel_rfl) (by kernel_rfl) (by kernel_rfl) (fun hv fv => by kernel_rfl) fun env p q ρ ok hin => ?_
  conv in bodyOf w 214 => whnf
  refine stage_run fEmpty hin (by rfl) (ok.k _ _ (by kernel_rfl)) ok.inter (by decide) fun x hx vars => ?_
  have sx := hsm x hx
  have k4 := ok.k "len" .globalImplicit (by kernel_rfl)
  have k1 := ok.k "msg" .local (by kernel_rfl)
  have k2 := ok.k "ProtocolError" .globalImplicit (by kernel_rfl)
  have hx0 : (⟨("header", x.pv) :: vars, none⟩ : Lcl).vars.lookup ("header" : Str) = some x.pv := by rfl
  unfold fEmpty
  cases hb : (x.1.size == 0) with
  | true =>
    rw [if_pos rfl]
    refine gs_stop (gs_ift (evt_cmp (ev_len k4 (ev_h0 (h := x) hx0) sx.a) ev_int cmp_eq_int) (by simpa using hb) (gs_leaf (exp_msg_raise ev_str k1 k2 rfl (by decide)))) (by simp)
  | false =>
    rw [if_neg Bool.false_ne_true]
    refine ⟨_, gs_cons (outs1 := []) (gs_iff (evt_cmp (ev_len k4 (ev_h0 (h := x) hx0) sx.a) ev_int cmp_eq_int) (by simpa using hb) gs_nil) (gs_cons1 (gs_yield (ev_name hx0) ok.co ok.inter))⟩
end
end Mine

namespace Mine
open PySem PySem.W PySem.Calls PyProof.Rows

noncomputable def ChOk (h : Hd) : Prop :=
  (∀ c ∈ h.1.toList, 33 ≤ c.toNat ∧ c.toNat ≤ 126 ∧ ¬ (65 ≤ c.toNat ∧ c.toNat ≤ 90)) ∧ (∀ i, 1 ≤ i → h.1[i]? ≠ some 58) ∧
  (∀ c ∈ h.2.1.toList, c.toNat ≠ 0 ∧ c.toNat ≠ 10 ∧ c.toNat ≠ 13) ∧ (∀ c, h.2.1[0]? = some c → c.toNat ≠ 32 ∧ c.toNat ≠ 9) ∧ (∀ c, h.2.1[h.2.1.size - 1]? = some c → c.toNat ≠ 32 ∧ c.toNat ≠ 9)
noncomputable def fId (h : Hd) : Option (List Hd) := some [h]
theorem runS_id {e : End'} : ∀ {hs : List Hd}, runS fId hs e = (hs, e)
  | [] => rfl
  | h :: hs => by unfold runS; simp only [fId]; rw [show runS fId hs e = (hs, e) from runS_id]; rfl

section
variable {prog : Program} {w : World} {n : Nat} {env : Env} {O : Option Addr} {Γ Γ' : Lcl}

theorem gs_seqE {P : List (Str × PV) → Prop} {st : Stmt} {rest : List Stmt} {vars : List (Str × PV)} {outs : List PV} (h1 : ∃ vars1, P vars1 ∧ Gs prog w n env O ⟨vars, none⟩ (exec st env) [] (.next ⟨vars1, none⟩))
    (h2 : ∀ vars1, P vars1 → ∃ vars', Gs prog w n env O ⟨vars1, none⟩ (execs rest env) outs (.next ⟨vars', none⟩)) : ∃ vars', Gs prog w n env O ⟨vars, none⟩ (execs (st :: rest) env) outs (.next ⟨vars', none⟩) := by
  obtain ⟨vars1, hP, hg⟩ := h1
  obtain ⟨vars', hg'⟩ := h2 vars1 hP
  exact ⟨vars', gs_cons (outs1 := []) hg hg'⟩
theorem gs_seqQ {P Q : List (Str × PV) → Prop} {st : Stmt} {rest : List Stmt} {vars : List (Str × PV)} {outs : List PV} (h1 : ∃ vars1, P vars1 ∧ Gs prog w n env O ⟨vars, none⟩ (exec st env) [] (.next ⟨vars1, none⟩))
    (h2 : ∀ vars1, P vars1 → ∃ vars', Q vars' ∧ Gs prog w n env O ⟨vars1, none⟩ (execs rest env) outs (.next ⟨vars', none⟩)) : ∃ vars', Q vars' ∧ Gs prog w n env O ⟨vars, none⟩ (execs (st :: rest) env) outs (.next ⟨vars', none⟩) := by
  obtain ⟨vars1, hP, hg⟩ := h1
  obtain ⟨vars', hQ, hg'⟩ := h2 vars1 hP
  exact ⟨vars', hQ, gs_cons (outs1 := []) hg hg'⟩
theorem look_for {P : List (Str × PV) → Prop} {y : Str} {pt pos : Pos} {iter : Expr} {body : List Stmt} {ins : List PV} {vars : List (Str × PV)} (hit : EvIt prog w n env ⟨vars, none⟩ iter ins .done) (hl : env.kindOf y = some .local)
    (hb : ∀ h ∈ ins, ∀ vars, P vars → ∃ vars', P vars' ∧ Gs prog w n env O ⟨(y, h) :: vars, none⟩ (execs body env) [] (.next ⟨vars', none⟩)) (hP : P vars) :
    ∃ vars1, P vars1 ∧ Gs prog w n env O ⟨vars, none⟩ (exec (.For (.Name y pt) iter body [] pos) env) [] (.next ⟨vars1, none⟩) := by
  obtain ⟨vars1, hP1, L⟩ := loop_look (O := O) hb hP
  exact ⟨vars1, hP1, gs_for hit hl L⟩

theorem gs_iftQ {Q : List (Str × PV) → Prop} {test : Expr} {body orelse : List Stmt} {pos : Pos} {b : Bool} {vars : List (Str × PV)} {outs : List PV} (ht : EvT prog w n env ⟨vars, none⟩ test b) (hb : b = true)
    (h : ∃ vars', Q vars' ∧ Gs prog w n env O ⟨vars, none⟩ (execs body env) outs (.next ⟨vars', none⟩)) : ∃ vars', Q vars' ∧ Gs prog w n env O ⟨vars, none⟩ (exec (.If test body orelse pos) env) outs (.next ⟨vars', none⟩) := by
  obtain ⟨vars', hQ, hg⟩ := h
  exact ⟨vars', hQ, gs_ift ht hb hg⟩

theorem st_illegal {hs : List Hd} {e : End'} (hsm : ∀ h ∈ hs, SmH h) (hok : ∀ h ∈ hs, ChOk h) : Stage prog w n 207 (hs.map Hd.pv) e (hs.map Hd.pv) e := by
  have key : Stage prog w n 207 (hs.map Hd.pv) e ((runS fId hs e).1.map Hd.pv) (runS fId hs e).2 := by
    refine stage_of (x1 := "headers") (x2 := "hdr_validation_flags") (by kernel_rfl) (by kernel_rfl) (by kernel_rfl) (by kernel_rfl) (by kernel_rfl) (fun hv fv => by kernel_rfl) fun env p q ρ ok hin => ?_
    conv in bodyOf w 207 => whnf
    refine stage_run fId hin (by rfl) (ok.k _ _ (by kernel_rfl)) ok.inter (by decide) fun x hx vars => ?_
    have sx := hsm x hx
    obtain ⟨c1, c2, c3, c4, c5⟩ := hok x hx
    have kc := ok.k "c" .local (by kernel_rfl)
    have kf := ok.k "field_value" .local (by kernel_rfl)
    -- the name's signs
    refine gs_seqE (P := fun vars => vars.lookup ("header" : Str) = some x.pv) (look_for (evIt_bytes (ev_h0 (h := x) (by rfl)) fun v => rfl) kc (fun h hh vars hP => ?_) (by rfl)) fun vars1 hP1 => ?_
    · obtain ⟨c, hc, rfl⟩ := List.mem_map.mp hh
      have hc1 := c1 c hc
      have hvc : (⟨("c", PV.int c.toNat) :: vars, none⟩ : Lcl).vars.lookup ("c" : Str) = some (.int c.toNat) := by rfl
      refine ⟨("c", .int c.toNat) :: vars, hP, gs_cons (outs1 := []) (gs_iff (evt_chain2 ev_int (ev_name hvc) ev_int cmp_le_int cmp_le_int) ?_ gs_nil)
          (gs_cons1 (gs_iff (evt_boolop (eva_or (evt_cmp (ev_name hvc) ev_int cmp_le_int) fun _ => eva_or (evt_cmp (ev_name hvc) ev_int cmp_ge_int) fun _ => eva_or_nil)) ?_ gs_nil))⟩
      · simp; omega
      · simp; omega
    -- no colon
    refine gs_seqE (P := fun vars => vars.lookup ("header" : Str) = some x.pv) ⟨_, hP1, gs_iff (evt_cmp (ev_method (ev_h0 (h := x) hP1) (args_cons (evl_cons ev_bytes (evl_cons ev_int evl_nil))) hd_byt FB.plainAttrs_bytes slot_find type_find (call_find_none c2) rfl rfl rfl rfl) (ev_neg ev_int) cmp_ne_int) (by rfl) gs_nil⟩ fun vars2 hP2 => ?_
    refine gs_seqE (P := fun vars => vars.lookup ("header" : Str) = some x.pv ∧ vars.lookup ("field_value" : Str) = some (.byt x.2.1)) ⟨("field_value", .byt x.2.1) :: vars2, ⟨hP2, by rfl⟩, gs_leaf (exp_assign (ev_h1 (h := x) hP2) kf (by intro z d q; cases q))⟩ fun vars3 hP3 => ?_
    refine gs_seqE (P := fun vars => vars.lookup ("header" : Str) = some x.pv) ?_ fun vars4 hP4 => ⟨_, gs_cons1 (gs_yield (ev_name hP4) ok.co ok.inter)⟩
    cases hz : (x.2.1.size != 0) with
    | false => exact ⟨_, hP3.1, gs_iff (evt_value (p := .byt x.2.1) (ev_name hP3.2) (tr_bytes sx.b)) hz gs_nil⟩
    | true =>
      refine gs_iftQ (evt_value (p := .byt x.2.1) (ev_name hP3.2) (tr_bytes sx.b)) hz ?_
      refine gs_seqQ (P := fun vars => vars.lookup ("header" : Str) = some x.pv ∧ vars.lookup ("field_value" : Str) = some (.byt x.2.1)) (look_for (evIt_bytes (ev_name hP3.2) fun v => rfl) kc (fun h hh vars hP => ?_) hP3) fun vars5 hP5 => ?_
      · obtain ⟨c, hc, rfl⟩ := List.mem_map.mp hh
        have hc1 := c3 c hc
        have hvc : (⟨("c", PV.int c.toNat) :: vars, none⟩ : Lcl).vars.lookup ("c" : Str) = some (.int c.toNat) := by rfl
        refine ⟨("c", .int c.toNat) :: vars, hP, gs_cons1 (gs_iff (evt_boolop (eva_or (evt_cmp (ev_name hvc) ev_int cmp_eq_int) fun _ => eva_or (evt_cmp (ev_name hvc) ev_int cmp_eq_int) fun _ => eva_or (evt_cmp (ev_name hvc) ev_int cmp_eq_int) fun _ => eva_or_nil)) ?_ gs_nil)⟩
        simp; omega
      · have hsz : 0 < x.2.1.size := Nat.pos_of_ne_zero (bne_iff_ne.mp hz)
        have e0 : x.2.1[0]? = some x.2.1[0] := by simp [hsz]
        have e1 : x.2.1[x.2.1.size - 1]? = some (x.2.1[x.2.1.size - 1]'(by omega)) := Array.getElem?_eq_getElem _
        have d4 := c4 _ e0
        have d5 := c5 _ e1
        refine ⟨_, hP5.1, gs_cons1 (gs_iff (evt_boolop (eva_or (evt_cmp (ev_sub (T := "bytes") (ev_name hP5.2) ev_int ty_byt FB.slot_bytes_getitem.lookup (idx_byt (k := 0) e0 sx.b)) ev_int cmp_eq_int) fun _ =>
          eva_or (evt_cmp (ev_sub (T := "bytes") (ev_name hP5.2) ev_int ty_byt FB.slot_bytes_getitem.lookup (idx_byt (k := 0) e0 sx.b)) ev_int cmp_eq_int) fun _ =>
          eva_or (evt_cmp (ev_sub (T := "bytes") (ev_name hP5.2) (ev_neg ev_int) ty_byt FB.slot_bytes_getitem.lookup (idx_byt_last e1 sx.b)) ev_int cmp_eq_int) fun _ =>
          eva_or (evt_cmp (ev_sub (T := "bytes") (ev_name hP5.2) (ev_neg ev_int) ty_byt FB.slot_bytes_getitem.lookup (idx_byt_last e1 sx.b)) ev_int cmp_eq_int) fun _ => eva_or_nil)) ?_ gs_nil)⟩
        simp; omega
  rw [runS_id] at key
  exact key
end
end Mine

namespace Mine
open PySem PySem.W PySem.Calls PyProof.Rows PySem.Builtin

noncomputable def bSep : B := [59, 32].toArray

theorem between_inv (b : B) (k : Nat) : ∀ (places : List Nat) (st : Array B × Nat), (∀ x ∈ st.1.toList, x.size ≤ b.size) →
    (∀ x ∈ (places.foldl (fun (x : Array B × Nat) p => (x.1.push (b.extract x.2 p), p + k)) st).1.toList, x.size ≤ b.size) ∧
    (places.foldl (fun (x : Array B × Nat) p => (x.1.push (b.extract x.2 p), p + k)) st).1.size = st.1.size + places.length
  | [], st, h => ⟨h, by simp⟩
  | p :: places, st, h => by
    rw [List.foldl_cons]
    obtain ⟨h1, h2⟩ := between_inv b k places (st.1.push (b.extract st.2 p), p + k) (fun x hx => by
      simp only [Array.toList_push, List.mem_append, List.mem_singleton] at hx
      rcases hx with hx | rfl
      · exact h x hx
      · simp; omega)
    refine ⟨h1, ?_⟩
    rw [h2]; simp; omega
theorem between_size (b : B) (k : Nat) (places : List Nat) : (∀ x ∈ Bytes.between b k places, x.size ≤ b.size) ∧ (Bytes.between b k places).length = places.length + 1 := by
  obtain ⟨h1, h2⟩ := between_inv b k places (#[], 0) (by simp)
  unfold Bytes.between
  refine ⟨fun x hx => ?_, ?_⟩
  · have hx' : x ∈ ((places.foldl (fun (x : Array B × Nat) p => (x.1.push (b.extract x.2 p), p + k)) (#[], 0)).1.push (b.extract (places.foldl (fun (x : Array B × Nat) p => (x.1.push (b.extract x.2 p), p + k)) (#[], 0)).2 b.size)).toList := hx
    simp only [Array.toList_push, List.mem_append, List.mem_singleton] at hx'
    rcases hx' with hx | rfl
    · exact h1 x hx
    · simp
  · show ((places.foldl (fun (x : Array B × Nat) p => (x.1.push (b.extract x.2 p), p + k)) (#[], 0)).1.push (b.extract (places.foldl (fun (x : Array B × Nat) p => (x.1.push (b.extract x.2 p), p + k)) (#[], 0)).2 b.size)).toList.length = _
    rw [Array.length_toList, Array.size_push, h2]; simp
theorem splitB_size (b sep : B) : (∀ x ∈ splitB b sep, x.size ≤ b.size) ∧ (splitB b sep).length ≤ b.size + 2 := by
  unfold splitB
  split
  · simp
  · obtain ⟨h1, h2⟩ := between_size b sep.size ((Bytes.occurrences b sep 0 b.size).take (b.size + 1))
    refine ⟨h1, ?_⟩
    rw [h2]
    have := List.length_take_le (b.size + 1) (Bytes.occurrences b sep 0 b.size)
    omega

noncomputable def fSplit (h : Hd) : Option (List Hd) := some (if h.1 == bCookie then (splitB h.2.1 bSep).map (fun v => (h.1, v, h.2.2)) else [h])

section
variable {prog : Program} {w : World} {n : Nat} {env : Env} {O : Option Addr} {Γ Γ' : Lcl}

theorem ev_split {o : Expr} {a1 : Expr} {apos pos : Pos} {b : B} (ho : EvP prog w n env Γ o (.byt b)) (ha : EvP prog w n env Γ a1 (.byt bSep)) (hb : Sm b)
    (hs : starEach [a1] env = (false, eval a1 env) :: starEach [] env := by rfl)
    (hbase : attributeBase o "split" env (eval o env) = eval o env := by rfl) (hline : (apos.endLine == pos.line) = true := by rfl)
    (hfew : ((backTo pos (starEach [a1] env)).all (fun x => !x.1) && (backToKw pos (keywordEach [] env)).all (fun x => x.1.isSome)
      && decide ([a1].length + ([] : List Keyword).length + (if ([] : List Keyword).isEmpty then 0 else 1) < 30)) = true := by rfl) (hplain : (backTo pos (starEach [a1] env)).any (·.1) = false := by rfl) :
    EvP prog w n env Γ (.Call (.Attribute o "split" apos) [a1] [] pos) (.lst ((splitB b bSep).map .byt)) :=
  have hz := splitB_size b bSep
  ev_method ho (args_cons (evl_cons ha evl_nil hs) hs) hd_byt FB.plainAttrs_bytes slot_split type_split (call_split hb (by decide) (fun x hx => by have := hz.1 x hx; have h2 := hb; omega) (by have := hz.2; have h2 := hb; omega)) hbase hfew hline hplain

theorem loop_outs {y : Str} {body : List Stmt} {P : List (Str × PV) → Prop} {g : B → PV} : ∀ {l : List B} {vars : List (Str × PV)},
    (∀ b ∈ l, ∀ vars, P vars → ∃ vars', P vars' ∧ Gs prog w n env O ⟨(y, .byt b) :: vars, none⟩ (execs body env) [g b] (.next ⟨vars', none⟩)) → P vars →
    ∃ vars', P vars' ∧ LoopG prog w n env O y body ⟨vars, none⟩ (l.map .byt) .done (l.map g) (.next ⟨vars', none⟩)
  | [], vars, _, hP => ⟨vars, hP, .done _⟩
  | h :: l, vars, hb, hP => by
    obtain ⟨vars', hP', hg⟩ := hb h (.head _) vars hP
    obtain ⟨vars'', hP'', L⟩ := loop_outs (l := l) (fun h hh => hb h (.tail _ hh)) hP'
    exact ⟨vars'', hP'', LoopG.next (outs1 := [g h]) (by intro z d q; cases q) hg L⟩
theorem outs_for {P : List (Str × PV) → Prop} {y : Str} {pt pos : Pos} {iter : Expr} {body : List Stmt} {l : List B} {g : B → PV} {vars : List (Str × PV)} (hit : EvIt prog w n env ⟨vars, none⟩ iter (l.map .byt) .done) (hl : env.kindOf y = some .local)
    (hb : ∀ b ∈ l, ∀ vars, P vars → ∃ vars', P vars' ∧ Gs prog w n env O ⟨(y, .byt b) :: vars, none⟩ (execs body env) [g b] (.next ⟨vars', none⟩)) (hP : P vars) :
    ∃ vars1, P vars1 ∧ Gs prog w n env O ⟨vars, none⟩ (exec (.For (.Name y pt) iter body [] pos) env) (l.map g) (.next ⟨vars1, none⟩) := by
  obtain ⟨vars1, hP1, L⟩ := loop_outs (O := O) hb hP
  exact ⟨vars1, hP1, gs_for hit hl L⟩
theorem gs_oneQ {Q : List (Str × PV) → Prop} {st : Stmt} {vars : List (Str × PV)} {outs : List PV} (h : ∃ vars', Q vars' ∧ Gs prog w n env O ⟨vars, none⟩ (exec st env) outs (.next ⟨vars', none⟩)) :
    ∃ vars', Q vars' ∧ Gs prog w n env O ⟨vars, none⟩ (execs [st] env) outs (.next ⟨vars', none⟩) := by
  obtain ⟨vars', hQ, hg⟩ := h
  exact ⟨vars', hQ, gs_cons1 hg⟩
theorem gs_end {Q : List (Str × PV) → Prop} {t : Sem Flow} {vars : List (Str × PV)} {outs : List PV} (h : ∃ vars', Q vars' ∧ Gs prog w n env O ⟨vars, none⟩ t outs (.next ⟨vars', none⟩)) : ∃ vars', Gs prog w n env O ⟨vars, none⟩ t outs (.next ⟨vars', none⟩) := by
  obtain ⟨vars', hQ, hg⟩ := h
  exact ⟨vars', hg⟩

theorem st_split {hs : List Hd} {e : End'} (hsm : ∀ h ∈ hs, SmH h) : Stage prog w n 310 (hs.map Hd.pv) e ((runS fSplit hs e).1.map Hd.pv) (runS fSplit hs e).2 := by
  refine stage_of (x1 := "headers") (x2 := "hdr_validation_flags") (by kernel_rfl) (by kernel_rfl) (by kernel_rfl) (by kernel_rfl) (by kernel_rfl) (fun hv fv => by kernel_rfl) fun env p q ρ ok hin => ?_
  conv in bodyOf w 310 => whnf
  refine stage_run fSplit hin (by rfl) (ok.k _ _ (by kernel_rfl)) ok.inter (by decide) fun x hx vars => ?_
  have sx := hsm x hx
  have k2 := ok.k "isinstance" .globalImplicit (by kernel_rfl)
  have k3 := ok.k "bytes" .globalImplicit (by kernel_rfl)
  have kv := ok.k "cookie_val" .local (by kernel_rfl)
  have hx0 : (⟨("header", x.pv) :: vars, none⟩ : Lcl).vars.lookup ("header" : Str) = some x.pv := by rfl
  unfold fSplit
  refine gs_seqE (P := fun vars => vars.lookup ("header" : Str) = some x.pv) ⟨_, hx0, gs_leaf (exp_assert (evt_value (p := .bool true) (ev_isb k2 k3 (ev_h0 (h := x) hx0)) tr_bool))⟩ fun vars1 hP1 => ?_
  refine gs_seqE (P := fun vars => vars.lookup ("header" : Str) = some x.pv) ⟨_, hP1, gs_leaf (exp_assert (evt_value (p := .bool true) (ev_isb k2 k3 (ev_h1 (h := x) hP1)) tr_bool))⟩ fun vars2 hP2 => ?_
  cases hb : (x.1 == bCookie) with
  | false =>
    rw [if_neg Bool.false_ne_true]
    exact ⟨_, gs_cons1 (gs_iff (evt_cmp (ev_h0 (h := x) hP2) ev_bytes cmp_eq_byt) hb (gs_cons1 (gs_yield (ev_name hP2) ok.co ok.inter)))⟩
  | true =>
    rw [if_pos rfl]
    rw [List.map_map]
    refine gs_end (gs_oneQ (gs_iftQ (evt_cmp (ev_h0 (h := x) hP2) ev_bytes cmp_eq_byt) hb (gs_oneQ (outs_for (g := fun b => Hd.pv (x.1, b, x.2.2)) (P := fun vars => vars.lookup ("header" : Str) = some x.pv) (evIt_list (ev_split (ev_h1 (h := x) hP2) ev_bytes sx.b) fun v => rfl) kv (fun b hb vars hP => ?_) hP2))))
    refine ⟨("cookie_val", .byt b) :: vars, hP, gs_cons1 (gs_yield (ev_eq (ev_bin (ev_tuple (evl_cons (ev_h0 (h := x) hP) (evl_cons (ev_name (by rfl)) evl_nil))) (ev_h2 (h := x) hP) (bin_add_tup (by simp; split <;> simp))) rfl) ok.co ok.inter)⟩
end
end Mine

namespace Mine
open PySem PySem.W PySem.Calls PyProof.Rows

noncomputable def OwnD.pv : OwnD → PV
  | .list l => .lst l
  | .obj F t => .obj F t

noncomputable def GH.del (G : GH) (a : Addr) : GH := fun b => if b = a then none else G b
theorem GH.del_sub {G : GH} {a : Addr} : ∀ b ob, G.del a b = some ob → G b = some ob := fun b ob e => by
  unfold GH.del at e; split at e
  · cases e
  · exact e
theorem GH.del_ne {G : GH} {a b : Addr} (h : b ≠ a) : G.del a b = G b := by unfold GH.del; rw [if_neg h]

/-- values that hold no address -/
noncomputable def PV.flat : PV → Bool
  | .none => true
  | .bool _ => true
  | .int _ => true
  | .byt _ => true
  | .str _ => true
  | .any => true
  | _ => false
theorem rep_flat {G G' : GH} {p : PV} {v : Value} (h : p.flat = true) (r : Rep G p v) : Rep G' p v := by
  cases p <;> first | (unfold Rep at r ⊢; exact r) | cases h

section
variable {prog : Program} {w : World} {n : Nat} {env : Env} {O : Option Addr} {Γ Γ' : Lcl} {G : GH} {s : Shared} {A : Around} {a : Addr} {x : Str} {d : OwnD}

theorem own_of (gd : Good w A env (some a) ⟨Γ.vars, some (x, d)⟩ G s) : ∃ o, s.heap.get? a = some o ∧ OwnIs G o d ∧ G a = none ∧ a ≠ env.locals ∧ ¬ isTab a ∧ ¬ IsD o ∧ (∀ vs, o.data ≠ .fields vs) ∧ env.kindOf x = some .local := by
  obtain ⟨m, hm, hv, ho⟩ := gd.vars
  obtain ⟨a', o, h1, h2, h3, h4, h5⟩ := ho
  cases h1
  obtain ⟨q1, q2, q3, o', q4, q5, q6⟩ := gd.oown a rfl
  rw [h4] at q4; cases q4
  exact ⟨o, h4, h5, q1, q2, q3, q5, q6, h2⟩

theorem frames_add {l : List Env} {o : Obj} (fr : Frames G s l) (ho : s.heap.get? a = some o) (hd : ¬ IsD o) : Frames (G.add a o) s l := fun env he => by
  obtain ⟨h1, L, oL, h2, h3, h4, h5⟩ := fr env he
  refine ⟨h1, L, oL, h2, ?_, h4, h5⟩
  unfold GH.add
  split
  · rename_i q; rw [q, ho] at h4; cases h4; exact absurd h5 hd
  · exact h3
/-- one's own object, only looked at -/
theorem peek_good (gd : Good w A env (some a) ⟨Γ.vars, some (x, d)⟩ G s) : ∃ o, s.heap.get? a = some o ∧ ¬ IsD o ∧ (∀ vs, o.data ≠ .fields vs) ∧ G a = none ∧ ¬ isTab a ∧ (∃ g₀, HIn g₀ G ∧ Base w g₀) ∧ Good w A env none ⟨(x, d.pv) :: Γ.vars, none⟩ (G.add a o) s := by
  obtain ⟨o, h1, h2, h3, h4, h5, h6, h7, h8⟩ := own_of gd
  obtain ⟨m, hm, hv, ho⟩ := gd.vars
  obtain ⟨a', o', k1, k2, k3, k4, k5⟩ := ho
  cases k1
  obtain ⟨l, hl, fr⟩ := gd.frames
  have sub := GH.add_sub (o := o) h3
  obtain ⟨g₀, hb, hi⟩ := gd.wld.base
  refine ⟨o, h1, h6, h7, h3, h5, ⟨g₀, hi, hb⟩, gd.wld.add h1 h3 h5, ⟨l, hl, frames_add fr h1 h6⟩, gd.kind, gd.globals, gd.builtins, ?_, gd.ntab, (fun _ h => by cases h), m, hm, fun z p e => ?_, trivial⟩
  · unfold GH.add; rw [if_neg (Ne.symm h4)]; exact gd.fresh
  · simp only [List.lookup_cons] at e
    by_cases hz : z = x
    · subst hz
      simp only [beq_self_eq_true, Option.some.injEq] at e
      subst e
      refine ⟨.ref a, .inl ⟨h8, k3⟩, ?_⟩
      cases d with
      | list l =>
        obtain ⟨vs, ep, rfl, rl⟩ := h2
        exact mk_lst GH.add_self (rl.mono sub)
      | obj F t => unfold OwnD.pv Rep; exact ⟨a, o, rfl, GH.add_self, h2⟩
    · have hzb : (z == x) = false := by simpa using hz
      rw [hzb] at e
      obtain ⟨v, r, rp⟩ := hv z p e
      exact ⟨v, r.mono sub, rp.mono sub⟩

theorem codeRecG_del {cd : Value} {q : Str} {o : Obj} (hn : ∀ vs, o.data ≠ .fields vs) (ha : G a = some o) (h : CodeRecG G cd q) : CodeRecG (G.del a) cd q := by
  obtain ⟨c, oc, vs, t, h1, h2, h3, h4⟩ := h
  refine ⟨c, oc, vs, t, h1, ?_, h3, h4⟩
  rw [GH.del_ne]
  · exact h2
  · intro q; subst q; rw [ha] at h2; cases h2; exact hn _ h3

/-- and what it grew to, without it -/
theorem unpeek {F K G₁ s₁ o} (ha : G a = none) (ho : ∀ vs, o.data ≠ .fields vs) (hb : ∃ g₀, HIn g₀ G ∧ Base w g₀) (g : Grow w F K (G.add a o) s G₁ s₁) : Grow w F K G s (G₁.del a) s₁ where
  ext := g.ext
  wld := {
    sub := fun b ob e => g.wld.sub _ _ (GH.del_sub _ _ e)
    base := let ⟨g₀, hi, hb⟩ := hb; ⟨g₀, hb, fun b ob e => by
      have e1 := hi b ob e
      have hne : b ≠ a := fun q => by rw [q, ha] at e1; cases e1
      rw [GH.del_ne hne]
      exact g.sub _ _ (GH.add_sub ha _ _ e1)⟩
    tab := fun q hq => by
      obtain ⟨h1, ps, h2, h3, h4⟩ := g.wld.tab q hq
      refine ⟨?_, ps, h2, h3, fun e pos p1 p2 c' hc => codeRecG_del ho (g.sub _ _ GH.add_self) (h4 e pos p1 p2 c' hc)⟩
      unfold GH.del; split
      · rfl
      · exact h1
    bare := g.wld.bare }
  sub := fun b ob e => by
    have hne : b ≠ a := fun q => by rw [q, ha] at e; cases e
    rw [GH.del_ne hne]
    exact g.sub _ _ (GH.add_sub ha _ _ e)
  new := fun b ob e => by
    have hne : b ≠ a := fun q => by unfold GH.del at e; rw [if_pos q] at e; cases e
    rcases g.new b ob (GH.del_sub _ _ e) with h | h
    · unfold GH.add at h; rw [if_neg hne] at h; exact .inl h
    · exact .inr h

theorem err_sub {G' : GH} {h₀ : Heap} {v : Value} {fl : Option Value} (h : ∀ b ob, G' b = some ob → G b = some ob) (e : Err G h₀ s v fl) : Err G' h₀ s v fl := by
  have nn : ∀ b, G b = none → G' b = none := fun b q => by
    cases r : G' b with
    | none => rfl
    | some o => rw [h _ _ r] at q; cases q
  obtain ⟨e, oe, vs, a0, h1, h2, h3, h4, h5, h6, h7, h8, h9⟩ := e
  refine ⟨e, oe, vs, a0, h1, h2, nn _ h3, h4, h5, h6, h7, h8, ?_⟩
  cases fl with
  | none => exact h9
  | some f =>
    obtain ⟨T, oT, ts, k1, k2, k3, k4, k5⟩ := h9
    exact ⟨T, oT, ts, k1, k2, k3, nn _ k4, k5⟩

theorem ev_peekG {α : Type} {t : Sem α} {Q Q' : GH → α → Prop} {vars : List (Str × PV)} (h : Ev prog w n env ⟨(x, d.pv) :: vars, none⟩ t Q) (k : ∀ G G' v, Q G v → Q' G' v) (hO : ∀ A O G s, Good w A env O ⟨vars, some (x, d)⟩ G s → ∃ a, O = some a) : Ev prog w n env ⟨vars, some (x, d)⟩ t Q' := by
  intro A O G s rm gd
  obtain ⟨a, rfl⟩ := hO A O G s gd
  obtain ⟨o, h1, h2, h3, h4, h5, h6, gd'⟩ := peek_good (Γ := ⟨vars, none⟩) gd
  refine wpAny_mono (h A none _ s rm gd') (fun v s' ⟨G', g, q⟩ => ⟨G'.del a, unpeek h4 h3 h6 g, k _ _ _ q⟩) fun _ _ q => q
theorem good_own_some {vars : List (Str × PV)} : ∀ A O G s, Good w A env O ⟨vars, some (x, d)⟩ G s → ∃ a, O = some a := fun A O G s gd => by
  obtain ⟨m, hm, hv, a, o, h1, _⟩ := gd.vars
  exact ⟨a, h1⟩
theorem ev_peek {e : Expr} {p : PV} {vars : List (Str × PV)} (h : EvP prog w n env ⟨(x, d.pv) :: vars, none⟩ e p) (hp : p.flat = true) : EvP prog w n env ⟨vars, some (x, d)⟩ e p :=
  ev_peekG h (fun _ _ _ r => rep_flat hp r) good_own_some
theorem evt_peek {e : Expr} {b : Bool} {vars : List (Str × PV)} (h : EvT prog w n env ⟨(x, d.pv) :: vars, none⟩ e b) : EvT prog w n env ⟨vars, some (x, d)⟩ e b :=
  ev_peekG h (fun _ _ _ r => r) good_own_some

/-- one's own object is changed -/
theorem own_step {d' : OwnD} {h' : Heap} {tk : Nat} {o' : Obj} (gd : Good w A env (some a) ⟨Γ.vars, some (x, d)⟩ G s) (hs : Heap.SameBut a s.heap h') (ho : h'.get? a = some o') (hd : ¬ IsD o') (hn : ∀ vs, o'.data ≠ .fields vs) (hi : OwnIs G o' d') :
    Grow w (Wr env (some a)) No G s G { s with heap := h', toks := tk } ∧ Good w A env (some a) ⟨Γ.vars, some (x, d')⟩ G { s with heap := h', toks := tk } := by
  obtain ⟨o, h1, h2, h3, h4, h5, h6, h7, h8⟩ := own_of gd
  have ne : ∀ b, b ≠ a → h'.get? b = s.heap.get? b := fun b hb => hs.2 b hb
  have g : Grow w (Wr env (some a)) No G s G { s with heap := h', toks := tk } := by
    refine ⟨⟨fun b ob q => ?_, fun b ob q nf nt => ?_, fun b ob q db => ?_, Nat.le_refl _, fun _ _ q _ => q, rfl⟩, ⟨fun b ob q => ?_, gd.wld.base, fun q hq => ?_, gd.wld.bare⟩, fun _ _ q => q, fun _ _ q => .inl q⟩
    · by_cases hb : b = a
      · exact ⟨o', by rw [hb]; exact ho⟩
      · exact ⟨ob, (ne b hb).trans q⟩
    · exact ⟨ob, (ne b fun r => nf (.inr (by rw [r]))).trans q, .refl ob⟩
    · exact ⟨ob, (ne b fun r => by rw [r, h1] at q; cases q; exact h6 db).trans q, db⟩
    · exact (ne b fun r => by rw [r, h3] at q; cases q).trans (gd.wld.sub b ob q)
    · obtain ⟨k1, ps, k2, k3⟩ := gd.wld.tab q hq
      refine ⟨k1, ps, (ne _ fun r => h5 ?_).trans k2, k3⟩
      rw [← r]
      simp only [tabs, List.mem_cons, List.not_mem_nil, or_false] at hq
      rcases hq with rfl | rfl | rfl <;> simp [isTab]
  obtain ⟨l, hfr, fr⟩ := gd.frames
  obtain ⟨m, hm, hv, a', o2, k1, k2, k3, k4, k5⟩ := gd.vars
  cases k1
  refine ⟨g, g.wld, ⟨l, hfr, fr.grow g⟩, gd.kind, gd.globals, gd.builtins, gd.fresh, gd.ntab, fun b hb => ?_, m, ?_, hv, a, o', rfl, k2, k3, ho, hi⟩
  · cases hb
    exact ⟨h3, h4, h5, o', ho, hd, hn⟩
  · obtain ⟨oL, es, ep, hoL, r⟩ := hm
    exact ⟨oL, es, ep, (ne _ (Ne.symm h4)).trans hoL, r⟩

theorem nd_seq {o : Obj} {vs ep} (h : o.data = .seq vs ep) : ¬ IsD o ∧ ∀ us, o.data ≠ .fields us := ⟨(fun ⟨es, ep', e⟩ => by rw [h] at e; cases e), (fun us e => by rw [h] at e; cases e)⟩

/-- x.append(e), x one's own list -/
theorem exp_append {l : List PV} {p : PV} {e : Expr} {xp apos cpos pos : Pos} {vars : List (Str × PV)} (he : EvP prog w n env ⟨vars, some (x, .list l)⟩ e p) (hlen : l.length ≤ 1000000) (hd : (x == ("__debug__" : Str)) = false) (hi : interactive env = false)
    (hs : starEach [e] env = (false, eval e env) :: starEach [] env := by rfl)
    (hbase : attributeBase (.Name x xp) "append" env (eval (.Name x xp) env) = eval (.Name x xp) env := by rfl)
    (hfew : ((backTo cpos (starEach [e] env)).all (fun x => !x.1) && (backToKw cpos (keywordEach [] env)).all (fun x => x.1.isSome)
      && decide ([e].length + ([] : List Keyword).length + (if ([] : List Keyword).isEmpty then 0 else 1) < 30)) = true := by rfl)
    (hline : (apos.endLine == cpos.line) = true := by rfl) (hplain : (backTo cpos (starEach [e] env)).any (·.1) = false := by rfl)
    (hsw : swapsWith (.Call (.Attribute (.Name x xp) "append" apos) [e] [] cpos) none pos.line env = pure false := by rfl) :
    ExP prog w n env (some a) ⟨vars, some (x, .list l)⟩ (exec (.Expr (.Call (.Attribute (.Name x xp) "append" apos) [e] [] cpos) pos) env) (.next ⟨vars, some (x, .list (l ++ [p]))⟩) := by
  intro A fl G s rm hf hself gd
  refine wpAny_Expr ?_ hi hsw
  refine wpAny_Call_method hbase hfew hline F.plainAttrs_list slot_list_append F.type_list_append ?_
  refine wpAny_Name ?_ hd
  obtain ⟨m, hm, hv, a', o2, k1, k2, k3, k4, k5⟩ := gd.vars
  cases k1
  refine wpAny_loadName_local gd.kind k2 hm k3 ?_
  obtain ⟨vs, ep, rfl, rl⟩ := k5
  refine ⟨⟨_, k4, rfl⟩, fun b hb => by cases hb; exact ⟨_, k4, rfl⟩, ?_⟩
  refine callWith_builtin hplain ((args_cons (evl_cons he evl_nil hs) hs _).use rm gd fun as G2 s2 g2 gd2 q2 => ?_)
  rw [q2.1]
  obtain ⟨v, e1, rv⟩ := repl1 q2.2
  rw [e1]
  obtain ⟨m', hm', hv', a'', o3, j1, j2, j3, j4, j5⟩ := gd2.vars
  cases j1
  obtain ⟨vs2, ep2, rfl, rl2⟩ := j5
  have hsz : vs2.size = l.length := by simpa using rl2.length
  refine wpAny_list_append_plain ⟨_, j4⟩ (fun h' hp hsb => ?_) (by simp [sizeLine]; omega)
  obtain ⟨ep3, ho3⟩ := hp
  obtain ⟨g3, gd3⟩ := own_step (Γ := ⟨vars, none⟩) (d' := .list (l ++ [p])) (tk := s2.toks) gd2 hsb ho3 (nd_seq rfl).1 (nd_seq rfl).2 ⟨_, ep3, rfl, by simpa using rl2.append (.cons rv .nil)⟩
  exact ⟨G2, g2.pur.trans' g3, rfl, gd3⟩
end
end Mine

namespace Mine
open PySem PySem.W PySem.Calls PyProof.Rows

noncomputable def Lcl.drop (Γ : Lcl) : Lcl := ⟨Γ.vars, none⟩
noncomputable def Out.drop : Out → Out
  | .next Γ => .next Γ.drop
  | .cont Γ => .cont Γ.drop
  | .ret p => .ret p
  | .err => .err

section
variable {prog : Program} {w : World} {n : Nat} {env : Env} {O : Option Addr} {Γ Γ' Γ₁ : Lcl} {G : GH} {s : Shared} {A : Around} {a : Addr} {x : Str} {d : OwnD} {c : Code} {fs : List Frame} {ρ ρ' : Res w} {X : Pt} {outs : List PV} {o : Out}

theorem At.forget (q : At w n env O Γ c fs ρ X) : At w n env none Γ.drop c fs ρ X :=
  { q with good := q.good.forget, fO := (fun _ h => by cases h), rO := (fun _ h => by cases h) }

/-- a statement that makes one's own object -/
noncomputable def NewOwn (prog : Program) (w : World) (n : Nat) (env : Env) (Γ : Lcl) (t : Sem Flow) (Γ₁ : Lcl) : Prop :=
  ∀ A l G s, Rm n A → A.frames = some (env :: l) → env.frame = some env.locals → Good w A env none Γ G s → wpAny (model prog w) A t
    (fun fl s' => fl = .next ∧ ∃ G' a, Grow w (Wr env none) No G s G' s' ∧ s.heap.get? a = none ∧ Good w A env (some a) Γ₁ G' s') (fun _ _ => False) s

theorem At.newOwn {G' s'} (q : At w n env none Γ c fs ρ X) (g : Grow w (Wr env none) No X.G X.s G' s') (hf : X.s.heap.get? a = none) (gd : Good w (X.A.over c fs) env (some a) Γ₁ G' s') :
    At w n env (some a) Γ₁ c fs ρ { X with F := fun b => X.F b ∨ b = a, G := G', s := s' } := by
  have live : ∃ o, s'.heap.get? a = some o := let ⟨_, _, _, o, e, _⟩ := gd.oown a rfl; ⟨o, e⟩
  exact {
    gfr := q.gfr
    self := q.self
    cx := q.cx.grow g
    w0 := q.w0
    grow := (q.grow.mono (fun _ h => .inl h) fun _ h => h).trans' (g.mono (fun b h => h.elim (fun h => .inl (h ▸ q.fL)) fun h => by cases h) fun _ h => h.elim)
    ff := fun b h => .inl (q.ff b h)
    kk := q.kk
    fn := fun b h => h.elim (q.fn b) fun h => .inr (by rw [h]; exact q.grow.ext.dead hf)
    kn := q.kn
    good := gd
    fL := .inl q.fL
    fO := fun b h => by cases h; exact .inr rfl
    th := ⟨fun b h => h.elim ((q.th.grow g).1 b) fun h => h ▸ live, (q.th.grow g).2⟩
    rF := fun b h => .inl (q.rF b h)
    rK := q.rK
    rL := q.rL
    rO := fun b h r => by cases h; obtain ⟨o, e⟩ := q.th.1 a (q.rF a r); rw [hf] at e; cases e
    res := ρ.st _ _ _ _ (g.mono (fun b h => h.elim (fun h => h ▸ q.rL) fun h => by cases h) fun _ h => h.elim) q.res }

theorem after_drop {K : Flow → Sem Fin} {H : Value → Sem Fin} {e : End'} {outs2 : List PV} (ha : After prog w n env none c fs ρ K H e outs2 o.drop) : After prog w n env (some a) c fs ρ K H e outs2 o := by
  cases o with
  | next Γ' => exact fun X' q => ha X' q.forget
  | cont Γ' => exact fun X' q => ha X' q.forget
  | ret p => exact ha
  | err => exact fun X' x fl q e9 hfl => ha X' x fl q.forget e9 hfl

theorem gsr_new {st : Stmt} {rest : List Stmt} (h1 : NewOwn prog w n env Γ (exec st env) Γ₁) (h2 : ∀ a, GsR prog w n env (some a) ρ ρ' Γ₁ (execs rest env) outs o) :
    GsR prog w n env none ρ ρ' Γ (execs (st :: rest) env) outs o.drop := by
  intro c fs K H gd lv e outs3 X q hgd ha
  rw [execs_cons_wrap]
  refine sg_iff.mpr (run_wrap ?_)
  obtain ⟨l, hl, _⟩ := q.cx.fr
  have ho := q.gfr.over X.A n l q.cx.rm hl
  refine wpAny_mono (h1 _ _ _ _ ho.1 ho.2 q.self q.good) (fun fl s' ⟨e1, G', a, g, hf, gd'⟩ => ?_) fun _ _ h => h.elim
  subst e1
  exact sg_iff.mp (h2 a c fs K H gd lv e outs3 _ (q.newOwn g hf gd') hgd (after_drop ha))

theorem At.toE (q : At w n env O Γ c fs ρ X) : At w n env O ⟨[], none⟩ c fs ρ X := { q with good := q.good.toE }
theorem gs_weak {t : Sem Flow} (h : Gs prog w n env O Γ t outs (.next Γ')) : Gs prog w n env O Γ t outs (.next ⟨[], none⟩) :=
  fun c fs ρ K H gd lv e outs3 X q hgd ha => h c fs ρ K H gd lv e outs3 X q hgd fun X' q' => ha X' q'.toE

theorem gsr_state {S α : Type} {ins : List α} {g : α → PV} {y x1 : Str} {px pt pos : Pos} {body rest : List Stmt} {p : PV} {e : End'} {outs2 : List PV} {Γ : Lcl} (f : S → α → Option (List PV × S)) (R : S → List α → Lcl → Prop) (σ : S)
    (hin : Inp prog w n (ins.map g) e p ρ) (hx : Γ.vars.lookup x1 = some p) (hl : env.kindOf y = some .local) (hd : (x1 == ("__debug__" : Str)) = false) (hown : ∀ σ l Γ, R σ l Γ → ∀ z d, Γ.own = some (z, d) → z ≠ y)
    (hb : ∀ σ h tl Γ, R σ (h :: tl) Γ → match f σ h with
      | some (l, σ') => ∃ Γ', R σ' tl Γ' ∧ (Gs prog w n env O (Γ.set y (g h)) (execs body env) l (.next Γ') ∨ Gs prog w n env O (Γ.set y (g h)) (execs body env) l (.cont Γ'))
      | none => Gs prog w n env O (Γ.set y (g h)) (execs body env) [] .err) (hR : R σ ins Γ) (hdone : (runF f σ ins e).2.2 = .done)
    (houts : outs = (runF f σ ins e).1 ++ outs2) (h2 : ∀ Γ', R (runF f σ ins e).2.1 [] Γ' → Gs prog w n env O Γ' (execs rest env) outs2 o) : GsR prog w n env O ρ (Res.nil w) Γ (execs (.For (.Name y pt) (.Name x1 px) body [] pos :: rest) env) outs o := by
  subst houts
  obtain ⟨o1, L, ho⟩ := loop_state (prog := prog) (w := w) (n := n) (env := env) (O := O) (e := e) hown hb hR
  rcases ho with ⟨_, Γ', rfl, hR'⟩ | ⟨h, _⟩
  · exact gsr_first (gsr_for hin hx hl L hd) (h2 Γ' hR')
  · rw [hdone] at h; cases h
theorem Good.takeOwn {vars : List (Str × PV)} {ob : Obj} (gd : Good w A env none ⟨(x, .oth (.ref a)) :: vars, none⟩ G s) (hx : vars.lookup x = none) (hl : env.kindOf x = some .local) (ho : s.heap.get? a = some ob) (hG : G a = none) (hne : a ≠ env.locals) (ht : ¬ isTab a)
    (hd : ¬ IsD ob) (hn : ∀ vs, ob.data ≠ .fields vs) (hi : OwnIs G ob d) : Good w A env (some a) ⟨vars, some (x, d)⟩ G s := by
  obtain ⟨m, hm, hv, _⟩ := gd.vars
  refine { gd with oown := fun b hb => ?_, vars := ⟨m, hm, fun z p e => ?_, a, ob, rfl, hl, ?_, ho, hi⟩ }
  · cases hb; exact ⟨hG, hne, ht, ob, ho, hd, hn⟩
  · have hzx : (z == x) = false := by
      cases hb : z == x with
      | false => rfl
      | true =>
        have : z = x := by simpa using hb
        rw [this, hx] at e; cases e
    exact hv z p (by simp only [List.lookup_cons, hzx]; exact e)
  · obtain ⟨v, r, rp⟩ := hv x (.oth (.ref a)) (by simp)
    unfold Rep at rp; subst rp
    rcases r with ⟨_, r⟩ | ⟨r | r, _⟩
    · exact r
    · rw [hl] at r; cases r
    · rw [hl] at r; cases r

/-- x = [..] -/
theorem new_list {es : List Expr} {lp xp pos : Pos} {ps : List PV} {vars : List (Str × PV)} (h : EvL prog w n env ⟨vars, none⟩ lp es ps) (hz : ps.length ≤ 1000000) (hx : vars.lookup x = none) (hl : env.kindOf x = some .local)
    (hs : swapsWith (.List es lp) (some (.Name x xp)) pos.line env = pure false := by rfl) :
    NewOwn prog w n env ⟨vars, none⟩ (exec (.Assign [.Name x xp] (.List es lp) pos) env) ⟨vars, some (x, .list ps)⟩ := by
  intro A fl G s rm hf hself gd
  refine wpAny_Assign_Name ?_ hs
  refine wpAny_List (h.use rm gd fun vs G1 s1 g1 gd1 q1 => ⟨by rw [q1.length]; simp [sizeLine]; omega, ?_⟩)
  have g2 : Grow w Pure No G1 s1 G1 { s1 with heap := s1.heap.push { cls := .type "list", data := .seq vs.toArray } } := Grow.push0 (tk := s1.toks) gd1.wld
  have gd2 := gd1.pur g2
  refine wpAny_store_good gd2 hl (p := .oth (.ref s1.heap.objs.size)) (by unfold Rep; rfl) (by intro z d q; cases q) fun s3 g3 gd3 => ?_
  have hdead := end_dead s1.heap
  have hL : s1.heap.objs.size ≠ env.locals := fun e => by
    obtain ⟨m, ⟨oL, es', ep', ho, _⟩, _⟩ := gd1.vars
    rw [← e, hdead] at ho; cases ho
  have ht := gd1.wld.ntab hdead
  obtain ⟨o3, e3, sm⟩ := g3.ext.old s1.heap.objs.size _ (Heap.get?_push_size _ rfl) (fun h => h.elim (fun h => hL h) fun h => by cases h) ht
  have e4 := sm.eq_of_not (nd_seq (o := { cls := .type "list", data := .seq vs.toArray }) rfl).1
  rw [e4] at e3
  refine ⟨rfl, G1, s1.heap.objs.size, (g1.pur.trans' g2.pur).trans' g3, g1.ext.dead hdead, ?_⟩
  exact gd3.takeOwn hx hl e3 (gd1.wld.fresh hdead) hL ht (nd_seq rfl).1 (nd_seq rfl).2 ⟨_, 0, rfl, by simpa using q1⟩
end
end Mine

namespace Mine
open PySem PySem.W PySem.Calls PyProof.Rows PySem.Builtin

noncomputable def cookiesOf (hs : List Hd) : List B := (hs.filter (fun h => h.1 == bCookie)).map (·.2.1)
noncomputable def restOf (hs : List Hd) : List Hd := hs.filter (fun h => !(h.1 == bCookie))
noncomputable def combineB (hs : List Hd) : List Hd := restOf hs ++ if cookiesOf hs = [] then [] else [(bCookie, Bytes.joined bSep (cookiesOf hs), true)]

theorem joined_go (sep : B) (M : Nat) : ∀ (l : List (B × Nat)) (acc : B), (∀ x ∈ l, x.1.size ≤ M) → (l.foldl (fun out (x : B × Nat) => (if x.2 > 0 then out ++ sep else out) ++ x.1) acc).size ≤ acc.size + l.length * (M + sep.size)
  | [], acc, _ => by simp
  | x :: l, acc, h => by
    rw [List.foldl_cons]
    have h1 := joined_go sep M l ((if x.2 > 0 then acc ++ sep else acc) ++ x.1) fun y hy => h y (.tail _ hy)
    have h2 := h x (.head _)
    have h3 : ((if x.2 > 0 then acc ++ sep else acc) ++ x.1).size ≤ acc.size + (M + sep.size) := by
      split <;> simp <;> omega
    rw [List.length_cons, Nat.add_mul, Nat.one_mul]
    omega
theorem joined_size {sep : B} {l : List B} {M : Nat} (h : ∀ x ∈ l, x.size ≤ M) : (Bytes.joined sep l).size ≤ l.length * (M + sep.size) := by
  have := joined_go sep M l.zipIdx #[] fun x hx => h _ (List.mem_zipIdx' hx |>.2 ▸ List.getElem_mem _)
  have e : (Bytes.joined sep l).size = (l.zipIdx.foldl (fun out (x : B × Nat) => (if x.2 > 0 then out ++ sep else out) ++ x.1) #[]).size := rfl
  rw [e]; simpa using this
theorem sum_size {l : List B} {M k : Nat} (h : ∀ x ∈ l, x.size ≤ M) : l.foldl (· + ·.size) k ≤ k + l.length * M := by
  induction l generalizing k with
  | nil => simp
  | cons a l ih =>
    rw [List.foldl_cons]
    have h1 := ih (k := k + a.size) fun x hx => h x (.tail _ hx)
    have h2 := h a (.head _)
    rw [List.length_cons, Nat.add_mul, Nat.one_mul]; omega

section
variable {prog : Program} {w : World} {n : Nat} {env : Env} {O : Option Addr} {Γ Γ' : Lcl}

noncomputable def fComb (σ : List B) (h : Hd) : Option (List PV × List B) := if h.1 == bCookie then some ([], σ ++ [h.2.1]) else some ([h.pv], σ)
theorem runF_comb : ∀ (hs : List Hd) (σ : List B), runF fComb σ hs .done = ((restOf hs).map Hd.pv, σ ++ cookiesOf hs, .done)
  | [], σ => by simp [runF, restOf, cookiesOf]
  | h :: hs, σ => by
    cases hb : h.1 == bCookie with
    | true =>
      have e : fComb σ h = some ([], σ ++ [h.2.1]) := by unfold fComb; rw [if_pos hb]
      rw [runF, e]
      simp only [runF_comb hs (σ ++ [h.2.1])]
      simp [restOf, cookiesOf, hb]
    | false =>
      have e : fComb σ h = some ([h.pv], σ) := by unfold fComb; rw [hb, if_neg Bool.false_ne_true]
      rw [runF, e]
      simp only [runF_comb hs σ]
      simp [restOf, cookiesOf, hb]

theorem ev_join {o a1 : Expr} {apos pos : Pos} {sep b : B} {l : List PV} (ho : EvP prog w n env Γ o (.byt sep)) (ha : EvP prog w n env Γ a1 (.lst l)) (hc : CallIs prog w n (.builtin "bytes.join") [.byt sep, .lst l] (.byt b))
    (hs : starEach [a1] env = (false, eval a1 env) :: starEach [] env)
    (hbase : attributeBase o "join" env (eval o env) = eval o env) (hline : (apos.endLine == pos.line) = true)
    (hfew : ((backTo pos (starEach [a1] env)).all (fun x => !x.1) && (backToKw pos (keywordEach [] env)).all (fun x => x.1.isSome)
      && decide ([a1].length + ([] : List Keyword).length + (if ([] : List Keyword).isEmpty then 0 else 1) < 30)) = true) (hplain : (backTo pos (starEach [a1] env)).any (·.1) = false) :
    EvP prog w n env Γ (.Call (.Attribute o "join" apos) [a1] [] pos) (.byt b) :=
  ev_method ho (args_cons (evl_cons ha evl_nil hs) hs) hd_byt FB.plainAttrs_bytes slot_join type_join hc hbase hfew hline hplain

theorem st_combine {hs : List Hd} (hsm : ∀ h ∈ hs, SmH h) (hlen : hs.length ≤ 1000) : Stage prog w n 303 (hs.map Hd.pv) .done ((combineB hs).map Hd.pv) .done := by
  refine stage_of (x1 := "headers") (x2 := "hdr_validation_flags") (by kernel_rfl) (by kernel_rfl) (by kernel_rfl) (by kernel_rfl) (by kernel_rfl) (fun hv fv => by kernel_rfl) fun env p q ρ ok hin => ?_
  conv in bodyOf w 303 => whnf
  have kh := ok.k "header" .local (by kernel_rfl)
  have kc := ok.k "cookies" .local (by kernel_rfl)
  have kv := ok.k "cookie_val" .local (by kernel_rfl)
  have hC : ∀ b ∈ cookiesOf hs, b.size ≤ 4096 := fun b hb => by
    obtain ⟨h, hm, rfl⟩ := List.mem_map.mp hb
    exact (hsm h (List.mem_filter.mp hm).1).2
  have hCl : (cookiesOf hs).length ≤ 1000 := by
    unfold cookiesOf; rw [List.length_map]
    exact Nat.le_trans (List.length_filter_le _ _) hlen
  refine ⟨Out.drop (.next ⟨[], none⟩), gsr_then (gs_doc ok.inter) (gsr_new (new_list (x := "cookies") (evl_nil) (by simp) (by rfl) kc) fun a => ?_), .inl ⟨rfl, _, rfl⟩⟩
  have hrun := runF_comb hs []
  have e1 : (combineB hs).map Hd.pv = (runF fComb [] hs .done).1 ++ (if cookiesOf hs = [] then [] else [(bCookie, Bytes.joined bSep (cookiesOf hs), true)] : List Hd).map Hd.pv := by rw [hrun]; unfold combineB; rw [List.map_append]
  refine gsr_state fComb (fun σ l Γ => ∃ vars, Γ = ⟨vars, some ("cookies", .list (σ.map .byt))⟩ ∧ σ.length + l.length ≤ 1000) [] hin (by rfl) kh (by decide) (fun σ l Γ hR z d q => by obtain ⟨vars, rfl, _⟩ := hR; cases q; decide)
    (fun σ h tl Γ hR => ?_) ⟨_, rfl, by simpa using hlen⟩ (by rw [hrun]) e1 fun Γ' hR => ?_
  · obtain ⟨vars, rfl, hl⟩ := hR
    have hx0 : (Lcl.set ⟨vars, some ("cookies", .list (σ.map .byt))⟩ "header" h.pv).vars.lookup ("header" : Str) = some h.pv := by rfl
    unfold fComb
    cases hb : h.1 == bCookie with
    | true =>
      rw [if_pos rfl]
      refine ⟨⟨("header", h.pv) :: vars, some ("cookies", .list ((σ ++ [h.2.1]).map .byt))⟩, ⟨_, rfl, by simp at hl ⊢; omega⟩, .inl (gs_cons1 (gs_ift (evt_cmp (ev_h0 (h := h) hx0) ev_bytes cmp_eq_byt) hb (gs_leaf (exp_cons1 ?_))))⟩
      rw [List.map_append]
      exact exp_append (l := σ.map .byt) (ev_h1 (h := h) hx0) (by rw [List.length_map]; simp at hl; omega) (by decide) ok.inter
    | false =>
      rw [if_neg Bool.false_ne_true]
      exact ⟨⟨("header", h.pv) :: vars, some ("cookies", .list (σ.map .byt))⟩, ⟨_, rfl, by simp at hl ⊢; omega⟩, .inl (gs_cons1 (gs_iff (evt_cmp (ev_h0 (h := h) hx0) ev_bytes cmp_eq_byt) hb (gs_cons1 (gs_yield (ev_name hx0) ok.co ok.inter))))⟩
  · rw [hrun] at hR
    obtain ⟨vars, rfl, _⟩ := hR
    rw [List.nil_append]
    have ht : ∀ pos, EvT prog w n env ⟨vars, some ("cookies", .list ((cookiesOf hs).map .byt))⟩ (.Name "cookies" pos) (PV.lst ((cookiesOf hs).map .byt)).truth := fun pos =>
      evt_peek (d := .list _) (evt_value (p := .lst ((cookiesOf hs).map .byt)) (ev_name (by rfl)) (tr_list (by rw [List.length_map]; omega)))
    by_cases hc : cookiesOf hs = []
    · rw [if_pos hc]
      exact gs_weak (gs_cons1 (gs_iff (ht _) (by rw [hc]; rfl) gs_nil))
    · rw [if_neg hc]
      have hz := joined_size (sep := bSep) hC
      have hz2 := sum_size (k := bSep.size * ((cookiesOf hs).length - 1)) hC
      have hb2 : bSep.size = 2 := rfl
      have hne : (cookiesOf hs).length ≠ 0 := fun e => hc (List.eq_nil_of_length_eq_zero e)
      have hlk : (⟨("cookies", .lst ((cookiesOf hs).map .byt)) :: vars, none⟩ : Lcl).vars.lookup ("cookies" : Str) = some (.lst ((cookiesOf hs).map .byt)) := by rfl
      have hcall : CallIs prog w n (.builtin "bytes.join") [.byt bSep, .lst ((cookiesOf hs).map .byt)] (.byt (Bytes.joined bSep (cookiesOf hs))) := call_join (sep := bSep) (by omega) (by
        rw [hb2] at hz2; have := Nat.mul_le_mul_right 4096 hCl; rw [hb2]; omega) (by rw [hb2] at hz; have := Nat.mul_le_mul_right (4096 + 2) hCl; omega)
      have hj : ∀ k p1 p2 p3 p4, (p2.endLine == p4.line) = true → EvP prog w n env ⟨vars, some ("cookies", .list ((cookiesOf hs).map .byt))⟩ (.Call (.Attribute (.Constant (.bytes [59, 32]) k p1) "join" p2) [.Name "cookies" p3] [] p4) (.byt (Bytes.joined bSep (cookiesOf hs))) := by
        intro k p1 p2 p3 p4 h
        refine ev_peek (d := .list ((cookiesOf hs).map .byt)) ?_ rfl
        have e1 : attributeBase (.Constant (.bytes [59, 32]) k p1) "join" env (eval (.Constant (.bytes [59, 32]) k p1) env) = eval (.Constant (.bytes [59, 32]) k p1) env := rfl
        have ho : EvP prog w n env ⟨("cookies", .lst ((cookiesOf hs).map .byt)) :: vars, none⟩ (.Constant (.bytes [59, 32]) k p1) (.byt bSep) := ev_bytes
        generalize (.Constant (.bytes [59, 32]) k p1 : Expr) = o at e1 ho ⊢
        exact ev_join ho (ev_name hlk) hcall rfl e1 h rfl rfl
      rw [show ([(bCookie, Bytes.joined bSep (cookiesOf hs), true)] : List Hd).map Hd.pv = [Hd.pv (bCookie, Bytes.joined bSep (cookiesOf hs), true)] from rfl]
      have hq : ∀ b : B, PV.tup [.byt [99, 111, 111, 107, 105, 101].toArray, .byt b, .bool true] = Hd.pv (bCookie, b, true) := fun b => rfl
      refine gs_weak (gs_cons1 (gs_ift (ht _) (by show (((cookiesOf hs).map PV.byt).length != 0) = true; rw [List.length_map]; exact bne_iff_ne.mpr hne) (gs_then (exp_assign (p := .byt (Bytes.joined bSep (cookiesOf hs))) (hj _ _ _ _ _ rfl) kv ?_)
        (gs_cons1 (gs_yield (ev_eq (ev_tuple (evl_cons ev_bytes (evl_cons (ev_name (p := .byt (Bytes.joined bSep (cookiesOf hs))) (by rfl)) (evl_cons ev_bool evl_nil)))) (hq _)) ok.co ok.inter)))))
      intro z d q; cases q; decide
end
end Mine

namespace Mine
open PySem PySem.W PySem.Calls PyProof.Rows
theorem vsS {n : Nat} {vs : List Value} (h : vs.length = n + 1) : ∃ a t, vs = a :: t ∧ t.length = n := by
  cases vs with
  | nil => cases h
  | cons a t => exact ⟨a, t, rfl, Nat.succ.inj h⟩
theorem vs1 {vs : List Value} (h : vs.length = 1) : ∃ a, vs = [a] := by
  obtain ⟨a, t, rfl, h1⟩ := vsS h
  exact ⟨a, by rw [List.eq_nil_of_length_eq_zero h1]⟩
theorem vs2 {vs : List Value} (h : vs.length = 2) : ∃ a b, vs = [a, b] := by
  obtain ⟨a, t, rfl, h1⟩ := vsS h
  obtain ⟨b, rfl⟩ := vs1 h1
  exact ⟨a, b, rfl⟩
theorem vs3 {vs : List Value} (h : vs.length = 3) : ∃ a b c, vs = [a, b, c] := by
  obtain ⟨a, t, rfl, h1⟩ := vsS h
  obtain ⟨b, c, rfl⟩ := vs2 h1
  exact ⟨a, b, c, rfl⟩
theorem vs5 {vs : List Value} (h : vs.length = 5) : ∃ a b c d e, vs = [a, b, c, d, e] := by
  obtain ⟨a, t, rfl, h1⟩ := vsS h
  obtain ⟨b, t, rfl, h2⟩ := vsS h1
  obtain ⟨c, d, e, rfl⟩ := vs3 h2
  exact ⟨a, b, c, d, e, rfl⟩


section
variable {prog : Program} {w : World} {n : Nat} {G : GH} {s : Shared} {A : Around} {o : Out}

theorem bindsTo_of {fd : FuncData} {args : Args} {binds : List (Str × Value)} (h : bindArgs fd args = pure binds) : BindsTo s fd args binds := fun _ _ _ _ hQ => by
  rw [h]; exact wpAny_pure hQ

theorem call_enter {fa : Addr} {fd : FuncData} {body : List Stmt} {args : Args} {binds : List (Str × Value)} {Γ₀ : Lcl} {R : Result → Shared → Prop}
    (hfo : G fa = some { cls := .type "function", data := .func fd }) (ok : FnOk fd body) (hgen : fd.scope.isGenerator = false) (hcd : CodeRecG G fd.code fd.qualname)
    (hbind : BindsTo s fd args binds) (hloc : ∀ x ∈ binds, fd.scope.names.lookup x.1 = some .local)
    (hΓ : ∀ L x p, Γ₀.vars.lookup x = some p → ∃ v, Reads (callEnv fd L fa) (fun y => binds.reverse.lookup y) G x v ∧ Rep G p v) (hown : Γ₀.own = none)
    (W : Wld w G s) (cx : Cx (n+1) A G s)
    (h : ∀ L A' l s₁, Rm n A' → A'.frames = some (callEnv fd L fa :: l) → Grow w Pure No G s G s₁ → s.heap.get? L = none → Good w A' (callEnv fd L fa) none Γ₀ G s₁ →
      wpAny (model prog w) A' (execs body (callEnv fd L fa)) (fun f s' => R (.ok (.ret (match f with | .ret v => v | _ => .none))) s')
        (fun e s' => wpAny (model prog w) A' (leaving (callEnv fd L fa) e) (fun _ s'' => R (.error e) s'') (fun e' s'' => R (.error e') s'') s') s₁) :
    codeAny (model prog w) A (.call (.ref fa) args) R s := by
  refine codeAny_call_def cx.rm.room (W.sub _ _ hfo) rfl (noLimit W) (hcd.rec W) ok.body hbind ok.cell hloc (fun h₀ hns k => ?_) ok.co hgen ok.kind
  obtain ⟨l, hl, fl⟩ := cx.fr
  have hLd : s.heap.get? s.heap.objs.size = none := end_dead _
  have hGL : G s.heap.objs.size = none := W.fresh hLd
  have hnt : ¬ isTab s.heap.objs.size := W.ntab hLd
  have g1 : Grow w Pure No G s G { s with heap := h₀, toks := s.toks + binds.length } := Grow.keeps (dr := s.drawn) W k
  have hfr : (A.deeper (callEnv fd s.heap.objs.size fa)).frames = some (callEnv fd s.heap.objs.size fa :: l) := by
    show pushEnvs [_] A.frames = _
    rw [hl]; rfl
  refine h s.heap.objs.size _ l _ cx.rm.deeper hfr g1 hLd ?_
  exact {
    wld := g1.wld
    frames := ⟨_, hfr, fun ev hev => by
      rcases List.mem_cons.mp hev with rfl | hev
      · obtain ⟨o, es, ep, ho, hd, _⟩ := hns
        exact ⟨by show fd.scope.kind ≠ .module; rw [ok.kind]; decide, s.heap.objs.size, o, rfl, hGL, ho, es, ep, hd⟩
      · exact (fl.grow g1) ev hev⟩
    kind := ok.kind
    globals := ok.glob
    builtins := ok.bi
    fresh := hGL
    ntab := hnt
    oown := (fun a h => by cases h)
    vars := ⟨_, hns, fun x p hx => hΓ s.heap.objs.size x p hx, by unfold OwnOk; rw [hown]; trivial⟩ }

/-- how a call ends -/
noncomputable def CallR (w : World) (o : Out) (G : GH) (s : Shared) (r : Result) (s' : Shared) : Prop := ∃ G', Grow w Pure No G s G' s' ∧ match o with
  | .ret p => ∃ v, r = .ok (.ret v) ∧ Rep G' p v
  | .err => ∃ x, r = .error x ∧ Err G' s.heap s' x (some .none)
  | _ => r = .ok (.ret .none)

theorem call_fn {fa : Addr} {fd : FuncData} {body : List Stmt} {args : Args} {binds : List (Str × Value)} {Γ₀ : Lcl}
    (hfo : G fa = some { cls := .type "function", data := .func fd }) (ok : FnOk fd body) (hgen : fd.scope.isGenerator = false) (hcd : CodeRecG G fd.code fd.qualname)
    (hbind : BindsTo s fd args binds) (hloc : ∀ x ∈ binds, fd.scope.names.lookup x.1 = some .local)
    (hΓ : ∀ L x p, Γ₀.vars.lookup x = some p → ∃ v, Reads (callEnv fd L fa) (fun y => binds.reverse.lookup y) G x v ∧ Rep G p v) (hown : Γ₀.own = none)
    (W : Wld w G s) (cx : Cx (n+1) A G s) (run : ∀ L, ExP prog w n (callEnv fd L fa) none Γ₀ (execs body (callEnv fd L fa)) o) :
    codeAny (model prog w) A (.call (.ref fa) args) (CallR w o G s) s := by
  refine call_enter (n := n) hfo ok hgen hcd hbind hloc hΓ hown W cx fun L A' l s₁ rm hfr g1 hL gd => ?_
  have tr : ∀ {G2 s2}, Grow w (Wr (callEnv fd L fa) none) No G s₁ G2 s2 → Grow w Pure No G s G2 s2 := fun g2 => g1.trans g2 (fun b h => h.elim (fun h => by subst h; exact .inr hL) fun h => by cases h) fun _ h => h.elim
  refine wpAny_mono (run L A' l G s₁ rm hfr rfl gd) (fun f s' ⟨G', g, q⟩ => ⟨G', tr g, ?_⟩) (fun x s' ⟨q, G', fl, g, gd', e9, hfl⟩ => ?_)
  · cases o with
    | next Γ' => obtain ⟨rfl, _⟩ := q; rfl
    | cont Γ' => obtain ⟨rfl, _⟩ := q; rfl
    | ret p => obtain ⟨v, rfl, rp, _⟩ := q; exact ⟨v, rfl, rp⟩
    | err => exact q.elim
  · subst q
    have e9' := e9.start (h₀ := s.heap) g1.ext.live
    obtain ⟨l', hl', fr⟩ := gd'.frames
    rw [hfr] at hl'; cases hl'
    have al : Alive s.heap s' := (tr g).ext.live
    have t0 : Tabd s.heap := W.tabd
    refine err_leaving g.wld t0 al hfr fr rfl e9' hfl fun h' g' e' => ?_
    exact ⟨G', g'.grow (tr g), x, rfl, e'⟩

/-- a plain function: what it answers to these arguments -/
noncomputable def Fn (prog : Program) (w : World) (n : Nat) (fa : Addr) (ps : List PV) (o : Out) : Prop :=
  ∀ A G s vs, Wld w G s → RepL G ps vs → Cx (n+1) A G s → codeAny (model prog w) A (.call (.ref fa) ⟨vs, []⟩) (CallR w o G s) s

theorem fn_of {fa : Addr} {names : List Str} {ps : List PV} (hfo : (topK w).lookup fa = some { cls := .type "function", data := .func (fdOf w fa) }) (hb : fnB (fdOf w fa) names = true) (hbody : (fdOf w fa).body = .stmts (bodyOf w fa)) (hgen : (fdOf w fa).scope.isGenerator = false)
    (hcd : codeIn (topK w) (fdOf w fa).code (fdOf w fa).qualname = true) (hlen : ps.length = names.length) (hbind : ∀ vs s, vs.length = names.length → (topK w).In s.heap → BindsTo s (fdOf w fa) ⟨vs, []⟩ (names.zip vs))
    (run : ∀ env, EnvOk w fa env → ExP prog w n env none ⟨names.zip ps, none⟩ (execs (bodyOf w fa) env) o) : Fn prog w n fa ps o := by
  intro A G s vs W r cx
  obtain ⟨ok, hloc, hnd⟩ := fnB_ok hb hbody
  have hvl := r.length
  exact call_fn (binds := names.zip vs) (Γ₀ := ⟨names.zip ps, none⟩) (top_in W hfo) ok hgen (code_in W hcd) (hbind vs s (by omega) (let ⟨g₀, b, hi⟩ := W.base; fun a o q => W.sub _ _ (hi _ _ (b.K a o q)))) (fun x hx => hloc _ (mem_zip_fst hx)) (param_reads r hnd hlen hloc) rfl W cx fun L => run _ (envOk_call ok L)

end
end Mine

namespace Mine
open PySem PySem.W PySem.Calls PyProof.Rows

/-- of a function's end: that it gives None -/
noncomputable def Out.none? : Out → Prop
  | .next _ => True
  | .cont _ => True
  | .ret p => p = .none
  | .err => False

section
variable {prog : Program} {w : World} {n : Nat} {env : Env} {O : Option Addr} {Γ Γ' : Lcl} {G : GH} {s : Shared} {A : Around} {o : Out}

/-- the value of f(..) or its error -/
noncomputable def CallOut (prog : Program) (w : World) (n : Nat) (env : Env) (Γ : Lcl) (e : Expr) (o : Out) : Prop :=
  ∀ A O G s, Rm n A → Good w A env O Γ G s → wpAny (model prog w) A (eval e env) (fun v s' => ∃ G', Grow w Pure No G s G' s' ∧ match o with | .ret p => Rep G' p v | .err => False | _ => v = .none)
    (fun x s' => o = .err ∧ ∃ G', Grow w Pure No G s G' s' ∧ Err G' s.heap s' x (some .none)) s

theorem out_call {f : Str} {fp pos : Pos} {es : List Expr} {ps : List PV} {fa : Addr} (hf : EvP prog w (n+1) env Γ (.Name f fp) (.oth (.ref fa))) (ha : EvArgs prog w (n+1) env Γ pos es ps)
    (hfo : (topK w).lookup fa = some { cls := .type "function", data := .func (fdOf w fa) }) (hc : Fn prog w n fa ps o) : CallOut prog w (n+1) env Γ (.Call (.Name f fp) es [] pos) o := fun A O G s rm g => by
  refine wpAny_Call_ofName (hf.use rm g fun u G1 s1 g1 gd1 q1 => ?_)
  unfold Rep at q1
  subst q1
  refine callWith_function (o := { cls := .type "function", data := .func (fdOf w fa) }) (fd := fdOf w fa) ((ha _).use rm gd1 fun a G2 s2 g2 gd2 q2 => ⟨⟨gd2.wld.sub _ _ (top_in gd2.wld hfo), rfl⟩, ?_⟩)
  rw [q2.1]
  refine wpAny_call (codeAny_mono (hc A G2 s2 a.pos gd2.wld q2.2 (gd2.cx rm)) fun r s' ⟨G', g', h⟩ => ?_)
  have gg := (g1.trans' g2).trans' g'
  cases o with
  | ret p => obtain ⟨v, rfl, rp⟩ := h; exact ⟨G', gg, rp⟩
  | err => obtain ⟨x, rfl, e9⟩ := h; exact ⟨rfl, G', gg, e9.start (g1.trans' g2).ext.live⟩
  | next Γ' => rw [h]; exact ⟨G', gg, rfl⟩
  | cont Γ' => rw [h]; exact ⟨G', gg, rfl⟩

theorem CallOut.ev {e : Expr} {p : PV} (h : CallOut prog w n env Γ e (.ret p)) : EvP prog w n env Γ e p := fun A O G s rm gd => by
  exact wpAny_mono (h A O G s rm gd) (fun v s' ⟨G', g, q⟩ => ⟨G', g, q⟩) fun x s' ⟨q, _⟩ => by cases q
theorem CallOut.ev0 {e : Expr} {Γ' : Lcl} (h : CallOut prog w n env Γ e (.next Γ')) : EvP prog w n env Γ e .none := fun A O G s rm gd => by
  exact wpAny_mono (h A O G s rm gd) (fun v s' ⟨G', g, q⟩ => ⟨G', g, by unfold Rep; exact q⟩) fun x s' ⟨q, _⟩ => by cases q

/-- f(..) as a statement -/
theorem exp_do {e : Expr} {pos : Pos} (h : EvP prog w n env Γ e .none) (hi : interactive env = false) (hs : swapsWith e none pos.line env = pure false := by rfl) : ExP prog w n env O Γ (exec (.Expr e pos) env) (.next Γ) := by
  intro A l G s rm hf hself gd
  refine wpAny_Expr (h.use rm gd fun v G1 s1 g1 gd1 q => ?_) hi hs
  rw [rep_none q]
  exact ⟨G1, g1.pur, rfl, gd1⟩
theorem exp_do_err {e : Expr} {pos : Pos} (h : CallOut prog w n env Γ e .err) (hi : interactive env = false) (hs : swapsWith e none pos.line env = pure false := by rfl) : ExP prog w n env O Γ (exec (.Expr e pos) env) .err := by
  intro A l G s rm hf hself gd
  refine wpAny_Expr (wpAny_mono (h A O G s rm gd) (fun v s' ⟨G', g, q⟩ => q.elim) fun x s' ⟨_, G', g, e9⟩ => ⟨rfl, G', _, g.pur, (gd.pur g).toE, e9, .inr (.inl rfl)⟩) hi hs

-- one's own object, looked at by a call that may fail
theorem out_peek {x : Str} {d : OwnD} {e : Expr} {vars : List (Str × PV)} (h : CallOut prog w n env ⟨(x, d.pv) :: vars, none⟩ e o) (ho : ∀ p, o = .ret p → p.flat = true) : CallOut prog w n env ⟨vars, some (x, d)⟩ e o := by
  intro A O G s rm gd
  obtain ⟨a, rfl⟩ := good_own_some A O G s gd
  obtain ⟨ob, h1, h2, h3, h4, h5, h6, gd'⟩ := peek_good (Γ := ⟨vars, none⟩) gd
  refine wpAny_mono (h A none _ s rm gd') (fun v s' ⟨G', g, q⟩ => ⟨G'.del a, unpeek h4 h3 h6 g, ?_⟩) fun x s' ⟨q, G', g, e9⟩ => ⟨q, G'.del a, unpeek h4 h3 h6 g, err_sub GH.del_sub e9⟩
  cases o with
  | ret p => exact rep_flat (ho p rfl) q
  | err => exact q
  | next _ => exact q
  | cont _ => exact q

end
end Mine

namespace Mine
open PySem PySem.W PySem.Calls PyProof.Rows

noncomputable def hasB (S : List B) (k : List UInt8) : Bool := S.any (fun b => b.toList == k)
/-- an object that is a set of these bytes, each once -/
noncomputable def SetB (prog : Program) (w : World) (S : List B) : Obj → Prop := fun o => o.SetObjOf (bytesKind prog w) (hasB S) S.length
noncomputable def setPV (prog : Program) (w : World) (S : List B) : PV := .obj (SetB prog w S) (S.length != 0)
noncomputable abbrev setOwn (prog : Program) (w : World) (S : List B) : OwnD := .obj (SetB prog w S) (S.length != 0)

theorem hasB_contains (S : List B) (b : B) : hasB S b.toList = S.contains b := by
  unfold hasB
  induction S with
  | nil => rfl
  | cons a S ih =>
    rw [List.any_cons, List.contains_cons, ih]
    congr 1
    rw [Bool.eq_iff_iff, beq_iff_eq, beq_iff_eq, Array.toList_inj]
    exact eq_comm

theorem noBool_set : typeLookup (.type "set") "__bool__" = pure none := by rw [typeLookup_type, builtinLookup_eq_fast]; kernel_rfl

section
variable {prog : Program} {w : World} {n : Nat} {env : Env} {O : Option Addr} {Γ Γ' : Lcl} {G : GH} {s : Shared} {A : Around} {a : Addr} {o : Out} {x : Str}

theorem set_nd {S : List B} {o : Obj} (h : SetB prog w S o) : ¬ IsD o ∧ ∀ us, o.data ≠ .fields us := by
  obtain ⟨_, es, ep, t, hd, _⟩ := h
  exact ⟨(fun ⟨_, _, e⟩ => by rw [hd] at e; cases e), (fun us e => by rw [hd] at e; cases e)⟩

theorem rep_set {S : List B} {v : Value} (h : Rep G (setPV prog w S) v) : ∃ a o, v = .ref a ∧ G a = some o ∧ SetB prog w S o := by unfold setPV Rep at h; exact h

theorem cmp_in_set {b : B} {S : List B} (hS : S.length ≤ 4000) : CmpIs prog w n .In (.byt b) (setPV prog w S) (S.contains b) := fun G s u v W r1 r2 A cx => by
  obtain ⟨t, rfl⟩ := rep_byt r1
  obtain ⟨a, o, rfl, hG, hs⟩ := rep_set r2
  refine wpAny_inSet_of (knd := bytesKind prog w) (k := b.toList) (S := hasB S) (n := S.length) (by show isBytes b.toList (.bytes b t) = true; simp [isBytes]) rfl (hs.setOf (W.sub _ _ hG) (by show _ < 4096; omega)) ?_
  exact ⟨G, .toks W, by rw [hasB_contains]⟩
theorem cmp_notin_set {b : B} {S : List B} (hS : S.length ≤ 4000) : CmpIs prog w n .NotIn (.byt b) (setPV prog w S) (!S.contains b) := fun G s u v W r1 r2 A cx => by
  obtain ⟨t, rfl⟩ := rep_byt r1
  obtain ⟨a, o, rfl, hG, hs⟩ := rep_set r2
  refine wpAny_notInSet_of (knd := bytesKind prog w) (k := b.toList) (S := hasB S) (n := S.length) (by show isBytes b.toList (.bytes b t) = true; simp [isBytes]) rfl (hs.setOf (W.sub _ _ hG) (by show _ < 4096; omega)) ?_
  exact ⟨G, .toks W, by rw [hasB_contains]⟩

theorem tr_set {S : List B} (hS : S.length ≤ 4000) : TruthIs prog w n (setPV prog w S) := fun G s v W r A cx => by
  obtain ⟨a, o, rfl, hG, hex, es, ep, t, hd, hel, hmem, hn, hf⟩ := rep_set r
  have ho := W.sub _ _ hG
  have hT : s.TypeIs (.ref a) "set" := ⟨o, ho, hex.1⟩
  have key : wpAny (model prog w) A (runValue (.builtin "len" ⟨[.ref a], []⟩)) (fun r s' => r = .int es.size (s.toks + 1) ∧ s' = { s with toks := s.toks + 1 + 1 }) (fun _ _ => False) s := by
    refine wpAny_runValue (codeAny_builtin entry_len ?_)
    rw [Around.under_plainId plain_len _]
    exact wpAny_mono (wpAny_len_body_set (Q := fun r s' => r = .int es.size (s.toks + 1) ∧ s' = { s with toks := s.toks + 1 + 1 }) ho hex hd hf (by omega) ⟨rfl, rfl⟩)
      (fun fin s' h' => by obtain ⟨r, rfl, hq⟩ := h'; exact hq) fun _ _ e => e
  have fin : ∃ G', Grow w Pure No G s G' { s with toks := s.toks + 1 + 1 } ∧ (((es.size : Nat) : Int) != 0) = (setPV prog w S).truth := ⟨G, .toks W, by
    show _ = (S.length != 0)
    rw [hn, Bool.eq_iff_iff, bne_iff_ne, bne_iff_ne]; omega⟩
  unfold truthy
  first
    | refine wpAny_bind (wpAny_callSpecial?_none (name := Str.ofString "__bool__") hT noBool_set ?_)
    | refine wpAny_bind (wpAny_pure (wpAny_bind (wpAny_callSpecial?_none (name := Str.ofString "__bool__") hT noBool_set ?_)))
  first
    | refine wpAny_bind (wpAny_specialOf (name := Str.ofString "__len__") hT F.slot_set_len.lookup ?_)
    | refine wpAny_bind (wpAny_pure (wpAny_bind (wpAny_specialOf (name := Str.ofString "__len__") hT F.slot_set_len.lookup ?_)))
  first
    | exact wpAny_bind (wpAny_mono key (fun r s' h' => by obtain ⟨rfl, rfl⟩ := h'; exact wpAny_pure fin) fun _ _ e => e)
    | exact wpAny_bind (wpAny_pure (wpAny_bind (wpAny_mono key (fun r s' h' => by obtain ⟨rfl, rfl⟩ := h'; exact wpAny_pure fin) fun _ _ e => e)))

/-- x.add(e), x one's own set -/
theorem exp_add {S : List B} {b : B} {e : Expr} {xp apos cpos pos : Pos} {vars : List (Str × PV)} (he : EvP prog w n env ⟨vars, some (x, setOwn prog w S)⟩ e (.byt b)) (hlen : S.length ≤ 4000) (hnew : S.contains b = false) (hd : (x == ("__debug__" : Str)) = false) (hi : interactive env = false)
    (hs : starEach [e] env = (false, eval e env) :: starEach [] env := by rfl)
    (hbase : attributeBase (.Name x xp) "add" env (eval (.Name x xp) env) = eval (.Name x xp) env := by rfl)
    (hfew : ((backTo cpos (starEach [e] env)).all (fun x => !x.1) && (backToKw cpos (keywordEach [] env)).all (fun x => x.1.isSome)
      && decide ([e].length + ([] : List Keyword).length + (if ([] : List Keyword).isEmpty then 0 else 1) < 30)) = true := by rfl)
    (hline : (apos.endLine == cpos.line) = true := by rfl) (hplain : (backTo cpos (starEach [e] env)).any (·.1) = false := by rfl)
    (hsw : swapsWith (.Call (.Attribute (.Name x xp) "add" apos) [e] [] cpos) none pos.line env = pure false := by rfl) :
    ExP prog w n env (some a) ⟨vars, some (x, setOwn prog w S)⟩ (exec (.Expr (.Call (.Attribute (.Name x xp) "add" apos) [e] [] cpos) pos) env) (.next ⟨vars, some (x, setOwn prog w (S ++ [b]))⟩) := by
  intro A fl G s rm hf hself gd
  refine wpAny_Expr ?_ hi hsw
  refine wpAny_Call_method hbase hfew hline F.plainAttrs_set F.slot_set_add F.type_set_add ?_
  refine wpAny_Name ?_ hd
  obtain ⟨m, hm, hv, a', o2, k1, k2, k3, k4, k5⟩ := gd.vars
  cases k1
  refine wpAny_loadName_local gd.kind k2 hm k3 ?_
  have hex : o2.ExactSet := k5.1
  refine ⟨⟨_, k4, hex.1⟩, fun c hb => by cases hb; exact ⟨_, k4, hex.2.1⟩, ?_⟩
  refine callWith_builtin hplain ((args_cons (evl_cons he evl_nil hs) hs _).use rm gd fun as G2 s2 g2 gd2 q2 => ?_)
  rw [q2.1]
  obtain ⟨v, e1, rv⟩ := repl1 q2.2
  rw [e1]
  obtain ⟨t, rfl⟩ := rep_byt rv
  obtain ⟨m', hm', hv', a'', o3, j1, j2, j3, j4, j5⟩ := gd2.vars
  cases j1
  have j5' : SetB prog w S o3 := j5
  refine call_set_add (knd := bytesKind prog w) (k := b.toList) (S := hasB S) (n := S.length) (by show isBytes b.toList (.bytes b t) = true; simp [isBytes]) rfl (j5'.setOf j4 (by show _ < 4096; omega)) (by show _ < 4096; omega) (fun h' hsb hS' => ?_)
  obtain ⟨o4, h4, hs4⟩ := hS'.objOf
  have hfun : (fun k' => hasB S k' || decide (k' = b.toList)) = hasB (S ++ [b]) := by
    funext k'
    unfold hasB
    rw [List.any_append]
    congr 1
    show _ = ((b.toList == k') || false)
    rw [Bool.or_false, Bool.eq_iff_iff, decide_eq_true_eq, beq_iff_eq]
    exact eq_comm
  rw [hasB_contains, hnew, hfun] at hs4
  simp only [Bool.false_eq_true, if_false] at hs4
  have hs5 : SetB prog w (S ++ [b]) o4 := by unfold SetB; rw [List.length_append]; exact hs4
  obtain ⟨g3, gd3⟩ := own_step (Γ := ⟨vars, none⟩) (d' := setOwn prog w (S ++ [b])) (tk := s2.toks + 1) gd2 hsb h4 (set_nd hs5).1 (set_nd hs5).2 hs5
  exact ⟨G2, g2.pur.trans' g3, rfl, gd3⟩

/-- x = set() -/
theorem new_set {fp cp xp pos : Pos} {vars : List (Str × PV)} (hk : env.kindOf "set" = some .globalImplicit) (hx : vars.lookup x = none) (hl : env.kindOf x = some .local)
    (hs : swapsWith (.Call (.Name "set" fp) [] [] cp) (some (.Name x xp)) pos.line env = pure false := by rfl) :
    NewOwn prog w n env ⟨vars, none⟩ (exec (.Assign [.Name x xp] (.Call (.Name "set" fp) [] [] cp) pos) env) ⟨vars, some (x, setOwn prog w [])⟩ := by
  intro A fl G s rm hf hself gd
  refine wpAny_Assign_Name ?_ hs
  refine wpAny_Call_ofName ((ev_builtin (n := n) hk (by kernel_rfl) (v := .type "set") (by kernel_rfl) (by decide +kernel) (by decide +kernel)).use rm gd fun u G1 s1 g1 gd1 q1 => ?_)
  unfold Rep at q1
  subst q1
  refine callWith_type0 (call_set_0 fun led => ?_)
  have g2 : Grow w Pure No G1 s1 G1 { s1 with heap := s1.heap.push { cls := .type "set", dict := none, data := .set #[] 0 (.fresh 0 0 led) } } := Grow.push0 (tk := s1.toks) gd1.wld
  have gd2 := gd1.pur g2
  refine wpAny_store_good gd2 hl (p := .oth (.ref s1.heap.objs.size)) (by unfold Rep; rfl) (by intro z d q; cases q) fun s3 g3 gd3 => ?_
  have hdead := end_dead s1.heap
  have hL : s1.heap.objs.size ≠ env.locals := fun e => by
    obtain ⟨m, ⟨oL, es', ep', ho, _⟩, _⟩ := gd1.vars
    rw [← e, hdead] at ho; cases ho
  have ht := gd1.wld.ntab hdead
  have hS0 : SetB prog w [] { cls := .type "set", dict := none, data := .set #[] 0 (.fresh 0 0 led) } := setObjOf_fresh led
  obtain ⟨o3, e3, sm⟩ := g3.ext.old s1.heap.objs.size _ (Heap.get?_push_size _ rfl) (fun h => h.elim (fun h => hL h) fun h => by cases h) ht
  have e4 := sm.eq_of_not (set_nd hS0).1
  rw [e4] at e3
  refine ⟨rfl, G1, s1.heap.objs.size, (g1.pur.trans' g2.pur).trans' g3, g1.ext.dead hdead, ?_⟩
  exact gd3.takeOwn hx hl e3 (gd1.wld.fresh hdead) hL ht (set_nd hS0).1 (set_nd hS0).2 hS0
end
end Mine

namespace Mine
open PySem PySem.W PySem.Calls PyProof.Rows

theorem slot_tuga : Slot "tuple" "__getattribute__" "tuple.__getattribute__" :=
  .of (owner := "tuple") (n := "__getattribute__") (by rw [typeLookup_type, builtinLookup_eq_fast]; kernel_rfl) (by decide +kernel) (by decide +kernel) (by decide +kernel)
    (by first | exact .inl (by decide +kernel) | exact .inr (by decide +kernel)) (by rw [isSubtype_type]; kernel_rfl)
theorem entry_tuga : entryFor table "tuple.__getattribute__" = some Builtin.«object.__getattribute__» := entryFor_alias (id' := "object.__getattribute__") (by kernel_rfl) rfl (by decide +kernel) (by kernel_rfl)
theorem args_tuga (a b : Value) : argsOk "tuple.__getattribute__" ⟨[a, b], []⟩ := by unfold argsOk; kernel_rfl

section
variable {prog : Program} {w : World} {n : Nat} {A : Around} {E : Value → Shared → Prop} {s : Shared} {K : Frag} {x C : Addr} {ox : Obj} {od : Option Obj} {name : Str} {expr : Bool} {Q : Value → Shared → Prop}

/-- an attribute of a thing of a subclass of tuple, given by a descriptor of the text -/
theorem tup_bind {g : Addr} {a : Value} (X : K.In s.heap) (I : InstAt s.heap x ox C od) (hga : findIn K (.ref C) "__getattribute__" = some (some (.builtin "tuple.__getattribute__"))) (hm : mroIn K C (.type "tuple") = some true)
    (hf : findObj K C od name = some (.bind (.ref g) a)) (hk : findIn K (.ref C) "__getattr__" = some none) 
    (h : codeAny (model prog w) A.in1 (.call (.ref g) ⟨[a, .ref x, .ref C], []⟩) (fun r s' => match r with | .ok (.ret v) => wpAny (model prog w) A (handedOut v) Q E s' | _ => False) { s with toks := s.toks + 1 }) :
    wpAny (model prog w) A (getAttr (.ref x) name expr) Q E s := by
  obtain ⟨hh, gg, d, t, os⟩ := s
  have L0 := I.type (M := model prog w)
  have L1 := looks_findIn (M := model prog w) X hga
  have L2 := looks_findIn (M := model prog w) X hk
  have L3 := looks_find (M := model prog w) X I hf
  have L4 : Looks (model prog w) hh (isInstance (.ref x) (.type "tuple")) true := L0.andThen (looks_mroIn X hm)
  unfold getAttr getAttrBy
  refine wpAny_bind (wpAny_mkText (wpAny_holding (wpAny_bind (L0.at (wpAny_bind (L1.at ?_))))))
  dsimp only
  rw [show (onTheHeap (.ref C) && Value.builtin "tuple.__getattribute__" == Value.builtin "object.__getattribute__") = false from by rw [show (Value.builtin "tuple.__getattribute__" == Value.builtin "object.__getattribute__") = false from by decide +kernel, Bool.and_false], if_neg (by decide)]
  unfold getAttrByItsOwn
  refine wpAny_bind ?_
  show wpAny _ _ (typeLookup (.ref C) "__getattr__") _ _ _
  refine L2.at ?_
  refine wpAny_bind (wpAny_attempt (wpAny_holding ?_))
  unfold callGetattribute
  rw [show (expr && onTheHeap (Value.builtin "tuple.__getattribute__")) = false from Bool.and_false _, if_neg (by decide)]
  unfold boundAndCalled
  rw [slot_tuga.bind]
  refine wpAny_bind (wpAny_pure ?_)
  show wpAny _ _ (call (.builtin "tuple.__getattribute__") [.ref x, .str name t]) _ _ _
  refine wpAny_call ?_
  refine codeAny_call_builtin slot_tuga.plain entry_tuga ?_
  refine @check_slot (model prog w) _ _ ⟨hh, gg, d, t + 1, os⟩ "tuple.__getattribute__" "tuple" "__getattribute__" (.ref x) [.str name t] [] _ (by decide +kernel) (by decide +kernel) L4 (args_tuga _ _) ?_
  refine wpAny_bind (m := slotArgs _ _ _) (wpAny_pure ?_)
  refine wpAny_bind (wpAny_pure ?_)
  refine wpAny_bind (L0.at (wpAny_bind (L3.at ?_)))
  refine wpAny_bind (wpAny_holding (wpAny_call (codeAny_mono h fun r s' hr => ?_)))
  cases r with
  | ok f => cases f <;> first | exact wpAny_pure hr | exact hr.elim
  | error e => exact hr.elim

theorem cls_method {T : String} {v : Value} {pl : Sem Bool} {Q : Value × List Value → Shared → Prop} (X : K.In s.heap) (ht : typeOf (.type T) = pure (.type "type")) (hs : Manifest.isStub T = false)
    (e : findCls K (.type T) (.type "type") name = some (.val v)) (hh : handedIn v = true) (h : Q (v, []) { s with toks := s.toks + 1 }) : wpAny (model prog w) A (getMethod (.type T) name pl) Q E s := by
  have hstub : opaqueClassAbove (.type T) = pure none := by unfold opaqueClassAbove; dsimp only; rw [hs]; rfl
  have L0 : Looks (model prog w) s.heap (typeOf (.type T)) (.type "type") := Looks.of_pure ht
  have hg : findIn K (.type "type") "__getattribute__" = some (some (.builtin "type.__getattribute__")) := type_tga
  unfold getMethod specialOf
  refine wpAny_bind (wpAny_bind (L0.here ((looks_findIn X hg).here ?_)))
  dsimp only
  rw [if_pos canon_tga]
  refine wpAny_bind (wpAny_mono (Q := fun v => Q (v, [])) (E := E) ?_ (fun _ _ z => wpAny_pure z) fun _ _ z => z)
  exact cls_open X (Looks.of_pure hstub) L0 hg (looks_hook X (r := none) (by rfl)) (by show subIn K _ _ = _; rfl) e
    (wpAny_pure (by show wpAny _ _ (handedOut v) _ _ _; rw [handedOut_of hh]; exact wpAny_pure h))
end

theorem top_heap {w : World} {G : GH} {s : Shared} (W : Wld w G s) : (topK w).In s.heap := by
  obtain ⟨g₀, b, hi⟩ := W.base
  exact fun a o q => W.sub _ _ (hi _ _ (b.K a o q))

section
variable {prog : Program} {w : World} {n : Nat} {env : Env} {O : Option Addr} {Γ Γ' : Lcl}

/-- T.name(..), T a built-in class -/
theorem ev_clsmeth {x name : Str} {T id : String} {np apos pos : Pos} {es : List Expr} {ps : List PV} {r : PV} (hn : EvP prog w n env Γ (.Name x np) (.oth (.type T))) (ht : typeOf (.type T) = pure (.type "type")) (hs : Manifest.isStub T = false)
    (e : findCls (topK w) (.type T) (.type "type") name = some (.val (.builtin id))) (hh : handedIn (.builtin id) = true) (ha : EvArgs prog w n env Γ pos es ps) (hc : CallIs prog w n (.builtin id) ps r)
    (hfew : methodCallForm (es.length + ([] : List Keyword).length) (backTo pos (starEach es env)) (backToKw pos (keywordEach [] env)) = true := by rfl)
    (hline : (apos.endLine == pos.line) = true := by rfl) (hplain : (backTo pos (starEach es env)).any (·.1) = false := by rfl) :
    EvP prog w n env Γ (.Call (.Attribute (.Name x np) name apos) es [] pos) r := fun A O G s rm g => by
  rw [arm_eval_Call, show attributeBase (.Name x np) name env (eval (.Name x np) env) = eval (.Name x np) env from rfl]
  refine wpAny_bind (hn.use rm g fun u G1 s1 g1 gd1 q1 => wpAny_bind (wpAny_standAt ?_))
  unfold Rep at q1
  subst q1
  have hpos : methodCallPos true (.Name x np) env apos pos = pure pos := by unfold methodCallPos; simp [hline]
  unfold methodCall
  rw [hfew]
  refine wpAny_bind (wpAny_holding (cls_method (top_heap gd1.wld) ht hs e hh ?_))
  refine wpAny_bind (wpAny_of_eq hpos ?_)
  have g2 : Grow w Pure No G1 s1 G1 { s1 with toks := s1.toks + 1 } := .toks gd1.wld
  refine callWith_builtin hplain ((ha _).use rm (gd1.pur g2) fun a G3 s3 g3 gd3 q3 => ?_)
  rw [q3.1]
  exact (hc G3 s3 a.pos gd3.wld q3.2).use (gd3.cx rm) fun v G4 s4 g4 q4 => ⟨G4, ((g1.trans' g2).trans' g3).trans' g4, q4⟩

/-- T(..), T a built-in class -/
theorem ev_call_ty {f : Str} {fp pos : Pos} {es : List Expr} {ps : List PV} {T : String} {r : PV} (hf : EvP prog w n env Γ (.Name f fp) (.oth (.type T))) (ha : EvArgs prog w n env Γ pos es ps)
    (hc : CallIs prog w n (.type T) ps r) (hplain : (backTo pos (starEach es env)).any (·.1) = false := by rfl) : EvP prog w n env Γ (.Call (.Name f fp) es [] pos) r := fun A O G s rm g => by
  refine wpAny_Call_ofName (hf.use rm g fun u G1 s1 g1 gd1 q1 => ?_)
  unfold Rep at q1
  subst q1
  refine PyProof.Rows.callWith_type hplain ((ha _).use rm gd1 fun a G2 s2 g2 gd2 q2 => ?_)
  rw [q2.1]
  exact (hc G2 s2 a.pos gd2.wld q2.2).use (gd2.cx rm) fun v G3 s3 g3 q3 => ⟨G3, (g1.trans' g2).trans' g3, q3⟩
end
end Mine

namespace Mine
open PySem PySem.W PySem.Calls PyProof.Rows

noncomputable abbrev emptyD : Obj := { cls := .type "dict", data := .dict #[] }

noncomputable def tokF : Option Builtin.ObjectAttr.Found → Tok
  | some (.value (.int _ t)) => t
  | _ => 0
noncomputable def addrOfV : Value → Addr
  | .ref a => a
  | _ => 0

section
variable {prog : Program} {w : World} {n : Nat} {env : Env} {O : Option Addr} {Γ Γ' : Lcl} {G : GH} {s : Shared} {A : Around}

theorem rep_flg {a b c d : Bool} {v : Value} (h : Rep G (.flg a b c d) v) : ∃ x ep dx, v = .ref x ∧ G x = some { cls := .ref 190, dict := some dx, data := .seq #[.bool a, .bool b, .bool c, .bool d] ep } ∧ G dx = some emptyD := by unfold Rep at h; exact h
theorem inst_flg {x dx : Addr} {a b c d : Bool} {ep : Nat} (W : Wld w G s) (h1 : G x = some { cls := .ref 190, dict := some dx, data := .seq #[.bool a, .bool b, .bool c, .bool d] ep }) (h2 : G dx = some emptyD) :
    InstAt s.heap x { cls := .ref 190, dict := some dx, data := .seq #[.bool a, .bool b, .bool c, .bool d] ep } 190 (some emptyD) := ⟨W.sub _ _ h1, rfl, rfl, W.sub _ _ h2⟩
theorem inst_getter {k dk : Addr} {e1 : Obj} (W : Wld w G s) (h1 : (topK w).lookup k = some { cls := .ref 99, dict := some dk, data := .plain }) (h2 : (topK w).lookup dk = some e1) : InstAt s.heap k { cls := .ref 99, dict := some dk, data := .plain } 99 (some e1) :=
  ⟨W.sub _ _ (top_in W h1), rfl, rfl, W.sub _ _ (top_in W h2)⟩

-- facts
theorem k179 : (topK w).lookup 179 = some { cls := .ref 99, dict := some 178, data := .plain } := by kernel_rfl
theorem k178 : (topK w).lookup 178 = some (objOf w 178) := by kernel_rfl
theorem k182 : (topK w).lookup 182 = some { cls := .ref 99, dict := some 181, data := .plain } := by kernel_rfl
theorem k181 : (topK w).lookup 181 = some (objOf w 181) := by kernel_rfl
theorem k_ga : findIn (topK w) (.ref 99) "__getattribute__" = some (some (.builtin "object.__getattribute__")) := by kernel_rfl
theorem k_idx1 : findObj (topK w) 99 (some (objOf w 178)) "index" = some (.value (.int 1 (tokF (findObj (topK w) 99 (some (objOf w 178)) "index")))) := by kernel_rfl
theorem k_idx2 : findObj (topK w) 99 (some (objOf w 181)) "index" = some (.value (.int 2 (tokF (findObj (topK w) 99 (some (objOf w 181)) "index")))) := by kernel_rfl
theorem k_tuga : findIn (topK w) (.ref 190) "__getattribute__" = some (some (.builtin "tuple.__getattribute__")) := by kernel_rfl
theorem k_mro : mroIn (topK w) 190 (.type "tuple") = some true := by kernel_rfl
theorem k_hook : findIn (topK w) (.ref 190) "__getattr__" = some none := by kernel_rfl
theorem k_tr : findObj (topK w) 190 (some emptyD) "is_trailer" = some (.bind (.ref 82) (.ref 179)) := by kernel_rfl
theorem k_rs : findObj (topK w) 190 (some emptyD) "is_response_header" = some (.bind (.ref 82) (.ref 182)) := by kernel_rfl

/-- o.name of a thing whose dict holds it -/
theorem ev_inst {x : Str} {k dk : Addr} {e1 : Obj} {name : Str} {v : Value} {p : PV} {np pos : Pos} (hn : EvP prog w n env Γ (.Name x np) (.oth (.ref k))) (h1 : (topK w).lookup k = some { cls := .ref 99, dict := some dk, data := .plain }) (h2 : (topK w).lookup dk = some e1)
    (hf : findObj (topK w) 99 (some e1) name = some (.value v)) (hh : handedIn v = true) (hr : ∀ G, Rep G p v) : EvP prog w n env Γ (.Attribute (.Name x np) name pos) p := fun A O G s rm g => by
  refine Attribute_name (hn.use rm g fun u G1 s1 g1 gd1 q1 => ?_)
  unfold Rep at q1
  subst q1
  exact get_value (top_heap gd1.wld) (inst_getter gd1.wld h1 h2) k_ga hf hh ⟨G1, g1.trans' (.toks gd1.wld), hr _⟩

theorem call_type_flg {a b c d : Bool} : CallIs prog w n (.type "type") [.flg a b c d] (.oth (.ref 190)) := fun G s vs W r A cx => by
  obtain ⟨v, rfl, q⟩ := repl1 r
  obtain ⟨x, ep, dx, rfl, h1, h2⟩ := rep_flg q
  exact kto_own (inst_flg W h1 h2) ⟨G, .refl W, by unfold Rep; rfl⟩

theorem issub_nested {M : Model} {E : Value → Shared → Prop} {K : Frag} {C : Addr} {c1 : Value} {d1 : Option Addr} {cd : ClassData} {sl : Array (Option Value)} {T : String} {Q : Fin → Shared → Prop} (X : K.In s.heap) (hc : K.lookup C = some ⟨c1, d1, .cls cd, sl⟩) (ht : typeOf (.type T) = pure (.type "type"))
    (e : subIn K (.ref C) (.type T) = some true) (h : Q (.done (.ret (.bool true))) s) : wpAny M A (Builtin.«issubclass.nested» ⟨[.ref C, .type T, rawInt 0], []⟩) Q E s := by
  obtain ⟨hh, g, d, tt, os⟩ := s
  have L3 := looks_subIn (M := M) X e
  unfold Builtin.«issubclass.nested»
  refine wpAny_bind (wpAny_of_eq ht ?_)
  rw [if_pos (by decide)]
  k_delta "plainIsSubclass"
  unfold isType
  repeat lk
  refine nd_load (X _ _ hc) ?_
  dsimp only
  repeat lk
  exact h
noncomputable def cls190 (w : World) : ClassData := match (objOf w 190).data with | .cls c => c | _ => default
theorem k190 : (topK w).lookup 190 = some ⟨(objOf w 190).cls, (objOf w 190).dict, .cls (cls190 w), (objOf w 190).slots⟩ := by kernel_rfl
theorem k_sub : subIn (topK w) (.ref 190) (.type "tuple") = some true := by kernel_rfl
theorem ty_tuple : typeOf (.type "tuple") = pure (.type "type") := by kernel_rfl
theorem call_issub : CallIs prog w n (.builtin "issubclass") [.oth (.ref 190), .oth (.type "tuple")] (.bool true) := fun G s vs W r A cx => by
  obtain ⟨v, u, rfl, q, q2⟩ := repl2 r
  unfold Rep at q q2
  subst q; subst q2
  refine call_issubclass (S := fun _ R s => (topK w).In s.heap ∧ R (.ok (.ret (.bool true))) s) (fun prog' w' A R s hs => issubclass_outer (issub_nested hs.1 k190 ty_tuple k_sub hs.2)) ⟨top_heap W, G, .refl W, mk_bool⟩

theorem call_tupget {a b c d : Bool} {i : Int} {k : Nat} {y : Bool} (hk : seqIndex? i 4 = some k) (hy : ([a, b, c, d] : List Bool)[k]? = some y) (hlo : -2 ^ 63 ≤ i) (hhi : i < 2 ^ 63) : CallIs prog w n (.builtin "tuple.__getitem__") [.flg a b c d, .int i] (.bool y) := fun G s vs W r A cx => by
  obtain ⟨v, u, rfl, q, q2⟩ := repl2 r
  obtain ⟨x, ep, dx, rfl, h1, h2⟩ := rep_flg q
  obtain ⟨t, rfl⟩ := rep_int q2
  have I := inst_flg W h1 h2
  have X := top_heap W
  obtain ⟨hp, g, dr, tk, os⟩ := s
  have L4 : Looks (model prog w) hp (isInstance (.ref x) (.type "tuple")) true := I.type.andThen (looks_mroIn X k_mro)
  have hl := I.at_
  have hy' : (#[Value.bool a, Value.bool b, Value.bool c, Value.bool d])[k]? = some (.bool y) := by
    have : ([a, b, c, d].map Value.bool)[k]? = some (.bool y) := by rw [List.getElem?_map, hy]; rfl
    simpa using this
  refine wpAny_call (codeAny_call_builtin F.slot_tuple_getitem.plain F.entry_tuple_getitem ?_)
  refine @check_slot (model prog w) _ _ ⟨hp, g, dr, tk, os⟩ "tuple.__getitem__" "tuple" "__getitem__" (.ref x) [.int i t] [] _ (by decide +kernel) (by decide +kernel) L4 (F.args_tuple_getitem_2 _ _) ?_
  have f1 := AutoSeq1.idx_int
  have hf : ¬ (decide (i < -2 ^ 63) || decide (i ≥ 2 ^ 63)) = true := by simp; omega
  have hsz : (#[Value.bool a, Value.bool b, Value.bool c, Value.bool d]).size = 4 := rfl
  dsimp only at hl
  wp_walk using AutoSeq1.wpAny_loadPart' hl
  have key : ((seqIndex? i (#[Value.bool a, Value.bool b, Value.bool c, Value.bool d]).size).bind fun x => (#[Value.bool a, Value.bool b, Value.bool c, Value.bool d])[x]?) = some (.bool y) := by
    rw [hsz, hk]; exact hy'
  rw [if_neg hf]
  dsimp only
  rw [key]
  exact wpAny_pure ⟨G, .refl W, mk_bool⟩

theorem get_fn {a b c d y : Bool} {k dk : Addr} {i : Int} {j : Nat} {e1 : Obj} (h1 : (topK w).lookup k = some { cls := .ref 99, dict := some dk, data := .plain }) (h2 : (topK w).lookup dk = some e1) (hf : ∃ t, findObj (topK w) 99 (some e1) "index" = some (.value (.int i t)))
    (hk : seqIndex? i 4 = some j) (hy : ([a, b, c, d] : List Bool)[j]? = some y) (hlo : -2 ^ 63 ≤ i) (hhi : i < 2 ^ 63) : Fn prog w n 82 [.oth (.ref k), .flg a b c d, .oth (.ref 190)] (.ret (.bool y)) := by
  obtain ⟨t, hf⟩ := hf
  refine fn_of (names := ["self", "obj", "objtype"]) (by kernel_rfl) (by kernel_rfl) (by kernel_rfl) (by kernel_rfl) (by kernel_rfl) rfl (fun vs s hv X => ?_) fun env ok => ?_
  · obtain ⟨a, b, c, rfl⟩ := vs3 hv
    exact binds_K (n := epS w (addrOfV (fdOf w 82).defaults)) (items := itemsOf w (addrOfV (fdOf w 82).defaults)) X (T := addrOfV (fdOf w 82).defaults) (o := objOf w (addrOfV (fdOf w 82).defaults)) (k := _) (by kernel_rfl) (by kernel_rfl) (by kernel_rfl) rfl (by kernel_rfl)
  conv in bodyOf w 82 => whnf
  have ko := ok.k "obj" .local (by kernel_rfl)
  have k1 := ok.k "issubclass" .globalImplicit (by kernel_rfl)
  have k2 := ok.k "type" .globalImplicit (by kernel_rfl)
  have k3 := ok.k "tuple" .globalImplicit (by kernel_rfl)
  have hobj : (⟨(["self", "obj", "objtype"] : List Str).zip [PV.oth (.ref k), .flg a b c d, .oth (.ref 190)], none⟩ : Lcl).vars.lookup ("obj" : Str) = some (.flg a b c d) := by rfl
  have hself : (⟨(["self", "obj", "objtype"] : List Str).zip [PV.oth (.ref k), .flg a b c d, .oth (.ref 190)], none⟩ : Lcl).vars.lookup ("self" : Str) = some (.oth (.ref k)) := by rfl
  refine exp_cons (exp_iff (evt_cmp (ev_name hobj) ev_none (cmp_is_none (p := .flg a b c d) ⟨by simp, by simp⟩)) rfl exp_nil) ?_
  refine exp_cons (exp_iff (evt_not (evt_value (p := .bool true) (ev_call_bi (ev_builtin k1 (by kernel_rfl) (by kernel_rfl) (by decide +kernel) (by decide +kernel)) (args_cons (evl_cons (ev_call_ty (T := "type") (ev_builtin k2 (by kernel_rfl) (by kernel_rfl) (by decide +kernel) (by decide +kernel)) (args_cons (evl_cons (ev_name hobj) evl_nil)) call_type_flg)
    (evl_cons (ev_builtin k3 (v := .type "tuple") (by kernel_rfl) (by kernel_rfl) (by decide +kernel) (by decide +kernel)) evl_nil))) call_issub) tr_bool)) rfl exp_nil) ?_
  refine exp_cons1 (exp_return (ev_clsmeth (T := "tuple") (id := "tuple.__getitem__") (ev_builtin k3 (by kernel_rfl) (by kernel_rfl) (by decide +kernel) (by decide +kernel)) ty_tuple (by kernel_rfl) (by kernel_rfl) (by kernel_rfl)
    (args_cons (evl_cons (ev_name hobj) (evl_cons (ev_inst (p := .int i) (ev_name hself) h1 h2 hf rfl (fun G => mk_int)) evl_nil))) (call_tupget hk hy hlo hhi)))
end
end Mine

namespace Mine
open PySem PySem.W PySem.Calls PyProof.Rows

section
variable {prog : Program} {w : World} {n : Nat} {env : Env} {O : Option Addr} {Γ Γ' : Lcl} {G : GH} {s : Shared} {A : Around}

theorem ev_flag {x : Str} {k : Addr} {a b c d y : Bool} {name : Str} {np pos : Pos} (hn : EvP prog w (n+2) env Γ (.Name x np) (.flg a b c d)) (hf : findObj (topK w) 190 (some emptyD) name = some (.bind (.ref 82) (.ref k)))
    (hc : Fn prog w n 82 [.oth (.ref k), .flg a b c d, .oth (.ref 190)] (.ret (.bool y))) : EvP prog w (n+2) env Γ (.Attribute (.Name x np) name pos) (.bool y) := fun A O G s rm g => by
  refine Attribute_name (hn.use rm g fun u G1 s1 g1 gd1 q1 => ?_)
  obtain ⟨xa, ep, dx, rfl, h1, h2⟩ := rep_flg q1
  refine tup_bind (top_heap gd1.wld) (inst_flg gd1.wld h1 h2) k_tuga k_mro hf k_hook ?_
  have g2 : Grow w Pure No G1 s1 G1 { s1 with toks := s1.toks + 1 } := .toks gd1.wld
  have gd2 := gd1.pur g2
  have cx : Cx (n+1) A.in1 G1 { s1 with toks := s1.toks + 1 } := ⟨rm.in1, gd2.frames⟩
  refine codeAny_mono (hc A.in1 G1 _ [.ref k, .ref xa, .ref 190] gd2.wld (.cons (by unfold Rep; rfl) (.cons q1 (.cons (by unfold Rep; rfl) .nil))) cx) fun r s' ⟨G3, g3, v, e, rp⟩ => ?_
  subst e
  rw [rep_bool rp]
  show wpAny _ _ (handedOut (.bool y)) _ _ _
  rw [handedOut_of rfl]
  exact wpAny_pure ⟨G3, (g1.trans' g2).trans' g3, mk_bool⟩

theorem ev_trailer {x : Str} {a b c d : Bool} {np pos : Pos} (hn : EvP prog w (n+2) env Γ (.Name x np) (.flg a b c d)) : EvP prog w (n+2) env Γ (.Attribute (.Name x np) "is_trailer" pos) (.bool b) :=
  ev_flag hn k_tr (get_fn (j := 1) k179 k178 ⟨_, k_idx1⟩ rfl rfl (by decide) (by decide))
theorem ev_response {x : Str} {a b c d : Bool} {np pos : Pos} (hn : EvP prog w (n+2) env Γ (.Name x np) (.flg a b c d)) : EvP prog w (n+2) env Γ (.Attribute (.Name x np) "is_response_header" pos) (.bool c) :=
  ev_flag hn k_rs (get_fn (j := 2) k182 k181 ⟨_, k_idx2⟩ rfl rfl (by decide) (by decide))
end
end Mine

namespace Mine
open PySem PySem.W PySem.Calls PyProof.Rows

section
variable {prog : Program} {w : World} {n : Nat} {env : Env} {O : Option Addr} {Γ Γ' : Lcl} {G : GH} {s : Shared} {A : Around}

theorem looks_peek {α : Type} {t : Sem α} {r : α} {h : Heap} (X : (topK w).In h) (e : peek (topK w) ⟨prog, w.params⟩ t = some r) : Looks (model prog w) h t r := fun A Q E s k q => fun Γ p hΓ =>
  wp_of_peek (M := model prog w) (X.keeps k) q _ e

theorem pk_call : peek (topK w) ⟨prog, w.params⟩ (specialOf (.ref 190) "__call__") = some (some (.builtin "type.__call__")) := by kernel_rfl
theorem pk_made : peek (topK w) ⟨prog, w.params⟩ (Bind.madeBy (.ref 190)) = some none := by kernel_rfl
theorem pk_mro : peek (topK w) ⟨prog, w.params⟩ (mroOf (.ref 190)) = some [.ref 190, .type "tuple", .type "object"] := by kernel_rfl
theorem k_new : findCls (topK w) (.ref 190) (.type "type") "__new__" = some (.get (.builtin "staticmethod.__get__") (.ref 191) .none (.ref 190)) := by kernel_rfl
theorem k_reads : readsIn (topK w) 190 (.type "type") = true := by kernel_rfl
theorem k_sm : recIn (topK w) 191 "staticmethod" = some [.ref 134] := by kernel_rfl
theorem pk_self : peek (topK w) ⟨prog, w.params⟩ (isSubtype (.ref 190) (.ref 190)) = some true := by kernel_rfl
theorem pk_init : peek (topK w) ⟨prog, w.params⟩ (typeLookup (.ref 190) "__init__") = some (some (.builtin "object.__init__")) := by kernel_rfl
theorem pk_here : peek (topK w) ⟨prog, w.params⟩ (Bind.madeHere "tuple.__new__" (.ref 190)) = some () := by kernel_rfl
theorem pk_check {v : Value} : peek (topK w) ⟨prog, w.params⟩ (checkBuiltinCall "tuple.__new__" ⟨[.ref 190, v], []⟩) = some () := by kernel_rfl
theorem pk_sub2 : peek (topK w) ⟨prog, w.params⟩ (isSubtype (.ref 190) (.type "tuple")) = some true := by kernel_rfl
theorem pk_ist : peek (topK w) ⟨prog, w.params⟩ (isType (.ref 190)) = some true := by kernel_rfl
theorem k_noDel : (cls190 w).hasDel = false := by kernel_rfl

theorem call_tupnew {a b c d : Bool} : CallIs prog w n (.builtin "tuple.__new__") [.oth (.ref 190), .tup [.bool a, .bool b, .bool c, .bool d]] (.flg a b c d) := fun G s vs W r A cx => by
  obtain ⟨v, u, rfl, q, q2⟩ := repl2 r
  unfold Rep at q
  subst q
  obtain ⟨l, xs, ep, rfl, hG, rl⟩ := rep_tup q2
  have hxs : xs = #[.bool a, .bool b, .bool c, .bool d] := by
    obtain ⟨xs⟩ := xs
    simp only at rl
    unfold RepL at rl
    obtain ⟨v1, r1, rfl, q1, rl⟩ := rl
    obtain ⟨v2, v3, v4, rfl, q2, q3, q4⟩ := repl3 rl
    rw [rep_bool q1, rep_bool q2, rep_bool q3, rep_bool q4]
  subst hxs
  have X := top_heap W
  have ho := W.sub _ _ hG
  have hC := X _ _ (k190 (w := w))
  have Lc := looks_peek (prog := prog) X (pk_check (v := .ref l))
  have L1 := looks_peek (prog := prog) X pk_ist
  have L2 := looks_peek (prog := prog) X pk_sub2
  have L3 := looks_peek (prog := prog) X pk_here
  have L4 := looks_peek (prog := prog) X pk_init
  refine wpAny_call (codeAny_call_builtin F.plain_tuple_new F.entry_tuple_new ?_)
  obtain ⟨hp, g, dr, tk, os⟩ := s
  refine Lc.at ?_
  unfold Builtin.«tuple.__new__»
  dsimp only at *
  have hz : (#[Value.bool a, Value.bool b, Value.bool c, Value.bool d]).size ≤ sizeLine := by simp [sizeLine]
  refine wpAny_bind (L1.at ?_)
  refine wpAny_bind (L2.at ?_)
  refine wpAny_bind (L3.at ?_)
  refine wpAny_bind (L4.at ?_)
  refine wpAny_bind (m := noKeywords _ _) (wpAny_pure ?_)
  refine wpAny_bind (m := checkCount _ _ _ _) (wpAny_pure ?_)
  rw [if_neg (by decide +kernel)]
  refine wpAny_bind (wpAny_collect_seq l (.inr rfl) ho rfl rfl (fun h' k' => ?_) hz)
  refine wpAny_bind (wpAny_pure ?_)
  refine wpAny_bind (wpAny_alloc (wpAny_bind ?_))
  show wpAny _ _ (newObjAsIs _ _ _) _ _ _
  unfold newObjAsIs classHasDel
  refine wpAny_bind (wpAny_alloc (wpAny_bind (wpAny_bind (wpAny_load (Heap.get?_push_of_some _ (Heap.get?_push_of_some _ (k' _ _ hC))) (wpAny_pure ?_)))))
  dsimp only
  rw [k_noDel]
  refine wpAny_pure (wpAny_pure ?_)
  have W' : Wld w G { heap := hp, gens := g, drawn := dr, toks := tk, os := os } := W
  have g1 : Grow w Pure No G { heap := hp, gens := g, drawn := dr, toks := tk, os := os } G { heap := h', gens := g, drawn := dr, toks := tk, os := os } := Grow.keeps (tk := tk) (dr := dr) W k'
  have g2 := Grow.push (F := Pure) (K := No) (tk := tk) g1.wld (o := emptyD) rfl
  have g3 := Grow.push (F := Pure) (K := No) (tk := tk) g2.wld (o := { cls := .ref 190, dict := some h'.objs.size, data := .seq #[.bool a, .bool b, .bool c, .bool d] }) rfl
  refine ⟨_, (g1.trans' g2).trans' g3, ?_⟩
  unfold Rep
  exact ⟨_, 0, _, rfl, GH.add_self, g3.sub _ _ GH.add_self⟩
end
end Mine

namespace Mine
open PySem PySem.W PySem.Calls PyProof.Rows

section
variable {prog : Program} {w : World} {n : Nat} {env : Env} {O : Option Addr} {Γ Γ' Γ₁ : Lcl} {G : GH} {s : Shared} {A : Around} {o : Out}

/-- target = a value that stands for p -/
noncomputable def Asg (prog : Program) (w : World) (n : Nat) (env : Env) (Γ : Lcl) (target : Expr) (p : PV) (Γ' : Lcl) : Prop :=
  ∀ A O G s v, Rm n A → Good w A env O Γ G s → Rep G p v → wpAny (model prog w) A (assign target env v) (fun _ s' => Grow w (Wr env O) No G s G s' ∧ Good w A env O Γ' G s') (fun _ _ => False) s

theorem asg_name {y : Str} {pos : Pos} {p : PV} (hl : env.kindOf y = some .local) (hown : ∀ z d, Γ.own = some (z, d) → z ≠ y) : Asg prog w n env Γ (.Name y pos) p (Γ.set y p) := fun A O G s v rm gd r =>
  wpAny_assign_good gd hl r hown fun s' g gd' => ⟨g, gd'⟩
theorem grow_extBut {F K} (W : Wld w G s) {h' : Heap} (hs : Heap.ExtBut s.heap.objs.size s.heap h') : Grow w F K G s G { s with heap := h' } :=
  Grow.keeps (dr := s.drawn) (tk := s.toks) W fun b o e => hs b o (Nat.ne_of_lt (Heap.lt_size e)) e
theorem asg_pair {x y : Str} {p1 p2 pos : Pos} {k : Nat} {p q : PV} (hx : env.kindOf x = some .local) (hy : env.kindOf y = some .local) (hown : ∀ z d, Γ.own = some (z, d) → z ≠ x ∧ z ≠ y) :
    Asg prog w n env Γ (.Tuple [.Name x p1, .Name y p2] k pos) (.tup [p, q]) ((Γ.set x p).set y q) := fun A O G s v rm gd r => by
  obtain ⟨a, vs, ep, rfl, hG, rl⟩ := rep_tup r
  obtain ⟨u1, u2, e, r1, r2⟩ := repl2 rl
  have hsz : vs.size = 2 := by have := congrArg List.length e; simpa using this
  refine wpAny_assign_Tuple rm.handled ⟨_, gd.wld.sub _ _ hG, rfl, ep, rfl⟩ (by rw [hsz]; rfl) rfl fun h' he => ?_
  rw [e]
  have g1 : Grow w Pure No G s G { s with heap := h' } := grow_extBut gd.wld he
  refine assignInOrder_cons (wpAny_assign_good (gd.pur g1) hx r1 (fun z d h => (hown z d h).1) fun s2 g2 gd2 => ?_)
  refine assignInOrder_cons (wpAny_assign_good gd2 hy r2 (fun z d h => (hown z d h).2) fun s3 g3 gd3 => ?_)
  exact assignInOrder_nil ⟨(g1.pur.trans' g2).trans' g3, gd3⟩

/-- the turns of a loop that hands out nothing -/
inductive LoopE (prog : Program) (w : World) (n : Nat) (env : Env) (O : Option Addr) (target : Expr) (body : List Stmt) : Lcl → List PV → Out → Prop
  | done (Γ₀ : Lcl) : LoopE prog w n env O target body Γ₀ [] (.next Γ₀)
  | next {Γ Γ₁ Γ' h ins o} : Asg prog w n env Γ target h Γ₁ → ExP prog w n env O Γ₁ (execs body env) (.next Γ') → LoopE prog w n env O target body Γ' ins o → LoopE prog w n env O target body Γ (h :: ins) o
  | cont {Γ Γ₁ Γ' h ins o} : Asg prog w n env Γ target h Γ₁ → ExP prog w n env O Γ₁ (execs body env) (.cont Γ') → LoopE prog w n env O target body Γ' ins o → LoopE prog w n env O target body Γ (h :: ins) o
  | stop {Γ Γ₁ h ins p} : Asg prog w n env Γ target h Γ₁ → ExP prog w n env O Γ₁ (execs body env) (.ret p) → LoopE prog w n env O target body Γ (h :: ins) (.ret p)

/-- an iterator at work; beside it only F changes -/
structure Iter (prog : Program) (w : World) (n : Nat) (F : Addr → Prop) (it : Value) (ins : List PV) (G₀ : GH) (s₀ : Shared) (fr : Addr → Prop) (gr : Nat → Prop) (G : GH) (s : Shared) : Prop where
  grow : Grow w (fun a => F a ∨ fr a) gr G₀ s₀ G s
  fd : ∀ a, fr a → s₀.heap.get? a = none
  gd : ∀ k, gr k → s₀.gens.size ≤ k
  th : There fr gr s
  ap : ∀ a, fr a → ¬ F a
  fl : ∀ a, F a → ∃ o, s.heap.get? a = some o
  em : Em prog w n it ins .done fr gr G s

/-- what happens beside it -/
theorem Iter.step {F it ins G₀ s₀ fr gr G' s'} (x : Iter prog w n F it ins G₀ s₀ fr gr G s) (g : Grow w F No G s G' s') : Iter prog w n F it ins G₀ s₀ fr gr G' s' where
  grow := x.grow.trans' (g.mono (fun _ h => .inl h) fun _ h => h.elim)
  fd := x.fd
  gd := x.gd
  th := x.th.grow g
  ap := x.ap
  fl := fun a h => let ⟨o, e⟩ := x.fl a h; g.ext.live a o e
  em := x.em.later (g.mono (fun a h q => x.ap a q h) fun _ h => h.elim)
theorem Iter.widen {F F' : Addr → Prop} {it ins G₀ s₀ fr gr} (x : Iter prog w n F it ins G₀ s₀ fr gr G s) (h : ∀ a, F a → F' a) (ap : ∀ a, F' a → ¬ fr a) (fl : ∀ a, F' a → ∃ o, s.heap.get? a = some o) : Iter prog w n F' it ins G₀ s₀ fr gr G s where
  grow := x.grow.mono (fun a q => q.imp_left (h a)) fun _ h => h
  fd := x.fd
  gd := x.gd
  th := x.th
  ap := fun a q r => ap a r q
  fl := fl
  em := x.em
theorem Iter.done {F it ins G₀ s₀ fr gr} (x : Iter prog w n F it ins G₀ s₀ fr gr G s) : Grow w F No G₀ s₀ G s :=
  x.grow.shrink (fun a h => h.elim .inl fun h => .inr (x.fd a h)) fun k h => .inr (x.gd k h)

theorem evIt_iter {F : Addr → Prop} {ins it fr gr G'' s''} (g : Grow w Pure No G s G'' s'') (h1 : ∀ a, fr a → s.heap.get? a = none) (h2 : ∀ k, gr k → s.gens.size ≤ k) (th : There fr gr s'') (em : Em prog w n it ins .done fr gr G'' s'')
    (hF : ∀ a, F a → ∃ o, s.heap.get? a = some o) : Iter prog w n F it ins G s fr gr G'' s'' :=
  ⟨g.pur, h1, h2, th, fun a q r => (by obtain ⟨o, e⟩ := hF a r; rw [h1 a q] at e; cases e), fun a r => (let ⟨o, e⟩ := hF a r; g.ext.live a o e), em⟩

/-- it is asked -/
theorem Iter.next {F it ins G₀ s₀ fr gr} (x : Iter prog w n F it ins G₀ s₀ fr gr G s) (cx : Cx n A G s) {Q : Option Value → Shared → Prop} {E : Value → Shared → Prop}
    (hn : ins = [] → ∀ G' s', Grow w fr gr G s G' s' → Grow w F No G₀ s₀ G' s' → Q none s')
    (hc : ∀ h t, ins = h :: t → ∀ v G' s' fr' gr', Grow w fr gr G s G' s' → Rep G' h v → LetGo prog w it v s' → Iter prog w n F it t G₀ s₀ fr' gr' G' s' → Q (some v) s') : wpAny (model prog w) A (pyNext it) Q E s := by
  cases ins with
  | nil =>
    refine wpAny_mono (x.em A G s (.refl x.grow.wld) cx) (fun r s' ⟨e, _, G', g⟩ => ?_) fun x s' h => absurd h.1 (by simp)
    subst e
    exact hn rfl G' s' g ((x.grow.trans' (g.mono (fun _ h => .inr h) fun _ h => h)).shrink (fun a h => h.elim .inl fun h => .inr (x.fd a h)) fun k h => .inr (x.gd k h))
  | cons h t =>
    refine wpAny_mono (x.em A G s (.refl x.grow.wld) cx) (fun r s' q => ?_) fun x s' h => h.elim
    obtain ⟨v, G', fr', gr', e, rp, g, f1, f2, f3, f4, th, lg, em⟩ := q
    subst e
    refine hc h t rfl v G' s' fr' gr' g rp lg ⟨?_, fun a h => ?_, fun k h => ?_, th, fun a q r => ?_, fun a r => ?_, em⟩
    · exact (x.grow.mono (fun a h => h.imp_right (f1 a)) f2).trans' (g.mono (fun a h => .inr (f1 a h)) f2)
    · rcases f3 a h with h | h
      · exact x.fd a h
      · exact x.grow.ext.dead h
    · rcases f4 k h with h | h
      · exact x.gd k h
      · exact Nat.le_trans x.grow.ext.gsize h
    · rcases f3 a q with h | h
      · exact x.ap a h r
      · obtain ⟨o, e⟩ := x.fl a r; rw [h] at e; cases e
    · obtain ⟨o, e⟩ := x.fl a r; exact g.ext.live a o e

theorem good_fr {fr : Addr → Prop} {G' s'} {gr : Nat → Prop} (gd : Good w A env O Γ G s) (hfr : ∀ a, fr a → ¬ Wr env O a) (g : Grow w fr gr G s G' s') : Good w A env O Γ G' s' :=
  gd.grow g (fun h => hfr _ h (.inl rfl)) fun a ha h => hfr _ h (.inr ha)

theorem wr_live (gd : Good w A env O Γ G s) : ∀ a, Wr env O a → ∃ o, s.heap.get? a = some o := fun a h => by
  rcases h with h | h
  · obtain ⟨m, ⟨o, es, ep, ho, _⟩, _⟩ := gd.vars
    exact ⟨o, h ▸ ho⟩
  · obtain ⟨_, _, _, o, ho, _⟩ := gd.oown a h
    exact ⟨o, ho⟩

theorem code_loop {target : Expr} {it : Value} {body : List Stmt} {G₀ : GH} {s₀ : Shared} {l : List Env} {R : Result → Shared → Prop} (rm : Rm n A) (hfr : A.frames = some (env :: l)) (hself : env.frame = some env.locals) (gd₀ : Good w A env O Γ₁ G₀ s₀)
    (hR : ∀ fl G' s', Grow w (Wr env O) No G₀ s₀ G' s' → OutOk w A env O o fl G' s' → R (.ok fl) s') {ins : List PV} {fr gr} (L : LoopE prog w n env O target body Γ ins o) (x : Iter prog w n (Wr env O) it ins G₀ s₀ fr gr G s) (gd : Good w A env O Γ G s) :
    codeAny (model prog w) A (.forLoop target it body [] env) R s := by
  refine codeAny_forLoop_any (fun k s => ∃ Γ ins fr gr G, ins.length = k ∧ LoopE prog w n env O target body Γ ins o ∧ Iter prog w n (Wr env O) it ins G₀ s₀ fr gr G s ∧ Good w A env O Γ G s) ?_ ins.length ⟨Γ, ins, fr, gr, G, rfl, L, x, gd⟩
  rintro k s ⟨Γ, ins, fr, gr, G, hk, L, x, gd⟩
  refine x.next ⟨rm, gd.frames⟩ (fun e G' s' g gr' => ?_) fun h t e v G1 s1 fr1 gr1 g1 rp lg x1 => ?_
  · subst e
    cases L
    exact wpAny_execs_nil (hR _ G' s' gr' ⟨rfl, good_fr gd x.ap g⟩)
  · subst e
    have gd1 := good_fr gd x.ap g1
    refine lg _ _ _ _ ?_
    have hlen : t.length < k := by rw [← hk]; simp
    cases L with
    | next ha hb L' =>
      refine wpAny_mono (ha A O G1 s1 v rm gd1 rp) (fun _ s2 ⟨g2, gd2⟩ => ?_) fun _ _ h => h.elim
      have x2 := x1.step g2
      refine wpAny_mono (hb A l G1 s2 rm hfr hself gd2) (fun fl s3 ⟨G3, g3, q⟩ => ?_) fun _ _ ⟨q, _⟩ => by cases q
      obtain ⟨rfl, gd3⟩ := q
      exact ⟨t.length, hlen, _, t, _, _, G3, rfl, L', x2.step g3, gd3⟩
    | cont ha hb L' =>
      refine wpAny_mono (ha A O G1 s1 v rm gd1 rp) (fun _ s2 ⟨g2, gd2⟩ => ?_) fun _ _ h => h.elim
      have x2 := x1.step g2
      refine wpAny_mono (hb A l G1 s2 rm hfr hself gd2) (fun fl s3 ⟨G3, g3, q⟩ => ?_) fun _ _ ⟨q, _⟩ => by cases q
      obtain ⟨rfl, gd3⟩ := q
      exact ⟨t.length, hlen, _, t, _, _, G3, rfl, L', x2.step g3, gd3⟩
    | stop ha hb =>
      refine wpAny_mono (ha A O G1 s1 v rm gd1 rp) (fun _ s2 ⟨g2, gd2⟩ => ?_) fun _ _ h => h.elim
      have x2 := x1.step g2
      refine wpAny_mono (hb A l G1 s2 rm hfr hself gd2) (fun fl s3 ⟨G3, g3, q⟩ => ?_) fun _ _ ⟨q, _⟩ => by cases q
      obtain ⟨v', rfl, rp', gd3⟩ := q
      exact hR _ G3 s3 (x2.step g3).done ⟨v', rfl, rp', gd3⟩

theorem exp_for {target iter : Expr} {body : List Stmt} {pos : Pos} {ins : List PV} (hit : EvIt prog w n env Γ iter ins .done) (L : LoopE prog w n env O target body Γ ins o) :
    ExP prog w n env O Γ (exec (.For target iter body [] pos) env) o := by
  intro A l G s rm hfr hself gd
  rw [exec_For]
  refine wpAny_bind (wpAny_standAt (wpAny_bind (wpAny_mono (hit A O G s rm gd) (fun v s1 h1 => ?_) fun _ _ h => h.elim)))
  refine wpAny_bind (wpAny_of_eq h1.1 (wpAny_bind (wpAny_standAt (wpAny_bind (wpAny_holding (wpAny_mono h1.2 (fun it s2 h2 => ?_) fun _ _ h => h.elim))))))
  obtain ⟨G2, fr, gr, g, d1, d2, th, em⟩ := h2
  refine wpAny_runOwn (code_loop rm hfr hself gd (fun fl G' s' g' q => ?_) L (evIt_iter g d1 d2 th em (wr_live gd)) (gd.pur g))
  exact ⟨G', g', q⟩
end
end Mine

namespace Mine
open PySem PySem.W PySem.Calls PyProof.Rows

section
variable {prog : Program} {w : World} {n : Nat} {env cenv : Env} {O : Option Addr} {Γ Γ' Γ₁ : Lcl} {G G₀ : GH} {s s₀ : Shared} {A : Around} {o : Out}

theorem codeAny_compLoop_any {R : Result → Shared → Prop} {elt target iter : Expr} {ifs : List Expr} {scope : Scope} {pos : Pos} {it acc : Value} {env : Env} (I : Nat → Shared → Prop)
    (turn : ∀ n s, I n s → wpAny (model prog w) A (pyNext it) (fun r s₁ => match r with
      | none => R (.ok .next) s₁
      | some v => wpAny (model prog w) A (letOwnedTupleGo target it v) (fun _ s₁' => wpAny (model prog w) A (assign target env v) (fun _ s₂ =>
          wpAny (model prog w) A (forIn ifs true fun c r => if r = true then do let ok ← isTrue c env (eval c env); pure (ForInStep.yield ok) else pure (ForInStep.yield r)) (fun ok s₃ =>
            if ok = true then wpAny (model prog w) A (eval elt env) (fun x s₄ =>
              wpAny (model prog w) A (call (.builtin "list.append") [acc, x]) (fun _ s₅ => ∃ m, m < n ∧ I m s₅) (notedBy (model prog w) A env fun e s' => R (.error e) s') s₄) (notedBy (model prog w) A env fun e s' => R (.error e) s') s₃
            else ∃ m, m < n ∧ I m s₃) (notedBy (model prog w) A env fun e s' => R (.error e) s') s₂) (notedBy (model prog w) A env fun e s' => R (.error e) s') s₁') (notedBy (model prog w) A env fun e s' => R (.error e) s') s₁) (notedBy (model prog w) A env fun e s' => R (.error e) s') s)
    (n : Nat) (h : I n s) :
    codeAny (model prog w) A (.compLoop (.ListComp elt [⟨target, iter, ifs, 0⟩] scope pos) 0 it acc env) R s := by
  refine codeAny_loop rfl I (fun n s hI => ?_) n h
  show wpAny _ A ((compTurn (.ListComp elt [⟨target, iter, ifs, 0⟩] scope pos) 0 it acc env).onRaise (fun x => do noteFrame x env; theTreesLotGoes x)) _ _ s
  refine wpAny_noted ?_
  rw [compTurn_list]
  refine wpAny_bind (wpAny_standAt (wpAny_bind (wpAny_mono (turn n s hI) (fun r s₁ h₁ => ?_) fun _ _ h' => h')))
  cases r with
  | none => exact wpAny_pure h₁
  | some v =>
    refine wpAny_bind (wpAny_mono h₁ (fun _ s₁' h₁' => ?_) fun _ _ h' => h')
    refine wpAny_bind (wpAny_mono h₁' (fun _ s₂ h₂ => wpAny_bind (wpAny_mono h₂ (fun ok s₃ h₃ => ?_) fun _ _ h' => h')) fun _ _ h' => h')
    cases ok with
    | false => exact wpAny_pure ⟨rfl, h₃⟩
    | true =>
      exact wpAny_bind (wpAny_bind (wpAny_mono h₃ (fun x s₄ h₄ => wpAny_bind (wpAny_mono h₄ (fun _ s₅ h₅ => wpAny_pure (wpAny_pure ⟨rfl, h₅⟩)) fun _ _ h' => h')) fun _ _ h' => h'))

/-- the tests of a comprehension -/
noncomputable abbrev EvIfs (prog : Program) (w : World) (n : Nat) (env : Env) (Γ : Lcl) (ifs : List Expr) (b : Bool) : Prop :=
  Ev prog w n env Γ (forIn ifs true fun c r => if r = true then do let ok ← isTrue c env (eval c env); pure (ForInStep.yield ok) else pure (ForInStep.yield r)) (fun _ v => v = b)
theorem ifs_nil : EvIfs prog w n env Γ [] true := fun A O G s r g => wpAny_tests_nil ⟨G, .refl g.wld, rfl⟩
theorem ifs_one {c : Expr} {b : Bool} (h : EvT prog w n env Γ c b) : EvIfs prog w n env Γ [c] b := fun A O G s r g => wpAny_tests_one (h A O G s r g)

/-- what a list comprehension collects -/
inductive CompE (prog : Program) (w : World) (n : Nat) (cenv : Env) (target : Expr) (ifs : List Expr) (elt : Expr) : Lcl → List PV → List PV → Prop
  | nil (Γ : Lcl) : CompE prog w n cenv target ifs elt Γ [] []
  | take {Γ Γ₁ h ins p outs} : Asg prog w n cenv Γ target h Γ₁ → EvIfs prog w n cenv Γ₁ ifs true → EvP prog w n cenv Γ₁ elt p → CompE prog w n cenv target ifs elt Γ₁ ins outs → CompE prog w n cenv target ifs elt Γ (h :: ins) (p :: outs)
  | skip {Γ Γ₁ h ins outs} : Asg prog w n cenv Γ target h Γ₁ → EvIfs prog w n cenv Γ₁ ifs false → CompE prog w n cenv target ifs elt Γ₁ ins outs → CompE prog w n cenv target ifs elt Γ (h :: ins) outs

theorem CompE.le {target ifs elt Γ ins outs} (h : CompE prog w n cenv target ifs elt Γ ins outs) : outs.length ≤ ins.length := by
  induction h with
  | nil => exact Nat.le_refl _
  | take _ _ _ _ ih => simp; exact ih
  | skip _ _ _ ih => simp; omega

/-- a list that is being filled, apart from what is known -/
structure Acc (D : Addr) (outs : List PV) (G : GH) (s : Shared) : Prop where
  g : G D = none
  t : ¬ isTab D
  o : ∃ vs ep, s.heap.get? D = some { cls := .type "list", data := .seq vs ep } ∧ RepL G outs vs.toList
theorem Acc.step {D outs F K G' s'} (x : Acc D outs G s) (g : Grow w F K G s G' s') (h : ¬ F D) : Acc D outs G' s' := by
  obtain ⟨hg, t, vs, ep, ho, rl⟩ := x
  obtain ⟨o', e', sm⟩ := g.ext.old D _ ho h t
  rw [sm.eq_of_not (nd_seq rfl).1] at e'
  exact ⟨g.gnone hg ho, t, vs, ep, e', rl.mono g.sub⟩

theorem comp_loop {elt target iter : Expr} {ifs : List Expr} {scope : Scope} {pos : Pos} {it : Value} {D : Addr} {R : Result → Shared → Prop} {outs : List PV} (rm : Rm n A) (hDC : D ≠ cenv.locals) (hlen : outs.length ≤ 1000000)
    (hR : ∀ Γ' G' s', Grow w (fun a => a = cenv.locals ∨ a = D) No G₀ s₀ G' s' → Good w A cenv none Γ' G' s' → Acc D outs G' s' → R (.ok .next) s')
    {ins done rest : List PV} {fr gr} (L : CompE prog w n cenv target ifs elt Γ ins rest) (ho : outs = done ++ rest) (x : Iter prog w n (fun a => a = cenv.locals ∨ a = D) it ins G₀ s₀ fr gr G s) (gd : Good w A cenv none Γ G s) (ac : Acc D done G s) :
    codeAny (model prog w) A (.compLoop (.ListComp elt [⟨target, iter, ifs, 0⟩] scope pos) 0 it (.ref D) cenv) R s := by
  refine codeAny_compLoop_any (fun k s => ∃ Γ ins done rest fr gr G, ins.length = k ∧ outs = done ++ rest ∧ CompE prog w n cenv target ifs elt Γ ins rest ∧ Iter prog w n (fun a => a = cenv.locals ∨ a = D) it ins G₀ s₀ fr gr G s ∧ Good w A cenv none Γ G s ∧ Acc D done G s) ?_ ins.length ⟨Γ, ins, done, rest, fr, gr, G, rfl, ho, L, x, gd, ac⟩
  rintro k s ⟨Γ, ins, done, rest, fr, gr, G, hk, ho, L, x, gd, ac⟩
  have apD : ∀ {fr : Addr → Prop}, (∀ a, fr a → ¬ (a = cenv.locals ∨ a = D)) → ¬ fr D := fun h q => h _ q (.inr rfl)
  have apW : ∀ {fr : Addr → Prop}, (∀ a, fr a → ¬ (a = cenv.locals ∨ a = D)) → ∀ a, fr a → ¬ Wr cenv none a := fun h a q r => r.elim (fun r => h a q (.inl r)) fun r => by cases r
  have wD : ¬ Wr cenv none D := fun h => h.elim (fun h => hDC h) fun h => by cases h
  have wF : ∀ a, Wr cenv none a → a = cenv.locals ∨ a = D := fun a h => h.elim .inl fun h => by cases h
  refine x.next ⟨rm, gd.frames⟩ (fun e G' s' g gr' => ?_) fun h t e v G1 s1 fr1 gr1 g1 rp lg x1 => ?_
  · subst e
    cases L
    rw [List.append_nil] at ho; subst ho
    exact hR Γ G' s' gr' (good_fr gd (apW x.ap) g) (ac.step g (apD x.ap))
  · subst e
    have gd1 := good_fr gd (apW x.ap) g1
    have ac1 := ac.step g1 (apD x.ap)
    refine lg _ _ _ _ ?_
    have hlt : t.length < k := by rw [← hk]; simp
    cases L with
    | take ha ht he L' =>
      rename_i p outs'
      refine wpAny_mono (ha A none G1 s1 v rm gd1 rp) (fun _ s2 ⟨g2, gd2⟩ => ?_) fun _ _ h => h.elim
      refine ht.use rm gd2 fun b G3 s3 g3 gd3 q => ?_
      subst q
      rw [if_pos rfl]
      refine he.use rm gd3 fun u G4 s4 g4 gd4 ru => ?_
      have gg : Grow w (Wr cenv none) No G1 s1 G4 s4 := (g2.trans' g3.pur).trans' g4.pur
      have ac4 := ac1.step gg wD
      have x4 := x1.step (gg.mono wF fun _ h => h)
      obtain ⟨hg, hnt, vs, ep, hD, rl⟩ := ac4
      have hsz : vs.size = done.length := by simpa using rl.length
      refine wpAny_list_append_plain ⟨_, hD⟩ (fun h' hp hsb => ?_) (by
        have := congrArg List.length ho; simp at this; simp [sizeLine]; omega)
      obtain ⟨ep3, ho3⟩ := hp
      have g5 := one_step (s' := { s4 with heap := h' }) gd4.wld hg hnt hD (nd_seq rfl).1 hsb.extBut ⟨_, ho3⟩ rfl rfl
      refine ⟨t.length, hlt, _, t, done ++ [p], _, fr1, gr1, G4, rfl, ?_, L', x4.step (g5.mono (fun a h => .inr h) fun _ h => h), gd4.grow g5 (fun h => hDC h.symm) (fun a h => by cases h), hg, hnt, _, ep3, ho3, ?_⟩
      · rw [ho]; simp
      · simpa using rl.append (.cons ru .nil)
    | skip ha ht L' =>
      refine wpAny_mono (ha A none G1 s1 v rm gd1 rp) (fun _ s2 ⟨g2, gd2⟩ => ?_) fun _ _ h => h.elim
      refine ht.use rm gd2 fun b G3 s3 g3 gd3 q => ?_
      subst q
      rw [if_neg Bool.false_ne_true]
      have gg : Grow w (Wr cenv none) No G1 s1 G3 s3 := g2.trans' g3.pur
      exact ⟨t.length, hlt, _, t, done, _, fr1, gr1, G3, rfl, ho, L', x1.step (gg.mono wF fun _ h => h), gd3, ac1.step gg wD⟩

/-- the comprehension's own names go -/
theorem Grow.but {F K h' C} (x : Grow w F K G₀ s₀ G s) (hC : s₀.heap.get? C = none) (hG : G C = none) (ht : ¬ isTab C) (hs : Heap.SameBut C s.heap h') : Grow w F K G₀ s₀ G { s with heap := h' } := by
  have ne : ∀ b, b ≠ C → h'.get? b = s.heap.get? b := hs.2
  have nc : ∀ b o, s₀.heap.get? b = some o → b ≠ C := fun b o e q => by rw [q, hC] at e; cases e
  refine ⟨⟨fun a o e => ?_, fun a o e nf nt => ?_, fun a o e d => ?_, x.ext.gsize, x.ext.gens, x.ext.os⟩, ⟨fun a o e => ?_, x.wld.base, fun q hq => ?_, x.wld.bare⟩, x.sub, x.new⟩
  · obtain ⟨o', e'⟩ := x.ext.live a o e; exact ⟨o', (ne a (nc a o e)).trans e'⟩
  · obtain ⟨o', e', sm⟩ := x.ext.old a o e nf nt; exact ⟨o', (ne a (nc a o e)).trans e', sm⟩
  · obtain ⟨o', e', d'⟩ := x.ext.dicts a o e d; exact ⟨o', (ne a (nc a o e)).trans e', d'⟩
  · exact (ne a fun q => by rw [q, hG] at e; cases e).trans (x.wld.sub a o e)
  · obtain ⟨h1, ps, h2, h3⟩ := x.wld.tab q hq
    refine ⟨h1, ps, (ne _ fun r => ht ?_).trans h2, h3⟩
    rw [← r]
    simp only [tabs, List.mem_cons, List.not_mem_nil, or_false] at hq
    rcases hq with rfl | rfl | rfl <;> simp [isTab]
theorem Grow.know {F K D} {o : Obj} (x : Grow w F K G₀ s₀ G s) (hd : s₀.heap.get? D = none) (ho : s.heap.get? D = some o) (hG : G D = none) (ht : ¬ isTab D) : Grow w F K G₀ s₀ (G.add D o) s :=
  ⟨x.ext, x.wld.add ho hG ht, fun a ob e => GH.add_sub hG _ _ (x.sub a ob e), fun a ob e => by
    unfold GH.add at e
    split at e
    · rename_i q; exact .inr (q ▸ hd)
    · exact x.new a ob e⟩

/-- iterators that give themselves -/
noncomputable def SelfT (prog : Program) (w : World) (T : String) : Prop := ∀ A s v (Q : Value → Shared → Prop) E, s.TypeIs v T → Q v s → wpAny (model prog w) A (pyIter v) Q E s
theorem self_listiter : SelfT prog w "list_iterator" := fun A s v Q E hT h => by
  refine wpAny_pyIter_slot hT slot_listiter_iter (wpAny_call_entry slot_listiter_iter hT entry_listiter_iter ?_ (args_listiter_iter _))
  show wpAny _ _ (ret v) _ _ s
  exact wpAny_pure ⟨_, rfl, "list_iterator", _, hT, slot_listiter_next.lookup, h⟩
theorem self_tupleiter : SelfT prog w "tuple_iterator" := fun A s v Q E hT h => by
  refine wpAny_pyIter_slot hT F.slot_tuple_iterator_iter (wpAny_call_entry F.slot_tuple_iterator_iter hT F.entry_tuple_iterator_iter ?_ (F.args_tuple_iterator_iter_1 _))
  show wpAny _ _ (ret v) _ _ s
  exact wpAny_pure ⟨_, rfl, "tuple_iterator", _, hT, F.slot_tuple_iterator_next.lookup, h⟩
theorem self_gen : SelfT prog w "generator" := fun A s v Q E hT h => by
  refine wpAny_pyIter_slot hT slot_gen_iter (wpAny_call_entry slot_gen_iter hT entry_gen_iter ?_ (args_gen_iter _))
  show wpAny _ _ (ret v) _ _ s
  exact wpAny_pure ⟨_, rfl, "generator", _, hT, slot_gen_next.lookup, h⟩
noncomputable def ItSelf (prog : Program) (w : World) (it : Value) (s : Shared) : Prop := ∃ a ob T, it = .ref a ∧ s.heap.get? a = some ob ∧ ¬ IsD ob ∧ ¬ isTab a ∧ ob.cls = .type T ∧ SelfT prog w T
theorem ItSelf.step {it K G' s'} (x : ItSelf prog w it s) (g : Grow w Pure K G s G' s') : ItSelf prog w it s' := by
  obtain ⟨a, ob, T, h1, h2, h3, h4, h5, h6⟩ := x
  obtain ⟨o', e', sm⟩ := g.ext.old a ob h2 (fun h => h) h4
  rw [sm.eq_of_not h3] at e'
  exact ⟨a, ob, T, h1, e', h3, h4, h5, h6⟩
theorem ItSelf.use {it} {Q : Value → Shared → Prop} {E} (x : ItSelf prog w it s) (h : Q it s) : wpAny (model prog w) A (pyIter it) Q E s := by
  obtain ⟨a, ob, T, rfl, h2, h3, h4, h5, h6⟩ := x
  exact h6 A s _ Q E ⟨ob, h2, h5⟩ h

/-- an expression, walked over by a comprehension -/
noncomputable def EvItS (prog : Program) (w : World) (n : Nat) (env : Env) (Γ : Lcl) (iter : Expr) (ins : List PV) : Prop :=
  ∀ A O G s, Rm n A → Good w A env O Γ G s → wpAny (model prog w) A (eval iter env) (fun v s' => foldedSetIterable iter env v = pure v ∧
    wpAny (model prog w) A (pyIter v) (fun it s'' => ItSelf prog w it s'' ∧ ∃ G'' fr gr, Grow w Pure No G s G'' s'' ∧ (∀ a, fr a → s.heap.get? a = none) ∧ (∀ k, gr k → s.gens.size ≤ k) ∧ There fr gr s'' ∧ Em prog w n it ins .done fr gr G'' s'') (fun _ _ => False) s') (fun _ _ => False) s

theorem evItS_list {iter : Expr} {ins : List PV} (h : EvP prog w n env Γ iter (.lst ins)) (hs : ∀ v, foldedSetIterable iter env v = pure v) : EvItS prog w n env Γ iter ins := by
  intro A O G s hr g
  refine h.use hr g fun v G1 s1 g1 gd1 q => ⟨hs v, ?_⟩
  obtain ⟨a, vs, ep, rfl, hG, rl⟩ := rep_lst q
  refine wpAny_pyIter_list ⟨_, gd1.wld.sub _ _ hG, rfl, ep, rfl⟩ ?_
  refine ⟨⟨_, _, _, rfl, Heap.get?_push_size _ rfl, not_isD rfl, gd1.wld.ntab (end_dead _), rfl, self_listiter⟩, ?_⟩
  obtain ⟨G'', fr, gr, x1, x2, x3, x4, x5⟩ := iter_new (prog := prog) (n := n) (e := .done) (ins := ins) (o := { cls := .type "list_iterator", data := .fields #[.ref a, .int 0 0] }) gd1.wld rfl fun s' e' => em_list (i := 0) hG rl (by subst e'; exact ⟨_, Heap.get?_push_size _ rfl, rfl, rfl⟩) (gd1.wld.fresh (end_dead _)) (gd1.wld.ntab (end_dead _))
  exact ⟨G'', fr, gr, g1.trans' x1, fun a h => g1.ext.dead (x2 a h), fun k h => Nat.le_trans g1.ext.gsize (x3 k h), x4, x5⟩
theorem evItS_tuple {iter : Expr} {ins : List PV} (h : EvP prog w n env Γ iter (.tup ins)) (hs : ∀ v, foldedSetIterable iter env v = pure v) : EvItS prog w n env Γ iter ins := by
  intro A O G s hr g
  refine h.use hr g fun v G1 s1 g1 gd1 q => ⟨hs v, ?_⟩
  obtain ⟨a, vs, ep, rfl, hG, rl⟩ := rep_tup q
  refine wpAny_pyIter_tuple ⟨_, gd1.wld.sub _ _ hG, rfl, ep, rfl⟩ ?_
  refine ⟨⟨_, _, _, rfl, Heap.get?_push_size _ rfl, not_isD rfl, gd1.wld.ntab (end_dead _), rfl, self_tupleiter⟩, ?_⟩
  obtain ⟨G'', fr, gr, x1, x2, x3, x4, x5⟩ := iter_new (prog := prog) (n := n) (e := .done) (ins := ins) (o := { cls := .type "tuple_iterator", data := .fields #[.ref a, .int 0 0] }) gd1.wld rfl fun s' e' => em_tuple (i := 0) hG rl (by subst e'; exact ⟨_, Heap.get?_push_size _ rfl, rfl, rfl⟩) (gd1.wld.fresh (end_dead _)) (gd1.wld.ntab (end_dead _))
  exact ⟨G'', fr, gr, g1.trans' x1, fun a h => g1.ext.dead (x2 a h), fun k h => Nat.le_trans g1.ext.gsize (x3 k h), x4, x5⟩

/-- in a comprehension -/
structure CompOk (scope : Scope) (cl : List (Str × Addr)) (env : Env) (Γ Γc : Lcl) : Prop where
  clos : closureFor scope env = pure cl
  cell : ∀ x ∈ scope.names, x.2 ≠ .cell
  kind : scope.kind = .function
  names : ∀ x ∈ scope.names, x.2 = .local → scope.names.lookup x.1 = some .local
  own : Γc.own = none
  free : ∀ x p, Γc.vars.lookup x = some p → Γ.vars.lookup x = some p ∧ env.kindOf x = some .cell ∧ (relabel scope env).names.lookup x = some .cell ∧ cl.lookup x = env.cells.lookup x

theorem comp_core {elt target iter : Expr} {ifs : List Expr} {scope : Scope} {cl : List (Str × Addr)} {cpos cp2 : Pos} {ins outs : List PV} {Γc : Lcl} {use : Option (Value → Sem Unit)} {Q : Value → Shared → Prop} {E : Value → Shared → Prop}
    (hit : EvItS prog w n env Γ iter ins) (ok : CompOk scope cl env Γ Γc) (hlen : ins.length ≤ 1000000)
    (L : ∀ C, CompE prog w n (compEnvC scope cl C env) target ifs elt Γc ins outs) (rm : Rm n A) (gd : Good w A env O Γ G s)
    (hQ : ∀ C D G' s', s.heap.get? C = none → s.heap.get? D = none → D ≠ C → G' C = none → ¬ isTab C → (∃ m, s'.heap.Ns C m) → Grow w Pure No G s G' s' → Acc D outs G' s' → compPost (model prog w) A E use Q (.ref D) C (.ok .next) s') (hs : ∀ x, foldedSetIterable iter env x = pure x := by intro _; rfl) :
    wpAny (model prog w) A (comprehension (.ListComp elt [⟨target, iter, ifs, 0⟩] scope cpos) scope env cp2 (newList []) false (eval iter env) use) Q E s := by
  refine wpAny_comprehension_free (use := use) (g := ⟨target, iter, ifs, 0⟩) (gs := []) rfl hs ok.clos ok.kind ok.names (wpAny_mono (hit A O G s rm gd) (fun v s1 h1 => wpAny_mono h1.2 (fun it s2 h2 => ?_) fun _ _ h => h.elim) fun _ _ h => h.elim)
  obtain ⟨self, G2, fr, gr, g, d1, d2, th, em⟩ := h2
  refine wpAny_newObj_type ?_
  have x2 : Iter prog w n Pure it ins G s fr gr G2 s2 := evIt_iter g d1 d2 th em fun _ h => h.elim
  have gd2 := gd.pur g
  -- the list
  have hDd := end_dead s2.heap
  have g3 : Grow w Pure No G2 s2 G2 { s2 with heap := s2.heap.push { cls := .type "list", data := .seq ([] : List Value).toArray } } := .push0 (tk := s2.toks) gd2.wld
  have ac3 : Acc s2.heap.objs.size [] G2 { s2 with heap := s2.heap.push { cls := .type "list", data := .seq ([] : List Value).toArray } } := ⟨gd2.wld.fresh hDd, gd2.wld.ntab hDd, _, 0, Heap.get?_push_size _ rfl, .nil⟩
  generalize hs3 : ({ s2 with heap := s2.heap.push { cls := .type "list", data := .seq ([] : List Value).toArray } } : Shared) = s3 at g3 ac3 ⊢
  have hsz3 : s3.heap.objs.size = s2.heap.objs.size + 1 := by rw [← hs3]; exact Heap.size_push ..
  generalize hD : s2.heap.objs.size = D at ac3 hDd hsz3 ⊢
  have gd3 := gd2.pur g3
  have x3 := x2.step g3
  -- the names
  have hCd := end_dead s3.heap
  have hCG : G2 s3.heap.objs.size = none := gd3.wld.fresh hCd
  have hCt : ¬ isTab s3.heap.objs.size := gd3.wld.ntab hCd
  have hDC : D ≠ s3.heap.objs.size := by omega
  refine wpAny_newFunctionEnv ok.cell (by intro x hx; cases hx) (fun h' hns hsb => ?_) ok.kind
  simp only [Option.isSome_some, if_true] at hsb
  have k1 : ∀ b ob, s3.heap.get? b = some ob → h'.get? b = some ob := fun b ob e => hsb.extBut b ob (Nat.ne_of_lt (Heap.lt_size e)) (Heap.get?_push_of_some _ e)
  have g4 : Grow w Pure No G2 s3 G2 { s3 with heap := h', toks := s3.toks + ([] : List (Str × Value)).length } := Grow.keeps (dr := s3.drawn) gd3.wld k1
  have x4 := x3.step g4
  have ac4 := ac3.step g4 (fun h => h)
  have gd4 := gd3.pur g4
  generalize hs4 : ({ s3 with heap := h', toks := s3.toks + ([] : List (Str × Value)).length } : Shared) = s4 at x4 ac4 gd4 g4 ⊢
  have hns4 : s4.heap.Ns s3.heap.objs.size (fun y => ([] : List (Str × Value)).reverse.lookup y) := by rw [← hs4]; exact hns
  generalize hC : s3.heap.objs.size = C at hns4 hCd hCG hCt hDC ⊢
  have hCs : s.heap.get? C = none := (g.trans' g3).ext.dead hCd
  have hDs : s.heap.get? D = none := g.ext.dead hDd
  have gdC : Good w A (compEnvC scope cl C env) none Γc G2 s4 := {
    wld := gd4.wld
    frames := gd4.frames
    kind := ok.kind
    globals := gd.globals
    builtins := gd.builtins
    fresh := hCG
    ntab := hCt
    oown := (fun a h => by cases h)
    vars := ⟨_, hns4, fun x p e => by
      obtain ⟨e1, e2, e3, e4⟩ := ok.free x p e
      obtain ⟨m, hm, hv, _⟩ := gd4.vars
      obtain ⟨v, r, rp⟩ := hv x p e1
      refine ⟨v, ?_, rp⟩
      rcases r with ⟨r, _⟩ | ⟨_, nc, c, o, hc, hG, hd⟩
      · rw [e2] at r; cases r
      · exact .inr ⟨.inl e3, nc, c, o, e4.trans hc, hG, hd⟩, by unfold OwnOk; rw [ok.own]; trivial⟩ }
  have xC : Iter prog w n (fun a => a = (compEnvC scope cl C env).locals ∨ a = D) it ins G s fr gr G2 s4 := by
    refine x4.widen (fun _ h => h.elim) (fun a h q => ?_) fun a h => ?_
    · obtain ⟨o, e⟩ := th.1 a q
      rcases h with h | h
      · have e2 := g3.ext.live a o e; obtain ⟨o2, e2⟩ := e2
        rw [h] at e2; rw [show (compEnvC scope cl C env).locals = C from rfl, hCd] at e2; cases e2
      · rw [h, hDd] at e; cases e
    · rcases h with h | h
      · obtain ⟨o, es, ep, ho, _⟩ := hns4; exact ⟨o, h ▸ ho⟩
      · obtain ⟨vs, ep, ho, _⟩ := ac4.o; exact ⟨_, h ▸ ho⟩
  have main : codeAny (model prog w) A (.compStart (.ListComp elt [⟨target, iter, ifs, 0⟩] scope cpos) 0 it (.ref D) (compEnvC scope cl C env)) (compPost (model prog w) A E use Q (.ref D) C) s4 := by
    have loop : ∀ it', it' = it → codeAny (model prog w) A (.compLoop (.ListComp elt [⟨target, iter, ifs, 0⟩] scope cpos) 0 it' (.ref D) (compEnvC scope cl C env)) (compPost (model prog w) A E use Q (.ref D) C) s4 := by
      intro it' e; subst e
      refine comp_loop (done := []) (rest := outs) (outs := outs) rm hDC (Nat.le_trans (L C).le hlen) (fun Γ' G' s' g' gd' ac' => ?_) (L C) rfl xC gdC ac4
      obtain ⟨m, hm, _⟩ := gd'.vars
      exact hQ C D G' s' hCs hDs hDC gd'.fresh hCt ⟨m, hm⟩ (g'.shrink (fun a h => .inr (h.elim (fun h => h ▸ hCs) fun h => h ▸ hDs)) fun _ h => h.elim) ac'
    exact codeAny_compStart_list (loop _ rfl) ((self.step (g3.trans' g4)).use (loop _ rfl))
  exact main

theorem lst_of {C D : Addr} {outs : List PV} {h' : Heap} (g : Grow w Pure No G₀ s₀ G s) (hCd : s₀.heap.get? C = none) (hDd : s₀.heap.get? D = none) (hDC : D ≠ C) (hG : G C = none) (ht : ¬ isTab C) (ac : Acc D outs G s) (hs : Heap.SameBut C s.heap h') :
    ∃ G', Grow w Pure No G₀ s₀ G' { s with heap := h' } ∧ Rep G' (.lst outs) (.ref D) ∧ (∀ a o, G a = some o → G' a = some o) := by
  obtain ⟨hg, hnt, vs, ep, ho, rl⟩ := ac
  have g2 := (g.but hCd hG ht hs).know hDd ((hs.2 D hDC).trans ho) hg hnt
  exact ⟨_, g2, mk_lst GH.add_self (rl.mono (GH.add_sub hg)), fun a o e => GH.add_sub hg a o e⟩

/-- [.. for .. in ..] -/
theorem ev_comp {elt target iter : Expr} {ifs : List Expr} {scope : Scope} {cl : List (Str × Addr)} {cpos : Pos} {ins outs : List PV} {Γc : Lcl} (hit : EvItS prog w n env Γ iter ins) (ok : CompOk scope cl env Γ Γc) (hlen : ins.length ≤ 1000000)
    (L : ∀ C, CompE prog w n (compEnvC scope cl C env) target ifs elt Γc ins outs) (hs : ∀ x, foldedSetIterable iter env x = pure x := by intro _; rfl) :
    EvP prog w n env Γ (.ListComp elt [⟨target, iter, ifs, 0⟩] scope cpos) (.lst outs) := fun A O G s rm gd => by
  rw [eval_ListComp]
  refine comp_core (use := none) hit ok hlen L rm gd (fun C D G' s' hC hD hDC hGC ht hns g ac => ?_) hs
  obtain ⟨m, hm⟩ := hns
  refine ⟨m, hm, fun h' hsb => ?_⟩
  obtain ⟨G2, g2, r, _⟩ := lst_of g hC hD hDC hGC ht ac hsb
  exact ⟨G2, g2, r⟩

theorem good_but {C : Addr} {h' : Heap} (gd : Good w A env O Γ G s) (gd₀ : Good w A env O Γ₁ G₀ s₀) (hC : s₀.heap.get? C = none) (hG : G C = none) (ht : ¬ isTab C) (hs : Heap.SameBut C s.heap h') : Good w A env O Γ G { s with heap := h' } := by
  have ne : ∀ b, b ≠ C → h'.get? b = s.heap.get? b := hs.2
  have nL : env.locals ≠ C := fun q => by obtain ⟨m, ⟨o, es, ep, ho, _⟩, _⟩ := gd₀.vars; rw [q, hC] at ho; cases ho
  obtain ⟨l, hl, fl⟩ := gd.frames
  obtain ⟨l', hl', fl'⟩ := gd₀.frames
  rw [hl] at hl'; cases hl'
  obtain ⟨m, ⟨oL, es, ep, hoL, r⟩, hv, ho⟩ := gd.vars
  have nO : ∀ a, O = some a → a ≠ C := fun a e q => by obtain ⟨_, _, _, o, ho, _⟩ := gd₀.oown a e; rw [q, hC] at ho; cases ho
  refine ⟨⟨fun a o e => (ne a fun q => by rw [q, hG] at e; cases e).trans (gd.wld.sub a o e), gd.wld.base, fun q hq => ?_, gd.wld.bare⟩, ⟨l, hl, fun ev he => ?_⟩, gd.kind, gd.globals, gd.builtins, gd.fresh, gd.ntab, fun a e => ?_, m, ⟨oL, es, ep, (ne _ nL).trans hoL, r⟩, hv, ?_⟩
  · obtain ⟨h1, ps, h2, h3⟩ := gd.wld.tab q hq
    refine ⟨h1, ps, (ne _ fun r => ht ?_).trans h2, h3⟩
    rw [← r]
    simp only [tabs, List.mem_cons, List.not_mem_nil, or_false] at hq
    rcases hq with rfl | rfl | rfl <;> simp [isTab]
  · obtain ⟨h1, L, o, h2, h3, h4, h5⟩ := fl ev he
    obtain ⟨_, L', o', k2, k3, k4, k5⟩ := fl' ev he
    rw [h2] at k2; cases k2
    exact ⟨h1, L, o, h2, h3, (ne L fun q => by rw [q, hC] at k4; cases k4).trans h4, h5⟩
  · obtain ⟨h1, h2, h3, o, h4, h5⟩ := gd.oown a e
    exact ⟨h1, h2, h3, o, (ne a (nO a e)).trans h4, h5⟩
  · unfold OwnOk at ho ⊢
    split
    · trivial
    · rename_i own y d eq
      rw [eq] at ho
      obtain ⟨a, o, h1, h2, h3, h4, h5⟩ := ho
      exact ⟨a, o, h1, h2, h3, (ne a (nO a h1)).trans h4, h5⟩

/-- y = [.. for .. in ..] -/
theorem exp_assign_comp {elt target iter : Expr} {ifs : List Expr} {scope : Scope} {cl : List (Str × Addr)} {cpos yp pos : Pos} {y : Str} {ins outs : List PV} {Γc : Lcl} (hit : EvItS prog w n env Γ iter ins) (ok : CompOk scope cl env Γ Γc) (hlen : ins.length ≤ 1000000)
    (L : ∀ C, CompE prog w n (compEnvC scope cl C env) target ifs elt Γc ins outs) (hl : env.kindOf y = some .local) (hown : ∀ z d, Γ.own = some (z, d) → z ≠ y)
    (hsw : swapsWith (.ListComp elt [⟨target, iter, ifs, 0⟩] scope cpos) (some (.Name y yp)) pos.line env = pure true) (hs : ∀ x, foldedSetIterable iter env x = pure x := by intro _; rfl) :
    ExP prog w n env O Γ (exec (.Assign [.Name y yp] (.ListComp elt [⟨target, iter, ifs, 0⟩] scope cpos) pos) env) (.next (Γ.set y (.lst outs))) := by
  intro A l G s rm hf hself gd
  rw [exec_Assign_Name_used _ _ _ _ hsw]
  refine wpAny_bind (wpAny_standAt (wpAny_bind ?_))
  show wpAny _ A (do let _ ← comprehension (.ListComp elt [⟨target, iter, ifs, 0⟩] scope cpos) scope env _ (newList []) false (eval iter env) (some (assign (.Name y yp) env))) _ _ s
  refine wpAny_bind (wpAny_mono (comp_core (use := some (assign (.Name y yp) env)) (E := fun _ _ => False) (Q := fun _ s' => ∃ G', Grow w (Wr env O) No G s G' s' ∧ OutOk w A env O (.next (Γ.set y (.lst outs))) .next G' s') hit ok hlen L rm gd (fun C D G' s' hC hD hDC hGC ht hns g ac => ?_) hs) (fun _ s' hq => wpAny_pure (wpAny_pure hq)) fun _ _ q => q.elim)
  obtain ⟨m, hm⟩ := hns
  have gd' := gd.pur g
  obtain ⟨hg, hnt, vs, ep, ho, rl⟩ := ac
  have g2 := g.know hD ho hg hnt
  have gd2 := gd.pur g2
  refine wpAny_assign_good gd2 hl (p := .lst outs) (mk_lst GH.add_self (rl.mono (GH.add_sub hg))) hown fun s3 g3 gd3 => ?_
  have hGC2 : (G'.add D { cls := .type "list", data := .seq vs ep }) C = none := by unfold GH.add; rw [if_neg (Ne.symm hDC)]; exact hGC
  have wC : ¬ Wr env O C := fun h => by obtain ⟨o, e⟩ := wr_live gd C h; rw [hC] at e; cases e
  refine ⟨m, Ns.sim hm fun o e => g3.ext.old C o e wC ht, fun h' hsb => ⟨_, ((g2.pur.trans' g3).but hC hGC2 ht hsb), rfl, good_but gd3 gd hC hGC2 ht hsb⟩⟩
end
end Mine

namespace Mine
open PySem PySem.W PySem.Calls PyProof.Rows

theorem bindL_skip {k : Str → Option NameKind} {x : Str} : ∀ {l : List (Str × Value)} {m : Str → Option Value}, x ∉ l.map (·.1) → bindL k l m x = m x
  | [], m, _ => rfl
  | (y, v) :: l, m, h => by
    simp only [List.map_cons, List.mem_cons, not_or] at h
    rw [bindL, bindL_skip h.2]
    split
    · show (if x = y then _ else m x) = m x
      rw [if_neg h.1]
    · rfl
theorem bindC_skip {k : Str → Option NameKind} {x : Str} : ∀ {l : List (Str × Value)} {m : Str → Option Value}, x ∉ l.map (·.1) → bindC k l m x = m x
  | [], m, _ => rfl
  | (y, v) :: l, m, h => by
    simp only [List.map_cons, List.mem_cons, not_or] at h
    rw [bindC, bindC_skip h.2]
    split
    · rfl
    · show (if x = y then _ else m x) = m x
      rw [if_neg h.1]
theorem bindL_get {k : Str → Option NameKind} {x : Str} {v : Value} (hk : k x = some .local) : ∀ {l : List (Str × Value)} {m : Str → Option Value}, (l.map (·.1)).Nodup → l.lookup x = some v → bindL k l m x = some v
  | [], m, _, h => by cases h
  | (y, u) :: l, m, hn, h => by
    simp only [List.map_cons, List.nodup_cons] at hn
    rw [List.lookup_cons] at h
    rw [bindL]
    cases hx : x == y with
    | true =>
      have e : x = y := by simpa using hx
      subst e
      rw [hx] at h; cases h
      rw [bindL_skip hn.1, if_pos hk]
      show (if x = x then _ else m x) = _
      rw [if_pos rfl]
    | false => rw [hx] at h; exact bindL_get hk hn.2 h
theorem bindC_get {k : Str → Option NameKind} {x : Str} {v : Value} (hk : ¬ k x = some .local) : ∀ {l : List (Str × Value)} {m : Str → Option Value}, (l.map (·.1)).Nodup → l.lookup x = some v → bindC k l m x = some v
  | [], m, _, h => by cases h
  | (y, u) :: l, m, hn, h => by
    simp only [List.map_cons, List.nodup_cons] at hn
    rw [List.lookup_cons] at h
    rw [bindC]
    cases hx : x == y with
    | true =>
      have e : x = y := by simpa using hx
      subst e
      rw [hx] at h; cases h
      rw [bindC_skip hn.1, if_neg hk]
      show (if x = x then _ else m x) = _
      rw [if_pos rfl]
    | false => rw [hx] at h; exact bindC_get hk hn.2 h

/-- a record of a function with one cell, checked -/
noncomputable def fnBC (fd : FuncData) (names : List Str) (xc : Str) : Bool :=
  !fd.scope.isCoroutine && decide (fd.scope.kind = .function) && decide (fd.globals = mainGlobals) && decide (fd.builtins = builtinsNs) && decide (fd.closure = []) &&
    names.all (fun x => decide (fd.scope.names.lookup x = some (if x = xc then .cell else .local))) && decide names.Nodup && decide ((fd.scope.names.filter (fun x => x.2 == .cell)).map (·.1) = [xc])

theorem cellsFrom_one : ∀ {names : List (Str × NameKind)} {xc : Str} {L : Nat} {acc : List (Str × Addr)}, (names.filter (fun x => x.2 == .cell)).map (·.1) = [xc] → cellsFrom L names acc = (xc, L) :: acc
  | [], _, _, _, h => by simp at h
  | (y, k) :: names, xc, L, acc, h => by
    have zero : ∀ {names : List (Str × NameKind)} {L : Nat} {acc : List (Str × Addr)}, names.filter (fun x => x.2 == NameKind.cell) = [] → cellsFrom L names acc = acc := by
      intro names
      induction names with
      | nil => intro L acc _; rfl
      | cons x r ih =>
        intro L acc h
        obtain ⟨y, k⟩ := x
        rw [List.filter_cons] at h
        split at h
        · cases h
        · rename_i hk
          rw [cellsFrom, if_neg hk]; exact ih h
    rw [List.filter_cons] at h
    split at h
    · rename_i hk
      simp only [List.map_cons, List.cons.injEq, List.map_eq_nil_iff] at h
      rw [cellsFrom, if_pos hk, zero h.2, h.1]
    · rename_i hk
      rw [cellsFrom, if_neg hk]; exact cellsFrom_one h

section
variable {prog : Program} {w : World} {n : Nat} {G : GH} {s : Shared} {A : Around} {o : Out}

theorem call_enterC {fa : Addr} {fd : FuncData} {body : List Stmt} {names : List Str} {xc : Str} {vals : List Value} {ps : List PV} {R : Result → Shared → Prop}
    (hfo : G fa = some { cls := .type "function", data := .func fd }) (hb : fnBC fd names xc = true) (hbody : fd.body = .stmts body) (hgen : fd.scope.isGenerator = false) (hcd : CodeRecG G fd.code fd.qualname)
    (hbind : bindArgs fd ⟨vals, []⟩ = pure (names.zip vals)) (hlen : ps.length = names.length) (hxc : (xc == ("__classdict__" : Str)) = false)
    (r : RepL G ps vals) (W : Wld w G s) (cx : Cx (n+1) A G s)
    (h : ∀ L A' l G₁ s₁, Rm n A' → A'.frames = some (callEnvC fd L fa :: l) → Grow w Pure No G s G₁ s₁ → s.heap.get? L = none → Good w A' (callEnvC fd L fa) none ⟨names.zip ps, none⟩ G₁ s₁ →
      wpAny (model prog w) A' (execs body (callEnvC fd L fa)) (fun f s' => R (.ok (.ret (match f with | .ret v => v | _ => .none))) s')
        (fun e s' => wpAny (model prog w) A' (leaving (callEnvC fd L fa) e) (fun _ s'' => R (.error e) s'') (fun e' s'' => R (.error e') s'') s') s₁) :
    codeAny (model prog w) A (.call (.ref fa) ⟨vals, []⟩) R s := by
  simp only [fnBC, Bool.and_eq_true, Bool.not_eq_true', decide_eq_true_eq, List.all_eq_true] at hb
  obtain ⟨⟨⟨⟨⟨⟨⟨hco, hk⟩, hgl⟩, hbi⟩, hclo⟩, hloc⟩, hnd⟩, hcell⟩ := hb
  have hvl := r.length
  have hcs : ∀ L, cellsFrom L fd.scope.names [] = [(xc, L)] := fun L => cellsFrom_one hcell
  have hmz : (names.zip vals).map (·.1) = names := map_zip_fst (by omega)
  refine codeAny_call_cells cx.rm.room (W.sub _ _ hfo) rfl (noLimit W) (hcd.rec W) hbody hbind hclo (fun x hx => ?_) (fun s₁ x => ?_) hco hgen hk
  · have h1 := hloc _ (mem_zip_fst hx)
    by_cases e : x.1 = xc
    · rw [if_pos e] at h1
      exact .inr ⟨h1, by rw [hcs, e]; simp⟩
    · rw [if_neg e] at h1; exact .inl h1
  obtain ⟨l, hl, fl⟩ := cx.fr
  have hLd : s.heap.get? s.heap.objs.size = none := end_dead _
  have hGL : G s.heap.objs.size = none := W.fresh hLd
  have hnt : ¬ isTab s.heap.objs.size := W.ntab hLd
  have hCd : s.heap.get? (s.heap.objs.size + 1) = none := Heap.get?_none_of_le (Nat.le_succ _)
  have hGC : G (s.heap.objs.size + 1) = none := W.fresh hCd
  have hcells : (callEnvC fd s.heap.objs.size fa).cells = [(xc, s.heap.objs.size + 1)] := hcs _
  obtain ⟨h₁, tk, e1⟩ := x.toInCall.same
  have hns := x.toInCall.ns
  have hkeep := x.toInCall.keep
  have hcell1 := x.cell xc (s.heap.objs.size + 1) (by rw [hcells]; simp)
  obtain ⟨oc, hoc, hdc⟩ := hcell1
  have g0 : Grow w Pure No G s G s₁ := by
    rw [e1]
    refine Grow.keeps (dr := s.drawn) W fun b ob e => ?_
    have := hkeep b ob e
    rw [e1] at this; exact this
  have g1 := g0.know hCd hoc hGC (W.ntab hCd)
  have sub := g1.sub
  have hfr : (A.deeper (callEnvC fd s.heap.objs.size fa)).frames = some (callEnvC fd s.heap.objs.size fa :: l) := by
    show pushEnvs [_] A.frames = _
    rw [hl]; rfl
  have hGL1 : (G.add (s.heap.objs.size + 1) oc) s.heap.objs.size = none := by unfold GH.add; rw [if_neg (Nat.ne_of_lt (Nat.lt_succ_self _))]; exact hGL
  refine h s.heap.objs.size _ l _ _ cx.rm.deeper hfr g1 hLd ?_
  exact {
    wld := g1.wld
    frames := ⟨_, hfr, fun ev hev => by
      rcases List.mem_cons.mp hev with rfl | hev
      · obtain ⟨ob, es, ep, ho, hd, _⟩ := hns
        exact ⟨by show fd.scope.kind ≠ .module; rw [hk]; decide, s.heap.objs.size, ob, rfl, hGL1, ho, es, ep, hd⟩
      · exact (fl.grow g1) ev hev⟩
    kind := hk
    globals := hgl
    builtins := hbi
    fresh := hGL1
    ntab := hnt
    oown := (fun a h => by cases h)
    vars := ⟨_, hns, fun y p hy => by
      obtain ⟨v, hv, rp⟩ := lookup_zip_rep r hy
      have hyn : y ∈ names := by
        have hm : ∀ {l : List (Str × Value)}, l.lookup y = some v → y ∈ l.map (·.1) := by
          intro l
          induction l with
          | nil => intro h; cases h
          | cons a l ih =>
            intro h
            obtain ⟨k, u⟩ := a
            rw [List.lookup_cons] at h
            cases hx : y == k with
            | true => have : y = k := by simpa using hx
                      simp [this]
            | false => rw [hx] at h; simp only [List.map_cons, List.mem_cons]; exact .inr (ih h)
        have := hm hv
        rwa [hmz] at this
      refine ⟨v, ?_, rp.mono sub⟩
      have h1 := hloc y hyn
      by_cases e : y = xc
      · subst e
        rw [if_pos rfl] at h1
        refine .inr ⟨.inl h1, hxc, s.heap.objs.size + 1, oc, by rw [hcells]; simp, GH.add_self, ?_⟩
        rw [hdc]
        congr 1
        exact bindC_get (by show ¬ fd.scope.names.lookup y = some .local; rw [h1]; decide) (by rw [hmz]; exact hnd) hv
      · rw [if_neg e] at h1
        exact .inl ⟨h1, bindL_get h1 (by rw [hmz]; exact hnd) hv⟩, trivial⟩ }

theorem fn_ofC {fa : Addr} {names : List Str} {xc : Str} {ps : List PV} (hfo : (topK w).lookup fa = some { cls := .type "function", data := .func (fdOf w fa) }) (hb : fnBC (fdOf w fa) names xc = true) (hbody : (fdOf w fa).body = .stmts (bodyOf w fa)) (hgen : (fdOf w fa).scope.isGenerator = false)
    (hcd : codeIn (topK w) (fdOf w fa).code (fdOf w fa).qualname = true) (hlen : ps.length = names.length) (hxc : (xc == ("__classdict__" : Str)) = false) (hbind : ∀ vs : List Value, vs.length = names.length → bindArgs (fdOf w fa) ⟨vs, []⟩ = pure (names.zip vs))
    (run : ∀ env, EnvOk w fa env → (∃ c, env.cells = [(xc, c)]) → ExP prog w n env none ⟨names.zip ps, none⟩ (execs (bodyOf w fa) env) o) : Fn prog w n fa ps o := by
  intro A G s vs W r cx
  have hvl := r.length
  have hb' := hb
  simp only [fnBC, Bool.and_eq_true, Bool.not_eq_true', decide_eq_true_eq, List.all_eq_true] at hb'
  obtain ⟨⟨⟨⟨⟨⟨⟨hco, hk⟩, hgl⟩, hbi⟩, hclo⟩, hloc⟩, hnd⟩, hcell⟩ := hb'
  refine call_enterC (n := n) (top_in W hfo) hb hbody hgen (code_in W hcd) (hbind vs (by omega)) hlen hxc r W cx fun L A' l G₁ s₁ rm hfr g1 hL gd => ?_
  have eok : EnvOk w fa (callEnvC (fdOf w fa) L fa) := {
    kinds := fun x => rfl
    inter := by
      unfold interactive
      show (_ : Bool) = false
      simp only [callEnvC, newEnv, hk]
      rfl
    co := hco
    code := rfl
    qual := rfl
    globals := hgl
    builtins := hbi
    frame := rfl }
  have tr : ∀ {G2 s2}, Grow w (Wr (callEnvC (fdOf w fa) L fa) none) No G₁ s₁ G2 s2 → Grow w Pure No G s G2 s2 := fun g2 => g1.trans g2 (fun b h => h.elim (fun h => by subst h; exact .inr hL) fun h => by cases h) fun _ h => h.elim
  refine wpAny_mono (run _ eok ⟨L + 1, cellsFrom_one hcell⟩ A' l G₁ s₁ rm hfr rfl gd) (fun f s' ⟨G', g, q⟩ => ⟨G', tr g, ?_⟩) (fun x s' ⟨q, G', fl, g, gd', e9, hfl⟩ => ?_)
  · cases o with
    | next Γ' => obtain ⟨rfl, _⟩ := q; rfl
    | cont Γ' => obtain ⟨rfl, _⟩ := q; rfl
    | ret p => obtain ⟨v, rfl, rp, _⟩ := q; exact ⟨v, rfl, rp⟩
    | err => exact q.elim
  · subst q
    have e9' := e9.start (h₀ := s.heap) g1.ext.live
    obtain ⟨l', hl', fr⟩ := gd'.frames
    rw [hfr] at hl'; cases hl'
    have al : Alive s.heap s' := (tr g).ext.live
    have t0 : Tabd s.heap := W.tabd
    refine err_leaving g.wld t0 al hfr fr rfl e9' hfl fun h' g' e' => ?_
    exact ⟨G', g'.grow (tr g), x, rfl, e'⟩
end

section
variable {prog : Program} {w : World} {n : Nat} {env : Env} {O : Option Addr} {Γ Γ' : Lcl}
theorem closureFor_one {scope : Scope} {xc : Str} {c : Addr} (hc : env.cells = [(xc, c)]) (h : (scope.names.filter (fun x => x.2 == .free)).map (·.1) = [xc]) : closureFor scope env = pure [(xc, c)] := by
  unfold closureFor
  have key : ∀ (l : List (Str × NameKind)) (acc : List (Str × Addr)), (∀ x ∈ l, x.2 = .free → x.1 = xc) → forIn (m := Sem) l acc (fun x cs => match x with
      | (name, kind) => if (kind == NameKind.free) = true then do let a ← cellOf env name; pure (ForInStep.yield ((name, a) :: cs)) else pure (ForInStep.yield cs)) = pure (((l.filter (fun x => x.2 == .free)).map fun x => (x.1, c)).reverse ++ acc) := by
    intro l
    induction l with
    | nil => intro acc _; rfl
    | cons x r ih =>
      intro acc hx
      obtain ⟨y, k⟩ := x
      rw [List.forIn_cons]
      by_cases hk : (k == NameKind.free) = true
      · have hy : y = xc := hx (y, k) List.mem_cons_self (by simpa using hk)
        subst hy
        have e : cellOf env y = pure c := by unfold cellOf; rw [hc]; simp
        simp only [hk, if_true, e, List.filter_cons]
        refine (ih ((y, c) :: acc) fun z hz => hx z (List.mem_cons_of_mem _ hz)).trans ?_
        simp
      · simp only [hk, if_false, List.filter_cons]
        exact ih acc fun z hz => hx z (List.mem_cons_of_mem _ hz)
  have hall : ∀ x ∈ scope.names, x.2 = .free → x.1 = xc := fun x hx hk => by
    have : x.1 ∈ (scope.names.filter (fun x => x.2 == .free)).map (·.1) := List.mem_map.mpr ⟨x, List.mem_filter.mpr ⟨hx, by simp [hk]⟩, rfl⟩
    rw [h] at this; simpa using this
  have h2 : (scope.names.filter (fun x => x.2 == .free)).map (fun x => (x.1, c)) = [(xc, c)] := by
    have := congrArg (List.map fun y => (y, c)) h
    rw [List.map_map] at this
    exact this
  refine (congrArg (fun t : Sem (List (Str × Addr)) => t >>= fun cs => pure cs) (key scope.names [] hall)).trans ?_
  rw [h2]; rfl

end
end Mine

namespace Mine
open PySem PySem.W PySem.Calls PyProof.Rows

section
variable {prog : Program} {w : World} {n : Nat} {env : Env} {O : Option Addr} {Γ Γ' : Lcl} {G : GH} {s : Shared} {A : Around}

theorem reprIs_bytes {b : B} {t : Tok} (h : b.size ≤ 65536) : ReprIs prog w (.bytes b t) (Builtin.Bytes.literal b) := fun m hm _ _ s _ hq => by
  have hl := literal_len b
  have hm' : m ≤ sizeLine := by omega
  rw [pyReprUnder_leaf (v := .bytes b t) hm' (fun _ e => nomatch e)]
  unfold pyRepr
  refine wpAny_bind (wpAny_pyReprObj_gives (x := Builtin.Bytes.literal b) (typeIs_bytes s b t) slot_repr entry_repr (args_repr_1 _) (gives_repr (by show b.size ≤ 1048576; omega)) ?_ rfl (by simp [sizeLine]; omega))
  exact wpAny_pure (hq _)

theorem piled_bound {ts : List Str} {M : Nat} (h : ∀ t ∈ ts, t.length ≤ M) : piled ts ≤ ts.length * (M + 2) := by
  induction ts with
  | nil => exact Nat.zero_le _
  | cons t r ih =>
    have h1 := ih fun u hu => h u (.tail _ hu)
    have h2 := h t (.head _)
    rw [piled_cons, List.length_cons, Nat.add_mul, Nat.one_mul]; omega
theorem listText_bound {ts : List Str} {M : Nat} (h : ∀ t ∈ ts, t.length ≤ M) : (listText ts).length ≤ 2 + ts.length * (M + 2) := by
  cases ts with
  | nil => show (("[" : Str) ++ ("]" : Str)).length ≤ _; rw [strLen_append]; show 1 + 1 ≤ _; omega
  | cons t r =>
    have hb := piled_bound h
    have hh := textFrom_length_pos r 1 (("[" : Str) ++ (if (0 : Nat) > 0 then ", " else "" : String) ++ t) (Nat.succ_pos 0)
    have e : ((("[" : Str) ++ (if (0 : Nat) > 0 then ", " else "" : String) ++ t)).length = 1 + t.length := by
      rw [strLen_append, strLen_append]; rfl
    have hX : (listText (t :: r)).length = (textFrom 0 "[" (t :: r)).length + 1 := by
      show (textFrom 0 "[" (t :: r) ++ "]").length = _
      rw [strLen_append]; rfl
    have hY : (textFrom 0 "[" (t :: r)).length = (textFrom 1 (("[" : Str) ++ (if (0 : Nat) > 0 then ", " else "" : String) ++ t) r).length := rfl
    rw [piled_cons] at hb
    rw [hX, hY, hh, e]; omega

/-- a list of a few short bytes, as text -/
theorem repr_call {l : List B} {a : Addr} {vs : Array Value} {ep : Nat} {Q : Value → Shared → Prop} {E : Value → Shared → Prop} (hne : l ≠ []) (hl : l.length ≤ 100) (hb : ∀ b ∈ l, b.size ≤ 1000) (rl : RepL G (l.map .byt) vs.toList) (hg : A.guards = some []) (hu : A.units + 1 < cLine)
    (ho : s.heap.get? a = some { cls := .type "list", data := .seq vs ep }) (hQ : ∀ h' x u tk, (∀ b o, s.heap.get? b = some o → h'.get? b = some o) → x.length ≤ 1000000 → Q (.str x u) { s with heap := h', toks := tk }) :
    wpAny (model prog w) A (call (.builtin "list.__repr__") [.ref a]) Q E s := by
  have hlen : vs.size = l.length := by simpa using rl.length
  have hM : ∀ t ∈ l.map Builtin.Bytes.literal, t.length ≤ 4003 := fun t ht => by
    obtain ⟨b, hm, rfl⟩ := List.mem_map.mp ht
    have := literal_len b; have := hb b hm; omega
  have hz := listText_bound hM
  rw [List.length_map] at hz
  have hz2 : l.length * (4003 + 2) ≤ 100 * (4003 + 2) := Nat.mul_le_mul_right _ hl
  obtain ⟨ls⟩ := vs
  cases ls with
  | nil => exact absurd (List.eq_nil_of_length_eq_zero (by simpa using hlen.symm)) hne
  | cons x r =>
    refine call_list_reprK (as := []) (d := 0) (h₀ := s.heap) (ts := l.map Builtin.Bytes.literal) (x := x) (l := r) ho rfl rfl (by simp) (by simpa using hlen.symm) (fun i y e => ?_) hg (fun b _ => Clear.nil b) hu (fun b o e => e) (fun h' u tk hk => hQ h' _ u tk hk (by omega)) (by simp [sizeLine]; omega)
    obtain ⟨j, hj⟩ : ∃ hj : i < (x :: r).toArray.size, (x :: r).toArray[i] = y := by
      rcases Nat.lt_or_ge i (x :: r).toArray.size with h | h
      · exact ⟨h, by rw [Array.getElem?_eq_getElem h] at e; exact Option.some.inj e⟩
      · rw [Array.getElem?_eq_none h] at e; cases e
    obtain ⟨p, hp, rp⟩ := repL_get (vs := (x :: r).toArray) rl j
    rw [List.getElem?_map] at hp
    cases hbi : l[i]? with
    | none => rw [hbi] at hp; cases hp
    | some b =>
      rw [hbi] at hp; cases hp
      obtain ⟨t, e3⟩ := rep_byt rp
      refine ⟨Builtin.Bytes.literal b, by rw [List.getElem?_map, hbi]; rfl, ?_⟩
      rw [show y = .bytes b t from by rw [← e3]; exact hj.symm]
      exact ReprK.of_is (reprIs_bytes (Nat.le_trans (hb b (List.mem_of_getElem? hbi)) (by omega))) _ _ _

theorem evs_list {e : Expr} {pos : Pos} {l : List B} (h : EvP prog w n env Γ e (.lst (l.map .byt))) (hn : 1 ≤ n) (hne : l ≠ []) (hl : l.length ≤ 100) (hb : ∀ b ∈ l, b.size ≤ 1000) : EvS prog w n env Γ (.FormattedValue e (-1) none pos) 1000000 := fun A O G s r g => by
  refine wpAny_FormattedValue_plain (h.use r g fun v G1 s1 g1 gd1 q => ?_)
  obtain ⟨a, vs, ep, rfl, hG, rl⟩ := rep_lst q
  have hU := r.units
  have ho := gd1.wld.sub _ _ hG
  refine wpAny_formatField_slot (fun _ _ => nofun) (by simp [cLine]; omega) ⟨_, ho, rfl⟩ F.slot_list_format F.slot_list_str F.slot_list_repr.toG
    (repr_call (s := { s1 with toks := s1.toks + 1 }) hne hl hb rl r.guards (by show A.units + 1 + 1 + 1 < cLine; simp [cLine]; omega) ho fun h' x u tk hk hx => ⟨_, _, rfl, G1, g1.trans' (Grow.keeps (dr := s1.drawn) gd1.wld hk), x, u, rfl, hx⟩)
theorem evs_listr {e : Expr} {pos : Pos} {l : List B} (h : EvP prog w n env Γ e (.lst (l.map .byt))) (hn : 1 ≤ n) (hne : l ≠ []) (hl : l.length ≤ 100) (hb : ∀ b ∈ l, b.size ≤ 1000) : EvS prog w n env Γ (.FormattedValue e 114 none pos) 1000000 := fun A O G s r g => by
  refine wpAny_FormattedValue_repr (h.use r g fun v G1 s1 g1 gd1 q => ?_)
  obtain ⟨a, vs, ep, rfl, hG, rl⟩ := rep_lst q
  have hU := r.units
  have ho := gd1.wld.sub _ _ hG
  refine wpAny_pyReprObj_slot (by simp [cLine]; omega) ⟨_, ho, rfl⟩ F.slot_list_repr.toG (repr_call hne hl hb rl r.guards (by simp [cLine]; omega) ho fun h' x u tk hk hx => ⟨_, _, rfl, ?_⟩)
  have g2 : Grow w Pure No G1 s1 G1 { s1 with heap := h', toks := tk } := Grow.keeps (dr := s1.drawn) gd1.wld hk
  refine wpAny_formatField_str ⟨G1, g1.trans' g2, x, u, rfl, hx⟩ ⟨G1, (g1.trans' g2).trans' (.toks g2.wld), x, _, rfl, hx⟩ (by simp [sizeLine]; omega)

theorem exp_weak {t : Sem Flow} {x : Lcl} (h : ExP prog w n env O Γ t (.next x)) : ExP prog w n env O Γ t (.next ⟨[], none⟩) := by
  intro A l G s r hf hself gd
  refine wpAny_mono (h A l G s r hf hself gd) (fun fl s' ⟨G', g, q⟩ => ⟨G', g, q.1, q.2.toE⟩) fun x s' ⟨q, _⟩ => by cases q

theorem fn_of' {fa : Addr} {names : List Str} {ps : List PV} {o : Out} (hfo : (topK w).lookup fa = some { cls := .type "function", data := .func (fdOf w fa) }) (hb : fnB (fdOf w fa) names = true) (hbody : (fdOf w fa).body = .stmts (bodyOf w fa)) (hgen : (fdOf w fa).scope.isGenerator = false)
    (hcd : codeIn (topK w) (fdOf w fa).code (fdOf w fa).qualname = true) (hlen : ps.length = names.length) (hbind : ∀ vs : List Value, vs.length = names.length → bindArgs (fdOf w fa) ⟨vs, []⟩ = pure (names.zip vs))
    (run : ∀ env, EnvOk w fa env → ExP prog w n env none ⟨names.zip ps, none⟩ (execs (bodyOf w fa) env) o) : Fn prog w n fa ps o :=
  fn_of hfo hb hbody hgen hcd hlen (fun vs s hv _ => bindsTo_of (hbind vs hv)) run

/-- _assert_header_in_set -/
theorem fn_assert {b : B} {S : List B} (hb : b.size ≤ 1000) (hS : S.length ≤ 4000) : Fn prog w n 235 [.byt b, setPV prog w S] (if S.contains b then .next ⟨[], none⟩ else .err) := by
  refine fn_of' (names := ["bytes_header", "header_set"]) (by kernel_rfl) (by kernel_rfl) (by kernel_rfl) (by kernel_rfl) (by kernel_rfl) rfl (fun vs hv => ?_) fun env ok => ?_
  · obtain ⟨a, b, rfl⟩ := vs2 hv
    kernel_rfl
  conv in bodyOf w 235 => whnf
  have k1 := ok.k "msg" .local (by kernel_rfl)
  have k2 := ok.k "ProtocolError" .globalImplicit (by kernel_rfl)
  have h1 : (⟨(["bytes_header", "header_set"] : List Str).zip [PV.byt b, setPV prog w S], none⟩ : Lcl).vars.lookup ("bytes_header" : Str) = some (.byt b) := by rfl
  have h2 : (⟨(["bytes_header", "header_set"] : List Str).zip [PV.byt b, setPV prog w S], none⟩ : Lcl).vars.lookup ("header_set" : Str) = some (setPV prog w S) := by rfl
  refine exp_cons (exp_doc ok.inter) ?_
  cases hc : S.contains b with
  | true => exact exp_weak (exp_cons1 (exp_iff (evt_cmp (ev_name h1) (ev_name h2) (cmp_notin_set hS)) (by rw [hc]; rfl) exp_nil))
  | false =>
    rw [if_neg Bool.false_ne_true]
    exact exp_cons1 (exp_ift (evt_cmp (ev_name h1) (ev_name h2) (cmp_notin_set hS)) (by rw [hc]; rfl) (exp_msg_raise (ev_joined (evj_cons (evs_const (m := 1000) (by decide)) (evj_cons (evs_repr (ev_name h1) (Nat.le_trans hb (by omega))) (evj_cons (evs_const (m := 1000) (by decide)) evj_nil))) (by omega)) k1 k2 rfl (by decide)))
end
end Mine

namespace Mine
open PySem PySem.W PySem.Calls PyProof.Rows

noncomputable def bStatus : B := [58, 115, 116, 97, 116, 117, 115].toArray
noncomputable def bMethod : B := [58, 109, 101, 116, 104, 111, 100].toArray
noncomputable def bScheme : B := [58, 115, 99, 104, 101, 109, 101].toArray
noncomputable def bPath : B := [58, 112, 97, 116, 104].toArray
noncomputable def bProtocol : B := [58, 112, 114, 111, 116, 111, 99, 111, 108].toArray
noncomputable def bAuthority : B := [58, 97, 117, 116, 104, 111, 114, 105, 116, 121].toArray
noncomputable def bConnect : B := [67, 79, 78, 78, 69, 67, 84].toArray
noncomputable def bHost : B := [104, 111, 115, 116].toArray
noncomputable def reqOnly : List B := [bScheme, bPath, bAuthority, bMethod, bProtocol]
noncomputable def respOnly : List B := [bStatus]
noncomputable def connOnly : List B := [bProtocol]
noncomputable def allowed : List B := [bMethod, bScheme, bAuthority, bPath, bStatus, bProtocol]

/-- what _check_pseudo_header_field_acceptability lets pass -/
noncomputable def acceptB (S : List B) (method : Option B) (tr rs : Bool) : Bool :=
  !(tr && S.length != 0) &&
    (if rs then S.contains bStatus && (reqOnly.filter S.contains).length == 0
     else if tr then true
     else S.contains bMethod &&
      (let ic := method == some bConnect
       (if ic && !S.contains bProtocol then !(S.contains bScheme || S.contains bPath) else S.contains bScheme && S.contains bPath) &&
        (respOnly.filter S.contains).length == 0 && (ic || (connOnly.filter S.contains).length == 0)))

noncomputable def optPV : Option B → PV
  | none => .none
  | some b => .byt b

section
variable {prog : Program} {w : World} {n : Nat} {env : Env} {O : Option Addr} {Γ Γ' : Lcl}

theorem exp_acomp {elt target iter : Expr} {ifs : List Expr} {scope : Scope} {cl : List (Str × Addr)} {cpos yp pos : Pos} {y : Str} {ins outs : List PV} {Γc : Lcl} (hit : EvItS prog w n env Γ iter ins) (ok : CompOk scope cl env Γ Γc) (hlen : ins.length ≤ 1000000)
    (L : ∀ C, CompE prog w n (compEnvC scope cl C env) target ifs elt Γc ins outs) (hl : env.kindOf y = some .local) (hown : ∀ z d, Γ.own = some (z, d) → z ≠ y)
    (hline : (yp.line == cpos.line) = true := by rfl) (hany : (scope.names.any fun x => x.1 == y && (x.2 == .local || x.2 == .cell)) = false := by rfl) (hs : ∀ x, foldedSetIterable iter env x = pure x := by intro _; rfl) :
    ExP prog w n env O Γ (exec (.Assign [.Name y yp] (.ListComp elt [⟨target, iter, ifs, 0⟩] scope cpos) pos) env) (.next (Γ.set y (.lst outs))) := by
  intro A l G s rm hf hself gd
  refine exp_assign_comp hit ok hlen L hl hown ?_ hs A l G s rm hf hself gd
  have hk : env.blockKind = .function := by unfold Env.blockKind; rw [gd.kind]; rfl
  show (pure (env.blockKind == .function && env.kindOf y == some .local && yp.line == cpos.line && !(scope.names.any fun x => x.1 == y && (x.2 == .local || x.2 == .cell))) : Sem Bool) = pure true
  rw [hk, hl, hline, hany]; rfl

theorem g_req : nsIn (topK w) mainGlobals "_REQUEST_ONLY_HEADERS" = some (some (.ref 107)) := by kernel_rfl
theorem o_req : (topK w).lookup 107 = some { cls := .type "tuple", data := .seq (itemsOf w 107) (epS w 107) } := by kernel_rfl
theorem b_req : TupB reqOnly (itemsOf w 107).toList := ⟨by kernel_rfl, by kernel_rfl⟩
theorem ev_req {pos : Pos} (hk : env.kindOf "_REQUEST_ONLY_HEADERS" = some .globalImplicit) : EvP prog w n env Γ (.Name "_REQUEST_ONLY_HEADERS" pos) (.tup (reqOnly.map .byt)) := ev_tupname hk g_req o_req b_req (by decide +kernel)
theorem g_resp : nsIn (topK w) mainGlobals "_RESPONSE_ONLY_HEADERS" = some (some (.ref 108)) := by kernel_rfl
theorem o_resp : (topK w).lookup 108 = some { cls := .type "tuple", data := .seq (itemsOf w 108) (epS w 108) } := by kernel_rfl
theorem b_resp : TupB respOnly (itemsOf w 108).toList := ⟨by kernel_rfl, by kernel_rfl⟩
theorem ev_resp {pos : Pos} (hk : env.kindOf "_RESPONSE_ONLY_HEADERS" = some .globalImplicit) : EvP prog w n env Γ (.Name "_RESPONSE_ONLY_HEADERS" pos) (.tup (respOnly.map .byt)) := ev_tupname hk g_resp o_resp b_resp (by decide +kernel)
theorem g_cro : nsIn (topK w) mainGlobals "_CONNECT_REQUEST_ONLY_HEADERS" = some (some (.ref 109)) := by kernel_rfl
theorem o_cro : (topK w).lookup 109 = some { cls := .type "tuple", data := .seq (itemsOf w 109) (epS w 109) } := by kernel_rfl
theorem b_cro : TupB connOnly (itemsOf w 109).toList := ⟨by kernel_rfl, by kernel_rfl⟩
theorem ev_cro {pos : Pos} (hk : env.kindOf "_CONNECT_REQUEST_ONLY_HEADERS" = some .globalImplicit) : EvP prog w n env Γ (.Name "_CONNECT_REQUEST_ONLY_HEADERS" pos) (.tup (connOnly.map .byt)) := ev_tupname hk g_cro o_cro b_cro (by decide +kernel)

/-- the scope of [name for name in .. if name in pseudo_headers] -/
noncomputable def scPs : Scope := { kind := .function, names := [(".0", .local), ("name", .local), ("pseudo_headers", .free)], isGenerator := false, isCoroutine := false, more := [] }

theorem compE_ps {cenv : Env} {S : List B} {p1 p2 p3 p4 p5 : Pos} (hk : cenv.kindOf "name" = some .local) (hS : S.length ≤ 4000) : ∀ {l : List B} {Γc : Lcl}, Γc.own = none → Γc.vars.lookup ("pseudo_headers" : Str) = some (setPV prog w S) →
    CompE prog w n cenv (.Name "name" p1) [.Compare (.Name "name" p2) [.In] [.Name "pseudo_headers" p3] p4] (.Name "name" p5) Γc (l.map .byt) ((l.filter S.contains).map .byt)
  | [], Γc, _, _ => .nil _
  | b :: l, Γc, ho, hv => by
    have hn : (Γc.set "name" (.byt b)).vars.lookup ("name" : Str) = some (.byt b) := by simp [Lcl.set]
    have hv' : (Γc.set "name" (.byt b)).vars.lookup ("pseudo_headers" : Str) = some (setPV prog w S) := by
      unfold Lcl.set; rw [List.lookup_cons, show (("pseudo_headers" : Str) == ("name" : Str)) = false from by decide]; exact hv
    have ha : Asg prog w n cenv Γc (.Name "name" p1) (.byt b) (Γc.set "name" (.byt b)) := asg_name hk (fun z d q => by rw [ho] at q; cases q)
    have ht : EvT prog w n cenv (Γc.set "name" (.byt b)) (.Compare (.Name "name" p2) [.In] [.Name "pseudo_headers" p3] p4) (S.contains b) := evt_cmp (ev_name hn) (ev_name hv') (cmp_in_set hS)
    rw [List.filter_cons]
    cases hc : S.contains b with
    | true =>
      rw [hc] at ht
      exact .take ha (ifs_one ht) (ev_name hn) (compE_ps hk hS ho hv')
    | false =>
      rw [hc] at ht
      exact .skip ha (ifs_one ht) (compE_ps hk hS ho hv')

theorem compOk_ps {c : Addr} {S : List B} (hc : env.cells = [(("pseudo_headers" : Str), c)]) (hk : env.scope.kind = .function) (hk2 : env.kindOf "pseudo_headers" = some .cell) (hv : Γ.vars.lookup ("pseudo_headers" : Str) = some (setPV prog w S)) :
    CompOk scPs [(("pseudo_headers" : Str), c)] env Γ ⟨[("pseudo_headers", setPV prog w S)], none⟩ where
  clos := closureFor_one hc (by decide)
  cell := by decide
  kind := rfl
  names := by decide
  own := rfl
  free := fun x p h => by
    rw [List.lookup_cons] at h
    cases hx : x == ("pseudo_headers" : Str) with
    | true =>
      have e : x = "pseudo_headers" := by simpa using hx
      subst e
      rw [hx] at h; cases h
      refine ⟨hv, hk2, ?_, by rw [hc]⟩
      simp only [relabel, scPs, List.map_cons, List.map_nil, hk, hk2, show (NameKind.local == NameKind.free) = false from rfl, Bool.false_and, Bool.false_eq_true, if_false, show (NameKind.free == NameKind.free) = true from rfl, show (ScopeKind.function == ScopeKind.function) = true from rfl, show ((some NameKind.cell : Option NameKind) == some NameKind.cell) = true from rfl, Bool.and_self, if_true]
      decide
    | false => rw [hx] at h; cases h

/-- y = [name for name in T if name in pseudo_headers] -/
theorem exp_ps {S : List B} {c : Addr} {l : List B} {iter : Expr} {y : Str} {p1 p2 p3 p4 p5 cpos yp pos : Pos} (hc : env.cells = [(("pseudo_headers" : Str), c)]) (hk2 : env.kindOf "pseudo_headers" = some .cell) (hS : S.length ≤ 4000)
    (hv : Γ.vars.lookup ("pseudo_headers" : Str) = some (setPV prog w S)) (hown : Γ.own = none) (hi : EvP prog w n env Γ iter (.tup (l.map .byt))) (hl : l.length ≤ 100) (hy : env.kindOf y = some .local) (hline : (yp.line == cpos.line) = true) (hany : (scPs.names.any fun x => x.1 == y && (x.2 == .local || x.2 == .cell)) = false)
    (hs : ∀ x, foldedSetIterable iter env x = pure x) :
    ExP prog w n env O Γ (exec (.Assign [.Name y yp] (.ListComp (.Name "name" p5) [⟨.Name "name" p1, iter, [.Compare (.Name "name" p2) [.In] [.Name "pseudo_headers" p3] p4], 0⟩] scPs cpos) pos) env) (.next (Γ.set y (.lst ((l.filter S.contains).map .byt)))) := by
  intro A lf G s rm hf hself gd
  refine exp_acomp (evItS_tuple hi hs) (compOk_ps hc gd.kind hk2 hv) (by rw [List.length_map]; omega) (fun C => compE_ps ?_ hS rfl (by simp)) hy (fun z d q => by rw [hown] at q; cases q) hline hany hs A lf G s rm hf hself gd
  show (relabel scPs env).names.lookup ("name" : Str) = some .local
  exact lookup_relabel_local (by decide)
end
end Mine

namespace Mine
open PySem PySem.W PySem.Calls PyProof.Rows

section
variable {prog : Program} {w : World} {n : Nat} {env : Env} {O : Option Addr} {Γ Γ' : Lcl}

theorem exp_assertok {S : List B} {b : B} {l : List UInt8} {k : Nat} {p1 p2 p3 p4 p5 : Pos} (hl : l.toArray = b) (hb : b.size ≤ 1000) (hS : S.length ≤ 4000) (hk : env.kindOf "_assert_header_in_set" = some .globalImplicit) (hi : interactive env = false)
    (hv : Γ.vars.lookup ("pseudo_headers" : Str) = some (setPV prog w S)) (hc : S.contains b = true) :
    ExP prog w (n+1) env O Γ (exec (.Expr (.Call (.Name "_assert_header_in_set" p1) [.Constant (.bytes l) k p2, .Name "pseudo_headers" p3] [] p4) p5) env) (.next Γ) := by
  subst hl
  have hf := fn_assert (prog := prog) (w := w) (n := n) hb hS
  rw [hc, if_pos rfl] at hf
  exact exp_do (out_call (ev_global (p := .oth (.ref 235)) hk (by kernel_rfl) (fun _ _ => by unfold Rep; rfl) (by decide +kernel)) (args_cons (evl_cons ev_bytes (evl_cons (ev_name hv) evl_nil))) (by kernel_rfl) hf).ev0 hi
theorem exp_asserterr {S : List B} {b : B} {l : List UInt8} {k : Nat} {p1 p2 p3 p4 p5 : Pos} (hl : l.toArray = b) (hb : b.size ≤ 1000) (hS : S.length ≤ 4000) (hk : env.kindOf "_assert_header_in_set" = some .globalImplicit) (hi : interactive env = false)
    (hv : Γ.vars.lookup ("pseudo_headers" : Str) = some (setPV prog w S)) (hc : S.contains b = false) :
    ExP prog w (n+1) env O Γ (exec (.Expr (.Call (.Name "_assert_header_in_set" p1) [.Constant (.bytes l) k p2, .Name "pseudo_headers" p3] [] p4) p5) env) .err := by
  subst hl
  have hf := fn_assert (prog := prog) (w := w) (n := n) hb hS
  rw [hc, if_neg Bool.false_ne_true] at hf
  exact exp_do_err (out_call (ev_global (p := .oth (.ref 235)) hk (by kernel_rfl) (fun _ _ => by unfold Rep; rfl) (by decide +kernel)) (args_cons (evl_cons ev_bytes (evl_cons (ev_name hv) evl_nil))) (by kernel_rfl) hf) hi

theorem lookup_skip {x y : Str} {p : PV} {Γ : Lcl} {q : Option PV} (h : Γ.vars.lookup x = q) (hne : (x == y) = false) : (Γ.set y p).vars.lookup x = q := by
  unfold Lcl.set; rw [List.lookup_cons, hne]; exact h
theorem lookup_here {y : Str} {p : PV} {Γ : Lcl} : (Γ.set y p).vars.lookup y = some p := by simp [Lcl.set]
theorem filter_small {S : List B} {l : List B} (h : ∀ b ∈ l, b.size ≤ 1000) : ∀ b ∈ l.filter S.contains, b.size ≤ 1000 := fun b hb => h b (List.mem_filter.mp hb).1
theorem truth_lst {l : List B} : (PV.lst (l.map .byt)).truth = !(l.length == 0) := by
  show ((l.map PV.byt).length != 0) = _
  rw [List.length_map]; rfl
theorem ne_of_len {l : List B} (h : (l.length == 0) = false) : l ≠ [] := fun e => by rw [e] at h; cases h
theorem size_le {l : List B} {S : List B} : (l.filter S.contains).length ≤ l.length := List.length_filter_le _ _

theorem fn_accept {S : List B} {method : Option B} {a tr rs d : Bool} (hS : S.length ≤ 1000) (hm : S.contains bMethod = true → ∃ m, method = some m) :
    Fn prog w (n+3) 247 [setPV prog w S, optPV method, .flg a tr rs d] (if acceptB S method tr rs then .next ⟨[], none⟩ else .err) := by
  have hS4 : S.length ≤ 4000 := by omega
  refine fn_ofC (names := ["pseudo_headers", "method", "hdr_validation_flags"]) (xc := "pseudo_headers") (by kernel_rfl) (by kernel_rfl) (by kernel_rfl) (by kernel_rfl) (by kernel_rfl) rfl (by decide +kernel) (fun vs hv => ?_) fun env ok hcell => ?_
  · obtain ⟨a, b, c, rfl⟩ := vs3 hv
    kernel_rfl
  obtain ⟨c, hc⟩ := hcell
  conv in bodyOf w 247 => whnf
  have k1 := ok.k "msg" .local (by kernel_rfl)
  have k2 := ok.k "ProtocolError" .globalImplicit (by kernel_rfl)
  have k3 := ok.k "_assert_header_in_set" .globalImplicit (by kernel_rfl)
  have k4 := ok.k "pseudo_headers" .cell (by kernel_rfl)
  have k5 := ok.k "invalid_response_headers" .local (by kernel_rfl)
  have k6 := ok.k "_REQUEST_ONLY_HEADERS" .globalImplicit (by kernel_rfl)
  have k7 := ok.k "is_connect" .local (by kernel_rfl)
  have k8 := ok.k "is_extended_connect" .local (by kernel_rfl)
  have k9 := ok.k "invalid_request_headers" .local (by kernel_rfl)
  have k10 := ok.k "_RESPONSE_ONLY_HEADERS" .globalImplicit (by kernel_rfl)
  have k11 := ok.k "invalid_headers" .local (by kernel_rfl)
  have k12 := ok.k "_CONNECT_REQUEST_ONLY_HEADERS" .globalImplicit (by kernel_rfl)
  have hps : (⟨(["pseudo_headers", "method", "hdr_validation_flags"] : List Str).zip [setPV prog w S, optPV method, .flg a tr rs d], none⟩ : Lcl).vars.lookup ("pseudo_headers" : Str) = some (setPV prog w S) := by rfl
  have hmt : (⟨(["pseudo_headers", "method", "hdr_validation_flags"] : List Str).zip [setPV prog w S, optPV method, .flg a tr rs d], none⟩ : Lcl).vars.lookup ("method" : Str) = some (optPV method) := by rfl
  have hfl : (⟨(["pseudo_headers", "method", "hdr_validation_flags"] : List Str).zip [setPV prog w S, optPV method, .flg a tr rs d], none⟩ : Lcl).vars.lookup ("hdr_validation_flags" : Str) = some (.flg a tr rs d) := by rfl
  have hown : (⟨(["pseudo_headers", "method", "hdr_validation_flags"] : List Str).zip [setPV prog w S, optPV method, .flg a tr rs d], none⟩ : Lcl).own = none := rfl
  generalize hΓ : (⟨(["pseudo_headers", "method", "hdr_validation_flags"] : List Str).zip [setPV prog w S, optPV method, .flg a tr rs d], none⟩ : Lcl) = Γ at hps hmt hfl hown ⊢
  have etr : ∀ p1 p2, EvT prog w (n+3) env Γ (.Attribute (.Name "hdr_validation_flags" p1) "is_trailer" p2) tr := fun p1 p2 => evt_value (p := .bool tr) (ev_trailer (ev_name hfl)) tr_bool
  have ers : ∀ p1 p2, EvT prog w (n+3) env Γ (.Attribute (.Name "hdr_validation_flags" p1) "is_response_header" p2) rs := fun p1 p2 => evt_value (p := .bool rs) (ev_response (ev_name hfl)) tr_bool
  have epsT : ∀ p1, EvT prog w (n+3) env Γ (.Name "pseudo_headers" p1) (S.length != 0) := fun p1 => evt_value (p := setPV prog w S) (ev_name hps) (tr_set hS4)
  have small : ∀ b ∈ reqOnly ++ respOnly ++ connOnly, b.size ≤ 1000 := by decide
  refine exp_cons (exp_doc ok.inter) ?_
  unfold acceptB
  cases h1 : tr && S.length != 0 with
  | true =>
    rw [if_neg (by simp)]
    exact exp_stop (exp_ift (evt_boolop (eva_and (etr _ _) fun _ => eva_and (epsT _) fun _ => eva_and_nil)) (by rw [Bool.and_true]; exact h1) (exp_msg_raise ev_str k1 k2 hown (by decide))) (by simp)
  | false =>
  rw [Bool.not_false, Bool.true_and]
  refine exp_cons (exp_iff (evt_boolop (eva_and (etr _ _) fun _ => eva_and (epsT _) fun _ => eva_and_nil)) (by rw [Bool.and_true]; exact h1) exp_nil) (exp_cons1 ?_)
  cases rs with
  | true =>
    rw [if_pos rfl]
    refine exp_ift (ers _ _) rfl ?_
    cases h2 : S.contains bStatus with
    | false =>
      rw [if_neg (by simp)]
      exact exp_stop (exp_asserterr (b := bStatus) rfl (by decide) hS4 k3 ok.inter hps h2) (by simp)
    | true =>
      rw [Bool.true_and]
      refine exp_cons (exp_assertok (b := bStatus) rfl (by decide) hS4 k3 ok.inter hps h2) (exp_cons (exp_ps (l := reqOnly) hc k4 hS4 hps hown (ev_req k6) (by decide) k5 rfl (by decide) (fun v => rfl)) (exp_cons1 ?_))
      cases h3 : (reqOnly.filter S.contains).length == 0 with
      | true =>
        rw [if_pos rfl]
        exact exp_weak (exp_iff (evt_value (ev_name lookup_here) (tr_list (by rw [List.length_map]; have := size_le (l := reqOnly) (S := S); have e : reqOnly.length = 5 := rfl; omega))) (by rw [truth_lst, h3]; rfl) exp_nil)
      | false =>
        rw [if_neg (by simp)]
        exact exp_ift (evt_value (ev_name lookup_here) (tr_list (by rw [List.length_map]; have := size_le (l := reqOnly) (S := S); have e : reqOnly.length = 5 := rfl; omega))) (by rw [truth_lst, h3]; rfl)
          (exp_msg_raise (ev_joined (evj_cons (evs_const (m := 1000) (by decide)) (evj_cons (evs_list (ev_name lookup_here) (by omega) (ne_of_len h3) (by have := size_le (l := reqOnly) (S := S); have e : reqOnly.length = 5 := rfl; omega) (filter_small (by decide))) evj_nil)) (by omega)) k1 k2 hown (by decide))
  | false =>
  rw [if_neg Bool.false_ne_true]
  refine exp_iff (ers _ _) rfl (exp_cons1 ?_)
  cases tr with
  | true =>
    rw [if_pos rfl, if_pos rfl]
    exact exp_weak (exp_iff (evt_boolop (eva_and (evt_not (ers _ _)) fun _ => eva_and (evt_not (etr _ _)) fun _ => eva_and_nil)) rfl exp_nil)
  | false =>
  rw [if_neg Bool.false_ne_true]
  refine exp_ift (evt_boolop (eva_and (evt_not (ers _ _)) fun _ => eva_and (evt_not (etr _ _)) fun _ => eva_and_nil)) rfl ?_
  cases h2 : S.contains bMethod with
  | false =>
    rw [if_neg (by simp)]
    exact exp_stop (exp_asserterr (b := bMethod) rfl (by decide) hS4 k3 ok.inter hps h2) (by simp)
  | true =>
  rw [Bool.true_and]
  obtain ⟨m, rfl⟩ := hm h2
  refine exp_cons (exp_assertok (b := bMethod) rfl (by decide) hS4 k3 ok.inter hps h2) ?_
  have hic : (some m == some bConnect) = (m == bConnect) := by rw [Bool.eq_iff_iff]; simp
  rw [hic]
  generalize hicv : (m == bConnect) = ic
  refine exp_cons (exp_assign (p := .bool ic) (ev_eq (ev_cmp (p := .byt m) (ev_name hmt) ev_bytes cmp_eq_byt) (by rw [← hicv]; rfl)) k7 (fun z d q => by rw [hown] at q; cases q)) ?_
  have hps1 := lookup_skip (y := ("is_connect" : Str)) (p := .bool ic) hps (by decide)
  have hic1 : (Γ.set "is_connect" (.bool ic)).vars.lookup ("is_connect" : Str) = some (.bool ic) := lookup_here
  have hown1 : (Γ.set "is_connect" (.bool ic)).own = none := hown
  generalize (Γ.set "is_connect" (.bool ic)) = Γ1 at hps1 hic1 hown1 ⊢
  refine exp_cons (exp_assign (p := .bool (ic && S.contains bProtocol)) (ev_eq (ev_and2 (p := .bool ic) (q := .bool (S.contains bProtocol)) (ev_name hic1) tr_bool fun _ => ev_cmp ev_bytes (ev_name hps1) (cmp_in_set hS4)) (by cases ic <;> rfl)) k8 (fun z d q => by rw [hown1] at q; cases q)) ?_
  have hps2 := lookup_skip (y := ("is_extended_connect" : Str)) (p := .bool (ic && S.contains bProtocol)) hps1 (by decide)
  have hic2 := lookup_skip (y := ("is_extended_connect" : Str)) (p := .bool (ic && S.contains bProtocol)) hic1 (by decide)
  have hec2 : (Γ1.set "is_extended_connect" (.bool (ic && S.contains bProtocol))).vars.lookup ("is_extended_connect" : Str) = some (.bool (ic && S.contains bProtocol)) := lookup_here
  have hown2 : (Γ1.set "is_extended_connect" (.bool (ic && S.contains bProtocol))).own = none := hown1
  generalize (Γ1.set "is_extended_connect" (.bool (ic && S.contains bProtocol))) = Γ2 at hps2 hic2 hec2 hown2 ⊢
  have eic : ∀ p, EvT prog w (n+3) env Γ2 (.Name "is_connect" p) ic := fun p => evt_value (p := .bool ic) (ev_name hic2) tr_bool
  have eec : ∀ p, EvT prog w (n+3) env Γ2 (.Name "is_extended_connect" p) (ic && S.contains bProtocol) := fun p => evt_value (p := .bool (ic && S.contains bProtocol)) (ev_name hec2) tr_bool
  -- the last three statements
  have tail : ∀ rest, (∃ r, ExP prog w (n+3) env none Γ2 (execs rest env) r ∧ r = (if (respOnly.filter S.contains).length == 0 && (ic || (connOnly.filter S.contains).length == 0) then .next ⟨[], none⟩ else .err)) → ∀ st bb, ((bb = true → ExP prog w (n+3) env none Γ2 (exec st env) (.next Γ2)) ∧ (bb = false → ExP prog w (n+3) env none Γ2 (exec st env) .err)) →
      ExP prog w (n+3) env none Γ2 (execs (st :: rest) env) (if bb && (respOnly.filter S.contains).length == 0 && (ic || (connOnly.filter S.contains).length == 0) then .next ⟨[], none⟩ else .err) := by
    intro rest ⟨r, hr, e⟩ st bb ⟨h1, h2⟩
    subst e
    cases bb with
    | true => rw [Bool.true_and]; exact exp_cons (h1 rfl) hr
    | false => rw [Bool.false_and, Bool.false_and, if_neg Bool.false_ne_true]; exact exp_stop (h2 rfl) (by simp)
  refine tail _ ⟨_, ?_, rfl⟩ _ _ ⟨fun hbb => ?_, fun hbb => ?_⟩
  · -- invalid_request_headers ..
    refine exp_cons (exp_ps (l := respOnly) hc k4 hS4 hps2 hown2 (ev_resp k10) (by decide) k9 rfl (by decide) (fun v => rfl)) ?_
    cases h3 : (respOnly.filter S.contains).length == 0 with
    | false =>
      rw [Bool.false_and, if_neg Bool.false_ne_true]
      exact exp_stop (exp_ift (evt_value (ev_name lookup_here) (tr_list (by rw [List.length_map]; have := size_le (l := respOnly) (S := S); have e : respOnly.length = 1 := rfl; omega))) (by rw [truth_lst, h3]; rfl)
          (exp_msg_raise (ev_joined (evj_cons (evs_const (m := 1000) (by decide)) (evj_cons (evs_list (ev_name lookup_here) (by omega) (ne_of_len h3) (by have := size_le (l := respOnly) (S := S); have e : respOnly.length = 1 := rfl; omega) (filter_small (by decide))) evj_nil)) (by omega)) k1 k2 hown2 (by decide))) (by simp)
    | true =>
    rw [Bool.true_and]
    refine exp_cons (exp_iff (evt_value (ev_name lookup_here) (tr_list (by rw [List.length_map]; have := size_le (l := respOnly) (S := S); have e : respOnly.length = 1 := rfl; omega))) (by rw [truth_lst, h3]; rfl) exp_nil) (exp_cons1 ?_)
    have eic3 : ∀ p, EvT prog w (n+3) env (Γ2.set "invalid_request_headers" (.lst ((respOnly.filter S.contains).map .byt))) (.UnaryOp .Not (.Name "is_connect" p) p) (!ic) := fun p => evt_not (evt_value (p := .bool ic) (ev_name (lookup_skip hic2 (by decide))) tr_bool)
    cases hicc : ic with
    | true =>
      rw [Bool.true_or, if_pos rfl]
      exact exp_weak (exp_iff (evt_not (evt_value (p := .bool ic) (ev_name (lookup_skip hic2 (by decide))) tr_bool)) (by rw [hicc]; rfl) exp_nil)
    | false =>
    rw [Bool.false_or]
    refine exp_ift (evt_not (evt_value (p := .bool ic) (ev_name (lookup_skip hic2 (by decide))) tr_bool)) (by rw [hicc]; rfl) ?_
    refine exp_cons (exp_ps (l := connOnly) hc k4 hS4 (lookup_skip hps2 (by decide)) hown2 (ev_cro k12) (by decide) k11 rfl (by decide) (fun v => rfl)) (exp_cons1 ?_)
    cases h4 : (connOnly.filter S.contains).length == 0 with
    | true =>
      rw [if_pos rfl]
      exact exp_weak (exp_iff (evt_value (ev_name lookup_here) (tr_list (by rw [List.length_map]; have := size_le (l := connOnly) (S := S); have e : connOnly.length = 1 := rfl; omega))) (by rw [truth_lst, h4]; rfl) exp_nil)
    | false =>
      rw [if_neg Bool.false_ne_true]
      exact exp_ift (evt_value (ev_name lookup_here) (tr_list (by rw [List.length_map]; have := size_le (l := connOnly) (S := S); have e : connOnly.length = 1 := rfl; omega))) (by rw [truth_lst, h4]; rfl)
          (exp_msg_raise (ev_joined (evj_cons (evs_const (m := 1000) (by decide)) (evj_cons (evs_listr (ev_name lookup_here) (by omega) (ne_of_len h4) (by have := size_le (l := connOnly) (S := S); have e : connOnly.length = 1 := rfl; omega) (filter_small (by decide))) evj_nil)) (by omega)) k1 k2 hown2 (by decide))
  · -- passes
    by_cases hq : (ic && !S.contains bProtocol) = true
    · rw [if_pos hq] at hbb
      have hq' : ic = true ∧ S.contains bProtocol = false := by simpa using hq
      refine exp_ift (evt_boolop (eva_and (eic _) fun _ => eva_and (evt_not (eec _)) fun _ => eva_and_nil)) (by rw [hq'.1, hq'.2]; rfl) (exp_cons1 ?_)
      exact exp_iff (evt_boolop (eva_or (evt_cmp ev_bytes (ev_name hps2) (cmp_in_set hS4)) fun _ => eva_or (evt_cmp ev_bytes (ev_name hps2) (cmp_in_set hS4)) fun _ => eva_or_nil)) (by rw [Bool.or_false]; show (S.contains bScheme || S.contains bPath) = false; simpa using hbb) exp_nil
    · rw [if_neg hq] at hbb
      simp only [Bool.and_eq_true] at hbb
      have hq' : (ic && !(ic && S.contains bProtocol)) = false := by revert hq; cases ic <;> cases S.contains bProtocol <;> simp
      refine exp_iff (evt_boolop (eva_and (eic _) fun _ => eva_and (evt_not (eec _)) fun _ => eva_and_nil)) (by rw [Bool.and_true]; exact hq') (exp_cons1 ?_)
      refine exp_if (eec _) (fun _ => ?_) (fun _ => ?_)
      · exact exp_cons (exp_assertok (b := bScheme) rfl (by decide) hS4 k3 ok.inter hps2 hbb.1) (exp_cons1 (exp_assertok (b := bPath) rfl (by decide) hS4 k3 ok.inter hps2 hbb.2))
      · exact exp_cons (exp_assertok (b := bScheme) rfl (by decide) hS4 k3 ok.inter hps2 hbb.1) (exp_cons1 (exp_assertok (b := bPath) rfl (by decide) hS4 k3 ok.inter hps2 hbb.2))
  · -- refused
    by_cases hq : (ic && !S.contains bProtocol) = true
    · rw [if_pos hq] at hbb
      have hq' : ic = true ∧ S.contains bProtocol = false := by simpa using hq
      refine exp_ift (evt_boolop (eva_and (eic _) fun _ => eva_and (evt_not (eec _)) fun _ => eva_and_nil)) (by rw [hq'.1, hq'.2]; rfl) (exp_cons1 ?_)
      exact exp_ift (evt_boolop (eva_or (evt_cmp ev_bytes (ev_name hps2) (cmp_in_set hS4)) fun _ => eva_or (evt_cmp ev_bytes (ev_name hps2) (cmp_in_set hS4)) fun _ => eva_or_nil)) (by rw [Bool.or_false]; show (S.contains bScheme || S.contains bPath) = true; revert hbb; cases S.contains bScheme <;> cases S.contains bPath <;> simp) (exp_msg_raise ev_str k1 k2 hown2 (by decide))
    · rw [if_neg hq] at hbb
      have hq' : (ic && !(ic && S.contains bProtocol)) = false := by revert hq; cases ic <;> cases S.contains bProtocol <;> simp
      refine exp_iff (evt_boolop (eva_and (eic _) fun _ => eva_and (evt_not (eec _)) fun _ => eva_and_nil)) (by rw [Bool.and_true]; exact hq') (exp_cons1 ?_)
      refine exp_if (eec _) (fun _ => ?_) (fun _ => ?_)
      all_goals
        cases hs : S.contains bScheme with
        | false => exact exp_stop (exp_asserterr (b := bScheme) rfl (by decide) hS4 k3 ok.inter hps2 hs) (by simp)
        | true =>
          rw [hs, Bool.true_and] at hbb
          exact exp_cons (exp_assertok (b := bScheme) rfl (by decide) hS4 k3 ok.inter hps2 hs) (exp_cons1 (exp_asserterr (b := bPath) rfl (by decide) hS4 k3 ok.inter hps2 hbb))
end
end Mine

namespace Mine
open PySem PySem.W PySem.Calls PyProof.Rows

section
variable {prog : Program} {w : World} {n : Nat} {env : Env} {O : Option Addr} {Γ Γ' : Lcl} {ins outs : List PV} {e e' : End'} {a : Addr} {x : Str}

/-- what a call that gives a generator leaves behind -/
noncomputable def GenRes (prog : Program) (w : World) (m : Nat) (ρ : Res w) (G : GH) (s : Shared) (outs : List PV) (e' : End') (v : Value) (s' : Shared) : Prop :=
  GenC prog w m Pure ρ.fr ρ.gr G s outs e' v s'
/-- a function that turns what comes in; q: its other arguments; m: room that a call of it wants -/
noncomputable def StageQ (prog : Program) (w : World) (m n n' : Nat) (fa : Addr) (q : List PV) (ins : List PV) (e : End') (outs : List PV) (e' : End') : Prop :=
  ∀ A G s hv fv p ρ, Inp prog w n ins e p ρ → Rep G p hv → RepL G q fv → Wld w G s → Cx m A G s → ρ.holds G s → There ρ.fr ρ.gr s →
    codeAny (model prog w) A (.call (.ref fa) ⟨hv :: fv, []⟩) (fun r s' => ∃ v, r = .ok (.ret v) ∧ GenRes prog w n' ρ G s outs e' v s') s

theorem Stage.q {fa : Addr} {q : PV} (h : Stage prog w n fa ins e outs e') : StageQ prog w 1 n (n+2) fa [q] ins e outs e' := fun A G s hv fv p ρ hin r1 r2 W cx hρ hth => by
  obtain ⟨v, rfl, rq⟩ := repl1 r2
  exact h A G s hv v p q ρ hin r1 rq W cx hρ hth

theorem stage_ofQ {fa : Addr} {x1 : Str} {xs : List Str} {q : List PV} (hfo : (topK w).lookup fa = some { cls := .type "function", data := .func (fdOf w fa) }) (hb : fnB (fdOf w fa) (x1 :: xs) = true) (hbody : (fdOf w fa).body = .stmts (bodyOf w fa)) (hgen : (fdOf w fa).scope.isGenerator = true)
    (hcd : codeIn (topK w) (fdOf w fa).code (fdOf w fa).qualname = true) (hlen : q.length = xs.length) (hbind : ∀ hv fv, fv.length = xs.length → bindArgs (fdOf w fa) ⟨hv :: fv, []⟩ = pure ((x1 :: xs).zip (hv :: fv)))
    (run : ∀ env p ρ, EnvOk w fa env → Inp prog w n ins e p ρ → ∃ o, GsR prog w n env none ρ (Res.nil w) ⟨(x1 :: xs).zip (p :: q), none⟩ (execs (bodyOf w fa) env) outs o ∧ ((e' = .done ∧ ∃ Γ', o = .next Γ') ∨ (e' = .err ∧ o = .err))) :
    StageQ prog w 1 n (n+2) fa q ins e outs e' := by
  intro A G s hv fv p ρ hin r1 r2 W cx hρ hth
  obtain ⟨ok, hloc, hnd⟩ := fnB_ok hb hbody
  have hl2 := r2.length
  refine call_gen (binds := (x1 :: xs).zip (hv :: fv)) (Γ₀ := ⟨(x1 :: xs).zip (p :: q), none⟩) (top_in W hfo) ok hgen (code_in W hcd) (hbind hv fv (by omega)) (fun x hx => hloc _ (mem_zip_fst hx)) (param_reads (.cons r1 r2) hnd (by simp; omega) hloc) rfl W cx hρ hth fun L X h => ?_
  obtain ⟨o, hg, ho⟩ := run _ p ρ (envOk_call ok L) hin
  exact gen_body hg ho h

theorem exp_msg_raise2 {y : Str} {yp pos np mp cpos rpos : Pos} {e : Expr} {p : PV} (h : EvP prog w n env Γ e p) (hl : env.kindOf y = some .local) (hk : env.kindOf "ProtocolError" = some .globalImplicit) (hown : ∀ z d, Γ.own = some (z, d) → z ≠ y) (hd : (y == ("__debug__" : Str)) = false)
    (hs : swapsWith e (some (.Name y yp)) pos.line env = pure false := by rfl) :
    ExP prog w n env O Γ (execs [.Assign [.Name y yp] e pos, .Raise (some (.Call (.Name "ProtocolError" np) [.Name y mp] [] cpos)) none rpos] env) .err :=
  exp_cons (exp_assign h hl hown hs) (exp_cons1 (exp_raise hk (args_cons (evl_cons (ev_name (p := p) (by simp [Lcl.set]) hd) evl_nil)) (by simp)))

/-- a stage that keeps a state -/
noncomputable def runH {S : Type} (f : S → Hd → Option (List Hd × S)) : S → List Hd → End' → List Hd × S × End'
  | σ, [], e => ([], σ, e)
  | σ, h :: hs, e => match f σ h with
    | none => ([], σ, .err)
    | some (l, σ') => (l ++ (runH f σ' hs e).1, (runH f σ' hs e).2)
noncomputable def liftF {S : Type} (f : S → Hd → Option (List Hd × S)) : S → Hd → Option (List PV × S) := fun σ h => match f σ h with
  | none => none
  | some (l, σ') => some (l.map Hd.pv, σ')
theorem runF_lift {S : Type} {f : S → Hd → Option (List Hd × S)} {e : End'} : ∀ {hs : List Hd} {σ : S}, runF (liftF f) σ hs e = ((runH f σ hs e).1.map Hd.pv, (runH f σ hs e).2)
  | [], σ => rfl
  | h :: hs, σ => by
    cases hf : f σ h with
    | none =>
      have e1 : liftF f σ h = none := by unfold liftF; rw [hf]
      rw [runF, e1, runH, hf]; rfl
    | some lσ =>
      obtain ⟨l, σ'⟩ := lσ
      have e1 : liftF f σ h = some (l.map Hd.pv, σ') := by unfold liftF; rw [hf]
      rw [runF, e1, runH, hf]
      simp only [runF_lift (hs := hs) (σ := σ')]
      rw [List.map_append]

structure PsSt where
  S : List B
  reg : Bool
  m : Option B
noncomputable def fPseudo (σ : PsSt) (h : Hd) : Option (List Hd × PsSt) :=
  if h.1[0]? == some 58 then
    if σ.S.contains h.1 then none else if σ.reg then none else if !allowed.contains h.1 then none
    else some ([h], ⟨σ.S ++ [h.1], σ.reg, if h.1 == bMethod then some h.2.1 else σ.m⟩)
  else some ([h], { σ with reg := true })
noncomputable def runPseudo (tr rs : Bool) (hs : List Hd) (e : End') : List Hd × End' :=
  let r := runH fPseudo ⟨[], false, none⟩ hs e
  (r.1, match r.2.2 with | .err => .err | .done => if acceptB r.2.1.S r.2.1.m tr rs then .done else .err)

theorem g_allow : nsIn (topK w) mainGlobals "_ALLOWED_PSEUDO_HEADER_FIELDS" = some (some (.ref 105)) := by kernel_rfl
theorem o_allow : (topK w).lookup 105 = some { cls := .type "tuple", data := .seq (itemsOf w 105) (epS w 105) } := by kernel_rfl
theorem b_allow : TupB allowed (itemsOf w 105).toList := ⟨by kernel_rfl, by kernel_rfl⟩
theorem ev_allow {pos : Pos} (hk : env.kindOf "_ALLOWED_PSEUDO_HEADER_FIELDS" = some .globalImplicit) : EvP prog w n env Γ (.Name "_ALLOWED_PSEUDO_HEADER_FIELDS" pos) (.tup (allowed.map .byt)) := ev_tupname hk g_allow o_allow b_allow (by decide +kernel)
theorem ev_sigil {pos : Pos} (hk : env.kindOf "SIGIL" = some .globalImplicit) : EvP prog w n env Γ (.Name "SIGIL" pos) (.int 58) := ev_global (v := .int 58 350) hk (by kernel_rfl) (fun _ _ => mk_int) (by decide +kernel)

noncomputable def sSeen : Str := "seen_pseudo_header_fields"
noncomputable def PsR (prog : Program) (w : World) (a tr rs d : Bool) (σ : PsSt) (l : List Hd) (Γ : Lcl) : Prop :=
  ∃ vars, Γ = ⟨vars, some (sSeen, setOwn prog w σ.S)⟩ ∧ vars.lookup ("seen_regular_header" : Str) = some (.bool σ.reg) ∧ vars.lookup ("method" : Str) = some (optPV σ.m) ∧ vars.lookup ("hdr_validation_flags" : Str) = some (.flg a tr rs d) ∧
    σ.S.length + l.length ≤ 1000 ∧ (σ.S.contains bMethod = true → ∃ m, σ.m = some m)

theorem PsR.own {a tr rs d σ l Γ} (h : PsR prog w a tr rs d σ l Γ) : ∀ z d, Γ.own = some (z, d) → z ≠ ("header" : Str) := by
  obtain ⟨vars, rfl, _⟩ := h
  intro z d q; cases q; decide

noncomputable def outOf : End' → Out
  | .done => .next ⟨[], none⟩
  | .err => .err
theorem outOf_ok (e : End') : (e = .done ∧ ∃ Γ', outOf e = .next Γ') ∨ (e = .err ∧ outOf e = .err) := by cases e <;> simp [outOf]
theorem outOf_drop (e : End') : (outOf e).drop = outOf e := by cases e <;> rfl
theorem gsr_state2 {ρ : Res w} {S α : Type} {ins : List α} {g : α → PV} {y x1 : Str} {px pt pos : Pos} {body rest : List Stmt} {p : PV} {e : End'} {o : Out} {outs : List PV} {Γ : Lcl} (f : S → α → Option (List PV × S)) (R : S → List α → Lcl → Prop) (σ : S)
    (hin : Inp prog w n (ins.map g) e p ρ) (hx : Γ.vars.lookup x1 = some p) (hl : env.kindOf y = some .local) (hd : (x1 == ("__debug__" : Str)) = false) (hown : ∀ σ l Γ, R σ l Γ → ∀ z d, Γ.own = some (z, d) → z ≠ y)
    (hb : ∀ σ h tl Γ, R σ (h :: tl) Γ → match f σ h with
      | some (l, σ') => ∃ Γ', R σ' tl Γ' ∧ (Gs prog w n env O (Γ.set y (g h)) (execs body env) l (.next Γ') ∨ Gs prog w n env O (Γ.set y (g h)) (execs body env) l (.cont Γ'))
      | none => Gs prog w n env O (Γ.set y (g h)) (execs body env) [] .err) (hR : R σ ins Γ) (houts : outs = (runF f σ ins e).1)
    (h2 : (runF f σ ins e).2.2 = .done → ∀ Γ', R (runF f σ ins e).2.1 [] Γ' → Gs prog w n env O Γ' (execs rest env) [] o) (h3 : (runF f σ ins e).2.2 = .err → o = .err) :
    GsR prog w n env O ρ (Res.nil w) Γ (execs (.For (.Name y pt) (.Name x1 px) body [] pos :: rest) env) outs o := by
  subst houts
  obtain ⟨o1, L, ho⟩ := loop_state (prog := prog) (w := w) (n := n) (env := env) (O := O) (e := e) hown hb hR
  rcases ho with ⟨he, Γ', rfl, hR'⟩ | ⟨he, rfl⟩
  · have := gsr_first (gsr_for (pos := pos) (pt := pt) (px := px) hin hx hl L hd) (h2 he Γ' hR')
    rwa [List.append_nil] at this
  · rw [h3 he]
    exact gsr_stop (gsr_for hin hx hl L hd) (by simp)

theorem st_pseudo {hs : List Hd} {e : End'} {a1 tr rs d : Bool} (hsm : ∀ h ∈ hs, SmH h) (hne : ∀ h ∈ hs, h.1.size ≠ 0) (hlen : hs.length ≤ 1000) :
    StageQ prog w 1 (n+4) (n+6) 242 [.flg a1 tr rs d] (hs.map Hd.pv) e ((runPseudo tr rs hs e).1.map Hd.pv) (runPseudo tr rs hs e).2 := by
  refine stage_ofQ (x1 := "headers") (xs := ["hdr_validation_flags"]) (by kernel_rfl) (by kernel_rfl) (by kernel_rfl) (by kernel_rfl) (by kernel_rfl) rfl (fun hv fv hl => ?_) fun env p ρ ok hin => ?_
  · obtain ⟨x, rfl⟩ := vs1 hl
    kernel_rfl
  conv in bodyOf w 242 => whnf
  have kh := ok.k "header" .local (by kernel_rfl)
  have ks := ok.k "seen_pseudo_header_fields" .local (by kernel_rfl)
  have kr := ok.k "seen_regular_header" .local (by kernel_rfl)
  have km := ok.k "method" .local (by kernel_rfl)
  have k1 := ok.k "msg" .local (by kernel_rfl)
  have k2 := ok.k "ProtocolError" .globalImplicit (by kernel_rfl)
  have k3 := ok.k "SIGIL" .globalImplicit (by kernel_rfl)
  have k4 := ok.k "_ALLOWED_PSEUDO_HEADER_FIELDS" .globalImplicit (by kernel_rfl)
  have k5 := ok.k "_check_pseudo_header_field_acceptability" .globalImplicit (by kernel_rfl)
  have k6 := ok.k "set" .globalImplicit (by kernel_rfl)
  have hR0 : PsR prog w a1 tr rs d ⟨[], false, none⟩ hs ⟨("method", .none) :: ("seen_regular_header", .bool false) :: (["headers", "hdr_validation_flags"] : List Str).zip [p, .flg a1 tr rs d], some (sSeen, setOwn prog w [])⟩ :=
    ⟨_, rfl, by rfl, by rfl, by rfl, by simpa using hlen, fun h => by simp at h⟩
  have hrun := runF_lift (f := fPseudo) (e := e) (hs := hs) (σ := ⟨[], false, none⟩)
  refine ⟨Out.drop (outOf (runPseudo tr rs hs e).2), gsr_then (gs_doc ok.inter) (gsr_new (new_set (x := "seen_pseudo_header_fields") k6 (by rfl) ks) fun a => ?_), ?_⟩
  · refine gsr_then (gs_leaf (exp_assign (y := "seen_regular_header") (p := .bool false) ev_bool kr (fun z d q => by cases q; decide))) ?_
    refine gsr_then (gs_leaf (exp_assign (y := "method") (p := .none) ev_none km (fun z d q => by cases q; decide))) ?_
    refine gsr_state2 (liftF fPseudo) (fun σ l Γ => PsR prog w a1 tr rs d σ l Γ ∧ ∀ x ∈ l, SmH x ∧ x.1.size ≠ 0) ⟨[], false, none⟩ hin (by rfl) kh (by decide) (fun σ l Γ hR => hR.1.own) (fun σ h tl Γ hR => ?_) ⟨hR0, fun x hx => ⟨hsm x hx, hne x hx⟩⟩ (by rw [hrun]; rfl) (fun hdone Γ' hR => ?_) (fun herr => ?_)
    · obtain ⟨⟨vars, rfl, v1, v2, v3, hl, hm⟩, hh⟩ := hR
      obtain ⟨sh, hsz⟩ := hh h (.head _)
      have hh' := fun x hx => hh x (.tail _ hx)
      have hx0 : (Lcl.set ⟨vars, some (sSeen, setOwn prog w σ.S)⟩ "header" h.pv).vars.lookup ("header" : Str) = some h.pv := by rfl
      have w1 : (Lcl.set ⟨vars, some (sSeen, setOwn prog w σ.S)⟩ "header" h.pv).vars.lookup ("seen_regular_header" : Str) = some (.bool σ.reg) := by exact v1
      have w2 : (Lcl.set ⟨vars, some (sSeen, setOwn prog w σ.S)⟩ "header" h.pv).vars.lookup ("method" : Str) = some (optPV σ.m) := by exact v2
      have w3 : (Lcl.set ⟨vars, some (sSeen, setOwn prog w σ.S)⟩ "header" h.pv).vars.lookup ("hdr_validation_flags" : Str) = some (.flg a1 tr rs d) := by exact v3
      have hS : σ.S.length ≤ 4000 := by simp at hl; omega
      obtain ⟨c, hc⟩ : ∃ c, h.1[0]? = some c := ⟨h.1[0]'(Nat.pos_of_ne_zero hsz), by simp [Nat.pos_of_ne_zero hsz]⟩
      have hcc : ((c.toNat : Int) == 58) = (h.1[0]? == some 58) := by
        rw [hc, Bool.eq_iff_iff, beq_iff_eq, beq_iff_eq, Option.some.injEq]
        constructor
        · intro q; exact UInt8.toNat_inj.mp (by show c.toNat = 58; omega)
        · intro q; rw [q]; rfl
      have htest : ∀ p1 p2 p3 p4 p5 p6 p7 k k', EvT prog w (n+4) env (Lcl.set ⟨vars, some (sSeen, setOwn prog w σ.S)⟩ "header" h.pv) (.Compare (.Subscript (.Subscript (.Name "header" p1) (.Constant (.int 0) k p2) p3) (.Constant (.int 0) k' p4) p5) [.Eq] [.Name "SIGIL" p6] p7) (h.1[0]? == some 58) := by
        intro p1 p2 p3 p4 p5 p6 p7 k k'
        rw [← hcc]
        exact evt_cmp (ev_sub (T := "bytes") (ev_h0 (h := h) hx0) ev_int ty_byt FB.slot_bytes_getitem.lookup (idx_byt (k := 0) hc sh.a)) (ev_sigil k3) cmp_eq_int
      unfold liftF fPseudo
      cases hq : h.1[0]? == some 58 with
      | false =>
        rw [if_neg Bool.false_ne_true]
        refine ⟨⟨("seen_regular_header", .bool true) :: ("header", h.pv) :: vars, some (sSeen, setOwn prog w σ.S)⟩, ⟨⟨_, rfl, by rfl, by exact v2, by exact v3, by simp at hl ⊢; omega, hm⟩, hh'⟩, .inl ?_⟩
        exact gs_cons (outs1 := []) (gs_iff (htest _ _ _ _ _ _ _ _ _) hq (gs_leaf (exp_cons1 (exp_assign ev_bool kr (fun z d q => by cases q; decide))))) (gs_cons1 (gs_yield (ev_name (by rfl)) ok.co ok.inter))
      | true =>
      rw [if_pos rfl]
      have e1 : ∀ p1 p2 p3 p4 p5 k, EvT prog w (n+4) env (Lcl.set ⟨vars, some (sSeen, setOwn prog w σ.S)⟩ "header" h.pv) (.Compare (.Subscript (.Name "header" p1) (.Constant (.int 0) k p2) p3) [.In] [.Name "seen_pseudo_header_fields" p4] p5) (σ.S.contains h.1) := by
        intro p1 p2 p3 p4 p5 k
        exact evt_peek (x := sSeen) (d := setOwn prog w σ.S) (vars := ("header", h.pv) :: vars) (evt_cmp (ev_h0 (h := h) (by rfl)) (ev_name (p := setPV prog w σ.S) (by rfl)) (cmp_in_set hS))
      have emsg : ∀ {Γ : Lcl} (x : Str) (p1 p2 p3 p4 p5 p6 : Pos) (k k' : Nat), x.length ≤ 1000 → Γ.vars.lookup ("header" : Str) = some h.pv → EvP prog w (n+4) env Γ (.JoinedStr [.Constant (.str x) k' p1, .FormattedValue (.Subscript (.Name "header" p2) (.Constant (.int 0) k p3) p4) 114 none p5] p6) .any := by
        intro Γ x p1 p2 p3 p4 p5 p6 k k' hx hy
        exact ev_joined (evj_cons (evs_const (m := 1000) hx) (evj_cons (evs_repr (ev_h0 (h := h) hy) (Nat.le_trans sh.1 (by omega))) evj_nil)) (by omega)
      cases hin2 : σ.S.contains h.1 with
      | true =>
        rw [if_pos rfl]
        exact gs_stop (gs_ift (htest _ _ _ _ _ _ _ _ _) hq (gs_leaf (exp_stop (exp_ift (e1 _ _ _ _ _ _) hin2 (exp_msg_raise2 (emsg _ _ _ _ _ _ _ _ _ (by decide) hx0) k1 k2 (fun z d q => by cases q; decide) (by decide))) (by simp)))) (by simp)
      | false =>
      rw [if_neg Bool.false_ne_true]
      -- the name is added
      have hadd : ∀ {xp apos cpos pos p1 p2 p3 : Pos} {k : Nat}, (apos.endLine == cpos.line) = true → ExP prog w (n+4) env (some a) (Lcl.set ⟨vars, some (sSeen, setOwn prog w σ.S)⟩ "header" h.pv) (exec (.Expr (.Call (.Attribute (.Name sSeen xp) "add" apos) [.Subscript (.Name "header" p1) (.Constant (.int 0) k p2) p3] [] cpos) pos) env) (.next ⟨("header", h.pv) :: vars, some (sSeen, setOwn prog w (σ.S ++ [h.1]))⟩) := by
        intro xp apos cpos pos p1 p2 p3 k hline
        exact exp_add (ev_h0 (h := h) (by rfl)) hS hin2 (by decide) ok.inter rfl rfl rfl hline
      have y0 : (⟨("header", h.pv) :: vars, some (sSeen, setOwn prog w (σ.S ++ [h.1]))⟩ : Lcl).vars.lookup ("header" : Str) = some h.pv := by rfl
      have y1 : (⟨("header", h.pv) :: vars, some (sSeen, setOwn prog w (σ.S ++ [h.1]))⟩ : Lcl).vars.lookup ("seen_regular_header" : Str) = some (.bool σ.reg) := by exact v1
      have hreg : ∀ p, EvT prog w (n+4) env ⟨("header", h.pv) :: vars, some (sSeen, setOwn prog w (σ.S ++ [h.1]))⟩ (.Name "seen_regular_header" p) σ.reg := fun p => evt_value (p := .bool σ.reg) (ev_name y1) tr_bool
      cases hr : σ.reg with
      | true =>
        rw [if_pos rfl]
        exact gs_stop (gs_ift (htest _ _ _ _ _ _ _ _ _) hq (gs_leaf (exp_cons (exp_iff (e1 _ _ _ _ _ _) hin2 exp_nil) (exp_cons (hadd rfl) (exp_stop (exp_ift (hreg _) hr (exp_msg_raise2 (emsg _ _ _ _ _ _ _ _ _ (by decide) y0) k1 k2 (fun z d q => by cases q; decide) (by decide))) (by simp)))))) (by simp)
      | false =>
      rw [if_neg Bool.false_ne_true]
      have hallow : ∀ p1 p2 p3 p4 p5 k, EvT prog w (n+4) env ⟨("header", h.pv) :: vars, some (sSeen, setOwn prog w (σ.S ++ [h.1]))⟩ (.Compare (.Subscript (.Name "header" p1) (.Constant (.int 0) k p2) p3) [.NotIn] [.Name "_ALLOWED_PSEUDO_HEADER_FIELDS" p4] p5) (!allowed.contains h.1) := fun p1 p2 p3 p4 p5 k => evt_cmp (ev_h0 (h := h) y0) (ev_allow k4) cmp_notin_tup
      cases hal : !allowed.contains h.1 with
      | true =>
        rw [if_pos rfl]
        exact gs_stop (gs_ift (htest _ _ _ _ _ _ _ _ _) hq (gs_leaf (exp_cons (exp_iff (e1 _ _ _ _ _ _) hin2 exp_nil) (exp_cons (hadd rfl) (exp_cons (exp_iff (hreg _) hr exp_nil) (exp_stop (exp_ift (hallow _ _ _ _ _ _) hal (exp_msg_raise2 (emsg _ _ _ _ _ _ _ _ _ (by decide) y0) k1 k2 (fun z d q => by cases q; decide) (by decide))) (by simp))))))) (by simp)
      | false =>
      rw [if_neg Bool.false_ne_true]
      have hlen' : (σ.S ++ [h.1]).length + tl.length ≤ 1000 := by simp at hl ⊢; omega
      have htestm : ∀ p1 p2 p3 p4 p5 k k', EvT prog w (n+4) env ⟨("header", h.pv) :: vars, some (sSeen, setOwn prog w (σ.S ++ [h.1]))⟩ (.Compare (.Subscript (.Name "header" p1) (.Constant (.int 0) k p2) p3) [.Eq] [.Constant (.bytes [58, 109, 101, 116, 104, 111, 100]) k' p4] p5) (h.1 == bMethod) := fun p1 p2 p3 p4 p5 k k' => evt_cmp (ev_h0 (h := h) y0) ev_bytes cmp_eq_byt
      cases hme : h.1 == bMethod with
      | true =>
        rw [if_pos rfl]
        refine ⟨⟨("method", .byt h.2.1) :: ("header", h.pv) :: vars, some (sSeen, setOwn prog w (σ.S ++ [h.1]))⟩, ⟨⟨_, rfl, by rw [hr] at v1; exact v1, by rfl, by exact v3, hlen', fun _ => ⟨_, rfl⟩⟩, hh'⟩, .inl ?_⟩
        exact gs_cons (outs1 := []) (gs_ift (htest _ _ _ _ _ _ _ _ _) hq (gs_leaf (exp_cons (exp_iff (e1 _ _ _ _ _ _) hin2 exp_nil) (exp_cons (hadd rfl) (exp_cons (exp_iff (hreg _) hr exp_nil) (exp_cons (exp_iff (hallow _ _ _ _ _ _) hal exp_nil)
          (exp_cons1 (exp_ift (htestm _ _ _ _ _ _ _) hme (exp_cons1 (exp_assign (ev_h1 (h := h) y0) km (fun z d q => by cases q; decide))))))))))) (gs_cons1 (gs_yield (ev_name (by rfl)) ok.co ok.inter))
      | false =>
        rw [if_neg Bool.false_ne_true]
        refine ⟨⟨("header", h.pv) :: vars, some (sSeen, setOwn prog w (σ.S ++ [h.1]))⟩, ⟨⟨_, rfl, by rw [hr] at v1; exact v1, by exact v2, by exact v3, hlen', fun q => hm ?_⟩, hh'⟩, .inl ?_⟩
        · simp only [List.contains_eq_mem, List.mem_append, List.mem_singleton, decide_eq_true_eq] at q ⊢
          rcases q with q | q
          · exact q
          · rw [← q] at hme; simp at hme
        · exact gs_cons (outs1 := []) (gs_ift (htest _ _ _ _ _ _ _ _ _) hq (gs_leaf (exp_cons (exp_iff (e1 _ _ _ _ _ _) hin2 exp_nil) (exp_cons (hadd rfl) (exp_cons (exp_iff (hreg _) hr exp_nil) (exp_cons (exp_iff (hallow _ _ _ _ _ _) hal exp_nil)
          (exp_cons1 (exp_iff (htestm _ _ _ _ _ _ _) hme exp_nil))))))) ) (gs_cons1 (gs_yield (ev_name (by rfl)) ok.co ok.inter))
    · -- the check at the end
      rw [hrun] at hR hdone
      obtain ⟨⟨vars, rfl, v1, v2, v3, hl, hm⟩, _⟩ := hR
      simp only at hdone v1 v2 hl hm
      have hSl : (runH fPseudo ⟨[], false, none⟩ hs e).2.1.S.length ≤ 1000 := by simp at hl; omega
      have hf := fn_accept (prog := prog) (w := w) (n := n) (a := a1) (d := d) (tr := tr) (rs := rs) hSl hm
      have hco : ∀ p1 p2 p3 p4 p5, CallOut prog w (n+4) env ⟨vars, some (sSeen, setOwn prog w (runH fPseudo ⟨[], false, none⟩ hs e).2.1.S)⟩ (.Call (.Name "_check_pseudo_header_field_acceptability" p1) [.Name sSeen p2, .Name "method" p3, .Name "hdr_validation_flags" p4] [] p5)
          (if acceptB (runH fPseudo ⟨[], false, none⟩ hs e).2.1.S (runH fPseudo ⟨[], false, none⟩ hs e).2.1.m tr rs then .next ⟨[], none⟩ else .err) := fun p1 p2 p3 p4 p5 =>
        out_peek (d := setOwn prog w (runH fPseudo ⟨[], false, none⟩ hs e).2.1.S) (out_call (ev_global (p := .oth (.ref 247)) k5 (by kernel_rfl) (fun _ _ => by unfold Rep; rfl) (by decide +kernel)) (args_cons (evl_cons (ev_name (p := setPV prog w _) (by rfl)) (evl_cons (ev_name (by exact v2)) (evl_cons (ev_name (by exact v3)) evl_nil)))) (by kernel_rfl) hf) (fun p q => by split at q <;> cases q)
      unfold runPseudo
      simp only [hdone]
      cases hacc : acceptB (runH fPseudo ⟨[], false, none⟩ hs e).2.1.S (runH fPseudo ⟨[], false, none⟩ hs e).2.1.m tr rs with
      | true =>
        rw [hacc, if_pos rfl] at hco
        rw [if_pos rfl]
        exact gs_weak (gs_cons1 (gs_leaf (exp_do (hco _ _ _ _ _).ev0 ok.inter)))
      | false =>
        rw [hacc, if_neg Bool.false_ne_true] at hco
        rw [if_neg Bool.false_ne_true]
        exact gs_cons1 (gs_leaf (exp_do_err (hco _ _ _ _ _) ok.inter))
    · rw [hrun] at herr
      unfold runPseudo
      simp only at herr
      simp only [herr]; rfl
  · rw [outOf_drop]; exact outOf_ok _
end
end Mine

namespace Mine
open PySem PySem.W PySem.Calls PyProof.Rows

structure HoSt where
  auth : Option B
  host : Option B
noncomputable def fHost (σ : HoSt) (h : Hd) : Option (List Hd × HoSt) :=
  if h.1 == bAuthority then some ([h], { σ with auth := some h.2.1 })
  else if h.1 == bHost then (if σ.host.isSome then none else some ([h], { σ with host := some h.2.1 }))
  else some ([h], σ)
noncomputable def hostOk (σ : HoSt) : Bool := !(!σ.auth.isSome && !σ.host.isSome) && !(σ.auth.isSome && σ.host.isSome && σ.auth != σ.host)
noncomputable def runHost (hs : List Hd) (e : End') : List Hd × End' :=
  let r := runH fHost ⟨none, none⟩ hs e
  (r.1, match r.2.2 with | .err => .err | .done => if hostOk r.2.1 then .done else .err)

theorem optPV_ok (o : Option B) : (∀ x, optPV o ≠ .oth x) ∧ optPV o ≠ .any := by cases o <;> simp [optPV]
theorem optPV_none (o : Option B) : (optPV o).isNone = !o.isSome := by cases o <;> rfl

section
variable {prog : Program} {w : World} {n : Nat} {env : Env} {O : Option Addr} {Γ Γ' : Lcl} {ins outs : List PV} {e e' : End'} {a : Addr} {x : Str}

noncomputable def HoR (σ : HoSt) (l : List Hd) (Γ : Lcl) : Prop :=
  ∃ vars, Γ = ⟨vars, none⟩ ∧ vars.lookup ("authority_header_val" : Str) = some (optPV σ.auth) ∧ vars.lookup ("host_header_val" : Str) = some (optPV σ.host) ∧ (∀ b, σ.auth = some b → b.size ≤ 4096) ∧ (∀ b, σ.host = some b → b.size ≤ 4096)

theorem st_host {hs : List Hd} {e : End'} (hsm : ∀ h ∈ hs, SmH h) : StageQ prog w 1 n (n+2) 254 [] (hs.map Hd.pv) e ((runHost hs e).1.map Hd.pv) (runHost hs e).2 := by
  refine stage_ofQ (x1 := "headers") (xs := []) (by kernel_rfl) (by kernel_rfl) (by kernel_rfl) (by kernel_rfl) (by kernel_rfl) rfl (fun hv fv hl => ?_) fun env p ρ ok hin => ?_
  · have : fv = [] := List.eq_nil_of_length_eq_zero hl
    subst this
    kernel_rfl
  conv in bodyOf w 254 => whnf
  have kh := ok.k "header" .local (by kernel_rfl)
  have ka := ok.k "authority_header_val" .local (by kernel_rfl)
  have ko := ok.k "host_header_val" .local (by kernel_rfl)
  have kap := ok.k "authority_present" .local (by kernel_rfl)
  have khp := ok.k "host_present" .local (by kernel_rfl)
  have k1 := ok.k "msg" .local (by kernel_rfl)
  have k2 := ok.k "ProtocolError" .globalImplicit (by kernel_rfl)
  have hrun := runF_lift (f := fHost) (e := e) (hs := hs) (σ := ⟨none, none⟩)
  have nown : ∀ {vars : List (Str × PV)} {y : Str}, ∀ z d, (⟨vars, none⟩ : Lcl).own = some (z, d) → z ≠ y := fun z d q => by cases q
  refine ⟨outOf (runHost hs e).2, gsr_then (gs_doc ok.inter) (gsr_then (gs_leaf (exp_assign (y := "authority_header_val") (p := .none) ev_none ka nown)) (gsr_then (gs_leaf (exp_assign (y := "host_header_val") (p := .none) ev_none ko nown)) ?_)), outOf_ok _⟩
  refine gsr_state2 (liftF fHost) (fun σ l Γ => HoR σ l Γ ∧ ∀ x ∈ l, SmH x) ⟨none, none⟩ hin (by rfl) kh (by decide) (fun σ l Γ hR => ?_) (fun σ h tl Γ hR => ?_) ⟨⟨_, rfl, by rfl, by rfl, (fun b q => by cases q), (fun b q => by cases q)⟩, hsm⟩ (by rw [hrun]; rfl) (fun hdone Γ' hR => ?_) (fun herr => ?_)
  · obtain ⟨⟨vars, rfl, _⟩, _⟩ := hR; exact nown
  · obtain ⟨⟨vars, rfl, v1, v2, s1, s2⟩, hh⟩ := hR
    have sh := hh h (.head _)
    have hh' := fun x hx => hh x (.tail _ hx)
    have hx0 : (Lcl.set ⟨vars, none⟩ "header" h.pv).vars.lookup ("header" : Str) = some h.pv := by rfl
    have w2 : (Lcl.set ⟨vars, none⟩ "header" h.pv).vars.lookup ("host_header_val" : Str) = some (optPV σ.host) := by exact v2
    have t1 : ∀ p1 p2 p3 p4 p5 k k', EvT prog w n env (Lcl.set ⟨vars, none⟩ "header" h.pv) (.Compare (.Subscript (.Name "header" p1) (.Constant (.int 0) k p2) p3) [.Eq] [.Constant (.bytes [58, 97, 117, 116, 104, 111, 114, 105, 116, 121]) k' p4] p5) (h.1 == bAuthority) := fun p1 p2 p3 p4 p5 k k' => evt_cmp (ev_h0 (h := h) hx0) ev_bytes cmp_eq_byt
    have t2 : ∀ p1 p2 p3 p4 p5 k k', EvT prog w n env (Lcl.set ⟨vars, none⟩ "header" h.pv) (.Compare (.Subscript (.Name "header" p1) (.Constant (.int 0) k p2) p3) [.Eq] [.Constant (.bytes [104, 111, 115, 116]) k' p4] p5) (h.1 == bHost) := fun p1 p2 p3 p4 p5 k k' => evt_cmp (ev_h0 (h := h) hx0) ev_bytes cmp_eq_byt
    unfold liftF fHost
    cases q1 : h.1 == bAuthority with
    | true =>
      rw [if_pos rfl]
      refine ⟨⟨("authority_header_val", .byt h.2.1) :: ("header", h.pv) :: vars, none⟩, ⟨⟨_, rfl, by rfl, by exact v2, (fun b q => by cases q; exact sh.2), s2⟩, hh'⟩, .inl ?_⟩
      exact gs_cons (outs1 := []) (gs_ift (t1 _ _ _ _ _ _ _) q1 (gs_leaf (exp_cons1 (exp_assign (ev_h1 (h := h) hx0) ka nown)))) (gs_cons1 (gs_yield (ev_name (by rfl)) ok.co ok.inter))
    | false =>
    rw [if_neg Bool.false_ne_true]
    cases q2 : h.1 == bHost with
    | false =>
      rw [if_neg Bool.false_ne_true]
      refine ⟨⟨("header", h.pv) :: vars, none⟩, ⟨⟨_, rfl, by exact v1, by exact v2, s1, s2⟩, hh'⟩, .inl ?_⟩
      exact gs_cons (outs1 := []) (gs_iff (t1 _ _ _ _ _ _ _) q1 (gs_cons1 (gs_iff (t2 _ _ _ _ _ _ _) q2 gs_nil))) (gs_cons1 (gs_yield (ev_name (by rfl)) ok.co ok.inter))
    | true =>
    rw [if_pos rfl]
    have t3 : ∀ p1 p2 p3 k, EvT prog w n env (Lcl.set ⟨vars, none⟩ "header" h.pv) (.Compare (.Name "host_header_val" p1) [.IsNot] [.Constant .none k p2] p3) σ.host.isSome := fun p1 p2 p3 k => evt_eq (evt_cmp (ev_name w2) ev_none (cmp_isnot_none (optPV_ok _))) (by rw [optPV_none, Bool.not_not])
    cases q3 : σ.host.isSome with
    | true =>
      rw [if_pos rfl]
      exact gs_stop (gs_iff (t1 _ _ _ _ _ _ _) q1 (gs_cons1 (gs_ift (t2 _ _ _ _ _ _ _) q2 (gs_leaf (exp_stop (exp_ift (t3 _ _ _ _) q3 (exp_msg_raise ev_str k1 k2 rfl (by decide))) (by simp)))))) (by simp)
    | false =>
      rw [if_neg Bool.false_ne_true]
      refine ⟨⟨("host_header_val", .byt h.2.1) :: ("header", h.pv) :: vars, none⟩, ⟨⟨_, rfl, by exact v1, by rfl, s1, (fun b q => by cases q; exact sh.2)⟩, hh'⟩, .inl ?_⟩
      exact gs_cons (outs1 := []) (gs_iff (t1 _ _ _ _ _ _ _) q1 (gs_cons1 (gs_ift (t2 _ _ _ _ _ _ _) q2 (gs_leaf (exp_cons (exp_iff (t3 _ _ _ _) q3 exp_nil) (exp_cons1 (exp_assign (ev_h1 (h := h) hx0) ko nown))))))) (gs_cons1 (gs_yield (ev_name (by rfl)) ok.co ok.inter))
  · rw [hrun] at hR hdone
    obtain ⟨⟨vars, rfl, v1, v2, s1, s2⟩, _⟩ := hR
    unfold runHost
    simp only at hdone v1 v2 s1 s2
    simp only [hdone]
    generalize (runH fHost ⟨none, none⟩ hs e).2.1 = σ at v1 v2 s1 s2 ⊢
    refine gs_leaf ?_
    refine exp_cons (exp_assign (p := .bool σ.auth.isSome) (ev_eq (ev_cmp (ev_name v1) ev_none (cmp_isnot_none (optPV_ok _))) (by rw [optPV_none, Bool.not_not])) kap nown) ?_
    refine exp_cons (exp_assign (p := .bool σ.host.isSome) (ev_eq (ev_cmp (ev_name (by exact v2)) ev_none (cmp_isnot_none (optPV_ok _))) (by rw [optPV_none, Bool.not_not])) khp nown) ?_
    have x1 : ∀ p, EvT prog w n env (Lcl.set (Lcl.set ⟨vars, none⟩ "authority_present" (.bool σ.auth.isSome)) "host_present" (.bool σ.host.isSome)) (.Name "authority_present" p) σ.auth.isSome := fun p => evt_value (p := .bool σ.auth.isSome) (ev_name (by rfl)) tr_bool
    have x2 : ∀ p, EvT prog w n env (Lcl.set (Lcl.set ⟨vars, none⟩ "authority_present" (.bool σ.auth.isSome)) "host_present" (.bool σ.host.isSome)) (.Name "host_present" p) σ.host.isSome := fun p => evt_value (p := .bool σ.host.isSome) (ev_name (by rfl)) tr_bool
    unfold hostOk
    cases c1 : !σ.auth.isSome && !σ.host.isSome with
    | true =>
      rw [if_neg (by simp)]
      exact exp_stop (exp_ift (evt_boolop (eva_and (evt_not (x1 _)) fun _ => eva_and (evt_not (x2 _)) fun _ => eva_and_nil)) (by rw [Bool.and_true]; exact c1) (exp_msg_raise ev_str k1 k2 rfl (by decide))) (by simp [outOf])
    | false =>
    rw [Bool.not_false, Bool.true_and]
    refine exp_cons (exp_iff (evt_boolop (eva_and (evt_not (x1 _)) fun _ => eva_and (evt_not (x2 _)) fun _ => eva_and_nil)) (by rw [Bool.and_true]; exact c1) exp_nil) (exp_cons1 ?_)
    obtain ⟨au, ho⟩ := σ
    cases au with
    | none => exact exp_weak (exp_iff (evt_boolop (eva_and (b := false) (x1 _) fun q => by cases q)) (by rfl) exp_nil)
    | some au =>
    cases ho with
    | none => exact exp_weak (exp_iff (evt_boolop (eva_and (x1 _) fun _ => eva_and (b := false) (x2 _) fun q => by cases q)) (by rfl) exp_nil)
    | some ho =>
    have y1 : (Lcl.set (Lcl.set ⟨vars, none⟩ "authority_present" (.bool true)) "host_present" (.bool true)).vars.lookup ("authority_header_val" : Str) = some (.byt au) := by exact v1
    have y2 : (Lcl.set (Lcl.set ⟨vars, none⟩ "authority_present" (.bool true)) "host_present" (.bool true)).vars.lookup ("host_header_val" : Str) = some (.byt ho) := by exact v2
    have hne : (some au != some ho) = (au != ho) := by rw [Bool.eq_iff_iff]; simp
    show ExP prog w n env none _ _ (outOf (if (!(true && true && (some au != some ho))) = true then .done else .err))
    rw [hne]
    cases c2 : au != ho with
    | true =>
      rw [if_neg (by simp)]
      refine exp_ift (evt_boolop (eva_and (x1 _) fun _ => eva_and (x2 _) fun _ => eva_and (evt_cmp (ev_name y1) (ev_name y2) cmp_ne_byt) fun _ => eva_and_nil)) (by rw [c2]; rfl) (exp_msg_raise (ev_joined (evj_cons (evs_const (m := 1000) (by decide)) (evj_cons (evs_repr (ev_name y1) (Nat.le_trans (s1 au rfl) (by omega))) (evj_cons (evs_const (m := 1000) (by decide)) (evj_cons (evs_repr (ev_name y2) (Nat.le_trans (s2 ho rfl) (by omega))) evj_nil)))) (by omega)) k1 k2 rfl (by decide))
    | false =>
      rw [if_pos (by rfl)]
      exact exp_weak (exp_iff (evt_boolop (eva_and (x1 _) fun _ => eva_and (x2 _) fun _ => eva_and (evt_cmp (ev_name y1) (ev_name y2) cmp_ne_byt) fun _ => eva_and_nil)) (by rw [c2]; rfl) exp_nil)
  · rw [hrun] at herr
    unfold runHost
    simp only at herr
    simp only [herr]; rfl
end
end Mine

namespace Mine
open PySem PySem.W PySem.Calls PyProof.Rows

section
variable {prog : Program} {w : World} {n m : Nat} {env cenv : Env} {O : Option Addr} {Γ Γ' : Lcl} {ins outs : List PV} {e e' : End'} {a : Addr} {x : Str} {G : GH} {s : Shared} {A : Around}

/-- what a call that gives a generator leaves behind; fr, gr: the generator that it feeds on -/
noncomputable def GenR (prog : Program) (w : World) (m : Nat) (fr : Addr → Prop) (gr : Nat → Prop) (G : GH) (s : Shared) (outs : List PV) (e' : End') (v : Value) (s' : Shared) : Prop :=
  GenC prog w m Pure fr gr G s outs e' v s'

theorem gfr_code {c : Code} (h1 : c.weight = 1) (h2 : c.envs = [env]) (h3 : c.guards = []) (h4 : c.cUnits = 3) : GFr env c [] := by
  refine ⟨rfl, rfl, fun A n l hr hl => ⟨⟨?_, ?_, ?_, ?_⟩, ?_⟩⟩
  · exact hr.handled
  · have := hr.depth
    show A.depth + frameCount [] + c.weight + n ≤ 990
    simp only [frameCount, h1, List.map_nil, List.sum_nil]; omega
  · have := hr.units
    show A.units + unitsOf [] + c.cUnits + 12 * n ≤ 9880
    simp only [unitsOf_nil, h4]; omega
  · show pushGuards c.guards (pushGuards (guardsOf []) A.guards) = some []
    rw [hr.guards, h3]; rfl
  · show pushEnvs c.envs (pushEnvs (envsOf []) A.frames) = some (env :: l)
    rw [hl, h2]; rfl
theorem gfr_loop {elt : Expr} {gens : List Comprehension} {scope : Scope} {pos : Pos} {it acc : Value} : GFr env (.compLoop (.GeneratorExp elt gens scope pos) 0 it acc env) [] := gfr_code rfl rfl rfl rfl
theorem gfr_start {elt : Expr} {gens : List Comprehension} {scope : Scope} {pos : Pos} {it acc : Value} : GFr env (.compStart (.GeneratorExp elt gens scope pos) 0 it acc env) [] := gfr_code rfl rfl rfl rfl

theorem At.recode {ρ : Res w} {c c' : Code} {X : Pt} (q : At w n env O Γ c [] ρ X) (y : GFr env c' []) : At w n env O Γ c' [] ρ X := by
  have hg : Good w (X.A.over c' []) env O Γ X.G X.s := by
    obtain ⟨l, hl, fl⟩ := q.cx.fr
    exact q.good.around (good_frames q.good (q.gfr.over X.A n l q.cx.rm hl).2 (y.over X.A n l q.cx.rm hl).2 fl)
  exact { q with gfr := y, good := hg }

theorem run_bind_wrap {M : Model} {c : Code} {fs : List Frame} {Qy : QY} {Qr : Result → Shared → Prop} {α β : Type} {m : Sem α} {K : α → Sem β} {K' : β → Sem Fin} {H' : Value → Sem Fin} {gd lv}
    (h : wpAny M (A.over c fs) m (fun a s' => Run1 M A c ((K a).wrap K' H' gd lv) fs s' Qy Qr) (fun x s' => Run1 M A c (H' x) fs s' Qy Qr) s) : Run1 M A c ((m >>= K).wrap K' H' gd lv) fs s Qy Qr := by
  rw [Sem.bind_eq_wrap', Sem.wrap_wrap]; exact run_wrap h

/-- the turns of (h for h in it) -/
theorem sg_genLoop {y : Str} {px pe : Pos} {iter : Expr} {scope : Scope} {pos : Pos} {it : Value} (hl : env.kindOf y = some .local) (hco : env.scope.isCoroutine = false) (hy : (y == ("__debug__" : Str)) = false) : ∀ {ins : List PV} {Γ : Lcl} (X : Pt) (fr : Addr → Prop) (gr : Nat → Prop), Γ.own = none →
    At w n env none Γ (.compLoop (.GeneratorExp (.Name y pe) [⟨.Name y px, iter, [], 0⟩] scope pos) 0 it .none env) [] ((Res.nil w).and (Res.em prog w n it ins e fr gr)) X →
    SgX prog w (n+1) e ins (.compLoop (.GeneratorExp (.Name y pe) [⟨.Name y px, iter, [], 0⟩] scope pos) 0 it .none env) ((model prog w).den (.compLoop (.GeneratorExp (.Name y pe) [⟨.Name y px, iter, [], 0⟩] scope pos) 0 it .none env)) [] X := by
  intro ins
  induction ins with
  | nil =>
    intro Γ X fr gr hown q
    refine sg_iff.mpr ?_
    show Run1 _ _ _ ((compTurn (.GeneratorExp (.Name y pe) [⟨.Name y px, iter, [], 0⟩] scope pos) 0 it .none env).onRaise (leaving env)) [] _ _ _
    rw [compTurn_gen, Sem.onRaise_eq_wrap]
    refine run_bind_wrap (wpAny_standAt ?_)
    obtain ⟨l', hfr, frm⟩ := q.frames
    refine run_bind_wrap (wpAny_mono (q.res.2 _ X.G X.s (.refl q.good.wld) ⟨q.rm, _, hfr, frm⟩) (fun r s' h' => ?_) (fun x s' h' => ?_))
    · obtain ⟨rfl, rfl, G₂, g⟩ := h'
      refine run_end (.ok .next) ⟨.inr rfl, G₂, ?_⟩
      exact (q.grow.trans' (g.mono (fun a h => q.rF a (.inr h)) fun k h => q.rK k (.inr h))).shrink q.fn q.kn
    · obtain ⟨rfl, G₂, g, e9⟩ := h'
      have gd' : Good w (X.A.over _ []) env none Γ G₂ s' := q.good.grow g (fun h => q.rL (.inr h)) fun a h => by cases h
      have gr2 := q.grow.trans' (g.mono (fun a h => q.rF a (.inr h)) fun k h => q.rK k (.inr h))
      have e9' := e9.start q.grow.ext.live
      obtain ⟨l₂, hl₂, fr₂⟩ := gd'.frames
      rw [hfr] at hl₂; cases hl₂
      show Run1 _ _ _ ((leaving env x).bind fun _ => .raise x) [] _ _ _
      rw [Sem.bind_eq_wrap]
      refine run_wrap (err_leaving gd'.wld q.w0.tabd gr2.ext.live hfr fr₂ q.self e9' (.inr (.inl rfl)) fun h' g' e' => ?_)
      exact run_end (.error x) ⟨x, G₂, rfl, (g'.grow gr2).shrink q.fn q.kn, e'⟩
  | cons h ins ih =>
    intro Γ X fr gr hown q
    refine sg_iff.mpr ?_
    show Run1 _ _ _ ((compTurn (.GeneratorExp (.Name y pe) [⟨.Name y px, iter, [], 0⟩] scope pos) 0 it .none env).onRaise (leaving env)) [] _ _ _
    rw [compTurn_gen, Sem.onRaise_eq_wrap]
    refine run_bind_wrap (wpAny_standAt ?_)
    obtain ⟨l', hfr, frm⟩ := q.frames
    refine run_bind_wrap (wpAny_mono (q.res.2 _ X.G X.s (.refl q.good.wld) ⟨q.rm, _, hfr, frm⟩) (fun r s' h' => ?_) (fun x s' h' => h'.elim))
    obtain ⟨v, G₂, fr', gr', rfl, rp, g, f1, f2, f3, f4, th, _, em'⟩ := h'
    have q' := q.drawn g (fun _ _ h => h) (fun _ _ h => h) f1 f2 f3 f4 th em'
    refine run_bind_wrap (wpAny_of_eq (rfl : letOwnedTupleGo (.Name y px) it v = pure ()) ?_)
    refine run_bind_wrap (wpAny_assign_good q'.good hl rp (fun z d w => by rw [hown] at w; cases w) fun s'' g'' gd'' => ?_)
    have q'' := q'.step g'' gd''
    refine run_bind_wrap (wpAny_tests_nil ?_)
    simp only [if_true]
    have hyo : ∀ u, yieldOut env u = yieldValue u := fun u => by simp only [yieldOut, hco, Bool.false_eq_true, if_false]
    simp only [hyo]
    rw [Sem.bind_eq_wrap', Sem.bind_eq_wrap', Sem.wrap_wrap, Sem.wrap_wrap]
    refine run_wrap ((ev_name (prog := prog) (n := n) (p := h) (by simp [Lcl.set]) hy).use q''.rm q''.good fun u G3 s3 g3 gd3 ru => ?_)
    have q3 := q''.pure g3
    refine run_at (run_yield rfl rfl rfl ?_)
    refine ⟨G3, _, _, ru, q3.grow.shrink q3.fn q3.kn, q3.ff, q3.kk, q3.fn, q3.kn, q3.th, fun A' G₄ s₄ g4 cx => ?_⟩
    have q4 := q3.woken g4 cx
    refine sg_iff.mpr (run_again rfl (sg_iff.mp (ih _ fr' gr' (by exact hown) q4)))

theorem sg_genStart {y : Str} {px pe : Pos} {iter : Expr} {scope : Scope} {pos : Pos} {a g : Nat} (hl : env.kindOf y = some .local) (hco : env.scope.isCoroutine = false) (hy : (y == ("__debug__" : Str)) = false) {ins : List PV} {Γ : Lcl} (X : Pt) (fr : Addr → Prop) (gr : Nat → Prop) (hown : Γ.own = none) (hG : Rep X.G (.gen a g) (.ref a))
    (q : At w n env none Γ (.compStart (.GeneratorExp (.Name y pe) [⟨.Name y px, iter, [], 0⟩] scope pos) 0 (.ref a) .none env) [] ((Res.nil w).and (Res.em prog w n (.ref a) ins e fr gr)) X) :
    SgX prog w (n+1) e ins (.compStart (.GeneratorExp (.Name y pe) [⟨.Name y px, iter, [], 0⟩] scope pos) 0 (.ref a) .none env) ((model prog w).den (.compStart (.GeneratorExp (.Name y pe) [⟨.Name y px, iter, [], 0⟩] scope pos) 0 (.ref a) .none env)) [] X := by
  have loop := sg_genLoop (iter := iter) (px := px) (pe := pe) (scope := scope) (pos := pos) hl hco hy X fr gr hown (q.recode gfr_loop)
  refine sg_iff.mpr ?_
  show Run1 _ _ _ ((compStart (.GeneratorExp (.Name y pe) [⟨.Name y px, iter, [], 0⟩] scope pos) 0 (.ref a) .none env).onRaise (leaving env)) [] _ _ _
  unfold compStart
  rw [Sem.onRaise_eq_wrap]
  show Run1 _ _ _ ((ask >>= _).wrap _ _ _ _) [] _ _ _
  refine run_bind_wrap (wpAny_askSetting ?_)
  have hself : ∀ {A : Around} {Q : Value → Shared → Prop} {E : Value → Shared → Prop}, Q (.ref a) X.s → wpAny (model prog w) A (pyIter (.ref a)) Q E X.s := fun h => by
    unfold Rep at hG
    obtain ⟨_, t1, t2, q1⟩ := hG
    exact wpAny_pyIter_gen (g := g) ⟨_, t1, t2, q.good.wld.sub _ _ q1, rfl, rfl, rfl⟩ h
  split
  · exact run_again rfl (sg_iff.mp loop)
  · first
      | exact run_bind_wrap (wpAny_rule (run_bind_wrap (wpAny_standAt (run_bind_wrap (hself (run_again rfl (sg_iff.mp loop)))))))
      | (refine run_bind_wrap (wpAny_rule ?_); show Run1 _ _ _ ((standAt iter.pos >>= _).wrap _ _ _ _) [] _ _ _; exact run_bind_wrap (wpAny_standAt (run_bind_wrap (hself (run_again rfl (sg_iff.mp loop))))))

theorem tab_ne {q q' : Addr × Addr} (h : q ∈ tabs) (h' : q' ∈ tabs) : q = q' ∨ q.2 ≠ q'.2 := by
  simp only [tabs, List.mem_cons, List.not_mem_nil, or_false] at h h'
  rcases h with rfl | rfl | rfl <;> rcases h' with rfl | rfl | rfl <;> simp
theorem tab_is {q : Addr × Addr} (h : q ∈ tabs) : isTab q.2 := by
  simp only [tabs, List.mem_cons, List.not_mem_nil, or_false] at h
  rcases h with rfl | rfl | rfl <;> simp [isTab]
/-- a function's table of codes grew -/
theorem grow_tab {F K} {q : Addr × Addr} {h' : Heap} {tk : Nat} {ps' : Array Value} (W : Wld w G s) (hq : q ∈ tabs) (hs : Heap.ExtBut q.2 s.heap h') (hP : h'.get? q.2 = some (tabObj ps')) (ok : TabOk G q.2 ps') : Grow w F K G s G { s with heap := h', toks := tk } := by
  obtain ⟨t1, ps, t2, t3⟩ := W.tab q hq
  refine ⟨⟨fun b o e => ?_, fun b o e nf nt => ⟨o, hs b o (fun r => nt (r ▸ tab_is hq)) e, .refl o⟩, fun b o e d => ⟨o, hs b o (fun r => ?_) e, d⟩, Nat.le_refl _, fun _ _ q _ => q, rfl⟩, ⟨fun b o e => hs b o (fun r => by rw [r, t1] at e; cases e) (W.sub _ _ e), W.base, fun q' hq' => ?_, W.bare⟩, fun _ _ q => q, fun _ _ q => .inl q⟩
  · by_cases r : b = q.2
    · exact ⟨_, r ▸ hP⟩
    · exact ⟨o, hs b o r e⟩
  · rw [r, t2] at e; cases e; obtain ⟨es, ep, d⟩ := d; cases d
  · obtain ⟨u1, us, u2, u3⟩ := W.tab q' hq'
    rcases tab_ne hq' hq with r | r
    · subst r; exact ⟨u1, ps', hP, ok⟩
    · exact ⟨u1, us, hs _ _ r u2, u3⟩
theorem codeHd_of (W : Wld w G s) {q : Addr × Addr} (hq : q ∈ tabs) : CodeHd s.heap q.1 q.2 := by
  obtain ⟨g₀, b, hi⟩ := W.base
  exact (b.C q hq).keeps fun a o e => W.sub _ _ (hi _ _ e)
theorem builtins_for {M : Model} {E : Value → Shared → Prop} {r : Addr} {Q : Addr → Shared → Prop} (W : Wld w G s) (h : Q builtinsNs s) : wpAny M A (builtinsFor mainGlobals r) Q E s := by
  obtain ⟨g₀, b, hi⟩ := W.base
  obtain ⟨_, _, mg, mb, T⟩ := b.T
  have kp : ∀ a o, g₀.get? a = some o → s.heap.get? a = some o := fun a o e => W.sub _ _ (hi _ _ e)
  obtain ⟨bm, ob, h1, h2, h3, h4, h5, h6⟩ := T.bmain
  exact wpAny_builtinsFor (T.g.keeps kp) h1 h2 (kp _ _ h3) h4 h5 h6 h

theorem genexprCode_hit {M : Model} {E : Value → Shared → Prop} {c P : Addr} {ps : Array Value} {pos : Pos} {qualname : Str} {scope : Scope} {cv : Value} {Q : Value → Shared → Prop} (hc : env.code = .ref c) (hok : s.heap.IsCode c P ps) (hf : codeAmong pos ps.toList = some cv) (h : Q cv s) :
    wpAny M A (genexprCode env pos qualname scope) Q E s := by
  obtain ⟨o, vs, file, tf, flags, tg, inF, text, tt, op, ho, hd, h11, h2, h7, h9, h10, hop, hpd, htr, hne⟩ := id hok
  unfold genexprCode codeAt
  rw [hc, if_neg (show ¬ ((Value.ref c == Value.none) = true) from Bool.false_ne_true)]
  refine wpAny_bind (wpAny_fieldsOf ho hd ?_)
  rw [h11]
  refine wpAny_bind (wpAny_fieldsOf hop hpd ?_)
  rw [hf]
  exact wpAny_pure h

theorem codeAmong_add {pos pos' : Pos} {c' : Value} (l : List Value) (h : TriplesOk l) : codeAmong pos (l ++ [rawInt pos'.line, rawInt pos'.col, c']) = (codeAmong pos l).or (if pos'.line = pos.line ∧ pos'.col = pos.col then some c' else none) := by
  fun_induction TriplesOk l with
  | case1 =>
    simp only [List.nil_append, codeAmong, rawInt, Option.none_or]
    by_cases hh : pos'.line = pos.line ∧ pos'.col = pos.col
    · rw [if_pos hh, if_pos (by simp [hh.1, hh.2])]
    · rw [if_neg hh, if_neg (by simp only [Bool.and_eq_true, beq_iff_eq, Int.natCast_inj]; exact hh)]
  | case2 a t b u x rest ih =>
    simp only [List.cons_append, codeAmong]
    split
    · rfl
    · exact ih h
  | case3 l h1 h2 => exact h.elim

theorem codeAmong_pos {pos pos' : Pos} (h1 : pos'.line = pos.line) (h2 : pos'.col = pos.col) (l : List Value) (h : TriplesOk l) : codeAmong pos' l = codeAmong pos l := by
  fun_induction TriplesOk l with
  | case1 => rfl
  | case2 a t b u x rest ih => simp only [codeAmong, h1, h2, ih h]
  | case3 l h1 h2 => exact h.elim

/-- a code for a generator expression -/
theorem genexpr_code {q : Addr × Addr} {pos : Pos} {qualname : Str} {scope : Scope} {Q : Value → Shared → Prop} {E : Value → Shared → Prop} (W : Wld w G s) (hq : q ∈ tabs) (hc : env.code = .ref q.1) (hne : q.2 = 263 → ¬ (pos.line = innerPos.1 ∧ pos.col = innerPos.2))
    (h : ∀ cv s', Grow w Pure No G s G s' → Q cv s') : wpAny (model prog w) A (genexprCode env pos qualname scope) Q E s := by
  obtain ⟨t1, ps, t2, t3, t4⟩ := W.tab q hq
  have C := codeHd_of W hq
  cases hnf : codeAmong pos ps.toList with
  | some cv => exact genexprCode_hit hc (C.code t2 t3) hnf (h cv s (.refl W))
  | none =>
    refine wpAny_genexprCodeX hc (C.code t2 t3) (C.tab t2) hnf fun c' h' tk hx hge hlt hcode hrec htb _ => ?_
    have hl : (ps ++ #[rawInt pos.line, rawInt pos.col, Value.ref c']).toList = ps.toList ++ [rawInt pos.line, rawInt pos.col, .ref c'] := by simp
    have htr : TriplesOk (ps ++ #[rawInt pos.line, rawInt pos.col, .ref c']).toList := by rw [hl]; exact TriplesOk_snoc _ _ _ _ t3
    refine h _ _ (grow_tab W hq hx htb.2 ⟨htr, fun e pos' h1 h2 cv hcv => ?_⟩)
    rw [hl, codeAmong_add _ t3] at hcv
    rw [if_neg (fun r => hne e ⟨by rw [r.1, h1], by rw [r.2, h2]⟩), Option.or_none] at hcv
    exact t4 e pos' h1 h2 cv hcv
end
end Mine

namespace Mine
open PySem PySem.W PySem.Calls PyProof.Rows

section
variable {prog : Program} {w : World} {n m n' : Nat} {env cenv : Env} {O : Option Addr} {Γ Γ' : Lcl} {ins outs : List PV} {e e' : End'} {a : Addr} {x : Str} {G : GH} {s : Shared} {A : Around} {ρ : Res w}

theorem GenRes.frame {G₀ : GH} {s₀ : Shared} {v : Value} {s' : Shared} (h : GenRes prog w m ρ G s outs e' v s') (g : Grow w Pure No G₀ s₀ G s) : GenRes prog w m ρ G₀ s₀ outs e' v s' := by
  obtain ⟨a, k, G', FP, GP, h1, h2, h3, h4, h5, h6, h7⟩ := h
  exact ⟨a, k, G', FP, GP, h1, g.trans' h2, h3, h4, fun b hb => (h5 b hb).imp_right g.ext.dead, fun k hk => (h6 k hk).imp_right fun q => Nat.le_trans g.ext.gsize q, h7⟩

/-- a new generator over the code c, its frame being L -/
theorem new_gen {L : Addr} {c : Code} {G₁ : GH} {s₁ : Shared} {h' : Heap} {t1 t2 : Value} {tk : Nat} {oL : Obj} (W₁ : Wld w G₁ s₁) (hLd : s₁.heap.get? L = none) (hL : h'.get? L = some oL) (hoL : IsD oL) (k1 : ∀ b o, s₁.heap.get? b = some o → h'.get? b = some o)
    (hρ : ρ.holds G₁ s₁) (hth : There ρ.fr ρ.gr s₁)
    (run : ∀ A' G₂ s₂, Grow w (fun a => ¬ ρ.fr a) (fun k => ¬ ρ.gr k) G₁ s₁ G₂ (s₂.setGen s₁.gens.size .running) → Grow w Pure No G₁ s₁ G₁ { s₁ with heap := h' } → G₂ L = none → (∃ oL', s₂.heap.get? L = some oL' ∧ Sim oL oL') → Cx n A' G₂ s₂ →
      Sg prog w n e outs A' (fun a => a = L ∨ ρ.fr a) ρ.gr G₂ (s₂.setGen s₁.gens.size .running) c ((model prog w).den c) [] (s₂.setGen s₁.gens.size .running)) :
    GenRes prog w (n+1) ρ G₁ s₁ outs e (.ref h'.objs.size) { s₁ with gens := s₁.gens.push (.fresh c), toks := tk, heap := h'.push { cls := .type "generator", data := .fields #[.int s₁.gens.size 0, t1, t2] } } := by
  have g1 : Grow w Pure No G₁ s₁ G₁ { s₁ with heap := h' } := Grow.keeps (dr := s₁.drawn) (tk := s₁.toks) W₁ k1
  have g2 : Grow w Pure No G₁ { s₁ with heap := h' } G₁ { s₁ with heap := h', gens := s₁.gens.push (.fresh c) } := .newGen g1.wld
  have g3 := Grow.push (F := Pure) (K := No) (tk := tk) g2.wld (o := { cls := .type "generator", data := .fields #[.int s₁.gens.size 0, t1, t2] }) rfl
  have gg := (g1.trans' g2).trans' g3
  have hGL : G₁ L = none := W₁.fresh hLd
  have hnt : ¬ isTab L := W₁.ntab hLd
  have hng : ¬ ρ.gr s₁.gens.size := fun h => absurd (hth.2 _ h) (Nat.lt_irrefl _)
  have hLne : L ≠ h'.objs.size := fun q => absurd (Heap.lt_size hL) (by rw [← q]; exact Nat.lt_irrefl _)
  have hL3 : (h'.push { cls := .type "generator", data := .fields #[.int s₁.gens.size 0, t1, t2] }).get? L = some oL := Heap.get?_push_of_some _ hL
  refine ⟨_, s₁.gens.size, _, fun a => a = L ∨ ρ.fr a, fun k => ρ.gr k ∨ k = s₁.gens.size, rfl, gg, ?_, ?_, fun a h => h.elim (fun h => .inr (h ▸ hLd)) .inl, fun k h => h.elim .inl fun h => .inr (Nat.le_of_eq h.symm), ?_⟩
  · unfold Rep
    exact ⟨rfl, _, _, GH.add_self⟩
  · refine em_gen (c := c) (gs := .fresh c) ⟨_, _, GH.add_self⟩ ?_ ⟨rfl, rfl, rfl⟩ hng fun A' G₂ s₂ gr cx' => ?_
    · show (s₁.gens.push _)[s₁.gens.size]? = _
      simp
    · have rest : Grow w (fun a => ¬ ρ.fr a) (fun k => ¬ ρ.gr k) G₁ s₁ G₂ (s₂.setGen s₁.gens.size .running) :=
        (gg.pur.trans' (gr.mono (fun a h q => h (.inr q)) fun k h q => h (.inl q))).trans' (.setGen gr.wld hng rfl)
      have hGL3 : (G₁.add h'.objs.size { cls := .type "generator", data := .fields #[.int s₁.gens.size 0, t1, t2] }) L = none := by unfold GH.add; rw [if_neg hLne]; exact hGL
      exact run A' G₂ s₂ rest g1 (gr.gnone hGL3 hL3) (gr.ext.old L oL hL3 (fun h => h (.inl rfl)) hnt) cx'
  · refine ⟨fun a h => h.elim (fun h => ?_) fun h => (hth.grow gg).1 a h, fun k h => h.elim (fun h => (hth.grow gg).2 k h) fun h => ?_⟩
    · exact ⟨_, h ▸ hL3⟩
    · rw [h]; show _ < (s₁.gens.push _).size; simp

noncomputable def InpG (prog : Program) (w : World) (n : Nat) (ins : List PV) (e : End') (p : PV) (ρ : Res w) : Prop := ∃ a g fr gr, p = .gen a g ∧ ρ = (Res.nil w).and (Res.em prog w n (.ref a) ins e fr gr)
theorem InpG.inp {p : PV} (h : InpG prog w n ins e p ρ) : Inp prog w n ins e p ρ := .inr h

/-- the scope of (h for h in headers) -/
noncomputable def scGen : Scope := { kind := .function, names := [(".0", .local), ("h", .local)], isGenerator := true, isCoroutine := false, more := [] }

theorem genexp_res {p : PV} {q : Addr × Addr} {pe px pi pos : Pos} {hs : Str} (hin : InpG prog w n ins e p ρ) (hx : Γ.vars.lookup hs = some p) (hd : (hs == ("__debug__" : Str)) = false) (hq : q ∈ tabs) (hc : env.code = .ref q.1) (hne : q.2 = 263 → ¬ (pos.line = innerPos.1 ∧ pos.col = innerPos.2))
    {k : Nat} (rm : Rm (k+1) A) (gd : Good w A env O Γ G s) (hρ : ρ.holds G s) (hth : There ρ.fr ρ.gr s) :
    wpAny (model prog w) A (eval (.GeneratorExp (.Name "h" pe) [⟨.Name "h" px, .Name hs pi, [], 0⟩] scGen pos) env) (fun v s' => GenRes prog w (n+2) ρ G s ins e v s') (fun _ _ => False) s := by
  obtain ⟨a, g, fr, gr, rfl, rfl⟩ := hin
  refine wpAny_GeneratorExp_make (cl := []) rfl (closureFor_none (by decide)) (by decide) (by decide) rfl rm.room ?_ (fun x => rfl)
  refine (ev_name (prog := prog) (n := k+1) hx hd).use rm gd fun v G1 s1 g1 gd1 r => ?_
  have r' := r
  unfold Rep at r
  obtain ⟨rfl, t1, t2, hG⟩ := r
  refine wpAny_pyIter_gen (g := g) ⟨_, t1, t2, gd1.wld.sub _ _ hG, rfl, rfl, rfl⟩ ⟨noLimit gd1.wld, ?_⟩
  refine genexpr_code gd1.wld hq hc hne fun cv s2 g2 => ?_
  rw [gd.globals]
  refine builtins_for g2.wld ?_
  intro h' hns hsb
  have gg := g1.trans' g2
  have hρ2 := ((Res.nil w).and (Res.em prog w n (.ref a) ins e fr gr)).st _ _ _ _ gg.pur hρ
  have hth2 := hth.grow gg
  have k1 : ∀ b o, s2.heap.get? b = some o → h'.get? b = some o := fun b o e => hsb.extBut b o (Nat.ne_of_lt (Heap.lt_size e)) (Heap.get?_push_of_some _ e)
  have hLd : s2.heap.get? s2.heap.objs.size = none := end_dead _
  obtain ⟨oL, es, ep, hoL, hdL, hkL⟩ := id hns
  refine GenRes.frame (new_gen (L := s2.heap.objs.size) (n := n+1) (c := .compStart (.GeneratorExp (.Name "h" pe) [⟨.Name "h" px, .Name hs pi, [], 0⟩] scGen pos) 0 (.ref a) .none (genEnv scGen [] s2.heap.objs.size cv builtinsNs env)) g2.wld hLd hoL ⟨es, ep, hdL⟩ k1 hρ2 hth2 fun A' G₂ s₂ rest gk hGL ⟨oL', hL', sm⟩ cx => ?_) gg
  have hLn : ¬ fr s2.heap.objs.size := fun h => by obtain ⟨o, q⟩ := hth2.1 _ (.inr h); rw [hLd] at q; cases q
  have hnt : ¬ isTab s2.heap.objs.size := g2.wld.ntab hLd
  have W₂ : Wld w G₂ (s₂.setGen s2.gens.size .running) := rest.wld
  have hns2 : (s₂.setGen s2.gens.size .running).heap.Ns s2.heap.objs.size (fun y => if y = (".0" : Str) then some (.ref a) else none) := Ns.sim hns fun o q => ⟨oL', hL', by rw [hoL] at q; cases q; exact sm⟩
  obtain ⟨l', hl', fl'⟩ := cx.fr
  have kind2 : (genEnv scGen [] s2.heap.objs.size cv builtinsNs env).scope.kind = .function := rfl
  have hG2 : Rep G₂ (.gen a g) (.ref a) := (r'.mono g2.sub).mono rest.sub
  refine sg_genStart (y := "h") (by show scGen.names.lookup ("h" : Str) = some .local; decide) rfl (by decide) (Γ := ⟨[], none⟩) (ins := ins) ⟨A', fun b => b = s2.heap.objs.size ∨ (False ∨ fr b), fun k => False ∨ gr k, fun b => b = s2.heap.objs.size ∨ (False ∨ fr b), fun k => False ∨ gr k, G₂, s₂.setGen s2.gens.size .running, G₂, s₂.setGen s2.gens.size .running⟩ fr gr rfl hG2 ?_
  exact {
    gfr := gfr_start
    self := rfl
    cx := cx.setGen
    w0 := W₂
    grow := .refl W₂
    ff := fun _ h => h
    kk := fun _ h => h
    fn := fun _ h => .inl h
    kn := fun _ h => .inl h
    good := {
      wld := W₂
      frames := ⟨_, ((gfr_start (env := genEnv scGen [] s2.heap.objs.size cv builtinsNs env)).over A' (n) l' cx.rm hl').2, fun ev hev => by
        rcases List.mem_cons.mp hev with rfl | hev
        · exact ⟨by rw [kind2]; decide, s2.heap.objs.size, oL', rfl, hGL, hL', sm.isD ⟨es, ep, hdL⟩⟩
        · exact fl' ev hev⟩
      kind := rfl
      globals := gd.globals
      builtins := rfl
      fresh := hGL
      ntab := hnt
      oown := (fun a h => by cases h)
      vars := ⟨_, hns2, (fun x p h => by cases h), trivial⟩ }
    fL := .inl rfl
    fO := (fun a h => by cases h)
    th := ⟨fun b h => h.elim (fun h => ⟨oL', h ▸ hL'⟩) fun h => (hth2.grow rest).1 b h, fun k h => (hth2.grow rest).2 k h⟩
    rF := fun b h => .inr h
    rK := fun _ h => h
    rL := fun h => h.elim (fun h => h) fun h => hLn h
    rO := (fun a h => by cases h)
    res := ⟨trivial, (((Res.nil w).and (Res.em prog w n (.ref a) ins e fr gr)).st _ _ _ _ rest hρ2).2⟩ }
end
end Mine

namespace Mine
open PySem PySem.W PySem.Calls PyProof.Rows

section
variable {prog : Program} {w : World} {n m n' k : Nat} {env cenv : Env} {O : Option Addr} {Γ Γ' : Lcl} {ins outs : List PV} {e e' : End'} {a : Addr} {x hs : Str} {G : GH} {s : Shared} {A : Around} {ρ : Res w}

noncomputable def GenResF (prog : Program) (w : World) (m : Nat) (F : Addr → Prop) (ρ : Res w) (G : GH) (s : Shared) (outs : List PV) (e' : End') (v : Value) (s' : Shared) : Prop :=
  GenC prog w m F ρ.fr ρ.gr G s outs e' v s'
theorem GenRes.f {F} {v s'} (h : GenRes prog w m ρ G s outs e' v s') : GenResF prog w m F ρ G s outs e' v s' := by
  obtain ⟨g, k, G', FP, GP, h1, h2, h3, h4, h5, h6, h7⟩ := h
  exact ⟨g, k, G', FP, GP, h1, h2.pur, h3, h4, h5, h6, h7⟩

/-- a function that turns what comes in -/
noncomputable def StageI (prog : Program) (w : World) (I : PV → Res w → Prop) (m n' : Nat) (fa : Addr) (q : List PV) (outs : List PV) (e' : End') : Prop :=
  ∀ A G s hv fv p ρ, I p ρ → Rep G p hv → RepL G q fv → Wld w G s → Cx m A G s → ρ.holds G s → There ρ.fr ρ.gr s →
    codeAny (model prog w) A (.call (.ref fa) ⟨hv :: fv, []⟩) (fun r s' => ∃ v, r = .ok (.ret v) ∧ GenRes prog w n' ρ G s outs e' v s') s
theorem StageQ.i {fa q} (h : StageQ prog w m n n' fa q ins e outs e') : StageI prog w (Inp prog w n ins e) m n' fa q outs e' := h
theorem StageI.g {fa q} (h : StageI prog w (Inp prog w n ins e) m n' fa q outs e') : StageI prog w (InpG prog w n ins e) m n' fa q outs e' := fun A G s hv fv p ρ hin => h A G s hv fv p ρ hin.inp
theorem StageI.le {I : PV → Res w → Prop} {fa q m'} (h : StageI prog w I m n' fa q outs e') (hm : m ≤ m') : StageI prog w I m' n' fa q outs e' := fun A G s hv fv p ρ hin r1 r2 W cx => h A G s hv fv p ρ hin r1 r2 W (cx.le hm)

/-- statements that end in giving a generator -/
noncomputable def ExG (prog : Program) (w : World) (k n' : Nat) (I : PV → Res w → Prop) (env : Env) (hs : Str) (Γ : Lcl) (t : Sem Flow) (outs : List PV) (e' : End') : Prop :=
  ∀ A l G s p ρ, Rm k A → A.frames = some (env :: l) → env.frame = some env.locals → Good w A env none Γ G s → I p ρ → Γ.vars.lookup hs = some p → ρ.holds G s → There ρ.fr ρ.gr s → ¬ ρ.fr env.locals →
    wpAny (model prog w) A t (fun fl s' => ∃ v, fl = .ret v ∧ GenResF prog w n' (Wr env none) ρ G s outs e' v s') (fun _ _ => False) s
/-- an expression that gives a generator -/
noncomputable def EvG (prog : Program) (w : World) (k n' : Nat) (I : PV → Res w → Prop) (env : Env) (hs : Str) (Γ : Lcl) (ex : Expr) (outs : List PV) (e' : End') : Prop :=
  ∀ A G s p ρ, Rm k A → Good w A env none Γ G s → I p ρ → Γ.vars.lookup hs = some p → ρ.holds G s → There ρ.fr ρ.gr s →
    wpAny (model prog w) A (eval ex env) (fun v s' => GenRes prog w n' ρ G s outs e' v s') (fun _ _ => False) s

theorem GenResF.back {G₁ : GH} {s₁ : Shared} {ρ' : Res w} {v s'} (h : GenResF prog w n' (Wr env none) ρ' G₁ s₁ outs e' v s') (g : Grow w (Wr env none) No G s G₁ s₁) (h1 : ∀ a, ρ'.fr a → ρ.fr a ∨ s.heap.get? a = none) (h2 : ∀ k, ρ'.gr k → ρ.gr k ∨ s.gens.size ≤ k) : GenResF prog w n' (Wr env none) ρ G s outs e' v s' := by
  obtain ⟨a, k, G', FP, GP, q1, q2, q3, q4, q5, q6, q7⟩ := h
  exact ⟨a, k, G', FP, GP, q1, g.trans' q2, q3, q4, fun b hb => (q5 b hb).elim (h1 b) fun q => .inr (g.ext.dead q), fun k hk => (q6 k hk).elim (h2 k) fun q => .inr (Nat.le_trans g.ext.gsize q), q7⟩

theorem exg_ret {I : PV → Res w → Prop} {ex : Expr} {pos : Pos} (h : EvG prog w k n' I env hs Γ ex outs e') : ExG prog w k n' I env hs Γ (exec (.Return (some ex) pos) env) outs e' :=
  fun A l G s p ρ rm hf hself gd hin hx hρ hth hL => wpAny_Return_some (wpAny_mono (h A G s p ρ rm gd hin hx hρ hth) (fun v s' q => ⟨v, rfl, q.f⟩) fun _ _ q => q)
theorem exg_cons {I : PV → Res w → Prop} {st : Stmt} {rest : List Stmt} (h1 : ExP prog w k env none Γ (exec st env) (.next Γ')) (hk : ∀ p, Γ.vars.lookup hs = some p → Γ'.vars.lookup hs = some p) (h2 : ExG prog w k n' I env hs Γ' (execs rest env) outs e') :
    ExG prog w k n' I env hs Γ (execs (st :: rest) env) outs e' := fun A l G s p ρ rm hf hself gd hin hx hρ hth hL => by
  refine wpAny_execs_cons (wpAny_mono (h1 A l G s rm hf hself gd) (fun fl s1 ⟨G1, g1, q⟩ => ?_) (fun x s1 ⟨q, _⟩ => by cases q))
  obtain ⟨rfl, gd1⟩ := q
  have g2 : Grow w (fun a => ¬ ρ.fr a) (fun k => ¬ ρ.gr k) G s G1 s1 := g1.mono (fun a h => h.elim (fun h => h ▸ hL) fun h => by cases h) fun _ h => h.elim
  refine wpAny_mono (h2 A l G1 s1 p ρ rm hf hself gd1 hin (hk p hx) (ρ.st _ _ _ _ g2 hρ) (hth.grow g1) hL) (fun fl s' ⟨v, e1, q⟩ => ⟨v, e1, q.back g1 (fun _ h => .inl h) (fun _ h => .inl h)⟩) fun _ _ q => q
theorem exg_last {I : PV → Res w → Prop} {st : Stmt} {rest : List Stmt} (h : ExG prog w k n' I env hs Γ (exec st env) outs e') : ExG prog w k n' I env hs Γ (execs (st :: rest) env) outs e' := fun A l G s p ρ rm hf hself gd hin hx hρ hth hL => by
  refine wpAny_execs_cons (wpAny_mono (h A l G s p ρ rm hf hself gd hin hx hρ hth hL) (fun fl s1 ⟨v, e1, q⟩ => ?_) fun _ _ q => q)
  subst e1
  exact ⟨v, rfl, q⟩
/-- if test: return .. (and on) -/
theorem exg_if {I : PV → Res w → Prop} {test : Expr} {body rest : List Stmt} {pos : Pos} {b : Bool} (ht : EvT prog w k env Γ test b) (h1 : b = true → ExG prog w k n' I env hs Γ (execs body env) outs e') (h2 : b = false → ExG prog w k n' I env hs Γ (execs rest env) outs e') :
    ExG prog w k n' I env hs Γ (execs (.If test body [] pos :: rest) env) outs e' := by
  cases b with
  | true =>
    refine exg_last fun A l G s p ρ rm hf hself gd hin hx hρ hth hL => ?_
    refine wpAny_If (ht.use rm gd fun v G1 s1 g1 gd1 q => ?_)
    subst q
    refine wpAny_mono (h1 rfl A l G1 s1 p ρ rm hf hself gd1 hin hx (ρ.st _ _ _ _ g1.pur hρ) (hth.grow g1) hL) (fun fl s' ⟨v, e1, q⟩ => ⟨v, e1, q.back g1.pur (fun _ h => .inl h) (fun _ h => .inl h)⟩) fun _ _ q => q
  | false => exact exg_cons (exp_iff ht rfl exp_nil) (fun _ h => h) (h2 rfl)

theorem evg_stage {I : PV → Res w → Prop} {f : Str} {fp px pos : Pos} {es : List Expr} {fa : Addr} {q : List PV} (hf : EvP prog w (k+1) env Γ (.Name f fp) (.oth (.ref fa))) (hfo : (topK w).lookup fa = some { cls := .type "function", data := .func (fdOf w fa) })
    (ha : EvL prog w (k+1) env Γ pos es q) (hd : (hs == ("__debug__" : Str)) = false) (hst : StageI prog w I (k+1) n' fa q outs e') (hsr : ∀ env, starEach (.Name hs px :: es) env = (false, eval (.Name hs px) env) :: starEach es env := by intro _; rfl) :
    EvG prog w (k+1) n' I env hs Γ (.Call (.Name f fp) (.Name hs px :: es) [] pos) outs e' := fun A G s p ρ rm gd hin hx hρ hth => by
  refine wpAny_Call_ofName (hf.use rm gd fun u G1 s1 g1 gd1 q1 => ?_)
  unfold Rep at q1
  subst q1
  refine callWith_function (o := { cls := .type "function", data := .func (fdOf w fa) }) (fd := fdOf w fa) ((args_cons (evl_cons (ev_name hx hd) ha (hsr env)) (hsr env) _).use rm gd1 fun a G2 s2 g2 gd2 q2 => ⟨⟨gd2.wld.sub _ _ (top_in gd2.wld hfo), rfl⟩, ?_⟩)
  rw [q2.1]
  obtain ⟨pos', kw⟩ := a
  have r := q2.2
  unfold RepL at r
  obtain ⟨hv, fv, e1, r1, r2⟩ := r
  simp only at e1
  subst e1
  have gg := g1.trans' g2
  refine wpAny_call (codeAny_mono (hst A G2 s2 hv fv p ρ hin r1 r2 gd2.wld (gd2.cx rm) (ρ.st _ _ _ _ gg.pur hρ) (hth.grow gg)) fun r s' ⟨v, e1, h⟩ => ?_)
  subst e1
  exact h.frame gg

/-- what such a statement leaves behind -/
inductive PStepC (prog : Program) (w : World) (n1 : Nat) (A : Around) (env : Env) (hs : Str) (Γ : Lcl) (fr : Addr → Prop) (gr : Nat → Prop) (G : GH) (s : Shared) (outs1 : List PV) (e1 : End') (fl : Flow) (s' : Shared) : Prop
  | mk (q : fl = .next) (a g : Nat) (FP : Addr → Prop) (GP : Nat → Prop) (G' : GH) (h1 : Grow w (Wr env none) No G s G' s') (h2 : Good w A env none (Γ.set hs (.gen a g)) G' s') (h3 : Em prog w n1 (.ref a) outs1 e1 FP GP G' s')
      (h4 : ∀ a, FP a → fr a ∨ s.heap.get? a = none) (h5 : ∀ k, GP k → gr k ∨ s.gens.size ≤ k) (h6 : There FP GP s') (h7 : ¬ FP env.locals)
/-- a statement that turns the headers -/
noncomputable def PStep (prog : Program) (w : World) (k n1 : Nat) (I : PV → Res w → Prop) (env : Env) (hs : Str) (Γ : Lcl) (t : Sem Flow) (outs1 : List PV) (e1 : End') : Prop :=
  ∀ A l G s p ρ, Rm k A → A.frames = some (env :: l) → env.frame = some env.locals → Good w A env none Γ G s → I p ρ → Γ.vars.lookup hs = some p → ρ.holds G s → There ρ.fr ρ.gr s → ¬ ρ.fr env.locals →
    wpAny (model prog w) A t (fun fl s' => PStepC prog w n1 A env hs Γ ρ.fr ρ.gr G s outs1 e1 fl s') (fun _ _ => False) s

theorem pstep_assign {I : PV → Res w → Prop} {n1 : Nat} {outs1 : List PV} {e1 : End'} {ex : Expr} {yp pos : Pos} (h1 : EvG prog w k n1 I env hs Γ ex outs1 e1) (hl : env.kindOf hs = some .local) (hown : Γ.own = none)
    (hsw : swapsWith ex (some (.Name hs yp)) pos.line env = pure false := by rfl) : PStep prog w k n1 I env hs Γ (exec (.Assign [.Name hs yp] ex pos) env) outs1 e1 := fun A l G s p ρ rm hf hself gd hin hx hρ hth hL => by
  refine wpAny_Assign_Name (wpAny_mono (h1 A G s p ρ rm gd hin hx hρ hth) (fun v s1 h => ?_) fun _ _ q => q.elim) hsw
  obtain ⟨g, kk, G1, FP, GP, e1, g1, r1, em1, b1, b2, th1⟩ := h
  subst e1
  have gd1 := gd.pur g1
  have hFL : ¬ FP env.locals := fun h => (b1 _ h).elim hL fun h => by obtain ⟨o, e⟩ := wr_live gd _ (.inl rfl); rw [h] at e; cases e
  refine wpAny_store_good gd1 hl r1 (fun z d q => by rw [hown] at q; cases q) fun s2 g2 gd2 => ?_
  have em2 := em1.later (g2.mono (fun a h => h.elim (fun h => h ▸ hFL) fun h => by cases h) fun _ h => h.elim)
  exact ⟨rfl, g, kk, FP, GP, G1, g1.pur.trans' g2, gd2, em2, b1, b2, th1.grow g2, hFL⟩
theorem pstep_one {I : PV → Res w → Prop} {n1 : Nat} {outs1 : List PV} {e1 : End'} {st : Stmt} (h : PStep prog w k n1 I env hs Γ (exec st env) outs1 e1) : PStep prog w k n1 I env hs Γ (execs [st] env) outs1 e1 := fun A l G s p ρ rm hf hself gd hin hx hρ hth hL => by
  refine wpAny_execs_cons (wpAny_mono (h A l G s p ρ rm hf hself gd hin hx hρ hth hL) (fun fl s1 q => ?_) fun _ _ q => q)
  obtain ⟨e1, a, g, FP, GP, G', h1, h2, h3, h4, h5, h6, h7⟩ := q
  subst e1
  exact wpAny_execs_nil ⟨rfl, a, g, FP, GP, G', h1, h2, h3, h4, h5, h6, h7⟩
theorem pstep_if {I : PV → Res w → Prop} {n1 : Nat} {outs1 : List PV} {e1 : End'} {test : Expr} {body : List Stmt} {pos : Pos} (ht : EvT prog w k env Γ test true) (h : PStep prog w k n1 I env hs Γ (execs body env) outs1 e1) : PStep prog w k n1 I env hs Γ (exec (.If test body [] pos) env) outs1 e1 := fun A l G s p ρ rm hf hself gd hin hx hρ hth hL => by
  refine wpAny_If (ht.use rm gd fun v G1 s1 g1 gd1 q => ?_)
  subst q
  refine wpAny_mono (h A l G1 s1 p ρ rm hf hself gd1 hin hx (ρ.st _ _ _ _ g1.pur hρ) (hth.grow g1) hL) (fun fl s' q => ?_) fun _ _ q => q
  obtain ⟨q, a, g, FP, GP, G', h1, h2, h3, h4, h5, h6, h7⟩ := q
  exact ⟨q, a, g, FP, GP, G', g1.pur.trans' h1, h2, h3, fun b hb => (h4 b hb).imp_right g1.ext.dead, fun k hk => (h5 k hk).imp_right fun q => Nat.le_trans g1.ext.gsize q, h6, h7⟩
theorem exg_step {I : PV → Res w → Prop} {n1 : Nat} {outs1 : List PV} {e1 : End'} {st : Stmt} {rest : List Stmt} (h1 : PStep prog w k n1 I env hs Γ (exec st env) outs1 e1)
    (h2 : ∀ a g, ExG prog w k n' (InpG prog w n1 outs1 e1) env hs (Γ.set hs (.gen a g)) (execs rest env) outs e') : ExG prog w k n' I env hs Γ (execs (st :: rest) env) outs e' := fun A l G s p ρ rm hf hself gd hin hx hρ hth hL => by
  refine wpAny_execs_cons (wpAny_mono (h1 A l G s p ρ rm hf hself gd hin hx hρ hth hL) (fun fl s1 q => ?_) fun _ _ q => q.elim)
  obtain ⟨q, g, kk, FP, GP, G1, g1, gd1, em1, b1, b2, th1, hFL⟩ := q
  subst q
  exact wpAny_mono (h2 g kk A l G1 s1 (.gen g kk) ((Res.nil w).and (Res.em prog w n1 (.ref g) outs1 _ FP GP)) rm hf hself gd1 ⟨g, kk, FP, GP, rfl, rfl⟩ lookup_here ⟨trivial, em1⟩ ⟨fun a h => h.elim (fun h => h.elim) fun h => th1.1 a h, fun j h => h.elim (fun h => h.elim) fun h => th1.2 j h⟩ (fun h => h.elim (fun h => h) hFL))
    (fun fl s' ⟨v, e1, q⟩ => ⟨v, e1, q.back g1 (fun a h => h.elim (fun h => h.elim) (b1 a)) (fun j h => h.elim (fun h => h.elim) (b2 j))⟩) fun _ _ q => q

theorem evg_genexp {q : Addr × Addr} {pe px pi pos : Pos} (hd : (hs == ("__debug__" : Str)) = false) (hq : q ∈ tabs) (hc : env.code = .ref q.1) (hne : q.2 = 263 → ¬ (pos.line = innerPos.1 ∧ pos.col = innerPos.2)) :
    EvG prog w (k+1) (n+2) (InpG prog w n ins e) env hs Γ (.GeneratorExp (.Name "h" pe) [⟨.Name "h" px, .Name hs pi, [], 0⟩] scGen pos) ins e := fun A G s p ρ rm gd hin hx hρ hth =>
  genexp_res hin hx hd hq hc hne rm gd hρ hth

/-- a function of that kind -/
theorem stageI_of {I : PV → Res w → Prop} {fa : Addr} {xs : List Str} {q : List PV} (hfo : (topK w).lookup fa = some { cls := .type "function", data := .func (fdOf w fa) }) (hb : fnB (fdOf w fa) (hs :: xs) = true) (hbody : (fdOf w fa).body = .stmts (bodyOf w fa)) (hgen : (fdOf w fa).scope.isGenerator = false)
    (hcd : codeIn (topK w) (fdOf w fa).code (fdOf w fa).qualname = true) (hlen : q.length = xs.length) (hbind : ∀ s vs, vs.length = xs.length + 1 → (topK w).In s.heap → BindsTo s (fdOf w fa) ⟨vs, []⟩ ((hs :: xs).zip vs))
    (run : ∀ env p, EnvOk w fa env → ExG prog w k n' I env hs ⟨(hs :: xs).zip (p :: q), none⟩ (execs (bodyOf w fa) env) outs e') : StageI prog w I (k+1) n' fa q outs e' := by
  intro A G s hv fv p ρ hin r1 r2 W cx hρ hth
  obtain ⟨ok, hloc, hnd⟩ := fnB_ok hb hbody
  have hl2 := r2.length
  refine call_enter (n := k) (binds := (hs :: xs).zip (hv :: fv)) (Γ₀ := ⟨(hs :: xs).zip (p :: q), none⟩) (top_in W hfo) ok hgen (code_in W hcd) (hbind s _ (by simp; omega) (top_heap W)) (fun x hx => hloc _ (mem_zip_fst hx)) (param_reads (.cons r1 r2) hnd (by simp; omega) hloc) rfl W cx fun L A' l s₁ rm hfr g1 hL gd => ?_
  have hρ1 := ρ.st _ _ _ _ g1.pur hρ
  have hLn : ¬ ρ.fr L := fun h => by obtain ⟨o, e⟩ := hth.1 L h; rw [hL] at e; cases e
  refine wpAny_mono (run _ p (envOk_call ok L) A' l G s₁ p ρ rm hfr rfl gd hin (by simp) hρ1 (hth.grow g1) hLn) (fun f s' ⟨v, e1, h⟩ => ?_) fun _ _ q => q.elim
  subst e1
  obtain ⟨a, kk, G', FP, GP, q1, q2, q3, q4, q5, q6, q7⟩ := h
  exact ⟨v, rfl, a, kk, G', FP, GP, q1, g1.trans q2 (fun b h => h.elim (fun h => by subst h; exact .inr hL) fun h => by cases h) (fun _ h => h.elim), q3, q4, fun b hb => (q5 b hb).imp_right g1.ext.dead, fun k hk => (q6 k hk).imp_right fun q => Nat.le_trans g1.ext.gsize q, q7⟩
theorem stageI_of' {I : PV → Res w → Prop} {fa : Addr} {xs : List Str} {q : List PV} (hfo : (topK w).lookup fa = some { cls := .type "function", data := .func (fdOf w fa) }) (hb : fnB (fdOf w fa) (hs :: xs) = true) (hbody : (fdOf w fa).body = .stmts (bodyOf w fa)) (hgen : (fdOf w fa).scope.isGenerator = false)
    (hcd : codeIn (topK w) (fdOf w fa).code (fdOf w fa).qualname = true) (hlen : q.length = xs.length) (hbind : ∀ vs : List Value, vs.length = xs.length + 1 → bindArgs (fdOf w fa) ⟨vs, []⟩ = pure ((hs :: xs).zip vs))
    (run : ∀ env p, EnvOk w fa env → ExG prog w k n' I env hs ⟨(hs :: xs).zip (p :: q), none⟩ (execs (bodyOf w fa) env) outs e') : StageI prog w I (k+1) n' fa q outs e' :=
  stageI_of hfo hb hbody hgen hcd hlen (fun s vs hl _ => bindsTo_of (hbind vs hl)) run
end
end Mine

namespace Mine
open PySem PySem.W PySem.Calls PyProof.Rows

-- the pure side of the stages
theorem runS_total {f : Hd → Option (List Hd)} {g : Hd → List Hd} (h : ∀ x, f x = some (g x)) {e : End'} : ∀ {hs : List Hd}, runS f hs e = (hs.flatMap g, e)
  | [] => rfl
  | x :: hs => by
    have ih := runS_total h (hs := hs) (e := e)
    rw [runS, h x]
    simp only [ih, List.flatMap_cons]
theorem runS_mem {f : Hd → Option (List Hd)} (h : ∀ x l, f x = some l → ∀ y ∈ l, y = x) {e : End'} : ∀ {hs : List Hd}, ∀ y ∈ (runS f hs e).1, y ∈ hs
  | [], y, hy => hy
  | x :: hs, y, hy => by
    rw [runS] at hy
    cases hf : f x with
    | none => rw [hf] at hy; cases hy
    | some l =>
      rw [hf] at hy
      rcases List.mem_append.mp hy with hy | hy
      · exact h x l hf y hy ▸ List.mem_cons_self
      · exact List.mem_cons_of_mem _ (runS_mem h y hy)
theorem runS_len {f : Hd → Option (List Hd)} (h : ∀ x l, f x = some l → l.length ≤ 1) {e : End'} : ∀ {hs : List Hd}, (runS f hs e).1.length ≤ hs.length
  | [] => Nat.le_refl _
  | x :: hs => by
    rw [runS]
    cases hf : f x with
    | none => simp
    | some l =>
      have h1 := h x l hf
      have h2 := runS_len h (e := e) (hs := hs)
      simp only [List.length_append, List.length_cons]; omega
theorem runH_mem {S : Type} {f : S → Hd → Option (List Hd × S)} (h : ∀ σ x l σ', f σ x = some (l, σ') → ∀ y ∈ l, y = x) {e : End'} : ∀ {hs : List Hd} {σ : S}, ∀ y ∈ (runH f σ hs e).1, y ∈ hs
  | [], σ, y, hy => hy
  | x :: hs, σ, y, hy => by
    rw [runH] at hy
    cases hf : f σ x with
    | none => rw [hf] at hy; cases hy
    | some l =>
      obtain ⟨l, σ'⟩ := l
      rw [hf] at hy
      rcases List.mem_append.mp hy with hy | hy
      · exact h σ x l σ' hf y hy ▸ List.mem_cons_self
      · exact List.mem_cons_of_mem _ (runH_mem h y hy)
theorem runH_len {S : Type} {f : S → Hd → Option (List Hd × S)} (h : ∀ σ x l σ', f σ x = some (l, σ') → l.length ≤ 1) {e : End'} : ∀ {hs : List Hd} {σ : S}, (runH f σ hs e).1.length ≤ hs.length
  | [], σ => Nat.le_refl _
  | x :: hs, σ => by
    rw [runH]
    cases hf : f σ x with
    | none => simp
    | some l =>
      obtain ⟨l, σ'⟩ := l
      have h1 := h σ x l σ' hf
      have h2 := runH_len h (e := e) (hs := hs) (σ := σ')
      simp only [List.length_append, List.length_cons]; omega

theorem fTe_mem : ∀ x l, fTe x = some l → l = [x] := fun x l h => by unfold fTe at h; split at h <;> simp at h; exact h.symm
theorem fNoConn_mem : ∀ x l, fNoConn x = some l → l = [x] := fun x l h => by unfold fNoConn at h; split at h <;> simp at h; exact h.symm
theorem fEmpty_mem : ∀ x l, fEmpty x = some l → l = [x] := fun x l h => by unfold fEmpty at h; split at h <;> simp at h; exact h.symm
noncomputable def fPath (h : Hd) : Option (List Hd) := if h.1 == bPath && h.2.1.size == 0 then none else some [h]
theorem fPath_mem : ∀ x l, fPath x = some l → l = [x] := fun x l h => by unfold fPath at h; split at h <;> simp at h; exact h.symm
theorem fPseudo_mem : ∀ σ x l σ', fPseudo σ x = some (l, σ') → l = [x] := fun σ x l σ' h => by
  unfold fPseudo at h
  repeat' split at h
  all_goals simp at h
  all_goals exact h.1.symm
theorem fHost_mem : ∀ σ x l σ', fHost σ x = some (l, σ') → l = [x] := fun σ x l σ' h => by
  unfold fHost at h
  repeat' split at h
  all_goals simp at h
  all_goals exact h.1.symm
theorem one_mem {x y : Hd} {l : List Hd} (h : l = [x]) (hy : y ∈ l) : y = x := by subst h; simpa using hy
theorem one_len {x : Hd} {l : List Hd} (h : l = [x]) : l.length ≤ 1 := by subst h; simp

/-- headers, and how they end -/
noncomputable abbrev HE := List Hd × End'
noncomputable def vTe (r : HE) : HE := runS fTe r.1 r.2
noncomputable def vNoConn (r : HE) : HE := runS fNoConn r.1 r.2
noncomputable def vEmpty (r : HE) : HE := runS fEmpty r.1 r.2
noncomputable def vPath (r : HE) : HE := runS fPath r.1 r.2
noncomputable def vPseudo (tr rs : Bool) (r : HE) : HE := runPseudo tr rs r.1 r.2
noncomputable def vHost (r : HE) : HE := runHost r.1 r.2
noncomputable def vHostIf (tr rs : Bool) (r : HE) : HE := if rs || tr then r else vHost r
noncomputable def vPathIf (tr rs : Bool) (r : HE) : HE := if rs || tr then r else vPath r
/-- validate_outbound_headers -/
noncomputable def valOut (tr rs : Bool) (hs : List Hd) : HE := vPathIf tr rs (vHostIf tr rs (vPseudo tr rs (vNoConn (vTe (hs, .done)))))
/-- validate_headers, of fields whose signs are as they should be -/
noncomputable def valIn (tr rs : Bool) (hs : List Hd) : HE := vPathIf tr rs (vHostIf tr rs (vPseudo tr rs (vNoConn (vTe (vEmpty (hs, .done))))))

noncomputable def Sub (r : HE) (hs : List Hd) : Prop := (∀ y ∈ r.1, y ∈ hs) ∧ r.1.length ≤ hs.length
theorem Sub.refl {hs e} : Sub (hs, e) hs := ⟨fun _ h => h, Nat.le_refl _⟩
theorem Sub.s {f : Hd → Option (List Hd)} (hf : ∀ x l, f x = some l → l = [x]) {r : HE} {hs} (h : Sub r hs) : Sub (runS f r.1 r.2) hs :=
  ⟨fun y hy => h.1 y (runS_mem (fun x l q y hy => one_mem (hf x l q) hy) y hy), Nat.le_trans (runS_len fun x l q => one_len (hf x l q)) h.2⟩
theorem Sub.pseudo {tr rs} {r : HE} {hs} (h : Sub r hs) : Sub (vPseudo tr rs r) hs :=
  ⟨fun y hy => h.1 y (runH_mem (f := fPseudo) (fun σ x l σ' q y hy => one_mem (fPseudo_mem σ x l σ' q) hy) y hy), Nat.le_trans (runH_len (f := fPseudo) fun σ x l σ' q => one_len (fPseudo_mem σ x l σ' q)) h.2⟩
theorem Sub.host {r : HE} {hs} (h : Sub r hs) : Sub (vHost r) hs :=
  ⟨fun y hy => h.1 y (runH_mem (f := fHost) (fun σ x l σ' q y hy => one_mem (fHost_mem σ x l σ' q) hy) y hy), Nat.le_trans (runH_len (f := fHost) fun σ x l σ' q => one_len (fHost_mem σ x l σ' q)) h.2⟩
theorem Sub.hostIf {tr rs} {r : HE} {hs} (h : Sub r hs) : Sub (vHostIf tr rs r) hs := by
  unfold vHostIf
  split
  · exact h
  · exact h.host

section
variable {prog : Program} {w : World} {n m n' k : Nat} {env cenv : Env} {O : Option Addr} {Γ Γ' : Lcl} {ins outs : List PV} {e e' : End'} {a : Addr} {x hs : Str} {G : GH} {s : Shared} {A : Around} {ρ : Res w}

theorem Em.le {it : Value} {n n' : Nat} (hn : n ≤ n') : ∀ {outs : List PV} {FP : Addr → Prop} {GP : Nat → Prop} {G : GH} {s : Shared}, Em prog w n it outs e FP GP G s → Em prog w n' it outs e FP GP G s
  | [], _, _, _, _, h => fun A G₁ s₁ g cx => h A G₁ s₁ g (cx.le hn)
  | o :: outs, _, _, _, _, h => fun A G₁ s₁ g cx => wpAny_mono (h A G₁ s₁ g (cx.le hn)) (fun r s₂ q => by
    obtain ⟨v, G₂, FP', GP', h1, h2, h3, h4, h5, h6, h7, h8, h9, h10⟩ := q
    exact ⟨v, G₂, FP', GP', h1, h2, h3, h4, h5, h6, h7, h8, h9, Em.le hn h10⟩) fun _ _ q => q
theorem StageI.up {I : PV → Res w → Prop} {fa q} (h : StageI prog w I m n fa q outs e') (hn : n ≤ n') : StageI prog w I m n' fa q outs e' := fun A G s hv fv p ρ hin r1 r2 W cx hρ hth =>
  codeAny_mono (h A G s hv fv p ρ hin r1 r2 W cx hρ hth) fun r s' q => by
    obtain ⟨v, e1, g, kk, G', FP, GP, h1, h2, h3, h4, h5, h6, h7⟩ := q
    exact ⟨v, e1, g, kk, G', FP, GP, h1, h2, h3, h4.le hn, h5, h6, h7⟩

theorem fn_global {f : Str} {fp : Pos} {fa : Addr} (hk : env.kindOf f = some .globalImplicit) (e : nsIn (topK w) mainGlobals f = some (some (.ref fa))) (hd : (f == ("__debug__" : Str)) = false) : EvP prog w k env Γ (.Name f fp) (.oth (.ref fa)) :=
  ev_global hk e (fun _ _ => by unfold Rep; rfl) hd

/-- _check_host_authority_header, _check_sent_host_authority_header -/
theorem fn_host261 {hs : List Hd} {e : End'} {a1 tr rs d : Bool} (hsm : ∀ h ∈ hs, SmH h) : StageI prog w (InpG prog w n (hs.map Hd.pv) e) 5 (n+2) 261 [.flg a1 tr rs d] ((vHostIf tr rs (hs, e)).1.map Hd.pv) (vHostIf tr rs (hs, e)).2 := by
  refine stageI_of' (k := 4) (hs := "headers") (xs := ["hdr_validation_flags"]) (by kernel_rfl) (by kernel_rfl) (by kernel_rfl) (by kernel_rfl) (by kernel_rfl) rfl (fun vs hl => ?_) fun env p ok => ?_
  · obtain ⟨x, y, rfl⟩ := vs2 hl
    kernel_rfl
  conv in bodyOf w 261 => whnf
  have k1 := ok.k "skip_validation" .local (by kernel_rfl)
  have k2 := ok.k "_validate_host_authority_header" .globalImplicit (by kernel_rfl)
  have hfl : (⟨(["headers", "hdr_validation_flags"] : List Str).zip [p, .flg a1 tr rs d], none⟩ : Lcl).vars.lookup ("hdr_validation_flags" : Str) = some (.flg a1 tr rs d) := by rfl
  refine exg_cons (exp_doc ok.inter) (fun _ h => h) (exg_cons (exp_assign (p := .bool (rs || tr)) (ev_eq (ev_or2 (p := .bool rs) (q := .bool tr) (ev_response (ev_name hfl)) tr_bool fun _ => ev_trailer (ev_name hfl)) (by cases rs <;> rfl)) k1 (fun z d q => by cases q)) (fun p h => lookup_skip h (by decide)) ?_)
  refine exg_if (b := rs || tr) (evt_value (p := .bool (rs || tr)) (ev_name lookup_here) tr_bool) (fun hb => ?_) (fun hb => ?_)
  · unfold vHostIf
    rw [if_pos hb]
    exact exg_last (exg_ret (evg_genexp (q := (260, 256)) (by decide) (by simp [tabs]) (by rw [ok.code]; kernel_rfl) (fun h => by cases h)))
  · unfold vHostIf
    rw [if_neg (by rw [hb]; exact Bool.false_ne_true)]
    exact exg_last (exg_ret (evg_stage (fn_global k2 (by kernel_rfl) (by decide +kernel)) (by kernel_rfl) evl_nil (by decide) ((st_host hsm).i.g.le (by omega))))
theorem fn_host296 {hs : List Hd} {e : End'} {a1 tr rs d : Bool} (hsm : ∀ h ∈ hs, SmH h) : StageI prog w (InpG prog w n (hs.map Hd.pv) e) 5 (n+2) 296 [.flg a1 tr rs d] ((vHostIf tr rs (hs, e)).1.map Hd.pv) (vHostIf tr rs (hs, e)).2 := by
  refine stageI_of' (k := 4) (hs := "headers") (xs := ["hdr_validation_flags"]) (by kernel_rfl) (by kernel_rfl) (by kernel_rfl) (by kernel_rfl) (by kernel_rfl) rfl (fun vs hl => ?_) fun env p ok => ?_
  · obtain ⟨x, y, rfl⟩ := vs2 hl
    kernel_rfl
  conv in bodyOf w 296 => whnf
  have k1 := ok.k "skip_validation" .local (by kernel_rfl)
  have k2 := ok.k "_validate_host_authority_header" .globalImplicit (by kernel_rfl)
  have hfl : (⟨(["headers", "hdr_validation_flags"] : List Str).zip [p, .flg a1 tr rs d], none⟩ : Lcl).vars.lookup ("hdr_validation_flags" : Str) = some (.flg a1 tr rs d) := by rfl
  refine exg_cons (exp_doc ok.inter) (fun _ h => h) (exg_cons (exp_assign (p := .bool (rs || tr)) (ev_eq (ev_or2 (p := .bool rs) (q := .bool tr) (ev_response (ev_name hfl)) tr_bool fun _ => ev_trailer (ev_name hfl)) (by cases rs <;> rfl)) k1 (fun z d q => by cases q)) (fun p h => lookup_skip h (by decide)) ?_)
  refine exg_if (b := rs || tr) (evt_value (p := .bool (rs || tr)) (ev_name lookup_here) tr_bool) (fun hb => ?_) (fun hb => ?_)
  · unfold vHostIf
    rw [if_pos hb]
    exact exg_last (exg_ret (evg_genexp (q := (295, 291)) (by decide) (by simp [tabs]) (by rw [ok.code]; kernel_rfl) (fun h => by cases h)))
  · unfold vHostIf
    rw [if_neg (by rw [hb]; exact Bool.false_ne_true)]
    exact exg_last (exg_ret (evg_stage (fn_global k2 (by kernel_rfl) (by decide +kernel)) (by kernel_rfl) evl_nil (by decide) ((st_host hsm).i.g.le (by omega))))
end
end Mine

namespace Mine
open PySem PySem.W PySem.Calls PyProof.Rows

noncomputable def argsNone : Arguments := { posonlyargs := [], args := [], vararg := none, kwonlyargs := [], kw_defaults := [], kwarg := none, defaults := [] }
noncomputable def scIn : Scope := { kind := .function, names := [("header", .local), ("msg", .local), ("headers", .free), ("ProtocolError", .globalImplicit)], isGenerator := true, isCoroutine := false, more := [] }
noncomputable def sHs : Str := "headers"

section
variable {prog : Program} {w : World} {n m n' k : Nat} {env cenv : Env} {O : Option Addr} {Γ Γ' : Lcl} {ins outs : List PV} {e e' : End'} {a : Addr} {x hs : Str} {G : GH} {s : Shared} {A : Around} {ρ : Res w}

/-- a function's table of codes grew by a code that is known -/
theorem grow_tabC {F K} {q : Addr × Addr} {h' : Heap} {tk : Nat} {ps' : Array Value} {c : Addr} {oc : Obj} (W : Wld w G s) (hq : q ∈ tabs) (hs : Heap.ExtBut q.2 s.heap h') (hP : h'.get? q.2 = some (tabObj ps')) (hc : s.heap.get? c = none) (hoc : h'.get? c = some oc) (ok : TabOk (G.add c oc) q.2 ps') :
    Grow w F K G s (G.add c oc) { s with heap := h', toks := tk } := by
  obtain ⟨t1, ps, t2, t3⟩ := W.tab q hq
  have hGc : G c = none := W.fresh hc
  have sub := GH.add_sub (o := oc) hGc
  refine ⟨⟨fun b o e => ?_, fun b o e nf nt => ⟨o, hs b o (fun r => nt (r ▸ tab_is hq)) e, .refl o⟩, fun b o e d => ⟨o, hs b o (fun r => ?_) e, d⟩, Nat.le_refl _, fun _ _ q _ => q, rfl⟩, ⟨fun b o e => ?_, ?_, fun q' hq' => ?_, W.bare⟩, fun b o e => sub b o e, fun b o e => ?_⟩
  · by_cases r : b = q.2
    · exact ⟨_, r ▸ hP⟩
    · exact ⟨o, hs b o r e⟩
  · rw [r, t2] at e; cases e; obtain ⟨es, ep, d⟩ := d; cases d
  · unfold GH.add at e
    split at e
    · rename_i r; cases e; rw [r]; exact hoc
    · exact hs b o (fun r => by rw [r, t1] at e; cases e) (W.sub _ _ e)
  · obtain ⟨g₀, b, i⟩ := W.base
    exact ⟨g₀, b, fun b o e => sub b o (i b o e)⟩
  · obtain ⟨u1, us, u2, u3⟩ := W.tab q' hq'
    have hne : q'.2 ≠ c := fun r => by rw [r, hc] at u2; cases u2
    have hn : (G.add c oc) q'.2 = none := by unfold GH.add; rw [if_neg hne]; exact u1
    rcases tab_ne hq' hq with r | r
    · subst r; exact ⟨hn, ps', hP, ok⟩
    · exact ⟨hn, us, hs _ _ r u2, u3.mono sub⟩
  · unfold GH.add at e
    split at e
    · rename_i r; exact .inr (r ▸ hc)
    · exact .inl e

/-- the record of inner -/
noncomputable def InnerFd (c : Addr) (body : List Stmt) (fd : FuncData) : Prop := ∃ doc pm cdv ct, fd = fnX "inner" innerQual argsNone body scIn [(sHs, c)] .none .none doc pm none cdv ct

/-- def inner(): .. -/
theorem def_inner {c : Addr} {body : List Stmt} {pos : Pos} (hcells : env.cells = [(sHs, c)]) (hk : env.kindOf "inner" = some .local) (hcode : env.code = .ref 267) (hqual : qualnameIn env "inner" "inner" = innerQual) (h1 : pos.line = innerPos.1) (h2 : pos.col = innerPos.2) (gd : Good w A env none Γ G s) (hown : Γ.own = none) :
    wpAny (model prog w) A (exec (.FunctionDef "inner" argsNone body [] none [] scIn none "inner" pos) env) (fun fl s' => fl = .next ∧ ∃ G' f fd, Grow w (Wr env none) No G s G' s' ∧ Good w A env none (Γ.set "inner" (.oth (.ref f))) G' s' ∧ G' f = some { cls := .type "function", data := .func fd } ∧ InnerFd c body fd ∧ CodeRecG G' fd.code innerQual) (fun _ _ => False) s := by
  rw [exec_def]
  refine wpAny_bind (wpAny_standAt (wpAny_bind (wpAny_holding ?_)))
  refine wpAny_bind (m := evalAll (defaultsOf argsNone env).1) (wpAny_pure ?_)
  refine wpAny_bind (wpAny_holding (wpAny_pure (wpAny_holding ?_)))
  refine wpAny_bind (m := evalNamed (annTrees argsNone none env)) (wpAny_pure ?_)
  show wpAny _ _ (makeFunction "inner" (qualnameIn env "inner" "inner") argsNone (.stmts body) scIn env [] [] [] pos pos.line) _ _ s
  rw [hqual]
  have hq : ((267, 263) : Addr × Addr) ∈ tabs := by simp [tabs]
  obtain ⟨t1, ps, t2, t3, t4⟩ := gd.wld.tab _ hq
  have C := codeHd_of gd.wld hq
  obtain ⟨g₀, b, hi⟩ := gd.wld.base
  obtain ⟨_, _, mg, mb, T⟩ := b.T
  have kp : ∀ a o, g₀.get? a = some o → s.heap.get? a = some o := fun a o e => gd.wld.sub _ _ (hi _ _ e)
  have T' := T.keeps kp
  obtain ⟨bm, ob, b1, b2, b3, b4, b5, b6⟩ := T'.bmain
  have hgP : mainGlobals ≠ 263 := by decide
  have hbP : bm ≠ 263 := fun q => by rw [q, t2] at b3; cases b3; cases b4
  have hbG : bm ≠ mainGlobals := fun q => by
    obtain ⟨o, es, ep, e, hd, _⟩ := T'.g
    rw [q, e] at b3; cases b3; rw [hd] at b6; cases b6
  have hb : s.heap.BuiltinsAt mg 263 := ⟨bm, ob, b1, b2, hbG, hbP, b3, b4, b5, b6⟩
  have hcl : closureFor scIn env = pure [(sHs, c)] := closureFor_one hcells (by decide)
  have fin : ∀ (G1 : GH) (s1 : Shared) (fd : FuncData), Grow w Pure No G s G1 s1 → InnerFd c body fd → CodeRecG G1 fd.code innerQual → ∀ Q : Value → Shared → Prop, (∀ G' s' f, Grow w Pure No G s G' s' → G' f = some { cls := .type "function", data := .func fd } → CodeRecG G' fd.code innerQual → s' = { s1 with heap := s1.heap.push { cls := .type "function", data := .func fd } } → f = s1.heap.objs.size → Q (.ref f) s') →
      Q (.ref s1.heap.objs.size) { s1 with heap := s1.heap.push { cls := .type "function", data := .func fd } } := by
    intro G1 s1 fd g1 hfd hrec Q hQ
    have g2 := Grow.push (F := Pure) (K := No) (tk := s1.toks) g1.wld (o := { cls := .type "function", data := .func fd }) rfl
    have hr2 : CodeRecG (G1.add s1.heap.objs.size { cls := .type "function", data := .func fd }) fd.code innerQual := by
      obtain ⟨c₂, oc, vs, t, e1, e2, e3, e4⟩ := hrec
      exact ⟨c₂, oc, vs, t, e1, g2.sub _ _ e2, e3, e4⟩
    exact hQ _ _ _ (g1.trans' g2) GH.add_self hr2 rfl rfl
  have done : ∀ (G' : GH) (s' : Shared) (f : Addr) (fd : FuncData), Grow w Pure No G s G' s' → G' f = some { cls := .type "function", data := .func fd } → CodeRecG G' fd.code innerQual → InnerFd c body fd →
      wpAny (model prog w) A (standAt pos >>= fun _ => bindName env "inner" (.ref f) >>= fun _ => pure Flow.next) (fun fl s' => fl = .next ∧ ∃ G' f fd, Grow w (Wr env none) No G s G' s' ∧ Good w A env none (Γ.set "inner" (.oth (.ref f))) G' s' ∧ G' f = some { cls := .type "function", data := .func fd } ∧ InnerFd c body fd ∧ CodeRecG G' fd.code innerQual) (fun _ _ => False) s' := by
    intro G' s' f fd g hf hrec hfd
    have gd' := gd.pur g
    refine wpAny_bind (wpAny_standAt (wpAny_bind (wpAny_bindName (wpAny_store_good gd' hk (p := .oth (.ref f)) (by unfold Rep; rfl) (fun z d q => by rw [hown] at q; cases q) fun s2 g2 gd2 => wpAny_pure ⟨rfl, G', f, fd, g.pur.trans' g2, gd2, hf, hfd, hrec⟩))))
  cases hnf : codeAmong pos ps.toList with
  | some cv =>
    have hrec := t4 rfl pos h1 h2 cv hnf
    refine makeFunction_hit (mg := mg) hcl gd.globals T'.g hcode C t2 t3 hnf hb fun ctv doc h' tk hx hge => ?_
    have g1 : Grow w Pure No G s G { s with heap := h', toks := tk } := Grow.keeps (dr := s.drawn) gd.wld hx
    have hfd : InnerFd c body (fnX "inner" innerQual argsNone body scIn [(sHs, c)] .none .none doc ((mg "__name__").getD .none) none cv ctv) := ⟨_, _, _, _, rfl⟩
    exact fin G { s with heap := h', toks := tk } _ g1 hfd hrec (fun v s' => wpAny _ _ (standAt pos >>= fun _ => bindName env "inner" v >>= fun _ => pure Flow.next) _ _ s') fun G' s' f gg hf hr _ _ => done G' s' f _ gg hf hr hfd
  | none =>
    refine makeFunction_K (mg := mg) hcl gd.globals T'.g hcode C t2 t3 hnf hgP hb fun c' ctv doc h' tk hx hge hlt hrec htb => ?_
    obtain ⟨c₂, oc, vs, t, e2, hoc, hd, hv⟩ := hrec
    cases e2
    have hcd : s.heap.get? c' = none := Heap.get?_none_of_le hge
    have hrecG : CodeRecG (G.add c' oc) (.ref c') innerQual := ⟨c', oc, vs, t, rfl, GH.add_self, hd, hv⟩
    have hl : (ps ++ #[rawInt pos.line, rawInt pos.col, Value.ref c']).toList = ps.toList ++ [rawInt pos.line, rawInt pos.col, .ref c'] := by simp
    have g1 : Grow w Pure No G s (G.add c' oc) { s with heap := h', toks := tk } := by
      refine grow_tabC gd.wld hq hx htb hcd hoc ⟨by rw [hl]; exact TriplesOk_snoc _ _ _ _ t3, fun _ pos' p1 p2 cv hcv => ?_⟩
      rw [hl, codeAmong_add _ t3] at hcv
      have hps : codeAmong pos' ps.toList = codeAmong pos ps.toList :=
         codeAmong_pos (p1.trans h1.symm) (p2.trans h2.symm) _ t3
      rw [hps, hnf, Option.none_or, if_pos ⟨by rw [h1, p1], by rw [h2, p2]⟩] at hcv
      cases hcv
      exact hrecG
    have hfd : InnerFd c body (fnX "inner" innerQual argsNone body scIn [(sHs, c)] .none .none doc ((mg "__name__").getD .none) none (.ref c') ctv) := ⟨_, _, _, _, rfl⟩
    exact fin (G.add c' oc) { s with heap := h', toks := tk } _ g1 hfd hrecG (fun v s' => wpAny _ _ (standAt pos >>= fun _ => bindName env "inner" v >>= fun _ => pure Flow.next) _ _ s') fun G' s' f gg hf hr _ _ => done G' s' f _ gg hf hr hfd
end
end Mine

namespace Mine
open PySem PySem.W PySem.Calls PyProof.Rows

section
variable {prog : Program} {w : World} {n m n' k : Nat} {env cenv : Env} {O : Option Addr} {Γ Γ' : Lcl} {ins outs : List PV} {e e' : End'} {a : Addr} {x hs : Str} {G : GH} {s : Shared} {A : Around} {ρ : Res w}

/-- the frame of inner -/
structure InEnv (env : Env) : Prop where
  kinds : ∀ x, env.kindOf x = scIn.names.lookup x
  inter : interactive env = false
  co : env.scope.isCoroutine = false

/-- inner() -/
theorem inner_res {c f : Addr} {fd : FuncData} {body : List Stmt} {p : PV} {fp pos : Pos} (hin : InpG prog w n ins e p ρ) (hx : Γ.vars.lookup sHs = some p) (hkc : env.kindOf sHs = some .cell) (hcells : env.cells = [(sHs, c)]) (rm : Rm (k+1) A) (gd : Good w A env O Γ G s)
    (hi : Γ.vars.lookup ("inner" : Str) = some (.oth (.ref f))) (hf : G f = some { cls := .type "function", data := .func fd }) (hfd : InnerFd c body fd) (hrec : CodeRecG G fd.code innerQual) (hρ : ρ.holds G s) (hth : There ρ.fr ρ.gr s)
    (run : ∀ env', InEnv env' → ∃ o, GsR prog w n env' none ρ (Res.nil w) ⟨[(sHs, p)], none⟩ (execs body env') outs o ∧ ((e' = .done ∧ ∃ Γ', o = .next Γ') ∨ (e' = .err ∧ o = .err))) :
    wpAny (model prog w) A (eval (.Call (.Name "inner" fp) [] [] pos) env) (fun v s' => GenRes prog w (n+2) ρ G s outs e' v s') (fun _ _ => False) s := by
  refine wpAny_Call_ofName ((ev_name (prog := prog) (n := k+1) hi (by decide)).use rm gd fun u G1 s1 g1 gd1 q1 => ?_)
  unfold Rep at q1
  subst q1
  refine callWith_function (o := { cls := .type "function", data := .func fd }) (fd := fd) ((args_nil _).use rm gd1 fun a G2 s2 g2 gd2 q2 => ⟨⟨gd2.wld.sub _ _ ((g1.trans' g2).sub _ _ hf), rfl⟩, ?_⟩)
  obtain ⟨pos', kw⟩ := a
  have r := q2.2
  unfold RepL at r
  simp only at r
  subst r
  rw [q2.1]
  have gg := g1.trans' g2
  obtain ⟨doc, pm, cdv, ct, rfl⟩ := hfd
  -- the cell
  obtain ⟨m, hm, hv, _⟩ := gd2.vars
  obtain ⟨v, rd, rp⟩ := hv sHs p hx
  have hcell : ∃ oc, G2 c = some oc ∧ oc.data = .cell (some v) := by
    rcases rd with ⟨r1, _⟩ | ⟨_, _, c0, oc, hc0, hGc, hd⟩
    · rw [hkc] at r1; cases r1
    · rw [hcells] at hc0
      have : c = c0 := by simpa [sHs] using hc0
      subst this
      exact ⟨oc, hGc, hd⟩
  obtain ⟨oc, hGc, hdc⟩ := hcell
  have hrec2 : CodeRecG G2 cdv innerQual := by
    obtain ⟨c₂, oc₂, vs, t, e1, e2, e3, e4⟩ := hrec
    exact ⟨c₂, oc₂, vs, t, e1, gg.sub _ _ e2, e3, e4⟩
  refine wpAny_call (codeAny_mono (call_gen (n := n) (e := e') (outs := outs) (binds := []) (Γ₀ := ⟨[(sHs, p)], none⟩) (body := body) (gg.sub _ _ hf) ⟨rfl, rfl, (show ∀ x ∈ scIn.names, x.2 ≠ .cell from by decide), rfl, rfl, rfl⟩ rfl hrec2 rfl (fun x hx => by cases hx) (fun L x p' h => ?_) rfl gd2.wld ((gd2.cx rm).le (by omega)) (ρ.st _ _ _ _ gg.pur hρ) (hth.grow gg) fun L X h => ?_) fun r s' ⟨v, e1, h1⟩ => ?_)
  · rw [List.lookup_cons] at h
    cases hxx : x == sHs with
    | true =>
      have e : x = sHs := by simpa using hxx
      subst e
      rw [hxx] at h; cases h
      refine ⟨v, .inr ⟨.inr ?_, by decide, c, oc, ?_, hGc, hdc⟩, rp⟩
      · show scIn.names.lookup sHs = some .free; decide
      · show [(sHs, c)].lookup sHs = some c; simp
    | false => rw [hxx] at h; cases h
  · obtain ⟨o, hg, ho⟩ := run (callEnv (fnX "inner" innerQual argsNone body scIn [(sHs, c)] .none .none doc pm none cdv ct) L f) ⟨fun x => rfl, rfl, rfl⟩
    exact gen_body hg ho h
  · subst e1
    exact GenRes.frame h1 gg

theorem exg_use {I : PV → Res w → Prop} {t : Sem Flow} {l : List Env} {p : PV} {G₀ : GH} {s₀ : Shared} (h : ExG prog w k n' I env hs Γ t outs e') (g : Grow w (Wr env none) No G₀ s₀ G s) (rm : Rm k A) (hf : A.frames = some (env :: l)) (hself : env.frame = some env.locals) (gd : Good w A env none Γ G s)
    (hin : I p ρ) (hx : Γ.vars.lookup hs = some p) (hρ : ρ.holds G s) (hth : There ρ.fr ρ.gr s) (hL : ¬ ρ.fr env.locals) :
    wpAny (model prog w) A t (fun fl s' => ∃ v, fl = .ret v ∧ GenResF prog w n' (Wr env none) ρ G₀ s₀ outs e' v s') (fun _ _ => False) s :=
  wpAny_mono (h A l G s p ρ rm hf hself gd hin hx hρ hth hL) (fun fl s' ⟨v, e1, h⟩ => ⟨v, e1, h.back g (fun _ h => .inl h) fun _ h => .inl h⟩) fun _ _ q => q

theorem body_path {x : Hd} {vars : List (Str × PV)} {S : Str} {p1 p2 p3 p4 p5 p6 p7 p8 p9 p10 a1 a2 a3 b1 b2 b3 b4 c1 d1 d2 d3 : Pos} {k1 k2 k3 k4 : Nat} (ok' : InEnv env) (sx : SmH x) : match fPath x with
      | some l => ∃ vars', Gs prog w n env none ⟨("header", x.pv) :: vars, none⟩ (execs [.If (.BoolOp .And [.Compare (.Subscript (.Name "header" p1) (.Constant (.int 0) k1 p2) p3) [.Eq] [.Constant (.bytes [58, 112, 97, 116, 104]) k2 p4] p5, .UnaryOp .Not (.Subscript (.Name "header" p6) (.Constant (.int 1) k3 p7) p8) p9] p10)
          [.Assign [.Name "msg" a1] (.Constant (.str S) k4 a2) a3, .Raise (some (.Call (.Name "ProtocolError" b1) [.Name "msg" b2] [] b3)) none b4] [] c1, .Expr (.Yield (some (.Name "header" d1)) d2) d3] env) (l.map Hd.pv) (.next ⟨vars', none⟩)
      | none => Gs prog w n env none ⟨("header", x.pv) :: vars, none⟩ (execs [.If (.BoolOp .And [.Compare (.Subscript (.Name "header" p1) (.Constant (.int 0) k1 p2) p3) [.Eq] [.Constant (.bytes [58, 112, 97, 116, 104]) k2 p4] p5, .UnaryOp .Not (.Subscript (.Name "header" p6) (.Constant (.int 1) k3 p7) p8) p9] p10)
          [.Assign [.Name "msg" a1] (.Constant (.str S) k4 a2) a3, .Raise (some (.Call (.Name "ProtocolError" b1) [.Name "msg" b2] [] b3)) none b4] [] c1, .Expr (.Yield (some (.Name "header" d1)) d2) d3] env) [] .err := by
  have j2 : env.kindOf "msg" = some .local := (ok'.kinds _).trans (by decide)
  have j3 : env.kindOf "ProtocolError" = some .globalImplicit := (ok'.kinds _).trans (by decide)
  have y0 : (⟨("header", x.pv) :: vars, none⟩ : Lcl).vars.lookup ("header" : Str) = some x.pv := by rfl
  have t : EvT prog w n env ⟨("header", x.pv) :: vars, none⟩ (.BoolOp .And [.Compare (.Subscript (.Name "header" p1) (.Constant (.int 0) k1 p2) p3) [.Eq] [.Constant (.bytes [58, 112, 97, 116, 104]) k2 p4] p5, .UnaryOp .Not (.Subscript (.Name "header" p6) (.Constant (.int 1) k3 p7) p8) p9] p10) (x.1 == bPath && x.2.1.size == 0) := by
    refine evt_eq (evt_boolop (eva_and (evt_cmp (ev_h0 (h := x) y0) ev_bytes cmp_eq_byt) fun _ => eva_and (evt_not (evt_value (p := .byt x.2.1) (ev_h1 (h := x) y0) (tr_bytes sx.b))) fun _ => eva_and_nil)) ?_
    rw [Bool.and_true]
    show (x.1 == bPath && !(x.2.1.size != 0)) = _
    cases x.2.1.size <;> rfl
  unfold fPath
  cases hq : x.1 == bPath && x.2.1.size == 0 with
  | true =>
    rw [if_pos rfl]
    exact gs_stop (gs_ift t hq (gs_leaf (exp_msg_raise ev_str j2 j3 rfl (by decide)))) (by simp)
  | false =>
    rw [if_neg Bool.false_ne_true]
    exact ⟨_, gs_cons (outs1 := []) (gs_iff t hq gs_nil) (gs_cons1 (gs_yield (ev_name y0) ok'.co ok'.inter))⟩

/-- _check_path_header -/
theorem fn_path {hs : List Hd} {e : End'} {a1 tr rs d : Bool} (hsm : ∀ h ∈ hs, SmH h) : StageI prog w (InpG prog w n (hs.map Hd.pv) e) 5 (n+2) 268 [.flg a1 tr rs d] ((vPathIf tr rs (hs, e)).1.map Hd.pv) (vPathIf tr rs (hs, e)).2 := by
  intro A G s hv fv p ρ hin r1 r2 W cx hρ hth
  have hl2 := r2.length
  obtain ⟨q, rfl, rq⟩ := repl1 r2
  refine call_enterC (fd := fdOf w 268) (n := 4) (names := [sHs, "hdr_validation_flags"]) (xc := sHs) (ps := [p, .flg a1 tr rs d]) (body := bodyOf w 268) (top_in W (by kernel_rfl)) (by kernel_rfl) (by kernel_rfl) (by kernel_rfl) (code_in W (by kernel_rfl)) (by kernel_rfl) rfl (by decide +kernel) (.cons r1 (.cons rq .nil)) W cx fun L A' l G₁ s₁ rm hfr g1 hL gd => ?_
  have ok : EnvOk w 268 (callEnvC (fdOf w 268) L 268) := {
    kinds := fun x => rfl
    inter := by kernel_rfl
    co := by kernel_rfl
    code := rfl
    qual := rfl
    globals := gd.globals
    builtins := gd.builtins
    frame := rfl }
  have hcells : (callEnvC (fdOf w 268) L 268).cells = [(sHs, L + 1)] := by kernel_rfl
  have hself : (callEnvC (fdOf w 268) L 268).frame = some (callEnvC (fdOf w 268) L 268).locals := rfl
  have hLloc : (callEnvC (fdOf w 268) L 268).locals = L := rfl
  generalize callEnvC (fdOf w 268) L 268 = env at hfr gd ok hcells hself hLloc ⊢
  have hρ1 := ρ.st _ _ _ _ g1.pur hρ
  have hth1 := hth.grow g1
  have hLn : ¬ ρ.fr env.locals := fun h => by obtain ⟨o, e⟩ := hth.1 _ h; rw [hLloc, hL] at e; cases e
  have k1 := ok.k "skip_validation" .local (by kernel_rfl)
  have k2 := ok.k "inner" .local (by kernel_rfl)
  have k3 := ok.k "headers" .cell (by kernel_rfl)
  have hx0 : (⟨([sHs, "hdr_validation_flags"] : List Str).zip [p, .flg a1 tr rs d], none⟩ : Lcl).vars.lookup sHs = some p := by rfl
  have hfl : (⟨([sHs, "hdr_validation_flags"] : List Str).zip [p, .flg a1 tr rs d], none⟩ : Lcl).vars.lookup ("hdr_validation_flags" : Str) = some (.flg a1 tr rs d) := by rfl
  have hown0 : (⟨([sHs, "hdr_validation_flags"] : List Str).zip [p, .flg a1 tr rs d], none⟩ : Lcl).own = none := rfl
  generalize (⟨([sHs, "hdr_validation_flags"] : List Str).zip [p, .flg a1 tr rs d], none⟩ : Lcl) = Γ at gd hx0 hfl hown0
  -- to the end
  have main : wpAny (model prog w) A' (execs (bodyOf w 268) env) (fun fl s' => ∃ v, fl = .ret v ∧ GenResF prog w (n+2) (Wr env none) ρ G₁ s₁ ((vPathIf tr rs (hs, e)).1.map Hd.pv) (vPathIf tr rs (hs, e)).2 v s') (fun _ _ => False) s₁ := by
    conv in bodyOf w 268 => whnf
    refine wpAny_execs_cons (wpAny_mono (exp_doc (prog := prog) (n := 4) (O := none) ok.inter A' l G₁ s₁ rm hfr hself gd) (fun fl s2 ⟨G2, g2, q⟩ => ?_) (fun x s1 ⟨q, _⟩ => by cases q))
    obtain ⟨rfl, gd2⟩ := q
    refine wpAny_execs_cons (wpAny_mono (def_inner (c := L + 1) hcells k2 (by rw [ok.code]; kernel_rfl) (by unfold qualnameIn; rw [k2, ok.qual]; kernel_rfl) rfl rfl gd2 hown0) (fun fl s3 ⟨q, G3, f, fd, g3, gd3, hf, hfd, hrec⟩ => ?_) fun _ _ q => q.elim)
    subst q
    have g23 := g2.trans' g3
    have toρ : ∀ {G s G' s'}, Grow w (Wr env none) No G s G' s' → Grow w (fun a => ¬ ρ.fr a) (fun k => ¬ ρ.gr k) G s G' s' := fun g => g.mono (fun a h => h.elim (fun h => h ▸ hLn) fun h => by cases h) fun _ h => h.elim
    have hfl3 := lookup_skip (y := ("inner" : Str)) (p := .oth (.ref f)) hfl (by decide)
    have hx3 := lookup_skip (y := ("inner" : Str)) (p := .oth (.ref f)) hx0 (by decide)
    have hi3 : (Γ.set "inner" (.oth (.ref f))).vars.lookup ("inner" : Str) = some (.oth (.ref f)) := lookup_here
    refine wpAny_execs_cons (wpAny_mono (exp_assign (prog := prog) (n := 4) (y := "skip_validation") (p := .bool (rs || tr)) (ev_eq (ev_or2 (p := .bool rs) (q := .bool tr) (ev_response (n := 2) (ev_name hfl3)) tr_bool fun _ => ev_trailer (n := 2) (ev_name hfl3)) (by cases rs <;> rfl)) k1 (fun z d q => by rw [show (Γ.set "inner" (.oth (.ref f))).own = none from hown0] at q; cases q) rfl A' l G3 s3 rm hfr hself gd3) (fun fl s4 ⟨G4, g4, q⟩ => ?_) (fun x s1 ⟨q, _⟩ => by cases q))
    obtain ⟨rfl, gd4⟩ := q
    have g24 := g23.trans' g4
    have hx4 := lookup_skip (y := ("skip_validation" : Str)) (p := .bool (rs || tr)) hx3 (by decide)
    have hi4 := lookup_skip (y := ("skip_validation" : Str)) (p := .bool (rs || tr)) hi3 (by decide)
    have hsk : ((Γ.set "inner" (.oth (.ref f))).set "skip_validation" (.bool (rs || tr))).vars.lookup ("skip_validation" : Str) = some (.bool (rs || tr)) := lookup_here
    have hf4 := g4.sub _ _ hf
    have hrec4 : CodeRecG G4 fd.code innerQual := by
      obtain ⟨c₂, oc₂, vs, t, e1, e2, e3, e4⟩ := hrec
      exact ⟨c₂, oc₂, vs, t, e1, g4.sub _ _ e2, e3, e4⟩
    have hρ4 := ρ.st _ _ _ _ (toρ g24) hρ1
    have hth4 := hth1.grow g24
    have tsk : ∀ p, EvT prog w 4 env ((Γ.set "inner" (.oth (.ref f))).set "skip_validation" (.bool (rs || tr))) (.Name "skip_validation" p) (rs || tr) := fun p => evt_value (p := .bool (rs || tr)) (ev_name hsk) tr_bool
    cases hb : rs || tr with
    | true =>
      have hv : vPathIf tr rs (hs, e) = (hs, e) := by unfold vPathIf; rw [if_pos hb]
      rw [hv]
      exact exg_use (exg_if (b := true) (hb ▸ tsk _) (fun _ => exg_last (exg_ret (evg_genexp (q := (267, 263)) (by decide) (by simp [tabs]) (by rw [ok.code]; kernel_rfl) (fun _ h => by simp [innerPos] at h)))) (fun h => by cases h)) g24 rm hfr hself gd4 hin hx4 hρ4 hth4 hLn
    | false =>
      have hv : vPathIf tr rs (hs, e) = runS fPath hs e := by unfold vPathIf vPath; rw [if_neg (by rw [hb]; exact Bool.false_ne_true)]
      rw [hv]
      refine wpAny_execs_cons (wpAny_mono (exp_iff (O := none) (tsk _) hb exp_nil A' l G4 s4 rm hfr hself gd4) (fun fl s5 ⟨G5, g5, q⟩ => ?_) (fun x s1 ⟨q, _⟩ => by cases q))
      obtain ⟨rfl, gd5⟩ := q
      have g25 := g24.trans' g5
      have hrec5 : CodeRecG G5 fd.code innerQual := by
        obtain ⟨c₂, oc₂, vs, t, e1, e2, e3, e4⟩ := hrec4
        exact ⟨c₂, oc₂, vs, t, e1, g5.sub _ _ e2, e3, e4⟩
      refine wpAny_execs_cons (wpAny_Return_some (wpAny_mono (inner_res (k := 3) (e' := (runS fPath hs e).2) (outs := (runS fPath hs e).1.map Hd.pv) hin hx4 k3 hcells rm gd5 hi4 (g5.sub _ _ hf4) hfd hrec5 (ρ.st _ _ _ _ (toρ g5) hρ4) (hth4.grow g5) fun env' ok' => ?_) (fun v s' h => ⟨v, rfl, (h.f (F := Wr env none)).back g25 (fun _ h => .inl h) fun _ h => .inl h⟩) fun _ _ q => q))
      -- inner's body
      have j1 : env'.kindOf "header" = some .local := (ok'.kinds _).trans (by decide)
      have j2 : env'.kindOf "msg" = some .local := (ok'.kinds _).trans (by decide)
      have j3 : env'.kindOf "ProtocolError" = some .globalImplicit := (ok'.kinds _).trans (by decide)
      obtain ⟨o, L1, ho⟩ := loop_run (prog := prog) (w := w) (n := n) (env := env') (y := "header") (e := e) (f := fPath) (hs := hs) (vars := [(sHs, p)]) fun x hxm vars => body_path ok' (hsm x hxm) (vars := vars)
      exact ⟨o, gsr_cons1 (gsr_for hin.inp (by rfl) j1 L1 (by decide)), ho⟩
  refine wpAny_mono main (fun f s' ⟨v, e1, h⟩ => ?_) fun _ _ q => q.elim
  subst e1
  obtain ⟨a, kk, G', FP, GP, q1, q2, q3, q4, q5, q6, q7⟩ := h
  exact ⟨v, rfl, a, kk, G', FP, GP, q1, g1.trans q2 (fun b h => h.elim (fun h => by rw [hLloc] at h; subst h; exact .inr hL) fun h => by cases h) (fun _ h => h.elim), q3, q4, fun b hb => (q5 b hb).imp_right g1.ext.dead, fun k hk => (q6 k hk).imp_right fun q => Nat.le_trans g1.ext.gsize q, q7⟩
end
end Mine

namespace Mine
open PySem PySem.W PySem.Calls PyProof.Rows

theorem low_size (b : B) : (low b).size = b.size := by unfold low; simp
theorem strip0_size (b : B) : (strip0 b).size ≤ b.size := by unfold strip0; have := stripBy_le Builtin.Bytes.isSpace b.toList; simpa using this
noncomputable def gLower (h : Hd) : List Hd := [(low h.1, h.2.1, h.2.2)]
noncomputable def gSplit (h : Hd) : List Hd := if h.1 == bCookie then (splitB h.2.1 bSep).map (fun v => (h.1, v, h.2.2)) else [h]
noncomputable def gStrip (h : Hd) : List Hd := [(strip0 h.1, strip0 h.2.1, h.2.2)]
noncomputable def gConn (h : Hd) : List Hd := if connNames.contains h.1 then [] else [h]
noncomputable def gSecure (h : Hd) : List Hd := if secNames.contains h.1 || (h.1 == bCookie && decide (h.2.1.size < 20)) then [(h.1, h.2.1, true)] else [h]
theorem t_lower : ∀ x, fLower x = some (gLower x) := fun _ => rfl
theorem t_split : ∀ x, fSplit x = some (gSplit x) := fun _ => rfl
theorem t_strip : ∀ x, fStrip x = some (gStrip x) := fun _ => rfl
theorem t_conn : ∀ x, fConn x = some (gConn x) := fun x => by unfold fConn gConn; split <;> rfl
theorem t_secure : ∀ x, fSecure x = some (gSecure x) := fun x => by unfold fSecure gSecure; split <;> rfl
/-- normalize_outbound_headers -/
noncomputable def normOut (split : Bool) (hs : List Hd) : List Hd := ((((if split then (hs.flatMap gLower).flatMap gSplit else hs.flatMap gLower).flatMap gStrip).flatMap gConn).flatMap gSecure)
theorem sm_flat {g : Hd → List Hd} (hg : ∀ h, SmH h → ∀ y ∈ g h, SmH y) {hs : List Hd} (h : ∀ x ∈ hs, SmH x) : ∀ y ∈ hs.flatMap g, SmH y := fun y hy => by
  obtain ⟨x, hx, hy⟩ := List.mem_flatMap.mp hy
  exact hg x (h x hx) y hy
theorem sm_lower : ∀ h, SmH h → ∀ y ∈ gLower h, SmH y := fun h sh y hy => by
  unfold gLower at hy; simp at hy; subst hy
  exact ⟨by show (low h.1).size ≤ 4096; rw [low_size]; exact sh.1, sh.2⟩
theorem sm_split : ∀ h, SmH h → ∀ y ∈ gSplit h, SmH y := fun h sh y hy => by
  unfold gSplit at hy
  split at hy
  · obtain ⟨v, hv, rfl⟩ := List.mem_map.mp hy
    exact ⟨sh.1, Nat.le_trans ((splitB_size h.2.1 bSep).1 v hv) sh.2⟩
  · simp at hy; subst hy; exact sh
theorem sm_strip : ∀ h, SmH h → ∀ y ∈ gStrip h, SmH y := fun h sh y hy => by
  unfold gStrip at hy; simp at hy; subst hy
  exact ⟨Nat.le_trans (strip0_size _) sh.1, Nat.le_trans (strip0_size _) sh.2⟩
theorem sm_conn : ∀ h, SmH h → ∀ y ∈ gConn h, SmH y := fun h sh y hy => by
  unfold gConn at hy; split at hy
  · cases hy
  · simp at hy; subst hy; exact sh

section
variable {prog : Program} {w : World} {n m n' k : Nat} {env cenv : Env} {O : Option Addr} {Γ Γ' : Lcl} {ins outs : List PV} {e e' : End'} {a : Addr} {x : Str} {G : GH} {s : Shared} {A : Around} {ρ : Res w}

theorem i_lower {hs : List Hd} {fl : PV} (hsm : ∀ h ∈ hs, SmH h) : StageI prog w (Inp prog w n (hs.map Hd.pv) e) 5 (n+2) 275 [fl] ((hs.flatMap gLower).map Hd.pv) e := by
  have := (st_lower (prog := prog) (w := w) (n := n) (e := e) hsm).q (q := fl)
  rw [runS_total t_lower] at this
  exact this.i.le (by omega)
theorem i_split {hs : List Hd} {fl : PV} (hsm : ∀ h ∈ hs, SmH h) : StageI prog w (InpG prog w n (hs.map Hd.pv) e) 5 (n+2) 310 [fl] ((hs.flatMap gSplit).map Hd.pv) e := by
  have := (st_split (prog := prog) (w := w) (n := n) (e := e) hsm).q (q := fl)
  rw [runS_total t_split] at this
  exact this.i.g.le (by omega)
theorem i_strip {hs : List Hd} {fl : PV} (hsm : ∀ h ∈ hs, SmH h) : StageI prog w (InpG prog w n (hs.map Hd.pv) e) 5 (n+2) 282 [fl] ((hs.flatMap gStrip).map Hd.pv) e := by
  have := (st_strip (prog := prog) (w := w) (n := n) (e := e) hsm).q (q := fl)
  rw [runS_total t_strip] at this
  exact this.i.g.le (by omega)
theorem i_conn {hs : List Hd} {fl : PV} : StageI prog w (InpG prog w n (hs.map Hd.pv) e) 5 (n+2) 289 [fl] ((hs.flatMap gConn).map Hd.pv) e := by
  have := (st_conn (prog := prog) (w := w) (n := n) (hs := hs) (e := e)).q (q := fl)
  rw [runS_total t_conn] at this
  exact this.i.g.le (by omega)
theorem i_secure {hs : List Hd} {fl : PV} (hsm : ∀ h ∈ hs, SmH h) : StageI prog w (InpG prog w n (hs.map Hd.pv) e) 5 (n+2) 116 [fl] ((hs.flatMap gSecure).map Hd.pv) e := by
  have := (st_secure (prog := prog) (w := w) (n := n) (e := e) hsm).q (q := fl)
  rw [runS_total t_secure] at this
  exact this.i.g.le (by omega)

/-- normalize_outbound_headers -/
theorem fn_norm_out {hs : List Hd} {fl : PV} {split : Bool} (hsm : ∀ h ∈ hs, SmH h) : StageI prog w (Inp prog w n (hs.map Hd.pv) .done) 6 (n+10) 318 [fl, .bool split] ((normOut split hs).map Hd.pv) .done := by
  refine stageI_of (k := 5) (hs := "headers") (xs := ["hdr_validation_flags", "should_split_outbound_cookies"]) (by kernel_rfl) (by kernel_rfl) (by kernel_rfl) (by kernel_rfl) (by kernel_rfl) rfl (fun s vs hl X => ?_) fun env p ok => ?_
  · obtain ⟨x, y, z, rfl⟩ := vs3 hl
    exact binds_K (n := epS w (addrOfV (fdOf w 318).defaults)) (items := itemsOf w (addrOfV (fdOf w 318).defaults)) X (T := addrOfV (fdOf w 318).defaults) (o := objOf w (addrOfV (fdOf w 318).defaults)) (k := _) (by kernel_rfl) (by kernel_rfl) (by kernel_rfl) rfl (by kernel_rfl)
  conv in bodyOf w 318 => whnf
  have kh := ok.k "headers" .local (by kernel_rfl)
  have k1 := ok.k "_lowercase_header_names" .globalImplicit (by kernel_rfl)
  have k2 := ok.k "_split_outbound_cookie_fields" .globalImplicit (by kernel_rfl)
  have k3 := ok.k "_strip_surrounding_whitespace" .globalImplicit (by kernel_rfl)
  have k4 := ok.k "_strip_connection_headers" .globalImplicit (by kernel_rfl)
  have k5 := ok.k "_secure_headers" .globalImplicit (by kernel_rfl)
  have s1 := sm_flat sm_lower hsm
  refine exg_cons (exp_doc ok.inter) (fun _ h => h) ?_
  refine exg_step (pstep_assign (evg_stage (k := 4) (fn_global k1 (by kernel_rfl) (by decide +kernel)) (by kernel_rfl) (evl_cons (ev_name (p := fl) (by rfl)) evl_nil) (by decide) (i_lower hsm)) kh rfl) fun a1 g1 => ?_
  have tsp : ∀ p, EvT prog w 5 env (Lcl.set ⟨(["headers", "hdr_validation_flags", "should_split_outbound_cookies"] : List Str).zip [p, fl, .bool split], none⟩ "headers" (.gen a1 g1)) (.Name "should_split_outbound_cookies" ⟨0,0,0,0⟩) split := fun p => evt_value (p := .bool split) (ev_name (by rfl)) tr_bool
  cases split with
  | true =>
    have s2 := sm_flat sm_split s1
    have s3 := sm_flat sm_conn (sm_flat sm_strip s2)
    refine exg_step (pstep_if (evt_value (p := .bool true) (ev_name (by rfl)) tr_bool) (pstep_one (pstep_assign (evg_stage (k := 4) (fn_global k2 (by kernel_rfl) (by decide +kernel)) (by kernel_rfl) (evl_cons (ev_name (p := fl) (by rfl)) evl_nil) (by decide) (i_split s1)) kh rfl))) fun a2 g2 => ?_
    refine exg_step (pstep_assign (evg_stage (k := 4) (fn_global k3 (by kernel_rfl) (by decide +kernel)) (by kernel_rfl) (evl_cons (ev_name (p := fl) (by rfl)) evl_nil) (by decide) (i_strip s2)) kh rfl) fun a3 g3 => ?_
    refine exg_step (pstep_assign (evg_stage (k := 4) (fn_global k4 (by kernel_rfl) (by decide +kernel)) (by kernel_rfl) (evl_cons (ev_name (p := fl) (by rfl)) evl_nil) (by decide) i_conn) kh rfl) fun a4 g4 => ?_
    exact exg_last (exg_ret (evg_stage (k := 4) (fn_global k5 (by kernel_rfl) (by decide +kernel)) (by kernel_rfl) (evl_cons (ev_name (p := fl) (by rfl)) evl_nil) (by decide) (i_secure s3)))
  | false =>
    have s3 := sm_flat sm_conn (sm_flat sm_strip s1)
    refine exg_cons (exp_iff (evt_value (p := .bool false) (ev_name (by rfl)) tr_bool) rfl exp_nil) (fun _ h => h) ?_
    refine exg_step (pstep_assign (evg_stage (k := 4) (fn_global k3 (by kernel_rfl) (by decide +kernel)) (by kernel_rfl) (evl_cons (ev_name (p := fl) (by rfl)) evl_nil) (by decide) (i_strip s1)) kh rfl) fun a3 g3 => ?_
    refine exg_step (pstep_assign (evg_stage (k := 4) (fn_global k4 (by kernel_rfl) (by decide +kernel)) (by kernel_rfl) (evl_cons (ev_name (p := fl) (by rfl)) evl_nil) (by decide) i_conn) kh rfl) fun a4 g4 => ?_
    exact exg_last (exg_ret (evg_stage (k := 4) (fn_global k5 (by kernel_rfl) (by decide +kernel)) (by kernel_rfl) (evl_cons (ev_name (p := fl) (by rfl)) evl_nil) (by decide) ((i_secure s3).up (by omega))))

/-- normalize_inbound_headers -/
theorem fn_norm_in {hs : List Hd} {fl : PV} (hsm : ∀ h ∈ hs, SmH h) (hlen : hs.length ≤ 1000) : StageI prog w (Inp prog w n (hs.map Hd.pv) .done) 6 (n+2) 325 [fl] ((combineB hs).map Hd.pv) .done := by
  refine stageI_of' (k := 5) (hs := "headers") (xs := ["hdr_validation_flags"]) (by kernel_rfl) (by kernel_rfl) (by kernel_rfl) (by kernel_rfl) (by kernel_rfl) rfl (fun vs hl => ?_) fun env p ok => ?_
  · obtain ⟨x, y, rfl⟩ := vs2 hl
    kernel_rfl
  conv in bodyOf w 325 => whnf
  have k1 := ok.k "_combine_cookie_fields" .globalImplicit (by kernel_rfl)
  refine exg_cons (exp_doc ok.inter) (fun _ h => h) ?_
  exact exg_last (exg_ret (evg_stage (k := 4) (fn_global k1 (by kernel_rfl) (by decide +kernel)) (by kernel_rfl) (evl_cons (ev_name (p := fl) (by rfl)) evl_nil) (by decide) ((st_combine hsm hlen).q.i.le (by omega))))

/-- validate_outbound_headers -/
theorem fn_val_out {hs : List Hd} {a1 tr rs d : Bool} (hsm : ∀ h ∈ hs, SmH h) (hne : ∀ h ∈ hs, h.1.size ≠ 0) (hlen : hs.length ≤ 1000) : StageI prog w (Inp prog w n (hs.map Hd.pv) .done) 6 (n+20) 332 [.flg a1 tr rs d] ((valOut tr rs hs).1.map Hd.pv) (valOut tr rs hs).2 := by
  refine stageI_of' (k := 5) (hs := "headers") (xs := ["hdr_validation_flags"]) (by kernel_rfl) (by kernel_rfl) (by kernel_rfl) (by kernel_rfl) (by kernel_rfl) rfl (fun vs hl => ?_) fun env p ok => ?_
  · obtain ⟨x, y, rfl⟩ := vs2 hl
    kernel_rfl
  conv in bodyOf w 332 => whnf
  have kh := ok.k "headers" .local (by kernel_rfl)
  have k1 := ok.k "_reject_te" .globalImplicit (by kernel_rfl)
  have k2 := ok.k "_reject_connection_header" .globalImplicit (by kernel_rfl)
  have k3 := ok.k "_reject_pseudo_header_fields" .globalImplicit (by kernel_rfl)
  have k4 := ok.k "_check_sent_host_authority_header" .globalImplicit (by kernel_rfl)
  have k5 := ok.k "_check_path_header" .globalImplicit (by kernel_rfl)
  have c0 : Sub (hs, .done) hs := .refl
  have c1 : Sub (vTe (hs, .done)) hs := c0.s fTe_mem
  have c2 : Sub (vNoConn (vTe (hs, .done))) hs := c1.s fNoConn_mem
  have c3 : Sub (vPseudo tr rs (vNoConn (vTe (hs, .done)))) hs := c2.pseudo
  have c4 : Sub (vHostIf tr rs (vPseudo tr rs (vNoConn (vTe (hs, .done))))) hs := c3.hostIf
  have sm : ∀ {r : HE}, Sub r hs → ∀ h ∈ r.1, SmH h := fun c h hh => hsm h (c.1 h hh)
  have ne : ∀ {r : HE}, Sub r hs → ∀ h ∈ r.1, h.1.size ≠ 0 := fun c h hh => hne h (c.1 h hh)
  refine exg_cons (exp_doc ok.inter) (fun _ h => h) ?_
  refine exg_step (outs1 := (vTe (hs, .done)).1.map Hd.pv) (e1 := (vTe (hs, .done)).2) (pstep_assign (evg_stage (k := 4) (fn_global k1 (by kernel_rfl) (by decide +kernel)) (by kernel_rfl) (evl_cons (ev_name (p := .flg a1 tr rs d) (by rfl)) evl_nil) (by decide) ((st_te hsm).q.i.le (by omega))) kh rfl) fun a1' g1 => ?_
  refine exg_step (outs1 := (vNoConn (vTe (hs, .done))).1.map Hd.pv) (e1 := (vNoConn (vTe (hs, .done))).2) (pstep_assign (evg_stage (k := 4) (fn_global k2 (by kernel_rfl) (by decide +kernel)) (by kernel_rfl) (evl_cons (ev_name (p := .flg a1 tr rs d) (by rfl)) evl_nil) (by decide) (((st_noconn (sm c1)).q.i.g.up (n' := n + 4) (by omega)).le (by omega))) kh rfl) fun a2 g2 => ?_
  refine exg_step (outs1 := (vPseudo tr rs (vNoConn (vTe (hs, .done)))).1.map Hd.pv) (e1 := (vPseudo tr rs (vNoConn (vTe (hs, .done)))).2) (pstep_assign (evg_stage (k := 4) (fn_global k3 (by kernel_rfl) (by decide +kernel)) (by kernel_rfl) (evl_cons (ev_name (p := .flg a1 tr rs d) (by rfl)) evl_nil) (by decide) ((st_pseudo (n := n) (sm c2) (ne c2) (Nat.le_trans c2.2 hlen)).i.g.le (by omega))) kh rfl) fun a3 g3 => ?_
  refine exg_step (outs1 := (vHostIf tr rs (vPseudo tr rs (vNoConn (vTe (hs, .done))))).1.map Hd.pv) (e1 := (vHostIf tr rs (vPseudo tr rs (vNoConn (vTe (hs, .done))))).2) (pstep_assign (evg_stage (k := 4) (fn_global k4 (by kernel_rfl) (by decide +kernel)) (by kernel_rfl) (evl_cons (ev_name (p := .flg a1 tr rs d) (by rfl)) evl_nil) (by decide) (fn_host296 (sm c3))) kh rfl) fun a4 g4 => ?_
  exact exg_last (exg_ret (evg_stage (k := 4) (fn_global k5 (by kernel_rfl) (by decide +kernel)) (by kernel_rfl) (evl_cons (ev_name (p := .flg a1 tr rs d) (by rfl)) evl_nil) (by decide) ((fn_path (sm c4)).up (by omega))))

/-- validate_headers -/
theorem fn_val_in {hs : List Hd} {a1 tr rs d : Bool} (hsm : ∀ h ∈ hs, SmH h) (hok : ∀ h ∈ hs, ChOk h) (hne : ∀ h ∈ hs, h.1.size ≠ 0) (hlen : hs.length ≤ 1000) : StageI prog w (Inp prog w n (hs.map Hd.pv) .done) 6 (n+20) 200 [.flg a1 tr rs d] ((valIn tr rs hs).1.map Hd.pv) (valIn tr rs hs).2 := by
  refine stageI_of' (k := 5) (hs := "headers") (xs := ["hdr_validation_flags"]) (by kernel_rfl) (by kernel_rfl) (by kernel_rfl) (by kernel_rfl) (by kernel_rfl) rfl (fun vs hl => ?_) fun env p ok => ?_
  · obtain ⟨x, y, rfl⟩ := vs2 hl
    kernel_rfl
  conv in bodyOf w 200 => whnf
  have kh := ok.k "headers" .local (by kernel_rfl)
  have j1 := ok.k "_reject_illegal_characters" .globalImplicit (by kernel_rfl)
  have j2 := ok.k "_reject_empty_header_names" .globalImplicit (by kernel_rfl)
  have k1 := ok.k "_reject_te" .globalImplicit (by kernel_rfl)
  have k2 := ok.k "_reject_connection_header" .globalImplicit (by kernel_rfl)
  have k3 := ok.k "_reject_pseudo_header_fields" .globalImplicit (by kernel_rfl)
  have k4 := ok.k "_check_host_authority_header" .globalImplicit (by kernel_rfl)
  have k5 := ok.k "_check_path_header" .globalImplicit (by kernel_rfl)
  have c00 : Sub (hs, .done) hs := .refl
  have c0 : Sub (vEmpty (hs, .done)) hs := c00.s fEmpty_mem
  have c1 : Sub (vTe (vEmpty (hs, .done))) hs := c0.s fTe_mem
  have c2 : Sub (vNoConn (vTe (vEmpty (hs, .done)))) hs := c1.s fNoConn_mem
  have c3 : Sub (vPseudo tr rs (vNoConn (vTe (vEmpty (hs, .done))))) hs := c2.pseudo
  have c4 : Sub (vHostIf tr rs (vPseudo tr rs (vNoConn (vTe (vEmpty (hs, .done)))))) hs := c3.hostIf
  have sm : ∀ {r : HE}, Sub r hs → ∀ h ∈ r.1, SmH h := fun c h hh => hsm h (c.1 h hh)
  have ne : ∀ {r : HE}, Sub r hs → ∀ h ∈ r.1, h.1.size ≠ 0 := fun c h hh => hne h (c.1 h hh)
  refine exg_cons (exp_doc ok.inter) (fun _ h => h) ?_
  refine exg_step (outs1 := hs.map Hd.pv) (e1 := .done) (pstep_assign (evg_stage (k := 4) (fn_global j1 (by kernel_rfl) (by decide +kernel)) (by kernel_rfl) (evl_cons (ev_name (p := .flg a1 tr rs d) (by rfl)) evl_nil) (by decide) ((st_illegal hsm hok).q.i.le (by omega))) kh rfl) fun b1 h1 => ?_
  refine exg_step (outs1 := (vEmpty (hs, .done)).1.map Hd.pv) (e1 := (vEmpty (hs, .done)).2) (pstep_assign (evg_stage (k := 4) (fn_global j2 (by kernel_rfl) (by decide +kernel)) (by kernel_rfl) (evl_cons (ev_name (p := .flg a1 tr rs d) (by rfl)) evl_nil) (by decide) ((st_empty hsm).q.i.g.le (by omega))) kh rfl) fun b2 h2 => ?_
  refine exg_step (outs1 := (vTe (vEmpty (hs, .done))).1.map Hd.pv) (e1 := (vTe (vEmpty (hs, .done))).2) (pstep_assign (evg_stage (k := 4) (fn_global k1 (by kernel_rfl) (by decide +kernel)) (by kernel_rfl) (evl_cons (ev_name (p := .flg a1 tr rs d) (by rfl)) evl_nil) (by decide) ((st_te (sm c0)).q.i.g.le (by omega))) kh rfl) fun a1' g1 => ?_
  refine exg_step (outs1 := (vNoConn (vTe (vEmpty (hs, .done)))).1.map Hd.pv) (e1 := (vNoConn (vTe (vEmpty (hs, .done)))).2) (pstep_assign (evg_stage (k := 4) (fn_global k2 (by kernel_rfl) (by decide +kernel)) (by kernel_rfl) (evl_cons (ev_name (p := .flg a1 tr rs d) (by rfl)) evl_nil) (by decide) (((st_noconn (sm c1)).q.i.g.up (n' := n + 8) (by omega)).le (by omega))) kh rfl) fun a2 g2 => ?_
  refine exg_step (outs1 := (vPseudo tr rs (vNoConn (vTe (vEmpty (hs, .done))))).1.map Hd.pv) (e1 := (vPseudo tr rs (vNoConn (vTe (vEmpty (hs, .done))))).2) (pstep_assign (evg_stage (k := 4) (fn_global k3 (by kernel_rfl) (by decide +kernel)) (by kernel_rfl) (evl_cons (ev_name (p := .flg a1 tr rs d) (by rfl)) evl_nil) (by decide) ((st_pseudo (n := n + 4) (sm c2) (ne c2) (Nat.le_trans c2.2 hlen)).i.g.le (by omega))) kh rfl) fun a3 g3 => ?_
  refine exg_step (outs1 := (vHostIf tr rs (vPseudo tr rs (vNoConn (vTe (vEmpty (hs, .done)))))).1.map Hd.pv) (e1 := (vHostIf tr rs (vPseudo tr rs (vNoConn (vTe (vEmpty (hs, .done)))))).2) (pstep_assign (evg_stage (k := 4) (fn_global k4 (by kernel_rfl) (by decide +kernel)) (by kernel_rfl) (evl_cons (ev_name (p := .flg a1 tr rs d) (by rfl)) evl_nil) (by decide) (fn_host261 (sm c3))) kh rfl) fun a4 g4 => ?_
  exact exg_last (exg_ret (evg_stage (k := 4) (fn_global k5 (by kernel_rfl) (by decide +kernel)) (by kernel_rfl) (evl_cons (ev_name (p := .flg a1 tr rs d) (by rfl)) evl_nil) (by decide) ((fn_path (sm c4)).up (by omega))))
end
end Mine

namespace Mine
open PySem PySem.W PySem.Calls PyProof.Rows

section
variable {prog : Program} {w : World} {n m n' k : Nat} {env cenv : Env} {O : Option Addr} {Γ Γ' : Lcl} {ins outs : List PV} {e e' : End'} {a : Addr} {x : Str} {G G₀ : GH} {s s₀ : Shared} {A : Around} {ρ : Res w}

/-- what an emptied iterator leaves in the list S -/
noncomputable def Drawn (w : World) (e : End') (S : Addr) (outs : List PV) (res : Value) (G₀ : GH) (s₀ : Shared) (R : Result → Shared → Prop) : Prop :=
  (e = .done → ∀ G' s', Grow w (fun a => a = S) No G₀ s₀ G' s' → Acc S outs G' s' → R (.ok (.ret res)) s') ∧
  (e = .err → ∀ G' s' x, Grow w (fun a => a = S) No G₀ s₀ G' s' → Err G' s₀.heap s' x (some .none) → R (.error x) s')

theorem ext_loop {S : Addr} {it res : Value} {R : Result → Shared → Prop} {all : List PV} (hR : Drawn w e S all res G₀ s₀ R) (hall : all.length ≤ 1000000) : ∀ {outs done : List PV} {G : GH} {s : Shared} {fr : Addr → Prop} {gr : Nat → Prop}, all = done ++ outs →
    Em prog w n it outs e fr gr G s → Cx (n+1) A G s → Grow w (fun a => a = S ∨ fr a) gr G₀ s₀ G s → (∀ a, fr a → s₀.heap.get? a = none) → (∀ k, gr k → s₀.gens.size ≤ k) → There fr gr s → ¬ fr S → Acc S done G s →
    codeAny (model prog w) A (.builtin "list.extend.loop" ⟨[.ref S, it, res], []⟩) R s := by
  intro outs
  induction outs with
  | nil =>
    intro done G s fr gr hd em cx g fd gd th hS ac
    rw [List.append_nil] at hd; subst hd
    refine codeAny_builtin F.entry_extend_loop ?_
    rw [Around.under_plainId F.plain_extend_loop _]
    show wpAny _ A.in1 (pyNext it >>= _) _ _ s
    refine wpAny_bind (wpAny_mono (em A.in1 G s (.refl g.wld) cx.in1) (fun r s' ⟨e1, e2, G', g'⟩ => ?_) fun x s' ⟨e1, G', g', e9⟩ => ?_)
    · subst e1
      exact wpAny_pure (hR.1 e2 G' s' ((g.trans' (g'.mono (fun a h => .inr h) fun _ h => h)).shrink (fun a h => h.elim .inl fun h => .inr (fd a h)) fun k h => .inr (gd k h)) (ac.step g' hS))
    · exact hR.2 e1 G' s' x ((g.trans' (g'.mono (fun a h => .inr h) fun _ h => h)).shrink (fun a h => h.elim .inl fun h => .inr (fd a h)) fun k h => .inr (gd k h)) (e9.start g.ext.live)
  | cons o outs ih =>
    intro done G s fr gr hd em cx g fd gd th hS ac
    refine codeAny_builtin F.entry_extend_loop ?_
    rw [Around.under_plainId F.plain_extend_loop _]
    show wpAny _ A.in1 (pyNext it >>= _) _ _ s
    refine wpAny_bind (wpAny_mono (em A.in1 G s (.refl g.wld) cx.in1) (fun r s' q => ?_) fun x s' h => h.elim)
    obtain ⟨v, G', fr', gr', e1, rp, g', f1, f2, f3, f4, th', _, em'⟩ := q
    subst e1
    have g1 : Grow w (fun a => a = S ∨ fr' a) gr' G₀ s₀ G' s' := (g.mono (fun a h => h.imp_right (f1 a)) f2).trans' (g'.mono (fun a h => .inr (f1 a h)) f2)
    have hS' : ¬ fr' S := fun h => (f3 S h).elim hS fun h => by obtain ⟨vs, ep, ho, _⟩ := ac.o; rw [ho] at h; cases h
    have ac1 := ac.step g' hS
    obtain ⟨hg, ht, vs, ep, hD, rl⟩ := ac1
    have hsz : vs.size = done.length := by simpa using rl.length
    have hle : done.length ≤ 1000000 := by rw [hd] at hall; simp at hall; omega
    show wpAny _ A.in1 (updateSeq S (·.push v) >>= _) _ _ _
    have hself := Heap.get?_update_self (Obj.mapSeq (·.push v)) hD rfl
    have hnew : (Obj.mapSeq (·.push v) { cls := .type "list", data := .seq vs ep }) = { cls := .type "list", data := .seq (vs.push v) (ep + 1) } := Obj.mapSeq_push_plain _ _ _
    have g2 := one_step (s' := { s' with heap := s'.heap.update S (Obj.mapSeq (·.push v)) }) g1.wld hg ht hD (nd_seq rfl).1 (Heap.SameBut.update ..).extBut ⟨_, hself⟩ rfl rfl
    have em2 := em'.later (g2.mono (fun a h q => hS' (h ▸ q)) fun _ h => h.elim)
    have cx2 := (cx.grow g').grow g2
    refine wpAny_bind ?_
    refine wpAny_updateSeq hD rfl (wpAny_pure ⟨plainId_quiet F.plain_extend_loop _, ?_⟩) (by simp [sizeLine]; omega) (by show (vs.push v).size ≤ sizeLine + 1; rw [Array.size_push]; simp [sizeLine]; omega)
    refine ih (done := done ++ [o]) (by rw [hd]; simp) em2 cx2 (g1.trans' (g2.mono (fun a h => .inl h) fun _ h => h.elim)) (fun a h => (f3 a h).elim (fd a) g.ext.dead) (fun k h => (f4 k h).elim (gd k) fun h => Nat.le_trans g.ext.gsize h) (th'.grow g2) hS' ⟨hg, ht, vs.push v, ep + 1, by rw [← hnew]; exact hself, ?_⟩
    simpa using rl.append (.cons rp .nil)

theorem ext_gen {S a g : Addr} {res : Value} {c₀ : Nat} {R : Result → Shared → Prop} {fr : Addr → Prop} {gr : Nat → Prop} (hR : Drawn w e S outs res G₀ s₀ R) (hall : outs.length ≤ 1000000) (hG : Rep G (.gen a g) (.ref a)) (hSa : S ≠ a)
    (em : Em prog w n (.ref a) outs e fr gr G s) (cx : Cx (n+1) A G s) (g0 : Grow w (fun a => a = S ∨ fr a) gr G₀ s₀ G s) (fd : ∀ a, fr a → s₀.heap.get? a = none) (gd : ∀ k, gr k → s₀.gens.size ≤ k) (th : There fr gr s) (hS : ¬ fr S)
    (hGS : G S = none) (ht : ¬ isTab S) (hoS : s.heap.get? S = some { cls := .type "list", data := .seq #[] c₀ }) :
    wpAny (model prog w) A.in1 (Builtin.List.listExtendWith (.ref S) (.ref a) res)
      (fun fin s' => match fin with | .done f => R (.ok f) s' | .again c' => c'.quiet = true ∧ codeAny (model prog w) A c' R s') (fun e s' => R (.error e) s') s := by
  have hG' := hG
  unfold Rep at hG'
  obtain ⟨_, t1, t2, hGa⟩ := hG'
  have hT : ∀ s' : Shared, s'.heap.get? a = s.heap.get? a → s'.TypeIs (.ref a) "generator" := fun s' e => ⟨_, e.trans (g0.wld.sub _ _ hGa), rfl⟩
  unfold Builtin.List.listExtendWith
  refine wpAny_bind (wpAny_typeOf (hT s rfl) ?_)
  have h1 : Builtin.List.listSameRef (.ref S) (.ref a) = false := by simp [Builtin.List.listSameRef, hSa]
  have h2 : (Value.type "generator" == Value.type "list") = false := by decide
  have h3 : (Value.type "generator" == Value.type "tuple") = false := by decide
  simp only [h1, h2, h3, Bool.or_false, Bool.false_eq_true, if_false]
  refine wpAny_bind (self_gen _ s _ _ _ (hT s rfl) ?_)
  refine wpAny_bind (wpAny_holding ?_)
  unfold Builtin.List.listLengthHint
  refine wpAny_bind (wpAny_specialOf (hT s rfl) F.gen_no_len ?_)
  show wpAny _ A.in1 (specialOf (Value.ref a) (Str.ofString "__length_hint__") >>= _) _ _ _
  refine wpAny_bind (wpAny_specialOf (hT s rfl) F.gen_no_hint ?_)
  refine wpAny_pure ?_
  show wpAny _ A.in1 (rule "list.extend.makes-room" >>= fun _ => Builtin.List.listTouch (.ref S) >>= fun _ =>
    again (.builtin "list.extend.loop" ⟨[.ref S, .ref a, res], []⟩)) _ _ _
  refine wpAny_bind (wpAny_rule ?_)
  refine wpAny_bind ?_
  show wpAny _ A.in1 (updateSeq S (·.push .none) >>= fun _ => updateSeq S (·.pop)) _ _ _
  refine wpAny_bind (wpAny_updateSeq hoS rfl ?_)
  have hS₂ := Heap.get?_update_self (Obj.mapSeq (·.push Value.none)) hoS rfl
  refine wpAny_updateSeq (hz := by seq_fits) hS₂ rfl ?_
  have hS₃ := Heap.get?_update_self (Obj.mapSeq (·.pop)) hS₂ rfl
  have oth : ∀ b o, b ≠ S → s.heap.get? b = some o → ((s.heap.update S (Obj.mapSeq (·.push Value.none))).update S (Obj.mapSeq (·.pop))).get? b = some o :=
    fun b o hb e => (Heap.get?_update_other _ _ (Ne.symm hb)).trans ((Heap.get?_update_other _ _ (Ne.symm hb)).trans e)
  have g2 := one_step (s' := { s with heap := (s.heap.update S (Obj.mapSeq (·.push Value.none))).update S (Obj.mapSeq (·.pop)) }) g0.wld hGS ht hoS (nd_seq rfl).1 oth ⟨_, hS₃⟩ rfl rfl
  refine wpAny_pure ⟨plainId_quiet F.plain_extend_loop _, ?_⟩
  refine ext_loop (n := n) hR hall (done := []) rfl (em.later (g2.mono (fun a h q => hS (h ▸ q)) fun _ h => h.elim)) (cx.grow g2) (g0.trans' (g2.mono (fun a h => .inl h) fun _ h => h.elim)) fd gd (th.grow g2) hS ⟨hGS, ht, #[], c₀ + 1 + 1, hS₃, .nil⟩

theorem list_init_gen {S a g : Addr} {R : Result → Shared → Prop} {fr : Addr → Prop} {gr : Nat → Prop} (hR : Drawn w e S outs .none G₀ s₀ R) (hall : outs.length ≤ 1000000) (hG : Rep G (.gen a g) (.ref a)) (hSa : S ≠ a)
    (em : Em prog w n (.ref a) outs e fr gr G s) (cx : Cx (n+1) A G s) (g0 : Grow w (fun a => a = S ∨ fr a) gr G₀ s₀ G s) (fd : ∀ a, fr a → s₀.heap.get? a = none) (gd : ∀ k, gr k → s₀.gens.size ≤ k) (th : There fr gr s) (hS : ¬ fr S)
    (hGS : G S = none) (ht : ¬ isTab S) (hoS : s.heap.get? S = some { cls := .type "list", data := .seq #[] }) :
    wpAny (model prog w) A.in1 (Builtin.«list.__init__» ⟨[.ref S, .ref a], []⟩)
      (fun fin s' => match fin with | .done f => R (.ok f) s' | .again c' => c'.quiet = true ∧ codeAny (model prog w) A c' R s') (fun e s' => R (.error e) s') s := by
  show wpAny _ A.in1 (do let old ← Builtin.List.listItems (.ref S); Builtin.List.listUpdate (.ref S) (fun _ => #[]); letGo old.toList.reverse; Builtin.List.listExtendWith (.ref S) (.ref a) .none) _ _ s
  refine wpAny_bind ?_
  unfold Builtin.List.listItems
  refine wpAny_bind (wpAny_seqItems hoS rfl (wpAny_pure ?_))
  show wpAny _ A.in1 (updateSeq S (fun _ => #[]) >>= fun _ => letGo (#[] : Array Value).toList.reverse >>= fun _ => Builtin.List.listExtendWith (.ref S) (.ref a) .none) _ _ s
  refine wpAny_bind (wpAny_updateSeq hoS rfl ?_)
  have hS₂ := Heap.get?_update_self (Obj.mapSeq (fun _ => (#[] : Array Value))) hoS rfl
  have oth : ∀ b o, b ≠ S → s.heap.get? b = some o → (s.heap.update S (Obj.mapSeq (fun _ => (#[] : Array Value)))).get? b = some o :=
    fun b o hb e => (Heap.get?_update_other _ _ (Ne.symm hb)).trans e
  have g2 := one_step (s' := { s with heap := s.heap.update S (Obj.mapSeq (fun _ => (#[] : Array Value))) }) g0.wld hGS ht hoS (nd_seq rfl).1 oth ⟨_, hS₂⟩ rfl rfl
  refine wpAny_bind (wpAny_letGo ?_)
  exact ext_gen hR hall hG hSa (em.later (g2.mono (fun a h q => hS (h ▸ q)) fun _ h => h.elim)) (cx.grow g2) (g0.trans' (g2.mono (fun a h => .inl h) fun _ h => h.elim)) fd gd (th.grow g2) hS hGS ht hS₂

/-- list(a generator) -/
theorem call_list_em {a g : Addr} {fr : Addr → Prop} {gr : Nat → Prop} (hall : outs.length ≤ 1000000) (hG : Rep G (.gen a g) (.ref a)) (em : Em prog w n (.ref a) outs e fr gr G s) (cx : Cx (n+3) A G s) (g0 : Grow w Pure No G₀ s₀ G s)
    (fd : ∀ a, fr a → s₀.heap.get? a = none) (gd : ∀ k, gr k → s₀.gens.size ≤ k) (th : There fr gr s) :
    wpAny (model prog w) A (call (.type "list") [.ref a]) (fun v s' => e = .done ∧ ∃ G', Grow w Pure No G₀ s₀ G' s' ∧ Rep G' (.lst outs) v) (fun x s' => e = .err ∧ ∃ G', Grow w Pure No G₀ s₀ G' s' ∧ Err G' s₀.heap s' x (some .none)) s := by
  have hSd := end_dead s.heap
  have hGS : G s.heap.objs.size = none := g0.wld.fresh hSd
  have ht : ¬ isTab s.heap.objs.size := g0.wld.ntab hSd
  have hSn : ¬ fr s.heap.objs.size := fun h => by obtain ⟨o, e⟩ := th.1 _ h; rw [hSd] at e; cases e
  have hSa : s.heap.objs.size ≠ a := fun q => by
    unfold Rep at hG
    obtain ⟨_, t1, t2, hGa⟩ := hG
    rw [← q, hGS] at hGa; cases hGa
  have hS0 : s₀.heap.get? s.heap.objs.size = none := g0.ext.dead hSd
  refine callType_codes (Q₁ := fun obj s₁ => obj = .ref s.heap.objs.size ∧ s₁ = { s with heap := s.heap.push { cls := .type "list", data := .seq #[] } }) F.called_list (F.typeCall_list_1 _) F.entry_list_init
    (code_list_new _ ⟨rfl, rfl⟩) fun obj s₁ h₁ => ?_
  obtain ⟨rfl, rfl⟩ := h₁
  have hS : (s.heap.push { cls := .type "list", data := .seq #[] }).get? s.heap.objs.size = some { cls := .type "list", data := .seq #[] } := Heap.get?_push_size _ rfl
  have g1 : Grow w Pure No G s G { s with heap := s.heap.push { cls := .type "list", data := .seq #[] } } := .push0 (tk := s.toks) g0.wld
  refine ⟨⟨_, hS, rfl⟩, F.args_list_init_2 _ _, list_init_gen (n := n) (G₀ := G₀) (s₀ := s₀) (e := e) (outs := outs) ⟨fun e1 G' s' g' ac => ?_, fun e1 G' s' x g' e9 => ?_⟩ hall hG hSa (em.later g1.pur) ((cx.grow g1).in1.le (by omega)) (g0.trans' g1).pur fd gd (th.grow g1) hSn hGS ht hS⟩
  · obtain ⟨hg, hnt, vs, ep, ho, rl⟩ := ac
    have g2 := (g'.shrink (F0 := Pure) (K0 := No) (fun a h => .inr (h ▸ hS0)) fun _ h => h.elim).know hS0 ho hg hnt
    exact ⟨rfl, e1, _, g2, mk_lst GH.add_self (rl.mono (GH.add_sub hg))⟩
  · exact ⟨e1, G', g'.shrink (fun a h => .inr (h ▸ hS0)) fun _ h => h.elim, e9⟩
end
end Mine

namespace Mine
open PySem PySem.W PySem.Calls PyProof.Rows

section
variable {prog : Program} {w : World} {n m n' k : Nat} {env cenv : Env} {O : Option Addr} {Γ Γ' : Lcl} {ins outs : List PV} {e e' : End'} {a : Addr} {x : Str} {G G₀ : GH} {s s₀ : Shared} {A : Around} {ρ : Res w}

-- list(a list)
theorem call_list_lst {l : List PV} (h : l.length ≤ 1000000) : CallIs prog w n (.type "list") [.lst l] (.lst l) := fun G s vs W r A cx => by
  obtain ⟨v, rfl, q⟩ := repl1 r
  obtain ⟨a, xs, ep, rfl, hG, rl⟩ := rep_lst q
  have hsz : xs.size = l.length := by simpa using rl.length
  refine call_list_seq a (T := "list") (.inl rfl) (W.sub _ _ hG) rfl rfl (fun h' c' k hS => ?_) (by simp [sizeLine]; omega)
  have hSd := end_dead s.heap
  have g1 : Grow w Pure No G s G { s with heap := h' } := Grow.keeps (dr := s.drawn) (tk := s.toks) W k
  have g2 := g1.know hSd hS (W.fresh hSd) (W.ntab hSd)
  exact ⟨_, g2, mk_lst GH.add_self (rl.mono g2.sub)⟩
theorem ev_list_of {a1 : Expr} {fp pos : Pos} {l : List PV} (hk : env.kindOf "list" = some .globalImplicit) (h : EvP prog w n env Γ a1 (.lst l)) (hl : l.length ≤ 1000000) (hs : starEach [a1] env = (false, eval a1 env) :: starEach [] env := by rfl) :
    EvP prog w n env Γ (.Call (.Name "list" fp) [a1] [] pos) (.lst l) :=
  ev_call_ty (ev_builtin hk (by kernel_rfl) (v := .type "list") (by kernel_rfl) (by decide +kernel) (by decide +kernel)) (args_cons (evl_cons h evl_nil hs) hs) (call_list_lst hl) (by rw [hs]; rfl)

-- generators out of lists
/-- an expression that gives a generator over what is known -/
noncomputable def EvG0 (prog : Program) (w : World) (k n' : Nat) (env : Env) (Γ : Lcl) (ex : Expr) (outs : List PV) (e' : End') : Prop :=
  ∀ A O G s, Rm k A → Good w A env O Γ G s → wpAny (model prog w) A (eval ex env) (fun v s' => GenRes prog w n' (Res.nil w) G s outs e' v s') (fun _ _ => False) s

theorem evg0_call {f : Str} {fp pos : Pos} {es : List Expr} {fa : Addr} {q : List PV} {ins : List PV} (hf : EvP prog w (k+1) env Γ (.Name f fp) (.oth (.ref fa))) (hfo : (topK w).lookup fa = some { cls := .type "function", data := .func (fdOf w fa) })
    (ha : EvArgs prog w (k+1) env Γ pos es (.lst ins :: q)) (hst : StageI prog w (Inp prog w n ins .done) (k+1) n' fa q outs e') : EvG0 prog w (k+1) n' env Γ (.Call (.Name f fp) es [] pos) outs e' := fun A O G s rm gd => by
  refine wpAny_Call_ofName (hf.use rm gd fun u G1 s1 g1 gd1 q1 => ?_)
  unfold Rep at q1
  subst q1
  refine callWith_function (o := { cls := .type "function", data := .func (fdOf w fa) }) (fd := fdOf w fa) ((ha _).use rm gd1 fun a G2 s2 g2 gd2 q2 => ⟨⟨gd2.wld.sub _ _ (top_in gd2.wld hfo), rfl⟩, ?_⟩)
  rw [q2.1]
  obtain ⟨pos', kw⟩ := a
  have r := q2.2
  unfold RepL at r
  obtain ⟨hv, fv, e1, r1, r2⟩ := r
  simp only at e1
  subst e1
  refine wpAny_call (codeAny_mono (hst A G2 s2 hv fv (.lst ins) (Res.nil w) (.inl ⟨rfl, rfl, rfl⟩) r1 r2 gd2.wld (gd2.cx rm) trivial ⟨fun _ h => h.elim, fun _ h => h.elim⟩) fun r s' ⟨v, e1, h⟩ => ?_)
  subst e1
  exact h.frame (g1.trans' g2)
theorem evg0_if {test x y : Expr} {pos : Pos} {b : Bool} (ht : EvT prog w k env Γ test b) (h1 : b = true → EvG0 prog w k n' env Γ x outs e') (h2 : b = false → EvG0 prog w k n' env Γ y outs e') : EvG0 prog w k n' env Γ (.IfExp test x y pos) outs e' := fun A O G s rm gd => by
  refine wpAny_IfExp (ht.use rm gd fun v G1 s1 g1 gd1 q1 => ?_)
  subst q1
  cases v with
  | true => exact wpAny_mono (h1 rfl A O G1 s1 rm gd1) (fun v s' h => h.frame g1) fun _ _ q => q
  | false => exact wpAny_mono (h2 rfl A O G1 s1 rm gd1) (fun v s' h => h.frame g1) fun _ _ q => q

/-- how list(..) of it ends -/
noncomputable def EndOut (e : End') (p : PV) : Out := match e with | .done => .ret p | .err => .err

theorem out_list_gen {a1 : Expr} {fp pos : Pos} (hk : env.kindOf "list" = some .globalImplicit) (h : EvG0 prog w (k+3) n' env Γ a1 outs e') (hn : n' ≤ k) (hl : outs.length ≤ 1000000) (hs : starEach [a1] env = (false, eval a1 env) :: starEach [] env := by rfl) :
    CallOut prog w (k+3) env Γ (.Call (.Name "list" fp) [a1] [] pos) (EndOut e' (.lst outs)) := fun A O G s rm gd => by
  refine wpAny_Call_ofName ((ev_builtin (n := k+3) hk (by kernel_rfl) (v := .type "list") (by kernel_rfl) (by decide +kernel) (by decide +kernel)).use rm gd fun u G1 s1 g1 gd1 q1 => ?_)
  unfold Rep at q1
  subst q1
  refine PyProof.Rows.callWith_type (by rw [hs]; rfl) ?_
  rw [hs]
  refine evalArgs_plain (spliced_cons (wpAny_mono (h A O G1 s1 rm gd1) (fun v s2 hv => spliced_nil ?_) fun _ _ q => q.elim))
  obtain ⟨g, kk, G2, FP, GP, rfl, g2, r2, em, b1, b2, th⟩ := hv.frame g1
  refine wpAny_mono (call_list_em (n := n') hl r2 em (((gd.pur g2).cx rm).le (by omega)) g2 (fun a h => (b1 a h).elim (fun h => h.elim) fun h => h) (fun j h => (b2 j h).elim (fun h => h.elim) fun h => h) th) (fun v s' ⟨e1, G', g', r'⟩ => ?_) fun x s' ⟨e1, G', g', e9⟩ => ?_
  · subst e1; exact ⟨G', g', r'⟩
  · subst e1; exact ⟨rfl, G', g', e9⟩
theorem ev_list_gen {a1 : Expr} {fp pos : Pos} (hk : env.kindOf "list" = some .globalImplicit) (h : EvG0 prog w (k+3) n' env Γ a1 outs .done) (hn : n' ≤ k) (hl : outs.length ≤ 1000000) (hs : starEach [a1] env = (false, eval a1 env) :: starEach [] env := by rfl) :
    EvP prog w (k+3) env Γ (.Call (.Name "list" fp) [a1] [] pos) (.lst outs) := (out_list_gen hk h hn hl hs).ev

theorem evItS_gen {iter : Expr} (h : EvG0 prog w k n' env Γ iter ins .done) (hn : n' ≤ k) (hs : ∀ v, foldedSetIterable iter env v = pure v) : EvItS prog w k env Γ iter ins := fun A O G s rm gd => by
  refine wpAny_mono (h A O G s rm gd) (fun v s1 q => ⟨hs v, ?_⟩) fun _ _ q => q
  obtain ⟨g, kk, G1, FP, GP, e1, g1, r1, em, b1, b2, th⟩ := q
  subst e1
  have r1' := r1
  unfold Rep at r1
  obtain ⟨_, t1, t2, hG⟩ := r1
  refine wpAny_pyIter_gen (g := kk) ⟨_, t1, t2, g1.wld.sub _ _ hG, rfl, rfl, rfl⟩ ⟨⟨_, _, _, rfl, g1.wld.sub _ _ hG, not_isD rfl, fun t => ?_, rfl, self_gen⟩, G1, FP, GP, g1, fun a h => (b1 a h).elim (fun h => h.elim) fun h => h, fun j h => (b2 j h).elim (fun h => h.elim) fun h => h, th, em.le hn⟩
  have : ∃ q ∈ tabs, q.2 = g := by
    rcases t with rfl | rfl | rfl
    · exact ⟨(267, 263), by simp [tabs], rfl⟩
    · exact ⟨(260, 256), by simp [tabs], rfl⟩
    · exact ⟨(295, 291), by simp [tabs], rfl⟩
  obtain ⟨q, hq, rfl⟩ := this
  rw [(g1.wld.tab q hq).1] at hG; cases hG

-- range(n)
theorem evIt_range {a1 : Expr} {fp pos : Pos} {j : Nat} (hk : env.kindOf "range" = some .globalImplicit) (h : EvP prog w n env Γ a1 (.int j)) (hj : j ≤ 1000000) (hs : starEach [a1] env = (false, eval a1 env) :: starEach [] env := by rfl) :
    EvIt prog w n env Γ (.Call (.Name "range" fp) [a1] [] pos) (rangePVs 0 j) .done := fun A O G s rm gd => by
  refine wpAny_Call_ofName ((ev_builtin (n := n) hk (by kernel_rfl) (v := .type "range") (by kernel_rfl) (by decide +kernel) (by decide +kernel)).use rm gd fun u G1 s1 g1 gd1 q1 => ?_)
  unfold Rep at q1
  subst q1
  refine PyProof.Rows.callWith_type (by rw [hs]; rfl) ((args_cons (evl_cons h evl_nil hs) hs _).use rm gd1 fun a G2 s2 g2 gd2 q2 => ?_)
  rw [q2.1]
  obtain ⟨v, e1, rv⟩ := repl1 q2.2
  rw [e1]
  obtain ⟨t, rfl⟩ := rep_int rv
  refine call_range_1 ⟨rfl, ?_⟩
  have g3 : Grow w Pure No G2 s2 G2 { s2 with heap := s2.heap.push { cls := .type "range", data := .fields #[.int 0 s2.toks, .int j t, .int 1 (s2.toks + 1)] }, toks := s2.toks + 1 + 1 } := .push0 gd2.wld
  have gd3 := gd2.pur g3
  have hsmall : Builtin.Range.small 0 (j : Int) 1 = true := small_one (by decide) (by decide) (by omega) (by omega)
  have hsize : Builtin.Range.rangeSize 0 (j : Int) 1 = (j : Int) := by rw [rangeSize_one]; split <;> omega
  refine wpAny_pyIter_range (IsRange.new ..) hsmall ?_
  have gg := (g1.trans' g2).trans' g3
  obtain ⟨G'', fr, gr, x1, x2, x3, x4, x5⟩ := iter_new (prog := prog) (n := n) (e := .done) (ins := rangePVs 0 j) (o := { cls := .type "range_iterator", data := .fields #[rawInt 0, rawInt (Builtin.Range.rangeSize 0 (j : Int) 1), rawInt 1] }) gd3.wld rfl fun s' e' => em_range (by
    subst e'
    show _ = some _
    rw [hsize]
    exact Heap.get?_push_size _ rfl) (gd3.wld.fresh (end_dead _)) (gd3.wld.ntab (end_dead _))
  exact ⟨G'', fr, gr, gg.trans' x1, fun a h => gg.ext.dead (x2 a h), fun k h => Nat.le_trans gg.ext.gsize (x3 k h), x4, x5⟩

-- a function that gives its own list back
noncomputable def ExRet (prog : Program) (w : World) (n : Nat) (env : Env) (a : Addr) (Γ : Lcl) (t : Sem Flow) (l : List PV) : Prop :=
  ∀ A lf G s, Rm n A → A.frames = some (env :: lf) → env.frame = some env.locals → Good w A env (some a) Γ G s → wpAny (model prog w) A t (fun fl s' => fl = .ret (.ref a) ∧ ∃ G', Grow w (Wr env (some a)) No G s G' s' ∧ Acc a l G' s' ∧ Good w A env (some a) ⟨[], none⟩ G' s') (fun _ _ => False) s
theorem exr_cons {st : Stmt} {rest : List Stmt} {l : List PV} (h1 : ExP prog w n env (some a) Γ (exec st env) (.next Γ')) (h2 : ExRet prog w n env a Γ' (execs rest env) l) : ExRet prog w n env a Γ (execs (st :: rest) env) l := by
  intro A lf G s r hf hself gd
  refine wpAny_execs_cons (wpAny_mono (h1 A lf G s r hf hself gd) (fun fl s1 ⟨G1, g1, q⟩ => ?_) (fun x s1 ⟨q, _⟩ => by cases q))
  obtain ⟨rfl, gd1⟩ := q
  exact wpAny_mono (h2 A lf G1 s1 r hf hself gd1) (fun fl s2 ⟨e1, G2, g2, ac⟩ => ⟨e1, G2, g1.trans' g2, ac⟩) fun _ _ q => q
theorem exr_ret {rest : List Stmt} {px pos : Pos} {l : List PV} {vars : List (Str × PV)} (hd : (x == ("__debug__" : Str)) = false) : ExRet prog w n env a ⟨vars, some (x, .list l)⟩ (execs (.Return (some (.Name x px)) pos :: rest) env) l := by
  intro A lf G s r hf hself gd
  refine wpAny_execs_cons (wpAny_Return_some (wpAny_Name ?_ hd))
  obtain ⟨m, hm, hv, a', o2, k1, k2, k3, k4, k5⟩ := gd.vars
  cases k1
  obtain ⟨q1, q2, q3, _⟩ := gd.oown a rfl
  obtain ⟨vs, ep, rfl, rl⟩ := k5
  exact wpAny_loadName_local gd.kind k2 hm k3 ⟨rfl, G, .refl gd.wld, ⟨q1, q3, vs, ep, k4, rl⟩, gd.toE⟩
theorem good_add {ob : Obj} (gd : Good w A env none Γ G s) (h1 : s.heap.get? a = some ob) (h3 : G a = none) (h4 : a ≠ env.locals) (h5 : ¬ isTab a) (h6 : ¬ IsD ob) : Good w A env none Γ (G.add a ob) s := by
  obtain ⟨m, hm, hv, ho⟩ := gd.vars
  obtain ⟨l, hl, fr⟩ := gd.frames
  have sub := GH.add_sub (o := ob) h3
  refine ⟨gd.wld.add h1 h3 h5, ⟨l, hl, frames_add fr h1 h6⟩, gd.kind, gd.globals, gd.builtins, ?_, gd.ntab, (fun _ h => by cases h), m, hm, fun z p e => ?_, ?_⟩
  · unfold GH.add; rw [if_neg (Ne.symm h4)]; exact gd.fresh
  · obtain ⟨v, r, rp⟩ := hv z p e
    exact ⟨v, r.mono sub, rp.mono sub⟩
  · unfold OwnOk at ho ⊢
    split
    · trivial
    · rename_i own y d eq
      rw [eq] at ho
      obtain ⟨a, o, h1, _⟩ := ho
      cases h1
theorem exp_newR {st : Stmt} {rest : List Stmt} {Γ₁ : Lcl} {l : List PV} (h1 : NewOwn prog w n env Γ (exec st env) Γ₁) (h2 : ∀ a, ExRet prog w n env a Γ₁ (execs rest env) l) : ExP prog w n env none Γ (execs (st :: rest) env) (.ret (.lst l)) := by
  intro A lf G s rm hl hself gd
  refine wpAny_execs_cons (wpAny_mono (h1 A lf G s rm hl hself gd) (fun fl s1 ⟨e1, G1, a, g1, hf, gd1⟩ => ?_) (fun _ _ h => h.elim))
  subst e1
  refine wpAny_mono (h2 a A lf G1 s1 rm hl hself gd1) (fun fl s2 ⟨e2, G2, g2, ⟨hg, ht, vs, ep, ho, rl⟩, gd2⟩ => ?_) fun _ _ q => q.elim
  have g3 : Grow w (Wr env none) No G s G2 s2 := g1.trans g2 (fun b h => h.elim (fun h => .inl (.inl h)) fun h => by cases h; exact .inr hf) fun _ h => .inl h
  have g4 := g3.know hf ho hg ht
  exact ⟨_, g4, .ref a, e2, mk_lst GH.add_self (rl.mono (GH.add_sub hg)), good_add gd2.forget ho hg (gd2.oown a rfl).2.1 ht (nd_seq rfl).1⟩

-- one's own list, its last place
theorem seqIndex_last {j : Nat} (h : 0 < j) : seqIndex? (-1) j = some (j - 1) := by
  rw [seqIndex_neg (by decide) (by omega)]
  congr 1; omega
theorem wpAny_setItem_last {E : Value → Shared → Prop} {l : Addr} {items : Array Value} {ep : Nat} {t : Tok} {v : Value} {Q : Unit → Shared → Prop} (ho : s.heap.get? l = some { cls := .type "list", data := .seq items ep }) (hn : 0 < items.size)
    (hQ : ∀ h' ep', h'.get? l = some { cls := .type "list", data := .seq (items.setIfInBounds (items.size - 1) v) ep' } → Heap.SameBut l s.heap h' → Q () { s with heap := h' }) :
    wpAny (model prog w) A (setItem (.ref l) (.int (-1) t) v) Q E s := by
  have hl : s.heap.IsList l items := ⟨_, ho, rfl, ep, rfl⟩
  unfold setItem
  try with_reducible refine wpAny_holding ?_
  first | refine wpAny_bind (wpAny_pure ?_) | skip
  refine wpAny_bind (wpAny_sequenceKey hl.typeIs (by decide) ?_)
  refine wpAny_bind (wpAny_callSpecial?_slot (name := Str.ofString "__setitem__") hl.typeIs slot_list_setitem
    (wpAny_call_entry slot_list_setitem hl.typeIs entry_list_setitem ?_ (args_list_setitem _ _ _)))
  show wpAny _ _ (Builtin.List.listSubscript? (.int (-1) t) >>= _) _ _ s
  refine wpAny_bind (wpAny_listSubscript_int (fitsIndex_neg (by decide) (by decide)) ?_)
  show wpAny _ _ ((Builtin.List.listItems (.ref l) >>= fun xs => pure ((seqIndex? (Int.negSucc 0) xs.size).bind fun i => xs[i]?.map (i, ·))) >>= _) _ _ s
  refine wpAny_bind (wpAny_bind ?_)
  show wpAny _ _ (seqItems? (.ref l) >>= _) _ _ s
  refine wpAny_bind (wpAny_seqItems ho rfl (wpAny_pure (wpAny_pure ?_)))
  have hidx : seqIndex? (Int.negSucc 0) items.size = some (items.size - 1) := seqIndex_last hn
  have hx : items[items.size - 1]? = some (items[items.size - 1]'(by omega)) := Array.getElem?_eq_getElem _
  rw [hidx]
  simp only [Option.bind_some, hx, Option.map_some]
  show wpAny _ _ (setSeqItemAt l (items.size - 1) v >>= _) _ _ s
  obtain ⟨n', e⟩ : ∃ n', Obj.mapSeq (·.setIfInBounds (items.size - 1) v) { cls := .type "list", data := .seq items ep } = { cls := .type "list", data := .seq (items.setIfInBounds (items.size - 1) v) n' } := ⟨_, rfl⟩
  have hself := Heap.get?_update_self (Obj.mapSeq (·.setIfInBounds (items.size - 1) v)) ho rfl
  rw [e] at hself
  refine wpAny_bind (wpAny_setSeqItemAt ho rfl ?_)
  first
    | exact wpAny_bind (wpAny_pure (wpAny_pure ⟨.none, rfl, wpAny_pure (hQ _ _ hself (Heap.SameBut.update ..))⟩))
    | exact wpAny_pure ⟨.none, rfl, wpAny_pure (hQ _ _ hself (Heap.SameBut.update ..))⟩

theorem repL_set {G : GH} {p : PV} {v : Value} (rv : Rep G p v) : ∀ {l : List PV} {vs : List Value} {i : Nat}, RepL G l vs → RepL G (l.set i p) (vs.set i v)
  | [], vs, i, h => by unfold RepL at h; subst h; simp; exact .nil
  | q :: l, vs, 0, h => by
    unfold RepL at h
    obtain ⟨u, r, rfl, a, b⟩ := h
    exact .cons rv b
  | q :: l, vs, i+1, h => by
    unfold RepL at h
    obtain ⟨u, r, rfl, a, b⟩ := h
    exact .cons a (repL_set rv b)

/-- x[-1] = e, x one's own list -/
theorem exp_setlast {l : List PV} {p : PV} {e : Expr} {xp p1 p2 p3 pos : Pos} {k : Nat} {vars : List (Str × PV)} (he : EvP prog w n env ⟨vars, some (x, .list l)⟩ e p) (hlen : l ≠ []) (hd : (x == ("__debug__" : Str)) = false)
    (hs : swapsWith e (some (.Subscript (.Name x xp) (.UnaryOp .USub (.Constant (.int 1) k p1) p2) p3)) pos.line env = pure false := by rfl) :
    ExP prog w n env (some a) ⟨vars, some (x, .list l)⟩ (exec (.Assign [.Subscript (.Name x xp) (.UnaryOp .USub (.Constant (.int 1) k p1) p2) p3] e pos) env) (.next ⟨vars, some (x, .list (l.set (l.length - 1) p))⟩) := by
  intro A fl G s rm hf hself gd
  refine wpAny_Assign_Subscript (he.use rm gd fun v G1 s1 g1 gd1 rv => wpAny_Name ?_ hd) hs
  obtain ⟨m, hm, hv, a', o2, k1, k2, k3, k4, k5⟩ := id gd1.vars
  cases k1
  refine wpAny_loadName_local gd1.kind k2 hm k3 ?_
  refine (ev_neg (prog := prog) (n := n) ev_int).use rm gd1 fun u G2 s2 g2 gd2 ru => ?_
  obtain ⟨t, rfl⟩ := rep_int ru
  obtain ⟨m', hm', hv', a'', o3, j1, j2, j3, j4, j5⟩ := gd2.vars
  cases j1
  obtain ⟨vs2, ep2, rfl, rl2⟩ := j5
  have hsz : vs2.size = l.length := by simpa using rl2.length
  have hpos : 0 < vs2.size := by rw [hsz]; exact List.length_pos_iff.mpr hlen
  refine wpAny_setItem_last j4 hpos fun h' ep3 ho3 hsb => ?_
  obtain ⟨g3, gd3⟩ := own_step (Γ := ⟨vars, none⟩) (d' := .list (l.set (l.length - 1) p)) (tk := s2.toks) gd2 hsb ho3 (nd_seq rfl).1 (nd_seq rfl).2 ⟨_, ep3, rfl, by
    have := repL_set (i := l.length - 1) (rv.mono g2.sub) rl2
    rw [← hsz] at this ⊢
    simpa using this⟩
  exact ⟨G2, (g1.trans' g2).pur.trans' g3, rfl, gd3⟩
end
end Mine

namespace Mine
open PySem PySem.W PySem.Calls PyProof.Rows

noncomputable def lawNames : List B := [[99, 111, 111, 107, 105, 101], [67, 111, 111, 107, 105, 101], [97, 117, 116, 104, 111, 114, 105, 122, 97, 116, 105, 111, 110], [97], [104, 111, 115, 116], [116, 101], [84, 69], [99, 111, 110, 110, 101, 99, 116, 105, 111, 110],
  [75, 101, 101, 112, 45, 65, 108, 105, 118, 101], [112, 114, 111, 120, 121, 45, 97, 117, 116, 104, 111, 114, 105, 122, 97, 116, 105, 111, 110], [117, 112, 103, 114, 97, 100, 101], [58, 112, 97, 116, 104], [58, 97, 117, 116, 104, 111, 114, 105, 116, 121],
  [116, 114, 97, 110, 115, 102, 101, 114, 45, 101, 110, 99, 111, 100, 105, 110, 103], [112, 114, 111, 120, 121, 45, 99, 111, 110, 110, 101, 99, 116, 105, 111, 110], [58, 77, 101, 116, 104, 111, 100], [58, 115, 116, 97, 116, 117, 115],
  [58, 112, 114, 111, 116, 111, 99, 111, 108], [58, 115, 99, 104, 101, 109, 101]].map List.toArray
noncomputable def lawValues : List B := [[97, 61, 98], [97, 61, 98, 59, 32, 99, 61, 100], [120, 61, 49, 49, 49, 49, 49, 49, 49, 49, 49, 49, 49, 49, 49, 49, 49, 49, 49, 49, 49, 49], [97, 59, 98], [], [116, 114, 97, 105, 108, 101, 114, 115], [84, 82, 65, 73, 76, 69, 82, 83],
  [103, 122, 105, 112], [120], [47], [97, 61, 98, 59, 32, 32, 99, 61, 100], [97, 59, 32], [59, 32, 59], [49, 50, 51, 52, 53, 54, 55, 56, 57, 48, 49, 50, 51, 52, 53, 54, 55, 56, 57, 48], [49, 50, 51, 52, 53, 54, 55, 56, 57, 48, 49, 50, 51, 52, 53, 54, 55, 56, 57],
  [101, 59, 32, 49, 50, 51, 52, 53, 54, 55, 56, 57, 48, 49, 50, 51, 52, 53, 54, 55, 56, 57], [67, 79, 78, 78, 69, 67, 84], [97, 59, 32, 98, 59, 32, 99, 59, 32, 100, 59, 32, 101]].map List.toArray

/-- a field of a block that was built: name, value -/
noncomputable abbrev P2 := B × B
noncomputable def P2.hd (p : P2) : Hd := (p.1, p.2, false)
noncomputable def bWs : B := [32, 9].toArray
noncomputable def strip2 (b : B) : B := (stripBy bWs.contains b.toList).toArray
theorem strip2_size (b : B) : (strip2 b).size ≤ b.size := by unfold strip2; have := stripBy_le bWs.contains b.toList; simpa using this

section
variable {prog : Program} {w : World} {n m n' k : Nat} {env cenv : Env} {O : Option Addr} {Γ Γ' : Lcl} {ins outs : List PV} {e e' : End'} {a : Addr} {x : Str} {G G₀ : GH} {s s₀ : Shared} {A : Around} {ρ : Res w}

noncomputable def kOfC : Expr → Nat
  | .Constant _ k _ => k
  | _ => 0
noncomputable def pOfC : Expr → Pos
  | .Constant _ _ p => p
  | _ => default
/-- these bytes, written as constants -/
noncomputable def cstB (b : B) (e : Expr) : Expr := .Constant (.bytes b.toList) (kOfC e) (pOfC e)
theorem evl_zip {pos : Pos} {es : List Expr} : ∀ {l : List B}, es = List.zipWith cstB l es → l.length = es.length → EvL prog w n env Γ pos es (l.map .byt) := by
  induction es with
  | nil => intro l h h2; rw [List.eq_nil_of_length_eq_zero h2]; exact evl_nil
  | cons e es ih =>
    intro l h h2
    cases l with
    | nil => cases h2
    | cons b l =>
      have q := List.cons.inj h
      rw [q.1]
      have := ev_bytes (prog := prog) (w := w) (n := n) (env := env) (Γ := Γ) (x := b.toList) (k := kOfC e) (pos := pOfC e)
      exact evl_cons this (ih q.2 (Nat.succ.inj h2))
noncomputable def retList : List Stmt → List Expr × Pos × Pos
  | [.Return (some (.List es p)) q] => (es, p, q)
  | _ => ([], default, default)
theorem fn_table {fa : Addr} {l : List B} (hfo : (topK w).lookup fa = some { cls := .type "function", data := .func (fdOf w fa) }) (hb : fnB (fdOf w fa) [] = true) (hbody : (fdOf w fa).body = .stmts (bodyOf w fa)) (hgen : (fdOf w fa).scope.isGenerator = false)
    (hcd : codeIn (topK w) (fdOf w fa).code (fdOf w fa).qualname = true) (hbind : bindArgs (fdOf w fa) ⟨[], []⟩ = pure []) (h1 : bodyOf w fa = [.Return (some (.List (retList (bodyOf w fa)).1 (retList (bodyOf w fa)).2.1)) (retList (bodyOf w fa)).2.2])
    (h2 : (retList (bodyOf w fa)).1 = List.zipWith cstB l (retList (bodyOf w fa)).1) (h3 : l.length = (retList (bodyOf w fa)).1.length) (hl : l.length ≤ 1000) : Fn prog w n fa [] (.ret (.lst (l.map .byt))) := by
  refine fn_of' (names := []) hfo hb hbody hgen hcd rfl (fun vs hv => ?_) fun env ok => ?_
  · have : vs = [] := List.eq_nil_of_length_eq_zero hv
    subst this; exact hbind
  rw [h1]
  exact exp_cons1 (exp_return (ev_list (evl_zip h2 h3) (by rw [List.length_map]; simp [sizeLine]; omega)))
theorem fn_names : Fn prog w n 339 [] (.ret (.lst (lawNames.map .byt))) := fn_table (by kernel_rfl) (by kernel_rfl) (by kernel_rfl) (by kernel_rfl) (by kernel_rfl) (by kernel_rfl) (by kernel_rfl) (by kernel_rfl) (by kernel_rfl) (by decide)
theorem fn_values : Fn prog w n 346 [] (.ret (.lst (lawValues.map .byt))) := fn_table (by kernel_rfl) (by kernel_rfl) (by kernel_rfl) (by kernel_rfl) (by kernel_rfl) (by kernel_rfl) (by kernel_rfl) (by kernel_rfl) (by kernel_rfl) (by decide)
theorem fn_own : Fn prog w n 376 [] (.ret (.lst (connNames.map .byt))) := fn_table (by kernel_rfl) (by kernel_rfl) (by kernel_rfl) (by kernel_rfl) (by kernel_rfl) (by kernel_rfl) (by kernel_rfl) (by kernel_rfl) (by kernel_rfl) (by decide)

/-- f(..), f a function of the text, its value -/
theorem ev_fn {f : Str} {fp pos : Pos} {es : List Expr} {ps : List PV} {fa : Addr} {r : PV} (hk : env.kindOf f = some .globalImplicit) (e : nsIn (topK w) mainGlobals f = some (some (.ref fa))) (hd : (f == ("__debug__" : Str)) = false) (ha : EvArgs prog w (n+1) env Γ pos es ps)
    (hfo : (topK w).lookup fa = some { cls := .type "function", data := .func (fdOf w fa) }) (hc : Fn prog w n fa ps (.ret r)) : EvP prog w (n+1) env Γ (.Call (.Name f fp) es [] pos) r :=
  (out_call (fn_global hk e hd) ha hfo hc).ev

theorem ev_strip2 {o : Expr} {apos pos p1 : Pos} {k : Nat} {b : B} (ho : EvP prog w n env Γ o (.byt b)) (hb : Sm b)
    (hbase : attributeBase o "strip" env (eval o env) = eval o env := by rfl) (hline : (apos.endLine == pos.line) = true := by rfl) :
    EvP prog w n env Γ (.Call (.Attribute o "strip" apos) [.Constant (.bytes [32, 9]) k p1] [] pos) (.byt (strip2 b)) :=
  ev_method ho (args_cons (evl_cons ev_bytes evl_nil)) hd_byt FB.plainAttrs_bytes slot_strip type_strip (call_strip1 hb) hbase rfl hline rfl
theorem ev_upper {o : Expr} {apos pos : Pos} {b : B} (ho : EvP prog w n env Γ o (.byt b)) (hb : Sm b)
    (hbase : attributeBase o "upper" env (eval o env) = eval o env := by rfl) (hline : (apos.endLine == pos.line) = true := by rfl) :
    EvP prog w n env Γ (.Call (.Attribute o "upper" apos) [] [] pos) (.byt (b.toList.map Builtin.Bytes.toUpper).toArray) :=
  ev_method ho args_nil hd_byt FB.plainAttrs_bytes slot_upper type_upper (call_upper hb) hbase rfl hline rfl

/-- a loop that keeps a state -/
theorem loopE_state {S α : Type} {g : α → PV} {target : Expr} {body : List Stmt} (f : S → α → S) (R : S → List α → Lcl → Prop)
    (hb : ∀ σ h tl Γ, R σ (h :: tl) Γ → ∃ Γ₁ Γ', Asg prog w n env Γ target (g h) Γ₁ ∧ R (f σ h) tl Γ' ∧ (ExP prog w n env O Γ₁ (execs body env) (.next Γ') ∨ ExP prog w n env O Γ₁ (execs body env) (.cont Γ'))) :
    ∀ {ins : List α} {σ : S} {Γ : Lcl}, R σ ins Γ → ∃ Γ', LoopE prog w n env O target body Γ (ins.map g) (.next Γ') ∧ R (ins.foldl f σ) [] Γ'
  | [], σ, Γ, hR => ⟨Γ, .done _, hR⟩
  | h :: ins, σ, Γ, hR => by
    obtain ⟨Γ₁, Γ', ha, hR', hg⟩ := hb σ h ins Γ hR
    obtain ⟨Γ'', L, hR''⟩ := loopE_state f R hb hR'
    refine ⟨Γ'', ?_, hR''⟩
    rcases hg with hg | hg
    · exact .next ha hg L
    · exact .cont ha hg L

theorem rangePVs_map : ∀ (j i : Nat), rangePVs (i : Int) j = (List.range' i j).map fun (t : Nat) => PV.int (t : Int)
  | 0, _ => rfl
  | j+1, i => by
    rw [rangePVs, List.range'_succ, List.map_cons]
    congr 1
    exact rangePVs_map j (i+1)

theorem idx_lst_last {l : List PV} {r : PV} (h : l[l.length - 1]? = some r) (hk : l.length ≤ 1048576) : IdxIs prog w n (.lst l) (.int (-1)) r := fun G s u v W r1 r2 A cx => by
  obtain ⟨a, vs, ep, rfl, hG, rl⟩ := rep_lst r1
  obtain ⟨t, rfl⟩ := rep_int r2
  obtain ⟨x, hx, rx⟩ := rl.get h
  have hsz : vs.size = l.length := by simpa using rl.length
  have hlt : l.length - 1 < l.length := by
    rcases Nat.lt_or_ge (l.length - 1) l.length with h2 | h2
    · exact h2
    · rw [List.getElem?_eq_none h2] at h; cases h
  refine wpAny_getItem_list_neg ⟨_, W.sub _ _ hG, rfl, ep, rfl⟩ (by decide) (by omega) (by decide) ?_ ⟨G, .refl W, rx⟩
  have e : ((-1 : Int) + (vs.size : Int)).toNat = l.length - 1 := by omega
  rw [e]; simpa using hx

-- _law_pieces
noncomputable def sliceB (b : B) (i j : Nat) : B := ((b.toList.drop (clipAt b.size i)).take (clipAt b.size j - clipAt b.size i)).toArray
noncomputable def stepP (v : B) (σ : List B × Bool) (i : Nat) : List B × Bool :=
  if σ.2 then (σ.1, false)
  else if sliceB v i (i+2) == bSep then (σ.1 ++ [#[]], true)
  else (σ.1.set (σ.1.length - 1) ((σ.1[σ.1.length - 1]?).getD #[] ++ sliceB v i (i+1)), false)
noncomputable def piecesP (v : B) : List B := ((List.range' 0 v.size).foldl (stepP v) ([#[]], false)).1

theorem clip_nat {m i : Nat} : clipAt m (i : Int) = min i m := by
  unfold clipAt
  rw [if_neg (by omega)]
  omega
theorem sliceB_one (b : B) (i : Nat) : (sliceB b i (i+1)).size ≤ 1 := by
  unfold sliceB
  simp only [List.size_toArray, List.length_take, List.length_drop, Array.length_toList]
  have h1 := @clip_nat b.size i
  have h2 := @clip_nat b.size (i+1)
  have e : ((i : Int) + 1) = ((i + 1 : Nat) : Int) := by omega
  rw [h1]
  first
    | rw [h2]; omega
    | (rw [e, h2]; omega)
end
end Mine

namespace Mine
open PySem PySem.W PySem.Calls PyProof.Rows

/-- pieces: never none, few, short -/
noncomputable def PcOk (v : B) (σ : List B × Bool) (k : Nat) : Prop := σ.1 ≠ [] ∧ σ.1.length ≤ k + 1 ∧ ∀ b ∈ σ.1, b.size ≤ k
theorem stepP_ok {v : B} {σ : List B × Bool} {k i : Nat} (h : PcOk v σ k) : PcOk v (stepP v σ i) (k+1) := by
  obtain ⟨h1, h2, h3⟩ := h
  unfold stepP
  split
  · exact ⟨h1, by show σ.1.length ≤ _; omega, fun b hb => Nat.le_succ_of_le (h3 b hb)⟩
  split
  · refine ⟨by simp, by simp; omega, fun b hb => ?_⟩
    rcases List.mem_append.mp hb with hb | hb
    · exact Nat.le_succ_of_le (h3 b hb)
    · simp at hb; subst hb; simp
  · refine ⟨fun q => h1 ?_, by show (σ.1.set _ _).length ≤ _; rw [List.length_set]; omega, fun b hb => ?_⟩
    · have := congrArg List.length q
      simp only [List.length_set, List.length_nil] at this
      exact List.eq_nil_of_length_eq_zero this
    · rcases List.mem_or_eq_of_mem_set hb with hb | hb
      · exact Nat.le_succ_of_le (h3 b hb)
      · subst hb
        have h4 := sliceB_one v i
        rw [Array.size_append]
        have : ((σ.1[σ.1.length - 1]?).getD #[]).size ≤ k := by
          cases hq : σ.1[σ.1.length - 1]? with
          | none => simp
          | some c => exact h3 c (List.mem_of_getElem? hq)
        omega

section
variable {prog : Program} {w : World} {n m n' k : Nat} {env cenv : Env} {O : Option Addr} {Γ Γ' : Lcl} {ins outs : List PV} {e e' : End'} {a : Addr} {x : Str} {G G₀ : GH} {s s₀ : Shared} {A : Around} {ρ : Res w}

/-- value[i : i + c] -/
theorem ev_cut {v : B} {i c : Nat} {p1 p2 p3 p4 p5 p6 p7 : Pos} {k1 : Nat} (hv : Γ.vars.lookup ("value" : Str) = some (.byt v)) (hi : Γ.vars.lookup ("i" : Str) = some (.int i)) (hb : Sm v) :
    EvP prog w n env Γ (.Subscript (.Name "value" p1) (.Slice (some (.Name "i" p2)) (some (.BinOp (.Name "i" p3) .Add (.Constant (.int c) k1 p4) p5)) none p6) p7) (.byt (sliceB v i (i + c))) := by
  have := ev_slice (prog := prog) (w := w) (n := n) (env := env) (Γ := Γ) (T := "bytes") (p2 := p6) (pos := p7) (value := .Name "value" p1) (ev_name hv) (part_some (e := .Name "i" p2) (ev_name hi)) (part_some (e := .BinOp (.Name "i" p3) .Add (.Constant (.int c) k1 p4) p5) (ev_bin (ev_name hi) ev_int bin_add_int)) ty_byt FB.slot_bytes_getitem.lookup (sli_byt hb)
  exact this

/-- a loop and what comes behind it -/
theorem exp_forS {S α : Type} {ins : List α} {g : α → PV} {target iter : Expr} {body rest : List Stmt} {pos : Pos} {o : Out} (f : S → α → S) (R : S → List α → Lcl → Prop) (σ : S) (hit : EvIt prog w n env Γ iter (ins.map g) .done) (hR : R σ ins Γ)
    (h2 : ∀ Γ', R (ins.foldl f σ) [] Γ' → ExP prog w n env O Γ' (execs rest env) o)
    (hb : ∀ σ h tl Γ, R σ (h :: tl) Γ → ∃ Γ₁ Γ', Asg prog w n env Γ target (g h) Γ₁ ∧ R (f σ h) tl Γ' ∧ (ExP prog w n env O Γ₁ (execs body env) (.next Γ') ∨ ExP prog w n env O Γ₁ (execs body env) (.cont Γ'))) :
    ExP prog w n env O Γ (execs (.For target iter body [] pos :: rest) env) o := by
  obtain ⟨Γ', L, hR'⟩ := loopE_state f R hb hR
  exact exp_cons (exp_for hit L) (h2 Γ' hR')
theorem exr_forS {S α : Type} {ins : List α} {g : α → PV} {target iter : Expr} {body rest : List Stmt} {pos : Pos} {l : List PV} (f : S → α → S) (R : S → List α → Lcl → Prop) (σ : S) (hit : EvIt prog w n env Γ iter (ins.map g) .done) (hR : R σ ins Γ)
    (h2 : ∀ Γ', R (ins.foldl f σ) [] Γ' → ExRet prog w n env a Γ' (execs rest env) l)
    (hb : ∀ σ h tl Γ, R σ (h :: tl) Γ → ∃ Γ₁ Γ', Asg prog w n env Γ target (g h) Γ₁ ∧ R (f σ h) tl Γ' ∧ (ExP prog w n env (some a) Γ₁ (execs body env) (.next Γ') ∨ ExP prog w n env (some a) Γ₁ (execs body env) (.cont Γ'))) :
    ExRet prog w n env a Γ (execs (.For target iter body [] pos :: rest) env) l := by
  obtain ⟨Γ', L, hR'⟩ := loopE_state f R hb hR
  exact exr_cons (exp_for hit L) (h2 Γ' hR')

noncomputable def PiR (v : B) (σ : List B × Bool) (l : List Nat) (Γ : Lcl) : Prop :=
  ∃ vars, Γ = ⟨vars, some ("pieces", .list (σ.1.map .byt))⟩ ∧ vars.lookup ("value" : Str) = some (.byt v) ∧ vars.lookup ("skip" : Str) = some (.bool σ.2) ∧ l.length ≤ v.size ∧ PcOk v σ (v.size - l.length)

/-- _law_pieces -/
theorem fn_pieces {v : B} (hv : v.size ≤ 4096) : Fn prog w n 390 [.byt v] (.ret (.lst ((piecesP v).map .byt))) := by
  refine fn_of' (names := ["value"]) (by kernel_rfl) (by kernel_rfl) (by kernel_rfl) (by kernel_rfl) (by kernel_rfl) rfl (fun vs hv => ?_) fun env ok => ?_
  · obtain ⟨x, rfl⟩ := vs1 hv
    kernel_rfl
  conv in bodyOf w 390 => whnf
  have kp := ok.k "pieces" .local (by kernel_rfl)
  have ks := ok.k "skip" .local (by kernel_rfl)
  have ki := ok.k "i" .local (by kernel_rfl)
  have kr := ok.k "range" .globalImplicit (by kernel_rfl)
  have kl := ok.k "len" .globalImplicit (by kernel_rfl)
  have hsm : Sm v := by show v.size ≤ _; omega
  refine exp_newR (new_list (x := "pieces") (ps := [.byt #[]]) (evl_cons ev_bytes evl_nil) (by simp) (by rfl) kp) fun a => ?_
  refine exr_cons (exp_assign (y := "skip") (p := .bool false) ev_bool ks (fun z d q => by cases q; decide)) ?_
  have hr := rangePVs_map v.size 0
  refine exr_forS (g := fun (t : Nat) => PV.int t) (ins := List.range' 0 v.size) (stepP v) (PiR v) ([#[]], false) (by have := evIt_range (prog := prog) (w := w) (n := n) (env := env) (fp := ⟨467, 13, 467, 18⟩) (pos := ⟨467, 13, 467, 30⟩) kr (ev_len (p1 := ⟨467, 19, 467, 22⟩) (pos := ⟨467, 19, 467, 29⟩) kl (ev_name (Γ := ⟨("skip", .bool false) :: (["value"] : List Str).zip [PV.byt v], some ("pieces", .list [.byt #[]])⟩) (x := "value") (pos := ⟨467, 23, 467, 28⟩) (p := .byt v) (by rfl)) hsm) (by omega); rw [show (rangePVs 0 v.size) = rangePVs ((0 : Nat) : Int) v.size from rfl, hr] at this; exact this)
    ⟨_, rfl, by rfl, by rfl, by simp, by simp [PcOk]⟩ (fun Γ' hR => ?_) fun σ h tl Γ hR => ?_
  · obtain ⟨vars, rfl, _⟩ := hR
    exact exr_ret (by decide)
  · obtain ⟨vars, rfl, v1, v2, hl, hok⟩ := hR
    have hl' : tl.length ≤ v.size := by simp at hl; omega
    have hk' : v.size - tl.length = (v.size - (h :: tl).length) + 1 := by simp at hl ⊢; omega
    have hok' : PcOk v (stepP v σ h) (v.size - tl.length) := by rw [hk']; exact stepP_ok hok
    have hown0 : ∀ {vars : List (Str × PV)} {l : List PV} {y : Str}, (y == ("pieces" : Str)) = false → ∀ z d, (⟨vars, some ("pieces", .list l)⟩ : Lcl).own = some (z, d) → z ≠ y := fun hy z d q r => by cases q; subst r; simp at hy
    refine ⟨Lcl.set ⟨vars, some ("pieces", .list (σ.1.map .byt))⟩ "i" (.int h), ?_⟩
    have y1 : (Lcl.set ⟨vars, some ("pieces", .list (σ.1.map .byt))⟩ "i" (.int h)).vars.lookup ("value" : Str) = some (.byt v) := by exact v1
    have y2 : (Lcl.set ⟨vars, some ("pieces", .list (σ.1.map .byt))⟩ "i" (.int h)).vars.lookup ("skip" : Str) = some (.bool σ.2) := by exact v2
    have y3 : (Lcl.set ⟨vars, some ("pieces", .list (σ.1.map .byt))⟩ "i" (.int h)).vars.lookup ("i" : Str) = some (.int h) := by rfl
    have tsk : ∀ p, EvT prog w n env (Lcl.set ⟨vars, some ("pieces", .list (σ.1.map .byt))⟩ "i" (.int h)) (.Name "skip" p) σ.2 := fun p => evt_value (p := .bool σ.2) (ev_name y2) tr_bool
    have hasg := asg_name (prog := prog) (w := w) (n := n) (env := env) (y := "i") (pos := ⟨467, 8, 467, 9⟩) (Γ := ⟨vars, some ("pieces", .list (σ.1.map .byt))⟩) (p := .int (h : Int)) ki (hown0 (by decide))
    unfold stepP at hok' ⊢
    cases hs : σ.2 with
    | true =>
      rw [hs, if_pos rfl] at hok'
      rw [if_pos rfl]
      exact ⟨_, hasg, ⟨("skip", .bool false) :: ("i", .int h) :: vars, rfl, by exact v1, by rfl, hl', hok'⟩, .inl (exp_cons1 (exp_ift (tsk _) hs (exp_cons1 (exp_assign ev_bool ks (hown0 (by decide))))))⟩
    | false =>
    rw [hs, if_neg Bool.false_ne_true] at hok'
    rw [if_neg Bool.false_ne_true]
    have tcut : ∀ p1 p2 p3 p4 p5 p6 p7 p8 p9 k1 k2, EvT prog w n env (Lcl.set ⟨vars, some ("pieces", .list (σ.1.map .byt))⟩ "i" (.int h)) (.Compare (.Subscript (.Name "value" p1) (.Slice (some (.Name "i" p2)) (some (.BinOp (.Name "i" p3) .Add (.Constant (.int 2) k1 p4) p5)) none p6) p7) [.Eq] [.Constant (.bytes [59, 32]) k2 p8] p9) (sliceB v h (h+2) == bSep) := fun p1 p2 p3 p4 p5 p6 p7 p8 p9 k1 k2 => evt_cmp (ev_cut (c := 2) y1 y3 hsm) ev_bytes cmp_eq_byt
    cases hc : sliceB v h (h+2) == bSep with
    | true =>
      rw [hc, if_pos rfl] at hok'
      rw [if_pos rfl]
      refine ⟨_, hasg, ⟨("skip", .bool true) :: ("i", .int h) :: vars, by rw [List.map_append]; rfl, by exact v1, by rfl, hl', hok'⟩, .inl (exp_cons1 (exp_iff (tsk _) hs (exp_cons1 (exp_ift (tcut _ _ _ _ _ _ _ _ _ _ _) hc (exp_cons (exp_append (vars := ("i", .int h) :: vars) (l := σ.1.map .byt) ev_bytes (by rw [List.length_map]; have := hok.2.1; omega) (by decide) ok.inter) (exp_cons1 (exp_assign ev_bool ks (hown0 (by decide)))))))))⟩
    | false =>
      rw [hc, if_neg Bool.false_ne_true] at hok'
      rw [if_neg Bool.false_ne_true]
      have hne : σ.1.map PV.byt ≠ [] := fun q => hok.1 (List.map_eq_nil_iff.mp q)
      have hlast : ∃ b, σ.1[σ.1.length - 1]? = some b := ⟨σ.1[σ.1.length - 1]'(by have := List.length_pos_iff.mpr hok.1; omega), List.getElem?_eq_getElem _⟩
      obtain ⟨lb, hlb⟩ := hlast
      have hlbs : lb.size ≤ v.size := Nat.le_trans (hok.2.2 lb (List.mem_of_getElem? hlb)) (by omega)
      have hget : (σ.1.map PV.byt)[(σ.1.map PV.byt).length - 1]? = some (.byt lb) := by rw [List.length_map, List.getElem?_map, hlb]; rfl
      have hlen : (σ.1.map PV.byt).length ≤ 1048576 := by rw [List.length_map]; have := hok.2.1; omega
      have hbin : ∀ p1 p2 p3 p4 p5 p6 p7 p8 p9 p10 p11 p12 k1 k2, EvP prog w n env ⟨("i", .int h) :: vars, some ("pieces", .list (σ.1.map .byt))⟩ (.BinOp (.Subscript (.Name "pieces" p1) (.UnaryOp .USub (.Constant (.int 1) k1 p2) p3) p4) .Add (.Subscript (.Name "value" p5) (.Slice (some (.Name "i" p6)) (some (.BinOp (.Name "i" p7) .Add (.Constant (.int 1) k2 p8) p9)) none p10) p11) p12) (.byt (lb ++ sliceB v h (h+1))) := by
        intro p1 p2 p3 p4 p5 p6 p7 p8 p9 p10 p11 p12 k1 k2
        have hs1 := sliceB_one v h
        exact ev_bin (ev_peek (d := .list (σ.1.map .byt)) (ev_sub (T := "list") (ev_name (p := .lst (σ.1.map .byt)) (by rfl)) (ev_neg ev_int) ty_lst slot_list_getitem.lookup (idx_lst_last hget hlen)) rfl) (ev_cut (c := 1) y1 y3 hsm) (bin_add_byt (by omega))
      refine ⟨_, hasg, ⟨("i", .int h) :: vars, ?_, by exact v1, by exact (hs ▸ v2), hl', hok'⟩, .inl (exp_cons1 (exp_iff (tsk _) hs (exp_cons1 (exp_iff (tcut _ _ _ _ _ _ _ _ _ _ _) hc (exp_cons1 (exp_setlast (hbin _ _ _ _ _ _ _ _ _ _ _ _ _ _) hne (by decide)))))))⟩
      rw [List.map_set, List.length_map, hlb]; rfl
end
end Mine

namespace Mine
open PySem PySem.W PySem.Calls PyProof.Rows

theorem pieces_fold {v : B} : ∀ {l : List Nat} {σ : List B × Bool} {k : Nat}, PcOk v σ k → PcOk v (l.foldl (stepP v) σ) (k + l.length)
  | [], σ, k, h => h
  | i :: l, σ, k, h => by
    have := pieces_fold (l := l) (stepP_ok (i := i) h)
    rw [List.foldl_cons, List.length_cons, show k + (l.length + 1) = k + 1 + l.length from by omega]
    exact this
theorem pieces_ok (v : B) : piecesP v ≠ [] ∧ (piecesP v).length ≤ v.size + 1 ∧ ∀ b ∈ piecesP v, b.size ≤ v.size := by
  have := pieces_fold (v := v) (l := List.range' 0 v.size) (σ := ([#[]], false)) (k := 0) (by simp [PcOk])
  rw [List.length_range', Nat.zero_add] at this
  exact this

noncomputable def mark (name piece : B) : Hd := (name, strip2 piece, secNames.contains name || (name == bCookie && decide ((strip2 piece).size < 20)))
noncomputable def sentOne (split : Bool) (p : P2) : List Hd :=
  if connNames.contains (low (strip2 p.1)) then [] else (if split && low (strip2 p.1) == bCookie then piecesP p.2 else [p.2]).map (mark (low (strip2 p.1)))
/-- _law_sent -/
noncomputable def sentP (split : Bool) (block : List P2) : List Hd := block.flatMap (sentOne split)
noncomputable def SmP (p : P2) : Prop := p.1.size ≤ 4096 ∧ p.2.size ≤ 4096
theorem sentOne_len {split : Bool} {p : P2} (h : SmP p) : (sentOne split p).length ≤ 5000 := by
  have := (pieces_ok p.2).2.1
  have h2 := h.2
  unfold sentOne
  split
  · simp
  · rw [List.length_map]
    split
    · omega
    · simp

noncomputable def forOf : List Stmt → List Stmt
  | [_, .For _ _ b _ _, _] => b
  | _ => []
/-- the inner for of the only loop -/
noncomputable def forTail (b : List Stmt) : List Stmt := match forOf b with
  | [_, _, f] => [f]
  | _ => []
noncomputable def forTarget : List Stmt → Expr
  | [.For t _ _ _ _] => t
  | _ => default
noncomputable def forBody : List Stmt → List Stmt
  | [.For _ _ b _ _] => b
  | _ => []
section
variable {prog : Program} {w : World} {n m n' k : Nat} {env cenv : Env} {O : Option Addr} {Γ Γ' : Lcl} {ins outs : List PV} {e e' : End'} {a : Addr} {x : Str} {G G₀ : GH} {s s₀ : Shared} {A : Around} {ρ : Res w}

noncomputable def SnI (split : Bool) (name : B) (σ : List Hd) (l : List B) (Γ : Lcl) : Prop :=
  ∃ vars, Γ = ⟨vars, some ("sent", .list (σ.map Hd.pv))⟩ ∧ vars.lookup ("name" : Str) = some (.byt name) ∧ vars.lookup ("split" : Str) = some (.bool split) ∧ σ.length + l.length ≤ 900000 ∧ ∀ b ∈ l, b.size ≤ 4096
noncomputable def SnR (split : Bool) (σ : List Hd) (l : List P2) (Γ : Lcl) : Prop :=
  ∃ vars, Γ = ⟨vars, some ("sent", .list (σ.map Hd.pv))⟩ ∧ vars.lookup ("split" : Str) = some (.bool split) ∧ σ.length + l.length * 5000 ≤ 500000 ∧ ∀ p ∈ l, SmP p

theorem fn_sent {block : List P2} {split : Bool} (hsm : ∀ p ∈ block, SmP p) (hlen : block.length ≤ 100) : Fn prog w (n+1) 397 [.lst (block.map fun p => p.hd.pv), .bool split] (.ret (.lst ((sentP split block).map Hd.pv))) := by
  refine fn_of' (names := ["block", "split"]) (by kernel_rfl) (by kernel_rfl) (by kernel_rfl) (by kernel_rfl) (by kernel_rfl) rfl (fun vs hv => ?_) fun env ok => ?_
  · obtain ⟨x, y, rfl⟩ := vs2 hv
    kernel_rfl
  conv in bodyOf w 397 => whnf
  have kb := ok.k "block" .local (by kernel_rfl)
  have ks := ok.k "sent" .local (by kernel_rfl)
  have kn := ok.k "name" .local (by kernel_rfl)
  have kv := ok.k "value" .local (by kernel_rfl)
  have kp := ok.k "piece" .local (by kernel_rfl)
  have ko := ok.k "_law_own" .globalImplicit (by kernel_rfl)
  have kpc := ok.k "_law_pieces" .globalImplicit (by kernel_rfl)
  have kl := ok.k "len" .globalImplicit (by kernel_rfl)
  have hown0 : ∀ {vars : List (Str × PV)} {l : List PV} {y : Str}, (y == ("sent" : Str)) = false → ∀ z d, (⟨vars, some ("sent", .list l)⟩ : Lcl).own = some (z, d) → z ≠ y := fun hy z d q r => by cases q; subst r; simp at hy
  refine exp_newR (new_list (x := "sent") (ps := []) evl_nil (by simp) (by rfl) ks) fun a => ?_
  refine exr_forS (g := fun p : P2 => p.hd.pv) (ins := block) (fun σ p => σ ++ sentOne split p) (SnR split) [] (evIt_list (ev_name (by rfl)) fun v => rfl) ⟨_, rfl, by rfl, by simp; omega, hsm⟩ (fun Γ' hR => ?_) fun σ p tl Γ hR => ?_
  · obtain ⟨vars, rfl, _⟩ := hR
    have e : block.foldl (fun σ p => σ ++ sentOne split p) [] = sentP split block := by
      have : ∀ (l : List P2) (σ : List Hd), l.foldl (fun σ p => σ ++ sentOne split p) σ = σ ++ l.flatMap (sentOne split) := by
        intro l
        induction l with
        | nil => intro σ; simp
        | cons p l ih => intro σ; rw [List.foldl_cons, ih, List.flatMap_cons, List.append_assoc]
      rw [this]; rfl
    rw [e]
    exact exr_ret (by decide)
  · obtain ⟨vars, rfl, v1, hl, hp⟩ := hR
    have sp := hp p (.head _)
    have hp' := fun x hx => hp x (.tail _ hx)
    have s1 := sentOne_len (split := split) sp
    have hl' : (σ ++ sentOne split p).length + tl.length * 5000 ≤ 500000 := by
      rw [List.length_append]; rw [List.length_cons] at hl; omega
    have sm1 : Sm p.1 := Nat.le_trans sp.1 (by omega)
    have sm2 : Sm (strip2 p.1) := Nat.le_trans (strip2_size _) sm1
    have hasg := asg_pair (prog := prog) (w := w) (n := n+1) (env := env) (x := "name") (y := "value") (p1 := ⟨478, 8, 478, 12⟩) (p2 := ⟨478, 14, 478, 19⟩) (pos := ⟨478, 8, 478, 19⟩) (k := 0) (Γ := ⟨vars, some ("sent", .list (σ.map Hd.pv))⟩) (p := .byt p.1) (q := .byt p.2) kn kv (fun z d q => by cases q; decide)
    refine ⟨((Lcl.set ⟨vars, some ("sent", .list (σ.map Hd.pv))⟩ "name" (.byt p.1)).set "value" (.byt p.2)), ?_⟩
    have hname : ∀ p1 p2 p3 p4 p5 p6 k, (p2.endLine == p4.line) = true → (p5.endLine == p6.line) = true → EvP prog w (n+1) env ((Lcl.set ⟨vars, some ("sent", .list (σ.map Hd.pv))⟩ "name" (.byt p.1)).set "value" (.byt p.2)) (.Call (.Attribute (.Call (.Attribute (.Name "name" p1) "strip" p2) [.Constant (.bytes [32, 9]) k p3] [] p4) "lower" p5) [] [] p6) (.byt (low (strip2 p.1))) :=
      fun p1 p2 p3 p4 p5 p6 k h1 h2 => ev_lower (ev_strip2 (ev_name (by rfl)) sm1 rfl h1) sm2 rfl h2
    have hcont : ∀ {Γ : Lcl} (hn : Γ.vars.lookup ("name" : Str) = some (.byt (low (strip2 p.1)))) (p1 p2 p3 p4 : Pos), EvT prog w (n+1) env Γ (.Compare (.Name "name" p1) [.In] [.Call (.Name "_law_own" p2) [] [] p3] p4) (connNames.contains (low (strip2 p.1))) :=
      fun hn p1 p2 p3 p4 => evt_cmp (ev_name hn) (ev_fn ko (by kernel_rfl) (by decide +kernel) args_nil (by kernel_rfl) fn_own) cmp_in_lst
    unfold sentOne at hl' ⊢
    generalize hnm : low (strip2 p.1) = name at hname hcont hl' ⊢
    cases hco : connNames.contains name with
    | true =>
      rw [hco, if_pos rfl, List.append_nil] at hl'
      rw [if_pos rfl, List.append_nil]
      exact ⟨_, hasg, ⟨_, rfl, by exact v1, hl', hp'⟩, .inr (exp_cons (exp_assign (hname _ _ _ _ _ _ _ rfl rfl) kn (hown0 (by decide))) (exp_stop (exp_ift (hcont (by rfl) _ _ _ _) hco (exp_stop exp_continue (by simp))) (by simp)))⟩
    | false =>
    rw [hco, if_neg Bool.false_ne_true] at hl'
    rw [if_neg Bool.false_ne_true]
    generalize hpl : (if split && name == bCookie then piecesP p.2 else [p.2]) = pcs at hl' ⊢
    have hpcs : ∀ b ∈ pcs, b.size ≤ 4096 := by
      subst hpl
      intro b hb
      split at hb
      · exact Nat.le_trans ((pieces_ok p.2).2.2 b hb) sp.2
      · simp at hb; subst hb; exact sp.2
    have hit : ∀ (Γ : Lcl) p1 p2 p3 p4 p5 p6 p7 p8 p9 p10 p11 k, Γ.vars.lookup ("name" : Str) = some (.byt name) → Γ.vars.lookup ("split" : Str) = some (.bool split) → Γ.vars.lookup ("value" : Str) = some (.byt p.2) →
        EvP prog w (n+1) env Γ (.IfExp (.BoolOp .And [.Name "split" p1, .Compare (.Name "name" p2) [.Eq] [.Constant (.bytes [99, 111, 111, 107, 105, 101]) k p3] p4] p5) (.Call (.Name "_law_pieces" p6) [.Name "value" p7] [] p8) (.List [.Name "value" p9] p10) p11) (.lst (pcs.map .byt)) := by
      intro Γ p1 p2 p3 p4 p5 p6 p7 p8 p9 p10 p11 k h1 h2 h3
      refine ev_if (b := split && name == bCookie) (evt_eq (evt_boolop (eva_and (evt_value (p := .bool split) (ev_name h2) tr_bool) fun _ => eva_and (evt_cmp (ev_name h1) ev_bytes cmp_eq_byt) fun _ => eva_and_nil)) (by rw [Bool.and_true]; rfl)) (fun hb => ?_) (fun hb => ?_)
      · have e1 : pcs = piecesP p.2 := by rw [← hpl, if_pos hb]
        rw [e1]
        exact ev_fn kpc (by kernel_rfl) (by decide +kernel) (args_cons (evl_cons (ev_name h3) evl_nil)) (by kernel_rfl) (fn_pieces sp.2)
      · have e1 : pcs = [p.2] := by rw [← hpl, if_neg (by rw [hb]; exact Bool.false_ne_true)]
        rw [e1]
        exact ev_list (evl_cons (ev_name h3) evl_nil)
    have hcont' := fun p1 p2 p3 p4 => hcont (Γ := Lcl.set ((Lcl.set ⟨vars, some ("sent", .list (σ.map Hd.pv))⟩ "name" (.byt p.1)).set "value" (.byt p.2)) "name" (.byt name)) (by rfl) p1 p2 p3 p4
    have hfold : ∀ (l : List B) (σ : List Hd), l.foldl (fun σ b => σ ++ [mark name b]) σ = σ ++ l.map (mark name) := by
      intro l
      induction l with
      | nil => intro σ; simp
      | cons p l ih => intro σ; rw [List.foldl_cons, ih, List.map_cons, List.append_assoc]; rfl
    suffices hin : ∃ Γ', SnR split (σ ++ pcs.map (mark name)) tl Γ' ∧ ExP prog w (n+1) env (some a) (Lcl.set ((Lcl.set ⟨vars, some ("sent", .list (σ.map Hd.pv))⟩ "name" (.byt p.1)).set "value" (.byt p.2)) "name" (.byt name)) (execs (forTail (bodyOf w 397)) env) (.next Γ') by
      obtain ⟨Γ', hR', hx⟩ := hin
      conv at hx in forTail (bodyOf w 397) => whnf
      exact ⟨Γ', hasg, hR', .inl (exp_cons (exp_assign (hname _ _ _ _ _ _ _ rfl rfl) kn (hown0 (by decide))) (exp_cons (exp_iff (hcont' _ _ _ _) hco exp_nil) hx))⟩
    conv in forTail (bodyOf w 397) => whnf
    obtain ⟨Γ', L, hR'⟩ := loopE_state (prog := prog) (w := w) (n := n+1) (env := env) (O := some a) (g := PV.byt) (target := forTarget (forTail (bodyOf w 397))) (body := forBody (forTail (bodyOf w 397))) (fun σ b => σ ++ [mark name b]) (SnI split name) (fun τ b tl Γ hR => by
      obtain ⟨vars, rfl, v1, v2, hl, hb⟩ := hR
      have sb := hb b (.head _)
      have smb : Sm b := Nat.le_trans sb (by omega)
      have smb' : Sm (strip2 b) := Nat.le_trans (strip2_size _) smb
      have hl' : (τ ++ [mark name b]).length + tl.length ≤ 900000 := by rw [List.length_append, List.length_singleton]; rw [List.length_cons] at hl; omega
      have hasgp := asg_name (prog := prog) (w := w) (n := n+1) (env := env) (y := "piece") (pos := ⟨482, 12, 482, 17⟩) (Γ := ⟨vars, some ("sent", .list (τ.map Hd.pv))⟩) (p := .byt b) kp (hown0 (by decide))
      have tt : ∀ p1 p2 p3 p4 p5 p6 p7 p8 p9 p10 p11 p12 p13 p14 p15 k1 k2 k3 k4 k5, EvT prog w (n+1) env ⟨("piece", .byt (strip2 b)) :: ("piece", .byt b) :: vars, some ("sent", .list (τ.map Hd.pv))⟩
          (.BoolOp .Or [.Compare (.Name "name" p1) [.In] [.Tuple [.Constant (.bytes [97, 117, 116, 104, 111, 114, 105, 122, 97, 116, 105, 111, 110]) k1 p2, .Constant (.bytes [112, 114, 111, 120, 121, 45, 97, 117, 116, 104, 111, 114, 105, 122, 97, 116, 105, 111, 110]) k2 p3] k5 p4] p5,
            .BoolOp .And [.Compare (.Name "name" p6) [.Eq] [.Constant (.bytes [99, 111, 111, 107, 105, 101]) k3 p7] p8, .Compare (.Call (.Name "len" p9) [.Name "piece" p10] [] p11) [.Lt] [.Constant (.int 20) k4 p12] p13] p14] p15)
          (secNames.contains name || (name == bCookie && decide ((strip2 b).size < 20))) := by
        intro p1 p2 p3 p4 p5 p6 p7 p8 p9 p10 p11 p12 p13 p14 p15 k1 k2 k3 k4 k5
        refine evt_eq (evt_boolop (eva_or (evt_cmp (ev_name (p := .byt name) v1) (ev_tuple (evl_cons ev_bytes (evl_cons ev_bytes evl_nil))) (cmp_in_tup (l := secNames))) fun _ => eva_or (evt_boolop (eva_and (evt_cmp (ev_name (p := .byt name) v1) ev_bytes cmp_eq_byt) fun _ => eva_and (evt_cmp (ev_len kl (ev_name (p := .byt (strip2 b)) (by rfl)) smb') ev_int cmp_lt_int) fun _ => eva_and_nil)) fun _ => eva_or_nil)) ?_
        rw [Bool.and_true, Bool.or_false]
        have e : decide ((((strip2 b).size : Nat) : Int) < 20) = decide ((strip2 b).size < 20) := decide_eq_decide.mpr (by omega)
        rw [e]
        rfl
      refine ⟨_, ⟨("piece", .byt (strip2 b)) :: ("piece", .byt b) :: vars, some ("sent", .list ((τ ++ [mark name b]).map Hd.pv))⟩, hasgp, ⟨_, rfl, by exact v1, by exact v2, hl', fun x hx => hb x (.tail _ hx)⟩, .inl (exp_cons (exp_assign (ev_strip2 (ev_name (by rfl)) smb rfl rfl) kp (hown0 (by decide))) ?_)⟩
      have hlm : (τ.map Hd.pv).length ≤ 1000000 := by rw [List.length_map]; omega
      unfold mark
      cases hb : (secNames.contains name || (name == bCookie && decide ((strip2 b).size < 20))) with
      | true =>
        rw [List.map_append]
        exact exp_cons1 (exp_ift (tt _ _ _ _ _ _ _ _ _ _ _ _ _ _ _ _ _ _ _ _) hb (exp_cons1 (exp_append (vars := ("piece", .byt (strip2 b)) :: ("piece", .byt b) :: vars) (l := τ.map Hd.pv) (ev_tuple (evl_cons (ev_name (p := .byt name) v1) (evl_cons (ev_name (p := .byt (strip2 b)) (by rfl)) (evl_cons ev_bool evl_nil)))) hlm (by decide) ok.inter)))
      | false =>
        rw [List.map_append]
        exact exp_cons1 (exp_iff (tt _ _ _ _ _ _ _ _ _ _ _ _ _ _ _ _ _ _ _ _) hb (exp_cons1 (exp_append (vars := ("piece", .byt (strip2 b)) :: ("piece", .byt b) :: vars) (l := τ.map Hd.pv) (ev_tuple (evl_cons (ev_name (p := .byt name) v1) (evl_cons (ev_name (p := .byt (strip2 b)) (by rfl)) evl_nil))) hlm (by decide) ok.inter))))
      (ins := pcs) (σ := σ) (Γ := Lcl.set ((Lcl.set ⟨vars, some ("sent", .list (σ.map Hd.pv))⟩ "name" (.byt p.1)).set "value" (.byt p.2)) "name" (.byt name))
      ⟨_, rfl, by rfl, by exact v1, by rw [List.length_append, List.length_map] at hl'; omega, hpcs⟩
    rw [hfold] at hR'
    obtain ⟨vars', rfl, v1', v2', _, _⟩ := hR'
    exact ⟨_, ⟨vars', rfl, v2', hl', hp'⟩, exp_cons1 (exp_for (evIt_list (hit _ _ _ _ _ _ _ _ _ _ _ _ _ (by rfl) (by exact v1) (by rfl)) fun v => rfl) L)⟩
end
end Mine

namespace Mine
open PySem PySem.W PySem.Calls PyProof.Rows

section
variable {prog : Program} {w : World} {n m n' k : Nat} {env cenv : Env} {O : Option Addr} {Γ Γ' : Lcl} {ins outs : List PV} {e e' : End'} {a : Addr} {x : Str} {G G₀ : GH} {s s₀ : Shared} {A : Around} {ρ : Res w}

theorem compE_of {α : Type} {g h : α → PV} {t : α → Bool} {target elt : Expr} {ifs : List Expr} (R : Lcl → Prop) : ∀ {l : List α} {Γ : Lcl}, R Γ →
    (∀ x ∈ l, ∀ Γ, R Γ → ∃ Γ₁, Asg prog w n cenv Γ target (g x) Γ₁ ∧ R Γ₁ ∧ EvIfs prog w n cenv Γ₁ ifs (t x) ∧ (t x = true → EvP prog w n cenv Γ₁ elt (h x))) →
    CompE prog w n cenv target ifs elt Γ (l.map g) ((l.filter t).map h)
  | [], Γ, _, _ => .nil _
  | x :: l, Γ, hR, hb => by
    obtain ⟨Γ₁, ha, hR', hi, he⟩ := hb x (.head _) Γ hR
    have ih := compE_of (l := l) R hR' fun y hy => hb y (.tail _ hy)
    rw [List.filter_cons]
    cases ht : t x with
    | true => rw [ht] at hi; rw [if_pos rfl]; exact .take ha hi (he ht) ih
    | false => rw [ht] at hi; rw [if_neg Bool.false_ne_true]; exact .skip ha hi ih
theorem compE_pair {l : List P2} {t : P2 → Bool} {h : P2 → PV} {p1 p2 pos : Pos} {k : Nat} {elt : Expr} {ifs : List Expr} (kn : cenv.kindOf "name" = some .local) (kv : cenv.kindOf "value" = some .local)
    (hb : ∀ p ∈ l, ∀ Γ : Lcl, Γ.vars.lookup ("name" : Str) = some (.byt p.1) → Γ.vars.lookup ("value" : Str) = some (.byt p.2) → EvIfs prog w n cenv Γ ifs (t p) ∧ (t p = true → EvP prog w n cenv Γ elt (h p))) :
    CompE prog w n cenv (.Tuple [.Name "name" p1, .Name "value" p2] k pos) ifs elt ⟨[], none⟩ (l.map fun p => p.hd.pv) ((l.filter t).map h) := by
  refine compE_of (fun Γ => Γ.own = none) rfl fun p hp Γ hR => ?_
  refine ⟨(Γ.set "name" (.byt p.1)).set "value" (.byt p.2), asg_pair kn kv (fun z d q => by rw [hR] at q; cases q), by exact hR, hb p hp _ (by rfl) (by rfl)⟩
theorem compE_name {α : Type} {g h : α → PV} {t : α → Bool} {y : Str} {pos : Pos} {l : List α} {elt : Expr} {ifs : List Expr} (kn : cenv.kindOf y = some .local)
    (hb : ∀ x ∈ l, ∀ Γ : Lcl, Γ.vars.lookup y = some (g x) → EvIfs prog w n cenv Γ ifs (t x) ∧ (t x = true → EvP prog w n cenv Γ elt (h x))) :
    CompE prog w n cenv (.Name y pos) ifs elt ⟨[], none⟩ (l.map g) ((l.filter t).map h) := by
  refine compE_of (fun Γ => Γ.own = none) rfl fun p hp Γ hR => ?_
  refine ⟨Γ.set y (g p), asg_name kn (fun z d q => by rw [hR] at q; cases q), by exact hR, hb p hp _ (by simp [Lcl.set])⟩
theorem compOk_nil {scope : Scope} (h1 : ∀ x ∈ scope.names, x.2 ≠ .free) (h2 : ∀ x ∈ scope.names, x.2 ≠ .cell) (h3 : scope.kind = .function) (h4 : ∀ x ∈ scope.names, x.2 = .local → scope.names.lookup x.1 = some .local) : CompOk scope [] env Γ ⟨[], none⟩ :=
  ⟨closureFor_none h1, h2, h3, h4, rfl, fun x p h => by cases h⟩
theorem cmp_lst_nil {l : List PV} : CmpIs prog w (n+1) .Eq (.lst l) (.lst []) l.isEmpty := by
  have := cmp_eq_deep (prog := prog) (w := w) (n := n+1) (p := .lst l) (q := .lst []) (.lst fun i a b _ h => by simp at h) (.inr ⟨_, _, rfl, rfl⟩)
  rw [show PV.eqb (.lst l) (.lst []) = l.isEmpty from by cases l <;> rfl] at this
  exact this
theorem cmpn_lst_nil {l : List PV} : CmpIs prog w (n+1) .NotEq (.lst l) (.lst []) (!l.isEmpty) := by
  have := cmp_ne_deep (prog := prog) (w := w) (n := n+1) (p := .lst l) (q := .lst []) (.lst fun i a b _ h => by simp at h) (.inr ⟨_, _, rfl, rfl⟩)
  rw [show PV.eqb (.lst l) (.lst []) = l.isEmpty from by cases l <;> rfl] at this
  exact this

-- _law_read
noncomputable def cooks (l : List P2) : List B := (l.filter fun p => p.1 == bCookie).map (·.2)
noncomputable def rest2 (l : List P2) : List P2 := l.filter fun p => p.1 != bCookie
noncomputable def wholeP : List B → B
  | [] => #[]
  | c :: cs => cs.foldl (fun w v => w ++ bSep ++ v) c
noncomputable def readP (l : List P2) : List Hd := (rest2 l).map P2.hd ++ if cooks l = [] then [] else [(bCookie, wholeP (cooks l), true)]

noncomputable def ReR (cs : List B) (rd : List PV) (w : B) (l : List B) (Γ : Lcl) : Prop :=
  ∃ vars, Γ = ⟨vars, none⟩ ∧ vars.lookup ("whole" : Str) = some (.byt w) ∧ vars.lookup ("read" : Str) = some (.lst rd) ∧ w.size + l.length * 502 ≤ 1000000 ∧ ∀ b ∈ l, b.size ≤ 500

theorem fn_read {l : List P2} (hs : ∀ p ∈ l, p.2.size ≤ 500) (hl : l.length ≤ 1000) : Fn prog w (n+1) 402 [.lst (l.map fun p => p.hd.pv)] (.ret (.lst ((readP l).map Hd.pv))) := by
  refine fn_of' (names := ["block"]) (by kernel_rfl) (by kernel_rfl) (by kernel_rfl) (by kernel_rfl) (by kernel_rfl) rfl (fun vs hv => ?_) fun env ok => ?_
  · obtain ⟨x, rfl⟩ := vs1 hv
    kernel_rfl
  conv in bodyOf w 402 => whnf
  have kc := ok.k "cookies" .local (by kernel_rfl)
  have kr := ok.k "read" .local (by kernel_rfl)
  have kw := ok.k "whole" .local (by kernel_rfl)
  have kv := ok.k "value" .local (by kernel_rfl)
  have hc : ∀ (scope : Scope) C (y : Str), scope.names.lookup y = some .local → (compEnvC scope [] C env).kindOf y = some .local := fun scope C y h => lookup_relabel_local h
  have hcl : (cooks l).length ≤ 1000 := by unfold cooks; rw [List.length_map]; exact Nat.le_trans (List.length_filter_le _ _) hl
  have hrl : (rest2 l).length ≤ 1000 := Nat.le_trans (List.length_filter_le _ _) hl
  have hcs : ∀ b ∈ cooks l, b.size ≤ 500 := fun b hb => by
    unfold cooks at hb
    obtain ⟨p, hp, rfl⟩ := List.mem_map.mp hb
    exact hs p (List.mem_filter.mp hp |>.1)
  refine exp_cons (exp_acomp (outs := (cooks l).map .byt) (Γc := ⟨[], none⟩) (evItS_list (ev_name (p := .lst (l.map fun p => p.hd.pv)) (by rfl)) fun v => rfl) (compOk_nil (by decide) (by decide) rfl (by decide)) (by rw [List.length_map]; omega) (fun C => ?_) kc (fun z d q => by cases q)) ?_
  · rw [show (cooks l).map PV.byt = (l.filter fun p => p.1 == bCookie).map fun p => PV.byt p.2 from by unfold cooks; rw [List.map_map]; rfl]
    exact compE_pair (hc _ _ _ (by decide)) (hc _ _ _ (by decide)) fun p hp Γ h1 h2 => ⟨ifs_one (evt_cmp (ev_name h1) ev_bytes cmp_eq_byt), fun _ => ev_name h2⟩
  refine exp_cons (exp_acomp (outs := (rest2 l).map fun p => p.hd.pv) (Γc := ⟨[], none⟩) (evItS_list (ev_name (p := .lst (l.map fun p => p.hd.pv)) (by rfl)) fun v => rfl) (compOk_nil (by decide) (by decide) rfl (by decide)) (by rw [List.length_map]; omega) (fun C => ?_) kr (fun z d q => by cases q)) ?_
  · refine compE_pair (hc _ _ _ (by decide)) (hc _ _ _ (by decide)) fun p hp Γ h1 h2 => ⟨ifs_one (evt_cmp (ev_name h1) ev_bytes cmp_ne_byt), fun _ => ?_⟩
    exact ev_tuple (ps := [.byt p.1, .byt p.2]) (evl_cons (ev_name h1) (evl_cons (ev_name h2) evl_nil))
  have tc : ∀ p1 p2 p3, EvT prog w (n+1) env ⟨("read", .lst ((rest2 l).map fun p => p.hd.pv)) :: ("cookies", .lst ((cooks l).map .byt)) :: (["block"] : List Str).zip [PV.lst (l.map fun p => p.hd.pv)], none⟩ (.Compare (.Name "cookies" p1) [.Eq] [.List [] p2] p3) ((cooks l).map PV.byt).isEmpty :=
    fun p1 p2 p3 => evt_cmp (ev_name (p := .lst ((cooks l).map .byt)) (by rfl)) (ev_list evl_nil) cmp_lst_nil
  cases hco : cooks l with
  | nil =>
    have e : readP l = (rest2 l).map P2.hd := by unfold readP; rw [if_pos hco, List.append_nil]
    rw [e, List.map_map]
    rw [hco] at tc
    exact exp_stop (exp_ift (tc _ _ _) rfl (exp_cons1 (exp_return (ev_name (by rfl))))) (by simp)
  | cons c cs =>
    have e : readP l = (rest2 l).map P2.hd ++ [(bCookie, cs.foldl (fun w v => w ++ bSep ++ v) c, true)] := by unfold readP; rw [if_neg (by rw [hco]; simp), hco]; rfl
    rw [hco] at tc hcl hcs
    have hcl' : cs.length ≤ 999 := by simp at hcl; omega
    have hc0 := hcs c (.head _)
    rw [List.map_cons] at tc ⊢
    refine exp_cons (exp_iff (tc _ _ _) rfl exp_nil) ?_
    refine exp_cons (exp_assign (p := .byt c) (ev_sub (T := "list") (ev_name (p := .lst (.byt c :: cs.map .byt)) (by rfl)) (ev_int (i := 0)) ty_lst slot_list_getitem.lookup (idx_lst (k := 0) rfl (by simp; omega))) kw (fun z d q => by cases q)) ?_
    have hit : ∀ Γ p1 p2 p3 p4 k, Γ.vars.lookup ("cookies" : Str) = some (.lst (.byt c :: cs.map .byt)) → EvP prog w (n+1) env Γ (.Subscript (.Name "cookies" p1) (.Slice (some (.Constant (.int 1) k p2)) none none p3) p4) (.lst (cs.map .byt)) := by
      intro Γ p1 p2 p3 p4 k h
      have := ev_slice (prog := prog) (w := w) (n := n+1) (env := env) (Γ := Γ) (T := "list") (p2 := p3) (pos := p4) (value := .Name "cookies" p1) (ev_name h) (part_some (e := .Constant (.int 1) k p2) ev_int) part_none ty_lst slot_list_getitem.lookup (sli_lst (by simp; omega))
      have e2 : clipAt (PV.byt c :: cs.map PV.byt).length 1 = 1 := by
        have := @clip_nat (PV.byt c :: cs.map PV.byt).length 1
        rw [show ((1 : Nat) : Int) = 1 from rfl] at this
        rw [this, List.length_cons]; omega
      have e3 : (((PV.byt c :: cs.map PV.byt).drop ((some (1 : Int)).elim 0 (clipAt (PV.byt c :: cs.map PV.byt).length))).take ((none : Option Int).elim (PV.byt c :: cs.map PV.byt).length (clipAt (PV.byt c :: cs.map PV.byt).length) - (some (1 : Int)).elim 0 (clipAt (PV.byt c :: cs.map PV.byt).length))) = cs.map .byt := by
        show ((PV.byt c :: cs.map PV.byt).drop (clipAt (PV.byt c :: cs.map PV.byt).length 1)).take ((PV.byt c :: cs.map PV.byt).length - clipAt (PV.byt c :: cs.map PV.byt).length 1) = _
        rw [e2, List.length_cons, List.drop_succ_cons, List.drop_zero, Nat.add_sub_cancel, List.take_length]
      rw [e3] at this
      exact this
    refine exp_forS (g := PV.byt) (ins := cs) (fun w v => w ++ bSep ++ v) (ReR cs ((rest2 l).map fun p => p.hd.pv)) c (evIt_list (hit _ _ _ _ _ _ (by rfl)) fun v => rfl) ⟨_, rfl, by rfl, by rfl, by omega, fun b hb => hcs b (.tail _ hb)⟩ (fun Γ' hR => ?_) fun w b tl Γ hR => ?_
    · obtain ⟨vars, rfl, v1, v2, hb, _⟩ := hR
      rw [e, List.map_append, List.map_map]
      exact exp_cons1 (exp_return (ev_bin (ev_name v2) (ev_list (evl_cons (ev_tuple (evl_cons ev_bytes (evl_cons (ev_name v1) (evl_cons ev_bool evl_nil)))) evl_nil)) (bin_add_lst (by simp; omega))))
    · obtain ⟨vars, rfl, v1, v2, hb, hbs⟩ := hR
      have hb0 := hbs b (.head _)
      rw [List.length_cons, Nat.add_mul] at hb
      have e1 : (w ++ bSep).size = w.size + 2 := by rw [Array.size_append]; rfl
      have e2 : (w ++ bSep ++ b).size = w.size + 2 + b.size := by rw [Array.size_append, e1]
      refine ⟨_, ⟨("whole", .byt (w ++ bSep ++ b)) :: ("value", .byt b) :: vars, none⟩, asg_name kv (fun z d q => by cases q), ⟨_, rfl, by rfl, by exact v2, by omega, fun x hx => hbs x (.tail _ hx)⟩, .inl (exp_cons1 (exp_assign (ev_bin (ev_bin (ev_name (p := .byt w) (by exact v1)) ev_bytes (bin_add_byt (by show w.size + 2 ≤ _; omega))) (ev_name (p := .byt b) (by rfl)) (bin_add_byt (by rw [Array.size_append]; show w.size + 2 + b.size ≤ _; omega))) kw (fun z d q => by cases q)))⟩

-- _law_bare
noncomputable def bareOne (p : P2) : Bool := !(low p.1 == bCookie && ([p.2] ++ piecesP p.2).any fun b => b != strip2 b)
noncomputable def bareP (l : List P2) : Bool := l.all bareOne

theorem bare_loop {target : Expr} {body : List Stmt} (hb : ∀ p, SmP p → ∀ Γ : Lcl, (∃ l, Γ.vars = l) → Γ.own = none → ∃ Γ₁, Γ₁.own = none ∧ Asg prog w n env Γ target p.hd.pv Γ₁ ∧ (bareOne p = true → ExP prog w n env O Γ₁ (execs body env) (.next Γ₁)) ∧ (bareOne p = false → ExP prog w n env O Γ₁ (execs body env) (.ret (.bool false)))) :
    ∀ {l : List P2} {Γ : Lcl}, (∀ p ∈ l, SmP p) → Γ.own = none → ∃ o, LoopE prog w n env O target body Γ (l.map fun p => p.hd.pv) o ∧ ((bareP l = true ∧ ∃ Γ', o = .next Γ') ∨ (bareP l = false ∧ o = .ret (.bool false)))
  | [], Γ, _, _ => ⟨_, .done _, .inl ⟨rfl, _, rfl⟩⟩
  | p :: l, Γ, hs, ho => by
    obtain ⟨Γ₁, h1, ha, ht, hf⟩ := hb p (hs p (.head _)) Γ ⟨_, rfl⟩ ho
    obtain ⟨o, L, r⟩ := bare_loop hb (l := l) (fun q hq => hs q (.tail _ hq)) h1
    have e : bareP (p :: l) = (bareOne p && bareP l) := rfl
    rw [e]
    cases hp : bareOne p with
    | true => exact ⟨o, .next ha (ht hp) L, by rw [Bool.true_and]; exact r⟩
    | false => exact ⟨_, .stop ha (hf hp), .inr ⟨rfl, rfl⟩⟩

theorem fn_bare {l : List P2} (hs : ∀ p ∈ l, SmP p) : Fn prog w (n+2) 407 [.lst (l.map fun p => p.hd.pv)] (.ret (.bool (bareP l))) := by
  refine fn_of' (names := ["block"]) (by kernel_rfl) (by kernel_rfl) (by kernel_rfl) (by kernel_rfl) (by kernel_rfl) rfl (fun vs hv => ?_) fun env ok => ?_
  · obtain ⟨x, rfl⟩ := vs1 hv
    kernel_rfl
  conv in bodyOf w 407 => whnf
  have kn := ok.k "name" .local (by kernel_rfl)
  have kv := ok.k "value" .local (by kernel_rfl)
  have kpc := ok.k "_law_pieces" .globalImplicit (by kernel_rfl)
  have hc : ∀ (scope : Scope) C (y : Str), scope.names.lookup y = some .local → (compEnvC scope [] C env).kindOf y = some .local := fun scope C y h => lookup_relabel_local h
  obtain ⟨o, L, r⟩ := bare_loop (prog := prog) (w := w) (n := n+2) (env := env) (O := none) (target := forTarget [(bodyOf w 407).headD (.Pass default)]) (body := forBody [(bodyOf w 407).headD (.Pass default)]) (l := l) (Γ := ⟨(["block"] : List Str).zip [.lst (l.map fun p => p.hd.pv)], none⟩) (fun p sp Γ _ hown => by
    have sm1 : Sm p.1 := Nat.le_trans sp.1 (by omega)
    refine ⟨(Γ.set "name" (.byt p.1)).set "value" (.byt p.2), by exact hown, asg_pair kn kv (fun z d q => by rw [hown] at q; cases q), ?_⟩
    have l1 : ((Γ.set "name" (.byt p.1)).set "value" (.byt p.2)).vars.lookup ("name" : Str) = some (.byt p.1) := by rfl
    have l2 : ((Γ.set "name" (.byt p.1)).set "value" (.byt p.2)).vars.lookup ("value" : Str) = some (.byt p.2) := by rfl
    have t1 : ∀ p1 p2 p3 p4 p5 k, (p2.endLine == p3.line) = true → EvT prog w (n+2) env ((Γ.set "name" (.byt p.1)).set "value" (.byt p.2)) (.Compare (.Call (.Attribute (.Name "name" p1) "lower" p2) [] [] p3) [.Eq] [.Constant (.bytes [99, 111, 111, 107, 105, 101]) k p4] p5) (low p.1 == bCookie) :=
      fun p1 p2 p3 p4 p5 k h => evt_cmp (ev_lower (ev_name l1) sm1 rfl h) ev_bytes cmp_eq_byt
    have t2 : ∀ p1 p2 p3 p4 p5 p6 p7 p8 p9 p10 p11 p12 p13 p14 p15 p16 p17 k, (p11.endLine == p13.line) = true → EvT prog w (n+2) env ((Γ.set "name" (.byt p.1)).set "value" (.byt p.2))
        (.Compare (.ListComp (.Name "piece" p1) [⟨.Name "piece" p2, .BinOp (.List [.Name "value" p3] p4) .Add (.Call (.Name "_law_pieces" p5) [.Name "value" p6] [] p7) p8,
          [.Compare (.Name "piece" p9) [.NotEq] [.Call (.Attribute (.Name "piece" p10) "strip" p11) [.Constant (.bytes [32, 9]) k p12] [] p13] p14], 0⟩] { kind := .function, names := [(".0", .local), ("piece", .local)], isGenerator := false, isCoroutine := false } p15) [.NotEq] [.List [] p16] p17)
        (([p.2] ++ piecesP p.2).any fun b => b != strip2 b) := by
      intro p1 p2 p3 p4 p5 p6 p7 p8 p9 p10 p11 p12 p13 p14 p15 p16 p17 k hline
      have hpl : ([p.2] ++ piecesP p.2).length ≤ 5000 := by
        have := (pieces_ok p.2).2.1
        have := sp.2
        rw [List.length_append, List.length_singleton]; omega
      refine evt_eq (evt_cmp (ev_comp (Γc := ⟨[], none⟩) (outs := (([p.2] ++ piecesP p.2).filter fun b => b != strip2 b).map .byt) (evItS_list (ins := ([p.2] ++ piecesP p.2).map .byt) (by
          rw [List.map_append]
          exact ev_bin (ev_list (evl_cons (ev_name l2) evl_nil)) (ev_fn kpc (by kernel_rfl) (by decide +kernel) (args_cons (evl_cons (ev_name l2) evl_nil)) (by kernel_rfl) (fn_pieces sp.2)) (bin_add_lst (by rw [List.length_map]; rw [List.length_append] at hpl; show 1 + _ ≤ _; rw [List.length_singleton] at hpl; omega))) fun v => rfl)
        (compOk_nil (by decide) (by decide) rfl (by decide)) (by rw [List.length_map]; omega) (fun C => compE_name (g := PV.byt) (h := PV.byt) (t := fun b => b != strip2 b) (hc _ _ _ (by decide)) fun b hb Γ hl => ⟨ifs_one (evt_cmp (ev_name hl) (ev_strip2 (ev_name hl) ?_ rfl hline) cmp_ne_byt), fun _ => ev_name hl⟩)) (ev_list evl_nil) cmpn_lst_nil) ?_
      · have : b.size ≤ 4096 := by
          rcases List.mem_append.mp hb with hb | hb
          · simp at hb; subst hb; exact sp.2
          · exact Nat.le_trans ((pieces_ok p.2).2.2 b hb) sp.2
        exact Nat.le_trans this (by omega)
      · generalize [p.2] ++ piecesP p.2 = L
        induction L with
        | nil => rfl
        | cons b L ih =>
          rw [List.filter_cons, List.any_cons, ← ih]
          cases b != strip2 b <;> simp
    unfold bareOne
    conv in forBody _ => whnf
    constructor
    · intro h
      cases h1 : low p.1 == bCookie with
      | false => exact exp_cons1 (exp_iff (t1 _ _ _ _ _ _ rfl) h1 exp_nil)
      | true =>
        rw [h1, Bool.true_and] at h
        have h2 : (([p.2] ++ piecesP p.2).any fun b => b != strip2 b) = false := by simpa using h
        exact exp_cons1 (exp_ift (t1 _ _ _ _ _ _ rfl) h1 (exp_cons1 (exp_iff (t2 _ _ _ _ _ _ _ _ _ _ _ _ _ _ _ _ _ _ rfl) h2 exp_nil)))
    · intro h
      cases h1 : low p.1 == bCookie with
      | false => rw [h1] at h; cases h
      | true =>
        rw [h1, Bool.true_and] at h
        have h2 : (([p.2] ++ piecesP p.2).any fun b => b != strip2 b) = true := Bool.not_eq_eq_eq_not.mp h
        exact exp_cons1 (exp_ift (t1 _ _ _ _ _ _ rfl) h1 (exp_cons1 (exp_ift (t2 _ _ _ _ _ _ _ _ _ _ _ _ _ _ _ _ _ _ rfl) h2 (exp_cons1 (exp_return ev_bool)))))) hs rfl
  rcases r with ⟨hb, Γ', rfl⟩ | ⟨hb, rfl⟩
  · rw [hb]
    exact exp_cons (exp_for (evIt_list (ev_name (by rfl)) fun v => rfl) L) (exp_cons1 (exp_return ev_bool))
  · rw [hb]
    exact exp_stop (exp_for (evIt_list (ev_name (by rfl)) fun v => rfl) L) (by simp)

-- _law_marked
theorem call_len_tup {l : List PV} (h : l.length ≤ 1000) : CallIs prog w n (.builtin "len") [.tup l] (.int l.length) := fun G s vs W r A cx => by
  obtain ⟨v, rfl, q⟩ := repl1 r
  obtain ⟨a, vs, ep, rfl, hG, rl⟩ := rep_tup q
  have hl : vs.size = l.length := by simpa using rl.length
  refine len_tuple ⟨_, W.sub _ _ hG, rfl, ep, rfl⟩ (by omega) ⟨G, .toks W, ?_⟩
  rw [hl]; exact mk_int
theorem ev_len_tup {a : Expr} {p1 pos : Pos} {l : List PV} (hk : env.kindOf "len" = some .globalImplicit) (ha : EvP prog w n env Γ a (.tup l)) (hb : l.length ≤ 1000) (hs : starEach [a] env = (false, eval a env) :: starEach [] env := by rfl) :
    EvP prog w n env Γ (.Call (.Name "len" p1) [a] [] pos) (.int l.length) :=
  ev_call_bi (ev_builtin hk (by kernel_rfl) (by kernel_rfl) (by decide +kernel) (by decide +kernel)) (args_cons (evl_cons ha evl_nil hs) hs) (call_len_tup hb) (by rw [hs]; rfl)
theorem cmp_is_bool {b c : Bool} : CmpIs prog w n .Is (.bool b) (.bool c) (b == c) := fun G s u v W r1 r2 A cx => by
  rw [rep_bool r1, rep_bool r2]
  exact is_bool ⟨G, .refl W, rfl⟩
theorem relabel_kind {env : Env} : ∀ {names : List (Str × NameKind)} {x : Str} {kd : NameKind}, names.lookup x = some kd → kd ≠ .free →
  (names.map fun (n, k) => if (k == NameKind.free && env.scope.kind == .function && env.kindOf n == some .cell) then (n, NameKind.cell) else (n, k)).lookup x = some kd
  | [], _, _, h, _ => by simp at h
  | (n, k) :: r, x, kd, h, hd => by
    have ih := @relabel_kind env r x kd
    show List.lookup x ((if (k == NameKind.free && env.scope.kind == .function && env.kindOf n == some .cell) = true then (n, NameKind.cell) else (n, k)) :: _) = _
    cases hx : x == n with
    | true =>
      simp only [List.lookup_cons, hx] at h
      cases h
      have : (k == NameKind.free) = false := by simpa using hd
      rw [this, Bool.false_and, Bool.false_and, if_neg Bool.false_ne_true, List.lookup_cons, hx]
    | false =>
      simp only [List.lookup_cons, hx] at h
      split <;> (rw [List.lookup_cons, hx]; exact ih h hd)
theorem fn_marked {l : List Hd} (hl : l.length ≤ 100000) : Fn prog w n 419 [.lst (l.map Hd.pv)] (.ret (.lst (l.map fun h => .bool h.2.2))) := by
  refine fn_of' (names := ["block"]) (by kernel_rfl) (by kernel_rfl) (by kernel_rfl) (by kernel_rfl) (by kernel_rfl) rfl (fun vs hv => ?_) fun env ok => ?_
  · obtain ⟨x, rfl⟩ := vs1 hv
    kernel_rfl
  conv in bodyOf w 419 => whnf
  refine exp_cons1 (exp_return (ev_comp (Γc := ⟨[], none⟩) (evItS_list (ins := l.map Hd.pv) (ev_name (by rfl)) fun v => rfl) (compOk_nil (by decide) (by decide) rfl (by decide)) (by rw [List.length_map]; omega) fun C => ?_))
  have hf : l.map (fun h => PV.bool h.2.2) = (l.filter fun _ => true).map (fun h => PV.bool h.2.2) := by rw [List.filter_eq_self.mpr fun _ _ => rfl]
  rw [hf]
  refine compE_name (g := Hd.pv) (t := fun _ => true) (lookup_relabel_local (by decide)) fun h _ Γ hg => ⟨ifs_nil, fun _ => ?_⟩
  have hk : (compEnvC { kind := .function, names := [(".0", .local), ("field", .local), ("len", .globalImplicit)], isGenerator := false, isCoroutine := false } [] C env).kindOf "len" = some .globalImplicit := relabel_kind (by decide) (by decide)
  obtain ⟨a, b, c⟩ := h
  cases c with
  | true =>
    have := ev_and2 (pos := ⟨510, 12, 510, 48⟩) (ev_cmp (pos := ⟨510, 12, 510, 27⟩) (ev_len_tup (p1 := ⟨510, 12, 510, 15⟩) (pos := ⟨510, 12, 510, 22⟩) (prog := prog) (w := w) (n := n) hk (ev_name (pos := ⟨510, 16, 510, 21⟩) hg) (by show 3 ≤ 1000; omega)) (ev_int (i := 3) (k := 0) (pos := ⟨510, 26, 510, 27⟩)) cmp_eq_int) tr_bool fun _ => ev_cmp (pos := ⟨510, 32, 510, 48⟩) (ev_sub (T := "tuple") (pos := ⟨510, 32, 510, 40⟩) (ev_name (pos := ⟨510, 32, 510, 37⟩) hg) (ev_int (i := 2) (k := 0) (pos := ⟨510, 38, 510, 39⟩)) ty_tup F.slot_tuple_getitem.lookup (idx_tup (k := 2) (r := .bool true) rfl (by omega))) (ev_bool (b := true) (k := 0) (pos := ⟨510, 44, 510, 48⟩)) cmp_is_bool
    exact this
  | false =>
    have := ev_and2 (q := .none) (y := .Compare (.Subscript (.Name "field" ⟨510, 32, 510, 37⟩) (.Constant (.int 2) 0 ⟨510, 38, 510, 39⟩) ⟨510, 32, 510, 40⟩) [.Is] [.Constant (.bool true) 0 ⟨510, 44, 510, 48⟩] ⟨510, 32, 510, 48⟩) (pos := ⟨510, 12, 510, 48⟩) (ev_cmp (pos := ⟨510, 12, 510, 27⟩) (ev_len_tup (p1 := ⟨510, 12, 510, 15⟩) (pos := ⟨510, 12, 510, 22⟩) (prog := prog) (w := w) (n := n) hk (ev_name (pos := ⟨510, 16, 510, 21⟩) hg) (by show 2 ≤ 1000; omega)) (ev_int (i := 3) (k := 0) (pos := ⟨510, 26, 510, 27⟩)) cmp_eq_int) tr_bool fun h => absurd h (by show ¬ ((2 : Int) == 3) = true; decide)
    exact this
end
end Mine

namespace Mine
open PySem PySem.W PySem.Calls PyProof.Rows

noncomputable def upB (b : B) : B := (b.toList.map Builtin.Bytes.toUpper).toArray
noncomputable def whites : List B := [[32].toArray, [9].toArray, [32, 32].toArray, [32, 9, 32].toArray]
noncomputable def pick (l : List B) (i : Int) : B := (l[i.toNat]?).getD #[]
noncomputable def turnField (part : Int) : P2 := (pick lawNames (part.fmod 19), pick lawValues ((part.fdiv 19).fmod 18))
/-- what becomes of the field at place -/
noncomputable def turnNV (deed part : Int) (p : P2) : P2 :=
  if deed == 2 then (upB p.1, p.2)
  else if deed == 3 then (p.1, pick whites ((part.fdiv 12).fmod 4) ++ p.2 ++ pick whites ((part.fdiv 12).fmod 4))
  else if deed == 4 then (if low p.1 != bCookie then (pick whites ((part.fdiv 12).fmod 4) ++ p.1 ++ pick whites ((part.fdiv 12).fmod 4), p.2) else p)
  else (p.1, pick lawValues ((part.fdiv 12).fmod 18))
/-- _law_turned -/
noncomputable def turnP (block : List P2) (d : Int) : List P2 :=
  if d.fmod 7 == 0 || block.isEmpty then block.take (((d.fdiv 7).fdiv 342).fmod (block.length + 1)).toNat ++ [turnField (d.fdiv 7)] ++ block.drop (((d.fdiv 7).fdiv 342).fmod (block.length + 1)).toNat
  else if d.fmod 7 == 1 then block ++ [turnField (d.fdiv 7)]
  else if d.fmod 7 == 6 then block.take ((d.fdiv 7).fmod block.length).toNat ++ block.drop (((d.fdiv 7).fmod block.length).toNat + 1)
  else block.take ((d.fdiv 7).fmod block.length).toNat ++ [turnNV (d.fmod 7) (d.fdiv 7) ((block[((d.fdiv 7).fmod block.length).toNat]?).getD (#[], #[]))] ++ block.drop (((d.fdiv 7).fmod block.length).toNat + 1)

theorem fmod_range (a : Int) {m : Int} (h : 0 < m) : ∃ k : Nat, a.fmod m = k ∧ (k : Int) < m := by
  have h1 := Int.fmod_nonneg_of_pos a h
  have h2 := Int.fmod_lt_of_pos a h
  exact ⟨(a.fmod m).toNat, by omega, by omega⟩

section
variable {prog : Program} {w : World} {n m n' k : Nat} {env cenv : Env} {O : Option Addr} {Γ Γ' : Lcl} {ins outs : List PV} {e e' : End'} {a : Addr} {x : Str} {G G₀ : GH} {s s₀ : Shared} {A : Around} {ρ : Res w}

theorem ev_eq' {e : Expr} {p q : PV} (h : EvP prog w n env Γ e p) (hq : p = q) : EvP prog w n env Γ e q := hq ▸ h
theorem ev_take {value e : Expr} {l : List PV} {k : Nat} {p2 pos : Pos} (hv : EvP prog w n env Γ value (.lst l)) (he : EvP prog w n env Γ e (.int (k : Int))) (hl : l.length ≤ 1048576) : EvP prog w n env Γ (.Subscript value (.Slice none (some e) none p2) pos) (.lst (l.take k)) := by
  have := ev_slice (prog := prog) (w := w) (n := n) (env := env) (Γ := Γ) (T := "list") (p2 := p2) (pos := pos) hv part_none (part_some he) ty_lst slot_list_getitem.lookup (sli_lst hl)
  have e2 : ((l.drop ((none : Option Int).elim 0 (clipAt l.length))).take ((some (k : Int)).elim l.length (clipAt l.length) - (none : Option Int).elim 0 (clipAt l.length))) = l.take k := by
    show (l.drop 0).take (clipAt l.length k - 0) = _
    rw [clip_nat, List.drop_zero, Nat.sub_zero]
    by_cases h : k ≤ l.length
    · rw [Nat.min_eq_left h]
    · rw [Nat.min_eq_right (by omega), List.take_length, List.take_of_length_le (by omega)]
  rw [e2] at this
  exact this
theorem ev_drop {value e : Expr} {l : List PV} {k : Nat} {p2 pos : Pos} (hv : EvP prog w n env Γ value (.lst l)) (he : EvP prog w n env Γ e (.int (k : Int))) (hl : l.length ≤ 1048576) : EvP prog w n env Γ (.Subscript value (.Slice (some e) none none p2) pos) (.lst (l.drop k)) := by
  have := ev_slice (prog := prog) (w := w) (n := n) (env := env) (Γ := Γ) (T := "list") (p2 := p2) (pos := pos) hv (part_some he) part_none ty_lst slot_list_getitem.lookup (sli_lst hl)
  have e2 : ((l.drop ((some (k : Int)).elim 0 (clipAt l.length))).take ((none : Option Int).elim l.length (clipAt l.length) - (some (k : Int)).elim 0 (clipAt l.length))) = l.drop k := by
    show (l.drop (clipAt l.length k)).take (l.length - clipAt l.length k) = _
    rw [clip_nat]
    by_cases h : k ≤ l.length
    · rw [Nat.min_eq_left h, List.take_of_length_le (by simp)]
    · rw [Nat.min_eq_right (by omega), List.drop_length, List.drop_eq_nil_of_le (by omega), List.take_nil]
  rw [e2] at this
  exact this
theorem ev_at {value e : Expr} {l : List PV} {k : Nat} {r : PV} {pos : Pos} (hv : EvP prog w n env Γ value (.lst l)) (he : EvP prog w n env Γ e (.int (k : Int))) (hl : l.length ≤ 1048576) (h : l[k]? = some r)
    (hs : ∀ o i, subscripted e false o i = operate [o, i] (getItem o i) := by intro _ _; rfl) : EvP prog w n env Γ (.Subscript value e pos) r := by
  have := ev_sub (prog := prog) (w := w) (n := n) (env := env) (Γ := Γ) (T := "list") (pos := pos) hv he ty_lst slot_list_getitem.lookup (idx_lst h hl) hs
  exact this
theorem exp_assign_pair {x y : Str} {p1 p2 tp pos : Pos} {k : Nat} {e : Expr} {p q : PV} (h : EvP prog w n env Γ e (.tup [p, q])) (hx : env.kindOf x = some .local) (hy : env.kindOf y = some .local) (hown : ∀ z d, Γ.own = some (z, d) → z ≠ x ∧ z ≠ y)
    (hs : swapsWithSole [.Tuple [.Name x p1, .Name y p2] k tp] e pos.line env = pure false := by rfl) (hw : swappedStores [.Tuple [.Name x p1, .Name y p2] k tp] e env = pure none := by rfl) :
    ExP prog w n env O Γ (exec (.Assign [.Tuple [.Name x p1, .Name y p2] k tp] e pos) env) (.next ((Γ.set x p).set y q)) := by
  intro A l G s rm hf hself gd
  refine Assign_Tuple (h.use rm gd fun v G1 s1 g1 gd1 r => ?_) hs hw
  refine wpAny_mono (asg_pair hx hy hown A O G1 s1 v rm gd1 r) (fun _ s2 ⟨g2, gd2⟩ => ?_) fun _ _ h => h.elim
  exact ⟨G1, g1.pur.trans' g2, rfl, gd2⟩

theorem pick_get {l : List B} {i : Int} {k : Nat} (h : i = k) (hk : k < l.length) : (l.map PV.byt)[k]? = some (.byt (pick l i)) := by
  unfold pick
  rw [h, Int.toNat_natCast, List.getElem?_map, List.getElem?_eq_getElem hk]; rfl
theorem names_len : lawNames.length = 19 := by kernel_rfl
theorem values_len : lawValues.length = 18 := by kernel_rfl
theorem pick_sm {l : List B} {d : Nat} {i : Int} (h : l.all (fun b => decide (b.size ≤ d)) = true) : (pick l i).size ≤ d := by
  unfold pick
  cases e : l[i.toNat]? with
  | none => simp
  | some b => have := List.all_eq_true.mp h b (List.mem_of_getElem? e); simpa using this
theorem whites_sm {i : Int} : (pick whites i).size ≤ 3 := pick_sm (by kernel_rfl)
theorem names_sm {i : Int} : (pick lawNames i).size ≤ 22 := pick_sm (by kernel_rfl)
theorem values_sm {i : Int} : (pick lawValues i).size ≤ 22 := pick_sm (by kernel_rfl)

theorem evl_int {i : Int} {k pos} : EvP prog w n env Γ (.Constant (.int i) k pos) (.int i) := ev_int

theorem ev_call_lenl {a : Expr} {p1 pos : Pos} {l : List PV} (hk : env.kindOf "len" = some .globalImplicit) (ha : EvP prog w n env Γ a (.lst l)) (hb : l.length ≤ 1048576) (hs : starEach [a] env = (false, eval a env) :: starEach [] env := by rfl) :
    EvP prog w n env Γ (.Call (.Name "len" p1) [a] [] pos) (.int l.length) :=
  ev_call_bi (ev_builtin hk (by kernel_rfl) (by kernel_rfl) (by decide +kernel) (by decide +kernel)) (args_cons (evl_cons ha evl_nil hs) hs) (call_len_lst hb) (by rw [hs]; rfl)
theorem fn_turned {block : List P2} {d : Int} (hsm : ∀ p ∈ block, p.1.size ≤ 4000 ∧ p.2.size ≤ 4000) (hlen : block.length ≤ 1000) : Fn prog w (n+1) 383 [.lst (block.map fun p => p.hd.pv), .int d] (.ret (.lst ((turnP block d).map fun p => p.hd.pv))) := by
  refine fn_of' (names := ["block", "drawn"]) (by kernel_rfl) (by kernel_rfl) (by kernel_rfl) (by kernel_rfl) (by kernel_rfl) rfl (fun vs hv => ?_) fun env ok => ?_
  · obtain ⟨x, y, rfl⟩ := vs2 hv
    kernel_rfl
  conv in bodyOf w 383 => whnf
  have kd := ok.k "deed" .local (by kernel_rfl)
  have kp := ok.k "part" .local (by kernel_rfl)
  have kf := ok.k "field" .local (by kernel_rfl)
  have kpl := ok.k "place" .local (by kernel_rfl)
  have kn := ok.k "name" .local (by kernel_rfl)
  have kv := ok.k "value" .local (by kernel_rfl)
  have kw := ok.k "white" .local (by kernel_rfl)
  have kln := ok.k "_law_names" .globalImplicit (by kernel_rfl)
  have klv := ok.k "_law_values" .globalImplicit (by kernel_rfl)
  have kl := ok.k "len" .globalImplicit (by kernel_rfl)
  have no : ∀ {vars : List (Str × PV)} {y : Str}, ∀ z d, (⟨vars, none⟩ : Lcl).own = some (z, d) → z ≠ y := fun z d q => by cases q
  have no2 : ∀ {vars : List (Str × PV)} {x y : Str}, ∀ z d, (⟨vars, none⟩ : Lcl).own = some (z, d) → z ≠ x ∧ z ≠ y := fun z d q => by cases q
  have hL : (block.map fun p => p.hd.pv).length ≤ 1048576 := by rw [List.length_map]; omega
  have nm : ∀ {Γ p1 p2}, EvP prog w (n+1) env Γ (.Call (.Name "_law_names" p1) [] [] p2) (.lst (lawNames.map .byt)) := ev_fn kln (by kernel_rfl) (by decide +kernel) args_nil (by kernel_rfl) fn_names
  have vl : ∀ {Γ p1 p2}, EvP prog w (n+1) env Γ (.Call (.Name "_law_values" p1) [] [] p2) (.lst (lawValues.map .byt)) := ev_fn klv (by kernel_rfl) (by decide +kernel) args_nil (by kernel_rfl) fn_values
  generalize hde : d.fmod 7 = deed
  generalize hpa : d.fdiv 7 = part
  refine exp_cons (exp_assign (p := .int deed) (ev_eq' (ev_bin (ev_name (p := .int d) (by rfl)) evl_int (bin_mod_int (by decide))) (by rw [hde])) kd no) ?_
  refine exp_cons (exp_assign (p := .int part) (ev_eq' (ev_bin (ev_name (p := .int d) (by rfl)) evl_int (bin_floordiv_int (by decide) (by decide))) (by rw [hpa])) kp no) ?_
  obtain ⟨i1, hi1, hl1⟩ := fmod_range part (m := 19) (by decide)
  obtain ⟨i2, hi2, hl2⟩ := fmod_range (part.fdiv 19) (m := 18) (by decide)
  obtain ⟨i3, hi3, hl3⟩ := fmod_range (part.fdiv 12) (m := 4) (by decide)
  obtain ⟨i4, hi4, hl4⟩ := fmod_range (part.fdiv 12) (m := 18) (by decide)
  obtain ⟨i5, hi5, hl5⟩ := fmod_range (part.fdiv 342) (m := (block.length : Int) + 1) (by omega)
  refine exp_cons (exp_assign (p := (turnField part).hd.pv) (ev_tuple (ps := [.byt (pick lawNames (part.fmod 19)), .byt (pick lawValues ((part.fdiv 19).fmod 18))]) (evl_cons (ev_at nm (ev_eq' (ev_bin (ev_name (p := .int part) (by rfl)) evl_int (bin_mod_int (by decide))) (by rw [hi1])) (by rw [List.length_map, names_len]; omega) (pick_get hi1 (by rw [names_len]; omega)))
    (evl_cons (ev_at vl (ev_eq' (ev_bin (ev_bin (ev_name (p := .int part) (by rfl)) evl_int (bin_floordiv_int (by decide) (by decide))) evl_int (bin_mod_int (by decide))) (by rw [hi2])) (by rw [List.length_map, values_len]; omega) (pick_get hi2 (by rw [values_len]; omega))) evl_nil))) kf no) ?_
  have hem : (block.map fun p => p.hd.pv).isEmpty = block.isEmpty := by cases block <;> rfl
  have tcmp : ∀ {vars : List (Str × PV)} {c : Int} {p1 p2 p3 k}, vars.lookup ("deed" : Str) = some (.int deed) → EvT prog w (n+1) env ⟨vars, none⟩ (.Compare (.Name "deed" p1) [.Eq] [.Constant (.int c) k p2] p3) (deed == c) := fun h => evt_cmp (ev_name h) evl_int cmp_eq_int
  have tor : ∀ {p1 p2 p3 p4 p5 p6 p7 k}, EvT prog w (n+1) env ⟨("field", (turnField part).hd.pv) :: ("part", .int part) :: ("deed", .int deed) :: (["block", "drawn"] : List Str).zip [.lst (block.map fun p => p.hd.pv), .int d], none⟩
      (.BoolOp .Or [.Compare (.Name "deed" p1) [.Eq] [.Constant (.int 0) k p2] p3, .Compare (.Name "block" p4) [.Eq] [.List [] p5] p6] p7) (deed == 0 || block.isEmpty) :=
    evt_eq (evt_boolop (eva_or (tcmp (by rfl)) fun _ => eva_or (evt_cmp (ev_name (p := .lst (block.map fun p => p.hd.pv)) (by rfl)) (ev_list evl_nil) cmp_lst_nil) fun _ => eva_or_nil)) (by rw [Bool.or_false, hem])
  have bl : ∀ {vars : List (Str × PV)} {p1}, vars.lookup ("block" : Str) = some (.lst (block.map fun p => p.hd.pv)) → EvP prog w (n+1) env ⟨vars, none⟩ (.Name "block" p1) (.lst (block.map fun p => p.hd.pv)) := fun h => ev_name h
  have fd1 : ∀ {vars : List (Str × PV)} {p1 p2}, vars.lookup ("field" : Str) = some (turnField part).hd.pv → EvP prog w (n+1) env ⟨vars, none⟩ (.List [.Name "field" p1] p2) (.lst [(turnField part).hd.pv]) := fun h => ev_list (evl_cons (ev_name h) evl_nil)
  have hll : (block.map fun p => p.hd.pv).length = block.length := List.length_map ..
  have e3 : ∀ {l : List P2} {o : Out}, o = .ret (.lst (l.map fun p => p.hd.pv)) → ∀ {X : Lcl} {st}, ExP prog w (n+1) env none X st o → ExP prog w (n+1) env none X st (.ret (.lst (l.map fun p => p.hd.pv))) := fun {_ _} h {_ _} q => h ▸ q
  unfold turnP
  rw [hde, hpa]
  cases h0 : (deed == 0 || block.isEmpty) with
  | true =>
    rw [if_pos rfl]
    refine exp_stop (exp_ift tor h0 ?_) (by simp)
    rw [hi5, Int.toNat_natCast]
    refine exp_cons (exp_assign (p := .int i5) (ev_eq' (ev_bin (ev_bin (ev_name (p := .int part) (by rfl)) evl_int (bin_floordiv_int (by decide) (by decide))) (ev_bin (ev_call_lenl kl (bl (by rfl)) hL) evl_int bin_add_int) (bin_mod_int (by omega))) (by rw [hll, hi5])) kpl no) (exp_cons1 ?_)
    refine e3 ?_ (exp_return (ev_bin (ev_bin (ev_take (bl (by rfl)) (ev_name (by rfl)) hL) (fd1 (by rfl)) (bin_add_lst ?_)) (ev_drop (bl (by rfl)) (ev_name (by rfl)) hL) (bin_add_lst ?_)))
    · rw [List.map_append, List.map_append, List.map_take, List.map_drop]; rfl
    · simp; omega
    · simp; omega
  | false =>
  rw [if_neg Bool.false_ne_true]
  refine exp_cons (exp_iff tor h0 exp_nil) ?_
  have hne : block ≠ [] := fun q => by rw [q] at h0; simp at h0
  have hpos : 0 < block.length := List.length_pos_iff.mpr hne
  cases h1 : deed == 1 with
  | true =>
    rw [if_pos rfl]
    refine exp_stop (exp_ift (tcmp (by rfl)) h1 (exp_cons1 (e3 ?_ (exp_return (ev_bin (bl (by rfl)) (fd1 (by rfl)) (bin_add_lst ?_)))))) (by simp)
    · rw [List.map_append]; rfl
    · simp; omega
  | false =>
  rw [if_neg Bool.false_ne_true]
  refine exp_cons (exp_iff (tcmp (by rfl)) h1 exp_nil) ?_
  obtain ⟨i6, hi6, hl6⟩ := fmod_range part (m := (block.length : Int)) (by omega)
  have hlt : i6 < block.length := by omega
  rw [hi6, Int.toNat_natCast, List.getElem?_eq_getElem hlt, Option.getD_some]
  have sp := hsm (block[i6]) (List.getElem_mem hlt)
  generalize hp : block[i6] = p at sp ⊢
  have hget : (block.map fun p => p.hd.pv)[i6]? = some (.tup [.byt p.1, .byt p.2]) := by rw [List.getElem?_map, List.getElem?_eq_getElem hlt, hp]; rfl
  refine exp_cons (exp_assign (p := .int i6) (ev_eq' (ev_bin (ev_name (p := .int part) (by rfl)) (ev_call_lenl kl (bl (by rfl)) hL) (bin_mod_int (by rw [hll]; omega))) (by rw [hll, hi6])) kpl no) ?_
  refine exp_cons (exp_assign_pair (p := .byt p.1) (q := .byt p.2) (ev_at (bl (by rfl)) (ev_name (by rfl)) hL hget) kn kv no2) ?_
  refine exp_cons (exp_assign (p := .byt (pick whites ((part.fdiv 12).fmod 4))) (ev_at (l := whites.map .byt) (ev_list (evl_cons ev_bytes (evl_cons ev_bytes (evl_cons ev_bytes (evl_cons ev_bytes evl_nil)))) (by simp [whites, sizeLine])) (ev_eq' (ev_bin (ev_bin (ev_name (p := .int part) (by rfl)) evl_int (bin_floordiv_int (by decide) (by decide))) evl_int (bin_mod_int (by decide))) (by rw [hi3])) (by decide) (pick_get hi3 (by show i3 < 4; omega))) kw no) ?_
  have sw := @whites_sm ((part.fdiv 12).fmod 4)
  unfold turnNV
  generalize pick whites ((part.fdiv 12).fmod 4) = white at sw ⊢
  -- the last statement
  have fin : ∀ {vars : List (Str × PV)} {q : P2} {p1 p2 p3 p4 p5 p6 p7 p8 p9 p10 p11 p12 p13 p14 p15 p16 p17 k1 k2}, vars.lookup ("block" : Str) = some (.lst (block.map fun p => p.hd.pv)) → vars.lookup ("place" : Str) = some (.int (i6 : Int)) → vars.lookup ("name" : Str) = some (.byt q.1) → vars.lookup ("value" : Str) = some (.byt q.2) →
      ExP prog w (n+1) env none ⟨vars, none⟩ (execs [.Return (some (.BinOp (.BinOp (.Subscript (.Name "block" p1) (.Slice none (some (.Name "place" p2)) none p3) p4) .Add (.List [.Tuple [.Name "name" p5, .Name "value" p6] k1 p7] p8) p9) .Add
        (.Subscript (.Name "block" p10) (.Slice (some (.BinOp (.Name "place" p11) .Add (.Constant (.int 1) k2 p12) p13)) none none p14) p15) p16)) p17] env) (.ret (.lst ((block.take i6 ++ [q] ++ block.drop (i6 + 1)).map fun p => p.hd.pv))) := by
    intro vars q p1 p2 p3 p4 p5 p6 p7 p8 p9 p10 p11 p12 p13 p14 p15 p16 p17 k1 k2 h1 h2 h3 h4
    refine exp_cons1 (e3 ?_ (exp_return (ev_bin (ev_bin (ev_take (bl h1) (ev_name h2) hL) (ev_list (evl_cons (ev_tuple (ps := [.byt q.1, .byt q.2]) (evl_cons (ev_name h3) (evl_cons (ev_name h4) evl_nil))) evl_nil)) (bin_add_lst ?_)) (ev_drop (k := i6 + 1) (bl h1) (ev_bin (ev_name h2) evl_int bin_add_int) hL) (bin_add_lst ?_))))
    · rw [List.map_append, List.map_append, List.map_take, List.map_drop]; rfl
    · simp; omega
    · simp; omega
  cases h6 : deed == 6 with
  | true =>
    have e6 : deed = 6 := by simpa using h6
    rw [if_pos rfl]
    refine exp_stop (exp_iff (tcmp (by rfl)) (by rw [e6]; rfl) (exp_cons1 (exp_ift (tcmp (by rfl)) h6 (exp_cons1 (e3 ?_ (exp_return (ev_bin (ev_take (bl (by rfl)) (ev_name (by rfl)) hL) (ev_drop (k := i6 + 1) (bl (by rfl)) (ev_bin (ev_name (p := .int (i6 : Int)) (by rfl)) evl_int bin_add_int) hL) (bin_add_lst ?_)))))))) (by simp)
    · rw [List.map_append, List.map_take, List.map_drop]
    · simp; omega
  | false =>
  rw [if_neg Bool.false_ne_true]
  have sm1 : Sm p.1 := Nat.le_trans sp.1 (by omega)
  cases h2 : deed == 2 with
  | true =>
    rw [if_pos rfl]
    refine exp_cons (exp_ift (tcmp (by rfl)) h2 (exp_cons1 (exp_assign (p := .byt (upB p.1)) (ev_upper (ev_name (by rfl)) sm1 rfl rfl) kn no))) ?_
    exact fin (q := (upB p.1, p.2)) (by rfl) (by rfl) (by rfl) (by rfl)
  | false =>
  rw [if_neg Bool.false_ne_true]
  cases h3 : deed == 3 with
  | true =>
    rw [if_pos rfl]
    refine exp_cons (exp_iff (tcmp (by rfl)) h2 (exp_cons1 (exp_iff (tcmp (by rfl)) h6 (exp_cons1 (exp_ift (tcmp (by rfl)) h3 (exp_cons1 (exp_assign (p := .byt (white ++ p.2 ++ white)) (ev_bin (ev_bin (ev_name (p := .byt white) (by rfl)) (ev_name (p := .byt p.2) (by rfl)) (bin_add_byt (by omega))) (ev_name (p := .byt white) (by rfl)) (bin_add_byt (by rw [Array.size_append]; omega))) kv no))))))) ?_
    exact fin (q := (p.1, white ++ p.2 ++ white)) (by rfl) (by rfl) (by rfl) (by rfl)
  | false =>
  rw [if_neg Bool.false_ne_true]
  cases h4 : deed == 4 with
  | true =>
    rw [if_pos rfl]
    cases hc : low p.1 != bCookie with
    | true =>
      rw [if_pos rfl]
      refine exp_cons (exp_iff (tcmp (by rfl)) h2 (exp_cons1 (exp_iff (tcmp (by rfl)) h6 (exp_cons1 (exp_iff (tcmp (by rfl)) h3 (exp_cons1 (exp_ift (tcmp (by rfl)) h4 (exp_cons1 (exp_ift (evt_cmp (ev_lower (ev_name (by rfl)) sm1 rfl rfl) ev_bytes cmp_ne_byt) hc (exp_cons1 (exp_assign (p := .byt (white ++ p.1 ++ white)) (ev_bin (ev_bin (ev_name (p := .byt white) (by rfl)) (ev_name (p := .byt p.1) (by rfl)) (bin_add_byt (by omega))) (ev_name (p := .byt white) (by rfl)) (bin_add_byt (by rw [Array.size_append]; omega))) kn no))))))))))) ?_
      exact fin (q := (white ++ p.1 ++ white, p.2)) (by rfl) (by rfl) (by rfl) (by rfl)
    | false =>
      rw [if_neg Bool.false_ne_true]
      refine exp_cons (exp_iff (tcmp (by rfl)) h2 (exp_cons1 (exp_iff (tcmp (by rfl)) h6 (exp_cons1 (exp_iff (tcmp (by rfl)) h3 (exp_cons1 (exp_ift (tcmp (by rfl)) h4 (exp_cons1 (exp_iff (evt_cmp (ev_lower (ev_name (by rfl)) sm1 rfl rfl) ev_bytes cmp_ne_byt) hc exp_nil))))))))) ?_
      exact fin (q := p) (by rfl) (by rfl) (by rfl) (by rfl)
  | false =>
    rw [if_neg Bool.false_ne_true]
    refine exp_cons (exp_iff (tcmp (by rfl)) h2 (exp_cons1 (exp_iff (tcmp (by rfl)) h6 (exp_cons1 (exp_iff (tcmp (by rfl)) h3 (exp_cons1 (exp_iff (tcmp (by rfl)) h4 (exp_cons1 (exp_assign (p := .byt (pick lawValues ((part.fdiv 12).fmod 18))) (ev_at vl (ev_eq' (ev_bin (ev_bin (ev_name (p := .int part) (by rfl)) evl_int (bin_floordiv_int (by decide) (by decide))) evl_int (bin_mod_int (by decide))) (by rw [hi4])) (by rw [List.length_map, values_len]; omega) (pick_get hi4 (by rw [values_len]; omega))) kv no))))))))) ?_
    exact fin (q := (p.1, pick lawValues ((part.fdiv 12).fmod 18))) (by rfl) (by rfl) (by rfl) (by rfl)
end
end Mine

namespace Mine
open PySem PySem.W PySem.Calls PyProof.Rows

section
variable {prog : Program} {w : World} {n m n' k : Nat} {env cenv : Env} {O : Option Addr} {Γ Γ' : Lcl} {ins outs : List PV} {e e' : End'} {a : Addr} {x : Str} {G G₀ : GH} {s s₀ : Shared} {A : Around} {ρ : Res w}

theorem find_tupnew : findCls (topK w) (.type "tuple") (.type "type") "__new__" = some (.val (.builtin "tuple.__new__")) := by kernel_rfl
theorem method_type' {T : String} {name : Str} {v : Value} {pl : Sem Bool} {Q : Value × List Value → Shared → Prop} {E : Value → Shared → Prop} (X : (topK w).In s.heap) (ht : typeOf (.type T) = pure (.type "type")) (hs : Manifest.isStub T = false)
    (e : findCls (topK w) (.type T) (.type "type") name = some (.val v)) (hh : handedIn v = true) (h : Q (v, []) { s with toks := s.toks + 1 }) : wpAny (model prog w) A (getMethod (.type T) name pl) Q E s := by
  have hstub : opaqueClassAbove (.type T) = pure none := by unfold opaqueClassAbove; dsimp only; rw [hs]; rfl
  have L0 : Looks (model prog w) s.heap (typeOf (.type T)) (.type "type") := Looks.of_pure ht
  have hg : findIn (topK w) (.type "type") "__getattribute__" = some (some (.builtin "type.__getattribute__")) := by kernel_rfl
  unfold getMethod specialOf
  refine wpAny_bind (wpAny_bind (L0.here ((looks_findIn X hg).here ?_)))
  dsimp only
  rw [if_pos canon_tga]
  refine wpAny_bind (wpAny_mono (Q := fun v => Q (v, [])) (E := E) ?_ (fun _ _ z => wpAny_pure z) fun _ _ z => z)
  have LO : Looks (model prog w) s.heap (opaqueClassAbove (.type T)) none := Looks.of_pure hstub
  refine cls_open X LO L0 hg (looks_hook X (r := none) (by rfl)) (by show subIn (topK w) _ _ = _; rfl) e
    (wpAny_pure (by show wpAny _ _ (handedOut v) _ _ _; rw [handedOut_of hh]; exact wpAny_pure h))

/-- T.name(..), T a built-in type -/
theorem ev_tmethod {o : Expr} {name : Str} {apos pos : Pos} {es : List Expr} {ps : List PV} {r : PV} {T id : String} (ho : EvP prog w n env Γ o (.oth (.type T))) (ha : EvArgs prog w n env Γ pos es ps)
    (ht : typeOf (.type T) = pure (.type "type")) (hs : Manifest.isStub T = false) (e : findCls (topK w) (.type T) (.type "type") name = some (.val (.builtin id))) (hh : handedIn (.builtin id) = true) (hc : CallIs prog w n (.builtin id) ps r)
    (hplain : (backTo pos (starEach es env)).any (·.1) = false := by rfl)
    (he : eval (.Call (.Attribute o name apos) es [] pos) env = (do
      let ov ← eval o env
      standAt apos.atName
      let (f, first) ← holding [ov] (getMethod ov name (do return (← importBound o env).getD true))
      callWith pos f first (backTo pos (starEach es env)) (backToKw pos (keywordEach [] env))) := by rfl) :
    EvP prog w n env Γ (.Call (.Attribute o name apos) es [] pos) r := fun A O G s rm g => by
  refine methodCall_KW (ho.use rm g fun u G1 s1 g1 gd1 q1 => ?_) he
  unfold Rep at q1
  subst q1
  refine method_type' (top_heap gd1.wld) ht hs e hh ?_
  have gt : Grow w Pure No G1 s1 G1 { s1 with toks := s1.toks + 1 } := .toks gd1.wld
  have gd1' := gd1.pur gt
  refine callWith_builtin hplain ((ha _).use rm gd1' fun a G2 s2 g2 gd2 q2 => ?_)
  rw [q2.1]
  exact (hc G2 s2 a.pos gd2.wld q2.2).use (gd2.cx rm) fun v G3 s3 g3 q3 => ⟨G3, ((g1.trans' gt).trans' g2).trans' g3, q3⟩

theorem fn_new {a b c d : Bool} : Fn prog w n 134 [.oth (.ref 190), .bool a, .bool b, .bool c, .bool d] (.ret (.flg a b c d)) := by
  refine fn_of' (names := ["_cls", "is_client", "is_trailer", "is_response_header", "is_push_promise"]) (by kernel_rfl) (by kernel_rfl) (by kernel_rfl) (by kernel_rfl) (by kernel_rfl) rfl (fun vs hv => ?_) fun env ok => ?_
  · obtain ⟨x, y, z, u, v, rfl⟩ := vs5 hv
    kernel_rfl
  conv in bodyOf w 134 => whnf
  have kt := ok.k "tuple" .globalImplicit (by kernel_rfl)
  refine exp_cons (exp_doc ok.inter) (exp_cons1 (exp_return (ev_tmethod (T := "tuple") (id := "tuple.__new__") (ev_builtin kt (by kernel_rfl) (v := .type "tuple") (by kernel_rfl) (by decide +kernel) (by decide +kernel)) (args_cons (evl_cons (ev_name (p := .oth (.ref 190)) (by rfl)) (evl_cons (ev_tuple (ps := [.bool a, .bool b, .bool c, .bool d]) (evl_cons (ev_name (by rfl)) (evl_cons (ev_name (by rfl)) (evl_cons (ev_name (by rfl)) (evl_cons (ev_name (by rfl)) evl_nil))))) evl_nil))) ty_tuple (by kernel_rfl) find_tupnew (by kernel_rfl) call_tupnew)))

theorem pk_tcheck {a b c d : Bool} : peek (topK w) ⟨prog, w.params⟩ (checkBuiltinCall "type.__call__" ⟨[.ref 190, .bool a, .bool b, .bool c, .bool d], []⟩) = some () := by kernel_rfl
theorem pk_subobj : peek (topK w) ⟨prog, w.params⟩ (isSubtype (.ref 190) (.type "object")) = some true := by kernel_rfl
theorem bk_oi : builtinKind "object.__init__" = some .slot := by decide +kernel
theorem sp_oi : splitId "object.__init__" = some ("object", "__init__") := by decide +kernel
theorem args_oi (a b c d e : Value) : argsOk "object.__init__" ⟨[a, b, c, d, e], []⟩ := by
  unfold argsOk; rw [signature?_of (id := "object.__init__") (n := ['_', '_', 't', 'i', 'n', 'i', '_', '_']) (o := ['t', 'c', 'e', 'j', 'b', 'o']) (by kernel_rfl) PySem.F.owner_object]; kernel_rfl
theorem plain_oi : plainId "object.__init__" = true := by decide +kernel
theorem call_oinit {a b c d : Bool} {v : Value} {Q : Value → Shared → Prop} {E : Value → Shared → Prop} (W : Wld w G s) (hv : ∃ x o, v = .ref x ∧ s.heap.get? x = some o ∧ o.cls = .ref 190) (h : Q .none s) :
    wpAny (model prog w) A (call (.builtin "object.__init__") [v, .bool a, .bool b, .bool c, .bool d]) Q E s := by
  obtain ⟨x, o, rfl, ho, hc⟩ := hv
  have X := top_heap W
  have LT : Looks (model prog w) s.heap (typeOf (.ref x)) (.ref 190) := hc ▸ (Looks.ld (M := model prog w) (part := none) ho).andThen .now
  have L1 := looks_peek (prog := prog) X pk_subobj
  have L2 := looks_peek (prog := prog) X pk_init
  have L3 := looks_peek (prog := prog) X pk_made
  have LS : Looks (model prog w) s.heap (isInstance (.ref x) (.type "object")) true := LT.andThen (f := fun t => isSubtype t (.type "object")) L1
  clear L1
  refine wpAny_call (codeAny_call_builtin plain_oi F.entry_object_init ?_)
  have ha := args_oi (.ref x) (.bool a) (.bool b) (.bool c) (.bool d)
  refine check_slot (i := "object.__init__") (owner := "object") (n := "__init__") (self := .ref x) (rest := [.bool a, .bool b, .bool c, .bool d]) (kw := []) bk_oi sp_oi LS ha ?_
  show wpAny _ _ (Builtin.«object.__init__» ⟨.ref x :: [.bool a, .bool b, .bool c, .bool d], []⟩) _ _ _
  unfold Builtin.«object.__init__»
  dsimp only
  rw [if_pos (by rfl)]
  refine wpAny_bind (LT.here ?_)
  dsimp only
  refine wpAny_bind (L2.here ?_)
  refine wpAny_bind (L3.here ?_)
  rw [if_neg (by decide), if_neg (by decide)]
  exact wpAny_pure h
theorem depth_u (A : Around) (vals : List Value) : (A.under (.builtin "type.__call__" ⟨.ref 190 :: vals, []⟩)).depth = A.depth + 1 := rfl
theorem units_u (A : Around) (vals : List Value) : (A.under (.builtin "type.__call__" ⟨.ref 190 :: vals, []⟩)).units = A.units + 1 := rfl
theorem rm_under {A : Around} {c : Code} (x : Rm (n+3) A) (h : (A.under c).depth ≤ A.depth + 1 ∧ (A.under c).units ≤ A.units + 12 ∧ (A.under c).handled = A.handled ∧ (A.under c).guards = A.guards) : Rm (n+2) (A.under c) :=
  ⟨by rw [h.2.2.1]; exact x.handled, by have := x.depth; omega, by have := x.units; omega, by rw [h.2.2.2]; exact x.guards⟩
theorem call_flags {a b c d : Bool} : CallIs prog w (n+3) (.ref 190) [.bool a, .bool b, .bool c, .bool d] (.flg a b c d) := fun G s vs W r A cx => by
  have hvs : vs = [.bool a, .bool b, .bool c, .bool d] := by
    unfold RepL at r
    obtain ⟨v1, r1, rfl, q1, rl⟩ := r
    obtain ⟨v2, v3, v4, rfl, q2, q3, q4⟩ := repl3 rl
    rw [rep_bool q1, rep_bool q2, rep_bool q3, rep_bool q4]
  subst hvs
  have X := top_heap W
  have hC := X _ _ (k190 (w := w))
  have Lc := looks_peek (prog := prog) X pk_call
  have Lk := looks_peek (prog := prog) X (pk_tcheck (a := a) (b := b) (c := c) (d := d))
  have Lm := looks_peek (prog := prog) X pk_mro
  have Lmb := looks_peek (prog := prog) X pk_made
  refine wpAny_call (codeAny_of_tree ?_)
  show wpAny _ _ (callAny (.ref 190) _) _ _ _
  unfold callAny
  refine wpAny_bind (wpAny_load hC ?_)
  dsimp only
  unfold callAny.viaDunder
  refine wpAny_bind (Lc.here ?_)
  dsimp only
  rw [PySem.F.bind_type_call]
  refine wpAny_bind (wpAny_pure (wpAny_bind (wpAny_pure ?_)))
  rw [if_pos (by decide +kernel)]
  refine wpAny_pure ⟨rfl, ?_⟩
  refine codeAny_call_builtin_at (Code.quiet_builtin _ (by decide +kernel)) PySem.F.entry_type_call (Lk.here ?_)
  show wpAny _ _ (Builtin.«type.__call__» ⟨.ref 190 :: [.bool a, .bool b, .bool c, .bool d], []⟩) _ _ _
  unfold Builtin.«type.__call__»
  dsimp only
  rw [if_neg (by decide)]
  refine wpAny_bind (Lm.here ?_)
  rw [if_neg (by decide)]
  refine wpAny_bind (Lmb.here ?_)
  dsimp only
  refine wpAny_bind ?_
  refine cls_bind X k_reads k_new (wpAny_call (sm_get (s := { s with toks := s.toks + 1 }) X k_sm (handed_on (by kernel_rfl) ?_)))
  have gt : Grow w Pure No G s G { s with toks := s.toks + 1 } := .toks W
  have cxt := cx.grow gt
  have cx' : Cx (n+2) (A.under (.builtin "type.__call__" ⟨.ref 190 :: [.bool a, .bool b, .bool c, .bool d], []⟩)) G { s with toks := s.toks + 1 } := ⟨rm_under cxt.rm ⟨by rw [depth_u]; omega, by rw [units_u]; omega, rfl, rfl⟩, cxt.fr⟩
  refine wpAny_bind (wpAny_holding (wpAny_call (codeAny_mono (fn_new (a := a) (b := b) (c := c) (d := d) _ G _ _ gt.wld (.cons (by unfold Rep; rfl) r) cx') fun r2 s2 h2 => ?_)))
  obtain ⟨G2, g2, v, rfl, rv⟩ := h2
  obtain ⟨x, ep, dx, rfl, h1, h2⟩ := rep_flg rv
  have W2 := g2.wld
  have X2 := top_heap W2
  have hx := W2.sub _ _ h1
  have LT : Looks (model prog w) s2.heap (typeOf (.ref x)) (.ref 190) := (Looks.ld (M := model prog w) (part := none) hx).andThen .now
  have Ls := looks_peek (prog := prog) X2 pk_self
  have Li := looks_peek (prog := prog) X2 pk_init
  have LS : Looks (model prog w) s2.heap (isInstance (.ref x) (.ref 190)) true := LT.andThen (f := fun t => isSubtype t (.ref 190)) Ls
  have LI : Looks (model prog w) s2.heap (specialOf (.ref x) "__init__") (some (.builtin "object.__init__")) := LT.andThen (f := fun t => typeLookup t "__init__") Li
  dsimp only
  refine wpAny_bind (LS.here ?_)
  rw [if_neg (by decide)]
  refine wpAny_bind (wpAny_holding (wpAny_bind (LI.here ?_)))
  dsimp only
  refine wpAny_holding (wpAny_bind ?_)
  rw [PySem.F.slot_tuple_init.bind]
  refine wpAny_pure (wpAny_bind (call_oinit W2 ⟨x, _, rfl, hx, rfl⟩ (wpAny_pure ?_)))
  dsimp only
  rw [if_neg (by decide)]
  exact wpAny_pure ⟨G2, gt.trans' g2, rv⟩
end
end Mine

namespace Mine
open PySem PySem.W PySem.Calls PyProof.Rows

section
variable {prog : Program} {w : World} {n m n' k : Nat} {env cenv : Env} {O : Option Addr} {Γ Γ' : Lcl} {ins outs : List PV} {e e' : End'} {a : Addr} {x : Str} {G G₀ : GH} {s s₀ : Shared} {A : Around} {ρ : Res w}

-- HeaderValidationFlags(..)
theorem k_keep : keepIn (topK w) (.ref 190) = true := by kernel_rfl
theorem g_flags : nsIn (topK w) mainGlobals "HeaderValidationFlags" = some (some (.ref 190)) := by kernel_rfl
theorem ev_flags {fp pos : Pos} {es : List Expr} {a b c d : Bool} (hk : env.kindOf "HeaderValidationFlags" = some .globalImplicit) (ha : EvArgs prog w (n+3) env Γ pos es [.bool a, .bool b, .bool c, .bool d])
    (hplain : (backTo pos (starEach es env)).any (·.1) = false := by rfl) : EvP prog w (n+3) env Γ (.Call (.Name "HeaderValidationFlags" fp) es [] pos) (.flg a b c d) := fun A O G s rm g => by
  refine wpAny_Call_ofName ((ev_global (n := n+3) (p := .oth (.ref 190)) hk g_flags (fun _ _ => by unfold Rep; rfl) (by decide +kernel)).use rm g fun u G1 s1 g1 gd1 q1 => ?_)
  unfold Rep at q1
  subst q1
  refine callWith_of (P := fun h => (topK w).In h) (by rw [hplain]; rfl) (fun h X => ?_) ((ha _).use rm gd1 fun a G2 s2 g2 gd2 q2 => ⟨top_heap gd2.wld, ?_⟩)
  · obtain ⟨k, hk, hl⟩ := looks_keep (M := model prog w) k_keep X
    exact ⟨k, hk.imp_right .inl, hl⟩
  rw [q2.1]
  exact (call_flags G2 s2 a.pos gd2.wld q2.2).use (gd2.cx rm) fun v G3 s3 g3 q3 => ⟨G3, (g1.trans' g2).trans' g3, q3⟩

-- names, under whatever is being handled
theorem wpA_name {x : Str} {pos : Pos} {p : PV} {Q : Value → Shared → Prop} {E : Value → Shared → Prop} (g : Good w A env O Γ G s) (h : Γ.vars.lookup x = some p) (k : ∀ v, Rep G p v → Q v s) (hd : (x == ("__debug__" : Str)) = false := by decide) : wpAny (model prog w) A (eval (.Name x pos) env) Q E s := by
  obtain ⟨m, hm, hv, _⟩ := g.vars
  obtain ⟨v, r, rp⟩ := hv x p h
  refine wpAny_Name ?_ hd
  rcases r with ⟨hl, hv⟩ | ⟨hk | hk, nc, c, o, hc, ho, hdt⟩
  · exact wpAny_loadName_local g.kind hl hm hv (k v rp)
  · exact wpAny_loadName_cell g.kind hk hc ⟨o, g.wld.sub _ _ ho, hdt⟩ (k v rp)
  · exact wpAny_loadName_free g.kind hk hc ⟨o, g.wld.sub _ _ ho, hdt⟩ (k v rp) nc
theorem wpA_global {x : Str} {pos : Pos} {v : Value} {Q : Value → Shared → Prop} {E : Value → Shared → Prop} (g : Good w A env O Γ G s) (hk : env.kindOf x = some .globalImplicit) (e : nsIn (topK w) mainGlobals x = some (some v)) (k : Q v s)
    (hd : (x == ("__debug__" : Str)) = false := by decide) : wpAny (model prog w) A (eval (.Name x pos) env) Q E s := by
  obtain ⟨g₀, b, hi⟩ := g.wld.base
  obtain ⟨_, _, mg, mb, T⟩ := b.T
  have kp : ∀ a o, g₀.get? a = some o → s.heap.get? a = some o := fun a o e => g.wld.sub _ _ (hi _ _ e)
  refine Name_function_global g.kind hk ?_ hd
  refine loadGlobal_global (mg := mg) (v := v) ?_ (mg_of b.K T.g e) k
  rw [g.globals]; exact T.g.keeps kp

/-- the names changed somehow -/
theorem good_ns {tk : Nat} {h' : Heap} {m' : Str → Option Value} (gd : Good w A env none Γ G s) (hm' : h'.Ns env.locals m') (hs : Heap.SameBut env.locals s.heap h') :
    Grow w (Wr env none) No G s G { s with heap := h', toks := tk } ∧ Good w A env none ⟨[], none⟩ G { s with heap := h', toks := tk } := by
  obtain ⟨oL', es', ep', hoL', hdL', _⟩ := id hm'
  have ne : ∀ a, a ≠ env.locals → h'.get? a = s.heap.get? a := fun a ha => hs.2 a ha
  have g : Grow w (Wr env none) No G s G { s with heap := h', toks := tk } := by
    refine ⟨⟨fun a o q => ?_, fun a o q nf nt => ?_, fun a o q d => ?_, Nat.le_refl _, fun _ _ q _ => q, rfl⟩, ⟨fun a o q => ?_, gd.wld.base, fun q hq => ?_, gd.wld.bare⟩, fun _ _ q => q, fun _ _ q => .inl q⟩
    · by_cases ha : a = env.locals
      · exact ⟨oL', by rw [ha]; exact hoL'⟩
      · exact ⟨o, (ne a ha).trans q⟩
    · exact ⟨o, (ne a fun r => nf (.inl r)).trans q, .refl o⟩
    · by_cases ha : a = env.locals
      · exact ⟨oL', by rw [ha]; exact hoL', es', ep', hdL'⟩
      · exact ⟨o, (ne a ha).trans q, d⟩
    · refine (ne a fun r => ?_).trans (gd.wld.sub a o q)
      rw [r, gd.fresh] at q; cases q
    · obtain ⟨h1, ps, h2, h3⟩ := gd.wld.tab q hq
      refine ⟨h1, ps, (ne _ fun r => gd.ntab ?_).trans h2, h3⟩
      rw [← r]
      simp only [tabs, List.mem_cons, List.not_mem_nil, or_false] at hq
      rcases hq with rfl | rfl | rfl <;> simp [isTab]
  obtain ⟨l, hfr, fr⟩ := gd.frames
  exact ⟨g, g.wld, ⟨l, hfr, fr.grow g⟩, gd.kind, gd.globals, gd.builtins, gd.fresh, gd.ntab, fun a ha => (by cases ha), _, hm', fun z q e => (by cases e), trivial⟩

theorem good_mark {h : Option Value} (gd : Good w A env O Γ G s) : Good w (A.mark h) env O Γ G s := ⟨gd.wld, gd.frames, gd.kind, gd.globals, gd.builtins, gd.fresh, gd.ntab, gd.oown, gd.vars⟩
theorem good_unmark {h : Option Value} (gd : Good w (A.mark h) env O Γ G s) : Good w A env O Γ G s := ⟨gd.wld, gd.frames, gd.kind, gd.globals, gd.builtins, gd.fresh, gd.ntab, gd.oown, gd.vars⟩

/-- a ProtocolError -/
noncomputable def IsPE (x : Value) (s : Shared) : Prop := ∃ e oe vs, x = .ref e ∧ s.heap.get? e = some oe ∧ oe.cls = .ref 58 ∧ oe.dict = none ∧ oe.data = .fields vs
theorem Err.pe {h₀ : Heap} {x : Value} {fl : Option Value} (h : Err G h₀ s x fl) : IsPE x s := by
  obtain ⟨e, oe, vs, a0, h1, h2, h3, h4, h5, h6, _⟩ := h
  exact ⟨e, oe, vs, h1, h4, h5.1, h5.2, h6⟩
theorem k_exm : exmOne (topK w) (.ref 58) (.ref 58) = some true := by kernel_rfl

/-- how try: .. except ProtocolError as y: .. ends -/
noncomputable def TryOut (o : Out) (r : PV) : Out := match o with | .err => .ret r | o => o
theorem exp_try {body : List Stmt} {tp : Pos} {y : Str} {b₀ : Stmt} {suite : List Stmt} {hp pos : Pos} {o : Out} {r : PV} (hk : env.kindOf "ProtocolError" = some .globalImplicit) (hy : env.kindOf y = some .local)
    (hb : ExP prog w n env none Γ (execs body env) o) (ho : o = .err ∨ ∃ p, o = .ret p)
    (hs : ∀ A' G s x, Good w A' env none ⟨[(y, .oth x)], none⟩ G s → IsPE x s → wpAny (model prog w) A' (execs (b₀ :: suite) env) (fun f s' => ∃ v G', f = .ret v ∧ Grow w Pure No G s G' s' ∧ Rep G' r v) (fun _ _ => False) s) :
    ExP prog w n env none Γ (exec (.Try body [.ExceptHandler (some (.Name "ProtocolError" tp)) (some y) (b₀ :: suite) hp] [] [] pos) env) (TryOut o r) := by
  intro A l G s rm hf hself gd
  refine wpAny_Try_except (wpAny_mono (hb A l G s rm hf hself gd) (fun f s1 ⟨G1, g1, q⟩ => ?_) fun x s1 ⟨e1, G1, fl, g1, gd1, e9, efl⟩ => ?_)
  · rcases ho with rfl | ⟨p, rfl⟩
    · exact q.elim
    · obtain ⟨v, rfl, rv, gd1⟩ := q
      exact ⟨G1, g1, v, rfl, rv, gd1⟩
  subst e1
  -- the error is there
  have t0 := gd.wld.tabd
  have al : Alive s.heap s1 := g1.ext.live
  obtain ⟨l', hf', fr⟩ := gd1.frames
  rw [hf] at hf'
  cases hf'
  have step2 : ∀ s2, EStep w s.heap G1 s1 s2 → Err G1 s.heap s2 x (some (rawInt env.locals)) → wpAny (model prog w) A (setFlight x none) (fun _ s₃ => wpAny (model prog w) A (handleBy x env [.ExceptHandler (some (.Name "ProtocolError" tp)) (some y) (b₀ :: suite) hp]) (fun fl s' => ∃ G', Grow w (Wr env none) No G s G' s' ∧ OutOk w A env none (TryOut .err r) fl G' s') (fun x s' => TryOut .err r = .err ∧ ∃ G' fl, Grow w (Wr env none) No G s G' s' ∧ Good w A env none ⟨[], none⟩ G' s' ∧ Err G' s.heap s' x fl ∧ ErrFl env fl) s₃)
      (fun x s' => TryOut .err r = .err ∧ ∃ G' fl, Grow w (Wr env none) No G s G' s' ∧ Good w A env none ⟨[], none⟩ G' s' ∧ Err G' s.heap s' x fl ∧ ErrFl env fl) s2 := by
    intro s2 st2 e2
    have gd2 := gd1.estep st2
    refine err_flight (fr := none) gd2.wld t0 e2 fun h3 st3 e3 => ?_
    have gd3 := gd2.estep st3
    have g3 := EStep.grow st3 (EStep.grow st2 g1)
    generalize ({ s2 with heap := h3 } : Shared) = s3 at e3 gd3 g3
    obtain ⟨e, oe, vs, hx, heo, hec, hed, hev⟩ := e3.pe
    subst hx
    have LT : Looks (model prog w) s3.heap (typeOf (.ref e)) (.ref 58) := hec ▸ (Looks.ld (M := model prog w) (part := none) heo).andThen .now
    refine wpAny_handleBy_cons (codeAny_handlers_test (wpA_global (good_mark gd3) hk pe_name ((exm_one (top_heap gd3.wld) LT k_exm).here ?_) (by decide +kernel))) (by intro q; cases q)
    refine codeAny_handlers_suite_as (err_flight (fr := none) gd3.wld t0 e3 fun h4 st4 e4 => ?_)
    have gd4 := gd3.estep st4
    have g4 := EStep.grow st4 g3
    generalize ({ s3 with heap := h4 } : Shared) = s4 at e4 gd4 g4
    refine wpAny_store_good (good_mark gd4) hy (p := .oth (.ref e)) (by unfold Rep; rfl) (fun z d q => by cases q) fun s5 g5 gd5 => ?_
    have pe5 : IsPE (.ref e) s5 := by
      obtain ⟨e', oe', vs', q1, q2, q3, q4, q5⟩ := e4.pe
      cases q1
      have nL : ¬ Wr env none e := fun h => h.elim (fun h => by
        obtain ⟨m, ⟨o, es, ep, ho, hdd, _⟩, _⟩ := gd4.vars
        rw [← h, q2] at ho; cases ho; rw [q5] at hdd; cases hdd) fun h => by cases h
      have nt : ¬ isTab e := fun h => by
        obtain ⟨o, ho⟩ := t0 e h
        obtain ⟨e'', _, _, _, k1, k2, _⟩ := e4
        cases k1; rw [ho] at k2; cases k2
      obtain ⟨o2, k1, sm⟩ := g5.ext.old e _ q2 nL nt
      rw [sm.eq_of_not (not_isD q5)] at k1
      exact ⟨e, _, vs', rfl, k1, q3, q4, q5⟩
    refine wpAny_mono (hs (A.mark (some (.ref e))) G1 s5 (.ref e) gd5 pe5) (fun f s6 ⟨v, G6, hfv, g6, rv⟩ => ?_) fun _ _ q => q.elim
    subst hfv
    have gd6 := good_unmark ((gd5.pur g6).toE)
    obtain ⟨m, hm, _⟩ := gd6.vars
    refine wpAny_nameGoes hy hm (by rw [gd6.kind]; rfl) fun h7 m7 hm7 hs7 => ?_
    obtain ⟨g7, gd7⟩ := good_ns (tk := s6.toks + 1) gd6 hm7 hs7
    exact ⟨G6, ((g4.trans' g5).trans' g6.pur).trans' g7, v, rfl, rv, gd7⟩
  rcases efl with h | h | h
  · subst h
    exact err_note gd1.wld t0 al hf fr hself e9 (.inl rfl) fun h2 st2 e2 => step2 _ st2 e2
  · subst h
    exact err_note gd1.wld t0 al hf fr hself e9 (.inr rfl) fun h2 st2 e2 => step2 _ st2 e2
  · subst h
    exact err_note_again hself e9 (step2 _ (.refl gd1.wld) e9)
end
end Mine

namespace Mine
open PySem PySem.W PySem.Calls PyProof.Rows PySem.Builtin.ObjectAttr

noncomputable def letP (r : HE) : PV := match r.2 with
  | .done => .tup [.str "let", .lst (r.1.map Hd.pv)]
  | .err => .tup [.str "refused", .int 1]

section
variable {prog : Program} {w : World} {n m n' k : Nat} {env cenv : Env} {O : Option Addr} {Γ Γ' : Lcl} {ins outs : List PV} {e e' : End'} {a : Addr} {x : Str} {G G₀ : GH} {s s₀ : Shared} {A : Around} {ρ : Res w}

theorem out_tup2 {e1 e2 : Expr} {k : Nat} {pos : Pos} {p q : PV} (h1 : EvP prog w n env Γ e1 p) (h2 : CallOut prog w n env Γ e2 (EndOut e' q)) (hs : starEach [e1, e2] env = [(false, eval e1 env), (false, eval e2 env)] := by rfl) :
    CallOut prog w n env Γ (.Tuple [e1, e2] k pos) (EndOut e' (.tup [p, q])) := fun A O G s rm g => by
  refine wpAny_Tuple ?_
  rw [hs]
  show wpAny _ A (spliced [(false, eval e1 env), (false, eval e2 env)]) _ _ s
  refine spliced_cons (h1.use rm g fun u G1 s1 g1 gd1 q1 => spliced_cons (wpAny_mono (h2 A O G1 s1 rm gd1) (fun v s2 ⟨G2, g2, q2⟩ => spliced_nil ⟨by simp [sizeLine], ?_⟩) fun x s2 ⟨e1, G2, g2, e9⟩ => ?_))
  · cases e' with
    | err => exact q2.elim
    | done =>
      have g3 := Grow.push (F := Pure) (K := No) (tk := s2.toks) g2.wld (o := { cls := .type "tuple", data := .seq [u, v].toArray }) rfl
      exact ⟨_, (g1.trans' g2).trans' g3, mk_tup GH.add_self (.cons (q1.mono (fun a o h => g3.sub _ _ (g2.sub _ _ h))) (.cons (q2.mono g3.sub) .nil))⟩
  · cases e' with
    | done => cases e1
    | err => exact ⟨rfl, G2, g1.trans' g2, e9.start g1.ext.live⟩
theorem exp_retout {e : Expr} {pos : Pos} {p : PV} (h : CallOut prog w n env Γ e (EndOut e' p)) : ExP prog w n env none Γ (exec (.Return (some e) pos) env) (EndOut e' p) := by
  intro A l G s rm hf hself gd
  refine wpAny_Return_some (wpAny_mono (h A none G s rm gd) (fun v s1 ⟨G1, g1, q⟩ => ?_) fun x s1 ⟨e1, G1, g1, e9⟩ => ?_)
  · cases e' with
    | err => exact q.elim
    | done => exact ⟨G1, g1.pur, v, rfl, q, (gd.pur g1).toE.forget⟩
  · exact ⟨e1, G1, some .none, g1.pur, (gd.pur g1).toE, e9, .inr (.inl rfl)⟩

theorem k_gaPE : findIn (topK w) (.ref 58) "__getattribute__" = some (some (.builtin "BaseException.__getattribute__")) := by kernel_rfl
theorem k_hkPE : findIn (topK w) (.ref 58) "__getattr__" = some none := by kernel_rfl
theorem k_subPE : subIn (topK w) (.ref 58) (.type "BaseException") = some true := by kernel_rfl
theorem bk_ga : builtinKind "BaseException.__getattribute__" = some .slot := by decide +kernel
theorem sp_ga : splitId "BaseException.__getattribute__" = some ("BaseException", "__getattribute__") := by decide +kernel
theorem plain_ga : plainId "BaseException.__getattribute__" = true := by decide +kernel
theorem bind_ga (self : Value) : bindSpecial (.builtin "BaseException.__getattribute__") self = pure (.builtin "BaseException.__getattribute__", [self]) := by
  have hop : withoutEnding? "BaseException.__getattribute__" "#opaque" = none := by decide +kernel
  have hdat : withoutEnding? "BaseException.__getattribute__" "#data" = none := by decide +kernel
  simp only [bindSpecial, typeOf, builtinType, hop, hdat, bk_ga]; rfl
/-- an attribute of the class, read from a ProtocolError -/
theorem get_pe {xa : Addr} {ox : Obj} {name : Str} {v : Value} {expr : Bool} {Q : Value → Shared → Prop} {E : Value → Shared → Prop} (X : (topK w).In s.heap) (I : InstAt s.heap xa ox 58 none) (hf : findObj (topK w) 58 none name = some (.value v)) (hh : handedIn v = true)
    (h : Q v { s with toks := s.toks + 1 }) : wpAny (model prog w) A (getAttr (.ref xa) name expr) Q E s := by
  obtain ⟨hp, g, d, tk, os⟩ := s
  have L0 := I.type (M := model prog w)
  have L1 := looks_findIn (M := model prog w) X k_gaPE
  have L2 : Looks (model prog w) hp (hookBefore (.ref 58)) none := looks_hook X (by rw [k_hkPE]; rfl)
  have L3 := looks_subIn (M := model prog w) X k_subPE
  have LS : Looks (model prog w) hp (isInstance (.ref xa) (.type "BaseException")) true := L0.andThen (f := fun t => isSubtype t (.type "BaseException")) L3
  have L4 := looks_find (M := model prog w) X I hf
  unfold getAttr getAttrBy
  refine wpAny_bind (wpAny_mkText (wpAny_holding (wpAny_bind (L0.at (wpAny_bind (L1.at ?_))))))
  dsimp only
  rw [show (onTheHeap (Value.ref 58) && Value.builtin "BaseException.__getattribute__" == Value.builtin "object.__getattribute__") = false from by rw [show (Value.builtin "BaseException.__getattribute__" == Value.builtin "object.__getattribute__") = false from by decide +kernel, Bool.and_false], if_neg Bool.false_ne_true]
  unfold getAttrByItsOwn
  refine wpAny_bind (L2.at (wpAny_bind (wpAny_attempt (wpAny_holding ?_))))
  unfold callGetattribute
  rw [show (expr && onTheHeap (Value.builtin "BaseException.__getattribute__")) = false from Bool.and_false _, if_neg Bool.false_ne_true]
  unfold boundAndCalled
  rw [bind_ga]
  refine wpAny_bind (wpAny_pure ?_)
  show wpAny _ _ (call (.builtin "BaseException.__getattribute__") [.ref xa, .str name tk]) _ _ _
  refine wpAny_call (codeAny_call_builtin plain_ga PySem.F.entry_bexc_ga ?_)
  refine check_slot (i := "BaseException.__getattribute__") (owner := "BaseException") (n := "__getattribute__") (self := .ref xa) (rest := [.str name tk]) (kw := []) bk_ga sp_ga LS (PySem.F.args_bexc_ga _ _) ?_
  show wpAny _ _ (Builtin.«object.__getattribute__» ⟨[.ref xa, .str name tk], []⟩) _ _ _
  unfold Builtin.«object.__getattribute__»
  refine wpAny_bind (m := slotArgs _ _ _) (wpAny_pure ?_)
  dsimp only
  refine wpAny_bind (m := attrName _) (wpAny_pure ?_)
  refine wpAny_bind (L0.at (wpAny_bind (L4.at ?_)))
  dsimp only
  refine wpAny_pure ?_
  show wpAny _ _ (handedOut v) _ _ _
  rw [handedOut_of hh]
  exact wpAny_pure h
theorem k_ec : findObj (topK w) 58 none "error_code" = some (.value (.int 1 (tokF (findObj (topK w) 58 none "error_code")))) := by kernel_rfl

theorem handler_ok {x : Value} {p1 p2 p3 p4 p5 : Pos} {k1 k2 : Nat} (gd : Good w A env none ⟨[("error", .oth x)], none⟩ G s) (pe : IsPE x s) :
    wpAny (model prog w) A (execs [.Return (some (.Tuple [.Constant (.str "refused") k1 p1, .Attribute (.Name "error" p2) "error_code" p3] k2 p4)) p5] env) (fun f s' => ∃ v G', f = .ret v ∧ Grow w Pure No G s G' s' ∧ Rep G' (.tup [.str "refused", .int 1]) v) (fun _ _ => False) s := by
  refine wpAny_execs_cons (wpAny_Return_some (wpAny_Tuple ?_))
  show wpAny _ A (spliced [(false, eval (.Constant (.str "refused") k1 p1) env), (false, eval (.Attribute (.Name "error" p2) "error_code" p3) env)]) _ _ s
  refine spliced_cons (wpAny_Constant_str (spliced_cons ?_))
  have g1 : Grow w Pure No G s G { s with toks := s.toks + 1 } := .toks gd.wld
  have gd1 := gd.pur g1
  refine Attribute_name (wpA_name gd1 (p := .oth x) (by rfl) (fun v rv => ?_) (by decide +kernel))
  unfold Rep at rv
  subst rv
  obtain ⟨e, oe, vs, rfl, heo, hec, hed, hev⟩ := pe
  have I : InstAt ({ s with toks := s.toks + 1 } : Shared).heap e oe 58 none := ⟨heo, hec, by unfold notCls; rw [hev], by rw [hed]; trivial⟩
  refine get_pe (top_heap gd1.wld) I k_ec (by rfl) ?_
  refine spliced_nil ⟨by simp [sizeLine], ?_⟩
  have g2 : Grow w Pure No G { s with toks := s.toks + 1 } G { s with toks := s.toks + 1 + 1 } := .toks gd1.wld
  have g3 := Grow.push (F := Pure) (K := No) (tk := s.toks + 1 + 1) g2.wld (o := { cls := .type "tuple", data := .seq [Value.str "refused" s.toks, Value.int 1 (tokF (findObj (topK w) 58 none "error_code"))].toArray }) rfl
  exact ⟨_, _, rfl, (g1.trans' g2).trans' g3, mk_tup GH.add_self (.cons (by unfold Rep; exact ⟨_, rfl⟩) (.cons mk_int .nil))⟩

theorem Sub.pathIf {tr rs} {r : HE} {hs} (h : Sub r hs) : Sub (vPathIf tr rs r) hs := by
  unfold vPathIf
  split
  · exact h
  · exact h.s fPath_mem
theorem valOut_sub {tr rs : Bool} {hs : List Hd} : Sub (valOut tr rs hs) hs := (((Sub.refl (e := .done)).s fTe_mem).s fNoConn_mem).pseudo.hostIf.pathIf
theorem valIn_sub {tr rs : Bool} {hs : List Hd} : Sub (valIn tr rs hs) hs := ((((Sub.refl (e := .done)).s fEmpty_mem).s fTe_mem).s fNoConn_mem).pseudo.hostIf.pathIf
/-- _law_let -/
theorem fn_let {hs : List Hd} {a1 tr rs d out : Bool} (hsm : ∀ h ∈ hs, SmH h) (hok : out = false → ∀ h ∈ hs, ChOk h) (hne : ∀ h ∈ hs, h.1.size ≠ 0) (hlen : hs.length ≤ 1000) :
    Fn prog w (k + 23) 414 [.lst (hs.map Hd.pv), .flg a1 tr rs d, .bool out] (.ret (letP (if out then valOut tr rs hs else valIn tr rs hs))) := by
  refine fn_of' (names := ["block", "flags", "out"]) (by kernel_rfl) (by kernel_rfl) (by kernel_rfl) (by kernel_rfl) (by kernel_rfl) rfl (fun vs hv => ?_) fun env ok => ?_
  · obtain ⟨x, y, z, rfl⟩ := vs3 hv
    kernel_rfl
  conv in bodyOf w 414 => whnf
  have ke := ok.k "error" .local (by kernel_rfl)
  have kp := ok.k "ProtocolError" .globalImplicit (by kernel_rfl)
  have kl := ok.k "list" .globalImplicit (by kernel_rfl)
  have ko := ok.k "validate_outbound_headers" .globalImplicit (by kernel_rfl)
  have ki := ok.k "validate_headers" .globalImplicit (by kernel_rfl)
  have hbl : ∀ {p1 p2 p3 : Pos}, EvP prog w (k+23) env ⟨(["block", "flags", "out"] : List Str).zip [.lst (hs.map Hd.pv), .flg a1 tr rs d, .bool out], none⟩ (.Call (.Name "list" p1) [.Name "block" p2] [] p3) (.lst (hs.map Hd.pv)) :=
    ev_list_of kl (ev_name (by rfl)) (by rw [List.length_map]; omega)
  have key : ∀ {r : HE} {t : PV}, r = (if out then valOut tr rs hs else valIn tr rs hs) → TryOut (EndOut r.2 (.tup [.str "let", .lst (r.1.map Hd.pv)])) (.tup [.str "refused", .int 1]) = .ret (letP r) := fun {r t} _ => by
    obtain ⟨l, e⟩ := r
    cases e <;> rfl
  have hlen2 : ((if out then valOut tr rs hs else valIn tr rs hs).1.map Hd.pv).length ≤ 1000000 := by
    rw [List.length_map]
    have h1 : Sub (if out then valOut tr rs hs else valIn tr rs hs) hs := by
      cases out with
      | true => exact valOut_sub
      | false => exact valIn_sub
    exact Nat.le_trans h1.2 (by omega)
  refine exp_cons1 ?_
  rw [← key (t := .none) rfl]
  refine exp_try kp ke (exp_cons1 (exp_retout (out_tup2 ev_str (out_list_gen (n' := 20) (k := k + 20) kl (evg0_if (b := out) (evt_value (p := .bool out) (ev_name (by rfl)) tr_bool) (fun hb => ?_) (fun hb => ?_)) (by omega) hlen2)))) ?_ (fun A' G s x gd pe => handler_ok gd pe)
  · subst hb
    exact evg0_call (n := 0) (fn_global ko (by kernel_rfl) (by decide +kernel)) (by kernel_rfl) (args_cons (evl_cons hbl (evl_cons (ev_name (by rfl)) evl_nil))) ((fn_val_out hsm hne hlen).le (by omega))
  · subst hb
    exact evg0_call (n := 0) (fn_global ki (by kernel_rfl) (by decide +kernel)) (by kernel_rfl) (args_cons (evl_cons hbl (evl_cons (ev_name (by rfl)) evl_nil))) ((fn_val_in hsm (hok rfl) hne hlen).le (by omega))
  · generalize (if out then valOut tr rs hs else valIn tr rs hs) = r
    obtain ⟨l, e⟩ := r
    cases e
    · exact .inr ⟨_, rfl⟩
    · exact .inl rfl
end
end Mine

namespace Mine
open PySem PySem.W PySem.Builtin PyProof.Rows

-- splitting, the plain law
noncomputable def atSep (v : B) (i : Nat) : Bool := v.extract i (i + 2) == bSep
noncomputable def occStep (v : B) (acc : List Nat × Nat) (i : Nat) : List Nat × Nat := if i ≥ acc.2 && atSep v i then (i :: acc.1, i + 2) else acc
theorem extract_eq (b : B) (i j : Nat) : b.extract i j = ((b.toList.drop i).take (j - i)).toArray := by
  apply Array.ext'
  simp [List.extract_eq_take_drop]
theorem sliceB_eq (b : B) (i j : Nat) : sliceB b i j = b.extract i j := by
  rw [extract_eq]
  unfold sliceB
  rw [clip_nat, clip_nat]
  congr 1
  have hl : b.toList.length = b.size := Array.length_toList
  by_cases h : i ≤ b.size
  · rw [Nat.min_eq_left h]
    by_cases h2 : j ≤ b.size
    · rw [Nat.min_eq_left h2]
    · rw [Nat.min_eq_right (by omega), List.take_of_length_le (by simp), List.take_of_length_le (by simp; omega)]
  · rw [Nat.min_eq_right (show b.size ≤ i by omega), List.drop_of_length_le (by omega), List.drop_of_length_le (by omega)]
    simp
theorem atSep_slice (v : B) (i : Nat) : (sliceB v i (i + 2) == bSep) = atSep v i := by rw [sliceB_eq]; rfl
theorem atSep_lt {v : B} {i : Nat} (h : atSep v i = true) : i + 2 ≤ v.size := by
  unfold atSep at h
  have h1 : v.extract i (i + 2) = bSep := by simpa using h
  have h2 := congrArg Array.size h1
  rw [Array.size_extract] at h2
  have h3 : bSep.size = 2 := rfl
  omega
theorem extract_none (v : B) {i j : Nat} (h : j ≤ i) : v.extract i j = #[] := by
  rw [extract_eq, show j - i = 0 from by omega, List.take_zero]
theorem extract_app (v : B) {i j k : Nat} (h1 : i ≤ j) (h2 : j ≤ k) : v.extract i j ++ v.extract j k = v.extract i k := by
  rw [Array.extract_append_extract, Nat.min_eq_left h1, Nat.max_eq_right h2]

/-- the pieces before the places -/
noncomputable def parts (v : B) (l : List Nat) : Array B × Nat := l.foldl (fun (ps, last) p => (ps.push (v.extract last p), p + 2)) (#[], 0)
theorem parts_snoc (v : B) (l : List Nat) (p : Nat) : parts v (l ++ [p]) = ((parts v l).1.push (v.extract (parts v l).2 p), p + 2) := by
  unfold parts; rw [List.foldl_append]; rfl
theorem between_parts (v : B) (l : List Nat) : Bytes.between v 2 l = ((parts v l).1.push (v.extract (parts v l).2 v.size)).toList := rfl

structure Sync (v : B) (k : Nat) (a : List Nat × Nat) (σ : List B × Bool) : Prop where
  last : (parts v a.1.reverse).2 = a.2
  le : a.2 ≤ k + 1
  skip : σ.2 = decide (a.2 = k + 1)
  ps : σ.1 = (parts v a.1.reverse).1.toList ++ [v.extract a.2 k]
  len : a.1.length ≤ k

theorem sync_step {v : B} {k : Nat} {a : List Nat × Nat} {σ : List B × Bool} (h : Sync v k a σ) : Sync v (k+1) (occStep v a k) (stepP v σ k) := by
  obtain ⟨h1, h2, h3, h4, h5⟩ := h
  unfold stepP occStep
  by_cases hs : a.2 = k + 1
  · rw [h3, decide_eq_true hs, if_pos rfl]
    have : ¬ (k ≥ a.2) := by omega
    rw [decide_eq_false this, Bool.false_and, if_neg Bool.false_ne_true]
    refine ⟨h1, by omega, by simp; omega, ?_, by omega⟩
    show σ.1 = _
    rw [h4, extract_none v (by omega), extract_none v (by omega)]
  · rw [h3, decide_eq_false hs, if_neg Bool.false_ne_true, atSep_slice]
    have hk : k ≥ a.2 := by omega
    rw [decide_eq_true hk, Bool.true_and]
    cases hc : atSep v k with
    | true =>
      rw [if_pos rfl, if_pos rfl]
      have e : parts v (k :: a.1).reverse = ((parts v a.1.reverse).1.push (v.extract a.2 k), k + 2) := by rw [List.reverse_cons, parts_snoc, h1]
      refine ⟨by show (parts v (k :: a.1).reverse).2 = k + 2; rw [e], by show k + 2 ≤ _; omega, by show true = _; simp, ?_, by show (k :: a.1).length ≤ _; simp; omega⟩
      show σ.1 ++ [#[]] = (parts v (k :: a.1).reverse).1.toList ++ [v.extract (k+2) (k+1)]
      rw [e, extract_none v (i := k + 2) (j := k + 1) (by omega), h4]
      simp only [Array.toList_push]
    | false =>
      rw [if_neg Bool.false_ne_true, if_neg Bool.false_ne_true]
      refine ⟨h1, by show a.2 ≤ _; omega, by show false = _; simp; omega, ?_, by omega⟩
      show σ.1.set (σ.1.length - 1) _ = _
      rw [sliceB_eq, h4, List.length_append, List.length_singleton, Nat.add_sub_cancel, List.getElem?_append_right (Nat.le_refl _), Nat.sub_self]
      rw [List.set_append_right _ _ (Nat.le_refl _), Nat.sub_self]
      show _ ++ [v.extract a.2 k ++ v.extract k (k+1)] = _
      rw [extract_app v (by omega) (by omega)]

theorem sync_run {v : B} : ∀ {m k : Nat} {a : List Nat × Nat} {σ : List B × Bool}, Sync v k a σ → Sync v (k + m) ((List.range' k m).foldl (occStep v) a) ((List.range' k m).foldl (stepP v) σ)
  | 0, k, a, σ, h => h
  | m+1, k, a, σ, h => by
    rw [List.range'_succ, List.foldl_cons, List.foldl_cons, show k + (m + 1) = k + 1 + m from by omega]
    exact sync_run (sync_step h)
theorem sync_start (v : B) : Sync v 0 ([], 0) ([#[]], false) := ⟨rfl, by omega, by simp, by simp [parts], by simp⟩

theorem occ_eq (v : B) : Bytes.occurrences v bSep 0 v.size = ((List.range' 0 v.size).foldl (occStep v) ([], 0)).1.reverse := by
  have e1 : Bytes.occurrences v bSep 0 v.size = (((List.range (v.size + 1 - (0 + bSep.size))).map (· + 0)).foldl (occStep v) ([], 0)).1.reverse := rfl
  rw [e1]
  have hb : bSep.size = 2 := rfl
  simp only [Nat.add_zero, List.map_id', Nat.zero_add, hb]
  cases hn : v.size with
  | zero => rfl
  | succ m =>
    rw [show m + 1 + 1 - 2 = m from by omega, List.range'_1_concat, List.foldl_append, ← List.range_eq_range', Nat.zero_add]
    generalize (List.range m).foldl (occStep v) ([], 0) = a
    have : atSep v m = false := by
      cases h : atSep v m with
      | false => rfl
      | true => have := atSep_lt h; omega
    show a.1.reverse = (occStep v a m).1.reverse
    unfold occStep
    rw [this, Bool.and_false, if_neg Bool.false_ne_true]

/-- the two ways to split are one -/
theorem split_pieces (v : B) : splitB v bSep = piecesP v := by
  have h := sync_run (m := v.size) (sync_start v)
  rw [Nat.zero_add] at h
  have e := occ_eq v
  unfold splitB piecesP
  rw [e]
  generalize (List.range' 0 v.size).foldl (occStep v) ([], 0) = a at h ⊢
  generalize (List.range' 0 v.size).foldl (stepP v) ([#[]], false) = σ at h ⊢
  obtain ⟨h1, h2, h3, h4, h5⟩ := h
  rw [List.take_of_length_le (by rw [List.length_reverse]; omega), h4]
  cases hr : a.1.reverse with
  | nil =>
    rw [hr] at h1
    have : a.2 = 0 := by rw [← h1]; rfl
    rw [this]
    simp [parts]
  | cons p l =>
    rw [← hr, show (a.1.reverse).isEmpty = false from by rw [hr]; rfl, if_neg Bool.false_ne_true, show bSep.size = 2 from rfl, between_parts, h1]
    simp
end Mine

namespace Mine
open PySem PySem.W PySem.Builtin PyProof.Rows

-- joining
theorem wholeP_snoc {l : List B} (h : l ≠ []) (x : B) : wholeP (l ++ [x]) = wholeP l ++ bSep ++ x := by
  cases l with
  | nil => exact absurd rfl h
  | cons c cs => show (cs ++ [x]).foldl _ c = _; rw [List.foldl_append]; rfl
theorem joined_from (l : List B) : ∀ (k : Nat) (w : B), 0 < k → (l.zipIdx k).foldl (fun out (x : B × Nat) => (if x.2 > 0 then out ++ bSep else out) ++ x.1) w = l.foldl (fun w v => w ++ bSep ++ v) w := by
  induction l with
  | nil => intro k w h; rfl
  | cons c cs ih =>
    intro k w h
    rw [List.zipIdx_cons, List.foldl_cons, List.foldl_cons, ih _ _ (by omega), if_pos h]
theorem joined_whole (l : List B) : Bytes.joined bSep l = wholeP l := by
  cases l with
  | nil => rfl
  | cons c cs =>
    show ((c :: cs).zipIdx 0).foldl (fun out (x : B × Nat) => (if x.2 > 0 then out ++ bSep else out) ++ x.1) #[] = _
    rw [List.zipIdx_cons, List.foldl_cons, joined_from _ _ _ (by omega)]
    show cs.foldl _ ((if (0 : Nat) > 0 then #[] ++ bSep else #[]) ++ c) = _
    rw [if_neg (by omega), Array.empty_append]; rfl

theorem set_last {l : List B} {b x : B} (h : l ≠ []) : wholeP (l.set (l.length - 1) ((l[l.length - 1]?).getD #[] ++ x)) = wholeP l ++ x := by
  have e := List.dropLast_concat_getLast h
  generalize l.dropLast = i at e
  generalize l.getLast h = t at e
  subst e
  rw [List.length_append, List.length_singleton, Nat.add_sub_cancel, List.getElem?_append_right (Nat.le_refl _), Nat.sub_self, List.set_append_right _ _ (Nat.le_refl _), Nat.sub_self]
  show wholeP (i ++ [t ++ x]) = wholeP (i ++ [t]) ++ x
  cases i with
  | nil => rfl
  | cons c cs => rw [wholeP_snoc (by simp), wholeP_snoc (by simp), Array.append_assoc, Array.append_assoc, Array.append_assoc]

theorem extract_all {v : B} {n : Nat} (h : v.size ≤ n) : v.extract 0 n = v := by
  apply Array.ext'
  rw [extract_eq, List.drop_zero, Nat.sub_zero, List.take_of_length_le (by rw [Array.length_toList]; exact h)]
structure JoinI (v : B) (k : Nat) (σ : List B × Bool) : Prop where
  ne : σ.1 ≠ []
  wh : wholeP σ.1 = v.extract 0 (if σ.2 then k + 1 else k)
theorem sep_extract {v : B} {k : Nat} (h : atSep v k = true) : v.extract k (k + 2) = bSep := by unfold atSep at h; simpa using h
theorem join_step {v : B} {k : Nat} {σ : List B × Bool} (h : JoinI v k σ) : JoinI v (k+1) (stepP v σ k) := by
  obtain ⟨h1, h2⟩ := h
  unfold stepP
  cases hs : σ.2 with
  | true =>
    rw [hs, if_pos rfl] at h2
    rw [if_pos rfl]
    exact ⟨h1, by show wholeP σ.1 = _; rw [h2]; rfl⟩
  | false =>
    rw [hs, if_neg Bool.false_ne_true] at h2
    rw [if_neg Bool.false_ne_true, atSep_slice]
    cases hc : atSep v k with
    | true =>
      rw [if_pos rfl]
      refine ⟨by simp, ?_⟩
      show wholeP (σ.1 ++ [#[]]) = v.extract 0 (k + 1 + 1)
      rw [wholeP_snoc h1, h2, Array.append_empty, ← sep_extract hc, extract_app v (by omega) (by omega)]
    | false =>
      rw [if_neg Bool.false_ne_true]
      refine ⟨fun q => h1 ?_, ?_⟩
      · have := congrArg List.length q
        simp only [List.length_set, List.length_nil] at this
        exact List.eq_nil_of_length_eq_zero this
      · show wholeP (σ.1.set _ _) = v.extract 0 (k + 1)
        rw [set_last (b := #[]) h1, h2, sliceB_eq, extract_app v (by omega) (by omega)]
theorem join_run {v : B} : ∀ {m k : Nat} {σ : List B × Bool}, JoinI v k σ → JoinI v (k + m) ((List.range' k m).foldl (stepP v) σ)
  | 0, k, σ, h => h
  | m+1, k, σ, h => by
    rw [List.range'_succ, List.foldl_cons, show k + (m + 1) = k + 1 + m from by omega]
    exact join_run (join_step h)
/-- the pieces, joined again -/
theorem join_pieces (v : B) : wholeP (piecesP v) = v := by
  have h := join_run (v := v) (m := v.size) (k := 0) (σ := ([#[]], false)) ⟨by simp, by rw [if_neg Bool.false_ne_true, extract_none v (by omega)]; rfl⟩
  rw [Nat.zero_add] at h
  have := h.wh
  unfold piecesP
  rw [this]
  split
  · exact extract_all (by omega)
  · exact extract_all (Nat.le_refl _)

-- no separator inside
noncomputable def noSep (v : B) : Prop := ∀ i, atSep v i = false
theorem atSep_iff {v : B} {i : Nat} : atSep v i = true ↔ (v.toList.drop i).take 2 = [59, 32] := by
  unfold atSep
  rw [extract_eq, show i + 2 - i = 2 from by omega]
  constructor
  · intro h
    have : ((v.toList.drop i).take 2).toArray = bSep := by simpa using h
    have := congrArg Array.toList this
    simpa [bSep] using this
  · intro h
    rw [h]; rfl
theorem noSep_step {v : B} {k : Nat} {l : List B} (h : noSep v) : (List.range' 0 k).foldl (stepP v) ([#[]], false) = ([v.extract 0 k], false) := by
  induction k with
  | zero => rw [extract_none v (by omega)]; rfl
  | succ m ih =>
    rw [List.range'_1_concat, List.foldl_append, ih, Nat.zero_add]
    show stepP v ([v.extract 0 m], false) m = _
    unfold stepP
    rw [if_neg Bool.false_ne_true, atSep_slice, h m, if_neg Bool.false_ne_true, sliceB_eq]
    show ([v.extract 0 m ++ v.extract m (m+1)], false) = _
    rw [extract_app v (by omega) (by omega)]
theorem pieces_noSep {v : B} (h : noSep v) : piecesP v = [v] := by
  unfold piecesP
  rw [noSep_step (l := []) h]
  show [v.extract 0 v.size] = [v]
  rw [extract_all (Nat.le_refl _)]
theorem take2_take {L : List UInt8} {n j : Nat} (h : ((L.take n).drop j).take 2 = [59, 32]) : (L.drop j).take 2 = [59, 32] ∧ j + 2 ≤ n := by
  rw [List.drop_take, List.take_take] at h
  have hl := congrArg List.length h
  simp only [List.length_take, List.length_drop, List.length_cons, List.length_nil] at hl
  have : min 2 (n - j) = 2 := by omega
  rw [this] at h
  exact ⟨h, by omega⟩
theorem noSep_extract {v : B} {l p : Nat} (h : ∀ i, l ≤ i → i < p → atSep v i = false) : noSep (v.extract l p) := by
  intro j
  cases hc : atSep (v.extract l p) j with
  | false => rfl
  | true =>
    rw [atSep_iff, extract_eq] at hc
    obtain ⟨h1, h2⟩ := take2_take (L := v.toList.drop l) hc
    rw [List.drop_drop] at h1
    have := h (l + j) (by omega) (by omega)
    rw [atSep_iff.mpr h1] at this
    cases this
theorem extract_sub (v : B) (l p : Nat) : ∀ c ∈ (v.extract l p).toList, c ∈ v.toList := fun c hc => by
  rw [extract_eq] at hc
  exact List.mem_of_mem_drop (List.mem_of_mem_take hc)
structure NoI (v : B) (k : Nat) (a : List Nat × Nat) : Prop where
  last : (parts v a.1.reverse).2 = a.2
  ps : ∀ b ∈ (parts v a.1.reverse).1.toList, noSep b ∧ ∀ c ∈ b.toList, c ∈ v.toList
  cur : ∀ i, a.2 ≤ i → i < k → atSep v i = false
theorem no_step {v : B} {k : Nat} {a : List Nat × Nat} (h : NoI v k a) : NoI v (k+1) (occStep v a k) := by
  obtain ⟨h1, h2, h3⟩ := h
  unfold occStep
  cases hc : (decide (k ≥ a.2) && atSep v k) with
  | true =>
    rw [if_pos rfl]
    have e : parts v (k :: a.1).reverse = ((parts v a.1.reverse).1.push (v.extract a.2 k), k + 2) := by rw [List.reverse_cons, parts_snoc, h1]
    refine ⟨by show (parts v (k :: a.1).reverse).2 = _; rw [e], fun b hb => ?_, fun i hi hk => ?_⟩
    · have hb : b ∈ (parts v (k :: a.1).reverse).1.toList := hb
      rw [e] at hb
      simp only [Array.toList_push, List.mem_append, List.mem_singleton] at hb
      rcases hb with hb | rfl
      · exact h2 b (by simpa using hb)
      · exact ⟨noSep_extract h3, extract_sub v _ _⟩
    · have hi : k + 2 ≤ i := hi
      omega
  | false =>
    rw [if_neg Bool.false_ne_true]
    refine ⟨h1, h2, fun i hi hk => ?_⟩
    by_cases h : i = k
    · subst h
      rw [decide_eq_true hi, Bool.true_and] at hc
      exact hc
    · exact h3 i hi (by omega)
theorem no_run {v : B} : ∀ {m k : Nat} {a : List Nat × Nat}, NoI v k a → NoI v (k + m) ((List.range' k m).foldl (occStep v) a)
  | 0, k, a, h => h
  | m+1, k, a, h => by
    rw [List.range'_succ, List.foldl_cons, show k + (m + 1) = k + 1 + m from by omega]
    exact no_run (no_step h)
/-- no piece holds a separator; a piece's bytes are the whole's -/
theorem pieces_parts (v : B) : ∀ b ∈ piecesP v, noSep b ∧ ∀ c ∈ b.toList, c ∈ v.toList := by
  have h := sync_run (m := v.size) (sync_start v)
  have hn := no_run (v := v) (m := v.size) (k := 0) (a := ([], 0)) ⟨rfl, by simp [parts], fun i _ h => by omega⟩
  rw [Nat.zero_add] at h hn
  unfold piecesP
  generalize (List.range' 0 v.size).foldl (occStep v) ([], 0) = a at h hn
  generalize (List.range' 0 v.size).foldl (stepP v) ([#[]], false) = σ at h ⊢
  intro b hb
  rw [h.ps] at hb
  rcases List.mem_append.mp hb with hb | hb
  · exact hn.ps b hb
  · simp only [List.mem_singleton] at hb
    subst hb
    exact ⟨noSep_extract hn.cur, extract_sub v _ _⟩
end Mine

namespace Mine
open PySem PySem.W PySem.Builtin PyProof.Rows

-- stripping
variable {d d' : UInt8 → Bool} {f : UInt8 → UInt8}
theorem dw_split (d : UInt8 → Bool) : ∀ l : List UInt8, ∃ x, l = x ++ l.dropWhile d ∧ ∀ c ∈ x, d c = true
  | [] => ⟨[], rfl, by simp⟩
  | a :: l => by
    rw [List.dropWhile_cons]
    cases h : d a with
    | true =>
      obtain ⟨x, e, hx⟩ := dw_split d l
      refine ⟨a :: x, by rw [if_pos rfl]; exact congrArg (a :: ·) e, fun c hc => ?_⟩
      rcases List.mem_cons.mp hc with rfl | hc
      · exact h
      · exact hx c hc
    | false => exact ⟨[], by rw [if_neg Bool.false_ne_true]; rfl, by simp⟩
theorem dw_head (d : UInt8 → Bool) : ∀ (l : List UInt8) c, (l.dropWhile d).head? = some c → d c = false
  | [], c, h => by cases h
  | a :: l, c, h => by
    rw [List.dropWhile_cons] at h
    cases ha : d a with
    | true => rw [ha, if_pos rfl] at h; exact dw_head d l c h
    | false => rw [ha, if_neg Bool.false_ne_true] at h; cases h; exact ha
theorem dw_app (d : UInt8 → Bool) : ∀ (x l : List UInt8), (∀ c ∈ x, d c = true) → (x ++ l).dropWhile d = l.dropWhile d
  | [], l, _ => rfl
  | a :: x, l, h => by
    rw [List.cons_append, List.dropWhile_cons, if_pos (h a (.head _))]
    exact dw_app d x l fun c hc => h c (.tail _ hc)
theorem dw_id (d : UInt8 → Bool) : ∀ (l : List UInt8), (∀ c, l.head? = some c → d c = false) → l.dropWhile d = l
  | [], _ => rfl
  | a :: l, h => by rw [List.dropWhile_cons, h a rfl, if_neg Bool.false_ne_true]
theorem dw_map (d : UInt8 → Bool) (f : UInt8 → UInt8) : ∀ (l : List UInt8), (∀ c ∈ l, d (f c) = d c) → (l.map f).dropWhile d = (l.dropWhile d).map f
  | [], _ => rfl
  | a :: l, h => by
    rw [List.map_cons, List.dropWhile_cons, List.dropWhile_cons, h a (.head _)]
    cases d a with
    | true => rw [if_pos rfl, if_pos rfl]; exact dw_map d f l fun c hc => h c (.tail _ hc)
    | false => rw [if_neg Bool.false_ne_true, if_neg Bool.false_ne_true]; rfl
theorem dw_congr (d d' : UInt8 → Bool) : ∀ (l : List UInt8), (∀ c ∈ l, d c = d' c) → l.dropWhile d = l.dropWhile d'
  | [], _ => rfl
  | a :: l, h => by rw [List.dropWhile_cons, List.dropWhile_cons, h a (.head _), dw_congr d d' l fun c hc => h c (.tail _ hc)]
theorem dw_mem (d : UInt8 → Bool) (l : List UInt8) : ∀ c ∈ l.dropWhile d, c ∈ l := fun c hc => by
  obtain ⟨x, e, _⟩ := dw_split d l
  rw [e]; exact List.mem_append_right _ hc

theorem strip_split (d : UInt8 → Bool) (l : List UInt8) : ∃ x y, l = x ++ stripBy d l ++ y ∧ (∀ c ∈ x, d c = true) ∧ ∀ c ∈ y, d c = true := by
  obtain ⟨x, e1, h1⟩ := dw_split d l
  obtain ⟨y, e2, h2⟩ := dw_split d (l.dropWhile d).reverse
  refine ⟨x, y.reverse, ?_, h1, fun c hc => h2 c (List.mem_reverse.mp hc)⟩
  have e3 := congrArg List.reverse e2
  rw [List.reverse_reverse, List.reverse_append] at e3
  unfold stripBy
  rw [List.append_assoc, ← e3, ← e1]
theorem strip_ends (d : UInt8 → Bool) (l : List UInt8) : (∀ c, (stripBy d l).head? = some c → d c = false) ∧ ∀ c, (stripBy d l).getLast? = some c → d c = false := by
  constructor
  · intro c h
    obtain ⟨y, e2, h2⟩ := dw_split d (l.dropWhile d).reverse
    have e3 := congrArg List.reverse e2
    rw [List.reverse_reverse, List.reverse_append] at e3
    have e4 : l.dropWhile d = stripBy d l ++ y.reverse := e3
    refine dw_head d l c ?_
    rw [e4, List.head?_append, h]; rfl
  · intro c h
    unfold stripBy at h
    rw [List.getLast?_reverse] at h
    exact dw_head d _ c h
theorem strip_id {l : List UInt8} (h1 : ∀ c, l.head? = some c → d c = false) (h2 : ∀ c, l.getLast? = some c → d c = false) : stripBy d l = l := by
  unfold stripBy
  rw [dw_id d l h1, dw_id d l.reverse (by rw [List.head?_reverse]; exact h2), List.reverse_reverse]
theorem strip_idem (l : List UInt8) : stripBy d (stripBy d l) = stripBy d l := strip_id (strip_ends d l).1 (strip_ends d l).2
theorem strip_mid {x l y : List UInt8} (hx : ∀ c ∈ x, d c = true) (hy : ∀ c ∈ y, d c = true) (hl : l ≠ []) (h1 : ∀ c, l.head? = some c → d c = false) (h2 : ∀ c, l.getLast? = some c → d c = false) : stripBy d (x ++ l ++ y) = l := by
  unfold stripBy
  rw [List.append_assoc, dw_app d x _ hx, dw_id d (l ++ y) (by
    intro c h
    cases l with
    | nil => exact absurd rfl hl
    | cons a l => exact h1 c (by simpa using h)), List.reverse_append, dw_app d y.reverse _ (fun c hc => hy c (List.mem_reverse.mp hc)), dw_id d l.reverse (by rw [List.head?_reverse]; exact h2), List.reverse_reverse]
theorem strip_map {l : List UInt8} (h : ∀ c ∈ l, d (f c) = d c) : stripBy d (l.map f) = (stripBy d l).map f := by
  unfold stripBy
  rw [dw_map d f l h, ← List.map_reverse, dw_map d f _ (fun c hc => h c (dw_mem d l c (List.mem_reverse.mp hc))), List.map_reverse]
theorem strip_congr {l : List UInt8} (h : ∀ c ∈ l, d c = d' c) : stripBy d l = stripBy d' l := by
  unfold stripBy
  rw [dw_congr d d' l h, dw_congr d d' _ (fun c hc => h c (dw_mem d' l c (List.mem_reverse.mp hc)))]
theorem strip_mem {l : List UInt8} : ∀ c ∈ stripBy d l, c ∈ l := fun c hc => by
  obtain ⟨x, y, e, _⟩ := strip_split d l
  rw [e]; exact List.mem_append_left _ (List.mem_append_right _ hc)

-- bytes
theorem byte_all {P : UInt8 → Prop} (h : ∀ n, n < 256 → P (UInt8.ofNat n)) (c : UInt8) : P c := by
  have := h c.toNat (UInt8.toNat_lt c)
  rwa [UInt8.ofNat_toNat] at this
noncomputable abbrev isW : UInt8 → Bool := bWs.contains
noncomputable abbrev isS : UInt8 → Bool := Bytes.isSpace
noncomputable abbrev lo : UInt8 → UInt8 := Bytes.toLower
noncomputable abbrev up : UInt8 → UInt8 := Bytes.toUpper
noncomputable def vis (c : UInt8) : Bool := decide (33 ≤ c.toNat) && decide (c.toNat ≤ 126)
noncomputable def txt (c : UInt8) : Bool := c == 9 || (decide (32 ≤ c.toNat) && decide (c.toNat ≤ 126))
noncomputable def upp (c : UInt8) : Bool := decide (65 ≤ c.toNat) && decide (c.toNat ≤ 90)
theorem byte_bool {P : UInt8 → Bool} (h : (List.range 256).all (fun n => P (UInt8.ofNat n)) = true) (c : UInt8) : P c = true :=
  byte_all (P := fun c => P c = true) (fun n hn => List.all_eq_true.mp h n (List.mem_range.mpr hn)) c
theorem imp_of {a b : Bool} (h : (!a || b) = true) (ha : a = true) : b = true := by subst ha; simpa using h
theorem f_WS {c : UInt8} (h : isW c = true) : isS c = true := imp_of (byte_bool (P := fun c => !isW c || isS c) (by decide +kernel) c) h
theorem f_Slo (c : UInt8) : isS (lo c) = isS c := by simpa using byte_bool (P := fun c => isS (lo c) == isS c) (by decide +kernel) c
theorem f_Wlo (c : UInt8) : isW (lo c) = isW c := by simpa using byte_bool (P := fun c => isW (lo c) == isW c) (by decide +kernel) c
theorem f_Wup (c : UInt8) : isW (up c) = isW c := by simpa using byte_bool (P := fun c => isW (up c) == isW c) (by decide +kernel) c
theorem f_visS {c : UInt8} (h : vis c = true) : isS c = false := by simpa using imp_of (byte_bool (P := fun c => !vis c || !isS c) (by decide +kernel) c) h
theorem f_visW {c : UInt8} (h : vis c = true) : isW c = false := by simpa using imp_of (byte_bool (P := fun c => !vis c || !isW c) (by decide +kernel) c) h
theorem f_vislo {c : UInt8} (h : vis c = true) : vis (lo c) = true := imp_of (byte_bool (P := fun c => !vis c || vis (lo c)) (by decide +kernel) c) h
theorem f_visup {c : UInt8} (h : vis c = true) : vis (up c) = true := imp_of (byte_bool (P := fun c => !vis c || vis (up c)) (by decide +kernel) c) h
theorem f_upplo (c : UInt8) : upp (lo c) = false := by simpa using byte_bool (P := fun c => !upp (lo c)) (by decide +kernel) c
theorem f_txt {c : UInt8} (h : txt c = true) : isS c = isW c := by simpa using imp_of (byte_bool (P := fun c => !txt c || isS c == isW c) (by decide +kernel) c) h
theorem f_lolo (c : UInt8) : lo (lo c) = lo c := by simpa using byte_bool (P := fun c => lo (lo c) == lo c) (by decide +kernel) c
theorem f_loup (c : UInt8) : lo (up c) = lo c := by simpa using byte_bool (P := fun c => lo (up c) == lo c) (by decide +kernel) c
theorem f_58lo {c : UInt8} (h : lo c = 58) : c = 58 := by simpa using imp_of (a := lo c == 58) (b := c == 58) (byte_bool (P := fun c => !(lo c == 58) || c == 58) (by decide +kernel) c) (by simpa using h)
theorem f_58up {c : UInt8} (h : up c = 58) : c = 58 := by simpa using imp_of (a := up c == 58) (b := c == 58) (byte_bool (P := fun c => !(up c == 58) || c == 58) (by decide +kernel) c) (by simpa using h)
theorem f_txtn {c : UInt8} (h : txt c = true) : c.toNat ≠ 0 ∧ c.toNat ≠ 10 ∧ c.toNat ≠ 13 := by simpa [and_assoc] using imp_of (byte_bool (P := fun c => !txt c || (c.toNat != 0 && c.toNat != 10 && c.toNat != 13)) (by decide +kernel) c) h
theorem f_Wn {c : UInt8} (h : isW c = false) : c.toNat ≠ 32 ∧ c.toNat ≠ 9 := by simpa using imp_of (a := !isW c) (b := c.toNat != 32 && c.toNat != 9) (by simpa using byte_bool (P := fun c => !(!isW c) || (c.toNat != 32 && c.toNat != 9)) (by decide +kernel) c) (by rw [h]; rfl)
theorem f_Wtxt {c : UInt8} (h : isW c = true) : txt c = true := imp_of (byte_bool (P := fun c => !isW c || txt c) (by decide +kernel) c) h
theorem f_visn {c : UInt8} (h : vis c = true) : 33 ≤ c.toNat ∧ c.toNat ≤ 126 := by unfold vis at h; simpa using h
theorem f_uppn {c : UInt8} (h : upp c = false) : ¬ (65 ≤ c.toNat ∧ c.toNat ≤ 90) := by unfold upp at h; simpa using h

-- names
structure Nm (n : B) (core : List UInt8) : Prop where
  cut : ∃ x y, n.toList = x ++ core ++ y ∧ (∀ c ∈ x, isW c = true) ∧ (∀ c ∈ y, isW c = true) ∧ (core.map lo = bCookie.toList → x = [] ∧ y = [])
  ne : core ≠ []
  vis : ∀ c ∈ core, vis c = true
  col : ∀ i, 1 ≤ i → core[i]? ≠ some 58
noncomputable def VOk (v : B) : Prop := ∀ c ∈ v.toList, txt c = true

theorem head_mem {l : List UInt8} {c : UInt8} (h : l.head? = some c) : c ∈ l := by cases l with | nil => cases h | cons a l => cases h; exact .head _
theorem last_mem {l : List UInt8} {c : UInt8} (h : l.getLast? = some c) : c ∈ l := List.mem_of_getLast? h

theorem Nm.strip2 {n : B} {core : List UInt8} (h : Nm n core) : strip2 n = core.toArray := by
  obtain ⟨x, y, e, hx, hy, _⟩ := h.cut
  unfold Mine.strip2
  rw [e, strip_mid hx hy h.ne (fun c hc => f_visW (h.vis c (head_mem hc))) (fun c hc => f_visW (h.vis c (last_mem hc)))]
theorem low_list (b : B) : (low b).toList = b.toList.map lo := by unfold low; rfl
theorem Nm.strip0 {n : B} {core : List UInt8} (h : Nm n core) : strip0 (low n) = low core.toArray := by
  obtain ⟨x, y, e, hx, hy, _⟩ := h.cut
  unfold Mine.strip0
  rw [low_list, strip_map (fun c _ => f_Slo c), e, strip_mid (fun c hc => f_WS (hx c hc)) (fun c hc => f_WS (hy c hc)) h.ne (fun c hc => f_visS (h.vis c (head_mem hc))) (fun c hc => f_visS (h.vis c (last_mem hc)))]
  rfl
theorem Nm.cookie {n : B} {core : List UInt8} (h : Nm n core) : (low n == bCookie) = (low core.toArray == bCookie) := by
  obtain ⟨x, y, e, hx, hy, hc⟩ := h.cut
  rw [Bool.eq_iff_iff, beq_iff_eq, beq_iff_eq]
  constructor
  · intro h1
    have h2 : (n.toList.map lo) = bCookie.toList := by rw [← low_list, h1]
    have cw : ∀ c ∈ bCookie.toList, isW c = false := by decide +kernel
    have nw : ∀ c ∈ n.toList, isW c = false := fun c hc => by
      have := cw (lo c) (by rw [← h2]; exact List.mem_map_of_mem hc)
      rwa [f_Wlo] at this
    have ex : x = [] := by
      cases x with
      | nil => rfl
      | cons a x => have h3 := nw a (by rw [e]; simp); rw [hx a (.head _)] at h3; cases h3
    have ey : y = [] := by
      cases y with
      | nil => rfl
      | cons a y => have h3 := nw a (by rw [e]; simp); rw [hy a (.head _)] at h3; cases h3
    subst ex ey
    simp only [List.nil_append, List.append_nil] at e
    rw [← h1]
    have : n = core.toArray := Array.ext' (by rw [e])
    rw [this]
  · intro h1
    have h2 : core.map lo = bCookie.toList := by rw [← h1, low_list]
    obtain ⟨rfl, rfl⟩ := hc h2
    simp only [List.nil_append, List.append_nil] at e
    have : n = core.toArray := Array.ext' (by rw [e])
    rw [this, h1]
end Mine

namespace Mine
open PySem PySem.W PySem.Builtin PyProof.Rows

/-- a field of a block -/
structure FOk (p : P2) : Prop where
  nm : ∃ core, Nm p.1 core
  val : VOk p.2

theorem strip2_list (b : B) : (strip2 b).toList = stripBy isW b.toList := by unfold strip2; rfl
theorem strip0_list (b : B) : (strip0 b).toList = stripBy isS b.toList := by unfold strip0; rfl
theorem strip02 {b : B} (h : VOk b) : strip0 b = strip2 b := by
  apply Array.ext'
  rw [strip0_list, strip2_list]
  exact strip_congr fun c hc => f_txt (h c hc)
theorem strip2_ok {b : B} (h : VOk b) : VOk (strip2 b) := fun c hc => h c (by rw [strip2_list] at hc; exact strip_mem c hc)
theorem strip2_idem (b : B) : strip2 (strip2 b) = strip2 b := by
  apply Array.ext'
  rw [strip2_list, strip2_list]
  exact strip_idem _
noncomputable def secOf (nm v : B) : Bool := secNames.contains nm || (nm == bCookie && decide (v.size < 20))
theorem mark_eq (nm b : B) : mark nm b = (nm, strip2 b, secOf nm (strip2 b)) := rfl
theorem secure_eq (nm v : B) : gSecure (nm, v, false) = [(nm, v, secOf nm v)] := by
  unfold gSecure secOf
  show (if secNames.contains nm || (nm == bCookie && decide (v.size < 20)) then _ else _) = _
  cases secNames.contains nm || (nm == bCookie && decide (v.size < 20)) <;> rfl

/-- all the stages, for one field -/
noncomputable def normF (split : Bool) (h : Hd) : List Hd := ((((if split then (gLower h).flatMap gSplit else gLower h).flatMap gStrip).flatMap gConn).flatMap gSecure)
theorem normOut_flat (split : Bool) (hs : List Hd) : normOut split hs = hs.flatMap (normF split) := by
  unfold normOut normF
  cases split with
  | true => simp only [if_true, List.flatMap_assoc]
  | false => simp only [Bool.false_eq_true, if_false, List.flatMap_assoc]

theorem tail_stages {a nm : B} (ha : strip0 a = nm) : ∀ {pcs : List B}, (∀ b ∈ pcs, VOk b) → ((((pcs.map fun v => (a, v, false)).flatMap gStrip).flatMap gConn).flatMap gSecure) = if connNames.contains nm then [] else pcs.map (mark nm)
  | [], _ => by cases connNames.contains nm <;> rfl
  | b :: pcs, h => by
    have ih := tail_stages (a := a) ha (pcs := pcs) fun x hx => h x (.tail _ hx)
    rw [List.map_cons, List.flatMap_cons, List.flatMap_append, List.flatMap_append, ih]
    have e1 : gStrip (a, b, false) = [(nm, strip2 b, false)] := by unfold gStrip; rw [← ha, ← strip02 (h b (.head _))]
    rw [e1, List.flatMap_singleton]
    unfold gConn
    show List.flatMap gSecure (if connNames.contains nm then [] else [(nm, strip2 b, false)]) ++ _ = _
    cases connNames.contains nm with
    | true => rfl
    | false =>
      rw [if_neg Bool.false_ne_true, List.flatMap_singleton, secure_eq, if_neg Bool.false_ne_true, List.map_cons, mark_eq]
      rfl

theorem normF_sent {split : Bool} {p : P2} (h : FOk p) : normF split p.hd = sentOne split p := by
  obtain ⟨⟨core, hn⟩, hv⟩ := h
  have e2 := hn.strip2
  have e0 := hn.strip0
  have ec := hn.cookie
  unfold sentOne
  rw [e2]
  have hb : ∀ b ∈ (if split && low core.toArray == bCookie then piecesP p.2 else [p.2]), VOk b := fun b hb => by
    split at hb
    · exact fun c hc => hv c ((pieces_parts p.2 b hb).2 c hc)
    · simp only [List.mem_singleton] at hb; subst hb; exact hv
  rw [← tail_stages e0 hb]
  unfold normF
  congr 3
  have e1 : gLower p.hd = [(low p.1, p.2, false)] := rfl
  rw [e1]
  cases split with
  | false => rfl
  | true =>
    rw [if_pos rfl, Bool.true_and, List.flatMap_singleton]
    unfold gSplit
    show (if low p.1 == bCookie then (splitB p.2 bSep).map (fun v => (low p.1, v, false)) else [(low p.1, p.2, false)]) = _
    rw [ec, split_pieces]
    cases low core.toArray == bCookie <;> rfl

/-- normalize_outbound_headers gives what _law_sent says -/
theorem told_sent {split : Bool} {block : List P2} (h : ∀ p ∈ block, FOk p) : normOut split (block.map P2.hd) = sentP split block := by
  rw [normOut_flat, List.flatMap_map]
  unfold sentP
  induction block with
  | nil => rfl
  | cons p l ih => rw [List.flatMap_cons, List.flatMap_cons, normF_sent (h p (.head _)), ih fun q hq => h q (.tail _ hq)]

/-- a clean field -/
structure Cl (h : Hd) : Prop where
  ne : h.1.toList ≠ []
  vis : ∀ c ∈ h.1.toList, vis c = true ∧ upp c = false ∧ lo c = c
  col : ∀ i, 1 ≤ i → h.1.toList[i]? ≠ some 58
  val : VOk h.2.1
  st : strip2 h.2.1 = h.2.1
theorem cl_of {p : P2} {b : B} (h : FOk p) (hv : VOk b) (f : Bool) : Cl (low (strip2 p.1), strip2 b, f) := by
  obtain ⟨⟨core, hn⟩, _⟩ := h
  rw [hn.strip2]
  have el : (low core.toArray).toList = core.map lo := by rw [low_list]
  refine ⟨?_, fun c hc => ?_, fun i hi q => ?_, strip2_ok hv, strip2_idem b⟩
  · rw [el]; intro q; exact hn.ne (List.map_eq_nil_iff.mp q)
  · have hc : c ∈ (low core.toArray).toList := hc
    rw [el] at hc
    obtain ⟨a, ha, rfl⟩ := List.mem_map.mp hc
    exact ⟨f_vislo (hn.vis a ha), f_upplo a, f_lolo a⟩
  · have q : (low core.toArray).toList[i]? = some 58 := q
    rw [el, List.getElem?_map] at q
    obtain ⟨a, ha, h2⟩ := Option.map_eq_some_iff.mp q
    rw [f_58lo h2] at ha
    exact hn.col i hi ha
theorem Cl.low {h : Hd} (x : Cl h) : Mine.low h.1 = h.1 := by
  apply Array.ext'
  rw [low_list]
  have : h.1.toList.map lo = h.1.toList.map (fun c => c) := List.map_congr_left fun c hc => (x.vis c hc).2.2
  rw [this, List.map_id']
theorem Cl.strip0n {h : Hd} (x : Cl h) : Mine.strip0 h.1 = h.1 := by
  apply Array.ext'
  rw [strip0_list]
  exact strip_id (fun c hc => f_visS (x.vis c (head_mem hc)).1) (fun c hc => f_visS (x.vis c (last_mem hc)).1)
theorem Cl.ch {h : Hd} (x : Cl h) : ChOk h := by
  have hends := strip_ends isW h.2.1.toList
  have he : stripBy isW h.2.1.toList = h.2.1.toList := by rw [← strip2_list, x.st]
  rw [he] at hends
  refine ⟨fun c hc => ?_, fun i hi q => x.col i hi (by rw [Array.getElem?_toList]; exact q), fun c hc => f_txtn (x.val c hc), fun c hc => f_Wn (hends.1 c ?_), fun c hc => f_Wn (hends.2 c ?_)⟩
  · obtain ⟨h1, h2, _⟩ := x.vis c hc
    exact ⟨(f_visn h1).1, (f_visn h1).2, f_uppn h2⟩
  · rw [List.head?_eq_getElem?, Array.getElem?_toList]; exact hc
  · rw [List.getLast?_eq_getElem?, Array.getElem?_toList, Array.length_toList]; exact hc

theorem mem_sent {split : Bool} {block : List P2} {h : Hd} (hh : h ∈ sentP split block) : ∃ p ∈ block, connNames.contains (low (strip2 p.1)) = false ∧ ∃ b ∈ (if split && low (strip2 p.1) == bCookie then piecesP p.2 else [p.2]), h = mark (low (strip2 p.1)) b := by
  unfold sentP at hh
  obtain ⟨p, hp, hh⟩ := List.mem_flatMap.mp hh
  unfold sentOne at hh
  cases hc : connNames.contains (low (strip2 p.1)) with
  | true => rw [hc, if_pos rfl] at hh; cases hh
  | false =>
    rw [hc, if_neg Bool.false_ne_true] at hh
    obtain ⟨b, hb, rfl⟩ := List.mem_map.mp hh
    exact ⟨p, hp, hc, b, hb, rfl⟩
theorem piece_ok {split : Bool} {p : P2} (h : FOk p) {b : B} (hb : b ∈ (if split && low (strip2 p.1) == bCookie then piecesP p.2 else [p.2])) : VOk b ∧ (split = true → low (strip2 p.1) = bCookie → noSep b) := by
  cases hs : (split && low (strip2 p.1) == bCookie) with
  | true =>
    rw [hs, if_pos rfl] at hb
    exact ⟨fun c hc => h.val c ((pieces_parts p.2 b hb).2 c hc), fun _ _ => (pieces_parts p.2 b hb).1⟩
  | false =>
    rw [hs, if_neg Bool.false_ne_true, List.mem_singleton] at hb
    subst hb
    refine ⟨h.val, fun h1 h2 => ?_⟩
    rw [h1, h2] at hs
    simp at hs
theorem noSep_strip {b : B} (h : noSep b) : noSep (strip2 b) := by
  intro j
  cases hc : atSep (strip2 b) j with
  | false => rfl
  | true =>
    rw [atSep_iff, strip2_list] at hc
    obtain ⟨x, y, e, _⟩ := strip_split isW b.toList
    have := h (x.length + j)
    have h2 : (b.toList.drop (x.length + j)).take 2 = [59, 32] := by
      rw [e, List.append_assoc, List.drop_append, List.drop_of_length_le (by omega), List.nil_append, show x.length + j - x.length = j from by omega]
      have hl := congrArg List.length hc
      simp only [List.length_take, List.length_drop, List.length_cons, List.length_nil] at hl
      rw [List.drop_append_of_le_length (by omega), List.take_append_of_le_length (by rw [List.length_drop]; omega)]
      exact hc
    rw [atSep_iff.mpr h2] at this
    cases this

/-- normalizing again changes nothing -/
theorem again_sent {split : Bool} {block : List P2} (h : ∀ p ∈ block, FOk p) : normOut split (sentP split block) = sentP split block := by
  rw [normOut_flat]
  have : ∀ hs : List Hd, (∀ x ∈ hs, normF split x = [x]) → hs.flatMap (normF split) = hs := by
    intro hs
    induction hs with
    | nil => intro _; rfl
    | cons x l ih => intro hx; rw [List.flatMap_cons, hx x (.head _), ih fun y hy => hx y (.tail _ hy)]; rfl
  refine this _ fun x hx => ?_
  obtain ⟨p, hp, hc, b, hb, rfl⟩ := mem_sent hx
  obtain ⟨hv, hs⟩ := piece_ok (h p hp) hb
  have cl := cl_of (h p hp) hv (secOf (low (strip2 p.1)) (strip2 b))
  rw [mark_eq]
  generalize hnm : low (strip2 p.1) = nm at cl hc hs ⊢
  have e1 : gLower (nm, strip2 b, secOf nm (strip2 b)) = [(nm, strip2 b, secOf nm (strip2 b))] := by
    show [(low nm, strip2 b, secOf nm (strip2 b))] = _
    rw [show low nm = nm from cl.low]
  have e2 : (if split then (gLower (nm, strip2 b, secOf nm (strip2 b))).flatMap gSplit else gLower (nm, strip2 b, secOf nm (strip2 b))) = [(nm, strip2 b, secOf nm (strip2 b))] := by
    rw [e1]
    cases split with
    | false => rfl
    | true =>
      rw [if_pos rfl, List.flatMap_singleton]
      unfold gSplit
      show (if nm == bCookie then (splitB (strip2 b) bSep).map (fun v => (nm, v, secOf nm (strip2 b))) else [(nm, strip2 b, secOf nm (strip2 b))]) = _
      cases hk : nm == bCookie with
      | false => rfl
      | true =>
        rw [if_pos rfl, split_pieces, pieces_noSep (noSep_strip (hs rfl (by simpa using hk)))]
        rfl
  unfold normF
  rw [e2, List.flatMap_singleton]
  have e3 : gStrip (nm, strip2 b, secOf nm (strip2 b)) = [(nm, strip2 b, secOf nm (strip2 b))] := by
    show [(strip0 nm, strip0 (strip2 b), secOf nm (strip2 b))] = _
    rw [show strip0 nm = nm from cl.strip0n, strip02 (strip2_ok hv), strip2_idem]
  rw [e3, List.flatMap_singleton]
  unfold gConn
  show List.flatMap gSecure (if connNames.contains nm then [] else [(nm, strip2 b, secOf nm (strip2 b))]) = _
  rw [hc, if_neg Bool.false_ne_true, List.flatMap_singleton]
  unfold gSecure
  show (if secOf nm (strip2 b) then [(nm, strip2 b, true)] else [(nm, strip2 b, secOf nm (strip2 b))]) = _
  cases secOf nm (strip2 b) <;> rfl
end Mine

namespace Mine
open PySem PySem.W PySem.Builtin PyProof.Rows

noncomputable def unmark (h : Hd) : Hd := (h.1, h.2.1, false)
noncomputable def prOf (h : Hd) : P2 := (h.1, h.2.1)
noncomputable def dH (r : HE) : HE := (r.1.map unmark, r.2)

theorem runS_drop {f : Hd → Option (List Hd)} (hf : ∀ h, f (unmark h) = (f h).map (List.map unmark)) {e : End'} : ∀ {l : List Hd}, runS f (l.map unmark) e = dH (runS f l e)
  | [] => rfl
  | x :: l => by
    have ih := runS_drop hf (e := e) (l := l)
    rw [List.map_cons, runS, runS, hf x]
    cases hx : f x with
    | none => rfl
    | some k => simp only [Option.map_some, ih]; unfold dH; simp only [List.map_append]
theorem runH_drop {S : Type} {f : S → Hd → Option (List Hd × S)} (hf : ∀ σ h, f σ (unmark h) = (f σ h).map fun x => (x.1.map unmark, x.2)) {e : End'} : ∀ {l : List Hd} {σ : S}, runH f σ (l.map unmark) e = ((runH f σ l e).1.map unmark, (runH f σ l e).2)
  | [], σ => rfl
  | x :: l, σ => by
    rw [List.map_cons, runH, runH, hf σ x]
    cases hx : f σ x with
    | none => rfl
    | some k =>
      obtain ⟨k, σ'⟩ := k
      simp only [Option.map_some, runH_drop hf (e := e) (l := l) (σ := σ'), List.map_append]

theorem d_te (h : Hd) : fTe (unmark h) = (fTe h).map (List.map unmark) := by unfold fTe unmark; dsimp only; split <;> rfl
theorem d_noconn (h : Hd) : fNoConn (unmark h) = (fNoConn h).map (List.map unmark) := by unfold fNoConn unmark; dsimp only; split <;> rfl
theorem d_path (h : Hd) : fPath (unmark h) = (fPath h).map (List.map unmark) := by unfold fPath unmark; dsimp only; split <;> rfl
theorem d_pseudo (σ : PsSt) (h : Hd) : fPseudo σ (unmark h) = (fPseudo σ h).map fun x => (x.1.map unmark, x.2) := by
  unfold fPseudo
  have e1 : (unmark h).1 = h.1 := rfl
  have e2 : (unmark h).2.1 = h.2.1 := rfl
  rw [e1, e2]
  split
  · split
    · rfl
    · split
      · rfl
      · split <;> rfl
  · rfl
theorem d_host (σ : HoSt) (h : Hd) : fHost σ (unmark h) = (fHost σ h).map fun x => (x.1.map unmark, x.2) := by
  unfold fHost
  have e1 : (unmark h).1 = h.1 := rfl
  have e2 : (unmark h).2.1 = h.2.1 := rfl
  rw [e1, e2]
  split
  · rfl
  · split
    · split <;> rfl
    · rfl
theorem v_te (r : HE) : vTe (dH r) = dH (vTe r) := runS_drop d_te
theorem v_noconn (r : HE) : vNoConn (dH r) = dH (vNoConn r) := runS_drop d_noconn
theorem v_pseudo (tr rs : Bool) (r : HE) : vPseudo tr rs (dH r) = dH (vPseudo tr rs r) := by
  unfold vPseudo runPseudo
  have := runH_drop d_pseudo (e := r.2) (l := r.1) (σ := ⟨[], false, none⟩)
  show (_, _) = _
  rw [show (dH r).1 = r.1.map unmark from rfl, show (dH r).2 = r.2 from rfl, this]
  rfl
theorem v_host (r : HE) : vHost (dH r) = dH (vHost r) := by
  unfold vHost runHost
  have := runH_drop d_host (e := r.2) (l := r.1) (σ := ⟨none, none⟩)
  show (_, _) = _
  rw [show (dH r).1 = r.1.map unmark from rfl, show (dH r).2 = r.2 from rfl, this]
  rfl
theorem v_hostIf (tr rs : Bool) (r : HE) : vHostIf tr rs (dH r) = dH (vHostIf tr rs r) := by
  unfold vHostIf
  split
  · rfl
  · exact v_host r
theorem v_pathIf (tr rs : Bool) (r : HE) : vPathIf tr rs (dH r) = dH (vPathIf tr rs r) := by
  unfold vPathIf
  split
  · rfl
  · exact runS_drop d_path
theorem v_empty {l : List Hd} (h : ∀ x ∈ l, x.1.size ≠ 0) : vEmpty (l, .done) = (l, .done) := by
  show runS fEmpty l .done = _
  induction l with
  | nil => rfl
  | cons x l ih =>
    have hx : fEmpty x = some [x] := by unfold fEmpty; rw [if_neg (by simpa using h x (.head _))]
    rw [runS, hx]
    simp only [ih fun y hy => h y (.tail _ hy)]
    rfl
/-- the two validators agree -/
theorem val_agree {tr rs : Bool} {l : List Hd} (h : ∀ x ∈ l, x.1.size ≠ 0) : valIn tr rs (l.map unmark) = dH (valOut tr rs l) := by
  unfold valIn valOut
  rw [v_empty (fun x hx => by obtain ⟨y, hy, rfl⟩ := List.mem_map.mp hx; exact h y hy)]
  have e : ((l.map unmark, .done) : HE) = dH (l, .done) := rfl
  rw [e, v_te, v_noconn, v_pseudo, v_hostIf, v_pathIf]

-- what is let through is unchanged
theorem runS_done {f : Hd → Option (List Hd)} (hf : ∀ x l, f x = some l → l = [x]) {e : End'} : ∀ {l : List Hd}, (runS f l e).2 = .done → e = .done ∧ (runS f l e).1 = l
  | [], h => ⟨h, rfl⟩
  | x :: l, h => by
    rw [runS] at h ⊢
    cases hx : f x with
    | none => rw [hx] at h; cases h
    | some k =>
      rw [hx] at h
      obtain ⟨h1, h2⟩ := runS_done hf (l := l) h
      refine ⟨h1, ?_⟩
      show k ++ (runS f l e).1 = _
      rw [h2, hf x k hx]; rfl
theorem runH_done {S : Type} {f : S → Hd → Option (List Hd × S)} (hf : ∀ σ x l σ', f σ x = some (l, σ') → l = [x]) {e : End'} : ∀ {l : List Hd} {σ : S}, (runH f σ l e).2.2 = .done → e = .done ∧ (runH f σ l e).1 = l
  | [], σ, h => ⟨h, rfl⟩
  | x :: l, σ, h => by
    rw [runH] at h ⊢
    cases hx : f σ x with
    | none => rw [hx] at h; cases h
    | some k =>
      obtain ⟨k, σ'⟩ := k
      rw [hx] at h
      obtain ⟨h1, h2⟩ := runH_done hf (l := l) (σ := σ') h
      refine ⟨h1, ?_⟩
      show k ++ (runH f σ' l e).1 = _
      rw [h2, hf σ x k σ' hx]; rfl
theorem pseudo_done {tr rs : Bool} {r : HE} (h : (vPseudo tr rs r).2 = .done) : r.2 = .done ∧ (vPseudo tr rs r).1 = r.1 := by
  unfold vPseudo runPseudo at h ⊢
  cases hq : (runH fPseudo ⟨[], false, none⟩ r.1 r.2).2.2 with
  | err => simp only [hq] at h; cases h
  | done => exact runH_done fPseudo_mem hq
theorem host_done {r : HE} (h : (vHost r).2 = .done) : r.2 = .done ∧ (vHost r).1 = r.1 := by
  unfold vHost runHost at h ⊢
  cases hq : (runH fHost ⟨none, none⟩ r.1 r.2).2.2 with
  | err => simp only [hq] at h; cases h
  | done => exact runH_done fHost_mem hq
theorem hostIf_done {tr rs : Bool} {r : HE} (h : (vHostIf tr rs r).2 = .done) : r.2 = .done ∧ (vHostIf tr rs r).1 = r.1 := by
  unfold vHostIf at h ⊢
  split at h
  · rename_i q; rw [if_pos q]; exact ⟨h, rfl⟩
  · rename_i q; rw [if_neg q]; exact host_done h
theorem pathIf_done {tr rs : Bool} {r : HE} (h : (vPathIf tr rs r).2 = .done) : r.2 = .done ∧ (vPathIf tr rs r).1 = r.1 := by
  unfold vPathIf at h ⊢
  split at h
  · rename_i q; rw [if_pos q]; exact ⟨h, rfl⟩
  · rename_i q; rw [if_neg q]; exact runS_done fPath_mem h
theorem valOut_done {tr rs : Bool} {l : List Hd} (h : (valOut tr rs l).2 = .done) : (valOut tr rs l).1 = l := by
  unfold valOut at h ⊢
  obtain ⟨h1, e1⟩ := pathIf_done h
  obtain ⟨h2, e2⟩ := hostIf_done h1
  obtain ⟨h3, e3⟩ := pseudo_done h2
  obtain ⟨h4, e4⟩ := runS_done fNoConn_mem h3
  obtain ⟨h5, e5⟩ := runS_done fTe_mem h4
  rw [e1, e2, e3]
  show (vNoConn (vTe (l, .done))).1 = l
  exact e4.trans e5

-- reading
theorem combine_read (l : List P2) : combineB (l.map P2.hd) = readP l := by
  unfold combineB readP
  have e1 : restOf (l.map P2.hd) = (rest2 l).map P2.hd := by
    unfold restOf rest2
    rw [List.filter_map]; rfl
  have e2 : cookiesOf (l.map P2.hd) = cooks l := by
    unfold cookiesOf cooks
    rw [List.filter_map, List.map_map]; rfl
  rw [e1, e2, joined_whole]

noncomputable def JR (l m : List B) : Prop := (l = [] ∧ m = []) ∨ (l ≠ [] ∧ m ≠ [] ∧ wholeP l = wholeP m)
theorem wholeP_append : ∀ {m l : List B}, l ≠ [] → m ≠ [] → wholeP (l ++ m) = wholeP l ++ bSep ++ wholeP m := by
  intro m l hl hm
  cases l with
  | nil => exact absurd rfl hl
  | cons c cs =>
    cases m with
    | nil => exact absurd rfl hm
    | cons d ds =>
      show (cs ++ d :: ds).foldl _ c = cs.foldl _ c ++ bSep ++ ds.foldl _ d
      rw [List.foldl_append, List.foldl_cons]
      generalize cs.foldl (fun w v => w ++ bSep ++ v) c = w
      have : ∀ (ds : List B) (a b : B), ds.foldl (fun w v => w ++ bSep ++ v) (a ++ b) = a ++ ds.foldl (fun w v => w ++ bSep ++ v) b := by
        intro ds
        induction ds with
        | nil => intro a b; rfl
        | cons x ds ih => intro a b; rw [List.foldl_cons, List.foldl_cons, ← ih, Array.append_assoc, Array.append_assoc, Array.append_assoc]
      exact this ds (w ++ bSep) d
theorem JR.app {a b c d : List B} (h1 : JR a b) (h2 : JR c d) : JR (a ++ c) (b ++ d) := by
  rcases h1 with ⟨rfl, rfl⟩ | ⟨n1, n2, e1⟩
  · exact h2
  · rcases h2 with ⟨rfl, rfl⟩ | ⟨n3, n4, e2⟩
    · rw [List.append_nil, List.append_nil]; exact .inr ⟨n1, n2, e1⟩
    · exact .inr ⟨by simp [n1], by simp [n2], by rw [wholeP_append n1 n3, wholeP_append n2 n4, e1, e2]⟩

theorem cooks_app (a b : List P2) : cooks (a ++ b) = cooks a ++ cooks b := by unfold cooks; rw [List.filter_append, List.map_append]
theorem rest_app (a b : List P2) : rest2 (a ++ b) = rest2 a ++ rest2 b := by unfold rest2; rw [List.filter_append]

theorem one_read {p : P2} (h : FOk p) (hb : bareOne p = true) (s t : Bool) :
    JR (cooks ((sentOne s p).map prOf)) (cooks ((sentOne t p).map prOf)) ∧ rest2 ((sentOne s p).map prOf) = rest2 ((sentOne t p).map prOf) := by
  obtain ⟨core, hn⟩ := h.nm
  have ec := hn.cookie
  rw [← hn.strip2] at ec
  unfold sentOne
  unfold bareOne at hb
  rw [ec] at hb
  generalize low (strip2 p.1) = nm at hb ⊢
  cases hk : connNames.contains nm with
  | true => exact ⟨.inl ⟨rfl, rfl⟩, rfl⟩
  | false =>
    rw [if_neg Bool.false_ne_true, if_neg Bool.false_ne_true]
    cases hc : nm == bCookie with
    | false =>
      rw [Bool.and_false, Bool.and_false]
      refine ⟨?_, rfl⟩
      have e : cooks (((if false = true then piecesP p.2 else [p.2]).map (mark nm)).map prOf) = [] := by
        rw [if_neg Bool.false_ne_true]
        unfold cooks
        show List.map _ (List.filter _ [(nm, strip2 p.2)]) = []
        rw [List.filter_cons, if_neg (by show ¬ (nm == bCookie) = true; rw [hc]; exact Bool.false_ne_true)]; rfl
      exact .inl ⟨e, e⟩
    | true =>
      rw [hc, Bool.true_and] at hb
      have hall : ∀ b ∈ [p.2] ++ piecesP p.2, strip2 b = b := fun b hx => by
        have h2 : (([p.2] ++ piecesP p.2).any fun b => b != strip2 b) = false := by simpa using hb
        have h3 := List.any_eq_false.mp h2 b hx
        have h4 : b = strip2 b := by simpa using h3
        exact h4.symm
      have ek : nm = bCookie := by simpa using hc
      have key : ∀ l : List B, (∀ b ∈ l, strip2 b = b) → cooks ((l.map (mark nm)).map prOf) = l ∧ rest2 ((l.map (mark nm)).map prOf) = [] := by
        intro l hl
        induction l with
        | nil => exact ⟨rfl, rfl⟩
        | cons b l ih =>
          obtain ⟨i1, i2⟩ := ih fun x hx => hl x (.tail _ hx)
          have e : ((b :: l).map (mark nm)).map prOf = [(nm, b)] ++ (l.map (mark nm)).map prOf := by
            rw [List.map_cons, List.map_cons]
            show (nm, strip2 b) :: _ = _
            rw [hl b (.head _)]; rfl
          rw [e, cooks_app, rest_app, i1, i2]
          refine ⟨?_, ?_⟩
          · unfold cooks; rw [List.filter_cons, if_pos (by exact hc)]; rfl
          · unfold rest2; rw [List.filter_cons, if_neg (by show ¬ (nm != bCookie) = true; rw [ek]; simp)]; rfl
      have kp := key (piecesP p.2) fun b hb => hall b (List.mem_append_right _ hb)
      have kv := key [p.2] fun b hb => hall b (List.mem_append_left _ hb)
      have e : ∀ s : Bool, JR (cooks (((if (s && true) = true then piecesP p.2 else [p.2]).map (mark nm)).map prOf)) [p.2] ∧ rest2 (((if (s && true) = true then piecesP p.2 else [p.2]).map (mark nm)).map prOf) = [] := by
        intro s
        cases s with
        | true =>
          rw [Bool.true_and, if_pos rfl, kp.1, kp.2]
          exact ⟨.inr ⟨(pieces_ok p.2).1, by simp, join_pieces p.2⟩, rfl⟩
        | false =>
          rw [Bool.false_and, if_neg Bool.false_ne_true, kv.1, kv.2]
          exact ⟨.inr ⟨by simp, by simp, rfl⟩, rfl⟩
      obtain ⟨a1, a2⟩ := e s
      obtain ⟨b1, b2⟩ := e t
      refine ⟨?_, a2.trans b2.symm⟩
      rcases a1 with ⟨_, q⟩ | ⟨n1, _, e1⟩
      · cases q
      · rcases b1 with ⟨_, q⟩ | ⟨n2, _, e2⟩
        · cases q
        · exact .inr ⟨n1, n2, e1.trans e2.symm⟩

/-- split or not, the far side reads the same -/
theorem read_same {block : List P2} (h : ∀ p ∈ block, FOk p) (hb : bareP block = true) (s t : Bool) : readP ((sentP s block).map prOf) = readP ((sentP t block).map prOf) := by
  have key : ∀ {block : List P2}, (∀ p ∈ block, FOk p) → (∀ p ∈ block, bareOne p = true) → JR (cooks ((sentP s block).map prOf)) (cooks ((sentP t block).map prOf)) ∧ rest2 ((sentP s block).map prOf) = rest2 ((sentP t block).map prOf) := by
    intro block
    induction block with
    | nil => intro _ _; exact ⟨.inl ⟨rfl, rfl⟩, rfl⟩
    | cons p l ih =>
      intro h hb
      obtain ⟨i1, i2⟩ := ih (fun q hq => h q (.tail _ hq)) fun q hq => hb q (.tail _ hq)
      obtain ⟨o1, o2⟩ := one_read (h p (.head _)) (hb p (.head _)) s t
      have e : ∀ s, (sentP s (p :: l)).map prOf = (sentOne s p).map prOf ++ (sentP s l).map prOf := fun s => by unfold sentP; rw [List.flatMap_cons, List.map_append]
      rw [e, e, cooks_app, cooks_app, rest_app, rest_app, o2, i2]
      exact ⟨o1.app i1, rfl⟩
  obtain ⟨k1, k2⟩ := key h fun p hp => List.all_eq_true.mp hb p hp
  unfold readP
  rw [k2]
  rcases k1 with ⟨e1, e2⟩ | ⟨n1, n2, e⟩
  · rw [e1, e2]
  · rw [if_neg n1, if_neg n2, e]
end Mine

namespace Mine
open PySem PySem.W PySem.Builtin PyProof.Rows

noncomputable def nmB (n : B) : Bool := !n.toList.isEmpty && n.toList.all vis && n.toList.tail.all (fun c => c != 58)
theorem nm_plain {n : B} (h : nmB n = true) : Nm n n.toList := by
  unfold nmB at h
  simp only [Bool.and_eq_true] at h
  obtain ⟨⟨h1, h2⟩, h3⟩ := h
  refine ⟨⟨[], [], by simp, by simp, by simp, fun _ => ⟨rfl, rfl⟩⟩, fun q => by rw [q] at h1; simp at h1, fun c hc => List.all_eq_true.mp h2 c hc, fun i hi q => ?_⟩
  cases i with
  | zero => omega
  | succ j =>
    have : 58 ∈ n.toList.tail := List.mem_of_getElem? (i := j) (by rw [List.getElem?_tail]; exact q)
    have := List.all_eq_true.mp h3 58 this
    simp at this
noncomputable def fokB (p : P2) : Bool := nmB p.1 && p.2.toList.all txt
theorem fok_of {p : P2} (h : fokB p = true) : FOk p := by
  unfold fokB at h
  simp only [Bool.and_eq_true] at h
  exact ⟨⟨_, nm_plain h.1⟩, fun c hc => List.all_eq_true.mp h.2 c hc⟩

theorem pick_all {P : B → Bool} {l : List B} {i : Int} (h : l.all P = true) (hi : i.toNat < l.length) : P (pick l i) = true := by
  unfold pick
  rw [List.getElem?_eq_getElem hi]
  exact List.all_eq_true.mp h _ (List.getElem_mem hi)
theorem lt_of_range {a : Int} {m : Nat} (h : 0 < m) : (a.fmod m).toNat < m := by
  obtain ⟨k, e, hk⟩ := fmod_range a (m := (m : Int)) (by omega)
  rw [e, Int.toNat_natCast]; omega
theorem names_ok (a : Int) : nmB (pick lawNames (a.fmod 19)) = true := pick_all (by decide +kernel) (by rw [names_len]; exact lt_of_range (m := 19) (by decide))
theorem values_ok (a : Int) : VOk (pick lawValues (a.fmod 18)) := fun c hc => List.all_eq_true.mp (pick_all (P := fun b => b.toList.all txt) (l := lawValues) (i := a.fmod 18) (by decide +kernel) (by rw [values_len]; exact lt_of_range (m := 18) (by decide))) c hc
theorem whites_ok (a : Int) : ∀ c ∈ (pick whites (a.fmod 4)).toList, isW c = true := fun c hc => List.all_eq_true.mp (pick_all (P := fun b => b.toList.all isW) (l := whites) (i := a.fmod 4) (by decide +kernel) (lt_of_range (m := 4) (by decide))) c hc

theorem Nm.up {n : B} {core : List UInt8} (h : Nm n core) : Nm (upB n) (core.map Mine.up) := by
  obtain ⟨x, y, e, hx, hy, hc⟩ := h.cut
  have el : (upB n).toList = n.toList.map Mine.up := by unfold upB; rfl
  refine ⟨⟨x.map Mine.up, y.map Mine.up, by rw [el, e, List.map_append, List.map_append], fun c h => ?_, fun c h => ?_, fun q => ?_⟩, fun q => h.ne (List.map_eq_nil_iff.mp q), fun c h1 => ?_, fun i hi q => ?_⟩
  · obtain ⟨a, ha, rfl⟩ := List.mem_map.mp h; rw [f_Wup]; exact hx a ha
  · obtain ⟨a, ha, rfl⟩ := List.mem_map.mp h; rw [f_Wup]; exact hy a ha
  · rw [List.map_map] at q
    have : core.map (lo ∘ Mine.up) = core.map lo := List.map_congr_left fun c _ => f_loup c
    rw [this] at q
    obtain ⟨rfl, rfl⟩ := hc q
    exact ⟨rfl, rfl⟩
  · obtain ⟨a, ha, rfl⟩ := List.mem_map.mp h1; exact f_visup (h.vis a ha)
  · rw [List.getElem?_map] at q
    obtain ⟨a, ha, h2⟩ := Option.map_eq_some_iff.mp q
    rw [f_58up h2] at ha
    exact h.col i hi ha
theorem Nm.white {n w : B} {core : List UInt8} (h : Nm n core) (hw : ∀ c ∈ w.toList, isW c = true) (hk : (low n != bCookie) = true) : Nm (w ++ n ++ w) core := by
  have ec := h.cookie
  obtain ⟨x, y, e, hx, hy, hc⟩ := h.cut
  refine ⟨⟨w.toList ++ x, y ++ w.toList, by rw [Array.toList_append, Array.toList_append, e]; simp only [List.append_assoc], fun c h => ?_, fun c h => ?_, fun q => ?_⟩, h.ne, h.vis, h.col⟩
  · rcases List.mem_append.mp h with h | h
    · exact hw c h
    · exact hx c h
  · rcases List.mem_append.mp h with h | h
    · exact hy c h
    · exact hw c h
  · exfalso
    have : low core.toArray = bCookie := Array.ext' (by rw [low_list]; exact q)
    rw [this] at ec
    have : (low n == bCookie) = true := by rw [ec]; simp
    rw [bne, this] at hk
    cases hk

noncomputable def FS (k : Nat) (p : P2) : Prop := p.1.size ≤ 22 + 6 * k ∧ p.2.size ≤ 22 + 6 * k
theorem FS.up {k : Nat} {p : P2} (h : FS k p) : FS (k+1) p := ⟨by have := h.1; omega, by have := h.2; omega⟩
theorem field_ok (k : Nat) (part : Int) : FOk (turnField part) ∧ FS k (turnField part) := by
  refine ⟨⟨⟨_, nm_plain (names_ok part)⟩, values_ok _⟩, ?_, ?_⟩
  · exact Nat.le_trans names_sm (by omega)
  · exact Nat.le_trans values_sm (by omega)
theorem nv_ok {k : Nat} {deed part : Int} {p : P2} (h : FOk p) (hs : FS k p) : FOk (turnNV deed part p) ∧ FS (k+1) (turnNV deed part p) := by
  obtain ⟨core, hn⟩ := h.nm
  have sw := @whites_sm ((part.fdiv 12).fmod 4)
  have ww := whites_ok (part.fdiv 12)
  unfold turnNV
  generalize pick whites ((part.fdiv 12).fmod 4) = w at sw ww ⊢
  obtain ⟨s1, s2⟩ := hs
  split
  · refine ⟨⟨⟨_, hn.up⟩, h.val⟩, ?_, by show p.2.size ≤ _; omega⟩
    have : (upB p.1).size = p.1.size := by unfold upB; simp
    show (upB p.1).size ≤ _
    omega
  split
  · refine ⟨⟨⟨_, hn⟩, fun c hc => ?_⟩, by show p.1.size ≤ _; omega, by show (w ++ p.2 ++ w).size ≤ _; rw [Array.size_append, Array.size_append]; omega⟩
    have hc : c ∈ (w ++ p.2 ++ w).toList := hc
    rw [Array.toList_append, Array.toList_append] at hc
    rcases List.mem_append.mp hc with hc | hc
    · rcases List.mem_append.mp hc with hc | hc
      · exact f_Wtxt (ww c hc)
      · exact h.val c hc
    · exact f_Wtxt (ww c hc)
  split
  · split
    · rename_i hk
      refine ⟨⟨⟨_, hn.white ww hk⟩, h.val⟩, by show (w ++ p.1 ++ w).size ≤ _; rw [Array.size_append, Array.size_append]; omega, by show p.2.size ≤ _; omega⟩
    · exact ⟨h, FS.up ⟨s1, s2⟩⟩
  · exact ⟨⟨⟨_, hn⟩, values_ok _⟩, by show p.1.size ≤ _; omega, Nat.le_trans values_sm (by omega)⟩

noncomputable def BOk (k : Nat) (block : List P2) : Prop := block.length ≤ 5 + k ∧ ∀ p ∈ block, FOk p ∧ FS k p
theorem turn_ok {k : Nat} {block : List P2} {d : Int} (h : BOk k block) : BOk (k+1) (turnP block d) := by
  obtain ⟨hl, hb⟩ := h
  have up : ∀ p ∈ block, FOk p ∧ FS (k+1) p := fun p hp => ⟨(hb p hp).1, (hb p hp).2.up⟩
  unfold turnP
  split
  · generalize (((d.fdiv 7).fdiv 342).fmod (block.length + 1)).toNat = i
    refine ⟨by simp only [List.length_append, List.length_take, List.length_drop, List.length_singleton]; omega, fun p hp => ?_⟩
    rcases List.mem_append.mp hp with hp | hp
    · rcases List.mem_append.mp hp with hp | hp
      · exact up p (List.mem_of_mem_take hp)
      · rw [List.mem_singleton] at hp; subst hp; exact field_ok _ _
    · exact up p (List.mem_of_mem_drop hp)
  · rename_i h0
    split
    · refine ⟨by simp only [List.length_append, List.length_singleton]; omega, fun p hp => ?_⟩
      rcases List.mem_append.mp hp with hp | hp
      · exact up p hp
      · rw [List.mem_singleton] at hp; subst hp; exact field_ok _ _
    split
    · generalize ((d.fdiv 7).fmod block.length).toNat = i
      refine ⟨by simp only [List.length_append, List.length_take, List.length_drop]; omega, fun p hp => ?_⟩
      rcases List.mem_append.mp hp with hp | hp
      · exact up p (List.mem_of_mem_take hp)
      · exact up p (List.mem_of_mem_drop hp)
    · have hne : block ≠ [] := fun q => h0 (by rw [q]; simp)
      have hpos : 0 < block.length := List.length_pos_iff.mpr hne
      have hlt : ((d.fdiv 7).fmod (block.length : Int)).toNat < block.length := lt_of_range hpos
      generalize ((d.fdiv 7).fmod (block.length : Int)).toNat = i at hlt ⊢
      rw [List.getElem?_eq_getElem hlt, Option.getD_some]
      refine ⟨by simp only [List.length_append, List.length_take, List.length_drop, List.length_singleton]; omega, fun p hp => ?_⟩
      rcases List.mem_append.mp hp with hp | hp
      · rcases List.mem_append.mp hp with hp | hp
        · exact up p (List.mem_of_mem_take hp)
        · rw [List.mem_singleton] at hp; subst hp
          have := hb _ (List.getElem_mem hlt)
          exact nv_ok this.1 this.2
      · exact up p (List.mem_of_mem_drop hp)

/-- _law_blocks -/
noncomputable def lawBlocks : List (List P2) := [[([58, 109, 101, 116, 104, 111, 100], [71, 69, 84]), ([58, 115, 99, 104, 101, 109, 101], [104, 116, 116, 112, 115]), ([58, 112, 97, 116, 104], [47]), ([58, 97, 117, 116, 104, 111, 114, 105, 116, 121], [120]), ([99, 111, 111, 107, 105, 101], [97, 61, 98, 59, 32, 99, 61, 100, 59, 32, 101])],
  [([58, 109, 101, 116, 104, 111, 100], [80, 79, 83, 84]), ([58, 115, 99, 104, 101, 109, 101], [104, 116, 116, 112, 115]), ([58, 112, 97, 116, 104], [47]), ([104, 111, 115, 116], [120])],
  [([58, 109, 101, 116, 104, 111, 100], [67, 79, 78, 78, 69, 67, 84]), ([58, 97, 117, 116, 104, 111, 114, 105, 116, 121], [120]), ([97, 117, 116, 104, 111, 114, 105, 122, 97, 116, 105, 111, 110], [121])],
  [([58, 115, 116, 97, 116, 117, 115], [50, 48, 48]), ([67, 111, 111, 107, 105, 101], [97, 61, 98]), ([116, 101], [116, 114, 97, 105, 108, 101, 114, 115])],
  [([97], [49]), ([99, 111, 111, 107, 105, 101], [120, 59, 32, 121])]].map fun l => l.map fun (x : List UInt8 × List UInt8) => (x.1.toArray, x.2.toArray)
noncomputable def bokB (b : List P2) : Bool := decide (b.length ≤ 5) && b.all fun p => fokB p && decide (p.1.size ≤ 22) && decide (p.2.size ≤ 22)
theorem blocks_ok : lawBlocks.all bokB = true := by decide +kernel
theorem block_ok {b : List P2} (h : b ∈ lawBlocks) : BOk 0 b := by
  have := List.all_eq_true.mp blocks_ok b h
  unfold bokB at this
  simp only [Bool.and_eq_true, decide_eq_true_eq, List.all_eq_true] at this
  exact ⟨by omega, fun p hp => ⟨fok_of (this.2 p hp).1.1, (this.2 p hp).1.2, (this.2 p hp).2⟩⟩
end Mine

namespace Mine
open PySem PySem.W PySem.Builtin PyProof.Rows

/-- fields that the walk can handle -/
structure LOk (l : List Hd) : Prop where
  cl : ∀ h ∈ l, Cl h
  sz : ∀ h ∈ l, h.1.size ≤ 70 ∧ h.2.1.size ≤ 70
  len : l.length ≤ 1000
theorem LOk.sm {l : List Hd} (x : LOk l) : ∀ h ∈ l, SmH h := fun h hh => ⟨Nat.le_trans (x.sz h hh).1 (by omega), Nat.le_trans (x.sz h hh).2 (by omega)⟩
theorem LOk.ne {l : List Hd} (x : LOk l) : ∀ h ∈ l, h.1.size ≠ 0 := fun h hh q => (x.cl h hh).ne (List.eq_nil_of_length_eq_zero (by rw [Array.length_toList]; exact q))
theorem LOk.ch {l : List Hd} (x : LOk l) : ∀ h ∈ l, ChOk h := fun h hh => (x.cl h hh).ch
theorem LOk.un {l : List Hd} (x : LOk l) : LOk (l.map unmark) := by
  refine ⟨fun h hh => ?_, fun h hh => ?_, by rw [List.length_map]; exact x.len⟩
  · obtain ⟨y, hy, rfl⟩ := List.mem_map.mp hh
    have := x.cl y hy
    exact ⟨this.ne, this.vis, this.col, this.val, this.st⟩
  · obtain ⟨y, hy, rfl⟩ := List.mem_map.mp hh
    exact x.sz y hy

structure BF (block : List P2) : Prop where
  ok : ∀ p ∈ block, FOk p
  sz : ∀ p ∈ block, p.1.size ≤ 70 ∧ p.2.size ≤ 70
  len : block.length ≤ 13
theorem bf_of {block : List P2} {k : Nat} (h : BOk k block) (hk : k ≤ 8) : BF block :=
  ⟨fun p hp => (h.2 p hp).1, fun p hp => ⟨by have := (h.2 p hp).2.1; omega, by have := (h.2 p hp).2.2; omega⟩, by have := h.1; omega⟩
theorem BF.smp {block : List P2} (x : BF block) : ∀ p ∈ block, SmP p := fun p hp => ⟨Nat.le_trans (x.sz p hp).1 (by omega), Nat.le_trans (x.sz p hp).2 (by omega)⟩
theorem BF.smh {block : List P2} (x : BF block) : ∀ h ∈ block.map P2.hd, SmH h := fun h hh => by
  obtain ⟨p, hp, rfl⟩ := List.mem_map.mp hh
  exact x.smp p hp
theorem clean_size (b : B) : (low (strip2 b)).size ≤ b.size := by
  have : (low (strip2 b)).size = (strip2 b).size := by unfold low; simp
  rw [this]; exact strip2_size b
noncomputable def plainP (block : List P2) : List Hd := block.map fun p => (low (strip2 p.1), strip2 p.2, false)
theorem plain_ok {block : List P2} (x : BF block) : LOk (plainP block) := by
  refine ⟨fun h hh => ?_, fun h hh => ?_, by unfold plainP; rw [List.length_map]; have := x.len; omega⟩
  · obtain ⟨p, hp, rfl⟩ := List.mem_map.mp hh
    exact cl_of (x.ok p hp) (x.ok p hp).val _
  · obtain ⟨p, hp, rfl⟩ := List.mem_map.mp hh
    exact ⟨Nat.le_trans (clean_size _) (x.sz p hp).1, Nat.le_trans (strip2_size _) (x.sz p hp).2⟩
theorem plain_un (block : List P2) : (plainP block).map unmark = plainP block := by
  unfold plainP
  rw [List.map_map]; rfl
theorem one_len2 {split : Bool} {p : P2} (h : p.2.size ≤ 70) : (sentOne split p).length ≤ 71 := by
  have := (pieces_ok p.2).2.1
  unfold sentOne
  split
  · simp
  · rw [List.length_map]
    split
    · omega
    · simp
theorem sent_len {split : Bool} : ∀ {block : List P2}, (∀ p ∈ block, p.2.size ≤ 70) → (sentP split block).length ≤ block.length * 71
  | [], _ => by simp [sentP]
  | p :: l, h => by
    have h1 := one_len2 (split := split) (h p (.head _))
    have h2 := sent_len (split := split) (block := l) fun q hq => h q (.tail _ hq)
    have e : sentP split (p :: l) = sentOne split p ++ sentP split l := by unfold sentP; rw [List.flatMap_cons]
    rw [e, List.length_append, List.length_cons, Nat.add_mul]
    omega
theorem sent_ok {split : Bool} {block : List P2} (x : BF block) : LOk (sentP split block) := by
  refine ⟨fun h hh => ?_, fun h hh => ?_, ?_⟩
  · obtain ⟨p, hp, hc, b, hb, rfl⟩ := mem_sent hh
    exact cl_of (x.ok p hp) (piece_ok (x.ok p hp) hb).1 _
  · obtain ⟨p, hp, hc, b, hb, rfl⟩ := mem_sent hh
    refine ⟨Nat.le_trans (clean_size _) (x.sz p hp).1, Nat.le_trans (strip2_size _) ?_⟩
    split at hb
    · exact Nat.le_trans ((pieces_ok p.2).2.2 b hb) (x.sz p hp).2
    · simp only [List.mem_singleton] at hb; subst hb; exact (x.sz p hp).2
  · have := sent_len (split := split) fun p hp => (x.sz p hp).2
    have := x.len
    omega
end Mine

namespace Mine
open PySem PySem.W PySem.Calls PyProof.Rows

-- _law_blocks
noncomputable def seqO (T : String) (o : Obj) : Option (List Value) := match o with
  | ⟨.type t, none, .seq vs _, sl⟩ => if t == T && sl.isEmpty then some vs.toList else none
  | _ => none
theorem seqO_eq {T : String} {o : Obj} {l : List Value} (h : seqO T o = some l) : ∃ vs ep, o = { cls := .type T, data := .seq vs ep } ∧ vs.toList = l := by
  unfold seqO at h
  split at h
  · rename_i t vs ep sl
    split at h
    · rename_i q
      simp only [Bool.and_eq_true, beq_iff_eq] at q
      obtain ⟨rfl, q2⟩ := q
      cases h
      have : sl = #[] := by simpa using q2
      subst this
      exact ⟨vs, ep, rfl, rfl⟩
    · cases h
  · cases h
noncomputable def pairB (K : Frag) (p : P2) : Value → Bool
  | .ref a => match (K.lookup a).bind (seqO "tuple") with
    | some [.bytes n _, .bytes v _] => n == p.1 && v == p.2
    | _ => false
  | _ => false
noncomputable def pairsB (K : Frag) : List P2 → List Value → Bool
  | [], [] => true
  | p :: l, v :: vs => pairB K p v && pairsB K l vs
  | _, _ => false
noncomputable def blockB (K : Frag) (l : List P2) : Value → Bool
  | .ref a => match (K.lookup a).bind (seqO "list") with
    | some vs => pairsB K l vs
    | none => false
  | _ => false
noncomputable def blocksB (K : Frag) : List (List P2) → List Value → Bool
  | [], [] => true
  | p :: l, v :: vs => blockB K p v && blocksB K l vs
  | _, _ => false
section
variable {K : Frag} {G : GH}
theorem pairB_rep (hK : ∀ a o, K.lookup a = some o → G a = some o) {p : P2} {v : Value} (h : pairB K p v = true) : Rep G p.hd.pv v := by
  unfold pairB at h
  split at h
  · rename_i a
    split at h
    · rename_i n t v2 t2 q
      simp only [Bool.and_eq_true, beq_iff_eq] at h
      obtain ⟨rfl, rfl⟩ := h
      obtain ⟨o, ho, hs⟩ := Option.bind_eq_some_iff.mp q
      obtain ⟨vs, ep, rfl, hv⟩ := seqO_eq hs
      have := hK _ _ ho
      exact mk_tup this (by rw [hv]; exact .cons mk_byt (.cons mk_byt .nil))
    · cases h
  · cases h
theorem pairsB_rep (hK : ∀ a o, K.lookup a = some o → G a = some o) : ∀ {l : List P2} {vs : List Value}, pairsB K l vs = true → RepL G (l.map fun p => p.hd.pv) vs
  | [], [], _ => .nil
  | [], _ :: _, h => by cases h
  | _ :: _, [], h => by cases h
  | p :: l, v :: vs, h => by
    have h := Bool.and_eq_true_iff.mp (show (pairB K p v && pairsB K l vs) = true from h)
    exact .cons (pairB_rep hK h.1) (pairsB_rep hK h.2)
theorem blockB_rep (hK : ∀ a o, K.lookup a = some o → G a = some o) {l : List P2} {v : Value} (h : blockB K l v = true) : Rep G (.lst (l.map fun p => p.hd.pv)) v := by
  unfold blockB at h
  split at h
  · rename_i a
    split at h
    · rename_i vs q
      obtain ⟨o, ho, hs⟩ := Option.bind_eq_some_iff.mp q
      obtain ⟨ws, ep, rfl, hv⟩ := seqO_eq hs
      exact mk_lst (hK _ _ ho) (by rw [hv]; exact pairsB_rep hK h)
    · cases h
  · cases h
theorem blocksB_rep (hK : ∀ a o, K.lookup a = some o → G a = some o) : ∀ {l : List (List P2)} {vs : List Value}, blocksB K l vs = true → RepL G (l.map fun b => .lst (b.map fun p => p.hd.pv)) vs
  | [], [], _ => .nil
  | [], _ :: _, h => by cases h
  | _ :: _, [], h => by cases h
  | p :: l, v :: vs, h => by
    have h := Bool.and_eq_true_iff.mp (show (blockB K p v && blocksB K l vs) = true from h)
    exact .cons (blockB_rep hK h.1) (blocksB_rep hK h.2)
end
theorem g_blocks {w : World} : nsIn (topK w) mainGlobals "_law_blocks" = some (some (.ref 369)) := by kernel_rfl
theorem o_blocks {w : World} : (topK w).lookup 369 = some { cls := .type "list", data := .seq (itemsOf w 369) (epS w 369) } := by kernel_rfl
theorem b_blocks {w : World} : blocksB (topK w) lawBlocks (itemsOf w 369).toList = true := by kernel_rfl

section
variable {prog : Program} {w : World} {n m n' k : Nat} {env cenv : Env} {O : Option Addr} {Γ Γ' : Lcl} {ins outs : List PV} {e e' : End'} {a : Addr} {x : Str} {G G₀ : GH} {s s₀ : Shared} {A : Around} {ρ : Res w}
theorem ev_blocks {pos : Pos} (hk : env.kindOf "_law_blocks" = some .globalImplicit) : EvP prog w n env Γ (.Name "_law_blocks" pos) (.lst (lawBlocks.map fun b => .lst (b.map fun p => p.hd.pv))) :=
  ev_global hk g_blocks (fun G hG => mk_lst (hG _ _ o_blocks) (blocksB_rep hG b_blocks)) (by decide +kernel)

-- comparing lists of fields
theorem cmpb_hd {d : Nat} (h h' : Hd) : Cmpb (d+1) h.pv h'.pv := by
  obtain ⟨a, b, c⟩ := h
  obtain ⟨a', b', c'⟩ := h'
  refine .tup fun i x y hx hy => ?_
  have ex : ∀ {a b : B} {c : Bool} {x : PV}, ([PV.byt a, PV.byt b] ++ if c then [PV.bool true] else [])[i]? = some x → (i < 2 ∧ ∃ z, x = .byt z) ∨ (2 ≤ i ∧ ∃ z, x = .bool z) := by
    intro a b c x h
    match i, h with
    | 0, h => cases h; exact .inl ⟨by omega, _, rfl⟩
    | 1, h => cases h; exact .inl ⟨by omega, _, rfl⟩
    | i+2, h =>
      cases c with
      | false => simp at h
      | true =>
        cases i with
        | zero => cases h; exact .inr ⟨by omega, _, rfl⟩
        | succ j => simp at h
  rcases ex hx with ⟨h1, z, rfl⟩ | ⟨h1, z, rfl⟩ <;> rcases ex hy with ⟨h2, z', rfl⟩ | ⟨h2, z', rfl⟩
  · exact .byt
  · omega
  · omega
  · exact .bool
theorem cmpb_hds {d : Nat} (hs hs' : List Hd) : Cmpb (d+2) (.lst (hs.map Hd.pv)) (.lst (hs'.map Hd.pv)) := .lst fun i a b ha hb => by
  rw [List.getElem?_map] at ha hb
  obtain ⟨x, _, rfl⟩ := Option.map_eq_some_iff.mp ha
  obtain ⟨y, _, rfl⟩ := Option.map_eq_some_iff.mp hb
  exact cmpb_hd x y
theorem eqb_hd (h : Hd) : PV.eqb h.pv h.pv = true := by
  obtain ⟨a, b, c⟩ := h
  have e : eqbL [.byt a, .byt b] [.byt a, .byt b] = true := by rw [eqbL_cons, eqbL_cons, eqb_byt, eqb_byt]; rfl
  cases c <;> exact e
theorem eqbL_hds : ∀ hs : List Hd, eqbL (hs.map Hd.pv) (hs.map Hd.pv) = true
  | [] => rfl
  | h :: hs => by rw [List.map_cons, eqbL_cons, eqb_hd, eqbL_hds hs]; rfl
theorem eqb_hds (hs : List Hd) : PV.eqb (.lst (hs.map Hd.pv)) (.lst (hs.map Hd.pv)) = true := eqbL_hds hs
theorem cmpn_hds (hs : List Hd) : CmpIs prog w (n+2) .NotEq (.lst (hs.map Hd.pv)) (.lst (hs.map Hd.pv)) false := by
  have := cmp_ne_deep (prog := prog) (w := w) (n := n+2) (cmpb_hds hs hs) (.inr ⟨_, _, rfl, rfl⟩)
  rw [eqb_hds] at this
  exact this
theorem cmpe_hds (hs : List Hd) : CmpIs prog w (n+2) .Eq (.lst (hs.map Hd.pv)) (.lst (hs.map Hd.pv)) true := by
  have := cmp_eq_deep (prog := prog) (w := w) (n := n+2) (cmpb_hds hs hs) (.inr ⟨_, _, rfl, rfl⟩)
  rw [eqb_hds] at this
  exact this
theorem eqbL_bools : ∀ hs : List Hd, eqbL (hs.map fun h => PV.bool h.2.2) (hs.map fun h => PV.bool h.2.2) = true
  | [] => rfl
  | h :: hs => by rw [List.map_cons, eqbL_cons, eqbL_bools hs, eqb_bool]; rfl
theorem cmpn_marks (hs : List Hd) : CmpIs prog w (n+2) .NotEq (.lst (hs.map fun h => .bool h.2.2)) (.lst (hs.map fun h => .bool h.2.2)) false := by
  have := cmp_ne_deep (prog := prog) (w := w) (n := n+2) (p := .lst (hs.map fun h => .bool h.2.2)) (q := .lst (hs.map fun h => .bool h.2.2)) (.lst fun i a b ha hb => by
    rw [List.getElem?_map] at ha hb
    obtain ⟨x, _, rfl⟩ := Option.map_eq_some_iff.mp ha
    obtain ⟨y, _, rfl⟩ := Option.map_eq_some_iff.mp hb
    exact .bool) (.inr ⟨_, _, rfl, rfl⟩)
  rw [show PV.eqb (.lst (hs.map fun h => .bool h.2.2)) (.lst (hs.map fun h => .bool h.2.2)) = true from eqbL_bools hs] at this
  exact this

-- comparing answers
noncomputable def refusedP : PV := .tup [.str "refused", .int 1]
noncomputable def letL (l : List Hd) : PV := .tup [.str "let", .lst (l.map Hd.pv)]
theorem cmpb_let (l m : List Hd) {d : Nat} : Cmpb (d+3) (letL l) (letL m) := .tup fun i a b ha hb => by
  match i, ha, hb with
  | 0, ha, hb => cases ha; cases hb; exact .str
  | 1, ha, hb => cases ha; cases hb; exact cmpb_hds l m
  | i+2, ha, hb => simp at ha
theorem cmpb_letR (l : List Hd) {d : Nat} : Cmpb (d+3) (letL l) refusedP := .tup fun i a b ha hb => by
  match i, ha, hb with
  | 0, ha, hb => cases ha; cases hb; exact .str
  | 1, ha, hb => cases ha; cases hb; exact .mix
  | i+2, ha, hb => simp at ha
theorem cmpb_RR {d : Nat} : Cmpb (d+3) refusedP refusedP := .tup fun i a b ha hb => by
  match i, ha, hb with
  | 0, ha, hb => cases ha; cases hb; exact .str
  | 1, ha, hb => cases ha; cases hb; exact .int
  | i+2, ha, hb => simp at ha
theorem eqb_let (l : List Hd) : PV.eqb (letL l) (letL l) = true := by
  unfold letL
  rw [eqb_tup, eqbL_cons, eqbL_cons, eqb_hds, eqb_str]; rfl
theorem eqb_letR (l : List Hd) : PV.eqb (letL l) refusedP = false := by
  unfold letL refusedP
  rw [eqb_tup, eqbL_cons, show PV.eqb (.str ("let" : Str)) (.str ("refused" : Str)) = false from by decide +kernel]; rfl
theorem eqb_RR : PV.eqb refusedP refusedP = true := by
  unfold refusedP
  rw [eqb_tup, eqbL_cons, eqbL_cons, eqb_str, eqb_int]; rfl
theorem cmp_let_R (l : List Hd) : CmpIs prog w (n+3) .Eq (letL l) refusedP false := by
  have := cmp_eq_deep (prog := prog) (w := w) (n := n+3) (cmpb_letR l) (.inl ⟨_, _, rfl, rfl⟩)
  rw [eqb_letR] at this; exact this
theorem cmp_R_R : CmpIs prog w (n+3) .Eq refusedP refusedP true := by
  have := cmp_eq_deep (prog := prog) (w := w) (n := n+3) cmpb_RR (.inl ⟨_, _, rfl, rfl⟩)
  rw [eqb_RR] at this; exact this
theorem cmpn_R_R : CmpIs prog w (n+3) .NotEq refusedP refusedP false := by
  have := cmp_ne_deep (prog := prog) (w := w) (n := n+3) cmpb_RR (.inl ⟨_, _, rfl, rfl⟩)
  rw [eqb_RR] at this; exact this
theorem cmpn_let (l : List Hd) : CmpIs prog w (n+3) .NotEq (letL l) (letL l) false := by
  have := cmp_ne_deep (prog := prog) (w := w) (n := n+3) (cmpb_let l l) (.inl ⟨_, _, rfl, rfl⟩)
  rw [eqb_let] at this; exact this
end
end Mine

namespace Mine
open PySem PySem.W PySem.Calls PyProof.Rows

section
variable {prog : Program} {w : World} {n m n' k : Nat} {env cenv : Env} {O : Option Addr} {Γ Γ' : Lcl} {ins outs : List PV} {e e' : End'} {a : Addr} {x : Str} {G G₀ : GH} {s s₀ : Shared} {A : Around} {ρ : Res w}

theorem hd_map (block : List P2) : (block.map P2.hd).map Hd.pv = block.map fun p => p.hd.pv := by rw [List.map_map]; rfl
theorem pr_map (l : List Hd) : (l.map unmark).map Hd.pv = (l.map prOf).map fun p => p.hd.pv := by rw [List.map_map, List.map_map]; rfl

/-- normalize_outbound_headers(list(x), here, ..) -/
theorem evg_norm {xn : Str} {hs : List Hd} {fl : PV} {sp : Bool} {se : Expr} {p1 p2 p3 p4 p5 p6 : Pos} (kno : env.kindOf "normalize_outbound_headers" = some .globalImplicit) (kl : env.kindOf "list" = some .globalImplicit) (hx : Γ.vars.lookup xn = some (.lst (hs.map Hd.pv)))
    (hd : (xn == ("__debug__" : Str)) = false) (hh : Γ.vars.lookup ("here" : Str) = some fl) (hse : EvP prog w 40 env Γ se (.bool sp)) (hst : starEach [se] env = (false, eval se env) :: starEach [] env) (hsm : ∀ h ∈ hs, SmH h) (hlen : hs.length ≤ 1000) :
    EvG0 prog w 40 10 env Γ (.Call (.Name "normalize_outbound_headers" p1) [.Call (.Name "list" p2) [.Name xn p3] [] p4, .Name "here" p5, se] [] p6) ((normOut sp hs).map Hd.pv) .done :=
  evg0_call (k := 39) (n := 0) (fn_global kno (by kernel_rfl) (by decide +kernel)) (by kernel_rfl) (args_cons (evl_cons (ev_list_of kl (ev_name hx hd) (by rw [List.length_map]; omega)) (evl_cons (ev_name hh) (evl_cons hse evl_nil hst)))) ((fn_norm_out hsm).le (by omega))
theorem evg_read {hs : List Hd} {fl : PV} {arg : Expr} {p1 p5 p6 : Pos} (kni : env.kindOf "normalize_inbound_headers" = some .globalImplicit) (harg : EvP prog w 40 env Γ arg (.lst (hs.map Hd.pv))) (hst : starEach [arg, .Name "there" p5] env = (false, eval arg env) :: starEach [.Name "there" p5] env)
    (hh : Γ.vars.lookup ("there" : Str) = some fl) (hsm : ∀ h ∈ hs, SmH h) (hlen : hs.length ≤ 1000) :
    EvG0 prog w 40 2 env Γ (.Call (.Name "normalize_inbound_headers" p1) [arg, .Name "there" p5] [] p6) ((combineB hs).map Hd.pv) .done :=
  evg0_call (k := 39) (n := 0) (fn_global kni (by kernel_rfl) (by decide +kernel)) (by kernel_rfl) (args_cons (evl_cons harg (evl_cons (ev_name hh) evl_nil) hst) hst) ((fn_norm_in hsm hlen).le (by omega))
/-- x != y or _law_marked(x) != _law_marked(y), of equals -/
theorem evt_differ {x y x' y' : Expr} {hs : List Hd} {p1 p2 p3 p4 p5 p6 p7 : Pos} (km : env.kindOf "_law_marked" = some .globalImplicit) (hx : EvP prog w 40 env Γ x (.lst (hs.map Hd.pv))) (hy : EvP prog w 40 env Γ y (.lst (hs.map Hd.pv)))
    (hx' : EvP prog w 40 env Γ x' (.lst (hs.map Hd.pv))) (hy' : EvP prog w 40 env Γ y' (.lst (hs.map Hd.pv)))
    (sx : starEach [x'] env = (false, eval x' env) :: starEach [] env) (sy : starEach [y'] env = (false, eval y' env) :: starEach [] env) (hm : behindInMarks .NotEq y = false) (hlen : hs.length ≤ 100000) :
    EvT prog w 40 env Γ (.BoolOp .Or [.Compare x [.NotEq] [y] p1, .Compare (.Call (.Name "_law_marked" p2) [x'] [] p3) [.NotEq] [.Call (.Name "_law_marked" p4) [y'] [] p5] p6] p7) false := by
  have m1 : EvP prog w 40 env Γ (.Call (.Name "_law_marked" p2) [x'] [] p3) (.lst (hs.map fun h => .bool h.2.2)) := ev_fn (n := 39) km (by kernel_rfl) (by decide +kernel) (args_cons (evl_cons hx' evl_nil sx) sx) (by kernel_rfl) (fn_marked hlen)
  have m2 : EvP prog w 40 env Γ (.Call (.Name "_law_marked" p4) [y'] [] p5) (.lst (hs.map fun h => .bool h.2.2)) := ev_fn (n := 39) km (by kernel_rfl) (by decide +kernel) (args_cons (evl_cons hy' evl_nil sy) sy) (by kernel_rfl) (fn_marked hlen)
  exact evt_eq (evt_boolop (eva_or (evt_cmp hx hy (cmpn_hds (n := 38) hs) hm) fun _ => eva_or (evt_cmp m1 m2 (cmpn_marks (n := 38) hs)) fun _ => eva_or_nil)) rfl

noncomputable def TuR (hd : Int) (σ : List P2) (l : List Int) (Γ : Lcl) : Prop :=
  ∃ vars, Γ = ⟨vars, none⟩ ∧ vars.lookup ("block" : Str) = some (.lst (σ.map fun p => p.hd.pv)) ∧ vars.lookup ("head" : Str) = some (.int hd) ∧ BOk (8 - l.length) σ ∧ l.length ≤ 8
noncomputable def TrR (hr th blk pr : PV) (sp : Bool) (l : List (List Hd)) (Γ : Lcl) : Prop :=
  ∃ vars, Γ = ⟨vars, none⟩ ∧ vars.lookup ("here" : Str) = some hr ∧ vars.lookup ("there" : Str) = some th ∧ vars.lookup ("block" : Str) = some blk ∧ vars.lookup ("pairs" : Str) = some pr ∧ vars.lookup ("split" : Str) = some (.bool sp) ∧ ∀ x ∈ l, LOk x
theorem no1 {vars : List (Str × PV)} {y : Str} : ∀ z d, (⟨vars, none⟩ : Lcl).own = some (z, d) → z ≠ y := fun z d q => by cases q
theorem no2 {vars : List (Str × PV)} {x y : Str} : ∀ z d, (⟨vars, none⟩ : Lcl).own = some (z, d) → z ≠ x ∧ z ≠ y := fun z d q => by cases q
theorem letP_err {r : HE} (h : r.2 = .err) : letP r = refusedP := by unfold letP; rw [h]; rfl
theorem letP_done {r : HE} (h : r.2 = .done) : letP r = letL r.1 := by unfold letP; rw [h]; rfl

/-- the law's second loop -/
noncomputable def lawFor : List Stmt → List Stmt
  | .For (.Tuple a b c) i body o p :: _ => [.For (.Tuple a b c) i body o p]
  | _ :: r => lawFor r
  | [] => []
/-- what the law does with one trial -/
theorem trial_body {tr rs a1 a2 : Bool} {l : List Hd} {vars : List (Str × PV)} {body : List Stmt} (ok : EnvOk w 424 env) (hl : LOk l) (h1 : vars.lookup ("trial" : Str) = some (.lst (l.map Hd.pv))) (h2 : vars.lookup ("bare" : Str) = some (.lst ((l.map unmark).map Hd.pv)))
    (h3 : vars.lookup ("here" : Str) = some (.flg a1 tr rs false)) (h4 : vars.lookup ("there" : Str) = some (.flg a2 tr rs false)) (hb : body = forBody (lawFor (bodyOf w 424))) :
    ∃ p q, ExP prog w 40 env none ⟨vars, none⟩ (execs body env) (.next ⟨("into", q) :: ("out", p) :: vars, none⟩) := by
  subst hb
  conv in forBody _ => whnf
  have klt := ok.k "_law_let" .globalImplicit (by kernel_rfl)
  have ko := ok.k "out" .local (by kernel_rfl)
  have ki := ok.k "into" .local (by kernel_rfl)
  have f1 : Fn prog w 39 414 [.lst (l.map Hd.pv), .flg a1 tr rs false, .bool true] (.ret (letP (valOut tr rs l))) := by
    have := fn_let (prog := prog) (w := w) (k := 16) (hs := l) (a1 := a1) (tr := tr) (rs := rs) (d := false) (out := true) hl.sm (fun q => by cases q) hl.ne hl.len
    rw [if_pos rfl] at this
    exact this
  have f2 : Fn prog w 39 414 [.lst ((l.map unmark).map Hd.pv), .flg a2 tr rs false, .bool false] (.ret (letP (dH (valOut tr rs l)))) := by
    have := fn_let (prog := prog) (w := w) (k := 16) (hs := l.map unmark) (a1 := a2) (tr := tr) (rs := rs) (d := false) (out := false) hl.un.sm (fun _ => hl.un.ch) hl.un.ne hl.un.len
    rw [if_neg Bool.false_ne_true, val_agree hl.ne] at this
    exact this
  refine ⟨letP (valOut tr rs l), letP (dH (valOut tr rs l)), ?_⟩
  refine exp_cons (exp_assign (p := letP (valOut tr rs l)) (ev_fn (n := 39) klt (by kernel_rfl) (by decide +kernel) (args_cons (evl_cons (ev_name h1) (evl_cons (ev_name h3) (evl_cons ev_bool evl_nil)))) (by kernel_rfl) f1) ko no1) ?_
  refine exp_cons (exp_assign (p := letP (dH (valOut tr rs l))) (ev_fn (n := 39) klt (by kernel_rfl) (by decide +kernel) (args_cons (evl_cons (ev_name (by exact h2)) (evl_cons (ev_name (by exact h4)) (evl_cons ev_bool evl_nil)))) (by kernel_rfl) f2) ki no1) ?_
  cases he : (valOut tr rs l).2 with
  | err =>
    have e1 := letP_err he
    have e2 : letP (dH (valOut tr rs l)) = refusedP := letP_err (r := dH (valOut tr rs l)) he
    rw [e1, e2]
    exact exp_cons1 (exp_ift (evt_cmp (ev_name (p := refusedP) (by rfl)) (ev_tuple (ps := [.str "refused", .int 1]) (evl_cons ev_str (evl_cons ev_int evl_nil))) (cmp_R_R (n := 37))) rfl (exp_cons1 (exp_iff (evt_cmp (ev_name (p := refusedP) (by rfl)) (ev_name (p := refusedP) (by rfl)) (cmpn_R_R (n := 37))) rfl exp_nil)))
  | done =>
    have e1 := letP_done he
    have e2 : letP (dH (valOut tr rs l)) = letL ((valOut tr rs l).1.map unmark) := letP_done (r := dH (valOut tr rs l)) he
    rw [valOut_done he] at e1 e2
    rw [e1, e2]
    refine exp_cons1 (exp_iff (evt_cmp (ev_name (p := letL l) (by rfl)) (ev_tuple (ps := [.str "refused", .int 1]) (evl_cons ev_str (evl_cons ev_int evl_nil))) (cmp_let_R (n := 37) l)) rfl (exp_cons1 (exp_iff (b := false) (evt_eq (evt_boolop (eva_or
      (evt_cmp (ev_name (p := letL l) (by rfl)) (ev_tuple (ps := [.str "let", .lst (l.map Hd.pv)]) (evl_cons ev_str (evl_cons (ev_name (by exact h1)) evl_nil))) (cmpn_let (n := 37) l)) fun _ => eva_or
      (evt_cmp (ev_name (p := letL (l.map unmark)) (by rfl)) (ev_tuple (ps := [.str "let", .lst ((l.map unmark).map Hd.pv)]) (evl_cons ev_str (evl_cons (ev_name (by exact h2)) evl_nil))) (cmpn_let (n := 37) (l.map unmark))) fun _ => eva_or_nil)) rfl) rfl exp_nil)))

theorem clip_drop (l : List Int) : ((l.drop (clipAt l.length 1)).take (clipAt l.length 9 - clipAt l.length 1)).length ≤ 8 := by
  have h1 := @clip_nat l.length 1
  have h2 := @clip_nat l.length 9
  rw [show ((1 : Nat) : Int) = 1 from rfl] at h1
  rw [show ((9 : Nat) : Int) = 9 from rfl] at h2
  rw [h1, h2, List.length_take, List.length_drop]
  omega

-- the argument: a list that was there before
noncomputable def ScO (sc : List Int) (o : Obj) : Prop := o.cls = .type "list" ∧ ∃ vs ep, o.data = .seq vs ep ∧ ∀ G, RepL G (sc.map .int) vs.toList
noncomputable def scPV (sc : List Int) : PV := .obj (ScO sc) (sc.length != 0)
theorem rep_sc {sc : List Int} {v : Value} (h : Rep G (scPV sc) v) : ∃ a o vs ep, v = .ref a ∧ G a = some o ∧ o.cls = .type "list" ∧ o.data = .seq vs ep ∧ ∀ G, RepL G (sc.map .int) vs.toList := by
  unfold scPV Rep at h
  obtain ⟨a, o, rfl, hG, hc, vs, ep, hd, hr⟩ := h
  exact ⟨a, o, vs, ep, rfl, hG, hc, hd, hr⟩
theorem tr_sc {sc : List Int} (h : sc.length ≤ 63) : TruthIs prog w n (scPV sc) := fun G s v W r A cx => by
  obtain ⟨a, o, vs, ep, rfl, hG, hc, hd, rl⟩ := rep_sc r
  have hl := (rl G).length
  have hl2 : vs.size = sc.length := by simpa using hl
  refine wpAny_truthy_list ⟨_, W.sub _ _ hG, hc, ep, hd⟩ (by omega) ⟨G, .toks W, ?_⟩
  show (!vs.isEmpty) = (sc.length != 0)
  rw [← hl2]
  rfl
theorem ty_sc {sc : List Int} : TyIs w (scPV sc) "list" := fun G s v W r => by
  obtain ⟨a, o, vs, ep, rfl, hG, hc, hd, rl⟩ := rep_sc r
  exact ⟨_, W.sub _ _ hG, hc⟩
theorem idx_sc {sc : List Int} {k : Nat} {r : PV} (h : (sc.map PV.int)[k]? = some r) (hk : sc.length ≤ 63) : IdxIs prog w n (scPV sc) (.int k) r := fun G s u v W r1 r2 A cx => by
  obtain ⟨a, o, vs, ep, rfl, hG, hc, hd, rl⟩ := rep_sc r1
  obtain ⟨t, rfl⟩ := rep_int r2
  obtain ⟨x, hx, rx⟩ := (rl G).get h
  have hx' : vs[k]? = some x := by simpa using hx
  have hlt : k < (sc.map PV.int).length := by
    rcases Nat.lt_or_ge k (sc.map PV.int).length with h2 | h2
    · exact h2
    · rw [List.getElem?_eq_none h2] at h; cases h
  rw [List.length_map] at hlt
  exact wpAny_getItem_list ⟨_, W.sub _ _ hG, hc, ep, hd⟩ (Int.natCast_nonneg k) (by omega) (by rw [Int.toNat_natCast]; exact hx') ⟨G, .refl W, rx⟩
theorem sli_sc {sc : List Int} {lo hi : Option Int} (hb : sc.length ≤ 63) : SliIs prog w n (scPV sc) lo hi (.lst (((sc.map PV.int).drop (lo.elim 0 (clipAt sc.length))).take (hi.elim sc.length (clipAt sc.length) - lo.elim 0 (clipAt sc.length)))) :=
  fun G s u vl vu sl W r1 pl pu hs A cx => by
  obtain ⟨a, o, vs, ep, rfl, hG, hc, hd, rl⟩ := rep_sc r1
  have hl := (rl G).length
  have hl' : vs.size = sc.length := by simpa using hl
  refine wpAny_getItem_list_slice ⟨_, W.sub _ _ hG, hc, ep, hd⟩ hs pl pu .none (by simp) ?_ (by simp [sizeLine]; omega)
  have g2 := Grow.push (F := Pure) (K := No) (tk := s.toks) W (o := { cls := .type "list", data := .seq (slicePick vs lo hi none) }) rfl
  refine ⟨_, g2, mk_lst GH.add_self ?_⟩
  have := (((rl G).drop (lo.elim 0 (clipAt sc.length))).take (hi.elim sc.length (clipAt sc.length) - lo.elim 0 (clipAt sc.length))).mono g2.sub
  have e : (slicePick vs lo hi none).toList = (vs.toList.drop (lo.elim 0 (clipAt sc.length))).take (hi.elim sc.length (clipAt sc.length) - lo.elim 0 (clipAt sc.length)) := by rw [slicePick_plain, hl']
  rw [e]; exact this

set_option maxHeartbeats 400000 in
/-- the law -/
theorem fn_law {sc : List Int} (hlen : sc.length ≤ 63) : Fn prog w 40 424 [scPV sc] (.ret (.bool true)) := by
  refine fn_of' (names := ["script"]) (by kernel_rfl) (by kernel_rfl) (by kernel_rfl) (by kernel_rfl) (by kernel_rfl) rfl (fun vs hv => ?_) fun env ok => ?_
  · obtain ⟨x, rfl⟩ := vs1 hv
    kernel_rfl
  have htrial := fun (l : List Hd) (tr rs a1 a2 : Bool) (vars : List (Str × PV)) (hl : LOk l) h1 h2 h3 h4 => trial_body (prog := prog) (w := w) (env := env) (tr := tr) (rs := rs) (a1 := a1) (a2 := a2) (l := l) (vars := vars) (body := forBody (lawFor (bodyOf w 424))) ok hl h1 h2 h3 h4 rfl
  conv at htrial in forBody _ => whnf
  conv in bodyOf w 424 => whnf
  have kh := ok.k "head" .local (by kernel_rfl)
  have kb := ok.k "block" .local (by kernel_rfl)
  have kd := ok.k "drawn" .local (by kernel_rfl)
  have ksp := ok.k "split" .local (by kernel_rfl)
  have khe := ok.k "here" .local (by kernel_rfl)
  have kth := ok.k "there" .local (by kernel_rfl)
  have kse := ok.k "sent" .local (by kernel_rfl)
  have kto := ok.k "told" .local (by kernel_rfl)
  have kag := ok.k "again" .local (by kernel_rfl)
  have kpl := ok.k "plain" .local (by kernel_rfl)
  have kpa := ok.k "pairs" .local (by kernel_rfl)
  have ktr := ok.k "trial" .local (by kernel_rfl)
  have kba := ok.k "bare" .local (by kernel_rfl)
  have kre := ok.k "read" .local (by kernel_rfl)
  have kot := ok.k "other" .local (by kernel_rfl)
  have kl := ok.k "list" .globalImplicit (by kernel_rfl)
  have kbl := ok.k "_law_blocks" .globalImplicit (by kernel_rfl)
  have ktu := ok.k "_law_turned" .globalImplicit (by kernel_rfl)
  have khv := ok.k "HeaderValidationFlags" .globalImplicit (by kernel_rfl)
  have kls := ok.k "_law_sent" .globalImplicit (by kernel_rfl)
  have kno := ok.k "normalize_outbound_headers" .globalImplicit (by kernel_rfl)
  have kni := ok.k "normalize_inbound_headers" .globalImplicit (by kernel_rfl)
  have km := ok.k "_law_marked" .globalImplicit (by kernel_rfl)
  have klr := ok.k "_law_read" .globalImplicit (by kernel_rfl)
  have klb := ok.k "_law_bare" .globalImplicit (by kernel_rfl)
  have hc : ∀ (scope : Scope) C (y : Str), scope.names.lookup y = some .local → (compEnvC scope [] C env).kindOf y = some .local := fun scope C y h => lookup_relabel_local h
  -- head
  obtain ⟨hd, hhd⟩ : ∃ hd : Int, (sc ≠ [] → sc.head? = some hd) ∧ (sc = [] → hd = 0) := by
    cases sc with
    | nil => exact ⟨0, fun h => absurd rfl h, fun _ => rfl⟩
    | cons a r => exact ⟨a, fun _ => rfl, fun h => by cases h⟩
  refine exp_cons (exp_assign (p := .int hd) (ev_if (b := (scPV sc).truth) (evt_value (p := scPV sc) (ev_name (by rfl)) (tr_sc hlen)) (fun hb => ?_) (fun hb => ?_)) kh no1) ?_
  · refine ev_sub (T := "list") (ev_name (p := scPV sc) (by rfl)) (ev_int (i := 0)) ty_sc slot_list_getitem.lookup (idx_sc (k := 0) ?_ hlen)
    have hne : sc ≠ [] := fun q => by subst q; exact absurd hb (by decide)
    have := hhd.1 hne
    cases sc with
    | nil => exact absurd rfl hne
    | cons a r => cases this; rfl
  · have hnil : sc = [] := by
      cases sc with
      | nil => rfl
      | cons a r => exact absurd hb (by show ¬ (r.length + 1 != 0) = false; simp)
    rw [hhd.2 hnil]
    exact ev_int
  -- the block
  obtain ⟨i0, hi0, hl0⟩ := fmod_range hd (m := 5) (by decide)
  have hi5 : i0 < lawBlocks.length := by show i0 < 5; omega
  obtain ⟨b0, hb0⟩ : ∃ b, lawBlocks[i0]? = some b := ⟨_, List.getElem?_eq_getElem hi5⟩
  have bok0 := block_ok (List.mem_of_getElem? hb0)
  refine exp_cons (exp_assign (p := .lst (b0.map fun p => p.hd.pv)) (ev_list_of kl (ev_at (k := i0) (ev_blocks kbl) (ev_eq' (ev_bin (ev_name (p := .int hd) (by rfl)) evl_int (bin_mod_int (by decide))) (by rw [hi0])) (by rw [List.length_map]; show 5 ≤ _; omega) (by rw [List.getElem?_map, hb0]; rfl)) (by rw [List.length_map]; have := bok0.1; omega)) kb no1) ?_
  have hsl : ∀ Γ p1 p2 p3 p4 p5 k1 k2, Γ.vars.lookup ("script" : Str) = some (scPV sc) → EvP prog w 40 env Γ (.Subscript (.Name "script" p1) (.Slice (some (.Constant (.int 1) k1 p2)) (some (.Constant (.int 9) k2 p3)) none p4) p5) (.lst (((sc.drop (clipAt sc.length 1)).take (clipAt sc.length 9 - clipAt sc.length 1)).map .int)) := by
    intro Γ p1 p2 p3 p4 p5 k1 k2 h
    have := ev_slice (prog := prog) (w := w) (n := 40) (env := env) (Γ := Γ) (T := "list") (p2 := p4) (pos := p5) (value := .Name "script" p1) (ev_name h) (part_some (e := .Constant (.int 1) k1 p2) ev_int) (part_some (e := .Constant (.int 9) k2 p3) ev_int) ty_sc slot_list_getitem.lookup (sli_sc hlen)
    rw [List.map_take, List.map_drop]
    exact this
  have hds := clip_drop sc
  generalize (sc.drop (clipAt sc.length 1)).take (clipAt sc.length 9 - clipAt sc.length 1) = ds at hsl hds
  refine exp_forS (g := PV.int) (ins := ds) (fun b d => turnP b d) (TuR hd) b0 (evIt_list (hsl _ _ _ _ _ _ _ _ (by rfl)) fun v => rfl) ⟨_, rfl, by rfl, by rfl, by
      have : BOk (0 + (8 - ds.length)) b0 := ⟨by have := bok0.1; omega, fun p hp => ⟨(bok0.2 p hp).1, by have := (bok0.2 p hp).2.1; omega, by have := (bok0.2 p hp).2.2; omega⟩⟩
      rwa [Nat.zero_add] at this, hds⟩ (fun Γ' hR => ?_) fun σ d tl Γ hR => ?_
  · obtain ⟨vars, rfl, v1, v2, hbk, _⟩ := hR
    have bf := bf_of hbk (by simp)
    generalize ds.foldl turnP b0 = block at v1 hbk bf
    have v1' : vars.lookup ("block" : Str) = some (.lst ((block.map P2.hd).map Hd.pv)) := by rw [hd_map]; exact v1
    obtain ⟨sp, hsp⟩ : ∃ sp : Bool, ((hd.fdiv 5).fmod 2 == 1) = sp := ⟨_, rfl⟩
    obtain ⟨a1, ha1⟩ : ∃ a1 : Bool, ((hd.fdiv 10).fmod 2 == 0) = a1 := ⟨_, rfl⟩
    obtain ⟨a2, ha2⟩ : ∃ a2 : Bool, ((hd.fdiv 10).fmod 2 != 0) = a2 := ⟨_, rfl⟩
    obtain ⟨tr, htr⟩ : ∃ tr : Bool, (hd.fmod 5 == 4) = tr := ⟨_, rfl⟩
    obtain ⟨rs, hrs⟩ : ∃ rs : Bool, (hd.fmod 5 == 3) = rs := ⟨_, rfl⟩
    have sok := sent_ok (split := sp) bf
    have pok := plain_ok bf
    have smh := bf.smh
    have hbl : (block.map P2.hd).length ≤ 1000 := by rw [List.length_map]; have := bf.len; omega
    have hsl2 : (sentP sp block).length ≤ 1000 := sok.len
    refine exp_cons (exp_assign (p := .bool sp) (ev_eq' (ev_cmp (ev_bin (ev_bin (ev_name (p := .int hd) (by exact v2)) evl_int (bin_floordiv_int (by decide) (by decide))) evl_int (bin_mod_int (by decide))) evl_int cmp_eq_int) (by rw [hsp])) ksp no1) ?_
    refine exp_cons (exp_assign (p := .flg a1 tr rs false) (ev_flags (n := 37) khv (args_cons (evl_cons (ev_eq' (ev_cmp (ev_bin (ev_bin (ev_name (p := .int hd) (by exact v2)) evl_int (bin_floordiv_int (by decide) (by decide))) evl_int (bin_mod_int (by decide))) evl_int cmp_eq_int) (by rw [ha1]))
      (evl_cons (ev_eq' (ev_cmp (ev_bin (ev_name (p := .int hd) (by exact v2)) evl_int (bin_mod_int (by decide))) evl_int cmp_eq_int) (by rw [htr])) (evl_cons (ev_eq' (ev_cmp (ev_bin (ev_name (p := .int hd) (by exact v2)) evl_int (bin_mod_int (by decide))) evl_int cmp_eq_int) (by rw [hrs])) (evl_cons ev_bool evl_nil)))))) khe no1) ?_
    refine exp_cons (exp_assign (p := .flg a2 tr rs false) (ev_flags (n := 37) khv (args_cons (evl_cons (ev_eq' (ev_cmp (ev_bin (ev_bin (ev_name (p := .int hd) (by exact v2)) evl_int (bin_floordiv_int (by decide) (by decide))) evl_int (bin_mod_int (by decide))) evl_int cmp_ne_int) (by rw [ha2]))
      (evl_cons (ev_eq' (ev_cmp (ev_bin (ev_name (p := .int hd) (by exact v2)) evl_int (bin_mod_int (by decide))) evl_int cmp_eq_int) (by rw [htr])) (evl_cons (ev_eq' (ev_cmp (ev_bin (ev_name (p := .int hd) (by exact v2)) evl_int (bin_mod_int (by decide))) evl_int cmp_eq_int) (by rw [hrs])) (evl_cons ev_bool evl_nil)))))) kth no1) ?_
    refine exp_cons (exp_assign (p := .lst ((sentP sp block).map Hd.pv)) (ev_fn (n := 39) kls (by kernel_rfl) (by decide +kernel) (args_cons (evl_cons (ev_name (by exact v1)) (evl_cons (ev_name (p := .bool sp) (by rfl)) evl_nil))) (by kernel_rfl) (fn_sent (n := 38) bf.smp (by have := bf.len; omega))) kse no1) ?_
    refine exp_cons (exp_assign (p := .lst ((sentP sp block).map Hd.pv)) (ev_eq' (ev_list_gen (k := 37) (n' := 10) kl (evg_norm (hs := block.map P2.hd) (sp := sp) (fl := .flg a1 tr rs false) kno kl (by exact v1') (by decide +kernel) (by rfl) (ev_name (by rfl)) rfl smh hbl) (by omega) (by rw [told_sent bf.ok, List.length_map]; omega)) (by rw [told_sent bf.ok])) kto no1) ?_
    refine exp_cons (exp_iff (evt_differ (hs := sentP sp block) km (ev_name (by rfl)) (ev_name (by rfl)) (ev_name (by rfl)) (ev_name (by rfl)) (by rfl) (by rfl) (by with_unfolding_all rfl) (by omega)) rfl exp_nil) ?_
    refine exp_cons (exp_assign (p := .lst ((sentP sp block).map Hd.pv)) (ev_eq' (ev_list_gen (k := 37) (n' := 10) kl (evg_norm (hs := sentP sp block) (sp := sp) (fl := .flg a1 tr rs false) kno kl (by rfl) (by decide +kernel) (by rfl) (ev_name (by rfl)) rfl sok.sm hsl2) (by omega) (by rw [again_sent bf.ok, List.length_map]; omega)) (by rw [again_sent bf.ok])) kag no1) ?_
    refine exp_cons (exp_iff (evt_differ (hs := sentP sp block) km (ev_name (by rfl)) (ev_name (by rfl)) (ev_name (by rfl)) (ev_name (by rfl)) (by rfl) (by rfl) (by with_unfolding_all rfl) (by omega)) rfl exp_nil) ?_
    refine exp_cons (exp_acomp (outs := (plainP block).map Hd.pv) (Γc := ⟨[], none⟩) (evItS_list (ev_name (p := .lst (block.map fun p => p.hd.pv)) (by exact v1)) fun v => rfl) (compOk_nil (by decide) (by decide) rfl (by decide)) (by rw [List.length_map]; have := bf.len; omega) (fun C => ?_) kpl no1) ?_
    · have e : (plainP block).map Hd.pv = (block.filter fun _ => true).map fun p => Hd.pv (low (strip2 p.1), strip2 p.2, false) := by
        rw [List.filter_eq_self.mpr fun _ _ => rfl]; unfold plainP; rw [List.map_map]; rfl
      rw [e]
      refine compE_pair (hc _ _ _ (by decide)) (hc _ _ _ (by decide)) fun p hp Γ h1 h2 => ⟨ifs_nil, fun _ => ?_⟩
      have s1 : Sm p.1 := Nat.le_trans (bf.sz p hp).1 (by omega)
      have s2 : Sm p.2 := Nat.le_trans (bf.sz p hp).2 (by omega)
      exact ev_tuple (ps := [.byt (low (strip2 p.1)), .byt (strip2 p.2)]) (evl_cons (ev_lower (ev_strip2 (ev_name h1) s1 rfl rfl) (Nat.le_trans (strip2_size _) s1) rfl rfl) (evl_cons (ev_strip2 (ev_name h2) s2 rfl rfl) evl_nil))
    have hpair : ∀ (C : Addr) (l : List Hd) p1 p2 p3 p4 p5 p6 p7 p8 k1 k2 k3, CompE prog w 40 (compEnvC { kind := .function, names := [(".0", .local), ("field", .local)], isGenerator := false, isCoroutine := false } [] C env) (.Name "field" p1) []
        (.Tuple [.Subscript (.Name "field" p2) (.Constant (.int 0) k1 p3) p4, .Subscript (.Name "field" p5) (.Constant (.int 1) k2 p6) p7] k3 p8) ⟨[], none⟩ (l.map Hd.pv) ((l.map unmark).map Hd.pv) := by
      intro C l p1 p2 p3 p4 p5 p6 p7 p8 k1 k2 k3
      have e : (l.map unmark).map Hd.pv = (l.filter fun _ => true).map fun h => (unmark h).pv := by
        rw [List.filter_eq_self.mpr fun _ _ => rfl, List.map_map]; rfl
      rw [e]
      exact compE_name (g := Hd.pv) (hc _ _ _ (by decide)) fun h hh Γ h1 => ⟨ifs_nil, fun _ => ev_tuple (ps := [.byt h.1, .byt h.2.1]) (evl_cons (ev_h0 (h := h) h1) (evl_cons (ev_h1 (h := h) h1) evl_nil))⟩
    refine exp_cons (exp_acomp (outs := ((sentP sp block).map unmark).map Hd.pv) (Γc := ⟨[], none⟩) (evItS_list (ev_name (p := .lst ((sentP sp block).map Hd.pv)) (by rfl)) fun v => rfl) (compOk_nil (by decide) (by decide) rfl (by decide)) (by rw [List.length_map]; omega) (fun C => hpair C _ _ _ _ _ _ _ _ _ _ _ _) kpa no1) ?_
    -- the trials
    refine exp_forS (g := fun l : List Hd => .tup [.lst (l.map Hd.pv), .lst ((l.map unmark).map Hd.pv)]) (ins := [plainP block, sentP sp block]) (fun (_ : Unit) _ => ()) (fun _ l Γ => TrR (.flg a1 tr rs false) (.flg a2 tr rs false) (.lst (block.map fun p => p.hd.pv)) (.lst (((sentP sp block).map unmark).map Hd.pv)) sp l Γ) ()
      (evIt_tuple (ev_tuple (ps := [.tup [.lst ((plainP block).map Hd.pv), .lst (((plainP block).map unmark).map Hd.pv)], .tup [.lst ((sentP sp block).map Hd.pv), .lst (((sentP sp block).map unmark).map Hd.pv)]]) (evl_cons (ev_tuple (evl_cons (ev_name (p := .lst ((plainP block).map Hd.pv)) (by rfl)) (evl_cons (ev_name (p := .lst (((plainP block).map unmark).map Hd.pv)) (by rw [plain_un]; rfl)) evl_nil)))
        (evl_cons (ev_tuple (evl_cons (ev_name (p := .lst ((sentP sp block).map Hd.pv)) (by rfl)) (evl_cons (ev_name (p := .lst (((sentP sp block).map unmark).map Hd.pv)) (by rfl)) evl_nil))) evl_nil))) fun v => rfl)
      ⟨_, rfl, by rfl, by rfl, by exact v1, by rfl, by rfl, fun x hx => ?_⟩ (fun Γ' hR => ?_) fun σ l tl Γ hR => ?_
    · rcases List.mem_cons.mp hx with rfl | hx
      · exact pok
      · rcases List.mem_cons.mp hx with rfl | hx
        · exact sok
        · cases hx
    · obtain ⟨vars2, rfl, w1, w2, w3, w4, w5, _⟩ := hR
      have eun : ∀ l : List Hd, l.map unmark = (l.map prOf).map P2.hd := fun l => by rw [List.map_map]; rfl
      have erd : ∀ l : List Hd, combineB (l.map unmark) = readP (l.map prOf) := fun l => by rw [eun, combine_read]
      have rlen : ∀ l : List P2, (readP l).length ≤ l.length + 1 := fun l => by
        unfold readP
        rw [List.length_append, List.length_map]
        have h1 : (rest2 l).length ≤ l.length := List.length_filter_le _ _
        split
        · simp; omega
        · simp; omega
      have hrl : (readP ((sentP sp block).map prOf)).length ≤ 2000 := by have := rlen ((sentP sp block).map prOf); rw [List.length_map] at this; omega
      have w4' : vars2.lookup ("pairs" : Str) = some (.lst (((sentP sp block).map prOf).map fun p => p.hd.pv)) := by rw [← pr_map]; exact w4
      have w3' : vars2.lookup ("block" : Str) = some (.lst ((block.map P2.hd).map Hd.pv)) := by rw [hd_map]; exact w3
      have hrs : ∀ p ∈ (sentP sp block).map prOf, p.2.size ≤ 500 := fun p hp => by
        obtain ⟨h, hh, rfl⟩ := List.mem_map.mp hp
        have := (sok.sz h hh).2
        show h.2.1.size ≤ 500
        omega
      have fr := fn_read (prog := prog) (w := w) (n := 38) hrs (by rw [List.length_map]; omega)
      have hread : ∀ {vars3 : List (Str × PV)} p1 p2 p3, vars3.lookup ("pairs" : Str) = some (.lst (((sentP sp block).map prOf).map fun p => p.hd.pv)) → EvP prog w 40 env ⟨vars3, none⟩ (.Call (.Name "_law_read" p1) [.Name "pairs" p2] [] p3) (.lst ((readP ((sentP sp block).map prOf)).map Hd.pv)) :=
        fun p1 p2 p3 h => ev_fn (n := 39) klr (by kernel_rfl) (by decide +kernel) (args_cons (evl_cons (ev_name h) evl_nil)) (by kernel_rfl) fr
      refine exp_cons (exp_assign (p := .lst ((readP ((sentP sp block).map prOf)).map Hd.pv)) (ev_eq' (ev_list_gen (k := 37) (n' := 2) kl (evg_read (hs := (sentP sp block).map unmark) (fl := .flg a2 tr rs false) kni (ev_list_of kl (ev_name (by exact w4)) (by rw [List.length_map, List.length_map]; omega)) (by rfl) (by exact w2) sok.un.sm sok.un.len) (by omega) (by rw [erd, List.length_map]; omega)) (by rw [erd])) kre no1) ?_
      refine exp_cons (exp_iff (evt_differ (hs := readP ((sentP sp block).map prOf)) km (ev_name (by rfl)) (hread _ _ _ (by exact w4')) (ev_name (by rfl)) (hread _ _ _ (by exact w4')) (by rfl) (by rfl) (by with_unfolding_all rfl) (by omega)) rfl exp_nil) ?_
      have sok2 := sent_ok (split := !sp) bf
      have hgen : ∀ {vars3 : List (Str × PV)} p1 p2 p3 p4 p5 p6 p7 p8, vars3.lookup ("block" : Str) = some (.lst ((block.map P2.hd).map Hd.pv)) → vars3.lookup ("here" : Str) = some (.flg a1 tr rs false) → vars3.lookup ("split" : Str) = some (.bool sp) →
          EvG0 prog w 40 10 env ⟨vars3, none⟩ (.Call (.Name "normalize_outbound_headers" p1) [.Call (.Name "list" p2) [.Name "block" p3] [] p4, .Name "here" p5, .UnaryOp .Not (.Name "split" p6) p7] [] p8) ((sentP (!sp) block).map Hd.pv) .done := fun {vars3} p1 p2 p3 p4 p5 p6 p7 p8 h1 h2 h3 => by
        have := evg_norm (prog := prog) (w := w) (env := env) (Γ := ⟨vars3, none⟩) (hs := block.map P2.hd) (sp := !sp) (fl := .flg a1 tr rs false) (se := .UnaryOp .Not (.Name "split" p6) p7) (p1 := p1) (p2 := p2) (p3 := p3) (p4 := p4) (p5 := p5) (p6 := p8) kno kl h1 (by decide +kernel) h2 (ev_not (p := .bool sp) (ev_name h3) tr_bool) rfl smh hbl
        rw [told_sent bf.ok] at this
        exact this
      refine exp_cons (exp_acomp (outs := ((sentP (!sp) block).map unmark).map Hd.pv) (Γc := ⟨[], none⟩) (evItS_gen (k := 40) (n' := 10) (hgen _ _ _ _ _ _ _ _ (by exact w3') (by exact w1) (by exact w5)) (by omega) fun v => rfl) (compOk_nil (by decide) (by decide) rfl (by decide)) (by rw [List.length_map]; have := sok2.len; omega) (fun C => hpair C _ _ _ _ _ _ _ _ _ _ _ _) kot no1) ?_
      have fb := fn_bare (prog := prog) (w := w) (n := 37) bf.smp
      have hcmp : bareP block = true → combineB ((sentP (!sp) block).map unmark) = readP ((sentP sp block).map prOf) := fun hb => by rw [erd]; exact read_same bf.ok hb _ _
      have hres : (if (PV.bool (!bareP block)).truth then PV.bool (!bareP block) else PV.bool true) = .bool true := by cases bareP block <;> rfl
      refine exp_cons1 (exp_return (ev_eq' (ev_or2 (p := .bool (!bareP block)) (q := .bool true) (ev_not (p := .bool (bareP block)) (ev_fn (n := 39) klb (by kernel_rfl) (by decide +kernel) (args_cons (evl_cons (ev_name (by exact w3)) evl_nil)) (by kernel_rfl) fb) tr_bool) tr_bool fun hb => ?_) hres))
      have hb' : bareP block = true := by
        have : (!bareP block) = false := hb
        simpa using this
      refine ev_cmp (p := .lst ((readP ((sentP sp block).map prOf)).map Hd.pv)) (q := .lst ((readP ((sentP sp block).map prOf)).map Hd.pv)) (ev_eq' (ev_list_gen (k := 37) (n' := 2) kl (evg_read (hs := (sentP (!sp) block).map unmark) (fl := .flg a2 tr rs false) kni (ev_name (by rfl)) (by rfl) (by exact w2) sok2.un.sm sok2.un.len) (by omega) (by rw [hcmp hb', List.length_map]; omega)) (by rw [hcmp hb'])) (ev_name (by rfl)) (cmpe_hds (n := 38) _)
    · obtain ⟨vars2, rfl, w1, w2, w3, w4, w5, w6⟩ := hR
      obtain ⟨p, q, hx⟩ := htrial l tr rs a1 a2 (("bare", .lst ((l.map unmark).map Hd.pv)) :: ("trial", .lst (l.map Hd.pv)) :: vars2) (w6 l (.head _)) (by rfl) (by rfl) (by exact w1) (by exact w2)
      exact ⟨_, _, asg_pair ktr kba no2, ⟨_, rfl, by exact w1, by exact w2, by exact w3, by exact w4, by exact w5, fun x hx => w6 x (.tail _ hx)⟩, .inl hx⟩
  · obtain ⟨vars, rfl, v1, v2, hbk, hl8⟩ := hR
    rw [List.length_cons] at hbk hl8
    have hbk' := turn_ok (d := d) hbk
    have hk8 : 8 - (tl.length + 1) + 1 = 8 - tl.length := by omega
    rw [hk8] at hbk'
    refine ⟨_, ⟨("block", .lst ((turnP σ d).map fun p => p.hd.pv)) :: ("drawn", .int d) :: vars, none⟩, asg_name kd no1, ⟨_, rfl, by rfl, by exact v2, hbk', by omega⟩, .inl (exp_cons1 (exp_assign (ev_fn (n := 39) ktu (by kernel_rfl) (by decide +kernel) (args_cons (evl_cons (ev_name (by exact v1)) (evl_cons (ev_name (by rfl)) evl_nil))) (by kernel_rfl) (fn_turned (n := 38) (fun p hp => ⟨by have := (hbk.2 p hp).2.1; omega, by have := (hbk.2 p hp).2.2; omega⟩) (by have := hbk.1; omega))) kb no1))⟩
end
end Mine

namespace Mine
open PySem PySem.W PySem.Calls PyProof.Rows

theorem nums_rep {G : GH} : ∀ {vs : List Value} {l : List Int}, IntsAre vs l → RepL G (l.map .int) vs
  | _, _, .nil => .nil
  | _, _, .cons n t h => .cons mk_int (nums_rep h)
theorem no_tabs {w : World} : noTabs (topK w) = true := by kernel_rfl
theorem cd_263 {w : World} : codeHdIn (topK w) 267 263 = true := by kernel_rfl

/-- from the law's run to what the row asks -/
theorem join_law {prog p : Program} {w : World} {s₁ : Shared} {loose : List Str} {mean : ExcName → Option Value} {mg mb : Str → Option Value} {fa l : Addr} {vs : List Value} {numsL : List Int} {c : ClaimW} {cl : Str → Option Addr} {mn : ExcName → Option Value} {args : List WData}
    (KX : (topK w).In s₁.heap) (hT8 : s₁.heap.get? 263 = some (tabObj #[])) (T : Top p loose mean mg mb s₁.heap) (t1 : CodeHd s₁.heap 260 256 ∧ s₁.heap.get? 256 = some (tabObj #[])) (t2 : CodeHd s₁.heap 295 291 ∧ s₁.heap.get? 291 = some (tabObj #[]))
    (hmg : mg "law" = some (.ref fa)) (hL : s₁.heap.IsList l vs.toArray) (hI : IntsAre vs numsL) (hg : s₁.gens = #[]) (hlen : numsL.length ≤ 63)
    (hraise : ∀ cls, c.raises args cls = false) (hpost : c.post args (.bool true) args = true) (hread : ∀ h : Heap, ReadsW c.records cl h (.bool true) (.bool true) []) :
    codeAny (model prog w) callerA (.call (.ref fa) ⟨[.ref l], []⟩) (GoodWG c cl mn args s₁) s₁ := by
  have hT : TabsAt tabs s₁.heap := fun q hq => by
    simp only [tabs, List.mem_cons, List.not_mem_nil, or_false] at hq
    rcases hq with rfl | rfl | rfl
    · exact ⟨codeHd_of_K KX cd_263, hT8⟩
    · exact t1
    · exact t2
  have hfa : fa = 424 := by
    have := mg_of KX T.g (show nsIn (topK w) mainGlobals "law" = some (some (.ref 424)) from by kernel_rfl)
    rw [hmg] at this
    cases this; rfl
  subst hfa
  have gt := ghost_top hT T
  have base : Base w (ghostOf s₁.heap tabs) := ⟨ghost_K hT KX no_tabs, ⟨_, _, _, _, gt⟩, fun q hq => by
    have hc := ghost_code hT
    simp only [tabs, List.mem_cons, List.not_mem_nil, or_false] at hq
    obtain ⟨c1, c2, c3, _⟩ := hc
    rcases hq with rfl | rfl | rfl
    · exact c1
    · exact c2
    · exact c3⟩
  have W : Wld w (fun a => (ghostOf s₁.heap tabs).get? a) s₁ := {
    sub := fun a o e => of_hideAll _ e
    base := ⟨_, base, fun b o e => e⟩
    tab := fun q hq => ⟨hideAll_none _ (List.mem_map_of_mem hq), #[], (hT q hq).2, trivial, fun _ pos _ _ c' h => by cases h⟩
    bare := .of_eq hg }
  have rep : RepL (fun a => (ghostOf s₁.heap tabs).get? a) [scPV numsL] [.ref l] := by
    obtain ⟨o, ho, hc, ep, hd⟩ := hL
    refine .cons ?_ .nil
    unfold scPV Rep
    exact ⟨l, o, rfl, ghost_get hT ho (fun q => by rw [q] at hc; cases hc), hc, _, ep, hd, fun G => nums_rep hI⟩
  have rm : Rm 41 callerA := ⟨rfl, by decide, by decide, rfl⟩
  have cx : Cx 41 callerA (fun a => (ghostOf s₁.heap tabs).get? a) s₁ := ⟨rm, [], rfl, fun _ h => by cases h⟩
  refine codeAny_mono (fn_law hlen callerA _ s₁ [.ref l] W rep cx) fun r s' h => ?_
  obtain ⟨G', g, v, rfl, rv⟩ := h
  rw [rep_bool rv]
  have keep : ∀ b o, b ∉ tabs.map (·.2) → s₁.heap.get? b = some o → s'.heap.get? b = some o := fun b o hb e => g.wld.sub _ _ (g.sub _ _ (ghost_ne e hb))
  refine ⟨.inl ⟨.bool true, .bool true, [], rfl, hraise, hread _, hpost, fun _ => ⟨List.nodup_nil, fun a ha => by cases ha⟩⟩, ⟨fun b o e => ?_, fun b o e => g.ext.live b o e⟩, g.ext.os, g.wld.bare⟩
  by_cases hb : b ∈ tabs.map (·.2)
  · obtain ⟨q, hq, rfl⟩ := List.mem_map.mp hb
    have e2 := (hT q hq).2
    rw [e] at e2
    cases e2
    obtain ⟨_, ps, hP, _⟩ := g.wld.tab q hq
    exact .inr (.inl ⟨((hT q hq).1.tab (hT q hq).2).isCodeTable, rfl, #[], ps, rfl, by rw [Array.empty_append]; exact hP⟩)
  · exact .inl (keep b o hb e)
end Mine

set_option maxRecDepth 100000 in
set_option maxHeartbeats 8000000 in
theorem PySem.Challenge.cw_iv0019_01_holds : PySem.Challenge.rw_iv0019_01.Holds := by
  refine Mine.hd ?_
  k_fill
  intro w s₀ s₁ mg mb G Y fa o pm cd doc dV kV ho hd hcd hD hmg hg args vals as hpre hlay hrd hwl hlo
  have KX := km_in_of Y
  km_tabs Y
  refine Ground.open G ?_
  intro T B D TE TW
  try (refine guard_noD D (by decide +kernel) ?_; clear D)
  wrow_args hpre hlay hrd hwl hlo
  all_goals (
    first | refine callC_kw (enter_call ?_) | refine enter_call ?_
    clear hd)
  rename_i nums hs hlay0 hL1 hr1 hl2 as4 as3 l vs as0 hL ra w1 r0 hI hr hc1 hc2
  refine Mine.join_law KX (hT8 263 (by simp)) T ?t1 ?t2 hmg hL hI hg (by omega) ?raise ?post (fun h => .bool true)
  case t1 => exact tab_of (x := "_check_host_authority_header") T KX (by rfl) (by kernel_rfl)
  case t2 => exact tab_of (x := "_check_sent_host_authority_header") T KX (by rfl) (by kernel_rfl)
  case raise => intro cls; rfl
  case post =>
    first
      | kernel_rfl
      | (refine postW_of ?s ?v ?e; (case s => o_shape); (case v => wtm_val); (case e => w_fin))
