import PyProof.Rows.All
import Wide.All
import OpenK.AllK
import Wide.FinOn
import Lean
import PySem.Challenge.RW_lh0029_01
open PySem PySem.W PyProof.Rows
set_option Elab.async false
set_option compiler.extract_closed false
namespace Lh
section
open PySem.Calls
/-- the top's run over a tree of objects, its three looks handed in -/
def runG (thr : Thread → Bool) (ok : Thread → Bool) (stp : SharedT → Thread → Option (SharedT × Thread)) : Nat → SharedT → Thread → Option SharedT
  | 0, _, _ => none
  | n + 1, s, t => match thr t with
    | true => some s
    | false => match ok t with
      | false => none
      | true => match stp s t with
        | some r => runG thr ok stp n r.1 r.2
        | none => none
theorem runG_of {tb : String → Option Builtin} {p : Program} {w : World} {n₀ : Nat} {ann : Option Value} : ∀ {n : Nat} {s r : SharedT} {t : Thread},
    runG through (stepOk n₀ ann) (stepT (denote tb) p w) n s t = some r → topRun tb p w n₀ ann n s.abs t = some r.abs
  | 0, _, _, _, h => by cases h
  | n + 1, s, r, t, h => by
    unfold runG at h
    unfold topRun
    cases ht : through t with
    | true => rw [ht] at h; cases h; rfl
    | false =>
      rw [ht] at h
      cases hk : stepOk n₀ ann t with
      | false => rw [hk] at h; cases h
      | true =>
        rw [hk] at h
        cases hs : stepT (denote tb) p w s t with
        | none => rw [hs] at h; cases h
        | some x => obtain ⟨s₂, t₂⟩ := x; rw [hs] at h; rw [stepT_spec hs]; exact runG_of h
theorem left_three {p q : Program} {loose : List Str} {Xt : Shared → Bool} {α : Type} {Yf : Shared → α} {Ya : World → α} {N : Nat} {g0 : Bool} {H₀ : Params → Heap} {T₀ : Params → BT} {nn : Nat} {life : Params → Life} {gs₀ : Array GenState} {d₀ : Drawn} {k₀ m₀ : Nat} {ann : Option Value}
    (open_ : ∀ w : World, (fencedOpening treeTable p w N).map (fun s => (s.heap, s.gens, s.drawn, s.toks)) = some (H₀ w.params, gs₀, d₀, k₀))
    (size : ∀ w : World, ((H₀ w.params).isNs mainGlobals && gs₀.size == 0, (H₀ w.params).objs.size, (H₀ w.params).nsMap mainGlobals "__annotations__") = (true, m₀, ann))
    (tree : ∀ P, absHeap (T₀ P) nn (life P) = H₀ P)
    (run1 : ∀ (w : World) (os : OsState), (runG through (stepOk m₀ ann) (stepT (denote treeTable) p w) N ⟨T₀ w.params, nn, life w.params, gs₀, d₀, k₀, os⟩ (topStub p)).map (fun s =>
      (staticsOk (importedModules p.main.body) (H₀ w.params) s.abs.heap && namesBound p s.abs.heap && gensDone s.abs && laidKept (H₀ w.params) s.abs.heap)) = some true)
    (run2 : ∀ (w : World) (os : OsState), (runG through (stepOk m₀ ann) (stepT (denote treeTable) p w) N ⟨T₀ w.params, nn, life w.params, gs₀, d₀, k₀, os⟩ (topStub p)).map (fun s => openSeen q loose (importedModules p.main.body) Xt g0 s.abs) = some (openGood q loose))
    (run3 : ∀ (w : World) (os : OsState), (runG through (stepOk m₀ ann) (stepT (denote treeTable) p w) N ⟨T₀ w.params, nn, life w.params, gs₀, d₀, k₀, os⟩ (topStub p)).map (fun s => Yf s.abs) = some (Ya w)) : LeftO p q loose Xt Yf Ya N g0 := fun w => by
  obtain ⟨⟨h, gs, d, k, os⟩, e, e'⟩ := Option.map_eq_some_iff.mp (open_ w)
  obtain ⟨rfl, rfl, rfl, rfl⟩ : h = H₀ w.params ∧ gs = gs₀ ∧ d = d₀ ∧ k = k₀ := by simpa using e'
  obtain ⟨z1, z2, z3⟩ : _ ∧ _ ∧ _ := by simpa only [Prod.mk.injEq] using size w
  obtain ⟨r, hr, l1⟩ := Option.map_eq_some_iff.mp (run1 w os)
  have l2 := run2 w os
  have l3 := run3 w os
  rw [hr] at l2 l3
  replace l2 := Option.some.inj l2
  replace l3 := Option.some.inj l3
  have r1 := runG_of hr
  have ab : SharedT.abs ⟨T₀ w.params, nn, life w.params, gs, d, k, os⟩ = ⟨H₀ w.params, gs, d, k, os⟩ := by
    show Shared.mk (absHeap _ _ _) _ _ _ _ = _
    rw [tree]
  rw [ab] at r1
  have t : topFrom treeTable p w N ⟨H₀ w.params, gs, d, k, os⟩ = some r.abs := by
    unfold topFrom
    dsimp only
    rw [z1, z2, z3, r1]
    show (match staticsOk (importedModules p.main.body) (H₀ w.params) r.abs.heap && namesBound p r.abs.heap && gensDone r.abs && laidKept (H₀ w.params) r.abs.heap with | true => _ | false => _) = _
    rw [l1]
  unfold openEnds
  rw [e]
  show (topFrom treeTable p w N _).map _ = _
  rw [t]
  exact congrArg some (Prod.ext l2 l3)
noncomputable def bootT (P : Params) : BT := (BT.node (boot_o_0 P) (BT.node (boot_o_1 P) (BT.node (boot_o_3 P) (BT.node (boot_o_7 P) BT.nil BT.nil) BT.nil) (BT.node (boot_o_5 P) (BT.node (boot_o_9 P) BT.nil BT.nil) BT.nil)) (BT.node (boot_o_2 P) (BT.node (boot_o_4 P) (BT.node (boot_o_8 P) BT.nil BT.nil) BT.nil) (BT.node (boot_o_6 P) (BT.node (boot_o_10 P) BT.nil BT.nil) BT.nil)))
theorem bootT_abs (P : Params) : absHeap (bootT P) 11 (boot_heap P).life = boot_heap P := by kernel_rfl
theorem boot_size (w : World) : ((boot_heap w.params).isNs mainGlobals && (Array.mk [] : Array GenState).size == 0, (boot_heap w.params).objs.size, (boot_heap w.params).nsMap mainGlobals "__annotations__") = (true, 11, some (.ref 6)) := by kernel_rfl
theorem twinP : (PySem.Challenge.pw_lh0029_01.main.body.length == 37) = true := by k_qdec
def keepB : List Bool → List Stmt → List Stmt
  | true :: r, s :: l => s :: keepB r l
  | false :: r, _ :: l => keepB r l
  | _, _ => []
open PySem.Calls
def view : Program := { PySem.Challenge.pw_lh0029_01 with main := { PySem.Challenge.pw_lh0029_01.main with body := keepB [true, false, false, true, false, true, false, true, false, true, false, true, false, true, false, true, false, true, true, true, true, true, true, true, true, true, true, false, true, true, true, true, true, true, true, true, true] PySem.Challenge.pw_lh0029_01.main.body } }
theorem top1 (w : World) (os : OsState) : (runG through (stepOk 11 (some (.ref 6))) (stepT (denote treeTable) PySem.Challenge.pw_lh0029_01 w) 3738 ⟨bootT w.params, 11, (boot_heap w.params).life, Array.mk [], boot_drawn, boot_toks, os⟩ (topStub PySem.Challenge.pw_lh0029_01)).map (fun s => (staticsOk (importedModules PySem.Challenge.pw_lh0029_01.main.body) (boot_heap w.params) s.abs.heap && namesBound PySem.Challenge.pw_lh0029_01 s.abs.heap && gensDone s.abs && laidKept (boot_heap w.params) s.abs.heap)) = some true := by
  rw [PySem.W.Fast.te6613529449190102663, PySem.W.Fast.te10156331382660048174, PySem.W.Fast.te11892475500146522536, PySem.W.Fast.te14364793385576792824, PySem.W.Fast.te5923862056798008813]
  kernel_rfl
theorem top2 (w : World) (os : OsState) : (runG through (stepOk 11 (some (.ref 6))) (stepT (denote treeTable) PySem.Challenge.pw_lh0029_01 w) 3738 ⟨bootT w.params, 11, (boot_heap w.params).life, Array.mk [], boot_drawn, boot_toks, os⟩ (topStub PySem.Challenge.pw_lh0029_01)).map (fun s => openSeen Lh.view [Str.ofString "is_inf_optimized_curve", Str.ofString "double_optimized_curve", Str.ofString "add_optimized_curve", Str.ofString "multiply_optimized_curve", Str.ofString "eq_optimized_curve", Str.ofString "FQ", Str.ofString "is_inf_optimized_curve2", Str.ofString "double_optimized_curve2", Str.ofString "add_optimized_curve2", Str.ofString "multiply_optimized_curve2", Str.ofString "eq_optimized_curve2"] (importedModules PySem.Challenge.pw_lh0029_01.main.body) (fun s => xlAt Lh.view ([] : List (Str × WData)) s && recOk (RowW.records (OpenRow.toRowW (OpenLaw.row PySem.Challenge.rw_lh0029_01))) s) true s.abs) = some (openGood Lh.view [Str.ofString "is_inf_optimized_curve", Str.ofString "double_optimized_curve", Str.ofString "add_optimized_curve", Str.ofString "multiply_optimized_curve", Str.ofString "eq_optimized_curve", Str.ofString "FQ", Str.ofString "is_inf_optimized_curve2", Str.ofString "double_optimized_curve2", Str.ofString "add_optimized_curve2", Str.ofString "multiply_optimized_curve2", Str.ofString "eq_optimized_curve2"]) := by
  rw [PySem.W.Fast.te6613529449190102663, PySem.W.Fast.te10156331382660048174, PySem.W.Fast.te11892475500146522536, PySem.W.Fast.te14364793385576792824, PySem.W.Fast.te5923862056798008813, PySem.W.Fast.te4187177175401517315]
  kernel_rfl
local macro_rules | `(tactic| o_head $H) => do
  let (hl, hw, hc) := (Lean.mkIdent `hl, Lean.mkIdent `hw, Lean.mkIdent `hc)
  `(tactic| (
    refine holds_open (q := Lh.view) (loose := [Str.ofString "is_inf_optimized_curve", Str.ofString "double_optimized_curve", Str.ofString "add_optimized_curve", Str.ofString "multiply_optimized_curve", Str.ofString "eq_optimized_curve", Str.ofString "FQ", Str.ofString "is_inf_optimized_curve2", Str.ofString "double_optimized_curve2", Str.ofString "add_optimized_curve2", Str.ofString "multiply_optimized_curve2", Str.ofString "eq_optimized_curve2"]) (Xt := (fun s => xlAt Lh.view ([] : List (Str × WData)) s && recOk (RowW.records (OpenRow.toRowW (OpenLaw.row PySem.Challenge.rw_lh0029_01))) s)) (XP := XL Lh.view ([] : List (Str × WData))) (Yf := Hook.obs $H) (Ya := Hook.val $H) (YP := Hook.says $H) (N := 3738) ?$hl (Hook.of $H) (Hook.keeps $H) (fun s e => xl_of s (Bool.and_eq_true_iff.mp e).1) XL.keeps (by rfl) (by rfl) (by rfl) (fun s e => recFacts_of (Bool.and_eq_true_iff.mp e).2) (by rfl) (by first | assumption | decide +kernel) (by decide +kernel) ⟨rfl, rfl, rfl, rfl, rfl, by decide +kernel⟩ ?$hw ?$hc
    · exact left_three (p := PySem.Challenge.pw_lh0029_01) (life := fun P => (boot_heap P).life) (boot_open rfl (by decide) (fun _ => rfl)) boot_size bootT_abs top1 top2 (by
      intro w os
      rw [PySem.W.Fast.te6613529449190102663, PySem.W.Fast.te10156331382660048174, PySem.W.Fast.te11892475500146522536, PySem.W.Fast.te14364793385576792824]
      kernel_rfl)
    all_goals (rename_i said; clear said)))
set_option maxRecDepth 100000 in
set_option maxHeartbeats 80000000 in
open_top hd for PySem.Challenge.rw_lh0029_01
end
def both (_ : OpenLaw) (_ : Params → Frag) : Prop := True
open PySem.Spec PySem.Calls
section
open Lean.Grind (CommRing)
structure Fl (α : Type) [CommRing α] : Prop where
  inv : ∀ a : α, a ≠ 0 → ∃ u, a * u = 1
  two : (2 : α) ≠ 0
  one : (1 : α) ≠ 0
theorem Fl.zd {α : Type} [CommRing α] (h : Fl α) {a b : α} (e : a * b = 0) (ha : a ≠ 0) : b = 0 := by
  obtain ⟨u, hu⟩ := h.inv a ha
  grind
theorem Fl.mul {α : Type} [CommRing α] (h : Fl α) {a b : α} (ha : a ≠ 0) (hb : b ≠ 0) : a * b ≠ 0 := fun e => hb (h.zd e ha)
theorem Fl.cancel {α : Type} [CommRing α] (h : Fl α) {a b c : α} (e : a * b = a * c) (ha : a ≠ 0) : b = c := by
  have : a * (b - c) = 0 := by grind
  have := h.zd this ha
  grind
inductive Sm {α : Type} [CommRing α] : Option (α × α) → Option (α × α) → Option (α × α) → Prop
  | nl (b) : Sm none b b
  | nr (a) : Sm a none a
  | opp (x y z : α) : y + z = 0 → Sm (some (x, y)) (some (x, z)) none
  | dbl (x y x3 y3 : α) : y ≠ 0 → (x3 + 2 * x) * (2 * y) * (2 * y) = 3 * x * x * (3 * x * x) → (y3 + y) * (2 * y) = 3 * x * x * (x - x3) → Sm (some (x, y)) (some (x, y)) (some (x3, y3))
  | gen (x1 y1 x2 y2 x3 y3 : α) : x1 ≠ x2 → (x3 + x1 + x2) * (x2 - x1) * (x2 - x1) = (y2 - y1) * (y2 - y1) → (y3 + y1) * (x2 - x1) = (y2 - y1) * (x1 - x3) → Sm (some (x1, y1)) (some (x2, y2)) (some (x3, y3))
def phi {α : Type} [CommRing α] (v : α) : Option (α × α) → Option (α × α)
  | none => none
  | some q => some (v * v * q.1, v * v * v * q.2)
theorem Sm.phi {α : Type} [CommRing α] (F : Fl α) {v : α} (hv : v ≠ 0) {a b r : Option (α × α)} (h : Sm a b r) : Sm (phi v a) (phi v b) (phi v r) := by
  cases h with
  | nl => exact Sm.nl _
  | nr => cases a <;> exact Sm.nr _
  | opp x y z h => exact Sm.opp _ _ _ (by dsimp only; grind)
  | dbl x y x3 y3 h1 h2 h3 =>
    refine Sm.dbl _ _ _ _ (F.mul (F.mul (F.mul hv hv) hv) h1) ?_ ?_
    · dsimp only; grind
    · dsimp only; grind
  | gen x1 y1 x2 y2 x3 y3 h1 h2 h3 =>
    refine Sm.gen _ _ _ _ _ _ (fun e => h1 (F.cancel e (F.mul hv hv))) ?_ ?_
    · dsimp only; grind
    · dsimp only; grind
def Rp {α : Type} [CommRing α] (o : Option (α × α)) (X Y Z : α) : Prop :=
  match o with
  | none => X = 1 ∧ Y = 1 ∧ Z = 0
  | some q => Z ≠ 0 ∧ X = q.1 * Z ∧ Y = q.2 * Z
theorem lin {α : Type} [CommRing α] {a b c l r : α} (h : l = r) (e : a - b = c * (l - r)) : a = b := by
  subst h; grind
theorem lin2 {α : Type} [CommRing α] {a b c l r c' l' r' : α} (h : l = r) (h' : l' = r') (e : a - b = c * (l - r) + c' * (l' - r')) : a = b := by
  subst h h'; grind
theorem Rp.dbl {α : Type} [CommRing α] (F : Fl α) {x y Z : α} {r : Option (α × α)} (h : Sm (some (x, y)) (some (x, y)) r) (hy : y ≠ 0) (hZ : Z ≠ 0) {X Y W S B H T : α} (hX : X = x * Z) (hY : Y = y * Z)
    (hW : W = X * 3 * X) (hS : S = Y * Z) (hB : B = X * Y * S) (hH : H = W * W - B * 8) (hT : T = S * S) : Rp r (H * 2 * S) (W * (B * 4 - H) - Y * 8 * Y * T) (S * 8 * T) := by
  cases h with
  | opp _ _ _ h =>
    exfalso
    exact hy (F.zd (by grind) F.two)
  | gen _ _ _ _ _ _ h => exact absurd rfl h
  | dbl _ _ x3 y3 h1 h2 h3 =>
    have hS0 : S ≠ 0 := by rw [hS, hY]; exact F.mul (F.mul hy hZ) hZ
    have e : H = (x3 * (4 * y * y)) * (Z * Z * Z * Z) := by
      subst hH hB hS hW hX hY
      refine lin (c := -(Z * Z * Z * Z)) h2 ?_
      clear h1 h2 h3 hT hS0 hy hZ F
      grind
    have eS : S = y * Z * Z := by rw [hS, hY]
    have eB : B = x * y * y * (Z * Z * Z * Z) := by subst hB hX hY eS; clear h1 h2 h3 hT hS0 hy hZ F e hW hH hS; grind
    have eW : W = 3 * x * x * Z * Z := by subst hW hX; clear h1 h2 h3 hT hS0 hy hZ F e hH hS eS eB hY hB; grind
    refine ⟨?_, ?_, ?_⟩
    · rw [hT]
      have : (8 : α) = 2 * 2 * 2 := by grind
      rw [this]
      exact F.mul (F.mul hS0 (F.mul (F.mul F.two F.two) F.two)) (F.mul hS0 hS0)
    · dsimp only
      rw [e, hT, eS]
      clear h1 h2 h3 hT hS0 hy hZ F e hH hS eS eB hY hB hW eW hX
      grind
    · dsimp only
      rw [e, hT, hY, eS, eB, eW]
      refine lin (c := -(4 * y * y) * (Z * Z * Z * Z * Z * Z)) h3 ?_
      clear h1 h2 h3 hT hS0 hy hZ F e hH hS eS eB hY hB hW eW hX
      grind
theorem id1 {α : Type} [CommRing α] (x1 x2 Z1 Z2 : α) : x2 * Z2 * Z1 - x1 * Z1 * Z2 = (x2 - x1) * (Z1 * Z2) := by grind
theorem id2 {α : Type} [CommRing α] (x1 Z1 Z2 : α) : x1 * Z1 * Z2 = x1 * (Z1 * Z2) := by grind
theorem id3 {α : Type} [CommRing α] (x1 x2 x3 u v W : α) : u * W * (u * W) * W - v * W * (v * W * (v * W)) - v * W * (v * W) * (x1 * W) * 2 - x3 * (v * W) * (v * W) * W =
    (-(W * W * W)) * ((x3 + x1 + (v + x1)) * v * v - u * u) := by grind
theorem id4 {α : Type} [CommRing α] (x3 V W : α) : V * (x3 * V * V * W) = x3 * (V * (V * V) * W) := by grind
theorem id5 {α : Type} [CommRing α] (x1 y1 x3 y3 u v W : α) : u * W * (v * W * (v * W) * (x1 * W) - x3 * (v * W) * (v * W) * W) - v * W * (v * W * (v * W)) * (y1 * W) - y3 * (v * W * (v * W * (v * W)) * W) =
   (-(v * v * (W * W * W * W))) * ((y3 + y1) * v - u * (x1 - x3)) := by grind
theorem id6 {α : Type} [CommRing α] (a b : α) (h : b - a = 0) : a = b := by grind
theorem id7 {α : Type} [CommRing α] (a b : α) : b = b - a + a := by grind
theorem Rp.gen {α : Type} [CommRing α] (F : Fl α) {x1 y1 x2 y2 Z1 Z2 : α} {r : Option (α × α)} (h : Sm (some (x1, y1)) (some (x2, y2)) r) (hx : x1 ≠ x2) (hZ1 : Z1 ≠ 0) (hZ2 : Z2 ≠ 0) {X1 Y1 X2 Y2 U1 U2 V1 V2 U V V_2 VV2 Vc W A : α}
    (hX1 : X1 = x1 * Z1) (hY1 : Y1 = y1 * Z1) (hX2 : X2 = x2 * Z2) (hY2 : Y2 = y2 * Z2)
    (hU1 : U1 = Y2 * Z1) (hU2 : U2 = Y1 * Z2) (hV1 : V1 = X2 * Z1) (hV2 : V2 = X1 * Z2) (hU : U = U1 - U2) (hV : V = V1 - V2) (hV_2 : V_2 = V * V) (hVV2 : VV2 = V_2 * V2) (hVc : Vc = V * V_2) (hW : W = Z1 * Z2) (hA : A = U * U * W - Vc - VV2 * 2) :
    Rp r (V * A) (U * (VV2 - A) - Vc * U2) (Vc * W) := by
  cases h with
  | opp => exact absurd rfl hx
  | dbl => exact absurd rfl hx
  | gen _ _ _ _ x3 y3 h1 h2 h3 =>
    have eW : W ≠ 0 := by rw [hW]; exact F.mul hZ1 hZ2
    have eV : V = (x2 - x1) * W := by rw [hV, hV1, hV2, hX1, hX2, hW]; exact id1 _ _ _ _
    have eU : U = (y2 - y1) * W := by rw [hU, hU1, hU2, hY1, hY2, hW]; exact id1 _ _ _ _
    have hd : x2 - x1 ≠ 0 := fun e => hx (id6 _ _ e)
    have hV0 : V ≠ 0 := by rw [eV]; exact F.mul hd eW
    have eV2 : V2 = x1 * W := by rw [hV2, hX1, hW]; exact id2 _ _ _
    have eU2 : U2 = y1 * W := by rw [hU2, hY1, hW]; exact id2 _ _ _
    have eA : A = x3 * V * V * W := by
      rw [hA, hVV2, hVc, hV_2, eV, eU, eV2]
      refine lin (c := -(W * W * W)) h2 ((id3 x1 x2 x3 (y2 - y1) (x2 - x1) W).trans ?_)
      rw [← id7 x1 x2]
    refine ⟨?_, ?_, ?_⟩
    · rw [hVc, hV_2]; exact F.mul (F.mul hV0 (F.mul hV0 hV0)) eW
    · dsimp only
      rw [eA, hVc, hV_2]
      exact id4 _ _ _
    · dsimp only
      rw [eA, hVV2, hVc, hV_2, eV, eU, eV2, eU2]
      exact lin h3 (id5 _ _ _ _ _ _ _)
end
theorem fill : both PySem.Challenge.rw_lh0029_01 Lh.hd.heap_39 := by
  k_fill
  trivial

abbrev fqD (w : World) (p n : Int) (t1 t2 t3 t4 : Tok) : Obj := dictOf [⟨PyData.keyHash w.params (Str.ofString "field_modulus"), .str (Str.ofString "field_modulus") t1, .int p t2⟩, ⟨PyData.keyHash w.params (Str.ofString "n"), .str (Str.ofString "n") t3, .int n t4⟩] 2

set_option maxRecDepth 100000 in
set_option maxHeartbeats 8000000 in
theorem mkFQ {w : World} {p : Program} {loose : List Str} {mean : ExcName → Option Value} {mg mb : Str → Option Value}
   {dp un : Nat} {gd : Option (List Code)} {cn : Str} {cs : Scope} {a : Addr} {ccd : Value} {cl : List (Str × Addr)} {outer : List Env} {A₀ : Around} {base h₀ : Heap} {L : Addr} {m : Str → Option Value} {s : Shared} {Q E : Value → Shared → Prop}
   {news : List (Addr × Obj)} {vv pp : Int} {tv tp : Tok}
    (B : Below A₀ base outer h₀) (F : Fr h₀ L s.heap m) (X : (hd.heap_39 w.params).In h₀) (N : News h₀ L s.heap news) (T : Top p loose mean mg mb h₀) (hk : cs.kind = .function)
    (hp : 0 < pp) (hd : dp + 3 < recursionLimit) (hu : un + 24 < cLine)
    (ret : ∀ (x dx : Addr) (t1 t2 t3 t4 : Tok) (h' : Heap) (tk' : Nat), Fr h₀ L h' m → News h₀ L h' ((x, instObj 221 dx) :: (dx, fqD w pp (vv.fmod pp) t1 t2 t3 t4) :: news) → Q (.ref x) { s with heap := h', toks := tk' }) :
    wpAny (model PySem.Challenge.rw_lh0029_01.row.prog w) (ktrTop dp un gd cn cs L a ccd cl outer) (call (.ref 221) [.int vv tv, .int pp tp]) Q E s := by
  k_dflt ((refine' call_cls ?k1 ?k2 ?k3 ?k4 ?k5 ?k6 ?_; (case k1 => k_asm); (case k2 => k_asm); (case k3 => k_asm); (case k4 => k_is); (case k5 => k_is); (case k6 => k_is); k_whole; intro x' d' h' F' N' l1 l2; (try k_lt l1); (try k_lt2 l2); (try k_sweep)))
  k_dflt cell_enter
  k_steps
  exact ret _ _ _ _ _ _ _ _ (by k_asm) (by k_asm)
theorem room_ofA {a d c M : Nat} (h : d + c < M) (h1 : a ≤ d + c) : a < M := Nat.lt_of_le_of_lt h1 h
local macro_rules | `(tactic| k_room) => `(tactic| ((try simp only [depth_under_make, depth_under_kw, depth_in1, depth_deeper, depth_caller]); (try dsimp only [ktrTop]); first | ((refine room_ofA (by with_reducible assumption) ?_); simp only [Nat.add_assoc, Nat.add_le_add_iff_left]; decide) | omega))
local macro_rules | `(tactic| k_units) => `(tactic| ((try simp only [units_in1, units_deeper, Around.mark_units, units_caller]); (try dsimp only [ktrTop]); first | ((refine room_ofA (by with_reducible assumption) ?_); simp only [Nat.add_assoc, Nat.add_le_add_iff_left]; decide) | omega))
local macro_rules | `(tactic| k_mem) => `(tactic| ((fail_if_success (refine' List.Mem.tail _ ?_)); first | with_reducible assumption | exact List.mem_append_left _ (by with_reducible assumption) | (refine' List.mem_append_right _ ?_; k_mem)))
local macro_rules | `(tactic| ke_room) => `(tactic| k_units)
def IsFq (w : World) (p n : Int) (o : Obj) : Prop := ∃ t1 t2 t3 t4 : Tok, o = fqD w p n t1 t2 t3 t4
set_option maxRecDepth 100000 in
set_option maxHeartbeats 8000000 in
theorem mkFQo {w : World} {p : Program} {loose : List Str} {mean : ExcName → Option Value} {mg mb : Str → Option Value}
   {dp un : Nat} {gd : Option (List Code)} {cn : Str} {cs : Scope} {a : Addr} {ccd : Value} {cl : List (Str × Addr)} {outer : List Env} {A₀ : Around} {base h₀ : Heap} {L : Addr} {m : Str → Option Value} {s : Shared} {Q E : Value → Shared → Prop} {news : List (Addr × Obj)} {vv pp : Int} {tv tp : Tok}
    (B : Below A₀ base outer h₀) (F : Fr h₀ L s.heap m) (X : (hd.heap_39 w.params).In h₀) (N : News h₀ L s.heap news) (T : Top p loose mean mg mb h₀) (hk : cs.kind = .function)
    (hp : 0 < pp) (hd : dp + 3 < recursionLimit) (hu : un + 24 < cLine)
    (ret : ∀ (x dx : Addr) (o : Obj) (tl : List (Addr × Obj)) (h' : Heap) (tk' : Nat), IsFq w pp (vv.fmod pp) o → (x, instObj 221 dx) ∈ tl → (dx, o) ∈ tl → Fr h₀ L h' m → News h₀ L h' (tl ++ news) → Q (.ref x) { s with heap := h', toks := tk' }) :
    wpAny (model PySem.Challenge.rw_lh0029_01.row.prog w) (ktrTop dp un gd cn cs L a ccd cl outer) (call (.ref 221) [.int vv tv, .int pp tp]) Q E s :=
  mkFQ B F X N T hk hp hd hu fun x dx _ _ _ _ h' tk' F' N' => ret x dx _ [_, _] h' tk' ⟨_, _, _, _, rfl⟩ (.head _) (.tail _ (.head _)) F' N'
local macro_rules | `(tactic| walk_at "call ref") => `(tactic| (k_here; (with_reducible show wpAny _ _ (call (Value.ref 221) [Value.int _ _, Value.int _ _]) _ _ _); k_dflt (refine' mkFQ ?k1 ?k2 ?k3 ?k4 ?k5 ?kK ?kp ?kd ?ku ?_; (case k1 => k_asm); (case k2 => k_asm); (case k3 => k_asm); (case k4 => k_asm); (case k5 => k_asm); (case kK => first | exact rfl | assumption); (case kp => assumption); (case kd => k_room); (case ku => k_units); intro x' d' t1' t2' t3' t4' h' tk' F' N'; (try dsimp only); (try k_fold))))

def mm (p a b : Int) : Int := (a * b) % p
def ms (p a b : Int) : Int := (a - b) % p
theorem fmod_fmod_pos {p : Int} (hp : 0 < p) (x : Int) : (x.fmod p).fmod p = x % p := by
  rw [Int.fmod_eq_emod_of_nonneg _ (Int.le_of_lt hp), Int.fmod_eq_emod_of_nonneg _ (Int.le_of_lt hp), Int.emod_emod]
theorem fq_eq {w : World} {p n n' : Int} {t1 t2 t3 t4 : Tok} {news : List (Addr × Obj)} {h₀ h : Heap} {L x dx : Addr} (e : n = n') (N : News h₀ L h ((x, instObj 221 dx) :: (dx, fqD w p n t1 t2 t3 t4) :: news)) :
    News h₀ L h ((x, instObj 221 dx) :: (dx, fqD w p n' t1 t2 t3 t4) :: news) := e ▸ N

set_option maxRecDepth 100000 in
set_option maxHeartbeats 8000000 in
theorem mulC {w : World} {p : Program} {loose : List Str} {mean : ExcName → Option Value} {mg mb : Str → Option Value}
   {dp un : Nat} {gd : Option (List Code)} {cn : Str} {cs : Scope} {a : Addr} {ccd : Value} {cl : List (Str × Addr)} {outer : List Env} {A₀ : Around} {base h₀ : Heap} {L : Addr} {m : Str → Option Value} {s : Shared} {Q E : Value → Shared → Prop} {news : List (Addr × Obj)}
   {x dx y dy : Addr} {o1 o2 : Obj} {pp n1 n2 : Int}
    (B : Below A₀ base outer h₀) (F : Fr h₀ L s.heap m) (X : (hd.heap_39 w.params).In h₀) (N : News h₀ L s.heap news) (T : Top p loose mean mg mb h₀) (hk : cs.kind = .function)
    (hx : (x, instObj 221 dx) ∈ news) (hdx : (dx, o1) ∈ news) (q1 : IsFq w pp n1 o1) (hy : (y, instObj 221 dy) ∈ news) (hdy : (dy, o2) ∈ news) (q2 : IsFq w pp n2 o2)
    (hp : 0 < pp) (hp2 : pp < 128) (hn1 : 0 ≤ n1) (hn2 : n1 < pp) (hd : dp + 6 < recursionLimit) (hu : un + 48 < cLine)
    (ret : ∀ (v : Int) (x dx : Addr) (o : Obj) (tl : List (Addr × Obj)) (h' : Heap) (tk' : Nat), v = mm pp n1 n2 → 0 ≤ v → v < pp → IsFq w pp v o → (x, instObj 221 dx) ∈ tl → (dx, o) ∈ tl → Fr h₀ L h' m → News h₀ L h' (tl ++ news) → Q (.ref x) { s with heap := h', toks := tk' }) :
    wpAny (model PySem.Challenge.rw_lh0029_01.row.prog w) (ktrTop dp un gd cn cs L a ccd cl outer) (call (.ref 91) [.ref x, .ref y]) Q E s := by
  obtain ⟨t1, t2, t3, t4, rfl⟩ := q1
  obtain ⟨u1, u2, u3, u4, rfl⟩ := q2
  refine wpAny_call ?_
  k_dflt cell_enter
  k_steps
  all_goals exact ret _ _ _ _ [_, _] _ _ rfl (Int.emod_nonneg _ (by omega)) (Int.emod_lt_of_pos _ hp) ⟨_, _, _, _, rfl⟩ (.head _) (.tail _ (.head _)) (by k_asm) (fq_eq (fmod_fmod_pos hp _) (by k_asm))
theorem one_fmod {p : Int} (hp : 1 < p) : (1 : Int).fmod p = 1 := (Int.fmod_eq_emod_of_nonneg 1 (by omega)).trans (Int.emod_eq_of_lt (by omega) hp)
set_option maxRecDepth 100000 in
set_option maxHeartbeats 8000000 in
theorem mulI {w : World} {p : Program} {loose : List Str} {mean : ExcName → Option Value} {mg mb : Str → Option Value}
   {dp un : Nat} {gd : Option (List Code)} {cn : Str} {cs : Scope} {a : Addr} {ccd : Value} {cl : List (Str × Addr)} {outer : List Env} {A₀ : Around} {base h₀ : Heap} {L : Addr} {m : Str → Option Value} {s : Shared} {Q E : Value → Shared → Prop} {news : List (Addr × Obj)}
   {x dx : Addr} {o1 : Obj} {pp n1 n2 : Int} {u1 : Tok}
    (B : Below A₀ base outer h₀) (F : Fr h₀ L s.heap m) (X : (hd.heap_39 w.params).In h₀) (N : News h₀ L s.heap news) (T : Top p loose mean mg mb h₀) (hk : cs.kind = .function)
    (hx : (x, instObj 221 dx) ∈ news) (hdx : (dx, o1) ∈ news) (q1 : IsFq w pp n1 o1) 
    (hp : 0 < pp) (hp2 : pp < 128) (hn1 : 0 ≤ n1) (hn2 : n1 < pp) (hd : dp + 6 < recursionLimit) (hu : un + 48 < cLine)
    (ret : ∀ (v : Int) (x dx : Addr) (o : Obj) (tl : List (Addr × Obj)) (h' : Heap) (tk' : Nat), v = mm pp n1 n2 → 0 ≤ v → v < pp → IsFq w pp v o → (x, instObj 221 dx) ∈ tl → (dx, o) ∈ tl → Fr h₀ L h' m → News h₀ L h' (tl ++ news) → Q (.ref x) { s with heap := h', toks := tk' }) :
    wpAny (model PySem.Challenge.rw_lh0029_01.row.prog w) (ktrTop dp un gd cn cs L a ccd cl outer) (call (.ref 91) [.ref x, .int n2 u1]) Q E s := by
  obtain ⟨t1, t2, t3, t4, rfl⟩ := q1
  refine wpAny_call ?_
  k_dflt cell_enter
  k_steps
  all_goals exact ret _ _ _ _ [_, _] _ _ rfl (Int.emod_nonneg _ (by omega)) (Int.emod_lt_of_pos _ hp) ⟨_, _, _, _, rfl⟩ (.head _) (.tail _ (.head _)) (by k_asm) (fq_eq (fmod_fmod_pos hp _) (by k_asm))

set_option maxRecDepth 100000 in
set_option maxHeartbeats 8000000 in
theorem subC {w : World} {p : Program} {loose : List Str} {mean : ExcName → Option Value} {mg mb : Str → Option Value}
   {dp un : Nat} {gd : Option (List Code)} {cn : Str} {cs : Scope} {a : Addr} {ccd : Value} {cl : List (Str × Addr)} {outer : List Env} {A₀ : Around} {base h₀ : Heap} {L : Addr} {m : Str → Option Value} {s : Shared} {Q E : Value → Shared → Prop} {news : List (Addr × Obj)}
   {x dx y dy : Addr} {o1 o2 : Obj} {pp n1 n2 : Int}
    (B : Below A₀ base outer h₀) (F : Fr h₀ L s.heap m) (X : (hd.heap_39 w.params).In h₀) (N : News h₀ L s.heap news) (T : Top p loose mean mg mb h₀) (hk : cs.kind = .function)
    (hx : (x, instObj 221 dx) ∈ news) (hdx : (dx, o1) ∈ news) (q1 : IsFq w pp n1 o1) (hy : (y, instObj 221 dy) ∈ news) (hdy : (dy, o2) ∈ news) (q2 : IsFq w pp n2 o2)
    (hp : 0 < pp) (hp2 : pp < 128) (hd : dp + 6 < recursionLimit) (hu : un + 48 < cLine)
    (ret : ∀ (v : Int) (x dx : Addr) (o : Obj) (tl : List (Addr × Obj)) (h' : Heap) (tk' : Nat), v = ms pp n1 n2 → 0 ≤ v → v < pp → IsFq w pp v o → (x, instObj 221 dx) ∈ tl → (dx, o) ∈ tl → Fr h₀ L h' m → News h₀ L h' (tl ++ news) → Q (.ref x) { s with heap := h', toks := tk' }) :
    wpAny (model PySem.Challenge.rw_lh0029_01.row.prog w) (ktrTop dp un gd cn cs L a ccd cl outer) (call (.ref 119) [.ref x, .ref y]) Q E s := by
  obtain ⟨t1, t2, t3, t4, rfl⟩ := q1
  obtain ⟨u1, u2, u3, u4, rfl⟩ := q2
  refine wpAny_call ?_
  k_dflt cell_enter
  k_steps
  all_goals exact ret _ _ _ _ [_, _] _ _ rfl (Int.emod_nonneg _ (by omega)) (Int.emod_lt_of_pos _ hp) ⟨_, _, _, _, rfl⟩ (.head _) (.tail _ (.head _)) (by k_asm) (fq_eq (fmod_fmod_pos hp _) (by k_asm))

set_option maxRecDepth 100000 in
set_option maxHeartbeats 8000000 in
theorem eqC {w : World} {p : Program} {loose : List Str} {mean : ExcName → Option Value} {mg mb : Str → Option Value}
   {dp un : Nat} {gd : Option (List Code)} {cn : Str} {cs : Scope} {a : Addr} {ccd : Value} {cl : List (Str × Addr)} {outer : List Env} {A₀ : Around} {base h₀ : Heap} {L : Addr} {m : Str → Option Value} {s : Shared} {Q E : Value → Shared → Prop} {news : List (Addr × Obj)}
   {x dx y dy : Addr} {o1 o2 : Obj} {pp n1 n2 : Int}
    (B : Below A₀ base outer h₀) (F : Fr h₀ L s.heap m) (X : (hd.heap_39 w.params).In h₀) (N : News h₀ L s.heap news) (T : Top p loose mean mg mb h₀) (hk : cs.kind = .function)
    (hx : (x, instObj 221 dx) ∈ news) (hdx : (dx, o1) ∈ news) (q1 : IsFq w pp n1 o1) (hy : (y, instObj 221 dy) ∈ news) (hdy : (dy, o2) ∈ news) (q2 : IsFq w pp n2 o2)
    (hd : dp + 6 < recursionLimit) (hu : un + 48 < cLine)
    (ret : ∀ (h' : Heap) (tk' : Nat), Fr h₀ L h' m → News h₀ L h' news → Q (.bool (n1 == n2)) { s with heap := h', toks := tk' }) :
    wpAny (model PySem.Challenge.rw_lh0029_01.row.prog w) (ktrTop dp un gd cn cs L a ccd cl outer) (call (.ref 154) [.ref x, .ref y]) Q E s := by
  obtain ⟨t1, t2, t3, t4, rfl⟩ := q1
  obtain ⟨u1, u2, u3, u4, rfl⟩ := q2
  refine wpAny_call ?_
  k_dflt cell_enter
  k_steps
  all_goals exact ret _ _ (by k_asm) (by k_asm)

set_option maxRecDepth 100000 in
set_option maxHeartbeats 8000000 in
theorem oneC {w : World} {p : Program} {loose : List Str} {mean : ExcName → Option Value} {mg mb : Str → Option Value}
   {dp un : Nat} {gd : Option (List Code)} {cn : Str} {cs : Scope} {a : Addr} {ccd : Value} {cl : List (Str × Addr)} {outer : List Env} {A₀ : Around} {base h₀ : Heap} {L : Addr} {m : Str → Option Value} {s : Shared} {Q E : Value → Shared → Prop} {news : List (Addr × Obj)}
   {x dx : Addr} {o1 : Obj} {pp n1 : Int}
    (B : Below A₀ base outer h₀) (F : Fr h₀ L s.heap m) (X : (hd.heap_39 w.params).In h₀) (N : News h₀ L s.heap news) (T : Top p loose mean mg mb h₀) (hk : cs.kind = .function)
    (hx : (x, instObj 221 dx) ∈ news) (hdx : (dx, o1) ∈ news) (q1 : IsFq w pp n1 o1) 
    (hp : 1 < pp) (hd : dp + 6 < recursionLimit) (hu : un + 48 < cLine)
    (ret : ∀ (x dx : Addr) (o : Obj) (tl : List (Addr × Obj)) (h' : Heap) (tk' : Nat), IsFq w pp 1 o → (x, instObj 221 dx) ∈ tl → (dx, o) ∈ tl → Fr h₀ L h' m → News h₀ L h' (tl ++ news) → Q (.ref x) { s with heap := h', toks := tk' }) :
    wpAny (model PySem.Challenge.rw_lh0029_01.row.prog w) (ktrTop dp un gd cn cs L a ccd cl outer) (call (.ref 211) [.ref x]) Q E s := by
  have hp0 : 0 < pp := by omega
  obtain ⟨t1, t2, t3, t4, rfl⟩ := q1
  refine wpAny_call ?_
  k_dflt cell_enter
  k_steps
  all_goals exact ret _ _ _ [_, _] _ _ ⟨_, _, _, _, rfl⟩ (.head _) (.tail _ (.head _)) (by k_asm) (fq_eq (one_fmod hp) (by k_asm))

set_option maxRecDepth 100000 in
set_option maxHeartbeats 8000000 in
theorem zeroC {w : World} {p : Program} {loose : List Str} {mean : ExcName → Option Value} {mg mb : Str → Option Value}
   {dp un : Nat} {gd : Option (List Code)} {cn : Str} {cs : Scope} {a : Addr} {ccd : Value} {cl : List (Str × Addr)} {outer : List Env} {A₀ : Around} {base h₀ : Heap} {L : Addr} {m : Str → Option Value} {s : Shared} {Q E : Value → Shared → Prop} {news : List (Addr × Obj)}
   {x dx : Addr} {o1 : Obj} {pp n1 : Int}
    (B : Below A₀ base outer h₀) (F : Fr h₀ L s.heap m) (X : (hd.heap_39 w.params).In h₀) (N : News h₀ L s.heap news) (T : Top p loose mean mg mb h₀) (hk : cs.kind = .function)
    (hx : (x, instObj 221 dx) ∈ news) (hdx : (dx, o1) ∈ news) (q1 : IsFq w pp n1 o1) 
    (hp : 0 < pp) (hd : dp + 6 < recursionLimit) (hu : un + 48 < cLine)
    (ret : ∀ (x dx : Addr) (o : Obj) (tl : List (Addr × Obj)) (h' : Heap) (tk' : Nat), IsFq w pp 0 o → (x, instObj 221 dx) ∈ tl → (dx, o) ∈ tl → Fr h₀ L h' m → News h₀ L h' (tl ++ news) → Q (.ref x) { s with heap := h', toks := tk' }) :
    wpAny (model PySem.Challenge.rw_lh0029_01.row.prog w) (ktrTop dp un gd cn cs L a ccd cl outer) (call (.ref 218) [.ref x]) Q E s := by
  obtain ⟨t1, t2, t3, t4, rfl⟩ := q1
  refine wpAny_call ?_
  k_dflt cell_enter
  k_steps
  all_goals exact ret _ _ _ [_, _] _ _ ⟨_, _, _, _, rfl⟩ (.head _) (.tail _ (.head _)) (by k_asm) (fq_eq (Int.zero_fmod pp) (by k_asm))
section
open Builtin
theorem int_mul_declines (b : Int) (u : Tok) (l : Addr) (c : Value) (d : Option Addr) :
    Meets (Builtin.«int.__mul__» ⟨[.int b u, .ref l], []⟩) (fun _ R s => s.heap.get? l = some { cls := c, dict := d, data := .plain } ∧ R (.ok (.ret .notImplemented)) s) :=
  .of_wp fun prog w A R s h => by obtain ⟨hp, g, dd, tk, os⟩ := s; obtain ⟨hl, h⟩ := h; wp_walk using wpAny_loadPart' hl, wpAny_load hl; exact ⟨_, rfl, h⟩
end
set_option maxHeartbeats 4000000 in
theorem rmul_K {prog : Program} {w : World} {A : Around} {E : Value → Shared → Prop} {s : Shared} {K : Frag} {x C L f g dx : Addr} {h₀ : Heap} {m : Str → Option Value} {ox : Obj} {od : Option Obj} {k : Int} {t : Tok} {Q : Value → Shared → Prop}
    (F : Fr h₀ L s.heap m) (X₀ : K.In h₀) (I : InstAt s.heap x ox C od) (ho : s.heap.get? x = some (instObj C dx)) (hc : selfFirst K C = true)
    (hs : findIn K (.ref C) "__rmul__" = some (some (.ref f))) (hm : findIn K (.ref C) "__mul__" = some (some (.ref g))) (hf : isFn K (.ref f) = true) (hsub : subIn K (.ref C) (.type "int") = some false)
    (h : wpAny (model prog w) A (call (.ref f) [.ref x, .int k t]) (PySem.W.CmpBack Q) E s) : wpAny (model prog w) A (binaryOp .Mult (.int k t) (.ref x)) Q E s := by
  have X := X₀.keeps F.keep
  obtain ⟨cd, rest, hcd, hmr⟩ := ksp_first hc
  have one := ksp_try X I hs hf h
  obtain ⟨hh, gg, d, tt, os⟩ := s
  have L2 : Looks (model prog w) hh (typeOf (.ref x)) (.ref C) := I.type
  have L3 : Looks (model prog w) hh (fillsNumberSlot (.ref C) "mul") true := fills_K X hcd hmr hm
  have L5 : Looks (model prog w) hh (isSubtype (.ref C) (.type "int")) false := looks_subIn X hsub
  have L1 : Looks (model prog w) hh (typeOf (.int k t)) (.type "int") := Looks.of_pure rfl
  have L6 : Looks (model prog w) hh (fillsNumberSlot (.type "int") "mul") true := Looks.of_pure PySem.F.fills_int_mul
  have L7 : Looks (model prog w) hh (numberSlotInPython (.type "int") "mul") false := Looks.of_pure rfl
  have hne : (Value.type "int" == Value.ref C) = false := Bool.eq_false_iff.mpr fun q => by cases beq_iff_eq.mp q
  simp only [binaryOp, Operator.info]
  refine wpAny_holding (wpAny_bind ?_)
  unfold binaryOp1
  refine wpAny_bind (L1.at (wpAny_bind (L2.at (wpAny_bind (L6.at ?_)))))
  simp only [hne, Bool.false_eq_true, if_false]
  ksp_lk
  have hmt := int_mul_declines k t x (.ref C) (some dx)
  have hT : (⟨hh, gg, d, tt, os⟩ : Shared).TypeIs (.int k t) "int" := typeIs_int _ k t
  have key := fun Q => @wpAny_tryMethod_declines (model prog w) A E ⟨hh, gg, d, tt, os⟩ (.int k t) (.ref x) "int" (PySem.dunder "mul") "int.__mul__" Q hT PySem.F.slot_int_mul
  refine key _ ?_
  refine call_meets PySem.F.slot_int_mul hT PySem.F.entry_int_mul (PySem.F.args_int_mul_2 _ _) hmt ?_
  refine ⟨ho, ?_⟩
  refine ⟨rfl, ?_⟩
  ksp_lk
  refine wpAny_mono one (fun r s' hr' => ?_) fun _ _ e => e
  obtain ⟨v, rfl, hq⟩ := hr'
  ksp_lk
  exact hq

local macro_rules | `(tactic| walk_at "binaryOp Mult int ref") => `(tactic| (k_here; k_dflt (refine' rmul_K ?F ?X ?I ?hO ?hC ?hS ?hM ?hF ?hU ?_; (case F => k_asm); (case X => k_asm); (case I => k_inst); (case hO => exact News.get (by k_asm) (by k_mem)); (case hC => k_is); (case hS => k_is); (case hM => k_is); (case hF => k_is); (case hU => k_is); k_whole)))
local macro_rules | `(tactic| walk_at "call ref") => `(tactic| (k_here; (with_reducible show wpAny _ _ (call (Value.ref 91) [Value.ref _, Value.int _ _]) _ _ _); k_dflt (refine' mulI ?k1 ?k2 ?k3 ?k4 ?k5 ?kK ?kx ?kdx ?kq ?kp ?kp2 ?kn1 ?kn2 ?kd ?ku ?_; (case k1 => k_asm); (case k2 => k_asm); (case k3 => k_asm); (case k4 => k_asm); (case k5 => k_asm); (case kK => first | exact rfl | assumption); (case kx => k_mem); (case kdx => k_mem); (case kq => first | with_reducible assumption | exact ⟨_, _, _, _, rfl⟩); (case kp => assumption); (case kp2 => assumption); (case kn1 => first | assumption | omega); (case kn2 => first | assumption | omega); (case kd => k_room); (case ku => k_units); intro v' x' d' o' tl' h' tk' e' l1' l2' q' m1' m2' F' N'; (try dsimp only [PySem.W.CmpBack]); (try k_fold))))
set_option maxRecDepth 100000 in
set_option maxHeartbeats 8000000 in
theorem rmulC {w : World} {p : Program} {loose : List Str} {mean : ExcName → Option Value} {mg mb : Str → Option Value}
   {dp un : Nat} {gd : Option (List Code)} {cn : Str} {cs : Scope} {a : Addr} {ccd : Value} {cl : List (Str × Addr)} {outer : List Env} {A₀ : Around} {base h₀ : Heap} {L : Addr} {m : Str → Option Value} {s : Shared} {Q E : Value → Shared → Prop} {news : List (Addr × Obj)}
   {x dx : Addr} {o1 : Obj} {pp n1 n2 : Int} {u1 : Tok}
    (B : Below A₀ base outer h₀) (F : Fr h₀ L s.heap m) (X : (hd.heap_39 w.params).In h₀) (N : News h₀ L s.heap news) (T : Top p loose mean mg mb h₀) (hk : cs.kind = .function)
    (hx : (x, instObj 221 dx) ∈ news) (hdx : (dx, o1) ∈ news) (q1 : IsFq w pp n1 o1) 
    (hp : 0 < pp) (hp2 : pp < 128) (hn1 : 0 ≤ n1) (hn2 : n1 < pp) (hd : dp + 8 < recursionLimit) (hu : un + 64 < cLine)
    (ret : ∀ (v : Int) (x dx : Addr) (o : Obj) (tl : List (Addr × Obj)) (h' : Heap) (tk' : Nat), v = mm pp n1 n2 → 0 ≤ v → v < pp → IsFq w pp v o → (x, instObj 221 dx) ∈ tl → (dx, o) ∈ tl → Fr h₀ L h' m → News h₀ L h' (tl ++ news) → Q (.ref x) { s with heap := h', toks := tk' }) :
    wpAny (model PySem.Challenge.rw_lh0029_01.row.prog w) (ktrTop dp un gd cn cs L a ccd cl outer) (call (.ref 98) [.ref x, .int n2 u1]) Q E s := by
  obtain ⟨t1, t2, t3, t4, rfl⟩ := q1
  refine wpAny_call ?_
  k_dflt cell_enter
  k_steps
  all_goals exact ret _ _ _ _ _ _ _ (by assumption) (by assumption) (by assumption) (by assumption) (by assumption) (by assumption) (by k_asm) (by k_asm)
abbrev tupO (l : List Value) : Obj := { cls := .type "tuple", data := .seq l.toArray }
def PtIn (w : World) (p : Int) (news : List (Addr × Obj)) (t : Addr) (P : Int × Int × Int) : Prop :=
  ∃ (x dx y dy z dz : Addr) (t1 t2 t3 t4 u1 u2 u3 u4 v1 v2 v3 v4 : Tok), (t, tupO [.ref x, .ref y, .ref z]) ∈ news ∧
    (x, instObj 221 dx) ∈ news ∧ (dx, fqD w p P.1 t1 t2 t3 t4) ∈ news ∧ (y, instObj 221 dy) ∈ news ∧ (dy, fqD w p P.2.1 u1 u2 u3 u4) ∈ news ∧ (z, instObj 221 dz) ∈ news ∧ (dz, fqD w p P.2.2 v1 v2 v3 v4) ∈ news ∧
    (0 ≤ P.1 ∧ P.1 < p) ∧ (0 ≤ P.2.1 ∧ P.2.1 < p) ∧ (0 ≤ P.2.2 ∧ P.2.2 < p)
inductive Ext : List (Addr × Obj) → List (Addr × Obj) → Prop
  | refl (l : List (Addr × Obj)) : Ext l l
  | cons {l l' : List (Addr × Obj)} (a : Addr × Obj) : Ext l l' → Ext l (a :: l')
  | app {l l' : List (Addr × Obj)} (tl : List (Addr × Obj)) : Ext l l' → Ext l (tl ++ l')
theorem Ext.is {l l' : List (Addr × Obj)} (h : Ext l l') : ∃ tl, l' = tl ++ l := by
  induction h with
  | refl => exact ⟨[], rfl⟩
  | cons a _ ih => obtain ⟨tl, e⟩ := ih; exact ⟨a :: tl, by rw [e]; rfl⟩
  | app tl _ ih => obtain ⟨tl', e⟩ := ih; exact ⟨tl ++ tl', by rw [e, List.append_assoc]⟩
theorem PtIn.mono {w : World} {p : Int} {news news' : List (Addr × Obj)} {t : Addr} {P : Int × Int × Int} (h : PtIn w p news t P) (hs : Ext news news') : PtIn w p news' t P := by
  obtain ⟨tl, rfl⟩ := hs.is
  obtain ⟨x, dx, y, dy, z, dz, t1, t2, t3, t4, u1, u2, u3, u4, v1, v2, v3, v4, h1, h2, h3, h4, h5, h6, h7, h8⟩ := h
  exact ⟨x, dx, y, dy, z, dz, t1, t2, t3, t4, u1, u2, u3, u4, v1, v2, v3, v4, List.mem_append_right _ h1, List.mem_append_right _ h2, List.mem_append_right _ h3, List.mem_append_right _ h4, List.mem_append_right _ h5, List.mem_append_right _ h6, List.mem_append_right _ h7, h8⟩
def dblF (p : Int) (P : Int × Int × Int) : Int × Int × Int :=
  let x := P.1; let y := P.2.1; let z := P.2.2
  let W := mm p (mm p x 3) x
  let S := mm p y z
  let B := mm p (mm p x y) S
  let H := ms p (mm p W W) (mm p B 8)
  let S2 := mm p S S
  (mm p (mm p H 2) S, ms p (mm p W (ms p (mm p B 4) H)) (mm p (mm p (mm p y 8) y) S2), mm p (mm p S 8) S2)
def addG (p : Int) (P1 P2 : Int × Int × Int) : Int × Int × Int :=
  let x1 := P1.1; let y1 := P1.2.1; let z1 := P1.2.2
  let x2 := P2.1; let y2 := P2.2.1; let z2 := P2.2.2
  let U1 := mm p y2 z1
  let U2 := mm p y1 z2
  let V1 := mm p x2 z1
  let V2 := mm p x1 z2
  let U := ms p U1 U2
  let V := ms p V1 V2
  let V_squared := mm p V V
  let VV2 := mm p V_squared V2
  let Vc := mm p V V_squared
  let W := mm p z1 z2
  let A := ms p (ms p (mm p (mm p U U) W) Vc) (mm p VV2 2)
  (mm p V A, ms p (mm p U (ms p VV2 A)) (mm p Vc U2), mm p Vc W)
def addF (p : Int) (P1 P2 : Int × Int × Int) : Int × Int × Int :=
  if P2.2.2 = 0 then P1 else if P1.2.2 = 0 then P2 else
  if mm p P2.1 P1.2.2 = mm p P1.1 P2.2.2 then (if mm p P2.2.1 P1.2.2 = mm p P1.2.1 P2.2.2 then dblF p P1 else (1, 1, 0)) else addG p P1 P2
theorem addF_l {p : Int} {P1 P2 : Int × Int × Int} (h : P2.2.2 = 0) : addF p P1 P2 = P1 := by unfold addF; rw [if_pos h]
theorem addF_r {p : Int} {P1 P2 : Int × Int × Int} (h : P1.2.2 = 0) (h2 : P2.2.2 ≠ 0) : addF p P1 P2 = P2 := by unfold addF; rw [if_neg h2, if_pos h]
theorem addF_d {p : Int} {P1 P2 : Int × Int × Int} (h : P1.2.2 ≠ 0) (h2 : P2.2.2 ≠ 0) (e1 : mm p P2.1 P1.2.2 = mm p P1.1 P2.2.2) (e2 : mm p P2.2.1 P1.2.2 = mm p P1.2.1 P2.2.2) : addF p P1 P2 = dblF p P1 := by
  unfold addF; rw [if_neg h2, if_neg h, if_pos e1, if_pos e2]
theorem addF_i {p : Int} {P1 P2 : Int × Int × Int} (h : P1.2.2 ≠ 0) (h2 : P2.2.2 ≠ 0) (e1 : mm p P2.1 P1.2.2 = mm p P1.1 P2.2.2) (e2 : mm p P2.2.1 P1.2.2 ≠ mm p P1.2.1 P2.2.2) : addF p P1 P2 = (1, 1, 0) := by
  unfold addF; rw [if_neg h2, if_neg h, if_pos e1, if_neg e2]
theorem addF_g {p : Int} {P1 P2 : Int × Int × Int} (h : P1.2.2 ≠ 0) (h2 : P2.2.2 ≠ 0) (e1 : mm p P2.1 P1.2.2 ≠ mm p P1.1 P2.2.2) : addF p P1 P2 = addG p P1 P2 := by
  unfold addF; rw [if_neg h2, if_neg h, if_neg e1]
theorem PtIn.cast {w : World} {p : Int} {news : List (Addr × Obj)} {t : Addr} {P P' : Int × Int × Int} (h : PtIn w p news t P) (e : P' = P) : PtIn w p news t P' := e ▸ h
def eqF (p : Int) (P1 P2 : Int × Int × Int) : Bool := mm p P1.1 P2.2.2 == mm p P2.1 P1.2.2 && mm p P1.2.1 P2.2.2 == mm p P2.2.1 P1.2.2
theorem PtIn.of {w : World} {p : Int} {news : List (Addr × Obj)} {t : Addr} {P : Int × Int × Int} {x dx y dy z dz : Addr} {o1 o2 o3 : Obj} {a1 a2 a3 : Int}
    (h1 : (t, tupO [.ref x, .ref y, .ref z]) ∈ news) (h2 : (x, instObj 221 dx) ∈ news) (h3 : (dx, o1) ∈ news) (h4 : (y, instObj 221 dy) ∈ news) (h5 : (dy, o2) ∈ news)
    (h6 : (z, instObj 221 dz) ∈ news) (h7 : (dz, o3) ∈ news) (q1 : IsFq w p a1 o1) (q2 : IsFq w p a2 o2) (q3 : IsFq w p a3 o3) (e : (a1, a2, a3) = P) (b1 : 0 ≤ a1) (b2 : a1 < p) (b3 : 0 ≤ a2) (b4 : a2 < p) (b5 : 0 ≤ a3) (b6 : a3 < p) : PtIn w p news t P := by
  subst e
  obtain ⟨t1, t2, t3, t4, rfl⟩ := q1
  obtain ⟨u1, u2, u3, u4, rfl⟩ := q2
  obtain ⟨v1, v2, v3, v4, rfl⟩ := q3
  exact ⟨x, dx, y, dy, z, dz, t1, t2, t3, t4, u1, u2, u3, u4, v1, v2, v3, v4, h1, h2, h3, h4, h5, h6, h7, ⟨b1, b2⟩, ⟨b3, b4⟩, ⟨b5, b6⟩⟩
def mulF (p : Int) : Nat → Int × Int × Int → Int → Int × Int × Int
  | 0, _, _ => (1, 1, 0)
  | k + 1, P, n => if n = 0 then (1, 1, 0) else if n = 1 then P else if n.fmod 2 = 0 then mulF p k (dblF p P) (n.fdiv 2) else addF p (mulF p k (dblF p P) (n.fdiv 2)) P
theorem mulF_0 {p : Int} {k : Nat} {P : Int × Int × Int} {n : Int} (h : n = 0) : mulF p (k + 1) P n = (1, 1, 0) := by unfold mulF; rw [if_pos h]
theorem mulF_1 {p : Int} {k : Nat} {P : Int × Int × Int} {n : Int} (h0 : n ≠ 0) (h : n = 1) : mulF p (k + 1) P n = P := by unfold mulF; rw [if_neg h0, if_pos h]
theorem mulF_e {p : Int} {k : Nat} {P : Int × Int × Int} {n : Int} (h0 : n ≠ 0) (h1 : n ≠ 1) (h : n.fmod 2 = 0) : mulF p (k + 1) P n = mulF p k (dblF p P) (n.fdiv 2) := by rw [mulF, if_neg h0, if_neg h1, if_pos h]
theorem mulF_o {p : Int} {k : Nat} {P : Int × Int × Int} {n : Int} (h0 : n ≠ 0) (h1 : n ≠ 1) (h : n.fmod 2 ≠ 0) : mulF p (k + 1) P n = addF p (mulF p k (dblF p P) (n.fdiv 2)) P := by rw [mulF, if_neg h0, if_neg h1, if_neg h]
def MulSpec (w : World) (f : Addr) (k : Nat) : Prop :=
  ∀ (p : Program) (loose : List Str) (mean : ExcName → Option Value) (mg mb : Str → Option Value)
   (dp un : Nat) (gd : Option (List Code)) (cn : Str) (cs : Scope) (a : Addr) (ccd : Value) (cl : List (Str × Addr)) (outer : List Env) (A₀ : Around) (base h₀ : Heap) (L : Addr) (m : Str → Option Value) (s : Shared) (Q E : Value → Shared → Prop) (news : List (Addr × Obj))
   (ta : Addr) (pp n : Int) (tn : Tok) (P : Int × Int × Int),
    Below A₀ base outer h₀ → Fr h₀ L s.heap m → (hd.heap_39 w.params).In h₀ → News h₀ L s.heap news → Top p loose mean mg mb h₀ → cs.kind = .function →
    PtIn w pp news ta P → 0 < pp → 1 < pp → pp < 128 → 0 ≤ n → n < 2 ^ k → dp + (k + 20) < recursionLimit → un + (k * 8 + 150) < cLine →
    (∀ (t' : Addr) (tl : List (Addr × Obj)) (h' : Heap) (tk' : Nat), Fr h₀ L h' m → News h₀ L h' (tl ++ news) → PtIn w pp (tl ++ news) t' (mulF pp k P n) → Q (.ref t') { s with heap := h', toks := tk' }) →
    wpAny (model PySem.Challenge.rw_lh0029_01.row.prog w) (ktrTop dp un gd cn cs L a ccd cl outer) (call (.ref f) [.ref ta, .int n tn]) Q E s
theorem mulUse {f : Addr} {k : Nat} {w : World} {p : Program} {loose : List Str} {mean : ExcName → Option Value} {mg mb : Str → Option Value}
   {dp un : Nat} {gd : Option (List Code)} {cn : Str} {cs : Scope} {a : Addr} {ccd : Value} {cl : List (Str × Addr)} {outer : List Env} {A₀ : Around} {base h₀ : Heap} {L : Addr} {m : Str → Option Value} {s : Shared} {Q E : Value → Shared → Prop} {news : List (Addr × Obj)} {ta : Addr} {pp n : Int} {tn : Tok} {P : Int × Int × Int} (C : MulSpec w f k)
    (B : Below A₀ base outer h₀) (F : Fr h₀ L s.heap m) (X : (hd.heap_39 w.params).In h₀) (N : News h₀ L s.heap news) (T : Top p loose mean mg mb h₀) (hk : cs.kind = .function)
    (hP : PtIn w pp news ta P) (hp : 0 < pp) (hp1 : 1 < pp) (hp2 : pp < 128) (hn : 0 ≤ n) (hn2 : n < 2 ^ k) (hd : dp + (k + 20) < recursionLimit) (hu : un + (k * 8 + 150) < cLine)
    (ret : ∀ (t' : Addr) (tl : List (Addr × Obj)) (h' : Heap) (tk' : Nat), Fr h₀ L h' m → News h₀ L h' (tl ++ news) → PtIn w pp (tl ++ news) t' (mulF pp k P n) → Q (.ref t') { s with heap := h', toks := tk' }) :
    wpAny (model PySem.Challenge.rw_lh0029_01.row.prog w) (ktrTop dp un gd cn cs L a ccd cl outer) (call (.ref f) [.ref ta, .int n tn]) Q E s :=
  C _ _ _ _ _ _ _ _ _ _ _ _ _ _ _ _ _ _ _ _ _ _ _ _ _ _ _ _ B F X N T hk hP hp hp1 hp2 hn hn2 hd hu ret
theorem eqF_t {p : Int} {P1 P2 : Int × Int × Int} (h : mm p P1.1 P2.2.2 = mm p P2.1 P1.2.2) : (mm p P1.2.1 P2.2.2 == mm p P2.2.1 P1.2.2) = eqF p P1 P2 := by unfold eqF; rw [h]; simp
theorem eqF_n {p : Int} {P1 P2 : Int × Int × Int} (h : mm p P1.1 P2.2.2 ≠ mm p P2.1 P1.2.2) : (mm p P1.1 P2.2.2 == mm p P2.1 P1.2.2) = eqF p P1 P2 := by unfold eqF; simp [h]
theorem eqF_t' {p : Int} {P1 P2 : Int × Int × Int} {a b c d : Int} (h3 : c = mm p P1.2.1 P2.2.2) (h4 : d = mm p P2.2.1 P1.2.2) (h1 : a = mm p P1.1 P2.2.2) (h2 : b = mm p P2.1 P1.2.2) (h : a = b) : (c == d) = eqF p P1 P2 := by
  subst h1 h2 h3 h4; exact eqF_t h
theorem eqF_n' {p : Int} {P1 P2 : Int × Int × Int} {a b : Int} (h1 : a = mm p P1.1 P2.2.2) (h2 : b = mm p P2.1 P1.2.2) (h : a ≠ b) : (a == b) = eqF p P1 P2 := by
  subst h1 h2; exact eqF_n h
section
local macro_rules | `(tactic| walk_at "call ref") => `(tactic| (k_here; (with_reducible show wpAny _ _ (call (Value.ref 91) [Value.ref _, Value.ref _]) _ _ _); k_dflt (refine' mulC ?k1 ?k2 ?k3 ?k4 ?k5 ?kK ?kx ?kdx ?kq ?ky ?kdy ?kq2 ?kp ?kp2 ?kn1 ?kn2 ?kd ?ku ?_; (case k1 => k_asm); (case k2 => k_asm); (case k3 => k_asm); (case k4 => k_asm); (case k5 => k_asm); (case kK => first | exact rfl | assumption); (case kx => k_mem); (case kdx => k_mem); (case kq => first | with_reducible assumption | exact ⟨_, _, _, _, rfl⟩); (case ky => k_mem); (case kdy => k_mem); (case kq2 => first | with_reducible assumption | exact ⟨_, _, _, _, rfl⟩); (case kp => first | with_reducible assumption | assumption | omega); (case kp2 => first | with_reducible assumption | assumption | omega); (case kn1 => first | with_reducible assumption | assumption | omega); (case kn2 => first | with_reducible assumption | assumption | omega); (case kd => k_room); (case ku => k_units); intro v' x' d' o' tl' h' tk' e' l1' l2' q' m1' m2' F' N'; (try dsimp only [PySem.W.CmpBack]); (try k_fold))))
local macro_rules | `(tactic| walk_at "call ref") => `(tactic| (k_here; (with_reducible show wpAny _ _ (call (Value.ref 91) [Value.ref _, Value.int _ _]) _ _ _); k_dflt (refine' mulI ?k1 ?k2 ?k3 ?k4 ?k5 ?kK ?kx ?kdx ?kq ?kp ?kp2 ?kn1 ?kn2 ?kd ?ku ?_; (case k1 => k_asm); (case k2 => k_asm); (case k3 => k_asm); (case k4 => k_asm); (case k5 => k_asm); (case kK => first | exact rfl | assumption); (case kx => k_mem); (case kdx => k_mem); (case kq => first | with_reducible assumption | exact ⟨_, _, _, _, rfl⟩); (case kp => first | with_reducible assumption | assumption | omega); (case kp2 => first | with_reducible assumption | assumption | omega); (case kn1 => first | with_reducible assumption | assumption | omega); (case kn2 => first | with_reducible assumption | assumption | omega); (case kd => k_room); (case ku => k_units); intro v' x' d' o' tl' h' tk' e' l1' l2' q' m1' m2' F' N'; (try dsimp only [PySem.W.CmpBack]); (try k_fold))))
local macro_rules | `(tactic| walk_at "call ref") => `(tactic| (k_here; (with_reducible show wpAny _ _ (call (Value.ref 98) [Value.ref _, Value.int _ _]) _ _ _); k_dflt (refine' rmulC ?k1 ?k2 ?k3 ?k4 ?k5 ?kK ?kx ?kdx ?kq ?kp ?kp2 ?kn1 ?kn2 ?kd ?ku ?_; (case k1 => k_asm); (case k2 => k_asm); (case k3 => k_asm); (case k4 => k_asm); (case k5 => k_asm); (case kK => first | exact rfl | assumption); (case kx => k_mem); (case kdx => k_mem); (case kq => first | with_reducible assumption | exact ⟨_, _, _, _, rfl⟩); (case kp => first | with_reducible assumption | assumption | omega); (case kp2 => first | with_reducible assumption | assumption | omega); (case kn1 => first | with_reducible assumption | assumption | omega); (case kn2 => first | with_reducible assumption | assumption | omega); (case kd => k_room); (case ku => k_units); intro v' x' d' o' tl' h' tk' e' l1' l2' q' m1' m2' F' N'; (try dsimp only [PySem.W.CmpBack]); (try k_fold))))
local macro_rules | `(tactic| walk_at "call ref") => `(tactic| (k_here; (with_reducible show wpAny _ _ (call (Value.ref 119) [Value.ref _, Value.ref _]) _ _ _); k_dflt (refine' subC ?k1 ?k2 ?k3 ?k4 ?k5 ?kK ?kx ?kdx ?kq ?ky ?kdy ?kq2 ?kp ?kp2 ?kd ?ku ?_; (case k1 => k_asm); (case k2 => k_asm); (case k3 => k_asm); (case k4 => k_asm); (case k5 => k_asm); (case kK => first | exact rfl | assumption); (case kx => k_mem); (case kdx => k_mem); (case kq => first | with_reducible assumption | exact ⟨_, _, _, _, rfl⟩); (case ky => k_mem); (case kdy => k_mem); (case kq2 => first | with_reducible assumption | exact ⟨_, _, _, _, rfl⟩); (case kp => first | with_reducible assumption | assumption | omega); (case kp2 => first | with_reducible assumption | assumption | omega); (case kd => k_room); (case ku => k_units); intro v' x' d' o' tl' h' tk' e' l1' l2' q' m1' m2' F' N'; (try dsimp only [PySem.W.CmpBack]); (try k_fold))))
local macro_rules | `(tactic| walk_at "call ref") => `(tactic| (k_here; (with_reducible show wpAny _ _ (call (Value.ref 154) [Value.ref _, Value.ref _]) _ _ _); k_dflt (refine' eqC ?k1 ?k2 ?k3 ?k4 ?k5 ?kK ?kx ?kdx ?kq ?ky ?kdy ?kq2 ?kd ?ku ?_; (case k1 => k_asm); (case k2 => k_asm); (case k3 => k_asm); (case k4 => k_asm); (case k5 => k_asm); (case kK => first | exact rfl | assumption); (case kx => k_mem); (case kdx => k_mem); (case kq => first | with_reducible assumption | exact ⟨_, _, _, _, rfl⟩); (case ky => k_mem); (case kdy => k_mem); (case kq2 => first | with_reducible assumption | exact ⟨_, _, _, _, rfl⟩); (case kd => k_room); (case ku => k_units); intro h' tk' F' N'; (try dsimp only [PySem.W.CmpBack]); (try k_fold))))
local macro_rules | `(tactic| walk_at "call ref") => `(tactic| (k_here; (with_reducible show wpAny _ _ (call _ (_ ++ [])) _ _ _); (try dsimp only [List.cons_append, List.nil_append]); (with_reducible show wpAny _ _ (call (Value.ref 211) [Value.ref _]) _ _ _); k_dflt (refine' oneC ?k1 ?k2 ?k3 ?k4 ?k5 ?kK ?kx ?kdx ?kq ?kp ?kd ?ku ?_; (case k1 => k_asm); (case k2 => k_asm); (case k3 => k_asm); (case k4 => k_asm); (case k5 => k_asm); (case kK => first | exact rfl | assumption); (case kx => k_mem); (case kdx => k_mem); (case kq => first | with_reducible assumption | exact ⟨_, _, _, _, rfl⟩); (case kp => first | with_reducible assumption | assumption | omega); (case kd => k_room); (case ku => k_units); intro x' d' o' tl' h' tk' q' m1' m2' F' N'; (try dsimp only [PySem.W.CmpBack]); (try k_fold))))
local macro_rules | `(tactic| walk_at "call ref") => `(tactic| (k_here; (with_reducible show wpAny _ _ (call _ (_ ++ [])) _ _ _); (try dsimp only [List.cons_append, List.nil_append]); (with_reducible show wpAny _ _ (call (Value.ref 218) [Value.ref _]) _ _ _); k_dflt (refine' zeroC ?k1 ?k2 ?k3 ?k4 ?k5 ?kK ?kx ?kdx ?kq ?kp ?kd ?ku ?_; (case k1 => k_asm); (case k2 => k_asm); (case k3 => k_asm); (case k4 => k_asm); (case k5 => k_asm); (case kK => first | exact rfl | assumption); (case kx => k_mem); (case kdx => k_mem); (case kq => first | with_reducible assumption | exact ⟨_, _, _, _, rfl⟩); (case kp => first | with_reducible assumption | assumption | omega); (case kd => k_room); (case ku => k_units); intro x' d' o' tl' h' tk' q' m1' m2' F' N'; (try dsimp only [PySem.W.CmpBack]); (try k_fold))))
local macro_rules | `(tactic| walk_at "call ref") => `(tactic| (k_here; (with_reducible show wpAny _ _ (call (Value.ref 221) [Value.int _ _, Value.int _ _]) _ _ _); k_dflt (refine' mkFQo ?k1 ?k2 ?k3 ?k4 ?k5 ?kK ?kp ?kd ?ku ?_; (case k1 => k_asm); (case k2 => k_asm); (case k3 => k_asm); (case k4 => k_asm); (case k5 => k_asm); (case kK => first | exact rfl | assumption); (case kp => first | with_reducible assumption | assumption | omega); (case kd => k_room); (case ku => k_units); intro x' d' o' tl' h' tk' q' m1' m2' F' N'; (try dsimp only [PySem.W.CmpBack]); (try k_fold))))
local macro_rules | `(tactic| walk_at "binaryOp Mult int ref") => `(tactic| (k_here; k_dflt (refine' rmul_K ?F ?X ?I ?hO ?hC ?hS ?hM ?hF ?hU ?_; (case F => k_asm); (case X => k_asm); (case I => k_inst); (case hO => exact News.get (by k_asm) (by k_mem)); (case hC => k_is); (case hS => k_is); (case hM => k_is); (case hF => k_is); (case hU => k_is); k_whole)))
local macro_rules | `(tactic| walk_at "ite") => `(tactic| (k_here; first | (refine ite_pos (beq_iff_eq.mpr (by with_reducible assumption)) ?_) | (refine ite_neg (fun h => absurd (beq_iff_eq.mp h) (by with_reducible assumption)) ?_)))
local macro_rules | `(tactic| walk_at "compareOp Eq ref ref") => `(tactic| (k_here; walk_at "compareOp Eq ref"))
local macro_rules | `(tactic| walk_at "subscriptTail Name Constant ref int") => `(tactic| (k_here; (with_reducible show wpAny _ _ (subscriptTail _ _ (Value.ref _) (Value.int _ _)) _ _ _); k_dflt (refine' item_tupleT ?t ?a ?b ?c ?d ?_; (case t => exact News.isTup (by k_asm) (by k_mem)); (case a => decide); (case b => decide); (case c => rfl); (case d => rfl); k_whole)))
set_option maxRecDepth 100000 in
set_option maxHeartbeats 8000000 in
theorem dblC1 {w : World} {p : Program} {loose : List Str} {mean : ExcName → Option Value} {mg mb : Str → Option Value}
   {dp un : Nat} {gd : Option (List Code)} {cn : Str} {cs : Scope} {a : Addr} {ccd : Value} {cl : List (Str × Addr)} {outer : List Env} {A₀ : Around} {base h₀ : Heap} {L : Addr} {m : Str → Option Value} {s : Shared} {Q E : Value → Shared → Prop} {news : List (Addr × Obj)}
   {t : Addr} {pp : Int} {P : Int × Int × Int}
    (B : Below A₀ base outer h₀) (F : Fr h₀ L s.heap m) (X : (hd.heap_39 w.params).In h₀) (N : News h₀ L s.heap news) (T : Top p loose mean mg mb h₀) (hk : cs.kind = .function)
    (hP : PtIn w pp news t P)
    (hp : 0 < pp) (hp2 : pp < 128) (hd : dp + 12 < recursionLimit) (hu : un + 96 < cLine)
    (ret : ∀ (t' : Addr) (tl : List (Addr × Obj)) (h' : Heap) (tk' : Nat), Fr h₀ L h' m → News h₀ L h' (tl ++ news) → PtIn w pp (tl ++ news) t' (dblF pp P) → Q (.ref t') { s with heap := h', toks := tk' }) :
    wpAny (model PySem.Challenge.rw_lh0029_01.row.prog w) (ktrTop dp un gd cn cs L a ccd cl outer) (call (.ref 35) [.ref t]) Q E s := by
  have ret' : ∀ (t' : Addr) (news' : List (Addr × Obj)) (h' : Heap) (tk' : Nat), Ext news news' → Fr h₀ L h' m → News h₀ L h' news' → PtIn w pp news' t' (dblF pp P) → Q (.ref t') { s with heap := h', toks := tk' } := by
    intro t' news' h' tk' he f n q
    obtain ⟨tl, rfl⟩ := he.is
    exact ret t' tl h' tk' f n q
  clear ret
  obtain ⟨x, y, z⟩ := P
  obtain ⟨x', dx, y', dy, z', dz, t1, t2, t3, t4, u1, u2, u3, u4, v1, v2, v3, v4, h1, h2, h3, h4, h5, h6, h7, ⟨b1, b2⟩, ⟨b3, b4⟩, ⟨b5, b6⟩⟩ := hP
  dsimp only at h3 h5 h7 b1 b2 b3 b4 b5 b6
  refine wpAny_call ?_
  k_dflt cell_enter
  k_steps
  refine ret' _ _ _ _ ?_ (by k_asm) (by k_asm) ?_
  · repeat (first | exact Ext.refl _ | refine Ext.app _ ?_ | refine Ext.cons _ ?_)
  · refine' PtIn.of ?h1 ?h2 ?h3 ?h4 ?h5 ?h6 ?h7 ?q1 ?q2 ?q3 ?e ?b1 ?b2 ?b3 ?b4 ?b5 ?b6
    (case h1 => k_mem); (case h2 => k_mem); (case h3 => k_mem); (case h4 => k_mem); (case h5 => k_mem); (case h6 => k_mem); (case h7 => k_mem); (case q1 => first | assumption | exact ⟨_, _, _, _, rfl⟩); (case q2 => first | assumption | exact ⟨_, _, _, _, rfl⟩); (case q3 => first | assumption | exact ⟨_, _, _, _, rfl⟩)
    (case e => subst_vars; rfl)
    all_goals assumption
set_option maxRecDepth 100000 in
set_option maxHeartbeats 8000000 in
theorem dblC2 {w : World} {p : Program} {loose : List Str} {mean : ExcName → Option Value} {mg mb : Str → Option Value}
   {dp un : Nat} {gd : Option (List Code)} {cn : Str} {cs : Scope} {a : Addr} {ccd : Value} {cl : List (Str × Addr)} {outer : List Env} {A₀ : Around} {base h₀ : Heap} {L : Addr} {m : Str → Option Value} {s : Shared} {Q E : Value → Shared → Prop} {news : List (Addr × Obj)}
   {t : Addr} {pp : Int} {P : Int × Int × Int}
    (B : Below A₀ base outer h₀) (F : Fr h₀ L s.heap m) (X : (hd.heap_39 w.params).In h₀) (N : News h₀ L s.heap news) (T : Top p loose mean mg mb h₀) (hk : cs.kind = .function)
    (hP : PtIn w pp news t P)
    (hp : 0 < pp) (hp2 : pp < 128) (hd : dp + 12 < recursionLimit) (hu : un + 96 < cLine)
    (ret : ∀ (t' : Addr) (tl : List (Addr × Obj)) (h' : Heap) (tk' : Nat), Fr h₀ L h' m → News h₀ L h' (tl ++ news) → PtIn w pp (tl ++ news) t' (dblF pp P) → Q (.ref t') { s with heap := h', toks := tk' }) :
    wpAny (model PySem.Challenge.rw_lh0029_01.row.prog w) (ktrTop dp un gd cn cs L a ccd cl outer) (call (.ref 239) [.ref t]) Q E s := by
  have ret' : ∀ (t' : Addr) (news' : List (Addr × Obj)) (h' : Heap) (tk' : Nat), Ext news news' → Fr h₀ L h' m → News h₀ L h' news' → PtIn w pp news' t' (dblF pp P) → Q (.ref t') { s with heap := h', toks := tk' } := by
    intro t' news' h' tk' he f n q
    obtain ⟨tl, rfl⟩ := he.is
    exact ret t' tl h' tk' f n q
  clear ret
  obtain ⟨x, y, z⟩ := P
  obtain ⟨x', dx, y', dy, z', dz, t1, t2, t3, t4, u1, u2, u3, u4, v1, v2, v3, v4, h1, h2, h3, h4, h5, h6, h7, ⟨b1, b2⟩, ⟨b3, b4⟩, ⟨b5, b6⟩⟩ := hP
  dsimp only at h3 h5 h7 b1 b2 b3 b4 b5 b6
  refine wpAny_call ?_
  k_dflt cell_enter
  k_steps
  refine ret' _ _ _ _ ?_ (by k_asm) (by k_asm) ?_
  · repeat (first | exact Ext.refl _ | refine Ext.app _ ?_ | refine Ext.cons _ ?_)
  · refine' PtIn.of ?h1 ?h2 ?h3 ?h4 ?h5 ?h6 ?h7 ?q1 ?q2 ?q3 ?e ?b1 ?b2 ?b3 ?b4 ?b5 ?b6
    (case h1 => k_mem); (case h2 => k_mem); (case h3 => k_mem); (case h4 => k_mem); (case h5 => k_mem); (case h6 => k_mem); (case h7 => k_mem); (case q1 => first | assumption | exact ⟨_, _, _, _, rfl⟩); (case q2 => first | assumption | exact ⟨_, _, _, _, rfl⟩); (case q3 => first | assumption | exact ⟨_, _, _, _, rfl⟩)
    (case e => subst_vars; rfl)
    all_goals assumption
set_option maxRecDepth 100000 in
set_option maxHeartbeats 8000000 in
theorem infC1 {w : World} {p : Program} {loose : List Str} {mean : ExcName → Option Value} {mg mb : Str → Option Value}
   {dp un : Nat} {gd : Option (List Code)} {cn : Str} {cs : Scope} {a : Addr} {ccd : Value} {cl : List (Str × Addr)} {outer : List Env} {A₀ : Around} {base h₀ : Heap} {L : Addr} {m : Str → Option Value} {s : Shared} {Q E : Value → Shared → Prop} {news : List (Addr × Obj)}
   {ta : Addr} {pp : Int} {P : Int × Int × Int}
    (B : Below A₀ base outer h₀) (F : Fr h₀ L s.heap m) (X : (hd.heap_39 w.params).In h₀) (N : News h₀ L s.heap news) (T : Top p loose mean mg mb h₀) (hk : cs.kind = .function)
    (hP : PtIn w pp news ta P)
    (hp : 0 < pp) (hd : dp + 16 < recursionLimit) (hu : un + 128 < cLine)
    (ret : ∀ (tl : List (Addr × Obj)) (h' : Heap) (tk' : Nat), Fr h₀ L h' m → News h₀ L h' (tl ++ news) → Q (.bool (P.2.2 == 0)) { s with heap := h', toks := tk' }) :
    wpAny (model PySem.Challenge.rw_lh0029_01.row.prog w) (ktrTop dp un gd cn cs L a ccd cl outer) (call (.ref 28) [.ref ta]) Q E s := by
  have ret' : ∀ (news' : List (Addr × Obj)) (h' : Heap) (tk' : Nat), Fr h₀ L h' m → News h₀ L h' news' → Ext news news' → Q (.bool (P.2.2 == 0)) { s with heap := h', toks := tk' } := by
    intro news' h' tk' f n he
    obtain ⟨tl, rfl⟩ := he.is
    exact ret tl h' tk' f n
  clear ret
  obtain ⟨x1, y1, z1⟩ := P
  obtain ⟨x', dx, y', dy, z', dz, t1, t2, t3, t4, u1, u2, u3, u4, v1, v2, v3, v4, h1, h2, h3, h4, h5, h6, h7, ⟨b1, b2⟩, ⟨b3, b4⟩, ⟨b5, b6⟩⟩ := hP
  dsimp only at h3 h5 h7 b1 b2 b3 b4 b5 b6
  refine wpAny_call ?_
  k_dflt cell_enter
  k_steps
  all_goals exact ret' _ _ _ (by k_asm) (by k_asm) (by repeat (first | exact Ext.refl _ | refine Ext.app _ ?_ | refine Ext.cons _ ?_))
set_option maxRecDepth 100000 in
set_option maxHeartbeats 8000000 in
theorem infC2 {w : World} {p : Program} {loose : List Str} {mean : ExcName → Option Value} {mg mb : Str → Option Value}
   {dp un : Nat} {gd : Option (List Code)} {cn : Str} {cs : Scope} {a : Addr} {ccd : Value} {cl : List (Str × Addr)} {outer : List Env} {A₀ : Around} {base h₀ : Heap} {L : Addr} {m : Str → Option Value} {s : Shared} {Q E : Value → Shared → Prop} {news : List (Addr × Obj)}
   {ta : Addr} {pp : Int} {P : Int × Int × Int}
    (B : Below A₀ base outer h₀) (F : Fr h₀ L s.heap m) (X : (hd.heap_39 w.params).In h₀) (N : News h₀ L s.heap news) (T : Top p loose mean mg mb h₀) (hk : cs.kind = .function)
    (hP : PtIn w pp news ta P)
    (hp : 0 < pp) (hd : dp + 16 < recursionLimit) (hu : un + 128 < cLine)
    (ret : ∀ (tl : List (Addr × Obj)) (h' : Heap) (tk' : Nat), Fr h₀ L h' m → News h₀ L h' (tl ++ news) → Q (.bool (P.2.2 == 0)) { s with heap := h', toks := tk' }) :
    wpAny (model PySem.Challenge.rw_lh0029_01.row.prog w) (ktrTop dp un gd cn cs L a ccd cl outer) (call (.ref 232) [.ref ta]) Q E s := by
  have ret' : ∀ (news' : List (Addr × Obj)) (h' : Heap) (tk' : Nat), Fr h₀ L h' m → News h₀ L h' news' → Ext news news' → Q (.bool (P.2.2 == 0)) { s with heap := h', toks := tk' } := by
    intro news' h' tk' f n he
    obtain ⟨tl, rfl⟩ := he.is
    exact ret tl h' tk' f n
  clear ret
  obtain ⟨x1, y1, z1⟩ := P
  obtain ⟨x', dx, y', dy, z', dz, t1, t2, t3, t4, u1, u2, u3, u4, v1, v2, v3, v4, h1, h2, h3, h4, h5, h6, h7, ⟨b1, b2⟩, ⟨b3, b4⟩, ⟨b5, b6⟩⟩ := hP
  dsimp only at h3 h5 h7 b1 b2 b3 b4 b5 b6
  refine wpAny_call ?_
  k_dflt cell_enter
  k_steps
  all_goals exact ret' _ _ _ (by k_asm) (by k_asm) (by repeat (first | exact Ext.refl _ | refine Ext.app _ ?_ | refine Ext.cons _ ?_))
set_option maxRecDepth 100000 in
set_option maxHeartbeats 8000000 in
theorem eqPt1 {w : World} {p : Program} {loose : List Str} {mean : ExcName → Option Value} {mg mb : Str → Option Value}
   {dp un : Nat} {gd : Option (List Code)} {cn : Str} {cs : Scope} {a : Addr} {ccd : Value} {cl : List (Str × Addr)} {outer : List Env} {A₀ : Around} {base h₀ : Heap} {L : Addr} {m : Str → Option Value} {s : Shared} {Q E : Value → Shared → Prop} {news : List (Addr × Obj)}
   {ta tb : Addr} {pp : Int} {P1 P2 : Int × Int × Int}
    (B : Below A₀ base outer h₀) (F : Fr h₀ L s.heap m) (X : (hd.heap_39 w.params).In h₀) (N : News h₀ L s.heap news) (T : Top p loose mean mg mb h₀) (hk : cs.kind = .function)
    (hP1 : PtIn w pp news ta P1) (hP2 : PtIn w pp news tb P2)
    (hp : 0 < pp) (hp2 : pp < 128) (hd : dp + 16 < recursionLimit) (hu : un + 128 < cLine)
    (ret : ∀ (tl : List (Addr × Obj)) (h' : Heap) (tk' : Nat), Fr h₀ L h' m → News h₀ L h' (tl ++ news) → Q (.bool (eqF pp P1 P2)) { s with heap := h', toks := tk' }) :
    wpAny (model PySem.Challenge.rw_lh0029_01.row.prog w) (ktrTop dp un gd cn cs L a ccd cl outer) (call (.ref 56) [.ref ta, .ref tb]) Q E s := by
  have ret' : ∀ (b : Bool) (news' : List (Addr × Obj)) (h' : Heap) (tk' : Nat), Fr h₀ L h' m → News h₀ L h' news' → Ext news news' → b = eqF pp P1 P2 → Q (.bool b) { s with heap := h', toks := tk' } := by
    intro b news' h' tk' f n he hb
    subst hb
    obtain ⟨tl, rfl⟩ := he.is
    exact ret tl h' tk' f n
  clear ret
  obtain ⟨x1, y1, z1⟩ := P1
  obtain ⟨x2, y2, z2⟩ := P2
  obtain ⟨x', dx, y', dy, z', dz, t1, t2, t3, t4, u1, u2, u3, u4, v1, v2, v3, v4, h1, h2, h3, h4, h5, h6, h7, ⟨b1, b2⟩, ⟨b3, b4⟩, ⟨b5, b6⟩⟩ := hP1
  dsimp only at h3 h5 h7 b1 b2 b3 b4 b5 b6
  obtain ⟨X', dX, Y', dY, Z', dZ, t5, t6, t7, t8, u5, u6, u7, u8, v5, v6, v7, v8, H1, H2, H3, H4, H5, H6, H7, ⟨B1, B2⟩, ⟨B3, B4⟩, ⟨B5, B6⟩⟩ := hP2
  dsimp only at H3 H5 H7 B1 B2 B3 B4 B5 B6
  refine wpAny_call ?_
  k_dflt cell_enter
  k_steps
  all_goals refine ret' _ _ _ _ (by k_asm) (by k_asm) (by repeat (first | exact Ext.refl _ | refine Ext.app _ ?_ | refine Ext.cons _ ?_)) ?_
  all_goals first
    | exact eqF_t' (by assumption) (by assumption) (by assumption) (by assumption) (by assumption)
    | exact eqF_n' (by assumption) (by assumption) (by assumption)
set_option maxRecDepth 100000 in
set_option maxHeartbeats 8000000 in
theorem eqPt2 {w : World} {p : Program} {loose : List Str} {mean : ExcName → Option Value} {mg mb : Str → Option Value}
   {dp un : Nat} {gd : Option (List Code)} {cn : Str} {cs : Scope} {a : Addr} {ccd : Value} {cl : List (Str × Addr)} {outer : List Env} {A₀ : Around} {base h₀ : Heap} {L : Addr} {m : Str → Option Value} {s : Shared} {Q E : Value → Shared → Prop} {news : List (Addr × Obj)}
   {ta tb : Addr} {pp : Int} {P1 P2 : Int × Int × Int}
    (B : Below A₀ base outer h₀) (F : Fr h₀ L s.heap m) (X : (hd.heap_39 w.params).In h₀) (N : News h₀ L s.heap news) (T : Top p loose mean mg mb h₀) (hk : cs.kind = .function)
    (hP1 : PtIn w pp news ta P1) (hP2 : PtIn w pp news tb P2)
    (hp : 0 < pp) (hp2 : pp < 128) (hd : dp + 16 < recursionLimit) (hu : un + 128 < cLine)
    (ret : ∀ (tl : List (Addr × Obj)) (h' : Heap) (tk' : Nat), Fr h₀ L h' m → News h₀ L h' (tl ++ news) → Q (.bool (eqF pp P1 P2)) { s with heap := h', toks := tk' }) :
    wpAny (model PySem.Challenge.rw_lh0029_01.row.prog w) (ktrTop dp un gd cn cs L a ccd cl outer) (call (.ref 260) [.ref ta, .ref tb]) Q E s := by
  have ret' : ∀ (b : Bool) (news' : List (Addr × Obj)) (h' : Heap) (tk' : Nat), Fr h₀ L h' m → News h₀ L h' news' → Ext news news' → b = eqF pp P1 P2 → Q (.bool b) { s with heap := h', toks := tk' } := by
    intro b news' h' tk' f n he hb
    subst hb
    obtain ⟨tl, rfl⟩ := he.is
    exact ret tl h' tk' f n
  clear ret
  obtain ⟨x1, y1, z1⟩ := P1
  obtain ⟨x2, y2, z2⟩ := P2
  obtain ⟨x', dx, y', dy, z', dz, t1, t2, t3, t4, u1, u2, u3, u4, v1, v2, v3, v4, h1, h2, h3, h4, h5, h6, h7, ⟨b1, b2⟩, ⟨b3, b4⟩, ⟨b5, b6⟩⟩ := hP1
  dsimp only at h3 h5 h7 b1 b2 b3 b4 b5 b6
  obtain ⟨X', dX, Y', dY, Z', dZ, t5, t6, t7, t8, u5, u6, u7, u8, v5, v6, v7, v8, H1, H2, H3, H4, H5, H6, H7, ⟨B1, B2⟩, ⟨B3, B4⟩, ⟨B5, B6⟩⟩ := hP2
  dsimp only at H3 H5 H7 B1 B2 B3 B4 B5 B6
  refine wpAny_call ?_
  k_dflt cell_enter
  k_steps
  all_goals refine ret' _ _ _ _ (by k_asm) (by k_asm) (by repeat (first | exact Ext.refl _ | refine Ext.app _ ?_ | refine Ext.cons _ ?_)) ?_
  all_goals first
    | exact eqF_t' (by assumption) (by assumption) (by assumption) (by assumption) (by assumption)
    | exact eqF_n' (by assumption) (by assumption) (by assumption)
section
local macro_rules | `(tactic| walk_at "call ref") => `(tactic| (k_here; (with_reducible show wpAny _ _ (call (Value.ref 35) [Value.ref _]) _ _ _); k_dflt (refine' dblC1 ?k1 ?k2 ?k3 ?k4 ?k5 ?kK ?kP ?kp ?kp2 ?kd ?ku ?_; (case k1 => k_asm); (case k2 => k_asm); (case k3 => k_asm); (case k4 => k_asm); (case k5 => k_asm); (case kK => first | exact rfl | assumption); (case kP => (refine' PtIn.of ?h1 ?h2 ?h3 ?h4 ?h5 ?h6 ?h7 ?q1 ?q2 ?q3 ?e ?b1 ?b2 ?b3 ?b4 ?b5 ?b6; (case h1 => k_mem); (case h2 => k_mem); (case h3 => k_mem); (case h4 => k_mem); (case h5 => k_mem); (case h6 => k_mem); (case h7 => k_mem); (case q1 => first | assumption | exact ⟨_, _, _, _, rfl⟩); (case q2 => first | assumption | exact ⟨_, _, _, _, rfl⟩); (case q3 => first | assumption | exact ⟨_, _, _, _, rfl⟩); (case e => exact rfl); (all_goals assumption))); (case kp => assumption); (case kp2 => assumption); (case kd => k_room); (case ku => k_units); intro t' tl' h' tk' F' N' P'; (try dsimp only [PySem.W.CmpBack]); (try k_fold))))
local macro_rules | `(tactic| walk_at "call ref") => `(tactic| (k_here; (with_reducible show wpAny _ _ (call (Value.ref 239) [Value.ref _]) _ _ _); k_dflt (refine' dblC2 ?k1 ?k2 ?k3 ?k4 ?k5 ?kK ?kP ?kp ?kp2 ?kd ?ku ?_; (case k1 => k_asm); (case k2 => k_asm); (case k3 => k_asm); (case k4 => k_asm); (case k5 => k_asm); (case kK => first | exact rfl | assumption); (case kP => (refine' PtIn.of ?h1 ?h2 ?h3 ?h4 ?h5 ?h6 ?h7 ?q1 ?q2 ?q3 ?e ?b1 ?b2 ?b3 ?b4 ?b5 ?b6; (case h1 => k_mem); (case h2 => k_mem); (case h3 => k_mem); (case h4 => k_mem); (case h5 => k_mem); (case h6 => k_mem); (case h7 => k_mem); (case q1 => first | assumption | exact ⟨_, _, _, _, rfl⟩); (case q2 => first | assumption | exact ⟨_, _, _, _, rfl⟩); (case q3 => first | assumption | exact ⟨_, _, _, _, rfl⟩); (case e => exact rfl); (all_goals assumption))); (case kp => assumption); (case kp2 => assumption); (case kd => k_room); (case ku => k_units); intro t' tl' h' tk' F' N' P'; (try dsimp only [PySem.W.CmpBack]); (try k_fold))))
set_option maxRecDepth 100000 in
set_option maxHeartbeats 8000000 in
theorem addC1 {w : World} {p : Program} {loose : List Str} {mean : ExcName → Option Value} {mg mb : Str → Option Value}
   {dp un : Nat} {gd : Option (List Code)} {cn : Str} {cs : Scope} {a : Addr} {ccd : Value} {cl : List (Str × Addr)} {outer : List Env} {A₀ : Around} {base h₀ : Heap} {L : Addr} {m : Str → Option Value} {s : Shared} {Q E : Value → Shared → Prop} {news : List (Addr × Obj)}
   {ta tb : Addr} {pp : Int} {P1 P2 : Int × Int × Int}
    (B : Below A₀ base outer h₀) (F : Fr h₀ L s.heap m) (X : (hd.heap_39 w.params).In h₀) (N : News h₀ L s.heap news) (T : Top p loose mean mg mb h₀) (hk : cs.kind = .function)
    (hP1 : PtIn w pp news ta P1) (hP2 : PtIn w pp news tb P2)
    (hp : 0 < pp) (hp1 : 1 < pp) (hp2 : pp < 128) (hd : dp + 16 < recursionLimit) (hu : un + 128 < cLine)
    (ret : ∀ (t' : Addr) (tl : List (Addr × Obj)) (h' : Heap) (tk' : Nat), Fr h₀ L h' m → News h₀ L h' (tl ++ news) → PtIn w pp (tl ++ news) t' (addF pp P1 P2) → Q (.ref t') { s with heap := h', toks := tk' }) :
    wpAny (model PySem.Challenge.rw_lh0029_01.row.prog w) (ktrTop dp un gd cn cs L a ccd cl outer) (call (.ref 42) [.ref ta, .ref tb]) Q E s := by
  have ret' : ∀ (t' : Addr) (news' : List (Addr × Obj)) (h' : Heap) (tk' : Nat), Ext news news' → Fr h₀ L h' m → News h₀ L h' news' → PtIn w pp news' t' (addF pp P1 P2) → Q (.ref t') { s with heap := h', toks := tk' } := by
    intro t' news' h' tk' he f n q
    obtain ⟨tl, rfl⟩ := he.is
    exact ret t' tl h' tk' f n q
  clear ret
  obtain ⟨x1, y1, z1⟩ := P1
  obtain ⟨x2, y2, z2⟩ := P2
  have hQ1 := hP1
  have hQ2 := hP2
  obtain ⟨x', dx, y', dy, z', dz, t1, t2, t3, t4, u1, u2, u3, u4, v1, v2, v3, v4, h1, h2, h3, h4, h5, h6, h7, ⟨b1, b2⟩, ⟨b3, b4⟩, ⟨b5, b6⟩⟩ := hP1
  dsimp only at h3 h5 h7 b1 b2 b3 b4 b5 b6
  obtain ⟨X', dX, Y', dY, Z', dZ, t5, t6, t7, t8, u5, u6, u7, u8, v5, v6, v7, v8, H1, H2, H3, H4, H5, H6, H7, ⟨B1, B2⟩, ⟨B3, B4⟩, ⟨B5, B6⟩⟩ := hP2
  dsimp only at H3 H5 H7 B1 B2 B3 B4 B5 B6
  refine wpAny_call ?_
  k_dflt cell_enter
  k_steps
  all_goals refine ret' _ _ _ _ ?_ (by k_asm) (by k_asm) ?_
  all_goals first
    | ((with_reducible show Ext _ _); repeat (first | exact Ext.refl _ | refine Ext.app _ ?_ | refine Ext.cons _ ?_))
    | exact (hQ1.mono (by repeat (first | exact Ext.refl _ | refine Ext.app _ ?_ | refine Ext.cons _ ?_))).cast (addF_l (by assumption))
    | exact (hQ2.mono (by repeat (first | exact Ext.refl _ | refine Ext.app _ ?_ | refine Ext.cons _ ?_))).cast (addF_r (by assumption) (by assumption))
    | exact PtIn.cast (by assumption) (addF_d (by assumption) (by assumption) (by subst_vars; assumption) (by subst_vars; assumption))
    | exact PtIn.of (by k_mem) (by k_mem) (by k_mem) (by k_mem) (by k_mem) (by k_mem) (by k_mem) (by first | assumption | exact ⟨_, _, _, _, rfl⟩) (by first | assumption | exact ⟨_, _, _, _, rfl⟩) (by first | assumption | exact ⟨_, _, _, _, rfl⟩) (by exact (addF_i (by assumption) (by assumption) (by subst_vars; assumption) (by subst_vars; assumption)).symm) (by first | assumption | omega) (by first | assumption | omega) (by first | assumption | omega) (by first | assumption | omega) (by first | assumption | omega) (by first | assumption | omega)
    | exact PtIn.of (by k_mem) (by k_mem) (by k_mem) (by k_mem) (by k_mem) (by k_mem) (by k_mem) (by first | assumption | exact ⟨_, _, _, _, rfl⟩) (by first | assumption | exact ⟨_, _, _, _, rfl⟩) (by first | assumption | exact ⟨_, _, _, _, rfl⟩) (by refine Eq.trans ?_ (addF_g (by assumption) (by assumption) (by subst_vars; assumption)).symm; subst_vars; rfl) (by first | assumption | omega) (by first | assumption | omega) (by first | assumption | omega) (by first | assumption | omega) (by first | assumption | omega) (by first | assumption | omega)
set_option maxRecDepth 100000 in
set_option maxHeartbeats 8000000 in
theorem addC2 {w : World} {p : Program} {loose : List Str} {mean : ExcName → Option Value} {mg mb : Str → Option Value}
   {dp un : Nat} {gd : Option (List Code)} {cn : Str} {cs : Scope} {a : Addr} {ccd : Value} {cl : List (Str × Addr)} {outer : List Env} {A₀ : Around} {base h₀ : Heap} {L : Addr} {m : Str → Option Value} {s : Shared} {Q E : Value → Shared → Prop} {news : List (Addr × Obj)}
   {ta tb : Addr} {pp : Int} {P1 P2 : Int × Int × Int}
    (B : Below A₀ base outer h₀) (F : Fr h₀ L s.heap m) (X : (hd.heap_39 w.params).In h₀) (N : News h₀ L s.heap news) (T : Top p loose mean mg mb h₀) (hk : cs.kind = .function)
    (hP1 : PtIn w pp news ta P1) (hP2 : PtIn w pp news tb P2)
    (hp : 0 < pp) (hp1 : 1 < pp) (hp2 : pp < 128) (hd : dp + 16 < recursionLimit) (hu : un + 128 < cLine)
    (ret : ∀ (t' : Addr) (tl : List (Addr × Obj)) (h' : Heap) (tk' : Nat), Fr h₀ L h' m → News h₀ L h' (tl ++ news) → PtIn w pp (tl ++ news) t' (addF pp P1 P2) → Q (.ref t') { s with heap := h', toks := tk' }) :
    wpAny (model PySem.Challenge.rw_lh0029_01.row.prog w) (ktrTop dp un gd cn cs L a ccd cl outer) (call (.ref 246) [.ref ta, .ref tb]) Q E s := by
  have ret' : ∀ (t' : Addr) (news' : List (Addr × Obj)) (h' : Heap) (tk' : Nat), Ext news news' → Fr h₀ L h' m → News h₀ L h' news' → PtIn w pp news' t' (addF pp P1 P2) → Q (.ref t') { s with heap := h', toks := tk' } := by
    intro t' news' h' tk' he f n q
    obtain ⟨tl, rfl⟩ := he.is
    exact ret t' tl h' tk' f n q
  clear ret
  obtain ⟨x1, y1, z1⟩ := P1
  obtain ⟨x2, y2, z2⟩ := P2
  have hQ1 := hP1
  have hQ2 := hP2
  obtain ⟨x', dx, y', dy, z', dz, t1, t2, t3, t4, u1, u2, u3, u4, v1, v2, v3, v4, h1, h2, h3, h4, h5, h6, h7, ⟨b1, b2⟩, ⟨b3, b4⟩, ⟨b5, b6⟩⟩ := hP1
  dsimp only at h3 h5 h7 b1 b2 b3 b4 b5 b6
  obtain ⟨X', dX, Y', dY, Z', dZ, t5, t6, t7, t8, u5, u6, u7, u8, v5, v6, v7, v8, H1, H2, H3, H4, H5, H6, H7, ⟨B1, B2⟩, ⟨B3, B4⟩, ⟨B5, B6⟩⟩ := hP2
  dsimp only at H3 H5 H7 B1 B2 B3 B4 B5 B6
  refine wpAny_call ?_
  k_dflt cell_enter
  k_steps
  all_goals refine ret' _ _ _ _ ?_ (by k_asm) (by k_asm) ?_
  all_goals first
    | ((with_reducible show Ext _ _); repeat (first | exact Ext.refl _ | refine Ext.app _ ?_ | refine Ext.cons _ ?_))
    | exact (hQ1.mono (by repeat (first | exact Ext.refl _ | refine Ext.app _ ?_ | refine Ext.cons _ ?_))).cast (addF_l (by assumption))
    | exact (hQ2.mono (by repeat (first | exact Ext.refl _ | refine Ext.app _ ?_ | refine Ext.cons _ ?_))).cast (addF_r (by assumption) (by assumption))
    | exact PtIn.cast (by assumption) (addF_d (by assumption) (by assumption) (by subst_vars; assumption) (by subst_vars; assumption))
    | exact PtIn.of (by k_mem) (by k_mem) (by k_mem) (by k_mem) (by k_mem) (by k_mem) (by k_mem) (by first | assumption | exact ⟨_, _, _, _, rfl⟩) (by first | assumption | exact ⟨_, _, _, _, rfl⟩) (by first | assumption | exact ⟨_, _, _, _, rfl⟩) (by exact (addF_i (by assumption) (by assumption) (by subst_vars; assumption) (by subst_vars; assumption)).symm) (by first | assumption | omega) (by first | assumption | omega) (by first | assumption | omega) (by first | assumption | omega) (by first | assumption | omega) (by first | assumption | omega)
    | exact PtIn.of (by k_mem) (by k_mem) (by k_mem) (by k_mem) (by k_mem) (by k_mem) (by k_mem) (by first | assumption | exact ⟨_, _, _, _, rfl⟩) (by first | assumption | exact ⟨_, _, _, _, rfl⟩) (by first | assumption | exact ⟨_, _, _, _, rfl⟩) (by refine Eq.trans ?_ (addF_g (by assumption) (by assumption) (by subst_vars; assumption)).symm; subst_vars; rfl) (by first | assumption | omega) (by first | assumption | omega) (by first | assumption | omega) (by first | assumption | omega) (by first | assumption | omega) (by first | assumption | omega)
local macro_rules | `(tactic| walk_at "call ref") => `(tactic| (k_here; (with_reducible show wpAny _ _ (call (Value.ref 42) [Value.ref _, Value.ref _]) _ _ _); k_dflt (refine' addC1 ?k1 ?k2 ?k3 ?k4 ?k5 ?kK ?kP ?kP2 ?kp ?kp1 ?kp2 ?kd ?ku ?_; (case k1 => k_asm); (case k2 => k_asm); (case k3 => k_asm); (case k4 => k_asm); (case k5 => k_asm); (case kK => first | exact rfl | assumption); (case kP => first | assumption | exact PtIn.mono (by assumption) (by repeat (first | exact Ext.refl _ | refine Ext.app _ ?_ | refine Ext.cons _ ?_))); (case kP2 => first | assumption | exact PtIn.mono (by assumption) (by repeat (first | exact Ext.refl _ | refine Ext.app _ ?_ | refine Ext.cons _ ?_))); (case kp => assumption); (case kp1 => assumption); (case kp2 => assumption); (case kd => k_room); (case ku => k_units); intro t' tl' h' tk' F' N' P'; (try dsimp only [PySem.W.CmpBack]); (try k_fold))))
local macro_rules | `(tactic| walk_at "call ref") => `(tactic| (k_here; (with_reducible show wpAny _ _ (call (Value.ref 246) [Value.ref _, Value.ref _]) _ _ _); k_dflt (refine' addC2 ?k1 ?k2 ?k3 ?k4 ?k5 ?kK ?kP ?kP2 ?kp ?kp1 ?kp2 ?kd ?ku ?_; (case k1 => k_asm); (case k2 => k_asm); (case k3 => k_asm); (case k4 => k_asm); (case k5 => k_asm); (case kK => first | exact rfl | assumption); (case kP => first | assumption | exact PtIn.mono (by assumption) (by repeat (first | exact Ext.refl _ | refine Ext.app _ ?_ | refine Ext.cons _ ?_))); (case kP2 => first | assumption | exact PtIn.mono (by assumption) (by repeat (first | exact Ext.refl _ | refine Ext.app _ ?_ | refine Ext.cons _ ?_))); (case kp => assumption); (case kp1 => assumption); (case kp2 => assumption); (case kd => k_room); (case ku => k_units); intro t' tl' h' tk' F' N' P'; (try dsimp only [PySem.W.CmpBack]); (try k_fold))))
local macro_rules | `(tactic| walk_at "call ref") => `(tactic| (k_here; (with_reducible show wpAny _ _ (call (Value.ref 49) [Value.ref _, Value.int _ _]) _ _ _); k_dflt (refine' mulUse (f := 49) ?kC ?k1 ?k2 ?k3 ?k4 ?k5 ?kK ?kP ?kp ?kp1 ?kp2 ?kn ?kn2 ?kd ?ku ?_; (case kC => assumption); (case k1 => k_asm); (case k2 => k_asm); (case k3 => k_asm); (case k4 => k_asm); (case k5 => k_asm); (case kK => first | exact rfl | assumption); (case kP => first | assumption | exact PtIn.mono (by assumption) (by repeat (first | exact Ext.refl _ | refine Ext.app _ ?_ | refine Ext.cons _ ?_))); (case kp => assumption); (case kp1 => assumption); (case kp2 => assumption); (case kn => first | assumption | omega); (case kn2 => first | assumption | omega); (case kd => k_room); (case ku => k_units); intro t' tl' h' tk' F' N' P'; (try dsimp only [PySem.W.CmpBack]); (try k_fold))))
local macro_rules | `(tactic| walk_at "call ref") => `(tactic| (k_here; (with_reducible show wpAny _ _ (call (Value.ref 253) [Value.ref _, Value.int _ _]) _ _ _); k_dflt (refine' mulUse (f := 253) ?kC ?k1 ?k2 ?k3 ?k4 ?k5 ?kK ?kP ?kp ?kp1 ?kp2 ?kn ?kn2 ?kd ?ku ?_; (case kC => assumption); (case k1 => k_asm); (case k2 => k_asm); (case k3 => k_asm); (case k4 => k_asm); (case k5 => k_asm); (case kK => first | exact rfl | assumption); (case kP => first | assumption | exact PtIn.mono (by assumption) (by repeat (first | exact Ext.refl _ | refine Ext.app _ ?_ | refine Ext.cons _ ?_))); (case kp => assumption); (case kp1 => assumption); (case kp2 => assumption); (case kn => first | assumption | omega); (case kn2 => first | assumption | omega); (case kd => k_room); (case ku => k_units); intro t' tl' h' tk' F' N' P'; (try dsimp only [PySem.W.CmpBack]); (try k_fold))))
set_option maxRecDepth 100000 in
set_option maxHeartbeats 8000000 in
theorem mulStep1 {w : World} {k : Nat} (C : MulSpec w 49 k) : MulSpec w 49 (k + 1) := by
  intro p loose mean mg mb dp un gd cn cs a ccd cl outer A₀ base h₀ L m s Q E news ta pp n tn P B F X N T hk hP hp hp1 hp2 hn hn2 hd hu ret
  have ret' : ∀ (t' : Addr) (news' : List (Addr × Obj)) (h' : Heap) (tk' : Nat), Ext news news' → Fr h₀ L h' m → News h₀ L h' news' → PtIn w pp news' t' (mulF pp (k + 1) P n) → Q (.ref t') { s with heap := h', toks := tk' } := by
    intro t' news' h' tk' he f n q
    obtain ⟨tl, rfl⟩ := he.is
    exact ret t' tl h' tk' f n q
  clear ret
  have hd1 : dp + 1 + (k + 20) < recursionLimit := by omega
  have hu1 : un + 3 + (k * 8 + 150) < cLine := by omega
  have hd2 : dp + 20 < recursionLimit := by omega
  have hu2 : un + 150 < cLine := by omega
  have hq0 : 0 ≤ n.fdiv 2 := by rw [Int.fdiv_eq_ediv_of_nonneg _ (by decide)]; omega
  have hq1 : n.fdiv 2 < 2 ^ k := by rw [Int.fdiv_eq_ediv_of_nonneg _ (by decide)]; rw [Int.pow_succ] at hn2; omega
  have hQ := hP
  obtain ⟨x1, y1, z1⟩ := P
  obtain ⟨x', dx, y', dy, z', dz, t1, t2, t3, t4, u1, u2, u3, u4, v1, v2, v3, v4, h1, h2, h3, h4, h5, h6, h7, ⟨b1, b2⟩, ⟨b3, b4⟩, ⟨b5, b6⟩⟩ := hP
  dsimp only at h3 h5 h7 b1 b2 b3 b4 b5 b6
  refine wpAny_call ?_
  k_dflt cell_enter
  k_steps
  all_goals refine ret' _ _ _ _ ?_ (by k_asm) (by k_asm) ?_
  all_goals first
    | ((with_reducible show Ext _ _); repeat (first | exact Ext.refl _ | refine Ext.app _ ?_ | refine Ext.cons _ ?_))
    | exact PtIn.cast (by assumption) (mulF_o (by assumption) (by assumption) (by assumption))
    | exact PtIn.cast (by assumption) (mulF_e (by assumption) (by assumption) (by assumption))
    | exact (hQ.mono (by repeat (first | exact Ext.refl _ | refine Ext.app _ ?_ | refine Ext.cons _ ?_))).cast (mulF_1 (by assumption) (by assumption))
    | exact PtIn.of (by k_mem) (by k_mem) (by k_mem) (by k_mem) (by k_mem) (by k_mem) (by k_mem) (by first | assumption | exact ⟨_, _, _, _, rfl⟩) (by first | assumption | exact ⟨_, _, _, _, rfl⟩) (by first | assumption | exact ⟨_, _, _, _, rfl⟩) (by exact (mulF_0 (by assumption)).symm) (by first | assumption | omega) (by first | assumption | omega) (by first | assumption | omega) (by first | assumption | omega) (by first | assumption | omega) (by first | assumption | omega)
set_option maxRecDepth 100000 in
set_option maxHeartbeats 8000000 in
theorem mulBase1 (w : World) : MulSpec w 49 0 := by
  intro p loose mean mg mb dp un gd cn cs a ccd cl outer A₀ base h₀ L m s Q E news ta pp n tn P B F X N T hk hP hp hp1 hp2 hn hn2 hd hu ret
  have hn0 : n = 0 := by omega
  subst hn0
  have ret' : ∀ (t' : Addr) (news' : List (Addr × Obj)) (h' : Heap) (tk' : Nat), Ext news news' → Fr h₀ L h' m → News h₀ L h' news' → PtIn w pp news' t' (mulF pp 0 P 0) → Q (.ref t') { s with heap := h', toks := tk' } := by
    intro t' news' h' tk' he f n q
    obtain ⟨tl, rfl⟩ := he.is
    exact ret t' tl h' tk' f n q
  clear ret
  have hd2 : dp + 20 < recursionLimit := by omega
  have hu2 : un + 150 < cLine := by omega
  obtain ⟨x1, y1, z1⟩ := P
  obtain ⟨x', dx, y', dy, z', dz, t1, t2, t3, t4, u1, u2, u3, u4, v1, v2, v3, v4, h1, h2, h3, h4, h5, h6, h7, ⟨b1, b2⟩, ⟨b3, b4⟩, ⟨b5, b6⟩⟩ := hP
  dsimp only at h3 h5 h7 b1 b2 b3 b4 b5 b6
  refine wpAny_call ?_
  k_dflt cell_enter
  k_steps
  all_goals refine ret' _ _ _ _ ?_ (by k_asm) (by k_asm) ?_
  all_goals first
    | ((with_reducible show Ext _ _); repeat (first | exact Ext.refl _ | refine Ext.app _ ?_ | refine Ext.cons _ ?_))
    | exact PtIn.of (by k_mem) (by k_mem) (by k_mem) (by k_mem) (by k_mem) (by k_mem) (by k_mem) (by first | assumption | exact ⟨_, _, _, _, rfl⟩) (by first | assumption | exact ⟨_, _, _, _, rfl⟩) (by first | assumption | exact ⟨_, _, _, _, rfl⟩) (by rfl) (by first | assumption | omega) (by first | assumption | omega) (by first | assumption | omega) (by first | assumption | omega) (by first | assumption | omega) (by first | assumption | omega)
theorem mulAll1 (w : World) : ∀ k, MulSpec w 49 k
  | 0 => mulBase1 w
  | k + 1 => mulStep1 (mulAll1 w k)
set_option maxRecDepth 100000 in
set_option maxHeartbeats 8000000 in
theorem mulStep2 {w : World} {k : Nat} (C : MulSpec w 253 k) : MulSpec w 253 (k + 1) := by
  intro p loose mean mg mb dp un gd cn cs a ccd cl outer A₀ base h₀ L m s Q E news ta pp n tn P B F X N T hk hP hp hp1 hp2 hn hn2 hd hu ret
  have ret' : ∀ (t' : Addr) (news' : List (Addr × Obj)) (h' : Heap) (tk' : Nat), Ext news news' → Fr h₀ L h' m → News h₀ L h' news' → PtIn w pp news' t' (mulF pp (k + 1) P n) → Q (.ref t') { s with heap := h', toks := tk' } := by
    intro t' news' h' tk' he f n q
    obtain ⟨tl, rfl⟩ := he.is
    exact ret t' tl h' tk' f n q
  clear ret
  have hd1 : dp + 1 + (k + 20) < recursionLimit := by omega
  have hu1 : un + 3 + (k * 8 + 150) < cLine := by omega
  have hd2 : dp + 20 < recursionLimit := by omega
  have hu2 : un + 150 < cLine := by omega
  have hq0 : 0 ≤ n.fdiv 2 := by rw [Int.fdiv_eq_ediv_of_nonneg _ (by decide)]; omega
  have hq1 : n.fdiv 2 < 2 ^ k := by rw [Int.fdiv_eq_ediv_of_nonneg _ (by decide)]; rw [Int.pow_succ] at hn2; omega
  have hQ := hP
  obtain ⟨x1, y1, z1⟩ := P
  obtain ⟨x', dx, y', dy, z', dz, t1, t2, t3, t4, u1, u2, u3, u4, v1, v2, v3, v4, h1, h2, h3, h4, h5, h6, h7, ⟨b1, b2⟩, ⟨b3, b4⟩, ⟨b5, b6⟩⟩ := hP
  dsimp only at h3 h5 h7 b1 b2 b3 b4 b5 b6
  refine wpAny_call ?_
  k_dflt cell_enter
  k_steps
  all_goals refine ret' _ _ _ _ ?_ (by k_asm) (by k_asm) ?_
  all_goals first
    | ((with_reducible show Ext _ _); repeat (first | exact Ext.refl _ | refine Ext.app _ ?_ | refine Ext.cons _ ?_))
    | exact PtIn.cast (by assumption) (mulF_o (by assumption) (by assumption) (by assumption))
    | exact PtIn.cast (by assumption) (mulF_e (by assumption) (by assumption) (by assumption))
    | exact (hQ.mono (by repeat (first | exact Ext.refl _ | refine Ext.app _ ?_ | refine Ext.cons _ ?_))).cast (mulF_1 (by assumption) (by assumption))
    | exact PtIn.of (by k_mem) (by k_mem) (by k_mem) (by k_mem) (by k_mem) (by k_mem) (by k_mem) (by first | assumption | exact ⟨_, _, _, _, rfl⟩) (by first | assumption | exact ⟨_, _, _, _, rfl⟩) (by first | assumption | exact ⟨_, _, _, _, rfl⟩) (by exact (mulF_0 (by assumption)).symm) (by first | assumption | omega) (by first | assumption | omega) (by first | assumption | omega) (by first | assumption | omega) (by first | assumption | omega) (by first | assumption | omega)
set_option maxRecDepth 100000 in
set_option maxHeartbeats 8000000 in
theorem mulBase2 (w : World) : MulSpec w 253 0 := by
  intro p loose mean mg mb dp un gd cn cs a ccd cl outer A₀ base h₀ L m s Q E news ta pp n tn P B F X N T hk hP hp hp1 hp2 hn hn2 hd hu ret
  have hn0 : n = 0 := by omega
  subst hn0
  have ret' : ∀ (t' : Addr) (news' : List (Addr × Obj)) (h' : Heap) (tk' : Nat), Ext news news' → Fr h₀ L h' m → News h₀ L h' news' → PtIn w pp news' t' (mulF pp 0 P 0) → Q (.ref t') { s with heap := h', toks := tk' } := by
    intro t' news' h' tk' he f n q
    obtain ⟨tl, rfl⟩ := he.is
    exact ret t' tl h' tk' f n q
  clear ret
  have hd2 : dp + 20 < recursionLimit := by omega
  have hu2 : un + 150 < cLine := by omega
  obtain ⟨x1, y1, z1⟩ := P
  obtain ⟨x', dx, y', dy, z', dz, t1, t2, t3, t4, u1, u2, u3, u4, v1, v2, v3, v4, h1, h2, h3, h4, h5, h6, h7, ⟨b1, b2⟩, ⟨b3, b4⟩, ⟨b5, b6⟩⟩ := hP
  dsimp only at h3 h5 h7 b1 b2 b3 b4 b5 b6
  refine wpAny_call ?_
  k_dflt cell_enter
  k_steps
  all_goals refine ret' _ _ _ _ ?_ (by k_asm) (by k_asm) ?_
  all_goals first
    | ((with_reducible show Ext _ _); repeat (first | exact Ext.refl _ | refine Ext.app _ ?_ | refine Ext.cons _ ?_))
    | exact PtIn.of (by k_mem) (by k_mem) (by k_mem) (by k_mem) (by k_mem) (by k_mem) (by k_mem) (by first | assumption | exact ⟨_, _, _, _, rfl⟩) (by first | assumption | exact ⟨_, _, _, _, rfl⟩) (by first | assumption | exact ⟨_, _, _, _, rfl⟩) (by rfl) (by first | assumption | omega) (by first | assumption | omega) (by first | assumption | omega) (by first | assumption | omega) (by first | assumption | omega) (by first | assumption | omega)
theorem mulAll2 (w : World) : ∀ k, MulSpec w 253 k
  | 0 => mulBase2 w
  | k + 1 => mulStep2 (mulAll2 w k)
end
end
section
open Builtin
def pw (b e m : Int) : Int := ((Builtin.powMod (b % (m.natAbs : Int)).toNat e.natAbs m.natAbs : Nat) : Int)
theorem pow3_int (b : Int) (t : Tok) (e : Int) (u : Tok) (m : Int) (v : Tok) (he : ¬ e < 0) (hm : ¬(m == 0) = true) (hm1 : ¬(m.natAbs == 1) = true) (hm2 : ¬ m < 0) :
    Gives (Builtin.«int.__pow__» ⟨[.int b t, .int e u, .int m v], []⟩) (.int (pw b e m)) :=
  .of_wp fun M A E s Q h => by
    obtain ⟨hp, g, d, tk, os⟩ := s
    wp_walk
    refine ⟨_, rfl, ?_⟩
    rw [decide_eq_false hm2, Bool.false_and, if_neg Bool.false_ne_true]
    exact h
theorem foldl_lt {m : Nat} (f : Nat → Nat → Nat) (hf : ∀ a i, f a i < m) : ∀ (l : List Nat) (a : Nat), a < m → l.foldl f a < m
  | [], _, h => h
  | i :: l, a, _ => foldl_lt f hf l (f a i) (hf a i)
theorem powMod_lt (b e : Nat) {m : Nat} (hm : 0 < m) : powMod b e m < m := by
  unfold powMod
  refine foldl_lt _ (fun a i => ?_) _ _ (Nat.mod_lt _ hm)
  show (if e.testBit i then a * a % m * b % m else a * a % m) < m
  split <;> exact Nat.mod_lt _ hm
theorem pw_nonneg (b e m : Int) : 0 ≤ pw b e m := Int.natCast_nonneg _
theorem pw_lt (b e : Int) {m : Int} (hm : 1 < m) : pw b e m < m := by
  have h := powMod_lt (b % (m.natAbs : Int)).toNat e.natAbs (m := m.natAbs) (by omega)
  unfold pw
  omega
theorem call_pow3 {prog : Program} {w : World} {A : Around} {E : Value → Shared → Prop} {s : Shared} {b e m : Int} {t u v : Tok} {Q : Value → Shared → Prop} (he : 0 ≤ e) (hm : 1 < m)
    (h : ∀ r t' tk', r = pw b e m → 0 ≤ r → r < m → Q (.int r t') { s with toks := tk' }) : wpAny (model prog w) A (call (.builtin "pow") [.int b t, .int e u, .int m v]) Q E s := by
  refine call_function_entry (by decide +kernel : builtinKind "pow" = none) (by decide +kernel : plainId "pow" = true) (entryFor_of_fast (by kernel_rfl) : entryFor table "pow" = some Builtin.«pow») (by unfold argsOk; kernel_rfl) ?_
  unfold Builtin.«pow»
  refine wpAny_bind (m := Builtins.bindParams "pow" ["base", "exp", "mod"] 2 _) (wpAny_of_eq (a := [some (.int b t), some (.int e u), some (.int m v)]) (by rfl) ?_)
  dsimp only
  refine wpAny_bind (wpAny_rule ?_)
  refine wpAny_bind (wpAny_typeOf (typeIs_int s b t) ?_)
  dsimp only
  refine wpAny_bind (wpAny_of_eq PySem.F.slot_int_pow.lookup ?_)
  dsimp only
  refine wpAny_bind (wpAny_callSpecial?_slot (name := Str.ofString "__pow__") (typeIs_int s b t) PySem.F.slot_int_pow
    (call_gives PySem.F.slot_int_pow (typeIs_int s b t) PySem.F.entry_int_pow (PySem.F.args_int_pow_3 _ _ _)
      (pow3_int b t e u m v (by omega) (by simp only [beq_iff_eq]; omega) (by simp only [beq_iff_eq]; omega) (by omega)) ?_))
  show wpAny _ _ (if (Value.int (pw b e m) s.toks != Value.notImplemented) = true then _ else _) _ _ _
  rw [if_pos (by rfl)]
  exact wpAny_pure ⟨_, rfl, h _ _ _ rfl (pw_nonneg _ _ _) (pw_lt _ _ hm)⟩
end
@[irreducible] def Stop (q : Prop) : Prop := q
theorem stop {q : Prop} (h : Stop q) : q := by unfold Stop at h; exact h
theorem go {q : Prop} (h : q) : Stop q := by unfold Stop; exact h
def BStep (h₀ : Heap) (L : Addr) (x : Str) (M : Str → Option Value) (news : List (Addr × Obj)) (P : Int → Prop) (μ : Int → Nat) (b : Int) (s : Shared) (f : Flow) (s₃ : Shared) : Prop :=
  f = .next ∧ ∃ h' tk b' t', s₃ = { s with heap := h', toks := tk } ∧ Fr h₀ L h' (fun y => if y = x then some (.int b' t') else M y) ∧ News h₀ L h' news ∧ P b' ∧ μ b' < μ b
theorem BStep.intro {h₀ h' : Heap} {L : Addr} {x : Str} {M : Str → Option Value} {news : List (Addr × Obj)} {P : Int → Prop} {μ : Int → Nat} {b b' : Int} {t t' : Tok} {s : Shared} {tk : Nat}
    (F : Fr h₀ L h' (fun y => if y = x then some (.int b' t') else if y = x then some (.int b t) else M y)) (N : News h₀ L h' news) (hP : P b') (hμ : μ b' < μ b) : BStep h₀ L x M news P μ b s .next { s with heap := h', toks := tk } := by
  refine ⟨rfl, h', tk, b', t', rfl, ?_, N, hP, hμ⟩
  have e : (fun y => if y = x then some (Value.int b' t') else if y = x then some (.int b t) else M y) = fun y => if y = x then some (Value.int b' t') else M y := by
    funext y; by_cases h : y = x <;> simp [h]
  rw [← e]; exact F
theorem While_b {prog : Program} {w : World} {A : Around} {E : Value → Shared → Prop} {Q : Flow → Shared → Prop} {s : Shared} {env : Env} {h₀ : Heap} {L : Addr} {test : Expr} {body : List Stmt} {pos : Pos} {M : Str → Option Value} {x : Str} {b0 : Int} {t0 : Tok} {news : List (Addr × Obj)}
    (P : Int → Prop) (μ : Int → Nat)
    (F : Fr h₀ L s.heap (fun y => if y = x then some (.int b0 t0) else M y)) (N : News h₀ L s.heap news) (hP : P b0)
    (turn : ∀ b tb h₁ tk₁, P b → Fr h₀ L h₁ (fun y => if y = x then some (.int b tb) else M y) → News h₀ L h₁ news →
      wpAny (model prog w) A (isTrue test env (eval test env)) (fun c s₂ => if c = true then wpAny (model prog w) A (execs body env) (BStep h₀ L x M news P μ b s) E s₂ else Q .next s₂) E { s with heap := h₁, toks := tk₁ })
    (hE : PassesOwn (model prog w) A env E) : wpAny (model prog w) A (exec (.While test body [] pos) env) Q E s := by
  refine While_inv (fun n m₁ news₁ => news₁ = news ∧ ∃ b tb, m₁ = (fun y => if y = x then some (.int b tb) else M y) ∧ P b ∧ n = μ b) F N ⟨rfl, b0, t0, rfl, hP, rfl⟩ ?_ hE
  rintro n m₁ news₁ h₁ tk₁ F₁ N₁ ⟨rfl, b, tb, rfl, hb, rfl⟩
  refine wpAny_mono (turn b tb h₁ tk₁ hb F₁ N₁) (fun c s₂ h₂ => ?_) (fun _ _ e => e)
  cases c with
  | false => exact h₂
  | true =>
    simp only [if_true] at h₂ ⊢
    refine wpAny_mono h₂ (fun f s₃ h₃ => ?_) (fun _ _ e => e)
    obtain ⟨rfl, h', tk, b', t', rfl, F₂, N₂, hP', hμ⟩ := h₃
    exact ⟨rfl, h', tk, _, _, _, rfl, F₂, N₂, hμ, rfl, b', t', rfl, hP', rfl⟩
section
local macro_rules | `(tactic| walk_at "call builtin:pow") => `(tactic| ((with_reducible show wpAny _ _ (call (Value.builtin "pow") [Value.int _ _, Value.int _ _, Value.int _ _]) _ _ _); (refine' call_pow3 ?he ?hm ?_; (case he => first | assumption | omega | exact Int.fdiv_nonneg (by omega) (by omega) | (rw [Int.fdiv_eq_ediv_of_nonneg _ (by decide)]; omega)); (case hm => omega)); intro r' t' tk' e' l1' l2'; (try dsimp only); (try k_fold)))
def Pr (p : Int) : Prop := p = 7 ∨ p = 19 ∨ p = 31 ∨ p = 43 ∨ p = 67 ∨ p = 79 ∨ p = 103 ∨ p = 127
def goodB (p b : Int) : Prop := b ≠ 0 ∧ pw (p - b) ((p - 1).fdiv 3) p ≠ 1
theorem Pr.pos {p : Int} (hp : Pr p) : 0 < p := by unfold Pr at hp; omega
theorem Pr.gt {p : Int} (hp : Pr p) : 1 < p := by unfold Pr at hp; omega
theorem Pr.lt {p : Int} (hp : Pr p) : p < 128 := by unfold Pr at hp; omega
theorem cnd {c x : Bool} (h : cond c x false = true) : c = true ∧ x = true := by cases c <;> simp_all
theorem cndf {c x : Bool} (h : cond c false x = true) : c = false ∧ x = true := by cases c <;> simp_all
theorem beqN {a b : Nat} (h : Nat.beq a b = true) : a = b := Nat.eq_of_beq_eq_true h
theorem bneN {a b : Nat} (h : Nat.beq a b = false) : a ≠ b := Nat.ne_of_beq_eq_false h
def fall (p : Nat) (f : Nat → Bool) : Nat → Bool
  | 0 => true
  | n + 1 => cond (f n) (fall p f n) false
theorem fall_ok {p : Nat} {f : Nat → Bool} : ∀ {n : Nat}, fall p f n = true → ∀ a, a < n → f a = true
  | 0, _, _, h => absurd h (Nat.not_lt_zero _)
  | n + 1, h, a, ha => by
    obtain ⟨h1, h2⟩ := cnd h
    rcases Nat.lt_or_eq_of_le (Nat.le_of_lt_succ ha) with e | e
    · exact fall_ok h2 a e
    · subst e; exact h1
theorem pw_nat {q : Nat} (z : Int) (e : Nat) : pw z (e : Int) (q : Int) = ((Builtin.powMod (z % (q : Int)).toNat e q : Nat) : Int) := by
  unfold pw; simp only [Int.natAbs_natCast]
theorem third {q : Nat} (h : 0 < q) : ((q : Int) - 1).fdiv 3 = (((q - 1) / 3 : Nat) : Int) := by
  rw [Int.fdiv_eq_ediv_of_nonneg _ (by decide)]; omega
def gN (q b : Nat) : Bool := !(Nat.beq b 0) && !(Nat.beq (Builtin.powMod ((q - b) % q) ((q - 1) / 3) q) 1)
theorem gN_no {q b : Nat} (hq : 0 < q) (hb : b < q) (h : ¬ goodB (q : Int) (b : Int)) : gN q b = false := by
  cases e : gN q b with
  | false => rfl
  | true =>
    exfalso
    unfold gN at e
    rw [Bool.and_eq_true, Bool.not_eq_true', Bool.not_eq_true'] at e
    refine h ⟨fun e0 => bneN e.1 (by omega), ?_⟩
    rw [third hq, pw_nat]
    have e1 : (((q : Int) - (b : Int)) % (q : Int)).toNat = (q - b) % q := by
      rw [← Int.ofNat_sub (Nat.le_of_lt hb), ← Int.natCast_emod]; rfl
    rw [e1]
    have := bneN e.2
    omega
def cmN (q : Nat) : Nat → Nat → Nat
  | 0, _ => 0
  | f + 1, b => cond (gN q b) 0 (cmN q f ((b + 1) % q) + 1)
def cmT (q b : Nat) : Bool := gN q b || Nat.blt (cmN q q ((b + 1) % q)) (cmN q q b)
def noT (q a : Nat) : Bool := Nat.beq a 0 || Nat.beq (Builtin.powMod (a * a * a % q) ((q - 1) / 3) q) 1
theorem prN {p : Int} (hP : Pr p) : ∃ q : Nat, p = (q : Int) ∧ fall q (cmT q) q = true ∧ fall q (noT q) q = true := by
  rcases hP with e | e | e | e | e | e | e | e
  · exact ⟨7, e, by decide +kernel, by decide +kernel⟩
  · exact ⟨19, e, by decide +kernel, by decide +kernel⟩
  · exact ⟨31, e, by decide +kernel, by decide +kernel⟩
  · exact ⟨43, e, by decide +kernel, by decide +kernel⟩
  · exact ⟨67, e, by decide +kernel, by decide +kernel⟩
  · exact ⟨79, e, by decide +kernel, by decide +kernel⟩
  · exact ⟨103, e, by decide +kernel, by decide +kernel⟩
  · exact ⟨127, e, by decide +kernel, by decide +kernel⟩
def cmeas (p b : Int) : Nat := cmN p.toNat p.toNat b.toNat
theorem cmeas_lt {p b : Int} (hp : Pr p) (h0 : 0 ≤ b) (h1 : b < p) (h : ¬ goodB p b) : cmeas p ((b + 1).fmod p) < cmeas p b := by
  have hpos := hp.pos
  obtain ⟨q, rfl, hc, _⟩ := prN hp
  obtain ⟨m, rfl⟩ := Int.eq_ofNat_of_zero_le h0
  have hm : m < q := by omega
  have := fall_ok hc m hm
  unfold cmT at this
  rw [gN_no (by omega) hm h, Bool.false_or] at this
  have e : (((m : Int) + 1).fmod (q : Int)).toNat = (m + 1) % q := by
    rw [Int.fmod_eq_emod_of_nonneg _ (Int.natCast_nonneg q)]
    have : (m : Int) + 1 = ((m + 1 : Nat) : Int) := rfl
    rw [this, ← Int.natCast_emod]; rfl
  unfold cmeas
  rw [e]
  exact Nat.blt_eq.mp this
theorem noroot {p b x : Int} (hP : Pr p) (hb0 : 0 ≤ b) (hb1 : b < p) (hg : goodB p b) : (x * x * x + b) % p ≠ 0 := by
  have hpos := hP.pos
  intro h
  obtain ⟨q, rfl, _, hn⟩ := prN hP
  have hx0 : 0 ≤ x % (q : Int) := Int.emod_nonneg _ (by omega)
  have hx1 : x % (q : Int) < (q : Int) := Int.emod_lt_of_pos _ hpos
  have := fall_ok hn (x % (q : Int)).toNat (by omega)
  unfold noT at this
  have hx2 : (((x % (q : Int)).toNat : Nat) : Int) = x % (q : Int) := Int.toNat_of_nonneg hx0
  have hcu : (((x % (q : Int)).toNat * (x % (q : Int)).toNat * (x % (q : Int)).toNat % q : Nat) : Int) = (x * x * x) % (q : Int) := by
    rw [Int.natCast_emod, Int.natCast_mul, Int.natCast_mul, hx2]
    rw [Int.mul_emod (x * x) x, Int.mul_emod x x, Int.mul_emod (x % (q : Int) * (x % (q : Int))) (x % (q : Int)), Int.emod_emod]
  have hd : (q : Int) ∣ x * x * x + b := Int.dvd_of_emod_eq_zero h
  have hk : ((q : Int) - b) % (q : Int) = (x * x * x) % (q : Int) := by
    obtain ⟨k, hk⟩ := hd
    have : (q : Int) - b = x * x * x + (q : Int) * (1 - k) := by rw [Int.mul_sub, ← hk]; omega
    rw [this, Int.add_mul_emod_self_left]
  rcases Bool.or_eq_true_iff.mp this with e | e
  · have e := beqN e
    rw [e] at hcu
    simp only [Nat.zero_mul, Nat.zero_mod] at hcu
    rw [← hcu] at hk
    have hb : b ≠ 0 := hg.1
    rw [Int.emod_eq_of_lt (by omega) (by omega)] at hk
    have : ((0 : Nat) : Int) = 0 := rfl
    omega
  · have e := beqN e
    refine hg.2 ?_
    rw [third (by omega), pw_nat, hk, ← hcu]
    rw [Int.toNat_natCast, e]; rfl
theorem fm_lo (x : Int) : -1000000000 < x.fmod 1000003 := by have := Int.fmod_nonneg_of_pos x (by decide : (0 : Int) < 1000003); omega
theorem fm_hi (x : Int) : x.fmod 1000003 < 1000000000 := by have := Int.fmod_lt_of_pos x (by decide : (0 : Int) < 1000003); omega
set_option maxRecDepth 100000 in
set_option maxHeartbeats 8000000 in
theorem atC {w : World} {p : Program} {loose : List Str} {mean : ExcName → Option Value} {mg mb : Str → Option Value}
   {dp un : Nat} {gd : Option (List Code)} {cn : Str} {cs : Scope} {a : Addr} {ccd : Value} {cl : List (Str × Addr)} {outer : List Env} {A₀ : Around} {base h₀ : Heap} {L : Addr} {m : Str → Option Value} {s : Shared} {Q E : Value → Shared → Prop} {news : List (Addr × Obj)}
   {l : Addr} {vs : List Value} {ns : List Int} {k : Int} {tk : Tok}
    (B : Below A₀ base outer h₀) (F : Fr h₀ L s.heap m) (X : (hd.heap_39 w.params).In h₀) (N : News h₀ L s.heap news) (T : Top p loose mean mg mb h₀) (hk : cs.kind = .function)
    (hl : base.IsList l vs.toArray) (hi : IntsAre vs ns) (hfit : ns.length < 2 ^ 62) (hk0 : 0 ≤ k) (hk1 : k < 8)
    (hd : dp + 3 < recursionLimit) (hu : un + 24 < cLine)
    (ret : ∀ (v : Int) (t : Tok) (h' : Heap) (tk' : Nat), -1000000000 < v → v < 1000000000 → Fr h₀ L h' m → News h₀ L h' news → Q (.int v t) { s with heap := h', toks := tk' }) :
    wpAny (model PySem.Challenge.rw_lh0029_01.row.prog w) (ktrTop dp un gd cn cs L a ccd cl outer) (call (.ref 274) [.ref l, .int k tk]) Q E s := by
  refine wpAny_call ?_
  k_dflt cell_enter
  k_steps
  all_goals exact ret _ _ _ _ (by first | omega | exact fm_lo _) (by first | omega | exact fm_hi _) (by k_asm) (by k_asm)

set_option maxRecDepth 100000 in
set_option maxHeartbeats 8000000 in
theorem curveC {w : World} {p : Program} {loose : List Str} {mean : ExcName → Option Value} {mg mb : Str → Option Value}
   {dp un : Nat} {gd : Option (List Code)} {cn : Str} {cs : Scope} {a : Addr} {ccd : Value} {cl : List (Str × Addr)} {outer : List Env} {A₀ : Around} {base h₀ : Heap} {L : Addr} {m : Str → Option Value} {s : Shared} {Q E : Value → Shared → Prop} {news : List (Addr × Obj)}
   {pp v : Int} {tp tv : Tok}
    (B : Below A₀ base outer h₀) (F : Fr h₀ L s.heap m) (X : (hd.heap_39 w.params).In h₀) (N : News h₀ L s.heap news) (T : Top p loose mean mg mb h₀) (hk : cs.kind = .function)
    (hP : Pr pp)
    (hd : dp + 3 < recursionLimit) (hu : un + 24 < cLine)
    (ret : ∀ (b : Int) (t : Tok) (h' : Heap) (tk' : Nat), 0 ≤ b → b < pp → goodB pp b → Fr h₀ L h' m → News h₀ L h' news → Q (.int b t) { s with heap := h', toks := tk' }) :
    wpAny (model PySem.Challenge.rw_lh0029_01.row.prog w) (ktrTop dp un gd cn cs L a ccd cl outer) (call (.ref 281) [.int pp tp, .int v tv]) Q E s := by
  have hp := hP.pos
  have hp1 := hP.gt
  have hp2 := hP.lt
  refine wpAny_call ?_
  k_dflt cell_enter
  repeat' (first | ((with_reducible show wpAny _ _ (exec (PySem.Stmt.While _ _ _ _) _) _ _ _); refine stop ?_) | (k_unfold; (try dsimp only)) | (k_end; wrow_close) | walk1 | (dsimp only; walk1) | (leave1; walk_say "STEP leave1"; try dsimp only) | fail "no step")
  refine go ?_
  rename Fr _ _ _ _ => hF
  rename News _ _ _ _ => hN
  refine While_b (fun b => 0 ≤ b ∧ b < pp) (cmeas pp) hF hN ?_ ?_ ?_
  · exact ⟨Int.fmod_nonneg_of_pos _ hp, Int.fmod_lt_of_pos _ hp⟩
  · intro b tb h1 tk1 hb F1 N1
    obtain ⟨hb0, hb1⟩ := hb
    clear hF hN
    (try k_fold)
    k_steps
    all_goals first
      | exact BStep.intro (by k_asm) (by k_asm) ⟨Int.fmod_nonneg_of_pos _ hp, Int.fmod_lt_of_pos _ hp⟩ (cmeas_lt hP hb0 hb1 (fun g => g.1 (by assumption)))
      | exact BStep.intro (by k_asm) (by k_asm) ⟨Int.fmod_nonneg_of_pos _ hp, Int.fmod_lt_of_pos _ hp⟩ (cmeas_lt hP hb0 hb1 (fun g => g.2 (by subst_vars; assumption)))
      | exact ret _ _ _ _ hb0 hb1 ⟨by assumption, by subst_vars; assumption⟩ (by k_asm) (by k_asm)
  · k_steps
end
section
local macro_rules | `(tactic| walk_at "call builtin:pow") => `(tactic| ((with_reducible show wpAny _ _ (call (Value.builtin "pow") [Value.int _ _, Value.int _ _, Value.int _ _]) _ _ _); (refine' call_pow3 ?he ?hm ?_; (case he => first | assumption | omega | exact Int.fdiv_nonneg (by omega) (by omega) | (rw [Int.fdiv_eq_ediv_of_nonneg _ (by decide)]; omega)); (case hm => omega)); intro r' t' tk' e' l1' l2'; (try dsimp only); (try k_fold)))
local macro_rules | `(tactic| walk_at "subscriptTail Name Constant ref int") => `(tactic| (k_here; (with_reducible show wpAny _ _ (subscriptTail _ _ (Value.ref _) (Value.int _ _)) _ _ _); k_dflt (refine' item_tupleT ?t ?a ?b ?c ?d ?_; (case t => exact News.isTup (by k_asm) (by k_mem)); (case a => decide); (case b => decide); (case c => rfl); (case d => rfl); k_whole)))
@[irreducible] def RetOf (Q : Flow → Shared → Prop) (v : Value) (s : Shared) : Prop := Q (.ret v) s
theorem RetOf.mk {Q : Flow → Shared → Prop} {v : Value} {s : Shared} (h : Q (.ret v) s) : RetOf Q v s := by unfold RetOf; exact h
theorem RetOf.get {Q : Flow → Shared → Prop} {v : Value} {s : Shared} (h : RetOf Q v s) : Q (.ret v) s := by unfold RetOf at h; exact h
def TurnPost (h₀ : Heap) (L : Addr) (J : (Str → Option Value) → Prop) (q : Addr × Obj) (news : List (Addr × Obj)) (Q : Flow → Shared → Prop) (s₁ : Shared) (f : Flow) (s₂ : Shared) : Prop :=
  match f with
  | .ret v => RetOf Q v s₂
  | .brk => False
  | _ => ∃ h' tk m', s₂ = { s₁ with heap := h', toks := tk } ∧ Fr h₀ L h' m' ∧ News h₀ L h' (q :: news) ∧ J m'
theorem range_loop {prog : Program} {w : World} {A : Around} {E : Value → Shared → Prop} {s : Shared} {env : Env} {h₀ : Heap} {x : Str} {body : List Stmt} {Q : Flow → Shared → Prop} {r : Addr} {a₀ b₀ : Int} {t₀ u₀ v₀ : Tok} {n : Nat} {m₀ : Str → Option Value} {news : List (Addr × Obj)}
    (J : (Str → Option Value) → Prop)
    (hh : A.handled = none) (hr : IsRange s.heap r a₀ b₀ 1 t₀ u₀ v₀) (hsmall : Builtin.Range.small a₀ b₀ 1 = true) (hn : Builtin.Range.rangeSize a₀ b₀ 1 = (n : Int)) (F : Fr h₀ env.locals s.heap m₀) (N : News h₀ env.locals s.heap news) (hJ : J m₀)
    (turn : ∀ (q : Addr × Obj) (i : Nat) t m₁ h tk, i < n → J m₁ → Fr h₀ env.locals h (fun y => if y = x then some (.int (a₀ + (i : Int)) t) else m₁ y) → News h₀ env.locals h (q :: news) →
      wpAny (model prog w) A (execs body env) (TurnPost h₀ env.locals J q news Q { s with heap := h, toks := tk }) E { s with heap := h, toks := tk })
    (done : ∀ m₁ h tk, J m₁ → Fr h₀ env.locals h m₁ → News h₀ env.locals h news → Q .next { s with heap := h, toks := tk }) :
    wpAny (model prog w) A (pyIter (.ref r)) (fun it s₂ => LoopAtV prog w A h₀ env x body Q E it s₂) E s := by
  refine iter_rangeUnr hh hr hsmall hn F N fun I hI => ?_
  have all : ∀ k i m₁, i + k = n → J m₁ → RangeRest prog w A E h₀ env x body Q s I a₀ n k i m₁ news := by
    intro k
    induction k with
    | zero => intro i m₁ _ hj; exact RangeRest.zero fun h tk F' N' => done m₁ h tk hj F' N'
    | succ k ih =>
      intro i m₁ hik hj
      refine RangeRest.succ fun t h tk F' N' => ?_
      refine wpAny_mono (turn _ i t m₁ h tk (by omega) hj F' N') (fun f s₂ p => ?_) fun _ _ e => e
      have fin : (∃ h' tk' m', s₂ = { ({ s with heap := h, toks := tk } : Shared) with heap := h', toks := tk' } ∧ Fr h₀ env.locals h' m' ∧ News h₀ env.locals h' ((I, itR (a₀ + ((i + 1 : Nat) : Int)) ((n : Int) - ((i + 1 : Nat) : Int))) :: news) ∧ J m') →
          UnrEnd h₀ env.locals { s with heap := h, toks := tk } I (itR (a₀ + ((i + 1 : Nat) : Int)) ((n : Int) - ((i + 1 : Nat) : Int))) (RangeRest prog w A E h₀ env x body Q s I a₀ n k (i + 1)) s₂ := by
        rintro ⟨h', tk', m', e, F₂, N₂, j₂⟩
        exact ⟨h', tk', m', news, e, F₂, N₂, fun p hp => Nat.ne_of_lt (hI p hp), ih (i + 1) m' (by omega) j₂⟩
      cases f with
      | ret v => exact RetOf.get (Q := Q) p
      | brk => exact p.elim
      | next => exact fin p
      | cont => exact fin p
  exact all n 0 m₀ (by omega) hJ
/-- the names that a turn stores are forgotten -/
def Same (stored : List Str) (M m : Str → Option Value) : Prop := ∀ y, stored.contains y = false → m y = M y
theorem Same.form {stored : List Str} {M m : Str → Option Value} (h : Same stored M m) : m = fun y => if stored.contains y = true then m y else M y := by
  funext y
  cases e : stored.contains y with
  | true => simp
  | false => rw [if_neg Bool.false_ne_true]; exact h y e
theorem Same.put {stored : List Str} {M m : Str → Option Value} {x : Str} {v : Option Value} (hx : stored.contains x = true) (h : Same stored M m) : Same stored M (fun y => if y = x then v else m y) := by
  intro y hy
  have : y ≠ x := by intro e; rw [e, hx] at hy; cases hy
  show (if y = x then v else m y) = M y
  rw [if_neg this]; exact h y hy
theorem Same.own {stored : List Str} {M u : Str → Option Value} : Same stored M (fun y => if stored.contains y = true then u y else M y) := by
  intro y hy
  show (if stored.contains y = true then u y else M y) = M y
  rw [hy, if_neg Bool.false_ne_true]
theorem Same.refl {stored : List Str} {M : Str → Option Value} : Same stored M M := fun _ _ => rfl
def OnC (p b x y : Int) : Prop := 0 ≤ x ∧ x < p ∧ 0 < y ∧ y < p ∧ (y * y) % p = (x * x * x + b) % p
def OptIn (news : List (Addr × Obj)) (v : Value) : Option (Int × Int) → Prop
  | none => v = .none
  | some q => ∃ a t1 t2, v = .ref a ∧ (a, tupO [.int q.1 t1, .int q.2 t2]) ∈ news
theorem onC_of {p b X r : Int} (hP : Pr p) (hg : goodB p b) (hb0 : 0 ≤ b) (hb1 : b < p) (hr0 : 0 ≤ r) (hr1 : r < p)
    (h : (r * r).fmod p = (X.fmod p * X.fmod p * X.fmod p + b).fmod p) : ∀ q : Int × Int, some (X.fmod p, r) = some q → OnC p b q.1 q.2 := by
  intro q hq
  cases hq
  have hp := hP.pos
  rw [Int.fmod_eq_emod_of_nonneg _ (Int.le_of_lt hp), Int.fmod_eq_emod_of_nonneg (_ + b) (Int.le_of_lt hp)] at h
  refine ⟨Int.fmod_nonneg_of_pos _ hp, Int.fmod_lt_of_pos _ hp, ?_, hr1, h⟩
  show 0 < r
  rcases Int.lt_or_eq_of_le hr0 with e | e
  · exact e
  · exfalso
    rw [← e] at h
    exact noroot hP hb0 hb1 hg h.symm
theorem onC_neg {p b X r : Int} (hP : Pr p) (hg : goodB p b) (hb0 : 0 ≤ b) (hb1 : b < p) (hr0 : 0 ≤ r) (hr1 : r < p)
    (h : (r * r).fmod p = (X.fmod p * X.fmod p * X.fmod p + b).fmod p) : ∀ q : Int × Int, some (X.fmod p, p - r) = some q → OnC p b q.1 q.2 := by
  intro q hq
  cases hq
  obtain ⟨h1, h2, h3, h4, h5⟩ := onC_of hP hg hb0 hb1 hr0 hr1 h _ rfl
  dsimp only at h1 h2 h3 h4 h5
  refine ⟨h1, h2, by show 0 < p - r; omega, by show p - r < p; omega, ?_⟩
  show ((p - r) * (p - r)) % p = _
  rw [← h5]
  have e : (p - r) * (p - r) = r * r + p * (p - 2 * r) := by grind
  rw [e, Int.add_mul_emod_self_left]
set_option maxRecDepth 100000 in
set_option maxHeartbeats 8000000 in
theorem pointC {w : World} {p : Program} {loose : List Str} {mean : ExcName → Option Value} {mg mb : Str → Option Value}
   {dp un : Nat} {gd : Option (List Code)} {cn : Str} {cs : Scope} {a : Addr} {ccd : Value} {cl : List (Str × Addr)} {outer : List Env} {A₀ : Around} {base h₀ : Heap} {L : Addr} {m : Str → Option Value} {s : Shared} {Q E : Value → Shared → Prop} {news : List (Addr × Obj)}
   {pp b v : Int} {tp tb tv : Tok}
    (B : Below A₀ base outer h₀) (F : Fr h₀ L s.heap m) (X : (hd.heap_39 w.params).In h₀) (N : News h₀ L s.heap news) (T : Top p loose mean mg mb h₀) (hk : cs.kind = .function)
    (hP : Pr pp) (hb0 : 0 ≤ b) (hb1 : b < pp) (hg : goodB pp b) (hv0 : -1000000000 < v) (hv1 : v < 1000000000)
    (hd : dp + 3 < recursionLimit) (hu : un + 24 < cLine)
    (ret : ∀ (r : Value) (o : Option (Int × Int)) (tl : List (Addr × Obj)) (h' : Heap) (tk' : Nat), (∀ q, o = some q → OnC pp b q.1 q.2) → OptIn (tl ++ news) r o → Fr h₀ L h' m → News h₀ L h' (tl ++ news) → Q r { s with heap := h', toks := tk' }) :
    wpAny (model PySem.Challenge.rw_lh0029_01.row.prog w) (ktrTop dp un gd cn cs L a ccd cl outer) (call (.ref 288) [.int pp tp, .int b tb, .int v tv]) Q E s := by
  have hp := hP.pos
  have hp1 := hP.gt
  have hp2 := hP.lt
  refine wpAny_call ?_
  k_dflt cell_enter
  repeat' (first | ((with_reducible show wpAny _ _ (pyIter (Value.ref _)) _ _ _); refine stop ?_) | (k_unfold; (try dsimp only)) | (k_end; wrow_close) | walk1 | (dsimp only; walk1) | (leave1; walk_say "STEP leave1"; try dsimp only) | fail "no step")
  all_goals first
    | (with_reducible show Stop _)
    | exact ret _ none [] _ _ (fun q hq => nomatch hq) rfl (by k_asm) (by k_asm)
  refine go ?_
  rename Fr _ _ _ _ => hF
  rename News _ _ _ _ => hN
  rename IsRange _ _ _ _ _ _ _ _ => hR
  refine range_loop (n := 12) (Same [Str.ofString "k", Str.ofString "x", Str.ofString "c", Str.ofString "y"] _) rfl hR (by decide) (by decide) hF hN Same.refl ?_ ?_
  · intro q i t m1 h1 tk1 hi hJ F1 N1
    rw [hJ.form] at F1
    clear hF hN hR
    (try k_fold)
    k_steps
    all_goals (try (refine RetOf.mk ?_))
    all_goals (try k_steps)
    all_goals first
      | exact ret _ (some (_, _)) [_, _] _ _ (onC_of hP hg hb0 hb1 (by assumption) (by assumption) (by assumption)) ⟨_, _, _, rfl, by k_mem⟩ (by k_asm) (by k_asm)
      | exact ret _ (some (_, _)) [_, _] _ _ (onC_neg hP hg hb0 hb1 (by assumption) (by assumption) (by assumption)) ⟨_, _, _, rfl, by k_mem⟩ (by k_asm) (by k_asm)
      | exact ⟨_, _, _, rfl, by k_asm, by k_asm, Same.put (by decide) (Same.put (by decide) (Same.put (by decide) (Same.put (by decide) Same.own)))⟩
  · intro m1 h1 tk1 hJ F1 N1
    clear hF hN hR
    k_steps
    all_goals first
      | exact ret _ none [] _ _ (fun q hq => nomatch hq) rfl (by k_asm) (by k_asm)
end
section
local macro_rules | `(tactic| walk_at "call ref") => `(tactic| (k_here; (with_reducible show wpAny _ _ (call (Value.ref 91) [Value.ref _, Value.ref _]) _ _ _); k_dflt (refine' mulC ?k1 ?k2 ?k3 ?k4 ?k5 ?kK ?kx ?kdx ?kq ?ky ?kdy ?kq2 ?kp ?kp2 ?kn1 ?kn2 ?kd ?ku ?_; (case k1 => k_asm); (case k2 => k_asm); (case k3 => k_asm); (case k4 => k_asm); (case k5 => k_asm); (case kK => first | exact rfl | assumption); (case kx => k_mem); (case kdx => k_mem); (case kq => first | with_reducible assumption | exact ⟨_, _, _, _, rfl⟩); (case ky => k_mem); (case kdy => k_mem); (case kq2 => first | with_reducible assumption | exact ⟨_, _, _, _, rfl⟩); (case kp => first | with_reducible assumption | assumption | omega); (case kp2 => first | with_reducible assumption | assumption | omega); (case kn1 => first | with_reducible assumption | assumption | omega); (case kn2 => first | with_reducible assumption | assumption | omega); (case kd => k_room); (case ku => k_units); intro v' x' d' o' tl' h' tk' e' l1' l2' q' m1' m2' F' N'; (try dsimp only [PySem.W.CmpBack]); (try k_fold))))
local macro_rules | `(tactic| walk_at "call ref") => `(tactic| (k_here; (with_reducible show wpAny _ _ (call (Value.ref 91) [Value.ref _, Value.int _ _]) _ _ _); k_dflt (refine' mulI ?k1 ?k2 ?k3 ?k4 ?k5 ?kK ?kx ?kdx ?kq ?kp ?kp2 ?kn1 ?kn2 ?kd ?ku ?_; (case k1 => k_asm); (case k2 => k_asm); (case k3 => k_asm); (case k4 => k_asm); (case k5 => k_asm); (case kK => first | exact rfl | assumption); (case kx => k_mem); (case kdx => k_mem); (case kq => first | with_reducible assumption | exact ⟨_, _, _, _, rfl⟩); (case kp => first | with_reducible assumption | assumption | omega); (case kp2 => first | with_reducible assumption | assumption | omega); (case kn1 => first | with_reducible assumption | assumption | omega); (case kn2 => first | with_reducible assumption | assumption | omega); (case kd => k_room); (case ku => k_units); intro v' x' d' o' tl' h' tk' e' l1' l2' q' m1' m2' F' N'; (try dsimp only [PySem.W.CmpBack]); (try k_fold))))
local macro_rules | `(tactic| walk_at "call ref") => `(tactic| (k_here; (with_reducible show wpAny _ _ (call (Value.ref 98) [Value.ref _, Value.int _ _]) _ _ _); k_dflt (refine' rmulC ?k1 ?k2 ?k3 ?k4 ?k5 ?kK ?kx ?kdx ?kq ?kp ?kp2 ?kn1 ?kn2 ?kd ?ku ?_; (case k1 => k_asm); (case k2 => k_asm); (case k3 => k_asm); (case k4 => k_asm); (case k5 => k_asm); (case kK => first | exact rfl | assumption); (case kx => k_mem); (case kdx => k_mem); (case kq => first | with_reducible assumption | exact ⟨_, _, _, _, rfl⟩); (case kp => first | with_reducible assumption | assumption | omega); (case kp2 => first | with_reducible assumption | assumption | omega); (case kn1 => first | with_reducible assumption | assumption | omega); (case kn2 => first | with_reducible assumption | assumption | omega); (case kd => k_room); (case ku => k_units); intro v' x' d' o' tl' h' tk' e' l1' l2' q' m1' m2' F' N'; (try dsimp only [PySem.W.CmpBack]); (try k_fold))))
local macro_rules | `(tactic| walk_at "call ref") => `(tactic| (k_here; (with_reducible show wpAny _ _ (call (Value.ref 119) [Value.ref _, Value.ref _]) _ _ _); k_dflt (refine' subC ?k1 ?k2 ?k3 ?k4 ?k5 ?kK ?kx ?kdx ?kq ?ky ?kdy ?kq2 ?kp ?kp2 ?kd ?ku ?_; (case k1 => k_asm); (case k2 => k_asm); (case k3 => k_asm); (case k4 => k_asm); (case k5 => k_asm); (case kK => first | exact rfl | assumption); (case kx => k_mem); (case kdx => k_mem); (case kq => first | with_reducible assumption | exact ⟨_, _, _, _, rfl⟩); (case ky => k_mem); (case kdy => k_mem); (case kq2 => first | with_reducible assumption | exact ⟨_, _, _, _, rfl⟩); (case kp => first | with_reducible assumption | assumption | omega); (case kp2 => first | with_reducible assumption | assumption | omega); (case kd => k_room); (case ku => k_units); intro v' x' d' o' tl' h' tk' e' l1' l2' q' m1' m2' F' N'; (try dsimp only [PySem.W.CmpBack]); (try k_fold))))
local macro_rules | `(tactic| walk_at "call ref") => `(tactic| (k_here; (with_reducible show wpAny _ _ (call (Value.ref 154) [Value.ref _, Value.ref _]) _ _ _); k_dflt (refine' eqC ?k1 ?k2 ?k3 ?k4 ?k5 ?kK ?kx ?kdx ?kq ?ky ?kdy ?kq2 ?kd ?ku ?_; (case k1 => k_asm); (case k2 => k_asm); (case k3 => k_asm); (case k4 => k_asm); (case k5 => k_asm); (case kK => first | exact rfl | assumption); (case kx => k_mem); (case kdx => k_mem); (case kq => first | with_reducible assumption | exact ⟨_, _, _, _, rfl⟩); (case ky => k_mem); (case kdy => k_mem); (case kq2 => first | with_reducible assumption | exact ⟨_, _, _, _, rfl⟩); (case kd => k_room); (case ku => k_units); intro h' tk' F' N'; (try dsimp only [PySem.W.CmpBack]); (try k_fold))))
local macro_rules | `(tactic| walk_at "call ref") => `(tactic| (k_here; (with_reducible show wpAny _ _ (call _ (_ ++ [])) _ _ _); (try dsimp only [List.cons_append, List.nil_append]); (with_reducible show wpAny _ _ (call (Value.ref 211) [Value.ref _]) _ _ _); k_dflt (refine' oneC ?k1 ?k2 ?k3 ?k4 ?k5 ?kK ?kx ?kdx ?kq ?kp ?kd ?ku ?_; (case k1 => k_asm); (case k2 => k_asm); (case k3 => k_asm); (case k4 => k_asm); (case k5 => k_asm); (case kK => first | exact rfl | assumption); (case kx => k_mem); (case kdx => k_mem); (case kq => first | with_reducible assumption | exact ⟨_, _, _, _, rfl⟩); (case kp => first | with_reducible assumption | assumption | omega); (case kd => k_room); (case ku => k_units); intro x' d' o' tl' h' tk' q' m1' m2' F' N'; (try dsimp only [PySem.W.CmpBack]); (try k_fold))))
local macro_rules | `(tactic| walk_at "call ref") => `(tactic| (k_here; (with_reducible show wpAny _ _ (call _ (_ ++ [])) _ _ _); (try dsimp only [List.cons_append, List.nil_append]); (with_reducible show wpAny _ _ (call (Value.ref 218) [Value.ref _]) _ _ _); k_dflt (refine' zeroC ?k1 ?k2 ?k3 ?k4 ?k5 ?kK ?kx ?kdx ?kq ?kp ?kd ?ku ?_; (case k1 => k_asm); (case k2 => k_asm); (case k3 => k_asm); (case k4 => k_asm); (case k5 => k_asm); (case kK => first | exact rfl | assumption); (case kx => k_mem); (case kdx => k_mem); (case kq => first | with_reducible assumption | exact ⟨_, _, _, _, rfl⟩); (case kp => first | with_reducible assumption | assumption | omega); (case kd => k_room); (case ku => k_units); intro x' d' o' tl' h' tk' q' m1' m2' F' N'; (try dsimp only [PySem.W.CmpBack]); (try k_fold))))
local macro_rules | `(tactic| walk_at "call ref") => `(tactic| (k_here; (with_reducible show wpAny _ _ (call (Value.ref 221) [Value.int _ _, Value.int _ _]) _ _ _); k_dflt (refine' mkFQo ?k1 ?k2 ?k3 ?k4 ?k5 ?kK ?kp ?kd ?ku ?_; (case k1 => k_asm); (case k2 => k_asm); (case k3 => k_asm); (case k4 => k_asm); (case k5 => k_asm); (case kK => first | exact rfl | assumption); (case kp => first | with_reducible assumption | assumption | omega); (case kd => k_room); (case ku => k_units); intro x' d' o' tl' h' tk' q' m1' m2' F' N'; (try dsimp only [PySem.W.CmpBack]); (try k_fold))))
local macro_rules | `(tactic| walk_at "binaryOp Mult int ref") => `(tactic| (k_here; k_dflt (refine' rmul_K ?F ?X ?I ?hO ?hC ?hS ?hM ?hF ?hU ?_; (case F => k_asm); (case X => k_asm); (case I => k_inst); (case hO => exact News.get (by k_asm) (by k_mem)); (case hC => k_is); (case hS => k_is); (case hM => k_is); (case hF => k_is); (case hU => k_is); k_whole)))
local macro_rules | `(tactic| walk_at "ite") => `(tactic| (k_here; first | (refine ite_pos (beq_iff_eq.mpr (by with_reducible assumption)) ?_) | (refine ite_neg (fun h => absurd (beq_iff_eq.mp h) (by with_reducible assumption)) ?_)))
local macro_rules | `(tactic| walk_at "compareOp Eq ref ref") => `(tactic| (k_here; walk_at "compareOp Eq ref"))
local macro_rules | `(tactic| walk_at "subscriptTail Name Constant ref int") => `(tactic| (k_here; (with_reducible show wpAny _ _ (subscriptTail _ _ (Value.ref _) (Value.int _ _)) _ _ _); k_dflt (refine' item_tupleT ?t ?a ?b ?c ?d ?_; (case t => exact News.isTup (by k_asm) (by k_mem)); (case a => decide); (case b => decide); (case c => rfl); (case d => rfl); k_whole)))
local macro_rules | `(tactic| walk_at "call builtin:pow") => `(tactic| ((with_reducible show wpAny _ _ (call (Value.builtin "pow") [Value.int _ _, Value.int _ _, Value.int _ _]) _ _ _); (refine' call_pow3 ?he ?hm ?_; (case he => first | assumption | omega | exact Int.fdiv_nonneg (by omega) (by omega) | (rw [Int.fdiv_eq_ediv_of_nonneg _ (by decide)]; omega)); (case hm => omega)); intro r' t' tk' e' l1' l2'; (try dsimp only); (try k_fold)))
def madeF (p : Int) (o : Option (Int × Int)) (scale front : Int) : Int × Int × Int :=
  match o with
  | none => (front.fmod p, scale.fmod p, (0 : Int).fmod p)
  | some q => ((q.1 * scale).fmod p, (q.2 * scale).fmod p, scale.fmod p)
def toldF (p : Int) (P : Int × Int × Int) : Int × Int := ((P.1 * pw P.2.2 (p - 2) p).fmod p, (P.2.1 * pw P.2.2 (p - 2) p).fmod p)
theorem toldF_eq {p r : Int} {P : Int × Int × Int} (e : r = pw P.2.2 (p - 2) p) : toldF p P = ((P.1 * r).fmod p, (P.2.1 * r).fmod p) := by subst e; rfl
set_option maxRecDepth 100000 in
set_option maxHeartbeats 8000000 in
theorem madeC {w : World} {p : Program} {loose : List Str} {mean : ExcName → Option Value} {mg mb : Str → Option Value}
   {dp un : Nat} {gd : Option (List Code)} {cn : Str} {cs : Scope} {a : Addr} {ccd : Value} {cl : List (Str × Addr)} {outer : List Env} {A₀ : Around} {base h₀ : Heap} {L : Addr} {m : Str → Option Value} {s : Shared} {Q E : Value → Shared → Prop} {news : List (Addr × Obj)}
   {pp sc fr : Int} {o : Option (Int × Int)} {vo : Value} {tp ts tf : Tok}
    (B : Below A₀ base outer h₀) (F : Fr h₀ L s.heap m) (X : (hd.heap_39 w.params).In h₀) (N : News h₀ L s.heap news) (T : Top p loose mean mg mb h₀) (hk : cs.kind = .function)
    (hP : Pr pp) (ho : OptIn news vo o) (hs0 : 0 ≤ sc) (hs1 : sc < 128)
    (hd : dp + 8 < recursionLimit) (hu : un + 64 < cLine)
    (ret : ∀ (r : Addr) (tl : List (Addr × Obj)) (h' : Heap) (tk' : Nat), PtIn w pp (tl ++ news) r (madeF pp o sc fr) → Fr h₀ L h' m → News h₀ L h' (tl ++ news) → Q (.ref r) { s with heap := h', toks := tk' }) :
    wpAny (model PySem.Challenge.rw_lh0029_01.row.prog w) (ktrTop dp un gd cn cs L a ccd cl outer) (call (.ref 309) [.int pp tp, vo, .int sc ts, .int fr tf]) Q E s := by
  have hp := hP.pos
  have hp1 := hP.gt
  have hp2 := hP.lt
  have ret' : ∀ (r : Addr) (news' : List (Addr × Obj)) (h' : Heap) (tk' : Nat), Fr h₀ L h' m → News h₀ L h' news' → Ext news news' → PtIn w pp news' r (madeF pp o sc fr) → Q (.ref r) { s with heap := h', toks := tk' } := by
    intro r news' h' tk' f n he q
    obtain ⟨tl, rfl⟩ := he.is
    exact ret r tl h' tk' q f n
  clear ret
  cases o with
  | none =>
    have ho' : vo = .none := ho
    subst ho'
    refine wpAny_call ?_
    k_dflt cell_enter
    k_steps
    all_goals refine ret' _ _ _ _ (by k_asm) (by k_asm) (by repeat (first | exact Ext.refl _ | refine Ext.app _ ?_ | refine Ext.cons _ ?_)) ?_
    all_goals exact PtIn.of (by k_mem) (by k_mem) (by k_mem) (by k_mem) (by k_mem) (by k_mem) (by k_mem) (by first | assumption | exact ⟨_, _, _, _, rfl⟩) (by first | assumption | exact ⟨_, _, _, _, rfl⟩) (by first | assumption | exact ⟨_, _, _, _, rfl⟩) rfl (Int.fmod_nonneg_of_pos _ hp) (Int.fmod_lt_of_pos _ hp) (Int.fmod_nonneg_of_pos _ hp) (Int.fmod_lt_of_pos _ hp) (Int.fmod_nonneg_of_pos _ hp) (Int.fmod_lt_of_pos _ hp)
  | some q =>
    obtain ⟨aq, tq1, tq2, rfl, hq⟩ := ho
    refine wpAny_call ?_
    k_dflt cell_enter
    k_steps
    all_goals refine ret' _ _ _ _ (by k_asm) (by k_asm) (by repeat (first | exact Ext.refl _ | refine Ext.app _ ?_ | refine Ext.cons _ ?_)) ?_
    all_goals exact PtIn.of (by k_mem) (by k_mem) (by k_mem) (by k_mem) (by k_mem) (by k_mem) (by k_mem) (by first | assumption | exact ⟨_, _, _, _, rfl⟩) (by first | assumption | exact ⟨_, _, _, _, rfl⟩) (by first | assumption | exact ⟨_, _, _, _, rfl⟩) rfl (Int.fmod_nonneg_of_pos _ hp) (Int.fmod_lt_of_pos _ hp) (Int.fmod_nonneg_of_pos _ hp) (Int.fmod_lt_of_pos _ hp) (Int.fmod_nonneg_of_pos _ hp) (Int.fmod_lt_of_pos _ hp)
set_option maxRecDepth 100000 in
set_option maxHeartbeats 8000000 in
theorem toldC {w : World} {p : Program} {loose : List Str} {mean : ExcName → Option Value} {mg mb : Str → Option Value}
   {dp un : Nat} {gd : Option (List Code)} {cn : Str} {cs : Scope} {a : Addr} {ccd : Value} {cl : List (Str × Addr)} {outer : List Env} {A₀ : Around} {base h₀ : Heap} {L : Addr} {m : Str → Option Value} {s : Shared} {Q E : Value → Shared → Prop} {news : List (Addr × Obj)}
   {pp : Int} {P : Int × Int × Int} {tp : Tok} {ta : Addr}
    (B : Below A₀ base outer h₀) (F : Fr h₀ L s.heap m) (X : (hd.heap_39 w.params).In h₀) (N : News h₀ L s.heap news) (T : Top p loose mean mg mb h₀) (hk : cs.kind = .function)
    (hP : Pr pp) (hA : PtIn w pp news ta P)
    (hd : dp + 8 < recursionLimit) (hu : un + 64 < cLine)
    (ret : ∀ (r : Value) (tl : List (Addr × Obj)) (h' : Heap) (tk' : Nat), OptIn (tl ++ news) r (some (toldF pp P)) → Fr h₀ L h' m → News h₀ L h' (tl ++ news) → Q r { s with heap := h', toks := tk' }) :
    wpAny (model PySem.Challenge.rw_lh0029_01.row.prog w) (ktrTop dp un gd cn cs L a ccd cl outer) (call (.ref 316) [.int pp tp, .ref ta]) Q E s := by
  have hp := hP.pos
  have hp1 := hP.gt
  have hp2 := hP.lt
  have hp3 : 7 ≤ pp := by unfold Pr at hP; omega
  have ret' : ∀ (r : Value) (news' : List (Addr × Obj)) (h' : Heap) (tk' : Nat), Fr h₀ L h' m → News h₀ L h' news' → Ext news news' → OptIn news' r (some (toldF pp P)) → Q r { s with heap := h', toks := tk' } := by
    intro r news' h' tk' f n he q
    obtain ⟨tl, rfl⟩ := he.is
    exact ret r tl h' tk' q f n
  clear ret
  obtain ⟨x1, y1, z1⟩ := P
  obtain ⟨x', dx, y', dy, z', dz, t1, t2, t3, t4, u1, u2, u3, u4, v1, v2, v3, v4, h1, h2, h3, h4, h5, h6, h7, ⟨b1, b2⟩, ⟨b3, b4⟩, ⟨b5, b6⟩⟩ := hA
  dsimp only at h3 h5 h7 b1 b2 b3 b4 b5 b6
  refine wpAny_call ?_
  k_dflt cell_enter
  k_steps
  all_goals refine ret' _ _ _ _ (by k_asm) (by k_asm) (by repeat (first | exact Ext.refl _ | refine Ext.app _ ?_ | refine Ext.cons _ ?_)) ?_
  all_goals (rw [toldF_eq (P := (x1, y1, z1)) (by assumption)]; exact ⟨_, _, _, rfl, by k_mem⟩)
end
section
local macro_rules | `(tactic| walk_at "call builtin:pow") => `(tactic| ((with_reducible show wpAny _ _ (call (Value.builtin "pow") [Value.int _ _, Value.int _ _, Value.int _ _]) _ _ _); (refine' call_pow3 ?he ?hm ?_; (case he => first | assumption | omega | exact Int.fdiv_nonneg (by omega) (by omega) | (rw [Int.fdiv_eq_ediv_of_nonneg _ (by decide)]; omega)); (case hm => omega)); intro r' t' tk' e' l1' l2'; (try dsimp only); (try k_fold)))
local macro_rules | `(tactic| walk_at "subscriptTail Name Constant ref int") => `(tactic| (k_here; (with_reducible show wpAny _ _ (subscriptTail _ _ (Value.ref _) (Value.int _ _)) _ _ _); k_dflt (refine' item_tupleT ?t ?a ?b ?c ?d ?_; (case t => exact News.isTup (by k_asm) (by k_mem)); (case a => decide); (case b => decide); (case c => rfl); (case d => rfl); k_whole)))
/-- the affine sum, as the law writes it -/
def sumF (p : Int) : Option (Int × Int) → Option (Int × Int) → Option (Int × Int)
  | none, o => o
  | some a, none => some a
  | some a, some b =>
    if a.1 = b.1 ∧ (a.2 + b.2).fmod p = 0 then none else
    let m := if a = b then 3 * a.1 * a.1 * pw ((2 * a.2).fmod p) (p - 2) p else (b.2 - a.2) * pw ((b.1 - a.1).fmod p) (p - 2) p
    let x := (m * m - a.1 - b.1).fmod p
    some (x, (m * (a.1 - x) - a.2).fmod p)
theorem sumF_n {p x1 y1 x2 y2 : Int} (h1 : x1 = x2) (h2 : (y1 + y2).fmod p = 0) : sumF p (some (x1, y1)) (some (x2, y2)) = none := if_pos ⟨h1, h2⟩
theorem pair_eq {x1 y1 x2 y2 : Int} (h : (x1 == x2 && y1 == y2) = true) : (x1, y1) = (x2, y2) := by
  simp only [Bool.and_eq_true, beq_iff_eq] at h
  rw [h.1, h.2]
theorem pair_ne {x1 y1 x2 y2 : Int} (h : (x1 == x2 && y1 == y2) = false) : ¬ (x1, y1) = (x2, y2) := by
  intro e
  cases e
  simp at h
theorem sumF_d {p x1 y1 x2 y2 r : Int} (h : ¬ (x1 = x2 ∧ (y1 + y2).fmod p = 0)) (hb : (x1 == x2 && y1 == y2) = true) (e : r = pw ((2 * y1).fmod p) (p - 2) p) : sumF p (some (x1, y1)) (some (x2, y2)) =
    some ((3 * x1 * x1 * r * (3 * x1 * x1 * r) - x1 - x2).fmod p, (3 * x1 * x1 * r * (x1 - (3 * x1 * x1 * r * (3 * x1 * x1 * r) - x1 - x2).fmod p) - y1).fmod p) := by
  subst e
  show (if x1 = x2 ∧ (y1 + y2).fmod p = 0 then none else _) = _
  rw [if_neg h]
  dsimp only
  rw [if_pos (pair_eq hb)]
theorem sumF_g {p x1 y1 x2 y2 r : Int} (h : ¬ (x1 = x2 ∧ (y1 + y2).fmod p = 0)) (hb : (x1 == x2 && y1 == y2) = false) (e : r = pw ((x2 - x1).fmod p) (p - 2) p) : sumF p (some (x1, y1)) (some (x2, y2)) =
    some (((y2 - y1) * r * ((y2 - y1) * r) - x1 - x2).fmod p, ((y2 - y1) * r * (x1 - ((y2 - y1) * r * ((y2 - y1) * r) - x1 - x2).fmod p) - y1).fmod p) := by
  subst e
  show (if x1 = x2 ∧ (y1 + y2).fmod p = 0 then none else _) = _
  rw [if_neg h]
  dsimp only
  rw [if_neg (pair_ne hb)]
set_option maxRecDepth 100000 in
set_option maxHeartbeats 8000000 in
theorem sumC {w : World} {p : Program} {loose : List Str} {mean : ExcName → Option Value} {mg mb : Str → Option Value}
   {dp un : Nat} {gd : Option (List Code)} {cn : Str} {cs : Scope} {a : Addr} {ccd : Value} {cl : List (Str × Addr)} {outer : List Env} {A₀ : Around} {base h₀ : Heap} {L : Addr} {m : Str → Option Value} {s : Shared} {Q E : Value → Shared → Prop} {news : List (Addr × Obj)}
   {pp : Int} {o1 o2 : Option (Int × Int)} {v1 v2 : Value} {tp : Tok}
    (B : Below A₀ base outer h₀) (F : Fr h₀ L s.heap m) (X : (hd.heap_39 w.params).In h₀) (N : News h₀ L s.heap news) (T : Top p loose mean mg mb h₀) (hk : cs.kind = .function)
    (hP : Pr pp) (ho1 : OptIn news v1 o1) (ho2 : OptIn news v2 o2) (hb1 : ∀ q, o1 = some q → (0 ≤ q.1 ∧ q.1 < pp) ∧ (0 ≤ q.2 ∧ q.2 < pp)) (hb2 : ∀ q, o2 = some q → (0 ≤ q.1 ∧ q.1 < pp) ∧ (0 ≤ q.2 ∧ q.2 < pp))
    (hd : dp + 8 < recursionLimit) (hu : un + 128 < cLine)
    (ret : ∀ (r : Value) (tl : List (Addr × Obj)) (h' : Heap) (tk' : Nat), OptIn (tl ++ news) r (sumF pp o1 o2) → Fr h₀ L h' m → News h₀ L h' (tl ++ news) → Q r { s with heap := h', toks := tk' }) :
    wpAny (model PySem.Challenge.rw_lh0029_01.row.prog w) (ktrTop dp un gd cn cs L a ccd cl outer) (call (.ref 295) [.int pp tp, v1, v2]) Q E s := by
  have hp := hP.pos
  have hp1 := hP.gt
  have hp2 := hP.lt
  have hp3 : 7 ≤ pp := by unfold Pr at hP; omega
  have ret' : ∀ (r : Value) (news' : List (Addr × Obj)) (h' : Heap) (tk' : Nat), Fr h₀ L h' m → News h₀ L h' news' → Ext news news' → OptIn news' r (sumF pp o1 o2) → Q r { s with heap := h', toks := tk' } := by
    intro r news' h' tk' f n he q
    obtain ⟨tl, rfl⟩ := he.is
    exact ret r tl h' tk' q f n
  clear ret
  cases o1 with
  | none =>
    have ho' : v1 = .none := ho1
    subst ho'
    cases o2 with
    | none =>
      have ho' : v2 = .none := ho2
      subst ho'
      refine wpAny_call ?_
      k_dflt cell_enter
      k_steps
      all_goals exact ret' _ _ _ _ (by k_asm) (by k_asm) (by repeat (first | exact Ext.refl _ | refine Ext.app _ ?_ | refine Ext.cons _ ?_)) rfl
    | some q =>
      have ho := ho2
      obtain ⟨aq, tq1, tq2, rfl, hq⟩ := ho2
      refine wpAny_call ?_
      k_dflt cell_enter
      k_steps
      all_goals exact ret' _ _ _ _ (by k_asm) (by k_asm) (by repeat (first | exact Ext.refl _ | refine Ext.app _ ?_ | refine Ext.cons _ ?_)) ho
  | some q1 =>
    have hoo := ho1
    obtain ⟨aq, tq1, tq2, rfl, hq⟩ := ho1
    obtain ⟨⟨c1, c2⟩, ⟨c3, c4⟩⟩ := hb1 _ rfl
    clear hb1
    obtain ⟨x1, y1⟩ := q1
    dsimp only at c1 c2 c3 c4 hq
    cases o2 with
    | none =>
      have ho' : v2 = .none := ho2
      subst ho'
      refine wpAny_call ?_
      k_dflt cell_enter
      k_steps
      all_goals exact ret' _ _ _ _ (by k_asm) (by k_asm) (by repeat (first | exact Ext.refl _ | refine Ext.app _ ?_ | refine Ext.cons _ ?_)) hoo
    | some q2 =>
      obtain ⟨bq, tq3, tq4, rfl, hq2⟩ := ho2
      obtain ⟨⟨d1, d2⟩, ⟨d3, d4⟩⟩ := hb2 _ rfl
      clear hb2
      obtain ⟨x2, y2⟩ := q2
      dsimp only at d1 d2 d3 d4 hq2
      refine wpAny_call ?_
      k_dflt cell_enter
      k_steps
      all_goals refine ret' _ _ _ _ (by k_asm) (by k_asm) (by repeat (first | exact Ext.refl _ | refine Ext.app _ ?_ | refine Ext.cons _ ?_)) ?_
      all_goals first
        | (rw [sumF_n (by assumption) (by assumption)]; exact rfl)
        | (rw [sumF_d (fun h => by first | exact absurd h.2 (by assumption) | exact absurd h.1 (by assumption)) (by assumption) (by assumption)]; exact ⟨_, _, _, rfl, by k_mem⟩)
        | (rw [sumF_g (fun h => by first | exact absurd h.2 (by assumption) | exact absurd h.1 (by assumption)) (by assumption) (by assumption)]; exact ⟨_, _, _, rfl, by k_mem⟩)
end
section
local macro_rules | `(tactic| walk_at "call builtin:pow") => `(tactic| ((with_reducible show wpAny _ _ (call (Value.builtin "pow") [Value.int _ _, Value.int _ _, Value.int _ _]) _ _ _); (refine' call_pow3 ?he ?hm ?_; (case he => first | assumption | omega | exact Int.fdiv_nonneg (by omega) (by omega) | (rw [Int.fdiv_eq_ediv_of_nonneg _ (by decide)]; omega)); (case hm => omega)); intro r' t' tk' e' l1' l2'; (try dsimp only); (try k_fold)))
local macro_rules | `(tactic| walk_at "subscriptTail Name Constant ref int") => `(tactic| (k_here; (with_reducible show wpAny _ _ (subscriptTail _ _ (Value.ref _) (Value.int _ _)) _ _ _); k_dflt (refine' item_tupleT ?t ?a ?b ?c ?d ?_; (case t => exact News.isTup (by k_asm) (by k_mem)); (case a => decide); (case b => decide); (case c => rfl); (case d => rfl); k_whole)))
def Bd (p : Int) (o : Option (Int × Int)) : Prop := ∀ q, o = some q → (0 ≤ q.1 ∧ q.1 < p) ∧ (0 ≤ q.2 ∧ q.2 < p)
theorem Bd.sum {p : Int} {o1 o2 : Option (Int × Int)} (hP : Pr p) (h1 : Bd p o1) (h2 : Bd p o2) : Bd p (sumF p o1 o2) := by
  have hp := hP.pos
  cases o1 with
  | none => exact h2
  | some a =>
    cases o2 with
    | none => exact h1
    | some b =>
      intro q hq
      by_cases e : a.1 = b.1 ∧ (a.2 + b.2).fmod p = 0
      · have hs : sumF p (some a) (some b) = none := if_pos e
        rw [hs] at hq
        cases hq
      · have hs : sumF p (some a) (some b) = _ := if_neg e
        rw [hs] at hq
        cases hq
        exact ⟨⟨Int.fmod_nonneg_of_pos _ hp, Int.fmod_lt_of_pos _ hp⟩, ⟨Int.fmod_nonneg_of_pos _ hp, Int.fmod_lt_of_pos _ hp⟩⟩
theorem OptIn.mono {news news' : List (Addr × Obj)} {v : Value} {o : Option (Int × Int)} (h : OptIn news v o) (hs : Ext news news') : OptIn news' v o := by
  obtain ⟨tl, rfl⟩ := hs.is
  cases o with
  | none => exact h
  | some q =>
    obtain ⟨a, t1, t2, rfl, hm⟩ := h
    exact ⟨a, t1, t2, rfl, List.mem_append_right _ hm⟩
def TmF (p : Int) : Nat → Option (Int × Int) → Option (Int × Int) → Int → Option (Int × Int)
  | 0, t, _, _ => t
  | k + 1, t, q, n => if 0 < n then TmF p k (if n.fmod 2 = 1 then sumF p t q else t) (sumF p q q) (n.fdiv 2) else t
theorem TmF_out {p : Int} {k : Nat} {t q : Option (Int × Int)} {n : Int} (h : ¬ 0 < n) : TmF p k t q n = t := by
  cases k with
  | zero => rfl
  | succ k => unfold TmF; rw [if_neg h]
theorem form3 {stored : List Str} {M m : Str → Option Value} {a b c : Str} {va vb vc : Option Value} (hs : stored = [a, b, c]) (h : Same stored M m) (ha : m a = va) (hb : m b = vb) (hc : m c = vc) :
    m = fun y => if y = a then va else if y = b then vb else if y = c then vc else M y := by
  subst hs
  funext y
  by_cases h1 : y = a
  · rw [if_pos h1, h1]; exact ha
  rw [if_neg h1]
  by_cases h2 : y = b
  · rw [if_pos h2, h2]; exact hb
  rw [if_neg h2]
  by_cases h3 : y = c
  · rw [if_pos h3, h3]; exact hc
  rw [if_neg h3]
  exact h y (by simp [h1, h2, h3])
def TJ (p : Int) (R : Option (Int × Int)) (news : List (Addr × Obj)) (M : Str → Option Value) (k : Nat) (m : Str → Option Value) (nx : List (Addr × Obj)) : Prop :=
  ∃ (tl : List (Addr × Obj)) (vt vq : Value) (n : Int) (tn : Tok) (o q : Option (Int × Int)), nx = tl ++ news ∧ Same [Str.ofString "n", Str.ofString "point", Str.ofString "told"] M m ∧
    m (Str.ofString "n") = some (.int n tn) ∧ m (Str.ofString "point") = some vq ∧ m (Str.ofString "told") = some vt ∧ OptIn nx vt o ∧ OptIn nx vq q ∧ Bd p o ∧ Bd p q ∧ 0 ≤ n ∧ n < 2 ^ k ∧ TmF p k o q n = R
theorem half_lt {n : Int} {j : Nat} (hj : n < 2 ^ j) (h0 : 0 < n) : ∃ i, j = i + 1 ∧ n.fdiv 2 < 2 ^ i ∧ 0 ≤ n.fdiv 2 := by
  cases j with
  | zero => exfalso; simp at hj; omega
  | succ i =>
    refine ⟨i, rfl, ?_, ?_⟩
    · rw [Int.fdiv_eq_ediv_of_nonneg _ (by decide)]; rw [Int.pow_succ] at hj; omega
    · rw [Int.fdiv_eq_ediv_of_nonneg _ (by decide)]; omega
theorem TmF_odd {p : Int} {j : Nat} {o q R : Option (Int × Int)} {n : Int} (hj : n < 2 ^ j) (h0 : 0 < n) (h1 : n.fmod 2 = 1) (hR : TmF p j o q n = R) :
    j - 1 < j ∧ n.fdiv 2 < 2 ^ (j - 1) ∧ 0 ≤ n.fdiv 2 ∧ TmF p (j - 1) (sumF p o q) (sumF p q q) (n.fdiv 2) = R := by
  obtain ⟨i, rfl, h2, h3⟩ := half_lt hj h0
  rw [TmF, if_pos h0, if_pos h1] at hR
  exact ⟨by omega, h2, h3, hR⟩
theorem TmF_even {p : Int} {j : Nat} {o q R : Option (Int × Int)} {n : Int} (hj : n < 2 ^ j) (h0 : 0 < n) (h1 : n.fmod 2 ≠ 1) (hR : TmF p j o q n = R) :
    j - 1 < j ∧ n.fdiv 2 < 2 ^ (j - 1) ∧ 0 ≤ n.fdiv 2 ∧ TmF p (j - 1) o (sumF p q q) (n.fdiv 2) = R := by
  obtain ⟨i, rfl, h2, h3⟩ := half_lt hj h0
  rw [TmF, if_pos h0, if_neg h1] at hR
  exact ⟨by omega, h2, h3, hR⟩
theorem TJ.mk {p : Int} {R : Option (Int × Int)} {news : List (Addr × Obj)} {M : Str → Option Value} {k : Nat} {m : Str → Option Value} {nx : List (Addr × Obj)} {tl : List (Addr × Obj)} {vt vq : Value} {n : Int} {tn : Tok} {o q : Option (Int × Int)}
    (e : nx = tl ++ news) (hs : Same [Str.ofString "n", Str.ofString "point", Str.ofString "told"] M m) (h1 : m (Str.ofString "n") = some (.int n tn)) (h2 : m (Str.ofString "point") = some vq) (h3 : m (Str.ofString "told") = some vt)
    (ho : OptIn nx vt o) (hq : OptIn nx vq q) (hbo : Bd p o) (hbq : Bd p q) (ht : n < 2 ^ k ∧ 0 ≤ n ∧ TmF p k o q n = R) : TJ p R news M k m nx :=
  ⟨tl, vt, vq, n, tn, o, q, e, hs, h1, h2, h3, ho, hq, hbo, hbq, ht.2.1, ht.1, ht.2.2⟩
local macro_rules | `(tactic| walk_at "call ref") => `(tactic| (k_here; (with_reducible show wpAny _ _ (call (Value.ref 295) [Value.int _ _, _, _]) _ _ _); k_dflt (refine' sumC ?k1 ?k2 ?k3 ?k4 ?k5 ?kK ?kP ?ko1 ?ko2 ?kb1 ?kb2 ?kd ?ku ?_; (case k1 => k_asm); (case k2 => k_asm); (case k3 => k_asm); (case k4 => k_asm); (case k5 => k_asm); (case kK => first | exact rfl | assumption); (case kP => assumption); (case ko1 => exact OptIn.mono (by assumption) (by repeat (first | exact Ext.refl _ | refine Ext.app _ ?_ | refine Ext.cons _ ?_))); (case ko2 => exact OptIn.mono (by assumption) (by repeat (first | exact Ext.refl _ | refine Ext.app _ ?_ | refine Ext.cons _ ?_))); (case kb1 => first | assumption | exact Bd.sum (by assumption) (by assumption) (by assumption)); (case kb2 => first | assumption | exact Bd.sum (by assumption) (by assumption) (by assumption)); (case kd => k_room); (case ku => k_units); intro r' tl' h' tk' O' F' N'; (try dsimp only); (try k_fold))))
set_option maxRecDepth 100000 in
set_option maxHeartbeats 8000000 in
theorem timesC {w : World} {p : Program} {loose : List Str} {mean : ExcName → Option Value} {mg mb : Str → Option Value}
   {dp un : Nat} {gd : Option (List Code)} {cn : Str} {cs : Scope} {a : Addr} {ccd : Value} {cl : List (Str × Addr)} {outer : List Env} {A₀ : Around} {base h₀ : Heap} {L : Addr} {m : Str → Option Value} {s : Shared} {Q E : Value → Shared → Prop} {news : List (Addr × Obj)}
   {pp n : Int} {o : Option (Int × Int)} {v : Value} {tp tn : Tok} {k : Nat}
    (B : Below A₀ base outer h₀) (F : Fr h₀ L s.heap m) (X : (hd.heap_39 w.params).In h₀) (N : News h₀ L s.heap news) (T : Top p loose mean mg mb h₀) (hk : cs.kind = .function)
    (hP : Pr pp) (ho : OptIn news v o) (hb : Bd pp o) (hn : 0 ≤ n) (hn2 : n < 2 ^ k)
    (hd : dp + 12 < recursionLimit) (hu : un + 200 < cLine)
    (ret : ∀ (r : Value) (tl : List (Addr × Obj)) (h' : Heap) (tk' : Nat), OptIn (tl ++ news) r (TmF pp k none o n) → Bd pp (TmF pp k none o n) → Fr h₀ L h' m → News h₀ L h' (tl ++ news) → Q r { s with heap := h', toks := tk' }) :
    wpAny (model PySem.Challenge.rw_lh0029_01.row.prog w) (ktrTop dp un gd cn cs L a ccd cl outer) (call (.ref 302) [.int pp tp, v, .int n tn]) Q E s := by
  have hp := hP.pos
  have hp1 := hP.gt
  have hp2 := hP.lt
  refine wpAny_call ?_
  k_dflt cell_enter
  repeat' (first | ((with_reducible show wpAny _ _ (exec (PySem.Stmt.While _ _ _ _) _) _ _ _); refine stop ?_) | (k_unfold; (try dsimp only)) | (k_end; wrow_close) | walk1 | (dsimp only; walk1) | (leave1; walk_say "STEP leave1"; try dsimp only) | fail "no step")
  refine go ?_
  rename Fr _ _ _ _ => hF
  rename News _ _ _ _ => hN
  refine While_inv (TJ pp (TmF pp k none o n) news _) (n₀ := k) hF hN ⟨[], .none, v, n, tn, none, o, rfl, Same.refl, rfl, rfl, rfl, rfl, ho, fun q hq => (nomatch hq), hb, hn, hn2, rfl⟩ ?_ ?_
  · intro j m1 news1 h1 tk1 F1 N1 hJ
    obtain ⟨tl, vt, vq, n', tn', o', q', rfl, hS, hm1, hm2, hm3, ho', hq', hbo, hbq, hn0, hn1, hR⟩ := hJ
    rw [form3 rfl hS hm1 hm2 hm3] at F1
    clear hF hN
    (try k_fold)
    k_steps
    · have hT := TmF_odd hn1 (by assumption) (by assumption) hR
      refine WhileStep.intro (by k_asm) (by k_asm) hT.1 ?_
      refine' TJ.mk (tl := _ ++ (_ ++ _)) ?e ?s ?h1 ?h2 ?h3 ?ho ?hq ?hbo ?hbq hT.2
      case e => simp only [List.append_assoc]; rfl
      case s => exact (Same.put rfl (Same.put rfl (Same.put rfl (Same.put rfl (Same.put rfl (Same.put rfl Same.refl))))))
      case h1 => rfl
      case h2 => rfl
      case h3 => rfl
      case ho => exact OptIn.mono (by assumption) (by repeat (first | exact Ext.refl _ | refine Ext.app _ ?_ | refine Ext.cons _ ?_))
      case hq => exact OptIn.mono (by assumption) (by repeat (first | exact Ext.refl _ | refine Ext.app _ ?_ | refine Ext.cons _ ?_))
      case hbo => exact (Bd.sum hP hbo hbq)
      case hbq => exact (Bd.sum hP hbq hbq)
    · have hT := TmF_even hn1 (by assumption) (by assumption) hR
      refine WhileStep.intro (by k_asm) (by k_asm) hT.1 ?_
      refine' TJ.mk (tl := _ ++ _) ?e ?s ?h1 ?h2 ?h3 ?ho ?hq ?hbo ?hbq hT.2
      case e => simp only [List.append_assoc]; rfl
      case s => exact (Same.put rfl (Same.put rfl (Same.put rfl (Same.put rfl (Same.put rfl Same.refl)))))
      case h1 => rfl
      case h2 => rfl
      case h3 => rfl
      case ho => exact OptIn.mono (by assumption) (by repeat (first | exact Ext.refl _ | refine Ext.app _ ?_ | refine Ext.cons _ ?_))
      case hq => exact OptIn.mono (by assumption) (by repeat (first | exact Ext.refl _ | refine Ext.app _ ?_ | refine Ext.cons _ ?_))
      case hbo => exact hbo
      case hbq => exact (Bd.sum hP hbq hbq)
    · exact ret vt tl _ _ (((TmF_out (by omega)).symm.trans hR) ▸ ho') (((TmF_out (by omega)).symm.trans hR) ▸ hbo) (by k_asm) (by k_asm)
  · k_steps
end
theorem Bd.of_onC {p b : Int} {o : Option (Int × Int)} (h : ∀ q, o = some q → OnC p b q.1 q.2) : Bd p o := by
  intro q hq
  obtain ⟨h1, h2, h3, h4, _⟩ := h q hq
  exact ⟨⟨h1, h2⟩, ⟨Int.le_of_lt h3, h4⟩⟩
theorem TmF_none {p : Int} : ∀ (k : Nat) (n : Int), TmF p k none none n = none
  | 0, _ => rfl
  | k + 1, n => by
    rw [TmF]
    split
    · have : (if n.fmod 2 = 1 then sumF p none none else none) = (none : Option (Int × Int)) := by split <;> rfl
      rw [this]; exact TmF_none k _
    · rfl
theorem TmF_none_ne {p : Int} {k : Nat} {n : Int} {q : Int × Int} (h : TmF p k none none n = some q) : False := by
  rw [TmF_none] at h; cases h
theorem sc_lo {p : Int} (hP : Pr p) (v : Int) : 1 ≤ 1 + v.fmod (p - 1) := by
  have := Int.fmod_nonneg_of_pos v (show 0 < p - 1 by have := hP.gt; omega); omega
theorem sc_hi {p : Int} (hP : Pr p) (v : Int) : 1 + v.fmod (p - 1) < p := by
  have := Int.fmod_lt_of_pos v (show 0 < p - 1 by have := hP.gt; omega); omega
theorem sc_0 {p : Int} (hP : Pr p) (v : Int) : 0 ≤ 1 + v.fmod (p - 1) := Int.le_trans (by decide) (sc_lo hP v)
theorem sc_128 {p : Int} (hP : Pr p) (v : Int) : 1 + v.fmod (p - 1) < 128 := Int.lt_trans (sc_hi hP v) hP.lt
theorem cnt_lo (v : Int) : 0 ≤ v.fmod 64 := Int.fmod_nonneg_of_pos v (by decide)
theorem cnt_hi (v : Int) : v.fmod 64 < 2 ^ 6 := Int.fmod_lt_of_pos v (by decide)

def FactsN (p : Int) (o : Option (Int × Int)) (T : Int × Int × Int) : Prop := (T.2.2 == 0) = true ∧ (∀ s2 : Int, 1 ≤ s2 → s2 < p → eqF p T (madeF p none s2 1) = true) ∧ (∀ a, o = some a → eqF p T (madeF p (sumF p none o) 1 1) = false)
def FactsS (p : Int) (o : Option (Int × Int)) (d : Int × Int) (T : Int × Int × Int) : Prop := (T.2.2 == 0) = false ∧ toldF p T = d ∧ (∀ s2 : Int, 1 ≤ s2 → s2 < p → eqF p T (madeF p (some d) s2 1) = true) ∧
  (∀ a, o = some a → eqF p T (madeF p (sumF p (some d) o) 1 1) = false) ∧ eqF p T (madeF p (some (d.1, p - d.2)) 1 1) = false
section
open Lean.Grind (CommRing IsCharP)
theorem nmod (a b : Nat) : Nat.mod a b = a % b := rfl
theorem ndiv (a b : Nat) : Nat.div a b = a / b := rfl
section
variable {α : Type} [CommRing α] {q : Nat} [IsCharP α q]
def ct {α : Type} [CommRing α] (i : Int) : α := (Lean.Grind.Ring.intCast : IntCast α).intCast i
theorem ct_add (a b : Int) : ct (α := α) (a + b) = ct a + ct b := Lean.Grind.Ring.intCast_add a b
theorem ct_sub (a b : Int) : ct (α := α) (a - b) = ct a - ct b := Lean.Grind.Ring.intCast_sub a b
theorem ct_mul (a b : Int) : ct (α := α) (a * b) = ct a * ct b := Lean.Grind.Ring.intCast_mul a b
theorem ct_0 : ct (α := α) 0 = 0 := Lean.Grind.Ring.intCast_zero
theorem ct_1 : ct (α := α) 1 = 1 := Lean.Grind.Ring.intCast_one
theorem ct_2 : ct (α := α) 2 = 2 := Lean.Grind.Ring.intCast_ofNat 2
theorem ct_3 : ct (α := α) 3 = 3 := Lean.Grind.Ring.intCast_ofNat 3
theorem ct_4 : ct (α := α) 4 = 4 := Lean.Grind.Ring.intCast_ofNat 4
theorem ct_8 : ct (α := α) 8 = 8 := Lean.Grind.Ring.intCast_ofNat 8
theorem ct_emod (x : Int) : ct (α := α) (x % (q : Int)) = ct x := Lean.Grind.IsCharP.intCast_emod q x
theorem ct_eq {x y : Int} : ct (α := α) x = ct y ↔ x % (q : Int) = y % (q : Int) := Lean.Grind.IsCharP.intCast_ext_iff q
theorem ct_zero {x : Int} : ct (α := α) x = 0 ↔ x % (q : Int) = 0 := Lean.Grind.IsCharP.intCast_eq_zero_iff q x
theorem ct_fmod (x : Int) : ct (α := α) (x.fmod (q : Int)) = ct x := by
  rw [Int.fmod_eq_emod_of_nonneg _ (Int.natCast_nonneg q)]; exact ct_emod x
theorem ct_p : ct (α := α) (q : Int) = 0 := by rw [ct_zero (q := q)]; exact Int.emod_self
theorem ct_mm (a b : Int) : ct (α := α) (mm (q : Int) a b) = ct a * ct b := by unfold mm; rw [ct_emod, ct_mul]
theorem ct_ms (a b : Int) : ct (α := α) (ms (q : Int) a b) = ct a - ct b := by unfold ms; rw [ct_emod, ct_sub]
theorem mm_eq {a b c d : Int} : mm (q : Int) a b = mm (q : Int) c d ↔ ct (α := α) a * ct b = ct c * ct d := by
  unfold mm; rw [← ct_mul, ← ct_mul]; exact (ct_eq (q := q)).symm
theorem ct_z0 {z : Int} (h0 : 0 ≤ z) (h1 : z < (q : Int)) : ct (α := α) z = 0 ↔ z = 0 := by
  rw [ct_zero (q := q), Int.emod_eq_of_lt h0 h1]
theorem ct_inj {x y : Int} (h0 : 0 ≤ x) (h1 : x < (q : Int)) (h2 : 0 ≤ y) (h3 : y < (q : Int)) (h : ct (α := α) x = ct y) : x = y := by
  rw [ct_eq (q := q), Int.emod_eq_of_lt h0 h1, Int.emod_eq_of_lt h2 h3] at h; exact h
theorem mm_lo (hq : 0 < q) (a b : Int) : 0 ≤ mm (q : Int) a b ∧ mm (q : Int) a b < (q : Int) := ⟨Int.emod_nonneg _ (by omega), Int.emod_lt_of_pos _ (by omega)⟩
end
structure Gd (q : Nat) : Prop where
  lo : 7 ≤ q
  hi : q < 128
  inv : ∀ a, a < q → a ≠ 0 → a * Builtin.powMod a (q - 2) q % q = 1
section
variable {α : Type} [CommRing α] {q : Nat} [IsCharP α q]
theorem pw_inv (G : Gd q) {z : Int} (h : ct (α := α) z ≠ 0) : ct (α := α) z * ct (pw z ((q : Int) - 2) (q : Int)) = 1 := by
  have e : (q : Int) - 2 = ((q - 2 : Nat) : Int) := by have := G.lo; omega
  have hq : 0 < (q : Int) := by have := G.lo; omega
  rw [e, pw_nat]
  have h0 : 0 ≤ z % (q : Int) := Int.emod_nonneg _ (by omega)
  have h1 : z % (q : Int) < q := Int.emod_lt_of_pos _ hq
  have hz : z % (q : Int) ≠ 0 := fun e => h ((ct_zero (q := q)).mpr e)
  rw [← ct_emod (q := q) z, ← ct_mul, ← ct_1]
  refine (ct_eq (q := q)).mpr ?_
  have := G.inv (z % (q : Int)).toNat (by omega) (by omega)
  have e2 : ((z % (q : Int)).toNat : Int) = z % (q : Int) := Int.toNat_of_nonneg h0
  have := congrArg (fun n : Nat => (n : Int)) this
  simp only [Int.natCast_emod, Int.natCast_mul, e2] at this
  rw [this]
  exact (Int.emod_eq_of_lt (by decide) (by have := G.lo; omega)).symm
def cst (o : Option (Int × Int)) : Option (α × α) :=
  match o with
  | none => none
  | some a => some (ct a.1, ct a.2)
theorem slope {D u N X X' Y x3 y3 : α} (hu : D * u = 1) (h1 : (x3 + X + X') * D * D = N * N) (h2 : (y3 + Y) * D = N * (X - x3)) :
    N * u * (N * u) - X - X' = x3 ∧ N * u * (X - (N * u * (N * u) - X - X')) - Y = y3 := by
  have e : N * u * (N * u) - X - X' = x3 := by grind
  rw [e]
  exact ⟨rfl, by grind⟩
theorem fm0 {x : Int} : x.fmod (q : Int) = 0 ↔ ct (α := α) x = 0 := by
  rw [Int.fmod_eq_emod_of_nonneg _ (Int.natCast_nonneg q)]; exact (ct_zero (q := q)).symm
theorem sum_sm (F : Fl α) (G : Gd q) {o1 o2 : Option (Int × Int)} {r : Option (α × α)} (h1 : Bd (q : Int) o1) (h2 : Bd (q : Int) o2) (h : Sm (cst o1) (cst o2) r) : cst (sumF (q : Int) o1 o2) = r := by
  cases o1 with
  | none =>
    have e : cst (sumF (q : Int) none o2) = cst (α := α) o2 := rfl
    rw [e]
    generalize cst (α := α) o2 = b at h
    cases h with
    | nl => rfl
    | nr => rfl
  | some a =>
    cases o2 with
    | none =>
      have e : cst (sumF (q : Int) (some a) none) = cst (α := α) (some a) := rfl
      rw [e]
      generalize cst (α := α) (some a) = b at h
      cases h with
      | nl => rfl
      | nr => rfl
    | some b =>
      obtain ⟨x1, y1⟩ := a
      obtain ⟨x2, y2⟩ := b
      obtain ⟨⟨c1, c2⟩, ⟨c3, c4⟩⟩ := h1 _ rfl
      obtain ⟨⟨d1, d2⟩, ⟨d3, d4⟩⟩ := h2 _ rfl
      dsimp only [cst] at h c1 c2 c3 c4 d1 d2 d3 d4
      generalize hX1 : ct (α := α) x1 = X1 at h
      generalize hY1 : ct (α := α) y1 = Y1 at h
      generalize hX2 : ct (α := α) x2 = X2 at h
      generalize hY2 : ct (α := α) y2 = Y2 at h
      cases h with
      | opp _ _ _ h =>
        have e1 : x1 = x2 := ct_inj (q := q) c1 c2 d1 d2 (hX1.trans hX2.symm)
        have e2 : (y1 + y2).fmod (q : Int) = 0 := by rw [fm0 (α := α), ct_add, hY1, hY2]; exact h
        rw [sumF_n e1 e2]; rfl
      | dbl _ _ x3 y3 hy e3 e4 =>
        have e1 : x1 = x2 := ct_inj (q := q) c1 c2 d1 d2 (hX1.trans hX2.symm)
        have e2 : y1 = y2 := ct_inj (q := q) c3 c4 d3 d4 (hY1.trans hY2.symm)
        subst e1 e2
        have n2 : 2 * Y1 ≠ 0 := F.mul F.two hy
        have hn : ¬ (x1 = x1 ∧ (y1 + y1).fmod (q : Int) = 0) := by
          rintro ⟨_, e⟩
          rw [fm0 (α := α), ct_add, hY1] at e
          exact n2 (by grind)
        rw [sumF_d hn (by simp) rfl]
        have hu : (2 * Y1) * ct (pw ((2 * y1).fmod (q : Int)) ((q : Int) - 2) (q : Int)) = 1 := by
          have := pw_inv (α := α) G (z := (2 * y1).fmod (q : Int)) (by rw [ct_fmod, ct_mul, ct_2, hY1]; exact n2)
          rw [ct_fmod, ct_mul, ct_2, hY1] at this
          exact this
        dsimp only [cst]
        simp only [ct_fmod, ct_sub, ct_mul, ct_3, hX1, hY1]
        generalize ct (α := α) (pw ((2 * y1).fmod (q : Int)) ((q : Int) - 2) (q : Int)) = u at hu ⊢
        have hs := slope (X' := X1) hu ((by grind : (x3 + X1 + X1) * (2 * Y1) * (2 * Y1) = (x3 + 2 * X1) * (2 * Y1) * (2 * Y1)).trans e3) e4
        rw [hs.2, hs.1]
      | gen _ _ _ _ x3 y3 hx e3 e4 =>
        have hn1 : x1 ≠ x2 := by rintro rfl; exact hx (hX1.symm.trans hX2)
        have hn : ¬ (x1 = x2 ∧ (y1 + y2).fmod (q : Int) = 0) := fun e => hn1 e.1
        have hd : X2 - X1 ≠ 0 := fun e => hx (id6 _ _ e)
        rw [sumF_g hn (by simp [hn1]) rfl]
        have hu : (X2 - X1) * ct (pw ((x2 - x1).fmod (q : Int)) ((q : Int) - 2) (q : Int)) = 1 := by
          have := pw_inv (α := α) G (z := (x2 - x1).fmod (q : Int)) (by rw [ct_fmod, ct_sub, hX1, hX2]; exact hd)
          rw [ct_fmod, ct_sub, hX1, hX2] at this
          exact this
        dsimp only [cst]
        simp only [ct_fmod, ct_sub, ct_mul, hX1, hY1, hX2, hY2]
        generalize ct (α := α) (pw ((x2 - x1).fmod (q : Int)) ((q : Int) - 2) (q : Int)) = u at hu ⊢
        have hs := slope hu e3 e4
        rw [hs.2, hs.1]

def RpI (q : Nat) (o : Option (α × α)) (T : Int × Int × Int) : Prop := Rp o (ct T.1) (ct T.2.1) (ct T.2.2) ∧ (0 ≤ T.2.2 ∧ T.2.2 < (q : Int)) ∧ (o = none → T = (1, 1, 0))
theorem RpI.none_of (G : Gd q) {T : Int × Int × Int} (h : T = (1, 1, 0)) : RpI (α := α) q none T := by
  subst h
  exact ⟨⟨ct_1, ct_1, ct_0⟩, ⟨by dsimp only; omega, by have := G.lo; dsimp only; omega⟩, fun _ => rfl⟩
theorem RpI.dbl (F : Fl α) (G : Gd q) {x y : α} {P : Int × Int × Int} {r : Option (α × α)} (h : Sm (some (x, y)) (some (x, y)) r) (hy : y ≠ 0) (hP : RpI q (some (x, y)) P) : r ≠ none ∧ RpI q r (dblF (q : Int) P) := by
  obtain ⟨⟨hZ, hX, hY⟩, _, _⟩ := hP
  have hr : r ≠ none := by
    rintro rfl
    cases h with
    | opp _ _ _ h => exact hy (F.zd (by grind) F.two)
  refine ⟨hr, ?_, mm_lo (by have := G.lo; omega) _ _, fun e => absurd e hr⟩
  have := Rp.dbl F h hy hZ hX hY rfl rfl rfl rfl rfl
  unfold dblF
  dsimp only
  simp only [ct_mm, ct_ms, ct_2, ct_3, ct_4, ct_8]
  exact this
theorem RpI.add (F : Fl α) (G : Gd q) {a b r : Option (α × α)} {P1 P2 : Int × Int × Int} (h : Sm a b r) (hy : ∀ d, a = some d → d.2 ≠ 0) (hP1 : RpI q a P1) (hP2 : RpI q b P2) : RpI q r (addF (q : Int) P1 P2) := by
  have hz2 : ct (α := α) P2.2.2 = 0 ↔ P2.2.2 = 0 := ct_z0 (q := q) hP2.2.1.1 hP2.2.1.2
  have hz1 : ct (α := α) P1.2.2 = 0 ↔ P1.2.2 = 0 := ct_z0 (q := q) hP1.2.1.1 hP1.2.1.2
  have non : ∀ {o : Option (α × α)} {P : Int × Int × Int}, RpI q o P → o = none → P.2.2 = 0 := fun hp e => by rw [hp.2.2 e]
  cases a with
  | none =>
    have er : b = r := by cases h <;> rfl
    subst er
    by_cases e2 : P2.2.2 = 0
    · rw [addF_l e2]
      have : b = none := by
        cases b with
        | none => rfl
        | some d => exact absurd (hz2.mpr e2) hP2.1.1
      subst this; exact hP1
    · rw [addF_r (non hP1 rfl) e2]; exact hP2
  | some d1 =>
    cases b with
    | none =>
      have er : r = some d1 := by cases h; rfl
      subst er
      rw [addF_l (non hP2 rfl)]; exact hP1
    | some d2 =>
      obtain ⟨x1, y1⟩ := d1
      obtain ⟨x2, y2⟩ := d2
      have hy1 : y1 ≠ 0 := hy _ rfl
      obtain ⟨⟨hZ1, hX1, hY1⟩, _, _⟩ := id hP1
      obtain ⟨⟨hZ2, hX2, hY2⟩, _, _⟩ := id hP2
      dsimp only at hX1 hY1 hX2 hY2
      have n1 : P1.2.2 ≠ 0 := fun e => hZ1 (hz1.mpr e)
      have n2 : P2.2.2 ≠ 0 := fun e => hZ2 (hz2.mpr e)
      have nZ := F.mul hZ1 hZ2
      have cx : mm (q : Int) P2.1 P1.2.2 = mm (q : Int) P1.1 P2.2.2 ↔ x1 = x2 := by
        rw [mm_eq (α := α), hX1, hX2]
        constructor
        · intro e; exact F.cancel (a := ct P1.2.2 * ct P2.2.2) (by clear hX1 hX2 hY1 hY2 hZ1 hZ2; grind) nZ
        · rintro rfl; clear hX1 hX2 hY1 hY2 hZ1 hZ2; grind
      have cy : mm (q : Int) P2.2.1 P1.2.2 = mm (q : Int) P1.2.1 P2.2.2 ↔ y1 = y2 := by
        rw [mm_eq (α := α), hY1, hY2]
        constructor
        · intro e; exact F.cancel (a := ct P1.2.2 * ct P2.2.2) (by clear hX1 hX2 hY1 hY2 hZ1 hZ2; grind) nZ
        · rintro rfl; clear hX1 hX2 hY1 hY2 hZ1 hZ2; grind
      by_cases ex : x1 = x2
      · subst ex
        by_cases ey : y1 = y2
        · subst ey
          rw [addF_d n1 n2 (cx.mpr rfl) (cy.mpr rfl)]
          exact (RpI.dbl F G h hy1 hP1).2
        · rw [addF_i n1 n2 (cx.mpr rfl) (fun e => ey (cy.mp e))]
          cases h with
          | opp => exact RpI.none_of G rfl
          | dbl => exact absurd rfl ey
          | gen _ _ _ _ _ _ e => exact absurd rfl e
      · rw [addF_g n1 n2 (fun e => ex (cx.mp e))]
        have hr : r ≠ none := by
          rintro rfl
          cases h with
          | opp => exact absurd rfl ex
        refine ⟨?_, mm_lo (by have := G.lo; omega) _ _, fun e => absurd e hr⟩
        have := Rp.gen F h ex hZ1 hZ2 hX1 hY1 hX2 hY2 rfl rfl rfl rfl rfl rfl rfl rfl rfl rfl rfl
        unfold addG
        dsimp only
        simp only [ct_mm, ct_ms, ct_2]
        exact this
/-- the multiples of a point, 0 to 63 -/
structure Tb (T : Nat → Option (α × α)) : Prop where
  z : T 0 = none
  ny : ∀ n d, n < 64 → T n = some d → d.2 ≠ 0
  pw : ∀ i, 2 ^ i < 64 → T (2 ^ i) ≠ none
  db : ∀ i, 2 ^ (i + 1) < 64 → Sm (T (2 ^ i)) (T (2 ^ i)) (T (2 ^ (i + 1)))
  hi : ∀ i m, 1 ≤ m → 2 ^ i * (2 * m + 1) < 64 → Sm (T (2 ^ i * (2 * m))) (T (2 ^ i)) (T (2 ^ i * (2 * m + 1)))
  lo : ∀ i r, r < 2 ^ i → r + 2 ^ i < 64 → Sm (T r) (T (2 ^ i)) (T (r + 2 ^ i))
theorem mul_tb (F : Fl α) (G : Gd q) {T : Nat → Option (α × α)} (B : Tb T) : ∀ (k i n : Nat) (P : Int × Int × Int), n < 2 ^ k → 2 ^ i * n < 64 → 2 ^ i < 64 → RpI q (T (2 ^ i)) P → RpI q (T (2 ^ i * n)) (mulF (q : Int) k P (n : Int))
  | 0, i, n, P, h1, _, _, _ => by
    have : n = 0 := by simpa using h1
    subst this
    rw [Nat.mul_zero, B.z]
    exact RpI.none_of G rfl
  | k + 1, i, n, P, h1, h2, h3, hP => by
    by_cases e0 : n = 0
    · subst e0
      rw [mulF_0 (n := ((0 : Nat) : Int)) rfl, Nat.mul_zero, B.z]
      exact RpI.none_of G rfl
    by_cases e1 : n = 1
    · subst e1
      rw [mulF_1 (n := ((1 : Nat) : Int)) (by decide) rfl, Nat.mul_one]; exact hP
    have hn : 2 ≤ n := by omega
    have h4 : 2 ^ (i + 1) < 64 := by
      have := Nat.mul_le_mul_left (2 ^ i) hn
      rw [Nat.pow_succ]; omega
    have hd : RpI q (T (2 ^ (i + 1))) (dblF (q : Int) P) := by
      have hs := B.db i h4
      have hnn := B.pw i h3
      cases hT : T (2 ^ i) with
      | none => exact absurd hT hnn
      | some d =>
        rw [hT] at hs hP
        exact (RpI.dbl F G hs (B.ny _ _ h3 hT) hP).2
    have e2 : (n : Int).fdiv 2 = ((n / 2 : Nat) : Int) := by rw [Int.fdiv_eq_ediv_of_nonneg _ (by decide)]; omega
    have e3 : 2 ^ (i + 1) * (n / 2) = 2 ^ i * (2 * (n / 2)) := by rw [Nat.pow_succ, Nat.mul_assoc]
    have ih := mul_tb F G B k (i + 1) (n / 2) (dblF (q : Int) P) (by rw [Nat.pow_succ] at h1; omega) (by
      rw [e3]; exact Nat.lt_of_le_of_lt (Nat.mul_le_mul_left _ (by omega)) h2) h4 hd
    by_cases ee : n % 2 = 0
    · rw [mulF_e (by omega) (by omega) (by rw [Int.fmod_eq_emod_of_nonneg _ (by decide)]; omega), e2]
      have : 2 ^ i * n = 2 ^ (i + 1) * (n / 2) := by rw [e3]; congr 1; omega
      rw [this]; exact ih
    · rw [mulF_o (by omega) (by omega) (by rw [Int.fmod_eq_emod_of_nonneg _ (by decide)]; omega), e2]
      have en : n = 2 * (n / 2) + 1 := by omega
      have hs := B.hi i (n / 2) (by omega) (by rw [← en]; exact h2)
      rw [← en, ← e3] at hs
      exact RpI.add F G hs (fun d hd => B.ny _ d (by rw [e3]; exact Nat.lt_of_le_of_lt (Nat.mul_le_mul_left _ (by omega)) h2) hd) ih hP
theorem times_tb (F : Fl α) (G : Gd q) (hPr : Pr (q : Int)) {T : Nat → Option (α × α)} (B : Tb T) : ∀ (k i r n : Nat) (o p : Option (Int × Int)), n < 2 ^ k → r < 2 ^ i → r + 2 ^ i * n < 64 → (0 < n → Bd (q : Int) p ∧ cst p = T (2 ^ i)) → Bd (q : Int) o → cst o = T r →
    cst (TmF (q : Int) k o p (n : Int)) = T (r + 2 ^ i * n)
  | 0, i, r, n, o, p, h1, _, _, _, _, ho => by
    have : n = 0 := by simpa using h1
    subst this
    rw [Nat.mul_zero, Nat.add_zero]; exact ho
  | k + 1, i, r, n, o, p, h1, h2, h3, h4, h5, ho => by
    by_cases e0 : n = 0
    · subst e0
      rw [TmF_out (by decide), Nat.mul_zero, Nat.add_zero]; exact ho
    obtain ⟨hb, hp⟩ := h4 (by omega)
    rw [TmF, if_pos (by omega)]
    have e2 : (n : Int).fdiv 2 = ((n / 2 : Nat) : Int) := by rw [Int.fdiv_eq_ediv_of_nonneg _ (by decide)]; omega
    have e3 : 2 ^ (i + 1) * (n / 2) = 2 ^ i * (2 * (n / 2)) := by rw [Nat.pow_succ, Nat.mul_assoc]
    have hpos : 0 < 2 ^ i := Nat.two_pow_pos i
    rw [e2]
    have hdb : 0 < n / 2 → Bd (q : Int) (sumF (q : Int) p p) ∧ cst (sumF (q : Int) p p) = T (2 ^ (i + 1)) := fun h => by
      refine ⟨Bd.sum hPr hb hb, sum_sm F G hb hb ?_⟩
      rw [hp]
      refine B.db i ?_
      have := Nat.mul_le_mul_left (2 ^ i) (show 2 ≤ n by omega)
      rw [Nat.pow_succ]; omega
    by_cases ee : n % 2 = 1
    · rw [if_pos (by rw [Int.fmod_eq_emod_of_nonneg _ (by decide)]; omega)]
      have en : n = 2 * (n / 2) + 1 := by omega
      have e4 : r + 2 ^ i * n = (r + 2 ^ i) + 2 ^ (i + 1) * (n / 2) := by
        rw [e3]; conv => lhs; rw [en]
        rw [Nat.mul_add, Nat.mul_one]; omega
      rw [e4]
      refine times_tb F G hPr B k (i + 1) (r + 2 ^ i) (n / 2) _ _ (by rw [Nat.pow_succ] at h1; omega) (by rw [Nat.pow_succ]; omega) (by rw [← e4]; exact h3) hdb (Bd.sum hPr h5 hb) ?_
      refine sum_sm F G h5 hb ?_
      rw [ho, hp]
      exact B.lo i r h2 (by omega)
    · rw [if_neg (by rw [Int.fmod_eq_emod_of_nonneg _ (by decide)]; omega)]
      have e4 : 2 ^ i * n = 2 ^ (i + 1) * (n / 2) := by rw [e3]; congr 1; omega
      rw [e4]
      exact times_tb F G hPr B k (i + 1) r (n / 2) _ _ (by rw [Nat.pow_succ] at h1; omega) (by rw [Nat.pow_succ]; omega) (by rw [← e4]; exact h3) hdb h5 ho
end
def smS (p x1 y1 x2 x3 y3 d n : Nat) : Bool :=
  cond (Nat.beq (Nat.mod d p) (nat_lit 0)) false (cond (Nat.beq (Nat.mod (Nat.mul (Nat.mul (Nat.add (Nat.add x3 x1) x2) d) d) p) (Nat.mod (Nat.mul n n) p))
    (Nat.beq (Nat.mod (Nat.mul (Nat.add y3 y1) d) p) (Nat.mod (Nat.mul n (Nat.sub (Nat.add x1 (Nat.mul (nat_lit 128) p)) x3)) p)) false)
def smT (p a b r x1 y1 x2 y2 : Nat) : Bool :=
  cond (Nat.beq r (nat_lit 0)) (cond (Nat.beq x1 x2) (Nat.beq (Nat.mod (Nat.add y1 y2) p) (nat_lit 0)) false)
    (cond (Nat.beq a b) (smS p x1 y1 x2 (Nat.div r (nat_lit 128)) (Nat.mod r (nat_lit 128)) (Nat.mul (nat_lit 2) y1) (Nat.mul (Nat.mul (nat_lit 3) x1) x1))
      (smS p x1 y1 x2 (Nat.div r (nat_lit 128)) (Nat.mod r (nat_lit 128)) (Nat.sub (Nat.add x2 (Nat.mul (nat_lit 128) p)) x1) (Nat.sub (Nat.add y2 (Nat.mul (nat_lit 128) p)) y1)))
def smN (p a b r : Nat) : Bool :=
  cond (Nat.beq a (nat_lit 0)) (Nat.beq b r) (cond (Nat.beq b (nat_lit 0)) (Nat.beq a r)
    (smT p a b r (Nat.div a (nat_lit 128)) (Nat.mod a (nat_lit 128)) (Nat.div b (nat_lit 128)) (Nat.mod b (nat_lit 128))))
def dig (W n : Nat) : Nat := Nat.mod (Nat.shiftRight W (Nat.mul (nat_lit 14) n)) (nat_lit 16384)
def chP (p W : Nat) : List (Nat × Nat) → Bool
  | [] => true
  | e :: l => cond (smN p (dig W e.1) (dig W e.2) (dig W (Nat.add e.1 e.2))) (chP p W l) false
def chY (p W : Nat) : Nat → Bool
  | 0 => true
  | n + 1 => cond (cond (Nat.beq (dig W n) (nat_lit 0)) true (cond (Nat.beq (Nat.mod (dig W n) (nat_lit 128)) (nat_lit 0)) false (Nat.blt (Nat.mod (dig W n) (nat_lit 128)) p))) (chY p W n) false
def chZ (W : Nat) : List Nat → Bool
  | [] => true
  | n :: l => cond (Nat.beq (dig W n) (nat_lit 0)) false (chZ W l)
def prs : List (Nat × Nat) := [(1, 1), (2, 2), (4, 4), (8, 8), (16, 16), (2, 1), (4, 1), (6, 1), (8, 1), (10, 1), (12, 1), (14, 1), (16, 1), (18, 1), (20, 1), (22, 1), (24, 1), (26, 1), (28, 1), (30, 1), (32, 1), (34, 1), (36, 1), (38, 1), (40, 1), (42, 1), (44, 1), (46, 1), (48, 1), (50, 1), (52, 1), (54, 1), (56, 1), (58, 1), (60, 1), (62, 1), (4, 2), (8, 2), (12, 2), (16, 2), (20, 2), (24, 2), (28, 2), (32, 2), (36, 2), (40, 2), (44, 2), (48, 2), (52, 2), (56, 2), (60, 2), (8, 4), (16, 4), (24, 4), (32, 4), (40, 4), (48, 4), (56, 4), (16, 8), (32, 8), (48, 8), (32, 16), (1, 2), (1, 4), (2, 4), (3, 4), (1, 8), (2, 8), (3, 8), (4, 8), (5, 8), (6, 8), (7, 8), (1, 16), (2, 16), (3, 16), (4, 16), (5, 16), (6, 16), (7, 16), (8, 16), (9, 16), (10, 16), (11, 16), (12, 16), (13, 16), (14, 16), (15, 16), (1, 32), (2, 32), (3, 32), (4, 32), (5, 32), (6, 32), (7, 32), (8, 32), (9, 32), (10, 32), (11, 32), (12, 32), (13, 32), (14, 32), (15, 32), (16, 32), (17, 32), (18, 32), (19, 32), (20, 32), (21, 32), (22, 32), (23, 32), (24, 32), (25, 32), (26, 32), (27, 32), (28, 32), (29, 32), (30, 32), (31, 32)]
def chk1 (p t W : Nat) : Bool := cond (Nat.beq (dig W (nat_lit 0)) (nat_lit 0)) (cond (Nat.beq (dig W (nat_lit 1)) (Nat.add (Nat.mul t (nat_lit 128)) t)) (cond (chY p W 64) (cond (chZ W [1, 2, 4, 8, 16, 32]) (chP p W prs) false) false) false) false
def chA (p : Nat) : List (Nat × Nat) → Bool
  | [] => true
  | e :: l => cond (chk1 p e.1 e.2) (chA p l) false
def tab7n0 : List (Nat × Nat) := [(2, 0xa10205020830406101830c0c08508082830408000041428408140820c10184060c30302142020a0c10200001050a10205020830406101830c0c08508082830408000041428408140820c10184060c30302142020a0c10200001050a10205020830406101830c0c08508082830408000), (3, 0x4083040a0c082080820502142840c0c105060c00006101020c10283020820208140850a103030414183000018404083040a0c082080820502142840c0c105060c00006101020c10283020820208140850a103030414183000018404083040a0c082080820502142840c0c105060c000), (5, 0x2820c0818506083050a140000a0830206141820c1428500002820c0818506083050a140000a0830206141820c1428500002820c0818506083050a140000a0830206141820c1428500002820c0818506083050a140000a0830206141820c1428500002820c0818506083050a14000), (6, 0x3010c180000c0430600003010c180000c0430600003010c180000c0430600003010c180000c0430600003010c180000c0430600003010c180000c0430600003010c180000c0430600003010c180000c0430600003010c180000c0430600003010c180000c0430600003010c18000)]
theorem chk7n0 : chA 7 tab7n0 = true := by decide +kernel
def tab19n0 : List (Nat × Nat) := [(2, 0x161088b0e108080a2010200001110a2c80b0e3c888163c1911c0808f02107110608584222c38420202880408000044428b202c38f222058f0644702023c0841c44182161088b0e108080a2010200001110a2c80b0e3c888163c1911c0808f02107110608584222c38420202880408000), (4, 0x20f123c3040c3c4840810000083c48f0c1030f1210204000020f123c3040c3c4840810000083c48f0c1030f1210204000020f123c3040c3c4840810000083c48f0c1030f1210204000020f123c3040c3c4840810000083c48f0c1030f1210204000020f123c3040c3c4840810000), (5, 0x1a2088e2014788142050b1e2c80e221468b0a140000a3868822388051e20508142c78b20388851a2c285000028e1a2088e2014788142050b1e2c80e221468b0a140000a3868822388051e20508142c78b20388851a2c285000028e1a2088e2014788142050b1e2c80e221468b0a14000), (6, 0x21c903161c4101840306000030d180c4031630910023048d081838c0e1c20d1218087240c58710406100c180000c34603100c58c244008c12342060e303870834486021c903161c4101840306000030d180c4031630910023048d081838c0e1c20d1218087240c58710406100c18000), (7, 0x100c486180c20d0c34387000038c0c18206184048d104008c161c910240c58c021c4031218603083430d0e1c0000e3030608186101234410023058724409031630087100c486180c20d0c34387000038c0c18206184048d104008c161c910240c58c021c4031218603083430d0e1c000), (9, 0x48a220c00d103c404001889012240001228883003440f10100062240489000048a220c00d103c404001889012240001228883003440f10100062240489000048a220c00d103c404001889012240001228883003440f10100062240489000048a220c00d103c40400188901224000), (11, 0x588102488d0e2008b0a3400518248062428909203460a0038286022038b221840a162c00016204092234388022c28d0014609201890a242480d182800e0a180880e2c886102858b0000588102488d0e2008b0a3400518248062428909203460a0038286022038b221840a162c000), (13, 0x686223c009163858500288841a340001a1888f002458e161400a221068d0000686223c009163858500288841a340001a1888f002458e161400a221068d0000686223c009163858500288841a340001a1888f002458e161400a221068d0000686223c009163858500288841a34000), (14, 0x7051c380001c1470e00007051c380001c1470e00007051c380001c1470e00007051c380001c1470e00007051c380001c1470e00007051c380001c1470e00007051c380001c1470e00007051c380001c1470e00007051c380001c1470e00007051c380001c1470e00007051c38000), (15, 0x7840c3038a1a1050f16280021230089081c20c02284870044589141068f0e243071e3c0001e1030c0e28684143c58a000848c0224207083008a121c01116245041a3c3890c1c78f00007840c3038a1a1050f16280021230089081c20c02284870044589141068f0e243071e3c000), (16, 0x803183c006082420a00346042040000200c60f0018209082800d18108100000803183c006082420a00346042040000200c60f0018209082800d18108100000803183c006082420a00346042040000200c60f0018209082800d18108100000803183c006082420a00346042040000), (18, 0x120c4011848303080c2100c4060110484902448000240448310046120c0c2030840310180441212409120000901120c4011848303080c2100c4060110484902448000240448310046120c0c2030840310180441212409120000901120c4011848303080c2100c4060110484902448000)]
theorem chk19n0 : chA 19 tab19n0 = true := by decide +kernel
def tab31n0 : List (Nat × Nat) := [(3, 0x2c2cb14060c0000670b0b2c50183000019c2c2cb14060c0000670b0b2c50183000019c2c2cb14060c0000670b0b2c50183000019c2c2cb14060c0000670b0b2c50183000019c2c2cb14060c0000670b0b2c50183000019c2c2cb14060c0000670b0b2c50183000019c2c2cb14060c000), (4, 0x21b3860791286c384064400d206068e241c9181a44807004818e0e6ca041e38e070810000086ce181e44a1b0e1019100348181a389072460691201c012063839b281078e381c204000021b3860791286c384064400d206068e241c9181a44807004818e0e6ca041e38e070810000), (5, 0x64c61b0404e142050e84224071c2c3c68c245078c100c09a32144832a109812e3c285000029a2e4099e2a6c49c32680851070793242c6932c40703223ce9b202ce0b047860406305011478193186c10138508143a108901c70b0f1a309141e304030268c85120ca842604b8f0a14000), (6, 0x384410d02545823008512283c788084090e360880e1a5cd193c181972648c950e4030600003190e3cc8a26341883c64d061a208113674911083c797284050d307459d022811238382950a28e1104340951608c021448a0f1e202102438d8220386973464f06065c99232543900c18000), (8, 0x414f04180c2983260d1b0e5889e282499a026051a2e047171220b010c6ca83082440800004170858a9c0c10b1e125c7082e78505021c98528588810e24d04321c2871870f1b0468e833a701053c106030a60c98346c3962278a0926680981468b811c5c4882c0431b2a0c2091020000), (9, 0x3c5c0820818d81160429d2c6090a2e1c3083004d0838544161c248153274386221c48900004962260399320880a1c584093828d1730783172e609152c1c2821678d9e086409d3c20a062864f17020820636045810a74b182428b870c20c013420e1510587092054c9d0e188871224000), (12, 0x6132a4ce8c3a4ca8c1830000184ca933a30e932a3060c00006132a4ce8c3a4ca8c1830000184ca933a30e932a3060c00006132a4ce8c3a4ca8c1830000184ca933a30e932a3060c00006132a4ce8c3a4ca8c1830000184ca933a30e932a3060c00006132a4ce8c3a4ca8c1830000), (13, 0x22207920634b88366cd842e5c1921e348972830018322459b084c096306ce8e2c5c6110e4c2962a4468d00006922a382890e3060e2c20e91301008908305843258007284c8881e4818d2e20d9b3610b97064878d225ca0c0060c89166c2130258c1b3a38b1718443930a58a911a34000), (14, 0x711145c883104448e2c0c005265cb9c04201172e0c9880068b1c124440e22705081c380001c44517220c4111238b0300149972e70108045cb83262001a2c70491103889c142070e0000711145c883104448e2c0c005265cb9c04201172e0c9880068b1c124440e22705081c38000), (15, 0x12502122a08e042010a0d1430c0e044c40b241070b36441901a3c5910e34e82264c78f00007902630e9d0e4858e1a4018f3638714246c4140430c11144ca12206ce1b2a7420d122c60218744940848a823810804283450c3038113102c9041c2cd91064068f164438d3a089931e3c000), (17, 0x82c2142244000223820b0850891000088e082c2142244000223820b0850891000088e082c2142244000223820b0850891000088e082c2142244000223820b0850891000088e082c2142244000223820b0850891000088e082c2142244000223820b0850891000088e082c2142244000), (18, 0x163c80d3848c0f363cd903040e0d20485902448000243458f2034e12303cd8f3640c1038348121640912000090d163c80d3848c0f363cd903040e0d20485902448000243458f2034e12303cd8f3640c1038348121640912000090d163c80d3848c0f363cd903040e0d20485902448000), (19, 0x3a7458e063c7141050c112848e1b08346021250a82201050c044c904364468f0e34993000098c0e48690363891b0430513206ca9d122c61d0848e042834c0e102c70b06405913a0878f1e40e9d163818f1c504143044a12386c20d18084942a0880414301132410d911a3c38d264c000), (20, 0x2e44b8e2850000282cb912e38a140000a0b2e44b8e2850000282cb912e38a140000a0b2e44b8e2850000282cb912e38a140000a0b2e44b8e2850000282cb912e38a140000a0b2e44b8e2850000282cb912e38a140000a0b2e44b8e2850000282cb912e38a140000a0b2e44b8e2850000)]
theorem chk31n0 : chA 31 tab31n0 = true := by decide +kernel
def tab31n1 : List (Nat × Nat) := [(23, 0xa588882c5cc9602580893224b08225c2892e5c0002e202962220b1732580960224c892c208970a24b970000b880a588882c5cc9602580893224b08225c2892e5c0002e202962220b1732580960224c892c208970a24b970000b880a588882c5cc9602580893224b08225c2892e5c000), (24, 0x142c587366098b0c583092650d87166051422080131e10f162c7469b345870604504992e7419b1064c180000c0710181842e08486042c71934246842c08f091e6c00c227450b161cd98262c3160c24994361c5981450882004c7843c58b1d1a6cd161c181141264b9d066c4193060000), (26, 0x181c618346800034146071860d1a0000d05181c618346800034146071860d1a0000d05181c618346800034146071860d1a0000d05181c618346800034146071860d1a0000d05181c618346800034146071860d1a0000d05181c618346800034146071860d1a0000d05181c6183468000), (27, 0x3224c04166c089084c20c0258584306cc963a380072c5ca1318448880e4c7920a5818d2a44b881a34d9b0000d841a48b972a381920a2478d0e308971838a0c2c200183a44c89301059b022421308300961610c1b3258e8e001cb17284c61122203931e482960634a912e2068d366c000), (28, 0x3c749032070d1d2c30b1334088032470f021850006085488c2a2ca0a2e306810c0879e3a2c38a0678e1c0000e0306043953a507810c7469e2e4ca152a508930828019182cf1d240c81c3474b0c2c4cd02200c91c3c0861400182152230a8b2828b8c1a043021e78e8b0e2819e3870000), (29, 0x386c5131050d8e163898c1e3c38d0640904303880408486022a74a1204307141a40e9d0000e821a3c70b044ca0d2a0861d083481b304491b063c3921e409931644d91102c50c3810494122ce1b144c414363858e263078f0e341902410c0e20102121808a9d284810c1c506903a74000)]
theorem chk31n1 : chA 31 tab31n1 = true := by decide +kernel
def tab43n0 : List (Nat × Nat) := [(3, 0x2218a90201941b326c18300001a832414102094a9b22949282c0c5251418b28240c8862a40806506cc9b060c00006a0c9050408252a6c8a524a0b0314945062ca09032218a90201941b326c18300001a832414102094a9b22949282c0c5251418b28240c8862a40806506cc9b060c000), (4, 0x20907a730105245059415141cc271e1080716940092834c96121911e2a58993221d3982e1901e38602040000227384d00d2e9539322909982a5510d1294c95287802216188241e9cc0414914165054507309c784201c5a50024a0d32584864478a96264c8874e60b864078e180810000), (5, 0xa140000a9870820341943c984052c5101a2869488245cfa3223511a143451e444489e3e20914528ca114044b171098f05065c81e1c8c28500002a61c2080d0650f261014b144068a1a52209173e8c88d446850d14791112278f8824514a328450112c5c4263c1419720787230a14000), (7, 0xe1c0000e90a993a310035491287440d3151a5541928a0c921831195043011f465861f3264a0350486964c591284a9150740a0e9f2a4838700003a42a64e8c400d5244a1d1034c546955064a28324860c465410c047d196187cc99280d4121a5931644a12a4541d0283a7ca920e1c000), (8, 0x326c9a942281835438408000042354741a8428498232402a33c21410124871820945924a74a9b0e393822294005526092838a4b992c0cda13e605253484d0a1418f933628b282e48e02240d49300988864ea439d2a4128e16648061c4c499506cf230a20c9b26a508a060d50e1020000), (9, 0x638ba2162490e2c38b1d24745a22e2419d1224000128818e2e885892438b0e2c7491d1688b89067448900004a20638ba2162490e2c38b1d24745a22e2419d1224000128818e2e885892438b0e2c7491d1688b89067448900004a20638ba2162490e2c38b1d24745a22e2419d1224000), (10, 0x521422cc1d30390a01428000148508b3074c0e428050a0000521422cc1d30390a01428000148508b3074c0e428050a0000521422cc1d30390a01428000148508b3074c0e428050a0000521422cc1d30390a01428000148508b3074c0e428050a0000521422cc1d30390a01428000), (11, 0x5a006213104c6c1a3162c00016801884c4131b068c58b00005a006213104c6c1a3162c00016801884c4131b068c58b00005a006213104c6c1a3162c00016801884c4131b068c58b00005a006213104c6c1a3162c00016801884c4131b068c58b00005a006213104c6c1a3162c000), (12, 0x1830000187d5244c594193a7c10c2a64a03440d2a4324838746590031a5869540a11950e90c994a1d12828a0a92047ce8c5049315541c60c000061f54913165064e9f0430a99280d1034a90c920e1d196400c6961a5502846543a4326528744a0a282a4811f3a314124c555071830000), (13, 0x42146015480c212a0c68d000069e2aa0c0a542c62a429919e4c34da6282499f22a510950a0d05320c12a14a4025387c78a3a05022088438b4e7c8294a2d2a0200938c0e8020a4024eaa1e84e0c00185020404ca8349940344888822630a22361531e463508518055203084a831a34000), (16, 0x2040000206ce030684622146c890048921a02693833a249a82c8431a248490a0c44b0a260cea24ea00914844109226c510182418a38a0810000081b380c1a1188851b2240122486809a4e0ce8926a0b210c6892124283112c289833a893a80245211042489b14406090628e282040000), (17, 0x89a32189292408ca522440002268c8624a49023294891000089a32189292408ca522440002268c8624a49023294891000089a32189292408ca522440002268c8624a49023294891000089a32189292408ca522440002268c8624a49023294891000089a32189292408ca52244000), (19, 0x2835398384d10d1e9c7844478e184e4ca1e5058009221c2272a54824309c4864078ba532545241694993000099816185073258b8640344a530108072a5820422900225054a0d4e60e1344347a71e1111e386139328794160024887089ca952090c27121901e2e94c9514905a5264c000), (21, 0x4078c965054a1e2e94b862835416325500d4e6000914904a5384c8871694c044434227264c8071e9ca950000a961e1082426602044478c2716188a43860486141c0224e4d01e32594152878ba52e18a0d5058c95403539800245241294e13221c5a5301110d089c993201c7a72a54000)]
theorem chk43n0 : chA 43 tab43n0 = true := by decide +kernel
def tab43n1 : List (Nat × Nat) := [(23, 0xc103a1481150a4a28b970000b944a85521489c38a0c9c494165c0a70210594125c3040e85204542928a2e5c0002e512a154852270e283271250597029c08416504970c103a1481150a4a28b970000b944a85521489c38a0c9c494165c0a70210594125c3040e85204542928a2e5c000), (25, 0x3264000324912854911962a494191a58e8c04310284c54a030e9060c4a91287187c38728a1316400c11f3a7c6955048a994655507440cc990000c9244a15244658a9250646963a3010c40a1315280c3a418312a44a1c61f0e1ca284c59003047ce9f1a554122a65195541d1033264000), (27, 0x2a989251a5c72a0c70d9b0000d900c3c7011a509062a15090346cc854054e1a044ca15483d42602701863a4c0034e694812c951163ea93142668613465119718609914c5cf814454b0652a939100a0e98069408f501521c285811838450163298d10426caa624946971ca831c366c000), (28, 0x3e6498f4e7071952654921c4938f2670f923870000383cf99263d39c1c6549952487124e3c99c3e48e1c0000e0f3e6498f4e7071952654921c4938f2670f923870000383cf99263d39c1c6549952487124e3c99c3e48e1c0000e0f3e6498f4e7071952654921c4938f2670f923870000), (31, 0xc7548c1c7d21d4499105483870c527c30e2e200193a69026168c11128987810238c2a128c61108a8f9f0000f8c080461a1220c0102747aa281411a16210053a440122e8c31d523071f4875126441520e1c3149f0c38b880064e9a40985a30444a261e0408e30a84a3184422a3e7c000), (32, 0x100b08548aa22042164080000402c21522a88810859020000100b08548aa22042164080000402c21522a88810859020000100b08548aa22042164080000402c21522a88810859020000100b08548aa22042164080000402c21522a88810859020000100b08548aa22042164080000), (33, 0x2c0d4980e388253c210a1000108a3c8c8060e754932ca0d0a36849284e085925040982108c1830a207132a400262e485063e60e29229529d1248c90547550e326c4994a388863808f931494b990014a9b1c602a306a040826a541b16653a9240cd8a3484b03526038e2094f084284000), (34, 0x1e8531e18a85294e3112200011094e7c502180530d1e290092888c0a320d2a03498a83267c221383118d42980250e808821a7942820a41015480da63a04eaa361550b04a8802500c68d22a438b00190854678e1f082898c2aa0d054a2cca83084a0940887a14c7862a14a538c4488000), (35, 0x10507280a514833e0d1a300011883ea14a80a5c703105d3081a8cf173c506884c8c4141ca0294520cf83468c0004620fa852a02971c0c4174c206a33c5cf141a2132310507280a514833e0d1a300011883ea14a80a5c703105d3081a8cf173c506884c8c4141ca0294520cf83468c000), (36, 0x12070c1c0a4021c3244890000481c30702900870c9122400012070c1c0a4021c3244890000481c30702900870c9122400012070c1c0a4021c3244890000481c30702900870c9122400012070c1c0a4021c3244890000481c30702900870c9122400012070c1c0a4021c3244890000), (37, 0x12860e1952554183a54a940004a1838654955060e952a500012860e1952554183a54a940004a1838654955060e952a500012860e1952554183a54a940004a1838654955060e952a500012860e1952554183a54a940004a1838654955060e952a500012860e1952554183a54a94000), (39, 0x1384022421f08300a24e9c0004e10089087c20c02893a70001384022421f08300a24e9c0004e10089087c20c02893a70001384022421f08300a24e9c0004e10089087c20c02893a70001384022421f08300a24e9c0004e10089087c20c02893a70001384022421f08300a24e9c000), (40, 0x20a51091a34d264a2d42800014034a80d051a791222008c832aa08824e3012a302898c0e80529542ca22082802518a8d854024e1f429931e3aa878a467918d1e84e814c350853831022369860100182212825520140838b267cc21040539f22a4a8332a0829442468d349928b50a0000), (41, 0x14821a9cd8136a868452a400052086a73604daa1a114a900014821a9cd8136a868452a400052086a73604daa1a114a900014821a9cd8136a868452a400052086a73604daa1a114a900014821a9cd8136a868452a400052086a73604daa1a114a900014821a9cd8136a868452a4000)]
theorem chk43n1 : chA 43 tab43n1 = true := by decide +kernel
def tab67n0 : List (Nat × Nat) := [(2, 0x541d30e12cde3326c8e155e19d410e0a006323063c06910013eb998b2e185b86eddc813aee0904aed624587d28882cce887309b8c162cbbd66e0f95410819f181ccb780f43c174097bd38b899178404904cd553c5b087b28438a1f1af072c10b9b37085d0b20220f0e625c2b80408000), (3, 0x1c03ef83088065da92a2103818d943b16605ab502060d402cabb766a02a0cecf85060c0000700fbe0c2201976a4a8840e063650ec59816ad408183500b2aedd9a80a833b3e1418300001c03ef83088065da92a2103818d943b16605ab502060d402cabb766a02a0cecf85060c000), (4, 0x23f3838ba840d11895ea198c24aa01b7b05e8280a091966dd79b46e900f2e6ce35081000008fce0e2ea103446257a8663092a806dec17a0a02824659b75e6d1ba403cb9b38d4204000023f3838ba840d11895ea198c24aa01b7b05e8280a091966dd79b46e900f2e6ce350810000), (5, 0x82c008d3edce37368cf3930c45be66148b11e6c4932c95cae4c29aa634c491d42a16ae690040c4500525147910310dda035a5509b2498d126a753397254b1e12c07a822499be1614c123c28da03830f8c02da09340557234a3519e784c30784289a850f1ea3600ce8d2af1f9d0a14000), (6, 0x5ca50136e34e3b0478306000033d0494e086ed90305c68abd5019e9a2c11ab402645040e94da97479cb03a6401124d0f885a4d1bf10edb367ed129932d8c8d4aa9f8f6c3440846116b03eec90f00c8eaa724dd25366839e14fc0aa6a3cb3f7aa543d2a19729404db8d38ec11e0c18000), (7, 0x48bd13f64815a06cce1183e8413c741c421580539414f608a3cacdb03885e93070848a0cc54a350c51bd4619412528031212e41817ac0e22364cf1882e45064ebd6421089d3c041cfa284adb10568d923441121478e4cb368fcb067650b894caca4280e9bb32a4983f5ee97130e1c000), (8, 0x4a657293a64d9a7a68408000043b7aa4da93aa971a4aa8e3b3e200aa0264fbb38212995ca4e993669e9a102000010edea936a4eaa5c692aa38ecf8802a80993eece084a657293a64d9a7a68408000043b7aa4da93aa971a4aa8e3b3e200aa0264fbb38212995ca4e993669e9a1020000), (10, 0x7a915bf30b0d2c709e11d1024b394628e096678d9f76392ae3c987363e2588d0a940ae183c8971a3d38e4ed46b422b0634025429e62d8fba1c34f1d4a55db536919a538e91b92c2843a8499c1c345cc175611e9f3a5482764fd2355c7ca2f4c985a55851f2754d14bf065020d1428000), (11, 0x80f5b0c4a2008806904905a059b80a2dc811af17860f0441582ccf0e4005335541cf9562b0ebb1cb1d4174087173a218973eb953c4c390423cd609010b83825ef468773082b8662d6c212cc19f02ed2bb6cde00638b8a246e301022e187b278cc6074245624085cc8c2646135162c000), (13, 0x6b6486940866ace050c21c8b2900abb5ea97992a20a0372e033b38f999850ed2291a340001ad921a50219ab3814308722ca402aed7aa5e64a88280dcb80cece3e666143b48a468d00006b6486940866ace050c21c8b2900abb5ea97992a20a0372e033b38f999850ed2291a34000), (14, 0x7351649d991e7da814e643a94ced22a446112b48653080e693aa6b087a476a85b11c380001cd4592766479f6a053990ea533b48a911844ad2194c2039a4ea9ac21e91daa16c470e00007351649d991e7da814e643a94ced22a446112b48653080e693aa6b087a476a85b11c38000), (16, 0x2309d3868c91322e8d99d3a71f33704009c2704c0128a5b2c1698e194a70faa1e08cac7ef181124f01a9066890760c9f87325c7c13e652a738a859d6c5ca1a3108982029dc337c40ea76698ba04445a11742c8816e5e02304e161a34059340a99082563d7a36a1c3b8523c42a2040000), (20, 0x83523510e8fba225cd9f56fd62f065193f2c298b6183d99e7a91f1c52fc82746e429e02b8e093ab950f54d0e9538e80950a9518a20714847c9de9f66946346234b3964101af585158436908ac3e2440948382361694c1776d46b41cda11d5c905394c98d174a553b53c99c272850000), (22, 0x5871c1e2491aa41aa472164bd1ad14594af848c1a780b1685628830d56bcab64c810053ac9f9f4ac8bac2e5d2917e90e9140f93232a355940cd98a15afa0170672120525052d46599141c8869a6a7c91f709562772f95297c79797289d1350888f206038629024481e68394362c58000)]
theorem chk67n0 : chA 67 tab67n0 = true := by decide +kernel
def tab67n1 : List (Nat × Nat) := [(23, 0x3c8030d08898a244d5685289e02c5e5c1a77c7a12354a54af72f8516589d1ad709592f247c7216a7c6a91a69aa41c889246451c1e465961c14b5c85525151a8481f2506717ac805ca1c5af910e62842210cd8f2356518352a3461a4c8c0b240f88253a45a357e9140d4a44b2d2e5c000), (24, 0x72918170b003390ec11171a0969f190612204c208c78319c03a8d32168b00a07e454391230ab91c58932744c58362b58961701d30244472d2a284b75029fb2028da174c88ea0660de3782dc11384846025a906c144b03930c2828360b1c9f34ac898407cf216ac822d4a815413060000), (26, 0x80d012844c069d72483a8205d78f70b19255a49baf32bda306a2d59e746c9381f0151d6cbc61d361908340c58137af5e8660c10124300dbd1899b145498783242dd285695ab8684cc946e516b16479c175ed082c0e6dcb11a99113046e00f22a4c1a2e3d49e260d73d7ee1f2c3468000), (27, 0xe582942278c1e54b0aaa441d7287a6da07080812d3ca4cb25064804601dc3f6305bb25e9cd252e9d3294c68b9c347979c6e45882701183c20fd42a3244f1a045824168f1ea85c6d13c2a6551730948a50abc3ad6c4462c665211a74b5a8c0c647417edc6ac807059424ddf3f366c000), (28, 0x1d0942030c14874278e1c0000e2742954bc304d4231c04fa7107020166d4db15b005b51e958c22678aa341000027ac55bc0c8028e641cd135cc5cc0224c8b0720d71234c193c0ad4323561de9201050032a809a5620479e1639683364998e09084273e707425080c30521d09e3870000), (29, 0x56e988a84da00354a8e9d0000ea6546604084358b956240a64a754897a4539724b97111a6593a18a87396ab803d485cbc00828db25e0d30d765dfae3c34f367e55dac4cd97c036442392e0d22c0019a951c2861964246aa5cc89154eb1eb252e92a602755ba622a136800d52a3a74000), (30, 0x1645f15762c90a5a3481514159b246f8dad40347b326cd38b106971670b8e291afda8a42cdf8a126550472d923882aa099482dc8d54fc4aa7ee50906ae46843869c155cb44294ee09901e410363659185664453e20b96b624e5db87cb85b2849531e0ac9e961811e2a3ea4b3e3c78000), (31, 0x44a830e68a8ab550d4f9f0000fa45038a8e68643354464424387d81960a8e24107d12a0c39a2a2ad54353e7c0003e9140e2a39a190cd51191090e1f606582a389041f44a830e68a8ab550d4f9f0000fa45038a8e68643354464424387d81960a8e24107d12a0c39a2a2ad54353e7c000), (37, 0x41882664686892f09c263809d3d3f04a1081082a3668d49a72e56337c7500a1cf9509168c60946902055e055a92c7cb2456697c208f919f18e85a054e870540e5f265841c8a52a59a00a8200128ccf827418e417074b811ae9929207413d0278ea50ef41b3621451f5a284414a94000), (38, 0x209d534521190410247364ed4f1d84992350651f1c3ab918a62348ac76d4d1728bc50a16795bf66780ae02559a556105a514e4a1434b1d8e225d8b646e4e957c9c1af483a11d3c9938e1c3443a64fd4bf543c81c2ce4f891ad1295707171f083562f7a90e090a946343690c174c98000), (39, 0x139c16244ad767122782b401f6625e160ae828978b59ba00920964871da712585ba4e9c0004e7058912b5d9c489e0ad007d98978582ba0a25e2d66e8024825921c769c49616e93a7000139c16244ad767122782b401f6625e160ae828978b59ba00920964871da712585ba4e9c000), (40, 0x5c7a0bd5af17a26081e3d7605ea54f091ae688058d0a35cbc52a851512195995904ba266360226a9c182448d007247092740f11200705a9c80859b62e8560256a84bd14b9499721c2b616d9a2346553817a79dc278198235e8568782197252a6c3283694b152809f9c646524250a0000), (41, 0x20997813904386168e0015ae5f1d72292a5668c7056214fc1467c09e2f08b241ae81060815d0606415090a8040258cd61011042a354e81b374f423e04f46892c7cb8102951a43e098be1cf99a04a79cb97c9968a81085a00ef4e025f0881d64695a97074e9e1824a33149100a52a4000), (42, 0x2455eb24a995ba84d952a000151984355894a75e9124b869918a9aae485c20a5e0dd973c35f954cd8d912e0c0061c299095cc93ac52e809d622a0033a74ea681018b902994894e5d71164e873900f4bc036c930d7eb8f3676b17c008e522c6a546191aa89157ac92a656ea13654a8000)]
theorem chk67n1 : chA 67 tab67n1 = true := by decide +kernel
def tab67n2 : List (Nat × Nat) := [(44, 0x1214c10100c6205e6962c00016175ea46231100c3312f8a1706b1e3e6c71a860a3db9c80a60852e68d33163c00a24195232240ca71a80fc07e1998f3900e0366d1fbd3e0c6a332708b3548093d00e45b43440ba982fa01a6e9c2b46af5b27781419728b04853040403188179a58b0000), (45, 0x16967ad5b0f0b095906e3c19d0c14cb4208c820323c33e0699bb456cc2816cd1e8e5ab40005a59eb56c3c2c25641b8f067430532d08232080c8f0cf81a66ed15b30a05b347a396ad00016967ad5b0f0b095906e3c19d0c14cb4208c820323c33e0699bb456cc2816cd1e8e5ab4000), (46, 0x17155cb80005c5572e00017155cb80005c5572e00017155cb80005c5572e00017155cb80005c5572e00017155cb80005c5572e00017155cb80005c5572e00017155cb80005c5572e00017155cb80005c5572e00017155cb80005c5572e00017155cb80005c5572e00017155cb8000), (48, 0xe6d692705d78f6e51c926ae0128242cc296c509c04301f177a18d1a40c573d1874b8f1f0200f56786a632bc82c649591e205cc941a755a580d07832ed06265c1901234a5ebd7cb1083260db2f3068938046da8b72c5baf5ed1c2c5ac43a8684d13074a089a54994a536f5f8b60c0000), (52, 0x1a0f2208a88443d834502003c300833b3504d020c20c41001d43b603d1342aec8c168d0000683c8822a2110f60d140800f0c020cecd413408308310400750ed80f44d0abb2305a340001a0f2208a88443d834502003c300833b3504d020c20c41001d43b603d1342aec8c168d0000), (54, 0x3eedab40e78e992a19b360001b0d2af4eaa0e95a8f3e21b8d32d8e085ac0b043669cb050f443b0c19f8f5c6803214100aa24d10134a641254611e9a7495d1e7aa51bf04792aa40c090f026453f00457297ed033d1021406724cda92cfd69338ecc8d6ed8fbb6ad039e3a64a866cd8000), (55, 0x105603d26c87b2662d89782cdb0c32dde335b08fae3c3928808b060712cd53c4004088587d091067d30e4cd41a442c962402ed042541c49018f02174aecf353e556817840c8c6cde09062b19b81e44991801842e3aec28b2ef613538b83821cb1c81050458b28917bd75046bc6edc000), (57, 0xa8073e149200154258be28cc5a30640f82182438674191a43a78e4108140a570757810418b8156a48261ae8b1f64699292c90689207559a2f0813d5f09c26027823e3808ea5467dd3d0ef463a3f041b31680a10621553a810851f1c142a35a29039668c4417c9949a4a9561072e4000), (58, 0x1d092058b420629ac0150840782bd18166219bb470a09410f05016a0c1b92c0482d74e800074248162d0818a6b00542101e0af460598866ed1c2825043c1405a8306e4b0120b5d3a0001d092058b420629ac0150840782bd18166219bb470a09410f05016a0c1b92c0482d74e8000), (60, 0x62e0f8a4824917320840a74bc70b045148d6e08a210685d8926b593638e50964c49a975885f9740d4f316d053ba5a396b54e25b023c4900e7eb16226ab133142b4e0a643499676e81a22889bc152d812f1ce1d1410e4cc124b123a3ee588b821c4bc082d5b684c5c8e1e5839478f0000), (61, 0x27006265295b142ed152630a4783226890b80d1d2804a15a544c1ab81a75a137248c940ea1b94205d6b15e3d91e70b1c1764957b45a4882c6ebc39b32bdcb168c06a66a2d113567811b746e00f24e08a91f00c1a5474b8f6cbd49e1874983361973d420dfb840c5f2c604cd1a7af4000), (62, 0x1f052015c3e701483e7cf80007c1480570f9c0520f9f3e0001f052015c3e701483e7cf80007c1480570f9c0520f9f3e0001f052015c3e701483e7cf80007c1480570f9c0520f9f3e0001f052015c3e701483e7cf80007c1480570f9c0520f9f3e0001f052015c3e701483e7cf8000), (63, 0x3434daf4ae99820ec9eaf28ac8b6066081904c8f921048eba60cdf2a5c51110767428238485826231226744408908dc20c02e9d3248758b71704e310b05da644cd72f7c658103a244313ec411120a81ab2234a187a5039167052893650d362411abf30d9c2a4e9873768416187efc000), (64, 0x6ab993a24b94895626040000200356e94ba24559096a54b835f01f957eb97832f01aae64e892e52255898100000800d5ba52e89156425a952e0d7c07e55fae5e0cbc06ab993a24b94895626040000200356e94ba24559096a54b835f01f957eb97832f01aae64e892e52255898100000)]
theorem chk67n2 : chA 67 tab67n2 = true := by decide +kernel
def tab67n3 : List (Nat × Nat) := [(65, 0x24b4fb37a20d881d00c93429848279047a628b9a9670c91386cc0614269952f58558385a8573b4085f327c450225c216a2602d62e545099d18bdb13442dc116ab4a151e75e02130509d32c070336edebb3e40916682c24010cc8117e593866ec019576f58c07288e3348f46af8304000), (66, 0x6946100a5c1376efd5105084a1e0c891bb6cfd91c527199734d05081accc0f764dd3756703b7362d23032105ac7ae1e8b165ccbf484cdb80e315a77431db030d069014ecd0f66b14a7649db044620321289542254cdb8404302ac18cc19e4c04f425878b084ec1738223caa28508000)]
theorem chk67n3 : chA 67 tab67n3 = true := by decide +kernel
def tab79n0 : List (Nat × Nat) := [(2, 0x4f0db1f586d30b36f52447859c9f423d80f190e1425ec00af38325c28a6191b4a583b72ebe6c06ebe0347ef574d3e0a23d7ae48c22235e968848fcd5c09f92806dba09a3cba00e612b964d22b79634e43028179f843460c61010c072c1e39482cd924d116346cc138c06dc2c40408000), (4, 0x747c01e121e5089244ba48cc0ac802903398ed86453a0d38a42607392844a3e1c590b74f14ecc182a3990c580ab2a1e31f2eae4be951c4c800c5d304af18181f306cb7c111cc44d88955621bab784c8106ada69816fe5ba82f94889809e93765a13a1534f30632244d68fce0a0810000), (8, 0x48d80251f353844a8e7054c65182301433b2c0ca9a42d04b58c4873b7a8deac1c5233d126909b2ad4b4c0c50c4a47353369d292ac4f2c78200a92196724f129a6cd475a2181b320df423811c4a501a38f400dd12450020d78b06048906186765068d7e382993a08d8e6b018b51020000), (9, 0x8e14ac66225a851c2e44982ecbc728ed9b3541e721981941c40e901550ce6499cb95486670a142e2209490187446b298c62a263ca6c049072c55d3c70b9d8b10a514a5a99cce30ba6976f1c0c71674c953c4d0b89251a328c4c987070830b5f3a28d141983820ca19c0e34d261224000), (10, 0x2018cb14ab9c8c46a9b432e1cb315226509161a6ac40793c1692582c6ae5e2e6e1d11639055c61905ea13aaa44598287aa03210ac428c0871e966459028ea57ab860e5624e0e44e5bc87885a96608da064e390319a8c5c995194c62c78bc86c311a5730d2a132788498e597c31428000), (11, 0x4d15a44202c2c594f514b6ee202f2ee172e548d8b68e101210e243c604ba3cb626552c5c84b978081b9744125120a28844682d30a1eac9238b18f492a654bd9ae920a6054ea412661c764bd62f18681c68c19408025ce3574189a310c15bd4690d1f6a119884ed4fa15a7d095162c000), (12, 0x72c019802be23d4ae4d92586e298223658d6cc12440edcfcd5e7c2c4423dbaf806d84005361425d34ba078e53c33831eb964d13444c2d91b7a58e434e31e162ebd7028434102603e0346e810c00a2d7b03e08398482db1f97088c28add63436f529688480a006ddc9f9b01f921830000), (13, 0xc5002a320d1407e3844776ed04c5b1d3842a6a33d4cd8f1271286043638dc1192dc053cf53198c48ab54f2d688400dd941021fc1443cccc009433b7ab0c4a4865f420834299626a1c98f00d084a8d0b4126a74a9a6d4068905ac03b35e23392d986460873b2d30782606dd121a34000), (14, 0x381ddc10c38607322dac59890fc090906b54ca9909442821a9a766b208d514565193251a6a42b3e3e62b6a28cc419203417638e4872802aa60c9eb3591900b544d3c826f17af811a08105017405ad10b24a724ce14acd1b787122a94c0b0b6cbd59f8e28a4e106df1a527c93c1c38000), (16, 0x204000020fe3300c5958868fc5909420ecc4730f30531dd1f1c587cc7659db91e0c73974c14883c7d1833a0e54716fda10571c3398c7c810000083f8cc03165621a3f16425083b311cc3cc14c7747c7161f31d9676e47831ce5d305220f1f460ce83951c5bf68415c70ce631f2040000), (17, 0x246213e9644998125e70678c973c7ac9a053cfe207712484a409d0282015c068920f106929e9d5c4de1d9d244b826de5be84449371d2dd3f2ca24167f20a977ca55371a98304372124d3ef013c0f1cca814e53024a7628898e633f03058977610b8e312428206205ca6e382262244000), (19, 0x802493c544d9095c3c41b7ace4244acd59f7281ac534d25300d0430e947cd1b6a29caf56c129c90ade9c10d1740651953c244e0469ac97a01c393c8442810f7c696461ad509d8e282aa98905242c2dd8e181d2257870cc4381db209338f8f6074a015ad132541114b08204235264c000), (20, 0x10a64bb8250d29541c1c22ce9cce32e9aca207541c8a363856f1db888f2a2c250cc8326a14c957204b150635548349a0bb9250426762da1d2e204c666cc987744d6a63cf074486ce6065f39b4e9a5c0882a245494055838622459d30849070d1272e0e3644942e110570ba33c2850000), (21, 0x3f258ba12541497a2e022186c69f386d827692c54e64b50a85ef1793429d9221405a0460a0e341ac063480b5ec404184ba6254f86921c5cb724d98e900528b32357064108a489805d167c7c21f36b1b1351063394ed1fa3870484b065de0b83222b858b4f39888e6a80ee0b422a54000)]
theorem chk79n0 : chA 79 tab79n0 = true := by decide +kernel
def tab79n1 : List (Nat × Nat) := [(23, 0x9ae80b86e5d0ba548c4308a24ea4062428a4e68121347d34564bd9204c28d3004b93b50b141c63aae2c6107d52c4255bb8025e69552f4e1a80805c45cb89a33c198158d265123eba38446907a4871d620682dacb0f19988202c61a12d892356498995a7d14b50212452a65d492e5c000), (24, 0x2a2dc379c6048b8ac8d218f0c7c6450e4bc908184b5aba0931b3068382f16a1601242f924d10c1e2638c34ba29d13127377060ac458ea620080cbca9a101b288198c4372601542109963b191c63e91f0302155396a3172b6e145207a383b26455e4110b893904aca134b05fc93060000), (26, 0x68708c50c21cb76611b183d025c59cedc3b2071fb4842921116ce2347aa07087501e274c44c140a45dc750116b5106a1848c3cdb4366e340872c4355a6944b76202be30ed33e78a1d0f1d1dea7886c59c48fa1457e6c83370527149628f0f6cdd9cb72603472229a334a9d7983468000), (27, 0x5e621844a9c41a68cd6b522294040d1ddc77260291672cc146cdd3113c3de279629d409c507087051ea820ce2347e6c5b3851521148fa10a1671fb4886c81c7a9dc3b1d1e73b743e5c578a0f404cf9b1830ed9840af9cb77620308512c8c55a69a1c10d52a8872d7b78d00d35366c000), (28, 0x8c300027684b944cb4d0b3d0c32e102d7c53610aa96af04a658a9cc50ab42a2722962512a5a932a98dcb5e284440c84f0c35113222eeddae0136343067a02a8e4c6334e711137e11eb46e516c40ec6590881192a22fde1b488809428162b16c2929b8329d431cba4ca84fd8a63870000), (29, 0x3a740003ac92bd34ad7c246c879d730818a8a29ebd6c35e1210ac38a5aad6a40f1442478f5b427a4a2c50715c8d1ec919d5e34d244a48e9d0000eb24af4d2b5f091b21e75cc2062a28a7af5b0d784842b0e296ab5a903c51091e3d6d09e928b141c572347b2467578d34912923a74000), (30, 0xf318abe58832ae62622211424d2e14710f4412842130444348c798a4ca4971e2a03c780003cc62af9620cab9898888450934b851c43d104a1084c1110d231e62932925c78a80f1e0000f318abe58832ae62622211424d2e14710f4412842130444348c798a4ca4971e2a03c78000), (31, 0x42800140a75a9578fc59960bd33268657a953048a771365a82c3dca94afd2907298b40969dc0222a148e5e99a364c7582016d9e106ae82b200ed0af468500f9c081305c7cc0257062ab44548363ab8a2a9504c8f92943a47a4239562dc7ae6c981a42a626af48c849882961283e7c000), (33, 0x673961f1ae1aab74463a44aee01f6cf5cbd513870764c22b48605d8713302387aed8830ed179206d1f173c4582e9a8631178503070d21e3b8cfa6ae6084f3e7ce019b5ef439b6331e94085c48377221ce8a6d91f1d214017249b1280c12948eadd3e6a9069758c19812a0d1244284000), (34, 0x64c40036e594c489166ce5878bb96139eb76641238763d31772a92b77f15f8a4a61ca54ce1dc0485d9bf7a618012e596319a0620a522dbb9013191e16bd7aa0d023ad6a8874050406b395110816880c128641b2a70f5f1c36295c48a18820786021c0f2601e02e41c99cf42974488000), (38, 0x13291a8e20f0aa5226363c0387c8dfc008b02237e3df2c005cdc048a42a689006ac4c980004ca46a3883c2a94898d8f00e1f237f0022c088df8f7cb001737012290a9a2401ab132600013291a8e20f0aa5226363c0387c8dfc008b02237e3df2c005cdc048a42a689006ac4c98000), (39, 0x6444628389d6111c0c5b40abe1134cbd9ac42a494b206d42332c0c9f50b083424110a6668d32084f02a0166c74c58f8e28189d93e92c9829407ce922611d83043a03e3f04a1d5411f8b224e5930278b1f1ef4dc44881bb146f66a978d4303827529a686e2442ec61a37a697414e9c000), (41, 0x9d020968c8a28485341cb3a56496803590d3100d8128e4faf703df8132c9d224654b1d04bd6425cbcf2d973652656a48cd1eea201893879522095a694a65823c8972058341202cc91ba74b4c9d7f39c403e80a163738c0f650a04292e4eba06121028b2e32d82e670f40743cb52a4000), (42, 0x609002332611b4451949c9aad03756725977c143108689dbf8ca48978f1a38922e232676421ad0cfdf4a96e15b340626a452cd109466ccb700b182b8a3cf2966b492526a942d1a1451f1ed25330700dbe0815d297e464306a24eb464843c084e263058b90ab2cde02e884473f54a8000)]
theorem chk79n1 : chA 79 tab79n1 = true := by decide +kernel
def tab79n2 : List (Nat × Nat) := [(46, 0x6a101213eb910402e14bd49163060b159880e2539a94494479aea695502253d4ed43c6671c28a8d2520a5248097452cfa104b9acb21101896054ab638d5bb85a7e3cb34c1a0b18d4ea43c19d0680bd09562651ab4c296201266289268cbb8162d52c56487ab64821c724b04305cb8000), (47, 0x9891ca06cbc5246b14e482c2cd34322dd8e94c1e33181c34148a92250c38648787251f7704cc4346cb44381da8a14adb2072be62b93395b00a94f8f4a723c5607642b42c8a017a7069a5ad043458253255d01f35411194605014b054f114582049134e1c2358118741264e6b25ebc000), (49, 0x189e3f154ba2a784b156e801f05165155c2974594e810a00c15951278ab15254f8a62c40006278fc552e8a9e12c55ba007c145945570a5d1653a0428030565449e2ac54953e298b1000189e3f154ba2a784b156e801f05165155c2974594e810a00c15951278ab15254f8a62c4000), (50, 0x42297ba1c494a196695ae7435b3a90266099a2a4a2725463f61160a21101d928c34d0f4efc54638fc33d226961d80ca11a3d08a2228b4f0d84d601d58c88b50c48e101425390350234276f440f82b580a1841cba92b66c5991a4466c55d4256865b552b873d5e550c55a3e52e64c8000), (51, 0x141941c86ce40692edd8b4414f136a1583840e881d1d1109710a442642e070b20c9015605daca3cf114a7712494912619c50cc5496318cba5a99c2168ca0bb0e366498b08a8916c9cce744e3132f1cd269cb97818f2808830b8b3a261ca3b12255480d11b016e2269725201c266cc000), (52, 0x429881b16d18263e38b30786a1ac7a683031ef4a1d407c74c241094b1c0d03028c87920d31eb5868de352c7cfc160a459b20d10a95844ebd552cd8b82c970e2ec66a9027a03e92c82a050b19ac389c9cb7f1122f4ad53a889111bd964c10e64fa13c327d32f18a1dcc22f1b9e68d0000), (53, 0x711a39a44d4c4672a00cd66c08b450c0f082c3068f2e0a3474e653b68c20bcd1b00b433d1d41f226d99f0209ca7302511a8ed5c095d0900c18da04a7d01b28145e70998e0f8d090134896d21345724e365814287867e5066414c8c2b157a8043448a6e092075219d47622a4386ad4000), (54, 0x1b196cd80006c65b360001b196cd80006c65b360001b196cd80006c65b360001b196cd80006c65b360001b196cd80006c65b360001b196cd80006c65b360001b196cd80006c65b360001b196cd80006c65b360001b196cd80006c65b360001b196cd80006c65b360001b196cd8000), (56, 0x6c725164cdd134051da9b542d59620d5a355e70e3a52e630e72cd3ba0735237242e2823c3859a74382983f1cc179ce1747271063a185498b5c2271730e0f880addd4116d4f418b3494448601824e55c9c8d0549638557b3686881a56e55446ad0108446d31894e5b330e0a39b70e0000), (57, 0x9a200191e898c22e70cb8431d1ad40e0e2e96f621406a1fbb10793ae6e71bb34e844317e501a788ee59238850174689088325cbb362347ad00da6c75c04d1e0e9d7966ce62a722f431d2b08b1705395a584f569e94a9db202cc4c214f0fce1884732904d8473ab661352a8dbb72e4000), (59, 0x76ec000765238f9a6d3361c5033b48d8e4b192da8f0a65140606d3cb426d0b44e11834443c2b66b0060438112190c5073b4c666b48f01dbb0001d948e3e69b4cd87140ced236392c64b6a3c299450181b4f2d09b42d138460d110f0ad9ac01810e0448643141ced3199ad23c076ec000), (60, 0x52200314e29183621e5ba951c64522e9a109a60bab0ce5ba4092c8102a1cac820fc2046eac3162e926b768fc895182a50896558c847313c500794c715346cb1c592937af1d966060a111e0e1159809d304261f4b3c7e0be1320e83446640216fe4be8ed95c73915ab68c7c0a478f0000), (61, 0x7af40007a49b0d3aca2c578492bd071442b34adc8d0e297c21ec96ab46c919d5a9079d5e343c57308d24109018a4a49e3d8a28e9d6d09ebd0001e926c34eb28b15e124af41c510acd2b723438a5f087b25aad1b246756a41e7578d0f15cc23490424062929278f628a3a75b427af4000), (63, 0x7a295ac4620b9212140bd26d94ac0c31d8c4a2a126948d3af79165a6104ce8854d8d3c38bc74318bc7c72a14d9088fd88524648a622a4936632a21036fcaca1e206201c30e20344d5193b1c43c96a5e0a4e8252c84a52c5770c343528c99902484ca2ef51c7568dec55af1bbd7efc000)]
theorem chk79n2 : chA 79 tab79n2 = true := by decide +kernel
def tab79n3 : List (Nat × Nat) := [(64, 0x200f06d9b219c6a1b85e8519854c5cae6ee9b95728551e46dd7ae865e7356cb81998100000803c1b66c8671a86e17a1466153172b9bba6e55ca154791b75eba1979cd5b2e0666040000200f06d9b219c6a1b85e8519854c5cae6ee9b95728551e46dd7ae865e7356cb81998100000), (66, 0x4c2cd920e6174d190c1025e7e212646d61b482cba07ef580f0b100a07a5a2986c7de399a3e034423c1b7390c88d97093c372c1ba06ebdc9f4e3258d2308e0c06610c0806e6c07859b308addeb902bc28b6101f922ebd24458d193488f57b0053460c5c083b736f53444ae4f828508000), (67, 0x218c41062405330ab33701cb64ef1f8f92824af7f013937264d8f2a71483883d00e870c000863104189014cc2accdc072d93bc7e3e4a092bdfc04e4dc99363ca9c520e20f403a1c3000218c41062405330ab33701cb64ef1f8f92824af7f013937264d8f2a71483883d00e870c000), (68, 0xd30d8b7f11dcc64442af206c904166e4b20438893488209d7a69eb582c922f22f014192745b4252c8340a8193e760df8b3710303868d70e4ad5b9e96f2011609870342a542c84f062726115041ef5e352ec53a868d119202c4f8e40c161166b0c9f4c80e283a48a1d2c7e6a98910000), (69, 0x8b140008a284245e351b20e281c53ac9ebd78f4d241e756ab72352bd6c35b424a49cc25a907b234ade127a48e9d06283c546757c210ae2c5000228a109178d46c838a0714eb27af5e3d349079d5aadc8d4af5b0d6d0929273096a41ec8d2b7849e923a7418a0f1519d5f0842b8b14000), (70, 0x23097c513b9642cb8a18e673f2b04e163690dab38e4a8e9c406162f159444e59f3b8d180008c25f144ee590b2e286399cfcac13858da436ace392a3a7101858bc565113967cee34600023097c513b9642cb8a18e673f2b04e163690dab38e4a8e9c406162f159444e59f3b8d18000), (71, 0x3098018187c3a264f1d149ca4e303c5154c08f571e2238fb182d49cc58f1613260e09a3e788c15cc4212540cf3b387e72674ed9130eb463000dcc29210a4b58505a88451e5c17cf57a3068a33b1635dc61af4a350c25b2c804e2a23b39a0d240dcac4605c294ec07811c241318f1c000), (72, 0x2407826d14116203176b04dcc7a3638e804203f8f05ec2360da8e0ce05c7443a0b49120000901e09b45045880c5dac13731e8d8e3a01080fe3c17b08d836a38338171d10e82d24480002407826d14116203176b04dcc7a3638e804203f8f05ec2360da8e0ce05c7443a0b49120000), (76, 0x26035cd4f341b14e258cd12a22499d1b22c889d74d09294ab631b38a868a3c6d71a9930000980d7353cd06c538963344a88926746c8b22275d3424a52ad8c6ce2a1a28f1b5c6a64c00026035cd4f341b14e258cd12a22499d1b22c889d74d09294ab631b38a868a3c6d71a9930000), (78, 0x27013005c4e7004c4e9d380009c04c017139c01313a74e00027013005c4e7004c4e9d380009c04c017139c01313a74e00027013005c4e7004c4e9d380009c04c017139c01313a74e00027013005c4e7004c4e9d380009c04c017139c01313a74e00027013005c4e7004c4e9d38000)]
theorem chk79n3 : chA 79 tab79n3 = true := by decide +kernel
def tab103n0 : List (Nat × Nat) := [(2, 0x82884e5b8081a26ecd7bc702b2d35c282439aa529eccac9241b086a5250f33c4b266be089175dca51c5d5eadbb40716e65120a0c563614290e94b836d26eb3942d1c53172d8f1926216174ef5332ea9a569913510375ead3992ca9a8ddd33843dab072af25122b68a48ac02dc0408000), (3, 0x14fe73d05646e324e02823009a3cc472984906324d3b2e85138f0ac908e25d1965822f2a78e2ba058e9cc86a44fa78f14b68acc650b9492f1a1010e9ca8528b96624d4e7a56556787985afec8f48b26d8acf4818a2bcbab4d3553d76ed1e4820c43b60fc384665a7cb1365458060c000), (4, 0x88d5f8b508d33564a993d4cc94447f72232817e4dbae9cab802e6c40b92dd93c8c980506b0fc038e8204000026338b4fa706ed862c8d5dd4b872c2702b8aafaf0248c80222357e2d4234cd592a64f53325111fdc88ca05f936eba72ae00b9b102e4b764f23260141ac3f00e3a0810000), (6, 0x21069c3c2107c1cb7328b1e9b0e3a690826b0417e296a9bb9b9219bd77161609098723c59683d8ab430600003618aea82ac408744910610776899aab87dbae96f5785b15c841a70f0841f072dcca2c7a6c38e9a4209ac105f8a5aa6ee6e4866f5dc585824261c8f165a0f62ad0c18000), (7, 0xd8af4ebe2dc045f4273834261dc862cd5e9cbd797718efdcbc6430538d45995c125a68e06db0a3019c17e25a350154d857340227534a214b915015939ab388c14bb554e18b7048991e51511494d4e137cd432991c25f66c94e6931b82987b24c4a2249c08459728413c549c90e1c000), (8, 0x417925f7620f5e6f1dcda54ae8b5acaf2c6350a6e65e36f2170b5c3abd197da9a04d25ca86b3ca2c953c7235ba03c25ddf4821009b051fc25cea01e5006ec77a194892384fd3b204a2924d42352a680baa52703e9cf15cd79247426415d47af4d162cc36d3e4f345a12788ce11020000), (11, 0x66f524574ba83d127c4c8a0a9d3948899aa621f3622104f9035107a69e083a496a90e3a8ea4268d8458b00005dc8c1a441a8b508496f43c39f947c1348cfd7209b30563819bd4915d2ea0f449f132282a74e522266a9887cd888413e40d441e9a7820e925aa438ea3a909a361162c000), (13, 0x1e6dfab494ac3944381c6b6fdd95774ada80685159b0b92157ef07cc2b14d3caee5e815a9a5d8180cce684fd3c500d884c6439b64816cf2fac71e0c15051c691315c5831a80f9d2e48b5ca5f5c52e198f263873c62fd84140e00bea76838d70f954b4b90fb910548e6a4323dc1a34000), (15, 0x81526298e56882969588db636fb82cec965567cbaec6b196686e3263669516644059c2c8121af64071bb2ee55c82408b2cbebedda636a5c2a3963d298fa0139254e2e881215a4c1139fa550a0360f7064c2a4a9fa10962f68b90a914aa458203d6aa79502652606aac7c56d641e3c000), (16, 0x92926cc6660faba55aa2a6aa99316f9abbc437ee3bba06b2626c45da8159526550601116349b6ad06ee6b8b1088aeadb8164d9abda8f69113ef19cf9a6e4c3a0604bbbc362bdca370df8e93113631e7d4513265f784513604eeccc84807d79042da07c92c3c9d05d019660ed42040000), (17, 0x4544cd67a449d1c640aa606ddd9b82dd8c893767a34f0611fb83ee5885213a69f1248a627e0b077301b02b071d72659ed63245116194df5d0560f053b12a900aa591694f9294c511617486c41bbb6c4d8418a1d046c1d0c538a3ddc398b106c510815706fd06e32d9f9804c3e2244000), (18, 0x9630255a24a80c66319dba16e8d5084a5db2448000255658c0956892a03198c676e85ba354212976c91200009559630255a24a80c66319dba16e8d5084a5db2448000255658c0956892a03198c676e85ba354212976c91200009559630255a24a80c66319dba16e8d5084a5db2448000), (21, 0x4e552927b39badb73db128460899233a14f6d56d986ee9e994b553d25654655bab412f74b4c9912e2e386260a950000ad2633ee2f12bccce74e8138bae861257493954a49ece6eb6dcf6c4a11822648ce853db55b661bba7a652d54f495951956ead04bdd2d32644b8b8e18982a54000), (22, 0x707e3d8b8317b6bc16139229815b04308c184baf625ec6e5b8e3dc484289f0f72d9508861a528489675f7a9a62200a57481615dc2a280bb8830c947bf858b903230a2b6e4c3f46924646e7080338bc2bfca1648f329966168beecbab47196752c1a4110b336136eb5f091c7832c58000)]
theorem chk103n0 : chA 103 tab103n0 = true := by decide +kernel
def tab103n1 : List (Nat × Nat) := [(25, 0x2265bba19544b82b49d3a4e55b126d553d274b4a9512bc6126eb48ce7a66eadb8e18cf04e12928462d985654c990000cce574adcf853d2d504bd898b8beeba7b388996ee865512e0ad274e93956c49b554f49d2d2a544af1849bad2339e99bab6e38633c1384a4a118b6615953264000), (27, 0x425194674d67a71d7ef0eca3ab520614ec0a6d843c838978a9d493c4357f30acd74d084e8e7155f7608510ae9b13a9c1e2ac572d9bd647089f01d3264850d3bad5dbc568c5d92a8c6b6c252fe6793960145183b67e2151548f09c6806434c8c6e919985314073751e26ed6181366c000), (28, 0x13365166b10eb51ecd91b721ea23a911ce065307b43ac9aa3954449a3690c519ed675e5631f061caab095e1c324015ee1a20cdfbd537ed6389150082b6d11b046a324266e4e1c88a9217b6204628123e190cc2d1cc1d3dbc01088f692cb9c323d32234f71358a8d5093c21e463870000), (30, 0xb4d4316ac397985ac6807961dc4ba28b34f8a0709309148305d2eea314c47b01edc536bb1171c20dc222c3522e6cc628c570725e0a1816b65f3eb590d46d3254390936f119e07511a81c0d5dc67e152218c5aa0160d809c984cd9635894c9407876228d5ccf90dc9459c384213c78000), (32, 0x363932ec76030e456d10c0d6718f4ce4dd93105b437ebcfe51b407389084e988d65e237b50d389b2902000010479a74d2f7a4de448c38ecf911872f1a5cf827ee1b243098d8e4cbb1d80c3915b4430359c63d3393764c416d0dfaf3f946d01ce24213a62359788ded434e26ca4080000), (34, 0xbeb5945268962d4eba81353009343d017df34ca63f9751c8847111a3737e59398a0d355e20f2724cd4a7a1513b958e89c5648afba1e31fb2068f230c2a0aae23221ba327e45b42a1ae508d28b4036a0a34cde282409dc0d88dc732aa055ae216f1e66752a025c373082d99e9f4488000), (35, 0x4cdc1c4828f237036b0bfa2d0ab908d089f6b961ad42a0cc8916e40c327d0bf86e9a8223202332aba8b3c2a008dc8c20c4068d3307eca2e51e31040bee9c5a648a230271473558eaae64ee55b9a15080c529f18124cd9933c9ea655e2175a34d735f98a0b01964dec8737d145468c000), (36, 0x1091ac16e3a2061cd22c134ceed9ba38d348a987338985bd96a984437692a26c8198294c19d5914f96be7ecd22400012437ed16a914a5d0e4d8583ec986a41770c4246b05b8e88187348b04d33bb66e8e34d22a61cce2616f65aa6110dda4a89b20660a5306756453e5af9fb34890000), (37, 0x372c6426c9434b2e37313b560410c1631c486badc97352aa3133c498ab11c93b67a1b9c68f00f115ed0fcd50bda0c71b421894d9c0942faeb8607d28479a0d611631c148a8976278d04764121074441182055fe3283dbd6905562e88d0e0d245d3335f50763bb58b23c8cd6a24a94000), (38, 0x10ce0ae7485db3c53b11976d1d4682e4434844e804b368259beda68d5eca72448d308f030940da72d3260001341a67145a02970d848ce7435ed66dabec420eb236863855043382b9d2176cf14ec465db4751a0b910d2113a012cda0966fb69a357b29c91234c23c0c250369cb4c98000), (39, 0x217cac0569c7df75560470e3eb63a63c260c568dbc7880907af92b832581e4736af10d081e9d8ac103d88081d121e215c02a9c808846e7da3e0e1d30cadbd5313a4080a658cc8cac51a558e763893ec03585184d1b63218be50eda64beed5b731138a4816cd4c6288726e25194e9c000), (40, 0x5792e3340d8ae4cd2b31d2a0d031b8d1583104a760843008f8a918db9081b3c4e0c9c0986eddb24b1428000143f24eed8c99309a74f91b2b911d88c8b0c0d8856e70711555e4b8cd0362b9334acc74a8340c6e34560c4129d8210c023e2a4636e4206cf1383270261bb76c92c50a0000), (41, 0x6b3c3523b762cf5b116a38a60e8a0c55a98cc2e0b86f807bc118dd07420eacda861e357b4ee8725594a900014be2446ee07a51e32a93ea9a4391d6010107ab6e1e0afcd71acf0d48edd8b3d6c45a8e2983a283156a6330b82e1be01ef0463741d083ab36a1878d5ed3ba1c95652a4000), (42, 0x14fc84f9e7043bb23c92f08bda3c5725dac060d34d4e7a9e338f01599a3c3e30e126d80438e2ba6113c94c681e476ed59e68ac23824e2cd810b27cb20605283a7324db83a8b8123a0835afc2e59658c021f3d1835160bab893644fa14673daca99d160fd22c1a10a9ec47250254a8000)]
theorem chk103n1 : chA 103 tab103n1 = true := by decide +kernel
def tab103n2 : List (Nat × Nat) := [(43, 0xbf38cc978f52016abec32392a02a80f4e1db0d5ab84999e2a327af9930d1e9e7604791747cf0b24ea456692a534000a199a8be8ad50323178f66cdbbb20fb258642b4aec905c7c383b098806b737414dc8abc89e2f29bc80d410c72af13abc31e48e08b4401a4a88569b6e9b756ac000), (45, 0x2519d05539192e2c7e15c0f48f033d90395842cb4864e548375889213931be226ba6b65f1e79e3f614311b49a4c00ae8a1c67ec0f952b05fa40829dcc818dc0884bccb77314979947189cd0d4fb420ec9aa7eee2a749ca0282153314e982dacce065ae3d12e400ecb13075fcf5ab4000), (46, 0x88d51ac797d3355b896854cc9e0846ee2321d71f0cae9d213b312c4068b44cbc8c93afa38cfc044f572e000173944a8fa7a2113b8c8d449c68eac27b28d254af01f5b1c2e23546b1e5f4cd56e25a1533278211bb88c875c7c32ba7484ecc4b101a2d132f2324ebe8e33f0113d5cb8000), (47, 0x9721cb8ccbd9c82ac0e851f14f18211584a2f0df29c58851d78e5e2e152b1057cf8ba460748223d3c7a23b88ab7667f33872be59f086ce4380bad2a8ef95b0221281f338e8cc92f9610526101804a292ec0f61d790884bf28f5a43a6253b025303de9f8afd7b8fd69d1b79ee35ebc000), (48, 0x25485375ac02523f10fa308556b714c0915ca9003a2922bc4bd0f01fb110f3ba25502c170ed1f52b1830000183752eed48169103ba348f2cb08f048bc92ba3287c02dcb0c95214dd6b00948fc43e8c2155adc53024572a400e8a48af12f43c07ec443cee89540b05c3b47d4ac60c0000), (50, 0xf989b544c86e6c184a98430e438c30c7297cb9b8a4f3dfbe3110c237ea53986f75f391cfb0a490bd0a42b3f0061a0513526c8381a5023ae0a8e6e57574a61b63a9816366027bb75a1120e07b8a992523b208bd69892283500a4ae4682d61789e0c7573ce566a0cd3e071e15964c8000), (54, 0xb09d2b118d8fa7a882a473f006314adac403af803f88c9aa09ea53358a8164daf02f9ac4a72358669b360001b318737232c4fafcdae9d61a8b1d3329ef9ac788d40283aa6c274ac46363e9ea20a91cfc018c52b6b100ebe00fe2326a827a94cd62a05936bc0be6b129c8d619a6cd8000), (56, 0x9aed72f02e143b1d3213a9d243a75525ed09f1504662b48970cfc32823418ba40867a27a5d51e0f0271e84b471b50b00af5ce26ac6868ec536a11963c85fcc4f86cac2a18bcd528530b1a9e9a796da328074725cac7a83183471451554d4c3935812b6b625c66c4c975a4958670e0000), (57, 0x1ea4cb3444a2425d3695a81685e0ae2532586929d33f782c0cb8288b7134c40309dc1aa3732870a9cf89a6521c34d0abde161e00da43571a889515532d07be26483d32571e0d097162420a52c8b515b1f22cefa4026af071b4deb3c0897aecce4a2290a7225949ec5e644861f72e4000), (58, 0xbae98cf12e15956d56dcf184ae2fb8e0655b661b1257484af6262ead6eea1184e54cce2a5412f7a648994a49d3a0001d2d4b548ce7b381382b48c994f4a14f6eb6eba633c4b85655b55b73c612b8bee381956d986c495d212bd898bab5bba84613953338a9504bde99226529274e8000), (59, 0x68f2596319559e54f4183460d6a824e0ac9a78e24da2be7cb60a268f9cf4ecb3a7272a9b6183f9e728b8886a9842a7892f5afd1e4079152a5724c029745a2b959534d51620e4b3606e338f244fb96481866583e3aca853fc936816043922c10ec48e2ef13c9c47022f0b9479876ec000), (61, 0xab58493b226c2d8e9721d8874f4d5a5cfba9434d4e61409c141366489295941649a4c2987d01a2699817346655a3eb56d03c6a24ac92a3c2b0eacde1352a919a25fcec27d34a427cc0d2d5845bbc19d8c044c28d7d0949a1d3ae131784caa22f72e1c75abba4498550502520c7af4000), (62, 0x58424a98efa190cce091b6075e841476e3f1f15a430930128a12281f04fc21b68907a2b8a054a7b8d84a253332f875e3a992f9657b4aa445667c3892e917b8c58afd73a14a3d38910183210884a4e659fa778f4f5b29e2e1b788454ec1cb8c0f55b7a3314cf80b84a82ade7857cf8000), (63, 0x478d3d64441a412261cd3a71595764429a272508cf68991574e451846f60a91390415d71650bbb2d2e0a0f15d58008c184326143320b6ab2b0f47ba02397d38212ed8cd4f0acaea99c0c06a827c6d662c7a615911b1570e2cd4a4d1ca0d3fb534faa9accbc1275c48a90ea5a77efc000)]
theorem chk103n2 : chA 103 tab103n2 = true := by decide +kernel
def tab103n3 : List (Nat × Nat) := [(64, 0x429292779026242b3c3e6b41a283c0189b5471d4021a0513292e64ae44d46e651951a026cb0618b92d610e04a98990de27a5010c32e460c78eba438b3955cf0a8f0c39510e569b94729a80da837575f2e1ebcd3e2985b8a20bc1c7b6393cf695a159a605fbeba299326364c448100000), (65, 0x3ae41a647067b9c4e712e9eb91a60704eae83040008298eb906991c19ee7139c4ba7ae46981c13aba0c100020a63ae41a647067b9c4e712e9eb91a60704eae83040008298eb906991c19ee7139c4ba7ae46981c13aba0c100020a63ae41a647067b9c4e712e9eb91a60704eae8304000), (66, 0xe32004827c402c2289adc8451c8467f25626eb0dd11960c8818c3db6b8296348099a01354cc00c7684788462e000669db9828dcaacc00cc3149537044992d1b6ea6044b5ea70a54a49c6e301e5c6c8a74229e634c46e12706eaaf6296dc22cbe5158d29d8207225c79cded1e8508000), (67, 0x1ef97b9a372527a5692c86d2058765542c07acc394264b045ca1ec5e816ad45b48a00db0272e0c0889d50f4deb40a9d9121781b1f4a7e90d950288b5eb87a925706943e2461fae248b320f971ac909c4dcce4cb37836f60a651cb94c96fa4590e22590f8c40288911209700cd870c000), (68, 0x17332234d12f4c7249cd5bc6d323c91059ba86800478157928b36962cc49f41ca6e4a66b360628e9a24400022238f060056a6a4c1cb31f26cd569058a697d57988063a9345ccc88d344bd31c927356f1b4c8f244166ea1a0011e055e4a2cda58b3127d0729b9299acd818a3a68910000), (69, 0xb370409a5647a440f1a202e82e446c62443a6498824b3ca57051209b3cf3057c040f2b8330123284129863969d59091b4fb88cbc7691d02b1f0e90e117ac8b8166d820730e474730692517329ecd585c9762439252ac4a384092095e46a226b15c919b70843b44064f7966f498b14000), (70, 0x23218d180008c8634600023218d180008c8634600023218d180008c8634600023218d180008c8634600023218d180008c8634600023218d180008c8634600023218d180008c8634600023218d180008c8634600023218d180008c8634600023218d180008c8634600023218d18000), (72, 0x48fe1cfaa805358cea15eca40b472c832d7842632d14caac786612286b756185ad71610319163578278616422dd0069da80ce93870e8d016a3606c45c858de10a2a5db779904083ec2c0434fbb3d4498436eaf98bc41c2153444da207c7c8b96890f2a1d835c71ce86a712bbb9120000), (74, 0xb28921a748e9e64b822144e46951b4912e09199393b26995251829d312a8c69e7ab33c4783959cd153426e654a000251d26b95339ccc3d2c526b349f268a130742ca24869d23a7992e08851391a546d244b824664e4ec9a6549460a74c4aa31a79eaccf11e0e5673454d09b99528000), (76, 0x2b904558b0d3e424ec92c4e0e2a41048a8340da70762309a750feddb6cf008f560f31db8ce15b911e64c000261b908210cb8d334a57900d86caed8c50a09c0636e76040c4ae411562c34f9093b24b13838a904122a0d0369c1d88c269d43fb76db3c023d583cc76e33856e4479930000), (77, 0x1afec9a51369bf8096a4bbcf59cc16f64ce26b120b6a723994c813478f39acb49709bb92645aa666ef2aa872042a6a141ab3346a82c9192c891eb1311729252e7c3a86922ac3777245da1325cc7b672479d5080acaa888e555112cb855e25c70c4d28a7078a3239f190548e489b34000), (79, 0x34e2044b329fb888e622e7ebec9d808cd2f64312a40c394a01e86359ab603971cbc8d4b194dd90a9a7cf00027980b04d8eb0088931ce03d0aa3e30e1f194c70d652c3656cd388112cca7ee223988b9fafb27602334bd90c4a9030e52807a18d66ad80e5c72f2352c6537642a69f3c000), (82, 0x76771c6588850e8d08ba938a5cd804d5859a139d1012c8989cd608c437099096578da5228f30f27784b5755e8196038132723ce3e2efa3251565645c685dca868ae907a8da3e328d9ce10754c8182901f2d1a5ce0c9578f6e42ac66d7601579492dd48756d9457ae32be88f1fa548000), (83, 0x29941a503d30e506d3a74c000a6506940f4c3941b4e9d300029941a503d30e506d3a74c000a6506940f4c3941b4e9d300029941a503d30e506d3a74c000a6506940f4c3941b4e9d300029941a503d30e506d3a74c000a6506940f4c3941b4e9d300029941a503d30e506d3a74c000)]
theorem chk103n3 : chA 103 tab103n3 = true := by decide +kernel
def tab103n4 : List (Nat × Nat) := [(86, 0x344900d4b4936211801c0c02c615194b05c069c4074c152954168d556eb14da898b125a4631d3af267c2b42dd2c01507554980f9e08f5f3086a28aa813d1c07f56eac8302a9458fc4a420c81438edcb147780f5a282de4f92de43554467561ed6fbfb07b2626c54ec224aae43ad58000), (87, 0x909811f3b94826b61ede02104e8205224413785ce2a0f5aad1a925aa7e8ef0b1f0444598119aabae6bd70002b90bab99bd998c4221e9af5c7f125bd1b0dabaa0a9c85361a426047cee5209ad87b7808413a081489104de1738a83d6ab46a496a9fa3bc2c7c1111660466aaeb9af5c000), (88, 0x94756adc67e7c98008bcc64baac8aa7d9392e6e0659e7b1c85aea54a9ac583ac52615cb57e9d2758988b44b943100f0c4aa409b8554d07183c0e7332820e4c0b2acb1693069541933202519cc7353c395780853a26bb0087f3e8a13e3ebd808854e4ba14ec92d22d8baccd7c7b160000), (89, 0x42bee083b22fa118a4ddaa8ae79f9f22a3c363463ebf18e9fb97d0b8b69c15f86856b3c85470f24745346aae12700bb0b86ca68ca1ec60d67a16436894835a98e18a78d69fd823897a8274333f0644d584aa44df8aad35246451179a39459645cce20929621c47d83420d9cbfb364000), (91, 0x4f9188c856d5e42b90a83560e10c636d383b76c000b6313e4623215b5790ae42a0d58384318db4e0eddb0002d8c4f9188c856d5e42b90a83560e10c636d383b76c000b6313e4623215b5790ae42a0d58384318db4e0eddb0002d8c4f9188c856d5e42b90a83560e10c636d383b76c000), (93, 0x3845d0a6f75a1164d60407efad8e34faa03c30e3ae789e2e41b986818a0de408ee70a4a990d29b765fa9809d9326959b8a7574e56b3950c30e051a092e49b52b3cbd656626827ce4838843988e3112981071c7af1ca42a3831e643c185135500ad06a49e42f948dae42819398bb74000), (96, 0x7ebca07b58072f04501531ce2d072981fb882640118d66e144738d8e1251cac34e333b073830e5eef06000030075eb0359066732c34bdcbb134cdd94666e538c380568339faf281ed601cbc114054c738b41ca607ee20990046359b8511ce363849472b0d38ccec1ce0c397bbc180000), (97, 0x6d1566078a0645410d0241889e3f581db227e0cc3a2e853586408e468ec5ed54a8a8295b8da46bb270e10003086ba79a215a1283e4b15e928ed8e21659530f2f18c2d7f91b455981e281915043409062278fd6076c89f8330e8ba14d61902391a3b17b552a2a0a56e3691aec9c384000), (98, 0x690ce859f88bc37b8de2e1a2581d0e24ab728a821ba4e55b092a64be56de92e0930a3d2ac03de61286de78e5e842e927853b89a24967f02a8ef9657a3308e304a0e2412fd9c825308455a7451d5ee1f3ebe407a2a779caf8642d2a533cce3a12101880e6422ccbd3b03c62e3fc588000), (100, 0x8991057b10d19c2e1cf573982ba4af0ce073c40be0472ec2440422034d9149006721468270fa4b6858a169832640003203681d8c6b718fc3832e121072d4d74c0e264415ec434670b873d5ce60ae92bc3381cf102f811cbb091010880d364524019c851a09c3e92da16285a60c990000), (101, 0xaf86f021796c61c0268c9989a1d542980aa3cd12032479c3d3b64e8e70a89494990f3302f50c1864a641a27b05eb018582bd96b864b114b49e38e051190a090ee0f86a6bdb237791460bf55655312310e2f8ac87c30429f69890342052d09188c7d3087a687947d73d914c6afcb94000), (102, 0x3c1178173994844011063538dc815f98f63cd98000cc04f045e05ce65211004418d4e372057e63d8f36600033013c1178173994844011063538dc815f98f63cd98000cc04f045e05ce65211004418d4e372057e63d8f36600033013c1178173994844011063538dc815f98f63cd98000)]
theorem chk103n4 : chA 103 tab103n4 = true := by decide +kernel
def tab127n0 : List (Nat × Nat) := [(3, 0x720c4d7ac722f1e700caabcab3817641defcffaf5533579bf8a3ab6312a1cfc860e528a92182ee4ada01e3002ec70bbb4a5238d930f52d6f9ce8baeaf9b71cc4dc1192238adad3bedc5a6d5d1cc019628e1e64376ad4925c607e233502c25ab143548d704557972f934c65779060c000), (4, 0x168b2091b99ddad36bd7696556cf31a915db56a95dbac17fb9813a3041dbce639a8204000027b3857c994027a4f99ed784bb3e922b49512230556b097abd09d295da51a672761777c66f0645a2c8246e6776b4daf5da5955b3cc6a4576d5aa576eb05fee604e8c1076f398e6a0810000), (6, 0x3798b04b872fe22be0c180000de62c12e1cbf88af830600003798b04b872fe22be0c180000de62c12e1cbf88af830600003798b04b872fe22be0c180000de62c12e1cbf88af830600003798b04b872fe22be0c180000de62c12e1cbf88af830600003798b04b872fe22be0c18000), (8, 0x45d370a0462cbbb775d75c78bc707f0e90b9d75ccd544ef7732212132542b98ce766270054bee14f3d45eb5c6f05f61811f3c0f7cfb121b226cd893d730aaf51113ed4116028460d31831941b2b0bce1aab7751292a1b3ce471a1d7c0f692162c3e30961c110d8eb7596680cc1020000), (9, 0xd5606852c6c9486dc26a3b0dde4d5d953d8a1407774cd929b490634d05243a8d957dafe195541df714b965ac8c6143d8c1f217f2a8308d340d5fc05c197288e72c9b1b8f4608f935f8f20516769425e94857221be55c0ce1fab5ce28ab6d866bf0bda254f95e32ebc92ade2c61224000), (10, 0x7e2bdc44c9ed7c7a5f3a0688215110b445284b9a5fcf7dee8b40d358f6edff56c2a83b6e2ff3186137d1645e9e328c4099760fb1c07eef52235f631a4beba757d1150d20d88633494a82798127b6399bbabc4ef4d7995799b468c5205d2798aa1cfb1eeb1df3ee9a9c17427711428000), (11, 0x544cbeefb1202892a1c119795a6230698eceaa126cc675174a42f39d6045444386858b00005f4399543b61bb3e2a5d110bc789213eb5d8933195a1d9669c6e935e057faecb9155b2cc4b2ed5132fbbec480a24a870465e56988c1a63b3aa849b319d45d290bce758115110e1a162c000), (12, 0x57835e73599f04911622647ee6917734ee03f744be2fcb8e64407791603442b656a8a2d3369014b678746bd700bc4e8581279c825066d00e33500e7b536541f5c427d73916418446a3aa62b2f31c33b0a2d679e6bd51782744e6027a95be01e8a1e4ddb2b6cc9c5c0d3ded70b1830000), (16, 0xd266aaf5f05677bbe67b694211531899d9971824d56dd8241c25e9537e27e12d7c181fca9ae178f258f3736150ce81a0979cbc98fc8946df8db6daf1c9a02af280ab2f56baaa174d686069d96f7a421a7d12664179b6c4d4fb094d023ed192e7d05ada4f513f080509122120c2040000), (17, 0x8fd681ecf92fde492596c368764659cb4751e5f934bc75a64a84bf46338bbab1814fe895cb112204fc2a74c7cd562da412667877ae040bafcd53d9e13c834b6140583c1bc3cb2919536dd3a2ee5246b4e7a4f1e4435117cd6a297ccbea7f5a3a176f275c0d771404620a846d52244000), (19, 0xd64e362fbc198d75aee56c3586f3e4639671a330a9b8a5d1467cbe8f8c775ec024fe1d1f121397b87c73ddad5249ae65cda1c98db207836736df7b9eadacf0a2ee049f7c8b890f9efc838c94701285e1d9578fbb30c9c76f3ce3fdadad8760b2191e9e0a0a9d00925b932565e264c000), (21, 0xe348ffb8aa5a965c9e88426aefe74b40d2de09ccc64652c6a2454f14e4fc8a9d7518e6004bec52cbc4cb45f42e7546543a379f7c2a7a6f39e80df145bf0340eda6e74592c58284f54a929c44390f0360ec09f08ba40a22fc87c0d49af608be6b7d604866cba4180784fc3aefc2a54000), (23, 0xb0192db510b1655889cdea8686d17d249069eac59314a7ec2e483cd16d5bb1d8c5345447243200687bf2811730d95743a02d6fe6b0af2f2fa78a25b3d2516c334300abf0e96cf1444ddeae9c68605e4ba8686cc26b8b875036577579aca868f50dc3d6989a61141fd6906908d2e5c000), (25, 0xc32cbb8c938ae935e5c475ebeec45286e34e3e5374dfd8466bc666f6d07904e0943d8701551c58b7baef45656c467e1f3ae91194fb05ab8ba6521766bae7e12458e1b81bc5a620c3d4e877410b8f85ca2e7e4c64a4988dead6e6507ac25e482d3724a1e0f3a7491847068bb6b3264000)]
theorem chk127n0 : chA 127 tab127n0 = true := by decide +kernel
def tab127n1 : List (Nat × Nat) := [(26, 0xe269ccfacb113b4ffae72c3c9542c8b725254f708db8353814512b5372c38e5e6681b01124e25a221242dbfad619697666171349e1fdd0521860c25aaaf72cbcdadd4a5127fbf5487672865d2ca8aa1b0c554cb6fc67404630a270d5fa384cb9cff72c3e08d4a3dd9e9d524553468000), (27, 0xa5587f2d02fec7cf39070b2e1aefe7ac5d6783b77cdfde38b67029ef84218846153e7135afdc0f43c40a88a0cf568c6840a3c9c2b200533755ecff2e3aeb03052169165f9d03edbf1b14b5c2e4be6cb57c83e78b49efa6e9c1eeee2ead1568dc5efeb7e2af8af2268850e2f75366c000), (28, 0xe63739ea79a819c983870000398dce7a9e6a067260e1c0000e63739ea79a819c983870000398dce7a9e6a067260e1c0000e63739ea79a819c983870000398dce7a9e6a067260e1c0000e63739ea79a819c983870000398dce7a9e6a067260e1c0000e63739ea79a819c983870000), (29, 0xee2b1dde596f8959df96403925de3262a20af78d64908011be265789b9d789ac083a740003b8ac777965be25677e5900e49778c98a882bde3592420046f8995e26e75e26b020e9d0000ee2b1dde596f8959df96403925de3262a20af78d64908011be265789b9d789ac083a74000), (30, 0xb8a8bcb5a050777771c349d2bf4cf02a0d5d370dea9ec91e17c7b432a37fa01aad718900e939f1bd549cb0eca4ccfdb6e0d9337d6f420295f9ba3b28c44fa0c82220d2270ac484a6e814c4af951e8016db570b722513cf5646edb59aa52f2c355ee469db5602191834afb5e113c78000), (32, 0xa0b4db7e66ee0ee406bce87d9f1d0b0d82c614f2399b5b19e057df108495e113d73fa8eb1715f30c7e2938cf9dcdbf015776e50a2ca88426e7ad5b9eb11dc7af6a014b55f5ca1c50ef807325ff483a9cf10c5193a7b17e4fee47e582af8269ea255da1350464f57925a7e89d4080000), (34, 0xe93e604776bd0940257fb1b9a5eaf266eb0c8256b0385695d1688c1509eed5af065122000115df19ad250810c6a177692239a96cfc9daecff39a5951a6578441dbd76769667be8c34dad297a4f9811ddaf4250095fec6e697abc99bac32095ac0e15a5745a2305427bb56bc194488000), (35, 0xc5f9715e9827d3417debdd0b3385159a47e1f8bbef6f856e04b57185567bae3be08f9d7f98b55650a87199b7d8ec882255c0542fd76936fb80738156d99090d41250ad36f3106817d200848f5c7c8d792210aee09271675f10c4f537f6a7ea276d5b1af3cbc4e10e9e8eb198e468c000), (36, 0x62937c680dafb77989c0960260d6588565e82a587671d9e1dbf22049dee58db5492139d7b1d14e59ee568d887bbdc5280d37228c40e604de3136b149ff64b6264f4020b23cf39578e32f7cbab6207a6b97b8409367c868cc35bef0f98bc0c96c8318b23cbf6503cfc48e099614890000), (38, 0xae9a3f7ac76616bf2dbbc3af195443b909164acec36f0efb499a6b628e22bd9049b408442a4414195ed40b2fb1fa904f4e5fa5ae0c86b3112c53141d90b71da5d4a3d09a4381ee4626b7cc5d1d50b2788b34c5f546c437e21536f8372f97e4bafd1a4e1d5c3d41e9e0fcf7ed34c98000), (39, 0xe72c3d7c2f46852957865f1e860848fb8cb6dc00b152e60bd20507088b19e4d848c50f62f9e945c684f6a141609fca9914e55e6dcaed929bf8c835754fb5ce2d928ea05249ceca2362a66bf558da9fdafc06ae3d8cc8f952520795df70d4b7e3d3492adec3789908c6f3ea5094e9c000), (40, 0x1457b6d073e230e9e644c002e81d70612ae4ac6c07a00a014514fa6648bc1d06dcb50a0000515edb41cf88c3a79913000ba075c184ab92b1b01e8028051453e99922f0741b72d4280001457b6d073e230e9e644c002e81d70612ae4ac6c07a00a014514fa6648bc1d06dcb50a0000), (41, 0xa6592af3319f14f58225051168fb2457b694183058440a2d622a4582bbf0446faea5340048a712baa142d6acffb132f60e1feee0b3dad7275466902499968347aefe7df080d483d2f46354b827e80f9adc980d982752c6a0d02cbac3d02986ba793f592ff0e0efcb50e2b58e652a4000), (46, 0xcc907e9949d4e62398f96b826bc283dbbdb8b990db04f7051e0b933da259627c3d972e0001751c225658a3a5342e14702e05090a48a67ba48226bbdb9d8fe922654999560796cd6c4a713633241fa652753988e63e5ae09af0a0f6ef6e2e6436c13dc14782e4cf6896589f0f65cb8000)]
theorem chk127n1 : chA 127 tab127n1 = true := by decide +kernel
def tab127n2 : List (Nat × Nat) := [(47, 0x868b7f63d170b482d2689169ac694565cddb8d01dd2a5a65008bc91684251c5a5657af00017d0a4991ba85d8969094262f2ba41a2b92dca2449ac1617666f6832f0cb3ceb7898775f457cea1a2dfd8f45c2d20b49a245a6b1a51597376e340774a96994022f245a10947169595ebc000), (48, 0x2ec3eee07b4a720a6a66c5fb37e1f227cf6de79793984c2e52834192fa44bcf70c1411d70ee6445226e1366aa428391a3afc3713d16dfc766aa30e4d061ced26f23e7d83637b1bda9d7c7161edbd66c9132980bccf15e048584752be6be04ed5e93718b4213cab643d9f9c42660c0000), (49, 0x18ce055e31a8d9412862c400063381578c6a36504a18b100018ce055e31a8d9412862c400063381578c6a36504a18b100018ce055e31a8d9412862c400063381578c6a36504a18b100018ce055e31a8d9412862c400063381578c6a36504a18b100018ce055e31a8d9412862c4000), (50, 0x7acaaa0958d4262ea6a2f90bcf817c09f7d3ffa450a940bd6516651cab7decd20ca75fa6e03f3232a88160a71b9e5ccc79fb65a468ad4f7d8844373bbd04e3ed1fa0bb3661a347f52ee9619663eb52ddf92adac738181dc1e05b9570a5cdc2db94b53bab15057ab3c65a2e02b64c8000), (52, 0x1a4b167485020bc5e268d0000692c59d214082f1789a340001a4b167485020bc5e268d0000692c59d214082f1789a340001a4b167485020bc5e268d0000692c59d214082f1789a340001a4b167485020bc5e268d0000692c59d214082f1789a340001a4b167485020bc5e268d0000), (53, 0xecd4caaa92371cc605706e01ad10135c4a8b5bf8795de71fedd8ea373357b4aa6d4455aae8aa5e2fdd90680488eb095e23758d4f1e702528af9892507f24489d15c83ad8c3d458a1319f9731486146f5570badc58d7032bd240293ce0792b0464d40bfb307937b22f1860cbae6ad4000), (54, 0x1b49cf58f32b54e0ba458001e10d722253c148fc97444a018511f8316d2c3d373a96cd80006d273d63ccad5382e91600078435c8894f0523f25d1128061447e0c5b4b0f4dcea5b360001b49cf58f32b54e0ba458001e10d722253c148fc97444a018511f8316d2c3d373a96cd8000), (55, 0x3d5786cbe23d805b02792d89e820d3358a4db15145d6d5c83adf85b92c46784a76ac4016a8110eccd1c6119902b6ed9ee200ba42d09d26b8d8305b787e04e9e9f670e270bb9baf4778a86d8ebeb3b164afb0a0f70e793311a621d5af7f0f2628c969cefdeebc5a6799193e1f6edc000), (56, 0x46e8c6453781a2c93a59b9bd884fe911f45f53af6682d0bc760e2e34e61a2de84267e100aa926baefb6b2ba5ecfd0785d9653d9878774419dc930b4756f8f97377aefa7ac916f7e08de5f40c9935e662f413a010b0596bb042f789a1e24903d153748e79159afd0e1b08beb5b70e0000), (58, 0x1d45aea4424709f799d16401c623aa0cf1abc15a9cd8f1018f426df99c58116ebd674e80007516ba91091c27de67459007188ea833c6af056a7363c4063d09b7e6716045baf59d3a0001d45aea4424709f799d16401c623aa0cf1abc15a9cd8f1018f426df99c58116ebd674e8000), (60, 0xe62cf8c6f5ce3b5f7e8f3fc49ee96b238f4097ef8e1c5e343f8f0617b9255d7d9b5c8f0152c33a6dc4bd8ab196987c094c21a64cd9710df1da272974fda0b63112b9d58f54d380c8ed7c9782f1c2d9021997c162234fb37d780a6deac936235d009f07c0acc267c7f3f48757678f0000), (61, 0x6c668715fb5be11b0d7153a7a4019271f99942b684c88026dc616a01417d1a3d14c4f5ea71a05c1a82fdcdbef82f0f338567c67aca2752aa3d73df1807357b2d56e9f1f893fbc407cbcee4084264f5090e1aa66d7d716e0b493a608eb051959d4fe2d36dddb8957d5f5678d827af4000), (62, 0x46fb1c8f65e96b12ed0f6efd8a517e39ff128bbb8942244c4a453de8c6dd1c13cf9a371dbb232e283f5194ecbea40ca0fc4451815e77c5710873d329d09997ca46abd16503596dc57e3b80e8177b9b3b76464611c20f926d9468d358ec3a6998cd5f1eb33093eb1c15b6f48197cf8000), (63, 0xc8bdd4794d7b7624f688ba625e17b96902f84108a047604b5d61e3177c9fbbc343f7fbc3689873fd3af7d086008b108087dd1f9f032eff26cd0eb4783694df2966afebd122dff85cac29f79b4014fe3de1fd1635430e701b462d81e3c3d2f9bec444d39dde7d964f276a264887efc000)]
theorem chk127n2 : chA 127 tab127n2 = true := by decide +kernel
def tab127n3 : List (Nat × Nat) := [(65, 0xb9053d2d17f3ef3b3bce81ba02590e7c3e00898697f25ceb1ce434204eb6e3ec3076adedee94323b66596f3b295170d74b684066a8a4b9602a2914320d63df6a1194ac643a070d82c75e0d27df6d9352d7e6e984c0d16f85f658a9573aef825d5492555bc17495876a7b2851b8304000), (66, 0x7dad266c22d17d3fed899283aefc592cf14a3ecd9802ae6bddf089ab25aae0bfdc4439004b8ad12d3058b2e96fc3318d52e9f3d1fa4082e78aa75ab5358a95160b93f5d61445c98208ba7a6fe7b057b161fec3c0fb165342d43671418034046512afbd1b9d288bd5196a588d68508000), (67, 0x21bcb99ff7b06f1cc329ec073c39f60482620e7d9ef0980030a0472f01c3fc12e18870c00086f2e67fdec1bc730ca7b01cf0e7d812098839f67bc26000c2811cbc070ff04b8621c300021bcb99ff7b06f1cc329ec073c39f60482620e7d9ef0980030a0472f01c3fc12e18870c000), (68, 0x223bd9500de3f3d948465c0609deac4506941dab0ea705007d1e864dcfb0028762b891000088ef6540378fcf6521197018277ab1141a5076ac3a9c1401f47a19373ec00a1d8ae244000223bd9500de3f3d948465c0609deac4506941dab0ea705007d1e864dcfb0028762b8910000), (70, 0x23328a68066e7aa0d04e7c2150695ef54cc376b1ada5ba499fdd7d69164618139702a508f4a759461d8bde3b4f4f72f6753e9a5a3545dc5707f87a698f5a522ea0b0949a33d2c9a59cb85c5e39f91a6f15863a9973fa2767d412f6308e2ccbe958e83cbd1af60a11118216d748d18000), (72, 0xc520d3f79729b570bb3fe69f8aa50cac3542b69a01ce05c51a729e233503137a9239c037b16575c189252eb9cfc135e7456b28183e1e43d48a3a557dd8fe5cbe4dd1ced2af55e5508f1aaea35cd3bf8c07640293b6e842ab09411960b8caa53c70794d9b181af9a183ac72d109120000), (73, 0xeb24318a03555b7a7be628d89d6b1bcc68c745231df875ee154928720d9fab681243e751c255e71dab6b647b40259789ec48927fd6027c8c3f104debedfd8db23cdc862926c6f0307bbd64d98dc35b967b8a7e8f024e139ddae5cd207b7b9a2ecb8938c9e1d30ca3fd0b220a99324000), (74, 0x33114df81dfe17c2963de8da2d1885ec444a3d1a89c9424f724f749840bedfed61c78bdfecabdd084a26e7c3f59836ac3d8b7c9f814fdf589c048df9bee9f63c9dd387f03b767662e5ae23c4b55928d0f9e87af7aa07747ccf2b4703e2f443e2db40ef0d0c3469fd2f79a36599528000), (75, 0x60b0eb3aa0d308b4a18e9afdfa9fbc55c2c8a117ad1a6ed83a46649ff390f908e254fb1054599485b093e9260ec775d1196ecf47620e03cfa3bd5b33256652e4c3344651c252807f4d7bad8e34312d6b6545a7031fbfbbb4a190bb9fd8bac23edec72de62790cc3c6405dee6c972c000), (76, 0x6aa50adc7eed731bbbbd2bc04e90dd2e9d6f1b8f9280882335f324a2f7a9a7b11fafb601638d9acd06397169b903724d265640f5ed2328ed8b47aa252ba81576327e3cae582546873fb88dc7ed66552c8f3bb41c2e95d3454f0cfe7c8639ced592430b279a6630f3522d208ae9930000), (78, 0x944198f1b797a50896870d057bac9fa966f98944efcd4edb1ab390d3f7c3cde8faa74e00027318e57ca1f63d0acaac6dceccb049099696109e57bd3d1aa80f09697da1a859f095bfc5ef086510663c6de5e94225a1c3415eeb27ea59be62513bf353b6c6ace434fdf0f37a3ea9d38000), (79, 0x13375f4d28997aaa8408b0e8fd49bd62532b684f71f2b23b0d13c6ac05f9da20d73826014aa31329e9a4ca4b249c16714e4126e432015f0eea0fc2c81f2b817a1528a6a9076d82f2d22152118e4c05b379c8627519b44279ae395cc2f0b7558ca1475d6644edf1c98b7ede4fc9f3c000), (80, 0x143e2649a8f8cb8cc89b1e6d01493fa9b0fe55c8b96306123b0debc948fae3dcbdc3a8a3a89370339914f215eeb7934ab74b90608c06b655c308b641fa94c6fcaa5765d962c64d27e4df1ebdaf67406fad73b7a383096094f604891c21f8f0ca3865da9f52728a953e34d086ba140000), (81, 0x28ae37f3db9f718d83a344000a2b8dfcf6e7dc6360e8d100028ae37f3db9f718d83a344000a2b8dfcf6e7dc6360e8d100028ae37f3db9f718d83a344000a2b8dfcf6e7dc6360e8d100028ae37f3db9f718d83a344000a2b8dfcf6e7dc6360e8d100028ae37f3db9f718d83a344000)]
theorem chk127n3 : chA 127 tab127n3 = true := by decide +kernel
def tab127n4 : List (Nat × Nat) := [(82, 0x454a83623ace886104907b01f75a9eba7d1dc96c7825e183e3bdc894a12512d17499c92655624c8cdd5a710633f129302a57dfe40f5323d1180e5240da22eb03ab9176fdf4e2d14477c5d554eb4fc7dc9da3b5eae156d1dad68f202f05d9dcbf104c7d7caf8477de400e5f50ea548000), (87, 0x2ba8f86924e48c7e65af5c000aea3e1a4939231f996bd70002ba8f86924e48c7e65af5c000aea3e1a4939231f996bd70002ba8f86924e48c7e65af5c000aea3e1a4939231f996bd70002ba8f86924e48c7e65af5c000aea3e1a4939231f996bd70002ba8f86924e48c7e65af5c000), (88, 0x9953833ad66313179e73279b0e318f0025467b61beba87759c80e5b15b7b2d1d77e8129f01003b735a24052b1dba463d035ccc9a090414e41cbb033d101cc18a6d38cc5bc1c130c5118aed4aa72561335ab35d5918bb6f3bc7b57302817d4f64aa6f3384461226fa5ef9b33dbb160000), (89, 0x51661a36537a74a8be2b552d64d40e303f392ad4ca8b2aa50e82d9328771426fb65cdc39e68fe9d7fad4c4be26e3ff84e35a2d291aa839736e547fec719ecd961b3b9ba2df020dcd5ea587084d60a41dc7158c0694711fd8153b3890bcf7d3baada0a71c8ca6b1cb1168e4bd6b364000), (90, 0xf4246e6bac0e153057c194574204a48b276965507699ef4a577697fbf2656b0168ad5a0002d2517756cff39978476974da981100997ab209a57427b448bc6631a8e6abb3c699f5dba30e93fd091b9aeb03854c15f06515d0812922c9da59541da67bd295dda5fefc995ac05a2b568000), (92, 0x6e1891768bcceea622c687c4db35f7915f96a23c0ee4b60a3c3703ad4e6b3af47b1e0200b2a24a06cd09d6fdfb5f9f715b14d47c81047cf1929832deb676e5bc44b61e2240c0a2df1afdcac6f1d596b54ec2129e270199b28a4f6c3ede21e3be7f568df645bd958ae87552059b970000), (93, 0x2ea2048e6615c07b92d16804649d295fe7639a7a48120b00e7425efb577e987815cbb74000ba881239985701ee4b45a0119274a57f9d8e69e920482c039d097bed5dfa61e0572edd0002ea2048e6615c07b92d16804649d295fe7639a7a48120b00e7425efb577e987815cbb74000), (94, 0x2f211084cde328445ebd78000bc844213378ca1117af5e0002f211084cde328445ebd78000bc844213378ca1117af5e0002f211084cde328445ebd78000bc844213378ca1117af5e0002f211084cde328445ebd78000bc844213378ca1117af5e0002f211084cde328445ebd78000), (96, 0x301fc3c5b6f5c7f8607fbc03083c4510b83ae7115be08e013df90e07d7606c4308ec180000c07f0f16dbd71fe181fef00c20f11442e0eb9c456f823804f7e4381f5d81b10c23b060000301fc3c5b6f5c7f8607fbc03083c4510b83ae7115be08e013df90e07d7606c4308ec180000), (98, 0x311d9aeef3869a66171f5802ed322277c37f0a088234b701447a999a1a16bd1e6c4c588000c4766bbbce1a69985c7d600bb4c889df0dfc282208d2dc0511ea6668685af479b13162000311d9aeef3869a66171f5802ed322277c37f0a088234b701447a999a1a16bd1e6c4c588000), (99, 0x4677e160479eee3b7f55d2044a6f5bc5f1d44224eb0bf931e9a3f66f36049826a185f7bbc778f4e892501a698af568210f785a9f91f5c1d6d7f6316e9c601486a7eb63ea3a94fdbdba0f39739c698fc65da8ab9e03f5449b14acc9ede4f1da5de8a824b4aad72a6f81644552fc78c000), (100, 0x25738b55b4ded84dd50b8209e8bd85a8adc2c7d76bc4caed3fab8fbd913515b6ca12e0dfa942ecd1ce211dc8c5eae2acae34d5fd747954c416939b59bab0148aee3993c6b8141ef410aca37d1b419060def1fa53a493466b9ee7e6155ec5c8981f1a821308422eea4d649e5dec990000), (101, 0x1d968cb740bc90804fbcdcd378305b596a9e13f332eeca06cf3bdd7da2d071a1994fb417eaac3a69f030ea4fe779d0cb2b1bbde086b63a294c96dc39782b024414e1ff1bcaf6baa415a4b5370249847b4547a90589509095cc30ca924ec09af6bb5882d50b2b8d6308307d89ecb94000), (102, 0xba54a5287a373ee30ff2d04404c755956eae70e7946493b994399ea450a9ce84dbf5c901d3e1b626bc4018ae54702d9e64591da5dad0746b9d18824aae6cd57505192f3032d4ce881e88bda3ebfb54889350cf6d1d5121ad40abefc689f6de9ab6fd26da3644ff762d5226db9cd98000)]
theorem chk127n4 : chA 127 tab127n4 = true := by decide +kernel
def tab127n5 : List (Nat × Nat) := [(103, 0x339894137f3b9d676f5068007798e7c60d8431e9ee5e1c01e14659c42e0ade3257bcf9c000ce62504dfcee759dbd41a001de639f183610c7a7b978700785196710b82b78c95ef3e7000339894137f3b9d676f5068007798e7c60d8431e9ee5e1c01e14659c42e0ade3257bcf9c000), (105, 0xb5a40aef22ccb24274a23fc8c58c97de58817cff5c29710e23337cf40346d1677a75d16ee0df6e98e90ccc77d94bfd84afbd3686b5a70c08abe42f67b3868b571c83111351c038227065943c0b93689d18094ec79540f3f443095eee75f3fb61ae9cb08765c2a859eb64c7aa5d3a4000), (107, 0x3594662495f26500ebb17c04ff624aa0a1da8092b7fdf600c2c2002509eb24819f6d7ac000d651989257c99403aec5f013fd892a82876a024adff7d8030b08009427ac92067db5eb0003594662495f26500ebb17c04ff624aa0a1da8092b7fdf600c2c2002509eb24819f6d7ac000), (109, 0x92a1045f3c339d7f0f23aa5d26583c0e0576d0eb0a70475124fb5811ae63c70442e72201abebb47f39639794258ab754445f60950c78b77572c8b91873536769880b30f8ce1a2abc6f0484dd75059d56c150c9cc3069f7c11dc58bb0bf5cceb5cc88b776cc4bc23d3a63b01cddbb4000), (111, 0x3790c9e57f00732b8d7518041153f6c3a3b2893daf053000f9d39afc81b35e3f206dfbc000de432795fc01ccae35d46010454fdb0e8eca24f6bc14c003e74e6bf206cd78fc81b7ef0003790c9e57f00732b8d7518041153f6c3a3b2893daf053000f9d39afc81b35e3f206dfbc000), (112, 0x380f7833c5c8a0b40e51e403c31e8df277ddd883634c05010d406d1c62fdf08de73e1c0000e03de0cf172282d03947900f0c7a37c9df77620d8d3014043501b4718bf7c2379cf870000380f7833c5c8a0b40e51e403c31e8df277ddd883634c05010d406d1c62fdf08de73e1c0000), (116, 0x5bd11fd5165a39532addf9d7d8561ff878160a6720b6814b56919426460968bbbd1f021272054868cbd68b28e95eb50832c719bea0772881a71e4d42dbbed9958d291cf183733e07b386536cd9a940f02c4bd6637b3790c7158e06232838c6ae1cdc31e6aa097e55ea884642fe9d0000), (117, 0x3a8aed9b2c1b0e6ab4a53c02eb2a381e530d4bce186cd70146930ab2ec46cafbb19ebd4000ea2bb66cb06c39aad294f00baca8e0794c352f3861b35c051a4c2acbb11b2beec67af50003a8aed9b2c1b0e6ab4a53c02eb2a381e530d4bce186cd70146930ab2ec46cafbb19ebd4000), (118, 0xace2c42f9a37fb59291d89a1288b93ddd38d966e25b60636814fcf8babfb98f32eca26ebddb3f7c9ed6740bdd9894d5fbf2508444237d0c335c0ac281de0daccf00878a830da1e2c4b5f5429896bdb2503c9de68e3c35f88f789f8bd13738fc994a0d0867a1eef277e8413498edd8000), (119, 0x3b884223377cc210f7efdc000ee21088cddf30843dfbf70003b884223377cc210f7efdc000ee21088cddf30843dfbf70003b884223377cc210f7efdc000ee21088cddf30843dfbf70003b884223377cc210f7efdc000ee21088cddf30843dfbf70003b884223377cc210f7efdc000), (120, 0x3c073beef8318e0a81a0e40619fe4fae72f5cc23f46786007a8462bf8647bff0e84f1e0000f01cefbbe0c6382a0683901867f93eb9cbd7308fd19e1801ea118afe191effc3a13c780003c073beef8318e0a81a0e40619fe4fae72f5cc23f46786007a8462bf8647bff0e84f1e0000), (122, 0xcdaf3f2b2d6a961dd65fdb7a61af4cb3beb348424d83194354695cafc2e56661b338deaeb1f25300aa30484a44f1828f25c7cbcb3be5f61c9465a7204b17b2fd8e92e37a263206bf28a55b5005c9e98ed380beb512645d1b175151f0cd0ebe7782e82488aa2298ee399da714ff5e8000), (124, 0x3e0374a312c931095b082807918a86b966959da1b18655001827524924bbc54dd57f9f0000f80dd28c4b24c4256c20a01e462a1ae59a567686c6195400609d492492ef153755fe7c0003e0374a312c931095b082807918a86b966959da1b18655001827524924bbc54dd57f9f0000), (125, 0xa5794dae2ea1138f2ddc0dfb1a2c3bcc5defc78c8464f39baacef3ac210c0dd25bf66157cdd3bb4ffc504e73caf9ed373b8b68a9096b4f3826888da6fcc47b471fbdf394af7bc6b3434db8ec8251f7563d2fcd3ad6890a098a3320b04115e2984c52095d7d77d1dec39bb06affbf4000)]
theorem chk127n5 : chA 127 tab127n5 = true := by decide +kernel
section
variable {α : Type} [CommRing α] {q : Nat} [IsCharP α q]
def cn {α : Type} [CommRing α] (n : Nat) : α := ct (n : Int)
theorem cn_add (a b : Nat) : cn (α := α) (a + b) = cn a + cn b := by unfold cn; rw [Int.natCast_add, ct_add]
theorem cn_mul (a b : Nat) : cn (α := α) (a * b) = cn a * cn b := by unfold cn; rw [Int.natCast_mul, ct_mul]
theorem cn_sub {a b : Nat} (h : b ≤ a) : cn (α := α) (a - b) = cn a - cn b := by unfold cn; rw [Int.ofNat_sub h, ct_sub]
theorem cn_p : cn (α := α) q = 0 := ct_p
theorem cn_2 : cn (α := α) 2 = 2 := ct_2
theorem cn_3 : cn (α := α) 3 = 3 := ct_3
theorem cn_eq {a b : Nat} (h : a % q = b % q) : cn (α := α) a = cn b := by
  refine (ct_eq (q := q)).mpr ?_
  rw [← Int.natCast_emod, ← Int.natCast_emod, h]
theorem cn_0 {a : Nat} : cn (α := α) a = 0 ↔ a % q = 0 := by
  unfold cn
  rw [ct_zero (q := q), ← Int.natCast_emod]
  omega
theorem smS_sm {x1 y1 x2 x3 y3 d n : Nat} (h : smS q x1 y1 x2 x3 y3 d n = true) (h3 : x3 < 128) (hq : 0 < q) :
    cn (α := α) d ≠ 0 ∧ (cn (α := α) x3 + cn x1 + cn x2) * cn d * cn d = cn n * cn n ∧ (cn (α := α) y3 + cn y1) * cn d = cn n * (cn x1 - cn x3) := by
  unfold smS at h
  obtain ⟨h1, h⟩ := cndf h
  obtain ⟨h2, h⟩ := cnd h
  have h1 := bneN h1
  have h2 := cn_eq (α := α) (beqN h2)
  have h := cn_eq (α := α) (beqN h)
  simp only [Nat.mul_eq, Nat.add_eq, Nat.sub_eq, nmod] at h1 h2 h
  rw [cn_mul, cn_mul, cn_sub (by omega), cn_add, cn_add, cn_mul, cn_p (q := q)] at h
  rw [cn_mul, cn_mul, cn_mul, cn_add, cn_add] at h2
  refine ⟨fun e => h1 (cn_0.mp e), h2, ?_⟩
  rw [h]
  clear h2 h
  grind
def ptN (a : Nat) : Option (α × α) := if a = 0 then none else some (cn (a / 128), cn (a % 128))
theorem smN_sm {a b r : Nat} (hq : 0 < q) (ha : a < 16384) (hb : b < 16384) (hr : r < 16384) (h : smN q a b r = true) : Sm (ptN (α := α) a) (ptN b) (ptN r) := by
  unfold smN at h
  cases ea : Nat.beq a 0 with
  | true =>
    rw [ea] at h
    have := beqN ea; subst this
    have := beqN h; subst this
    exact Sm.nl _
  | false =>
    rw [ea] at h
    replace ea := bneN ea
    simp only [cond_false] at h
    cases eb : Nat.beq b 0 with
    | true =>
      rw [eb] at h
      have := beqN eb; subst this
      have := beqN h; subst this
      exact Sm.nr _
    | false =>
      rw [eb] at h
      replace eb := bneN eb
      simp only [cond_false] at h
      unfold smT at h
      have ea' : ptN (α := α) a = some (cn (a / 128), cn (a % 128)) := if_neg ea
      have eb' : ptN (α := α) b = some (cn (b / 128), cn (b % 128)) := if_neg eb
      simp only [Nat.mul_eq, Nat.add_eq, Nat.sub_eq, nmod, ndiv] at h
      cases er : Nat.beq r 0 with
      | true =>
        rw [er] at h
        have := beqN er; subst this
        obtain ⟨h1, h2⟩ := cnd h
        replace h1 := beqN h1
        replace h2 := beqN h2
        rw [ea', eb', h1]
        refine Sm.opp _ _ _ ?_
        rw [← cn_add]
        exact cn_0.mpr h2
      | false =>
        rw [er] at h
        replace er := bneN er
        simp only [cond_false] at h
        have er' : ptN (α := α) r = some (cn (r / 128), cn (r % 128)) := if_neg er
        have h3 : r / 128 < 128 := by omega
        cases eab : Nat.beq a b with
        | true =>
          rw [eab] at h
          have := beqN eab; subst this
          obtain ⟨h4, h5, h6⟩ := smS_sm (α := α) h h3 hq
          simp only [cn_mul, cn_2, cn_3] at h4 h5 h6
          rw [ea', er']
          refine Sm.dbl _ _ _ _ (fun e => h4 ?_) ?_ h6
          · rw [e]; exact Lean.Grind.Semiring.mul_zero _
          · rw [← h5]; clear h5 h6 h4; grind
        | false =>
          rw [eab] at h
          obtain ⟨h4, h5, h6⟩ := smS_sm (α := α) h h3 hq
          rw [cn_sub (by omega), cn_add, cn_mul, cn_p (q := q)] at h4 h5 h6
          rw [cn_sub (by omega), cn_add, cn_mul, cn_p (q := q)] at h5 h6
          rw [ea', eb', er']
          generalize cn (α := α) (a / 128) = x1 at *
          generalize cn (α := α) (b / 128) = x2 at *
          generalize cn (α := α) (a % 128) = y1 at *
          generalize cn (α := α) (b % 128) = y2 at *
          generalize cn (α := α) (r / 128) = x3 at *
          generalize cn (α := α) (r % 128) = y3 at *
          have z1 : ∀ x y : α, x + cn 128 * 0 - y = x - y := by intro x y; clear h4 h5 h6; grind
          rw [z1] at h4 h5 h6
          rw [z1] at h5 h6
          refine Sm.gen _ _ _ _ _ _ (fun e => h4 ?_) h5 h6
          rw [e]; clear h4 h5 h6; grind
theorem dig_lt (W n : Nat) : dig W n < 16384 := Nat.mod_lt _ (by decide)
theorem chP_sm {W : Nat} (hq : 0 < q) : ∀ {l : List (Nat × Nat)}, chP q W l = true → ∀ e ∈ l, Sm (ptN (α := α) (dig W e.1)) (ptN (dig W e.2)) (ptN (dig W (e.1 + e.2)))
  | [], _, _, h => nomatch h
  | e :: l, h, f, hf => by
    obtain ⟨h1, h2⟩ := cnd h
    cases hf with
    | head => exact smN_sm hq (dig_lt _ _) (dig_lt _ _) (dig_lt _ _) h1
    | tail _ hf => exact chP_sm hq h2 f hf
theorem chY_ok {W : Nat} : ∀ {n : Nat}, chY q W n = true → ∀ k, k < n → dig W k ≠ 0 → dig W k % 128 % q ≠ 0
  | 0, _, _, h => absurd h (Nat.not_lt_zero _)
  | n + 1, h, k, hk => by
    obtain ⟨h1, h2⟩ := cnd h
    rcases Nat.lt_or_eq_of_le (Nat.le_of_lt_succ hk) with e | e
    · exact chY_ok h2 k e
    · subst e
      intro hd
      cases e0 : Nat.beq (dig W k) 0 with
      | true => exact absurd (beqN e0) hd
      | false =>
        rw [e0] at h1
        obtain ⟨h3, h4⟩ := cndf (show cond _ false _ = true from h1)
        have h5 : dig W k % 128 < q := Nat.blt_eq.mp h4
        rw [Nat.mod_eq_of_lt h5]
        exact bneN h3
theorem chZ_ok {W : Nat} : ∀ {l : List Nat}, chZ W l = true → ∀ n ∈ l, dig W n ≠ 0
  | [], _, _, h => nomatch h
  | n :: l, h, k, hk => by
    obtain ⟨h1, h2⟩ := cndf h
    cases hk with
    | head => exact bneN h1
    | tail _ hk => exact chZ_ok h2 k hk
theorem two_pow_cases {i : Nat} (h : 2 ^ i < 64) : i = 0 ∨ i = 1 ∨ i = 2 ∨ i = 3 ∨ i = 4 ∨ i = 5 := by
  have : i < 6 := (Nat.pow_lt_pow_iff_right (show 1 < 2 by decide)).mp (by simpa using h)
  omega
theorem prs_db {i : Nat} (h : 2 ^ (i + 1) < 64) : (2 ^ i, 2 ^ i) ∈ prs := by
  have := two_pow_cases h
  have : i = 0 ∨ i = 1 ∨ i = 2 ∨ i = 3 ∨ i = 4 := by omega
  rcases this with e | e | e | e | e <;> subst e <;> decide
def prB (a b : Nat) : Bool := prs.any fun e => e.1 == a && e.2 == b
theorem prB_mem {a b : Nat} (h : prB a b = true) : (a, b) ∈ prs := by
  unfold prB at h
  obtain ⟨e, he, h⟩ := List.any_eq_true.mp h
  simp only [Bool.and_eq_true, beq_iff_eq] at h
  obtain ⟨rfl, rfl⟩ := h
  exact he
theorem hi_all : ((List.range 6).all fun i => (List.range 32).all fun m => m == 0 || Nat.ble 64 (2 ^ i * (2 * m + 1)) || prB (2 ^ i * (2 * m)) (2 ^ i)) = true := by decide +kernel
theorem lo_all : ((List.range 6).all fun i => (List.range 32).all fun r => r == 0 || Nat.ble (2 ^ i) r || Nat.ble 64 (r + 2 ^ i) || prB r (2 ^ i)) = true := by decide +kernel
theorem prs_hi {i m : Nat} (hm : 1 ≤ m) (h : 2 ^ i * (2 * m + 1) < 64) : (2 ^ i * (2 * m), 2 ^ i) ∈ prs := by
  have hp := Nat.two_pow_pos i
  have h1 : 2 ^ i < 64 := Nat.lt_of_le_of_lt (by rw [Nat.mul_succ]; exact Nat.le_add_left _ _) h
  have h2 : 2 * m + 1 < 64 := Nat.lt_of_le_of_lt (Nat.le_mul_of_pos_left _ hp) h
  have hi := two_pow_cases h1
  have := List.all_eq_true.mp (List.all_eq_true.mp hi_all i (List.mem_range.mpr (by omega))) m (List.mem_range.mpr (by omega))
  simp only [Bool.or_eq_true, beq_iff_eq, Nat.ble_eq] at this
  rcases this with (this | this) | this
  · omega
  · omega
  · exact prB_mem this
theorem prs_lo {i r : Nat} (hr : r < 2 ^ i) (h0 : r ≠ 0) (h : r + 2 ^ i < 64) : (r, 2 ^ i) ∈ prs := by
  have h1 : 2 ^ i < 64 := by omega
  have hi := two_pow_cases h1
  have := List.all_eq_true.mp (List.all_eq_true.mp lo_all i (List.mem_range.mpr (by omega))) r (List.mem_range.mpr (by omega))
  simp only [Bool.or_eq_true, beq_iff_eq, Nat.ble_eq] at this
  rcases this with ((this | this) | this) | this
  · omega
  · omega
  · omega
  · exact prB_mem this
theorem ptN_some {n : Nat} {d : α × α} (h : ptN (α := α) n = some d) : n ≠ 0 ∧ d.2 = cn (n % 128) := by
  unfold ptN at h
  split at h
  · cases h
  · rename_i hn; cases h; exact ⟨hn, rfl⟩
theorem tb_of (F : Fl α) (G : Gd q) {t W : Nat} {v : α} (hv : v ≠ 0) (h : chk1 q t W = true) : Tb (fun n => phi v (ptN (α := α) (dig W n))) ∧ dig W 1 = t * 128 + t := by
  obtain ⟨h1, h⟩ := cnd h
  obtain ⟨h2, h⟩ := cnd h
  obtain ⟨h3, h⟩ := cnd h
  obtain ⟨h4, h5⟩ := cnd h
  replace h1 := beqN h1
  replace h2 := beqN h2
  have hq : 0 < q := by have := G.lo; omega
  have sm := fun e he => Sm.phi F hv (chP_sm (α := α) hq h5 e he)
  refine ⟨⟨?_, ?_, ?_, ?_, ?_, ?_⟩, h2⟩
  · rw [h1]; rfl
  · intro n d hn hd
    try dsimp only at hd
    cases hp : ptN (α := α) (dig W n) with
    | none => rw [hp] at hd; cases hd
    | some e =>
      rw [hp] at hd
      cases hd
      obtain ⟨e1, e2⟩ := ptN_some hp
      try dsimp only
      rw [e2]
      exact F.mul (F.mul (F.mul hv hv) hv) (fun e => chY_ok h3 n hn e1 (cn_0.mp e))
  · intro i hi
    have hz := chZ_ok h4 (2 ^ i) (by
      rcases two_pow_cases hi with e | e | e | e | e | e <;> subst e <;> decide)
    unfold ptN
    rw [if_neg hz]
    intro e; cases e
  · intro i hi
    have := sm _ (prs_db hi)
    try dsimp only at this
    rw [← Nat.two_mul, Nat.mul_comm, ← Nat.pow_succ] at this
    exact this
  · intro i m hm hi
    exact sm _ (prs_hi hm hi)
  · intro i r hr hi
    by_cases e : r = 0
    · subst e
      try dsimp only
      rw [h1, Nat.zero_add]
      exact Sm.nl _
    · exact sm _ (prs_lo hr e hi)
theorem tb_zero (F : Fl α) {y : α} (hy : y ≠ 0) : Tb (fun n => if n % 3 = 0 then none else if n % 3 = 1 then some (0, y) else some ((0 : α), -y)) := by
  have hy' : -y ≠ 0 := by intro e; apply hy; grind
  have all : ∀ a b : Nat, Sm (if a % 3 = 0 then none else if a % 3 = 1 then some (0, y) else some ((0 : α), -y)) (if b % 3 = 0 then none else if b % 3 = 1 then some (0, y) else some ((0 : α), -y))
      (if (a + b) % 3 = 0 then none else if (a + b) % 3 = 1 then some (0, y) else some ((0 : α), -y)) := by
    intro a b
    rw [Nat.add_mod]
    have ha : a % 3 = 0 ∨ a % 3 = 1 ∨ a % 3 = 2 := by omega
    have hb : b % 3 = 0 ∨ b % 3 = 1 ∨ b % 3 = 2 := by omega
    rcases ha with ha | ha | ha <;> rcases hb with hb | hb | hb <;> rw [ha, hb]
    · exact Sm.nl _
    · exact Sm.nl _
    · exact Sm.nl _
    · exact Sm.nr _
    · exact Sm.dbl _ _ _ _ hy (by grind) (by grind)
    · exact Sm.opp _ _ _ (by grind)
    · exact Sm.nr _
    · exact Sm.opp _ _ _ (by grind)
    · exact Sm.dbl _ _ _ _ hy' (by grind) (by grind)
  refine ⟨rfl, ?_, ?_, ?_, ?_, ?_⟩
  · intro n d _ hd
    try dsimp only at hd
    split at hd
    · cases hd
    · split at hd <;> cases hd
      · exact hy
      · exact hy'
  · intro i hi
    rcases two_pow_cases hi with e | e | e | e | e | e <;> subst e <;> (intro h; cases h)
  · intro i hi
    have := all (2 ^ i) (2 ^ i)
    rw [← Nat.two_mul, Nat.mul_comm, ← Nat.pow_succ] at this
    exact this
  · intro i m _ _
    have := all (2 ^ i * (2 * m)) (2 ^ i)
    rw [← Nat.mul_succ] at this
    exact this
  · intro i r _ _
    exact all r (2 ^ i)
end
def badt (p t : Nat) : Bool := (t * t * (t + (p - 1)) % p == 0) || ((t * t * (t + (p - 1)) % p) ^ ((p - 1) / 3) % p == 1)
structure Pf (q : Nat) : Prop where
  g : Gd q
  pr : Pr (q : Int)
  frm : ∀ a, a < q → a ≠ 0 → a ^ (q - 1) % q = 1
  e3 : (q - 1) / 3 + (q - 1) / 3 + (q - 1) / 3 = q - 1
  pwe : ∀ a, a < q → Builtin.powMod a ((q - 1) / 3) q = a ^ ((q - 1) / 3) % q
  tab : ∀ t, t < q → badt q t = false → ∃ W, chk1 q t W = true
section
variable {α : Type} [CommRing α] {q : Nat} [IsCharP α q]
theorem cn_1 : cn (α := α) 1 = 1 := ct_1
theorem cn_pow (a k : Nat) : cn (α := α) (a ^ k) = cn a ^ k := by
  induction k with
  | zero => rw [Nat.pow_zero, Lean.Grind.Semiring.pow_zero]; exact cn_1
  | succ k ih => rw [Nat.pow_succ, Lean.Grind.Semiring.pow_succ, cn_mul, ih]
theorem cn_toNat (G : Gd q) (z : Int) : cn (α := α) (z % (q : Int)).toNat = ct z := by
  unfold cn
  rw [Int.toNat_of_nonneg (Int.emod_nonneg _ (by have := G.lo; omega))]; exact ct_emod z
theorem toNat_lt (G : Gd q) (z : Int) : (z % (q : Int)).toNat < q := by
  have := Int.emod_lt_of_pos z (show 0 < (q : Int) by have := G.lo; omega)
  have := Int.emod_nonneg z (show (q : Int) ≠ 0 by have := G.lo; omega)
  omega
theorem frm_ct (P : Pf q) {z : Int} (h : ct (α := α) z ≠ 0) : ct (α := α) z ^ (q - 1) = 1 := by
  rw [← cn_toNat P.g z, ← cn_pow, ← cn_1]
  refine cn_eq (q := q) ?_
  rw [P.frm _ (toNat_lt P.g z) (fun e => h (by rw [← cn_toNat P.g z, e]; exact ct_0))]
  exact (Nat.mod_eq_of_lt (by have := P.g.lo; omega)).symm
theorem cube_ct (P : Pf q) {z : Int} (h : ct (α := α) z ≠ 0) : ct (α := α) z ^ ((q - 1) / 3) * ct z ^ ((q - 1) / 3) * ct z ^ ((q - 1) / 3) = 1 := by
  rw [← Lean.Grind.Semiring.pow_add, ← Lean.Grind.Semiring.pow_add, P.e3]; exact frm_ct P h
theorem pw_e (P : Pf q) (z : Int) : ct (α := α) (pw z (((q : Int) - 1).fdiv 3) (q : Int)) = ct z ^ ((q - 1) / 3) := by
  have e : ((q : Int) - 1).fdiv 3 = (((q - 1) / 3 : Nat) : Int) := by
    have := P.g.lo
    rw [Int.fdiv_eq_ediv_of_nonneg _ (by decide)]; omega
  rw [e, pw_nat, P.pwe _ (toNat_lt P.g z)]
  show cn (_ % q) = _
  rw [cn_eq (q := q) (Nat.mod_mod _ _), cn_pow, cn_toNat P.g]
theorem pw_one (P : Pf q) {z : Int} (h : ct (α := α) z ^ ((q - 1) / 3) = 1) : pw z (((q : Int) - 1).fdiv 3) (q : Int) = 1 := by
  have h1 : 1 < (q : Int) := by have := P.g.lo; omega
  refine ct_inj (α := α) (q := q) (pw_nonneg _ _ _) (pw_lt _ _ h1) (by decide) h1 ?_
  rw [pw_e P, h]; exact ct_1.symm
theorem idt1 (X u Y B : α) (hu : Y * u = 1) (h : Y * Y = X * X * X + B) : X * X * X * (u * u) * (X * X * X * (u * u)) * (X * X * X * (u * u) - 1) = (X * u) * (X * u) * (X * u) * ((X * u) * (X * u) * (X * u)) * (0 - B) := by
  have e : B = Y * Y - X * X * X := by clear hu; grind
  subst e
  clear h
  have e1 : X * X * X * (u * u) - 1 = (u * u) * (X * X * X - Y * Y) := by grind
  rw [e1]
  clear e1 hu
  grind
theorem idt2 (X u Y w : α) (hu : Y * u = 1) (hw : X * w = 1) : Y * w * (Y * w) * (X * X * X * (u * u)) = X ∧ Y * w * (Y * w) * (Y * w) * (X * X * X * (u * u)) = Y := by
  have e : ∀ a b : α, a * b = 1 → ∀ c : α, a * b * c = c := by intro a b h c; rw [h]; exact Lean.Grind.Semiring.one_mul c
  have e1 : Y * w * (Y * w) * (X * X * X * (u * u)) = X := by
    have : Y * w * (Y * w) * (X * X * X * (u * u)) = (Y * u) * ((Y * u) * ((X * w) * ((X * w) * X))) := by clear hu hw e; grind
    rw [this, e _ _ hu, e _ _ hu, e _ _ hw, e _ _ hw]
  refine ⟨e1, ?_⟩
  have : Y * w * (Y * w) * (Y * w) * (X * X * X * (u * u)) = (Y * w) * (Y * w * (Y * w) * (X * X * X * (u * u))) := by clear hu hw e e1; grind
  rw [this, e1]
  have : Y * w * X = X * w * Y := by clear hu hw e e1; grind
  rw [this, e _ _ hw]
theorem onC_ct {b x y : Int} (h : OnC (q : Int) b x y) : ct (α := α) y * ct y = ct x * ct x * ct x + ct b := by
  rw [← ct_mul, ← ct_mul, ← ct_mul, ← ct_add]
  exact (ct_eq (q := q)).mpr h.2.2.2.2
theorem main_tb (F : Fl α) (P : Pf q) {b x y : Int} (hb0 : 0 ≤ b) (hb1 : b < (q : Int)) (hg : goodB (q : Int) b) (h : OnC (q : Int) b x y) : ∃ T : Nat → Option (α × α), Tb T ∧ T 1 = cst (some (x, y)) := by
  have hc := onC_ct (α := α) h
  obtain ⟨h0, h1, h2, h3, _⟩ := h
  have hy : ct (α := α) y ≠ 0 := fun e => by rw [ct_z0 (q := q) (by omega) h3] at e; omega
  by_cases hx : ct (α := α) x = 0
  · refine ⟨_, tb_zero F hy, ?_⟩
    show some _ = some _
    rw [hx]
  · have hu := pw_inv (α := α) P.g hy
    have hw := pw_inv (α := α) P.g hx
    generalize pw y ((q : Int) - 2) (q : Int) = u at hu
    generalize pw x ((q : Int) - 2) (q : Int) = w at hw
    have hu0 : ct (α := α) u ≠ 0 := by
      intro e; rw [e, Lean.Grind.Semiring.mul_zero] at hu; exact F.one hu.symm
    have hw0 : ct (α := α) w ≠ 0 := by
      intro e; rw [e, Lean.Grind.Semiring.mul_zero] at hw; exact F.one hw.symm
    have htq := toNat_lt P.g (x * x * x * (u * u))
    have hτ : cn (α := α) ((x * x * x * (u * u)) % (q : Int)).toNat = ct x * ct x * ct x * (ct u * ct u) := by
      rw [cn_toNat P.g, ct_mul, ct_mul, ct_mul, ct_mul]
    generalize ((x * x * x * (u * u)) % (q : Int)).toNat = t at htq hτ
    have hτ0 : cn (α := α) t ≠ 0 := by rw [hτ]; exact F.mul (F.mul (F.mul hx hx) hx) (F.mul hu0 hu0)
    have hcc : cn (α := α) (t * t * (t + (q - 1)) % q) = (ct x * ct u) * (ct x * ct u) * (ct x * ct u) * ((ct x * ct u) * (ct x * ct u) * (ct x * ct u)) * (0 - ct b) := by
      rw [cn_eq (q := q) (Nat.mod_mod _ _), cn_mul, cn_mul, cn_add, cn_sub (by have := P.g.lo; omega), cn_p (q := q), cn_1, hτ, ← idt1 _ _ _ _ hu hc]
      congr 1
      generalize ct (α := α) x * ct x * ct x * (ct u * ct u) = k
      clear hτ hτ0 hc hu hw
      grind
    have hB : ct (α := α) b ≠ 0 := fun e => hg.1 ((ct_z0 (q := q) hb0 hb1).mp e)
    have hbad : badt q t = false := by
      cases hbt : badt q t with
      | false => rfl
      | true =>
        exfalso
        unfold badt at hbt
        simp only [Bool.or_eq_true, beq_iff_eq] at hbt
        have hgu : ct (α := α) (x * u) ≠ 0 := by rw [ct_mul]; exact F.mul hx hu0
        rw [← ct_mul] at hcc
        rcases hbt with e | e
        · rw [e] at hcc
          have hcc : (0 : α) = _ := (ct_0 (α := α)).symm.trans hcc
          refine F.mul (F.mul (F.mul (F.mul hgu hgu) hgu) (F.mul (F.mul hgu hgu) hgu)) ?_ hcc.symm
          intro e2; apply hB; clear hcc; grind
        · have e2 := congrArg (cn (α := α)) e
          rw [cn_eq (q := q) (Nat.mod_mod _ _), cn_pow, hcc, cn_1] at e2
          simp only [Lean.Grind.CommSemiring.mul_pow] at e2
          have e3 := cube_ct P hgu
          rw [e3] at e2
          refine hg.2 (pw_one (α := α) P ?_)
          rw [ct_sub, ct_p]
          rw [Lean.Grind.Semiring.one_mul, Lean.Grind.Semiring.one_mul] at e2
          exact e2
    obtain ⟨W, hW⟩ := P.tab t htq hbad
    obtain ⟨B, hd⟩ := tb_of F P.g (v := ct y * ct w) (F.mul hy hw0) hW
    refine ⟨_, B, ?_⟩
    show phi (ct y * ct w) (ptN (dig W 1)) = _
    rw [hd]
    have ht0 : t * 128 + t ≠ 0 := by
      intro e
      have : t = 0 := by omega
      subst this
      exact hτ0 ct_0
    have ht1 : t < 128 := by have := P.g.hi; omega
    unfold ptN
    rw [if_neg ht0]
    have e1 : (t * 128 + t) / 128 = t := by omega
    have e2 : (t * 128 + t) % 128 = t := by omega
    rw [e1, e2]
    show some _ = some _
    dsimp only
    rw [hτ, (idt2 _ _ _ _ hu hw).1, (idt2 _ _ _ _ hu hw).2]
theorem eqF_ct {P1 P2 : Int × Int × Int} : eqF (q : Int) P1 P2 = true ↔ ct (α := α) P1.1 * ct P2.2.2 = ct P2.1 * ct P1.2.2 ∧ ct (α := α) P1.2.1 * ct P2.2.2 = ct P2.2.1 * ct P1.2.2 := by
  unfold eqF
  rw [Bool.and_eq_true, beq_iff_eq, beq_iff_eq, mm_eq (α := α), mm_eq (α := α)]
theorem eqF_no {P1 P2 : Int × Int × Int} (h : ct (α := α) P1.1 * ct P2.2.2 = ct P2.1 * ct P1.2.2 → ct (α := α) P1.2.1 * ct P2.2.2 = ct P2.2.1 * ct P1.2.2 → False) : eqF (q : Int) P1 P2 = false := by
  cases e : eqF (q : Int) P1 P2 with
  | false => rfl
  | true => exact absurd (eqF_ct (α := α).mp e) (fun hh => h hh.1 hh.2)
theorem Bd.tm {p : Int} (hP : Pr p) : ∀ (k : Nat) (t o : Option (Int × Int)) (n : Int), Bd p t → Bd p o → Bd p (TmF p k t o n)
  | 0, _, _, _, h, _ => h
  | k + 1, t, o, n, h, ho => by
    rw [TmF]
    split
    · refine Bd.tm hP k _ _ _ ?_ (Bd.sum hP ho ho)
      split
      · exact Bd.sum hP h ho
      · exact h
    · exact h
theorem sum_ne (F : Fl α) {d a : Int × Int} (hd : ct (α := α) d.2 ≠ 0) : sumF (q : Int) (some d) (some a) ≠ some d := by
  intro h
  by_cases e : d.1 = a.1 ∧ (d.2 + a.2).fmod (q : Int) = 0
  · have hs : sumF (q : Int) (some d) (some a) = none := if_pos e
    rw [hs] at h; cases h
  · have hs : sumF (q : Int) (some d) (some a) = _ := if_neg e
    rw [hs] at h
    generalize (if d = a then _ else _ : Int) = m at h
    have h := Option.some.inj h
    have h1 := congrArg Prod.fst h
    have h2 := congrArg Prod.snd h
    dsimp only at h1 h2
    rw [h1, Int.sub_self, Int.mul_zero] at h2
    have h2 := congrArg (ct (α := α)) h2
    rw [ct_fmod, ct_sub, ct_0] at h2
    exact hd (F.zd (a := 2) (by grind) F.two)
theorem made_ct (G : Gd q) {a : Int × Int} {sc fr : Int} (hs0 : 1 ≤ sc) (hs1 : sc < (q : Int)) : RpI (α := α) q (cst (some a)) (madeF (q : Int) (some a) sc fr) := by
  have hm : sc.fmod (q : Int) = sc := by rw [Int.fmod_eq_emod_of_nonneg _ (by omega)]; exact Int.emod_eq_of_lt (by omega) hs1
  refine ⟨⟨?_, ?_, ?_⟩, ?_, fun e => nomatch e⟩
  · show ct (sc.fmod (q : Int)) ≠ 0
    rw [hm]
    intro e
    rw [ct_z0 (q := q) (by omega) hs1] at e
    omega
  · show ct ((a.1 * sc).fmod (q : Int)) = ct a.1 * ct (sc.fmod (q : Int))
    rw [ct_fmod, ct_fmod, ct_mul]
  · show ct ((a.2 * sc).fmod (q : Int)) = ct a.2 * ct (sc.fmod (q : Int))
    rw [ct_fmod, ct_fmod, ct_mul]
  · show 0 ≤ sc.fmod (q : Int) ∧ sc.fmod (q : Int) < (q : Int)
    rw [hm]
    omega
theorem eq_none {α : Type} [CommRing α] {q : Nat} [IsCharP α q] {T : Int × Int × Int} (hT : T.2.2 = 0) (s2 : Int) : eqF (q : Int) T (madeF (q : Int) none s2 1) = true := by
  rw [eqF_ct (α := α)]
  show ct T.1 * ct ((0 : Int).fmod (q : Int)) = _ * _ ∧ ct T.2.1 * ct ((0 : Int).fmod (q : Int)) = _ * _
  rw [ct_fmod, hT, ct_0]
  constructor <;> simp only [Lean.Grind.Semiring.mul_zero]
theorem factsN_q (F : Fl α) (P : Pf q) {b sc fr : Int} {n : Nat} {a : Int × Int} (hg : goodB (q : Int) b) (hb0 : 0 ≤ b) (hb1 : b < (q : Int)) (ho : OnC (q : Int) b a.1 a.2) (hs0 : 1 ≤ sc) (hs1 : sc < (q : Int)) (hn1 : n < 64)
    (hD : TmF (q : Int) 6 none (some a) (n : Int) = none) : FactsN (q : Int) (some a) (mulF (q : Int) 6 (madeF (q : Int) (some a) sc fr) (n : Int)) := by
  obtain ⟨T, B, hT⟩ := main_tb (α := α) F P hb0 hb1 hg ho
  have hBd : Bd (q : Int) (some a) := Bd.of_onC (b := b) (fun q' h => by cases h; exact ho)
  have h1 := times_tb F P.g P.pr B 6 0 0 n none (some a) (by simpa using hn1) (by decide) (by simpa using hn1) (fun _ => ⟨hBd, hT.symm⟩) (fun q' h => nomatch h) B.z.symm
  have h2 := mul_tb F P.g B 6 0 n (madeF (q : Int) (some a) sc fr) (by simpa using hn1) (by simpa using hn1) (by decide) (by rw [Nat.pow_zero, hT]; exact made_ct P.g hs0 hs1)
  rw [hD] at h1
  rw [Nat.zero_add] at h1
  rw [← h1] at h2
  have hR := h2.2.2 rfl
  generalize mulF (q : Int) 6 (madeF (q : Int) (some a) sc fr) (n : Int) = R at hR
  subst hR
  refine ⟨rfl, fun s2 _ _ => eq_none (α := α) rfl s2, ?_⟩
  intro a' ha'
  cases ha'
  refine eqF_no (α := α) fun e _ => ?_
  have e : ct (α := α) 1 * ct ((1 : Int).fmod (q : Int)) = ct ((a.1 * 1).fmod (q : Int)) * ct 0 := e
  rw [ct_fmod, ct_0, ct_1, Lean.Grind.Semiring.mul_zero, Lean.Grind.Semiring.mul_one] at e
  exact F.one e
theorem factsS_q (F : Fl α) (P : Pf q) {b sc fr : Int} {n : Nat} {a d : Int × Int} (hg : goodB (q : Int) b) (hb0 : 0 ≤ b) (hb1 : b < (q : Int)) (ho : OnC (q : Int) b a.1 a.2) (hs0 : 1 ≤ sc) (hs1 : sc < (q : Int)) (hn1 : n < 64)
    (hD : TmF (q : Int) 6 none (some a) (n : Int) = some d) : FactsS (q : Int) (some a) d (mulF (q : Int) 6 (madeF (q : Int) (some a) sc fr) (n : Int)) := by
  obtain ⟨T, B, hT⟩ := main_tb (α := α) F P hb0 hb1 hg ho
  have hBd : Bd (q : Int) (some a) := Bd.of_onC (b := b) (fun q' h => by cases h; exact ho)
  have h1 := times_tb F P.g P.pr B 6 0 0 n none (some a) (by simpa using hn1) (by decide) (by simpa using hn1) (fun _ => ⟨hBd, hT.symm⟩) (fun q' h => nomatch h) B.z.symm
  have h2 := mul_tb F P.g B 6 0 n (madeF (q : Int) (some a) sc fr) (by simpa using hn1) (by simpa using hn1) (by decide) (by rw [Nat.pow_zero, hT]; exact made_ct P.g hs0 hs1)
  rw [hD] at h1
  rw [Nat.zero_add] at h1
  have hny := B.ny (2 ^ 0 * n) (ct d.1, ct d.2) (by simpa using hn1) h1.symm
  rw [← h1] at h2
  have hdB := Bd.tm P.pr 6 none (some a) (n : Int) (fun q' h => nomatch h) hBd
  rw [hD] at hdB
  obtain ⟨⟨d1, d2⟩, ⟨d3, d4⟩⟩ := hdB d rfl
  generalize mulF (q : Int) 6 (madeF (q : Int) (some a) sc fr) (n : Int) = R at h2
  obtain ⟨⟨hZ, hX, hY⟩, _, _⟩ := h2
  dsimp only at hX hY hny
  have m1 : ∀ x : α, x * 1 = x := Lean.Grind.Semiring.mul_one
  have hq1 : ct (α := α) ((1 : Int).fmod (q : Int)) = 1 := by rw [ct_fmod, ct_1]
  refine ⟨?_, ?_, ?_, ?_, ?_⟩
  · rw [beq_eq_false_iff_ne]
    intro e; rw [e] at hZ; exact hZ ct_0
  · have hu := pw_inv (α := α) P.g hZ
    have hq : 0 < (q : Int) := by have := P.g.lo; omega
    unfold toldF
    generalize pw R.2.2 ((q : Int) - 2) (q : Int) = u at hu
    have e1 : (R.1 * u).fmod (q : Int) = d.1 := by
      refine ct_inj (α := α) (q := q) (Int.fmod_nonneg_of_pos _ hq) (Int.fmod_lt_of_pos _ hq) d1 d2 ?_
      rw [ct_fmod, ct_mul, hX, Lean.Grind.Semiring.mul_assoc, hu, m1]
    have e2 : (R.2.1 * u).fmod (q : Int) = d.2 := by
      refine ct_inj (α := α) (q := q) (Int.fmod_nonneg_of_pos _ hq) (Int.fmod_lt_of_pos _ hq) d3 d4 ?_
      rw [ct_fmod, ct_mul, hY, Lean.Grind.Semiring.mul_assoc, hu, m1]
    rw [e1, e2]
  · intro s2 _ _
    rw [eqF_ct (α := α)]
    show ct R.1 * ct (s2.fmod (q : Int)) = ct ((d.1 * s2).fmod (q : Int)) * ct R.2.2 ∧ ct R.2.1 * ct (s2.fmod (q : Int)) = ct ((d.2 * s2).fmod (q : Int)) * ct R.2.2
    rw [ct_fmod, ct_fmod, ct_fmod, ct_mul, ct_mul, hX, hY]
    clear hX hY hZ h1 hny
    constructor <;> grind
  · intro a' ha'
    cases ha'
    cases hs : sumF (q : Int) (some d) (some a) with
    | none =>
      refine eqF_no (α := α) fun e _ => ?_
      have e : ct (α := α) R.1 * ct ((0 : Int).fmod (q : Int)) = ct ((1 : Int).fmod (q : Int)) * ct R.2.2 := e
      rw [ct_fmod, ct_0, hq1, Lean.Grind.Semiring.mul_zero, Lean.Grind.Semiring.one_mul] at e
      exact hZ e.symm
    | some f =>
      refine eqF_no (α := α) fun e e' => ?_
      have e : ct (α := α) R.1 * ct ((1 : Int).fmod (q : Int)) = ct ((f.1 * 1).fmod (q : Int)) * ct R.2.2 := e
      have e' : ct (α := α) R.2.1 * ct ((1 : Int).fmod (q : Int)) = ct ((f.2 * 1).fmod (q : Int)) * ct R.2.2 := e'
      rw [hq1, ct_fmod, Int.mul_one, m1, hX] at e
      rw [hq1, ct_fmod, Int.mul_one, m1, hY] at e'
      have g1 : ct (α := α) d.1 = ct f.1 := F.cancel (a := ct R.2.2) (by rw [Lean.Grind.CommSemiring.mul_comm, e, Lean.Grind.CommSemiring.mul_comm]) hZ
      have g2 : ct (α := α) d.2 = ct f.2 := F.cancel (a := ct R.2.2) (by rw [Lean.Grind.CommSemiring.mul_comm, e', Lean.Grind.CommSemiring.mul_comm]) hZ
      obtain ⟨⟨f1, f2⟩, ⟨f3, f4⟩⟩ := Bd.sum P.pr hdB hBd f hs
      have k1 := ct_inj (q := q) d1 d2 f1 f2 g1
      have k2 := ct_inj (q := q) d3 d4 f3 f4 g2
      refine sum_ne (α := α) (q := q) F hny (a := a) ?_
      rw [hs]
      exact congrArg some (Prod.ext k1.symm k2.symm)
  · refine eqF_no (α := α) fun _ e => ?_
    have e : ct (α := α) R.2.1 * ct ((1 : Int).fmod (q : Int)) = ct ((((q : Int) - d.2) * 1).fmod (q : Int)) * ct R.2.2 := e
    rw [hq1, ct_fmod, Int.mul_one, m1, hY, ct_sub, ct_p] at e
    have e : 2 * (ct (α := α) d.2 * ct R.2.2) = 0 := by clear hX hY hZ h1 hny; grind
    exact F.mul F.two (F.mul hny hZ) e
end
theorem ct_val {q : Nat} [NeZero q] (a : Fin q) : ct (α := Fin q) (a.val : Int) = a := by
  have h : ct (α := Fin q) (a.val : Int) = Fin.ofNat q a.val := Lean.Grind.Ring.intCast_natCast (α := Fin q) a.val
  rw [h]
  exact Fin.ext (Nat.mod_eq_of_lt a.isLt)
theorem fl_of {q : Nat} [NeZero q] (G : Gd q) : Fl (Fin q) where
  inv a h := ⟨ct (pw (a.val : Int) ((q : Int) - 2) (q : Int)), by
    have := pw_inv (α := Fin q) G (z := (a.val : Int)) (by rw [ct_val]; exact h)
    rw [ct_val] at this; exact this⟩
  two := by
    rw [← ct_2 (α := Fin q)]
    intro e
    rw [ct_z0 (q := q) (by decide) (by have := G.lo; omega)] at e
    exact absurd e (by decide)
  one := by
    rw [← ct_1 (α := Fin q)]
    intro e
    rw [ct_z0 (q := q) (by decide) (by have := G.lo; omega)] at e
    exact absurd e (by decide)
def inT (t : Nat) : List (Nat × Nat) → Bool
  | [] => false
  | e :: l => cond (Nat.beq e.1 t) true (inT t l)
theorem inT_ok {p t : Nat} : ∀ {l : List (Nat × Nat)}, chA p l = true → inT t l = true → ∃ W, chk1 p t W = true
  | [], _, h => nomatch h
  | e :: l, h, hm => by
    obtain ⟨h1, h2⟩ := cnd h
    unfold inT at hm
    cases hb : Nat.beq e.1 t with
    | true => exact ⟨e.2, beqN hb ▸ h1⟩
    | false => rw [hb] at hm; exact inT_ok h2 hm
def inS (t : Nat) : List (List (Nat × Nat)) → Bool
  | [] => false
  | l :: r => cond (inT t l) true (inS t r)
theorem inS_ok {p t : Nat} : ∀ {r : List (List (Nat × Nat))}, (∀ l ∈ r, chA p l = true) → inS t r = true → ∃ W, chk1 p t W = true
  | [], _, h => nomatch h
  | l :: r, h, hm => by
    unfold inS at hm
    cases hb : inT t l with
    | true => exact inT_ok (h l (.head _)) hb
    | false => rw [hb] at hm; exact inS_ok (fun l' hl => h l' (.tail _ hl)) hm
def fInv (q a : Nat) : Bool := Nat.beq a 0 || Nat.beq (a * Builtin.powMod a (q - 2) q % q) 1
def fFrm (q a : Nat) : Bool := Nat.beq a 0 || Nat.beq (a ^ (q - 1) % q) 1
def fPwe (q a : Nat) : Bool := Nat.beq (Builtin.powMod a ((q - 1) / 3) q) (a ^ ((q - 1) / 3) % q)
theorem ch_nil {q : Nat} : ∀ l ∈ ([] : List (List (Nat × Nat))), chA q l = true := fun _ h => nomatch h
theorem ch_cons {q : Nat} {l : List (Nat × Nat)} {r : List (List (Nat × Nat))} (h : chA q l = true) (hr : ∀ l ∈ r, chA q l = true) : ∀ l' ∈ l :: r, chA q l' = true := by
  intro l' hl
  rcases List.mem_cons.mp hl with e | e
  · exact e ▸ h
  · exact hr l' e
theorem pf_of {q : Nat} {r : List (List (Nat × Nat))} (h0 : 7 ≤ q) (h1 : q < 128) (hp : Pr (q : Int)) (hi : fall q (fInv q) q = true) (hf : fall q (fFrm q) q = true) (he : (q - 1) / 3 + (q - 1) / 3 + (q - 1) / 3 = q - 1)
    (hw : fall q (fPwe q) q = true) (ht : fall q (fun t => badt q t || inS t r) q = true) (hr : ∀ l ∈ r, chA q l = true) : Pf q where
  g := ⟨h0, h1, fun a ha hn => by
    have := fall_ok hi a ha
    unfold fInv at this
    rcases Bool.or_eq_true_iff.mp this with h | h
    · exact absurd (beqN h) hn
    · exact beqN h⟩
  pr := hp
  frm a ha hn := by
    have := fall_ok hf a ha
    unfold fFrm at this
    rcases Bool.or_eq_true_iff.mp this with h | h
    · exact absurd (beqN h) hn
    · exact beqN h
  e3 := he
  pwe a ha := beqN (fall_ok hw a ha)
  tab t h hb := by
    have := fall_ok ht t h
    rw [hb, Bool.false_or] at this
    exact inS_ok hr this
theorem pf7 : Pf 7 := pf_of (r := [tab7n0]) (by decide) (by decide) (by unfold Pr; decide) (by decide +kernel) (by decide +kernel) (by decide) (by decide +kernel) (by decide +kernel) (ch_cons chk7n0 ch_nil)
theorem pf19 : Pf 19 := pf_of (r := [tab19n0]) (by decide) (by decide) (by unfold Pr; decide) (by decide +kernel) (by decide +kernel) (by decide) (by decide +kernel) (by decide +kernel) (ch_cons chk19n0 ch_nil)
theorem pf31 : Pf 31 := pf_of (r := [tab31n0, tab31n1]) (by decide) (by decide) (by unfold Pr; decide) (by decide +kernel) (by decide +kernel) (by decide) (by decide +kernel) (by decide +kernel) (ch_cons chk31n0 (ch_cons chk31n1 ch_nil))
theorem pf43 : Pf 43 := pf_of (r := [tab43n0, tab43n1]) (by decide) (by decide) (by unfold Pr; decide) (by decide +kernel) (by decide +kernel) (by decide) (by decide +kernel) (by decide +kernel) (ch_cons chk43n0 (ch_cons chk43n1 ch_nil))
theorem pf67 : Pf 67 := pf_of (r := [tab67n0, tab67n1, tab67n2, tab67n3]) (by decide) (by decide) (by unfold Pr; decide) (by decide +kernel) (by decide +kernel) (by decide) (by decide +kernel) (by decide +kernel) (ch_cons chk67n0 (ch_cons chk67n1 (ch_cons chk67n2 (ch_cons chk67n3 ch_nil))))
theorem pf79 : Pf 79 := pf_of (r := [tab79n0, tab79n1, tab79n2, tab79n3]) (by decide) (by decide) (by unfold Pr; decide) (by decide +kernel) (by decide +kernel) (by decide) (by decide +kernel) (by decide +kernel) (ch_cons chk79n0 (ch_cons chk79n1 (ch_cons chk79n2 (ch_cons chk79n3 ch_nil))))
theorem pf103 : Pf 103 := pf_of (r := [tab103n0, tab103n1, tab103n2, tab103n3, tab103n4]) (by decide) (by decide) (by unfold Pr; decide) (by decide +kernel) (by decide +kernel) (by decide) (by decide +kernel) (by decide +kernel) (ch_cons chk103n0 (ch_cons chk103n1 (ch_cons chk103n2 (ch_cons chk103n3 (ch_cons chk103n4 ch_nil)))))
theorem pf127 : Pf 127 := pf_of (r := [tab127n0, tab127n1, tab127n2, tab127n3, tab127n4, tab127n5]) (by decide) (by decide) (by unfold Pr; decide) (by decide +kernel) (by decide +kernel) (by decide) (by decide +kernel) (by decide +kernel) (ch_cons chk127n0 (ch_cons chk127n1 (ch_cons chk127n2 (ch_cons chk127n3 (ch_cons chk127n4 (ch_cons chk127n5 ch_nil))))))
theorem factsN_p {q : Nat} [NeZero q] (P : Pf q) {b sc fr n : Int} {o : Option (Int × Int)} (hg : goodB (q : Int) b) (hb0 : 0 ≤ b) (hb1 : b < (q : Int)) (ho : ∀ d, o = some d → OnC (q : Int) b d.1 d.2) (hs0 : 1 ≤ sc) (hs1 : sc < (q : Int)) (hn0 : 0 ≤ n) (hn1 : n < 2 ^ 6)
    (hD : TmF (q : Int) 6 none o n = none) : FactsN (q : Int) o (mulF (q : Int) 6 (madeF (q : Int) o sc fr) n) := by
  obtain ⟨m, rfl⟩ := Int.eq_ofNat_of_zero_le hn0
  cases o with
  | some a => exact factsN_q (α := Fin q) (fl_of P.g) P hg hb0 hb1 (ho _ rfl) hs0 hs1 (by omega) hD
  | none =>
    have hz : ∀ (k : Nat) (n : Int) (T : Int × Int × Int), T.2.2 = 0 → (mulF (q : Int) k T n).2.2 = 0 := by
      have hd : ∀ T : Int × Int × Int, T.2.2 = 0 → (dblF (q : Int) T).2.2 = 0 := by
        intro T hT
        show mm (q : Int) (mm (q : Int) (mm (q : Int) T.2.1 T.2.2) 8) _ = 0
        rw [hT]
        unfold mm
        simp
      intro k
      induction k with
      | zero => intro n T _; rfl
      | succ k ih =>
        intro n T hT
        rw [mulF]
        split
        · rfl
        · split
          · exact hT
          · split
            · exact ih _ _ (hd T hT)
            · rw [addF_l hT]; exact ih _ _ (hd T hT)
    have h0 := hz 6 (m : Int) (madeF (q : Int) none sc fr) (by show (0 : Int).fmod (q : Int) = 0; exact Int.zero_fmod _)
    refine ⟨?_, fun s2 _ _ => eq_none (α := Fin q) h0 s2, fun a h => nomatch h⟩
    show (_ == (0 : Int)) = true
    rw [beq_iff_eq]; exact h0
theorem factsS_p {q : Nat} [NeZero q] (P : Pf q) {b sc fr n : Int} {o : Option (Int × Int)} {d : Int × Int} (hg : goodB (q : Int) b) (hb0 : 0 ≤ b) (hb1 : b < (q : Int)) (ho : ∀ d, o = some d → OnC (q : Int) b d.1 d.2) (hs0 : 1 ≤ sc) (hs1 : sc < (q : Int)) (hn0 : 0 ≤ n) (hn1 : n < 2 ^ 6)
    (hD : TmF (q : Int) 6 none o n = some d) : FactsS (q : Int) o d (mulF (q : Int) 6 (madeF (q : Int) o sc fr) n) := by
  obtain ⟨m, rfl⟩ := Int.eq_ofNat_of_zero_le hn0
  cases o with
  | none => rw [TmF_none] at hD; cases hD
  | some a => exact factsS_q (α := Fin q) (fl_of P.g) P hg hb0 hb1 (ho _ rfl) hs0 hs1 (by omega) hD
theorem prime_pf {p : Int} (hP : Pr p) : ∃ q : Nat, p = (q : Int) ∧ q ≠ 0 ∧ Pf q := by
  rcases hP with e | e | e | e | e | e | e | e
  · exact ⟨7, e, by decide, pf7⟩
  · exact ⟨19, e, by decide, pf19⟩
  · exact ⟨31, e, by decide, pf31⟩
  · exact ⟨43, e, by decide, pf43⟩
  · exact ⟨67, e, by decide, pf67⟩
  · exact ⟨79, e, by decide, pf79⟩
  · exact ⟨103, e, by decide, pf103⟩
  · exact ⟨127, e, by decide, pf127⟩
theorem factsN {p b sc fr n : Int} {o : Option (Int × Int)} (hP : Pr p) (hg : goodB p b) (hb0 : 0 ≤ b) (hb1 : b < p) (ho : ∀ q, o = some q → OnC p b q.1 q.2) (hs0 : 1 ≤ sc) (hs1 : sc < p) (hn0 : 0 ≤ n) (hn1 : n < 2 ^ 6)
    (hD : TmF p 6 none o n = none) : FactsN p o (mulF p 6 (madeF p o sc fr) n) := by
  obtain ⟨q, rfl, h0, P⟩ := prime_pf hP
  haveI : NeZero q := ⟨h0⟩
  exact factsN_p P hg hb0 hb1 ho hs0 hs1 hn0 hn1 hD
theorem factsS {p b sc fr n : Int} {o : Option (Int × Int)} {d : Int × Int} (hP : Pr p) (hg : goodB p b) (hb0 : 0 ≤ b) (hb1 : b < p) (ho : ∀ q, o = some q → OnC p b q.1 q.2) (hs0 : 1 ≤ sc) (hs1 : sc < p) (hn0 : 0 ≤ n) (hn1 : n < 2 ^ 6)
    (hD : TmF p 6 none o n = some d) : FactsS p o d (mulF p 6 (madeF p o sc fr) n) := by
  obtain ⟨q, rfl, h0, P⟩ := prime_pf hP
  haveI : NeZero q := ⟨h0⟩
  exact factsS_p P hg hb0 hb1 ho hs0 hs1 hn0 hn1 hD
end
theorem mulLN {f : Addr} {w : World} {p : Program} {loose : List Str} {mean : ExcName → Option Value} {mg mb : Str → Option Value}
   {dp un : Nat} {gd : Option (List Code)} {cn : Str} {cs : Scope} {a : Addr} {ccd : Value} {cl : List (Str × Addr)} {outer : List Env} {A₀ : Around} {base h₀ : Heap} {L : Addr} {m : Str → Option Value} {s : Shared} {Q E : Value → Shared → Prop} {news : List (Addr × Obj)} {ta : Addr} {pp n b sc fr : Int} {tn : Tok} {o : Option (Int × Int)} (C : MulSpec w f 6)
    (B : Below A₀ base outer h₀) (F : Fr h₀ L s.heap m) (X : (hd.heap_39 w.params).In h₀) (N : News h₀ L s.heap news) (T : Top p loose mean mg mb h₀) (hk : cs.kind = .function)
    (hA : PtIn w pp news ta (madeF pp o sc fr)) (hn0 : 0 ≤ n) (hn1 : n < 2 ^ 6) (hD : TmF pp 6 none o n = none) (hP : Pr pp) (hg : goodB pp b) (hb0 : 0 ≤ b) (hb1 : b < pp) (ho : ∀ q, o = some q → OnC pp b q.1 q.2) (hs0 : 1 ≤ sc) (hs1 : sc < pp)
    (hd : dp + (6 + 20) < recursionLimit) (hu : un + (6 * 8 + 150) < cLine)
    (ret : ∀ (R : Int × Int × Int) (t' : Addr) (tl : List (Addr × Obj)) (h' : Heap) (tk' : Nat), FactsN pp o R → Fr h₀ L h' m → News h₀ L h' (tl ++ news) → PtIn w pp (tl ++ news) t' R → Q (.ref t') { s with heap := h', toks := tk' }) :
    wpAny (model PySem.Challenge.rw_lh0029_01.row.prog w) (ktrTop dp un gd cn cs L a ccd cl outer) (call (.ref f) [.ref ta, .int n tn]) Q E s :=
  mulUse C B F X N T hk hA hP.pos hP.gt hP.lt hn0 hn1 hd hu fun t' tl h' tk' F' N' P' => ret _ t' tl h' tk' (factsN hP hg hb0 hb1 ho hs0 hs1 hn0 hn1 hD) F' N' P'
theorem mulLS {f : Addr} {w : World} {p : Program} {loose : List Str} {mean : ExcName → Option Value} {mg mb : Str → Option Value}
   {dp un : Nat} {gd : Option (List Code)} {cn : Str} {cs : Scope} {a : Addr} {ccd : Value} {cl : List (Str × Addr)} {outer : List Env} {A₀ : Around} {base h₀ : Heap} {L : Addr} {m : Str → Option Value} {s : Shared} {Q E : Value → Shared → Prop} {news : List (Addr × Obj)} {ta : Addr} {pp n b sc fr : Int} {tn : Tok} {o : Option (Int × Int)} {d : Int × Int} (C : MulSpec w f 6)
    (B : Below A₀ base outer h₀) (F : Fr h₀ L s.heap m) (X : (hd.heap_39 w.params).In h₀) (N : News h₀ L s.heap news) (T : Top p loose mean mg mb h₀) (hk : cs.kind = .function)
    (hA : PtIn w pp news ta (madeF pp o sc fr)) (hn0 : 0 ≤ n) (hn1 : n < 2 ^ 6) (hD : TmF pp 6 none o n = some d) (hP : Pr pp) (hg : goodB pp b) (hb0 : 0 ≤ b) (hb1 : b < pp) (ho : ∀ q, o = some q → OnC pp b q.1 q.2) (hs0 : 1 ≤ sc) (hs1 : sc < pp)
    (hd : dp + (6 + 20) < recursionLimit) (hu : un + (6 * 8 + 150) < cLine)
    (ret : ∀ (R : Int × Int × Int) (t' : Addr) (tl : List (Addr × Obj)) (h' : Heap) (tk' : Nat), FactsS pp o d R → Fr h₀ L h' m → News h₀ L h' (tl ++ news) → PtIn w pp (tl ++ news) t' R → Q (.ref t') { s with heap := h', toks := tk' }) :
    wpAny (model PySem.Challenge.rw_lh0029_01.row.prog w) (ktrTop dp un gd cn cs L a ccd cl outer) (call (.ref f) [.ref ta, .int n tn]) Q E s :=
  mulUse C B F X N T hk hA hP.pos hP.gt hP.lt hn0 hn1 hd hu fun t' tl h' tk' F' N' P' => ret _ t' tl h' tk' (factsS hP hg hb0 hb1 ho hs0 hs1 hn0 hn1 hD) F' N' P'
theorem timesL {w : World} {p : Program} {loose : List Str} {mean : ExcName → Option Value} {mg mb : Str → Option Value}
   {dp un : Nat} {gd : Option (List Code)} {cn : Str} {cs : Scope} {a : Addr} {ccd : Value} {cl : List (Str × Addr)} {outer : List Env} {A₀ : Around} {base h₀ : Heap} {L : Addr} {m : Str → Option Value} {s : Shared} {Q E : Value → Shared → Prop} {news : List (Addr × Obj)} {pp n : Int} {o : Option (Int × Int)} {v : Value} {tp tn : Tok}
    (B : Below A₀ base outer h₀) (F : Fr h₀ L s.heap m) (X : (hd.heap_39 w.params).In h₀) (N : News h₀ L s.heap news) (T : Top p loose mean mg mb h₀) (hk : cs.kind = .function)
    (hP : Pr pp) (ho : OptIn news v o) (hb : Bd pp o) (hn : 0 ≤ n) (hn2 : n < 2 ^ 6)
    (hd : dp + 12 < recursionLimit) (hu : un + 200 < cLine)
    (ret : ∀ (r : Value) (D : Option (Int × Int)) (tl : List (Addr × Obj)) (h' : Heap) (tk' : Nat), TmF pp 6 none o n = D → OptIn (tl ++ news) r D → Bd pp D → Fr h₀ L h' m → News h₀ L h' (tl ++ news) → Q r { s with heap := h', toks := tk' }) :
    wpAny (model PySem.Challenge.rw_lh0029_01.row.prog w) (ktrTop dp un gd cn cs L a ccd cl outer) (call (.ref 302) [.int pp tp, v, .int n tn]) Q E s :=
  timesC (k := 6) B F X N T hk hP ho hb hn hn2 hd hu fun r tl h' tk' O Bd' F' N' => ret r _ tl h' tk' rfl O Bd' F' N'
theorem toldL {w : World} {p : Program} {loose : List Str} {mean : ExcName → Option Value} {mg mb : Str → Option Value}
   {dp un : Nat} {gd : Option (List Code)} {cn : Str} {cs : Scope} {a : Addr} {ccd : Value} {cl : List (Str × Addr)} {outer : List Env} {A₀ : Around} {base h₀ : Heap} {L : Addr} {m : Str → Option Value} {s : Shared} {Q E : Value → Shared → Prop} {news : List (Addr × Obj)} {pp : Int} {P : Int × Int × Int} {tp : Tok} {ta : Addr} {d : Int × Int}
    (B : Below A₀ base outer h₀) (F : Fr h₀ L s.heap m) (X : (hd.heap_39 w.params).In h₀) (N : News h₀ L s.heap news) (T : Top p loose mean mg mb h₀) (hk : cs.kind = .function)
    (hP : Pr pp) (hA : PtIn w pp news ta P) (hb : toldF pp P = d)
    (hd : dp + 8 < recursionLimit) (hu : un + 64 < cLine)
    (ret : ∀ (a' : Addr) (t1 t2 : Tok) (tl : List (Addr × Obj)) (h' : Heap) (tk' : Nat), (a', tupO [.int d.1 t1, .int d.2 t2]) ∈ tl ++ news → Fr h₀ L h' m → News h₀ L h' (tl ++ news) → Q (.ref a') { s with heap := h', toks := tk' }) :
    wpAny (model PySem.Challenge.rw_lh0029_01.row.prog w) (ktrTop dp un gd cn cs L a ccd cl outer) (call (.ref 316) [.int pp tp, .ref ta]) Q E s :=
  toldC B F X N T hk hP hA hd hu fun r tl h' tk' O F' N' => by
    rw [hb] at O
    obtain ⟨a', t1, t2, rfl, hm⟩ := O
    exact ret a' t1 t2 tl h' tk' hm F' N'
theorem infL1 {w : World} {p : Program} {loose : List Str} {mean : ExcName → Option Value} {mg mb : Str → Option Value}
   {dp un : Nat} {gd : Option (List Code)} {cn : Str} {cs : Scope} {a : Addr} {ccd : Value} {cl : List (Str × Addr)} {outer : List Env} {A₀ : Around} {base h₀ : Heap} {L : Addr} {m : Str → Option Value} {s : Shared} {Q E : Value → Shared → Prop} {news : List (Addr × Obj)} {ta : Addr} {pp : Int} {P : Int × Int × Int} {b : Bool}
    (B : Below A₀ base outer h₀) (F : Fr h₀ L s.heap m) (X : (hd.heap_39 w.params).In h₀) (N : News h₀ L s.heap news) (T : Top p loose mean mg mb h₀) (hk : cs.kind = .function)
    (hP : PtIn w pp news ta P) (hp : 0 < pp) (hb : (P.2.2 == 0) = b) (hd : dp + 16 < recursionLimit) (hu : un + 128 < cLine)
    (ret : ∀ (tl : List (Addr × Obj)) (h' : Heap) (tk' : Nat), Fr h₀ L h' m → News h₀ L h' (tl ++ news) → Q (.bool b) { s with heap := h', toks := tk' }) :
    wpAny (model PySem.Challenge.rw_lh0029_01.row.prog w) (ktrTop dp un gd cn cs L a ccd cl outer) (call (.ref 28) [.ref ta]) Q E s :=
  infC1 B F X N T hk hP hp hd hu (by subst hb; exact ret)
theorem eqL1 {w : World} {p : Program} {loose : List Str} {mean : ExcName → Option Value} {mg mb : Str → Option Value}
   {dp un : Nat} {gd : Option (List Code)} {cn : Str} {cs : Scope} {a : Addr} {ccd : Value} {cl : List (Str × Addr)} {outer : List Env} {A₀ : Around} {base h₀ : Heap} {L : Addr} {m : Str → Option Value} {s : Shared} {Q E : Value → Shared → Prop} {news : List (Addr × Obj)} {ta tb : Addr} {pp : Int} {P1 P2 : Int × Int × Int} {b : Bool}
    (B : Below A₀ base outer h₀) (F : Fr h₀ L s.heap m) (X : (hd.heap_39 w.params).In h₀) (N : News h₀ L s.heap news) (T : Top p loose mean mg mb h₀) (hk : cs.kind = .function)
    (hP1 : PtIn w pp news ta P1) (hP2 : PtIn w pp news tb P2) (hp : 0 < pp) (hp2 : pp < 128) (hb : eqF pp P1 P2 = b) (hd : dp + 16 < recursionLimit) (hu : un + 128 < cLine)
    (ret : ∀ (tl : List (Addr × Obj)) (h' : Heap) (tk' : Nat), Fr h₀ L h' m → News h₀ L h' (tl ++ news) → Q (.bool b) { s with heap := h', toks := tk' }) :
    wpAny (model PySem.Challenge.rw_lh0029_01.row.prog w) (ktrTop dp un gd cn cs L a ccd cl outer) (call (.ref 56) [.ref ta, .ref tb]) Q E s :=
  eqPt1 B F X N T hk hP1 hP2 hp hp2 hd hu (by subst hb; exact ret)
theorem infL2 {w : World} {p : Program} {loose : List Str} {mean : ExcName → Option Value} {mg mb : Str → Option Value}
   {dp un : Nat} {gd : Option (List Code)} {cn : Str} {cs : Scope} {a : Addr} {ccd : Value} {cl : List (Str × Addr)} {outer : List Env} {A₀ : Around} {base h₀ : Heap} {L : Addr} {m : Str → Option Value} {s : Shared} {Q E : Value → Shared → Prop} {news : List (Addr × Obj)} {ta : Addr} {pp : Int} {P : Int × Int × Int} {b : Bool}
    (B : Below A₀ base outer h₀) (F : Fr h₀ L s.heap m) (X : (hd.heap_39 w.params).In h₀) (N : News h₀ L s.heap news) (T : Top p loose mean mg mb h₀) (hk : cs.kind = .function)
    (hP : PtIn w pp news ta P) (hp : 0 < pp) (hb : (P.2.2 == 0) = b) (hd : dp + 16 < recursionLimit) (hu : un + 128 < cLine)
    (ret : ∀ (tl : List (Addr × Obj)) (h' : Heap) (tk' : Nat), Fr h₀ L h' m → News h₀ L h' (tl ++ news) → Q (.bool b) { s with heap := h', toks := tk' }) :
    wpAny (model PySem.Challenge.rw_lh0029_01.row.prog w) (ktrTop dp un gd cn cs L a ccd cl outer) (call (.ref 232) [.ref ta]) Q E s :=
  infC2 B F X N T hk hP hp hd hu (by subst hb; exact ret)
theorem eqL2 {w : World} {p : Program} {loose : List Str} {mean : ExcName → Option Value} {mg mb : Str → Option Value}
   {dp un : Nat} {gd : Option (List Code)} {cn : Str} {cs : Scope} {a : Addr} {ccd : Value} {cl : List (Str × Addr)} {outer : List Env} {A₀ : Around} {base h₀ : Heap} {L : Addr} {m : Str → Option Value} {s : Shared} {Q E : Value → Shared → Prop} {news : List (Addr × Obj)} {ta tb : Addr} {pp : Int} {P1 P2 : Int × Int × Int} {b : Bool}
    (B : Below A₀ base outer h₀) (F : Fr h₀ L s.heap m) (X : (hd.heap_39 w.params).In h₀) (N : News h₀ L s.heap news) (T : Top p loose mean mg mb h₀) (hk : cs.kind = .function)
    (hP1 : PtIn w pp news ta P1) (hP2 : PtIn w pp news tb P2) (hp : 0 < pp) (hp2 : pp < 128) (hb : eqF pp P1 P2 = b) (hd : dp + 16 < recursionLimit) (hu : un + 128 < cLine)
    (ret : ∀ (tl : List (Addr × Obj)) (h' : Heap) (tk' : Nat), Fr h₀ L h' m → News h₀ L h' (tl ++ news) → Q (.bool b) { s with heap := h', toks := tk' }) :
    wpAny (model PySem.Challenge.rw_lh0029_01.row.prog w) (ktrTop dp un gd cn cs L a ccd cl outer) (call (.ref 260) [.ref ta, .ref tb]) Q E s :=
  eqPt2 B F X N T hk hP1 hP2 hp hp2 hd hu (by subst hb; exact ret)
section
theorem joinS {prog : Program} {w : World} {A : Around} {Q E : Value → Shared → Prop} {s : Shared} {X Y : Sem Value} {c : Prop} [Decidable c] {h₀ : Heap} {L : Addr} {m : Str → Option Value} {news : List (Addr × Obj)} {pp n : Int} {o : Option (Int × Int)} {d : Int × Int}
    (iF : Fr h₀ L s.heap m) (iN : News h₀ L s.heap news) (iD : TmF pp 6 none o n = some d)
    (hx : ∀ Q' : Value → Shared → Prop, (∀ (R : Int × Int × Int) (t' : Addr) (tl : List (Addr × Obj)) (h' : Heap) (tk' : Nat), FactsS pp o d R → Fr h₀ L h' m → News h₀ L h' (tl ++ news) → PtIn w pp (tl ++ news) t' R → Q' (.ref t') { s with heap := h', toks := tk' }) → wpAny (model prog w) A X Q' E s)
    (hy : ∀ Q' : Value → Shared → Prop, (∀ (R : Int × Int × Int) (t' : Addr) (tl : List (Addr × Obj)) (h' : Heap) (tk' : Nat), FactsS pp o d R → Fr h₀ L h' m → News h₀ L h' (tl ++ news) → PtIn w pp (tl ++ news) t' R → Q' (.ref t') { s with heap := h', toks := tk' }) → wpAny (model prog w) A Y Q' E s)
    (ret : ∀ (R : Int × Int × Int) (t' : Addr) (tl : List (Addr × Obj)) (h' : Heap) (tk' : Nat), FactsS pp o d R → Fr h₀ L h' m → News h₀ L h' (tl ++ news) → PtIn w pp (tl ++ news) t' R → Q (.ref t') { s with heap := h', toks := tk' }) :
    if c then wpAny (model prog w) A X Q E s else wpAny (model prog w) A Y Q E s := by
  split
  · exact hx Q ret
  · exact hy Q ret
theorem joinN {prog : Program} {w : World} {A : Around} {Q E : Value → Shared → Prop} {s : Shared} {X Y : Sem Value} {c : Prop} [Decidable c] {h₀ : Heap} {L : Addr} {m : Str → Option Value} {news : List (Addr × Obj)} {pp n : Int} {o : Option (Int × Int)}
    (iF : Fr h₀ L s.heap m) (iN : News h₀ L s.heap news) (iD : TmF pp 6 none o n = none)
    (hx : ∀ Q' : Value → Shared → Prop, (∀ (R : Int × Int × Int) (t' : Addr) (tl : List (Addr × Obj)) (h' : Heap) (tk' : Nat), FactsN pp o R → Fr h₀ L h' m → News h₀ L h' (tl ++ news) → PtIn w pp (tl ++ news) t' R → Q' (.ref t') { s with heap := h', toks := tk' }) → wpAny (model prog w) A X Q' E s)
    (hy : ∀ Q' : Value → Shared → Prop, (∀ (R : Int × Int × Int) (t' : Addr) (tl : List (Addr × Obj)) (h' : Heap) (tk' : Nat), FactsN pp o R → Fr h₀ L h' m → News h₀ L h' (tl ++ news) → PtIn w pp (tl ++ news) t' R → Q' (.ref t') { s with heap := h', toks := tk' }) → wpAny (model prog w) A Y Q' E s)
    (ret : ∀ (R : Int × Int × Int) (t' : Addr) (tl : List (Addr × Obj)) (h' : Heap) (tk' : Nat), FactsN pp o R → Fr h₀ L h' m → News h₀ L h' (tl ++ news) → PtIn w pp (tl ++ news) t' R → Q (.ref t') { s with heap := h', toks := tk' }) :
    if c then wpAny (model prog w) A X Q E s else wpAny (model prog w) A Y Q E s := by
  split
  · exact hx Q ret
  · exact hy Q ret
theorem joinB {prog : Program} {w : World} {A : Around} {Q E : Value → Shared → Prop} {s : Shared} {X Y : Sem Value} {c : Prop} [Decidable c] {h₀ : Heap} {L : Addr} {m : Str → Option Value} {news : List (Addr × Obj)} {b : Bool}
    (iF : Fr h₀ L s.heap m) (iN : News h₀ L s.heap news)
    (hx : ∀ Q' : Value → Shared → Prop, (∀ (tl : List (Addr × Obj)) (h' : Heap) (tk' : Nat), Fr h₀ L h' m → News h₀ L h' (tl ++ news) → Q' (.bool b) { s with heap := h', toks := tk' }) → wpAny (model prog w) A X Q' E s)
    (hy : ∀ Q' : Value → Shared → Prop, (∀ (tl : List (Addr × Obj)) (h' : Heap) (tk' : Nat), Fr h₀ L h' m → News h₀ L h' (tl ++ news) → Q' (.bool b) { s with heap := h', toks := tk' }) → wpAny (model prog w) A Y Q' E s)
    (ret : ∀ (tl : List (Addr × Obj)) (h' : Heap) (tk' : Nat), Fr h₀ L h' m → News h₀ L h' (tl ++ news) → Q (.bool b) { s with heap := h', toks := tk' }) :
    if c then wpAny (model prog w) A X Q E s else wpAny (model prog w) A Y Q E s := by
  split
  · exact hx Q ret
  · exact hy Q ret
local macro_rules | `(tactic| walk_at "call ref") => `(tactic| (k_here; (with_reducible show wpAny _ _ (call (Value.ref 274) [Value.ref _, Value.int _ _]) _ _ _); k_dflt (refine' atC ?k1 ?k2 ?k3 ?k4 ?k5 ?kK ?kl ?ki ?kf ?k0 ?k7 ?kd ?ku ?_; (case k1 => k_asm); (case k2 => k_asm); (case k3 => k_asm); (case k4 => k_asm); (case k5 => k_asm); (case kK => first | exact rfl | assumption); (case kl => k_asm); (case ki => l_ints); (case kf => l_fit); (case k0 => first | decide | omega); (case k7 => first | decide | omega); (case kd => k_room); (case ku => k_units); intro v' t' h' tk' a' b' F' N'; (try dsimp only); (try k_fold))))
theorem primes_item {prog : Program} {w : World} {A : Around} {E : Value → Shared → Prop} {s : Shared} {h₀ : Heap} {L l : Addr} {news : List (Addr × Obj)} {value slice : PySem.Expr} {v : Int} {u t1 t2 t3 t4 t5 t6 t7 t8 : Tok} {Q : Value → Shared → Prop}
    (N : News h₀ L s.heap news) (hm : (l, PySem.W.listOf #[.int 7 t1, .int 19 t2, .int 31 t3, .int 43 t4, .int 67 t5, .int 79 t6, .int 103 t7, .int 127 t8] 0) ∈ news) (h : ∀ P t, Pr P → Q (.int P t) s)
    (hs : subscripted slice false (.ref l) (.int (v.fmod 8) u) = operate [.ref l, .int (v.fmod 8) u] (getItem (.ref l) (.int (v.fmod 8) u)) := by with_unfolding_all rfl) :
    wpAny (model prog w) A (subscriptTail value slice (.ref l) (.int (v.fmod 8) u)) Q E s := by
  have h0 : 0 ≤ v.fmod 8 := Int.fmod_nonneg_of_pos _ (by decide)
  have h1 : v.fmod 8 < 8 := Int.fmod_lt_of_pos _ (by decide)
  have hL : s.heap.IsList l (#[.int 7 t1, .int 19 t2, .int 31 t3, .int 43 t4, .int 67 t5, .int 79 t6, .int 103 t7, .int 127 t8] : Array Value) := ⟨_, (N _ hm).1, rfl, 0, rfl⟩
  generalize v.fmod 8 = k at *
  have fin : ∀ (P : Int) (t : Tok), (#[.int 7 t1, .int 19 t2, .int 31 t3, .int 43 t4, .int 67 t5, .int 79 t6, .int 103 t7, .int 127 t8] : Array Value)[k.toNat]? = some (.int P t) → Pr P →
      wpAny (model prog w) A (subscriptTail value slice (.ref l) (.int k u)) Q E s := fun P t hx hP =>
    tail_any hL.typeIs slot_list_getitem.lookup (wpAny_getItem_list hL h0 (by omega) hx (h P t hP)) hs
  have hk : k = 0 ∨ k = 1 ∨ k = 2 ∨ k = 3 ∨ k = 4 ∨ k = 5 ∨ k = 6 ∨ k = 7 := by omega
  rcases hk with e | e | e | e | e | e | e | e <;> subst e <;> exact fin _ _ rfl (by unfold Pr; omega)
local macro_rules | `(tactic| walk_at "eval Call") => `(tactic| (k_here; k_dflt (refine Call_ ?_)))
local macro_rules | `(tactic| walk_at "subscriptTail") => `(tactic| (k_here; (with_reducible show wpAny _ _ (subscriptTail _ _ (Value.ref _) (Value.int (Int.fmod _ 8) _)) _ _ _); k_dflt (refine' primes_item ?k1 ?k2 ?_; (case k1 => k_asm); (case k2 => k_mem); intro P' t' hP'; (have hP1' := hP'.gt); (have hP2' := hP'.lt); (have hP3' : ¬ (P' - 1 = 0) := by omega); (try dsimp only); (try k_fold))))
local macro_rules | `(tactic| walk_at "ite") => `(tactic| (k_here; first | (refine ite_pos (beq_iff_eq.mpr (by with_reducible assumption)) ?_) | (refine ite_neg (fun h => absurd (beq_iff_eq.mp h) (by with_reducible assumption)) ?_)))
local macro_rules | `(tactic| walk_at "subscriptTail Name Constant ref int") => `(tactic| (k_here; (with_reducible show wpAny _ _ (subscriptTail _ _ (Value.ref _) (Value.int _ _)) _ _ _); k_dflt (refine' item_tupleT ?t ?a ?b ?c ?d ?_; (case t => exact News.isTup (by k_asm) (by k_mem)); (case a => decide); (case b => decide); (case c => rfl); (case d => rfl); k_whole)))
theorem optIn_some {news : List (Addr × Obj)} {a : Addr} {x y : Int} {t1 t2 : Tok} (h : (a, tupO [.int x t1, .int y t2]) ∈ news) : OptIn news (.ref a) (some (x, y)) := ⟨a, t1, t2, rfl, h⟩
theorem optIn_none {news : List (Addr × Obj)} {r : Value} (h : OptIn news r none) : r = .none := h
local macro_rules | `(tactic| walk_at "call ref") => `(tactic| (k_here; (with_reducible show wpAny _ _ (call (Value.ref 281) [Value.int _ _, Value.int _ _]) _ _ _); k_dflt (refine' curveC ?k1 ?k2 ?k3 ?k4 ?k5 ?kK ?kP ?kd ?ku ?_; (case k1 => k_asm); (case k2 => k_asm); (case k3 => k_asm); (case k4 => k_asm); (case k5 => k_asm); (case kK => first | exact rfl | assumption); (case kP => assumption); (case kd => k_room); (case ku => k_units); intro b' t' h' tk' l1' l2' g' F' N'; (try dsimp only); (try k_fold))))
local macro_rules | `(tactic| walk_at "call ref") => `(tactic| (k_here; (with_reducible show wpAny _ _ (call (Value.ref 288) [Value.int _ _, Value.int _ _, Value.int _ _]) _ _ _); k_dflt (refine' pointC ?k1 ?k2 ?k3 ?k4 ?k5 ?kK ?kP ?kb0 ?kb1 ?kg ?kv0 ?kv1 ?kd ?ku ?_; (case k1 => k_asm); (case k2 => k_asm); (case k3 => k_asm); (case k4 => k_asm); (case k5 => k_asm); (case kK => first | exact rfl | assumption); (case kP => assumption); (case kb0 => assumption); (case kb1 => assumption); (case kg => assumption); (case kv0 => assumption); (case kv1 => assumption); (case kd => k_room); (case ku => k_units); intro r' o' tl' h' tk' C' O' F' N'; (have Bd' := Bd.of_onC C'); (have O9' := O'); (rcases o' with _ | q' <;> first | ((replace O' := optIn_none O'); subst O'; (try dsimp only); (try k_fold)) | ((obtain ⟨a', t1', t2', e', m'⟩ := O'); subst e'; (try dsimp only); (try k_fold))))))
local macro_rules | `(tactic| walk_at "call ref") => `(tactic| (k_here; (with_reducible show wpAny _ _ (call (Value.ref 302) [Value.int _ _, _, Value.int _ _]) _ _ _); k_dflt (refine' timesL ?k1 ?k2 ?k3 ?k4 ?k5 ?kK ?kP ?ko ?kb ?kn ?kn2 ?kd ?ku ?_; (case k1 => k_asm); (case k2 => k_asm); (case k3 => k_asm); (case k4 => k_asm); (case k5 => k_asm); (case kK => first | exact rfl | assumption); (case kP => assumption); (case ko => first | assumption | exact OptIn.mono (by assumption) (by repeat (first | exact Ext.refl _ | refine Ext.app _ ?_ | refine Ext.cons _ ?_)) | exact optIn_some (by k_mem)); (case kb => assumption); (case kn => exact cnt_lo _); (case kn2 => exact cnt_hi _); (case kd => k_room); (case ku => k_units); intro r' o' tl' h' tk' D' O' Bd' F' N'; (have O9' := O'); (rcases o' with _ | q' <;> first | ((replace O' := optIn_none O'); subst O'; (try dsimp only); (try k_fold)) | (exfalso; exact TmF_none_ne (by assumption)) | ((obtain ⟨a', t1', t2', e', m'⟩ := O'); subst e'; (try dsimp only); (try k_fold))))))
local macro_rules | `(tactic| walk_at "call ref") => `(tactic| (k_here; (with_reducible show wpAny _ _ (call (Value.ref 309) [Value.int _ _, _, Value.int _ _, Value.int _ _]) _ _ _); k_dflt (refine' madeC ?k1 ?k2 ?k3 ?k4 ?k5 ?kK ?kP ?ko ?ks0 ?ks1 ?kd ?ku ?_; (case k1 => k_asm); (case k2 => k_asm); (case k3 => k_asm); (case k4 => k_asm); (case k5 => k_asm); (case kK => first | exact rfl | assumption); (case kP => assumption); (case ko => first | assumption | exact OptIn.mono (by assumption) (by repeat (first | exact Ext.refl _ | refine Ext.app _ ?_ | refine Ext.cons _ ?_)) | exact optIn_some (by k_mem)); (case ks0 => first | decide | omega | exact sc_0 (by assumption) _); (case ks1 => first | decide | omega | exact sc_128 (by assumption) _); (case kd => k_room); (case ku => k_units); intro r' tl' h' tk' P' F' N'; (try dsimp only); (try k_fold))))
local macro_rules | `(tactic| walk_at "call ref") => `(tactic| (k_here; (with_reducible show wpAny _ _ (call (Value.ref 295) [Value.int _ _, _, _]) _ _ _); k_dflt (refine' sumC ?k1 ?k2 ?k3 ?k4 ?k5 ?kK ?kP ?ko1 ?ko2 ?kb1 ?kb2 ?kd ?ku ?_; (case k1 => k_asm); (case k2 => k_asm); (case k3 => k_asm); (case k4 => k_asm); (case k5 => k_asm); (case kK => first | exact rfl | assumption); (case kP => assumption); (case ko1 => first | assumption | exact OptIn.mono (by assumption) (by repeat (first | exact Ext.refl _ | refine Ext.app _ ?_ | refine Ext.cons _ ?_)) | exact optIn_some (by k_mem)); (case ko2 => first | assumption | exact OptIn.mono (by assumption) (by repeat (first | exact Ext.refl _ | refine Ext.app _ ?_ | refine Ext.cons _ ?_)) | exact optIn_some (by k_mem)); (case kb1 => assumption); (case kb2 => assumption); (case kd => k_room); (case ku => k_units); intro r' tl' h' tk' O' F' N'; (try dsimp only); (try k_fold))))
local macro_rules | `(tactic| walk_at "call ref") => `(tactic| (k_here; (with_reducible show wpAny _ _ (call (Value.ref 49) [Value.ref _, Value.int _ _]) _ _ _); k_dflt (refine' mulLN (f := 49) (mulAll1 _ 6) ?k1 ?k2 ?k3 ?k4 ?k5 ?kK ?kP ?kn ?kn2 ?kD ?kPr ?kg ?kb0 ?kb1 ?ko ?ks0 ?ks1 ?kd ?ku ?_; (case k1 => k_asm); (case k2 => k_asm); (case k3 => k_asm); (case k4 => k_asm); (case k5 => k_asm); (case kK => first | exact rfl | assumption); (case kP => first | assumption | exact PtIn.mono (by assumption) (by repeat (first | exact Ext.refl _ | refine Ext.app _ ?_ | refine Ext.cons _ ?_))); (case kn => exact cnt_lo _); (case kn2 => exact cnt_hi _); (case kD => assumption); (case kPr => assumption); (case kg => assumption); (case kb0 => assumption); (case kb1 => assumption); (case ko => assumption); (case ks0 => exact sc_lo (by assumption) _); (case ks1 => exact sc_hi (by assumption) _); (case kd => k_room); (case ku => k_units); intro R' t' tl' h' tk' M' F' N' P'; (try dsimp only); (try k_fold))))
local macro_rules | `(tactic| walk_at "call ref") => `(tactic| (k_here; (with_reducible show wpAny _ _ (call (Value.ref 49) [Value.ref _, Value.int _ _]) _ _ _); k_dflt (refine' mulLS (f := 49) (mulAll1 _ 6) ?k1 ?k2 ?k3 ?k4 ?k5 ?kK ?kP ?kn ?kn2 ?kD ?kPr ?kg ?kb0 ?kb1 ?ko ?ks0 ?ks1 ?kd ?ku ?_; (case k1 => k_asm); (case k2 => k_asm); (case k3 => k_asm); (case k4 => k_asm); (case k5 => k_asm); (case kK => first | exact rfl | assumption); (case kP => first | assumption | exact PtIn.mono (by assumption) (by repeat (first | exact Ext.refl _ | refine Ext.app _ ?_ | refine Ext.cons _ ?_))); (case kn => exact cnt_lo _); (case kn2 => exact cnt_hi _); (case kD => assumption); (case kPr => assumption); (case kg => assumption); (case kb0 => assumption); (case kb1 => assumption); (case ko => assumption); (case ks0 => exact sc_lo (by assumption) _); (case ks1 => exact sc_hi (by assumption) _); (case kd => k_room); (case ku => k_units); intro R' t' tl' h' tk' M' F' N' P'; (try dsimp only); (try k_fold))))
local macro_rules | `(tactic| walk_at "call ref") => `(tactic| (k_here; (with_reducible show wpAny _ _ (call (Value.ref 253) [Value.ref _, Value.int _ _]) _ _ _); k_dflt (refine' mulLN (f := 253) (mulAll2 _ 6) ?k1 ?k2 ?k3 ?k4 ?k5 ?kK ?kP ?kn ?kn2 ?kD ?kPr ?kg ?kb0 ?kb1 ?ko ?ks0 ?ks1 ?kd ?ku ?_; (case k1 => k_asm); (case k2 => k_asm); (case k3 => k_asm); (case k4 => k_asm); (case k5 => k_asm); (case kK => first | exact rfl | assumption); (case kP => first | assumption | exact PtIn.mono (by assumption) (by repeat (first | exact Ext.refl _ | refine Ext.app _ ?_ | refine Ext.cons _ ?_))); (case kn => exact cnt_lo _); (case kn2 => exact cnt_hi _); (case kD => assumption); (case kPr => assumption); (case kg => assumption); (case kb0 => assumption); (case kb1 => assumption); (case ko => assumption); (case ks0 => exact sc_lo (by assumption) _); (case ks1 => exact sc_hi (by assumption) _); (case kd => k_room); (case ku => k_units); intro R' t' tl' h' tk' M' F' N' P'; (try dsimp only); (try k_fold))))
local macro_rules | `(tactic| walk_at "call ref") => `(tactic| (k_here; (with_reducible show wpAny _ _ (call (Value.ref 253) [Value.ref _, Value.int _ _]) _ _ _); k_dflt (refine' mulLS (f := 253) (mulAll2 _ 6) ?k1 ?k2 ?k3 ?k4 ?k5 ?kK ?kP ?kn ?kn2 ?kD ?kPr ?kg ?kb0 ?kb1 ?ko ?ks0 ?ks1 ?kd ?ku ?_; (case k1 => k_asm); (case k2 => k_asm); (case k3 => k_asm); (case k4 => k_asm); (case k5 => k_asm); (case kK => first | exact rfl | assumption); (case kP => first | assumption | exact PtIn.mono (by assumption) (by repeat (first | exact Ext.refl _ | refine Ext.app _ ?_ | refine Ext.cons _ ?_))); (case kn => exact cnt_lo _); (case kn2 => exact cnt_hi _); (case kD => assumption); (case kPr => assumption); (case kg => assumption); (case kb0 => assumption); (case kb1 => assumption); (case ko => assumption); (case ks0 => exact sc_lo (by assumption) _); (case ks1 => exact sc_hi (by assumption) _); (case kd => k_room); (case ku => k_units); intro R' t' tl' h' tk' M' F' N' P'; (try dsimp only); (try k_fold))))
local macro_rules | `(tactic| walk_at "call ref") => `(tactic| (k_here; (with_reducible show wpAny _ _ (call (Value.ref 28) [Value.ref _]) _ _ _); k_dflt (refine' infL1 ?k1 ?k2 ?k3 ?k4 ?k5 ?kK ?kP ?kp ?hb ?kd ?ku ?_; (case k1 => k_asm); (case k2 => k_asm); (case k3 => k_asm); (case k4 => k_asm); (case k5 => k_asm); (case kK => first | exact rfl | assumption); (case kP => first | assumption | exact PtIn.mono (by assumption) (by repeat (first | exact Ext.refl _ | refine Ext.app _ ?_ | refine Ext.cons _ ?_))); (case kp => exact Pr.pos (by assumption)); (case hb => assumption); (case kd => k_room); (case ku => k_units); intro tl' h' tk' F' N'; (try dsimp only); (try k_fold))))
local macro_rules | `(tactic| walk_at "call ref") => `(tactic| (k_here; (with_reducible show wpAny _ _ (call (Value.ref 232) [Value.ref _]) _ _ _); k_dflt (refine' infL2 ?k1 ?k2 ?k3 ?k4 ?k5 ?kK ?kP ?kp ?hb ?kd ?ku ?_; (case k1 => k_asm); (case k2 => k_asm); (case k3 => k_asm); (case k4 => k_asm); (case k5 => k_asm); (case kK => first | exact rfl | assumption); (case kP => first | assumption | exact PtIn.mono (by assumption) (by repeat (first | exact Ext.refl _ | refine Ext.app _ ?_ | refine Ext.cons _ ?_))); (case kp => exact Pr.pos (by assumption)); (case hb => assumption); (case kd => k_room); (case ku => k_units); intro tl' h' tk' F' N'; (try dsimp only); (try k_fold))))
local macro_rules | `(tactic| walk_at "call ref") => `(tactic| (k_here; (with_reducible show wpAny _ _ (call (Value.ref 56) [Value.ref _, Value.ref _]) _ _ _); k_dflt (refine' eqL1 ?k1 ?k2 ?k3 ?k4 ?k5 ?kK ?kP ?kP2 ?kp ?kp2 ?hb ?kd ?ku ?_; (case k1 => k_asm); (case k2 => k_asm); (case k3 => k_asm); (case k4 => k_asm); (case k5 => k_asm); (case kK => first | exact rfl | assumption); (case kP => first | assumption | exact PtIn.mono (by assumption) (by repeat (first | exact Ext.refl _ | refine Ext.app _ ?_ | refine Ext.cons _ ?_))); (case kP2 => first | assumption | exact PtIn.mono (by assumption) (by repeat (first | exact Ext.refl _ | refine Ext.app _ ?_ | refine Ext.cons _ ?_))); (case kp => exact Pr.pos (by assumption)); (case kp2 => exact Pr.lt (by assumption)); (case hb => first | assumption | exact (by assumption : ∀ s2 : Int, 1 ≤ s2 → s2 < _ → eqF _ _ (madeF _ _ s2 1) = true) _ (sc_lo (by assumption) _) (sc_hi (by assumption) _)); (case kd => k_room); (case ku => k_units); intro tl' h' tk' F' N'; (try dsimp only); (try k_fold))))
local macro_rules | `(tactic| walk_at "call ref") => `(tactic| (k_here; (with_reducible show wpAny _ _ (call (Value.ref 260) [Value.ref _, Value.ref _]) _ _ _); k_dflt (refine' eqL2 ?k1 ?k2 ?k3 ?k4 ?k5 ?kK ?kP ?kP2 ?kp ?kp2 ?hb ?kd ?ku ?_; (case k1 => k_asm); (case k2 => k_asm); (case k3 => k_asm); (case k4 => k_asm); (case k5 => k_asm); (case kK => first | exact rfl | assumption); (case kP => first | assumption | exact PtIn.mono (by assumption) (by repeat (first | exact Ext.refl _ | refine Ext.app _ ?_ | refine Ext.cons _ ?_))); (case kP2 => first | assumption | exact PtIn.mono (by assumption) (by repeat (first | exact Ext.refl _ | refine Ext.app _ ?_ | refine Ext.cons _ ?_))); (case kp => exact Pr.pos (by assumption)); (case kp2 => exact Pr.lt (by assumption)); (case hb => first | assumption | exact (by assumption : ∀ s2 : Int, 1 ≤ s2 → s2 < _ → eqF _ _ (madeF _ _ s2 1) = true) _ (sc_lo (by assumption) _) (sc_hi (by assumption) _)); (case kd => k_room); (case ku => k_units); intro tl' h' tk' F' N'; (try dsimp only); (try k_fold))))
local macro_rules | `(tactic| walk_at "call ref") => `(tactic| (k_here; (with_reducible show wpAny _ _ (call (Value.ref 316) [Value.int _ _, Value.ref _]) _ _ _); k_dflt (refine' toldL ?k1 ?k2 ?k3 ?k4 ?k5 ?kK ?kP ?kA ?hb ?kd ?ku ?_; (case k1 => k_asm); (case k2 => k_asm); (case k3 => k_asm); (case k4 => k_asm); (case k5 => k_asm); (case kK => first | exact rfl | assumption); (case kP => assumption); (case kA => first | assumption | exact PtIn.mono (by assumption) (by repeat (first | exact Ext.refl _ | refine Ext.app _ ?_ | refine Ext.cons _ ?_))); (case hb => assumption); (case kd => k_room); (case ku => k_units); intro a' t1' t2' tl' h' tk' m' F' N'; (try dsimp only); (try k_fold))))
local macro_rules | `(tactic| walk_at "ite") => `(tactic| (k_here; (with_reducible show ite ((Int.fmod _ 2 == 0) = true) (wpAny _ _ (eval (PySem.Expr.Call _ [_, _] _ _) _) _ _ _) _); k_dflt (refine' joinB ?k1 ?k2 ?hx ?hy ?_; (case k1 => k_asm); (case k2 => k_asm); (case hx => (intro Q' ret'; k_steps; (all_goals exact ret' _ _ _ (by k_asm) (by k_asm)))); (case hy => (intro Q' ret'; k_steps; (all_goals exact ret' _ _ _ (by k_asm) (by k_asm)))); intro tl' h' tk' F' N'; (try dsimp only); (try k_fold))))
local macro_rules | `(tactic| walk_at "ite") => `(tactic| (k_here; (with_reducible show ite ((Int.fmod _ 2 == 0) = true) (wpAny _ _ (eval (PySem.Expr.Call _ [_] _ _) _) _ _ _) _); k_dflt (refine' joinB ?k1 ?k2 ?hx ?hy ?_; (case k1 => k_asm); (case k2 => k_asm); (case hx => (intro Q' ret'; k_steps; (all_goals exact ret' _ _ _ (by k_asm) (by k_asm)))); (case hy => (intro Q' ret'; k_steps; (all_goals exact ret' _ _ _ (by k_asm) (by k_asm)))); intro tl' h' tk' F' N'; (try dsimp only); (try k_fold))))
local macro_rules | `(tactic| walk_at "ite") => `(tactic| (k_here; (with_reducible show ite ((Int.fmod _ 2 == 0) = true) (wpAny _ _ (eval (PySem.Expr.Call _ [_, _] _ _) _) _ _ _) _); k_dflt (refine' joinS ?k1 ?k2 ?kD ?hx ?hy ?_; (case k1 => k_asm); (case k2 => k_asm); (case kD => assumption); (case hx => (intro Q' ret'; k_steps; (all_goals exact ret' _ _ _ _ _ (by assumption) (by k_asm) (by k_asm) (by k_asm)))); (case hy => (intro Q' ret'; k_steps; (all_goals exact ret' _ _ _ _ _ (by assumption) (by k_asm) (by k_asm) (by k_asm)))); intro R' t' tl' h' tk' M' F' N' P'; (obtain ⟨f1', f5', f2', f3', f6'⟩ := M'); (first | (have f4' := f3' _ rfl) | skip); (try dsimp only); (try k_fold))))
local macro_rules | `(tactic| walk_at "ite") => `(tactic| (k_here; (with_reducible show ite ((Int.fmod _ 2 == 0) = true) (wpAny _ _ (eval (PySem.Expr.Call _ [_, _] _ _) _) _ _ _) _); k_dflt (refine' joinN ?k1 ?k2 ?kD ?hx ?hy ?_; (case k1 => k_asm); (case k2 => k_asm); (case kD => assumption); (case hx => (intro Q' ret'; k_steps; (all_goals exact ret' _ _ _ _ _ (by assumption) (by k_asm) (by k_asm) (by k_asm)))); (case hy => (intro Q' ret'; k_steps; (all_goals exact ret' _ _ _ _ _ (by assumption) (by k_asm) (by k_asm) (by k_asm)))); intro R' t' tl' h' tk' M' F' N' P'; (obtain ⟨f1', f2', f3'⟩ := M'); (first | (have f4' := f3' _ rfl) | skip); (try dsimp only); (try k_fold))))
set_option maxRecDepth 100000 in
set_option maxHeartbeats 80000000 in
theorem holds : PySem.Challenge.rw_lh0029_01.Holds := hd (by
  k_go0
  all_goals try k_fold
  repeat' (first | ((with_reducible show wpAny _ _ (exec (PySem.Stmt.Return (some (PySem.Expr.Compare (PySem.Expr.IfExp _ _ _ _) _ _ _)) _) _) _ _ _); refine stop ?_) | ((with_reducible show wpAny _ _ (exec (PySem.Stmt.While _ _ _ _) _) _ _ _); refine stop ?_) | ((with_reducible show wpAny _ _ (pyIter _) _ _ _); refine stop ?_) | (k_unfold; (try dsimp only)) | (k_end; wrow_close) | walk1 | (dsimp only; walk1) | (leave1; walk_say "STEP leave1"; try dsimp only) | fail "no step")
  all_goals (refine go ?_; k_steps))
end
end Lh
theorem PySem.Challenge.cw_lh0029_01_holds : PySem.Challenge.rw_lh0029_01.Holds := by
  exact Lh.holds
