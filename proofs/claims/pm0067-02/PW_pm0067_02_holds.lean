import PyProof.Rows.All
import Wide.All
import OpenK.AllK
import Wide.FinOn
import KE.KFromBytes
import KE.KDictOf
import PyProof.AttrMiss
import KE.KPar
import KE.KBytesWalk
import KE.KListMore
import KE.KExtendNil
import PyProof.Rows.RuleDivmod
import PyProof.SliceMore
import PyProof.Rows.SeqSliceW
import PyProof.Rows.SumAny
import Lean
import PySem.Challenge.RW_pm0067_02
set_option Elab.async false
set_option linter.unusedVariables false
set_option linter.unusedSimpArgs false
section
open PySem PySem.W PyProof.Rows
namespace Mine

/-! The head in one piece: the top's run over a heap that is a tree, so that no state in the middle need be written out. -/

/-- the library's quick twins, by names of our own -/
theorem stepT_q : @stepT = @PySem.W.Fast.tw10156331382660048174 := PySem.W.Fast.te10156331382660048174
theorem denote_q : @denote = @PySem.W.Fast.tw11892475500146522536 := PySem.W.Fast.te11892475500146522536
theorem table_q : @treeTable = @PySem.W.Fast.tw14364793385576792824 := PySem.W.Fast.te14364793385576792824
theorem ok_q : @stepOk = @PySem.W.Fast.tw6613529449190102663 := PySem.W.Fast.te6613529449190102663
theorem fence_q : @fenceModules? = @PySem.W.Fast.tw14289696077712309145 := PySem.W.Fast.te14289696077712309145
theorem exit_q : @Thread.atExitBegin = @PySem.W.Fast.tw3805553451399329143 := PySem.W.Fast.te3805553451399329143
theorem start_q : @start = @PySem.W.Fast.tw1435165496053646825 := PySem.W.Fast.te1435165496053646825
theorem seen_q : @openSeen = @PySem.W.Fast.tw4187177175401517315 := PySem.W.Fast.te4187177175401517315
noncomputable abbrev stepQ (p : Program) (w : World) : SharedT → Thread → Option (SharedT × Thread) := PySem.W.Fast.tw10156331382660048174 (PySem.W.Fast.tw11892475500146522536 PySem.W.Fast.tw14364793385576792824) p w
noncomputable abbrev okQ (n₀ : Nat) (ann : Option Value) : Thread → Bool := PySem.W.Fast.tw6613529449190102663 n₀ ann
noncomputable abbrev fenceQ : Program → Shared → Option Shared := PySem.W.Fast.tw14289696077712309145
noncomputable abbrev exitQ : Thread → Option (List Value) := PySem.W.Fast.tw3805553451399329143
noncomputable abbrev startQ : Program → Shared × Thread := PySem.W.Fast.tw1435165496053646825
noncomputable abbrev seenQ := @PySem.W.Fast.tw4187177175401517315
theorem stepQ_eq (p : Program) (w : World) : stepT (denote treeTable) p w = stepQ p w := by rw [stepT_q, denote_q, table_q]
theorem okQ_eq (n₀ : Nat) (ann : Option Value) : stepOk n₀ ann = okQ n₀ ann := by rw [ok_q]

def runT (stp : SharedT → Thread → Option (SharedT × Thread)) (ok : Thread → Bool) : Nat → SharedT → Thread → Option SharedT
  | 0, _, _ => none
  | n + 1, s, t => match through t with
    | true => some s
    | false => match ok t with
      | false => none
      | true => match stp s t with
        | some (s', t') => runT stp ok n s' t'
        | none => none

theorem runT_spec {tb : String → Option Builtin} {p : Program} {w : World} {n₀ : Nat} {ann : Option Value} :
    ∀ {n : Nat} {s s' : SharedT} {t : Thread}, runT (stepT (denote tb) p w) (stepOk n₀ ann) n s t = some s' → topRun tb p w n₀ ann n s.abs t = some s'.abs
  | 0, _, _, _, h => by cases h
  | n + 1, s, s', t, h => by
    unfold runT at h
    unfold topRun
    cases hx : through t with
    | true => rw [hx] at h; cases h; rfl
    | false =>
      rw [hx] at h
      cases hk : stepOk n₀ ann t with
      | false => rw [hk] at h; cases h
      | true =>
        rw [hk] at h
        cases hs : stepT (denote tb) p w s t with
        | none => rw [hs] at h; cases h
        | some r => obtain ⟨s₂, t₂⟩ := r; rw [hs] at h; dsimp only; rw [stepT_spec hs]; exact runT_spec h

def impT (ex : Thread → Option (List Value)) (stp : SharedT → Thread → Option (SharedT × Thread)) : Nat → SharedT → Thread → Option SharedT
  | 0, _, _ => none
  | n + 1, s, t => match ex t with
    | some [] => some s
    | some (_ :: _) => none
    | none => match stp s t with
      | some (s', t') => impT ex stp n s' t'
      | none => none

theorem impT_spec {tb : String → Option Builtin} {p : Program} {w : World} :
    ∀ {n : Nat} {s s' : SharedT} {t : Thread}, impT Thread.atExitBegin (stepT (denote tb) p w) n s t = some s' → importEnds tb p w n s.abs t = some s'.abs
  | 0, _, _, _, h => by cases h
  | n + 1, s, s', t, h => by
    unfold impT at h
    unfold importEnds
    cases hx : t.atExitBegin with
    | some l =>
      rw [hx] at h
      cases l with
      | nil => cases h; rfl
      | cons a r => cases h
    | none =>
      rw [hx] at h
      cases hs : stepT (denote tb) p w s t with
      | none => rw [hs] at h; cases h
      | some r => obtain ⟨s₂, t₂⟩ := r; rw [hs] at h; dsimp only; rw [stepT_spec hs]; exact impT_spec h

/-- a heap's objects as a tree -/
def treeFrom : Nat → List Obj → BT → BT
  | _, [], t => t
  | n, o :: l, t => treeFrom (n + 1) l (t.ins n o)
def ofShared (s : Shared) : SharedT := ⟨treeFrom 0 s.heap.objs.toList .nil, s.heap.objs.size, s.heap.life, s.gens, s.drawn, s.toks, s.os⟩

theorem ins_there (o : Obj) : ∀ (t : BT) (n : Nat), (∀ i, i < n → (t.get i).isSome = true) → ((t.ins n o).get n).isSome = true
  | .nil, n, h => by
    cases n with
    | zero => rfl
    | succ n => exact absurd (h 0 (Nat.succ_pos n)) (by simp [BT.get])
  | .node v l r, n, h => by
    rw [BT.ins_node]
    by_cases h0 : n = 0
    · rw [if_pos h0, BT.get_node, if_pos h0]; rfl
    · rw [if_neg h0]
      by_cases p : n % 2 = 1
      · rw [if_pos p, BT.get_node, if_neg h0, if_pos p]
        refine ins_there o l (n / 2) fun i hi => ?_
        have := h (2 * i + 1) (by omega)
        rw [BT.get_node, if_neg (by omega), if_pos (by omega), show (2 * i + 1) / 2 = i by omega] at this
        exact this
      · rw [if_neg p, BT.get_node, if_neg h0, if_neg p]
        refine ins_there o r (n / 2 - 1) fun i hi => ?_
        have := h (2 * i + 2) (by omega)
        rw [BT.get_node, if_neg (by omega), if_neg (by omega), show (2 * i + 2) / 2 - 1 = i by omega] at this
        exact this

theorem treeFrom_abs (life : Life) : ∀ (l : List Obj) (n : Nat) (t : BT), (∀ i, i < n → (t.get i).isSome = true) →
    absHeap (treeFrom n l t) (n + l.length) life = ⟨((absHeap t n life).objs.toList ++ l).toArray, life⟩
  | [], n, t, _ => by
    simp only [treeFrom, List.length_nil, Nat.add_zero, List.append_nil]
    rfl
  | o :: l, n, t, h => by
    have g := ins_there o t n h
    have k : ∀ i, i < n + 1 → ((t.ins n o).get i).isSome = true := fun i hi => by
      rw [BT.get_ins o t n g]
      by_cases e : i = n
      · rw [if_pos e]; rfl
      · rw [if_neg e]; exact h i (by omega)
    have := treeFrom_abs life l (n + 1) (t.ins n o) k
    rw [show treeFrom n (o :: l) t = treeFrom (n + 1) l (t.ins n o) from rfl, show n + (o :: l).length = n + 1 + l.length by simp only [List.length_cons]; omega, this, absHeap_ins g]
    have e : ((absHeap t n life).push o).objs = (absHeap t n life).objs.push o := rfl
    rw [e, Array.toList_push, List.append_assoc, List.singleton_append]

theorem ofShared_abs (s : Shared) : (ofShared s).abs = s := by
  obtain ⟨⟨objs, life⟩, gens, drawn, toks, os⟩ := s
  have := treeFrom_abs life objs.toList 0 .nil (fun i hi => absurd hi (Nat.not_lt_zero i))
  rw [Nat.zero_add] at this
  have e : absHeap (treeFrom 0 objs.toList .nil) objs.size life = ⟨objs, life⟩ := by
    rw [show objs.size = objs.toList.length from rfl, this]
    rfl
  show Shared.mk (absHeap (treeFrom 0 objs.toList .nil) objs.size life) gens drawn toks os = _
  rw [e]

noncomputable def openT (p : Program) (w : World) (N : Nat) : Option Shared := (impT exitQ (stepQ (opening p) w) N (ofShared (startQ (opening p)).1) (startQ (opening p)).2).bind fun s => fenceQ p s.abs
noncomputable def topT (p : Program) (w : World) (N m₀ : Nat) (ann : Option Value) (s₀ : Shared) : Option Shared :=
  match (s₀.heap.isNs mainGlobals && s₀.gens.size == 0) && (s₀.heap.objs.size == m₀ && decide (s₀.heap.nsMap mainGlobals "__annotations__" = ann)) with
  | true => (runT (stepQ p w) (okQ m₀ ann) N (ofShared s₀) (topStub p)).bind fun s₁ => match staticsOk (importedModules p.main.body) s₀.heap s₁.abs.heap && namesBound p s₁.abs.heap && gensDone s₁.abs && laidKept s₀.heap s₁.abs.heap with
      | true => some s₁.abs
      | false => none
  | false => none
noncomputable def endsT (p : Program) (w : World) (N m₀ : Nat) (ann : Option Value) : Option Shared := (openT p w N).bind (topT p w N m₀ ann)

theorem openT_spec {p : Program} {w : World} {N : Nat} {s : Shared} (h : openT p w N = some s) : fencedOpening treeTable p w N = some s := by
  obtain ⟨s', a, b⟩ := Option.bind_eq_some_iff.mp h
  rw [← stepQ_eq, show startQ = start from start_q.symm, show exitQ = Thread.atExitBegin from exit_q.symm] at a
  rw [show fenceQ = fenceModules? from fence_q.symm] at b
  have a := impT_spec a
  rw [ofShared_abs] at a
  unfold fencedOpening
  rw [a]
  exact b
theorem topT_spec {p : Program} {w : World} {N m₀ : Nat} {ann : Option Value} {s₀ s : Shared} (h : topT p w N m₀ ann s₀ = some s) : topFrom treeTable p w N s₀ = some s := by
  unfold topT at h
  cases hg : (s₀.heap.isNs mainGlobals && s₀.gens.size == 0) && (s₀.heap.objs.size == m₀ && decide (s₀.heap.nsMap mainGlobals "__annotations__" = ann)) with
  | false => rw [hg] at h; cases h
  | true =>
    rw [hg] at h
    obtain ⟨g1, g2⟩ := Bool.and_eq_true_iff.mp hg
    obtain ⟨g3, g4⟩ := Bool.and_eq_true_iff.mp g2
    have g3 := eq_of_beq g3
    have g4 := of_decide_eq_true g4
    obtain ⟨s₁, a, b⟩ := Option.bind_eq_some_iff.mp h
    rw [← stepQ_eq, ← okQ_eq] at a
    have a := runT_spec a
    rw [ofShared_abs] at a
    unfold topFrom
    rw [g1]
    dsimp only
    rw [g3, g4, a]
    exact b
theorem left_parts {p q : Program} {loose : List Str} {Xt : Shared → Bool} {α : Type} {Yf : Shared → α} {Ya : World → α} {N : Nat} {g0 : Bool} (m₀ : Nat) (ann : Option Value)
    (run1 : ∀ w : World, (endsT p w N m₀ ann).map (fun s => seenQ q loose (importedModules p.main.body) Xt g0 s) = some (openGood q loose))
    (run2 : ∀ w : World, (endsT p w N m₀ ann).map Yf = some (Ya w)) : LeftO p q loose Xt Yf Ya N g0 := fun w => by
  obtain ⟨s, e, e1⟩ := Option.map_eq_some_iff.mp (run1 w)
  have e2 := run2 w
  rw [e] at e2
  have e2 : Yf s = Ya w := Option.some.inj e2
  rw [show @seenQ = @openSeen from seen_q.symm] at e1
  obtain ⟨s₀, a, b⟩ := Option.bind_eq_some_iff.mp e
  unfold openEnds
  rw [openT_spec a]
  show (topFrom treeTable p w N s₀).map _ = _
  rw [topT_spec b]
  show some (_, _) = some (_, _)
  rw [e1, e2]
def vw : Program := view PySem.Challenge.rw_pm0067_02.prog [0, 1, 3, 4, 5, 6, 7, 8, 9, 10, 12, 13, 14, 15, 16, 17, 19, 21, 23, 24]
def looseNames : List Str := [Str.ofString "UnsupportedOperation", Str.ofString "IOBase", Str.ofString "BufferedIOBase", Str.ofString "TextIOBase", Str.ofString "BytesIO", Str.ofString "StringIO", Str.ofString "shlex"]

/-! the look at the law, in parts -/
theorem resolve_q : @namesResolve = @PySem.W.Fast.tw8377067652309620493 := PySem.W.Fast.te8377067652309620493
theorem road_q : @noRoadLSs = @PySem.W.Fast.tw8326940854005059898 := PySem.W.Fast.te8326940854005059898
theorem meet_q : @namesMeet = @PySem.W.Fast.tw17119622794617984870 := PySem.W.Fast.te17119622794617984870
theorem rout_q : @readsOut = @PySem.W.Fast.tw13343964577679436407 := PySem.W.Fast.te13343964577679436407
section
set_option maxRecDepth 100000
set_option maxHeartbeats 0
def pp : Program := PySem.Challenge.pw_pm0067_02
theorem look1 : (sreFenced pp.main && ((moduleNames pp.main.body).isEmpty || lookedIntoSs (moduleNames pp.main.body) pp.main.body)) = true := by kernel_rfl
theorem look2 : namesResolve pp = true := (congrFun resolve_q _).trans (by kernel_rfl)
theorem look3 : (pp.boundNames.all fun n => !worldNames.contains n) = true := by kernel_rfl
theorem look4s : (!(importedModules pp.main.body).all cThrough.contains) = false := by kernel_rfl
theorem look4b : ((["vars", "dir", "locals"] : List Str).filter (readsOut pp pp.main.body)) = [] := by
  rw [rout_q]
  kernel_rfl
theorem look4 : noRoadLSs { strict := !(importedModules pp.main.body).all cThrough.contains, foot := none, bare := (["vars", "dir", "locals"] : List Str).filter (readsOut pp pp.main.body) } pp.main.body = true := by
  rw [look4s, look4b]
  exact (congrFun (congrFun road_q _) _).trans (by kernel_rfl)
theorem look5 : (namesMeet pp pp.main.body fun _ n => attrL n) = true := (congrFun (congrFun (congrFun meet_q _) _) _).trans (by kernel_rfl)
theorem looks : looksOpen pp = true := by
  unfold looksOpen
  exact look_both (look_both (look_both (look_both look1 look2) look3) look4) look5
theorem said_part : (PySem.Challenge.rw_pm0067_02).row.partSaid = true := by
  unfold OpenRow.partSaid
  rw [show looksOpen (PySem.Challenge.rw_pm0067_02).row.prog = true from looks]
  kernel_rfl
theorem said02 : (PySem.Challenge.rw_pm0067_02).wellSaid = true := by
  unfold OpenLaw.wellSaid OpenRow.wellSaid
  rw [said_part]
  kernel_rfl
/-! the written part: the kit writes it (as `mk.heap_1`), less the functions that the law never comes to -/
def skipF : List Nat → Frag → Frag
  | [], k => k
  | _ :: _, [] => []
  | e :: es, p :: k => match Nat.beq p.1 e with
    | true => skipF es k
    | false => p :: skipF (e :: es) k
theorem lookup_skip {a : Addr} {o : Obj} : ∀ (es : List Nat) (k : Frag), List.lookup a k = some o → es.contains a = false → List.lookup a (skipF es k) = some o
  | [], k, h, _ => by cases k <;> exact h
  | _ :: _, [], h, _ => h
  | e :: es, p :: k, h, he => by
    rw [List.contains_cons, Bool.or_eq_false_iff] at he
    unfold skipF
    cases hb : Nat.beq p.1 e with
    | true =>
      have e1 : p.1 = e := Nat.eq_of_beq_eq_true hb
      have hne : (a == p.1) = false := by rw [e1]; exact he.1
      refine lookup_skip es k ?_ he.2
      rwa [show p = (p.1, p.2) from rfl, List.lookup_cons, hne] at h
    | false =>
      show List.lookup a (p :: skipF (e :: es) k) = some o
      rw [show p = (p.1, p.2) from rfl, List.lookup_cons] at h ⊢
      cases hc : a == p.1 with
      | true => rw [hc] at h; exact h
      | false =>
        rw [hc] at h
        exact lookup_skip (e :: es) k h (by rw [List.contains_cons, Bool.or_eq_false_iff]; exact he)
local macro_rules | `(tactic| o_head $_) => `(tactic| assumption)
theorem mk : (PySem.Challenge.rw_pm0067_02).row.Holds → (PySem.Challenge.rw_pm0067_02).row.Holds := by
  intro h
  k_head
end
def without : List Nat := [33, 35, 36, 38, 39, 40, 42, 43, 45, 46, 120, 121, 123, 124, 126, 127, 128, 130, 131, 133, 134, 135, 137, 138, 140, 141, 142, 144, 145, 147, 148, 150, 152, 153, 155, 156, 157, 159, 160, 162, 163, 164, 166, 167, 169, 170, 171, 173, 174, 176, 177, 178, 180, 181, 183, 184, 185, 187, 188, 190, 191, 192, 194, 195, 197, 198, 199, 201, 202, 204, 205, 206, 208, 209, 211, 212, 213, 215, 216, 218, 219, 220, 222, 223, 225, 226, 227, 229, 230, 232, 233, 234, 236, 237, 239, 240, 241, 242, 244, 245, 247, 248, 249, 250, 252, 253, 255, 256, 257, 258, 260, 261, 263, 264, 265, 266, 268, 269, 271, 272, 273, 275, 276, 278, 279, 280, 282, 283, 285, 286, 287, 288, 290, 291, 293, 294, 295, 296, 298, 299, 301, 302, 303, 305, 306, 308, 309, 310, 312, 313, 315, 316, 317, 319, 320, 322, 323, 324, 326, 327, 329, 330, 331, 333, 334, 336, 337, 372, 374, 375, 377, 378, 379, 381, 382, 384, 385, 386, 388, 389, 391, 392, 394, 396, 397, 399, 400, 402, 404, 405, 407, 408, 410, 412, 413, 415, 416, 418, 420, 421, 423, 424, 426, 428, 429, 431, 432, 433, 435, 436, 438, 439, 440, 442, 443, 445, 446, 447, 449, 450, 452, 453, 454, 456, 457, 459, 460, 461, 463, 464, 466, 467, 468, 470, 471, 473, 474, 475, 477, 478, 480, 481, 482, 484, 485, 487, 488, 489, 491, 492, 494, 495, 496, 498, 499, 501, 502, 503, 505, 506, 508, 509, 510, 511, 513, 514, 516, 517, 518, 519, 521, 522, 524, 525, 534, 535, 537, 538, 540, 541, 542, 543, 545, 546, 548, 549, 550, 552, 553, 555, 556, 557, 559, 560, 562, 563, 564, 566, 567, 569, 570, 571, 573, 574, 576, 577, 578, 580, 581, 583, 584, 590, 592, 593, 595, 596, 597, 599, 600, 602, 603, 604, 606, 607, 609, 610, 611, 613, 614, 616, 617, 618, 620, 621, 623, 624, 625, 627, 628, 630, 631, 655, 657, 658, 660, 661, 662, 663, 665, 666, 668, 669, 670, 672, 673, 675, 676, 691, 693, 694, 696, 697, 698, 699, 701, 702, 704, 705, 706, 708, 709, 711, 712, 713, 715, 716, 718, 719]
def P0 : Params := { strHash := fun _ => 0, shareClass := fun _ => 0, mergeTok := id, idOf := fun _ => 0, idOfShared := fun _ _ => 0, followText := fun _ => true, idOfImm := fun _ => 0 }
noncomputable def K2 : Params → Frag := fun P => skipF without (Mine.mk.heap_1 P)
noncomputable def adrs : List Addr := (K2 P0).map (·.1)
section
set_option maxRecDepth 100000
set_option maxHeartbeats 0
theorem adrs_ok (P : Params) : adrs = (K2 P).map (·.1) := by kernel_rfl
/-! the top's run: what is seen of its end, and the written part -/
theorem run_seen (w : World) : (endsT (RowW.prog (OpenRow.toRowW (OpenLaw.row PySem.Challenge.rw_pm0067_02))) w 9710 29 (some (Value.ref 6))).map (fun s => seenQ vw looseNames (importedModules (RowW.prog (OpenRow.toRowW (OpenLaw.row PySem.Challenge.rw_pm0067_02))).main.body) (fun s => xlAt vw [] s && recOk (RowW.records (OpenRow.toRowW (OpenLaw.row PySem.Challenge.rw_pm0067_02))) s) true s) = some (openGood vw looseNames) := by kernel_rfl
theorem run_kept (w : World) : (endsT (RowW.prog (OpenRow.toRowW (OpenLaw.row PySem.Challenge.rw_pm0067_02))) w 9710 29 (some (Value.ref 6))).map (fun s => adrs.map s.heap.get?) = some ((K2 w.params).map fun p => some p.2) := by kernel_rfl
end
local macro_rules | `(tactic| o_law) => `(tactic| refine holds_law said02 fun said => ?_)
local macro_rules | `(tactic| k_head) => `(tactic| (
  refine holds_open (q := vw) (loose := looseNames) (Xt := fun s => xlAt vw [] s && recOk (RowW.records (OpenRow.toRowW (OpenLaw.row PySem.Challenge.rw_pm0067_02))) s) (XP := XL vw []) (Yf := Hook.obs (kHook K2 adrs adrs_ok)) (Ya := Hook.val (kHook K2 adrs adrs_ok)) (YP := Hook.says (kHook K2 adrs adrs_ok)) (N := 9710)
    ?hl (Hook.of (kHook K2 adrs adrs_ok)) (Hook.keeps (kHook K2 adrs adrs_ok)) (fun s e => xl_of s (Bool.and_eq_true_iff.mp e).1) XL.keeps (by rfl) (by rfl) (by rfl) (fun s e => recFacts_of (Bool.and_eq_true_iff.mp e).2) (by rfl) (by first | assumption | decide +kernel) (by decide +kernel) ⟨rfl, rfl, rfl, rfl, rfl, by decide +kernel⟩ ?hw ?hc
  (case hl => exact left_parts 29 (some (Value.ref 6)) run_seen run_kept)))

set_option maxRecDepth 100000 in
set_option maxHeartbeats 0 in
open_top hd for PySem.Challenge.rw_pm0067_02
end Mine
end
section
open PySem PySem.W PyProof.Rows PySem.Calls
namespace Mine

/-! The abstract machine: values without tokens, objects by kind, a ledger of what the call has made. -/

inductive V where
  | none
  | bool (b : Bool)
  | int (i : Int)
  | str (x : Str)
  | bytes (x : Array UInt8)
  | ref (a : Addr)
  | oth (v : Value)

def ab : Value → V
  | .none => .none
  | .bool b => .bool b
  | .int i _ => .int i
  | .str x _ => .str x
  | .bytes x _ => .bytes x
  | .ref a => .ref a
  | v => .oth v

@[reducible] def raw : V → Tok → Value
  | .none, _ => .none
  | .bool b, _ => .bool b
  | .int i, t => .int i t
  | .str x, t => .str x t
  | .bytes x, t => .bytes x t
  | .ref a, _ => .ref a
  | .oth v, _ => v
theorem raw_of {u : Value} {v : V} (h : ab u = v) : ∃ t, u = raw v t := by
  subst h
  cases u <;> first | exact ⟨0, rfl⟩ | exact ⟨_, rfl⟩
theorem ab_none {u : Value} (h : ab u = .none) : u = .none := by cases u <;> first | rfl | cases h
theorem ab_bool {u : Value} {b : Bool} (h : ab u = .bool b) : u = .bool b := by cases u <;> first | (cases h; rfl) | cases h
theorem ab_int {u : Value} {i : Int} (h : ab u = .int i) : ∃ t, u = .int i t := by cases u <;> first | (cases h; exact ⟨_, rfl⟩) | cases h
theorem ab_str {u : Value} {x : Str} (h : ab u = .str x) : ∃ t, u = .str x t := by cases u <;> first | (cases h; exact ⟨_, rfl⟩) | cases h
theorem ab_bytes {u : Value} {x : Array UInt8} (h : ab u = .bytes x) : ∃ t, u = .bytes x t := by cases u <;> first | (cases h; exact ⟨_, rfl⟩) | cases h
theorem ab_ref {u : Value} {a : Addr} (h : ab u = .ref a) : u = .ref a := by cases u <;> first | (cases h; rfl) | cases h
theorem ab_oth {u v : Value} (h : ab u = .oth v) : u = v := by cases u <;> first | (cases h; rfl) | cases h

inductive AO where
  | ns (m : List (Str × Option V))
  | inst (C d : Addr)
  | dict (m : List (Str × V))
  | list (vs : List V)
  | deq (vs : List V)
  | imap (m : List (Int × Int))
  | cell (v : Option V)
  | obj (o : Obj)
  | prop (P : Obj → Prop)

/-- the entries of an object's dict, one by one -/
inductive Ents : List DictEntry → List (Str × V) → Prop
  | nil : Ents [] []
  | cons {hs : Int} {x : Str} {t : Tok} {u : Value} {v : V} {es : List DictEntry} {m : List (Str × V)} : ab u = v → Ents es m → Ents (⟨hs, .str x t, u⟩ :: es) ((x, v) :: m)

def deqObj (us : List Value) (k : Int) (t : Tok) : Obj := { cls := .type "collections.deque", data := .fields (#[.none, .int k t] ++ us.toArray) }

/-- the entries of a dict from ints to ints -/
inductive IEnts : List DictEntry → List (Int × Int) → Prop
  | nil : IEnts [] []
  | cons {k v : Int} {t t' : Tok} {es : List DictEntry} {m : List (Int × Int)} : IEnts es m → IEnts (⟨hashInt k, .int k t, .int v t'⟩ :: es) ((k, v) :: m)

def OR (o : Obj) : AO → Prop
  | .ns m => (m.map (·.1)).Nodup ∧ ∃ es ep, o.data = .dict es ep ∧ StrKeys es ∧ ∀ x v, (x, some v) ∈ m → ∃ u, nsFind es x = some u ∧ ab u = v
  | .inst C d => o = instObj C d
  | .dict m => (m.map (·.1)).Nodup ∧ m.length ≤ 1000 ∧ ∃ es n, o = dictOf es n ∧ Ents es m
  | .list vs => ∃ us n, o = listOf us n ∧ us.toList.map ab = vs
  | .deq vs => ∃ us k t, o = deqObj us k t ∧ us.map ab = vs
  | .imap m => ∃ es n, o = dictOf es n ∧ IEnts es m
  | .cell v => ∃ v', o.data = .cell v' ∧ v'.map ab = v
  | .obj o' => o = o'
  | .prop P => P o

abbrev Led := List (Addr × AO)

structure Cx where
  prog : Program
  w : World
  K : Frag
  h₀ : Heap
  mg : Str → Option Value
  mb : Str → Option Value
  hK : K.In h₀
  hg : h₀.Ns mainGlobals mg
  hb : h₀.Ns builtinsNs mb
  hbn : ∀ x : Str, x ≠ "__name__" → mb x = bootBuiltins x
  hlim : h₀.NoLimit

def Sat (C : Cx) (h : Heap) (N : Led) : Prop :=
  (∀ b o, C.h₀.get? b = some o → h.get? b = some o) ∧ (∀ p ∈ N, C.h₀.objs.size ≤ p.1 ∧ ∃ o, h.get? p.1 = some o ∧ OR o p.2) ∧ (N.map (·.1)).Nodup

theorem Sat.keep {C : Cx} {h : Heap} {N : Led} (x : Sat C h N) : ∀ b o, C.h₀.get? b = some o → h.get? b = some o := x.1
theorem Sat.at {C : Cx} {h : Heap} {N : Led} (x : Sat C h N) {a : Addr} {ao : AO} (m : (a, ao) ∈ N) : ∃ o, h.get? a = some o ∧ OR o ao := (x.2.1 _ m).2
theorem Sat.hi {C : Cx} {h : Heap} {N : Led} (x : Sat C h N) {a : Addr} {ao : AO} (m : (a, ao) ∈ N) : C.h₀.objs.size ≤ a := (x.2.1 _ m).1
theorem Sat.K {C : Cx} {h : Heap} {N : Led} (x : Sat C h N) : C.K.In h := C.hK.keeps x.1
theorem Sat.sub {C : Cx} {h : Heap} {N N' : Led} (x : Sat C h N) (hs : N'.Sublist N) : Sat C h N' :=
  ⟨x.1, fun p hp => x.2.1 p (hs.subset hp), (hs.map _).nodup x.2.2⟩
theorem Sat.perm {C : Cx} {h : Heap} {N N' : Led} (x : Sat C h N) (hs : N'.Perm N) : Sat C h N' :=
  ⟨x.1, fun p hp => x.2.1 p (hs.mem_iff.mp hp), (hs.map _).nodup_iff.mpr x.2.2⟩
theorem Sat.tail {C : Cx} {h : Heap} {N : Led} {p : Addr × AO} (x : Sat C h (p :: N)) : Sat C h N := x.sub (List.sublist_cons_self ..)

theorem nd_unique : ∀ {l : Led}, (l.map (·.1)).Nodup → ∀ {p q : Addr × AO}, p ∈ l → q ∈ l → p.1 = q.1 → p = q
  | [], _, _, _, hp, _, _ => nomatch hp
  | x :: l, nd, p, q, hp, hq, e => by
    rw [List.map_cons, List.nodup_cons] at nd
    rcases List.mem_cons.mp hp with h1 | h1
    · rcases List.mem_cons.mp hq with h2 | h2
      · rw [h1, h2]
      · exact (nd.1 (List.mem_map.mpr ⟨q, h2, by rw [← e, h1]⟩)).elim
    · rcases List.mem_cons.mp hq with h2 | h2
      · exact (nd.1 (List.mem_map.mpr ⟨p, h1, by rw [e, h2]⟩)).elim
      · exact nd_unique nd.2 h1 h2 e
theorem Sat.uniq {C : Cx} {h : Heap} {N : Led} (x : Sat C h N) {a : Addr} {o o' : AO} (m : (a, o) ∈ N) (m' : (a, o') ∈ N) : o = o' := (Prod.mk.inj (nd_unique x.2.2 m m' rfl)).2
theorem Sat.push {C : Cx} {h : Heap} {N : Led} {o : Obj} {ao : AO} (x : Sat C h N) (r : OR o ao) (hf : o.isFreed = false) (hz : C.h₀.objs.size ≤ h.objs.size) :
    Sat C (h.push o) ((h.objs.size, ao) :: N) := by
  refine ⟨fun b o' e => Heap.get?_push_of_some _ (x.1 b o' e), fun p hp => ?_, ?_⟩
  · rcases List.mem_cons.mp hp with rfl | hp
    · exact ⟨hz, o, Heap.get?_push_size _ hf, r⟩
    · obtain ⟨hi, o', e, r'⟩ := x.2.1 p hp
      exact ⟨hi, o', Heap.get?_push_of_some _ e, r'⟩
  · refine List.nodup_cons.mpr ⟨fun hm => ?_, x.2.2⟩
    obtain ⟨p, hp, e⟩ := List.mem_map.mp hm
    obtain ⟨_, o', e', _⟩ := x.2.1 p hp
    have := Heap.lt_size e'
    rw [e] at this
    exact Nat.lt_irrefl _ this

inductive Upd (a : Addr) (o o' : AO) : Led → Led → Prop
  | head {r : Led} : Upd a o o' ((a, o) :: r) ((a, o') :: r)
  | tail {p : Addr × AO} {r r' : Led} : Upd a o o' r r' → Upd a o o' (p :: r) (p :: r')
theorem Upd.mem {a : Addr} {o o' : AO} : ∀ {N N' : Led}, Upd a o o' N N' → (a, o) ∈ N
  | _, _, .head => .head _
  | _, _, .tail u => .tail _ u.mem
theorem Upd.keys {a : Addr} {o o' : AO} : ∀ {N N' : Led}, Upd a o o' N N' → N'.map (·.1) = N.map (·.1)
  | _, _, .head => rfl
  | _, _, .tail u => by simp only [List.map_cons, u.keys]
theorem Upd.cases {a : Addr} {o o' : AO} : ∀ {N N' : Led}, Upd a o o' N N' → (N.map (·.1)).Nodup → ∀ p ∈ N', p = (a, o') ∨ (p ∈ N ∧ p.1 ≠ a)
  | _, _, .head, nd, p, hp => by
    rcases List.mem_cons.mp hp with rfl | hp
    · exact .inl rfl
    · refine .inr ⟨.tail _ hp, fun e => ?_⟩
      rw [List.map_cons, List.nodup_cons] at nd
      exact nd.1 (List.mem_map.mpr ⟨p, hp, e⟩)
  | _, _, .tail (p := q) u, nd, p, hp => by
    rw [List.map_cons, List.nodup_cons] at nd
    rcases List.mem_cons.mp hp with rfl | hp
    · exact .inr ⟨.head _, fun e => nd.1 (List.mem_map.mpr ⟨_, u.mem, e.symm⟩)⟩
    · rcases u.cases nd.2 p hp with h | h
      · exact .inl h
      · exact .inr ⟨.tail _ h.1, h.2⟩

theorem Sat.upd {C : Cx} {h h' : Heap} {N N' : Led} {a : Addr} {o o' : AO} {ob : Obj} (x : Sat C h N) (u : Upd a o o' N N') (hs : Heap.SameBut a h h') (ho : h'.get? a = some ob) (r : OR ob o') : Sat C h' N' := by
  have hi := x.hi u.mem
  refine ⟨fun b o'' e => (hs.2 b ?_).trans (x.1 b o'' e), fun p hp => ?_, by rw [u.keys]; exact x.2.2⟩
  · exact Nat.ne_of_lt (Nat.lt_of_lt_of_le (Heap.lt_size e) hi)
  · rcases u.cases x.2.2 p hp with rfl | ⟨hm, hn⟩
    · exact ⟨hi, ob, ho, r⟩
    · obtain ⟨h1, o1, e1, r1⟩ := x.2.1 p hm
      exact ⟨h1, o1, (hs.2 _ hn).trans e1, r1⟩

/-- the walk's judgement -/
def W {α : Type} (C : Cx) (A : Around) (t : Sem α) (N : Led) (Q : α → Led → Prop) : Prop :=
  ∀ s : Shared, Sat C s.heap N → C.h₀.objs.size ≤ s.heap.objs.size → wpAny (model C.prog C.w) A t (fun a s' => ∃ h tk N', s' = { s with heap := h, toks := tk } ∧ Sat C h N' ∧ C.h₀.objs.size ≤ h.objs.size ∧ Q a N') (fun _ _ => False) s

section
variable {α β : Type} {C : Cx} {A : Around} {N : Led}
theorem W.pure {a : α} {Q : α → Led → Prop} (h : Q a N) : W C A (pure a) N Q := fun s x z => wpAny_pure ⟨s.heap, s.toks, N, rfl, x, z, h⟩
theorem W.bind {t : Sem α} {f : α → Sem β} {Q : β → Led → Prop} (h : W C A t N (fun a N' => W C A (f a) N' Q)) : W C A (t >>= f) N Q := fun s x z =>
  wpAny_bind (wpAny_mono (h s x z) (fun a s' g => by
    obtain ⟨h', tk, N', rfl, x', z', q⟩ := g
    exact wpAny_mono (q _ x' z') (fun b s'' g' => by
      obtain ⟨h'', tk', N'', rfl, x'', z'', q'⟩ := g'
      exact ⟨h'', tk', N'', rfl, x'', z'', q'⟩) fun _ _ e => e) fun _ _ e => e)
theorem W.mono {t : Sem α} {Q Q' : α → Led → Prop} (h : W C A t N Q) (k : ∀ a N', Q a N' → Q' a N') : W C A t N Q' := fun s x z =>
  wpAny_mono (h s x z) (fun a s' g => by obtain ⟨h', tk, N', e, x', z', q⟩ := g; exact ⟨h', tk, N', e, x', z', k _ _ q⟩) fun _ _ e => e
theorem W.sub {t : Sem α} {N' : Led} {Q : α → Led → Prop} (h : W C A t N' Q) (hs : N'.Sublist N) : W C A t N Q := fun s x z => h s (x.sub hs) z
theorem W.perm {t : Sem α} {N' : Led} {Q : α → Led → Prop} (h : W C A t N' Q) (hs : N'.Perm N) : W C A t N Q := fun s x z => h s (x.perm hs) z
theorem W.holding {vs : List Value} {t : Sem α} {Q : α → Led → Prop} (h : W C A t N Q) : W C A (holding vs t) N Q := fun s x z => wpAny_holding (h s x z)
/-- a step that the library knows, its heap left as it was -/
theorem W.same {t : Sem α} {a : α} {Q : α → Led → Prop} (h : ∀ s : Shared, Sat C s.heap N → ∀ R : α → Shared → Prop, (∀ tk, R a { s with toks := tk }) → wpAny (model C.prog C.w) A t R (fun _ _ => False) s) (q : Q a N) : W C A t N Q := fun s x z =>
  h s x _ fun tk => ⟨s.heap, tk, N, rfl, x, z, q⟩
theorem W.standAt {p : Pos} {Q : Unit → Led → Prop} (h : Q () N) : W C A (standAt p) N Q := fun s x z => wpAny_standAt ⟨s.heap, s.toks, N, rfl, x, z, h⟩
theorem W.rule {t : String} {Q : Unit → Led → Prop} (h : Q () N) : W C A (rule t) N Q := fun s x z => wpAny_rule ⟨s.heap, s.toks, N, rfl, x, z, h⟩
theorem W.point {Q : Unit → Led → Prop} (h : Q () N) : W C A point N Q := fun s x z => wpAny_point ⟨s.heap, s.toks, N, rfl, x, z, h⟩
theorem W.operate {vs : List Value} {t : Sem Value} {Q : Value → Led → Prop} (h : W C A t N Q) : W C A (operate vs t) N Q := fun s x z => by
  have w := h s x z
  intro Γ p hΓ
  rw [Sem.wp_operate]
  exact w Γ p hΓ
theorem W.ite {c : Prop} [Decidable c] {a b : Sem α} {Q : α → Led → Prop} (h : if c then W C A a N Q else W C A b N Q) : W C A (if c then a else b) N Q := by split <;> simp_all
/-- the state's own step: one object turned -/
theorem W.turn {t : Sem α} {a : α} {ad : Addr} {o o' : AO} {N' : Led} {Q : α → Led → Prop} (u : Upd ad o o' N N')
    (h : ∀ s : Shared, Sat C s.heap N → ∀ R : α → Shared → Prop, (∀ h' ob tk, Heap.SameBut ad s.heap h' → h'.get? ad = some ob → OR ob o' → R a { s with heap := h', toks := tk }) → wpAny (model C.prog C.w) A t R (fun _ _ => False) s) (q : Q a N') : W C A t N Q := fun s x z =>
  h s x _ fun h' ob tk hs ho r => ⟨h', tk, N', rfl, x.upd u hs ho r, by rw [hs.1]; exact z, q⟩
end

end Mine
end
section
open PySem PySem.W PyProof.Rows PySem.Calls
namespace Mine

inductive Has (x : Str) (v : V) : List (Str × Option V) → Prop
  | head {r : List (Str × Option V)} : Has x v ((x, some v) :: r)
  | tail {p : Str × Option V} {r : List (Str × Option V)} : Has x v r → Has x v (p :: r)
theorem Has.mem {x : Str} {v : V} : ∀ {m : List (Str × Option V)}, Has x v m → (x, some v) ∈ m
  | _, .head => .head _
  | _, .tail h => .tail _ h.mem
inductive Put (x : Str) (v : V) : List (Str × Option V) → List (Str × Option V) → Prop
  | head {w : Option V} {r : List (Str × Option V)} : Put x v ((x, w) :: r) ((x, some v) :: r)
  | tail {p : Str × Option V} {r r' : List (Str × Option V)} : Put x v r r' → Put x v (p :: r) (p :: r')
theorem Put.keys {x : Str} {v : V} : ∀ {m m' : List (Str × Option V)}, Put x v m m' → m'.map (·.1) = m.map (·.1) ∧ x ∈ m.map (·.1)
  | _, _, .head => ⟨rfl, .head _⟩
  | _, _, .tail h => ⟨by simp only [List.map_cons, h.keys.1], .tail _ h.keys.2⟩
theorem Put.cases {x : Str} {v : V} : ∀ {m m' : List (Str × Option V)}, Put x v m m' → (m.map (·.1)).Nodup → ∀ p ∈ m', p = (x, some v) ∨ (p ∈ m ∧ p.1 ≠ x)
  | _, _, .head, nd, p, hp => by
    rw [List.map_cons, List.nodup_cons] at nd
    rcases List.mem_cons.mp hp with rfl | hp
    · exact .inl rfl
    · exact .inr ⟨.tail _ hp, fun e => nd.1 (List.mem_map.mpr ⟨p, hp, e⟩)⟩
  | _, _, .tail (p := q) h, nd, p, hp => by
    rw [List.map_cons, List.nodup_cons] at nd
    rcases List.mem_cons.mp hp with rfl | hp
    · exact .inr ⟨.head _, fun e => nd.1 (e ▸ h.keys.2)⟩
    · rcases h.cases nd.2 p hp with h | h
      · exact .inl h
      · exact .inr ⟨.tail _ h.1, h.2⟩

/-- the attribute dict's -/
inductive HasD (x : Str) (v : V) : List (Str × V) → Prop
  | head {r : List (Str × V)} : HasD x v ((x, v) :: r)
  | tail {p : Str × V} {r : List (Str × V)} : HasD x v r → HasD x v (p :: r)
inductive PutD (x : Str) (v : V) : List (Str × V) → List (Str × V) → Prop
  | head {w : V} {r : List (Str × V)} : PutD x v ((x, w) :: r) ((x, v) :: r)
  | tail {p : Str × V} {r r' : List (Str × V)} : PutD x v r r' → PutD x v (p :: r) (p :: r')
theorem HasD.mem {x : Str} {v : V} : ∀ {m : List (Str × V)}, HasD x v m → (x, v) ∈ m
  | _, .head => .head _
  | _, .tail h => .tail _ h.mem
theorem PutD.keys {x : Str} {v : V} : ∀ {m m' : List (Str × V)}, PutD x v m m' → m'.map (·.1) = m.map (·.1) ∧ x ∈ m.map (·.1)
  | _, _, .head => ⟨rfl, .head _⟩
  | _, _, .tail h => ⟨by simp only [List.map_cons, h.keys.1], .tail _ h.keys.2⟩

theorem ents_get {x : Str} : ∀ {es : List DictEntry} {m : List (Str × V)}, Ents es m → (m.map (·.1)).Nodup → ∀ {v : V}, (x, v) ∈ m → ∃ u, getL x es = some (some u) ∧ ab u = v
  | _, _, .cons (x := y) (t := t) (u := u) (es := es) e r, nd, v, hm => by
    rw [List.map_cons, List.nodup_cons] at nd
    rcases List.mem_cons.mp hm with h | h
    · cases h
      exact ⟨u, by simp [getL, Value.isStr], e⟩
    · have hne : y ≠ x := fun z => nd.1 (z ▸ List.mem_map.mpr ⟨_, h, rfl⟩)
      obtain ⟨u', g, a⟩ := ents_get r nd.2 h
      refine ⟨u', ?_, a⟩
      unfold getL at g ⊢
      have hb : (Value.str y t).isStr x = false := by simp [Value.isStr, hne]
      rw [List.find?_cons, hb]
      simp only [List.any_cons, DictEntry.refKey] at g ⊢
      exact g
theorem ents_none {x : Str} : ∀ {es : List DictEntry} {m : List (Str × V)}, Ents es m → (m.map (·.1)).contains x = false → getL x es = some none
  | _, _, .nil, _ => rfl
  | _, _, .cons (x := y) (t := t) e r, h => by
    simp only [List.map_cons, List.contains_cons, Bool.or_eq_false_iff, beq_eq_false_iff_ne] at h
    have g := ents_none r h.2
    unfold getL at g ⊢
    have hb : (Value.str y t).isStr x = false := by simp [Value.isStr, Ne.symm h.1]
    rw [List.find?_cons, hb]
    simp only [List.any_cons, DictEntry.refKey] at g ⊢
    exact g
theorem ents_put {x : Str} {v : V} {u : Value} {hs : Int} {k : Value} (hu : ab u = v) : ∀ {m m' : List (Str × V)}, PutD x v m m' → ∀ {es : List DictEntry}, Ents es m → (m.map (·.1)).Nodup → Ents (putL x hs k u es) m'
  | _, _, .head, _, .cons (t := t) e r, _ => by
    have hb : (Value.str x t).isStr x = true := by simp [Value.isStr]
    unfold putL
    simp only [hb, if_true]
    exact .cons hu r
  | _, _, .tail (p := (_, _)) h, _, .cons (x := y) (t := t) e r, nd => by
    rw [List.map_cons, List.nodup_cons] at nd
    have hne : y ≠ x := fun z => nd.1 (z ▸ h.keys.2)
    have hb : (Value.str y t).isStr x = false := by simp [Value.isStr, hne]
    unfold putL
    simp only [hb, Bool.false_eq_true, if_false]
    exact .cons e (ents_put hu h r nd.2)
theorem ents_new {x : Str} {v : V} {u : Value} {hs : Int} {t : Tok} (hu : ab u = v) : ∀ {es : List DictEntry} {m : List (Str × V)}, Ents es m → (m.map (·.1)).contains x = false → Ents (putL x hs (.str x t) u es) (m ++ [(x, v)])
  | _, _, .nil, _ => .cons hu .nil
  | _, _, .cons (x := y) (t := t) e r, h => by
    simp only [List.map_cons, List.contains_cons, Bool.or_eq_false_iff, beq_eq_false_iff_ne] at h
    have hb : (Value.str y t).isStr x = false := by simp [Value.isStr, Ne.symm h.1]
    unfold putL
    simp only [hb, Bool.false_eq_true, if_false]
    exact .cons e (ents_new hu r h.2)
theorem ents_len : ∀ {es : List DictEntry} {m : List (Str × V)}, Ents es m → es.length = m.length
  | _, _, .nil => rfl
  | _, _, .cons _ r => by simp only [List.length_cons, ents_len r]

section
variable {C : Cx} {A : Around} {N N' : Led} {env : Env}

/-- an expression that makes nothing: its value -/
structure Ev (C : Cx) (A : Around) (env : Env) (N : Led) (e : Expr) (v : V) : Prop where
  go : ∀ Q : Value → Led → Prop, (∀ t, Q (raw v t) N) → W C A (eval e env) N Q
/-- a test: its outcome -/
structure Tv (C : Cx) (A : Around) (env : Env) (N : Led) (e : Expr) (b : Bool) : Prop where
  go : ∀ Q : Bool → Led → Prop, Q b N → ∀ whole, whole = eval e env → W C A (isTrue e env whole) N Q
/-- an operation on values -/
structure Op (C : Cx) (A : Around) (N : Led) (t : Value → Value → Sem Value) (a b v : V) : Prop where
  go : ∀ ta tb, ∀ Q : Value → Led → Prop, (∀ t, Q (raw v t) N) → W C A (t (raw a ta) (raw b tb)) N Q

theorem Sat.ns {h : Heap} {L : Addr} {m : List (Str × Option V)} (x : Sat C h N) (hm : (L, .ns m) ∈ N) : ∃ f, h.Ns L f ∧ ∀ y v, (y, some v) ∈ m → ∃ u, f y = some u ∧ ab u = v := by
  obtain ⟨o, e, _, es, ep, d, sk, r⟩ := x.at hm
  exact ⟨fun y => nsFind es y, ⟨o, es, ep, e, d, sk, fun _ => rfl⟩, r⟩
theorem Sat.nd {h : Heap} {L : Addr} {m : List (Str × Option V)} (x : Sat C h N) (hm : (L, .ns m) ∈ N) : (m.map (·.1)).Nodup := (x.at hm).choose_spec.2.1

theorem ev_local {x : Str} {pos : Pos} {v : V} {m : List (Str × Option V)} (hm : (env.locals, .ns m) ∈ N) (hv : Has x v m) (hk : env.scope.kind = .function := by rfl) (hl : env.kindOf x = some .local := by rfl)
    (hd : (x == ("__debug__" : Str)) = false := by decide) : Ev C A env N (.Name x pos) v := ⟨fun Q h s st z => by
  obtain ⟨f, hn, r⟩ := st.ns hm
  obtain ⟨u, hu, e⟩ := r _ _ hv.mem
  obtain ⟨t, rfl⟩ := raw_of e
  exact wpAny_Name (wpAny_loadName_local hk hl hn hu ⟨s.heap, s.toks, N, rfl, st, z, h t⟩) hd⟩

theorem ev_int {i : Int} {k : Nat} {pos : Pos} : Ev C A env N (.Constant (.int i) k pos) (.int i) := ⟨fun Q h s st z => wpAny_Constant_int ⟨s.heap, s.toks + 1, N, rfl, st, z, h _⟩⟩
theorem ev_str {x : Str} {k : Nat} {pos : Pos} : Ev C A env N (.Constant (.str x) k pos) (.str x) := ⟨fun Q h s st z => Calls.Constant_str ⟨s.heap, s.toks + 1, N, rfl, st, z, h _⟩⟩
theorem ev_none {k : Nat} {pos : Pos} : Ev C A env N (.Constant .none k pos) .none := ⟨fun Q h s st z => wpAny_Constant_none ⟨s.heap, s.toks, N, rfl, st, z, h 0⟩⟩
theorem ev_bool {b : Bool} {k : Nat} {pos : Pos} : Ev C A env N (.Constant (.bool b) k pos) (.bool b) := ⟨fun Q h s st z => by
  rw [eval_Constant]
  exact wpAny_pure ⟨s.heap, s.toks, N, rfl, st, z, h 0⟩⟩
theorem ev_bytes {x : List UInt8} {k : Nat} {pos : Pos} : Ev C A env N (.Constant (.bytes x) k pos) (.bytes x.toArray) := ⟨fun Q h s st z => Constant_bytes ⟨s.heap, s.toks + 1, N, rfl, st, z, h _⟩⟩

theorem ev_bin {l r : Expr} {op : Operator} {pos : Pos} {a b v : V} (hl : Ev C A env N l a) (hr : Ev C A env N r b) (ho : Op C A N (binaryOp op) a b v) : Ev C A env N (.BinOp l op r pos) v := ⟨fun Q h => by
  rw [eval_BinOp]
  exact W.bind (hl.go _ fun ta => W.bind (W.holding (hr.go _ fun tb => W.bind (W.standAt (W.operate (ho.go ta tb Q h))))))⟩

theorem ev_cmp {l r : Expr} {op : CmpOp} {pos : Pos} {a b v : V} (hl : Ev C A env N l a) (hr : Ev C A env N r b) (ho : Op C A N (compareOp op) a b v) (hm : behindInMarks op r = false := by with_unfolding_all rfl) : Ev C A env N (.Compare l [op] [r] pos) v := ⟨fun Q h => by
  rw [eval_Compare1, markedBehindIn_of_false hm]
  exact W.bind (hl.go _ fun ta => W.bind (W.holding (hr.go _ fun tb => W.bind (W.standAt (W.operate (ho.go ta tb Q h))))))⟩
end
end Mine
end
section
open PySem PySem.W PyProof.Rows PySem.Calls
namespace Mine

section
variable {C : Cx} {A : Around} {N N' : Led} {env : Env}

theorem Op.of {t : Value → Value → Sem Value} {a b v : V} (h : ∀ ta tb (s : Shared) (R : Value → Shared → Prop), (∀ t' tk, R (raw v t') { s with toks := tk }) → wpAny (model C.prog C.w) A (t (raw a ta) (raw b tb)) R (fun _ _ => False) s) : Op C A N t a b v :=
  ⟨fun ta tb Q q s st z => h ta tb s _ fun t' tk => ⟨s.heap, tk, N, rfl, st, z, q t'⟩⟩

theorem op_add {a b : Int} : Op C A N (binaryOp .Add) (.int a) (.int b) (.int (a + b)) := .of fun ta tb s R h => add_int (h _ _)
theorem op_sub {a b : Int} : Op C A N (binaryOp .Sub) (.int a) (.int b) (.int (a - b)) := .of fun ta tb s R h => sub_int (h _ _)
theorem op_mul {a b : Int} (hm : IntMulOk a b) : Op C A N (binaryOp .Mult) (.int a) (.int b) (.int (a * b)) := .of fun ta tb s R h => mul_int (h _ _) hm
theorem op_mod {a b : Int} (hb : b ≠ 0) : Op C A N (binaryOp .Mod) (.int a) (.int b) (.int (a.fmod b)) := .of fun ta tb s R h => mod_int hb (h _ _)
theorem op_fdiv {a b : Int} (hb : b ≠ 0) (hp : Builtin.divisionGoesByPylong a b = false) : Op C A N (binaryOp .FloorDiv) (.int a) (.int b) (.int (a.fdiv b)) := .of fun ta tb s R h => floordiv_int hb (h _ _) (.inl hp)
theorem op_pow {a n : Int} (h0 : 0 ≤ n) (h1 : n ≤ 1000000) (h2 : a.natAbs < 2 ^ 64) : Op C A N (binaryOp .Pow) (.int a) (.int n) (.int (a ^ n.toNat)) := .of fun ta tb s R h => pow_int_small h0 h1 h2 (h _ _)
theorem op_adds {x y : Str} (hz : x.length + y.length ≤ sizeLine) : Op C A N (binaryOp .Add) (.str x) (.str y) (.str (x ++ y)) := .of fun ta tb s R h => add_str (fun t' tk => h t' tk) hz
theorem op_addb {x y : Array UInt8} (hz : x.size + y.size ≤ 16777216) : Op C A N (binaryOp .Add) (.bytes x) (.bytes y) (.bytes (x ++ y)) := .of fun ta tb s R h => KBy.add_bytes hz (fun t' tk => h t' tk)
theorem op_iadd {a b : Int} : Op C A N (inplaceOp .Add) (.int a) (.int b) (.int (a + b)) := .of fun ta tb s R h => iadd_int (h _ _)
theorem op_isub {a b : Int} : Op C A N (inplaceOp .Sub) (.int a) (.int b) (.int (a - b)) := .of fun ta tb s R h => isub_int (h _ _)
theorem op_iadds {x y : Str} (hz : x.length + y.length ≤ sizeLine) : Op C A N (inplaceOp .Add) (.str x) (.str y) (.str (x ++ y)) := .of fun ta tb s R h => iadd_str (fun t' tk => h t' tk) hz
theorem op_eq {a b : Int} : Op C A N (compareOp .Eq) (.int a) (.int b) (.bool (a == b)) := .of fun ta tb s R h => eq_int (h 0 s.toks)
theorem op_ne {a b : Int} : Op C A N (compareOp .NotEq) (.int a) (.int b) (.bool (a != b)) := .of fun ta tb s R h => ne_int (h 0 s.toks)
theorem op_lt {a b : Int} : Op C A N (compareOp .Lt) (.int a) (.int b) (.bool (decide (a < b))) := .of fun ta tb s R h => lt_int (h 0 s.toks)
theorem op_le {a b : Int} : Op C A N (compareOp .LtE) (.int a) (.int b) (.bool (decide (a ≤ b))) := .of fun ta tb s R h => le_int (h 0 s.toks)
theorem op_gt {a b : Int} : Op C A N (compareOp .Gt) (.int a) (.int b) (.bool (decide (b < a))) := .of fun ta tb s R h => gt_int (h 0 s.toks)
theorem op_ge {a b : Int} : Op C A N (compareOp .GtE) (.int a) (.int b) (.bool (decide (b ≤ a))) := .of fun ta tb s R h => ge_int (h 0 s.toks)
theorem op_eqs {x y : Str} : Op C A N (compareOp .Eq) (.str x) (.str y) (.bool (x == y)) := .of fun ta tb s R h => eq_str (h 0 s.toks)
theorem op_nes {x y : Str} : Op C A N (compareOp .NotEq) (.str x) (.str y) (.bool (x != y)) := .of fun ta tb s R h => ne_str (h 0 s.toks)
theorem op_eqsn {x : Str} : Op C A N (compareOp .Eq) (.str x) .none (.bool false) := .of fun ta tb s R h => EqNone.eq_str_none (h 0 s.toks)
theorem op_eqnn : Op C A N (compareOp .Eq) .none .none (.bool true) := .of fun ta tb s R h => EqNone.eq_none_none (h 0 s.toks)
def inS (y x : Str) : Bool := !(Builtin.Str.occurrences x y 0 x.length 1).isEmpty
theorem op_in {x y : Str} : Op C A N (compareOp .In) (.str y) (.str x) (.bool (inS y x)) := .of fun ta tb s R h => in_str (h 0 s.toks)
theorem op_notin {x y : Str} : Op C A N (compareOp .NotIn) (.str y) (.str x) (.bool (!inS y x)) := .of fun ta tb s R h => notIn_str (h 0 s.toks)
def isNoneV : V → Bool
  | .none => true
  | .oth v => v == .none
  | _ => false
theorem isNoneV_raw (v : V) (t : Tok) : (raw v t == Value.none) = isNoneV v := by cases v <;> rfl
theorem op_isnone {v : V} : Op C A N (compareOp .Is) v .none (.bool (isNoneV v)) := .of fun ta tb s R h => is_none_gen (by rw [isNoneV_raw]; exact h 0 s.toks)
theorem op_isnotnone {v : V} : Op C A N (compareOp .IsNot) v .none (.bool (!isNoneV v)) := .of fun ta tb s R h => isnot_none_gen (by rw [isNoneV_raw]; exact h 0 s.toks)
theorem op_isTrueS {x : Str} : Op C A N (compareOp .Is) (.str x) (.bool true) (.bool false) := .of fun ta tb s R h => wpAny_is_other rfl (fun e => by cases e) (h 0 s.toks)

/-- the truth of a value -/
structure Tr (C : Cx) (A : Around) (N : Led) (v : V) (b : Bool) : Prop where
  go : ∀ t, ∀ Q : Bool → Led → Prop, Q b N → W C A (truthy (raw v t)) N Q
theorem Tr.of {v : V} {b : Bool} (h : ∀ t (s : Shared) (R : Bool → Shared → Prop), Sat C s.heap N → (∀ tk, R b { s with toks := tk }) → wpAny (model C.prog C.w) A (truthy (raw v t)) R (fun _ _ => False) s) : Tr C A N v b :=
  ⟨fun t Q q s st z => h t s _ st fun tk => ⟨s.heap, tk, N, rfl, st, z, q⟩⟩
theorem tr_bool {b : Bool} : Tr C A N (.bool b) b := .of fun t s R _ h => wpAny_truthy_bool (h s.toks)
theorem tr_none : Tr C A N .none false := .of fun t s R _ h => truthy_none (h s.toks)
theorem tr_int {a : Int} : Tr C A N (.int a) (a != 0) := .of fun t s R _ h => truthy_int (h s.toks)
theorem tr_str {x : Str} (hz : (x.length : Int) < 9223372036854775808) : Tr C A N (.str x) ((x.length : Int) != 0) := .of fun t s R _ h => SBL.truthy hz (h _)

theorem tv_ev {e : Expr} {v : V} {b : Bool} (h : Ev C A env N e v) (t : Tr C A N v b) (hs : ∀ whole, isTrue e env whole = (do let v ← whole; standAt e.pos; PySem.holding [v] (truthy v)) := by intro _; rfl) : Tv C A env N e b := ⟨fun Q q whole hw => by
  subst hw
  rw [hs]
  exact W.bind (h.go _ fun tk => W.bind (W.standAt (W.holding (t.go tk Q q))))⟩
theorem tv_cmp {l r : Expr} {op : CmpOp} {pos : Pos} {a b : V} {c : Bool} (hl : Ev C A env N l a) (hr : Ev C A env N r b) (ho : Op C A N (compareOp op) a b (.bool c)) (hm : behindInMarks op r = false := by with_unfolding_all rfl) :
    Tv C A env N (.Compare l [op] [r] pos) c := ⟨fun Q q whole hw => by
  rw [isTrue_Compare1, markedBehindIn_of_false hm]
  exact W.bind (hl.go _ fun ta => W.bind (W.holding (hr.go _ fun tb => W.bind (W.standAt (W.bind (W.operate (ho.go ta tb _ fun _ => W.holding (tr_bool.go 0 Q q))))))))⟩
theorem tv_not {e : Expr} {pos : Pos} {b : Bool} (h : Tv C A env N e b) : Tv C A env N (.UnaryOp .Not e pos) (!b) := ⟨fun Q q whole hw => by
  show W C A (do return !(← isTrue e env (eval e env))) N Q
  exact W.bind (h.go _ (W.pure q) _ rfl)⟩
structure Ta (C : Cx) (A : Around) (env : Env) (N : Led) (op : BoolOp) (es : List Expr) (b : Bool) : Prop where
  go : ∀ Q : Bool → Led → Prop, Q b N → W C A (allTrue op es env) N Q
theorem tv_bool {op : BoolOp} {es : List Expr} {pos : Pos} {b : Bool} (h : Ta C A env N op es b) : Tv C A env N (.BoolOp op es pos) b := ⟨fun Q q whole hw => h.go Q q⟩
theorem ta_and : Ta C A env N .And [] true := ⟨fun Q q => W.pure q⟩
theorem ta_or : Ta C A env N .Or [] false := ⟨fun Q q => W.pure q⟩
theorem ta_and_f {e : Expr} {es : List Expr} (h : Tv C A env N e false) : Ta C A env N .And (e :: es) false := ⟨fun Q q => by
  show W C A (do match BoolOp.And, ← isTrue e env (eval e env) with | .And, false => pure false | .Or, true => pure true | _, _ => allTrue .And es env) N Q
  exact W.bind (h.go _ (W.pure q) _ rfl)⟩
theorem ta_and_t {e : Expr} {es : List Expr} {b : Bool} (h : Tv C A env N e true) (r : Ta C A env N .And es b) : Ta C A env N .And (e :: es) b := ⟨fun Q q => by
  show W C A (do match BoolOp.And, ← isTrue e env (eval e env) with | .And, false => pure false | .Or, true => pure true | _, _ => allTrue .And es env) N Q
  exact W.bind (h.go _ (r.go Q q) _ rfl)⟩
theorem ta_or_t {e : Expr} {es : List Expr} (h : Tv C A env N e true) : Ta C A env N .Or (e :: es) true := ⟨fun Q q => by
  show W C A (do match BoolOp.Or, ← isTrue e env (eval e env) with | .And, false => pure false | .Or, true => pure true | _, _ => allTrue .Or es env) N Q
  exact W.bind (h.go _ (W.pure q) _ rfl)⟩
theorem ta_or_f {e : Expr} {es : List Expr} {b : Bool} (h : Tv C A env N e false) (r : Ta C A env N .Or es b) : Ta C A env N .Or (e :: es) b := ⟨fun Q q => by
  show W C A (do match BoolOp.Or, ← isTrue e env (eval e env) with | .And, false => pure false | .Or, true => pure true | _, _ => allTrue .Or es env) N Q
  exact W.bind (h.go _ (r.go Q q) _ rfl)⟩
theorem ta_and_g {e : Expr} {es : List Expr} {b c : Bool} (h : Tv C A env N e b) (r : b = true → Ta C A env N .And es c) : Ta C A env N .And (e :: es) (b && c) := by
  cases b with
  | false => exact ta_and_f h
  | true => exact ta_and_t h (r rfl)
theorem ta_or_g {e : Expr} {es : List Expr} {b c : Bool} (h : Tv C A env N e b) (r : b = false → Ta C A env N .Or es c) : Ta C A env N .Or (e :: es) (b || c) := by
  cases b with
  | true => exact ta_or_t h
  | false => exact ta_or_f h (r rfl)

theorem ev_ifexp {t b o : Expr} {pos : Pos} {c : Bool} {v : V} (h : Tv C A env N t c) (hb : c = true → Ev C A env N b v) (ho : c = false → Ev C A env N o v) : Ev C A env N (.IfExp t b o pos) v := ⟨fun Q q => by
  show W C A (do if ← isTrue t env (eval t env) then eval b env else eval o env) N Q
  refine W.bind (h.go _ ?_ _ rfl)
  cases c with
  | true => exact (hb rfl).go Q q
  | false => exact (ho rfl).go Q q⟩
theorem ev_neg {e : Expr} {pos : Pos} {a : Int} (h : Ev C A env N e (.int a)) : Ev C A env N (.UnaryOp .USub e pos) (.int (-a)) := ⟨fun Q q => by
  show W C A (do let v ← eval e env; standAt pos; PySem.holding [v] (unaryOp .USub v)) N Q
  exact W.bind (h.go _ fun t => W.bind (W.standAt (W.holding fun s st z => neg_int ⟨s.heap, _, N, rfl, st, z, q _⟩)))⟩
theorem ev_not {e : Expr} {pos : Pos} {v : V} {b : Bool} (h : Ev C A env N e v) (t : Tr C A N v b) : Ev C A env N (.UnaryOp .Not e pos) (.bool (!b)) := ⟨fun Q q => by
  show W C A (do let v ← eval e env; standAt pos; PySem.holding [v] (unaryOp .Not v)) N Q
  exact W.bind (h.go _ fun tk => W.bind (W.standAt (W.holding fun s st z => not_of (t.go tk (fun c N' => Q (.bool !c) N') (q 0) s st z))))⟩

/-! statements -/
def After (C : Cx) (A : Around) (env : Env) (rest : List Stmt) (Q : Flow → Led → Prop) (f : Flow) (N' : Led) : Prop := match f with
  | .next => W C A (execs rest env) N' Q
  | f => Q f N'
theorem w_nil {Q : Flow → Led → Prop} (h : Q .next N) : W C A (execs [] env) N Q := W.pure h
theorem w_cons {st : Stmt} {rest : List Stmt} {Q : Flow → Led → Prop} (h : W C A (exec st env) N (After C A env rest Q)) : W C A (execs (st :: rest) env) N Q := by
  rw [execs_cons]
  refine W.bind (h.mono fun f N' q => ?_)
  cases f <;> first | exact q | exact W.pure q
theorem w_if {test : Expr} {body orelse : List Stmt} {pos : Pos} {b : Bool} {Q : Flow → Led → Prop} (h : Tv C A env N test b) (ht : b = true → W C A (execs body env) N Q) (hf : b = false → W C A (execs orelse env) N Q) : W C A (exec (.If test body orelse pos) env) N Q := by
  rw [exec_If]
  refine W.bind (W.standAt (W.bind (h.go _ ?_ _ rfl)))
  cases b with
  | true => exact ht rfl
  | false => exact hf rfl
theorem w_if_t {test : Expr} {body orelse : List Stmt} {pos : Pos} {Q : Flow → Led → Prop} (h : Tv C A env N test true) (ht : W C A (execs body env) N Q) : W C A (exec (.If test body orelse pos) env) N Q := w_if h (fun _ => ht) (fun e => by cases e)
theorem w_if_f {test : Expr} {body orelse : List Stmt} {pos : Pos} {Q : Flow → Led → Prop} (h : Tv C A env N test false) (hf : W C A (execs orelse env) N Q) : W C A (exec (.If test body orelse pos) env) N Q := w_if h (fun e => by cases e) (fun _ => hf)

theorem w_store {L : Addr} {x : Str} {u : Value} {v : V} {m m' : List (Str × Option V)} {Q : Unit → Led → Prop} (U : Upd L (.ns m) (.ns m') N N') (hp : Put x v m m') (hu : ab u = v) (h : Q () N') (hl : env.kindOf x = some .local := by rfl) (hk : env.scope.kind = .function := by rfl) (hE : env.locals = L := by rfl) :
    W C A (storeName env x u) N Q := fun s st z => by
  subst hE
  obtain ⟨f, hn, r⟩ := st.ns U.mem
  have nd := st.nd U.mem
  refine wpAny_storeName_local hl hn (fun h' hn' hs => ?_) (by rw [hk]; rfl)
  obtain ⟨o, es, ep, ho, hd, sk, hf⟩ := hn'
  refine ⟨h', _, N', rfl, st.upd U hs ho ⟨by rw [hp.keys.1]; exact nd, es, ep, hd, sk, fun y w hm => ?_⟩, by rw [hs.1]; exact z, h⟩
  rcases hp.cases nd _ hm with e | ⟨hm', hne⟩
  · cases e
    exact ⟨u, by rw [hf]; exact if_pos rfl, hu⟩
  · obtain ⟨u', e', a'⟩ := r y w hm'
    exact ⟨u', by rw [hf]; show (if y = x then some u else f y) = some u'; rw [if_neg hne]; exact e', a'⟩
theorem w_bind {x : Str} {u : Value} {Q : Unit → Led → Prop} (h : W C A (storeName env x u) N Q) : W C A (bindName env x u) N Q := W.bind (W.holding (W.point (W.bind (h.mono fun _ _ q => W.point q))))

theorem w_assignW {x : Str} {px pos : Pos} {value : Expr} {Q : Flow → Led → Prop} (h : W C A (eval value env) N (fun u N' => W C A (storeName env x u) N' (fun _ => Q .next))) (hs : swapsWith value (some (.Name x px)) pos.line env = pure false := by rfl) :
    W C A (exec (.Assign [.Name x px] value pos) env) N Q := by
  rw [exec_Assign_Name env x px value pos hs]
  exact W.bind (W.standAt (W.bind (h.mono fun u N' q => W.bind (W.standAt (W.bind (w_bind (q.mono fun _ _ r => W.pure r)))))))
theorem w_assign {L : Addr} {x : Str} {px pos : Pos} {value : Expr} {v : V} {m m' : List (Str × Option V)} {Q : Flow → Led → Prop} (h : Ev C A env N value v) (U : Upd L (.ns m) (.ns m') N N') (hp : Put x v m m') (q : Q .next N')
    (ha : ∀ t, ab (raw v t) = v) (hl : env.kindOf x = some .local := by rfl) (hk : env.scope.kind = .function := by rfl) (hs : swapsWith value (some (.Name x px)) pos.line env = pure false := by rfl) (hE : env.locals = L := by rfl) :
    W C A (exec (.Assign [.Name x px] value pos) env) N Q := w_assignW (h.go _ fun t => w_store U hp (ha t) q hl hk hE) hs
theorem w_aug {L : Addr} {x : Str} {px pos : Pos} {op : Operator} {value : Expr} {a b v : V} {m m' : List (Str × Option V)} {Q : Flow → Led → Prop} (hx : Has x a m) (h : Ev C A env N value b) (ho : Op C A N (inplaceOp op) a b v) (U : Upd L (.ns m) (.ns m') N N') (hp : Put x v m m') (q : Q .next N')
    (ha : ∀ t, ab (raw v t) = v) (hl : env.kindOf x = some .local := by rfl) (hk : env.scope.kind = .function := by rfl) (hE : env.locals = L := by rfl) : W C A (exec (.AugAssign (.Name x px) op value pos) env) N Q := by
  subst hE
  rw [exec_AugAssign_Name]
  refine W.bind (W.standAt (W.bind ?_))
  have ld : ∀ Q : Value → Led → Prop, (∀ t, Q (raw a t) N) → W C A (loadName env x) N Q := fun Q h s st z => by
    obtain ⟨f, hn, r⟩ := st.ns U.mem
    obtain ⟨u, hu, e⟩ := r _ _ hx.mem
    obtain ⟨t, rfl⟩ := raw_of e
    exact wpAny_loadName_local hk hl hn hu ⟨s.heap, s.toks, N, rfl, st, z, h t⟩
  exact ld _ fun t => W.bind (W.holding (h.go _ fun t' => W.bind (W.standAt (W.bind (W.operate (ho.go t t' _ fun t'' => W.bind (W.standAt (W.bind (w_bind (w_store U hp (ha t'') (W.pure q) hl hk))))))))))
theorem w_ret {e : Expr} {pos : Pos} {v : V} {Q : Flow → Led → Prop} (h : Ev C A env N e v) (q : ∀ t, Q (.ret (raw v t)) N) : W C A (exec (.Return (some e) pos) env) N Q := by
  rw [exec_Return_some]
  exact W.bind (W.standAt (W.bind (h.go _ fun t => W.pure (q t))))
theorem w_retW {e : Expr} {pos : Pos} {Q : Flow → Led → Prop} (h : W C A (eval e env) N (fun u N' => Q (.ret u) N')) : W C A (exec (.Return (some e) pos) env) N Q := by
  rw [exec_Return_some]
  exact W.bind (W.standAt (W.bind (h.mono fun _ _ q => W.pure q)))
theorem w_break {pos : Pos} {Q : Flow → Led → Prop} (q : Q .brk N) : W C A (exec (.Break pos) env) N Q := by
  show W C A (do standAt pos; pure .brk) N Q
  exact W.bind (W.standAt (W.pure q))
theorem w_continue {pos : Pos} {Q : Flow → Led → Prop} (q : Q .cont N) : W C A (exec (.Continue pos) env) N Q := by
  show W C A (do standAt pos; pure .cont) N Q
  exact W.bind (W.standAt (W.pure q))
theorem w_expr {e : Expr} {pos : Pos} {Q : Flow → Led → Prop} (h : W C A (eval e env) N (fun u N' => (∀ a, u ≠ .ref a) ∧ Q .next N')) (hi : interactive env = false := by rfl) (hs : swapsWith e none pos.line env = pure false := by rfl) : W C A (exec (.Expr e pos) env) N Q := by
  rw [exec_Expr env e pos hi hs]
  refine W.bind (W.standAt (W.bind (h.mono fun u N' q => ?_)))
  rw [dropValue_plain q.1]
  exact W.pure q.2

/-- a while by a measure -/
theorem w_while {test : Expr} {body : List Stmt} {pos : Pos} {Q : Flow → Led → Prop} (I : Nat → Led → Prop) (n : Nat) (h0 : I n N)
    (turn : ∀ n N', I n N' → ∃ b, Tv C A env N' test b ∧ (b = true → W C A (execs body env) N' (fun f N'' => match f with | .next | .cont => ∃ k, k < n ∧ I k N'' | .brk => Q .next N'' | .ret v => Q (.ret v) N'')) ∧ (b = false → Q .next N')) :
    W C A (exec (.While test body [] pos) env) N Q := fun s st z => by
  refine wpAny_While (codeAny_whileLoop (fun n s' => ∃ h tk N', s' = { s with heap := h, toks := tk } ∧ Sat C h N' ∧ C.h₀.objs.size ≤ h.objs.size ∧ I n N') ?_ n ⟨s.heap, s.toks, N, rfl, st, z, h0⟩)
  rintro n s' ⟨h, tk, N', rfl, st', z', hI⟩
  obtain ⟨b, tv, ht, hf⟩ := turn n N' hI
  have t := tv.go (fun c M => c = b ∧ M = N') ⟨rfl, rfl⟩ _ rfl { s with heap := h, toks := tk } st' z'
  refine wpAny_noRaise (wpAny_mono t (fun c s₂ g => ?_) fun _ _ e => e)
  obtain ⟨h₂, tk₂, M, rfl, st₂, z₂, rfl, rfl⟩ := g
  cases c with
  | false =>
    simp only [Bool.false_eq_true, if_false]
    exact wpAny_execs_nil ⟨h₂, tk₂, _, rfl, st₂, z₂, hf rfl⟩
  | true =>
    simp only [if_true]
    refine wpAny_noRaise (wpAny_mono (ht rfl _ st₂ z₂) (fun f s₃ g => ?_) fun _ _ e => e)
    obtain ⟨h₃, tk₃, N₃, rfl, st₃, z₃, q⟩ := g
    cases f with
    | next => obtain ⟨k, hk, hI⟩ := q; exact ⟨k, hk, h₃, tk₃, N₃, rfl, st₃, z₃, hI⟩
    | cont => obtain ⟨k, hk, hI⟩ := q; exact ⟨k, hk, h₃, tk₃, N₃, rfl, st₃, z₃, hI⟩
    | brk => exact ⟨h₃, tk₃, N₃, rfl, st₃, z₃, q⟩
    | ret v => exact ⟨h₃, tk₃, N₃, rfl, st₃, z₃, q⟩
end
end Mine
end
section
open PySem PySem.W PyProof.Rows PySem.Calls
namespace Mine

section
variable {C : Cx} {A : Around} {N N' : Led} {env : Env}

def plainV : V → Bool
  | .oth _ => false
  | _ => true
theorem handed_raw {v : V} (h : plainV v = true) (t : Tok) : handedIn (raw v t) = true := by cases v <;> first | rfl | cases h

def attrOk (K : Frag) (Cl : Addr) (name : Str) : Bool := plainGet K Cl name && hasDictIn K Cl && (match findIn K (.ref Cl) name with | some a => noGet K a | none => false)
theorem getL_look {name : Str} {es : List DictEntry} {n : Nat} {r : Option (Option Value)} (h : getL name es = r) : lookIn name (dictOf es n) = r := by rw [lookIn_dict, h]

theorem Sat.inst {h : Heap} {r Cl d : Addr} {m : List (Str × V)} (st : Sat C h N) (h1 : (r, .inst Cl d) ∈ N) (h2 : (d, .dict m) ∈ N) :
    (m.map (·.1)).Nodup ∧ m.length ≤ 1000 ∧ ∃ es n, InstAt h r (instObj Cl d) Cl (some (dictOf es n)) ∧ Ents es m := by
  obtain ⟨o, e1, rfl⟩ := st.at h1
  obtain ⟨o', e2, nd, hl, es, n, rfl, he⟩ := st.at h2
  exact ⟨nd, hl, es, n, ⟨e1, rfl, rfl, e2⟩, he⟩

theorem w_getAttr {r Cl d : Addr} {m : List (Str × V)} {attr : Str} {v : V} {expr : Bool} {Q : Value → Led → Prop} (h1 : (r, .inst Cl d) ∈ N) (h2 : (d, .dict m) ∈ N) (h3 : HasD attr v m) (hK : attrOk C.K Cl attr = true) (hp : plainV v = true)
    (q : ∀ t, Q (raw v t) N) : W C A (getAttr (.ref r) attr expr) N Q := fun s st z => by
  obtain ⟨nd, hl, es, n, I, he⟩ := st.inst h1 h2
  obtain ⟨u, g, a⟩ := ents_get he nd h3.mem
  obtain ⟨t, rfl⟩ := raw_of a
  simp only [attrOk, Bool.and_eq_true] at hK
  obtain ⟨⟨k1, k2⟩, k3⟩ := hK
  split at k3
  · rename_i at' e
    exact get_value st.K I (plainGet_of k1).1 (findObj_own k2 e k3 (getL_look g)) (handed_raw hp t) ⟨s.heap, _, N, rfl, st, z, q t⟩
  · cases k3
theorem ev_attr {value : Expr} {attr : Str} {pos : Pos} {r Cl d : Addr} {m : List (Str × V)} {v : V} (hv : Ev C A env N value (.ref r)) (h1 : (r, .inst Cl d) ∈ N) (h2 : (d, .dict m) ∈ N) (h3 : HasD attr v m) (hK : attrOk C.K Cl attr = true) (hp : plainV v = true)
    (hs : eval (.Attribute value attr pos) env = (do let o ← eval value env; standAt pos.atName; let r ← PySem.holding [o] (getAttr o attr true); letTemporaryGo value o r; pure r) := by rfl) (hgo : ∀ o r, letTemporaryGo value o r = pure () := by intro _ _; rfl) :
    Ev C A env N (.Attribute value attr pos) v := ⟨fun Q q => by
  rw [hs]
  exact W.bind (hv.go _ fun t => W.bind (W.standAt (W.bind (W.holding (w_getAttr h1 h2 h3 hK hp fun t' => W.bind (by rw [hgo]; exact W.pure (W.pure (q t'))))))))⟩

def setOk (K : Frag) (Cl : Addr) (name : Str) : Bool := findIn K (.ref Cl) "__setattr__" == some (some (.builtin "object.__setattr__")) && plainOver K Cl && takerIn K Cl name == some none && (clsIn K Cl).any (·.hasDict)

/-- an empty base for the library's ledger rules -/
def noHeap : Heap := ⟨#[], {}⟩
theorem noHeap_get (b : Addr) : noHeap.get? b = none := by simp [noHeap, Heap.get?]

/-- the ledger as the library writes it: each object, and the frame at hand apart -/
theorem Sat.open {h : Heap} {L : Addr} {m : List (Str × Option V)} (x : Sat C h N) (hL : (L, .ns m) ∈ N) :
    ∃ f os, Fr C.h₀ L h f ∧ News C.h₀ L h os ∧ (os.map (·.1)).Nodup ∧ (∀ p ∈ N, p.1 ≠ L → ∃ o, (p.1, o) ∈ os ∧ OR o p.2) ∧ ∀ y v, (y, some v) ∈ m → ∃ u, f y = some u ∧ ab u = v := by
  obtain ⟨f, hn, r⟩ := x.ns hL
  have hi := x.hi hL
  have key : ∀ M : Led, M.Sublist N → ∃ os : List (Addr × Obj), News C.h₀ L h os ∧ (os.map (·.1)).Sublist (M.map (·.1)) ∧ (∀ p ∈ M, p.1 ≠ L → ∃ o, (p.1, o) ∈ os ∧ OR o p.2) := by
    intro M
    induction M with
    | nil => intro _; exact ⟨[], News.nil, List.Sublist.slnil, fun _ h => nomatch h⟩
    | cons p M ih =>
      intro hs
      obtain ⟨os, Nw, sub, hall⟩ := ih ((List.sublist_cons_self ..).trans hs)
      obtain ⟨hi', o, e, ro⟩ := x.2.1 p (hs.subset (.head _))
      by_cases hp : p.1 = L
      · refine ⟨os, Nw, by rw [List.map_cons]; exact .cons _ sub, fun q hq hne => ?_⟩
        rcases List.mem_cons.mp hq with rfl | hq
        · exact absurd hp hne
        · exact hall q hq hne
      · refine ⟨(p.1, o) :: os, fun q hq => ?_, by rw [List.map_cons, List.map_cons]; exact .cons_cons _ sub, fun q hq hne => ?_⟩
        · rcases List.mem_cons.mp hq with rfl | hq
          · refine ⟨e, hp, ?_⟩
            cases g : C.h₀.get? p.1 with
            | none => rfl
            | some o' => exact absurd (Heap.lt_size g) (Nat.not_lt.mpr hi')
          · exact Nw q hq
        · rcases List.mem_cons.mp hq with rfl | hq
          · exact ⟨o, .head _, ro⟩
          · obtain ⟨o', m', r'⟩ := hall q hq hne
            exact ⟨o', .tail _ m', r'⟩
  obtain ⟨os, Nw, sub, hall⟩ := key N (List.Sublist.refl _)
  exact ⟨f, os, ⟨hn, x.1, hi⟩, Nw, sub.nodup x.2.2, hall, r⟩

theorem Upd.same {a : Addr} {o o' : AO} : ∀ {N N' : Led}, Upd a o o' N N' → ∀ p ∈ N, p.1 ≠ a → p ∈ N'
  | _, _, .head, p, hp, hn => by
    rcases List.mem_cons.mp hp with rfl | hp
    · exact absurd rfl hn
    · exact .tail _ hp
  | _, _, .tail u, p, hp, hn => by
    rcases List.mem_cons.mp hp with rfl | hp
    · exact .head _
    · exact .tail _ (u.same p hp hn)

/-- an attribute stored: the dict alone is turned -/
theorem setAttr_any {s : Shared} {r Cl d L : Addr} {mL : List (Str × Option V)} {attr : Str} {u : Value} {es : List DictEntry} {n : Nat} {R : Unit → Shared → Prop} (st : Sat C s.heap N) (hL : (L, .ns mL) ∈ N) (hdL : d ≠ L) (h1 : (r, .inst Cl d) ∈ N)
    (hd : s.heap.get? d = some (dictOf es n)) (hg : (getL attr es).isSome = true) (hz : (putL attr (PyData.keyHash C.w.params attr) (.str attr (s.toks + 1)) u es).length ≤ 1000) (h2 : ∃ ao, (d, ao) ∈ N) (hK : setOk C.K Cl attr = true)
    (k : ∀ h', (∀ b o, C.h₀.get? b = some o → h'.get? b = some o) → (∀ p ∈ N, p.1 ≠ d → ∃ o, h'.get? p.1 = some o ∧ OR o p.2) → h'.get? d = some (dictOf (putL attr (PyData.keyHash C.w.params attr) (.str attr (s.toks + 1)) u es) (putN attr es n)) → C.h₀.objs.size ≤ h'.objs.size → R () { s with heap := h', toks := s.toks + 2 }) :
    wpAny (model C.prog C.w) A (setAttr (.ref r) attr u) R (fun _ _ => False) s := by
  simp only [setOk, Bool.and_eq_true, beq_iff_eq] at hK
  obtain ⟨⟨⟨k1, k2⟩, k3⟩, k4⟩ := hK
  obtain ⟨f, os, F, Nw, nd, hall, rf⟩ := st.open hL
  obtain ⟨ao, hm⟩ := h2
  obtain ⟨o₁, ho₁, _⟩ := hall _ hm hdL
  have e₁ : o₁ = dictOf es n := by have := (Nw _ ho₁).1; rw [hd] at this; exact (Option.some.inj this).symm
  subst e₁
  obtain ⟨pre, post, rfl⟩ := List.append_of_mem ho₁
  have hpre : ∀ p ∈ pre, p.1 ≠ d := fun p hp e => by
    rw [List.map_append, List.map_cons] at nd
    exact (List.nodup_append.mp nd).2.2 p.1 (List.mem_map.mpr ⟨p, hp, rfl⟩) d (.head _) e
  have hpost : ∀ p ∈ post, p.1 ≠ d := fun p hp e => by
    rw [List.map_append, List.map_cons] at nd
    exact (List.nodup_cons.mp (List.nodup_append.mp nd).2.1).1 (List.mem_map.mpr ⟨p, hp, e⟩)
  obtain ⟨o, e1, e2⟩ := st.at h1
  have e2' : o = instObj Cl d := e2
  subst e2'
  have I : InstAt s.heap r (instObj Cl d) Cl (some (dictOf es n)) := ⟨e1, rfl, rfl, hd⟩
  refine set_plain st.K I k1 (osa_dict (s := { s with toks := s.toks + 1 }) F Nw st.K I rfl k2 k3 k4 (by rw [lookIn_dict]; exact hg) hpre hpost (putName_dict ..) rfl hz fun h' F' N' => ?_)
  refine k h' F'.keep (fun p hp hne => ?_) (N' _ (List.mem_append_right _ (.head _))).1 (Nat.le_of_lt (Nat.lt_of_le_of_lt F'.above F'.ns.lt))
  by_cases hpL : p.1 = L
  · obtain ⟨p1, p2⟩ := p
    obtain rfl : p1 = L := hpL
    have : p2 = .ns mL := st.uniq hp hL
    subst this
    obtain ⟨o', es', ep', q1, q2, q3, q4⟩ := F'.ns
    refine ⟨o', q1, st.nd hL, es', ep', q2, q3, fun y v hv => ?_⟩
    obtain ⟨u', a1, a2⟩ := rf y v hv
    exact ⟨u', (q4 y).trans a1, a2⟩
  · obtain ⟨o', ho', ro⟩ := hall p hp hpL
    rcases List.mem_append.mp ho' with h | h
    · exact ⟨o', (N' _ (List.mem_append_left _ h)).1, ro⟩
    · rcases List.mem_cons.mp h with h | h
      · exact absurd (Prod.mk.inj h).1 hne
      · exact ⟨o', (N' _ (List.mem_append_right _ (.tail _ h))).1, ro⟩

theorem w_setAttr {r Cl d L : Addr} {m m' : List (Str × V)} {mL : List (Str × Option V)} {attr : Str} {u : Value} {v : V} {Q : Unit → Led → Prop} (hL : (L, .ns mL) ∈ N) (h1 : (r, .inst Cl d) ∈ N) (U : Upd d (.dict m) (.dict m') N N') (hp : PutD attr v m m') (hu : ab u = v)
    (hK : setOk C.K Cl attr = true) (q : Q () N') : W C A (setAttr (.ref r) attr u) N Q := fun s st z => by
  obtain ⟨nd, hl, es, n, I, he⟩ := st.inst h1 U.mem
  have hdL : d ≠ L := fun e => by have := st.uniq hL (e ▸ U.mem); cases this
  have hk := hp.keys
  obtain ⟨w, hw⟩ : ∃ w, (attr, w) ∈ m := by
    obtain ⟨p, hp', e⟩ := List.mem_map.mp hk.2
    exact ⟨p.2, by rw [← e]; exact hp'⟩
  obtain ⟨u', g, _⟩ := ents_get he nd hw
  have he' : Ents (putL attr (PyData.keyHash C.w.params attr) (.str attr (s.toks + 1)) u es) m' := ents_put hu hp he nd
  have hlen : m'.length = m.length := by have := congrArg List.length hk.1; simpa using this
  have hd : s.heap.get? d = some (dictOf es n) := I.dict
  refine setAttr_any st hL hdL h1 hd (by rw [g]; rfl) (by rw [ents_len he', hlen]; exact hl) ⟨_, U.mem⟩ hK fun h' k1 k2 k3 k4 => ?_
  refine ⟨h', _, N', rfl, ⟨k1, fun p hpN => ?_, by rw [U.keys]; exact st.2.2⟩, k4, q⟩
  rcases U.cases st.2.2 p hpN with rfl | ⟨hm, hne⟩
  · exact ⟨st.hi U.mem, _, k3, by rw [hk.1]; exact nd, by rw [hlen]; exact hl, _, _, rfl, he'⟩
  · exact ⟨st.hi hm, k2 p hm hne⟩
end
end Mine
end
section
open PySem PySem.W PyProof.Rows PySem.Calls
namespace Mine

section
variable {C : Cx} {A : Around} {N N' : Led} {env : Env}

theorem w_setAttr_new {r Cl d L : Addr} {m : List (Str × V)} {mL : List (Str × Option V)} {attr : Str} {u : Value} {v : V} {Q : Unit → Led → Prop} (hL : (L, .ns mL) ∈ N) (h1 : (r, .inst Cl d) ∈ N) (U : Upd d (.dict m) (.dict (m ++ [(attr, v)])) N N') (hu : ab u = v) (hnew : (m.map (·.1)).contains attr = false) (hlen : m.length < 1000)
    (hK : setOk C.K Cl attr = true) (q : Q () N') : W C A (setAttr (.ref r) attr u) N Q := fun s st z => by
  obtain ⟨nd, hl, es, n, I, he⟩ := st.inst h1 U.mem
  have hdL : d ≠ L := fun e => by have := st.uniq hL (e ▸ U.mem); cases this
  have g := ents_none (x := attr) he hnew
  have he' : Ents (putL attr (PyData.keyHash C.w.params attr) (.str attr (s.toks + 1)) u es) (m ++ [(attr, v)]) := ents_new hu he hnew
  have hd : s.heap.get? d = some (dictOf es n) := I.dict
  have hl' : (m ++ [(attr, v)]).length ≤ 1000 := by simp only [List.length_append, List.length_cons, List.length_nil]; omega
  have nd' : ((m ++ [(attr, v)]).map (·.1)).Nodup := by
    rw [List.map_append, List.nodup_append]
    refine ⟨nd, by simp, fun a ha b hb e => ?_⟩
    simp only [List.map_cons, List.map_nil, List.mem_singleton] at hb
    rw [e, hb] at ha
    have hc : (m.map (·.1)).contains attr = true := List.contains_iff_mem.mpr ha
    rw [hnew] at hc; cases hc
  refine setAttr_any st hL hdL h1 hd (by rw [g]; rfl) (by rw [ents_len he']; exact hl') ⟨_, U.mem⟩ hK fun h' k1 k2 k3 k4 => ?_
  refine ⟨h', _, N', rfl, ⟨k1, fun p hpN => ?_, by rw [U.keys]; exact st.2.2⟩, k4, q⟩
  rcases U.cases st.2.2 p hpN with rfl | ⟨hm, hne⟩
  · exact ⟨st.hi U.mem, _, k3, nd', hl', _, _, rfl, he'⟩
  · exact ⟨st.hi hm, k2 p hm hne⟩

/-- what W says at a later state, told of the state at the start -/
theorem W.at {α : Type} {t : Sem α} {Q : α → Led → Prop} {s : Shared} {h : Heap} {tk : Nat} (x : W C A t N Q) (st : Sat C h N) (z : C.h₀.objs.size ≤ h.objs.size) :
    wpAny (model C.prog C.w) A t (fun a s' => ∃ h tk N', s' = { s with heap := h, toks := tk } ∧ Sat C h N' ∧ C.h₀.objs.size ≤ h.objs.size ∧ Q a N') (fun _ _ => False) { s with heap := h, toks := tk } := x ⟨h, s.gens, s.drawn, tk, s.os⟩ st z

theorem w_assignAttr {o value : Expr} {attr : Str} {po pos : Pos} {Q : Flow → Led → Prop} (h : W C A (eval value env) N (fun u N₁ => W C A (eval o env) N₁ (fun ov N₂ => W C A (setAttr ov attr u) N₂ (fun _ N₃ => Q .next N₃))))
    (hs : swapsWith value (some (.Attribute o attr po)) pos.line env = pure false := by rfl) : W C A (exec (.Assign [.Attribute o attr po] value pos) env) N Q := fun s st z => by
  refine plainObj_wpAny_Assign_Attribute (wpAny_mono (h s st z) (fun u s₁ g => ?_) fun _ _ e => e) hs
  obtain ⟨h₁, tk₁, N₁, rfl, st₁, z₁, g⟩ := g
  refine wpAny_mono (g.at st₁ z₁) (fun ov s₂ g => ?_) fun _ _ e => e
  obtain ⟨h₂, tk₂, N₂, rfl, st₂, z₂, g⟩ := g
  exact wpAny_mono (g.at st₂ z₂) (fun _ s₃ g => g) fun _ _ e => e
theorem w_augAttr {o value : Expr} {attr : Str} {po pos : Pos} {op : Operator} {Q : Flow → Led → Prop}
    (h : W C A (eval o env) N (fun ov N₁ => W C A (getAttr ov attr true) N₁ (fun old N₂ => W C A (eval value env) N₂ (fun v N₃ => W C A (inplaceOp op old v) N₃ (fun new N₄ => W C A (setAttr ov attr new) N₄ (fun _ N₅ => Q .next N₅)))))) :
    W C A (exec (.AugAssign (.Attribute o attr po) op value pos) env) N Q := fun s st z => by
  refine wpAny_AugAssign_AttributeAny (wpAny_mono (h s st z) (fun u s₁ g => ?_) fun _ _ e => e)
  obtain ⟨h₁, tk₁, N₁, rfl, st₁, z₁, g⟩ := g
  refine wpAny_mono (g.at st₁ z₁) (fun ov s₂ g => ?_) fun _ _ e => e
  obtain ⟨h₂, tk₂, N₂, rfl, st₂, z₂, g⟩ := g
  refine wpAny_mono (g.at st₂ z₂) (fun ov s₂ g => ?_) fun _ _ e => e
  obtain ⟨h₃, tk₃, N₃, rfl, st₃, z₃, g⟩ := g
  refine wpAny_mono (g.at st₃ z₃) (fun ov s₂ g => ?_) fun _ _ e => e
  obtain ⟨h₄, tk₄, N₄, rfl, st₄, z₄, g⟩ := g
  exact wpAny_mono (g.at st₄ z₄) (fun _ s₃ g => g) fun _ _ e => e

/-! names of the module and of the built-ins -/
theorem w_nameG {x : Str} {pos : Pos} {v : Value} {Q : Value → Led → Prop} (e : nsIn C.K mainGlobals x = some (some v)) (q : Q v N) (hx : env.kindOf x = some .globalImplicit := by rfl) (hk : env.scope.kind = .function := by rfl) (hg : env.globals = mainGlobals := by rfl)
    (hd : (x == ("__debug__" : Str)) = false := by decide) : W C A (eval (.Name x pos) env) N Q := fun s st z => by
  have G : s.heap.Ns mainGlobals C.mg := C.hg.keeps st.1
  exact Name_function_global hk hx (loadGlobal_global (by rw [hg]; exact G) (mg_of st.K G e) ⟨s.heap, s.toks, N, rfl, st, z, q⟩) hd
theorem w_nameB {x : Str} {pos : Pos} {v : Value} {Q : Value → Led → Prop} (e : nsIn C.K mainGlobals x = some none) (hv : bootBuiltins x = some v) (q : Q v N) (hn : x ≠ "__name__" := by decide) (hx : env.kindOf x = some .globalImplicit := by rfl) (hk : env.scope.kind = .function := by rfl) (hg : env.globals = mainGlobals := by rfl) (hb : env.builtins = builtinsNs := by rfl)
    (hd : (x == ("__debug__" : Str)) = false := by decide) : W C A (eval (.Name x pos) env) N Q := fun s st z => by
  have G : s.heap.Ns mainGlobals C.mg := C.hg.keeps st.1
  have B : s.heap.Ns builtinsNs C.mb := C.hb.keeps st.1
  exact Name_function_global hk hx (loadGlobal_builtin (by rw [hg]; exact G) (mg_none_of st.K G e) (by rw [hb]; exact B) ((C.hbn x hn).trans hv) ⟨s.heap, s.toks, N, rfl, st, z, q⟩) hd

/-! arguments -/
inductive RawL : List Value → List V → Prop
  | nil : RawL [] []
  | cons {t : Tok} {v : V} {us : List Value} {vs : List V} : RawL us vs → RawL (raw v t :: us) (v :: vs)
inductive Evs (C : Cx) (A : Around) (env : Env) (N : Led) : List Expr → List V → Prop
  | nil : Evs C A env N [] []
  | cons {e : Expr} {v : V} {es : List Expr} {vs : List V} (h : Ev C A env N e v) (r : Evs C A env N es vs) (he : ∀ rest, starEach (e :: rest) env = (false, eval e env) :: starEach rest env := by intro _; rfl) : Evs C A env N (e :: es) (v :: vs)
theorem w_spliced {pos : Pos} {es : List Expr} {vs : List V} (h : Evs C A env N es vs) : ∀ {Q : List Value → Led → Prop}, (∀ us, RawL us vs → Q us N) → W C A (spliced (backTo pos (starEach es env))) N Q := by
  induction h with
  | nil => exact fun q s st z => spliced_nil ⟨s.heap, s.toks, N, rfl, st, z, q _ .nil⟩
  | cons h r he ih =>
    intro Q q s st z
    rw [he]
    refine spliced_cons (wpAny_mono (h.go (fun u N' => N' = N ∧ ∃ t, u = raw _ t) (fun t => ⟨rfl, t, rfl⟩) s st z) (fun u s₁ g => ?_) fun _ _ e => e)
    obtain ⟨h₁, tk₁, N₁, rfl, st₁, z₁, rfl, t, rfl⟩ := g
    refine wpAny_mono ((ih (Q := fun us N' => N' = N₁ ∧ RawL us _) (fun us hu => ⟨rfl, hu⟩)).at (s := s) (tk := tk₁) st₁ z₁) (fun us s₂ g => ?_) fun _ _ e => e
    obtain ⟨h₂, tk₂, N₂, rfl, st₂, z₂, rfl, hu⟩ := g
    exact ⟨h₂, tk₂, _, rfl, st₂, z₂, q _ (.cons hu)⟩
theorem evs_plain {es : List Expr} {vs : List V} {pos : Pos} (h : Evs C A env N es vs) : (backTo pos (starEach es env)).any (·.1) = false := by
  induction h with
  | nil => rfl
  | cons h r he ih => rw [he]; simpa [backTo] using ih

def keeps (K : Frag) : Value → Bool
  | .ref a => keepIn K (.ref a)
  | _ => true
theorem keeps_look {f : Value} (hk : keeps C.K f = true) (h : Heap) (X : C.K.In h) : ∃ k, (k = Keeper.frame ∨ k = Keeper.machine ∨ k = Keeper.boundFrame) ∧ Looks (model C.prog C.w) h (keeperOf f) k := by
  cases f with
  | ref a => exact keeps_K (K := C.K) (f := .ref a) hk h X
  | _ => exact ⟨.machine, .inr (.inl rfl), Looks.now⟩
theorem w_callWith {f : Value} {first : List Value} {es : List Expr} {vs : List V} {pos : Pos} {Q : Value → Led → Prop} (hk : keeps C.K f = true) (h : Evs C A env N es vs) (q : ∀ us, RawL us vs → W C A (call f (first ++ us)) N Q) :
    W C A (callWith pos f first (backTo pos (starEach es env)) []) N Q := fun s st z => by
  have sp := evs_plain (pos := pos) h
  refine callWith_of (P := C.K.In) (by rw [sp]; rfl) (keeps_look hk) ?_
  have w := w_spliced (pos := pos) (Q := fun us N' => N' = N ∧ RawL us vs) h (fun us hu => ⟨rfl, hu⟩) s st z
  have fin : ∀ us s₁, (∃ h tk N', s₁ = { s with heap := h, toks := tk } ∧ Sat C h N' ∧ C.h₀.objs.size ≤ h.objs.size ∧ N' = N ∧ RawL us vs) → C.K.In s₁.heap ∧ wpAny (model C.prog C.w) A (call f (first ++ us)) (fun a s' => ∃ h tk N', s' = { s with heap := h, toks := tk } ∧ Sat C h N' ∧ C.h₀.objs.size ≤ h.objs.size ∧ Q a N') (fun _ _ => False) s₁ := by
    rintro us s₁ ⟨h₁, tk₁, N₁, rfl, st₁, z₁, rfl, hu⟩
    exact ⟨st₁.K, (q us hu).at st₁ z₁⟩
  cases h with
  | nil => exact evalArgs_nil3 (fin [] s ⟨s.heap, s.toks, N, rfl, st, z, rfl, .nil⟩)
  | cons h r he =>
    rw [he] at w ⊢
    exact evalArgs_plain (wpAny_mono w (fun us s₁ g => fin us s₁ g) fun _ _ e => e)

/-- f(x, ..) by a name or any expression -/
theorem w_callE {fe : Expr} {f : Value} {es : List Expr} {vs : List V} {pos : Pos} {Q : Value → Led → Prop} (hf : ∀ Q : Value → Led → Prop, Q f N → W C A (eval fe env) N Q) (hk : keeps C.K f = true) (h : Evs C A env N es vs) (q : ∀ us, RawL us vs → W C A (call f us) N Q)
    (he : eval (.Call fe es [] pos) env = (do callWith pos (← eval fe env) [] (backTo pos (starEach es env)) (backToKw pos (keywordEach [] env))) := by rfl) : W C A (eval (.Call fe es [] pos) env) N Q := by
  rw [he]
  exact W.bind (hf _ (w_callWith hk h fun us hu => q us hu))

/-! methods -/
def methOk (K : Frag) (Cl : Addr) (name : Str) (f : Addr) : Bool := plainGet K Cl name && findIn K (.ref Cl) name == some (some (.ref f)) && typeIn K (.ref f) == some (.type "function")
theorem w_getMethod {r Cl d f : Addr} {m : List (Str × V)} {name : Str} {pl : Sem Bool} {Q : Value × List Value → Led → Prop} (h1 : (r, .inst Cl d) ∈ N) (h2 : (d, .dict m) ∈ N) (hn : (m.map (·.1)).contains name = false) (hK : methOk C.K Cl name f = true) (q : Q (.ref f, [.ref r]) N) :
    W C A (getMethod (.ref r) name pl) N Q := fun s st z => by
  obtain ⟨nd, hl, es, n, I, he⟩ := st.inst h1 h2
  simp only [methOk, Bool.and_eq_true, beq_iff_eq] at hK
  obtain ⟨⟨k1, k2⟩, k3⟩ := hK
  exact method_fn st.K I (plainGet_of k1).1 (plainGet_of k1).2 k2 k3 (by show (lookIn name (dictOf es n)).map _ = _; rw [getL_look (ents_none he hn)]; rfl) ⟨s.heap, s.toks, N, rfl, st, z, q⟩
theorem w_methodE {o : Expr} {vo : V} {name : Str} {apos pos : Pos} {f : Value} {first : List Value} {pl : Sem Bool} {es : List Expr} {vs : List V} {Q : Value → Led → Prop} (ho : Ev C A env N o vo) (hm : ∀ t, ∀ Q : Value × List Value → Led → Prop, Q (f, first) N → W C A (getMethod (raw vo t) name pl) N Q)
    (hk : keeps C.K f = true) (h : Evs C A env N es vs) (q : ∀ us, RawL us vs → W C A (call f (first ++ us)) N Q)
    (he : eval (.Call (.Attribute o name apos) es [] pos) env = (do
      let ov ← eval o env
      standAt apos.atName
      let (f, first) ← PySem.holding [ov] (getMethod ov name pl)
      callWith pos f first (backTo pos (starEach es env)) (backToKw pos (keywordEach [] env))) := by rfl) : W C A (eval (.Call (.Attribute o name apos) es [] pos) env) N Q := by
  rw [he]
  exact W.bind (ho.go _ fun t => W.bind (W.standAt (W.bind (W.holding (hm t _ (w_callWith hk h q))))))

/-! the call of a def -/
theorem Sat.grow {h h' : Heap} {L : Addr} {ao : AO} {o : Obj} (st : Sat C h N) (z : C.h₀.objs.size ≤ h.objs.size) (hL : L = h.objs.size) (k : ∀ b o, h.get? b = some o → h'.get? b = some o) (ho : h'.get? L = some o) (r : OR o ao) : Sat C h' ((L, ao) :: N) := by
  refine ⟨fun b o' e => k b o' (st.1 b o' e), fun p hp => ?_, ?_⟩
  · rcases List.mem_cons.mp hp with rfl | hp
    · exact ⟨by rw [hL]; exact z, o, ho, r⟩
    · obtain ⟨hi, o', e, r'⟩ := st.2.1 p hp
      exact ⟨hi, o', k _ _ e, r'⟩
  · refine List.nodup_cons.mpr ⟨fun hm => ?_, st.2.2⟩
    obtain ⟨p, hp, e⟩ := List.mem_map.mp hm
    obtain ⟨_, o', e', _⟩ := st.2.1 p hp
    have := Heap.lt_size e'
    rw [e, hL] at this
    exact Nat.lt_irrefl _ this

def retOf : Flow → Value
  | .ret v => v
  | _ => .none
inductive Bound (binds : List (Str × Value)) : Str × Option V → Prop
  | none {x : Str} : Bound binds (x, none)
  | some {x : Str} {v : V} {u : Value} : binds.reverse.lookup x = some u → ab u = v → Bound binds (x, some v)
theorem Bound.of {binds : List (Str × Value)} {x : Str} {v : V} : Bound binds (x, .some v) → ∃ u, binds.reverse.lookup x = .some u ∧ ab u = v
  | .some a b => ⟨_, a, b⟩
theorem w_call {f : Addr} {oc : Value} {od : Option Addr} {osl : Array (Option Value)} {fd : FuncData} {body : List Stmt} {us : List Value} {kw : List (Str × Value)} {binds : List (Str × Value)} {m : List (Str × Option V)} {Q : Value → Led → Prop}
    (ho : C.K.lookup f = some ⟨oc, od, .func fd, osl⟩) (hcd : codeIn C.K fd.code fd.qualname = true) (hbody : fd.body = .stmts body) (hroom : A.depth < recursionLimit)
    (hbind : ∀ s : Shared, C.K.In s.heap → BindsTo s fd ⟨us, kw⟩ binds) (hloc : ∀ x ∈ binds, fd.scope.names.lookup x.1 = some .local)
    (hm : (m.map (·.1)).Nodup) (hmb : ∀ p ∈ m, Bound binds p)
    (hcell : ∀ x ∈ fd.scope.names, x.2 ≠ .cell) (hco : fd.scope.isCoroutine = false) (hgen : fd.scope.isGenerator = false) (hk : fd.scope.kind = .function)
    (h : ∀ L, W C (A.deeper (callEnv fd L f)) (execs body (callEnv fd L f)) ((L, .ns m) :: N) (fun fl N' => ∃ N'', N''.Sublist N' ∧ Q (retOf fl) N'')) : W C A (call (.ref f) us kw) N Q := fun s st z => by
  refine wpAny_call (codeAny_call_def hroom (st.K _ _ ho) rfl (C.hlim.keeps st.1) (codeRec_of st.K hcd) hbody (hbind s st.K) hcell hloc (fun h₁ hn k => ?_) hco hgen hk)
  obtain ⟨o, es, ep, e1, e2, e3, e4⟩ := hn
  have st₁ : Sat C h₁ ((s.heap.objs.size, .ns m) :: N) := st.grow z rfl k e1 ⟨hm, es, ep, e2, e3, fun y v hy => by
    obtain ⟨u, a, b⟩ := (hmb _ hy).of
    exact ⟨u, (e4 y).trans a, b⟩⟩
  have z₁ : C.h₀.objs.size ≤ h₁.objs.size := Nat.le_trans z (Nat.le_of_lt (Heap.lt_size e1))
  refine wpAny_noRaise (wpAny_mono ((h s.heap.objs.size).at (s := s) (tk := s.toks + binds.length) st₁ z₁) (fun fl s₂ g => ?_) fun _ _ e => e)
  obtain ⟨h₂, tk₂, N₂, rfl, st₂, z₂, N₃, sub, q⟩ := g
  cases fl <;> exact ⟨h₂, tk₂, N₃, rfl, st₂.sub sub, z₂, q⟩

def Room (A : Around) (k : Nat) : Prop := A.handled = none ∧ A.depth + k < recursionLimit ∧ A.units + 16 * k < cLine
theorem Room.deeper {k : Nat} {e : Env} (h : Room A (k + 1)) : Room (A.deeper e) k := ⟨h.1, by rw [depth_deeper]; have := h.2.1; omega, by rw [Around.deeper_units]; have := h.2.2; omega⟩
theorem Room.lt {k : Nat} (h : Room A k) : A.depth < recursionLimit := Nat.lt_of_le_of_lt (Nat.le_add_right ..) h.2.1
theorem Room.units {k : Nat} (h : Room A k) : A.units < cLine := Nat.lt_of_le_of_lt (Nat.le_add_right ..) h.2.2
theorem Room.le {k j : Nat} (h : Room A k) (hj : j ≤ k) : Room A j := ⟨h.1, by have := h.2.1; omega, by have := h.2.2; omega⟩
theorem Room.in1 {k : Nat} (h : Room A (k + 1)) : Room A.in1 k := ⟨h.1, by have := h.2.1; show A.depth + k < _; omega, by have := h.2.2; show A.units + 1 + 16 * k < _; omega⟩
end
end Mine
end
section
open PySem PySem.W PyProof.Rows PySem.Calls
namespace Mine

section
variable {C : Cx} {A : Around} {N N' : Led} {env : Env}

/-- a call that makes nothing: its value -/
structure Co (C : Cx) (A : Around) (N : Led) (f : Value) (vs : List V) (v : V) : Prop where
  go : ∀ us, RawL us vs → ∀ Q : Value → Led → Prop, (∀ t, Q (raw v t) N) → W C A (call f us) N Q
theorem Co.of1 {f : Value} {a v : V} (h : ∀ t (s : Shared) (R : Value → Shared → Prop), Sat C s.heap N → (∀ t' tk, R (raw v t') { s with toks := tk }) → wpAny (model C.prog C.w) A (call f [raw a t]) R (fun _ _ => False) s) : Co C A N f [a] v := ⟨fun us hu Q q s st z => by
  cases hu with
  | cons r => cases r; exact h _ s _ st fun t' tk => ⟨s.heap, tk, N, rfl, st, z, q t'⟩⟩
theorem Co.of2 {f : Value} {a b v : V} (h : ∀ t t₂ (s : Shared) (R : Value → Shared → Prop), Sat C s.heap N → (∀ t' tk, R (raw v t') { s with toks := tk }) → wpAny (model C.prog C.w) A (call f [raw a t, raw b t₂]) R (fun _ _ => False) s) : Co C A N f [a, b] v := ⟨fun us hu Q q s st z => by
  cases hu with
  | cons r => cases r with
    | cons r => cases r; exact h _ _ s _ st fun t' tk => ⟨s.heap, tk, N, rfl, st, z, q t'⟩⟩

theorem ev_nameB {x : Str} {pos : Pos} {v : Value} (e : nsIn C.K mainGlobals x = some none) (hv : bootBuiltins x = some v) (hn : x ≠ "__name__" := by decide) (hx : env.kindOf x = some .globalImplicit := by rfl) (hk : env.scope.kind = .function := by rfl) (hg : env.globals = mainGlobals := by rfl) (hb : env.builtins = builtinsNs := by rfl)
    (hd : (x == ("__debug__" : Str)) = false := by decide) : Ev C A env N (.Name x pos) (.oth v) := ⟨fun Q q => w_nameB e hv (q 0) hn hx hk hg hb hd⟩
theorem ev_call {fe : Expr} {f : Value} {es : List Expr} {vs : List V} {v : V} {pos : Pos} (hf : Ev C A env N fe (.oth f)) (hk : keeps C.K f = true) (h : Evs C A env N es vs) (c : Co C A N f vs v)
    (he : eval (.Call fe es [] pos) env = (do callWith pos (← eval fe env) [] (backTo pos (starEach es env)) (backToKw pos (keywordEach [] env))) := by rfl) : Ev C A env N (.Call fe es [] pos) v := ⟨fun Q q =>
  w_callE (fun Q q => hf.go Q fun _ => q) hk h (fun us hu => c.go us hu Q q) he⟩

theorem co_type_int {i : Int} : Co C A N (.type "type") [.int i] (.oth (.type "int")) := .of1 fun t s R _ h => call_type_of (Tx := "int") rfl (by decide +kernel) (h 0 s.toks)
theorem co_type_str {x : Str} : Co C A N (.type "type") [.str x] (.oth (.type "str")) := .of1 fun t s R _ h => call_type_of (Tx := "str") rfl (by decide +kernel) (h 0 s.toks)
theorem co_int_int {i : Int} : Co C A N (.type "int") [.int i] (.int i) := .of1 fun t s R _ h => call_int_int (h t s.toks)
theorem co_abs {i : Int} : Co C A N (.builtin "abs") [.int i] (.int (if i < 0 then -i else i)) := .of1 fun t s R _ h => call_abs_int (fun u tk => h u tk)
theorem co_chr {i : Int} (h0 : 0 ≤ i) (h1 : i ≤ 1114111) : Co C A N (.builtin "chr") [.int i] (.str ⟨#[i.toNat]⟩) := .of1 fun t s R _ h => chr_of_range h0 h1 (h _ _)
theorem co_ord {x : Str} (h1 : x.length = 1) : Co C A N (.builtin "ord") [.str x] (.int (x.cps.getD 0 0)) := .of1 fun t s R _ h => ord_of_one h1 (h _ _)
theorem co_len_str {x : Str} (hz : (x.length : Int) < 9223372036854775808) : Co C A N (.builtin "len") [.str x] (.int x.length) := .of1 fun t s R _ h => SBL.len hz (h _ _)
theorem op_isnot_same {v : Value} (hp : plainIs v v = true) : Op C A N (compareOp .IsNot) (.oth v) (.oth v) (.bool false) := .of fun ta tb s R h => wpAny_isNot_self hp (h 0 s.toks)
theorem op_isnot_other {v u : Value} (hp : plainIs v u = true) (hne : v ≠ u) : Op C A N (compareOp .IsNot) (.oth v) (.oth u) (.bool true) := .of fun ta tb s R h => wpAny_isNot_other hp hne (h 0 s.toks)
end
end Mine
end
section
open PySem PySem.W PyProof.Rows PySem.Calls
namespace Mine

section
variable {C : Cx} {A : Around} {N N' : Led} {env : Env}

/-- the ledger opened, and how it is shut again behind a step of the library's -/
structure Opened (C : Cx) (N : Led) (L : Addr) (h : Heap) (f : Str → Option Value) (os : List (Addr × Obj)) : Prop where
  F : Fr C.h₀ L h f
  Nw : News C.h₀ L h os
  shut : ∀ h', Fr C.h₀ L h' f → News C.h₀ L h' os → Sat C h' N ∧ C.h₀.objs.size ≤ h'.objs.size
  new : ∀ h' D o ao, Fr C.h₀ L h' f → News C.h₀ L h' ((D, o) :: os) → (∀ p ∈ os, p.1 < D) → OR o ao → C.h₀.objs.size ≤ D → Sat C h' ((D, ao) :: N) ∧ C.h₀.objs.size ≤ h'.objs.size

theorem Sat.opened {h : Heap} {L : Addr} {m : List (Str × Option V)} (st : Sat C h N) (hL : (L, .ns m) ∈ N) : ∃ f os, Opened C N L h f os := by
  obtain ⟨f, os, F, Nw, nd, hall, rf⟩ := st.open hL
  have shut : ∀ h', Fr C.h₀ L h' f → (∀ p ∈ os, h'.get? p.1 = some p.2) → Sat C h' N ∧ C.h₀.objs.size ≤ h'.objs.size := by
    intro h' F' N'
    refine ⟨⟨F'.keep, fun p hp => ⟨(st.2.1 p hp).1, ?_⟩, st.2.2⟩, Nat.le_of_lt (Nat.lt_of_le_of_lt F'.above F'.ns.lt)⟩
    by_cases hpL : p.1 = L
    · obtain ⟨p1, p2⟩ := p
      obtain rfl : p1 = L := hpL
      have : p2 = .ns m := st.uniq hp hL
      subst this
      obtain ⟨o', es', ep', q1, q2, q3, q4⟩ := F'.ns
      refine ⟨o', q1, st.nd hL, es', ep', q2, q3, fun y v hv => ?_⟩
      obtain ⟨u', a1, a2⟩ := rf y v hv
      exact ⟨u', (q4 y).trans a1, a2⟩
    · obtain ⟨o', ho', ro⟩ := hall p hp hpL
      exact ⟨o', N' _ ho', ro⟩
  refine ⟨f, os, F, Nw, fun h' F' N' => shut h' F' fun p hp => (N' p hp).1, fun h' D o ao F' N' hD r hz => ?_⟩
  obtain ⟨st', z'⟩ := shut h' F' fun p hp => (N' p (.tail _ hp)).1
  refine ⟨⟨st'.1, fun p hp => ?_, ?_⟩, z'⟩
  · rcases List.mem_cons.mp hp with rfl | hp
    · exact ⟨hz, o, (N' (D, o) (.head _)).1, r⟩
    · exact st'.2.1 p hp
  · refine List.nodup_cons.mpr ⟨fun hm => ?_, st'.2.2⟩
    obtain ⟨p, hp, e⟩ := List.mem_map.mp hm
    by_cases hpL : p.1 = L
    · have := (N' (D, o) (.head _)).2.1
      exact this (e.symm.trans hpL)
    · obtain ⟨o', ho', _⟩ := hall p hp hpL
      have := hD _ ho'
      rw [show (p.1, o').1 = D from e] at this
      exact Nat.lt_irrefl _ this

theorem ev_slice_str {value l u : Expr} {sp pos : Pos} {x : Str} {i j : Int} {L : Addr} {m : List (Str × Option V)} (hL : (L, .ns m) ∈ N) (hv : Ev C A env N value (.str x)) (hl : Ev C A env N l (.int i)) (hu : Ev C A env N u (.int j)) (hz : x.length ≤ sizeLine)
    (hg : ∀ r t, letTemporaryGo value (.str x t) r = pure () := by intro _ _; rfl) : Ev C A env N (.Subscript value (.Slice (some l) (some u) none sp) pos) (.str (Txt.slice x (some i) (some j))) := ⟨fun Q q s st z => by
  refine Subscript_ (wpAny_mono (hv.go (fun o N' => N' = N ∧ ∃ t, o = .str x t) (fun t => ⟨rfl, t, rfl⟩) s st z) (fun o s₁ g => ?_) fun _ _ e => e)
  obtain ⟨h₁, tk₁, N₁, rfl, st₁, z₁, rfl, t, rfl⟩ := g
  refine wpAny_Slice (evalPart_some_step (wpAny_mono ((hl.go (fun o N' => N' = N₁ ∧ ∃ t, o = .int i t) (fun t => ⟨rfl, t, rfl⟩)).at (s := s) (tk := tk₁) st₁ z₁) (fun o s₂ g => ?_) fun _ _ e => e))
  obtain ⟨h₂, tk₂, N₂, rfl, st₂, z₂, rfl, t₂, rfl⟩ := g
  refine evalPart_some_step (wpAny_mono ((hu.go (fun o N' => N' = N₂ ∧ ∃ t, o = .int j t) (fun t => ⟨rfl, t, rfl⟩)).at (s := s) (tk := tk₂) st₂ z₂) (fun o s₃ g => ?_) fun _ _ e => e)
  obtain ⟨h₃, tk₃, N₃, rfl, st₃, z₃, rfl, t₃, rfl⟩ := g
  obtain ⟨f, os, O⟩ := st₃.opened hL
  refine evalPart_none_step (slice_strN_ss (s := ⟨h₃, s.gens, s.drawn, tk₃, s.os⟩) O.F O.Nw (fun h' t' k F' N' => ?_) (by rfl) (fun r => hg r t) hz)
  obtain ⟨st', z'⟩ := O.shut h' F' N'
  exact ⟨h', k, _, rfl, st', z', q t'⟩⟩

theorem Upd.mem' {a : Addr} {o o' : AO} : ∀ {N N' : Led}, Upd a o o' N N' → (a, o') ∈ N'
  | _, _, .head => .head _
  | _, _, .tail u => .tail _ u.mem'
theorem Upd.other {a : Addr} {o o' : AO} : ∀ {N N' : Led}, Upd a o o' N N' → ∀ p ∈ N, p ≠ (a, o) → p ∈ N'
  | _, _, .head, p, hp, hn => by
    rcases List.mem_cons.mp hp with rfl | hp
    · exact absurd rfl hn
    · exact .tail _ hp
  | _, _, .tail u, p, hp, hn => by
    rcases List.mem_cons.mp hp with rfl | hp
    · exact .head _
    · exact .tail _ (u.other p hp hn)
/-- an attribute stored, its value a pure one -/
theorem w_asgA {o value : Expr} {attr : Str} {po pos : Pos} {r Cl d L : Addr} {v : V} {m m' : List (Str × V)} {mL : List (Str × Option V)} {Q : Flow → Led → Prop} (h : Ev C A env N value v) (ho : Ev C A env N o (.ref r)) (hL : (L, .ns mL) ∈ N) (h1 : (r, .inst Cl d) ∈ N) (U : Upd d (.dict m) (.dict m') N N') (hp : PutD attr v m m')
    (ha : ∀ t, ab (raw v t) = v) (hK : setOk C.K Cl attr = true) (q : Q .next N') (hs : swapsWith value (some (.Attribute o attr po)) pos.line env = pure false := by rfl) : W C A (exec (.Assign [.Attribute o attr po] value pos) env) N Q :=
  w_assignAttr (h.go _ fun t => ho.go _ fun _ => w_setAttr hL h1 U hp (ha t) hK q) hs
theorem w_newA {o value : Expr} {attr : Str} {po pos : Pos} {r Cl d L : Addr} {v : V} {m : List (Str × V)} {mL : List (Str × Option V)} {Q : Flow → Led → Prop} (h : Ev C A env N value v) (ho : Ev C A env N o (.ref r)) (hL : (L, .ns mL) ∈ N) (h1 : (r, .inst Cl d) ∈ N) (U : Upd d (.dict m) (.dict (m ++ [(attr, v)])) N N')
    (hnew : (m.map (·.1)).contains attr = false) (hlen : m.length < 1000) (ha : ∀ t, ab (raw v t) = v) (hK : setOk C.K Cl attr = true) (q : Q .next N') (hs : swapsWith value (some (.Attribute o attr po)) pos.line env = pure false := by rfl) : W C A (exec (.Assign [.Attribute o attr po] value pos) env) N Q :=
  w_assignAttr (h.go _ fun t => ho.go _ fun _ => w_setAttr_new hL h1 U (ha t) hnew hlen hK q) hs

/-- a call of a method in an expression statement, its answer none -/
theorem w_exprCall {e : Expr} {pos : Pos} {Q : Flow → Led → Prop} (h : W C A (eval e env) N (fun u N' => u = .none ∧ Q .next N')) (hi : interactive env = false := by rfl) (hs : swapsWith e none pos.line env = pure false := by rfl) : W C A (exec (.Expr e pos) env) N Q :=
  w_expr (h.mono fun u N' q => ⟨fun a e => (by rw [q.1] at e; cases e), q.2⟩) hi hs
end
end Mine
end
section
open PySem PySem.W PyProof.Rows PySem.Calls PySem.Builtin
set_option maxRecDepth 1000000
set_option maxHeartbeats 4000000
namespace Mine

theorem dq_owner : Manifest.owners.lookup (String.ofList ['e', 'u', 'q', 'e', 'd', '.', 's', 'n', 'o', 'i', 't', 'c', 'e', 'l', 'l', 'o', 'c'].reverse) = some Manifest.sig_collections_deque := by kernel_rfl
theorem dq_mro : mroOf (.type "collections.deque") = pure [.type "collections.deque", .type "object"] := by rw [mroOf_type]; kernel_rfl
theorem dq_lookup_new : typeLookup (.type "collections.deque") "__new__" = pure (some (.builtin "collections.deque.__new__")) := by rw [typeLookup_type, builtinLookup_eq_fast]; kernel_rfl
theorem dq_slot_init : Slot "collections.deque" "__init__" "collections.deque.__init__" :=
  .of (owner := "collections.deque") (n := "__init__") (by rw [typeLookup_type, builtinLookup_eq_fast]; kernel_rfl) (by decide +kernel) (by decide +kernel) (by decide +kernel)
    (by first | exact .inl (by decide +kernel) | exact .inr (by decide +kernel)) (by rw [isSubtype_type]; kernel_rfl)
theorem dq_slot_len : Slot "collections.deque" "__len__" "collections.deque.__len__" :=
  .of (owner := "collections.deque") (n := "__len__") (by rw [typeLookup_type, builtinLookup_eq_fast]; kernel_rfl) (by decide +kernel) (by decide +kernel) (by decide +kernel)
    (by first | exact .inl (by decide +kernel) | exact .inr (by decide +kernel)) (by rw [isSubtype_type]; kernel_rfl)
theorem dq_slot_append : Slot "collections.deque" "append" "collections.deque.append" :=
  .of (owner := "collections.deque") (n := "append") (by rw [typeLookup_type, builtinLookup_eq_fast]; kernel_rfl) (by decide +kernel) (by decide +kernel) (by decide +kernel)
    (by first | exact .inl (by decide +kernel) | exact .inr (by decide +kernel)) (by rw [isSubtype_type]; kernel_rfl)
theorem dq_slot_pop : Slot "collections.deque" "pop" "collections.deque.pop" :=
  .of (owner := "collections.deque") (n := "pop") (by rw [typeLookup_type, builtinLookup_eq_fast]; kernel_rfl) (by decide +kernel) (by decide +kernel) (by decide +kernel)
    (by first | exact .inl (by decide +kernel) | exact .inr (by decide +kernel)) (by rw [isSubtype_type]; kernel_rfl)
theorem dq_type_append : typeOf (.builtin "collections.deque.append") = pure (.type "method_descriptor") := by show builtinType _ = _; rw [builtinType_eq_fast]; kernel_rfl
theorem dq_type_pop : typeOf (.builtin "collections.deque.pop") = pure (.type "method_descriptor") := by show builtinType _ = _; rw [builtinType_eq_fast]; kernel_rfl
theorem dq_entry_new : entryFor table "collections.deque.__new__" = some Builtin.«collections.deque.__new__» := entryFor_of_tree (by kernel_rfl)
theorem dq_entry_init : entryFor table "collections.deque.__init__" = some Builtin.«collections.deque.__init__» := entryFor_of_tree (by kernel_rfl)
theorem dq_entry_len : entryFor table "collections.deque.__len__" = some Builtin.«collections.deque.__len__» := entryFor_of_tree (by kernel_rfl)
theorem dq_entry_append : entryFor table "collections.deque.append" = some Builtin.«collections.deque.append» := entryFor_of_tree (by kernel_rfl)
theorem dq_entry_pop : entryFor table "collections.deque.pop" = some Builtin.«collections.deque.pop» := entryFor_of_tree (by kernel_rfl)
theorem dq_called : TypeCalled "collections.deque" "collections.deque.__new__" "collections.deque.__init__" :=
  ⟨by decide +kernel, by decide +kernel, ⟨_, _, dq_mro⟩, madeBy_type dq_mro dq_lookup_new (by decide +kernel), by decide +kernel, by rw [isSubtype_type]; kernel_rfl, dq_slot_init⟩
theorem dq_typeCall : checkTypeCall "collections.deque" ⟨[], []⟩ = pure () := by kernel_rfl
theorem dq_newCall : checkBuiltinCall "collections.deque.__new__" ⟨[.type "collections.deque"], []⟩ = pure () := by kernel_rfl
theorem dq_args_init (a : Value) : argsOk "collections.deque.__init__" ⟨[a], []⟩ := by
  unfold argsOk; rw [signature?_of (id := "collections.deque.__init__") (n := ['_', '_', 't', 'i', 'n', 'i', '_', '_']) (o := ['e', 'u', 'q', 'e', 'd', '.', 's', 'n', 'o', 'i', 't', 'c', 'e', 'l', 'l', 'o', 'c']) (by kernel_rfl) dq_owner]; kernel_rfl
theorem dq_args_len (a : Value) : argsOk "collections.deque.__len__" ⟨[a], []⟩ := by
  unfold argsOk; rw [signature?_of (id := "collections.deque.__len__") (n := ['_', '_', 'n', 'e', 'l', '_', '_']) (o := ['e', 'u', 'q', 'e', 'd', '.', 's', 'n', 'o', 'i', 't', 'c', 'e', 'l', 'l', 'o', 'c']) (by kernel_rfl) dq_owner]; kernel_rfl
theorem dq_args_append (a b : Value) : argsOk "collections.deque.append" ⟨[a, b], []⟩ := by
  unfold argsOk; rw [signature?_of (id := "collections.deque.append") (n := ['d', 'n', 'e', 'p', 'p', 'a']) (o := ['e', 'u', 'q', 'e', 'd', '.', 's', 'n', 'o', 'i', 't', 'c', 'e', 'l', 'l', 'o', 'c']) (by kernel_rfl) dq_owner]; kernel_rfl
theorem dq_args_pop (a : Value) : argsOk "collections.deque.pop" ⟨[a], []⟩ := by
  unfold argsOk; rw [signature?_of (id := "collections.deque.pop") (n := ['p', 'o', 'p']) (o := ['e', 'u', 'q', 'e', 'd', '.', 's', 'n', 'o', 'i', 't', 'c', 'e', 'l', 'l', 'o', 'c']) (by kernel_rfl) dq_owner]; kernel_rfl
theorem dq_plain : PlainAttrs "collections.deque" := ⟨⟨"collections.deque.__getattribute__", by rw [typeLookup_type, builtinLookup_eq_fast]; kernel_rfl, by decide +kernel⟩, by rw [typeLookup_type, builtinLookup_eq_fast]; kernel_rfl⟩
theorem dq_noBool : typeLookup (.type "collections.deque") "__bool__" = pure none := by rw [typeLookup_type, builtinLookup_eq_fast]; kernel_rfl

section
variable {prog : Program} {w : World} {A : Around} {E : Value → Shared → Prop} {s : Shared}

theorem deqObj_typeIs {a : Addr} {us : List Value} {k : Int} {t : Tok} (ho : s.heap.get? a = some (deqObj us k t)) : s.TypeIs (.ref a) "collections.deque" := ⟨_, ho, rfl⟩
theorem dq_len_body {a : Addr} {us : List Value} {k : Int} {t : Tok} {Q : Value → Shared → Prop} (ho : s.heap.get? a = some (deqObj us k t)) (hfit : (us.length : Int) < 2 ^ 63)
    (h : Q (.int us.length (s.toks + 1)) { s with toks := s.toks + 1 + 1 }) : wpAny (model prog w) A (Builtin.«len» ⟨[.ref a], []⟩) (fun fin s' => ∃ r, fin = .done (.ret r) ∧ Q r s') E s := by
  unfold Builtin.«len»
  refine wpAny_bind (m := oneArg "len" _) (wpAny_pure ?_)
  refine wpAny_bind (m := callSpecial? (.ref a) (Str.ofString "__len__")) (wpAny_callSpecial?_slot (name := Str.ofString "__len__") (deqObj_typeIs ho) dq_slot_len
    (wpAny_call_entry dq_slot_len (deqObj_typeIs ho) dq_entry_len ?_ (dq_args_len _)))
  show wpAny _ _ (do retInt (← Deque.size (.ref a))) _ _ s
  unfold Deque.size
  refine wpAny_bind (wpAny_bind (wpAny_fieldsOf ho rfl ?_))
  refine wpAny_pure (wpAny_bind (wpAny_mkInt (wpAny_pure ⟨_, rfl, ?_⟩)))
  refine wpAny_bind (wpAny_holding (wpAny_pure ?_))
  refine wpAny_bind (wpAny_letGo ?_)
  have hz : ((#[Value.none, Value.int k t] ++ us.toArray).size - 2) = us.length := by simp
  rw [hz]
  show wpAny _ _ (if ((us.length : Nat) : Int) < 0 then _ else _) _ _ _
  rw [if_neg (by omega)]
  show wpAny _ _ (if ((us.length : Nat) : Int) ≥ 2 ^ 63 then _ else _) _ _ _
  rw [if_neg (by omega)]
  exact wpAny_bind (wpAny_mkInt (wpAny_pure ⟨_, rfl, h⟩))
theorem dq_truthy {a : Addr} {us : List Value} {k : Int} {t : Tok} {Q : Bool → Shared → Prop} (ho : s.heap.get? a = some (deqObj us k t)) (hfit : (us.length : Int) < 2 ^ 63)
    (h : Q (!us.isEmpty) { s with toks := s.toks + 1 + 1 }) : wpAny (model prog w) A (truthy (.ref a)) Q E s := by
  have hne : ((us.length : Int) != 0) = !us.isEmpty := by
    cases us with
    | nil => rfl
    | cons x r => simp [bne_iff_ne]; omega
  have key : wpAny (model prog w) A (runValue (.builtin "len" ⟨[.ref a], []⟩)) (fun r s' => r = .int us.length (s.toks + 1) ∧ Q (!us.isEmpty) s') E s := by
    refine wpAny_runValue (codeAny_builtin entry_len ?_)
    rw [Around.under_plainId plain_len _]
    exact wpAny_mono (dq_len_body (Q := fun r s' => r = .int us.length (s.toks + 1) ∧ Q (!us.isEmpty) s') ho hfit ⟨rfl, h⟩)
      (fun fin s' h' => by obtain ⟨r, rfl, hq⟩ := h'; exact hq) fun _ _ e => e
  unfold truthy
  first
    | refine wpAny_bind (wpAny_callSpecial?_none (name := Str.ofString "__bool__") (deqObj_typeIs ho) dq_noBool ?_)
    | refine wpAny_bind (wpAny_pure (wpAny_bind (wpAny_callSpecial?_none (name := Str.ofString "__bool__") (deqObj_typeIs ho) dq_noBool ?_)))
  first
    | refine wpAny_bind (wpAny_specialOf (name := Str.ofString "__len__") (deqObj_typeIs ho) dq_slot_len.lookup ?_)
    | refine wpAny_bind (wpAny_pure (wpAny_bind (wpAny_specialOf (name := Str.ofString "__len__") (deqObj_typeIs ho) dq_slot_len.lookup ?_)))
  first
    | exact wpAny_bind (wpAny_mono key (fun r s' h' => by obtain ⟨rfl, hq⟩ := h'; exact wpAny_pure (hne ▸ hq)) fun _ _ e => e)
    | exact wpAny_bind (wpAny_pure (wpAny_bind (wpAny_mono key (fun r s' h' => by obtain ⟨rfl, hq⟩ := h'; exact wpAny_pure (hne ▸ hq)) fun _ _ e => e)))

theorem dq_change {a : Addr} {us : List Value} {k : Int} {t : Tok} {f : Array Value → Array Value} {Q : Unit → Shared → Prop} (ho : s.heap.get? a = some (deqObj us k t)) (hz : (f us.toArray).size ≤ sizeLine)
    (h : ∀ h', Heap.SameBut a s.heap h' → h'.get? a = some (deqObj (f us.toArray).toList (k + 1) 0) → Q () { s with heap := h' }) : wpAny (model prog w) A (Deque.change (.ref a) f) Q E s := by
  unfold Deque.change
  refine wpAny_bind (m := Deque.state _) ?_
  unfold Deque.state
  refine wpAny_bind (wpAny_field ho (vs := #[.none, .int k t] ++ us.toArray) rfl (x := .int k t) (by simp) ?_)
  refine wpAny_pure ?_
  have he : ((#[Value.none, Value.int k t] ++ us.toArray).extract 2 (#[Value.none, Value.int k t] ++ us.toArray).size) = us.toArray := by
    apply Array.ext'
    simp
  refine wpAny_updateFields ho (vs := #[.none, .int k t] ++ us.toArray) rfl ?_ ?_
  · refine h _ (Heap.SameBut.update ..) ((Heap.get?_update_self _ ho rfl).trans ?_)
    show some (deqObj us k t |>.mapFields _) = _
    simp only [deqObj, Obj.mapFields, he]
    simp [rawInt]
  · rw [he]
    simp
    omega
theorem dq_append_body {a : Addr} {us : List Value} {k : Int} {t : Tok} {x : Value} {Q : Value → Shared → Prop} (ho : s.heap.get? a = some (deqObj us k t)) (hz : us.length < sizeLine)
    (h : ∀ h', Heap.SameBut a s.heap h' → h'.get? a = some (deqObj (us ++ [x]) (k + 1) 0) → Q .none { s with heap := h' }) : wpAny (model prog w) A (call (.builtin "collections.deque.append") [.ref a, x]) Q E s := by
  refine wpAny_call_entry dq_slot_append (deqObj_typeIs ho) dq_entry_append ?_ (dq_args_append _ _)
  show wpAny _ _ (do Deque.pushRight (.ref a) x; ret .none) _ _ _
  unfold Deque.pushRight
  refine wpAny_bind (wpAny_bind (dq_change ho (by simp; omega) fun h' hs ho' => ?_))
  refine wpAny_bind (m := Deque.maxlen _) ?_
  unfold Deque.maxlen
  refine wpAny_bind (wpAny_field ho' (vs := _) rfl (x := .none) (by simp) ?_)
  refine wpAny_pure (wpAny_pure (wpAny_pure ⟨_, rfl, h _ hs ?_⟩))
  rw [ho']; simp
theorem dq_pop_body {a : Addr} {us : List Value} {k : Int} {t : Tok} {x : Value} {Q : Value → Shared → Prop} (ho : s.heap.get? a = some (deqObj (us ++ [x]) k t)) (hz : us.length ≤ sizeLine)
    (h : ∀ h', Heap.SameBut a s.heap h' → h'.get? a = some (deqObj us (k + 1) 0) → Q x { s with heap := h' }) : wpAny (model prog w) A (call (.builtin "collections.deque.pop") [.ref a]) Q E s := by
  refine wpAny_call_entry dq_slot_pop (deqObj_typeIs ho) dq_entry_pop ?_ (dq_args_pop _)
  unfold Builtin.«collections.deque.pop»
  refine wpAny_bind (m := selfOnly "deque.pop" _) (wpAny_pure ?_)
  refine wpAny_bind (m := Deque.items _) ?_
  unfold Deque.items
  refine wpAny_bind (wpAny_fieldsOf ho rfl (wpAny_pure ?_))
  have he : ((#[Value.none, Value.int k t] ++ (us ++ [x]).toArray).extract 2 (#[Value.none, Value.int k t] ++ (us ++ [x]).toArray).size).back? = some x := by
    have : ((#[Value.none, Value.int k t] ++ (us ++ [x]).toArray).extract 2 (#[Value.none, Value.int k t] ++ (us ++ [x]).toArray).size) = (us ++ [x]).toArray := by
      apply Array.ext'
      simp
      exact List.take_of_length_le (by simp)
    rw [this]; simp
  rw [he]
  refine wpAny_bind (dq_change ho (by simp; omega) fun h' hs ho' => ?_)
  refine wpAny_pure ⟨_, rfl, h _ hs ?_⟩
  rw [ho']; simp

theorem dq_code_new {Q₁ : Value → Shared → Prop} (h : Q₁ (.ref s.heap.objs.size) { s with heap := s.heap.push (deqObj [] 0 0) }) :
    codeAny (model prog w) A (.call (.builtin "collections.deque.__new__") ⟨[.type "collections.deque"], []⟩) (wants Q₁ E) s := by
  refine codeAny_call_builtin (by decide +kernel) dq_entry_new (wpAny_of_eq dq_newCall ?_)
  unfold Builtin.«collections.deque.__new__»
  have hsub := dq_called.sub
  refine wpAny_bind (m := Deque.newArgs _ _) ?_
  unfold Deque.newArgs
  dsimp only
  refine wpAny_bind (m := isType _) (wpAny_of_eq (a := true) (by kernel_rfl) ?_)
  refine wpAny_bind (m := isSubtype _ _) (wpAny_of_eq hsub ?_)
  refine wpAny_pure ?_
  unfold Deque.new
  refine wpAny_bind ?_
  refine wpAny_bind (m := newObj _ _ _) (wpAny_newObj_type (T := "collections.deque") (data := .fields (#[.none, rawInt 0] ++ #[])) (dict := none) ?_ (by size_fits))
  exact wpAny_pure (wpAny_pure h)

theorem call_deque {Q : Value → Shared → Prop} (h : ∀ h', (∀ b o, s.heap.get? b = some o → h'.get? b = some o) → s.heap.objs.size < h'.objs.size → h'.get? s.heap.objs.size = some (deqObj [] 0 0) → Q (.ref s.heap.objs.size) { s with heap := h' }) :
    wpAny (model prog w) A (call (.type "collections.deque") []) Q E s := by
  obtain ⟨c, tl, hmro⟩ := dq_called.mro
  have hmade := dq_called.made
  have hsub := dq_called.sub
  refine wpAny_call (codeAny_of_tree ?_)
  show wpAny _ _ (callAny (.type "collections.deque") _) _ _ _
  refine wpAny_pure ⟨Code.quiet_builtin _ (by decide +kernel), codeAny_builtin F.entry_type_call ?_⟩
  rw [Around.under_plain (weight_type_call_type "collections.deque" [] []) rfl]
  have h1 := dq_called.notType
  have h2 := dq_called.canCreate
  have hct := dq_typeCall
  repeat (any_goals (first | assumption | wp_step))
  refine codeAny_mono (dq_code_new (E := E) (Q₁ := fun obj s₁ => obj = .ref s.heap.objs.size ∧ s₁ = { s with heap := s.heap.push (deqObj [] 0 0) }) ⟨rfl, rfl⟩) fun r s₁ hr => ?_
  cases r with
  | error e => exact hr
  | ok fl =>
    cases fl with
    | ret obj =>
      obtain ⟨rfl, rfl⟩ := hr
      have hS : (s.heap.push (deqObj [] 0 0)).get? s.heap.objs.size = some (deqObj [] 0 0) := Heap.get?_push_size _ rfl
      have hT : Shared.TypeIs { s with heap := s.heap.push (deqObj [] 0 0) } (.ref s.heap.objs.size) "collections.deque" := ⟨_, hS, rfl⟩
      have hli := dq_called.init.lookup
      have hbi := dq_called.init.bind (.ref s.heap.objs.size)
      repeat (any_goals (first | assumption | wp_step))
      refine codeAny_mono (codeAny_call_builtin (R := wants (fun r s₂ => r = .none ∧ Q (.ref s.heap.objs.size) s₂) E) dq_called.init.plain dq_entry_init (dq_called.init.check _ _ _ _ _ _ _ _ hT (dq_args_init _) ?_)) fun r₂ s₂ hr₂ => ?_
      · unfold Builtin.«collections.deque.__init__»
        dsimp only
        wp_walk
        have hu := Heap.SameBut.update (s.heap.push (deqObj [] 0 0)) s.heap.objs.size (Obj.mapFields fun x => x.setIfInBounds 0 Value.none)
        refine ⟨rfl, h _ (fun b o e => ?_) ?_ ?_⟩
        · rw [hu.2 b (Nat.ne_of_lt (Heap.lt_size e))]
          exact Heap.get?_push_of_some _ e
        · rw [hu.1]; simp [Heap.push]
        · exact Heap.get?_update_self _ hS rfl
      · cases r₂ with
        | error e => exact hr₂
        | ok fl₂ =>
          cases fl₂ with
          | ret r =>
            obtain ⟨rfl, hq⟩ := hr₂
            repeat (any_goals (first | assumption | wp_step))
          | _ => exact hr₂.elim
    | _ => exact hr.elim
end
end Mine
end
section
open PySem PySem.W PyProof.Rows PySem.Calls PySem.Builtin
set_option maxRecDepth 1000000
set_option maxHeartbeats 4000000
namespace Mine

def HExt (h h' : Heap) : Prop := (∀ b o, h.get? b = some o → h'.get? b = some o) ∧ True
theorem HExt.refl (h : Heap) : HExt h h := ⟨fun _ _ e => e, trivial⟩
theorem HExt.trans {a b c : Heap} (x : HExt a b) (y : HExt b c) : HExt a c := ⟨fun _ _ e => y.1 _ _ (x.1 _ _ e), trivial⟩
theorem HExt.push (h : Heap) (o : Obj) : HExt h (h.push o) := ⟨fun _ _ e => Heap.get?_push_of_some _ e, trivial⟩
theorem HExt.change {h h' h'' : Heap} {a : Addr} (x : HExt h h') (hs : Heap.SameBut a h' h'') (ha : h.objs.size ≤ a) : HExt h h'' :=
  ⟨fun b o e => by rw [hs.2 b (Nat.ne_of_lt (Nat.lt_of_lt_of_le (Heap.lt_size e) ha))]; exact x.1 _ _ e, trivial⟩

def fkBound : Obj := { cls := .type "builtin_function_or_method", data := .fields #[.builtin "dict.fromkeys", .type "dict"] }
theorem fk_type : typeOf (.builtin "dict.fromkeys") = pure (.type "classmethod_descriptor") := by show builtinType _ = _; rw [builtinType_eq_fast]; kernel_rfl
theorem fk_entry : entryFor table "dict.fromkeys" = some Builtin.«dict.fromkeys» := entryFor_of_tree (by kernel_rfl)
theorem fk_entry_loop : entryFor table "dict.fromkeys.loop" = some Builtin.«dict.fromkeys.loop» := entryFor_of_tree (by kernel_rfl)
theorem fk_isType : isType (.type "dict") = pure true := by first | rfl | kernel_rfl | (unfold isType; rw [isSubtype_type]; kernel_rfl)
theorem fk_owner : (kfb_private% "ownerAndName") "dict.fromkeys" = ("dict", "fromkeys") := by first | decide +kernel | kernel_rfl
theorem fk_find : findCls [] (.type "dict") (.type "type") (PySem.Str.ofString "fromkeys") = some (.get (.builtin "classmethod_descriptor.__get__") (.builtin "dict.fromkeys") .none (.type "dict")) := by kernel_rfl
theorem dict_typeCall_0 : checkTypeCall "dict" ⟨[], []⟩ = pure () := by kernel_rfl
theorem dict_newCall_0 : checkBuiltinCall "dict.__new__" ⟨[.type "dict"], []⟩ = pure () := by kernel_rfl
theorem dict_args_init_1 (a : Value) : argsOk "dict.__init__" ⟨[a], []⟩ := by
  unfold argsOk; rw [signature?_of (id := "dict.__init__") (n := ['_', '_', 't', 'i', 'n', 'i', '_', '_']) (o := ['t', 'c', 'i', 'd']) (by kernel_rfl) F.owner_dict]; kernel_rfl

section
variable {prog : Program} {w : World} {M : Model} {A : Around} {E : Value → Shared → Prop} {s : Shared}

theorem dict_code_new {Q₁ : Value → Shared → Prop} (h : Q₁ (.ref s.heap.objs.size) { s with heap := s.heap.push { cls := .type "dict", data := .dict #[] } }) :
    codeAny (model prog w) A (.call (.builtin "dict.__new__") ⟨[.type "dict"], []⟩) (wants Q₁ E) s := by
  refine codeAny_call_builtin F.kt_plain_dict_new F.kt_entry_dict_new (wpAny_of_eq dict_newCall_0 ?_)
  have hsub := F.kt_sub_dict
  have hmro := F.kt_mro_dict
  obtain ⟨hp, g, d, tk, os⟩ := s
  unfold Builtin.«dict.__new__»
  wp_walk
  exact h
theorem call_dict_0 {Q : Value → Shared → Prop} (h : Q (.ref s.heap.objs.size) { s with heap := s.heap.push { cls := .type "dict", data := .dict #[] } }) : wpAny (model prog w) A (call (.type "dict") []) Q E s := by
  refine callType_codes (Q₁ := fun obj s₁ => obj = .ref s.heap.objs.size ∧ s₁ = { s with heap := s.heap.push { cls := .type "dict", data := .dict #[] } }) F.kt_called_dict dict_typeCall_0 F.entry_dict_init (dict_code_new ⟨rfl, rfl⟩) ?_
  rintro obj s₁ ⟨rfl, rfl⟩
  have hnew : (s.heap.push { cls := .type "dict", data := .dict #[] }).DictOf (PySem.strKind prog w) s.heap.objs.size [] := Heap.DictOf.new s.heap
  refine ⟨hnew.typeIs, dict_args_init_1 _, ?_⟩
  unfold Builtin.«dict.__init__»
  refine wpAny_bind ?_
  unfold Builtin.Dict.selfAndRest
  refine wpAny_bind (wpAny_notOrdered_dict hnew.typeIs ?_)
  show wpAny _ _ (pure (s.heap.objs.size, [])) _ _ _
  refine wpAny_pure ?_
  show wpAny _ _ (Builtin.Dict.addKeywords s.heap.objs.size [] >>= _) _ _ _
  exact wpAny_bind (wpAny_pure (wpAny_pure ⟨rfl, h⟩))

theorem fk_run_get {P : Fin → Shared → Prop} (h : P (.done (.ret (.ref s.heap.objs.size))) { s with heap := s.heap.push fkBound }) :
    wpAny M A (Builtin.«classmethod_descriptor.__get__» ⟨[.builtin "dict.fromkeys", .none, .type "dict"], []⟩) P E s := by
  unfold Builtin.«classmethod_descriptor.__get__»
  refine wpAny_bind (wpAny_of_eq (a := (.builtin "dict.fromkeys", none, some (.type "dict"))) (by first | rfl | kernel_rfl) ?_)
  simp only [fk_owner]
  refine wpAny_bind (wpAny_of_eq (a := .type "dict") rfl ?_)
  refine wpAny_bind (wpAny_of_eq (a := true) fk_isType ?_)
  refine KFB.if_not rfl ?_
  refine wpAny_bind (wpAny_of_eq (a := true) F.kt_sub_dict ?_)
  refine KFB.if_not rfl ?_
  exact wpAny_bind (wpAny_newObj_type (wpAny_pure h))

theorem K_nil (h : Heap) : Frag.In [] h := by intro a o e; cases e

theorem fk_getm {pl : Sem Bool} {Q : Value × List Value → Shared → Prop}
    (h : Q (.ref s.heap.objs.size, []) { s with heap := s.heap.push fkBound, toks := s.toks + 1 }) :
    wpAny (model prog w) A (getMethod (.type "dict") (PySem.Str.ofString "fromkeys") pl) Q E s := by
  have X : Frag.In [] s.heap := K_nil _
  have hstub : opaqueClassAbove (.type "dict") = pure none := by unfold opaqueClassAbove; dsimp only; rw [show Manifest.isStub "dict" = false by decide +kernel]; rfl
  have ht : typeOf (.type "dict") = pure (.type "type") := by first | rfl | kernel_rfl
  have L0 : Looks (model prog w) s.heap (typeOf (.type "dict")) (.type "type") := Looks.of_pure ht
  have hg : findIn [] (.type "type") "__getattribute__" = some (some (.builtin "type.__getattribute__")) := type_tga
  unfold getMethod specialOf
  refine wpAny_bind (wpAny_bind (L0.here ((looks_findIn X hg).here ?_)))
  dsimp only
  rw [if_pos canon_tga]
  refine wpAny_bind (wpAny_mono (Q := fun v => Q (v, [])) (E := E) ?_ (fun _ _ z => wpAny_pure z) fun _ _ z => z)
  have LO : Looks (model prog w) s.heap (opaqueClassAbove (.type "dict")) none := Looks.of_pure hstub
  refine cls_open X LO L0 hg (looks_hook X (r := none) (by rfl)) (by show subIn [] _ _ = _; rfl) fk_find ?_
  show wpAny _ _ (holding [.builtin "dict.fromkeys"] (call (.builtin "classmethod_descriptor.__get__") [.builtin "dict.fromkeys", .none, .type "dict"]) >>= fun v => ret v) _ _ _
  exact wpAny_bind (wpAny_holding (wpAny_call_entry KFB.slot_get fk_type KFB.entry_get (fk_run_get ⟨_, rfl, wpAny_pure (wpAny_pure h)⟩) (KFB.args_get _ _ _)))

def fkPairs (cs : List Nat) : List (Str × Value) := cs.map fun c => (⟨#[c]⟩, .none)
theorem stored_fresh {K : Type} [DecidableEq K] {kvs : List (K × Value)} {k : K} {v : Value} (h : k ∉ kvs.map (·.1)) : stored kvs k v = kvs ++ [(k, v)] := by
  unfold stored
  rw [if_neg]
  intro e
  obtain ⟨kv, hm, he⟩ := List.any_eq_true.mp e
  exact h (List.mem_map.mpr ⟨kv, hm, of_decide_eq_true he⟩)

theorem fk_loop {d it : Addr} {x : Str} {t : Tok} {h₀ : Heap} {R : Result → Shared → Prop} (hh : A.handled = none) (hsz : x.cps.size ≤ sizeLine) (hnd : x.cps.toList.Nodup) (hd0 : h₀.objs.size ≤ d) (hi0 : h₀.objs.size ≤ it) (hdi : d ≠ it)
    (hR : ∀ h' tk, HExt h₀ h' → h'.DictOf (PySem.strKind prog w) d (fkPairs x.cps.toList) → R (.ok (.ret (.ref d))) { s with heap := h', toks := tk }) :
    ∀ (n i : Nat) (h : Heap) (tk : Nat), i + n = x.cps.size → HExt h₀ h → h.DictOf (PySem.strKind prog w) d (fkPairs (x.cps.toList.take i)) → h.IsStrIter it "str_ascii_iterator" x t i →
      codeAny (model prog w) A (.builtin "dict.fromkeys.loop" ⟨[.ref d, .ref it, .none], []⟩) R { s with heap := h, toks := tk } := by
  intro n
  induction n with
  | zero =>
    intro i h tk hin X D I
    refine codeAny_builtin fk_entry_loop ?_
    have hu : (A.under (Code.builtin "dict.fromkeys.loop" ⟨[.ref d, .ref it, .none], []⟩)).handled = none := hh
    unfold Builtin.«dict.fromkeys.loop»
    dsimp only
    refine wpAny_bind (wpAny_pyNext_ascii_end (s := { s with heap := h, toks := tk }) hu I (by rw [Array.getElem?_eq_none]; omega) fun h' hs => ?_)
    refine wpAny_pure (hR h' _ ⟨fun b o e => ?_, ?_⟩ ?_)
    · exact hs b o (Nat.ne_of_lt (Nat.lt_of_lt_of_le (Heap.lt_size e) hi0)) (X.1 _ _ e)
    · trivial
    · have := D.extBut hs hdi
      rwa [List.take_of_length_le (by simp; omega)] at this
  | succ n ih =>
    intro i h tk hin X D I
    refine codeAny_builtin fk_entry_loop ?_
    unfold Builtin.«dict.fromkeys.loop»
    dsimp only
    have hi : i < x.cps.size := by omega
    refine wpAny_bind (wpAny_pyNext_ascii_item (s := { s with heap := h, toks := tk }) I (Array.getElem?_eq_getElem hi) fun h' I' hs => ?_)
    have D' := D.sameBut hs hdi
    refine wpAny_bind (wpAny_typeOf (s := { s with heap := h', toks := _ }) D'.typeIs ?_)
    rw [if_pos (by decide)]
    refine wpAny_bind (m := Dict.addrOf _) (wpAny_pure ?_)
    refine wpAny_bind (wpAny_holding ?_)
    refine wpAny_dictSet_pairs (s := { s with heap := h', toks := _ }) (knd := PySem.strKind prog w) (k := ⟨#[x.cps[i]]⟩) (by simp [PySem.strKind, Value.isStrOf]) D' (fun h'' D'' hs' => ?_) (by simp [fkPairs]; omega)
    refine wpAny_pure ⟨Code.quiet_builtin _ (by decide +kernel), ih (i + 1) h'' _ (by omega) ((X.change hs hi0).change hs' hd0) ?_ ?_⟩
    · rw [stored_fresh] at D''
      · have e : fkPairs (x.cps.toList.take (i + 1)) = fkPairs (x.cps.toList.take i) ++ [(⟨#[x.cps[i]]⟩, .none)] := by
          rw [List.take_succ_eq_append_getElem (by simpa using hi)]
          simp [fkPairs]
        rw [e]; exact D''
      · intro hm
        simp only [fkPairs, List.map_map, List.mem_map, Function.comp] at hm
        obtain ⟨c, hc, he⟩ := hm
        have he' : c = x.cps[i] := by simpa using he
        subst he'
        have hnd2 := hnd
        rw [← List.take_append_drop i x.cps.toList, List.nodup_append] at hnd2
        exact hnd2.2.2 _ hc _ (by rw [List.drop_eq_getElem_cons (by simpa using hi)]; simp) rfl
    · exact I'.extBut hs'.extBut (Ne.symm hdi)

theorem fk_check {x : Str} {t : Tok} : checkBoundCall "dict.fromkeys" ⟨[.type "dict", .str x t], []⟩ = pure () := by first | kernel_rfl | rfl
theorem fk_quiet {as : Args} : (Code.builtin "dict.fromkeys" as).quiet = true := Code.quiet_builtin _ (by decide +kernel)
theorem fk_call {b : Addr} {x : Str} {t : Tok} {Q : Value → Shared → Prop} (hh : A.handled = none) (ho : s.heap.get? b = some fkBound) (ha : x.cps.all (· < 128) = true) (hsz : x.cps.size ≤ sizeLine) (hnd : x.cps.toList.Nodup)
    (h : ∀ h' tk, HExt s.heap h' → h'.DictOf (PySem.strKind prog w) s.heap.objs.size (fkPairs x.cps.toList) → Q (.ref s.heap.objs.size) { s with heap := h', toks := tk }) : wpAny (model prog w) A (call (.ref b) [.str x t]) Q E s := by
  refine wpAny_call (codeAny_of_tree ?_)
  show wpAny _ A.in1 (callAny (.ref b) ⟨[.str x t], []⟩) _ _ s
  simp only [callAny]
  refine wpAny_bind (wpAny_load ho ?_)
  simp only [fkBound, show (Value.type "builtin_function_or_method" == Value.type "method" || Value.type "builtin_function_or_method" == Value.type "builtin_function_or_method" || Value.type "builtin_function_or_method" == Value.type "method-wrapper") = true by decide, if_true]
  refine KFB.if_so (by decide) ?_
  refine wpAny_bind (wpAny_of_eq (a := ()) fk_check ?_)
  refine wpAny_bind (wpAny_pure (wpAny_pure ?_))
  refine ⟨fk_quiet, codeAny_builtin fk_entry ?_⟩
  unfold Builtin.«dict.fromkeys»
  dsimp only
  refine wpAny_bind (wpAny_of_eq (a := true) fk_isType ?_)
  refine KFB.if_not rfl ?_
  refine wpAny_bind (wpAny_of_eq (a := true) F.kt_sub_dict ?_)
  refine KFB.if_not rfl ?_
  refine KFB.if_not rfl ?_
  refine wpAny_bind (wpAny_rule (wpAny_bind (wpAny_pure ?_)))
  refine wpAny_bind (m := call (.type "dict") []) (call_dict_0 ?_)
  refine wpAny_holding ?_
  have hh2 : (A.under (Code.builtin "dict.fromkeys" ⟨[.type "dict", .str x t], []⟩)).handled = none := hh
  have hnew : (s.heap.push { cls := .type "dict", data := .dict #[] }).DictOf (PySem.strKind prog w) s.heap.objs.size [] := Heap.DictOf.new s.heap
  refine wpAny_bind (wpAny_typeOf (s := { s with heap := s.heap.push { cls := .type "dict", data := .dict #[] } }) (typeIs_str _ x t) ?_)
  refine wpAny_bind (wpAny_typeOf (s := { s with heap := s.heap.push { cls := .type "dict", data := .dict #[] } }) hnew.typeIs ?_)
  refine KFB.if_not (by decide) ?_
  refine wpAny_bind (wpAny_typeOf (s := { s with heap := s.heap.push { cls := .type "dict", data := .dict #[] } }) hnew.typeIs ?_)
  refine KFB.if_not (by decide) ?_
  refine wpAny_bind (wpAny_pyIter_ascii (s := { s with heap := s.heap.push { cls := .type "dict", data := .dict #[] } }) ha ?_)
  refine wpAny_pure ⟨Code.quiet_builtin _ (by decide +kernel), ?_⟩
  have hsz1 : (s.heap.push { cls := .type "dict", data := .dict #[] }).objs.size = s.heap.objs.size + 1 := by simp [Heap.push]
  refine fk_loop (s := s) (d := s.heap.objs.size) (it := (s.heap.push { cls := .type "dict", data := .dict #[] }).objs.size) (h₀ := s.heap) hh hsz hnd (Nat.le_refl _) (by rw [hsz1]; exact Nat.le_succ _) (by rw [hsz1]; exact Nat.ne_of_lt (Nat.lt_succ_self _)) (fun h' tk X D => ?_) x.cps.size 0 _ _ (by omega) ((HExt.push _ _).trans (HExt.push _ _)) (hnew.push _) ⟨_, Heap.get?_push_size _ rfl, rfl, rfl⟩
  exact h h' tk X D

theorem mt_entry : entryFor table "str.maketrans" = some Builtin.«str.maketrans» := entryFor_of_tree (by kernel_rfl)
theorem mt_check (d : Addr) : checkBuiltinCall "str.maketrans" ⟨[.ref d], []⟩ = pure () := by kernel_rfl
def mtPairs (cs : List Nat) : List (Int × Value) := cs.map fun (c : Nat) => ((c : Int), Value.none)
theorem mt_call {d : Addr} {cs : List Nat} {Q : Value → Shared → Prop} (hd : (d == sysModules) = false) (D : s.heap.DictOf (PySem.strKind prog w) d (fkPairs cs)) (hsz : cs.length ≤ sizeLine) (hnd : cs.Nodup)
    (h : ∀ h' tk, HExt s.heap h' → h'.DictOf (intKind prog w) s.heap.objs.size (mtPairs cs) → Q (.ref s.heap.objs.size) { s with heap := h', toks := tk }) : wpAny (model prog w) A (call (.builtin "str.maketrans") [.ref d]) Q E s := by
  refine wpAny_call (codeAny_call_builtin (by decide +kernel) mt_entry (wpAny_of_eq (mt_check d) ?_))
  unfold Builtin.«str.maketrans»
  refine wpAny_bind (m := noKeywords _ _) (wpAny_pure ?_)
  refine wpAny_bind (m := PySem.checkCount _ _ _ _) (wpAny_of_eq (a := ()) (by rfl) ?_)
  refine wpAny_bind (wpAny_of_eq (a := none) (by rfl) ?_)
  refine wpAny_bind (wpAny_of_eq (a := none) (by rfl) ?_)
  unfold newDict
  refine wpAny_bind (wpAny_newObj_type (T := "dict") (data := .dict #[]) ?_ (by size_fits))
  dsimp only
  have D1 : (s.heap.push { cls := .type "dict", data := .dict #[] }).DictOf (PySem.strKind prog w) d (fkPairs cs) := D.push _
  have hnew : (s.heap.push { cls := .type "dict", data := .dict #[] }).DictOf (intKind prog w) s.heap.objs.size [] := Heap.DictOf.new s.heap
  have hne : s.heap.objs.size ≠ d := by
    obtain ⟨_, _, _, hg, _⟩ := D
    exact fun e => absurd (Heap.lt_size hg) (by rw [e]; exact Nat.lt_irrefl _)
  refine wpAny_bind (wpAny_holding ?_)
  refine wpAny_bind (wpAny_typeOf (s := { s with heap := s.heap.push { cls := .type "dict", data := .dict #[] } }) D1.typeIs ?_)
  refine wpAny_bind (m := notAStandIn _) (wpAny_pure ?_)
  refine wpAny_bind (wpAny_typeOf (s := { s with heap := s.heap.push { cls := .type "dict", data := .dict #[] } }) D1.typeIs ?_)
  refine KFB.if_not (by decide) ?_
  refine wpAny_bind (m := notTheModulesDict _ _) ?_
  unfold notTheModulesDict
  rw [hd]
  refine KFB.if_not rfl (wpAny_pure ?_)
  obtain ⟨o, es, ep, ho, hc, hdat, hk, hp, hn⟩ := id D1
  refine wpAny_bind (wpAny_dictEntries ho hdat ?_)
  rw [← Array.forIn_toList]
  refine wpAny_bind (wpAny_forIn_list _ (fun rest b s' => ∃ (i : Nat) (h1 : Heap) (tk : Nat), Pairs (PySem.strKind prog w) rest (fkPairs (cs.drop i)) ∧ s' = { s with heap := h1, toks := tk } ∧ HExt s.heap h1 ∧ h1.DictOf (intKind prog w) s.heap.objs.size (mtPairs (cs.take i))) _ ?_ ?_ es.toList PUnit.unit ?_)
  · rintro e rest b s' ⟨i, h1, tk, P, rfl, X, D'⟩
    cases hc' : cs.drop i with
    | nil => rw [hc'] at P; cases P
    | cons c r =>
      rw [hc'] at P
      have hi : i < cs.length := by
        by_cases hi : i < cs.length
        · exact hi
        · rw [List.drop_of_length_le (by omega)] at hc'; cases hc'
      have hci : c = cs[i] ∧ r = cs.drop (i + 1) := by
        rw [List.drop_eq_getElem_cons hi] at hc'
        cases hc'; exact ⟨rfl, rfl⟩
      cases P with
      | cons k1 k2 P' =>
        obtain ⟨t', hk'⟩ := Value.isStrOf_shape k1
        obtain ⟨eh, ek, ev⟩ := e
        dsimp only at hk' k2
        subst hk' k2
        refine wpAny_bind (m := asStr? _) (wpAny_pure ?_)
        dsimp only
        refine wpAny_bind (wpAny_mkInt (wpAny_bind ?_))
        refine wpAny_dictSet_pairs (s := { s with heap := h1, toks := _ }) (knd := intKind prog w) (k := (c : Int)) (by simp [intKind, Value.isInt]; rfl) D' (fun h'' D'' hs' => ?_) (by simp [mtPairs]; omega)
        refine wpAny_pure ⟨i + 1, h'', _, by rw [hci.2] at P'; exact P', rfl, X.change hs' (Nat.le_refl _), ?_⟩
        rw [stored_fresh] at D''
        · have e : mtPairs (cs.take (i + 1)) = mtPairs (cs.take i) ++ [((c : Int), .none)] := by
            rw [List.take_succ_eq_append_getElem hi, ← hci.1]
            simp [mtPairs]
          rw [e]; exact D''
        · intro hm
          simp only [mtPairs, List.map_map, List.mem_map, Function.comp] at hm
          obtain ⟨c', hc2, he⟩ := hm
          have he' : c' = c := Int.ofNat.inj he
          subst he'
          have hnd2 := hnd
          rw [← List.take_append_drop i cs, List.nodup_append] at hnd2
          exact hnd2.2.2 _ hc2 _ (by rw [hc']; exact List.mem_cons_self) rfl
  · rintro b s' ⟨i, h1, tk, P, rfl, X, D'⟩
    have hlen : (fkPairs (cs.drop i)).length = 0 := by rw [← P.length]; rfl
    simp only [fkPairs, List.length_map, List.length_drop] at hlen
    rw [List.take_of_length_le (by omega)] at D'
    exact wpAny_pure (wpAny_pure (h h1 tk X D'))
  · exact ⟨0, _, _, hp, rfl, HExt.push _ _, hnew⟩

def delMap (cs : List Nat) (k : Int) : Option Value := valueAt (mtPairs cs) k
theorem delMap_eq (cs : List Nat) (c : Nat) : delMap cs (c : Int) = if c ∈ cs then some .none else none := by
  induction cs with
  | nil => rfl
  | cons x r ih =>
    unfold delMap mtPairs valueAt at ih ⊢
    simp only [List.map_cons, List.find?_cons, List.mem_cons]
    by_cases h : (x : Int) = (c : Int)
    · have h' : c = x := (Int.ofNat.inj h).symm
      simp [h, h']
    · have h' : ¬ c = x := fun e => h (by rw [e])
      rw [decide_eq_false h]
      simp only [h', false_or]
      exact ih

theorem sub_KeyError_Lookup : isSubtype (.type "KeyError") (.type "LookupError") = pure true := by rw [isSubtype_type]; kernel_rfl
theorem tl_step {d : Addr} {cs : List Nat} {c : Nat} {h1 : Heap} {tk : Nat} {Q : Builtin.Str.Mapped → Shared → Prop} (hh : A.handled = none) (hd : (d == sysModules) = false) (D : h1.DictOf (intKind prog w) d (mtPairs cs))
    (h : ∀ h' tk', HExt h1 h' → Q (if c ∈ cs then .drop else .keep) { s with heap := h', toks := tk' }) :
    wpAny (model prog w) A (Builtin.Str.tableLookup (.ref d) c) Q E { s with heap := h1, toks := tk } := by
  unfold Builtin.Str.tableLookup
  have hm := D.mapOf
  by_cases hc : c ∈ cs
  · refine wpAny_bind (wpAny_attempt (wpAny_bind (wpAny_mkInt ?_)))
    refine wpAny_getItem_of (s := { s with heap := h1, toks := tk + 1 }) (knd := intKind prog w) (k := (c : Int)) (v := .none) (by simp [intKind, Value.isInt]) hm (by have := delMap_eq cs c; rw [if_pos hc] at this; exact this) ?_
    dsimp only
    refine wpAny_pure ?_
    have := h h1 (tk + 1 + 1) (HExt.refl _)
    rw [if_pos hc] at this
    exact this
  · refine wpAny_bind (wpAny_attempt (wpAny_bind (wpAny_mkInt ?_)))
    refine wpAny_getItem_missing_of (s := { s with heap := h1, toks := tk + 1 }) (knd := intKind prog w) (k := (c : Int)) (by simp [intKind, Value.isInt]) hd hh hm (by have := delMap_eq cs c; rw [if_neg hc] at this; exact this) fun h' e hx => ?_
    obtain ⟨ob, t', he, hcls, hdat⟩ := hx.there
    show wpAny _ _ (isInstance (.ref e) (.type "LookupError") >>= _) _ _ _
    refine wpAny_bind (wpAny_isInstance (T := "KeyError") (b := true) ⟨ob, he, hcls⟩ sub_KeyError_Lookup ?_)
    refine KFB.if_so rfl ?_
    refine wpAny_bind (wpAny_rule (wpAny_pure ?_))
    have := h h' (tk + 1 + 1) ⟨hx.keeps, trivial⟩
    rw [if_neg hc] at this
    exact this

theorem tr_entry : entryFor table "str.translate" = some Builtin.«str.translate» := F.entry_str_translate
theorem tr_call {d : Addr} {cs : List Nat} {x : Str} {t : Tok} {Q : Value → Shared → Prop} (hh : A.handled = none) (hd : (d == sysModules) = false) (D : s.heap.DictOf (intKind prog w) d (mtPairs cs)) (hsz : x.cps.size ≤ 1000) (hne : x.length ≠ 0)
    (h : ∀ h' tk t', HExt s.heap h' → Q (.str ⟨x.cps.filter (fun c => !cs.contains c)⟩ t') { s with heap := h', toks := tk }) : wpAny (model prog w) A (call (.builtin "str.translate") [.str x t, .ref d]) Q E s := by
  refine wpAny_call_entry F.slot_str_translate (typeIs_str _ x t) tr_entry ?_ (F.args_str_translate_2 _ _)
  unfold Builtin.«str.translate»
  refine wpAny_bind (m := Builtin.Str.strOneArg _ _) (wpAny_pure ?_)
  dsimp only
  refine KFB.if_not (by simpa using hne) ?_
  rw [← Array.forIn_toList]
  refine wpAny_bind (wpAny_forIn_list _ (fun rest (b : List Str × Nat × Bool × List (Nat × Option Nat) × Bool) s' => ∃ (i : Nat) (h1 : Heap) (tk : Nat), rest = x.cps.toList.drop i ∧ s' = { s with heap := h1, toks := tk } ∧ HExt s.heap h1 ∧ (b.2.1 ≤ i ∧ i ≤ x.cps.size) ∧
      (b.1.reverse.flatMap (·.cps.toList)) = (x.cps.toList.take i).filter (fun c => !cs.contains c) ∧ b.2.2.1 = x.cps.all (· < 128) ∧ ∀ c a, b.2.2.2.1.lookup c = some a → a = if c ∈ cs then none else some c) _ ?_ ?_ _ _ ?_)
  · rintro c rest ⟨pieces, total, fast, known, after⟩ s' ⟨i, h1, tk, hr, rfl, X, ⟨ht, hti⟩, hp, rfl, hk⟩
    dsimp only at ht hp hk ⊢
    have hi : i < x.cps.toList.length := by
      by_cases hi : i < x.cps.toList.length
      · exact hi
      · rw [List.drop_of_length_le (by omega)] at hr; cases hr
    have hci : c = x.cps.toList[i] ∧ rest = x.cps.toList.drop (i + 1) := by
      rw [List.drop_eq_getElem_cons hi] at hr
      cases hr; exact ⟨rfl, rfl⟩
    have hi' : i < x.cps.size := by simpa using hi
    have htl : Builtin.Str.tooLong total = false := by
      unfold Builtin.Str.tooLong
      exact decide_eq_false (by show ¬ total > 16777216; omega)
    refine KFB.if_not htl ?_
    have hstep : (x.cps.toList.take (i + 1)).filter (fun c => !cs.contains c) = (x.cps.toList.take i).filter (fun c => !cs.contains c) ++ if c ∈ cs then [] else [c] := by
      rw [List.take_succ_eq_append_getElem hi, List.filter_append, ← hci.1]
      congr 1
      by_cases hc : c ∈ cs <;> simp [hc]
    have hsame : c ∈ cs → (x.cps.toList.take (i + 1)).filter (fun c => !cs.contains c) = (x.cps.toList.take i).filter (fun c => !cs.contains c) := fun hc => by rw [hstep, if_pos hc, List.append_nil]
    have hmore : c ∉ cs → (x.cps.toList.take (i + 1)).filter (fun c => !cs.contains c) = (x.cps.toList.take i).filter (fun c => !cs.contains c) ++ [c] := fun hc => by rw [hstep, if_neg hc]
    have D1 : ∀ h', HExt s.heap h' → h'.DictOf (intKind prog w) d (mtPairs cs) := fun h' Y => by
      obtain ⟨o, es, ep, ho, r⟩ := D
      exact ⟨o, es, ep, Y.1 _ _ ho, r⟩
    cases hfast : x.cps.all (· < 128) with
    | true =>
      simp only [if_true]
      cases hl : known.lookup c with
      | some a =>
        dsimp only
        refine wpAny_bind (wpAny_pure ?_)
        have ha := hk c a hl
        by_cases hc : c ∈ cs
        · rw [if_pos hc] at ha
          subst ha
          exact wpAny_pure ⟨i + 1, h1, _, hci.2, rfl, X, ⟨by dsimp only; omega, hi'⟩, by dsimp only; rw [hp, hsame hc], rfl, hk⟩
        · rw [if_neg hc] at ha
          subst ha
          exact wpAny_pure ⟨i + 1, h1, _, hci.2, rfl, X, ⟨by dsimp only; omega, hi'⟩, by dsimp only; rw [hmore hc, ← hp]; simp, rfl, hk⟩
      | none =>
        dsimp only
        refine wpAny_bind (tl_step (s := s) hh hd (D1 _ X) fun h' tk' Y => ?_)
        by_cases hc : c ∈ cs
        · rw [if_pos hc]
          dsimp only
          refine wpAny_bind (wpAny_pure ?_)
          refine wpAny_pure ⟨i + 1, h', _, hci.2, rfl, X.trans Y, ⟨by dsimp only; omega, hi'⟩, by dsimp only; rw [hp, hsame hc], rfl, fun c' a' hl' => ?_⟩
          dsimp only [List.lookup_cons] at hl'
          split at hl'
          · rename_i heq; cases hl'; rw [beq_iff_eq.mp heq, if_pos hc]
          · exact hk _ _ hl'
        · rw [if_neg hc]
          dsimp only
          refine wpAny_bind (wpAny_pure ?_)
          refine wpAny_pure ⟨i + 1, h', _, hci.2, rfl, X.trans Y, ⟨by dsimp only; omega, hi'⟩, by dsimp only; rw [hmore hc, ← hp]; simp, rfl, fun c' a' hl' => ?_⟩
          dsimp only [List.lookup_cons] at hl'
          split at hl'
          · rename_i heq; cases hl'; rw [beq_iff_eq.mp heq, if_neg hc]
          · exact hk _ _ hl'
    | false =>
      simp only [Bool.false_eq_true, if_false]
      cases after with
      | true =>
        simp only [if_true]
        refine wpAny_bind (tl_step (s := s) hh hd (D1 _ X) fun h' tk' Y => ?_)
        by_cases hc : c ∈ cs
        · rw [if_pos hc]
          exact wpAny_pure ⟨i + 1, h', _, hci.2, rfl, X.trans Y, ⟨by dsimp only; omega, hi'⟩, by dsimp only; rw [hp, hsame hc], rfl, hk⟩
        · rw [if_neg hc]
          dsimp only
          refine wpAny_bind (tl_step (s := s) hh hd (D1 _ (X.trans Y)) fun h'' tk'' Y' => ?_)
          rw [if_neg hc]
          exact wpAny_pure ⟨i + 1, h'', _, hci.2, rfl, (X.trans Y).trans Y', ⟨by dsimp only; omega, hi'⟩, by dsimp only; rw [hmore hc, ← hp]; simp, rfl, hk⟩
      | false =>
        simp only [Bool.false_eq_true, if_false]
        refine wpAny_bind (tl_step (s := s) hh hd (D1 _ X) fun h' tk' Y => ?_)
        by_cases hc : c ∈ cs
        · rw [if_pos hc]
          exact wpAny_pure ⟨i + 1, h', _, hci.2, rfl, X.trans Y, ⟨by dsimp only; omega, hi'⟩, by dsimp only; rw [hp, hsame hc], rfl, hk⟩
        · rw [if_neg hc]
          exact wpAny_pure ⟨i + 1, h', _, hci.2, rfl, X.trans Y, ⟨by dsimp only; omega, hi'⟩, by dsimp only; rw [hmore hc, ← hp]; simp, rfl, hk⟩
  · rintro ⟨pieces, total, fast, known, after⟩ s' ⟨i, h1, tk, hr, rfl, X, ⟨ht, hti⟩, hp, rfl, hk⟩
    dsimp only at ht hp hk ⊢
    have hi : x.cps.toList.length ≤ i := by
      have := congrArg List.length hr
      simp only [List.length_nil, List.length_drop] at this
      omega
    rw [List.take_of_length_le hi] at hp
    have htl : Builtin.Str.tooLong total = false := by
      unfold Builtin.Str.tooLong
      exact decide_eq_false (by show ¬ total > 16777216; omega)
    refine KFB.if_not htl ?_
    have hfold : ∀ (l : List Str) (acc : Array Nat), (l.foldl (fun acc p => acc ++ p.cps) acc).toList = acc.toList ++ l.flatMap (·.cps.toList) := by
      intro l
      induction l with
      | nil => intro acc; simp
      | cons y r ih => intro acc; rw [List.foldl_cons, ih]; simp
    have hv : pieces.reverse.foldl (fun acc p => acc ++ p.cps) #[] = x.cps.filter (fun c => !cs.contains c) := by
      apply Array.ext'
      rw [hfold, hp]
      simp
    rw [hv]
    refine wpAny_bind (wpAny_mkStr (wpAny_pure ⟨_, rfl, h h1 _ _ X⟩) ?_)
    show (x.cps.filter _).size ≤ sizeLine
    have := Array.size_filter_le (p := fun c => !cs.contains c) (xs := x.cps)
    show _ ≤ 16777216
    omega
  · exact ⟨0, _, _, rfl, rfl, HExt.refl _, ⟨Nat.le_refl _, Nat.zero_le _⟩, rfl, rfl, fun c a e => by cases e⟩
end
end Mine
end
section
open PySem PySem.W PyProof.Rows PySem.Calls PySem.Builtin
set_option maxRecDepth 1000000
set_option maxHeartbeats 4000000
namespace Mine
theorem mt_lookup : typeLookup (.type "str") "maketrans" = pure (some (.builtin "str.maketrans")) := by rw [typeLookup_type, builtinLookup_eq_fast]; kernel_rfl
theorem mt_type : typeOf (.builtin "str.maketrans") = pure (.type "builtin_function_or_method") := by show builtinType _ = _; rw [builtinType_eq_fast]; kernel_rfl
theorem bf_noget : typeLookup (.type "builtin_function_or_method") "__get__" = pure none := by rw [typeLookup_type, builtinLookup_eq_fast]; kernel_rfl
section
variable {prog : Program} {w : World} {A : Around} {E : Value → Shared → Prop} {s : Shared}
theorem mt_ga {x : Str} {t u : Tok} {Q : Fin → Shared → Prop} (h : Q (.done (.ret (.builtin "str.maketrans"))) s) : wpAny (model prog w) A (Builtin.«object.__getattribute__» ⟨[.str x t, .str "maketrans" u], []⟩) Q E s := by
  obtain ⟨hp, g, d, tk, os⟩ := s
  have hT : ∀ s' : Shared, s'.TypeIs (.str x t) "str" := fun _ => rfl
  have hT2 : ∀ s' : Shared, s'.TypeIs (.builtin "str.maketrans") "builtin_function_or_method" := fun _ => mt_type
  have f1 := mt_lookup
  have f2 := bf_noget
  have f3 := mt_type
  unfold Builtin.«object.__getattribute__»
  repeat (any_goals (first | assumption | wp_step))
theorem mt_getAttr {x : Str} {t : Tok} {Q : Value → Shared → Prop} (h : Q (.builtin "str.maketrans") { s with toks := s.toks + 1 }) : wpAny (model prog w) A (getAttr (.str x t) "maketrans") Q E s := by
  obtain ⟨hp, g, d, tk, os⟩ := s
  have hT : ∀ s' : Shared, s'.TypeIs (.str x t) "str" := fun _ => rfl
  have f3 := F.slot_str_getattribute.lookup
  have f4 := F.slot_str_getattribute.bind (.str x t)
  have f5 := am_str_getattr_none
  unfold getAttr getAttrBy
  repeat (any_goals (first | assumption | ((with_reducible show wpAny _ _ (call (Value.builtin "object.__getattribute__") _ _) _ _ _); refine wpAny_call_entry F.slot_str_getattribute (hT _) F.entry_object_getattribute (mt_ga ⟨_, rfl, ?_⟩) (F.args_object_getattribute_2 _ _)) | wp_step))
theorem static_getm {v : Value} {T : String} {name : Str} {id : String} {pl : Sem Bool} {Q : Value × List Value → Shared → Prop} (hT : ∀ s' : Shared, s'.TypeIs v T) (pa : PlainAttrs T) (hl : typeLookup (.type T) name = pure (some (.builtin id))) (ht : typeOf (.builtin id) = pure (.type "builtin_function_or_method"))
    (h : wpAny (model prog w) A (getAttr v name) (fun f s' => Q (f, []) s') E s) : wpAny (model prog w) A (getMethod v name pl) Q E s := by
  obtain ⟨g, hg, hcan⟩ := pa.ga
  unfold getMethod
  refine wpAny_bind (wpAny_specialOf (hT _) hg ?_)
  show wpAny _ _ (if (Manifest.canonical g != "object.__getattribute__") = true then _ else _) Q E s
  rw [hcan, if_neg Bool.false_ne_true]
  refine wpAny_bind (wpAny_specialOf (hT _) pa.noGetattr ?_)
  refine wpAny_bind (wpAny_specialOf (hT _) hl ?_)
  refine wpAny_bind (wpAny_of_eq ht ?_)
  show wpAny _ _ (if (Value.type "builtin_function_or_method" != Value.type "function" && Value.type "builtin_function_or_method" != Value.type "method_descriptor" && Value.type "builtin_function_or_method" != Value.type "wrapper_descriptor") = true then _ else _) _ _ _
  rw [if_pos (by decide)]
  exact wpAny_bind (wpAny_mono h (fun _ _ x => wpAny_pure x) fun _ _ x => x)
theorem mt_getm {x : Str} {t : Tok} {pl : Sem Bool} {Q : Value × List Value → Shared → Prop} (h : Q (.builtin "str.maketrans", []) { s with toks := s.toks + 1 }) : wpAny (model prog w) A (getMethod (.str x t) "maketrans" pl) Q E s := by
  have hT : ∀ s' : Shared, s'.TypeIs (.str x t) "str" := fun _ => rfl
  have h1 := @static_getm prog w A E s (.str x t) "str" "maketrans" "str.maketrans" pl Q hT F.plainAttrs_str
  have h2 := h1 mt_lookup
  have h3 := h2 mt_type
  exact h3 (mt_getAttr h)
end
end Mine
end
section
open PySem PySem.W PyProof.Rows PySem.Calls PySem.Builtin
set_option maxRecDepth 1000000
set_option maxHeartbeats 4000000
namespace Mine
section
variable {C : Cx} {A : Around} {N : Led}

def Post {α : Type} (C : Cx) (s : Shared) (Q : α → Led → Prop) (a : α) (s' : Shared) : Prop := ∃ h tk N', s' = { s with heap := h, toks := tk } ∧ Sat C h N' ∧ C.h₀.objs.size ≤ h.objs.size ∧ Q a N'
def CodeW (C : Cx) (A : Around) (c : Code) (N : Led) (Q : Value → Led → Prop) : Prop :=
  ∀ s : Shared, Sat C s.heap N → C.h₀.objs.size ≤ s.heap.objs.size → ∀ R : Result → Shared → Prop, (∀ v s', Post C s Q v s' → R (.ok (.ret v)) s') → codeAny (model C.prog C.w) A c R s
theorem CodeW.call {f : Value} {us : List Value} {kw : List (Str × Value)} {Q : Value → Led → Prop} (h : CodeW C A (.call f ⟨us, kw⟩) N Q) : W C A (call f us kw) N Q := fun s st z =>
  wpAny_call (h s st z _ fun v s' g => g)
theorem CodeW.mono {c : Code} {Q Q' : Value → Led → Prop} (h : CodeW C A c N Q) (k : ∀ v N', Q v N' → Q' v N') : CodeW C A c N Q' := fun s st z R hR =>
  h s st z R fun v s' g => hR v s' (by obtain ⟨h', tk, N', e, a, b, q⟩ := g; exact ⟨h', tk, N', e, a, b, k _ _ q⟩)

theorem code_call {f : Addr} {oc : Value} {od : Option Addr} {osl : Array (Option Value)} {fd : FuncData} {body : List Stmt} {us : List Value} {kw : List (Str × Value)} {m : List (Str × Option V)} {Q : Value → Led → Prop}
    (ho : C.K.lookup f = some ⟨oc, od, .func fd, osl⟩) (hcd : codeIn C.K fd.code fd.qualname = true) (hbody : fd.body = .stmts body) (hroom : A.depth < recursionLimit)
    (hbind : W C A.in1 (bindArgs fd ⟨us, kw⟩) N (fun binds N' => (∀ x ∈ binds, fd.scope.names.lookup x.1 = some .local) ∧ (∀ p ∈ m, Bound binds p) ∧ N' = N))
    (hm : (m.map (·.1)).Nodup)
    (hcell : ∀ x ∈ fd.scope.names, x.2 ≠ .cell) (hco : fd.scope.isCoroutine = false) (hgen : fd.scope.isGenerator = false) (hk : fd.scope.kind = .function)
    (h : ∀ L, W C (A.deeper (callEnv fd L f)) (execs body (callEnv fd L f)) ((L, .ns m) :: N) (fun fl N' => ∃ N'', N''.Sublist N' ∧ Q (retOf fl) N'')) : CodeW C A (.call (.ref f) ⟨us, kw⟩) N Q := fun s st z R hR => by
  refine codeAny_call_function hroom (st.K _ _ ho) rfl hco hgen hbody (codeRec_of st.K hcd) (wpAny_mono (hbind s st z) (fun binds s₁ g => ?_) fun _ _ e => e.elim)
  obtain ⟨h₁, tk₁, N₁, rfl, st₁, z₁, hloc, hmb, rfl⟩ := g
  refine wpAny_newFunctionEnv hcell hloc (fun h₂ hn hs => ?_) hk
  have k : ∀ b o, h₁.get? b = some o → h₂.get? b = some o := fun b o e => hs.extBut b o (Nat.ne_of_lt (Heap.lt_size e)) (Heap.get?_push_of_some _ e)
  have lim : h₂.NoLimit := (C.hlim.keeps st₁.1).fresh _ hs
  refine ⟨lim, codeAny_func ?_⟩
  obtain ⟨o, es, ep, e1, e2, e3, e4⟩ := hn
  have st₂ : Sat C h₂ ((h₁.objs.size, .ns m) :: N₁) := st₁.grow z₁ rfl k e1 ⟨hm, es, ep, e2, e3, fun y v hy => by
    obtain ⟨u, a, b⟩ := (hmb _ hy).of
    exact ⟨u, (e4 y).trans a, b⟩⟩
  have z₂ : C.h₀.objs.size ≤ h₂.objs.size := Nat.le_trans z₁ (Nat.le_of_lt (Heap.lt_size e1))
  refine wpAny_mono ((h h₁.objs.size).at (s := s) (tk := tk₁ + binds.length) st₂ z₂) (fun fl s₂ g => ?_) fun _ _ e => e.elim
  obtain ⟨h₃, tk₃, N₃, rfl, st₃, z₃, N₄, sub, q⟩ := g
  cases fl <;> exact hR _ _ ⟨h₃, tk₃, N₄, rfl, st₃.sub sub, z₃, q⟩

theorem binds_W {fd : FuncData} {us : List Value} {kw : List (Str × Value)} {binds : List (Str × Value)} {m : List (Str × Option V)} (hb : ∀ s : Shared, C.K.In s.heap → BindsTo s fd ⟨us, kw⟩ binds) (hl : ∀ x ∈ binds, fd.scope.names.lookup x.1 = some .local) (hm : ∀ p ∈ m, Bound binds p) :
    W C A (bindArgs fd ⟨us, kw⟩) N (fun binds N' => (∀ x ∈ binds, fd.scope.names.lookup x.1 = some .local) ∧ (∀ p ∈ m, Bound binds p) ∧ N' = N) := fun s st z =>
  hb s st.K _ _ _ _ ⟨s.heap, s.toks, N, rfl, st, z, hl, hm, rfl⟩

abbrev mkCode (Cl : Addr) (us : List Value) (kw : List (Str × Value)) : Code := .builtin "type.__call__" ⟨.ref Cl :: us, kw⟩
theorem Room.make {k : Nat} {Cl : Addr} {us : List Value} {kw : List (Str × Value)} (h : Room A (k + 1)) : Room (A.under (mkCode Cl us kw)) k := ⟨h.1, by have := h.2.1; show A.depth + 1 + k < _; omega, by have := h.2.2; show A.units + (mkCode Cl us kw).cUnits + 16 * k < _; have e : (mkCode Cl us kw).cUnits = 1 := rfl; omega⟩

/-- a class called: its object made, then __init__ -/
theorem w_make {Cl fI : Addr} {us : List Value} {kw : List (Str × Value)} {Q : Value → Led → Prop} (hm : makesIn C.K Cl = true) (hi : findIn C.K (.ref Cl) "__init__" = some (some (.ref fI))) (hf : typeIn C.K (.ref fI) = some (.type "function"))
    (h : ∀ x dx, CodeW C (A.under (mkCode Cl us kw)) (.call (.ref fI) ⟨.ref x :: us, kw⟩) ((x, .inst Cl dx) :: (dx, .dict []) :: N) (fun v N' => v = .none ∧ Q (.ref x) N')) : W C A (call (.ref Cl) us kw) N Q := fun s st z => by
  refine wpAny_call (make_core (makes_of st.K hm) (looks_findIn st.K hi) (fun self => bind_fn st.K self hf) (.inl rfl) ?_)
  have st1 : Sat C (s.heap.push emptyDict) ((s.heap.objs.size, .dict []) :: N) := st.push ⟨List.nodup_nil, Nat.zero_le _, [], 0, rfl, .nil⟩ rfl z
  have z1 : C.h₀.objs.size ≤ (s.heap.push emptyDict).objs.size := by rw [Heap.size_push]; exact Nat.le_succ_of_le z
  have st2 := st1.push (o := instObj Cl s.heap.objs.size) (ao := .inst Cl s.heap.objs.size) rfl rfl z1
  rw [Heap.size_push] at st2
  refine h (s.heap.objs.size + 1) s.heap.objs.size ⟨(s.heap.push emptyDict).push (instObj Cl s.heap.objs.size), s.gens, s.drawn, s.toks, s.os⟩ st2 (by show _ ≤ ((s.heap.push emptyDict).push _).objs.size; rw [Heap.size_push]; exact Nat.le_succ_of_le z1) _ fun v s' g => ?_
  obtain ⟨h', tk, N', rfl, a, b, rfl, q⟩ := g
  exact ⟨rfl, h', tk, N', rfl, a, b, q⟩

/-- object.__new__ by name, of a class of the program's whose base makes by it -/
structure NewFacts (K : Frag) (M : Model) (Cl : Addr) : Prop where
  obj : ∃ oc od cd sl, K.lookup Cl = some ⟨oc, od, .cls cd, sl⟩ ∧ cd.abstract = false ∧ cd.hasDel = false ∧ cd.mro.isEmpty = false
  base : ∀ h, K.In h → Looks M h (Bind.staticBase (.ref Cl)) (.type "object")
  made : ∀ h, K.In h → Looks M h (Bind.madeBy (.type "object")) (some "object.__new__")
  self : subIn K (.ref Cl) (.ref Cl) = some true
  top : subIn K (.ref Cl) (.type "object") = some true
  call : specialIn K (.ref Cl) "__call__" = some (some (.builtin "type.__call__"))
  typ : instIn K (.ref Cl) (.type "type") = some true
theorem code_new {Cl : Addr} {Q : Value → Led → Prop} (Y : NewFacts C.K (model C.prog C.w) Cl) (q : ∀ x dx, Q (.ref x) ((x, .inst Cl dx) :: (dx, .dict []) :: N)) : CodeW C A (.call (.builtin "object.__new__") ⟨[.ref Cl], []⟩) N Q := fun s st z R hR => by
  obtain ⟨hh, g, d, t, os⟩ := s
  dsimp only at st z
  obtain ⟨⟨oc, od, cd, sl, hC, e1, e2, e4⟩, base, made, self, top, call, typ⟩ := Y
  have hC := st.K _ _ hC
  have base := base _ st.K
  have made := made _ st.K
  have here : Looks (model C.prog C.w) hh (Bind.madeHere "object.__new__" (.ref Cl)) () := base.andThen (made.andThen (Looks.of_pure (by simp only [Option.map_some, bne_self_eq_false, Bool.false_eq_true, if_false])))
  have self := looks_subIn (M := model C.prog C.w) st.K self
  have top := looks_subIn (M := model C.prog C.w) st.K top
  have typ := looks_instIn (M := model C.prog C.w) st.K typ
  have F := PySem.F.objNew
  refine codeAny_call_builtin_code (Code.quiet_builtin _ F.quiet) ?_
  simp only [checkBuiltinCall, F.kind, F.split, F.row]
  have args : Bind.checkArgs "object.__new__" ⟨.hand, "object.__new__", "__new__", .cls, []⟩ ⟨[.ref Cl], []⟩ = pure () := by kernel_rfl
  rw [args]
  repeat (first | simp only [bne_self_eq_false, Bool.false_eq_true, if_false] | lk)
  refine codeAny_builtin F.entry ?_
  unfold Builtin.«object.__new__»
  have hq : R (.ok (.ret (.ref (hh.objs.size + 1)))) ⟨(hh.push emptyDict).push (instObj Cl hh.objs.size), g, d, t, os⟩ := by
    have st1 : Sat C (hh.push emptyDict) ((hh.objs.size, .dict []) :: N) := st.push ⟨List.nodup_nil, Nat.zero_le _, [], 0, rfl, .nil⟩ rfl z
    have z1 : C.h₀.objs.size ≤ (hh.push emptyDict).objs.size := by rw [Heap.size_push]; exact Nat.le_succ_of_le z
    have st2 := st1.push (o := instObj Cl hh.objs.size) (ao := .inst Cl hh.objs.size) rfl rfl z1
    rw [Heap.size_push] at st2
    exact hR _ _ ⟨_, _, _, rfl, st2, by rw [Heap.size_push]; exact Nat.le_succ_of_le z1, q _ _⟩
  have fin : ∀ A', wpAny (model C.prog C.w) A' (do
      let d ← if typeHasDict (.ref Cl) then some <$> alloc { cls := .type "dict", data := .dict #[] } else pure none
      ret (← newObj (.ref Cl) .plain d)) (fun fin s' => match fin with | .done f => R (.ok f) s' | .again c' => c'.quiet = true ∧ codeAny (model C.prog C.w) A c' R s') (fun e s' => R (.error e) s') ⟨hh, g, d, t, os⟩ := by
    intro A'
    show wpAny _ _ ((alloc emptyDict >>= fun x => pure (some x)) >>= _) _ _ _
    refine wpAny_bind (wpAny_bind (wpAny_alloc (wpAny_pure (wpAny_bind ?_))))
    show wpAny _ _ (newObjAsIs _ _ _) _ _ _
    unfold newObjAsIs classHasDel
    refine wpAny_bind (wpAny_alloc (wpAny_bind (wpAny_bind (wpAny_load (Heap.get?_push_of_some _ (Heap.get?_push_of_some _ hC)) (wpAny_pure ?_)))))
    rw [e2]
    refine wpAny_pure (wpAny_pure ?_)
    show R _ _
    rw [Heap.size_push]
    exact hq
  repeat (first | simp only [e1, Bool.false_eq_true, if_false, bne_self_eq_false] | exact fin _ | lk)

/-- a class with a __new__ of its own -/
structure OwnFacts (K : Frag) (M : Model) (Cl p fN fI : Addr) : Prop where
  obj : ∃ oc od cd sl, K.lookup Cl = some ⟨oc, od, .cls cd, sl⟩ ∧ cd.abstract = false ∧ cd.hasDel = false ∧ cd.mro.isEmpty = false
  made : ∀ h, K.In h → Looks M h (Bind.madeBy (.ref Cl)) none
  self : subIn K (.ref Cl) (.ref Cl) = some true
  call : specialIn K (.ref Cl) "__call__" = some (some (.builtin "type.__call__"))
  typ : instIn K (.ref Cl) (.type "type") = some true
  reads : readsIn K Cl (.type "type") = true
  found : findCls K (.ref Cl) (.type "type") "__new__" = some (.get (.builtin "staticmethod.__get__") (.ref p) .none (.ref Cl))
  stat : recIn K p "staticmethod" = some [.ref fN]
  init : findIn K (.ref Cl) "__init__" = some (some (.ref fI))
  fn : typeIn K (.ref fI) = some (.type "function")
theorem w_makeOwn {Cl p fN fI : Addr} {us : List Value} {Q : Value → Led → Prop} (Y : OwnFacts C.K (model C.prog C.w) Cl p fN fI)
    (h : CodeW C (A.under (mkCode Cl us [])) (.call (.ref fN) ⟨.ref Cl :: us, []⟩) N (fun v N' => ∃ x dx, v = .ref x ∧ (x, .inst Cl dx) ∈ N' ∧ CodeW C (A.under (mkCode Cl us [])) (.call (.ref fI) ⟨.ref x :: us, []⟩) N' (fun v N' => v = .none ∧ Q (.ref x) N'))) : W C A (call (.ref Cl) us) N Q := fun s st z => by
  obtain ⟨hh, g, d, t, os⟩ := s
  dsimp only at st z
  obtain ⟨⟨oc, od, cd, sl, hC, e1, e2, e4⟩, made, self, call, typ, reads, found, stat, init, fn⟩ := id Y
  have hC := st.K _ _ hC
  have made := made _ st.K
  have self := looks_subIn (M := model C.prog C.w) st.K self
  have call := looks_specialIn (M := model C.prog C.w) st.K call
  have typ := looks_instIn (M := model C.prog C.w) st.K typ
  refine wpAny_call (codeAny_of_tree ?_)
  show wpAny _ _ (callAny (.ref Cl) _) _ _ _
  refine nd_load hC ?_
  show wpAny _ _ (callAny.viaDunder (.ref Cl) _) _ _ _
  unfold callAny.viaDunder
  refine wpAny_bind (call.at ?_)
  dsimp only
  rw [tc_bind]
  refine wpAny_bind (wpAny_pure (wpAny_bind (wpAny_pure ?_)))
  refine wpAny_pure (a := Fin.again (.call (.builtin "type.__call__") ⟨.ref Cl :: us, []⟩)) (And.intro rfl ?_)
  refine codeAny_call_builtin_at (Code.quiet_builtin _ (by decide +kernel)) entry_typeCall (check_slot tc_kind tc_split typ (tc_args _ _ _) ?_)
  unfold Builtin.«type.__call__»
  have hm : Looks (model C.prog C.w) hh (mroOf (.ref Cl)) cd.mro := ((Looks.ld (part := none) hC).andThen .now).andThen .now
  repeat (first | simp only [e4, Bool.false_eq_true, if_false] | ((fail_if_success (with_reducible show wpAny _ _ (getAttr _ _ _) _ _ _)); lk))
  refine cls_bind (s := ⟨hh, g, d, t, os⟩) st.K reads found (wpAny_call (sm_get (s := { heap := hh, gens := g, drawn := d, toks := t + 1, os := os }) st.K stat (handed_on rfl ?_)))
  refine wpAny_bind (wpAny_holding ?_)
  refine wpAny_call (h { heap := hh, gens := g, drawn := d, toks := t + 1, os := os } st z _ fun v s' g => ?_)
  obtain ⟨h', tk, N', rfl, st', z', x, dx, rfl, hx, hI⟩ := g
  obtain ⟨ox, ho, rfl⟩ := st'.at hx
  have t1 : Looks (model C.prog C.w) h' (typeOf (.ref x)) (.ref Cl) := (Looks.ld ho).andThen .now
  have s1 := looks_subIn (M := model C.prog C.w) st'.K Y.self
  have i1 := looks_findIn (M := model C.prog C.w) st'.K init
  have b1 := bind_fn (M := model C.prog C.w) st'.K (.ref x) fn
  unfold isInstance callSpecial? specialOf
  repeat (first | ((fail_if_success (with_reducible show wpAny _ _ (PySem.call _ _ _) _ _ _)); lk))
  refine wpAny_call (hI _ st' z' _ fun v s' g => ?_)
  obtain ⟨h'', tk', N'', rfl, st'', z'', rfl, q⟩ := g
  exact wpAny_pure (wpAny_pure ⟨h'', tk', N'', rfl, st'', z'', q⟩)
end
end Mine
end
section
open PySem PySem.W PyProof.Rows PySem.Calls PySem.Builtin
set_option maxHeartbeats 4000000
set_option maxRecDepth 1000000
namespace Mine

section
variable {C : Cx} {A : Around} {N N' : Led} {env : Env}

theorem Sat.ext {h h' : Heap} (st : Sat C h N) (X : HExt h h') : Sat C h' N :=
  ⟨fun b o e => X.1 b o (st.1 b o e), fun p hp => by obtain ⟨a, o, e, r⟩ := st.2.1 p hp; exact ⟨a, o, X.1 _ _ e, r⟩, st.2.2⟩
theorem Sat.extNew {h h' : Heap} {a : Addr} {o : Obj} {ao : AO} (st : Sat C h N) (X : HExt h h') (z : C.h₀.objs.size ≤ h.objs.size) (ha : h.objs.size ≤ a) (ho : h'.get? a = some o) (r : OR o ao) : Sat C h' ((a, ao) :: N) ∧ C.h₀.objs.size ≤ h'.objs.size := by
  have st' := st.ext X
  refine ⟨⟨st'.1, fun p hp => ?_, List.nodup_cons.mpr ⟨fun hm => ?_, st.2.2⟩⟩, Nat.le_of_lt (Nat.lt_of_le_of_lt (Nat.le_trans z ha) (Heap.lt_size ho))⟩
  · rcases List.mem_cons.mp hp with rfl | hp
    · exact ⟨Nat.le_trans z ha, o, ho, r⟩
    · exact st'.2.1 p hp
  · obtain ⟨p, hp, e⟩ := List.mem_map.mp hm
    obtain ⟨_, o', e', _⟩ := st.2.1 p hp
    have := Heap.lt_size e'
    rw [e] at this
    exact absurd this (Nat.not_lt.mpr ha)
theorem Sat.extSize {h h' : Heap} {L : Addr} {m : List (Str × Option V)} (st : Sat C h N) (X : HExt h h') (hL : (L, .ns m) ∈ N) : C.h₀.objs.size ≤ h'.objs.size := by
  obtain ⟨o, e, _⟩ := (st.ext X).at hL
  exact Nat.le_of_lt (Nat.lt_of_le_of_lt (st.hi hL) (Heap.lt_size e))
theorem Sat.notMods {h : Heap} {a : Addr} {ao : AO} (st : Sat C h N) (hm : (a, ao) ∈ N) : (a == sysModules) = false := by
  have := st.hi hm
  have := modules_low C.hlim
  exact beq_eq_false_iff_ne.mpr (Nat.ne_of_gt (Nat.lt_of_lt_of_le (modules_low C.hlim) (st.hi hm)))
theorem Sat.getEq {h : Heap} {a : Addr} {o : Obj} (st : Sat C h N) (hm : (a, .obj o) ∈ N) : h.get? a = some o := by
  obtain ⟨o', e, r⟩ := st.at hm
  have r' : o' = o := r
  rw [← r']; exact e
theorem Sat.prop {h : Heap} {a : Addr} {P : Obj → Prop} (st : Sat C h N) (hm : (a, .prop P) ∈ N) : ∃ o, h.get? a = some o ∧ P o := st.at hm

/-! deques -/
theorem w_deque {Q : Value → Led → Prop} (q : ∀ a, Q (.ref a) ((a, .deq []) :: N)) : W C A (call (.type "collections.deque") []) N Q := fun s st z =>
  call_deque fun h' k l ho => by
    obtain ⟨st', z'⟩ := st.extNew ⟨k, trivial⟩ z (Nat.le_refl _) ho (ao := .deq []) ⟨[], 0, 0, rfl, rfl⟩
    exact ⟨h', s.toks, _, rfl, st', z', q _⟩
theorem tr_deq {a : Addr} {vs : List V} (hm : (a, .deq vs) ∈ N) (hz : vs.length ≤ 1000) : Tr C A N (.ref a) (!vs.isEmpty) := ⟨fun t Q q s st z => by
  obtain ⟨o, e, us, k, tk, rfl, hv⟩ := st.at hm
  have hl : us.length = vs.length := by rw [← hv]; simp
  have he : us.isEmpty = vs.isEmpty := by rw [← hv]; cases us <;> rfl
  exact dq_truthy e (by rw [hl]; omega) (by rw [he]; exact ⟨s.heap, _, N, rfl, st, z, q⟩)⟩
theorem w_getm_append {a : Addr} {vs : List V} {pl : Sem Bool} {Q : Value × List Value → Led → Prop} (hm : (a, .deq vs) ∈ N) (q : Q (.builtin "collections.deque.append", [.ref a]) N) : W C A (getMethod (.ref a) "append" pl) N Q := fun s st z => by
  obtain ⟨o, e, us, k, tk, rfl, hv⟩ := st.at hm
  exact getMethod_builtin (deqObj_typeIs e) dq_plain dq_slot_append dq_type_append (fun a' h => by cases h; exact ⟨_, e, rfl⟩) ⟨s.heap, s.toks, N, rfl, st, z, q⟩
theorem w_getm_pop {a : Addr} {vs : List V} {pl : Sem Bool} {Q : Value × List Value → Led → Prop} (hm : (a, .deq vs) ∈ N) (q : Q (.builtin "collections.deque.pop", [.ref a]) N) : W C A (getMethod (.ref a) "pop" pl) N Q := fun s st z => by
  obtain ⟨o, e, us, k, tk, rfl, hv⟩ := st.at hm
  exact getMethod_builtin (deqObj_typeIs e) dq_plain dq_slot_pop dq_type_pop (fun a' h => by cases h; exact ⟨_, e, rfl⟩) ⟨s.heap, s.toks, N, rfl, st, z, q⟩
theorem w_appendD {a : Addr} {vs : List V} {u : Value} {v : V} {Q : Value → Led → Prop} (U : Upd a (.deq vs) (.deq (vs ++ [v])) N N') (hu : ab u = v) (hz : vs.length ≤ 1000) (q : Q .none N') : W C A (call (.builtin "collections.deque.append") [.ref a, u]) N Q := fun s st z => by
  obtain ⟨o, e, us, k, tk, rfl, hv⟩ := st.at U.mem
  have hl : us.length = vs.length := by rw [← hv]; simp
  exact dq_append_body e (by rw [hl]; show vs.length < 16777216; omega) fun h' hs ho => ⟨h', s.toks, N', rfl, st.upd U hs ho ⟨_, _, _, rfl, by rw [List.map_append, hv]; simp [hu]⟩, by rw [hs.1]; exact z, q⟩
theorem w_popD {a : Addr} {vs : List V} {v : V} {Q : Value → Led → Prop} (U : Upd a (.deq (vs ++ [v])) (.deq vs) N N') (hz : vs.length ≤ 1000) (q : ∀ t, Q (raw v t) N') : W C A (call (.builtin "collections.deque.pop") [.ref a]) N Q := fun s st z => by
  obtain ⟨o, e, us, k, tk, rfl, hv⟩ := st.at U.mem
  have hne : us ≠ [] := by rintro rfl; simp at hv
  obtain ⟨us', u, rfl⟩ : ∃ us' u, us = us' ++ [u] := ⟨us.dropLast, us.getLast hne, (List.dropLast_concat_getLast hne).symm⟩
  rw [List.map_append] at hv
  obtain ⟨h1, h2⟩ := List.append_inj' hv rfl
  have hu : ab u = v := by simpa using h2
  have hl : us'.length = vs.length := by rw [← h1]; simp
  obtain ⟨t, rfl⟩ := raw_of hu
  exact dq_pop_body e (by rw [hl]; show vs.length ≤ 16777216; omega) fun h' hs ho => ⟨h', s.toks, N', rfl, st.upd U hs ho ⟨_, _, _, rfl, h1⟩, by rw [hs.1]; exact z, q t⟩

/-! dict.fromkeys, str.maketrans, str.translate -/
abbrev isKeys (C : Cx) (cs : List Nat) : Obj → Prop := fun o => o.IsDictOf (PySem.strKind C.prog C.w) (fkPairs cs)
abbrev isTab (C : Cx) (cs : List Nat) : Obj → Prop := fun o => o.IsDictOf (PySem.intKind C.prog C.w) (mtPairs cs)

theorem w_callWithP {P : Heap → Prop} {f : Value} {first : List Value} {es : List Expr} {vs : List V} {pos : Pos} {Q : Value → Led → Prop} (hP : ∀ h, Sat C h N → P h) (hk : ∀ h, P h → ∃ k, (k = Keeper.frame ∨ k = Keeper.machine ∨ k = Keeper.boundFrame) ∧ Looks (model C.prog C.w) h (keeperOf f) k) (h : Evs C A env N es vs) (q : ∀ us, RawL us vs → W C A (call f (first ++ us)) N Q) :
    W C A (callWith pos f first (backTo pos (starEach es env)) []) N Q := fun s st z => by
  have sp := evs_plain (pos := pos) h
  refine callWith_of (P := P) (by rw [sp]; rfl) hk ?_
  have w := w_spliced (pos := pos) (Q := fun us N' => N' = N ∧ RawL us vs) h (fun us hu => ⟨rfl, hu⟩) s st z
  have fin : ∀ us s₁, (∃ h tk N', s₁ = { s with heap := h, toks := tk } ∧ Sat C h N' ∧ C.h₀.objs.size ≤ h.objs.size ∧ N' = N ∧ RawL us vs) → P s₁.heap ∧ wpAny (model C.prog C.w) A (call f (first ++ us)) (fun a s' => ∃ h tk N', s' = { s with heap := h, toks := tk } ∧ Sat C h N' ∧ C.h₀.objs.size ≤ h.objs.size ∧ Q a N') (fun _ _ => False) s₁ := by
    rintro us s₁ ⟨h₁, tk₁, N₁, rfl, st₁, z₁, rfl, hu⟩
    exact ⟨hP _ st₁, (q us hu).at st₁ z₁⟩
  cases h with
  | nil => exact evalArgs_nil3 (fin [] s ⟨s.heap, s.toks, N, rfl, st, z, rfl, .nil⟩)
  | cons h r he =>
    rw [he] at w ⊢
    exact evalArgs_plain (wpAny_mono w (fun us s₁ g => fin us s₁ g) fun _ _ e => e)

theorem looks_fkBound {h : Heap} {b : Addr} (ho : h.get? b = some fkBound) : Looks (model C.prog C.w) h (keeperOf (.ref b)) Keeper.machine := by
  intro A Q E s k q
  unfold keeperOf
  refine wpAny_bind (wpAny_load (k _ _ ho) ?_)
  simp only [fkBound, show (Value.type "builtin_function_or_method" != Value.type "method") = true by decide, show (Value.type "builtin_function_or_method" == Value.type "builtin_function_or_method" || Value.type "builtin_function_or_method" == Value.type "method-wrapper") = true by decide, if_true]
  exact wpAny_pure q
theorem w_fromkeys {o e : Expr} {apos pos : Pos} {pl : Sem Bool} {x : Str} {Q : Value → Led → Prop} (ho : Ev C A env N o (.oth (.type "dict"))) (he : Ev C A env N e (.str x)) (hh : A.handled = none) (ha : x.cps.all (· < 128) = true) (hsz : x.cps.size ≤ 1000) (hnd : x.cps.toList.Nodup)
    (q : ∀ d, Q (.ref d) ((d, .prop (isKeys C x.cps.toList)) :: N))
    (hs : eval (.Call (.Attribute o "fromkeys" apos) [e] [] pos) env = (do
      let ov ← eval o env
      standAt apos.atName
      let (f, first) ← PySem.holding [ov] (getMethod ov "fromkeys" pl)
      callWith pos f first (backTo pos (starEach [e] env)) (backToKw pos (keywordEach [] env))) := by rfl)
    (hst : ∀ rest, starEach (e :: rest) env = (false, eval e env) :: starEach rest env := by intro _; rfl) (hE : ∀ b, Ev C A env ((b, .obj fkBound) :: N) e (.str x)) : W C A (eval (.Call (.Attribute o "fromkeys" apos) [e] [] pos) env) N Q := by
  rw [hs]
  refine W.bind (ho.go _ fun t => W.bind (W.standAt (W.bind (W.holding fun s st z => ?_))))
  refine fk_getm ?_
  have st1 : Sat C (s.heap.push fkBound) ((s.heap.objs.size, .obj fkBound) :: N) := st.push rfl rfl z
  refine ⟨_, _, _, rfl, st1, by rw [Heap.size_push]; exact Nat.le_succ_of_le z, ?_⟩
  refine w_callWithP (P := fun h => h.get? s.heap.objs.size = some fkBound) (fun h st => st.getEq (.head _)) (fun h ho => ⟨_, .inr (.inl rfl), looks_fkBound ho⟩) (.cons (hE _) .nil hst) fun us hu => ?_
  cases hu with
  | cons hu =>
    cases hu
    intro s' st' z'
    refine fk_call hh (st'.getEq (.head _)) ha (by show x.cps.size ≤ 16777216; omega) hnd fun h' tk X D => ?_
    obtain ⟨o, ho, r⟩ := Heap.dictOf_iff.mp D
    obtain ⟨a, b⟩ := st'.tail.extNew X z' (Nat.le_refl _) ho (ao := .prop (isKeys C x.cps.toList)) r
    exact ⟨h', tk, _, rfl, a, b, q _⟩

theorem w_maketrans {d : Addr} {cs : List Nat} {Q : Value → Led → Prop} (hm : (d, .prop (isKeys C cs)) ∈ N) (hsz : cs.length ≤ 1000) (hnd : cs.Nodup) (q : ∀ t, Q (.ref t) ((t, .prop (isTab C cs)) :: N)) : W C A (call (.builtin "str.maketrans") [.ref d]) N Q := fun s st z => by
  obtain ⟨o, ho, r⟩ := st.prop hm
  refine mt_call (st.notMods hm) (Heap.dictOf_iff.mpr ⟨o, ho, r⟩) (by show cs.length ≤ 16777216; omega) hnd fun h' tk X D => ?_
  obtain ⟨o', ho', r'⟩ := Heap.dictOf_iff.mp D
  obtain ⟨a, b⟩ := st.extNew X z (Nat.le_refl _) ho' (ao := .prop (isTab C cs)) r'
  exact ⟨h', tk, _, rfl, a, b, q _⟩
theorem w_translate {d L : Addr} {m : List (Str × Option V)} {cs : List Nat} {x : Str} {t : Tok} {Q : Value → Led → Prop} (hL : (L, .ns m) ∈ N) (hm : (d, .prop (isTab C cs)) ∈ N) (hh : A.handled = none) (hsz : x.cps.size ≤ 1000) (hne : x.length ≠ 0)
    (q : ∀ t, Q (.str ⟨x.cps.filter (fun c => !cs.contains c)⟩ t) N) : W C A (call (.builtin "str.translate") [.str x t, .ref d]) N Q := fun s st z => by
  obtain ⟨o, ho, r⟩ := st.prop hm
  exact tr_call hh (st.notMods hm) (Heap.dictOf_iff.mpr ⟨o, ho, r⟩) hsz hne fun h' tk t' X => ⟨h', tk, N, rfl, st.ext X, st.extSize X hL, q t'⟩
theorem w_getm_maketrans {x : Str} {t : Tok} {pl : Sem Bool} {Q : Value × List Value → Led → Prop} (q : Q (.builtin "str.maketrans", []) N) : W C A (getMethod (.str x t) "maketrans" pl) N Q := fun s st z => mt_getm ⟨s.heap, s.toks + 1, N, rfl, st, z, q⟩
theorem w_getm_translate {x : Str} {t : Tok} {pl : Sem Bool} {Q : Value × List Value → Led → Prop} (q : Q (.builtin "str.translate", [.str x t]) N) : W C A (getMethod (.str x t) "translate" pl) N Q := fun s st z => by
  refine getMethod_builtin (T := "str") (id := "str.translate") ?_ ?_ ?_ ?_ ?_ ?_
  · exact typeIs_str s x t
  · exact F.plainAttrs_str
  · exact F.slot_str_translate
  · exact F.type_str_translate
  · exact fun _ e => nomatch e
  · exact ⟨s.heap, s.toks, N, rfl, st, z, q⟩

theorem co_isi_str {x : Str} : Co C A N (.builtin "isinstance") [.str x, .oth (.type "str")] (.bool true) := .of2 fun t t₂ s R _ h => IsiPair.str_str (h 0 s.toks)
theorem co_isi_bytes {x : Array UInt8} : Co C A N (.builtin "isinstance") [.bytes x, .oth (.type "bytes")] (.bool true) := .of2 fun t t₂ s R _ h => call_isinstance (isinstance_true (Tx := "bytes") F.isi_meta_bytes F.sub_bytes_bytes) ⟨rfl, h 0 s.toks⟩

/-! keywords -/
theorem w_callKw2 {fe e e1 e2 : Expr} {n1 n2 : Str} {p1 p2 pos : Pos} {f : Value} {v v1 v2 : V} {Q : Value → Led → Prop} (hf : ∀ Q : Value → Led → Prop, Q f N → W C A (eval fe env) N Q) (hk : keeps C.K f = true) (h : Ev C A env N e v) (h1 : Ev C A env N e1 v1) (h2 : Ev C A env N e2 v2)
    (q : ∀ t t1 t2, W C A (call f [raw v t] [(n1, raw v1 t1), (n2, raw v2 t2)]) N Q)
    (he : eval (.Call fe [e] [⟨some n1, e1, p1⟩, ⟨some n2, e2, p2⟩] pos) env = (do callWith pos (← eval fe env) [] (backTo pos (starEach [e] env)) (backToKw pos (keywordEach [⟨some n1, e1, p1⟩, ⟨some n2, e2, p2⟩] env))) := by rfl)
    (hst : ∀ rest, starEach (e :: rest) env = (false, eval e env) :: starEach rest env := by intro _; rfl) : W C A (eval (.Call fe [e] [⟨some n1, e1, p1⟩, ⟨some n2, e2, p2⟩] pos) env) N Q := by
  rw [he]
  refine W.bind (hf _ fun s st z => ?_)
  refine callWith_of (P := C.K.In) (by rw [hst]; rfl) (keeps_look hk) ?_
  rw [hst]
  refine evalArgs_kw rfl ?_
  refine spliced_cons (wpAny_mono (h.go (fun u N' => N' = N ∧ ∃ t, u = raw v t) (fun t => ⟨rfl, t, rfl⟩) s st z) (fun u s₁ g => ?_) fun _ _ e => e)
  obtain ⟨h₁, tk₁, N₁, rfl, st₁, z₁, rfl, t, rfl⟩ := g
  refine spliced_nil ?_
  show wpAny _ _ (do let v ← (do let v ← eval e1 env; standAt pos; pure v); return v :: (← holding [v] (do let v ← (do let v ← eval e2 env; standAt pos; pure v); return v :: (← holding [v] (pure []))))) _ _ _
  refine wpAny_bind (wpAny_bind (wpAny_mono ((h1.go (fun u N' => N' = N₁ ∧ ∃ t, u = raw v1 t) (fun t => ⟨rfl, t, rfl⟩)).at (s := s) (tk := tk₁) st₁ z₁) (fun u s₁ g => ?_) fun _ _ e => e))
  obtain ⟨h₂, tk₂, N₂, rfl, st₂, z₂, rfl, t1, rfl⟩ := g
  refine wpAny_bind (wpAny_standAt (wpAny_pure (wpAny_bind (wpAny_holding ?_))))
  refine wpAny_bind (wpAny_bind (wpAny_mono ((h2.go (fun u N' => N' = N₂ ∧ ∃ t, u = raw v2 t) (fun t => ⟨rfl, t, rfl⟩)).at (s := s) (tk := tk₂) st₂ z₂) (fun u s₁ g => ?_) fun _ _ e => e))
  obtain ⟨h₃, tk₃, N₃, rfl, st₃, z₃, rfl, t2, rfl⟩ := g
  refine wpAny_bind (wpAny_standAt (wpAny_pure (wpAny_bind (wpAny_holding (wpAny_pure (wpAny_pure (wpAny_pure ?_)))))))
  exact ⟨st₃.K, (q t t1 t2).at st₃ z₃⟩

/-! a property -/
def propOk (K : Frag) (Cl p fget : Addr) (name : Str) : Bool := plainGet K Cl name && hasDictIn K Cl && findIn K (.ref Cl) name == some (some (.ref p)) && specialIn K (.ref p) "__get__" == some (some (.builtin "property.__get__")) && takesIn K (.ref p) == some true &&
  (match recIn K p "property" with | some (.ref f :: _) => f == fget | _ => false)
theorem w_getProp {x Cl d p fget : Addr} {m : List (Str × V)} {name : Str} {expr : Bool} {v : V} {Q : Value → Led → Prop} (h1 : (x, .inst Cl d) ∈ N) (h2 : (d, .dict m) ∈ N) (hK : propOk C.K Cl p fget name = true) (hp : plainV v = true)
    (h : CodeW C A.in1 (.call (.ref fget) ⟨[.ref x], []⟩) N (fun u N' => ab u = v ∧ ∀ t, Q (raw v t) N')) : W C A (getAttr (.ref x) name expr) N Q := fun s st z => by
  obtain ⟨nd, hl, es, n, I, he⟩ := st.inst h1 h2
  simp only [propOk, Bool.and_eq_true, beq_iff_eq] at hK
  obtain ⟨⟨⟨⟨⟨k1, k2⟩, k3⟩, k4⟩, k5⟩, k6⟩ := hK
  split at k6
  · rename_i f rest e6
    have : f = fget := beq_iff_eq.mp k6
    subst this
    refine get_bind st.K I (plainGet_of k1).1 (findObj_data (by obtain ⟨cd, hc, _⟩ := any_some k2; rw [hc]; rfl) k3 k4 k5) (plainGet_of k1).2 (wpAny_call (prop_get (s := { s with toks := s.toks + 1 }) st.K e6 ?_))
    refine h { s with toks := s.toks + 1 } st z _ fun u s' g => ?_
    obtain ⟨h', tk, N', rfl, a, b, hu, q⟩ := g
    obtain ⟨t, rfl⟩ := raw_of hu
    show wpAny _ _ (handedOut _) _ _ _
    exact handed_on (handed_raw hp t) ⟨h', tk, N', rfl, a, b, q t⟩
  · cases k6
theorem ev_prop {value : Expr} {attr : Str} {pos : Pos} {r Cl d p fget : Addr} {m : List (Str × V)} {v : V} (hv : Ev C A env N value (.ref r)) (h1 : (r, .inst Cl d) ∈ N) (h2 : (d, .dict m) ∈ N) (hK : propOk C.K Cl p fget attr = true) (hp : plainV v = true)
    (h : CodeW C A.in1 (.call (.ref fget) ⟨[.ref r], []⟩) N (fun u N' => ab u = v ∧ N' = N))
    (hs : eval (.Attribute value attr pos) env = (do let o ← eval value env; standAt pos.atName; let r ← PySem.holding [o] (getAttr o attr true); letTemporaryGo value o r; pure r) := by rfl) (hgo : ∀ o r, letTemporaryGo value o r = pure () := by intro _ _; rfl) :
    Ev C A env N (.Attribute value attr pos) v := ⟨fun Q q => by
  rw [hs]
  exact W.bind (hv.go _ fun t => W.bind (W.standAt (W.bind (W.holding (w_getProp h1 h2 hK hp (h.mono fun u N' g => ⟨g.1, fun t' => W.bind (by rw [hgo]; exact W.pure (W.pure (by rw [g.2]; exact q t')))⟩))))))⟩
end
end Mine
end
section
open PySem PySem.W PyProof.Rows PySem.Calls PySem.Builtin
set_option maxHeartbeats 4000000
set_option maxRecDepth 1000000
namespace Mine
section
variable {C : Cx} {A : Around} {N N' : Led} {env : Env}

abbrev Cx.S (C : Cx) : Setting := ⟨C.prog, C.w.params⟩
theorem W.ofPeek {α : Type} {t : Sem α} {r : α} {Q : α → Led → Prop} (e : peek C.K C.S t = some r) (q : Q r N) : W C A t N Q := fun s st z =>
  (Looks.of_peek (M := model C.prog C.w) st.K e).here ⟨s.heap, s.toks, N, rfl, st, z, q⟩
theorem W.ofPeekA {α : Type} {o : Obj} {Q : α → Led → Prop} : ∀ (t : Sem α) (g : Addr → Sem α), peekA C.K C.S t = some (o, g) → (∀ a, W C A (g a) N Q) → W C A t N Q := by
  intro t
  induction t with
  | rule _ k ih => intro g e q s st z Γ p hΓ; exact ih () g e q s st z Γ p hΓ
  | point _ k ih => intro g e q s st z Γ p hΓ; exact ih () g e q s st z Γ p hΓ
  | ask k ih => intro g e q s st z Γ p hΓ; exact ih _ g e q s st z Γ p hΓ
  | load a _ k ih =>
    intro g e q s st z Γ p hΓ
    simp only [peekA] at e
    split at e
    · rename_i ob ho; exact ⟨ob, st.K _ _ ho, ih ob g e q s st z Γ p hΓ⟩
    · cases e
  | alloc ob k _ =>
    intro g e q
    have e : some (ob, k) = some (o, g) := e
    obtain ⟨e1, e2⟩ := Prod.mk.inj (Option.some.inj e)
    subst e1
    subst e2
    intro s st z
    show wpAny _ _ (alloc ob >>= k) _ _ _
    exact wpAny_bind (wpAny_alloc (q _ { s with heap := s.heap.push ob } (st.ext (HExt.push _ _)) (by show _ ≤ (s.heap.push ob).objs.size; rw [Heap.size_push]; exact Nat.le_succ_of_le z)))
  | _ => intro g e; cases e
def peek2 {α : Type} (K : Frag) (S : Setting) (t : Sem α) (a b : Addr) : Option α := match peekA K S t with
  | some (_, g) => match peekA K S (g a) with
    | some (_, g') => peek K S (g' b)
    | none => none
  | none => none
theorem W.ofPeek2 {α : Type} {t : Sem α} {r : Addr → Addr → α} {Q : α → Led → Prop} (e : ∀ a b, peek2 C.K C.S t a b = some (r a b)) (q : ∀ a b, Q (r a b) N) : W C A t N Q := by
  cases h1 : peekA C.K C.S t with
  | none => have := e 0 0; simp only [peek2, h1] at this; cases this
  | some p =>
    obtain ⟨o, g⟩ := p
    refine W.ofPeekA t g h1 fun a => ?_
    cases h2 : peekA C.K C.S (g a) with
    | none => have := e a 0; simp only [peek2, h1, h2] at this; cases this
    | some p =>
      obtain ⟨o', g'⟩ := p
      refine W.ofPeekA (g a) g' h2 fun b => ?_
      have := e a b
      simp only [peek2, h1, h2] at this
      exact W.ofPeek this (q a b)
theorem op_peek {t : Value → Value → Sem Value} {a b : Addr} {r : Bool} (e : peek C.K C.S (t (.ref a) (.ref b)) = some (.bool r)) : Op C A N t (.ref a) (.ref b) (.bool r) := ⟨fun ta tb Q q => W.ofPeek e (q 0)⟩
theorem ev_nameG {x : Str} {pos : Pos} {v : Addr} (e : nsIn C.K mainGlobals x = some (some (.ref v))) (hx : env.kindOf x = some .globalImplicit := by rfl) (hk : env.scope.kind = .function := by rfl) (hg : env.globals = mainGlobals := by rfl)
    (hd : (x == ("__debug__" : Str)) = false := by decide) : Ev C A env N (.Name x pos) (.ref v) := ⟨fun Q q => w_nameG e (q 0) hx hk hg hd⟩
theorem w_getmType {T : String} {name : Str} {v : Value} {pl : Sem Bool} {Q : Value × List Value → Led → Prop} (ht : typeOf (.type T) = pure (.type "type")) (hs : Manifest.isStub T = false) (e : findCls [] (.type T) (.type "type") name = some (.val v)) (hh : handedIn v = true) (q : Q (v, []) N) :
    W C A (getMethod (.type T) name pl) N Q := fun s st z => by
  have X : Frag.In [] s.heap := K_nil _
  have hstub : opaqueClassAbove (.type T) = pure none := by unfold opaqueClassAbove; dsimp only; rw [hs]; rfl
  have L0 : Looks (model C.prog C.w) s.heap (typeOf (.type T)) (.type "type") := Looks.of_pure ht
  have hg : findIn [] (.type "type") "__getattribute__" = some (some (.builtin "type.__getattribute__")) := type_tga
  unfold getMethod specialOf
  refine wpAny_bind (wpAny_bind (L0.here ((looks_findIn X hg).here ?_)))
  dsimp only
  rw [if_pos canon_tga]
  refine wpAny_bind (wpAny_mono ?_ (fun _ _ z => wpAny_pure z) fun _ _ z => z)
  have LO : Looks (model C.prog C.w) s.heap (opaqueClassAbove (.type T)) none := Looks.of_pure hstub
  exact cls_open X LO L0 hg (looks_hook X (r := none) (by rfl)) (by show subIn [] _ _ = _; rfl) e
    (wpAny_pure (by show wpAny _ _ (handedOut v) _ _ _; rw [handedOut_of hh]; exact wpAny_pure ⟨s.heap, s.toks + 1, N, rfl, st, z, q⟩))
theorem on1 : typeOf (.type "object") = pure (.type "type") := by kernel_rfl
theorem on2 : Manifest.isStub "object" = false := by decide +kernel
theorem on3 : findCls [] (.type "object") (.type "type") "__new__" = some (.val (.builtin "object.__new__")) := by kernel_rfl
theorem on4 : handedIn (.builtin "object.__new__") = true := by kernel_rfl
theorem w_getmObjNew {pl : Sem Bool} {Q : Value × List Value → Led → Prop} (q : Q (.builtin "object.__new__", []) N) : W C A (getMethod (.type "object") "__new__" pl) N Q := by
  have h1 := @w_getmType C A N "object" "__new__" (.builtin "object.__new__") pl Q
  have h2 := h1 on1
  have h3 := h2 on2
  have h4 := h3 on3
  have h5 := h4 on4
  exact h5 q
theorem w_newAt {o value : Expr} {attr : Str} {po pos : Pos} {r Cl d L : Addr} {v : V} {m m' : List (Str × V)} {mL : List (Str × Option V)} {Q : Flow → Led → Prop} (h : Ev C A env N value v) (ho : Ev C A env N o (.ref r)) (hL : (L, .ns mL) ∈ N) (h1 : (r, .inst Cl d) ∈ N) (hd : (d, .dict m) ∈ N) (hm : m ++ [(attr, v)] = m') (U : Upd d (.dict m) (.dict m') N N')
    (hnew : (m.map (·.1)).contains attr = false) (hlen : m.length < 1000) (ha : ∀ t, ab (raw v t) = v) (hK : setOk C.K Cl attr = true) (q : Q .next N') (hs : swapsWith value (some (.Attribute o attr po)) pos.line env = pure false := by rfl) : W C A (exec (.Assign [.Attribute o attr po] value pos) env) N Q := by
  subst hm
  exact w_newA h ho hL h1 U hnew hlen ha hK q hs
/-- a new attribute, its value a call's -/
theorem w_newAtW {o value : Expr} {attr : Str} {po pos : Pos} {Q : Flow → Led → Prop} (h : W C A (eval value env) N (fun u N₁ => W C A (eval o env) N₁ (fun ov N₂ => W C A (setAttr ov attr u) N₂ (fun _ N₃ => Q .next N₃))))
    (hs : swapsWith value (some (.Attribute o attr po)) pos.line env = pure false := by rfl) : W C A (exec (.Assign [.Attribute o attr po] value pos) env) N Q := w_assignAttr h hs
theorem w_setNew {r Cl d L : Addr} {m m' : List (Str × V)} {mL : List (Str × Option V)} {attr : Str} {u : Value} {v : V} {Q : Unit → Led → Prop} (hL : (L, .ns mL) ∈ N) (h1 : (r, .inst Cl d) ∈ N) (hd : (d, .dict m) ∈ N) (hm : m ++ [(attr, v)] = m') (U : Upd d (.dict m) (.dict m') N N') (hu : ab u = v) (hnew : (m.map (·.1)).contains attr = false) (hlen : m.length < 1000)
    (hK : setOk C.K Cl attr = true) (q : Q () N') : W C A (setAttr (.ref r) attr u) N Q := by
  subst hm
  exact w_setAttr_new hL h1 U hu hnew hlen hK q
theorem w_callWithW1 {f : Value} {first : List Value} {e : Expr} {pos : Pos} {Q : Value → Led → Prop} (hk : keeps C.K f = true) (h : W C A (eval e env) N (fun u N' => W C A (call f (first ++ [u])) N' Q)) (he : starEach [e] env = [(false, eval e env)] := by rfl) :
    W C A (callWith pos f first (backTo pos (starEach [e] env)) []) N Q := fun s st z => by
  refine callWith_of (P := C.K.In) (by rw [he]; rfl) (keeps_look hk) ?_
  rw [he]
  refine evalArgs_plain (spliced_cons (wpAny_mono (h s st z) (fun u s₁ g => spliced_nil ?_) fun _ _ e => e))
  obtain ⟨h₁, tk₁, N₁, rfl, st₁, z₁, g⟩ := g
  exact ⟨st₁.K, g.at st₁ z₁⟩
theorem w_methodW1 {o e : Expr} {vo : V} {name : Str} {apos pos : Pos} {f : Value} {first : Tok → List Value} {pl : Sem Bool} {Q : Value → Led → Prop} (ho : Ev C A env N o vo) (hm : ∀ t, ∀ Q : Value × List Value → Led → Prop, Q (f, first t) N → W C A (getMethod (raw vo t) name pl) N Q)
    (hk : keeps C.K f = true) (h : ∀ t, W C A (eval e env) N (fun u N' => W C A (call f (first t ++ [u])) N' Q)) (hst : starEach [e] env = [(false, eval e env)] := by rfl)
    (he : eval (.Call (.Attribute o name apos) [e] [] pos) env = (do
      let ov ← eval o env
      standAt apos.atName
      let (f, first) ← PySem.holding [ov] (getMethod ov name pl)
      callWith pos f first (backTo pos (starEach [e] env)) (backToKw pos (keywordEach [] env))) := by rfl) : W C A (eval (.Call (.Attribute o name apos) [e] [] pos) env) N Q := by
  rw [he]
  exact W.bind (ho.go _ fun t => W.bind (W.standAt (W.bind (W.holding (hm t _ (w_callWithW1 hk (h t) hst))))))
theorem w_augAt {o value : Expr} {attr : Str} {po pos : Pos} {op : Operator} {r Cl d L : Addr} {a b v : V} {m m' : List (Str × V)} {mL : List (Str × Option V)} {Q : Flow → Led → Prop} (ho : Ev C A env N o (.ref r)) (hL : (L, .ns mL) ∈ N) (h1 : (r, .inst Cl d) ∈ N) (h2 : (d, .dict m) ∈ N) (h3 : HasD attr a m) (hK : attrOk C.K Cl attr = true) (hp : plainV a = true)
    (hv : Ev C A env N value b) (hop : Op C A N (inplaceOp op) a b v) (U : Upd d (.dict m) (.dict m') N N') (hput : PutD attr v m m') (ha : ∀ t, ab (raw v t) = v) (hS : setOk C.K Cl attr = true) (q : Q .next N') : W C A (exec (.AugAssign (.Attribute o attr po) op value pos) env) N Q :=
  w_augAttr (ho.go _ fun _ => w_getAttr h1 h2 h3 hK hp fun t => hv.go _ fun t' => hop.go t t' _ fun t'' => w_setAttr hL h1 U hput (ha t'') hS q)
/-- return of a call -/
theorem w_retCall {e : Expr} {pos : Pos} {Q : Flow → Led → Prop} (h : W C A (eval e env) N (fun u N' => Q (.ret u) N')) : W C A (exec (.Return (some e) pos) env) N Q := w_retW h
theorem Room.weaken {k j : Nat} (h : Room A k) (hj : j ≤ k) : Room A j := h.le hj
end
end Mine
end
section
open PySem PySem.W PyProof.Rows PySem.Calls PySem.Builtin
set_option maxHeartbeats 4000000
set_option maxRecDepth 100000
namespace Mine
section
variable {C : Cx} {A : Around} {N N' : Led} {env : Env}

theorem tv_in2 {l : Expr} {a b : Str} {k k1 k2 : Nat} {p p1 p2 pos : Pos} {x : Str} (hl : Ev C A env N l (.str x)) :
    Tv C A env N (.Compare l [.In] [.Tuple [.Constant (.str a) k1 p1, .Constant (.str b) k2 p2] k p] pos) ([a, b].any (· == x)) := ⟨fun Q q whole hw => by
  rw [isTrue_Compare1, markedBehindIn_of_false (by rfl)]
  refine W.bind (hl.go _ fun ta => W.bind (W.holding fun s st z => ?_))
  have ev : Evs C A env N [.Constant (.str a) k1 p1, .Constant (.str b) k2 p2] [.str a, .str b] := .cons ev_str (.cons ev_str .nil)
  refine wpAny_Tuple (wpAny_mono (w_spliced (Q := fun us N' => N' = N ∧ RawL us [.str a, .str b]) ev (fun us hu => ⟨rfl, hu⟩) s st z) (fun us s₁ g => ?_) fun _ _ e => e.elim)
  obtain ⟨h₁, tk₁, N₁, rfl, st₁, z₁, rfl, hu⟩ := g
  obtain ⟨t1, t2, rfl⟩ : ∃ t1 t2, us = [.str a t1, .str b t2] := by
    cases hu with
    | cons hu => cases hu with
      | cons hu => cases hu; exact ⟨_, _, rfl⟩
  refine ⟨by show 2 ≤ 16777216; decide, ?_⟩
  have st2 : Sat C (h₁.push { cls := .type "tuple", data := .seq #[.str a t1, .str b t2] }) ((h₁.objs.size, .obj { cls := .type "tuple", data := .seq #[.str a t1, .str b t2] }) :: N₁) := st₁.push rfl rfl z₁
  refine ⟨_, tk₁, _, rfl, st2, by rw [Heap.size_push]; exact Nat.le_succ_of_le z₁, W.bind (W.standAt (W.bind (W.operate fun s' st' z' => ?_)))⟩
  have ho := st'.getEq (.head _)
  refine in_tuple_strs (t := h₁.objs.size) (ys := [a, b]) ⟨_, ho, rfl, 0, rfl⟩ (.cons _ _ (.cons _ _ .nil)) ?_
  refine ⟨s'.heap, s'.toks, _, rfl, st', z', W.holding ((tr_bool.go 0 _ q).sub (List.sublist_cons_self ..))⟩⟩
end
end Mine
end
section
open PySem PySem.W PyProof.Rows PySem.Calls PySem.Builtin
set_option maxHeartbeats 4000000
set_option maxRecDepth 100000
namespace Mine
section
variable {C : Cx} {A : Around} {N N' : Led} {env : Env}

theorem ab_raw {v : V} (h : plainV v = true) (t : Tok) : ab (raw v t) = v := by cases v <;> first | rfl | cases h
/-- all but one address kept, and that one not in the ledger -/
theorem Sat.but {h h' : Heap} {a : Addr} {ao : AO} (st : Sat C h ((a, ao) :: N)) (k : ∀ b o, b ≠ a → h.get? b = some o → h'.get? b = some o) : Sat C h' N := by
  have nd := st.2.2
  rw [List.map_cons, List.nodup_cons] at nd
  refine ⟨fun b o e => k b o (Nat.ne_of_lt (Nat.lt_of_lt_of_le (Heap.lt_size e) (st.hi (.head _)))) (st.1 b o e), fun p hp => ?_, nd.2⟩
  obtain ⟨hi, o, e, r⟩ := st.2.1 p (.tail _ hp)
  exact ⟨hi, o, k _ _ (fun e' => nd.1 (List.mem_map.mpr ⟨p, hp, e'⟩)) e, r⟩
theorem Sat.butNew {h h' : Heap} {a : Addr} {ao ao' : AO} {o : Obj} (st : Sat C h ((a, ao) :: N)) (k : ∀ b o, b ≠ a → h.get? b = some o → h'.get? b = some o) (ho : h'.get? a = some o) (r : OR o ao') : Sat C h' ((a, ao') :: N) := by
  have st' := st.but k
  refine ⟨st'.1, fun p hp => ?_, st.2.2⟩
  rcases List.mem_cons.mp hp with rfl | hp
  · exact ⟨st.hi (.head _), o, ho, r⟩
  · exact st'.2.1 p hp
theorem Sat.size {h : Heap} {a : Addr} {ao : AO} (st : Sat C h N) (hm : (a, ao) ∈ N) : C.h₀.objs.size ≤ h.objs.size := by
  obtain ⟨o, e, _⟩ := st.at hm
  exact Nat.le_of_lt (Nat.lt_of_le_of_lt (st.hi hm) (Heap.lt_size e))

structure IterW (C : Cx) (A : Around) (a : Addr) (pi : Nat → Obj → Prop) (vs : List V) (S : Led) : Prop where
  item : ∀ i (hi : i < vs.length) (N : Led), (∀ p ∈ S, p ∈ N) → ∀ Q : Option Value → Led → Prop, (∀ t u, ab u = vs[i] → u = raw vs[i] t → Q (some u) ((a, .prop (pi (i + 1))) :: N)) → W C A (pyNext (.ref a)) ((a, .prop (pi i)) :: N) Q
  done : ∀ (N : Led) b ao, (b, ao) ∈ N → (∀ p ∈ S, p ∈ N) → ∀ Q : Option Value → Led → Prop, Q none N → W C A (pyNext (.ref a)) ((a, .prop (pi vs.length)) :: N) Q
  self : ∀ i (N : Led), (∀ p ∈ S, p ∈ N) → ∀ Q : Value → Led → Prop, Q (.ref a) ((a, .prop (pi i)) :: N) → W C A (pyIter (.ref a)) ((a, .prop (pi i)) :: N) Q
theorem IterW.of {a : Addr} {pi : Nat → Obj → Prop} {vs : List V} {S : Led}
    (h : ∀ i h N, Sat C h ((a, .prop (pi i)) :: N) → (∀ p ∈ S, p ∈ N) → ∃ fp n P St, Walks C.prog C.w A a fp [a] n P St ∧ n = vs.length ∧ St i h ∧ (∀ j h', St j h' → ∃ o, h'.get? a = some o ∧ pi j o) ∧ (∀ j v (hj : j < vs.length), P j v → ab v = vs[j])) : IterW C A a pi vs S where
  item := fun i hi N hS Q q s st z => by
    obtain ⟨fp, n, P, St, Wk, hn, s0, s1, s2⟩ := h i _ _ st hS
    refine Wk.item i s _ _ (by omega) s0 fun v h' tk hP st' k => ?_
    obtain ⟨o, ho, hpi⟩ := s1 _ _ st'
    have e := s2 i v hi hP
    obtain ⟨t, ht⟩ := raw_of e
    have st2 := st.butNew (h' := h') (ao' := .prop (pi (i + 1))) (fun b o hb e => k b o (by simpa using hb) e) ho hpi
    exact ⟨h', tk, _, rfl, st2, st2.size (.head _), q t v e ht⟩
  done := fun N b ao hm hS Q q s st z => by
    obtain ⟨fp, n, P, St, Wk, hn, s0, s1, s2⟩ := h _ _ _ st hS
    refine Wk.done s _ _ (hn ▸ s0) fun h' tk k => ?_
    have st2 := st.but (h' := h') (fun b o hb e => k b o (by simpa using hb) e)
    exact ⟨h', tk, _, rfl, st2, st2.size hm, q⟩
  self := fun i N hS Q q s st z => by
    obtain ⟨fp, n, P, St, Wk, hn, s0, s1, s2⟩ := h _ _ _ st hS
    exact Wk.self i s _ _ s0 ⟨s.heap, s.toks, _, rfl, st, z, q⟩

def Itb (C : Cx) (A : Around) (N : Led) (xv : Value) (vs : List V) (S : Led) : Prop := ∀ Q : Value → Led → Prop, (∀ a pi, IterW C A a pi vs S → Q (.ref a) ((a, .prop (pi 0)) :: N)) → W C A (pyIter xv) N Q

theorem itb_list {l : Addr} {vs : List V} (hh : A.handled = none) (hm : (l, .list vs) ∈ N) : Itb C A N (.ref l) vs [(l, .list vs)] := fun Q q s st z => by
  obtain ⟨o, e, us, n, rfl, hv⟩ := st.at hm
  refine wpAny_pyIter_list ⟨_, e, rfl, _, rfl⟩ ?_
  have st1 := st.push (o := { cls := .type "list_iterator", data := .fields #[.ref l, .int 0 0] }) (ao := .prop (fun o => o.cls = .type "list_iterator" ∧ o.data = .fields #[.ref l, .int (0 : Nat) 0])) ⟨rfl, rfl⟩ rfl z
  refine ⟨_, s.toks, _, rfl, st1, by rw [Heap.size_push]; exact Nat.le_succ_of_le z, q _ (fun i o => o.cls = .type "list_iterator" ∧ o.data = .fields #[.ref l, .int (i : Nat) 0]) (IterW.of fun i h N' st' hS => ?_)⟩
  obtain ⟨oi, ei, hi1, hi2⟩ := st'.at (.head _)
  have hml : (l, AO.list vs) ∈ N' := hS _ (.head _)
  obtain ⟨ol, el, us', n', rfl, hv'⟩ := st'.at (.tail _ hml)
  have hne : l ≠ s.heap.objs.size := fun e' => by
    have := st'.2.2
    rw [List.map_cons, List.nodup_cons] at this
    exact this.1 (List.mem_map.mpr ⟨_, hml, e'⟩)
  refine ⟨_, _, _, _, Walks.list hh _ l hne us', ?_, ⟨⟨_, ei, hi1, hi2⟩, ⟨_, el, rfl, _, rfl⟩⟩, fun j h' x => ?_, fun j v hj hx => ?_⟩
  · rw [← hv']; simp
  · obtain ⟨⟨o', e', r'⟩, _⟩ := x
    exact ⟨o', e', r'⟩
  · subst hv'
    simp only [List.getElem_map]
    have : us'[j]? = some v := hx
    rw [← Array.getElem?_toList] at this
    rw [List.getElem_of_getElem? this |>.2]

theorem itb_bytes {b : Array UInt8} {t : Tok} (hh : A.handled = none) : Itb C A N (.bytes b t) (b.toList.map fun c => V.int (c.toNat : Int)) [] := fun Q q s st z => by
  refine KBw.pyIter_bytes ?_
  have st1 := st.push (o := { cls := .type "bytes_iterator", data := .fields #[.bytes b t, .int 0 0] }) (ao := .prop (fun o => o.cls = .type "bytes_iterator" ∧ o.data = .fields #[.bytes b t, .int (0 : Nat) 0])) ⟨rfl, rfl⟩ rfl z
  refine ⟨_, s.toks, _, rfl, st1, by rw [Heap.size_push]; exact Nat.le_succ_of_le z, q _ (fun i o => o.cls = .type "bytes_iterator" ∧ o.data = .fields #[.bytes b t, .int (i : Nat) 0]) (IterW.of fun i h N' st' hS => ?_)⟩
  obtain ⟨oi, ei, hi1, hi2⟩ := st'.at (.head _)
  refine ⟨_, _, _, _, KBw.walks hh _ b t, by simp, ⟨_, ei, hi1, hi2⟩, fun j h' x => ?_, fun j v hj hx => ?_⟩
  · obtain ⟨o', e', r'⟩ := x
    exact ⟨o', e', r'⟩
  · obtain ⟨c, u, h1, rfl⟩ := hx
    simp only [List.getElem_map]
    rw [← Array.getElem?_toList] at h1
    rw [List.getElem_of_getElem? h1 |>.2]
    rfl

theorem itb_str {x : Str} {t : Tok} (hh : A.handled = none) : Itb C A N (.str x t) (x.cps.toList.map fun c => V.str ⟨#[c]⟩) [] := fun Q q s st z => by
  refine wpAny_pyIter_strU ?_
  have st1 := st.push (o := { cls := .type (strIterType x), data := .fields #[.str x t, .int 0 0] }) (ao := .prop (fun o => o.cls = .type (strIterType x) ∧ o.data = .fields #[.str x t, .int (0 : Nat) 0])) ⟨rfl, rfl⟩ rfl z
  refine ⟨_, s.toks, _, rfl, st1, by rw [Heap.size_push]; exact Nat.le_succ_of_le z, q _ (fun i o => o.cls = .type (strIterType x) ∧ o.data = .fields #[.str x t, .int (i : Nat) 0]) (IterW.of fun i h N' st' hS => ?_)⟩
  obtain ⟨oi, ei, hi1, hi2⟩ := st'.at (.head _)
  have hP : ∀ (j : Nat) (v : Value) (hj : j < (x.cps.toList.map fun c => V.str ⟨#[c]⟩).length), SignAt x j v → ab v = (x.cps.toList.map fun c => V.str ⟨#[c]⟩)[j] := fun j v hj hx => by
    obtain ⟨c, u, h1, rfl⟩ := hx
    simp only [List.getElem_map]
    rw [← Array.getElem?_toList] at h1
    rw [List.getElem_of_getElem? h1 |>.2]
    rfl
  cases ha : x.cps.all (· < 128)
  · have e : strIterType x = "str_iterator" := by unfold strIterType; rw [ha]; rfl
    refine ⟨_, _, _, _, Walks.strWide hh _ x t, by simp, ⟨_, ei, by rw [hi1, e], hi2⟩, fun j h' y => ?_, hP⟩
    obtain ⟨o', e', r1, r2⟩ := y
    exact ⟨o', e', by rw [e]; exact r1, r2⟩
  · have e : strIterType x = "str_ascii_iterator" := by unfold strIterType; rw [ha]; rfl
    refine ⟨_, _, _, _, Walks.strAscii hh _ x t, by simp, ⟨_, ei, by rw [hi1, e], hi2⟩, fun j h' y => ?_, hP⟩
    obtain ⟨o', e', r1, r2⟩ := y
    exact ⟨o', e', by rw [e]; exact r1, r2⟩
abbrev isRangeO (a b c : Int) : Obj → Prop := fun o => ∃ t u v, o = { cls := .type "range", dict := none, data := .fields #[.int a t, .int b u, .int c v], slots := #[] }
theorem itb_range {r : Addr} {a b c : Int} {n : Nat} (hh : A.handled = none) (hm : (r, .prop (isRangeO a b c)) ∈ N) (hs : Builtin.Range.small a b c = true) (hn : Builtin.Range.rangeSize a b c = (n : Int)) : Itb C A N (.ref r) ((List.range n).map fun k : Nat => V.int (a + (k : Int) * c)) [] := fun Q q s st z => by
  obtain ⟨o, e, t, u, v, rfl⟩ := st.prop hm
  refine wpAny_pyIter_range (t := t) (u := u) (v := v) e hs ?_
  have st1 := st.push (o := { cls := .type "range_iterator", data := .fields #[rawInt a, rawInt (Builtin.Range.rangeSize a b c), rawInt c] }) (ao := .prop (fun o => o = { cls := .type "range_iterator", dict := none, data := .fields #[rawInt (a + (0 : Nat) * c), rawInt ((n : Int) - (0 : Nat)), rawInt c], slots := #[] })) (by show _ = _; rw [hn]; simp) rfl z
  refine ⟨_, s.toks, _, rfl, st1, by rw [Heap.size_push]; exact Nat.le_succ_of_le z, q _ (fun i o => o = { cls := .type "range_iterator", dict := none, data := .fields #[rawInt (a + (i : Nat) * c), rawInt ((n : Int) - (i : Nat)), rawInt c], slots := #[] }) (IterW.of fun i h N' st' hS => ?_)⟩
  obtain ⟨oi, ei, rfl⟩ := st'.at (.head _)
  refine ⟨_, _, _, _, Walks.range hh _ a c n, by simp, ei, fun j h' y => ⟨_, y, rfl⟩, fun j v hj hx => ?_⟩
  obtain ⟨t, rfl⟩ := hx
  simp only [List.getElem_map, List.getElem_range]
  rfl

/-- for x in iter -/
theorem w_for {x : Str} {px pos : Pos} {iter : Expr} {body : List Stmt} {Q : Flow → Led → Prop}
    (h : W C A (eval iter env) N (fun xv N1 => ∃ (vs : List V) (S : Led) (J : Nat → Led → Prop), Itb C A N1 xv vs S ∧ J 0 N1 ∧ (∀ i N', J i N' → (∀ p ∈ S, p ∈ N') ∧ ∃ b ao, (b, ao) ∈ N') ∧
      (∀ i (hi : i < vs.length) N', J i N' → ∀ (a : Addr) (ao : AO) u, ab u = vs[i] → W C A (storeName env x u) ((a, ao) :: N') (fun _ N2 => W C A (execs body env) N2 (fun f N3 => match f with
        | .next | .cont => ∃ N4, ((a, ao) :: N4).Sublist N3 ∧ J (i + 1) N4
        | .brk => Q .next N3
        | .ret v => Q (.ret v) N3))) ∧
      ∀ N', J vs.length N' → Q .next N'))
    (hs : ∀ x, foldedSetIterable iter env x = pure x := by intro _; rfl) :
    W C A (exec (.For (.Name x px) iter body [] pos) env) N Q := fun s st z => by
  refine wpAny_For (wpAny_mono (h s st z) (fun xv s₁ g => ?_) fun _ _ e => e.elim) hs
  obtain ⟨h₁, tk₁, N₁, rfl, st₁, z₁, vs, S, J, hI, h0, hS, step, fin⟩ := g
  refine wpAny_mono ((hI (fun it N2 => ∃ a pi, IterW C A a pi vs S ∧ it = .ref a ∧ N2 = (a, .prop (pi 0)) :: N₁) fun a pi w => ⟨a, pi, w, rfl, rfl⟩).at (s := s) (tk := tk₁) st₁ z₁) (fun it s₂ g => ?_) fun _ _ e => e.elim
  obtain ⟨h₂, tk₂, N₂, rfl, st₂, z₂, a, pi, w, rfl, rfl⟩ := g
  refine codeAny_forLoop_any (fun k s' => ∃ h tk i N', s' = { s with heap := h, toks := tk } ∧ Sat C h ((a, .prop (pi i)) :: N') ∧ C.h₀.objs.size ≤ h.objs.size ∧ J i N' ∧ i ≤ vs.length ∧ k = vs.length - i) ?_ vs.length ⟨h₂, tk₂, 0, N₁, rfl, st₂, z₂, h0, Nat.zero_le _, rfl⟩
  rintro k s' ⟨h, tk, i, N', rfl, st', z', hJ, hi, rfl⟩
  by_cases hlt : i < vs.length
  · refine wpAny_mono ((w.item i hlt N' (hS _ _ hJ).1 (fun r N2 => ∃ u, ab u = vs[i] ∧ r = some u ∧ N2 = (a, .prop (pi (i + 1))) :: N') fun t u e _ => ⟨u, e, rfl, rfl⟩).at (s := s) (tk := tk) st' z') (fun r s₃ g => ?_) fun _ _ e => e.elim
    obtain ⟨h₃, tk₃, N₃, rfl, st₃, z₃, u, hu, rfl, rfl⟩ := g
    refine wpAny_pure (wpAny_assign_Name ?_)
    refine wpAny_mono ((step i hlt N' hJ a _ u hu).at (s := s) (tk := tk₃) st₃ z₃) (fun _ s₄ g => ?_) fun _ _ e => e.elim
    obtain ⟨h₄, tk₄, N₄, rfl, st₄, z₄, g⟩ := g
    refine wpAny_mono (g.at (s := s) (tk := tk₄) st₄ z₄) (fun f s₅ g => ?_) fun _ _ e => e.elim
    obtain ⟨h₅, tk₅, N₅, rfl, st₅, z₅, g⟩ := g
    cases f with
    | next =>
      obtain ⟨N4, hp, hJ'⟩ := g
      exact ⟨vs.length - (i + 1), by omega, h₅, tk₅, i + 1, N4, rfl, st₅.sub hp, z₅, hJ', hlt, rfl⟩
    | cont =>
      obtain ⟨N4, hp, hJ'⟩ := g
      exact ⟨vs.length - (i + 1), by omega, h₅, tk₅, i + 1, N4, rfl, st₅.sub hp, z₅, hJ', hlt, rfl⟩
    | brk => exact ⟨h₅, tk₅, N₅, rfl, st₅, z₅, g⟩
    | ret v => exact ⟨h₅, tk₅, N₅, rfl, st₅, z₅, g⟩
  · obtain rfl : i = vs.length := by omega
    obtain ⟨hS', b, ao, hb⟩ := hS _ _ hJ
    refine wpAny_mono ((w.done N' b ao hb hS' (fun r N2 => r = none ∧ N2 = N') ⟨rfl, rfl⟩).at (s := s) (tk := tk) st' z') (fun r s₃ g => ?_) fun _ _ e => e.elim
    obtain ⟨h₃, tk₃, N₃, rfl, st₃, z₃, rfl, rfl⟩ := g
    exact wpAny_execs_nil ⟨h₃, tk₃, _, rfl, st₃, z₃, fin _ hJ⟩

/-! lists -/
theorem w_newL {us : List Value} {Q : Value → Led → Prop} (hz : us.length ≤ 1000) (q : ∀ a, Q (.ref a) ((a, .list (us.map ab)) :: N)) : W C A (newList us) N Q := fun s st z => by
  refine wpAny_newObj_type (h := ⟨_, s.toks, _, rfl, st.push (ao := .list (us.map ab)) ⟨us.toArray, 0, rfl, by simp⟩ rfl z, by rw [Heap.size_push]; exact Nat.le_succ_of_le z, q _⟩) (by show us.toArray.size ≤ sizeLine; rw [List.size_toArray, sizeLine_eq]; omega)
theorem rawL_ab {us : List Value} {vs : List V} (h : RawL us vs) (hp : vs.all plainV = true) : us.map ab = vs := by
  induction h with
  | nil => rfl
  | cons r ih =>
    simp only [List.all_cons, Bool.and_eq_true] at hp
    rw [List.map_cons, ih hp.2, ab_raw hp.1]
theorem rawL_len {us : List Value} {vs : List V} (h : RawL us vs) : us.length = vs.length := by
  induction h with
  | nil => rfl
  | cons r ih => simp [ih]
theorem w_list {es : List Expr} {pos : Pos} {vs : List V} {Q : Value → Led → Prop} (h : Evs C A env N es vs) (hp : vs.all plainV = true) (hz : vs.length ≤ 1000) (q : ∀ a, Q (.ref a) ((a, .list vs) :: N)) : W C A (eval (.List es pos) env) N Q := fun s st z => by
  refine wpAny_List (wpAny_mono (w_spliced (Q := fun us N' => N' = N ∧ RawL us vs) h (fun us hu => ⟨rfl, hu⟩) s st z) (fun us s₁ g => ?_) fun _ _ e => e.elim)
  obtain ⟨h₁, tk₁, N₁, rfl, st₁, z₁, rfl, hu⟩ := g
  refine ⟨by rw [rawL_len hu, sizeLine_eq]; omega, ?_⟩
  exact ⟨_, tk₁, _, rfl, st₁.push (ao := .list vs) ⟨us.toArray, 0, rfl, by simpa using rawL_ab hu hp⟩ rfl z₁, by rw [Heap.size_push]; exact Nat.le_succ_of_le z₁, q _⟩
theorem w_appendL {a : Addr} {vs : List V} {u : Value} {v : V} {Q : Value → Led → Prop} (U : Upd a (.list vs) (.list (vs ++ [v])) N N') (hu : ab u = v) (hz : vs.length ≤ 1000) (q : Q .none N') : W C A (call (.builtin "list.append") [.ref a, u]) N Q := fun s st z => by
  obtain ⟨o, e, us, k, rfl, hv⟩ := st.at U.mem
  have hl : us.size = vs.length := by rw [← hv]; simp
  refine wpAny_list_append_plain (items := us) ⟨_, e⟩ (fun h' hp hs => ?_) (by rw [hl, sizeLine_eq]; omega)
  obtain ⟨n, e'⟩ := hp
  exact ⟨h', s.toks, N', rfl, st.upd U hs e' ⟨_, _, rfl, by rw [Array.toList_push, List.map_append, hv]; simp [hu]⟩, by rw [hs.1]; exact z, q⟩

inductive All2 (R : V → V → Prop) : List V → List V → Prop
  | nil : All2 R [] []
  | cons {v f : V} {vs fs : List V} : R v f → All2 R vs fs → All2 R (v :: vs) (f :: fs)
theorem All2.len {R : V → V → Prop} {vs fs : List V} (h : All2 R vs fs) : vs.length = fs.length := by
  induction h with
  | nil => rfl
  | cons _ _ ih => simp [ih]
theorem All2.get {R : V → V → Prop} {vs fs : List V} (h : All2 R vs fs) : ∀ i (h1 : i < vs.length) (h2 : i < fs.length), R vs[i] fs[i] := by
  induction h with
  | nil => intro i h1; exact absurd h1 (Nat.not_lt_zero _)
  | cons r _ ih =>
    intro i h1 h2
    cases i with
    | zero => exact r
    | succ i => exact ih i _ _
theorem All2.map {α : Type} {R : V → V → Prop} {f g : α → V} : ∀ {l : List α}, (∀ a ∈ l, R (f a) (g a)) → All2 R (l.map f) (l.map g)
  | [], _ => .nil
  | a :: l, h => .cons (h a (.head _)) (All2.map fun b hb => h b (.tail _ hb))

theorem comp_core {elt iter : Expr} {x : Str} {px : Pos} {scope : Scope} {cl : List (Str × Addr)} {pos : Pos} {N₁ : Led} {a : Addr} {pi : Nat → Obj → Prop} {vs fs : List V} {S : Led} {s : Shared} {h₂ : Heap} {tk₂ : Nat} {RR : Value → Addr → Result → Shared → Prop}
    (st₂ : Sat C h₂ ((a, .prop (pi 0)) :: N₁)) (z₂ : C.h₀.objs.size ≤ h₂.objs.size) (w : IterW C A a pi vs S) (hSN : ∀ p ∈ S, p ∈ N₁) (hz : vs.length ≤ 1000) (hpl : fs.all plainV = true)
    (hev : All2 (fun v f => ∀ Lc M, (∀ p ∈ N₁, p ∈ M) → Ev C A (compEnvC scope cl Lc env) ((Lc, .ns [(x, some v)]) :: M) elt f) vs fs)
    (hcell : ∀ y ∈ scope.names, y.2 ≠ .cell) (hkind : scope.kind = .function) (hx : scope.names.lookup x = some .local)
    (hRR : ∀ D Lc h tk nv, Sat C h ((Lc, .ns [(x, nv)]) :: (D, .list fs) :: N₁) → RR (.ref D) Lc (.ok .next) { s with heap := h, toks := tk }) :
    wpAny (model C.prog C.w) A (newList []) (fun acc s₃ => wpAny (model C.prog C.w) A (newFunctionEnv scope env.globals cl [] env.qual none .none (some env)) (fun cenv s₄ =>
      codeAny (model C.prog C.w) A (.compStart (.ListComp elt [⟨.Name x px, iter, [], 0⟩] scope pos) 0 (.ref a) acc { cenv with scope := relabel scope env }) (RR acc cenv.locals) s₄) (fun _ _ => False) s₃) (fun _ _ => False) { s with heap := h₂, toks := tk₂ } := by
  refine wpAny_newObj_type (wpAny_newFunctionEnv hcell (by intro y hy; simp at hy) (fun h₃ hns hsb => ?_) hkind)
  dsimp only at hns hsb ⊢
  have st3 := st₂.push (o := { cls := .type "list", dict := none, data := .seq ([] : List Value).toArray }) (ao := .list []) ⟨#[], 0, rfl, rfl⟩ rfl z₂
  have z3 : C.h₀.objs.size ≤ (h₂.push { cls := .type "list", dict := none, data := .seq ([] : List Value).toArray }).objs.size := by rw [Heap.size_push]; exact Nat.le_succ_of_le z₂
  generalize hD : h₂.objs.size = D at st3 ⊢
  generalize hH : h₂.push { cls := .type "list", dict := none, data := .seq ([] : List Value).toArray } = H at st3 z3 hns hsb ⊢
  have k4 : ∀ b o, H.get? b = some o → h₃.get? b = some o := fun b o e => hsb.extBut b o (Nat.ne_of_lt (Heap.lt_size e)) (Heap.get?_push_of_some _ e)
  obtain ⟨oc, es, ep, e1, e2, e3, e4⟩ := hns
  have st4 : Sat C h₃ ((H.objs.size, .ns [(x, none)]) :: (D, .list []) :: (a, .prop (pi 0)) :: N₁) := st3.grow z3 rfl k4 e1 ⟨by simp, es, ep, e2, e3, fun y v hy => by
    have h1 := List.mem_singleton.mp hy
    cases h1⟩
  have z4 : C.h₀.objs.size ≤ h₃.objs.size := st4.size (.head _)
  generalize hc : H.objs.size = Lc at st4 ⊢
  have hfl := hev.len
  have loop : ∀ h₃ tk₃, Sat C h₃ ((Lc, .ns [(x, none)]) :: (D, .list []) :: (a, .prop (pi 0)) :: N₁) → codeAny (model C.prog C.w) A (.compLoop (.ListComp elt [⟨.Name x px, iter, [], 0⟩] scope pos) 0 (.ref a) (.ref D) (compEnvC scope cl Lc env))
      (RR (.ref D) Lc) { s with heap := h₃, toks := tk₃ } := by
    intro h₃ tk₃ st4
    refine codeAny_compLoop_tests (fun k s' => ∃ h tk i nv, s' = { s with heap := h, toks := tk } ∧ Sat C h ((Lc, .ns [(x, nv)]) :: (D, .list (fs.take i)) :: (a, .prop (pi i)) :: N₁) ∧ i ≤ vs.length ∧ k = vs.length - i) ?_ vs.length ⟨h₃, tk₃, 0, none, rfl, by simpa using st4, Nat.zero_le _, rfl⟩
    rintro k s' ⟨h, tk, i, nv, rfl, st', hi, rfl⟩
    have z' := st'.size (.head _)
    have perm3 : ∀ {p q r : Addr × AO} {M : Led}, (r :: p :: q :: M).Perm (p :: q :: r :: M) := fun {p q r M} => (List.perm_middle (l₁ := [p, q]) (l₂ := M) (a := r)).symm
    by_cases hlt : i < vs.length
    · have wi := w.item i hlt ((Lc, .ns [(x, nv)]) :: (D, .list (fs.take i)) :: N₁) (fun p hp => .tail _ (.tail _ (hSN p hp))) (fun r N2 => ∃ u, ab u = vs[i] ∧ r = some u ∧ N2 = (a, .prop (pi (i + 1))) :: (Lc, .ns [(x, nv)]) :: (D, .list (fs.take i)) :: N₁) fun t u e _ => ⟨u, e, rfl, rfl⟩
      refine wpAny_mono ((wi.perm perm3).at (s := s) (tk := tk) st' z') (fun r s₃ g => ?_) fun _ _ e => e.elim
      obtain ⟨h₅, tk₅, N₅, rfl, st₅, z₅, u, hu, rfl, rfl⟩ := g
      refine wpAny_assign_Name ?_
      have ws : W C A (storeName (compEnvC scope cl Lc env) x u) ((a, .prop (pi (i + 1))) :: (Lc, .ns [(x, nv)]) :: (D, .list (fs.take i)) :: N₁) (fun _ N2 => N2 = (a, .prop (pi (i + 1))) :: (Lc, .ns [(x, some vs[i])]) :: (D, .list (fs.take i)) :: N₁) :=
        w_store (.tail .head) .head hu rfl (lookup_relabel_local hx) (by simp [compEnvC, relabel, hkind]) rfl
      refine wpAny_mono (ws.at (s := s) (tk := tk₅) st₅ z₅) (fun _ s₄ g => ?_) fun _ _ e => e.elim
      obtain ⟨h₆, tk₆, N₆, rfl, st₆, z₆, rfl⟩ := g
      refine wpAny_pure ?_
      simp only [if_true]
      have hlt' : i < fs.length := by omega
      have ev := hev.get i hlt hlt' Lc ((D, .list (fs.take i)) :: (a, .prop (pi (i + 1))) :: N₁) (fun p hp => .tail _ (.tail _ hp))
      have st₇ := st₆.perm (N' := (Lc, .ns [(x, some vs[i])]) :: (D, .list (fs.take i)) :: (a, .prop (pi (i + 1))) :: N₁) perm3.symm
      refine wpAny_mono ((ev.go (fun v N2 => ab v = fs[i] ∧ N2 = (Lc, .ns [(x, some vs[i])]) :: (D, .list (fs.take i)) :: (a, .prop (pi (i + 1))) :: N₁) fun t => ⟨ab_raw (List.all_eq_true.mp hpl _ (List.getElem_mem hlt')) t, rfl⟩).at (s := s) (tk := tk₆) st₇ z₆) (fun v s₅ g => ?_) fun _ _ e => e.elim
      obtain ⟨h₈, tk₈, N₈, rfl, st₈, z₈, hv, rfl⟩ := g
      refine wpAny_mono ((w_appendL (C := C) (A := A) (Q := fun _ N2 => N2 = (Lc, .ns [(x, some vs[i])]) :: (D, .list (fs.take i ++ [fs[i]])) :: (a, .prop (pi (i + 1))) :: N₁) (.tail .head) hv (by rw [List.length_take]; omega) rfl).at (s := s) (tk := tk₈) st₈ z₈) (fun _ s₆ g => ?_) fun _ _ e => e.elim
      obtain ⟨h₉, tk₉, N₉, rfl, st₉, z₉, rfl⟩ := g
      refine ⟨vs.length - (i + 1), by omega, h₉, tk₉, i + 1, some vs[i], rfl, ?_, hlt, rfl⟩
      rw [← List.take_append_getElem hlt']
      exact st₉
    · obtain rfl : i = vs.length := by omega
      have wd := w.done ((Lc, .ns [(x, nv)]) :: (D, .list (fs.take vs.length)) :: N₁) Lc _ (.head _) (fun p hp => .tail _ (.tail _ (hSN p hp))) (fun r N2 => r = none ∧ N2 = (Lc, .ns [(x, nv)]) :: (D, .list (fs.take vs.length)) :: N₁) ⟨rfl, rfl⟩
      refine wpAny_mono ((wd.perm perm3).at (s := s) (tk := tk) st' z') (fun r s₃ g => ?_) fun _ _ e => e.elim
      obtain ⟨h₅, tk₅, N₅, rfl, st₅, z₅, rfl, rfl⟩ := g
      rw [hfl, List.take_length] at st₅
      exact hRR _ _ _ _ _ st₅
  refine codeAny_compStart_list (loop _ _ st4) ?_
  have perm3 : ∀ {p q r : Addr × AO} {M : Led}, (r :: p :: q :: M).Perm (p :: q :: r :: M) := fun {p q r M} => (List.perm_middle (l₁ := [p, q]) (l₂ := M) (a := r)).symm
  have wself := w.self 0 ((Lc, .ns [(x, none)]) :: (D, .list []) :: N₁) (fun p hp => .tail _ (.tail _ (hSN p hp))) (fun v N2 => v = .ref a ∧ N2 = (a, .prop (pi 0)) :: (Lc, .ns [(x, none)]) :: (D, .list []) :: N₁) ⟨rfl, rfl⟩
  refine wpAny_mono ((wself.perm perm3).at (s := s) st4 z4) (fun v s' g => ?_) fun _ _ e => e.elim
  obtain ⟨h, tk, N', rfl, st', z', rfl, rfl⟩ := g
  exact loop h tk (st'.perm perm3.symm)

/-- [elt for x in iter], its elements pure -/
theorem w_comp {elt iter : Expr} {x : Str} {px : Pos} {scope : Scope} {cl : List (Str × Addr)} {pos : Pos} {Q : Value → Led → Prop}
    (h : W C A (eval iter env) N (fun xv N1 => ∃ (vs : List V) (S : Led) (fs : List V), Itb C A N1 xv vs S ∧ (∀ p ∈ S, p ∈ N1) ∧ (∃ b ao, (b, ao) ∈ N1) ∧ vs.length ≤ 1000 ∧ fs.all plainV = true ∧
      All2 (fun v f => ∀ Lc M, (∀ p ∈ N1, p ∈ M) → Ev C A (compEnvC scope cl Lc env) ((Lc, .ns [(x, some v)]) :: M) elt f) vs fs ∧ ∀ D, Q (.ref D) ((D, .list fs) :: N1)))
    (hclos : closureFor scope env = pure cl := by rfl) (hcell : ∀ y ∈ scope.names, y.2 ≠ .cell := by decide) (hkind : scope.kind = .function := by rfl)
    (hnames : ∀ y ∈ scope.names, y.2 = .local → scope.names.lookup y.1 = some .local := by decide) (hx : scope.names.lookup x = some .local := by rfl)
    (hs : ∀ x, foldedSetIterable iter env x = pure x := by intro _; rfl) :
    W C A (eval (.ListComp elt [⟨.Name x px, iter, [], 0⟩] scope pos) env) N Q := fun s st z => by
  rw [eval_ListComp]
  refine wpAny_comprehension_free (use := none) rfl hs hclos hkind hnames (wpAny_mono (h s st z) (fun xv s₁ g => ?_) fun _ _ e => e.elim)
  obtain ⟨h₁, tk₁, N₁, rfl, st₁, z₁, vs, S, fs, hI, hSN, ⟨b0, ao0, hb0⟩, hz, hpl, hev, q⟩ := g
  refine wpAny_mono ((hI (fun it N2 => ∃ a pi, IterW C A a pi vs S ∧ it = .ref a ∧ N2 = (a, .prop (pi 0)) :: N₁) fun a pi w => ⟨a, pi, w, rfl, rfl⟩).at (s := s) (tk := tk₁) st₁ z₁) (fun it s₂ g => ?_) fun _ _ e => e.elim
  obtain ⟨h₂, tk₂, N₂, rfl, st₂, z₂, a, pi, w, rfl, rfl⟩ := g
  exact comp_core (env := env) st₂ z₂ w hSN hz hpl hev hcell hkind hx fun D Lc h tk nv st => by
    obtain ⟨f, hn, _⟩ := st.ns (.head _)
    refine ⟨f, hn, fun h' hs' => ?_⟩
    have st6 := st.but (h' := h') (fun b o hb e => hs'.extBut b o hb e)
    exact ⟨h', tk, _, rfl, st6, st6.size (.head _), q D⟩
/-- y = [elt for x in iter] -/
theorem w_asgComp {elt iter : Expr} {x y : Str} {px py : Pos} {scope : Scope} {cl : List (Str × Addr)} {pos spos : Pos} {Q : Flow → Led → Prop}
    (h : W C A (eval iter env) N (fun xv N1 => ∃ (vs : List V) (S : Led) (fs : List V) (L : Addr) (m : List (Str × Option V)), Itb C A N1 xv vs S ∧ (∀ p ∈ S, p ∈ N1) ∧ (∃ b ao, (b, ao) ∈ N1) ∧ vs.length ≤ 1000 ∧ fs.all plainV = true ∧
      All2 (fun v f => ∀ Lc M, (∀ p ∈ N1, p ∈ M) → Ev C A (compEnvC scope cl Lc env) ((Lc, .ns [(x, some v)]) :: M) elt f) vs fs ∧ env.locals = L ∧ ∀ D, ∃ m' N2, Put y (.ref D) m m' ∧ Upd L (.ns m) (.ns m') ((D, .list fs) :: N1) N2 ∧ Q .next N2))
    (hsw : swapsWith (.ListComp elt [⟨.Name x px, iter, [], 0⟩] scope pos) (some (.Name y py)) spos.line env = pure true := by rfl)
    (hclos : closureFor scope env = pure cl := by rfl) (hcell : ∀ y ∈ scope.names, y.2 ≠ .cell := by decide) (hkind : scope.kind = .function := by rfl)
    (hnames : ∀ y ∈ scope.names, y.2 = .local → scope.names.lookup y.1 = some .local := by decide) (hx : scope.names.lookup x = some .local := by rfl)
    (hl : env.kindOf y = some .local := by rfl) (hk : env.scope.kind = .function := by rfl)
    (hs : ∀ x, foldedSetIterable iter env x = pure x := by intro _; rfl) :
    W C A (exec (.Assign [.Name y py] (.ListComp elt [⟨.Name x px, iter, [], 0⟩] scope pos) spos) env) N Q := fun s st z => by
  rw [exec_Assign_Name_used _ _ _ _ hsw]
  refine wpAny_bind (wpAny_standAt (wpAny_bind ?_))
  show wpAny _ A (do let _ ← comprehension (.ListComp elt [⟨.Name x px, iter, [], 0⟩] scope pos) scope env _ (newList []) false (eval iter env) (some (assign (.Name y py) env))) _ _ s
  refine wpAny_bind (wpAny_mono (wpAny_comprehension_free (use := some (assign (.Name y py) env)) (Q := fun _ s' => ∃ h tk N', s' = { s with heap := h, toks := tk } ∧ Sat C h N' ∧ C.h₀.objs.size ≤ h.objs.size ∧ Q .next N') rfl hs hclos hkind hnames
    (wpAny_mono (h s st z) (fun xv s₁ g => ?_) fun _ _ e => e.elim)) (fun _ s' hq => wpAny_pure (wpAny_pure hq)) fun _ _ e => e)
  obtain ⟨h₁, tk₁, N₁, rfl, st₁, z₁, vs, S, fs, L, m, hI, hSN, ⟨b0, ao0, hb0⟩, hz, hpl, hev, hL, q⟩ := g
  refine wpAny_mono ((hI (fun it N2 => ∃ a pi, IterW C A a pi vs S ∧ it = .ref a ∧ N2 = (a, .prop (pi 0)) :: N₁) fun a pi w => ⟨a, pi, w, rfl, rfl⟩).at (s := s) (tk := tk₁) st₁ z₁) (fun it s₂ g => ?_) fun _ _ e => e.elim
  obtain ⟨h₂, tk₂, N₂, rfl, st₂, z₂, a, pi, w, rfl, rfl⟩ := g
  exact comp_core (env := env) st₂ z₂ w hSN hz hpl hev hcell hkind hx fun D Lc h tk nv st => by
    obtain ⟨m', N2, hp, U, hq⟩ := q D
    refine wpAny_assign_Name ?_
    have ws : W C A (storeName env y (.ref D)) ((Lc, .ns [(x, nv)]) :: (D, .list fs) :: N₁) (fun _ N3 => N3 = (Lc, .ns [(x, nv)]) :: N2) := w_store (.tail U) hp rfl rfl hl hk hL
    refine wpAny_mono (ws.at (s := s) (tk := tk) st (st.size (.head _))) (fun _ s₃ g => ?_) fun _ _ e => e.elim
    obtain ⟨h₃, tk₃, N₃, rfl, st₃, z₃, rfl⟩ := g
    obtain ⟨f, hn, _⟩ := st₃.ns (.head _)
    refine ⟨f, hn, fun h' hs' => ?_⟩
    have st6 := st₃.but (h' := h') (fun b o hb e => hs'.extBut b o hb e)
    exact ⟨h', tk₃, _, rfl, st6, st6.size U.mem', hq⟩
end
end Mine
end
section
open PySem PySem.W PyProof.Rows PySem.Calls PySem.Builtin
set_option maxHeartbeats 4000000
set_option maxRecDepth 100000
namespace Mine
section
variable {C : Cx} {A : Around} {N N' : Led} {env : Env}

theorem Sat.isList {h : Heap} {a : Addr} {vs : List V} (st : Sat C h N) (hm : (a, .list vs) ∈ N) : ∃ us : List Value, h.IsList a us.toArray ∧ us.map ab = vs := by
  obtain ⟨o, e, us, n, rfl, hv⟩ := st.at hm
  exact ⟨us.toList, ⟨_, e, rfl, n, by rw [Array.toArray_toList]⟩, hv⟩
theorem w_getm_appendL {a : Addr} {vs : List V} {pl : Sem Bool} {Q : Value × List Value → Led → Prop} (hm : (a, .list vs) ∈ N) (q : Q (.builtin "list.append", [.ref a]) N) : W C A (getMethod (.ref a) "append" pl) N Q := fun s st z => by
  obtain ⟨o, e, us, n, rfl, hv⟩ := st.at hm
  exact Calls.getMethod_list_append e rfl rfl ⟨s.heap, s.toks, N, rfl, st, z, q⟩
theorem co_len_list {a : Addr} {vs : List V} (hm : (a, .list vs) ∈ N) (hz : vs.length ≤ 1000) : Co C A N (.builtin "len") [.ref a] (.int vs.length) := ⟨fun us hu Q q s st z => by
  cases hu with
  | cons r =>
    cases r
    obtain ⟨us, hl, hv⟩ := st.isList hm
    have hsz : us.toArray.size = vs.length := by rw [← hv]; simp
    refine call_len_list hl (by rw [hsz]; omega) ?_
    rw [hsz]
    exact ⟨s.heap, _, N, rfl, st, z, q _⟩⟩
theorem intsAre_of : ∀ {us : List Value} {ns : List Int}, us.map ab = ns.map V.int → IntsAre us ns
  | [], [], _ => .nil
  | [], _ :: _, h => by cases h
  | _ :: _, [], h => by cases h
  | u :: us, n :: ns, h => by
    rw [List.map_cons, List.map_cons, List.cons.injEq] at h
    obtain ⟨t, rfl⟩ := ab_int h.1
    exact .cons n t (intsAre_of h.2)
/-- the ledger kept by a step that keeps all objects -/
theorem Sat.keepAll {h h' : Heap} {a : Addr} {ao : AO} (st : Sat C h N) (hm : (a, ao) ∈ N) (k : ∀ b o, h.get? b = some o → h'.get? b = some o) : Sat C h' N ∧ C.h₀.objs.size ≤ h'.objs.size := by
  have st' : Sat C h' N := ⟨fun b o e => k b o (st.1 b o e), fun p hp => by obtain ⟨x, o, e, r⟩ := st.2.1 p hp; exact ⟨x, o, k _ _ e, r⟩, st.2.2⟩
  exact ⟨st', st'.size hm⟩
theorem tr_list {a : Addr} {vs : List V} (hm : (a, .list vs) ∈ N) (hz : vs.length ≤ 1000) : Tr C A N (.ref a) (!vs.isEmpty) := ⟨fun t Q q s st z => by
  obtain ⟨us, hl, hv⟩ := st.isList hm
  have hsz : us.toArray.size = vs.length := by rw [← hv]; simp
  have he : us.toArray.isEmpty = vs.isEmpty := by rw [← hv]; cases us <;> rfl
  exact wpAny_truthy_list hl (by rw [hsz]; omega) (by rw [he]; exact ⟨s.heap, _, N, rfl, st, z, q⟩)⟩
end
end Mine
end
section
open PySem PySem.W PyProof.Rows PySem.Calls PySem.Builtin
set_option maxHeartbeats 4000000
set_option maxRecDepth 100000
namespace Mine
def bytesPart (v : Value) : Sem Value := do
  if v == .none then return .none
  if (← specialOf v "__index__").isNone then
    rule "bytes.slice.part-no-index"; raiseError "TypeError" "slice indices must be integers or None or have an __index__ method"
  return rawInt (← asIndex v)
theorem bytesParts_eq (s : Value) : Builtin.Bytes.sliceParts s = (do
    let step ← bytesPart (← field s 2)
    if step == rawInt 0 then rule "bytes.slice.step-zero"; raiseError "ValueError" "slice step cannot be zero"
    let start ← bytesPart (← field s 0)
    let stop ← bytesPart (← field s 1)
    return (start, stop, step)) := rfl
theorem bytesPart_int {M : Model} {A : Around} {E : Value → Shared → Prop} {s : Shared} {i : Int} {t : Tok} {Q : Value → Shared → Prop} (h : Q (rawInt i) s) : wpAny M A (bytesPart (.int i t)) Q E s := by
  unfold bytesPart
  rw [if_neg (show ¬ ((Value.int i t == Value.none) = true) from Bool.false_ne_true)]
  refine wpAny_bind (wpAny_specialOf (T := "int") (typeIs_int s i t) int_index ?_)
  simp only [Option.isNone_some, Bool.false_eq_true, if_false]
  exact wpAny_bind (wpAny_of_eq (a := i) rfl (wpAny_pure h))
theorem sliced_one {b : Array UInt8} {i : Nat} (hi : i < b.size) : Builtin.Bytes.sliced b (i : Int) ((i : Int) + 1) 1 = #[b[i]] := by
  unfold Builtin.Bytes.sliced sliceRange
  simp only [show ((1 : Int) > 0) = True by simp, if_true]
  rw [if_pos (by omega)]
  have e5 : (((i : Int) + 1 - i + 1 - 1) / 1).toNat = 1 := by omega
  rw [e5]
  simp [List.range, List.range.loop, hi]
theorem bytes_slice1 {prog : Program} {w : World} {A : Around} {E : Value → Shared → Prop} {s : Shared} {b : Array UInt8} {t u1 u2 : Tok} {sl : Addr} {i : Nat} {Q : Value → Shared → Prop} (hi : i < b.size) (hb : 2 ≤ b.size)
    (hs : s.heap.IsSliceOf sl (.int i u1) (.int ((i : Int) + 1) u2) .none) (h : Q (.bytes #[b[i]] s.toks) { s with toks := s.toks + 1 }) : wpAny (model prog w) A (getItem (.bytes b t) (.ref sl)) Q E s := by
  obtain ⟨os, hos, hcs, hds⟩ := id hs
  have hTs : s.TypeIs (.ref sl) "slice" := ⟨os, hos, hcs⟩
  refine wpAny_getItem_slot (typeIs_bytes s b t) (by decide) FB.slot_bytes_getitem (wpAny_call_entry FB.slot_bytes_getitem (typeIs_bytes s b t) FB.entry_bytes_getitem ?_ (FB.args_bytes_getitem_2 _ _))
  show wpAny _ _ (Builtin.Bytes.subscript? (.ref sl) >>= _) _ _ s
  refine wpAny_bind ?_
  unfold Builtin.Bytes.subscript?
  refine wpAny_bind (wpAny_specialOf hTs slice_no_index ?_)
  simp only [Option.isNone_none, if_true]
  refine wpAny_pure ?_
  show wpAny _ _ (typeOf (.ref sl) >>= _) _ _ s
  refine wpAny_bind (wpAny_typeOf hTs ?_)
  rw [if_neg (by decide)]
  rw [bytesParts_eq]
  refine wpAny_bind (wpAny_bind (wpAny_field hos hds (x := .none) rfl (wpAny_bind (wpAny_pure ?_))))
  rw [if_neg (by decide)]
  refine wpAny_bind (wpAny_field hos hds (x := .int i u1) rfl (wpAny_bind (bytesPart_int ?_)))
  refine wpAny_bind (wpAny_field hos hds (x := .int ((i : Int) + 1) u2) rfl (wpAny_bind (bytesPart_int (wpAny_pure ?_))))
  refine wpAny_bind (wpAny_of_eq (sliceIndices_raw (some (i : Int)) (some ((i : Int) + 1)) none b.size (by simp)) ?_)
  have e0 : sliceBounds (some (i : Int)) (some ((i : Int) + 1)) none b.size = ((i : Int), (i : Int) + 1, 1) := by
    unfold sliceBounds
    simp only [Option.getD_none, show ((1 : Int) > 0) = True by simp, if_true]
    rw [if_neg (by omega), if_neg (by omega)]
    have h1 : max (0 : Int) (min i b.size) = i := by omega
    have h2 : max (0 : Int) (min ((i : Int) + 1) b.size) = (i : Int) + 1 := by omega
    rw [h1, h2]
  rw [e0]
  have hn : ¬ (((i : Int) == 0 && (1 : Int) == 1 && ((i : Int) + 1) == b.size && !b.isEmpty) = true) := by
    simp only [Bool.and_eq_true, beq_iff_eq]
    rintro ⟨⟨⟨h1, _⟩, h2⟩, _⟩
    omega
  show wpAny _ _ (if ((i : Int) == 0 && (1 : Int) == 1 && ((i : Int) + 1) == b.size && !b.isEmpty) = true then _ else _) _ _ s
  rw [if_neg hn]
  rw [sliced_one hi]
  exact wpAny_bind (wpAny_mkBytes (wpAny_pure ⟨_, rfl, h⟩))
section
variable {C : Cx} {A : Around} {N N' : Led} {env : Env}
theorem ev_slice_bytes1 {value l u : Expr} {sp pos : Pos} {b : Array UInt8} {i : Nat} {L : Addr} {m : List (Str × Option V)} (hL : (L, .ns m) ∈ N) (hv : Ev C A env N value (.bytes b)) (hl : Ev C A env N l (.int i)) (hu : Ev C A env N u (.int ((i : Int) + 1))) (hi : i < b.size) (hb : 2 ≤ b.size)
    (ht : ∀ o r, letTemporaryGo value o r = pure () := by intro _ _; rfl) : Ev C A env N (.Subscript value (.Slice (some l) (some u) none sp) pos) (.bytes #[b[i]]) := ⟨fun Q q s st z => by
  refine wpAny_Subscript_Slice (T := "bytes") FB.slot_bytes_getitem.lookup (wpAny_mono (hv.go (fun o N' => N' = N ∧ ∃ t, o = .bytes b t) (fun t => ⟨rfl, t, rfl⟩) s st z) (fun o s₁ g => ?_) fun _ _ e => e) ht
  obtain ⟨h₁, tk₁, N₁, rfl, st₁, z₁, rfl, t, rfl⟩ := g
  refine wpAny_Slice (evalPart_some_step (wpAny_mono ((hl.go (fun o N' => N' = N₁ ∧ ∃ t, o = .int i t) (fun t => ⟨rfl, t, rfl⟩)).at (s := s) (tk := tk₁) st₁ z₁) (fun o s₂ g => ?_) fun _ _ e => e))
  obtain ⟨h₂, tk₂, N₂, rfl, st₂, z₂, rfl, t₂, rfl⟩ := g
  refine evalPart_some_step (wpAny_mono ((hu.go (fun o N' => N' = N₂ ∧ ∃ t, o = .int ((i : Int) + 1) t) (fun t => ⟨rfl, t, rfl⟩)).at (s := s) (tk := tk₂) st₂ z₂) (fun o s₃ g => ?_) fun _ _ e => e)
  obtain ⟨h₃, tk₃, N₃, rfl, st₃, z₃, rfl, t₃, rfl⟩ := g
  refine evalPart_none_step ⟨typeIs_bytes _ _ _, ?_⟩
  have st4 := st₃.ext (HExt.push h₃ { cls := .type "slice", data := .fields #[.int i t₂, .int ((i : Int) + 1) t₃, .none] })
  refine bytes_slice1 (s := ⟨h₃.push _, s.gens, s.drawn, tk₃, s.os⟩) hi hb (Heap.IsSliceOf.new ..) ?_
  exact ⟨_, _, _, rfl, st4, by rw [Heap.size_push]; exact Nat.le_succ_of_le z₃, q _⟩⟩

abbrev isTup2 (x y : V) : Obj → Prop := fun o => ∃ u1 u2 n, o = { cls := .type "tuple", data := .seq #[u1, u2] n } ∧ ab u1 = x ∧ ab u2 = y
theorem w_divmod {a b : Int} {t u : Tok} {Q : Value → Led → Prop} (hb : b ≠ 0) (hp : Builtin.divisionGoesByPylong a b = false) (q : ∀ p, Q (.ref p) ((p, .prop (isTup2 (.int (a.fdiv b)) (.int (a.fmod b)))) :: N)) : W C A (call (.builtin "divmod") [.int a t, .int b u]) N Q := fun s st z =>
  divmod_int hb ⟨_, _, _, rfl, st.push (ao := .prop (isTup2 (.int (a.fdiv b)) (.int (a.fmod b)))) ⟨_, _, 0, rfl, rfl, rfl⟩ rfl z, by rw [Heap.size_push]; exact Nat.le_succ_of_le z, q _⟩ (.inl hp)
theorem w_tup2 {e1 e2 : Expr} {k : Nat} {pos : Pos} {x y : V} {Q : Value → Led → Prop} (h1 : Ev C A env N e1 x) (h2 : Ev C A env N e2 y) (hx : plainV x = true) (hy : plainV y = true) (q : ∀ p, Q (.ref p) ((p, .prop (isTup2 x y)) :: N))
    (he1 : ∀ rest, starEach (e1 :: rest) env = (false, eval e1 env) :: starEach rest env := by intro _; rfl) (he2 : ∀ rest, starEach (e2 :: rest) env = (false, eval e2 env) :: starEach rest env := by intro _; rfl) : W C A (eval (.Tuple [e1, e2] k pos) env) N Q := fun s st z => by
  have ev : Evs C A env N [e1, e2] [x, y] := .cons h1 (.cons h2 .nil he2) he1
  refine wpAny_Tuple (wpAny_mono (w_spliced (Q := fun us N' => N' = N ∧ RawL us [x, y]) ev (fun us hu => ⟨rfl, hu⟩) s st z) (fun us s₁ g => ?_) fun _ _ e => e.elim)
  obtain ⟨h₁, tk₁, N₁, rfl, st₁, z₁, rfl, hu⟩ := g
  obtain ⟨t1, t2, rfl⟩ : ∃ t1 t2, us = [raw x t1, raw y t2] := by
    cases hu with
    | cons hu => cases hu with
      | cons hu => cases hu; exact ⟨_, _, rfl⟩
  refine ⟨by show 2 ≤ 16777216; decide, ?_⟩
  exact ⟨_, tk₁, _, rfl, st₁.push (ao := .prop (isTup2 x y)) ⟨_, _, 0, rfl, ab_raw hx _, ab_raw hy _⟩ rfl z₁, by rw [Heap.size_push]; exact Nat.le_succ_of_le z₁, q _⟩
/-- a, b = value -/
theorem w_asgTup2 {a b : Str} {pa pb tp pos : Pos} {k : Nat} {value : Expr} {Q : Flow → Led → Prop} (hh : A.handled = none)
    (h : W C A (eval value env) N (fun u N1 => ∃ p x y, u = .ref p ∧ (p, .prop (isTup2 x y)) ∈ N1 ∧ ∀ u1 u2, ab u1 = x → ab u2 = y → W C A (storeName env a u1) N1 (fun _ N2 => W C A (storeName env b u2) N2 (fun _ N3 => Q .next N3))))
    (hs : swapsWithSole [.Tuple [.Name a pa, .Name b pb] k tp] value pos.line env = pure false := by rfl) (hw : swappedStores [.Tuple [.Name a pa, .Name b pb] k tp] value env = pure none := by rfl) :
    W C A (exec (.Assign [.Tuple [.Name a pa, .Name b pb] k tp] value pos) env) N Q := fun s st z => by
  refine Assign_Tuple (wpAny_mono (h s st z) (fun u s₁ g => ?_) fun _ _ e => e) hs hw
  obtain ⟨h₁, tk₁, N₁, rfl, st₁, z₁, p, x, y, rfl, hm, g⟩ := g
  obtain ⟨o, e, u1, u2, n, rfl, e1, e2⟩ := st₁.prop hm
  refine wpAny_assign_Tuple (items := #[u1, u2]) hh ⟨_, e, rfl, n, rfl⟩ rfl rfl fun h' he => ?_
  have k' : ∀ b o, h₁.get? b = some o → h'.get? b = some o := fun b o e => he b o (Nat.ne_of_lt (Heap.lt_size e)) e
  obtain ⟨st2, z2⟩ := st₁.keepAll hm k'
  show wpAny _ _ (do holding [u2] (assign (.Name a pa) env u1); (do holding [] (assign (.Name b pb) env u2); pure ())) _ _ _
  refine wpAny_bind (wpAny_holding (wpAny_assign_Name (wpAny_mono ((g u1 u2 e1 e2).at (s := s) (tk := tk₁) st2 z2) (fun _ s₃ g => ?_) fun _ _ e => e)))
  obtain ⟨h₃, tk₃, N₃, rfl, st₃, z₃, g⟩ := g
  refine wpAny_bind (wpAny_holding (wpAny_assign_Name (wpAny_mono (g.at (s := s) (tk := tk₃) st₃ z₃) (fun _ s₃ g => wpAny_pure g) fun _ _ e => e)))
end
end Mine
end
section
open PySem PySem.W PyProof.Rows PySem.Calls PySem.Builtin
set_option maxHeartbeats 4000000
set_option maxRecDepth 100000
namespace Mine
section
variable {C : Cx} {A : Around} {N N' : Led} {env : Env}

/-- the values of a dict from ints to ints -/
inductive IV : List (Int × Value) → List (Int × Int) → Prop
  | nil : IV [] []
  | cons {k v : Int} {u : Value} {kvs : List (Int × Value)} {m : List (Int × Int)} : ab u = .int v → IV kvs m → IV ((k, u) :: kvs) ((k, v) :: m)
theorem IV.len {kvs : List (Int × Value)} {m : List (Int × Int)} (h : IV kvs m) : kvs.length = m.length := by
  induction h with
  | nil => rfl
  | cons _ _ ih => simp [ih]
theorem IV.keys {kvs : List (Int × Value)} {m : List (Int × Int)} (h : IV kvs m) : kvs.map (·.1) = m.map (·.1) := by
  induction h with
  | nil => rfl
  | cons _ _ ih => simp [ih]
theorem intKind_inv {prog : Program} {w : World} {k : Int} {v : Value} (h : (PySem.intKind prog w).is k v = true) : ab v = .int k := by
  cases v <;> simp [PySem.intKind, Value.isInt] at h
  subst h
  rfl
def mget (m : List (Int × Int)) (k : Int) : Option Int := (m.find? fun p => p.1 = k).map (·.2)
def mput (m : List (Int × Int)) (k v : Int) : List (Int × Int) := if m.any (fun p => p.1 = k) then m.map (fun p => if p.1 = k then (p.1, v) else p) else m ++ [(k, v)]
theorem IV.get {kvs : List (Int × Value)} {m : List (Int × Int)} (h : IV kvs m) (k : Int) : (valueAt kvs k).map ab = (mget m k).map V.int := by
  unfold valueAt mget
  induction h with
  | nil => rfl
  | @cons k' v u kvs m e r ih =>
    simp only [List.find?_cons]
    by_cases hk : k' = k
    · simp [hk, e]
    · simp only [hk, decide_false]
      exact ih
theorem IV.any {kvs : List (Int × Value)} {m : List (Int × Int)} (h : IV kvs m) (k : Int) : kvs.any (fun p => p.1 = k) = m.any (fun p => p.1 = k) := by
  induction h with
  | nil => rfl
  | cons e r ih => simp only [List.any_cons, ih]
theorem IV.snoc {kvs : List (Int × Value)} {m : List (Int × Int)} (h : IV kvs m) {k v : Int} {u : Value} (e : ab u = .int v) : IV (kvs ++ [(k, u)]) (m ++ [(k, v)]) := by
  induction h with
  | nil => exact .cons e .nil
  | cons e' r ih => exact .cons e' ih
theorem IV.put {kvs : List (Int × Value)} {m : List (Int × Int)} (h : IV kvs m) {k v : Int} {u : Value} (e : ab u = .int v) : IV (stored kvs k u) (mput m k v) := by
  unfold stored mput
  rw [h.any k]
  split
  · rename_i hany
    clear hany
    induction h with
    | nil => exact .nil
    | @cons k' v' u' kvs m e' r ih =>
      simp only [List.map_cons]
      by_cases hk : k' = k
      · simp only [hk, if_true]; exact .cons e ih
      · simp only [hk, if_false]; exact .cons e' ih
  · exact h.snoc e
abbrev isIMap (C : Cx) (m : List (Int × Int)) : Obj → Prop := fun o => ∃ kvs, o.IsDictOf (PySem.intKind C.prog C.w) kvs ∧ IV kvs m
theorem Sat.imap {h : Heap} {d : Addr} {m : List (Int × Int)} (st : Sat C h N) (hm : (d, .prop (isIMap C m)) ∈ N) : ∃ kvs, h.DictOf (PySem.intKind C.prog C.w) d kvs ∧ IV kvs m := by
  obtain ⟨o, ho, kvs, r, i⟩ := st.prop hm
  exact ⟨kvs, Heap.dictOf_iff.mpr ⟨o, ho, r⟩, i⟩
theorem isDict_empty : ({ cls := .type "dict", data := .dict #[] } : Obj).IsDictOf (PySem.intKind C.prog C.w) [] := by
  refine ⟨#[], 0, ?_, rfl, ?_, ?_, List.nodup_nil⟩
  · exact ⟨rfl, rfl, rfl⟩
  · intro e he
    simp at he
  · exact .nil
theorem w_dict0 {pos : Pos} {Q : Value → Led → Prop} (q : ∀ d, Q (.ref d) ((d, .prop (isIMap C [])) :: N)) : W C A (eval (.Dict [] [] pos) env) N Q := fun s st z => by
  refine wpAny_Dict_empty ?_
  exact ⟨_, s.toks, _, rfl, st.push (ao := .prop (isIMap C [])) ⟨[], isDict_empty, .nil⟩ rfl z, by rw [Heap.size_push]; exact Nat.le_succ_of_le z, q _⟩
theorem w_setItemI {d : Addr} {m : List (Int × Int)} {k v : Int} {t : Tok} {u : Value} {Q : Unit → Led → Prop} (U : Upd d (.prop (isIMap C m)) (.prop (isIMap C (mput m k v))) N N') (hu : ab u = .int v) (hz : m.length ≤ 1000) (q : Q () N') : W C A (setItem (.ref d) (.int k t) u) N Q := fun s st z => by
  obtain ⟨kvs, hd, hi⟩ := st.imap U.mem
  refine wpAny_setItem_pairs (intKind_is _ _ _ _) hd (fun h' hd' hs => ?_) (by rw [hi.len, sizeLine_eq]; omega)
  obtain ⟨o, ho, r⟩ := Heap.dictOf_iff.mp hd'
  exact ⟨h', _, N', rfl, st.upd U hs ho ⟨_, r, hi.put hu⟩, by rw [hs.1]; exact z, q⟩
theorem Sat.imapO {h : Heap} {d : Addr} {ao : AO} {m : List (Int × Int)} (st : Sat C h N) (hm : (d, ao) ∈ N) (hP : ∀ o, OR o ao → isIMap C m o) : ∃ kvs, h.DictOf (PySem.intKind C.prog C.w) d kvs ∧ IV kvs m := by
  obtain ⟨o, ho, r⟩ := st.at hm
  obtain ⟨kvs, r, i⟩ := hP o r
  exact ⟨kvs, Heap.dictOf_iff.mpr ⟨o, ho, r⟩, i⟩
theorem w_getItemI {d : Addr} {ao : AO} {m : List (Int × Int)} {k v : Int} {t : Tok} {Q : Value → Led → Prop} (hm : (d, ao) ∈ N) (hP : ∀ o, OR o ao → isIMap C m o) (hv : mget m k = some v) (q : ∀ t, Q (.int v t) N) : W C A (getItem (.ref d) (.int k t)) N Q := fun s st z => by
  obtain ⟨kvs, hd, hi⟩ := st.imapO hm hP
  have e := hi.get k
  rw [hv] at e
  cases hf : valueAt kvs k with
  | none => rw [hf] at e; cases e
  | some u =>
    rw [hf] at e
    obtain ⟨t', rfl⟩ := ab_int (Option.some.inj e)
    exact wpAny_getItem_of (intKind_is _ _ _ _) hd.mapOf hf ⟨s.heap, _, N, rfl, st, z, q t'⟩
theorem ev_subI {o : Expr} {x : Str} {px pos : Pos} {d : Addr} {ao : AO} {m : List (Int × Int)} {k v : Int} (ho : Ev C A env N o (.ref d)) (hi : Ev C A env N (.Name x px) (.int k)) (hm : (d, ao) ∈ N) (hP : ∀ o, OR o ao → isIMap C m o) (hv : mget m k = some v)
    (ht : ∀ o' r, letTemporaryGo o o' r = pure () := by intro _ _; rfl) : Ev C A env N (.Subscript o (.Name x px) pos) (.int v) := ⟨fun Q q s st z => by
  refine wpAny_Subscript_Name_late (wpAny_mono (ho.go (fun u N' => u = .ref d ∧ N' = N) (fun t => ⟨rfl, rfl⟩) s st z) (fun u s₁ g => ?_) fun _ _ e => e) ht
  obtain ⟨h₁, tk₁, N₁, rfl, st₁, z₁, rfl, rfl⟩ := g
  refine wpAny_mono ((hi.go (fun u N' => N' = N₁ ∧ ∃ t, u = .int k t) (fun t => ⟨rfl, t, rfl⟩)).at (s := s) (tk := tk₁) st₁ z₁) (fun u s₂ g => ?_) fun _ _ e => e
  obtain ⟨h₂, tk₂, N₂, rfl, st₂, z₂, rfl, t, rfl⟩ := g
  obtain ⟨kvs, hd, _⟩ := st₂.imapO hm hP
  exact ⟨"dict", "dict.__getitem__", slot_dict_getitem.lookup, hd.typeIs, (w_getItemI hm hP hv q).at (s := s) (tk := tk₂) st₂ z₂⟩⟩
theorem w_getm_getI {d : Addr} {m : List (Int × Int)} {pl : Sem Bool} {Q : Value × List Value → Led → Prop} (hm : (d, .prop (isIMap C m)) ∈ N) (q : Q (.builtin "dict.get", [.ref d]) N) : W C A (getMethod (.ref d) "get" pl) N Q := fun s st z => by
  obtain ⟨kvs, hd, _⟩ := st.imap hm
  exact getMethod_builtin hd.typeIs PySem.F.plainAttrs_dict PySem.F.slot_dict_get PySem.F.type_dict_get hd.mapOf.noDict ⟨s.heap, s.toks, N, rfl, st, z, q⟩
theorem w_getI {d : Addr} {m : List (Int × Int)} {k z0 : Int} {t t2 : Tok} {Q : Value → Led → Prop} (hm : (d, .prop (isIMap C m)) ∈ N) (q : ∀ t, Q (.int ((mget m k).getD z0) t) N) : W C A (call (.builtin "dict.get") [.ref d, .int k t, .int z0 t2]) N Q := fun s st z => by
  obtain ⟨kvs, hd, hi⟩ := st.imap hm
  refine call_meetsIn PySem.F.slot_dict_get hd.typeIs PySem.F.entry_dict_get (PySem.F.args_dict_get_3 _ _ _) (meets_dict_get_default (PySem.intKind C.prog C.w) d (intKind_is _ _ _ _) (st.notMods hm) _) ⟨_, hd.mapOf, ?_⟩
  have e := hi.get k
  cases hf : valueAt kvs k with
  | none =>
    rw [hf] at e
    have : mget m k = none := by cases h : mget m k with | none => rfl | some _ => rw [h] at e; cases e
    rw [this] at q
    exact ⟨s.heap, _, N, rfl, st, z, q t2⟩
  | some u =>
    rw [hf] at e
    cases h : mget m k with
    | none => rw [h] at e; cases e
    | some v =>
      rw [h] at e q
      obtain ⟨t', rfl⟩ := ab_int (Option.some.inj e)
      exact ⟨s.heap, _, N, rfl, st, z, q t'⟩
theorem W.release {vs keep : List Value} {Q : Unit → Led → Prop} (h : Q () N) : W C A (release vs keep) N Q := fun s st z => wpAny_release' ⟨s.heap, s.toks, N, rfl, st, z, h⟩
theorem tv_cmp2 {l m r : Expr} {op1 op2 : CmpOp} {pos : Pos} {a b d : V} {c1 c2 : Bool} (hl : Ev C A env N l a) (hm : Ev C A env N m b) (hr : Ev C A env N r d) (ho1 : Op C A N (compareOp op1) a b (.bool c1)) (ho2 : Op C A N (compareOp op2) b d (.bool c2)) (hb : behindInMarks op2 r = false := by with_unfolding_all rfl) :
    Tv C A env N (.Compare l [op1, op2] [m, r] pos) (c1 && c2) := ⟨fun Q q whole hw => by
  show W C A (do let x ← eval l env; testChain pos x [op1, op2] [eval m env, markedBehindIn op2 r (eval r env)]) N Q
  rw [markedBehindIn_of_false hb]
  refine W.bind (hl.go _ fun ta => ?_)
  show W C A (do
    let rv ← holding [raw a ta] (eval m env)
    standAt pos
    let c ← holding [raw a ta, rv] (compareOp op1 (raw a ta) rv)
    release [raw a ta, rv] [c]
    if ← holding [c, rv] (truthy c) then testChain pos rv [op2] [eval r env] else pure false) N Q
  refine W.bind (W.holding (hm.go _ fun tb => W.bind (W.standAt (W.bind (W.holding (ho1.go ta tb _ fun tc => W.bind (W.release (W.bind (W.holding (tr_bool.go 0 _ ?_))))))))))
  cases c1 with
  | false => exact W.pure q
  | true =>
    show W C A (do
      let rv ← holding [raw b tb] (eval r env)
      standAt pos
      let c ← operate [raw b tb, rv] (compareOp op2 (raw b tb) rv)
      holding [c] (truthy c)) N Q
    exact W.bind (W.holding (hr.go _ fun td => W.bind (W.standAt (W.bind (W.operate (ho2.go tb td _ fun te => W.holding (tr_bool.go 0 _ q)))))))⟩
theorem w_dict1 {ke ve : Expr} {pos : Pos} {k v : Int} {Q : Value → Led → Prop} (hk : ∀ d, Ev C A env ((d, .prop (isIMap C [])) :: N) ke (.int k)) (hv : ∀ d, Ev C A env ((d, .prop (isIMap C [])) :: N) ve (.int v)) (q : ∀ d, Q (.ref d) ((d, .prop (isIMap C [(k, v)])) :: N)) : W C A (eval (.Dict [some ke] [ve] pos) env) N Q := fun s st z => by
  have st1 : Sat C (s.heap.push { cls := .type "dict", data := .dict #[] }) ((s.heap.objs.size, .prop (isIMap C [])) :: N) := st.push ⟨[], isDict_empty, .nil⟩ rfl z
  have z1 : C.h₀.objs.size ≤ (s.heap.push { cls := .type "dict", data := .dict #[] }).objs.size := by rw [Heap.size_push]; exact Nat.le_succ_of_le z
  refine wpAny_Dict_walk (knd := PySem.intKind C.prog C.w) rfl rfl (by simp) (by simp) (pairTrees_cons_walk ?_)
  refine wpAny_mono (((hk s.heap.objs.size).go (fun u N' => N' = (s.heap.objs.size, .prop (isIMap C [])) :: N ∧ ∃ t, u = .int k t) (fun t => ⟨rfl, t, rfl⟩)).at (s := s) (tk := s.toks) st1 z1) (fun u s₁ g => ?_) fun _ _ e => e.elim
  obtain ⟨h₁, tk₁, N₁, rfl, st₁, z₁, rfl, t, rfl⟩ := g
  refine wpAny_mono (((hv s.heap.objs.size).go (fun u N' => N' = (s.heap.objs.size, .prop (isIMap C [])) :: N ∧ ∃ t, u = .int v t) (fun t => ⟨rfl, t, rfl⟩)).at (s := s) (tk := tk₁) st₁ z₁) (fun u s₂ g => pairTrees_nil_walk ?_) fun _ _ e => e.elim
  obtain ⟨h₂, tk₂, N₂, rfl, st₂, z₂, rfl, t2, rfl⟩ := g
  obtain ⟨kvs, hd, hi⟩ := st₂.imap (.head _)
  have : kvs = [] := by cases hi; rfl
  subst this
  refine ⟨[(k, .int v t2)], ⟨intKind_is _ _ _ _, rfl, trivial⟩, hd, fun h' hd' hs => ?_⟩
  obtain ⟨o, ho, r⟩ := Heap.dictOf_iff.mp hd'
  have st3 := st₂.upd (N' := (s.heap.objs.size, .prop (isIMap C [(k, v)])) :: N) .head hs ho ⟨_, r, .cons rfl .nil⟩
  exact ⟨h', _, _, rfl, st3, by rw [hs.1]; exact z₂, q _⟩

/-- the very object at an address of the ledger -/
theorem W.exact {α : Type} {t : Sem α} {d : Addr} {P : Obj → Prop} {N' : Obj → Led} {Q : α → Led → Prop} (U : ∀ o, Upd d (.prop P) (.obj o) N (N' o)) (h : ∀ o, P o → W C A t (N' o) Q) : W C A t N Q := fun s st z => by
  obtain ⟨o, ho, hp⟩ := st.prop (U default).mem
  exact h o hp s (st.upd (U o) ⟨rfl, fun _ _ => rfl⟩ ho rfl) z
/-- the object at an address forgotten but for a property -/
theorem W.forget {α : Type} {t : Sem α} {Q : α → Led → Prop} {d : Addr} {o : Obj} {P : Obj → Prop} (hP : P o) (U : Upd d (.obj o) (.prop P) N N') (h : W C A t N' Q) : W C A t N Q := fun s st z => by
  have e := st.getEq U.mem
  exact h s (st.upd U ⟨rfl, fun _ _ => rfl⟩ e hP) z
theorem itb_dict {d : Addr} {o : Obj} {m : List (Int × Int)} (hh : A.handled = none) (hP : isIMap C m o) (hm : (d, .obj o) ∈ N) : Itb C A N (.ref d) (m.map fun p => V.int p.1) [(d, .obj o)] := fun Q q s st z => by
  obtain ⟨kvs, ⟨es, ep, hex, hdat, hk, hp, hnd⟩, hi⟩ := hP
  have hlen := hi.len
  have e := st.getEq hm
  refine wpAny_pyIter_dict (knd := PySem.intKind C.prog C.w) (kvs := kvs) (ep := ep) (st.notMods hm) ⟨o, es, e, hex, hdat, hk, hp, hnd⟩ ?_
  have st1 := st.push (o := { cls := .type "dict_keyiterator", data := .fields #[.ref d, .int 0 0, .int kvs.length 0, .int ep 0] }) (ao := .prop (fun o => o.cls = .type "dict_keyiterator" ∧ o.data = .fields #[.ref d, .int (0 : Nat) 0, .int kvs.length 0, .int ep 0])) ⟨rfl, rfl⟩ rfl z
  refine ⟨_, s.toks, _, rfl, st1, by rw [Heap.size_push]; exact Nat.le_succ_of_le z, q _ (fun i o => o.cls = .type "dict_keyiterator" ∧ o.data = .fields #[.ref d, .int (i : Nat) 0, .int kvs.length 0, .int ep 0]) (IterW.of fun i h N' st' hS => ?_)⟩
  obtain ⟨oi, ei, hi1, hi2⟩ := st'.at (.head _)
  have hml : (d, AO.obj o) ∈ N' := hS _ (.head _)
  have el := st'.getEq (.tail _ hml)
  have hne : d ≠ s.heap.objs.size := fun e' => by
    have := st'.2.2
    rw [List.map_cons, List.nodup_cons] at this
    exact this.1 (List.mem_map.mpr ⟨_, hml, e'⟩)
  refine ⟨_, _, _, _, Walks.dictKeys (knd := PySem.intKind C.prog C.w) hh _ d hne kvs ep, by simp [hlen], ⟨⟨_, ei, hi1, hi2⟩, ⟨o, es, el, hex, hdat, hk, hp, hnd⟩⟩, fun j h' x => ?_, fun j v hj hx => ?_⟩
  · obtain ⟨⟨o', e', r'⟩, _⟩ := x
    exact ⟨o', e', r'⟩
  · obtain ⟨k, x, h1, h2⟩ := hx
    rw [intKind_inv h2]
    have hj' : j < m.length := by simpa using hj
    have hk1 : (kvs.map (·.1))[j]? = some k := by rw [List.getElem?_map, h1]; rfl
    rw [hi.keys, List.getElem?_map, List.getElem?_eq_getElem hj'] at hk1
    have hk2 : m[j].1 = k := Option.some.inj hk1
    simp only [List.getElem_map]
    rw [hk2]

/-- o[x] = value -/
theorem w_asgSubI {o value i : Expr} {po pos : Pos} {d : Addr} {m : List (Int × Int)} {k v : Int} {Q : Flow → Led → Prop} (hv : ∀ Q : Value → Led → Prop, (∀ u, ab u = .int v → Q u N) → W C A (eval value env) N Q) (ho : Ev C A env N o (.ref d)) (hi : Ev C A env N i (.int k)) (U : Upd d (.prop (isIMap C m)) (.prop (isIMap C (mput m k v))) N N') (hz : m.length ≤ 1000) (q : Q .next N')
    (hs : swapsWith value (some (.Subscript o i po)) pos.line env = pure false := by rfl) : W C A (exec (.Assign [.Subscript o i po] value pos) env) N Q := fun s st z => by
  refine wpAny_Assign_Subscript (wpAny_mono (hv (fun u N' => N' = N ∧ ab u = .int v) (fun u hu => ⟨rfl, hu⟩) s st z) (fun u s₁ g => ?_) fun _ _ e => e) hs
  obtain ⟨h₁, tk₁, N₁, rfl, st₁, z₁, rfl, hu⟩ := g
  refine wpAny_mono ((ho.go (fun u N' => u = .ref d ∧ N' = N₁) (fun t => ⟨rfl, rfl⟩)).at (s := s) (tk := tk₁) st₁ z₁) (fun ov s₂ g => ?_) fun _ _ e => e
  obtain ⟨h₂, tk₂, N₂, rfl, st₂, z₂, rfl, rfl⟩ := g
  refine wpAny_mono ((hi.go (fun u N' => N' = N₂ ∧ ∃ t, u = .int k t) (fun t => ⟨rfl, t, rfl⟩)).at (s := s) (tk := tk₂) st₂ z₂) (fun iv s₃ g => ?_) fun _ _ e => e
  obtain ⟨h₃, tk₃, N₃, rfl, st₃, z₃, rfl, t, rfl⟩ := g
  exact wpAny_mono ((w_setItemI U hu hz q).at (s := s) (tk := tk₃) st₃ z₃) (fun _ s₄ g => g) fun _ _ e => e
/-- a + b, its left hand a call -/
theorem w_binW {l r : Expr} {op : Operator} {pos : Pos} {Q : Value → Led → Prop} (h : W C A (eval l env) N (fun u N1 => W C A (eval r env) N1 (fun u2 N2 => W C A (binaryOp op u u2) N2 Q))) : W C A (eval (.BinOp l op r pos) env) N Q := by
  rw [eval_BinOp]
  exact W.bind (h.mono fun u N1 g => W.bind (W.holding (g.mono fun u2 N2 g2 => W.bind (W.standAt (W.operate g2)))))
/-- range(n) -/
theorem w_range1 {n : Int} {t : Tok} {Q : Value → Led → Prop} (q : ∀ r, Q (.ref r) ((r, .prop (isRangeO 0 n 1)) :: N)) : W C A (call (.type "range") [.int n t]) N Q := fun s st z =>
  call_range_1 ⟨_, _, _, rfl, st.push (ao := .prop (isRangeO 0 n 1)) ⟨_, _, _, rfl⟩ rfl z, by rw [Heap.size_push]; exact Nat.le_succ_of_le z, q _⟩
theorem w_range2 {a b : Int} {t t2 : Tok} {Q : Value → Led → Prop} (q : ∀ r, Q (.ref r) ((r, .prop (isRangeO a b 1)) :: N)) : W C A (call (.type "range") [.int a t, .int b t2]) N Q := fun s st z =>
  call_range_2 ⟨_, _, _, rfl, st.push (ao := .prop (isRangeO a b 1)) ⟨_, _, _, rfl⟩ rfl z, by rw [Heap.size_push]; exact Nat.le_succ_of_le z, q _⟩
theorem w_range3 {a b c : Int} {t t2 t3 : Tok} {Q : Value → Led → Prop} (hc : c ≠ 0) (hp : Builtin.divisionGoesByPylong (b - a) c = false) (q : ∀ r, Q (.ref r) ((r, .prop (isRangeO a b c)) :: N)) : W C A (call (.type "range") [.int a t, .int b t2, .int c t3]) N Q := fun s st z =>
  call_range_3 hc ⟨_, _, _, rfl, st.push (ao := .prop (isRangeO a b c)) ⟨_, _, _, rfl⟩ rfl z, by rw [Heap.size_push]; exact Nat.le_succ_of_le z, q _⟩ (.inl hp)
end
end Mine
end
section
open PySem PySem.W PyProof.Rows PySem.Calls PySem.Builtin PySem.SeqAt
set_option maxHeartbeats 4000000
set_option maxRecDepth 100000
namespace Mine
theorem iadd_list {prog : Program} {w : World} {A : Around} {E : Value → Shared → Prop} {s : Shared} {l b : Addr} {items items2 : Array Value} {n n2 : Nat} {Q : Value → Shared → Prop} (hl : s.heap.get? l = some (listOf items n)) (hb : s.heap.get? b = some (listOf items2 n2)) (hz : items.size + items2.size ≤ 10000)
    (h : ∀ h', Heap.SameBut l s.heap h' → (∃ k, h'.get? l = some (listOf (items ++ items2) k)) → Q (.ref l) { s with heap := h' }) : wpAny (model prog w) A (inplaceOp .Add (.ref l) (.ref b)) Q E s := by
  have ha' : s.TypeIs (.ref l) "list" := ⟨_, hl, rfl⟩
  have hb' : s.TypeIs (.ref b) "list" := ⟨_, hb, rfl⟩
  have hsz : sizeLine = 16777216 := sizeLine_eq
  unfold inplaceOp
  refine wpAny_holding ?_
  have hfi : fillsInplaceSlot (.type "list") "add" (Operator.Add == .Add) = pure false := by
    unfold fillsInplaceSlot
    show (typeLookup (.type "list") (dunderI "add") >>= fun fi => pure (fi.isSome && !isSeqSlot fi)) = pure false
    rw [PySem.F.slot_list_iadd.lookup]
    kernel_rfl
  have hsi : seqSlot? (.type "list") (dunderI "add") = pure (some (.builtin "list.__iadd__")) := PySem.seqSlot_of PySem.F.slot_list_iadd.lookup (by decide +kernel)
  refine wpAny_bind (wpAny_typeOf ha' (wpAny_bind (wpAny_of_eq hfi ?_)))
  show wpAny _ A (if false = true then _ else _) Q E s
  rw [if_neg Bool.false_ne_true]
  refine wpAny_bind (wpAny_binaryOp1_none (nm := "add") ha' hb' noFill_list_add ?_)
  refine wpAny_bind (wpAny_of_eq hsi ?_)
  refine wpAny_bind (wpAny_rule ?_)
  refine call_meets PySem.F.slot_list_iadd ha' PySem.F.entry_list_iadd (PySem.F.args_list_iadd_2 _ _) (AutoSeq1.list___iadd___list_list_0 l items n b items2 n2 (by
    have : Builtin.List.listTooLong (items.size + items2.size) = false := by unfold Builtin.List.listTooLong; exact decide_eq_false (by omega)
    rw [this]; simp) (by omega) (by omega)) ⟨hl, hb, ?_⟩
  have q := PySem.IsL.update hl fun x => x ++ items2
  exact h _ (Heap.SameBut.update ..) ⟨_, q⟩

section
variable {C : Cx} {A : Around} {N N' : Led} {env : Env}
/-- x op= value, the value a call's -/
theorem w_augW {x : Str} {px pos : Pos} {op : Operator} {value : Expr} {a : V} {m : List (Str × Option V)} {Q : Flow → Led → Prop} (hm : (env.locals, .ns m) ∈ N) (hx : Has x a m) (h : ∀ t, W C A (eval value env) N (fun u N1 => W C A (inplaceOp op (raw a t) u) N1 (fun v N2 => W C A (storeName env x v) N2 (fun _ N3 => Q .next N3))))
    (hl : env.kindOf x = some .local := by rfl) (hk : env.scope.kind = .function := by rfl) : W C A (exec (.AugAssign (.Name x px) op value pos) env) N Q := by
  rw [exec_AugAssign_Name]
  refine W.bind (W.standAt (W.bind ?_))
  have ld : ∀ Q : Value → Led → Prop, (∀ t, Q (raw a t) N) → W C A (loadName env x) N Q := fun Q h s st z => by
    obtain ⟨f, hn, r⟩ := st.ns hm
    obtain ⟨u, hu, e⟩ := r _ _ hx.mem
    obtain ⟨t, rfl⟩ := raw_of e
    exact wpAny_loadName_local hk hl hn hu ⟨s.heap, s.toks, N, rfl, st, z, h t⟩
  exact ld _ fun t => W.bind (W.holding ((h t).mono fun u N1 g => W.bind (W.standAt (W.bind (W.operate (g.mono fun v N2 g2 => W.bind (W.standAt (W.bind (w_bind (g2.mono fun _ _ r => W.pure r))))))))))
theorem w_iaddL {a b : Addr} {vs ws : List V} {Q : Value → Led → Prop} (hb : (b, .list ws) ∈ N) (U : Upd a (.list vs) (.list (vs ++ ws)) N N') (hz : vs.length + ws.length ≤ 1000) (q : Q (.ref a) N') : W C A (inplaceOp .Add (.ref a) (.ref b)) N Q := fun s st z => by
  obtain ⟨o, e, us, n, rfl, hv⟩ := st.at U.mem
  obtain ⟨o', e', us', n', rfl, hw⟩ := st.at hb
  have h1 : us.size = vs.length := by rw [← hv]; simp
  have h2 : us'.size = ws.length := by rw [← hw]; simp
  refine iadd_list e e' (by omega) fun h' hs ⟨k, ho⟩ => ?_
  exact ⟨h', s.toks, N', rfl, st.upd U hs ho ⟨_, _, rfl, by rw [Array.toList_append, List.map_append, hv, hw]⟩, by rw [hs.1]; exact z, q⟩
theorem w_addL {a b : Addr} {vs ws : List V} {Q : Value → Led → Prop} (ha : (a, .list vs) ∈ N) (hb : (b, .list ws) ∈ N) (hz : vs.length + ws.length ≤ 1000) (q : ∀ d, Q (.ref d) ((d, .list (vs ++ ws)) :: N)) : W C A (binaryOp .Add (.ref a) (.ref b)) N Q := fun s st z => by
  obtain ⟨o, e, us, n, rfl, hv⟩ := st.at ha
  obtain ⟨o', e', us', n', rfl, hw⟩ := st.at hb
  have h1 : us.size = vs.length := by rw [← hv]; simp
  have h2 : us'.size = ws.length := by rw [← hw]; simp
  refine P.add_list (n := n) (n2 := n') e e' ?_ (by rw [sizeLine_eq]; omega)
  exact ⟨_, s.toks, _, rfl, st.push (ao := .list (vs ++ ws)) ⟨us ++ us', 0, rfl, by rw [Array.toList_append, List.map_append, hv, hw]⟩ rfl z, by rw [Heap.size_push]; exact Nat.le_succ_of_le z, q _⟩
/-- a list that the ledger or the base holds -/
def LstAt (C : Cx) (N : Led) (l : Addr) (vs : List V) : Prop := ∀ h, Sat C h N → ∃ us : List Value, h.IsList l us.toArray ∧ us.map ab = vs
theorem LstAt.led {l : Addr} {vs : List V} (hm : (l, .list vs) ∈ N) : LstAt C N l vs := fun h st => st.isList hm
theorem LstAt.base {l : Addr} {us : List Value} {vs : List V} (hl : C.h₀.IsList l us.toArray) (hv : us.map ab = vs) : LstAt C N l vs := fun h st => by
  obtain ⟨o, e, r⟩ := hl
  exact ⟨us, ⟨o, st.1 _ _ e, r⟩, hv⟩
theorem LstAt.fit {h : Heap} {l : Addr} {vs : List V} {us : List Value} (hv : us.map ab = vs) : us.length = vs.length := by rw [← hv]; simp
theorem w_sliceTo {value u : Expr} {sp pos : Pos} {l : Addr} {vs : List V} {k : Nat} {Q : Value → Led → Prop} (hv : Ev C A env N value (.ref l)) (hu : Ev C A env N u (.int (k : Nat))) (hg : LstAt C N l vs) (hz : vs.length ≤ 1000) (q : ∀ a, Q (.ref a) ((a, .list (vs.take k)) :: N))
    (ht : ∀ o r, letTemporaryGo value o r = pure () := by intro _ _; rfl) : W C A (eval (.Subscript value (.Slice none (some u) none sp) pos) env) N Q := fun s st z => by
  refine wpAny_Subscript_list_slice (wpAny_mono (hv.go (fun u N' => u = .ref l ∧ N' = N) (fun t => ⟨rfl, rfl⟩) s st z) (fun o s₁ g => evalPart_none_step ?_) fun _ _ e => e.elim) ht
  obtain ⟨h₁, tk₁, N₁, rfl, st₁, z₁, rfl, rfl⟩ := g
  refine evalPart_some_step (wpAny_mono ((hu.go (fun o N' => N' = N₁ ∧ ∃ t, o = .int k t) (fun t => ⟨rfl, t, rfl⟩)).at (s := s) (tk := tk₁) st₁ z₁) (fun o s₂ g => ?_) fun _ _ e => e)
  obtain ⟨h₂, tk₂, N₂, rfl, st₂, z₂, rfl, t₂, rfl⟩ := g
  obtain ⟨us, hl, he⟩ := hg _ st₂
  have hlen := LstAt.fit (h := h₂) (l := l) he
  refine ⟨l, us.toArray, none, some (k : Int), rfl, hl, by rw [List.size_toArray, hlen, sizeLine_eq]; omega, .none, .int _ _, ?_⟩
  have st3 := st₂.ext (HExt.push h₂ { cls := .type "slice", data := .fields #[.none, .int k t₂, .none] })
  have z3 : C.h₀.objs.size ≤ (h₂.push { cls := .type "slice", data := .fields #[.none, .int k t₂, .none] }).objs.size := by rw [Heap.size_push]; exact Nat.le_succ_of_le z₂
  have st4 := st3.push (o := { cls := .type "list", data := .seq (slicePick us.toArray none (some (k : Int)) none) }) (ao := .list (vs.take k)) ⟨slicePick us.toArray none (some (k : Int)) none, 0, rfl, by
    rw [slicePick_upto', ← he]; simp⟩ rfl z3
  rw [Heap.size_push] at st4
  exact ⟨_, tk₂, _, rfl, st4, by rw [Heap.size_push]; exact Nat.le_succ_of_le z3, q _⟩
theorem w_sliceFrom {value u : Expr} {sp pos : Pos} {l : Addr} {vs : List V} {k : Nat} {Q : Value → Led → Prop} (hv : Ev C A env N value (.ref l)) (hu : Ev C A env N u (.int (k : Nat))) (hg : LstAt C N l vs) (hz : vs.length ≤ 1000) (q : ∀ a, Q (.ref a) ((a, .list (vs.drop k)) :: N))
    (ht : ∀ o r, letTemporaryGo value o r = pure () := by intro _ _; rfl) : W C A (eval (.Subscript value (.Slice (some u) none none sp) pos) env) N Q := fun s st z => by
  refine wpAny_Subscript_list_slice (wpAny_mono (hv.go (fun u N' => u = .ref l ∧ N' = N) (fun t => ⟨rfl, rfl⟩) s st z) (fun o s₁ g => ?_) fun _ _ e => e.elim) ht
  obtain ⟨h₁, tk₁, N₁, rfl, st₁, z₁, rfl, rfl⟩ := g
  refine evalPart_some_step (wpAny_mono ((hu.go (fun o N' => N' = N₁ ∧ ∃ t, o = .int k t) (fun t => ⟨rfl, t, rfl⟩)).at (s := s) (tk := tk₁) st₁ z₁) (fun o s₂ g => evalPart_none_step ?_) fun _ _ e => e)
  obtain ⟨h₂, tk₂, N₂, rfl, st₂, z₂, rfl, t₂, rfl⟩ := g
  obtain ⟨us, hl, he⟩ := hg _ st₂
  have hlen := LstAt.fit (h := h₂) (l := l) he
  refine ⟨l, us.toArray, some (k : Int), none, rfl, hl, by rw [List.size_toArray, hlen, sizeLine_eq]; omega, .int _ _, .none, ?_⟩
  have st3 := st₂.ext (HExt.push h₂ { cls := .type "slice", data := .fields #[.int k t₂, .none, .none] })
  have z3 : C.h₀.objs.size ≤ (h₂.push { cls := .type "slice", data := .fields #[.int k t₂, .none, .none] }).objs.size := by rw [Heap.size_push]; exact Nat.le_succ_of_le z₂
  have st4 := st3.push (o := { cls := .type "list", data := .seq (slicePick us.toArray (some (k : Int)) none none) }) (ao := .list (vs.drop k)) ⟨slicePick us.toArray (some (k : Int)) none none, 0, rfl, by
    rw [slicePick_from', ← he]; simp⟩ rfl z3
  rw [Heap.size_push] at st4
  exact ⟨_, tk₂, _, rfl, st4, by rw [Heap.size_push]; exact Nat.le_succ_of_le z3, q _⟩
theorem co_lenAt {a : Addr} {vs : List V} (hm : LstAt C N a vs) (hz : vs.length ≤ 1000) : Co C A N (.builtin "len") [.ref a] (.int vs.length) := ⟨fun us hu Q q s st z => by
  cases hu with
  | cons r =>
    cases r
    obtain ⟨us, hl, hv⟩ := hm _ st
    have hsz : us.toArray.size = vs.length := by rw [← hv]; simp
    refine call_len_list hl (by rw [hsz]; omega) ?_
    rw [hsz]
    exact ⟨s.heap, _, N, rfl, st, z, q _⟩⟩
theorem co_sum {a : Addr} {ns : List Int} {b : Addr} {ao : AO} (hh : A.handled = none) (hm : LstAt C N a (ns.map V.int)) (hb : (b, ao) ∈ N) : Co C A N (.builtin "sum") [.ref a] (.int ns.sum) := ⟨fun us hu Q q s st z => by
  cases hu with
  | cons r =>
    cases r
    obtain ⟨us, hl, hv⟩ := hm _ st
    have hi := intsAre_of hv
    obtain ⟨xs, hxs⟩ := hi.allInts.items
    rw [hxs] at hl
    have hn : numsOf us = ns := hi.numsOf
    have hsum : preSum (numAt xs) xs.size = ns.sum := by
      rw [preSum_eq, List.take_of_length_le (by simp), ← nums_intItems, ← hxs]
      show (numsOf us).sum = _
      rw [hn]
    refine sum_intListG hh hl fun h' tk t' hk => ?_
    obtain ⟨st', z'⟩ := st.keepAll hb hk
    rw [hsum]
    exact ⟨h', tk, N, rfl, st', z', q t'⟩⟩
theorem op_eqL {a b : Addr} {ms ns : List Int} (hu : A.units < cLine) (ha : LstAt C N a (ms.map V.int)) (hb : LstAt C N b (ns.map V.int)) : Op C A N (compareOp .Eq) (.ref a) (.ref b) (.bool (decide (ms = ns))) := ⟨fun ta tb Q q s st z => by
  obtain ⟨us, hl, hv⟩ := ha _ st
  obtain ⟨ws, hl2, hw⟩ := hb _ st
  have h1 : us.length = ms.length := by have := congrArg List.length hv; simpa using this
  have h2 : ws.length = ns.length := by have := congrArg List.length hw; simpa using this
  by_cases hlen : ms.length = ns.length
  · refine SeqAt.eq_listAt (e := fun j => (ms.getD j 0) == (ns.getD j 0)) hl hl2 (by simp [h1, h2, hlen]) hu (fun j g1 g2 => ?_) ?_
    · have g1' : j < us.length := by simpa using g1
      have g2' : j < ws.length := by simpa using g2
      have e1 : ab us[j] = V.int (ms.getD j 0) := by
        have := congrArg (fun l => l[j]?) hv
        simp only [List.getElem?_map, List.getElem?_eq_getElem g1', List.getElem?_eq_getElem (show j < ms.length by omega), Option.map_some, Option.some.injEq] at this
        rw [this, List.getD_eq_getElem?_getD, List.getElem?_eq_getElem (show j < ms.length by omega)]
        rfl
      have e2 : ab ws[j] = V.int (ns.getD j 0) := by
        have := congrArg (fun l => l[j]?) hw
        simp only [List.getElem?_map, List.getElem?_eq_getElem g2', List.getElem?_eq_getElem (show j < ns.length by omega), Option.map_some, Option.some.injEq] at this
        rw [this, List.getD_eq_getElem?_getD, List.getElem?_eq_getElem (show j < ns.length by omega)]
        rfl
      obtain ⟨t1, f1⟩ := ab_int e1
      obtain ⟨t2, f2⟩ := ab_int e2
      show EqAt _ _ us[j] ws[j] _
      rw [f1, f2]
      exact EqAt.int_int _ _ _ _
    · have : (List.range us.toArray.size).all (fun j => (ms.getD j 0) == (ns.getD j 0)) = decide (ms = ns) := by
        rw [Bool.eq_iff_iff, List.all_eq_true, decide_eq_true_eq]
        constructor
        · intro h
          apply List.ext_getElem hlen
          intro j j1 j2
          have := h j (by rw [List.mem_range]; simp [h1]; omega)
          simpa [List.getD_eq_getElem?_getD, List.getElem?_eq_getElem j1, List.getElem?_eq_getElem j2] using this
        · rintro rfl j _
          simp
      rw [this]
      exact ⟨s.heap, s.toks, N, rfl, st, z, q 0⟩
  · have : decide (ms = ns) = false := decide_eq_false fun e => hlen (by rw [e])
    rw [this] at q
    exact SeqAt.eq_list_lengthsAt hl hl2 (by simp [h1, h2, hlen]) hu ⟨s.heap, s.toks, N, rfl, st, z, q 0⟩⟩
end
end Mine
end
section
open PySem PySem.W PyProof.Rows PySem.Calls PySem.Builtin
set_option maxHeartbeats 4000000
set_option maxRecDepth 100000
namespace Mine
section
variable {C : Cx} {A : Around} {N N' : Led} {env : Env}
theorem join_ones : ∀ cs : List Nat, Str.join ⟨#[]⟩ (cs.map fun c => (⟨#[c]⟩ : Str)) = ⟨cs.toArray⟩
  | [] => rfl
  | [c] => rfl
  | c :: d :: r => by
    have ih := join_ones (d :: r)
    show (⟨#[c]⟩ : Str) ++ ⟨#[]⟩ ++ Str.join ⟨#[]⟩ ((d :: r).map fun c => (⟨#[c]⟩ : Str)) = _
    rw [ih]
    show (⟨(#[c] ++ #[]) ++ (d :: r).toArray⟩ : Str) = _
    congr 1
    simp
theorem fold_ones : ∀ (cs : List Nat) (k : Nat), (cs.map fun c => (⟨#[c]⟩ : Str)).foldl (fun (n : Nat) (x : Str) => n + x.length + (⟨#[]⟩ : Str).length) k = k + cs.length
  | [], k => rfl
  | c :: cs, k => by
    rw [List.map_cons, List.foldl_cons, fold_ones cs, List.length_cons]
    show k + 1 + 0 + cs.length = _
    omega
theorem strs_of : ∀ {us : List Value} {cs : List Nat}, us.map ab = cs.map (fun c => V.str ⟨#[c]⟩) → ∃ l : List (Str × Tok), us = strValues l ∧ l.map (·.1) = cs.map fun c => (⟨#[c]⟩ : Str)
  | [], [], _ => ⟨[], rfl, rfl⟩
  | [], _ :: _, h => by cases h
  | _ :: _, [], h => by cases h
  | u :: us, c :: cs, h => by
    rw [List.map_cons, List.map_cons, List.cons.injEq] at h
    obtain ⟨t, rfl⟩ := ab_str h.1
    obtain ⟨l, rfl, hl⟩ := strs_of h.2
    exact ⟨(⟨#[c]⟩, t) :: l, rfl, by rw [List.map_cons, hl]; rfl⟩
theorem w_join {D : Addr} {cs : List Nat} {t : Tok} {Q : Value → Led → Prop} (hm : (D, .list (cs.map fun c => V.str ⟨#[c]⟩)) ∈ N) (hz : cs.length ≤ 1000) (q : ∀ t, Q (.str ⟨cs.toArray⟩ t) N) : W C A (call (.builtin "str.join") [.str "" t, .ref D]) N Q := fun s st z => by
  obtain ⟨us, hl, hv⟩ := st.isList hm
  obtain ⟨l, rfl, hl2⟩ := strs_of hv
  refine SC.join (texts := cs.map fun c => (⟨#[c]⟩ : Str)) hl hl2 ?_ fun t' k => ?_
  · unfold JoinOk
    have e : (cs.map fun c => (⟨#[c]⟩ : Str)).toArray.foldl (fun (n : Nat) (x : Str) => n + x.length + ("" : Str).length) 0 = cs.length := by
      rw [List.foldl_toArray]
      have := fold_ones cs 0
      rw [Nat.zero_add] at this
      exact this
    rw [e]
    show (!decide (cs.length > sizeLine)) = true
    rw [sizeLine_eq]
    simp
    omega
  · show ∃ _ _ _, _
    have e : Txt.join ("" : Str) (cs.map fun c => (⟨#[c]⟩ : Str)) = ⟨cs.toArray⟩ := (StrLaws.glued_eq_join _ _).trans (join_ones cs)
    rw [e]
    exact ⟨s.heap, k, N, rfl, st, z, q t'⟩
theorem w_getm_join {x : Str} {t : Tok} {pl : Sem Bool} {Q : Value × List Value → Led → Prop} (q : Q (.builtin "str.join", [.str x t]) N) : W C A (getMethod (.str x t) "join" pl) N Q := fun s st z => by
  refine getMethod_builtin (T := "str") (id := "str.join") ?_ ?_ ?_ ?_ ?_ ?_
  · exact typeIs_str s x t
  · exact F.plainAttrs_str
  · exact F.slot_str_join
  · exact F.type_str_join
  · exact fun _ e => nomatch e
  · exact ⟨s.heap, s.toks, N, rfl, st, z, q⟩
theorem ev_subStr {value : Expr} {i : Nat} {kd : Nat} {p pos : Pos} {x : Str} {c : Nat} (hv : Ev C A env N value (.str x)) (hi : x.cps[i]? = some c) (hz : i < 1000) (ht : ∀ o r, letTemporaryGo value o r = pure () := by intro _ _; rfl) :
    Ev C A env N (.Subscript value (.Constant (.int i) kd p) pos) (.str ⟨#[c]⟩) := ⟨fun Q q s st z => by
  refine wpAny_Subscript_Constant_late (wpAny_mono (hv.go (fun u N' => N' = N ∧ ∃ t, u = .str x t) (fun t => ⟨rfl, t, rfl⟩) s st z) (fun u s₁ g => ?_) fun _ _ e => e) ht
  obtain ⟨h₁, tk₁, N₁, rfl, st₁, z₁, rfl, t, rfl⟩ := g
  refine wpAny_Constant_int ?_
  refine ⟨"str", "str.__getitem__", F.slot_str_getitem.lookup, typeIs_str _ _ _, P.getItem_str ?_ ?_ ⟨h₁, _, _, rfl, st₁, z₁, q _⟩⟩
  · simp only [Bool.or_eq_false_iff, decide_eq_false_iff_not]
    omega
  · have hs : i < x.length := by
      rcases Nat.lt_or_ge i x.cps.size with h | h
      · exact h
      · rw [Array.getElem?_eq_none h] at hi; cases hi
    have : seqIndex? (i : Int) x.length = some i := by
      have hn : ¬ ((i : Int) < 0) := by omega
      simp [seqIndex?, hn, hs]
    rw [this]
    exact hi⟩
theorem w_and2 {e1 e2 : Expr} {pos : Pos} {Q : Value → Led → Prop} (h : W C A (eval e1 env) N (fun u N1 => ∃ b, ab u = .bool b ∧ (b = false → Q u N1) ∧ (b = true → W C A (eval e2 env) N1 Q))) : W C A (eval (.BoolOp .And [e1, e2] pos) env) N Q := by
  rw [arm_eval_BoolOp]
  show W C A (do
    let v ← eval e1 env
    standAt pos
    let t ← holding [v] (truthy v)
    match BoolOp.And, t with
    | .And, false | .Or, true => pure v
    | _, _ => boolOp pos .And [eval e2 env]) N Q
  refine W.bind (h.mono fun u N1 g => ?_)
  obtain ⟨b, hb, g1, g2⟩ := g
  obtain rfl := ab_bool hb
  refine W.bind (W.standAt (W.bind (W.holding (tr_bool.go 0 _ ?_))))
  cases b with
  | false => exact W.pure (g1 rfl)
  | true => exact g2 rfl
theorem w_cmpW {l r : Expr} {op : CmpOp} {pos : Pos} {Q : Value → Led → Prop} (h : W C A (eval l env) N (fun u N1 => W C A (eval r env) N1 (fun u2 N2 => W C A (compareOp op u u2) N2 Q))) (hm : behindInMarks op r = false := by with_unfolding_all rfl) : W C A (eval (.Compare l [op] [r] pos) env) N Q := by
  rw [eval_Compare1, markedBehindIn_of_false hm]
  exact W.bind (h.mono fun u N1 g => W.bind (W.holding (g.mono fun u2 N2 g2 => W.bind (W.standAt (W.operate g2)))))
theorem tv_cmpW {l r : Expr} {op : CmpOp} {pos : Pos} {c : Bool} (h : W C A (eval l env) N (fun u N1 => W C A (eval r env) N1 (fun u2 N2 => N.Sublist N2 ∧ ∀ Q : Value → Led → Prop, Q (.bool c) N2 → W C A (compareOp op u u2) N2 Q))) (hm : behindInMarks op r = false := by with_unfolding_all rfl) : Tv C A env N (.Compare l [op] [r] pos) c := ⟨fun Q q whole hw => by
  rw [isTrue_Compare1, markedBehindIn_of_false hm]
  refine W.bind (h.mono fun u N1 g => W.bind (W.holding (g.mono fun u2 N2 g2 => W.bind (W.standAt (W.bind (W.operate (g2.2 _ ?_)))))))
  exact W.holding ((tr_bool.go 0 Q q).sub g2.1)⟩
theorem w_list2W {e1 e2 : Expr} {pos : Pos} {Q : Value → Led → Prop} (h : W C A (eval e1 env) N (fun u1 N1 => W C A (eval e2 env) N1 (fun u2 N2 => ∀ a, Q (.ref a) ((a, .list [ab u1, ab u2]) :: N2))))
    (he1 : ∀ rest, starEach (e1 :: rest) env = (false, eval e1 env) :: starEach rest env := by intro _; rfl) (he2 : ∀ rest, starEach (e2 :: rest) env = (false, eval e2 env) :: starEach rest env := by intro _; rfl) : W C A (eval (.List [e1, e2] pos) env) N Q := fun s st z => by
  refine wpAny_List ?_
  rw [he1, he2]
  refine spliced_cons (wpAny_mono (h s st z) (fun u1 s₁ g => ?_) fun _ _ e => e.elim)
  obtain ⟨h₁, tk₁, N₁, rfl, st₁, z₁, g⟩ := g
  refine spliced_cons (wpAny_mono (g.at (s := s) (tk := tk₁) st₁ z₁) (fun u2 s₂ g => spliced_nil ?_) fun _ _ e => e.elim)
  obtain ⟨h₂, tk₂, N₂, rfl, st₂, z₂, q⟩ := g
  refine ⟨by simp [sizeLine_eq], ?_⟩
  exact ⟨_, tk₂, _, rfl, st₂.push (ao := .list [ab u1, ab u2]) ⟨#[u1, u2], 0, rfl, rfl⟩ rfl z₂, by rw [Heap.size_push]; exact Nat.le_succ_of_le z₂, q _⟩
theorem w_ifexp {t b o : Expr} {pos : Pos} {c : Bool} {Q : Value → Led → Prop} (h : Tv C A env N t c) (hb : c = true → W C A (eval b env) N Q) (ho : c = false → W C A (eval o env) N Q) : W C A (eval (.IfExp t b o pos) env) N Q := by
  show W C A (do if ← isTrue t env (eval t env) then eval b env else eval o env) N Q
  refine W.bind (h.go _ ?_ _ rfl)
  cases c with
  | true => exact hb rfl
  | false => exact ho rfl
end
end Mine
end
section
open PySem PySem.W PyProof.Rows PySem.Calls
namespace Mine
section
variable {C : Cx} {A : Around} {N N' : Led} {env : Env}
theorem Sat.cell {h : Heap} (st : Sat C h N) {c : Addr} {v : Option V} (hm : (c, .cell v) ∈ N) : ∃ v', h.IsCell c v' ∧ v'.map ab = v := by
  obtain ⟨o, e, v', hd, hv⟩ := st.at hm
  exact ⟨v', ⟨o, e, hd⟩, hv⟩
/-- a name that lives in a cell -/
theorem ev_cell {x : Str} {pos : Pos} {c : Addr} {v : V} (hm : (c, .cell (some v)) ∈ N) (hc : env.cells.lookup x = some c := by rfl) (hl : env.kindOf x = some .cell := by rfl) (hk : env.scope.kind = .function := by rfl)
    (hd : (x == ("__debug__" : Str)) = false := by decide) : Ev C A env N (.Name x pos) v := ⟨fun Q h s st z => by
  obtain ⟨v', hv, e⟩ := st.cell hm
  cases v' with
  | none => cases e
  | some u =>
    obtain ⟨t, rfl⟩ := raw_of (Option.some.inj e)
    exact wpAny_Name (wpAny_loadName_cell hk hl hc hv ⟨s.heap, s.toks, N, rfl, st, z, h t⟩) hd⟩
theorem w_storeC {c : Addr} {x : Str} {u : Value} {v : V} {v0 : Option V} {Q : Unit → Led → Prop} (U : Upd c (.cell v0) (.cell (some v)) N N') (hu : ab u = v) (h : Q () N') (hc : env.cells.lookup x = some c := by rfl) (hl : env.kindOf x = some .cell := by rfl) (hk : env.scope.kind = .function := by rfl) :
    W C A (storeName env x u) N Q := fun s st z => by
  obtain ⟨v', hv, e⟩ := st.cell U.mem
  refine wpAny_storeName_cell hk hl hc hv fun h' ⟨o, ho, hd⟩ hs => ?_
  exact ⟨h', _, N', rfl, st.upd U hs ho ⟨some u, hd, by rw [← hu]; rfl⟩, by rw [hs.1]; exact z, h⟩
/-- a list's item -/
theorem ev_subL {value i : Expr} {pos : Pos} {a : Addr} {vs : List V} {k : Nat} {v : V} (late : ∀ {M : Model} {A : Around} {E : Value → Shared → Prop} {s : Shared} {Q : Value → Shared → Prop}, wpAny M A (eval value env) (fun o s₁ => wpAny M A (eval i env) (fun i s₂ => SubscriptOn M A o i Q E s₂) E s₁) E s → wpAny M A (eval (.Subscript value i pos) env) Q E s)
    (hv : Ev C A env N value (.ref a)) (hi : Ev C A env N i (.int (k : Nat))) (hm : (a, .list vs) ∈ N) (hk : vs[k]? = some v) (hz : k ≤ 1000) : Ev C A env N (.Subscript value i pos) v := ⟨fun Q q s st z => by
  refine late (wpAny_mono (hv.go (fun u N' => N' = N ∧ u = .ref a) (fun t => ⟨rfl, rfl⟩) s st z) (fun o s₁ g => ?_) fun _ _ e => e)
  obtain ⟨h₁, tk₁, N₁, rfl, st₁, z₁, rfl, rfl⟩ := g
  refine wpAny_mono ((hi.go (fun o N' => N' = N₁ ∧ ∃ t, o = .int k t) (fun t => ⟨rfl, t, rfl⟩)).at (s := s) (tk := tk₁) st₁ z₁) (fun o s₂ g => ?_) fun _ _ e => e
  obtain ⟨h₂, tk₂, N₂, rfl, st₂, z₂, rfl, t₂, rfl⟩ := g
  obtain ⟨us, hl, he⟩ := st₂.isList hm
  have hx : ∃ x, us[k]? = some x ∧ ab x = v := by
    rw [← he, List.getElem?_map] at hk
    cases hu : us[k]? with
    | none => rw [hu] at hk; cases hk
    | some x => rw [hu] at hk; exact ⟨x, rfl, Option.some.inj hk⟩
  obtain ⟨x, hx, rfl⟩ := hx
  obtain ⟨t, e⟩ := raw_of (u := x) rfl
  refine ⟨"list", "list.__getitem__", F.slot_list_getitem.lookup, hl.typeIs, wpAny_getItem_list hl (by omega) (by omega) (x := x) (by simpa using hx) ⟨h₂, tk₂, N₂, rfl, st₂, z₂, ?_⟩⟩
  rw [e]
  exact q t⟩
/-- letters[i:] and letters[:i] -/
theorem ev_fromS {value l : Expr} {sp pos : Pos} {x : Str} {i : Int} {L : Addr} {m : List (Str × Option V)} (hL : (L, .ns m) ∈ N) (hv : Ev C A env N value (.str x)) (hl : Ev C A env N l (.int i)) (hz : x.length ≤ sizeLine)
    (hg : ∀ r t, letTemporaryGo value (.str x t) r = pure () := by intro _ _; rfl) : Ev C A env N (.Subscript value (.Slice (some l) none none sp) pos) (.str (Txt.slice x (some i) none)) := ⟨fun Q q s st z => by
  refine Subscript_ (wpAny_mono (hv.go (fun o N' => N' = N ∧ ∃ t, o = .str x t) (fun t => ⟨rfl, t, rfl⟩) s st z) (fun o s₁ g => ?_) fun _ _ e => e)
  obtain ⟨h₁, tk₁, N₁, rfl, st₁, z₁, rfl, t, rfl⟩ := g
  refine wpAny_Slice (evalPart_some_step (wpAny_mono ((hl.go (fun o N' => N' = N₁ ∧ ∃ t, o = .int i t) (fun t => ⟨rfl, t, rfl⟩)).at (s := s) (tk := tk₁) st₁ z₁) (fun o s₂ g => ?_) fun _ _ e => e))
  obtain ⟨h₂, tk₂, N₂, rfl, st₂, z₂, rfl, t₂, rfl⟩ := g
  obtain ⟨f, os, O⟩ := st₂.opened hL
  refine evalPart_none_step (evalPart_none_step (slice_strN_sn (s := ⟨h₂, s.gens, s.drawn, tk₂, s.os⟩) O.F O.Nw (fun h' t' k F' N' => ?_) (by rfl) (fun r => hg r t) hz))
  obtain ⟨st', z'⟩ := O.shut h' F' N'
  exact ⟨h', k, _, rfl, st', z', q t'⟩⟩
theorem ev_toS {value u : Expr} {sp pos : Pos} {x : Str} {j : Int} {L : Addr} {m : List (Str × Option V)} (hL : (L, .ns m) ∈ N) (hv : Ev C A env N value (.str x)) (hu : Ev C A env N u (.int j)) (hz : x.length ≤ sizeLine)
    (hg : ∀ r t, letTemporaryGo value (.str x t) r = pure () := by intro _ _; rfl) : Ev C A env N (.Subscript value (.Slice none (some u) none sp) pos) (.str (Txt.slice x none (some j))) := ⟨fun Q q s st z => by
  refine Subscript_ (wpAny_mono (hv.go (fun o N' => N' = N ∧ ∃ t, o = .str x t) (fun t => ⟨rfl, t, rfl⟩) s st z) (fun o s₁ g => ?_) fun _ _ e => e)
  obtain ⟨h₁, tk₁, N₁, rfl, st₁, z₁, rfl, t, rfl⟩ := g
  refine wpAny_Slice (evalPart_none_step (evalPart_some_step (wpAny_mono ((hu.go (fun o N' => N' = N₁ ∧ ∃ t, o = .int j t) (fun t => ⟨rfl, t, rfl⟩)).at (s := s) (tk := tk₁) st₁ z₁) (fun o s₃ g => ?_) fun _ _ e => e)))
  obtain ⟨h₃, tk₃, N₃, rfl, st₃, z₃, rfl, t₃, rfl⟩ := g
  obtain ⟨f, os, O⟩ := st₃.opened hL
  refine evalPart_none_step (slice_strN_ns (s := ⟨h₃, s.gens, s.drawn, tk₃, s.os⟩) O.F O.Nw (fun h' t' k F' N' => ?_) (by rfl) (fun r => hg r t) hz)
  obtain ⟨st', z'⟩ := O.shut h' F' N'
  exact ⟨h', k, _, rfl, st', z', q t'⟩⟩
/-- if e1 and e2, the second a call -/
theorem w_ifAnd {e1 e2 : Expr} {body orelse : List Stmt} {pos pos2 : Pos} {b1 : Bool} {Q : Flow → Led → Prop} (h1 : Tv C A env N e1 b1) (h2 : b1 = true → W C A (eval e2 env) N (fun u N1 => ∃ b, u = .bool b ∧ (b = true → W C A (execs body env) N1 Q) ∧ (b = false → W C A (execs orelse env) N1 Q)))
    (h3 : b1 = false → W C A (execs orelse env) N Q) (hs : ∀ whole, isTrue e2 env whole = (do let v ← whole; standAt e2.pos; PySem.holding [v] (truthy v)) := by intro _; rfl) : W C A (exec (.If (.BoolOp .And [e1, e2] pos2) body orelse pos) env) N Q := by
  rw [exec_If]
  refine W.bind (W.standAt (W.bind ?_))
  show W C A (do match BoolOp.And, ← isTrue e1 env (eval e1 env) with | .And, false => pure false | .Or, true => pure true | _, _ => allTrue .And [e2] env) N _
  refine W.bind (h1.go _ ?_ _ rfl)
  cases b1 with
  | false => exact W.pure (h3 rfl)
  | true =>
    show W C A (do match BoolOp.And, ← isTrue e2 env (eval e2 env) with | .And, false => pure false | .Or, true => pure true | _, _ => allTrue .And [] env) N _
    rw [hs]
    refine W.bind (W.bind ((h2 rfl).mono ?_))
    rintro u N1 ⟨b, rfl, ht, hf⟩
    refine W.bind (W.standAt (W.holding ?_))
    refine (tr_bool (C := C) (A := A) (N := N1) (b := b)).go 0 _ ?_
    cases b with
    | true => exact W.pure (ht rfl)
    | false => exact W.pure (hf rfl)
/-- f(e), e a call or a list made -/
theorem w_callW1 {fe e : Expr} {f : Value} {pos : Pos} {Q : Value → Led → Prop} (hf : ∀ Q : Value → Led → Prop, Q f N → W C A (eval fe env) N Q) (hk : keeps C.K f = true) (h : W C A (eval e env) N (fun u N' => W C A (call f [u]) N' Q)) (hs : starEach [e] env = [(false, eval e env)] := by rfl)
    (he : eval (.Call fe [e] [] pos) env = (do callWith pos (← eval fe env) [] (backTo pos (starEach [e] env)) (backToKw pos (keywordEach [] env))) := by rfl) : W C A (eval (.Call fe [e] [] pos) env) N Q := by
  rw [he]
  exact W.bind (hf _ (w_callWithW1 (first := []) hk h hs))
end
end Mine
end
section
open PySem PySem.W PyProof.Rows PySem.Calls
set_option maxHeartbeats 4000000
set_option maxRecDepth 100000
namespace Mine
theorem dummy_fill : (fun (_ : Params → Frag) (_ : OpenLaw) => True) Mine.mk.heap_1 PySem.Challenge.rw_pm0067_02 := by
  k_fill
  trivial


structure Dx where
  w : World
  h₀ : Heap
  mg : Str → Option Value
  mb : Str → Option Value
  hK : (Mine.K2 w.params).In h₀
  hg : h₀.Ns mainGlobals mg
  hb : h₀.Ns builtinsNs mb
  hbn : ∀ x : Str, x ≠ "__name__" → mb x = bootBuiltins x
  hlim : h₀.NoLimit
noncomputable def cx (D : Dx) : Cx := { prog := PySem.Challenge.pw_pm0067_02, w := D.w, K := Mine.K2 D.w.params, h₀ := D.h₀, mg := D.mg, mb := D.mb, hK := D.hK, hg := D.hg, hb := D.hb, hbn := D.hbn, hlim := D.hlim }

theorem nB0 (D : Dx) : ([Str.ofString "type", Str.ofString "int", Str.ofString "bool", Str.ofString "len", Str.ofString "abs", Str.ofString "divmod", Str.ofString "chr", Str.ofString "ord", Str.ofString "sum", Str.ofString "range", Str.ofString "isinstance", Str.ofString "str", Str.ofString "dict", Str.ofString "bytes", Str.ofString "object"] : List Str).all (fun x => nsIn (cx D).K mainGlobals x == some none) = true := by kernel_rfl
theorem nB (D : Dx) (x : Str) (h : x ∈ [Str.ofString "type", Str.ofString "int", Str.ofString "bool", Str.ofString "len", Str.ofString "abs", Str.ofString "divmod", Str.ofString "chr", Str.ofString "ord", Str.ofString "sum", Str.ofString "range", Str.ofString "isinstance", Str.ofString "str", Str.ofString "dict", Str.ofString "bytes", Str.ofString "object"]) : nsIn (cx D).K mainGlobals x = some none := beq_iff_eq.mp (List.all_eq_true.mp (nB0 D) x h)
theorem nG_index (D : Dx) : nsIn (cx D).K mainGlobals "_index" = some (some (.ref 53)) := by kernel_rfl
theorem ioA0 (D : Dx) : ([Str.ofString "_StringIO__newline", Str.ofString "_StringIO__buf", Str.ofString "_StringIO__pos"] : List Str).all (attrOk (cx D).K 587) = true := by kernel_rfl
theorem ioS0 (D : Dx) : ([Str.ofString "_StringIO__newline", Str.ofString "_StringIO__buf", Str.ofString "_StringIO__pos"] : List Str).all (setOk (cx D).K 587) = true := by kernel_rfl
theorem ioA (D : Dx) (x : Str) (h : x ∈ [Str.ofString "_StringIO__newline", Str.ofString "_StringIO__buf", Str.ofString "_StringIO__pos"]) : attrOk (cx D).K 587 x = true := List.all_eq_true.mp (ioA0 D) x h
theorem ioS (D : Dx) (x : Str) (h : x ∈ [Str.ofString "_StringIO__newline", Str.ofString "_StringIO__buf", Str.ofString "_StringIO__pos"]) : setOk (cx D).K 587 x = true := List.all_eq_true.mp (ioS0 D) x h
theorem ioM_check (D : Dx) : methOk (cx D).K 587 "_StringIO__check" 371 = true := by kernel_rfl
abbrev ioM (t : Str) (p : Int) : List (Str × V) := [("_StringIO__newline", .str "\n"), ("_StringIO__buf", .str t), ("_StringIO__pos", .int p)]
theorem ioM_no (t : Str) (p : Int) : ((ioM t p).map (·.1)).contains (Str.ofString "_StringIO__check") = false := by
  show ([Str.ofString "_StringIO__newline", Str.ofString "_StringIO__buf", Str.ofString "_StringIO__pos"] : List Str).contains (Str.ofString "_StringIO__check") = false
  decide +kernel

def shNames : List Str := [Str.ofString "instream", Str.ofString "infile", Str.ofString "posix", Str.ofString "eof", Str.ofString "commenters", Str.ofString "wordchars", Str.ofString "whitespace", Str.ofString "whitespace_split", Str.ofString "quotes", Str.ofString "escape", Str.ofString "escapedquotes", Str.ofString "state", Str.ofString "pushback", Str.ofString "lineno", Str.ofString "debug", Str.ofString "token", Str.ofString "filestack", Str.ofString "source", Str.ofString "_punctuation_chars", Str.ofString "_pushback_chars"]
theorem shA0 (D : Dx) : shNames.all (attrOk (cx D).K 722) = true := by kernel_rfl
theorem shS0 (D : Dx) : shNames.all (setOk (cx D).K 722) = true := by kernel_rfl
theorem shA (D : Dx) (x : Str) (h : x ∈ [Str.ofString "instream", Str.ofString "infile", Str.ofString "posix", Str.ofString "eof", Str.ofString "commenters", Str.ofString "wordchars", Str.ofString "whitespace", Str.ofString "whitespace_split", Str.ofString "quotes", Str.ofString "escape", Str.ofString "escapedquotes", Str.ofString "state", Str.ofString "pushback", Str.ofString "lineno", Str.ofString "debug", Str.ofString "token", Str.ofString "filestack", Str.ofString "source", Str.ofString "_punctuation_chars", Str.ofString "_pushback_chars"]) : attrOk (cx D).K 722 x = true := List.all_eq_true.mp (shA0 D) x h
theorem shS (D : Dx) (x : Str) (h : x ∈ [Str.ofString "instream", Str.ofString "infile", Str.ofString "posix", Str.ofString "eof", Str.ofString "commenters", Str.ofString "wordchars", Str.ofString "whitespace", Str.ofString "whitespace_split", Str.ofString "quotes", Str.ofString "escape", Str.ofString "escapedquotes", Str.ofString "state", Str.ofString "pushback", Str.ofString "lineno", Str.ofString "debug", Str.ofString "token", Str.ofString "filestack", Str.ofString "source", Str.ofString "_punctuation_chars", Str.ofString "_pushback_chars"]) : setOk (cx D).K 722 x = true := List.all_eq_true.mp (shS0 D) x h

local macro_rules | `(tactic| walk_at "mem") => `(tactic| first | assumption | exact List.Mem.head _ | (apply List.Mem.tail; walk_at "mem"))
local macro_rules | `(tactic| walk_at "memS") => `(tactic| first | with_reducible exact List.mem_cons_self | (with_reducible apply List.mem_cons_of_mem; walk_at "memS"))
local macro_rules | `(tactic| walk_at "upd") => `(tactic| first | assumption | exact Upd.head | (apply Upd.tail; walk_at "upd"))
local macro_rules | `(tactic| walk_at "has") => `(tactic| first | with_reducible exact Has.head | (with_reducible apply Has.tail; walk_at "has"))
local macro_rules | `(tactic| walk_at "put") => `(tactic| first | with_reducible exact Put.head | (with_reducible apply Put.tail; walk_at "put"))
local macro_rules | `(tactic| walk_at "hasd") => `(tactic| first | with_reducible exact HasD.head | (with_reducible apply HasD.tail; walk_at "hasd"))
local macro_rules | `(tactic| walk_at "putd") => `(tactic| first | with_reducible exact PutD.head | (with_reducible apply PutD.tail; walk_at "putd"))
local macro_rules | `(tactic| walk_at "isK") => `(tactic| exact (lookup_skip Mine.without (Mine.mk.heap_1 _) (by (show List.lookup _ (Mine.mk.heap_1 _) = _; k_is)) (by decide +kernel)))
local macro_rules | `(tactic| walk_at "lv") => `(tactic| (refine' ev_local (m := ?m) ?hm ?hv; (case hm => walk_at "mem"); (case hv => walk_at "has")))

local macro_rules | `(tactic| walk_at "nameB") => `(tactic| exact nB _ _ (by walk_at "memS"))
local macro_rules | `(tactic| walk_at "boot") => `(tactic| first | with_reducible exact boot_type | with_reducible exact boot_int | with_reducible exact boot_bool | with_reducible exact PySem.boot_len | boot_fact)
local macro_rules | `(tactic| walk_at "aok") => `(tactic| first | with_reducible exact ioA _ _ (by walk_at "memS") | with_reducible exact shA _ _ (by walk_at "memS"))
local macro_rules | `(tactic| walk_at "sok") => `(tactic| first | with_reducible exact ioS _ _ (by walk_at "memS") | with_reducible exact shS _ _ (by walk_at "memS"))
local macro_rules | `(tactic| walk_at "ev") => `(tactic| first
  | exact ev_int | exact ev_str | exact ev_none | exact ev_bool
  | (refine' ev_local ?hm ?hv; (case hm => walk_at "mem"); (case hv => walk_at "has"))
  | (refine' ev_attr ?v ?a ?b ?c ?k ?p; (case v => walk_at "ev"); (case a => walk_at "mem"); (case b => walk_at "mem"); (case c => walk_at "hasd"); (case k => walk_at "aok"); (case p => exact rfl))
  | (refine' ev_bin ?l ?r ?o; (case l => walk_at "ev"); (case r => walk_at "ev"); (case o => walk_at "op"))
  | (refine' ev_cmp ?l ?r ?o; (case l => walk_at "ev"); (case r => walk_at "ev"); (case o => walk_at "op"))
  | (refine' ev_neg ?l; (case l => walk_at "ev"))
  | (refine' ev_call ?f ?k ?a ?c; (case f => walk_at "ev"); (case k => exact rfl); (case a => walk_at "evs"); (case c => walk_at "co"))
  | (refine' ev_nameB ?a ?b; (case a => walk_at "nameB"); (case b => walk_at "boot")))
local macro_rules | `(tactic| walk_at "evs") => `(tactic| first | exact Evs.nil | (refine' Evs.cons ?h ?r; (case h => walk_at "ev"); (case r => walk_at "evs")))
local macro_rules | `(tactic| walk_at "op") => `(tactic| first | with_reducible exact op_add | with_reducible exact op_sub | with_reducible exact op_eq | with_reducible exact op_ne | with_reducible exact op_lt | with_reducible exact op_le | with_reducible exact op_gt | with_reducible exact op_ge | with_reducible exact op_isnone | with_reducible exact op_isnotnone | with_reducible exact op_iadd | with_reducible exact op_isub | with_reducible exact op_eqs | with_reducible exact op_nes | with_reducible exact op_in | with_reducible exact op_notin | with_reducible exact op_eqsn | with_reducible exact op_eqnn | with_reducible exact op_isTrueS | exact op_isnot_same rfl | exact op_isnot_other rfl (by decide))
local macro_rules | `(tactic| walk_at "co") => `(tactic| first | exact co_isi_str | exact co_isi_bytes | exact co_type_int | exact co_int_int | exact co_abs | exact co_type_str | exact co_len_str (by omega))
local macro_rules | `(tactic| walk_at "tv") => `(tactic| first
  | (refine' tv_cmp ?l ?r ?o; (case l => walk_at "ev"); (case r => walk_at "ev"); (case o => walk_at "op"))
  | (refine' tv_bool ?zb; (case zb => walk_at "ta"))
  | (refine' tv_not ?h; (case h => walk_at "tv"))
  | (refine' tv_ev ?e ?t; (case e => walk_at "ev"); (case t => walk_at "tr")))
local macro_rules | `(tactic| walk_at "ta") => `(tactic| first
  | exact ta_or
  | exact ta_and
  | (refine' ta_or_g ?za ?zr; (case za => walk_at "tv"); (case zr => (intro hz; first | (cases hz; done) | walk_at "ta")); (try exact false))
  | (refine' ta_and_g ?za ?zr; (case za => walk_at "tv"); (case zr => (intro hz; first | (cases hz; done) | walk_at "ta")); (try exact false)))
local macro_rules | `(tactic| walk_at "tr") => `(tactic| first | exact tr_bool | exact tr_none | exact tr_int)
local macro_rules | `(tactic| walk_at "bound") => `(tactic| first | exact List.forall_mem_nil _ | (refine' List.forall_mem_cons.mpr ⟨?a, ?b⟩; (case a => first | exact Bound.none | exact Bound.some rfl rfl); (case b => walk_at "bound")))
local macro_rules | `(tactic| walk_at "enter") => `(tactic| (
  (case ho => (walk_at "isK"))
  (case hcd => kernel_rfl)
  (case hbody => (exact rfl))
  (case hbind => first | exact fun s _ => BindsTo.of_eq rfl | exact fun s X => binds_K (K := Mine.K2 _) X rfl (by walk_at "isK") rfl rfl rfl)
  (case hloc => (exact locs rfl))
  (case hm => (simp only [List.map_cons, List.map_nil]; decide +kernel))
  (case hmb => (walk_at "bound"))
  (case hcell => decide)
  (case hco => (exact rfl))
  (case hgen => exact rfl)
  (case hk => exact rfl)))
local macro_rules | `(tactic| walk_at "asgA") => `(tactic| (refine' w_asgA ?zh ?zo ?zL ?z1 ?zU ?zp ?za ?zk ?_; (case zh => walk_at "ev"); (case zo => walk_at "ev"); (case zL => walk_at "mem"); (case z1 => walk_at "mem"); (case zU => walk_at "upd"); (case zp => walk_at "putd"); (case za => exact fun _ => rfl); (case zk => walk_at "sok")))
local macro_rules | `(tactic| walk_at "no") => `(tactic| first | exact Bool.false_ne_true | exact (fun h => Bool.noConfusion h : ¬ (true = false)) | decide | (simp only [decide_eq_true_eq, decide_eq_false_iff_not, Bool.or_eq_true, Bool.and_eq_true, not_or, not_and, Bool.not_eq_true, Bool.or_eq_false_iff, ne_eq, bne_iff_ne, beq_iff_eq, bne_eq_false_iff_eq, beq_eq_false_iff_ne] <;> omega) | (simp <;> omega))
local macro_rules | `(tactic| walk_at "iff") => `(tactic| (refine' w_if ?ztv ?zyes ?_; (case ztv => walk_at "tv"); (case zyes => (intro hb; exact absurd hb (by walk_at "no"))); intro _))
local macro_rules | `(tactic| walk_at "ift") => `(tactic| (refine' w_if ?ztv ?_ ?zno; (case ztv => walk_at "tv"); (case zno => (intro hb; exact absurd hb (by walk_at "no"))); intro _))
local macro_rules | `(tactic| walk_at "asg") => `(tactic| (refine' w_assign ?zh ?zU ?zp ?_ ?za; (case zh => walk_at "ev"); (case zU => walk_at "upd"); (case zp => walk_at "put"); (case za => exact fun _ => rfl)))
local macro_rules | `(tactic| walk_at "asgN") => `(tactic| (refine' w_newAt ?zh ?zo ?zL ?z1 ?z2 ?zm ?zU ?zn ?zl ?za ?zk ?_; (case zh => walk_at "ev"); (case zo => walk_at "ev"); (case zL => walk_at "mem"); (case z1 => walk_at "mem"); (case z2 => walk_at "mem"); (case zm => simp only [List.nil_append, List.cons_append]; exact rfl); (case zU => walk_at "upd"); (case zn => (simp only [List.map_cons, List.map_nil]; decide +kernel)); (case zl => (simp only [List.length_cons, List.length_nil]; decide)); (case za => exact fun _ => rfl); (case zk => walk_at "sok")))
local macro_rules | `(tactic| walk_at "into") => `(tactic| (
  (case ho => (walk_at "isK"))
  (case hcd => kernel_rfl)
  (case hbody => (exact rfl))
  (case hm => (simp only [List.map_cons, List.map_nil]; decide +kernel))
  (case hcell => decide)
  (case hco => (exact rfl))
  (case hgen => exact rfl)
  (case hk => exact rfl)))
local macro_rules | `(tactic| walk_at "binds") => `(tactic| (refine' binds_W ?zb ?zl ?zm; (case zb => first | exact fun s _ => BindsTo.of_eq rfl | exact fun s X => binds_K (K := Mine.K2 _) X rfl (by walk_at "isK") rfl rfl rfl); (case zl => exact locs rfl); (case zm => walk_at "bound")))
local macro_rules | `(tactic| walk_at "augA") => `(tactic| (refine' w_augAt ?zo ?zL ?z1 ?z2 ?z3 ?zk ?zp ?zv ?zop ?zU ?zput ?za ?zs ?_; (case zo => walk_at "ev"); (case zL => walk_at "mem"); (case z1 => walk_at "mem"); (case z2 => walk_at "mem"); (case z3 => walk_at "hasd"); (case zk => walk_at "aok"); (case zp => exact rfl); (case zv => walk_at "ev"); (case zop => first | walk_at "op" | exact op_iadds (by first | decide +kernel | omega)); (case zU => walk_at "upd"); (case zput => walk_at "putd"); (case za => exact fun _ => rfl); (case zs => walk_at "sok")))

local macro_rules | `(tactic| k_qdec) => `(tactic| kernel_rfl)

theorem index_spec (D : Dx) {A : Around} (hA : Room A 1) {N : Led} {t1 t2 : Tok} {i : Int} {x : Str} (h1 : -1099511627776 ≤ i) (h2 : i ≤ 1099511627776) {Q : Value → Led → Prop} (q : ∀ t, Q (.int i t) N) :
    W (cx D) A (call (.ref 53) [.int i t1, .str x t2]) N Q := by
  refine' w_call (m := [("n", some (.int i)), ("what", some (.str x))]) ?ho ?hcd ?hbody hA.lt ?hbind ?hloc ?hm ?hmb ?hcell ?hco ?hgen ?hk ?main
  walk_at "enter"
  intro L
  refine w_cons ?_
  walk_at "iff"
  refine w_nil ?_
  refine w_cons ?_
  walk_at "asg"
  refine w_cons ?_
  walk_at "iff"
  refine w_nil ?_
  refine w_cons (w_ret (v := .int i) (by walk_at "ev") fun t => ⟨N, List.sublist_cons_self .., q t⟩)


theorem check_spec (D : Dx) {A : Around} (hA : Room A 1) {N : Led} {i di : Addr} {t : Str} {p : Int} (h1 : (i, .inst 587 di) ∈ N) (h2 : (di, .dict (ioM t p)) ∈ N) {Q : Value → Led → Prop} (q : Q .none N) :
    W (cx D) A (call (.ref 371) [.ref i]) N Q := by
  refine' w_call (m := [("self", some (.ref i))]) ?ho ?hcd ?hbody hA.lt ?hbind ?hloc ?hm ?hmb ?hcell ?hco ?hgen ?hk ?main
  walk_at "enter"
  intro L
  refine w_cons ?_
  walk_at "iff"
  exact w_nil (w_nil ⟨N, List.sublist_cons_self .., q⟩)

theorem read_spec (D : Dx) {A : Around} (hA : Room A 3) {N N' : Led} {i di : Addr} {t : Str} {p : Nat} {tk : Tok} (hz : (t.length : Int) < 1000) (h1 : (i, .inst 587 di) ∈ N) (U : Upd di (.dict (ioM t p)) (.dict (ioM t (p + 1))) N N') (hp : p < t.length) {Q : Value → Led → Prop}
    (q : ∀ t', Q (.str (Txt.slice t (some p) (some (p + 1))) t') N') : W (cx D) A (call (.ref 533) [.ref i, .int 1 tk]) N Q := by
  have h2 := U.mem
  have h2' := U.mem'
  have h1' := U.other _ h1 (fun e => by cases (Prod.mk.inj e).2)
  have hz' : (t.length : Int) < 9223372036854775808 := by omega
  refine' w_call (m := [("self", some (.ref i)), ("size", some (.int 1)), ("start", none), ("stop", none)]) ?ho ?hcd ?hbody hA.lt ?hbind ?hloc ?hm ?hmb ?hcell ?hco ?hgen ?hk ?main
  walk_at "enter"
  intro L
  refine w_cons ?_
  walk_at "iff"
  refine w_nil ?_
  refine w_cons (w_assignW ?_)
  refine w_callE (fun Q q => w_nameG (nG_index D) q) (by kernel_rfl) (by walk_at "evs") fun us hu => ?_
  cases hu with
  | cons hu => cases hu with
    | cons hu => cases hu with
      | nil =>
  refine index_spec D (A := _) (Room.deeper (hA.le (by omega))) (by omega) (by omega) fun t' => ?_
  refine' w_store (v := .int 1) ?zU ?zp ?zu ?_
  case zu => exact rfl
  case zU => exact Upd.head
  case zp => walk_at "put"
  refine w_cons (w_exprCall ?_)
  refine w_methodE (vo := .ref i) (by walk_at "ev") (fun t' Q q => w_getMethod (by walk_at "mem") (by walk_at "mem") (ioM_no t p) (ioM_check D) q) (by kernel_rfl) .nil fun us hu => ?_
  cases hu
  refine check_spec D (Room.deeper (hA.le (by omega))) (by walk_at "mem") (by walk_at "mem") ⟨rfl, ?_⟩
  refine w_cons ?_
  walk_at "asg"
  refine w_cons ?_
  walk_at "asg"
  refine w_cons ?_
  walk_at "iff"
  refine w_nil ?_
  refine w_cons ?_
  refine' w_if ?ztv ?zyes ?zno
  case ztv => walk_at "tv"
  case zyes =>
    intro _
    refine w_cons ?_
    walk_at "asg"
    refine w_nil ?_
    refine w_cons ?_
    walk_at "asgA"
    refine w_cons (w_ret (ev_slice_str (List.Mem.head _) (by walk_at "ev") (by walk_at "ev") (by walk_at "ev") (by rw [sizeLine_eq]; omega)) fun t' => ⟨_, List.sublist_cons_self .., q t'⟩)
  case zno =>
    intro hb
    have hs : (t.length : Int) = p + 1 := by
      simp at hb
      omega
    rw [hs]
    refine w_nil ?_
    refine w_cons ?_
    walk_at "asgA"
    refine w_cons (w_ret (ev_slice_str (List.Mem.head _) (by walk_at "ev") (by walk_at "ev") (by walk_at "ev") (by rw [sizeLine_eq]; omega)) fun t' => ⟨_, List.sublist_cons_self .., q t'⟩)

theorem readE_spec (D : Dx) {A : Around} (hA : Room A 3) {N : Led} {i di : Addr} {t : Str} {p : Nat} {tk : Tok} (hz : (t.length : Int) < 1000) (h1 : (i, .inst 587 di) ∈ N) (h2 : (di, .dict (ioM t p)) ∈ N) (hp : t.length ≤ p) {Q : Value → Led → Prop}
    (q : ∀ t', Q (.str "" t') N) : W (cx D) A (call (.ref 533) [.ref i, .int 1 tk]) N Q := by
  have hz' : (t.length : Int) < 9223372036854775808 := by omega
  refine' w_call (m := [("self", some (.ref i)), ("size", some (.int 1)), ("start", none), ("stop", none)]) ?ho ?hcd ?hbody hA.lt ?hbind ?hloc ?hm ?hmb ?hcell ?hco ?hgen ?hk ?main
  walk_at "enter"
  intro L
  refine w_cons ?_
  walk_at "iff"
  refine w_nil ?_
  refine w_cons (w_assignW ?_)
  refine w_callE (fun Q q => w_nameG (nG_index D) q) (by kernel_rfl) (by walk_at "evs") fun us hu => ?_
  cases hu with
  | cons hu => cases hu with
    | cons hu => cases hu with
      | nil =>
  refine index_spec D (A := _) (Room.deeper (hA.le (by omega))) (by omega) (by omega) fun t' => ?_
  refine' w_store (v := .int 1) ?zU ?zp ?zu ?_
  case zu => exact rfl
  case zU => exact Upd.head
  case zp => walk_at "put"
  refine w_cons (w_exprCall ?_)
  refine w_methodE (vo := .ref i) (by walk_at "ev") (fun t' Q q => w_getMethod (by walk_at "mem") (by walk_at "mem") (ioM_no t p) (ioM_check D) q) (by kernel_rfl) .nil fun us hu => ?_
  cases hu
  refine check_spec D (Room.deeper (hA.le (by omega))) (by walk_at "mem") (by walk_at "mem") ⟨rfl, ?_⟩
  refine w_cons ?_
  walk_at "asg"
  refine w_cons ?_
  walk_at "asg"
  refine w_cons ?_
  walk_at "ift"
  exact w_cons (w_ret ev_str fun t' => ⟨_, List.sublist_cons_self .., q t'⟩)

theorem rawL0 {us : List Value} (h : RawL us []) : us = [] := by cases h; rfl
theorem rawL1 {us : List Value} {v : V} (h : RawL us [v]) : ∃ t, us = [raw v t] := by
  cases h with
  | cons h => cases h; exact ⟨_, rfl⟩
theorem rawL2 {us : List Value} {v w : V} (h : RawL us [v, w]) : ∃ t t', us = [raw v t, raw w t'] := by
  cases h with
  | cons h => obtain ⟨t, rfl⟩ := rawL1 h; exact ⟨_, _, rfl⟩
theorem nG_BytesIO (D : Dx) : nsIn (cx D).K mainGlobals "BytesIO" = some (some (.ref 340)) := by kernel_rfl
theorem nG_StringIO (D : Dx) : nsIn (cx D).K mainGlobals "StringIO" = some (some (.ref 587)) := by kernel_rfl
theorem io_new (D : Dx) : NewFacts (cx D).K (model (cx D).prog (cx D).w) 587 where
  obj := ⟨_, _, _, _, by walk_at "isK", rfl, rfl, rfl⟩
  base := fun h X => Looks.of_peek X (by kernel_rfl)
  made := fun h X => Looks.of_peek X (by kernel_rfl)
  self := by kernel_rfl
  top := by kernel_rfl
  call := by kernel_rfl
  typ := by kernel_rfl
theorem io_own (D : Dx) : OwnFacts (cx D).K (model (cx D).prog (cx D).w) 587 84 80 357 where
  obj := ⟨_, _, _, _, by walk_at "isK", rfl, rfl, rfl⟩
  made := fun h X => Looks.of_peek X (by kernel_rfl)
  self := by kernel_rfl
  call := by kernel_rfl
  typ := by kernel_rfl
  reads := by kernel_rfl
  found := by kernel_rfl
  stat := by kernel_rfl
  init := by kernel_rfl
  fn := by kernel_rfl
theorem io_isnot1 (D : Dx) : peek (cx D).K (cx D).S (compareOp .IsNot (.ref 587) (.ref 340)) = some (.bool true) := by kernel_rfl
theorem io_isnot2 (D : Dx) : peek (cx D).K (cx D).S (compareOp .IsNot (.ref 587) (.ref 587)) = some (.bool false) := by kernel_rfl
theorem ioM_tr (D : Dx) : methOk (cx D).K 587 "_StringIO__translated" 364 = true := by kernel_rfl

theorem ionew_spec (D : Dx) {A : Around} (hA : Room A 1) {N : Led} {t : Str} {tk : Tok} {Q : Value → Led → Prop} (q : ∀ x dx, Q (.ref x) ((x, .inst 587 dx) :: (dx, .dict []) :: N)) :
    CodeW (cx D) A (.call (.ref 80) ⟨[.ref 587, .str t tk], []⟩) N Q := by
  refine' code_call (m := [("cls", some (.ref 587))]) ?ho ?hcd ?hbody hA.lt ?hbind ?hm ?hcell ?hco ?hgen ?hk ?main
  walk_at "into"
  case hbind =>
    refine W.ofPeek2 (r := fun a b => [(Str.ofString "cls", Value.ref 587), (Str.ofString "args", Value.ref a), (Str.ofString "kwargs", Value.ref b)]) (fun a b => by kernel_rfl) (fun a b => And.intro ?_ (And.intro ?_ rfl))
    · intro x hx
      simp only [List.mem_cons, List.not_mem_nil, or_false] at hx
      rcases hx with rfl | rfl | rfl <;> rfl
    · intro p hp
      simp only [List.mem_cons, List.not_mem_nil, or_false] at hp
      subst hp
      exact Bound.some rfl rfl
  intro L
  refine w_cons ?_
  refine' w_if_f ?ztv ?zno
  case ztv =>
    refine tv_bool (ta_and_t ?_ (ta_and_f ?_))
    · exact tv_cmp (by walk_at "ev") (ev_nameG (nG_BytesIO D)) (op_peek (io_isnot1 D))
    · exact tv_cmp (by walk_at "ev") (ev_nameG (nG_StringIO D)) (op_peek (io_isnot2 D))
  refine w_nil ?_
  refine w_cons (w_retCall ?_)
  refine w_methodE (vo := .oth (.type "object")) (ev_nameB (by walk_at "nameB") (by walk_at "boot")) (fun t' Q q => w_getmObjNew q) rfl (by walk_at "evs") fun us hu => ?_
  cases hu with
  | cons hu => cases hu with
    | nil => exact (code_new (io_new D) fun x dx => ⟨_, List.Sublist.cons_cons _ (List.Sublist.cons_cons _ (List.sublist_cons_self _ _)), q x dx⟩).call

theorem tr_spec (D : Dx) {A : Around} (hA : Room A 1) {N : Led} {i di : Addr} {t s : Str} {tk : Tok} {p : Int} (h1 : (i, .inst 587 di) ∈ N) (h2 : (di, .dict (ioM t p)) ∈ N) {Q : Value → Led → Prop} (q : ∀ tk, Q (.str s tk) N) :
    W (cx D) A (call (.ref 364) [.ref i, .str s tk]) N Q := by
  refine' w_call (m := [("self", some (.ref i)), ("s", some (.str s)), ("newline", none)]) ?ho ?hcd ?hbody hA.lt ?hbind ?hloc ?hm ?hmb ?hcell ?hco ?hgen ?hk ?main
  walk_at "enter"
  intro L
  refine w_cons ?_
  walk_at "asg"
  refine w_cons ?_
  walk_at "iff"
  refine w_nil ?_
  refine w_cons ?_
  walk_at "iff"
  refine w_nil ?_
  exact w_cons (w_ret (v := .str s) (by walk_at "ev") fun t => ⟨N, List.sublist_cons_self .., q t⟩)

theorem ioinit_spec (D : Dx) {A : Around} (hA : Room A 2) {N : Led} {i di : Addr} {t : Str} {tk : Tok} {Q : Value → Led → Prop} (q : Q .none ((i, .inst 587 di) :: (di, .dict (ioM t 0)) :: N)) :
    CodeW (cx D) A (.call (.ref 357) ⟨[.ref i, .str t tk], []⟩) ((i, .inst 587 di) :: (di, .dict []) :: N) Q := by
  refine' code_call (m := [("self", some (.ref i)), ("initial_value", some (.str t)), ("newline", some (.str "\n"))]) ?ho ?hcd ?hbody hA.lt ?hbind ?hm ?hcell ?hco ?hgen ?hk ?main
  walk_at "into"
  case hbind => walk_at "binds"
  intro L
  refine w_cons ?_
  walk_at "iff"
  refine w_nil ?_
  refine w_cons ?_
  walk_at "iff"
  refine w_nil ?_
  refine w_cons ?_
  walk_at "iff"
  refine w_nil ?_
  refine w_cons ?_
  walk_at "asgN"
  refine w_cons ?_
  walk_at "asgN"
  refine w_cons ?_
  walk_at "asgN"
  refine w_cons ?_
  walk_at "ift"
  refine w_cons (w_assignAttr ?_)
  refine w_methodE (vo := .ref i) (by walk_at "ev") (fun t' Q q => w_getMethod (List.Mem.tail _ (List.Mem.head _)) (List.Mem.tail _ (List.Mem.tail _ (List.Mem.head _))) (ioM_no "" 0) (ioM_tr D) q) (by kernel_rfl) (by walk_at "evs") fun us hu => ?_
  obtain ⟨tk', rfl⟩ := rawL1 hu
  refine tr_spec D (p := 0) (t := "") (Room.deeper (hA.le (by omega))) (List.Mem.tail _ (List.Mem.head _)) (List.Mem.tail _ (List.Mem.tail _ (List.Mem.head _))) fun tk => ?_
  refine (by walk_at "ev" : Ev _ _ _ _ _ _).go _ fun _ => ?_
  refine' w_setAttr (v := .str t) (m' := ioM t 0) (List.Mem.head _) (List.Mem.tail _ (List.Mem.head _)) ?zU ?zp rfl ?zk ?_
  case zU => exact .tail (.tail .head)
  case zp => exact .tail .head
  case zk => walk_at "sok"
  exact w_nil (w_nil ⟨_, List.sublist_cons_self _ _, q⟩)

theorem stringio_spec (D : Dx) {A : Around} (hA : Room A 3) {N : Led} {t : Str} {tk : Tok} {Q : Value → Led → Prop} (q : ∀ x dx, Q (.ref x) ((x, .inst 587 dx) :: (dx, .dict (ioM t 0)) :: N)) :
    W (cx D) A (call (.ref 587) [.str t tk]) N Q :=
  w_makeOwn (io_own D) (ionew_spec D (Room.make hA |>.le (by omega)) fun x dx => ⟨x, dx, rfl, .head _, ioinit_spec D (Room.make hA) ⟨rfl, q x dx⟩⟩)

theorem w_methodF {C : Cx} {A : Around} {N : Led} {env : Env} {o : Expr} {vo : V} {name : Str} {apos pos : Pos} {f : Value} {first : Tok → List Value} {pl : Sem Bool} {es : List Expr} {vs : List V} {Q : Value → Led → Prop} (ho : Ev C A env N o vo) (hm : ∀ t, ∀ Q : Value × List Value → Led → Prop, Q (f, first t) N → W C A (getMethod (raw vo t) name pl) N Q)
    (hk : keeps C.K f = true) (h : Evs C A env N es vs) (q : ∀ t us, RawL us vs → W C A (call f (first t ++ us)) N Q)
    (he : eval (.Call (.Attribute o name apos) es [] pos) env = (do
      let ov ← eval o env
      standAt apos.atName
      let (f, first) ← PySem.holding [ov] (getMethod ov name pl)
      callWith pos f first (backTo pos (starEach es env)) (backToKw pos (keywordEach [] env))) := by rfl) : W C A (eval (.Call (.Attribute o name apos) es [] pos) env) N Q := by
  rw [he]
  exact W.bind (ho.go _ fun t => W.bind (W.standAt (W.bind (W.holding (hm t _ (w_callWith hk h (q t)))))))

abbrev shM (e : V) (p : Bool) (ch wc : Str) (ins pq fs pb : Addr) (st : V) (ln : Int) (tok : Str) : List (Str × V) := [(Str.ofString "instream", .ref ins), (Str.ofString "infile", .none), (Str.ofString "posix", .bool p), (Str.ofString "eof", e), (Str.ofString "commenters", .str "#"), (Str.ofString "wordchars", .str wc), (Str.ofString "whitespace", .str " \t\r\n"), (Str.ofString "whitespace_split", .bool false), (Str.ofString "quotes", .str "'\""), (Str.ofString "escape", .str "\\"), (Str.ofString "escapedquotes", .str "\""), (Str.ofString "state", st), (Str.ofString "pushback", .ref pq), (Str.ofString "lineno", .int ln), (Str.ofString "debug", .int 0), (Str.ofString "token", .str tok), (Str.ofString "filestack", .ref fs), (Str.ofString "source", .none), (Str.ofString "_punctuation_chars", .str ch), (Str.ofString "_pushback_chars", .ref pb)]
def wc0 : Bool → Str
  | true => (Str.ofString "abcdfeghijklmnopqrstuvwxyzABCDEFGHIJKLMNOPQRSTUVWXYZ0123456789_" ++ Str.ofString "ßàáâãäåæçèéêëìíîïðñòóôõöøùúûüýþÿÀÁÂÃÄÅÆÇÈÉÊËÌÍÎÏÐÑÒÓÔÕÖØÙÚÛÜÝÞ") ++ Str.ofString "~-./*?="
  | false => Str.ofString "abcdfeghijklmnopqrstuvwxyzABCDEFGHIJKLMNOPQRSTUVWXYZ0123456789_" ++ Str.ofString "~-./*?="
def wcOf (p : Bool) (ch : Str) : Str := ⟨(wc0 p).cps.filter (fun c => !ch.cps.toList.contains c)⟩
def eofV : Bool → V
  | true => .none
  | false => .str ""
abbrev rdL (x dx ins di pq fs pb : Addr) (e : V) (p : Bool) (ch wc : Str) (st : V) (ln : Int) (tok : Str) (t : Str) (pos : Int) (pbl : List V) (N : Led) : Led := (pb, .deq pbl) :: (fs, .deq []) :: (pq, .deq []) :: (ins, .inst 587 di) :: (di, .dict (ioM t pos)) :: (x, .inst 722 dx) :: (dx, .dict (shM e p ch wc ins pq fs pb st ln tok)) :: N
theorem nG_deque (D : Dx) : nsIn (cx D).K mainGlobals "deque" = some (some (.type "collections.deque")) := by kernel_rfl
theorem shinit_spec (D : Dx) {A : Around} (hA : Room A 5) {N : Led} {x dx : Addr} {t ch : Str} {tk t1 : Tok} {p : Bool} {Q : Value → Led → Prop} (hc0 : ch.length ≠ 0) (hc1 : ch.cps.all (· < 128) = true) (hc2 : ch.cps.size ≤ 1000) (hc3 : ch.cps.toList.Nodup) (q : ∀ ins di pq fs pb, Q .none (rdL x dx ins di pq fs pb (eofV p) p ch (wcOf p ch) (.str " ") 1 "" t 0 [] N)) :
    CodeW (cx D) A (.call (.ref 646) ⟨[.ref x, .str t tk], [(Str.ofString "posix", .bool p), (Str.ofString "punctuation_chars", .str ch t1)]⟩) ((x, .inst 722 dx) :: (dx, .dict []) :: N) Q := by
  refine' code_call (m := [(Str.ofString "self", some (.ref x)), (Str.ofString "instream", some (.str t)), (Str.ofString "infile", some .none), (Str.ofString "posix", some (.bool p)), (Str.ofString "punctuation_chars", some (.str ch)), (Str.ofString "t", none)]) ?ho ?hcd ?hbody hA.lt ?hbind ?hm ?hcell ?hco ?hgen ?hk ?main
  walk_at "into"
  case hbind => walk_at "binds"
  intro L
  refine w_cons ?_
  refine' w_if_t ?ztv ?_
  case ztv => exact tv_ev (by walk_at "ev") tr_bool
  refine w_cons (w_assignW ?_)
  refine w_callE (fun Q q => w_nameG (nG_StringIO D) q) (by kernel_rfl) (by walk_at "evs") fun us hu => ?_
  obtain ⟨tk', rfl⟩ := rawL1 hu
  refine stringio_spec D (Room.deeper (hA.le (by omega))) fun ins di => ?_
  refine' w_store (v := .ref ins) ?zU ?zp rfl ?_
  case zU => exact .tail (.tail .head)
  case zp => walk_at "put"
  refine w_nil ?_
  refine w_cons ?_
  walk_at "ift"
  refine w_cons ?_
  walk_at "asgN"
  refine w_cons ?_
  walk_at "asgN"
  refine w_nil ?_
  refine w_cons ?_
  walk_at "asgN"
  have trc : ∀ {A : Around} {N : Led}, Tr (cx D) A N (.str ch) true := fun {A N} => by
    have h := tr_str (C := cx D) (A := A) (N := N) (x := ch) (by have : ch.length = ch.cps.size := rfl; omega)
    have e : ((ch.length : Int) != 0) = true := by simp [bne_iff_ne]; omega
    rwa [e] at h
  have hAd : ∀ {e : Env}, Room (A.deeper e) 4 := Room.deeper hA
  cases p with
  | false =>
    refine w_cons ?_
    walk_at "iff"
    refine w_cons ?_
    walk_at "asgN"
    refine w_nil ?_
    refine w_cons ?_
    walk_at "asgN"
    refine w_cons ?_
    walk_at "asgN"
    refine w_cons ?_
    walk_at "iff"
    refine w_nil ?_
    refine w_cons ?_
    walk_at "asgN"
    refine w_cons ?_
    walk_at "asgN"
    refine w_cons ?_
    walk_at "asgN"
    refine w_cons ?_
    walk_at "asgN"
    refine w_cons ?_
    walk_at "asgN"
    refine w_cons ?_
    walk_at "asgN"
    refine w_cons (w_newAtW (w_callE (fun Q q => w_nameG (nG_deque D) q) (by kernel_rfl) (by walk_at "evs") fun us hu => ?_))
    obtain rfl := rawL0 hu
    refine w_deque fun pq => (by walk_at "ev" : Ev _ _ _ _ _ _).go _ fun _ => ?_
    refine' w_setNew (v := .ref pq) ?zL ?z1 ?z2 ?zm ?zU rfl ?zn ?zl ?zk ?_
    case zL => walk_at "mem"
    case z1 => walk_at "mem"
    case z2 => walk_at "mem"
    case zm => simp only [List.nil_append, List.cons_append]; exact rfl
    case zU => walk_at "upd"
    case zn => (simp only [List.map_cons, List.map_nil]; decide +kernel)
    case zl => (simp only [List.length_cons, List.length_nil]; decide)
    case zk => walk_at "sok"
    refine w_cons ?_
    walk_at "asgN"
    refine w_cons ?_
    walk_at "asgN"
    refine w_cons ?_
    walk_at "asgN"
    refine w_cons (w_newAtW (w_callE (fun Q q => w_nameG (nG_deque D) q) (by kernel_rfl) (by walk_at "evs") fun us hu => ?_))
    obtain rfl := rawL0 hu
    refine w_deque fun fs => (by walk_at "ev" : Ev _ _ _ _ _ _).go _ fun _ => ?_
    refine' w_setNew (v := .ref fs) ?zL ?z1 ?z2 ?zm ?zU rfl ?zn ?zl ?zk ?_
    case zL => walk_at "mem"
    case z1 => walk_at "mem"
    case z2 => walk_at "mem"
    case zm => simp only [List.nil_append, List.cons_append]; exact rfl
    case zU => walk_at "upd"
    case zn => (simp only [List.map_cons, List.map_nil]; decide +kernel)
    case zl => (simp only [List.length_cons, List.length_nil]; decide)
    case zk => walk_at "sok"
    refine w_cons ?_
    walk_at "asgN"
    refine w_cons (w_if_f (tv_not (tv_ev (by walk_at "ev") trc)) ?_)
    refine w_cons (w_if_f (tv_cmp (by walk_at "ev") (by walk_at "ev") op_isTrueS) ?_)
    refine w_nil (w_nil ?_)
    refine w_cons ?_
    walk_at "asgN"
    refine w_cons (w_if_t (tv_ev (by walk_at "ev") trc) ?_)
    refine w_cons (w_newAtW (w_callE (fun Q q => w_nameG (nG_deque D) q) (by kernel_rfl) (by walk_at "evs") fun us hu => ?_))
    obtain rfl := rawL0 hu
    refine w_deque fun pb => (by walk_at "ev" : Ev _ _ _ _ _ _).go _ fun _ => ?_
    refine' w_setNew (v := .ref pb) ?zL ?z1 ?z2 ?zm ?zU rfl ?zn ?zl ?zk ?_
    case zL => walk_at "mem"
    case z1 => walk_at "mem"
    case z2 => walk_at "mem"
    case zm => simp only [List.nil_append, List.cons_append]; exact rfl
    case zU => walk_at "upd"
    case zn => (simp only [List.map_cons, List.map_nil]; decide +kernel)
    case zl => (simp only [List.length_cons, List.length_nil]; decide)
    case zk => walk_at "sok"
    refine w_cons ?_
    walk_at "augA"
    refine w_cons (w_assignW ?_)
    refine' w_methodW1 (f := .builtin "str.maketrans") (first := fun _ => []) (by walk_at "ev") ?zm rfl ?_
    case zm => exact fun t Q q => w_getm_maketrans q
    intro t'
    refine' w_fromkeys (x := ch) ?z1 ?z2 hAd.1 hc1 hc2 hc3 ?_ (hE := ?z3)
    case z1 => exact ev_nameB (by walk_at "nameB") (by walk_at "boot")
    case z2 => walk_at "ev"
    case z3 => exact fun b => by walk_at "ev"
    intro dk
    refine w_maketrans (cs := ch.cps.toList) (List.Mem.head _) (by simpa using hc2) hc3 fun tb => ?_
    refine' w_store (v := .ref tb) ?zU ?zp rfl ?_
    case zU => walk_at "upd"
    case zp => walk_at "put"
    refine w_cons (w_assignAttr ?_)
    refine w_methodF (f := .builtin "str.translate") (first := fun t => [.str _ t]) (vo := .str _) (by walk_at "ev") (fun t Q q => w_getm_translate q) rfl (by walk_at "evs") fun t8 us hu => ?_
    obtain ⟨tk9, rfl⟩ := rawL1 hu
    refine w_translate (cs := ch.cps.toList) (by walk_at "mem") (List.Mem.head _) hAd.1 (by decide +kernel) (by decide +kernel) fun t9 => ?_
    refine (by walk_at "ev" : Ev _ _ _ _ _ _).go _ fun _ => ?_
    refine' w_setAttr (v := .str _) ?zL ?z1 ?zU ?zp rfl ?zk ?_
    case zL => walk_at "mem"
    case z1 => walk_at "mem"
    case zU => walk_at "upd"
    case zp => walk_at "putd"
    case zk => walk_at "sok"
    refine w_nil (w_nil ?_)
    exact ⟨_, .cons _ (.cons _ (.cons_cons _ (.cons_cons _ (.cons_cons _ (.cons_cons _ (.cons_cons _ (.cons _ (.refl _)))))))), q ins di pq fs pb⟩
  | true =>
    refine w_cons ?_
    walk_at "ift"
    refine w_cons ?_
    walk_at "asgN"
    refine w_nil ?_
    refine w_cons ?_
    walk_at "asgN"
    refine w_cons ?_
    walk_at "asgN"
    refine w_cons ?_
    walk_at "ift"
    refine w_cons ?_
    walk_at "augA"
    refine w_nil ?_
    refine w_cons ?_
    walk_at "asgN"
    refine w_cons ?_
    walk_at "asgN"
    refine w_cons ?_
    walk_at "asgN"
    refine w_cons ?_
    walk_at "asgN"
    refine w_cons ?_
    walk_at "asgN"
    refine w_cons ?_
    walk_at "asgN"
    refine w_cons (w_newAtW (w_callE (fun Q q => w_nameG (nG_deque D) q) (by kernel_rfl) (by walk_at "evs") fun us hu => ?_))
    obtain rfl := rawL0 hu
    refine w_deque fun pq => (by walk_at "ev" : Ev _ _ _ _ _ _).go _ fun _ => ?_
    refine' w_setNew (v := .ref pq) ?zL ?z1 ?z2 ?zm ?zU rfl ?zn ?zl ?zk ?_
    case zL => walk_at "mem"
    case z1 => walk_at "mem"
    case z2 => walk_at "mem"
    case zm => simp only [List.nil_append, List.cons_append]; exact rfl
    case zU => walk_at "upd"
    case zn => (simp only [List.map_cons, List.map_nil]; decide +kernel)
    case zl => (simp only [List.length_cons, List.length_nil]; decide)
    case zk => walk_at "sok"
    refine w_cons ?_
    walk_at "asgN"
    refine w_cons ?_
    walk_at "asgN"
    refine w_cons ?_
    walk_at "asgN"
    refine w_cons (w_newAtW (w_callE (fun Q q => w_nameG (nG_deque D) q) (by kernel_rfl) (by walk_at "evs") fun us hu => ?_))
    obtain rfl := rawL0 hu
    refine w_deque fun fs => (by walk_at "ev" : Ev _ _ _ _ _ _).go _ fun _ => ?_
    refine' w_setNew (v := .ref fs) ?zL ?z1 ?z2 ?zm ?zU rfl ?zn ?zl ?zk ?_
    case zL => walk_at "mem"
    case z1 => walk_at "mem"
    case z2 => walk_at "mem"
    case zm => simp only [List.nil_append, List.cons_append]; exact rfl
    case zU => walk_at "upd"
    case zn => (simp only [List.map_cons, List.map_nil]; decide +kernel)
    case zl => (simp only [List.length_cons, List.length_nil]; decide)
    case zk => walk_at "sok"
    refine w_cons ?_
    walk_at "asgN"
    refine w_cons (w_if_f (tv_not (tv_ev (by walk_at "ev") trc)) ?_)
    refine w_cons (w_if_f (tv_cmp (by walk_at "ev") (by walk_at "ev") op_isTrueS) ?_)
    refine w_nil (w_nil ?_)
    refine w_cons ?_
    walk_at "asgN"
    refine w_cons (w_if_t (tv_ev (by walk_at "ev") trc) ?_)
    refine w_cons (w_newAtW (w_callE (fun Q q => w_nameG (nG_deque D) q) (by kernel_rfl) (by walk_at "evs") fun us hu => ?_))
    obtain rfl := rawL0 hu
    refine w_deque fun pb => (by walk_at "ev" : Ev _ _ _ _ _ _).go _ fun _ => ?_
    refine' w_setNew (v := .ref pb) ?zL ?z1 ?z2 ?zm ?zU rfl ?zn ?zl ?zk ?_
    case zL => walk_at "mem"
    case z1 => walk_at "mem"
    case z2 => walk_at "mem"
    case zm => simp only [List.nil_append, List.cons_append]; exact rfl
    case zU => walk_at "upd"
    case zn => (simp only [List.map_cons, List.map_nil]; decide +kernel)
    case zl => (simp only [List.length_cons, List.length_nil]; decide)
    case zk => walk_at "sok"
    refine w_cons ?_
    walk_at "augA"
    refine w_cons (w_assignW ?_)
    refine' w_methodW1 (f := .builtin "str.maketrans") (first := fun _ => []) (by walk_at "ev") ?zm rfl ?_
    case zm => exact fun t Q q => w_getm_maketrans q
    intro t'
    refine' w_fromkeys (x := ch) ?z1 ?z2 hAd.1 hc1 hc2 hc3 ?_ (hE := ?z3)
    case z1 => exact ev_nameB (by walk_at "nameB") (by walk_at "boot")
    case z2 => walk_at "ev"
    case z3 => exact fun b => by walk_at "ev"
    intro dk
    refine w_maketrans (cs := ch.cps.toList) (List.Mem.head _) (by simpa using hc2) hc3 fun tb => ?_
    refine' w_store (v := .ref tb) ?zU ?zp rfl ?_
    case zU => walk_at "upd"
    case zp => walk_at "put"
    refine w_cons (w_assignAttr ?_)
    refine w_methodF (f := .builtin "str.translate") (first := fun t => [.str _ t]) (vo := .str _) (by walk_at "ev") (fun t Q q => w_getm_translate q) rfl (by walk_at "evs") fun t8 us hu => ?_
    obtain ⟨tk9, rfl⟩ := rawL1 hu
    refine w_translate (cs := ch.cps.toList) (by walk_at "mem") (List.Mem.head _) hAd.1 (by decide +kernel) (by decide +kernel) fun t9 => ?_
    refine (by walk_at "ev" : Ev _ _ _ _ _ _).go _ fun _ => ?_
    refine' w_setAttr (v := .str _) ?zL ?z1 ?zU ?zp rfl ?zk ?_
    case zL => walk_at "mem"
    case z1 => walk_at "mem"
    case zU => walk_at "upd"
    case zp => walk_at "putd"
    case zk => walk_at "sok"
    refine w_nil (w_nil ?_)
    exact ⟨_, .cons _ (.cons _ (.cons_cons _ (.cons_cons _ (.cons_cons _ (.cons_cons _ (.cons_cons _ (.cons _ (.refl _)))))))), q ins di pq fs pb⟩

theorem pp_ok (D : Dx) : propOk (cx D).K 722 654 653 "punctuation_chars" = true := by kernel_rfl
theorem pp_spec (D : Dx) {A : Around} (hA : Room A 1) {N : Led} {x dx : Addr} {m : List (Str × V)} {ch : Str} (h1 : (x, .inst 722 dx) ∈ N) (h2 : (dx, .dict m) ∈ N) (h3 : HasD "_punctuation_chars" (.str ch) m) :
    CodeW (cx D) A (.call (.ref 653) ⟨[.ref x], []⟩) N (fun u N' => ab u = .str ch ∧ N' = N) := by
  refine' code_call (m := [(Str.ofString "self", some (.ref x))]) ?ho ?hcd ?hbody hA.lt ?hbind ?hm ?hcell ?hco ?hgen ?hk ?main
  walk_at "into"
  case hbind => walk_at "binds"
  intro L
  refine w_cons (w_ret (v := .str ch) ?_ fun t => ⟨N, List.sublist_cons_self .., rfl, rfl⟩)
  refine' ev_attr ?v ?a ?b ?c ?k ?p
  case v => walk_at "ev"
  case a => exact .tail _ h1
  case b => exact .tail _ h2
  case c => exact h3
  case k => walk_at "aok"
  case p => exact rfl
theorem indices_one {p n : Nat} (hp : p < n) : Builtin.Str.strSliceIndices (some (p : Int)) (some ((p : Int) + 1)) 1 n = [p] := by
  unfold Builtin.Str.strSliceIndices sliceRange
  have h1 : ¬ ((p : Int) < 0) := by omega
  have h2 : ¬ ((p : Int) + 1 < 0) := by omega
  simp only [h1, h2, if_false, show ((1 : Int) > 0) = True by simp, if_true]
  have e1 : min (p : Int) n = p := by omega
  have e2 : min ((p : Int) + 1) n = p + 1 := by omega
  rw [e1, e2]
  have e3 : max (0 : Int) p = p := by omega
  have e4 : max (0 : Int) (p + 1) = p + 1 := by omega
  rw [e3, e4, if_pos (by omega)]
  have e5 : (((p : Int) + 1 - p + 1 - 1) / 1).toNat = 1 := by omega
  rw [e5]
  simp [List.range, List.range.loop]
theorem slice_one {t : Str} {p : Nat} (hp : p < t.length) : Txt.slice t (some (p : Int)) (some ((p : Int) + 1)) = ⟨#[t.cps[p]'hp]⟩ := by
  unfold Txt.slice
  rw [indices_one hp]
  split
  · rename_i h
    obtain ⟨cps⟩ := t
    have hn : cps.size = 1 := by
      have h2 : (1 : Nat) = (⟨cps⟩ : Str).length := by simpa using h
      exact h2.symm
    have hp' : p < cps.size := hp
    have p0 : p = 0 := by omega
    subst p0
    congr 1
    apply Array.ext
    · simp [hn]
    · intro i h1 h2
      have : i = 0 := by omega
      subst this
      rfl
  · have hp' : p < t.cps.size := hp
    simp only [List.filterMap_cons, List.filterMap_nil, Array.getElem?_eq_getElem hp']
    rfl

theorem inS_one (x : Str) (c : Nat) : inS ⟨#[c]⟩ x = decide (c ∈ x.cps.toList) := PySem.StrLaws.found_one x c
def LetterL (u : List Nat) : Prop := ∀ c ∈ u, 65 ≤ c ∧ c ≤ 80
abbrev chV (c : Nat) : V := .str ⟨#[c]⟩
theorem let_ne {c : Nat} (h : 65 ≤ c ∧ c ≤ 80) : ((⟨#[c]⟩ : Str) == Str.ofString "\n") = false := by
  rw [beq_eq_false_iff_ne]
  intro e
  have : (#[c] : Array Nat) = #[10] := congrArg Str.cps e
  simp at this
  omega
theorem let_inS {c : Nat} (h : 65 ≤ c ∧ c ≤ 80) (x : Str) (hx : x.cps.toList.all (fun d => d < 65 || 80 < d) = true) : inS ⟨#[c]⟩ x = false := by
  rw [inS_one, decide_eq_false_iff_not]
  intro hm
  have := List.all_eq_true.mp hx c hm
  simp at this
  omega
theorem wc0_has (p : Bool) : (List.range 16).all (fun k => (wc0 p).cps.toList.contains (65 + k)) = true := by cases p <;> decide +kernel
theorem let_wc {c : Nat} (h : 65 ≤ c ∧ c ≤ 80) (p : Bool) (ch : Str) : inS ⟨#[c]⟩ (wcOf p ch) = !ch.cps.toList.contains c := by
  rw [inS_one]
  have h1 := List.all_eq_true.mp (wc0_has p) (c - 65) (by rw [List.mem_range]; omega)
  rw [show 65 + (c - 65) = c by omega] at h1
  have h2 : c ∈ (wc0 p).cps.toList := List.contains_iff_mem.mp h1
  unfold wcOf
  rw [Array.toList_filter, Bool.eq_iff_iff, decide_eq_true_eq, List.mem_filter]
  exact ⟨fun h => h.2, fun h => ⟨h2, h⟩⟩
theorem let_ch (c : Nat) (ch : Str) : inS ⟨#[c]⟩ ch = ch.cps.toList.contains c := by
  rw [inS_one]
  cases hc : ch.cps.toList.contains c
  · simp only [decide_eq_false_iff_not]
    intro h
    rw [List.contains_iff_mem.mpr h] at hc
    cases hc
  · simp only [decide_eq_true_eq]
    exact List.contains_iff_mem.mp hc
/-- the longest run of one class at the head -/
def Cut (ch : Str) (u run rest : List Nat) : Prop := u = run ++ rest ∧ run ≠ [] ∧ ∃ b, (∀ c ∈ run, ch.cps.toList.contains c = b) ∧ ∀ d r, rest = d :: r → ch.cps.toList.contains d = !b
def stV : List Nat → V
  | [] => .none
  | _ => .str " "
def hdV : List Nat → V
  | [] => .str ""
  | c :: _ => .str ⟨#[c]⟩
abbrev rtF (x : Addr) (nc res : Option V) : List (Str × Option V) := [(Str.ofString "self", some (.ref x)), (Str.ofString "quoted", some (.bool false)), (Str.ofString "escapedstate", some (.str " ")), (Str.ofString "nextchar", nc), (Str.ofString "result", res)]
theorem no_of {b : Bool} (h : b = false) : ¬ (b = true) := by rw [h]; exact Bool.false_ne_true
theorem no_and {p b : Bool} (h : b = false) : ¬ ((p && (b && true)) = true) := by rw [h]; simp
theorem no_and3 {p q b : Bool} (h : b = false) : ¬ ((p && (q && (b && true))) = true) := by rw [h]; simp
theorem op_inB {C : Cx} {A : Around} {N : Led} {x y : Str} {b : Bool} (h : inS y x = b) : Op C A N (compareOp .In) (.str y) (.str x) (.bool b) := by
  subst h
  exact op_in
theorem op_notinB {C : Cx} {A : Around} {N : Led} {x y : Str} {b : Bool} (h : inS y x = b) : Op C A N (compareOp .NotIn) (.str y) (.str x) (.bool (!b)) := by
  subst h
  exact op_notin
theorem ioM_no_read (t : Str) (p : Int) : ((ioM t p).map (·.1)).contains (Str.ofString "read") = false := by
  show ([Str.ofString "_StringIO__newline", Str.ofString "_StringIO__buf", Str.ofString "_StringIO__pos"] : List Str).contains (Str.ofString "read") = false
  decide +kernel
theorem ioM_read (D : Dx) : methOk (cx D).K 587 "read" 533 = true := by kernel_rfl
theorem trS {C : Cx} {A : Around} {N : Led} {x : Str} (h0 : x.length ≠ 0) (h1 : x.length ≤ 1000) : Tr C A N (.str x) true := by
  have h := tr_str (C := C) (A := A) (N := N) (x := x) (by omega)
  have e : ((x.length : Int) != 0) = true := by simp [bne_iff_ne]; omega
  rwa [e] at h
theorem trE {C : Cx} {A : Around} {N : Led} : Tr C A N (.str "") false := by
  have h := tr_str (C := C) (A := A) (N := N) (x := "") (by decide)
  exact h
theorem trD1 {C : Cx} {A : Around} {N : Led} {a : Addr} {v : V} (hm : (a, .deq [v]) ∈ N) : Tr C A N (.ref a) true := tr_deq hm (by simp)
theorem trD0 {C : Cx} {A : Around} {N : Led} {a : Addr} (hm : (a, .deq []) ∈ N) : Tr C A N (.ref a) false := tr_deq hm (by simp)

local macro_rules | `(tactic| walk_at "no") => `(tactic| first | exact no_of (by assumption) | exact no_and (by assumption) | exact no_and3 (by assumption))
local macro_rules | `(tactic| walk_at "pp") => `(tactic| (refine' ev_prop ?v ?a ?b (pp_ok _) rfl ?s; (case v => walk_at "ev"); (case a => walk_at "mem"); (case b => walk_at "mem"); (case s => exact pp_spec _ (Room.in1 (Room.le (Room.deeper (by assumption)) (by decide))) (by walk_at "mem") (by walk_at "mem") (by walk_at "hasd"))))

section
theorem lenS (t : Str) : t.cps.toList.length = t.length := by show t.cps.toList.length = t.cps.size; simp
theorem dropCons {t : Str} {pos c : Nat} {r : List Nat} (h : t.cps.toList.drop pos = c :: r) : pos < t.length ∧ Txt.slice t (some (pos : Int)) (some ((pos : Int) + 1)) = ⟨#[c]⟩ ∧ t.cps.toList.drop (pos + 1) = r := by
  have hp : pos < t.cps.toList.length := by
    rcases Nat.lt_or_ge pos t.cps.toList.length with h1 | h1
    · exact h1
    · rw [List.drop_eq_nil_of_le h1] at h; cases h
  have hp' : pos < t.length := lenS t ▸ hp
  rw [List.drop_eq_getElem_cons hp] at h
  injection h with h1 h2
  refine ⟨hp', ?_, h2⟩
  rw [slice_one hp', ← h1]
  rfl
theorem dropNil {t : Str} {pos : Nat} (h : t.cps.toList.drop pos = []) : t.length ≤ pos := by
  have := List.drop_eq_nil_iff.mp h
  exact lenS t ▸ this
theorem snocS (run : List Nat) (c : Nat) : (⟨run.toArray⟩ : Str) ++ (⟨#[c]⟩ : Str) = ⟨(run ++ [c]).toArray⟩ := by
  show (⟨run.toArray ++ #[c]⟩ : Str) = _
  simp
structure RInv (t ch : Str) (u : List Nat) (L x dx ins di pq fs pb : Addr) (p : Bool) (ln : Int) (N : Led) (k : Nat) (N' : Led) : Prop where
  go : ∃ nc pos pbl st tok rem, N' = (L, .ns (rtF x nc none)) :: rdL x dx ins di pq fs pb (eofV p) p ch (wcOf p ch) st ln tok t (pos : Nat) (pbl.map chV) N ∧ pbl ++ t.cps.toList.drop pos = rem ∧ pbl.length ≤ 1 ∧ k = rem.length ∧
    ((st = .none ∧ tok = "" ∧ u = [] ∧ rem = []) ∨ (st = .str " " ∧ tok = "" ∧ rem = u) ∨ ∃ b run, st = .str (if b then "c" else "a") ∧ tok = ⟨run.toArray⟩ ∧ run ≠ [] ∧ u = run ++ rem ∧ ∀ c ∈ run, ch.cps.toList.contains c = b)
structure RFin (t ch : Str) (u : List Nat) (L x dx ins di pq fs pb : Addr) (p : Bool) (ln : Int) (N N' : Led) : Prop where
  go : ∃ nc pos pbl st run rest, N' = (L, .ns (rtF x nc none)) :: rdL x dx ins di pq fs pb (eofV p) p ch (wcOf p ch) st ln ⟨run.toArray⟩ t (pos : Nat) (pbl.map chV) N ∧ pbl ++ t.cps.toList.drop pos = rest ∧ pbl.length ≤ 1 ∧
    ((u = [] ∧ run = [] ∧ rest = [] ∧ st = .none) ∨ (Cut ch u run rest ∧ st = stV rest))
local macro_rules | `(tactic| walk_at "no") => `(tactic| decide +kernel)
local macro_rules | `(tactic| walk_at "op") => `(tactic| with_reducible exact op_iadds (by assumption))
theorem rtok_spec (D : Dx) {A : Around} (hA : Room A 5) {N : Led} {x dx ins di pq fs pb : Addr} {p : Bool} {ch : Str} {st : V} {ln : Int} {t : Str} {pos : Nat} {pbl u : List Nat} (hz : (t.length : Int) < 1000) (hc0 : ch.length ≠ 0) (hc2 : ch.length ≤ 1000) (hu : LetterL u) (hrem : pbl ++ t.cps.toList.drop pos = u) (hpb : pbl.length ≤ 1) (hst : (st = .none ∧ u = []) ∨ st = .str " ") {Q : Value → Led → Prop}
    (qE : u = [] → ∀ tk pos', t.cps.toList.drop pos' = [] → Q (raw (eofV p) tk) (rdL x dx ins di pq fs pb (eofV p) p ch (wcOf p ch) .none ln "" t (pos' : Nat) [] N))
    (qR : ∀ run rest pos' pbl', Cut ch u run rest → pbl' ++ t.cps.toList.drop pos' = rest → pbl'.length ≤ 1 → ∀ tk, Q (.str ⟨run.toArray⟩ tk) (rdL x dx ins di pq fs pb (eofV p) p ch (wcOf p ch) (stV rest) ln "" t (pos' : Nat) (pbl'.map chV) N)) :
    W (cx D) A (call (.ref 690) [.ref x]) (rdL x dx ins di pq fs pb (eofV p) p ch (wcOf p ch) st ln "" t (pos : Nat) (pbl.map chV) N) Q := by
  refine' w_call (m := [(Str.ofString "self", some (.ref x)), (Str.ofString "quoted", none), (Str.ofString "escapedstate", none), (Str.ofString "nextchar", none), (Str.ofString "result", none)]) ?ho ?hcd ?hbody hA.lt ?hbind ?hloc ?hm ?hmb ?hcell ?hco ?hgen ?hk ?main
  walk_at "enter"
  intro L
  have hR : ∀ {e : Env}, Room (A.deeper e) 4 := Room.deeper hA
  have hR2 : ∀ {e : Env}, Room (A.deeper e) 2 := hR.le (by omega)
  have hul : u.length ≤ 1001 := by
    have := lenS t
    rw [← hrem, List.length_append, List.length_drop]
    omega
  refine w_cons ?_
  walk_at "asg"
  refine w_cons ?_
  walk_at "asg"
  refine w_cons (W.mono (Q := fun fl N' => fl = .next ∧ RFin t ch u L x dx ins di pq fs pb p ln N N') (w_while (fun k N' => RInv t ch u L x dx ins di pq fs pb p ln N k N') u.length ?init ?turn) ?post)
  case init =>
    refine ⟨none, pos, pbl, st, "", u, rfl, hrem, hpb, rfl, ?_⟩
    rcases hst with ⟨h1, h2⟩ | h1
    · exact .inl ⟨h1, rfl, h2, h2⟩
    · exact .inr (.inl ⟨h1, rfl, rfl⟩)
  case turn =>
    rintro n N' ⟨nc, pos, pbl, st, tok, rem, rfl, hrem, hpb, rfl, hS⟩
    have hul' : rem.length ≤ 1001 := by
      have := lenS t
      rw [← hrem, List.length_append, List.length_drop]
      omega
    refine ⟨true, tv_ev ev_bool tr_bool, fun _ => ?_, fun e => by cases e⟩
    refine w_cons (W.mono (Q := fun fl N' => fl = .next ∧ ∃ pos', N' = (L, .ns (rtF x (some (hdV rem)) none)) :: rdL x dx ins di pq fs pb (eofV p) p ch (wcOf p ch) st ln tok t (pos' : Nat) [] N ∧ t.cps.toList.drop pos' = rem.tail) ?fetch ?go)
    case fetch =>
      match pbl, hpb with
      | [c], _ =>
        subst hrem
        refine w_if_t (tv_bool (ta_and_t (tv_ev (by walk_at "pp") (trS hc0 hc2)) (ta_and_t (tv_ev (by walk_at "ev") (trD1 (.tail _ (.head _)))) ta_and))) ?_
        refine w_cons (w_assignW ?_)
        refine w_methodE (vo := .ref pb) (by walk_at "ev") (fun t' Q q => w_getm_pop (.tail _ (.head _)) q) (by kernel_rfl) .nil fun us hu => ?_
        cases hu
        refine w_popD (vs := []) (v := chV c) (.tail .head) (by simp) fun t' => ?_
        refine' w_store (v := chV c) .head ?zp rfl ?_
        case zp => walk_at "put"
        exact w_nil ⟨rfl, pos, rfl, rfl⟩
      | [], _ =>
        refine w_if_f (tv_bool (ta_and_t (tv_ev (by walk_at "pp") (trS hc0 hc2)) (ta_and_f (tv_ev (by walk_at "ev") (trD0 (.tail _ (.head _))))))) ?_
        refine w_cons (w_assignW ?_)
        refine w_methodE (vo := .ref ins) (by walk_at "ev") (fun t' Q q => w_getMethod (by walk_at "mem") (by walk_at "mem") (ioM_no_read t pos) (ioM_read D) q) (by kernel_rfl) (by walk_at "evs") fun us hu => ?_
        obtain ⟨tk, rfl⟩ := rawL1 hu
        have hrem : t.cps.toList.drop pos = rem := hrem
        cases rem with
        | nil =>
          refine readE_spec D (hR.le (by omega)) hz (by walk_at "mem") (by walk_at "mem") (dropNil hrem) fun t' => ?_
          refine' w_store (v := .str "") .head ?zp rfl ?_
          case zp => walk_at "put"
          exact w_nil ⟨rfl, pos, rfl, hrem⟩
        | cons c r =>
          obtain ⟨d1, d2, d3⟩ := dropCons hrem
          refine read_spec D (N' := (L, .ns (rtF x nc none)) :: rdL x dx ins di pq fs pb (eofV p) p ch (wcOf p ch) st ln tok t ((pos + 1 : Nat) : Int) [] N) (hR.le (by omega)) hz (by walk_at "mem") (.tail (.tail (.tail (.tail (.tail .head))))) d1 fun t' => ?_
          rw [d2]
          refine' w_store (v := chV c) .head ?zp rfl ?_
          case zp => walk_at "put"
          exact w_nil ⟨rfl, pos + 1, rfl, d3⟩
    case go =>
      clear hrem hpb
      rintro fl N' ⟨rfl, pos', rfl, hd⟩
      show W _ _ (execs _ _) _ _
      match rem, hul' with
      | [], _ =>
        show W _ _ _ ((_, .ns (rtF x (some (.str "")) none)) :: _) _
        refine w_cons ?_
        walk_at "iff"
        refine w_nil ?_
        refine w_cons ?_
        walk_at "iff"
        refine w_nil ?_
        refine w_cons ?_
        rcases hS with ⟨rfl, rfl, rfl, _⟩ | ⟨rfl, rfl, rfl⟩ | ⟨b, run, rfl, rfl, h1, h2, h3⟩
        · walk_at "ift"
          refine w_cons ?_
          walk_at "asgA"
          refine w_cons (w_break ?_)
          exact ⟨rfl, _, pos', [], _, [], _, rfl, rfl, by simp, .inl ⟨rfl, rfl, hd, rfl⟩⟩
        · walk_at "iff"
          refine w_cons ?_
          walk_at "ift"
          refine w_cons ?_
          refine w_if_t (tv_not (tv_ev (by walk_at "ev") trE)) ?_
          refine w_cons ?_
          walk_at "asgA"
          refine w_cons (w_break ?_)
          exact ⟨rfl, _, pos', [], _, [], _, rfl, rfl, by simp, .inl ⟨rfl, rfl, hd, rfl⟩⟩
        · walk_at "iff"
          refine w_cons ?_
          have e1 : ((if b then Str.ofString "c" else Str.ofString "a") == Str.ofString " ") = false := by cases b <;> decide +kernel
          have e2 : inS ((if b then Str.ofString "c" else Str.ofString "a")) (Str.ofString "'\"") = false := by cases b <;> decide +kernel
          have e3 : inS ((if b then Str.ofString "c" else Str.ofString "a")) (Str.ofString "\\") = false := by cases b <;> decide +kernel
          walk_at "iff"
          refine w_cons ?_
          walk_at "iff"
          refine w_cons ?_
          walk_at "iff"
          refine w_cons ?_
          refine w_if (tv_in2 (by walk_at "ev")) (fun _ => ?_) (fun h => absurd h (by cases b <;> decide +kernel))
          refine w_cons ?_
          refine w_if_t (tv_not (tv_ev (by walk_at "ev") trE)) ?_
          refine w_cons ?_
          walk_at "asgA"
          refine w_cons (w_break ?_)
          refine ⟨rfl, _, pos', [], _, run, [], rfl, hd, by simp, .inr ⟨⟨h2, h1, b, h3, fun d r e => by cases e⟩, rfl⟩⟩
      | c :: r, hul' =>
        have hc : 65 ≤ c ∧ c ≤ 80 := by
          rcases hS with ⟨_, _, _, h⟩ | ⟨_, _, rfl⟩ | ⟨b, run, _, _, _, rfl, _⟩
          · cases h
          · exact hu c (.head _)
          · exact hu c (List.mem_append_right _ (.head _))
        have hd : t.cps.toList.drop pos' = r := hd
        have c1 := let_ne hc
        have c2 := let_inS hc (Str.ofString " \t\r\n") (by decide +kernel)
        have c3 := let_inS hc (Str.ofString "#") (by decide +kernel)
        have c4 := let_inS hc (Str.ofString "\\") (by decide +kernel)
        have c5 := let_inS hc (Str.ofString "'\"") (by decide +kernel)
        show W _ _ _ ((_, .ns (rtF x (some (.str ⟨#[c]⟩)) none)) :: _) _
        refine w_cons ?_
        walk_at "iff"
        refine w_nil ?_
        refine w_cons ?_
        walk_at "iff"
        refine w_nil ?_
        refine w_cons ?_
        have trC : ∀ {A : Around} {N : Led}, Tr (cx D) A N (.str ⟨#[c]⟩) true := fun {A N} => trS (by show (1 : Nat) ≠ 0; decide) (by show (1 : Nat) ≤ 1000; decide)
        have c6 := let_wc hc p ch
        have c7 := let_ch c ch
        rcases hS with ⟨_, _, _, h⟩ | ⟨rfl, rfl, rfl⟩ | ⟨b, run, rfl, rfl, h1, h2, h3⟩
        · cases h
        · walk_at "iff"
          refine w_cons ?_
          walk_at "ift"
          refine w_cons ?_
          refine w_if_f (tv_not (tv_ev (by walk_at "ev") trC)) ?_
          refine w_cons ?_
          walk_at "iff"
          refine w_cons ?_
          walk_at "iff"
          refine w_cons ?_
          walk_at "iff"
          refine w_cons ?_
          cases hb : ch.cps.toList.contains c with
          | false =>
            rw [hb] at c6 c7
            refine w_if_t (tv_cmp (by walk_at "ev") (by walk_at "ev") (op_inB c6)) ?_
            refine w_cons ?_
            walk_at "asgA"
            refine w_cons ?_
            walk_at "asgA"
            repeat (refine w_nil ?_)
            exact ⟨r.length, by simp, _, pos', [], _, _, r, rfl, hd, by simp, rfl, .inr (.inr ⟨false, [c], rfl, rfl, by simp, rfl, fun d hm => by rw [List.mem_singleton.mp hm]; exact hb⟩)⟩
          | true =>
            rw [hb] at c6 c7
            refine w_if_f (tv_cmp (by walk_at "ev") (by walk_at "ev") (op_inB c6)) ?_
            refine w_cons ?_
            refine w_if_t (tv_cmp (by walk_at "ev") (by walk_at "pp") (op_inB c7)) ?_
            refine w_cons ?_
            walk_at "asgA"
            refine w_cons ?_
            walk_at "asgA"
            repeat (refine w_nil ?_)
            exact ⟨r.length, by simp, _, pos', [], _, _, r, rfl, hd, by simp, rfl, .inr (.inr ⟨true, [c], rfl, rfl, by simp, rfl, fun d hm => by rw [List.mem_singleton.mp hm]; exact hb⟩)⟩
        · have hrl : run.length + 1 ≤ sizeLine := by
            rw [sizeLine_eq]
            have := congrArg List.length h2
            simp only [List.length_append, List.length_cons] at this
            omega
          have hsz : (⟨run.toArray⟩ : Str).length + (⟨#[c]⟩ : Str).length ≤ sizeLine := by
            show run.toArray.size + 1 ≤ _
            simpa using hrl
          have trT : ∀ {A : Around} {N : Led}, Tr (cx D) A N (.str ⟨run.toArray⟩) true := fun {A N} => trS (by show run.toArray.size ≠ 0; simpa using h1) (by
            show run.toArray.size ≤ 1000
            have := congrArg List.length h2
            simp only [List.length_append, List.length_cons] at this
            simp only [List.size_toArray]
            omega)
          have e1 : ((if b then Str.ofString "c" else Str.ofString "a") == Str.ofString " ") = false := by cases b <;> decide +kernel
          have e2 : inS ((if b then Str.ofString "c" else Str.ofString "a")) (Str.ofString "'\"") = false := by cases b <;> decide +kernel
          have e3 : inS ((if b then Str.ofString "c" else Str.ofString "a")) (Str.ofString "\\") = false := by cases b <;> decide +kernel
          walk_at "iff"
          refine w_cons ?_
          walk_at "iff"
          refine w_cons ?_
          walk_at "iff"
          refine w_cons ?_
          walk_at "iff"
          refine w_cons ?_
          refine w_if (tv_in2 (by walk_at "ev")) (fun _ => ?_) (fun h => absurd h (by cases b <;> decide +kernel))
          refine w_cons ?_
          refine w_if_f (tv_not (tv_ev (by walk_at "ev") trC)) ?_
          refine w_cons ?_
          walk_at "iff"
          refine w_cons ?_
          walk_at "iff"
          refine w_cons ?_
          cases b with
          | true =>
            walk_at "ift"
            refine w_cons ?_
            cases hb : ch.cps.toList.contains c with
            | true =>
              rw [hb] at c7
              refine w_if_t (tv_cmp (by walk_at "ev") (by walk_at "pp") (op_inB c7)) ?_
              refine w_cons ?_
              walk_at "augA"
              repeat (refine w_nil ?_)
              exact ⟨r.length, by simp, _, pos', [], _, _, r, rfl, hd, by simp, rfl, .inr (.inr ⟨true, run ++ [c], rfl, snocS run c, by simp, by rw [h2]; simp, fun d hm => by
                rcases List.mem_append.mp hm with hm | hm
                · exact h3 d hm
                · rw [List.mem_singleton.mp hm]; exact hb⟩)⟩
            | false =>
              rw [hb] at c7
              refine w_if_f (tv_cmp (by walk_at "ev") (by walk_at "pp") (op_inB c7)) ?_
              refine w_cons ?_
              refine w_if_t (tv_cmp (by walk_at "ev") (by walk_at "ev") (op_notinB c2)) ?_
              refine w_cons (w_exprCall ?_)
              refine w_methodE (vo := .ref pb) (by walk_at "ev") (fun t' Q q => w_getm_append (.tail _ (.head _)) q) (by kernel_rfl) (by walk_at "evs") fun us hu => ?_
              obtain ⟨tk, rfl⟩ := rawL1 hu
              refine w_appendD (v := chV c) (.tail .head) rfl (by simp) ⟨rfl, ?_⟩
              refine w_nil ?_
              refine w_cons ?_
              walk_at "asgA"
              refine w_cons (w_break ?_)
              exact ⟨rfl, _, pos', [c], _, run, c :: r, rfl, by rw [hd]; rfl, by simp, .inr ⟨⟨h2, h1, true, h3, fun d r' e => by cases e; exact hb⟩, rfl⟩⟩
          | false =>
            walk_at "iff"
            refine w_cons ?_
            walk_at "iff"
            refine w_cons ?_
            walk_at "iff"
            refine w_cons ?_
            cases hb : ch.cps.toList.contains c with
            | false =>
              rw [hb] at c6
              refine w_if_t (tv_bool (ta_or_t (tv_cmp (by walk_at "ev") (by walk_at "ev") (op_inB c6)))) ?_
              refine w_cons ?_
              walk_at "augA"
              repeat (refine w_nil ?_)
              exact ⟨r.length, by simp, _, pos', [], _, _, r, rfl, hd, by simp, rfl, .inr (.inr ⟨false, run ++ [c], rfl, snocS run c, by simp, by rw [h2]; simp, fun d hm => by
                rcases List.mem_append.mp hm with hm | hm
                · exact h3 d hm
                · rw [List.mem_singleton.mp hm]; exact hb⟩)⟩
            | true =>
              rw [hb] at c6
              refine w_if_f (tv_bool (ta_or_f (tv_cmp (by walk_at "ev") (by walk_at "ev") (op_inB c6)) (ta_or_f (tv_cmp (by walk_at "ev") (by walk_at "ev") (op_inB c5)) (ta_or_f (tv_bool (ta_and_f (tv_ev (by walk_at "ev") tr_bool))) ta_or)))) ?_
              refine w_cons ?_
              refine w_if_t (tv_ev (by walk_at "pp") (trS hc0 hc2)) ?_
              refine w_cons (w_exprCall ?_)
              refine w_methodE (vo := .ref pb) (by walk_at "ev") (fun t' Q q => w_getm_append (.tail _ (.head _)) q) (by kernel_rfl) (by walk_at "evs") fun us hu => ?_
              obtain ⟨tk, rfl⟩ := rawL1 hu
              refine w_appendD (v := chV c) (.tail .head) rfl (by simp) ⟨rfl, ?_⟩
              refine w_nil ?_
              refine w_cons ?_
              walk_at "iff"
              refine w_nil ?_
              refine w_cons ?_
              walk_at "asgA"
              refine w_cons ?_
              refine w_if_t (tv_bool (ta_or_t (tv_ev (by walk_at "ev") trT))) ?_
              refine w_cons (w_break ?_)
              exact ⟨rfl, _, pos', [c], _, run, c :: r, rfl, by rw [hd]; rfl, by simp, .inr ⟨⟨h2, h1, false, h3, fun d r' e => by cases e; exact hb⟩, rfl⟩⟩
  case post =>
    rintro fl N' ⟨rfl, nc, pos', pbl', st', run, rest, rfl, hrem', hpb', hF⟩
    show W _ _ (execs _ _) _ _
    refine w_cons ?_
    walk_at "asg"
    refine w_cons ?_
    walk_at "asgA"
    refine w_cons ?_
    rcases hF with ⟨hu0, rfl, rfl, rfl⟩ | ⟨hC, rfl⟩
    · have hp0 : pbl' = [] := (List.append_eq_nil_iff.mp hrem').1
      have hd0 := (List.append_eq_nil_iff.mp hrem').2
      subst hp0
      cases p with
      | false =>
        walk_at "iff"
        refine w_nil ?_
        refine w_cons ?_
        walk_at "iff"
        refine w_nil ?_
        exact w_cons (w_ret (v := .str ⟨[].toArray⟩) (by walk_at "ev") fun tk => ⟨_, List.sublist_cons_self .., qE hu0 tk pos' hd0⟩)
      | true =>
        walk_at "ift"
        refine w_cons ?_
        walk_at "asg"
        refine w_nil ?_
        refine w_cons ?_
        walk_at "iff"
        refine w_nil ?_
        exact w_cons (w_ret (v := .none) (by walk_at "ev") fun tk => ⟨_, List.sublist_cons_self .., qE hu0 tk pos' hd0⟩)
    · have e4 : ((⟨run.toArray⟩ : Str) == Str.ofString "") = false := by
        rw [beq_eq_false_iff_ne]
        intro e
        have := congrArg (fun s : Str => s.cps.size) e
        simp at this
        have h0 : run.length = 0 := this
        exact hC.2.1 (List.length_eq_zero_iff.mp h0)
      walk_at "iff"
      refine w_nil ?_
      refine w_cons ?_
      walk_at "iff"
      refine w_nil ?_
      exact w_cons (w_ret (v := .str ⟨run.toArray⟩) (by walk_at "ev") fun tk => ⟨_, List.sublist_cons_self .., qR run rest pos' pbl' hC hrem' hpb' tk⟩)

end
theorem shM_noR (e : V) (p : Bool) (ch wc : Str) (ins pq fs pb : Addr) (st : V) (ln : Int) (tok : Str) : ((shM e p ch wc ins pq fs pb st ln tok).map (·.1)).contains (Str.ofString "read_token") = false := by
  show shNames.contains (Str.ofString "read_token") = false
  decide +kernel
theorem shM_noG (e : V) (p : Bool) (ch wc : Str) (ins pq fs pb : Addr) (st : V) (ln : Int) (tok : Str) : ((shM e p ch wc ins pq fs pb st ln tok).map (·.1)).contains (Str.ofString "get_token") = false := by
  show shNames.contains (Str.ofString "get_token") = false
  decide +kernel
theorem sh_mR (D : Dx) : methOk (cx D).K 722 "read_token" 690 = true := by kernel_rfl
theorem sh_mG (D : Dx) : methOk (cx D).K 722 "get_token" 683 = true := by kernel_rfl
theorem rdL_swap {x dx ins di pq fs pb : Addr} {e : V} {p : Bool} {ch wc : Str} {st : V} {ln : Int} {tok t : Str} {pos : Int} {pbl : List V} {N : Led} {f : Addr × AO} :
    (rdL x dx ins di pq fs pb e p ch wc st ln tok t pos pbl (f :: N)).Perm (f :: rdL x dx ins di pq fs pb e p ch wc st ln tok t pos pbl N) :=
  List.perm_middle (l₁ := ([(pb, .deq pbl), (fs, .deq []), (pq, .deq []), (ins, .inst 587 di), (di, .dict (ioM t pos)), (x, .inst 722 dx), (dx, .dict (shM e p ch wc ins pq fs pb st ln tok))] : Led))
theorem rdL_swap2 {x dx ins di pq fs pb : Addr} {e : V} {p : Bool} {ch wc : Str} {st : V} {ln : Int} {tok t : Str} {pos : Int} {pbl : List V} {N : Led} {f g : Addr × AO} :
    (rdL x dx ins di pq fs pb e p ch wc st ln tok t pos pbl (f :: g :: N)).Perm (f :: g :: rdL x dx ins di pq fs pb e p ch wc st ln tok t pos pbl N) :=
  rdL_swap.trans (.cons _ rdL_swap)
theorem ne_run {run : List Nat} (h : run ≠ []) : ((⟨run.toArray⟩ : Str) == Str.ofString "") = false := by
  rw [beq_eq_false_iff_ne]
  intro e
  have := congrArg (fun s : Str => s.cps.size) e
  simp at this
  have h0 : run.length = 0 := this
  exact h (List.length_eq_zero_iff.mp h0)
theorem get_specE (D : Dx) {A : Around} (hA : Room A 6) {N : Led} {x dx ins di pq fs pb : Addr} {p : Bool} {ch : Str} {e st : V} {ln : Int} {t : Str} {pos : Nat} {pbl u : List Nat} (he : eofV p = e) (hz : (t.length : Int) < 1000) (hc0 : ch.length ≠ 0) (hc2 : ch.length ≤ 1000) (hu : LetterL u) (hrem : pbl ++ t.cps.toList.drop pos = u) (hpb : pbl.length ≤ 1) (hst : (st = .none ∧ u = []) ∨ st = .str " ") {Q : Value → Led → Prop}
    (qE : u = [] → ∀ tk pos', t.cps.toList.drop pos' = [] → Q (raw e tk) (rdL x dx ins di pq fs pb e p ch (wcOf p ch) .none ln "" t (pos' : Nat) [] N))
    (qR : ∀ run rest pos' pbl', Cut ch u run rest → pbl' ++ t.cps.toList.drop pos' = rest → pbl'.length ≤ 1 → ∀ tk, Q (.str ⟨run.toArray⟩ tk) (rdL x dx ins di pq fs pb e p ch (wcOf p ch) (stV rest) ln "" t (pos' : Nat) (pbl'.map chV) N)) :
    W (cx D) A (call (.ref 683) [.ref x]) (rdL x dx ins di pq fs pb e p ch (wcOf p ch) st ln "" t (pos : Nat) (pbl.map chV) N) Q := by
  refine' w_call (m := [(Str.ofString "self", some (.ref x)), (Str.ofString "raw", none)]) ?ho ?hcd ?hbody hA.lt ?hbind ?hloc ?hm ?hmb ?hcell ?hco ?hgen ?hk ?main
  walk_at "enter"
  intro L
  refine w_cons ?_
  refine w_if_f (tv_ev (by walk_at "ev") (trD0 (by walk_at "mem"))) ?_
  refine w_nil ?_
  refine w_cons (w_assignW ?_)
  refine w_methodE (vo := .ref x) (by walk_at "ev") (fun t' Q q => w_getMethod (by walk_at "mem") (by walk_at "mem") (shM_noR ..) (sh_mR D) q) (by kernel_rfl) .nil fun us hu => ?_
  cases hu
  refine W.perm ?_ rdL_swap
  subst he
  refine rtok_spec D (Room.deeper hA) hz hc0 hc2 hu hrem hpb hst (fun h0 tk pos' hd => ?_) (fun run rest pos' pbl' hC hr hp tk => ?_)
  · refine W.perm ?_ rdL_swap.symm
    cases p with
    | false =>
      refine' w_store (v := .str "") .head ?zp rfl ?_
      case zp => walk_at "put"
      show W _ _ (execs _ _) ((_, .ns [(Str.ofString "self", some (.ref x)), (Str.ofString "raw", some (.str ""))]) :: rdL x dx ins di pq fs pb (.str "") false ch (wcOf false ch) .none ln "" t (pos' : Nat) [] N) _
      refine w_cons ?_
      walk_at "iff"
      refine w_nil ?_
      refine w_cons (w_while (fun _ N' => N' = _) 0 rfl ?_)
      rintro _ _ rfl
      refine ⟨_, tv_cmp (by walk_at "ev") (by walk_at "ev") (by walk_at "op"), fun _ => ?_, fun h => absurd h (by decide +kernel)⟩
      refine w_cons ?_
      refine w_if_t (tv_not (tv_ev (by walk_at "ev") (trD0 (by walk_at "mem")))) ?_
      exact w_cons (w_ret (v := .str "") (by walk_at "ev") fun tk => ⟨_, List.sublist_cons_self .., qE h0 tk pos' hd⟩)
    | true =>
      refine' w_store (v := .none) .head ?zp rfl ?_
      case zp => walk_at "put"
      show W _ _ (execs _ _) ((_, .ns [(Str.ofString "self", some (.ref x)), (Str.ofString "raw", some .none)]) :: rdL x dx ins di pq fs pb .none true ch (wcOf true ch) .none ln "" t (pos' : Nat) [] N) _
      refine w_cons ?_
      walk_at "iff"
      refine w_nil ?_
      refine w_cons (w_while (fun _ N' => N' = _) 0 rfl ?_)
      rintro _ _ rfl
      refine ⟨_, tv_cmp (by walk_at "ev") (by walk_at "ev") (by walk_at "op"), fun _ => ?_, fun h => absurd h (by decide +kernel)⟩
      refine w_cons ?_
      refine w_if_t (tv_not (tv_ev (by walk_at "ev") (trD0 (by walk_at "mem")))) ?_
      exact w_cons (w_ret (v := .none) (by walk_at "ev") fun tk => ⟨_, List.sublist_cons_self .., qE h0 tk pos' hd⟩)
  · refine W.perm ?_ rdL_swap.symm
    have e4 := ne_run hC.2.1
    cases p with
    | false =>
      refine' w_store (v := .str ⟨run.toArray⟩) .head ?zp rfl ?_
      case zp => walk_at "put"
      show W _ _ (execs _ _) ((_, .ns [(Str.ofString "self", some (.ref x)), (Str.ofString "raw", some (.str ⟨run.toArray⟩))]) :: rdL x dx ins di pq fs pb (.str "") false ch (wcOf false ch) (stV rest) ln "" t (pos' : Nat) (pbl'.map chV) N) _
      refine w_cons ?_
      walk_at "iff"
      refine w_nil ?_
      refine w_cons (w_while (fun _ N' => N' = _) 0 rfl ?_)
      rintro _ _ rfl
      refine ⟨_, tv_cmp (by walk_at "ev") (by walk_at "ev") (by walk_at "op"), fun h => absurd h (no_of e4), fun _ => ?_⟩
      refine w_cons ?_
      walk_at "iff"
      refine w_nil ?_
      exact w_cons (w_ret (v := .str ⟨run.toArray⟩) (by walk_at "ev") fun tk => ⟨_, List.sublist_cons_self .., qR run rest pos' pbl' hC hr hp tk⟩)
    | true =>
      refine' w_store (v := .str ⟨run.toArray⟩) .head ?zp rfl ?_
      case zp => walk_at "put"
      show W _ _ (execs _ _) ((_, .ns [(Str.ofString "self", some (.ref x)), (Str.ofString "raw", some (.str ⟨run.toArray⟩))]) :: rdL x dx ins di pq fs pb .none true ch (wcOf true ch) (stV rest) ln "" t (pos' : Nat) (pbl'.map chV) N) _
      refine w_cons ?_
      walk_at "iff"
      refine w_nil ?_
      refine w_cons (w_while (fun _ N' => N' = _) 0 rfl ?_)
      rintro _ _ rfl
      refine ⟨_, tv_cmp (by walk_at "ev") (by walk_at "ev") (by walk_at "op"), fun h => absurd h (by decide +kernel), fun _ => ?_⟩
      refine w_cons ?_
      walk_at "iff"
      refine w_nil ?_
      exact w_cons (w_ret (v := .str ⟨run.toArray⟩) (by walk_at "ev") fun tk => ⟨_, List.sublist_cons_self .., qR run rest pos' pbl' hC hr hp tk⟩)
theorem shlex_spec (D : Dx) {A : Around} (hA : Room A 6) {N : Led} {t ch : Str} {tk t1 : Tok} {p : Bool} {Q : Value → Led → Prop} (hc0 : ch.length ≠ 0) (hc1 : ch.cps.all (· < 128) = true) (hc2 : ch.cps.size ≤ 1000) (hc3 : ch.cps.toList.Nodup) (q : ∀ x dx ins di pq fs pb, Q (.ref x) (rdL x dx ins di pq fs pb (eofV p) p ch (wcOf p ch) (.str " ") 1 "" t 0 [] N)) :
    W (cx D) A (call (.ref 722) [.str t tk] [(Str.ofString "posix", .bool p), (Str.ofString "punctuation_chars", .str ch t1)]) N Q :=
  w_make (by kernel_rfl) (fI := 646) (by kernel_rfl) (by kernel_rfl) fun x dx => shinit_spec D (Room.make hA) hc0 hc1 hc2 hc3 fun ins di pq fs pb => ⟨rfl, q x dx ins di pq fs pb⟩

inductive Runs (ch : Str) : List Nat → List (List Nat) → Prop
  | nil : Runs ch [] []
  | cons {u run rest : List Nat} {rs : List (List Nat)} : Cut ch u run rest → Runs ch rest rs → Runs ch u (run :: rs)
abbrev strV (l : List Nat) : V := .str ⟨l.toArray⟩
def Pre (ch : Str) (u : List Nat) (ds : List (List Nat)) (rest : List Nat) : Prop := ∀ rs, Runs ch rest rs → Runs ch u (ds ++ rs)
theorem Pre.snoc {ch : Str} {u run rest rest' : List Nat} {ds : List (List Nat)} (h : Pre ch u ds rest) (hC : Cut ch rest run rest') : Pre ch u (ds ++ [run]) rest' := fun rs hr => by
  have := h _ (.cons hC hr)
  simpa using this
theorem Cut.lt {ch : Str} {u run rest : List Nat} (h : Cut ch u run rest) : rest.length < u.length ∧ run.length + rest.length = u.length := by
  obtain ⟨h1, h2, _⟩ := h
  have := congrArg List.length h1
  rw [List.length_append] at this
  have := List.length_pos_iff.mpr h2
  omega
theorem Cut.letters {ch : Str} {u run rest : List Nat} (h : Cut ch u run rest) (hu : LetterL u) : LetterL rest := fun c hc => hu c (by rw [h.1]; exact List.mem_append_right _ hc)
theorem nG_shlex (D : Dx) : nsIn (cx D).K mainGlobals "shlex" = some (some (.ref 722)) := by kernel_rfl
theorem W.post {α : Type} {C : Cx} {A : Around} {N : Led} {t : Sem α} {Q : α → Led → Prop} (h : W C A t N (fun a N1 => ∃ N2, N2.Perm N1 ∧ Q a N2)) : W C A t N Q := fun s x z =>
  wpAny_mono (h s x z) (fun a s' g => by obtain ⟨h', tk, N', e, x', z', N2, hp, q⟩ := g; exact ⟨h', tk, N2, e, x'.perm hp, z', q⟩) fun _ _ e => e
theorem gtok (D : Dx) {A : Around} (hA : Room A 6) {N : Led} {x dx ins di pq fs pb : Addr} {p : Bool} {ch : Str} {st : V} {ln : Int} {t : Str} {pos : Nat} {pbl u : List Nat} {f g : Addr × AO} (hz : (t.length : Int) < 1000) (hc0 : ch.length ≠ 0) (hc2 : ch.length ≤ 1000) (hu : LetterL u) (hrem : pbl ++ t.cps.toList.drop pos = u) (hpb : pbl.length ≤ 1) (hst : st = stV u ∨ st = .str " ") :
    W (cx D) A (call (.ref 683) [.ref x]) (f :: g :: rdL x dx ins di pq fs pb (eofV p) p ch (wcOf p ch) st ln "" t (pos : Nat) (pbl.map chV) N) (fun v N1 => ∃ st' pos' pbl' rest', N1 = f :: g :: rdL x dx ins di pq fs pb (eofV p) p ch (wcOf p ch) st' ln "" t (pos' : Nat) (List.map chV pbl') N ∧
      pbl' ++ t.cps.toList.drop pos' = rest' ∧ pbl'.length ≤ 1 ∧ LetterL rest' ∧ ((ab v = eofV p ∧ u = []) ∨ ∃ run, ab v = strV run ∧ Cut ch u run rest' ∧ st' = stV rest')) := by
  refine W.perm ?_ rdL_swap2
  have hst' : (st = .none ∧ u = []) ∨ st = .str " " := by
    rcases hst with h | h
    · cases u with
      | nil => exact .inl ⟨h, rfl⟩
      | cons => exact .inr h
    · exact .inr h
  refine W.post (get_specE D hA rfl hz hc0 hc2 hu hrem hpb hst' (fun h0 tk pos' hd => ?_) (fun run rest pos' pbl' hC hr hp tk => ?_))
  · exact ⟨_, rdL_swap2.symm, .none, pos', [], [], rfl, hd, by simp, (fun c hc => by cases hc), .inl ⟨by cases p <;> rfl, h0⟩⟩
  · exact ⟨_, rdL_swap2.symm, stV rest, pos', pbl', rest, rfl, hr, hp, hC.letters hu, .inr ⟨run, rfl, hC, rfl⟩⟩
theorem tr_eof {D : Dx} {A : Around} {N : Led} (p : Bool) : Tr (cx D) A N (eofV p) false := by
  cases p
  · exact trE
  · exact tr_none

theorem W.postSub {α : Type} {C : Cx} {A : Around} {N : Led} {t : Sem α} {Q : α → Led → Prop} (h : W C A t N (fun a N1 => ∃ N2, N2.Sublist N1 ∧ Q a N2)) : W C A t N Q := fun s x z =>
  wpAny_mono (h s x z) (fun a s' g => by obtain ⟨h', tk, N', e, x', z', N2, hp, q⟩ := g; exact ⟨h', tk, N2, e, x'.sub hp, z', q⟩) fun _ _ e => e
/-- the figures to the base 16, the highest first -/
def digs (n : Nat) : List Nat := if h : n = 0 then [] else digs (n / 16) ++ [n % 16]
termination_by n
decreasing_by omega
theorem digs_zero : digs 0 = [] := by rw [digs]; rfl
theorem digs_pos {n : Nat} (h : n ≠ 0) : digs n = digs (n / 16) ++ [n % 16] := by rw [digs, dif_neg h]
def apL (l : List Nat) : Array UInt8 := (l.map fun d => UInt8.ofNat (65 + d)).toArray
abbrev apA : Array UInt8 := ([65, 66, 67, 68, 69, 70, 71, 72, 73, 74, 75, 76, 77, 78, 79, 80] : List UInt8).toArray
theorem apA_at : ∀ i (h : i < 16), apA[i]'(by simpa using h) = UInt8.ofNat (65 + i) := by decide
theorem apL_cons {i : Nat} (l : List Nat) (h : i < 16) : #[apA[i]'(by simpa using h)] ++ apL l = apL (i :: l) := by
  rw [apA_at i h]
  unfold apL
  apply Array.toList_inj.mp
  simp
theorem nG_divmod (D : Dx) : nsIn (cx D).K mainGlobals "divmod" = some none := by kernel_rfl
structure AInv (n0 : Nat) (L : Addr) (N : Led) (k : Nat) (N' : Led) : Prop where
  go : ∃ l vm, digs n0 = digs k ++ l ∧ N' = (L, .ns [(Str.ofString "num", some (.int (k : Nat))), (Str.ofString "val", some (.bytes (apL l))), (Str.ofString "AP", some (.bytes apA)), (Str.ofString "mod", vm)]) :: N
theorem ap_spec (D : Dx) {A : Around} (hA : Room A 2) {N : Led} {i : Int} {t1 : Tok} {Q : Value → Led → Prop} (hz : (digs i.natAbs).length ≤ 1000)
    (q : ∀ t, Q (.bytes (apL (digs i.natAbs)) t) N) : W (cx D) A (call (.ref 733) [.int i t1]) N Q := by
  refine' w_call (m := [(Str.ofString "num", some (.int i)), (Str.ofString "val", none), (Str.ofString "AP", none), (Str.ofString "mod", none)]) ?ho ?hcd ?hbody hA.lt ?hbind ?hloc ?hm ?hmb ?hcell ?hco ?hgen ?hk ?main
  walk_at "enter"
  intro L
  have hR : ∀ {e : Env}, Room (A.deeper e) 1 := Room.deeper hA
  refine w_cons ?_
  refine' w_assign (v := .bytes (apL [])) ev_bytes .head ?zp ?_ fun _ => rfl
  case zp => walk_at "put"
  refine w_cons ?_
  refine' w_assign (v := .bytes apA) ev_bytes .head ?zp ?_ fun _ => rfl
  case zp => walk_at "put"
  refine w_cons ?_
  refine' w_assign (v := .int (i.natAbs : Nat)) ?zv .head ?zp ?_ fun _ => rfl
  case zp => walk_at "put"
  case zv =>
    have e : (if i < 0 then -i else i) = ((i.natAbs : Nat) : Int) := by split <;> omega
    rw [← e]
    refine ev_call (ev_nameB (by walk_at "nameB") (by walk_at "boot")) rfl (.cons (ev_call (ev_nameB (by walk_at "nameB") (by walk_at "boot")) rfl (.cons (by walk_at "ev") .nil) co_abs) .nil) co_int_int
  refine w_cons (W.mono (Q := fun fl N' => fl = .next ∧ AInv i.natAbs L N 0 N') (w_while (fun k N' => AInv i.natAbs L N k N') i.natAbs ⟨[], none, by simp, rfl⟩ ?_) ?_)
  · rintro k N' ⟨l, vm, hd, rfl⟩
    refine ⟨_, tv_ev (by walk_at "ev") tr_int, fun hk => ?_, fun hk => ?_⟩
    · have hk0 : k ≠ 0 := by
        rintro rfl
        simp at hk
      have hlt : k % 16 < 16 := Nat.mod_lt _ (by decide)
      have hfd : ((k : Int)).fdiv 16 = ((k / 16 : Nat) : Int) := by rw [Int.fdiv_eq_ediv_of_nonneg _ (by decide)]; rfl
      have hfm : ((k : Int)).fmod 16 = ((k % 16 : Nat) : Int) := by rw [Int.fmod_eq_emod_of_nonneg _ (by decide)]; rfl
      have hl : l.length ≤ 1000 := by
        have := congrArg List.length hd
        rw [List.length_append] at this
        omega
      refine W.postSub ?_
      refine w_cons (w_asgTup2 hR.1 ?_)
      refine w_callE (fun Q q => (ev_nameB (by walk_at "nameB") (by walk_at "boot") : Ev _ _ _ _ _ (.oth (.builtin "divmod"))).go Q fun _ => q) (by kernel_rfl) (by walk_at "evs") fun us hu => ?_
      obtain ⟨t2, t3, rfl⟩ := rawL2 hu
      refine w_divmod (by decide) (PyProof.noPylong_small (by decide)) fun p => ?_
      refine ⟨p, _, _, rfl, .head _, fun u1 u2 e1 e2 => ?_⟩
      rw [hfd] at e1
      rw [hfm] at e2
      refine' w_store (v := .int ((k / 16 : Nat) : Int)) (.tail .head) ?zp e1 ?_
      case zp => walk_at "put"
      refine' w_store (v := .int ((k % 16 : Nat) : Int)) (.tail .head) ?zp e2 ?_
      case zp => walk_at "put"
      refine w_cons ?_
      refine' w_assign (v := .bytes (apL (k % 16 :: l))) ?zv (.tail .head) ?zp ?_ fun _ => rfl
      case zp => walk_at "put"
      case zv =>
        rw [← apL_cons l hlt]
        refine ev_bin (ev_slice_bytes1 (i := k % 16) (.tail _ (.head _)) (by walk_at "ev") (by walk_at "ev") (by walk_at "ev") (by simpa using hlt) (by simp)) (by walk_at "ev") (op_addb (by simp [apL]; omega))
      refine w_nil ⟨_, List.sublist_cons_self .., k / 16, by omega, ⟨_, _, ?_, rfl⟩⟩
      rw [hd, digs_pos hk0, List.append_assoc]
      rfl
    · have hk0 : k = 0 := by
        have : ((k : Int) != 0) = false := hk
        simpa using this
      subst hk0
      exact ⟨rfl, l, vm, hd, rfl⟩
  · rintro fl N' ⟨rfl, l, vm, hd, rfl⟩
    show W _ _ (execs _ _) _ _
    rw [digs_zero, List.nil_append] at hd
    rw [hd] at q
    exact w_cons (w_ret (v := .bytes (apL l)) (by walk_at "ev") fun tk => ⟨_, List.sublist_cons_self .., q tk⟩)

/-! the plain law: a ring of steps, each at most one up -/
section
variable {P : Nat → Int} {n : Nat} {S : Int}
def Stand (P : Nat → Int) (n k : Nat) : Prop := ∀ i, 1 ≤ i → i ≤ n → P k < P (k + i)
theorem Stand.up (h : Stand P n k) (hn : 0 < n) (hP : ∀ j, P (j + n) = P j + S) : 0 < S := by
  have h1 := h n hn (Nat.le_refl _)
  rw [hP] at h1
  omega
theorem Stand.all (h : Stand P n k) (hn : 0 < n) (hP : ∀ j, P (j + n) = P j + S) : ∀ j, k < j → P k < P j := by
  have hS := h.up hn hP
  intro j
  induction j using Nat.strongRecOn with
  | ind j ih =>
    intro hj
    by_cases h1 : j ≤ k + n
    · have := h (j - k) (by omega) (by omega)
      rwa [show k + (j - k) = j by omega] at this
    · have h2 := ih (j - n) (by omega) (by omega)
      have h3 := hP (j - n)
      rw [show j - n + n = j by omega] at h3
      omega
theorem stand_turn (hP : ∀ j, P (j + n) = P j + S) {k : Nat} : Stand P n (k + n) ↔ Stand P n k := by
  constructor
  · intro h i h1 h2
    have h3 := h i h1 h2
    rw [show k + n + i = k + i + n by omega, hP, hP] at h3
    omega
  · intro h i h1 h2
    have h3 := h i h1 h2
    rw [show k + n + i = k + i + n by omega, hP, hP]
    omega
/-- the last place of the least height among the first m+1 -/
theorem last_min (P : Nat → Int) : ∀ m : Nat, ∃ k, k ≤ m ∧ (∀ j, j ≤ m → P k ≤ P j) ∧ ∀ j, k < j → j ≤ m → P k < P j
  | 0 => ⟨0, Nat.le_refl _, fun j hj => by rw [show j = 0 by omega]; exact Int.le_refl _, fun j h1 h2 => by omega⟩
  | m + 1 => by
    obtain ⟨k, h1, h2, h3⟩ := last_min P m
    by_cases h : P (m + 1) ≤ P k
    · refine ⟨m + 1, Nat.le_refl _, fun j hj => ?_, fun j h4 h5 => by omega⟩
      by_cases e : j = m + 1
      · rw [e]; exact Int.le_refl _
      · have := h2 j (by omega)
        omega
    · refine ⟨k, by omega, fun j hj => ?_, fun j h4 h5 => ?_⟩
      · by_cases e : j = m + 1
        · rw [e]; omega
        · exact h2 j (by omega)
      · by_cases e : j = m + 1
        · rw [e]; omega
        · exact h3 j h4 (by omega)
theorem some_stand (hn : 0 < n) (hP : ∀ j, P (j + n) = P j + S) (hS : 0 < S) : ∃ k, k < n ∧ Stand P n k := by
  obtain ⟨k, h1, h2, h3⟩ := last_min P (n - 1)
  refine ⟨k, by omega, fun i hi hi' => ?_⟩
  by_cases h : k + i ≤ n - 1
  · exact h3 _ (by omega) h
  · have h4 := hP (k + i - n)
    rw [show k + i - n + n = k + i by omega] at h4
    have h5 := h2 (k + i - n) (by omega)
    omega
theorem last_low {P : Nat → Int} {T : Int} {a : Nat} (ha : P a ≤ T) : ∀ d : Nat, ∃ r, a ≤ r ∧ r ≤ a + d ∧ P r ≤ T ∧ ∀ j, r < j → j ≤ a + d → T < P j
  | 0 => ⟨a, Nat.le_refl _, Nat.le_refl _, ha, fun j h1 h2 => by omega⟩
  | d + 1 => by
    obtain ⟨r, h1, h2, h3, h4⟩ := last_low ha d
    by_cases h : P (a + (d + 1)) ≤ T
    · exact ⟨a + (d + 1), by omega, Nat.le_refl _, h, fun j h5 h6 => by omega⟩
    · refine ⟨r, h1, by omega, h3, fun j h5 h6 => ?_⟩
      by_cases e : j = a + (d + 1)
      · rw [e]; omega
      · exact h4 j h5 (by omega)
theorem stretch_one (hn : 0 < n) (hP : ∀ j, P (j + n) = P j + S) (hs : ∀ j, P (j + 1) ≤ P j + 1) {a b : Nat} (ha : Stand P n a) (hb : Stand P n b) (hab : a < b) (no : ∀ c, a < c → c < b → ¬ Stand P n c) : P b = P a + 1 := by
  have h1 := ha.all hn hP b hab
  by_cases h : P b = P a + 1
  · exact h
  · obtain ⟨r, r1, r2, r3, r4⟩ := last_low (P := P) (T := P a + 1) (a := a) (by omega) (b - a)
    rw [show a + (b - a) = b by omega] at r2 r4
    have hrb : r < b := by
      rcases Nat.lt_or_eq_of_le r2 with h' | h'
      · exact h'
      · rw [h'] at r3; omega
    have h2 := r4 (r + 1) (by omega) (by omega)
    have h3 := hs r
    have hra : a < r := by
      rcases Nat.lt_or_eq_of_le r1 with h' | h'
      · exact h'
      · rw [← h'] at h2 h3; omega
    refine absurd (fun i hi _ => ?_) (no r hra hrb)
    by_cases h4 : r + i ≤ b
    · have := r4 (r + i) (by omega) h4
      omega
    · have := hb.all hn hP (r + i) (by omega)
      omega
end
/-- the height behind j steps round the ring -/
def hgt (w : List Int) : Nat → Int
  | 0 => 0
  | j + 1 => hgt w j + w.getD (j % w.length) 0
theorem hgt_sum (w : List Int) : ∀ j, j ≤ w.length → hgt w j = (w.take j).sum
  | 0, _ => by simp [hgt]
  | j + 1, h => by
    have hj : j < w.length := h
    rw [hgt, hgt_sum w j (by omega), Nat.mod_eq_of_lt hj, List.take_succ_eq_append_getElem hj, List.sum_append]
    simp [List.getD_eq_getElem?_getD, List.getElem?_eq_getElem hj]
theorem hgt_turn (w : List Int) : ∀ j, hgt w (j + w.length) = hgt w j + w.sum
  | 0 => by rw [Nat.zero_add, hgt_sum w _ (Nat.le_refl _), List.take_length]; simp [hgt]
  | j + 1 => by
    rw [show j + 1 + w.length = j + w.length + 1 by omega, hgt, hgt_turn w j, hgt, Nat.add_mod_right]
    omega
theorem hgt_step {w : List Int} (hw : ∀ x ∈ w, x ≤ 1) (j : Nat) : hgt w (j + 1) ≤ hgt w j + 1 := by
  rw [hgt]
  have : w.getD (j % w.length) 0 ≤ 1 := by
    rw [List.getD_eq_getElem?_getD]
    cases h : w[j % w.length]? with
    | none => simp
    | some x => exact hw x (List.mem_of_getElem? h)
  omega
/-- what a stretch of the ring counts -/
theorem hgt_stretch (w : List Int) (a : Nat) : ∀ d, ((List.range d).map fun i => w.getD ((a + i) % w.length) 0).sum = hgt w (a + d) - hgt w a
  | 0 => by simp
  | d + 1 => by
    rw [List.range_succ, List.map_append, List.sum_append, hgt_stretch w a d, show a + (d + 1) = a + d + 1 by omega, hgt]
    simp
    omega
/-- every count on the way stays above nought -/
def posL (w : Nat → Int) : Int → List Nat → Bool
  | _, [] => true
  | c, d :: l => decide (0 < c + w d) && posL w (c + w d) l
theorem posL_iff (w : Nat → Int) : ∀ (l : List Nat) (c : Int), posL w c l = true ↔ ∀ i, 1 ≤ i → i ≤ l.length → 0 < c + ((l.take i).map w).sum
  | [], c => by
    simp only [posL, List.length_nil]
    exact ⟨fun _ i h1 h2 => by omega, fun _ => trivial⟩
  | d :: l, c => by
    rw [posL, Bool.and_eq_true, decide_eq_true_eq, posL_iff w l]
    constructor
    · rintro ⟨h1, h2⟩ i hi hi'
      cases i with
      | zero => omega
      | succ i =>
        rw [List.take_succ_cons, List.map_cons, List.sum_cons]
        cases i with
        | zero => simpa using h1
        | succ i =>
          have := h2 (i + 1) (by omega) (by simp at hi'; omega)
          omega
    · intro h
      refine ⟨by simpa using h 1 (by omega) (by simp), fun i hi hi' => ?_⟩
      have := h (i + 1) (by omega) (by simp; omega)
      rw [List.take_succ_cons, List.map_cons, List.sum_cons] at this
      omega
theorem posL_map (w : Nat → Int) (g : Nat → Nat) : ∀ (l : List Nat) (c : Int), posL w c (l.map g) = posL (fun d => w (g d)) c l
  | [], _ => rfl
  | d :: l, c => by rw [List.map_cons, posL, posL, posL_map w g l]
theorem posL_congr {w w' : Nat → Int} : ∀ (l : List Nat) (c : Int), (∀ d ∈ l, w d = w' d) → posL w c l = posL w' c l
  | [], _, _ => rfl
  | d :: l, c, h => by rw [posL, posL, h d (.head _), posL_congr l _ fun d hd => h d (.tail _ hd)]
theorem posL_up {w : Nat → Int} : ∀ (r l : List Nat) (c : Int), 0 ≤ c → (∀ d ∈ r, w d = 1) → posL w c (r ++ l) = posL w (c + (r.length : Nat)) l
  | [], l, c, _, _ => by simp
  | d :: r, l, c, hc, h => by
    rw [List.cons_append, posL, h d (.head _), decide_eq_true (by omega), Bool.true_and, posL_up r l (c + 1) (by omega) fun d hd => h d (.tail _ hd), List.length_cons]
    congr 1
    omega
theorem posL_down {w : Nat → Int} {p : Int} (hp : 0 < p) : ∀ (r l : List Nat) (c : Int), r ≠ [] → (∀ d ∈ r, w d = -p) → posL w c (r ++ l) = (decide (0 < c - p * (r.length : Nat)) && posL w (c - p * (r.length : Nat)) l)
  | [], l, c, h, _ => absurd rfl h
  | d :: r, l, c, _, h => by
    have e : ∀ k : Nat, c - p * ((k + 1 : Nat) : Int) = c + -p - p * (k : Nat) := fun k => by
      rw [Int.natCast_add, Int.mul_add]; simp; omega
    rw [List.cons_append, posL, h d (.head _), List.length_cons, e]
    by_cases hr : r = []
    · subst hr; simp
    · rw [posL_down hp r l (c + -p) hr fun d hd => h d (.tail _ hd)]
      by_cases h1 : 0 < c + -p - p * (r.length : Nat)
      · have h2 : 0 ≤ p * (r.length : Nat) := Int.mul_nonneg (by omega) (by omega)
        rw [decide_eq_true (show 0 < c + -p by omega), Bool.true_and]
      · rw [decide_eq_false h1, Bool.false_and, Bool.and_false]
theorem posL_low {w : Nat → Int} {d : Nat} {l : List Nat} (h : w d < 0) : posL w 0 (d :: l) = false := by
  rw [posL, decide_eq_false (by omega), Bool.false_and]
/-- a ring opened at a place -/
def openAt (l : List Nat) (k : Nat) : List Nat := l.drop k ++ l.take k
theorem openAt_len (l : List Nat) {k : Nat} : (openAt l k).length = l.length := by
  unfold openAt
  simp
  omega
theorem openAt_at (l : List Nat) {k i : Nat} (hk : k ≤ l.length) (hi : i < l.length) : (openAt l k).getD i 0 = l.getD ((k + i) % l.length) 0 := by
  unfold openAt
  rw [List.getD_eq_getElem?_getD, List.getD_eq_getElem?_getD]
  congr 1
  by_cases h : k + i < l.length
  · rw [List.getElem?_append_left (by simp; omega), List.getElem?_drop, Nat.mod_eq_of_lt h]
  · rw [List.getElem?_append_right (by simp; omega), List.length_drop, List.getElem?_take, show i - (l.length - k) = k + i - l.length by omega, if_pos (by omega), Nat.mod_eq_sub_mod (by omega), Nat.mod_eq_of_lt (by omega)]
theorem openAt_sum (w : Nat → Int) (l : List Nat) {k : Nat} (hk : k ≤ l.length) : ∀ i, i ≤ l.length → (((openAt l k).take i).map w).sum = hgt (l.map w) (k + i) - hgt (l.map w) k
  | 0, _ => by simp
  | i + 1, hi => by
    have hi' : i < (openAt l k).length := by rw [openAt_len]; omega
    have h1 := openAt_at l hk (i := i) (by omega)
    have hpos : 0 < l.length := by omega
    have hm : (k + i) % l.length < l.length := Nat.mod_lt _ hpos
    rw [List.getD_eq_getElem?_getD, List.getElem?_eq_getElem hi', List.getD_eq_getElem?_getD, List.getElem?_eq_getElem hm] at h1
    simp only [Option.getD_some] at h1
    rw [List.take_succ_eq_append_getElem hi', List.map_append, List.sum_append, openAt_sum w l hk i (by omega), show k + (i + 1) = k + i + 1 by omega, hgt, List.length_map, h1, List.getD_eq_getElem?_getD, List.getElem?_map, List.getElem?_eq_getElem hm]
    simp
    omega
theorem stand_iff (w : Nat → Int) (l : List Nat) {k : Nat} (hk : k ≤ l.length) : posL w 0 (openAt l k) = true ↔ Stand (hgt (l.map w)) (l.map w).length k := by
  rw [posL_iff, openAt_len, List.length_map]
  constructor
  · intro h i h1 h2
    have := h i h1 h2
    rw [openAt_sum w l hk i h2] at this
    omega
  · intro h i h1 h2
    have := h i h1 h2
    rw [openAt_sum w l hk i h2]
    omega
/-- the places that stand -/
def placesL (st : Nat → Bool) (n : Nat) : List Nat := (List.range n).filter st
theorem placesL_succ (st : Nat → Bool) (n : Nat) : placesL st (n + 1) = placesL st n ++ if st n then [n] else [] := by
  unfold placesL
  rw [List.range_succ, List.filter_append]
  congr 1
  cases h : st n <;> simp [h]
theorem placesL_len (st : Nat → Bool) (n : Nat) : (placesL st n).length ≤ n := by
  unfold placesL
  have := List.length_filter_le st (List.range n)
  rwa [List.length_range] at this
theorem placesL_mem {st : Nat → Bool} {n c : Nat} : c ∈ placesL st n ↔ c < n ∧ st c = true := by
  unfold placesL
  rw [List.mem_filter, List.mem_range]
theorem placesL_up (st : Nat → Bool) (n : Nat) : (placesL st n).Pairwise (· < ·) := List.Pairwise.sublist (List.filter_sublist) List.pairwise_lt_range
/-- the law of the ring: none stands just if the whole doesn't count above nought, and else each stretch counts one -/
theorem ring_none (w : Nat → Int) (l : List Nat) (hl : 0 < l.length) (h : placesL (fun k => posL w 0 (openAt l k)) l.length = []) : (l.map w).sum ≤ 0 := by
  by_cases hS : (l.map w).sum ≤ 0
  · exact hS
  · obtain ⟨k, h1, h2⟩ := some_stand (P := hgt (l.map w)) (n := (l.map w).length) (by simpa using hl) (hgt_turn _) (by omega)
    rw [List.length_map] at h1
    have : k ∈ placesL (fun k => posL w 0 (openAt l k)) l.length := placesL_mem.mpr ⟨h1, (stand_iff w l (by omega)).mpr h2⟩
    rw [h] at this
    cases this
theorem ring_stretch (w : Nat → Int) (hw : ∀ d, w d ≤ 1) (l : List Nat) (hl : 0 < l.length) (ps : List Nat) (hps : ps = placesL (fun k => posL w 0 (openAt l k)) l.length) (i : Nat) (h0 : 0 < ps.length) (hi : i + 1 < (ps ++ [ps[0] + l.length]).length) :
    let a := (ps ++ [ps[0] + l.length])[i]
    let b := (ps ++ [ps[0] + l.length])[i + 1]
    a < b ∧ a < l.length ∧ b < 2 * l.length ∧ hgt (l.map w) b = hgt (l.map w) a + 1 := by
  intro a b
  have hup : ps.Pairwise (· < ·) := by rw [hps]; exact placesL_up _ _
  have hlt := List.pairwise_iff_getElem.mp hup
  have hmem : ∀ c, c ∈ ps ↔ c < l.length ∧ Stand (hgt (l.map w)) (l.map w).length c := fun c => by
    rw [hps, placesL_mem]
    constructor
    · rintro ⟨h1, h2⟩; exact ⟨h1, (stand_iff w l (by omega)).mp h2⟩
    · rintro ⟨h1, h2⟩; exact ⟨h1, (stand_iff w l (by omega)).mpr h2⟩
  have hpl : (l.map w).length = l.length := List.length_map ..
  have hi' : i < ps.length := by simp at hi; omega
  have ea : a = ps[i] := List.getElem_append_left hi'
  have ha := (hmem a).mp (by rw [ea]; exact List.getElem_mem hi')
  have h00 := (hmem ps[0]).mp (List.getElem_mem h0)
  have main : a < b ∧ b < 2 * l.length ∧ Stand (hgt (l.map w)) (l.map w).length b ∧ ∀ c, a < c → c < b → ¬ Stand (hgt (l.map w)) (l.map w).length c := by
    by_cases hb : i + 1 < ps.length
    · have eb : b = ps[i + 1] := List.getElem_append_left hb
      have hb2 := (hmem b).mp (by rw [eb]; exact List.getElem_mem hb)
      refine ⟨by rw [ea, eb]; exact hlt i (i + 1) hi' hb (by omega), by omega, hb2.2, fun c h1 h2 h3 => ?_⟩
      obtain ⟨m, hm, em⟩ := List.mem_iff_getElem.mp ((hmem c).mpr ⟨by omega, h3⟩)
      rcases Nat.lt_trichotomy m i with h | h | h
      · have := hlt m i hm hi' h
        omega
      · subst h; omega
      · rcases Nat.lt_or_eq_of_le (show i + 1 ≤ m from h) with h | h
        · have := hlt (i + 1) m hb hm h
          omega
        · subst h; omega
    · have ei : i + 1 = ps.length := by omega
      have eb : b = ps[0] + l.length := by
        show (ps ++ [ps[0] + l.length])[i + 1] = _
        rw [List.getElem_append_right (by omega)]
        simp
      refine ⟨by omega, by omega, ?_, fun c h1 h2 h3 => ?_⟩
      · rw [eb]
        have := (stand_turn (hgt_turn (l.map w)) (k := ps[0])).mpr h00.2
        rwa [hpl] at this ⊢
      · by_cases hc : c < l.length
        · obtain ⟨m, hm, em⟩ := List.mem_iff_getElem.mp ((hmem c).mpr ⟨hc, h3⟩)
          rcases Nat.lt_or_eq_of_le (show m ≤ i by omega) with h | h
          · have := hlt m i hm hi' h
            omega
          · subst h; omega
        · have h4 : Stand (hgt (l.map w)) (l.map w).length (c - l.length) := (stand_turn (hgt_turn (l.map w))).mp (by rw [hpl, show c - l.length + l.length = c by omega]; rw [hpl] at h3; exact h3)
          obtain ⟨m, hm, em⟩ := List.mem_iff_getElem.mp ((hmem (c - l.length)).mpr ⟨by omega, h4⟩)
          rcases Nat.eq_zero_or_pos m with h | h
          · subst h; omega
          · have := hlt 0 m h0 hm h
            omega
  refine ⟨main.1, ha.1, main.2.1, stretch_one (by omega) (hgt_turn _) (hgt_step fun x hx => ?_) ha.2 main.2.2.1 main.1 main.2.2.2⟩
  obtain ⟨d, _, rfl⟩ := List.mem_map.mp hx
  exact hw d

theorem Cut.kind {ch : Str} {u run rest : List Nat} (hC : Cut ch u run rest) (hu : LetterL u) {upp : Nat → Bool} (hch : ∃ fl, ∀ c, 65 ≤ c → c ≤ 80 → ch.cps.toList.contains c = (upp c ^^ fl)) {X : Bool} (hX : ∀ d r, u = d :: r → upp d = X) :
    (∀ c ∈ run, upp c = X) ∧ ∀ d r, rest = d :: r → upp d = !X := by
  obtain ⟨fl, hfl⟩ := hch
  obtain ⟨h1, h2, b, h3, h4⟩ := hC
  have hb : b = (X ^^ fl) := by
    cases run with
    | nil => exact (h2 rfl).elim
    | cons d r =>
      have hd := hu d (by rw [h1]; exact .head _)
      rw [← h3 d (.head _), hfl d hd.1 hd.2, hX d (r ++ rest) h1]
  refine ⟨fun c hc => ?_, fun d r e => ?_⟩
  · have hd := hu c (by rw [h1]; exact List.mem_append_left _ hc)
    have := h3 c hc
    rw [hfl c hd.1 hd.2, hb] at this
    cases h : upp c <;> cases X <;> cases fl <;> simp_all
  · have hd := hu d (by rw [h1, e]; exact List.mem_append_right _ (.head _))
    have := h4 d r e
    rw [hfl d hd.1 hd.2, hb] at this
    cases h : upp d <;> cases X <;> cases fl <;> simp_all
abbrev lsF (x : Addr) (up : Str) (pr : Int) (c r : Option V) : List (Str × Option V) := [(Str.ofString "reader", some (.ref x)), (Str.ofString "upper", some (.str up)), (Str.ofString "price", some (.int pr)), (Str.ofString "count", c), (Str.ofString "run", r)]
structure SInv (w : Nat → Int) (upp : Nat → Bool) (t ch up : Str) (pr : Int) (L x dx ins di pq fs pb : Addr) (p : Bool) (g : Addr × AO) (N : Led) (k : Nat) (N' : Led) : Prop where
  go : ∃ c v rest st pos pbl, N' = (L, .ns (lsF x up pr (some (.int c)) (some v))) :: g :: rdL x dx ins di pq fs pb (eofV p) p ch (wcOf p ch) st 1 "" t (pos : Nat) (List.map chV pbl) N ∧
    pbl ++ t.cps.toList.drop pos = rest ∧ pbl.length ≤ 1 ∧ LetterL rest ∧
    ((v = eofV p ∧ posL w 0 t.cps.toList = true ∧ k = 0) ∨ ∃ run, v = strV run ∧ run ≠ [] ∧ LetterL run ∧ (∀ c ∈ run, upp c = true) ∧ (∀ d r, rest = d :: r → upp d = false) ∧ st = stV rest ∧ 0 ≤ c ∧ posL w 0 t.cps.toList = posL w c (run ++ rest) ∧ run.length + rest.length ≤ t.length ∧ k = rest.length + 1)
theorem stands_spec (D : Dx) {A : Around} (hA : Room A 8) {N : Led} {g : Addr × AO} {x dx ins di pq fs pb : Addr} {t ch up : Str} {t2 t3 : Tok} {p : Bool} {w : Nat → Int} {upp : Nat → Bool} {pr : Int} {Q : Value → Led → Prop} (hz : (t.length : Int) < 1000) (hu : LetterL t.cps.toList) (hn : t.cps.toList ≠ []) (hc0 : ch.length ≠ 0) (hc2 : ch.cps.size ≤ 1000)
    (hup : ∀ c, 65 ≤ c → c ≤ 80 → up.cps.toList.contains c = upp c) (hch : ∃ fl, ∀ c, 65 ≤ c → c ≤ 80 → ch.cps.toList.contains c = (upp c ^^ fl)) (hw : ∀ c, w c = if upp c then 1 else -pr) (hpr : 1 ≤ pr) (hpr3 : pr ≤ 3)
    (q : Q (.bool (posL w 0 t.cps.toList)) (g :: N)) :
    W (cx D) A (call (.ref 740) [.ref x, .str up t2, .int pr t3]) (g :: rdL x dx ins di pq fs pb (eofV p) p ch (wcOf p ch) (.str " ") 1 "" t 0 [] N) Q := by
  refine' w_call (m := lsF x up pr none none) ?ho ?hcd ?hbody hA.lt ?hbind ?hloc ?hm ?hmb ?hcell ?hco ?hgen ?hk ?main
  walk_at "enter"
  intro L
  have hR : ∀ {e : Env}, Room (A.deeper e) 7 := Room.deeper hA
  have hl0 : t.cps.toList.length = t.length := lenS t
  refine w_cons ?_
  refine' w_assign (v := .int 0) ev_int .head ?zp ?_ fun _ => rfl
  case zp => walk_at "put"
  refine w_cons (w_assignW ?_)
  refine w_methodE (vo := .ref x) (by walk_at "ev") (fun t' Q q => w_getMethod (by walk_at "mem") (by walk_at "mem") (shM_noG ..) (sh_mG D) q) (by kernel_rfl) .nil fun us hus => ?_
  cases hus
  refine (gtok D (u := t.cps.toList) (pos := 0) (pbl := []) (hR.le (by omega)) hz hc0 hc2 hu rfl (by simp) (.inr rfl)).mono ?_
  rintro v _ ⟨st', pos', pbl', rest', rfl, h1, h2, h3, h4⟩
  rcases h4 with ⟨hv, h0⟩ | ⟨run, hv, hC, hs⟩
  · exact (hn h0).elim
  have hlt := hC.lt
  refine' w_store (v := strV run) .head ?zp hv ?_
  case zp => walk_at "put"
  obtain ⟨c0, r0, hrun0⟩ : ∃ c0 r0, run = c0 :: r0 := by
    cases run with
    | nil => exact (hC.2.1 rfl).elim
    | cons c0 r0 => exact ⟨c0, r0, rfl⟩
  have hu0 : t.cps.toList = c0 :: (r0 ++ rest') := by rw [hC.1, hrun0]; rfl
  have hlc := hu c0 (by rw [hu0]; exact .head _)
  have hX := hC.kind hu hch (X := upp c0) fun d r e => by
    rw [hu0] at e
    injection e with e1 e2
    rw [e1]
  have hlr : LetterL run := fun c hc => hu c (by rw [hC.1]; exact List.mem_append_left _ hc)
  have trun : ∀ {e : Env} {N : Led}, Tr (cx D) (A.deeper e) N (strV run) true := fun {e N} => trS (by show run.toArray.size ≠ 0; simpa using hC.2.1) (by show run.toArray.size ≤ 1000; simp; omega)
  have hin : inS ⟨#[c0]⟩ up = upp c0 := by rw [let_ch, hup c0 hlc.1 hlc.2]
  refine w_cons (w_if (tv_bool (ta_or_g (tv_not (tv_ev (by walk_at "ev") trun)) (fun _ => ta_or_g (tv_cmp (ev_subStr (i := 0) (by walk_at "ev") (by rw [hrun0]; rfl) (by decide)) (by walk_at "ev") (op_notinB hin)) (fun _ => ta_or)))) (fun hb => ?_) (fun hb => ?_))
  · have hb' : upp c0 = false := by cases h : upp c0 <;> simp_all
    have e : posL w 0 t.cps.toList = false := by rw [hu0]; exact posL_low (by rw [hw, hb']; simp; omega)
    rw [e] at q
    exact w_cons (w_ret (v := .bool false) ev_bool fun tk => ⟨_, .cons _ (.cons_cons _ (.cons _ (.cons _ (.cons _ (.cons _ (.cons _ (.cons _ (.cons _ (.refl _))))))))), q⟩)
  have hb' : upp c0 = true := by cases h : upp c0 <;> simp_all
  rw [hb'] at hX
  refine w_nil ?_
  refine w_cons (w_while (fun k N' => SInv w upp t ch up pr L x dx ins di pq fs pb p g N k N') _ ⟨0, _, rest', st', pos', pbl', rfl, h1, h2, h3, .inr ⟨run, rfl, hC.2.1, hlr, hX.1, hX.2, hs, Int.le_refl _, by rw [← hC.1], by omega, rfl⟩⟩ ?_)
  rintro k _ ⟨c, v, rest, st, pos, pbl, rfl, h1, h2, h3, ⟨rfl, hr, rfl⟩ | ⟨run, rfl, hne, hlr, hup1, hlo, rfl, hc, hpos, hl, rfl⟩⟩
  · refine ⟨false, tv_ev (by walk_at "ev") (tr_eof p), fun e => (by cases e), fun _ => ?_⟩
    rw [hr] at q
    exact w_cons (w_ret (v := .bool true) ev_bool fun tk => ⟨_, .cons _ (.cons_cons _ (.cons _ (.cons _ (.cons _ (.cons _ (.cons _ (.cons _ (.cons _ (.refl _))))))))), q⟩)
  have hrl : run.length ≤ 1000 := by omega
  have hlen : (⟨run.toArray⟩ : Str).length = run.length := by show run.toArray.size = _; simp
  refine ⟨true, tv_ev (by walk_at "ev") (trS (by rw [hlen]; exact fun e => hne (List.length_eq_zero_iff.mp e)) (by rw [hlen]; exact hrl)), fun _ => ?_, fun e => by cases e⟩
  refine w_cons ?_
  refine' w_aug (v := .int (c + (run.length : Nat))) ?zx ?zh op_iadd .head ?zp ?_ fun _ => rfl
  case zx => walk_at "has"
  case zp => walk_at "put"
  case zh => rw [← hlen]; exact ev_call (ev_nameB (by walk_at "nameB") (by walk_at "boot")) rfl (.cons (by walk_at "ev") .nil) (co_len_str (by rw [hlen]; omega))
  refine w_cons (w_assignW ?_)
  refine w_methodE (vo := .ref x) (by walk_at "ev") (fun t' Q q => w_getMethod (by walk_at "mem") (by walk_at "mem") (shM_noG ..) (sh_mG D) q) (by kernel_rfl) .nil fun us hus => ?_
  cases hus
  refine (gtok D (u := rest) (pos := pos) (pbl := pbl) (hR.le (by omega)) hz hc0 hc2 h3 h1 h2 (.inl rfl)).mono ?_
  rintro v _ ⟨st1, pos1, pbl1, rest1, rfl, h11, h12, h13, h14⟩
  rw [posL_up run rest c hc fun d hd => by rw [hw, hup1 d hd]; rfl] at hpos
  rcases h14 with ⟨hv, h0⟩ | ⟨run1, hv, hC1, hs1⟩
  · refine' w_store (v := eofV p) .head ?zp hv ?_
    case zp => walk_at "put"
    refine w_cons (w_if_f (tv_ev (by walk_at "ev") (tr_eof p)) (w_nil ?_))
    exact w_nil ⟨0, by omega, _, _, rest1, st1, pos1, pbl1, rfl, h11, h12, h13, .inl ⟨rfl, by rw [hpos, h0]; rfl, rfl⟩⟩
  have hlt1 := hC1.lt
  have hX1 := hC1.kind h3 hch (X := false) hlo
  refine' w_store (v := strV run1) .head ?zp hv ?_
  case zp => walk_at "put"
  have hlen1 : (⟨run1.toArray⟩ : Str).length = run1.length := by show run1.toArray.size = _; simp
  refine w_cons (w_if_t (tv_ev (by walk_at "ev") (trS (by rw [hlen1]; exact fun e => hC1.2.1 (List.length_eq_zero_iff.mp e)) (by rw [hlen1]; omega))) ?_)
  refine w_cons ?_
  refine' w_aug (v := .int (c + (run.length : Nat) - pr * (run1.length : Nat))) ?zx ?zh op_isub .head ?zp ?_ fun _ => rfl
  case zx => walk_at "has"
  case zp => walk_at "put"
  case zh =>
    rw [← hlen1]
    exact ev_bin (by walk_at "ev") (ev_call (ev_nameB (by walk_at "nameB") (by walk_at "boot")) rfl (.cons (by walk_at "ev") .nil) (co_len_str (by rw [hlen1]; omega))) (op_mul (IntMulOk.of_left (intBits_le_64 (by omega) (by omega))))
  rw [hC1.1, posL_down (p := pr) (by omega) run1 rest1 _ hC1.2.1 fun d hd => by rw [hw, hX1.1 d hd]; rfl] at hpos
  generalize hc' : c + (run.length : Nat) - pr * (run1.length : Nat) = c' at hpos ⊢
  refine w_cons (w_if (tv_cmp (by walk_at "ev") ev_int op_le) (fun hb => ?_) (fun hb => ?_))
  · have hb := of_decide_eq_true hb
    rw [decide_eq_false (by omega), Bool.false_and] at hpos
    rw [hpos] at q
    exact w_cons (w_ret (v := .bool false) ev_bool fun tk => ⟨_, .cons _ (.cons_cons _ (.cons _ (.cons _ (.cons _ (.cons _ (.cons _ (.cons _ (.cons _ (.refl _))))))))), q⟩)
  have hb := of_decide_eq_false hb
  rw [decide_eq_true (by omega), Bool.true_and] at hpos
  refine w_nil ?_
  refine w_cons (w_assignW ?_)
  refine w_methodE (vo := .ref x) (by walk_at "ev") (fun t' Q q => w_getMethod (by walk_at "mem") (by walk_at "mem") (shM_noG ..) (sh_mG D) q) (by kernel_rfl) .nil fun us hus => ?_
  cases hus
  refine (gtok D (u := rest1) (pos := pos1) (pbl := pbl1) (hR.le (by omega)) hz hc0 hc2 h13 h11 h12 (.inl hs1)).mono ?_
  rintro v _ ⟨st2, pos2, pbl2, rest2, rfl, h21, h22, h23, h24⟩
  rcases h24 with ⟨hv2, h02⟩ | ⟨run2, hv2, hC2, hs2⟩
  · refine' w_store (v := eofV p) .head ?zp hv2 ?_
    case zp => walk_at "put"
    exact w_nil (w_nil ⟨0, by omega, _, _, rest2, st2, pos2, pbl2, rfl, h21, h22, h23, .inl ⟨rfl, by rw [hpos, h02]; rfl, rfl⟩⟩)
  have hlt2 := hC2.lt
  have hX2 := hC2.kind h13 hch (X := true) (fun d r e => by rw [hX1.2 d r e]; rfl)
  refine' w_store (v := strV run2) .head ?zp hv2 ?_
  case zp => walk_at "put"
  exact w_nil (w_nil ⟨_, by omega, _, _, rest2, st2, pos2, pbl2, rfl, h21, h22, h23, .inr ⟨run2, rfl, hC2.2.1, fun c hc => h13 c (by rw [hC2.1]; exact List.mem_append_left _ hc), hX2.1, fun d r e => by rw [hX2.2 d r e]; rfl, hs2, by omega, by rw [hpos, ← hC2.1], by omega, rfl⟩⟩)

def numOf (l : List Nat) (n : Nat) : Nat := l.foldl (fun n f => 16 * n + f) n
theorem digs_num : ∀ (l : List Nat) (n : Nat), (∀ f ∈ l, f < 16) → digs (numOf l n) = if n = 0 then l.dropWhile (· == 0) else digs n ++ l
  | [], n, _ => by
    unfold numOf
    by_cases h : n = 0
    · subst h; simp [digs_zero]
    · simp [h]
  | f :: l, n, hl => by
    have hf := hl f (.head _)
    have ih := digs_num l (16 * n + f) fun g hg => hl g (.tail _ hg)
    show digs (numOf l (16 * n + f)) = _
    rw [ih]
    by_cases h : n = 0
    · subst h
      by_cases h0 : f = 0
      · subst h0; simp
      · have e : digs f = [f] := by rw [digs_pos h0, show f / 16 = 0 by omega, digs_zero, show f % 16 = f by omega]; rfl
        rw [if_neg (by omega), if_pos rfl, Nat.mul_zero, Nat.zero_add, e, List.dropWhile_cons_of_neg (by simpa using h0)]
        rfl
    · have e : digs (16 * n + f) = digs n ++ [f] := by rw [digs_pos (by omega), show (16 * n + f) / 16 = n by omega, show (16 * n + f) % 16 = f by omega]
      rw [if_neg (by omega), if_neg h, e, List.append_assoc]
      rfl
theorem num_lt : ∀ (l : List Nat) (n k : Nat), (∀ f ∈ l, f < 16) → n < 16 ^ k → numOf l n < 16 ^ (k + l.length)
  | [], n, k, _, h => by simpa [numOf] using h
  | f :: l, n, k, hl, h => by
    have hf := hl f (.head _)
    have := num_lt l (16 * n + f) (k + 1) (fun g hg => hl g (.tail _ hg)) (by rw [Nat.pow_succ]; omega)
    rw [List.length_cons, show k + (l.length + 1) = k + 1 + l.length by omega]
    exact this
theorem digs_head : ∀ (n : Nat) d r, digs n = d :: r → d ≠ 0 := by
  intro n
  induction n using Nat.strongRecOn with
  | ind n ih =>
    intro d r h
    by_cases h0 : n = 0
    · subst h0; rw [digs_zero] at h; cases h
    · rw [digs_pos h0] at h
      by_cases h1 : n / 16 = 0
      · rw [h1, digs_zero] at h
        simp at h
        omega
      · cases hq : digs (n / 16) with
        | nil => rw [digs_pos h1] at hq; simp at hq
        | cons d' r' =>
          rw [hq] at h
          simp at h
          have := ih (n / 16) (by omega) d' r' hq
          rw [← h.1]; exact this
theorem digs_lt : ∀ (n : Nat), ∀ d ∈ digs n, d < 16 := by
  intro n
  induction n using Nat.strongRecOn with
  | ind n ih =>
    intro d hd
    by_cases h0 : n = 0
    · subst h0; rw [digs_zero] at hd; cases hd
    · rw [digs_pos h0] at hd
      rcases List.mem_append.mp hd with h | h
      · exact ih (n / 16) (by omega) d h
      · rw [List.mem_singleton.mp h]; exact Nat.mod_lt _ (by decide)
theorem rawL3 {us : List Value} {v w x : V} (h : RawL us [v, w, x]) : ∃ t t' t'', us = [raw v t, raw w t', raw x t''] := by
  cases h with
  | cons h => obtain ⟨t, t', rfl⟩ := rawL2 h; exact ⟨_, _, _, rfl⟩
theorem str_toList (l : List Nat) : (⟨l.toArray⟩ : Str).cps.toList = l := by simp
theorem str_len (l : List Nat) : (⟨l.toArray⟩ : Str).length = l.length := by show l.toArray.size = _; simp
theorem all_plain {α : Type} {f : α → V} (l : List α) (h : ∀ a, plainV (f a) = true) : (l.map f).all plainV = true := List.all_eq_true.mpr fun v hv => by
  obtain ⟨a, _, rfl⟩ := List.mem_map.mp hv
  exact h a
theorem natL (l : List Nat) : (l.map fun f : Nat => V.int ((f : Nat) : Int)) = (l.map fun f : Nat => (f : Int)).map V.int := by simp
theorem foldl_take {α β : Type} {g : β → α → β} (b : β) {l : List α} {i : Nat} (hi : i < l.length) : (l.take (i + 1)).foldl g b = g ((l.take i).foldl g b) l[i] := by
  rw [← List.take_append_getElem hi, List.foldl_append]
  rfl
abbrev natV (f : Nat) : V := .int ((f : Nat) : Int)

theorem law_start4 {M : Model} {A : Around} {t : Sem Flow} {QQ : Flow → Shared → Prop} {EE : Value → Shared → Prop} {s : Shared} (C : Cx) (hM : M = model C.prog C.w) {L : Nat} {l : Addr} {us : Array Value} {m : Str → Option Value} {o1 o2 o3 o4 : Obj} (rest : List (Str × Option V)) (hs : C.h₀.objs.size ≤ L) (F : Fr C.h₀ L s.heap m)
    (N0 : News C.h₀ L s.heap [(L + 1 + 1 + 1 + 1, o4), (L + 1 + 1 + 1, o3), (L + 1 + 1, o2), (L + 1, o1)]) (d4 : o4.data = .cell none) (d3 : o3.data = .cell none) (d2 : o2.data = .cell none) (d1 : o1.data = .cell none)
    (hL : C.h₀.IsList l us) (nd : (((Str.ofString "script", none) :: rest).map (·.1)).Nodup) (hr : ∀ p ∈ rest, p.2 = none) (hm : m (Str.ofString "script") = some (.ref l))
    (h : W C A t [(L, .ns ((Str.ofString "script", some (.ref l)) :: rest)), (L + 1, .cell none), (L + 1 + 1, .cell none), (L + 1 + 1 + 1, .cell none), (L + 1 + 1 + 1 + 1, .cell none)] (fun fl N' => fl = .ret (.bool true))) (q : ∀ h tk, (∀ b o, C.h₀.get? b = some o → h.get? b = some o) → QQ (.ret (.bool true)) { s with heap := h, toks := tk }) : wpAny M A t QQ EE s := by
  subst hM
  obtain ⟨o, es, ep, e1, e2, e3, e4⟩ := F.ns
  have st : Sat C s.heap [(L, .ns ((Str.ofString "script", some (.ref l)) :: rest)), (L + 1, .cell none), (L + 1 + 1, .cell none), (L + 1 + 1 + 1, .cell none), (L + 1 + 1 + 1 + 1, .cell none)] := by
    refine ⟨F.keep, fun p hp => ?_, ?_⟩
    · have cell : ∀ {a : Nat} {ob : Obj}, L ≤ a → (a, ob) ∈ [(L + 1 + 1 + 1 + 1, o4), (L + 1 + 1 + 1, o3), (L + 1 + 1, o2), (L + 1, o1)] → ob.data = .cell none → C.h₀.objs.size ≤ a ∧ ∃ o, s.heap.get? a = some o ∧ OR o (.cell none) := fun {a ob} ha hm hd => ⟨Nat.le_trans hs ha, ob, N0.get hm, none, hd, rfl⟩
      simp only [List.mem_cons, List.not_mem_nil, or_false] at hp
      rcases hp with rfl | rfl | rfl | rfl | rfl
      · exact ⟨hs, o, e1, nd, es, ep, e2, e3, fun x v hx => by
          rcases List.mem_cons.mp hx with h1 | h1
          · cases h1
            exact ⟨_, (e4 _).trans hm, rfl⟩
          · have := hr _ h1
            cases this⟩
      · exact cell (by omega) (.tail _ (.tail _ (.tail _ (.head _)))) d1
      · exact cell (by omega) (.tail _ (.tail _ (.head _))) d2
      · exact cell (by omega) (.tail _ (.head _)) d3
      · exact cell (by omega) (.head _) d4
    · show (([L, L + 1, L + 1 + 1, L + 1 + 1 + 1, L + 1 + 1 + 1 + 1] : List Nat)).Nodup
      simp
      omega
  refine wpAny_mono (h s st (st.size (.head _))) (fun f s' g => ?_) fun _ _ e => e.elim
  obtain ⟨h', tk, N', rfl, st', _, rfl⟩ := g
  exact q h' tk st'.1
theorem intsAre_ab : ∀ {us : List Value} {ns : List Int}, IntsAre us ns → us.map ab = ns.map V.int
  | _, _, .nil => rfl
  | _, _, .cons n t h => by rw [List.map_cons, List.map_cons, intsAre_ab h]; rfl
theorem w_asgC {C : Cx} {A : Around} {N N' : Led} {env : Env} {c : Addr} {x : Str} {px pos : Pos} {value : Expr} {v : V} {v0 : Option V} {Q : Flow → Led → Prop} (h : Ev C A env N value v) (U : Upd c (.cell v0) (.cell (some v)) N N') (q : Q .next N')
    (ha : ∀ t, ab (raw v t) = v) (hc : env.cells.lookup x = some c := by rfl) (hl : env.kindOf x = some .cell := by rfl) (hk : env.scope.kind = .function := by rfl) (hs : swapsWith value (some (.Name x px)) pos.line env = pure false := by rfl) :
    W C A (exec (.Assign [.Name x px] value pos) env) N Q := w_assignW (h.go _ fun t => w_storeC U (ha t) q hc hl hk) hs
def rem16 (x : Int) : Nat := (x.fmod 16).toNat
theorem rem16_eq (x : Int) : ((rem16 x : Nat) : Int) = x.fmod 16 := by
  unfold rem16
  rw [Int.fmod_eq_emod_of_nonneg _ (by decide)]
  exact Int.toNat_of_nonneg (Int.emod_nonneg _ (by decide))
theorem rem16_lt (x : Int) : rem16 x < 16 := by
  have h := rem16_eq x
  rw [Int.fmod_eq_emod_of_nonneg _ (by decide)] at h
  have := Int.emod_lt_of_pos x (show (0 : Int) < 16 by decide)
  omega
theorem fmod_nat (a b : Nat) : ((a : Int)).fmod (b : Int) = ((a % b : Nat) : Int) := by rw [Int.fmod_eq_emod_of_nonneg _ (by omega)]; rfl
theorem fdiv_nat (a b : Nat) : ((a : Int)).fdiv (b : Int) = ((a / b : Nat) : Int) := by rw [Int.fdiv_eq_ediv_of_nonneg _ (by omega)]; rfl
theorem numOf_from : ∀ (l : List Nat) (n : Nat), numOf l n = n * 16 ^ l.length + numOf l 0
  | [], n => by simp [numOf]
  | f :: l, n => by
    show numOf l (16 * n + f) = n * 16 ^ (l.length + 1) + numOf l (16 * 0 + f)
    rw [numOf_from l (16 * n + f), numOf_from l (16 * 0 + f), Nat.pow_succ, Nat.add_mul, Nat.mul_zero, Nat.zero_add]
    rw [show 16 * n * 16 ^ l.length = n * (16 ^ l.length * 16) by rw [Nat.mul_comm 16 n, Nat.mul_assoc, Nat.mul_comm 16]]
    omega
theorem turn_num {l : List Nat} (hl : ∀ f ∈ l, f < 16) {i : Nat} (hi : i < l.length) : numOf (openAt l (i + 1)) 0 = numOf (openAt l i) 0 % 16 ^ (l.length - 1) * 16 + numOf (openAt l i) 0 / 16 ^ (l.length - 1) := by
  have h1 : openAt l i = l[i] :: (l.drop (i + 1) ++ l.take i) := by unfold openAt; rw [List.drop_eq_getElem_cons hi]; rfl
  have h2 : openAt l (i + 1) = (l.drop (i + 1) ++ l.take i) ++ [l[i]] := by
    unfold openAt
    rw [← List.take_append_getElem hi, List.append_assoc]
  have hlen : (l.drop (i + 1) ++ l.take i).length = l.length - 1 := by simp; omega
  have hlt : numOf (l.drop (i + 1) ++ l.take i) 0 < 16 ^ (l.length - 1) := by
    have := num_lt (l.drop (i + 1) ++ l.take i) 0 0 (fun f hf => by
      rcases List.mem_append.mp hf with h | h
      · exact hl f (List.mem_of_mem_drop h)
      · exact hl f (List.mem_of_mem_take h)) (by decide)
    rwa [Nat.zero_add, hlen] at this
  rw [h1, h2]
  generalize l.drop (i + 1) ++ l.take i = r at hlen hlt ⊢
  have e1 : numOf (l[i] :: r) 0 = l[i] * 16 ^ (l.length - 1) + numOf r 0 := by
    show numOf r (16 * 0 + l[i]) = _
    rw [numOf_from, hlen, Nat.mul_zero, Nat.zero_add]
  have e2 : numOf (r ++ [l[i]]) 0 = 16 * numOf r 0 + l[i] := by unfold numOf; rw [List.foldl_append]; rfl
  rw [e1, e2]
  generalize 16 ^ (l.length - 1) = u at hlt ⊢
  rw [Nat.mul_comm l[i] u, Nat.mul_add_mod, Nat.mod_eq_of_lt hlt, Nat.mul_add_div (by omega), Nat.div_eq_of_lt hlt]
  omega
theorem openAt_mem {l : List Nat} {k f : Nat} (h : f ∈ openAt l k) : f ∈ l := by
  rcases List.mem_append.mp h with h | h
  · exact List.mem_of_mem_drop h
  · exact List.mem_of_mem_take h
def wt (bd : Nat) (pr : Int) (f : Nat) : Int := if bd ≤ f then 1 else -pr
theorem drop_full {r : List Nat} (h : (r.dropWhile (· == 0)).length = r.length) : r.dropWhile (· == 0) = r :=
  List.Sublist.eq_of_length (List.dropWhile_sublist _) h
theorem drop_low {r : List Nat} {bd : Nat} {pr : Int} (h : (r.dropWhile (· == 0)).length ≠ r.length) (hb : 1 ≤ bd) (hp : 1 ≤ pr) : posL (wt bd pr) 0 r = false := by
  cases r with
  | nil => exact (h rfl).elim
  | cons d r =>
    have hd : d = 0 := by
      rcases Nat.eq_zero_or_pos d with e | e
      · exact e
      · refine (h ?_).elim
        rw [List.dropWhile_cons_of_neg (by simp; omega)]
    subst hd
    exact posL_low (by unfold wt; rw [if_neg (by omega)]; omega)
abbrev LET : Str := Str.ofString "ABCDEFGHIJKLMNOP"
abbrev upS (b : Nat) : Str := Txt.slice LET (some ((b : Nat) : Int)) none
abbrev loS (b : Nat) : Str := Txt.slice LET none (some ((b : Nat) : Int))
theorem sl_all : ((List.range 15).all fun b => ([upS (b + 1), loS (b + 1)].all fun x => x.length != 0 && x.cps.all (· < 128) && decide (x.cps.size ≤ 1000) && decide (x.cps.toList.Nodup)) &&
    ((List.range 16).all fun k => (upS (b + 1)).cps.toList.contains (65 + k) == decide (65 + (b + 1) ≤ 65 + k) && (loS (b + 1)).cps.toList.contains (65 + k) == !decide (65 + (b + 1) ≤ 65 + k))) = true := by decide +kernel
structure ChOk (ch : Str) (bd : Nat) : Prop where
  c0 : ch.length ≠ 0
  c1 : ch.cps.all (· < 128) = true
  c2 : ch.cps.size ≤ 1000
  c3 : ch.cps.toList.Nodup
  k : ∃ fl, ∀ c, 65 ≤ c → c ≤ 80 → ch.cps.toList.contains c = (decide (65 + bd ≤ c) ^^ fl)
theorem sl_ok {bd : Nat} (h1 : 1 ≤ bd) (h2 : bd ≤ 15) : (∀ c, 65 ≤ c → c ≤ 80 → (upS bd).cps.toList.contains c = decide (65 + bd ≤ c)) ∧ ∀ b : Bool, ChOk (if b then upS bd else loS bd) bd := by
  have h := List.all_eq_true.mp sl_all (bd - 1) (List.mem_range.mpr (by omega))
  rw [show bd - 1 + 1 = bd by omega] at h
  simp only [Bool.and_eq_true, List.all_cons, List.all_nil, Bool.and_true, decide_eq_true_eq, bne_iff_ne] at h
  obtain ⟨⟨⟨⟨⟨a1, a2⟩, a3⟩, a4⟩, ⟨⟨⟨b1, b2⟩, b3⟩, b4⟩⟩, k⟩ := h
  have kk : ∀ c, 65 ≤ c → c ≤ 80 → (upS bd).cps.toList.contains c = decide (65 + bd ≤ c) ∧ (loS bd).cps.toList.contains c = !decide (65 + bd ≤ c) := fun c hc hc2 => by
    have := List.all_eq_true.mp k (c - 65) (List.mem_range.mpr (by omega))
    rw [show 65 + (c - 65) = c by omega, Bool.and_eq_true, beq_iff_eq, beq_iff_eq] at this
    exact this
  refine ⟨fun c hc hc2 => (kk c hc hc2).1, fun b => ?_⟩
  cases b with
  | true => exact ⟨a1, a2, a3, a4, false, fun c hc hc2 => by rw [Bool.xor_false]; exact (kk c hc hc2).1⟩
  | false => exact ⟨b1, b2, b3, b4, true, fun c hc hc2 => by rw [Bool.xor_true]; exact (kk c hc hc2).2⟩
theorem range_ok : (∀ k : Nat, k < 20 → Builtin.Range.small 0 (k : Int) 1 = true ∧ Builtin.Range.rangeSize 0 (k : Int) 1 = ((k : Nat) : Int)) ∧ (∀ k : Nat, k < 20 → Builtin.Range.small 1 ((k + 1 : Nat) : Int) 1 = true ∧ Builtin.Range.rangeSize 1 ((k + 1 : Nat) : Int) 1 = ((k : Nat) : Int)) ∧
    ∀ a : Nat, a < 20 → ∀ d : Nat, d < 20 → Builtin.Range.small (a : Int) ((a + d : Nat) : Int) 1 = true ∧ Builtin.Range.rangeSize (a : Int) ((a + d : Nat) : Int) 1 = ((d : Nat) : Int) := by decide +kernel
def ring0 (ns : List Int) : List Nat := if ((ns.take 9).map rem16).length < 4 then (ns.take 9).map rem16 ++ [11, 2, 15, 14] else (ns.take 9).map rem16
theorem ring0_ok (ns : List Int) : 4 ≤ (ring0 ns).length ∧ (ring0 ns).length ≤ 9 ∧ ∀ f ∈ ring0 ns, f < 16 := by
  have hl : ((ns.take 9).map rem16).length ≤ 9 := by simp; omega
  have hm : ∀ f ∈ (ns.take 9).map rem16, f < 16 := fun f hf => by
    obtain ⟨x, _, rfl⟩ := List.mem_map.mp hf
    exact rem16_lt x
  unfold ring0
  generalize (ns.take 9).map rem16 = r at hl hm ⊢
  split
  · refine ⟨by simp, by simp; omega, fun f hf => ?_⟩
    rcases List.mem_append.mp hf with h | h
    · exact hm f h
    · simp at h; omega
  · exact ⟨by omega, hl, hm⟩
theorem bound_ok (pick : Int) : ∃ bd : Nat, 1 + (pick + 7).fmod 15 = ((bd : Nat) : Int) ∧ 1 ≤ bd ∧ bd ≤ 15 := by
  rw [Int.fmod_eq_emod_of_nonneg _ (by decide)]
  have h1 := Int.emod_nonneg (pick + 7) (show (15 : Int) ≠ 0 by decide)
  have h2 := Int.emod_lt_of_pos (pick + 7) (show (0 : Int) < 15 by decide)
  exact ⟨(1 + (pick + 7) % 15).toNat, by omega, by omega, by omega⟩
theorem price_ok (pick : Int) : 1 ≤ 1 + (pick.fdiv 15).fmod 3 ∧ 1 + (pick.fdiv 15).fmod 3 ≤ 3 := by
  rw [Int.fmod_eq_emod_of_nonneg _ (by decide)]
  have h1 := Int.emod_nonneg (pick.fdiv 15) (show (3 : Int) ≠ 0 by decide)
  have h2 := Int.emod_lt_of_pos (pick.fdiv 15) (show (0 : Int) < 3 by decide)
  omega
theorem noPy_unit {x : Int} {u : Nat} (h : u ≤ 4294967296) : Builtin.divisionGoesByPylong x (u : Int) = false := by
  refine PyProof.noPylong_of_log2 ?_
  show u.log2 < 9000
  by_cases h0 : u = 0
  · rw [h0]; decide
  · have := (Nat.log2_lt (k := 33) h0).mpr (by omega)
    omega
theorem unit_le {n : Nat} (h : n ≤ 9) : 16 ^ (n - 1) ≤ 4294967296 ∧ 0 < 16 ^ (n - 1) := by
  have h1 : 16 ^ (n - 1) ≤ 16 ^ 8 := Nat.pow_le_pow_right (by decide) (by omega)
  exact ⟨h1, Nat.pow_pos (by decide)⟩
theorem W.front3 {α : Type} {C : Cx} {A : Around} {N : Led} {t : Sem α} {Q : α → Led → Prop} {a b c : Addr × AO} (h : W C A t (c :: a :: b :: N) Q) : W C A t (a :: b :: c :: N) Q := h.perm (List.perm_middle (l₁ := [a, b])).symm
abbrev lwT (L rg wo : Nat) (ring : List Nat) (bd : Nat) (pr : Int) : Led := [(wo, .list (ring.map fun f => V.int (wt bd pr f))), (rg, .list (ring.map natV)), (L + 1, .cell (some (.ref rg))), (L + 1 + 1, .cell (some (natV bd))), (L + 1 + 1 + 1, .cell (some (.int pr))), (L + 1 + 1 + 1 + 1, .cell (some (.ref wo)))]
/-- the word of a number whose figures these are -/
theorem word_of {r : List Nat} (hr : ∀ f ∈ r, f < 16) : digs (numOf r 0) = r.dropWhile (· == 0) := by
  have := digs_num r 0 hr
  rwa [if_pos rfl] at this
theorem letters_of {l : List Nat} (hl : ∀ f ∈ l, f < 16) : LetterL (l.map (65 + ·)) := fun c hc => by
  obtain ⟨f, hf, rfl⟩ := List.mem_map.mp hc
  have := hl f hf
  show 65 ≤ 65 + f ∧ 65 + f ≤ 80
  omega
theorem posL_letters (bd : Nat) (pr : Int) (l : List Nat) : posL (fun c => if decide (65 + bd ≤ c) = true then 1 else -pr) 0 (l.map (65 + ·)) = posL (wt bd pr) 0 l := by
  rw [posL_map]
  refine posL_congr l 0 fun d _ => ?_
  unfold wt
  by_cases h : bd ≤ d
  · rw [if_pos h, if_pos (by rw [decide_eq_true_eq]; omega)]
  · rw [if_neg h, if_neg (by rw [decide_eq_true_eq]; omega)]

local macro_rules | `(tactic| walk_at "ev") => `(tactic| first | (refine' ev_cell ?m ?hc ?hl ?hk; (case hl => exact rfl); (case hk => exact rfl); (case hc => exact rfl); (case m => walk_at "mem")) | fail)

theorem nG_ap (D : Dx) : nsIn (cx D).K mainGlobals "Int2AP" = some (some (.ref 733)) := by kernel_rfl
theorem nG_stands (D : Dx) : nsIn (cx D).K mainGlobals "_law_stands" = some (some (.ref 740)) := by kernel_rfl
abbrev lw2F (l : Addr) (vlet vpick vch vfig vnum vun vpl vplace vodd vtext vrd vk vst : Option V) : List (Str × Option V) := [(Str.ofString "script", some (.ref l)), (Str.ofString "letters", vlet), (Str.ofString "pick", vpick), (Str.ofString "chosen", vch), (Str.ofString "figure", vfig), (Str.ofString "number", vnum), (Str.ofString "unit", vun), (Str.ofString "places", vpl), (Str.ofString "place", vplace), (Str.ofString "odd", vodd), (Str.ofString "text", vtext), (Str.ofString "reader", vrd), (Str.ofString "k", vk), (Str.ofString "stretch", vst)]
theorem law_holds : PySem.Challenge.rw_pm0067_02.Holds := Mine.hd (by
  k_go0
  rename_i l us _ hL _ _ _ hI _ hns _ _ _ _ _ F _ _ _ _ d4 d3 d2 d1 NW _
  rename (Frag.In _ _) => KX
  rename (Glob _ _ _ _ _ _ _ _) => GL
  rename (_ = #[]) => hg
  rename (List Int) => ns
  rename Shared => s₁
  refine Mine.law_start4 (L := s₁.heap.objs.size) (Mine.cx ⟨_, _, _, _, KX, GL.g, GL.b, GL.builtins, GL.nolimit⟩) rfl [(Str.ofString "letters", none), (Str.ofString "pick", none), (Str.ofString "chosen", none), (Str.ofString "figure", none), (Str.ofString "number", none), (Str.ofString "unit", none), (Str.ofString "places", none), (Str.ofString "place", none), (Str.ofString "odd", none), (Str.ofString "text", none), (Str.ofString "reader", none), (Str.ofString "k", none), (Str.ofString "stretch", none)] (Nat.le_refl _) F NW d4 d3 d2 d1 hL (by simp only [List.map_cons, List.map_nil]; decide +kernel) (by simp) rfl ?_ ?_
  · have hbase : (cx (Dx.mk _ _ _ _ KX GL.g GL.b GL.builtins GL.nolimit)).h₀.IsList l us.toArray := hL
    have hvals := intsAre_ab hI
    have hlen : ns.length ≤ 63 := by omega
    generalize (Dx.mk _ _ _ _ KX GL.g GL.b GL.builtins GL.nolimit) = D at hbase ⊢
    have hR : ∀ e : Env, Room (callerA.deeper e) 12 := fun e => ⟨rfl, by rw [depth_deeper]; decide, by rw [Around.deeper_units]; decide⟩
    have hsc : ∀ N, LstAt (cx D) N l (ns.map V.int) := fun N => LstAt.base hbase hvals
    generalize s₁.heap.objs.size = L
    have hl0 : (ns.map V.int).length ≤ 1000 := by rw [List.length_map]; omega
    have hl9 : (ns.take 9).length ≤ 9 := by rw [List.length_take]; omega
    have hrg0 : ring0 ns = if ((ns.take 9).map rem16).length < 4 then (ns.take 9).map rem16 ++ [11, 2, 15, 14] else (ns.take 9).map rem16 := rfl
    obtain ⟨hn4, hn9, hr16⟩ := ring0_ok ns
    generalize ring0 ns = ring at hrg0 hn4 hn9 hr16
    refine w_cons ?_
    refine' w_assign (v := .str LET) ev_str .head ?zp ?_ fun _ => rfl
    case zp => walk_at "put"
    refine w_cons (w_assignW ?_)
    refine w_comp (w_sliceTo (k := 9) (by walk_at "ev") ev_int (hsc _) hl0 fun sl => ?_)
    rw [← List.map_take]
    generalize ns.take 9 = xs at hrg0 hl9 ⊢
    refine ⟨xs.map V.int, [(sl, .list (xs.map V.int))], (xs.map rem16).map natV, itb_list (hR _).1 (.head _), (fun p hp => by rw [List.mem_singleton.mp hp]; exact .head _), ⟨_, _, .head _⟩, by rw [List.length_map]; omega, all_plain _ fun _ => rfl, ?_, fun D2 => ?_⟩
    · rw [List.map_map]
      refine All2.map fun x hx Lc M hM => ?_
      show Ev _ _ _ _ _ (natV (rem16 x))
      rw [show natV (rem16 x) = V.int (x.fmod 16) by rw [← rem16_eq]]
      exact ev_bin (ev_local (.head _) .head) ev_int (op_mod (by decide))
    refine w_storeC (v := .ref D2) (.tail (.tail (.tail .head))) rfl ?_
    show W _ _ (execs _ _) _ _
    refine W.sub ?_ (.cons_cons _ (.cons _ (.refl _)))
    have hdl : (xs.map rem16).length ≤ 9 := by rw [List.length_map]; exact hl9
    refine w_cons (W.mono (Q := fun fl N' => fl = .next ∧ ∃ rg, N' = [(rg, .list (ring.map natV)), (L, .ns (lw2F l (some (.str LET)) none none none none none none none none none none none none)), (L + 1, .cell (some (.ref rg))), (L + 1 + 1, .cell none), (L + 1 + 1 + 1, .cell none), (L + 1 + 1 + 1 + 1, .cell none)]) (W.postSub (w_if (tv_cmp (ev_call (ev_nameB (by walk_at "nameB") (by walk_at "boot")) rfl (.cons (by walk_at "ev") .nil) (co_len_list (.head _) (by rw [List.length_map]; omega))) ev_int op_lt) (fun hb => ?_) (fun hb => ?_))) ?_)
    · have hb' : (xs.map rem16).length < 4 := by rw [decide_eq_true_eq, List.length_map] at hb; omega
      rw [if_pos hb'] at hrg0
      subst hrg0
      refine w_cons (w_assignW (w_binW ((by walk_at "ev" : Ev _ _ _ _ _ _).go _ fun t => w_list (vs := [.int 11, .int 2, .int 15, .int 14]) (by walk_at "evs") rfl (by decide) fun b => w_addL (vs := (xs.map rem16).map natV) (ws := [.int 11, .int 2, .int 15, .int 14]) (.tail _ (.head _)) (.head _) (by rw [List.length_map]; exact (show (xs.map rem16).length + 4 ≤ 1000 by omega)) fun d => ?_)))
      refine w_storeC (v := .ref d) (.tail (.tail (.tail (.tail .head)))) rfl ?_
      refine w_nil ⟨_, .cons_cons _ (.cons _ (.cons _ (.refl _))), rfl, d, ?_⟩
      simp
    · have hb' : ¬ (xs.map rem16).length < 4 := by rw [decide_eq_false_iff_not, List.length_map] at hb; omega
      rw [if_neg hb'] at hrg0
      subst hrg0
      exact w_nil ⟨_, .refl _, rfl, D2, rfl⟩
    rintro fl N' ⟨rfl, rg, rfl⟩
    show W _ _ (execs _ _) _ _
    clear hrg0 hdl
    refine w_cons (w_assignW (w_callW1 (fun Q q => (ev_nameB (by walk_at "nameB") (by walk_at "boot") : Ev _ _ _ _ _ (.oth (.builtin "sum"))).go Q fun _ => q) (by kernel_rfl) ?_))
    refine w_comp (w_sliceTo (k := 9) (by walk_at "ev") ev_int (hsc _) hl0 fun sl => ?_)
    rw [← List.map_take]
    have hl9 : (ns.take 9).length ≤ 9 := by rw [List.length_take]; omega
    generalize ns.take 9 = xs at hl9 ⊢
    refine ⟨xs.map V.int, [(sl, .list (xs.map V.int))], (xs.map (fun x : Int => x.fdiv 16)).map V.int, itb_list (hR _).1 (.head _), (fun p hp => by rw [List.mem_singleton.mp hp]; exact .head _), ⟨_, _, .head _⟩, by rw [List.length_map]; omega, all_plain _ fun _ => rfl, ?_, fun D3 => (co_sum (hR _).1 (LstAt.led (.head _)) (.head _)).go [.ref D3] (.cons (t := 0) (v := .ref D3) .nil) _ fun t => ?_⟩
    · rw [List.map_map]
      refine All2.map fun x hx Lc M hM => ?_
      exact ev_bin (ev_local (.head _) .head) ev_int (op_fdiv (by decide) (PyProof.noPylong_small (by decide)))
    generalize (xs.map (fun x : Int => x.fdiv 16)).sum = pk
    refine' w_store (v := .int pk) (.tail (.tail (.tail .head))) ?zp rfl ?_
    case zp => walk_at "put"
    show W _ _ (execs _ _) _ _
    refine W.sub ?_ (.cons _ (.cons _ (.refl _)))
    obtain ⟨bd, hbd, hbd1, hbd2⟩ := bound_ok pk
    refine w_cons (w_asgC (v := natV bd) ?zv (.tail (.tail (.tail .head))) ?_ fun _ => rfl)
    case zv =>
      rw [show natV bd = V.int (1 + (pk + 7).fmod 15) by rw [hbd]]
      exact ev_bin ev_int (ev_bin (ev_bin (by walk_at "ev") ev_int op_add) ev_int (op_mod (by decide))) op_add
    obtain ⟨hpr1, hpr3⟩ := price_ok pk
    refine w_cons (w_asgC (v := .int (1 + (pk.fdiv 15).fmod 3)) ?zv (.tail (.tail (.tail (.tail .head)))) ?_ fun _ => rfl)
    case zv => exact ev_bin ev_int (ev_bin (ev_bin (by walk_at "ev") ev_int (op_fdiv (by decide) (PyProof.noPylong_small (by decide)))) ev_int (op_mod (by decide))) op_add
    generalize 1 + (pk.fdiv 15).fmod 3 = pr at hpr1 hpr3 ⊢
    refine w_cons ?_
    refine' w_assign (v := .str (if (pk.fmod 2 == 0) = true then upS bd else loS bd)) ?zv (.tail .head) ?zp ?_ fun _ => rfl
    case zp => walk_at "put"
    case zv =>
      refine ev_ifexp (tv_cmp (ev_bin (by walk_at "ev") ev_int (op_mod (by decide))) ev_int op_eq) (fun hb => ?_) (fun hb => ?_)
      · rw [if_pos hb]
        exact ev_fromS (.tail _ (.head _)) (by walk_at "ev") (by walk_at "ev") (by decide +kernel)
      · rw [if_neg (by rw [hb]; decide)]
        exact ev_toS (.tail _ (.head _)) (by walk_at "ev") (by walk_at "ev") (by decide +kernel)
    have hup := (sl_ok hbd1 hbd2).1
    have hch := (sl_ok hbd1 hbd2).2 (pk.fmod 2 == 0)
    generalize (if (pk.fmod 2 == 0) = true then upS bd else loS bd) = ch at hch ⊢
    refine w_cons (w_assignW ?_)
    refine w_comp (cl := [(Str.ofString "price", L + 1 + 1 + 1), (Str.ofString "bound", L + 1 + 1)]) ((by walk_at "ev" : Ev _ _ _ _ _ _).go _ fun t => ⟨ring.map natV, [(rg, .list (ring.map natV))], ring.map (fun f => V.int (wt bd pr f)), itb_list (hR _).1 (.head _), (fun p hp => by rw [List.mem_singleton.mp hp]; exact .head _), ⟨_, _, .head _⟩, by rw [List.length_map]; omega, all_plain _ fun _ => rfl, ?_, fun wo => ?_⟩)
    · refine All2.map fun f hf Lc M hM => ?_
      refine ev_ifexp (tv_cmp (ev_local (.head _) .head) (ev_cell (c := L + 1 + 1) (.tail _ (hM _ (.tail _ (.tail _ (.tail _ (.head _))))))) op_ge) (fun hb => ?_) (fun hb => ?_)
      · have hb := of_decide_eq_true hb
        rw [show wt bd pr f = 1 by unfold wt; rw [if_pos (by omega)]]
        exact ev_int
      · have hb := of_decide_eq_false hb
        rw [show wt bd pr f = -pr by unfold wt; rw [if_neg (by omega)]]
        exact ev_neg (ev_cell (c := L + 1 + 1 + 1) (.tail _ (hM _ (.tail _ (.tail _ (.tail _ (.tail _ (.head _))))))))
    refine w_storeC (v := .ref wo) (.tail (.tail (.tail (.tail (.tail (.tail .head)))))) rfl ?_
    show W _ _ (execs _ _) _ _
    refine W.front3 ?_
    show W _ _ (execs _ _) ((L, .ns (lw2F l (some (.str LET)) (some (.int pk)) (some (.str ch)) none none none none none none none none none none)) :: lwT L rg wo ring bd pr) _
    have hrl : (ring.map natV).length = ring.length := List.length_map ..
    refine w_cons ?_
    refine' w_assign (v := natV (numOf [] 0)) ev_int .head ?zp ?_ fun _ => rfl
    case zp => walk_at "put"
    refine w_cons (W.mono (Q := fun fl N' => fl = .next ∧ ∃ vf, N' = (L, .ns (lw2F l (some (.str LET)) (some (.int pk)) (some (.str ch)) vf (some (natV (numOf ring 0))) none none none none none none none none)) :: lwT L rg wo ring bd pr) (w_for ((by walk_at "ev" : Ev _ _ _ _ _ _).go _ fun t => ⟨ring.map natV, [(rg, .list (ring.map natV))], fun i N' => ∃ vf, N' = (L, .ns (lw2F l (some (.str LET)) (some (.int pk)) (some (.str ch)) vf (some (natV (numOf (ring.take i) 0))) none none none none none none none none)) :: lwT L rg wo ring bd pr, itb_list (hR _).1 (.tail _ (.tail _ (.head _))), ⟨none, by simp⟩, ?_, ?_, ?_⟩)) ?_)
    · rintro i _ ⟨vf, rfl⟩
      exact ⟨fun p hp => by rw [List.mem_singleton.mp hp]; exact .tail _ (.tail _ (.head _)), rg, _, .tail _ (.tail _ (.head _))⟩
    · rintro i hi _ ⟨vf, rfl⟩ a ao u hu
      have hi' : i < ring.length := by simpa using hi
      rw [List.getElem_map] at hu
      refine' w_store (v := natV ring[i]) (.tail .head) ?zp hu ?_
      case zp => walk_at "put"
      refine w_cons ?_
      refine' w_assign (v := natV (numOf (ring.take (i + 1)) 0)) ?zv (.tail .head) ?zp ?_ fun _ => rfl
      case zp => walk_at "put"
      case zv =>
        have e : numOf (ring.take (i + 1)) 0 = 16 * numOf (ring.take i) 0 + ring[i] := foldl_take (g := fun n f => 16 * n + f) 0 hi'
        rw [show natV (numOf (ring.take (i + 1)) 0) = V.int (16 * ((numOf (ring.take i) 0 : Nat) : Int) + ((ring[i] : Nat) : Int)) by rw [e]; show V.int _ = _; congr 1]
        exact ev_bin (ev_bin ev_int (by walk_at "ev") (op_mul (IntMulOk.of_left (intBits_le_64 (by decide) (by decide))))) (by walk_at "ev") op_add
      exact w_nil ⟨_, .refl _, _, rfl⟩
    · rintro _ ⟨vf, rfl⟩
      rw [List.length_map, List.take_length]
      exact ⟨rfl, vf, rfl⟩
    rintro fl N' ⟨rfl, vf, rfl⟩
    show W _ _ (execs _ _) _ _
    obtain ⟨hu1, hu0⟩ := unit_le hn9
    refine w_cons ?_
    refine' w_assign (v := natV (16 ^ (ring.length - 1))) ?zv .head ?zp ?_ fun _ => rfl
    case zp => walk_at "put"
    case zv =>
      rw [show natV (16 ^ (ring.length - 1)) = V.int ((16 : Int) ^ (((ring.map natV).length : Int) - 1).toNat) by rw [hrl, show ((ring.length : Int) - 1).toNat = ring.length - 1 by omega]; show V.int _ = _; congr 1]
      exact ev_bin ev_int (ev_bin (ev_call (ev_nameB (by walk_at "nameB") (by walk_at "boot")) rfl (.cons (by walk_at "ev") .nil) (co_len_list (.tail _ (.tail _ (.head _))) (by omega))) ev_int op_sub) (op_pow (by omega) (by omega) (by decide))
    generalize hun : 16 ^ (ring.length - 1) = un at hu1 hu0 ⊢
    refine w_cons (w_assignW (w_list (vs := []) .nil rfl (by decide) fun pl => ?_))
    refine' w_store (v := .ref pl) (.tail .head) ?zp rfl ?_
    case zp => walk_at "put"
    show W _ _ (execs _ _) _ _
    refine W.perm ?_ (.swap _ _ _)
    have hst : ∀ k, (fun k => posL (wt bd pr) 0 (openAt ring k)) k = posL (wt bd pr) 0 (openAt ring k) := fun k => rfl
    generalize hstd : (fun k => posL (wt bd pr) 0 (openAt ring k)) = st at hst
    refine w_cons (W.mono (Q := fun fl N' => fl = .next ∧ ∃ vf vn vplace vodd vtext vrd, N' = (L, .ns (lw2F l (some (.str LET)) (some (.int pk)) (some (.str ch)) vf vn (some (natV un)) (some (.ref pl)) vplace vodd vtext vrd none none)) :: (pl, .list ((placesL st ring.length).map natV)) :: lwT L rg wo ring bd pr) (W.postSub (w_for (w_callE (vs := [.int ((ring.map natV).length : Int)]) (fun Q q => (ev_nameB (by walk_at "nameB") (by walk_at "boot") : Ev _ _ _ _ _ (.oth (.type "range"))).go Q fun _ => q) (by kernel_rfl) (.cons (ev_call (ev_nameB (by walk_at "nameB") (by walk_at "boot")) rfl (.cons (by walk_at "ev") .nil) (co_len_list (.tail _ (.tail _ (.tail _ (.head _)))) (by omega))) .nil) fun us hus => ?_))) ?_)
    · obtain ⟨t6, rfl⟩ := rawL1 hus
      have hrg := range_ok.1 ring.length (by omega)
      rw [← hrl] at hrg
      refine w_range1 fun r => ⟨_, [], fun i N' => ∃ vf vplace vodd vtext vrd, N' = (r, .prop (isRangeO 0 ((ring.map natV).length : Int) 1)) :: (L, .ns (lw2F l (some (.str LET)) (some (.int pk)) (some (.str ch)) vf (some (natV (numOf (openAt ring i) 0))) (some (natV un)) (some (.ref pl)) vplace vodd vtext vrd none none)) :: (pl, .list ((placesL st i).map natV)) :: lwT L rg wo ring bd pr, itb_range (hR _).1 (.head _) hrg.1 hrg.2, ⟨vf, none, none, none, none, by simp [openAt, placesL]⟩, ?_, ?_, ?_⟩
      · rintro i _ ⟨vf, vplace, vodd, vtext, vrd, rfl⟩
        exact ⟨fun p hp => (by cases hp), r, _, .head _⟩
      · rintro i hi _ ⟨vf, vplace, vodd, vtext, vrd, rfl⟩ a ao u hu
        have hi' : i < ring.length := by simpa using hi
        rw [List.getElem_map, List.getElem_range, show (0 : Int) + (i : Int) * 1 = (i : Int) by omega] at hu
        refine' w_store (v := natV i) (.tail (.tail .head)) ?zp hu ?_
        case zp => walk_at "put"
        have hpm : ((i : Int).fmod 2 == 1) = ((i : Int).fmod 2 == 1) := rfl
        refine w_cons ?_
        refine' w_assign (v := .bool ((i : Int).fmod 2 == 1)) (ev_cmp (ev_bin (by walk_at "ev") ev_int (op_mod (by decide))) ev_int op_eq) (.tail (.tail .head)) ?zp ?_ fun _ => rfl
        case zp => walk_at "put"
        generalize ((i : Int).fmod 2 == 1) = p
        have hrr : (openAt ring i).length = ring.length := openAt_len ring
        have hr16' : ∀ f ∈ openAt ring i, f < 16 := fun f hf => hr16 f (openAt_mem hf)
        have hwd := word_of hr16'
        have hturn := turn_num hr16 hi'
        rw [hun] at hturn
        have hsti := hst i
        generalize hrrd : openAt ring i = rr at hrr hr16' hwd hturn hsti ⊢
        generalize numOf rr 0 = n at hwd hturn ⊢
        have hdl : (digs n).length ≤ rr.length := by rw [hwd]; exact (List.dropWhile_sublist _).length_le
        have hd16 : ∀ f ∈ digs n, f < 16 := digs_lt n
        refine w_cons (w_assignW ?_)
        have hna : (if p = true then -((n : Nat) : Int) else ((n : Nat) : Int)).natAbs = n := by split <;> omega
        have hbl : (apL (digs n)).toList.map (fun c => V.int (c.toNat : Int)) = (digs n).map fun d => natV (65 + d) := by
          unfold apL
          rw [List.map_map]
          apply List.map_congr_left
          intro d hd
          have := hd16 d hd
          show V.int ((UInt8.ofNat (65 + d)).toNat : Int) = _
          rw [UInt8.toNat_ofNat_of_lt' (by show 65 + d < 256; omega)]
        refine w_methodW1 (f := .builtin "str.join") (first := fun t => [.str "" t]) (vo := .str "") ev_str (fun t Q q => w_getm_join q) rfl fun t3 => ?_
        refine w_comp (cl := []) (w_callE (vs := [.int (if p = true then -((n : Nat) : Int) else ((n : Nat) : Int))]) (fun Q q => w_nameG (nG_ap D) q) (by kernel_rfl) (.cons (ev_ifexp (tv_ev (by walk_at "ev") tr_bool) (fun hb => ?_) (fun hb => ?_)) .nil) fun us hu => ?_)
        · rw [if_pos hb]
          exact ev_neg (by walk_at "ev")
        · rw [if_neg (by rw [hb]; decide)]
          walk_at "ev"
        obtain ⟨t1, rfl⟩ := rawL1 hu
        refine ap_spec D ((hR _).le (by decide)) (by rw [hna]; omega) fun t2 => ?_
        rw [hna]
        refine ⟨_, [], ((digs n).map (65 + ·)).map chV, itb_bytes (hR _).1, (fun p hp => by cases hp), ⟨_, _, .head _⟩, by rw [hbl]; simp; omega, all_plain _ fun _ => rfl, ?_, fun D2 => ?_⟩
        · rw [hbl, List.map_map]
          refine All2.map fun d hd Lc M hM => ?_
          have := hd16 d hd
          exact ev_call (ev_nameB (by walk_at "nameB") (by walk_at "boot")) rfl (.cons (ev_local (.head _) .head) .nil) (co_chr (by omega) (by omega))
        refine w_join (cs := (digs n).map (65 + ·)) (.head _) (by simp; omega) fun t5 => ?_
        refine' w_store (v := .str ⟨((digs n).map (65 + ·)).toArray⟩) (.tail (.tail (.tail .head))) ?zp rfl ?_
        case zp => walk_at "put"
        show W _ _ (execs _ _) _ _
        refine W.sub ?_ (.cons _ (.refl _))
        have htl : ((digs n).map (65 + ·)).length = (digs n).length := List.length_map ..
        have hlet := letters_of hd16
        have hps := posL_letters bd pr (digs n)
        generalize hlw : (digs n).map (65 + ·) = lw at htl hlet hps ⊢
        have hlwl : (⟨lw.toArray⟩ : Str).length = lw.length := str_len lw
        refine w_cons (w_assignW ?_)
        refine w_callKw2 (fun Q q => w_nameG (nG_shlex D) q) (by kernel_rfl) (by walk_at "ev") (by walk_at "ev") (by walk_at "ev") fun t3 t4 t5 => ?_
        refine shlex_spec D ((hR _).le (by decide)) hch.c0 hch.c1 hch.c2 hch.c3 fun x dx ins di pq fs pb => ?_
        refine' w_store (v := .ref x) (.tail (.tail (.tail (.tail (.tail (.tail (.tail (.tail (.tail .head))))))))) ?zp rfl ?_
        case zp => walk_at "put"
        show W _ _ (execs _ _) (rdL x dx ins di pq fs pb (eofV p) p ch (wcOf p ch) (.str " ") 1 "" ⟨lw.toArray⟩ 0 [] ((a, ao) :: _)) _
        refine W.perm ?_ rdL_swap.symm
        refine w_cons (W.mono (Q := fun fl N' => fl = .next ∧ N' = (a, ao) :: (r, .prop (isRangeO 0 ((ring.map natV).length : Int) 1)) :: (L, .ns (lw2F l (some (.str LET)) (some (.int pk)) (some (.str ch)) vf (some (natV n)) (some (natV un)) (some (.ref pl)) (some (natV i)) (some (.bool p)) (some (.str ⟨lw.toArray⟩)) (some (.ref x)) none none)) :: (pl, .list ((placesL st (i + 1)).map natV)) :: lwT L rg wo ring bd pr) (W.postSub (w_ifAnd (tv_cmp (ev_call (ev_nameB (by walk_at "nameB") (by walk_at "boot")) rfl (.cons (by walk_at "ev") .nil) (co_len_str (by rw [hlwl]; omega))) (ev_call (ev_nameB (by walk_at "nameB") (by walk_at "boot")) rfl (.cons (by walk_at "ev") .nil) (co_len_list (vs := ring.map natV) (by walk_at "mem") (by omega))) op_eq) (fun hb => ?_) (fun hb => ?_))) ?_)
        · have hb' : lw.length = ring.length := by
            have := beq_iff_eq.mp hb
            rw [hlwl, hrl] at this
            omega
          have hfull : digs n = rr := by rw [hwd]; exact drop_full (by rw [← hwd, ← htl, hb', hrr])
          have hv : posL (fun c => if decide (65 + bd ≤ c) = true then 1 else -pr) 0 (⟨lw.toArray⟩ : Str).cps.toList = st i := by rw [str_toList, hps, hfull, hsti]
          refine w_callE (vs := [.ref x, .str (upS bd), .int pr]) (fun Q q => w_nameG (nG_stands D) q) (by kernel_rfl) (.cons (by walk_at "ev") (.cons (ev_fromS (L := L) (by walk_at "mem") (by walk_at "ev") (by walk_at "ev") (by decide +kernel)) (.cons (by walk_at "ev") .nil))) fun us hus => ?_
          obtain ⟨t6, t7, t8, rfl⟩ := rawL3 hus
          refine stands_spec D ((hR _).le (by decide)) (w := fun c => if decide (65 + bd ≤ c) = true then 1 else -pr) (upp := fun c => decide (65 + bd ≤ c)) (by rw [hlwl]; omega) (by rw [str_toList]; exact hlet) (by rw [str_toList]; rintro rfl; simp at hb'; omega) hch.c0 hch.c2 hup hch.k (fun c => rfl) hpr1 hpr3 ?_
          rw [hv]
          refine ⟨_, rfl, fun hb2 => ?_, fun hb2 => ?_⟩
          · refine w_cons (w_exprCall ?_)
            refine w_methodE (vo := .ref pl) (vs := [natV i]) (by walk_at "ev") (fun t' Q q => w_getm_appendL (.tail _ (.tail _ (.tail _ (.head _)))) q) (by kernel_rfl) (.cons (by walk_at "ev") .nil) fun us hu => ?_
            obtain ⟨tk, rfl⟩ := rawL1 hu
            refine w_appendL (v := natV i) (.tail (.tail (.tail .head))) rfl (by rw [List.length_map]; have := placesL_len st i; omega) ⟨rfl, ?_⟩
            refine w_nil ⟨_, .refl _, rfl, ?_⟩
            rw [placesL_succ, hb2, if_pos rfl, List.map_append]
            rfl
          · refine w_nil ⟨_, .refl _, rfl, ?_⟩
            rw [placesL_succ, hb2, if_neg (by decide), List.append_nil]
        · have hb' : lw.length ≠ ring.length := by
            have := beq_eq_false_iff_ne.mp hb
            rw [hlwl, hrl] at this
            omega
          have hv : st i = false := by
            rw [hsti]
            exact drop_low (by rw [← hwd, ← htl, hrr]; exact hb') hbd1 hpr1
          refine w_nil ⟨_, .cons_cons _ (.cons _ (.cons _ (.cons _ (.cons _ (.cons _ (.cons _ (.cons _ (.refl _)))))))), rfl, ?_⟩
          rw [placesL_succ, hv, if_neg (by decide), List.append_nil]
        rintro fl N' ⟨rfl, rfl⟩
        show W _ _ (execs _ _) _ _
        refine w_cons ?_
        refine' w_assign (v := natV (numOf (openAt ring (i + 1)) 0)) ?zv (.tail (.tail .head)) ?zp ?_ fun _ => rfl
        case zp => walk_at "put"
        case zv =>
          rw [hturn, show natV (n % un * 16 + n / un) = V.int (((n : Nat) : Int).fmod ((un : Nat) : Int) * 16 + ((n : Nat) : Int).fdiv ((un : Nat) : Int)) by rw [fmod_nat, fdiv_nat]; show V.int _ = _; congr 1]
          exact ev_bin (ev_bin (ev_bin (by walk_at "ev") (by walk_at "ev") (op_mod (by omega))) ev_int (op_mul (IntMulOk.of_right (intBits_le_64 (by decide) (by decide))))) (ev_bin (by walk_at "ev") (by walk_at "ev") (op_fdiv (by omega) (noPy_unit hu1))) op_add
        exact w_nil ⟨_, .refl _, _, _, _, _, _, rfl⟩
      · rintro _ ⟨vf, vplace, vodd, vtext, vrd, rfl⟩
        rw [hrl, List.length_map, List.length_range]
        exact ⟨_, .cons _ (.refl _), rfl, _, _, _, _, _, _, rfl⟩
    rintro fl N' ⟨rfl, vf, vn, vplace, vodd, vtext, vrd, rfl⟩
    show W _ _ (execs _ _) _ _
    have hpl := placesL_len st ring.length
    have hwl : (.list (ring.map fun f => V.int (wt bd pr f)) : AO) = .list ((ring.map (wt bd pr)).map V.int) := by rw [List.map_map]; rfl
    refine w_cons (w_if (tv_cmpW ((by walk_at "ev" : Ev _ _ _ _ _ _).go _ fun t => w_list (vs := []) .nil rfl (by decide) fun sb => ⟨.cons _ (.refl _), fun Q q => (op_eqL (ms := (placesL st ring.length).map fun f : Nat => (f : Int)) (ns := []) (hR _).units (LstAt.led (by rw [← natL]; exact .tail _ (.tail _ (.head _)))) (LstAt.led (.head _))).go 0 0 Q fun t => q⟩)) (fun hb => ?_) (fun hb => ?_))
    · have hb' : placesL st ring.length = [] := by simpa using of_decide_eq_true hb
      have hS := ring_none (wt bd pr) ring (by omega) (by rw [hstd]; exact hb')
      refine w_cons (w_ret (v := .bool (decide ((ring.map (wt bd pr)).sum ≤ 0))) (ev_cmp (ev_call (ev_nameB (by walk_at "nameB") (by walk_at "boot")) rfl (.cons (by walk_at "ev") .nil) (co_sum (hR _).1 (LstAt.led (by rw [← hwl]; exact .tail _ (.tail _ (.head _)))) (.head _))) ev_int op_le) fun tk => ?_)
      show Flow.ret (.bool _) = _
      rw [decide_eq_true hS]
    have hb' : 0 < (placesL st ring.length).length := by
      rcases Nat.eq_zero_or_pos (placesL st ring.length).length with h | h
      · rw [List.length_eq_zero_iff.mp h] at hb
        simp at hb
      · exact h
    have hstr : ∀ qs : List Nat, qs = placesL st ring.length ++ [(placesL st ring.length)[0] + ring.length] → ∀ i (h : i + 1 < qs.length), qs[i] < qs[i + 1] ∧ qs[i] < ring.length ∧ qs[i + 1] < 2 * ring.length ∧ hgt (ring.map (wt bd pr)) qs[i + 1] = hgt (ring.map (wt bd pr)) qs[i] + 1 := by
      rintro _ rfl i h
      exact ring_stretch (wt bd pr) (fun d => by unfold wt; split <;> omega) ring (by omega) (placesL st ring.length) (by rw [hstd]) i hb' h
    generalize placesL st ring.length = ps at hpl hb' hstr ⊢
    refine w_nil ?_
    refine w_cons (w_exprCall ?_)
    refine w_methodE (vo := .ref pl) (vs := [natV (ps[0] + ring.length)]) (by walk_at "ev") (fun t' Q q => w_getm_appendL (.tail _ (.head _)) q) (by kernel_rfl) (.cons ?_ .nil) fun us hu => ?_
    · rw [show natV (ps[0] + ring.length) = V.int (((ps[0] : Nat) : Int) + ((ring.map natV).length : Int)) by rw [hrl]; show V.int _ = _; congr 1]
      exact ev_bin (ev_subL (k := 0) (fun h => wpAny_Subscript_Constant_late h) (by walk_at "ev") ev_int (.tail _ (.head _)) (v := natV ps[0]) (by rw [List.getElem?_map, List.getElem?_eq_getElem hb']; rfl) (by decide)) (ev_call (ev_nameB (by walk_at "nameB") (by walk_at "boot")) rfl (.cons (by walk_at "ev") .nil) (co_len_list (.tail _ (.tail _ (.tail _ (.head _)))) (by omega))) op_add
    obtain ⟨tk, rfl⟩ := rawL1 hu
    refine w_appendL (v := natV (ps[0] + ring.length)) (.tail .head) rfl (by rw [List.length_map]; omega) ⟨rfl, ?_⟩
    show W _ _ (execs _ _) _ _
    rw [show ps.map natV ++ [natV (ps[0] + ring.length)] = (ps ++ [ps[0] + ring.length]).map natV by rw [List.map_append]; rfl]
    have hql : (ps ++ [ps[0] + ring.length]).length = ps.length + 1 := by simp
    obtain ⟨qs, hqs⟩ : ∃ qs, qs = ps ++ [ps[0] + ring.length] := ⟨_, rfl⟩
    replace hstr := hstr qs hqs
    rw [← hqs] at hql ⊢
    clear hqs
    have hqm : (qs.map natV).length = qs.length := List.length_map ..
    refine w_cons (W.mono (Q := fun fl N' => fl = .next ∧ ∃ p, p ∈ N') (w_for (w_callE (vs := [.int 1, .int ((qs.map natV).length : Int)]) (fun Q q => (ev_nameB (by walk_at "nameB") (by walk_at "boot") : Ev _ _ _ _ _ (.oth (.type "range"))).go Q fun _ => q) (by kernel_rfl) (.cons ev_int (.cons (ev_call (ev_nameB (by walk_at "nameB") (by walk_at "boot")) rfl (.cons (by walk_at "ev") .nil) (co_len_list (.tail _ (.head _)) (by omega))) .nil)) fun us hus => ?_)) ?_)
    · obtain ⟨t6, t7, rfl⟩ := rawL2 hus
      have hrg := range_ok.2.1 ps.length (by omega)
      rw [← hql, ← hqm] at hrg
      refine w_range2 fun r => ⟨_, [], fun i N' => ∃ vk vst, N' = (r, .prop (isRangeO 1 ((qs.map natV).length : Int) 1)) :: (L, .ns (lw2F l (some (.str LET)) (some (.int pk)) (some (.str ch)) vf vn (some (natV un)) (some (.ref pl)) vplace vodd vtext vrd vk vst)) :: (pl, .list (qs.map natV)) :: lwT L rg wo ring bd pr, itb_range (hR _).1 (.head _) hrg.1 hrg.2, ⟨none, none, rfl⟩, ?_, ?_, ?_⟩
      · rintro i _ ⟨vk, vst, rfl⟩
        exact ⟨fun p hp => (by cases hp), r, _, .head _⟩
      · rintro i hi _ ⟨vk, vst, rfl⟩ a ao u hu
        have hi' : i + 1 < qs.length := by simp at hi; omega
        rw [List.getElem_map, List.getElem_range, show (1 : Int) + (i : Int) * 1 = ((i + 1 : Nat) : Int) by omega] at hu
        refine' w_store (v := natV (i + 1)) (.tail (.tail .head)) ?zp hu ?_
        case zp => walk_at "put"
        obtain ⟨h1, h2, h3, h4⟩ := hstr i hi'
        obtain ⟨d, hd⟩ : ∃ d, qs[i + 1] = qs[i] + d := ⟨qs[i + 1] - qs[i], by omega⟩
        have hg1 : qs[i]? = some qs[i] := List.getElem?_eq_getElem (by omega)
        have hg2 : qs[i + 1]? = some (qs[i] + d) := by rw [← hd]; exact List.getElem?_eq_getElem hi'
        have hsm := range_ok.2.2 qs[i] (by omega) d (by omega)
        have hsum := hgt_stretch (ring.map (wt bd pr)) qs[i] d
        have hone : hgt (ring.map (wt bd pr)) (qs[i] + d) - hgt (ring.map (wt bd pr)) qs[i] = 1 := by rw [← hd]; omega
        rw [hone, List.length_map] at hsum
        have hd20 : d < 20 := by omega
        clear h4 hone
        generalize qs[i] = q0 at hg1 hg2 hsm hsum
        refine w_cons (w_asgComp (cl := [(Str.ofString "worth", L + 1 + 1 + 1 + 1), (Str.ofString "ring", L + 1)]) (w_callE (vs := [natV q0, natV (q0 + d)]) (fun Q q => (ev_nameB (by walk_at "nameB") (by walk_at "boot") : Ev _ _ _ _ _ (.oth (.type "range"))).go Q fun _ => q) (by kernel_rfl) (.cons ?_ (.cons ?_ .nil)) fun us hus => ?_))
        · exact ev_subL (k := i) (fun h => wpAny_Subscript_BinOp_late h) (by walk_at "ev") (by rw [show V.int ((i : Nat) : Int) = V.int (((i + 1 : Nat) : Int) - 1) by congr 1; omega]; exact ev_bin (by walk_at "ev") ev_int op_sub) (.tail _ (.tail _ (.tail _ (.head _)))) (v := natV q0) (by rw [List.getElem?_map, hg1]; rfl) (by omega)
        · exact ev_subL (k := i + 1) (fun h => wpAny_Subscript_Name_late h) (by walk_at "ev") (by walk_at "ev") (.tail _ (.tail _ (.tail _ (.head _)))) (v := natV (q0 + d)) (by rw [List.getElem?_map, hg2]; rfl) (by omega)
        obtain ⟨t8, t9, rfl⟩ := rawL2 hus
        refine w_range2 fun r2 => ⟨_, [], ((List.range d).map fun k => (ring.map (wt bd pr)).getD ((q0 + k) % ring.length) 0).map V.int, L, _, itb_range (hR _).1 (.head _) hsm.1 hsm.2, (fun p hp => by cases hp), ⟨_, _, .head _⟩, by rw [List.length_map, List.length_range]; omega, all_plain _ fun _ => rfl, ?_, rfl, fun D2 => ⟨lw2F l (some (.str LET)) (some (.int pk)) (some (.str ch)) vf vn (some (natV un)) (some (.ref pl)) vplace vodd vtext vrd (some (natV (i + 1))) (some (.ref D2)), _, (by walk_at "put"), .tail (.tail (.tail (.tail .head))), ?_⟩⟩
        · rw [List.map_map]
          refine All2.map fun k hk Lc M hM => ?_
          have hpos : 0 < ring.length := by omega
          have hm : (q0 + k) % ring.length < ring.length := Nat.mod_lt _ hpos
          refine ev_subL (k := (q0 + k) % ring.length) (fun h => wpAny_Subscript_BinOp_late h) (ev_cell (c := L + 1 + 1 + 1 + 1) (.tail _ (hM _ (by walk_at "mem")))) ?_ (.tail _ (hM _ (.tail _ (.tail _ (.tail _ (.tail _ (.tail _ (.head _)))))))) ?_ (by omega)
          · rw [show V.int (((q0 + k) % ring.length : Nat) : Int) = V.int (((q0 : Int) + (k : Int) * 1).fmod ((ring.map natV).length : Int)) by rw [hrl, show (q0 : Int) + (k : Int) * 1 = ((q0 + k : Nat) : Int) by omega, fmod_nat]]
            exact ev_bin (ev_local (.head _) .head) (ev_call (ev_nameB (by walk_at "nameB") (by walk_at "boot")) rfl (.cons (ev_cell (c := L + 1) (.tail _ (hM _ (by walk_at "mem")))) .nil) (co_len_list (.tail _ (hM _ (.tail _ (.tail _ (.tail _ (.tail _ (.tail _ (.tail _ (.head _))))))))) (by omega))) (op_mod (by omega))
          · show _ = some (V.int ((ring.map (wt bd pr)).getD ((q0 + k) % ring.length) 0))
            rw [List.getElem?_map, List.getElem?_eq_getElem hm, List.getD_eq_getElem?_getD, List.getElem?_map, List.getElem?_eq_getElem hm]
            rfl
        show W _ _ (execs _ _) _ _
        refine w_cons (w_if (tv_cmp (ev_call (ev_nameB (by walk_at "nameB") (by walk_at "boot")) rfl (.cons (by walk_at "ev") .nil) (co_sum (hR _).1 (LstAt.led (.head _)) (.head _))) ev_int op_ne) (fun hb => ?_) (fun hb => ?_))
        · rw [hsum] at hb
          cases hb
        refine w_nil (w_nil ⟨_, .cons _ (.cons _ (.refl _)), _, _, rfl⟩)
      · rintro _ ⟨vk, vst, rfl⟩
        exact ⟨rfl, _, .head _⟩
    rintro fl N' ⟨rfl, _⟩
    show W _ _ (execs _ _) _ _
    exact w_cons (w_ret (v := .bool true) ev_bool fun tk => rfl)
  · intro h tk hk
    exact ⟨.inl ⟨.bool true, .bool true, [], rfl, raisesW_false (by wrow_none_raised), .bool _, by wrow_post, unshared_nil⟩, hk, rfl, hg⟩)

end Mine
end
theorem PySem.Challenge.cw_pm0067_02_holds : PySem.Challenge.rw_pm0067_02.Holds :=
  Mine.law_holds
