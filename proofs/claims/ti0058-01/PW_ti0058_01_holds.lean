import PyProof.Rows.All
import Wide.All
import OpenK.AllK
import Wide.FinOn
import PySem.Challenge.RW_ti0058_01
set_option Elab.async false
set_option linter.unusedVariables false
set_option linter.unusedSimpArgs false

section
namespace Mine
open PySem PySem.W PyProof.Rows
def vw : Program := { PySem.Challenge.pw_ti0058_01 with main := { PySem.Challenge.pw_ti0058_01.main with body := [0,1,3,4,5,6,7,8,9,10,11,13,14,16,17,18,19,20,22,23,24,26,28,29,30,31,32,33,34,35,36,37].filterMap fun i => PySem.Challenge.pw_ti0058_01.main.body[i]? } }
theorem lawSaid : PySem.Challenge.rw_ti0058_01.wellSaid = true := by
  rw [PySem.W.Fast.te9446332074065402090]
  kernel_rfl
theorem left_join {p q : Program} {loose : List Str} {Xt : Shared → Bool} {α : Type} {Yf : Shared → α} {Ya : World → α} {N : Nat} {g0 : Bool} (h1 : LeftO p q loose Xt (fun _ => ()) (fun _ => ()) N g0) (h2 : ∀ w, (openEnds treeTable p w N).map Yf = some (Ya w)) : LeftO p q loose Xt Yf Ya N g0 := fun w => by
  have a := h1 w
  have b := h2 w
  cases e : openEnds treeTable p w N with
  | none => rw [e] at b; cases b
  | some s =>
    rw [e] at a b
    simp only [Option.map_some, Option.some.injEq, Prod.mk.injEq] at a b ⊢
    exact ⟨a.1, b⟩
set_option maxRecDepth 100000 in
theorem top1 : LeftO PySem.Challenge.pw_ti0058_01 vw ["tspecials", "_name_disallowed_re", "_value_disallowed_re", "_formatparam"] (fun s => xlAt vw [] s && recOk (RowW.records PySem.Challenge.rw_ti0058_01.row.toRowW) s) (fun _ => ()) (fun _ => ()) 3604 := by
  intro w
  unfold openEnds fencedOpening topFrom
  rw [PySem.W.Fast.te10274390034422433532, PySem.W.Fast.te14082659384304107361, PySem.W.Fast.te1435165496053646825, PySem.W.Fast.te14289696077712309145, PySem.W.Fast.te14364793385576792824, PySem.W.Fast.te4187177175401517315]
  kernel_rfl
local macro_rules | `(tactic| o_law) => `(tactic| refine holds_law lawSaid fun said => ?_)
local macro_rules | `(tactic| o_head $H) => `(tactic| (
  refine holds_open (q := vw) (loose := ["tspecials", "_name_disallowed_re", "_value_disallowed_re", "_formatparam"]) (Xt := fun s => xlAt vw [] s && recOk (RowW.records PySem.Challenge.rw_ti0058_01.row.toRowW) s) (XP := XL vw []) (Yf := Hook.obs $H) (Ya := Hook.val $H) (YP := Hook.says $H) (N := 3604) ?hl (Hook.of $H) (Hook.keeps $H) (fun s e => xl_of s (Bool.and_eq_true_iff.mp e).1) XL.keeps (by rfl) (by rfl) (by rfl) (fun s e => recFacts_of (Bool.and_eq_true_iff.mp e).2) (by rfl) (by first | assumption | decide +kernel) (by decide +kernel) ⟨rfl, rfl, rfl, rfl, rfl, by decide +kernel⟩ ?hw ?hc
  case hl => (
    refine left_join top1 ?_
    intro w
    unfold openEnds fencedOpening topFrom
    rw [PySem.W.Fast.te10274390034422433532, PySem.W.Fast.te14082659384304107361, PySem.W.Fast.te1435165496053646825, PySem.W.Fast.te14289696077712309145, PySem.W.Fast.te14364793385576792824]
    kernel_rfl)))
set_option maxRecDepth 100000 in
set_option maxHeartbeats 8000000 in
open_top hd for PySem.Challenge.rw_ti0058_01
end Mine
end

section
set_option linter.unusedVariables false
namespace Mine
open PySem PySem.W PyProof.Rows PySem.Calls PySem.Spec

/-- the number of unlike signs -/
def unP (x y : List Nat) : Nat := (x.zip y).countP fun p => p.1 != p.2
def joinP (xss : List (List Str)) (c : Nat) : Nat → List Str
  | 0 => []
  | k + 1 => joinP xss c k ++ if c.testBit k then xss.getD k [] else []
def chosP (c : Nat) : Nat → Nat
  | 0 => 0
  | k + 1 => chosP c k + if c.testBit k then 1 else 0
def commP (xss : List (List Str)) (c : Nat) (i : Nat) : List Nat := (List.range i).filter fun j => (joinP xss c 4).count ⟨#[75 + j]⟩ == chosP c 4
def totP (xss : List (List Str)) : Nat → Int
  | 0 => 0
  | c + 1 => if chosP c 4 % 2 = 0 then totP xss c + 2 ^ (4 * (commP xss c 4).length) else totP xss c - 2 ^ (4 * (commP xss c 4).length)
def nearB (W O : List (List Nat)) (b : Int) : List (List Bool) := W.map fun x => O.map fun o => decide ((unP x o : Int) ≤ b)
/-- the places of a choice, out of the first k -/
def chP (c k : Nat) : List Int := ((List.range k).filter (c.testBit ·)).map fun j => ((j : Nat) : Int)
/-- one is near to all the chosen ones -/
def coverB (c : Nat) (row : List Bool) : Bool := (chP c 4).all fun j => row.getD j.toNat false
def lackC (nb : List (List Bool)) : Nat → List Int
  | 0 => [0, 0, 0, 0, 0]
  | c + 1 => if (nb.any (coverB c)) = false then (lackC nb c).set (chP c 4).length ((lackC nb c).getD (chP c 4).length 0 + 1) else lackC nb c
end Mine
end

section
set_option linter.unusedVariables false
namespace Mine
open PySem PySem.W PyProof.Rows PySem.Calls PySem.Spec

def sm (f : Nat → Int) : Nat → Int
  | 0 => 0
  | n + 1 => sm f n + f n
theorem sm_congr {f g : Nat → Int} : ∀ n, (∀ i, i < n → f i = g i) → sm f n = sm g n
  | 0, _ => rfl
  | n + 1, h => by rw [sm, sm, sm_congr n fun i hi => h i (by omega), h n (by omega)]
theorem sm_zero : ∀ n, sm (fun _ => 0) n = 0
  | 0 => rfl
  | n + 1 => by rw [sm, sm_zero n]; rfl
theorem sm_add (f g : Nat → Int) : ∀ n, sm (fun i => f i + g i) n = sm f n + sm g n
  | 0 => rfl
  | n + 1 => by rw [sm, sm, sm, sm_add f g n]; omega
theorem sm_mul (w : Int) (f : Nat → Int) : ∀ n, sm (fun i => w * f i) n = w * sm f n
  | 0 => by simp [sm]
  | n + 1 => by rw [sm, sm, sm_mul w f n, Int.mul_add]
theorem sm_comm (f : Nat → Nat → Int) (m : Nat) : ∀ n, sm (fun i => sm (fun j => f i j) m) n = sm (fun j => sm (fun i => f i j) n) m
  | 0 => by simp [sm, sm_zero]
  | n + 1 => by
    rw [sm, sm_comm f m n, ← sm_add]
    rfl
theorem mask (f : Nat → Bool) : ∃ m, m < 16 ∧ ∀ j, j < 4 → f j = m.testBit j := by
  cases h0 : f 0 <;> cases h1 : f 1 <;> cases h2 : f 2 <;> cases h3 : f 3
  all_goals
    first
    | exact ⟨0, by decide, fun j hj => match j, hj with | 0, _ => h0 | 1, _ => h1 | 2, _ => h2 | 3, _ => h3⟩
    | exact ⟨1, by decide, fun j hj => match j, hj with | 0, _ => h0 | 1, _ => h1 | 2, _ => h2 | 3, _ => h3⟩
    | exact ⟨2, by decide, fun j hj => match j, hj with | 0, _ => h0 | 1, _ => h1 | 2, _ => h2 | 3, _ => h3⟩
    | exact ⟨3, by decide, fun j hj => match j, hj with | 0, _ => h0 | 1, _ => h1 | 2, _ => h2 | 3, _ => h3⟩
    | exact ⟨4, by decide, fun j hj => match j, hj with | 0, _ => h0 | 1, _ => h1 | 2, _ => h2 | 3, _ => h3⟩
    | exact ⟨5, by decide, fun j hj => match j, hj with | 0, _ => h0 | 1, _ => h1 | 2, _ => h2 | 3, _ => h3⟩
    | exact ⟨6, by decide, fun j hj => match j, hj with | 0, _ => h0 | 1, _ => h1 | 2, _ => h2 | 3, _ => h3⟩
    | exact ⟨7, by decide, fun j hj => match j, hj with | 0, _ => h0 | 1, _ => h1 | 2, _ => h2 | 3, _ => h3⟩
    | exact ⟨8, by decide, fun j hj => match j, hj with | 0, _ => h0 | 1, _ => h1 | 2, _ => h2 | 3, _ => h3⟩
    | exact ⟨9, by decide, fun j hj => match j, hj with | 0, _ => h0 | 1, _ => h1 | 2, _ => h2 | 3, _ => h3⟩
    | exact ⟨10, by decide, fun j hj => match j, hj with | 0, _ => h0 | 1, _ => h1 | 2, _ => h2 | 3, _ => h3⟩
    | exact ⟨11, by decide, fun j hj => match j, hj with | 0, _ => h0 | 1, _ => h1 | 2, _ => h2 | 3, _ => h3⟩
    | exact ⟨12, by decide, fun j hj => match j, hj with | 0, _ => h0 | 1, _ => h1 | 2, _ => h2 | 3, _ => h3⟩
    | exact ⟨13, by decide, fun j hj => match j, hj with | 0, _ => h0 | 1, _ => h1 | 2, _ => h2 | 3, _ => h3⟩
    | exact ⟨14, by decide, fun j hj => match j, hj with | 0, _ => h0 | 1, _ => h1 | 2, _ => h2 | 3, _ => h3⟩
    | exact ⟨15, by decide, fun j hj => match j, hj with | 0, _ => h0 | 1, _ => h1 | 2, _ => h2 | 3, _ => h3⟩
def covF (T : Nat) (f : Nat → Bool) : Bool := (List.range 4).all fun j => !T.testBit j || f j
theorem all4 {p q : Nat → Bool} (h : ∀ j, j < 4 → p j = q j) : (List.range 4).all p = (List.range 4).all q := by
  simp only [show List.range 4 = [0, 1, 2, 3] from rfl, List.all_cons, List.all_nil, h 0 (by decide), h 1 (by decide), h 2 (by decide), h 3 (by decide)]
theorem filter4 {p q : Nat → Bool} (h : ∀ j, j < 4 → p j = q j) : (List.range 4).filter p = (List.range 4).filter q := List.filter_congr fun j hj => h j (List.mem_range.mp hj)
theorem covF_congr {T : Nat} {f g : Nat → Bool} (h : ∀ j, j < 4 → f j = g j) : covF T f = covF T g := all4 fun j hj => by rw [h j hj]
def popc (T : Nat) : Nat := (chP T 4).length
/-- 16^c as a sum over the parts -/
theorem subs_dec : ∀ m : Nat, m < 16 → (2 : Int) ^ (4 * ((List.range 4).filter fun j => m.testBit j).length) = sm (fun T => if covF T (fun j => m.testBit j) then 15 ^ popc T else 0) 16 := by decide +kernel
theorem subs (f : Nat → Bool) : (2 : Int) ^ (4 * ((List.range 4).filter f).length) = sm (fun T => if covF T f then 15 ^ popc T else 0) 16 := by
  obtain ⟨m, hm, h⟩ := mask f
  rw [filter4 h, subs_dec m hm]
  exact sm_congr _ fun T _ => by rw [covF_congr h]
def sg (c : Nat) : Int := if chosP c 4 % 2 = 0 then 1 else -1
theorem incl_dec : ∀ m : Nat, m < 16 → sm (fun c => sg c * (if covF c (fun i => m.testBit i) then 1 else 0)) 16 = if (List.range 4).any (fun i => m.testBit i) then 0 else 1 := by decide +kernel
theorem incl (q : Nat → Bool) : sm (fun c => sg c * (if covF c q then 1 else 0)) 16 = if (List.range 4).any q then 0 else 1 := by
  obtain ⟨m, hm, h⟩ := mask q
  have := incl_dec m hm
  rw [show (List.range 4).any q = (List.range 4).any (fun i => m.testBit i) by
    simp only [show List.range 4 = [0, 1, 2, 3] from rfl, List.any_cons, List.any_nil, h 0 (by decide), h 1 (by decide), h 2 (by decide), h 3 (by decide)], ← this]
  exact sm_congr _ fun c _ => by rw [covF_congr h]
theorem covF_true {T : Nat} {f : Nat → Bool} : covF T f = true ↔ ∀ j, j < 4 → T.testBit j = true → f j = true := by
  unfold covF
  rw [List.all_eq_true]
  constructor
  · intro h j hj ht
    have := h j (List.mem_range.mpr hj)
    rw [ht] at this
    simpa using this
  · intro h j hj
    cases ht : T.testBit j with
    | false => rfl
    | true => simpa using h j (List.mem_range.mp hj) ht
theorem cov_swap (nb : Nat → Nat → Bool) (c T : Nat) : covF T (fun j => covF c fun i => nb i j) = covF c fun i => covF T (nb i) := by
  rw [Bool.eq_iff_iff, covF_true, covF_true]
  constructor
  · intro h i hi hc
    rw [covF_true]
    intro j hj ht
    exact (covF_true.mp (h j hj ht)) i hi hc
  · intro h j hj ht
    rw [covF_true]
    intro i hi hc
    exact (covF_true.mp (h i hi hc)) j hj ht
/-- Dowker's count -/
theorem dowker (nb : Nat → Nat → Bool) : sm (fun c => sg c * 2 ^ (4 * ((List.range 4).filter fun j => covF c fun i => nb i j).length)) 16 = sm (fun T => if (List.range 4).any (fun i => covF T (nb i)) then 0 else 15 ^ popc T) 16 := by
  rw [show (fun c => sg c * (2 : Int) ^ (4 * ((List.range 4).filter fun j => covF c fun i => nb i j).length)) = fun c => sm (fun T => sg c * (if covF c (fun i => covF T (nb i)) then 15 ^ popc T else 0)) 16 by
    funext c
    rw [subs, ← sm_mul]
    exact sm_congr _ fun T _ => by rw [cov_swap]]
  rw [sm_comm]
  refine sm_congr _ fun T _ => ?_
  have := incl fun i => covF T (nb i)
  rw [show (fun c => sg c * (if covF c (fun i => covF T (nb i)) = true then (15 : Int) ^ popc T else 0)) = fun c => 15 ^ popc T * (sg c * (if covF c (fun i => covF T (nb i)) then 1 else 0)) by
    funext c
    by_cases h : covF c (fun i => covF T (nb i)) = true <;> simp [h, Int.mul_comm]]
  rw [sm_mul, this]
  by_cases h : (List.range 4).any (fun i => covF T (nb i)) = true <;> simp [h]
/-- the lists of a relation -/
def lettersOf (f : Nat → Bool) : List Str := ((List.range 4).filter f).map fun j => ⟨#[75 + j]⟩
theorem count_dec : ∀ m : Nat, m < 16 → ∀ j, j < 4 → (lettersOf fun i => m.testBit i).count ⟨#[75 + j]⟩ = if m.testBit j then 1 else 0 := by decide +kernel
theorem count_let (f : Nat → Bool) {j : Nat} (hj : j < 4) : (lettersOf f).count ⟨#[75 + j]⟩ = if f j then 1 else 0 := by
  obtain ⟨m, hm, h⟩ := mask f
  rw [show lettersOf f = lettersOf fun i => m.testBit i by unfold lettersOf; rw [filter4 h], count_dec m hm j hj, h j hj]
theorem joinP_count {xss : List (List Str)} {nb : Nat → Nat → Bool} (hx : ∀ i, i < 4 → xss[i]? = some (lettersOf (nb i))) (c : Nat) {j : Nat} (hj : j < 4) :
    ∀ k, k ≤ 4 → (joinP xss c k).count ⟨#[75 + j]⟩ ≤ chosP c k ∧ ((joinP xss c k).count ⟨#[75 + j]⟩ = chosP c k ↔ ∀ i, i < k → c.testBit i = true → nb i j = true)
  | 0, _ => ⟨Nat.le_refl _, by simp [joinP, chosP]⟩
  | k + 1, hk => by
    obtain ⟨h1, h2⟩ := joinP_count hx c hj k (by omega)
    rw [joinP, chosP, List.count_append]
    cases hb : c.testBit k with
    | false =>
      simp only [Bool.false_eq_true, if_false, List.count_nil, Nat.add_zero]
      refine ⟨h1, h2.trans ⟨fun h i hi hc => ?_, fun h i hi => h i (by omega)⟩⟩
      rcases Nat.lt_or_ge i k with q | q
      · exact h i q hc
      · rw [show i = k by omega, hb] at hc; cases hc
    | true =>
      rw [if_pos rfl, if_pos rfl, List.getD_eq_getElem?_getD, hx k (by omega), Option.getD_some, count_let _ hj]
      cases hn : nb k j with
      | true =>
        rw [if_pos rfl]
        refine ⟨by omega, ⟨fun h i hi hc => ?_, fun h => ?_⟩⟩
        · rcases Nat.lt_or_ge i k with q | q
          · exact h2.mp (by omega) i q hc
          · rw [show i = k by omega]; exact hn
        · rw [h2.mpr fun i hi => h i (by omega)]
      | false =>
        simp only [Bool.false_eq_true, if_false, Nat.add_zero]
        refine ⟨by omega, ⟨fun h => by omega, fun h => ?_⟩⟩
        have := h k (by omega) hb
        rw [hn] at this; cases this
theorem commP_eq {xss : List (List Str)} {nb : Nat → Nat → Bool} (hx : ∀ i, i < 4 → xss[i]? = some (lettersOf (nb i))) (c : Nat) : commP xss c 4 = (List.range 4).filter fun j => covF c fun i => nb i j := by
  unfold commP
  refine List.filter_congr fun j hj => ?_
  rw [Bool.eq_iff_iff, beq_iff_eq, covF_true]
  exact (joinP_count hx c (List.mem_range.mp hj) 4 (Nat.le_refl _)).2
theorem totP_sm (xss : List (List Str)) : ∀ c, totP xss c = sm (fun c => sg c * 2 ^ (4 * (commP xss c 4).length)) c
  | 0 => rfl
  | c + 1 => by
    rw [totP, sm, totP_sm xss c]
    unfold sg
    split
    · rw [Int.one_mul]
    · omega
theorem totP_law {xss : List (List Str)} {nb : Nat → Nat → Bool} (hx : ∀ i, i < 4 → xss[i]? = some (lettersOf (nb i))) : totP xss 16 = sm (fun T => if (List.range 4).any (fun i => covF T (nb i)) then 0 else 15 ^ popc T) 16 := by
  rw [totP_sm, ← dowker]
  exact sm_congr _ fun c _ => by rw [commP_eq hx]

def valL : List Int → Int
  | [] => 0
  | x :: r => x + 15 * valL r
theorem valL_set : ∀ (l : List Int) (k : Nat), k < l.length → valL (l.set k (l.getD k 0 + 1)) = valL l + 15 ^ k
  | [], k, h => by simp at h
  | x :: r, 0, _ => by simp [valL]; omega
  | x :: r, k + 1, h => by
    have := valL_set r k (by simpa using h)
    rw [List.set_cons_succ, List.getD_cons_succ, valL, this, valL, Int.pow_succ]
    omega
theorem cover_eq (T : Nat) (row : List Bool) : coverB T row = covF T fun j => row.getD j false := by
  rw [Bool.eq_iff_iff, covF_true]
  unfold coverB chP
  rw [List.all_map, List.all_eq_true]
  constructor
  · intro h j hj ht
    exact h j (List.mem_filter.mpr ⟨List.mem_range.mpr hj, ht⟩)
  · intro h j hj
    obtain ⟨h1, h2⟩ := List.mem_filter.mp hj
    exact h j (List.mem_range.mp h1) h2
theorem popc_dec : ∀ T : Nat, T < 16 → popc T < 5 := by decide +kernel
theorem lackC_len' (nb : List (List Bool)) : ∀ c, (lackC nb c).length = 5
  | 0 => rfl
  | c + 1 => by rw [lackC]; split <;> simp [lackC_len' nb c]
theorem lackC_val (nb : List (List Bool)) : ∀ c, c ≤ 16 → valL (lackC nb c) = sm (fun T => if nb.any (coverB T) then 0 else 15 ^ popc T) c
  | 0, _ => rfl
  | c + 1, h => by
    rw [lackC, sm, ← lackC_val nb c (by omega)]
    cases hc : nb.any (coverB c) with
    | true => simp
    | false =>
      rw [if_pos rfl, valL_set _ _ (by rw [lackC_len']; exact popc_dec c (by omega))]
      simp [popc]
def cntT (k : Nat) : Nat → Int
  | 0 => 0
  | c + 1 => cntT k c + if popc c = k then 1 else 0
theorem lackC_bd (nb : List (List Bool)) (k : Nat) (hk : k < 5) : ∀ c, 0 ≤ (lackC nb c).getD k 0 ∧ (lackC nb c).getD k 0 ≤ cntT k c
  | 0 => by
    match k, hk with
    | 0, _ => exact ⟨Int.le_refl 0, Int.le_refl 0⟩
    | 1, _ => exact ⟨Int.le_refl 0, Int.le_refl 0⟩
    | 2, _ => exact ⟨Int.le_refl 0, Int.le_refl 0⟩
    | 3, _ => exact ⟨Int.le_refl 0, Int.le_refl 0⟩
    | 4, _ => exact ⟨Int.le_refl 0, Int.le_refl 0⟩
  | c + 1 => by
    obtain ⟨h1, h2⟩ := lackC_bd nb k hk c
    rw [lackC, cntT]
    split
    · rw [List.getD_eq_getElem?_getD, List.getElem?_set]
      show _ ∧ _
      by_cases e : (chP c 4).length = k
      · rw [if_pos e, if_pos (by rw [lackC_len']; omega), if_pos (show popc c = k from e), Option.getD_some, e]
        omega
      · rw [if_neg e, if_neg (show ¬ popc c = k from e), ← List.getD_eq_getElem?_getD]
        omega
    · have : (0 : Int) ≤ if popc c = k then 1 else 0 := by split <;> decide
      omega
theorem cnt_dec : ∀ k : Nat, k < 5 → cntT k 16 < 15 := by decide +kernel
/-- the total after some figures are taken -/
def qP (t : Int) : Nat → Int
  | 0 => t
  | k + 1 => (qP t k).fdiv 15
theorem fig_law {xss : List (List Str)} {nb : List (List Bool)} (h4 : nb.length = 4) (hx : ∀ i, i < 4 → xss[i]? = some (lettersOf fun j => (nb.getD i []).getD j false)) :
    (List.range 5).map (fun k => (qP (totP xss 16) k).fmod 15) = lackC nb 16 ∧ qP (totP xss 16) 5 = 0 := by
  have ht : totP xss 16 = valL (lackC nb 16) := by
    rw [totP_law hx, lackC_val nb 16 (Nat.le_refl _)]
    refine sm_congr _ fun T _ => ?_
    rw [show nb.any (coverB T) = (List.range 4).any fun i => covF T fun j => (nb.getD i []).getD j false by
      match nb, h4 with
      | [a, b, c, d], _ => simp [show List.range 4 = [0, 1, 2, 3] from rfl, cover_eq]]
  have hl := lackC_len' nb 16
  have hb := fun k hk => lackC_bd nb k hk 16
  have hc := cnt_dec
  generalize lackC nb 16 = L at *
  match L, hl with
  | [a, b, c, d, e], _ =>
    have b0 := hb 0 (by decide); have b1 := hb 1 (by decide); have b2 := hb 2 (by decide); have b3 := hb 3 (by decide); have b4 := hb 4 (by decide)
    have c0 := hc 0 (by decide); have c1 := hc 1 (by decide); have c2 := hc 2 (by decide); have c3 := hc 3 (by decide); have c4 := hc 4 (by decide)
    simp only [List.getD_cons_zero, List.getD_cons_succ] at b0 b1 b2 b3 b4
    simp only [valL] at ht
    have f1 : ∀ x r : Int, 0 ≤ x → x < 15 → (x + 15 * r).fmod 15 = x := fun x r h1 h2 => by rw [Int.fmod_eq_emod_of_nonneg _ (by decide)]; omega
    have f2 : ∀ x r : Int, 0 ≤ x → x < 15 → (x + 15 * r).fdiv 15 = r := fun x r h1 h2 => by rw [Int.fdiv_eq_ediv_of_nonneg _ (by decide)]; omega
    have q0 : qP (totP xss 16) 0 = a + 15 * (b + 15 * (c + 15 * (d + 15 * (e + 15 * 0)))) := ht
    have q1 : qP (totP xss 16) 1 = b + 15 * (c + 15 * (d + 15 * (e + 15 * 0))) := by rw [qP, q0, f2 _ _ (by omega) (by omega)]
    have q2 : qP (totP xss 16) 2 = c + 15 * (d + 15 * (e + 15 * 0)) := by rw [qP, q1, f2 _ _ (by omega) (by omega)]
    have q3 : qP (totP xss 16) 3 = d + 15 * (e + 15 * 0) := by rw [qP, q2, f2 _ _ (by omega) (by omega)]
    have q4 : qP (totP xss 16) 4 = e + 15 * 0 := by rw [qP, q3, f2 _ _ (by omega) (by omega)]
    have q5 : qP (totP xss 16) 5 = 0 := by rw [qP, q4, f2 _ _ (by omega) (by omega)]
    refine ⟨?_, q5⟩
    simp only [show List.range 5 = [0, 1, 2, 3, 4] from rfl, List.map_cons, List.map_nil, q0, q1, q2, q3, q4]
    rw [f1 _ _ (by omega) (by omega), f1 _ _ (by omega) (by omega), f1 _ _ (by omega) (by omega), f1 _ _ (by omega) (by omega), f1 _ _ (by omega) (by omega)]
end Mine
end

section
set_option linter.unusedVariables false
namespace Mine
open PySem PySem.W PyProof.Rows PySem.Calls PySem.Spec

/-- what is known of one object -/
inductive En where
  | ns (l : List (Str × Value))
  | cell (v : Option Value)
  | list (vs : List Value)
  | li (vs : List Value)
  | tup (vs : List Value)
  | tupg (vs : List Value) (T : Nat)
  | fl (c : String) (vs : List Value)
  | ob (o : Obj)
  | tk (T : Nat)

def En.Is : En → Obj → Prop
  | .ns l, o => (l.map (·.1)).Nodup ∧ ∃ es ep, o.data = .dict es ep ∧ StrKeys es ∧ ∀ p ∈ l, nsFind es p.1 = some p.2
  | .cell v, o => o.data = .cell v
  | .list vs, o => ∃ n, o = { cls := .type "list", data := .seq vs.toArray n }
  | .li vs, o => o.cls = .type "list" ∧ ∃ n, o.data = .seq vs.toArray n
  | .tup vs, o => ∃ n, o = { cls := .type "tuple", data := .seq vs.toArray n }
  | .tupg vs _, o => ∃ n, o = { cls := .type "tuple", data := .seq vs.toArray n }
  | .fl c vs, o => o.cls = .type c ∧ o.data = .fields vs.toArray
  | .ob p, o => o = p
  | .tk _, _ => True

abbrev Sto := List (Addr × En)
/-- what the store tells of the number of the tokens: they are above this -/
def flr1 : En → Nat
  | .tupg _ T => T
  | .tk T => T
  | _ => 0
def flr : Sto → Nat
  | [] => 0
  | p :: r => max (flr1 p.2) (flr r)
theorem flr_mem {st : Sto} {p : Addr × En} (h : p ∈ st) : flr1 p.2 ≤ flr st := by
  induction st with
  | nil => cases h
  | cons q r ih =>
    unfold flr
    rcases List.mem_cons.mp h with rfl | h
    · omega
    · have := ih h; omega
theorem flr_pos (st : Sto) : 0 ≤ flr st := Nat.zero_le _
theorem flr_le {st : Sto} {k : Nat} (h1 : 0 ≤ k) (h : ∀ p ∈ st, flr1 p.2 ≤ k) : flr st ≤ k := by
  induction st with
  | nil => exact h1
  | cons q r ih =>
    unfold flr
    have := h q List.mem_cons_self
    have := ih fun p hp => h p (List.mem_cons_of_mem _ hp)
    omega
theorem flr_sub {st st' : Sto} (h : List.Sublist st' st) : flr st' ≤ flr st := flr_le (flr_pos _) fun p hp => flr_mem (h.subset hp)

structure St (B h : Heap) (st : Sto) : Prop where
  old : ∀ b o, B.get? b = some o → h.get? b = some o
  has : ∀ p ∈ st, ∃ o, h.get? p.1 = some o ∧ p.2.Is o
  new : ∀ p ∈ st, B.get? p.1 = none
  nd : (st.map (·.1)).Nodup

section
variable {B h h' : Heap} {st : Sto}

theorem St.nil (k : ∀ b o, B.get? b = some o → h.get? b = some o) : St B h [] :=
  ⟨k, fun _ hp => (nomatch hp), fun _ hp => (nomatch hp), List.nodup_nil⟩

theorem St.keeps (x : St B h st) (k : ∀ b o, h.get? b = some o → h'.get? b = some o) : St B h' st :=
  ⟨fun b o e => k b o (x.old b o e), fun p hp => let ⟨o, e, i⟩ := x.has p hp; ⟨o, k _ _ e, i⟩, x.new, x.nd⟩

theorem St.at (x : St B h st) {i : Nat} {a : Addr} {e : En} (hi : st[i]? = some (a, e)) : ∃ o, h.get? a = some o ∧ e.Is o :=
  x.has (a, e) (List.mem_of_getElem? hi)

theorem St.fresh (x : St B h st) {i : Nat} {a : Addr} {e : En} (hi : st[i]? = some (a, e)) : B.get? a = none :=
  x.new (a, e) (List.mem_of_getElem? hi)

theorem map_set_same {st : Sto} {i : Nat} {a : Addr} {e e' : En} (hi : st[i]? = some (a, e)) : (st.set i (a, e')).map (·.1) = st.map (·.1) := by
  rw [List.map_set]
  apply List.ext_getElem?
  intro j
  rw [List.getElem?_set]
  split
  · rename_i hij
    subst hij
    obtain ⟨hl, he⟩ := List.getElem?_eq_some_iff.mp hi
    rw [List.length_map, if_pos hl, List.getElem?_map, hi]; rfl
  · rfl

/-- two places of the store with one address are one place -/
theorem St.inj (x : St B h st) {i j : Nat} {a : Addr} {e e' : En} (hi : st[i]? = some (a, e)) (hj : st[j]? = some (a, e')) : i = j := by
  have nd := x.nd
  obtain ⟨li, ei⟩ := List.getElem?_eq_some_iff.mp hi
  obtain ⟨lj, ej⟩ := List.getElem?_eq_some_iff.mp hj
  have q := List.pairwise_iff_getElem.mp nd
  have h1 : (st.map (·.1))[i]'(by simpa using li) = (st.map (·.1))[j]'(by simpa using lj) := by simp [ei, ej]
  rcases Nat.lt_trichotomy i j with l | l | l
  · exact absurd h1 (q i j (by simpa using li) (by simpa using lj) l)
  · exact l
  · exact absurd h1.symm (q j i (by simpa using lj) (by simpa using li) l)

theorem St.ne (x : St B h st) {i j : Nat} {a b : Addr} {e e' : En} (hi : st[i]? = some (a, e)) (hj : st[j]? = some (b, e')) (hij : i ≠ j) : a ≠ b := by
  intro q; subst q; exact hij (x.inj hi hj)

/-- one object turned -/
theorem St.set (x : St B h st) {i : Nat} {a : Addr} {e e' : En} (hi : st[i]? = some (a, e)) (k : ∀ b o, b ≠ a → h.get? b = some o → h'.get? b = some o)
    (n : ∃ o, h'.get? a = some o ∧ e'.Is o) : St B h' (st.set i (a, e')) := by
  have hB := x.fresh hi
  refine ⟨fun b o eb => k b o (fun q => by rw [q, hB] at eb; cases eb) (x.old b o eb), fun p hp => ?_, fun p hp => ?_, by rw [map_set_same hi]; exact x.nd⟩
  · obtain ⟨j, hj⟩ := List.mem_iff_getElem?.mp hp
    rw [List.getElem?_set] at hj
    split at hj
    · rename_i hij
      obtain ⟨hl, _⟩ := List.getElem?_eq_some_iff.mp hi
      rw [if_pos hl] at hj
      cases hj; exact n
    · rename_i hij
      obtain ⟨o, eo, ho⟩ := x.at (a := p.1) (e := p.2) hj
      exact ⟨o, k _ _ (fun q => hij (x.inj hi (show st[j]? = some (a, p.2) by rw [hj, ← q]))) eo, ho⟩
  · rcases List.mem_or_eq_of_mem_set hp with hp | rfl
    · exact x.new p hp
    · exact hB

/-- one object made -/
theorem St.push (x : St B h st) {a : Addr} {e : En} (k : ∀ b o, h.get? b = some o → h'.get? b = some o) (hn : h.get? a = none)
    (n : ∃ o, h'.get? a = some o ∧ e.Is o) : St B h' ((a, e) :: st) := by
  refine ⟨fun b o eb => k b o (x.old b o eb), fun p hp => ?_, fun p hp => ?_, ?_⟩
  · rcases List.mem_cons.mp hp with rfl | hp
    · exact n
    · obtain ⟨o, eo, ho⟩ := x.has p hp; exact ⟨o, k _ _ eo, ho⟩
  · rcases List.mem_cons.mp hp with rfl | hp
    · cases q : B.get? a with
      | none => rfl
      | some o => rw [x.old a o q] at hn; cases hn
    · exact x.new p hp
  · rw [List.map_cons]
    refine List.nodup_cons.mpr ⟨fun hm => ?_, x.nd⟩
    obtain ⟨p, hp, rfl⟩ := List.mem_map.mp hm
    obtain ⟨o, eo, _⟩ := x.has p hp
    rw [eo] at hn; cases hn

theorem get?_size_none (h : Heap) : h.get? h.objs.size = none := by
  cases q : h.get? h.objs.size with
  | none => rfl
  | some o => exact absurd (Heap.lt_size q) (Nat.lt_irrefl _)

theorem St.alloc (x : St B h st) {o : Obj} {e : En} (hf : o.isFreed = false) (he : e.Is o) : St B (h.push o) ((h.objs.size, e) :: st) :=
  x.push (fun _ _ q => Heap.get?_push_of_some _ q) (get?_size_none h) ⟨o, Heap.get?_push_size _ hf, he⟩

/-- some of the store forgotten -/
theorem St.sub (x : St B h st) {st' : Sto} (hs : List.Sublist st' st) : St B h st' :=
  ⟨x.old, fun p hp => x.has p (hs.subset hp), fun p hp => x.new p (hs.subset hp), (hs.map _).nodup x.nd⟩

theorem St.list (x : St B h st) {a : Addr} {vs : List Value} (hi : (a, En.list vs) ∈ st) : h.IsList a vs.toArray :=
  let ⟨o, e, n, d⟩ := x.has _ hi; ⟨o, e, by rw [d], n, by rw [d]⟩
theorem St.li (x : St B h st) {a : Addr} {vs : List Value} (hi : (a, En.li vs) ∈ st) : h.IsList a vs.toArray :=
  let ⟨o, e, c, n, d⟩ := x.has _ hi; ⟨o, e, c, n, d⟩
theorem St.tup (x : St B h st) {a : Addr} {vs : List Value} (hi : (a, En.tup vs) ∈ st) : h.IsTuple a vs.toArray :=
  let ⟨o, e, n, d⟩ := x.has _ hi; ⟨o, e, by rw [d], n, by rw [d]⟩
theorem St.tupg (x : St B h st) {a : Addr} {vs : List Value} {T : Nat} (hi : (a, En.tupg vs T) ∈ st) : h.IsTuple a vs.toArray :=
  let ⟨o, e, n, d⟩ := x.has _ hi; ⟨o, e, by rw [d], n, by rw [d]⟩
theorem St.ns (x : St B h st) {a : Addr} {l : List (Str × Value)} (hi : (a, En.ns l) ∈ st) : ∃ m, h.Ns a m ∧ (∀ p ∈ l, m p.1 = some p.2) ∧ (l.map (·.1)).Nodup :=
  let ⟨o, e, nd, es, ep, d, k, f⟩ := x.has _ hi; ⟨nsFind es, ⟨o, es, ep, e, d, k, fun _ => rfl⟩, f, nd⟩
theorem St.cell (x : St B h st) {a : Addr} {v : Option Value} (hi : (a, En.cell v) ∈ st) : h.IsCell a v :=
  let ⟨o, e, d⟩ := x.has _ hi; ⟨o, e, d⟩
theorem St.fl (x : St B h st) {a : Addr} {c : String} {vs : List Value} (hi : (a, En.fl c vs) ∈ st) : ∃ o, h.get? a = some o ∧ o.cls = .type c ∧ o.data = .fields vs.toArray := x.has _ hi
theorem is_ns {a : Addr} {m : Str → Option Value} {l : List (Str × Value)} (x : h.Ns a m) (hl : ∀ p ∈ l, m p.1 = some p.2) (nd : (l.map (·.1)).Nodup) : ∃ o, h.get? a = some o ∧ (En.ns l).Is o :=
  let ⟨o, es, ep, e, d, k, f⟩ := x; ⟨o, e, nd, es, ep, d, k, fun p hp => (f p.1).trans (hl p hp)⟩
theorem is_cell {a : Addr} {v : Option Value} (x : h.IsCell a v) : ∃ o, h.get? a = some o ∧ (En.cell v).Is o :=
  let ⟨o, e, d⟩ := x; ⟨o, e, d⟩
end

/-- a name of the list bound anew -/
inductive NsSet (x : Str) (v : Value) : List (Str × Value) → List (Str × Value) → Prop
  | here {u : Value} {r : List (Str × Value)} : NsSet x v ((x, u) :: r) ((x, v) :: r)
  | there {y : Str} {u : Value} {r r' : List (Str × Value)} : NsSet x v r r' → NsSet x v ((y, u) :: r) ((y, u) :: r')

theorem NsSet.names {x : Str} {v : Value} {l l' : List (Str × Value)} (h : NsSet x v l l') : l'.map (·.1) = l.map (·.1) := by
  induction h with
  | here => rfl
  | there _ ih => simp only [List.map_cons, ih]
theorem NsSet.mem {x : Str} {v : Value} {l l' : List (Str × Value)} (h : NsSet x v l l') : x ∈ l.map (·.1) := by
  induction h with
  | here => exact List.mem_cons_self
  | there _ ih => exact List.mem_cons_of_mem _ ih
theorem NsSet.of {x : Str} {v : Value} {l l' : List (Str × Value)} (h : NsSet x v l l') (nd : (l.map (·.1)).Nodup) : ∀ p ∈ l', p = (x, v) ∨ (p ∈ l ∧ p.1 ≠ x) := by
  induction h with
  | here =>
    intro p hp
    rcases List.mem_cons.mp hp with rfl | hp
    · exact .inl rfl
    · refine .inr ⟨List.mem_cons_of_mem _ hp, fun q => ?_⟩
      rw [List.map_cons] at nd
      exact (List.nodup_cons.mp nd).1 (List.mem_map.mpr ⟨p, hp, q⟩)
  | there hr ih =>
    intro p hp
    rw [List.map_cons] at nd
    rcases List.mem_cons.mp hp with rfl | hp
    · refine .inr ⟨List.mem_cons_self, fun q => ?_⟩
      have hx := hr.mem
      rw [← q] at hx
      exact (List.nodup_cons.mp nd).1 hx
    · rcases ih (List.nodup_cons.mp nd).2 p hp with q | ⟨q, r⟩
      · exact .inl q
      · exact .inr ⟨List.mem_cons_of_mem _ q, r⟩

/-- an object of the store turned -/
inductive SSet (a : Addr) (e e' : En) : Sto → Sto → Prop
  | here {r : Sto} : SSet a e e' ((a, e) :: r) ((a, e') :: r)
  | there {p : Addr × En} {r r' : Sto} : SSet a e e' r r' → SSet a e e' (p :: r) (p :: r')
theorem SSet.at {a : Addr} {e e' : En} {st st' : Sto} (h : SSet a e e' st st') : ∃ i, st[i]? = some (a, e) ∧ st' = st.set i (a, e') := by
  induction h with
  | here => exact ⟨0, rfl, rfl⟩
  | there _ ih => obtain ⟨i, h1, h2⟩ := ih; exact ⟨i + 1, by simpa using h1, by rw [h2]; rfl⟩
theorem SSet.mem {a : Addr} {e e' : En} {st st' : Sto} (h : SSet a e e' st st') : (a, e) ∈ st := by
  obtain ⟨i, h1, _⟩ := h.at
  exact List.mem_of_getElem? h1
theorem SSet.flr {a : Addr} {e e' : En} {st st' : Sto} (h : SSet a e e' st st') (he : flr1 e' ≤ flr1 e) : flr st' ≤ flr st := by
  induction h with
  | here => simp only [Mine.flr]; omega
  | there _ ih => simp only [Mine.flr]; omega
theorem St.turn {B h h' : Heap} {st st' : Sto} {a : Addr} {e e' : En} (x : St B h st) (hs : SSet a e e' st st') (k : ∀ b o, b ≠ a → h.get? b = some o → h'.get? b = some o)
    (n : ∃ o, h'.get? a = some o ∧ e'.Is o) : St B h' st' := by
  obtain ⟨i, h1, rfl⟩ := hs.at
  exact x.set h1 k n
end Mine
end

section
set_option linter.unusedVariables false
namespace Mine
open PySem PySem.W PyProof.Rows PySem.Calls PySem.Spec

structure Cx where
  w : World
  B : Heap
  mg : Str → Option Value
  mb : Str → Option Value
  dr : Drawn
  os : OsState
  gp : Array GenState → Prop

structure Cx.Ok (V : Cx) : Prop where
  kin : (hd.heap_1 V.w.params).In V.B
  g : V.B.Ns mainGlobals V.mg
  b : V.B.Ns builtinsNs V.mb
  bb : ∀ x : Str, x ≠ "__name__" → V.mb x = bootBuiltins x
  lim : V.B.NoLimit

structure Inv (V : Cx) (s : Shared) (st : Sto) : Prop where
  ok : V.Ok
  fl : flr st ≤ s.toks
  st : St V.B s.heap st
  gp : V.gp s.gens
  dr : s.drawn = V.dr
  os : s.os = V.os

structure Room (n : Nat) (A : Around) : Prop where
  hd : A.handled = none
  dp : A.depth + n ≤ 900
  un : A.units + 16 * n ≤ 9000

theorem Room.le {n m : Nat} {A : Around} (r : Room n A) (h : m ≤ n) : Room m A := ⟨r.hd, by have := r.dp; omega, by have := r.un; omega⟩
theorem Room.depth {n : Nat} {A : Around} (r : Room n A) : A.depth < recursionLimit := by
  have := r.dp
  show A.depth < 1000
  omega
theorem Room.in1 {n : Nat} {A : Around} (r : Room (n + 1) A) : Room n A.in1 := ⟨r.hd, by have := r.dp; show A.depth + n ≤ 900; omega, by have := r.un; show A.units + 1 + 16 * n ≤ 9000; omega⟩
theorem Room.deeper {n : Nat} {A : Around} {env : Env} (r : Room (n + 1) A) : Room n (A.deeper env) :=
  ⟨r.hd, by have := r.dp; show A.depth + 1 + n ≤ 900; omega, by have := r.un; show A.units + 3 + 16 * n ≤ 9000; omega⟩
theorem Room.mark {n : Nat} {A : Around} (r : Room n A) : Room n (A.mark none) := ⟨by show Option.or none A.handled = none; rw [r.hd]; rfl, r.dp, r.un⟩
theorem Room.units {n : Nat} {A : Around} (r : Room n A) : A.units < cLine := by
  have := r.un
  show A.units < 9900
  omega

abbrev noX : Value → Sto → Prop := fun _ _ => False

def Runs (V : Cx) (n : Nat) {α : Type} (t : Sem α) (st : Sto) (Q : α → Sto → Prop) (X : Value → Sto → Prop := noX) : Prop :=
  ∀ (A : Around) (s : Shared) (R : α → Shared → Prop) (E : Value → Shared → Prop), Room n A → Inv V s st →
    (∀ a s' st', Inv V s' st' → Q a st' → R a s') → (∀ e s' st', Inv V s' st' → X e st' → E e s') → wpAny (model PySem.Challenge.rw_ti0058_01.row.prog V.w) A t R E s

def RunsC (V : Cx) (n : Nat) (c : Code) (st : Sto) (Q : Flow → Sto → Prop) : Prop :=
  ∀ (A : Around) (s : Shared) (R : Result → Shared → Prop), Room n A → Inv V s st →
    (∀ f s' st', Inv V s' st' → Q f st' → R (.ok f) s') → codeAny (model PySem.Challenge.rw_ti0058_01.row.prog V.w) A c R s

theorem Inv.at {V : Cx} {s : Shared} {st : Sto} (I : Inv V s st) {h' : Heap} {tk : Nat} {st' : Sto} (S : St V.B h' st') (hf : flr st' ≤ flr st := by first | exact Nat.le_refl _ | exact SSet.flr (by assumption) (by exact Nat.le_refl _) | (simp only [flr, flr1]; omega)) (ht : s.toks ≤ tk := by first | exact Nat.le_refl _ | exact Nat.le_succ _ | assumption | omega) : Inv V { s with heap := h', toks := tk } st' := ⟨I.ok, Nat.le_trans hf (Nat.le_trans I.fl ht), S, I.gp, I.dr, I.os⟩
theorem Inv.ath {V : Cx} {s : Shared} {st : Sto} (I : Inv V s st) {h' : Heap} {st' : Sto} (S : St V.B h' st') (hf : flr st' ≤ flr st := by first | exact Nat.le_refl _ | exact SSet.flr (by assumption) (by exact Nat.le_refl _) | (simp only [flr, flr1]; omega)) : Inv V { s with heap := h' } st' := ⟨I.ok, Nat.le_trans hf I.fl, S, I.gp, I.dr, I.os⟩
theorem Inv.tok {V : Cx} {s : Shared} {st : Sto} (I : Inv V s st) {tk : Nat} (ht : s.toks ≤ tk := by first | exact Nat.le_refl _ | exact Nat.le_succ _ | assumption | omega) : Inv V { s with toks := tk } st := ⟨I.ok, Nat.le_trans I.fl ht, I.st, I.gp, I.dr, I.os⟩
theorem Inv.sub {V : Cx} {s : Shared} {st st' : Sto} (I : Inv V s st) (h : List.Sublist st' st) : Inv V s st' := ⟨I.ok, Nat.le_trans (flr_sub h) I.fl, I.st.sub h, I.gp, I.dr, I.os⟩

section
variable {V : Cx} {n : Nat} {α β : Type} {st : Sto} {X : Value → Sto → Prop}

theorem Runs.pure {a : α} {Q : α → Sto → Prop} (h : Q a st) : Runs V n (Pure.pure a : Sem α) st Q X := fun _ _ _ _ _ I k _ => wpAny_pure (k _ _ _ I h)
theorem Runs.throw {e : Value} {Q : α → Sto → Prop} (h : X e st) : Runs V n (throw e : Sem α) st Q X := fun _ _ _ _ _ I _ k => wpAny_throw (k _ _ _ I h)
theorem Runs.bind {m : Sem α} {f : α → Sem β} {Q : β → Sto → Prop} (h : Runs V n m st (fun a st' => Runs V n (f a) st' Q X) X) : Runs V n (m >>= f) st Q X :=
  fun A s R E r I k x => wpAny_bind (h A s _ E r I (fun _ s' _ I' q => q A s' R E r I' k x) x)
theorem Runs.mono {t : Sem α} {Q Q' : α → Sto → Prop} {X' : Value → Sto → Prop} (h : Runs V n t st Q X) (hq : ∀ a st', Q a st' → Q' a st') (hx : ∀ e st', X e st' → X' e st' := by intro _ _ h; exact h) : Runs V n t st Q' X' :=
  fun A s R E r I k x => h A s R E r I (fun a s' st' I' q => k a s' st' I' (hq a st' q)) (fun a s' st' I' q => x a s' st' I' (hx a st' q))
theorem Runs.holding {vs : List Value} {m : Sem α} {Q : α → Sto → Prop} (h : Runs V n m st Q X) : Runs V n (holding vs m) st Q X := fun A s R E r I k x => wpAny_holding (h A s R E r I k x)
theorem Runs.sub {t : Sem α} {Q : α → Sto → Prop} {st' : Sto} (h : Runs V n t st' Q X) (hs : List.Sublist st' st) : Runs V n t st Q X :=
  fun A s R E r I k x => h A s R E r (I.sub hs) k x
theorem Runs.standAt {p : Pos} {Q : Unit → Sto → Prop} (h : Q () st) : Runs V n (standAt p) st Q X := fun _ _ _ _ _ I k _ => wpAny_standAt (k _ _ _ I h)
theorem Runs.rule {p : String} {Q : Unit → Sto → Prop} (h : Q () st) : Runs V n (rule p) st Q X := fun _ _ _ _ _ I k _ => wpAny_rule (k _ _ _ I h)
theorem Runs.point {Q : Unit → Sto → Prop} (h : Q () st) : Runs V n point st Q X := fun _ _ _ _ _ I k _ => wpAny_point (k _ _ _ I h)
theorem Runs.of_eq {t t' : Sem α} {Q : α → Sto → Prop} (e : t = t') (h : Runs V n t' st Q X) : Runs V n t st Q X := e ▸ h
theorem Runs.ite {c : Prop} [Decidable c] {a b : Sem α} {Q : α → Sto → Prop} (h1 : c → Runs V n a st Q X) (h2 : ¬ c → Runs V n b st Q X) : Runs V n (if c then a else b) st Q X := by
  by_cases h : c
  · rw [if_pos h]; exact h1 h
  · rw [if_neg h]; exact h2 h
/-- some objects more, that are not spoken of -/
theorem Runs.alloc {o : Obj} {e : En} {Q : Addr → Sto → Prop} (hf : o.isFreed = false) (he : e.Is o) (hz : flr1 e = 0) (h : ∀ a, Q a ((a, e) :: st)) : Runs V n (alloc o) st Q X :=
  fun _ _ _ _ _ I k _ => wpAny_alloc (k _ _ _ (I.ath (I.st.alloc hf he) (by simp only [flr]; omega)) (h _))
theorem Runs.mkInt {i : Int} {Q : Value → Sto → Prop} (h : ∀ t, Q (.int i t) st) : Runs V n (mkInt i) st Q X := fun _ _ _ _ _ I k _ => wpAny_mkInt (k _ _ _ I.tok (h _))
theorem Runs.mkStr {x : Str} {Q : Value → Sto → Prop} (hx : x.length ≤ sizeLine) (h : ∀ t, Q (.str x t) st) : Runs V n (mkStr x) st Q X := fun _ _ _ _ _ I k _ => wpAny_mkStr (k _ _ _ I.tok (h _)) hx
theorem Runs.mkText {x : Str} {Q : Value → Sto → Prop} (h : ∀ t, Q (.str x t) st) : Runs V n (mkText x) st Q X := fun _ _ _ _ _ I k _ => wpAny_mkText (k _ _ _ I.tok (h _))
/-- the cut: what a tree comes to, said once -/
theorem Runs.cut {t : Sem α} {Q : α → Sto → Prop} (P : α → Sto → Prop) (h : Runs V n t st P X) (hq : ∀ a st', P a st' → Q a st') : Runs V n t st Q X := h.mono hq

/-- the tokens never fall: what ends may be asked with that known -/
theorem Runs.tk {t : Sem α} {Q : α → Sto → Prop}
    (h : ∀ (A : Around) (s : Shared) (R : α → Shared → Prop) (E : Value → Shared → Prop), Room n A → Inv V s st →
      (∀ a s' st', s.toks ≤ s'.toks → (s.toks ≤ s'.toks → Inv V s' st') → Q a st' → R a s') → (∀ e s' st', s.toks ≤ s'.toks → (s.toks ≤ s'.toks → Inv V s' st') → X e st' → E e s') →
      wpAny (model PySem.Challenge.rw_ti0058_01.row.prog V.w) A t (fun a s' => s.toks ≤ s'.toks → R a s') (fun a s' => s.toks ≤ s'.toks → E a s') s) : Runs V n t st Q X :=
  fun A s R E r I k x => wpAny_with_toks (Nat.le_refl _) (h A s R E r I (fun a s' st' ht i q => k a s' st' (i ht) q) (fun a s' st' ht i q => x a s' st' (i ht) q))
end
end Mine
end

section
set_option linter.unusedVariables false
namespace Mine
open PySem PySem.W PyProof.Rows PySem.Calls PySem.Spec

section
variable {V : Cx} {n : Nat} {α β : Type} {st : Sto} {X : Value → Sto → Prop}

theorem R_add {a b : Int} {t u : Tok} {Q : Value → Sto → Prop} (h : ∀ t, Q (.int (a + b) t) st) : Runs V n (binaryOp .Add (.int a t) (.int b u)) st Q X := fun _ _ _ _ _ I k _ => add_int (k _ _ _ I.tok (h _))
theorem R_sub {a b : Int} {t u : Tok} {Q : Value → Sto → Prop} (h : ∀ t, Q (.int (a - b) t) st) : Runs V n (binaryOp .Sub (.int a t) (.int b u)) st Q X := fun _ _ _ _ _ I k _ => sub_int (k _ _ _ I.tok (h _))
theorem R_mod {a b : Int} {t u : Tok} {Q : Value → Sto → Prop} (hb : b ≠ 0) (h : ∀ t, Q (.int (a.fmod b) t) st) : Runs V n (binaryOp .Mod (.int a t) (.int b u)) st Q X := fun _ _ _ _ _ I k _ => mod_int' hb (k _ _ _ I.tok (h _))
theorem R_fdiv {a b : Int} {t u : Tok} {Q : Value → Sto → Prop} (hb : b ≠ 0) (hp : Builtin.divisionGoesByPylong a b = false) (h : ∀ t, Q (.int (a.fdiv b) t) st) : Runs V n (binaryOp .FloorDiv (.int a t) (.int b u)) st Q X := fun _ _ _ _ _ I k _ => floordiv_int hb (k _ _ _ I.tok (h _)) (.inl hp)
theorem R_and {a b : Int} {t u : Tok} {Q : Value → Sto → Prop} (h : ∀ t, Q (.int (Builtin.bitAnd a b) t) st) : Runs V n (binaryOp .BitAnd (.int a t) (.int b u)) st Q X := fun _ _ _ _ _ I k _ => and_int (k _ _ _ I.tok (h _))
theorem R_rsh {a b : Int} {t u : Tok} {Q : Value → Sto → Prop} (hb : 0 ≤ b) (h : ∀ t, Q (.int (a.fdiv (2 ^ b.toNat)) t) st) : Runs V n (binaryOp .RShift (.int a t) (.int b u)) st Q X := fun _ _ _ _ _ I k _ => rshift_int hb (k _ _ _ I.tok (h _))
theorem R_lsh {a b : Int} {t u : Tok} {Q : Value → Sto → Prop} (hb : 0 ≤ b) (hb2 : b ≤ 1000000) (ha : a.natAbs < 2 ^ 64) (h : ∀ t, Q (.int (a * 2 ^ b.toNat) t) st) : Runs V n (binaryOp .LShift (.int a t) (.int b u)) st Q X := fun _ _ _ _ _ I k _ => lshift_int_small hb hb2 ha (k _ _ _ I.tok (h _))
theorem R_pow {a b : Int} {t u : Tok} {Q : Value → Sto → Prop} (hb : 0 ≤ b) (hb2 : ↑(Builtin.Int.intBits a) * b ≤ 2 ^ 27) (h : ∀ t, Q (.int (a ^ b.toNat) t) st) : Runs V n (binaryOp .Pow (.int a t) (.int b u)) st Q X := fun _ _ _ _ _ I k _ => pow_int hb hb2 (k _ _ _ I.tok (h _))
theorem R_eq_int {a b : Int} {t u : Tok} {Q : Value → Sto → Prop} (h : Q (.bool (a == b)) st) : Runs V n (compareOp .Eq (.int a t) (.int b u)) st Q X := fun _ _ _ _ _ I k _ => eq_int (k _ _ _ I h)
theorem R_lt {a b : Int} {t u : Tok} {Q : Value → Sto → Prop} (h : Q (.bool (decide (a < b))) st) : Runs V n (compareOp .Lt (.int a t) (.int b u)) st Q X := fun _ _ _ _ _ I k _ => lt_int (k _ _ _ I h)
theorem R_le {a b : Int} {t u : Tok} {Q : Value → Sto → Prop} (h : Q (.bool (decide (a ≤ b))) st) : Runs V n (compareOp .LtE (.int a t) (.int b u)) st Q X := fun _ _ _ _ _ I k _ => le_int (k _ _ _ I h)
theorem R_gt {a b : Int} {t u : Tok} {Q : Value → Sto → Prop} (h : Q (.bool (decide (b < a))) st) : Runs V n (compareOp .Gt (.int a t) (.int b u)) st Q X := fun _ _ _ _ _ I k _ => gt_int (k _ _ _ I h)
theorem R_ne_int {a b : Int} {t u : Tok} {Q : Value → Sto → Prop} (h : Q (.bool (a != b)) st) : Runs V n (compareOp .NotEq (.int a t) (.int b u)) st Q X := fun _ _ _ _ _ I k _ => ne_int (k _ _ _ I h)
theorem R_eq_str {a b : Str} {t u : Tok} {Q : Value → Sto → Prop} (h : Q (.bool (a == b)) st) : Runs V n (compareOp .Eq (.str a t) (.str b u)) st Q X := fun _ _ _ _ _ I k _ => eq_str (k _ _ _ I h)
theorem R_ne_str {a b : Str} {t u : Tok} {Q : Value → Sto → Prop} (h : Q (.bool (a != b)) st) : Runs V n (compareOp .NotEq (.str a t) (.str b u)) st Q X := fun _ _ _ _ _ I k _ => ne_str (k _ _ _ I h)
theorem R_add_str {a b : Str} {t u : Tok} {Q : Value → Sto → Prop} (h : ∀ t, Q (.str (a ++ b) t) st) (hs : a.length + b.length ≤ sizeLine) : Runs V n (binaryOp .Add (.str a t) (.str b u)) st Q X := Runs.tk fun _ _ _ _ _ I k _ => add_str (fun _ _ ht => k _ _ _ ht (fun ht => I.tok ht) (h _)) hs
theorem R_is_none {v : Value} {Q : Value → Sto → Prop} (h : Q (.bool (v == .none)) st) : Runs V n (compareOp .Is v .none) st Q X := fun _ _ _ _ _ I k _ => is_none (k _ _ _ I h)
theorem R_isNot_none {v : Value} {Q : Value → Sto → Prop} (h : Q (.bool (!(v == .none))) st) : Runs V n (compareOp .IsNot v .none) st Q X := fun _ _ _ _ _ I k _ => isNot_none (k _ _ _ I h)
theorem R_truthy_bool {b : Bool} {Q : Bool → Sto → Prop} (h : Q b st) : Runs V n (truthy (.bool b)) st Q X := fun _ _ _ _ _ I k _ => wpAny_truthy_bool (k _ _ _ I h)
theorem R_truthy_int {a : Int} {t : Tok} {Q : Bool → Sto → Prop} (h : Q (a != 0) st) : Runs V n (truthy (.int a t)) st Q X := fun _ _ _ _ _ I k _ => truthy_int (k _ _ _ I h)
theorem R_truthy_list {l : Addr} {vs : List Value} {Q : Bool → Sto → Prop} (hm : (l, En.list vs) ∈ st) (hs : vs.length ≤ 1000000) (h : Q (!vs.isEmpty) st) : Runs V n (truthy (.ref l)) st Q X :=
  fun _ _ _ _ _ I k _ => wpAny_truthy_list (I.st.list hm) (by simp only [List.size_toArray]; omega) (k _ _ _ I.tok (by simpa using h))
theorem R_not {v : Value} {Q : Value → Sto → Prop} (h : Runs V n (truthy v) st (fun b st' => Q (.bool (!b)) st') X) : Runs V n (unaryOp .Not v) st Q X :=
  fun A s R E r I k x => not_value (h A s _ E r I (fun b s' st' I' q => k _ s' st' I' q) x)
theorem R_len_list {l : Addr} {vs : List Value} {Q : Value → Sto → Prop} (hm : (l, En.list vs) ∈ st) (hs : vs.length ≤ 1000000) (h : ∀ t, Q (.int vs.length t) st) : Runs V n (call (.builtin "len") [.ref l]) st Q X :=
  fun _ _ _ _ _ I k _ => call_len_list (I.st.list hm) (by simp only [List.size_toArray]; omega) (k _ _ _ I.tok (by simpa using h _))
theorem R_upper {x : Str} {t : Tok} {Q : Value → Sto → Prop} (hs : Builtin.Str.tooLong (Txt.upper x).length = false) (h : ∀ t, Q (.str (Txt.upper x) t) st) : Runs V n (call (.builtin "str.upper") [.str x t]) st Q X :=
  fun _ _ _ _ _ I k _ => SC.upper hs (k _ _ _ I.tok (h _))
theorem R_lower {x : Str} {t : Tok} {Q : Value → Sto → Prop} (hs : Builtin.Str.tooLong (Txt.lower x).length = false) (h : ∀ t, Q (.str (Txt.lower x) t) st) : Runs V n (call (.builtin "str.lower") [.str x t]) st Q X :=
  fun _ _ _ _ _ I k _ => SC.lower hs (k _ _ _ I.tok (h _))
theorem R_int_int {a : Int} {t : Tok} {Q : Value → Sto → Prop} (h : Q (.int a t) st) : Runs V n (call (.type "int") [.int a t]) st Q X := fun _ _ _ _ _ I k _ => call_int_int (k _ _ _ I h)

-- names
theorem R_ldLocal {env : Env} {l : List (Str × Value)} {x : Str} {v : Value} {Q : Value → Sto → Prop} (hL : (env.locals, En.ns l) ∈ st) (hx : (x, v) ∈ l) (h : Q v st)
    (hk : env.scope.kind = .function) (hl : env.kindOf x = some .local) : Runs V n (loadName env x) st Q X := fun _ _ _ _ _ I k _ => by
  obtain ⟨m, hn, hm, _⟩ := I.st.ns hL
  exact wpAny_loadName_local hk hl hn (hm _ hx) (k _ _ _ I h)
theorem R_ldCell {env : Env} {c : Addr} {x : Str} {v : Value} {Q : Value → Sto → Prop} (hc : env.cells.lookup x = some c) (hL : (c, En.cell (some v)) ∈ st) (h : Q v st)
    (hk : env.scope.kind = .function) (hl : env.kindOf x = some .cell) : Runs V n (loadName env x) st Q X := fun _ _ _ _ _ I k _ => by
  exact wpAny_loadName_cell hk hl hc (I.st.cell hL) (k _ _ _ I h)
theorem R_ldFree {env : Env} {c : Addr} {x : Str} {v : Value} {Q : Value → Sto → Prop} (hc : env.cells.lookup x = some c) (hL : (c, En.cell (some v)) ∈ st) (h : Q v st)
    (hk : env.scope.kind = .function) (hl : env.kindOf x = some .free) (hn : (x == ("__classdict__" : Str)) = false) : Runs V n (loadName env x) st Q X := fun _ _ _ _ _ I k _ => by
  exact wpAny_loadName_free hk hl hc (I.st.cell hL) (k _ _ _ I h) hn
theorem R_ldGlobal {env : Env} {x : Str} {v : Value} {Q : Value → Sto → Prop} (hn : nsIn (hd.heap_1 V.w.params) mainGlobals x = some (some v)) (h : Q v st)
    (hk : env.scope.kind = .function) (hl : env.kindOf x = some .globalImplicit) (hg : env.globals = mainGlobals) (hd : (x == ("__debug__" : Str)) = false) (pos : Pos) : Runs V n (eval (.Name x pos) env) st Q X := fun _ _ _ _ _ I k _ => by
  refine Name_function_global hk hl (loadGlobal_global (mg := V.mg) ?_ (mg_of I.ok.kin I.ok.g hn) (k _ _ _ I h)) hd
  rw [hg]
  exact I.ok.g.keeps I.st.old
theorem R_ldBuiltin {env : Env} {x : Str} {v : Value} {Q : Value → Sto → Prop} (hn : nsIn (hd.heap_1 V.w.params) mainGlobals x = some none) (hb : bootBuiltins x = some v) (hx : x ≠ "__name__") (h : Q v st)
    (hk : env.scope.kind = .function) (hl : env.kindOf x = some .globalImplicit) (hg : env.globals = mainGlobals) (hg2 : env.builtins = builtinsNs) (hd : (x == ("__debug__" : Str)) = false) (pos : Pos) : Runs V n (eval (.Name x pos) env) st Q X := fun _ _ _ _ _ I k _ => by
  refine Name_function_global hk hl (loadGlobal_builtin (mg := V.mg) (mb := V.mb) ?_ (mg_none_of I.ok.kin I.ok.g hn) ?_ ((I.ok.bb x hx).trans hb) (k _ _ _ I h)) hd
  · rw [hg]; exact I.ok.g.keeps I.st.old
  · rw [hg2]; exact I.ok.b.keeps I.st.old
theorem R_Name {env : Env} {x : Str} {pos : Pos} {Q : Value → Sto → Prop} (h : Runs V n (loadName env x) st Q X) (hd : (x == ("__debug__" : Str)) = false) : Runs V n (eval (.Name x pos) env) st Q X := fun A s R E r I k e => wpAny_Name (h A s R E r I k e) hd
theorem R_stLocal {env : Env} {l l' : List (Str × Value)} {x : Str} {v : Value} {st' : Sto} {Q : Unit → Sto → Prop} (hx : NsSet x v l l') (hL : SSet env.locals (.ns l) (.ns l') st st') (h : Q () st')
    (hl : env.kindOf x = some .local) (hk : env.scope.kind = .function) : Runs V n (storeName env x v) st Q X := fun _ _ _ _ _ I k _ => by
  obtain ⟨m, hn, hm, nd⟩ := I.st.ns hL.mem
  refine wpAny_storeName_local hl hn (fun h' hn' hs' => k _ _ _ (I.at (I.st.turn hL (fun b o hb e => hs'.extBut b o hb e) (is_ns hn' (fun p hp => ?_) (by rw [hx.names]; exact nd)))) h) (by rw [hk]; rfl)
  rcases hx.of nd p hp with rfl | ⟨q, r⟩
  · simp
  · simp only [r, if_false]; exact hm p q
theorem R_stNew {env : Env} {l : List (Str × Value)} {x : Str} {v : Value} {st' : Sto} {Q : Unit → Sto → Prop} (hx : (l.all fun p => p.1 != x) = true) (hL : SSet env.locals (.ns l) (.ns ((x, v) :: l)) st st') (h : Q () st')
    (hl : env.kindOf x = some .local) (hk : env.scope.kind = .function) : Runs V n (storeName env x v) st Q X := fun _ _ _ _ _ I k _ => by
  obtain ⟨m, hn, hm, nd⟩ := I.st.ns hL.mem
  have hx' : ∀ p ∈ l, p.1 ≠ x := fun p hp => by simpa using List.all_eq_true.mp hx p hp
  refine wpAny_storeName_local hl hn (fun h' hn' hs' => k _ _ _ (I.at (I.st.turn hL (fun b o hb e => hs'.extBut b o hb e) (is_ns hn' (fun p hp => ?_) ?_))) h) (by rw [hk]; rfl)
  · rcases List.mem_cons.mp hp with rfl | hp
    · simp
    · simp only [hx' p hp, if_false]; exact hm p hp
  · rw [List.map_cons]
    refine List.nodup_cons.mpr ⟨fun q => ?_, nd⟩
    obtain ⟨p, hp, e⟩ := List.mem_map.mp q
    exact hx' p hp e
theorem R_stCell {env : Env} {c : Addr} {x : Str} {v : Value} {v₀ : Option Value} {st' : Sto} {Q : Unit → Sto → Prop} (hc : env.cells.lookup x = some c) (hL : SSet c (.cell v₀) (.cell (some v)) st st') (h : Q () st')
    (hl : env.kindOf x = some .cell) (hk : env.scope.kind = .function) : Runs V n (storeName env x v) st Q X := fun _ _ _ _ _ I k _ => by
  refine wpAny_storeName_cell hk hl hc (I.st.cell hL.mem) fun h' hc' hs' => k _ _ _ (I.ath (I.st.turn hL (fun b o hb e => hs'.extBut b o hb e) (is_cell hc'))) h
theorem R_bindName {env : Env} {x : Str} {v : Value} {Q : Unit → Sto → Prop} (h : Runs V n (storeName env x v) st Q X) : Runs V n (bindName env x v) st Q X := fun A s R E r I k e => wpAny_bindName (h A s R E r I k e)

-- expressions
theorem R_cInt {env : Env} {i : Int} {k : Nat} {pos : Pos} {Q : Value → Sto → Prop} (h : ∀ t, Q (.int i t) st) : Runs V n (eval (.Constant (.int i) k pos) env) st Q X := Runs.mkInt h
theorem R_cStr {env : Env} {i : Str} {k : Nat} {pos : Pos} {Q : Value → Sto → Prop} (h : ∀ t, Q (.str i t) st) : Runs V n (eval (.Constant (.str i) k pos) env) st Q X := Runs.mkText h
theorem R_cNone {env : Env} {k : Nat} {pos : Pos} {Q : Value → Sto → Prop} (h : Q .none st) : Runs V n (eval (.Constant .none k pos) env) st Q X := Runs.pure h
theorem R_cBool {env : Env} {b : Bool} {k : Nat} {pos : Pos} {Q : Value → Sto → Prop} (h : Q (.bool b) st) : Runs V n (eval (.Constant (.bool b) k pos) env) st Q X := Runs.pure h
theorem R_BinOp {env : Env} {l r : Expr} {op : Operator} {pos : Pos} {Q : Value → Sto → Prop}
    (h : Runs V n (eval l env) st (fun a st1 => Runs V n (eval r env) st1 (fun b st2 => Runs V n (binaryOp op a b) st2 Q X) X) X) : Runs V n (eval (.BinOp l op r pos) env) st Q X := fun A s R E rm I k e =>
  wpAny_BinOp (h A s _ E rm I (fun a s1 st1 I1 h1 => h1 A s1 _ E rm I1 (fun b s2 st2 I2 h2 => h2 A s2 R E rm I2 k e) e) e)
theorem R_Compare {env : Env} {l r : Expr} {op : CmpOp} {pos : Pos} {Q : Value → Sto → Prop}
    (h : Runs V n (eval l env) st (fun a st1 => Runs V n (eval r env) st1 (fun b st2 => Runs V n (compareOp op a b) st2 Q X) X) X) (hm : behindInMarks op r = false) : Runs V n (eval (.Compare l [op] [r] pos) env) st Q X := fun A s R E rm I k e =>
  wpAny_Compare1 (h A s _ E rm I (fun a s1 st1 I1 h1 => h1 A s1 _ E rm I1 (fun b s2 st2 I2 h2 => h2 A s2 R E rm I2 k e) e) e) hm
theorem R_UnaryOp {env : Env} {x : Expr} {op : UnaryOp} {pos : Pos} {Q : Value → Sto → Prop}
    (h : Runs V n (eval x env) st (fun a st1 => Runs V n (unaryOp op a) st1 Q X) X) : Runs V n (eval (.UnaryOp op x pos) env) st Q X := fun A s R E rm I k e =>
  wpAny_UnaryOp (h A s _ E rm I (fun a s1 st1 I1 h1 => h1 A s1 _ E rm I1 k e) e)
theorem R_IfExp {env : Env} {c a b : Expr} {pos : Pos} {Q : Value → Sto → Prop}
    (h : Runs V n (isTrue c env (eval c env)) st (fun t st1 => Runs V n (if t then eval a env else eval b env) st1 Q X) X) : Runs V n (eval (.IfExp c a b pos) env) st Q X := fun A s R E rm I k e =>
  wpAny_IfExp (h A s _ E rm I (fun t s1 st1 I1 h1 => by cases t <;> exact h1 A s1 _ E rm I1 k e) e)
theorem R_isTrue_Compare {env : Env} {l r : Expr} {op : CmpOp} {pos : Pos} {whole : Sem Value} {Q : Bool → Sto → Prop}
    (h : Runs V n (eval l env) st (fun a st1 => Runs V n (eval r env) st1 (fun b st2 => Runs V n (compareOp op a b) st2 (fun c st3 => Runs V n (truthy c) st3 Q X) X) X) X) (hm : behindInMarks op r = false) :
    Runs V n (isTrue (.Compare l [op] [r] pos) env whole) st Q X := fun A s R E rm I k e =>
  wpAny_isTrue_Compare1 (h A s _ E rm I (fun a s1 st1 I1 h1 => h1 A s1 _ E rm I1 (fun b s2 st2 I2 h2 => h2 A s2 _ E rm I2 (fun c s3 st3 I3 h3 => h3 A s3 R E rm I3 k e) e) e) e) hm
theorem R_isTrue_Not {env : Env} {x : Expr} {pos : Pos} {whole : Sem Value} {Q : Bool → Sto → Prop} (h : Runs V n (isTrue x env (eval x env)) st (fun b st' => Q (!b) st') X) :
    Runs V n (isTrue (.UnaryOp .Not x pos) env whole) st Q X := fun A s R E rm I k e => wpAny_isTrue_Not (h A s _ E rm I (fun b s1 st1 I1 q => k _ s1 st1 I1 q) e)
theorem R_isTrue_value {env : Env} {e : Expr} {whole : Sem Value} {Q : Bool → Sto → Prop} (h : Runs V n whole st (fun v st1 => Runs V n (truthy v) st1 Q X) X)
    (he : isTrue e env whole = (do let v ← whole; standAt e.pos; holding [v] (truthy v))) : Runs V n (isTrue e env whole) st Q X := fun A s R E rm I k x =>
  wpAny_isTrue_value (h A s _ E rm I (fun v s1 st1 I1 h1 => h1 A s1 R E rm I1 k x) x) he
theorem R_isTrue_BoolOp {env : Env} {op : BoolOp} {vs : List Expr} {pos : Pos} {whole : Sem Value} {Q : Bool → Sto → Prop} (h : Runs V n (allTrue op vs env) st Q X) : Runs V n (isTrue (.BoolOp op vs pos) env whole) st Q X := fun A s R E rm I k e =>
  wpAny_isTrue_BoolOp (h A s R E rm I k e)
theorem R_And_nil {env : Env} {Q : Bool → Sto → Prop} (h : Q true st) : Runs V n (allTrue .And [] env) st Q X := Runs.pure h
theorem R_Or_nil {env : Env} {Q : Bool → Sto → Prop} (h : Q false st) : Runs V n (allTrue .Or [] env) st Q X := Runs.pure h
theorem R_And_cons {env : Env} {x : Expr} {rest : List Expr} {Q : Bool → Sto → Prop} (h : Runs V n (isTrue x env (eval x env)) st (fun b st1 => (b = true → Runs V n (allTrue .And rest env) st1 Q X) ∧ (b = false → Q false st1)) X) :
    Runs V n (allTrue .And (x :: rest) env) st Q X := fun A s R E rm I k e =>
  wpAny_allTrue_And_cons (h A s _ E rm I (fun b s1 st1 I1 h1 => by cases b with | true => exact h1.1 rfl A s1 R E rm I1 k e | false => exact k _ s1 st1 I1 (h1.2 rfl)) e)
theorem R_Or_cons {env : Env} {x : Expr} {rest : List Expr} {Q : Bool → Sto → Prop} (h : Runs V n (isTrue x env (eval x env)) st (fun b st1 => (b = true → Q true st1) ∧ (b = false → Runs V n (allTrue .Or rest env) st1 Q X)) X) :
    Runs V n (allTrue .Or (x :: rest) env) st Q X := fun A s R E rm I k e =>
  wpAny_allTrue_Or_cons (h A s _ E rm I (fun b s1 st1 I1 h1 => by cases b with | true => exact k _ s1 st1 I1 (h1.1 rfl) | false => exact h1.2 rfl A s1 R E rm I1 k e) e)
theorem R_And2 {env : Env} {x y : Expr} {pos : Pos} {Q : Value → Sto → Prop}
    (h : Runs V n (eval x env) st (fun v st1 => Runs V n (truthy v) st1 (fun b st2 => (b = true → Runs V n (eval y env) st2 Q X) ∧ (b = false → Q v st2)) X) X) : Runs V n (eval (.BoolOp .And [x, y] pos) env) st Q X := fun A s R E rm I k e =>
  wpAny_And2 (h A s _ E rm I (fun v s1 st1 I1 h1 => h1 A s1 _ E rm I1 (fun b s2 st2 I2 h2 => by cases b with | true => exact h2.1 rfl A s2 R E rm I2 k e | false => exact k _ s2 st2 I2 (h2.2 rfl)) e) e)
theorem R_Or2 {env : Env} {x y : Expr} {pos : Pos} {Q : Value → Sto → Prop}
    (h : Runs V n (eval x env) st (fun v st1 => Runs V n (truthy v) st1 (fun b st2 => (b = true → Q v st2) ∧ (b = false → Runs V n (eval y env) st2 Q X)) X) X) : Runs V n (eval (.BoolOp .Or [x, y] pos) env) st Q X := fun A s R E rm I k e =>
  wpAny_Or2 (h A s _ E rm I (fun v s1 st1 I1 h1 => h1 A s1 _ E rm I1 (fun b s2 st2 I2 h2 => by cases b with | false => exact h2.2 rfl A s2 R E rm I2 k e | true => exact k _ s2 st2 I2 (h2.1 rfl)) e) e)
theorem R_sp_nil {env : Env} {pos : Pos} {Q : List Value → Sto → Prop} (h : Q [] st) : Runs V n (spliced (backTo pos (starEach [] env))) st Q X := Runs.pure h
theorem R_sp_cons {env : Env} {pos : Pos} {e : Expr} {rest : List Expr} {Q : List Value → Sto → Prop} (h : Runs V n (eval e env) st (fun v st1 => Runs V n (spliced (backTo pos (starEach rest env))) st1 (fun vs st2 => Q (v :: vs) st2) X) X)
    (he : starEach (e :: rest) env = (false, eval e env) :: starEach rest env) : Runs V n (spliced (backTo pos (starEach (e :: rest) env))) st Q X := fun A s R E rm I k x =>
  wpAny_items_cons (h A s _ E rm I (fun v s1 st1 I1 h1 => h1 A s1 _ E rm I1 (fun vs s2 st2 I2 q => k _ s2 st2 I2 q) x) x) he
theorem R_List {env : Env} {elts : List Expr} {pos : Pos} {Q : Value → Sto → Prop} (h : Runs V n (spliced (backTo pos (starEach elts env))) st (fun vs st1 => vs.length ≤ 1000 ∧ ∀ a, Q (.ref a) ((a, .list vs) :: st1)) X) :
    Runs V n (eval (.List elts pos) env) st Q X := fun A s R E rm I k x =>
  wpAny_List (h A s _ E rm I (fun vs s1 st1 I1 h1 => ⟨by have := h1.1; show vs.length ≤ 2 ^ 24; omega, k _ _ _ (I1.ath (I1.st.alloc (e := .list vs) rfl ⟨_, rfl⟩)) (h1.2 _)⟩) x)
theorem R_Tuple {env : Env} {elts : List Expr} {kk : Nat} {pos : Pos} {Q : Value → Sto → Prop} (h : Runs V n (spliced (backTo pos (starEach elts env))) st (fun vs st1 => vs.length ≤ 1000 ∧ ∀ a, Q (.ref a) ((a, .tup vs) :: st1)) X) :
    Runs V n (eval (.Tuple elts kk pos) env) st Q X := fun A s R E rm I k x =>
  wpAny_Tuple (h A s _ E rm I (fun vs s1 st1 I1 h1 => ⟨by have := h1.1; show vs.length ≤ 2 ^ 24; omega, k _ _ _ (I1.ath (I1.st.alloc (e := .tup vs) rfl ⟨_, rfl⟩)) (h1.2 _)⟩) x)

-- statements
theorem R_nil {env : Env} {Q : Flow → Sto → Prop} (h : Q .next st) : Runs V n (execs [] env) st Q X := Runs.pure h
theorem R_cons {env : Env} {s : Stmt} {rest : List Stmt} {Q : Flow → Sto → Prop} (h : Runs V n (exec s env) st (fun f st1 => match f with | .next => Runs V n (execs rest env) st1 Q X | f => Q f st1) X) : Runs V n (execs (s :: rest) env) st Q X := by
  refine Runs.of_eq (execs_cons env s rest) (Runs.bind (h.mono fun f st1 h1 => ?_))
  cases f with
  | next => exact h1
  | _ => exact Runs.pure h1
theorem R_Return {env : Env} {e : Expr} {pos : Pos} {Q : Flow → Sto → Prop} (h : Runs V n (eval e env) st (fun v st1 => Q (.ret v) st1) X) : Runs V n (exec (.Return (some e) pos) env) st Q X := fun A s R E rm I k x =>
  wpAny_Return_some (h A s _ E rm I (fun v s1 st1 I1 q => k _ s1 st1 I1 q) x)
theorem R_Assign {env : Env} {x : Str} {p pos : Pos} {e : Expr} {Q : Flow → Sto → Prop} (h : Runs V n (eval e env) st (fun v st1 => Runs V n (storeName env x v) st1 (fun _ st2 => Q .next st2) X) X)
    (hs : swapsWith e (some (.Name x p)) pos.line env = Pure.pure false) : Runs V n (exec (.Assign [.Name x p] e pos) env) st Q X := fun A s R E rm I k y =>
  wpAny_Assign_Name (h A s _ E rm I (fun v s1 st1 I1 h1 => h1 A s1 _ E rm I1 (fun _ s2 st2 I2 q => k _ s2 st2 I2 q) y) y) hs
theorem R_AugAssign {env : Env} {x : Str} {p pos : Pos} {op : Operator} {e : Expr} {Q : Flow → Sto → Prop} (h : Runs V n (loadName env x) st (fun o st0 => Runs V n (eval e env) st0 (fun v st1 => Runs V n (inplaceOp op o v) st1 (fun r st2 => Runs V n (storeName env x r) st2 (fun _ st3 => Q .next st3) X) X) X) X) :
    Runs V n (exec (.AugAssign (.Name x p) op e pos) env) st Q X := fun A s R E rm I k y =>
  wpAny_AugAssign_Name (h A s _ E rm I (fun o s0 st0 I0 h0 => h0 A s0 _ E rm I0 (fun v s1 st1 I1 h1 => h1 A s1 _ E rm I1 (fun r s2 st2 I2 h2 => h2 A s2 _ E rm I2 (fun _ s3 st3 I3 q => k _ s3 st3 I3 q) y) y) y) y)
theorem R_If {env : Env} {c : Expr} {a b : List Stmt} {pos : Pos} {Q : Flow → Sto → Prop} (h : Runs V n (isTrue c env (eval c env)) st (fun t st1 => Runs V n (if t then execs a env else execs b env) st1 Q X) X) : Runs V n (exec (.If c a b pos) env) st Q X := fun A s R E rm I k x =>
  wpAny_If (h A s _ E rm I (fun t s1 st1 I1 h1 => by cases t <;> exact h1 A s1 R E rm I1 k x) x)
theorem R_Break {env : Env} {pos : Pos} {Q : Flow → Sto → Prop} (h : Q .brk st) : Runs V n (exec (.Break pos) env) st Q X := fun _ _ _ _ _ I k _ => wpAny_Break (k _ _ _ I h)
theorem R_asName {env : Env} {x : Str} {p : Pos} {v : Value} {Q : Unit → Sto → Prop} (h : Runs V n (storeName env x v) st Q X) : Runs V n (assign (.Name x p) env v) st Q X := fun A s R E rm I k y => wpAny_assign_Name (h A s R E rm I k y)
theorem R_asTuple {env : Env} {elts : List Expr} {kk : Nat} {pos : Pos} {t : Addr} {vs : List Value} {Q : Unit → Sto → Prop} (hm : (t, En.tup vs) ∈ st) (hn : (assignEach elts env).length = vs.length) (hstar : (assignEach elts env).findIdx? (·.1) = none)
    (h : Runs V n (assignInOrder ((assignEach elts env).map (·.2)) vs) st Q X) : Runs V n (assign (.Tuple elts kk pos) env (.ref t)) st Q X := fun A s R E rm I k y =>
  wpAny_assign_Tuple rm.hd (I.st.tup hm) (by simpa using hn) hstar fun h' he => h A _ R E rm (I.ath (I.st.keeps fun b o e => he b o (fun q => by subst q; rw [get?_size_none] at e; cases e) e)) k y
theorem R_ao_nil {Q : Unit → Sto → Prop} {vs : List Value} (h : Q () st) : Runs V n (assignInOrder [] vs) st Q X := by
  cases vs <;> exact Runs.pure h
theorem R_ao_cons {Q : Unit → Sto → Prop} {t : Value → Sem Unit} {ts : List (Value → Sem Unit)} {v : Value} {vs : List Value} (h : Runs V n (t v) st (fun _ st1 => Runs V n (assignInOrder ts vs) st1 Q X) X) : Runs V n (assignInOrder (t :: ts) (v :: vs)) st Q X :=
  Runs.bind (Runs.holding h)
end
end Mine
end

section
set_option linter.unusedVariables false
namespace Mine
open PySem PySem.W PyProof.Rows PySem.Calls PySem.Spec

abbrev fenv (sc : Scope) (L : Addr) (cl : List (Str × Addr)) (q : Str) (f : Addr) (cd : Value) : Env :=
  { scope := sc, locals := L, globals := mainGlobals, cells := cl, qual := q, func := some f, code := cd, frame := some L, builtins := builtinsNs }

theorem bindL_other {kd : Str → Option NameKind} {x : Str} : ∀ {binds : List (Str × Value)} {m : Str → Option Value}, x ∉ binds.map (·.1) → bindL kd binds m x = m x
  | [], _, _ => rfl
  | (y, u) :: r, m, hx => by
    rw [List.map_cons, List.mem_cons, not_or] at hx
    unfold bindL
    rw [bindL_other hx.2]
    split
    · simp [hx.1]
    · rfl
theorem bindL_of {kd : Str → Option NameKind} : ∀ {binds : List (Str × Value)} {m : Str → Option Value}, (binds.map (·.1)).Nodup → ∀ p ∈ binds, kd p.1 = some .local → bindL kd binds m p.1 = some p.2
  | [], _, _, p, hp, _ => nomatch hp
  | (y, u) :: r, m, nd, p, hp, hk => by
    rw [List.map_cons] at nd
    obtain ⟨h1, h2⟩ := List.nodup_cons.mp nd
    rcases List.mem_cons.mp hp with rfl | hp
    · unfold bindL
      rw [bindL_other h1, if_pos hk]
      simp
    · unfold bindL
      exact bindL_of h2 p hp hk

theorem lookup_of_nodup {γ : Type} : ∀ {l : List (Str × γ)} {x : Str} {c : γ}, (l.map (·.1)).Nodup → (x, c) ∈ l → l.lookup x = some c
  | [], _, _, _, h => nomatch h
  | (z, d) :: r, x, c, nd, h => by
    rw [List.map_cons] at nd
    obtain ⟨n1, n2⟩ := List.nodup_cons.mp nd
    rw [List.lookup_cons]
    rcases List.mem_cons.mp h with e | hr
    · cases e; simp
    · have : (x == z) = false := by
        refine beq_eq_false_iff_ne.mpr fun e => n1 ?_
        rw [← e]; exact List.mem_map.mpr ⟨_, hr, rfl⟩
      rw [this]
      exact lookup_of_nodup n2 hr

def cellNames (names : List (Str × NameKind)) : List Str := (names.filter fun p => p.2 == .cell).map (·.1)
theorem cellsFrom_names : ∀ (names : List (Str × NameKind)) (k : Nat) (acc : List (Str × Addr)), (cellsFrom k names acc).map (·.1) = (cellNames names).reverse ++ acc.map (·.1)
  | [], k, acc => rfl
  | (x, kd) :: r, k, acc => by
    unfold cellsFrom cellNames
    by_cases h : (kd == NameKind.cell) = true
    · rw [if_pos h, cellsFrom_names r, List.filter_cons_of_pos (by exact h)]
      simp [cellNames]
    · rw [if_neg h, cellsFrom_names r, List.filter_cons_of_neg (by exact h)]
      rfl
theorem cellsFrom_ge : ∀ (names : List (Str × NameKind)) (k : Nat) (acc : List (Str × Addr)), (∀ p ∈ acc, p.2 < k) → (acc.map (·.2)).Nodup → (((cellsFrom k names acc).map (·.2)).Nodup ∧ ∀ p ∈ cellsFrom k names acc, p ∈ acc ∨ k ≤ p.2)
  | [], k, acc, h, nd => ⟨nd, fun p hp => .inl hp⟩
  | (x, kd) :: r, k, acc, h, nd => by
    unfold cellsFrom
    split
    · obtain ⟨a, b⟩ := cellsFrom_ge r (k + 1) ((x, k) :: acc) (fun p hp => by
        rcases List.mem_cons.mp hp with rfl | hp
        · exact Nat.lt_succ_self _
        · exact Nat.lt_succ_of_lt (h p hp)) (by
          rw [List.map_cons]
          refine List.nodup_cons.mpr ⟨fun q => ?_, nd⟩
          obtain ⟨p, hp, e⟩ := List.mem_map.mp q
          exact absurd (h p hp) (by rw [e]; exact Nat.lt_irrefl _))
      refine ⟨a, fun p hp => ?_⟩
      rcases b p hp with q | q
      · rcases List.mem_cons.mp q with rfl | q
        · exact .inr (Nat.le_refl _)
        · exact .inl q
      · exact .inr (Nat.le_of_succ_le q)
    · exact cellsFrom_ge r k acc h nd

/-- a fresh part of the store: new objects, apart, and the rest as it was -/
theorem St.more {B h h' : Heap} {st new : Sto} (x : St B h st) (k : ∀ b o, h.get? b = some o → h'.get? b = some o) (hn : ∀ p ∈ new, h.get? p.1 = none ∧ ∃ o, h'.get? p.1 = some o ∧ p.2.Is o) (nd : (new.map (·.1)).Nodup) : St B h' (new ++ st) := by
  refine ⟨fun b o eb => k b o (x.old b o eb), fun p hp => ?_, fun p hp => ?_, ?_⟩
  · rcases List.mem_append.mp hp with hp | hp
    · exact (hn p hp).2
    · obtain ⟨o, eo, ho⟩ := x.has p hp; exact ⟨o, k _ _ eo, ho⟩
  · rcases List.mem_append.mp hp with hp | hp
    · cases q : B.get? p.1 with
      | none => rfl
      | some o => have z := (hn p hp).1; rw [x.old _ o q] at z; cases z
    · exact x.new p hp
  · rw [List.map_append]
    refine List.nodup_append.mpr ⟨nd, x.nd, fun a ha b hb e => ?_⟩
    obtain ⟨p, hp, rfl⟩ := List.mem_map.mp ha
    obtain ⟨q, hq, rfl⟩ := List.mem_map.mp hb
    obtain ⟨o, eo, _⟩ := x.has q hq
    rw [← e, (hn p hp).1] at eo
    cases eo

theorem none_of_ge {h : Heap} {a : Addr} (ha : h.objs.size ≤ a) : h.get? a = none := by
  cases e : h.get? a with
  | none => rfl
  | some o' => exact absurd (Heap.lt_size e) (Nat.not_lt.mpr ha)

section
variable {V : Cx} {n : Nat} {α β : Type} {st : Sto} {X : Value → Sto → Prop}

def retOf : Flow → Value
  | .ret v => v
  | _ => .none

theorem call_cells_tk {prog : Program} {w : World} {A : Around} {s : Shared} {R : Result → Shared → Prop} {a : Addr} {o : Obj} {fd : FuncData} {body : List Stmt} {vals : List Value} {binds : List (Str × Value)}
    (hroom : A.depth < recursionLimit) (ho : s.heap.get? a = some o) (hdata : o.data = .func fd) (hlim : s.heap.NoLimit) (hcd : s.heap.CodeRec fd.code fd.qualname)
    (hbody : fd.body = .stmts body) (hbind : bindArgs fd ⟨vals, []⟩ = Pure.pure binds) (hclo : fd.closure = [])
    (hkind : ∀ x ∈ binds, fd.scope.names.lookup x.1 = some .local ∨ (fd.scope.names.lookup x.1 = some .cell ∧ ((cellsFrom (s.heap.objs.size + 1) fd.scope.names []).lookup x.1).isSome = true))
    (h : ∀ s₁ : Shared, s.toks ≤ s₁.toks → InCallC s (callEnvC fd s.heap.objs.size a).locals (bindL (callEnvC fd s.heap.objs.size a).kindOf binds fun _ => none) (callEnvC fd s.heap.objs.size a).cells
        (bindC (callEnvC fd s.heap.objs.size a).kindOf binds fun _ => none) s₁ →
      wpAny (model prog w) (A.deeper (callEnvC fd s.heap.objs.size a)) (execs body (callEnvC fd s.heap.objs.size a)) (fun f s' => R (.ok (.ret (match f with | .ret v => v | _ => .none))) s')
        (fun e s' => wpAny (model prog w) (A.deeper (callEnvC fd s.heap.objs.size a)) (leaving (callEnvC fd s.heap.objs.size a) e) (fun _ s'' => R (.error e) s'') (fun e' s'' => R (.error e') s'') s') s₁)
    (hco : fd.scope.isCoroutine = false) (hgen : fd.scope.isGenerator = false) (hk : fd.scope.kind = .function) :
    codeAny (model prog w) A (.call (.ref a) ⟨vals, []⟩) R s := by
  refine codeAny_call_function hroom ho hdata hco hgen hbody hcd ?_
  rw [hbind, hclo]
  refine wpAny_pure (wpAny_with_toks (Nat.le_refl _) (wpAny_newFunctionEnv_cells hk hkind fun env he s' x ht => ?_))
  subst he
  exact ⟨hlim.keeps x.toInCall.keep, codeAny_func (h s' ht x)⟩
theorem R_call {name qual : Str} {params : Arguments} {body : List Stmt} {scope : Scope} {dV kV doc pm cdv ct oc : Value} {an od : Option Addr} {osl : Array (Option Value)} {f : Addr} {vals : List Value} {binds : List (Str × Value)} {Q : Value → Sto → Prop}
    (l : List (Str × Value)) (cv : List (Str × Option Value))
    (ho : (hd.heap_1 V.w.params).lookup f = some ⟨oc, od, .func (fnOf name qual params body scope dV kV doc pm an cdv ct), osl⟩) (hcd : codeIn (hd.heap_1 V.w.params) cdv qual = true)
    (hbind : bindArgs (fnOf name qual params body scope dV kV doc pm an cdv ct) ⟨vals, []⟩ = Pure.pure binds) (hnd : (binds.map (·.1)).Nodup)
    (hkind : (binds.all fun y => scope.names.lookup y.1 == some .local || scope.names.lookup y.1 == some .cell) = true)
    (hl : l = binds.filter fun p => scope.names.lookup p.1 == some .local)
    (hcv : cv = (cellNames scope.names).reverse.map fun x => (x, bindC (fun y => scope.names.lookup y) binds (fun _ => none) x))
    (hcn : (cellNames scope.names).Nodup)
    (h : ∀ L cl, cl.map (·.1) = cv.map (·.1) → Runs V n (execs body (fenv scope L cl (qual ++ ".<locals>.") f cdv)) ((L, .ns l) :: ((cl.zip cv).map (fun q => (q.1.2, En.cell q.2.2)) ++ st))
      (fun fl st' => ∃ st'', List.Sublist st'' st' ∧ Q (retOf fl) st''))
    (hco : scope.isCoroutine = false) (hgen : scope.isGenerator = false) (hk : scope.kind = .function) : Runs V (n + 1) (call (.ref f) vals) st Q X := by
  intro A s R E rm I k _
  refine wpAny_call ?_
  refine call_cells_tk (fd := fnOf name qual params body scope dV kV doc pm an cdv ct) (binds := binds) rm.depth (I.st.old _ _ (I.ok.kin _ _ ho)) rfl (I.ok.lim.keeps I.st.old) (codeRec_of (fun _ _ e => I.st.old _ _ (I.ok.kin _ _ e)) hcd) rfl hbind rfl (kindsX hkind _) ?_ hco hgen hk
  intro s₁ htk C
  have hL : s.heap.objs.size ≤ s.heap.objs.size := Nat.le_refl _
  have keep := C.toInCall.keep
  obtain ⟨h₁, tk, hs₁⟩ := C.toInCall.same
  generalize hcl : cellsFrom (s.heap.objs.size + 1) scope.names [] = cl at *
  have hce : (callEnvC (fnOf name qual params body scope dV kV doc pm an cdv ct) s.heap.objs.size f) = fenv scope s.heap.objs.size cl (qual ++ ".<locals>.") f cdv := by
    rw [← hcl]; rfl
  rw [hce] at C ⊢
  have hnames : cl.map (·.1) = cv.map (·.1) := by
    rw [← hcl, cellsFrom_names, hcv]
    simp [List.map_map, Function.comp_def]
  have hge : (cl.map (·.2)).Nodup ∧ ∀ p ∈ cl, s.heap.objs.size + 1 ≤ p.2 := by
    obtain ⟨a, b⟩ := cellsFrom_ge scope.names (s.heap.objs.size + 1) [] (fun _ hp => nomatch hp) List.nodup_nil
    rw [hcl] at a b
    exact ⟨a, fun p hp => (b p hp).resolve_left (fun q => nomatch q)⟩
  have hlen : cl.length = cv.length := by have := congrArg List.length hnames; simpa using this
  have hnew : St V.B s₁.heap (((s.heap.objs.size, En.ns l) :: (cl.zip cv).map (fun q => (q.1.2, En.cell q.2.2))) ++ st) := by
    refine I.st.more keep (fun p hp => ?_) ?_
    · rcases List.mem_cons.mp hp with rfl | hp
      · refine ⟨get?_size_none _, is_ns C.toInCall.ns (fun p hp => ?_) ?_⟩
        · rw [hl] at hp
          obtain ⟨a, b⟩ := List.mem_filter.mp hp
          exact bindL_of hnd p a (show scope.names.lookup p.1 = some .local from by simpa using b)
        · rw [hl]
          exact ((List.filter_sublist (l := binds)).map (·.1)).nodup hnd
      · obtain ⟨q, hq, rfl⟩ := List.mem_map.mp hp
        obtain ⟨⟨x, c⟩, ⟨y, v⟩⟩ := q
        have hq1 := (List.of_mem_zip hq).1
        have hq2 := (List.of_mem_zip hq).2
        have hxy : x = y := by
          obtain ⟨i, hi⟩ := List.mem_iff_getElem?.mp hq
          rw [List.getElem?_zip_eq_some] at hi
          have e1 : (cl.map (·.1))[i]? = some x := by rw [List.getElem?_map, hi.1]; rfl
          have e2 : (cv.map (·.1))[i]? = some y := by rw [List.getElem?_map, hi.2]; rfl
          rw [hnames, e2] at e1
          exact (Option.some.inj e1).symm
        subst hxy
        refine ⟨none_of_ge (Nat.le_of_succ_le (hge.2 _ hq1)), is_cell ?_⟩
        have hv : v = bindC (fun y => scope.names.lookup y) binds (fun _ => none) x := by
          rw [hcv] at hq2
          obtain ⟨z, _, e⟩ := List.mem_map.mp hq2
          cases e; rfl
        rw [hv]
        refine C.cell x c ?_
        have nd : (cl.map (·.1)).Nodup := by
          rw [← hcl, cellsFrom_names]
          rw [List.map_nil, List.append_nil]
          unfold List.Nodup
          exact List.pairwise_reverse.mpr (List.Pairwise.imp (fun h => Ne.symm h) hcn)
        exact lookup_of_nodup nd hq1
    · rw [List.map_cons, List.map_map]
      have e : (cl.zip cv).map ((fun x : Addr × En => x.1) ∘ fun q => (q.1.2, En.cell q.2.2)) = cl.map (·.2) := by
        rw [show ((fun x : Addr × En => x.1) ∘ fun (q : (Str × Addr) × Str × Option Value) => (q.1.2, En.cell q.2.2)) = (·.2) ∘ Prod.fst from rfl, ← List.map_map, List.map_fst_zip (by omega)]
      rw [e]
      refine List.nodup_cons.mpr ⟨fun q => ?_, hge.1⟩
      obtain ⟨p, hp, e⟩ := List.mem_map.mp q
      have := hge.2 p hp
      rw [e] at this
      exact Nat.not_succ_le_self _ this
  have I₁ : Inv V s₁ (((s.heap.objs.size, En.ns l) :: (cl.zip cv).map (fun q => (q.1.2, En.cell q.2.2))) ++ st) := by
    rw [hs₁] at hnew ⊢
    exact I.at hnew (flr_le (flr_pos _) fun p hp => (by
      rcases List.mem_append.mp hp with hp | hp
      · rcases List.mem_cons.mp hp with rfl | hp
        · exact Nat.zero_le _
        · obtain ⟨q, hq, rfl⟩ := List.mem_map.mp hp
          exact Nat.zero_le _
      · exact flr_mem hp)) (by rw [hs₁] at htk; exact htk)
  exact wpAny_mono (h s.heap.objs.size cl hnames _ _ (fun fl s' => match retOf fl with | v => R v s') (fun _ _ => False) rm.deeper I₁ (fun fl s' st' I' q => by
    obtain ⟨st'', hs, q⟩ := q
    exact k _ _ _ (I'.sub hs) q) (fun _ _ _ _ q => q.elim)) (fun fl s' q => by cases fl <;> exact q) (fun _ _ q => q.elim)

end
end Mine
end

section
set_option linter.unusedVariables false
namespace Mine
open PySem PySem.W PyProof.Rows PySem.Calls PySem.Spec

/-- an object of the store forgotten -/
inductive SDel (a : Addr) (e : En) : Sto → Sto → Prop
  | here {r : Sto} : SDel a e ((a, e) :: r) r
  | there {p : Addr × En} {r r' : Sto} : SDel a e r r' → SDel a e (p :: r) (p :: r')
theorem SDel.mem {a : Addr} {e : En} {st st' : Sto} (h : SDel a e st st') : (a, e) ∈ st := by
  induction h with
  | here => exact List.mem_cons_self
  | there _ ih => exact List.mem_cons_of_mem _ ih
theorem SDel.sub {a : Addr} {e : En} {st st' : Sto} (h : SDel a e st st') : List.Sublist st' st := by
  induction h with
  | here => exact List.sublist_cons_self _ _
  | there _ ih => exact ih.cons_cons _
theorem SDel.flr {a : Addr} {e : En} {st st' : Sto} (h : SDel a e st st') : Mine.flr st' ≤ Mine.flr st := flr_sub h.sub
theorem SDel.off {a : Addr} {e : En} {st st' : Sto} (h : SDel a e st st') (nd : (st.map (·.1)).Nodup) : ∀ p ∈ st', p.1 ≠ a := by
  induction h with
  | here =>
    intro p hp q
    rw [List.map_cons] at nd
    exact (List.nodup_cons.mp nd).1 (List.mem_map.mpr ⟨p, hp, q⟩)
  | there hr ih =>
    rw [List.map_cons] at nd
    obtain ⟨n1, n2⟩ := List.nodup_cons.mp nd
    intro p hp
    rcases List.mem_cons.mp hp with rfl | hp
    · intro q
      have := hr.mem
      exact n1 (List.mem_map.mpr ⟨_, this, q.symm⟩)
    · exact ih n2 p hp
theorem St.del {B h h' : Heap} {st st' : Sto} {a : Addr} {e : En} (x : St B h st) (hd : SDel a e st st') (k : ∀ b o, b ≠ a → h.get? b = some o → h'.get? b = some o) : St B h' st' := by
  have hB := x.new _ hd.mem
  have y := x.sub hd.sub
  have off := hd.off x.nd
  exact ⟨fun b o eb => k b o (fun q => by rw [q] at eb; rw [eb] at hB; cases hB) (x.old b o eb), fun p hp => let ⟨o, eo, ho⟩ := y.has p hp; ⟨o, k _ _ (off p hp) eo, ho⟩, y.new, y.nd⟩

theorem St.obj {B h : Heap} {st : Sto} {a : Addr} {p : Obj} (x : St B h st) (hm : (a, En.ob p) ∈ st) : h.get? a = some p := by
  obtain ⟨o, e, q⟩ := x.has _ hm
  have q' : o = p := q
  subst q'
  exact e
theorem up_of_ext {h h' : Heap} {a : Addr} (x : Heap.ExtBut a h h') : ∀ b o, b ≠ a → h.get? b = some o → h'.get? b = some o := x

section
variable {V : Cx} {n : Nat} {α β : Type} {st : Sto} {X : Value → Sto → Prop}

-- iterators
theorem R_iter_list {l : Addr} {vs : List Value} {Q : Value → Sto → Prop} (hm : (l, En.list vs) ∈ st) (h : ∀ it, Q (.ref it) ((it, .fl "list_iterator" [.ref l, .int 0 0]) :: st)) : Runs V n (pyIter (.ref l)) st Q X :=
  fun _ _ _ _ _ I k _ => wpAny_pyIter_list (I.st.list hm) (k _ _ _ (I.ath (I.st.alloc (e := .fl "list_iterator" [.ref l, .int 0 0]) rfl ⟨rfl, rfl⟩)) (h _))
theorem R_iter_tup {l : Addr} {vs : List Value} {Q : Value → Sto → Prop} (hm : (l, En.tup vs) ∈ st) (h : ∀ it, Q (.ref it) ((it, .fl "tuple_iterator" [.ref l, .int 0 0]) :: st)) : Runs V n (pyIter (.ref l)) st Q X :=
  fun _ _ _ _ _ I k _ => wpAny_pyIter_tuple (I.st.tup hm) (k _ _ _ (I.ath (I.st.alloc (e := .fl "tuple_iterator" [.ref l, .int 0 0]) rfl ⟨rfl, rfl⟩)) (h _))
theorem R_iter_str {x : Str} {t : Tok} {Q : Value → Sto → Prop} (ha : x.cps.all (· < 128) = true) (h : ∀ it, Q (.ref it) ((it, .fl "str_ascii_iterator" [.str x t, .int 0 0]) :: st)) : Runs V n (pyIter (.str x t)) st Q X :=
  fun _ _ _ _ _ I k _ => wpAny_pyIter_ascii ha (k _ _ _ (I.ath (I.st.alloc (e := .fl "str_ascii_iterator" [.str x t, .int 0 0]) rfl ⟨rfl, rfl⟩)) (h _))
theorem R_self_list {it l : Addr} {i : Nat} {Q : Value → Sto → Prop} (hm : (it, En.fl "list_iterator" [.ref l, .int i 0]) ∈ st) (h : Q (.ref it) st) : Runs V n (pyIter (.ref it)) st Q X :=
  fun _ _ _ _ _ I k _ => wpAny_pyIter_listiter (I.st.fl hm) (k _ _ _ I h)
theorem R_self_str {it : Addr} {x : Str} {t : Tok} {i : Nat} {Q : Value → Sto → Prop} (hm : (it, En.fl "str_ascii_iterator" [.str x t, .int i 0]) ∈ st) (h : Q (.ref it) st) : Runs V n (pyIter (.ref it)) st Q X :=
  fun _ _ _ _ _ I k _ => wpAny_pyIter_striter_ascii (I.st.fl hm) (k _ _ _ I h)
theorem R_next_list {it l : Addr} {i : Nat} {vs : List Value} {x : Value} {st' : Sto} {Q : Option Value → Sto → Prop} (hl : (l, En.list vs) ∈ st) (hs : SSet it (.fl "list_iterator" [.ref l, .int i 0]) (.fl "list_iterator" [.ref l, .int (i + 1 : Nat) 0]) st st')
    (hx : vs[i]? = some x) (h : Q (some x) st') : Runs V n (pyNext (.ref it)) st Q X :=
  fun _ _ _ _ _ I k _ => wpAny_pyNext_list_item (I.st.fl hs.mem) (I.st.list hl) (by simpa using hx) fun h' hi hb => k _ _ _ (I.ath (I.st.turn hs (fun b o hb' e => hb.extBut b o hb' e) hi)) h
theorem R_end_list {it l : Addr} {i : Nat} {vs : List Value} {st' : Sto} {Q : Option Value → Sto → Prop} (hl : (l, En.list vs) ∈ st) (hs : SDel it (.fl "list_iterator" [.ref l, .int i 0]) st st')
    (hx : vs[i]? = none) (h : Q none st') : Runs V n (pyNext (.ref it)) st Q X :=
  fun _ _ _ _ rm I k _ => wpAny_pyNext_list_end rm.hd (I.st.fl hs.mem) (I.st.list hl) (by simpa using hx) fun h' hb => k _ _ _ (I.ath (I.st.del hs hb) hs.flr) h
theorem R_next_tup {it l : Addr} {i : Nat} {vs : List Value} {x : Value} {st' : Sto} {Q : Option Value → Sto → Prop} (hl : (l, En.tup vs) ∈ st) (hs : SSet it (.fl "tuple_iterator" [.ref l, .int i 0]) (.fl "tuple_iterator" [.ref l, .int (i + 1 : Nat) 0]) st st')
    (hx : vs[i]? = some x) (h : Q (some x) st') : Runs V n (pyNext (.ref it)) st Q X :=
  fun _ _ _ _ _ I k _ => wpAny_pyNext_tuple_item (I.st.fl hs.mem) (I.st.tup hl) (by simpa using hx) fun h' hi hb => k _ _ _ (I.ath (I.st.turn hs (fun b o hb' e => hb.extBut b o hb' e) hi)) h
theorem R_next_str {it : Addr} {x : Str} {t : Tok} {i c : Nat} {st' : Sto} {Q : Option Value → Sto → Prop} (hs : SSet it (.fl "str_ascii_iterator" [.str x t, .int i 0]) (.fl "str_ascii_iterator" [.str x t, .int (i + 1 : Nat) 0]) st st')
    (hx : x.cps[i]? = some c) (h : ∀ u, Q (some (.str ⟨#[c]⟩ u)) st') : Runs V n (pyNext (.ref it)) st Q X :=
  fun _ _ _ _ _ I k _ => wpAny_pyNext_ascii_item (I.st.fl hs.mem) hx fun h' hi hb => k _ _ _ (I.at (I.st.turn hs (fun b o hb' e => hb.extBut b o hb' e) hi)) (h _)
theorem R_end_str {it : Addr} {x : Str} {t : Tok} {i : Nat} {st' : Sto} {Q : Option Value → Sto → Prop} (hs : SDel it (.fl "str_ascii_iterator" [.str x t, .int i 0]) st st')
    (hx : x.cps[i]? = none) (h : Q none st') : Runs V n (pyNext (.ref it)) st Q X :=
  fun _ _ _ _ rm I k _ => wpAny_pyNext_ascii_end rm.hd (I.st.fl hs.mem) hx fun h' hb => k _ _ _ (I.ath (I.st.del hs hb) hs.flr) h
abbrev rangeIt (x left step : Int) : En := .ob { cls := .type "range_iterator", dict := none, data := .fields #[rawInt x, rawInt left, rawInt step], slots := #[] }
abbrev rangeOb (a b c : Int) (t u v : Tok) : En := .ob { cls := .type "range", dict := none, data := .fields #[.int a t, .int b u, .int c v], slots := #[] }
theorem R_range1 {k : Int} {t : Tok} {Q : Value → Sto → Prop} (h : ∀ r t₁ t₂, Q (.ref r) ((r, rangeOb 0 k 1 t₁ t t₂) :: st)) : Runs V n (call (.type "range") [.int k t]) st Q X :=
  fun _ _ _ _ _ I k _ => call_range_1 (k _ _ _ (I.at (I.st.alloc (e := rangeOb ..) rfl rfl)) (h _ _ _))
theorem R_range3 {a b c : Int} {t u v : Tok} {Q : Value → Sto → Prop} (hc : c ≠ 0) (hp : Builtin.divisionGoesByPylong (b - a) c = false) (h : ∀ r, Q (.ref r) ((r, rangeOb a b c t u v) :: st)) : Runs V n (call (.type "range") [.int a t, .int b u, .int c v]) st Q X :=
  fun _ _ _ _ _ I k _ => PySem.call_range_3 hc (k _ _ _ (I.ath (I.st.alloc (e := rangeOb ..) rfl rfl)) (h _)) (.inl hp)
theorem R_iter_range {r : Addr} {a b c : Int} {t u v : Tok} {Q : Value → Sto → Prop} (hm : (r, rangeOb a b c t u v) ∈ st) (hsm : Builtin.Range.small a b c = true) (h : ∀ it, Q (.ref it) ((it, rangeIt a (Builtin.Range.rangeSize a b c) c) :: st)) : Runs V n (pyIter (.ref r)) st Q X :=
  fun _ _ _ _ _ I k _ => by
    have e := I.st.obj hm
    exact wpAny_pyIter_range e hsm (k _ _ _ (I.ath (I.st.alloc (e := rangeIt ..) rfl rfl)) (h _))
theorem R_next_range {it : Addr} {x left step : Int} {st' : Sto} {Q : Option Value → Sto → Prop} (hs : SSet it (rangeIt x left step) (rangeIt (x + step) (left - 1) step) st st') (hl : 0 < left) (h : ∀ t, Q (some (.int x t)) st') : Runs V n (pyNext (.ref it)) st Q X :=
  fun _ _ _ _ _ I k _ => by
    have e := I.st.obj hs.mem
    exact wpAny_pyNext_range_item e hl fun h' hi hb => k _ _ _ (I.at (I.st.turn hs (fun b o hb' e => hb.extBut b o hb' e) ⟨_, hi, rfl⟩)) (h _)
theorem R_end_range {it : Addr} {x left step : Int} {st' : Sto} {Q : Option Value → Sto → Prop} (hs : SDel it (rangeIt x left step) st st') (hl : left ≤ 0) (h : Q none st') : Runs V n (pyNext (.ref it)) st Q X :=
  fun _ _ _ _ rm I k _ => by
    have e := I.st.obj hs.mem
    exact wpAny_pyNext_range_end rm.hd e hl fun h' hb => k _ _ _ (I.ath (I.st.del hs hb) hs.flr) h

-- loops
theorem R_For {env : Env} {target iter : Expr} {body orelse : List Stmt} {pos : Pos} {Q : Flow → Sto → Prop}
    (h : Runs V n (eval iter env) st (fun x st1 => Runs V n (pyIter x) st1 (fun it st2 => RunsC V n (.forLoop target it body orelse env) st2 Q)))
    (hs : ∀ x, foldedSetIterable iter env x = Pure.pure x) : Runs V n (exec (.For target iter body orelse pos) env) st Q X := fun A s R E rm I k _ =>
  wpAny_For (h A s _ E rm I (fun x s1 st1 I1 h1 => h1 A s1 _ E rm I1 (fun it s2 st2 I2 h2 => h2 A s2 _ rm I2 (fun f s3 st3 I3 q => k f s3 st3 I3 q)) (fun _ _ _ _ q => q.elim)) (fun _ _ _ _ q => q.elim)) hs
theorem RC_for {env : Env} {target : Expr} {it : Value} {body : List Stmt} {Q : Flow → Sto → Prop}
    (h : Runs V n (pyNext it) st (fun r st1 => match r with
      | none => Q .next st1
      | some v => Runs V n (letOwnedTupleGo target it v) st1 (fun _ st2 => Runs V n (assign target env v) st2 (fun _ st3 => Runs V n (execs body env) st3 (fun f st4 => match f with
        | .next | .cont => RunsC V n (.forLoop target it body [] env) st4 Q
        | .brk => Q .next st4
        | .ret v => Q (.ret v) st4))))) : RunsC V n (.forLoop target it body [] env) st Q := fun A s R rm I k => by
  refine codeAny_of_tree ?_
  show wpAny _ A ((forTurn target it body [] env).onRaise (fun x => do noteFrame x env; theTreesLotGoes x)) _ _ s
  refine wpAny_onRaise ?_
  simp only [forTurn]
  refine wpAny_bind (wpAny_standAt (wpAny_bind (wpAny_onRaise (h A s _ _ rm I (fun r s1 st1 I1 h1 => ?_) fun _ _ _ _ q => q.elim))))
  cases r with
  | none => exact wpAny_pure ⟨rfl, codeAny_block (wpAny_execs_nil (k _ _ _ I1 h1))⟩
  | some v =>
    refine wpAny_bind (h1 A s1 _ _ rm I1 (fun _ s2 st2 I2 h2 => ?_) fun _ _ _ _ q => q.elim)
    refine wpAny_bind (h2 A s2 _ _ rm I2 (fun _ s3 st3 I3 h3 => ?_) fun _ _ _ _ q => q.elim)
    refine wpAny_bind (h3 A s3 _ _ rm I3 (fun f s4 st4 I4 h4 => ?_) fun _ _ _ _ q => q.elim)
    cases f with
    | next => exact wpAny_pure ⟨rfl, h4 A s4 R rm I4 k⟩
    | cont => exact wpAny_pure ⟨rfl, h4 A s4 R rm I4 k⟩
    | brk => exact wpAny_pure (k _ _ _ I4 h4)
    | ret v => exact wpAny_pure (k _ _ _ I4 h4)
theorem RunsC.sub {c : Code} {Q : Flow → Sto → Prop} {st' : Sto} (h : RunsC V n c st' Q) (hs : List.Sublist st' st) : RunsC V n c st Q := fun A s R rm I k => h A s R rm (I.sub hs) k
theorem RunsC.mono {c : Code} {Q Q' : Flow → Sto → Prop} (h : RunsC V n c st Q) (hq : ∀ f st', Q f st' → Q' f st') : RunsC V n c st Q' := fun A s R rm I k => h A s R rm I (fun f s' st' I' q => k f s' st' I' (hq f st' q))
theorem R_letGo_name {x : Str} {p : Pos} {it v : Value} {Q : Unit → Sto → Prop} (h : Q () st) : Runs V n (letOwnedTupleGo (.Name x p) it v) st Q X := Runs.pure h
theorem R_While {env : Env} {test : Expr} {body : List Stmt} {pos : Pos} {Q : Flow → Sto → Prop} (h : RunsC V n (.whileLoop test body [] env) st Q) : Runs V n (exec (.While test body [] pos) env) st Q X := fun A s R E rm I k _ =>
  wpAny_While (h A s _ rm I (fun f s3 st3 I3 q => k f s3 st3 I3 q))
theorem RC_while {env : Env} {test : Expr} {body : List Stmt} {Q : Flow → Sto → Prop}
    (h : Runs V n (isTrue test env (eval test env)) st (fun b st1 => (b = true → Runs V n (execs body env) st1 (fun f st2 => match f with
        | .next | .cont => RunsC V n (.whileLoop test body [] env) st2 Q
        | .brk => Q .next st2
        | .ret v => Q (.ret v) st2)) ∧ (b = false → Q .next st1))) : RunsC V n (.whileLoop test body [] env) st Q := fun A s R rm I k => by
  refine codeAny_of_tree ?_
  show wpAny _ A ((whileTurn test body [] env).onRaise (fun x => do noteFrame x env; theTreesLotGoes x)) _ _ s
  refine wpAny_onRaise ?_
  simp only [whileTurn]
  refine wpAny_bind (h A s _ _ rm I (fun b s1 st1 I1 h1 => ?_) fun _ _ _ _ q => q.elim)
  cases b with
  | false => exact wpAny_bind (wpAny_execs_nil (wpAny_pure (k _ _ _ I1 (h1.2 rfl))))
  | true =>
    refine wpAny_bind (h1.1 rfl A s1 _ _ rm I1 (fun f s4 st4 I4 h4 => ?_) fun _ _ _ _ q => q.elim)
    cases f with
    | next => exact wpAny_pure ⟨rfl, h4 A s4 R rm I4 k⟩
    | cont => exact wpAny_pure ⟨rfl, h4 A s4 R rm I4 k⟩
    | brk => exact wpAny_pure (k _ _ _ I4 h4)
    | ret v => exact wpAny_pure (k _ _ _ I4 h4)

-- list comprehensions with one for
abbrev lcomp (elt target iter : Expr) (ifs : List Expr) (scope : Scope) (pos : Pos) : Expr := .ListComp elt [⟨target, iter, ifs, 0⟩] scope pos

theorem RC_comp {env : Env} {elt target iter : Expr} {ifs : List Expr} {scope : Scope} {pos : Pos} {it : Value} {D : Addr} {Q : Flow → Sto → Prop}
    (h : Runs V n (pyNext it) st (fun r st1 => match r with
      | none => Q .next st1
      | some v => Runs V n (letOwnedTupleGo target it v) st1 (fun _ st2 => Runs V n (assign target env v) st2 (fun _ st3 =>
          Runs V n (forIn ifs true fun c r => if r = true then do let ok ← isTrue c env (eval c env); Pure.pure (ForInStep.yield ok) else Pure.pure (ForInStep.yield r)) st3 (fun ok st4 =>
            (ok = true → Runs V n (eval elt env) st4 (fun x st5 => Runs V n (call (.builtin "list.append") [.ref D, x]) st5 (fun _ st6 => RunsC V n (.compLoop (lcomp elt target iter ifs scope pos) 0 it (.ref D) env) st6 Q))) ∧
            (ok = false → RunsC V n (.compLoop (lcomp elt target iter ifs scope pos) 0 it (.ref D) env) st4 Q)))))) :
    RunsC V n (.compLoop (lcomp elt target iter ifs scope pos) 0 it (.ref D) env) st Q := fun A s R rm I k => by
  refine codeAny_of_tree ?_
  show wpAny _ A ((compTurn (lcomp elt target iter ifs scope pos) 0 it (.ref D) env).onRaise (fun x => do noteFrame x env; theTreesLotGoes x)) _ _ s
  refine wpAny_onRaise ?_
  rw [compTurn_list]
  refine wpAny_bind (wpAny_standAt (wpAny_bind (h A s _ _ rm I (fun r s1 st1 I1 h1 => ?_) fun _ _ _ _ q => q.elim)))
  cases r with
  | none => exact wpAny_pure (k _ _ _ I1 h1)
  | some v =>
    refine wpAny_bind (h1 A s1 _ _ rm I1 (fun _ s2 st2 I2 h2 => ?_) fun _ _ _ _ q => q.elim)
    refine wpAny_bind (h2 A s2 _ _ rm I2 (fun _ s3 st3 I3 h3 => ?_) fun _ _ _ _ q => q.elim)
    refine wpAny_bind (h3 A s3 _ _ rm I3 (fun ok s4 st4 I4 h4 => ?_) fun _ _ _ _ q => q.elim)
    cases ok with
    | false => exact wpAny_pure ⟨rfl, h4.2 rfl A s4 R rm I4 k⟩
    | true =>
      refine wpAny_bind (wpAny_bind (h4.1 rfl A s4 _ _ rm I4 (fun x s5 st5 I5 h5 => ?_) fun _ _ _ _ q => q.elim))
      exact wpAny_bind (h5 A s5 _ _ rm I5 (fun _ s6 st6 I6 h6 => wpAny_pure (wpAny_pure ⟨rfl, h6 A s6 R rm I6 k⟩)) fun _ _ _ _ q => q.elim)
theorem R_tests_nil {env : Env} {Q : Bool → Sto → Prop} (h : Q true st) :
    Runs V n (forIn ([] : List Expr) true fun c r => if r = true then do let ok ← isTrue c env (eval c env); Pure.pure (ForInStep.yield ok) else Pure.pure (ForInStep.yield r)) st Q X := Runs.pure h
theorem R_tests_one {env : Env} {c : Expr} {Q : Bool → Sto → Prop} (h : Runs V n (isTrue c env (eval c env)) st Q X) :
    Runs V n (forIn [c] true fun c r => if r = true then do let ok ← isTrue c env (eval c env); Pure.pure (ForInStep.yield ok) else Pure.pure (ForInStep.yield r)) st Q X :=
  fun A s R E rm I k x => wpAny_tests_one (h A s R E rm I k x)

abbrev cenv (scope : Scope) (cl : List (Str × Addr)) (C : Addr) (env : Env) : Env :=
  { scope := relabel scope env, locals := C, globals := env.globals, cells := cl, qual := env.qual, func := none, code := env.code, frame := env.frame, builtins := env.builtins }

theorem R_compCore {env : Env} {elt target iter : Expr} {ifs : List Expr} {scope : Scope} {pos : Pos} {cl : List (Str × Addr)} {use : Option (Value → Sem Unit)} {Q : Value → Sto → Prop}
    (hs : ∀ x, foldedSetIterable iter env x = Pure.pure x) (hclos : closureFor scope env = Pure.pure cl)
    (hkind : scope.kind = .function) (hnames : ∀ x ∈ scope.names, x.2 = .local → scope.names.lookup x.1 = some .local) (hcell : ∀ x ∈ scope.names, x.2 ≠ .cell)
    (h : Runs V n (eval iter env) st (fun x st1 => Runs V n (pyIter x) st1 (fun it st2 => ∀ D C,
      Runs V n (pyIter it) ((C, .ns []) :: (D, .list []) :: st2) (fun v s => v = it ∧ s = (C, .ns []) :: (D, .list []) :: st2) ∧
      RunsC V n (.compLoop (lcomp elt target iter ifs scope pos) 0 it (.ref D) (cenv scope cl C env)) ((C, .ns []) :: (D, .list []) :: st2)
        (fun _ st3 => match use with
          | none => ∃ l st4, SDel C (.ns l) st3 st4 ∧ Q (.ref D) st4
          | some u => Runs V n (u (.ref D)) st3 (fun _ st4 => ∃ l st5, SDel C (.ns l) st4 st5 ∧ Q .none st5))))) :
    Runs V n (comprehension (lcomp elt target iter ifs scope pos) scope env (firstIterPos [⟨target, iter, ifs, 0⟩] pos) (newList []) false (eval iter env) use) st Q X := fun A s R E rm I k _ => by
  refine wpAny_comprehension_free (g := ⟨target, iter, ifs, 0⟩) (gs := []) rfl hs hclos hkind hnames ?_
  refine h A s _ E rm I (fun x s1 st1 I1 h1 => ?_) fun _ _ _ _ q => q.elim
  refine h1 A s1 _ E rm I1 (fun it s2 st2 I2 h2 => ?_) fun _ _ _ _ q => q.elim
  refine wpAny_newObj_type ?_
  have I3 : Inv V { s2 with heap := s2.heap.push { cls := .type "list", data := .seq ([] : List Value).toArray } } ((s2.heap.objs.size, .list []) :: st2) := I2.ath (I2.st.alloc (e := .list []) rfl ⟨_, rfl⟩)
  refine wpAny_newFunctionEnv hcell (by intro y hy; simp at hy) (fun h₁ hns₁ hsb₁ => ?_) hkind
  generalize hH : s2.heap.push { cls := .type "list", dict := none, data := .seq ([] : List Value).toArray } = H2 at *
  dsimp only at hns₁ hsb₁ ⊢
  have I4 : Inv V { s2 with heap := h₁, toks := s2.toks + ([] : List (Str × Value)).length } ((H2.objs.size, .ns []) :: (s2.heap.objs.size, .list []) :: st2) := by
    have keep : ∀ b o, H2.get? b = some o → h₁.get? b = some o := fun b o e => hsb₁.extBut b o (Nat.ne_of_lt (Heap.lt_size e)) (Heap.get?_push_of_some _ e)
    exact I2.at (I3.st.push keep (get?_size_none _) (is_ns hns₁ (fun p hp => nomatch hp) List.nodup_nil))
  obtain ⟨hself, hloop⟩ := h2 s2.heap.objs.size H2.objs.size
  have fin : codeAny (model PySem.Challenge.rw_ti0058_01.row.prog V.w) A (.compLoop (lcomp elt target iter ifs scope pos) 0 it (.ref s2.heap.objs.size) (cenv scope cl H2.objs.size env)) (compPost (model PySem.Challenge.rw_ti0058_01.row.prog V.w) A E use R (.ref s2.heap.objs.size) H2.objs.size) { s2 with heap := h₁, toks := s2.toks + ([] : List (Str × Value)).length } := by
    refine hloop A _ _ rm I4 fun f s5 st3 I5 q => ?_
    cases use with
    | none =>
      obtain ⟨l, st4, hd, q⟩ := q
      obtain ⟨m, hn, _⟩ := I5.st.ns hd.mem
      exact ⟨m, hn, fun h' hb => k _ _ _ (I5.ath (I5.st.del hd fun b o hb' e => hb.extBut b o hb' e) hd.flr) q⟩
    | some u =>
      refine q A s5 _ E rm I5 (fun _ s6 st4 I6 q => ?_) fun _ _ _ _ q => q.elim
      obtain ⟨l, st5, hd, q⟩ := q
      obtain ⟨m, hn, _⟩ := I6.st.ns hd.mem
      exact ⟨m, hn, fun h' hb => k _ _ _ (I6.ath (I6.st.del hd fun b o hb' e => hb.extBut b o hb' e) hd.flr) q⟩
  refine codeAny_compStart_list fin ?_
  refine hself A _ _ _ rm I4 (fun v s5 st5 I5 q => ?_) fun _ _ _ _ q => q.elim
  obtain ⟨rfl, rfl⟩ := q
  refine hloop A _ _ rm I5 fun f s5 st3 I5 q => ?_
  cases use with
  | none =>
    obtain ⟨l, st4, hd, q⟩ := q
    obtain ⟨m, hn, _⟩ := I5.st.ns hd.mem
    exact ⟨m, hn, fun h' hb => k _ _ _ (I5.ath (I5.st.del hd fun b o hb' e => hb.extBut b o hb' e) hd.flr) q⟩
  | some u =>
    refine q A s5 _ E rm I5 (fun _ s6 st4 I6 q => ?_) fun _ _ _ _ q => q.elim
    obtain ⟨l, st5, hd, q⟩ := q
    obtain ⟨m, hn, _⟩ := I6.st.ns hd.mem
    exact ⟨m, hn, fun h' hb => k _ _ _ (I6.ath (I6.st.del hd fun b o hb' e => hb.extBut b o hb' e) hd.flr) q⟩

end
end Mine
end

section
set_option linter.unusedVariables false
namespace Mine
open PySem PySem.W PyProof.Rows PySem.Calls PySem.Spec

section
variable {V : Cx} {n : Nat} {α β : Type} {st : Sto} {X : Value → Sto → Prop}

theorem Inv.kin {s : Shared} (I : Inv V s st) : (hd.heap_1 V.w.params).In s.heap := fun _ _ e => I.st.old _ _ (I.ok.kin _ _ e)

/-- a call of a value that stands in the written part (a def, a class) -/
theorem R_cwK {env : Env} {f : Value} {first : List Value} {pos : Pos} {e : Expr} {rest : List Expr} {Q : Value → Sto → Prop} (hk : keepIn (hd.heap_1 V.w.params) f = true)
    (h : Runs V n (spliced (backTo pos (starEach (e :: rest) env))) st (fun vs st1 => Runs V n (call f (first ++ vs)) st1 Q X) X)
    (he : starEach (e :: rest) env = (false, eval e env) :: starEach rest env) (hp : (backTo pos (starEach rest env)).any (·.1) = false) :
    Runs V n (callWith pos f first (backTo pos (starEach (e :: rest) env)) []) st Q X := fun A s R E rm I k x =>
  callWith_K I.kin hk (h A s _ E rm I (fun vs s1 st1 I1 h1 => ⟨I1.kin, h1 A s1 R E rm I1 k x⟩) x) he hp
theorem R_cwK0 {env : Env} {f : Value} {first : List Value} {pos : Pos} {Q : Value → Sto → Prop} (hk : keepIn (hd.heap_1 V.w.params) f = true)
    (h : Runs V n (call f (first ++ [])) st Q X) : Runs V n (callWith pos f first (backTo pos (starEach [] env)) []) st Q X := fun A s R E rm I k x =>
  callWith_K0 I.kin hk (h A s R E rm I k x)
theorem machine_builtin {M : Model} (id : String) : ∀ h : Heap, True → ∃ k, (k = Keeper.frame ∨ k = Keeper.machine ∨ k = Keeper.boundFrame) ∧ Looks M h (keeperOf (.builtin id)) k :=
  fun _ _ => ⟨.machine, .inr (.inl rfl), Looks.now⟩
theorem machine_type {M : Model} (id : String) : ∀ h : Heap, True → ∃ k, (k = Keeper.frame ∨ k = Keeper.machine ∨ k = Keeper.boundFrame) ∧ Looks M h (keeperOf (.type id)) k :=
  fun _ _ => ⟨.machine, .inr (.inl rfl), Looks.now⟩
theorem R_cwB {env : Env} {id : String} {first : List Value} {pos : Pos} {e : Expr} {rest : List Expr} {Q : Value → Sto → Prop}
    (h : Runs V n (spliced (backTo pos (starEach (e :: rest) env))) st (fun vs st1 => Runs V n (call (.builtin id) (first ++ vs)) st1 Q X) X)
    (he : starEach (e :: rest) env = (false, eval e env) :: starEach rest env) (hp : (backTo pos (starEach rest env)).any (·.1) = false) :
    Runs V n (callWith pos (.builtin id) first (backTo pos (starEach (e :: rest) env)) []) st Q X := fun A s R E rm I k x => by
  have h' := h A s (fun vs s1 => True ∧ wpAny (model PySem.Challenge.rw_ti0058_01.row.prog V.w) A (call (.builtin id) (first ++ vs)) R E s1) E rm I (fun vs s1 st1 I1 h1 => ⟨trivial, h1 A s1 R E rm I1 k x⟩) x
  rw [he] at h' ⊢
  exact PySem.W.callWith_of (by show ((false || (backTo pos (starEach rest env)).any (·.1)) || false) = false; rw [hp]; rfl) (machine_builtin id) (evalArgs_plain h')
theorem R_cwB0 {env : Env} {id : String} {first : List Value} {pos : Pos} {Q : Value → Sto → Prop}
    (h : Runs V n (call (.builtin id) (first ++ [])) st Q X) : Runs V n (callWith pos (.builtin id) first (backTo pos (starEach [] env)) []) st Q X := fun A s R E rm I k x =>
  PySem.W.callWith_of rfl (machine_builtin id) (evalArgs_nil3 ⟨trivial, h A s R E rm I k x⟩)
theorem R_cwT {env : Env} {id : String} {pos : Pos} {e : Expr} {rest : List Expr} {Q : Value → Sto → Prop}
    (h : Runs V n (spliced (backTo pos (starEach (e :: rest) env))) st (fun vs st1 => Runs V n (call (.type id) vs) st1 Q X) X)
    (he : starEach (e :: rest) env = (false, eval e env) :: starEach rest env) (hp : (backTo pos (starEach rest env)).any (·.1) = false) :
    Runs V n (callWith pos (.type id) [] (backTo pos (starEach (e :: rest) env)) []) st Q X := fun A s R E rm I k x => by
  have h' := h A s (fun vs s1 => True ∧ wpAny (model PySem.Challenge.rw_ti0058_01.row.prog V.w) A (call (.type id) ([] ++ vs)) R E s1) E rm I (fun vs s1 st1 I1 h1 => ⟨trivial, h1 A s1 R E rm I1 k x⟩) x
  rw [he] at h' ⊢
  exact PySem.W.callWith_of (by show ((false || (backTo pos (starEach rest env)).any (·.1)) || false) = false; rw [hp]; rfl) (machine_type id) (evalArgs_plain h')
theorem R_Call {env : Env} {x : Str} {p pos : Pos} {args : List Expr} {Q : Value → Sto → Prop} (h : Runs V n (eval (.Name x p) env) st (fun f st1 => Runs V n (callWith pos f [] (backTo pos (starEach args env)) []) st1 Q X) X) :
    Runs V n (eval (.Call (.Name x p) args [] pos) env) st Q X := fun A s R E rm I k e =>
  wpAny_Call_Name_kw (h A s _ E rm I (fun f s1 st1 I1 h1 => h1 A s1 R E rm I1 k e) e)
/-- a method of a text or a list, that takes what it takes by place -/
theorem R_methS {env : Env} {o : Expr} {name : Str} {apos pos : Pos} {args : List Expr} {id : String} {Q : Value → Sto → Prop}
    (slot : Slot "str" name id) (hty : typeOf (.builtin id) = Pure.pure (.type "method_descriptor"))
    (h : Runs V n (eval o env) st (fun v st1 => ∃ x t, v = .str x t ∧ Runs V n (callWith pos (.builtin id) [v] (backTo pos (starEach args env)) []) st1 Q X) X)
    (hbase : attributeBase o name env (eval o env) = eval o env)
    (hfew : ((backTo pos (starEach args env)).all (fun x => !x.1) && (backToKw pos (keywordEach [] env)).all (fun x => x.1.isSome) && decide (args.length + ([] : List Keyword).length + (if ([] : List Keyword).isEmpty then 0 else 1) < 30)) = true)
    (hline : (apos.endLine == pos.line) = true) : Runs V n (eval (.Call (.Attribute o name apos) args [] pos) env) st Q X := fun A s R E rm I k e =>
  wpAny_Call_method hbase hfew hline PySem.F.plainAttrs_str slot hty (h A s _ E rm I (fun v s1 st1 I1 h1 => by
    obtain ⟨x, t, rfl, h1⟩ := h1
    exact ⟨rfl, fun _ q => (nomatch q), h1 A s1 R E rm I1 k e⟩) e)
theorem R_methL {env : Env} {o : Expr} {name : Str} {apos pos : Pos} {args : List Expr} {id : String} {Q : Value → Sto → Prop}
    (slot : Slot "list" name id) (hty : typeOf (.builtin id) = Pure.pure (.type "method_descriptor"))
    (h : Runs V n (eval o env) st (fun v st1 => ∃ l vs, v = .ref l ∧ (l, En.list vs) ∈ st1 ∧ Runs V n (callWith pos (.builtin id) [v] (backTo pos (starEach args env)) []) st1 Q X) X)
    (hbase : attributeBase o name env (eval o env) = eval o env)
    (hfew : ((backTo pos (starEach args env)).all (fun x => !x.1) && (backToKw pos (keywordEach [] env)).all (fun x => x.1.isSome) && decide (args.length + ([] : List Keyword).length + (if ([] : List Keyword).isEmpty then 0 else 1) < 30)) = true)
    (hline : (apos.endLine == pos.line) = true) : Runs V n (eval (.Call (.Attribute o name apos) args [] pos) env) st Q X := fun A s R E rm I k e =>
  wpAny_Call_method hbase hfew hline PySem.F.plainAttrs_list slot hty (h A s _ E rm I (fun v s1 st1 I1 h1 => by
    obtain ⟨l, vs, rfl, hm, h1⟩ := h1
    refine ⟨(I1.st.list hm).typeIs, fun a q => ?_, h1 A s1 R E rm I1 k e⟩
    cases q
    obtain ⟨o', eo, m, hq⟩ := I1.st.has _ hm
    exact ⟨_, eo, by rw [hq]⟩) e)
theorem R_append {l : Addr} {vs : List Value} {x : Value} {st' : Sto} {Q : Value → Sto → Prop} (hs : SSet l (.list vs) (.list (vs ++ [x])) st st') (hz : vs.length ≤ 1000000) (h : Q .none st') : Runs V n (call (.builtin "list.append") [.ref l, x]) st Q X :=
  fun A s R E rm I k _ => by
    obtain ⟨o, e, m, q⟩ := I.st.has _ hs.mem
    refine wpAny_list_append_plain (items := vs.toArray) ⟨m, by rw [← q]; exact e⟩ (fun h' hp hb => k _ _ _ (I.ath (I.st.turn hs (fun b o hb' e => hb.extBut b o hb' e) ?_)) h) (by show vs.toArray.size ≤ 2 ^ 24; simp; omega)
    obtain ⟨m', e'⟩ := hp
    exact ⟨_, e', m', by simp⟩
theorem R_Expr {env : Env} {e : Expr} {pos : Pos} {Q : Flow → Sto → Prop} (h : Runs V n (eval e env) st (fun v st' => v = .none ∧ Q .next st') X) (hi : interactive env = false) (hs : swapsWith e none pos.line env = Pure.pure false) :
    Runs V n (exec (.Expr e pos) env) st Q X := fun A s R E rm I k x =>
  wpAny_Expr (h A s _ E rm I (fun v s1 st1 I1 q => by obtain ⟨rfl, q⟩ := q; exact k _ _ _ I1 q) x) hi hs

-- subscripts
theorem R_subscr {env : Env} {value slice : Expr} {pos : Pos} {Q : Value → Sto → Prop} (h : Runs V n (eval value env) st (fun o st1 => Runs V n (eval slice env) st1 (fun i st2 => Runs V n (subscriptTail value slice o i) st2 Q X) X) X) :
    Runs V n (eval (.Subscript value slice pos) env) st Q X := fun A s R E rm I k x =>
  PyProof.Rows.Subscript_ (h A s _ E rm I (fun o s1 st1 I1 h1 => h1 A s1 _ E rm I1 (fun i s2 st2 I2 h2 => h2 A s2 R E rm I2 k x) x) x)
theorem R_item_list {value slice : Expr} {l : Addr} {vs : List Value} {i : Int} {t : Tok} {x : Value} {Q : Value → Sto → Prop} (hm : (l, En.list vs) ∈ st) (h0 : 0 ≤ i) (h1 : i < 1000000) (hx : vs[i.toNat]? = some x) (h : Q x st)
    (hs : subscripted slice false (.ref l) (.int i t) = operate [.ref l, .int i t] (getItem (.ref l) (.int i t))) : Runs V n (subscriptTail value slice (.ref l) (.int i t)) st Q X := fun _ _ _ _ _ I k _ =>
  tail_any (I.st.list hm).typeIs slot_list_getitem.lookup (wpAny_getItem_list (I.st.list hm) h0 (by omega) (by simpa using hx) (k _ _ _ I h)) hs
theorem R_item_tup {value slice : Expr} {l : Addr} {vs : List Value} {i : Int} {t : Tok} {j : Nat} {x : Value} {Q : Value → Sto → Prop} (hm : (l, En.tup vs) ∈ st) (h0 : 0 ≤ i) (h1 : i < 1000000) (hj : seqIndex? i vs.length = some j) (hx : vs[j]? = some x) (h : Q x st)
    (hs : subscripted slice false (.ref l) (.int i t) = operate [.ref l, .int i t] (getItem (.ref l) (.int i t))) : Runs V n (subscriptTail value slice (.ref l) (.int i t)) st Q X := fun _ _ _ _ _ I k _ =>
  item_tupleT (I.st.tup hm) (by omega) (by omega) hj hx (k _ _ _ I h) hs
theorem R_eval_slice {env : Env} {lo hi stp : Option Expr} {p : Pos} {Q : Value → Sto → Prop} (h : Runs V n (valueOrNone (evalOpt lo env)) st (fun l st1 => Runs V n (valueOrNone (evalOpt hi env)) st1 (fun u st2 => Runs V n (valueOrNone (evalOpt stp env)) st2 (fun z st3 =>
      ∀ a, Q (.ref a) ((a, .fl "slice" [l, u, z]) :: st3)) X) X) X) : Runs V n (eval (.Slice lo hi stp p) env) st Q X := fun A s R E rm I k x =>
  wpAny_Slice (h A s _ E rm I (fun l s1 st1 I1 h1 => h1 A s1 _ E rm I1 (fun u s2 st2 I2 h2 => h2 A s2 _ E rm I2 (fun z s3 st3 I3 q =>
    k _ _ _ (I3.ath (I3.st.alloc (e := .fl "slice" [l, u, z]) rfl ⟨rfl, rfl⟩)) (q _)) x) x) x)
theorem R_von_none {env : Env} {Q : Value → Sto → Prop} (h : Q .none st) : Runs V n (valueOrNone (evalOpt none env)) st Q X := Runs.pure h
theorem R_von_some {env : Env} {e : Expr} {Q : Value → Sto → Prop} (h : Runs V n (eval e env) st Q X) : Runs V n (valueOrNone (evalOpt (some e) env)) st Q X := h
end
end Mine
end

section
set_option linter.unusedVariables false
namespace Mine
open PySem PySem.W PyProof.Rows PySem.Calls PySem.Spec

def noDup : List Str → Bool
  | [] => true
  | x :: r => (r.all fun y => !(y == x)) && noDup r
theorem nodup_of : ∀ {l : List Str}, noDup l = true → l.Nodup
  | [], _ => List.nodup_nil
  | x :: r, h => by
    unfold noDup at h
    rw [Bool.and_eq_true] at h
    refine List.nodup_cons.mpr ⟨fun q => ?_, nodup_of h.2⟩
    have := List.all_eq_true.mp h.1 x q
    simp at this

/-- a store that says no more -/
inductive SLe : Sto → Sto → Prop
  | refl {r : Sto} : SLe r r
  | skip {p : Addr × En} {r r' : Sto} : SLe r r' → SLe (p :: r) r'
  | keep {p : Addr × En} {r r' : Sto} : SLe r r' → SLe (p :: r) (p :: r')
  | ns0 {a : Addr} {l : List (Str × Value)} {r r' : Sto} : SLe r r' → SLe ((a, .ns l) :: r) ((a, .ns []) :: r')
  | ns {a : Addr} {l l' : List (Str × Value)} {r r' : Sto} : List.Sublist l' l → SLe r r' → SLe ((a, .ns l) :: r) ((a, .ns l') :: r')
  | perm {r r' r'' : Sto} : List.Perm r r' → SLe r' r'' → SLe r r''
  | trans {r r' r'' : Sto} : SLe r r' → SLe r' r'' → SLe r r''
theorem SLe.le {B h : Heap} {st st' : Sto} (x : SLe st st') (S : St B h st) : St B h st' := by
  have key : ∀ (st st' : Sto), SLe st st' → ((∀ p ∈ st', ∃ q ∈ st, q.1 = p.1 ∧ ∀ o, q.2.Is o → p.2.Is o) ∧ ((st.map (·.1)).Nodup → (st'.map (·.1)).Nodup)) := by
    intro st st' x
    induction x with
    | refl => exact ⟨fun p hp => ⟨p, hp, rfl, fun _ q => q⟩, id⟩
    | skip _ ih => exact ⟨fun p hp => let ⟨q, a, b⟩ := ih.1 p hp; ⟨q, List.mem_cons_of_mem _ a, b⟩, fun nd => ih.2 (by rw [List.map_cons] at nd; exact (List.nodup_cons.mp nd).2)⟩
    | keep _ ih =>
      refine ⟨fun p hp => ?_, fun nd => ?_⟩
      · rcases List.mem_cons.mp hp with rfl | hp
        · exact ⟨_, List.mem_cons_self, rfl, fun _ q => q⟩
        · obtain ⟨q, a, b⟩ := ih.1 p hp
          exact ⟨q, List.mem_cons_of_mem _ a, b⟩
      · rw [List.map_cons] at nd ⊢
        obtain ⟨n1, n2⟩ := List.nodup_cons.mp nd
        refine List.nodup_cons.mpr ⟨fun q => n1 ?_, ih.2 n2⟩
        obtain ⟨p, hp, e⟩ := List.mem_map.mp q
        obtain ⟨q', a, b, _⟩ := ih.1 p hp
        exact List.mem_map.mpr ⟨q', a, b.trans e⟩
    | ns0 _ ih =>
      refine ⟨fun p hp => ?_, fun nd => ?_⟩
      · rcases List.mem_cons.mp hp with rfl | hp
        · exact ⟨_, List.mem_cons_self, rfl, fun o q => ⟨List.nodup_nil, let ⟨_, es, ep, a, b, _⟩ := q; ⟨es, ep, a, b, fun _ hp => (nomatch hp)⟩⟩⟩
        · obtain ⟨q, a, b⟩ := ih.1 p hp
          exact ⟨q, List.mem_cons_of_mem _ a, b⟩
      · rw [List.map_cons] at nd ⊢
        obtain ⟨n1, n2⟩ := List.nodup_cons.mp nd
        refine List.nodup_cons.mpr ⟨fun q => n1 ?_, ih.2 n2⟩
        obtain ⟨p, hp, e⟩ := List.mem_map.mp q
        obtain ⟨q', a, b, _⟩ := ih.1 p hp
        exact List.mem_map.mpr ⟨q', a, b.trans e⟩
    | ns hs _ ih =>
      refine ⟨fun p hp => ?_, fun nd => ?_⟩
      · rcases List.mem_cons.mp hp with rfl | hp
        · exact ⟨_, List.mem_cons_self, rfl, fun o q => ⟨(hs.map _).nodup q.1, let ⟨_, es, ep, a, b, c⟩ := q; ⟨es, ep, a, b, fun p hp => c p (hs.subset hp)⟩⟩⟩
        · obtain ⟨q, a, b⟩ := ih.1 p hp
          exact ⟨q, List.mem_cons_of_mem _ a, b⟩
      · rw [List.map_cons] at nd ⊢
        obtain ⟨n1, n2⟩ := List.nodup_cons.mp nd
        refine List.nodup_cons.mpr ⟨fun q => n1 ?_, ih.2 n2⟩
        obtain ⟨p, hp, e⟩ := List.mem_map.mp q
        obtain ⟨q', a, b, _⟩ := ih.1 p hp
        exact List.mem_map.mpr ⟨q', a, b.trans e⟩
    | perm hp _ ih =>
      exact ⟨fun p h => let ⟨q, a, b⟩ := ih.1 p h; ⟨q, hp.mem_iff.mpr a, b⟩, fun nd => ih.2 ((hp.map _).nodup_iff.mp nd)⟩
    | trans _ _ ih1 ih2 =>
      exact ⟨fun p h => let ⟨q, a, b, c⟩ := ih2.1 p h; let ⟨q', a', b', c'⟩ := ih1.1 q a; ⟨q', a', b'.trans b, fun o z => c o (c' o z)⟩, fun nd => ih2.2 (ih1.2 nd)⟩
  obtain ⟨k1, k2⟩ := key _ _ x
  exact ⟨S.old, fun p hp => let ⟨q, a, b, c⟩ := k1 p hp; let ⟨o, e, i⟩ := S.has q a; ⟨o, by rw [← b]; exact e, c o i⟩, fun p hp => let ⟨q, a, b, _⟩ := k1 p hp; by rw [← b]; exact S.new q a, k2 S.nd⟩
theorem SLe.flr {st st' : Sto} (x : SLe st st') : Mine.flr st' ≤ Mine.flr st := by
  induction x with
  | refl => exact Nat.le_refl _
  | skip _ ih => simp only [Mine.flr]; omega
  | keep _ ih => simp only [Mine.flr]; omega
  | ns0 _ ih => simp only [Mine.flr, flr1]; omega
  | ns _ _ ih => simp only [Mine.flr, flr1]; omega
  | perm hp _ ih => exact Nat.le_trans ih (flr_le (flr_pos _) fun p h => flr_mem (hp.mem_iff.mpr h))
  | trans _ _ ih1 ih2 => exact Nat.le_trans ih2 ih1
theorem Inv.le {V : Cx} {s : Shared} {st st' : Sto} (I : Inv V s st) (h : SLe st st') : Inv V s st' := ⟨I.ok, Nat.le_trans h.flr I.fl, h.le I.st, I.gp, I.dr, I.os⟩

theorem SSet.app {a : Addr} {e e' : En} {r r' : Sto} (h : SSet a e e' r r') : ∀ {l : Sto}, SSet a e e' (l ++ r) (l ++ r')
  | [] => h
  | _ :: l => .there (SSet.app h (l := l))
theorem SDel.app {a : Addr} {e : En} {r r' : Sto} (h : SDel a e r r') : ∀ {l : Sto}, SDel a e (l ++ r) (l ++ r')
  | [] => h
  | _ :: l => .there (SDel.app h (l := l))

section
variable {V : Cx} {n : Nat} {α β : Type} {st : Sto} {X : Value → Sto → Prop}

theorem Runs.le {t : Sem α} {Q : α → Sto → Prop} {st' : Sto} (h : Runs V n t st' Q X) (hs : SLe st st') : Runs V n t st Q X :=
  fun A s R E r I k x => h A s R E r (I.le hs) k x
theorem RunsC.le {c : Code} {Q : Flow → Sto → Prop} {st' : Sto} (h : RunsC V n c st' Q) (hs : SLe st st') : RunsC V n c st Q := fun A s R rm I k => h A s R rm (I.le hs) k
/-- a post that may forget -/
theorem Runs.post {t : Sem α} {Q : α → Sto → Prop} (h : Runs V n t st (fun a st' => ∃ st'', SLe st' st'' ∧ Q a st'') X) : Runs V n t st Q X :=
  fun A s R E r I k x => h A s R E r I (fun a s' st' I' q => let ⟨_, hs, q⟩ := q; k a s' _ (I'.le hs) q) x
theorem RunsC.post {c : Code} {Q : Flow → Sto → Prop} (h : RunsC V n c st (fun a st' => ∃ st'', SLe st' st'' ∧ Q a st'')) : RunsC V n c st Q :=
  fun A s R r I k => h A s R r I (fun a s' st' I' q => let ⟨_, hs, q⟩ := q; k a s' _ (I'.le hs) q)

theorem R_fn {name qual : Str} {params : Arguments} {body : List Stmt} {scope : Scope} {dV kV doc pm cdv ct oc : Value} {an od : Option Addr} {osl : Array (Option Value)} {f : Addr} {vals : List Value} {Q : Value → Sto → Prop}
    (binds : List (Str × Value)) (l : List (Str × Value)) (cv : List (Str × Option Value))
    (ho : (hd.heap_1 V.w.params).lookup f = some ⟨oc, od, .func (fnOf name qual params body scope dV kV doc pm an cdv ct), osl⟩) (hcd : codeIn (hd.heap_1 V.w.params) cdv qual = true)
    (hbind : bindArgs (fnOf name qual params body scope dV kV doc pm an cdv ct) ⟨vals, []⟩ = Pure.pure binds) (hnd : noDup (binds.map (·.1)) = true)
    (hkind : (binds.all fun y => scope.names.lookup y.1 == some .local || scope.names.lookup y.1 == some .cell) = true)
    (hl : binds.filter (fun p => scope.names.lookup p.1 == some .local) = l)
    (hcv : ((cellNames scope.names).reverse.map fun x => (x, bindC (fun y => scope.names.lookup y) binds (fun _ => none) x)) = cv)
    (hcn : noDup (cellNames scope.names) = true)
    (hco : scope.isCoroutine = false) (hgen : scope.isGenerator = false) (hk : scope.kind = .function)
    (h : ∀ L cl, cl.map (·.1) = cv.map (·.1) → Runs V n (execs body (fenv scope L cl (qual ++ ".<locals>.") f cdv)) ((L, .ns l) :: ((cl.zip cv).map (fun q => (q.1.2, En.cell q.2.2)) ++ st))
      (fun fl st' => ∃ st'', SLe st' st'' ∧ Q (retOf fl) st'')) : Runs V (n + 1) (call (.ref f) vals) st Q X :=
  Runs.post (R_call l cv ho hcd hbind (nodup_of hnd) hkind hl.symm hcv.symm (nodup_of hcn) (fun L cl e => (h L cl e).mono fun _ st' q => ⟨st', List.Sublist.refl _, q⟩) hco hgen hk)
/-- no cells -/
theorem R_fn0 {name qual : Str} {params : Arguments} {body : List Stmt} {scope : Scope} {dV kV doc pm cdv ct oc : Value} {an od : Option Addr} {osl : Array (Option Value)} {f : Addr} {vals : List Value} {Q : Value → Sto → Prop}
    (binds : List (Str × Value))
    (ho : (hd.heap_1 V.w.params).lookup f = some ⟨oc, od, .func (fnOf name qual params body scope dV kV doc pm an cdv ct), osl⟩) (hcd : codeIn (hd.heap_1 V.w.params) cdv qual = true)
    (hbind : bindArgs (fnOf name qual params body scope dV kV doc pm an cdv ct) ⟨vals, []⟩ = Pure.pure binds) (hnd : noDup (binds.map (·.1)) = true)
    (hkind : (binds.all fun y => scope.names.lookup y.1 == some .local || scope.names.lookup y.1 == some .cell) = true)
    (hl : binds.filter (fun p => scope.names.lookup p.1 == some .local) = binds)
    (hcn : cellNames scope.names = [])
    (hco : scope.isCoroutine = false) (hgen : scope.isGenerator = false) (hk : scope.kind = .function)
    (h : ∀ L, Runs V n (execs body (fenv scope L [] (qual ++ ".<locals>.") f cdv)) ((L, .ns binds) :: st) (fun fl st' => ∃ st'', SLe st' st'' ∧ Q (retOf fl) st'')) : Runs V (n + 1) (call (.ref f) vals) st Q X := by
  refine R_fn binds binds [] ho hcd hbind hnd hkind hl (by rw [hcn]; rfl) (by rw [hcn]; rfl) hco hgen hk fun L cl e => ?_
  have : cl = [] := by cases cl with | nil => rfl | cons _ _ => simp at e
  subst this
  exact h L
/-- one cell -/
theorem R_fn1 {name qual : Str} {params : Arguments} {body : List Stmt} {scope : Scope} {dV kV doc pm cdv ct oc : Value} {an od : Option Addr} {osl : Array (Option Value)} {f : Addr} {vals : List Value} {Q : Value → Sto → Prop}
    (binds l : List (Str × Value)) (x : Str) (v : Option Value)
    (ho : (hd.heap_1 V.w.params).lookup f = some ⟨oc, od, .func (fnOf name qual params body scope dV kV doc pm an cdv ct), osl⟩) (hcd : codeIn (hd.heap_1 V.w.params) cdv qual = true)
    (hbind : bindArgs (fnOf name qual params body scope dV kV doc pm an cdv ct) ⟨vals, []⟩ = Pure.pure binds) (hnd : noDup (binds.map (·.1)) = true)
    (hkind : (binds.all fun y => scope.names.lookup y.1 == some .local || scope.names.lookup y.1 == some .cell) = true)
    (hl : binds.filter (fun p => scope.names.lookup p.1 == some .local) = l)
    (hcn : cellNames scope.names = [x]) (hcv : bindC (fun y => scope.names.lookup y) binds (fun _ => none) x = v)
    (hco : scope.isCoroutine = false) (hgen : scope.isGenerator = false) (hk : scope.kind = .function)
    (h : ∀ L c, Runs V n (execs body (fenv scope L [(x, c)] (qual ++ ".<locals>.") f cdv)) ((L, .ns l) :: (c, .cell v) :: st) (fun fl st' => ∃ st'', SLe st' st'' ∧ Q (retOf fl) st'')) : Runs V (n + 1) (call (.ref f) vals) st Q X := by
  refine R_fn binds l [(x, v)] ho hcd hbind hnd hkind hl (by rw [hcn, ← hcv]; rfl) (by rw [hcn]; rfl) hco hgen hk fun L cl e => ?_
  match cl, e with
  | [(y, c)], e =>
    have e' : y = x := by simpa using e
    subst e'
    exact h L c
/-- two cells -/
theorem R_fn2 {name qual : Str} {params : Arguments} {body : List Stmt} {scope : Scope} {dV kV doc pm cdv ct oc : Value} {an od : Option Addr} {osl : Array (Option Value)} {f : Addr} {vals : List Value} {Q : Value → Sto → Prop}
    (binds l : List (Str × Value)) (x y : Str) (v u : Option Value)
    (ho : (hd.heap_1 V.w.params).lookup f = some ⟨oc, od, .func (fnOf name qual params body scope dV kV doc pm an cdv ct), osl⟩) (hcd : codeIn (hd.heap_1 V.w.params) cdv qual = true)
    (hbind : bindArgs (fnOf name qual params body scope dV kV doc pm an cdv ct) ⟨vals, []⟩ = Pure.pure binds) (hnd : noDup (binds.map (·.1)) = true)
    (hkind : (binds.all fun y => scope.names.lookup y.1 == some .local || scope.names.lookup y.1 == some .cell) = true)
    (hl : binds.filter (fun p => scope.names.lookup p.1 == some .local) = l)
    (hcn : cellNames scope.names = [y, x]) (hcn2 : noDup (cellNames scope.names) = true) (hcv : bindC (fun y => scope.names.lookup y) binds (fun _ => none) x = v) (hcu : bindC (fun y => scope.names.lookup y) binds (fun _ => none) y = u)
    (hco : scope.isCoroutine = false) (hgen : scope.isGenerator = false) (hk : scope.kind = .function)
    (h : ∀ L c d, Runs V n (execs body (fenv scope L [(x, c), (y, d)] (qual ++ ".<locals>.") f cdv)) ((L, .ns l) :: (c, .cell v) :: (d, .cell u) :: st) (fun fl st' => ∃ st'', SLe st' st'' ∧ Q (retOf fl) st'')) : Runs V (n + 1) (call (.ref f) vals) st Q X := by
  refine R_fn binds l [(x, v), (y, u)] ho hcd hbind hnd hkind hl (by rw [hcn, ← hcv, ← hcu]; rfl) hcn2 hco hgen hk fun L cl e => ?_
  match cl, e with
  | [(a, c), (b, d)], e =>
    have e' : a = x ∧ b = y := by simpa using e
    obtain ⟨e1, e2⟩ := e'
    subst e1; subst e2
    exact h L c d

theorem lookup_mem {γ : Type} {x : Str} {v : γ} : ∀ {l : List (Str × γ)}, l.lookup x = some v → (x, v) ∈ l
  | [], h => nomatch h
  | (y, u) :: r, hx => by
    rw [List.lookup_cons] at hx
    by_cases e : (x == y) = true
    · rw [e] at hx
      cases hx
      rw [eq_of_beq e]; exact List.mem_cons_self
    · rw [Bool.not_eq_true] at e
      rw [e] at hx
      exact List.mem_cons_of_mem _ (lookup_mem hx)
theorem R_ldL {env : Env} {l : List (Str × Value)} {x : Str} {v : Value} {Q : Value → Sto → Prop} (hk : env.scope.kind = .function) (hl : env.kindOf x = some .local)
   (hL : (env.locals, En.ns l) ∈ st) (hx : l.lookup x = some v) (h : Q v st) : Runs V n (loadName env x) st Q X := R_ldLocal hL (lookup_mem hx) h hk hl
theorem R_ldC {env : Env} {c : Addr} {x : Str} {v : Value} {Q : Value → Sto → Prop} (hk : env.scope.kind = .function) (hl : env.kindOf x = some .cell) (hc : env.cells.lookup x = some c) (hL : (c, En.cell (some v)) ∈ st) (h : Q v st) : Runs V n (loadName env x) st Q X := R_ldCell hc hL h hk hl
theorem R_ldF {env : Env} {c : Addr} {x : Str} {v : Value} {Q : Value → Sto → Prop} (hk : env.scope.kind = .function) (hl : env.kindOf x = some .free) (hn : (x == ("__classdict__" : Str)) = false) (hc : env.cells.lookup x = some c) (hL : (c, En.cell (some v)) ∈ st) (h : Q v st) : Runs V n (loadName env x) st Q X := R_ldFree hc hL h hk hl hn
theorem R_gl {env : Env} {x : Str} {v : Value} {Q : Value → Sto → Prop} {pos : Pos} (hk : env.scope.kind = .function) (hl : env.kindOf x = some .globalImplicit) (hg : env.globals = mainGlobals) (hd' : (x == ("__debug__" : Str)) = false)
    (hn : nsIn (hd.heap_1 V.w.params) mainGlobals x = some (some v)) (h : Q v st) : Runs V n (eval (.Name x pos) env) st Q X := R_ldGlobal hn h hk hl hg hd' pos
theorem R_bi {env : Env} {x : Str} {v : Value} {Q : Value → Sto → Prop} {pos : Pos} (hk : env.scope.kind = .function) (hl : env.kindOf x = some .globalImplicit) (hg : env.globals = mainGlobals) (hg2 : env.builtins = builtinsNs) (hd' : (x == ("__debug__" : Str)) = false)
    (hn : nsIn (hd.heap_1 V.w.params) mainGlobals x = some none) (hb : bootBuiltins x = some v) (hx : (x == ("__name__" : Str)) = false) (h : Q v st) : Runs V n (eval (.Name x pos) env) st Q X := R_ldBuiltin hn hb (by simpa using hx) h hk hl hg hg2 hd' pos

/-- the names of a place with one bound anew -/
def put (x : Str) (v : Value) : List (Str × Value) → List (Str × Value)
  | [] => [(x, v)]
  | (y, u) :: r => if x == y then (x, v) :: r else (y, u) :: put x v r
theorem put_mem {x : Str} {v : Value} : ∀ {l : List (Str × Value)} {p : Str × Value}, (l.map (·.1)).Nodup → p ∈ put x v l → p = (x, v) ∨ (p ∈ l ∧ p.1 ≠ x)
  | [], p, _, h => .inl (List.mem_singleton.mp h)
  | (y, u) :: r, p, nd, h => by
    unfold put at h
    rw [List.map_cons] at nd
    obtain ⟨n1, n2⟩ := List.nodup_cons.mp nd
    split at h
    · rename_i e
      have e' := eq_of_beq e
      rcases List.mem_cons.mp h with rfl | h
      · exact .inl rfl
      · refine .inr ⟨List.mem_cons_of_mem _ h, fun q => n1 ?_⟩
        rw [← e', ← q]; exact List.mem_map.mpr ⟨_, h, rfl⟩
    · rename_i e
      rcases List.mem_cons.mp h with rfl | h
      · exact .inr ⟨List.mem_cons_self, fun q => e (by rw [← q]; exact beq_self_eq_true _)⟩
      · rcases put_mem n2 h with q | ⟨a, b⟩
        · exact .inl q
        · exact .inr ⟨List.mem_cons_of_mem _ a, b⟩
theorem put_names {x : Str} {v : Value} : ∀ {l : List (Str × Value)}, ∀ z ∈ (put x v l).map (·.1), z = x ∨ z ∈ l.map (·.1)
  | [], z, h => by simp [put] at h; exact .inl h
  | (y, u) :: r, z, h => by
    unfold put at h
    split at h
    · rename_i e
      have e' := eq_of_beq e
      rw [List.map_cons] at h
      rcases List.mem_cons.mp h with rfl | h
      · exact .inl rfl
      · exact .inr (List.mem_cons_of_mem _ h)
    · rw [List.map_cons] at h
      rcases List.mem_cons.mp h with rfl | h
      · exact .inr List.mem_cons_self
      · rcases put_names z h with q | q
        · exact .inl q
        · exact .inr (List.mem_cons_of_mem _ q)
theorem put_nodup {x : Str} {v : Value} : ∀ {l : List (Str × Value)}, (l.map (·.1)).Nodup → ((put x v l).map (·.1)).Nodup
  | [], _ => by simp [put]
  | (y, u) :: r, nd => by
    unfold put
    rw [List.map_cons] at nd
    obtain ⟨n1, n2⟩ := List.nodup_cons.mp nd
    split
    · rename_i e
      have e' := eq_of_beq e
      rw [List.map_cons]
      exact List.nodup_cons.mpr ⟨by rw [e']; exact n1, n2⟩
    · rename_i e
      rw [List.map_cons]
      refine List.nodup_cons.mpr ⟨fun q => ?_, put_nodup n2⟩
      rcases put_names y q with q | q
      · exact e (by rw [q]; exact beq_self_eq_true _)
      · exact n1 q
theorem R_stL {env : Env} {l l' : List (Str × Value)} {x : Str} {v : Value} {st' : Sto} {Q : Unit → Sto → Prop} (hk : env.scope.kind = .function) (hl : env.kindOf x = some .local) (hL : SSet env.locals (.ns l) (.ns l') st st') (hp : put x v l = l') (h : Q () st') :
    Runs V n (storeName env x v) st Q X := fun _ _ _ _ _ I k _ => by
  obtain ⟨m, hn, hm, nd⟩ := I.st.ns hL.mem
  subst hp
  refine wpAny_storeName_local hl hn (fun h' hn' hs' => k _ _ _ (I.at (I.st.turn hL (fun b o hb e => hs'.extBut b o hb e) (is_ns hn' (fun p hp => ?_) (put_nodup nd)))) h) (by rw [hk]; rfl)
  rcases put_mem nd hp with rfl | ⟨q, r⟩
  · simp
  · simp only [r, if_false]; exact hm p q
theorem R_stC {env : Env} {c : Addr} {x : Str} {v : Value} {v₀ : Option Value} {st' : Sto} {Q : Unit → Sto → Prop} (hk : env.scope.kind = .function) (hl : env.kindOf x = some .cell) (hc : env.cells.lookup x = some c) (hL : SSet c (.cell v₀) (.cell (some v)) st st') (h : Q () st') :
    Runs V n (storeName env x v) st Q X := R_stCell hc hL h hl hk

-- loops, said by what holds ahead of each turn
theorem comp_ind {env : Env} {elt target iter : Expr} {ifs : List Expr} {scope : Scope} {pos : Pos} {it : Value} {D : Addr} {Q : Flow → Sto → Prop} (m : Nat) (J : Nat → Sto → Prop)
    (step : ∀ i st, i < m → J i st → Runs V n (pyNext it) st (fun r st1 => ∃ v, r = some v ∧
        Runs V n (letOwnedTupleGo target it v) st1 (fun _ st2 => Runs V n (assign target env v) st2 (fun _ st3 =>
          Runs V n (forIn ifs true fun c r => if r = true then do let ok ← isTrue c env (eval c env); Pure.pure (ForInStep.yield ok) else Pure.pure (ForInStep.yield r)) st3 (fun ok st4 =>
            (ok = true → Runs V n (eval elt env) st4 (fun x st5 => Runs V n (call (.builtin "list.append") [.ref D, x]) st5 (fun _ st6 => ∃ st7, SLe st6 st7 ∧ J (i + 1) st7))) ∧
            (ok = false → ∃ st7, SLe st4 st7 ∧ J (i + 1) st7))))))
    (fin : ∀ st, J m st → Runs V n (pyNext it) st (fun r st1 => r = none ∧ Q .next st1)) :
    ∀ k i st, i + k = m → J i st → RunsC V n (.compLoop (lcomp elt target iter ifs scope pos) 0 it (.ref D) env) st Q
  | 0, i, st, e, j => RC_comp ((fin st (by rw [← e]; exact j)).mono fun r st1 q => by obtain ⟨rfl, q⟩ := q; exact q)
  | k + 1, i, st, e, j => RC_comp ((step i st (by omega) j).mono fun r st1 q => by
      obtain ⟨v, rfl, q⟩ := q
      refine q.mono fun _ st2 q => q.mono fun _ st3 q => q.mono fun ok st4 q => ⟨fun h => (q.1 h).mono fun x st5 q => q.mono fun _ st6 q => ?_, fun h => ?_⟩
      · obtain ⟨st7, hs, j'⟩ := q
        exact (comp_ind m J step fin k (i + 1) st7 (by omega) j').le hs
      · obtain ⟨st7, hs, j'⟩ := q.2 h
        exact (comp_ind m J step fin k (i + 1) st7 (by omega) j').le hs)
theorem for_ind {env : Env} {target : Expr} {it : Value} {body : List Stmt} {Q : Flow → Sto → Prop} (m : Nat) (J : Nat → Sto → Prop)
    (step : ∀ i st, i < m → J i st → Runs V n (pyNext it) st (fun r st1 => ∃ v, r = some v ∧
        Runs V n (letOwnedTupleGo target it v) st1 (fun _ st2 => Runs V n (assign target env v) st2 (fun _ st3 => Runs V n (execs body env) st3 (fun f st4 => match f with
        | .next | .cont => ∃ st5, SLe st4 st5 ∧ J (i + 1) st5
        | .brk => Q .next st4
        | .ret v => Q (.ret v) st4)))))
    (fin : ∀ st, J m st → Runs V n (pyNext it) st (fun r st1 => r = none ∧ Q .next st1)) :
    ∀ k i st, i + k = m → J i st → RunsC V n (.forLoop target it body [] env) st Q
  | 0, i, st, e, j => RC_for ((fin st (by rw [← e]; exact j)).mono fun r st1 q => by obtain ⟨rfl, q⟩ := q; exact q)
  | k + 1, i, st, e, j => RC_for ((step i st (by omega) j).mono fun r st1 q => by
      obtain ⟨v, rfl, q⟩ := q
      refine q.mono fun _ st2 q => q.mono fun _ st3 q => q.mono fun f st4 q => ?_
      cases f with
      | next => obtain ⟨st7, hs, j'⟩ := q; exact (for_ind m J step fin k (i + 1) st7 (by omega) j').le hs
      | cont => obtain ⟨st7, hs, j'⟩ := q; exact (for_ind m J step fin k (i + 1) st7 (by omega) j').le hs
      | brk => exact q
      | ret v => exact q)
theorem while_ind {env : Env} {test : Expr} {body : List Stmt} {Q : Flow → Sto → Prop} (J : Nat → Sto → Prop)
    (step : ∀ i st, J i st → Runs V n (isTrue test env (eval test env)) st (fun b st1 => (b = true → Runs V n (execs body env) st1 (fun f st2 => f = .next ∧ ∃ st3, SLe st2 st3 ∧ ∃ i', i' < i ∧ J i' st3)) ∧ (b = false → Q .next st1))) :
    ∀ i st, J i st → RunsC V n (.whileLoop test body [] env) st Q := by
  intro i
  induction i using Nat.strongRecOn with
  | _ i ih =>
    intro st j
    refine RC_while ((step i st j).mono fun b st1 q => ⟨fun h => (q.1 h).mono fun f st2 q => ?_, q.2⟩)
    obtain ⟨rfl, st3, hs, i', hi, j'⟩ := q
    exact (ih i' hi st3 j').le hs
end
end Mine
end

section
set_option linter.unusedVariables false
namespace Mine
open PySem PySem.W PyProof.Rows PySem.Calls PySem.Spec

section
variable {V : Cx} {n : Nat} {α β : Type} {st : Sto} {X : Value → Sto → Prop}

-- more of the whole numbers
theorem R_iadd {a b : Int} {t u : Tok} {Q : Value → Sto → Prop} (h : ∀ t, Q (.int (a + b) t) st) : Runs V n (inplaceOp .Add (.int a t) (.int b u)) st Q X := fun _ _ _ _ _ I k _ => wpAny_iadd_int (k _ _ _ I.tok (h _))
theorem R_isub {a b : Int} {t u : Tok} {Q : Value → Sto → Prop} (h : ∀ t, Q (.int (a - b) t) st) : Runs V n (inplaceOp .Sub (.int a t) (.int b u)) st Q X := fun _ _ _ _ _ I k _ => isub_int (k _ _ _ I.tok (h _))
theorem R_mul {a b : Int} {t u : Tok} {Q : Value → Sto → Prop} (hb : Builtin.Int.intBits a ≤ 64) (h : ∀ t, Q (.int (a * b) t) st) : Runs V n (binaryOp .Mult (.int a t) (.int b u)) st Q X := fun _ _ _ _ _ I k _ =>
  mul_int (k _ _ _ I.tok (h _)) (IntMulOk.of_left hb)
theorem R_neg {a : Int} {t : Tok} {Q : Value → Sto → Prop} (h : ∀ t, Q (.int (-a) t) st) : Runs V n (unaryOp .USub (.int a t)) st Q X := fun _ _ _ _ _ I k _ => neg_int (k _ _ _ I.tok (h _))
theorem R_min {a b : Int} {t u : Tok} {Q : Value → Sto → Prop} (h : ∀ t, Q (.int (min a b) t) st) : Runs V n (call (.builtin "min") [.int a t, .int b u]) st Q X := Runs.tk fun _ _ _ _ rm I k _ =>
  min_two_ints rm.hd fun h' tk hk => by
    by_cases c : b < a
    · rw [if_pos c]
      have e : min a b = b := by omega
      exact fun ht => k _ _ _ ht (fun ht => I.at (I.st.keeps hk) (Nat.le_refl _) ht) (by rw [← e]; exact h _)
    · rw [if_neg c]
      have e : min a b = a := by omega
      exact fun ht => k _ _ _ ht (fun ht => I.at (I.st.keeps hk) (Nat.le_refl _) ht) (by rw [← e]; exact h _)

-- texts
theorem R_str_idx {value slice : Expr} {x : Str} {t u : Tok} {i : Int} {c : Nat} {Q : Value → Sto → Prop} (hr : (decide (i < -(2 ^ 63 : Int)) || decide (i ≥ 2 ^ 63)) = false) (hc : (seqIndex? i x.length).bind (x.cps[·]?) = some c) (h : ∀ t, Q (.str ⟨#[c]⟩ t) st)
    (hs : subscripted slice false (.str x t) (.int i u) = operate [.str x t, .int i u] (getItem (.str x t) (.int i u))) : Runs V n (subscriptTail value slice (.str x t) (.int i u)) st Q X := fun _ _ _ _ _ I k _ =>
  tail_any (T := "str") rfl PySem.F.slot_str_getitem.lookup (getItem_str hr hc (k _ _ _ I.tok (h _))) hs
/-- the part of a text -/
def cutS (x : Str) (l u : Option Int) : Str := ⟨((Builtin.Str.strSliceIndices l u 1 x.length).filterMap (x.cps[·]?)).toArray⟩
theorem R_str_slice {value : Expr} {le ue : Option Expr} {p : Pos} {x : Str} {t : Tok} {sl : Addr} {lv uv : Value} {l u : Option (Int × Tok)} {Q : Value → Sto → Prop} (hm : (sl, En.fl "slice" [lv, uv, .none]) ∈ st) (hl : lv = partValue l) (hu : uv = partValue u) (hz : (cutS x (l.map (·.1)) (u.map (·.1))).length ≤ 1000000)
    (h : ∀ y, (y = x ∧ (Builtin.Str.strSliceIndices (l.map (·.1)) (u.map (·.1)) 1 x.length).length = x.length ∨ y = cutS x (l.map (·.1)) (u.map (·.1))) → ∀ t, Q (.str y t) st) : Runs V n (subscriptTail value (.Slice le ue none p) (.str x t) (.ref sl)) st Q X := fun A s R E _ I k _ => by
  obtain ⟨o, e, c, d⟩ := I.st.fl hm
  refine tail_any (T := "str") (ops := [.ref sl, .str x t]) rfl PySem.F.slot_str_getitem.lookup (wpAny_getItem_str_slice (l := l) (u := u) (st := none) ⟨o, e, c, ?_⟩ rfl ?_) rfl
  · rw [d, hl, hu]; rfl
  · unfold sliceMade
    split
    · rename_i hh
      exact k _ _ _ I (h _ (.inl ⟨rfl, by simpa [slicePicked] using hh⟩) _)
    · simp only [Made.post]
      have hq : R (.str (cutS x (l.map fun p : Int × Tok => p.1) (u.map fun p : Int × Tok => p.1)) s.toks) { s with toks := s.toks + 1 } := k _ _ st I.tok (h _ (.inr rfl) _)
      refine ⟨?_, hq⟩
      refine Nat.le_trans (show (cutS x (l.map (·.1)) (u.map (·.1))).length ≤ 1000000 from hz) ?_
      show 1000000 ≤ 2 ^ 24
      omega
theorem R_in_ints {l : Addr} {vs : List Value} {ns : List Int} {k : Int} {t : Tok} {Q : Value → Sto → Prop} (hl : (l, En.list vs) ∈ st) (hi : IntsAre vs ns) (h : Q (.bool (ns.any (· == k))) st) : Runs V n (compareOp .In (.int k t) (.ref l)) st Q X := fun _ _ _ _ _ I k _ =>
  in_list_ints (I.st.list hl) hi (k _ _ _ I h)
theorem R_in_tup2 {l : Addr} {a b k : Int} {ta tb t : Tok} {Q : Value → Sto → Prop} (hl : (l, En.tup [.int a ta, .int b tb]) ∈ st) (h : Q (.bool (a == k || b == k)) st) : Runs V n (compareOp .In (.int k t) (.ref l)) st Q X := fun A s R E rm I k' _ => by
  refine PySem.SeqAt.in_tupleAt (fun v => match v with | .int i _ => i == k | _ => false) (I.st.tup hl) (fun y hy => ?_) (k' _ _ _ I ?_)
  · simp at hy
    rcases hy with rfl | rfl
    · exact (PySem.MeetsSeq.EqGives.int a k ta t).at _ _
    · exact (PySem.MeetsSeq.EqGives.int b k tb t).at _ _
  · simpa using h
theorem R_join {l : Addr} {vs : List Value} {ys : List Str} {x : Str} {t : Tok} {Q : Value → Sto → Prop} (hl : (l, En.list vs) ∈ st) (hi : StrsAre vs ys) (hx : x.length ≤ 16) (hw : (ys.map (·.length)).sum + ys.length ≤ 1048576) (h : ∀ t, Q (.str (Txt.join x ys) t) st) :
    Runs V n (call (.builtin "str.join") [.str x t, .ref l]) st Q X := Runs.tk fun _ _ _ _ _ I k _ =>
  join_listW (I.st.list hl) (by simpa using hi) hx hw fun t' tk ht => k _ _ _ ht (fun ht => I.tok ht) (h _)

-- lists
theorem R_list_add {l b : Addr} {vs ws : List Value} {Q : Value → Sto → Prop} (hl : (l, En.list vs) ∈ st) (hb : (b, En.list ws) ∈ st) (hz : vs.length + ws.length ≤ 1000000) (h : ∀ a, Q (.ref a) ((a, .list (vs ++ ws)) :: st)) : Runs V n (binaryOp .Add (.ref l) (.ref b)) st Q X := fun _ _ _ _ _ I k _ => by
  obtain ⟨o, ho, m, hq⟩ := I.st.has _ hl
  obtain ⟨o2, ho2, m2, hq2⟩ := I.st.has _ hb
  have hq' : o = _ := hq
  have hq2' : o2 = _ := hq2
  subst hq'
  subst hq2'
  refine concat_meets ⟨_, ho, rfl⟩ ⟨_, ho2, rfl⟩ noFill_list_add seq_list_add PySem.F.slot_list_add PySem.F.entry_list_add (PySem.F.args_list_add_2 _ _) (list_addW l b vs.toArray ws.toArray m m2 none none #[] #[] ?_) ⟨ho, ho2, ?_⟩
  · show vs.toArray.size + ws.toArray.size ≤ 2 ^ 24
    simp only [List.size_toArray]; omega
  · exact k _ _ _ (I.ath (I.st.alloc (e := .list (vs ++ ws)) rfl ⟨0, by simp⟩)) (h _)
theorem R_list_slice {value : Expr} {le ue : Option Expr} {p : Pos} {l sl : Addr} {vs : List Value} {lv uv : Value} {lo hi : Option Int} {Q : Value → Sto → Prop} (hl : (l, En.list vs) ∈ st) (hm : (sl, En.fl "slice" [lv, uv, .none]) ∈ st) (pl : IsPart lv lo) (pu : IsPart uv hi) (hz : vs.length ≤ 1000000)
    (h : ∀ a, Q (.ref a) ((a, .list (slicePick vs.toArray lo hi none).toList) :: st)) : Runs V n (subscriptTail value (.Slice le ue none p) (.ref l) (.ref sl)) st Q X := fun _ _ _ _ _ I k _ => by
  obtain ⟨o, e, c, d⟩ := I.st.fl hm
  refine tail_any (ops := [.ref sl, .ref l]) (I.st.list hl).typeIs slot_list_getitem.lookup (wpAny_getItem_list_slice (I.st.list hl) ⟨o, e, c, by rw [d]⟩ pl pu .none (by simp) (k _ _ _ (I.ath (I.st.alloc (e := .list _) rfl ⟨0, by simp⟩)) (h _)) ?_) rfl
  show vs.toArray.size ≤ 2 ^ 24
  simp only [List.size_toArray]; omega
theorem R_item_li {value slice : Expr} {l : Addr} {vs : List Value} {i : Int} {t : Tok} {x : Value} {Q : Value → Sto → Prop} (hm : (l, En.li vs) ∈ st) (h0 : 0 ≤ i) (h1 : i < 1000000) (hx : vs[i.toNat]? = some x) (h : Q x st)
    (hs : subscripted slice false (.ref l) (.int i t) = operate [.ref l, .int i t] (getItem (.ref l) (.int i t))) : Runs V n (subscriptTail value slice (.ref l) (.int i t)) st Q X := fun _ _ _ _ _ I k _ =>
  tail_any (I.st.li hm).typeIs slot_list_getitem.lookup (wpAny_getItem_list (I.st.li hm) h0 (by omega) (by simpa using hx) (k _ _ _ I h)) hs
theorem R_setItem {l : Addr} {vs : List Value} {i : Int} {t : Tok} {v : Value} {st' : Sto} {Q : Unit → Sto → Prop} (hs : SSet l (.li vs) (.li (vs.set i.toNat v)) st st') (h0 : 0 ≤ i) (h1 : i < 1000000) (hx : i.toNat < vs.length) (h : Q () st') : Runs V n (setItem (.ref l) (.int i t) v) st Q X := fun _ _ _ _ _ I k _ =>
  wpAny_setItem_list (I.st.li hs.mem) h0 (by omega) (by simp only [List.size_toArray]; omega) fun h' hl hb => k _ _ _ (I.ath (I.st.turn hs (fun b o hb' e => hb.extBut b o hb' e) (by
    obtain ⟨o, e, c, m, d⟩ := hl
    exact ⟨o, e, c, m, by rw [d]; congr 1; apply Array.ext'; simp⟩))) h
theorem R_AssignSub {env : Env} {o i value : Expr} {pos' pos : Pos} {Q : Flow → Sto → Prop}
    (h : Runs V n (eval value env) st (fun v s₁ => Runs V n (eval o env) s₁ (fun ov s₂ => Runs V n (eval i env) s₂ (fun iv s₃ => Runs V n (setItem ov iv v) s₃ (fun _ s₄ => Q .next s₄) X) X) X) X)
    (hs : swapsWith value (some (.Subscript o i pos')) pos.line env = pure false) : Runs V n (exec (.Assign [.Subscript o i pos'] value pos) env) st Q X := fun A s R E rm I k y =>
  wpAny_Assign_Subscript (h A s _ E rm I (fun v s1 st1 I1 h1 => h1 A s1 _ E rm I1 (fun ov s2 st2 I2 h2 => h2 A s2 _ E rm I2 (fun iv s3 st3 I3 h3 => h3 A s3 _ E rm I3 (fun _ s4 st4 I4 q => k _ s4 st4 I4 q) y) y) y) y) hs
theorem R_Assign2 {env : Env} {x z value : Expr} {pos : Pos} {Q : Flow → Sto → Prop}
    (h : Runs V n (eval value env) st (fun v s₁ => Runs V n (assign x env v) s₁ (fun _ s₂ => Runs V n (assign z env v) s₂ (fun _ s₃ => Q .next s₃) X) X) X)
    (he : (assignEach [x, z] env).map (·.2) = [assign x env, assign z env]) (hw : swappedStores [x, z] value env = pure none) : Runs V n (exec (.Assign [x, z] value pos) env) st Q X := fun A s R E rm I k y =>
  wpAny_Assign_two (h A s _ E rm I (fun v s1 st1 I1 h1 => h1 A s1 _ E rm I1 (fun _ s2 st2 I2 h2 => h2 A s2 _ E rm I2 (fun _ s3 st3 I3 q => k _ s3 st3 I3 q) y) y) y) he hw
theorem R_AssignTup {env : Env} {elts : List Expr} {kk : Nat} {tpos pos : Pos} {value : Expr} {Q : Flow → Sto → Prop}
    (h : Runs V n (eval value env) st (fun v s₁ => Runs V n (assign (.Tuple elts kk tpos) env v) s₁ (fun _ s₂ => Q .next s₂) X) X)
    (hs : swapsWithSole [.Tuple elts kk tpos] value pos.line env = pure false) (hw : swappedStores [.Tuple elts kk tpos] value env = pure none) : Runs V n (exec (.Assign [.Tuple elts kk tpos] value pos) env) st Q X := fun A s R E rm I k y =>
  Assign_Tuple (h A s _ E rm I (fun v s1 st1 I1 h1 => h1 A s1 _ E rm I1 (fun _ s2 st2 I2 q => k _ s2 st2 I2 q) y) y) hs hw
theorem R_AssignSwap {env : Env} {elts : List Expr} {kk : Nat} {tpos pos : Pos} {value : Expr} {names : List Str} {Q : Flow → Sto → Prop}
    (h : Runs V n (eval value env) st (fun v s₁ => ∃ t vs, v = .ref t ∧ (t, En.tup vs) ∈ s₁ ∧ vs.length = names.length ∧ Runs V n (assignInOrder (names.reverse.map fun n => bindName env n) vs.reverse) s₁ (fun _ s₂ => Q .next s₂) X) X)
    (hs : swapsWithSole [.Tuple elts kk tpos] value pos.line env = pure false) (hw : swappedStores [.Tuple elts kk tpos] value env = pure (some names)) : Runs V n (exec (.Assign [.Tuple elts kk tpos] value pos) env) st Q X := fun A s R E rm I k y =>
  Assign_Tuple_swapped (h A s _ E rm I (fun v s1 st1 I1 h1 => by
    obtain ⟨t, vs, rfl, hm, hl, h1⟩ := h1
    have ht := I1.st.tup hm
    rw [← hl, show vs.length = vs.toArray.size from (List.size_toArray).symm]
    exact wpAny_unpackItems_tuple rm.hd ht fun h' he => h1 A _ _ E rm (I1.ath (I1.st.keeps fun b o e => he b o (fun q => by subst q; rw [get?_size_none] at e; cases e) e)) (fun _ s3 st3 I3 q => k _ s3 st3 I3 q) y) y) hs hw
theorem IntsAre_app {vs : List Value} {ns : List Int} (h1 : IntsAre vs ns) {ws : List Value} {ms : List Int} (h2 : IntsAre ws ms) : IntsAre (vs ++ ws) (ns ++ ms) := by
  induction h1 with
  | nil => exact h2
  | cons x y _ ih => exact .cons x y ih
theorem IntsAre_of {f : Nat → Int} : ∀ (m : Nat) (acc : List Value), acc.length = m → (∀ (i : Nat) (v : Value), acc[i]? = some v → ∃ t, v = .int (f i) t) → IntsAre acc ((List.range m).map f)
  | 0, acc, e, _ => by rw [List.length_eq_zero_iff.mp e]; exact .nil
  | m + 1, acc, e, hv => by
    obtain ⟨ini, v, rfl⟩ : ∃ ini v, acc = ini ++ [v] := ⟨acc.dropLast, acc.getLast (by intro q; rw [q] at e; simp at e), (List.dropLast_concat_getLast _).symm⟩
    have el : ini.length = m := by simpa using e
    obtain ⟨t, rfl⟩ := hv m v (by rw [List.getElem?_append_right (by omega), el]; simp)
    rw [List.range_succ, List.map_append]
    refine IntsAre_app (IntsAre_of m ini el fun i v hi => hv i v ?_) (.cons _ t .nil)
    rw [List.getElem?_append_left (List.getElem?_eq_some_iff.mp hi).1]
    exact hi
theorem R_list_range {r : Addr} {a b c : Int} {t u v : Tok} {m : Nat} {Q : Value → Sto → Prop} (hm : (r, rangeOb a b c t u v) ∈ st) (hsmall : Builtin.Range.small a b c = true) (hn : Builtin.Range.rangeSize a b c = m) (hlen : m ≤ 1000000)
    (h : ∀ l vs, IntsAre vs ((List.range m).map fun (i : Nat) => a + i * c) → Q (.ref l) ((l, .li vs) :: st)) : Runs V n (call (.type "list") [.ref r]) st Q X := Runs.tk fun _ s _ _ rm I k _ =>
  call_list_range rm.hd (I.st.obj hm) hsmall hn (by omega) fun h' tk acc' c' hk hl hi ht =>
    k _ _ _ ht (fun ht => I.at (I.st.push (e := .li acc'.toList) hk (get?_size_none _) ⟨_, hl, rfl, c', by simp⟩) (by simp only [flr, flr1]; omega) ht) (h _ _ (IntsAre_of m acc'.toList (by simpa using hi.1) fun i v hv => hi.2 i v (by simpa using hv)))
end
end Mine
end

section
set_option linter.unusedVariables false
namespace Mine
open PySem PySem.W PyProof.Rows PySem.Calls PySem.Spec

theorem SSet.adr {a : Addr} {e e' : En} {st st' : Sto} (h : SSet a e e' st st') : st'.map (·.1) = st.map (·.1) := by
  induction h with
  | here => rfl
  | there _ ih => simp only [List.map_cons, ih]
theorem SSet.of {a : Addr} {e e' : En} {st st' : Sto} (h : SSet a e e' st st') (nd : (st.map (·.1)).Nodup) : ∀ p ∈ st', p = (a, e') ∨ (p ∈ st ∧ p.1 ≠ a) := by
  induction h with
  | here =>
    intro p hp
    rw [List.map_cons] at nd
    rcases List.mem_cons.mp hp with rfl | hp
    · exact .inl rfl
    · exact .inr ⟨List.mem_cons_of_mem _ hp, fun q => (List.nodup_cons.mp nd).1 (by rw [← q]; exact List.mem_map.mpr ⟨p, hp, rfl⟩)⟩
  | there hr ih =>
    intro p hp
    rw [List.map_cons] at nd
    obtain ⟨n1, n2⟩ := List.nodup_cons.mp nd
    rcases List.mem_cons.mp hp with rfl | hp
    · exact .inr ⟨List.mem_cons_self, fun q => n1 (by rw [q]; exact List.mem_map.mpr ⟨_, hr.mem, rfl⟩)⟩
    · rcases ih n2 p hp with q | ⟨q, r⟩
      · exact .inl q
      · exact .inr ⟨List.mem_cons_of_mem _ q, r⟩

/-- an iterator that yields (one draw), said of heaps -/
def DrawsTo (V : Cx) (i : Addr) (e e' : En) (L : Sto) (P : Nat → Nat → Value → Prop) : Prop :=
  ∀ (A : Around) (s : Shared) (R : Value → Shared → Prop) (E : Value → Shared → Prop), (∃ o, s.heap.get? i = some o ∧ e.Is o) → (∀ p ∈ L, ∃ o, s.heap.get? p.1 = some o ∧ p.2.Is o) →
    (∀ x h' tk, s.toks ≤ tk → P s.toks tk x → (∃ o, h'.get? i = some o ∧ e'.Is o) → (∀ b o, b ≠ i → s.heap.get? b = some o → h'.get? b = some o) → h'.objs.size = s.heap.objs.size → R x { s with heap := h', toks := tk }) →
    wpAny (model PySem.Challenge.rw_ti0058_01.row.prog V.w) A (Builtin.SmallTypes.nextOf (.ref i)) R E s
def DrawsEnd (V : Cx) (i : Addr) (e : En) (L : Sto) : Prop :=
  ∀ (A : Around) (s : Shared) (R : Value → Shared → Prop) (E : Value → Shared → Prop), A.handled = none → (∃ o, s.heap.get? i = some o ∧ e.Is o) → (∀ p ∈ L, ∃ o, s.heap.get? p.1 = some o ∧ p.2.Is o) →
    (∀ x h', (∀ b o, b ≠ i → s.heap.get? b = some o → h'.get? b = some o) → (∃ o, h'.get? x = some o ∧ o.cls = .type "StopIteration") → E (.ref x) { s with heap := h' }) →
    wpAny (model PySem.Challenge.rw_ti0058_01.row.prog V.w) A (Builtin.SmallTypes.nextOf (.ref i)) R E s

theorem draw_list {V : Cx} {i l : Addr} {vs : List Value} {k : Nat} {x : Value} (hx : vs[k]? = some x) :
    DrawsTo V i (.fl "list_iterator" [.ref l, .int k 0]) (.fl "list_iterator" [.ref l, .int (k + 1 : Nat) 0]) [(l, .list vs)] (fun _ _ v => v = x) := fun A s R E hi hL k' => by
  obtain ⟨o, ho, m, hd⟩ := hL _ (List.mem_singleton.mpr rfl)
  exact wpAny_nextOf_list_item hi ⟨o, ho, by rw [hd], m, by rw [hd]⟩ (by simpa using hx) fun h' a b => k' _ h' s.toks (Nat.le_refl _) rfl a (fun b' o' c e => b.extBut b' o' c e) b.1
theorem drawE_list {V : Cx} {i l : Addr} {vs : List Value} {k : Nat} (hx : vs[k]? = none) : DrawsEnd V i (.fl "list_iterator" [.ref l, .int k 0]) [(l, .list vs)] := fun A s R E hh hi hL k' => by
  obtain ⟨o, ho, m, hd⟩ := hL _ (List.mem_singleton.mpr rfl)
  exact wpAny_nextOf_list_end hh hi ⟨o, ho, by rw [hd], m, by rw [hd]⟩ (by simpa using hx) fun h' e a b => k' _ _ a b
theorem draw_str {V : Cx} {i : Addr} {x : Str} {t : Tok} {k c : Nat} (hx : x.cps[k]? = some c) :
    DrawsTo V i (.fl "str_ascii_iterator" [.str x t, .int k 0]) (.fl "str_ascii_iterator" [.str x t, .int (k + 1 : Nat) 0]) [] (fun a b v => ∃ u : Nat, v = .str ⟨#[c]⟩ u ∧ a ≤ u ∧ u < b) := fun A s R E hi hL k' =>
  wpAny_nextOf_ascii_item hi hx fun h' a b => k' _ h' _ (Nat.le_succ _) ⟨_, rfl, Nat.le_refl _, Nat.lt_succ_self _⟩ a (fun b' o' c e => b.extBut b' o' c e) b.1
theorem drawE_str {V : Cx} {i : Addr} {x : Str} {t : Tok} {k : Nat} (hx : x.cps[k]? = none) : DrawsEnd V i (.fl "str_ascii_iterator" [.str x t, .int k 0]) [] := fun A s R E hh hi hL k' =>
  wpAny_nextOf_ascii_end hh hi hx fun h' e a b => k' _ _ a b
theorem draw_tup {V : Cx} {i l : Addr} {vs : List Value} {k : Nat} {x : Value} (hx : vs[k]? = some x) :
    DrawsTo V i (.fl "tuple_iterator" [.ref l, .int k 0]) (.fl "tuple_iterator" [.ref l, .int (k + 1 : Nat) 0]) [(l, .tup vs)] (fun _ _ v => v = x) := fun A s R E hi hL k' => by
  obtain ⟨ol, hol, m, hdl⟩ := hL _ (List.mem_singleton.mpr rfl)
  have hdl : ol = _ := hdl
  subst hdl
  obtain ⟨o, ho, hc, hd⟩ := id hi
  have ht : s.TypeIs (.ref i) "tuple_iterator" := ⟨o, ho, hc⟩
  unfold Builtin.SmallTypes.nextOf
  refine wpAny_bind (wpAny_callSpecial?_slot (name := Str.ofString "__next__") ht PySem.F.slot_tuple_iterator_next
    (wpAny_call_entry PySem.F.slot_tuple_iterator_next ht PySem.F.entry_tuple_iterator_next ?_ (PySem.F.args_tuple_iterator_next_1 _)))
  show wpAny _ _ (field (.ref i) 0 >>= _) _ _ s
  refine wpAny_bind (wpAny_field ho hd (x := .ref l) rfl ?_)
  show wpAny _ _ (if (Value.ref l == Value.none) = true then _ else _) _ _ s
  rw [if_neg (show ¬ ((Value.ref l == Value.none) = true) from Bool.false_ne_true)]
  show wpAny _ _ (field (.ref i) 1 >>= _) _ _ s
  refine wpAny_bind (wpAny_field ho hd (x := .int k 0) rfl ?_)
  show wpAny _ _ (seqItems? (.ref l) >>= _) _ _ s
  refine wpAny_bind (wpAny_seqItems hol rfl ?_)
  have hx' : vs.toArray[k]? = some x := by simpa using hx
  simp only [Int.toNat_natCast, hx']
  refine wpAny_bind (wpAny_setField ho hd (by simp) (wpAny_pure ⟨x, rfl, wpAny_pure (k' _ _ s.toks (Nat.le_refl _) rfl ?_ (fun b' o' c e => (Heap.SameBut.update ..).extBut b' o' c e) (Heap.SameBut.update (a := i) ..).1)⟩))
  exact ⟨_, Heap.get?_update_self _ ho (Obj.isFreed_of_fields (Obj.data_mapFields hd _)), (Obj.cls_mapFields ..).trans hc, by
    rw [Obj.data_mapFields hd]; simp [rawInt]⟩
theorem drawE_tup {V : Cx} {i l : Addr} {vs : List Value} {k : Nat} (hx : vs[k]? = none) : DrawsEnd V i (.fl "tuple_iterator" [.ref l, .int k 0]) [(l, .tup vs)] := fun A s R E hh hi hL k' => by
  obtain ⟨ol, hol, m, hdl⟩ := hL _ (List.mem_singleton.mpr rfl)
  have hdl : ol = _ := hdl
  subst hdl
  obtain ⟨o, ho, hc, hd⟩ := id hi
  have ht : s.TypeIs (.ref i) "tuple_iterator" := ⟨o, ho, hc⟩
  unfold Builtin.SmallTypes.nextOf
  refine wpAny_bind (wpAny_callSpecial?_slot (name := Str.ofString "__next__") ht PySem.F.slot_tuple_iterator_next
    (wpAny_call_entry PySem.F.slot_tuple_iterator_next ht PySem.F.entry_tuple_iterator_next ?_ (PySem.F.args_tuple_iterator_next_1 _)))
  show wpAny _ _ (field (.ref i) 0 >>= _) _ _ s
  refine wpAny_bind (wpAny_field ho hd (x := .ref l) rfl ?_)
  show wpAny _ _ (if (Value.ref l == Value.none) = true then _ else _) _ _ s
  rw [if_neg (show ¬ ((Value.ref l == Value.none) = true) from Bool.false_ne_true)]
  show wpAny _ _ (field (.ref i) 1 >>= _) _ _ s
  refine wpAny_bind (wpAny_field ho hd (x := .int k 0) rfl ?_)
  show wpAny _ _ (seqItems? (.ref l) >>= _) _ _ s
  refine wpAny_bind (wpAny_seqItems hol rfl ?_)
  have hx' : vs.toArray[k]? = none := by simpa using hx
  simp only [Int.toNat_natCast, hx']
  refine wpAny_bind (wpAny_rule (wpAny_bind (wpAny_setField ho hd (by simp) ?_)))
  show wpAny _ _ (newExc (.type "StopIteration") [] >>= _) _ _ _
  refine wpAny_bind ?_
  simp only [newExc, newTuple]
  refine wpAny_bind (wpAny_newObj_type ?_ (by size_fits))
  refine wpAny_bind (m := firstArgMember _ _) (wpAny_of_eq (a := Value.none) (by first | rfl | (simp only [firstArgMember]; rfl)) ?_)
  refine wpAny_newObj_type ?_ (by size_fits)
  simp only [raiseNew]
  refine wpAny_bind (wpAny_handled ?_)
  first | rw [show A.in1.handled = none from hh] | rw [hh]
  refine wpAny_bind (wpAny_pure (wpAny_throw ?_))
  exact k' _ _ (((Heap.SameBut.update ..).extBut.push _).push _) ⟨_, Heap.get?_push_size _ rfl, rfl⟩

abbrev zipE (f0 : Value) (TI TO : Addr) : En := .ob { cls := .type "zip", dict := none, data := .fields #[f0, .bool false, .bool false, .ref TI, .ref TO], slots := #[] }
abbrev pairE (a b : Value) : En := .ob { cls := .type "tuple", data := .seq #[a, b] }

section
variable {V : Cx} {n : Nat} {α β : Type} {st : Sto} {X : Value → Sto → Prop}

theorem R_zip_next {z TI TO i1 i2 : Addr} {a b : Value} {e1 e1' e2 e2' : En} {L1 L2 : Sto} {P1 P2 : Nat → Nat → Value → Prop} {st1 st2 : Sto} {Q : Option Value → Sto → Prop}
    (hz : (z, zipE .none TI TO) ∈ st) (hTO : (TO, pairE a b) ∈ st) (hTI : (TI, pairE (.ref i1) (.ref i2)) ∈ st) (h1 : SSet i1 e1 e1' st st1) (h2 : SSet i2 e2 e2' st1 st2)
    (nz1 : i1 ≠ z) (nz2 : i2 ≠ z) (nt1 : i1 ≠ TO) (nt2 : i2 ≠ TO) (n12 : i1 ≠ i2)
    (hf1 : flr1 e1' = 0) (hf2 : flr1 e2' = 0) (d1 : DrawsTo V i1 e1 e1' L1 P1) (d2 : DrawsTo V i2 e2 e2' L2 P2) (m1 : ∀ p ∈ L1, p ∈ st ∧ p.1 ≠ z ∧ p.1 ≠ TO ∧ p.1 ≠ i1 ∧ p.1 ≠ i2) (m2 : ∀ p ∈ L2, p ∈ st ∧ p.1 ≠ z ∧ p.1 ≠ TO ∧ p.1 ≠ i1 ∧ p.1 ≠ i2)
    (h : ∀ x y (T : Addr) (k0 k1 k2 : Nat), flr st ≤ k0 → k0 ≤ k1 → k1 ≤ k2 → P1 k0 k1 x → P2 k1 k2 y → ∃ st3 st4, SSet TO (pairE a b) (pairE x y) st2 st3 ∧ SSet z (zipE .none TI TO) (zipE (rawInt T) TI TO) st3 st4 ∧ Q (some (.ref T)) ((T, .tupg [x, y] k2) :: st4)) :
    Runs V n (pyNext (.ref z)) st Q X := fun A s R E rm I k _ => by
  have hz0 := I.st.obj hz
  have hTO0 : IsPair s.heap TO a b := I.st.obj hTO
  have hTI0 : IsPair s.heap TI (.ref i1) (.ref i2) := I.st.obj hTI
  have hT : s.TypeIs (.ref z) "zip" := ⟨_, hz0, rfl⟩
  have nTOz : TO ≠ z := fun q => by subst q; rw [hTO0] at hz0; simp at hz0
  unfold pyNext
  refine wpAny_bind (wpAny_attempt (wpAny_callSpecial?_slot (name := Str.ofString "__next__") hT PySem.F.slot_zip_next
    (wpAny_call_entry PySem.F.slot_zip_next hT PySem.F.entry_zip_next ?_ (PySem.F.args_zip_next_1 _))))
  show wpAny _ _ (field (.ref z) 2 >>= _) _ _ _
  refine wpAny_bind (wpAny_field hz0 rfl (x := .bool false) rfl ?_)
  show wpAny _ _ (field (.ref z) 3 >>= _) _ _ _
  refine wpAny_bind (wpAny_field hz0 rfl (x := .ref TI) rfl ?_)
  refine wpAny_bind (wpAny_seqItems hTI0 rfl ?_)
  show wpAny _ _ (Builtin.SmallTypes.ownedTupleIsFree (.ref z) >>= _) _ _ _
  refine wpAny_bind ?_
  unfold Builtin.SmallTypes.ownedTupleIsFree
  refine wpAny_bind (wpAny_field hz0 rfl (x := .none) rfl (wpAny_pure ?_))
  simp only [if_true]
  refine wpAny_bind (wpAny_rule ?_)
  refine wpAny_bind (wpAny_field hz0 rfl (x := .ref TO) rfl ?_)
  refine wpAny_bind (wpAny_setField_rec hz0 (by simp) fun h₁ hz₁ hs₁ => ?_)
  replace hz₁ : IsZip h₁ z TI TO .ellipsis := hz₁
  refine wpAny_bind ?_
  simp only [List.zipIdx_cons, List.zipIdx_nil, List.forIn_cons, List.forIn_nil]
  have up1 : ∀ b o, b ≠ z → s.heap.get? b = some o → h₁.get? b = some o := fun b o c e => hs₁.extBut b o c e
  refine wpAny_bind (wpAny_bind (wpAny_onRaise ?_))
  show wpAny _ _ (Builtin.SmallTypes.nextOf (.ref i1) >>= _) _ _ _
  obtain ⟨o1, ho1, hi1⟩ := I.st.has _ h1.mem
  refine wpAny_bind (d1 _ _ _ _ ⟨o1, up1 _ _ nz1 ho1, hi1⟩ (fun p hp => ?_) fun x h₂ tk₂ le2 px hx₂ up2 sz2 => wpAny_pure ?_)
  · obtain ⟨hm, c1, _⟩ := m1 p hp
    obtain ⟨o, e, q⟩ := I.st.has p hm
    exact ⟨o, up1 _ _ c1 e, q⟩
  have hTO₂ : IsPair h₂ TO a b := up2 _ _ (Ne.symm nt1) (up1 _ _ nTOz hTO0)
  refine wpAny_bind (wpAny_seqItems hTO₂ rfl ?_)
  refine wpAny_bind (wpAny_updateSeq_pair hTO₂ fun h₃ hTO₃ hs₃ => ?_)
  replace hTO₃ : IsPair h₃ TO x b := hTO₃
  refine wpAny_bind (wpAny_letGo (wpAny_pure ?_))
  have up3 : ∀ b o, b ≠ TO → h₂.get? b = some o → h₃.get? b = some o := fun b o c e => hs₃.extBut b o c e
  refine wpAny_bind (wpAny_bind (wpAny_onRaise ?_))
  show wpAny _ _ (Builtin.SmallTypes.nextOf (.ref i2) >>= _) _ _ _
  have hi2m : (i2, e2) ∈ st := by
    have hmem := h2.mem
    obtain ⟨j, hj, e⟩ := h1.at
    rw [e] at hmem
    rcases List.mem_or_eq_of_mem_set hmem with q | q
    · exact q
    · cases q; exact absurd rfl n12
  obtain ⟨o2, ho2, hi2⟩ := I.st.has _ hi2m
  refine wpAny_bind (d2 _ _ _ _ ⟨o2, up3 _ _ nt2 (up2 _ _ (Ne.symm n12) (up1 _ _ nz2 ho2)), hi2⟩ (fun p hp => ?_) fun y h₄ tk₄ le4 py hy₄ up4 sz4 => wpAny_pure ?_)
  · obtain ⟨hm, c1, c2, c3, _⟩ := m2 p hp
    obtain ⟨o, e, q⟩ := I.st.has p hm
    exact ⟨o, up3 _ _ c2 (up2 _ _ c3 (up1 _ _ c1 e)), q⟩
  have hTO₄ : IsPair h₄ TO x b := up4 _ _ (Ne.symm nt2) hTO₃
  refine wpAny_bind (wpAny_seqItems hTO₄ rfl ?_)
  refine wpAny_bind (wpAny_updateSeq_pair hTO₄ fun h₅ hTO₅ hs₅ => ?_)
  replace hTO₅ : IsPair h₅ TO x y := hTO₅
  have up5 : ∀ b o, b ≠ TO → h₄.get? b = some o → h₅.get? b = some o := fun b o c e => hs₅.extBut b o c e
  refine wpAny_bind (wpAny_letGo (wpAny_pure (wpAny_pure ?_)))
  refine wpAny_bind (wpAny_seqItems hTO₅ rfl ?_)
  refine wpAny_bind (wpAny_newTuple ?_)
  have hz₅ : IsZip h₅ z TI TO .ellipsis := up5 _ _ (Ne.symm nTOz) (up4 _ _ (Ne.symm nz2) (up3 _ _ (Ne.symm nTOz) (up2 _ _ (Ne.symm nz1) hz₁)))
  show wpAny _ _ (Builtin.SmallTypes.ownedTupleHandOut (.ref z) (.ref h₅.objs.size) >>= _) _ _ _
  refine wpAny_bind ?_
  unfold Builtin.SmallTypes.ownedTupleHandOut
  have hz₆ : IsZip (h₅.push { cls := .type "tuple", data := .seq #[x, y] }) z TI TO .ellipsis := Heap.get?_push_of_some _ hz₅
  have hzlt : z < h₅.objs.size := Heap.lt_size hz₅
  refine wpAny_bind (wpAny_setField_rec hz₆ (by simp) fun h₇ hz₇ hs₇ => ?_)
  replace hz₇ : IsZip h₇ z TI TO (rawInt h₅.objs.size) := hz₇
  refine wpAny_setField_rec hz₇ (by simp) fun h₈ hz₈ hs₈ => ?_
  replace hz₈ : IsZip h₈ z TI TO (rawInt h₅.objs.size) := hz₈
  have up8 : ∀ c o, c ≠ z → h₅.get? c = some o → h₈.get? c = some o := fun c o c1 e => hs₈.extBut _ _ c1 (hs₇.extBut _ _ c1 (Heap.get?_push_of_some _ e))
  have hT₈ : IsPair h₈ h₅.objs.size x y := hs₈.extBut _ _ (Nat.ne_of_gt hzlt) (hs₇.extBut _ _ (Nat.ne_of_gt hzlt) (Heap.get?_push_size _ rfl))
  refine wpAny_pure ⟨_, rfl, ?_⟩
  refine wpAny_pure ?_
  obtain ⟨st3, st4, s3, s4, hq⟩ := h x y h₅.objs.size s.toks tk₂ tk₄ I.fl le2 le4 px py
  have z1 : h₁.objs.size = s.heap.objs.size := hs₁.1
  have z2 : h₂.objs.size = h₁.objs.size := sz2
  have z3 : h₃.objs.size = h₂.objs.size := hs₃.1
  have z4 : h₄.objs.size = h₃.objs.size := sz4
  have z5 : h₅.objs.size = h₄.objs.size := hs₅.1
  have a1 := h1.adr
  have a2 := h2.adr
  have a3 := s3.adr
  have a4 := s4.adr
  have nd := I.st.nd
  have S : St V.B h₈ st4 := by
    refine ⟨fun b o e => ?_, fun p hp => ?_, fun p hp => ?_, by rw [a4, a3, a2, a1]; exact nd⟩
    · have ne : ∀ {c : Addr} {f : En}, (c, f) ∈ st → b ≠ c := fun hm q => by subst q; rw [I.st.new _ hm] at e; cases e
      exact up8 _ _ (ne hz) (up5 _ _ (ne hTO) (up4 _ _ (ne hi2m) (up3 _ _ (ne hTO) (up2 _ _ (ne h1.mem) (up1 _ _ (ne hz) (I.st.old _ _ e))))))
    · rcases s4.of (by rw [a3, a2, a1]; exact nd) p hp with rfl | ⟨hp, c1⟩
      · exact ⟨_, hz₈, rfl⟩
      rcases s3.of (by rw [a2, a1]; exact nd) p hp with rfl | ⟨hp, c2⟩
      · exact ⟨_, up8 _ _ nTOz hTO₅, rfl⟩
      rcases h2.of (by rw [a1]; exact nd) p hp with rfl | ⟨hp, c3⟩
      · obtain ⟨o, e, q⟩ := hy₄
        exact ⟨o, up8 _ _ nz2 (up5 _ _ nt2 e), q⟩
      rcases h1.of nd p hp with rfl | ⟨hp, c4⟩
      · obtain ⟨o, e, q⟩ := hx₂
        exact ⟨o, up8 _ _ nz1 (up5 _ _ nt1 (up4 _ _ n12 (up3 _ _ nt1 e))), q⟩
      obtain ⟨o, e, q⟩ := I.st.has p hp
      exact ⟨o, up8 _ _ c1 (up5 _ _ c2 (up4 _ _ c3 (up3 _ _ c2 (up2 _ _ c4 (up1 _ _ c1 e))))), q⟩
    · have : p.1 ∈ st.map (·.1) := by rw [← a1, ← a2, ← a3, ← a4]; exact List.mem_map.mpr ⟨p, hp, rfl⟩
      obtain ⟨q, hq, e⟩ := List.mem_map.mp this
      rw [← e]; exact I.st.new q hq
  have S' : St V.B h₈ ((h₅.objs.size, .tupg [x, y] tk₄) :: st4) := by
    refine ⟨S.old, fun p hp => ?_, fun p hp => ?_, ?_⟩
    · rcases List.mem_cons.mp hp with rfl | hp
      · exact ⟨_, hT₈, 0, rfl⟩
      · exact S.has p hp
    · rcases List.mem_cons.mp hp with rfl | hp
      · have big : s.heap.objs.size ≤ h₅.objs.size := by
          omega
        cases q : V.B.get? h₅.objs.size with
        | none => rfl
        | some o => exact absurd (Heap.lt_size (I.st.old _ _ q)) (Nat.not_lt.mpr big)
      · exact S.new p hp
    · rw [List.map_cons]
      refine List.nodup_cons.mpr ⟨fun q => ?_, S.nd⟩
      obtain ⟨p, hp, e⟩ := List.mem_map.mp q
      have : p.1 ∈ st.map (·.1) := by rw [← a1, ← a2, ← a3, ← a4]; exact List.mem_map.mpr ⟨p, hp, rfl⟩
      obtain ⟨p', hp', e'⟩ := List.mem_map.mp this
      obtain ⟨o, eo, _⟩ := I.st.has p' hp'
      have l1 := Heap.lt_size eo
      rw [e', e] at l1
      have l2 : h₅.objs.size < s.heap.objs.size := l1
      omega
  have f1 : flr st1 ≤ flr st := h1.flr (by rw [hf1]; exact Nat.zero_le _)
  have f2 : flr st2 ≤ flr st1 := h2.flr (by rw [hf2]; exact Nat.zero_le _)
  have f3 : flr st3 ≤ flr st2 := s3.flr (Nat.le_refl _)
  have f4 : flr st4 ≤ flr st3 := s4.flr (Nat.le_refl _)
  have f0 := I.fl
  exact k _ _ _ ⟨I.ok, (by show max tk₄ (flr st4) ≤ tk₄; have : s.toks ≤ tk₂ := le2; have : tk₂ ≤ tk₄ := le4; omega), S', I.gp, I.dr, I.os⟩ hq
theorem R_zip_end {z TI TO i1 i2 : Addr} {e1 : En} {L1 : Sto} {st1 st2 : Sto} {Q : Option Value → Sto → Prop}
    (hTI : (TI, pairE (.ref i1) (.ref i2)) ∈ st) (h1 : SDel i1 e1 st st1) (h2 : SDel z (zipE .none TI TO) st1 st2) (nz1 : i1 ≠ z) (d1 : DrawsEnd V i1 e1 L1) (m1 : ∀ p ∈ L1, p ∈ st ∧ p.1 ≠ z) (hTO : (TO, En.tk 0) ∈ st ∨ True) (h : Q none st2) :
    Runs V n (pyNext (.ref z)) st Q X := fun A s R E rm I k _ => by
  have hz : (z, zipE .none TI TO) ∈ st := h1.sub.subset h2.mem
  have hz0 := I.st.obj hz
  have hTI0 : IsPair s.heap TI (.ref i1) (.ref i2) := I.st.obj hTI
  have hT : s.TypeIs (.ref z) "zip" := ⟨_, hz0, rfl⟩
  unfold pyNext
  refine wpAny_bind (wpAny_attempt (wpAny_callSpecial?_slot (name := Str.ofString "__next__") hT PySem.F.slot_zip_next
    (wpAny_call_entry PySem.F.slot_zip_next hT PySem.F.entry_zip_next ?_ (PySem.F.args_zip_next_1 _))))
  show wpAny _ _ (field (.ref z) 2 >>= _) _ _ _
  refine wpAny_bind (wpAny_field hz0 rfl (x := .bool false) rfl ?_)
  show wpAny _ _ (field (.ref z) 3 >>= _) _ _ _
  refine wpAny_bind (wpAny_field hz0 rfl (x := .ref TI) rfl ?_)
  refine wpAny_bind (wpAny_seqItems hTI0 rfl ?_)
  show wpAny _ _ (Builtin.SmallTypes.ownedTupleIsFree (.ref z) >>= _) _ _ _
  refine wpAny_bind ?_
  unfold Builtin.SmallTypes.ownedTupleIsFree
  refine wpAny_bind (wpAny_field hz0 rfl (x := .none) rfl (wpAny_pure ?_))
  simp only [if_true]
  refine wpAny_bind (wpAny_rule ?_)
  refine wpAny_bind (wpAny_field hz0 rfl (x := .ref TO) rfl ?_)
  refine wpAny_bind (wpAny_setField_rec hz0 (by simp) fun h₁ hz₁ hs₁ => ?_)
  replace hz₁ : IsZip h₁ z TI TO .ellipsis := hz₁
  refine wpAny_bind ?_
  simp only [List.zipIdx_cons, List.zipIdx_nil, List.forIn_cons, List.forIn_nil]
  have up1 : ∀ b o, b ≠ z → s.heap.get? b = some o → h₁.get? b = some o := fun b o c e => hs₁.extBut b o c e
  refine wpAny_bind (wpAny_bind (wpAny_onRaise ?_))
  show wpAny _ _ (Builtin.SmallTypes.nextOf (.ref i1) >>= _) _ _ _
  obtain ⟨o1, ho1, hi1⟩ := I.st.has _ h1.mem
  have hh : A.in1.in1.handled = none := rm.hd
  refine wpAny_bind (d1 _ _ _ _ (by first | exact rm.hd | exact hh) ⟨o1, up1 _ _ nz1 ho1, hi1⟩ (fun p hp => ?_) fun e h₂ up2 he => ?_)
  · obtain ⟨hm, c1⟩ := m1 p hp
    obtain ⟨o, e, q⟩ := I.st.has p hm
    exact ⟨o, up1 _ _ c1 e, q⟩
  obtain ⟨oe, hoe, hce⟩ := he
  have hz₂ : IsZip h₂ z TI TO .ellipsis := up2 _ _ (Ne.symm nz1) hz₁
  have hez : e ≠ z := fun x => by subst x; rw [hz₂] at hoe; cases hoe; simp at hce
  refine wpAny_setField_rec hz₂ (by simp) fun h₃ _ hs₃ => ?_
  refine wpAny_bind (wpAny_isInstance (T := "StopIteration") (b := true) ⟨oe, hs₃.extBut _ _ hez hoe, hce⟩ isSubtype_stop ?_)
  refine wpAny_pure (k _ _ _ (I.ath ?_ (Nat.le_trans h2.flr h1.flr)) h)
  have off1 := h1.off I.st.nd
  have nd1 : (st1.map (·.1)).Nodup := (h1.sub.map _).nodup I.st.nd
  have off2 := h2.off nd1
  have y := (I.st.sub h1.sub).sub h2.sub
  have hB1 := I.st.new _ h1.mem
  have hBz := I.st.new _ hz
  have up : ∀ b o, b ≠ z → b ≠ i1 → s.heap.get? b = some o → h₃.get? b = some o := fun b o c1 c2 e => hs₃.extBut _ _ c1 (up2 _ _ c2 (up1 _ _ c1 e))
  exact ⟨fun b o eb => up b o (fun q => by rw [q] at eb; rw [eb] at hBz; cases hBz) (fun q => by rw [q] at eb; rw [eb] at hB1; cases hB1) (I.st.old b o eb),
    fun p hp => let ⟨o, eo, ho⟩ := y.has p hp; ⟨o, up _ _ (off2 p hp) (off1 p (h2.sub.subset hp)) eo, ho⟩, y.new, y.nd⟩
theorem R_letGo_zip {elts : List Expr} {x1} {pos : Pos} {z TI TO T : Addr} {st' : Sto} {Q : Unit → Sto → Prop} (hz : SSet z (zipE (rawInt T) TI TO) (zipE .none TI TO) st st') (h : Q () st') :
    Runs V n (letOwnedTupleGo (.Tuple elts x1 pos) (.ref z) (.ref T)) st Q X := fun _ _ _ _ _ I k _ =>
  wpAny_letOwnedTupleGo_zip (I.st.obj hz.mem) fun h' hz' hb => k _ _ _ (I.ath (I.st.turn hz (fun b o c e => hb.extBut b o c e) ⟨_, hz', rfl⟩)) h
theorem R_self_zip {z TI TO : Addr} {f0 : Value} {Q : Value → Sto → Prop} (hz : (z, zipE f0 TI TO) ∈ st) (h : Q (.ref z) st) : Runs V n (pyIter (.ref z)) st Q X := fun _ _ _ _ _ I k _ =>
  wpAny_pyIter_zip (I.st.obj hz) (k _ _ _ I h)

abbrev zH3 (h : Heap) (o1 o2 : Obj) : Heap := ((h.push o1).push o2).push { cls := .type "tuple", data := .seq #[.ref h.objs.size, .ref (h.push o1).objs.size] }
abbrev zH4 (h : Heap) (o1 o2 : Obj) : Heap := (zH3 h o1 o2).push { cls := .type "tuple", data := .seq #[.none, .none] }
abbrev zH5 (h : Heap) (o1 o2 : Obj) : Heap := (zH4 h o1 o2).push { cls := .type "zip", data := .fields #[.none, .bool false, .bool false, .ref ((h.push o1).push o2).objs.size, .ref (zH3 h o1 o2).objs.size] }
theorem meets_zip_gen (va vb : Value) (C1 C2 : Heap → Prop) (o1 o2 : Obj)
    (p1 : ∀ {prog : Program} {w : World} {A : Around} {E : Value → Shared → Prop} {s : Shared} {Q : Value → Shared → Prop}, C1 s.heap → Q (.ref s.heap.objs.size) { s with heap := s.heap.push o1 } → wpAny (model prog w) A (pyIter va) Q E s)
    (p2 : ∀ {prog : Program} {w : World} {A : Around} {E : Value → Shared → Prop} {s : Shared} {Q : Value → Shared → Prop}, C2 s.heap → Q (.ref s.heap.objs.size) { s with heap := s.heap.push o2 } → wpAny (model prog w) A (pyIter vb) Q E s) :
    Meets (Builtin.«zip.__new__» ⟨[.type "zip", va, vb], []⟩) (fun _ R s => C1 s.heap ∧ C2 (s.heap.push o1) ∧
      R (.ok (.ret (.ref (zH4 s.heap o1 o2).objs.size))) { s with heap := zH5 s.heap o1 o2 }) :=
  .of_wp fun prog w A R s h => by
    obtain ⟨hp, g, d, tk, os⟩ := s; obtain ⟨hl1, hl2, h⟩ := h
    have hsub := sub_zip
    have hL1 : C1 (Shared.heap ⟨hp, g, d, tk, os⟩) := hl1
    have hL2 : C2 (Shared.heap ⟨hp.push o1, g, d, tk, os⟩) := hl2
    wp_walk using p1 hL1, p2 hL2
    exact ⟨_, rfl, h⟩
theorem R_zip {va vb : Value} {C1 C2 : Heap → Prop} {o1 o2 : Obj} {e1 e2 : En} {Q : Value → Sto → Prop}
    (p1 : ∀ {prog : Program} {w : World} {A : Around} {E : Value → Shared → Prop} {s : Shared} {Q : Value → Shared → Prop}, C1 s.heap → Q (.ref s.heap.objs.size) { s with heap := s.heap.push o1 } → wpAny (model prog w) A (pyIter va) Q E s)
    (p2 : ∀ {prog : Program} {w : World} {A : Around} {E : Value → Shared → Prop} {s : Shared} {Q : Value → Shared → Prop}, C2 s.heap → Q (.ref s.heap.objs.size) { s with heap := s.heap.push o2 } → wpAny (model prog w) A (pyIter vb) Q E s)
    (hf1 : flr1 e1 = 0) (hf2 : flr1 e2 = 0) (f1 : o1.isFreed = false) (f2 : o2.isFreed = false) (i1 : e1.Is o1) (i2 : e2.Is o2)
    (c1 : ∀ h, St V.B h st → C1 h) (c2 : ∀ h, St V.B h st → C2 h)
    (h : ∀ z TO TI a2 a1 : Addr, z ≠ TO → a1 ≠ z → a2 ≠ z → a1 ≠ TO → a2 ≠ TO → a1 ≠ a2 → Q (.ref z) ((z, zipE .none TI TO) :: (TO, pairE .none .none) :: (TI, pairE (.ref a1) (.ref a2)) :: (a2, e2) :: (a1, e1) :: st)) :
    Runs V n (call (.type "zip") [va, vb]) st Q X := fun A s R E rm I k _ => by
  have S1 := I.st.alloc f1 i1
  have S2 := S1.alloc f2 i2
  have S3 : St V.B (zH3 s.heap o1 o2) _ := S2.alloc (e := pairE (.ref s.heap.objs.size) (.ref (s.heap.push o1).objs.size)) rfl rfl
  have S4 : St V.B (zH4 s.heap o1 o2) _ := S3.alloc (e := pairE .none .none) rfl rfl
  have S5 : St V.B (zH5 s.heap o1 o2) _ := S4.alloc (e := zipE .none ((s.heap.push o1).push o2).objs.size (zH3 s.heap o1 o2).objs.size) rfl rfl
  refine callType_new PySem.F.called_zip (by decide) (PySem.F.typeCall_zip_2 _ _) (PySem.F.newCall_zip_2 _ _) (fun obj => PySem.F.args_object_init_3 obj _ _) PySem.F.entry_zip_new
    (meets_zip_gen va vb C1 C2 o1 o2 p1 p2) ⟨c1 _ I.st, c2 _ (S1.sub (List.sublist_cons_self _ _)), ?_⟩
  have nd := S5.nd
  simp only [List.map_cons, List.nodup_cons, List.mem_cons, not_or] at nd
  obtain ⟨⟨n1, n2, n3, n4, _⟩, ⟨m1, m2, m3, _⟩, ⟨q1, q2, _⟩, ⟨r1, _⟩, _⟩ := nd
  have gz := S5.has _ List.mem_cons_self
  obtain ⟨oz, ez, qz⟩ := gz
  exact ⟨⟨oz, ez, by rw [show oz = _ from qz]⟩, k _ _ _ (I.ath S5 (by simp only [flr, hf1, hf2]; simp only [flr1]; omega)) (h _ _ _ _ _ n1 (Ne.symm n4) (Ne.symm n3) (Ne.symm m3) (Ne.symm m2) (Ne.symm r1))⟩
end
end Mine
end

section
set_option linter.unusedVariables false
namespace Mine
open PySem PySem.W PyProof.Rows PySem.Calls PySem.Spec

theorem uniq {st : Sto} (nd : (st.map (·.1)).Nodup) {a : Addr} {e e' : En} (h : (a, e) ∈ st) (h' : (a, e') ∈ st) : e = e' := by
  induction st with
  | nil => cases h
  | cons p r ih =>
    rw [List.map_cons] at nd
    obtain ⟨n1, n2⟩ := List.nodup_cons.mp nd
    rcases List.mem_cons.mp h with q | q
    · rcases List.mem_cons.mp h' with q' | q'
      · rw [← q] at q'; exact (Prod.mk.inj q').2.symm
      · exact absurd (List.mem_map.mpr ⟨_, q', by rw [← q]⟩) n1
    · rcases List.mem_cons.mp h' with q' | q'
      · exact absurd (List.mem_map.mpr ⟨_, q, by rw [← q']⟩) n1
      · exact ih n2 q q'
theorem St.apart {B h : Heap} {st : Sto} (x : St B h st) {a b : Addr} {e e' : En} (ha : (a, e) ∈ st) (hb : (b, e') ∈ st) (hne : e ≠ e') : a ≠ b := fun q => by
  subst q; exact hne (uniq x.nd ha hb)

section
variable {V : Cx} {n : Nat} {α β : Type} {st : Sto} {X : Value → Sto → Prop}

theorem Runs.nd {t : Sem α} {Q : α → Sto → Prop} (h : (∀ {a b : Addr} {e e' : En}, (a, e) ∈ st → (b, e') ∈ st → e ≠ e' → a ≠ b) → Runs V n t st Q X) : Runs V n t st Q X :=
  fun A s R E r I k x => h (fun ha hb hne => I.st.apart ha hb hne) A s R E r I k x
theorem Runs.nodup {t : Sem α} {Q : α → Sto → Prop} (h : (st.map (·.1)).Nodup → Runs V n t st Q X) : Runs V n t st Q X :=
  fun A s R E r I k x => h I.st.nd A s R E r I k x

theorem zip_next_gen {z TI TO i1 i2 : Addr} {a b : Value} {c1 c2 : String} {l1 l1' l2 l2' : List Value} {L1 L2 : Sto} {P1 P2 : Nat → Nat → Value → Prop} {st1 st2 : Sto} {Q : Option Value → Sto → Prop}
    (d1 : DrawsTo V i1 (.fl c1 l1) (.fl c1 l1') L1 P1) (d2 : DrawsTo V i2 (.fl c2 l2) (.fl c2 l2') L2 P2) (m1 : ∀ p ∈ L1, p ∈ st ∧ ∃ vs, p.2 = .list vs ∨ p.2 = .tup vs) (m2 : ∀ p ∈ L2, p ∈ st ∧ ∃ vs, p.2 = .list vs ∨ p.2 = .tup vs)
    (hz : (z, zipE .none TI TO) ∈ st) (hTO : (TO, pairE a b) ∈ st) (hTI : (TI, pairE (.ref i1) (.ref i2)) ∈ st) (h1 : SSet i1 (.fl c1 l1) (.fl c1 l1') st st1) (h2 : SSet i2 (.fl c2 l2) (.fl c2 l2') st1 st2) (n12 : i1 ≠ i2)
    (h : ∀ x y (T : Addr) (k0 k1 k2 : Nat), flr st ≤ k0 → k0 ≤ k1 → k1 ≤ k2 → P1 k0 k1 x → P2 k1 k2 y → ∃ st3 st4, SSet TO (pairE a b) (pairE x y) st2 st3 ∧ SSet z (zipE .none TI TO) (zipE (rawInt T) TI TO) st3 st4 ∧ Q (some (.ref T)) ((T, .tupg [x, y] k2) :: st4)) :
    Runs V n (pyNext (.ref z)) st Q X := by
  refine Runs.nd fun ap => ?_
  have hi2m : (i2, .fl c2 l2) ∈ st := by
    have hmem := h2.mem
    obtain ⟨j, hj, e⟩ := h1.at
    rw [e] at hmem
    rcases List.mem_or_eq_of_mem_set hmem with q | q
    · exact q
    · cases q; exact absurd rfl n12
  have off : ∀ {L : Sto}, (∀ p ∈ L, p ∈ st ∧ ∃ vs, p.2 = .list vs ∨ p.2 = .tup vs) → ∀ p ∈ L, p ∈ st ∧ p.1 ≠ z ∧ p.1 ≠ TO ∧ p.1 ≠ i1 ∧ p.1 ≠ i2 := by
    intro L m p hp
    obtain ⟨pm, vs, q⟩ := m p hp
    obtain ⟨pa, pe⟩ := p
    dsimp only at q ⊢
    rcases q with rfl | rfl
    · exact ⟨pm, ap pm hz (by simp), ap pm hTO (by simp), ap pm h1.mem (by simp), ap pm hi2m (by simp)⟩
    · exact ⟨pm, ap pm hz (by simp), ap pm hTO (by simp), ap pm h1.mem (by simp), ap pm hi2m (by simp)⟩
  exact R_zip_next hz hTO hTI h1 h2 (ap h1.mem hz (by simp)) (ap hi2m hz (by simp)) (ap h1.mem hTO (by simp)) (ap hi2m hTO (by simp)) n12 rfl rfl d1 d2 (off m1) (off m2) h

abbrev itS (x : Str) (t : Tok) (k : Nat) : En := .fl "str_ascii_iterator" [.str x t, .int k 0]
abbrev itL (l : Addr) (k : Nat) : En := .fl "list_iterator" [.ref l, .int k 0]
abbrev itT (l : Addr) (k : Nat) : En := .fl "tuple_iterator" [.ref l, .int k 0]

theorem zn_SS {z TI TO i1 i2 : Addr} {a b : Value} {x y : Str} {t u : Tok} {k c d : Nat} {st1 st2 : Sto} {Q : Option Value → Sto → Prop} (hx : x.cps[k]? = some c) (hy : y.cps[k]? = some d)
    (hz : (z, zipE .none TI TO) ∈ st) (hTO : (TO, pairE a b) ∈ st) (hTI : (TI, pairE (.ref i1) (.ref i2)) ∈ st) (h1 : SSet i1 (itS x t k) (itS x t (k + 1)) st st1) (h2 : SSet i2 (itS y u k) (itS y u (k + 1)) st1 st2) (n12 : i1 ≠ i2)
    (h : ∀ (t1 t2 : Nat) (T : Addr) (F : Nat), flr st ≤ t1 → t1 < F → flr st ≤ t2 → t2 < F → ∃ st3 st4, SSet TO (pairE a b) (pairE (.str ⟨#[c]⟩ t1) (.str ⟨#[d]⟩ t2)) st2 st3 ∧ SSet z (zipE .none TI TO) (zipE (rawInt T) TI TO) st3 st4 ∧ Q (some (.ref T)) ((T, .tupg [.str ⟨#[c]⟩ t1, .str ⟨#[d]⟩ t2] F) :: st4)) :
    Runs V n (pyNext (.ref z)) st Q X :=
  zip_next_gen (draw_str hx) (draw_str hy) (fun _ hp => nomatch hp) (fun _ hp => nomatch hp) hz hTO hTI h1 h2 n12 fun v w T k0 k1 k2 l0 l1 l2 p q => by obtain ⟨t1, rfl, p1, p2⟩ := p; obtain ⟨t2, rfl, q1, q2⟩ := q; exact h t1 t2 T k2 (by omega) (by omega) (by omega) (by omega)
theorem zn_TS {z TI TO i1 i2 l : Addr} {a b v : Value} {vs : List Value} {y : Str} {u : Tok} {k d : Nat} {st1 st2 : Sto} {Q : Option Value → Sto → Prop} (hx : vs[k]? = some v) (hy : y.cps[k]? = some d) (hl : (l, .tup vs) ∈ st)
    (hz : (z, zipE .none TI TO) ∈ st) (hTO : (TO, pairE a b) ∈ st) (hTI : (TI, pairE (.ref i1) (.ref i2)) ∈ st) (h1 : SSet i1 (itT l k) (itT l (k + 1)) st st1) (h2 : SSet i2 (itS y u k) (itS y u (k + 1)) st1 st2) (n12 : i1 ≠ i2)
    (h : ∀ (t2 : Nat) (T : Addr) (F : Nat), flr st ≤ t2 → t2 < F → ∃ st3 st4, SSet TO (pairE a b) (pairE v (.str ⟨#[d]⟩ t2)) st2 st3 ∧ SSet z (zipE .none TI TO) (zipE (rawInt T) TI TO) st3 st4 ∧ Q (some (.ref T)) ((T, .tupg [v, .str ⟨#[d]⟩ t2] F) :: st4)) :
    Runs V n (pyNext (.ref z)) st Q X :=
  zip_next_gen (draw_tup hx) (draw_str hy) (fun _ hp => by rw [List.mem_singleton.mp hp]; exact ⟨hl, vs, .inr rfl⟩) (fun _ hp => nomatch hp) hz hTO hTI h1 h2 n12 fun v w T k0 k1 k2 l0 l1 l2 p q => by subst p; obtain ⟨t2, rfl, q1, q2⟩ := q; exact h t2 T k2 (by omega) (by omega)
theorem zn_SL {z TI TO i1 i2 l : Addr} {a b v : Value} {vs : List Value} {y : Str} {u : Tok} {k d : Nat} {st1 st2 : Sto} {Q : Option Value → Sto → Prop} (hy : y.cps[k]? = some d) (hx : vs[k]? = some v) (hl : (l, .list vs) ∈ st)
    (hz : (z, zipE .none TI TO) ∈ st) (hTO : (TO, pairE a b) ∈ st) (hTI : (TI, pairE (.ref i1) (.ref i2)) ∈ st) (h1 : SSet i1 (itS y u k) (itS y u (k + 1)) st st1) (h2 : SSet i2 (itL l k) (itL l (k + 1)) st1 st2) (n12 : i1 ≠ i2)
    (h : ∀ (t1 : Nat) (T : Addr) (F : Nat), flr st ≤ t1 → t1 < F → ∃ st3 st4, SSet TO (pairE a b) (pairE (.str ⟨#[d]⟩ t1) v) st2 st3 ∧ SSet z (zipE .none TI TO) (zipE (rawInt T) TI TO) st3 st4 ∧ Q (some (.ref T)) ((T, .tupg [.str ⟨#[d]⟩ t1, v] F) :: st4)) :
    Runs V n (pyNext (.ref z)) st Q X :=
  zip_next_gen (draw_str hy) (draw_list hx) (fun _ hp => nomatch hp) (fun _ hp => by rw [List.mem_singleton.mp hp]; exact ⟨hl, vs, .inl rfl⟩) hz hTO hTI h1 h2 n12 fun v w T k0 k1 k2 l0 l1 l2 p q => by subst q; obtain ⟨t2, rfl, p1, p2⟩ := p; exact h t2 T k2 (by omega) (by omega)
theorem zn_LL {z TI TO i1 i2 l l' : Addr} {a b v w : Value} {vs ws : List Value} {k : Nat} {st1 st2 : Sto} {Q : Option Value → Sto → Prop} (hx : vs[k]? = some v) (hy : ws[k]? = some w) (hl : (l, .list vs) ∈ st) (hl' : (l', .list ws) ∈ st)
    (hz : (z, zipE .none TI TO) ∈ st) (hTO : (TO, pairE a b) ∈ st) (hTI : (TI, pairE (.ref i1) (.ref i2)) ∈ st) (h1 : SSet i1 (itL l k) (itL l (k + 1)) st st1) (h2 : SSet i2 (itL l' k) (itL l' (k + 1)) st1 st2) (n12 : i1 ≠ i2)
    (h : ∀ (T : Addr) (F : Nat), ∃ st3 st4, SSet TO (pairE a b) (pairE v w) st2 st3 ∧ SSet z (zipE .none TI TO) (zipE (rawInt T) TI TO) st3 st4 ∧ Q (some (.ref T)) ((T, .tupg [v, w] F) :: st4)) :
    Runs V n (pyNext (.ref z)) st Q X :=
  zip_next_gen (draw_list hx) (draw_list hy) (fun _ hp => by rw [List.mem_singleton.mp hp]; exact ⟨hl, vs, .inl rfl⟩) (fun _ hp => by rw [List.mem_singleton.mp hp]; exact ⟨hl', ws, .inl rfl⟩) hz hTO hTI h1 h2 n12 fun v w T k0 k1 k2 l0 l1 l2 p q => by subst q; subst p; exact h T k2

theorem ze_S {z TI TO i1 i2 : Addr} {x : Str} {t : Tok} {k : Nat} {st1 st2 : Sto} {Q : Option Value → Sto → Prop} (hx : x.cps[k]? = none) (hTI : (TI, pairE (.ref i1) (.ref i2)) ∈ st) (h1 : SDel i1 (itS x t k) st st1) (h2 : SDel z (zipE .none TI TO) st1 st2) (h : Q none st2) :
    Runs V n (pyNext (.ref z)) st Q X := Runs.nd fun ap => R_zip_end hTI h1 h2 (ap h1.mem (h1.sub.subset h2.mem) (by simp)) (drawE_str hx) (fun _ hp => nomatch hp) (.inr trivial) h
theorem ze_T {z TI TO i1 i2 l : Addr} {vs : List Value} {k : Nat} {st1 st2 : Sto} {Q : Option Value → Sto → Prop} (hx : vs[k]? = none) (hl : (l, .tup vs) ∈ st) (hTI : (TI, pairE (.ref i1) (.ref i2)) ∈ st) (h1 : SDel i1 (itT l k) st st1) (h2 : SDel z (zipE .none TI TO) st1 st2) (h : Q none st2) :
    Runs V n (pyNext (.ref z)) st Q X := Runs.nd fun ap => R_zip_end hTI h1 h2 (ap h1.mem (h1.sub.subset h2.mem) (by simp)) (drawE_tup hx) (fun _ hp => by rw [List.mem_singleton.mp hp]; exact ⟨hl, ap hl (h1.sub.subset h2.mem) (by simp)⟩) (.inr trivial) h
theorem ze_L {z TI TO i1 i2 l : Addr} {vs : List Value} {k : Nat} {st1 st2 : Sto} {Q : Option Value → Sto → Prop} (hx : vs[k]? = none) (hl : (l, .list vs) ∈ st) (hTI : (TI, pairE (.ref i1) (.ref i2)) ∈ st) (h1 : SDel i1 (itL l k) st st1) (h2 : SDel z (zipE .none TI TO) st1 st2) (h : Q none st2) :
    Runs V n (pyNext (.ref z)) st Q X := Runs.nd fun ap => R_zip_end hTI h1 h2 (ap h1.mem (h1.sub.subset h2.mem) (by simp)) (drawE_list hx) (fun _ hp => by rw [List.mem_singleton.mp hp]; exact ⟨hl, ap hl (h1.sub.subset h2.mem) (by simp)⟩) (.inr trivial) h

theorem R_ListComp {env : Env} {elt target iter : Expr} {ifs : List Expr} {scope : Scope} {pos : Pos} {cl : List (Str × Addr)} {Q : Value → Sto → Prop}
    (hs : ∀ x, foldedSetIterable iter env x = Pure.pure x) (hclos : closureFor scope env = Pure.pure cl) (hkind : scope.kind = .function) (hnames : ∀ x ∈ scope.names, x.2 = .local → scope.names.lookup x.1 = some .local) (hcell : ∀ x ∈ scope.names, x.2 ≠ .cell)
    (h : Runs V n (eval iter env) st (fun x st1 => Runs V n (pyIter x) st1 (fun it st2 => ∀ D C,
      Runs V n (pyIter it) ((C, .ns []) :: (D, .list []) :: st2) (fun v s => v = it ∧ s = (C, .ns []) :: (D, .list []) :: st2) ∧
      RunsC V n (.compLoop (lcomp elt target iter ifs scope pos) 0 it (.ref D) (cenv scope cl C env)) ((C, .ns []) :: (D, .list []) :: st2)
        (fun _ st3 => ∃ l st4, SDel C (.ns l) st3 st4 ∧ Q (.ref D) st4)))) :
    Runs V n (eval (.ListComp elt [⟨target, iter, ifs, 0⟩] scope pos) env) st Q X := by
  rw [eval_ListComp]
  exact R_compCore hs hclos hkind hnames hcell h
theorem R_AssignComp {env : Env} {x : Str} {px spos : Pos} {elt target iter : Expr} {ifs : List Expr} {scope : Scope} {pos : Pos} {cl : List (Str × Addr)} {Q : Flow → Sto → Prop}
    (hsw : swapsWith (.ListComp elt [⟨target, iter, ifs, 0⟩] scope pos) (some (.Name x px)) spos.line env = Pure.pure true)
    (hs : ∀ x, foldedSetIterable iter env x = Pure.pure x) (hclos : closureFor scope env = Pure.pure cl) (hkind : scope.kind = .function) (hnames : ∀ x ∈ scope.names, x.2 = .local → scope.names.lookup x.1 = some .local) (hcell : ∀ x ∈ scope.names, x.2 ≠ .cell)
    (h : Runs V n (eval iter env) st (fun x' st1 => Runs V n (pyIter x') st1 (fun it st2 => ∀ D C,
      Runs V n (pyIter it) ((C, .ns []) :: (D, .list []) :: st2) (fun v s => v = it ∧ s = (C, .ns []) :: (D, .list []) :: st2) ∧
      RunsC V n (.compLoop (lcomp elt target iter ifs scope pos) 0 it (.ref D) (cenv scope cl C env)) ((C, .ns []) :: (D, .list []) :: st2)
        (fun _ st3 => Runs V n (assign (.Name x px) env (.ref D)) st3 (fun _ st4 => ∃ l st5, SDel C (.ns l) st4 st5 ∧ Q .next st5))))) :
    Runs V n (exec (.Assign [.Name x px] (.ListComp elt [⟨target, iter, ifs, 0⟩] scope pos) spos) env) st Q X := by
  rw [exec_Assign_Name_used _ _ _ _ hsw]
  refine Runs.bind (Runs.standAt (Runs.bind ?_))
  refine Runs.mono (Q := fun _ s' => Q .next s') (show Runs V n (do let _ ← comprehension (.ListComp elt [⟨target, iter, ifs, 0⟩] scope pos) scope env (firstIterPos [⟨target, iter, ifs, 0⟩] pos) (newList []) false (eval iter env) (some (assign (.Name x px) env))) st (fun _ s' => Q .next s') X from ?_) ?_
  · exact Runs.bind ((R_compCore (use := some (assign (.Name x px) env)) (Q := fun _ s' => Q .next s') hs hclos hkind hnames hcell h).mono fun _ _ q => Runs.pure q)
  · exact fun _ _ q => Runs.pure q

theorem R_cwKn {env : Env} {f : Value} {pos : Pos} {e : Expr} {rest : List Expr} {Q : Value → Sto → Prop} (hk : keepIn (hd.heap_1 V.w.params) f = true) (he : starEach (e :: rest) env = (false, eval e env) :: starEach rest env) (hp : (backTo pos (starEach rest env)).any (·.1) = false)
    (h : Runs V n (spliced (backTo pos (starEach (e :: rest) env))) st (fun vs st1 => Runs V n (call f vs) st1 Q X) X) : Runs V n (callWith pos f [] (backTo pos (starEach (e :: rest) env)) []) st Q X := R_cwK hk h he hp
theorem R_cwK0n {env : Env} {f : Value} {pos : Pos} {Q : Value → Sto → Prop} (hk : keepIn (hd.heap_1 V.w.params) f = true) (h : Runs V n (call f []) st Q X) : Runs V n (callWith pos f [] (backTo pos (starEach [] env)) []) st Q X := R_cwK0 hk h
theorem R_cwBn {env : Env} {id : String} {pos : Pos} {e : Expr} {rest : List Expr} {Q : Value → Sto → Prop} (he : starEach (e :: rest) env = (false, eval e env) :: starEach rest env) (hp : (backTo pos (starEach rest env)).any (·.1) = false)
    (h : Runs V n (spliced (backTo pos (starEach (e :: rest) env))) st (fun vs st1 => Runs V n (call (.builtin id) vs) st1 Q X) X) : Runs V n (callWith pos (.builtin id) [] (backTo pos (starEach (e :: rest) env)) []) st Q X := R_cwB h he hp
theorem R_cwB1 {env : Env} {id : String} {v : Value} {pos : Pos} {e : Expr} {rest : List Expr} {Q : Value → Sto → Prop} (he : starEach (e :: rest) env = (false, eval e env) :: starEach rest env) (hp : (backTo pos (starEach rest env)).any (·.1) = false)
    (h : Runs V n (spliced (backTo pos (starEach (e :: rest) env))) st (fun vs st1 => Runs V n (call (.builtin id) (v :: vs)) st1 Q X) X) : Runs V n (callWith pos (.builtin id) [v] (backTo pos (starEach (e :: rest) env)) []) st Q X := R_cwB h he hp
theorem R_cwB01 {env : Env} {id : String} {v : Value} {pos : Pos} {Q : Value → Sto → Prop} (h : Runs V n (call (.builtin id) [v]) st Q X) : Runs V n (callWith pos (.builtin id) [v] (backTo pos (starEach [] env)) []) st Q X := R_cwB0 h
inductive Put (x : Str) (v : Value) : List (Str × Value) → List (Str × Value) → Prop
  | new : Put x v [] [(x, v)]
  | here {u : Value} {r : List (Str × Value)} : Put x v ((x, u) :: r) ((x, v) :: r)
  | there {y : Str} {u : Value} {r r' : List (Str × Value)} : (x == y) = false → Put x v r r' → Put x v ((y, u) :: r) ((y, u) :: r')
theorem Put.eq {x : Str} {v : Value} {l l' : List (Str × Value)} (h : Put x v l l') : put x v l = l' := by
  induction h with
  | new => rfl
  | here => unfold put; rw [if_pos (beq_self_eq_true _)]
  | there hn _ ih => unfold put; rw [if_neg (by rw [hn]; exact Bool.false_ne_true), ih]
theorem fenv_L {sc : Scope} {L : Addr} {cl : List (Str × Addr)} {q : Str} {f : Addr} {cd : Value} : (fenv sc L cl q f cd).locals = L := rfl
theorem cenv_L {sc : Scope} {C : Addr} {cl : List (Str × Addr)} {e : Env} : (cenv sc cl C e).locals = C := rfl
theorem R_stP {env : Env} {L : Addr} {l l' : List (Str × Value)} {x : Str} {v : Value} {st' : Sto} {Q : Unit → Sto → Prop} (hk : env.scope.kind = .function) (hl : env.kindOf x = some .local) (hLL : env.locals = L) (hL : SSet L (.ns l) (.ns l') st st') (hp : Put x v l l') (h : Q () st') :
    Runs V n (storeName env x v) st Q X := R_stL hk hl (by rw [hLL]; exact hL) hp.eq h
theorem R_ldP {env : Env} {L : Addr} {l : List (Str × Value)} {x : Str} {v : Value} {Q : Value → Sto → Prop} (hk : env.scope.kind = .function) (hl : env.kindOf x = some .local) (hLL : env.locals = L)
   (hL : (L, En.ns l) ∈ st) (hx : (x, v) ∈ l) (h : Q v st) : Runs V n (loadName env x) st Q X := R_ldLocal (by rw [hLL]; exact hL) hx h hk hl
theorem R_asTuple2 {env : Env} {e1 e2 : Expr} {kk : Nat} {pos : Pos} {t : Addr} {v1 v2 : Value} {Q : Unit → Sto → Prop} (hm : (t, En.tup [v1, v2]) ∈ st) (he : assignEach [e1, e2] env = [(false, assign e1 env), (false, assign e2 env)])
    (h : Runs V n (assign e1 env v1) st (fun _ st1 => Runs V n (assign e2 env v2) st1 Q X) X) : Runs V n (assign (.Tuple [e1, e2] kk pos) env (.ref t)) st Q X := by
  refine R_asTuple hm (by rw [he]; rfl) (by rw [he]; rfl) ?_
  rw [he]
  exact R_ao_cons (h.mono fun _ _ q => R_ao_cons (q.mono fun _ _ q => R_ao_nil q))
theorem R_asTupG {env : Env} {elts : List Expr} {kk : Nat} {pos : Pos} {t : Addr} {vs : List Value} {T : Nat} {Q : Unit → Sto → Prop} (hm : (t, En.tupg vs T) ∈ st) (hn : (assignEach elts env).length = vs.length) (hstar : (assignEach elts env).findIdx? (·.1) = none)
    (h : Runs V n (assignInOrder ((assignEach elts env).map (·.2)) vs) st Q X) : Runs V n (assign (.Tuple elts kk pos) env (.ref t)) st Q X := fun A s R E rm I k y =>
  wpAny_assign_Tuple rm.hd (I.st.tupg hm) (by simpa using hn) hstar fun h' he => h A _ R E rm (I.ath (I.st.keeps fun b o e => he b o (fun q => by subst q; rw [get?_size_none] at e; cases e) e)) k y
theorem R_asTupG2 {env : Env} {e1 e2 : Expr} {kk : Nat} {pos : Pos} {t : Addr} {v1 v2 : Value} {T : Nat} {Q : Unit → Sto → Prop} (hm : (t, En.tupg [v1, v2] T) ∈ st) (he : assignEach [e1, e2] env = [(false, assign e1 env), (false, assign e2 env)])
    (h : Runs V n (assign e1 env v1) st (fun _ st1 => Runs V n (assign e2 env v2) st1 Q X) X) : Runs V n (assign (.Tuple [e1, e2] kk pos) env (.ref t)) st Q X := by
  refine R_asTupG hm (by rw [he]; rfl) (by rw [he]; rfl) ?_
  rw [he]
  exact R_ao_cons (h.mono fun _ _ q => R_ao_cons (q.mono fun _ _ q => R_ao_nil q))
theorem R_asTuple3 {env : Env} {e1 e2 e3 : Expr} {kk : Nat} {pos : Pos} {t : Addr} {v1 v2 v3 : Value} {Q : Unit → Sto → Prop} (hm : (t, En.tup [v1, v2, v3]) ∈ st) (he : assignEach [e1, e2, e3] env = [(false, assign e1 env), (false, assign e2 env), (false, assign e3 env)])
    (h : Runs V n (assign e1 env v1) st (fun _ st1 => Runs V n (assign e2 env v2) st1 (fun _ st2 => Runs V n (assign e3 env v3) st2 Q X) X) X) : Runs V n (assign (.Tuple [e1, e2, e3] kk pos) env (.ref t)) st Q X := by
  refine R_asTuple hm (by rw [he]; rfl) (by rw [he]; rfl) ?_
  rw [he]
  exact R_ao_cons (h.mono fun _ _ q => R_ao_cons (q.mono fun _ _ q => R_ao_cons (q.mono fun _ _ q => R_ao_nil q)))

abbrev zipSt (z TO TI a2 a1 : Addr) (a b : Value) (e2 e1 : En) (st : Sto) : Sto := (z, zipE .none TI TO) :: (TO, pairE a b) :: (TI, pairE (.ref a1) (.ref a2)) :: (a2, e2) :: (a1, e1) :: st
theorem zip_SS {x y : Str} {t u : Tok} {Q : Value → Sto → Prop} (hx : x.cps.all (· < 128) = true) (hy : y.cps.all (· < 128) = true) (h : ∀ z TO TI a2 a1 : Addr, a1 ≠ a2 → Q (.ref z) (zipSt z TO TI a2 a1 .none .none (itS y u 0) (itS x t 0) st)) :
    Runs V n (call (.type "zip") [.str x t, .str y u]) st Q X :=
  R_zip (hf1 := rfl) (hf2 := rfl) (e1 := itS x t 0) (e2 := itS y u 0) (C1 := fun _ => True) (C2 := fun _ => True) (o1 := { cls := .type "str_ascii_iterator", data := .fields #[.str x t, .int 0 0] }) (o2 := { cls := .type "str_ascii_iterator", data := .fields #[.str y u, .int 0 0] }) (fun _ h => wpAny_pyIter_ascii hx h) (fun _ h => wpAny_pyIter_ascii hy h) rfl rfl ⟨rfl, rfl⟩ ⟨rfl, rfl⟩ (fun _ _ => trivial) (fun _ _ => trivial) fun z TO TI a2 a1 _ _ _ _ _ n => h z TO TI a2 a1 n
theorem zip_TS {l : Addr} {vs : List Value} {y : Str} {u : Tok} {Q : Value → Sto → Prop} (hl : (l, .tup vs) ∈ st) (hy : y.cps.all (· < 128) = true) (h : ∀ z TO TI a2 a1 : Addr, a1 ≠ a2 → Q (.ref z) (zipSt z TO TI a2 a1 .none .none (itS y u 0) (itT l 0) st)) :
    Runs V n (call (.type "zip") [.ref l, .str y u]) st Q X :=
  R_zip (hf1 := rfl) (hf2 := rfl) (e1 := itT l 0) (e2 := itS y u 0) (C1 := fun h => h.IsTuple l vs.toArray) (C2 := fun _ => True) (o1 := { cls := .type "tuple_iterator", data := .fields #[.ref l, .int 0 0] }) (o2 := { cls := .type "str_ascii_iterator", data := .fields #[.str y u, .int 0 0] }) (fun c h => wpAny_pyIter_tuple c h) (fun _ h => wpAny_pyIter_ascii hy h) rfl rfl ⟨rfl, rfl⟩ ⟨rfl, rfl⟩ (fun _ S => S.tup hl) (fun _ _ => trivial) fun z TO TI a2 a1 _ _ _ _ _ n => h z TO TI a2 a1 n
theorem zip_SL {l : Addr} {vs : List Value} {y : Str} {u : Tok} {Q : Value → Sto → Prop} (hy : y.cps.all (· < 128) = true) (hl : (l, .list vs) ∈ st) (h : ∀ z TO TI a2 a1 : Addr, a1 ≠ a2 → Q (.ref z) (zipSt z TO TI a2 a1 .none .none (itL l 0) (itS y u 0) st)) :
    Runs V n (call (.type "zip") [.str y u, .ref l]) st Q X :=
  R_zip (hf1 := rfl) (hf2 := rfl) (e1 := itS y u 0) (e2 := itL l 0) (C1 := fun _ => True) (C2 := fun h => h.IsList l vs.toArray) (o2 := { cls := .type "list_iterator", data := .fields #[.ref l, .int 0 0] }) (o1 := { cls := .type "str_ascii_iterator", data := .fields #[.str y u, .int 0 0] }) (fun _ h => wpAny_pyIter_ascii hy h) (fun c h => wpAny_pyIter_list c h) rfl rfl ⟨rfl, rfl⟩ ⟨rfl, rfl⟩ (fun _ _ => trivial) (fun _ S => S.list hl) fun z TO TI a2 a1 _ _ _ _ _ n => h z TO TI a2 a1 n
theorem zip_LL {l l' : Addr} {vs ws : List Value} {Q : Value → Sto → Prop} (hl : (l, .list vs) ∈ st) (hl' : (l', .list ws) ∈ st) (h : ∀ z TO TI a2 a1 : Addr, a1 ≠ a2 → Q (.ref z) (zipSt z TO TI a2 a1 .none .none (itL l' 0) (itL l 0) st)) :
    Runs V n (call (.type "zip") [.ref l, .ref l']) st Q X :=
  R_zip (hf1 := rfl) (hf2 := rfl) (e1 := itL l 0) (e2 := itL l' 0) (C1 := fun h => h.IsList l vs.toArray) (C2 := fun h => h.IsList l' ws.toArray) (o2 := { cls := .type "list_iterator", data := .fields #[.ref l', .int 0 0] }) (o1 := { cls := .type "list_iterator", data := .fields #[.ref l, .int 0 0] }) (fun c h => wpAny_pyIter_list c h) (fun c h => wpAny_pyIter_list c h) rfl rfl ⟨rfl, rfl⟩ ⟨rfl, rfl⟩ (fun _ S => S.list hl) (fun _ S => S.list hl') fun z TO TI a2 a1 _ _ _ _ _ n => h z TO TI a2 a1 n
end
end Mine
end

section
set_option linter.unusedVariables false
namespace Mine
open PySem PySem.W PyProof.Rows PySem.Calls PySem.Spec

theorem ns_none_of {K : Frag} {h : Heap} {ns : Addr} {mg : Str → Option Value} {x : Str} (X : K.In h) (G : h.Ns ns mg) (e : nsIn K ns x = some none) : mg x = none := by
  obtain ⟨o, es, ep, ho, hd, _, hf⟩ := G
  unfold nsIn at e
  split at e
  · rename_i c d es' n' sl q
    have := X _ _ q
    rw [ho] at this
    cases this
    cases hd
    split at e
    · cases e
    · rename_i he
      rw [← hf]
      unfold nsFind findBy
      rw [← Array.find?_toList, he]
      rfl
  · cases e

/-- texts with tokens that are known: above nought, below k -/
inductive TS (k : Nat) : List Value → List Str → Prop
  | nil : TS k [] []
  | cons (x : Str) (t : Nat) {vs xs} : 0 < t → t < k → TS k vs xs → TS k (.str x t :: vs) (x :: xs)
theorem TS.strs {k : Nat} {vs : List Value} {xs : List Str} (h : TS k vs xs) : StrsAre vs xs := by
  induction h with
  | nil => exact .nil
  | cons x t _ _ _ ih => exact .cons x t ih
theorem TS.le {k k' : Nat} {vs : List Value} {xs : List Str} (h : TS k vs xs) (hk : k ≤ k') : TS k' vs xs := by
  induction h with
  | nil => exact .nil
  | cons x t a b _ ih => exact .cons x t a (Nat.lt_of_lt_of_le b hk) ih
theorem TS.app {k : Nat} {vs ws : List Value} {xs ys : List Str} (h : TS k vs xs) (h' : TS k ws ys) : TS k (vs ++ ws) (xs ++ ys) := by
  induction h with
  | nil => exact h'
  | cons x t a b _ ih => exact .cons x t a b ih
theorem TS.length {k : Nat} {vs : List Value} {xs : List Str} (h : TS k vs xs) : vs.length = xs.length := by
  induction h with
  | nil => rfl
  | cons x t _ _ _ ih => simp [ih]
theorem TS.get {k : Nat} {vs : List Value} {xs : List Str} (h : TS k vs xs) : ∀ {i : Nat} {x : Str}, xs[i]? = some x → ∃ t : Nat, 0 < t ∧ t < k ∧ vs[i]? = some (.str x t) := by
  induction h with
  | nil => intro i x hx; simp at hx
  | cons x t a b _ ih =>
    intro i y hy
    cases i with
    | zero => simp at hy; subst hy; exact ⟨t, a, b, rfl⟩
    | succ i => exact ih (by simpa using hy)

theorem ints_len {vs : List Value} {ns : List Int} (h : IntsAre vs ns) : vs.length = ns.length := by
  induction h with
  | nil => rfl
  | cons _ _ _ ih => simp [ih]
theorem ints_at {vs : List Value} {ns : List Int} (h : IntsAre vs ns) : ∀ {i : Nat} {x : Int}, ns[i]? = some x → ∃ t, vs[i]? = some (.int x t) := by
  induction h with
  | nil => intro i x hx; simp at hx
  | cons x t _ ih =>
    intro i y hy
    cases i with
    | zero => simp at hy; subst hy; exact ⟨t, rfl⟩
    | succ i => exact ih (by simpa using hy)
theorem strs_len {vs : List Value} {ns : List Str} (h : StrsAre vs ns) : vs.length = ns.length := by
  induction h with
  | nil => rfl
  | cons _ _ _ ih => simp [ih]
theorem strs_at {vs : List Value} {ns : List Str} (h : StrsAre vs ns) : ∀ {i : Nat} {x : Str}, ns[i]? = some x → ∃ t, vs[i]? = some (.str x t) := by
  induction h with
  | nil => intro i x hx; simp at hx
  | cons x t _ ih =>
    intro i y hy
    cases i with
    | zero => simp at hy; subst hy; exact ⟨t, rfl⟩
    | succ i => exact ih (by simpa using hy)
theorem all_eq {α : Type} [BEq α] [LawfulBEq α] [DecidableEq α] (xs ys : List α) (h : xs.length = ys.length) : (List.range xs.length).all (fun j => xs[j]? == ys[j]?) = decide (xs = ys) := by
  by_cases e : xs = ys
  · subst e; simp
  · rw [decide_eq_false e]
    rw [Bool.eq_false_iff]
    intro q
    apply e
    apply List.ext_getElem?
    intro j
    by_cases hj : j < xs.length
    · have := List.all_eq_true.mp q j (List.mem_range.mpr hj)
      exact eq_of_beq this
    · rw [List.getElem?_eq_none (by omega), List.getElem?_eq_none (by omega)]
theorem str_eq_cps (x y : Str) : (x.cps.toList == y.cps.toList) = (x == y) := by
  by_cases h : x = y
  · subst h; simp
  · have : x.cps.toList ≠ y.cps.toList := fun q => h (by
      cases x; cases y
      congr 1
      exact Array.toList_inj.mp q)
    rw [beq_eq_false_iff_ne.mpr this, beq_eq_false_iff_ne.mpr h]

section
variable {A : Around} {s : Shared}
theorem eqAt_str {vs ws : List Value} {xs ys : List Str} (h : StrsAre vs xs) (h' : StrsAre ws ys) : ∀ j (h1 : j < vs.toArray.size) (h2 : j < ws.toArray.size), PySem.SeqAt.EqAt A s vs.toArray[j] ws.toArray[j] (xs[j]? == ys[j]?) := by
  intro j h1 h2
  have g1 : j < xs.length := by rw [← strs_len h]; simpa using h1
  have g2 : j < ys.length := by rw [← strs_len h']; simpa using h2
  obtain ⟨t, e1⟩ := strs_at h (List.getElem?_eq_getElem g1)
  obtain ⟨u, e2⟩ := strs_at h' (List.getElem?_eq_getElem g2)
  have f1 : vs.toArray[j] = .str xs[j] t := by
    have := (List.getElem?_eq_some_iff.mp e1).2; simpa using this
  have f2 : ws.toArray[j] = .str ys[j] u := by
    have := (List.getElem?_eq_some_iff.mp e2).2; simpa using this
  rw [f1, f2, List.getElem?_eq_getElem g1, List.getElem?_eq_getElem g2]
  have := (PySem.SeqRoads2.EqGives.str xs[j] ys[j] t u).at A s
  rw [str_eq_cps] at this
  have e : (some xs[j] == some ys[j]) = (xs[j] == ys[j]) := rfl
  rw [e]; exact this
theorem eqAt_int {vs ws : List Value} {xs ys : List Int} (h : IntsAre vs xs) (h' : IntsAre ws ys) : ∀ j (h1 : j < vs.toArray.size) (h2 : j < ws.toArray.size), PySem.SeqAt.EqAt A s vs.toArray[j] ws.toArray[j] (xs[j]? == ys[j]?) := by
  intro j h1 h2
  have g1 : j < xs.length := by rw [← ints_len h]; simpa using h1
  have g2 : j < ys.length := by rw [← ints_len h']; simpa using h2
  obtain ⟨t, e1⟩ := ints_at h (List.getElem?_eq_getElem g1)
  obtain ⟨u, e2⟩ := ints_at h' (List.getElem?_eq_getElem g2)
  have f1 : vs.toArray[j] = .int xs[j] t := by
    have := (List.getElem?_eq_some_iff.mp e1).2; simpa using this
  have f2 : ws.toArray[j] = .int ys[j] u := by
    have := (List.getElem?_eq_some_iff.mp e2).2; simpa using this
  rw [f1, f2, List.getElem?_eq_getElem g1, List.getElem?_eq_getElem g2]
  exact (PySem.MeetsSeq.EqGives.int xs[j] ys[j] t u).at A s
end

theorem SLe.nsk (k : Nat) {a : Addr} {l : List (Str × Value)} {r r' : Sto} (h : SLe r r') : SLe ((a, .ns l) :: r) ((a, .ns (l.take k)) :: r') := .ns (List.take_sublist k l) h
section
variable {V : Cx} {n : Nat} {α β : Type} {st : Sto} {X : Value → Sto → Prop}
theorem Runs.ite_t {a b : Sem α} {Q : α → Sto → Prop} (h : Runs V n a st Q X) : Runs V n (if true = true then a else b) st Q X := h
theorem Runs.ite_f {a b : Sem α} {Q : α → Sto → Prop} (h : Runs V n b st Q X) : Runs V n (if false = true then a else b) st Q X := h
theorem R_eq_ints {l b : Addr} {vs ws : List Value} {xs ys : List Int} {Q : Value → Sto → Prop} (hl : (l, En.list vs) ∈ st) (hb : (b, En.li ws) ∈ st) (hi : IntsAre vs xs) (hj : IntsAre ws ys) (h : Q (.bool (decide (xs = ys))) st) : Runs V n (compareOp .Eq (.ref l) (.ref b)) st Q X := fun A s R E rm I k _ => by
  by_cases hz : xs.length = ys.length
  · refine PySem.SeqAt.eq_listAt (e := fun j => xs[j]? == ys[j]?) (I.st.list hl) (I.st.li hb) (by simp [ints_len hi, ints_len hj, hz]) rm.units (eqAt_int hi hj) ?_
    have : (List.range vs.toArray.size).all (fun j => xs[j]? == ys[j]?) = decide (xs = ys) := by
      rw [List.size_toArray, ints_len hi]; exact all_eq xs ys hz
    rw [this]
    exact k _ _ _ I h
  · refine PySem.SeqAt.eq_list_lengthsAt (I.st.list hl) (I.st.li hb) (by simp [ints_len hi, ints_len hj, hz]) rm.units ?_
    rw [decide_eq_false (fun q => hz (by rw [q]))] at h
    exact k _ _ _ I h
theorem R_ne_strs {l b : Addr} {vs ws : List Value} {xs ys : List Str} {Q : Value → Sto → Prop} (hl : (l, En.list vs) ∈ st) (hb : (b, En.list ws) ∈ st) (hi : StrsAre vs xs) (hj : StrsAre ws ys) (h : Q (.bool (!decide (xs = ys))) st) : Runs V n (compareOp .NotEq (.ref l) (.ref b)) st Q X := fun A s R E rm I k _ => by
  by_cases hz : xs.length = ys.length
  · refine PySem.SeqAt.RcNeAt.lists (e := fun j => xs[j]? == ys[j]?) (I.st.list hl) (I.st.list hb) (by simp [strs_len hi, strs_len hj, hz]) rm.units (eqAt_str hi hj) _ _ _ _ ?_
    have : (List.range vs.toArray.size).all (fun j => xs[j]? == ys[j]?) = decide (xs = ys) := by
      rw [List.size_toArray, strs_len hi]; exact all_eq xs ys hz
    rw [this]
    exact k _ _ _ I h
  · refine PySem.SeqAt.RcNeAt.lists_lengths (I.st.list hl) (I.st.list hb) (by simp [strs_len hi, strs_len hj, hz]) rm.units _ _ _ _ ?_
    rw [decide_eq_false (fun q => hz (by rw [q]))] at h
    exact k _ _ _ I h
/-- a list that is empty or not -/
theorem R_eq_nil {l b : Addr} {vs : List Value} {Q : Value → Sto → Prop} (hl : (l, En.list vs) ∈ st) (hb : (b, En.list []) ∈ st) (h : Q (.bool vs.isEmpty) st) : Runs V n (compareOp .Eq (.ref l) (.ref b)) st Q X := fun A s R E rm I k _ => by
  cases vs with
  | nil =>
    refine PySem.SeqAt.eq_listAt (e := fun _ => true) (I.st.list hl) (I.st.list hb) rfl rm.units (fun j h1 _ => absurd h1 (by simp)) ?_
    exact k _ _ _ I h
  | cons v r => exact PySem.SeqAt.eq_list_lengthsAt (I.st.list hl) (I.st.list hb) (by simp) rm.units (k _ _ _ I h)
theorem R_sum {l : Addr} {vs : List Value} {ns : List Int} {Q : Value → Sto → Prop} (hl : (l, En.list vs) ∈ st) (hi : IntsAre vs ns) (h : ∀ t, Q (.int ns.sum t) st) : Runs V n (call (.builtin "sum") [.ref l]) st Q X := Runs.tk fun A s R E rm I k _ => by
  have hL := I.st.list hl
  obtain ⟨xs, hxs⟩ := hi.allInts.items
  have hn := hi.numsOf
  have hq : vs = (intItems xs).toList := by rw [← hxs]
  rw [hq] at hn
  rw [hxs] at hL
  refine sum_intListG rm.hd hL fun h' tk t' hk ht => ?_
  rw [preSum_eq, List.take_of_length_le (by simp), ← nums_intItems, hn]
  exact k _ _ _ ht (fun ht => I.at (I.st.keeps hk) (Nat.le_refl _) ht) (h _)
theorem booked (hk : nsIn (hd.heap_1 V.w.params) cStatics sharingNotToldKey = some none) {s : Shared} (I : Inv V s st) : NoneBooked s.heap := by
  obtain ⟨mc, hm, _⟩ := I.ok.lim
  exact ⟨mc, hm.keeps I.st.old, ns_none_of I.ok.kin hm hk⟩
theorem R_is_str {a b : Str} {t u : Tok} {Q : Value → Sto → Prop} (hk : nsIn (hd.heap_1 V.w.params) cStatics sharingNotToldKey = some none) (ht : 0 < t) (hu : 0 < u) (hne : t = u → a = b) (h : ∀ r : Bool, (r = true → a = b) → Q (.bool r) st) :
    Runs V n (compareOp .Is (.str a t) (.str b u)) st Q X := fun A s R E rm I k _ => by
  have hb := booked hk I
  have t0 : (t == 0 || u == 0) = false := by
    rw [Bool.or_eq_false_iff]
    exact ⟨beq_eq_false_iff_ne.mpr (Nat.ne_of_gt ht), beq_eq_false_iff_ne.mpr (Nat.ne_of_gt hu)⟩
  show wpAny _ A (do return Value.bool (← isSame (.str a t) (.str b u))) _ _ s
  refine wpAny_bind ?_
  show wpAny _ A (isSame.created (a == b) t u) _ _ s
  have fin : ∀ r : Bool, (r = true → a = b) → wpAny (model PySem.Challenge.rw_ti0058_01.row.prog V.w) A (Pure.pure (Value.bool r)) R E s := fun r hr => wpAny_pure (k _ _ _ I (h r hr))
  unfold isSame.created
  refine wpAny_ite ?_
  split
  · rename_i hh; rw [t0] at hh; exact absurd hh Bool.false_ne_true
  refine wpAny_ite ?_
  split
  · rename_i hh; exact wpAny_pure (fin _ fun _ => hne (eq_of_beq hh))
  refine wpAny_ite ?_
  split
  · exact wpAny_pure (fin _ fun q => nomatch q)
  rename_i hh
  have hab : a = b := by
    by_cases q : a = b
    · exact q
    · exact absurd (by rw [beq_eq_false_iff_ne.mpr q]; rfl) hh
  refine wpAny_bind (wpAny_sharingNotTold_none hb ?_)
  first | rw [if_neg Bool.false_ne_true] | simp only [Bool.false_eq_true, if_false]
  refine wpAny_bind (wpAny_sharingNotTold_none hb ?_)
  first | rw [if_neg Bool.false_ne_true] | simp only [Bool.false_eq_true, if_false]
  exact wpAny_bind (wpAny_rule (wpAny_bind (wpAny_askSetting (wpAny_pure (fin _ fun _ => hab)))))
end
end Mine
end

section
set_option linter.unusedVariables false
namespace Mine
open PySem PySem.W PyProof.Rows PySem.Calls PySem.Spec

section
variable {V : Cx} {n : Nat} {α β : Type} {st : Sto} {X : Value → Sto → Prop}
theorem R_B_one {env : Env} {op : BoolOp} {e : Expr} {pos : Pos} {Q : Value → Sto → Prop} (h : Runs V n (eval e env) st Q X) : Runs V n (eval (.BoolOp op [e] pos) env) st Q X := fun A s R E rm I k x => BoolOp_one (h A s R E rm I k x)
theorem R_B_and {env : Env} {e₁ e₂ : Expr} {rest : List Expr} {pos : Pos} {Q : Value → Sto → Prop}
    (h : Runs V n (eval e₁ env) st (fun v st1 => Runs V n (truthy v) st1 (fun b st2 => (b = true → Runs V n (eval (.BoolOp .And (e₂ :: rest) pos) env) st2 Q X) ∧ (b = false → Q v st2)) X) X) :
    Runs V n (eval (.BoolOp .And (e₁ :: e₂ :: rest) pos) env) st Q X := fun A s R E rm I k x =>
  BoolOp_and (h A s _ E rm I (fun v s1 st1 I1 h1 => h1 A s1 _ E rm I1 (fun b s2 st2 I2 h2 => by cases b with | true => exact h2.1 rfl A s2 R E rm I2 k x | false => exact k _ s2 st2 I2 (h2.2 rfl)) x) x)
theorem R_B_or {env : Env} {e₁ e₂ : Expr} {rest : List Expr} {pos : Pos} {Q : Value → Sto → Prop}
    (h : Runs V n (eval e₁ env) st (fun v st1 => Runs V n (truthy v) st1 (fun b st2 => (b = true → Q v st2) ∧ (b = false → Runs V n (eval (.BoolOp .Or (e₂ :: rest) pos) env) st2 Q X)) X) X) :
    Runs V n (eval (.BoolOp .Or (e₁ :: e₂ :: rest) pos) env) st Q X := fun A s R E rm I k x =>
  BoolOp_or (h A s _ E rm I (fun v s1 st1 I1 h1 => h1 A s1 _ E rm I1 (fun b s2 st2 I2 h2 => by cases b with | true => exact k _ s2 st2 I2 (h2.1 rfl) | false => exact h2.2 rfl A s2 R E rm I2 k x) x) x)
theorem R_swap2 {env : Env} {elts vals : List Expr} {kk kv : Nat} {tpos vpos pos : Pos} {n1 n2 : Str} {Q : Flow → Sto → Prop}
    (hs : swapsWithSole [.Tuple elts kk tpos] (.Tuple vals kv vpos) pos.line env = Pure.pure false) (hw : swappedStores [.Tuple elts kk tpos] (.Tuple vals kv vpos) env = Pure.pure (some [n1, n2]))
    (h : Runs V n (spliced (backTo vpos (starEach vals env))) st (fun vs st1 => ∃ a b, vs = [a, b] ∧ ∀ t, Runs V n (storeName env n2 b) ((t, .tup [a, b]) :: st1) (fun _ st2 => Runs V n (storeName env n1 a) st2 (fun _ st3 => Q .next st3) X) X) X) :
    Runs V n (exec (.Assign [.Tuple elts kk tpos] (.Tuple vals kv vpos) pos) env) st Q X := by
  refine R_AssignSwap (R_Tuple (h.mono fun vs st1 q => ?_)) hs hw
  obtain ⟨a, b, rfl, q⟩ := q
  refine ⟨by simp, fun t => ⟨t, _, rfl, List.mem_cons_self, rfl, ?_⟩⟩
  exact R_ao_cons (R_bindName ((q t).mono fun _ _ q => R_ao_cons (R_bindName (q.mono fun _ _ q => R_ao_nil q))))
theorem R_swap3 {env : Env} {elts vals : List Expr} {kk kv : Nat} {tpos vpos pos : Pos} {n1 n2 n3 : Str} {Q : Flow → Sto → Prop}
    (hs : swapsWithSole [.Tuple elts kk tpos] (.Tuple vals kv vpos) pos.line env = Pure.pure false) (hw : swappedStores [.Tuple elts kk tpos] (.Tuple vals kv vpos) env = Pure.pure (some [n1, n2, n3]))
    (h : Runs V n (spliced (backTo vpos (starEach vals env))) st (fun vs st1 => ∃ a b c, vs = [a, b, c] ∧ ∀ t, Runs V n (storeName env n3 c) ((t, .tup [a, b, c]) :: st1) (fun _ st2 => Runs V n (storeName env n2 b) st2 (fun _ st3 => Runs V n (storeName env n1 a) st3 (fun _ st4 => Q .next st4) X) X) X) X) :
    Runs V n (exec (.Assign [.Tuple elts kk tpos] (.Tuple vals kv vpos) pos) env) st Q X := by
  refine R_AssignSwap (R_Tuple (h.mono fun vs st1 q => ?_)) hs hw
  obtain ⟨a, b, c, rfl, q⟩ := q
  refine ⟨by simp, fun t => ⟨t, _, rfl, List.mem_cons_self, rfl, ?_⟩⟩
  exact R_ao_cons (R_bindName ((q t).mono fun _ _ q => R_ao_cons (R_bindName (q.mono fun _ _ q => R_ao_cons (R_bindName (q.mono fun _ _ q => R_ao_nil q))))))
/-- two ways that end alike -/
theorem R_IfExpJ {env : Env} {c a b : Expr} {pos : Pos} {Q : Value → Sto → Prop} (P : Bool → Prop)
    (h : Runs V n (isTrue c env (eval c env)) st (fun t st1 => P t ∧ Runs V n (if t then eval a env else eval b env) st1 Q X) X) : Runs V n (eval (.IfExp c a b pos) env) st Q X := R_IfExp (h.mono fun _ _ q => q.2)
theorem R_up1 {c d : Nat} {t : Tok} {Q : Value → Sto → Prop} (hup : Txt.upper ⟨#[c]⟩ = ⟨#[d]⟩) (h : ∀ t, Q (.str ⟨#[d]⟩ t) st) : Runs V n (call (.builtin "str.upper") [.str ⟨#[c]⟩ t]) st Q X :=
  R_upper (by rw [hup]; show Builtin.Str.tooLong 1 = false; decide) (by rw [hup]; exact h)
theorem R_lo1 {c d : Nat} {t : Tok} {Q : Value → Sto → Prop} (hup : Txt.lower ⟨#[c]⟩ = ⟨#[d]⟩) (h : ∀ t, Q (.str ⟨#[d]⟩ t) st) : Runs V n (call (.builtin "str.lower") [.str ⟨#[c]⟩ t]) st Q X :=
  R_lower (by rw [hup]; show Builtin.Str.tooLong 1 = false; decide) (by rw [hup]; exact h)
/-- ways that end alike -/
theorem Runs.join {t : Sem α} {Q : α → Sto → Prop} (w : α → Prop) (st0 : Sto) (h : Runs V n t st (fun a st' => w a ∧ SLe st' st0) X) (hq : ∀ a, w a → Q a st0) : Runs V n t st Q X :=
  fun A s R E rm I k x => h A s R E rm I (fun a s' st' I' q => k a s' st0 (I'.le q.2) (hq a q.1)) x
theorem Runs.joinS {t : Sem α} {Q : α → Sto → Prop} (w : α → Prop) (h : Runs V n t st (fun a st' => w a ∧ SLe st' st) X) (hq : ∀ a, w a → Q a st) : Runs V n t st Q X := Runs.join w st h hq
theorem R_mS {env : Env} {o : Expr} {name : Str} {apos pos : Pos} {args : List Expr} {id : String} {Q : Value → Sto → Prop}
    (slot : Slot "str" name id) (hty : typeOf (.builtin id) = Pure.pure (.type "method_descriptor")) (hbase : attributeBase o name env (eval o env) = eval o env)
    (hfew : ((backTo pos (starEach args env)).all (fun x => !x.1) && (backToKw pos (keywordEach [] env)).all (fun x => x.1.isSome) && decide (args.length + ([] : List Keyword).length + (if ([] : List Keyword).isEmpty then 0 else 1) < 30)) = true)
    (hline : (apos.endLine == pos.line) = true) (h : Runs V n (eval o env) st (fun v st1 => ∃ x t, v = .str x t ∧ Runs V n (callWith pos (.builtin id) [v] (backTo pos (starEach args env)) []) st1 Q X) X) : Runs V n (eval (.Call (.Attribute o name apos) args [] pos) env) st Q X := R_methS slot hty h hbase hfew hline
theorem R_mL {env : Env} {o : Expr} {name : Str} {apos pos : Pos} {args : List Expr} {id : String} {Q : Value → Sto → Prop}
    (slot : Slot "list" name id) (hty : typeOf (.builtin id) = Pure.pure (.type "method_descriptor")) (hbase : attributeBase o name env (eval o env) = eval o env)
    (hfew : ((backTo pos (starEach args env)).all (fun x => !x.1) && (backToKw pos (keywordEach [] env)).all (fun x => x.1.isSome) && decide (args.length + ([] : List Keyword).length + (if ([] : List Keyword).isEmpty then 0 else 1) < 30)) = true)
    (hline : (apos.endLine == pos.line) = true) (h : Runs V n (eval o env) st (fun v st1 => ∃ l vs, v = .ref l ∧ (l, En.list vs) ∈ st1 ∧ Runs V n (callWith pos (.builtin id) [v] (backTo pos (starEach args env)) []) st1 Q X) X) : Runs V n (eval (.Call (.Attribute o name apos) args [] pos) env) st Q X := R_methL slot hty h hbase hfew hline
end
/-- is the letter great -/
def gr (f s k p : Int) : Bool := ((0 == p - f) || (s == p - f)) || ((k == 0) && (decide (0 < p - f) && ((p - f).fmod s == 0)))
def chS (b : Bool) (j : Nat) : Nat := if b then 65 + j else 97 + j
def spS (g : Nat → Bool) (m : Nat) : Str := ⟨((List.range m).map fun j => chS (g j) j).toArray⟩
theorem spS_succ (g : Nat → Bool) (m : Nat) : spS g (m + 1) = spS g m ++ ⟨#[chS (g m) m]⟩ := by
  show (⟨_⟩ : Str) = ⟨_⟩
  congr 1
  show _ = ((List.range m).map fun j => chS (g j) j).toArray ++ #[chS (g m) m]
  rw [List.range_succ, List.map_append]
  simp
theorem spS_len (g : Nat → Bool) (m : Nat) : (spS g m).length = m := by
  show (spS g m).cps.size = m
  simp [spS]
end Mine
end

section
set_option linter.unusedVariables false
namespace Mine
open PySem PySem.W PyProof.Rows PySem.Calls PySem.Spec

abbrev rowsE (rows : List (Addr × List Value)) : Sto := rows.map fun p => (p.1, En.list p.2)
abbrev rowsV (rows : List (Addr × List Value)) : List Value := rows.map fun p => .ref p.1
inductive RowsAre {α : Type} (P : List Value → α → Prop) : List (Addr × List Value) → List α → Prop
  | nil : RowsAre P [] []
  | cons {a : Addr} {vs : List Value} {x : α} {rows : List (Addr × List Value)} {xs : List α} : P vs x → RowsAre P rows xs → RowsAre P ((a, vs) :: rows) (x :: xs)
theorem RowsAre.app {α : Type} {P : List Value → α → Prop} {r r' : List (Addr × List Value)} {x x' : List α} (h : RowsAre P r x) (h' : RowsAre P r' x') : RowsAre P (r ++ r') (x ++ x') := by
  induction h with
  | nil => exact h'
  | cons p _ ih => exact .cons p ih
theorem RowsAre.mono {α : Type} {P P' : List Value → α → Prop} (hp : ∀ vs x, P vs x → P' vs x) {r : List (Addr × List Value)} {x : List α} (h : RowsAre P r x) : RowsAre P' r x := by
  induction h with
  | nil => exact .nil
  | cons p _ ih => exact .cons (hp _ _ p) ih
theorem RowsAre.len {α : Type} {P : List Value → α → Prop} {r : List (Addr × List Value)} {x : List α} (h : RowsAre P r x) : r.length = x.length := by
  induction h with
  | nil => rfl
  | cons _ _ ih => simp [ih]
theorem RowsAre.at {α : Type} {P : List Value → α → Prop} {r : List (Addr × List Value)} {x : List α} (h : RowsAre P r x) : ∀ {i : Nat} {y : α}, x[i]? = some y → ∃ a vs, r[i]? = some (a, vs) ∧ P vs y := by
  induction h with
  | nil => intro i y hy; simp at hy
  | cons p _ ih =>
    intro i y hy
    cases i with
    | zero => simp at hy; subst hy; exact ⟨_, _, rfl, p⟩
    | succ i => exact ih (by simpa using hy)
theorem rowsV_at {r : List (Addr × List Value)} {i : Nat} {a : Addr} {vs : List Value} (h : r[i]? = some (a, vs)) : (rowsV r)[i]? = some (.ref a) := by simp [rowsV, h]
theorem rowsE_mem {r : List (Addr × List Value)} {i : Nat} {a : Addr} {vs : List Value} (h : r[i]? = some (a, vs)) : (a, En.list vs) ∈ rowsE r := List.mem_map.mpr ⟨_, List.mem_of_getElem? h, rfl⟩
theorem flr_app (a b : Sto) : flr (a ++ b) = max (flr a) (flr b) := by
  induction a with
  | nil => simp [flr]
  | cons p r ih => simp only [List.cons_append, flr, ih]; omega
theorem SLe.front {p : Addr × En} {l r : Sto} : SLe (l ++ p :: r) (p :: (l ++ r)) := .perm List.perm_middle .refl
theorem SLe.back {p : Addr × En} {l r : Sto} : SLe (p :: (l ++ r)) (l ++ p :: r) := .perm List.perm_middle.symm .refl
theorem SLe.under {l r r' : Sto} (h : SLe r r') : SLe (l ++ r) (l ++ r') := by
  induction l with
  | nil => exact h
  | cons p l ih => exact .keep ih
theorem SLe.drop {l r : Sto} : SLe (l ++ r) r := by
  induction l with
  | nil => exact .refl
  | cons p l ih => exact .skip ih
open Classical in
theorem perm_rows {α : Type} (p c d i : α) (f R g b : List α) : (p :: (f ++ c :: d :: i :: (R ++ (g ++ b)))).Perm (c :: d :: i :: ((R ++ [p]) ++ ((f ++ g) ++ b))) := by
  refine List.perm_iff_count.mpr fun x => ?_
  simp only [List.count_append, List.count_cons, List.count_nil]
  omega
theorem SLe.back7 {p x1 x2 x3 x4 x5 x6 x7 : Addr × En} {r : Sto} : SLe (p :: x1 :: x2 :: x3 :: x4 :: x5 :: x6 :: x7 :: r) (x1 :: x2 :: x3 :: x4 :: x5 :: x6 :: x7 :: p :: r) := SLe.back (l := [x1, x2, x3, x4, x5, x6, x7])
section
variable {V : Cx} {n : Nat} {α β : Type} {st : Sto} {X : Value → Sto → Prop}
theorem R_iterL {l : Addr} {vs : List Value} {Q : Value → Sto → Prop} (hm : (l, En.list vs) ∈ st) (h : ∀ it, Q (.ref it) ((it, itL l 0) :: st)) : Runs V n (pyIter (.ref l)) st Q X := R_iter_list hm h
theorem R_iterT {l : Addr} {vs : List Value} {Q : Value → Sto → Prop} (hm : (l, En.tup vs) ∈ st) (h : ∀ it, Q (.ref it) ((it, itT l 0) :: st)) : Runs V n (pyIter (.ref l)) st Q X := R_iter_tup hm h
theorem R_iterS {x : Str} {t : Tok} {Q : Value → Sto → Prop} (ha : x.cps.all (· < 128) = true) (h : ∀ it, Q (.ref it) ((it, itS x t 0) :: st)) : Runs V n (pyIter (.str x t)) st Q X := R_iter_str ha h
end
end Mine
end

section
set_option linter.unusedVariables false
namespace Mine
open PySem PySem.W PyProof.Rows PySem.Calls PySem.Spec

abbrev tx (l : List Nat) : Str := ⟨l.toArray⟩
theorem fm_range (l : List Nat) : ∀ (k a : Nat), (List.range' a k).filterMap (fun i => l[i]?) = (l.drop a).take k
  | 0, a => by simp
  | k + 1, a => by
    rw [List.range'_succ, List.filterMap_cons, fm_range l k (a + 1)]
    by_cases h : a < l.length
    · rw [List.getElem?_eq_getElem h, List.drop_eq_getElem_cons h, List.take_succ_cons]
    · rw [List.getElem?_eq_none (by omega), List.drop_eq_nil_of_le (by omega), List.drop_eq_nil_of_le (by omega)]; simp
theorem cut_mid (l : List Nat) (a b : Nat) (hab : a ≤ b) (hb : b ≤ l.length) : cutS (tx l) (some (a : Int)) (some (b : Int)) = tx ((l.drop a).take (b - a)) := by
  unfold cutS
  rw [show (tx l).length = l.length from by show l.toArray.size = _; simp, StrLaws.strSliceIndices_plain hab hb]
  show (⟨_⟩ : Str) = ⟨_⟩
  congr 2
  have := fm_range l (b - a) a
  rw [List.range'_eq_map_range] at this
  simpa using this
theorem cut_from (l : List Nat) (p : Nat) (hp : p ≤ l.length) : cutS (tx l) (some (p : Int)) none = tx (l.drop p) := by
  have e : cutS (tx l) (some (p : Int)) none = cutS (tx l) (some (p : Int)) (some (l.length : Int)) := by
    unfold cutS
    rw [StrLaws.sliceIdx_none_hi]
    rfl
  rw [e, cut_mid l p l.length hp (Nat.le_refl _), List.take_of_length_le (by simp)]
theorem cut_to (l : List Nat) (q : Nat) (hq : q ≤ l.length) (h0 : 0 < q) : cutS (tx l) none (some (-(q : Int))) = tx (l.take (l.length - q)) := by
  have e : cutS (tx l) none (some (-(q : Int))) = cutS (tx l) (some ((0 : Nat) : Int)) (some ((l.length - q : Nat) : Int)) := by
    unfold cutS
    have hl : (tx l).length = l.length := by show l.toArray.size = _; simp
    rw [StrLaws.sliceIdx_none_lo, StrLaws.sliceIdx_neg_hi _ _ (by omega) (by rw [hl]; omega), hl]
    have : -(q : Int) + (l.length : Int) = ((l.length - q : Nat) : Int) := by omega
    rw [this]; rfl
  rw [e, cut_mid l 0 _ (Nat.zero_le _) (Nat.sub_le _ _)]
  simp
theorem cut_all (l : List Nat) : cutS (tx l) none none = tx l := by
  have e : cutS (tx l) none none = cutS (tx l) (some ((0 : Nat) : Int)) (some (l.length : Int)) := by
    unfold cutS
    have hl : (tx l).length = l.length := by show l.toArray.size = _; simp
    rw [StrLaws.sliceIdx_none_lo, StrLaws.sliceIdx_none_hi, hl]; rfl
  rw [e, cut_mid l 0 _ (Nat.zero_le _) (Nat.le_refl _)]
  simp
theorem tx_len (l : List Nat) : (tx l).length = l.length := by show l.toArray.size = _; simp
theorem idx_from (l : List Nat) (p : Nat) (hp : p ≤ l.length) : (Builtin.Str.strSliceIndices (some (p : Int)) none 1 (tx l).length).length = (l.drop p).length := by
  rw [tx_len, StrLaws.sliceIdx_none_hi, StrLaws.strSliceIndices_plain hp (Nat.le_refl _)]
  simp
theorem idx_to (l : List Nat) (q : Nat) (hq : q ≤ l.length) (h0 : 0 < q) : (Builtin.Str.strSliceIndices none (some (-(q : Int))) 1 (tx l).length).length = (l.take (l.length - q)).length := by
  rw [tx_len, StrLaws.sliceIdx_none_lo, StrLaws.sliceIdx_neg_hi _ _ (by omega) (by omega)]
  have : -(q : Int) + (l.length : Int) = ((l.length - q : Nat) : Int) := by omega
  rw [this, show (0 : Int) = ((0 : Nat) : Int) from rfl, StrLaws.strSliceIndices_plain (Nat.zero_le _) (Nat.sub_le _ _)]
  simp
theorem idx_all (l : List Nat) : (Builtin.Str.strSliceIndices none none 1 (tx l).length).length = l.length := by
  rw [tx_len, StrLaws.sliceIdx_none_lo, StrLaws.sliceIdx_none_hi, show (0 : Int) = ((0 : Nat) : Int) from rfl, StrLaws.strSliceIndices_plain (Nat.zero_le _) (Nat.le_refl _)]
  simp
section
variable {V : Cx} {n : Nat} {α β : Type} {st : Sto} {X : Value → Sto → Prop}
theorem slice_gen {value : Expr} {le ue : Option Expr} {p : Pos} {l m : List Nat} {t : Tok} {sl : Addr} {lv uv : Value} {a b : Option (Int × Tok)} {Q : Value → Sto → Prop} (hm : (sl, En.fl "slice" [lv, uv, .none]) ∈ st) (ha : lv = partValue a) (hb : uv = partValue b)
    (hc : cutS (tx l) (a.map (·.1)) (b.map (·.1)) = tx m) (hi : (Builtin.Str.strSliceIndices (a.map (·.1)) (b.map (·.1)) 1 (tx l).length).length = m.length) (hz : m.length ≤ 1000000) (hw : m.length = l.length → m = l) (h : ∀ t, Q (.str (tx m) t) st) : Runs V n (subscriptTail value (.Slice le ue none p) (.str (tx l) t) (.ref sl)) st Q X := by
  refine R_str_slice hm ha hb (by rw [hc]; show m.toArray.size ≤ _; simpa using hz) fun y hy t' => ?_
  rcases hy with ⟨rfl, e⟩ | rfl
  · rw [hi, tx_len] at e
    rw [← hw e]; exact h _
  · rw [hc]; exact h _
theorem R_sl_from {value : Expr} {le ue : Option Expr} {p : Pos} {l : List Nat} {k : Nat} {t u : Tok} {sl : Addr} {Q : Value → Sto → Prop} (hm : (sl, En.fl "slice" [.int (k : Int) u, .none, .none]) ∈ st) (hk : k ≤ l.length) (hz : l.length ≤ 1000) (h : ∀ t, Q (.str (tx (l.drop k)) t) st) :
    Runs V n (subscriptTail value (.Slice le ue none p) (.str (tx l) t) (.ref sl)) st Q X :=
  slice_gen (a := some ((k : Int), u)) (b := none) hm rfl rfl (cut_from l k hk) (idx_from l k hk) (by rw [List.length_drop]; omega) (fun e => by
    rw [List.length_drop] at e
    rcases Nat.eq_zero_or_pos k with q | q
    · rw [q]; rfl
    · have : l.length = 0 := by omega
      rw [List.length_eq_zero_iff.mp this]; simp) h
theorem R_sl_to {value : Expr} {le ue : Option Expr} {p : Pos} {l : List Nat} {i : Int} {q : Nat} {t u : Tok} {sl : Addr} {Q : Value → Sto → Prop} (hm : (sl, En.fl "slice" [.none, .int i u, .none]) ∈ st) (hi : i = -(q : Int)) (h0 : 0 < q) (hq : q ≤ l.length) (hz : l.length ≤ 1000) (h : ∀ t, Q (.str (tx (l.take (l.length - q))) t) st) :
    Runs V n (subscriptTail value (.Slice le ue none p) (.str (tx l) t) (.ref sl)) st Q X := by
  subst hi
  exact slice_gen (a := none) (b := some (-(q : Int), u)) hm rfl rfl (cut_to l q hq h0) (idx_to l q hq h0) (by rw [List.length_take]; omega) (fun e => by rw [List.length_take] at e; omega) h
theorem R_sl_all {value : Expr} {le ue : Option Expr} {p : Pos} {l : List Nat} {t : Tok} {sl : Addr} {Q : Value → Sto → Prop} (hm : (sl, En.fl "slice" [.none, .none, .none]) ∈ st) (hz : l.length ≤ 1000) (h : ∀ t, Q (.str (tx l) t) st) :
    Runs V n (subscriptTail value (.Slice le ue none p) (.str (tx l) t) (.ref sl)) st Q X :=
  slice_gen (a := none) (b := none) hm rfl rfl (cut_all l) (idx_all l) (by omega) (fun _ => rfl) h
/-- the sign at a place -/
theorem R_tx_at {value slice : Expr} {l : List Nat} {t u : Tok} {k c : Nat} {Q : Value → Sto → Prop} (hc : l[k]? = some c) (hz : l.length ≤ 1000) (h : ∀ t, Q (.str ⟨#[c]⟩ t) st)
    (hs : subscripted slice false (.str (tx l) t) (.int (k : Int) u) = operate [.str (tx l) t, .int (k : Int) u] (getItem (.str (tx l) t) (.int (k : Int) u))) : Runs V n (subscriptTail value slice (.str (tx l) t) (.int (k : Int) u)) st Q X := by
  have hk := (List.getElem?_eq_some_iff.mp hc).1
  refine R_str_idx ?_ ?_ h hs
  · rw [Bool.or_eq_false_iff]
    exact ⟨decide_eq_false (by omega), decide_eq_false (by omega)⟩
  · have e : seqIndex? (k : Int) (tx l).length = some k := by
      rw [tx_len]
      simp only [seqIndex?, show ¬ ((k : Int) < 0) from by omega, if_false, show decide (0 ≤ (k : Int)) = true from decide_eq_true (by omega), show decide ((k : Int) < (l.length : Int)) = true from decide_eq_true (by omega), Bool.and_true, if_true, Int.toNat_natCast]
    rw [e]; simpa using hc
theorem R_tx_back {value slice : Expr} {l : List Nat} {t u : Tok} {i : Int} {q c : Nat} {Q : Value → Sto → Prop} (hi : i = -(q : Int)) (h0 : 0 < q) (hq : q ≤ l.length) (hc : l[l.length - q]? = some c) (hz : l.length ≤ 1000) (h : ∀ t, Q (.str ⟨#[c]⟩ t) st)
    (hs : subscripted slice false (.str (tx l) t) (.int i u) = operate [.str (tx l) t, .int i u] (getItem (.str (tx l) t) (.int i u))) : Runs V n (subscriptTail value slice (.str (tx l) t) (.int i u)) st Q X := by
  refine R_str_idx ?_ ?_ h hs
  · rw [Bool.or_eq_false_iff]
    exact ⟨decide_eq_false (by omega), decide_eq_false (by omega)⟩
  · have e : seqIndex? i (tx l).length = some (l.length - q) := by
      rw [tx_len]
      simp only [seqIndex?, show i < 0 from by omega, if_true, show decide (0 ≤ i + (l.length : Int)) = true from decide_eq_true (by omega), show decide (i + (l.length : Int) < (l.length : Int)) = true from decide_eq_true (by omega), Bool.and_true]
      congr 1; omega
    rw [e]; simpa using hc
theorem R_truthy_tx {l : List Nat} {t : Tok} {Q : Bool → Sto → Prop} (hz : l.length ≤ 1000) (h : Q (!l.isEmpty) st) : Runs V n (truthy (.str (tx l) t)) st Q X := fun _ _ _ _ _ I k _ => by
  have e : (!l.isEmpty) = (((tx l).length : Int) != 0) := by
    rw [tx_len]
    cases l with
    | nil => rfl
    | cons a r =>
      have : ((a :: r).length : Int) ≠ 0 := by simp only [List.length_cons]; omega
      rw [bne_iff_ne.mpr this]; rfl
  rw [e] at h
  exact PySem.P.truthy_str (by rw [tx_len]; omega) (k _ _ _ (I.tok (by show _ ≤ _ + 1 + 1; omega)) h)
end
end Mine
end

section
set_option linter.unusedVariables false
namespace Mine
open PySem PySem.W PyProof.Rows PySem.Calls PySem.Spec

section
variable {V : Cx} {n : Nat} {α β : Type} {st : Sto} {X : Value → Sto → Prop}
/-- a part of a list that stood before -/
theorem R_old_slice {value : Expr} {le ue : Option Expr} {p : Pos} {l sl : Addr} {vs : List Value} {k : Nat} {u : Tok} {Q : Value → Sto → Prop} (hl : V.B.IsList l vs.toArray) (hm : (sl, En.fl "slice" [.none, .int (k : Int) u, .none]) ∈ st) (hz : vs.length ≤ 1000000)
    (h : ∀ a, Q (.ref a) ((a, .list (vs.take k)) :: st)) : Runs V n (subscriptTail value (.Slice le ue none p) (.ref l) (.ref sl)) st Q X := fun _ _ _ _ _ I k' _ => by
  obtain ⟨o, e, c, d⟩ := I.st.fl hm
  obtain ⟨ol, hol, hc, m, hd⟩ := hl
  have hL : Heap.IsList _ l vs.toArray := ⟨ol, I.st.old _ _ hol, hc, m, hd⟩
  refine tail_any (ops := [.ref sl, .ref l]) hL.typeIs slot_list_getitem.lookup (wpAny_getItem_list_slice hL ⟨o, e, c, by rw [d]⟩ .none (.int _ _) .none (by simp) (k' _ _ _ (I.ath (I.st.alloc (e := .list (vs.take k)) rfl ⟨0, by rw [slicePick_upto']⟩)) (h _)) ?_) rfl
  show vs.toArray.size ≤ 2 ^ 24
  simp only [List.size_toArray]; omega
theorem R_ls_upto {value : Expr} {le ue : Option Expr} {p : Pos} {l sl : Addr} {vs : List Value} {k : Nat} {u : Tok} {Q : Value → Sto → Prop} (hl : (l, En.list vs) ∈ st) (hm : (sl, En.fl "slice" [.none, .int (k : Int) u, .none]) ∈ st) (hz : vs.length ≤ 1000000)
    (h : ∀ a, Q (.ref a) ((a, .list (vs.take k)) :: st)) : Runs V n (subscriptTail value (.Slice le ue none p) (.ref l) (.ref sl)) st Q X := by
  refine R_list_slice hl hm .none (.int _ _) hz fun a => ?_
  rw [slicePick_upto']; exact h a
theorem R_ls_from {value : Expr} {le ue : Option Expr} {p : Pos} {l sl : Addr} {vs : List Value} {k : Nat} {u : Tok} {Q : Value → Sto → Prop} (hl : (l, En.list vs) ∈ st) (hm : (sl, En.fl "slice" [.int (k : Int) u, .none, .none]) ∈ st) (hz : vs.length ≤ 1000000)
    (h : ∀ a, Q (.ref a) ((a, .list (vs.drop k)) :: st)) : Runs V n (subscriptTail value (.Slice le ue none p) (.ref l) (.ref sl)) st Q X := by
  refine R_list_slice hl hm (.int _ _) .none hz fun a => ?_
  rw [slicePick_from']; exact h a
/-- all but the last q signs, asked as «x[:post or None]» -/
theorem R_cutq {value : Expr} {le ue : Option Expr} {pp : Pos} {l : List Nat} {t : Tok} {sl : Addr} {w : Value} {q : Nat} {z : Int} {Q : Value → Sto → Prop} (hm : (sl, En.fl "slice" [.none, w, .none]) ∈ st) (hz : z = -(q : Int)) (hq : q < l.length) (hl : l.length ≤ 1000) (hw : (0 < q ∧ ∃ u, w = .int z u) ∨ (q = 0 ∧ w = .none))
    (h : ∀ t, Q (.str (tx (l.take (l.length - q))) t) st) : Runs V n (subscriptTail value (.Slice le ue none pp) (.str (tx l) t) (.ref sl)) st Q X := by
  rcases hw with ⟨h1, u, rfl⟩ | ⟨h1, rfl⟩
  · exact R_sl_to hm hz h1 (by omega) (by omega) h
  · refine R_sl_all hm (by omega) ?_
    rw [h1, Nat.sub_zero, List.take_of_length_le (by omega)] at h
    exact h
/-- a number that is nought or below, or None -/
theorem R_orNone {env : Env} {x : Str} {px pn pos : Pos} {kk : Nat} {q : Nat} {z : Int} {u : Tok} {Q : Value → Sto → Prop} (hz : z = -(q : Int)) (hload : ∀ {Q : Value → Sto → Prop}, Q (.int z u) st → Runs V n (eval (.Name x px) env) st Q X)
    (h : ∀ w, (0 < q ∧ ∃ u, w = .int z u) ∨ (q = 0 ∧ w = .none) → Q w st) : Runs V n (eval (.BoolOp .Or [.Name x px, .Constant .none kk pn] pos) env) st Q X := by
  refine R_B_or (hload (R_truthy_int ⟨fun hb => h _ (.inl ⟨?_, u, rfl⟩), fun hb => R_B_one (R_cNone (h _ (.inr ⟨?_, rfl⟩)))⟩))
  · rcases Nat.eq_zero_or_pos q with r | r
    · rw [r] at hz; rw [hz] at hb; simp at hb
    · exact r
  · rcases Nat.eq_zero_or_pos q with r | r
    · exact r
    · have : z ≠ 0 := by omega
      rw [bne_iff_ne.mpr this] at hb; cases hb
end
end Mine
end

section
set_option linter.unusedVariables false
namespace Mine
open PySem PySem.W PyProof.Rows PySem.Calls PySem.Spec

theorem ints_set {vs : List Value} {ns : List Int} (h : IntsAre vs ns) : ∀ (i : Nat) (x : Int) (t : Tok), IntsAre (vs.set i (.int x t)) (ns.set i x) := by
  induction h with
  | nil => intro i x t; exact .nil
  | cons a u _ ih =>
    intro i x t
    cases i with
    | zero => exact .cons x t (by assumption)
    | succ i => exact .cons a u (ih i x t)
/-- the iterator of range(m), i turns on -/
abbrev itR (m i : Nat) : En := rangeIt (i : Int) ((m : Int) - i) 1
section
variable {V : Cx} {n : Nat} {α β : Type} {st : Sto} {X : Value → Sto → Prop}
theorem R_len_tx {l : List Nat} {t : Tok} {Q : Value → Sto → Prop} (hz : l.length ≤ 1000) (h : ∀ t, Q (.int l.length t) st) : Runs V n (call (.builtin "len") [.str (tx l) t]) st Q X := fun _ _ _ _ _ I k _ =>
  len_str (by rw [tx_len]; omega) (k _ _ _ (I.tok (by show _ ≤ _ + 1 + 1; omega)) (by rw [tx_len]; exact h _))
theorem R_iter_R {r : Addr} {m : Nat} {a b : Int} {t u v : Tok} {Q : Value → Sto → Prop} (hm : (r, rangeOb a b 1 t u v) ∈ st) (ha : a = 0) (hb : b = (m : Int)) (hz : m ≤ 1000) (h : ∀ it, Q (.ref it) ((it, itR m 0) :: st)) : Runs V n (pyIter (.ref r)) st Q X := by
  subst ha
  subst hb
  refine R_iter_range hm ?_ fun it => ?_
  · exact small_one (by omega) (by omega) (by omega) (by omega)
  · have e : Builtin.Range.rangeSize 0 (m : Int) 1 = (m : Int) - (0 : Nat) := by
      rw [rangeSize_nat]; omega
    rw [e]
    exact h it
theorem R_self_R {it : Addr} {m i : Nat} {Q : Value → Sto → Prop} (hm : (it, itR m i) ∈ st) (h : Q (.ref it) st) : Runs V n (pyIter (.ref it)) st Q X := fun _ _ _ _ _ I k _ =>
  wpAny_pyIter_rangeiter (I.st.obj hm) (k _ _ _ I h)
theorem R_next_R {it : Addr} {m i : Nat} {st' : Sto} {Q : Option Value → Sto → Prop} (hs : SSet it (itR m i) (itR m (i + 1)) st st') (hl : i < m) (h : ∀ t, Q (some (.int (i : Int) t)) st') : Runs V n (pyNext (.ref it)) st Q X := by
  refine R_next_range (x := i) (left := (m : Int) - i) (step := 1) (st' := st') ?_ (by omega) h
  have e : rangeIt ((i : Int) + 1) ((m : Int) - i - 1) 1 = itR m (i + 1) := by
    show rangeIt _ _ _ = rangeIt _ _ _
    rw [show (i : Int) + 1 = ((i + 1 : Nat) : Int) by omega, show (m : Int) - i - 1 = (m : Int) - ((i + 1 : Nat) : Int) by omega]
  rw [e]; exact hs
theorem R_end_R {it : Addr} {m i : Nat} {st' : Sto} {Q : Option Value → Sto → Prop} (hs : SDel it (itR m i) st st') (hi : i = m) (h : Q none st') : Runs V n (pyNext (.ref it)) st Q X :=
  R_end_range hs (by omega) h
end
theorem rs_row (r : Nat) (h : 1 ≤ r) (h4 : r ≤ 4) : Builtin.Range.small 2 (2 * ((r : Int) + 1)) 2 = true ∧ Builtin.Range.rangeSize 2 (2 * ((r : Int) + 1)) 2 = r ∧ Builtin.divisionGoesByPylong (2 * ((r : Int) + 1) - 2) 2 = false := by
  have : r = 1 ∨ r = 2 ∨ r = 3 ∨ r = 4 := by omega
  rcases this with rfl | rfl | rfl | rfl <;> decide +kernel
theorem mb2 : Builtin.Int.intBits 2 ≤ 64 := by decide +kernel
theorem mb4 : Builtin.Int.intBits 4 ≤ 64 := by decide +kernel
section
variable {V : Cx} {n : Nat} {α β : Type} {st : Sto} {X : Value → Sto → Prop}
theorem R_mulR {a b : Int} {t u : Tok} {Q : Value → Sto → Prop} (hb : Builtin.Int.intBits b ≤ 64) (h : ∀ t, Q (.int (a * b) t) st) : Runs V n (binaryOp .Mult (.int a t) (.int b u)) st Q X := fun _ _ _ _ _ I k _ =>
  mul_int (k _ _ _ I.tok (h _)) (IntMulOk.of_right hb)
end
theorem and_f {P Q : Prop} (h : Q) : (false = true → P) ∧ (false = false → Q) := ⟨fun q => absurd q Bool.false_ne_true, fun _ => h⟩
theorem and_t {P Q : Prop} (h : P) : (true = true → P) ∧ (true = false → Q) := ⟨fun _ => h, fun q => absurd q.symm Bool.false_ne_true⟩
end Mine
end

section
set_option linter.unusedVariables false
namespace Mine
open PySem PySem.W PyProof.Rows PySem.Calls PySem.Spec

/-- the same place, with other words of the generators -/
abbrev Cx.g (V : Cx) (p : Array GenState → Prop) : Cx := { V with gp := p }
theorem Cx.okg {V : Cx} (k : V.Ok) (p : Array GenState → Prop) : (V.g p).Ok := ⟨k.kin, k.g, k.b, k.bb, k.lim⟩
theorem Inv.g {V : Cx} {s : Shared} {st : Sto} {p : Array GenState → Prop} (I : Inv V s st) {gens : Array GenState} (h : p gens) : Inv (V.g p) { s with gens := gens } st := ⟨Cx.okg I.ok p, I.fl, I.st, h, I.dr, I.os⟩

section
variable {V : Cx} {A : Around} {R : GenEnd} {Y : Protocol} {m n : Nat} {s₀ s : Shared} {c : Code} {fs : List Frame}

abbrev SegV (V : Cx) (A : Around) (R : GenEnd) (Y : Protocol) := Seg (model PySem.Challenge.rw_ti0058_01.row.prog V.w) A R Y

theorem seg_run {α : Type} {t : Sem α} {st : Sto} {Q : α → Sto → Prop} {K : α → Sem Fin} {H : Value → Sem Fin} {gd lv} (rm : Room n (A.over c fs)) (I : Inv V s st) (h : Runs V n t st Q)
    (k : ∀ a s' st', Inv V s' st' → s.toks ≤ s'.toks → Q a st' → SegV V A R Y m s₀ c (K a) fs s') : SegV V A R Y m s₀ c (t.wrap K H gd lv) fs s :=
  seg_wrap (wpAny_with_toks (Nat.le_refl _) (h _ _ _ _ rm I (fun a s' st' I' q ht => k a s' st' I' ht q) (fun _ _ _ _ q => q.elim)))
theorem seg_If {test : Expr} {body orelse : List Stmt} {pos : Pos} {env : Env} {st : Sto} {Q : Bool → Sto → Prop} {K : Flow → Sem Fin} {H : Value → Sem Fin} {gd lv} (rm : Room n (A.over c fs)) (I : Inv V s st) (h : Runs V n (isTrue test env (eval test env)) st Q)
    (k : ∀ b s' st', Inv V s' st' → s.toks ≤ s'.toks → Q b st' → SegV V A R Y m s₀ c ((if b = true then execs body env else execs orelse env).wrap K H gd lv) fs s') :
    SegV V A R Y m s₀ c ((exec (.If test body orelse pos) env).wrap K H gd lv) fs s := by
  rw [exec_If]
  refine seg_at ?_
  show SegV V A R Y m s₀ c ((isTrue test env (eval test env) >>= fun b => if b = true then execs body env else execs orelse env).wrap K H gd lv) fs s
  rw [Sem.bind_eq_wrap', Sem.wrap_wrap]
  exact seg_run rm I h k
/-- what a loop that ends hands to the code behind it -/
def behind (K : Flow → Sem Fin) (H : Value → Sem Fin) (gd : Bool → Bool) (lv : List Value → List Value) (env : Env) (r : Result) : Sem Fin :=
  ((match r with | .ok f => (.pure f : Sem Flow) | .error e => .raise e).onRaise fun (x : Value) => do
        if (← field x 1) == Value.none then unsupported "frame.own-activation:exception-without-traceback"
        setFlight x env.frame).wrap K H gd lv
theorem seg_For {target iter : Expr} {body : List Stmt} {pos : Pos} {env : Env} {st : Sto} {Q : Value → Sto → Prop} {K : Flow → Sem Fin} {H : Value → Sem Fin} {gd lv} (rm : Room n (A.over c fs)) (I : Inv V s st)
    (hs : ∀ x, foldedSetIterable iter env x = Pure.pure x)
    (h : Runs V n (eval iter env) st (fun x st1 => Runs V n (pyIter x) st1 Q))
    (k : ∀ it s' st', Inv V s' st' → s.toks ≤ s'.toks → Q it st' → ∀ p, SegV V A R Y m s₀ (.forLoop target it body [] env) ((model PySem.Challenge.rw_ti0058_01.row.prog V.w).den (.forLoop target it body [] env))
      (.ret (behind K H gd lv env) none (gd false) (lv []) c p [] :: fs) s') :
    SegV V A R Y m s₀ c ((exec (.For target iter body [] pos) env).wrap K H gd lv) fs s := by
  rw [exec_For]
  refine seg_at ?_
  show SegV V A R Y m s₀ c ((eval iter env >>= fun a => foldedSetIterable iter env a >>= fun x => _).wrap K H gd lv) fs s
  rw [Sem.bind_eq_wrap', Sem.wrap_wrap]
  refine seg_run rm I h fun x s1 st1 I1 ht1 h1 => ?_
  rw [hs x]
  show SegV V A R Y m s₀ c ((do standAt iter.pos; runOwn (.forLoop target (← holding [x] (pyIter x)) body [] env) env).wrap K H gd lv) fs s1
  refine seg_at ?_
  show SegV V A R Y m s₀ c ((holding [x] (pyIter x) >>= fun it => runOwn (.forLoop target it body [] env) env).wrap K H gd lv) fs s1
  rw [Sem.bind_eq_wrap', Sem.wrap_wrap]
  refine seg_run rm I1 h1.holding fun it s2 st2 I2 ht2 h2 => ?_
  exact seg_call (k it s2 st2 I2 (Nat.le_trans ht1 ht2) h2)
def loopK (target : Expr) (it : Value) (body : List Stmt) (env : Env) : Flow → Sem Fin
  | .next | .cont => .pure (.again (.forLoop target it body [] env))
  | .brk => .pure (.done .next)
  | .ret v => .pure (.done (.ret v))
def loopH (env : Env) (e : Value) : Sem Fin := (do noteFrame e env; theTreesLotGoes e : Sem Unit).bind fun _ => .raise e
theorem seg_forTurn {target : Expr} {it : Value} {body : List Stmt} {env : Env} {st : Sto} {Q : Option Value → Sto → Prop} {kk : Result → Sem Fin} {hm : Option Value} {g : Bool} {l : List Value} {c₁ : Code} {p₁ : Pos} (rm : Room n (A.over (.forLoop target it body [] env) (.ret kk hm g l c₁ p₁ [] :: fs))) (I : Inv V s st)
    (h : Runs V n (pyNext it) st (fun r st1 => match r with
      | none => Q none st1
      | some v => Runs V n (letOwnedTupleGo target it v) st1 (fun _ st2 => Runs V n (assign target env v) st2 (fun _ st3 => Q (some v) st3))))
    (k : ∀ r s' st', Inv V s' st' → s.toks ≤ s'.toks → Q r st' → match r with
      | none => SegV V A R Y m s₀ c₁ (kk (.ok .next)) fs s'
      | some _ => SegV V A R Y m s₀ (.forLoop target it body [] env) ((execs body env).wrap (loopK target it body env) (loopH env) id id) (.ret kk hm g l c₁ p₁ [] :: fs) s') :
    SegV V A R Y m s₀ (.forLoop target it body [] env) ((model PySem.Challenge.rw_ti0058_01.row.prog V.w).den (.forLoop target it body [] env)) (.ret kk hm g l c₁ p₁ [] :: fs) s := by
  show SegV V A R Y m s₀ _ ((forTurn target it body [] env).onRaise (fun x => do noteFrame x env; theTreesLotGoes x)) _ s
  rw [Sem.onRaise_eq_wrap]
  unfold forTurn
  refine seg_at ?_
  show SegV V A R Y m s₀ _ (((pyNext it).onRaise (fun _ => standAt { target.pos with line := 0 }) >>= _).wrap .pure (loopH env) id id) _ s
  rw [Sem.bind_eq_wrap', Sem.wrap_wrap, Sem.onRaise_eq_wrap, Sem.wrap_wrap]
  refine seg_run rm I h fun r s1 st1 I1 ht1 h1 => ?_
  cases r with
  | none => exact seg_again (c' := .block [] env) rfl (seg_leaf (.ok .next) (k none s1 st1 I1 ht1 h1))
  | some v =>
    show SegV V A R Y m s₀ _ ((letOwnedTupleGo target it v >>= fun _ => _).wrap .pure (loopH env) id id) _ s1
    rw [Sem.bind_eq_wrap', Sem.wrap_wrap]
    refine seg_run rm I1 h1 fun _ s2 st2 I2 ht2 h2 => ?_
    show SegV V A R Y m s₀ _ ((assign target env v >>= fun _ => _).wrap .pure (loopH env) id id) _ s2
    rw [Sem.bind_eq_wrap', Sem.wrap_wrap]
    refine seg_run rm I2 h2 fun _ s3 st3 I3 ht3 h3 => ?_
    show SegV V A R Y m s₀ _ ((execs body env >>= fun f => _).wrap .pure (loopH env) id id) _ s3
    rw [Sem.bind_eq_wrap', Sem.wrap_wrap]
    have := k (some v) s3 st3 I3 (Nat.le_trans ht1 (Nat.le_trans ht2 ht3)) h3
    dsimp only at this
    refine Eq.mpr (congrArg (fun t => SegV V A R Y m s₀ _ t _ s3) (Sem.wrap_congr (execs body env) _ _ ?_ ?_)) this
    · intro f; cases f <;> rfl
    · intro e; rfl
/-- a statement that yields nothing -/
theorem seg_stmt {stm : Stmt} {rest : List Stmt} {env : Env} {st : Sto} {Q : Flow → Sto → Prop} {K : Flow → Sem Fin} {H : Value → Sem Fin} {gd lv} (rm : Room n (A.over c fs)) (I : Inv V s st) (h : Runs V n (exec stm env) st Q)
    (k : ∀ f s' st', Inv V s' st' → s.toks ≤ s'.toks → Q f st' → SegV V A R Y m s₀ c (match f with | .next => (execs rest env).wrap K H gd lv | f => K f) fs s') :
    SegV V A R Y m s₀ c ((execs (stm :: rest) env).wrap K H gd lv) fs s := seg_execs_cons (seg_run rm I h k)
end
end Mine
end

section
set_option linter.unusedVariables false
namespace Mine
open PySem PySem.W PyProof.Rows PySem.Calls PySem.Spec

/-- all that stood at a time, as it stands now, but for some places -/
def fullOf (B h₀ h : Heap) (ex : List Addr) : Sto :=
  (List.range h₀.objs.size).filterMap fun b => if ((h₀.get? b).isSome && (B.get? b).isNone && !(ex.contains b)) = true then (h.get? b).map fun o => (b, En.ob o) else none
theorem mem_full {B h₀ h : Heap} {ex : List Addr} {b : Addr} {o : Obj} (e : h.get? b = some o) (h0 : (h₀.get? b).isSome = true) (hB : B.get? b = none) (hx : b ∉ ex) : (b, En.ob o) ∈ fullOf B h₀ h ex := by
  refine List.mem_filterMap.mpr ⟨b, ?_, ?_⟩
  · obtain ⟨o', e'⟩ := Option.isSome_iff_exists.mp h0
    exact List.mem_range.mpr (Heap.lt_size e')
  · rw [if_pos (by rw [h0, hB]; simpa using hx), e]; rfl
theorem of_full {B h₀ h : Heap} {ex : List Addr} {p : Addr × En} (hp : p ∈ fullOf B h₀ h ex) : ∃ o, p.2 = .ob o ∧ h.get? p.1 = some o ∧ (h₀.get? p.1).isSome = true ∧ B.get? p.1 = none ∧ p.1 ∉ ex := by
  obtain ⟨b, _, e⟩ := List.mem_filterMap.mp hp
  split at e
  · rename_i hc
    simp only [Bool.and_eq_true, Option.isNone_iff_eq_none] at hc
    obtain ⟨o, e1, e2⟩ := Option.map_eq_some_iff.mp e
    cases e2
    exact ⟨o, rfl, e1, hc.1.1, hc.1.2, by simpa using hc.2⟩
  · cases e
theorem full_flr (B h₀ h : Heap) (ex : List Addr) : flr (fullOf B h₀ h ex) ≤ 0 := flr_le (Nat.le_refl _) fun p hp => by
  obtain ⟨o, e, _⟩ := of_full hp
  rw [e]; exact Nat.zero_le _
theorem full_nodup (B h₀ h : Heap) (ex : List Addr) : ((fullOf B h₀ h ex).map (·.1)).Nodup := by
  have key : ∀ l : List Nat, l.Nodup → ((l.filterMap fun b => if ((h₀.get? b).isSome && (B.get? b).isNone && !(ex.contains b)) = true then (h.get? b).map fun o => ((b, En.ob o) : Addr × En) else none).map (·.1)).Nodup ∧
      ∀ p ∈ (l.filterMap fun b => if ((h₀.get? b).isSome && (B.get? b).isNone && !(ex.contains b)) = true then (h.get? b).map fun o => ((b, En.ob o) : Addr × En) else none), p.1 ∈ l := by
    intro l
    induction l with
    | nil => intro _; exact ⟨List.nodup_nil, fun p hp => nomatch hp⟩
    | cons b l ih =>
      intro nd
      obtain ⟨n1, n2⟩ := List.nodup_cons.mp nd
      obtain ⟨i1, i2⟩ := ih n2
      rw [List.filterMap_cons]
      split
      · exact ⟨i1, fun p hp => List.mem_cons_of_mem _ (i2 p hp)⟩
      · rename_i q hq
        have hb : q.1 = b := by
          split at hq
          · obtain ⟨o, _, e2⟩ := Option.map_eq_some_iff.mp hq
            rw [← e2]
          · cases hq
        refine ⟨?_, fun p hp => ?_⟩
        · rw [List.map_cons]
          refine List.nodup_cons.mpr ⟨fun hm => n1 ?_, i1⟩
          obtain ⟨p, hp, e⟩ := List.mem_map.mp hm
          rw [← hb, ← e]; exact i2 p hp
        · rcases List.mem_cons.mp hp with rfl | hp
          · rw [hb]; exact List.mem_cons_self
          · exact List.mem_cons_of_mem _ (i2 p hp)
  exact (key _ List.nodup_range).1

section
variable {V : Cx} {s s₁ : Shared} {gst gst' cst : Sto} {h₀ : Heap} {ex : List Addr}
theorem Inv.full {G : Array GenState → Prop} (I : Inv (V.g G) s (gst ++ cst)) (hex : ∀ p ∈ gst, p.1 ∈ ex ∨ h₀.get? p.1 = none) : Inv (V.g (· = s.gens)) s (gst ++ fullOf V.B h₀ s.heap ex) := by
  refine ⟨Cx.okg (V := V) (Cx.okg (V := V.g G) I.ok V.gp) _, ?_, ⟨I.st.old, fun p hp => ?_, fun p hp => ?_, ?_⟩, rfl, I.dr, I.os⟩
  · have := I.fl
    rw [flr_app] at this ⊢
    have := full_flr V.B h₀ s.heap ex
    have := flr_pos gst
    omega
  · rcases List.mem_append.mp hp with hp | hp
    · exact I.st.has p (List.mem_append_left _ hp)
    · obtain ⟨o, e1, e2, _⟩ := of_full hp
      exact ⟨o, e2, by rw [e1]; rfl⟩
  · rcases List.mem_append.mp hp with hp | hp
    · exact I.st.new p (List.mem_append_left _ hp)
    · obtain ⟨o, _, _, _, e, _⟩ := of_full hp
      exact e
  · rw [List.map_append]
    have nd := I.st.nd
    rw [List.map_append] at nd
    refine List.nodup_append.mpr ⟨(List.nodup_append.mp nd).1, full_nodup _ _ _ _, fun a ha b hb e => ?_⟩
    obtain ⟨p, hp, rfl⟩ := List.mem_map.mp ha
    obtain ⟨q, hq, rfl⟩ := List.mem_map.mp hb
    obtain ⟨o, _, _, e3, _, e5⟩ := of_full hq
    rcases hex p hp with h | h
    · rw [e] at h; exact e5 h
    · rw [e] at h; rw [h] at e3; cases e3
/-- back to the store of the one who asked -/
theorem Inv.back {G : Array GenState → Prop} (I : Inv V s (gst ++ cst)) (hc : ∀ p ∈ cst, (h₀.get? p.1).isSome = true ∧ p.1 ∉ ex) (I1 : Inv (V.g G) s₁ (gst' ++ fullOf V.B h₀ s.heap ex)) (ht : s.toks ≤ s₁.toks) {gens : Array GenState} (hg : V.gp gens) {h' : Heap} (hh : ∀ b o, s₁.heap.get? b = some o → h'.get? b = some o) : Inv V { s₁ with gens := gens, heap := h' } (gst' ++ cst) := by
  have inFull : ∀ p ∈ cst, ∃ o, s.heap.get? p.1 = some o ∧ p.2.Is o ∧ (p.1, En.ob o) ∈ fullOf V.B h₀ s.heap ex := fun p hp => by
    obtain ⟨o, e, i⟩ := I.st.has p (List.mem_append_right _ hp)
    exact ⟨o, e, i, mem_full e (hc p hp).1 (I.st.new p (List.mem_append_right _ hp)) (hc p hp).2⟩
  refine ⟨I.ok, ?_, ⟨fun b o e => hh b o (I1.st.old b o e), fun p hp => ?_, fun p hp => ?_, ?_⟩, hg, I1.dr, I1.os⟩
  · have a := I.fl
    have b := I1.fl
    rw [flr_app] at a b ⊢
    show _ ≤ s₁.toks
    omega
  · rcases List.mem_append.mp hp with hp | hp
    · obtain ⟨o, e, i⟩ := I1.st.has p (List.mem_append_left _ hp)
      exact ⟨o, hh _ _ e, i⟩
    · obtain ⟨o, e, i, hm⟩ := inFull p hp
      obtain ⟨o', e', i'⟩ := I1.st.has _ (List.mem_append_right _ hm)
      have : o' = o := i'
      subst this
      exact ⟨o', hh _ _ e', i⟩
  · rcases List.mem_append.mp hp with hp | hp
    · exact I1.st.new p (List.mem_append_left _ hp)
    · exact I.st.new p (List.mem_append_right _ hp)
  · have nd := I.st.nd
    have nd1 := I1.st.nd
    rw [List.map_append] at nd nd1 ⊢
    refine List.nodup_append.mpr ⟨(List.nodup_append.mp nd1).1, (List.nodup_append.mp nd).2.1, fun a ha b hb e => ?_⟩
    obtain ⟨q, hq, rfl⟩ := List.mem_map.mp hb
    obtain ⟨o, _, _, hm⟩ := inFull q hq
    exact (List.nodup_append.mp nd1).2.2 a ha q.1 (List.mem_map.mpr ⟨_, hm, rfl⟩) e
end

/-- the ends and the yields of a generator that gives some whole numbers, and then ends or goes on -/
def genR (V : Cx) (h₀ : Heap) (ex : List Addr) (ended : Bool) : Nat → Shared → Shared → Prop := fun m s₀ s₁ =>
  m = 0 ∧ ended = true ∧ s₀.toks ≤ s₁.toks ∧ Inv (V.g (· = s₀.gens)) s₁ (fullOf V.B h₀ s₀.heap ex)
def genE (V : Cx) (h₀ : Heap) (ex : List Addr) (ended : Bool) : GenEnd := fun m s₀ r s₁ => r = .ok (.ret .none) ∧ genR V h₀ ex ended m s₀ s₁
def genY (V : Cx) (h₀ : Heap) (ex : List Addr) (ended : Bool) (zs : List Int) : Protocol := fun m s₀ v s₁ kap =>
  ∃ gst t, v = .int (zs.getD (zs.length - 1 - m) 0) t ∧ s₀.toks ≤ s₁.toks ∧ Inv (V.g (· = s₀.gens)) s₁ (gst ++ fullOf V.B h₀ s₀.heap ex) ∧ (∀ p ∈ gst, p.1 ∈ ex ∨ h₀.get? p.1 = none) ∧
    (0 < m ∨ ended = true → ∀ s'' G cst, Inv (V.g G) s'' (gst ++ cst) → kap (.send .none) s'')
/-- a generator that has given k of them -/
def GenReady (V : Cx) (A : Around) (h₀ : Heap) (ex : List Addr) (ended : Bool) (zs : List Int) (k g : Nat) (s : Shared) (gst : Sto) : Prop :=
  (∀ p ∈ gst, p.1 ∈ ex ∨ h₀.get? p.1 = none) ∧ ∃ gs, s.gens[g]? = some gs ∧ (k < zs.length ∨ ended = true → ∀ s'' G cst, Inv (V.g G) s'' (gst ++ cst) → (k = 0 → s''.heap = h₀) →
    gs.Goes (model PySem.Challenge.rw_ti0058_01.row.prog V.w) A (genE V h₀ ex ended) (genY V h₀ ex ended zs) (zs.length - k) (.send .none) s'')
theorem bare_set {gens : Array GenState} {g : Nat} {x : GenState} (h : AllBare gens) (hx : x.bare = true) : AllBare (gens.setIfInBounds g x) := fun y hy => by
  obtain ⟨i, hi, e⟩ := Array.mem_iff_getElem.mp hy
  have hi' : i < gens.size := by rw [Array.size_setIfInBounds] at hi; exact hi
  rw [Array.getElem_setIfInBounds hi'] at e
  split at e
  · rw [← e]; exact hx
  · rw [← e]; exact h _ (Array.getElem_mem _)

theorem next_gen {V : Cx} {A : Around} {s : Shared} {n k g : Nat} {gst cst : Sto} {h₀ : Heap} {ex : List Addr} {ended : Bool} {zs : List Int} {ga : Addr} {Q : Option Value → Shared → Prop} {E : Value → Shared → Prop}
    (rm : Room n A) (hV : V.gp = AllBare) (I : Inv V s (gst ++ cst)) (hg : s.heap.IsGen ga g) (hc : ∀ p ∈ cst, (h₀.get? p.1).isSome = true ∧ p.1 ∉ ex) (hr : GenReady V A.in1 h₀ ex ended zs k g s gst) (hlt : k < zs.length ∨ (k = zs.length ∧ ended = true)) (hh0 : k = 0 → s.heap = h₀)
    (hsome : k < zs.length → ∀ t s1 gst', Inv V s1 (gst' ++ cst) → GenReady V A.in1 h₀ ex ended zs (k + 1) g s1 gst' → Q (some (.int (zs.getD k 0) t)) s1)
    (hnone : k = zs.length → ∀ s1, Inv V s1 cst → Q none s1) : wpAny (model PySem.Challenge.rw_ti0058_01.row.prog V.w) A (pyNext (.ref ga)) Q E s := by
  obtain ⟨hex, gs, hgs, hgo⟩ := hr
  have hsz : g < s.gens.size := by
    rcases Nat.lt_or_ge g s.gens.size with q | q
    · exact q
    · rw [Array.getElem?_eq_none q] at hgs; cases hgs
  have hbare : AllBare s.gens := by have := I.gp; rw [hV] at this; exact this
  have I0 : Inv (V.g fun _ => True) (s.setGen g .running) (gst ++ cst) := ⟨Cx.okg I.ok _, I.fl, I.st, trivial, I.dr, I.os⟩
  have hgo' := hgo (hlt.elim .inl fun q => .inr q.2) (s.setGen g .running) (fun _ => True) cst I0 hh0
  unfold pyNext
  refine wpAny_bind (wpAny_attempt (wpAny_callSpecial?_slot (name := Str.ofString "__next__") hg.typeIs PySem.slot_gen_next
    (wpAny_call_entry PySem.slot_gen_next hg.typeIs PySem.entry_gen_next ?_ (PySem.args_gen_next _))))
  show wpAny _ _ (Builtin.Generator.genWake (.ref ga) (.send .none)) _ _ s
  unfold Builtin.Generator.genWake
  refine wpAny_bind (wpAny_holding (wpAny_genNumber hg (wpAny_bind (wpAny_genState hgs ?_))))
  cases gs with
  | running => exact hgo'.elim
  | finished => exact hgo'.elim
  | _ =>
    refine wpAny_bind (wpAny_roomToWake (I.ok.lim.keeps I.st.old) rm.depth ?_)
    refine wpAny_resumeQ hgs hgo' (fun x s₁ hx => ?_) (fun v s₁ gs' hb hv => ?_)
    · obtain ⟨rfl, hk0, hen, ht, I1⟩ := hx
      show wpAny _ _ (newExc (.type "StopIteration") [] >>= _) _ _ _
      refine wpAny_bind ?_
      simp only [newExc, newTuple]
      refine wpAny_bind (wpAny_newObj_type ?_ (by size_fits))
      refine wpAny_bind (m := firstArgMember _ _) (wpAny_of_eq (a := Value.none) (by first | rfl | (simp only [firstArgMember]; rfl)) ?_)
      refine wpAny_newObj_type ?_ (by size_fits)
      simp only [raiseNew]
      refine wpAny_bind (wpAny_bind (wpAny_handled ?_))
      rw [show A.in1.handled = none from rm.hd]
      refine wpAny_throw ?_
      refine wpAny_bind (wpAny_isInstance (T := "StopIteration") (b := true) ⟨_, Heap.get?_push_size _ rfl, rfl⟩ isSubtype_stop ?_)
      refine wpAny_pure (hnone (by omega) _ ?_)
      have hgens : AllBare (s₁.gens.setIfInBounds g .finished) := bare_set (by have := I1.gp; rw [show s₁.gens = s.gens.setIfInBounds g .running from this]; exact bare_set hbare rfl) rfl
      exact Inv.back (gst' := []) I hc I1 ht (by rw [hV]; exact hgens) fun b o hb => Heap.get?_push_of_some _ (Heap.get?_push_of_some _ hb)
    · obtain ⟨gst', t, rfl, ht, I1, hex', hkap⟩ := hv
      rcases hlt with hlt | ⟨hkz, hen⟩
      · have e1 : zs.length - 1 - (zs.length - k - 1) = k := by omega
        rw [e1]
        refine wpAny_pure ⟨_, rfl, wpAny_pure (hsome hlt t _ gst' ?_ ⟨hex', gs', ?_, fun hh s'' G cst' I'' _ => ?_⟩)⟩
        · have hgens : AllBare (s₁.gens.setIfInBounds g gs') := bare_set (by have := I1.gp; rw [show s₁.gens = s.gens.setIfInBounds g .running from this]; exact bare_set hbare rfl) hb
          exact Inv.back I hc I1 ht (by rw [hV]; exact hgens) fun b o hb => hb
        · have : s₁.gens = s.gens.setIfInBounds g .running := I1.gp
          show (s₁.gens.setIfInBounds g gs')[g]? = _
          rw [this, Array.getElem?_setIfInBounds_self_of_lt (by rw [Array.size_setIfInBounds]; exact hsz)]
        · have := hkap (hh.elim (fun q => .inl (by omega)) .inr) s'' G cst' I''
          obtain ⟨m, hm⟩ : ∃ m, zs.length - k = m + 1 := ⟨zs.length - k - 1, by omega⟩
          rw [hm] at this
          dsimp only at this
          rw [show zs.length - (k + 1) = m by omega]
          exact this
      · exfalso
        have := hkap (.inr hen) s₁ _ _ I1
        rw [show zs.length - k = 0 by omega] at this
        exact this
end Mine
end

section
set_option linter.unusedVariables false
namespace Mine
open PySem PySem.W PyProof.Rows PySem.Calls PySem.Spec

theorem SLe.sub {st st' : Sto} (h : List.Sublist st' st) : SLe st st' := by
  induction h with
  | slnil => exact .refl
  | cons a _ ih => exact .skip ih
  | cons_cons a _ ih => exact .keep ih
/-- a loop over a generator -/
theorem for_gen {V : Cx} {n : Nat} {env : Env} {target : Expr} {body : List Stmt} {Q : Flow → Sto → Prop} {ga : Addr} {g : Nat} {h₀ : Heap} {ex : List Addr} {ended : Bool} {zs : List Int} {fr : Sto} {og : Obj} {nm qn : Value} (hV : V.gp = AllBare) (C : Nat → Sto → Prop) (Cb : Sto → Prop)
    (hga : (ga, En.ob og) ∈ fr) (hcls : og.cls = .type "generator") (hdat : og.data = .fields #[.int g 0, nm, qn]) (hslot : og.slots = #[])
    (hC : ∀ k c, C k c → ∀ p ∈ c, (h₀.get? p.1).isSome = true ∧ p.1 ∉ ex) (hfr : ∀ p ∈ fr, (h₀.get? p.1).isSome = true ∧ p.1 ∉ ex)
    (hfin : ∀ c, C zs.length c → ended = true)
    (step : ∀ k c (G : Array GenState → Prop) fr', k < zs.length → C k c → ∀ t, Runs (V.g G) n (letOwnedTupleGo target (.ref ga) (.int (zs.getD k 0) t)) (c ++ fr') (fun _ st2 => Runs (V.g G) n (assign target env (.int (zs.getD k 0) t)) st2 (fun _ st3 => Runs (V.g G) n (execs body env) st3 (fun f st4 => match f with
      | .next | .cont => ∃ c', SLe st4 (c' ++ fr') ∧ C (k + 1) c'
      | .brk => ∃ c', SLe st4 (c' ++ fr') ∧ Cb c'
      | .ret _ => False))))
    (hQ : ∀ c, Cb c ∨ C zs.length c → Q .next (c ++ fr)) :
    ∀ (j k : Nat) (c gst : Sto) (A : Around) (s : Shared) (R : Result → Shared → Prop), Room n A → k + j = zs.length → C k c → Inv V s (gst ++ (c ++ fr)) → GenReady V A.in1 h₀ ex ended zs k g s gst → (k = 0 → s.heap = h₀) →
      (∀ f s' st', Inv V s' st' → Q f st' → R (.ok f) s') → codeAny (model PySem.Challenge.rw_ti0058_01.row.prog V.w) A (.forLoop target (.ref ga) body [] env) R s := by
  intro j
  induction j with
  | zero =>
    intro k c gst A s R rm hk hc I hr hh0 kQ
    have hkz : k = zs.length := by omega
    subst hkz
    have hgen : s.heap.IsGen ga g := ⟨og, nm, qn, I.st.obj (List.mem_append_right _ (List.mem_append_right _ hga)), hcls, hdat, hslot⟩
    refine codeAny_of_tree ?_
    show wpAny _ A ((forTurn target (.ref ga) body [] env).onRaise (fun x => do noteFrame x env; theTreesLotGoes x)) _ _ s
    refine wpAny_onRaise ?_
    simp only [forTurn]
    refine wpAny_bind (wpAny_standAt (wpAny_bind (wpAny_onRaise (next_gen rm hV I hgen (fun p hp => (List.mem_append.mp hp).elim (hC _ c hc p) (hfr p)) hr (.inr ⟨rfl, hfin c hc⟩) hh0 (fun h => absurd h (Nat.lt_irrefl _)) fun _ s1 I1 => ?_))))
    exact wpAny_pure ⟨rfl, codeAny_block (wpAny_execs_nil (kQ _ _ _ I1 (hQ c (.inr hc))))⟩
  | succ j ih =>
    intro k c gst A s R rm hk hc I hr hh0 kQ
    have hgen : s.heap.IsGen ga g := ⟨og, nm, qn, I.st.obj (List.mem_append_right _ (List.mem_append_right _ hga)), hcls, hdat, hslot⟩
    refine codeAny_of_tree ?_
    show wpAny _ A ((forTurn target (.ref ga) body [] env).onRaise (fun x => do noteFrame x env; theTreesLotGoes x)) _ _ s
    refine wpAny_onRaise ?_
    simp only [forTurn]
    refine wpAny_bind (wpAny_standAt (wpAny_bind (wpAny_onRaise (next_gen rm hV I hgen (fun p hp => (List.mem_append.mp hp).elim (hC _ c hc p) (hfr p)) hr (.inl (by omega)) hh0 (fun hlt t s1 gst' I1 hr1 => ?_) fun h => absurd h (by omega)))))
    have I1' : Inv (V.g (· = s1.gens)) s1 (c ++ (fr ++ gst')) := by
      have e : SLe (gst' ++ (c ++ fr)) (c ++ (fr ++ gst')) := by
        refine .perm ?_ .refl
        rw [← List.append_assoc c]
        exact List.perm_append_comm
      exact (I1.le e).g (gens := s1.gens) rfl
    refine wpAny_bind ((step k c (· = s1.gens) (fr ++ gst') hlt hc t) A s1 _ _ rm I1' (fun _ s2 st2 I2 h2 => ?_) fun _ _ _ _ q => q.elim)
    refine wpAny_bind (h2 A s2 _ _ rm I2 (fun _ s3 st3 I3 h3 => ?_) fun _ _ _ _ q => q.elim)
    refine wpAny_bind (h3 A s3 _ _ rm I3 (fun f s4 st4 I4 h4 => ?_) fun _ _ _ _ q => q.elim)
    have hgp : ∀ {st : Sto}, Inv (V.g (· = s1.gens)) s4 st → Inv V s4 st := fun {st} I => by
      have e : s4.gens = s1.gens := I.gp
      exact ⟨I1.ok, I.fl, I.st, by rw [e]; exact I1.gp, I.dr, I.os⟩
    have hr4 : GenReady V A.in1 h₀ ex ended zs (k + 1) g s4 gst' := by
      obtain ⟨a, gs, b, d⟩ := hr1
      have e : s4.gens = s1.gens := I4.gp
      exact ⟨a, gs, by rw [e]; exact b, d⟩
    cases f with
    | next =>
      obtain ⟨c', hs, hc'⟩ := h4
      refine wpAny_pure ⟨rfl, ih (k + 1) c' gst' A s4 R rm (by omega) hc' ?_ hr4 (fun q => absurd q (Nat.succ_ne_zero k)) kQ⟩
      refine hgp (I4.le (hs.trans (.perm ?_ .refl)))
      rw [← List.append_assoc]
      exact List.perm_append_comm
    | cont =>
      obtain ⟨c', hs, hc'⟩ := h4
      refine wpAny_pure ⟨rfl, ih (k + 1) c' gst' A s4 R rm (by omega) hc' ?_ hr4 (fun q => absurd q (Nat.succ_ne_zero k)) kQ⟩
      refine hgp (I4.le (hs.trans (.perm ?_ .refl)))
      rw [← List.append_assoc]
      exact List.perm_append_comm
    | brk =>
      obtain ⟨c', hs, hc'⟩ := h4
      refine wpAny_pure (kQ _ _ _ (hgp (I4.le (hs.trans (SLe.sub ?_)))) (hQ c' (.inl hc')))
      rw [← List.append_assoc]
      exact List.sublist_append_left _ _
    | ret v => exact h4.elim
end Mine
end

section
set_option linter.unusedVariables false
namespace Mine
open PySem PySem.W PyProof.Rows PySem.Calls PySem.Spec

section
variable {V : Cx} {n : Nat} {st : Sto}
/-- a call of a def that yields: a generator, that has not begun -/
theorem call_gen {name qual : Str} {params : Arguments} {body : List Stmt} {scope : Scope} {dV kV doc pm cdv ct oc : Value} {an od : Option Addr} {osl : Array (Option Value)} {f : Addr} {vals : List Value} {A : Around} {s : Shared} {Q : Value → Shared → Prop} {E : Value → Shared → Prop}
    (binds : List (Str × Value)) (rm : Room n A) (hV : V.gp = AllBare) (I : Inv V s st)
    (ho : (hd.heap_1 V.w.params).lookup f = some ⟨oc, od, .func (fnOf name qual params body scope dV kV doc pm an cdv ct), osl⟩) (hcd : codeIn (hd.heap_1 V.w.params) cdv qual = true)
    (hbind : bindArgs (fnOf name qual params body scope dV kV doc pm an cdv ct) ⟨vals, []⟩ = Pure.pure binds) (hnd : noDup (binds.map (·.1)) = true)
    (hkind : (binds.all fun y => scope.names.lookup y.1 == some .local || scope.names.lookup y.1 == some .cell) = true)
    (hl : binds.filter (fun p => scope.names.lookup p.1 == some .local) = binds)
    (hcn : cellsFrom (s.heap.objs.size + 1) scope.names [] = [])
    (hco : scope.isCoroutine = false) (hgen : scope.isGenerator = true) (hk : scope.kind = .function)
    (h : ∀ L ga og nm qn s', og.cls = .type "generator" → og.data = .fields #[.int s'.gens.size.pred 0, nm, qn] → og.slots = #[] → s'.gens[s'.gens.size.pred]? = some (.fresh (.func body (fenv scope L [] (qual ++ ".<locals>.") f cdv))) →
      Inv V s' ((ga, En.ob og) :: (L, .ns binds) :: st) → Q (.ref ga) s') : wpAny (model PySem.Challenge.rw_ti0058_01.row.prog V.w) A (call (.ref f) vals) Q E s := by
  refine wpAny_call ?_
  refine codeAny_call_generator (fd := fnOf name qual params body scope dV kV doc pm an cdv ct) rm.depth (I.st.old _ _ (I.ok.kin _ _ ho)) rfl hco hgen rfl (codeRec_of (fun _ _ e => I.st.old _ _ (I.ok.kin _ _ e)) hcd) ?_
  rw [hbind]
  refine wpAny_pure (wpAny_with_toks (Nat.le_refl _) (wpAny_newFunctionEnv_cells hk (kindsX hkind _) fun env he s₁ C htk => ?_))
  subst he
  have keep := C.toInCall.keep
  obtain ⟨h₁, tk, hs₁⟩ := C.toInCall.same
  have hce : (newEnv scope s.heap.objs.size mainGlobals (cellsFrom (s.heap.objs.size + 1) scope.names []) (qual ++ ".<locals>.") (some f) cdv none builtinsNs) = fenv scope s.heap.objs.size [] (qual ++ ".<locals>.") f cdv := by
    rw [hcn]; rfl
  have C' : InCallC s (fenv scope s.heap.objs.size [] (qual ++ ".<locals>.") f cdv).locals (bindL (fenv scope s.heap.objs.size [] (qual ++ ".<locals>.") f cdv).kindOf binds fun _ => none) (fenv scope s.heap.objs.size [] (qual ++ ".<locals>.") f cdv).cells
      (bindC (fenv scope s.heap.objs.size [] (qual ++ ".<locals>.") f cdv).kindOf binds fun _ => none) s₁ := by rw [← hce]; exact C
  have hns := C'.toInCall.ns
  refine ⟨(I.ok.lim.keeps I.st.old).keeps keep, ?_⟩
  have I₁ : Inv V s₁ ((s.heap.objs.size, .ns binds) :: st) := by
    have S : St V.B s₁.heap ((s.heap.objs.size, .ns binds) :: st) := by
      refine I.st.push keep (get?_size_none _) (is_ns hns (fun p hp => ?_) (nodup_of hnd))
      have hp' : p ∈ binds.filter (fun p => scope.names.lookup p.1 == some .local) := by rw [hl]; exact hp
      exact bindL_of (nodup_of hnd) p hp (show scope.names.lookup p.1 = some .local from by simpa using (List.mem_filter.mp hp').2)
    rw [hs₁] at S htk ⊢
    exact I.at S (by simp only [flr, flr1]; omega) htk
  have hfin := h s.heap.objs.size s₁.heap.objs.size { cls := .type "generator", data := .fields #[.int s₁.gens.size 0, .str name s₁.toks, .str qual (s₁.toks + 1)] } (.str name s₁.toks) (.str qual (s₁.toks + 1))
    { s₁ with gens := s₁.gens.push (.fresh (.func body (fenv scope s.heap.objs.size [] (qual ++ ".<locals>.") f cdv))), toks := s₁.toks + 1 + 1, heap := s₁.heap.push { cls := .type "generator", data := .fields #[.int s₁.gens.size 0, .str name s₁.toks, .str qual (s₁.toks + 1)] } }
    rfl (by simp) rfl (by simp) ⟨I₁.ok, ?_, I₁.st.alloc rfl rfl, ?_, I₁.dr, I₁.os⟩
  · show Q (.ref s₁.heap.objs.size) { s₁ with gens := s₁.gens.push (.fresh (.func body (newEnv scope s.heap.objs.size mainGlobals (cellsFrom (s.heap.objs.size + 1) scope.names []) (qual ++ ".<locals>.") (some f) cdv none builtinsNs))), toks := s₁.toks + 1 + 1, heap := s₁.heap.push { cls := .type "generator", data := .fields #[.int s₁.gens.size 0, .str name s₁.toks, .str qual (s₁.toks + 1)] } }
    rw [hce]; exact hfin
  · have := I₁.fl
    simp only [flr, flr1] at this ⊢
    show _ ≤ s₁.toks + 1 + 1
    omega
  · have := I₁.gp
    rw [hV] at this ⊢
    exact AllBare.push this rfl

theorem Room.one {n : Nat} {A : Around} (r : Room (n + 1) A) : Room n A := r.le (Nat.le_succ n)
theorem R_ForGen {name qual : Str} {params : Arguments} {gbody : List Stmt} {scope : Scope} {dV kV doc pm cdv ct oc : Value} {an od : Option Addr} {osl : Array (Option Value)} {f : Addr} {vals : List Value} {env : Env} {target : Expr} {body : List Stmt} {x : Str} {p cp pos : Pos} {arg : Expr} {rest : List Expr} {Q : Flow → Sto → Prop}
    (binds : List (Str × Value)) (gargs c0 fr : Sto) (zs : List Int) (ended : Bool) (C : Nat → Sto → Prop) (Cb : Sto → Prop) (hV : V.gp = AllBare)
    (ho : (hd.heap_1 V.w.params).lookup f = some ⟨oc, od, .func (fnOf name qual params gbody scope dV kV doc pm an cdv ct), osl⟩) (hcd : codeIn (hd.heap_1 V.w.params) cdv qual = true)
    (hkeep : keepIn (hd.heap_1 V.w.params) (.ref f) = true)
    (hbind : bindArgs (fnOf name qual params gbody scope dV kV doc pm an cdv ct) ⟨vals, []⟩ = Pure.pure binds) (hnd : noDup (binds.map (·.1)) = true)
    (hkind : (binds.all fun y => scope.names.lookup y.1 == some .local || scope.names.lookup y.1 == some .cell) = true)
    (hl : binds.filter (fun p => scope.names.lookup p.1 == some .local) = binds)
    (hcn : ∀ k, cellsFrom k scope.names [] = [])
    (hco : scope.isCoroutine = false) (hgen : scope.isGenerator = true) (hk : scope.kind = .function)
    (he : starEach (arg :: rest) env = (false, eval arg env) :: starEach rest env) (hp : (backTo cp (starEach rest env)).any (·.1) = false)
    (hfold : ∀ x', foldedSetIterable (.Call (.Name x p) (arg :: rest) [] cp) env x' = Pure.pure x')
    (hx : Runs V (n + 1) (eval (.Name x p) env) st (fun v st' => v = .ref f ∧ st' = st))
    (hargs : Runs V (n + 1) (spliced (backTo cp (starEach (arg :: rest) env))) st (fun vs st' => vs = vals ∧ st' = st))
    (hst : SLe st (gargs ++ (c0 ++ fr))) (hc0 : C 0 c0)
    (hCa : ∀ k c, C k c → ∀ q ∈ c, q.1 ∈ c0.map (·.1))
    (hfin : ∀ c, C zs.length c → ended = true)
    (hseg : ∀ L A' h₀ ex s'' G cst, Room n A' → L ∈ ex → (∀ q ∈ gargs, q.1 ∈ ex) → Inv (V.g G) s'' ((L, .ns binds) :: (gargs ++ cst)) → s''.heap = h₀ → (∀ q ∈ (L, .ns binds) :: gargs, q.1 ∈ ex ∨ h₀.get? q.1 = none) →
      SegV V A' (genE V h₀ ex ended) (genY V h₀ ex ended zs) zs.length s'' (.func gbody (fenv scope L [] (qual ++ ".<locals>.") f cdv)) ((model PySem.Challenge.rw_ti0058_01.row.prog V.w).den (.func gbody (fenv scope L [] (qual ++ ".<locals>.") f cdv))) [] s'')
    (step : ∀ ga k c (G : Array GenState → Prop) fr', k < zs.length → C k c → ∀ t, Runs (V.g G) (n + 1) (letOwnedTupleGo target (.ref ga) (.int (zs.getD k 0) t)) (c ++ fr') (fun _ st2 => Runs (V.g G) (n + 1) (assign target env (.int (zs.getD k 0) t)) st2 (fun _ st3 => Runs (V.g G) (n + 1) (execs body env) st3 (fun f st4 => match f with
      | .next | .cont => ∃ c', SLe st4 (c' ++ fr') ∧ C (k + 1) c'
      | .brk => ∃ c', SLe st4 (c' ++ fr') ∧ Cb c'
      | .ret _ => False))))
    (hQ : ∀ ga og c, Cb c ∨ C zs.length c → Q .next (c ++ (ga, En.ob og) :: fr)) :
    Runs V (n + 1) (exec (.For target (.Call (.Name x p) (arg :: rest) [] cp) body [] pos) env) st Q := fun A s R E rm I k _ => by
  refine wpAny_For (wpAny_Call_Name_kw (hx A s _ E rm I (fun v s1 st1 I1 q => ?_) (fun _ _ _ _ q => q.elim))) hfold
  obtain ⟨rfl, rfl⟩ := q
  refine callWith_K (first := []) I1.kin hkeep (hargs A s1 _ E rm I1 (fun vs s2 st2 I2 q => ?_) (fun _ _ _ _ q => q.elim)) he hp
  obtain ⟨rfl, rfl⟩ := q
  refine ⟨I2.kin, ?_⟩
  refine call_gen binds rm hV (I2.le hst) ho hcd hbind hnd hkind hl (hcn _) hco hgen hk fun L ga og nm qn s3 e1 e2 e3 e4 I3 => ?_
  have hG : s3.heap.IsGen ga s3.gens.size.pred := ⟨og, nm, qn, I3.st.obj List.mem_cons_self, e1, e2, e3⟩
  refine wpAny_pyIter_gen hG ?_
  -- the store: what the generator holds, and the rest
  have hperm : SLe ((ga, En.ob og) :: (L, En.ns binds) :: (gargs ++ (c0 ++ fr))) (((L, En.ns binds) :: gargs) ++ (c0 ++ (ga, En.ob og) :: fr)) := by
    refine .perm ?_ .refl
    have h1 : ((ga, En.ob og) :: (L, En.ns binds) :: (gargs ++ (c0 ++ fr))).Perm ((L, En.ns binds) :: (ga, En.ob og) :: (gargs ++ (c0 ++ fr))) := List.Perm.swap _ _ _
    refine h1.trans (List.Perm.cons _ ?_)
    show ((ga, En.ob og) :: (gargs ++ (c0 ++ fr))).Perm (gargs ++ (c0 ++ (ga, En.ob og) :: fr))
    rw [← List.append_assoc, ← List.append_assoc]
    exact List.perm_middle.symm
  have I4 := I3.le hperm
  have nd := I4.st.nd
  rw [List.map_append] at nd
  have hap := (List.nodup_append.mp nd).2.2
  have hin : ∀ q ∈ c0 ++ (ga, En.ob og) :: fr, (s3.heap.get? q.1).isSome = true ∧ q.1 ∉ ((L, En.ns binds) :: gargs).map (·.1) := fun q hq => by
    obtain ⟨o, e, _⟩ := I4.st.has q (List.mem_append_right _ hq)
    exact ⟨by rw [e]; rfl, fun hm => hap _ hm _ (List.mem_map.mpr ⟨q, hq, rfl⟩) rfl⟩
  refine for_gen (h₀ := s3.heap) (ex := ((L, En.ns binds) :: gargs).map (·.1)) (nm := nm) (qn := qn) (zs := zs) (ended := ended) hV C Cb (og := og) (fr := (ga, En.ob og) :: fr) List.mem_cons_self e1 e2 e3 (fun k c hc q hq => ?_) (fun q hq => hin q (List.mem_append_right _ hq)) hfin (step ga) (hQ ga og) zs.length 0 c0 ((L, En.ns binds) :: gargs) A s3 _ rm (Nat.zero_add _) hc0 I4 ?_ (fun _ => rfl) (fun f s' st' I' q => k f s' st' I' q)
  · obtain ⟨q', hq', e⟩ := List.mem_map.mp (hCa k c hc q hq)
    rw [← e]
    exact hin q' (List.mem_append_left _ hq')
  · refine ⟨fun q hq => .inl (List.mem_map.mpr ⟨q, hq, rfl⟩), _, e4, fun _ s'' G cst I'' hh => ⟨rfl, ?_⟩⟩
    exact hseg L A.in1 s3.heap _ s'' G cst rm.in1 (List.mem_map.mpr ⟨_, List.mem_cons_self, rfl⟩) (fun q hq => List.mem_map.mpr ⟨q, List.mem_cons_of_mem _ hq, rfl⟩) I'' (hh rfl) fun q hq => .inl (List.mem_map.mpr ⟨q, hq, rfl⟩)
end
end Mine
end

section
set_option linter.unusedVariables false
namespace Mine
open PySem PySem.W PyProof.Rows PySem.Calls PySem.Spec

section
variable {V : Cx} {A : Around} {m n : Nat} {s₀ s : Shared} {c : Code} {fs : List Frame} {h₀ : Heap} {ex : List Addr} {ended : Bool} {zs : List Int}
theorem seg_give {e : Expr} {ypos pos : Pos} {env : Env} {K : Flow → Sem Fin} {H : Value → Sem Fin} {gd lv} {st gst : Sto} {z : Int} (rm : Room n (A.over c fs)) (I : Inv (V.g (· = s₀.gens)) s st) (ht : s₀.toks ≤ s.toks)
    (h : Runs (V.g (· = s₀.gens)) n (eval e env) st (fun v st' => ∃ t, v = .int z t ∧ st' = gst ++ fullOf V.B h₀ s₀.heap ex)) (hz : zs.getD (zs.length - 1 - m) 0 = z) (hex : ∀ p ∈ gst, p.1 ∈ ex ∨ h₀.get? p.1 = none)
    (hfs : splitAtGen fs = none) (hgd : gd false = false) (hfg : fs.any Frame.guarded = false) (hco : env.scope.isCoroutine = false) (hi : interactive env = false)
    (next : 0 < m ∨ ended = true → ∀ s'' G cst, Inv (V.g G) s'' (gst ++ cst) → SegV V A (genE V h₀ ex ended) (genY V h₀ ex ended zs) m s'' c (K .next) fs s'') :
    SegV V A (genE V h₀ ex ended) (genY V h₀ ex ended zs) (m + 1) s₀ c ((exec (.Expr (.Yield (some e) ypos) pos) env).wrap K H gd lv) fs s := by
  refine seg_Expr_Yield hfs hgd hfg (wpAny_with_toks (Nat.le_refl _) (h _ _ _ _ rm I (fun v s' st' I' q ht' kap hk => ?_) fun _ _ _ _ q => q.elim)) hco hi
  obtain ⟨t, rfl, rfl⟩ := q
  exact ⟨gst, t, by rw [hz], Nat.le_trans ht ht', I', hex, fun hh s'' G cst I'' => hk .none s'' (next hh s'' G cst I'')⟩
theorem seg_last {gst : Sto} {v : Value} (I : Inv (V.g (· = s₀.gens)) s (gst ++ fullOf V.B h₀ s₀.heap ex)) (ht : s₀.toks ≤ s.toks) (he : ended = true) (hv : v = .none) :
    SegV V A (genE V h₀ ex ended) (genY V h₀ ex ended zs) 0 s₀ c (.pure (.done (.ret v))) [] s := by
  subst hv
  refine seg_end (.ok (.ret .none)) ⟨rfl, rfl, he, ht, I.le (SLe.sub (List.sublist_append_right _ _))⟩
theorem over_room {n : Nat} {A : Around} {c : Code} {fs : List Frame} (r : Room (n + 2) A) (h1 : (marksOver fs (A.handled, A.handled)).1 = A.handled) (h2 : frameCount (fs.map Frame.where_) + c.weight ≤ 2) (h3 : unitsOf (fs.map Frame.where_) + c.cUnits ≤ 32) : Room n (A.over c fs) := by
  refine ⟨h1.trans r.hd, ?_, ?_⟩
  · show A.depth + frameCount (fs.map Frame.where_) + c.weight + n ≤ 900
    have := r.dp
    omega
  · show A.units + unitsOf (fs.map Frame.where_) + c.cUnits + 16 * n ≤ 9000
    have := r.un
    omega
end
section
variable {V : Cx} {n : Nat} {α β : Type} {st : Sto} {X : Value → Sto → Prop}
theorem Runs.join2 {t : Sem α} {f : α → Sem β} {Q : β → Sto → Prop} (w : β → Sto → Prop) (h : Runs V n t st (fun a st' => Runs V n (f a) st' (fun b st'' => ∃ st3, SLe st'' st3 ∧ w b st3) X) X) (hq : ∀ b st', w b st' → Q b st') : Runs V n t st (fun a st' => Runs V n (f a) st' Q X) X :=
  h.mono fun a st' q => Runs.post (q.mono fun b st'' q => let ⟨st3, hs, hw⟩ := q; ⟨st3, hs, hq b st3 hw⟩)
end
theorem and_rfl {α : Type} {a : α} {P : Prop} (h : P) : a = a ∧ P := ⟨rfl, h⟩
theorem gst_new {V : Cx} {s : Shared} {it : Addr} {e : En} {gst : Sto} {h₀ : Heap} {ex : List Addr} {p : Array GenState → Prop} (I : Inv (V.g p) s ((it, e) :: (gst ++ fullOf V.B h₀ h₀ ex))) : it ∈ ex ∨ h₀.get? it = none := by
  by_cases hx : it ∈ ex
  · exact .inl hx
  · refine .inr ?_
    cases q : h₀.get? it with
    | none => rfl
    | some o =>
      exfalso
      have nd := I.st.nd
      rw [List.map_cons] at nd
      refine (List.nodup_cons.mp nd).1 (List.mem_map.mpr ⟨(it, .ob o), List.mem_append_right _ (mem_full q (by rw [q]; rfl) (I.st.new _ List.mem_cons_self) hx), rfl⟩)
section
variable {V : Cx} {A : Around} {R : GenEnd} {Y : Protocol} {m n : Nat} {s₀ s : Shared} {c : Code} {fs : List Frame}
theorem seg_whileTrue {test : Expr} {body : List Stmt} {env : Env} {st st0 : Sto} (rm : Room n (A.over (.whileLoop test body [] env) fs)) (I : Inv V s st)
    (h : Runs V n (isTrue test env (eval test env)) st (fun b st' => b = true ∧ st' = st0))
    (k : ∀ s1, Inv V s1 st0 → s.toks ≤ s1.toks → SegV V A R Y m s₀ (.whileLoop test body [] env) ((execs body env).wrap (fun f => match f with
            | .next | .cont => .pure (.again (.whileLoop test body [] env))
            | .brk => .pure (.done .next)
            | .ret v => .pure (.done (.ret v))) (fun e => (do noteFrame e env; theTreesLotGoes e : Sem Unit).wrap (fun _ => .raise e) .raise id id) id id) fs s1) :
    SegV V A R Y m s₀ (.whileLoop test body [] env) ((model PySem.Challenge.rw_ti0058_01.row.prog V.w).den (.whileLoop test body [] env)) fs s := by
  refine seg_whileLoop (wpAny_with_toks (Nat.le_refl _) (h _ _ _ _ rm I (fun b s1 st1 I1 q ht => ?_) fun _ _ _ _ q => q.elim))
  obtain ⟨rfl, rfl⟩ := q
  rw [if_pos rfl]
  exact k s1 I1 ht
end
section
variable {V : Cx} {n : Nat} {st : Sto} {X : Value → Sto → Prop}
theorem R_ReturnN {env : Env} {pos : Pos} {Q : Flow → Sto → Prop} (h : Q (.ret .none) st) : Runs V n (exec (.Return none pos) env) st Q X := by
  rw [exec_Return_none]
  exact Runs.bind ((Runs.standAt (Runs.pure h)).mono fun _ _ q => q)
end
end Mine
end

section
set_option linter.unusedVariables false
namespace Mine
open PySem PySem.W PyProof.Rows PySem.Calls PySem.Spec

section
variable {V : Cx} {n : Nat} {α β : Type} {st : Sto} {X : Value → Sto → Prop}
/-- what only reads the written part -/
theorem R_peek {t : Sem α} {a : α} {Q : α → Sto → Prop} (h : peek (hd.heap_1 V.w.params) ⟨PySem.Challenge.rw_ti0058_01.row.prog, V.w.params⟩ t = some a) (q : Q a st) : Runs V n t st Q X :=
  fun A s R E rm I k _ Γ p hΓ => wp_of_peek (M := model PySem.Challenge.rw_ti0058_01.row.prog V.w) I.kin (k a s st I q) t h
/-- a call, told as code -/
def RunsK (V : Cx) (n : Nat) (f : Value) (args : Args) (st : Sto) (Q : Value → Sto → Prop) : Prop :=
  ∀ (A : Around) (s : Shared) (R : Result → Shared → Prop), Room n A → Inv V s st →
    (∀ v s' st', Inv V s' st' → Q v st' → R (.ok (.ret v)) s') → codeAny (model PySem.Challenge.rw_ti0058_01.row.prog V.w) A (.call f args) R s
theorem RunsK.call {f : Value} {vals : List Value} {kw : List (Str × Value)} {Q : Value → Sto → Prop} (h : RunsK V n f ⟨vals, kw⟩ st Q) : Runs V n (call f vals kw) st Q X := fun A s R E rm I k _ =>
  wpAny_call (h A s _ rm I fun v s' st' I' q => k v s' st' I' q)
/-- a call of a def, with what it takes by keyword or by default -/
theorem R_callD {name qual : Str} {params : Arguments} {body : List Stmt} {scope : Scope} {dV kV doc pm cdv ct oc : Value} {an od : Option Addr} {osl : Array (Option Value)} {f : Addr} {vals : List Value} {kw : List (Str × Value)} {Q : Value → Sto → Prop}
    (ho : (hd.heap_1 V.w.params).lookup f = some ⟨oc, od, .func (fnOf name qual params body scope dV kV doc pm an cdv ct), osl⟩) (hcd : codeIn (hd.heap_1 V.w.params) cdv qual = true)
    (hcn : (cellNames scope.names).Nodup) (hco : scope.isCoroutine = false) (hgen : scope.isGenerator = false) (hk : scope.kind = .function)
    (hb : Runs V n (bindArgs (fnOf name qual params body scope dV kV doc pm an cdv ct) ⟨vals, kw⟩) st (fun b st1 => ∃ (l : List (Str × Value)) (cv : List (Str × Option Value)), (b.map (·.1)).Nodup ∧
      (b.all fun y => scope.names.lookup y.1 == some .local || scope.names.lookup y.1 == some .cell) = true ∧ (l = b.filter fun p => scope.names.lookup p.1 == some .local) ∧
      (cv = (cellNames scope.names).reverse.map fun x => (x, bindC (fun y => scope.names.lookup y) b (fun _ => none) x)) ∧
      ∀ L cl, cl.map (·.1) = cv.map (·.1) → Runs V n (execs body (fenv scope L cl (qual ++ ".<locals>.") f cdv)) ((L, .ns l) :: ((cl.zip cv).map (fun q => (q.1.2, En.cell q.2.2)) ++ st1))
        (fun fl st' => ∃ st'', SLe st' st'' ∧ Q (retOf fl) st''))) : RunsK V (n + 1) (.ref f) ⟨vals, kw⟩ st Q := by
  intro A s0 R rm I0 k
  refine codeAny_call_function (fd := fnOf name qual params body scope dV kV doc pm an cdv ct) rm.depth (I0.st.old _ _ (I0.ok.kin _ _ ho)) rfl hco hgen rfl (codeRec_of (fun _ _ e => I0.st.old _ _ (I0.ok.kin _ _ e)) hcd) ?_
  refine hb A.in1 s0 _ _ rm.in1 I0 (fun b s st2 I q => ?_) (fun _ _ _ _ q => q.elim)
  obtain ⟨l, cv, hnd, hkind, hl, hcv, h⟩ := q
  refine wpAny_with_toks (Nat.le_refl _) (wpAny_newFunctionEnv_cells hk (kindsX hkind _) fun env he s₁ C htk => ?_)
  subst he
  refine ⟨(I.ok.lim.keeps I.st.old).keeps C.toInCall.keep, codeAny_func ?_⟩
  show wpAny _ (A.deeper (callEnvC (fnOf name qual params body scope dV kV doc pm an cdv ct) s.heap.objs.size f)) (execs body (callEnvC (fnOf name qual params body scope dV kV doc pm an cdv ct) s.heap.objs.size f)) _ _ s₁
  replace C : InCallC s (callEnvC (fnOf name qual params body scope dV kV doc pm an cdv ct) s.heap.objs.size f).locals (bindL (callEnvC (fnOf name qual params body scope dV kV doc pm an cdv ct) s.heap.objs.size f).kindOf b fun _ => none) (callEnvC (fnOf name qual params body scope dV kV doc pm an cdv ct) s.heap.objs.size f).cells
        (bindC (callEnvC (fnOf name qual params body scope dV kV doc pm an cdv ct) s.heap.objs.size f).kindOf b fun _ => none) s₁ := C
  have hL : s.heap.objs.size ≤ s.heap.objs.size := Nat.le_refl _
  have keep := C.toInCall.keep
  obtain ⟨h₁, tk, hs₁⟩ := C.toInCall.same
  generalize hcl : cellsFrom (s.heap.objs.size + 1) scope.names [] = cl at *
  have hce : (callEnvC (fnOf name qual params body scope dV kV doc pm an cdv ct) s.heap.objs.size f) = fenv scope s.heap.objs.size cl (qual ++ ".<locals>.") f cdv := by
    rw [← hcl]; rfl
  rw [hce] at C ⊢
  have hnames : cl.map (·.1) = cv.map (·.1) := by
    rw [← hcl, cellsFrom_names, hcv]
    simp [List.map_map, Function.comp_def]
  have hge : (cl.map (·.2)).Nodup ∧ ∀ p ∈ cl, s.heap.objs.size + 1 ≤ p.2 := by
    obtain ⟨a, b⟩ := cellsFrom_ge scope.names (s.heap.objs.size + 1) [] (fun _ hp => nomatch hp) List.nodup_nil
    rw [hcl] at a b
    exact ⟨a, fun p hp => (b p hp).resolve_left (fun q => nomatch q)⟩
  have hlen : cl.length = cv.length := by have := congrArg List.length hnames; simpa using this
  have hnew : St V.B s₁.heap (((s.heap.objs.size, En.ns l) :: (cl.zip cv).map (fun q => (q.1.2, En.cell q.2.2))) ++ st2) := by
    refine I.st.more keep (fun p hp => ?_) ?_
    · rcases List.mem_cons.mp hp with rfl | hp
      · refine ⟨get?_size_none _, is_ns C.toInCall.ns (fun p hp => ?_) ?_⟩
        · rw [hl] at hp
          obtain ⟨a, b⟩ := List.mem_filter.mp hp
          exact bindL_of hnd p a (show scope.names.lookup p.1 = some .local from by simpa using b)
        · rw [hl]
          exact ((List.filter_sublist (l := b)).map (·.1)).nodup hnd
      · obtain ⟨q, hq, rfl⟩ := List.mem_map.mp hp
        obtain ⟨⟨x, c⟩, ⟨y, v⟩⟩ := q
        have hq1 := (List.of_mem_zip hq).1
        have hq2 := (List.of_mem_zip hq).2
        have hxy : x = y := by
          obtain ⟨i, hi⟩ := List.mem_iff_getElem?.mp hq
          rw [List.getElem?_zip_eq_some] at hi
          have e1 : (cl.map (·.1))[i]? = some x := by rw [List.getElem?_map, hi.1]; rfl
          have e2 : (cv.map (·.1))[i]? = some y := by rw [List.getElem?_map, hi.2]; rfl
          rw [hnames, e2] at e1
          exact (Option.some.inj e1).symm
        subst hxy
        refine ⟨none_of_ge (Nat.le_of_succ_le (hge.2 _ hq1)), is_cell ?_⟩
        have hv : v = bindC (fun y => scope.names.lookup y) b (fun _ => none) x := by
          rw [hcv] at hq2
          obtain ⟨z, _, e⟩ := List.mem_map.mp hq2
          cases e; rfl
        rw [hv]
        refine C.cell x c ?_
        have nd : (cl.map (·.1)).Nodup := by
          rw [← hcl, cellsFrom_names]
          rw [List.map_nil, List.append_nil]
          unfold List.Nodup
          exact List.pairwise_reverse.mpr (List.Pairwise.imp (fun h => Ne.symm h) hcn)
        exact lookup_of_nodup nd hq1
    · rw [List.map_cons, List.map_map]
      have e : (cl.zip cv).map ((fun x : Addr × En => x.1) ∘ fun q => (q.1.2, En.cell q.2.2)) = cl.map (·.2) := by
        rw [show ((fun x : Addr × En => x.1) ∘ fun (q : (Str × Addr) × Str × Option Value) => (q.1.2, En.cell q.2.2)) = (·.2) ∘ Prod.fst from rfl, ← List.map_map, List.map_fst_zip (by omega)]
      rw [e]
      refine List.nodup_cons.mpr ⟨fun q => ?_, hge.1⟩
      obtain ⟨p, hp, e⟩ := List.mem_map.mp q
      have := hge.2 p hp
      rw [e] at this
      exact Nat.not_succ_le_self _ this
  have I₁ : Inv V s₁ (((s.heap.objs.size, En.ns l) :: (cl.zip cv).map (fun q => (q.1.2, En.cell q.2.2))) ++ st2) := by
    rw [hs₁] at hnew ⊢
    exact I.at hnew (flr_le (flr_pos _) fun p hp => (by
      rcases List.mem_append.mp hp with hp | hp
      · rcases List.mem_cons.mp hp with rfl | hp
        · exact Nat.zero_le _
        · obtain ⟨q, hq, rfl⟩ := List.mem_map.mp hp
          exact Nat.zero_le _
      · exact flr_mem hp)) (by rw [hs₁] at htk; exact htk)
  exact wpAny_mono (h s.heap.objs.size cl hnames _ _ (fun fl s' => match retOf fl with | v => R (.ok (.ret v)) s') (fun _ _ => False) rm.deeper I₁ (fun fl s' st' I' q => by
    obtain ⟨st'', hs, q⟩ := q
    exact k _ _ _ (I'.le hs) q) (fun _ _ _ _ q => q.elim)) (fun fl s' q => by cases fl <;> exact q) (fun _ _ q => q.elim)

theorem R_callG {name qual : Str} {params : Arguments} {body : List Stmt} {scope : Scope} {dV kV doc pm cdv ct oc : Value} {an od : Option Addr} {osl : Array (Option Value)} {f : Addr} {vals : List Value} {kw : List (Str × Value)} {Q : Value → Sto → Prop}
    (binds : List (Str × Value)) (l : List (Str × Value)) (cv : List (Str × Option Value)) (st1 : Sto)
    (ho : (hd.heap_1 V.w.params).lookup f = some ⟨oc, od, .func (fnOf name qual params body scope dV kV doc pm an cdv ct), osl⟩) (hcd : codeIn (hd.heap_1 V.w.params) cdv qual = true)
    (hb : Runs V n (bindArgs (fnOf name qual params body scope dV kV doc pm an cdv ct) ⟨vals, kw⟩) st (fun b st' => b = binds ∧ st' = st1)) (hnd : (binds.map (·.1)).Nodup)
    (hkind : (binds.all fun y => scope.names.lookup y.1 == some .local || scope.names.lookup y.1 == some .cell) = true)
    (hl : l = binds.filter fun p => scope.names.lookup p.1 == some .local)
    (hcv : cv = (cellNames scope.names).reverse.map fun x => (x, bindC (fun y => scope.names.lookup y) binds (fun _ => none) x))
    (hcn : (cellNames scope.names).Nodup)
    (h : ∀ L cl, cl.map (·.1) = cv.map (·.1) → Runs V n (execs body (fenv scope L cl (qual ++ ".<locals>.") f cdv)) ((L, .ns l) :: ((cl.zip cv).map (fun q => (q.1.2, En.cell q.2.2)) ++ st1))
      (fun fl st' => ∃ st'', SLe st' st'' ∧ Q (retOf fl) st''))
    (hco : scope.isCoroutine = false) (hgen : scope.isGenerator = false) (hk : scope.kind = .function) : RunsK V (n + 1) (.ref f) ⟨vals, kw⟩ st Q :=
  R_callD ho hcd hcn hco hgen hk (hb.mono fun b st' q => by
    obtain ⟨rfl, rfl⟩ := q
    exact ⟨l, cv, hnd, hkind, hl, hcv, h⟩)
end
end Mine
end

section
set_option linter.unusedVariables false
namespace Mine
open PySem PySem.W PyProof.Rows PySem.Calls PySem.Spec

section
variable {V : Cx} {n : Nat} {α β : Type} {st : Sto} {X : Value → Sto → Prop}
abbrev instE (C dx : Addr) : En := .ob (instObj C dx)
abbrev dict0 : En := .ob emptyDict
abbrev dict1 (V : Cx) (name : Str) (tk : Tok) (v : Value) : En := .ob { cls := .type "dict", data := .dict #[⟨PyData.keyHash V.w.params name, .str name tk, v⟩] 1 }

theorem inst_at {s : Shared} (I : Inv V s st) {x C dx : Addr} {od : Obj} (hx : (x, instE C dx) ∈ st) (hd : (dx, En.ob od) ∈ st) : InstAt s.heap x (instObj C dx) C (some od) := ⟨I.st.obj hx, rfl, rfl, I.st.obj hd⟩
/-- an own class made -/
theorem R_make {C fI : Addr} {vals : List Value} {Q : Value → Sto → Prop} (hm : makesIn (hd.heap_1 V.w.params) C = true) (hi : findIn (hd.heap_1 V.w.params) (.ref C) "__init__" = some (some (.ref fI))) (hf : typeIn (hd.heap_1 V.w.params) (.ref fI) = some (.type "function"))
    (h : ∀ x dx, RunsK V n (.ref fI) ⟨.ref x :: vals, []⟩ ((x, instE C dx) :: (dx, dict0) :: st) (fun v st' => v = .none ∧ Q (.ref x) st')) : Runs V (n + 1) (call (.ref C) vals) st Q X := fun A s R E rm I k _ => by
  refine wpAny_call ?_
  have hu : Room n (A.under (.builtin "type.__call__" ⟨.ref C :: vals, []⟩)) := ⟨rm.hd, by
    have := rm.dp
    show A.depth + 1 + n ≤ 900
    omega, by
    have := rm.un
    show A.units + 1 + 16 * n ≤ 9000
    omega⟩
  have S := (I.st.alloc (o := emptyDict) (e := dict0) rfl rfl)
  have S2 := S.alloc (o := instObj C s.heap.objs.size) (e := instE C s.heap.objs.size) rfl rfl
  rw [Heap.size_push] at S2
  have I2 : Inv V { s with heap := (s.heap.push emptyDict).push (instObj C s.heap.objs.size) } ((s.heap.objs.size + 1, instE C s.heap.objs.size) :: (s.heap.objs.size, dict0) :: st) := I.ath S2 (by simp only [flr, flr1]; omega)
  obtain ⟨hh, g, d, t, os⟩ := s
  refine make_core (makes_of I.kin hm) (looks_findIn I.kin hi) (fun self => bind_fn I.kin self hf) (.inl rfl) ?_
  refine h _ _ (A.under (.builtin "type.__call__" ⟨.ref C :: vals, []⟩)) _ _ hu I2 fun v s' st' I' q => ?_
  obtain ⟨rfl, q⟩ := q
  exact ⟨rfl, k _ _ _ I' q⟩
theorem R_getAttr {C x dx : Addr} {name : Str} {v : Value} {od : Obj} {attr : Option Value} {expr : Bool} {Q : Value → Sto → Prop} (hx : (x, instE C dx) ∈ st) (hd' : (dx, En.ob od) ∈ st) (hg : findIn (hd.heap_1 V.w.params) (.ref C) "__getattribute__" = some (some (.builtin "object.__getattribute__")))
    (hh : hasDictIn (hd.heap_1 V.w.params) C = true) (ha : findIn (hd.heap_1 V.w.params) (.ref C) name = some attr) (hn : noGet (hd.heap_1 V.w.params) attr = true) (hl : lookIn name od = some (some v)) (hv : handedIn v = true) (h : Q v st) : Runs V n (getAttr (.ref x) name expr) st Q X := fun A s R E rm I k _ =>
  get_value I.kin (inst_at I hx hd') hg (findObj_own hh ha hn hl) hv (k _ _ _ I.tok h)
theorem R_getMethod {C x dx f : Addr} {name : Str} {od : Obj} {pl : Sem Bool} {Q : Value × List Value → Sto → Prop} (hx : (x, instE C dx) ∈ st) (hd' : (dx, En.ob od) ∈ st) (hg : findIn (hd.heap_1 V.w.params) (.ref C) "__getattribute__" = some (some (.builtin "object.__getattribute__")))
    (hg2 : findIn (hd.heap_1 V.w.params) (.ref C) "__getattr__" = some none) (hf : findIn (hd.heap_1 V.w.params) (.ref C) name = some (some (.ref f))) (ht : typeIn (hd.heap_1 V.w.params) (.ref f) = some (.type "function")) (hs : shadowIn (some od) name = some false) (h : Q (.ref f, [.ref x]) st) :
    Runs V n (getMethod (.ref x) name pl) st Q X := fun A s R E rm I k _ => method_fn I.kin (inst_at I hx hd') hg hg2 hf ht hs (k _ _ _ I h)
theorem R_Attr {env : Env} {x attr : Str} {np pos : Pos} {Q : Value → Sto → Prop} (h : Runs V n (eval (.Name x np) env) st (fun o st1 => Runs V n (getAttr o attr true) st1 Q X) X) : Runs V n (eval (.Attribute (.Name x np) attr pos) env) st Q X := fun A s R E rm I k y =>
  Attribute_name (h A s _ E rm I (fun o s1 st1 I1 h1 => h1 A s1 R E rm I1 k y) y)
/-- a method of an own thing called, with what is given by keyword -/
theorem R_callM {env : Env} {o : Expr} {name : Str} {apos pos : Pos} {args : List Expr} {kws : List Keyword} {Q : Value → Sto → Prop} (hbase : attributeBase o name env (eval o env) = eval o env)
    (hform : methodCallForm (args.length + kws.length) (backTo pos (starEach args env)) (backToKw pos (keywordEach kws env)) = true) (hline : (apos.endLine == pos.line) = true)
    (h : Runs V n (eval o env) st (fun ov st1 => Runs V n (getMethod ov name (do return (← importBound o env).getD true)) st1 (fun r st2 => Runs V n (callWith pos r.1 r.2 (backTo pos (starEach args env)) (backToKw pos (keywordEach kws env))) st2 Q X) X) X) :
    Runs V n (eval (.Call (.Attribute o name apos) args kws pos) env) st Q X := by
  rw [arm_eval_Call, hbase]
  refine Runs.bind (h.mono fun ov st1 q => ?_)
  refine Runs.bind (Runs.standAt ?_)
  unfold methodCall
  rw [hform]
  refine Runs.bind (Runs.holding (Runs.mono q fun r st2 q2 => ?_))
  have hpos : methodCallPos true o env apos pos = Pure.pure pos := by unfold methodCallPos; simp [hline]
  rw [hpos]
  exact Runs.bind (Runs.pure q2)
theorem R_evalAll_nil {Q : List Value → Sto → Prop} (h : Q [] st) : Runs V n (evalAll []) st Q X := Runs.pure h
theorem R_evalAll_cons {x : Sem Value} {rest : List (Sem Value)} {Q : List Value → Sto → Prop} (h : Runs V n x st (fun v st1 => Runs V n (evalAll rest) st1 (fun vs st2 => Q (v :: vs) st2) X) X) : Runs V n (evalAll (x :: rest)) st Q X := fun A s R E rm I k y =>
  wpAny_evalAll_cons (h A s _ E rm I (fun v s1 st1 I1 h1 => h1 A s1 _ E rm I1 (fun vs s2 st2 I2 q => k _ _ _ I2 q) y) y)
/-- a def of the written part called, with what is given by keyword -/
theorem R_cwF {env : Env} {f : Addr} {first : List Value} {pos : Pos} {e : Expr} {rest : List Expr} {keywords : List (Option Str × Sem Value)} {oc : Value} {od : Option Addr} {fd : FuncData} {osl : Array (Option Value)} {Q : Value → Sto → Prop}
    (ho : (hd.heap_1 V.w.params).lookup f = some ⟨oc, od, .func fd, osl⟩) (he : starEach (e :: rest) env = (false, eval e env) :: starEach rest env) (hall : keywords.all (·.1.isSome) = true)
    (h : Runs V n (spliced (backTo pos (starEach (e :: rest) env))) st (fun vs st1 => Runs V n (evalAll (keywords.map (·.2))) st1 (fun ks st2 => Runs V n (call (.ref f) (first ++ vs) ((keywords.filterMap (·.1)).zip ks)) st2 Q X) X) X) :
    Runs V n (callWith pos (.ref f) first (backTo pos (starEach (e :: rest) env)) keywords) st Q X := fun A s R E rm I k y => by
  rw [he] at h ⊢
  refine callWith_function_kw (o := ⟨oc, od, .func fd, osl⟩) (fd := fd) (evalArgs_kw hall (h A s _ E rm I (fun vs s1 st1 I1 h1 => h1 A s1 _ E rm I1 (fun ks s2 st2 I2 h2 => ⟨⟨I2.kin _ _ ho, rfl⟩, h2 A s2 R E rm I2 k y⟩) y) y))
theorem R_AssignAttr {env : Env} {o value : Expr} {attr : Str} {p pos : Pos} {Q : Flow → Sto → Prop} (h : Runs V n (eval value env) st (fun v st1 => Runs V n (eval o env) st1 (fun ov st2 => Runs V n (setAttr ov attr v) st2 (fun _ st3 => Q .next st3) X) X) X)
    (hs : swapsWith value (some (.Attribute o attr p)) pos.line env = Pure.pure false) : Runs V n (exec (.Assign [.Attribute o attr p] value pos) env) st Q X := fun A s R E rm I k y =>
  plainObj_wpAny_Assign_Attribute (h A s _ E rm I (fun v s1 st1 I1 h1 => h1 A s1 _ E rm I1 (fun ov s2 st2 I2 h2 => h2 A s2 _ E rm I2 (fun _ s3 st3 I3 q => k _ _ _ I3 q) y) y) y) hs
end
end Mine
end

section
set_option linter.unusedVariables false
namespace Mine
open PySem PySem.W PyProof.Rows PySem.Calls PySem.Spec

section
variable {V : Cx} {n : Nat} {α β : Type} {st : Sto} {X : Value → Sto → Prop}
theorem put_empty (name : Str) (hsh : Int) (key v : Value) : Obj.putName name hsh key v emptyDict = { cls := .type "dict", data := .dict #[⟨hsh, key, v⟩] 1 } := rfl
/-- the first name bound in an own thing -/
theorem R_setAttr0 {C x dx : Addr} {name : Str} {v : Value} {Q : Unit → Sto → Prop} (hx : (x, instE C dx) ∈ st) (hs : findIn (hd.heap_1 V.w.params) (.ref C) "__setattr__" = some (some (.builtin "object.__setattr__")))
    (hp : plainOver (hd.heap_1 V.w.params) C = true) (ht : takerIn (hd.heap_1 V.w.params) C name = some none) (hh : hasDictIn (hd.heap_1 V.w.params) C = true)
    (h : ∀ tk, ∃ st', SSet dx dict0 (dict1 V name tk v) st st' ∧ Q () st') : Runs V n (setAttr (.ref x) name v) st Q X := fun A s R E rm I k _ => by
  have hD : (dx, dict0) ∈ st := let ⟨_, a, _⟩ := h 0; a.mem
  refine set_plain I.kin (inst_at I hx hD) hs ?_
  have I1 : Inv V { s with toks := s.toks + 1 } st := I.tok
  have hx' := I1.st.obj hx
  have hd' := I1.st.obj hD
  refine osa_open (s := { s with toks := s.toks + 1 }) I1.kin (inst_at I1 hx hD) hp ht fun b => ?_
  obtain ⟨cd, hc, hcd⟩ := any_some hh
  refine wpAny_bind (wpAny_pure (wpAny_bind (wpAny_bind (wpAny_loadPart hx' (wpAny_bind ((looks_clsIn I1.kin hc).here ?_))))))
  rw [hcd]
  refine wpAny_pure (a := some dx) (wpAny_bind (wpAny_pure (wpAny_bind ?_)))
  unfold nsSet
  refine wpAny_bind (wpAny_bind (wpAny_askSetting (wpAny_pure (wpAny_bind (wpAny_mkText (wpAny_bind (wpAny_loadPart hd' ?_)))))))
  obtain ⟨st2, hset, hq⟩ := h (s.toks + 1)
  have hself : (s.heap.update dx (Obj.putName name (PyData.keyHash V.w.params name) (.str name (s.toks + 1)) v)).get? dx = some { cls := .type "dict", data := .dict #[⟨PyData.keyHash V.w.params name, .str name (s.toks + 1), v⟩] 1 } :=
    Heap.get?_update_self _ hd' rfl
  have hne : ∀ b o, b ≠ dx → s.heap.get? b = some o → (s.heap.update dx (Obj.putName name (PyData.keyHash V.w.params name) (.str name (s.toks + 1)) v)).get? b = some o := fun b o hb e => (Heap.get?_update_ne _ _ _ _ hb).trans e
  have S2 := I1.st.turn hset hne ⟨_, hself, rfl⟩
  have I2 : Inv V { s with heap := s.heap.update dx (Obj.putName name (PyData.keyHash V.w.params name) (.str name (s.toks + 1)) v), toks := s.toks + 1 + 1 } st2 := I.at S2 (hset.flr (Nat.le_refl _)) (by omega)
  show wpAny _ A.in1 ((if aRefKeyMayBeTheName name #[] = true then _ else _)) _ _ _
  rw [aRefKeyMayBeTheName_at, show ((!(#[] : Array DictEntry).any (·.key.isStr name)) && (#[] : Array DictEntry).any (·.refKey)) = false from by simp]
  refine wpAny_updatePart hd' ?_
  refine wpAny_bind (wpAny_lookBehind hself (pastItsLine_dict (by show 1 ≤ 2 ^ 24 + 1; omega)) ?_)
  exact wpAny_pure (k _ _ _ I2 hq)
end
end Mine
end

section
set_option linter.unusedVariables false
set_option maxRecDepth 100000
namespace Mine
open PySem PySem.W PyProof.Rows PySem.Calls PySem.Spec PySem.Builtin PySem.Builtin.Re

def drive : Nat → Sre.M → Option Sre.M
  | 0, _ => none
  | f + 1, m => if (m.runFor reTurnSteps).outcome.isSome then some (m.runFor reTurnSteps) else drive f (m.runFor reTurnSteps)
def failsAt (code : Array Nat) (x : Nat) : Bool := match drive 100 (Sre.forSearch code #[x] 0 0 1 false) with
  | some m => match m.outcome with | some .failed => true | _ => false
  | none => false
section
variable {V : Cx} {n : Nat} {α β : Type} {st : Sto} {X : Value → Sto → Prop}
theorem R_drive : ∀ (f turns : Nat) (m m' : Sre.M), drive f m = some m' → f ≤ turns → Runs V n (reDrive turns m) st (fun r st' => r = m' ∧ st' = st) X
  | 0, _, _, _, h, _ => nomatch h
  | f + 1, 0, _, _, _, h => absurd h (by omega)
  | f + 1, t + 1, m, m', h, hl => by
    unfold drive at h
    unfold reDrive
    dsimp only
    split at h
    · rename_i hq
      rw [if_pos hq]
      exact Runs.pure ⟨Option.some.inj h, rfl⟩
    · rename_i hq
      rw [if_neg hq]
      exact Runs.bind (Runs.rule (R_drive f t _ m' h (by omega)))
theorem R_forAll {γ : Type} {f : γ → PUnit → Sem (ForInStep PUnit)} (hf : ∀ i r, Runs V n (f i r) st (fun s st' => (∃ u, s = .yield u) ∧ st' = st) X) (l : List γ) : ∀ (u : PUnit), Runs V n (forIn l u f) st (fun _ st' => st' = st) X := by
  induction l with
  | nil => intro u; exact Runs.pure rfl
  | cons i l ih =>
    intro u
    rw [List.forIn_cons]
    refine Runs.bind ((hf i u).mono fun s st' q => ?_)
    obtain ⟨⟨u', rfl⟩, e⟩ := q
    rw [e]
    exact ih u'
theorem R_runFail {m m' : Sre.M} {Q : Option Sre.M → Sto → Prop} (h : drive 100 m = some m') (hf : m'.outcome = some .failed) (q : Q none st) : Runs V n (reRunToEnd m) st Q X := by
  unfold reRunToEnd
  refine Runs.bind ((R_drive 100 _ m m' h (by decide)).mono fun r st' e => ?_)
  obtain ⟨rfl, rfl⟩ := e
  refine Runs.bind ((R_forAll (fun i r => ?_) _ _).mono fun _ st' e => ?_)
  · split
    · exact Runs.bind (Runs.rule (Runs.pure ⟨⟨_, rfl⟩, rfl⟩))
    · exact Runs.pure ⟨⟨_, rfl⟩, rfl⟩
  · subst e
    rw [hf]
    exact Runs.pure q
theorem entry_search : entryFor table "re.Pattern.search" = some Builtin.«re.Pattern.search» := entryFor_of_tree (by kernel_rfl)
theorem plain_search : plainId "re.Pattern.search" = true := by decide +kernel
/-- a text of one sign that a pattern does not meet -/
theorem R_search {p : Addr} {c : Nat} {t : Tok} {code : Array Nat} {Q : Value → Sto → Prop}
    (h1 : peek (hd.heap_1 V.w.params) ⟨PySem.Challenge.rw_ti0058_01.row.prog, V.w.params⟩ (checkBuiltinCall "re.Pattern.search" ⟨[.ref p, .str ⟨#[c]⟩ t], []⟩) = some ())
    (h2 : peek (hd.heap_1 V.w.params) ⟨PySem.Challenge.rw_ti0058_01.row.prog, V.w.params⟩ (reTarget "re.Pattern.search" "search" ⟨[.ref p, .str ⟨#[c]⟩ t], []⟩) = some ⟨.ref p, .str ⟨#[c]⟩ t, code, #[c], 0, 0, 0, 1⟩)
    (h3 : failsAt code c = true) (h : Q .none st) : Runs V (n + 1) (call (.builtin "re.Pattern.search") [.ref p, .str ⟨#[c]⟩ t]) st Q X := fun A s R E rm I k _ => by
  refine wpAny_call (codeAny_call_builtin plain_search entry_search ?_)
  refine (R_peek (V := V) (n := n) (X := noX) (st := st) (Q := fun _ st' => st' = st) h1 rfl) A.in1 s _ _ rm.in1 I (fun _ s1 st1 I1 e => ?_) fun _ _ _ _ q => q.elim
  subst e
  unfold Builtin.«re.Pattern.search»
  unfold failsAt at h3
  split at h3
  · rename_i m hm
    have hout : m.outcome = some .failed := by
      split at h3
      · assumption
      · cases h3
    refine (Runs.bind (V := V) (n := n) (X := noX) (Q := fun fin st' => fin = .done (.ret .none) ∧ st' = st1) (R_peek h2 ?_)) A.in1 s1 _ _ rm.in1 I1 (fun fin s2 st2 I2 e => ?_) fun _ _ _ _ q => q.elim
    · unfold reAnswer
      exact Runs.bind (R_runFail hm hout (Runs.pure ⟨rfl, rfl⟩))
    · obtain ⟨rfl, rfl⟩ := e
      exact k _ _ _ I2 h
  · cases h3
end
end Mine
end

section
set_option linter.unusedVariables false
set_option maxRecDepth 100000
namespace Mine
open PySem PySem.W PyProof.Rows PySem.Calls PySem.Spec

def peekNew {α : Type} (K : Frag) (S : Setting) : Sem α → Option (Obj × (Addr → Sem α))
  | .rule _ k => peekNew K S (k ())
  | .point _ k => peekNew K S (k ())
  | .ask k => peekNew K S (k S)
  | .load a _ k => (match K.lookup a with
      | some o => peekNew K S (k o)
      | none => none)
  | .alloc o k => some (o, k)
  | _ => none
theorem wp_peekNew {α : Type} {K : Frag} {M : Model} {Γ : PySem.Ctx} {Q : α → Pos → Shared → Prop} {E : Value → Pos → Shared → Prop} {p : Pos} {s : Shared} (x : K.In s.heap) {o : Obj} {g : Addr → Sem α}
    (q : ∀ p', Sem.wp M Γ (g s.heap.objs.size) Q E p' { s with heap := s.heap.push o }) : ∀ t : Sem α, peekNew K ⟨M.prog, M.w.params⟩ t = some (o, g) → Sem.wp M Γ t Q E p s := by
  intro t
  induction t with
  | rule _ k ih => intro e; exact ih () e
  | point _ k ih => intro e; exact ih () e
  | ask k ih => intro e; exact ih _ e
  | load a _ k ih =>
    intro e
    simp only [peekNew] at e
    split at e
    · rename_i ob ho; exact ⟨ob, x _ _ ho, ih ob e⟩
    · cases e
  | alloc ob k _ => intro e; cases e; exact q p
  | _ => intro e; cases e
section
variable {V : Cx} {n : Nat} {α β : Type} {st : Sto} {X : Value → Sto → Prop}
theorem R_peekNew {t : Sem α} {o : Obj} {g : Addr → Sem α} {e : En} {Q : α → Sto → Prop} (h : peekNew (hd.heap_1 V.w.params) ⟨PySem.Challenge.rw_ti0058_01.row.prog, V.w.params⟩ t = some (o, g)) (hf : o.isFreed = false) (he : e.Is o) (hz : flr1 e = 0)
    (q : ∀ D, (D == sysModules) = false → Runs V n (g D) ((D, e) :: st) Q X) : Runs V n t st Q X := fun A s R E rm I k y Γ p hΓ =>
  wp_peekNew (M := model PySem.Challenge.rw_ti0058_01.row.prog V.w) I.kin (fun p' => q s.heap.objs.size (by
    have := modules_low (I.ok.lim.keeps I.st.old)
    exact beq_eq_false_iff_ne.mpr (Nat.ne_of_gt this)) A _ R E rm (I.ath (I.st.alloc hf he) (by simp only [flr]; omega)) k y Γ p' hΓ) t h
theorem R_type_str {x : Str} {t : Tok} {Q : Value → Sto → Prop} (h : Q (.type "str") st) : Runs V n (call (.type "type") [.str x t]) st Q X := fun _ _ _ _ _ I k _ => call_type_of (Tx := "str") rfl (by decide) (k _ _ _ I h)
theorem R_type_list {l : Addr} {vs : List Value} {Q : Value → Sto → Prop} (hl : (l, En.list vs) ∈ st) (h : Q (.type "list") st) : Runs V n (call (.type "type") [.ref l]) st Q X := fun _ _ _ _ _ I k _ => call_type_of (I.st.list hl).typeIs (by decide) (k _ _ _ I h)
theorem R_is_same {a : String} {Q : Value → Sto → Prop} (h : Q (.bool true) st) : Runs V n (compareOp .Is (.type a) (.type a)) st Q X := fun _ _ _ _ _ I k _ => wpAny_is_self rfl (k _ _ _ I h)
theorem R_isNot_same {a : String} {Q : Value → Sto → Prop} (h : Q (.bool false) st) : Runs V n (compareOp .IsNot (.type a) (.type a)) st Q X := fun _ _ _ _ _ I k _ => wpAny_isNot_self rfl (k _ _ _ I h)
theorem R_debug {env : Env} {pos : Pos} {Q : Value → Sto → Prop} (h : Q (.bool true) st) : Runs V n (eval (.Name "__debug__" pos) env) st Q X := by
  have e : eval (.Name "__debug__" pos) env = (do standAt pos; debugConstant) := rfl
  rw [e]
  exact Runs.bind (Runs.standAt (Runs.bind (Runs.rule (Runs.pure h))))
theorem R_join1 {l : Addr} {sep x : Str} {t u : Tok} {Q : Value → Sto → Prop} (hl : (l, En.list [.str x u]) ∈ st) (hz : sep.length ≤ 16 ∧ x.length ≤ 16) (h : Q (.str x u) st) : Runs V n (call (.builtin "str.join") [.str sep t, .ref l]) st Q X := fun _ _ _ _ _ I k _ =>
  call_meets PySem.F.slot_str_join (typeIs_str _ _ _) PySem.F.entry_str_join (PySem.F.args_str_join_2 _ _) (meets_str_join_list sep t l [(x, u)] (by
    unfold Builtin.Str.tooLong sizeLine
    refine decide_eq_false ?_
    show ¬ (0 + x.length + sep.length > 2 ^ 24)
    omega)) ⟨I.st.list hl, k _ _ _ I h⟩
abbrev itemsE (D : Addr) : En := .ob { cls := .type "dict_items", data := .fields #[.ref D] }
abbrev itemItE (D : Addr) : En := .ob { cls := .type "dict_itemiterator", dict := none, data := .fields #[.none, .bool false, .ref D, .int (0 : Nat) 0, .int (0 : Nat) 0, .int (0 : Nat) 0, .none, .none], slots := #[] }
theorem dict_at0 {s : Shared} (I : Inv V s st) {D : Addr} (hd : (D, dict0) ∈ st) : s.heap.DictAt (strKind PySem.Challenge.rw_ti0058_01.row.prog V.w) D [] 0 :=
  ⟨_, #[], I.st.obj hd, ⟨rfl, rfl, rfl⟩, rfl, (by intro x hx; simp at hx), .nil, List.nodup_nil⟩
theorem R_methD {env : Env} {o : Expr} {name : Str} {apos pos : Pos} {args : List Expr} {id : String} {Q : Value → Sto → Prop}
    (slot : Slot "dict" name id) (hty : typeOf (.builtin id) = Pure.pure (.type "method_descriptor"))
    (hbase : attributeBase o name env (eval o env) = eval o env)
    (hfew : ((backTo pos (starEach args env)).all (fun x => !x.1) && (backToKw pos (keywordEach [] env)).all (fun x => x.1.isSome) && decide (args.length + ([] : List Keyword).length + (if ([] : List Keyword).isEmpty then 0 else 1) < 30)) = true)
    (hline : (apos.endLine == pos.line) = true)
    (h : Runs V n (eval o env) st (fun v st1 => ∃ D, v = .ref D ∧ (D, dict0) ∈ st1 ∧ Runs V n (callWith pos (.builtin id) [v] (backTo pos (starEach args env)) []) st1 Q X) X) : Runs V n (eval (.Call (.Attribute o name apos) args [] pos) env) st Q X := fun A s R E rm I k e =>
  wpAny_Call_method hbase hfew hline PySem.F.plainAttrs_dict slot hty (h A s _ E rm I (fun v s1 st1 I1 h1 => by
    obtain ⟨D, rfl, hm, h1⟩ := h1
    refine ⟨⟨_, I1.st.obj hm, rfl⟩, fun a q => ?_, h1 A s1 R E rm I1 k e⟩
    cases q
    exact ⟨_, I1.st.obj hm, rfl⟩) e)
theorem R_items {D : Addr} {Q : Value → Sto → Prop} (hD : (D, dict0) ∈ st) (hs : (D == sysModules) = false) (h : ∀ v, Q (.ref v) ((v, itemsE D) :: st)) : Runs V n (call (.builtin "dict.items") [.ref D]) st Q X := fun _ s _ _ _ I k _ => by
  have hd' := dict_at0 I hD
  exact call_meetsIn PySem.F.slot_dict_items ⟨_, I.st.obj hD, rfl⟩ PySem.F.entry_dict_items (PySem.F.args_dict_items_1 _) (meets_dict_items (strKind PySem.Challenge.rw_ti0058_01.row.prog V.w) D hs)
    ⟨⟨[], let ⟨o, es, a, b, c, d, e, f⟩ := hd'; ⟨o, es, 0, a, b, c, d, e, f⟩⟩, k _ _ _ (I.ath (I.st.alloc (e := itemsE D) rfl rfl)) (h _)⟩
theorem R_iter_items {D v : Addr} {Q : Value → Sto → Prop} (hD : (D, dict0) ∈ st) (hv : (v, itemsE D) ∈ st) (h : ∀ it, Q (.ref it) ((it, itemItE D) :: st)) : Runs V n (pyIter (.ref v)) st Q X := fun _ s _ _ _ I k _ =>
  wpAny_pyIter_items ⟨_, I.st.obj hv, rfl, rfl⟩ (dict_at0 I hD) (k _ _ _ (I.ath (I.st.alloc (e := itemItE D) rfl rfl)) (h _))
theorem R_end_items {D it : Addr} {st' : Sto} {Q : Option Value → Sto → Prop} (hD : (D, dict0) ∈ st) (hs : SDel it (itemItE D) st st') (h : Q none st') : Runs V n (pyNext (.ref it)) st Q X := fun _ s _ _ rm I k _ =>
  wpAny_pyNext_items_end rm.hd (I.st.obj hs.mem) (dict_at0 I hD) rfl fun h' hb => k _ _ _ (I.ath (I.st.del hs fun b o hb' e => hb b o hb' e) hs.flr) h
end
section
variable {V : Cx} {n : Nat} {α β : Type} {st : Sto} {X : Value → Sto → Prop}
theorem R_callM0 {env : Env} {o : Expr} {name : Str} {apos pos : Pos} {args : List Expr} {Q : Value → Sto → Prop} (hbase : attributeBase o name env (eval o env) = eval o env)
    (hform : methodCallForm (args.length + ([] : List Keyword).length) (backTo pos (starEach args env)) (backToKw pos (keywordEach [] env)) = true) (hline : (apos.endLine == pos.line) = true)
    (h : Runs V n (eval o env) st (fun ov st1 => Runs V n (getMethod ov name (do return (← importBound o env).getD true)) st1 (fun r st2 => Runs V n (callWith pos r.1 r.2 (backTo pos (starEach args env)) []) st2 Q X) X) X) :
    Runs V n (eval (.Call (.Attribute o name apos) args [] pos) env) st Q X := R_callM hbase hform hline h
/-- a call with what is given by keyword or default: no cells -/
theorem R_G0 {name qual : Str} {params : Arguments} {body : List Stmt} {scope : Scope} {dV kV doc pm cdv ct oc : Value} {an od : Option Addr} {osl : Array (Option Value)} {f : Addr} {vals : List Value} {kw : List (Str × Value)} {Q : Value → Sto → Prop}
    (binds : List (Str × Value)) (st1 : Sto)
    (ho : (hd.heap_1 V.w.params).lookup f = some ⟨oc, od, .func (fnOf name qual params body scope dV kV doc pm an cdv ct), osl⟩) (hcd : codeIn (hd.heap_1 V.w.params) cdv qual = true)
    (hnd : noDup (binds.map (·.1)) = true)
    (hkind : (binds.all fun y => scope.names.lookup y.1 == some .local || scope.names.lookup y.1 == some .cell) = true)
    (hl : binds.filter (fun p => scope.names.lookup p.1 == some .local) = binds)
    (hcn : cellNames scope.names = []) (hco : scope.isCoroutine = false) (hgen : scope.isGenerator = false) (hk : scope.kind = .function)
    (hb : Runs V n (bindArgs (fnOf name qual params body scope dV kV doc pm an cdv ct) ⟨vals, kw⟩) st (fun b st' => b = binds ∧ st' = st1))
    (h : ∀ L, Runs V n (execs body (fenv scope L [] (qual ++ ".<locals>.") f cdv)) ((L, .ns binds) :: st1) (fun fl st' => ∃ st'', SLe st' st'' ∧ Q (retOf fl) st'')) : RunsK V (n + 1) (.ref f) ⟨vals, kw⟩ st Q := by
  refine R_callG binds binds [] st1 ho hcd hb (nodup_of hnd) hkind hl.symm (by rw [hcn]; rfl) (by rw [hcn]; exact List.nodup_nil) (fun L cl e => ?_) hco hgen hk
  have : cl = [] := by cases cl with | nil => rfl | cons _ _ => simp at e
  subst this
  exact h L
/-- one cell -/
theorem R_G1 {name qual : Str} {params : Arguments} {body : List Stmt} {scope : Scope} {dV kV doc pm cdv ct oc : Value} {an od : Option Addr} {osl : Array (Option Value)} {f : Addr} {vals : List Value} {kw : List (Str × Value)} {Q : Value → Sto → Prop}
    (binds l : List (Str × Value)) (x : Str) (v : Option Value) (st1 : Sto)
    (ho : (hd.heap_1 V.w.params).lookup f = some ⟨oc, od, .func (fnOf name qual params body scope dV kV doc pm an cdv ct), osl⟩) (hcd : codeIn (hd.heap_1 V.w.params) cdv qual = true)
    (hnd : noDup (binds.map (·.1)) = true)
    (hkind : (binds.all fun y => scope.names.lookup y.1 == some .local || scope.names.lookup y.1 == some .cell) = true)
    (hl : binds.filter (fun p => scope.names.lookup p.1 == some .local) = l)
    (hcn : cellNames scope.names = [x]) (hcv : bindC (fun y => scope.names.lookup y) binds (fun _ => none) x = v) (hco : scope.isCoroutine = false) (hgen : scope.isGenerator = false) (hk : scope.kind = .function)
    (hb : Runs V n (bindArgs (fnOf name qual params body scope dV kV doc pm an cdv ct) ⟨vals, kw⟩) st (fun b st' => b = binds ∧ st' = st1))
    (h : ∀ L c, Runs V n (execs body (fenv scope L [(x, c)] (qual ++ ".<locals>.") f cdv)) ((L, .ns l) :: (c, .cell v) :: st1) (fun fl st' => ∃ st'', SLe st' st'' ∧ Q (retOf fl) st'')) : RunsK V (n + 1) (.ref f) ⟨vals, kw⟩ st Q := by
  refine R_callG binds l [(x, v)] st1 ho hcd hb (nodup_of hnd) hkind hl.symm (by rw [hcn, ← hcv]; rfl) (by rw [hcn]; simp) (fun L cl e => ?_) hco hgen hk
  match cl, e with
  | [(y, c)], e =>
    have e' : y = x := by simpa using e
    subst e'
    exact h L c
end
theorem R_truthy_none {V : Cx} {n : Nat} {st : Sto} {X : Value → Sto → Prop} {Q : Bool → Sto → Prop} (h : Q false st) : Runs V n (truthy .none) st Q X := Runs.pure h
theorem RC_empty {V : Cx} {n : Nat} {st st' : Sto} {env : Env} {target : Expr} {body : List Stmt} {it l : Addr} {Q : Flow → Sto → Prop} (hl : (l, En.list []) ∈ st) (hs : SDel it (itL l 0) st st') (h : Q .next st') : RunsC V n (.forLoop target (.ref it) body [] env) st Q :=
  RC_for (R_end_list hl hs rfl h)
theorem RC_noItems {V : Cx} {n : Nat} {st st' : Sto} {env : Env} {target : Expr} {body : List Stmt} {it D : Addr} {Q : Flow → Sto → Prop} (hD : (D, dict0) ∈ st) (hs : SDel it (itemItE D) st st') (h : Q .next st') : RunsC V n (.forLoop target (.ref it) body [] env) st Q :=
  RC_for (R_end_items hD hs h)
/-- no cells, and the names bound in the call -/
theorem R_D0 {V : Cx} {n : Nat} {st : Sto} {name qual : Str} {params : Arguments} {body : List Stmt} {scope : Scope} {dV kV doc pm cdv ct oc : Value} {an od : Option Addr} {osl : Array (Option Value)} {f : Addr} {vals : List Value} {kw : List (Str × Value)} {Q : Value → Sto → Prop}
    (ho : (hd.heap_1 V.w.params).lookup f = some ⟨oc, od, .func (fnOf name qual params body scope dV kV doc pm an cdv ct), osl⟩) (hcd : codeIn (hd.heap_1 V.w.params) cdv qual = true)
    (hcn : cellNames scope.names = []) (hco : scope.isCoroutine = false) (hgen : scope.isGenerator = false) (hk : scope.kind = .function)
    (hb : Runs V n (bindArgs (fnOf name qual params body scope dV kV doc pm an cdv ct) ⟨vals, kw⟩) st (fun b st1 => noDup (b.map (·.1)) = true ∧ (b.all fun y => scope.names.lookup y.1 == some .local || scope.names.lookup y.1 == some .cell) = true ∧
      b.filter (fun p => scope.names.lookup p.1 == some .local) = b ∧ ∀ L, Runs V n (execs body (fenv scope L [] (qual ++ ".<locals>.") f cdv)) ((L, .ns b) :: st1) (fun fl st' => ∃ st'', SLe st' st'' ∧ Q (retOf fl) st''))) : RunsK V (n + 1) (.ref f) ⟨vals, kw⟩ st Q :=
  R_callD ho hcd (by rw [hcn]; exact List.nodup_nil) hco hgen hk (hb.mono fun b st1 q => by
    obtain ⟨q1, q2, q3, q4⟩ := q
    refine ⟨b, [], nodup_of q1, q2, q3.symm, by rw [hcn]; rfl, fun L cl e => ?_⟩
    have : cl = [] := by cases cl with | nil => rfl | cons _ _ => simp at e
    subst this
    exact q4 L)
theorem R_isNot_none_str {V : Cx} {n : Nat} {st : Sto} {X : Value → Sto → Prop} {x : Str} {t : Tok} {Q : Value → Sto → Prop} (h : Q (.bool true) st) : Runs V n (compareOp .IsNot (.str x t) .none) st Q X := R_isNot_none h
theorem R_isNot_none_none {V : Cx} {n : Nat} {st : Sto} {X : Value → Sto → Prop} {Q : Value → Sto → Prop} (h : Q (.bool false) st) : Runs V n (compareOp .IsNot .none .none) st Q X := R_isNot_none h
theorem ex_ref {a : Addr} {e : En} {st : Sto} {P : Addr → Prop} (hm : (a, e) ∈ st) (h : P a) : ∃ b, Value.ref a = Value.ref b ∧ (b, e) ∈ st ∧ P b := ⟨a, rfl, hm, h⟩
theorem R_cwF1 {V : Cx} {n : Nat} {st : Sto} {X : Value → Sto → Prop} {env : Env} {f : Addr} {x : Value} {k : Str} {e2 : Expr} {p2 pos : Pos} {e : Expr} {keywords : List (Option Str × Sem Value)} {oc : Value} {od : Option Addr} {fd : FuncData} {osl : Array (Option Value)} {Q : Value → Sto → Prop}
    (ho : (hd.heap_1 V.w.params).lookup f = some ⟨oc, od, .func fd, osl⟩) (he : starEach [e] env = (false, eval e env) :: starEach [] env) (hkw : keywords = [(some k, (do let v ← eval e2 env; standAt p2; Pure.pure v))])
    (h : Runs V n (eval e env) st (fun v st1 => Runs V n (eval e2 env) st1 (fun w st2 => Runs V n (call (.ref f) [x, v] [(k, w)]) st2 Q X) X) X) :
    Runs V n (callWith pos (.ref f) [x] (backTo pos (starEach [e] env)) keywords) st Q X := by
  subst hkw
  exact R_cwF ho he rfl (R_sp_cons (h.mono fun v st1 q => R_sp_nil (R_evalAll_cons (Runs.bind (q.mono fun w st2 q2 => Runs.bind (Runs.standAt (Runs.pure (R_evalAll_nil q2))))))) he)
theorem R_cwK1 {V : Cx} {n : Nat} {st : Sto} {X : Value → Sto → Prop} {env : Env} {f x : Value} {pos : Pos} {e : Expr} {rest : List Expr} {Q : Value → Sto → Prop} (hk : keepIn (hd.heap_1 V.w.params) f = true) (he : starEach (e :: rest) env = (false, eval e env) :: starEach rest env) (hp : (backTo pos (starEach rest env)).any (·.1) = false)
    (h : Runs V n (spliced (backTo pos (starEach (e :: rest) env))) st (fun vs st1 => Runs V n (call f (x :: vs)) st1 Q X) X) : Runs V n (callWith pos f [x] (backTo pos (starEach (e :: rest) env)) []) st Q X := R_cwK hk h he hp
end Mine
end

section
set_option linter.unusedVariables false
set_option maxRecDepth 100000
set_option maxHeartbeats 4000000
namespace Mine
open PySem PySem.W PyProof.Rows PySem.Calls PySem.Spec
theorem lk_list_gi : typeLookup (.type "list") "__getitem__" = pure (some (.builtin "list.__getitem__")) := slot_list_getitem.lookup
theorem type_list_gi : typeOf (.builtin "list.__getitem__") = pure (.type "method_descriptor") := by show builtinType _ = _; rw [builtinType_eq_fast]; kernel_rfl
theorem lk_md_get : typeLookup (.type "method_descriptor") "__get__" = pure (some (.builtin "method_descriptor.__get__")) := by rw [typeLookup_type, builtinLookup_eq_fast]; kernel_rfl
theorem lk_md_set : typeLookup (.type "method_descriptor") "__set__" = pure none := by rw [typeLookup_type, builtinLookup_eq_fast]; kernel_rfl
theorem lk_md_del : typeLookup (.type "method_descriptor") "__delete__" = pure none := by rw [typeLookup_type, builtinLookup_eq_fast]; kernel_rfl
theorem slot_md_get : Slot "method_descriptor" "__get__" "method_descriptor.__get__" := Slot.of (T := "method_descriptor") (name := "__get__") (owner := "method_descriptor") (n := "__get__") lk_md_get (by decide +kernel) (by decide +kernel) (by decide +kernel)
    (.inl (by decide +kernel)) (by rw [isSubtype_type]; kernel_rfl)
theorem entry_md_get : entryFor table "method_descriptor.__get__" = some Builtin.«method_descriptor.__get__» := entryFor_of_tree (by kernel_rfl)
theorem args_md_get (a b c : Value) : argsOk "method_descriptor.__get__" ⟨[a, b, c], []⟩ := by unfold argsOk; kernel_rfl
theorem owner_gi : ".".intercalate ("list.__getitem__".cutAt '.').dropLast = "list" := by decide +kernel
theorem sub_gi : isSubtype (.type "list") (.type (".".intercalate ("list.__getitem__".cutAt '.').dropLast)) = pure true := by rw [owner_gi, isSubtype_type]; kernel_rfl
section
variable {prog : Program} {w : World} {A : Around} {E : Value → Shared → Prop} {h : Heap} {g : Array GenState} {d : Drawn} {t : Nat} {os : OsState} {a : Addr} {xs : Array Value} {m : Nat}
theorem gi_entry {tk : Tok} {Q : Fin → Shared → Prop} (hx : h.get? a = some { cls := .type "list", dict := none, data := .seq xs m, slots := #[] }) (hq : ∀ v h', (∀ b o, h.get? b = some o → h'.get? b = some o) → Q (.done (.ret (.ref v))) ⟨h', g, d, t, os⟩) :
    wpAny (model prog w) A (Builtin.«object.__getattribute__» ⟨[.ref a, .str "__getitem__" tk], []⟩) Q E ⟨h, g, d, t, os⟩ := by
  have hT : (⟨h, g, d, t, os⟩ : Shared).TypeIs (.ref a) "list" := ⟨_, hx, rfl⟩
  have hT5 : (⟨h, g, d, t, os⟩ : Shared).TypeIs (.builtin "list.__getitem__") "method_descriptor" := type_list_gi
  have f4 := lk_list_gi
  have f5 := type_list_gi
  have f6 := lk_md_get
  have f7 := lk_md_set
  have f8 := lk_md_del
  have f9 := sub_gi
  repeat (any_goals (first | assumption | wp_step))
  refine codeAny_call_builtin slot_md_get.plain entry_md_get (slot_md_get.check _ _ _ _ _ _ _ _ hT5 (args_md_get _ _ _) ?_)
  unfold Builtin.«method_descriptor.__get__»
  repeat (any_goals (first | assumption | exact hq _ _ (fun b o e => Heap.get?_push_of_some _ e) | wp_step))
theorem gi_call {tk : Tok} {R : Result → Shared → Prop} (hx : h.get? a = some { cls := .type "list", dict := none, data := .seq xs m, slots := #[] }) (hq : ∀ v h', (∀ b o, h.get? b = some o → h'.get? b = some o) → R (.ok (.ret (.ref v))) ⟨h', g, d, t, os⟩) :
    codeAny (model prog w) A (.call (.builtin "list.__getattribute__") ⟨[.ref a, .str "__getitem__" tk], []⟩) R ⟨h, g, d, t, os⟩ :=
  codeAny_call_builtin PySem.F.slot_list_getattribute.plain PySem.F.entry_list_ga (PySem.F.slot_list_getattribute.check _ _ _ _ _ _ _ _ (show (⟨h, g, d, t, os⟩ : Shared).TypeIs (.ref a) "list" from ⟨_, hx, rfl⟩) (PySem.F.args_list_getattribute_2 _ _) (gi_entry hx fun v h' hh => hq v h' hh))
end
theorem entry_hasattr : entryFor table "hasattr" = some Builtin.«hasattr» := entryFor_of_tree (by kernel_rfl)
theorem plain_hasattr : plainId "hasattr" = true := by decide +kernel
theorem kind_hasattr : builtinKind "hasattr" = none := by decide +kernel
theorem sub_list_mod : isSubtype (.type "list") (.type "module") = pure false := by rw [isSubtype_type]; kernel_rfl
theorem R_hasattr {V : Cx} {n : Nat} {st : Sto} {X : Value → Sto → Prop} {l : Addr} {vs : List Value} {tk : Tok} {Q : Value → Sto → Prop} (hl : (l, En.list vs) ∈ st) (h : Q (.bool true) st) : Runs V n (call (.builtin "hasattr") [.ref l, .str "__getitem__" tk]) st Q X := fun A s R E rm I k _ => by
  obtain ⟨o, ho, m, hq⟩ := I.st.has _ hl
  have hq' : o = _ := hq
  subst hq'
  refine call_function_meets (S := fun A R s => (s.heap.get? l = some { cls := .type "list", dict := none, data := .seq vs.toArray m, slots := #[] }) ∧ ∀ h', (∀ b o, s.heap.get? b = some o → h'.get? b = some o) → R (.ok (.ret (.bool true))) { s with heap := h' }) kind_hasattr plain_hasattr entry_hasattr (by unfold argsOk; kernel_rfl) ?_ ⟨ho, ?_⟩
  · refine Meets.of_wp fun prog w A R s hs => ?_
    obtain ⟨hx, hR⟩ := hs
    obtain ⟨h, g, d, t, os⟩ := s
    dsimp only at hx
    have hT : (⟨h, g, d, t, os⟩ : Shared).TypeIs (.ref l) "list" := ⟨_, hx, rfl⟩
    have f1 := lk_list_gi
    have f2 := PySem.F.slot_list_getattribute.lookup
    have f3 := sub_list_mod
    have f4 := PySem.F.slot_list_getattribute.bind (.ref l)
    unfold Builtin.«hasattr»
    repeat (any_goals (first | assumption | wp_step))
    refine gi_call hx fun v h' hh => ?_
    repeat (any_goals (first | assumption | exact ⟨_, rfl, hR _ hh⟩ | wp_step))
  · intro h' hh
    exact k _ _ _ (I.ath (I.st.keeps hh)) h
theorem ite_nt {V : Cx} {n : Nat} {st : Sto} {X : Value → Sto → Prop} {α : Type} {a b : Sem α} {Q : α → Sto → Prop} (h : Runs V n b st Q X) : Runs V n (if (!true) = true then a else b) st Q X := h
theorem ite_nf {V : Cx} {n : Nat} {st : Sto} {X : Value → Sto → Prop} {α : Type} {a b : Sem α} {Q : α → Sto → Prop} (h : Runs V n a st Q X) : Runs V n (if (!false) = true then a else b) st Q X := h
end Mine
end

section
set_option linter.unusedVariables false
namespace Mine
open PySem PySem.W PyProof.Rows PySem.Calls PySem.Spec

abbrev enumE (f0 : Value) (it : Addr) (i : Nat) (old : Value) : En := .ob { cls := .type "enumerate", dict := none, data := .fields #[f0, .bool false, .ref it, rawInt (i : Nat), .none, old], slots := #[] }
section
variable {V : Cx} {n : Nat} {α β : Type} {st : Sto} {X : Value → Sto → Prop}
theorem R_enum {l : Addr} {vs : List Value} {Q : Value → Sto → Prop} (hl : (l, En.list vs) ∈ st) (h : ∀ e it, Q (.ref e) ((e, enumE .none it 0 .none) :: (it, itL l 0) :: st)) : Runs V n (call (.type "enumerate") [.ref l]) st Q X := fun A s R E rm I k _ => by
  obtain ⟨o, ho, m, hq⟩ := I.st.has _ hl
  have hq' : o = _ := hq
  subst hq'
  refine call_enumerate_1 (n := m) (items := vs.toArray) ho fun h' he hit hz hk => ?_
  obtain ⟨oi, hoi, hci, hdi⟩ := hit
  have hn0 : s.heap.get? s.heap.objs.size = none := get?_size_none _
  have hn1 : s.heap.get? (s.heap.objs.size + 1) = none := none_of_ge (Nat.le_succ _)
  have S : St V.B h' (([(s.heap.objs.size + 1, enumE .none s.heap.objs.size 0 .none), (s.heap.objs.size, itL l 0)] : Sto) ++ st) := by
    refine I.st.more hk (fun p hp => ?_) ?_
    · simp only [List.mem_cons, List.not_mem_nil, or_false] at hp
      rcases hp with rfl | rfl
      · exact ⟨hn1, _, he, rfl⟩
      · exact ⟨hn0, oi, hoi, hci, hdi⟩
    · simp
  exact k _ _ _ (I.ath S (by simp only [flr, flr1, List.cons_append, List.nil_append]; omega)) (h _ _)
theorem R_self_enum {e it : Addr} {i : Nat} {old : Value} {Q : Value → Sto → Prop} (he : (e, enumE .none it i old) ∈ st) (h : Q (.ref e) st) : Runs V n (pyIter (.ref e)) st Q X := fun _ _ _ _ _ I k _ => wpAny_pyIter_enum (I.st.obj he) (k _ _ _ I h)
theorem R_letGo_enum {elts : List Expr} {x1} {pos : Pos} {e it T : Addr} {i : Nat} {x : Value} {st' : Sto} {Q : Unit → Sto → Prop} (hz : SSet e (enumE (rawInt T) it i x) (enumE .none it i x) st st') (h : Q () st') :
    Runs V n (letOwnedTupleGo (.Tuple elts x1 pos) (.ref e) (.ref T)) st Q X := fun _ _ _ _ _ I k _ =>
  wpAny_letOwnedTupleGo_enum (I.st.obj hz.mem) fun h' hz' hb => k _ _ _ (I.ath (I.st.turn hz (fun b o c e => hb.extBut b o c e) ⟨_, hz', rfl⟩)) h
theorem R_end_enum {e it l : Addr} {i : Nat} {old : Value} {vs : List Value} {st' : Sto} {Q : Option Value → Sto → Prop} (hl : (l, En.list vs) ∈ st) (he : (e, enumE .none it i old) ∈ st) (hs : SDel it (itL l i) st st') (hx : vs[i]? = none) (h : Q none st') : Runs V n (pyNext (.ref e)) st Q X := fun _ _ _ _ rm I k _ =>
  wpAny_pyNext_enum_end rm.hd (I.st.obj he) (I.st.fl hs.mem) (I.st.list hl) (by simpa using hx) fun h' hb => k _ _ _ (I.ath (I.st.del hs fun b o c e => hb b o c e) hs.flr) h
theorem R_next_enum {e it l : Addr} {i : Nat} {old x : Value} {vs : List Value} {Q : Option Value → Sto → Prop} (hl : (l, En.list vs) ∈ st) (he : (e, enumE .none it i old) ∈ st) (hx : vs[i]? = some x)
    (h : ∀ (T : Addr) (t : Tok), ∃ st2 st3, SSet it (itL l i) (itL l (i + 1)) st st2 ∧ SSet e (enumE .none it i old) (enumE (rawInt T) it (i + 1) x) st2 st3 ∧ Q (some (.ref T)) ((T, .tup [.int (i : Int) t, x]) :: st3)) : Runs V n (pyNext (.ref e)) st Q X := fun A s R E rm I k _ => by
  obtain ⟨st2, st3, h1, h2, hq⟩ := h s.heap.objs.size s.toks
  have hne : e ≠ it := fun q => by
    subst q
    have := uniq I.st.nd he h1.mem
    cases this
  refine wpAny_pyNext_enum_item (I.st.obj he) (I.st.fl h1.mem) (I.st.list hl) (by simpa using hx) hne fun h' he' hit' ht hz hk => ?_
  have hTn : s.heap.get? s.heap.objs.size = none := get?_size_none _
  have nd2 : (st2.map (·.1)).Nodup := by rw [h1.adr]; exact I.st.nd
  have hadr : st3.map (·.1) = st.map (·.1) := h2.adr.trans h1.adr
  have S : St V.B h' ((s.heap.objs.size, .tup [.int (i : Int) s.toks, x]) :: st3) := by
    refine ⟨fun b o eb => hk b o (fun q => ?_) (fun q => ?_) (I.st.old b o eb), fun p hp => ?_, fun p hp => ?_, ?_⟩
    · have := I.st.new _ he; rw [q] at eb; rw [eb] at this; cases this
    · have := I.st.new _ h1.mem; rw [q] at eb; rw [eb] at this; cases this
    · rcases List.mem_cons.mp hp with rfl | hp
      · exact ⟨_, ht, _, rfl⟩
      · rcases h2.of nd2 p hp with rfl | ⟨hp2, hpe⟩
        · exact ⟨_, he', rfl⟩
        · rcases h1.of I.st.nd p hp2 with rfl | ⟨hp3, hpi⟩
          · obtain ⟨o, a, b, c⟩ := hit'
            exact ⟨o, a, b, c⟩
          · obtain ⟨o, a, b⟩ := I.st.has p hp3
            exact ⟨o, hk _ _ hpe hpi a, b⟩
    · rcases List.mem_cons.mp hp with rfl | hp
      · cases q : V.B.get? s.heap.objs.size with
        | none => rfl
        | some o => rw [I.st.old _ _ q] at hTn; cases hTn
      · have : p.1 ∈ st.map (·.1) := by rw [← hadr]; exact List.mem_map.mpr ⟨p, hp, rfl⟩
        obtain ⟨q, hq, e⟩ := List.mem_map.mp this
        rw [← e]; exact I.st.new q hq
    · rw [List.map_cons, hadr]
      refine List.nodup_cons.mpr ⟨fun q => ?_, I.st.nd⟩
      obtain ⟨p, hp, e⟩ := List.mem_map.mp q
      obtain ⟨o, a, _⟩ := I.st.has p hp
      rw [e, hTn] at a; cases a
  refine k _ _ _ (I.at S ?_ (Nat.le_succ _)) hq
  have f1 := h1.flr (Nat.le_refl _)
  have f2 := h2.flr (Nat.le_refl _)
  simp only [flr, flr1]
  omega
theorem R_next_strF {it : Addr} {x : Str} {t : Tok} {i c : Nat} {st' : Sto} {Q : Option Value → Sto → Prop} (hs : SSet it (itS x t i) (itS x t (i + 1)) st st')
    (hx : x.cps[i]? = some c) (h : ∀ u : Nat, flr st ≤ u → Q (some (.str ⟨#[c]⟩ u)) st') : Runs V n (pyNext (.ref it)) st Q X :=
  fun _ _ _ _ _ I k _ => wpAny_pyNext_ascii_item (I.st.fl hs.mem) hx fun h' hi hb => k _ _ _ (I.at (I.st.turn hs (fun b o hb' e => hb.extBut b o hb' e) hi)) (h _ I.fl)
end
end Mine
end

section
set_option linter.unusedVariables false
set_option maxRecDepth 100000
namespace Mine
open PySem PySem.W PyProof.Rows PySem.Calls PySem.Spec

section
variable {V : Cx} {n : Nat} {α β : Type} {st : Sto} {X : Value → Sto → Prop}
theorem R_mul5 {l : Addr} {v : Value} {u : Tok} {Q : Value → Sto → Prop} (hl : (l, En.list [v]) ∈ st) (h : ∀ a, Q (.ref a) ((a, .li [v, v, v, v, v]) :: st)) : Runs V n (binaryOp .Mult (.ref l) (.int 5 u)) st Q X := fun A s R E rm I k _ => by
  obtain ⟨o, ho, m, hq⟩ := I.st.has _ hl
  have hq' : o = _ := hq
  subst hq'
  refine wpAny_binaryOp_repeat_ref (T := "list") (U := "int") (by decide) ⟨_, ho, rfl⟩ (fun s' => typeIs_int s' 5 u) noFill_list_mul PySem.F.fills_int_mul PySem.F.slot_int_rmul repeat_list PySem.F.slot_int_index.lookup
    (call_meets PySem.F.slot_int_rmul (typeIs_int s 5 u) PySem.F.entry_int_rmul (PySem.F.args_int_rmul_2 _ _) (int___rmul___int_list 5 u l #[v] m)
      ⟨ho, rfl, ⟨_, ho, rfl⟩, call_meets PySem.F.slot_list_mul ⟨_, ho, rfl⟩ PySem.F.entry_list_mul (PySem.F.args_list_mul_2 _ _)
        (AutoListH.list___mul___list_int_3 l #[v] m 5 u (by simp [Builtin.List.listFitsIndex]) (by simp) (by simp [Builtin.List.listTooLong, sizeLine]))
        ⟨ho, k _ _ _ (I.ath (I.st.alloc (e := .li [v, v, v, v, v]) rfl ⟨rfl, 0, ?_⟩)) (h _)⟩⟩)
  rfl
theorem R_fn4 {name qual : Str} {params : Arguments} {body : List Stmt} {scope : Scope} {dV kV doc pm cdv ct oc : Value} {an od : Option Addr} {osl : Array (Option Value)} {f : Addr} {vals : List Value} {Q : Value → Sto → Prop}
    (binds l : List (Str × Value)) (x1 x2 x3 x4 : Str) (v1 v2 v3 v4 : Option Value)
    (ho : (hd.heap_1 V.w.params).lookup f = some ⟨oc, od, .func (fnOf name qual params body scope dV kV doc pm an cdv ct), osl⟩) (hcd : codeIn (hd.heap_1 V.w.params) cdv qual = true)
    (hbind : bindArgs (fnOf name qual params body scope dV kV doc pm an cdv ct) ⟨vals, []⟩ = Pure.pure binds) (hnd : noDup (binds.map (·.1)) = true)
    (hkind : (binds.all fun y => scope.names.lookup y.1 == some .local || scope.names.lookup y.1 == some .cell) = true)
    (hl : binds.filter (fun p => scope.names.lookup p.1 == some .local) = l)
    (hcn : cellNames scope.names = [x4, x3, x2, x1]) (hcn2 : noDup (cellNames scope.names) = true) (h1 : bindC (fun y => scope.names.lookup y) binds (fun _ => none) x1 = v1) (h2 : bindC (fun y => scope.names.lookup y) binds (fun _ => none) x2 = v2)
    (h3 : bindC (fun y => scope.names.lookup y) binds (fun _ => none) x3 = v3) (h4 : bindC (fun y => scope.names.lookup y) binds (fun _ => none) x4 = v4)
    (hco : scope.isCoroutine = false) (hgen : scope.isGenerator = false) (hk : scope.kind = .function)
    (h : ∀ L c1 c2 c3 c4, Runs V n (execs body (fenv scope L [(x1, c1), (x2, c2), (x3, c3), (x4, c4)] (qual ++ ".<locals>.") f cdv)) ((L, .ns l) :: (c1, .cell v1) :: (c2, .cell v2) :: (c3, .cell v3) :: (c4, .cell v4) :: st) (fun fl st' => ∃ st'', SLe st' st'' ∧ Q (retOf fl) st'')) : Runs V (n + 1) (call (.ref f) vals) st Q X := by
  refine R_fn binds l [(x1, v1), (x2, v2), (x3, v3), (x4, v4)] ho hcd hbind hnd hkind hl (by rw [hcn, ← h1, ← h2, ← h3, ← h4]; rfl) hcn2 hco hgen hk fun L cl e => ?_
  match cl, e with
  | [(a1, c1), (a2, c2), (a3, c3), (a4, c4)], e =>
    have e' : a1 = x1 ∧ a2 = x2 ∧ a3 = x3 ∧ a4 = x4 := by simpa using e
    obtain ⟨e1, e2, e3, e4⟩ := e'
    subst e1; subst e2; subst e3; subst e4
    exact h L c1 c2 c3 c4
end
end Mine
end

section
set_option linter.unusedVariables false
namespace Mine
open PySem PySem.W PyProof.Rows PySem.Calls PySem.Spec

section
variable {V : Cx} {n : Nat} {α β : Type} {st : Sto} {X : Value → Sto → Prop}
theorem R_compCore1 {env : Env} {elt target iter : Expr} {ifs : List Expr} {scope : Scope} {pos : Pos} {cl : List (Str × Addr)} {use : Option (Value → Sem Unit)} {Q : Value → Sto → Prop}
    (hs : ∀ x, foldedSetIterable iter env x = Pure.pure x) (hclos : closureFor scope env = Pure.pure cl)
    (hkind : scope.kind = .function) (hnames : ∀ x ∈ scope.names, x.2 = .local → scope.names.lookup x.1 = some .local) {y : Str} (hcf : ∀ k acc, cellsFrom k scope.names acc = (y, k) :: acc) (hpc : ∀ h, pushCells h scope.names = h.push { cls := .type "cell", data := .cell none })
    (h : Runs V n (eval iter env) st (fun x st1 => Runs V n (pyIter x) st1 (fun it st2 => ∀ D C yc,
      Runs V n (pyIter it) ((C, .ns []) :: (yc, .cell none) :: (D, .list []) :: st2) (fun v s => v = it ∧ s = (C, .ns []) :: (yc, .cell none) :: (D, .list []) :: st2) ∧
      RunsC V n (.compLoop (lcomp elt target iter ifs scope pos) 0 it (.ref D) (cenv scope ((y, yc) :: cl) C env)) ((C, .ns []) :: (yc, .cell none) :: (D, .list []) :: st2)
        (fun _ st3 => match use with
          | none => ∃ l st4, SDel C (.ns l) st3 st4 ∧ Q (.ref D) st4
          | some u => Runs V n (u (.ref D)) st3 (fun _ st4 => ∃ l st5, SDel C (.ns l) st4 st5 ∧ Q .none st5))))) :
    Runs V n (comprehension (lcomp elt target iter ifs scope pos) scope env (firstIterPos [⟨target, iter, ifs, 0⟩] pos) (newList []) false (eval iter env) use) st Q X := fun A s R E rm I k _ => by
  refine wpAny_comprehension_free (g := ⟨target, iter, ifs, 0⟩) (gs := []) rfl hs hclos hkind hnames ?_
  refine h A s _ E rm I (fun x s1 st1 I1 h1 => ?_) fun _ _ _ _ q => q.elim
  refine h1 A s1 _ E rm I1 (fun it s2 st2 I2 h2 => ?_) fun _ _ _ _ q => q.elim
  refine wpAny_newObj_type ?_
  have I3 : Inv V { s2 with heap := s2.heap.push { cls := .type "list", data := .seq ([] : List Value).toArray } } ((s2.heap.objs.size, .list []) :: st2) := I2.ath (I2.st.alloc (e := .list []) rfl ⟨_, rfl⟩)
  generalize hH : s2.heap.push { cls := .type "list", dict := none, data := .seq ([] : List Value).toArray } = H2 at *
  have I4 : Inv V { s2 with heap := (H2.push { cls := .type "dict", data := .dict #[] }).push { cls := .type "cell", data := .cell none } } ((H2.objs.size, .ns []) :: (H2.objs.size + 1, .cell none) :: (s2.heap.objs.size, .list []) :: st2) := by
    have S1 := I3.st.alloc (o := { cls := .type "dict", data := .dict #[] }) (e := .ns []) rfl ⟨List.nodup_nil, #[], 0, rfl, (by intro x hx; simp at hx), fun p hp => nomatch hp⟩
    have S2 := S1.alloc (o := { cls := .type "cell", data := .cell none }) (e := .cell none) rfl rfl
    rw [Heap.size_push] at S2
    have S3 := (SLe.perm (List.Perm.swap _ _ _) .refl).le S2
    exact I2.ath S3 (by simp only [flr, flr1]; omega)
  obtain ⟨hself, hloop⟩ := h2 s2.heap.objs.size H2.objs.size (H2.objs.size + 1)
  have fin : codeAny (model PySem.Challenge.rw_ti0058_01.row.prog V.w) A (.compLoop (lcomp elt target iter ifs scope pos) 0 it (.ref s2.heap.objs.size) (cenv scope ((y, H2.objs.size + 1) :: cl) H2.objs.size env)) (compPost (model PySem.Challenge.rw_ti0058_01.row.prog V.w) A E use R (.ref s2.heap.objs.size) H2.objs.size) { s2 with heap := (H2.push { cls := .type "dict", data := .dict #[] }).push { cls := .type "cell", data := .cell none } } := by
    refine hloop A _ _ rm I4 fun f s5 st3 I5 q => ?_
    cases use with
    | none =>
      obtain ⟨l, st4, hd, q⟩ := q
      obtain ⟨m, hn, _⟩ := I5.st.ns hd.mem
      exact ⟨m, hn, fun h' hb => k _ _ _ (I5.ath (I5.st.del hd fun b o hb' e => hb.extBut b o hb' e) hd.flr) q⟩
    | some u =>
      refine q A s5 _ E rm I5 (fun _ s6 st4 I6 q => ?_) fun _ _ _ _ q => q.elim
      obtain ⟨l, st5, hd, q⟩ := q
      obtain ⟨m, hn, _⟩ := I6.st.ns hd.mem
      exact ⟨m, hn, fun h' hb => k _ _ _ (I6.ath (I6.st.del hd fun b o hb' e => hb.extBut b o hb' e) hd.flr) q⟩
  simp only [newFunctionEnv]
  refine wpAny_bind (wpAny_alloc ?_)
  refine wpAny_bind (wpAny_layCells _ (fun name kind cells => by cases hkc : kind == NameKind.cell <;> simp [hkc]) _ _ _ _ ?_)
  rw [hcf, hpc]
  refine wpAny_bind ?_
  rw [List.forIn_nil]
  refine wpAny_pure (wpAny_pure ?_)
  show codeAny _ A (.compStart _ 0 it (.ref s2.heap.objs.size) _) _ _
  rw [show ({ s2 with heap := H2.push { cls := .type (if (some env).isSome = true then "dict" else "frame"), data := .dict #[] } } : Shared).heap.objs.size = H2.objs.size + 1 from Heap.size_push ..]
  refine codeAny_compStart_list fin ?_
  refine hself A _ _ _ rm I4 (fun v s5 st5 I5 q => ?_) fun _ _ _ _ q => q.elim
  obtain ⟨rfl, rfl⟩ := q
  refine hloop A _ _ rm I5 fun f s5 st3 I5 q => ?_
  cases use with
  | none =>
    obtain ⟨l, st4, hd, q⟩ := q
    obtain ⟨m, hn, _⟩ := I5.st.ns hd.mem
    exact ⟨m, hn, fun h' hb => k _ _ _ (I5.ath (I5.st.del hd fun b o hb' e => hb.extBut b o hb' e) hd.flr) q⟩
  | some u =>
    refine q A s5 _ E rm I5 (fun _ s6 st4 I6 q => ?_) fun _ _ _ _ q => q.elim
    obtain ⟨l, st5, hd, q⟩ := q
    obtain ⟨m, hn, _⟩ := I6.st.ns hd.mem
    exact ⟨m, hn, fun h' hb => k _ _ _ (I6.ath (I6.st.del hd fun b o hb' e => hb.extBut b o hb' e) hd.flr) q⟩

theorem R_ListComp1 {env : Env} {elt target iter : Expr} {ifs : List Expr} {scope : Scope} {pos : Pos} {cl : List (Str × Addr)} {Q : Value → Sto → Prop}
    (hs : ∀ x, foldedSetIterable iter env x = Pure.pure x) (hclos : closureFor scope env = Pure.pure cl) (hkind : scope.kind = .function) (hnames : ∀ x ∈ scope.names, x.2 = .local → scope.names.lookup x.1 = some .local) {y : Str} (hcf : ∀ k acc, cellsFrom k scope.names acc = (y, k) :: acc) (hpc : ∀ h, pushCells h scope.names = h.push { cls := .type "cell", data := .cell none })
    (h : Runs V n (eval iter env) st (fun x st1 => Runs V n (pyIter x) st1 (fun it st2 => ∀ D C yc,
      Runs V n (pyIter it) ((C, .ns []) :: (yc, .cell none) :: (D, .list []) :: st2) (fun v s => v = it ∧ s = (C, .ns []) :: (yc, .cell none) :: (D, .list []) :: st2) ∧
      RunsC V n (.compLoop (lcomp elt target iter ifs scope pos) 0 it (.ref D) (cenv scope ((y, yc) :: cl) C env)) ((C, .ns []) :: (yc, .cell none) :: (D, .list []) :: st2)
        (fun _ st3 => ∃ l st4, SDel C (.ns l) st3 st4 ∧ Q (.ref D) st4)))) :
    Runs V n (eval (.ListComp elt [⟨target, iter, ifs, 0⟩] scope pos) env) st Q X := by
  rw [eval_ListComp]
  exact R_compCore1 hs hclos hkind hnames hcf hpc h
theorem R_AssignComp1 {env : Env} {x : Str} {px spos : Pos} {elt target iter : Expr} {ifs : List Expr} {scope : Scope} {pos : Pos} {cl : List (Str × Addr)} {Q : Flow → Sto → Prop}
    (hsw : swapsWith (.ListComp elt [⟨target, iter, ifs, 0⟩] scope pos) (some (.Name x px)) spos.line env = Pure.pure true)
    (hs : ∀ x, foldedSetIterable iter env x = Pure.pure x) (hclos : closureFor scope env = Pure.pure cl) (hkind : scope.kind = .function) (hnames : ∀ x ∈ scope.names, x.2 = .local → scope.names.lookup x.1 = some .local) {y : Str} (hcf : ∀ k acc, cellsFrom k scope.names acc = (y, k) :: acc) (hpc : ∀ h, pushCells h scope.names = h.push { cls := .type "cell", data := .cell none })
    (h : Runs V n (eval iter env) st (fun x' st1 => Runs V n (pyIter x') st1 (fun it st2 => ∀ D C yc,
      Runs V n (pyIter it) ((C, .ns []) :: (yc, .cell none) :: (D, .list []) :: st2) (fun v s => v = it ∧ s = (C, .ns []) :: (yc, .cell none) :: (D, .list []) :: st2) ∧
      RunsC V n (.compLoop (lcomp elt target iter ifs scope pos) 0 it (.ref D) (cenv scope ((y, yc) :: cl) C env)) ((C, .ns []) :: (yc, .cell none) :: (D, .list []) :: st2)
        (fun _ st3 => Runs V n (assign (.Name x px) env (.ref D)) st3 (fun _ st4 => ∃ l st5, SDel C (.ns l) st4 st5 ∧ Q .next st5))))) :
    Runs V n (exec (.Assign [.Name x px] (.ListComp elt [⟨target, iter, ifs, 0⟩] scope pos) spos) env) st Q X := by
  rw [exec_Assign_Name_used _ _ _ _ hsw]
  refine Runs.bind (Runs.standAt (Runs.bind ?_))
  refine Runs.mono (Q := fun _ s' => Q .next s') (show Runs V n (do let _ ← comprehension (.ListComp elt [⟨target, iter, ifs, 0⟩] scope pos) scope env (firstIterPos [⟨target, iter, ifs, 0⟩] pos) (newList []) false (eval iter env) (some (assign (.Name x px) env))) st (fun _ s' => Q .next s') X from ?_) ?_
  · exact Runs.bind ((R_compCore1 (use := some (assign (.Name x px) env)) (Q := fun _ s' => Q .next s') hs hclos hkind hnames hcf hpc h).mono fun _ _ q => Runs.pure q)
  · exact fun _ _ q => Runs.pure q

end
end Mine
end

section
set_option linter.unusedVariables false
namespace Mine
open PySem PySem.W PyProof.Rows PySem.Calls PySem.Spec

theorem abcd_cps : (Str.ofString "abcd").cps = #[97, 98, 99, 100] := by decide
theorem up_one (i : Nat) (h : i < 4) : Txt.upper ⟨#[97 + i]⟩ = ⟨#[65 + i]⟩ := by
  match i, h with
  | 0, _ => decide
  | 1, _ => decide
  | 2, _ => decide
  | 3, _ => decide
theorem klmn_at (k : Nat) (h : k < 4) : (Str.ofString "KLMN").cps[k]? = some (75 + k) := by
  match k, h with
  | 0, _ => decide
  | 1, _ => decide
  | 2, _ => decide
  | 3, _ => decide
end Mine
end

section
set_option linter.unusedVariables false
namespace Mine
open PySem PySem.W PyProof.Rows PySem.Calls PySem.Spec

theorem strs_take {vs : List Value} {ns : List Str} (h : StrsAre vs ns) : ∀ k, StrsAre (vs.take k) (ns.take k) := by
  induction h with
  | nil => intro k; simp; exact .nil
  | cons x t h' ih =>
    intro k
    cases k with
    | zero => exact .nil
    | succ k => exact .cons x t (ih k)
theorem strs_drop {vs : List Value} {ns : List Str} (h : StrsAre vs ns) : ∀ k, StrsAre (vs.drop k) (ns.drop k) := by
  induction h with
  | nil => intro k; simp; exact .nil
  | cons x t h' ih =>
    intro k
    cases k with
    | zero => exact .cons x t h'
    | succ k => exact ih k
section
variable {V : Cx} {n : Nat} {α β : Type} {st : Sto} {X : Value → Sto → Prop}
theorem SSet.flr_max {a : Addr} {e e' : En} {st st' : Sto} (h : SSet a e e' st st') : Mine.flr st' ≤ max (Mine.flr st) (flr1 e') := by
  induction h with
  | here => simp only [Mine.flr]; omega
  | there _ ih => simp only [Mine.flr]; omega
/-- a number made: one token at least is drawn -/
theorem R_cIntT {env : Env} {i : Int} {k : Nat} {pos : Pos} {a : Addr} {e : En} {st' : Sto} {Q : Value → Sto → Prop} (hs : SSet a e (.tk 1) st st') (h : ∀ t, Q (.int i t) st') : Runs V n (eval (.Constant (.int i) k pos) env) st Q X :=
  fun _ s _ _ _ I g _ => wpAny_mkInt (g _ _ _ (by
    have hf := hs.flr_max
    have h0 := I.fl
    have S := I.st.turn hs (fun _ _ _ q => q) (let ⟨o, h1, _⟩ := I.st.has _ hs.mem; ⟨o, h1, trivial⟩)
    exact ⟨I.ok, by simp only [flr1] at hf; show flr st' ≤ s.toks + 1; omega, S, I.gp, I.dr, I.os⟩) (h _))
/-- two lists of lists of the same texts -/
theorem R_ne_rows {l b : Addr} {r1 r2 : List (Addr × List Value)} {xss : List (List Str)} {Q : Value → Sto → Prop} (hl : (l, En.list (rowsV r1)) ∈ st) (hb : (b, En.list (rowsV r2)) ∈ st) (m1 : ∀ p ∈ r1, (p.1, En.list p.2) ∈ st) (m2 : ∀ p ∈ r2, (p.1, En.list p.2) ∈ st)
    (h1 : RowsAre StrsAre r1 xss) (h2 : RowsAre StrsAre r2 xss) (h : Q (.bool false) st) : Runs V n (compareOp .NotEq (.ref l) (.ref b)) st Q X := fun A s R E rm I k _ => by
  have z1 := h1.len
  have z2 := h2.len
  refine PySem.SeqAt.RcNeAt.lists (e := fun j => true) (I.st.list hl) (I.st.list hb) (by simp [rowsV, z1, z2]) rm.units ?_ _ _ _ _ ?_
  · intro j hj hj2
    have j1 : j < r1.length := by simpa [rowsV] using hj
    have j2 : j < r2.length := by omega
    have jx : j < xss.length := by omega
    obtain ⟨a1, v1, e1, p1⟩ := h1.at (List.getElem?_eq_getElem jx)
    obtain ⟨a2, v2, e2, p2⟩ := h2.at (List.getElem?_eq_getElem jx)
    have f1 : (rowsV r1).toArray[j] = .ref a1 := by
      have := (List.getElem?_eq_some_iff.mp (rowsV_at e1)).2; simpa using this
    have f2 : (rowsV r2).toArray[j] = .ref a2 := by
      have := (List.getElem?_eq_some_iff.mp (rowsV_at e2)).2; simpa using this
    rw [f1, f2]
    by_cases e : a1 = a2
    · rw [e]; exact .same _
    · refine .of_refs e ?_
      have i1 := I.st.list (m1 _ (List.mem_of_getElem? e1))
      have i2 := I.st.list (m2 _ (List.mem_of_getElem? e2))
      have hs : v1.length = v2.length := by rw [strs_len p1, strs_len p2]
      have q := PySem.SeqAt.RcAt.lists (A := A.in1) (s := s) (e := fun i => xss[j][i]? == xss[j][i]?) i1 i2 (by simp [hs]) (by have := rm.un; show A.units + 1 < 9900; omega) (eqAt_str p1 p2)
      have t : (List.range v1.toArray.size).all (fun i => xss[j][i]? == xss[j][i]?) = true := List.all_eq_true.mpr fun i _ => beq_self_eq_true _
      rw [t] at q
      exact q
  · have t : (!(List.range (rowsV r1).toArray.size).all fun _ => true) = false := by
      rw [show (List.range (rowsV r1).toArray.size).all (fun _ => true) = true from List.all_eq_true.mpr fun _ _ => rfl]; rfl
    rw [t]
    exact k _ _ _ I h
end
end Mine
end

section
set_option maxHeartbeats 8000000
set_option maxRecDepth 100000
set_option compiler.extract_closed false
namespace Mine
open PySem PySem.W PyProof.Rows PySem.Calls PySem.Spec
local macro_rules | `(tactic| wrow_close) => `(tactic| first | assumption | exact List.mem_cons_self | exact SSet.here | exact SDel.here | exact Put.here | exact Put.new | (apply List.mem_cons_of_mem; wrow_close) | (apply List.mem_append_right; wrow_close) | (apply SSet.there; wrow_close) | (apply SSet.app; wrow_close) | (apply SDel.there; wrow_close) | (apply SDel.app; wrow_close) | (apply Put.there (by decide); wrow_close))
local macro_rules | `(tactic| wp_step) => `(tactic| first | assumption | omega | decide | rfl | decide +kernel)
local macro_rules | `(tactic| x_close) => `(tactic| first
  | (with_reducible refine' Runs.pure ?_)
  | (with_reducible refine' Runs.ite_t ?_)
  | (with_reducible refine' Runs.ite_f ?_)
  | (with_reducible refine' Runs.ite (fun hc => ?_) (fun hc => ?_))
  | (with_reducible refine' R_cons ?_)
  | (with_reducible refine' R_nil ?_)
  | (with_reducible refine' R_Return ?_)
  | ((with_reducible refine' R_Assign ?_ ?k1); (case k1 => rfl))
  | (with_reducible refine' R_AugAssign ?_)
  | (with_reducible refine' R_If ?_)
  | (with_reducible refine' R_Break ?_)
  | ((with_reducible refine' R_Expr ?_ ?k1 ?k2); (case k1 => rfl); (case k2 => rfl))
  | ((with_reducible refine' R_ldP ?k0 ?k1 ?k2 ?k3 ?k4 ?_); (case k0 => rfl); (case k1 => rfl); (case k2 => (first | exact fenv_L | exact cenv_L)); (case k3 => (with_reducible wrow_close)); (case k4 => (with_reducible wrow_close)))
  | ((with_reducible refine' R_ldC ?k0 ?k1 ?k2 ?k3 ?_); (case k0 => rfl); (case k1 => rfl); (case k2 => rfl); (case k3 => (with_reducible wrow_close)))
  | ((with_reducible refine' R_ldF ?k0 ?k1 ?k2 ?k3 ?k4 ?_); (case k0 => rfl); (case k1 => rfl); (case k2 => rfl); (case k3 => rfl); (case k4 => (with_reducible wrow_close)))
  | ((with_reducible refine' R_gl ?k0 ?k1 ?k2 ?k3 ?k4 ?_); (case k0 => rfl); (case k1 => rfl); (case k2 => rfl); (case k3 => rfl); (case k4 => k_is))
  | ((with_reducible refine' R_bi ?k0 ?k1 ?k2 ?k3 ?k4 ?k5 ?k6 ?k7 ?_); (case k0 => rfl); (case k1 => rfl); (case k2 => rfl); (case k3 => rfl); (case k4 => rfl); (case k5 => k_is); (case k6 => (with_reducible first | exact PyProof.Rows.Boot.«len» | exact PyProof.Rows.Boot.«zip» | exact PyProof.Rows.Boot.«sum» | exact PyProof.Rows.Boot.«min» | exact PyProof.Rows.Boot.«range» | exact PyProof.Rows.Boot.«list» | exact PyProof.Rows.Boot.«enumerate» | exact PyProof.Rows.Boot.«int» | exact PyProof.Rows.Boot.«str» | exact PyProof.Rows.Boot.«hasattr» | exact PyProof.Rows.Boot.«type»)); (case k7 => rfl))
  | ((with_reducible refine' R_Name ?_ ?k1); (case k1 => rfl))
  | (with_reducible refine' R_cInt ?_)
  | (with_reducible refine' R_cStr ?_)
  | (with_reducible refine' R_cNone ?_)
  | (with_reducible refine' R_cBool ?_)
  | (with_reducible refine' R_BinOp ?_)
  | ((with_reducible refine' R_Compare ?_ ?k1); (case k1 => rfl))
  | (with_reducible refine' R_UnaryOp ?_)
  | (with_reducible refine' R_IfExp ?_)
  | ((with_reducible refine' R_isTrue_Compare ?_ ?k1); (case k1 => rfl))
  | (with_reducible refine' R_isTrue_Not ?_)
  | (with_reducible refine' R_isTrue_BoolOp ?_)
  | ((with_reducible refine' R_isTrue_value ?_ ?k1); (case k1 => rfl))
  | (with_reducible refine' R_And_nil ?_)
  | (with_reducible refine' R_Or_nil ?_)
  | (with_reducible refine' R_And_cons ?_)
  | (with_reducible refine' R_Or_cons ?_)
  | (with_reducible refine' R_sp_nil ?_)
  | ((with_reducible refine' R_sp_cons ?_ ?k1); (case k1 => rfl))
  | (with_reducible refine' R_List ?_)
  | (with_reducible refine' R_Tuple ?_)
  | (with_reducible refine' R_asName ?_)
  | ((with_reducible refine' R_asTuple2 ?k0 ?k1 ?_); (case k0 => (with_reducible wrow_close)); (case k1 => rfl))
  | ((with_reducible refine' R_asTupG2 ?k0 ?k1 ?_); (case k0 => (with_reducible wrow_close)); (case k1 => rfl))
  | ((with_reducible refine' R_asTuple3 ?k0 ?k1 ?_); (case k0 => (with_reducible wrow_close)); (case k1 => rfl))
  | (with_reducible refine' R_ao_nil ?_)
  | (with_reducible refine' R_ao_cons ?_)
  | ((with_reducible refine' R_stP ?k0 ?k1 ?k2 ?k3 ?k4 ?_); (case k0 => rfl); (case k1 => rfl); (case k2 => (first | exact fenv_L | exact cenv_L)); (case k3 => (with_reducible wrow_close)); (case k4 => (with_reducible wrow_close)))
  | ((with_reducible refine' R_stC ?k0 ?k1 ?k2 ?k3 ?_); (case k0 => rfl); (case k1 => rfl); (case k2 => rfl); (case k3 => (with_reducible wrow_close)))
  | (with_reducible refine' R_bindName ?_)
  | (with_reducible refine' R_Call ?_)
  | ((with_reducible refine' R_cwKn ?k0 ?k1 ?k2 ?_); (case k0 => k_is); (case k1 => rfl); (case k2 => rfl))
  | ((with_reducible refine' R_cwK0n ?k0 ?_); (case k0 => k_is))
  | ((with_reducible refine' R_cwBn ?k0 ?k1 ?_); (case k0 => rfl); (case k1 => rfl))
  | ((with_reducible refine' R_cwB1 ?k0 ?k1 ?_); (case k0 => rfl); (case k1 => rfl))
  | (with_reducible refine' R_cwB01 ?_)
  | ((with_reducible refine' R_cwT ?_ ?k1 ?k2); (case k1 => rfl); (case k2 => rfl))
  | (with_reducible refine' R_B_one ?_)
  | (with_reducible refine' R_B_and ?_)
  | ((with_reducible refine' R_swap2 ?k0 ?k1 ?_); (case k0 => rfl); (case k1 => rfl))
  | ((with_reducible refine' R_swap3 ?k0 ?k1 ?_); (case k0 => rfl); (case k1 => rfl))
  | ((with_reducible refine' R_mS ?k0 ?k1 ?k2 ?k3 ?k4 ?_); (case k0 => (with_reducible first | exact PySem.F.slot_str_upper | exact PySem.F.slot_str_lower | exact PySem.F.slot_str_join)); (case k1 => (with_reducible first | exact PySem.F.type_str_upper | exact PySem.F.type_str_lower | exact PySem.F.type_str_join)); (case k2 => rfl); (case k3 => rfl); (case k4 => rfl))
  | ((with_reducible refine' R_mL ?k0 ?k1 ?k2 ?k3 ?k4 ?_); (case k0 => exact slot_list_append); (case k1 => (first | exact PySem.F.type_list_append | exact type_list_append)); (case k2 => rfl); (case k3 => rfl); (case k4 => rfl))
  | ((with_reducible refine' R_up1 ?k0 ?_); (case k0 => assumption))
  | ((with_reducible refine' R_lo1 ?k0 ?_); (case k0 => assumption))
  | ((with_reducible refine' R_add_str ?_ ?k1); (case k1 => assumption))
  | ((with_reducible refine' R_in_tup2 ?k0 ?_); (case k0 => (with_reducible wrow_close)))
  | ((with_reducible refine' R_old_slice ?k0 ?k1 ?k2 ?_); (case k0 => assumption); (case k1 => (with_reducible wrow_close)); (case k2 => wp_step))
  | ((with_reducible refine' R_ls_upto ?k0 ?k1 ?k2 ?_); (case k0 => (with_reducible wrow_close)); (case k1 => (with_reducible wrow_close)); (case k2 => wp_step))
  | ((with_reducible refine' R_ls_from ?k0 ?k1 ?k2 ?_); (case k0 => (with_reducible wrow_close)); (case k1 => (with_reducible wrow_close)); (case k2 => wp_step))
  | ((with_reducible refine' R_list_add ?k0 ?k1 ?k2 ?_); (case k0 => (with_reducible wrow_close)); (case k1 => (with_reducible wrow_close)); (case k2 => wp_step))
  | (with_reducible refine' R_int_int ?_)
  | ((with_reducible refine' R_pow ?k0 ?k1 ?_); (case k0 => decide); (case k1 => decide))
  | (with_reducible refine' R_subscr ?_)
  | ((with_reducible refine' R_item_list ?k0 ?k1 ?k2 ?k3 ?_ ?k5); (case k0 => (with_reducible wrow_close)); (case k1 => wp_step); (case k2 => wp_step); (case k3 => rfl); (case k5 => rfl))
  | (with_reducible refine' R_eval_slice ?_)
  | (with_reducible refine' R_von_none ?_)
  | (with_reducible refine' R_von_some ?_)
  | (with_reducible refine' R_add ?_)
  | (with_reducible refine' R_sub ?_)
  | ((with_reducible refine' R_mod ?k0 ?_); (case k0 => wp_step))
  | ((with_reducible refine' R_fdiv ?k0 ?k1 ?_); (case k0 => wp_step); (case k1 => wp_step))
  | ((with_reducible refine' R_lsh ?k0 ?k1 ?k2 ?_); (case k0 => wp_step); (case k1 => wp_step); (case k2 => wp_step))
  | ((with_reducible refine' R_rsh ?k0 ?_); (case k0 => wp_step))
  | (with_reducible refine' R_and ?_)
  | (with_reducible refine' R_eq_int ?_)
  | (with_reducible refine' R_lt ?_)
  | (with_reducible refine' R_le ?_)
  | (with_reducible refine' R_gt ?_)
  | (with_reducible refine' R_ne_int ?_)
  | (with_reducible refine' R_eq_str ?_)
  | (with_reducible refine' R_ne_str ?_)
  | (with_reducible refine' R_is_none ?_)
  | (with_reducible refine' R_isNot_none ?_)
  | (with_reducible refine' R_truthy_bool ?_)
  | ((with_reducible refine' R_truthy_tx ?k0 ?_); (case k0 => wp_step))
  | (with_reducible refine' R_truthy_int ?_)
  | (with_reducible refine' R_not ?_)
  | (with_reducible refine' R_iadd ?_)
  | (with_reducible refine' R_isub ?_)
  | (with_reducible refine' R_neg ?_)
  | (with_reducible refine' R_min ?_)
  | ((with_reducible refine' R_mul ?k0 ?_); (case k0 => decide))
  | ((with_reducible refine' zip_SS ?k0 ?k1 ?_); (case k0 => wp_step); (case k1 => wp_step))
  | ((with_reducible refine' zip_TS ?k0 ?k1 ?_); (case k0 => (with_reducible wrow_close)); (case k1 => wp_step))
  | ((with_reducible refine' zip_SL ?k0 ?k1 ?_); (case k0 => wp_step); (case k1 => (with_reducible wrow_close)))
  | ((with_reducible refine' zip_LL ?k0 ?k1 ?_); (case k0 => (with_reducible wrow_close)); (case k1 => (with_reducible wrow_close)))
  | ((with_reducible refine' R_self_zip ?k0 ?_); (case k0 => (with_reducible wrow_close)))
  | ((with_reducible refine' R_letGo_zip ?k0 ?_); (case k0 => (with_reducible wrow_close)))
  | ((with_reducible refine' R_iterL ?k0 ?_); (case k0 => (with_reducible wrow_close)))
  | ((with_reducible refine' R_self_list ?k0 ?_); (case k0 => (with_reducible wrow_close)))
  | ((with_reducible refine' R_iterT ?k0 ?_); (case k0 => (with_reducible wrow_close)))
  | ((with_reducible refine' R_iterS ?k0 ?_); (case k0 => wp_step))
  | ((with_reducible refine' R_len_list ?k0 ?k1 ?_); (case k0 => (with_reducible wrow_close)); (case k1 => wp_step))
  | ((with_reducible refine' R_append ?k0 ?k1 ?_); (case k0 => (with_reducible wrow_close)); (case k1 => wp_step))
  | ((with_reducible refine' R_AssignSub ?_ ?k1); (case k1 => rfl))
  | ((with_reducible refine' R_Assign2 ?_ ?k1 ?k2); (case k1 => rfl); (case k2 => rfl))
  | ((with_reducible refine' R_AssignTup ?_ ?k1 ?k2); (case k1 => rfl); (case k2 => rfl))
  | ((with_reducible refine' R_ListComp ?k0 ?k1 ?k2 ?k3 ?k4 ?_); (case k0 => (intro _; rfl)); (case k1 => rfl); (case k2 => rfl); (case k3 => decide); (case k4 => decide))
  | ((with_reducible refine' R_AssignComp ?k0 ?k1 ?k2 ?k3 ?k4 ?k5 ?_); (case k0 => rfl); (case k1 => (intro _; rfl)); (case k2 => rfl); (case k3 => rfl); (case k4 => decide); (case k5 => decide))
  | ((with_reducible refine' R_For ?_ ?k1); (case k1 => (intro _; rfl)))
  | (with_reducible refine' R_While ?_)
  | (with_reducible refine' R_tests_nil ?_)
  | (with_reducible refine' R_tests_one ?_)
  | (with_reducible refine' R_letGo_name ?_)
  | ((with_reducible refine' And.intro (R_self_zip ?k1 ⟨rfl, rfl⟩) ?_); (case k1 => with_reducible wrow_close))
  | ((with_reducible refine' And.intro (R_self_list ?k1 ⟨rfl, rfl⟩) ?_); (case k1 => with_reducible wrow_close))
  | ((with_reducible refine' And.intro (R_self_str ?k1 ⟨rfl, rfl⟩) ?_); (case k1 => with_reducible wrow_close))
  | ((with_reducible refine' And.intro (R_self_R ?k1 ⟨rfl, rfl⟩) ?_); (case k1 => with_reducible wrow_close))
  | ((with_reducible refine' R_callM0 ?k0 ?k1 ?k2 ?_); (case k0 => rfl); (case k1 => rfl); (case k2 => rfl))
  | ((with_reducible refine' R_callM ?k0 ?k1 ?k2 ?_); (case k0 => rfl); (case k1 => rfl); (case k2 => rfl))
  | ((with_reducible refine And.intro ?k1 ?_); (case k1 => exact Nat.le_of_ble_eq_true rfl))
  | (with_reducible refine ⟨_, _, rfl, ?_⟩)
  | ((with_reducible refine' ⟨_, _, ?k1, ?_⟩); (case k1 => ((with_reducible show SDel _ _ _ _); with_reducible wrow_close)))
  | (with_reducible refine ⟨_, _, _, rfl, ?_⟩)
  | (refine ⟨_, _, rfl, (by with_reducible wrow_close), ?_⟩)
  | (with_reducible refine And.intro (fun hb => ?_) (fun hb => ?_))
  | (with_reducible intro t)
  )
theorem fill_C1 (V : Cx) (kk : (hd.heap_1 V.w.params).lookup 45 = (hd.heap_1 V.w.params).lookup 45 ∧ PySem.Challenge.rw_ti0058_01.row.prog = PySem.Challenge.rw_ti0058_01.row.prog) : True := by
  revert kk
  k_fill
  intro _
  trivial
theorem C_add {V : Cx} {n : Nat} {st : Sto} {X : Value → Sto → Prop} {a b : Int} {t u : Tok} {Q : Value → Sto → Prop} (h : ∀ t, Q (.int (a + b) t) st) : Runs V (n + 1) (call (.ref 45) [.int a t, .int b u]) st Q X := by
  refine R_fn0 [("a", .int a t), ("b", .int b u)] (by k_is) (by k_is) rfl rfl rfl rfl rfl rfl rfl rfl fun L => ?_
  repeat x_close
  exact ⟨st, .skip .refl, h _⟩
theorem C_sub {V : Cx} {n : Nat} {st : Sto} {X : Value → Sto → Prop} {a b : Int} {t u : Tok} {Q : Value → Sto → Prop} (h : ∀ t, Q (.int (a - b) t) st) : Runs V (n + 1) (call (.ref 87) [.int a t, .int b u]) st Q X := by
  refine R_fn0 [("a", .int a t), ("b", .int b u)] (by k_is) (by k_is) rfl rfl rfl rfl rfl rfl rfl rfl fun L => ?_
  repeat x_close
  exact ⟨st, .skip .refl, h _⟩
theorem C_and {V : Cx} {n : Nat} {st : Sto} {X : Value → Sto → Prop} {a b : Int} {t u : Tok} {Q : Value → Sto → Prop} (h : ∀ t, Q (.int (Builtin.bitAnd a b) t) st) : Runs V (n + 1) (call (.ref 52) [.int a t, .int b u]) st Q X := by
  refine R_fn0 [("a", .int a t), ("b", .int b u)] (by k_is) (by k_is) rfl rfl rfl rfl rfl rfl rfl rfl fun L => ?_
  repeat x_close
  exact ⟨st, .skip .refl, h _⟩
theorem C_mod {V : Cx} {n : Nat} {st : Sto} {X : Value → Sto → Prop} {a b : Int} {t u : Tok} {Q : Value → Sto → Prop} (hb : b ≠ 0) (h : ∀ t, Q (.int (a.fmod b) t) st) : Runs V (n + 1) (call (.ref 73) [.int a t, .int b u]) st Q X := by
  refine R_fn0 [("a", .int a t), ("b", .int b u)] (by k_is) (by k_is) rfl rfl rfl rfl rfl rfl rfl rfl fun L => ?_
  repeat x_close
  exact ⟨st, .skip .refl, h _⟩
theorem C_floordiv {V : Cx} {n : Nat} {st : Sto} {X : Value → Sto → Prop} {a b : Int} {t u : Tok} {Q : Value → Sto → Prop} (hb : b ≠ 0) (hp : Builtin.divisionGoesByPylong a b = false) (h : ∀ t, Q (.int (a.fdiv b) t) st) : Runs V (n + 1) (call (.ref 59) [.int a t, .int b u]) st Q X := by
  refine R_fn0 [("a", .int a t), ("b", .int b u)] (by k_is) (by k_is) rfl rfl rfl rfl rfl rfl rfl rfl fun L => ?_
  repeat x_close
  exact ⟨st, .skip .refl, h _⟩
theorem C_lshift {V : Cx} {n : Nat} {st : Sto} {X : Value → Sto → Prop} {a b : Int} {t u : Tok} {Q : Value → Sto → Prop} (hb : 0 ≤ b) (hb2 : b ≤ 1000000) (ha : a.natAbs < 2 ^ 64) (h : ∀ t, Q (.int (a * 2 ^ b.toNat) t) st) : Runs V (n + 1) (call (.ref 66) [.int a t, .int b u]) st Q X := by
  refine R_fn0 [("a", .int a t), ("b", .int b u)] (by k_is) (by k_is) rfl rfl rfl rfl rfl rfl rfl rfl fun L => ?_
  repeat x_close
  exact ⟨st, .skip .refl, h _⟩
theorem C_rshift {V : Cx} {n : Nat} {st : Sto} {X : Value → Sto → Prop} {a b : Int} {t u : Tok} {Q : Value → Sto → Prop} (hb : 0 ≤ b) (h : ∀ t, Q (.int (a.fdiv (2 ^ b.toNat)) t) st) : Runs V (n + 1) (call (.ref 80) [.int a t, .int b u]) st Q X := by
  refine R_fn0 [("a", .int a t), ("b", .int b u)] (by k_is) (by k_is) rfl rfl rfl rfl rfl rfl rfl rfl fun L => ?_
  repeat x_close
  exact ⟨st, .skip .refl, h _⟩
theorem cnt_succ (zs : List (Nat × Nat)) (i : Nat) (p : Nat × Nat) (h : zs[i]? = some p) : (zs.take (i + 1)).countP (fun p => p.1 != p.2) = (zs.take i).countP (fun p => p.1 != p.2) + if (p.1 != p.2) = true then 1 else 0 := by
  rw [List.take_add_one, h, List.countP_append]
  simp [List.countP_cons]
theorem one_ne (a b : Nat) : ((⟨#[a]⟩ : Str) != ⟨#[b]⟩) = (a != b) := by
  by_cases h : a = b
  · subst h; simp
  · have : (⟨#[a]⟩ : Str) ≠ ⟨#[b]⟩ := fun q => h (by cases q; rfl)
    rw [bne_iff_ne.mpr this, bne_iff_ne.mpr h]
theorem C_unlike {V : Cx} {n : Nat} {st : Sto} {X : Value → Sto → Prop} {x y : Str} {t u : Tok} {Q : Value → Sto → Prop} (hx : x.cps.all (· < 128) = true) (hy : y.cps.all (· < 128) = true) (hl : x.cps.size = y.cps.size) (hs : x.cps.size ≤ 1000)
    (h : ∀ t, Q (.int ((x.cps.toList.zip y.cps.toList).countP fun p => p.1 != p.2 : Nat) t) st) : Runs V (n + 1) (call (.ref 292) [.str x t, .str y u]) st Q X := by
  refine R_fn0 [("one", .str x t), ("other", .str y u)] (by k_is) (by k_is) rfl rfl rfl rfl rfl rfl rfl rfl fun L => ?_
  repeat x_close
  rename_i z TO TI a2 a1 n12 D C
  let zs := x.cps.toList.zip y.cps.toList
  have hzl : zs.length = x.cps.size := by simp [zs, hl]
  refine comp_ind x.cps.size (fun i st' => ∃ vs a b, vs.length = (zs.take i).countP (fun p => p.1 != p.2) ∧ st' = (C, .ns []) :: (D, .list vs) :: zipSt z TO TI a2 a1 a b (itS y u i) (itS x t i)
            ((L, En.ns [("one", Value.str x t), ("other", Value.str y u)]) :: st)) ?_ ?_ x.cps.size 0 _ (by omega) ⟨[], _, _, rfl, rfl⟩
  · rintro i st' hi ⟨vs, a, b, hv, rfl⟩
    have hvl : vs.length ≤ 1000000 := by
      rw [hv]
      refine Nat.le_trans (List.countP_le_length) ?_
      rw [List.length_take]; omega
    have hi2 : i < y.cps.size := by omega
    have hx1 : x.cps[i]? = some x.cps[i] := Array.getElem?_eq_getElem hi
    have hy1 : y.cps[i]? = some y.cps[i] := Array.getElem?_eq_getElem hi2
    have hz1 : zs[i]? = some (x.cps[i], y.cps[i]) := by simp [zs, List.getElem?_zip_eq_some, hi, hi2]
    with_reducible refine zn_SS hx1 hy1 (by wrow_close) (by wrow_close) (by wrow_close) (by wrow_close) (by wrow_close) n12 fun t1 t2 T F _ _ _ _ => ⟨_, _, (by wrow_close), (by wrow_close), _, rfl, ?_⟩
    repeat x_close
    · rename_i hb
      refine ⟨_, .skip (.ns0 .refl), _, _, _, ?_, rfl⟩
      rw [List.length_append, hv, cnt_succ zs i _ hz1, List.length_singleton]
      rw [if_pos (by rw [one_ne] at hb; exact hb)]
    · rename_i hb
      refine ⟨_, .skip (.ns0 .refl), _, _, _, ?_, rfl⟩
      rw [hv, cnt_succ zs i _ hz1]
      rw [if_neg (by rw [one_ne] at hb; rw [hb]; exact Bool.false_ne_true)]
      rfl
  · rintro st' ⟨vs, a, b, hv, rfl⟩
    have hvl : vs.length ≤ 1000000 := by
      rw [hv]
      refine Nat.le_trans (List.countP_le_length) ?_
      rw [List.length_take]; omega
    have hx1 : x.cps[x.cps.size]? = none := Array.getElem?_eq_none (Nat.le_refl _)
    with_reducible refine ze_S hx1 (by wrow_close) (by wrow_close) (by wrow_close) ⟨rfl, _, _, by wrow_close, ?_⟩
    repeat x_close
    rename_i tt
    refine ⟨st, ?_, ?_⟩
    · exact .skip (.skip (.skip (.skip (.skip .refl))))
    · rw [hv, List.take_of_length_le (by omega)]
      exact h tt
theorem C_countOf {V : Cx} {n : Nat} {st : Sto} {X : Value → Sto → Prop} {l : Addr} {vs : List Value} {xs : List Str} {y : Str} {u F : Nat} {Q : Value → Sto → Prop} (hl : (l, En.list vs) ∈ st) (hv : TS F vs xs) (hu : F ≤ u) (hu0 : 0 < u) (hz : xs.length ≤ 1000)
    (h : ∀ t, Q (.int (xs.count y : Nat) t) st) : Runs V (n + 1) (call (.ref 101) [.ref l, .str y u]) st Q X := by
  refine R_fn0 [("a", .ref l), ("b", .str y u)] (by k_is) (by k_is) rfl rfl rfl rfl rfl rfl rfl rfl fun L => ?_
  repeat' x_close
  rename_i t0 it
  refine for_ind xs.length (fun i st' => ∃ t, st' = (it, itL l i) :: (L, En.ns [("a", .ref l), ("b", .str y u), ("count", .int ((xs.take i).count y : Nat) t)]) :: st) ?_ ?_ xs.length 0 _ (by omega) ⟨_, rfl⟩
  · rintro i st' hi ⟨t, rfl⟩
    obtain ⟨ti, p1, p2, hi1⟩ := hv.get (List.getElem?_eq_getElem hi)
    have hc : (xs.take (i + 1)).count y = (xs.take i).count y + if xs[i] = y then 1 else 0 := by
      rw [List.take_add_one, List.getElem?_eq_getElem hi, List.count_append]
      by_cases e : xs[i] = y <;> simp [e, List.count_cons]
    refine R_next_list (by wrow_close) (by wrow_close) hi1 ⟨_, rfl, ?_⟩
    repeat' x_close
    refine R_is_str (by k_is) p1 hu0 (fun e => absurd e (Nat.ne_of_lt (Nat.lt_of_lt_of_le p2 hu))) fun r hr => ?_
    repeat' x_close
    · rename_i hb _ _
      exact ⟨_, .keep (.nsk 3 .refl), _, by rw [hc, if_pos (hr hb)]; rfl⟩
    · rename_i _ hb _ _
      exact ⟨_, .keep (.nsk 3 .refl), _, by rw [hc, if_pos (eq_of_beq hb)]; rfl⟩
    · rename_i hb
      exact ⟨_, .keep (.nsk 3 .refl), _, by rw [hc, if_neg (fun q => by rw [q] at hb; simp at hb)]; rfl⟩
  · rintro st' ⟨t, rfl⟩
    have hx : vs[xs.length]? = none := List.getElem?_eq_none (Nat.le_of_eq hv.length)
    refine R_end_list (by wrow_close) (by wrow_close) hx ⟨rfl, ?_⟩
    repeat' x_close
    refine ⟨st, .skip .refl, ?_⟩
    rw [List.take_length]
    exact h _
theorem C_spelled {V : Cx} {n : Nat} {st : Sto} {X : Value → Sto → Prop} {a : Int} {u : Tok} {Q : Value → Sto → Prop}
    (h : ∀ t, Q (.str (spS (fun j => gr (1 + a.fmod 5) (1 + (a.fdiv 5).fmod 3) ((a.fdiv 15).fmod 3) (j + 1 : Nat)) 4) t) st) : Runs V (n + 1) (call (.ref 287) [.int a u]) st Q X := by
  refine R_fn0 [("number", .int a u)] (by k_is) (by k_is) rfl rfl rfl rfl rfl rfl rfl rfl fun L => ?_
  have hs : 0 ≤ (a.fdiv 5).fmod 3 := Int.fmod_nonneg_of_pos _ (by decide)
  repeat' x_close
  rename_i ta tb tc t1 td te tf t2 tg th t3 T0 ts q1 q2 q3 q4 P tz z TO TI a2 a1 n12
  generalize hf : 1 + a.fmod 5 = f at *
  generalize hsc : 1 + (a.fdiv 5).fmod 3 = sc at *
  generalize hkk : (a.fdiv 15).fmod 3 = kk at *
  have hs0 : sc ≠ 0 := by omega
  let g : Nat → Bool := fun j => gr f sc kk (j + 1 : Nat)
  refine for_ind 4 (fun i st' => ∃ va vb t, st' = zipSt z TO TI a2 a1 va vb (itS "abcd" tz i) (itT P i) ((P, En.tup [.int 1 q1, .int 2 q2, .int 3 q3, .int 4 q4]) :: (T0, En.tup [.int f ta, .int sc tf, .int kk t3]) ::
      (L, En.ns [("number", .int a u), ("kind", .int kk t3), ("second", .int sc tf), ("first", .int f ta), ("signs", .str (spS g i) t)]) :: st)) ?_ ?_ 4 0 _ rfl ⟨_, _, ts, rfl⟩
  · rintro i st' hi ⟨va, vb, t, rfl⟩
    obtain ⟨tp, hp⟩ : ∃ tp, [Value.int 1 q1, .int 2 q2, .int 3 q3, .int 4 q4][i]? = some (.int (i + 1 : Nat) tp) := by
      match i, hi with
      | 0, _ => exact ⟨_, rfl⟩
      | 1, _ => exact ⟨_, rfl⟩
      | 2, _ => exact ⟨_, rfl⟩
      | 3, _ => exact ⟨_, rfl⟩
    have hc : (Str.ofString "abcd").cps[i]? = some (97 + i) := by
      rw [abcd_cps]
      match i, hi with
      | 0, _ => rfl
      | 1, _ => rfl
      | 2, _ => rfl
      | 3, _ => rfl
    have hz1 : (spS g i).length + 1 ≤ sizeLine := by
      rw [spS_len]
      show i + 1 ≤ 2 ^ 24
      omega
    have hup := up_one i hi
    with_reducible refine zn_TS hp hc (by wrow_close) (by wrow_close) (by wrow_close) (by wrow_close) (by wrow_close) (by wrow_close) n12 fun t2 T F _ _ => ⟨_, _, (by wrow_close), (by wrow_close), _, rfl, ?_⟩
    repeat' x_close
    refine Runs.joinS (fun v => v = .bool (g i)) (R_B_or ?_) ?_
    · repeat' x_close
      · rename_i hb
        refine ⟨?_, .skip .refl⟩
        rw [hb]
        show Value.bool true = .bool (gr f sc kk (i + 1 : Nat))
        unfold gr; rw [hb]; rfl
      · have h1 : ((0 : Int) == ((i + 1 : Nat) : Int) - f || sc == ((i + 1 : Nat) : Int) - f) = false := by assumption
        have h2 : (kk == 0) = true := by assumption
        have h3 : decide (0 < ((i + 1 : Nat) : Int) - f) = true := by assumption
        refine ⟨?_, .skip .refl⟩
        show _ = Value.bool (gr f sc kk (i + 1 : Nat))
        unfold gr; rw [h1, h2, h3]; rfl
      · have h1 : ((0 : Int) == ((i + 1 : Nat) : Int) - f || sc == ((i + 1 : Nat) : Int) - f) = false := by assumption
        have h2 : (kk == 0) = true := by assumption
        have h3 : decide (0 < ((i + 1 : Nat) : Int) - f) = false := by assumption
        refine ⟨?_, .skip .refl⟩
        show _ = Value.bool (gr f sc kk (i + 1 : Nat))
        unfold gr; rw [h1, h2, h3]; rfl
      · have h1 : ((0 : Int) == ((i + 1 : Nat) : Int) - f || sc == ((i + 1 : Nat) : Int) - f) = false := by assumption
        have h2 : (kk == 0) = false := by assumption
        refine ⟨?_, .skip .refl⟩
        show _ = Value.bool (gr f sc kk (i + 1 : Nat))
        unfold gr; rw [h1, h2]; rfl
    · rintro v rfl
      repeat' x_close
      · rename_i hb _ _
        exact ⟨_, .skip (.keep (.keep (.keep (.keep (.keep (.keep (.keep (.nsk 5 .refl)))))))), _, _, _, by rw [spS_succ, chS, if_pos hb]; rfl⟩
      · rename_i hb _
        exact ⟨_, .skip (.keep (.keep (.keep (.keep (.keep (.keep (.keep (.nsk 5 .refl)))))))), _, _, _, by rw [spS_succ, chS, if_neg hb]; rfl⟩
  · rintro st' ⟨va, vb, t, rfl⟩
    have hx : [Value.int 1 q1, .int 2 q2, .int 3 q3, .int 4 q4][4]? = none := rfl
    with_reducible refine ze_T hx (by wrow_close) (by wrow_close) (by wrow_close) (by wrow_close) ⟨rfl, ?_⟩
    repeat' x_close
    exact ⟨st, .skip (.skip (.skip (.skip (.skip (.skip .refl))))), h _⟩
def nearOf (b : Int) (ns : List Int) : List Str := ((["K", "L", "M", "N"] : List Str).zip ns).filterMap fun p => if p.2 ≤ b then some p.1 else none
def nearP (b : Int) (k : Nat) (ns : List Int) : List Str := (((["K", "L", "M", "N"] : List Str).zip ns).take k).filterMap fun p => if p.2 ≤ b then some p.1 else none
theorem klmn_cps : (Str.ofString "KLMN").cps = #[75, 76, 77, 78] := by decide
theorem klmn_get (k : Nat) (h : k < 4) : (["K", "L", "M", "N"] : List Str)[k]? = some ⟨#[75 + k]⟩ := by
  match k, h with
  | 0, _ => decide
  | 1, _ => decide
  | 2, _ => decide
  | 3, _ => decide
theorem nearP_len (b : Int) (k : Nat) (ns : List Int) : (nearP b k ns).length ≤ 4 := by
  unfold nearP
  refine Nat.le_trans (List.length_filterMap_le _ _) ?_
  rw [List.length_take, List.length_zip]
  simp; omega
theorem nearP_succ (b : Int) (k : Nat) (ns : List Int) (hk : k < 4) (hn : k < ns.length) : nearP b (k + 1) ns = nearP b k ns ++ if ns[k] ≤ b then [⟨#[75 + k]⟩] else [] := by
  unfold nearP
  have e : ((["K", "L", "M", "N"] : List Str).zip ns)[k]? = some (⟨#[75 + k]⟩, ns[k]) := by
    rw [List.getElem?_zip_eq_some]
    exact ⟨klmn_get k hk, List.getElem?_eq_getElem hn⟩
  rw [List.take_add_one, e, List.filterMap_append]
  by_cases h : ns[k] ≤ b <;> simp [h]
theorem nearP_all (b : Int) (ns : List Int) (h : ns.length = 4) : nearP b 4 ns = nearOf b ns := by
  unfold nearP nearOf
  rw [List.take_of_length_le (by rw [List.length_zip]; simp; omega)]
theorem C_near {V : Cx} {n : Nat} {st : Sto} {X : Value → Sto → Prop} {l : Addr} {rows : List (Addr × List Value)} {nss : List (List Int)} {b : Int} {u : Tok} {Q : Value → Sto → Prop}
    (hl : (l, En.list (rowsV rows)) ∈ st) (hm : ∀ p ∈ rows, (p.1, En.list p.2) ∈ st) (hr : RowsAre IntsAre rows nss) (h4 : ∀ ns ∈ nss, ns.length = 4) (hz : nss.length ≤ 1000) (h1 : 1 ≤ flr st)
    (h : ∀ D fl F rows', F ≤ flr fl → RowsAre (TS F) rows' (nss.map (nearOf b)) → Q (.ref D) ((D, .list (rowsV rows')) :: (rowsE rows' ++ (fl ++ st)))) : Runs V (n + 1) (call (.ref 302) [.ref l, .int b u]) st Q X := by
  refine R_fn1 [("told", .ref l), ("bound", .int b u)] [("told", .ref l)] "bound" (some (.int b u)) (by k_is) (by k_is) rfl rfl rfl rfl rfl rfl rfl rfl rfl fun L c => ?_
  repeat' x_close
  rename_i it D C
  refine comp_ind nss.length (fun i st' => ∃ fl F rows', F ≤ flr fl ∧ RowsAre (TS F) rows' ((nss.take i).map (nearOf b)) ∧ st' = (C, En.ns []) :: (D, En.list (rowsV rows')) :: (it, itL l i) :: (rowsE rows' ++ (fl ++ (L, En.ns [("told", Value.ref l)]) :: (c, En.cell (some (Value.int b u))) :: st))) ?_ ?_ nss.length 0 _ (Nat.zero_add _) ⟨[], 0, [], Nat.le_refl _, .nil, rfl⟩
  · rintro i st' hi ⟨fl, F, rows', hF, hR, rfl⟩
    obtain ⟨a, vs, e1, hv⟩ := hr.at (List.getElem?_eq_getElem hi)
    have hav := hm _ (List.mem_of_getElem? e1)
    dsimp only at hav
    refine R_next_list (by wrow_close) (by wrow_close) (rowsV_at e1) ⟨_, rfl, ?_⟩
    repeat' x_close
    · rename_i tz z TO TI a2 a1 n12 D2 C2
      refine comp_ind 4 (fun k st' => ∃ ws va vb fl2 F2, F2 ≤ flr fl2 ∧ TS F2 ws (nearP b k nss[i]) ∧ st' = (C2, En.ns []) :: (D2, En.list ws) :: zipSt z TO TI a2 a1 va vb (itL a k) (itS "KLMN" tz k) (fl2 ++ 
          ((C, En.ns [("fars", Value.ref a)]) :: (D, En.list (rowsV rows')) :: (it, itL l (i + 1)) :: (rowsE rows' ++ (fl ++ (L, En.ns [("told", Value.ref l)]) :: (c, En.cell (some (Value.int b u))) :: st))))) ?_ ?_ 4 0 _ rfl ⟨[], _, _, [], 0, Nat.le_refl _, .nil, rfl⟩
      · rintro k st' hk ⟨ws, va, vb, fl2, F2, hF2, hT, rfl⟩
        have h4' := h4 _ (List.getElem_mem hi)
        have hk' : k < nss[i].length := by omega
        obtain ⟨tf, hf⟩ := ints_at hv (List.getElem?_eq_getElem hk')
        have hc := klmn_at k hk
        have hwl : ws.length ≤ 1000000 := by
          rw [hT.length]
          exact Nat.le_trans (nearP_len b k _) (by omega)
        with_reducible refine zn_SL hc hf (by wrow_close) (by wrow_close) (by wrow_close) (by wrow_close) (by wrow_close) (by wrow_close) n12 fun t1 T F' f1 f2 => ⟨_, _, (by wrow_close), (by wrow_close), _, rfl, ?_⟩
        have f3 : F2 ≤ t1 ∧ 0 < t1 := by
          simp only [flr, flr1, flr_app, zipSt] at f1
          omega
        repeat' x_close
        · rename_i hb
          exact ⟨_, .trans .back7 (.ns0 (.keep (.keep (.keep (.keep (.keep (.keep (.keep .drop)))))))), _, _, _, [(T, _)], F', by simp only [flr, flr1]; omega, by
            rw [nearP_succ b k _ hk hk', if_pos (of_decide_eq_true hb)]
            exact (hT.le (by omega)).app (.cons _ t1 f3.2 f2 .nil), rfl⟩
        · rename_i hb
          exact ⟨_, .trans .back7 (.ns0 (.keep (.keep (.keep (.keep (.keep (.keep (.keep .drop)))))))), _, _, _, [(T, _)], F', by simp only [flr, flr1]; omega, by
            rw [nearP_succ b k _ hk hk', if_neg (of_decide_eq_false hb), List.append_nil]
            exact hT.le (by omega), rfl⟩
      · rintro st' ⟨ws, va, vb, fl2, F2, hF2, hT, rfl⟩
        have hx : (Str.ofString "KLMN").cps[4]? = none := by rw [klmn_cps]; rfl
        have hrl : (rowsV rows').length ≤ 1000000 := by
          simp only [rowsV, List.length_map]
          rw [hR.len, List.length_map, List.length_take]; omega
        with_reducible refine ze_S hx (by wrow_close) (by wrow_close) (by wrow_close) ⟨rfl, _, _, by wrow_close, ?_⟩
        repeat' x_close
        refine ⟨_, .trans (.keep (.skip (.skip (.skip .refl)))) (.perm (perm_rows _ _ _ _ _ _ _ _) (.ns0 .refl)), fl2 ++ fl, max F F2, rows' ++ [(D2, ws)], by rw [flr_app]; omega, ?_, ?_⟩
        · rw [List.take_add_one, List.getElem?_eq_getElem hi, List.map_append]
          refine (hR.mono fun _ _ q => q.le (by omega)).app (.cons ?_ .nil)
          rw [nearP_all b _ (h4 _ (List.getElem_mem hi))] at hT
          exact hT.le (by omega)
        · simp [rowsV, rowsE]
    · rename_i hb; cases hb
  · rintro st' ⟨fl, F, rows', hF, hR, rfl⟩
    have hx : (rowsV rows)[nss.length]? = none := List.getElem?_eq_none (by simp [rowsV, hr.len])
    refine R_end_list (by wrow_close) (by wrow_close) hx ⟨rfl, _, _, by wrow_close, ?_⟩
    refine ⟨_, ?_, h D fl F rows' hF (by rw [List.take_length] at hR; exact hR)⟩
    exact .keep (.under (.under (.skip (.skip .refl))))
def numsP (ns : List Int) : List Int := (ns.take 8).map (·.fmod 1000000) ++ ([16, 20, 3, 15, 21, 12, 25, 26] : List Int).drop (min 8 ns.length)
theorem ints_take {vs : List Value} {ns : List Int} (h : IntsAre vs ns) : ∀ k, IntsAre (vs.take k) (ns.take k) := by
  induction h with
  | nil => intro k; simp; exact .nil
  | cons x t _ ih =>
    intro k
    cases k with
    | zero => exact .nil
    | succ k => exact .cons x t (ih k)
theorem ints_drop {vs : List Value} {ns : List Int} (h : IntsAre vs ns) : ∀ k, IntsAre (vs.drop k) (ns.drop k) := by
  induction h with
  | nil => intro k; simp; exact .nil
  | cons x t h' ih =>
    intro k
    cases k with
    | zero => exact .cons x t h'
    | succ k => exact ih k
theorem C_numbers {V : Cx} {n : Nat} {st : Sto} {X : Value → Sto → Prop} {l : Addr} {vs : List Value} {ns : List Int} {Q : Value → Sto → Prop} (hl : V.B.IsList l vs.toArray) (hi : IntsAre vs ns) (hz : vs.length ≤ 1000000)
    (h : ∀ D ws, IntsAre ws (numsP ns) → Q (.ref D) ((D, .list ws) :: st)) : Runs V (n + 1) (call (.ref 275) [.ref l]) st Q X := by
  refine R_fn0 [("script", .ref l)] (by k_is) (by k_is) rfl rfl rfl rfl rfl rfl rfl rfl fun L => ?_
  repeat' x_close
  rename_i t8 sl
  refine R_old_slice (k := 8) hl (by wrow_close) hz fun l8 => ?_
  repeat' x_close
  rename_i it D C
  have h8 : IntsAre (vs.take 8) (ns.take 8) := ints_take hi 8
  have hl8 : (vs.take 8).length = (ns.take 8).length := ints_len h8
  have hlt : (ns.take 8).length ≤ 8 := by rw [List.length_take]; omega
  refine comp_ind (ns.take 8).length (fun i st' => ∃ ws, IntsAre ws (((ns.take 8).take i).map (·.fmod 1000000)) ∧ st' = (C, En.ns []) :: (D, En.list ws) :: (it, itL l8 i) :: (l8, En.list (vs.take 8)) :: (sl, .fl "slice" [.none, .int 8 t8, .none]) :: (L, En.ns [("script", .ref l)]) :: st) ?_ ?_ _ 0 _ (Nat.zero_add _) ⟨[], .nil, rfl⟩
  · rintro i st' hi' ⟨ws, hw, rfl⟩
    obtain ⟨t, ht⟩ := ints_at h8 (List.getElem?_eq_getElem hi')
    have hwl : ws.length ≤ 1000000 := by rw [ints_len hw, List.length_map, List.length_take]; omega
    refine R_next_list (by wrow_close) (by wrow_close) ht ⟨_, rfl, ?_⟩
    repeat' x_close
    · refine ⟨_, .ns0 .refl, _, ?_, rfl⟩
      rw [List.take_succ_eq_append_getElem hi', List.map_append]
      exact IntsAre_app hw (.cons _ _ .nil)
    · rename_i hb; cases hb
  · rintro st' ⟨ws, hw, rfl⟩
    rw [List.take_length] at hw
    have hx : (vs.take 8)[(ns.take 8).length]? = none := List.getElem?_eq_none (Nat.le_of_eq hl8)
    have hwl : ws.length = (ns.take 8).length := by rw [ints_len hw, List.length_map]
    refine R_end_list (by wrow_close) (by wrow_close) hx ⟨rfl, ?_⟩
    repeat' x_close
    refine R_ls_from (k := ws.length) (by wrow_close) (by wrow_close) (by show 8 ≤ 1000000; omega) fun tl => ?_
    have hd8 : ∀ (xs : List Value), xs.length = 8 → ws.length + (xs.drop ws.length).length ≤ 1000000 := fun xs e => by rw [List.length_drop, e, hwl]; omega
    repeat' x_close
    refine R_list_add (by wrow_close) (by wrow_close) (hd8 _ rfl) fun res => ?_
    have hfin : ∀ (t1 t2 t3 t4 t5 t6 t7 t9 : Tok), IntsAre (ws ++ ([Value.int 16 t1, .int 20 t2, .int 3 t3, .int 15 t4, .int 21 t5, .int 12 t6, .int 25 t7, .int 26 t9] : List Value).drop ws.length) (numsP ns) := fun t1 t2 t3 t4 t5 t6 t7 t9 => by
      refine IntsAre_app hw ?_
      rw [hwl, List.length_take]
      exact ints_drop (.cons _ _ (.cons _ _ (.cons _ _ (.cons _ _ (.cons _ _ (.cons _ _ (.cons _ _ (.cons _ _ .nil)))))))) _
    exact ⟨_, .keep (.skip (.skip (.skip (.skip (.skip (.skip (.skip .refl))))))), h res _ (hfin _ _ _ _ _ _ _ _)⟩
local macro_rules | `(tactic| x_close) => `(tactic| first
  | (with_reducible refine' and_f ?_)
  | (with_reducible refine' and_t ?_)
  | (with_reducible refine' and_rfl ?_)
  | (with_reducible refine' ite_nt ?_)
  | (with_reducible refine' ite_nf ?_)
  | ((with_reducible refine' R_cwK1 ?k0 ?k1 ?k2 ?_); (case k0 => k_is); (case k1 => rfl); (case k2 => rfl))
  | ((with_reducible refine' ex_ref ?k0 ?_); (case k0 => (with_reducible wrow_close)))
  | (with_reducible refine' R_ReturnN ?_)
  | (with_reducible refine' R_debug ?_)
  | (with_reducible refine' R_isNot_none_str ?_)
  | (with_reducible refine' R_isNot_none_none ?_)
  | ((with_reducible refine' R_methD ?k0 ?k1 ?k2 ?k3 ?k4 ?_); (case k0 => exact PySem.F.slot_dict_items); (case k1 => exact PySem.F.type_dict_items); (case k2 => rfl); (case k3 => rfl); (case k4 => rfl))
  | ((with_reducible refine' R_items ?k0 ?k1 ?_); (case k0 => (with_reducible wrow_close)); (case k1 => assumption))
  | ((with_reducible refine' R_iter_items ?k0 ?k1 ?_); (case k0 => (with_reducible wrow_close)); (case k1 => (with_reducible wrow_close)))
  | (with_reducible refine' R_truthy_none ?_)
  | (with_reducible refine' R_type_str ?_)
  | ((with_reducible refine' R_type_list ?k0 ?_); (case k0 => (with_reducible wrow_close)))
  | (with_reducible refine' R_is_same ?_)
  | (with_reducible refine' R_isNot_same ?_)
  | ((with_reducible refine' R_AssignAttr ?_ ?k1); (case k1 => rfl))
  | (with_reducible refine' R_Attr ?_)
  | (with_reducible refine' R_evalAll_nil ?_)
  | (with_reducible refine' R_evalAll_cons ?_)
  | ((with_reducible refine' R_truthy_tx ?k0 ?_); (case k0 => wp_step))
  | ((with_reducible refine' R_len_tx ?k0 ?_); (case k0 => wp_step))
  | (with_reducible refine' R_range1 ?_)
  | ((with_reducible refine' R_mul ?k0 ?_); (case k0 => (with_reducible first | exact mb2 | exact mb4)))
  | ((with_reducible refine' R_mulR ?k0 ?_); (case k0 => (with_reducible first | exact mb2 | exact mb4)))
  )
theorem C_concat {V : Cx} {n : Nat} {st : Sto} {X : Value → Sto → Prop} {a b : Addr} {vs ws : List Value} {Q : Value → Sto → Prop} (ha : (a, En.list vs) ∈ st) (hb : (b, En.list ws) ∈ st) (hz : vs.length + ws.length ≤ 1000)
    (h : ∀ D, Q (.ref D) ((D, En.list (vs ++ ws)) :: st)) : Runs V (n + 1) (call (.ref 94) [.ref a, .ref b]) st Q X := by
  refine R_fn0 [("a", .ref a), ("b", .ref b)] (by k_is) (by k_is) rfl rfl rfl rfl rfl rfl rfl rfl fun L => ?_
  repeat' x_close
  refine R_hasattr (by wrow_close) ?_
  repeat' x_close
  exact ⟨_, .keep (.skip .refl), h _⟩
/-- one of the letters of the spellings -/
def isL (c : Nat) : Bool := (65 ≤ c && c ≤ 68) || (97 ≤ c && c ≤ 100)
def loc (c : Nat) : Nat := if c < 97 then c + 32 else c
theorem lower_one (c : Nat) (h : isL c = true) : Txt.lower ⟨#[c]⟩ = ⟨#[loc c]⟩ := by
  have : c = 65 ∨ c = 66 ∨ c = 67 ∨ c = 68 ∨ c = 97 ∨ c = 98 ∨ c = 99 ∨ c = 100 := by
    unfold isL at h
    simp only [Bool.or_eq_true, Bool.and_eq_true, decide_eq_true_eq] at h
    omega
  rcases this with rfl | rfl | rfl | rfl | rfl | rfl | rfl | rfl <;> decide +kernel
def costP (c d : Nat) : Int := if c = d then 0 else if loc c = loc d then 1 else 2
theorem one_eq (a b : Nat) : ((⟨#[a]⟩ : Str) == ⟨#[b]⟩) = (a == b) := by
  by_cases h : a = b
  · subst h; simp
  · have : (⟨#[a]⟩ : Str) ≠ ⟨#[b]⟩ := fun q => h (by cases q; rfl)
    rw [beq_eq_false_iff_ne.mpr this, beq_eq_false_iff_ne.mpr h]
theorem C_cost {V : Cx} {n : Nat} {st : Sto} {X : Value → Sto → Prop} {c d : Nat} {t u : Tok} {Q : Value → Sto → Prop} (hc : isL c = true) (hd' : isL d = true)
    (h : ∀ t, Q (.int (costP c d) t) st) : Runs V (n + 1) (call (.ref 115) [.str ⟨#[c]⟩ t, .str ⟨#[d]⟩ u]) st Q X := by
  refine R_fn0 [("ch_a", .str ⟨#[c]⟩ t), ("ch_b", .str ⟨#[d]⟩ u)] (by k_is) (by k_is) rfl rfl rfl rfl rfl rfl rfl rfl fun L => ?_
  have l1 := lower_one c hc
  have l2 := lower_one d hd'
  repeat' x_close
  · rename_i hq tt
    refine ⟨st, .skip .refl, ?_⟩
    have e := h tt
    rw [one_eq] at hq
    rw [costP, if_pos (eq_of_beq hq)] at e; exact e
  · have hq : ¬ ((⟨#[c]⟩ : Str) == ⟨#[d]⟩) = true := by assumption
    have hq2 : ((⟨#[loc c]⟩ : Str) == ⟨#[loc d]⟩) = true := by assumption
    rw [one_eq] at hq hq2
    have ec : costP c d = 1 := by rw [costP, if_neg (fun q => hq (by rw [q]; exact beq_self_eq_true _)), if_pos (eq_of_beq hq2)]
    rw [ec] at h
    exact ⟨st, .skip .refl, h _⟩
  · have hq : ¬ ((⟨#[c]⟩ : Str) == ⟨#[d]⟩) = true := by assumption
    have hq2 : ¬ ((⟨#[loc c]⟩ : Str) == ⟨#[loc d]⟩) = true := by assumption
    rw [one_eq] at hq hq2
    have ec : costP c d = 2 := by rw [costP, if_neg (fun q => hq (by rw [q]; exact beq_self_eq_true _)), if_neg (fun q => hq2 (by rw [q]; exact beq_self_eq_true _))]
    rw [ec] at h
    exact ⟨st, .skip .refl, h _⟩
/-- one turn of the inner loop: row, distance, result, minimum -/
def dpS (bc : Nat) (X : List Nat) (i : Nat) (σ : List Int × Int × Int × Int) : List Int × Int × Int × Int :=
  let r := min (min σ.2.2.1 (σ.1[i]?.getD 0) + 2) (σ.2.1 + costP bc (X[i]?.getD 0))
  (σ.1.set i r, σ.1[i]?.getD 0, r, if r < σ.2.2.2 then r else σ.2.2.2)
def dpI (bc : Nat) (X : List Nat) (row : List Int) (r0 : Int) : Nat → List Int × Int × Int × Int
  | 0 => (row, r0, r0, 9223372036854775807)
  | k + 1 => dpS bc X k (dpI bc X row r0 k)
def dpO (X Y : List Nat) : Nat → List Int × Int × Int × Int
  | 0 => ((List.range X.length).map (fun (i : Nat) => 2 + (i : Int) * 2), 0, 0, 0)
  | k + 1 => dpI (Y[k]?.getD 0) X (dpO X Y k).1 ((k : Int) * 2) X.length
theorem dpI_len (bc : Nat) (X : List Nat) (row : List Int) (r0 : Int) (k : Nat) : (dpI bc X row r0 k).1.length = row.length := by
  induction k with
  | zero => rfl
  | succ k ih => show ((dpI bc X row r0 k).1.set k _).length = _; rw [List.length_set, ih]
theorem dpO_len (X Y : List Nat) (k : Nat) : (dpO X Y k).1.length = X.length := by
  induction k with
  | zero => simp [dpO]
  | succ k ih => rw [dpO, dpI_len, ih]
def dpP (X Y : List Nat) (b : Int) : Int := if (List.range X.length).any (fun k => decide (b < (dpO X Y (k + 1)).2.2.2)) then b + 1 else (dpO X Y X.length).2.2.1
theorem all_at {l : List Nat} (h : l.all isL = true) {i c : Nat} (e : l[i]? = some c) : isL c = true := List.all_eq_true.mp h c (List.mem_of_getElem? e)
theorem C_lev {V : Cx} {n : Nat} {st : Sto} {X : Value → Sto → Prop} {x y : List Nat} {t u v : Tok} {b : Int} {Q : Value → Sto → Prop} (hx : x.length = 4) (hy : y.length = 4) (hlx : x.all isL = true) (hly : y.all isL = true) (hb : 1 ≤ b)
    (h : x = y → ∀ t, Q (.int 0 t) st)
    (h' : ∀ p r, p + r ≤ 4 → x.take p = y.take p → x.drop (p + r) = y.drop (p + r) → ∀ t, Q (.int (dpP ((x.drop p).take r) ((y.drop p).take r) b) t) st) : Runs V (n + 2) (call (.ref 122) [.str (tx x) t, .str (tx y) u, .int b v]) st Q X := by
  refine R_fn0 [("a", .str (tx x) t), ("b", .str (tx y) u), ("max_cost", .int b v)] (by k_is) (by k_is) rfl rfl rfl rfl rfl rfl rfl rfl fun L => ?_
  have hx4 : x.length ≤ 1000 := by omega
  have hy4 : y.length ≤ 1000 := by omega
  repeat' x_close
  · rename_i hq tt
    refine ⟨st, .skip .refl, h ?_ tt⟩
    have e := congrArg (fun s : Str => s.cps.toList) (eq_of_beq hq)
    simpa using e
  rename_i hne tp
  refine while_ind (fun k st' => ∃ (p : Nat) (t' : Tok), p + k = 4 ∧ x.take p = y.take p ∧ st' = (L, En.ns [("a", .str (tx x) t), ("b", .str (tx y) u), ("max_cost", .int b v), ("pre", .int (p : Int) t')]) :: st) ?_ 4 _ ⟨0, tp, rfl, rfl, rfl⟩
  rintro k st' ⟨p, t', hp, hxy, rfl⟩
  have hdx : (x.drop p).length ≤ 1000 := by rw [List.length_drop]; omega
  have hdy : (y.drop p).length ≤ 1000 := by rw [List.length_drop]; omega
  have ex : (!(x.drop p).isEmpty) = decide (p < 4) := by
    by_cases q : p < 4
    · rw [decide_eq_true q, List.isEmpty_eq_false_iff.mpr (by intro e; have := congrArg List.length e; rw [List.length_drop] at this; simp at this; omega)]; rfl
    · rw [decide_eq_false q, List.drop_eq_nil_of_le (by omega)]; rfl
  have ey : (!(y.drop p).isEmpty) = decide (p < 4) := by
    by_cases q : p < 4
    · rw [decide_eq_true q, List.isEmpty_eq_false_iff.mpr (by intro e; have := congrArg List.length e; rw [List.length_drop] at this; simp at this; omega)]; rfl
    · rw [decide_eq_false q, List.drop_eq_nil_of_le (by omega)]; rfl
  refine Runs.joinS (fun r => r = (decide (p < 4) && x[p]? == y[p]?)) ?_ ?_
  · repeat' x_close
    refine R_sl_from (k := p) (by wrow_close) (by omega) (by omega) fun t2 => ?_
    repeat' x_close
    · refine R_sl_from (k := p) (by wrow_close) (by omega) (by omega) fun t2 => ?_
      repeat' x_close
      · have hp4 : p < 4 := by
          have hb1 : (!(x.drop p).isEmpty) = true := by assumption
          rw [ex] at hb1; exact of_decide_eq_true hb1
        have gx : x[p]? = some x[p] := List.getElem?_eq_getElem (by omega)
        have gy : y[p]? = some y[p] := List.getElem?_eq_getElem (by omega)
        refine R_tx_at gx (by omega) (fun t3 => ?_) rfl
        repeat' x_close
        refine R_tx_at gy (by omega) (fun t4 => ?_) rfl
        repeat' x_close
        · rename_i hq
          rw [one_eq] at hq
          refine ⟨?_, .skip (.skip .refl)⟩
          rw [decide_eq_true hp4, gx, gy]; exact hq.symm
        · rename_i hq
          rw [one_eq] at hq
          refine ⟨?_, .skip (.skip .refl)⟩
          rw [decide_eq_true hp4, gx, gy]; exact hq.symm
      · rename_i hq
        rw [ey] at hq
        exact ⟨by rw [hq]; rfl, .skip (.skip .refl)⟩
    · rename_i hq
      rw [ex] at hq
      exact ⟨by rw [hq]; rfl, .skip .refl⟩
  · rintro r rfl
    repeat' x_close
    · have hq : (decide (p < 4) && x[p]? == y[p]?) = true := by assumption
      rw [Bool.and_eq_true] at hq
      have hp4 : p < 4 := of_decide_eq_true hq.1
      refine ⟨_, .refl, k - 1, by omega, p + 1, _, by omega, ?_, rfl⟩
      rw [List.take_add_one, List.take_add_one, hxy, eq_of_beq hq.2]
    · have hq : (decide (p < 4) && x[p]? == y[p]?) = false := by assumption
      have hp4 : p < 4 := by
        rcases Nat.lt_or_ge p 4 with q | q
        · exact q
        · exfalso
          rw [List.take_of_length_le (by omega), List.take_of_length_le (by omega)] at hxy
          exact hne (by rw [hxy]; exact beq_self_eq_true _)
      rw [decide_eq_true hp4, Bool.true_and] at hq
      refine R_sl_from (k := p) (by wrow_close) (by omega) (by omega) fun t2 => ?_
      repeat' x_close
      refine R_sl_from (k := p) (by wrow_close) (by omega) (by omega) fun t3 => ?_
      generalize hX : x.drop p = X1 at *
      generalize hY : y.drop p = Y1 at *
      repeat' x_close
      rename_i s1 s2 tz
      have hmX : X1.length = 4 - p := by rw [← hX, List.length_drop, hx]
      have hmY : Y1.length = 4 - p := by rw [← hY, List.length_drop, hy]
      obtain ⟨m, hm⟩ : ∃ m, m = 4 - p := ⟨_, rfl⟩
      rw [← hm] at hmX hmY
      have hm1 : 1 ≤ m := by omega
      have h0 : X1[0]? ≠ Y1[0]? := by
        rw [← hX, ← hY, List.getElem?_drop, List.getElem?_drop]
        simpa using hq
      refine RunsC.le ?_ (.skip (.skip .refl))
      refine while_ind (fun k st' => ∃ (q : Nat) (z : Int) (tt : Tok), q + k = m ∧ q < m ∧ z = -(q : Int) ∧ X1.drop (m - q) = Y1.drop (m - q) ∧ st' = (L, En.ns [("a", .str (tx X1) t2), ("b", .str (tx Y1) t3), ("max_cost", .int b v), ("pre", .int (p : Int) t'), ("post", .int z tt)]) :: st) ?_ m _ ⟨0, 0, tz, by omega, by omega, rfl, by rw [List.drop_eq_nil_of_le (by omega), List.drop_eq_nil_of_le (by omega)], rfl⟩
      rintro k' st' ⟨q, z, tt, hqk, hqm, hz, hdr, rfl⟩
      obtain ⟨cx, gx⟩ : ∃ c, X1[m - 1 - q]? = some c := ⟨_, List.getElem?_eq_getElem (by omega)⟩
      obtain ⟨cy, gy⟩ : ∃ c, Y1[m - 1 - q]? = some c := ⟨_, List.getElem?_eq_getElem (by omega)⟩
      have kx : ∀ {l : List Nat}, l.length = m → (!(l.take (l.length - q)).isEmpty) = true := fun {l} e => by
        rw [List.isEmpty_eq_false_iff.mpr (by intro e'; have := congrArg List.length e'; rw [List.length_take] at this; simp at this; omega)]; rfl
      refine Runs.joinS (fun r => r = (X1[m - 1 - q]? == Y1[m - 1 - q]?)) ?_ ?_
      · repeat' x_close
        refine R_orNone hz (fun hq' => R_Name (R_ldP rfl rfl fenv_L (by wrow_close) (by wrow_close) hq') rfl) fun w hw => ?_
        repeat' x_close
        refine R_cutq (by wrow_close) hz (by omega) (by omega) hw fun t5 => R_truthy_tx (by rw [List.length_take]; omega) ?_
        rw [kx hmX]
        refine ⟨fun _ => ?_, fun hh => (nomatch hh)⟩
        repeat' x_close
        refine R_orNone hz (fun hq' => R_Name (R_ldP rfl rfl fenv_L (by wrow_close) (by wrow_close) hq') rfl) fun w' hw' => ?_
        repeat' x_close
        refine R_cutq (by wrow_close) hz (by omega) (by omega) hw' fun t6 => R_truthy_tx (by rw [List.length_take]; omega) ?_
        rw [kx hmY]
        refine ⟨fun _ => ?_, fun hh => (nomatch hh)⟩
        repeat' x_close
        refine R_tx_back (q := q + 1) (by omega) (by omega) (by omega) (c := cx) (by rw [hmX, ← gx]; congr 1; omega) (by omega) (fun t7 => ?_) rfl
        repeat' x_close
        refine R_tx_back (q := q + 1) (by omega) (by omega) (by omega) (c := cy) (by rw [hmY, ← gy]; congr 1; omega) (by omega) (fun t7 => ?_) rfl
        repeat' x_close
        · rename_i hq
          rw [one_eq] at hq
          exact ⟨by rw [gx, gy]; exact hq.symm, .skip (.skip .refl)⟩
        · rename_i hq
          rw [one_eq] at hq
          exact ⟨by rw [gx, gy]; exact hq.symm, .skip (.skip .refl)⟩
      · rintro r rfl
        repeat' x_close
        · have hq2 : (X1[m - 1 - q]? == Y1[m - 1 - q]?) = true := by assumption
          have hcc : cx = cy := by
            rw [gx, gy] at hq2
            simpa using hq2
          have hm2 : q + 1 < m := by
            rcases Nat.lt_or_ge (q + 1) m with r | r
            · exact r
            · exfalso
              have e0 : m - 1 - q = 0 := by omega
              rw [e0] at gx gy
              exact h0 (by rw [gx, gy, hcc])
          refine ⟨_, .refl, k' - 1, by omega, q + 1, _, _, by omega, hm2, by omega, ?_, rfl⟩
          have e1 : m - (q + 1) = m - 1 - q := by omega
          have e2 : m - q = m - 1 - q + 1 := by omega
          rw [e2] at hdr
          have d1 : X1.drop (m - 1 - q) = cx :: X1.drop (m - 1 - q + 1) := by
            rw [List.drop_eq_getElem_cons (show m - 1 - q < X1.length by omega)]
            rw [List.getElem?_eq_getElem (show m - 1 - q < X1.length by omega)] at gx
            injection gx with gx
            rw [gx]
          have d2 : Y1.drop (m - 1 - q) = cy :: Y1.drop (m - 1 - q + 1) := by
            rw [List.drop_eq_getElem_cons (show m - 1 - q < Y1.length by omega)]
            rw [List.getElem?_eq_getElem (show m - 1 - q < Y1.length by omega)] at gy
            injection gy with gy
            rw [gy]
          rw [e1, d1, d2, hdr, hcc]
        · refine R_orNone hz (fun hq' => R_Name (R_ldP rfl rfl fenv_L (by wrow_close) (by wrow_close) hq') rfl) fun w hw => ?_
          repeat' x_close
          refine R_cutq (by wrow_close) hz (by omega) (by omega) hw fun t5 => ?_
          repeat' x_close
          refine R_orNone hz (fun hq' => R_Name (R_ldP rfl rfl fenv_L (by wrow_close) (by wrow_close) hq') rfl) fun w' hw' => ?_
          repeat' x_close
          refine R_cutq (by wrow_close) hz (by omega) (by omega) hw' fun t6 => ?_
          generalize hX2 : X1.take (X1.length - q) = X2 at *
          generalize hY2 : Y1.take (Y1.length - q) = Y2 at *
          obtain ⟨r, hr⟩ : ∃ r, r = m - q := ⟨_, rfl⟩
          have hrX : X2.length = r := by rw [← hX2, List.length_take]; omega
          have hrY : Y2.length = r := by rw [← hY2, List.length_take]; omega
          have hr1 : 1 ≤ r := by omega
          have hX21 : X2.length ≤ 1000 := by omega
          have hY21 : Y2.length ≤ 1000 := by omega
          have hneX : (!X2.isEmpty) = true := by
            cases X2 with
            | nil => simp at hrX; omega
            | cons a l => rfl
          have hneY : (!Y2.isEmpty) = true := by
            cases Y2 with
            | nil => simp at hrY; omega
            | cons a l => rfl
          have eL : ∀ {l : List Nat}, l.length = r → (l.length : Int) = (r : Int) := fun e => by rw [e]
          repeat' x_close
          · exact absurd (by assumption : (!!X2.isEmpty) = true) (by rw [hneX]; decide)
          · exact absurd (by assumption : (!!Y2.isEmpty) = true) (by rw [hneY]; decide)
          · exact absurd (by assumption : decide ((40 : Int) < (X2.length : Int)) = true) (by rw [decide_eq_false (by omega)]; decide)
          · exact absurd (by assumption : decide ((40 : Int) < (Y2.length : Int)) = true) (by rw [decide_eq_false (by omega)]; decide)
          · exact absurd (by assumption : decide ((Y2.length : Int) < (X2.length : Int)) = true) (by rw [decide_eq_false (by omega)]; decide)
          · exact absurd (by assumption : decide ((Y2.length : Int) < (X2.length : Int)) = true) (by rw [decide_eq_false (by omega)]; decide)
          · exact absurd (by assumption : decide (b < ((Y2.length : Int) - (X2.length : Int)) * 2) = true) (by rw [decide_eq_false (by omega)]; decide)
          obtain ⟨q1, q2, q3⟩ := rs_row X2.length (by omega) (by omega)
          refine R_range3 (by decide) q3 fun rg => ?_
          repeat' x_close
          refine R_list_range (by wrow_close) q1 q2 (by omega) fun rw vs hvs => ?_
          repeat' x_close
          refine R_iter_R (m := X2.length) (by wrow_close) rfl (by omega) (by omega) fun it => ?_
          have fin : ∀ zz, zz = dpP X2 Y2 b → ∀ t, Q (.int zz t) st := by
            rintro zz rfl t
            have e := h' p (m - q) (by omega) hxy (by rw [← List.drop_drop, ← List.drop_drop, hX, hY]; exact hdr) t
            rw [hX, hY, show X1.take (m - q) = X2 by rw [← hX2, hmX], show Y1.take (m - q) = Y2 by rw [← hY2, hmY]] at e
            exact e
          have lX : X2.all isL = true := by
            rw [← hX2, ← hX]
            exact List.all_eq_true.mpr fun c hc => List.all_eq_true.mp hlx c (List.mem_of_mem_drop (List.mem_of_mem_take hc))
          have lY : Y2.all isL = true := by
            rw [← hY2, ← hY]
            exact List.all_eq_true.mpr fun c hc => List.all_eq_true.mp hly c (List.mem_of_mem_drop (List.mem_of_mem_take hc))
          have hXY : Y2.length = X2.length := by omega
          have hz4 : X2.length ≤ 4 := by omega
          clear hX2 hY2 hX hY hdr hxy h' h hne ex ey kx h0 eL
          refine RunsC.le ?_ (.keep (.skip (.keep (.skip (.skip (.skip .refl))))))
          refine for_ind X2.length (fun i st' => ∃ ws tr, IntsAre ws (dpO X2 Y2 i).1 ∧ (∀ k < i, ¬ b < (dpO X2 Y2 (k + 1)).2.2.2) ∧ st' = (it, itR X2.length i) :: (rw, En.li ws) ::
            (L, En.ns [("a", .str (tx X2) t5), ("b", .str (tx Y2) t6), ("max_cost", .int b v), ("pre", .int (p : Int) t'), ("post", .int z tt), ("row", .ref rw), ("result", .int (dpO X2 Y2 i).2.2.1 tr)]) :: st) ?_ ?_ X2.length 0 _ (Nat.zero_add _) ⟨_, _, hvs, fun k hk => absurd hk (Nat.not_lt_zero _), rfl⟩
          · rintro i st' hi ⟨ws, tr, hws, hmn, rfl⟩
            refine R_next_R (by wrow_close) hi fun t8 => ⟨_, rfl, ?_⟩
            repeat' x_close
            obtain ⟨cb, gb⟩ : ∃ c, Y2[i]? = some c := ⟨_, List.getElem?_eq_getElem (by omega)⟩
            refine R_tx_at gb (by omega) (fun t9 => ?_) rfl
            repeat' x_close
            refine R_iter_R (m := X2.length) (by wrow_close) rfl (by omega) (by omega) fun it2 => ?_
            have eO : dpO X2 Y2 (i + 1) = dpI cb X2 (dpO X2 Y2 i).1 ((i : Int) * 2) X2.length := by rw [dpO, gb]; rfl
            generalize hR0 : (dpO X2 Y2 i).1 = row0 at *
            have hl0 : row0.length = X2.length := by rw [← hR0, dpO_len]
            refine RunsC.le ?_ (.keep (.skip .refl))
            refine for_ind X2.length (fun k st' => ∃ ws2 td tr tm, IntsAre ws2 (dpI cb X2 row0 ((i : Int) * 2) k).1 ∧ st' = (it2, itR X2.length k) :: (it, itR X2.length (i + 1)) :: (rw, En.li ws2) ::
              (L, En.ns [("a", .str (tx X2) t5), ("b", .str (tx Y2) t6), ("max_cost", .int b v), ("pre", .int (p : Int) t'), ("post", .int z tt), ("row", .ref rw), ("result", .int (dpI cb X2 row0 ((i : Int) * 2) k).2.2.1 tr), ("bindex", .int (i : Int) t8), ("bchar", .str ⟨#[cb]⟩ t9),
                ("distance", .int (dpI cb X2 row0 ((i : Int) * 2) k).2.1 td), ("minimum", .int (dpI cb X2 row0 ((i : Int) * 2) k).2.2.2 tm)]) :: st) ?_ ?_ X2.length 0 _ (Nat.zero_add _) ⟨_, _, _, _, hws, rfl⟩
            · rintro k st' hk ⟨ws2, td, tr2, tm, hws2, rfl⟩
              obtain ⟨ca, ga⟩ : ∃ c, X2[k]? = some c := ⟨_, List.getElem?_eq_getElem hk⟩
              obtain ⟨d, gd⟩ : ∃ d, (dpI cb X2 row0 ((i : Int) * 2) k).1[k]? = some d := ⟨_, List.getElem?_eq_getElem (by rw [dpI_len, hl0]; exact hk)⟩
              have eI : dpI cb X2 row0 ((i : Int) * 2) (k + 1) = ((dpI cb X2 row0 ((i : Int) * 2) k).1.set k (min (min (dpI cb X2 row0 ((i : Int) * 2) k).2.2.1 d + 2) ((dpI cb X2 row0 ((i : Int) * 2) k).2.1 + costP cb ca)), d, min (min (dpI cb X2 row0 ((i : Int) * 2) k).2.2.1 d + 2) ((dpI cb X2 row0 ((i : Int) * 2) k).2.1 + costP cb ca),
                  if min (min (dpI cb X2 row0 ((i : Int) * 2) k).2.2.1 d + 2) ((dpI cb X2 row0 ((i : Int) * 2) k).2.1 + costP cb ca) < (dpI cb X2 row0 ((i : Int) * 2) k).2.2.2 then min (min (dpI cb X2 row0 ((i : Int) * 2) k).2.2.1 d + 2) ((dpI cb X2 row0 ((i : Int) * 2) k).2.1 + costP cb ca) else (dpI cb X2 row0 ((i : Int) * 2) k).2.2.2) := by
                show dpS cb X2 k (dpI cb X2 row0 ((i : Int) * 2) k) = _
                unfold dpS
                rw [gd, ga]; rfl
              have hwl : ws2.length = X2.length := by rw [ints_len hws2, dpI_len, hl0]
              generalize dpI cb X2 row0 ((i : Int) * 2) k = σ at *
              obtain ⟨td2, hd2⟩ := ints_at hws2 gd
              refine R_next_R (by wrow_close) hk fun t10 => ⟨_, rfl, ?_⟩
              repeat' x_close
              refine R_tx_at ga (by omega) (fun t11 => ?_) rfl
              repeat' x_close
              refine C_cost (all_at lY gb) (all_at lX ga) fun t12 => ?_
              repeat' x_close
              refine R_item_li (by wrow_close) (by omega) (by omega) (x := .int d td2) (by rw [Int.toNat_natCast]; exact hd2) ?_ rfl
              repeat' x_close
              refine R_setItem (by wrow_close) (by omega) (by omega) (by rw [Int.toNat_natCast]; omega) ?_
              repeat' x_close
              · rename_i tq hlt
                refine ⟨_, .keep (.keep (.keep (.nsk 11 .refl))), ws2.set k (.int (min (min σ.2.2.1 d + 2) (σ.2.1 + costP cb ca)) tq), td2, tq, tq, by rw [eI]; exact ints_set hws2 _ _ _, ?_⟩
                rw [eI, if_pos (of_decide_eq_true hlt)]; rfl
              · rename_i tq hlt
                refine ⟨_, .keep (.keep (.keep (.nsk 11 .refl))), ws2.set k (.int (min (min σ.2.2.1 d + 2) (σ.2.1 + costP cb ca)) tq), td2, tq, tm, by rw [eI]; exact ints_set hws2 _ _ _, ?_⟩
                rw [eI, if_neg fun q => hlt (decide_eq_true q)]; rfl
            · rintro st' ⟨ws2, td, tr2, tm, hws2, rfl⟩
              rw [← eO] at hws2 ⊢
              refine R_end_R (by wrow_close) rfl ⟨rfl, ?_⟩
              repeat' x_close
              · rename_i hgt _ _
                refine ⟨_, .skip (.skip (.skip .refl)), fin _ ?_ _⟩
                rw [dpP, if_pos]
                exact List.any_eq_true.mpr ⟨i, List.mem_range.mpr hi, hgt⟩
              · rename_i hgt
                refine ⟨_, .keep (.keep (.nsk 7 .refl)), _, _, hws2, ?_, rfl⟩
                intro k hk
                rcases Nat.lt_succ_iff_lt_or_eq.mp hk with q | rfl
                · exact hmn k q
                · exact fun q => hgt (decide_eq_true q)
          · rintro st' ⟨ws, tr, hws, hmn, rfl⟩
            refine R_end_R (by wrow_close) rfl ⟨rfl, ?_⟩
            repeat' x_close
            refine ⟨_, .skip (.skip .refl), fin _ ?_ _⟩
            rw [dpP, if_neg]
            intro hq
            obtain ⟨k, hk, hlt⟩ := List.any_eq_true.mp hq
            exact hmn k (List.mem_range.mp hk) (of_decide_eq_true hlt)
/-- the spellings -/
def spl (m : Nat) : List Nat := (List.range 4).map fun j => chS (m.testBit j) j
def levChk (x y : List Nat) (b : Int) : Bool := (List.range 5).all fun p => (List.range (5 - p)).all fun r =>
  !(x.take p == y.take p && x.drop (p + r) == y.drop (p + r)) || (dpP ((x.drop p).take r) ((y.drop p).take r) b == (unP x y : Int)) || decide (b < min (dpP ((x.drop p).take r) ((y.drop p).take r) b) (unP x y : Int))
theorem lev_all : ((List.range 16).all fun i => (List.range 16).all fun j => levChk (spl i) (spl j) 1 && levChk (spl i) (spl j) 2) = true := by decide +kernel
theorem spl_facts (m : Nat) (h : m < 16) : (spl m).length = 4 ∧ (spl m).all isL = true ∧ (spl m).all (· < 128) = true := by
  revert m
  decide +kernel
theorem un_self (l : List Nat) : unP l l = 0 := by
  unfold unP
  induction l with
  | nil => rfl
  | cons a l ih => simpa [List.countP_cons] using ih
theorem lev_ok {i j : Nat} (hi : i < 16) (hj : j < 16) {b : Int} (hb : b = 1 ∨ b = 2) {p r : Nat} (hp : p + r ≤ 4) (e1 : (spl i).take p = (spl j).take p) (e2 : (spl i).drop (p + r) = (spl j).drop (p + r)) :
    dpP (((spl i).drop p).take r) (((spl j).drop p).take r) b = (unP (spl i) (spl j) : Int) ∨ b < min (dpP (((spl i).drop p).take r) (((spl j).drop p).take r) b) (unP (spl i) (spl j) : Int) := by
  have h := List.all_eq_true.mp (List.all_eq_true.mp lev_all i (List.mem_range.mpr hi)) j (List.mem_range.mpr hj)
  rw [Bool.and_eq_true] at h
  have h2 : levChk (spl i) (spl j) b = true := by
    rcases hb with rfl | rfl
    · exact h.1
    · exact h.2
  unfold levChk at h2
  have h3 := List.all_eq_true.mp (List.all_eq_true.mp h2 p (List.mem_range.mpr (by omega))) r (List.mem_range.mpr (by omega))
  rw [e1, e2, beq_self_eq_true, beq_self_eq_true, Bool.and_self, Bool.not_true, Bool.false_or, Bool.or_eq_true, beq_iff_eq, decide_eq_true_iff] at h3
  exact h3
theorem C_lev2 {V : Cx} {n : Nat} {st : Sto} {X : Value → Sto → Prop} {i j : Nat} {t u v : Tok} {b : Int} {Q : Value → Sto → Prop} (hi : i < 16) (hj : j < 16) (hb : b = 1 ∨ b = 2)
    (h : ∀ (z : Int) (t : Tok), (z = (unP (spl i) (spl j) : Int) ∨ b < min z (unP (spl i) (spl j) : Int)) → Q (.int z t) st) : Runs V (n + 2) (call (.ref 122) [.str (tx (spl i)) t, .str (tx (spl j)) u, .int b v]) st Q X := by
  have si := spl_facts i hi
  have sj := spl_facts j hj
  exact C_lev si.1 sj.1 si.2.1 sj.2.1 (by omega) (fun e t => h 0 t (.inl (by rw [e, un_self]; rfl))) fun p r hp e1 e2 t => h _ t (lev_ok hi hj hb hp e1 e2)
abbrev nameCode : Array Nat := #[14, 10, 4, 1, 1, 22, 0, 31, 16, 127, 0, 13, 7, 22, 0, 31, 16, 127, 0, 1]
abbrev valCode : Array Nat := #[14, 14, 4, 1, 1, 9, 4294966783, 0, 0, 2147483648, 0, 0, 0, 0, 0, 13, 11, 9, 4294966783, 0, 0, 2147483648, 0, 0, 0, 0, 0, 1]
theorem C_convN {V : Cx} {n : Nat} {st : Sto} {c : Nat} {x : Addr} {t : Tok} {Q : Value → Sto → Prop} (hc : failsAt nameCode c = true) (h : Q (.str ⟨#[c]⟩ t) st) :
    RunsK V (n + 3) (.ref 167) ⟨[.ref x, .str ⟨#[c]⟩ t], [("name", .bool true)]⟩ st Q := by
  refine R_G0 [("self", .ref x), ("value", .str ⟨#[c]⟩ t), ("name", .bool true)] st (by k_is) (by k_is) rfl rfl rfl rfl rfl rfl rfl ?hb fun L => ?_
  case hb => exact Runs.pure ⟨rfl, rfl⟩
  repeat' x_close
  refine R_peek (a := (.builtin "re.Pattern.search", [.ref 132])) (by kernel_rfl) ?_
  repeat' x_close
  refine R_search (code := nameCode) (by kernel_rfl) (by kernel_rfl) hc ?_
  repeat' x_close
  exact ⟨_, .skip .refl, h⟩
theorem C_convV {V : Cx} {n : Nat} {st : Sto} {c : Nat} {x : Addr} {t : Tok} {Q : Value → Sto → Prop} (hc : failsAt valCode c = true) (h : Q (.str ⟨#[c]⟩ t) st) :
    RunsK V (n + 3) (.ref 167) ⟨[.ref x, .str ⟨#[c]⟩ t], [("name", .bool false)]⟩ st Q := by
  refine R_G0 [("self", .ref x), ("value", .str ⟨#[c]⟩ t), ("name", .bool false)] st (by k_is) (by k_is) rfl rfl rfl rfl rfl rfl rfl ?hb fun L => ?_
  case hb => exact Runs.pure ⟨rfl, rfl⟩
  repeat' x_close
  refine R_peek (a := (.builtin "re.Pattern.search", [.ref 137])) (by kernel_rfl) ?_
  repeat' x_close
  refine R_search (code := valCode) (by kernel_rfl) (by kernel_rfl) hc ?_
  repeat' x_close
  exact ⟨_, .skip .refl, h⟩
theorem C_headers {V : Cx} {n : Nat} {st : Sto} {X : Value → Sto → Prop} {Q : Value → Sto → Prop} (h : ∀ x dx hl tk, Q (.ref x) ((x, instE 266 dx) :: (dx, dict1 V "_headers" tk (.ref hl)) :: (hl, En.list []) :: st)) :
    Runs V (n + 4) (call (.ref 266) []) st Q X := by
  refine R_make (fI := 160) (by k_is) (by k_is) (by k_is) fun x dx => ?_
  refine R_G0 [("self", .ref x), ("headers", .none)] ((x, instE 266 dx) :: (dx, dict0) :: st) (by k_is) (by k_is) rfl rfl rfl rfl rfl rfl rfl ?hb fun L => ?_
  case hb => exact R_peek (by kernel_rfl) ⟨rfl, rfl⟩
  repeat' x_close
  rename_i hl
  refine R_setAttr0 (C := 266) (dx := dx) (by wrow_close) (by k_is) (by k_is) (by k_is) (by k_is) fun tk => ⟨_, by wrow_close, ?_⟩
  repeat' x_close
  refine RC_empty (by wrow_close) (by wrow_close) ?_
  repeat' x_close
  exact ⟨_, .trans (.keep (.skip .refl)) (.perm ((List.Perm.swap _ _ _).trans (.cons _ (List.Perm.swap _ _ _))) .refl), rfl, h x dx hl tk⟩
/-- a letter put into the table -/
theorem C_addH {V : Cx} {n : Nat} {st : Sto} {c d : Nat} {x dx hl : Addr} {tk t u : Tok} {vs : List Value} {Q : Value → Sto → Prop} (hc : failsAt nameCode c = true) (hd' : failsAt valCode d = true) (hz : vs.length ≤ 1000)
    (hx : (x, instE 266 dx) ∈ st) (hdx : (dx, dict1 V "_headers" tk (.ref hl)) ∈ st) (h : ∀ a, ∃ st', SSet hl (.list vs) (.list (vs ++ [.ref a])) st st' ∧ Q .none ((a, .tup [.str ⟨#[c]⟩ t, .str ⟨#[d]⟩ u]) :: st')) :
    RunsK V (n + 5) (.ref 263) ⟨[.ref x, .str ⟨#[c]⟩ t, .str ⟨#[d]⟩ u], []⟩ st Q := by
  refine R_D0 (by k_is) (by k_is) rfl rfl rfl rfl ?_
  refine R_peekNew (o := emptyDict) (e := dict0) (g := fun D => Pure.pure ([("self", .ref x), ("_name", .str ⟨#[c]⟩ t), ("_value", .str ⟨#[d]⟩ u), ("_params", .ref D)] : List (Str × Value))) (by kernel_rfl) rfl rfl rfl fun D hD => Runs.pure ⟨rfl, rfl, rfl, fun L => ?_⟩
  repeat' x_close
  refine R_getMethod (C := 266) (dx := dx) (f := 167) (by wrow_close) (by wrow_close) (by k_is) (by k_is) (by k_is) (by k_is) rfl ?_
  dsimp only
  refine R_cwF1 (by k_is) rfl rfl ?_
  repeat' x_close
  refine RunsK.call (C_convV hd' ?_)
  repeat' x_close
  refine RC_noItems (by wrow_close) (by wrow_close) ?_
  repeat' x_close
  refine R_getAttr (C := 266) (dx := dx) (v := .ref hl) (attr := none) (by wrow_close) (by wrow_close) (by k_is) (by k_is) (by k_is) (by k_is) rfl rfl ?_
  obtain ⟨st1, hset, _⟩ := h 0
  have hhl := hset.mem
  repeat' x_close
  refine R_getMethod (C := 266) (dx := dx) (f := 167) (by wrow_close) (by wrow_close) (by k_is) (by k_is) (by k_is) (by k_is) rfl ?_
  dsimp only
  refine R_cwF1 (by k_is) rfl rfl ?_
  repeat' x_close
  refine RunsK.call (C_convN hc ?_)
  repeat' x_close
  refine R_join1 (x := ⟨#[d]⟩) (u := u) (by wrow_close) ⟨by decide, by show 1 ≤ 16; decide⟩ ?_
  repeat' x_close
  rename_i a
  obtain ⟨st2, hset2, hq⟩ := h a
  refine R_append (.there (.there (.there (.there (.there hset2))))) (by omega) ?_
  repeat' x_close
  exact ⟨_, .keep (.skip (.skip (.skip (.skip .refl)))), hq⟩
/-- one header: where it stands, its name's sign, its value's sign, their tokens -/
structure Hd where
  a : Addr
  c : Nat
  t : Tok
  d : Nat
  u : Tok
def Hd.tup (p : Hd) : En := .tup [.str ⟨#[p.c]⟩ p.t, .str ⟨#[p.d]⟩ p.u]
def hdV (l : List Hd) : List Value := l.map fun p => .ref p.a
def outV (k : Nat) (l : List Hd) : List Value := (l.filter fun p => p.c == k).map fun p => .str ⟨#[p.d]⟩ p.u
theorem outV_snoc (k : Nat) (l : List Hd) (p : Hd) : outV k (l ++ [p]) = outV k l ++ if p.c == k then [.str ⟨#[p.d]⟩ p.u] else [] := by
  unfold outV
  rw [List.filter_append, List.map_append]
  by_cases h : p.c == k <;> simp [h]
theorem outV_len (k : Nat) (l : List Hd) : (outV k l).length ≤ l.length := by
  unfold outV
  rw [List.length_map]
  exact List.length_filter_le _ _
theorem one_eq' (a b : Nat) : ((⟨#[a]⟩ : Str) == ⟨#[b]⟩) = (a == b) := by
  by_cases h : a = b
  · subst h; simp
  · have : (⟨#[a]⟩ : Str) ≠ ⟨#[b]⟩ := fun q => h (by cases q; rfl)
    rw [beq_eq_false_iff_ne.mpr this, beq_eq_false_iff_ne.mpr h]
/-- what is told under a name -/
theorem C_getAll {V : Cx} {n : Nat} {st : Sto} {c k : Nat} {x dx hl : Addr} {tk t : Tok} {hs : List Hd} {Q : Value → Sto → Prop} (hlo : Txt.lower ⟨#[c]⟩ = ⟨#[k]⟩) (hk : failsAt nameCode k = true) (hz : hs.length ≤ 1000)
    (hx : (x, instE 266 dx) ∈ st) (hdx : (dx, dict1 V "_headers" tk (.ref hl)) ∈ st) (hhl : (hl, En.list (hdV hs)) ∈ st) (hm : ∀ p ∈ hs, (p.a, p.tup) ∈ st) (hlow : ∀ p ∈ hs, Txt.lower ⟨#[p.c]⟩ = ⟨#[p.c]⟩)
    (h : ∀ D, Q (.ref D) ((D, En.list (outV k hs)) :: st)) : RunsK V (n + 5) (.ref 205) ⟨[.ref x, .str ⟨#[c]⟩ t], []⟩ st Q := by
  refine R_G1 [("self", .ref x), ("name", .str ⟨#[c]⟩ t)] [("self", .ref x)] "name" (some (.str ⟨#[c]⟩ t)) st (by k_is) (by k_is) rfl rfl rfl rfl rfl rfl rfl rfl ?hb fun L cn => ?_
  case hb => exact Runs.pure ⟨rfl, rfl⟩
  repeat' x_close
  refine R_getMethod (C := 266) (dx := dx) (f := 167) (by wrow_close) (by wrow_close) (by k_is) (by k_is) (by k_is) (by k_is) rfl ?_
  dsimp only
  refine R_cwF1 (by k_is) rfl rfl ?_
  repeat' x_close
  refine RunsK.call (C_convN hk ?_)
  repeat' x_close
  refine R_getAttr (C := 266) (dx := dx) (v := .ref hl) (attr := none) (by wrow_close) (by wrow_close) (by k_is) (by k_is) (by k_is) (by k_is) rfl rfl ?_
  repeat' x_close
  rename_i t2 it D C2
  refine comp_ind hs.length (fun i st' => st' = (C2, En.ns []) :: (D, En.list (outV k (hs.take i))) :: (it, itL hl i) :: (L, En.ns [("self", .ref x)]) :: (cn, En.cell (some (.str ⟨#[k]⟩ t2))) :: st) ?_ ?_ hs.length 0 _ (Nat.zero_add _) rfl
  · rintro i st' hi rfl
    have hp : hs[i]? = some hs[i] := List.getElem?_eq_getElem hi
    generalize hs[i] = p at hp
    have hpm := List.mem_of_getElem? hp
    have hpt := hm p hpm
    unfold Hd.tup at hpt
    have hlp := hlow p hpm
    have hol : (outV k (hs.take i)).length ≤ 1000000 := Nat.le_trans (outV_len _ _) (by rw [List.length_take]; omega)
    have hv : (hdV hs)[i]? = some (.ref p.a) := by unfold hdV; rw [List.getElem?_map, hp]; rfl
    have ho : outV k (hs.take (i + 1)) = outV k (hs.take i) ++ if p.c == k then [.str ⟨#[p.d]⟩ p.u] else [] := by
      rw [List.take_add_one, hp]
      exact outV_snoc _ _ _
    refine R_next_list (by wrow_close) (by wrow_close) hv ⟨_, rfl, ?_⟩
    repeat' x_close
    refine R_item_tup (j := 0) (by wrow_close) (by decide) (by decide) rfl rfl ?_ rfl
    repeat' x_close
    · rename_i hb _
      refine R_item_tup (j := 1) (by wrow_close) (by decide) (by decide) rfl rfl ?_ rfl
      repeat' x_close
      rw [one_eq'] at hb
      refine ⟨_, .ns0 .refl, ?_⟩
      rw [ho, if_pos hb]
    · rename_i hb
      rw [one_eq'] at hb
      refine ⟨_, .ns0 .refl, ?_⟩
      rw [ho, if_neg (by rw [hb]; decide), List.append_nil]
  · rintro st' rfl
    have hx2 : (hdV hs)[hs.length]? = none := List.getElem?_eq_none (by simp [hdV])
    refine R_end_list (by wrow_close) (by wrow_close) hx2 ⟨rfl, _, _, by wrow_close, ?_⟩
    rw [List.take_length]
    exact ⟨_, .keep (.skip (.skip .refl)), h D⟩
def hsE (l : List Hd) : Sto := l.map fun p => (p.a, p.tup)
theorem hsE_mem {l : List Hd} {p : Hd} (h : p ∈ l) : (p.a, p.tup) ∈ hsE l := List.mem_map.mpr ⟨p, h, rfl⟩
theorem fails_name (i : Nat) (h : i < 4) : failsAt nameCode (119 + i) = true := by
  match i, h with
  | 0, _ => decide +kernel
  | 1, _ => decide +kernel
  | 2, _ => decide +kernel
  | 3, _ => decide +kernel
theorem fails_val (i : Nat) (h : i < 4) : failsAt valCode (75 + i) = true := by
  match i, h with
  | 0, _ => decide +kernel
  | 1, _ => decide +kernel
  | 2, _ => decide +kernel
  | 3, _ => decide +kernel
theorem low_name (i : Nat) (h : i < 4) : Txt.lower ⟨#[119 + i]⟩ = ⟨#[119 + i]⟩ ∧ Txt.lower ⟨#[87 + i]⟩ = ⟨#[119 + i]⟩ := by
  match i, h with
  | 0, _ => decide +kernel
  | 1, _ => decide +kernel
  | 2, _ => decide +kernel
  | 3, _ => decide +kernel
theorem wxyz_at (i : Nat) (h : i < 4) : (Str.ofString "wxyz").cps[i]? = some (119 + i) ∧ (Str.ofString "WXYZ").cps[i]? = some (87 + i) := by
  match i, h with
  | 0, _ => decide +kernel
  | 1, _ => decide +kernel
  | 2, _ => decide +kernel
  | 3, _ => decide +kernel
/-- the headers that are in the table once i rows and k letters of the next one are in -/
def HdsOk (vals : Nat → List Value) (i k : Nat) (hs : List Hd) : Prop :=
  (∀ p ∈ hs, Txt.lower ⟨#[p.c]⟩ = ⟨#[p.c]⟩) ∧ hs.length ≤ 4 * i + k ∧ ∀ j, outV (119 + j) hs.reverse = if j < i then vals j else if j = i then (vals i).take k else []
theorem HdsOk.nil (vals : Nat → List Value) : HdsOk vals 0 0 [] := ⟨fun p hp => (by cases hp), Nat.le_refl _, fun j => by
  rw [if_neg (Nat.not_lt_zero j)]
  show [] = _
  split <;> simp⟩
theorem HdsOk.add {vals : Nat → List Value} {i k : Nat} {hs : List Hd} {p : Hd} (h : HdsOk vals i k hs) (hc : p.c = 119 + i) (hl : Txt.lower ⟨#[p.c]⟩ = ⟨#[p.c]⟩) (hv : (vals i)[k]? = some (.str ⟨#[p.d]⟩ p.u)) : HdsOk vals i (k + 1) (p :: hs) := by
  obtain ⟨h1, h2, h3⟩ := h
  refine ⟨fun q hq => ?_, by simp only [List.length_cons]; omega, fun j => ?_⟩
  · rcases List.mem_cons.mp hq with rfl | hq
    · exact hl
    · exact h1 q hq
  · rw [List.reverse_cons, outV_snoc, h3 j, hc]
    by_cases hj : j < i
    · rw [if_pos hj, if_pos hj, if_neg (by simp; omega), List.append_nil]
    · rw [if_neg hj, if_neg hj]
      by_cases he : j = i
      · subst he
        rw [if_pos rfl, if_pos rfl, if_pos (by simp), List.take_add_one, hv]; rfl
      · rw [if_neg he, if_neg he, if_neg (by simp; omega)]; rfl
theorem HdsOk.next {vals : Nat → List Value} {i m : Nat} {hs : List Hd} (h : HdsOk vals i m hs) (hm : (vals i).length = m) (h4 : m ≤ 4) : HdsOk vals (i + 1) 0 hs := by
  obtain ⟨h1, h2, h3⟩ := h
  refine ⟨h1, by omega, fun j => ?_⟩
  rw [h3 j]
  by_cases hj : j < i
  · rw [if_pos hj, if_pos (by omega)]
  · rw [if_neg hj]
    by_cases he : j = i
    · subst he
      rw [if_pos rfl, if_pos (by omega), ← hm, List.take_length]
    · rw [if_neg he, if_neg (by omega)]
      split <;> simp
theorem hdV_cons (p : Hd) (hs : List Hd) : hdV (p :: hs).reverse = hdV hs.reverse ++ [.ref p.a] := by simp [hdV]
theorem C_lists {V : Cx} {n : Nat} {st : Sto} {X : Value → Sto → Prop} {l : Addr} {rows : List (Addr × List Value)} {dss : List (List Nat)} {F : Nat} {Q : Value → Sto → Prop}
    (hl : (l, En.list (rowsV rows)) ∈ st) (hm : ∀ p ∈ rows, (p.1, En.list p.2) ∈ st) (hr : RowsAre (TS F) rows (dss.map fun ds => ds.map fun i => ⟨#[75 + i]⟩)) (h4 : dss.length = 4) (hd4 : ∀ ds ∈ dss, ds.length ≤ 4 ∧ ∀ i ∈ ds, i < 4)
    (h : ∀ D fl rows', rows'.map (·.2) = rows.map (·.2) → Q (.ref D) ((D, .list (rowsV rows')) :: (rowsE rows' ++ (fl ++ st)))) : Runs V (n + 7) (call (.ref 307) [.ref l]) st Q X := by
  refine R_fn1 [("near", .ref l)] [("near", .ref l)] "table" none (by k_is) (by k_is) rfl rfl rfl rfl rfl rfl rfl rfl rfl fun L c => ?_
  repeat' x_close
  refine C_headers fun x dx hl0 tk => ?_
  repeat' x_close
  rename_i tz z TO TI a2 a1 n12
  let vals : Nat → List Value := fun j => ((rows.map (·.2))[j]?).getD []
  refine for_ind 4 (fun i st' => ∃ hs va vb, HdsOk vals i 0 hs ∧ st' = zipSt z TO TI a2 a1 va vb (itL l i) (itS "wxyz" tz i) (hsE hs ++ ((x, instE 266 dx) :: (dx, dict1 V "_headers" tk (.ref hl0)) :: (hl0, En.list (hdV hs.reverse)) ::
    (L, En.ns [("near", .ref l)]) :: (c, En.cell (some (.ref x))) :: st))) ?_ ?_ 4 0 _ rfl ⟨[], _, _, HdsOk.nil vals, rfl⟩
  · rintro i st' hi ⟨hs, va, vb, hok, rfl⟩
    have hdi : dss[i]? = some (dss[i]'(by omega)) := List.getElem?_eq_getElem (by omega)
    generalize dss[i]'(by omega) = ds at hdi
    have hdm := hd4 ds (List.mem_of_getElem? hdi)
    obtain ⟨a, vs, e1, hv⟩ := hr.at (i := i) (y := ds.map fun i => ⟨#[75 + i]⟩) (by rw [List.getElem?_map, hdi]; rfl)
    have hav := hm _ (List.mem_of_getElem? e1)
    dsimp only at hav
    have hvi : vals i = vs := by show ((rows.map (·.2))[i]?).getD [] = vs; rw [List.getElem?_map, e1]; rfl
    have hvl : vs.length = ds.length := by rw [hv.length, List.length_map]
    have hlow := (low_name i hi).1
    with_reducible refine zn_SL (wxyz_at i hi).1 (rowsV_at e1) (by wrow_close) (by wrow_close) (by wrow_close) (by wrow_close) (by wrow_close) (by wrow_close) n12 fun t1 T F' f1 f2 => ⟨_, _, (by wrow_close), (by wrow_close), _, rfl, ?_⟩
    repeat' x_close
    rename_i it2
    refine RunsC.le ?_ (.keep (.skip .refl))
    refine for_ind ds.length (fun k st' => ∃ hs', HdsOk vals i k hs' ∧ st' = (it2, itL a k) :: zipSt z TO TI a2 a1 (.str ⟨#[119 + i]⟩ t1) (.ref a) (itL l (i + 1)) (itS "wxyz" tz (i + 1)) (hsE hs' ++ ((x, instE 266 dx) :: (dx, dict1 V "_headers" tk (.ref hl0)) :: (hl0, En.list (hdV hs'.reverse)) ::
      (L, En.ns [("near", .ref l), ("name", .str ⟨#[119 + i]⟩ t1), ("letters", .ref a)]) :: (c, En.cell (some (.ref x))) :: st))) ?_ ?_ ds.length 0 _ (Nat.zero_add _) ⟨hs, hok, rfl⟩
    · rintro k st' hk ⟨hs', hok', rfl⟩
      have hdk : ds[k]? = some ds[k] := List.getElem?_eq_getElem hk
      generalize ds[k] = d at hdk
      have hd4' := hdm.2 d (List.mem_of_getElem? hdk)
      obtain ⟨u, u1, u2, hu⟩ := hv.get (i := k) (x := ⟨#[75 + d]⟩) (by rw [List.getElem?_map, hdk]; rfl)
      have hhl := hok'.2.1
      have hfn := fails_name i hi
      have hfv := fails_val d hd4'
      refine R_next_list (by wrow_close) (by wrow_close) hu ⟨_, rfl, ?_⟩
      repeat' x_close
      refine R_getMethod (C := 266) (dx := dx) (f := 263) (by wrow_close) (by wrow_close) (by k_is) (by k_is) (by k_is) (by k_is) rfl ?_
      dsimp only
      repeat' x_close
      refine RunsK.call (C_addH hfn hfv (vs := hdV hs'.reverse) (by simp [hdV]; omega) (by wrow_close) (by wrow_close) fun a' => ⟨_, by wrow_close, ?_⟩)
      repeat' x_close
      refine ⟨_, .trans (SLe.back (l := [_, _, _, _, _, _])) (.keep (.keep (.keep (.keep (.keep (.keep (.keep (.under (.keep (.keep (.keep (.nsk 3 .refl)))))))))))), ⟨a', 119 + i, t1, 75 + d, u⟩ :: hs', ?_, ?_⟩
      · exact hok'.add rfl hlow (by rw [hvi]; exact hu)
      · rw [hdV_cons]; rfl
    · rintro st' ⟨hs', hok', rfl⟩
      have hx5 : vs[ds.length]? = none := List.getElem?_eq_none (by omega)
      refine R_end_list (by wrow_close) (by wrow_close) hx5 ⟨rfl, ?_⟩
      repeat' x_close
      refine ⟨_, .keep (.keep (.keep (.keep (.keep (.under (.keep (.keep (.keep (.nsk 1 .refl))))))))), hs', _, _, ?_, rfl⟩
      exact hok'.next (by rw [hvi, hvl]) hdm.1
  · rintro st' ⟨hs, va, vb, hok, rfl⟩
    have hx4 : (Str.ofString "wxyz").cps[4]? = none := by decide
    with_reducible refine ze_S hx4 (by wrow_close) (by wrow_close) (by wrow_close) ⟨rfl, ?_⟩
    repeat' x_close
    rename_i tz2 it D C2
    clear hx4
    have h4r : rows.length = 4 := by rw [hr.len, List.length_map, h4]
    have hov : ∀ j, j < 4 → outV (119 + j) hs.reverse = vals j := fun j hj => by rw [hok.2.2 j, if_pos hj]
    refine RunsC.le ?_ (.keep (.keep (.keep (.skip (.skip (.skip .refl))))))
    refine comp_ind 4 (fun i st' => ∃ rows', rows'.map (·.2) = (rows.map (·.2)).take i ∧ st' = (C2, En.ns []) :: (D, En.list (rowsV rows')) :: (it, itS "WXYZ" tz2 i) :: (rowsE rows' ++ (hsE hs ++ ((x, instE 266 dx) :: (dx, dict1 V "_headers" tk (.ref hl0)) :: (hl0, En.list (hdV hs.reverse)) ::
      (L, En.ns [("near", .ref l)]) :: (c, En.cell (some (.ref x))) :: st)))) ?_ ?_ 4 0 _ rfl ⟨[], rfl, rfl⟩
    · rintro i st' hi ⟨rows', hr', rfl⟩
      have hr'l : rows'.length = i := by have := congrArg List.length hr'; simpa [h4r, Nat.min_eq_left (Nat.le_of_lt hi)] using this
      have hrl : (rowsV rows').length ≤ 1000000 := by simp only [rowsV, List.length_map]; omega
      have hlow := (low_name i hi).2
      have hhl := hok.2.1
      refine R_next_str (by wrow_close) (wxyz_at i hi).2 fun u2 => ⟨_, rfl, ?_⟩
      repeat' x_close
      refine R_getMethod (C := 266) (dx := dx) (f := 205) (by wrow_close) (by wrow_close) (by k_is) (by k_is) (by k_is) (by k_is) rfl ?_
      dsimp only
      repeat' x_close
      refine RunsK.call (C_getAll (hs := hs.reverse) hlow (fails_name i hi) (by rw [List.length_reverse]; omega) (by wrow_close) (by wrow_close) (by wrow_close) (fun p hp => ?_) (fun p hp => hok.1 p (List.mem_reverse.mp hp)) fun D2 => ?_)
      · exact List.mem_cons_of_mem _ (List.mem_cons_of_mem _ (List.mem_cons_of_mem _ (List.mem_append_right _ (List.mem_append_left _ (hsE_mem (List.mem_reverse.mp hp))))))
      repeat' x_close
      refine ⟨_, .trans (SLe.back (l := _ :: _ :: _ :: rowsE rows')) (.ns0 .refl), rows' ++ [(D2, outV (119 + i) hs.reverse)], ?_, ?_⟩
      · rw [List.map_append, hr', hov i hi, List.take_add_one]
        congr 1
        show [vals i] = ((rows.map (·.2))[i]?).toList
        have : ∃ r, (rows.map (·.2))[i]? = some r := ⟨_, List.getElem?_eq_getElem (by rw [List.length_map, h4r]; exact hi)⟩
        obtain ⟨r, hr2⟩ := this
        show [((rows.map (·.2))[i]?).getD []] = _
        rw [hr2]; rfl
      · simp [rowsE, rowsV]
    · rintro st' ⟨rows', hr', rfl⟩
      have hx5 : (Str.ofString "WXYZ").cps[4]? = none := by decide
      refine R_end_str (by wrow_close) hx5 ⟨rfl, _, _, by wrow_close, ?_⟩
      refine ⟨_, .keep (.under (SLe.trans SLe.drop (.skip (.skip (.skip (.skip (.skip .refl))))))), h D [] rows' ?_⟩
      rw [hr', List.take_of_length_le (by rw [List.length_map, h4r]; exact Nat.le_refl _)]
/-- the places at which a group ends -/
def endsP (f s k : Int) : List Int := if k = 0 then [f, f + s, f + s + s, f + s + s + s] else [f, f + s]
/-- the groups told -/
def sizesP (f s k : Int) : List Int := if k = 0 then [f, s, s, s] else [f, s]
def preP (zs : List Int) (k : Nat) : List Int := (List.range k).map fun i => (zs.take (i + 1)).sum
theorem pre_ends (f s k : Int) : preP (sizesP f s k) (sizesP f s k).length = endsP f s k := by
  unfold sizesP endsP
  split
  · simp [preP, List.range_succ]
    omega
  · simp [preP, List.range_succ]
theorem pre_succ (zs : List Int) (k : Nat) (h : k < zs.length) : preP zs (k + 1) = preP zs k ++ [(zs.take k).sum + zs.getD k 0] := by
  unfold preP
  rw [List.range_succ, List.map_append]
  congr 1
  simp only [List.map_cons, List.map_nil]
  rw [List.take_add_one, List.sum_append, List.getD_eq_getElem?_getD, List.getElem?_eq_getElem h]
  simp
/-- what stands behind the two sizes -/
def tailIs (k : Int) (xs : List Value) : Prop := (k = 0 ∧ ∃ t u, xs = [.int 0 t, .int 1 u]) ∨ (k = 1 ∧ ∃ t u, xs = [.int 127 t, .int 1 u]) ∨ (k = 2 ∧ xs = [])
def letP (g : Nat → Bool) (i : Nat) : List Str := (List.range i).map fun j => ⟨#[chS (g j) j]⟩
theorem letP_succ (g : Nat → Bool) (i : Nat) : letP g (i + 1) = letP g i ++ [⟨#[chS (g i) i]⟩] := by
  unfold letP; rw [List.range_succ, List.map_append]; rfl
theorem join_let (g : Nat → Bool) : Txt.join "" (letP g 4) = spS g 4 := by
  have : ∀ b0 b1 b2 b3 : Bool, Txt.join "" [⟨#[chS b0 0]⟩, ⟨#[chS b1 1]⟩, ⟨#[chS b2 2]⟩, ⟨#[chS b3 3]⟩] = ⟨#[chS b0 0, chS b1 1, chS b2 2, chS b3 3]⟩ := by decide +kernel
  exact this (g 0) (g 1) (g 2) (g 3)
theorem StrsAre_app {vs : List Value} {ns : List Str} (h1 : StrsAre vs ns) {ws : List Value} {ms : List Str} (h2 : StrsAre ws ms) : StrsAre (vs ++ ws) (ns ++ ms) := by
  induction h1 with
  | nil => exact h2
  | cons x y _ ih => exact .cons x y ih
theorem C_cut {V : Cx} {n : Nat} {st : Sto} {X : Value → Sto → Prop} {a : Int} {u : Tok} {Q : Value → Sto → Prop} (hV : V.gp = AllBare)
    (h : ∀ t, Q (.str (spS (fun j => (endsP (1 + a.fmod 5) (1 + (a.fdiv 5).fmod 3) ((a.fdiv 15).fmod 3)).any (· == ((j + 1 : Nat) : Int))) 4) t) st) : Runs V (n + 6) (call (.ref 280) [.int a u]) st Q X := by
  refine R_fn1 [("number", .int a u)] [("number", .int a u)] "ends" none (by k_is) (by k_is) rfl rfl rfl rfl rfl rfl rfl rfl rfl fun L c => ?_
  repeat' x_close
  rename_i tf _ _ _ _ _ ts rowA _ _ l0 _ _ l1 l2 T0 _ _ _ tk
  have h5 : (0 : Int) < 5 := by decide
  have hf : 1 ≤ 1 + a.fmod 5 ∧ 1 + a.fmod 5 ≤ 5 := by rw [Int.fmod_eq_emod_of_nonneg _ (by decide)]; omega
  have hs : 1 ≤ 1 + (a.fdiv 5).fmod 3 ∧ 1 + (a.fdiv 5).fmod 3 ≤ 3 := by rw [Int.fmod_eq_emod_of_nonneg _ (by decide)]; omega
  have hk : 0 ≤ (a.fdiv 15).fmod 3 ∧ (a.fdiv 15).fmod 3 ≤ 2 := by rw [Int.fmod_eq_emod_of_nonneg _ (by decide)]; omega
  generalize 1 + a.fmod 5 = f at *
  generalize 1 + (a.fdiv 5).fmod 3 = sc at *
  generalize (a.fdiv 15).fmod 3 = kk at *
  refine Runs.join2 (fun v st' => ∃ row xs, v = .ref row ∧ tailIs kk xs ∧ st' = (row, En.list (.int f tf :: .int sc ts :: xs)) :: (L, En.ns [("number", .int a u)]) :: (c, En.cell none) :: st) ?_ ?_
  · have : kk = 0 ∨ kk = 1 ∨ kk = 2 := by omega
    rcases this with rfl | rfl | rfl
    · refine R_item_tup (j := 0) (by wrow_close) (by decide) (by decide) rfl rfl ?_ rfl
      refine R_list_add (by wrow_close) (by wrow_close) (Nat.le_of_ble_eq_true rfl) fun row => ⟨_, .keep (.skip (.skip (.skip (.skip (.skip .refl))))), row, _, rfl, .inl ⟨rfl, _, _, rfl⟩, rfl⟩
    · refine R_item_tup (j := 1) (by wrow_close) (by decide) (by decide) rfl rfl ?_ rfl
      refine R_list_add (by wrow_close) (by wrow_close) (Nat.le_of_ble_eq_true rfl) fun row => ⟨_, .keep (.skip (.skip (.skip (.skip (.skip .refl))))), row, _, rfl, .inr (.inl ⟨rfl, _, _, rfl⟩), rfl⟩
    · refine R_item_tup (j := 2) (by wrow_close) (by decide) (by decide) rfl rfl ?_ rfl
      refine R_list_add (by wrow_close) (by wrow_close) (Nat.le_of_ble_eq_true rfl) fun row => ⟨_, .keep (.skip (.skip (.skip (.skip (.skip .refl))))), row, _, rfl, .inr (.inr ⟨rfl, rfl⟩), rfl⟩
  · rintro v st' ⟨row, xs, rfl, hxs, rfl⟩
    iterate 21 x_close
    rename_i eA t0 _
    refine R_ForGen (f := 108) (vals := [.ref row]) [("grouping", .ref row)] [(row, En.list (.int f tf :: .int sc ts :: xs))] [(L, En.ns [("number", .int a u), ("row", .ref row), ("end", .int 0 t0)]), (c, En.cell (some (.ref eA))), (eA, En.list [])] st (sizesP f sc kk) (!(kk == 0))
      (fun k c' => k < 4 ∧ ∃ vs te, IntsAre vs (preP (sizesP f sc kk) k) ∧ c' = [(L, En.ns [("number", .int a u), ("row", .ref row), ("end", .int ((sizesP f sc kk).take k).sum te)]), (c, En.cell (some (.ref eA))), (eA, En.list vs)])
      (fun c' => ∃ vs te, IntsAre vs (preP (sizesP f sc kk) (sizesP f sc kk).length) ∧ c' = [(L, En.ns [("number", .int a u), ("row", .ref row), ("end", .int (sizesP f sc kk).sum te)]), (c, En.cell (some (.ref eA))), (eA, En.list vs)])
      hV (by k_is) (by k_is) (by k_is) rfl rfl rfl rfl (fun _ => rfl) rfl rfl rfl rfl rfl (fun _ => rfl) ?hx ?hargs ?hst ?hc0 ?hCa ?hfin ?hseg ?step ?hQ
    case hx => repeat' x_close
               rfl
    case hargs => repeat' x_close
                  rfl
    case hst => exact .skip (.trans (.perm (List.Perm.swap _ _ _) .refl) (.keep (.trans (.perm (List.Perm.swap _ _ _) .refl) (.keep (.perm (List.Perm.swap _ _ _) .refl)))))
    case hc0 => exact ⟨by decide, [], t0, .nil, rfl⟩
    case hCa =>
      rintro k c' ⟨_, vs, te, _, rfl⟩ q hq
      simp only [List.mem_cons, List.not_mem_nil, or_false] at hq
      rcases hq with rfl | rfl | rfl <;> simp
    case hfin =>
      rintro c' ⟨h4, _⟩
      by_cases q : kk = 0
      · subst q; exact absurd h4 (by unfold sizesP; simp)
      · simpa using q
    case step =>
      rintro ga k c' G fr' hk' ⟨h4, vs, te, hvs, rfl⟩ t
      generalize V.g G = V'
      simp only [List.cons_append, List.nil_append]
      have hvl : vs.length = k := by rw [ints_len hvs]; simp [preP]
      have hvz : vs.length ≤ 1000000 := by omega
      repeat' x_close
      refine C_add fun t2 => ?_
      repeat' x_close
      have hl1 : ∀ x : Value, (vs ++ [x]).length = k + 1 := fun x => by rw [List.length_append, hvl]; rfl
      refine R_len_list (by wrow_close) (by rw [hl1]; omega) fun t3 => ?_
      rw [hl1]
      have hvs' : ∀ t, IntsAre (vs ++ [.int (((sizesP f sc kk).take k).sum + (sizesP f sc kk).getD k 0) t]) (preP (sizesP f sc kk) (k + 1)) := fun t => by
        rw [pre_succ _ _ hk']
        exact IntsAre_app hvs (.cons _ t .nil)
      have hsum : ((sizesP f sc kk).take k).sum + (sizesP f sc kk).getD k 0 = ((sizesP f sc kk).take (k + 1)).sum := by
        rw [List.take_add_one, List.sum_append, List.getD_eq_getElem?_getD, List.getElem?_eq_getElem hk']
        simp
      repeat' x_close
      · rename_i hb
        have hk3 : k + 1 = 4 := by have := eq_of_beq hb; omega
        have hz4 : (sizesP f sc kk).length = k + 1 := by
          have : (sizesP f sc kk).length ≤ 4 := by unfold sizesP; split <;> simp
          omega
        have hsum4 : ((sizesP f sc kk).take k).sum + (sizesP f sc kk).getD k 0 = (sizesP f sc kk).sum := by rw [hsum, ← hz4, List.take_length]
        have hv4 := hvs' t2
        rw [← hz4] at hv4
        rw [hsum4] at hv4 ⊢
        exact ⟨[(L, En.ns [("number", .int a u), ("row", .ref row), ("end", .int (sizesP f sc kk).sum t2)]), (c, En.cell (some (.ref eA))), (eA, En.list _)], .nsk 3 .refl, _, t2, hv4, rfl⟩
      · rename_i hb
        have hv4 := hvs' t2
        rw [hsum] at hv4 ⊢
        exact ⟨[(L, En.ns [("number", .int a u), ("row", .ref row), ("end", .int ((sizesP f sc kk).take (k + 1)).sum t2)]), (c, En.cell (some (.ref eA))), (eA, En.list _)], .nsk 3 .refl, by
          rcases Nat.lt_or_ge (k + 1) 4 with q | q
          · exact q
          · exact absurd (show ((k + 1 : Nat) : Int) == 4 by rw [show k + 1 = 4 by omega]; rfl) hb, _, t2, hv4, rfl⟩
    case hQ =>
      intro ga og c' hc'
      have hc2 : ∃ vs te, IntsAre vs (endsP f sc kk) ∧ c' = [(L, En.ns [("number", .int a u), ("row", .ref row), ("end", .int (sizesP f sc kk).sum te)]), (c, En.cell (some (.ref eA))), (eA, En.list vs)] := by
        rcases hc' with ⟨vs, te, h1, h2⟩ | ⟨_, vs, te, h1, h2⟩
        · exact ⟨vs, te, by rw [← pre_ends]; exact h1, h2⟩
        · exact ⟨vs, te, by rw [← pre_ends]; exact h1, by rw [List.take_length] at h2; exact h2⟩
      obtain ⟨vs, te, hvs, rfl⟩ := hc2
      simp only [List.cons_append, List.nil_append]
      repeat' x_close
      rename_i q1 q2 q3 q4 P tz z TO TI a2 a1 n12 D C2
      clear hc'
      let g : Nat → Bool := fun j => (endsP f sc kk).any (· == ((j + 1 : Nat) : Int))
      refine comp_ind 4 (fun i st' => ∃ ws va vb, StrsAre ws (letP g i) ∧ st' = (C2, En.ns []) :: (D, En.list ws) :: zipSt z TO TI a2 a1 va vb (itS "abcd" tz i) (itT P i) ((P, En.tup [.int 1 q1, .int 2 q2, .int 3 q3, .int 4 q4]) ::
          (L, En.ns [("number", .int a u), ("row", .ref row), ("end", .int (sizesP f sc kk).sum te)]) :: (c, En.cell (some (.ref eA))) :: (eA, En.list vs) :: (ga, En.ob og) :: st)) ?_ ?_ 4 0 _ rfl ⟨[], _, _, .nil, rfl⟩
      · rintro i st' hi ⟨ws, va, vb, hws, rfl⟩
        obtain ⟨tp, hp⟩ : ∃ tp, [Value.int 1 q1, .int 2 q2, .int 3 q3, .int 4 q4][i]? = some (.int (i + 1 : Nat) tp) := by
          match i, hi with
          | 0, _ => exact ⟨_, rfl⟩
          | 1, _ => exact ⟨_, rfl⟩
          | 2, _ => exact ⟨_, rfl⟩
          | 3, _ => exact ⟨_, rfl⟩
        have hc : (Str.ofString "abcd").cps[i]? = some (97 + i) := by
          rw [abcd_cps]
          match i, hi with
          | 0, _ => rfl
          | 1, _ => rfl
          | 2, _ => rfl
          | 3, _ => rfl
        have hup := up_one i hi
        have hwl : ws.length ≤ 1000000 := by rw [strs_len hws]; simp [letP]; omega
        with_reducible refine zn_TS hp hc (by wrow_close) (by wrow_close) (by wrow_close) (by wrow_close) (by wrow_close) (by wrow_close) n12 fun t2 T F _ _ => ⟨_, _, (by wrow_close), (by wrow_close), _, rfl, ?_⟩
        repeat' x_close
        refine R_in_ints (by wrow_close) hvs ?_
        repeat' x_close
        · rename_i hb _
          refine ⟨_, .skip (.ns0 .refl), _, _, _, ?_, rfl⟩
          rw [letP_succ, show chS (g i) i = 65 + i by rw [chS, if_pos hb]]
          exact StrsAre_app hws (.cons _ _ .nil)
        · rename_i hb
          refine ⟨_, .skip (.ns0 .refl), _, _, _, ?_, rfl⟩
          rw [letP_succ, show chS (g i) i = 97 + i by rw [chS, if_neg hb]]
          exact StrsAre_app hws (.cons _ _ .nil)
      · rintro st' ⟨ws, va, vb, hws, rfl⟩
        have hx : [Value.int 1 q1, .int 2 q2, .int 3 q3, .int 4 q4][4]? = none := rfl
        with_reducible refine ze_T hx (by wrow_close) (by wrow_close) (by wrow_close) (by wrow_close) ⟨rfl, _, _, by wrow_close, ?_⟩
        repeat' x_close
        refine R_join (by wrow_close) hws (by decide) (by simp [letP, List.range_succ, Str.length]) fun t4 => ?_
        repeat' x_close
        rw [join_let]
        exact ⟨st, .skip (.skip (.skip (.skip (.skip (.skip (.skip (.skip (.skip .refl)))))))), h _⟩
    case hseg =>
      intro L' A' h₀ ex s'' G cst rm hL hgx I hh hex
      obtain ⟨rest, ended, hz, hen, hrest⟩ : ∃ rest ended, sizesP f sc kk = f :: sc :: rest ∧ (!(kk == 0)) = ended ∧ ((ended = false ∧ rest = [sc, sc] ∧ ∃ t u, xs = [.int 0 t, .int 1 u]) ∨ (ended = true ∧ rest = [] ∧ ((∃ t u, xs = [.int 127 t, .int 1 u]) ∨ xs = []))) := by
        rcases hxs with ⟨rfl, hx⟩ | ⟨rfl, hx⟩ | ⟨rfl, hx⟩
        · exact ⟨_, _, rfl, rfl, .inl ⟨rfl, rfl, hx⟩⟩
        · exact ⟨_, _, rfl, rfl, .inr ⟨rfl, rfl, .inl hx⟩⟩
        · exact ⟨_, _, rfl, rfl, .inr ⟨rfl, rfl, .inr hx⟩⟩
      rw [hz, hen]
      clear hxs h
      have I0 : Inv (V.g (· = s''.gens)) s'' ((L', En.ns [("grouping", .ref row)]) :: (row, En.list (.int f tf :: .int sc ts :: xs)) :: fullOf V.B h₀ s''.heap ex) := Inv.full I hex
      refine seg_func ?_
      refine seg_stmt (V := V.g (· = s''.gens)) (n := n + 2) (over_room rm rfl (Nat.le_of_ble_eq_true rfl) (Nat.le_of_ble_eq_true rfl)) I0 (Q := fun f' st' => f' = .next ∧ st' = (L', En.ns [("grouping", .ref row), ("last_interval", .none)]) :: (row, En.list (.int f tf :: .int sc ts :: xs)) :: fullOf V.B h₀ s''.heap ex) ?_ fun fl s1 st1 I1 ht1 q => ?_
      · repeat' x_close
        rfl
      obtain ⟨rfl, rfl⟩ := q
      refine seg_execs_cons (seg_For (V := V.g (· = s''.gens)) (n := n + 2) (over_room rm rfl (Nat.le_of_ble_eq_true rfl) (Nat.le_of_ble_eq_true rfl)) I1 (fun _ => rfl) (Q := fun v st' => ∃ it, v = .ref it ∧ st' = (it, itL row 0) :: (L', En.ns [("grouping", .ref row), ("last_interval", .none)]) :: (row, En.list (.int f tf :: .int sc ts :: xs)) :: fullOf V.B h₀ s''.heap ex) ?_ fun v s2 st2 I2 ht2 q p => ?_)
      · repeat' x_close
        rename_i it
        exact ⟨it, rfl, rfl⟩
      obtain ⟨it, rfl, rfl⟩ := q
      have hit : it ∈ ex ∨ h₀.get? it = none := by
        have I2' := I2
        rw [hh] at I2'
        exact gst_new (gst := [(L', _), (row, _)]) I2'
      have hrow : row ∈ ex := hgx _ List.mem_cons_self
      show SegV V A' (genE V h₀ ex ended) (genY V h₀ ex ended (f :: sc :: rest)) (rest.length + 1 + 1) s'' ?c ?dn ?fs s2
      have stage2 : ∀ s₀ s, Inv (V.g (· = s₀.gens)) s ((it, itL row 2) :: (L', En.ns [("grouping", .ref row), ("last_interval", .int sc ts), ("interval", .int sc ts)]) :: (row, En.list (.int f tf :: .int sc ts :: xs)) :: fullOf V.B h₀ s₀.heap ex) → s₀.toks ≤ s.toks →
          SegV V A' (genE V h₀ ex ended) (genY V h₀ ex ended (f :: sc :: rest)) (rest.length) s₀ ?c ?dn ?fs s := by
        intro s₀ s Is ht
        rcases hrest with ⟨rfl, rfl, tz, tu, rfl⟩ | ⟨rfl, rfl, ⟨tz, tu, rfl⟩ | rfl⟩
        · skip
          refine seg_forTurn (V := V.g (· = s₀.gens)) (n := n + 2) (over_room rm rfl (Nat.le_of_ble_eq_true rfl) (Nat.le_of_ble_eq_true rfl)) Is (Q := fun r st' => r = some (.int 0 tz) ∧ st' = (it, itL row 3) :: (L', En.ns [("grouping", .ref row), ("last_interval", .int sc ts), ("interval", .int 0 tz)]) :: (row, En.list (.int f tf :: .int sc ts :: [.int 0 tz, .int 1 tu])) :: fullOf V.B h₀ s₀.heap ex) ?_ fun r s1 st1 I1 ht1 q => ?_
          · refine R_next_list (by wrow_close) (by wrow_close) rfl ?_
            repeat' x_close
            rfl
          obtain ⟨rfl, rfl⟩ := q
          refine seg_stmt (V := V.g (· = s₀.gens)) (n := n + 2) (over_room rm rfl (Nat.le_of_ble_eq_true rfl) (Nat.le_of_ble_eq_true rfl)) I1 (Q := fun f' st' => f' = .next ∧ st' = (it, itL row 3) :: (L', En.ns [("grouping", .ref row), ("last_interval", .int sc ts), ("interval", .int 0 tz)]) :: (row, En.list (.int f tf :: .int sc ts :: [.int 0 tz, .int 1 tu])) :: fullOf V.B h₀ s₀.heap ex) ?_ fun fl s2 st2 I2 ht2 q => ?_
          · repeat' x_close
            all_goals first | rfl | exact absurd (eq_of_beq (by assumption : (_ == (127 : Int)) = true)) (by omega)
          obtain ⟨rfl, rfl⟩ := q
          refine seg_execs_cons (seg_If (V := V.g (· = s₀.gens)) (n := n + 2) (over_room rm rfl (Nat.le_of_ble_eq_true rfl) (Nat.le_of_ble_eq_true rfl)) I2 (Q := fun b st' => b = true ∧ st' = (it, itL row 3) :: (L', En.ns [("grouping", .ref row), ("last_interval", .int sc ts), ("interval", .int 0 tz)]) :: (row, En.list (.int f tf :: .int sc ts :: [.int 0 tz, .int 1 tu])) :: fullOf V.B h₀ s₀.heap ex) ?_ fun b s3 st3 I3 ht3 q => ?_)
          · repeat' x_close
            exact ⟨rfl, rfl⟩
          obtain ⟨rfl, rfl⟩ := q
          refine seg_stmt (V := V.g (· = s₀.gens)) (n := n + 2) (over_room rm rfl (Nat.le_of_ble_eq_true rfl) (Nat.le_of_ble_eq_true rfl)) I3 (Q := fun f' st' => f' = .next ∧ st' = (it, itL row 3) :: (L', En.ns [("grouping", .ref row), ("last_interval", .int sc ts), ("interval", .int 0 tz)]) :: (row, En.list (.int f tf :: .int sc ts :: [.int 0 tz, .int 1 tu])) :: fullOf V.B h₀ s₀.heap ex) ?_ fun fl s4 st4 I4 ht4 q => ?_
          · repeat' x_close
            all_goals first | rfl | exact absurd (by assumption) Bool.false_ne_true
          obtain ⟨rfl, rfl⟩ := q
          refine seg_execs_cons (seg_While fun p => ?_)
          show SegV V A' (genE V h₀ ex false) (genY V h₀ ex false (f :: sc :: [sc, sc])) 2 s₀ ?c2 ?dn2 ?fs2 s4
          have hexw : ∀ q ∈ [(it, itL row 3), (L', En.ns [("grouping", .ref row), ("last_interval", .int sc ts), ("interval", .int 0 tz)]), (row, En.list (.int f tf :: .int sc ts :: [.int 0 tz, .int 1 tu]))], q.1 ∈ ex ∨ h₀.get? q.1 = none := fun q hq => by
            simp only [List.mem_cons, List.not_mem_nil, or_false] at hq
            rcases hq with rfl | rfl | rfl
            · exact hit
            · exact .inl hL
            · exact .inl hrow
          have w1 : ∀ s₀ s, Inv (V.g (· = s₀.gens)) s ((it, itL row 3) :: (L', En.ns [("grouping", .ref row), ("last_interval", .int sc ts), ("interval", .int 0 tz)]) :: (row, En.list (.int f tf :: .int sc ts :: [.int 0 tz, .int 1 tu])) :: fullOf V.B h₀ s₀.heap ex) → s₀.toks ≤ s.toks →
              SegV V A' (genE V h₀ ex false) (genY V h₀ ex false (f :: sc :: [sc, sc])) (0 + 1) s₀ ?c2 ?dn2 ?fs2 s := by
            intro s₀ s Is ht
            refine seg_whileTrue (V := V.g (· = s₀.gens)) (n := n + 2) (st0 := (it, itL row 3) :: (L', En.ns [("grouping", .ref row), ("last_interval", .int sc ts), ("interval", .int 0 tz)]) :: (row, En.list (.int f tf :: .int sc ts :: [.int 0 tz, .int 1 tu])) :: fullOf V.B h₀ s₀.heap ex) (over_room rm rfl (Nat.le_of_ble_eq_true rfl) (Nat.le_of_ble_eq_true rfl)) Is ?_ fun s1 I1 ht1 => ?_
            · repeat' x_close
              all_goals first | rfl | exact ⟨rfl, rfl⟩
            refine seg_execs_cons (seg_give (n := n + 2) (z := sc) (gst := [(it, itL row 3), (L', En.ns [("grouping", .ref row), ("last_interval", .int sc ts), ("interval", .int 0 tz)]), (row, En.list (.int f tf :: .int sc ts :: [.int 0 tz, .int 1 tu]))]) (over_room rm rfl (Nat.le_of_ble_eq_true rfl) (Nat.le_of_ble_eq_true rfl)) I1 (Nat.le_trans ht ht1) ?_ rfl hexw rfl rfl rfl rfl rfl fun hm s₀ G cst I4 => ?_)
            · repeat' x_close
              exact ⟨_, rfl, rfl⟩
            exact absurd hm (by simp)
          have w2 : ∀ s₀ s, Inv (V.g (· = s₀.gens)) s ((it, itL row 3) :: (L', En.ns [("grouping", .ref row), ("last_interval", .int sc ts), ("interval", .int 0 tz)]) :: (row, En.list (.int f tf :: .int sc ts :: [.int 0 tz, .int 1 tu])) :: fullOf V.B h₀ s₀.heap ex) → s₀.toks ≤ s.toks →
              SegV V A' (genE V h₀ ex false) (genY V h₀ ex false (f :: sc :: [sc, sc])) (1 + 1) s₀ ?c2 ?dn2 ?fs2 s := by
            intro s₀ s Is ht
            refine seg_whileTrue (V := V.g (· = s₀.gens)) (n := n + 2) (st0 := (it, itL row 3) :: (L', En.ns [("grouping", .ref row), ("last_interval", .int sc ts), ("interval", .int 0 tz)]) :: (row, En.list (.int f tf :: .int sc ts :: [.int 0 tz, .int 1 tu])) :: fullOf V.B h₀ s₀.heap ex) (over_room rm rfl (Nat.le_of_ble_eq_true rfl) (Nat.le_of_ble_eq_true rfl)) Is ?_ fun s1 I1 ht1 => ?_
            · repeat' x_close
              all_goals first | rfl | exact ⟨rfl, rfl⟩
            refine seg_execs_cons (seg_give (n := n + 2) (z := sc) (gst := [(it, itL row 3), (L', En.ns [("grouping", .ref row), ("last_interval", .int sc ts), ("interval", .int 0 tz)]), (row, En.list (.int f tf :: .int sc ts :: [.int 0 tz, .int 1 tu]))]) (over_room rm rfl (Nat.le_of_ble_eq_true rfl) (Nat.le_of_ble_eq_true rfl)) I1 (Nat.le_trans ht ht1) ?_ rfl hexw rfl rfl rfl rfl rfl fun hm s₀ G cst I4 => ?_)
            · repeat' x_close
              exact ⟨_, rfl, rfl⟩
            exact seg_again rfl (w1 s₀ _ (Inv.full I4 hexw) (Nat.le_refl _))
          exact w2 s₀ s4 I4 (Nat.le_trans ht (Nat.le_trans ht1 (Nat.le_trans ht2 (Nat.le_trans ht3 ht4))))
        · skip
          refine seg_forTurn (V := V.g (· = s₀.gens)) (n := n + 2) (over_room rm rfl (Nat.le_of_ble_eq_true rfl) (Nat.le_of_ble_eq_true rfl)) Is (Q := fun r st' => r = some (.int 127 tz) ∧ st' = (it, itL row 3) :: (L', En.ns [("grouping", .ref row), ("last_interval", .int sc ts), ("interval", .int 127 tz)]) :: (row, En.list (.int f tf :: .int sc ts :: [.int 127 tz, .int 1 tu])) :: fullOf V.B h₀ s₀.heap ex) ?_ fun r s1 st1 I1 ht1 q => ?_
          · refine R_next_list (by wrow_close) (by wrow_close) rfl ?_
            repeat' x_close
            rfl
          obtain ⟨rfl, rfl⟩ := q
          refine seg_execs_cons (seg_If (V := V.g (· = s₀.gens)) (n := n + 2) (over_room rm rfl (Nat.le_of_ble_eq_true rfl) (Nat.le_of_ble_eq_true rfl)) I1 (Q := fun b st' => b = true ∧ st' = (it, itL row 3) :: (L', En.ns [("grouping", .ref row), ("last_interval", .int sc ts), ("interval", .int 127 tz)]) :: (row, En.list (.int f tf :: .int sc ts :: [.int 127 tz, .int 1 tu])) :: fullOf V.B h₀ s₀.heap ex) ?_ fun b s3 st3 I3 ht3 q => ?_)
          · repeat' x_close
            exact ⟨rfl, rfl⟩
          obtain ⟨rfl, rfl⟩ := q
          refine seg_stmt (V := V.g (· = s₀.gens)) (n := n + 2) (over_room rm rfl (Nat.le_of_ble_eq_true rfl) (Nat.le_of_ble_eq_true rfl)) I3 (Q := fun f' st' => f' = .ret .none ∧ st' = (it, itL row 3) :: (L', En.ns [("grouping", .ref row), ("last_interval", .int sc ts), ("interval", .int 127 tz)]) :: (row, En.list (.int f tf :: .int sc ts :: [.int 127 tz, .int 1 tu])) :: fullOf V.B h₀ s₀.heap ex) ?_ fun fl s4 st4 I4 ht4 q => ?_
          · repeat' x_close
            rfl
          obtain ⟨rfl, rfl⟩ := q
          refine seg_leaf (.ok (.ret .none)) ?_
          exact seg_last (gst := [(it, itL row 3), (L', En.ns [("grouping", .ref row), ("last_interval", .int sc ts), ("interval", .int 127 tz)]), (row, En.list (.int f tf :: .int sc ts :: [.int 127 tz, .int 1 tu]))]) I4 (Nat.le_trans ht (Nat.le_trans ht1 (Nat.le_trans ht3 ht4))) rfl rfl
        · skip
          refine seg_forTurn (V := V.g (· = s₀.gens)) (n := n + 2) (over_room rm rfl (Nat.le_of_ble_eq_true rfl) (Nat.le_of_ble_eq_true rfl)) Is (Q := fun r st' => r = none ∧ st' = (L', En.ns [("grouping", .ref row), ("last_interval", .int sc ts), ("interval", .int sc ts)]) :: (row, En.list (.int f tf :: .int sc ts :: [])) :: fullOf V.B h₀ s₀.heap ex) ?_ fun r s1 st1 I1 ht1 q => ?_
          · refine R_end_list (by wrow_close) (by wrow_close) rfl ?_
            exact ⟨rfl, rfl⟩
          obtain ⟨rfl, rfl⟩ := q
          exact seg_last (gst := [(L', En.ns [("grouping", .ref row), ("last_interval", .int sc ts), ("interval", .int sc ts)]), (row, En.list (.int f tf :: .int sc ts :: []))]) I1 (Nat.le_trans ht ht1) rfl rfl
      have stage1 : ∀ s₀ s, Inv (V.g (· = s₀.gens)) s ((it, itL row 1) :: (L', En.ns [("grouping", .ref row), ("last_interval", .int f tf), ("interval", .int f tf)]) :: (row, En.list (.int f tf :: .int sc ts :: xs)) :: fullOf V.B h₀ s₀.heap ex) → s₀.toks ≤ s.toks →
          SegV V A' (genE V h₀ ex ended) (genY V h₀ ex ended (f :: sc :: rest)) (rest.length + 1) s₀ ?c ?dn ?fs s := by
        intro s₀ s Is ht
        have hexg : ∀ q ∈ [(it, itL row 2), (L', En.ns [("grouping", .ref row), ("last_interval", .int f tf), ("interval", .int sc ts)]), (row, En.list (.int f tf :: .int sc ts :: xs))], q.1 ∈ ex ∨ h₀.get? q.1 = none := fun q hq => by
          simp only [List.mem_cons, List.not_mem_nil, or_false] at hq
          rcases hq with rfl | rfl | rfl
          · exact hit
          · exact .inl hL
          · exact .inl hrow
        refine seg_forTurn (V := V.g (· = s₀.gens)) (n := n + 2) (over_room rm rfl (Nat.le_of_ble_eq_true rfl) (Nat.le_of_ble_eq_true rfl)) Is (Q := fun r st' => r = some (.int sc ts) ∧ st' = (it, itL row 2) :: (L', En.ns [("grouping", .ref row), ("last_interval", .int f tf), ("interval", .int sc ts)]) :: (row, En.list (.int f tf :: .int sc ts :: xs)) :: fullOf V.B h₀ s₀.heap ex) ?_ fun r s1 st1 I1 ht1 q => ?_
        · refine R_next_list (by wrow_close) (by wrow_close) rfl ?_
          repeat' x_close
          rfl
        obtain ⟨rfl, rfl⟩ := q
        refine seg_stmt (V := V.g (· = s₀.gens)) (n := n + 2) (over_room rm rfl (Nat.le_of_ble_eq_true rfl) (Nat.le_of_ble_eq_true rfl)) I1 (Q := fun f' st' => f' = .next ∧ st' = (it, itL row 2) :: (L', En.ns [("grouping", .ref row), ("last_interval", .int f tf), ("interval", .int sc ts)]) :: (row, En.list (.int f tf :: .int sc ts :: xs)) :: fullOf V.B h₀ s₀.heap ex) ?_ fun fl s2 st2 I2 ht2 q => ?_
        · repeat' x_close
          all_goals first | rfl | exact absurd (eq_of_beq (by assumption : (_ == (127 : Int)) = true)) (by omega)
        obtain ⟨rfl, rfl⟩ := q
        refine seg_stmt (V := V.g (· = s₀.gens)) (n := n + 2) (over_room rm rfl (Nat.le_of_ble_eq_true rfl) (Nat.le_of_ble_eq_true rfl)) I2 (Q := fun f' st' => f' = .next ∧ st' = (it, itL row 2) :: (L', En.ns [("grouping", .ref row), ("last_interval", .int f tf), ("interval", .int sc ts)]) :: (row, En.list (.int f tf :: .int sc ts :: xs)) :: fullOf V.B h₀ s₀.heap ex) ?_ fun fl s3 st3 I3 ht3 q => ?_
        · repeat' x_close
          all_goals first | rfl | exact absurd (eq_of_beq (by assumption : (_ == (0 : Int)) = true)) (by omega)
        obtain ⟨rfl, rfl⟩ := q
        refine seg_execs_cons (seg_give (n := n + 2) (z := sc) (gst := [(it, itL row 2), (L', En.ns [("grouping", .ref row), ("last_interval", .int f tf), ("interval", .int sc ts)]), (row, En.list (.int f tf :: .int sc ts :: xs))]) (over_room rm rfl (Nat.le_of_ble_eq_true rfl) (Nat.le_of_ble_eq_true rfl)) I3 (Nat.le_trans ht (Nat.le_trans ht1 (Nat.le_trans ht2 ht3))) ?_ (by show (f :: sc :: rest).getD ((rest.length + 1 + 1) - 1 - (rest.length)) 0 = _; rw [show (rest.length + 1 + 1) - 1 - (rest.length) = 1 by omega]; rfl) hexg rfl rfl rfl rfl rfl fun _ s₀ G cst I4 => ?_)
        · repeat' x_close
          exact ⟨_, rfl, rfl⟩
        have I5 := Inv.full I4 hexg
        refine seg_stmt (V := V.g (· = s₀.gens)) (n := n + 2) (over_room rm rfl (Nat.le_of_ble_eq_true rfl) (Nat.le_of_ble_eq_true rfl)) I5 (Q := fun f' st' => f' = .next ∧ st' = (it, itL row 2) :: (L', En.ns [("grouping", .ref row), ("last_interval", .int sc ts), ("interval", .int sc ts)]) :: (row, En.list (.int f tf :: .int sc ts :: xs)) :: fullOf V.B h₀ s₀.heap ex) ?_ fun fl s6 st6 I6 ht6 q => ?_
        · simp only [List.cons_append, List.nil_append]
          repeat' x_close
          rfl
        obtain ⟨rfl, rfl⟩ := q
        exact seg_again rfl (stage2 s₀ s6 I6 ht6)
      have stage0 : ∀ s₀ s, Inv (V.g (· = s₀.gens)) s ((it, itL row 0) :: (L', En.ns [("grouping", .ref row), ("last_interval", .none)]) :: (row, En.list (.int f tf :: .int sc ts :: xs)) :: fullOf V.B h₀ s₀.heap ex) → s₀.toks ≤ s.toks →
          SegV V A' (genE V h₀ ex ended) (genY V h₀ ex ended (f :: sc :: rest)) (rest.length + 1 + 1) s₀ ?c ?dn ?fs s := by
        intro s₀ s Is ht
        have hexg : ∀ q ∈ [(it, itL row 1), (L', En.ns [("grouping", .ref row), ("last_interval", .none), ("interval", .int f tf)]), (row, En.list (.int f tf :: .int sc ts :: xs))], q.1 ∈ ex ∨ h₀.get? q.1 = none := fun q hq => by
          simp only [List.mem_cons, List.not_mem_nil, or_false] at hq
          rcases hq with rfl | rfl | rfl
          · exact hit
          · exact .inl hL
          · exact .inl hrow
        refine seg_forTurn (V := V.g (· = s₀.gens)) (n := n + 2) (over_room rm rfl (Nat.le_of_ble_eq_true rfl) (Nat.le_of_ble_eq_true rfl)) Is (Q := fun r st' => r = some (.int f tf) ∧ st' = (it, itL row 1) :: (L', En.ns [("grouping", .ref row), ("last_interval", .none), ("interval", .int f tf)]) :: (row, En.list (.int f tf :: .int sc ts :: xs)) :: fullOf V.B h₀ s₀.heap ex) ?_ fun r s1 st1 I1 ht1 q => ?_
        · refine R_next_list (by wrow_close) (by wrow_close) rfl ?_
          repeat' x_close
          rfl
        obtain ⟨rfl, rfl⟩ := q
        refine seg_stmt (V := V.g (· = s₀.gens)) (n := n + 2) (over_room rm rfl (Nat.le_of_ble_eq_true rfl) (Nat.le_of_ble_eq_true rfl)) I1 (Q := fun f' st' => f' = .next ∧ st' = (it, itL row 1) :: (L', En.ns [("grouping", .ref row), ("last_interval", .none), ("interval", .int f tf)]) :: (row, En.list (.int f tf :: .int sc ts :: xs)) :: fullOf V.B h₀ s₀.heap ex) ?_ fun fl s2 st2 I2 ht2 q => ?_
        · repeat' x_close
          all_goals first | rfl | exact absurd (eq_of_beq (by assumption : (_ == (127 : Int)) = true)) (by omega)
        obtain ⟨rfl, rfl⟩ := q
        refine seg_stmt (V := V.g (· = s₀.gens)) (n := n + 2) (over_room rm rfl (Nat.le_of_ble_eq_true rfl) (Nat.le_of_ble_eq_true rfl)) I2 (Q := fun f' st' => f' = .next ∧ st' = (it, itL row 1) :: (L', En.ns [("grouping", .ref row), ("last_interval", .none), ("interval", .int f tf)]) :: (row, En.list (.int f tf :: .int sc ts :: xs)) :: fullOf V.B h₀ s₀.heap ex) ?_ fun fl s3 st3 I3 ht3 q => ?_
        · repeat' x_close
          all_goals first | rfl | exact absurd (eq_of_beq (by assumption : (_ == (0 : Int)) = true)) (by omega)
        obtain ⟨rfl, rfl⟩ := q
        refine seg_execs_cons (seg_give (n := n + 2) (z := f) (gst := [(it, itL row 1), (L', En.ns [("grouping", .ref row), ("last_interval", .none), ("interval", .int f tf)]), (row, En.list (.int f tf :: .int sc ts :: xs))]) (over_room rm rfl (Nat.le_of_ble_eq_true rfl) (Nat.le_of_ble_eq_true rfl)) I3 (Nat.le_trans ht (Nat.le_trans ht1 (Nat.le_trans ht2 ht3))) ?_ (by show (f :: sc :: rest).getD ((rest.length + 1 + 1) - 1 - (rest.length + 1)) 0 = _; rw [show (rest.length + 1 + 1) - 1 - (rest.length + 1) = 0 by omega]; rfl) hexg rfl rfl rfl rfl rfl fun _ s₀ G cst I4 => ?_)
        · repeat' x_close
          exact ⟨_, rfl, rfl⟩
        have I5 := Inv.full I4 hexg
        refine seg_stmt (V := V.g (· = s₀.gens)) (n := n + 2) (over_room rm rfl (Nat.le_of_ble_eq_true rfl) (Nat.le_of_ble_eq_true rfl)) I5 (Q := fun f' st' => f' = .next ∧ st' = (it, itL row 1) :: (L', En.ns [("grouping", .ref row), ("last_interval", .int f tf), ("interval", .int f tf)]) :: (row, En.list (.int f tf :: .int sc ts :: xs)) :: fullOf V.B h₀ s₀.heap ex) ?_ fun fl s6 st6 I6 ht6 q => ?_
        · simp only [List.cons_append, List.nil_append]
          repeat' x_close
          rfl
        obtain ⟨rfl, rfl⟩ := q
        exact seg_again rfl (stage1 s₀ s6 I6 ht6)
      exact stage0 s'' s2 I2 (Nat.le_trans ht1 ht2)
/-- the numbers told of a word: each is the number of unlike signs, or above the bound with it -/
def okRow (b : Int) (O : List Nat) (x k : Nat) (zs : List Int) : Prop := zs.length = k ∧ ∀ (j : Nat) (o : Nat) (z : Int), O[j]? = some o → zs[j]? = some z → (z = (unP (spl x) (spl o) : Int) ∨ b < min z (unP (spl x) (spl o) : Int))
def rowOk (b : Int) (O : List Nat) (vs : List Value) (x : Nat) : Prop := ∃ zs, IntsAre vs zs ∧ okRow b O x 4 zs
theorem okRow.snoc {b : Int} {O : List Nat} {x k o : Nat} {zs : List Int} {z : Int} (h : okRow b O x k zs) (ho : O[k]? = some o) (hz : z = (unP (spl x) (spl o) : Int) ∨ b < min z (unP (spl x) (spl o) : Int)) : okRow b O x (k + 1) (zs ++ [z]) := by
  obtain ⟨h1, h2⟩ := h
  refine ⟨by rw [List.length_append, h1]; rfl, fun j o' z' hj hz' => ?_⟩
  rcases Nat.lt_or_ge j k with q | q
  · rw [List.getElem?_append_left (by omega)] at hz'
    exact h2 j o' z' hj hz'
  · have hj2 : j < (zs ++ [z]).length := (List.getElem?_eq_some_iff.mp hz').1
    rw [List.length_append, h1] at hj2
    have : j = k := by simp at hj2; omega
    subst this
    rw [List.getElem?_append_right (by omega), h1, Nat.sub_self] at hz'
    rw [ho] at hj
    cases hj
    simp at hz'
    rw [← hz']
    exact hz
theorem C_told {V : Cx} {n : Nat} {st : Sto} {X : Value → Sto → Prop} {lw lo : Addr} {vw vo : List Value} {W O : List Nat} {b : Int} {u : Tok} {Q : Value → Sto → Prop}
    (hw : (lw, En.list vw) ∈ st) (ho : (lo, En.list vo) ∈ st) (hvw : StrsAre vw (W.map fun i => tx (spl i))) (hvo : StrsAre vo (O.map fun i => tx (spl i))) (hw4 : W.length = 4) (ho4 : O.length = 4) (hW : ∀ i ∈ W, i < 16) (hO : ∀ i ∈ O, i < 16) (hb : b = 1 ∨ b = 2)
    (h : ∀ D rows, RowsAre (rowOk b O) rows W → Q (.ref D) ((D, En.list (rowsV rows)) :: (rowsE rows ++ st))) : Runs V (n + 3) (call (.ref 297) [.ref lw, .ref lo, .int b u]) st Q X := by
  refine R_fn2 [("words", .ref lw), ("others", .ref lo), ("bound", .int b u)] [("words", .ref lw), ("others", .ref lo)] "word" "bound" none (some (.int b u)) (by k_is) (by k_is) rfl rfl rfl rfl rfl rfl rfl rfl rfl rfl rfl fun L cw cb => ?_
  repeat' x_close
  rename_i tl it
  refine for_ind 4 (fun i st' => ∃ rows v, RowsAre (rowOk b O) rows (W.take i) ∧ st' = (it, itL lw i) :: (tl, En.list (rowsV rows)) :: (rowsE rows ++ ((L, En.ns [("words", .ref lw), ("others", .ref lo), ("told", .ref tl)]) :: (cw, En.cell v) :: (cb, En.cell (some (.int b u))) :: st))) ?_ ?_ 4 0 _ rfl ⟨[], _, .nil, rfl⟩
  · rintro i st' hi ⟨rows, v, hR, rfl⟩
    have hwi : W[i]? = some (W[i]'(by omega)) := List.getElem?_eq_getElem (by omega)
    generalize W[i]'(by omega) = x at hwi
    have hx16 := hW x (List.mem_of_getElem? hwi)
    obtain ⟨t, hv⟩ := strs_at hvw (i := i) (x := tx (spl x)) (by rw [List.getElem?_map, hwi]; rfl)
    have hrl : (rowsV rows).length ≤ 1000000 := by
      simp only [rowsV, List.length_map]
      rw [hR.len, List.length_take]; omega
    refine R_next_list (by wrow_close) (by wrow_close) hv ⟨_, rfl, ?_⟩
    repeat' x_close
    rename_i it2 D2 C2
    refine comp_ind 4 (fun k st' => ∃ ws zs, IntsAre ws zs ∧ okRow b O x k zs ∧ st' = (C2, En.ns []) :: (D2, En.list ws) :: (it2, itL lo k) :: (it, itL lw (i + 1)) :: (tl, En.list (rowsV rows)) :: (rowsE rows ++ ((L, En.ns [("words", .ref lw), ("others", .ref lo), ("told", .ref tl)]) :: (cw, En.cell (some (.str (tx (spl x)) t))) :: (cb, En.cell (some (.int b u))) :: st))) ?_ ?_ 4 0 _ rfl
      ⟨[], [], .nil, ⟨rfl, fun j o z _ hz => nomatch hz⟩, rfl⟩
    · rintro k st' hk ⟨ws, zs, hws, hok, rfl⟩
      have hok' : O[k]? = some (O[k]'(by omega)) := List.getElem?_eq_getElem (by omega)
      generalize O[k]'(by omega) = o at hok'
      have ho16 := hO o (List.mem_of_getElem? hok')
      obtain ⟨t2, hv2⟩ := strs_at hvo (i := k) (x := tx (spl o)) (by rw [List.getElem?_map, hok']; rfl)
      have hwl : ws.length ≤ 1000000 := by rw [ints_len hws, hok.1]; omega
      refine R_next_list (by wrow_close) (by wrow_close) hv2 ⟨_, rfl, ?_⟩
      repeat' x_close
      refine C_lev2 hx16 ho16 hb fun z tz hz => ?_
      repeat' x_close
      exact ⟨_, .ns0 .refl, _, _, IntsAre_app hws (.cons z tz .nil), hok.snoc hok' hz, rfl⟩
    · rintro st' ⟨ws, zs, hws, hok, rfl⟩
      have hx4 : vo[4]? = none := List.getElem?_eq_none (by rw [strs_len hvo, List.length_map, ho4]; exact Nat.le_refl _)
      have hwl : ws.length = 4 := by rw [ints_len hws, hok.1]
      refine R_end_list (by wrow_close) (by wrow_close) hx4 ⟨rfl, ?_⟩
      repeat' x_close
      rename_i z TO TI a2 a1 n12
      refine for_ind 4 (fun k st' => ∃ va vb, st' = zipSt z TO TI a2 a1 va vb (itL lo k) (itL D2 k) ((D2, En.list ws) :: (it, itL lw (i + 1)) :: (tl, En.list (rowsV rows)) :: (rowsE rows ++ ((L, En.ns [("words", .ref lw), ("others", .ref lo), ("told", .ref tl), ("fars", .ref D2)]) :: (cw, En.cell (some (.str (tx (spl x)) t))) :: (cb, En.cell (some (.int b u))) :: st)))) ?_ ?_ 4 0 _ rfl ⟨_, _, rfl⟩
      · rintro k st' hk ⟨va, vb, rfl⟩
        have hok' : O[k]? = some (O[k]'(by omega)) := List.getElem?_eq_getElem (by omega)
        generalize O[k]'(by omega) = o at hok'
        have ho16 := hO o (List.mem_of_getElem? hok')
        obtain ⟨t2, hv2⟩ := strs_at hvo (i := k) (x := tx (spl o)) (by rw [List.getElem?_map, hok']; rfl)
        have hzl := hok.1
        have hzk : zs[k]? = some (zs[k]'(by omega)) := List.getElem?_eq_getElem (by omega)
        generalize zs[k]'(by omega) = zf at hzk
        obtain ⟨tz, hvz⟩ := ints_at hws hzk
        have hcase := hok.2 k o zf hok' hzk
        have sx := spl_facts x hx16
        have so := spl_facts o ho16
        have sx' : (tx (spl x)).cps.all (· < 128) = true := by simpa using sx.2.2
        have so' : (tx (spl o)).cps.all (· < 128) = true := by simpa using so.2.2
        with_reducible refine zn_LL (l := D2) (l' := lo) (k := k) (z := z) (TI := TI) (TO := TO) (i1 := a1) (i2 := a2) (a := va) (b := vb) (vs := ws) (ws := vo) hvz hv2 (by wrow_close) (by wrow_close) (by wrow_close) (by wrow_close) (by wrow_close) (by wrow_close) (by wrow_close) n12 fun T F => ⟨_, _, (by wrow_close), (by wrow_close), _, rfl, ?_⟩
        repeat' x_close
        refine C_unlike (x := tx (spl x)) (y := tx (spl o)) sx' so' (by simp [sx.1, so.1]) (by simp [sx.1]) fun t3 => ?_
        repeat' x_close
        · exfalso
          rename_i q1 _ q2
          have q1' : zf ≠ (unP (spl x) (spl o) : Int) := by simpa [unP] using q1
          have q2' : min zf (unP (spl x) (spl o) : Int) ≤ b := by simpa [unP] using q2
          rcases hcase with e | e
          · exact q1' e
          · omega
        all_goals exact ⟨_, .skip (.keep (.keep (.keep (.keep (.keep (.keep (.keep (.keep (.under (.nsk 4 .refl)))))))))), _, _, rfl⟩
      · rintro st' ⟨va, vb, rfl⟩
        have hx5 : ws[4]? = none := List.getElem?_eq_none (by omega)
        with_reducible refine ze_L hx5 (by wrow_close) (by wrow_close) (by wrow_close) (by wrow_close) ⟨rfl, ?_⟩
        repeat' x_close
        refine ⟨_, .skip (.skip (.skip (.trans (SLe.back (l := _ :: _ :: rowsE rows)) (.keep (.keep (.under (.keep (.nsk 3 .refl)))))))), rows ++ [(D2, ws)], some (.str (tx (spl x)) t), ?_, by simp [rowsE, rowsV]⟩
        rw [show W.take (i + 1) = W.take i ++ [x] by rw [List.take_add_one, hwi]; rfl]
        exact hR.app (.cons ⟨zs, hws, hok⟩ .nil)
  · rintro st' ⟨rows, v, hR, rfl⟩
    have hx4 : vw[4]? = none := List.getElem?_eq_none (by rw [strs_len hvw, List.length_map, hw4]; exact Nat.le_refl _)
    rw [List.take_of_length_le (by omega)] at hR
    refine R_end_list (by wrow_close) (by wrow_close) hx4 ⟨rfl, ?_⟩
    repeat' x_close
    exact ⟨_, .keep (.under (.skip (.skip (.skip .refl)))), h tl rows hR⟩
local macro_rules | `(tactic| x_close) => `(tactic| first
  | ((with_reducible refine' R_ListComp1 ?k0 ?k1 ?k2 ?k3 ?k4 ?k5 ?_); (case k0 => (intro _; rfl)); (case k1 => rfl); (case k2 => rfl); (case k3 => decide); (case k4 => (intro _ _; rfl)); (case k5 => (intro _; rfl)))
  | ((with_reducible refine' R_AssignComp1 ?k0 ?k1 ?k2 ?k3 ?k4 ?k5 ?k6 ?_); (case k0 => rfl); (case k1 => (intro _; rfl)); (case k2 => rfl); (case k3 => rfl); (case k4 => decide); (case k5 => (intro _ _; rfl)); (case k6 => (intro _; rfl)))
  | ((with_reducible refine' R_mul5 ?k0 ?_); (case k0 => (with_reducible wrow_close)))
  | ((with_reducible refine' R_enum ?k0 ?_); (case k0 => (with_reducible wrow_close)))
  | ((with_reducible refine' R_self_enum ?k0 ?_); (case k0 => (with_reducible wrow_close)))
  | ((with_reducible refine' R_letGo_enum ?k0 ?_); (case k0 => (with_reducible wrow_close)))
  )
theorem bit_code : ∀ c : Nat, c < 16 → ∀ j : Nat, j < 4 → (Builtin.bitAnd ((c : Int).fdiv (2 ^ ((j : Nat) : Int).toNat)) 1 == 1) = c.testBit j := by decide +kernel
theorem joinP_len (xss : List (List Str)) (hz : ∀ xs ∈ xss, xs.length ≤ 4) (c k : Nat) : (joinP xss c k).length ≤ 4 * k := by
  induction k with
  | zero => exact Nat.le_refl _
  | succ k ih =>
    rw [joinP, List.length_append]
    have : (if c.testBit k then xss.getD k [] else []).length ≤ 4 := by
      split
      · rw [List.getD_eq_getElem?_getD]
        cases h : xss[k]? with
        | none => simp
        | some x => exact hz x (List.mem_of_getElem? h)
      · simp
    omega
theorem commP_succ (xss : List (List Str)) (c i : Nat) : commP xss c (i + 1) = commP xss c i ++ if (joinP xss c 4).count ⟨#[75 + i]⟩ == chosP c 4 then [i] else [] := by
  unfold commP
  rw [List.range_succ, List.filter_append]
  congr 1
  by_cases h : ((joinP xss c 4).count ⟨#[75 + i]⟩ == chosP c 4) = true <;> simp [List.filter_cons, h]
theorem commP_len (xss : List (List Str)) (c i : Nat) : (commP xss c i).length ≤ i := by
  unfold commP
  exact Nat.le_trans (List.length_filter_le _ _) (by simp)
theorem C_sum {V : Cx} {n : Nat} {st : Sto} {X : Value → Sto → Prop} {l : Addr} {rows : List (Addr × List Value)} {xss : List (List Str)} {F : Nat} {Q : Value → Sto → Prop}
    (hl : (l, En.list (rowsV rows)) ∈ st) (hm : ∀ p ∈ rows, (p.1, En.list p.2) ∈ st) (hr : RowsAre (TS F) rows xss) (h4 : xss.length = 4) (hz : ∀ xs ∈ xss, xs.length ≤ 4) (hF : F ≤ flr st) (h1 : 1 ≤ flr st)
    (h : ∀ t, Q (.int (totP xss 16) t) st) : Runs V (n + 3) (call (.ref 312) [.ref l]) st Q X := by
  refine R_fn2 [("lists", .ref l)] [("lists", .ref l)] "chosen" "joined" none none (by k_is) (by k_is) rfl rfl rfl rfl rfl rfl rfl rfl rfl rfl rfl fun L c d => ?_
  repeat' x_close
  refine R_iter_R (m := 16) (by wrow_close) rfl rfl (by decide) fun it => ?_
  rename_i t0 _ _ _ _
  have h4r : rows.length = 4 := by rw [hr.len, h4]
  refine RunsC.le ?_ (.keep (.skip .refl))
  refine for_ind 16 (fun i st' => ∃ tt v1 v2, st' = (it, itR 16 i) :: (L, En.ns [("lists", .ref l), ("total", .int (totP xss i) tt)]) :: (c, En.cell v1) :: (d, En.cell v2) :: st) ?_ ?_ 16 0 _ rfl ⟨t0, _, _, rfl⟩
  · rintro i st' hi ⟨tt, v1, v2, rfl⟩
    refine R_next_R (by wrow_close) hi fun tc => ⟨_, rfl, ?_⟩
    repeat' x_close
    rename_i j0 t3 T2 e itE
    refine RunsC.le ?_ (.keep (.keep (.skip (.refl))))
    refine for_ind 4 (fun k st' => ∃ ja js tq old, TS F js (joinP xss i k) ∧ st' = (e, enumE .none itE k old) :: (itE, itL l k) :: (ja, En.list js) :: (it, itR 16 (i + 1)) :: (L, En.ns [("lists", .ref l), ("total", .int (totP xss i) tt), ("choice", .int (i : Int) tc)]) ::
      (c, En.cell (some (.int (chosP i k : Nat) tq))) :: (d, En.cell (some (.ref ja))) :: st) ?_ ?_ 4 0 _ rfl ⟨j0, [], t3, _, .nil, rfl⟩
    · rintro k st' hk ⟨ja, js, tq, old, hjs, rfl⟩
      have hxk : xss[k]? = some (xss[k]'(by omega)) := List.getElem?_eq_getElem (by omega)
      generalize xss[k]'(by omega) = xk at hxk
      obtain ⟨a, ws, e1, hv⟩ := hr.at hxk
      have hav := hm _ (List.mem_of_getElem? e1)
      dsimp only at hav
      have hjl : js.length ≤ 16 := by
        rw [hjs.length]
        exact Nat.le_trans (joinP_len xss hz i k) (by omega)
      have hwl : ws.length ≤ 4 := by rw [hv.length]; exact hz _ (List.mem_of_getElem? hxk)
      have hbc := bit_code i hi k hk
      refine R_next_enum (by wrow_close) (by wrow_close) (rowsV_at e1) fun T t => ⟨_, _, by wrow_close, by wrow_close, _, rfl, ?_⟩
      repeat' x_close
      refine C_rshift (Int.natCast_nonneg k) fun t4 => ?_
      repeat' x_close
      refine C_and fun t5 => ?_
      repeat' x_close
      · rename_i hb
        rw [hbc] at hb
        refine C_concat (by wrow_close) (by wrow_close) (by omega) fun D => ?_
        repeat' x_close
        rename_i tq2 tp
        have ec : ((chosP i k : Nat) : Int) + 1 = ((chosP i (k + 1) : Nat) : Int) := by rw [chosP, if_pos hb]; omega
        rw [ec]
        refine ⟨_, .skip (.trans (SLe.back (l := [_, _, _])) (.skip (.keep (.keep (.keep (.skip (.keep (.nsk 3 .refl)))))))), D, js ++ ws, tq2, _, ?_, rfl⟩
        rw [joinP, if_pos hb, List.getD_eq_getElem?_getD, hxk]
        exact hjs.app hv
      · rename_i hb
        rw [hbc] at hb
        have ec : chosP i k = chosP i (k + 1) := by rw [chosP, if_neg hb]; rfl
        rw [ec]
        refine ⟨_, .skip (.keep (.keep (.keep (.keep (.nsk 3 .refl))))), ja, js, tq, _, ?_, rfl⟩
        rw [joinP, if_neg hb, List.append_nil]
        exact hjs
    · rintro st' ⟨ja, js, tq, old, hjs, rfl⟩
      have hx : (rowsV rows)[4]? = none := List.getElem?_eq_none (by simp [rowsV, h4r])
      refine R_end_enum (by wrow_close) (by wrow_close) (by wrow_close) hx ⟨rfl, ?_⟩
      repeat' x_close
      rename_i tz it3 D3 C3
      have hjl : (joinP xss i 4).length ≤ 1000 := Nat.le_trans (joinP_len xss hz i 4) (by decide)
      refine comp_ind 4 (fun k st' => ∃ cs, cs.length = (commP xss i k).length ∧ st' = (C3, En.ns []) :: (D3, En.list cs) :: (it3, itS "KLMN" tz k) :: (e, enumE .none itE 4 old) :: (ja, En.list js) :: (it, itR 16 (i + 1)) :: (L, En.ns [("lists", .ref l), ("total", .int (totP xss i) tt), ("choice", .int (i : Int) tc)]) ::
        (c, En.cell (some (.int (chosP i 4 : Nat) tq))) :: (d, En.cell (some (.ref ja))) :: st) ?_ ?_ 4 0 _ rfl ⟨[], rfl, rfl⟩
      · rintro k st' hk ⟨cs, hcs, rfl⟩
        have hcl : cs.length ≤ 1000000 := by rw [hcs]; exact Nat.le_trans (commP_len _ _ _) (by omega)
        refine R_next_strF (by wrow_close) (klmn_at k hk) fun u hu => ⟨_, rfl, ?_⟩
        have hFu : F ≤ u ∧ 0 < u := by
          simp only [flr, flr1] at hu
          omega
        repeat' x_close
        refine C_countOf (by wrow_close) hjs hFu.1 hFu.2 hjl fun t6 => ?_
        repeat' x_close
        · rename_i hb
          refine ⟨_, .ns0 .refl, _, ?_, rfl⟩
          have hb' : ((joinP xss i 4).count ⟨#[75 + k]⟩ == chosP i 4) = true := by
            have := eq_of_beq hb
            exact beq_iff_eq.mpr (by omega)
          rw [commP_succ, if_pos hb', List.length_append, List.length_append, hcs]; rfl
        · rename_i hb
          refine ⟨_, .ns0 .refl, _, ?_, rfl⟩
          have hb' : ¬ ((joinP xss i 4).count ⟨#[75 + k]⟩ == chosP i 4) = true := fun q => by
            have := eq_of_beq q
            rw [this] at hb
            simp at hb
          rw [commP_succ, if_neg hb', List.append_nil, hcs]
      · rintro st' ⟨cs, hcs, rfl⟩
        have hx4 : (Str.ofString "KLMN").cps[4]? = none := by decide
        have hcl : cs.length ≤ 4 := by rw [hcs]; exact commP_len _ _ _
        refine R_end_str (by wrow_close) hx4 ⟨rfl, ?_⟩
        repeat' x_close
        refine C_lshift (by omega) (by omega) (by decide) fun t7 => ?_
        repeat' x_close
        · rename_i hc
          have hw : (1 : Int) * 2 ^ (4 * (cs.length : Int)).toNat = 2 ^ (4 * (commP xss i 4).length) := by rw [Int.one_mul, show (4 * (cs.length : Int)).toNat = 4 * cs.length by omega, hcs]
          have hp : chosP i 4 % 2 = 0 := by
            have := eq_of_beq hc
            rw [Int.fmod_eq_emod_of_nonneg _ (by decide)] at this
            omega
          refine C_add fun t8 => ?_
          repeat' x_close
          refine ⟨_, .skip (.skip (.skip (.keep (.nsk 2 .refl)))), t8, some (.int (chosP i 4 : Nat) tq), some (.ref ja), ?_⟩
          rw [totP, if_pos hp, ← hw]; rfl
        · rename_i hc
          have hw : (1 : Int) * 2 ^ (4 * (cs.length : Int)).toNat = 2 ^ (4 * (commP xss i 4).length) := by rw [Int.one_mul, show (4 * (cs.length : Int)).toNat = 4 * cs.length by omega, hcs]
          have hp : ¬ chosP i 4 % 2 = 0 := fun q => hc (by
            rw [Int.fmod_eq_emod_of_nonneg _ (by decide)]
            exact beq_iff_eq.mpr (by omega))
          refine C_sub fun t8 => ?_
          repeat' x_close
          refine ⟨_, .skip (.skip (.skip (.keep (.nsk 2 .refl)))), t8, some (.int (chosP i 4 : Nat) tq), some (.ref ja), ?_⟩
          rw [totP, if_neg hp, ← hw]; rfl
  · rintro st' ⟨tt, v1, v2, rfl⟩
    refine R_end_R (by wrow_close) rfl ⟨rfl, ?_⟩
    repeat' x_close
    exact ⟨_, .skip (.skip (.skip .refl)), h _⟩
abbrev BoolsAre (vs : List Value) (bs : List Bool) : Prop := vs = bs.map Value.bool
theorem bit2 : ∀ c : Nat, c < 16 → ∀ j : Nat, j < 4 → (((c : Int).fdiv (2 ^ ((j : Nat) : Int).toNat)).fmod 2 == 1) = c.testBit j := by decide +kernel
theorem pyl2 : ∀ c : Nat, c < 16 → ∀ j : Nat, j < 4 → Builtin.divisionGoesByPylong (c : Int) (2 ^ ((j : Nat) : Int).toNat) = false ∧ (2 : Int) ^ ((j : Nat) : Int).toNat ≠ 0 ∧ ((Builtin.Int.intBits 2 : Nat) : Int) * ((j : Nat) : Int) ≤ 2 ^ 27 := by decide +kernel
theorem chP_succ (c k : Nat) : chP c (k + 1) = chP c k ++ if c.testBit k then [(k : Int)] else [] := by
  unfold chP
  rw [List.range_succ, List.filter_append, List.map_append]
  congr 1
  by_cases h : c.testBit k = true <;> simp [List.filter_cons, h]
theorem chP_len (c k : Nat) : (chP c k).length ≤ k := by
  unfold chP
  rw [List.length_map]
  exact Nat.le_trans (List.length_filter_le _ _) (by simp)
theorem lackC_len (nb : List (List Bool)) (c : Nat) : (lackC nb c).length = 5 := by
  induction c with
  | zero => rfl
  | succ c ih => rw [lackC]; split <;> simp [ih]
theorem C_lacking {V : Cx} {n : Nat} {st : Sto} {X : Value → Sto → Prop} {lw lo : Addr} {vw vo : List Value} {W O : List (List Nat)} {b : Int} {u : Tok} {Q : Value → Sto → Prop}
    (hw : (lw, En.list vw) ∈ st) (ho : (lo, En.list vo) ∈ st) (hvw : StrsAre vw (W.map tx)) (hvo : StrsAre vo (O.map tx)) (hw4 : W.length = 4) (ho4 : O.length = 4) (hW : ∀ x ∈ W, x.length = 4 ∧ x.all (· < 128) = true) (hO : ∀ x ∈ O, x.length = 4 ∧ x.all (· < 128) = true)
    (h : ∀ D vs, IntsAre vs (lackC (nearB W O b) 16) → Q (.ref D) ((D, En.li vs) :: st)) : Runs V (n + 3) (call (.ref 317) [.ref lw, .ref lo, .int b u]) st Q X := by
  refine R_fn4 [("words", .ref lw), ("others", .ref lo), ("bound", .int b u)] [("words", .ref lw)] "chosen" "choice" "bound" "others" none none (some (.int b u)) (some (.ref lo)) (by k_is) (by k_is) rfl rfl rfl rfl rfl rfl rfl rfl rfl rfl rfl rfl rfl fun L c1 c2 c3 c4 => ?_
  repeat' x_close
  rename_i itw D0 C0 yc
  refine comp_ind 4 (fun i st' => ∃ rows v, RowsAre BoolsAre rows (nearB (W.take i) O b) ∧ st' = (C0, En.ns []) :: (yc, En.cell v) :: (D0, En.list (rowsV rows)) :: (itw, itL lw i) :: (rowsE rows ++ ((L, En.ns [("words", .ref lw)]) :: (c1, En.cell none) :: (c2, En.cell none) :: (c3, En.cell (some (.int b u))) :: (c4, En.cell (some (.ref lo))) :: st))) ?_ ?_ 4 0 _ rfl ⟨[], _, .nil, rfl⟩
  · rintro i st' hi ⟨rows, v, hR, rfl⟩
    have hwi : W[i]? = some (W[i]'(by omega)) := List.getElem?_eq_getElem (by omega)
    generalize W[i]'(by omega) = x at hwi
    have hWx := hW x (List.mem_of_getElem? hwi)
    obtain ⟨t, hv⟩ := strs_at hvw (i := i) (x := tx x) (by rw [List.getElem?_map, hwi]; rfl)
    have hrl : (rowsV rows).length ≤ 1000000 := by
      simp only [rowsV, List.length_map]
      rw [hR.len]; simp [nearB]; omega
    refine R_next_list (by wrow_close) (by wrow_close) hv ⟨_, rfl, ?_⟩
    repeat' x_close
    rename_i it2 D2 C2
    refine comp_ind 4 (fun k st' => st' = (C2, En.ns []) :: (D2, En.list (((O.take k).map fun o => decide ((unP x o : Int) ≤ b)).map Value.bool)) :: (it2, itL lo k) :: (C0, En.ns []) :: (yc, En.cell (some (.str (tx x) t))) :: (D0, En.list (rowsV rows)) :: (itw, itL lw (i + 1)) ::
      (rowsE rows ++ ((L, En.ns [("words", .ref lw)]) :: (c1, En.cell none) :: (c2, En.cell none) :: (c3, En.cell (some (.int b u))) :: (c4, En.cell (some (.ref lo))) :: st))) ?_ ?_ 4 0 _ rfl rfl
    · rintro k st' hk rfl
      have hok : O[k]? = some (O[k]'(by omega)) := List.getElem?_eq_getElem (by omega)
      generalize O[k]'(by omega) = o at hok
      have hOo := hO o (List.mem_of_getElem? hok)
      obtain ⟨t2, hv2⟩ := strs_at hvo (i := k) (x := tx o) (by rw [List.getElem?_map, hok]; rfl)
      have hbl : (((O.take k).map fun o => decide ((unP x o : Int) ≤ b)).map Value.bool).length ≤ 1000000 := by simp; omega
      refine R_next_list (by wrow_close) (by wrow_close) hv2 ⟨_, rfl, ?_⟩
      repeat' x_close
      refine C_unlike (by simpa using hWx.2) (by simpa using hOo.2) (by simp [hWx.1, hOo.1]) (by simp [hWx.1]) fun t3 => ?_
      repeat' x_close
      have e : ((O.take k).map fun o => decide ((unP x o : Int) ≤ b)).map Value.bool ++ [Value.bool (decide ((unP x o : Int) ≤ b))] = ((O.take (k + 1)).map fun o => decide ((unP x o : Int) ≤ b)).map Value.bool := by
        rw [List.take_add_one, hok, List.map_append, List.map_append]; rfl
      refine ⟨_, .ns0 .refl, ?_⟩
      rw [← e]; rfl
    · rintro st' rfl
      have hx4 : vo[4]? = none := List.getElem?_eq_none (by rw [strs_len hvo, List.length_map, ho4]; exact Nat.le_refl _)
      refine R_end_list (by wrow_close) (by wrow_close) hx4 ⟨rfl, _, _, by wrow_close, ?_⟩
      repeat' x_close
      refine ⟨_, SLe.back (l := _ :: _ :: _ :: _ :: rowsE rows), rows ++ [(D2, ((O.take 4).map fun o => decide ((unP x o : Int) ≤ b)).map Value.bool)], some (.str (tx x) t), ?_, by simp [rowsE, rowsV]⟩
      rw [show W.take (i + 1) = W.take i ++ [x] by rw [List.take_add_one, hwi]; rfl, show O.take 4 = O from List.take_of_length_le (by omega)]
      unfold nearB at hR ⊢
      rw [List.map_append]
      exact hR.app (.cons rfl .nil)
  · rintro st' ⟨rows, v, hR, rfl⟩
    have hx4 : vw[4]? = none := List.getElem?_eq_none (by rw [strs_len hvw, List.length_map, hw4]; exact Nat.le_refl _)
    refine R_end_list (by wrow_close) (by wrow_close) hx4 ⟨rfl, ?_⟩
    repeat' x_close
    refine R_iter_R (m := 16) (by wrow_close) rfl rfl (by decide) fun it => ?_
    rename_i t0 _ cnt _ _ _ _
    have hRl : rows.length = 4 := by rw [hR.len]; simp [nearB, hw4]
    rw [List.take_of_length_le (by omega)] at hR
    refine RunsC.le ?_ (.keep (.skip (.keep (.skip (.skip .refl)))))
    refine for_ind 16 (fun i st' => ∃ vs v1 v2, IntsAre vs (lackC (nearB W O b) i) ∧ st' = (it, itR 16 i) :: (cnt, En.li vs) :: (D0, En.list (rowsV rows)) :: (rowsE rows ++ ((L, En.ns [("words", .ref lw), ("near", .ref D0), ("counts", .ref cnt)]) :: (c1, En.cell v1) :: (c2, En.cell v2) :: (c3, En.cell (some (.int b u))) :: (c4, En.cell (some (.ref lo))) :: st))) ?_ ?_ 16 0 _ rfl
      ⟨_, _, _, .cons 0 _ (.cons 0 _ (.cons 0 _ (.cons 0 _ (.cons 0 _ .nil)))), rfl⟩
    · rintro i st' hi ⟨vs, v1, v2, hvs, rfl⟩
      refine R_next_R (by wrow_close) hi fun tc => ⟨_, rfl, ?_⟩
      repeat' x_close
      refine R_iter_R (m := 4) (by wrow_close) rfl rfl (by decide) fun it3 => ?_
      repeat' x_close
      rename_i D3 C3
      refine RunsC.le ?_ (.keep (.keep (.keep (.skip .refl))))
      refine comp_ind 4 (fun k st' => ∃ ws, IntsAre ws (chP i k) ∧ st' = (C3, En.ns []) :: (D3, En.list ws) :: (it3, itR 4 k) :: (it, itR 16 (i + 1)) :: (cnt, En.li vs) :: (D0, En.list (rowsV rows)) :: (rowsE rows ++ ((L, En.ns [("words", .ref lw), ("near", .ref D0), ("counts", .ref cnt)]) :: (c1, En.cell v1) :: (c2, En.cell (some (.int (i : Int) tc))) ::
        (c3, En.cell (some (.int b u))) :: (c4, En.cell (some (.ref lo))) :: st))) ?_ ?_ 4 0 _ rfl ⟨[], .nil, rfl⟩
      · rintro k st' hk ⟨ws, hws, rfl⟩
        have hwl : ws.length ≤ 1000000 := by rw [ints_len hws]; exact Nat.le_trans (chP_len _ _) (by omega)
        obtain ⟨p1, p2, p3⟩ := pyl2 i hi k hk
        have hb2 := bit2 i hi k hk
        refine R_next_R (by wrow_close) hk fun tk => ⟨_, rfl, ?_⟩
        repeat' x_close
        refine R_pow (Int.natCast_nonneg k) p3 fun t5 => ?_
        repeat' x_close
        · rename_i hb
          rw [hb2] at hb
          exact ⟨_, .ns0 .refl, _, by rw [chP_succ, if_pos hb]; exact IntsAre_app hws (.cons _ _ .nil), rfl⟩
        · rename_i hb
          rw [hb2] at hb
          exact ⟨_, .ns0 .refl, _, by rw [chP_succ, if_neg (by rw [hb]; decide), List.append_nil]; exact hws, rfl⟩
      · rintro st' ⟨ws, hws, rfl⟩
        have hwl : ws.length ≤ 4 := by rw [ints_len hws]; exact chP_len _ _
        refine R_end_R (by wrow_close) rfl ⟨rfl, ?_⟩
        repeat' x_close
        rename_i it5 D5 C5 yc5
        have hws4 : (chP i 4).length ≤ 4 := chP_len _ _
        have hwe : ws.length = (chP i 4).length := ints_len hws
        refine comp_ind 4 (fun m st' => ∃ ws5 v5, ws5.length ≤ m ∧ ws5.isEmpty = !((nearB W O b).take m).any (coverB i) ∧ st' = (C5, En.ns []) :: (yc5, En.cell v5) :: (D5, En.list ws5) :: (it5, itL D0 m) :: (D3, En.list ws) :: (it, itR 16 (i + 1)) :: (cnt, En.li vs) :: (D0, En.list (rowsV rows)) :: (rowsE rows ++ ((L, En.ns [("words", .ref lw), ("near", .ref D0), ("counts", .ref cnt)]) ::
          (c1, En.cell (some (.ref D3))) :: (c2, En.cell (some (.int (i : Int) tc))) :: (c3, En.cell (some (.int b u))) :: (c4, En.cell (some (.ref lo))) :: st))) ?_ ?_ 4 0 _ rfl ⟨[], _, Nat.le_refl _, rfl, rfl⟩
        · rintro m st' hm ⟨ws5, v5, hl5, he5, rfl⟩
          have hnb : (nearB W O b)[m]? = some ((nearB W O b)[m]'(by simp [nearB]; omega)) := List.getElem?_eq_getElem _
          generalize (nearB W O b)[m]'(by simp [nearB]; omega) = row at hnb
          obtain ⟨a, rv, e1, hrv⟩ := hR.at hnb
          have hav := rowsE_mem e1
          have hz5 : ws5.length ≤ 1000000 := by omega
          refine R_next_list (by wrow_close) (by wrow_close) (rowsV_at e1) ⟨_, rfl, ?_⟩
          repeat' x_close
          rename_i it6 D6 C6
          have hrl4 : row.length = 4 := by
            have := List.mem_of_getElem? hnb
            obtain ⟨x, _, rfl⟩ := List.mem_map.mp this
            rw [List.length_map, ho4]
          refine comp_ind (chP i 4).length (fun k st' => ∃ ws6, ws6.length ≤ k ∧ ws6.isEmpty = ((chP i 4).take k).all (fun j => row.getD j.toNat false) ∧ st' = (C6, En.ns []) :: (D6, En.list ws6) :: (it6, itL D3 k) :: (C5, En.ns []) :: (yc5, En.cell (some (.ref a))) :: (D5, En.list ws5) :: (it5, itL D0 (m + 1)) :: (D3, En.list ws) :: (it, itR 16 (i + 1)) :: (cnt, En.li vs) :: (D0, En.list (rowsV rows)) :: (rowsE rows ++ ((L, En.ns [("words", .ref lw), ("near", .ref D0), ("counts", .ref cnt)]) ::
            (c1, En.cell (some (.ref D3))) :: (c2, En.cell (some (.int (i : Int) tc))) :: (c3, En.cell (some (.int b u))) :: (c4, En.cell (some (.ref lo))) :: st))) ?_ ?_ (chP i 4).length 0 _ (Nat.zero_add _) ⟨[], Nat.le_refl _, rfl, rfl⟩
          · rintro k st' hk ⟨ws6, hl6, he6, rfl⟩
            have hjk : (chP i 4)[k]? = some (chP i 4)[k] := List.getElem?_eq_getElem hk
            generalize (chP i 4)[k] = j at hjk
            obtain ⟨tj, hj⟩ := ints_at hws hjk
            obtain ⟨j', hj', rfl⟩ : ∃ j' : Nat, j' < 4 ∧ (j' : Int) = j := by
              have := List.mem_of_getElem? hjk
              unfold chP at this
              obtain ⟨j', h1, h2⟩ := List.mem_map.mp this
              exact ⟨j', List.mem_range.mp (List.mem_filter.mp h1).1, h2⟩
            have hrj : row[j']? = some (row[j']'(by omega)) := List.getElem?_eq_getElem (by omega)
            generalize row[j']'(by omega) = bj at hrj
            have hrj2 : rv[((j' : Nat) : Int).toNat]? = some (.bool bj) := by
              rw [hrv, Int.toNat_natCast, List.getElem?_map, hrj]; rfl
            have hz6 : ws6.length ≤ 1000000 := by omega
            have ha6 : ((chP i 4).take (k + 1)).all (fun j => row.getD j.toNat false) = (((chP i 4).take k).all (fun j => row.getD j.toNat false) && bj) := by
              rw [List.take_add_one, hjk, List.all_append]
              simp [List.getD_eq_getElem?_getD, hrj]
            refine R_next_list (by wrow_close) (by wrow_close) hj ⟨_, rfl, ?_⟩
            repeat' x_close
            refine R_item_list (x := .bool bj) (by repeat (first | exact List.mem_append_left _ hav | apply List.mem_cons_of_mem)) (by omega) (by omega) hrj2 ?_ rfl
            repeat' x_close
            · rename_i hb
              refine ⟨_, .ns0 .refl, _, ?_, ?_, rfl⟩
              · simp only [List.length_append, List.length_cons, List.length_nil]; omega
              · rw [ha6]
                cases bj with
                | true => simp at hb
                | false => simp
            · rename_i hb
              refine ⟨_, .ns0 .refl, ws6, by omega, ?_, rfl⟩
              rw [ha6, he6]
              cases bj with
              | true => simp
              | false => simp at hb
          · rintro st' ⟨ws6, hl6, he6, rfl⟩
            have hx6 : ws[(chP i 4).length]? = none := List.getElem?_eq_none (by omega)
            rw [List.take_length] at he6
            refine R_end_list (by wrow_close) (by wrow_close) hx6 ⟨rfl, _, _, by wrow_close, ?_⟩
            repeat' x_close
            refine R_eq_nil (by wrow_close) (by wrow_close) ?_
            repeat' x_close
            · rename_i hb
              refine ⟨_, .skip (.skip (.ns0 .refl)), ws5 ++ [.ref a], _, ?_, ?_, rfl⟩
              · simp only [List.length_append, List.length_cons, List.length_nil]; omega
              · rw [List.take_add_one, hnb, List.any_append]
                have : coverB i row = true := by unfold coverB; rw [← he6]; exact hb
                simp [this]
            · rename_i hb
              refine ⟨_, .skip (.skip (.ns0 .refl)), ws5, _, by omega, ?_, rfl⟩
              rw [List.take_add_one, hnb, List.any_append]
              have : coverB i row = false := by unfold coverB; rw [← he6]; exact hb
              simp [this, he5]
        · rintro st' ⟨ws5, v5, hl5, he5, rfl⟩
          have hx4 : (rowsV rows)[4]? = none := List.getElem?_eq_none (by simp [rowsV, hRl])
          have hz5 : ws5.length ≤ 1000000 := by omega
          refine R_end_list (by wrow_close) (by wrow_close) hx4 ⟨rfl, _, _, by wrow_close, ?_⟩
          repeat' x_close
          rw [List.take_of_length_le (by simp [nearB]; omega)] at he5
          refine R_eq_nil (by wrow_close) (by wrow_close) ?_
          repeat' x_close
          · rename_i hc tl
            have hany : (nearB W O b).any (coverB i) = false := by
              rw [hc] at he5
              simpa using he5.symm
            have hcl := lackC_len (nearB W O b) i
            have hvl := ints_len hvs
            obtain ⟨cv, hcv⟩ : ∃ cv, (lackC (nearB W O b) i)[(chP i 4).length]? = some cv := ⟨_, List.getElem?_eq_getElem (by omega)⟩
            obtain ⟨tv, htv⟩ := ints_at hvs hcv
            have hx' : vs[((ws.length : Nat) : Int).toNat]? = some (.int cv tv) := by rw [Int.toNat_natCast, hwe]; exact htv
            refine R_item_li (x := .int cv tv) (by wrow_close) (by omega) (by omega) hx' ?_ rfl
            repeat' x_close
            refine R_setItem (by wrow_close) (by omega) (by omega) (by rw [Int.toNat_natCast]; omega) ?_
            repeat' x_close
            refine ⟨_, .skip (.skip (.skip (.skip (.keep (.keep (.keep .refl)))))), _, _, _, ?_, rfl⟩
            rw [lackC, if_pos hany, Int.toNat_natCast, hwe, List.getD_eq_getElem?_getD, hcv]
            exact ints_set hvs _ _ _
          · rename_i hc
            have hany : (nearB W O b).any (coverB i) = true := by
              cases q : (nearB W O b).any (coverB i) with
              | true => rfl
              | false => rw [q] at he5; exact absurd he5 hc
            refine ⟨_, .skip (.skip (.skip (.skip (.keep (.keep (.keep .refl)))))), vs, _, _, ?_, rfl⟩
            rw [lackC, if_neg (by rw [hany]; decide)]
            exact hvs
    · rintro st' ⟨vs, v1, v2, hvs, rfl⟩
      refine R_end_R (by wrow_close) rfl ⟨rfl, ?_⟩
      repeat' x_close
      exact ⟨_, .keep (.skip (SLe.trans SLe.drop (.skip (.skip (.skip (.skip (.skip .refl))))))), h _ _ hvs⟩
theorem numsP_len (ns : List Int) : (numsP ns).length = 8 := by
  unfold numsP
  simp
  omega
/-- the text of a number -/
def txtP (a : Int) : Str := spS (fun j => gr (1 + a.fmod 5) (1 + (a.fdiv 5).fmod 3) ((a.fdiv 15).fmod 3) (j + 1 : Nat)) 4
theorem ends_dec : ∀ f : Nat, f < 5 → ∀ s : Nat, s < 3 → ∀ k : Nat, k < 3 → ∀ j : Nat, j < 4 → (endsP (1 + (f : Int)) (1 + (s : Int)) (k : Int)).any (· == ((j + 1 : Nat) : Int)) = gr (1 + (f : Int)) (1 + (s : Int)) (k : Int) (j + 1 : Nat) := by decide +kernel
theorem spS_congr {f g : Nat → Bool} (h : ∀ j, j < 4 → f j = g j) : spS f 4 = spS g 4 := by
  unfold spS
  congr 2
  exact List.map_congr_left fun j hj => by rw [h j (List.mem_range.mp hj)]
theorem fmod_nat (a : Int) (m : Int) (hm : 0 < m) : ∃ f : Nat, (f : Int) < m ∧ a.fmod m = f := by
  have h1 := Int.fmod_nonneg_of_pos a hm
  have h2 := Int.fmod_lt_of_pos a hm
  exact ⟨(a.fmod m).toNat, by omega, by omega⟩
theorem cut_txt (a : Int) : spS (fun j => (endsP (1 + a.fmod 5) (1 + (a.fdiv 5).fmod 3) ((a.fdiv 15).fmod 3)).any (· == ((j + 1 : Nat) : Int))) 4 = txtP a := by
  obtain ⟨f, hf, e1⟩ := fmod_nat a 5 (by decide)
  obtain ⟨s, hs, e2⟩ := fmod_nat (a.fdiv 5) 3 (by decide)
  obtain ⟨k, hk, e3⟩ := fmod_nat (a.fdiv 15) 3 (by decide)
  unfold txtP
  rw [e1, e2, e3]
  exact spS_congr fun j hj => ends_dec f (by omega) s (by omega) k (by omega) j hj
theorem txt_spl (a : Int) : ∃ m, m < 16 ∧ txtP a = tx (spl m) := by
  obtain ⟨m, hm, h⟩ := mask fun j => gr (1 + a.fmod 5) (1 + (a.fdiv 5).fmod 3) ((a.fdiv 15).fmod 3) (j + 1 : Nat)
  exact ⟨m, hm, (spS_congr h).trans rfl⟩
theorem txts_spl : ∀ ns : List Int, ∃ M : List Nat, M.length = ns.length ∧ (∀ m ∈ M, m < 16) ∧ ns.map txtP = M.map fun i => tx (spl i)
  | [] => ⟨[], rfl, (fun _ h => nomatch h), rfl⟩
  | a :: ns => by
    obtain ⟨M, h1, h2, h3⟩ := txts_spl ns
    obtain ⟨m, hm, e⟩ := txt_spl a
    exact ⟨m :: M, by simp [h1], (fun i hi => (List.mem_cons.mp hi).elim (fun q => by rw [q]; exact hm) (h2 i)), by simp [h3, e]⟩
def lets (row : List Bool) : List Str := lettersOf fun j => row.getD j false
def rowB (b : Int) (O : List Nat) (x : Nat) : List Bool := (O.map spl).map fun o => decide ((unP (spl x) o : Int) ≤ b)
theorem near_row {b : Int} {O : List Nat} {x : Nat} {zs : List Int} (ho : O.length = 4) (h : okRow b O x 4 zs) : nearOf b zs = lets (rowB b O x) := by
  obtain ⟨h4, h⟩ := h
  match zs, h4, O, ho with
  | [z0, z1, z2, z3], _, [o0, o1, o2, o3], _ =>
    have k : ∀ (z u : Int), (z = u ∨ b < min z u) → decide (z ≤ b) = decide (u ≤ b) := fun z u q => by
      rcases q with rfl | q
      · rfl
      · rw [decide_eq_false (by omega), decide_eq_false (by omega)]
    have k0 := k _ _ (h 0 o0 z0 rfl rfl)
    have k1 := k _ _ (h 1 o1 z1 rfl rfl)
    have k2 := k _ _ (h 2 o2 z2 rfl rfl)
    have k3 := k _ _ (h 3 o3 z3 rfl rfl)
    have e1 : nearOf b [z0, z1, z2, z3] = (if decide (z0 ≤ b) then [("K" : Str)] else []) ++ (if decide (z1 ≤ b) then [("L" : Str)] else []) ++ (if decide (z2 ≤ b) then [("M" : Str)] else []) ++ (if decide (z3 ≤ b) then [("N" : Str)] else []) := by
      unfold nearOf
      by_cases q0 : z0 ≤ b <;> by_cases q1 : z1 ≤ b <;> by_cases q2 : z2 ≤ b <;> by_cases q3 : z3 ≤ b <;> simp [q0, q1, q2, q3, List.filterMap_cons]
    have e2 : ∀ r0 r1 r2 r3 : Bool, lets [r0, r1, r2, r3] = (if r0 then [("K" : Str)] else []) ++ (if r1 then [("L" : Str)] else []) ++ (if r2 then [("M" : Str)] else []) ++ (if r3 then [("N" : Str)] else []) := by decide +kernel
    rw [e1, k0, k1, k2, k3]
    exact (e2 _ _ _ _).symm
theorem told_near {b : Int} {O : List Nat} (ho : O.length = 4) {rows : List (Addr × List Value)} {W : List Nat} (h : RowsAre (rowOk b O) rows W) :
    ∃ nss, RowsAre IntsAre rows nss ∧ (∀ ns ∈ nss, ns.length = 4) ∧ nss.length = W.length ∧ nss.map (nearOf b) = (W.map (rowB b O)).map lets := by
  induction h with
  | nil => exact ⟨[], .nil, (fun _ h => nomatch h), rfl, rfl⟩
  | cons p _ ih =>
    obtain ⟨nss, h1, h2, h3, h4⟩ := ih
    obtain ⟨zs, hz, hk⟩ := p
    exact ⟨zs :: nss, .cons hz h1, (fun i hi => (List.mem_cons.mp hi).elim (fun q => by rw [q]; exact hk.1) (h2 i)), by simp [h3], by rw [List.map_cons, List.map_cons, List.map_cons, h4, near_row ho hk]⟩
theorem nearB_rows (W O : List Nat) (b : Int) : nearB (W.map spl) (O.map spl) b = W.map (rowB b O) := by
  unfold nearB rowB
  rw [List.map_map]
  rfl
/-- the plain law -/
theorem figs (W O : List Nat) (b : Int) (hw : W.length = 4) : (List.range 5).map (fun k => (qP (totP ((W.map (rowB b O)).map lets) 16) k).fmod 15) = lackC (nearB (W.map spl) (O.map spl) b) 16 ∧ qP (totP ((W.map (rowB b O)).map lets) 16) 5 = 0 := by
  rw [nearB_rows]
  refine fig_law (by simpa using hw) fun i hi => ?_
  rw [List.getElem?_map, List.getD_eq_getElem?_getD, List.getElem?_eq_getElem (by simpa using by omega)]
  rfl
theorem RowsAre.of_map {α : Type} {P : List Value → α → Prop} {r : List (Addr × List Value)} {x : List α} (h : RowsAre P r x) : ∀ r2 : List (Addr × List Value), r2.map (·.2) = r.map (·.2) → RowsAre P r2 x := by
  induction h with
  | nil =>
    intro r2 e
    cases r2 with
    | nil => exact .nil
    | cons p r2 => simp at e
  | cons p _ ih =>
    intro r2 e
    cases r2 with
    | nil => simp at e
    | cons q r2 =>
      obtain ⟨q1, q2⟩ := q
      simp only [List.map_cons, List.cons.injEq] at e
      rw [e.1]
      exact .cons p (ih r2 e.2)
theorem C_law {V : Cx} {n : Nat} {st : Sto} {X : Value → Sto → Prop} {l : Addr} {vs : List Value} {ns : List Int} {Q : Value → Sto → Prop} (hV : V.gp = AllBare) (hl : V.B.IsList l vs.toArray) (hi : IntsAre vs ns) (hz : vs.length ≤ 1000000)
    (h : Q (.bool true) st) : Runs V (n + 8) (call (.ref 322) [.ref l]) st Q X := by
  refine R_fn0 [("script", .ref l)] (by k_is) (by k_is) rfl rfl rfl rfl rfl rfl rfl rfl fun L => ?_
  repeat' x_close
  refine C_numbers hl hi hz fun D1 ws hws => ?_
  have hn8 := numsP_len ns
  generalize numsP ns = N at *
  repeat' x_close
  rename_i it1 D2 C2
  refine comp_ind 8 (fun i st' => ∃ xs, StrsAre xs ((N.take i).map txtP) ∧ st' = (C2, En.ns []) :: (D2, En.list xs) :: (it1, itL D1 i) :: (D1, En.list ws) :: (L, En.ns [("script", .ref l), ("numbers", .ref D1)]) :: st) ?_ ?_ 8 0 _ rfl ⟨[], .nil, rfl⟩
  · rintro i st' hi' ⟨xs, hxs, rfl⟩
    have hNi : N[i]? = some (N[i]'(by omega)) := List.getElem?_eq_getElem (by omega)
    generalize N[i]'(by omega) = a at hNi
    obtain ⟨t, hv⟩ := ints_at hws hNi
    have hxl : xs.length ≤ 1000000 := by rw [strs_len hxs]; simp; omega
    refine R_next_list (by wrow_close) (by wrow_close) hv ⟨_, rfl, ?_⟩
    repeat' x_close
    refine C_cut hV fun t2 => ?_
    rw [cut_txt]
    repeat' x_close
    exact ⟨_, .ns0 .refl, _, by rw [List.take_add_one, hNi, List.map_append]; exact StrsAre_app hxs (.cons _ t2 .nil), rfl⟩
  · rintro st' ⟨xs, hxs, rfl⟩
    have hx8 : ws[8]? = none := List.getElem?_eq_none (by rw [ints_len hws, hn8]; exact Nat.le_refl _)
    rw [List.take_of_length_le (by omega)] at hxs
    refine R_end_list (by wrow_close) (by wrow_close) hx8 ⟨rfl, ?_⟩
    repeat' x_close
    rename_i it2 D3 C3
    refine comp_ind 8 (fun i st' => ∃ ys, StrsAre ys ((N.take i).map txtP) ∧ st' = (C3, En.ns []) :: (D3, En.list ys) :: (it2, itL D1 i) :: (D2, En.list xs) :: (D1, En.list ws) :: (L, En.ns [("script", .ref l), ("numbers", .ref D1), ("spelled", .ref D2)]) :: st) ?_ ?_ 8 0 _ rfl ⟨[], .nil, rfl⟩
    · rintro i st' hi' ⟨ys, hys, rfl⟩
      have hNi : N[i]? = some (N[i]'(by omega)) := List.getElem?_eq_getElem (by omega)
      generalize N[i]'(by omega) = a at hNi
      obtain ⟨t, hv⟩ := ints_at hws hNi
      have hyl : ys.length ≤ 1000000 := by rw [strs_len hys]; simp; omega
      refine R_next_list (by wrow_close) (by wrow_close) hv ⟨_, rfl, ?_⟩
      repeat' x_close
      refine C_spelled fun t2 => ?_
      repeat' x_close
      exact ⟨_, .ns0 .refl, _, by rw [List.take_add_one, hNi, List.map_append]; exact StrsAre_app hys (.cons _ t2 .nil), rfl⟩
    · rintro st' ⟨ys, hys, rfl⟩
      rw [List.take_of_length_le (by omega)] at hys
      refine R_end_list (by wrow_close) (by wrow_close) hx8 ⟨rfl, ?_⟩
      repeat' x_close
      refine R_ne_strs (by wrow_close) (by wrow_close) hxs hys ?_
      rw [decide_eq_true rfl]
      have hxl8 : xs.length = 8 := by rw [strs_len hxs, List.length_map, hn8]
      have hxl : xs.length ≤ 1000000 := by omega
      obtain ⟨M, hM8, hM16, hM⟩ := txts_spl N
      rw [hM] at hxs
      iterate 12 x_close
      refine R_cIntT (a := D3) (e := En.list ys) (by wrow_close) fun t4 => ?_
      repeat' x_close
      refine R_ls_upto (k := 4) (by wrow_close) (by wrow_close) hxl fun w1 => ?_
      repeat' x_close
      refine R_ls_from (k := 4) (by wrow_close) (by wrow_close) hxl fun w2 => ?_
      repeat' x_close
      refine R_sum (by wrow_close) hws fun t1 => ?_
      repeat' x_close
      have hb : 1 + N.sum.fmod 2 = 1 ∨ 1 + N.sum.fmod 2 = 2 := by rw [Int.fmod_eq_emod_of_nonneg _ (by decide)]; omega
      generalize 1 + N.sum.fmod 2 = b at hb ⊢
      rename_i tb T3
      refine Runs.le (st' := (w2, En.list (xs.drop 4)) :: (w1, En.list (xs.take 4)) :: (D3, En.tk 1) :: (L, En.ns [("script", .ref l), ("numbers", .ref D1), ("spelled", .ref D2), ("bound", .int b tb), ("others", .ref w2), ("words", .ref w1)]) :: st) ?_ (.skip (.keep (.skip (.keep (.skip (.keep (.skip (.skip .refl))))))))
      have hvw : StrsAre (xs.take 4) ((M.take 4).map fun i => tx (spl i)) := by rw [List.map_take]; exact strs_take hxs 4
      have hvo : StrsAre (xs.drop 4) ((M.drop 4).map fun i => tx (spl i)) := by rw [List.map_drop]; exact strs_drop hxs 4
      have hW4 : (M.take 4).length = 4 := by rw [List.length_take]; omega
      have hO4 : (M.drop 4).length = 4 := by rw [List.length_drop]; omega
      have hW16 : ∀ i ∈ M.take 4, i < 16 := fun i hi => hM16 i (List.mem_of_mem_take hi)
      have hO16 : ∀ i ∈ M.drop 4, i < 16 := fun i hi => hM16 i (List.mem_of_mem_drop hi)
      generalize M.take 4 = W at *
      generalize M.drop 4 = O at *
      refine C_told (by wrow_close) (by wrow_close) hvw hvo hW4 hO4 hW16 hO16 hb fun D4 rows hR => ?_
      obtain ⟨nss, hn1, hn2, hn3, hn4⟩ := told_near hO4 hR
      repeat' x_close
      · rename_i hc
        exact absurd hc Bool.false_ne_true
      have hz1 : nss.length ≤ 1000 := by omega
      have hm0 : ∀ p ∈ rows, (p.1, En.list p.2) ∈ rowsE rows := fun p hp => List.mem_map.mpr ⟨p, hp, rfl⟩
      refine C_near (by wrow_close) (fun p hp => List.mem_cons_of_mem _ (List.mem_append_left _ (hm0 p hp))) hn1 hn2 hz1 (by simp only [flr, flr1, flr_app]; omega) fun D5 fl F rows' hF hR1 => ?_
      repeat' x_close
      have hm1 : ∀ p ∈ rows', (p.1, En.list p.2) ∈ rowsE rows' := fun p hp => List.mem_map.mpr ⟨p, hp, rfl⟩
      have hdss : nss.map (nearOf b) = ((W.map (rowB b O)).map fun row => (List.range 4).filter fun j => row.getD j false).map fun ds => ds.map fun i => (⟨#[75 + i]⟩ : Str) := by
        rw [hn4, List.map_map (l := W.map (rowB b O))]; rfl
      have hd4 : ∀ ds ∈ (W.map (rowB b O)).map (fun row => (List.range 4).filter fun j => row.getD j false), ds.length ≤ 4 ∧ ∀ i ∈ ds, i < 4 := fun ds hds => by
        obtain ⟨row, _, rfl⟩ := List.mem_map.mp hds
        exact ⟨Nat.le_trans (List.length_filter_le _ _) (by simp), fun i hi => List.mem_range.mp (List.mem_filter.mp hi).1⟩
      refine C_lists (by wrow_close) (fun p hp => List.mem_cons_of_mem _ (List.mem_append_left _ (hm1 p hp))) (by rw [← hdss]; exact hR1) (by simp [hW4]) hd4 fun D6 fl2 rows2 hr2 => ?_
      repeat' x_close
      have hR2 := RowsAre.of_map hR1 rows2 hr2
      have hm2 : ∀ p ∈ rows2, (p.1, En.list p.2) ∈ rowsE rows2 := fun p hp => List.mem_map.mpr ⟨p, hp, rfl⟩
      refine Runs.le (st' := (D6, En.list (rowsV rows2)) :: (rowsE rows2 ++ (fl ++ (D4, En.list (rowsV rows)) :: (rowsE rows ++ (w2, En.list (xs.drop 4)) :: (w1, En.list (xs.take 4)) :: (D3, En.tk 1) :: (L, En.ns [("script", .ref l), ("numbers", .ref D1), ("spelled", .ref D2), ("bound", .int b tb), ("others", .ref w2), ("words", .ref w1), ("told", .ref D4), ("lists", .ref D6)]) :: st)))) ?_ (.keep (.under (.trans SLe.drop (.skip SLe.drop))))
      refine C_near (by wrow_close) (fun p hp => List.mem_cons_of_mem _ (List.mem_append_right _ (List.mem_append_right _ (List.mem_cons_of_mem _ (List.mem_append_left _ (hm0 p hp)))))) hn1 hn2 hz1 (by simp only [flr, flr1, flr_app]; omega) fun D7 fl3 F3 rows3 hF3 hR3 => ?_
      have hm3 : ∀ p ∈ rows3, (p.1, En.list p.2) ∈ rowsE rows3 := fun p hp => List.mem_map.mpr ⟨p, hp, rfl⟩
      refine R_ne_rows (r1 := rows2) (r2 := rows3) (by wrow_close) (by wrow_close) (fun p hp => List.mem_cons_of_mem _ (List.mem_append_right _ (List.mem_append_right _ (List.mem_cons_of_mem _ (List.mem_append_left _ (hm2 p hp)))))) (fun p hp => List.mem_cons_of_mem _ (List.mem_append_left _ (hm3 p hp))) (hR2.mono fun _ _ h => h.strs) (hR3.mono fun _ _ h => h.strs) ?_
      repeat' x_close
      rw [hn4] at hR2
      refine Runs.le (st' := (D6, En.list (rowsV rows2)) :: (rowsE rows2 ++ (fl ++ (w2, En.list (xs.drop 4)) :: (w1, En.list (xs.take 4)) :: (D3, En.tk 1) :: (L, En.ns [("script", .ref l), ("numbers", .ref D1), ("spelled", .ref D2), ("bound", .int b tb), ("others", .ref w2), ("words", .ref w1), ("told", .ref D4), ("lists", .ref D6)]) :: st))) ?_ (.skip (.trans SLe.drop (.trans SLe.drop (.keep (.under (.under (.skip SLe.drop)))))))
      refine C_sum (by wrow_close) (fun p hp => List.mem_cons_of_mem _ (List.mem_append_left _ (hm2 p hp))) hR2 (by simp [hW4]) (fun ys hys => ?_) (by simp only [flr, flr1, flr_app]; omega) (by simp only [flr, flr1, flr_app]; omega) fun t9 => ?_
      · obtain ⟨row, _, rfl⟩ := List.mem_map.mp hys
        unfold lets lettersOf
        rw [List.length_map]
        exact Nat.le_trans (List.length_filter_le _ _) (by simp)
      have hfig := figs W O b hW4
      generalize totP ((W.map (rowB b O)).map lets) 16 = T0 at *
      repeat' x_close
      rename_i fa _ ra _ _
      refine R_iter_R (m := 5) (by wrow_close) rfl rfl (by decide) fun it => ?_
      refine RunsC.le (st' := (it, itR 5 0) :: (fa, En.list []) :: (w2, En.list (xs.drop 4)) :: (w1, En.list (xs.take 4)) :: (D3, En.tk 1) :: (L, En.ns [("script", .ref l), ("numbers", .ref D1), ("spelled", .ref D2), ("bound", .int b tb), ("others", .ref w2), ("words", .ref w1), ("told", .ref D4), ("lists", .ref D6), ("total", .int T0 t9), ("figures", .ref fa)]) :: st) ?_ (.keep (.skip (.keep (.skip (.trans SLe.drop SLe.drop)))))
      refine for_ind 5 (fun k st' => ∃ fs tt, IntsAre fs ((List.range k).map fun k => (qP T0 k).fmod 15) ∧ st' = (it, itR 5 k) :: (fa, En.list fs) :: (w2, En.list (xs.drop 4)) :: (w1, En.list (xs.take 4)) :: (D3, En.tk 1) :: (L, En.ns [("script", .ref l), ("numbers", .ref D1), ("spelled", .ref D2), ("bound", .int b tb), ("others", .ref w2), ("words", .ref w1), ("told", .ref D4), ("lists", .ref D6), ("total", .int (qP T0 k) tt), ("figures", .ref fa)]) :: st) ?_ ?_ 5 0 _ rfl ⟨[], t9, .nil, rfl⟩
      · rintro k st' hk ⟨fs, tt, hfs, rfl⟩
        have hfl : fs.length ≤ 1000000 := by rw [ints_len hfs]; simp; omega
        refine R_next_R (by wrow_close) hk fun tc => ⟨_, rfl, ?_⟩
        repeat' x_close
        refine C_mod (by decide) fun t2 => ?_
        repeat' x_close
        refine C_floordiv (by decide) rfl fun t3 => ?_
        repeat' x_close
        exact ⟨_, .keep (.keep (.keep (.keep (.keep (.nsk 10 .refl))))), _, t3, by rw [List.range_succ, List.map_append]; exact IntsAre_app hfs (.cons _ t2 .nil), rfl⟩
      · rintro st' ⟨fs, tt, hfs, rfl⟩
        refine R_end_R (by wrow_close) rfl ⟨rfl, ?_⟩
        repeat' x_close
        refine C_lacking (W := W.map spl) (O := O.map spl) (by wrow_close) (by wrow_close) (by rw [List.map_map]; exact hvw) (by rw [List.map_map]; exact hvo) (by simp [hW4]) (by simp [hO4]) (fun x hx => ?_) (fun x hx => ?_) fun D8 vs8 h8 => ?_
        · obtain ⟨m, hm, rfl⟩ := List.mem_map.mp hx
          have := spl_facts m (hW16 m hm)
          exact ⟨this.1, this.2.2⟩
        · obtain ⟨m, hm, rfl⟩ := List.mem_map.mp hx
          have := spl_facts m (hO16 m hm)
          exact ⟨this.1, this.2.2⟩
        refine R_eq_ints (by wrow_close) (by wrow_close) hfs h8 ?_
        rw [hfig.1, decide_eq_true rfl, hfig.2]
        repeat' x_close
        exact ⟨st, .skip (.skip (.skip (.skip (.skip (.skip .refl))))), h⟩
end Mine
end

open PySem PySem.W PyProof.Rows
namespace Mine
set_option maxRecDepth 100000 in
set_option maxHeartbeats 8000000 in
theorem law_end {c : ClaimW} {cl : Str → Option Addr} {mean : ExcName → Option Value} {args : List WData} {w : World} {s₁ : Shared} {mg mb : Str → Option Value} {l : Addr} {vs : List Value} {ns : List Int}
    (kin : (hd.heap_1 w.params).In s₁.heap) (g : s₁.heap.Ns mainGlobals mg) (b : s₁.heap.Ns builtinsNs mb) (bb : ∀ x : Str, x ≠ "__name__" → mb x = bootBuiltins x) (lim : s₁.heap.NoLimit) (hg : s₁.gens = #[])
    (hl : s₁.heap.IsList l vs.toArray) (hi : IntsAre vs ns) (hz : vs.length ≤ 1000000) (hr : ∀ cls, c.raises args cls = false) (hp : c.post args (.bool true) args = true) :
    wpAny (model PySem.Challenge.rw_ti0058_01.row.prog w) callerA (call (.ref 322) [.ref l]) (fun v s' => GoodWG c cl mean args s₁ (.ok (.ret v)) s') (fun e s' => GoodWG c cl mean args s₁ (.error e) s') s₁ := by
  have R := C_law (V := ⟨w, s₁.heap, mg, mb, s₁.drawn, s₁.os, AllBare⟩) (n := 0) (st := []) (X := noX) (l := l) (vs := vs) (ns := ns) (Q := fun v _ => v = .bool true) rfl hl hi hz rfl
  refine R callerA s₁ _ _ ⟨rfl, by decide, by decide⟩ ⟨⟨kin, g, b, bb, lim⟩, Nat.zero_le _, .nil fun _ _ e => e, by show AllBare s₁.gens; rw [hg]; exact AllBare.empty, rfl, rfl⟩ ?_ ?_
  · rintro v s' st' I rfl
    exact ⟨.inl ⟨_, _, [], rfl, hr, ReadsW.bool true, hp, fun _ => ⟨List.nodup_nil, fun _ hm => (nomatch hm)⟩⟩, .of_keep I.st.old, I.os, I.gp⟩
  · intro e s' st' I h
    exact h.elim
end Mine
set_option maxRecDepth 100000 in
set_option maxHeartbeats 8000000 in
theorem PySem.Challenge.cw_ti0058_01_holds : PySem.Challenge.rw_ti0058_01.Holds := by
  refine Mine.hd ?_
  k_fill
  intro w s₀ s₁ mg mb G Y fa o pm cd doc dV kV ho hd hcd hD hmg hg args vals as hpre hlay hrd hwl hlo
  have KX := kIn_of Y
  have X := (Ground.X G).1
  have V := (Ground.X G).2
  refine Ground.open G ?_
  intro T B D TE TW
  wrow_args hpre hlay hrd hwl hlo
  x_fa T KX hmg
  all_lens
  refine Mine.law_end KX T.g T.b T.builtins T.nolimit hg (by assumption) (by assumption) ?_ (fun _ => rfl) (by wrow_post)
  omega
