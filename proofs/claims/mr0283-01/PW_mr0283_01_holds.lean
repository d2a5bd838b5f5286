import PyProof.Rows.All
import Wide.All
import OpenK.AllK
import Wide.FinOn
import KE.KSortAsk
import KE.KSortTup
import PySem.Challenge.RW_mr0283_01
set_option Elab.async false
section
open PySem PySem.W PyProof.Rows
set_option Elab.async false
set_option maxRecDepth 100000
set_option maxHeartbeats 8000000
namespace Mine
/- the look at the law's text, in pieces -/
theorem look_names : namesResolve PySem.Challenge.rw_mr0283_01.row.prog = true := by
  first | (rw [PySem.W.Fast.te8377067652309620493]; kernel_rfl) | kernel_rfl
theorem look_road : noRoadLSs { strict := !(importedModules PySem.Challenge.rw_mr0283_01.row.prog.main.body).all cThrough.contains, foot := none, bare := (["vars", "dir", "locals"] : List Str).filter (readsOut PySem.Challenge.rw_mr0283_01.row.prog PySem.Challenge.rw_mr0283_01.row.prog.main.body) } PySem.Challenge.rw_mr0283_01.row.prog.main.body = true := by
  first | (rw [PySem.W.Fast.te8326940854005059898]; kernel_rfl) | kernel_rfl
theorem look_attr : (namesMeet PySem.Challenge.rw_mr0283_01.row.prog PySem.Challenge.rw_mr0283_01.row.prog.main.body fun _ n => attrL n) = true := by
  first | (rw [PySem.W.Fast.te17119622794617984870, show (fun (_ : Scope) n => attrL n) = fun _ n => PySem.W.Fast.tw17868728402115742887 n by rw [PySem.W.Fast.te17868728402115742887]]; kernel_rfl) | kernel_rfl
theorem looks : looksOpen PySem.Challenge.rw_mr0283_01.row.prog = true := by
  unfold looksOpen
  rw [look_names, look_road, look_attr]
  kernel_rfl
theorem row_look : PySem.Challenge.rw_mr0283_01.row.wellSaid = true := by
  unfold OpenRow.wellSaid OpenRow.partSaid
  rw [looks]
  kernel_rfl
theorem said : PySem.Challenge.rw_mr0283_01.wellSaid = true := by
  rw [OpenLaw.wellSaid, row_look, Bool.true_and]
  first | rw [PySem.W.Fast.te8326940854005059898] | skip
  first | rw [PySem.W.Fast.te17119622794617984870] | skip
  first | rw [PySem.W.Fast.named_eq] | skip
  kernel_rfl
/-- the part of the text that the head pins -/
noncomputable def view : Program := { PySem.Challenge.rw_mr0283_01.row.prog with main := { PySem.Challenge.rw_mr0283_01.row.prog.main with body := (PySem.Challenge.rw_mr0283_01.row.prog.main.body.drop 3).take 11 ++ PySem.Challenge.rw_mr0283_01.row.prog.main.body.drop 17 } }
local macro_rules | `(tactic| o_head $H) => `(tactic| (
  refine holds_open (q := Mine.view) (loose := [Str.ofString "capwords", Str.ofString "nsmallest", Str.ofString "nlargest"]) (Xt := fun s => xlAt Mine.view [] s && recOk PySem.Challenge.rw_mr0283_01.row.records s) (XP := XL Mine.view []) (Yf := Hook.obs $H) (Ya := Hook.val $H) (YP := Hook.says $H) (N := 1316) (fun w => by kernel_rfl) (Hook.of $H) (Hook.keeps $H) (fun s e => xl_of s (Bool.and_eq_true_iff.mp e).1) XL.keeps (by rfl) (by rfl) (by rfl) (fun s e => recFacts_of (Bool.and_eq_true_iff.mp e).2) (by rfl) row_look (by decide +kernel) ⟨rfl, rfl, rfl, rfl, rfl, by decide +kernel⟩ ?hw ?hc))
open_top hd for PySem.Challenge.rw_mr0283_01.row
end Mine
end
section
open PySem PySem.W PyProof.Rows PySem.Calls
set_option Elab.async false
set_option linter.all false
set_option maxRecDepth 100000
namespace Mine

/-- what orders the heap's things: text, place, and (in the triples) the name -/
structure Key where
  s : List Nat
  i : Int
  e : List Nat

def Key.lt (a b : Key) : Bool :=
  if a.s = b.s then (if a.i = b.i then decide (a.e < b.e) else decide (a.i < b.i)) else decide (a.s < b.s)

/-- v is a tuple of a text, a place and, where b says so, a second text -/
def KeyAt (b : Bool) (h : Heap) (v : Value) (k : Key) : Prop :=
  ∃ a xs, v = .ref a ∧ IsTup h a xs ∧
    (if b = true then ∃ S t t' T t'', xs = #[.str S t, .int k.i t', .str T t''] ∧ k.s = S.cps.toList ∧ k.e = T.cps.toList
     else ∃ S t t', xs = #[.str S t, .int k.i t'] ∧ k.s = S.cps.toList ∧ k.e = [])

theorem KeyAt.keep {b : Bool} {h h' : Heap} {v : Value} {k : Key} (x : KeyAt b h v k) (hk : ∀ a, v = .ref a → ∀ o, h.get? a = some o → h'.get? a = some o) : KeyAt b h' v k := by
  obtain ⟨a, xs, e, ⟨o, ho, r⟩, r'⟩ := x
  exact ⟨a, xs, e, ⟨o, hk a e o ho, r⟩, r'⟩

theorem str_eq_iff (x y : Str) : (x == y) = decide (x.cps.toList = y.cps.toList) := by
  rw [Bool.eq_iff_iff]
  simp only [beq_iff_eq, decide_eq_true_eq]
  constructor
  · rintro rfl; rfl
  · intro e
    cases x; cases y
    simp only [Str.mk.injEq]
    exact Array.toList_inj.mp e

section
variable {prog : Program} {w : World} {A : Around} {E : Value → Shared → Prop} {s : Shared}

theorem lt_key {b : Bool} {u v : Value} {k k' : Key} {Q : Value → Shared → Prop} (hu : KeyAt b s.heap u k) (hv : KeyAt b s.heap v k') (hr : A.units < cLine)
    (h : Q (.bool (k.lt k')) s) : wpAny (model prog w) A (compareOp .Lt u v) Q E s := by
  obtain ⟨a, xs, rfl, ha, hx⟩ := hu
  obtain ⟨c, ys, rfl, hc, hy⟩ := hv
  show wpAny _ _ (richCompare .Lt (.ref a) (.ref c)) Q E s
  refine wpAny_richCompare_same_room (op := .Lt) (T := "tuple") ha.typeIs hc.typeIs F.slot_tuple_lt
    (wpAny_call_entry F.slot_tuple_lt ha.typeIs F.entry_tuple_lt ?_ (F.args_tuple_lt_2 _ _)) hr
  change wpAny _ _ (bind _ _) _ _ _
  refine wpAny_bind (wpAny_pure ?_)
  dsimp only
  refine wpAny_bind (wpAny_isInstance hc.typeIs (b := true) (by rw [isSubtype_type]; kernel_rfl) ?_)
  simp only [Bool.not_true, Bool.false_eq_true, if_false]
  refine wpAny_bind (tupleItemsOf_ ha (wpAny_bind (tupleItemsOf_ hc ?_)))
  generalize hb : (fun (x : Value × Value) (_ : Option PySem.Fin × Unit) => _) = body
  have hS : ∀ {S T : Str} {t u : Tok} {R : ForInStep (Option PySem.Fin × Unit) → Shared → Prop}, (S.cps.toList = T.cps.toList → R (.yield (none, ())) s) →
      (S.cps.toList ≠ T.cps.toList → R (.done (some (.done (.ret (.bool (decide (S.cps.toList < T.cps.toList))))), ())) s) →
      wpAny (model prog w) A.in1 (body (Value.str S t, Value.str T u) (none, ())) R E s := by
    intro S T t u R h1 h2
    rw [← hb]
    refine wpAny_bind (eqBool_str ?_)
    rw [str_eq_iff]
    by_cases e : S.cps.toList = T.cps.toList
    · rw [decide_eq_true e]
      simp only [Bool.not_true, Bool.false_eq_true, if_false]
      exact wpAny_pure (h1 e)
    · rw [decide_eq_false e]
      simp only [Bool.not_false, if_true]
      exact wpAny_bind (wpAny_rule (wpAny_bind (show wpAny _ _ (compareOp .Lt _ _) _ _ _ from lt_str (wpAny_bind (wpAny_pure (wpAny_pure (h2 e)))))))
  have hI : ∀ {S T : Int} {t u : Tok} {R : ForInStep (Option PySem.Fin × Unit) → Shared → Prop}, (S = T → R (.yield (none, ())) s) →
      (S ≠ T → R (.done (some (.done (.ret (.bool (decide (S < T))))), ())) s) →
      wpAny (model prog w) A.in1 (body (Value.int S t, Value.int T u) (none, ())) R E s := by
    intro S T t u R h1 h2
    rw [← hb]
    refine wpAny_bind (wpAny_eqBool_int ?_)
    by_cases e : S = T
    · subst e
      simp only [beq_self_eq_true, Bool.not_true, Bool.false_eq_true, if_false]
      exact wpAny_pure (h1 rfl)
    · rw [show (S == T) = false from beq_eq_false_iff_ne.mpr e]
      simp only [Bool.not_false, if_true]
      exact wpAny_bind (wpAny_rule (wpAny_bind (show wpAny _ _ (compareOp .Lt _ _) _ _ _ from lt_int (wpAny_bind (wpAny_pure (wpAny_pure (h2 e)))))))
  cases b with
  | true =>
    simp only [if_true] at hx hy
    obtain ⟨S, t, t', T, t'', rfl, e1, e2⟩ := hx
    obtain ⟨S₂, u, u', T₂, u'', rfl, f1, f2⟩ := hy
    simp only [Key.lt, e1, e2, f1, f2] at h
    show wpAny _ _ (bind (forIn [(Value.str S t, Value.str S₂ u), (Value.int k.i t', Value.int k'.i u'), (Value.str T t'', Value.str T₂ u'')] _ _) _) _ _ _
    refine wpAny_bind ?_
    rw [List.forIn_cons]
    refine wpAny_bind (hS (fun e => ?_) fun e => ?_)
    · dsimp only
      rw [if_pos e] at h
      rw [List.forIn_cons]
      refine wpAny_bind (hI (fun e' => ?_) fun e' => ?_)
      · dsimp only
        rw [if_pos e'] at h
        rw [List.forIn_cons]
        refine wpAny_bind (hS (fun e'' => ?_) fun e'' => ?_)
        · dsimp only
          rw [List.forIn_nil]
          rw [e'', decide_eq_false (List.lt_irrefl _)] at h
          exact wpAny_pure (wpAny_pure ⟨_, rfl, (fun x => nomatch x), h⟩)
        · exact wpAny_pure (wpAny_pure ⟨_, rfl, by simp, h⟩)
      · rw [if_neg e'] at h
        exact wpAny_pure (wpAny_pure ⟨_, rfl, by simp, h⟩)
    · rw [if_neg e] at h
      exact wpAny_pure (wpAny_pure ⟨_, rfl, by simp, h⟩)
  | false =>
    simp only [Bool.false_eq_true, if_false] at hx hy
    obtain ⟨S, t, t', rfl, e1, e2⟩ := hx
    obtain ⟨S₂, u, u', rfl, f1, f2⟩ := hy
    simp only [Key.lt, e1, e2, f1, f2] at h
    show wpAny _ _ (bind (forIn [(Value.str S t, Value.str S₂ u), (Value.int k.i t', Value.int k'.i u')] _ _) _) _ _ _
    refine wpAny_bind ?_
    rw [List.forIn_cons]
    refine wpAny_bind (hS (fun e => ?_) fun e => ?_)
    · dsimp only
      rw [if_pos e] at h
      rw [List.forIn_cons]
      refine wpAny_bind (hI (fun e' => ?_) fun e' => ?_)
      · dsimp only
        rw [if_pos e'] at h
        rw [List.forIn_nil]
        rw [decide_eq_false (List.lt_irrefl _)] at h
        exact wpAny_pure (wpAny_pure ⟨_, rfl, (fun x => nomatch x), h⟩)
      · rw [if_neg e'] at h
        exact wpAny_pure (wpAny_pure ⟨_, rfl, by simp, h⟩)
    · rw [if_neg e] at h
      exact wpAny_pure (wpAny_pure ⟨_, rfl, by simp, h⟩)
end
end Mine
end
section
open PySem
set_option Elab.async false
set_option linter.all false
namespace Mine
theorem om1q : ∀ (y0 : Nat) (y1 : Nat), y0 ≤ (11 : Nat) → y1 = y0 → y1 < (1000 : Nat) := by intros; subst_vars; exact Nat.lt_of_le_of_lt (by assumption) (by decide)
theorem om2q : ∀ (y0 : Nat) (y1 : Nat), (5 : Nat) ≤ y0 → y1 = y0 → (5 : Nat) ≤ y1 := by intros; subst_vars; assumption
theorem om3q : ∀ (y0 : Nat) (y1 : Nat), y0 + (6 : Nat) < y1 → y0 + (3 : Nat) < y1 := by intros; omega
theorem om4q : ∀ (y0 : Nat) (y1 : Nat), y0 + (100 : Nat) < y1 → y0 + (64 : Nat) < y1 := by intros; omega
theorem om5q : ∀ (y0 : Nat) (y1 : Nat), (5 : Nat) ≤ y0 → y1 < (5 : Nat) → y1 < y0 := by intros; exact Nat.lt_of_lt_of_le (by assumption) (by assumption)
theorem om6q : ∀ (y0 : Nat) (y1 : Nat), y0 ≤ (11 : Nat) → y1 ≤ (6 : Nat) → y1 + y0 ≤ (20 : Nat) := by intros; omega
theorem om7q : ∀ (y0 : Nat) (y1 : Nat), y0 + (6 : Nat) < y1 → y0 + (2 : Nat) < y1 := by intros; omega
theorem om8q : ∀ (y0 : Nat) (y1 : Nat) (y2 : Nat), y0 ≤ (11 : Nat) → y1 = y0 - y2 → y1 < (300 : Nat) := by intros; omega
theorem om9q : ∀ (y0 : Nat) (y1 : Nat) (y2 : Nat), y0 < y1 → y2 = y1 - y0 → (0 : Nat) < y2 := by intros; omega
theorem om10q : ∀ (y0 : Nat) (y1 : Nat), y0 ≤ (11 : Nat) → min y1 y0 ≤ (11 : Nat) := by intros; omega
theorem om11q : ∀ (y0 : Nat) (y1 : Nat), y0 ≤ (6 : Nat) → y1 ≤ (11 : Nat) → y0 + y1 < (1000 : Nat) := by intros; omega
theorem om12q : ∀ (y0 : Nat), y0 ≤ (11 : Nat) → y0 < (1000 : Nat) := by intros; exact Nat.lt_of_le_of_lt (by assumption) (by decide)
theorem om13q : -(2 : Int) ^ (62 : Nat) ≤ (5 : Int) := by intros; decide
theorem om14q : (5 : Int) < (2 : Int) ^ (62 : Nat) := by intros; decide
theorem om15q : ∀ (y0 : Nat), -(2 : Int) ^ (62 : Nat) ≤ (↑y0 : Int) := by intros; omega
theorem om16q : ∀ (y0 : Nat), y0 ≤ (11 : Nat) → (↑y0 : Int) < (2 : Int) ^ (62 : Nat) := by intros; omega
theorem om17q : ∀ (y0 : Nat), (↑(Int.toNat ((↑y0 : Int) - (5 : Int))) : Int) = (↑(y0 - (5 : Nat)) : Int) := by intros; omega
theorem om18q : ∀ (y0 : Nat), (5 : Int) + (↑y0 : Int) * (1 : Int) = (↑((5 : Nat) + y0) : Int) := by intros; omega
theorem om19q : ∀ (y0 : Nat), (5 : Nat) ≤ (5 : Nat) + y0 := by intros; omega
theorem om20q : ∀ (y0 : Nat) (y1 : Nat), y0 < y1 - (5 : Nat) → (5 : Nat) + y0 < y1 := by intros; omega
theorem om21q : ∀ (y0 : Nat) (y1 : Nat) (y2 : Nat), (5 : Nat) + y0 - (4 : Nat) < y1 → y2 = y1 → y0 + (1 : Nat) < y2 := by intros; omega
theorem om22q : ∀ (y0 : Nat), (↑((5 : Nat) + y0) : Int) - (4 : Int) = (↑(y0 + (1 : Nat)) : Int) := by intros; omega
theorem om23q : ∀ (y0 : Nat) (y1 : Nat), y0 = y1 → y1 ≤ (7 : Nat) → y0 < (1000 : Nat) := by intros; subst_vars; exact Nat.lt_of_le_of_lt (by assumption) (by decide)
theorem om24q : Int.natAbs (5 : Int) < (1073741824 : Nat) := by intros; decide
theorem om25q : ∀ (y0 : Nat) (y1 : Nat) (y2 : Nat), (5 : Nat) + y0 < y1 → y2 < (5 : Nat) + y0 → y2 < y1 := by intros; exact Nat.lt_trans (by assumption) (by assumption)
theorem om26q : ∀ (y0 : Nat), (5 : Nat) + y0 < (5 : Nat) + y0 → False := by intros; omega
theorem om27q : ∀ (y0 : Nat) (y1 : Nat) (y2 : Nat), y0 = y1 → (5 : Nat) + y2 < y1 → (5 : Nat) + y2 < y0 := by intros; subst_vars; assumption
theorem om28q : ∀ (y0 : Nat) (y1 : Nat) (y2 : Nat) (y3 : Nat), y0 ≤ (11 : Nat) → (5 : Nat) + y1 < y0 → y2 + (1 : Nat) ≤ (5 : Nat) + y1 → y3 = y2 + (1 : Nat) → y3 < (300 : Nat) := by intros; omega
theorem om29q : ∀ (y0 : Nat) (y1 : Nat), y0 = y1 + (1 : Nat) → (0 : Nat) < y0 := by intros; omega
theorem om30q : ∀ (y0 : Nat) (y1 : Nat) (y2 : Nat), y0 ≤ (11 : Nat) → y1 ≤ y2 → (5 : Nat) + y2 < y0 → y1 < (1000 : Nat) := by intros; omega
theorem om31q : ∀ (y0 : Nat) (y1 : Nat) (y2 : Nat), y0 ≤ (11 : Nat) → (5 : Nat) + y1 < y0 → y2 + (1 : Nat) ≤ (5 : Nat) + y1 → y2 + (1 : Nat) < (1000 : Nat) := by intros; omega
theorem om32q : ∀ (y0 : Nat), (5 : Nat) ≤ y0 + (1 : Nat) → (2 : Nat) ≤ y0 + (1 : Nat) := by intros; omega
theorem om33q : ∀ (y0 : Nat) (y1 : Nat) (y2 : Nat), y0 ≤ (11 : Nat) → (5 : Nat) + y1 < y0 → y2 + (1 : Nat) ≤ (5 : Nat) + y1 → y2 + (1 : Nat) < (64 : Nat) := by intros; omega
theorem om34q : ∀ (y0 : Nat), (1 : Nat) ≤ y0 + (1 : Nat) := by intros; omega
theorem om35q : ∀ (y0 : Nat) (y1 : Nat), y0 ≤ y1 → y0 ≤ y1 := by intros; assumption
theorem om36q : ∀ (y0 : Nat) (y1 : Nat), y0 < (5 : Nat) + y1 → y0 < (5 : Nat) + (y1 + (1 : Nat)) := by intros; exact Nat.le_succ_of_le (by assumption)
theorem om37q : ∀ (y0 : Nat), (5 : Nat) + y0 < (5 : Nat) + (y0 + (1 : Nat)) := by intros; exact Nat.le_refl _
theorem om38q : ∀ (y0 : Nat) (y1 : Nat), y0 + (1 : Nat) ≤ (5 : Nat) + y1 → y0 + (1 : Nat) ≤ (5 : Nat) + (y1 + (1 : Nat)) := by intros; exact Nat.le_succ_of_le (by assumption)
theorem om39q : ∀ (y0 : Nat), (5 : Nat) ≤ y0 + (1 : Nat) → (5 : Nat) ≤ y0 + (1 : Nat) := by intros; assumption
theorem om40q : ∀ (y0 : Nat) (y1 : Nat) (y2 : Nat), y0 ≤ (11 : Nat) → (5 : Nat) + y1 < y0 → y2 + (1 : Nat) ≤ (5 : Nat) + y1 → y2 + (1 : Nat) + (1 : Nat) < (1000 : Nat) := by intros; omega
theorem om41q : ∀ (y0 : Nat), (2 : Nat) ≤ y0 + (2 : Nat) := by intros; omega
theorem om42q : ∀ (y0 : Nat) (y1 : Nat) (y2 : Nat), y0 ≤ (11 : Nat) → (5 : Nat) + y1 < y0 → y2 + (1 : Nat) ≤ (5 : Nat) + y1 → y2 + (2 : Nat) < (64 : Nat) := by intros; omega
theorem om43q : ∀ (y0 : Nat), (1 : Nat) ≤ y0 + (2 : Nat) := by intros; omega
theorem om44q : ∀ (y0 : Nat) (y1 : Nat) (y2 : Nat) (y3 : Nat), y0 ≤ (11 : Nat) → (5 : Nat) + y1 < y0 → y2 + (1 : Nat) ≤ (5 : Nat) + y1 → y3 = y2 + (1 : Nat) → y3 + (1 : Nat) < (1000 : Nat) := by intros; omega
theorem om45q : ∀ (y0 : Nat) (y1 : Nat) (y2 : Nat), y0 + (1 : Nat) ≤ (5 : Nat) + y1 → y2 = y0 + (1 : Nat) → y2 ≤ (5 : Nat) + (y1 + (1 : Nat)) := by intros; subst_vars; exact Nat.le_succ_of_le (by assumption)
theorem om46q : ∀ (y0 : Nat) (y1 : Nat), (5 : Nat) ≤ y0 + (1 : Nat) → y1 = y0 + (1 : Nat) → (5 : Nat) ≤ y1 := by intros; subst_vars; assumption
theorem om47q : ∀ (y0 : Nat) (y1 : Nat) (y2 : Nat), y0 + (1 : Nat) ≤ (5 : Nat) + y1 → y2 = y0 + (2 : Nat) → y2 ≤ (5 : Nat) + (y1 + (1 : Nat)) := by intros; subst_vars; exact Nat.lt_succ_of_le (by assumption)
theorem om48q : ∀ (y0 : Nat) (y1 : Nat), (5 : Nat) ≤ y0 + (1 : Nat) → y1 = y0 + (2 : Nat) → (5 : Nat) ≤ y1 := by intros; subst_vars; exact Nat.le_succ_of_le (by assumption)
theorem om49q : ∀ (y0 : Nat) (y1 : Nat), y0 ≤ y1 → y0 ≤ y1 + (1 : Nat) := by intros; exact Nat.le_succ_of_le (by assumption)
theorem om50q : ∀ (y0 : Nat), (5 : Nat) ≤ y0 → (5 : Nat) + (y0 - (5 : Nat)) = y0 := by intros; omega
theorem om51q : ∀ (y0 : Nat) (y1 : Nat), y0 ≤ (11 : Nat) → y1 ≤ y0 → y1 ≤ (11 : Nat) := by intros; exact Nat.le_trans (by assumption) (by assumption)
theorem om52q : ∀ (y0 : Nat) (y1 : Nat), y0 ≤ (11 : Nat) → y1 ≤ y0 - (5 : Nat) → y1 ≤ (6 : Nat) := by intros; omega
theorem om53q : ∀ (y0 : Nat), y0 < (5 : Nat) → y0 < (5 : Nat) + (0 : Nat) := by intros; assumption
theorem om54q : ∀ (y0 : Nat) (y1 : Nat) (y2 : Nat), y0 ≤ (50 : Nat) → y1 = min y0 y2 → y1 < (1000 : Nat) := by intros; omega
theorem om55q : ∀ (y0 : Nat) (y1 : Nat) (y2 : Nat), y0 = min y1 y2 → y1 = (0 : Nat) → y0 = (0 : Nat) := by intros; omega
theorem om56q : ∀ (y0 : Nat), (2 : Nat) ≤ y0 → (1 : Nat) ≤ y0 := by intros; exact Nat.le_of_lt (by assumption)
theorem om57q : ∀ (y0 : Nat) (y1 : Nat) (y2 : Nat), (2 : Nat) ≤ y0 → y1 = min y2 y0 → ¬y2 = (0 : Nat) → (0 : Nat) < y1 := by intros; omega
theorem om58q : ∀ (y0 : Nat) (y1 : Nat), y0 + (4 : Nat) < y1 → y0 + (3 : Nat) < y1 := by intros; exact Nat.le_of_lt (by assumption)
theorem om59q : ∀ (y0 : Nat) (y1 : Nat), y0 + (70 : Nat) < y1 → y0 + (64 : Nat) < y1 := by intros; omega
theorem om60q : ∀ (y0 : Nat) (y1 : Nat) (y2 : Nat), y0 ≤ (50 : Nat) → y1 = min y0 y2 → y1 < (300 : Nat) := by intros; omega
theorem om61q : ∀ (y0 : Nat) (y1 : Nat) (y2 : Nat), y0 = min y1 y2 → y0 ≤ y1 := by intros; omega
theorem om62q : ∀ (y0 : Nat) (y1 : Nat) (y2 : Nat) (y3 : Nat), y0 ≤ (50 : Nat) → y1 = min y0 y2 → y3 = y1 → y3 < (1000 : Nat) := by intros; omega
theorem om63q : (0 : Nat) < (1000 : Nat) := by intros; decide
theorem om64q : ∀ (y0 : Nat) (y1 : Nat) (y2 : Nat), (2 : Nat) ≤ y0 → y1 ≠ (1 : Nat) → ¬y1 = (0 : Nat) → y2 = min y1 y0 → (2 : Nat) ≤ y2 := by intros; omega
theorem om65q : ∀ (y0 : Nat) (y1 : Nat) (y2 : Nat), y0 ≤ (50 : Nat) → y1 = min y0 y2 → y1 < (64 : Nat) := by intros; omega
theorem om66q : ∀ (y0 : Nat) (y1 : Nat) (y2 : Nat) (y3 : Nat), y0 = min y1 y2 → (0 : Nat) < y0 → y3 = min y1 y2 → (1 : Nat) ≤ y3 := by intros; subst_vars; assumption
theorem om67q : ∀ (y0 : Nat) (y1 : Nat), y0 ≤ (50 : Nat) → min y0 y1 ≤ (1000 : Nat) := by intros; omega
theorem om68q : ∀ (y0 : Nat) (y1 : Nat) (y2 : Nat), y0 < y1 - y2 → min y2 y1 + y0 = y2 + y0 := by intros; omega
theorem om69q : ∀ (y0 : Nat) (y1 : Nat), y0 + (4 : Nat) < y1 → y0 < y1 := by intros; exact Nat.lt_of_le_of_lt (Nat.le_add_right _ _) (by assumption)
theorem om70q : ∀ (y0 : Nat) (y1 : Nat), y0 + (4 : Nat) < y1 → y0 + (2 : Nat) < y1 := by intros; omega
theorem om71q : ∀ (y0 : Nat) (y1 : Nat) (y2 : Nat) (y3 : Nat), y0 = min y1 y2 → (0 : Nat) < y0 → y3 = min y1 y2 → (0 : Nat) < y3 := by intros; subst_vars; assumption
theorem om72q : ∀ (y0 : Int), y0 < y0 + (1 : Int) := by intros; omega
theorem om73q : ∀ (y0 : Nat) (y1 : Nat) (y2 : Nat), y0 < y1 - y2 → min y2 y1 + (y0 + (1 : Nat)) = y2 + y0 + (1 : Nat) := by intros; omega
theorem om74q : ∀ (y0 : Nat) (y1 : Nat), min y0 y1 + (y1 - y0) = y1 := by intros; omega
theorem om75q : -(2 : Int) ^ (62 : Nat) ≤ (0 : Int) := by intros; decide
theorem om76q : (0 : Int) < (2 : Int) ^ (62 : Nat) := by intros; decide
theorem om77q : ∀ (y0 : Nat), y0 ≤ (50 : Nat) → (↑y0 : Int) < (2 : Int) ^ (62 : Nat) := by intros; omega
theorem om78q : ∀ (y0 : Nat), (↑(Int.toNat ((↑y0 : Int) - (0 : Int))) : Int) = (↑y0 : Int) := by intros; omega
theorem om79q : ∀ (y0 : Nat) (y1 : Nat), y0 < y1 → (1 : Nat) ≤ y1 := by intros; omega
theorem om80q : ∀ (y0 : Nat) (y1 : Nat), y0 + (5 : Nat) < y1 → y0 < y1 := by intros; exact Nat.lt_of_le_of_lt (Nat.le_add_right _ _) (by assumption)
theorem om81q : ∀ (y0 : Nat) (y1 : Nat), y0 + (5 : Nat) < y1 → y0 + (1 : Nat) + (3 : Nat) < y1 := by intros; exact Nat.le_of_lt (by assumption)
theorem om82q : ∀ (y0 : Nat), ¬y0 = (1 : Nat) → (↑y0 : Int) ≠ (1 : Int) := by intros; omega
theorem om83q : ∀ (y0 : Nat) (y1 : Nat), y0 + (5 : Nat) < y1 → y0 + (1 : Nat) + (4 : Nat) < y1 := by intros; assumption
theorem om84q : ∀ (y0 : Nat) (y1 : Nat), y0 + (80 : Nat) < y1 → y0 + (3 : Nat) + (70 : Nat) < y1 := by intros; omega
theorem om85q : ∀ (y0 : Nat), y0 ≤ (40 : Nat) → y0 < (1000 : Nat) := by intros; exact Nat.lt_of_le_of_lt (by assumption) (by decide)
theorem om86q : ∀ (y0 : Nat) (y1 : Nat), y0 ≤ y1 → (↑y0 : Int) ≤ (↑y1 : Int) := by intros; omega
theorem om87q : ∀ (y0 : Nat), y0 ≤ (40 : Nat) → y0 < (64 : Nat) := by intros; exact Nat.lt_of_le_of_lt (by assumption) (by decide)
theorem om88q : ∀ (y0 : Nat) (y1 : Nat), y0 + (5 : Nat) < y1 → y0 + (1 : Nat) < y1 := by intros; omega
theorem om89q : ∀ (y0 : Nat) (y1 : Nat) (y2 : Nat) (y3 : Nat), y0 = y1 → y2 = y0 → y3 = y1 → y2 = y3 := by intros; omega
theorem om90q : ∀ (y0 : Nat) (y1 : Nat), ¬y0 ≤ y1 → ¬(↑y0 : Int) ≤ (↑y1 : Int) := by intros; omega
theorem om91q : ∀ (y0 : Nat), y0 < (1000 : Nat) → y0 ≤ (16777216 : Nat) := by intros; omega
theorem om92q : ∀ (y0 : Nat), y0 ≤ (7 : Nat) → y0 + (1 : Nat) < (1000 : Nat) := by intros; omega
theorem om93q : ∀ (y0 : Nat) (y1 : Nat), y0 ≤ (7 : Nat) → y1 = (5 : Nat) + (y0 - (1 : Nat)) → y1 < (1000 : Nat) := by intros; omega
theorem om94q : ∀ (y0 : Nat), (↑y0 : Int) + (2 : Int) ≠ (0 : Int) := by intros; omega
theorem om95q : ∀ (y0 : Nat), (0 : Int) < (↑y0 : Int) + (2 : Int) := by intros; omega
theorem om96q : ∀ (y0 : Int), (0 : Int) ≤ y0 → y0 = (↑(Int.toNat y0) : Int) := by intros; omega
theorem om97q : ∀ (y0 : Nat) (y1 : Nat) (y2 : Nat), y0 ≤ (7 : Nat) → y1 = (5 : Nat) + (y0 - (1 : Nat)) → (↑y2 : Int) < (↑y1 : Int) + (2 : Int) → y2 ≤ (40 : Nat) := by intros; omega
theorem om98q : ∀ (y0 : Nat) (y1 : Nat), y0 = (5 : Nat) + (y1 - (1 : Nat)) → (5 : Nat) ≤ y0 := by intros; omega
theorem om99q : ∀ (y0 : Nat) (y1 : Nat), y0 ≤ (7 : Nat) → y1 = (5 : Nat) + (y0 - (1 : Nat)) → y1 ≤ (11 : Nat) := by intros; omega
theorem om100q : ∀ (y0 : Nat) (y1 : Nat) (y2 : Nat), y0 = (5 : Nat) + (y1 - (1 : Nat)) → (5 : Nat) ≤ y2 → y2 < y0 → y2 - (4 : Nat) < y1 := by intros; omega
theorem om101q : ∀ (y0 : Nat), y0 ≤ (7 : Nat) → y0 < (1000 : Nat) := by intros; exact Nat.lt_of_le_of_lt (by assumption) (by decide)
theorem om102q : ∀ (y0 : Nat) (y1 : Nat), y0 ≤ (7 : Nat) → y1 = y0 - (1 : Nat) → y1 ≤ (1000 : Nat) := by intros; omega
theorem om103q : ∀ (y0 : Nat) (y1 : Nat), y0 + (7 : Nat) < y1 → y0 < y1 := by intros; exact Nat.lt_of_le_of_lt (Nat.le_add_right _ _) (by assumption)
theorem om104q : ∀ (y0 : Nat) (y1 : Nat) (y2 : Nat) (y3 : Nat), y0 ≤ (7 : Nat) → y1 = (5 : Nat) → y2 = y0 - (1 : Nat) → y3 = y2 → y1 + y3 < (1000 : Nat) := by intros; omega
theorem om105q : ∀ (y0 : Nat) (y1 : Nat), y0 ≤ (63 : Nat) → y1 = y0 → y1 < (1000 : Nat) := by intros; subst_vars; exact Nat.lt_of_le_of_lt (by assumption) (by decide)
theorem om106q : ∀ (y0 : Nat), min (7 : Nat) y0 ≤ (7 : Nat) := by intros; omega
theorem om107q : ∀ (y0 : Nat), y0 ≤ (7 : Nat) → y0 ≤ (1000 : Nat) := by intros; omega
theorem om108q : ∀ (y0 : Nat) (y1 : Nat), y0 ≤ (7 : Nat) → y1 = y0 → y1 ≤ (7 : Nat) := by intros; subst_vars; assumption
theorem om109q : ∀ (y0 : Nat), y0 + (2 : Nat) + (1 : Nat) < y0 + (1 : Nat) → False := by intros; omega
theorem om110q : ∀ (y0 : Nat), y0 + (2 : Nat) + (1 : Nat) < y0 → False := by intros; omega
theorem om111q : ∀ (y0 : Nat) (y1 : Nat) (y2 : Nat), y0 = y1 → y2 < y1 → y2 < y0 := by intros; subst_vars; assumption
theorem om112q : ∀ (y0 : Nat) (y1 : Nat), y0 + (7 : Nat) < y1 → y0 + (6 : Nat) < y1 := by intros; exact Nat.le_of_lt (by assumption)
theorem om113q : ∀ (y0 : Nat) (y1 : Nat), y0 ≤ (11 : Nat) → y1 = y0 → y1 ≤ (1000 : Nat) := by intros; omega
theorem om114q : ∀ (y0 : Nat) (y1 : Nat), y0 = y1 → (1 : Nat) ≤ y1 → (1 : Nat) ≤ y0 := by intros; subst_vars; assumption
theorem om115q : ∀ (y0 : Nat) (y1 : Nat) (y2 : Nat), y0 = y1 → y2 < y0 → y2 < y1 := by intros; subst_vars; assumption
theorem om116q : ∀ (y0 : Nat) (y1 : Nat) (y2 : Nat) (y3 : Nat), y0 = y1 → y2 = y0 → y3 < y1 → y3 < y2 := by intros; subst_vars; assumption
theorem om117q : ∀ (y0 : Nat) (y1 : Nat) (y2 : Nat), (5 : Nat) ≤ y0 → y1 = y0 → y2 = y1 → (2 : Nat) ≤ y2 := by intros; omega
theorem om118q : ∀ (y0 : Nat) (y1 : Nat) (y2 : Nat), y0 ≤ (11 : Nat) → y1 = y0 → y2 = y1 → y2 < (64 : Nat) := by intros; subst_vars; exact Nat.lt_of_le_of_lt (by assumption) (by decide)
theorem om119q : ∀ (y0 : Nat) (y1 : Nat) (y2 : Nat) (y3 : Nat), y0 = y1 → y2 = y0 → y3 < y2 → y3 < y1 := by intros; subst_vars; assumption
theorem om120q : ∀ (y0 : Nat), (5 : Nat) ≤ y0 → (1 : Nat) ≤ y0 := by intros; omega
theorem om121q : ∀ (y0 : Nat) (y1 : Nat) (y2 : Nat), y0 = y1 → y2 ≥ y1 → y0 ≤ y2 := by intros; subst_vars; assumption
theorem om122q : ∀ (y0 : Nat) (y1 : Nat) (y2 : Nat), y0 = y1 → y0 ≤ y2 → y1 ≤ y2 := by intros; subst_vars; assumption
theorem om123q : ∀ (y0 : Nat) (y1 : Nat), (5 : Nat) ≤ y0 → y1 = y0 → (2 : Nat) ≤ y1 := by intros; omega
theorem om124q : ∀ (y0 : Nat) (y1 : Nat), y0 ≤ (11 : Nat) → y1 = y0 → y1 < (64 : Nat) := by intros; subst_vars; exact Nat.lt_of_le_of_lt (by assumption) (by decide)
theorem om125q : ∀ (y0 : Nat), (5 : Nat) ≤ y0 → (2 : Nat) ≤ y0 := by intros; omega
theorem om126q : ∀ (y0 : Nat), y0 ≤ (11 : Nat) → y0 ≤ (40 : Nat) := by intros; omega
theorem om127q : ∀ (y0 : Nat), y0 ≤ (40 : Nat) → y0 ≤ (50 : Nat) := by intros; omega
theorem om128q : ∀ (y0 : Nat) (y1 : Nat), y0 + (7 : Nat) < y1 → y0 + (5 : Nat) < y1 := by intros; omega
theorem om129q : ∀ (y0 : Nat) (y1 : Nat), y0 + (100 : Nat) < y1 → y0 + (80 : Nat) < y1 := by intros; omega
theorem om130q : ∀ (y0 : Nat) (y1 : Nat), y0 + (100 : Nat) < y1 → y0 < y1 := by intros; exact Nat.lt_of_le_of_lt (Nat.le_add_right _ _) (by assumption)
theorem om131q : ∀ (y0 : Nat) (y1 : Nat), y0 ≤ (50 : Nat) → y1 ≤ y0 + (1 : Nat) → y1 ≤ (100 : Nat) := by intros; omega
theorem om132q : ∀ (y0 : Nat) (y1 : Nat), y0 ≤ (50 : Nat) → y1 ≤ y0 → y1 ≤ (100 : Nat) := by intros; omega
theorem om133q : ∀ (y0 : Nat), y0 < (2 : Nat) → y0 = (0 : Nat) ∨ y0 = (1 : Nat) := by intros; omega
theorem om134q : ∀ (y0 : Nat), y0 ≤ (20 : Nat) → y0 ≤ (1000 : Nat) := by intros; omega
theorem om135q : ∀ (y0 : Nat) (y1 : Nat) (y2 : Nat), y0 < y1 → y2 = y1 → y0 < y2 := by intros; subst_vars; assumption
theorem om136q : ∀ (y0 : Nat) (y1 : Nat) (y2 : Nat), y0 < y1 → y1 = y2 → y0 < y2 := by intros; subst_vars; assumption
theorem om137q : ∀ (y0 : Nat) (y1 : Nat), y0 + (6 : Nat) < y1 → y0 < y1 := by intros; exact Nat.lt_of_le_of_lt (Nat.le_add_right _ _) (by assumption)
theorem om138q : ∀ (y0 : Nat) (y1 : Nat), y0 + (100 : Nat) < y1 → y0 + (1 : Nat) < y1 := by intros; omega
theorem om139q : ∀ (y0 : Nat) (y1 : Nat), y0 + y1 < (1000 : Nat) → y0 + y1 ≤ (16777216 : Nat) := by intros; omega
theorem om140q : ∀ (y0 : Nat) (y1 : Nat) (y2 : Nat), y0 < min y1 y2 → y0 < y2 := by intros; omega
theorem om141q : ∀ (y0 : Nat) (y1 : Nat) (y2 : Nat), y0 ≤ y1 → y2 < y0 → (↑y2 : Int) < (↑y1 : Int) := by intros; omega
theorem om142q : ∀ (y0 : Nat) (y1 : Nat), y0 < y1 → (↑y0 : Int) < (↑y1 : Int) := by intros; omega
theorem om143q : ∀ (y0 : Nat) (y1 : Nat), y0 = y1 → y1 ≤ y0 := by intros; subst_vars; exact Nat.le_refl _
theorem om144q : ∀ (y0 : Nat), (1 : Nat) ≤ y0 → y0 = y0 - (1 : Nat) + (1 : Nat) := by intros; omega
theorem om145q : ∀ (y0 : Nat), ¬y0 < y0 + (0 : Nat) := by intros; omega
theorem om146q : ∀ (y0 : Nat) (y1 : Nat), y0 + (1 : Nat) ≤ y1 → (1 : Nat) ≤ y1 := by intros; omega
theorem om147q : ∀ (y0 : Nat) (y1 : Nat), y0 + (1 : Nat) = y1 → y1 = y0 + (1 : Nat) := by intros; omega
theorem om148q : ∀ (y0 : Nat) (y1 : Nat), y0 + (1 : Nat) = y1 → y1 - (1 : Nat) = y0 := by intros; omega
theorem om149q : ∀ (y0 : Nat) (y1 : Nat), y0 ≤ y0 + (y1 + (1 : Nat)) := by intros; omega
theorem om150q : ∀ (y0 : Nat) (y1 : Nat), y0 + (1 : Nat) ≤ y1 → y0 ≤ y1 - (1 : Nat) := by intros; omega
theorem om151q : ∀ (y0 : Nat) (y1 : Nat), y0 + (1 : Nat) = y1 → y0 + (1 : Nat) = y1 := by intros; assumption
theorem om152q : ∀ (y0 : Nat) (y1 : Nat), y0 < y1 → y0 < y1 + (1 : Nat) := by intros; exact Nat.le_succ_of_le (by assumption)
theorem om153q : ∀ (y0 : Nat), y0 < y0 + (1 : Nat) := by intros; exact Nat.le_refl _
theorem om154q : ∀ (y0 : Nat) (y1 : Nat) (y2 : Nat), y0 < y1 + (y2 + (1 : Nat)) → y0 < y1 + (1 : Nat) + y2 := by intros; omega
theorem om155q : ∀ (y0 : Nat) (y1 : Nat), y0 = y1 + (1 : Nat) → (1 : Nat) ≤ y0 := by intros; omega
theorem om156q : ∀ (y0 : Nat) (y1 : Nat) (y2 : Nat), y0 + (y1 + (1 : Nat)) = y2 → y2 = y0 + (y1 + (1 : Nat)) := by intros; omega
theorem om157q : ∀ (y0 : Nat) (y1 : Nat) (y2 : Nat), y0 + (y1 + (1 : Nat)) = y2 → y2 - (1 : Nat) = y0 + y1 := by intros; omega
theorem om158q : ∀ (y0 : Nat) (y1 : Nat) (y2 : Nat), y0 + (y1 + (1 : Nat)) = y2 → y0 + (y1 + (1 : Nat)) = y2 := by intros; assumption
theorem om159q : ∀ (y0 : Nat) (y1 : Nat), y0 + (1 : Nat) ≤ y1 → y0 ≤ y1 := by intros; exact Nat.le_of_lt (by assumption)
theorem om160q : ∀ (y0 : Nat) (y1 : Nat) (y2 : Nat), y0 ≤ y1 + (1 : Nat) + y2 → y0 ≤ y1 + (y2 + (1 : Nat)) := by intros; omega
theorem om161q : ∀ (y0 : Nat) (y1 : Nat) (y2 : Nat), y0 + (1 : Nat) ≤ y1 → y0 + (1 : Nat) + (y2 - (1 : Nat)) - y1 = y0 + y2 - y1 := by intros; omega
theorem om162q : ∀ (y0 : Nat) (y1 : Nat) (y2 : Nat) (y3 : Nat), y0 + (1 : Nat) = y1 + (1 : Nat) → y2 + (y0 + (1 : Nat)) = y3 → y3 - (y1 + (1 : Nat)) = y2 := by intros; omega
theorem om163q : ∀ (y0 : Nat) (y1 : Nat) (y2 : Nat), y0 + y1 = y2 → y2 = y0 + y1 := by intros; omega
theorem om164q : ∀ (y0 : Nat) (y1 : Nat) (y2 : Nat), y0 + (y1 + (1 : Nat)) = y2 → y0 + (y1 + (2 : Nat)) = y2 + (1 : Nat) := by intros; omega
theorem om165q : ∀ (y0 : Nat) (y1 : Nat), y0 + (1 : Nat) = y1 + (1 : Nat) → y0 = y1 := by intros; omega
theorem om166q : ∀ (y0 : Nat) (y1 : Nat), y0 = y1 → y1 = y0 := by intros; omega
theorem om167q : ∀ (y0 : Nat) (y1 : Nat) (y2 : Nat), y0 = y1 → y1 ≤ y2 → y0 + (y2 - y1) = y2 := by intros; omega
theorem om168q : ∀ (y0 : Nat) (y1 : Nat), (1 : Nat) ≤ y0 → y0 ≤ y1 → (1 : Nat) ≤ y1 := by intros; exact Nat.lt_of_lt_of_le (by assumption) (by assumption)
theorem om169q : ∀ (y0 : Nat) (y1 : Nat), y0 ≤ y1 → y1 = y0 + (y1 - y0) := by intros; omega
theorem om170q : ∀ (y0 : Nat) (y1 : Nat), y0 + y1 - y0 = y1 := by intros; omega
theorem om171q : ∀ (y0 : Nat) (y1 : Nat) (y2 : Nat), y0 + y1 + y2 - (y0 + y1) = y2 := by intros; omega
theorem om172q : ∀ (y0 : Nat) (y1 : Nat), y0 < y1 → (1 : Nat) ≤ y1 - y0 := by intros; omega
theorem om173q : ∀ (y0 : Nat) (y1 : Nat) (y2 : Nat), y0 < y1 → y0 + (1 : Nat) + (y1 - (y0 + (1 : Nat))) - y2 = y1 - y2 := by intros; omega
theorem om174q : ∀ (y0 : Nat) (y1 : Nat) (y2 : Nat), y0 + y1 = y2 → y0 + y1 = y2 := by intros; assumption
theorem om175q : ∀ (y0 : Nat) (y1 : Nat) (y2 : Nat) (y3 : Nat), y0 = y1 + (1 : Nat) → y2 + y0 = y3 → (1 : Nat) ≤ y3 := by intros; omega
theorem om176q : ∀ (y0 : Nat) (y1 : Nat) (y2 : Nat), y0 < y1 → y2 ≤ y0 + (1 : Nat) + (y1 - (y0 + (1 : Nat))) → y2 ≤ y1 := by intros; omega
theorem om177q : ∀ (y0 : Nat) (y1 : Nat) (y2 : Nat) (y3 : Nat), y0 = y1 + (1 : Nat) → y2 + y0 = y3 → y3 - (y1 + (1 : Nat)) = y2 := by intros; omega
theorem om178q : ∀ (y0 : Nat) (y1 : Nat), y0 = y1 + (1 : Nat) → ¬y1 > (0 : Nat) → y0 = (1 : Nat) := by intros; omega
theorem om179q : (0 : Nat) < (1 : Nat) := by intros; decide
theorem om180q : ∀ (y0 : Nat), (1 : Nat) ≤ y0 → (1 : Nat) ≤ y0 := by intros; assumption
theorem om181q : ∀ (y0 : Nat) (y1 : Nat), y0 < y1 → y0 - (1 : Nat) < y1 := by intros; exact Nat.lt_of_le_of_lt (Nat.sub_le _ _) (by assumption)
theorem om182q : ∀ (y0 : Nat), (1 : Nat) ≤ y0 → (0 : Nat) < y0 := by intros; assumption
theorem om183q : ∀ (y0 : Nat), y0 > (1 : Nat) → y0 - (1 : Nat) < y0 := by intros; omega
theorem om184q : ∀ (y0 : Nat) (y1 : Nat), y0 < y1 → ¬y0 = y1 - (1 : Nat) → y0 < y1 - (1 : Nat) := by intros; omega
theorem om185q : ∀ (y0 : Nat), y0 > (1 : Nat) → (0 : Nat) < y0 := by intros; exact Nat.le_of_lt (by assumption)
theorem om186q : ∀ (y0 : Nat), ¬y0 = (0 : Nat) → (0 : Nat) < y0 := by intros; exact Nat.pos_of_ne_zero (by assumption)
theorem om187q : ∀ (y0 : Nat), (1 : Nat) ≤ y0 → ¬y0 > (1 : Nat) → y0 = (1 : Nat) := by intros; omega
theorem om188q : ∀ (y0 : Nat) (y1 : Nat) (y2 : Nat), y0 ≤ y1 → y1 ≤ y2 → y0 ≤ y2 := by intros; exact Nat.le_trans (by assumption) (by assumption)
theorem om189q : ∀ (y0 : Nat) (y1 : Nat) (y2 : Nat), y0 - y1 ≤ (0 : Nat) → y1 ≤ y2 → y0 ≤ y2 := by intros; omega
theorem om190q : ∀ (y0 : Nat) (y1 : Nat) (y2 : Nat), y0 ≥ y1 → y0 ≤ y2 → y1 ≤ y2 := by intros; exact Nat.le_trans (by assumption) (by assumption)
theorem om191q : ∀ (y0 : Nat) (y1 : Nat) (y2 : Nat) (y3 : Nat), y0 = y1 → y2 ≤ y1 → ¬y3 ≥ y2 → (y3 + y2) / (2 : Nat) < y0 := by intros; omega
theorem om192q : ∀ (y0 : Nat) (y1 : Nat) (y2 : Nat) (y3 : Nat), y0 = y1 → y2 < y3 → y3 < y1 → y2 < y0 := by intros; subst_vars; exact Nat.lt_trans (by assumption) (by assumption)
theorem om193q : ∀ (y0 : Nat) (y1 : Nat), ¬y0 ≥ y1 → y0 ≤ (y0 + y1) / (2 : Nat) := by intros; omega
theorem om194q : ∀ (y0 : Nat) (y1 : Nat) (y2 : Nat), y0 ≤ y1 → ¬y2 ≥ y0 → (y2 + y0) / (2 : Nat) ≤ y1 := by intros; omega
theorem om195q : ∀ (y0 : Nat) (y1 : Nat) (y2 : Nat), y0 - y1 ≤ y2 + (1 : Nat) → (y1 + y0) / (2 : Nat) - y1 ≤ y2 := by intros; omega
theorem om196q : ∀ (y0 : Nat) (y1 : Nat) (y2 : Nat), (y0 + y1) / (2 : Nat) ≤ y2 → ¬y2 = (y0 + y1) / (2 : Nat) → (y0 + y1) / (2 : Nat) < y2 := by intros; omega
theorem om197q : ∀ (y0 : Nat) (y1 : Nat), ¬y0 ≥ y1 → (y0 + y1) / (2 : Nat) + (1 : Nat) ≤ y1 := by intros; omega
theorem om198q : ∀ (y0 : Nat) (y1 : Nat) (y2 : Nat), y0 - y1 ≤ y2 + (1 : Nat) → y0 - ((y1 + y0) / (2 : Nat) + (1 : Nat)) ≤ y2 := by intros; omega
theorem om199q : ∀ (y0 : Nat) (y1 : Nat) (y2 : Nat), y0 < (y1 + y2) / (2 : Nat) + (1 : Nat) → ¬y0 = (y1 + y2) / (2 : Nat) → y0 < (y1 + y2) / (2 : Nat) := by intros; omega
theorem om200q : ∀ (y0 : Nat) (y1 : Nat) (y2 : Nat), y0 ≤ y1 → ¬y2 ≥ y0 → (y2 + y0) / (2 : Nat) < y1 := by intros; omega
theorem om201q : ∀ (y0 : Nat) (y1 : Nat), y0 + (0 : Nat) = y1 → y0 = y1 := by intros; assumption
theorem om202q : ∀ (y0 : Nat) (y1 : Nat) (y2 : Nat), y0 + (y1 + (1 : Nat)) = y2 → (1 : Nat) ≤ y2 - y0 := by intros; omega
theorem om203q : ∀ (y0 : Nat), (0 : Nat) ≤ y0 := by intros; omega
theorem om204q : ∀ (y0 : Nat), y0 ≤ y0 := by intros; exact Nat.le_refl _
theorem om205q : ∀ (y0 : Nat), y0 - (0 : Nat) ≤ y0 := by intros; exact Nat.le_refl _
theorem om206q : ∀ (y0 : Nat), ¬y0 < (0 : Nat) := by intros; omega
theorem om207q : ∀ (y0 : Nat) (y1 : Nat), y0 ≤ y1 → ¬y1 < y0 := by intros; omega
theorem om208q : ∀ (y0 : Nat) (y1 : Nat) (y2 : Nat), y0 = y1 → y2 ≤ y1 → y2 = min y2 y0 := by intros; omega
theorem om209q : ∀ (y0 : Nat) (y1 : Nat) (y2 : Nat), y0 = y1 → y1 = min y2 y0 + (y0 - y2) := by intros; omega
theorem om210q : ∀ (y0 : Nat) (y1 : Nat) (y2 : Nat), y0 + (y1 + (1 : Nat)) = y2 → y0 + (1 : Nat) + y1 = y2 := by intros; omega
theorem om211q : ∀ (y0 : Nat) (y1 : Nat) (y2 : Nat), y0 = y1 → min y2 y0 + (y0 - y2 + (1 : Nat)) = y1 + (1 : Nat) := by intros; omega
theorem om212q : ∀ (y0 : Nat) (y1 : Nat) (y2 : Nat), y0 + (y1 + (1 : Nat)) = y2 → y0 + (1 : Nat) ≤ y2 := by intros; omega
theorem om213q : ∀ (y0 : Nat) (y1 : Nat), y0 - y1 - (1 : Nat) = y0 - (y1 + (1 : Nat)) := by intros; omega
theorem om214q : ∀ (y0 : Nat) (y1 : Nat), y0 ≤ y0 + y1 := by intros; omega
theorem om215q : ∀ (y0 : Nat) (y1 : Nat) (y2 : Nat) (y3 : Nat), y0 = y1 → y2 < y0 - y3 → y3 + y2 < y1 := by intros; omega
theorem om216q : ∀ (y0 : Nat) (y1 : Nat) (y2 : Nat), y0 < y1 - y2 → y2 + y0 < y1 := by intros; omega
theorem om217q : ∀ (y0 : Nat) (y1 : Nat) (y2 : Nat), y0 < min y1 y2 → y0 < y1 := by intros; omega
theorem om218q : ∀ (y0 : Nat) (y1 : Nat), y0 < y1 → y0 + (y1 - y0) = y1 := by intros; omega
theorem om219q : ∀ (y0 : Nat) (y1 : Nat), ¬y0 < y1 → y0 ≤ y1 → y0 = y1 := by intros; omega
theorem om220q : ∀ (y0 : Nat) (y1 : Nat), ¬y0 < y1 → y1 ≤ y0 := by intros; omega
theorem om221q : ∀ (y0 : Nat) (y1 : Nat) (y2 : Nat), ¬y0 < y1 → y0 < y1 + y2 → y0 - y1 < y2 := by intros; omega
theorem om222q : ∀ (y0 : Nat) (y1 : Nat) (y2 : Nat), ¬y0 < y1 + y2 → y1 + y2 ≤ y0 := by intros; omega
theorem om223q : ∀ (y0 : Nat) (y1 : Nat) (y2 : Nat), y0 - (y1 + y2) = y0 - y1 - y2 := by intros; omega
theorem om224q : ∀ (y0 : Nat) (y1 : Nat) (y2 : Nat), y0 + (y1 + y2) = y0 + y1 + y2 := by intros; omega
theorem om225q : ∀ (y0 : Nat) (y1 : Nat) (y2 : Nat) (y3 : Nat) (y4 : Nat), y0 = y1 + y2 → y3 = y1 + y2 + y4 → y0 ≤ y3 := by intros; omega
theorem om226q : ∀ (y0 : Nat) (y1 : Nat) (y2 : Nat) (y3 : Nat), y0 = y1 → y0 ≤ y2 ∧ y2 < y3 → ¬y0 + y3 - (1 : Nat) - y2 < y1 := by intros; omega
theorem om227q : ∀ (y0 : Nat) (y1 : Nat) (y2 : Nat) (y3 : Nat) (y4 : Nat), y0 = y1 + y2 → y3 ≤ y4 ∧ y4 < y0 → y3 + y0 - (1 : Nat) - y4 < y1 + y2 := by intros; omega
theorem om228q : ∀ (y0 : Nat) (y1 : Nat) (y2 : Nat) (y3 : Nat), y0 = y1 → y0 ≤ y2 ∧ y2 < y3 → ¬y2 < y1 := by intros; omega
theorem om229q : ∀ (y0 : Nat) (y1 : Nat) (y2 : Nat) (y3 : Nat) (y4 : Nat), y0 = y1 + y2 → y3 ≤ y4 ∧ y4 < y0 → y4 < y1 + y2 := by intros; omega
theorem om230q : ∀ (y0 : Nat) (y1 : Nat) (y2 : Nat) (y3 : Nat) (y4 : Nat), y0 = y1 → y2 = y1 + y3 → y0 ≤ y4 ∧ y4 < y2 → y4 - y1 < y3 := by intros; omega
theorem om231q : ∀ (y0 : Nat) (y1 : Nat) (y2 : Nat) (y3 : Nat) (y4 : Nat), y0 = y1 → y2 = y1 + y3 → y0 ≤ y4 ∧ y4 < y2 → y0 + y2 - (1 : Nat) - y4 - y1 = y3 - (1 : Nat) - (y4 - y1) := by intros; omega
theorem om232q : ∀ (y0 : Nat) (y1 : Nat) (y2 : Nat) (y3 : Nat) (y4 : Nat), y0 = y1 → y2 = y1 + y3 → ¬(y0 ≤ y4 ∧ y4 < y2) → ¬y4 < y1 → ¬y4 < y1 + y3 := by intros; omega
theorem om233q : ∀ (y0 : Nat) (y1 : Nat) (y2 : Nat), y0 + (y1 + (y2 + (1 : Nat))) = y0 + y1 + y2 + (1 : Nat) := by intros; omega
theorem om234q : ∀ (y0 : Nat) (y1 : Nat) (y2 : Nat) (y3 : Nat) (y4 : Nat), y0 = y1 + y2 → y3 = y1 + y2 + y4 + (1 : Nat) → y0 < y3 := by intros; omega
theorem om235q : ∀ (y0 : Nat) (y1 : Nat), y0 - y1 ≤ y0 := by intros; omega
theorem om236q : ∀ (y0 : Nat) (y1 : Nat) (y2 : Nat), y0 = y1 + y2 → ¬y0 < y1 := by intros; omega
theorem om237q : ∀ (y0 : Nat) (y1 : Nat) (y2 : Nat), y0 = y1 + y2 → ¬y0 < y1 + y2 := by intros; omega
theorem om238q : ∀ (y0 : Nat) (y1 : Nat) (y2 : Nat) (y3 : Nat) (y4 : Nat), y0 = y1 → y2 = y1 + y3 → y4 = y2 - (y2 - y0) → ¬y4 < y1 := by intros; omega
theorem om239q : ∀ (y0 : Nat) (y1 : Nat) (y2 : Nat) (y3 : Nat) (y4 : Nat), y0 = y1 + y2 → y3 = y0 - (y0 - y4) → y3 < y1 + (y2 + (1 : Nat)) := by intros; omega
theorem om240q : ∀ (y0 : Nat) (y1 : Nat) (y2 : Nat), y0 = y1 + y2 → y0 - y1 - y2 = (0 : Nat) := by intros; omega
theorem om241q : ∀ (y0 : Nat) (y1 : Nat) (y2 : Nat) (y3 : Nat), y0 = y1 → y2 = y3 - (y3 - y0) → y2 - y1 = (0 : Nat) := by intros; omega
theorem om242q : ∀ (y0 : Nat) (y1 : Nat) (y2 : Nat) (y3 : Nat), y0 = y1 → y2 - (y2 - y0) < y3 ∧ y3 ≤ y2 → ¬y3 - (1 : Nat) < y1 := by intros; omega
theorem om243q : ∀ (y0 : Nat) (y1 : Nat) (y2 : Nat) (y3 : Nat) (y4 : Nat), y0 = y1 + y2 → y0 - (y0 - y3) < y4 ∧ y4 ≤ y0 → y4 - (1 : Nat) < y1 + y2 := by intros; omega
theorem om244q : ∀ (y0 : Nat) (y1 : Nat) (y2 : Nat) (y3 : Nat), y0 = y1 → y2 - (y2 - y0) < y3 ∧ y3 ≤ y2 → ¬y3 < y1 := by intros; omega
theorem om245q : ∀ (y0 : Nat) (y1 : Nat) (y2 : Nat) (y3 : Nat) (y4 : Nat), y0 = y1 + y2 → y0 - (y0 - y3) < y4 ∧ y4 ≤ y0 → y4 < y1 + (y2 + (1 : Nat)) := by intros; omega
theorem om246q : ∀ (y0 : Nat) (y1 : Nat) (y2 : Nat) (y3 : Nat), y0 = y1 → y2 - (y2 - y0) < y3 ∧ y3 ≤ y2 → y3 - y1 = y3 - (1 : Nat) - y1 + (1 : Nat) := by intros; omega
theorem om247q : ∀ (y0 : Nat) (y1 : Nat) (y2 : Nat) (y3 : Nat) (y4 : Nat), y0 = y1 → y2 = y1 + y3 → ¬y4 = y2 - (y2 - y0) → ¬(y2 - (y2 - y0) < y4 ∧ y4 ≤ y2) → ¬y4 < y1 → ¬y4 < y1 + y3 := by intros; omega
theorem om248q : ∀ (y0 : Nat) (y1 : Nat) (y2 : Nat) (y3 : Nat) (y4 : Nat), y0 = y1 → y2 = y1 + y3 → ¬y4 = y2 - (y2 - y0) → ¬(y2 - (y2 - y0) < y4 ∧ y4 ≤ y2) → ¬y4 < y1 → ¬y4 < y1 + (y3 + (1 : Nat)) := by intros; omega
theorem om249q : ∀ (y0 : Nat) (y1 : Nat) (y2 : Nat) (y3 : Nat) (y4 : Nat), y0 = y1 → y2 = y1 + y3 → ¬y4 = y2 - (y2 - y0) → ¬(y2 - (y2 - y0) < y4 ∧ y4 ≤ y2) → ¬y4 < y1 → y4 - y1 - y3 = y4 - y1 - (y3 + (1 : Nat)) + (1 : Nat) := by intros; omega
theorem om250q : ∀ (y0 : Int) (y1 : Int), ¬y0 < y1 → ¬y1 < y0 → y0 = y1 := by intros; omega
theorem om251q : ∀ (y0 : Nat) (y1 : Nat), y0 < y1 → (y0 - (1 : Nat)) / (2 : Nat) < y1 := by intros; omega
theorem om252q : ∀ (y0 : Int) (y1 : Int), -y0 < -y1 → y1 < y0 := by intros; omega
theorem om253q : ∀ (y0 : Nat) (y1 : Nat), y0 ≠ y1 → y0 < y1 ∨ y1 < y0 := by intros; omega
theorem om254q : ∀ (y0 : Nat) (y1 : Nat), y0 < y1 + (1 : Nat) → ¬y0 = y1 → y0 < y1 := by intros; omega
theorem om255q : ∀ (y0 : Nat) (y1 : Nat), y0 = y1 → y0 < y1 → False := by intros; omega
theorem om256q : ∀ (y0 : Nat) (y1 : Nat) (y2 : Int) (y3 : Int), y0 < y1 → y1 < y0 → y2 < y3 := by intros; omega
theorem om257q : ∀ (y0 : Nat) (y1 : Nat) (y2 : Nat), y0 = min y1 y2 → y1 ≤ y2 → y1 ≤ y0 := by intros; omega
theorem om258q : ∀ (y0 : Nat) (y1 : Nat) (y2 : Nat), ¬y0 ≤ y1 → min y0 y1 + y2 = y1 → y2 = (0 : Nat) := by intros; omega
theorem om259q : ∀ (y0 : Nat) (y1 : Nat) (y2 : Nat), y0 = y1 → y2 < y1 → y0 - (1 : Nat) - y2 < y0 := by intros; omega
theorem om260q : ∀ (y0 : Nat) (y1 : Nat) (y2 : Nat), y0 + (0 : Nat) = y1 → y2 = y1 → y2 ≤ y0 := by intros; subst_vars; exact Nat.le_refl _
theorem om261q : ∀ (y0 : Nat) (y1 : Nat) (y2 : Nat) (y3 : Nat), y0 + (0 : Nat) = y1 → y2 = y1 → y3 < y0 → Min.min (y0 - y3) (y2 - y3) = (0 : Nat) → False := by intros; omega
theorem om262q : ∀ (y0 : Nat) (y1 : Nat), y0 + (0 : Nat) = y1 → y1 = y0 := by intros; omega
theorem om263q : ∀ (y0 : Nat) (y1 : Nat) (y2 : Nat) (y3 : Nat), y0 + (y1 + (1 : Nat)) = y2 → y3 = y2 → y0 < y3 := by intros; omega
theorem om264q : ∀ (y0 : Nat) (y1 : Nat) (y2 : Nat) (y3 : Nat) (y4 : Nat) (y5 : Nat) (y6 : Nat), y0 < y1 → y2 = y0 → y3 < y2 → y4 ≤ y5 → y4 = y6 → y5 ≤ y3 → ¬y6 = y1 := by intros; omega
theorem om265q : ∀ (y0 : Nat) (y1 : Nat), y0 ≤ y1 → y1 + (1 : Nat) - y0 = y1 - y0 + (1 : Nat) := by intros; omega
theorem om266q : ∀ (y0 : Nat) (y1 : Nat), y0 ≤ y1 → y0 + (y1 - y0) = y1 := by intros; omega
theorem om267q : ∀ (y0 : Nat) (y1 : Nat) (y2 : Nat), y0 < y1 → y2 < y0 → Min.min (y0 - y2) (y1 - y2) = (0 : Nat) → False := by intros; omega
theorem om268q : ∀ (y0 : Nat) (y1 : Nat) (y2 : Nat), y0 < y1 → y2 ≤ y0 → y2 + (y1 - y0 + (1 : Nat)) ≤ y1 + (1 : Nat) := by intros; omega
theorem om269q : ∀ (y0 : Nat), (0 : Nat) + y0 = y0 := by intros; omega
theorem om270q : ∀ (y0 : Nat) (y1 : Nat), y0 < y1 → y1 < (1000 : Nat) → (↑y0 : Int) < (2 : Int) ^ (63 : Nat) := by intros; omega
theorem om271q : ∀ (y0 : Nat) (y1 : Nat), y0 < y1 → y0 < y1 := by intros; assumption
theorem om272q : (0 : Int) ≤ (2 : Int) := by intros; decide
theorem om273q : ∀ (y0 : Nat), (0 : Nat) < y0 → ((↑y0 : Int) - (1 : Int)) / (2 : Int) = (↑((y0 - (1 : Nat)) / (2 : Nat)) : Int) := by intros; omega
theorem om274q : ∀ (y0 : Nat) (y1 : Nat), y0 < y1 → (y1 - (1 : Nat)) / (2 : Nat) < y1 := by intros; omega
theorem om275q : ∀ (y0 : Nat) (y1 : Nat), y0 < y1 → (0 : Nat) < y1 := by intros; omega
theorem om276q : ∀ (y0 : Nat) (y1 : Nat), y0 < (1000 : Nat) → y1 = y0 → y1 < (1000 : Nat) := by intros; subst_vars; assumption
theorem om277q : ∀ (y0 : Nat) (y1 : Nat), y0 + (16 : Nat) < y1 → y0 + (3 : Nat) < y1 := by intros; omega
theorem om278q : ∀ (y0 : Nat) (y1 : Nat), ¬y0 < y1 → ¬(↑y0 : Int) < (↑y1 : Int) := by intros; omega
theorem om279q : ∀ (y0 : Nat), y0 < (1000 : Nat) → (↑y0 : Int) < (9223372036854775808 : Int) := by intros; omega
theorem om280q : ∀ (y0 : Nat) (y1 : Nat), y0 + (1 : Nat) < y1 → y0 < y1 := by intros; exact Nat.lt_of_le_of_lt (Nat.le_add_right _ _) (by assumption)
theorem om281q : ∀ (y0 : Nat), y0 < (400 : Nat) → y0 < (1000 : Nat) := by intros; exact Nat.lt_of_lt_of_le (by assumption) (by decide)
theorem om282q : ∀ (y0 : Nat) (y1 : Nat), (2 : Nat) * y0 + (1 : Nat) < y1 → (↑((2 : Nat) * y0 + (1 : Nat)) : Int) < (↑y1 : Int) := by intros; omega
theorem om283q : ∀ (y0 : Nat) (y1 : Nat) (y2 : Nat), y0 = y1 → (2 : Nat) * y2 + (1 : Nat) < y1 → (2 : Nat) * y2 + (1 : Nat) < y0 := by intros; subst_vars; assumption
theorem om284q : ∀ (y0 : Nat) (y1 : Nat) (y2 : Nat), y0 = y1 → (2 : Nat) * y2 + (1 : Nat) + (1 : Nat) < y0 → (↑((2 : Nat) * y2 + (1 : Nat) + (1 : Nat)) : Int) < (↑y1 : Int) := by intros; omega
theorem om285q : ∀ (y0 : Nat) (y1 : Nat), y0 < (400 : Nat) → y1 = y0 → y1 < (1000 : Nat) := by intros; subst_vars; exact Nat.lt_of_lt_of_le (by assumption) (by decide)
theorem om286q : ∀ (y0 : Nat) (y1 : Nat), (2 : Nat) * y0 + (1 : Nat) < y1 → (2 : Nat) * y0 + (1 : Nat) < y1 := by intros; assumption
theorem om287q : ∀ (y0 : Nat), (2 : Nat) * y0 + (1 : Nat) ≠ y0 := by intros; omega
theorem om288q : ∀ (y0 : Nat) (y1 : Nat), (2 : Nat) * y0 + (1 : Nat) + (1 : Nat) < y1 → (2 : Nat) * y0 + (1 : Nat) + (1 : Nat) < y1 := by intros; assumption
theorem om289q : ∀ (y0 : Nat), (2 : Nat) * y0 + (1 : Nat) + (1 : Nat) ≠ y0 := by intros; omega
theorem om290q : ∀ (y0 : Nat) (y1 : Nat), y0 + (32 : Nat) < y1 → y0 + (3 : Nat) < y1 := by intros; omega
theorem om291q : ∀ (y0 : Nat), ((2 : Nat) * y0 + (1 : Nat) - (1 : Nat)) / (2 : Nat) = y0 := by intros; omega
theorem om292q : ∀ (y0 : Nat), (1 : Nat) ≤ (2 : Nat) * y0 + (1 : Nat) := by intros; omega
theorem om293q : ∀ (y0 : Nat) (y1 : Nat), (1 : Nat) ≤ y0 → (y0 - (1 : Nat)) / (2 : Nat) = y1 → y0 = (2 : Nat) * y1 + (1 : Nat) ∨ y0 = (2 : Nat) * y1 + (1 : Nat) + (1 : Nat) := by intros; omega
theorem om294q : ∀ (y0 : Nat), ((2 : Nat) * y0 + (1 : Nat) + (1 : Nat) - (1 : Nat)) / (2 : Nat) = y0 := by intros; omega
theorem om295q : ∀ (y0 : Nat), (1 : Nat) ≤ (2 : Nat) * y0 + (1 : Nat) + (1 : Nat) := by intros; omega
theorem om296q : ∀ (y0 : Nat) (y1 : Nat) (y2 : Nat), y0 = y1 → ¬(2 : Nat) * y2 + (1 : Nat) + (1 : Nat) < y0 → ¬(↑((2 : Nat) * y2 + (1 : Nat) + (1 : Nat)) : Int) < (↑y1 : Int) := by intros; omega
theorem om297q : ∀ (y0 : Nat) (y1 : Nat) (y2 : Nat) (y3 : Nat), y0 = y1 → y2 < y0 → (y2 - (1 : Nat)) / (2 : Nat) = y3 → (1 : Nat) ≤ y2 → y1 - y2 < y1 - y3 := by intros; omega
theorem om298q : ∀ (y0 : Nat) (y1 : Nat), ¬(2 : Nat) * y0 + (1 : Nat) < y1 → ¬(↑((2 : Nat) * y0 + (1 : Nat)) : Int) < (↑y1 : Int) := by intros; omega
theorem om299q : ∀ (y0 : Nat) (y1 : Nat) (y2 : Nat), y0 = y1 → ¬(2 : Nat) * y2 + (1 : Nat) < y1 → y0 ≤ (2 : Nat) * y2 + (1 : Nat) := by intros; omega
theorem om300q : ∀ (y0 : Nat) (y1 : Nat), y0 + (1 : Nat) < y1 → y0 + (1 : Nat) < y1 := by intros; assumption
theorem om301q : ∀ (y0 : Nat) (y1 : Nat), y0 + (32 : Nat) < y1 → y0 + (3 : Nat) + (16 : Nat) < y1 := by intros; omega
theorem om302q : ∀ (y0 : Nat), y0 < (1000 : Nat) → y0 ≤ (16777215 : Nat) := by intros; omega
theorem om303q : ∀ (y0 : Nat) (y1 : Nat), y0 + (2 : Nat) < y1 → y0 < y1 := by intros; exact Nat.lt_of_le_of_lt (Nat.le_add_right _ _) (by assumption)
theorem om304q : ∀ (y0 : Nat), y0 < (300 : Nat) → y0 < (1000 : Nat) := by intros; exact Nat.lt_of_lt_of_le (by assumption) (by decide)
theorem om305q : ∀ (y0 : Nat) (y1 : Nat), y0 < (300 : Nat) → y1 = y0 + (1 : Nat) → y1 < (1000 : Nat) := by intros; subst_vars; exact Nat.lt_of_le_of_lt (by assumption) (by decide)
theorem om306q : ∀ (y0 : Nat), (↑(y0 + (1 : Nat)) : Int) - (1 : Int) = (↑y0 : Int) := by intros; omega
theorem om307q : ∀ (y0 : Nat) (y1 : Nat), y0 + (2 : Nat) < y1 → y0 + (1 : Nat) < y1 := by intros; exact Nat.le_of_lt (by assumption)
theorem om308q : ∀ (y0 : Nat) (y1 : Nat), y0 + (64 : Nat) < y1 → y0 + (3 : Nat) + (16 : Nat) < y1 := by intros; omega
theorem om309q : ∀ (y0 : Nat) (y1 : Nat), y0 = y1 + (1 : Nat) → y1 < y0 := by intros; subst_vars; exact Nat.le_refl _
theorem om310q : ∀ (y0 : Nat) (y1 : Nat), y0 = y1 + (1 : Nat) → y0 ≤ (2 : Nat) * y1 + (1 : Nat) := by intros; omega
theorem om311q : ∀ (y0 : Nat) (y1 : Nat), y0 + (2 : Nat) < y1 → y0 + (1 : Nat) + (1 : Nat) < y1 := by intros; assumption
theorem om312q : ∀ (y0 : Nat) (y1 : Nat), y0 + (64 : Nat) < y1 → y0 + (3 : Nat) + (32 : Nat) < y1 := by intros; omega
theorem om313q : ∀ (y0 : Nat), y0 < (300 : Nat) → y0 < (400 : Nat) := by intros; exact Nat.lt_of_lt_of_le (by assumption) (by decide)
theorem om314q : ∀ (y0 : Nat), (0 : Nat) < y0 → (0 : Nat) < y0 := by intros; assumption
theorem om315q : ∀ (y0 : Nat) (y1 : Nat), y0 < (300 : Nat) → y0 = y1 + (1 : Nat) → y1 < (1000 : Nat) := by intros; omega
theorem om316q : ∀ (y0 : Nat) (y1 : Nat), y0 < (300 : Nat) → y0 = y1 + (1 : Nat) → y1 < (400 : Nat) := by intros; omega
theorem om317q : ∀ (y0 : Nat) (y1 : Nat), y0 < y1 → y1 - (y0 + (1 : Nat)) < y1 - y0 := by intros; omega
theorem om318q : ∀ (y0 : Nat) (y1 : Nat), y0 ≤ y1 → ¬y0 < y1 → y0 = y1 := by intros; omega
theorem om319q : ∀ (y0 : Nat), y0 < (2 : Nat) ^ (62 : Nat) → (↑y0 : Int) < (9223372036854775808 : Int) := by intros; omega
theorem om320q : ∀ (y0 : Nat), (0 : Int) + ((↑y0 : Int) - (1 : Int)) * (1 : Int) = (↑y0 : Int) - (1 : Int) := by intros; omega
theorem om321q : ∀ (y0 : Nat) (y1 : Nat), y0 + (3 : Nat) < y1 → y0 < y1 := by intros; exact Nat.lt_of_le_of_lt (Nat.le_add_right _ _) (by assumption)
theorem om322q : ∀ (y0 : Nat), (↑y0 : Int) / (2 : Int) = (↑(y0 / (2 : Nat)) : Int) := by intros; omega
theorem om323q : Int.natAbs (2 : Int) < (1073741824 : Nat) := by intros; decide
theorem om324q : ∀ (y0 : Nat), y0 < (300 : Nat) → y0 / (2 : Nat) < (2 : Nat) ^ (62 : Nat) := by intros; omega
theorem om325q : ∀ (y0 : Nat) (y1 : Nat), y0 < y1 / (2 : Nat) → (↑(y1 / (2 : Nat)) : Int) - (1 : Int) + (↑y0 : Int) * (-1 : Int) = (↑(y1 / (2 : Nat) - (1 : Nat) - y0) : Int) := by intros; omega
theorem om326q : ∀ (y0 : Nat) (y1 : Nat), y0 < (300 : Nat) → y1 = y0 → y1 < (400 : Nat) := by intros; subst_vars; exact Nat.lt_of_lt_of_le (by assumption) (by decide)
theorem om327q : ∀ (y0 : Nat) (y1 : Nat) (y2 : Nat), (↑(y0 / (2 : Nat)) : Int) - (1 : Int) + (↑y1 : Int) * (-1 : Int) = (↑(y0 / (2 : Nat) - (1 : Nat) - y1) : Int) → y2 = y0 → y0 / (2 : Nat) - (1 : Nat) - y1 < y2 := by intros; omega
theorem om328q : ∀ (y0 : Nat) (y1 : Nat), y0 + (3 : Nat) < y1 → y0 + (1 : Nat) + (1 : Nat) < y1 := by intros; exact Nat.le_of_lt (by assumption)
theorem om329q : ∀ (y0 : Nat) (y1 : Nat), (↑(y0 / (2 : Nat)) : Int) - (1 : Int) + (↑y1 : Int) * (-1 : Int) = (↑(y0 / (2 : Nat) - (1 : Nat) - y1) : Int) → y0 / (2 : Nat) - (1 : Nat) - y1 + (1 : Nat) = y0 / (2 : Nat) - y1 := by intros; omega
theorem om330q : ∀ (y0 : Nat) (y1 : Nat), y0 / (2 : Nat) - (y1 + (1 : Nat)) = y0 / (2 : Nat) - (1 : Nat) - y1 := by intros; omega
theorem om331q : ∀ (y0 : Nat) (y1 : Nat), y0 + (64 : Nat) < y1 → y0 + (3 : Nat) < y1 := by intros; omega
theorem om332q : ∀ (y0 : Nat) (y1 : Nat) (y2 : Nat), y0 ≤ y1 → y0 ≤ y2 + (y1 + (1 : Nat)) := by intros; omega
theorem om333q : ∀ (y0 : Nat), y0 ≤ (1000 : Nat) → y0 ≤ (16777216 : Nat) := by intros; omega
theorem om334q : ∀ (y0 : Nat) (y1 : Nat) (y2 : Nat), y0 ≤ (1000 : Nat) → y1 ≤ y2 → y2 ≤ y0 + (1 : Nat) → y1 ≤ (16777216 : Nat) := by intros; omega
theorem om335q : ∀ (y0 : Nat) (y1 : Nat) (y2 : Nat) (y3 : Nat) (y4 : Nat) (y5 : Nat), y0 ≤ (1 : Nat) → y1 ≤ y2 + y3 + y0 + y4 + y5 → y1 ≤ y2 + (y3 + y4) + (y5 + (1 : Nat)) := by intros; omega
theorem om336q : ∀ (y0 : Nat) (y1 : Nat) (y2 : Nat), y0 ≤ (2000 : Nat) → y1 ≤ (2000 : Nat) → y2 ≤ (0 : Nat) + y0 + y1 → ¬y2 > (16777216 : Nat) := by intros; omega
theorem om337q : ∀ (y0 : Nat) (y1 : Nat) (y2 : Nat) (y3 : Nat), y0 ≤ y1 + (1 : Nat) ∧ y2 ≤ y1 → y0 ≤ y1 + (1 : Nat) + (1 : Nat) ∧ y2 ≤ y3 + (y1 + (1 : Nat)) := by intros; omega
theorem om338q : ∀ (y0 : Nat) (y1 : Nat) (y2 : Nat), y0 ≤ y1 + (1 : Nat) ∧ y2 ≤ y1 → y0 ≤ y1 + (1 : Nat) ∧ y2 ≤ y1 + (1 : Nat) := by intros; omega
theorem om339q : ∀ (y0 : Nat) (y1 : Nat) (y2 : Nat) (y3 : Nat), y0 ≤ y1 + (1 : Nat) ∧ y2 ≤ y3 + (1 : Nat) + y1 → y0 ≤ y1 + (1 : Nat) + (1 : Nat) ∧ y2 ≤ y3 + (y1 + (1 : Nat)) := by intros; omega
theorem om340q : ∀ (y0 : Nat), y0 ≤ (100 : Nat) → y0 ≤ (1000 : Nat) := by intros; omega
theorem om341q : ∀ (y0 : Nat) (y1 : Nat) (y2 : Nat) (y3 : Nat), y0 ≤ (100 : Nat) → y1 ≤ y2 → y3 = y1 → y0 = y2 → y3 ≤ (100 : Nat) := by intros; subst_vars; exact Nat.le_trans (by assumption) (by assumption)
theorem om342q : ∀ (y0 : Nat) (y1 : Nat), y0 = y1 + (2 : Nat) → y1 < y0 := by intros; omega
theorem om343q : ∀ (y0 : Nat) (y1 : Nat), y0 = y1 + (2 : Nat) → y0 < y1 + (3 : Nat) := by intros; subst_vars; exact Nat.le_refl _
theorem om344q : ∀ (y0 : Nat) (y1 : Nat), y0 = y1 + (1 : Nat) → y0 < y1 + (3 : Nat) := by intros; omega
theorem om345q : ∀ (y0 : Nat), y0 < y0 + (3 : Nat) := by intros; omega
theorem om346q : ∀ (y0 : Nat) (y1 : Nat), y0 = y1 + (1 : Nat) → y1 < y0 + (3 : Nat) := by intros; omega
theorem om347q : ∀ (y0 : Nat) (y1 : Nat) (y2 : Nat) (y3 : Nat) (y4 : Nat), y0 ≤ (100 : Nat) → y1 = y2 → y0 = y3 → y2 ≤ y3 + (1 : Nat) ∧ y4 ≤ y3 → y1 ≤ (16777216 : Nat) := by intros; omega
theorem om348q : ∀ (y0 : Nat) (y1 : Nat) (y2 : Nat) (y3 : Nat), y0 = y1 → y0 = y2 → y1 = y3 → y2 = y3 := by intros; omega
theorem om349q : ∀ (y0 : Nat) (y1 : Nat) (y2 : Nat), y0 = y1 → ¬y2 < y0 → y1 ≤ y2 := by intros; omega
theorem om350q : ∀ (y0 : Nat) (y1 : Nat) (y2 : Nat), y0 ≤ (100 : Nat) → y0 = y1 → y2 ≤ y1 → y2 ≤ (2000 : Nat) := by intros; omega
theorem om351q : ∀ (y0 : Nat) (y1 : Nat) (y2 : Nat) (y3 : Nat), y0 ≤ (100 : Nat) → y1 = y2 → y2 ≤ y3 + (1 : Nat) → y0 = y3 → y1 ≤ (2000 : Nat) := by intros; omega
theorem om352q : ∀ (y0 : Nat), ¬(↑y0 : Int) < (0 : Int) := by intros; omega
theorem om353q : ∀ (y0 : Nat), (1 : Nat) ≤ y0 → ¬y0 - (1 : Nat) = y0 := by intros; omega
theorem om354q : ∀ (y0 : Nat) (y1 : Nat), y0 ≤ (1000 : Nat) → y1 = y0 → y1 ≤ (1000 : Nat) := by intros; subst_vars; assumption
theorem om355q : ∀ (y0 : Nat) (y1 : Nat), y0 = y1 → y0 = y1 := by intros; assumption
theorem om356q : ∀ (y0 : Nat) (y1 : Nat) (y2 : Nat) (y3 : Nat), y0 ≤ y1 → y2 ≤ y3 * y1 → y0 + y2 ≤ y3 * y1 + (1 : Nat) * y1 := by intros; omega
theorem om357q : ∀ (y0 : Nat), y0 < (30 : Nat) → y0 < (30 : Nat) := by intros; assumption
theorem om358q : ∀ (y0 : Nat), -(↑y0 : Int) ≤ (0 : Int) := by intros; omega
theorem om359q : ∀ (y0 : Nat), (1 : Nat) ≤ y0 → (0 : Int) < (↑y0 : Int) := by intros; omega
theorem om360q : ∀ (y0 : Nat) (y1 : Nat) (y2 : Nat) (y3 : Nat), y0 ≤ (100 : Nat) → y1 = y2 - (1 : Nat) → y0 = y2 → y3 = (1 : Nat) → y3 + y1 ≤ (16777216 : Nat) := by intros; omega
theorem om361q : ∀ (y0 : Nat) (y1 : Nat) (y2 : Nat), y0 ≤ (100 : Nat) → y1 = y0 → y2 ≤ y1 * (100 : Nat) → y2 + y1 ≤ (1048576 : Nat) := by intros; omega
theorem om362q : ∀ (y0 : Nat) (y1 : Nat), y0 + (1 : Nat) + (1 : Nat) < y1 → (1 : Nat) < y1 := by intros; omega
theorem om363q : ∀ (y0 : Nat), (1 : Nat) ≤ y0 → (1 : Int) ≤ (↑y0 : Int) := by intros; omega
theorem om364q : ∀ (y0 : Nat), Int.toNat ((-1 : Int) + (↑y0 : Int)) = y0 - (1 : Nat) := by intros; omega
theorem om365q : ∀ (y0 : Nat) (y1 : Nat) (y2 : Nat) (y3 : Nat), y0 ≤ (100 : Nat) → y1 ≤ y2 + (1 : Nat) → y2 < y0 → y3 = y1 → y3 < (1000 : Nat) := by intros; omega
theorem om366q : ∀ (y0 : Nat) (y1 : Nat), y0 ≤ y1 + (1 : Nat) → y0 ≤ y1 + (1 : Nat) := by intros; assumption
theorem om367q : ∀ (y0 : Nat), (0 : Nat) ≤ y0 + (1 : Nat) := by intros; omega
theorem om368q : ∀ (y0 : Nat), (1 : Nat) ≤ y0 → y0 - (1 : Nat) < y0 := by intros; omega
theorem om369q : ∀ (y0 : Nat) (y1 : Nat), y0 = y1 → (1 : Nat) ≤ y1 → (1 : Int) ≤ (↑y0 : Int) := by intros; omega
theorem om370q : ∀ (y0 : Nat) (y1 : Nat), y0 = y1 → Int.toNat ((-1 : Int) + (↑y0 : Int)) = y1 - (1 : Nat) := by intros; omega
theorem om371q : ∀ (y0 : Nat) (y1 : Nat), y0 ≤ y1 + (1 : Nat) → y0 ≤ y1 + (1 : Nat) + (1 : Nat) := by intros; exact Nat.le_succ_of_le (by assumption)
theorem om372q : ∀ (y0 : Nat) (y1 : Nat), y0 ≤ y1 → y0 + (1 : Nat) ≤ y1 + (1 : Nat) := by intros; exact Nat.lt_succ_of_le (by assumption)
theorem om373q : ∀ (y0 : Nat) (y1 : Nat) (y2 : Nat) (y3 : Nat), y0 ≤ (100 : Nat) → y1 < y0 → y2 ≤ y1 → y3 = (1 : Nat) → y2 + y3 ≤ (16777216 : Nat) := by intros; omega
theorem om374q : ∀ (y0 : Nat) (y1 : Nat) (y2 : Nat) (y3 : Nat), y0 ≤ (100 : Nat) → y1 ≤ y2 + (1 : Nat) → y3 = y1 → y2 = y0 → y3 ≤ (1000 : Nat) := by intros; omega
theorem om375q : ∀ (y0 : Nat), (↑y0 : Int) < (8 : Int) → y0 < (8 : Nat) := by intros; omega
theorem om376q : ∀ (y0 : Int) (y1 : Int), y0 = y1 % (5 : Int) → y0 + (1 : Int) = (↑(Int.toNat (y0 + (1 : Int))) : Int) := by intros; omega
theorem om377q : ∀ (y0 : Int) (y1 : Int) (y2 : Nat), y0 = y1 % (5 : Int) → y0 + (1 : Int) = (↑y2 : Int) → y2 ≤ (5 : Nat) := by intros; omega
theorem om378q : ∀ (y0 : Int) (y1 : Int) (y2 : Nat), y0 = y1 % (5 : Int) → y0 + (1 : Int) = (↑y2 : Int) → (↑y2 : Int) < (2 : Int) ^ (62 : Nat) := by intros; omega
theorem om379q : ∀ (y0 : Int) (y1 : Int) (y2 : Nat), y0 = y1 % (5 : Int) → y0 + (1 : Int) = (↑y2 : Int) → y2 ≤ (1000 : Nat) := by intros; omega
theorem om380q : ∀ (y0 : Nat), (0 : Int) ≤ (0 : Int) + (↑y0 : Int) * (1 : Int) := by intros; omega
theorem om381q : ∀ (y0 : Int) (y1 : Int) (y2 : Nat) (y3 : Nat), y0 = y1 % (5 : Int) → y0 + (1 : Int) = (↑y2 : Int) → y3 < y2 → (0 : Int) + (↑y3 : Int) * (1 : Int) ≤ (1000000 : Int) := by intros; omega
theorem om382q : Int.natAbs (15 : Int) < (1073741824 : Nat) := by intros; decide
theorem om383q : ∀ (y0 : Int) (y1 : Int) (y2 : Nat) (y3 : Nat), y0 = y1 % (5 : Int) → y0 + (1 : Int) = (↑y2 : Int) → y3 < y2 → y3 = (0 : Nat) ∨ y3 = (1 : Nat) ∨ y3 = (2 : Nat) ∨ y3 = (3 : Nat) ∨ y3 = (4 : Nat) := by intros; omega
theorem om384q : ∀ (y0 : Int) (y1 : Int) (y2 : Nat) (y3 : Nat) (y4 : Nat), y0 = y1 % (5 : Int) → y0 + (1 : Int) = (↑y2 : Int) → y3 = y2 → y4 ≤ y3 * (1 : Nat) → y4 + y3 ≤ (1048576 : Nat) := by intros; omega
theorem om385q : ∀ (y0 : Nat), (1 : Nat) + y0 = y0 + (1 : Nat) := by intros; omega
theorem om386q : ∀ (y0 : Int) (y1 : Int) (y2 : Nat) (y3 : Nat), y0 = y1 % (5 : Int) → y0 + (1 : Int) = (↑y2 : Int) → y3 = y2 → y3 ≤ (5 : Nat) := by intros; omega
theorem om387q : ∀ (y0 : Nat) (y1 : Nat), (1 : Nat) ≤ y0 → y1 = y0 → (0 : Nat) < y1 := by intros; subst_vars; assumption
theorem om388q : ∀ (y0 : Nat), (2 : Nat) ≤ y0 → ¬y0 < (2 : Nat) := by intros; omega
theorem om389q : ∀ (y0 : Nat), y0 < (64 : Nat) → y0 ≤ (16777216 : Nat) := by intros; omega
theorem om390q : ∀ (y0 : Nat), y0 < (64 : Nat) → y0 ≤ (16777216 : Nat) + (1 : Nat) := by intros; omega
theorem om391q : ∀ (y0 : Nat) (y1 : Nat) (y2 : Nat) (y3 : Nat), y0 = y1 → y2 = y3 → y1 = y3 → y0 = y2 := by intros; omega
theorem om392q : ∀ (y0 : Nat) (y1 : Nat), (2 : Nat) ≤ y0 → y1 = y0 → (2 : Nat) ≤ y1 := by intros; subst_vars; assumption
theorem om393q : ∀ (y0 : Nat) (y1 : Nat), y0 = (0 : Nat) → y1 < y0 + (1 : Nat) → y1 = y0 := by intros; omega
theorem om394q : ∀ (y0 : Nat) (y1 : Nat) (y2 : Nat), y0 - y1 = y2 + (1 : Nat) → y0 - (y1 + (1 : Nat)) = y2 := by intros; omega
theorem om395q : ∀ (y0 : Nat) (y1 : Nat), y0 < y1 → ¬y1 < y0 := by intros; omega
theorem om396q : ∀ (y0 : Nat) (y1 : Nat) (y2 : Nat), y0 ≤ (1000 : Nat) → y1 ≤ y2 → y2 < y0 → y1 ≤ (16777216 : Nat) := by intros; omega
theorem om397q : ∀ (y0 : Nat) (y1 : Nat) (y2 : Nat), y0 = y1 → ¬y2 < y0 → y2 - y0 = (0 : Nat) → y2 = y1 := by intros; omega
theorem om398q : ∀ (y0 : Nat) (y1 : Nat), ¬y0 - y1 = (0 : Nat) → (1 : Nat) ≤ y0 - y1 := by intros; exact Nat.pos_of_ne_zero (by assumption)
theorem om399q : ∀ (y0 : Nat) (y1 : Nat), y0 < y1 → (0 : Int) < (↑y1 : Int) - (↑y0 : Int) := by intros; omega
theorem om400q : ∀ (y0 : Nat) (y1 : Nat), (↑y0 : Int) - ((↑y1 : Int) + (1 : Int)) = (↑y0 : Int) - (↑y1 : Int) - (1 : Int) := by intros; omega
theorem om401q : ∀ (y0 : Nat), (↑y0 : Int) - (↑y0 : Int) ≤ (0 : Int) := by intros; omega
theorem om402q : ∀ (y0 : Nat) (y1 : Nat), ¬y0 ≤ y1 → (0 : Int) < (↑y0 : Int) - (↑y1 : Int) := by intros; omega
theorem om403q : ∀ (y0 : Nat) (y1 : Nat) (y2 : Nat), y0 + y1 < y2 → y0 ≤ y2 := by intros; omega
theorem om404q : ∀ (y0 : Nat) (y1 : Nat), y0 ≤ y1 + (y0 - y1) := by intros; omega
theorem om405q : ∀ (y0 : Nat) (y1 : Nat), ¬y0 ≤ y1 → y1 < y0 := by intros; omega
theorem om406q : ∀ (y0 : Nat) (y1 : Nat), max (0 : Int) (min (↑y0 : Int) (↑y1 : Int)) = (↑(min y0 y1) : Int) := by intros; omega
theorem om407q : ∀ (y0 : Nat) (y1 : Nat), y0 - y1 ≤ y0 - min y1 y0 := by intros; omega
theorem om408q : ∀ (y0 : Nat), -(2 : Int) ^ (63 : Nat) ≤ (↑y0 : Int) := by intros; omega
theorem om409q : ∀ (y0 : Nat), y0 < (1000 : Nat) → (↑y0 : Int) < (2 : Int) ^ (63 : Nat) := by intros; omega
theorem om410q : ∀ (y0 : Nat), (y0 + (1 : Nat) - (1 : Nat)) / (2 : Nat) < y0 + (1 : Nat) := by intros; omega
theorem om411q : ∀ (y0 : Nat) (y1 : Nat), y0 < y1 → ((y1 - (1 : Nat)) / (2 : Nat) - (1 : Nat)) / (2 : Nat) ≠ y1 := by intros; omega
theorem om412q : ∀ (y0 : Nat), (1 : Nat) ≤ y0 → (y0 - (1 : Nat)) / (2 : Nat) ≠ y0 := by intros; omega
theorem om413q : ∀ (y0 : Nat) (y1 : Nat), (1 : Nat) ≤ y0 → y1 ≤ (y0 - (1 : Nat)) / (2 : Nat) → y0 = y1 → False := by intros; omega
theorem om414q : ∀ (y0 : Nat) (y1 : Nat), y0 ≤ y1 → y1 ≠ y0 → y0 + (1 : Nat) ≤ y1 := by intros; omega
theorem om415q : ∀ (y0 : Nat) (y1 : Nat), (y0 - (1 : Nat)) / (2 : Nat) = y1 → (1 : Nat) ≤ y0 → y1 < y0 := by intros; omega
theorem om416q : ∀ (y0 : Nat) (y1 : Nat), (1 : Nat) ≤ y0 → y1 ≤ (y0 - (1 : Nat)) / (2 : Nat) → y1 < y0 := by intros; omega
theorem om417q : ∀ (y0 : Nat) (y1 : Nat) (y2 : Nat), y0 < y1 → (y2 - (1 : Nat)) / (2 : Nat) = y1 → y2 ≠ y0 := by intros; omega
theorem om418q : ∀ (y0 : Nat) (y1 : Nat), y0 + (1 : Nat) < y1 → (y0 + (1 : Nat) - (1 : Nat)) / (2 : Nat) < y1 := by intros; omega
theorem om419q : ∀ (y0 : Nat), (1 : Nat) ≤ y0 → (0 : Nat) ≠ y0 := by intros; exact Nat.ne_of_lt (by assumption)
theorem om420q : ∀ (y0 : Nat) (y1 : Nat) (y2 : Nat), y0 < y1 → y0 < y1 + y2 := by intros; omega
theorem om421q : ∀ (y0 : Nat) (y1 : Nat), (↑y0 : Int) < (↑y1 : Int) → y0 < y1 := by intros; omega
theorem om422q : ∀ (y0 : Nat), y0 ≤ (1000 : Nat) → ¬y0 > (16777216 : Nat) := by intros; omega
end Mine
end
section
open PySem
set_option Elab.async false
set_option linter.all false
namespace Mine
/-- flat tuples of facts: they spare the terms -/
inductive Ex2 {T0 T1 : Type} (p : T0 → T1 → Prop) : Prop
  | mk (a0 : T0) (a1 : T1) (h : p a0 a1) : Ex2 p
inductive Ex3 {T0 T1 T2 : Type} (p : T0 → T1 → T2 → Prop) : Prop
  | mk (a0 : T0) (a1 : T1) (a2 : T2) (h : p a0 a1 a2) : Ex3 p
inductive Ex4 {T0 T1 T2 T3 : Type} (p : T0 → T1 → T2 → T3 → Prop) : Prop
  | mk (a0 : T0) (a1 : T1) (a2 : T2) (a3 : T3) (h : p a0 a1 a2 a3) : Ex4 p
inductive Ex5 {T0 T1 T2 T3 T4 : Type} (p : T0 → T1 → T2 → T3 → T4 → Prop) : Prop
  | mk (a0 : T0) (a1 : T1) (a2 : T2) (a3 : T3) (a4 : T4) (h : p a0 a1 a2 a3 a4) : Ex5 p
inductive Ex6 {T0 T1 T2 T3 T4 T5 : Type} (p : T0 → T1 → T2 → T3 → T4 → T5 → Prop) : Prop
  | mk (a0 : T0) (a1 : T1) (a2 : T2) (a3 : T3) (a4 : T4) (a5 : T5) (h : p a0 a1 a2 a3 a4 a5) : Ex6 p
inductive Ex7 {T0 T1 T2 T3 T4 T5 T6 : Type} (p : T0 → T1 → T2 → T3 → T4 → T5 → T6 → Prop) : Prop
  | mk (a0 : T0) (a1 : T1) (a2 : T2) (a3 : T3) (a4 : T4) (a5 : T5) (a6 : T6) (h : p a0 a1 a2 a3 a4 a5 a6) : Ex7 p
inductive Ex8 {T0 T1 T2 T3 T4 T5 T6 T7 : Type} (p : T0 → T1 → T2 → T3 → T4 → T5 → T6 → T7 → Prop) : Prop
  | mk (a0 : T0) (a1 : T1) (a2 : T2) (a3 : T3) (a4 : T4) (a5 : T5) (a6 : T6) (a7 : T7) (h : p a0 a1 a2 a3 a4 a5 a6 a7) : Ex8 p
inductive Ex9 {T0 T1 T2 T3 T4 T5 T6 T7 T8 : Type} (p : T0 → T1 → T2 → T3 → T4 → T5 → T6 → T7 → T8 → Prop) : Prop
  | mk (a0 : T0) (a1 : T1) (a2 : T2) (a3 : T3) (a4 : T4) (a5 : T5) (a6 : T6) (a7 : T7) (a8 : T8) (h : p a0 a1 a2 a3 a4 a5 a6 a7 a8) : Ex9 p
inductive Ex10 {T0 T1 T2 T3 T4 T5 T6 T7 T8 T9 : Type} (p : T0 → T1 → T2 → T3 → T4 → T5 → T6 → T7 → T8 → T9 → Prop) : Prop
  | mk (a0 : T0) (a1 : T1) (a2 : T2) (a3 : T3) (a4 : T4) (a5 : T5) (a6 : T6) (a7 : T7) (a8 : T8) (a9 : T9) (h : p a0 a1 a2 a3 a4 a5 a6 a7 a8 a9) : Ex10 p
inductive Ex11 {T0 T1 T2 T3 T4 T5 T6 T7 T8 T9 T10 : Type} (p : T0 → T1 → T2 → T3 → T4 → T5 → T6 → T7 → T8 → T9 → T10 → Prop) : Prop
  | mk (a0 : T0) (a1 : T1) (a2 : T2) (a3 : T3) (a4 : T4) (a5 : T5) (a6 : T6) (a7 : T7) (a8 : T8) (a9 : T9) (a10 : T10) (h : p a0 a1 a2 a3 a4 a5 a6 a7 a8 a9 a10) : Ex11 p
inductive Ex12 {T0 T1 T2 T3 T4 T5 T6 T7 T8 T9 T10 T11 : Type} (p : T0 → T1 → T2 → T3 → T4 → T5 → T6 → T7 → T8 → T9 → T10 → T11 → Prop) : Prop
  | mk (a0 : T0) (a1 : T1) (a2 : T2) (a3 : T3) (a4 : T4) (a5 : T5) (a6 : T6) (a7 : T7) (a8 : T8) (a9 : T9) (a10 : T10) (a11 : T11) (h : p a0 a1 a2 a3 a4 a5 a6 a7 a8 a9 a10 a11) : Ex12 p
inductive C3 (c0 c1 c2 : Prop) : Prop
  | mk (h0 : c0) (h1 : c1) (h2 : c2) : C3 c0 c1 c2
inductive C4 (c0 c1 c2 c3 : Prop) : Prop
  | mk (h0 : c0) (h1 : c1) (h2 : c2) (h3 : c3) : C4 c0 c1 c2 c3
inductive C5 (c0 c1 c2 c3 c4 : Prop) : Prop
  | mk (h0 : c0) (h1 : c1) (h2 : c2) (h3 : c3) (h4 : c4) : C5 c0 c1 c2 c3 c4
inductive C6 (c0 c1 c2 c3 c4 c5 : Prop) : Prop
  | mk (h0 : c0) (h1 : c1) (h2 : c2) (h3 : c3) (h4 : c4) (h5 : c5) : C6 c0 c1 c2 c3 c4 c5
inductive C7 (c0 c1 c2 c3 c4 c5 c6 : Prop) : Prop
  | mk (h0 : c0) (h1 : c1) (h2 : c2) (h3 : c3) (h4 : c4) (h5 : c5) (h6 : c6) : C7 c0 c1 c2 c3 c4 c5 c6
inductive C8 (c0 c1 c2 c3 c4 c5 c6 c7 : Prop) : Prop
  | mk (h0 : c0) (h1 : c1) (h2 : c2) (h3 : c3) (h4 : c4) (h5 : c5) (h6 : c6) (h7 : c7) : C8 c0 c1 c2 c3 c4 c5 c6 c7
inductive C9 (c0 c1 c2 c3 c4 c5 c6 c7 c8 : Prop) : Prop
  | mk (h0 : c0) (h1 : c1) (h2 : c2) (h3 : c3) (h4 : c4) (h5 : c5) (h6 : c6) (h7 : c7) (h8 : c8) : C9 c0 c1 c2 c3 c4 c5 c6 c7 c8
inductive C10 (c0 c1 c2 c3 c4 c5 c6 c7 c8 c9 : Prop) : Prop
  | mk (h0 : c0) (h1 : c1) (h2 : c2) (h3 : c3) (h4 : c4) (h5 : c5) (h6 : c6) (h7 : c7) (h8 : c8) (h9 : c9) : C10 c0 c1 c2 c3 c4 c5 c6 c7 c8 c9
inductive C11 (c0 c1 c2 c3 c4 c5 c6 c7 c8 c9 c10 : Prop) : Prop
  | mk (h0 : c0) (h1 : c1) (h2 : c2) (h3 : c3) (h4 : c4) (h5 : c5) (h6 : c6) (h7 : c7) (h8 : c8) (h9 : c9) (h10 : c10) : C11 c0 c1 c2 c3 c4 c5 c6 c7 c8 c9 c10
inductive C12 (c0 c1 c2 c3 c4 c5 c6 c7 c8 c9 c10 c11 : Prop) : Prop
  | mk (h0 : c0) (h1 : c1) (h2 : c2) (h3 : c3) (h4 : c4) (h5 : c5) (h6 : c6) (h7 : c7) (h8 : c8) (h9 : c9) (h10 : c10) (h11 : c11) : C12 c0 c1 c2 c3 c4 c5 c6 c7 c8 c9 c10 c11
inductive C13 (c0 c1 c2 c3 c4 c5 c6 c7 c8 c9 c10 c11 c12 : Prop) : Prop
  | mk (h0 : c0) (h1 : c1) (h2 : c2) (h3 : c3) (h4 : c4) (h5 : c5) (h6 : c6) (h7 : c7) (h8 : c8) (h9 : c9) (h10 : c10) (h11 : c11) (h12 : c12) : C13 c0 c1 c2 c3 c4 c5 c6 c7 c8 c9 c10 c11 c12
inductive C14 (c0 c1 c2 c3 c4 c5 c6 c7 c8 c9 c10 c11 c12 c13 : Prop) : Prop
  | mk (h0 : c0) (h1 : c1) (h2 : c2) (h3 : c3) (h4 : c4) (h5 : c5) (h6 : c6) (h7 : c7) (h8 : c8) (h9 : c9) (h10 : c10) (h11 : c11) (h12 : c12) (h13 : c13) : C14 c0 c1 c2 c3 c4 c5 c6 c7 c8 c9 c10 c11 c12 c13
inductive C15 (c0 c1 c2 c3 c4 c5 c6 c7 c8 c9 c10 c11 c12 c13 c14 : Prop) : Prop
  | mk (h0 : c0) (h1 : c1) (h2 : c2) (h3 : c3) (h4 : c4) (h5 : c5) (h6 : c6) (h7 : c7) (h8 : c8) (h9 : c9) (h10 : c10) (h11 : c11) (h12 : c12) (h13 : c13) (h14 : c14) : C15 c0 c1 c2 c3 c4 c5 c6 c7 c8 c9 c10 c11 c12 c13 c14
inductive C16 (c0 c1 c2 c3 c4 c5 c6 c7 c8 c9 c10 c11 c12 c13 c14 c15 : Prop) : Prop
  | mk (h0 : c0) (h1 : c1) (h2 : c2) (h3 : c3) (h4 : c4) (h5 : c5) (h6 : c6) (h7 : c7) (h8 : c8) (h9 : c9) (h10 : c10) (h11 : c11) (h12 : c12) (h13 : c13) (h14 : c14) (h15 : c15) : C16 c0 c1 c2 c3 c4 c5 c6 c7 c8 c9 c10 c11 c12 c13 c14 c15
inductive C17 (c0 c1 c2 c3 c4 c5 c6 c7 c8 c9 c10 c11 c12 c13 c14 c15 c16 : Prop) : Prop
  | mk (h0 : c0) (h1 : c1) (h2 : c2) (h3 : c3) (h4 : c4) (h5 : c5) (h6 : c6) (h7 : c7) (h8 : c8) (h9 : c9) (h10 : c10) (h11 : c11) (h12 : c12) (h13 : c13) (h14 : c14) (h15 : c15) (h16 : c16) : C17 c0 c1 c2 c3 c4 c5 c6 c7 c8 c9 c10 c11 c12 c13 c14 c15 c16
inductive C18 (c0 c1 c2 c3 c4 c5 c6 c7 c8 c9 c10 c11 c12 c13 c14 c15 c16 c17 : Prop) : Prop
  | mk (h0 : c0) (h1 : c1) (h2 : c2) (h3 : c3) (h4 : c4) (h5 : c5) (h6 : c6) (h7 : c7) (h8 : c8) (h9 : c9) (h10 : c10) (h11 : c11) (h12 : c12) (h13 : c13) (h14 : c14) (h15 : c15) (h16 : c16) (h17 : c17) : C18 c0 c1 c2 c3 c4 c5 c6 c7 c8 c9 c10 c11 c12 c13 c14 c15 c16 c17
inductive C19 (c0 c1 c2 c3 c4 c5 c6 c7 c8 c9 c10 c11 c12 c13 c14 c15 c16 c17 c18 : Prop) : Prop
  | mk (h0 : c0) (h1 : c1) (h2 : c2) (h3 : c3) (h4 : c4) (h5 : c5) (h6 : c6) (h7 : c7) (h8 : c8) (h9 : c9) (h10 : c10) (h11 : c11) (h12 : c12) (h13 : c13) (h14 : c14) (h15 : c15) (h16 : c16) (h17 : c17) (h18 : c18) : C19 c0 c1 c2 c3 c4 c5 c6 c7 c8 c9 c10 c11 c12 c13 c14 c15 c16 c17 c18
inductive C20 (c0 c1 c2 c3 c4 c5 c6 c7 c8 c9 c10 c11 c12 c13 c14 c15 c16 c17 c18 c19 : Prop) : Prop
  | mk (h0 : c0) (h1 : c1) (h2 : c2) (h3 : c3) (h4 : c4) (h5 : c5) (h6 : c6) (h7 : c7) (h8 : c8) (h9 : c9) (h10 : c10) (h11 : c11) (h12 : c12) (h13 : c13) (h14 : c14) (h15 : c15) (h16 : c16) (h17 : c17) (h18 : c18) (h19 : c19) : C20 c0 c1 c2 c3 c4 c5 c6 c7 c8 c9 c10 c11 c12 c13 c14 c15 c16 c17 c18 c19

/-- a strict total preorder -/
structure Ord (lt : Value → Value → Bool) : Prop where
  irr : ∀ a, lt a a = false
  tr : ∀ a b c, lt a b = true → lt b c = true → lt a c = true
  ng : ∀ a b c, lt a b = false → lt b c = false → lt a c = false

theorem Ord.asy {lt} (o : Ord lt) {a b : Value} (h : lt a b = true) : lt b a = false := by
  cases e : lt b a with
  | false => rfl
  | true => have := o.tr _ _ _ h e; rw [o.irr] at this; cases this
theorem Ord.flip {lt} (o : Ord lt) : Ord (fun a b => lt b a) := ⟨o.irr, fun a b c h1 h2 => o.tr _ _ _ h2 h1, fun a b c h1 h2 => o.ng _ _ _ h2 h1⟩
/-- a is less than b, c is not less than b: c is not less than a -/
theorem Ord.mix {lt} (o : Ord lt) {a b c : Value} (h1 : lt a b = true) (h2 : lt c b = false) : lt c a = false := by
  cases e : lt c a with
  | false => rfl
  | true => have := o.tr _ _ _ e h1; rw [h2] at this; cases this

abbrev at' (xs : List Value) (i : Nat) : Value := xs.getD i Value.none
abbrev par (j : Nat) : Nat := (j - 1) / 2

theorem at_set {xs : List Value} {i j : Nat} {v : Value} (hi : i < xs.length) : at' (xs.set i v) j = if i = j then v else at' xs j := by
  unfold at'
  simp only [List.getD_eq_getElem?_getD, List.getElem?_set]
  by_cases h : i = j
  · subst h; simp [hi]
  · simp [h]
theorem at_set_ne {xs : List Value} {i j : Nat} {v : Value} (h : i ≠ j) : at' (xs.set i v) j = at' xs j := by
  unfold at'
  simp only [List.getD_eq_getElem?_getD, List.getElem?_set, h, if_false]
theorem at_eq {xs : List Value} {i : Nat} (hi : i < xs.length) : at' xs i = xs[i] := by
  unfold at'; simp [List.getD_eq_getElem?_getD, hi]
theorem at_some {xs : List Value} {i : Nat} (hi : i < xs.length) : xs[i]? = some (at' xs i) := by
  rw [at_eq hi]; simp [hi]
theorem at_mem {xs : List Value} {i : Nat} (hi : i < xs.length) : at' xs i ∈ xs := by
  rw [at_eq hi]; exact List.getElem_mem hi
theorem set_self {xs : List Value} {i : Nat} : xs.set i (at' xs i) = xs := by
  by_cases hi : i < xs.length
  · rw [at_eq hi]; exact List.set_getElem_self hi
  · exact List.set_eq_of_length_le (Nat.le_of_not_lt hi)

theorem swap_perm {zs : List Value} {i j : Nat} {x : Value} (hi : i < zs.length) (hj : j < zs.length) (hij : i ≠ j) :
    ((zs.set i (at' zs j)).set j x).Perm (zs.set i x) := by
  have e1 : at' zs j = (zs.set i x)[j]'(by simpa using hj) := by rw [at_eq hj]; simp [List.getElem_set, hij]
  have e2 : x = (zs.set i x)[i]'(by simpa using hi) := by simp
  have key := List.set_set_perm (as := zs.set i x) (i := i) (j := j) (by simpa using hi) (by simpa using hj)
  rw [← e1, ← e2, List.set_set] at key
  exact key

/-- the heap's order from place st on -/
def HP (lt : Value → Value → Bool) (st : Nat) (xs : List Value) : Prop :=
  ∀ j, 1 ≤ j → j < xs.length → st ≤ par j → lt (at' xs j) (at' xs (par j)) = false

/-- the same, but for the place q -/
def HB (lt : Value → Value → Bool) (st q : Nat) (xs : List Value) : Prop :=
  ∀ j, 1 ≤ j → j < xs.length → st ≤ par j → j ≠ q → par j ≠ q → lt (at' xs j) (at' xs (par j)) = false

/-- q lies below st -/
inductive Desc (st : Nat) : Nat → Prop
  | here : Desc st st
  | down {q : Nat} : st < q → Desc st (par q) → Desc st q
theorem Desc.le {st q : Nat} (h : Desc st q) : st ≤ q := by cases h with | here => exact Nat.le_refl _ | down h _ => exact Nat.le_of_lt h
theorem Desc.up {st q : Nat} (h : Desc st q) (hq : st < q) : Desc st (par q) := by
  cases h with
  | here => exact absurd hq (Nat.lt_irrefl _)
  | down _ h => exact h
theorem Desc.zero : ∀ q, Desc 0 q
  | 0 => .here
  | q + 1 => .down (Nat.succ_pos _) (Desc.zero (par (q + 1)))
termination_by q => q
decreasing_by show (q + 1 - 1) / 2 < q + 1; exact om410q _

/-- the state of _siftdown's loop: the hole is at q, x is to be laid -/
structure SD (lt : Value → Value → Bool) (st : Nat) (xs : List Value) (x : Value) (zs : List Value) (q : Nat) : Prop where
  len : zs.length = xs.length
  inb : q < zs.length
  perm : (zs.set q x).Perm xs
  hb : HB lt st q zs
  kids : ∀ j, 1 ≤ j → j < zs.length → par j = q → lt (at' zs j) x = false
  over : ∀ j, 1 ≤ j → j < zs.length → par j = q → st < q → lt (at' zs j) (at' zs (par q)) = false
  desc : Desc st q

theorem SD.start {lt} {st q : Nat} {xs : List Value} (hq : q < xs.length) (leaf : xs.length ≤ 2 * q + 1) (hb : HB lt st q xs) (d : Desc st q) : SD lt st xs (at' xs q) xs q where
  len := rfl
  inb := hq
  perm := by rw [set_self]
  hb := hb
  kids := fun j h1 h2 h3 => by unfold par at h3; omega
  over := fun j h1 h2 h3 => by unfold par at h3; omega
  desc := d

theorem SD.step {lt} (o : Ord lt) {st q : Nat} {xs zs : List Value} {x : Value} (I : SD lt st xs x zs q) (hq : st < q) (hlt : lt x (at' zs (par q)) = true) :
    SD lt st xs x (zs.set q (at' zs (par q))) (par q) := by
  have hp : par q < q := by unfold par; exact om274q _ _ hq
  have hpl : par q < zs.length := Nat.lt_trans hp I.inb
  have hd := I.desc.up hq
  refine ⟨by rw [List.length_set, I.len], by rw [List.length_set]; exact hpl, (swap_perm I.inb hpl (Nat.ne_of_gt hp)).trans I.perm, ?_, ?_, ?_, hd⟩
  · intro j h1 h2 h3 h4 h5
    rw [List.length_set] at h2
    have hjq : j ≠ q := fun e => h5 (by rw [e])
    rw [at_set_ne (Ne.symm hjq)]
    by_cases e : par j = q
    · rw [e, at_set I.inb, if_pos rfl]
      exact I.over j h1 h2 e hq
    · rw [at_set_ne (Ne.symm e)]
      exact I.hb j h1 h2 h3 hjq e
  · intro j h1 h2 h3
    rw [List.length_set] at h2
    by_cases e : j = q
    · subst e
      rw [at_set I.inb, if_pos rfl]
      exact o.asy hlt
    · rw [at_set_ne (Ne.symm e)]
      refine o.mix hlt ?_
      have := I.hb j h1 h2 (by rw [h3]; exact hd.le) e (by rw [h3]; exact Nat.ne_of_lt hp)
      rwa [h3] at this
  · intro j h1 h2 h3 h4
    rw [List.length_set] at h2
    have hpp : par (par q) ≠ q := by unfold par; exact om411q _ _ hq
    rw [at_set_ne (Ne.symm hpp)]
    have hup := (hd.up h4).le
    have k1 : lt (at' zs (par q)) (at' zs (par (par q))) = false := I.hb (par q) (by exact om79q _ _ h4) hpl hup (Nat.ne_of_lt hp) hpp
    by_cases e : j = q
    · subst e
      rw [at_set I.inb, if_pos rfl]
      exact k1
    · rw [at_set_ne (Ne.symm e)]
      have := I.hb j h1 h2 (by rw [h3]; exact hd.le) e (by rw [h3]; exact Nat.ne_of_lt hp)
      rw [h3] at this
      exact o.ng _ _ _ this k1

theorem SD.done {lt} {st q : Nat} {xs zs : List Value} {x : Value} (I : SD lt st xs x zs q) (hq : q = st ∨ (st < q ∧ lt x (at' zs (par q)) = false)) :
    (zs.set q x).Perm xs ∧ HP lt st (zs.set q x) := by
  refine ⟨I.perm, fun j h1 h2 h3 => ?_⟩
  rw [List.length_set] at h2
  by_cases e : j = q
  · subst e
    have hpj : par j ≠ j := by unfold par; exact om412q _ h1
    rcases hq with e | ⟨_, h⟩
    · exfalso; unfold par at h3; exact om413q _ _ h1 h3 e
    · rw [at_set I.inb, if_pos rfl, at_set_ne (Ne.symm hpj)]
      exact h
  · rw [at_set_ne (Ne.symm e)]
    by_cases e' : par j = q
    · rw [e', at_set I.inb, if_pos rfl]
      exact I.kids j h1 h2 e'
    · rw [at_set_ne (Ne.symm e')]
      exact I.hb j h1 h2 h3 e e'

/-- the state of _siftup's loop -/
structure SU (lt : Value → Value → Bool) (st : Nat) (xs : List Value) (x : Value) (zs : List Value) (q : Nat) : Prop where
  len : zs.length = xs.length
  inb : q < zs.length
  perm : (zs.set q x).Perm xs
  hb : HB lt st q zs
  over : ∀ j, 1 ≤ j → j < zs.length → par j = q → st < q → lt (at' zs j) (at' zs (par q)) = false
  desc : Desc st q

theorem SU.start {lt} {st : Nat} {xs : List Value} (hs : st < xs.length) (h : HP lt (st + 1) xs) : SU lt st xs (at' xs st) xs st where
  len := rfl
  inb := hs
  perm := by rw [set_self]
  hb := fun j h1 h2 h3 _ h5 => h j h1 h2 (by exact om414q _ _ h3 h5)
  over := fun _ _ _ _ h => absurd h (Nat.lt_irrefl _)
  desc := .here

theorem SU.step {lt} (o : Ord lt) {st q c : Nat} {xs zs : List Value} {x : Value} (I : SU lt st xs x zs q) (hc : c < zs.length) (hpc : par c = q) (h1c : 1 ≤ c)
    (hbest : ∀ j, 1 ≤ j → j < zs.length → par j = q → lt (at' zs j) (at' zs c) = false) :
    SU lt st xs x (zs.set q (at' zs c)) c := by
  have hqc : q < c := by unfold par at hpc; exact om415q _ _ hpc h1c
  refine ⟨by rw [List.length_set, I.len], by rw [List.length_set]; exact hc, (swap_perm I.inb hc (Nat.ne_of_lt hqc)).trans I.perm, ?_, ?_, .down (Nat.lt_of_le_of_lt I.desc.le hqc) (by rw [hpc]; exact I.desc)⟩
  · intro j h1 h2 h3 h4 h5
    rw [List.length_set] at h2
    by_cases e : j = q
    · subst e
      have hpj : par j ≠ j := by unfold par; exact om412q _ h1
      rw [at_set I.inb, if_pos rfl, at_set_ne (Ne.symm hpj)]
      refine I.over c h1c hc hpc ?_
      unfold par at h3; exact om416q _ _ h1 h3
    · rw [at_set_ne (Ne.symm e)]
      by_cases e' : par j = q
      · rw [e', at_set I.inb, if_pos rfl]
        exact hbest j h1 h2 e'
      · rw [at_set_ne (Ne.symm e')]
        exact I.hb j h1 h2 h3 e e'
  · intro j h1 h2 h3 h4
    rw [List.length_set] at h2
    have hjq : j ≠ q := by unfold par at h3; exact om417q _ _ _ hqc h3
    rw [at_set_ne (Ne.symm hjq), hpc, at_set I.inb, if_pos rfl]
    have := I.hb j h1 h2 (by rw [h3]; exact Nat.le_of_lt h4) hjq (by rw [h3]; exact Nat.ne_of_gt hqc)
    rwa [h3] at this

theorem SU.done {lt} {st q : Nat} {xs zs : List Value} {x : Value} (I : SU lt st xs x zs q) (leaf : zs.length ≤ 2 * q + 1) :
    SD lt st (zs.set q x) x (zs.set q x) q := by
  have hl : q < (zs.set q x).length := by rw [List.length_set]; exact I.inb
  have e : at' (zs.set q x) q = x := by rw [at_set I.inb, if_pos rfl]
  have := SD.start (lt := lt) (st := st) (q := q) (xs := zs.set q x) hl (by rw [List.length_set]; exact leaf) (fun j h1 h2 h3 h4 h5 => by
    rw [List.length_set] at h2
    rw [at_set_ne (Ne.symm h4), at_set_ne (Ne.symm h5)]
    exact I.hb j h1 h2 h3 h4 h5) I.desc
  rwa [e] at this

theorem HP.least {lt} (o : Ord lt) {xs : List Value} (h : HP lt 0 xs) : ∀ j, j < xs.length → lt (at' xs j) (at' xs 0) = false
  | 0, _ => o.irr _
  | j + 1, hj => o.ng _ _ _ (h (j + 1) (Nat.succ_pos _) hj (Nat.zero_le _)) (HP.least o h (par (j + 1)) (by unfold par; exact om418q _ _ hj))
termination_by j => j
decreasing_by show (j + 1 - 1) / 2 < j + 1; exact om410q _

theorem HP.set0 {lt} {xs : List Value} {v : Value} (h : HP lt 0 xs) : HP lt 1 (xs.set 0 v) := by
  intro j h1 h2 h3
  rw [List.length_set] at h2
  rw [at_set_ne (by exact om419q _ h1), at_set_ne (by exact om419q _ h3)]
  exact h j h1 h2 (Nat.zero_le _)

theorem HP.snoc {lt} {xs : List Value} {v : Value} (h : HP lt 0 xs) : HB lt 0 xs.length (xs ++ [v]) := by
  intro j h1 h2 h3 h4 _
  rw [List.length_append, List.length_singleton] at h2
  have hj : j < xs.length := by omega
  have hp : par j < xs.length := by unfold par; exact om251q _ _ hj
  have := h j h1 hj h3
  rw [at_eq hj, at_eq hp] at this
  rw [at_eq (by rw [List.length_append]; omega), at_eq (by rw [List.length_append]; exact om420q _ _ _ hp), List.getElem_append_left hj, List.getElem_append_left hp]
  exact this
theorem HP.init {lt} {xs : List Value} {v : Value} (h : HP lt 0 (xs ++ [v])) : HP lt 0 xs := by
  intro j h1 h2 h3
  have hp : par j < xs.length := by unfold par; exact om251q _ _ h2
  have := h j h1 (by rw [List.length_append]; exact om420q _ _ _ h2) h3
  rw [at_eq (by rw [List.length_append]; exact om420q _ _ _ h2), at_eq (by rw [List.length_append]; exact om420q _ _ _ hp), List.getElem_append_left h2, List.getElem_append_left hp] at this
  rw [at_eq h2, at_eq hp]; exact this
theorem HP.half {lt} {xs : List Value} : HP lt (xs.length / 2) xs := by
  intro j h1 h2 h3
  unfold par at h3; omega
end Mine
end
section
open PySem PySem.W PyProof.Rows
set_option Elab.async false
set_option linter.all false
set_option maxRecDepth 100000
namespace Mine
noncomputable abbrev LO : List Str := looseW view [Str.ofString "capwords", Str.ofString "nsmallest", Str.ofString "nlargest"]

/-- the post as a variable: it spares the term -/
theorem wpAny_abs {α : Type} {M : Model} {A : Around} {E : Value → Shared → Prop} {s : Shared} {x : Sem α} {Q : α → Shared → Prop} (h : ∀ KK : α → Shared → Prop, (∀ a s, Q a s → KK a s) → wpAny M A x KK E s) : wpAny M A x Q E s := h Q fun _ _ q => q
/-- what every def of the text finds around it -/
structure Cx (w : World) (mg mb : Str → Option Value) (g : Heap) : Prop where
  K : (hd.heap_1 w.params).In g
  T : TopRead view LO mg mb g
theorem Cx.keeps {w : World} {mg mb : Str → Option Value} {g h : Heap} (C : Cx w mg mb g) (hk : g.StaysIn h) : Cx w mg mb h := ⟨C.K.keeps hk, C.T.keeps hk⟩

/-- all of h stays in h' but what lies at l -/
def But (l : Addr) (h h' : Heap) : Prop := ∀ b o, b ≠ l → h.get? b = some o → h'.get? b = some o

section
variable {prog : Program} {w : World} {A : Around} {E : Value → Shared → Prop} {s : Shared} {mg mb : Str → Option Value} {g : Heap}

/-- a call of a def of the text that changes the one list l -/
theorem enter1 {Q : Value → Shared → Prop} {name qual : Str} {params : Arguments} {body : List Stmt} {scope : Scope} {dV kV doc pm cdv ct oc : Value} {an od : Option Addr} {osl : Array (Option Value)} {f l : Addr} {its : Array Value} {n : Nat}
    {pos : List Value} {kw : List (Str × Value)} {binds : List (Str × Value)}
    (C : Cx w mg mb g) (S : g.StaysIn s.heap) (hl : s.heap.get? l = some (PySem.W.listOf its n)) (hg : g.get? l = none)
    (ho : (hd.heap_1 w.params).lookup f = some ⟨oc, od, .func (fnOf name qual params body scope dV kV doc pm an cdv ct), osl⟩) (hcd : codeIn (hd.heap_1 w.params) cdv qual = true)
    (hroom : A.depth < recursionLimit)
    (hbind : BindsTo s (fnOf name qual params body scope dV kV doc pm an cdv ct) ⟨pos, kw⟩ binds) (hloc : ∀ y ∈ binds, scope.names.lookup y.1 = some .local)
    (h : ∀ g' L h₁ tk, Cx w mg mb g' → (∀ b o, b ≠ l → s.heap.get? b = some o → g'.get? b = some o) → Fr g' L h₁ (fun y => binds.reverse.lookup y) → News g' L h₁ [(l, PySem.W.listOf its n)] →
      wpAny (model prog w) (A.deeper (envOf qual scope L f cdv)) (execs body (envOf qual scope L f cdv))
        (fun fl s' => Q (match fl with | .ret v => v | _ => .none) s') (fun _ _ => False)
        { s with heap := h₁, toks := tk })
    (hco : scope.isCoroutine = false) (hgen : scope.isGenerator = false) (hk : scope.kind = .function)
    (hcell : ∀ x ∈ scope.names, x.2 ≠ .cell) : wpAny (model prog w) A (call (.ref f) pos kw) Q E s := by
  have st : g.StaysIn (s.heap.hide l) := fun b o e => (Heap.hide_ne s.heap (fun q : b = l => by rw [q, hg] at e; cases e)).trans (S b o e)
  refine wpAny_call (codeAny_call_def (fd := fnOf name qual params body scope dV kV doc pm an cdv ct) (body := body) (binds := binds) hroom ((C.K.keeps S) _ _ ho) rfl (C.T.nolimit.keeps S) (codeRec_of (C.K.keeps S) hcd) rfl hbind hcell hloc (fun h₁ hns hk₁ => ?_) hco hgen hk)
  refine wpAny_mono (h (s.heap.hide l) s.heap.objs.size h₁ _ (C.keeps st) (fun b o hb e => (Heap.hide_ne s.heap hb).trans e) ⟨hns, fun b o e => hk₁ b o (Heap.of_hide e), Nat.le_of_eq (Heap.hide_size _ _)⟩ ?_) (fun fl s' q => ?_) fun _ _ x => x.elim
  · intro p hp
    rcases List.mem_cons.mp hp with rfl | hp
    · exact ⟨hk₁ _ _ hl, Nat.ne_of_lt (Heap.lt_size hl), Heap.hide_self _ _⟩
    · cases hp
  · exact q

/-- a call of a def of the text that changes nothing of the caller's -/
theorem enter0 {Q : Value → Shared → Prop} {name qual : Str} {params : Arguments} {body : List Stmt} {scope : Scope} {dV kV doc pm cdv ct oc : Value} {an od : Option Addr} {osl : Array (Option Value)} {f : Addr}
    {pos : List Value} {kw : List (Str × Value)} {binds : List (Str × Value)}
    (C : Cx w mg mb g) (S : g.StaysIn s.heap)
    (ho : (hd.heap_1 w.params).lookup f = some ⟨oc, od, .func (fnOf name qual params body scope dV kV doc pm an cdv ct), osl⟩) (hcd : codeIn (hd.heap_1 w.params) cdv qual = true)
    (hroom : A.depth < recursionLimit)
    (hbind : BindsTo s (fnOf name qual params body scope dV kV doc pm an cdv ct) ⟨pos, kw⟩ binds) (hloc : ∀ y ∈ binds, scope.names.lookup y.1 = some .local)
    (h : ∀ L h₁ tk, Cx w mg mb s.heap → Fr s.heap L h₁ (fun y => binds.reverse.lookup y) → News s.heap L h₁ [] →
      wpAny (model prog w) (A.deeper (envOf qual scope L f cdv)) (execs body (envOf qual scope L f cdv))
        (fun fl s' => Q (match fl with | .ret v => v | _ => .none) s') (fun _ _ => False)
        { s with heap := h₁, toks := tk })
    (hco : scope.isCoroutine = false) (hgen : scope.isGenerator = false) (hk : scope.kind = .function)
    (hcell : ∀ x ∈ scope.names, x.2 ≠ .cell) : wpAny (model prog w) A (call (.ref f) pos kw) Q E s := by
  refine wpAny_call (codeAny_call_def (fd := fnOf name qual params body scope dV kV doc pm an cdv ct) (body := body) (binds := binds) hroom ((C.K.keeps S) _ _ ho) rfl (C.T.nolimit.keeps S) (codeRec_of (C.K.keeps S) hcd) rfl hbind hcell hloc (fun h₁ hns hk₁ => ?_) hco hgen hk)
  refine wpAny_mono (h s.heap.objs.size h₁ _ (C.keeps S) ⟨hns, fun b o e => hk₁ b o e, Nat.le_refl _⟩ ?_) (fun fl s' q => ?_) fun _ _ x => x.elim
  · intro p hp; cases hp
  · exact q

end
end Mine
end
section
open PySem PySem.W PyProof.Rows
set_option Elab.async false
set_option linter.all false
set_option maxRecDepth 100000
namespace Mine

abbrev lst (vs : List Value) (n : Nat) : Obj := PySem.W.listOf vs.toArray n

section
variable {prog : Program} {w : World} {A : Around} {E : Value → Shared → Prop} {s : Shared} {mg mb : Str → Option Value} {g : Heap}

theorem item_l {value slice : PySem.Expr} {l : Addr} {vs : List Value} {i n : Nat} {u : Tok} {Q : Value → Shared → Prop} (hl : s.heap.get? l = some (lst vs n))
    (hi : i < vs.length) (hsz : vs.length < 1000) (h : Q (at' vs i) s)
    (hs : subscripted slice false (.ref l) (.int (i : Int) u) = operate [.ref l, .int (i : Int) u] (getItem (.ref l) (.int (i : Int) u)) := by with_unfolding_all rfl) :
    wpAny (model prog w) A (subscriptTail value slice (.ref l) (.int (i : Int) u)) Q E s := by
  have hL : s.heap.IsList l vs.toArray := PySem.IsL.isList (n := n) hl
  exact tail_any hL.typeIs slot_list_getitem.lookup (wpAny_getItem_list hL (Int.natCast_nonneg _) (by exact om270q _ _ hi hsz) (by simpa using at_some hi) h) hs

theorem set_l {l L : Addr} {g' : Heap} {m : Str → Option Value} {vs : List Value} {i n : Nat} {u : Tok} {v : Value} {Q : Unit → Shared → Prop} (F : Fr g' L s.heap m) (N : News g' L s.heap [(l, lst vs n)])
    (hi : i < vs.length) (hsz : vs.length < 1000)
    (h : ∀ h', Fr g' L h' m → News g' L h' [(l, lst (vs.set i v) n)] → Q () { s with heap := h' }) :
    wpAny (model prog w) A (setItem (.ref l) (.int (i : Int) u) v) Q E s := by
  have z := N (l, lst vs n) (.head _)
  refine ki_setAt z.1 (Int.natCast_nonneg _) (by exact om270q _ _ hi hsz) (by simp; exact om271q _ _ hi) (h _ (F.change (Heap.SameBut.update ..) z.2.1 z.2.2) (ki_turn (pre := []) (post := []) _ N (fun _ h => nomatch h) (fun _ h => nomatch h) ?_ ?_))
  · apply Array.toList_inj.mp
    simp
  · simp

theorem par_cast {q : Nat} (h : 0 < q) : Int.fdiv ((q : Int) - 1) (2 ^ (Int.toNat 1)) = ((par q : Nat) : Int) := by
  unfold par
  rw [show (2 : Int) ^ (Int.toNat 1) = 2 from rfl, Int.fdiv_eq_ediv_of_nonneg _ (by exact om272q)]
  exact om273q _ h
end

section
variable {prog : Program} {w : World} {A : Around} {E : Value → Shared → Prop} {s : Shared} {g' : Heap} {L : Addr} {m : Str → Option Value} {news : List (Addr × Obj)} {env : Env} {pos : Pos} {k : Nat}
theorem cI {i : Int} {Q : Value → Shared → Prop} (h : ∀ t tk, Q (.int i t) { s with toks := tk }) : wpAny (model prog w) A (eval (.Constant (.int i) k pos) env) Q E s := wpAny_Constant_int (h _ _)
theorem sub_ {a b : Int} {t u : Tok} {Q : Value → Shared → Prop} (h : ∀ t tk, Q (.int (a - b) t) { s with toks := tk }) : wpAny (model prog w) A (binaryOp .Sub (.int a t) (.int b u)) Q E s := sub_int (h _ _)
theorem add_ {a b : Int} {t u : Tok} {Q : Value → Shared → Prop} (h : ∀ t tk, Q (.int (a + b) t) { s with toks := tk }) : wpAny (model prog w) A (binaryOp .Add (.int a t) (.int b u)) Q E s := add_int (h _ _)
theorem half_ {q : Nat} {t u : Tok} {Q : Value → Shared → Prop} (hq : 0 < q) (h : ∀ t tk, Q (.int ((par q : Nat) : Int) t) { s with toks := tk }) : wpAny (model prog w) A (binaryOp .RShift (.int ((q : Int) - 1) t) (.int 1 u)) Q E s :=
  rshift_int (by decide) (by rw [par_cast hq]; exact h _ _)
theorem st_ {x : Str} {v : Value} {name : Str} {scope : Scope} {a : Addr} {cd : Value} {Q : Unit → Shared → Prop} (F : Fr g' L s.heap m) (N : News g' L s.heap news)
    (h : ∀ h' tk, Fr g' L h' (fun y => if y = x then some v else m y) → News g' L h' news → Q () { s with heap := h', toks := tk })
    (hk : scope.kind = .function := by rfl) (hl : (envOf name scope L a cd).kindOf x = some .local := by rfl) :
    wpAny (model prog w) A (storeName (envOf name scope L a cd) x v) Q E s := stN F N (fun h' F' N' => h h' _ F' N') hk hl
end

def klt (kf : Value → Key) (u v : Value) : Bool := (kf u).lt (kf v)

section
variable {prog : Program} {w : World} {A : Around} {E : Value → Shared → Prop} {s : Shared} {mg mb : Str → Option Value} {g : Heap}
theorem up_ne {m : Str → Option Value} {x y : Str} {v : Option Value} {r : Option Value} (h : m y = r) (hn : y ≠ x) : (fun z => if z = x then v else m z) y = r := (if_neg hn).trans h
theorem up_eq {m : Str → Option Value} {x : Str} {v : Option Value} : (fun z => if z = x then v else m z) x = v := if_pos rfl

theorem fill (w : World) (g : Heap) : (hd.heap_1 w.params).In g → PySem.Challenge.rw_mr0283_01.row.prog = PySem.Challenge.rw_mr0283_01.row.prog := by
  k_fill
  intro _; rfl
theorem sd_call {kb : Bool} {kf : Value → Key} {l : Addr} {vs : List Value} {n st ps : Nat} {t1 t2 : Tok} {Q : Value → Shared → Prop} (C : Cx w mg mb g) (S : g.StaysIn s.heap) (hl : s.heap.get? l = some (lst vs n)) (hg : g.get? l = none)
    (hk : ∀ v ∈ vs, KeyAt kb s.heap v (kf v)) (ord : Ord (klt kf)) (hroom : A.depth < recursionLimit) (hu : A.units + 16 < cLine) (hsz : vs.length < 1000)
    (hps : ps < vs.length) (leaf : vs.length ≤ 2 * ps + 1) (hb : HB (klt kf) st ps vs) (d : Desc st ps)
    (hQ : ∀ h' tk vs' n', But l s.heap h' → h'.get? l = some (lst vs' n') → vs'.Perm vs → HP (klt kf) st vs' → Q .none { s with heap := h', toks := tk }) :
    wpAny (model prog w) A (call (.ref 78) [.ref l, .int (st : Int) t1, .int (ps : Int) t2]) Q E s := by
  refine enter1 (binds := [(Str.ofString "heap", .ref l), (Str.ofString "startpos", .int (st : Int) t1), (Str.ofString "pos", .int (ps : Int) t2)]) C S hl hg (by k_is) (by k_is) hroom (BindsTo.of_eq rfl) (locs rfl) ?_ rfl rfl rfl (by decide)
  intro g' L h₁ tk C' hg' F N
  obtain ⟨m, F, e1, e2, e3⟩ : ∃ m, Fr g' L h₁ m ∧ m (Str.ofString "heap") = some (.ref l) ∧ m (Str.ofString "startpos") = some (.int (st : Int) t1) ∧ m (Str.ofString "pos") = some (.int (ps : Int) t2) := ⟨_, F, rfl, rfl, rfl⟩
  have hk' : ∀ v ∈ vs, KeyAt kb g' v (kf v) := fun v hv => (hk v hv).keep fun a ea o e => hg' a o (fun q => by
    obtain ⟨a', xs, r1, ⟨o', r2, r3, _⟩, _⟩ := hk v hv
    rw [ea] at r1; cases r1; rw [q] at r2; rw [r2] at hl; cases hl; exact absurd (Value.type.inj r3) (by decide)) e
  -- newitem = heap[pos]
  refine wpAny_execs_cons (wpAny_Assign_Name (Subscript_ (ld F e1 (ld F e3 (item_l (N _ (.head _)).1 hps hsz (st_ F N fun h₂ tk F N => ?_))))))
  dsimp only
  -- the loop
  refine wpAny_execs_cons (wpAny_mono (While_inv2 (Q := fun f s' => f = .next ∧ ∃ h tk m zs n₁ k tq, s' = { s with heap := h, toks := tk } ∧ Fr g' L h m ∧ News g' L h [(l, lst zs n₁)] ∧ m (Str.ofString "heap") = some (.ref l) ∧ m (Str.ofString "pos") = some (.int ((k : Nat) : Int) tq) ∧ m (Str.ofString "newitem") = some (at' vs ps) ∧
      SD (klt kf) st vs (at' vs ps) zs k ∧ (k = st ∨ (st < k ∧ klt kf (at' vs ps) (at' zs (par k)) = false)))
    (fun k m news => ∃ zs n₁ tq, news = [(l, lst zs n₁)] ∧ m (Str.ofString "heap") = some (.ref l) ∧ m (Str.ofString "startpos") = some (.int (st : Int) t1) ∧ m (Str.ofString "pos") = some (.int (k : Int) tq) ∧ m (Str.ofString "newitem") = some (at' vs ps) ∧ SD (klt kf) st vs (at' vs ps) zs k)
    (n₀ := ps) F N ⟨vs, n, t2, rfl, e1, e2, e3, rfl, SD.start hps leaf hb d⟩ ?_ PassesOwn.never) ?_ fun _ _ x => x)
  · intro k m' news' h₃ tk₃ F N ⟨zs, n₁, tq, hn, e1, e2, e3, e4, I⟩
    subst hn
    have hzl : zs.length = vs.length := I.len
    have hx : KeyAt kb g' (at' vs ps) (kf (at' vs ps)) := hk' _ (at_mem hps)
    have hz : ∀ j, j < zs.length → j ≠ k → KeyAt kb g' (at' zs j) (kf (at' zs j)) := fun j hj hjk => hk' _ (I.perm.subset (by
      have := at_mem (xs := zs.set k (at' vs ps)) (i := j) (by rw [List.length_set]; exact hj)
      rwa [at_set_ne (Ne.symm hjk)] at this))
    refine wpAny_isTrue_Compare1 (ld F e3 (ld F e2 (gt_int (wpAny_truthy_bool ?_))))
    by_cases hq : st < k
    · rw [decide_eq_true (by exact om142q _ _ hq), if_pos rfl]
      have hp : par k < k := by unfold par; exact om274q _ _ hq
      have hpl : par k < zs.length := Nat.lt_trans hp I.inb
      refine wpAny_execs_cons (wpAny_Assign_Name (wpAny_BinOp (wpAny_BinOp (ld F e3 (cI fun _ _ => sub_ fun _ _ => cI fun _ _ => half_ (by exact om275q _ _ hp) fun _ _ => st_ F N fun h₄ tk F N => ?_)))))
      dsimp only
      refine wpAny_execs_cons (wpAny_Assign_Name (Subscript_ (ld F e1 (ld F rfl (item_l (N _ (.head _)).1 hpl (by exact om276q _ _ hsz hzl) (st_ F N fun h₅ tk F N => ?_))))))
      dsimp only
      refine wpAny_execs_cons (wpAny_If (wpAny_isTrue_Compare1 (ld F e4 (ld F rfl (lt_key (hx.keep fun a _ o e => F.keep a o e) ((hz _ hpl (Nat.ne_of_lt hp)).keep fun a _ o e => F.keep a o e) ?_ (wpAny_truthy_bool ?_))))))
      · show A.units + 3 < cLine; exact om277q _ _ hu
      cases hlt : (kf (at' vs ps)).lt (kf (at' zs (par k))) with
      | true =>
        rw [if_pos rfl]
        refine wpAny_execs_cons (wpAny_Assign_Subscript (ld F rfl (ld F e1 (ld F e3 (set_l F N I.inb (by exact om276q _ _ hsz hzl) fun h₆ F N => ?_)))))
        dsimp only
        refine wpAny_execs_cons (wpAny_Assign_Name (ld F rfl (st_ F N fun h₇ tk F N => ?_)))
        dsimp only
        refine wpAny_execs_cons (wpAny_Continue ?_)
        exact ⟨_, _, _, _, par k, rfl, F, N, hp, _, _, _, rfl, e1, e2, rfl, e4, I.step ord hq hlt⟩
      | false =>
        rw [if_neg (by decide)]
        refine wpAny_execs_nil ?_
        dsimp only
        refine wpAny_execs_cons (wpAny_Break ?_)
        exact ⟨rfl, _, _, _, _, _, _, _, rfl, F, N, e1, e3, e4, I, .inr ⟨hq, hlt⟩⟩
    · rw [decide_eq_false (by exact om278q _ _ hq), if_neg (by decide)]
      exact ⟨rfl, _, _, _, _, _, _, _, rfl, F, N, e1, e3, e4, I, .inl (Nat.le_antisymm (Nat.le_of_not_lt hq) I.desc.le)⟩
  · rintro f s' ⟨rfl, h, tk, m, zs, n₁, k, tq, rfl, F, N, e1, e3, e4, I, hend⟩
    dsimp only
    have hzl : zs.length = vs.length := I.len
    refine wpAny_execs_cons (wpAny_Assign_Subscript (ld F e4 (ld F e1 (ld F e3 (set_l F N I.inb (by exact om276q _ _ hsz hzl) fun h₆ F N => ?_)))))
    dsimp only
    exact wpAny_execs_nil (hQ _ _ _ _ (fun b o hb e => F.keep b o (hg' b o hb e)) (N _ (.head _)).1 (I.done hend).1 (I.done hend).2)
end
end Mine
end
section
open PySem PySem.W PyProof.Rows
set_option Elab.async false
set_option linter.all false
set_option maxRecDepth 100000
namespace Mine
theorem fill4 (w : World) (g : Heap) : (hd.heap_1 w.params).In g → PySem.Challenge.rw_mr0283_01.row.prog = PySem.Challenge.rw_mr0283_01.row.prog := by
  k_fill
  intro _; rfl
section
variable {prog : Program} {w : World} {A : Around} {E : Value → Shared → Prop} {s : Shared} {mg mb : Str → Option Value} {g : Heap}
theorem len_l {l : Addr} {vs : List Value} {n : Nat} {Q : Value → Shared → Prop} (hl : s.heap.get? l = some (lst vs n)) (hsz : vs.length < 1000)
    (h : ∀ t tk, Q (.int (vs.length : Int) t) { s with toks := tk }) : wpAny (model prog w) A (call (.builtin "len") [.ref l]) Q E s := by
  have hL : s.heap.IsList l vs.toArray := PySem.IsL.isList (n := n) hl
  exact len_list hL (by simp; exact om279q _ hsz) (by simpa using h _ _)
theorem dbl_ {q : Nat} {t u : Tok} {Q : Value → Shared → Prop} (h : ∀ t tk, Q (.int (((2 * q : Nat)) : Int) t) { s with toks := tk }) : wpAny (model prog w) A (binaryOp .Mult (.int 2 t) (.int (q : Int) u)) Q E s :=
  mul_int (by have := h s.toks (s.toks + 1); simpa using this) (IntMulOk.of_left (by decide))
theorem inc_ {q : Nat} {t u : Tok} {Q : Value → Shared → Prop} (h : ∀ t tk, Q (.int (((q + 1 : Nat)) : Int) t) { s with toks := tk }) : wpAny (model prog w) A (binaryOp .Add (.int (q : Int) t) (.int 1 u)) Q E s :=
  add_int (by have := h s.toks (s.toks + 1); simpa using this)

theorem su_call {kb : Bool} {kf : Value → Key} {l : Addr} {vs : List Value} {n st : Nat} {t1 : Tok} {Q : Value → Shared → Prop} (C : Cx w mg mb g) (S : g.StaysIn s.heap) (hl : s.heap.get? l = some (lst vs n)) (hg : g.get? l = none)
    (hk : ∀ v ∈ vs, KeyAt kb s.heap v (kf v)) (ord : Ord (klt kf)) (hroom : A.depth + 1 < recursionLimit) (hu : A.units + 32 < cLine) (hsz : vs.length < 400)
    (hst : st < vs.length) (hp0 : HP (klt kf) (st + 1) vs)
    (hQ : ∀ h' tk vs' n', But l s.heap h' → h'.get? l = some (lst vs' n') → vs'.Perm vs → HP (klt kf) st vs' → Q .none { s with heap := h', toks := tk }) :
    wpAny (model prog w) A (call (.ref 85) [.ref l, .int (st : Int) t1]) Q E s := by
  refine enter1 (binds := [(Str.ofString "heap", .ref l), (Str.ofString "pos", .int (st : Int) t1)]) C S hl hg (by k_is) (by k_is) (by exact om280q _ _ hroom) (BindsTo.of_eq rfl) (locs rfl) ?_ rfl rfl rfl (by decide)
  intro g' L h₁ tk C' hg' F N
  obtain ⟨m, F, e1, e2⟩ : ∃ m, Fr g' L h₁ m ∧ m (Str.ofString "heap") = some (.ref l) ∧ m (Str.ofString "pos") = some (.int (st : Int) t1) := ⟨_, F, rfl, rfl⟩
  have hk' : ∀ v ∈ vs, KeyAt kb g' v (kf v) := fun v hv => (hk v hv).keep fun a ea o e => hg' a o (fun q => by
    obtain ⟨a', xs, r1, ⟨o', r2, r3, _⟩, _⟩ := hk v hv
    rw [ea] at r1; cases r1; rw [q] at r2; rw [r2] at hl; cases hl; exact absurd (Value.type.inj r3) (by decide)) e
  -- endpos = len(heap)
  refine wpAny_execs_cons (wpAny_Assign_Name (Call_ (name_B F C'.K C'.T (by k_is) boot_len (by decide) (callWith_builtin1 (spliced_more (ld F e1 (spliced_none (len_l (N _ (.head _)).1 (by exact om281q _ hsz) fun te tk => st_ F N fun h₂ tk F N => ?_))))))))
  dsimp only
  -- startpos = pos; newitem = heap[pos]; childpos = 2 * pos + 1
  refine wpAny_execs_cons (wpAny_Assign_Name (ld F e2 (st_ F N fun h₂ tk F N => ?_)))
  dsimp only
  refine wpAny_execs_cons (wpAny_Assign_Name (Subscript_ (ld F e1 (ld F e2 (item_l (N _ (.head _)).1 hst (by exact om281q _ hsz) (st_ F N fun h₂ tk F N => ?_))))))
  dsimp only
  refine wpAny_execs_cons (wpAny_Assign_Name (wpAny_BinOp (wpAny_BinOp (cI fun _ _ => ld F e2 (dbl_ fun _ _ => cI fun _ _ => inc_ fun tc tk => st_ F N fun h₂ tk F N => ?_)))))
  dsimp only
  -- the loop
  refine wpAny_execs_cons (wpAny_mono (While_inv2 (Q := fun f s' => f = .next ∧ ∃ h tk m zs n₁ k tq, s' = { s with heap := h, toks := tk } ∧ Fr g' L h m ∧ News g' L h [(l, lst zs n₁)] ∧ m (Str.ofString "heap") = some (.ref l) ∧ m (Str.ofString "pos") = some (.int ((k : Nat) : Int) tq) ∧ m (Str.ofString "newitem") = some (at' vs st) ∧
      m (Str.ofString "startpos") = some (.int (st : Int) t1) ∧ SU (klt kf) st vs (at' vs st) zs k ∧ zs.length ≤ 2 * k + 1)
    (fun r m news => ∃ zs n₁ k tq tc, r = vs.length - k ∧ news = [(l, lst zs n₁)] ∧ m (Str.ofString "heap") = some (.ref l) ∧ m (Str.ofString "startpos") = some (.int (st : Int) t1) ∧ m (Str.ofString "pos") = some (.int ((k : Nat) : Int) tq) ∧ m (Str.ofString "newitem") = some (at' vs st) ∧
      m (Str.ofString "childpos") = some (.int ((2 * k + 1 : Nat) : Int) tc) ∧ m (Str.ofString "endpos") = some (.int (vs.length : Int) te) ∧ SU (klt kf) st vs (at' vs st) zs k)
    (n₀ := vs.length - st) F N ⟨vs, n, st, t1, tc, rfl, rfl, e1, rfl, e2, rfl, rfl, rfl, SU.start hst hp0⟩ ?_ PassesOwn.never) ?_ fun _ _ x => x)
  · rintro r m' news' h₃ tk₃ F N ⟨zs, n₁, k, tq, tc, rfl, rfl, e1, e2, e3, e4, e5, e6, I⟩
    have hzl : zs.length = vs.length := I.len
    have hkl : k < zs.length := I.inb
    have hz : ∀ j, j < zs.length → j ≠ k → KeyAt kb g' (at' zs j) (kf (at' zs j)) := fun j hj hjk => hk' _ (I.perm.subset (by
      have := at_mem (xs := zs.set k (at' vs st)) (i := j) (by rw [List.length_set]; exact hj)
      rwa [at_set_ne (Ne.symm hjk)] at this))
    refine wpAny_isTrue_Compare1 (ld F e5 (ld F e6 (lt_int (wpAny_truthy_bool ?_))))
    by_cases hc : 2 * k + 1 < vs.length
    · rw [decide_eq_true (by exact om282q _ _ hc), if_pos rfl]
      have hcl : 2 * k + 1 < zs.length := by exact om283q _ _ _ hzl hc
      refine wpAny_execs_cons (wpAny_Assign_Name (wpAny_BinOp (ld F e5 (cI fun _ _ => inc_ fun tr tk => st_ F N fun h₄ tk F N => ?_))))
      dsimp only
      refine wpAny_execs_cons (wpAny_mono (Q := fun f s' => f = .next ∧ ∃ h tk m c tc, s' = { s with heap := h, toks := tk } ∧ Fr g' L h m ∧ News g' L h [(l, lst zs n₁)] ∧ m (Str.ofString "heap") = some (.ref l) ∧ m (Str.ofString "pos") = some (.int ((k : Nat) : Int) tq) ∧ m (Str.ofString "newitem") = some (at' vs st) ∧
        m (Str.ofString "startpos") = some (.int (st : Int) t1) ∧ m (Str.ofString "childpos") = some (.int ((c : Nat) : Int) tc) ∧ m (Str.ofString "endpos") = some (.int (vs.length : Int) te) ∧ c < zs.length ∧ par c = k ∧ 1 ≤ c ∧ (∀ j, 1 ≤ j → j < zs.length → par j = k → klt kf (at' zs j) (at' zs c) = false)) (wpAny_If (isTrue_and (wpAny_isTrue_Compare1 (ld F rfl (ld F e6 (lt_int (wpAny_truthy_bool ?_))))))) ?_ fun _ _ x => x)
      · by_cases hr : 2 * k + 1 + 1 < zs.length
        · rw [decide_eq_true (by exact om284q _ _ _ hzl hr), if_pos rfl]
          have ec : (fun y => if y = Str.ofString "rightpos" then some (Value.int ((2 * k + 1 + 1 : Nat) : Int) tr) else m' y) (Str.ofString "heap") = some (.ref l) := e1
          have ec' : (fun y => if y = Str.ofString "rightpos" then some (Value.int ((2 * k + 1 + 1 : Nat) : Int) tr) else m' y) (Str.ofString "childpos") = _ := e5
          have e1' := ec
          refine isTrue_and (isTrue_not (wpAny_isTrue_Compare1 (Subscript_ (ld F ec (ld F ec' (item_l (N _ (.head _)).1 hcl (by exact om285q _ _ hsz hzl) (Subscript_ (ld F e1' (ld F rfl (item_l (N _ (.head _)).1 hr (by exact om285q _ _ hsz hzl) (lt_key ((hz _ (by exact om286q _ _ hcl) (by exact om287q _)).keep fun a _ o e => F.keep a o e) ((hz _ (by exact om288q _ _ hr) (by exact om289q _)).keep fun a _ o e => F.keep a o e) ?_ (wpAny_truthy_bool ?_))))))))))))
          · show A.units + 3 < cLine; exact om290q _ _ hu
          cases hlt : klt kf (at' zs (2 * k + 1)) (at' zs (2 * k + 1 + 1)) with
          | true =>
            have hlt' := hlt; unfold klt at hlt'; rw [hlt']
            simp only [Bool.not_true, Bool.false_eq_true, if_false]
            refine wpAny_execs_nil ⟨rfl, _, _, _, 2 * k + 1, tc, rfl, F, N, e1, e3, e4, e2, e5, e6, hcl, by unfold par; exact om291q _, by exact om292q _, fun j h1 h2 h3 => ?_⟩
            rcases (show j = 2 * k + 1 ∨ j = 2 * k + 1 + 1 from by unfold par at h3; exact om293q _ _ h1 h3) with rfl | rfl
            · exact ord.irr _
            · exact ord.asy hlt
          | false =>
            have hlt' := hlt; unfold klt at hlt'; rw [hlt']
            simp only [Bool.not_false, if_true]
            refine isTrue_and_nil ?_
            rw [if_pos rfl]
            refine wpAny_execs_cons (wpAny_Assign_Name (ld F rfl (st_ F N fun h₅ tk F N => ?_)))
            refine wpAny_execs_nil ⟨rfl, _, _, _, 2 * k + 1 + 1, tr, rfl, F, N, e1, e3, e4, e2, rfl, e6, hr, by unfold par; exact om294q _, by exact om295q _, fun j h1 h2 h3 => ?_⟩
            rcases (show j = 2 * k + 1 ∨ j = 2 * k + 1 + 1 from by unfold par at h3; exact om293q _ _ h1 h3) with rfl | rfl
            · exact hlt
            · exact ord.irr _
        · rw [decide_eq_false (by exact om296q _ _ _ hzl hr)]
          simp only [Bool.false_eq_true, if_false]
          refine wpAny_execs_nil ⟨rfl, _, _, _, 2 * k + 1, tc, rfl, F, N, e1, e3, e4, e2, e5, e6, hcl, by unfold par; exact om291q _, by exact om292q _, fun j h1 h2 h3 => ?_⟩
          rcases (show j = 2 * k + 1 ∨ j = 2 * k + 1 + 1 from by unfold par at h3; exact om293q _ _ h1 h3) with rfl | rfl
          · exact ord.irr _
          · omega
      · rintro f s' ⟨rfl, h, tk, m, c, tc, rfl, F, N, e1, e3, e4, e2, e5, e6, hcl', hpc, h1c, hbest⟩
        dsimp only
        refine wpAny_execs_cons (wpAny_Assign_Subscript (Subscript_ (ld F e1 (ld F e5 (item_l (N _ (.head _)).1 hcl' (by exact om285q _ _ hsz hzl) (ld F e1 (ld F e3 (set_l F N hkl (by exact om285q _ _ hsz hzl) fun h₆ F N => ?_))))))))
        dsimp only
        refine wpAny_execs_cons (wpAny_Assign_Name (ld F e5 (st_ F N fun h₅ tk F N => ?_)))
        dsimp only
        refine wpAny_execs_cons (wpAny_Assign_Name (wpAny_BinOp (wpAny_BinOp (cI fun _ _ => ld F rfl (dbl_ fun _ _ => cI fun _ _ => inc_ fun tc' tk => st_ F N fun h₂ tk F N => ?_)))))
        refine wpAny_execs_nil ?_
        exact ⟨_, _, _, _, vs.length - c, rfl, F, N, by unfold par at hpc; exact om297q _ _ _ _ hzl hcl' hpc h1c, _, _, c, tc, tc', rfl, rfl, e1, e2, rfl, e4, rfl, e6, I.step ord hcl' hpc h1c hbest⟩
    · rw [decide_eq_false (by exact om298q _ _ hc), if_neg (by decide)]
      exact ⟨rfl, _, _, _, _, _, _, _, rfl, F, N, e1, e3, e4, e2, I, by exact om299q _ _ _ hzl hc⟩
  · rintro f s' ⟨rfl, h, tk, m, zs, n₁, k, tq, rfl, F, N, e1, e3, e4, e2, I, leaf⟩
    dsimp only
    have hzl : zs.length = vs.length := I.len
    refine wpAny_execs_cons (wpAny_Assign_Subscript (ld F e4 (ld F e1 (ld F e3 (set_l F N I.inb (by exact om285q _ _ hsz hzl) fun h₆ F N => ?_)))))
    dsimp only
    have J := I.done leaf
    refine wpAny_execs_cons (wpAny_Expr_any (Call_ (name_K F C'.K C'.T (by k_is) (callWith_K C'.K (by k_is) (spliced_more (ld F e1 (spliced_more (ld F e2 (spliced_more (ld F e3 (spliced_none ⟨C'.K.keeps F.keep, ?_⟩)))))))))))
    refine sd_call (st := st) (ps := k) (kb := kb) (kf := kf) C' F.keep (N _ (.head _)).1 (N _ (.head _)).2.2 (fun v hv => (hk' v (I.perm.subset hv)).keep fun a _ o e => F.keep a o e) ord ?_ ?_ ?_ J.inb ?_ J.hb J.desc ?_
    · show A.depth + 1 < recursionLimit; exact om300q _ _ hroom
    · show A.units + 3 + 16 < cLine; exact om301q _ _ hu
    · rw [List.length_set]; exact om285q _ _ hsz hzl
    · rw [List.length_set]; exact leaf
    · intro h' tk vs' n' hb hl' hp hh
      exact wpAny_execs_nil (hQ _ _ _ _ (fun b o hbl e => hb b o hbl (F.keep b o (hg' b o hbl e))) hl' (hp.trans I.perm) hh)
end
end Mine
end
section
open PySem PySem.W PyProof.Rows
set_option Elab.async false
set_option linter.all false
set_option maxRecDepth 100000
namespace Mine
theorem fill5 (w : World) (g : Heap) : (hd.heap_1 w.params).In g → PySem.Challenge.rw_mr0283_01.row.prog = PySem.Challenge.rw_mr0283_01.row.prog := by
  k_fill
  intro _; rfl
def kgt (kf : Value → Key) (u v : Value) : Bool := (kf v).lt (kf u)
section
variable {prog : Program} {w : World} {A : Around} {E : Value → Shared → Prop} {s : Shared} {mg mb : Str → Option Value} {g : Heap}
theorem sdm_call {kb : Bool} {kf : Value → Key} {l : Addr} {vs : List Value} {n st ps : Nat} {t1 t2 : Tok} {Q : Value → Shared → Prop} (C : Cx w mg mb g) (S : g.StaysIn s.heap) (hl : s.heap.get? l = some (lst vs n)) (hg : g.get? l = none)
    (hk : ∀ v ∈ vs, KeyAt kb s.heap v (kf v)) (ord : Ord (kgt kf)) (hroom : A.depth < recursionLimit) (hu : A.units + 16 < cLine) (hsz : vs.length < 1000)
    (hps : ps < vs.length) (leaf : vs.length ≤ 2 * ps + 1) (hb : HB (kgt kf) st ps vs) (d : Desc st ps)
    (hQ : ∀ h' tk vs' n', But l s.heap h' → h'.get? l = some (lst vs' n') → vs'.Perm vs → HP (kgt kf) st vs' → Q .none { s with heap := h', toks := tk }) :
    wpAny (model prog w) A (call (.ref 92) [.ref l, .int (st : Int) t1, .int (ps : Int) t2]) Q E s := by
  refine enter1 (binds := [(Str.ofString "heap", .ref l), (Str.ofString "startpos", .int (st : Int) t1), (Str.ofString "pos", .int (ps : Int) t2)]) C S hl hg (by k_is) (by k_is) hroom (BindsTo.of_eq rfl) (locs rfl) ?_ rfl rfl rfl (by decide)
  intro g' L h₁ tk C' hg' F N
  obtain ⟨m, F, e1, e2, e3⟩ : ∃ m, Fr g' L h₁ m ∧ m (Str.ofString "heap") = some (.ref l) ∧ m (Str.ofString "startpos") = some (.int (st : Int) t1) ∧ m (Str.ofString "pos") = some (.int (ps : Int) t2) := ⟨_, F, rfl, rfl, rfl⟩
  have hk' : ∀ v ∈ vs, KeyAt kb g' v (kf v) := fun v hv => (hk v hv).keep fun a ea o e => hg' a o (fun q => by
    obtain ⟨a', xs, r1, ⟨o', r2, r3, _⟩, _⟩ := hk v hv
    rw [ea] at r1; cases r1; rw [q] at r2; rw [r2] at hl; cases hl; exact absurd (Value.type.inj r3) (by decide)) e
  -- newitem = heap[pos]
  refine wpAny_execs_cons (wpAny_Assign_Name (Subscript_ (ld F e1 (ld F e3 (item_l (N _ (.head _)).1 hps hsz (st_ F N fun h₂ tk F N => ?_))))))
  dsimp only
  -- the loop
  refine wpAny_execs_cons (wpAny_mono (While_inv2 (Q := fun f s' => f = .next ∧ ∃ h tk m zs n₁ k tq, s' = { s with heap := h, toks := tk } ∧ Fr g' L h m ∧ News g' L h [(l, lst zs n₁)] ∧ m (Str.ofString "heap") = some (.ref l) ∧ m (Str.ofString "pos") = some (.int ((k : Nat) : Int) tq) ∧ m (Str.ofString "newitem") = some (at' vs ps) ∧
      SD (kgt kf) st vs (at' vs ps) zs k ∧ (k = st ∨ (st < k ∧ kgt kf (at' vs ps) (at' zs (par k)) = false)))
    (fun k m news => ∃ zs n₁ tq, news = [(l, lst zs n₁)] ∧ m (Str.ofString "heap") = some (.ref l) ∧ m (Str.ofString "startpos") = some (.int (st : Int) t1) ∧ m (Str.ofString "pos") = some (.int (k : Int) tq) ∧ m (Str.ofString "newitem") = some (at' vs ps) ∧ SD (kgt kf) st vs (at' vs ps) zs k)
    (n₀ := ps) F N ⟨vs, n, t2, rfl, e1, e2, e3, rfl, SD.start hps leaf hb d⟩ ?_ PassesOwn.never) ?_ fun _ _ x => x)
  · intro k m' news' h₃ tk₃ F N ⟨zs, n₁, tq, hn, e1, e2, e3, e4, I⟩
    subst hn
    have hzl : zs.length = vs.length := I.len
    have hx : KeyAt kb g' (at' vs ps) (kf (at' vs ps)) := hk' _ (at_mem hps)
    have hz : ∀ j, j < zs.length → j ≠ k → KeyAt kb g' (at' zs j) (kf (at' zs j)) := fun j hj hjk => hk' _ (I.perm.subset (by
      have := at_mem (xs := zs.set k (at' vs ps)) (i := j) (by rw [List.length_set]; exact hj)
      rwa [at_set_ne (Ne.symm hjk)] at this))
    refine wpAny_isTrue_Compare1 (ld F e3 (ld F e2 (gt_int (wpAny_truthy_bool ?_))))
    by_cases hq : st < k
    · rw [decide_eq_true (by exact om142q _ _ hq), if_pos rfl]
      have hp : par k < k := by unfold par; exact om274q _ _ hq
      have hpl : par k < zs.length := Nat.lt_trans hp I.inb
      refine wpAny_execs_cons (wpAny_Assign_Name (wpAny_BinOp (wpAny_BinOp (ld F e3 (cI fun _ _ => sub_ fun _ _ => cI fun _ _ => half_ (by exact om275q _ _ hp) fun _ _ => st_ F N fun h₄ tk F N => ?_)))))
      dsimp only
      refine wpAny_execs_cons (wpAny_Assign_Name (Subscript_ (ld F e1 (ld F rfl (item_l (N _ (.head _)).1 hpl (by exact om276q _ _ hsz hzl) (st_ F N fun h₅ tk F N => ?_))))))
      dsimp only
      refine wpAny_execs_cons (wpAny_If (wpAny_isTrue_Compare1 (ld F rfl (ld F e4 (lt_key ((hz _ hpl (Nat.ne_of_lt hp)).keep fun a _ o e => F.keep a o e) (hx.keep fun a _ o e => F.keep a o e) ?_ (wpAny_truthy_bool ?_))))))
      · show A.units + 3 < cLine; exact om277q _ _ hu
      cases hlt : (kf (at' zs (par k))).lt (kf (at' vs ps)) with
      | true =>
        rw [if_pos rfl]
        refine wpAny_execs_cons (wpAny_Assign_Subscript (ld F rfl (ld F e1 (ld F e3 (set_l F N I.inb (by exact om276q _ _ hsz hzl) fun h₆ F N => ?_)))))
        dsimp only
        refine wpAny_execs_cons (wpAny_Assign_Name (ld F rfl (st_ F N fun h₇ tk F N => ?_)))
        dsimp only
        refine wpAny_execs_cons (wpAny_Continue ?_)
        exact ⟨_, _, _, _, par k, rfl, F, N, hp, _, _, _, rfl, e1, e2, rfl, e4, I.step ord hq hlt⟩
      | false =>
        rw [if_neg (by decide)]
        refine wpAny_execs_nil ?_
        dsimp only
        refine wpAny_execs_cons (wpAny_Break ?_)
        exact ⟨rfl, _, _, _, _, _, _, _, rfl, F, N, e1, e3, e4, I, .inr ⟨hq, hlt⟩⟩
    · rw [decide_eq_false (by exact om278q _ _ hq), if_neg (by decide)]
      exact ⟨rfl, _, _, _, _, _, _, _, rfl, F, N, e1, e3, e4, I, .inl (Nat.le_antisymm (Nat.le_of_not_lt hq) I.desc.le)⟩
  · rintro f s' ⟨rfl, h, tk, m, zs, n₁, k, tq, rfl, F, N, e1, e3, e4, I, hend⟩
    dsimp only
    have hzl : zs.length = vs.length := I.len
    refine wpAny_execs_cons (wpAny_Assign_Subscript (ld F e4 (ld F e1 (ld F e3 (set_l F N I.inb (by exact om276q _ _ hsz hzl) fun h₆ F N => ?_)))))
    dsimp only
    exact wpAny_execs_nil (hQ _ _ _ _ (fun b o hb e => F.keep b o (hg' b o hb e)) (N _ (.head _)).1 (I.done hend).1 (I.done hend).2)
theorem sum_call {kb : Bool} {kf : Value → Key} {l : Addr} {vs : List Value} {n st : Nat} {t1 : Tok} {Q : Value → Shared → Prop} (C : Cx w mg mb g) (S : g.StaysIn s.heap) (hl : s.heap.get? l = some (lst vs n)) (hg : g.get? l = none)
    (hk : ∀ v ∈ vs, KeyAt kb s.heap v (kf v)) (ord : Ord (kgt kf)) (hroom : A.depth + 1 < recursionLimit) (hu : A.units + 32 < cLine) (hsz : vs.length < 400)
    (hst : st < vs.length) (hp0 : HP (kgt kf) (st + 1) vs)
    (hQ : ∀ h' tk vs' n', But l s.heap h' → h'.get? l = some (lst vs' n') → vs'.Perm vs → HP (kgt kf) st vs' → Q .none { s with heap := h', toks := tk }) :
    wpAny (model prog w) A (call (.ref 99) [.ref l, .int (st : Int) t1]) Q E s := by
  refine enter1 (binds := [(Str.ofString "heap", .ref l), (Str.ofString "pos", .int (st : Int) t1)]) C S hl hg (by k_is) (by k_is) (by exact om280q _ _ hroom) (BindsTo.of_eq rfl) (locs rfl) ?_ rfl rfl rfl (by decide)
  intro g' L h₁ tk C' hg' F N
  obtain ⟨m, F, e1, e2⟩ : ∃ m, Fr g' L h₁ m ∧ m (Str.ofString "heap") = some (.ref l) ∧ m (Str.ofString "pos") = some (.int (st : Int) t1) := ⟨_, F, rfl, rfl⟩
  have hk' : ∀ v ∈ vs, KeyAt kb g' v (kf v) := fun v hv => (hk v hv).keep fun a ea o e => hg' a o (fun q => by
    obtain ⟨a', xs, r1, ⟨o', r2, r3, _⟩, _⟩ := hk v hv
    rw [ea] at r1; cases r1; rw [q] at r2; rw [r2] at hl; cases hl; exact absurd (Value.type.inj r3) (by decide)) e
  -- endpos = len(heap)
  refine wpAny_execs_cons (wpAny_Assign_Name (Call_ (name_B F C'.K C'.T (by k_is) boot_len (by decide) (callWith_builtin1 (spliced_more (ld F e1 (spliced_none (len_l (N _ (.head _)).1 (by exact om281q _ hsz) fun te tk => st_ F N fun h₂ tk F N => ?_))))))))
  dsimp only
  -- startpos = pos; newitem = heap[pos]; childpos = 2 * pos + 1
  refine wpAny_execs_cons (wpAny_Assign_Name (ld F e2 (st_ F N fun h₂ tk F N => ?_)))
  dsimp only
  refine wpAny_execs_cons (wpAny_Assign_Name (Subscript_ (ld F e1 (ld F e2 (item_l (N _ (.head _)).1 hst (by exact om281q _ hsz) (st_ F N fun h₂ tk F N => ?_))))))
  dsimp only
  refine wpAny_execs_cons (wpAny_Assign_Name (wpAny_BinOp (wpAny_BinOp (cI fun _ _ => ld F e2 (dbl_ fun _ _ => cI fun _ _ => inc_ fun tc tk => st_ F N fun h₂ tk F N => ?_)))))
  dsimp only
  -- the loop
  refine wpAny_execs_cons (wpAny_mono (While_inv2 (Q := fun f s' => f = .next ∧ ∃ h tk m zs n₁ k tq, s' = { s with heap := h, toks := tk } ∧ Fr g' L h m ∧ News g' L h [(l, lst zs n₁)] ∧ m (Str.ofString "heap") = some (.ref l) ∧ m (Str.ofString "pos") = some (.int ((k : Nat) : Int) tq) ∧ m (Str.ofString "newitem") = some (at' vs st) ∧
      m (Str.ofString "startpos") = some (.int (st : Int) t1) ∧ SU (kgt kf) st vs (at' vs st) zs k ∧ zs.length ≤ 2 * k + 1)
    (fun r m news => ∃ zs n₁ k tq tc, r = vs.length - k ∧ news = [(l, lst zs n₁)] ∧ m (Str.ofString "heap") = some (.ref l) ∧ m (Str.ofString "startpos") = some (.int (st : Int) t1) ∧ m (Str.ofString "pos") = some (.int ((k : Nat) : Int) tq) ∧ m (Str.ofString "newitem") = some (at' vs st) ∧
      m (Str.ofString "childpos") = some (.int ((2 * k + 1 : Nat) : Int) tc) ∧ m (Str.ofString "endpos") = some (.int (vs.length : Int) te) ∧ SU (kgt kf) st vs (at' vs st) zs k)
    (n₀ := vs.length - st) F N ⟨vs, n, st, t1, tc, rfl, rfl, e1, rfl, e2, rfl, rfl, rfl, SU.start hst hp0⟩ ?_ PassesOwn.never) ?_ fun _ _ x => x)
  · rintro r m' news' h₃ tk₃ F N ⟨zs, n₁, k, tq, tc, rfl, rfl, e1, e2, e3, e4, e5, e6, I⟩
    have hzl : zs.length = vs.length := I.len
    have hkl : k < zs.length := I.inb
    have hz : ∀ j, j < zs.length → j ≠ k → KeyAt kb g' (at' zs j) (kf (at' zs j)) := fun j hj hjk => hk' _ (I.perm.subset (by
      have := at_mem (xs := zs.set k (at' vs st)) (i := j) (by rw [List.length_set]; exact hj)
      rwa [at_set_ne (Ne.symm hjk)] at this))
    refine wpAny_isTrue_Compare1 (ld F e5 (ld F e6 (lt_int (wpAny_truthy_bool ?_))))
    by_cases hc : 2 * k + 1 < vs.length
    · rw [decide_eq_true (by exact om282q _ _ hc), if_pos rfl]
      have hcl : 2 * k + 1 < zs.length := by exact om283q _ _ _ hzl hc
      refine wpAny_execs_cons (wpAny_Assign_Name (wpAny_BinOp (ld F e5 (cI fun _ _ => inc_ fun tr tk => st_ F N fun h₄ tk F N => ?_))))
      dsimp only
      refine wpAny_execs_cons (wpAny_mono (Q := fun f s' => f = .next ∧ ∃ h tk m c tc, s' = { s with heap := h, toks := tk } ∧ Fr g' L h m ∧ News g' L h [(l, lst zs n₁)] ∧ m (Str.ofString "heap") = some (.ref l) ∧ m (Str.ofString "pos") = some (.int ((k : Nat) : Int) tq) ∧ m (Str.ofString "newitem") = some (at' vs st) ∧
        m (Str.ofString "startpos") = some (.int (st : Int) t1) ∧ m (Str.ofString "childpos") = some (.int ((c : Nat) : Int) tc) ∧ m (Str.ofString "endpos") = some (.int (vs.length : Int) te) ∧ c < zs.length ∧ par c = k ∧ 1 ≤ c ∧ (∀ j, 1 ≤ j → j < zs.length → par j = k → kgt kf (at' zs j) (at' zs c) = false)) (wpAny_If (isTrue_and (wpAny_isTrue_Compare1 (ld F rfl (ld F e6 (lt_int (wpAny_truthy_bool ?_))))))) ?_ fun _ _ x => x)
      · by_cases hr : 2 * k + 1 + 1 < zs.length
        · rw [decide_eq_true (by exact om284q _ _ _ hzl hr), if_pos rfl]
          have ec : (fun y => if y = Str.ofString "rightpos" then some (Value.int ((2 * k + 1 + 1 : Nat) : Int) tr) else m' y) (Str.ofString "heap") = some (.ref l) := e1
          have ec' : (fun y => if y = Str.ofString "rightpos" then some (Value.int ((2 * k + 1 + 1 : Nat) : Int) tr) else m' y) (Str.ofString "childpos") = _ := e5
          have e1' := ec
          refine isTrue_and (isTrue_not (wpAny_isTrue_Compare1 (Subscript_ (ld F e1' (ld F rfl (item_l (N _ (.head _)).1 hr (by exact om285q _ _ hsz hzl) (Subscript_ (ld F ec (ld F ec' (item_l (N _ (.head _)).1 hcl (by exact om285q _ _ hsz hzl) (lt_key ((hz _ (by exact om288q _ _ hr) (by exact om289q _)).keep fun a _ o e => F.keep a o e) ((hz _ (by exact om286q _ _ hcl) (by exact om287q _)).keep fun a _ o e => F.keep a o e) ?_ (wpAny_truthy_bool ?_))))))))))))
          · show A.units + 3 < cLine; exact om290q _ _ hu
          cases hlt : kgt kf (at' zs (2 * k + 1)) (at' zs (2 * k + 1 + 1)) with
          | true =>
            have hlt' := hlt; unfold kgt at hlt'; rw [hlt']
            simp only [Bool.not_true, Bool.false_eq_true, if_false]
            refine wpAny_execs_nil ⟨rfl, _, _, _, 2 * k + 1, tc, rfl, F, N, e1, e3, e4, e2, e5, e6, hcl, by unfold par; exact om291q _, by exact om292q _, fun j h1 h2 h3 => ?_⟩
            rcases (show j = 2 * k + 1 ∨ j = 2 * k + 1 + 1 from by unfold par at h3; exact om293q _ _ h1 h3) with rfl | rfl
            · exact ord.irr _
            · exact ord.asy hlt
          | false =>
            have hlt' := hlt; unfold kgt at hlt'; rw [hlt']
            simp only [Bool.not_false, if_true]
            refine isTrue_and_nil ?_
            rw [if_pos rfl]
            refine wpAny_execs_cons (wpAny_Assign_Name (ld F rfl (st_ F N fun h₅ tk F N => ?_)))
            refine wpAny_execs_nil ⟨rfl, _, _, _, 2 * k + 1 + 1, tr, rfl, F, N, e1, e3, e4, e2, rfl, e6, hr, by unfold par; exact om294q _, by exact om295q _, fun j h1 h2 h3 => ?_⟩
            rcases (show j = 2 * k + 1 ∨ j = 2 * k + 1 + 1 from by unfold par at h3; exact om293q _ _ h1 h3) with rfl | rfl
            · exact hlt
            · exact ord.irr _
        · rw [decide_eq_false (by exact om296q _ _ _ hzl hr)]
          simp only [Bool.false_eq_true, if_false]
          refine wpAny_execs_nil ⟨rfl, _, _, _, 2 * k + 1, tc, rfl, F, N, e1, e3, e4, e2, e5, e6, hcl, by unfold par; exact om291q _, by exact om292q _, fun j h1 h2 h3 => ?_⟩
          rcases (show j = 2 * k + 1 ∨ j = 2 * k + 1 + 1 from by unfold par at h3; exact om293q _ _ h1 h3) with rfl | rfl
          · exact ord.irr _
          · omega
      · rintro f s' ⟨rfl, h, tk, m, c, tc, rfl, F, N, e1, e3, e4, e2, e5, e6, hcl', hpc, h1c, hbest⟩
        dsimp only
        refine wpAny_execs_cons (wpAny_Assign_Subscript (Subscript_ (ld F e1 (ld F e5 (item_l (N _ (.head _)).1 hcl' (by exact om285q _ _ hsz hzl) (ld F e1 (ld F e3 (set_l F N hkl (by exact om285q _ _ hsz hzl) fun h₆ F N => ?_))))))))
        dsimp only
        refine wpAny_execs_cons (wpAny_Assign_Name (ld F e5 (st_ F N fun h₅ tk F N => ?_)))
        dsimp only
        refine wpAny_execs_cons (wpAny_Assign_Name (wpAny_BinOp (wpAny_BinOp (cI fun _ _ => ld F rfl (dbl_ fun _ _ => cI fun _ _ => inc_ fun tc' tk => st_ F N fun h₂ tk F N => ?_)))))
        refine wpAny_execs_nil ?_
        exact ⟨_, _, _, _, vs.length - c, rfl, F, N, by unfold par at hpc; exact om297q _ _ _ _ hzl hcl' hpc h1c, _, _, c, tc, tc', rfl, rfl, e1, e2, rfl, e4, rfl, e6, I.step ord hcl' hpc h1c hbest⟩
    · rw [decide_eq_false (by exact om298q _ _ hc), if_neg (by decide)]
      exact ⟨rfl, _, _, _, _, _, _, _, rfl, F, N, e1, e3, e4, e2, I, by exact om299q _ _ _ hzl hc⟩
  · rintro f s' ⟨rfl, h, tk, m, zs, n₁, k, tq, rfl, F, N, e1, e3, e4, e2, I, leaf⟩
    dsimp only
    have hzl : zs.length = vs.length := I.len
    refine wpAny_execs_cons (wpAny_Assign_Subscript (ld F e4 (ld F e1 (ld F e3 (set_l F N I.inb (by exact om285q _ _ hsz hzl) fun h₆ F N => ?_)))))
    dsimp only
    have J := I.done leaf
    refine wpAny_execs_cons (wpAny_Expr_any (Call_ (name_K F C'.K C'.T (by k_is) (callWith_K C'.K (by k_is) (spliced_more (ld F e1 (spliced_more (ld F e2 (spliced_more (ld F e3 (spliced_none ⟨C'.K.keeps F.keep, ?_⟩)))))))))))
    refine sdm_call (st := st) (ps := k) (kb := kb) (kf := kf) C' F.keep (N _ (.head _)).1 (N _ (.head _)).2.2 (fun v hv => (hk' v (I.perm.subset hv)).keep fun a _ o e => F.keep a o e) ord ?_ ?_ ?_ J.inb ?_ J.hb J.desc ?_
    · show A.depth + 1 < recursionLimit; exact om300q _ _ hroom
    · show A.units + 3 + 16 < cLine; exact om301q _ _ hu
    · rw [List.length_set]; exact om285q _ _ hsz hzl
    · rw [List.length_set]; exact leaf
    · intro h' tk vs' n' hb hl' hp hh
      exact wpAny_execs_nil (hQ _ _ _ _ (fun b o hbl e => hb b o hbl (F.keep b o (hg' b o hbl e))) hl' (hp.trans I.perm) hh)
end
end Mine
end
section
open PySem PySem.W PyProof.Rows
set_option Elab.async false
set_option linter.all false
set_option maxRecDepth 100000
namespace Mine
theorem fill6 (w : World) (g : Heap) : (hd.heap_1 w.params).In g → PySem.Challenge.rw_mr0283_01.row.prog = PySem.Challenge.rw_mr0283_01.row.prog := by
  k_fill
  intro _; rfl

theorem keyAt_hide {b : Bool} {h g' : Heap} {l : Addr} {vs : List Value} {n : Nat} {v : Value} {k : Key} (hl : h.get? l = some (lst vs n)) (hg' : ∀ b o, b ≠ l → h.get? b = some o → g'.get? b = some o) (x : KeyAt b h v k) : KeyAt b g' v k :=
  x.keep fun a ea o e => hg' a o (fun q => by
    obtain ⟨a', xs, r1, ⟨o', r2, r3, _⟩, _⟩ := x
    rw [ea] at r1; cases r1; rw [q] at r2; rw [r2] at hl; cases hl; exact absurd (Value.type.inj r3) (by decide)) e
theorem KeyAt.fr {b : Bool} {g' h : Heap} {L : Addr} {m : Str → Option Value} {v : Value} {k : Key} (x : KeyAt b g' v k) (F : Fr g' L h m) : KeyAt b h v k := x.keep fun a _ o e => F.keep a o e

theorem frBut {g' h h' : Heap} {L l : Addr} {m : Str → Option Value} (F : Fr g' L h m) (hb : But l h h') (hL : l ≠ L) (hg : g'.get? l = none) : Fr g' L h' m :=
  ⟨Heap.Ns.at F.ns fun o e => hb L o (Ne.symm hL) e, fun b o e => hb b o (fun q => by rw [q, hg] at e; cases e) (F.keep b o e), F.above⟩

section
variable {prog : Program} {w : World} {A : Around} {E : Value → Shared → Prop} {s : Shared} {mg mb : Str → Option Value} {g : Heap}

theorem app_l {l L : Addr} {g' : Heap} {m : Str → Option Value} {vs : List Value} {n : Nat} {v : Value} {Q : Value → Shared → Prop} (F : Fr g' L s.heap m) (N : News g' L s.heap [(l, lst vs n)]) (hsz : vs.length < 1000)
    (h : ∀ h', Fr g' L h' m → News g' L h' [(l, lst (vs ++ [v]) (n + 1))] → Q .none { s with heap := h' }) :
    wpAny (model prog w) A (call (.builtin "list.append") [.ref l, v]) Q E s := by
  refine append_K (its := vs.toArray) (n := n) F N (news' := [(l, lst (vs ++ [v]) (n + 1))]) ?_ h (by rw [sizeLine_eq, List.size_toArray]; exact om91q _ hsz)
  have e : (vs ++ [v]).toArray = vs.toArray.push v := by simp
  have e2 : lst (vs ++ [v]) (n + 1) = PySem.W.listOf (vs.toArray.push v) (n + 1) := by show PySem.W.listOf (vs ++ [v]).toArray (n + 1) = _; rw [e]
  rw [e2]
  exact .head (fun _ h => nomatch h)
theorem last_snoc : ∀ (p : List Value) (y : Value), kl_last (p ++ [y]) = some (p, y)
  | [], y => rfl
  | x :: r, y => by
    show (match kl_last (r ++ [y]) with | some (p, y) => some (x :: p, y) | none => some ([], x)) = _
    rw [last_snoc r y]
theorem pop_l {l L : Addr} {g' : Heap} {m : Str → Option Value} {p : List Value} {y : Value} {n : Nat} {Q : Value → Shared → Prop} (F : Fr g' L s.heap m) (N : News g' L s.heap [(l, lst (p ++ [y]) n)]) (hsz : p.length < 1000)
    (h : ∀ h', Fr g' L h' m → News g' L h' [(l, lst p (n + 1))] → Q y { s with heap := h' }) :
    wpAny (model prog w) A (call (.builtin "list.pop") [.ref l]) Q E s :=
  kl_pop F N (p := p) (by simpa using last_snoc p y) (news' := [(l, lst p (n + 1))]) (.head (fun _ h => nomatch h)) (by rw [sizeLine_eq]; simp; exact om302q _ hsz) h
theorem truth_l {l : Addr} {vs : List Value} {n : Nat} {Q : Bool → Shared → Prop} (hl : s.heap.get? l = some (lst vs n)) (hsz : vs.length < 1000)
    (h : ∀ tk, Q (!vs.isEmpty) { s with toks := tk }) : wpAny (model prog w) A (truthy (.ref l)) Q E s := by
  have hL : s.heap.IsList l vs.toArray := PySem.IsL.isList (n := n) hl
  exact wpAny_truthy_list hL (by simp; exact om279q _ hsz) (by simpa using h _)

theorem push_call {kb : Bool} {kf : Value → Key} {l : Addr} {vs : List Value} {n : Nat} {v : Value} {Q : Value → Shared → Prop} (C : Cx w mg mb g) (S : g.StaysIn s.heap) (hl : s.heap.get? l = some (lst vs n)) (hg : g.get? l = none)
    (hk : ∀ v ∈ vs, KeyAt kb s.heap v (kf v)) (hv : KeyAt kb s.heap v (kf v)) (ord : Ord (klt kf)) (hroom : A.depth + 2 < recursionLimit) (hu : A.units + 64 < cLine) (hsz : vs.length < 300) (hp0 : HP (klt kf) 0 vs)
    (hQ : ∀ h' tk vs' n', But l s.heap h' → h'.get? l = some (lst vs' n') → vs'.Perm (v :: vs) → HP (klt kf) 0 vs' → Q .none { s with heap := h', toks := tk }) :
    wpAny (model prog w) A (call (.ref 29) [.ref l, v]) Q E s := by
  refine enter1 (binds := [(Str.ofString "heap", .ref l), (Str.ofString "item", v)]) C S hl hg (by k_is) (by k_is) (by exact om303q _ _ hroom) (BindsTo.of_eq rfl) (locs rfl) ?_ rfl rfl rfl (by decide)
  intro g' L h₁ tk C' hg' F N
  obtain ⟨m, F, e1, e2⟩ : ∃ m, Fr g' L h₁ m ∧ m (Str.ofString "heap") = some (.ref l) ∧ m (Str.ofString "item") = some v := ⟨_, F, rfl, rfl⟩
  have hk' : ∀ u ∈ vs ++ [v], KeyAt kb g' u (kf u) := fun u hu => by
    rcases List.mem_append.mp hu with h | h
    · exact keyAt_hide hl hg' (hk u h)
    · obtain rfl := List.mem_singleton.mp h
      exact keyAt_hide hl hg' hv
  refine wpAny_execs_cons (wpAny_Expr_any (MethodCall_ (ld F e1 (listMethod_K N (.head _) PySem.F.slot_list_append PySem.F.type_list_append (callWith_method1 (spliced_more (ld F e2 (spliced_none (app_l F N (by exact om304q _ hsz) fun h₂ F N => ?_)))))))))
  dsimp only
  have hlen : (vs ++ [v]).length = vs.length + 1 := by simp
  refine wpAny_execs_cons (wpAny_Expr_any (Call_ (name_K F C'.K C'.T (by k_is) (callWith_K C'.K (by k_is) (spliced_more (ld F e1 (spliced_more (cI fun t0 tk => spliced_more (wpAny_BinOp (Call_ (name_B F C'.K C'.T (by k_is) boot_len (by decide) (callWith_builtin1 (spliced_more (ld F e1 (spliced_none (len_l (N _ (.head _)).1 (by exact om305q _ _ hsz hlen) fun te tk => cI fun _ tk => sub_ fun t2 tk => spliced_none ⟨C'.K.keeps F.keep, ?_⟩))))))))))))))))
  rw [show (((vs ++ [v]).length : Nat) : Int) - 1 = ((vs.length : Nat) : Int) from by rw [hlen]; exact om306q _]
  refine sd_call (st := 0) (ps := vs.length) (kb := kb) (kf := kf) C' F.keep (N _ (.head _)).1 (N _ (.head _)).2.2 (fun v hv => (hk' v hv).fr F) ord ?_ ?_ ?_ ?_ ?_ hp0.snoc (Desc.zero _) ?_
  · show A.depth + 1 < recursionLimit; exact om307q _ _ hroom
  · show A.units + 3 + 16 < cLine; exact om308q _ _ hu
  · exact om305q _ _ hsz hlen
  · exact om309q _ _ hlen
  · exact om310q _ _ hlen
  · intro h' tk vs' n' hb hl' hp hh
    exact wpAny_execs_nil (hQ _ _ _ _ (fun b o hbl e => hb b o hbl (F.keep b o (hg' b o hbl e))) hl' (hp.trans (List.perm_append_singleton v vs)) hh)

theorem replace_call {kb : Bool} {kf : Value → Key} {l : Addr} {vs : List Value} {n : Nat} {v : Value} {Q : Value → Shared → Prop} (C : Cx w mg mb g) (S : g.StaysIn s.heap) (hl : s.heap.get? l = some (lst vs n)) (hg : g.get? l = none)
    (hk : ∀ v ∈ vs, KeyAt kb s.heap v (kf v)) (hv : KeyAt kb s.heap v (kf v)) (ord : Ord (klt kf)) (hroom : A.depth + 2 < recursionLimit) (hu : A.units + 64 < cLine) (hsz : vs.length < 300) (hne : 0 < vs.length) (hp0 : HP (klt kf) 0 vs)
    (hQ : ∀ h' tk vs' n', But l s.heap h' → h'.get? l = some (lst vs' n') → vs'.Perm (vs.set 0 v) → HP (klt kf) 0 vs' → Q (at' vs 0) { s with heap := h', toks := tk }) :
    wpAny (model prog w) A (call (.ref 43) [.ref l, v]) Q E s := by
  refine enter1 (binds := [(Str.ofString "heap", .ref l), (Str.ofString "item", v)]) C S hl hg (by k_is) (by k_is) (by exact om303q _ _ hroom) (BindsTo.of_eq rfl) (locs rfl) ?_ rfl rfl rfl (by decide)
  intro g' L h₁ tk C' hg' F N
  obtain ⟨m, F, e1, e2⟩ : ∃ m, Fr g' L h₁ m ∧ m (Str.ofString "heap") = some (.ref l) ∧ m (Str.ofString "item") = some v := ⟨_, F, rfl, rfl⟩
  have hk' : ∀ u ∈ vs.set 0 v, KeyAt kb g' u (kf u) := fun u hu => by
    rcases List.mem_or_eq_of_mem_set hu with h | rfl
    · exact keyAt_hide hl hg' (hk u h)
    · exact keyAt_hide hl hg' hv
  refine wpAny_execs_cons (wpAny_Assign_Name (Subscript_ (ld F e1 (cI fun t0 tk => item_l (i := 0) (N _ (.head _)).1 hne (by exact om304q _ hsz) (st_ F N fun h₂ tk F N => ?_)))))
  dsimp only
  refine wpAny_execs_cons (wpAny_Assign_Subscript (ld F e2 (ld F e1 (cI fun t0 tk => set_l (i := 0) F N hne (by exact om304q _ hsz) fun h₃ F N => ?_))))
  dsimp only
  refine wpAny_execs_cons (wpAny_Expr_any (Call_ (name_K F C'.K C'.T (by k_is) (callWith_K C'.K (by k_is) (spliced_more (ld F e1 (spliced_more (cI fun t0 tk => spliced_none ⟨C'.K.keeps F.keep, ?_⟩))))))))
  refine su_call (st := 0) (kb := kb) (kf := kf) C' F.keep (N _ (.head _)).1 (N _ (.head _)).2.2 (fun v hv => (hk' v hv).fr F) ord ?_ ?_ ?_ ?_ hp0.set0 ?_
  · show A.depth + 1 + 1 < recursionLimit; exact om311q _ _ hroom
  · show A.units + 3 + 32 < cLine; exact om312q _ _ hu
  · rw [List.length_set]; exact om313q _ hsz
  · rw [List.length_set]; exact om314q _ hne
  · intro h' tk vs' n' hb hl' hp hh
    dsimp only
    have F' := frBut F hb (N _ (.head _)).2.1 (N _ (.head _)).2.2
    refine wpAny_execs_cons (wpAny_Return_some (ld F' rfl ?_))
    exact hQ _ _ _ _ (fun b o hbl e => hb b o hbl (F.keep b o (hg' b o hbl e))) hl' hp hh

theorem pop_call {kb : Bool} {kf : Value → Key} {l : Addr} {vs : List Value} {n : Nat} {Q : Value → Shared → Prop} (C : Cx w mg mb g) (S : g.StaysIn s.heap) (hl : s.heap.get? l = some (lst vs n)) (hg : g.get? l = none)
    (hk : ∀ v ∈ vs, KeyAt kb s.heap v (kf v)) (ord : Ord (klt kf)) (hroom : A.depth + 2 < recursionLimit) (hu : A.units + 64 < cLine) (hsz : vs.length < 300) (hne : 0 < vs.length) (hp0 : HP (klt kf) 0 vs)
    (hQ : ∀ h' tk vs' n', But l s.heap h' → h'.get? l = some (lst vs' n') → (at' vs 0 :: vs').Perm vs → HP (klt kf) 0 vs' → Q (at' vs 0) { s with heap := h', toks := tk }) :
    wpAny (model prog w) A (call (.ref 36) [.ref l]) Q E s := by
  obtain ⟨p, y, rfl⟩ : ∃ p y, vs = p ++ [y] := ⟨vs.dropLast, vs.getLast (List.ne_nil_of_length_pos hne), (List.dropLast_concat_getLast _).symm⟩
  have hlen : (p ++ [y]).length = p.length + 1 := by simp
  refine enter1 (binds := [(Str.ofString "heap", .ref l)]) C S hl hg (by k_is) (by k_is) (by exact om303q _ _ hroom) (BindsTo.of_eq rfl) (locs rfl) ?_ rfl rfl rfl (by decide)
  intro g' L h₁ tk C' hg' F N
  obtain ⟨m, F, e1⟩ : ∃ m, Fr g' L h₁ m ∧ m (Str.ofString "heap") = some (.ref l) := ⟨_, F, rfl⟩
  have hk' : ∀ u ∈ p ++ [y], KeyAt kb g' u (kf u) := fun u hu => keyAt_hide hl hg' (hk u hu)
  refine wpAny_execs_cons (wpAny_Assign_Name (MethodCall_ (ld F e1 (listMethod_K N (.head _) PySem.F.slot_list_pop PySem.F.type_list_pop (callWith_method0 (pop_l F N (by exact om315q _ _ hsz hlen) fun h₂ F N => st_ F N fun h₃ tk F N => ?_))))))
  dsimp only
  refine wpAny_execs_cons (wpAny_If (isTrue_plain (ld F e1 (truth_l (N _ (.head _)).1 (by exact om315q _ _ hsz hlen) fun tk => ?_))))
  cases p with
  | nil =>
    simp only [List.isEmpty_nil, Bool.not_true, Bool.false_eq_true, if_false]
    refine wpAny_execs_nil ?_
    dsimp only
    refine wpAny_execs_cons (wpAny_Return_some (ld F rfl ?_))
    exact hQ _ _ [] _ (fun b o hbl e => F.keep b o (hg' b o hbl e)) (N _ (.head _)).1 (List.Perm.refl _) (fun j h1 h2 => absurd h2 (Nat.not_lt_zero _))
  | cons x q =>
    simp only [List.isEmpty_cons, Bool.not_false, if_true]
    have hl0 : 0 < (x :: q).length := Nat.succ_pos _
    have hlc : (x :: q).length = q.length + 1 := rfl
    refine wpAny_execs_cons (wpAny_Assign_Name (Subscript_ (ld F e1 (cI fun t0 tk => item_l (i := 0) (N _ (.head _)).1 hl0 (by exact om315q _ _ hsz hlen) (st_ F N fun h₂ tk F N => ?_)))))
    dsimp only
    refine wpAny_execs_cons (wpAny_Assign_Subscript (ld F rfl (ld F e1 (cI fun t0 tk => set_l (i := 0) F N hl0 (by exact om315q _ _ hsz hlen) fun h₃ F N => ?_))))
    dsimp only
    refine wpAny_execs_cons (wpAny_Expr_any (Call_ (name_K F C'.K C'.T (by k_is) (callWith_K C'.K (by k_is) (spliced_more (ld F e1 (spliced_more (cI fun t0 tk => spliced_none ⟨C'.K.keeps F.keep, ?_⟩))))))))
    refine su_call (st := 0) (kb := kb) (kf := kf) C' F.keep (N _ (.head _)).1 (N _ (.head _)).2.2 (fun v hv => (hk' v ?_).fr F) ord ?_ ?_ ?_ ?_ hp0.init.set0 ?_
    · rcases List.mem_or_eq_of_mem_set hv with h | rfl
      · exact List.mem_append_left _ h
      · exact List.mem_append_right _ (.head _)
    · show A.depth + 1 + 1 < recursionLimit; exact om311q _ _ hroom
    · show A.units + 3 + 32 < cLine; exact om312q _ _ hu
    · rw [List.length_set]; exact om316q _ _ hsz hlen
    · rw [List.length_set]; exact om314q _ hl0
    · intro h' tk vs' n' hb hl' hp hh
      dsimp only
      have F' := frBut F hb (N _ (.head _)).2.1 (N _ (.head _)).2.2
      refine wpAny_execs_cons (wpAny_Return_some (ld F' rfl ?_))
      refine hQ _ _ _ _ (fun b o hbl e => hb b o hbl (F.keep b o (hg' b o hbl e))) hl' ?_ hh
      show (x :: vs').Perm (x :: (q ++ [y]))
      exact (hp.trans (List.perm_append_singleton y q).symm).cons x
end
end Mine
end
section
open PySem PySem.W PyProof.Rows
set_option Elab.async false
set_option linter.all false
set_option maxRecDepth 100000
namespace Mine
theorem fill7 (w : World) (g : Heap) : (hd.heap_1 w.params).In g → PySem.Challenge.rw_mr0283_01.row.prog = PySem.Challenge.rw_mr0283_01.row.prog := by
  k_fill
  intro _; rfl

theorem frWr {g' h h' : Heap} {L : Addr} {m : Str → Option Value} {wr : List Addr} (F : Fr g' L h m) (hb : ∀ b o, b ∉ wr → h.get? b = some o → h'.get? b = some o) (hL : L ∉ wr) (hg : ∀ b ∈ wr, g'.get? b = none) : Fr g' L h' m :=
  ⟨Heap.Ns.at F.ns fun o e => hb L o hL e, fun b o e => hb b o (fun q => by rw [hg b q] at e; cases e) (F.keep b o e), F.above⟩
theorem newsWr {g' h h' : Heap} {L : Addr} {news : List (Addr × Obj)} {wr : List Addr} (N : News g' L h news) (hb : ∀ b o, b ∉ wr → h.get? b = some o → h'.get? b = some o) (hn : ∀ p ∈ news, p.1 ∉ wr) : News g' L h' news :=
  fun p hp => ⟨hb _ _ (hn p hp) (N p hp).1, (N p hp).2⟩
theorem newsBut {g' h h' : Heap} {L l : Addr} {news : List (Addr × Obj)} (N : News g' L h news) (hb : But l h h') (hn : ∀ p ∈ news, p.1 ≠ l) : News g' L h' news :=
  fun p hp => ⟨hb _ _ (hn p hp) (N p hp).1, (N p hp).2⟩
theorem news_cons {g' h : Heap} {L : Addr} {news : List (Addr × Obj)} {a : Addr} {o : Obj} (ha : h.get? a = some o) (hL : a ≠ L) (hg : g'.get? a = none) (N : News g' L h news) : News g' L h ((a, o) :: news) := fun p hp => by
  rcases List.mem_cons.mp hp with rfl | hp
  · exact ⟨ha, hL, hg⟩
  · exact N p hp

section
variable {prog : Program} {w : World} {A : Around} {E : Value → Shared → Prop} {s : Shared} {mg mb : Str → Option Value} {g : Heap}

/-- a for over whatever walks -/
theorem for_w {target : PySem.Expr} {body : List Stmt} {env : Env} {R : Flow → Shared → Prop} {I : Addr} {fp wr : List Addr} {n : Nat} {P : Nat → Value → Prop} {St : Nat → Heap → Prop}
    (W : Walks prog w A I fp wr n P St) (J : Nat → Shared → Prop)
    (turn : ∀ i s', i < n → J i s' → ∀ v h' tk, P i v → St (i + 1) h' → (∀ b o, b ∉ wr → s'.heap.get? b = some o → h'.get? b = some o) →
      wpAny (model prog w) A (assign target env v) (fun _ s₂ => wpAny (model prog w) A (execs body env) (fun f s₃ => match f with
          | .next | .cont => J (i + 1) s₃ ∧ ∀ b ∈ fp, ∀ o, h'.get? b = some o → s₃.heap.get? b = some o
          | .brk => R .next s₃
          | .ret v => R (.ret v) s₃) (fun _ _ => False) s₂) (fun _ _ => False) { s' with heap := h', toks := tk })
    (fin : ∀ s', J n s' → ∀ h' tk, (∀ b o, b ∉ wr → s'.heap.get? b = some o → h'.get? b = some o) → R .next { s' with heap := h', toks := tk })
    (h0 : J 0 s) (hst : St 0 s.heap) (ht : ∀ v, letOwnedTupleGo target (.ref I) v = pure () := by intro _; rfl) :
    codeAny (model prog w) A (.forLoop target (.ref I) body [] env) (fun r s' => match r with | .ok f => R f s' | .error e => cameBackBy (model prog w) A env E e s') s := by
  refine codeAny_forLoop (fun k s' => ∃ i, i ≤ n ∧ k = n - i ∧ St i s'.heap ∧ J i s') ?_ n ⟨0, Nat.zero_le _, rfl, hst, h0⟩ ht
  rintro k s' ⟨i, hi, rfl, st, j⟩
  by_cases hlt : i < n
  · refine W.item i s' _ _ hlt st fun v h' tk hP st' hk => ?_
    refine wpAny_mono (turn i s' hlt j v h' tk hP st' hk) (fun _ s₂ h₂ => wpAny_mono h₂ (fun f s₃ h₃ => ?_) fun _ _ x => x.elim) fun _ _ x => x.elim
    cases f with
    | next => exact ⟨n - (i + 1), by exact om317q _ _ hlt, i + 1, hlt, rfl, W.frame _ _ _ st' h₃.2, h₃.1⟩
    | cont => exact ⟨n - (i + 1), by exact om317q _ _ hlt, i + 1, hlt, rfl, W.frame _ _ _ st' h₃.2, h₃.1⟩
    | brk => exact h₃
    | ret v => exact h₃
  · obtain rfl : i = n := by exact om318q _ _ hi hlt
    exact W.done s' _ _ st fun h' tk hk => wpAny_execs_nil (fin s' j h' tk hk)

theorem range_rev {r : Addr} {k : Nat} {t u v : Tok} {Q : Value → Shared → Prop} (hr : IsRange s.heap r 0 (k : Int) 1 t u v) (hk : k < 2 ^ 62)
    (h : Q (.ref s.heap.objs.size) { s with heap := s.heap.push { cls := .type "range_iterator", data := .fields #[rawInt ((k : Int) - 1), rawInt (k : Int), rawInt (-1)] } }) :
    wpAny (model prog w) A (call (.builtin "range.__reversed__") [.ref r]) Q E s := by
  have hT : s.TypeIs (.ref r) "range" := ⟨_, hr, rfl⟩
  refine wpAny_call_entry F.slot_range_reversed hT F.entry_range_reversed ?_ (F.args_range_reversed_1 _)
  unfold Builtin.«range.__reversed__»
  refine wpAny_bind (wpAny_of_eq (a := Value.ref r) rfl ?_)
  have hf : wpAny (model prog w) A.in1 (Builtin.Range.rangeFields (.ref r)) (fun x s' => x = (0, (k : Int), 1) ∧ s' = s) E s := by
    unfold Builtin.Range.rangeFields
    exact wpAny_bind (wpAny_field hr rfl (x := .int 0 t) rfl (wpAny_bind (wpAny_of_eq (a := some 0) rfl (wpAny_bind (wpAny_field hr rfl (x := .int (k : Int) u) rfl (wpAny_bind (wpAny_of_eq (a := some (k : Int)) rfl
      (wpAny_bind (wpAny_field hr rfl (x := .int 1 v) rfl (wpAny_bind (wpAny_of_eq (a := some 1) rfl (wpAny_pure ⟨rfl, rfl⟩))))))))))))
  refine wpAny_bind (wpAny_mono hf (fun x s' hx => ?_) fun _ _ e => e)
  obtain ⟨rfl, rfl⟩ := hx
  dsimp only
  have hn : Builtin.Range.rangeSize 0 (k : Int) 1 = (k : Int) := by
    unfold Builtin.Range.rangeSize
    simp only [show (1 : Int) > 0 from by decide, if_true]
    split <;> omega
  have hs : (Builtin.Range.rangeFitsLong 0 && Builtin.Range.rangeFitsLong (k : Int) && Builtin.Range.rangeFitsLong 1 && Builtin.Range.rangeFitsLong (-1) && Builtin.Range.rangeFitsLong (0 - 1) && Builtin.Range.rangeFitsLong (k : Int)) = true := by
    unfold Builtin.Range.rangeFitsLong
    simp
    exact om319q _ hk
  rw [hn, hs]
  simp only [Bool.not_true, Bool.false_eq_true, if_false, if_true]
  refine wpAny_bind (wpAny_newObj_type (wpAny_pure ⟨_, rfl, ?_⟩))
  rw [show (0 : Int) + ((k : Int) - 1) * 1 = (k : Int) - 1 from by exact om320q _]
  exact h

theorem rev_code {r : Addr} {k : Nat} {t u v : Tok} {Q₁ : Value → Shared → Prop} (hr : IsRange s.heap r 0 (k : Int) 1 t u v) (hk : k < 2 ^ 62)
    (h : Q₁ (.ref s.heap.objs.size) { s with heap := s.heap.push { cls := .type "range_iterator", data := .fields #[rawInt ((k : Int) - 1), rawInt (k : Int), rawInt (-1)] } }) :
    codeAny (model prog w) A (.call (.builtin "reversed.__new__") ⟨[.type "reversed", .ref r], []⟩) (wants Q₁ E) s := by
  have hT : s.TypeIs (.ref r) "range" := ⟨_, hr, rfl⟩
  refine codeAny_of_tree ?_
  show wpAny _ A.in1 (do checkBuiltinCall "reversed.__new__" ⟨[.type "reversed", .ref r], []⟩; again (.builtin "reversed.__new__" ⟨[.type "reversed", .ref r], []⟩)) _ _ s
  refine wpAny_bind (wpAny_of_eq (F.newCall_reversed_1 _) (wpAny_pure ⟨plainId_quiet F.plain_reversed_new _, codeAny_builtin F.entry_reversed_new ?_⟩))
  rw [Around.under_plainId F.plain_reversed_new _]
  unfold Builtin.«reversed.__new__»
  refine wpAny_bind (wpAny_of_eq (newClass_reversed _) ?_)
  try dsimp only
  refine wpAny_bind (wpAny_of_eq (a := ()) (by first | rfl | kernel_rfl) ?_)
  refine wpAny_bind (wpAny_of_eq (a := ()) (by first | rfl | kernel_rfl) ?_)
  try dsimp only
  refine wpAny_bind (wpAny_specialOf hT F.slot_range_reversed.lookup ?_)
  try dsimp only
  refine wpAny_bind (wpAny_of_eq (F.slot_range_reversed.bind _) ?_)
  try dsimp only
  first
  | rw [if_neg (show ¬ ((Value.builtin "range.__reversed__" == Value.none) = true) from Bool.false_ne_true)]
  | (show wpAny _ _ (if (Value.builtin "range.__reversed__" == Value.none) = true then _ else _) _ _ _; rw [if_neg (show ¬ ((Value.builtin "range.__reversed__" == Value.none) = true) from Bool.false_ne_true)])
  refine wpAny_bind (wpAny_rule ?_)
  refine wpAny_bind (m := runValue (.call (.builtin "range.__reversed__") ⟨[.ref r], []⟩)) (show wpAny _ _ (call (.builtin "range.__reversed__") [.ref r]) _ _ _ from range_rev hr hk ?_)
  first
  | exact wpAny_pure h
  | exact wpAny_bind (wpAny_pure (wpAny_pure h))

theorem rev_call {r : Addr} {k : Nat} {t u v : Tok} {Q : Value → Shared → Prop} (hr : IsRange s.heap r 0 (k : Int) 1 t u v) (hk : k < 2 ^ 62)
    (h : Q (.ref s.heap.objs.size) { s with heap := s.heap.push { cls := .type "range_iterator", data := .fields #[rawInt ((k : Int) - 1), rawInt (k : Int), rawInt (-1)] } }) :
    wpAny (model prog w) A (call (.type "reversed") [.ref r]) Q E s := by
  refine callType_other (U := "range_iterator") (Q₁ := fun obj s₁ => obj = .ref s.heap.objs.size ∧ s₁ = { s with heap := s.heap.push { cls := .type "range_iterator", data := .fields #[rawInt ((k : Int) - 1), rawInt (k : Int), rawInt (-1)] } })
    (by decide +kernel) F.create_reversed ⟨_, _, F.mro_reversed⟩ F.made_reversed (by rw [isSubtype_type]; kernel_rfl) (F.typeCall_reversed_1 _) (rev_code hr hk ⟨rfl, rfl⟩) ?_
  rintro obj s₁ ⟨rfl, rfl⟩
  exact ⟨⟨_, Heap.get?_push_size _ rfl, rfl⟩, h⟩
theorem boot_reversed : bootBuiltins "reversed" = some (.type "reversed") := by decide +kernel

theorem heapify_call {kb : Bool} {kf : Value → Key} {l : Addr} {vs : List Value} {n : Nat} {Q : Value → Shared → Prop} (C : Cx w mg mb g) (S : g.StaysIn s.heap) (hl : s.heap.get? l = some (lst vs n)) (hg : g.get? l = none)
    (hk : ∀ v ∈ vs, KeyAt kb s.heap v (kf v)) (ord : Ord (klt kf)) (hh : A.handled = none) (hroom : A.depth + 3 < recursionLimit) (hu : A.units + 64 < cLine) (hsz : vs.length < 300)
    (hQ : ∀ h' tk vs' n', But l s.heap h' → h'.get? l = some (lst vs' n') → vs'.Perm vs → HP (klt kf) 0 vs' → Q .none { s with heap := h', toks := tk }) :
    wpAny (model prog w) A (call (.ref 57) [.ref l]) Q E s := by
  refine enter1 (binds := [(Str.ofString "x", .ref l)]) C S hl hg (by k_is) (by k_is) (by exact om321q _ _ hroom) (BindsTo.of_eq rfl) (locs rfl) ?_ rfl rfl rfl (by decide)
  intro g' L h₁ tk C' hg' F N
  obtain ⟨m, F, e1⟩ : ∃ m, Fr g' L h₁ m ∧ m (Str.ofString "x") = some (.ref l) := ⟨_, F, rfl⟩
  have hk' : ∀ u ∈ vs, KeyAt kb g' u (kf u) := fun u hu => keyAt_hide hl hg' (hk u hu)
  refine wpAny_execs_cons (wpAny_Assign_Name (Call_ (name_B F C'.K C'.T (by k_is) boot_len (by decide) (callWith_builtin1 (spliced_more (ld F e1 (spliced_none (len_l (N _ (.head _)).1 (by exact om304q _ hsz) fun te tk => st_ F N fun h₂ tk F N => ?_))))))))
  dsimp only
  -- for i in reversed(range(n // 2)): _siftup(x, i)
  have half : Int.fdiv (vs.length : Int) 2 = ((vs.length / 2 : Nat) : Int) := by rw [Int.fdiv_eq_ediv_of_nonneg _ (by decide)]; exact om322q _
  refine wpAny_execs_cons (wpAny_For (Call_ (name_B F C'.K C'.T (by k_is) boot_reversed (by decide) (callWith_type1 (spliced_more (Call_ (name_B F C'.K C'.T (by k_is) boot_range (by decide) (callWith_type1 (spliced_more (wpAny_BinOp (ld F rfl (cI fun _ _ => floordiv_int (by decide) ?_ (Or.inl (PyProof.noPylong_small (by exact om323q)))))))))))))))
  rw [half]
  refine spliced_none (call_range_1 (spliced_none (rev_call (k := vs.length / 2) (Heap.get?_push_size _ rfl) (by exact om324q _ hsz) ?_)))
  dsimp only
  have hLs : L < h₂.objs.size := F.ns.lt
  have hls : l < h₂.objs.size := Heap.lt_size (N _ (.head _)).1
  generalize hH : (h₂.push _).push _ = H
  generalize hI : (h₂.push _).objs.size = I
  have hIs : h₂.objs.size < I := by rw [← hI, Heap.size_push]; exact Nat.lt_succ_self _
  have hst : IsRangeIter H I (((vs.length / 2 : Nat) : Int) - 1) ((vs.length / 2 : Nat) : Int) (-1) := by rw [← hH, ← hI]; exact Heap.get?_push_size _ rfl
  have keep : ∀ b o, h₂.get? b = some o → H.get? b = some o := fun b o e => by rw [← hH]; exact Heap.get?_push_of_some _ (Heap.get?_push_of_some _ e)
  have hgI : g'.get? I = none := Heap.get?_none_of_le (Nat.le_trans F.above (Nat.le_of_lt (Nat.lt_trans hLs hIs)))
  have hIL : I ≠ L := Nat.ne_of_gt (Nat.lt_trans hLs hIs)
  have hIl : I ≠ l := Nat.ne_of_gt (Nat.lt_trans hls hIs)
  have F1 : Fr g' L H _ := frWr (wr := []) F (fun b o _ e => keep b o e) (fun h => nomatch h) (fun _ h => nomatch h)
  have N1 := newsWr (wr := []) N (fun b o _ e => keep b o e) (fun _ _ h => nomatch h)
  refine wpAny_pyIter_rangeiter hst ?_
  refine for_w (E := fun _ _ => False) (Walks.range (A := A.deeper _) hh I (((vs.length / 2 : Nat) : Int) - 1) (-1) (vs.length / 2))
    (fun i s' => ∃ h tk m vs₁ n₁, s' = { s with heap := h, toks := tk } ∧ Fr g' L h m ∧ News g' L h [(l, lst vs₁ n₁)] ∧ m (Str.ofString "x") = some (.ref l) ∧ vs₁.Perm vs ∧ HP (klt kf) (vs.length / 2 - i) vs₁)
    ?_ ?_ ⟨_, _, _, vs, n, rfl, F1, N1, e1, List.Perm.refl _, HP.half⟩ (by simpa using hst)
  · rintro i s' hi ⟨h, tk, m, vs₁, n₁, rfl, F, N, e1, hp, hh'⟩ v h' tk' ⟨tv, rfl⟩ hst' hkp
    have F2 := frWr F hkp (by simpa using hIL.symm) (by simpa using hgI)
    have N2 := newsWr N hkp (by simpa using hIl.symm)
    have N3 := news_cons hst' hIL hgI N2
    have hq : ((vs.length / 2 : Nat) : Int) - 1 + (i : Int) * (-1) = ((vs.length / 2 - 1 - i : Nat) : Int) := by exact om325q _ _ hi
    rw [hq]
    refine wpAny_assign_Name (st_ F2 N3 fun h₃ tk F N => ?_)
    dsimp only
    have hlen := hp.length_eq
    refine wpAny_execs_cons (wpAny_Expr_any (Call_ (name_K F C'.K C'.T (by k_is) (callWith_K C'.K (by k_is) (spliced_more (ld F e1 (spliced_more (ld F rfl (spliced_none ⟨C'.K.keeps F.keep, ?_⟩)))))))))
    refine su_call (st := vs.length / 2 - 1 - i) (kb := kb) (kf := kf) C' F.keep (N _ (.tail _ (.head _))).1 (N _ (.tail _ (.head _))).2.2 (fun v hv => (hk' v (hp.subset hv)).fr F) ord ?_ ?_ (by exact om326q _ _ hsz hlen) (by exact om327q _ _ _ hq hlen) ?_ ?_
    · show A.depth + 1 + 1 < recursionLimit; exact om328q _ _ hroom
    · show A.units + 3 + 32 < cLine; exact om312q _ _ hu
    · rw [show vs.length / 2 - 1 - i + 1 = vs.length / 2 - i from by exact om329q _ _ hq]; exact hh'
    · intro h₄ tk₄ vs' n' hb hl' hp' hh''
      refine wpAny_execs_nil ⟨⟨h₄, tk₄, _, vs', n', rfl, frBut F hb (N _ (.tail _ (.head _))).2.1 (N _ (.tail _ (.head _))).2.2, ?_, e1, hp'.trans hp, ?_⟩, ?_⟩
      · exact news_cons hl' (N _ (.tail _ (.head _))).2.1 (N _ (.tail _ (.head _))).2.2 News.nil
      · rw [show vs.length / 2 - (i + 1) = vs.length / 2 - 1 - i from by exact om330q _ _]; exact hh''
      · intro b hbI o e
        obtain rfl := List.mem_singleton.mp hbI
        rw [show h'.get? b = _ from hst'] at e
        cases e
        exact hb _ _ hIl (N _ (.head _)).1
  · rintro s' ⟨h, tk, m, vs₁, n₁, rfl, F, N, e1, hp, hh'⟩ h' tk' hkp
    rw [Nat.sub_self] at hh'
    refine wpAny_execs_nil (hQ _ _ vs₁ n₁ (fun b o hbl e => hkp b o ?_ (F.keep b o (hg' b o hbl e))) (hkp _ _ (by simpa using hIl.symm) (N _ (.head _)).1) hp hh')
    intro hb
    obtain rfl := List.mem_singleton.mp hb
    have := hg' _ _ hbl e
    rw [hgI] at this; cases this
end
end Mine
end
section
open PySem PySem.W PyProof.Rows
set_option Elab.async false
set_option linter.all false
set_option maxRecDepth 100000
namespace Mine
theorem fill8 (w : World) (g : Heap) : (hd.heap_1 w.params).In g → PySem.Challenge.rw_mr0283_01.row.prog = PySem.Challenge.rw_mr0283_01.row.prog := by
  k_fill
  intro _; rfl
section
variable {prog : Program} {w : World} {A : Around} {E : Value → Shared → Prop} {s : Shared} {mg mb : Str → Option Value} {g : Heap}

theorem pushpop_call {kb : Bool} {kf : Value → Key} {l : Addr} {vs : List Value} {n : Nat} {v : Value} {Q : Value → Shared → Prop} (C : Cx w mg mb g) (S : g.StaysIn s.heap) (hl : s.heap.get? l = some (lst vs n)) (hg : g.get? l = none)
    (hk : ∀ v ∈ vs, KeyAt kb s.heap v (kf v)) (hv : KeyAt kb s.heap v (kf v)) (ord : Ord (klt kf)) (hh : A.handled = none) (hroom : A.depth + 2 < recursionLimit) (hu : A.units + 64 < cLine) (hsz : vs.length < 300) (hne : 0 < vs.length) (hp0 : HP (klt kf) 0 vs)
    (hQ : ∀ h' tk vs' n' r, But l s.heap h' → h'.get? l = some (lst vs' n') → HP (klt kf) 0 vs' → (klt kf (at' vs 0) v = true ∧ r = at' vs 0 ∧ vs'.Perm (vs.set 0 v) ∨ klt kf (at' vs 0) v = false ∧ r = v ∧ vs' = vs) → Q r { s with heap := h', toks := tk }) :
    wpAny (model prog w) A (call (.ref 50) [.ref l, v]) Q E s := by
  refine enter1 (binds := [(Str.ofString "heap", .ref l), (Str.ofString "item", v)]) C S hl hg (by k_is) (by k_is) (by exact om303q _ _ hroom) (BindsTo.of_eq rfl) (locs rfl) ?_ rfl rfl rfl (by decide)
  intro g' L h₁ tk C' hg' F N
  obtain ⟨m, F, e1, e2⟩ : ∃ m, Fr g' L h₁ m ∧ m (Str.ofString "heap") = some (.ref l) ∧ m (Str.ofString "item") = some v := ⟨_, F, rfl, rfl⟩
  have hv' := keyAt_hide hl hg' hv
  have h0' := keyAt_hide hl hg' (hk _ (at_mem hne))
  have hk' : ∀ u ∈ vs.set 0 v, KeyAt kb g' u (kf u) := fun u hu => by
    rcases List.mem_or_eq_of_mem_set hu with h | rfl
    · exact keyAt_hide hl hg' (hk u h)
    · exact hv'
  refine wpAny_execs_cons (wpAny_If (isTrue_and (isTrue_plain (ld F e1 (truth_l (N _ (.head _)).1 (by exact om304q _ hsz) fun tk => ?_)))))
  rw [show (!vs.isEmpty) = true from by cases vs with | nil => cases hne | cons => rfl, if_pos rfl]
  refine isTrue_and (wpAny_isTrue_Compare1 (Subscript_ (ld F e1 (cI fun t0 tk => item_l (i := 0) (N _ (.head _)).1 hne (by exact om304q _ hsz) (ld F e2 (lt_key (h0'.fr F) (hv'.fr F) ?_ (wpAny_truthy_bool ?_)))))))
  · show A.units + 3 < cLine; exact om331q _ _ hu
  cases hlt : (kf (at' vs 0)).lt (kf v) with
  | false =>
    rw [if_neg (by decide), if_neg (by decide)]
    refine wpAny_execs_nil ?_
    dsimp only
    refine wpAny_execs_cons (wpAny_Return_some (ld F e2 ?_))
    exact hQ _ _ vs _ v (fun b o hbl e => F.keep b o (hg' b o hbl e)) (N _ (.head _)).1 hp0 (.inr ⟨hlt, rfl, rfl⟩)
  | true =>
    rw [if_pos rfl]
    refine isTrue_and_nil ?_
    rw [if_pos rfl]
    refine wpAny_execs_cons (Assign_Tuple (Tuple_ (spliced_more (Subscript_ (ld F e1 (cI fun t0 tk => item_l (i := 0) (N _ (.head _)).1 hne (by exact om304q _ hsz) (spliced_more (ld F e2 (spliced_none (newTuple_N F N fun h₂ F N => ?_ ))))))))))
    refine unpackN_ F N (News.isTup N (.head _)) hh rfl rfl fun h₃ F N => assignInOrder_cons (assign_Name (st_ F N fun h₄ tk F N => assignInOrder_cons (kas_sub (ld F e1 (cI fun t0 tk => ?_)))))
    dsimp only
    have N' : News g' L h₄ [(l, lst vs n)] := fun p hp => N p (.tail _ hp)
    refine set_l (i := 0) F N' hne (by exact om304q _ hsz) fun h₅ F N => assignInOrder_nil ?_
    dsimp only
    refine wpAny_execs_cons (wpAny_Expr_any (Call_ (name_K F C'.K C'.T (by k_is) (callWith_K C'.K (by k_is) (spliced_more (ld F e1 (spliced_more (cI fun t0 tk => spliced_none ⟨C'.K.keeps F.keep, ?_⟩))))))))
    refine su_call (st := 0) (kb := kb) (kf := kf) C' F.keep (N _ (.head _)).1 (N _ (.head _)).2.2 (fun v hv => (hk' v hv).fr F) ord ?_ ?_ ?_ ?_ hp0.set0 ?_
    · show A.depth + 1 + 1 < recursionLimit; exact om311q _ _ hroom
    · show A.units + 3 + 32 < cLine; exact om312q _ _ hu
    · rw [List.length_set]; exact om313q _ hsz
    · rw [List.length_set]; exact om314q _ hne
    · intro h' tk vs' n' hb hl' hp hh
      refine wpAny_execs_nil ?_
      dsimp only
      have F' := frBut F hb (N _ (.head _)).2.1 (N _ (.head _)).2.2
      refine wpAny_execs_cons (wpAny_Return_some (ld F' rfl ?_))
      exact hQ _ _ _ _ _ (fun b o hbl e => hb b o hbl (F.keep b o (hg' b o hbl e))) hl' hh (.inl ⟨hlt, rfl, hp⟩)

theorem replacem_call {kb : Bool} {kf : Value → Key} {l : Addr} {vs : List Value} {n : Nat} {v : Value} {Q : Value → Shared → Prop} (C : Cx w mg mb g) (S : g.StaysIn s.heap) (hl : s.heap.get? l = some (lst vs n)) (hg : g.get? l = none)
    (hk : ∀ v ∈ vs, KeyAt kb s.heap v (kf v)) (hv : KeyAt kb s.heap v (kf v)) (ord : Ord (kgt kf)) (hroom : A.depth + 2 < recursionLimit) (hu : A.units + 64 < cLine) (hsz : vs.length < 300) (hne : 0 < vs.length) (hp0 : HP (kgt kf) 0 vs)
    (hQ : ∀ h' tk vs' n', But l s.heap h' → h'.get? l = some (lst vs' n') → vs'.Perm (vs.set 0 v) → HP (kgt kf) 0 vs' → Q (at' vs 0) { s with heap := h', toks := tk }) :
    wpAny (model prog w) A (call (.ref 64) [.ref l, v]) Q E s := by
  refine enter1 (binds := [(Str.ofString "heap", .ref l), (Str.ofString "item", v)]) C S hl hg (by k_is) (by k_is) (by exact om303q _ _ hroom) (BindsTo.of_eq rfl) (locs rfl) ?_ rfl rfl rfl (by decide)
  intro g' L h₁ tk C' hg' F N
  obtain ⟨m, F, e1, e2⟩ : ∃ m, Fr g' L h₁ m ∧ m (Str.ofString "heap") = some (.ref l) ∧ m (Str.ofString "item") = some v := ⟨_, F, rfl, rfl⟩
  have hk' : ∀ u ∈ vs.set 0 v, KeyAt kb g' u (kf u) := fun u hu => by
    rcases List.mem_or_eq_of_mem_set hu with h | rfl
    · exact keyAt_hide hl hg' (hk u h)
    · exact keyAt_hide hl hg' hv
  refine wpAny_execs_cons (wpAny_Assign_Name (Subscript_ (ld F e1 (cI fun t0 tk => item_l (i := 0) (N _ (.head _)).1 hne (by exact om304q _ hsz) (st_ F N fun h₂ tk F N => ?_)))))
  dsimp only
  refine wpAny_execs_cons (wpAny_Assign_Subscript (ld F e2 (ld F e1 (cI fun t0 tk => set_l (i := 0) F N hne (by exact om304q _ hsz) fun h₃ F N => ?_))))
  dsimp only
  refine wpAny_execs_cons (wpAny_Expr_any (Call_ (name_K F C'.K C'.T (by k_is) (callWith_K C'.K (by k_is) (spliced_more (ld F e1 (spliced_more (cI fun t0 tk => spliced_none ⟨C'.K.keeps F.keep, ?_⟩))))))))
  refine sum_call (st := 0) (kb := kb) (kf := kf) C' F.keep (N _ (.head _)).1 (N _ (.head _)).2.2 (fun v hv => (hk' v hv).fr F) ord ?_ ?_ ?_ ?_ hp0.set0 ?_
  · show A.depth + 1 + 1 < recursionLimit; exact om311q _ _ hroom
  · show A.units + 3 + 32 < cLine; exact om312q _ _ hu
  · rw [List.length_set]; exact om313q _ hsz
  · rw [List.length_set]; exact om314q _ hne
  · intro h' tk vs' n' hb hl' hp hh
    dsimp only
    have F' := frBut F hb (N _ (.head _)).2.1 (N _ (.head _)).2.2
    refine wpAny_execs_cons (wpAny_Return_some (ld F' rfl ?_))
    exact hQ _ _ _ _ (fun b o hbl e => hb b o hbl (F.keep b o (hg' b o hbl e))) hl' hp hh


theorem heapifym_call {kb : Bool} {kf : Value → Key} {l : Addr} {vs : List Value} {n : Nat} {Q : Value → Shared → Prop} (C : Cx w mg mb g) (S : g.StaysIn s.heap) (hl : s.heap.get? l = some (lst vs n)) (hg : g.get? l = none)
    (hk : ∀ v ∈ vs, KeyAt kb s.heap v (kf v)) (ord : Ord (kgt kf)) (hh : A.handled = none) (hroom : A.depth + 3 < recursionLimit) (hu : A.units + 64 < cLine) (hsz : vs.length < 300)
    (hQ : ∀ h' tk vs' n', But l s.heap h' → h'.get? l = some (lst vs' n') → vs'.Perm vs → HP (kgt kf) 0 vs' → Q .none { s with heap := h', toks := tk }) :
    wpAny (model prog w) A (call (.ref 71) [.ref l]) Q E s := by
  refine enter1 (binds := [(Str.ofString "x", .ref l)]) C S hl hg (by k_is) (by k_is) (by exact om321q _ _ hroom) (BindsTo.of_eq rfl) (locs rfl) ?_ rfl rfl rfl (by decide)
  intro g' L h₁ tk C' hg' F N
  obtain ⟨m, F, e1⟩ : ∃ m, Fr g' L h₁ m ∧ m (Str.ofString "x") = some (.ref l) := ⟨_, F, rfl⟩
  have hk' : ∀ u ∈ vs, KeyAt kb g' u (kf u) := fun u hu => keyAt_hide hl hg' (hk u hu)
  refine wpAny_execs_cons (wpAny_Assign_Name (Call_ (name_B F C'.K C'.T (by k_is) boot_len (by decide) (callWith_builtin1 (spliced_more (ld F e1 (spliced_none (len_l (N _ (.head _)).1 (by exact om304q _ hsz) fun te tk => st_ F N fun h₂ tk F N => ?_))))))))
  dsimp only
  -- for i in reversed(range(n // 2)): _siftup(x, i)
  have half : Int.fdiv (vs.length : Int) 2 = ((vs.length / 2 : Nat) : Int) := by rw [Int.fdiv_eq_ediv_of_nonneg _ (by decide)]; exact om322q _
  refine wpAny_execs_cons (wpAny_For (Call_ (name_B F C'.K C'.T (by k_is) boot_reversed (by decide) (callWith_type1 (spliced_more (Call_ (name_B F C'.K C'.T (by k_is) boot_range (by decide) (callWith_type1 (spliced_more (wpAny_BinOp (ld F rfl (cI fun _ _ => floordiv_int (by decide) ?_ (Or.inl (PyProof.noPylong_small (by exact om323q)))))))))))))))
  rw [half]
  refine spliced_none (call_range_1 (spliced_none (rev_call (k := vs.length / 2) (Heap.get?_push_size _ rfl) (by exact om324q _ hsz) ?_)))
  dsimp only
  have hLs : L < h₂.objs.size := F.ns.lt
  have hls : l < h₂.objs.size := Heap.lt_size (N _ (.head _)).1
  generalize hH : (h₂.push _).push _ = H
  generalize hI : (h₂.push _).objs.size = I
  have hIs : h₂.objs.size < I := by rw [← hI, Heap.size_push]; exact Nat.lt_succ_self _
  have hst : IsRangeIter H I (((vs.length / 2 : Nat) : Int) - 1) ((vs.length / 2 : Nat) : Int) (-1) := by rw [← hH, ← hI]; exact Heap.get?_push_size _ rfl
  have keep : ∀ b o, h₂.get? b = some o → H.get? b = some o := fun b o e => by rw [← hH]; exact Heap.get?_push_of_some _ (Heap.get?_push_of_some _ e)
  have hgI : g'.get? I = none := Heap.get?_none_of_le (Nat.le_trans F.above (Nat.le_of_lt (Nat.lt_trans hLs hIs)))
  have hIL : I ≠ L := Nat.ne_of_gt (Nat.lt_trans hLs hIs)
  have hIl : I ≠ l := Nat.ne_of_gt (Nat.lt_trans hls hIs)
  have F1 : Fr g' L H _ := frWr (wr := []) F (fun b o _ e => keep b o e) (fun h => nomatch h) (fun _ h => nomatch h)
  have N1 := newsWr (wr := []) N (fun b o _ e => keep b o e) (fun _ _ h => nomatch h)
  refine wpAny_pyIter_rangeiter hst ?_
  refine for_w (E := fun _ _ => False) (Walks.range (A := A.deeper _) hh I (((vs.length / 2 : Nat) : Int) - 1) (-1) (vs.length / 2))
    (fun i s' => ∃ h tk m vs₁ n₁, s' = { s with heap := h, toks := tk } ∧ Fr g' L h m ∧ News g' L h [(l, lst vs₁ n₁)] ∧ m (Str.ofString "x") = some (.ref l) ∧ vs₁.Perm vs ∧ HP (kgt kf) (vs.length / 2 - i) vs₁)
    ?_ ?_ ⟨_, _, _, vs, n, rfl, F1, N1, e1, List.Perm.refl _, HP.half⟩ (by simpa using hst)
  · rintro i s' hi ⟨h, tk, m, vs₁, n₁, rfl, F, N, e1, hp, hh'⟩ v h' tk' ⟨tv, rfl⟩ hst' hkp
    have F2 := frWr F hkp (by simpa using hIL.symm) (by simpa using hgI)
    have N2 := newsWr N hkp (by simpa using hIl.symm)
    have N3 := news_cons hst' hIL hgI N2
    have hq : ((vs.length / 2 : Nat) : Int) - 1 + (i : Int) * (-1) = ((vs.length / 2 - 1 - i : Nat) : Int) := by exact om325q _ _ hi
    rw [hq]
    refine wpAny_assign_Name (st_ F2 N3 fun h₃ tk F N => ?_)
    dsimp only
    have hlen := hp.length_eq
    refine wpAny_execs_cons (wpAny_Expr_any (Call_ (name_K F C'.K C'.T (by k_is) (callWith_K C'.K (by k_is) (spliced_more (ld F e1 (spliced_more (ld F rfl (spliced_none ⟨C'.K.keeps F.keep, ?_⟩)))))))))
    refine sum_call (st := vs.length / 2 - 1 - i) (kb := kb) (kf := kf) C' F.keep (N _ (.tail _ (.head _))).1 (N _ (.tail _ (.head _))).2.2 (fun v hv => (hk' v (hp.subset hv)).fr F) ord ?_ ?_ (by exact om326q _ _ hsz hlen) (by exact om327q _ _ _ hq hlen) ?_ ?_
    · show A.depth + 1 + 1 < recursionLimit; exact om328q _ _ hroom
    · show A.units + 3 + 32 < cLine; exact om312q _ _ hu
    · rw [show vs.length / 2 - 1 - i + 1 = vs.length / 2 - i from by exact om329q _ _ hq]; exact hh'
    · intro h₄ tk₄ vs' n' hb hl' hp' hh''
      refine wpAny_execs_nil ⟨⟨h₄, tk₄, _, vs', n', rfl, frBut F hb (N _ (.tail _ (.head _))).2.1 (N _ (.tail _ (.head _))).2.2, ?_, e1, hp'.trans hp, ?_⟩, ?_⟩
      · exact news_cons hl' (N _ (.tail _ (.head _))).2.1 (N _ (.tail _ (.head _))).2.2 News.nil
      · rw [show vs.length / 2 - (i + 1) = vs.length / 2 - 1 - i from by exact om330q _ _]; exact hh''
      · intro b hbI o e
        obtain rfl := List.mem_singleton.mp hbI
        rw [show h'.get? b = _ from hst'] at e
        cases e
        exact hb _ _ hIl (N _ (.head _)).1
  · rintro s' ⟨h, tk, m, vs₁, n₁, rfl, F, N, e1, hp, hh'⟩ h' tk' hkp
    rw [Nat.sub_self] at hh'
    refine wpAny_execs_nil (hQ _ _ vs₁ n₁ (fun b o hbl e => hkp b o ?_ (F.keep b o (hg' b o hbl e))) (hkp _ _ (by simpa using hIl.symm) (N _ (.head _)).1) hp hh')
    intro hb
    obtain rfl := List.mem_singleton.mp hb
    have := hg' _ _ hbl e
    rw [hgI] at this; cases this
end
end Mine
end
section
open PySem
set_option Elab.async false
set_option linter.all false
set_option maxRecDepth 100000
namespace Mine
def Al (c : Nat) : Bool := [97, 66, 98, 65, 32, 95, 51, 9].contains c
def sp (c : Nat) : Bool := c == 32 || c == 9
def low (c : Nat) : Nat := if c = 65 then 97 else if c = 66 then 98 else c
def upc (c : Nat) : Nat := if c = 97 then 65 else if c = 98 then 66 else c
theorem al_cases {c : Nat} (h : Al c = true) : c = 97 ∨ c = 66 ∨ c = 98 ∨ c = 65 ∨ c = 32 ∨ c = 95 ∨ c = 51 ∨ c = 9 := by
  simpa [Al] using h
theorem al_space {c : Nat} (h : Al c = true) : Unicode.isSpace c = sp c := by
  rcases al_cases h with rfl | rfl | rfl | rfl | rfl | rfl | rfl | rfl <;> decide +kernel
theorem al_title {c : Nat} (h : Al c = true) : Unicode.titleOf c = [upc (low c)] := by
  rcases al_cases h with rfl | rfl | rfl | rfl | rfl | rfl | rfl | rfl <;> decide +kernel
theorem al_lower {c : Nat} (h : Al c = true) : Unicode.lowerOf c = [low c] := by
  rcases al_cases h with rfl | rfl | rfl | rfl | rfl | rfl | rfl | rfl <;> decide +kernel
theorem al_lowerAt {s : Array Nat} {i c : Nat} (hi : s[i]? = some c) (h : Al c = true) : Unicode.lowerAt s i = [low c] := by
  unfold Unicode.lowerAt
  rw [hi]
  have : (c == 0x3A3) = false := by rcases al_cases h with rfl | rfl | rfl | rfl | rfl | rfl | rfl | rfl <;> decide
  simp only [this, Bool.false_and, Bool.false_eq_true, if_false]
  exact al_lower h

/-- what stands between the white signs -/
def wd : List Nat → List Nat → List (List Nat)
  | cur, [] => if cur = [] then [] else [cur]
  | cur, c :: r => if sp c = true then (if cur = [] then wd [] r else cur :: wd [] r) else wd (cur ++ [c]) r

def capL : List Nat → List Nat
  | [] => []
  | c :: r => upc (low c) :: r.map low

def joinL : List (List Nat) → List Nat
  | [] => []
  | [w] => w
  | w :: v :: r => w ++ 32 :: joinL (v :: r)

open Builtin Builtin.Str StrLaws in
theorem sw_go (x : Str) (hx : ∀ c ∈ x.cps.toList, Al c = true) (limit : Nat) (hl : x.length < limit) : ∀ (m cur : Nat) (W : Array (Nat × Nat)) (start : Option Nat),
    cur + m = x.length → wsum W.toList ≤ (match start with | some b => b | none => cur) → (∀ b, start = some b → b < cur) →
    (swEnd x (forIn (List.range' cur m) ((none, W, start) : SwSt) (swBody x limit)).run).map (fun p => (x.cps.toList.drop p.1).take (p.2 - p.1)) =
      (W.toList.map fun p => (x.cps.toList.drop p.1).take (p.2 - p.1)) ++ wd (match start with | some b => (x.cps.toList.drop b).take (cur - b) | none => []) (x.cps.toList.drop cur)
  | 0, cur, W, start, hm, _, hb => by
    have hlen : x.cps.toList.length = x.length := by simp [Str.length]
    have hdrop : x.cps.toList.drop cur = [] := List.drop_eq_nil_of_le (by exact om260q _ _ _ hm hlen)
    rw [hdrop]
    show (swEnd x (none, W, start)).map _ = _
    unfold swEnd
    cases start with
    | none => simp [wd]
    | some b =>
      have hbc := hb b rfl
      have hne : (x.cps.toList.drop b).take (cur - b) ≠ [] := by
        intro e
        have := congrArg List.length e
        simp only [List.length_take, List.length_drop, List.length_nil] at this
        exact om261q _ _ _ _ hm hlen hbc this
      simp only [wd, hne, if_false, Array.toList_push, List.map_append, List.map_cons, List.map_nil]
      rw [show x.length = cur from by exact om262q _ _ hm]
  | m + 1, cur, W, start, hm, hw, hb => by
    have hlen : x.cps.toList.length = x.length := by simp [Str.length]
    have hcur : cur < x.cps.toList.length := by exact om263q _ _ _ _ hm hlen
    rw [List.range'_succ, List.forIn_cons]
    have hsz : ¬ ((W.size == limit) = true) := by
      have a := len_le_wsum W.toList
      have b : W.toList.length = W.size := by simp
      have c : wsum W.toList ≤ cur := by
        cases start with
        | none => exact hw
        | some b => exact Nat.le_trans hw (Nat.le_of_lt (hb b rfl))
      rw [beq_iff_eq]; exact om264q _ _ _ _ _ _ _ hl hlen hcur a b c
    have hget : x.cps.getD cur 0 = x.cps.toList[cur] := by
      rw [Array.getD_eq_getD_getElem?]
      have hc2 : cur < x.cps.size := by simpa using hcur
      simp [hc2]
    have hal := hx _ (List.getElem_mem hcur)
    have hdr : x.cps.toList.drop cur = x.cps.toList[cur] :: x.cps.toList.drop (cur + 1) := List.drop_eq_getElem_cons hcur
    have htk : ∀ b, b ≤ cur → (x.cps.toList.drop b).take (cur + 1 - b) = (x.cps.toList.drop b).take (cur - b) ++ [x.cps.toList[cur]] := fun b hbc => by
      rw [show cur + 1 - b = (cur - b) + 1 from by exact om265q _ _ hbc, List.take_add_one]
      congr 1
      rw [List.getElem?_drop, show b + (cur - b) = cur from by exact om266q _ _ hbc]
      simp [hcur]
    have hbody : ∀ st', start = st' → swBody x limit cur (none, W, start) = (match st', sp x.cps.toList[cur] with
        | some b, true => pure (ForInStep.yield (none, W.push (b, cur), none))
        | none, false => pure (ForInStep.yield (none, W, some cur))
        | _, _ => pure (ForInStep.yield (none, W, start))) := by
      rintro _ rfl
      unfold swBody
      simp only [hsz, if_false, hget, al_space hal, Bool.false_eq_true]
      generalize sp x.cps.toList[cur] = b
      cases start <;> cases b <;> rfl
    rw [hbody start rfl, hdr]
    clear hbody
    cases hsp : sp x.cps.toList[cur] with
    | true =>
      cases start with
      | none =>
        have ih := sw_go x hx limit hl m (cur + 1) W none (by exact om210q _ _ _ hm) (Nat.le_succ_of_le hw) (fun _ h => nomatch h)
        simp only [wd, hsp, if_true]
        exact ih
      | some b =>
        have hbc := hb b rfl
        have hne : (x.cps.toList.drop b).take (cur - b) ≠ [] := by
          intro e
          have := congrArg List.length e
          simp only [List.length_take, List.length_drop, List.length_nil] at this
          exact om267q _ _ _ hcur hbc this
        have ih := sw_go x hx limit hl m (cur + 1) (W.push (b, cur)) none (by exact om210q _ _ _ hm) (by
          show wsum (W.push (b, cur)).toList ≤ cur + 1
          rw [Array.toList_push, wsum_snoc]
          have a2 : wsum W.toList ≤ b := hw
          show wsum W.toList + (cur - b + 1) ≤ cur + 1
          exact om268q _ _ _ hbc a2) (fun _ h => nomatch h)
        simp only [wd, hsp, if_true, hne, if_false]
        refine Eq.trans ih ?_
        simp
    | false =>
      cases start with
      | none =>
        have ih := sw_go x hx limit hl m (cur + 1) W (some cur) (by exact om210q _ _ _ hm) hw (fun b h => by cases h; exact Nat.lt_succ_self _)
        simp only [wd, hsp, Bool.false_eq_true, if_false]
        refine Eq.trans ih ?_
        dsimp only
        rw [htk cur (Nat.le_refl _), Nat.sub_self, List.take_zero]
      | some b =>
        have hbc := hb b rfl
        have ih := sw_go x hx limit hl m (cur + 1) W (some b) (by exact om210q _ _ _ hm) hw (fun b' h => by cases h; exact Nat.lt_succ_of_lt hbc)
        simp only [wd, hsp, Bool.false_eq_true, if_false]
        refine Eq.trans ih ?_
        dsimp only
        rw [htk b (Nat.le_of_lt hbc)]

open Builtin Builtin.Str StrLaws in
theorem sub_list (x : Str) (i j : Nat) : (strSub x i j).cps.toList = (x.cps.toList.drop i).take (j - i) := by
  unfold strSub
  simp only [Array.toList_extract, List.extract_eq_take_drop]

open Builtin Builtin.Str StrLaws in
theorem words_raw (x : Str) (hx : ∀ c ∈ x.cps.toList, Al c = true) : (Txt.words x).map (·.cps.toList) = wd [] x.cps.toList := by
  have key := sw_go x hx (x.length + 1) (Nat.lt_succ_self _) x.length 0 #[] none (by exact om269q _) (Nat.le_refl _) (fun _ h => nomatch h)
  rw [← sw_eq] at key
  have e : (wordsOf x).map (·.cps.toList) = wd [] x.cps.toList := by
    unfold wordsOf
    rw [List.map_map]
    refine Eq.trans ?_ (key.trans (by simp))
    apply List.map_congr_left
    intro p _
    exact sub_list x p.1 p.2
  unfold Txt.words
  split
  · rename_i h
    have h' := beq_iff_eq.mp h
    rw [← e]
    unfold wordsOf
    rw [h']
    simp only [List.map_cons, List.map_nil]
    congr 1
    rw [sub_list]
    simp only [Nat.sub_zero, List.drop_zero]
    exact (List.take_of_length_le (by simp [Str.length])).symm
  · exact e

theorem flat_single (cs : List Nat) (f : Nat → Nat → List Nat) (g : Nat → Nat → Nat) (h : ∀ i c, cs[i]? = some c → f i c = [g i c]) :
    ((cs.toArray.mapIdx fun i c => (f i c).toArray).flatten).toList = cs.mapIdx g := by
  rw [Array.toList_flatten, Array.toList_mapIdx]
  show ((cs.mapIdx fun i c => (f i c).toArray).map Array.toList).flatten = _
  have this : (List.mapIdx (fun i c => (f i c).toArray) cs).map Array.toList = List.mapIdx (fun i c => [g i c]) cs := by
    apply List.ext_getElem?
    intro i
    simp only [List.getElem?_map, List.getElem?_mapIdx]
    cases e : cs[i]? with
    | none => rfl
    | some c => simp [h i c e]
  rw [this]
  clear h this
  induction cs generalizing g with
  | nil => rfl
  | cons c r ih => rw [List.mapIdx_cons, List.mapIdx_cons, List.flatten_cons, ih]; rfl

theorem cap_raw (x : Str) (hx : ∀ c ∈ x.cps.toList, Al c = true) : (Txt.capitalize x).cps.toList = capL x.cps.toList := by
  obtain ⟨cs⟩ := x
  obtain ⟨cs⟩ := cs
  unfold Txt.capitalize
  cases cs with
  | nil => rfl
  | cons c r =>
    rw [if_neg (by simp [Str.length])]
    show (Txt.capitalized ⟨(c :: r).toArray⟩).cps.toList = _
    unfold Txt.capitalized placed
    rw [flat_single (c :: r) _ (fun i c => if i = 0 then upc (low c) else low c) ?_]
    · rw [List.mapIdx_cons]
      show upc (low c) :: List.mapIdx (fun i c => if i + 1 = 0 then upc (low c) else low c) r = _
      show _ = upc (low c) :: r.map low
      congr 1
      have : (fun (i c : Nat) => if i + 1 = 0 then upc (low c) else low c) = fun _ c => low c := by
        funext i c; simp
      rw [this]
      clear hx this
      induction r with
      | nil => rfl
      | cons d r ih => rw [List.mapIdx_cons, ih]; rfl
    · intro i d hd
      have hal : Al d = true := hx d (List.mem_of_getElem? hd)
      by_cases e : i = 0
      · subst e; simp [al_title hal]
      · simp only [e, beq_iff_eq, if_false]
        exact al_lowerAt (by simpa using hd) hal

theorem join_raw (sep : Str) (hs : sep.cps.toList = [32]) : ∀ ws : List Str, (Str.join sep ws).cps.toList = joinL (ws.map (·.cps.toList))
  | [] => rfl
  | [x] => rfl
  | x :: y :: r => by
    show (x ++ sep ++ Str.join sep (y :: r)).cps.toList = x.cps.toList ++ 32 :: joinL ((y :: r).map (·.cps.toList))
    rw [← join_raw sep hs (y :: r)]
    show ((x.cps ++ sep.cps) ++ (Str.join sep (y :: r)).cps).toList = _
    rw [Array.toList_append, Array.toList_append, hs]
    simp
end Mine
end
section
open PySem PySem.W PyProof.Rows
set_option Elab.async false
set_option linter.all false
set_option maxRecDepth 100000
namespace Mine
theorem fill9 (w : World) (g : Heap) : (hd.heap_1 w.params).In g → PySem.Challenge.rw_mr0283_01.row.prog = PySem.Challenge.rw_mr0283_01.row.prog := by
  k_fill
  intro _; rfl

theorem slot_map_next : Slot "map" "__next__" "map.__next__" :=
  .of (owner := "map") (n := "__next__") (by rw [typeLookup_type, builtinLookup_eq_fast]; kernel_rfl) (by decide +kernel) (by decide +kernel) (by decide +kernel)
    (by first | exact .inl (by decide +kernel) | exact .inr (by decide +kernel)) (by rw [isSubtype_type]; kernel_rfl)
theorem entry_map_next : entryFor table "map.__next__" = some Builtin.«map.__next__» := entryFor_of_tree (by kernel_rfl)
theorem args_map_next_1 (a : Value) : argsOk "map.__next__" ⟨[a], []⟩ := by unfold argsOk; kernel_rfl
theorem slot_map_iter : Slot "map" "__iter__" "map.__iter__" :=
  .of (owner := "map") (n := "__iter__") (by rw [typeLookup_type, builtinLookup_eq_fast]; kernel_rfl) (by decide +kernel) (by decide +kernel) (by decide +kernel)
    (by first | exact .inl (by decide +kernel) | exact .inr (by decide +kernel)) (by rw [isSubtype_type]; kernel_rfl)
theorem args_map_iter_1 (a : Value) : argsOk "map.__iter__" ⟨[a], []⟩ := by unfold argsOk; kernel_rfl
theorem entry_map_iter : entryFor table "map.__iter__" = some Builtin.«dict_keyiterator.__iter__» :=
  entryFor_alias (id' := "dict_keyiterator.__iter__") (by kernel_rfl) (by first | rfl | decide +kernel | (unfold String.splitOn; simp +decide [String.splitOnAux])) (by decide +kernel) (by kernel_rfl)
theorem mro_map : mroOf (.type "map") = pure [.type "map", .type "object"] := by rw [mroOf_type]; kernel_rfl
theorem lookup_map_new : typeLookup (.type "map") "__new__" = pure (some (.builtin "map.__new__")) := by rw [typeLookup_type, builtinLookup_eq_fast]; kernel_rfl
theorem slot_map_init : Slot "map" "__init__" "object.__init__" :=
  .of (owner := "object") (n := "__init__") (by rw [typeLookup_type, builtinLookup_eq_fast]; kernel_rfl) (by decide +kernel) (by decide +kernel) (by decide +kernel)
    (by first | exact .inl (by decide +kernel) | exact .inr (by decide +kernel)) (by rw [isSubtype_type]; kernel_rfl)
theorem called_map : TypeCalled "map" "map.__new__" "object.__init__" :=
  ⟨by decide +kernel, by decide +kernel, ⟨_, _, mro_map⟩, madeBy_type mro_map lookup_map_new (by decide +kernel), by decide +kernel, by rw [isSubtype_type]; kernel_rfl, slot_map_init⟩
theorem typeCall_map_2 (a b : Value) : checkTypeCall "map" ⟨[a, b], []⟩ = pure () := by kernel_rfl
theorem newCall_map_2 (a b : Value) : checkBuiltinCall "map.__new__" ⟨[.type "map", a, b], []⟩ = pure () := by kernel_rfl
theorem entry_map_new : entryFor table "map.__new__" = some Builtin.«map.__new__» := entryFor_of_tree (by kernel_rfl)
theorem sub_map : isSubtype (.type "map") (.type "map") = pure true := by rw [isSubtype_type]; kernel_rfl

abbrev mapH1 (h : Heap) (l : Addr) : Heap := h.push { cls := .type "list_iterator", data := .fields #[.ref l, .int 0 0] }
abbrev mapH2 (h : Heap) (l : Addr) : Heap := (mapH1 h l).push { cls := .type "tuple", data := .seq #[.ref h.objs.size] }
abbrev mapObj (T : Addr) (f : Value) : Obj := { cls := .type "map", data := .fields #[.ref T, f] }
abbrev mapH3 (h : Heap) (l : Addr) (f : Value) : Heap := (mapH2 h l).push (mapObj (mapH1 h l).objs.size f)

theorem meets_map_new (l : Addr) (xs : Array Value) (f : Value) :
    Meets (Builtin.«map.__new__» ⟨[.type "map", f, .ref l], []⟩) (fun _ R s => s.heap.IsList l xs ∧
      R (.ok (.ret (.ref (mapH2 s.heap l).objs.size))) { s with heap := mapH3 s.heap l f }) :=
  .of_wp fun prog w A R s h => by
    obtain ⟨hp, g, d, tk, os⟩ := s; obtain ⟨hl1, h⟩ := h
    have hsub := sub_map
    have hL1 : Heap.IsList (Shared.heap ⟨hp, g, d, tk, os⟩) l xs := hl1
    wp_walk using wpAny_pyIter_list hL1
    exact ⟨_, rfl, h⟩

section
variable {prog : Program} {w : World} {A : Around} {E : Value → Shared → Prop} {s : Shared} {mg mb : Str → Option Value} {g : Heap}
theorem call_map {l : Addr} {xs : Array Value} {f : Value} {Q : Value → Shared → Prop} (hl : s.heap.IsList l xs)
    (h : Q (.ref (mapH2 s.heap l).objs.size) { s with heap := mapH3 s.heap l f }) : wpAny (model prog w) A (call (.type "map") [f, .ref l]) Q E s := by
  refine callType_new called_map (by decide) (typeCall_map_2 _ _) (newCall_map_2 _ _) (fun obj => F.args_object_init_3 obj _ _) entry_map_new
    (meets_map_new l xs f) ⟨hl, ?_⟩
  exact ⟨⟨_, Heap.get?_push_size _ rfl, rfl⟩, h⟩

theorem iter_map {M T : Addr} {f : Value} {Q : Value → Shared → Prop} (hm : s.heap.get? M = some (mapObj T f)) (h : Q (.ref M) s) : wpAny (model prog w) A (pyIter (.ref M)) Q E s := by
  have hT : s.TypeIs (.ref M) "map" := ⟨_, hm, rfl⟩
  refine wpAny_pyIter_slot hT slot_map_iter (wpAny_call_entry slot_map_iter hT entry_map_iter ?_ (args_map_iter_1 _))
  show wpAny _ _ (ret (.ref M)) _ _ s
  exact wpAny_pure ⟨_, rfl, "map", _, hT, slot_map_next.lookup, h⟩

theorem attr_cap {expr : Bool} {Q : Value → Shared → Prop} {K : Frag} (X : K.In s.heap) (h : ∀ tk, Q (.builtin "str.capitalize") { s with toks := tk }) : wpAny (model prog w) A (getAttr (.type "str") (Str.ofString "capitalize") expr) Q E s := by
  have hstub : opaqueClassAbove (.type "str") = pure none := by unfold opaqueClassAbove; dsimp only; rw [show Manifest.isStub "str" = false by decide +kernel]; rfl
  have ht : typeOf (.type "str") = pure (.type "type") := by first | rfl | kernel_rfl
  have L0 : Looks (model prog w) s.heap (typeOf (.type "str")) (.type "type") := Looks.of_pure ht
  have LO : Looks (model prog w) s.heap (opaqueClassAbove (.type "str")) none := Looks.of_pure hstub
  have hg : findIn K (.type "type") "__getattribute__" = some (some (.builtin "type.__getattribute__")) := type_tga
  have e : findCls K (.type "str") (.type "type") (Str.ofString "capitalize") = some (.val (.builtin "str.capitalize")) := by
    first | rfl | kernel_rfl
  refine cls_open X LO L0 hg (looks_hook X (r := none) (by rfl)) (by show subIn K _ _ = _; rfl) e
    (wpAny_pure (by show wpAny _ _ (handedOut _) _ _ _; rw [handedOut_of (by first | rfl | decide +kernel)]; exact wpAny_pure (h _)))
end
end Mine
end
section
open PySem PySem.W PyProof.Rows
set_option Elab.async false
set_option linter.all false
set_option maxRecDepth 100000
namespace Mine

theorem cap_fit (x : Str) (hx : ∀ c ∈ x.cps.toList, Al c = true) (hl : x.length ≤ 1000) : Builtin.Str.tooLong (Txt.capitalized x).length = false := by
  by_cases h0 : x.length = 0
  · obtain ⟨⟨cs⟩⟩ := x
    have : cs = [] := List.eq_nil_of_length_eq_zero h0
    subst this
    decide +kernel
  · have h := congrArg List.length (cap_raw x hx)
    have hc : Txt.capitalize x = Txt.capitalized x := by unfold Txt.capitalize; rw [if_neg (by simpa using h0)]
    rw [hc] at h
    have hcl : (capL x.cps.toList).length = x.cps.toList.length := by cases x.cps.toList <;> simp [capL]
    rw [hcl] at h
    have hlen : (Txt.capitalized x).length = x.length := by simpa [Str.length] using h
    unfold Builtin.Str.tooLong
    rw [hlen, sizeLine_eq]
    exact decide_eq_false (by exact om422q _ hl)

section
variable {prog : Program} {w : World} {A : Around} {E : Value → Shared → Prop} {s : Shared} {mg mb : Str → Option Value} {g : Heap}

def MapSt (M T I l : Addr) (items : Array Value) (i : Nat) (h : Heap) : Prop :=
  h.get? M = some (mapObj T (.builtin "str.capitalize")) ∧ IsTup h T #[.ref I] ∧ h.IsListIter I l i ∧ h.IsList l items

theorem walk_map (hh : A.handled = none) {M T I l : Addr} (hMI : M ≠ I) (hTI : T ≠ I) (hlI : l ≠ I) (items : Array Value)
    (hs : ∀ (i : Nat) (v : Value), items[i]? = some v → ∃ (x : Str) (t : Tok), v = Value.str x t ∧ Builtin.Str.tooLong (Txt.capitalized x).length = false) :
    Walks prog w A M [M, T, I, l] [I] items.size (fun i v => ∃ (x : Str) (t t' : Tok), items[i]? = some (Value.str x t) ∧ v = Value.str (Txt.capitalize x) t') (MapSt M T I l items) where
  sub := fun b hb => by simp at hb; simp [hb]
  frame := fun i h h' st hk => ⟨hk M (by simp) _ st.1, let ⟨o, ho, r⟩ := st.2.1; ⟨o, hk T (by simp) _ ho, r⟩, st.2.2.1.at fun o e => hk I (by simp) o e, st.2.2.2.at fun o e => hk l (by simp) o e⟩
  item := fun i s Q E hi st hQ => by
    obtain ⟨hM, hT, hI, hl⟩ := st
    have hTy : s.TypeIs (.ref M) "map" := ⟨_, hM, rfl⟩
    obtain ⟨x, t, hx, hxl⟩ := hs i items[i] (by simp [hi])
    unfold pyNext
    refine wpAny_bind (wpAny_attempt (wpAny_callSpecial?_slot (name := Str.ofString "__next__") hTy slot_map_next
      (wpAny_call_entry slot_map_next hTy entry_map_next ?_ (args_map_next_1 _))))
    unfold Builtin.«map.__next__»
    refine wpAny_bind (wpAny_pure ?_)
    dsimp only
    refine wpAny_bind (wpAny_field hM rfl (x := .ref T) rfl ?_)
    obtain ⟨oT, hoT, hcT, nT, hdT⟩ := id hT
    refine wpAny_bind (wpAny_seqItems hoT hdT ?_)
    dsimp only
    rw [← Array.forIn_toList]
    show wpAny _ _ (bind (forIn [Value.ref I] _ _) _) _ _ _
    rw [List.forIn_cons]
    refine wpAny_bind (wpAny_bind (wpAny_bind (wpAny_holding ((Draws.list (A := A.in1) hh I l hlI items).item i s _ _ hi ⟨hI, hl⟩ fun v h' tk hv st' hsb => ?_))))
    refine wpAny_pure ?_
    dsimp only
    rw [List.forIn_nil]
    refine wpAny_pure ?_
    have hM' : h'.get? M = some (mapObj T (.builtin "str.capitalize")) := (hsb.2 M hMI).trans hM
    refine wpAny_bind (wpAny_field (s := { s with heap := h', toks := tk }) hM' rfl (x := .builtin "str.capitalize") rfl ?_)
    have hv' : items[i]? = some v := hv
    rw [Array.getElem?_eq_getElem hi, hx] at hv'
    cases hv'
    refine wpAny_bind (wpAny_holding (show wpAny _ _ (call (.builtin "str.capitalize") [.str x t]) _ _ _ from SC.capitalize hxl fun t' k => ?_))
    refine wpAny_bind (wpAny_letGo (wpAny_pure ⟨_, rfl, wpAny_pure ?_⟩))
    refine hQ _ h' _ ⟨x, t, t', by rw [Array.getElem?_eq_getElem hi, hx], rfl⟩ ⟨hM', ⟨oT, (hsb.2 T hTI).trans hoT, hcT, nT, hdT⟩, st'.1, st'.2⟩ fun b o hb e => hsb.extBut b o (fun q => hb (by simp [q])) e
  done := fun s Q E st hQ => by
    obtain ⟨hM, hT, hI, hl⟩ := st
    have hTy : s.TypeIs (.ref M) "map" := ⟨_, hM, rfl⟩
    unfold pyNext
    refine wpAny_bind (wpAny_attempt (wpAny_callSpecial?_slot (name := Str.ofString "__next__") hTy slot_map_next
      (wpAny_call_entry slot_map_next hTy entry_map_next ?_ (args_map_next_1 _))))
    unfold Builtin.«map.__next__»
    refine wpAny_bind (wpAny_pure ?_)
    dsimp only
    refine wpAny_bind (wpAny_field hM rfl (x := .ref T) rfl ?_)
    obtain ⟨oT, hoT, hcT, nT, hdT⟩ := id hT
    refine wpAny_bind (wpAny_seqItems hoT hdT ?_)
    dsimp only
    rw [← Array.forIn_toList]
    show wpAny _ _ (bind (forIn [Value.ref I] _ _) _) _ _ _
    rw [List.forIn_cons]
    refine wpAny_bind (wpAny_bind (wpAny_bind (wpAny_holding ((Draws.list (A := A.in1) hh I l hlI items).done s _ _ ⟨hI, hl⟩ fun h' e hext he => ?_))))
    obtain ⟨oe, hoe, hce⟩ := he
    refine wpAny_bind (wpAny_isInstance (T := "StopIteration") (b := true) (s := { s with heap := h' }) ⟨oe, hoe, hce⟩ isSubtype_stop ?_)
    rw [if_pos rfl]
    exact wpAny_pure (hQ h' s.toks fun b o hb e => hext b o (fun q => hb (by simp [q])) e)
  self := fun i s Q E st hQ => iter_map st.1 hQ
end
end Mine
end
section
open PySem PySem.W PyProof.Rows
set_option Elab.async false
set_option linter.all false
set_option maxRecDepth 100000
namespace Mine
def NS : PySem.Expr → Bool
  | .Starred .. => false
  | _ => true
theorem star_ns {e : PySem.Expr} (h : NS e = true) (rest : List PySem.Expr) (env : Env) : starEach (e :: rest) env = (false, eval e env) :: starEach rest env := by
  cases e <;> first | rfl | cases h
theorem star_any : ∀ {es : List PySem.Expr} (h : es.all NS = true) (pos : Pos) (env : Env), (backTo pos (starEach es env)).any (·.1) = false
  | [], _, _, _ => rfl
  | e :: r, h, pos, env => by
    rw [List.all_cons, Bool.and_eq_true] at h
    rw [star_ns h.1]
    show (false || (backTo pos (starEach r env)).any (·.1)) = false
    rw [star_any h.2]; rfl
section
variable {prog : Program} {w : World} {M : Model} {A : Around} {E : Value → Shared → Prop} {s : Shared} {env : Env} {e : PySem.Expr} {rest : List PySem.Expr} {pos : Pos}
theorem sm {Q : List Value → Shared → Prop} (h : wpAny M A (eval e env) (fun v s₁ => wpAny M A (spliced (backTo pos (starEach rest env))) (fun vs s₂ => Q (v :: vs) s₂) E s₁) E s) (hn : NS e = true := by rfl) :
    wpAny M A (spliced (backTo pos (starEach (e :: rest) env))) Q E s := spliced_more h (star_ns hn rest env)
theorem cwt {T : String} {Q : Value → Shared → Prop} (h : wpAny M A (spliced (backTo pos (starEach (e :: rest) env))) (fun vs s₁ => wpAny M A (call (.type T) vs) Q E s₁) E s) (hn : (e :: rest).all NS = true := by rfl) :
    wpAny M A (callWith pos (.type T) [] (backTo pos (starEach (e :: rest) env)) []) Q E s := by
  rw [List.all_cons, Bool.and_eq_true] at hn
  exact Pv.callWith_type1 h (star_ns hn.1 rest env) (star_any hn.2 pos env)
theorem cwb {id : String} {Q : Value → Shared → Prop} (h : wpAny M A (spliced (backTo pos (starEach (e :: rest) env))) (fun vs s₁ => wpAny M A (call (.builtin id) vs) Q E s₁) E s) (hn : (e :: rest).all NS = true := by rfl) :
    wpAny M A (callWith pos (.builtin id) [] (backTo pos (starEach (e :: rest) env)) []) Q E s := by
  rw [List.all_cons, Bool.and_eq_true] at hn
  exact PyProof.Rows.callWith_builtin1 h (star_ns hn.1 rest env) (star_any hn.2 pos env)
theorem cwm {id : String} {first : List Value} {Q : Value → Shared → Prop} (h : wpAny M A (spliced (backTo pos (starEach (e :: rest) env))) (fun vs s₁ => wpAny M A (call (.builtin id) (first ++ vs)) Q E s₁) E s) (hn : (e :: rest).all NS = true := by rfl) :
    wpAny M A (callWith pos (.builtin id) first (backTo pos (starEach (e :: rest) env)) []) Q E s := by
  rw [List.all_cons, Bool.and_eq_true] at hn
  exact callWith_method1 h (star_ns hn.1 rest env) (star_any hn.2 pos env)
theorem cwK {K : Frag} {f : Value} {first : List Value} {Q : Value → Shared → Prop} {h₀ : Heap} (X : K.In h₀) (hk : keepIn K f = true) (h : wpAny M A (spliced (backTo pos (starEach (e :: rest) env))) (fun vs s₁ => K.In s₁.heap ∧ wpAny M A (call f (first ++ vs)) Q E s₁) E s) (hn : (e :: rest).all NS = true := by rfl) :
    wpAny M A (callWith pos f first (backTo pos (starEach (e :: rest) env)) []) Q E s := by
  rw [List.all_cons, Bool.and_eq_true] at hn
  exact callWith_K X hk h (star_ns hn.1 rest env) (star_any hn.2 pos env)
end
end Mine
end
section
open PySem PySem.W PyProof.Rows
set_option Elab.async false
set_option linter.all false
set_option maxRecDepth 100000
namespace Mine
theorem fill11 (w : World) (g : Heap) : (hd.heap_1 w.params).In g → PySem.Challenge.rw_mr0283_01.row.prog = PySem.Challenge.rw_mr0283_01.row.prog := by
  k_fill
  intro _; rfl
theorem map_no_len : typeLookup (.type "map") "__len__" = pure none := by rw [typeLookup_type, builtinLookup_eq_fast]; kernel_rfl
theorem map_no_hint : typeLookup (.type "map") "__length_hint__" = pure none := by rw [typeLookup_type, builtinLookup_eq_fast]; kernel_rfl

theorem boot_str : bootBuiltins "str" = some (.type "str") := by decide +kernel
/-- the words' signs are the text's, and they are no longer than it -/
theorem wd_mem : ∀ (cs cur w : List Nat), w ∈ wd cur cs → (∀ c ∈ w, c ∈ cur ++ cs) ∧ w.length ≤ cur.length + cs.length
  | [], cur, w, h => by
    unfold wd at h
    split at h
    · cases h
    · obtain rfl := List.mem_singleton.mp h
      exact ⟨fun c hc => List.mem_append_left _ hc, Nat.le_refl _⟩
  | c :: r, cur, w, h => by
    unfold wd at h
    split at h
    · split at h
      · have := wd_mem r [] w h
        refine ⟨fun d hd => ?_, by have h2 := this.2; simp at h2 ⊢; exact om332q _ _ _ h2⟩
        have := this.1 d hd
        simp at this ⊢; exact .inr (.inr this)
      · rcases List.mem_cons.mp h with rfl | h
        · exact ⟨fun d hd => List.mem_append_left _ hd, by exact om214q _ _⟩
        · have := wd_mem r [] w h
          refine ⟨fun d hd => ?_, by have h2 := this.2; simp at h2 ⊢; exact om332q _ _ _ h2⟩
          have := this.1 d hd
          simp at this ⊢; exact .inr (.inr this)
    · have := wd_mem r (cur ++ [c]) w h
      refine ⟨fun d hd => ?_, by have h2 := this.2; simp at h2 ⊢; exact om160q _ _ _ h2⟩
      have := this.1 d hd
      simp at this ⊢; exact this

section
variable {prog : Program} {w : World} {A : Around} {E : Value → Shared → Prop} {s : Shared} {mg mb : Str → Option Value} {g : Heap}

/-- a map's things gathered -/
theorem collect_map {I : Addr} {fp wr : List Addr} {n : Nat} {P : Nat → Value → Prop} {St : Nat → Heap → Prop} {Q : List Value → Shared → Prop} (W : Walks prog w A.in1 I fp wr n P St) (hT : ∀ i (s : Shared), St i s.heap → s.TypeIs (.ref I) "map") (hst : St 0 s.heap) (hfp : ∀ b ∈ fp, b < s.heap.objs.size) (hI : I ∈ fp) (hn : n ≤ sizeLine)
    (hQ : ∀ h' tk acc, (∀ b o, b ∉ wr → s.heap.get? b = some o → h'.get? b = some o) → ItemsOf P acc n → Q acc.toList { s with heap := h', toks := tk }) : wpAny (model prog w) A (collect (.ref I)) Q E s := by
  have hnew : s.heap.objs.size ∉ fp := fun hm => Nat.lt_irrefl _ (hfp _ hm)
  have hnI : s.heap.objs.size ≠ I := fun e => hnew (e ▸ hI)
  have WS := W.toS
  unfold collect
  refine wpAny_bind (wpAny_runValue (codeAny_builtin F.entry_proto_collect ?_))
  rw [Around.under_plainId F.plain_proto_collect _]
  show wpAny _ A.in1 (newList [] >>= fun l => again (.builtin "list.__iadd__" ⟨[l, .ref I], []⟩)) _ _ s
  refine wpAny_bind (wpAny_newObj_type ?_)
  refine wpAny_pure ⟨plainId_quiet F.plain_list_iadd _, codeAny_builtin F.entry_list_iadd ?_⟩
  rw [Around.under_plainId F.plain_list_iadd _]
  show wpAny _ A.in1 (Builtin.List.listExtendWith (.ref s.heap.objs.size) (.ref I) (.ref s.heap.objs.size)) _ _ _
  generalize hH : s.heap.push _ = H
  have kept : ∀ b o, s.heap.get? b = some o → H.get? b = some o := fun b o e => by rw [← hH]; exact Heap.get?_push_of_some _ e
  have hS : H.get? s.heap.objs.size = some (lst [] 0) := by rw [← hH]; exact Heap.get?_push_size _ rfl
  have st1 : St 0 H := W.frame _ _ _ hst fun b _ o e => kept b o e
  have ty : ({ s with heap := H } : Shared).TypeIs (.ref I) "map" := hT 0 { s with heap := H } st1
  unfold Builtin.List.listExtendWith
  refine wpAny_bind (wpAny_typeOf ty ?_)
  have h1 : Builtin.List.listSameRef (.ref s.heap.objs.size) (.ref I) = false := by simp [Builtin.List.listSameRef, hnI]
  simp only [h1, show (Value.type "map" == Value.type "list") = false from by decide, show (Value.type "map" == Value.type "tuple") = false from by decide, Bool.or_false, Bool.false_eq_true, if_false]
  refine wpAny_bind (W.self 0 _ _ _ st1 ?_)
  refine wpAny_bind (wpAny_holding ?_)
  unfold Builtin.List.listLengthHint
  refine wpAny_bind (wpAny_specialOf ty map_no_len ?_)
  show wpAny _ A.in1 (specialOf (Value.ref I) (Str.ofString "__length_hint__") >>= _) _ _ _
  refine wpAny_bind (wpAny_specialOf ty map_no_hint ?_)
  refine wpAny_pure ?_
  show wpAny _ A.in1 (rule "list.extend.makes-room" >>= fun _ => Builtin.List.listTouch (.ref s.heap.objs.size) >>= fun _ =>
    again (.builtin "list.extend.loop" ⟨[.ref s.heap.objs.size, .ref I, .ref s.heap.objs.size], []⟩)) _ _ _
  refine wpAny_bind (wpAny_rule (wpAny_bind ?_))
  show wpAny _ A.in1 (updateSeq s.heap.objs.size (·.push .none) >>= fun _ => updateSeq s.heap.objs.size (·.pop)) _ _ _
  refine wpAny_bind (wpAny_updateSeq hS rfl ?_)
  have hS₂ := Heap.get?_update_self (Obj.mapSeq (·.push Value.none)) hS rfl
  refine wpAny_updateSeq hS₂ rfl ?_
  have hS₃ := Heap.get?_update_self (Obj.mapSeq (·.pop)) hS₂ rfl
  generalize hH3 : ((H.update s.heap.objs.size (Obj.mapSeq (·.push Value.none))).update s.heap.objs.size (Obj.mapSeq (·.pop))) = H3 at hS₃ ⊢
  have oth : ∀ b o, b ≠ s.heap.objs.size → H.get? b = some o → H3.get? b = some o := fun b o hb e => by
    rw [← hH3]; exact (Heap.get?_update_other _ _ (Ne.symm hb)).trans ((Heap.get?_update_other _ _ (Ne.symm hb)).trans e)
  refine wpAny_pure ⟨plainId_quiet F.plain_extend_loop _, codeAny_extend_loopS WS hn _ hnew _ n 0 _ _ _ rfl (Nat.zero_le _) (show St 0 H3 from W.frame _ _ _ st1 fun b hb o e => oth b o (fun h => hnew (h ▸ hb)) e) hS₃ (ItemsOf.nil P) fun s' acc' c' hm hS' hacc => ?_⟩
  show wpAny _ A (load s.heap.objs.size >>= _) _ _ s'
  refine wpAny_bind (wpAny_load hS' ?_)
  refine wpAny_pure ?_
  obtain ⟨hp, hg, hdr, hos, htk⟩ := hm
  obtain ⟨h', g', d', t', os'⟩ := s'
  dsimp only at hg hdr hos
  subst hg hdr hos
  refine hQ h' t' acc' (fun b o hb e => hp b o ?_ (oth b o (Nat.ne_of_lt (Heap.lt_size e)) (kept b o e))) hacc
  intro hm
  rcases List.mem_cons.mp hm with rfl | hm
  · exact Nat.lt_irrefl _ (Heap.lt_size e)
  · exact hb hm

theorem join_map {I : Addr} {fp wr : List Addr} {n : Nat} {P : Nat → Value → Prop} {St : Nat → Heap → Prop} {x : Str} {t : Tok} {Q : Value → Shared → Prop} (W : Walks prog w A.in1.in1 I fp wr n P St) (hT : ∀ i (s : Shared), St i s.heap → s.TypeIs (.ref I) "map") (hst : St 0 s.heap) (hfp : ∀ b ∈ fp, b < s.heap.objs.size) (hI : I ∈ fp) (hn : n ≤ sizeLine)
    (hstr : ∀ i v, P i v → ∃ (y : Str) (u : Tok), v = Value.str y u)
    (hq : ∀ h' (l : List (Str × Tok)), (∀ b o, b ∉ wr → s.heap.get? b = some o → h'.get? b = some o) → ItemsOf P (strValues l).toArray n → JoinOk x (l.map (·.1)) = true ∧ ∀ t' k, Q (.str (Txt.join x (l.map (·.1))) t') { s with heap := h', toks := k }) :
    wpAny (model prog w) A (call (.builtin "str.join") [.str x t, .ref I]) Q E s := by
  refine wpAny_call (codeAny_call_builtin F.slot_str_join.plain F.entry_str_join (F.slot_str_join.check _ _ _ _ _ _ _ _ (typeIs_str _ _ _) (F.args_str_join_2 _ _) ?_))
  rw [join_tree_other]
  refine wpAny_bind (wpAny_typeOf (hT 0 s hst) ?_)
  show wpAny _ A.in1 ((pyIter (.ref I)).tryCatch _ >>= fun it => collect it >>= fun items => joinTail x items) _ _ s
  refine wpAny_bind (wpAny_tryCatch (W.of_in1.self 0 s _ _ hst ?_))
  refine wpAny_bind (collect_map W hT hst hfp hI hn fun h' tk acc hk hacc => ?_)
  obtain ⟨l, hl⟩ := exists_strValues acc.toList fun v hv => by
    obtain ⟨j, hj, rfl⟩ := Array.mem_iff_getElem.mp (Array.mem_toList_iff.mp hv)
    exact hstr j _ (hacc.2 j _ (Array.getElem?_eq_getElem hj))
  rw [← hl]
  obtain ⟨hok, hpost⟩ := hq h' l hk (by rw [hl]; simpa using hacc)
  unfold JoinOk at hok
  rw [Bool.not_eq_true'] at hok
  have g0 := gives_joinTail x l hok
  have gg : Gives (joinTail x (strValues l)) (joinMade x l) := by
    cases l with
    | nil => exact g0
    | cons p r => cases r with
      | nil => exact g0
      | cons q r' => exact g0
  exact gg prog w A (wants Q E) { s with heap := h', toks := tk } (post_join l ⟨joinFit_length hok, hpost⟩)

theorem split_same (x : Str) (t : Tok) : Builtin.«str.split» ⟨[.str x t, .none], []⟩ = Builtin.«str.split» ⟨[.str x t], []⟩ := rfl

theorem split_ws {x : Str} {t : Tok} {Q : Value → Shared → Prop} (hx : x.length ≤ 1000)
    (h : ∀ l k, l.map (·.1) = Txt.words x → Q (.ref s.heap.objs.size) { s with heap := s.heap.push (lst (strValues l) 0), toks := k }) :
    wpAny (model prog w) A (call (.builtin "str.split") [.str x t, .none]) Q E s := by
  have hsz : x.length ≤ sizeLine := by rw [sizeLine_eq]; exact om333q _ hx
  have hn : (Builtin.Str.spaceWords x (x.length + 1)).length ≤ sizeLine := by
    have a := StrLaws.len_le_wsum (Builtin.Str.spaceWords x (x.length + 1))
    have b := (StrLaws.sw_weight x).1
    rw [sizeLine_eq]; exact om334q _ _ _ hx a b
  refine call_meets F.slot_str_split (typeIs_str _ _ _) F.entry_str_split (F.args_str_split_2 _ _) (by rw [split_same]; exact meets_str_split_space x t hsz hn) ?_
  cases hw : Builtin.Str.spaceWords x (x.length + 1) == [(0, x.length)]
  · simp only [Bool.false_eq_true, if_false]
    rw [strsFrom_eq]
    exact h (numbered s.toks (PySem.wordsOf x)) _ ((numbered_texts _ _).trans (if_neg (ne_true_of_eq_false hw)).symm)
  · simp only [if_true]
    exact h [(x, t)] s.toks (if_pos hw).symm

theorem strs_get (l : List (Str × Tok)) (i : Nat) : (strValues l)[i]? = (l[i]?).map fun p => Value.str p.1 p.2 := by
  unfold strValues; simp

theorem joinOk_small (sep : Str) (hs : sep.length ≤ 1) : ∀ (ws : List Str), (ws.map (·.length)).sum ≤ 2000 → ws.length ≤ 2000 → JoinOk sep ws = true := by
  intro ws h1 h2
  have key : ∀ (l : List Str) (a : Nat), l.foldl (· + ·.length + sep.length) a ≤ a + (l.map (·.length)).sum + l.length := by
    intro l
    induction l with
    | nil => intro a; simp
    | cons y r ih =>
      intro a
      have := ih (a + y.length + sep.length)
      simp only [List.foldl_cons, List.map_cons, List.sum_cons, List.length_cons]
      exact om335q _ _ _ _ _ _ hs this
  unfold JoinOk
  rw [List.foldl_toArray]
  have := key ws 0
  unfold Builtin.Str.tooLong
  rw [decide_eq_false (by rw [sizeLine_eq]; exact om336q _ _ _ h1 h2 this)]
  rfl

end
end Mine
end
section
open PySem PySem.W PyProof.Rows
set_option Elab.async false
set_option linter.all false
set_option maxRecDepth 100000
namespace Mine
theorem fill12 (w : World) (g : Heap) : (hd.heap_1 w.params).In g → PySem.Challenge.rw_mr0283_01.row.prog = PySem.Challenge.rw_mr0283_01.row.prog := by
  k_fill
  intro _; rfl
theorem wd_len : ∀ (cs cur : List Nat), (wd cur cs).length ≤ cs.length + 1 ∧ ((wd cur cs).map List.length).sum ≤ cur.length + cs.length
  | [], cur => by
    unfold wd
    split
    · simp
    · simp
  | c :: r, cur => by
    unfold wd
    split
    · split
      · have := wd_len r []; simp at this ⊢; exact om337q _ _ _ _ this
      · have := wd_len r []; simp at this ⊢; exact om338q _ _ _ this
    · have := wd_len r (cur ++ [c]); simp at this ⊢; exact om339q _ _ _ _ this
section
variable {prog : Program} {w : World} {A : Around} {E : Value → Shared → Prop} {s : Shared} {mg mb : Str → Option Value} {g : Heap}
set_option maxHeartbeats 1000000 in
theorem cap_call {x : Str} {t : Tok} {Q : Value → Shared → Prop} (C : Cx w mg mb g) (S : g.StaysIn s.heap) (hx : ∀ c ∈ x.cps.toList, Al c = true) (hl : x.length ≤ 100) (hh : A.handled = none) (hroom : A.depth < recursionLimit)
    (hQ : ∀ h' tk y t', s.heap.StaysIn h' → y.cps.toList = joinL ((wd [] x.cps.toList).map capL) → Q (.str y t') { s with heap := h', toks := tk }) :
    wpAny (model prog w) A (call (.ref 22) [.str x t]) Q E s := by
  refine enter0 (binds := [(Str.ofString "s", .str x t), (Str.ofString "sep", .none)]) C S (by k_is) (by k_is) (by exact om271q _ _ hroom) (BindsTo.of_defaults (T := 15) rfl ((C.K.keeps S) 15 _ (by k_is)) rfl rfl rfl) (locs rfl) ?_ rfl rfl rfl (by decide)
  intro L h₁ tk C' F N
  obtain ⟨m, F, e1, e2⟩ : ∃ m, Fr s.heap L h₁ m ∧ m (Str.ofString "s") = some (.str x t) ∧ m (Str.ofString "sep") = some .none := ⟨_, F, rfl, rfl⟩
  refine wpAny_execs_cons (wpAny_Return_some (MethodCall_ (BoolOp_or (ld F e2 (truthy_none ?_)))))
  rw [if_neg (by decide)]
  refine BoolOp_one ?_
  refine wpAny_Constant_str (GM.join (cwm (sm ?_)))
  dsimp only
  refine Call_ (name_B F C'.K C'.T (by k_is) boot_map (by decide) (cwt (sm ?_)))
  refine Attribute_any_ (name_B F C'.K C'.T (by k_is) boot_str (by decide) (attr_cap (C'.K.keeps F.keep) fun tk => sm ?_))
  dsimp only
  refine MethodCall_ (ld F e1 (GM.split (cwm (sm (ld F e2 (spliced_none ?_))))))
  refine split_ws (x := x) (by exact om340q _ hl) fun l k hw => spliced_none ?_
  dsimp only
  refine call_map (xs := (strValues l).toArray) (PySem.IsL.isList (n := 0) (Heap.get?_push_size _ rfl)) (spliced_none ?_)
  dsimp only
  generalize hH : h₁.push (lst (strValues l) 0) = H
  generalize hD : h₁.objs.size = D
  have hDs : H.objs.size = D + 1 := by rw [← hH, ← hD, Heap.size_push]
  have kH : ∀ b o, h₁.get? b = some o → H.get? b = some o := fun b o e => by rw [← hH]; exact Heap.get?_push_of_some _ e
  have gD : H.get? D = some (lst (strValues l) 0) := by rw [← hH, ← hD]; exact Heap.get?_push_size _ rfl
  have z1 : (mapH1 H D).objs.size = H.objs.size + 1 := Heap.size_push ..
  have z2 : (mapH2 H D).objs.size = H.objs.size + 2 := by rw [Heap.size_push, z1]
  have z3 : (mapH3 H D (.builtin "str.capitalize")).objs.size = H.objs.size + 3 := by rw [Heap.size_push, z2]
  have gM : (mapH3 H D (.builtin "str.capitalize")).get? (mapH2 H D).objs.size = some (mapObj (mapH1 H D).objs.size (.builtin "str.capitalize")) := Heap.get?_push_size _ rfl
  have gT : (mapH3 H D (.builtin "str.capitalize")).get? (mapH1 H D).objs.size = some { cls := .type "tuple", data := .seq #[.ref H.objs.size] } := Heap.get?_push_of_some _ (Heap.get?_push_size _ rfl)
  have gI : (mapH3 H D (.builtin "str.capitalize")).get? H.objs.size = some { cls := .type "list_iterator", data := .fields #[.ref D, .int 0 0] } := Heap.get?_push_of_some _ (Heap.get?_push_of_some _ (Heap.get?_push_size _ rfl))
  have k3 : ∀ b o, H.get? b = some o → (mapH3 H D (.builtin "str.capitalize")).get? b = some o := fun b o e => Heap.get?_push_of_some _ (Heap.get?_push_of_some _ (Heap.get?_push_of_some _ e))
  have hwl : ∀ p ∈ l, (∀ c ∈ p.1.cps.toList, Al c = true) ∧ p.1.length ≤ 100 := by
    intro p hp
    have hp' : p.1 ∈ Txt.words x := by rw [← hw]; exact List.mem_map_of_mem hp
    have hraw := words_raw x hx
    have hmem : p.1.cps.toList ∈ wd [] x.cps.toList := by rw [← hraw]; exact List.mem_map_of_mem hp'
    have := wd_mem x.cps.toList [] p.1.cps.toList hmem
    refine ⟨fun c hc => hx c (by simpa using this.1 c hc), ?_⟩
    have h2 := this.2
    simp only [List.length_nil, Nat.zero_add] at h2
    have e3 : p.1.length = p.1.cps.toList.length := by simp [Str.length]
    have e4 : x.length = x.cps.toList.length := by simp [Str.length]
    exact om341q _ _ _ _ hl h2 e3 e4
  refine join_map (walk_map (A := (A.deeper _).in1.in1) hh (M := (mapH2 H D).objs.size) (T := (mapH1 H D).objs.size) (I := H.objs.size) (l := D) (Nat.ne_of_gt (by exact om342q _ _ z2)) (Nat.ne_of_gt (by exact om309q _ _ z1)) (Nat.ne_of_lt (by exact om309q _ _ hDs)) (strValues l).toArray ?_) (fun i s' st => ⟨_, st.1, rfl⟩) ?_ ?_ (by simp) ?_ ?_ ?_
  · intro i v hv
    rw [List.getElem?_toArray, strs_get] at hv
    obtain ⟨p, hp, rfl⟩ := Option.map_eq_some_iff.mp hv
    have hpl := hwl p (List.mem_of_getElem? hp)
    exact ⟨p.1, p.2, rfl, cap_fit _ hpl.1 (by omega)⟩
  · exact ⟨gM, ⟨_, gT, rfl, _, rfl⟩, ⟨_, gI, rfl, rfl⟩, PySem.IsL.isList (n := 0) (k3 _ _ gD)⟩
  · intro b hb
    show b < (mapH3 H D (.builtin "str.capitalize")).objs.size
    simp only [List.mem_cons, List.not_mem_nil, or_false] at hb
    rcases hb with h | h | h | h
    · rw [h]; exact Nat.lt_of_lt_of_eq (show (mapH2 H D).objs.size < H.objs.size + 3 from by exact om343q _ _ z2) z3.symm
    · rw [h]; exact Nat.lt_of_lt_of_eq (show (mapH1 H D).objs.size < H.objs.size + 3 from by exact om344q _ _ z1) z3.symm
    · rw [h]; exact Nat.lt_of_lt_of_eq (show H.objs.size < H.objs.size + 3 from by exact om345q _) z3.symm
    · rw [h]; exact Nat.lt_of_lt_of_eq (show (D : Nat) < H.objs.size + 3 from by exact om346q _ _ hDs) z3.symm
  · rw [sizeLine_eq, List.size_toArray]
    have := wd_len x.cps.toList []
    have e1 : (strValues l).length = (wd [] x.cps.toList).length := by
      rw [← words_raw x hx, List.length_map, ← hw, List.length_map]; unfold strValues; simp
    have e4 : x.length = x.cps.toList.length := by simp [Str.length]
    simp only [List.length_nil, Nat.zero_add] at this
    exact om347q _ _ _ _ _ hl e1 e4 this
  · rintro i v ⟨y, _, t', _, rfl⟩; exact ⟨_, _, rfl⟩
  · intro h' l' hk hit
    have hl' : l'.map (·.1) = l.map (fun p => Txt.capitalize p.1) := by
      apply List.ext_getElem?
      intro j
      have hs := hit.1
      simp only [List.size_toArray] at hs
      have hlen : l'.length = l.length := by
        have a1 : (strValues l').length = l'.length := by unfold strValues; simp
        have a2 : (strValues l).length = l.length := by unfold strValues; simp
        exact om348q _ _ _ _ hs a1 a2
      by_cases hj : j < l'.length
      · have h2 := hit.2 j (Value.str l'[j].1 l'[j].2) (by rw [List.getElem?_toArray, strs_get, List.getElem?_eq_getElem hj]; rfl)
        obtain ⟨y, t1, t2, hy, he⟩ := h2
        rw [List.getElem?_toArray, strs_get, List.getElem?_eq_getElem (by exact om115q _ _ _ hlen hj)] at hy
        simp only [Option.map_some, Option.some.injEq, Value.str.injEq] at hy he
        rw [List.getElem?_map, List.getElem?_map, List.getElem?_eq_getElem hj, List.getElem?_eq_getElem (by exact om115q _ _ _ hlen hj)]
        simp only [Option.map_some, Option.some.injEq]
        rw [he.1, hy.1]
      · rw [List.getElem?_map, List.getElem?_map, List.getElem?_eq_none (by exact om220q _ _ hj), List.getElem?_eq_none (by exact om349q _ _ _ hlen hj)]
        rfl
    have hraw : (l'.map (·.1)).map (fun y => y.cps.toList) = (wd [] x.cps.toList).map capL := by
      rw [hl', List.map_map, ← words_raw x hx, ← hw, List.map_map, List.map_map]
      apply List.map_congr_left
      intro p hp
      exact cap_raw p.1 (hwl p hp).1
    refine ⟨joinOk_small _ (by decide) _ ?_ ?_, fun t' k => ?_⟩
    · have e5 : ((l'.map (·.1)).map (·.length)) = (wd [] x.cps.toList).map List.length := by
        have := congrArg (List.map List.length) hraw
        rw [show (l'.map (·.1)).map (fun y : Str => y.length) = ((l'.map (·.1)).map (fun y => y.cps.toList)).map List.length from by
          rw [List.map_map, List.map_map, List.map_map]; apply List.map_congr_left; intro y _; simp [Str.length], this, List.map_map]
        apply List.map_congr_left
        intro u _
        cases u <;> simp [capL]
      rw [e5]
      have := (wd_len x.cps.toList []).2
      have e4 : x.length = x.cps.toList.length := by simp [Str.length]
      simp only [List.length_nil, Nat.zero_add] at this
      exact om350q _ _ _ hl e4 this
    · have := congrArg List.length hraw
      simp only [List.length_map] at this
      have h2 := (wd_len x.cps.toList []).1
      have e4 : x.length = x.cps.toList.length := by simp [Str.length]
      rw [List.length_map]
      exact om351q _ _ _ _ hl this h2 e4
    · refine hQ _ _ _ _ (fun b o e => hk b o ?_ (k3 b o (kH b o (F.keep b o e)))) ?_
      · intro hb
        obtain rfl := List.mem_singleton.mp hb
        have := Heap.lt_size (kH _ _ (F.keep _ _ e))
        exact Nat.lt_irrefl _ this
      · rw [show Txt.join (Str.ofString " ") (l'.map (·.1)) = Str.join (Str.ofString " ") (l'.map (·.1)) from PySem.StrLaws.glued_eq_join _ _]
        rw [join_raw _ (by decide), hraw]
end
end Mine
end
section
open PySem PySem.W PyProof.Rows
set_option Elab.async false
set_option linter.all false
set_option maxRecDepth 100000
namespace Mine

/-- what a comprehension or a loop draws from: item i binds bs -/
structure Drw (prog : Program) (w : World) (A : Around) (I : Addr) (target : PySem.Expr) (names : List Str) (fp wr : List Addr) (n : Nat) (B : Nat → List (Str × Value) → Prop) (St : Nat → Heap → Prop) (Z : Heap → Prop := fun _ => True) : Prop where
  sub : ∀ b ∈ wr, b ∈ fp
  frame : ∀ i h h', St i h → (∀ b ∈ fp, ∀ o, h.get? b = some o → h'.get? b = some o) → St i h'
  step : ∀ i (env : Env) (m : Str → Option Value) (s : Shared) (Q : Shared → Prop) (E : Value → Shared → Prop), i < n → St i s.heap → s.heap.Ns env.locals m → env.locals ∉ fp →
    (∀ x ∈ names, env.kindOf x = some .local) → (env.scope.kind == .class || (env.scope.kind == .module && env.locals != env.globals)) = false →
    (∀ bs m' h' tk, B i bs → St (i + 1) h' → h'.Ns env.locals m' → (∀ p ∈ bs, m' p.1 = some p.2) → (∀ x, x ∉ names → m' x = m x) →
      (∀ b o, b ≠ env.locals → b ∉ wr → s.heap.get? b = some o → h'.get? b = some o) → Q { s with heap := h', toks := tk }) →
    wpAny (model prog w) A (pyNext (.ref I)) (fun r s₁ => match r with
      | none => False
      | some v => wpAny (model prog w) A (letOwnedTupleGo target (.ref I) v) (fun _ s₂ => wpAny (model prog w) A (assign target env v) (fun _ s₃ => Q s₃) E s₂) E s₁) E s
  done : ∀ (s : Shared) (Q : Option Value → Shared → Prop) (E : Value → Shared → Prop), St n s.heap →
    (∀ h' tk, Z h' → (∀ b o, b ∉ wr → s.heap.get? b = some o → h'.get? b = some o) → Q none { s with heap := h', toks := tk }) → wpAny (model prog w) A (pyNext (.ref I)) Q E s
  self : ∀ i (s : Shared) (Q : Value → Shared → Prop) (E : Value → Shared → Prop), St i s.heap → Q (.ref I) s → wpAny (model prog w) A (pyIter (.ref I)) Q E s

section
variable {prog : Program} {w : World} {A : Around} {E : Value → Shared → Prop} {s : Shared} {env : Env} {I : Addr} {fp wr : List Addr} {n : Nat} {St : Nat → Heap → Prop} {Z : Heap → Prop}

/-- one name -/
theorem Drw.name {x : Str} {px : Pos} {P : Nat → Value → Prop} (W : Walks prog w A I fp wr n P St) :
    Drw prog w A I (.Name x px) [x] fp wr n (fun i bs => ∃ v, P i v ∧ bs = [(x, v)]) St where
  sub := W.sub
  frame := W.frame
  step := fun i env m s Q E hi st hn hL hloc hp hQ => by
    refine W.item i s _ _ hi st fun v h' tk hP st' hk => ?_
    have hLw : env.locals ∉ wr := fun h => hL (W.sub _ h)
    refine wpAny_of_eq (a := ()) rfl (wpAny_assign_Name (wpAny_storeName_local (hloc x (.head _)) (hn.at' fun o e => hk _ o hLw e) (fun h₂ hn₂ hs₂ => ?_) hp))
    refine hQ [(x, v)] _ h₂ _ ⟨v, hP, rfl⟩ (W.frame _ _ _ st' fun b hb o e => hs₂.extBut b o (fun q => hL (q ▸ hb)) e) hn₂ (fun p hp => ?_) (fun y hy => ?_) fun b o hbL hbw e => hs₂.extBut b o hbL (hk b o hbw e)
    · obtain rfl := List.mem_singleton.mp hp
      exact if_pos rfl
    · exact if_neg (fun e : y = x => hy (by rw [e]; exact .head _))
  done := fun s Q E st hQ => W.done s Q E st fun h' tk hk => hQ h' tk trivial hk
  self := W.self

/-- a clause's tests -/
abbrev tests (ifs : List PySem.Expr) (env : Env) : Sem Bool := forIn ifs true fun c r => if r = true then do let ok ← isTrue c env (eval c env); pure (ForInStep.yield ok) else pure (ForInStep.yield r)

/-- the loop of a comprehension -/
theorem comp_loop {elt target iter : PySem.Expr} {ifs : List PySem.Expr} {scope : Scope} {pos : Pos} {D : Addr} {cenv : Env} {names : List Str} {B : Nat → List (Str × Value) → Prop} {R : Result → Shared → Prop} {m₀ : Str → Option Value}
    (W : Drw prog w A I target names fp wr n B St Z) (hn : n ≤ 1000) (J : Nat → List Value → Heap → Prop)
    (Jf : ∀ i ys h h', J i ys h → (∀ b o, b ≠ cenv.locals → b ≠ D → b ∉ wr → h.get? b = some o → h'.get? b = some o) → J i ys h')
    (hloc : ∀ x ∈ names, cenv.kindOf x = some .local) (hp : (cenv.scope.kind == .class || (cenv.scope.kind == .module && cenv.locals != cenv.globals)) = false)
    (hDC : D ≠ cenv.locals) (hDf : D ∉ fp) (hCf : cenv.locals ∉ fp)
    (hst : St 0 s.heap) (hacc : s.heap.get? D = some (lst [] 0)) (hns : s.heap.Ns cenv.locals m₀) (h0 : J 0 [] s.heap)
    (turn : ∀ i bs ys m (s' : Shared), i < n → B i bs → J i ys s'.heap → s'.heap.Ns cenv.locals m → (∀ p ∈ bs, m p.1 = some p.2) → (∀ x, x ∉ names → m x = m₀ x) → (∀ b o, b ≠ cenv.locals → b ∉ wr → b ≠ D → s.heap.get? b = some o → s'.heap.get? b = some o) →
      wpAny (model prog w) A (tests ifs cenv) (fun ok s₁ => if ok = true then wpAny (model prog w) A (eval elt cenv) (fun y s'' => (∃ h'' tk, s'' = { s' with heap := h'', toks := tk }) ∧ (∀ b o, s'.heap.get? b = some o → s''.heap.get? b = some o) ∧ J (i + 1) (ys ++ [y]) s''.heap) (fun _ _ => False) s₁
        else (∃ h'' tk, s₁ = { s' with heap := h'', toks := tk }) ∧ (∀ b o, s'.heap.get? b = some o → s₁.heap.get? b = some o) ∧ J (i + 1) ys s₁.heap) (fun _ _ => False) s')
    (hR : ∀ h' tk ys c, h'.get? D = some (lst ys c) → J n ys h' → Z h' → (∃ m', h'.Ns cenv.locals m') → (∀ b o, b ≠ cenv.locals → b ∉ wr → b ≠ D → s.heap.get? b = some o → h'.get? b = some o) → R (.ok .next) { s with heap := h', toks := tk }) :
    codeAny (model prog w) A (.compLoop (.ListComp elt [⟨target, iter, ifs, 0⟩] scope pos) 0 (.ref I) (.ref D) cenv) R s := by
  have hDw : D ∉ wr := fun h => hDf (W.sub _ h)
  have hCw : cenv.locals ∉ wr := fun h => hCf (W.sub _ h)
  refine codeAny_loop rfl (fun k s' => ∃ i h tk m ys c, k = n - i ∧ i ≤ n ∧ s' = { s with heap := h, toks := tk } ∧ St i h ∧ h.get? D = some (lst ys c) ∧ ys.length ≤ i ∧ h.Ns cenv.locals m ∧ (∀ x, x ∉ names → m x = m₀ x) ∧ J i ys h ∧
    (∀ b o, b ≠ cenv.locals → b ∉ wr → b ≠ D → s.heap.get? b = some o → h.get? b = some o)) ?_ n ⟨0, s.heap, s.toks, m₀, [], 0, rfl, Nat.zero_le _, rfl, hst, hacc, Nat.le_refl _, hns, fun _ _ => rfl, h0, fun _ _ _ _ _ e => e⟩
  rintro k s' ⟨i, h, tk, m, ys, c, rfl, hi, rfl, st, hD, hyl, hn', hm', j, hk⟩
  show wpAny _ _ ((compTurn (.ListComp elt [⟨target, iter, ifs, 0⟩] scope pos) 0 (.ref I) (.ref D) cenv).onRaise (fun x => do noteFrame x cenv; theTreesLotGoes x)) _ _ _
  refine wpAny_noted ?_
  rw [compTurn_list]
  refine wpAny_bind (wpAny_standAt (wpAny_bind ?_))
  by_cases hlt : i < n
  · refine wpAny_mono (W.step i cenv m { s with heap := h, toks := tk } (fun s₃ => ∃ bs m' h' tk', s₃ = { s with heap := h', toks := tk' } ∧ B i bs ∧ St (i + 1) h' ∧ h'.Ns cenv.locals m' ∧ (∀ p ∈ bs, m' p.1 = some p.2) ∧ (∀ x, x ∉ names → m' x = m x) ∧ (∀ b o, b ≠ cenv.locals → b ∉ wr → h.get? b = some o → h'.get? b = some o)) (fun _ _ => False) hlt st hn' hCf hloc hp ?_) (fun r s₁ h₁ => ?_) fun _ _ x => x.elim
    · intro bs m' h' tk' b1 b2 b3 b4 b5 b6
      exact ⟨bs, m', h', tk', rfl, b1, b2, b3, b4, b5, b6⟩
    cases r with
    | none => exact h₁.elim
    | some v =>
      refine wpAny_bind (wpAny_mono h₁ (fun _ s₂ h₂ => wpAny_bind (wpAny_mono h₂ (fun _ s₃ h₃ => ?_) fun _ _ x => x.elim)) fun _ _ x => x.elim)
      obtain ⟨bs, m', h', tk', rfl, b1, b2, b3, b4, b5, b6⟩ := h₃
      have hD' : h'.get? D = some (lst ys c) := b6 D _ hDC hDw hD
      have j' : J i ys h' := Jf _ _ _ _ j fun b o b1 b2 b3 e => b6 b o b1 b3 e
      have hk' : ∀ b o, b ≠ cenv.locals → b ∉ wr → b ≠ D → s.heap.get? b = some o → h'.get? b = some o := fun b o c1 c2 c3 e => b6 b o c1 c2 (hk b o c1 c2 c3 e)
      refine wpAny_bind (wpAny_mono (turn i bs ys m' { s with heap := h', toks := tk' } hlt b1 j' b3 b4 (fun x hx => (b5 x hx).trans (hm' x hx)) hk') (fun ok s₄ h₄ => ?_) fun _ _ x => x.elim)
      cases ok with
      | false =>
        rw [if_neg (by decide)] at h₄
        obtain ⟨⟨h'', tk'', rfl⟩, d1, d2⟩ := h₄
        refine wpAny_pure ⟨rfl, n - (i + 1), by exact om317q _ _ hlt, i + 1, h'', _, m', ys, c, rfl, hlt, rfl, W.frame _ _ _ b2 fun b hb o e => d1 b o e, d1 _ _ hD', by exact om49q _ _ hyl, b3.at' fun o e => d1 _ o e, fun x hx => (b5 x hx).trans (hm' x hx), d2, fun b o c1 c2 c3 e => d1 b o (hk' b o c1 c2 c3 e)⟩
      | true =>
        rw [if_pos rfl] at h₄
        refine wpAny_bind (wpAny_bind (wpAny_mono h₄ (fun y s₄ h₄ => ?_) fun _ _ x => x.elim))
        obtain ⟨⟨h'', tk'', rfl⟩, d1, d2⟩ := h₄
        refine wpAny_bind (append_at (its := ys.toArray) (n := c) (d1 _ _ hD') (fun h₅ hs₅ hD₅ => wpAny_pure (wpAny_pure ⟨rfl, n - (i + 1), by exact om317q _ _ hlt, i + 1, h₅, _, m', ys ++ [y], c + 1, rfl, hlt, rfl, ?_, ?_, ?_, ?_, fun x hx => (b5 x hx).trans (hm' x hx), ?_, ?_⟩)) (by rw [sizeLine_eq, List.size_toArray]; exact om396q _ _ _ hn hyl hlt))
        · exact W.frame _ _ _ b2 fun b hb o e => hs₅.extBut b o (fun q => hDf (q ▸ hb)) (d1 b o e)
        · rw [hD₅, List.push_toArray]
        · simp; exact om35q _ _ hyl
        · exact b3.at' fun o e => hs₅.extBut _ o (Ne.symm hDC) (d1 _ o e)
        · exact Jf _ _ _ _ d2 fun b o _ q _ e => hs₅.extBut b o q e
        · exact fun b o c1 c2 c3 e => hs₅.extBut b o c3 (d1 b o (hk' b o c1 c2 c3 e))
  · obtain rfl : i = n := by exact om318q _ _ hi hlt
    refine W.done { s with heap := h, toks := tk } _ _ st fun h' tk' hz₂ hk₂ => ?_
    refine wpAny_pure (hR h' tk' ys c (hk₂ _ _ hDw hD) (Jf _ _ _ _ j fun b o _ _ q e => hk₂ b o q e) hz₂ ⟨m, hn'.at' fun o e => hk₂ _ o hCw e⟩ fun b o c1 c2 c3 e => hk₂ b o c2 (hk b o c1 c2 c3 e))

/-- from the fresh list to the end -/
theorem comp_block {elt target iter : PySem.Expr} {ifs : List PySem.Expr} {scope : Scope} {cl : List (Str × Addr)} {pos : Pos} {names : List Str} {B : Nat → List (Str × Value) → Prop} {RR : Value → Addr → Result → Shared → Prop}
    (W : Drw prog w A I target names fp wr n B St Z) (hn : n ≤ 1000) (J : Addr → Nat → List Value → Heap → Prop)
    (Jf : ∀ C i ys h h', J C i ys h → (∀ b o, (b < s.heap.objs.size ∨ C < b) → b ∉ wr → h.get? b = some o → h'.get? b = some o) → J C i ys h')
    (hcell : ∀ y ∈ scope.names, y.2 ≠ .cell) (hkind : scope.kind = .function) (hx : ∀ x ∈ names, scope.names.lookup x = some .local) (hst : St 0 s.heap) (hfp : ∀ b ∈ fp, b < s.heap.objs.size)
    (h0 : ∀ C h', C = s.heap.objs.size + 1 → s.heap.StaysIn h' → J C 0 [] h')
    (turn : ∀ C i bs ys m (s' : Shared), C = s.heap.objs.size + 1 → i < n → B i bs → J C i ys s'.heap → s'.heap.Ns C m → (∀ p ∈ bs, m p.1 = some p.2) → (∀ b o, b ∉ wr → s.heap.get? b = some o → s'.heap.get? b = some o) →
      wpAny (model prog w) A (tests ifs (compEnvC scope cl C env)) (fun ok s₁ => if ok = true then wpAny (model prog w) A (eval elt (compEnvC scope cl C env)) (fun y s'' => (∃ h'' tk, s'' = { s' with heap := h'', toks := tk }) ∧ (∀ b o, s'.heap.get? b = some o → s''.heap.get? b = some o) ∧ J C (i + 1) (ys ++ [y]) s''.heap) (fun _ _ => False) s₁
        else (∃ h'' tk, s₁ = { s' with heap := h'', toks := tk }) ∧ (∀ b o, s'.heap.get? b = some o → s₁.heap.get? b = some o) ∧ J C (i + 1) ys s₁.heap) (fun _ _ => False) s')
    (hRR : ∀ D C h' tk m' ys c, D = s.heap.objs.size → C = s.heap.objs.size + 1 → h'.Ns C m' → h'.get? D = some (lst ys c) → J C n ys h' → Z h' →
      (∀ b o, b ∉ wr → s.heap.get? b = some o → h'.get? b = some o) → RR (.ref D) C (.ok .next) { s with heap := h', toks := tk }) :
    wpAny (model prog w) A (newList []) (fun acc s₃ => wpAny (model prog w) A (newFunctionEnv scope env.globals cl [] env.qual none .none (some env)) (fun cenv s₄ =>
      codeAny (model prog w) A (.compStart (.ListComp elt [⟨target, iter, ifs, 0⟩] scope pos) 0 (.ref I) acc { cenv with scope := relabel scope env }) (RR acc cenv.locals) s₄) E s₃) E s := by
  refine wpAny_newObj_type (wpAny_newFunctionEnv hcell (by intro y hy; simp at hy) (fun h₁ hns₁ hsb₁ => ?_) hkind)
  dsimp only at hns₁ hsb₁ ⊢
  generalize hH2 : s.heap.push { cls := .type "list", dict := none, data := .seq ([] : List Value).toArray } = H2 at hns₁ hsb₁ ⊢
  have hC : H2.objs.size = s.heap.objs.size + 1 := by rw [← hH2, Heap.size_push]
  generalize H2.objs.size = C at hC hns₁ hsb₁ ⊢
  generalize hDD : s.heap.objs.size = D at *
  have hDC : D ≠ C := by rw [hC]; exact Nat.ne_of_lt (Nat.lt_succ_self _)
  have below : ∀ b, b < D → b ≠ C ∧ b ≠ D := fun b hb => ⟨by rw [hC]; exact Nat.ne_of_lt (Nat.lt_succ_of_lt hb), Nat.ne_of_lt hb⟩
  have hDf : D ∉ fp := fun hm => Nat.lt_irrefl _ (hfp _ hm)
  have hCf : C ∉ fp := fun hm => by have := hfp _ hm; rw [hC] at this; exact Nat.lt_irrefl _ (Nat.lt_of_succ_lt this)
  have lt : ∀ {b o}, s.heap.get? b = some o → b < D := fun e => hDD ▸ Heap.lt_size e
  have old : ∀ b o, s.heap.get? b = some o → h₁.get? b = some o := fun b o e => hsb₁.extBut b o (below b (lt e)).1 (Heap.get?_push_of_some _ (hH2 ▸ Heap.get?_push_of_some _ e))
  have hacc : h₁.get? D = some (lst [] 0) := by
    have : H2.get? D = some (lst [] 0) := by rw [← hH2, ← hDD]; exact Heap.get?_push_size _ rfl
    exact hsb₁.extBut _ _ hDC (Heap.get?_push_of_some _ this)
  have hst₁ : St 0 h₁ := W.frame _ _ _ hst fun b _ o e => old b o e
  have loop : ∀ s₃ : Shared, s₃ = { s with heap := h₁, toks := s.toks + ([] : List (Str × Value)).length } →
      codeAny (model prog w) A (.compLoop (.ListComp elt [⟨target, iter, ifs, 0⟩] scope pos) 0 (.ref I) (.ref D) (compEnvC scope cl C env))
        (RR (.ref D) C) s₃ := by
    rintro s₃ rfl
    refine comp_loop (cenv := compEnvC scope cl C env) W hn (J C) (fun i ys h h' j hk => Jf C i ys h h' j fun b o q1 q2 e => hk b o ?_ ?_ q2 e) (fun x hx' => lookup_relabel_local (hx x hx')) (by simp [compEnvC, relabel, hkind]) hDC hDf hCf hst₁ hacc hns₁ (h0 C h₁ hC fun b o e => old b o e)
      (fun i bs ys m s' hi hb j hn hm _ hk => turn C i bs ys m s' hC hi hb j hn hm fun b o q e => hk b o (below b (lt e)).1 q (below b (lt e)).2 (old b o e))
      fun h' tk ys c g1 g3 gz g4 g5 => ?_
    · rcases q1 with q1 | q1
      · exact (below b q1).1
      · exact Nat.ne_of_gt q1
    · rcases q1 with q1 | q1
      · exact (below b q1).2
      · rw [hC] at q1; exact Nat.ne_of_gt (Nat.lt_of_succ_lt q1)
    obtain ⟨m', g4⟩ := g4
    exact hRR D C h' tk m' ys c rfl hC g4 g1 g3 gz fun b o q e => g5 b o (below b (lt e)).1 q (below b (lt e)).2 (old b o e)
  exact codeAny_compStart_list (loop _ rfl) (W.self 0 _ _ _ hst₁ (loop _ rfl))
end
end Mine
end
section
open PySem PySem.W PyProof.Rows
set_option Elab.async false
set_option linter.all false
set_option maxRecDepth 100000
namespace Mine

section
variable {prog : Program} {w : World} {A : Around} {E : Value → Shared → Prop} {s : Shared} {env : Env} {I : Addr} {fp wr : List Addr} {n : Nat} {St : Nat → Heap → Prop}

/-- two names -/
theorem Drw.tup2 {x y : Str} {px py tp : Pos} {kk : Nat} {Pt : Nat → Array Value → Prop} {P : Nat → Value → Value → Prop} {Mid : Nat → Addr → Heap → Prop} (hh : A.handled = none) (W : WalksU prog w A I fp wr n Pt St Mid)
    (hP : ∀ i vals, Pt i vals → ∃ a b, vals = #[a, b] ∧ P i a b) (hxy : x ≠ y) :
    Drw prog w A I (.Tuple [.Name x px, .Name y py] kk tp) [x, y] fp wr n (fun i bs => ∃ a b, P i a b ∧ bs = [(x, a), (y, b)]) St where
  sub := W.sub
  frame := W.frame
  step := fun i env m s Q E hi st hn hL hloc hp hQ => by
    have hLw : env.locals ∉ wr := fun h => hL (W.sub _ h)
    refine W.item i s _ _ hi st fun T vals h' tk hv hT mid hk => ?_
    obtain ⟨a, b, rfl, hab⟩ := hP _ _ hv
    refine W.go _ _ _ i T _ _ _ mid fun h₂ st₂ hk₂ => ?_
    have hT₂ : h₂.IsTuple T #[a, b] := hT.at fun o e => hk₂ _ o (W.apart _ _ _ mid) e
    refine kcp_assign hh hT₂ (hloc x (.head _)) (hloc y (.tail _ (.head _))) hp (hn.at' fun o e => hk₂ _ o hLw (hk _ o hLw e)) fun h₃ tk₃ hn₃ hk₃ => ?_
    refine hQ _ _ h₃ _ ⟨a, b, hab, rfl⟩ (W.frame _ _ _ st₂ fun c hc o e => hk₃ c o (fun q => hL (q ▸ hc)) e) hn₃ (fun p hp => ?_) (fun z hz => ?_) fun c o hcL hcw e => hk₃ c o hcL (hk₂ c o hcw (hk c o hcw e))
    · rcases List.mem_cons.mp hp with rfl | hp
      · show (if x = y then _ else if x = x then _ else _) = _
        rw [if_neg hxy, if_pos rfl]
      · obtain rfl := List.mem_singleton.mp hp
        exact if_pos rfl
    · show (if z = y then _ else if z = x then _ else _) = _
      rw [if_neg (fun e : z = y => hz (by rw [e]; exact .tail _ (.head _))), if_neg (fun e : z = x => hz (by rw [e]; exact .head _))]
  done := fun s Q E st hQ => W.done s Q E st fun h' tk hk => hQ h' tk trivial hk
  self := W.self

/-- three names -/
theorem Drw.tup3 {x y z : Str} {px py pz tp : Pos} {kk : Nat} {Pt : Nat → Array Value → Prop} {P : Nat → Value → Value → Value → Prop} {Mid : Nat → Addr → Heap → Prop} (hh : A.handled = none) (W : WalksU prog w A I fp wr n Pt St Mid)
    (hP : ∀ i vals, Pt i vals → ∃ a b c, vals = #[a, b, c] ∧ P i a b c) (hxy : x ≠ y) (hxz : x ≠ z) (hyz : y ≠ z) :
    Drw prog w A I (.Tuple [.Name x px, .Name y py, .Name z pz] kk tp) [x, y, z] fp wr n (fun i bs => ∃ a b c, P i a b c ∧ bs = [(x, a), (y, b), (z, c)]) St where
  sub := W.sub
  frame := W.frame
  step := fun i env m s Q E hi st hn hL hloc hp hQ => by
    have hLw : env.locals ∉ wr := fun h => hL (W.sub _ h)
    refine W.item i s _ _ hi st fun T vals h' tk hv hT mid hk => ?_
    obtain ⟨a, b, c, rfl, hab⟩ := hP _ _ hv
    refine W.go _ _ _ i T _ _ _ mid fun h₂ st₂ hk₂ => ?_
    have hT₂ : h₂.IsTuple T #[a, b, c] := hT.at fun o e => hk₂ _ o (W.apart _ _ _ mid) e
    have hn₂ : h₂.Ns env.locals m := hn.at' fun o e => hk₂ _ o hLw (hk _ o hLw e)
    refine wpAny_assign_Tuple hh hT₂ rfl rfl fun h₃ he₃ => ?_
    have up₃ : ∀ c o, h₂.get? c = some o → h₃.get? c = some o := fun c o e => he₃ c o (Nat.ne_of_lt (Heap.lt_size e)) e
    show wpAny _ _ (assignInOrder [assign (.Name x px) env, assign (.Name y py) env, assign (.Name z pz) env] [a, b, c]) _ _ _
    refine assignInOrder_cons (wpAny_assign_Name (wpAny_storeName_local (hloc x (.head _)) (hn₂.at' fun o e => up₃ _ o e) (fun h₄ hn₄ hs₄ => ?_) hp))
    refine assignInOrder_cons (wpAny_assign_Name (wpAny_storeName_local (hloc y (.tail _ (.head _))) hn₄ (fun h₅ hn₅ hs₅ => ?_) hp))
    refine assignInOrder_cons (wpAny_assign_Name (wpAny_storeName_local (hloc z (.tail _ (.tail _ (.head _)))) hn₅ (fun h₆ hn₆ hs₆ => ?_) hp))
    refine assignInOrder_nil ?_
    have up : ∀ c o, c ≠ env.locals → h₂.get? c = some o → h₆.get? c = some o := fun c o q e => hs₆.extBut c o q (hs₅.extBut c o q (hs₄.extBut c o q (up₃ c o e)))
    refine hQ _ _ h₆ _ ⟨a, b, c, hab, rfl⟩ (W.frame _ _ _ st₂ fun c hc o e => up c o (fun q => hL (q ▸ hc)) e) hn₆ (fun p hp => ?_) (fun u hu => ?_) fun c o hcL hcw e => up c o hcL (hk₂ c o hcw (hk c o hcw e))
    · rcases List.mem_cons.mp hp with rfl | hp
      · show (if x = z then _ else if x = y then _ else if x = x then _ else _) = _
        rw [if_neg hxz, if_neg hxy, if_pos rfl]
      · rcases List.mem_cons.mp hp with rfl | hp
        · show (if y = z then _ else if y = y then _ else _) = _
          rw [if_neg hyz, if_pos rfl]
        · obtain rfl := List.mem_singleton.mp hp
          exact if_pos rfl
    · show (if u = z then _ else if u = y then _ else if u = x then _ else _) = _
      rw [if_neg (fun e : u = z => hu (by rw [e]; exact .tail _ (.tail _ (.head _)))), if_neg (fun e : u = y => hu (by rw [e]; exact .tail _ (.head _))), if_neg (fun e : u = x => hu (by rw [e]; exact .head _))]
  done := fun s Q E st hQ => W.done s Q E st fun h' tk hk => hQ h' tk trivial hk
  self := W.self

/-- what a comprehension needs, at its iterator -/
def CGo (prog : Program) (w : World) (A : Around) (env : Env) (elt target : PySem.Expr) (scope : Scope) (cl : List (Str × Addr)) (ex : List Addr) (it : Value) (s₂ : Shared) (fin : Addr → Heap → Tok → Prop) : Prop :=
  ∃ (I : Addr) (fp wr : List Addr) (n : Nat) (names : List Str) (B : Nat → List (Str × Value) → Prop) (St : Nat → Heap → Prop) (P : Addr → Nat → Value → Heap → Prop), it = .ref I ∧ Drw prog w A I target names fp wr n B St ∧ n ≤ 1000 ∧ (∀ b ∈ ex, b ∉ wr) ∧
    (∀ C i v h h', P C i v h → (∀ b o, (b < s₂.heap.objs.size ∨ C < b) → b ∉ wr → b ∉ ex → h.get? b = some o → h'.get? b = some o) → P C i v h') ∧
    (∀ x ∈ names, scope.names.lookup x = some .local) ∧ St 0 s₂.heap ∧ (∀ b ∈ fp, b < s₂.heap.objs.size) ∧
    (∀ C i bs m (s' : Shared), C = s₂.heap.objs.size + 1 → i < n → B i bs → s'.heap.Ns C m → (∀ p ∈ bs, m p.1 = some p.2) → (∀ b o, b ∉ wr → s₂.heap.get? b = some o → s'.heap.get? b = some o) → C < s'.heap.objs.size →
      wpAny (model prog w) A (eval elt (compEnvC scope cl C env)) (fun y s'' => (∃ h'' tk, s'' = { s' with heap := h'', toks := tk }) ∧ (∀ b o, s'.heap.get? b = some o → s''.heap.get? b = some o) ∧ P C i y s''.heap) (fun _ _ => False) s') ∧
    (∀ D C h' tk ys c, D = s₂.heap.objs.size → C = s₂.heap.objs.size + 1 → h'.get? D = some (lst ys c) → ys.length = n → (∀ j v, ys[j]? = some v → P C j v h') →
      (∀ b o, b ∉ wr → b ∉ ex → s₂.heap.get? b = some o → h'.get? b = some o) → fin D h' tk)

theorem CGo.run {elt target iter : PySem.Expr} {scope : Scope} {cl : List (Str × Addr)} {pos : Pos} {ex : List Addr} {it : Value} {fin : Addr → Heap → Tok → Prop} {RR : Value → Addr → Result → Shared → Prop}
    (G : CGo prog w A env elt target scope cl ex it s fin) (hcell : ∀ y ∈ scope.names, y.2 ≠ .cell) (hkind : scope.kind = .function) (hex : ∀ b ∈ ex, b < s.heap.objs.size)
    (hRR : ∀ (D C : Addr) (wr : List Addr) (h' : Heap) tk m' ys c, D = s.heap.objs.size → C = s.heap.objs.size + 1 → h'.Ns C m' → h'.get? D = some (lst ys c) → (∀ b o, b ∉ wr → s.heap.get? b = some o → h'.get? b = some o) → (∀ b ∈ ex, b ∉ wr) → (∀ h'' tk', (∀ b o, (b < s.heap.objs.size ∨ b = D ∨ C < b) → b ∉ ex → h'.get? b = some o → h''.get? b = some o) → fin D h'' tk') →
      RR (.ref D) C (.ok .next) { s with heap := h', toks := tk }) :
    wpAny (model prog w) A (newList []) (fun acc s₃ => wpAny (model prog w) A (newFunctionEnv scope env.globals cl [] env.qual none .none (some env)) (fun cenv s₄ =>
      codeAny (model prog w) A (.compStart (.ListComp elt [⟨target, iter, [], 0⟩] scope pos) 0 it acc { cenv with scope := relabel scope env }) (RR acc cenv.locals) s₄) E s₃) E s := by
  obtain ⟨I, fp, wr, n, names, B, St, P, rfl, W, hn, hew, Pf, hx, hst, hfp, turn, hfin⟩ := G
  have hwr : ∀ b ∈ wr, b < s.heap.objs.size := fun b hb => hfp b (W.sub b hb)
  refine comp_block W hn (fun C i ys h => ys.length = i ∧ ∀ j v, ys[j]? = some v → P C j v h) (fun C i ys h h' j hk => ⟨j.1, fun k v e => Pf C k v h h' (j.2 k v e) fun b o q1 q2 _ e => hk b o q1 q2 e⟩) hcell hkind hx hst hfp (fun C h' _ _ => ⟨rfl, fun j v e => by simp at e⟩)
    (fun C i bs ys m s' hC hi hb j hns hm hk => wpAny_tests_nil (wpAny_mono (turn C i bs m s' hC hi hb hns hm hk hns.lt) (fun y s'' h => ⟨h.1, h.2.1, by simp [j.1], fun k v e => ?_⟩) fun _ _ x => x)) ?_
  · have hl := j.1
    replace j := j.2
    by_cases hki : k < ys.length
    · rw [List.getElem?_append_left hki] at e
      exact Pf C k v _ _ (j k v e) fun b o _ _ _ e => h.2.1 b o e
    · rw [List.getElem?_append_right (by exact om220q _ _ hki)] at e
      by_cases h0 : k - ys.length = 0
      · rw [h0] at e
        obtain rfl : k = i := by exact om397q _ _ _ hl hki h0
        simp only [List.getElem?_cons_zero, Option.some.injEq] at e
        exact e ▸ h.2.2
      · rw [List.getElem?_eq_none (by simp; exact om398q _ _ h0)] at e; cases e
  · intro D C h' tk m' ys c hD hC hns hl j _ hk
    obtain ⟨hyl, j⟩ := j
    refine hRR D C wr h' tk m' ys c hD hC hns hl hk hew fun h'' tk' hkk => ?_
    refine hfin D C h'' tk' ys c hD hC (hkk _ _ (.inr (.inl rfl)) (fun q => Nat.lt_irrefl _ (hD ▸ hex D q)) hl) hyl (fun k v e => Pf C k v _ _ (j k v e) fun b o q _ q3 e => hkk b o (q.elim .inl fun q => .inr (.inr q)) q3 e) fun b o q q3 e => hkk b o (.inl (Heap.lt_size e)) q3 (hk b o q e)

/-- a list comprehension as an expression -/
theorem LComp {elt target iter : PySem.Expr} {scope : Scope} {cl : List (Str × Addr)} {pos : Pos} {Q : Value → Shared → Prop}
    (hclos : closureFor scope env = pure cl) (hcell : ∀ y ∈ scope.names, y.2 ≠ .cell) (hkind : scope.kind = .function)
    (hnames : ∀ y ∈ scope.names, y.2 = .local → scope.names.lookup y.1 = some .local)
    (h : wpAny (model prog w) A (eval iter env) (fun xv s₁ => wpAny (model prog w) A (pyIter xv) (fun it s₂ => CGo prog w A env elt target scope cl [] it s₂ fun D h' tk => Q (.ref D) { s₂ with heap := h', toks := tk }) E s₁) E s)
    (hs : ∀ x, foldedSetIterable iter env x = pure x := by intro _; rfl) :
    wpAny (model prog w) A (eval (.ListComp elt [⟨target, iter, [], 0⟩] scope pos) env) Q E s := by
  rw [eval_ListComp]
  refine wpAny_comprehension_free (use := none) rfl hs hclos hkind hnames (wpAny_mono h (fun xv s₁ h₁ => wpAny_mono h₁ (fun it s₂ h₂ => ?_) fun _ _ e => e) fun _ _ e => e)
  refine CGo.run (RR := fun acc C => compPost (model prog w) A E none Q acc C) h₂ hcell hkind (fun b hb => by cases hb) ?_
  intro D C wr h' tk m' ys c hD hC hn hl _ _ fin
  refine ⟨m', hn, fun h'' hs'' => fin h'' tk fun b o q _ e => hs''.extBut b o ?_ e⟩
  rcases q with q | q | q
  · rw [hC]; exact Nat.ne_of_lt (Nat.lt_succ_of_lt q)
  · rw [q, hD, hC]; exact Nat.ne_of_lt (Nat.lt_succ_self _)
  · exact Nat.ne_of_gt q

/-- a list comprehension with tests, by its invariant -/
theorem LCompT {elt target iter : PySem.Expr} {ifs : List PySem.Expr} {scope : Scope} {cl : List (Str × Addr)} {pos : Pos} {Q : Value → Shared → Prop}
    (hclos : closureFor scope env = pure cl) (hcell : ∀ y ∈ scope.names, y.2 ≠ .cell) (hkind : scope.kind = .function)
    (hnames : ∀ y ∈ scope.names, y.2 = .local → scope.names.lookup y.1 = some .local)
    (h : wpAny (model prog w) A (eval iter env) (fun xv s₁ => wpAny (model prog w) A (pyIter xv) (fun it s₂ =>
      ∃ (I : Addr) (fp wr : List Addr) (n : Nat) (names : List Str) (B : Nat → List (Str × Value) → Prop) (St : Nat → Heap → Prop) (J : Nat → List Value → Prop), it = .ref I ∧ Drw prog w A I target names fp wr n B St ∧ n ≤ 1000 ∧
        (∀ x ∈ names, scope.names.lookup x = some .local) ∧ St 0 s₂.heap ∧ (∀ b ∈ fp, b < s₂.heap.objs.size) ∧ J 0 [] ∧
        (∀ C i bs ys m (s' : Shared), i < n → B i bs → J i ys → s'.heap.Ns C m → (∀ p ∈ bs, m p.1 = some p.2) → (∀ b o, b ∉ wr → s₂.heap.get? b = some o → s'.heap.get? b = some o) →
          wpAny (model prog w) A (tests ifs (compEnvC scope cl C env)) (fun ok s₁ => if ok = true then wpAny (model prog w) A (eval elt (compEnvC scope cl C env)) (fun y s'' => (∃ h'' tk, s'' = { s' with heap := h'', toks := tk }) ∧ (∀ b o, s'.heap.get? b = some o → s''.heap.get? b = some o) ∧ J (i + 1) (ys ++ [y])) (fun _ _ => False) s₁
            else (∃ h'' tk, s₁ = { s' with heap := h'', toks := tk }) ∧ (∀ b o, s'.heap.get? b = some o → s₁.heap.get? b = some o) ∧ J (i + 1) ys) (fun _ _ => False) s') ∧
        (∀ D h' tk ys c, D = s₂.heap.objs.size → h'.get? D = some (lst ys c) → J n ys → (∀ b o, b ∉ wr → s₂.heap.get? b = some o → h'.get? b = some o) → Q (.ref D) { s₂ with heap := h', toks := tk })) E s₁) E s)
    (hs : ∀ x, foldedSetIterable iter env x = pure x := by intro _; rfl) :
    wpAny (model prog w) A (eval (.ListComp elt [⟨target, iter, ifs, 0⟩] scope pos) env) Q E s := by
  rw [eval_ListComp]
  refine wpAny_comprehension_free (use := none) rfl hs hclos hkind hnames (wpAny_mono h (fun xv s₁ h₁ => wpAny_mono h₁ (fun it s₂ h₂ => ?_) fun _ _ e => e) fun _ _ e => e)
  obtain ⟨I, fp, wr, n, names, B, St, J, rfl, W, hn, hx, hst, hfp, h0, turn, hfin⟩ := h₂
  refine comp_block (RR := fun acc C => compPost (model prog w) A E none Q acc C) W hn (fun C i ys h => J i ys) (fun C i ys h h' j hk => j) hcell hkind hx hst hfp (fun C h' _ _ => h0)
    (fun C i bs ys m s' hC hi hb j hns hm hk => turn C i bs ys m s' hi hb j hns hm hk) ?_
  intro D C h' tk m' ys c hD hC hns hl j _ hk
  refine ⟨m', hns, fun h'' hs'' => hfin D h'' tk ys c hD (hs''.extBut _ _ (by rw [hD, hC]; exact Nat.ne_of_lt (Nat.lt_succ_self _)) hl) j fun b o q e => hs''.extBut b o (by rw [hC]; exact Nat.ne_of_lt (Nat.lt_succ_of_lt (Heap.lt_size e))) (hk b o q e)⟩

/-- a list comprehension bound to a local name -/
theorem AComp {elt target iter : PySem.Expr} {y : Str} {py : Pos} {scope : Scope} {cl : List (Str × Addr)} {pos spos : Pos} {Q : Flow → Shared → Prop}
    (hsw : swapsWith (.ListComp elt [⟨target, iter, [], 0⟩] scope pos) (some (.Name y py)) spos.line env = pure true)
    (hclos : closureFor scope env = pure cl) (hcell : ∀ z ∈ scope.names, z.2 ≠ .cell) (hkind : scope.kind = .function)
    (hnames : ∀ z ∈ scope.names, z.2 = .local → scope.names.lookup z.1 = some .local)
    (hy : env.kindOf y = some .local) (hp : (env.scope.kind == .class || (env.scope.kind == .module && env.locals != env.globals)) = false)
    (h : wpAny (model prog w) A (eval iter env) (fun xv s₁ => wpAny (model prog w) A (pyIter xv) (fun it s₂ => ∃ m, s₂.heap.Ns env.locals m ∧ CGo prog w A env elt target scope cl [env.locals] it s₂ fun D h' tk =>
      h'.Ns env.locals (fun z => if z = y then some (.ref D) else m z) → Q .next { s₂ with heap := h', toks := tk }) E s₁) E s)
    (hs : ∀ x, foldedSetIterable iter env x = pure x := by intro _; rfl) :
    wpAny (model prog w) A (exec (.Assign [.Name y py] (.ListComp elt [⟨target, iter, [], 0⟩] scope pos) spos) env) Q E s := by
  rw [exec_Assign_Name_used _ _ _ _ hsw]
  refine wpAny_bind (wpAny_standAt (wpAny_bind ?_))
  show wpAny _ A (do let _ ← comprehension (.ListComp elt [⟨target, iter, [], 0⟩] scope pos) scope env _ (newList []) false (eval iter env) (some (assign (.Name y py) env))) _ _ s
  refine wpAny_bind (wpAny_mono (wpAny_comprehension_free (use := some (assign (.Name y py) env)) (Q := fun _ s' => Q .next s') rfl hs hclos hkind hnames
    (wpAny_mono h (fun xv s₁ h₁ => wpAny_mono h₁ (fun it s₂ h₂ => ?_) fun _ _ e => e) fun _ _ e => e)) (fun _ s' hq => wpAny_pure (wpAny_pure hq)) fun _ _ e => e)
  obtain ⟨m, hm, h₂⟩ := h₂
  have hLs : env.locals < s₂.heap.objs.size := hm.lt
  refine CGo.run (RR := fun acc C => compPost (model prog w) A E (some (assign (.Name y py) env)) (fun _ s' => Q .next s') acc C) h₂ hcell hkind (fun b hb => by rw [List.mem_singleton.mp hb]; exact hLs) ?_
  intro D C wr h' tk m' ys c hD hC hn hl hk hew fin
  have hLC : env.locals ≠ C := by rw [hC]; exact Nat.ne_of_lt (Nat.lt_succ_of_lt hLs)
  have hn₁ : h'.Ns env.locals m := hm.at' fun o e => hk _ o (hew _ (.head _)) e
  show wpAny _ A (assign (.Name y py) env (.ref D)) _ _ _
  refine wpAny_assign_Name (wpAny_storeName_local hy hn₁ (fun h₂ hn₂ hs₂ => ?_) hp)
  refine ⟨m', hn.sameBut hs₂ (Ne.symm hLC), fun h₃ hs₃ => ?_⟩
  refine fin h₃ _ (fun b o q q2 e => hs₃.extBut b o ?_ (hs₂.extBut b o (fun z => q2 (List.mem_singleton.mpr z)) e)) (hn₂.sameBut hs₃ hLC)
  rcases q with q | q | q
  · rw [hC]; exact Nat.ne_of_lt (Nat.lt_succ_of_lt q)
  · rw [q, hD, hC]; exact Nat.ne_of_lt (Nat.lt_succ_self _)
  · exact Nat.ne_of_gt q

/-- the same, with what is left of the iterator -/
theorem ACompZ {elt target iter : PySem.Expr} {y : Str} {py : Pos} {scope : Scope} {cl : List (Str × Addr)} {pos spos : Pos} {Q : Flow → Shared → Prop}
    (hsw : swapsWith (.ListComp elt [⟨target, iter, [], 0⟩] scope pos) (some (.Name y py)) spos.line env = pure true)
    (hclos : closureFor scope env = pure cl) (hcell : ∀ z ∈ scope.names, z.2 ≠ .cell) (hkind : scope.kind = .function)
    (hnames : ∀ z ∈ scope.names, z.2 = .local → scope.names.lookup z.1 = some .local)
    (hy : env.kindOf y = some .local) (hp : (env.scope.kind == .class || (env.scope.kind == .module && env.locals != env.globals)) = false)
    (h : wpAny (model prog w) A (eval iter env) (fun xv s₁ => wpAny (model prog w) A (pyIter xv) (fun it s₂ =>
      ∃ (m : Str → Option Value) (I : Addr) (fp wr : List Addr) (n : Nat) (names : List Str) (B : Nat → List (Str × Value) → Prop) (St : Nat → Heap → Prop) (Z : Heap → Prop) (P : Addr → Nat → Value → Heap → Prop), s₂.heap.Ns env.locals m ∧ it = .ref I ∧ Drw prog w A I target names fp wr n B St Z ∧ n ≤ 1000 ∧ env.locals ∉ fp ∧
        (∀ h h', Z h → (∀ b ∈ fp, ∀ o, h.get? b = some o → h'.get? b = some o) → Z h') ∧
        (∀ C i v h h', P C i v h → (∀ b o, (b < s₂.heap.objs.size ∨ C < b) → b ∉ wr → b ≠ env.locals → h.get? b = some o → h'.get? b = some o) → P C i v h') ∧
        (∀ x ∈ names, scope.names.lookup x = some .local) ∧ St 0 s₂.heap ∧ (∀ b ∈ fp, b < s₂.heap.objs.size) ∧
        (∀ C i bs m (s' : Shared), C = s₂.heap.objs.size + 1 → i < n → B i bs → s'.heap.Ns C m → (∀ p ∈ bs, m p.1 = some p.2) → (∀ b o, b ∉ wr → s₂.heap.get? b = some o → s'.heap.get? b = some o) → C < s'.heap.objs.size →
          wpAny (model prog w) A (eval elt (compEnvC scope cl C env)) (fun y s'' => (∃ h'' tk, s'' = { s' with heap := h'', toks := tk }) ∧ (∀ b o, s'.heap.get? b = some o → s''.heap.get? b = some o) ∧ P C i y s''.heap) (fun _ _ => False) s') ∧
        (∀ D C h' tk ys c, D = s₂.heap.objs.size → C = s₂.heap.objs.size + 1 → h'.get? D = some (lst ys c) → ys.length = n → (∀ j v, ys[j]? = some v → P C j v h') → Z h' →
          (∀ b o, b ∉ wr → b ≠ env.locals → s₂.heap.get? b = some o → h'.get? b = some o) → h'.Ns env.locals (fun z => if z = y then some (.ref D) else m z) → Q .next { s₂ with heap := h', toks := tk })) E s₁) E s)
    (hs : ∀ x, foldedSetIterable iter env x = pure x := by intro _; rfl) :
    wpAny (model prog w) A (exec (.Assign [.Name y py] (.ListComp elt [⟨target, iter, [], 0⟩] scope pos) spos) env) Q E s := by
  rw [exec_Assign_Name_used _ _ _ _ hsw]
  refine wpAny_bind (wpAny_standAt (wpAny_bind ?_))
  show wpAny _ A (do let _ ← comprehension (.ListComp elt [⟨target, iter, [], 0⟩] scope pos) scope env _ (newList []) false (eval iter env) (some (assign (.Name y py) env))) _ _ s
  refine wpAny_bind (wpAny_mono (wpAny_comprehension_free (use := some (assign (.Name y py) env)) (Q := fun _ s' => Q .next s') rfl hs hclos hkind hnames
    (wpAny_mono h (fun xv s₁ h₁ => wpAny_mono h₁ (fun it s₂ h₂ => ?_) fun _ _ e => e) fun _ _ e => e)) (fun _ s' hq => wpAny_pure (wpAny_pure hq)) fun _ _ e => e)
  obtain ⟨m, I, fp, wr, n, names, B, St, Z, P, hm, rfl, W, hn, hLf, Zf, Pf, hx, hst, hfp, turn, hfin⟩ := h₂
  have hLs : env.locals < s₂.heap.objs.size := hm.lt
  have hLw : env.locals ∉ wr := fun q => hLf (W.sub _ q)
  refine comp_block (RR := fun acc C => compPost (model prog w) A E (some (assign (.Name y py) env)) (fun _ s' => Q .next s') acc C) W hn (fun C i ys h => ys.length = i ∧ ∀ j v, ys[j]? = some v → P C j v h)
    (fun C i ys h h' j hk => ⟨j.1, fun k v e => Pf C k v h h' (j.2 k v e) fun b o q1 q2 _ e => hk b o q1 q2 e⟩) hcell hkind hx hst hfp (fun C h' _ _ => ⟨rfl, fun j v e => by simp at e⟩)
    (fun C i bs ys m s' hC hi hb j hns hm hk => wpAny_tests_nil (wpAny_mono (turn C i bs m s' hC hi hb hns hm hk hns.lt) (fun y s'' h => ⟨h.1, h.2.1, by simp [j.1], fun k v e => ?_⟩) fun _ _ x => x)) ?_
  · have hl := j.1
    replace j := j.2
    by_cases hki : k < ys.length
    · rw [List.getElem?_append_left hki] at e
      exact Pf C k v _ _ (j k v e) fun b o _ _ _ e => h.2.1 b o e
    · rw [List.getElem?_append_right (by exact om220q _ _ hki)] at e
      by_cases h0 : k - ys.length = 0
      · rw [h0] at e
        obtain rfl : k = i := by exact om397q _ _ _ hl hki h0
        simp only [List.getElem?_cons_zero, Option.some.injEq] at e
        exact e ▸ h.2.2
      · rw [List.getElem?_eq_none (by simp; exact om398q _ _ h0)] at e; cases e
  · intro D C h' tk m' ys c hD hC hns hl j hz hk
    have hLC : env.locals ≠ C := by rw [hC]; exact Nat.ne_of_lt (Nat.lt_succ_of_lt hLs)
    have hLD : D ≠ env.locals := by rw [hD]; exact Nat.ne_of_gt hLs
    have hn₁ : h'.Ns env.locals m := hm.at' fun o e => hk _ o hLw e
    show wpAny _ A (assign (.Name y py) env (.ref D)) _ _ _
    refine wpAny_assign_Name (wpAny_storeName_local hy hn₁ (fun h₂ hn₂ hs₂ => ?_) hp)
    refine ⟨m', hns.sameBut hs₂ (Ne.symm hLC), fun h₃ hs₃ => ?_⟩
    have ne : ∀ b, (b < s₂.heap.objs.size ∨ b = D ∨ C < b) → b ≠ C := by
      intro b q
      rcases q with q | q | q
      · rw [hC]; exact Nat.ne_of_lt (Nat.lt_succ_of_lt q)
      · rw [q, hD, hC]; exact Nat.ne_of_lt (Nat.lt_succ_self _)
      · exact Nat.ne_of_gt q
    have up : ∀ b o, (b < s₂.heap.objs.size ∨ b = D ∨ C < b) → b ≠ env.locals → h'.get? b = some o → h₃.get? b = some o := fun b o q q2 e => hs₃.extBut b o (ne b q) (hs₂.extBut b o q2 e)
    exact hfin D C h₃ _ ys c hD hC (up _ _ (.inr (.inl rfl)) hLD hl) j.1 (fun k v e => Pf C k v _ _ (j.2 k v e) fun b o q _ q2 e => up b o (q.elim .inl fun q => .inr (.inr q)) q2 e) (Zf _ _ hz fun b hb o e => up b o (.inl (hfp b hb)) (fun q => hLf (q ▸ hb)) e)
      (fun b o q q2 e => up b o (.inl (Heap.lt_size e)) q2 (hk b o q e)) (hn₂.sameBut hs₃ hLC)

/-- a list comprehension bound to a name with a cell -/
theorem CComp {elt target iter : PySem.Expr} {y : Str} {py : Pos} {scope : Scope} {cl : List (Str × Addr)} {pos spos : Pos} {Q : Flow → Shared → Prop} {cc : Addr}
    (hsw : swapsWith (.ListComp elt [⟨target, iter, [], 0⟩] scope pos) (some (.Name y py)) spos.line env = pure true)
    (hclos : closureFor scope env = pure cl) (hcell : ∀ z ∈ scope.names, z.2 ≠ .cell) (hkind : scope.kind = .function)
    (hnames : ∀ z ∈ scope.names, z.2 = .local → scope.names.lookup z.1 = some .local)
    (hk₀ : env.scope.kind = .function) (hy : env.kindOf y = some .cell) (hcc : env.cells.lookup y = some cc)
    (h : wpAny (model prog w) A (eval iter env) (fun xv s₁ => wpAny (model prog w) A (pyIter xv) (fun it s₂ => ∃ o v₀, s₂.heap.get? cc = some o ∧ o.data = .cell v₀ ∧ CGo prog w A env elt target scope cl [cc] it s₂ fun D h' tk =>
      ∀ o', h'.get? cc = some o' → o'.data = .cell (some (.ref D)) → Q .next { s₂ with heap := h', toks := tk }) E s₁) E s)
    (hs : ∀ x, foldedSetIterable iter env x = pure x := by intro _; rfl) :
    wpAny (model prog w) A (exec (.Assign [.Name y py] (.ListComp elt [⟨target, iter, [], 0⟩] scope pos) spos) env) Q E s := by
  rw [exec_Assign_Name_used _ _ _ _ hsw]
  refine wpAny_bind (wpAny_standAt (wpAny_bind ?_))
  show wpAny _ A (do let _ ← comprehension (.ListComp elt [⟨target, iter, [], 0⟩] scope pos) scope env _ (newList []) false (eval iter env) (some (assign (.Name y py) env))) _ _ s
  refine wpAny_bind (wpAny_mono (wpAny_comprehension_free (use := some (assign (.Name y py) env)) (Q := fun _ s' => Q .next s') rfl hs hclos hkind hnames
    (wpAny_mono h (fun xv s₁ h₁ => wpAny_mono h₁ (fun it s₂ h₂ => ?_) fun _ _ e => e) fun _ _ e => e)) (fun _ s' hq => wpAny_pure (wpAny_pure hq)) fun _ _ e => e)
  obtain ⟨o, v₀, ho, hd, h₂⟩ := h₂
  have hLs : cc < s₂.heap.objs.size := Heap.lt_size ho
  refine CGo.run (RR := fun acc C => compPost (model prog w) A E (some (assign (.Name y py) env)) (fun _ s' => Q .next s') acc C) h₂ hcell hkind (fun b hb => by rw [List.mem_singleton.mp hb]; exact hLs) ?_
  intro D C wr h' tk m' ys c hD hC hn hl hk hew fin
  have hLC : cc ≠ C := by rw [hC]; exact Nat.ne_of_lt (Nat.lt_succ_of_lt hLs)
  have ho₁ : h'.get? cc = some o := hk _ o (hew _ (.head _)) ho
  show wpAny _ A (assign (.Name y py) env (.ref D)) _ _ _
  refine wpAny_assign_Name (wpAny_storeName_cell hk₀ hy hcc ⟨o, ho₁, hd⟩ fun h₂ hv₂ hs₂ => ?_)
  obtain ⟨o', ho', hd'⟩ := hv₂
  refine ⟨m', hn.sameBut hs₂ (Ne.symm hLC), fun h₃ hs₃ => ?_⟩
  refine fin h₃ _ (fun b o q q2 e => hs₃.extBut b o ?_ (hs₂.extBut b o (fun z => q2 (List.mem_singleton.mpr z)) e)) o' (hs₃.extBut _ _ hLC ho') hd'
  rcases q with q | q | q
  · rw [hC]; exact Nat.ne_of_lt (Nat.lt_succ_of_lt q)
  · rw [q, hD, hC]; exact Nat.ne_of_lt (Nat.lt_succ_self _)
  · exact Nat.ne_of_gt q
end

section
variable {M : Model} {A : Around} {E : Value → Shared → Prop} {s : Shared} {w : World} {mg mb : Str → Option Value} {g : Heap} {env : Env} {x : Str} {pos : Pos} {v : Value} {Q : Value → Shared → Prop} {m : Str → Option Value}
theorem nm_L (hn : s.heap.Ns env.locals m) (hv : m x = some v) (h : Q v s) (hk : env.scope.kind = .function := by rfl) (hx : env.kindOf x = some .local := by rfl) (hd : (x == ("__debug__" : Str)) = false := by decide) :
    wpAny M A (eval (.Name x pos) env) Q E s := wpAny_Name (wpAny_loadName_local hk hx hn hv h) hd
theorem nm_K (C : Cx w mg mb g) (S : g.StaysIn s.heap) (e : nsIn (hd.heap_1 w.params) mainGlobals x = some (some v)) (h : Q v s) (hg : env.globals = mainGlobals := by rfl)
    (hk : env.scope.kind = .function := by rfl) (hx : env.kindOf x = some .globalImplicit := by rfl) (hd : (x == ("__debug__" : Str)) = false := by decide) :
    wpAny M A (eval (.Name x pos) env) Q E s := PySem.Calls.Name_function_global hk hx (PySem.Calls.loadGlobal_global (env := env) (show s.heap.Ns env.globals mg from hg ▸ C.T.g.keeps S) (mg_of C.K C.T.g e) h) hd
theorem nm_B (C : Cx w mg mb g) (S : g.StaysIn s.heap) (e : nsIn (hd.heap_1 w.params) mainGlobals x = some none) (hv : bootBuiltins x = some v) (hn : x ≠ "__name__") (h : Q v s) (hg : env.globals = mainGlobals := by rfl) (hb : env.builtins = builtinsNs := by rfl)
    (hk : env.scope.kind = .function := by rfl) (hx : env.kindOf x = some .globalImplicit := by rfl) (hd : (x == ("__debug__" : Str)) = false := by decide) :
    wpAny M A (eval (.Name x pos) env) Q E s :=
  PySem.Calls.Name_function_global hk hx (PySem.Calls.loadGlobal_builtin (env := env) (show s.heap.Ns env.globals mg from hg ▸ C.T.g.keeps S) (mg_none_of C.K C.T.g e) (show s.heap.Ns env.builtins mb from hb ▸ C.T.b.keeps S) ((C.T.builtins x hn).trans hv) h) hd
theorem nm_C {c : Addr} {o : Obj} (hc : env.cells.lookup x = some c) (ho : s.heap.get? c = some o) (hd : o.data = .cell (some v)) (h : Q v s)
    (hk : env.scope.kind = .function := by rfl) (hx : env.kindOf x = some .cell := by rfl) (hb : (x == ("__debug__" : Str)) = false := by decide) :
    wpAny M A (eval (.Name x pos) env) Q E s := wpAny_Name (wpAny_loadName_cell hk hx hc ⟨o, ho, hd⟩ h) hb
end
end Mine
end
section
open PySem PySem.W PyProof.Rows
set_option Elab.async false
set_option linter.all false
set_option maxRecDepth 100000
namespace Mine
theorem fill13 (w : World) (g : Heap) : (hd.heap_1 w.params).In g → PySem.Challenge.rw_mr0283_01.row.prog = PySem.Challenge.rw_mr0283_01.row.prog := by
  k_fill
  intro _; rfl

/-- the signs of a text -/
abbrev raw (x : Str) : List Nat := x.cps.toList
theorem raw_len (x : Str) : x.length = (raw x).length := by simp [Str.length]

theorem tail1 (x : Str) (h : 1 ≤ x.length) : raw (Txt.slice x (some 1) none) = (raw x).tail := by
  have e : PySem.Builtin.Str.strSliceIndices (some 1) none 1 x.length = PySem.Builtin.Str.strSliceIndices (some ((1 : Nat) : Int)) (some ((x.length : Nat) : Int)) 1 x.length := by
    simp only [PySem.Builtin.Str.strSliceIndices, sliceRange]
    have h2 : ¬ ((x.length : Int) < 0) := by exact om352q _
    simp [h2]
  unfold Txt.slice
  rw [e, if_neg]
  · show ((List.filterMap _ _).toArray).toList = _
    rw [StrLaws.sliced_plain x h (Nat.le_refl _), List.toList_toArray, raw_len, List.take_of_length_le (by simp), List.drop_one]
  · rw [StrLaws.strSliceIndices_plain h (Nat.le_refl _)]
    simp
    exact om353q _ h

theorem strsAre_of : ∀ {vs : List Value} {ys : List Str}, vs.length = ys.length → (∀ (j : Nat) (v : Value), vs[j]? = some v → ∃ y t, ys[j]? = some y ∧ v = .str y t) → StrsAre vs ys
  | [], [], _, _ => .nil
  | [], _ :: _, h, _ => by simp at h
  | _ :: _, [], h, _ => by simp at h
  | v :: vs, y :: ys, h, hp => by
    obtain ⟨y', t, hy, rfl⟩ := hp 0 v rfl
    simp only [List.getElem?_cons_zero, Option.some.injEq] at hy
    subst hy
    exact .cons y t (strsAre_of (by simpa using h) fun j v e => hp (j + 1) v e)

section
variable {prog : Program} {w : World} {A : Around} {E : Value → Shared → Prop} {s : Shared} {env : Env}

/-- texts out of texts -/
theorem CGo.strs {elt : PySem.Expr} {x : Str} {px : Pos} {scope : Scope} {cl : List (Str × Addr)} {I l : Addr} {vs : List Value} {ys : List Str} {fin : Addr → Heap → Tok → Prop} (f : Str → Str) (hh : A.handled = none)
    (hit : s.heap.IsListIter I l 0) (hl : s.heap.IsList l vs.toArray) (hne : l ≠ I) (hi : StrsAre vs ys) (hn : ys.length ≤ 1000) (hx : scope.names.lookup x = some .local)
    (turn : ∀ C y t m (s' : Shared), C = s.heap.objs.size + 1 → y ∈ ys → s'.heap.Ns C m → m x = some (.str y t) → (∀ b o, b ≠ I → s.heap.get? b = some o → s'.heap.get? b = some o) →
      wpAny (model prog w) A (eval elt (compEnvC scope cl C env)) (fun v s'' => (∃ h'' tk, s'' = { s' with heap := h'', toks := tk }) ∧ (∀ b o, s'.heap.get? b = some o → s''.heap.get? b = some o) ∧ ∃ y' t', v = .str y' t' ∧ raw y' = raw (f y)) (fun _ _ => False) s')
    (hfin : ∀ D h' tk vs' ys' c, D = s.heap.objs.size → h'.get? D = some (lst vs' c) → StrsAre vs' ys' → ys'.map raw = ys.map (fun y => raw (f y)) → (∀ b o, b ≠ I → s.heap.get? b = some o → h'.get? b = some o) → fin D h' tk) :
    CGo prog w A env elt (.Name x px) scope cl [] (.ref I) s fin := by
  have hlen := hi.len_eq
  refine ⟨I, [I, l], [I], vs.toArray.size, [x], _, _, fun C j v h => ∃ y' t' y, ys[j]? = some y ∧ v = .str y' t' ∧ raw y' = raw (f y), rfl, Drw.name (Walks.list hh I l hne vs.toArray), ?_, ?_, ?_, ?_, ⟨hit, hl⟩, ?_, ?_, ?_⟩
  · rw [List.size_toArray]; exact om354q _ _ hn hlen
  · intro b hb; cases hb
  · intro C i v h h' hp _; exact hp
  · intro y hy; rw [List.mem_singleton.mp hy]; exact hx
  · intro b hb
    simp only [List.mem_cons, List.not_mem_nil, or_false] at hb
    rcases hb with rfl | rfl
    · obtain ⟨_, e, _⟩ := hit; exact Heap.lt_size e
    · obtain ⟨_, e, _⟩ := hl; exact Heap.lt_size e
  · rintro C i bs m s' hC hi' ⟨v, hv, rfl⟩ hns hm hk hs'
    rw [List.getElem?_toArray] at hv
    obtain ⟨y, t, rfl, hy⟩ := hi.item i v hv
    refine wpAny_mono (turn C y t m s' hC (List.mem_of_getElem? hy) hns (hm _ (.head _)) fun b o hb e => hk b o (fun q => hb (List.mem_singleton.mp q)) e) (fun v s'' h => ⟨h.1, h.2.1, ?_⟩) fun _ _ z => z
    obtain ⟨y', t', e1, e2⟩ := h.2.2
    exact ⟨y', t', y, hy, e1, e2⟩
  · intro D C h' tk ys' c hD hC hl' hyl hp hk
    have hyl' : ys'.length = ys.length := by rw [hyl, List.size_toArray]; exact om355q _ _ hlen
    let st : Value → Str := fun v => match v with | .str y _ => y | _ => ⟨#[]⟩
    refine hfin D h' tk ys' (ys'.map st) c hD hl' (strsAre_of (by simp) fun j v e => ?_) ?_ fun b o hb e => hk b o (fun q => hb (List.mem_singleton.mp q)) (by simp) e
    · obtain ⟨y', t', y, _, rfl, _⟩ := hp j v e
      exact ⟨y', t', by rw [List.getElem?_map, e]; rfl, rfl⟩
    · apply List.ext_getElem?
      intro j
      rw [List.map_map, List.getElem?_map, List.getElem?_map]
      by_cases hj : j < ys'.length
      · obtain ⟨y', t', y, e1, e2, e3⟩ := hp j _ (List.getElem?_eq_getElem hj)
        rw [List.getElem?_eq_getElem hj, e1, e2]
        simp [st, e3]
      · rw [List.getElem?_eq_none (by exact om220q _ _ hj), List.getElem?_eq_none (by exact om349q _ _ _ hyl' hj)]; rfl

/-- word[1:] -/
theorem tail_str {value : PySem.Expr} {p : Pos} {x : Str} {t u : Tok} {Q : Value → Shared → Prop} (hx : 1 ≤ x.length) (hsz : x.length ≤ 1000)
    (h : ∀ h' y t' k, (∀ b o, s.heap.get? b = some o → h'.get? b = some o) → raw y = (raw x).tail → Q (.str y t') { s with heap := h', toks := k })
    (ht : ∀ r, letTemporaryGo value (.str x t) r = pure () := by intro _; with_unfolding_all rfl) :
    wpAny (model prog w) A (subscriptTail value (.Slice (some (.Constant (.int 1) 0 p)) none none p') (.str x t) (.ref s.heap.objs.size)) Q E { s with heap := s.heap.push { cls := .type "slice", data := .fields #[.int 1 u, .none, .none] } } :=
  tail_of_ItemOn (SBH.sliceItem_sn (P := fun h' => ∀ b o, s.heap.get? b = some o → h'.get? b = some o) (fun h ob hp b o e => Heap.get?_push_of_some _ (hp b o e)) (fun b o e => e) (fun h' t' k hp => h h' _ t' k hp (tail1 x hx)) (by rw [sizeLine_eq]; exact om333q _ hsz)) (by with_unfolding_all rfl) ht
end
end Mine
end
section
open PySem PySem.W PyProof.Rows
set_option Elab.async false
set_option linter.all false
set_option maxRecDepth 100000
namespace Mine
theorem fill14 (w : World) (g : Heap) : (hd.heap_1 w.params).In g → PySem.Challenge.rw_mr0283_01.row.prog = PySem.Challenge.rw_mr0283_01.row.prog := by
  k_fill
  intro _; rfl

/-- a word as the catalogue tells it -/
def toldW : List Nat → List Nat
  | [] => []
  | c :: r => if c = 95 then 123 :: r else c :: r
/-- a word as it is written -/
def wrW : List Nat → List Nat
  | [] => []
  | c :: r => (if c = 97 then 65 else if c = 98 then 66 else c) :: r
theorem toldW_cons (c : Nat) (r : List Nat) : toldW (c :: r) = if c = 95 then 123 :: r else c :: r := rfl
theorem raw_append (x y : Str) : raw (x ++ y) = raw x ++ raw y := by
  show (x.cps ++ y.cps).toList = _
  simp
theorem raw_mk (l : List Nat) : raw ⟨l.toArray⟩ = l := rfl
theorem sum_lens : ∀ {ys : List Str} {k : Nat}, (∀ y ∈ ys, y.length ≤ k) → (ys.map (·.length)).sum ≤ ys.length * k
  | [], _, _ => by simp
  | y :: r, k, h => by
    have h1 := h y (.head _)
    have h2 := sum_lens (ys := r) (k := k) fun y hy => h y (.tail _ hy)
    rw [List.map_cons, List.sum_cons, List.length_cons, Nat.add_mul]
    exact om356q _ _ _ _ h1 h2
theorem toldW_len (u : List Nat) : (toldW u).length = u.length := by
  cases u with
  | nil => rfl
  | cons c r => rw [toldW_cons]; split <;> rfl
theorem wrW_len (u : List Nat) : (wrW u).length = u.length := by cases u <;> rfl

theorem item0 (x : Str) (c : Nat) (r : List Nat) (h : raw x = c :: r) : Txt.item x 0 = ⟨#[c]⟩ := by
  have hl : x.length = r.length + 1 := by rw [raw_len, h]; rfl
  have e : x.cps[0]? = some c := by
    have : x.cps.toList[0]? = some c := by rw [show x.cps.toList = c :: r from h]; rfl
    simpa using this
  have e2 : seqIndex? 0 x.length = some 0 := by
    unfold seqIndex?
    rw [hl]
    simp
  unfold Txt.item Txt.charAt
  rw [e2, Option.bind_some, e]
  rfl
theorem str1_beq (c d : Nat) : ((⟨#[c]⟩ : Str) == ⟨#[d]⟩) = decide (c = d) := by
  by_cases h : c = d
  · subst h; simp
  · rw [decide_eq_false h]
    apply beq_eq_false_iff_ne.mpr
    intro e
    apply h
    injection e with e
    injection e with e
    injection e

section
variable {prog : Program} {w : World} {A : Around} {E : Value → Shared → Prop} {s : Shared} {mg mb : Str → Option Value} {g : Heap}

theorem sl_sn {e : PySem.Expr} {env : Env} {p : Pos} {Q : Value → Shared → Prop} (h : wpAny (model prog w) A (eval e env) (fun l s₁ => Q (.ref s₁.heap.objs.size) { s₁ with heap := s₁.heap.push { cls := .type "slice", data := .fields #[l, .none, .none] } }) E s) :
    wpAny (model prog w) A (eval (.Slice (some e) none none p) env) Q E s :=
  wpAny_Slice (by rw [evalPart_some, evalPart_none]; exact wpAny_mono h (fun l s₁ h₁ => wpAny_pure (wpAny_pure h₁)) fun _ _ x => x)
theorem sl_ns {e : PySem.Expr} {env : Env} {p : Pos} {Q : Value → Shared → Prop} (h : wpAny (model prog w) A (eval e env) (fun u s₁ => Q (.ref s₁.heap.objs.size) { s₁ with heap := s₁.heap.push { cls := .type "slice", data := .fields #[.none, u, .none] } }) E s) :
    wpAny (model prog w) A (eval (.Slice none (some e) none p) env) Q E s :=
  wpAny_Slice (by rw [evalPart_some, evalPart_none]; exact wpAny_pure (wpAny_mono h (fun l s₁ h₁ => wpAny_pure h₁) fun _ _ x => x))

section
variable {M : Model} {env : Env} {name : Str} {apos pos : Pos} {args : List PySem.Expr} {Q : Value → Shared → Prop}
theorem mform (h : args.all NS = true) (hl : args.length < 30) : methodCallForm args.length (backTo pos (starEach args env)) [] = true := by
  unfold methodCallForm
  have h1 := star_any h pos env
  have h2 : (backTo pos (starEach args env)).all (fun x => !x.1) = true := by
    rw [List.all_eq_true]
    intro x hx
    have := List.any_eq_false.mp h1 x hx
    simpa using this
  rw [h2]
  simp
  exact om357q _ hl
theorem MC {o : PySem.Expr} (h : ∀ pl : Sem Bool, wpAny M A (eval o env) (fun ov s₁ => wpAny M A (getMethod ov name pl) (fun fx s₂ => wpAny M A (callWith pos fx.1 fx.2 (backTo pos (starEach args env)) []) Q E s₂) E s₁) E s)
    (ha : args.all NS = true := by with_unfolding_all rfl) (hl : args.length < 30 := by decide) (hb : ∀ whole, attributeBase o name env whole = whole := by intro _; with_unfolding_all rfl) (hp : (apos.endLine == pos.line) = true := by decide) :
    wpAny M A (eval (.Call (.Attribute o name apos) args [] pos) env) Q E s := by
  refine MethodCall_ (pl := do return (← importBound o env).getD true) (h _) ?_
  rw [arm_eval_Call, hb]
  unfold methodCall
  have e1 : methodCallForm (args.length + ([] : List Keyword).length) (backTo pos (starEach args env)) (backToKw pos (keywordEach [] env)) = true := mform ha hl
  have e2 : methodCallPos true o env apos pos = pure pos := by
    unfold methodCallPos
    rw [hp]; rfl
  rw [e1, e2]
  rfl
end

set_option maxHeartbeats 1000000 in
theorem told_call {l : Addr} {vs : List Value} {ys : List Str} {n : Nat} {Q : Value → Shared → Prop} (C : Cx w mg mb g) (S : g.StaysIn s.heap) (hl : s.heap.get? l = some (lst vs n)) (hi : StrsAre vs ys) (hne : ∀ y ∈ ys, 1 ≤ y.length)
    (hlen : ys.length ≤ 100) (hsz : ∀ y ∈ ys, y.length ≤ 100) (hh : A.handled = none) (hroom : A.depth < recursionLimit)
    (hQ : ∀ h' tk y t', s.heap.StaysIn h' → raw y = joinL (ys.map fun y => toldW (raw y)) → Q (.str y t') { s with heap := h', toks := tk }) :
    wpAny (model prog w) A (call (.ref 126) [.ref l]) Q E s := by
  refine enter0 (binds := [(Str.ofString "words", .ref l)]) C S (by k_is) (by k_is) (by exact om271q _ _ hroom) (BindsTo.of_eq rfl) (locs rfl) ?_ rfl rfl rfl (by decide)
  intro L h₁ tk C' F N
  obtain ⟨m, F, e1⟩ : ∃ m, Fr s.heap L h₁ m ∧ m (Str.ofString "words") = some (.ref l) := ⟨_, F, rfl⟩
  with_reducible refine wpAny_execs_cons (wpAny_Return_some (MC fun pl => ?_))
  refine wpAny_Constant_str (GM.join (cwm (sm ?_)))
  dsimp only
  have hl₁ : h₁.get? l = some (lst vs n) := F.keep _ _ hl
  refine LComp (cl := []) rfl (by decide) rfl (by decide) (ld F e1 ?_)
  refine wpAny_pyIter_list (items := vs.toArray) (PySem.IsL.isList (n := n) hl₁) ?_
  dsimp only
  refine CGo.strs (fun y => ⟨(toldW (raw y)).toArray⟩) hh (l := l) (vs := vs) (ys := ys) ⟨_, Heap.get?_push_size _ rfl, rfl, rfl⟩ (PySem.IsL.isList (n := n) (Heap.get?_push_of_some _ hl₁)) (Nat.ne_of_lt (Heap.lt_size hl₁)) hi (by exact om340q _ hlen) rfl ?_ ?_
  · intro C y t m' s' hC hy hns hm hk
    have hy1 := hne y hy
    have hy2 := hsz y hy
    obtain ⟨c, r, hcr⟩ : ∃ c r, raw y = c :: r := by
      cases hr : raw y with
      | nil => rw [raw_len, hr] at hy1; simp at hy1
      | cons c r => exact ⟨c, r, rfl⟩
    refine IfExp_ (wpAny_isTrue_Compare1 (Subscript_ (nm_L hns hm (cI fun t0 tk0 => item_str (by decide) (by exact om358q _) (by exact om359q _ hy1) (fun _ => wpAny_Constant_str (eq_str (wpAny_truthy_bool ?_)))))))
    rw [item0 y c r hcr, show Str.ofString "_" = ⟨#[95]⟩ from by decide, str1_beq]
    by_cases hc : c = 95
    · rw [decide_eq_true hc, if_pos rfl]
      refine wpAny_BinOp (wpAny_Constant_str (Subscript_ (nm_L hns hm (sl_sn (cI fun t1 tk1 => ?_)))))
      refine tail_str hy1 (by exact om340q _ hy2) fun h' z t' k hk' hz => ?_
      refine add_str (fun t'' tk'' => ⟨⟨_, _, rfl⟩, fun b o e => hk' b o e, _, _, rfl, ?_⟩) ?_
      · show raw (Str.ofString "{" ++ z) = (toldW (raw y)).toArray.toList
        rw [raw_append, hz, hcr, List.toList_toArray, toldW_cons, if_pos hc]
        rfl
      · have h2 : z.length = (raw y).tail.length := by rw [raw_len, hz]
        have h3 : y.length = (raw y).length := raw_len y
        rw [List.length_tail] at h2
        have h4 : (Str.ofString "{").length = 1 := by decide
        rw [sizeLine_eq]
        exact om360q _ _ _ _ hy2 h2 h3 h4
    · rw [decide_eq_false hc, if_neg (by decide)]
      refine nm_L hns hm ⟨⟨_, _, rfl⟩, fun b o e => e, _, _, rfl, ?_⟩
      show raw y = (toldW (raw y)).toArray.toList
      rw [hcr, List.toList_toArray, toldW_cons, if_neg hc]
  · intro D h' tk' vs' ys' c hD hl' hi' hraw hk
    refine spliced_none ?_
    refine join_listW (PySem.IsL.isList (n := c) hl') hi' (by decide) ?_ fun t' k => ?_
    · have e1 : ys'.length = ys.length := by simpa using congrArg List.length hraw
      have e2 : ∀ y ∈ ys', y.length ≤ 100 := by
        intro y hy
        have : raw y ∈ ys.map (fun y => raw (⟨(toldW (raw y)).toArray⟩ : Str)) := by rw [← hraw]; exact List.mem_map_of_mem hy
        obtain ⟨u, hu, he⟩ := List.mem_map.mp this
        rw [raw_len, ← he, raw_mk, toldW_len, ← raw_len]
        exact hsz u hu
      have := sum_lens e2
      exact om361q _ _ _ hlen e1 this
    · refine hQ h' _ _ _ (fun b o e => hk b o (Nat.ne_of_lt (Heap.lt_size (F.keep b o e))) (Heap.get?_push_of_some _ (F.keep b o e))) ?_
      rw [show Txt.join (Str.ofString " ") ys' = Str.join (Str.ofString " ") ys' from PySem.StrLaws.glued_eq_join _ _]
      rw [show raw (Str.join (Str.ofString " ") ys') = joinL (ys'.map raw) from join_raw _ (by decide) _, hraw]

/-- a table of texts at a -/
theorem tab_of {D : List (PyData × PyData)} {a : Addr} {o : Obj} {h : Heap} (ha : 1 < a) (ho : h.get? a = some o) (hT : TabObj (strKind prog w) PyData.str D o) : StrTab prog w h a D := by
  obtain ⟨kvs, h1, h2⟩ := hT
  exact TabAt.ofObj (beq_false_of_ne (Nat.ne_of_gt ha)) ho h1 h2

theorem Cx.big (C : Cx w mg mb g) (S : g.StaysIn s.heap) : 1 < s.heap.objs.size := by
  have := (C.T.g.keeps S).lt
  have h2 : (1 : Nat) ≤ mainGlobals := by decide
  exact Nat.lt_of_le_of_lt h2 this

theorem look2 {c p q P R : Nat} {v : Value} (h : PyProof.V.Flat v ((PySem.Spec.lookup (.str ⟨#[c]⟩) [(.str ⟨#[p]⟩, .str ⟨#[P]⟩), (.str ⟨#[q]⟩, .str ⟨#[R]⟩)]).getD (.str ⟨#[c]⟩))) :
    ∃ u tu, v = .str u tu ∧ u = ⟨#[if c = p then P else if c = q then R else c]⟩ := by
  have key : (PySem.Spec.lookup (.str ⟨#[c]⟩) [(.str ⟨#[p]⟩, .str ⟨#[P]⟩), (.str ⟨#[q]⟩, .str ⟨#[R]⟩)]).getD (.str ⟨#[c]⟩) = .str ⟨#[if c = p then P else if c = q then R else c]⟩ := by
    have inj : ∀ a b : Nat, ((⟨#[a]⟩ : Str) = ⟨#[b]⟩) = (b = a) := fun a b => by
      apply propext
      constructor
      · intro e; injection e with e; injection e with e; injection e with e; exact e.symm
      · intro e; rw [e]
    simp only [PySem.Spec.lookup, PyProof.V.same_str, inj]
    by_cases h1 : c = p
    · rw [decide_eq_true h1, if_pos rfl, if_pos h1]; rfl
    · rw [decide_eq_false h1, if_neg (by decide), if_neg h1]
      by_cases h2 : c = q
      · rw [decide_eq_true h2, if_pos rfl, if_pos h2]; rfl
      · rw [decide_eq_false h2, if_neg (by decide), if_neg h2]; rfl
  rw [key] at h
  obtain ⟨t, rfl⟩ := PyProof.V.Flat.str_inv h
  exact ⟨_, t, rfl, rfl⟩

set_option maxHeartbeats 1000000 in
theorem written_call {l : Addr} {vs : List Value} {ys : List Str} {n : Nat} {Q : Value → Shared → Prop} (C : Cx w mg mb g) (S : g.StaysIn s.heap) (hl : s.heap.get? l = some (lst vs n)) (hi : StrsAre vs ys) (hne : ∀ y ∈ ys, 1 ≤ y.length)
    (hlen : ys.length ≤ 100) (hsz : ∀ y ∈ ys, y.length ≤ 100) (hh : A.handled = none) (hroom : A.depth < recursionLimit)
    (hQ : ∀ h' tk y t', s.heap.StaysIn h' → raw y = joinL (ys.map fun y => wrW (raw y)) → Q (.str y t') { s with heap := h', toks := tk }) :
    wpAny (model prog w) A (call (.ref 131) [.ref l]) Q E s := by
  refine enter0 (binds := [(Str.ofString "words", .ref l)]) C S (by k_is) (by k_is) (by exact om271q _ _ hroom) (BindsTo.of_eq rfl) (locs rfl) ?_ rfl rfl rfl (by decide)
  intro L h₁ tk C' F N
  obtain ⟨m, F, e1⟩ : ∃ m, Fr s.heap L h₁ m ∧ m (Str.ofString "words") = some (.ref l) := ⟨_, F, rfl⟩
  with_reducible refine wpAny_execs_cons (wpAny_Return_some (MC fun pl => ?_))
  refine wpAny_Constant_str (GM.join (cwm (sm ?_)))
  dsimp only
  have hl₁ : h₁.get? l = some (lst vs n) := F.keep _ _ hl
  refine LComp (cl := []) rfl (by decide) rfl (by decide) (ld F e1 ?_)
  refine wpAny_pyIter_list (items := vs.toArray) (PySem.IsL.isList (n := n) hl₁) ?_
  dsimp only
  refine CGo.strs (fun y => ⟨(wrW (raw y)).toArray⟩) hh (l := l) (vs := vs) (ys := ys) ⟨_, Heap.get?_push_size _ rfl, rfl, rfl⟩ (PySem.IsL.isList (n := n) (Heap.get?_push_of_some _ hl₁)) (Nat.ne_of_lt (Heap.lt_size hl₁)) hi (by exact om340q _ hlen) rfl ?_ ?_
  · intro C y t m' s' hC hy hns hm hk
    have hy1 := hne y hy
    have hy2 := hsz y hy
    have hbig : 1 < s'.heap.objs.size := by
      have h1 := Cx.big C' (s := { s with heap := h₁ }) F.keep
      have h2 := hns.lt
      rw [hC] at h2
      have h3 : h₁.objs.size + 1 + 1 < s'.heap.objs.size := by
        have := Heap.size_push h₁ { cls := Value.type "list_iterator", data := Data.fields #[Value.ref l, Value.int 0 0] }
        simp only [this] at h2
        exact h2
      have h4 : 1 < h₁.objs.size := h1
      exact om362q _ _ h3
    obtain ⟨c, r, hcr⟩ : ∃ c r, raw y = c :: r := by
      cases hr : raw y with
      | nil => rw [raw_len, hr] at hy1; simp at hy1
      | cons c r => exact ⟨c, r, rfl⟩
    with_reducible refine wpAny_BinOp (MC fun pl => ?_)
    refine Dict_lits_str (D := [(.str (Str.ofString "a"), .str (Str.ofString "A")), (.str (Str.ofString "b"), .str (Str.ofString "B"))]) rfl rfl (by decide) rfl rfl (by simp) (by decide) ?_
    intro a o h₂ tk₂ ha ho hT hk₂
    have T : StrTab prog w h₂ a _ := tab_of (Nat.lt_of_lt_of_le hbig ha) ho hT
    have hns₂ : h₂.Ns C m' := hns.at' fun o e => hk₂ _ o e
    refine getMethod_strTab_get T (cwm (sm ?_))
    dsimp only
    refine Subscript_ (nm_L hns₂ hm (cI fun t0 tk0 => item_str (by decide) (by exact om358q _) (by exact om359q _ hy1) (fun _ => sm ?_)))
    dsimp only
    refine Subscript_ (nm_L hns₂ hm (cI fun t0 tk0 => item_str (by decide) (by exact om358q _) (by exact om359q _ hy1) (fun _ => spliced_none ?_)))
    rw [item0 y c r hcr]
    refine call_get2_strTab T (.str _ _) fun v hv => ?_
    refine Subscript_ (nm_L hns₂ hm (sl_sn (cI fun t1 tk1 => ?_)))
    refine tail_str hy1 (by exact om340q _ hy2) fun h' z t' k hk' hz => ?_
    obtain ⟨u, tu, rfl, hu⟩ : ∃ u tu, v = .str u tu ∧ u = ⟨#[if c = 97 then 65 else if c = 98 then 66 else c]⟩ := by
      rw [show Str.ofString "a" = ⟨#[97]⟩ from by decide, show Str.ofString "A" = ⟨#[65]⟩ from by decide, show Str.ofString "b" = ⟨#[98]⟩ from by decide, show Str.ofString "B" = ⟨#[66]⟩ from by decide] at hv
      exact look2 hv
    refine add_str (fun t'' tk'' => ⟨⟨_, _, rfl⟩, fun b o e => hk' b o (hk₂ b o e), _, _, rfl, ?_⟩) ?_
    · show raw (u ++ z) = (wrW (raw y)).toArray.toList
      rw [raw_append, hz, hcr, List.toList_toArray, hu]
      rfl
    · have h2 : z.length = (raw y).tail.length := by rw [raw_len, hz]
      have h3 : y.length = (raw y).length := raw_len y
      rw [List.length_tail] at h2
      have h4 : u.length = 1 := by rw [hu]; rfl
      rw [sizeLine_eq]
      exact om360q _ _ _ _ hy2 h2 h3 h4
  · intro D h' tk' vs' ys' c hD hl' hi' hraw hk
    refine spliced_none ?_
    refine join_listW (PySem.IsL.isList (n := c) hl') hi' (by decide) ?_ fun t' k => ?_
    · have e1 : ys'.length = ys.length := by simpa using congrArg List.length hraw
      have e2 : ∀ y ∈ ys', y.length ≤ 100 := by
        intro y hy
        have : raw y ∈ ys.map (fun y => raw (⟨(wrW (raw y)).toArray⟩ : Str)) := by rw [← hraw]; exact List.mem_map_of_mem hy
        obtain ⟨u, hu, he⟩ := List.mem_map.mp this
        rw [raw_len, ← he, raw_mk, wrW_len, ← raw_len]
        exact hsz u hu
      have := sum_lens e2
      exact om361q _ _ _ hlen e1 this
    · refine hQ h' _ _ _ (fun b o e => hk b o (Nat.ne_of_lt (Heap.lt_size (F.keep b o e))) (Heap.get?_push_of_some _ (F.keep b o e))) ?_
      rw [show Txt.join (Str.ofString " ") ys' = Str.join (Str.ofString " ") ys' from PySem.StrLaws.glued_eq_join _ _]
      rw [show raw (Str.join (Str.ofString " ") ys') = joinL (ys'.map raw) from join_raw _ (by decide) _, hraw]
end
end Mine
end
section
open PySem
set_option Elab.async false
set_option linter.all false
set_option maxRecDepth 100000
namespace Mine
/-- one sign of _law_words -/
def stepW (ws : List (List Nat)) (c : Nat) : List (List Nat) := if sp c = true then ws ++ [[]] else ws.set (ws.length - 1) (ws.getD (ws.length - 1) [] ++ [low c])
theorem stepW_ne {ws : List (List Nat)} (h : ws ≠ []) (c : Nat) : stepW ws c ≠ [] := by
  unfold stepW
  split
  · simp
  · intro e; apply h; have := congrArg List.length e; simp at this; exact this
theorem stepW_snoc (B : List (List Nat)) (cur : List Nat) (c : Nat) : stepW (B ++ [cur]) c = if sp c = true then B ++ [cur] ++ [[]] else B ++ [cur ++ [low c]] := by
  unfold stepW
  split
  · rfl
  · have h1 : (B ++ [cur]).length - 1 = B.length := by simp
    rw [h1, List.set_append_right _ _ (Nat.le_refl _)]
    simp [List.getD_eq_getElem?_getD]
theorem sp_low (c : Nat) : sp (low c) = sp c := by
  unfold low
  split
  · rename_i h; subst h; rfl
  · split
    · rename_i h; subst h; rfl
    · rfl
theorem fold_words : ∀ (x : List Nat) (B : List (List Nat)) (cur : List Nat),
    (x.foldl stepW (B ++ [cur])).filter (fun w => w != []) = B.filter (fun w => w != []) ++ wd cur (x.map low)
  | [], B, cur => by
    show (B ++ [cur]).filter _ = _ ++ wd cur []
    rw [List.filter_append]
    congr 1
    unfold wd
    by_cases h : cur = []
    · rw [if_pos h, h]; rfl
    · rw [if_neg h]
      rw [List.filter_cons, if_pos (by simpa using h)]
      rfl
  | c :: r, B, cur => by
    rw [List.foldl_cons, stepW_snoc, List.map_cons]
    by_cases h : sp c = true
    · rw [if_pos h, fold_words r (B ++ [cur]) [], List.filter_append, List.append_assoc]
      congr 1
      conv => rhs; unfold wd
      rw [sp_low, if_pos h]
      by_cases h2 : cur = []
      · rw [if_pos h2, h2]; rfl
      · rw [if_neg h2]
        rw [List.filter_cons, if_pos (by simpa using h2)]
        rfl
    · rw [if_neg h, fold_words r B (cur ++ [low c])]
      congr 1
      conv => rhs; unfold wd
      rw [sp_low, if_neg h]
theorem words_fold (x : List Nat) : (x.foldl stepW [[]]).filter (fun w => w != []) = wd [] (x.map low) := fold_words x [] []
theorem wd_low : ∀ (x cur : List Nat), wd (cur.map low) (x.map low) = (wd cur x).map (List.map low)
  | [], cur => by
    rw [List.map_nil]
    unfold wd
    by_cases h : cur = []
    · subst h; rfl
    · rw [if_neg h, if_neg (by simpa using h)]; rfl
  | c :: r, cur => by
    rw [List.map_cons]
    unfold wd
    rw [sp_low]
    by_cases h : sp c = true
    · rw [if_pos h, if_pos h]
      by_cases h2 : cur = []
      · subst h2; rw [List.map_nil, if_pos rfl, if_pos rfl]; exact wd_low r []
      · rw [if_neg h2, if_neg (by simpa using h2)]
        rw [List.map_cons]
        congr 1
        exact wd_low r []
    · rw [if_neg h, if_neg h, ← wd_low r (cur ++ [c]), List.map_append]
      rfl
end Mine
end
section
open PySem PySem.W PyProof.Rows
set_option Elab.async false
set_option linter.all false
set_option maxRecDepth 100000
namespace Mine
theorem fill15 (w : World) (g : Heap) : (hd.heap_1 w.params).In g → PySem.Challenge.rw_mr0283_01.row.prog = PySem.Challenge.rw_mr0283_01.row.prog := by
  k_fill
  intro _; rfl

theorem strs_set : ∀ {vs : List Value} {ys : List Str}, StrsAre vs ys → ∀ (k : Nat) (z : Str) (t : Tok), StrsAre (vs.set k (.str z t)) (ys.set k z)
  | _, _, .nil, _, _, _ => .nil
  | _, _, .cons y t r, 0, z, t' => .cons z t' r
  | _, _, .cons y t r, k + 1, z, t' => .cons y t (strs_set r k z t')
theorem strs_snoc {vs : List Value} {ys : List Str} (h : StrsAre vs ys) (z : Str) (t : Tok) : StrsAre (vs ++ [.str z t]) (ys ++ [z]) := h.append' (.cons z t .nil)

def notEmpty (v : Value) : Bool := match v with | .str z _ => z != Str.ofString "" | _ => false
theorem filt : ∀ {vs : List Value} {ys : List Str}, StrsAre vs ys → StrsAre (vs.filter notEmpty) (ys.filter fun z => z != Str.ofString "")
  | _, _, .nil => .nil
  | _, _, .cons y t r => by
    rw [List.filter_cons, List.filter_cons]
    by_cases hb : (y != Str.ofString "") = true
    · rw [if_pos (show notEmpty (.str y t) = true from hb), if_pos hb]; exact .cons y t (filt r)
    · rw [if_neg (show ¬ notEmpty (.str y t) = true from hb), if_neg hb]; exact filt r

section
variable {prog : Program} {w : World} {A : Around} {E : Value → Shared → Prop} {s : Shared} {mg mb : Str → Option Value} {g : Heap}

theorem setBack_l {l L : Addr} {g' : Heap} {m : Str → Option Value} {vs : List Value} {n : Nat} {u : Tok} {v : Value} {Q : Unit → Shared → Prop} (F : Fr g' L s.heap m) (N : News g' L s.heap [(l, lst vs n)])
    (hi : 1 ≤ vs.length) (hsz : vs.length < 1000)
    (h : ∀ h', Fr g' L h' m → News g' L h' [(l, lst (vs.set (vs.length - 1) v) n)] → But l s.heap h' → Q () { s with heap := h' }) :
    wpAny (model prog w) A (setItem (.ref l) (.int (-1) u) v) Q E s := by
  have z := N (l, lst vs n) (.head _)
  refine ki_setBack z.1 (by decide) (by simp; exact om363q _ hi) (by decide) (h _ (F.change (Heap.SameBut.update ..) z.2.1 z.2.2) (ki_turn (pre := []) (post := []) _ N (fun _ h => nomatch h) (fun _ h => nomatch h) ?_ ?_) fun b o q e => (Heap.SameBut.update ..).extBut b o q e)
  · apply Array.toList_inj.mp
    simp
    congr 1
    exact om364q _
  · simp

theorem app_b {l L : Addr} {g' : Heap} {m : Str → Option Value} {vs : List Value} {n : Nat} {v : Value} {Q : Value → Shared → Prop} (F : Fr g' L s.heap m) (N : News g' L s.heap [(l, lst vs n)]) (hsz : vs.length < 1000)
    (h : ∀ h', Fr g' L h' m → News g' L h' [(l, lst (vs ++ [v]) (n + 1))] → But l s.heap h' → Q .none { s with heap := h' }) :
    wpAny (model prog w) A (call (.builtin "list.append") [.ref l, v]) Q E s := by
  have z := N (l, lst vs n) (.head _)
  refine append_at (its := vs.toArray) (n := n) z.1 (fun h' hs ho => h h' (F.change hs z.2.1 z.2.2) (news_cons ?_ z.2.1 z.2.2 fun _ h => nomatch h) fun b o q e => hs.extBut b o q e) (by rw [sizeLine_eq, List.size_toArray]; exact om91q _ hsz)
  rw [ho, List.push_toArray]

theorem list1 {e : PySem.Expr} {env : Env} {pos : Pos} {Q : Value → Shared → Prop} (h : wpAny (model prog w) A (eval e env) (fun v s₁ => Q (.ref s₁.heap.objs.size) { s₁ with heap := s₁.heap.push (lst [v] 0) }) E s) (hn : NS e = true := by with_unfolding_all rfl) :
    wpAny (model prog w) A (eval (.List [e] pos) env) Q E s :=
  wpAny_List_spliced (sm (wpAny_mono h (fun v s₁ h₁ => spliced_none ⟨by rw [sizeLine_eq]; simp, h₁⟩) fun _ _ x => x) hn)

theorem sign_eq (c d : Nat) {u t : Tok} {Q : Value → Shared → Prop} (h : Q (.bool (decide (c = d))) s) : wpAny (model prog w) A (compareOp .Eq (.str ⟨#[c]⟩ u) (.str ⟨#[d]⟩ t)) Q E s :=
  eq_str (by rw [str1_beq]; exact h)

set_option maxHeartbeats 1000000 in
theorem words_call {x : Str} {t : Tok} {Q : Value → Shared → Prop} (C : Cx w mg mb g) (S : g.StaysIn s.heap) (hx : ∀ c ∈ raw x, Al c = true) (hl : x.length ≤ 100) (hh : A.handled = none) (hroom : A.depth < recursionLimit)
    (hQ : ∀ h' tk D vs ys n, s.heap.StaysIn h' → s.heap.objs.size ≤ D → h'.get? D = some (lst vs n) → StrsAre vs ys → ys.map raw = wd [] ((raw x).map low) → Q (.ref D) { s with heap := h', toks := tk }) :
    wpAny (model prog w) A (call (.ref 121) [.str x t]) Q E s := by
  refine enter0 (binds := [(Str.ofString "name", .str x t)]) C S (by k_is) (by k_is) (by exact om271q _ _ hroom) (BindsTo.of_eq rfl) (locs rfl) ?_ rfl rfl rfl (by decide)
  intro L h₁ tk C' F N
  obtain ⟨m, F, e1⟩ : ∃ m, Fr s.heap L h₁ m ∧ m (Str.ofString "name") = some (.str x t) := ⟨_, F, rfl⟩
  have hbig : 1 < s.heap.objs.size := Cx.big C' (s := s) (fun _ _ e => e)
  -- words = ['']
  with_reducible refine wpAny_execs_cons ?_
  refine wpAny_Assign_Name (list1 (wpAny_Constant_str ?_))
  dsimp only
  have hL₁ : L < h₁.objs.size := F.ns.lt
  generalize hD : h₁.objs.size = D at *
  generalize hH : h₁.push _ = H
  have gD : H.get? D = some (lst [.str (Str.ofString "") tk] 0) := by rw [← hH, ← hD]; exact Heap.get?_push_size _ rfl
  have F1 : Fr s.heap L H m := by rw [← hH]; exact F.push _
  have hsD : s.heap.objs.size ≤ D := Nat.le_of_lt (Nat.lt_of_le_of_lt F.above hL₁)
  have hDs : s.heap.get? D = none := Heap.get?_none_of_le hsD
  have hDL : D ≠ L := Nat.ne_of_gt hL₁
  have N1 : News s.heap L H [(D, lst [.str (Str.ofString "") tk] 0)] := news_cons gD hDL hDs (fun _ h => nomatch h)
  refine st_ F1 N1 fun h₂ tk₂ F2 N2 => ?_
  obtain ⟨m₂, F2, e1, e2⟩ : ∃ m, Fr s.heap L h₂ m ∧ m (Str.ofString "name") = some (.str x t) ∧ m (Str.ofString "words") = some (.ref D) := ⟨_, F2, e1, rfl⟩
  -- for sign in name
  with_reducible refine wpAny_execs_cons ?_
  have hasc : x.cps.all (· < 128) = true := by
    rw [Array.all_eq_true']
    intro c hc
    have := hx c (by simpa using hc)
    rcases al_cases this with rfl | rfl | rfl | rfl | rfl | rfl | rfl | rfl <;> decide
  refine wpAny_For (ld F2 e1 (wpAny_pyIter_ascii hasc ?_))
  dsimp only
  have hL₂ : L < h₂.objs.size := F2.ns.lt
  have hD₂ : D < h₂.objs.size := Heap.lt_size (N2 _ (.head _)).1
  generalize hI : h₂.objs.size = I at *
  generalize hH2 : h₂.push _ = H2
  have gI : H2.IsStrIter I "str_ascii_iterator" x t 0 := ⟨_, by rw [← hH2, ← hI]; exact Heap.get?_push_size _ rfl, rfl, rfl⟩
  have keep2 : ∀ b o, h₂.get? b = some o → H2.get? b = some o := fun b o e => by rw [← hH2]; exact Heap.get?_push_of_some _ e
  have hIL : I ≠ L := Nat.ne_of_gt hL₂
  have hID : I ≠ D := Nat.ne_of_gt hD₂
  have hgI : s.heap.get? I = none := Heap.get?_none_of_le (Nat.le_of_lt (Nat.lt_of_le_of_lt F.above hL₂))
  have F3 : Fr s.heap L H2 m₂ := frWr (wr := []) F2 (fun b o _ e => keep2 b o e) (fun h => nomatch h) (fun _ h => nomatch h)
  have N3 := newsWr (wr := []) N2 (fun b o _ e => keep2 b o e) (fun _ _ h => nomatch h)
  refine for_w (E := fun _ _ => False) (Walks.strAscii (A := A.deeper _) hh I x t)
    (fun i s' => ∃ h tk m vs ys n, s' = { s with heap := h, toks := tk } ∧ Fr s.heap L h m ∧ News s.heap L h [(D, lst vs n)] ∧ m (Str.ofString "words") = some (.ref D) ∧ StrsAre vs ys ∧ ys.map raw = ((raw x).take i).foldl stepW [[]] ∧ ys.length ≤ i + 1 ∧ (∀ y ∈ ys, y.length ≤ i))
    ?_ ?_ ⟨_, _, _, _, [Str.ofString ""], 0, rfl, F3, N3, e2, .cons _ _ .nil, by rw [List.take_zero]; rfl, by simp, by intro y hy; rw [List.mem_singleton.mp hy]; decide⟩ gI
  · rintro i s' hi ⟨h, tk, m, vs, ys, n, rfl, F, N, e2, hS, hraw, hyl, hyy⟩ v h' tk' ⟨c, u, hc, rfl⟩ hst' hkp
    have hxi : i < x.length := hi
    have F4 := frWr F hkp (by simpa using hIL.symm) (by simpa using hgI)
    have N4 := newsWr N hkp (by simpa using hID.symm)
    obtain ⟨oI, gI', rI⟩ := hst'
    have N5 := news_cons gI' hIL hgI N4
    refine wpAny_assign_Name (st_ F4 N5 fun h₃ tk₃ F5 N6 => ?_)
    dsimp only
    obtain ⟨m₃, F5, e2', e3⟩ : ∃ m', Fr s.heap L h₃ m' ∧ m' (Str.ofString "words") = some (.ref D) ∧ m' (Str.ofString "sign") = some (.str ⟨#[c]⟩ u) := ⟨_, F5, e2, rfl⟩
    have N7 : News s.heap L h₃ [(D, lst vs n)] := fun p hp => N6 p (.tail _ hp)
    have gI₃ : h₃.get? I = some oI := (N6 _ (.head _)).1
    have hvl : vs.length = ys.length := hS.len_eq
    have hcx : (raw x)[i]? = some c := by simpa [raw] using hc
    have htake : (raw x).take (i + 1) = (raw x).take i ++ [c] := by rw [List.take_add_one, hcx]; rfl
    have hfold : ((raw x).take (i + 1)).foldl stepW [[]] = stepW (ys.map raw) c := by rw [htake, List.foldl_append, ← hraw]; rfl
    have hAl : Al c = true := hx c (List.mem_of_getElem? hcx)
    have hne : ys ≠ [] := by
      intro e
      have : ∀ (l : List Nat) (ws : List (List Nat)), ws ≠ [] → l.foldl stepW ws ≠ [] := by
        intro l
        induction l with
        | nil => intro ws h; exact h
        | cons c r ih => intro ws h; exact ih _ (stepW_ne h c)
      exact this ((raw x).take i) [[]] (by simp) (by rw [← hraw, e]; rfl)
    have hpos : 1 ≤ ys.length := by cases ys with | nil => exact absurd rfl hne | cons _ _ => simp
    with_reducible refine wpAny_execs_cons ?_
    refine wpAny_If (isTrue_or (wpAny_isTrue_Compare1 (ld F5 e3 (wpAny_Constant_str (sign_eq c 32 (wpAny_truthy_bool ?_))))))
    by_cases h32 : c = 32
    · rw [decide_eq_true h32, if_pos rfl, if_pos rfl]
      have hsp : sp c = true := by rw [h32]; rfl
      with_reducible refine wpAny_execs_cons ?_
      refine wpAny_Expr_any ?_
      with_reducible refine MC fun pl => ?_
      refine ld F5 e2' (listMethod_K N7 (.head _) PySem.F.slot_list_append PySem.F.type_list_append (cwm (sm (wpAny_Constant_str (spliced_none (app_b F5 N7 (by exact om365q _ _ _ _ hl hyl hxi hvl) fun h₄ F6 N8 B6 => ?_))))))
      refine wpAny_execs_nil (wpAny_execs_nil ⟨⟨h₄, _, m₃, _, ys ++ [Str.ofString ""], _, rfl, F6, N8, e2', strs_snoc hS _ _, ?_, by simp; exact om366q _ _ hyl, ?_⟩, ?_⟩)
      · rw [hfold, List.map_append]
        unfold stepW
        rw [if_pos hsp]
        rfl
      · intro y hy
        rcases List.mem_append.mp hy with q | q
        · have := hyy y q; exact om49q _ _ this
        · rw [List.mem_singleton.mp q]
          show (Str.ofString "").length ≤ i + 1
          rw [show (Str.ofString "").length = 0 from by decide]
          exact om367q _
      · intro b hb o e
        rw [List.mem_singleton.mp hb] at e ⊢
        rw [gI'] at e
        cases e
        exact B6 _ _ hID gI₃
    rw [decide_eq_false h32, if_neg (by decide)]
    refine isTrue_or (wpAny_isTrue_Compare1 (ld F5 e3 (wpAny_Constant_str (sign_eq c 9 (wpAny_truthy_bool ?_)))))
    by_cases h9 : c = 9
    · rw [decide_eq_true h9, if_pos rfl, if_pos rfl]
      have hsp : sp c = true := by rw [h9]; rfl
      with_reducible refine wpAny_execs_cons ?_
      refine wpAny_Expr_any ?_
      with_reducible refine MC fun pl => ?_
      refine ld F5 e2' (listMethod_K N7 (.head _) PySem.F.slot_list_append PySem.F.type_list_append (cwm (sm (wpAny_Constant_str (spliced_none (app_b F5 N7 (by exact om365q _ _ _ _ hl hyl hxi hvl) fun h₄ F6 N8 B6 => ?_))))))
      refine wpAny_execs_nil (wpAny_execs_nil ⟨⟨h₄, _, m₃, _, ys ++ [Str.ofString ""], _, rfl, F6, N8, e2', strs_snoc hS _ _, ?_, by simp; exact om366q _ _ hyl, ?_⟩, ?_⟩)
      · rw [hfold, List.map_append]
        unfold stepW
        rw [if_pos hsp]
        rfl
      · intro y hy
        rcases List.mem_append.mp hy with q | q
        · have := hyy y q; exact om49q _ _ this
        · rw [List.mem_singleton.mp q]
          show (Str.ofString "").length ≤ i + 1
          rw [show (Str.ofString "").length = 0 from by decide]
          exact om367q _
      · intro b hb o e
        rw [List.mem_singleton.mp hb] at e ⊢
        rw [gI'] at e
        cases e
        exact B6 _ _ hID gI₃
    rw [decide_eq_false h9, if_neg (by decide)]
    refine isTrue_or_nil ?_
    rw [if_neg (by decide)]
    have hsp : ¬ sp c = true := by simp [sp, h32, h9]
    with_reducible refine wpAny_execs_cons ?_
    refine wpAny_AugAssign_SubscriptAny (ld F5 e2' (UnaryOp_ (cI fun _ _ => neg_int ?_)))
    have hL : h₃.IsList D vs.toArray := PySem.IsL.isList (n := n) (N7 _ (.head _)).1
    obtain ⟨yl, hyl'⟩ : ∃ yl, ys[ys.length - 1]? = some yl := ⟨_, List.getElem?_eq_getElem (by exact om368q _ hpos)⟩
    obtain ⟨tl, hvl'⟩ := hS.at hyl'
    refine wpAny_getItem_list_neg hL (by decide) (by simp; exact om369q _ _ hvl hpos) (by decide) (x := .str yl tl) ?_ ?_
    · rw [List.getElem?_toArray]
      have : ((-1 : Int) + (vs.toArray.size : Int)).toNat = ys.length - 1 := by simp; exact om370q _ _ hvl
      rw [this]; exact hvl'
    with_reducible refine MC fun pl => ?_
    refine Dict_lits_str (D := [(.str (Str.ofString "A"), .str (Str.ofString "a")), (.str (Str.ofString "B"), .str (Str.ofString "b"))]) rfl rfl (by decide) rfl rfl (by simp) (by decide) ?_
    intro a o h₄ tk₄ ha ho hT hk₄
    have hL₃ : L < h₃.objs.size := F5.ns.lt
    have T : StrTab prog w h₄ a _ := tab_of (Nat.lt_of_lt_of_le (Nat.lt_of_lt_of_le hbig (Nat.le_of_lt (Nat.lt_of_le_of_lt F5.above hL₃))) ha) ho hT
    have F6 : Fr s.heap L h₄ m₃ := frWr (wr := []) F5 (fun b o _ e => hk₄ b o e) (fun h => nomatch h) (fun _ h => nomatch h)
    have N8 := newsWr (wr := []) N7 (fun b o _ e => hk₄ b o e) (fun _ _ h => nomatch h)
    refine getMethod_strTab_get T (cwm (sm (ld F6 e3 (sm (ld F6 e3 (spliced_none ?_))))))
    refine call_get2_strTab T (.str _ _) fun v hv => ?_
    obtain ⟨z, tz, rfl, hz⟩ : ∃ u tu, v = .str u tu ∧ u = ⟨#[low c]⟩ := by
      rw [show Str.ofString "a" = ⟨#[97]⟩ from by decide, show Str.ofString "A" = ⟨#[65]⟩ from by decide, show Str.ofString "b" = ⟨#[98]⟩ from by decide, show Str.ofString "B" = ⟨#[66]⟩ from by decide] at hv
      exact look2 hv
    have hyl2 := hyy yl (List.mem_of_getElem? hyl')
    refine iadd_str (fun t'' tk'' => ?_) ?_
    · refine setBack_l F6 N8 (by exact om114q _ _ hvl hpos) (by exact om365q _ _ _ _ hl hyl hxi hvl) fun h₅ F7 N9 B7 => ?_
      refine wpAny_execs_nil (wpAny_execs_nil ⟨⟨h₅, _, m₃, _, ys.set (ys.length - 1) (yl ++ z), _, rfl, F7, N9, e2', ?_, ?_, by simp; exact om371q _ _ hyl, ?_⟩, ?_⟩)
      · rw [hvl]; exact strs_set hS _ _ _
      · rw [hfold, List.map_set]
        unfold stepW
        rw [if_neg hsp, List.length_map]
        congr 1
        rw [raw_append, hz, List.getD_eq_getElem?_getD, List.getElem?_map, hyl']
        rfl
      · intro y hy
        rcases List.mem_or_eq_of_mem_set hy with q | q
        · have := hyy y q; exact om49q _ _ this
        · rw [q, raw_len, raw_append, hz, List.length_append, ← raw_len]
          show yl.length + 1 ≤ i + 1
          exact om372q _ _ hyl2
      · intro b hb o e
        rw [List.mem_singleton.mp hb] at e ⊢
        rw [gI'] at e
        cases e
        exact B7 _ _ hID (hk₄ _ _ gI₃)
    · have : z.length = 1 := by rw [hz]; rfl
      rw [sizeLine_eq]; exact om373q _ _ _ _ hl hxi hyl2 this
  · rintro s' ⟨h, tk, m, vs, ys, n, rfl, F, N, e2, hS, hraw, hyl, hyy⟩ h' tk' hkp
    have F4 := frWr F hkp (by simpa using hIL.symm) (by simpa using hgI)
    have N4 := newsWr N hkp (by simpa using hID.symm)
    have gD4 : h'.get? D = some (lst vs n) := (N4 _ (.head _)).1
    have hvl : vs.length = ys.length := hS.len_eq
    have hxl : x.cps.size = x.length := rfl
    with_reducible refine wpAny_execs_cons (wpAny_Return_some ?_)
    refine LCompT (cl := []) rfl (by decide) rfl (by decide) (ld F4 e2 ?_)
    refine wpAny_pyIter_list (items := vs.toArray) (PySem.IsL.isList (n := n) gD4) ?_
    dsimp only
    refine ⟨h'.objs.size, [h'.objs.size, D], [h'.objs.size], vs.toArray.size, [Str.ofString "word"], _, _, fun i zs => zs = (vs.take i).filter notEmpty, rfl, Drw.name (Walks.list (A := A.deeper _) hh _ D (Nat.ne_of_lt (Heap.lt_size gD4)) vs.toArray), by rw [List.size_toArray]; exact om374q _ _ _ _ hl hyl hvl hxl, ?_, ⟨⟨_, Heap.get?_push_size _ rfl, rfl, rfl⟩, PySem.IsL.isList (n := n) (Heap.get?_push_of_some _ gD4)⟩, ?_, rfl, ?_, ?_⟩
    · intro z hz; rw [List.mem_singleton.mp hz]; rfl
    · intro b hb
      rw [Heap.size_push]
      simp only [List.mem_cons, List.not_mem_nil, or_false] at hb
      rcases hb with rfl | rfl
      · exact Nat.lt_succ_self _
      · exact Nat.lt_succ_of_lt (Heap.lt_size gD4)
    · rintro C j bs zs m₃ s₃ hj ⟨v, hv, rfl⟩ hJ hns hm hk
      rw [List.getElem?_toArray] at hv
      have htk : vs.take (j + 1) = vs.take j ++ [v] := by rw [List.take_add_one, hv]; rfl
      obtain ⟨y, ty, rfl, hy⟩ := hS.item j v hv
      refine wpAny_tests_one (wpAny_isTrue_Compare1 (nm_L hns (hm _ (.head _)) (wpAny_Constant_str (ne_str (wpAny_truthy_bool ?_)))))
      by_cases hb : (y != Str.ofString "") = true
      · rw [if_pos hb]
        refine nm_L hns (hm _ (.head _)) ⟨⟨_, _, rfl⟩, fun b o e => e, ?_⟩
        show zs ++ [Value.str y ty] = (vs.take (j + 1)).filter notEmpty
        rw [htk, List.filter_append, hJ]
        congr 1
        rw [List.filter_cons, if_pos (show notEmpty (.str y ty) = true from hb)]
        rfl
      · rw [if_neg hb]
        refine ⟨⟨_, _, rfl⟩, fun b o e => e, ?_⟩
        show zs = (vs.take (j + 1)).filter notEmpty
        rw [htk, List.filter_append, hJ, List.filter_cons, if_neg (show ¬ notEmpty (.str y ty) = true from hb)]
        simp
    · intro D' h₂ tk₂ zs c hD' gD' hJ hk
      rw [List.size_toArray, List.take_length] at hJ
      subst hJ
      refine hQ h₂ _ D' _ (ys.filter fun z => z != Str.ofString "") c (fun b o e => ?_) ?_ gD' (filt hS) ?_
      · have e2 := F4.keep b o e
        exact hk b o (fun q => Nat.lt_irrefl _ (List.mem_singleton.mp q ▸ Heap.lt_size e2)) (Heap.get?_push_of_some _ e2)
      · rw [hD', Heap.size_push]
        exact Nat.le_succ_of_le (Nat.le_of_lt (Nat.lt_of_le_of_lt F4.above F4.ns.lt))
      · rw [← words_fold, ← List.take_length (l := raw x), ← raw_len, ← hxl, ← hraw, List.filter_map]
        congr 1
        apply List.filter_congr
        intro z _
        show (z != Str.ofString "") = (raw z != [])
        rw [← toList_bne]
        rfl
end
end Mine
end
section
open PySem PySem.W PyProof.Rows
set_option Elab.async false
set_option linter.all false
set_option maxRecDepth 100000
namespace Mine
section
variable {prog : Program} {w : World} {A : Around} {E : Value → Shared → Prop} {s : Shared} {mg mb : Str → Option Value} {g : Heap}

/-- a call of a def of the text with cells of its own; what lies at ls may change -/
theorem enterC {Q : Value → Shared → Prop} {name qual : Str} {params : Arguments} {body : List Stmt} {scope : Scope} {dV kV doc pm cdv ct oc : Value} {an od : Option Addr} {osl : Array (Option Value)} {f : Addr} (ls : List Addr)
    {pos : List Value} {kw : List (Str × Value)} {binds : List (Str × Value)}
    (C : Cx w mg mb g) (S : g.StaysIn s.heap) (hg : ∀ b ∈ ls, g.get? b = none)
    (ho : (hd.heap_1 w.params).lookup f = some ⟨oc, od, .func (fnOf name qual params body scope dV kV doc pm an cdv ct), osl⟩) (hcd : codeIn (hd.heap_1 w.params) cdv qual = true)
    (hroom : A.depth < recursionLimit)
    (hbind : BindsTo s (fnOf name qual params body scope dV kV doc pm an cdv ct) ⟨pos, kw⟩ binds)
    (hkind : ∀ n, ∀ x ∈ binds, scope.names.lookup x.1 = some .local ∨ (scope.names.lookup x.1 = some .cell ∧ ((cellsFrom n scope.names []).lookup x.1).isSome = true))
    (h : ∀ L h₁ tk, L = s.heap.objs.size → Cx w mg mb (hideAll s.heap ls) → Fr (hideAll s.heap ls) L h₁ (bindL (envOfC qual scope L f cdv).kindOf binds fun _ => none) → s.heap.StaysIn h₁ →
      (∀ n c, (cellsFrom (L + 1) scope.names []).lookup n = some c → h₁.IsCell c (bindC (envOfC qual scope L f cdv).kindOf binds (fun _ => none) n)) →
      wpAny (model prog w) (A.deeper (envOfC qual scope L f cdv)) (execs body (envOfC qual scope L f cdv))
        (fun fl s' => Q (match fl with | .ret v => v | _ => .none) s') (fun _ _ => False)
        { s with heap := h₁, toks := tk })
    (hco : scope.isCoroutine = false) (hgen : scope.isGenerator = false) (hk : scope.kind = .function) : wpAny (model prog w) A (call (.ref f) pos kw) Q E s := by
  have st : g.StaysIn (hideAll s.heap ls) := fun b o e => hideAll_get _ (S b o e) (fun q => by rw [hg b q] at e; cases e)
  refine wpAny_call (codeAny_call_function (fd := fnOf name qual params body scope dV kV doc pm an cdv ct) hroom ((C.K.keeps S) _ _ ho) rfl hco hgen rfl (codeRec_of (C.K.keeps S) hcd) (hbind _ _ _ _ ?_))
  refine wpAny_newFunctionEnv_cells hk (hkind _) fun env' he s' x => ?_
  subst he
  refine ⟨(C.T.nolimit.keeps S).keeps x.toInCall.keep, codeAny_func ?_⟩
  obtain ⟨h₁, tk, rfl, _⟩ := x.done
  have hk₁ := x.toInCall.keep
  refine wpAny_mono (h s.heap.objs.size h₁ tk rfl (C.keeps st) ⟨x.toInCall.ns, fun b o e => hk₁ b o (of_hideAll _ e), Nat.le_of_eq (hideAll_size _ _)⟩ (fun b o e => hk₁ b o e) x.cell) (fun fl s' hl => hl) fun _ _ y => y.elim
end
end Mine
end
section
open PySem PySem.W PyProof.Rows
set_option Elab.async false
set_option linter.all false
set_option maxRecDepth 100000
namespace Mine
theorem fill16 (w : World) (g : Heap) : (hd.heap_1 w.params).In g → PySem.Challenge.rw_mr0283_01.row.prog = PySem.Challenge.rw_mr0283_01.row.prog := by
  k_fill
  intro _; rfl

theorem join0 (sep : Str) (hs : raw sep = []) : ∀ ws : List Str, raw (Str.join sep ws) = (ws.map raw).flatten
  | [] => rfl
  | [x] => by show raw x = _; simp
  | x :: y :: r => by
    show raw (x ++ sep ++ Str.join sep (y :: r)) = _
    rw [raw_append, raw_append, hs, join0 sep hs (y :: r)]
    simp
theorem sign8 (j : Int) (h0 : 0 ≤ j) (h8 : j < 8) : ∃ c, Txt.item (Str.ofString "aBbA _3\t") j = ⟨#[c]⟩ ∧ Al c = true := by
  obtain ⟨k, rfl⟩ := Int.eq_ofNat_of_zero_le h0
  have hk : k < 8 := by exact om375q _ h8
  match k, hk with
  | 0, _ => exact ⟨97, by decide +kernel, by decide⟩
  | 1, _ => exact ⟨66, by decide +kernel, by decide⟩
  | 2, _ => exact ⟨98, by decide +kernel, by decide⟩
  | 3, _ => exact ⟨65, by decide +kernel, by decide⟩
  | 4, _ => exact ⟨32, by decide +kernel, by decide⟩
  | 5, _ => exact ⟨95, by decide +kernel, by decide⟩
  | 6, _ => exact ⟨51, by decide +kernel, by decide⟩
  | 7, _ => exact ⟨9, by decide +kernel, by decide⟩

section
variable {prog : Program} {w : World} {A : Around} {E : Value → Shared → Prop} {s : Shared} {mg mb : Str → Option Value} {g : Heap}

set_option maxHeartbeats 1000000 in
theorem name_call {num : Int} {t : Tok} {Q : Value → Shared → Prop} (C : Cx w mg mb g) (S : g.StaysIn s.heap) (h0 : 0 ≤ num) (h1 : num < 1000000) (hh : A.handled = none) (hroom : A.depth < recursionLimit)
    (hQ : ∀ h' tk y t', s.heap.StaysIn h' → (∀ c ∈ raw y, Al c = true) → y.length ≤ 5 → Q (.str y t') { s with heap := h', toks := tk }) :
    wpAny (model prog w) A (call (.ref 116) [.int num t]) Q E s := by
  refine enterC [] (binds := [(Str.ofString "number", .int num t)]) C S (fun b hb => by cases hb) (by k_is) (by k_is) (by exact om271q _ _ hroom) (BindsTo.of_eq rfl) (by intro n x hx; rw [List.mem_singleton.mp hx]; exact .inr ⟨rfl, rfl⟩) ?_ rfl rfl rfl
  intro L h₁ tk hL C' F K₁ cells
  replace C' : Cx w mg mb s.heap := C'
  replace F : Fr s.heap L h₁ (fun _ => none) := F
  obtain ⟨oc, gc, hoc⟩ : h₁.IsCell (L + 1) (some (.int num t)) := cells (Str.ofString "number") (L + 1) rfl
  with_reducible refine wpAny_execs_cons (wpAny_Return_some (MC fun pl => ?_))
  refine wpAny_Constant_str (GM.join (cwm (sm ?_)))
  dsimp only
  refine LComp (cl := [(Str.ofString "number", L + 1)]) rfl (by decide) rfl (by decide) ?_
  refine Call_ (nm_B C' F.keep (by k_is) boot_range (by decide) (cwt (sm (wpAny_BinOp (wpAny_BinOp (nm_C rfl gc hoc (cI fun _ _ => mod_int (by decide) (cI fun _ _ => add_int ?_))))))))
  have hm : Int.fmod num 5 = num % 5 := Int.fmod_eq_emod_of_nonneg _ (by decide)
  obtain ⟨k, hk⟩ : ∃ k : Nat, Int.fmod num 5 + 1 = (k : Int) := ⟨(Int.fmod num 5 + 1).toNat, by exact om376q _ _ hm⟩
  have hk5 : k ≤ 5 := by exact om377q _ _ _ hm hk
  rw [hk]
  refine spliced_none (call_range_1 (wpAny_pyIter_range (a := 0) (b := (k : Int)) (c := 1) (Heap.get?_push_size _ rfl) (small_one (by exact om75q) (by exact om76q) (by exact om15q _) (by exact om378q _ _ _ hm hk)) ?_))
  rw [rangeSize_nat, show (((k : Int) - 0).toNat : Int) = (k : Int) from by exact om78q _]
  dsimp only
  generalize hH : (h₁.push _).push _ = H
  generalize hI : (h₁.push _).objs.size = I
  have hIs : h₁.objs.size < I := by rw [← hI, Heap.size_push]; exact Nat.lt_succ_self _
  have hst : IsRangeIter H I (0 : Int) (k : Int) 1 := by rw [← hH, ← hI]; exact Heap.get?_push_size _ rfl
  have keep : ∀ b o, h₁.get? b = some o → H.get? b = some o := fun b o e => by rw [← hH]; exact Heap.get?_push_of_some _ (Heap.get?_push_of_some _ e)
  refine ⟨I, [I], [I], k, [Str.ofString "place"], _, _, fun C j v h => ∃ c u, v = .str ⟨#[c]⟩ u ∧ Al c = true, rfl, Drw.name (Walks.range (A := A.deeper _) hh I 0 1 k), by exact om379q _ _ _ hm hk, (fun b hb => by cases hb), (fun _ _ _ _ _ hp _ => hp), ?_, by simpa using hst, ?_, ?_, ?_⟩
  · intro z hz; rw [List.mem_singleton.mp hz]; rfl
  · intro b hb; rw [List.mem_singleton.mp hb]; exact Heap.lt_size hst
  · rintro C i bs m s' hC hi ⟨v, ⟨tv, rfl⟩, rfl⟩ hns hm hkp hsz
    have gc' : s'.heap.get? (L + 1) = some oc := hkp _ _ (fun q => Nat.lt_irrefl _ (List.mem_singleton.mp q ▸ Nat.lt_trans (Heap.lt_size gc) hIs)) (keep _ _ gc)
    refine Subscript_ (wpAny_Constant_str (wpAny_BinOp (wpAny_BinOp (wpAny_BinOp (nm_C rfl gc' hoc (cI fun _ _ => floordiv_int (by decide) (wpAny_BinOp (cI fun _ _ => nm_L hns (hm _ (.head _)) (pow_int_small (by omega) (by omega) (by decide) (floordiv_int ?_ ?_ ?_)))) (Or.inl (PyProof.noPylong_small (by omega)))))))))
    · exact Int.ne_of_gt (Int.pow_pos (by decide))
    · refine cI fun _ _ => mod_int (by decide) (item_str_fmod (by decide) (by decide) (by decide) fun _ => ?_)
      obtain ⟨c, e1, e2⟩ := sign8 (((num.fdiv 15).fdiv (8 ^ (0 + (i : Int) * 1).toNat)).fmod 8) (Int.fmod_nonneg_of_pos _ (by decide)) (Int.fmod_lt_of_pos _ (by decide))
      rw [e1]
      exact ⟨⟨_, _, rfl⟩, fun b o e => e, c, _, rfl, e2⟩
    · refine Or.inl (PyProof.noPylong_small ?_)
      have h4 : i = 0 ∨ i = 1 ∨ i = 2 ∨ i = 3 ∨ i = 4 := by omega
      rcases h4 with rfl | rfl | rfl | rfl | rfl <;> decide
  · intro D C h' tk' ys c hD hC gD hyl hp hkp
    let st : Value → Str := fun v => match v with | .str y _ => y | _ => ⟨#[]⟩
    have hS : StrsAre ys (ys.map st) := strsAre_of (by simp) fun j v e => by
      obtain ⟨c, u, rfl, _⟩ := hp j v e
      exact ⟨⟨#[c]⟩, u, by rw [List.getElem?_map, e]; rfl, rfl⟩
    have hone : ∀ y ∈ ys.map st, ∃ c, raw y = [c] ∧ Al c = true := by
      intro y hy
      obtain ⟨v, hv, rfl⟩ := List.mem_map.mp hy
      obtain ⟨j, hj⟩ := List.getElem?_of_mem hv
      obtain ⟨c, u, rfl, h2⟩ := hp j v hj
      exact ⟨c, rfl, h2⟩
    refine spliced_none ?_
    refine join_listW (PySem.IsL.isList (n := c) gD) hS (by decide) ?_ fun t' k' => ?_
    · have e2 : ∀ y ∈ ys.map st, y.length ≤ 1 := by
        intro y hy
        obtain ⟨c, h1, _⟩ := hone y hy
        rw [raw_len, h1]; simp
      have := sum_lens e2
      simp only [List.length_map] at this ⊢
      exact om384q _ _ _ _ _ hm hk hyl this
    · have hraw : raw (Txt.join (Str.ofString "") (ys.map st)) = ((ys.map st).map raw).flatten := by
        rw [show Txt.join (Str.ofString "") (ys.map st) = Str.join (Str.ofString "") (ys.map st) from PySem.StrLaws.glued_eq_join _ _]
        exact join0 _ (by decide) _
      refine hQ h' _ _ _ (fun b o e => ?_) (fun c hc => ?_) ?_
      · have e1 := K₁ b o e
        exact hkp b o (fun q => Nat.lt_irrefl _ (List.mem_singleton.mp q ▸ Nat.lt_trans (Heap.lt_size e1) hIs)) (fun q => by cases q) (keep _ _ e1)
      · rw [hraw] at hc
        obtain ⟨l, hl, hcl⟩ := List.mem_flatten.mp hc
        obtain ⟨y, hy, rfl⟩ := List.mem_map.mp hl
        obtain ⟨c', h1, h2⟩ := hone y hy
        rw [h1] at hcl
        rw [List.mem_singleton.mp hcl]; exact h2
      · rw [raw_len, hraw]
        have : ∀ (l : List Str), (∀ y ∈ l, ∃ c, raw y = [c] ∧ Al c = true) → ((l.map raw).flatten).length = l.length := by
          intro l
          induction l with
          | nil => intro _; rfl
          | cons y r ih =>
            intro h
            obtain ⟨c, h1, _⟩ := h y (.head _)
            rw [List.map_cons, List.flatten_cons, List.length_append, h1, ih fun y hy => h y (.tail _ hy)]
            simp; exact om385q _
        rw [this _ hone, List.length_map]
        exact om386q _ _ _ _ hm hk hyl
end
end Mine
end
section
open PySem PySem.W PyProof.Rows
set_option Elab.async false
set_option linter.all false
set_option maxRecDepth 100000
namespace Mine
/-- a decision tree under a fixed order -/
def ev {α : Type} (lt : Nat → Nat → Bool) : KasT α → α
  | .ret a => a
  | .ask i j k => ev lt (k (lt i j))
theorem ev_bind {α β : Type} (lt : Nat → Nat → Bool) (f : α → KasT β) : ∀ t : KasT α, ev lt (t.bind f) = ev lt (f (ev lt t))
  | .ret a => rfl
  | .ask i j k => by show ev lt ((k (lt i j)).bind f) = _; rw [ev_bind lt f (k (lt i j))]; rfl
theorem ev_wp {α : Type} {lt : Nat → Nat → Bool} {cmp : Nat → Nat → (Bool → Shared → Prop) → Shared → Prop} (P : Shared → Prop) (ok : Nat → Nat → Prop) (hc : ∀ i j C s, P s → ok i j → (∀ s', P s' → C (lt i j) s') → cmp i j C s) {Q : α → Shared → Prop} :
    ∀ (t : KasT α) (s : Shared) (hok : ∀ i j, ok i j), P s → (∀ s', P s' → Q (ev lt t) s') → t.kasWp cmp Q s
  | .ret a, s, _, hp, h => h s hp
  | .ask i j k, s, hok, hp, h => hc i j _ s hp (hok i j) fun s' hp' => ev_wp P ok hc (k (lt i j)) s' hok hp' h

section
variable {lt : Nat → Nat → Bool}
/-- the order that breaks ties by place -/
def lt2 (lt : Nat → Nat → Bool) (i j : Nat) : Prop := lt i j = true ∨ (lt j i = false ∧ i < j)
structure SW (lt : Nat → Nat → Bool) : Prop where
  irr : ∀ i, lt i i = false
  tr : ∀ i j k, lt i j = true → lt j k = true → lt i k = true
  ng : ∀ i j k, lt i j = false → lt j k = false → lt i k = false
theorem SW.asy (o : SW lt) {i j : Nat} (h : lt i j = true) : lt j i = false := by
  cases e : lt j i with
  | false => rfl
  | true => have := o.tr _ _ _ h e; rw [o.irr] at this; cases this
theorem SW.mixr (o : SW lt) {i j k : Nat} (h1 : lt i j = true) (h2 : lt k j = false) : lt i k = true := by
  cases e : lt i k with
  | true => rfl
  | false => have := o.ng _ _ _ e h2; rw [h1] at this; cases this
theorem SW.mixl (o : SW lt) {i j k : Nat} (h1 : lt j i = false) (h2 : lt j k = true) : lt i k = true := by
  cases e : lt i k with
  | true => rfl
  | false => have := o.ng _ _ _ h1 e; rw [h2] at this; cases this

theorem lt2_le {i j : Nat} (o : SW lt) (h : lt2 lt i j) : lt j i = false := by
  rcases h with h | h
  · exact o.asy h
  · exact h.1

/-- array and list -/
theorem getD_list (p : Array Nat) (L : List Nat) (h : p.toList = L) (i : Nat) : p.getD i 0 = L.getD i 0 := by
  subst h
  rw [Array.getD_eq_getD_getElem?, List.getD_eq_getElem?_getD, Array.getElem?_toList]
theorem g3 (A B R : List Nat) (x : Nat) : (A ++ B ++ R)[x]? = if x < A.length then A[x]? else if x < A.length + B.length then B[x - A.length]? else R[x - A.length - B.length]? := by
  by_cases h1 : x < A.length
  · rw [if_pos h1, List.append_assoc, List.getElem?_append_left h1]
  · rw [if_neg h1]
    by_cases h2 : x < A.length + B.length
    · rw [if_pos h2, List.append_assoc, List.getElem?_append_right (by exact om220q _ _ h1), List.getElem?_append_left (by exact om221q _ _ _ h1 h2)]
    · rw [if_neg h2, List.getElem?_append_right (by simp; exact om222q _ _ _ h2)]
      congr 1
      simp; exact om223q _ _ _
theorem rev_list (p : Array Nat) (A B R : List Nat) (h : p.toList = A ++ B ++ R) (i j : Nat) (hi : i = A.length) (hj : j = A.length + B.length) : (kas_rev p i j).toList = A ++ B.reverse ++ R := by
  have hsz : p.size = A.length + B.length + R.length := by rw [← Array.length_toList, h]; simp; exact om224q _ _ _
  apply List.ext_getElem?
  intro k
  unfold kas_rev
  rw [Array.getElem?_toList, getElem?_mirror_all (by exact om225q _ _ _ _ _ hj hsz)]
  have hp : ∀ x, p[x]? = (A ++ B ++ R)[x]? := fun x => by rw [← Array.getElem?_toList, h]
  rw [hp, hp, g3, g3, g3, List.length_reverse]
  by_cases h1 : i ≤ k ∧ k < j
  · rw [if_pos h1, if_neg (by exact om226q _ _ _ _ hi h1), if_pos (by exact om227q _ _ _ _ _ hj h1), if_neg (by exact om228q _ _ _ _ hi h1), if_pos (by exact om229q _ _ _ _ _ hj h1), List.getElem?_reverse (by exact om230q _ _ _ _ _ hi hj h1)]
    congr 1
    exact om231q _ _ _ _ _ hi hj h1
  · rw [if_neg h1]
    by_cases h2 : k < A.length
    · rw [if_pos h2, if_pos h2]
    · rw [if_neg h2, if_neg h2, if_neg (by exact om232q _ _ _ _ _ hi hj h1 h2), if_neg (by exact om232q _ _ _ _ _ hi hj h1 h2)]
theorem bub_list (p : Array Nat) (A B R : List Nat) (x : Nat) (h : p.toList = A ++ B ++ x :: R) (k l : Nat) (hl : l = A.length) (hk : k = A.length + B.length) : (bubble p k (k - l)).toList = A ++ x :: B ++ R := by
  have hsz : p.size = A.length + B.length + R.length + 1 := by rw [← Array.length_toList, h]; simp; exact om233q _ _ _
  apply List.ext_getElem?
  intro y
  rw [Array.getElem?_toList, getElem?_bubble (by exact om234q _ _ _ _ _ hk hsz) _ (by exact om235q _ _)]
  have hp : ∀ x', p[x']? = (A ++ B ++ x :: R)[x']? := fun x' => by rw [← Array.getElem?_toList, h]
  rw [hp, hp, hp, g3, g3, g3, g3, List.length_cons]
  by_cases h1 : y = k - (k - l)
  · rw [if_pos h1, if_neg (by exact om236q _ _ _ hk), if_neg (by exact om237q _ _ _ hk), if_neg (by exact om238q _ _ _ _ _ hl hk h1), if_pos (by exact om239q _ _ _ _ _ hk h1)]
    have e1 : k - A.length - B.length = 0 := by exact om240q _ _ _ hk
    have e2 : y - A.length = 0 := by exact om241q _ _ _ _ hl h1
    rw [e1, e2]; rfl
  · rw [if_neg h1]
    by_cases h2 : k - (k - l) < y ∧ y ≤ k
    · rw [if_pos h2, if_neg (by exact om242q _ _ _ _ hl h2), if_pos (by exact om243q _ _ _ _ _ hk h2), if_neg (by exact om244q _ _ _ _ hl h2), if_pos (by exact om245q _ _ _ _ _ hk h2)]
      have e2 : y - A.length = (y - 1 - A.length) + 1 := by exact om246q _ _ _ _ hl h2
      rw [e2, List.getElem?_cons_succ]
    · rw [if_neg h2]
      by_cases h3 : y < A.length
      · rw [if_pos h3, if_pos h3]
      · rw [if_neg h3, if_neg h3, if_neg (by exact om247q _ _ _ _ _ hl hk h1 h2 h3), if_neg (by exact om248q _ _ _ _ _ hl hk h1 h2 h3)]
        have e1 : y - A.length - B.length = (y - A.length - (B.length + 1)) + 1 := by exact om249q _ _ _ _ _ hl hk h1 h2 h3
        rw [e1, List.getElem?_cons_succ]
end
end Mine
end
section
open PySem PySem.W PyProof.Rows
set_option Elab.async false
set_option linter.all false
set_option maxRecDepth 100000
namespace Mine
section
variable {lt : Nat → Nat → Bool}

theorem snocL : ∀ {S : List Nat}, 1 ≤ S.length → ∃ S0 y, S = S0 ++ [y] := by
  intro S h
  refine ⟨S.dropLast, S.getLast (by intro e; rw [e] at h; simp at h), (List.dropLast_concat_getLast _).symm⟩
theorem getD_mid {p : Array Nat} {A R : List Nat} {y : Nat} (h : p.toList = A ++ y :: R) {i : Nat} (hi : i = A.length) : p.getD i 0 = y := by
  rw [getD_list p _ h, List.getD_eq_getElem?_getD, List.getElem?_append_right (by exact om143q _ _ hi), hi, Nat.sub_self]
  rfl
theorem range'_cons {n r : Nat} (h : 1 ≤ r) : List.range' n r = n :: List.range' (n + 1) (r - 1) := by
  obtain ⟨k, rfl⟩ : ∃ k, r = k + 1 := ⟨r - 1, by exact om144q _ h⟩
  rw [List.range'_succ, Nat.add_sub_cancel]

theorem ext_ok (o : SW lt) {S0 : List Nat} {x y : Nat} (hp : (S0 ++ [y]).Pairwise (lt2 lt)) (hx : ∀ s ∈ S0 ++ [y], s < x) (h : lt x y = false) : (S0 ++ [y] ++ [x]).Pairwise (lt2 lt) := by
  rw [List.pairwise_append]
  refine ⟨hp, List.pairwise_singleton _ _, fun s hs b hb => ?_⟩
  rw [List.mem_singleton.mp hb]
  refine .inr ⟨?_, hx s hs⟩
  rcases List.mem_append.mp hs with q | q
  · exact o.ng _ _ _ h (lt2_le o ((List.pairwise_append.mp hp).2.2 s q y (.head _)))
  · rw [List.mem_singleton.mp q]; exact h

theorem asc_spec (o : SW lt) : ∀ (f n r : Nat) (p : Array Nat) (S : List Nat), p.toList = S ++ List.range' n r → f ≤ r → S.length = n → 1 ≤ n → S.Pairwise (lt2 lt) → (∀ x ∈ S, x < n) →
    n ≤ ev lt (kas_asc p f n) ∧ ev lt (kas_asc p f n) ≤ n + f ∧ (S ++ List.range' n (ev lt (kas_asc p f n) - n)).Pairwise (lt2 lt) ∧
      (ev lt (kas_asc p f n) < n + f → lt (p.getD (ev lt (kas_asc p f n)) 0) (p.getD (ev lt (kas_asc p f n) - 1) 0) = true)
  | 0, n, r, p, S, hp, hf, hl, h1, hs, hx => by
    show n ≤ n ∧ n ≤ n + 0 ∧ (S ++ List.range' n (n - n)).Pairwise (lt2 lt) ∧ (n < n + 0 → _)
    rw [Nat.sub_self]
    exact ⟨Nat.le_refl _, Nat.le_refl _, by simpa using hs, fun h => absurd h (by exact om145q _)⟩
  | f + 1, n, r, p, S, hp, hf, hl, h1, hs, hx => by
    obtain ⟨S0, y, rfl⟩ := snocL (S := S) (by exact om114q _ _ hl h1)
    have hlen : S0.length + 1 = n := by simpa using hl
    rw [range'_cons (by exact om146q _ _ hf)] at hp
    have gx : p.getD n 0 = n := getD_mid hp (by simp; exact om147q _ _ hlen)
    have gy : p.getD (n - 1) 0 = y := getD_mid (A := S0) (R := n :: List.range' (n + 1) (r - 1)) (by rw [hp]; simp) (by exact om148q _ _ hlen)
    have key : ev lt (kas_asc p (f + 1) n) = if lt n y = true then n else ev lt (kas_asc p f (n + 1)) := by
      show ev lt (if lt (p.getD n 0) (p.getD (n - 1) 0) = true then KasT.ret n else kas_asc p f (n + 1)) = _
      rw [gx, gy]
      split <;> rfl
    rw [key]
    by_cases hlt : lt n y = true
    · rw [if_pos hlt, Nat.sub_self, gx, gy]
      exact ⟨Nat.le_refl _, by exact om149q _ _, by simpa using hs, fun _ => hlt⟩
    · rw [if_neg hlt]
      have hlt' : lt n y = false := by simpa using hlt
      have ih := asc_spec o f (n + 1) (r - 1) p (S0 ++ [y] ++ [n]) (by rw [hp]; simp) (by exact om150q _ _ hf) (by simp; exact om151q _ _ hlen) (by exact om34q _) (ext_ok o hs hx hlt') (fun x hx' => by
        rcases List.mem_append.mp hx' with q | q
        · have := hx x q; exact om152q _ _ this
        · rw [List.mem_singleton.mp q]; exact om153q _)
      refine ⟨by omega, by omega, ?_, fun h => ih.2.2.2 (by exact om154q _ _ _ h)⟩
      have e : List.range' n (ev lt (kas_asc p f (n + 1)) - n) = n :: List.range' (n + 1) (ev lt (kas_asc p f (n + 1)) - (n + 1)) := by
        rw [range'_cons (by omega)]; congr 2
      rw [e]
      have := ih.2.2.1
      rw [List.append_assoc] at this
      exact this

/-- a run that goes down: A goes down, B behind it all alike -/
structure DR (lt : Nat → Nat → Bool) (A B : List Nat) (n : Nat) : Prop where
  len : A.length + B.length = n
  perm : (A ++ B).Perm (List.range n)
  down : A.Pairwise fun i j => lt2 lt j i
  up : B.Pairwise fun i j => i < j
  alike : ∀ b ∈ B, ∀ c ∈ B, lt b c = false
  over : ∀ a ∈ A, ∀ b ∈ B, lt b a = true
theorem DR.lt_n {A B : List Nat} {n : Nat} (d : DR lt A B n) : ∀ x ∈ A ++ B, x < n := fun x hx => List.mem_range.mp (d.perm.mem_iff.mp hx)
theorem DR.downAll {A B : List Nat} {n : Nat} (d : DR lt A B n) : (A ++ B.reverse).Pairwise fun i j => lt2 lt j i := by
  rw [List.pairwise_append]
  refine ⟨d.down, ?_, fun a ha b hb => .inl (d.over a ha b (List.mem_reverse.mp hb))⟩
  rw [List.pairwise_reverse]
  exact d.up.imp_of_mem fun {i j} hi hj h => .inr ⟨d.alike j hj i hi, h⟩

theorem desc_spec (o : SW lt) : ∀ (f n q r : Nat) (p : Array Nat) (A B : List Nat), p.toList = A ++ B ++ List.range' n r → f ≤ r → B.length = q + 1 → DR lt A B n →
    ∃ A' B', DR lt A' B' (ev lt (kas_desc f p n q)).2.1 ∧ (ev lt (kas_desc f p n q)).1.toList = A' ++ B' ++ List.range' (ev lt (kas_desc f p n q)).2.1 (n + r - (ev lt (kas_desc f p n q)).2.1) ∧
      B'.length = (ev lt (kas_desc f p n q)).2.2 + 1 ∧ n ≤ (ev lt (kas_desc f p n q)).2.1 ∧ (ev lt (kas_desc f p n q)).2.1 ≤ n + f
  | 0, n, q, r, p, A, B, hp, hf, hq, d => by
    refine ⟨A, B, d, ?_, hq, Nat.le_refl _, Nat.le_refl _⟩
    show p.toList = A ++ B ++ List.range' n (n + r - n)
    rw [hp, Nat.add_sub_cancel_left]
  | f + 1, n, q, r, p, A, B, hp, hf, hq, d => by
    have hlen := d.len
    obtain ⟨B0, y, rfl⟩ := snocL (S := B) (by exact om155q _ _ hq)
    have hlB : B0.length + 1 = q + 1 := by simpa using hq
    rw [range'_cons (by exact om146q _ _ hf)] at hp
    have gx : p.getD n 0 = n := getD_mid hp (by simp at hlen ⊢; exact om156q _ _ _ hlen)
    have gy : p.getD (n - 1) 0 = y := getD_mid (A := A ++ B0) (R := n :: List.range' (n + 1) (r - 1)) (by rw [hp]; simp) (by simp at hlen ⊢; exact om157q _ _ _ hlen)
    have my : y ∈ B0 ++ [y] := List.mem_append_right _ (.head _)
    have perm' : ∀ {C : List Nat}, C.Perm (A ++ (B0 ++ [y])) → (C ++ [n]).Perm (List.range (n + 1)) := fun {C} hC => by
      rw [List.range_succ]
      exact (hC.trans d.perm).append_right [n]
    have key : ev lt (kas_desc (f + 1) p n q) = if lt n y = true then (if q > 0 then ev lt (kas_desc f (kas_rev p (n - (q + 1)) n) (n + 1) 0) else ev lt (kas_desc f p (n + 1) 0)) else if lt y n = true then (p, n, q) else ev lt (kas_desc f p (n + 1) (q + 1)) := by
      show ev lt (if lt (p.getD n 0) (p.getD (n - 1) 0) = true then (if q > 0 then kas_desc f (kas_rev p (n - (q + 1)) n) (n + 1) 0 else kas_desc f p (n + 1) 0)
        else KasT.ask (p.getD (n - 1) 0) (p.getD n 0) fun d => if d = true then KasT.ret (p, n, q) else kas_desc f p (n + 1) (q + 1)) = _
      rw [gx, gy]
      by_cases h1 : lt n y = true
      · rw [if_pos h1, if_pos h1]; split <;> rfl
      · rw [if_neg h1, if_neg h1]
        show ev lt (if lt y n = true then _ else _) = _
        split <;> rfl
    rw [key]
    by_cases h1 : lt n y = true
    · rw [if_pos h1]
      -- the block turned about
      have dn : DR lt (A ++ (B0 ++ [y]).reverse) [n] (n + 1) := by
        refine ⟨by simp at hlen ⊢; exact om158q _ _ _ hlen, perm' (List.Perm.append_left _ (List.reverse_perm _)), d.downAll, List.pairwise_singleton _ _, ?_, ?_⟩
        · intro b hb c hc; rw [List.mem_singleton.mp hb, List.mem_singleton.mp hc]; exact o.irr _
        · intro a ha b hb
          rw [List.mem_singleton.mp hb]
          rcases List.mem_append.mp ha with q | q
          · exact o.tr _ _ _ h1 (d.over a q y my)
          · exact o.mixr h1 (d.alike a (List.mem_reverse.mp q) y my)
      have fin : ∀ p' : Array Nat, p'.toList = A ++ (B0 ++ [y]).reverse ++ [n] ++ List.range' (n + 1) (r - 1) → ∃ A' B', DR lt A' B' (ev lt (kas_desc f p' (n + 1) 0)).2.1 ∧ (ev lt (kas_desc f p' (n + 1) 0)).1.toList = A' ++ B' ++ List.range' (ev lt (kas_desc f p' (n + 1) 0)).2.1 (n + r - (ev lt (kas_desc f p' (n + 1) 0)).2.1) ∧
          B'.length = (ev lt (kas_desc f p' (n + 1) 0)).2.2 + 1 ∧ n ≤ (ev lt (kas_desc f p' (n + 1) 0)).2.1 ∧ (ev lt (kas_desc f p' (n + 1) 0)).2.1 ≤ n + (f + 1) := by
        intro p' hp'
        obtain ⟨A', B', c1, c2, c3, c4, c5⟩ := desc_spec o f (n + 1) 0 (r - 1) p' _ [n] hp' (by exact om150q _ _ hf) rfl dn
        refine ⟨A', B', c1, ?_, c3, by exact om159q _ _ c4, by exact om160q _ _ _ c5⟩
        rw [c2]
        congr 2
        exact om161q _ _ _ c4
      by_cases hq0 : q > 0
      · rw [if_pos hq0]
        refine fin _ ?_
        rw [rev_list p A (B0 ++ [y]) (n :: List.range' (n + 1) (r - 1)) hp _ _ (by simp at hlen; exact om162q _ _ _ _ hlB hlen) (by exact om163q _ _ _ hlen)]
        simp
      · rw [if_neg hq0]
        refine fin _ ?_
        have : B0 = [] := by cases B0 with | nil => rfl | cons _ _ => simp at hlB; omega
        subst this
        rw [hp]; simp
    · rw [if_neg h1]
      have h1' : lt n y = false := by simpa using h1
      by_cases h2 : lt y n = true
      · rw [if_pos h2]
        refine ⟨A, B0 ++ [y], d, ?_, hq, Nat.le_refl _, Nat.le_add_right _ _⟩
        show p.toList = A ++ (B0 ++ [y]) ++ List.range' n (n + r - n)
        rw [hp, Nat.add_sub_cancel_left, range'_cons (n := n) (r := r) (by exact om146q _ _ hf)]
      · rw [if_neg h2]
        have h2' : lt y n = false := by simpa using h2
        have dn : DR lt A (B0 ++ [y] ++ [n]) (n + 1) := by
          refine ⟨by simp at hlen ⊢; exact om164q _ _ _ hlen, by rw [← List.append_assoc]; exact perm' (List.Perm.refl _), d.down, ?_, ?_, ?_⟩
          · rw [List.pairwise_append]
            refine ⟨d.up, List.pairwise_singleton _ _, fun a ha b hb => ?_⟩
            rw [List.mem_singleton.mp hb]
            exact d.lt_n a (List.mem_append_right _ ha)
          · intro b hb c hc
            rcases List.mem_append.mp hb with q1 | q1 <;> rcases List.mem_append.mp hc with q2 | q2
            · exact d.alike b q1 c q2
            · rw [List.mem_singleton.mp q2]; exact o.ng _ _ _ (d.alike b q1 y my) h2'
            · rw [List.mem_singleton.mp q1]; exact o.ng _ _ _ h1' (d.alike y my c q2)
            · rw [List.mem_singleton.mp q1, List.mem_singleton.mp q2]; exact o.irr _
          · intro a ha b hb
            rcases List.mem_append.mp hb with q1 | q1
            · exact d.over a ha b q1
            · rw [List.mem_singleton.mp q1]; exact o.mixl h2' (d.over a ha y my)
        obtain ⟨A', B', c1, c2, c3, c4, c5⟩ := desc_spec o f (n + 1) (q + 1) (r - 1) p A (B0 ++ [y] ++ [n]) (by rw [hp]; simp) (by exact om150q _ _ hf) (by simp; exact om165q _ _ hlB) dn
        refine ⟨A', B', c1, ?_, c3, by exact om159q _ _ c4, by exact om160q _ _ _ c5⟩
        rw [c2]
        congr 2
        exact om161q _ _ _ c4

/-- what count hands on -/
def Cnt (lt : Nat → Nat → Bool) (N : Nat) (m : Nat) (p : Array Nat) : Prop := ∃ S, p.toList = S ++ List.range' m (N - m) ∧ S.length = m ∧ 1 ≤ m ∧ m ≤ N ∧ S.Perm (List.range m) ∧ S.Pairwise (lt2 lt)

theorem tail3_spec (o : SW lt) {N n : Nat} {p : Array Nat} {S : List Nat} (hp : p.toList = S ++ List.range' n (N - n)) (hl : S.length = n) (h1 : 1 ≤ n) (hn : n ≤ N) (hperm : S.Perm (List.range n)) (hd : S.Pairwise fun i j => lt2 lt j i) :
    Cnt lt N (ev lt (kas_tail3 n N p)).1 (ev lt (kas_tail3 n N p)).2 := by
  unfold kas_tail3
  rw [ev_bind]
  show Cnt lt N (ev lt (kas_asc (kas_rev p 0 n) (N - n) n)) (kas_rev p 0 n)
  have hr : (kas_rev p 0 n).toList = S.reverse ++ List.range' n (N - n) := by
    have := rev_list p [] S (List.range' n (N - n)) (by simpa using hp) 0 n rfl (by simp; exact om166q _ _ hl)
    simpa using this
  have hs : S.reverse.Pairwise (lt2 lt) := by rw [List.pairwise_reverse]; exact hd
  have hm : ∀ x ∈ S.reverse, x < n := fun x hx => List.mem_range.mp (hperm.mem_iff.mp (List.mem_reverse.mp hx))
  obtain ⟨a1, a2, a3, _⟩ := asc_spec o (N - n) n (N - n) _ _ hr (Nat.le_refl _) (by simpa using hl) h1 hs hm
  generalize ev lt (kas_asc (kas_rev p 0 n) (N - n) n) = M at *
  refine ⟨S.reverse ++ List.range' n (M - n), ?_, by simp; exact om167q _ _ _ hl a1, by exact om168q _ _ h1 a1, by omega, ?_, a3⟩
  · rw [hr, List.append_assoc]
    congr 1
    obtain ⟨a, rfl⟩ : ∃ a, M = n + a := ⟨M - n, by exact om169q _ _ a1⟩
    obtain ⟨b, rfl⟩ : ∃ b, N = n + a + b := ⟨N - (n + a), by omega⟩
    rw [show n + a + b - n = a + b from by omega, show n + a - n = a from by exact om170q _ _, show n + a + b - (n + a) = b from by exact om171q _ _ _, List.range'_append_1]
  · have e : List.range M = List.range n ++ List.range' n (M - n) := by
      obtain ⟨a, rfl⟩ : ∃ a, M = n + a := ⟨M - n, by exact om169q _ _ a1⟩
      rw [show n + a - n = a from by exact om170q _ _, List.range_eq_range', List.range_eq_range']
      have := List.range'_append_1 (s := 0) (m := n) (n := a)
      rw [Nat.zero_add] at this
      exact this.symm
    rw [e]
    exact ((List.reverse_perm S).trans hperm).append_right _

theorem descPart_spec (o : SW lt) {N n : Nat} {p : Array Nat} {A : List Nat} (hp : p.toList = A ++ List.range' n (N - n)) (hn : n < N) (d : DR lt A [n] (n + 1)) :
    Cnt lt N (ev lt (kas_descPart n N p)).1 (ev lt (kas_descPart n N p)).2 := by
  unfold kas_descPart
  rw [ev_bind]
  obtain ⟨A', B', c1, c2, c3, c4, c5⟩ := desc_spec o (N - (n + 1)) (n + 1) 0 (N - (n + 1)) p A [n] (by rw [hp, range'_cons (n := n) (r := N - n) (by exact om172q _ _ hn), List.append_assoc, Nat.sub_sub]; rfl) (Nat.le_refl _) rfl d
  generalize hR : ev lt (kas_desc (N - (n + 1)) p (n + 1) 0) = R at *
  obtain ⟨p', n', q'⟩ := R
  dsimp only at *
  have e : n + 1 + (N - (n + 1)) - n' = N - n' := by exact om173q _ _ _ hn
  rw [e] at c2
  have hlen := c1.len
  have hperm : (A' ++ B'.reverse).Perm (List.range n') := (List.Perm.append_left _ (List.reverse_perm _)).trans c1.perm
  by_cases hq : q' > 0
  · rw [if_pos hq]
    refine tail3_spec o (S := A' ++ B'.reverse) ?_ (by simp; exact om174q _ _ _ hlen) (by exact om175q _ _ _ _ c3 hlen) (by exact om176q _ _ _ hn c5) hperm c1.downAll
    rw [rev_list p' A' B' _ c2 _ _ (by exact om177q _ _ _ _ c3 hlen) (by exact om163q _ _ _ hlen)]
  · rw [if_neg hq]
    have : B'.reverse = B' := by
      obtain ⟨b, rfl⟩ : ∃ b, B' = [b] := List.length_eq_one_iff.mp (by exact om178q _ _ c3 hq)
      rfl
    refine tail3_spec o (S := A' ++ B'.reverse) ?_ (by simp; exact om174q _ _ _ hlen) (by exact om175q _ _ _ _ c3 hlen) (by exact om176q _ _ _ hn c5) hperm c1.downAll
    rw [this]; exact c2

theorem count_spec (o : SW lt) {N : Nat} (hN : 1 ≤ N) : Cnt lt N (ev lt (kas_count N (List.toArray (List.range N)))).1 (ev lt (kas_count N (List.toArray (List.range N)))).2 := by
  have hp0 : (List.toArray (List.range N)).toList = [0] ++ List.range' 1 (N - 1) := by
    rw [List.toList_toArray, List.range_eq_range', range'_cons hN]; rfl
  obtain ⟨a1, a2, a3, a4⟩ := asc_spec o (N - 1) 1 (N - 1) _ [0] hp0 (Nat.le_refl _) rfl (Nat.le_refl _) (List.pairwise_singleton _ _) (by intro x hx; rw [List.mem_singleton.mp hx]; exact om179q)
  unfold kas_count
  rw [ev_bind]
  generalize hn : ev lt (kas_asc (List.toArray (List.range N)) (N - 1) 1) = n at *
  have hS : [0] ++ List.range' 1 (n - 1) = List.range n := by rw [List.range_eq_range', range'_cons (n := 0) (r := n) (by exact om180q _ a1)]; rfl
  have split : (List.toArray (List.range N)).toList = List.range n ++ List.range' n (N - n) := by
    obtain ⟨a, rfl⟩ : ∃ a, N = n + a := ⟨N - n, by omega⟩
    rw [List.toList_toArray, show n + a - n = a from by exact om170q _ _, List.range_eq_range', List.range_eq_range']
    have := List.range'_append_1 (s := 0) (m := n) (n := a)
    rw [Nat.zero_add] at this
    exact this.symm
  rw [hS] at a3
  have gid : ∀ i, i < N → (List.toArray (List.range N)).getD i 0 = i := fun i hi => by
    rw [getD_list _ _ rfl, List.toList_toArray, List.getD_eq_getElem?_getD, List.getElem?_range hi]; rfl
  by_cases hnN : (n == N) = true
  · rw [if_pos hnN]
    have : n = N := by simpa using hnN
    exact ⟨List.range n, split, List.length_range, a1, Nat.le_of_eq this, List.Perm.refl _, a3⟩
  · rw [if_neg hnN]
    have hlt : n < N := by
      have : n ≠ N := by simpa using hnN
      omega
    have h4 : lt n (n - 1) = true := by
      have := a4 (by omega)
      rw [gid n hlt, gid (n - 1) (by exact om181q _ _ hlt)] at this
      exact this
    by_cases h1 : n > 1
    · rw [if_pos h1]
      rw [gid 0 (by exact om182q _ hN), gid (n - 1) (by exact om181q _ _ hlt)]
      show Cnt lt N (ev lt (if lt 0 (n - 1) = true then KasT.ret (n, List.toArray (List.range N)) else kas_descPart n N (kas_rev (List.toArray (List.range N)) 0 n))).1 (ev lt (if lt 0 (n - 1) = true then KasT.ret (n, List.toArray (List.range N)) else kas_descPart n N (kas_rev (List.toArray (List.range N)) 0 n))).2
      by_cases h2 : lt 0 (n - 1) = true
      · rw [if_pos h2]
        exact ⟨List.range n, split, List.length_range, a1, Nat.le_of_lt hlt, List.Perm.refl _, a3⟩
      · rw [if_neg h2]
        have h2' : lt 0 (n - 1) = false := by simpa using h2
        have le : ∀ i j, i < n → j < n → i < j → lt j i = false := fun i j hi hj hij => by
          have := List.pairwise_iff_getElem.mp a3 i j (by simpa using hi) (by simpa using hj) hij
          rw [List.getElem_range, List.getElem_range] at this
          exact lt2_le o this
        have le' : ∀ i j, i < n → j < n → lt i j = false := by
          have c0 : ∀ j, j < n → lt 0 j = false := fun j hj => by
            by_cases e : j = n - 1
            · rw [e]; exact h2'
            · exact o.ng _ _ _ h2' (le j (n - 1) hj (by exact om183q _ h1) (by exact om184q _ _ hj e))
          intro i j hi hj
          by_cases e : i = 0
          · rw [e]; exact c0 j hj
          · exact o.ng _ _ _ (le 0 i (by exact om185q _ h1) hi (by exact om186q _ e)) (c0 j hj)
        refine descPart_spec o (A := (List.range n).reverse) ?_ hlt ⟨by simp, ?_, ?_, List.pairwise_singleton _ _, ?_, ?_⟩
        · exact rev_list _ [] (List.range n) (List.range' n (N - n)) split 0 n rfl (by simp)
        · rw [List.range_succ]; exact (List.reverse_perm _).append_right _
        · rw [List.pairwise_reverse]; exact a3
        · intro b hb c hc; rw [List.mem_singleton.mp hb, List.mem_singleton.mp hc]; exact o.irr _
        · intro a ha b hb
          rw [List.mem_singleton.mp hb]
          exact o.mixr h4 (le' a (n - 1) (List.mem_range.mp (List.mem_reverse.mp ha)) (by exact om183q _ h1))
    · rw [if_neg h1]
      have e1 : n = 1 := by exact om187q _ a1 h1
      subst e1
      refine descPart_spec o (A := [0]) (by simpa using split) hlt ⟨rfl, List.Perm.refl _, List.pairwise_singleton _ _, List.pairwise_singleton _ _, ?_, ?_⟩
      · intro b hb c hc; rw [List.mem_singleton.mp hb, List.mem_singleton.mp hc]; exact o.irr _
      · intro a ha b hb
        rw [List.mem_singleton.mp hb, List.mem_singleton.mp ha]; exact h4

theorem place_spec (o : SW lt) (p : Array Nat) (S R : List Nat) (k : Nat) (hp : p.toList = S ++ k :: R) (hk : S.length = k) (hs : S.Pairwise (lt2 lt)) : ∀ (f l r : Nat), l ≤ r → r ≤ k → r - l ≤ f →
    (∀ i, i < l → lt k (S.getD i 0) = false) → (∀ i, r ≤ i → i < k → lt k (S.getD i 0) = true) →
    ev lt (kas_place p k f l r) ≤ k ∧ (∀ i, i < ev lt (kas_place p k f l r) → lt k (S.getD i 0) = false) ∧ (∀ i, ev lt (kas_place p k f l r) ≤ i → i < k → lt k (S.getD i 0) = true)
  | 0, l, r, hlr, hr, hf, h1, h2 => by
    show l ≤ k ∧ (∀ i, i < l → _) ∧ (∀ i, l ≤ i → i < k → _)
    exact ⟨by exact om188q _ _ _ hlr hr, h1, fun i hi hik => h2 i (by exact om189q _ _ _ hf hi) hik⟩
  | f + 1, l, r, hlr, hr, hf, h1, h2 => by
    by_cases hg : l ≥ r
    · have key : ev lt (kas_place p k (f + 1) l r) = l := by
        show ev lt (if l ≥ r then KasT.ret l else _) = l
        rw [if_pos hg]; rfl
      rw [key]
      exact ⟨by exact om188q _ _ _ hlr hr, h1, fun i hi hik => h2 i (by exact om190q _ _ _ hg hi) hik⟩
    · have gx : p.getD k 0 = k := getD_mid hp hk.symm
      have gm : p.getD ((l + r) / 2) 0 = S.getD ((l + r) / 2) 0 := by
        rw [getD_list p _ hp, List.getD_eq_getElem?_getD, List.getD_eq_getElem?_getD, List.getElem?_append_left (by exact om191q _ _ _ _ hk hr hg)]
      have key : ev lt (kas_place p k (f + 1) l r) = if lt k (S.getD ((l + r) / 2) 0) = true then ev lt (kas_place p k f l ((l + r) / 2)) else ev lt (kas_place p k f ((l + r) / 2 + 1) r) := by
        show ev lt (if l ≥ r then KasT.ret l else KasT.ask (p.getD k 0) (p.getD ((l + r) / 2) 0) fun c => if c = true then kas_place p k f l ((l + r) / 2) else kas_place p k f ((l + r) / 2 + 1) r) = _
        rw [if_neg hg, gx, gm]
        show ev lt (if lt k (S.getD ((l + r) / 2) 0) = true then _ else _) = _
        split <;> rfl
      rw [key]
      have mono : ∀ i j, i < j → j < k → lt (S.getD j 0) (S.getD i 0) = false := fun i j hij hj => by
        have := List.pairwise_iff_getElem.mp hs i j (by exact om192q _ _ _ _ hk hij hj) (by exact om111q _ _ _ hk hj) hij
        rw [List.getD_eq_getElem?_getD, List.getD_eq_getElem?_getD, List.getElem?_eq_getElem (by exact om111q _ _ _ hk hj), List.getElem?_eq_getElem (by exact om192q _ _ _ _ hk hij hj)]
        exact lt2_le o this
      by_cases hm : lt k (S.getD ((l + r) / 2) 0) = true
      · rw [if_pos hm]
        refine place_spec o p S R k hp hk hs f l ((l + r) / 2) (by exact om193q _ _ hg) (by exact om194q _ _ _ hr hg) (by exact om195q _ _ _ hf) h1 fun i hi hik => ?_
        by_cases e : i = (l + r) / 2
        · rw [e]; exact hm
        · exact o.mixr hm (mono _ _ (by exact om196q _ _ _ hi e) hik)
      · rw [if_neg hm]
        have hm' : lt k (S.getD ((l + r) / 2) 0) = false := by simpa using hm
        refine place_spec o p S R k hp hk hs f ((l + r) / 2 + 1) r (by exact om197q _ _ hg) (by exact om35q _ _ hr) (by exact om198q _ _ _ hf) (fun i hi => ?_) h2
        by_cases e : i = (l + r) / 2
        · rw [e]; exact hm'
        · exact o.ng _ _ _ hm' (mono _ _ (by exact om199q _ _ _ hi e) (by exact om200q _ _ _ hr hg))

theorem bin_spec (o : SW lt) {N : Nat} : ∀ (f k : Nat) (p : Array Nat), k + f = N → Cnt lt N k p → (ev lt (kas_bin f p k)).toList.Perm (List.range N) ∧ (ev lt (kas_bin f p k)).toList.Pairwise (lt2 lt)
  | 0, k, p, hk, h => by
    obtain ⟨S, h1, h2, h3, h4, h5, h6⟩ := h
    have : k = N := by exact om201q _ _ hk
    subst this
    show p.toList.Perm _ ∧ p.toList.Pairwise _
    rw [h1, Nat.sub_self]
    simpa using ⟨h5, h6⟩
  | f + 1, k, p, hk, h => by
    obtain ⟨S, h1, h2, h3, h4, h5, h6⟩ := h
    rw [range'_cons (by exact om202q _ _ _ hk)] at h1
    show (ev lt ((kas_place p k k 0 k).bind fun l => kas_bin f (bubble p k (k - l)) (k + 1))).toList.Perm _ ∧ (ev lt ((kas_place p k k 0 k).bind fun l => kas_bin f (bubble p k (k - l)) (k + 1))).toList.Pairwise _
    rw [ev_bind]
    obtain ⟨p1, p2, p3⟩ := place_spec o p S _ k h1 h2 h6 k 0 k (by exact om203q _) (by exact om204q _) (by exact om205q _) (fun i hi => absurd hi (by exact om206q _)) (fun i hi hik => absurd hik (by exact om207q _ _ hi))
    generalize ev lt (kas_place p k k 0 k) = l at *
    have hsp : S = S.take l ++ S.drop l := (List.take_append_drop l S).symm
    have hb : (bubble p k (k - l)).toList = S.take l ++ k :: S.drop l ++ List.range' (k + 1) (N - k - 1) := by
      refine bub_list p (S.take l) (S.drop l) _ k (by rw [h1, ← hsp]) k l (by simp; exact om208q _ _ _ h2 p1) (by simp; exact om209q _ _ _ h2)
    refine bin_spec o f (k + 1) _ (by exact om210q _ _ _ hk) ⟨S.take l ++ k :: S.drop l, ?_, by simp; exact om211q _ _ _ h2, by exact om34q _, by exact om212q _ _ _ hk, ?_, ?_⟩
    · rw [hb, show N - k - 1 = N - (k + 1) from by exact om213q _ _]
    · rw [List.range_succ]
      refine (List.perm_middle).trans ?_
      rw [← hsp]
      exact (List.Perm.cons k h5).trans (List.perm_append_singleton k _).symm
    · have inS : ∀ x ∈ S, x < k := fun x hx => List.mem_range.mp (h5.mem_iff.mp hx)
      rw [hsp] at h6
      rw [List.pairwise_append] at h6 ⊢
      refine ⟨h6.1, ?_, fun a ha b hb => ?_⟩
      · rw [List.pairwise_cons]
        refine ⟨fun b hb => ?_, h6.2.1⟩
        obtain ⟨i, hi, rfl⟩ := List.getElem_of_mem hb
        refine .inl ?_
        rw [List.length_drop] at hi
        have := p3 (l + i) (by exact om214q _ _) (by exact om215q _ _ _ _ h2 hi)
        rw [List.getD_eq_getElem?_getD, List.getElem?_eq_getElem (by exact om216q _ _ _ hi)] at this
        rw [List.getElem_drop]
        exact this
      · rcases List.mem_cons.mp hb with e | e
        · rw [e]
          obtain ⟨i, hi, rfl⟩ := List.getElem_of_mem ha
          rw [List.length_take] at hi
          have := p2 i (by exact om217q _ _ _ hi)
          rw [List.getD_eq_getElem?_getD, List.getElem?_eq_getElem (by exact om140q _ _ _ hi)] at this
          rw [List.getElem_take]
          exact .inr ⟨this, inS _ (List.getElem_mem _)⟩
        · exact h6.2.2 a ha b e

/-- the sort is stable -/
theorem sort_spec (o : SW lt) {N : Nat} (hN : 1 ≤ N) : (ev lt (kas_sort N)).toList.Perm (List.range N) ∧ (ev lt (kas_sort N)).toList.Pairwise (lt2 lt) := by
  have h := count_spec o hN
  unfold kas_sort
  rw [ev_bind]
  generalize ev lt (kas_count N (List.toArray (List.range N))) = r at *
  obtain ⟨m, p⟩ := r
  dsimp only at *
  by_cases hm : m < N
  · rw [if_pos hm]
    have h1 : max m 1 = m := by obtain ⟨S, _, _, h3, _⟩ := h; omega
    rw [h1]
    exact bin_spec o (N - m) m p (by exact om218q _ _ hm) h
  · rw [if_neg hm]
    obtain ⟨S, h1, h2, h3, h4, h5, h6⟩ := h
    have : m = N := by exact om219q _ _ hm h4
    subst this
    show p.toList.Perm _ ∧ p.toList.Pairwise _
    rw [h1, Nat.sub_self]
    simpa using ⟨h5, h6⟩
end
end Mine
end
section
open PySem PySem.W PyProof.Rows
set_option Elab.async false
set_option linter.all false
set_option maxRecDepth 100000
namespace Mine
/-- all that is asked lies below N -/
def AskP {α : Type} (N : Nat) (P : α → Prop) : KasT α → Prop
  | .ret a => P a
  | .ask i j k => i < N ∧ j < N ∧ ∀ b, AskP N P (k b)
theorem AskP.bind {α β : Type} {N : Nat} {P : α → Prop} {P' : β → Prop} {f : α → KasT β} (hf : ∀ a, P a → AskP N P' (f a)) : ∀ {t : KasT α}, AskP N P t → AskP N P' (t.bind f)
  | .ret a, h => hf a h
  | .ask i j k, h => ⟨h.1, h.2.1, fun b => AskP.bind hf (h.2.2 b)⟩
theorem ev_wp2 {α : Type} {lt : Nat → Nat → Bool} {cmp : Nat → Nat → (Bool → Shared → Prop) → Shared → Prop} {N : Nat} {Q : α → Shared → Prop} {P : α → Prop} (S : Shared → Prop)
    (hc : ∀ i j C s, S s → i < N → j < N → (∀ s', S s' → C (lt i j) s') → cmp i j C s) :
    ∀ (t : KasT α) (s : Shared), AskP N P t → S s → (∀ s', S s' → Q (ev lt t) s') → t.kasWp cmp Q s
  | .ret a, s, _, hs, h => h s hs
  | .ask i j k, s, ha, hs, h => hc i j _ s hs ha.1 ha.2.1 fun s' hs' => ev_wp2 S hc (k (lt i j)) s' (ha.2.2 _) hs' h
def Below (N : Nat) (p : Array Nat) : Prop := ∀ x ∈ p.toList, x < N
theorem Below.getD {N : Nat} {p : Array Nat} (h : Below N p) (hN : 1 ≤ N) (i : Nat) : p.getD i 0 < N := by
  rw [Array.getD_eq_getD_getElem?, ← Array.getElem?_toList]
  cases e : p.toList[i]? with
  | none => exact hN
  | some x => exact h x (List.mem_of_getElem? e)
theorem Below.rev {N : Nat} {p : Array Nat} (h : Below N p) (i j : Nat) : Below N (kas_rev p i j) := fun x hx => h x ((mirror_perm p i j _).toList.mem_iff.mp hx)
theorem Below.bub {N : Nat} {p : Array Nat} (h : Below N p) (i j : Nat) : Below N (bubble p i j) := fun x hx => h x ((bubble_perm p i j).toList.mem_iff.mp hx)
theorem asc_in {N : Nat} (hN : 1 ≤ N) {p : Array Nat} (h : Below N p) : ∀ (f n : Nat), AskP N (fun _ => True) (kas_asc p f n)
  | 0, n => trivial
  | f + 1, n => by
    refine ⟨h.getD hN _, h.getD hN _, fun b => ?_⟩
    cases b
    · exact asc_in hN h f (n + 1)
    · exact trivial
theorem desc_in {N : Nat} (hN : 1 ≤ N) : ∀ (f : Nat) (p : Array Nat) (n q : Nat), Below N p → AskP N (fun r => Below N r.1) (kas_desc f p n q)
  | 0, p, n, q, h => h
  | f + 1, p, n, q, h => by
    refine ⟨h.getD hN _, h.getD hN _, fun b => ?_⟩
    cases b
    · refine ⟨h.getD hN _, h.getD hN _, fun b => ?_⟩
      cases b
      · exact desc_in hN f p (n + 1) (q + 1) h
      · exact h
    · show AskP N _ (if q > 0 then kas_desc f (kas_rev p (n - (q + 1)) n) (n + 1) 0 else kas_desc f p (n + 1) 0)
      split
      · exact desc_in hN f _ (n + 1) 0 (h.rev _ _)
      · exact desc_in hN f p (n + 1) 0 h
theorem tail3_in {N : Nat} (hN : 1 ≤ N) {p : Array Nat} (h : Below N p) (n r : Nat) : AskP N (fun r => Below N r.2) (kas_tail3 n r p) := by
  unfold kas_tail3
  refine AskP.bind (P := fun _ => True) (fun m _ => ?_) (asc_in hN (h.rev _ _) _ _)
  exact (h.rev _ _ : Below N (kas_rev p 0 n))
theorem descPart_in {N : Nat} (hN : 1 ≤ N) {p : Array Nat} (h : Below N p) (n r : Nat) : AskP N (fun r => Below N r.2) (kas_descPart n r p) := by
  refine AskP.bind (fun a ha => ?_) (desc_in hN _ p _ _ h)
  show AskP N _ (if a.2.2 > 0 then _ else _)
  split
  · exact tail3_in hN (Below.rev ha _ _) _ _
  · exact tail3_in hN ha _ _
theorem count_in {N : Nat} (hN : 1 ≤ N) {p : Array Nat} (h : Below N p) (r : Nat) : AskP N (fun r => Below N r.2) (kas_count r p) := by
  refine AskP.bind (fun n _ => ?_) (asc_in hN h _ _)
  show AskP N _ (if (n == r) = true then _ else if n > 1 then _ else _)
  split
  · exact h
  · split
    · refine ⟨h.getD hN _, h.getD hN _, fun b => ?_⟩
      cases b
      · exact descPart_in hN (h.rev _ _) _ _
      · exact h
    · exact descPart_in hN h _ _
theorem place_in {N : Nat} (hN : 1 ≤ N) {p : Array Nat} (h : Below N p) (k : Nat) : ∀ (f l r : Nat), AskP N (fun _ => True) (kas_place p k f l r)
  | 0, _, _ => trivial
  | f + 1, l, r => by
    show AskP N _ (if l ≥ r then _ else _)
    split
    · exact trivial
    · refine ⟨h.getD hN _, h.getD hN _, fun b => ?_⟩
      cases b
      · exact place_in hN h k f _ _
      · exact place_in hN h k f _ _
theorem bin_in {N : Nat} (hN : 1 ≤ N) : ∀ (f : Nat) (p : Array Nat) (k : Nat), Below N p → AskP N (Below N) (kas_bin f p k)
  | 0, p, _, h => h
  | f + 1, p, k, h => AskP.bind (fun l _ => bin_in hN f _ (k + 1) (h.bub _ _)) (place_in hN h k k 0 k)
theorem sort_in {N : Nat} (hN : 1 ≤ N) : AskP N (Below N) (kas_sort N) := by
  refine AskP.bind (fun a ha => ?_) (count_in hN (fun x hx => List.mem_range.mp (by simpa using hx)) N)
  show AskP N _ (if a.1 < N then _ else _)
  split
  · exact bin_in hN _ _ _ ha
  · exact ha
end Mine
end
section
open PySem PySem.W PyProof.Rows PySem.Calls
set_option Elab.async false
set_option linter.all false
set_option maxRecDepth 100000
namespace Mine
/-- what the sort makes of vs -/
def srt (b : Bool) (lt : Value → Value → Bool) (ks vs : List Value) : List Value :=
  katRev b (((ev (fun i j => lt ((katRev b ks).getD i .none) ((katRev b ks).getD j .none)) (kas_sort vs.length)).toList).map fun i => (katRev b vs).getD i .none)

section
variable {prog : Program} {w : World} {A : Around} {E : Value → Shared → Prop} {s : Shared} {mg mb : Str → Option Value} {g : Heap}

theorem key_lt {b : Bool} {u v : Value} {k k' : Key} {Q : Bool → Shared → Prop} (hu : KeyAt b s.heap u k) (hv : KeyAt b s.heap v k')
    (h : Q (k.lt k') s) : wpAny (model prog w) A (keyLt' (tuples' true) u v) Q E s := by
  obtain ⟨a, xs, rfl, ⟨oa, ha, hac, na, had⟩, hx⟩ := hu
  obtain ⟨c, ys, rfl, ⟨oc, hc, hcc, nc, hcd⟩, hy⟩ := hv
  have hS : ∀ {i : Nat} {S T : Str} {t u : Tok} {r : List (Value × Value)} {fin : Bool} {Q : Bool → Shared → Prop}, (S.cps.toList = T.cps.toList → KatLex prog w A true fin Q r (i + 1) s) →
      (S.cps.toList ≠ T.cps.toList → Q (decide (S.cps.toList < T.cps.toList)) s) → KatLex prog w A true fin Q ((Value.str S t, Value.str T u) :: r) i s := by
    intro i S T t u r fin Q h1 h2
    refine kat_cons (eqBool_str ?_)
    rw [str_eq_iff]
    by_cases e : S.cps.toList = T.cps.toList
    · rw [decide_eq_true e]; exact kat_yes (h1 e)
    · rw [decide_eq_false e]
      refine kat_no ?_
      by_cases hi : i = 0
      · rw [show (true && i == 0) = true from by rw [hi]; rfl]; exact oneLt_str (h2 e)
      · rw [show (true && i == 0) = false from by simpa using hi]; exact kat_one _ _ (lt_str (h2 e))
  have hI : ∀ {i : Nat} {S T : Int} {t u : Tok} {r : List (Value × Value)} {fin : Bool} {Q : Bool → Shared → Prop}, (S = T → KatLex prog w A true fin Q r (i + 1) s) →
      (S ≠ T → Q (decide (S < T)) s) → KatLex prog w A true fin Q ((Value.int S t, Value.int T u) :: r) i s := by
    intro i S T t u r fin Q h1 h2
    refine kat_cons (wpAny_eqBool_int ?_)
    by_cases e : S = T
    · rw [show (S == T) = true from by rw [e]; simp]; exact kat_yes (h1 e)
    · rw [show (S == T) = false from beq_eq_false_iff_ne.mpr e]
      refine kat_no ?_
      by_cases hi : i = 0
      · rw [show (true && i == 0) = true from by rw [hi]; rfl]; exact oneLt_int (h2 e)
      · rw [show (true && i == 0) = false from by simpa using hi]; exact kat_one _ _ (lt_int (h2 e))
  refine kat_lt ha had hc hcd ?_
  cases b with
  | true =>
    simp only [if_true] at hx hy
    obtain ⟨S, t, t', T, t'', rfl, e1, e2⟩ := hx
    obtain ⟨S₂, u, u', T₂, u'', rfl, f1, f2⟩ := hy
    simp only [Key.lt, e1, e2, f1, f2] at h
    refine hS (fun e => ?_) fun e => ?_
    · rw [if_pos e] at h
      refine hI (fun e' => ?_) fun e' => ?_
      · rw [if_pos e'] at h
        refine hS (fun e'' => ?_) fun e'' => h
        rw [e'', decide_eq_false (List.lt_irrefl _)] at h
        exact kat_nil h
      · rw [if_neg e'] at h; exact h
    · rw [if_neg e] at h; exact h
  | false =>
    simp only [Bool.false_eq_true, if_false] at hx hy
    obtain ⟨S, t, t', rfl, e1, e2⟩ := hx
    obtain ⟨S₂, u, u', rfl, f1, f2⟩ := hy
    simp only [Key.lt, e1, e2, f1, f2] at h
    refine hS (fun e => ?_) fun e => ?_
    · rw [if_pos e] at h
      refine hI (fun e' => ?_) fun e' => ?_
      · rw [if_pos e', decide_eq_false (List.lt_irrefl _)] at h
        exact kat_nil h
      · rw [if_neg e'] at h; exact h
    · rw [if_neg e] at h; exact h

theorem key_kind {kb : Bool} {kf : Value → Key} {vs : List Value} {Q : SortKind → Shared → Prop} (h1 : 1 ≤ vs.length) (hk : ∀ v ∈ vs, KeyAt kb s.heap v (kf v)) (h : Q (tuples' true) s) : wpAny (model prog w) A (keyKind' vs.toArray) Q E s := by
  have tups : ∀ vs : List Value, (∀ v ∈ vs, KeyAt kb s.heap v (kf v)) → ∃ fs, KatTups s.heap vs fs ∧ fs.length = vs.length ∧ ∀ f ∈ fs, ∃ S t, f = Value.str S t := by
    intro vs
    induction vs with
    | nil => intro _; exact ⟨[], trivial, rfl, fun _ h => by cases h⟩
    | cons v r ih =>
      intro hk
      obtain ⟨fs, a1, a2, a3⟩ := ih fun u hu => hk u (.tail _ hu)
      obtain ⟨a, xs, rfl, ⟨oa, ha, hac, na, had⟩, hx⟩ := hk v (.head _)
      obtain ⟨S, t, hf⟩ : ∃ S t, xs[0]? = some (Value.str S t) := by
        cases kb with
        | true => simp only [if_true] at hx; obtain ⟨S, t, t', T, t'', rfl, _⟩ := hx; exact ⟨S, t, rfl⟩
        | false => simp only [Bool.false_eq_true, if_false] at hx; obtain ⟨S, t, t', rfl, _⟩ := hx; exact ⟨S, t, rfl⟩
      exact ⟨.str S t :: fs, KatTups.cons ha hac had hf a1, by simp [a2], fun f hf => by
        rcases List.mem_cons.mp hf with rfl | hf
        · exact ⟨S, t, rfl⟩
        · exact a3 f hf⟩
  obtain ⟨fs, a1, a2, a3⟩ := tups vs hk
  refine kat_kind (T := .type "str") a1 (by exact om387q _ _ h1 a2) (fun f hf => ?_) (by decide) h
  obtain ⟨S, t, rfl⟩ := a3 f hf
  exact Looks.of_pure rfl

theorem katRev_getD {α : Type} (b : Bool) (l : List α) (d : α) (i : Nat) (hi : i < l.length) : (katRev b l).getD i d ∈ l := by
  have h : ∀ l' : List α, i < l'.length → l'.getD i d ∈ l' := fun l' h' => by
    rw [List.getD_eq_getElem?_getD, List.getElem?_eq_getElem h']; exact List.getElem_mem _
  cases b with
  | true => exact List.mem_reverse.mp (h l.reverse (by simpa using hi))
  | false => exact h l hi

/-- list.sort on tuples, with reverse=b -/
theorem ls_body {b kb : Bool} {kf : Value → Key} {a : Addr} {vs : List Value} {n : Nat} {kw : List (Str × Value)} {P : PySem.Fin → Shared → Prop} (hkw : kw = [] ∧ b = false ∨ kw = [(Str.ofString "reverse", .bool b)]) (ho : s.heap.get? a = some (lst vs n)) (h2 : 2 ≤ vs.length) (h64 : vs.length < 64)
    (hk : ∀ v ∈ vs, KeyAt kb s.heap v (kf v))
    (hP : ∀ h' n', But a s.heap h' → h'.get? a = some (lst (srt b (klt kf) vs vs) n') → ∀ tk, P (.done (.ret .none)) { s with heap := h', toks := tk }) :
    wpAny (model prog w) A (Builtin.«list.sort» ⟨[.ref a], kw⟩) P E s := by
  have ha : a < s.heap.objs.size := Heap.lt_size ho
  have s1 := Heap.SameBut.update s.heap a (Obj.mapSeq fun _ => (#[] : Array Value))
  obtain ⟨e1, ho1⟩ : ∃ e1, (s.heap.update a (Obj.mapSeq fun _ => (#[] : Array Value))).get? a = some (seqObj "list" #[] e1) := ⟨_, get?_update_seq ho fun _ => #[]⟩
  have hsz0 : (s.heap.update a (Obj.mapSeq fun _ => (#[] : Array Value))).objs.size = s.heap.objs.size := Heap.size_update ..
  generalize hH1 : s.heap.update a (Obj.mapSeq fun _ => (#[] : Array Value)) = H1 at *
  generalize hH3 : (H1.push (seqObj "tuple" vs.toArray 0)).push (seqObj "list" #[] 0) = H3
  have k3 : ∀ b o, b ≠ a → s.heap.get? b = some o → H3.get? b = some o := fun b o q e => by rw [← hH3]; exact Heap.get?_push_of_some _ (Heap.get?_push_of_some _ (s1.extBut b o q e))
  have ho3 : H3.get? a = some (seqObj "list" #[] e1) := by rw [← hH3]; exact Heap.get?_push_of_some _ (Heap.get?_push_of_some _ ho1)
  have hk3 : ∀ v ∈ vs, KeyAt kb H3 v (kf v) := fun v hv => keyAt_hide ho (fun b o q e => k3 b o q e) (hk v hv)
  have hn2 : ¬ vs.toArray.size < 2 := by rw [List.size_toArray]; exact om388q _ h2
  have hcmp : ∀ i j C (s' : Shared), (∃ tk, s' = { s with heap := H3, toks := tk }) → i < vs.length → j < vs.length → (∀ s'' : Shared, (∃ tk, s'' = { s with heap := H3, toks := tk }) → C (klt kf ((katRev b vs).getD i .none) ((katRev b vs).getD j .none)) s'') →
      kas_ask prog w A (tuples' true) (katRev b vs) i j C s' := by
    rintro i j C s' ⟨tk, rfl⟩ hi hj hC
    exact key_lt (hk3 _ (katRev_getD b vs _ i hi)) (hk3 _ (katRev_getD b vs _ j hj)) (hC _ ⟨tk, rfl⟩)
  have hrun : ∀ G : Array Nat → Shared → Prop, G (ev (fun i j => klt kf ((katRev b vs).getD i .none) ((katRev b vs).getD j .none)) (kas_sort vs.length)) { s with heap := H3 } →
      (kas_sort (katRev b vs).length).kasWp (kas_ask prog w A (tuples' true) (katRev b vs)) (fun p s' => p = ev (fun i j => klt kf ((katRev b vs).getD i .none) ((katRev b vs).getD j .none)) (kas_sort vs.length) ∧ ∃ tk, s' = { s with heap := H3, toks := tk }) { s with heap := H3 } := by
    intro G _
    rw [kat_len]
    exact ev_wp2 (N := vs.length) (fun s' => ∃ tk, s' = { s with heap := H3, toks := tk }) hcmp _ _ (sort_in (by exact om56q _ h2)) ⟨_, rfl⟩ fun s' hs' => ⟨rfl, hs'⟩
  have hl2 : 2 ≤ (katRev b vs).length := by rw [kat_len]; exact h2
  have hl64 : (katRev b vs).length < 64 := by rw [kat_len]; exact h64
  rcases hkw with ⟨rfl, rfl⟩ | rfl
  · rw [list_sort_plain]
    refine wpAny_bind (listItems_at ho rfl ?_)
    refine wpAny_bind (listUpdate_at ho rfl ?_ (by rw [List.size_toArray, sizeLine_eq]; exact om389q _ h64) (Nat.zero_le _))
    rw [hH1]
    refine wpAny_bind (seqEpoch_at ho1 rfl ?_)
    refine wpAny_bind (wpAny_newTuple ?_ (by show vs.length ≤ _; rw [sizeLine_eq]; exact om389q _ h64))
    refine wpAny_bind (wpAny_newList ?_ (Nat.zero_le _))
    refine wpAny_holding ?_
    show wpAny (model prog w) A _ P E { s with heap := (H1.push (seqObj "tuple" vs.toArray 0)).push (seqObj "list" #[] 0) }
    rw [hH3]
    dsimp only
    rw [if_neg hn2, if_neg hn2]
    refine wpAny_bind (key_kind (by exact om56q _ h2) hk3 ?_)
    refine wpAny_bind (wpAny_mono (kat_run (ks := vs) (vs := vs) (Q := fun st' s' => ∃ p : Array Nat, p.size = vs.length ∧ arrOf st' = p.map (kas_item (vs.toArray.zip vs.toArray)) ∧ failedOf st' = none ∧ (p = ev (fun i j => klt kf ((katRev false vs).getD i .none) ((katRev false vs).getD j .none)) (kas_sort vs.length) ∧ ∃ tk, s' = { s with heap := H3, toks := tk }))
      rfl h2 h64 (fun p' st' s' a1 a2 a3 a4 => ⟨p', a1, a2, a3, a4⟩) (hrun (fun _ _ => True) trivial)) ?_ fun _ _ e => e)
    rintro ⟨⟨⟩, st'⟩ s' ⟨p, hps, har, hf, hpe, tk, rfl⟩
    dsimp only
    have hout := kat_snds (ks := vs) (vs := vs) rfl har
    have hsz : (List.toArray (srt false (klt kf) vs vs)).size = vs.length := by unfold srt; rw [List.size_toArray, kat_len, List.length_map, Array.length_toList, ← hpe, hps]
    have eo : List.toArray (p.toList.map fun i => vs.getD i Value.none) = List.toArray (srt false (klt kf) vs vs) := by rw [hpe]; rfl
    rw [hout, eo]
    have s2 := Heap.SameBut.update H3 a (Obj.mapSeq fun _ => List.toArray (srt false (klt kf) vs vs))
    obtain ⟨c2, hc2⟩ : ∃ c2, (H3.update a (Obj.mapSeq fun _ => List.toArray (srt false (klt kf) vs vs))).get? a = some (seqObj "list" (List.toArray (srt false (klt kf) vs vs)) c2) := ⟨_, get?_update_seq ho3 fun _ => List.toArray (srt false (klt kf) vs vs)⟩
    refine wpAny_bind (seqEpoch_at ho3 rfl ?_)
    refine wpAny_bind (listUpdate_at ho3 rfl ?_ (Nat.zero_le _) (Nat.le_trans (Nat.le_of_eq hsz) (by rw [sizeLine_eq]; exact om390q _ h64)))
    rw [hf]
    simp only [bne_self_eq_false, Bool.false_eq_true, if_false]
    exact wpAny_pure (hP _ c2 (fun b o q e => s2.extBut b o q (k3 b o q e)) hc2 tk)
  · rw [list_sort_rev]
    refine wpAny_bind (listItems_at ho rfl ?_)
    refine wpAny_bind (listUpdate_at ho rfl ?_ (by rw [List.size_toArray, sizeLine_eq]; exact om389q _ h64) (Nat.zero_le _))
    rw [hH1]
    refine wpAny_bind (seqEpoch_at ho1 rfl ?_)
    refine wpAny_bind (wpAny_newTuple ?_ (by show vs.length ≤ _; rw [sizeLine_eq]; exact om389q _ h64))
    refine wpAny_bind (wpAny_newList ?_ (Nat.zero_le _))
    refine wpAny_holding ?_
    show wpAny (model prog w) A _ P E { s with heap := (H1.push (seqObj "tuple" vs.toArray 0)).push (seqObj "list" #[] 0) }
    rw [hH3]
    dsimp only
    have step : ∀ t : Sem PySem.Fin, wpAny (model prog w) A t P E { s with heap := H3 } → wpAny (model prog w) A (if b = true then (do let _ ← rule "list.sort.reverse"; t) else t) P E { s with heap := H3 } := by
      intro t ht
      split
      · exact wpAny_bind (wpAny_rule ht)
      · exact ht
    refine step _ ?_
    rw [if_neg hn2, if_neg hn2]
    refine wpAny_bind (key_kind (by exact om56q _ h2) hk3 ?_)
    rw [kat_pairs b rfl]
    refine wpAny_bind (wpAny_mono (kat_run (ks := katRev b vs) (vs := katRev b vs) (Q := fun st' s' => ∃ p : Array Nat, p.size = (katRev b vs).length ∧ arrOf st' = p.map (kas_item ((List.toArray (katRev b vs)).zip (List.toArray (katRev b vs)))) ∧ failedOf st' = none ∧ (p = ev (fun i j => klt kf ((katRev b vs).getD i .none) ((katRev b vs).getD j .none)) (kas_sort vs.length) ∧ ∃ tk, s' = { s with heap := H3, toks := tk }))
      rfl hl2 hl64 (fun p' st' s' a1 a2 a3 a4 => ⟨p', a1, a2, a3, a4⟩) (hrun (fun _ _ => True) trivial)) ?_ fun _ _ e => e)
    rintro ⟨⟨⟩, st'⟩ s' ⟨p, hps, har, hf, hpe, tk, rfl⟩
    rw [kat_len] at hps
    dsimp only
    have hout := kat_snds (ks := katRev b vs) (vs := katRev b vs) rfl har
    have hsz : (List.toArray (srt b (klt kf) vs vs)).size = vs.length := by unfold srt; rw [List.size_toArray, kat_len, List.length_map, Array.length_toList, ← hpe, hps]
    have eo : List.toArray (katRev b (p.toList.map fun i => (katRev b vs).getD i Value.none)) = List.toArray (srt b (klt kf) vs vs) := by rw [hpe]; rfl
    rw [hout, kat_outs, eo]
    have s2 := Heap.SameBut.update H3 a (Obj.mapSeq fun _ => List.toArray (srt b (klt kf) vs vs))
    obtain ⟨c2, hc2⟩ : ∃ c2, (H3.update a (Obj.mapSeq fun _ => List.toArray (srt b (klt kf) vs vs))).get? a = some (seqObj "list" (List.toArray (srt b (klt kf) vs vs)) c2) := ⟨_, get?_update_seq ho3 fun _ => List.toArray (srt b (klt kf) vs vs)⟩
    refine wpAny_bind (seqEpoch_at ho3 rfl ?_)
    refine wpAny_bind (listUpdate_at ho3 rfl ?_ (Nat.zero_le _) (Nat.le_trans (Nat.le_of_eq hsz) (by rw [sizeLine_eq]; exact om390q _ h64)))
    rw [hf]
    simp only [bne_self_eq_false, Bool.false_eq_true, if_false]
    exact wpAny_pure (hP _ c2 (fun b o q e => s2.extBut b o q (k3 b o q e)) hc2 tk)
end
end Mine
end
section
open PySem PySem.W PyProof.Rows PySem.Calls
set_option Elab.async false
set_option linter.all false
set_option maxRecDepth 100000
namespace Mine
section
variable {prog : Program} {w : World} {A : Around} {E : Value → Shared → Prop} {s : Shared} {mg mb : Str → Option Value} {g : Heap}

/-- x.sort() and x.sort(reverse=b) on tuples -/
theorem lsort_call {b kb : Bool} {kf : Value → Key} {a : Addr} {vs : List Value} {n : Nat} {kw : List (Str × Value)} {Q : Value → Shared → Prop} (hkw : kw = [] ∧ b = false ∨ kw = [(Str.ofString "reverse", .bool b)]) (ho : s.heap.get? a = some (lst vs n)) (h2 : 2 ≤ vs.length) (h64 : vs.length < 64)
    (hk : ∀ v ∈ vs, KeyAt kb s.heap v (kf v))
    (hQ : ∀ h' n' tk, But a s.heap h' → h'.get? a = some (lst (srt b (klt kf) vs vs) n') → Q .none { s with heap := h', toks := tk }) :
    wpAny (model prog w) A (call (.builtin "list.sort") [.ref a] kw) Q E s := by
  refine wpAny_call_entry_kw slot_list_sort ⟨_, ho, rfl⟩ entry_list_sort (ls_body hkw ho h2 h64 hk fun h' n' hb hl tk => ⟨_, rfl, hQ h' n' tk hb hl⟩) ?_
  rcases hkw with ⟨rfl, rfl⟩ | rfl
  · exact args_list_sort _
  · exact args_list_sort_rev _ _

/-- sorted(x) and sorted(x, reverse=b) on tuples -/
theorem sorted_call {b kb : Bool} {kf : Value → Key} {l : Addr} {vs : List Value} {n : Nat} {kw : List (Str × Value)} {Q : Value → Shared → Prop} (hkw : kw = [] ∧ b = false ∨ kw = [(Str.ofString "reverse", .bool b)]) (hl₀ : s.heap.get? l = some (lst vs n)) (h2 : 2 ≤ vs.length) (h64 : vs.length < 64)
    (hk : ∀ v ∈ vs, KeyAt kb s.heap v (kf v))
    (hQ : ∀ h' n' tk D, s.heap.StaysIn h' → s.heap.objs.size ≤ D → h'.get? D = some (lst (srt b (klt kf) vs vs) n') → Q (.ref D) { s with heap := h', toks := tk }) :
    wpAny (model prog w) A (call (.builtin "sorted") [.ref l] kw) Q E s := by
  have hl : s.heap.IsList l vs.toArray := PySem.IsL.isList (n := n) hl₀
  refine call_function_entry_kw kind_sorted plain_sorted entry_sorted ?_ ?_
  · rcases hkw with ⟨rfl, rfl⟩ | rfl
    · exact args_sorted1 _
    · exact args_sorted_rev _ _
  unfold Builtin.«sorted»
  refine wpAny_bind (m := checkCount "sorted" 1 1 _) (wpAny_pure ?_)
  refine wpAny_bind (collect_list hl ?_ (by rw [sizeLine_eq]; exact om389q _ h64))
  refine wpAny_bind (wpAny_newList ?_ (by rw [sizeLine_eq]; exact om389q _ h64))
  have hsz : ((s.heap.push (seqObj "list" #[] 0)).update s.heap.objs.size (Obj.mapSeq (· ++ vs.toArray))).objs.size = s.heap.objs.size + 1 := by
    rw [Heap.size_update, size_push']
  have hoL : (((s.heap.push (seqObj "list" #[] 0)).update s.heap.objs.size (Obj.mapSeq (· ++ vs.toArray))).push (seqObj "list" vs.toArray 0)).get? (s.heap.objs.size + 1) = some (seqObj "list" vs.toArray 0) := by
    rw [← hsz]; exact Heap.get?_push_size _ rfl
  have keep : ∀ b o, s.heap.get? b = some o → (((s.heap.push (seqObj "list" #[] 0)).update s.heap.objs.size (Obj.mapSeq (· ++ vs.toArray))).push (seqObj "list" vs.toArray 0)).get? b = some o := fun b o q => by
    have hlt : b < s.heap.objs.size := Heap.lt_size q
    rw [Heap.get?_push_ne _ _ _ (by rw [hsz]; exact Nat.ne_of_lt (Nat.lt_succ_of_lt hlt)), Heap.get?_update_ne _ _ _ _ (Nat.ne_of_lt hlt), Heap.get?_push_ne _ _ _ (Nat.ne_of_lt hlt)]
    exact q
  show wpAny _ _ _ _ _ { s with heap := ((s.heap.push (seqObj "list" #[] 0)).update s.heap.objs.size (Obj.mapSeq (· ++ vs.toArray))).push (seqObj "list" vs.toArray 0) }
  rw [hsz]
  refine wpAny_bind (wpAny_holding (lsort_call hkw hoL h2 h64 (fun v hv => (hk v hv).keep fun a _ o e => keep a o e) fun h' n' tk hb hd => ?_))
  exact wpAny_pure ⟨_, rfl, hQ h' n' tk _ (fun b o e => hb b o (Nat.ne_of_lt (Nat.lt_succ_of_lt (Heap.lt_size e))) (keep b o e)) (Nat.le_succ _) hd⟩

/-- texts in their order -/
def vlt (u v : Value) : Bool := match u, v with | .str a _, .str b _ => decide (raw a < raw b) | _, _ => false
def capK (x : Str) : List Nat := joinL ((wd [] (raw x)).map capL)

/-- sorted(x, key=capwords[, reverse=b]) -/
theorem sortedK_call {b : Bool} {l L : Addr} {vs : List Value} {ys : List Str} {n : Nat} {m : Str → Option Value} {kw : List (Str × Value)} {Q : Value → Shared → Prop} (hkw : kw = [(Str.ofString "key", .ref 22)] ∧ b = false ∨ kw = [(Str.ofString "key", .ref 22), (Str.ofString "reverse", .bool b)])
    (C : Cx w mg mb g) (F : Fr g L s.heap m) (hl₀ : s.heap.get? l = some (lst vs n)) (hi : StrsAre vs ys) (hx : ∀ y ∈ ys, (∀ c ∈ raw y, Al c = true) ∧ y.length ≤ 100) (h2 : 2 ≤ vs.length) (h64 : vs.length < 64) (hh : A.handled = none) (hroom : A.depth < recursionLimit)
    (hQ : ∀ h' n' tk D ks kys, Fr g L h' m → D ≠ L → g.get? D = none → h'.get? D = some (lst (srt b vlt ks vs) n') → StrsAre ks kys → kys.map raw = ys.map capK → Q (.ref D) { s with heap := h', toks := tk }) :
    wpAny (model prog w) A (call (.builtin "sorted") [.ref l] kw) Q E s := by
  have hl : s.heap.IsList l vs.toArray := PySem.IsL.isList (n := n) hl₀
  have hargs : argsOk "sorted" ⟨[.ref l], kw⟩ ∧ (∀ x, argsOk "list.sort" ⟨[.ref x], kw⟩) ∧ ∀ x, Builtin.«list.sort» ⟨[.ref x], kw⟩ = ksk_tree x (.ref 22) b := by
    rcases hkw with ⟨rfl, rfl⟩ | rfl
    · exact ⟨ksk_s1 _ _, fun x => ksk_l1 _ _, fun x => ksk_t1 _ _⟩
    · exact ⟨ksk_s2 _ _ _, fun x => ksk_l2 _ _ _, fun x => ksk_t2 _ _ _⟩
  refine kat_sortedK F (news := []) (fun _ h => nomatch h) hl h2 h64 hargs.1 hargs.2.1 hargs.2.2 ?_
  intro D kS e1 h' F' N' hDk _
  -- the keys, one by one
  have keys : ∀ (r : List Value) (zs : List Str) (ks : List Value) (kys : List Str) (e : Nat) (h : Heap) (tk : Nat), StrsAre r zs → (∀ y ∈ zs, (∀ c ∈ raw y, Al c = true) ∧ y.length ≤ 100) → StrsAre ks kys → kys.map raw ++ zs.map capK = ys.map capK → Fr g L h m → News g L h ((kS, seqObj "list" (List.toArray ks) e) :: (D, seqObj "list" #[] e1) :: []) →
      KatKeys prog w A.in1.in1 g L m kS (.ref 22) (fun ks e s' => wpAny (model prog w) A.in1.in1 (keyKind' (List.toArray ks)) (fun κ s'' => (kas_sort vs.length).kasWp (kas_ask prog w A.in1.in1 κ (katRev b ks)) (fun p s3 => KatFin g L m kS D ks e e1 (katRev b (p.toList.map fun i => (katRev b vs).getD i Value.none)) (fun s4 => Q (.ref D) s4) s3) s'') (fun _ _ => False) s') r ks e { s with heap := h, toks := tk } := by
    intro r
    induction r with
    | nil =>
      intro zs ks kys e h tk hr hz hks hkr F N
      refine KatKeys.nil ?_
      have hz0 : zs = [] := by cases hr; rfl
      subst hz0
      rw [List.map_nil, List.append_nil] at hkr
      have hkl : ks.length = vs.length := by
        have e1 := hks.len_eq
        have e2 := hi.len_eq
        have e3 := congrArg List.length hkr
        simp only [List.length_map] at e3
        exact om391q _ _ _ _ e1 e2 e3
      have isS : ∀ v ∈ ks, ∃ y t, v = Value.str y t := fun v hv => by
        obtain ⟨j, hj⟩ := List.getElem?_of_mem hv
        obtain ⟨y, t, e, _⟩ := hks.item j v hj
        exact ⟨y, t, e⟩
      refine kas_kind (T := .type "str") (by exact om392q _ _ h2 hkl) (fun v hv => ?_) (by decide) (by decide) ?_
      · obtain ⟨y, t, rfl⟩ := isS v hv
        exact Looks.of_pure rfl
      refine ev_wp2 (lt := fun i j => vlt ((katRev b ks).getD i .none) ((katRev b ks).getD j .none)) (N := vs.length) (fun s' => s' = { s with heap := h, toks := tk }) ?_ _ _ (sort_in (by exact om56q _ h2)) rfl ?_
      · rintro i j C' s' rfl hi' hj' hC
        have m1 := katRev_getD b ks Value.none i (by exact om111q _ _ _ hkl hi')
        have m2 := katRev_getD b ks Value.none j (by exact om111q _ _ _ hkl hj')
        obtain ⟨y1, t1, q1⟩ := isS _ m1
        obtain ⟨y2, t2, q2⟩ := isS _ m2
        have hC' := hC _ rfl
        show wpAny (model prog w) A.in1.in1 (keyLt' oneType' ((katRev b ks).getD i .none) ((katRev b ks).getD j .none)) _ _ _
        rw [q1, q2] at hC' ⊢
        exact kas_lt_str hC'
      · rintro s' rfl
        refine KatFin.intro F N (.head fun p hp => ?_) fun h₂ c F2 N2 => ?_
        · rw [List.mem_singleton.mp hp]; exact Nat.ne_of_lt hDk
        · refine KasFin.intro F2 N2 (.tail (Nat.ne_of_gt hDk) (.head fun p hp => nomatch hp)) fun h₃ c₃ F3 N3 => ?_
          have nD := N3 (D, _) (.tail _ (.head _))
          exact hQ h₃ c₃ tk D ks kys F3 nD.2.1 nD.2.2 nD.1 hks hkr
    | cons v r ih =>
      intro zs ks kys e h tk hr hz hks hkr F N
      obtain ⟨y, t, rfl, zs', rfl, hr'⟩ : ∃ y t, v = .str y t ∧ ∃ zs', zs = y :: zs' ∧ StrsAre r zs' := by
        cases hr with
        | cons y t r' => exact ⟨y, t, rfl, _, rfl, r'⟩
      refine KatKeys.cons (cap_call C F.keep (hz y (.head _)).1 (hz y (.head _)).2 hh hroom fun h₁ tk₁ k t₁ hs hk => ?_)
      have F1 : Fr g L h₁ m := frWr (wr := []) F (fun b o _ e => hs b o e) (fun h => nomatch h) (fun _ h => nomatch h)
      have N1 := newsWr (wr := []) N (fun b o _ e => hs b o e) (fun _ _ h => nomatch h)
      refine KatBack.intro F1 N1 (.head fun p hp => ?_) fun h₂ c F2 N2 => ?_
      · rw [List.mem_singleton.mp hp]; exact Nat.ne_of_lt hDk
      · refine ih zs' (ks ++ [.str k t₁]) (kys ++ [k]) c h₂ tk₁ hr' (fun y hy => hz y (.tail _ hy)) (strs_snoc hks k t₁) ?_ F2 N2
        rw [List.map_append, List.append_assoc, ← hkr]
        show kys.map raw ++ ([raw k] ++ _) = _
        rw [show raw k = capK y from hk]
        rfl
  exact keys vs ys [] [] 0 h' s.toks hi hx .nil rfl F' N'
end
end Mine
end
section
open PySem PySem.W PyProof.Rows PySem.Calls
set_option Elab.async false
set_option linter.all false
set_option maxRecDepth 100000
namespace Mine
/-- the key of the i-th name -/
def kyI (ys : List Str) (i : Nat) : List Nat := capK (ys.getD i ⟨#[]⟩)
theorem min_args (a d v : Value) : argsOk "min" ⟨[a], [(Str.ofString "default", d), (Str.ofString "key", v)]⟩ := by unfold argsOk; kernel_rfl
def FirstMin (ys : List Str) (n i : Nat) : Prop := i < n ∧ ∀ j, j < n → ¬ kyI ys j < kyI ys i ∧ (j < i → kyI ys i < kyI ys j)
section
variable {prog : Program} {w : World} {A : Around} {E : Value → Shared → Prop} {s : Shared} {mg mb : Str → Option Value} {g : Heap}

theorem min_loop {I S l : Addr} {vs : List Value} {ys : List Str} {dflt : Value} {R : Result → Shared → Prop} (C : Cx w mg mb g) (hh : A.handled = none) (hroom : A.depth < recursionLimit) (hi : StrsAre vs ys) (hx : ∀ y ∈ ys, (∀ c ∈ raw y, Al c = true) ∧ y.length ≤ 100)
    (hgI : g.get? I = none) (hgS : g.get? S = none) (hIS : I ≠ S) (hlI : l ≠ I) (hlS : l ≠ S) (h1 : 1 ≤ vs.length)
    (hR : ∀ i v h' tk', vs[i]? = some v → FirstMin ys vs.length i → (∀ b o, b ≠ I → b ≠ S → s.heap.get? b = some o → h'.get? b = some o) → R (.ok (.ret v)) { s with heap := h', toks := tk' }) :
    ∀ (r j : Nat) (h : Heap) (tk : Nat) (items : Array Value) (c : Nat), vs.length - j = r → j ≤ vs.length → (∀ b o, b ≠ I → b ≠ S → s.heap.get? b = some o → h.get? b = some o) → g.StaysIn h → h.IsListIter I l j → h.IsList l vs.toArray → h.get? S = some (seqObj "list" items c) →
      ((j = 0 ∧ items = #[]) ∨ ∃ i vb kb tb, items = #[vb, .str kb tb] ∧ vs[i]? = some vb ∧ raw kb = kyI ys i ∧ FirstMin ys j i) →
      codeAny (model prog w) A (.builtin "min.loop" ⟨[.ref I, .ref 22, .ref S], [(Str.ofString "default", dflt)]⟩) R { s with heap := h, toks := tk } := by
  have hname : (toString "min" ++ toString ".loop" : String) = "min.loop" := by decide
  have W := Walks.list (prog := prog) (w := w) (A := A.in1) hh I l hlI vs.toArray
  have hsz : vs.toArray.size = vs.length := List.size_toArray ..
  intro r
  induction r with
  | zero =>
    intro j h tk items c hr hj hk S₀ hit hl hS hb
    have hin : j = vs.length := by omega
    refine codeAny_builtin PySem.F.entry_min_loop ?_
    rw [Around.under_plainId PySem.F.plain_min_loop _]
    show wpAny _ A.in1 (seqItems? (.ref S) >>= _) _ _ _
    refine wpAny_bind (wpAny_seqItems hS rfl ?_)
    show wpAny _ A.in1 (tryCatch (pyNext (.ref I)) _ >>= _) _ _ _
    refine wpAny_bind (wpAny_tryCatch (W.done _ _ _ ⟨by rw [hsz, ← hin]; exact hit, hl⟩ fun h' tk' hk' => ?_))
    rcases hb with ⟨h0, _⟩ | ⟨i, vb, kb, tb, rfl, hvb, hkb, hbest⟩
    · omega
    · have hS' := hk' S _ (by simpa using hIS.symm) hS
      have s1 := Heap.SameBut.update h' S (Obj.mapSeq fun _ => (#[] : Array Value))
      show wpAny _ A.in1 (updateSeq S (fun _ => #[]) >>= _) _ _ _
      refine wpAny_bind ?_
      refine wpAny_updateSeq hS' rfl (wpAny_bind (wpAny_letGo (wpAny_pure ?_)))
      exact hR i vb _ _ hvb (hin ▸ hbest) fun b o q1 q2 e => s1.extBut b o q2 (hk' b o (by simpa using q1) (hk b o q1 q2 e))
  | succ r ih =>
    intro j h tk items c hr hj hk S₀ hit hl hS hb
    have hlt : j < vs.length := by omega
    refine codeAny_builtin PySem.F.entry_min_loop ?_
    rw [Around.under_plainId PySem.F.plain_min_loop _]
    show wpAny _ A.in1 (seqItems? (.ref S) >>= _) _ _ _
    refine wpAny_bind (wpAny_seqItems hS rfl ?_)
    show wpAny _ A.in1 (tryCatch (pyNext (.ref I)) _ >>= _) _ _ _
    refine wpAny_bind (wpAny_tryCatch (W.item j _ _ _ (by rw [hsz]; exact hlt) ⟨hit, hl⟩ fun v h' tk' hP hst' hk' => ?_))
    have hv : vs[j]? = some v := by simpa using hP
    obtain ⟨y, t, rfl, hy⟩ := hi.item j v hv
    have S₁ : g.StaysIn h' := fun b o e => hk' b o (fun q => by rw [List.mem_singleton.mp q, hgI] at e; cases e) (S₀ b o e)
    have hyx := hx y (List.mem_of_getElem? hy)
    have hkj : kyI ys j = capK y := by unfold kyI; rw [List.getD_eq_getElem?_getD, hy]; rfl
    show wpAny _ A.in1 (tryCatch (holding [.str y t] (call (.ref 22) [.str y t])) _ >>= _) _ _ _
    refine wpAny_bind (wpAny_tryCatch (wpAny_holding (cap_call C S₁ hyx.1 hyx.2 hh hroom fun h₂ tk₂ k t₂ hs₂ hk₂ => ?_)))
    have hkk : raw k = kyI ys j := by rw [hkj]; exact hk₂
    have hS₂ : h₂.get? S = some (seqObj "list" items c) := hs₂ _ _ (hk' S _ (by simpa using hIS.symm) hS)
    have hit₂ : h₂.IsListIter I l (j + 1) := hst'.1.at fun o e => hs₂ _ _ e
    have hl₂ : h₂.IsList l vs.toArray := hst'.2.at fun o e => hs₂ _ _ e
    have hk₃ : ∀ b o, b ≠ I → b ≠ S → s.heap.get? b = some o → h₂.get? b = some o := fun b o q1 q2 e => hs₂ _ _ (hk' b o (by simpa using q1) (hk b o q1 q2 e))
    have S₂ : g.StaysIn h₂ := fun b o e => hs₂ _ _ (S₁ b o e)
    have hz2 : items.size ≤ sizeLine := by
      rcases hb with ⟨_, rfl⟩ | ⟨_, _, _, _, rfl, _⟩ <;> (rw [sizeLine_eq]; simp)
    have upd : ∀ tk₃, FirstMin ys (j + 1) j → wpAny (model prog w) A.in1 (updateSeq S (fun _ => #[Value.str y t, Value.str k t₂])) (fun _ s' => codeAny (model prog w) A (.builtin "min.loop" ⟨[.ref I, .ref 22, .ref S], [(Str.ofString "default", dflt)]⟩) R s') (fun _ _ => False) { s with heap := h₂, toks := tk₃ } := by
      intro tk₃ hf
      have s1 := Heap.SameBut.update h₂ S (Obj.mapSeq fun _ => #[Value.str y t, Value.str k t₂])
      obtain ⟨c2, hc2⟩ : ∃ c2, (h₂.update S (Obj.mapSeq fun _ => #[Value.str y t, Value.str k t₂])).get? S = some (seqObj "list" #[Value.str y t, Value.str k t₂] c2) := ⟨_, get?_update_seq hS₂ fun _ => #[Value.str y t, Value.str k t₂]⟩
      refine wpAny_updateSeq hS₂ rfl ?_ hz2
      exact ih (j + 1) _ tk₃ _ c2 (by omega) hlt (fun b o q1 q2 e => s1.extBut b o q2 (hk₃ b o q1 q2 e)) (fun b o e => s1.extBut b o (fun q => by rw [q, hgS] at e; cases e) (S₂ b o e)) (hit₂.extBut s1.extBut hIS) (hl₂.extBut s1.extBut hlS) hc2 (.inr ⟨j, _, k, t₂, rfl, hv, hkk, hf⟩)
    rcases hb with ⟨h0, rfl⟩ | ⟨i, vb, kb, tb, rfl, hvb, hkb, hbest⟩
    · show wpAny _ A.in1 (updateSeq S (fun _ => #[Value.str y t, Value.str k t₂]) >>= _) _ _ _
      refine wpAny_bind (wpAny_mono (upd _ ⟨Nat.lt_succ_self _, fun j' hj' => ?_⟩) (fun _ s' hc => ?_) fun _ _ x => x.elim)
      · have : j' = j := by exact om393q _ _ h0 hj'
        subst this
        exact ⟨List.lt_irrefl _, fun h => absurd h (Nat.lt_irrefl _)⟩
      · rw [hname]
        exact wpAny_pure ⟨plainId_quiet PySem.F.plain_min_loop _, hc⟩
    · show wpAny _ A.in1 (tryCatch (holding [.str y t, .str k t₂] (richCompare .Lt (.str k t₂) (.str kb tb) >>= _)) _ >>= _) _ _ _
      refine wpAny_bind (wpAny_tryCatch (wpAny_holding (wpAny_bind (show wpAny (model prog w) A.in1 (compareOp .Lt (.str k t₂) (.str kb tb)) _ _ _ from lt_str ?_))))
      refine wpAny_bind (wpAny_holding (wpAny_truthy_bool ?_))
      refine wpAny_bind (wpAny_letGo (wpAny_pure ?_))
      have e0 : (k.cps.toList < kb.cps.toList) = (kyI ys j < kyI ys i) := by rw [show k.cps.toList = kyI ys j from hkk, show kb.cps.toList = kyI ys i from hkb]
      by_cases hb' : k.cps.toList < kb.cps.toList
      · simp only [hb', decide_true, if_true]
        rw [e0] at hb'
        refine wpAny_bind (wpAny_mono (upd _ ⟨Nat.lt_succ_self _, fun j' hj' => ?_⟩) (fun _ s' hc => ?_) fun _ _ x => x.elim)
        · by_cases e : j' = j
          · subst e; exact ⟨List.lt_irrefl _, fun h => absurd h (Nat.lt_irrefl _)⟩
          · have := (hbest.2 j' (by exact om254q _ _ hj' e)).1
            exact ⟨fun h => this (List.lt_trans h hb'), fun _ => Decidable.byContradiction fun hn => this (List.lt_of_le_of_lt (List.not_lt.mp hn) hb')⟩
        · refine wpAny_bind (wpAny_letGo ?_)
          rw [hname]
          exact wpAny_pure ⟨plainId_quiet PySem.F.plain_min_loop _, hc⟩
      · simp only [hb', decide_false, Bool.false_eq_true, if_false]
        rw [e0] at hb'
        refine wpAny_bind (wpAny_letGo ?_)
        rw [hname]
        refine wpAny_pure ⟨plainId_quiet PySem.F.plain_min_loop _, ih (j + 1) h₂ _ _ c (by exact om394q _ _ _ hr) hlt hk₃ S₂ hit₂ hl₂ hS₂ (.inr ⟨i, vb, kb, tb, rfl, hvb, hkb, ⟨Nat.lt_succ_of_lt hbest.1, fun j' hj' => ?_⟩⟩)⟩
        by_cases e : j' = j
        · subst e; exact ⟨hb', fun h => absurd h (by have := hbest.1; exact om395q _ _ this)⟩
        · exact hbest.2 j' (by exact om254q _ _ hj' e)

/-- min(it, default=d, key=capwords) -/
theorem min_call {I l : Addr} {vs : List Value} {ys : List Str} {dflt : Value} {Q : Value → Shared → Prop} (C : Cx w mg mb g) (S₀ : g.StaysIn s.heap) (hh : A.handled = none) (hroom : A.depth < recursionLimit) (hi : StrsAre vs ys) (hx : ∀ y ∈ ys, (∀ c ∈ raw y, Al c = true) ∧ y.length ≤ 100)
    (hgI : g.get? I = none) (hit : s.heap.IsListIter I l 0) (hl : s.heap.IsList l vs.toArray) (hlI : l ≠ I) (h1 : 1 ≤ vs.length)
    (hQ : ∀ i v h' tk', vs[i]? = some v → FirstMin ys vs.length i → (∀ b o, b ≠ I → s.heap.get? b = some o → h'.get? b = some o) → Q v { s with heap := h', toks := tk' }) :
    wpAny (model prog w) A (call (.builtin "min") [.ref I] [(Str.ofString "default", dflt), (Str.ofString "key", .ref 22)]) Q E s := by
  have hname : (toString "min" ++ toString ".loop" : String) = "min.loop" := by decide
  refine kmk_tree PySem.F.kind_min PySem.F.plain_min PySem.F.entry_min (min_args _ _ _) ?_
  show wpAny _ A.in1 (Builtin.Builtins.bindParams "min" ["key", "default"] 0 ⟨[], [(Str.ofString "default", dflt), (Str.ofString "key", .ref 22)]⟩ >>= _) _ _ s
  refine wpAny_bind (wpAny_of_eq (show Builtin.Builtins.bindParams "min" ["key", "default"] 0 ⟨[], [(Str.ofString "default", dflt), (Str.ofString "key", .ref 22)]⟩ = pure [some (.ref 22), some dflt] from rfl) ?_)
  refine wpAny_bind (wpAny_pure ?_)
  refine wpAny_bind (wpAny_pyIter_listiter hit ?_)
  refine wpAny_bind (wpAny_newList ?_ (Nat.zero_le _))
  rw [hname]
  have lt : ∀ {b o}, s.heap.get? b = some o → b ≠ s.heap.objs.size := fun e => Nat.ne_of_lt (Heap.lt_size e)
  have hI : I ≠ s.heap.objs.size := by obtain ⟨_, e, _⟩ := hit; exact lt e
  have hL : l ≠ s.heap.objs.size := by obtain ⟨_, e, _⟩ := hl; exact lt e
  have up : ∀ b o, s.heap.get? b = some o → (s.heap.push (seqObj "list" #[] 0)).get? b = some o := fun b o e => Heap.get?_push_of_some _ e
  refine wpAny_pure ⟨plainId_quiet PySem.F.plain_min_loop _, ?_⟩
  refine min_loop (S := s.heap.objs.size) C hh hroom hi hx hgI ?_ hI hlI hL h1 (fun i v h' tk' e1 e2 e3 => hQ i v h' tk' e1 e2 fun b o q e => e3 b o q (lt e) e) _ 0 (s.heap.push (seqObj "list" #[] 0)) s.toks #[] 0 rfl (Nat.zero_le _) (fun b o _ _ e => up b o e) (fun b o e => up b o (S₀ b o e)) (hit.at fun o e => up _ o e) (hl.at fun o e => up _ o e) (Heap.get?_push_size _ rfl) (.inl ⟨rfl, rfl⟩)
  cases e : g.get? s.heap.objs.size with
  | none => rfl
  | some o => exact absurd (Heap.lt_size (S₀ _ _ e)) (Nat.lt_irrefl _)
end
end Mine
end
section
open PySem PySem.W PyProof.Rows PySem.Calls
set_option Elab.async false
set_option linter.all false
set_option maxRecDepth 100000
namespace Mine
theorem max_args (a d v : Value) : argsOk "max" ⟨[a], [(Str.ofString "default", d), (Str.ofString "key", v)]⟩ := by unfold argsOk; kernel_rfl
def FirstMax (ys : List Str) (n i : Nat) : Prop := i < n ∧ ∀ j, j < n → ¬ kyI ys i < kyI ys j ∧ (j < i → kyI ys j < kyI ys i)
section
variable {prog : Program} {w : World} {A : Around} {E : Value → Shared → Prop} {s : Shared} {mg mb : Str → Option Value} {g : Heap}

theorem max_loop {I S l : Addr} {vs : List Value} {ys : List Str} {dflt : Value} {R : Result → Shared → Prop} (C : Cx w mg mb g) (hh : A.handled = none) (hroom : A.depth < recursionLimit) (hi : StrsAre vs ys) (hx : ∀ y ∈ ys, (∀ c ∈ raw y, Al c = true) ∧ y.length ≤ 100)
    (hgI : g.get? I = none) (hgS : g.get? S = none) (hIS : I ≠ S) (hlI : l ≠ I) (hlS : l ≠ S) (h1 : 1 ≤ vs.length)
    (hR : ∀ i v h' tk', vs[i]? = some v → FirstMax ys vs.length i → (∀ b o, b ≠ I → b ≠ S → s.heap.get? b = some o → h'.get? b = some o) → R (.ok (.ret v)) { s with heap := h', toks := tk' }) :
    ∀ (r j : Nat) (h : Heap) (tk : Nat) (items : Array Value) (c : Nat), vs.length - j = r → j ≤ vs.length → (∀ b o, b ≠ I → b ≠ S → s.heap.get? b = some o → h.get? b = some o) → g.StaysIn h → h.IsListIter I l j → h.IsList l vs.toArray → h.get? S = some (seqObj "list" items c) →
      ((j = 0 ∧ items = #[]) ∨ ∃ i vb kb tb, items = #[vb, .str kb tb] ∧ vs[i]? = some vb ∧ raw kb = kyI ys i ∧ FirstMax ys j i) →
      codeAny (model prog w) A (.builtin "max.loop" ⟨[.ref I, .ref 22, .ref S], [(Str.ofString "default", dflt)]⟩) R { s with heap := h, toks := tk } := by
  have hname : (toString "max" ++ toString ".loop" : String) = "max.loop" := by decide
  have W := Walks.list (prog := prog) (w := w) (A := A.in1) hh I l hlI vs.toArray
  have hsz : vs.toArray.size = vs.length := List.size_toArray ..
  intro r
  induction r with
  | zero =>
    intro j h tk items c hr hj hk S₀ hit hl hS hb
    have hin : j = vs.length := by omega
    refine codeAny_builtin PySem.F.entry_max_loop ?_
    rw [Around.under_plainId PySem.F.plain_max_loop _]
    show wpAny _ A.in1 (seqItems? (.ref S) >>= _) _ _ _
    refine wpAny_bind (wpAny_seqItems hS rfl ?_)
    show wpAny _ A.in1 (tryCatch (pyNext (.ref I)) _ >>= _) _ _ _
    refine wpAny_bind (wpAny_tryCatch (W.done _ _ _ ⟨by rw [hsz, ← hin]; exact hit, hl⟩ fun h' tk' hk' => ?_))
    rcases hb with ⟨h0, _⟩ | ⟨i, vb, kb, tb, rfl, hvb, hkb, hbest⟩
    · omega
    · have hS' := hk' S _ (by simpa using hIS.symm) hS
      have s1 := Heap.SameBut.update h' S (Obj.mapSeq fun _ => (#[] : Array Value))
      show wpAny _ A.in1 (updateSeq S (fun _ => #[]) >>= _) _ _ _
      refine wpAny_bind ?_
      refine wpAny_updateSeq hS' rfl (wpAny_bind (wpAny_letGo (wpAny_pure ?_)))
      exact hR i vb _ _ hvb (hin ▸ hbest) fun b o q1 q2 e => s1.extBut b o q2 (hk' b o (by simpa using q1) (hk b o q1 q2 e))
  | succ r ih =>
    intro j h tk items c hr hj hk S₀ hit hl hS hb
    have hlt : j < vs.length := by omega
    refine codeAny_builtin PySem.F.entry_max_loop ?_
    rw [Around.under_plainId PySem.F.plain_max_loop _]
    show wpAny _ A.in1 (seqItems? (.ref S) >>= _) _ _ _
    refine wpAny_bind (wpAny_seqItems hS rfl ?_)
    show wpAny _ A.in1 (tryCatch (pyNext (.ref I)) _ >>= _) _ _ _
    refine wpAny_bind (wpAny_tryCatch (W.item j _ _ _ (by rw [hsz]; exact hlt) ⟨hit, hl⟩ fun v h' tk' hP hst' hk' => ?_))
    have hv : vs[j]? = some v := by simpa using hP
    obtain ⟨y, t, rfl, hy⟩ := hi.item j v hv
    have S₁ : g.StaysIn h' := fun b o e => hk' b o (fun q => by rw [List.mem_singleton.mp q, hgI] at e; cases e) (S₀ b o e)
    have hyx := hx y (List.mem_of_getElem? hy)
    have hkj : kyI ys j = capK y := by unfold kyI; rw [List.getD_eq_getElem?_getD, hy]; rfl
    show wpAny _ A.in1 (tryCatch (holding [.str y t] (call (.ref 22) [.str y t])) _ >>= _) _ _ _
    refine wpAny_bind (wpAny_tryCatch (wpAny_holding (cap_call C S₁ hyx.1 hyx.2 hh hroom fun h₂ tk₂ k t₂ hs₂ hk₂ => ?_)))
    have hkk : raw k = kyI ys j := by rw [hkj]; exact hk₂
    have hS₂ : h₂.get? S = some (seqObj "list" items c) := hs₂ _ _ (hk' S _ (by simpa using hIS.symm) hS)
    have hit₂ : h₂.IsListIter I l (j + 1) := hst'.1.at fun o e => hs₂ _ _ e
    have hl₂ : h₂.IsList l vs.toArray := hst'.2.at fun o e => hs₂ _ _ e
    have hk₃ : ∀ b o, b ≠ I → b ≠ S → s.heap.get? b = some o → h₂.get? b = some o := fun b o q1 q2 e => hs₂ _ _ (hk' b o (by simpa using q1) (hk b o q1 q2 e))
    have S₂ : g.StaysIn h₂ := fun b o e => hs₂ _ _ (S₁ b o e)
    have hz2 : items.size ≤ sizeLine := by
      rcases hb with ⟨_, rfl⟩ | ⟨_, _, _, _, rfl, _⟩ <;> (rw [sizeLine_eq]; simp)
    have upd : ∀ tk₃, FirstMax ys (j + 1) j → wpAny (model prog w) A.in1 (updateSeq S (fun _ => #[Value.str y t, Value.str k t₂])) (fun _ s' => codeAny (model prog w) A (.builtin "max.loop" ⟨[.ref I, .ref 22, .ref S], [(Str.ofString "default", dflt)]⟩) R s') (fun _ _ => False) { s with heap := h₂, toks := tk₃ } := by
      intro tk₃ hf
      have s1 := Heap.SameBut.update h₂ S (Obj.mapSeq fun _ => #[Value.str y t, Value.str k t₂])
      obtain ⟨c2, hc2⟩ : ∃ c2, (h₂.update S (Obj.mapSeq fun _ => #[Value.str y t, Value.str k t₂])).get? S = some (seqObj "list" #[Value.str y t, Value.str k t₂] c2) := ⟨_, get?_update_seq hS₂ fun _ => #[Value.str y t, Value.str k t₂]⟩
      refine wpAny_updateSeq hS₂ rfl ?_ hz2
      exact ih (j + 1) _ tk₃ _ c2 (by omega) hlt (fun b o q1 q2 e => s1.extBut b o q2 (hk₃ b o q1 q2 e)) (fun b o e => s1.extBut b o (fun q => by rw [q, hgS] at e; cases e) (S₂ b o e)) (hit₂.extBut s1.extBut hIS) (hl₂.extBut s1.extBut hlS) hc2 (.inr ⟨j, _, k, t₂, rfl, hv, hkk, hf⟩)
    rcases hb with ⟨h0, rfl⟩ | ⟨i, vb, kb, tb, rfl, hvb, hkb, hbest⟩
    · show wpAny _ A.in1 (updateSeq S (fun _ => #[Value.str y t, Value.str k t₂]) >>= _) _ _ _
      refine wpAny_bind (wpAny_mono (upd _ ⟨Nat.lt_succ_self _, fun j' hj' => ?_⟩) (fun _ s' hc => ?_) fun _ _ x => x.elim)
      · have : j' = j := by exact om393q _ _ h0 hj'
        subst this
        exact ⟨List.lt_irrefl _, fun h => absurd h (Nat.lt_irrefl _)⟩
      · rw [hname]
        exact wpAny_pure ⟨plainId_quiet PySem.F.plain_max_loop _, hc⟩
    · show wpAny _ A.in1 (tryCatch (holding [.str y t, .str k t₂] (richCompare .Gt (.str k t₂) (.str kb tb) >>= _)) _ >>= _) _ _ _
      refine wpAny_bind (wpAny_tryCatch (wpAny_holding (wpAny_bind (show wpAny (model prog w) A.in1 (compareOp .Gt (.str k t₂) (.str kb tb)) _ _ _ from PySem.P.gt_str ?_))))
      refine wpAny_bind (wpAny_holding (wpAny_truthy_bool ?_))
      refine wpAny_bind (wpAny_letGo (wpAny_pure ?_))
      have e0 : (kb.cps.toList < k.cps.toList) = (kyI ys i < kyI ys j) := by rw [show k.cps.toList = kyI ys j from hkk, show kb.cps.toList = kyI ys i from hkb]
      by_cases hb' : kb.cps.toList < k.cps.toList
      · simp only [hb', decide_true, if_true]
        rw [e0] at hb'
        refine wpAny_bind (wpAny_mono (upd _ ⟨Nat.lt_succ_self _, fun j' hj' => ?_⟩) (fun _ s' hc => ?_) fun _ _ x => x.elim)
        · by_cases e : j' = j
          · subst e; exact ⟨List.lt_irrefl _, fun h => absurd h (Nat.lt_irrefl _)⟩
          · have := (hbest.2 j' (by exact om254q _ _ hj' e)).1
            exact ⟨fun h => this (List.lt_trans hb' h), fun _ => List.lt_of_le_of_lt (List.not_lt.mp this) hb'⟩
        · refine wpAny_bind (wpAny_letGo ?_)
          rw [hname]
          exact wpAny_pure ⟨plainId_quiet PySem.F.plain_max_loop _, hc⟩
      · simp only [hb', decide_false, Bool.false_eq_true, if_false]
        rw [e0] at hb'
        refine wpAny_bind (wpAny_letGo ?_)
        rw [hname]
        refine wpAny_pure ⟨plainId_quiet PySem.F.plain_max_loop _, ih (j + 1) h₂ _ _ c (by exact om394q _ _ _ hr) hlt hk₃ S₂ hit₂ hl₂ hS₂ (.inr ⟨i, vb, kb, tb, rfl, hvb, hkb, ⟨Nat.lt_succ_of_lt hbest.1, fun j' hj' => ?_⟩⟩)⟩
        by_cases e : j' = j
        · subst e; exact ⟨hb', fun h => absurd h (by have := hbest.1; exact om395q _ _ this)⟩
        · exact hbest.2 j' (by exact om254q _ _ hj' e)

/-- max(it, default=d, key=capwords) -/
theorem max_call {I l : Addr} {vs : List Value} {ys : List Str} {dflt : Value} {Q : Value → Shared → Prop} (C : Cx w mg mb g) (S₀ : g.StaysIn s.heap) (hh : A.handled = none) (hroom : A.depth < recursionLimit) (hi : StrsAre vs ys) (hx : ∀ y ∈ ys, (∀ c ∈ raw y, Al c = true) ∧ y.length ≤ 100)
    (hgI : g.get? I = none) (hit : s.heap.IsListIter I l 0) (hl : s.heap.IsList l vs.toArray) (hlI : l ≠ I) (h1 : 1 ≤ vs.length)
    (hQ : ∀ i v h' tk', vs[i]? = some v → FirstMax ys vs.length i → (∀ b o, b ≠ I → s.heap.get? b = some o → h'.get? b = some o) → Q v { s with heap := h', toks := tk' }) :
    wpAny (model prog w) A (call (.builtin "max") [.ref I] [(Str.ofString "default", dflt), (Str.ofString "key", .ref 22)]) Q E s := by
  have hname : (toString "max" ++ toString ".loop" : String) = "max.loop" := by decide
  refine kmk_tree PySem.F.kind_max PySem.F.plain_max PySem.F.entry_max (max_args _ _ _) ?_
  show wpAny _ A.in1 (Builtin.Builtins.bindParams "max" ["key", "default"] 0 ⟨[], [(Str.ofString "default", dflt), (Str.ofString "key", .ref 22)]⟩ >>= _) _ _ s
  refine wpAny_bind (wpAny_of_eq (show Builtin.Builtins.bindParams "max" ["key", "default"] 0 ⟨[], [(Str.ofString "default", dflt), (Str.ofString "key", .ref 22)]⟩ = pure [some (.ref 22), some dflt] from rfl) ?_)
  refine wpAny_bind (wpAny_pure ?_)
  refine wpAny_bind (wpAny_pyIter_listiter hit ?_)
  refine wpAny_bind (wpAny_newList ?_ (Nat.zero_le _))
  rw [hname]
  have lt : ∀ {b o}, s.heap.get? b = some o → b ≠ s.heap.objs.size := fun e => Nat.ne_of_lt (Heap.lt_size e)
  have hI : I ≠ s.heap.objs.size := by obtain ⟨_, e, _⟩ := hit; exact lt e
  have hL : l ≠ s.heap.objs.size := by obtain ⟨_, e, _⟩ := hl; exact lt e
  have up : ∀ b o, s.heap.get? b = some o → (s.heap.push (seqObj "list" #[] 0)).get? b = some o := fun b o e => Heap.get?_push_of_some _ e
  refine wpAny_pure ⟨plainId_quiet PySem.F.plain_max_loop _, ?_⟩
  refine max_loop (S := s.heap.objs.size) C hh hroom hi hx hgI ?_ hI hlI hL h1 (fun i v h' tk' e1 e2 e3 => hQ i v h' tk' e1 e2 fun b o q e => e3 b o q (lt e) e) _ 0 (s.heap.push (seqObj "list" #[] 0)) s.toks #[] 0 rfl (Nat.zero_le _) (fun b o _ _ e => up b o e) (fun b o e => up b o (S₀ b o e)) (hit.at fun o e => up _ o e) (hl.at fun o e => up _ o e) (Heap.get?_push_size _ rfl) (.inl ⟨rfl, rfl⟩)
  cases e : g.get? s.heap.objs.size with
  | none => rfl
  | some o => exact absurd (Heap.lt_size (S₀ _ _ e)) (Nat.lt_irrefl _)
end
end Mine
end
section
open PySem PySem.W PyProof.Rows PySem.Calls
set_option Elab.async false
set_option linter.all false
set_option maxRecDepth 100000
namespace Mine
/-- a list iterator that has come to its end -/
def Ended (h : Heap) (it : Addr) : Prop := ∃ o v, h.get? it = some o ∧ o.cls = .type "list_iterator" ∧ o.data = .fields #[.none, v]
section
variable {prog : Program} {w : World} {A : Around} {E : Value → Shared → Prop} {s : Shared} {mg mb : Str → Option Value} {g : Heap}

theorem stop_ {α : Type} {P : α → Shared → Prop} (hh : A.handled = none)
    (hE : ∀ h' e, (∀ b o, s.heap.get? b = some o → h'.get? b = some o) → (∃ o, h'.get? e = some o ∧ o.cls = .type "StopIteration") → E (.ref e) { s with heap := h' }) :
    wpAny (model prog w) A (Builtin.SmallTypes.stopIteration : Sem α) P E s := by
  unfold Builtin.SmallTypes.stopIteration
  show wpAny _ _ (newExc (.type "StopIteration") [] >>= _) _ _ _
  refine wpAny_bind ?_
  simp only [newExc, newTuple]
  refine wpAny_bind (wpAny_newObj_type ?_ (by size_fits))
  refine wpAny_bind (m := firstArgMember _ _) (wpAny_of_eq (a := Value.none) (by first | rfl | (simp only [firstArgMember]; rfl)) ?_)
  refine wpAny_newObj_type ?_ (by size_fits)
  simp only [raiseNew]
  refine wpAny_bind (wpAny_handled ?_)
  rw [hh]
  refine wpAny_bind (wpAny_pure (wpAny_throw ?_))
  exact hE _ _ (fun b o e => Heap.get?_push_of_some _ (Heap.get?_push_of_some _ e)) ⟨_, Heap.get?_push_size _ rfl, rfl⟩

theorem nextOf_range_item {it : Addr} {x left step : Int} {Q : Value → Shared → Prop} (hit : IsRangeIter s.heap it x left step) (hleft : 0 < left)
    (hQ : ∀ h', IsRangeIter h' it (x + step) (left - 1) step → Heap.SameBut it s.heap h' → Q (.int x s.toks) { s with heap := h', toks := s.toks + 1 }) :
    wpAny (model prog w) A (Builtin.SmallTypes.nextOf (.ref it)) Q E s := by
  have hT : s.TypeIs (.ref it) "range_iterator" := ⟨_, hit, rfl⟩
  unfold Builtin.SmallTypes.nextOf
  refine wpAny_bind (wpAny_callSpecial?_slot (name := Str.ofString "__next__") hT PySem.F.slot_range_iterator_next
    (call_meets PySem.F.slot_range_iterator_next hT PySem.F.entry_range_iterator_next (PySem.F.args_range_iterator_next_1 _) (AutoRange.range_iterator___next___range_iterator_1 it x left step (by omega)) ⟨hit, ?_⟩))
  exact wpAny_pure (hQ _ (Heap.get?_update_self _ (Heap.get?_update_self _ hit rfl) rfl) ((Heap.SameBut.update ..).trans (Heap.SameBut.update ..)))
theorem nextOf_range_end {it : Addr} {x left step : Int} {Q : Value → Shared → Prop} (hh : A.handled = none) (hit : IsRangeIter s.heap it x left step) (hleft : left ≤ 0)
    (hE : ∀ h' e, (∀ b o, s.heap.get? b = some o → h'.get? b = some o) → (∃ o, h'.get? e = some o ∧ o.cls = .type "StopIteration") → E (.ref e) { s with heap := h' }) :
    wpAny (model prog w) A (Builtin.SmallTypes.nextOf (.ref it)) Q E s := by
  have hT : s.TypeIs (.ref it) "range_iterator" := ⟨_, hit, rfl⟩
  unfold Builtin.SmallTypes.nextOf
  refine wpAny_bind (wpAny_callSpecial?_slot (name := Str.ofString "__next__") hT PySem.F.slot_range_iterator_next
    (wpAny_call_entry PySem.F.slot_range_iterator_next hT PySem.F.entry_range_iterator_next ?_ (PySem.F.args_range_iterator_next_1 _)))
  show wpAny _ _ (field (.ref it) 0 >>= _) _ _ s
  refine wpAny_bind (wpAny_field hit rfl (x := rawInt x) rfl ?_)
  show wpAny _ _ (field (.ref it) 1 >>= _) _ _ s
  refine wpAny_bind (wpAny_field hit rfl (x := rawInt left) rfl ?_)
  show wpAny _ _ (field (.ref it) 2 >>= _) _ _ s
  refine wpAny_bind (wpAny_field hit rfl (x := rawInt step) rfl ?_)
  show wpAny _ _ (if left ≤ 0 then _ else _) _ _ s
  rw [if_pos hleft]
  refine wpAny_bind (wpAny_rule ?_)
  exact wpAny_bind (stop_ (A := A.in1) hh hE)

theorem nextOf_list_end {it l : Addr} {i : Nat} {items : Array Value} {Q : Value → Shared → Prop} (hh : A.handled = none)
    (hit : s.heap.IsListIter it l i) (hl : s.heap.IsList l items) (hx : items[i]? = none)
    (hE : ∀ h' e, Heap.ExtBut it s.heap h' → Ended h' it → (∃ o, h'.get? e = some o ∧ o.cls = .type "StopIteration") → E (.ref e) { s with heap := h' }) :
    wpAny (model prog w) A (Builtin.SmallTypes.nextOf (.ref it)) Q E s := by
  obtain ⟨o, ho, hc, hd⟩ := id hit
  obtain ⟨ol, hol, _, nl, hdl⟩ := hl
  unfold Builtin.SmallTypes.nextOf
  refine wpAny_bind (wpAny_callSpecial?_slot (name := Str.ofString "__next__") hit.typeIs slot_listiter_next
    (wpAny_call_entry slot_listiter_next hit.typeIs entry_listiter_next ?_ (args_listiter_next _)))
  show wpAny _ _ (field (.ref it) 0 >>= _) _ _ s
  refine wpAny_bind (wpAny_field ho hd (x := .ref l) rfl ?_)
  show wpAny _ _ (if (Value.ref l == Value.none) = true then _ else _) _ _ s
  rw [if_neg (show ¬ ((Value.ref l == Value.none) = true) from Bool.false_ne_true)]
  show wpAny _ _ (field (.ref it) 1 >>= _) _ _ s
  refine wpAny_bind (wpAny_field ho hd (x := .int i 0) rfl ?_)
  show wpAny _ _ (seqItems? (.ref l) >>= _) _ _ s
  refine wpAny_bind (wpAny_seqItems hol hdl ?_)
  simp only [Int.toNat_natCast, hx]
  refine wpAny_bind (wpAny_rule (wpAny_bind (wpAny_setField ho hd (by simp) ?_)))
  refine stop_ (A := A.in1) hh fun h' e k hx => hE h' e (fun b o q e => k b o ((Heap.SameBut.update ..).extBut b o q e)) ?_ hx
  have hd' := Obj.data_mapFields hd (·.setIfInBounds 0 Value.none)
  exact ⟨_, _, k _ _ (Heap.get?_update_self _ ho (Obj.isFreed_of_fields hd')), (Obj.cls_mapFields _ _).trans hc, hd'⟩
end
end Mine
end
section
open PySem PySem.W PyProof.Rows PySem.Calls
set_option Elab.async false
set_option linter.all false
set_option maxRecDepth 100000
namespace Mine
/-- zip(range, it) stands at k -/
def ZSt (vs : List Value) (st : Int) (n : Nat) (z TI TO i1 i2 l : Addr) (f0 : Value) (k : Nat) (h : Heap) : Prop :=
  IsZip h z TI TO f0 ∧ IsPair h TI (.ref i1) (.ref i2) ∧ (∃ a b, IsPair h TO a b) ∧ IsRangeIter h i1 ((k : Int) * st) ((n : Int) - k) st ∧ h.IsListIter i2 l k ∧ h.IsList l vs.toArray
structure ZA (z TI TO i1 i2 l : Addr) : Prop where
  nd : [z, TI, TO, i1, i2, l].Nodup
section
variable {prog : Program} {w : World} {A : Around} {E : Value → Shared → Prop} {s : Shared} {vs : List Value} {st : Int} {n : Nat} {z TI TO i1 i2 l : Addr}

theorem ZA.ne (D : ZA z TI TO i1 i2 l) : z ≠ TI ∧ z ≠ TO ∧ z ≠ i1 ∧ z ≠ i2 ∧ z ≠ l ∧ TI ≠ TO ∧ TI ≠ i1 ∧ TI ≠ i2 ∧ TI ≠ l ∧ TO ≠ i1 ∧ TO ≠ i2 ∧ TO ≠ l ∧ i1 ≠ i2 ∧ i1 ≠ l ∧ i2 ≠ l := by
  have := D.nd
  simp only [List.nodup_cons, List.mem_cons, List.not_mem_nil, or_false, not_or, List.nodup_nil, and_true, not_false_eq_true] at this
  obtain ⟨⟨a1, a2, a3, a4, a5⟩, ⟨b1, b2, b3, b4⟩, ⟨c1, c2, c3⟩, ⟨d1, d2⟩, e1⟩ := this
  exact ⟨a1, a2, a3, a4, a5, b1, b2, b3, b4, c1, c2, c3, d1, d2, e1⟩

theorem zip_item {k : Nat} {v : Value} {Q : Option Value → Shared → Prop} (D : ZA z TI TO i1 i2 l) (h : ZSt vs st n z TI TO i1 i2 l .none k s.heap) (hk : k < n) (hv : vs[k]? = some v)
    (hQ : ∀ h' t tk, ZSt vs st n z TI TO i1 i2 l (rawInt s.heap.objs.size) (k + 1) h' → IsPair h' s.heap.objs.size (.int ((k : Int) * st) t) v →
      (∀ c o, c ∉ [z, TO, i1, i2] → s.heap.get? c = some o → h'.get? c = some o) → Q (some (.ref s.heap.objs.size)) { s with heap := h', toks := tk }) :
    wpAny (model prog w) A (pyNext (.ref z)) Q E s := by
  obtain ⟨zTI, zTO, zi1, zi2, zl, TITO, TIi1, TIi2, TIl, TOi1, TOi2, TOl, i12, i1l, i2l⟩ := D.ne
  obtain ⟨hz, hTI, ⟨a, b, hTO⟩, h1, h2, hl⟩ := h
  have hT : s.TypeIs (.ref z) "zip" := ⟨_, hz, rfl⟩
  unfold pyNext
  refine wpAny_bind (wpAny_attempt (wpAny_callSpecial?_slot (name := Str.ofString "__next__") hT PySem.F.slot_zip_next
    (wpAny_call_entry PySem.F.slot_zip_next hT PySem.F.entry_zip_next ?_ (PySem.F.args_zip_next_1 _))))
  show wpAny _ _ (field (.ref z) 2 >>= _) _ _ _
  refine wpAny_bind (wpAny_field hz rfl (x := .bool false) rfl ?_)
  show wpAny _ _ (field (.ref z) 3 >>= _) _ _ _
  refine wpAny_bind (wpAny_field hz rfl (x := .ref TI) rfl ?_)
  refine wpAny_bind (wpAny_seqItems hTI rfl ?_)
  show wpAny _ _ (Builtin.SmallTypes.ownedTupleIsFree (.ref z) >>= _) _ _ _
  refine wpAny_bind ?_
  unfold Builtin.SmallTypes.ownedTupleIsFree
  refine wpAny_bind (wpAny_field hz rfl (x := .none) rfl (wpAny_pure ?_))
  simp only [if_true]
  refine wpAny_bind (wpAny_rule ?_)
  refine wpAny_bind (wpAny_field hz rfl (x := .ref TO) rfl ?_)
  refine wpAny_bind (wpAny_setField_rec hz (by simp) fun h₁ hz₁ hs₁ => ?_)
  replace hz₁ : IsZip h₁ z TI TO .ellipsis := hz₁
  refine wpAny_bind ?_
  simp only [List.zipIdx_cons, List.zipIdx_nil, List.forIn_cons, List.forIn_nil]
  -- the range's next
  refine wpAny_bind (wpAny_bind (wpAny_onRaise ?_))
  show wpAny _ _ (Builtin.SmallTypes.nextOf (.ref i1) >>= _) _ _ _
  refine wpAny_bind (nextOf_range_item (hs₁.extBut _ _ zi1.symm h1) (by exact om399q _ _ hk) fun h₂ h1₂ hs₂ => wpAny_pure ?_)
  have hTO₂ : IsPair h₂ TO a b := hs₂.extBut _ _ TOi1 (hs₁.extBut _ _ zTO.symm hTO)
  refine wpAny_bind (wpAny_seqItems hTO₂ rfl ?_)
  refine wpAny_bind (wpAny_updateSeq_pair hTO₂ fun h₃ hTO₃ hs₃ => ?_)
  replace hTO₃ : IsPair h₃ TO (.int ((k : Int) * st) s.toks) b := hTO₃
  refine wpAny_bind (wpAny_letGo (wpAny_pure ?_))
  -- the list's next
  refine wpAny_bind (wpAny_bind (wpAny_onRaise ?_))
  show wpAny _ _ (Builtin.SmallTypes.nextOf (.ref i2) >>= _) _ _ _
  have up₃ : ∀ c o, c ≠ z → c ≠ TO → c ≠ i1 → s.heap.get? c = some o → h₃.get? c = some o := fun c o c1 c2 c3 e => hs₃.extBut _ _ c2 (hs₂.extBut _ _ c3 (hs₁.extBut _ _ c1 e))
  refine wpAny_bind (wpAny_nextOf_list_item (h2.at fun o e => up₃ _ o zi2.symm TOi2.symm i12.symm e) (hl.at fun o e => up₃ _ o zl.symm TOl.symm i1l.symm e) (x := v) (by simpa using hv) fun h₄ h2₄ hs₄ => wpAny_pure ?_)
  have hTO₄ : IsPair h₄ TO (.int ((k : Int) * st) s.toks) b := hs₄.extBut _ _ TOi2 hTO₃
  refine wpAny_bind (wpAny_seqItems hTO₄ rfl ?_)
  refine wpAny_bind (wpAny_updateSeq_pair hTO₄ fun h₅ hTO₅ hs₅ => ?_)
  replace hTO₅ : IsPair h₅ TO (.int ((k : Int) * st) s.toks) v := hTO₅
  refine wpAny_bind (wpAny_letGo (wpAny_pure (wpAny_pure ?_)))
  refine wpAny_bind (wpAny_seqItems hTO₅ rfl ?_)
  refine wpAny_bind (wpAny_newTuple ?_)
  have hsz : h₅.objs.size = s.heap.objs.size := by rw [hs₅.1, hs₄.1, hs₃.1, hs₂.1, hs₁.1]
  have up₅ : ∀ c o, c ≠ z → c ≠ TO → c ≠ i1 → c ≠ i2 → s.heap.get? c = some o → h₅.get? c = some o := fun c o c1 c2 c3 c4 e => hs₅.extBut _ _ c2 (hs₄.extBut _ _ c4 (up₃ c o c1 c2 c3 e))
  have hz₅ : IsZip h₅ z TI TO .ellipsis := hs₅.extBut _ _ zTO (hs₄.extBut _ _ zi2 (hs₃.extBut _ _ zTO (hs₂.extBut _ _ zi1 hz₁)))
  have h1₅ : IsRangeIter h₅ i1 ((k : Int) * st + st) ((n : Int) - k - 1) st := hs₅.extBut _ _ TOi1.symm (hs₄.extBut _ _ i12 (hs₃.extBut _ _ TOi1.symm h1₂))
  have h2₅ : h₅.IsListIter i2 l (k + 1) := h2₄.extBut hs₅.extBut TOi2.symm
  have hzlt : z < h₅.objs.size := Heap.lt_size hz₅
  show wpAny _ _ (Builtin.SmallTypes.ownedTupleHandOut (.ref z) (.ref h₅.objs.size) >>= _) _ _ _
  refine wpAny_bind ?_
  unfold Builtin.SmallTypes.ownedTupleHandOut
  have hz₆ : IsZip (h₅.push { cls := .type "tuple", data := .seq #[.int ((k : Int) * st) s.toks, v] }) z TI TO .ellipsis := Heap.get?_push_of_some _ hz₅
  refine wpAny_bind (wpAny_setField_rec hz₆ (by simp) fun h₇ hz₇ hs₇ => ?_)
  replace hz₇ : IsZip h₇ z TI TO (rawInt h₅.objs.size) := hz₇
  refine wpAny_setField_rec hz₇ (by simp) fun h₈ hz₈ hs₈ => ?_
  replace hz₈ : IsZip h₈ z TI TO (rawInt h₅.objs.size) := hz₈
  have up : ∀ c o, c ≠ z → h₅.get? c = some o → h₈.get? c = some o := fun c o c1 e => hs₈.extBut _ _ c1 (hs₇.extBut _ _ c1 (Heap.get?_push_of_some _ e))
  have hT₈ : IsPair h₈ h₅.objs.size (.int ((k : Int) * st) s.toks) v := hs₈.extBut _ _ (Nat.ne_of_gt hzlt) (hs₇.extBut _ _ (Nat.ne_of_gt hzlt) (Heap.get?_push_size _ rfl))
  rw [hsz] at hz₈ hT₈
  refine wpAny_pure ⟨_, rfl, wpAny_pure ?_⟩
  show Q (some (.ref h₅.objs.size)) _
  rw [hsz]
  refine hQ h₈ _ _ ⟨hz₈, up _ _ zTI.symm (up₅ _ _ zTI.symm TITO TIi1 TIi2 hTI), ⟨_, _, up _ _ zTO.symm hTO₅⟩, ?_, h2₅.at fun o e => up _ o zi2.symm e, (hl.at fun o e => up₅ _ o zl.symm TOl.symm i1l.symm i2l.symm e).at fun o e => up _ o zl.symm e⟩ hT₈ fun c o hc e => ?_
  · have e1 : ((k + 1 : Nat) : Int) * st = (k : Int) * st + st := by push_cast; rw [Int.add_mul, Int.one_mul]
    have e2 : (n : Int) - ((k + 1 : Nat) : Int) = (n : Int) - k - 1 := by push_cast; exact om400q _ _
    rw [e1, e2]
    exact up _ _ zi1.symm h1₅
  · simp only [List.mem_cons, List.not_mem_nil, or_false, not_or] at hc
    exact up c o hc.1 (up₅ c o hc.1 hc.2.1 hc.2.2.1 hc.2.2.2 e)
end
end Mine
end
section
open PySem PySem.W PyProof.Rows PySem.Calls
set_option Elab.async false
set_option linter.all false
set_option maxRecDepth 100000
namespace Mine
/-- what is left of the list's iterator when zip(range, it) is at its end -/
def ZEnd (vs : List Value) (n : Nat) (i2 l : Addr) (h : Heap) : Prop := (n ≤ vs.length → h.IsListIter i2 l n) ∧ (vs.length < n → Ended h i2) ∧ h.IsList l vs.toArray
section
variable {prog : Program} {w : World} {A : Around} {E : Value → Shared → Prop} {s : Shared} {vs : List Value} {st : Int} {n : Nat} {z TI TO i1 i2 l : Addr}

theorem zip_end {Q : Option Value → Shared → Prop} (hh : A.handled = none) (D : ZA z TI TO i1 i2 l) (h : ZSt vs st n z TI TO i1 i2 l .none (min n vs.length) s.heap)
    (hQ : ∀ h', ZEnd vs n i2 l h' → (∀ c o, c ∉ [z, TO, i1, i2] → s.heap.get? c = some o → h'.get? c = some o) → ∀ tk, Q none { s with heap := h', toks := tk }) :
    wpAny (model prog w) A (pyNext (.ref z)) Q E s := by
  obtain ⟨zTI, zTO, zi1, zi2, zl, TITO, TIi1, TIi2, TIl, TOi1, TOi2, TOl, i12, i1l, i2l⟩ := D.ne
  obtain ⟨hz, hTI, ⟨a, b, hTO⟩, h1, h2, hl⟩ := h
  have hT : s.TypeIs (.ref z) "zip" := ⟨_, hz, rfl⟩
  have out : ∀ (s' : Shared) (e : Addr), (∃ o, s'.heap.get? e = some o ∧ o.cls = .type "StopIteration") → Q none s' →
      wpAny (model prog w) A (isInstance (.ref e) (.type "StopIteration")) (fun b s'' => wpAny (model prog w) A (if b = true then (pure none : Sem (Option Value)) else throw (.ref e)) Q E s'') E s' := by
    rintro s' e ⟨o, ho, hc⟩ hq
    refine wpAny_isInstance (T := "StopIteration") (b := true) ⟨o, ho, hc⟩ isSubtype_stop ?_
    exact wpAny_pure hq
  unfold pyNext
  refine wpAny_bind (wpAny_attempt (wpAny_callSpecial?_slot (name := Str.ofString "__next__") hT PySem.F.slot_zip_next
    (wpAny_call_entry PySem.F.slot_zip_next hT PySem.F.entry_zip_next ?_ (PySem.F.args_zip_next_1 _))))
  show wpAny _ _ (field (.ref z) 2 >>= _) _ _ _
  refine wpAny_bind (wpAny_field hz rfl (x := .bool false) rfl ?_)
  show wpAny _ _ (field (.ref z) 3 >>= _) _ _ _
  refine wpAny_bind (wpAny_field hz rfl (x := .ref TI) rfl ?_)
  refine wpAny_bind (wpAny_seqItems hTI rfl ?_)
  show wpAny _ _ (Builtin.SmallTypes.ownedTupleIsFree (.ref z) >>= _) _ _ _
  refine wpAny_bind ?_
  unfold Builtin.SmallTypes.ownedTupleIsFree
  refine wpAny_bind (wpAny_field hz rfl (x := .none) rfl (wpAny_pure ?_))
  simp only [if_true]
  refine wpAny_bind (wpAny_rule ?_)
  refine wpAny_bind (wpAny_field hz rfl (x := .ref TO) rfl ?_)
  refine wpAny_bind (wpAny_setField_rec hz (by simp) fun h₁ hz₁ hs₁ => ?_)
  replace hz₁ : IsZip h₁ z TI TO .ellipsis := hz₁
  refine wpAny_bind ?_
  simp only [List.zipIdx_cons, List.zipIdx_nil, List.forIn_cons, List.forIn_nil]
  refine wpAny_bind (wpAny_bind (wpAny_onRaise ?_))
  show wpAny _ _ (Builtin.SmallTypes.nextOf (.ref i1) >>= _) _ _ _
  by_cases hn : n ≤ vs.length
  · -- the range ends
    rw [Nat.min_eq_left hn] at h1 h2
    refine wpAny_bind (nextOf_range_end (A := A.in1) hh (hs₁.extBut _ _ zi1.symm h1) (by exact om401q _) fun h₂ e hk₂ he => ?_)
    obtain ⟨oe, hoe, hce⟩ := he
    have hz₂ : IsZip h₂ z TI TO .ellipsis := hk₂ _ _ hz₁
    have hez : e ≠ z := fun x => by subst x; rw [hz₂] at hoe; cases hoe; simp at hce
    refine wpAny_setField_rec hz₂ (by simp) fun h₃ _ hs₃ => ?_
    have up : ∀ c o, c ≠ z → s.heap.get? c = some o → h₃.get? c = some o := fun c o c1 x => hs₃.extBut _ _ c1 (hk₂ _ _ (hs₁.extBut _ _ c1 x))
    refine wpAny_bind (wpAny_isInstance (T := "StopIteration") (b := true) ⟨oe, hs₃.extBut _ _ hez hoe, hce⟩ isSubtype_stop ?_)
    refine wpAny_pure (hQ h₃ ⟨fun _ => h2.at fun o x => up _ o zi2.symm x, fun h => absurd h (by exact om207q _ _ hn), hl.at fun o x => up _ o zl.symm x⟩ (fun c o hc x => up c o (fun q => hc (by simp [q])) x) _)
  · -- the list ends
    rw [Nat.min_eq_right (by omega)] at h1 h2
    refine wpAny_bind (nextOf_range_item (hs₁.extBut _ _ zi1.symm h1) (by exact om402q _ _ hn) fun h₂ h1₂ hs₂ => wpAny_pure ?_)
    have hTO₂ : IsPair h₂ TO a b := hs₂.extBut _ _ TOi1 (hs₁.extBut _ _ zTO.symm hTO)
    refine wpAny_bind (wpAny_seqItems hTO₂ rfl ?_)
    refine wpAny_bind (wpAny_updateSeq_pair hTO₂ fun h₃ hTO₃ hs₃ => ?_)
    refine wpAny_bind (wpAny_letGo (wpAny_pure ?_))
    refine wpAny_bind (wpAny_bind (wpAny_onRaise ?_))
    show wpAny _ _ (Builtin.SmallTypes.nextOf (.ref i2) >>= _) _ _ _
    have up₃ : ∀ c o, c ≠ z → c ≠ TO → c ≠ i1 → s.heap.get? c = some o → h₃.get? c = some o := fun c o c1 c2 c3 e => hs₃.extBut _ _ c2 (hs₂.extBut _ _ c3 (hs₁.extBut _ _ c1 e))
    refine wpAny_bind (nextOf_list_end (A := A.in1) hh (h2.at fun o e => up₃ _ o zi2.symm TOi2.symm i12.symm e) (hl.at fun o e => up₃ _ o zl.symm TOl.symm i1l.symm e) (by simp) fun h₄ e hk₄ hend he => ?_)
    obtain ⟨oe, hoe, hce⟩ := he
    have hz₄ : IsZip h₄ z TI TO .ellipsis := hk₄ _ _ zi2 (hs₃.extBut _ _ zTO (hs₂.extBut _ _ zi1 hz₁))
    have hez : e ≠ z := fun x => by subst x; rw [hz₄] at hoe; cases hoe; simp at hce
    refine wpAny_setField_rec hz₄ (by simp) fun h₅ _ hs₅ => ?_
    have up : ∀ c o, c ≠ z → c ≠ TO → c ≠ i1 → c ≠ i2 → s.heap.get? c = some o → h₅.get? c = some o := fun c o c1 c2 c3 c4 x => hs₅.extBut _ _ c1 (hk₄ _ _ c4 (up₃ c o c1 c2 c3 x))
    refine wpAny_bind (wpAny_isInstance (T := "StopIteration") (b := true) ⟨oe, hs₅.extBut _ _ hez hoe, hce⟩ isSubtype_stop ?_)
    refine wpAny_pure (hQ h₅ ⟨fun h => absurd h hn, fun _ => ?_, hl.at fun o x => up _ o zl.symm TOl.symm i1l.symm i2l.symm x⟩ (fun c o hc x => ?_) _)
    · obtain ⟨o, v, g1, g2, g3⟩ := hend
      exact ⟨o, v, hs₅.extBut _ _ zi2.symm g1, g2, g3⟩
    · simp only [List.mem_cons, List.not_mem_nil, or_false, not_or] at hc
      exact up c o hc.1 hc.2.1 hc.2.2.1 hc.2.2.2 x

/-- zip(range, it) drawn into two names -/
theorem Drw.zip {x y : Str} {px py tp : Pos} {kk : Nat} (hh : A.handled = none) (D : ZA z TI TO i1 i2 l) (hxy : x ≠ y) :
    Drw prog w A z (.Tuple [.Name x px, .Name y py] kk tp) [x, y] [z, TI, TO, i1, i2, l] [z, TO, i1, i2] (min n vs.length) (fun i bs => ∃ t v, vs[i]? = some v ∧ bs = [(x, .int ((i : Int) * st) t), (y, v)]) (fun k h => ZSt vs st n z TI TO i1 i2 l .none k h) (ZEnd vs n i2 l) := by
  have frame : ∀ f0 i h h', ZSt vs st n z TI TO i1 i2 l f0 i h → (∀ b ∈ [z, TI, TO, i1, i2, l], ∀ o, h.get? b = some o → h'.get? b = some o) → ZSt vs st n z TI TO i1 i2 l f0 i h' := by
    rintro f0 i h h' ⟨a1, a2, ⟨a, b, a3⟩, a4, a5, a6⟩ hk
    exact ⟨hk _ (by simp) _ a1, hk _ (by simp) _ a2, ⟨a, b, hk _ (by simp) _ a3⟩, hk _ (by simp) _ a4, a5.at fun o e => hk _ (by simp) o e, a6.at fun o e => hk _ (by simp) o e⟩
  obtain ⟨zTI, zTO, zi1, zi2, zl, TITO, TIi1, TIi2, TIl, TOi1, TOi2, TOl, i12, i1l, i2l⟩ := D.ne
  have U : WalksU prog w A z [z, TI, TO, i1, i2, l] [z, TO, i1, i2] (min n vs.length) (fun i vals => ∃ t v, vs[i]? = some v ∧ vals = #[.int ((i : Int) * st) t, v]) (fun k h => ZSt vs st n z TI TO i1 i2 l .none k h)
      (fun i T h => ZSt vs st n z TI TO i1 i2 l (rawInt T) (i + 1) h ∧ T ∉ [z, TO, i1, i2]) :=
    { sub := fun b hb => by simp only [List.mem_cons, List.not_mem_nil, or_false] at hb ⊢; rcases hb with h | h | h | h <;> simp [h]
      frame := frame _
      item := fun i s Q E hi st' hQ => by
        have hv : vs[i]? = some (vs[i]'(by exact om140q _ _ _ hi)) := List.getElem?_eq_getElem _
        refine zip_item D st' (by exact om217q _ _ _ hi) hv fun h' t tk hz hT hk => ?_
        have lt : ∀ {b o}, s.heap.get? b = some o → s.heap.objs.size ≠ b := fun e => Nat.ne_of_gt (Heap.lt_size e)
        obtain ⟨a1, a2, ⟨a, b, a3⟩, a4, ⟨_, a5, _⟩, a6⟩ := st'
        exact hQ _ _ h' tk ⟨t, _, hv, rfl⟩ ⟨_, hT, rfl, _, rfl⟩ ⟨hz, by simp only [List.mem_cons, List.not_mem_nil, or_false, not_or]; exact ⟨lt a1, lt a3, lt a4, lt a5⟩⟩ hk
      go := fun elts k pos i T s Q E hm hQ => by
        obtain ⟨⟨a1, a2, ⟨a, b, a3⟩, a4, a5, a6⟩, _⟩ := hm
        refine wpAny_letOwnedTupleGo_zip a1 fun h' hz' hs' => hQ h' ⟨hz', hs'.extBut _ _ zTI.symm a2, ⟨a, b, hs'.extBut _ _ zTO.symm a3⟩, hs'.extBut _ _ zi1.symm a4, a5.extBut hs'.extBut zi2.symm, a6.extBut hs'.extBut zl.symm⟩ fun c o hc e => hs'.extBut _ _ (fun x => hc (by simp [x])) e
      apart := fun i T h hm => hm.2
      done := fun s Q E st' hQ => zip_end hh D st' fun h' _ hk tk => hQ h' tk hk
      self := fun i s Q E st' hQ => wpAny_pyIter_zip st'.1 hQ }
  have W := Drw.tup2 (x := x) (y := y) (px := px) (py := py) (tp := tp) (kk := kk) (P := fun i a b => ∃ t v, vs[i]? = some v ∧ a = .int ((i : Int) * st) t ∧ b = v) hh U (fun i vals ⟨t, v, hv, e⟩ => ⟨_, _, e, t, v, hv, rfl, rfl⟩) hxy
  exact {
    sub := W.sub, frame := W.frame, self := W.self
    step := fun i env m s Q E hi st' hn hL hloc hp hQ => W.step i env m s Q E hi st' hn hL hloc hp fun bs m' h' tk b1 b2 b3 b4 b5 b6 => by
      obtain ⟨a, b, ⟨t, v, hv, rfl, rfl⟩, rfl⟩ := b1
      exact hQ _ m' h' tk ⟨t, _, hv, rfl⟩ b2 b3 b4 b5 b6
    done := fun s Q E st' hQ => zip_end hh D st' fun h' he hk tk => hQ h' tk he hk }
end
end Mine
end
section
open PySem PySem.W PyProof.Rows PySem.Calls
set_option Elab.async false
set_option linter.all false
set_option maxRecDepth 100000
namespace Mine
theorem nd6 (N I l : Nat) (h1 : I < N) (h2 : l < N) (h3 : I ≠ l) : ([N + 3, N + 1, N + 2, N, I, l] : List Nat).Nodup := by
  simp only [List.nodup_cons, List.mem_cons, List.not_mem_nil, or_false, not_or, List.nodup_nil, and_true, not_false_eq_true]
  refine ⟨⟨?_, ?_, ?_, ?_, ?_⟩, ⟨?_, ?_, ?_, ?_⟩, ⟨?_, ?_, ?_⟩, ⟨?_, ?_⟩, ?_⟩ <;> omega
abbrev zH1 (h : Heap) (a c : Int) (k : Int) : Heap := h.push { cls := .type "range_iterator", data := .fields #[rawInt a, rawInt k, rawInt c] }
abbrev zH2 (h : Heap) (a c k : Int) (I : Addr) : Heap := (zH1 h a c k).push { cls := .type "tuple", data := .seq #[.ref h.objs.size, .ref I] }
abbrev zH3 (h : Heap) (a c k : Int) (I : Addr) : Heap := (zH2 h a c k I).push { cls := .type "tuple", data := .seq #[.none, .none] }
abbrev zH4 (h : Heap) (a c k : Int) (I : Addr) : Heap := (zH3 h a c k I).push { cls := .type "zip", data := .fields #[.none, .bool false, .bool false, .ref (zH1 h a c k).objs.size, .ref (zH2 h a c k I).objs.size] }

theorem meets_zip_ri (r I l : Addr) (a b c : Int) (t u v : Tok) (hsm : Builtin.Range.small a b c = true) :
    Meets (Builtin.«zip.__new__» ⟨[.type "zip", .ref r, .ref I], []⟩) (fun _ R s => IsRange s.heap r a b c t u v ∧ s.heap.IsListIter I l 0 ∧
      R (.ok (.ret (.ref (zH3 s.heap a c (Builtin.Range.rangeSize a b c) I).objs.size))) { s with heap := zH4 s.heap a c (Builtin.Range.rangeSize a b c) I }) :=
  .of_wp fun prog w A R s h => by
    obtain ⟨hp, g, d, tk, os⟩ := s; obtain ⟨hr, hI, h⟩ := h
    have hsub := sub_zip
    have hR1 : IsRange (Shared.heap ⟨hp, g, d, tk, os⟩) r a b c t u v := hr
    have hI2 : Heap.IsListIter (Shared.heap ⟨hp.push { cls := .type "range_iterator", data := .fields #[rawInt a, rawInt (Builtin.Range.rangeSize a b c), rawInt c] }, g, d, tk, os⟩) I l 0 := hI.at fun o e => Heap.get?_push_of_some _ e
    wp_walk using wpAny_pyIter_range hR1 hsm, wpAny_pyIter_listiter hI2
    exact ⟨_, rfl, h⟩
section
variable {prog : Program} {w : World} {A : Around} {E : Value → Shared → Prop} {s : Shared}
theorem zip_call {r I l : Addr} {vs : List Value} {b st : Int} {n : Nat} {t u v : Tok} {Q : Value → Shared → Prop} (hr : IsRange s.heap r 0 b st t u v) (hsm : Builtin.Range.small 0 b st = true) (hsz : Builtin.Range.rangeSize 0 b st = (n : Int)) (hI : s.heap.IsListIter I l 0) (hl : s.heap.IsList l vs.toArray) (hIl : I ≠ l)
    (h : ∀ h' z TI TO i1, ZA z TI TO i1 I l → ZSt vs st n z TI TO i1 I l .none 0 h' → (∀ c o, s.heap.get? c = some o → h'.get? c = some o) → s.heap.objs.size ≤ z → s.heap.objs.size ≤ TI → s.heap.objs.size ≤ TO → s.heap.objs.size ≤ i1 → Q (.ref z) { s with heap := h' }) :
    wpAny (model prog w) A (call (.type "zip") [.ref r, .ref I]) Q E s := by
  refine callType_new PySem.F.called_zip (by decide) (PySem.F.typeCall_zip_2 _ _) (PySem.F.newCall_zip_2 _ _) (fun obj => PySem.F.args_object_init_3 obj _ _) PySem.F.entry_zip_new
    (meets_zip_ri r I l 0 b st t u v hsm) ⟨hr, hI, ?_⟩
  rw [hsz]
  have z1 : (zH1 s.heap 0 st n).objs.size = s.heap.objs.size + 1 := Heap.size_push ..
  have z2 : (zH2 s.heap 0 st n I).objs.size = s.heap.objs.size + 2 := by rw [Heap.size_push, z1]
  have z3 : (zH3 s.heap 0 st n I).objs.size = s.heap.objs.size + 3 := by rw [Heap.size_push, z2]
  have g4 : (zH4 s.heap 0 st n I).get? (zH3 s.heap 0 st n I).objs.size = some _ := Heap.get?_push_size _ rfl
  have g3 : (zH4 s.heap 0 st n I).get? (zH2 s.heap 0 st n I).objs.size = some _ := Heap.get?_push_of_some _ (Heap.get?_push_size _ rfl)
  have g2 : (zH4 s.heap 0 st n I).get? (zH1 s.heap 0 st n).objs.size = some _ := Heap.get?_push_of_some _ (Heap.get?_push_of_some _ (Heap.get?_push_size _ rfl))
  have g1 : (zH4 s.heap 0 st n I).get? s.heap.objs.size = some _ := Heap.get?_push_of_some _ (Heap.get?_push_of_some _ (Heap.get?_push_of_some _ (Heap.get?_push_size _ rfl)))
  have up : ∀ c o, s.heap.get? c = some o → (zH4 s.heap 0 st n I).get? c = some o := fun c o e => Heap.get?_push_of_some _ (Heap.get?_push_of_some _ (Heap.get?_push_of_some _ (Heap.get?_push_of_some _ e)))
  have hIs : I < s.heap.objs.size := by obtain ⟨_, e, _⟩ := hI; exact Heap.lt_size e
  have hls : l < s.heap.objs.size := by obtain ⟨_, e, _⟩ := hl; exact Heap.lt_size e
  show _ ∧ _
  rw [z1, z2, z3] at g4
  rw [z2] at g3
  rw [z1] at g2
  rw [z3]
  refine ⟨⟨_, g4, rfl⟩, h _ (s.heap.objs.size + 3) (s.heap.objs.size + 1) (s.heap.objs.size + 2) s.heap.objs.size ⟨?_⟩ ⟨g4, g2, ⟨_, _, g3⟩, ?_, hI.at fun o e => up _ o e, hl.at fun o e => up _ o e⟩ up (Nat.le_add_right _ _) (Nat.le_add_right _ _) (Nat.le_add_right _ _) (Nat.le_refl _)⟩
  · exact nd6 s.heap.objs.size I l hIs hls hIl
  · simpa using g1
end
end Mine
end
section
open PySem PySem.W PyProof.Rows PySem.Calls
set_option Elab.async false
set_option linter.all false
set_option maxRecDepth 100000
namespace Mine
section
variable {prog : Program} {w : World} {A : Around} {E : Value → Shared → Prop} {s : Shared} {mg mb : Str → Option Value} {g : Heap}

theorem boot_AttributeError : bootBuiltins (Str.ofString "AttributeError") = some (.type "AttributeError") := by decide +kernel
theorem no_len : typeLookup (.type "list_iterator") "__len__" = pure none := by rw [typeLookup_type, builtinLookup_eq_fast]; kernel_rfl

theorem len_iter {I l : Addr} {k : Nat} {Q : Value → Shared → Prop} (hh : A.handled = none) (hit : s.heap.IsListIter I l k)
    (hE : ∀ h' tk e, Heap.NewExc s.heap h' e "TypeError" → E (.ref e) { s with heap := h', toks := tk }) :
    wpAny (model prog w) A (call (.builtin "len") [.ref I]) Q E s := by
  refine Calls.call_function_entry kind_len plain_len entry_len (args_len1 _) ?_
  show wpAny _ _ (callSpecial? (.ref I) "__len__" >>= _) _ _ _
  refine wpAny_bind (wpAny_callSpecial?_none hit.typeIs no_len ?_)
  dsimp only
  refine wpAny_bind (wpAny_rule ?_)
  refine wpAny_bind (wpAny_typeNameOf' hit.typeIs (by decide) ?_)
  exact raiseError_exc (A := A.in1) excClass_TypeError hh hE (by decide +kernel)

/-- the frames' own places -/
abbrev frs (l : List Env) : List Addr := l.filterMap (·.frame)

/-- try: size = len(iterator) / except (TypeError, AttributeError): pass -/
theorem try_len {env : Env} {outer : List Env} {base : Heap} {I l : Addr} {k : Nat} {m : Str → Option Value} {p1 p2 p3 p4 p5 p6 p7 p8 p9 p10 p11 : Pos} {kk : Nat} {orelse : List Stmt} {Q : Flow → Shared → Prop}
    (C : Cx w mg mb g) (S : g.StaysIn s.heap) (hfr : A.frames = some (env :: outer)) (hff : s.heap.FunFrames base (env :: outer)) (hf : env.frame = some env.locals) (hng : ∀ a ∈ frs (env :: outer), g.get? a = none)
    (hns : s.heap.Ns env.locals m) (hm : m (Str.ofString "iterable") = some (.ref I)) (hit : s.heap.IsListIter I l k) (hh : A.handled = none)
    (hk : env.scope.kind = .function) (hgl : env.globals = mainGlobals) (hbn : env.builtins = builtinsNs)
    (x1 : env.kindOf (Str.ofString "iterable") = some .local) (x2 : env.kindOf (Str.ofString "len") = some .globalImplicit) (x3 : env.kindOf (Str.ofString "TypeError") = some .globalImplicit) (x4 : env.kindOf (Str.ofString "AttributeError") = some .globalImplicit)
    (b2 : nsIn (hd.heap_1 w.params) mainGlobals (Str.ofString "len") = some none) (b3 : nsIn (hd.heap_1 w.params) mainGlobals (Str.ofString "TypeError") = some none) (b4 : nsIn (hd.heap_1 w.params) mainGlobals (Str.ofString "AttributeError") = some none)
    (hsw : swapsWith (.Call (.Name (Str.ofString "len") p3) [.Name (Str.ofString "iterable") p4] [] p5) (some (.Name (Str.ofString "size") p2)) p1.line env = pure false)
    (hQ : ∀ h' tk, (∀ b o, b ∉ frs (env :: outer) → s.heap.get? b = some o → h'.get? b = some o) → s.heap.UpToSlots h' → Q .next { s with heap := h', toks := tk }) :
    wpAny (model prog w) A (exec (.Try [.Assign [.Name (Str.ofString "size") p2] (.Call (.Name (Str.ofString "len") p3) [.Name (Str.ofString "iterable") p4] [] p5) p1]
      [.ExceptHandler (some (.Tuple [.Name (Str.ofString "TypeError") p6, .Name (Str.ofString "AttributeError") p7] kk p8)) none [.Pass p9] p10] orelse [] p11) env) Q E s := by
  refine wpAny_Try_except (wpAny_execs_cons (wpAny_Assign_Name (Call_ (nm_B C S b2 boot_len (by decide) (cwb (sm (nm_L hns hm (spliced_none (len_iter hh hit fun h₁ tk₁ e hN => ?_)) hk x1))) hgl hbn hk x2)) hsw))
  obtain ⟨oe, t0, he, hc, hd⟩ := hN.there
  -- the base: all but the frames' places
  have hff₁ : h₁.FunFrames base (env :: outer) := hff.of_keeps fun b o eb _ => ⟨o, hN.keeps b o eb, rfl⟩
  have hB : s.heap.FunFrames (hideAll s.heap (frs (env :: outer))) (env :: outer) := funFrames_hide hff fun env' he' a ha => List.mem_filterMap.mpr ⟨env', he', ha⟩
  have hB₁ : h₁.FunFrames (hideAll s.heap (frs (env :: outer))) (env :: outer) := hB.of_keeps fun b o eb _ => ⟨o, hN.keeps b o eb, rfl⟩
  have stay : (hideAll s.heap (frs (env :: outer))).StaysIn h₁ := fun b o eb => hN.keeps b o (of_hideAll _ eb)
  have hen : (hideAll s.heap (frs (env :: outer))).get? e = none := by
    cases q : (hideAll s.heap (frs (env :: outer))).get? e with
    | none => rfl
    | some o => have := of_hideAll _ q; rw [hN.new] at this; cases this
  have gB : g.StaysIn (hideAll s.heap (frs (env :: outer))) := fun b o eb => hideAll_get _ (S b o eb) (fun q => by rw [hng b q] at eb; cases eb)
  show wpAny (model prog w) A (noteFrame (.ref e) env) _ _ _
  unfold noteFrame
  simp only [hf]
  refine wpAny_bind (wpAny_field he hd (x := .none) rfl ?_)
  rw [if_neg (by decide)]
  refine wpAny_newEntryW hfr hB₁ hf he stay hen hd (show 1 < 6 by decide) (a0 := t0) rfl fun h₂ hL => ?_
  obtain ⟨k1, k2, k3, k4⟩ := hL
  rw [hc] at k3
  -- the clause
  refine wpAny_handleBy_tup2 (T1 := "TypeError") (T2 := "AttributeError") (X := "TypeError") (b1 := true) (b2 := false) (by rw [isSubtype_type]; kernel_rfl) (by rw [isSubtype_type]; kernel_rfl) (by rw [isSubtype_type]; kernel_rfl) (by rw [isSubtype_type]; kernel_rfl) (by rw [isSubtype_type]; kernel_rfl) (by rw [isSubtype_type]; kernel_rfl) ?_
  have S₂ : g.StaysIn h₂ := fun b o eb => k1 b o (gB b o eb)
  refine wpAny_Tuple_spliced (sm (nm_B C S₂ b3 excClass_TypeError.boot (by decide) (sm (nm_B C S₂ b4 boot_AttributeError (by decide) (spliced_none ⟨by rw [sizeLine_eq]; decide, ?_⟩) hgl hbn hk x4)) hgl hbn hk x3))
  obtain ⟨oe₂, c1, c2⟩ := k3.at.there
  refine ⟨_, rfl, IsTup.new _ _, ⟨oe₂, Heap.get?_push_of_some _ c1, c2⟩, ?_⟩
  rw [if_pos (show (true || false) = true from rfl)]
  have k3' : (h₂.push { cls := .type "tuple", data := .seq [Value.type "TypeError", Value.type "AttributeError"].toArray }).TracedAtW (hideAll s.heap (frs (env :: outer))) e (.type "TypeError") t0 .none := by
    obtain ⟨oe, vs, T, oT, ts, a1, a2, a3, a4, a5, a6, a7, a8, a9⟩ := k3.at
    exact ⟨oe, vs, T, oT, ts, Heap.get?_push_of_some _ a1, a2, a3, a4, a5, a6, Heap.get?_push_of_some _ a7, a8, a9⟩
  refine wpAny_setFlight_noneW (base := hideAll s.heap (frs (env :: outer))) (l := env :: outer) (fun b o eb => Heap.get?_push_of_some _ (k1 b o eb)) (k2.of_keeps fun b o eb _ => ⟨o, Heap.get?_push_of_some _ eb, rfl⟩) k3' fun h₃ q1 q2 q3 q4 => ?_
  refine wpAny_execs_cons (wpAny_Pass (wpAny_execs_nil (hQ h₃ _ (fun b o hb eb => q1 b o (hideAll_get _ eb hb)) fun b o eb hnf => ?_)))
  obtain ⟨sl, e2⟩ := k4 b o (hN.keeps b o eb) hnf
  exact ⟨sl, q4 b _ (Heap.get?_push_of_some _ e2) hnf⟩
end
end Mine
end
section
open PySem PySem.W PyProof.Rows PySem.Calls
set_option Elab.async false
set_option linter.all false
set_option maxRecDepth 100000
namespace Mine
/-- a cut behind a statement -/
theorem execs_cut {M : Model} {A : Around} {E : Value → Shared → Prop} {s : Shared} {env : Env} {st : Stmt} {rest : List Stmt} {Q : Flow → Shared → Prop} (P : Shared → Prop) (h1 : ∀ s', P s' → wpAny M A (execs rest env) Q E s')
    (h2 : wpAny M A (exec st env) (fun f s' => match f with | .next => P s' | f => Q f s') E s) : wpAny M A (execs (st :: rest) env) Q E s :=
  wpAny_execs_cons (wpAny_mono h2 (fun f s' h => by cases f <;> first | exact h1 s' h | exact h) fun _ _ x => x)
section
variable {prog : Program} {w : World} {A : Around} {E : Value → Shared → Prop} {s : Shared}
theorem iter_list {l : Addr} {vs : List Value} {Q : Value → Shared → Prop} (hl : s.heap.IsList l vs.toArray)
    (h : Q (.ref s.heap.objs.size) { s with heap := s.heap.push { cls := .type "list_iterator", data := .fields #[.ref l, .int 0 0] } }) :
    wpAny (model prog w) A (call (.builtin "iter") [.ref l]) Q E s := by
  refine call_function_entry (by decide +kernel) (by decide +kernel) kdk_entry_iter (kdk_args_iter _) ?_
  unfold Builtin.«iter»
  refine wpAny_bind (m := someArgs "iter" 1 2 _) (wpAny_of_eq (a := [Value.ref l]) (by first | rfl | kernel_rfl!) ?_)
  show wpAny _ _ (pyIter (.ref l) >>= _) _ _ _
  exact wpAny_bind (wpAny_pyIter_list hl (wpAny_pure ⟨_, rfl, h⟩))
theorem iter_iter {I l : Addr} {k : Nat} {Q : Value → Shared → Prop} (hI : s.heap.IsListIter I l k) (h : Q (.ref I) s) :
    wpAny (model prog w) A (call (.builtin "iter") [.ref I]) Q E s := by
  refine call_function_entry (by decide +kernel) (by decide +kernel) kdk_entry_iter (kdk_args_iter _) ?_
  unfold Builtin.«iter»
  refine wpAny_bind (m := someArgs "iter" 1 2 _) (wpAny_of_eq (a := [Value.ref I]) (by first | rfl | kernel_rfl!) ?_)
  show wpAny _ _ (pyIter (.ref I) >>= _) _ _ _
  exact wpAny_bind (wpAny_pyIter_listiter hI (wpAny_pure ⟨_, rfl, h⟩))
theorem mro_object : mroOf (.type "object") = pure [.type "object"] := by rw [mroOf_type]; kernel_rfl
theorem lookup_object_new : typeLookup (.type "object") "__new__" = pure (some (.builtin "object.__new__")) := by rw [typeLookup_type, builtinLookup_eq_fast]; kernel_rfl
theorem slot_object_init' : Slot "object" "__init__" "object.__init__" :=
  .of (owner := "object") (n := "__init__") (by rw [typeLookup_type, builtinLookup_eq_fast]; kernel_rfl) (by decide +kernel) (by decide +kernel) (by decide +kernel)
    (by first | exact .inl (by decide +kernel) | exact .inr (by decide +kernel)) (by rw [isSubtype_type]; kernel_rfl)
theorem called_object : TypeCalled "object" "object.__new__" "object.__init__" :=
  ⟨by decide +kernel, by decide +kernel, ⟨_, _, mro_object⟩, madeBy_type mro_object lookup_object_new (by decide +kernel), by decide +kernel, by rw [isSubtype_type]; kernel_rfl, slot_object_init'⟩
theorem typeCall_object : checkTypeCall "object" ⟨[], []⟩ = pure () := by kernel_rfl
theorem newCall_object : checkBuiltinCall "object.__new__" ⟨[.type "object"], []⟩ = pure () := by kernel_rfl
theorem args_object_init_1 (a : Value) : argsOk "object.__init__" ⟨[a], []⟩ := by unfold argsOk; kernel_rfl
end
end Mine
end
section
open PySem PySem.W PyProof.Rows PySem.Calls
set_option Elab.async false
set_option linter.all false
set_option maxRecDepth 100000
namespace Mine
theorem madeBy_object : Bind.madeBy (.type "object") = pure (some "object.__new__") := madeBy_type mro_object lookup_object_new (by decide +kernel)
section
variable {prog : Program} {w : World} {A : Around} {E : Value → Shared → Prop} {s : Shared}
theorem static_object {Q : Value → Shared → Prop} (h : Q (.type "object") s) : wpAny (model prog w) A (Bind.staticBase (.type "object")) Q E s := by
  unfold Bind.staticBase
  rw [mro_object]
  simp only [pure_bind, List.forIn_cons, madeBy_object, Option.isSome_some, if_true]
  exact wpAny_pure h
theorem madeHere_object {Q : Unit → Shared → Prop} (h : Q () s) : wpAny (model prog w) A (Bind.madeHere "object.__new__" (.type "object")) Q E s := by
  unfold Bind.madeHere
  refine wpAny_bind (static_object ?_)
  rw [madeBy_object]
  refine wpAny_bind (wpAny_pure ?_)
  simp only [Option.map_some, bne_self_eq_false, Bool.false_eq_true, if_false]
  exact wpAny_pure h
theorem isType_object {Q : Bool → Shared → Prop} (h : Q true s) : wpAny (model prog w) A (isType (.type "object")) Q E s := by
  have e : isType (.type "object") = pure true := by first | rfl | kernel_rfl
  rw [e]; exact wpAny_pure h
theorem meets_object : Meets (Builtin.«object.__new__» ⟨[.type "object"], []⟩) (fun _ R s => R (.ok (.ret (.ref s.heap.objs.size))) { s with heap := s.heap.push { cls := .type "object", data := .plain } }) :=
  .of_wp fun prog w A R s h => by
    unfold Builtin.«object.__new__»
    dsimp only
    refine wpAny_bind (isType_object ?_)
    simp only [Bool.not_true, Bool.false_eq_true, if_false]
    have e1 : ((Manifest.find? "object").elim false (·.mro.any fun t => (Manifest.find? t).elim false (·.noNew))) = false := by decide +kernel
    simp only [e1, Bool.false_eq_true, if_false, List.isEmpty_nil, Bool.not_true, Bool.or_self]
    refine wpAny_bind (madeHere_object ?_)
    have e2 : typeHasDict (.type "object") = false := by decide +kernel
    simp only [e2, Bool.false_eq_true, if_false]
    refine wpAny_bind (wpAny_pure ?_)
    have e3 : diesByItsTypesDel "object" = false := by decide +kernel
    simp only [e3, Bool.false_eq_true, if_false]
    refine wpAny_bind (wpAny_newObj_type ?_)
    exact wpAny_pure ⟨_, rfl, h⟩
theorem meets_object_init (obj : Value) : Meets (Builtin.«object.__init__» ⟨[obj], []⟩) (fun _ R s => R (.ok (.ret .none)) s) :=
  .of_wp fun prog w A R s h => by
    unfold Builtin.«object.__init__»
    dsimp only
    simp only [List.isEmpty_nil, Bool.not_true, Bool.or_self, Bool.false_eq_true, if_false]
    exact wpAny_pure ⟨_, rfl, h⟩
theorem object_call {Q : Value → Shared → Prop} (h : Q (.ref s.heap.objs.size) { s with heap := s.heap.push { cls := .type "object", data := .plain } }) :
    wpAny (model prog w) A (call (.type "object") []) Q E s := by
  refine callType_meets (Q₁ := fun obj s₁ => s₁.TypeIs obj "object" ∧ Q obj s₁) called_object typeCall_object newCall_object PySem.F.entry_object_new PySem.F.entry_object_init meets_object ?_ fun obj s₁ hq => ⟨hq.1, args_object_init_1 obj, _, meets_object_init obj, rfl, hq.2⟩
  exact ⟨⟨_, Heap.get?_push_size _ rfl, rfl⟩, h⟩
end
end Mine
end
section
open PySem PySem.W PyProof.Rows
set_option Elab.async false
set_option linter.all false
set_option maxRecDepth 100000
namespace Mine
theorem sw_of (f : Nat → List Nat) : SW (fun i j => decide (f i < f j)) where
  irr := fun i => decide_eq_false (List.lt_irrefl _)
  tr := fun i j k h1 h2 => decide_eq_true (List.lt_trans (of_decide_eq_true h1) (of_decide_eq_true h2))
  ng := fun i j k h1 h2 => decide_eq_false (List.not_lt.mpr (List.le_trans (List.not_lt.mp (of_decide_eq_false h2)) (List.not_lt.mp (of_decide_eq_false h1))))
/-- the head of the order is the first least -/
theorem head_is {lt : Nat → Nat → Bool} {p : List Nat} {N i : Nat} (hp : p.Perm (List.range N)) (hs : p.Pairwise (lt2 lt)) (hi : i < N) (hm : ∀ j, j < N → lt j i = false ∧ (j < i → lt i j = true)) : ∃ r, p = i :: r := by
  have hmem : i ∈ p := hp.mem_iff.mpr (List.mem_range.mpr hi)
  cases p with
  | nil => cases hmem
  | cons j r =>
    rcases List.mem_cons.mp hmem with e | e
    · exact ⟨r, by rw [e]⟩
    · have hj : j < N := List.mem_range.mp (hp.mem_iff.mp (.head _))
      rcases (List.pairwise_cons.mp hs).1 i e with h | h
      · rw [(hm j hj).1] at h; cases h
      · have := (hm j hj).2 h.2; rw [h.1] at this; cases this
end Mine
end
section
open PySem PySem.W PyProof.Rows
set_option Elab.async false
set_option linter.all false
set_option maxRecDepth 100000
namespace Mine
/-- out: the n first of vs, by lt on places, ties by place -/
def TopN (lt : Nat → Nat → Bool) (n : Nat) (vs out : List Value) : Prop := ∃ p : List Nat, p.Perm (List.range vs.length) ∧ p.Pairwise (lt2 lt) ∧ out = (p.take n).map fun i => vs.getD i .none
def klI (ys : List Str) (i j : Nat) : Bool := decide (kyI ys i < kyI ys j)
theorem sw_klI (ys : List Str) : SW (klI ys) := sw_of (kyI ys)
/-- by the key, or by the key turned about -/
def ltB (b : Bool) (ys : List Str) (i j : Nat) : Bool := if b = true then klI ys j i else klI ys i j
theorem SW.flip {lt : Nat → Nat → Bool} (o : SW lt) : SW (fun i j => lt j i) := ⟨o.irr, fun i j k h1 h2 => o.tr _ _ _ h2 h1, fun i j k h1 h2 => o.ng _ _ _ h2 h1⟩
theorem sw_ltB (b : Bool) (ys : List Str) : SW (ltB b ys) := by
  cases b with
  | false => exact sw_klI ys
  | true => exact (sw_klI ys).flip

/-- the key of the tuple at v -/
def kfL : List Value → Key
  | [.str S _, .int k _, .str T _] => ⟨raw S, k, raw T⟩
  | [.str S _, .int k _] => ⟨raw S, k, []⟩
  | _ => ⟨[], 0, []⟩
def kfH (h : Heap) (v : Value) : Key :=
  match v with
  | .ref a => match h.get? a with
    | some o => match o.data with
      | .seq xs _ => kfL xs.toList
      | _ => ⟨[], 0, []⟩
    | none => ⟨[], 0, []⟩
  | _ => ⟨[], 0, []⟩
theorem kfH_of {b : Bool} {h : Heap} {v : Value} {k : Key} (x : KeyAt b h v k) : kfH h v = k := by
  obtain ⟨a, xs, rfl, ⟨o, ho, hc, n, hd⟩, hx⟩ := x
  unfold kfH
  simp only [ho, hd]
  cases b with
  | true =>
    simp only [if_true] at hx
    obtain ⟨S, t, t', T, t'', rfl, e1, e2⟩ := hx
    obtain ⟨s, i, e⟩ := k
    simp only at e1 e2
    rw [e1, e2]; rfl
  | false =>
    simp only [Bool.false_eq_true, if_false] at hx
    obtain ⟨S, t, t', rfl, e1, e2⟩ := hx
    obtain ⟨s, i, e⟩ := k
    simp only at e1 e2
    rw [e1, e2]; rfl
theorem keyH {b : Bool} {h : Heap} {v : Value} {k : Key} (x : KeyAt b h v k) : KeyAt b h v (kfH h v) := by rw [kfH_of x]; exact x

theorem List.lt_tri (a b : List Nat) : a < b ∨ a = b ∨ b < a := by
  by_cases h : a < b
  · exact .inl h
  · by_cases h2 : b < a
    · exact .inr (.inr h2)
    · exact .inr (.inl (List.le_antisymm (List.not_lt.mp h2) (List.not_lt.mp h)))
theorem Key.lt_iff (a b : Key) : a.lt b = true ↔ a.s < b.s ∨ (a.s = b.s ∧ (a.i < b.i ∨ (a.i = b.i ∧ a.e < b.e))) := by
  unfold Key.lt
  by_cases h : a.s = b.s
  · rw [if_pos h]
    by_cases h2 : a.i = b.i
    · rw [if_pos h2]
      simp only [decide_eq_true_eq, h, h2, true_and, Int.lt_irrefl, false_or]
      exact ⟨.inr, fun q => q.resolve_left (List.lt_irrefl _)⟩
    · rw [if_neg h2]
      simp only [decide_eq_true_eq, h, h2, true_and, false_and, or_false]
      exact ⟨.inr, fun q => q.resolve_left (List.lt_irrefl _)⟩
  · rw [if_neg h]
    simp only [decide_eq_true_eq, h, false_and, or_false]
theorem Key.irr (a : Key) : a.lt a = false := by
  rw [Bool.eq_false_iff]
  intro h
  rcases (Key.lt_iff a a).mp h with h | ⟨_, h | ⟨_, h⟩⟩
  · exact List.lt_irrefl _ h
  · exact Int.lt_irrefl _ h
  · exact List.lt_irrefl _ h
theorem Key.tr {a b c : Key} (h1 : a.lt b = true) (h2 : b.lt c = true) : a.lt c = true := by
  rw [Key.lt_iff] at *
  rcases h1 with h1 | ⟨e1, h1⟩
  · rcases h2 with h2 | ⟨e2, h2⟩
    · exact .inl (List.lt_trans h1 h2)
    · exact .inl (e2 ▸ h1)
  · rcases h2 with h2 | ⟨e2, h2⟩
    · exact .inl (e1 ▸ h2)
    · refine .inr ⟨e1.trans e2, ?_⟩
      rcases h1 with h1 | ⟨f1, h1⟩
      · rcases h2 with h2 | ⟨f2, h2⟩
        · exact .inl (Int.lt_trans h1 h2)
        · exact .inl (f2 ▸ h1)
      · rcases h2 with h2 | ⟨f2, h2⟩
        · exact .inl (f1 ▸ h2)
        · exact .inr ⟨f1.trans f2, List.lt_trans h1 h2⟩
theorem Key.tot {a b : Key} (h1 : a.lt b = false) : b.lt a = true ∨ a = b := by
  rw [Bool.eq_false_iff, Ne, Key.lt_iff] at h1
  rw [Key.lt_iff]
  rcases List.lt_tri a.s b.s with h | h | h
  · exact absurd (.inl h) h1
  · by_cases i1 : a.i < b.i
    · exact absurd (.inr ⟨h, .inl i1⟩) h1
    · by_cases i2 : b.i < a.i
      · exact .inl (.inr ⟨h.symm, .inl i2⟩)
      · have e : a.i = b.i := by exact om250q _ _ i1 i2
        rcases List.lt_tri a.e b.e with q | q | q
        · exact absurd (.inr ⟨h, .inr ⟨e, q⟩⟩) h1
        · right
          cases a; cases b; simp only at h e q; rw [h, e, q]
        · exact .inl (.inr ⟨h.symm, .inr ⟨e.symm, q⟩⟩)
  · exact .inl (.inl h)
theorem ord_klt (kf : Value → Key) : Ord (klt kf) where
  irr := fun a => Key.irr _
  tr := fun a b c h1 h2 => Key.tr h1 h2
  ng := fun a b c h1 h2 => by
    rw [Bool.eq_false_iff]
    intro h
    rcases Key.tot h1 with q | q
    · have := Key.tr q h
      unfold klt at h2; rw [h2] at this; cases this
    · unfold klt at h h2; rw [q, h2] at h; cases h
theorem ord_kgt (kf : Value → Key) : Ord (kgt kf) := (ord_klt kf).flip
theorem HP.congr {lt lt' : Value → Value → Bool} {st : Nat} {xs : List Value} (h : HP lt st xs) (he : ∀ u ∈ xs, ∀ v ∈ xs, lt u v = lt' u v) : HP lt' st xs := fun j h1 h2 h3 => by
  rw [← he _ (at_mem h2) _ (at_mem (by unfold par; exact om251q _ _ h2))]
  exact h j h1 h2 h3

/-- who is the worse of two things in the heap -/
def gtB (b : Bool) (kf : Value → Key) (u v : Value) : Bool := if b = true then klt kf u v else kgt kf u v
def sg (b : Bool) (o : Int) : Int := if b = true then -o else o
theorem ord_gtB (b : Bool) (kf : Value → Key) : Ord (gtB b kf) := by
  cases b with
  | true => exact ord_klt kf
  | false => exact ord_kgt kf
structure Ent where
  v : Value
  i : Nat
  o : Int
/-- the bounded heap rs when j names are looked at -/
structure BH (b : Bool) (ys : List Str) (kf : Value → Key) (j : Nat) (ord : Int) (rs : List Value) (E : List Ent) : Prop where
  perm : rs.Perm (E.map Ent.v)
  ok : ∀ e ∈ E, kf e.v = ⟨kyI ys e.i, e.o, raw (ys.getD e.i ⟨#[]⟩)⟩
  nd : (E.map Ent.i).Nodup
  lt : ∀ e ∈ E, e.i < j ∧ sg b e.o < sg b ord
  mono : ∀ e ∈ E, ∀ e' ∈ E, e.i < e'.i → sg b e.o < sg b e'.o
  sel : ∀ e ∈ E, ∀ i, i < j → i ∉ E.map Ent.i → lt2 (ltB b ys) e.i i

section
variable {b : Bool} {ys : List Str} {kf : Value → Key} {j : Nat} {ord : Int} {rs : List Value} {E : List Ent}
theorem BH.permE (B : BH b ys kf j ord rs E) {E' : List Ent} (p : E'.Perm E) : BH b ys kf j ord rs E' where
  perm := B.perm.trans (p.map _).symm
  ok := fun e he => B.ok e (p.mem_iff.mp he)
  nd := (p.map Ent.i).nodup_iff.mpr B.nd
  lt := fun e he => B.lt e (p.mem_iff.mp he)
  mono := fun e he e' he' => B.mono e (p.mem_iff.mp he) e' (p.mem_iff.mp he')
  sel := fun e he i hi hn => B.sel e (p.mem_iff.mp he) i hi fun q => hn ((p.map Ent.i).mem_iff.mpr q)
theorem BH.congr {kf' : Value → Key} (B : BH b ys kf j ord rs E) (h : ∀ v ∈ rs, kf v = kf' v) : BH b ys kf' j ord rs E where
  perm := B.perm
  ok := fun e he => by rw [← h _ (B.perm.mem_iff.mpr (List.mem_map_of_mem he))]; exact B.ok e he
  nd := B.nd
  lt := B.lt
  mono := B.mono
  sel := B.sel
theorem inj_of_nodup {α β : Type} {f : α → β} : ∀ {l : List α}, (l.map f).Nodup → ∀ x ∈ l, ∀ y ∈ l, f x = f y → x = y
  | [], _, x, hx, _, _, _ => by cases hx
  | a :: r, h, x, hx, y, hy, e => by
    rw [List.map_cons, List.nodup_cons] at h
    rcases List.mem_cons.mp hx with q | hx'
    · rcases List.mem_cons.mp hy with q' | hy'
      · rw [q, q']
      · exact absurd (by rw [← q, e]; exact List.mem_map_of_mem hy') h.1
    · rcases List.mem_cons.mp hy with q' | hy'
      · exact absurd (by rw [← q', ← e]; exact List.mem_map_of_mem hx') h.1
      · exact inj_of_nodup h.2 x hx' y hy' e
theorem BH.one (B : BH b ys kf j ord rs E) {e e' : Ent} (he : e ∈ E) (he' : e' ∈ E) (h : e.i = e'.i) : e = e' := inj_of_nodup B.nd e he e' he' h

theorem gtB_iff {u v : Value} {i i' : Nat} {o o' : Int} {x x' : List Nat} (hu : kf u = ⟨kyI ys i, o, x⟩) (hv : kf v = ⟨kyI ys i', o', x'⟩) (h1 : i < i' → sg b o < sg b o') (h2 : i' < i → sg b o' < sg b o) (hne : i ≠ i') :
    gtB b kf u v = true ↔ lt2 (ltB b ys) i' i := by
  have tri := List.lt_tri (kyI ys i) (kyI ys i')
  cases b with
  | false =>
    show (kf v).lt (kf u) = true ↔ (klI ys i' i = true ∨ (klI ys i i' = false ∧ i' < i))
    rw [hu, hv, Key.lt_iff]
    simp only [sg, Bool.false_eq_true, if_false] at h1 h2
    unfold klI
    rw [decide_eq_true_eq, decide_eq_false_iff_not]
    constructor
    · rintro (h | ⟨h, q⟩)
      · exact .inl h
      · refine .inr ⟨by simp only at h; rw [h]; exact List.lt_irrefl _, ?_⟩
        rcases q with q | ⟨q, _⟩ <;> simp only at q <;> omega
    · rintro (h | ⟨h, q⟩)
      · exact .inl h
      · rcases tri with t | t | t
        · exact absurd t h
        · exact .inr ⟨t.symm, .inl (h2 q)⟩
        · exact .inl t
  | true =>
    show (kf u).lt (kf v) = true ↔ (klI ys i i' = true ∨ (klI ys i' i = false ∧ i' < i))
    rw [hu, hv, Key.lt_iff]
    simp only [sg, if_true] at h1 h2
    unfold klI
    rw [decide_eq_true_eq, decide_eq_false_iff_not]
    constructor
    · rintro (h | ⟨h, q⟩)
      · exact .inl h
      · refine .inr ⟨by simp only at h; rw [h]; exact List.lt_irrefl _, ?_⟩
        rcases q with q | ⟨q, _⟩ <;> simp only at q <;> omega
    · rintro (h | ⟨h, q⟩)
      · exact .inl h
      · rcases tri with t | t | t
        · exact .inl t
        · exact .inr ⟨t, .inl (by have := h2 q; show o < o'; exact om252q _ _ this)⟩
        · exact absurd t h
theorem BH.cmp (B : BH b ys kf j ord rs E) {e e' : Ent} (he : e ∈ E) (he' : e' ∈ E) (hne : e.i ≠ e'.i) : gtB b kf e.v e'.v = true ↔ lt2 (ltB b ys) e'.i e.i :=
  gtB_iff (B.ok e he) (B.ok e' he') (B.mono e he e' he') (B.mono e' he' e he) hne

theorem lt2_tri {lt : Nat → Nat → Bool} (i i' : Nat) (h : i ≠ i') : lt2 lt i i' ∨ lt2 lt i' i := by
  unfold lt2
  cases e1 : lt i i' <;> cases e2 : lt i' i <;> simp <;> exact om253q _ _ h
theorem lt2_asy {lt : Nat → Nat → Bool} (o : SW lt) {i i' : Nat} (h : lt2 lt i i') (h' : lt2 lt i' i) : False := by
  rcases h with h | h
  · rcases h' with h' | h'
    · have := o.asy h; rw [h'] at this; cases this
    · rw [h] at h'; cases h'.1
  · rcases h' with h' | h'
    · rw [h'] at h; cases h.1
    · omega
/-- the root is the worst -/
theorem BH.root (B : BH b ys kf j ord rs E) (hp : HP (gtB b kf) 0 rs) {e0 : Ent} (h0 : e0 ∈ E) (hv : e0.v = at' rs 0) : ∀ e ∈ E, e.i ≠ e0.i → lt2 (ltB b ys) e.i e0.i := by
  intro e he hne
  have hm : e.v ∈ rs := B.perm.mem_iff.mpr (List.mem_map_of_mem he)
  obtain ⟨k, hk, hk'⟩ := List.mem_iff_getElem.mp hm
  have := HP.least (ord_gtB b kf) hp k hk
  rw [at_eq hk, hk', ← hv] at this
  rcases lt2_tri (lt := ltB b ys) e.i e0.i hne with q | q
  · exact q
  · have := (B.cmp he h0 hne).mpr q
    rename_i h; rw [h] at this; cases this
theorem BH.skip (B : BH b ys kf j ord rs E) (hp : HP (gtB b kf) 0 rs) {e0 : Ent} (h0 : e0 ∈ E) (hv : e0.v = at' rs 0) (h : ltB b ys j e0.i = false) : BH b ys kf (j + 1) ord rs E where
  perm := B.perm
  ok := B.ok
  nd := B.nd
  lt := fun e he => ⟨Nat.lt_succ_of_lt (B.lt e he).1, (B.lt e he).2⟩
  mono := B.mono
  sel := fun e he i hi hn => by
    by_cases hij : i = j
    · subst hij
      refine .inr ⟨?_, (B.lt e he).1⟩
      by_cases hee : e.i = e0.i
      · rw [hee]; exact h
      · have := lt2_le (sw_ltB b ys) (B.root hp h0 hv e he hee)
        exact (sw_ltB b ys).ng _ _ _ h this
    · exact B.sel e he i (by exact om254q _ _ hi hij) hn
theorem BH.repl' (B : BH b ys kf j ord rs E) (hp : HP (gtB b kf) 0 rs) {e0 : Ent} (h0 : e0 ∈ E) (hv : e0.v = at' rs 0) (h : ltB b ys j e0.i = true) {v : Value} {rs' : List Value} {kf' : Value → Key} (hk : ∀ u ∈ rs, kf' u = kf u) (hkv : kf' v = ⟨kyI ys j, ord, raw (ys.getD j ⟨#[]⟩)⟩)
    (hrs : rs'.Perm (rs.set 0 v)) {ord' : Int} (ho : sg b ord < sg b ord') : ∃ E', BH b ys kf' (j + 1) ord' rs' E' ∧ E'.length = E.length ∧ ∀ e ∈ E', e ∈ E ∨ e = ⟨v, j, ord⟩ := by
  obtain ⟨s, t, hE⟩ := List.append_of_mem h0
  have pE : (e0 :: (s ++ t)).Perm E := by rw [hE]; exact List.perm_middle.symm
  have B' := B.permE pE
  have hlen : 0 < rs.length := by rw [B'.perm.length_eq]; simp
  obtain ⟨r0, rt, rfl⟩ : ∃ r0 rt, rs = r0 :: rt := by
    cases rs with
    | nil => simp at hlen
    | cons a r => exact ⟨a, r, rfl⟩
  have hv0 : e0.v = r0 := hv
  have prt : rt.Perm ((s ++ t).map Ent.v) := by
    have := B'.perm
    rw [List.map_cons, hv0] at this
    exact this.cons_inv
  have nd := B'.nd
  rw [List.map_cons, List.nodup_cons] at nd
  have old : ∀ e ∈ s ++ t, e ∈ E ∧ e.i ≠ e0.i := fun e he => ⟨pE.mem_iff.mp (.tail _ he), fun q => nd.1 (q ▸ List.mem_map_of_mem he)⟩
  refine ⟨⟨v, j, ord⟩ :: (s ++ t), ⟨hrs.trans (prt.cons v), ?_, ?_, ?_, ?_, ?_⟩, by rw [← pE.length_eq]; simp, fun e he => (List.mem_cons.mp he).elim .inr fun q => .inl (old e q).1⟩
  · intro e he
    rcases List.mem_cons.mp he with rfl | he
    · exact hkv
    · rw [hk _ (B.perm.mem_iff.mpr (List.mem_map_of_mem (old e he).1))]; exact B.ok e (old e he).1
  · rw [List.map_cons, List.nodup_cons]
    refine ⟨fun q => ?_, nd.2⟩
    obtain ⟨e, he, hej⟩ := List.mem_map.mp q
    have := (B.lt e (old e he).1).1
    simp only at hej
    exact om255q _ _ hej this
  · intro e he
    rcases List.mem_cons.mp he with rfl | he
    · exact ⟨Nat.lt_succ_self _, ho⟩
    · exact ⟨Nat.lt_succ_of_lt (B.lt e (old e he).1).1, Int.lt_trans (B.lt e (old e he).1).2 ho⟩
  · intro e he e' he' hlt
    rcases List.mem_cons.mp he with rfl | he
    · rcases List.mem_cons.mp he' with rfl | he'
      · exact absurd hlt (Nat.lt_irrefl _)
      · have := (B.lt e' (old e' he').1).1
        simp only at hlt
        exact om256q _ _ _ _ hlt this
    · rcases List.mem_cons.mp he' with rfl | he'
      · exact (B.lt e (old e he).1).2
      · exact B.mono e (old e he).1 e' (old e' he').1 hlt
  · have o := sw_ltB b ys
    have c2 : ∀ e ∈ s ++ t, lt2 (ltB b ys) e.i e0.i := fun e he => B.root hp h0 hv e (old e he).1 (old e he).2
    intro e he i hi hn
    rw [List.map_cons, List.mem_cons, not_or] at hn
    have hij : i < j := by have := hn.1; simp only at this; exact om254q _ _ hi this
    by_cases hi0 : i = e0.i
    · rw [hi0]
      rcases List.mem_cons.mp he with rfl | he
      · exact .inl h
      · exact c2 e he
    · have hnE : i ∉ E.map Ent.i := fun q => by
        have := (pE.map Ent.i).mem_iff.mpr q
        rw [List.map_cons, List.mem_cons] at this
        rcases this with q | q
        · exact hi0 q
        · exact hn.2 q
      rcases List.mem_cons.mp he with rfl | he
      · have h1 := lt2_le o (B.sel e0 h0 i hij hnE)
        exact .inl (o.mixr h h1)
      · exact B.sel e (old e he).1 i hij hnE

theorem perm_map {α β : Type} {f : α → β} : ∀ {zs : List β} {E : List α}, zs.Perm (E.map f) → ∃ E' : List α, E'.Perm E ∧ zs = E'.map f
  | [], E, h => by
    have := h.length_eq
    cases E with
    | nil => exact ⟨[], .refl _, rfl⟩
    | cons a r => simp at this
  | z :: zt, E, h => by
    obtain ⟨e, he, hz⟩ := List.mem_map.mp (h.mem_iff.mp (.head _))
    obtain ⟨s, t, rfl⟩ := List.append_of_mem he
    have p : (s ++ e :: t).Perm (e :: (s ++ t)) := List.perm_middle
    have h2 := h.trans (p.map f)
    rw [List.map_cons, hz] at h2
    obtain ⟨E', p', e'⟩ := perm_map h2.cons_inv
    exact ⟨e :: E', (p'.cons e).trans p.symm, by rw [List.map_cons, hz, e']⟩

/-- the sorted heap is the first part of the order -/
theorem BH.top {N n : Nat} {vs zs : List Value} (B : BH b ys kf N ord rs E) (hvs : vs.length = N) (hl : E.length = min n N) (hz : zs.Perm rs) (hs : zs.Pairwise fun u v => gtB b kf u v = false) (h1 : 1 ≤ N) :
    ∃ E' : List Ent, E'.Perm E ∧ zs = E'.map Ent.v ∧ TopN (ltB b ys) n vs (E'.map fun e => vs.getD e.i .none) := by
  obtain ⟨E', p, rfl⟩ := perm_map (hz.trans B.perm)
  have B' := B.permE p
  refine ⟨E', p, rfl, ?_⟩
  have o := sw_ltB b ys
  have hq : (E'.map Ent.i).Pairwise (lt2 (ltB b ys)) := by
    rw [List.pairwise_map] at hs ⊢
    have nd := B'.nd
    rw [List.Nodup, List.pairwise_map] at nd
    refine (hs.and nd).imp_of_mem fun {e e'} he he' h => ?_
    rcases lt2_tri (lt := ltB b ys) e.i e'.i h.2 with q | q
    · exact q
    · have := (B'.cmp he he' h.2).mpr q
      rw [h.1] at this; cases this
  have hsp := sort_spec o (N := N) h1
  generalize hP : (ev (ltB b ys) (kas_sort N)).toList = P at hsp
  have hPn : P.Nodup := hsp.1.nodup_iff.mpr List.nodup_range
  have hmemq : ∀ x ∈ E'.map Ent.i, x < N := fun x hx => by
    obtain ⟨e, he, rfl⟩ := List.mem_map.mp hx
    exact (B'.lt e he).1
  have hperm : (E'.map Ent.i ++ P.filter (fun x => decide (x ∉ E'.map Ent.i))).Perm (List.range N) := by
    refine (List.perm_iff_count).mpr fun a => ?_
    have nd1 : (E'.map Ent.i ++ P.filter (fun x => decide (x ∉ E'.map Ent.i))).Nodup := by
      rw [List.nodup_append]
      refine ⟨B'.nd, hPn.filter _, fun x hx y hy e => ?_⟩
      subst e
      exact (of_decide_eq_true (List.mem_filter.mp hy).2) hx
    have mem : a ∈ (E'.map Ent.i ++ P.filter (fun x => decide (x ∉ E'.map Ent.i))) ↔ a ∈ List.range N := by
      rw [List.mem_append, List.mem_filter, hsp.1.mem_iff]
      constructor
      · rintro (h | h)
        · exact List.mem_range.mpr (hmemq a h)
        · exact h.1
      · intro h
        by_cases q : a ∈ E'.map Ent.i
        · exact .inl q
        · exact .inr ⟨h, decide_eq_true q⟩
    rw [nd1.count, List.nodup_range.count]
    simp only [mem]
  refine ⟨_, hvs ▸ hperm, ?_, ?_⟩
  · rw [List.pairwise_append]
    refine ⟨hq, hsp.2.sublist List.filter_sublist, fun x hx y hy => ?_⟩
    obtain ⟨e, he, rfl⟩ := List.mem_map.mp hx
    obtain ⟨hy1, hy2⟩ := List.mem_filter.mp hy
    exact B'.sel e he y (List.mem_range.mp (hsp.1.mem_iff.mp hy1)) (of_decide_eq_true hy2)
  · have hlq : (E'.map Ent.i).length = min n N := by rw [List.length_map, p.length_eq, hl]
    have ht : (E'.map Ent.i ++ P.filter (fun x => decide (x ∉ E'.map Ent.i))).take n = E'.map Ent.i := by
      by_cases hn : n ≤ N
      · rw [List.take_append_of_le_length (by exact om257q _ _ _ hlq hn)]
        exact List.take_of_length_le (by exact om61q _ _ _ hlq)
      · have hl2 := hperm.length_eq
        rw [List.length_append, List.length_range, hlq] at hl2
        have : P.filter (fun x => decide (x ∉ E'.map Ent.i)) = [] := List.eq_nil_of_length_eq_zero (by exact om258q _ _ _ hn hl2)
        rw [this, List.append_nil]
        exact List.take_of_length_le (by exact om61q _ _ _ hlq)
    rw [ht, List.map_map]
    rfl
end
end Mine
end
section
open PySem PySem.W PyProof.Rows
set_option Elab.async false
set_option linter.all false
set_option maxRecDepth 100000
namespace Mine
theorem sw_pull {lt : Value → Value → Bool} (o : Ord lt) (f : Nat → Value) : SW (fun i j => lt (f i) (f j)) := ⟨fun i => o.irr _, fun i j k h1 h2 => o.tr _ _ _ h1 h2, fun i j k h1 h2 => o.ng _ _ _ h1 h2⟩
theorem map_getD_range {α : Type} (l : List α) (d : α) : (List.range l.length).map (fun i => l.getD i d) = l := by
  apply List.ext_getElem
  · simp
  · intro i h1 h2
    simp at h1
    simp [List.getD_eq_getElem?_getD, h1]
/-- what list.sort makes of the things -/
theorem srt_spec {b : Bool} {kf : Value → Key} {rs : List Value} (h1 : 1 ≤ rs.length) : (srt b (klt kf) rs rs).Perm rs ∧ (srt b (klt kf) rs rs).Pairwise fun u v => gtB b kf u v = false := by
  unfold srt
  have hsp := sort_spec (sw_pull (ord_klt kf) (fun i => (katRev b rs).getD i .none)) (N := rs.length) h1
  generalize (ev _ (kas_sort rs.length)).toList = p at hsp
  have hlen : (katRev b rs).length = rs.length := by cases b <;> simp [katRev]
  have hp : (p.map fun i => (katRev b rs).getD i Value.none).Perm (katRev b rs) := by
    have := hsp.1.map fun i => (katRev b rs).getD i Value.none
    rw [← hlen, map_getD_range] at this
    exact this
  have hpw : (p.map fun i => (katRev b rs).getD i Value.none).Pairwise fun u v => klt kf v u = false := by
    rw [List.pairwise_map]
    exact hsp.2.imp fun h => lt2_le (sw_pull (ord_klt kf) (fun i => (katRev b rs).getD i .none)) h
  cases b with
  | false => exact ⟨hp, hpw⟩
  | true =>
    refine ⟨?_, ?_⟩
    · show (List.reverse _).Perm rs
      exact (List.reverse_perm _).trans (hp.trans (List.reverse_perm rs))
    · show (List.reverse _).Pairwise _
      rw [List.pairwise_reverse]
      exact hpw

theorem ev_congr {α : Type} {lt lt' : Nat → Nat → Bool} {N : Nat} {P : α → Prop} (h : ∀ i j, i < N → j < N → lt i j = lt' i j) : ∀ {t : KasT α}, AskP N P t → ev lt t = ev lt' t
  | .ret a, _ => rfl
  | .ask i j k, ha => by
    show ev lt (k (lt i j)) = ev lt' (k (lt' i j))
    rw [h i j ha.1 ha.2.1]
    exact ev_congr h (ha.2.2 _)
theorem kys_get {ks : List Value} {kys ys : List Str} (hk : StrsAre ks kys) (he : kys.map raw = ys.map capK) {i : Nat} (hi : i < ks.length) : ∃ z t, ks.getD i .none = .str z t ∧ raw z = kyI ys i := by
  obtain ⟨z, t, e, hz⟩ := hk.item i (ks[i]) (List.getElem?_eq_getElem hi)
  refine ⟨z, t, by rw [List.getD_eq_getElem?_getD, List.getElem?_eq_getElem hi, ← e]; rfl, ?_⟩
  have h1 : (kys.map raw)[i]? = some (raw z) := by rw [List.getElem?_map, hz]; rfl
  rw [he, List.getElem?_map] at h1
  unfold kyI
  rw [List.getD_eq_getElem?_getD]
  cases hy : ys[i]? with
  | none => rw [hy] at h1; cases h1
  | some y => rw [hy] at h1; exact (Option.some.inj h1).symm
theorem getD_rev {α : Type} (l : List α) (d : α) (i : Nat) (h : i < l.length) : l.reverse.getD i d = l.getD (l.length - 1 - i) d := by
  rw [List.getD_eq_getElem?_getD, List.getD_eq_getElem?_getD, List.getElem?_reverse h]
/-- sorted(.., key=capwords[, reverse])[:n] -/
theorem srt_idx {b : Bool} {ks vs : List Value} {kys ys : List Str} (hk : StrsAre ks kys) (he : kys.map raw = ys.map capK) (hl : ks.length = vs.length) (h1 : 1 ≤ vs.length) : ∃ p : List Nat, p.Perm (List.range vs.length) ∧ p.Pairwise (lt2 (ltB b ys)) ∧ srt b vlt ks vs = p.map fun i => vs.getD i .none := by
  unfold srt
  have lt_is : ∀ i j, i < ks.length → j < ks.length → vlt (ks.getD i .none) (ks.getD j .none) = klI ys i j := by
    intro i j hi hj
    obtain ⟨z, t, e1, e2⟩ := kys_get hk he hi
    obtain ⟨z', t', e1', e2'⟩ := kys_get hk he hj
    rw [e1, e1']
    show decide (raw z < raw z') = _
    rw [e2, e2']; rfl
  cases b with
  | false =>
    have hev : ∀ lt : Nat → Nat → Bool, SW lt → (∀ i j, i < vs.length → j < vs.length → vlt (ks.getD i .none) (ks.getD j .none) = lt i j) → (ev (fun i j => vlt (ks.getD i .none) (ks.getD j .none)) (kas_sort vs.length)).toList.Perm (List.range vs.length) ∧ (ev (fun i j => vlt (ks.getD i .none) (ks.getD j .none)) (kas_sort vs.length)).toList.Pairwise (lt2 lt) := by
      intro lt o h
      have := ev_congr (lt := fun i j => vlt (ks.getD i .none) (ks.getD j .none)) (lt' := lt) (N := vs.length) h (sort_in h1)
      rw [this]
      exact sort_spec o h1
    have := hev (klI ys) (sw_klI ys) fun i j hi hj => lt_is i j (by exact om111q _ _ _ hl hi) (by exact om111q _ _ _ hl hj)
    exact ⟨_, this.1, this.2, rfl⟩
  | true =>
    generalize hN : vs.length = N at *
    have h : ∀ i j, i < N → j < N → vlt (ks.reverse.getD i .none) (ks.reverse.getD j .none) = klI ys (N - 1 - i) (N - 1 - j) := by
      intro i j hi hj
      rw [getD_rev _ _ _ (by exact om111q _ _ _ hl hi), getD_rev _ _ _ (by exact om111q _ _ _ hl hj), lt_is _ _ (by exact om259q _ _ _ hl hi) (by exact om259q _ _ _ hl hj), hl]
    have o : SW fun i j => klI ys (N - 1 - i) (N - 1 - j) := ⟨fun i => (sw_klI ys).irr _, fun i j k h1 h2 => (sw_klI ys).tr _ _ _ h1 h2, fun i j k h1 h2 => (sw_klI ys).ng _ _ _ h1 h2⟩
    have e := ev_congr (lt := fun i j => vlt (ks.reverse.getD i .none) (ks.reverse.getD j .none)) (N := N) h (sort_in h1)
    have hsp := sort_spec o (N := N) h1
    rw [← e] at hsp
    show ∃ p : List Nat, _ ∧ _ ∧ List.reverse _ = _
    generalize hP : (ev (fun i j => vlt ((katRev true ks).getD i .none) ((katRev true ks).getD j .none)) (kas_sort N)).toList = p
    rw [show (ev (fun i j => vlt (ks.reverse.getD i .none) (ks.reverse.getD j .none)) (kas_sort N)).toList = p from hP] at hsp
    have hpl : ∀ i ∈ p, i < N := fun i hi => List.mem_range.mp (hsp.1.mem_iff.mp hi)
    refine ⟨(p.map fun i => N - 1 - i).reverse, ?_, ?_, ?_⟩
    · refine (List.reverse_perm _).trans ((hsp.1.map _).trans ?_)
      have : (List.range N).map (fun i => N - 1 - i) = (List.range N).reverse := by
        apply List.ext_getElem
        · simp
        · intro i h1 h2; simp
      rw [this]
      exact List.reverse_perm _
    · rw [List.pairwise_reverse, List.pairwise_map]
      refine hsp.2.imp_of_mem fun {i j} hi hj h => ?_
      have hi' := hpl i hi
      have hj' := hpl j hj
      show klI ys (N - 1 - i) (N - 1 - j) = true ∨ (klI ys (N - 1 - j) (N - 1 - i) = false ∧ N - 1 - j < N - 1 - i)
      rcases h with h | h
      · exact .inl h
      · exact .inr ⟨h.1, by omega⟩
    · rw [← List.map_reverse, ← List.map_reverse, List.map_map]
      apply List.map_congr_left
      intro i hi
      have hi' : i < N := hpl i (List.mem_reverse.mp hi)
      show vs.reverse.getD i .none = vs.getD (N - 1 - i) .none
      rw [getD_rev _ _ _ (by exact om111q _ _ _ hN hi'), hN]
theorem srt_top {b : Bool} {ks vs : List Value} {kys ys : List Str} {n : Nat} (hk : StrsAre ks kys) (he : kys.map raw = ys.map capK) (hl : ks.length = vs.length) (h1 : 1 ≤ vs.length) : TopN (ltB b ys) n vs ((srt b vlt ks vs).take n) ∧ (srt b vlt ks vs).length = vs.length := by
  obtain ⟨p, h1, h2, h3⟩ := srt_idx (b := b) hk he hl h1
  refine ⟨⟨p, h1, h2, by rw [h3, List.map_take]⟩, ?_⟩
  rw [h3, List.length_map, h1.length_eq, List.length_range]
end Mine
end
section
open PySem PySem.W PyProof.Rows PySem.Calls
set_option Elab.async false
set_option linter.all false
set_option maxRecDepth 100000
namespace Mine
section
variable {prog : Program} {w : World} {A : Around} {E : Value → Shared → Prop} {s : Shared} {mg mb : Str → Option Value} {g : Heap}
theorem Ended.typeIs {I : Addr} (h : Ended s.heap I) : s.TypeIs (.ref I) "list_iterator" := by
  obtain ⟨o, v, ho, hc, _⟩ := h
  exact ⟨o, ho, hc⟩
theorem next_ended {I : Addr} {Q : Option Value → Shared → Prop} (hh : A.handled = none) (hI : Ended s.heap I)
    (hQ : ∀ h', (∀ b o, s.heap.get? b = some o → h'.get? b = some o) → Q none { s with heap := h' }) : wpAny (model prog w) A (pyNext (.ref I)) Q E s := by
  have hT := hI.typeIs
  obtain ⟨o, v, ho, hc, hd⟩ := hI
  unfold pyNext
  refine wpAny_bind (wpAny_attempt (wpAny_callSpecial?_slot (name := Str.ofString "__next__") hT slot_listiter_next
    (wpAny_call_entry slot_listiter_next hT entry_listiter_next ?_ (args_listiter_next _))))
  show wpAny _ _ (field (.ref I) 0 >>= _) _ _ s
  refine wpAny_bind (wpAny_field ho hd (x := .none) rfl ?_)
  show wpAny _ _ (if (Value.none == Value.none) = true then _ else _) _ _ s
  rw [if_pos (show ((Value.none == Value.none) = true) from rfl)]
  refine wpAny_bind (wpAny_rule (wpAny_bind (stop_ (A := A.in1) hh fun h' e k hx => ?_)))
  obtain ⟨oe, he, hec⟩ := hx
  refine wpAny_bind (wpAny_isInstance (T := "StopIteration") (b := true) ⟨oe, he, hec⟩ isSubtype_stop ?_)
  exact wpAny_pure (hQ _ k)
theorem iter_ended {I : Addr} {Q : Value → Shared → Prop} (hI : Ended s.heap I) (h : Q (.ref I) s) : wpAny (model prog w) A (pyIter (.ref I)) Q E s := by
  refine wpAny_pyIter_slot hI.typeIs slot_listiter_iter (wpAny_call_entry slot_listiter_iter hI.typeIs entry_listiter_iter ?_ (args_listiter_iter _))
  show wpAny _ _ (ret (.ref I)) _ _ s
  exact wpAny_pure ⟨_, rfl, "list_iterator", _, hI.typeIs, slot_listiter_next.lookup, h⟩
/-- the rest of a list's iterator -/
def RestSt (vs : List Value) (n : Nat) (I l : Addr) (i : Nat) (h : Heap) : Prop := (n ≤ vs.length → h.IsListIter I l (n + i)) ∧ (vs.length < n → Ended h I) ∧ h.IsList l vs.toArray
theorem Walks.rest (hh : A.handled = none) (I l : Addr) (hne : l ≠ I) (vs : List Value) (n : Nat) :
    Walks prog w A I [I, l] [I] (vs.length - n) (fun i v => vs[n + i]? = some v) (RestSt vs n I l) where
  sub := fun b hb => by simp at hb; simp [hb]
  frame := fun i h h' st hk => ⟨fun q => (st.1 q).at fun o e => hk I (by simp) o e, fun q => by obtain ⟨o, v, a, b⟩ := st.2.1 q; exact ⟨o, v, hk I (by simp) o a, b⟩, st.2.2.at fun o e => hk l (by simp) o e⟩
  item := fun i s Q E hi st hQ => by
    have hlt : n + i < vs.length := by exact om216q _ _ _ hi
    have hx : vs.toArray[n + i]? = some vs[n + i] := by simp [hlt]
    refine wpAny_pyNext_list_item (st.1 (by exact om403q _ _ _ hlt)) st.2.2 hx fun h' hit' hs' => ?_
    exact hQ _ h' s.toks (List.getElem?_eq_getElem hlt) ⟨fun _ => hit', fun q => by omega, st.2.2.extBut hs'.extBut hne⟩ fun b o hb e => hs'.extBut b o (fun h => hb (by simp [h])) e
  done := fun s Q E st hQ => by
    by_cases hn : n ≤ vs.length
    · exact wpAny_pyNext_list_end hh (st.1 hn) st.2.2 (by simp; exact om404q _ _) fun h' he' => hQ h' s.toks fun b o hb e => he' b o (fun h => hb (by simp [h])) e
    · exact next_ended hh (st.2.1 (by exact om405q _ _ hn)) fun h' k => hQ h' s.toks fun b o _ e => k b o e
  self := fun i s Q E st hQ => by
    by_cases hn : n ≤ vs.length
    · exact wpAny_pyIter_listiter (st.1 hn) hQ
    · exact iter_ended (st.2.1 (by exact om405q _ _ hn)) hQ

/-- a tuple of three -/
theorem tup3 {e1 e2 e3 : PySem.Expr} {env : Env} {k : Nat} {pos : Pos} {Q : Value → Shared → Prop}
    (h : wpAny (model prog w) A (eval e1 env) (fun v1 s₁ => wpAny (model prog w) A (eval e2 env) (fun v2 s₂ => wpAny (model prog w) A (eval e3 env) (fun v3 s₃ => Q (.ref s₃.heap.objs.size) { s₃ with heap := s₃.heap.push { cls := .type "tuple", data := .seq #[v1, v2, v3] } }) E s₂) E s₁) E s)
    (h1 : NS e1 = true := by rfl) (h2 : NS e2 = true := by rfl) (h3 : NS e3 = true := by rfl) : wpAny (model prog w) A (eval (.Tuple [e1, e2, e3] k pos) env) Q E s :=
  wpAny_Tuple_spliced (sm (wpAny_mono h (fun v1 s₁ h => sm (wpAny_mono h (fun v2 s₂ h => sm (wpAny_mono h (fun v3 s₃ h => spliced_none ⟨by rw [sizeLine_eq]; simp, h⟩) fun _ _ x => x) h3) fun _ _ x => x) h2) fun _ _ x => x) h1)
theorem tup2 {e1 e2 : PySem.Expr} {env : Env} {k : Nat} {pos : Pos} {Q : Value → Shared → Prop}
    (h : wpAny (model prog w) A (eval e1 env) (fun v1 s₁ => wpAny (model prog w) A (eval e2 env) (fun v2 s₂ => Q (.ref s₂.heap.objs.size) { s₂ with heap := s₂.heap.push { cls := .type "tuple", data := .seq #[v1, v2] } }) E s₁) E s)
    (h1 : NS e1 = true := by rfl) (h2 : NS e2 = true := by rfl) : wpAny (model prog w) A (eval (.Tuple [e1, e2] k pos) env) Q E s :=
  wpAny_Tuple_spliced (sm (wpAny_mono h (fun v1 s₁ h => sm (wpAny_mono h (fun v2 s₂ h => spliced_none ⟨by rw [sizeLine_eq]; simp, h⟩) fun _ _ x => x) h2) fun _ _ x => x) h1)

theorem pick_upto (vs : List Value) (n : Nat) : slicePick vs.toArray none (some (n : Int)) none = (vs.take n).toArray := by
  have e : sliceBounds none (some (n : Int)) none vs.toArray.size = (((0 : Nat) : Int), ((min n vs.toArray.size : Nat) : Int), 1) := by
    simp only [sliceBounds, Option.getD_none, show (1 : Int) > 0 by decide, if_true, if_neg (show ¬ ((n : Int) < 0) by exact om352q _)]
    congr 1
    congr 1
    exact om406q _ _
  rw [kmk_pick_nat _ e]
  show ((vs.drop 0).take (min n vs.toArray.size - 0)).toArray = _
  rw [List.drop_zero, Nat.sub_zero, List.size_toArray, kmk_take_min]
theorem pick_from (vs : List Value) (n : Nat) : slicePick vs.toArray (some (n : Int)) none none = (vs.drop n).toArray := by
  have e : sliceBounds (some (n : Int)) none none vs.toArray.size = (((min n vs.toArray.size : Nat) : Int), ((vs.toArray.size : Nat) : Int), 1) := by
    simp only [sliceBounds, Option.getD_none, show (1 : Int) > 0 by decide, if_true, if_neg (show ¬ ((n : Int) < 0) by exact om352q _)]
    congr 1
    exact om406q _ _
  rw [kmk_pick_nat _ e]
  show ((vs.drop (min n vs.toArray.size)).take (vs.toArray.size - min n vs.toArray.size)).toArray = _
  rw [List.size_toArray, kmk_drop_min]
  congr 1
  refine List.take_of_length_le ?_
  rw [List.length_drop]
  exact om407q _ _
/-- x[:n] of a list -/
theorem slice_upto {value slice : PySem.Expr} {l : Addr} {vs : List Value} {c n : Nat} {t : Tok} {Q : Value → Shared → Prop} (hl : s.heap.get? l = some (lst vs c)) (hsz : vs.length < 1000)
    (h : ∀ h' D, s.heap.StaysIn h' → s.heap.objs.size ≤ D → h'.get? D = some (lst (vs.take n) 0) → Q (.ref D) { s with heap := h' })
    (hs : subscripted slice false (.ref l) (.ref s.heap.objs.size) = operate [.ref s.heap.objs.size, .ref l] (getItem (.ref l) (.ref s.heap.objs.size)) := by with_unfolding_all rfl) :
    wpAny (model prog w) A (subscriptTail value slice (.ref l) (.ref s.heap.objs.size)) Q E { s with heap := s.heap.push { cls := .type "slice", data := .fields #[.none, .int (n : Int) t, .none] } } := by
  have hL : s.heap.IsList l vs.toArray := PySem.IsL.isList (n := c) hl
  refine tail_any (Heap.IsList.typeIs (s := { s with heap := s.heap.push { cls := .type "slice", data := .fields #[.none, .int (n : Int) t, .none] } }) (hL.push _)) list_getitem_lookup
    (wpAny_getItem_list_slice (hL.push _) (Heap.IsSliceOf.new ..) .none (.int _ _) .none (by simp) ?_ (by rw [sizeLine_eq, List.size_toArray]; exact om91q _ hsz)) hs
  rw [pick_upto]
  refine h _ _ (fun b o e => Heap.get?_push_of_some _ (Heap.get?_push_of_some _ e)) ?_ (Heap.get?_push_size _ rfl)
  show _ ≤ (s.heap.push _).objs.size
  rw [Heap.size_push]; exact Nat.le_succ _
/-- x[n:] of a list -/
theorem slice_from {value slice : PySem.Expr} {l : Addr} {vs : List Value} {c n : Nat} {t : Tok} {Q : Value → Shared → Prop} (hl : s.heap.get? l = some (lst vs c)) (hsz : vs.length < 1000)
    (h : ∀ h' D, s.heap.StaysIn h' → s.heap.objs.size ≤ D → h'.get? D = some (lst (vs.drop n) 0) → Q (.ref D) { s with heap := h' })
    (hs : subscripted slice false (.ref l) (.ref s.heap.objs.size) = operate [.ref s.heap.objs.size, .ref l] (getItem (.ref l) (.ref s.heap.objs.size)) := by with_unfolding_all rfl) :
    wpAny (model prog w) A (subscriptTail value slice (.ref l) (.ref s.heap.objs.size)) Q E { s with heap := s.heap.push { cls := .type "slice", data := .fields #[.int (n : Int) t, .none, .none] } } := by
  have hL : s.heap.IsList l vs.toArray := PySem.IsL.isList (n := c) hl
  refine tail_any (Heap.IsList.typeIs (s := { s with heap := s.heap.push { cls := .type "slice", data := .fields #[.int (n : Int) t, .none, .none] } }) (hL.push _)) list_getitem_lookup
    (wpAny_getItem_list_slice (hL.push _) (Heap.IsSliceOf.new ..) (.int _ _) .none .none (by simp) ?_ (by rw [sizeLine_eq, List.size_toArray]; exact om91q _ hsz)) hs
  rw [pick_from]
  refine h _ _ (fun b o e => Heap.get?_push_of_some _ (Heap.get?_push_of_some _ e)) ?_ (Heap.get?_push_size _ rfl)
  show _ ≤ (s.heap.push _).objs.size
  rw [Heap.size_push]; exact Nat.le_succ _
/-- an item of a tuple -/
theorem item_t {value slice : PySem.Expr} {T : Addr} {items : Array Value} {k : Nat} {u : Tok} {x : Value} {Q : Value → Shared → Prop} (ht : IsTup s.heap T items) (hx : items[k]? = some x) (hk : k < 1000) (h : Q x s)
    (hs : subscripted slice false (.ref T) (.int (k : Int) u) = operate [.ref T, .int (k : Int) u] (getItem (.ref T) (.int (k : Int) u)) := by with_unfolding_all rfl) :
    wpAny (model prog w) A (subscriptTail value slice (.ref T) (.int (k : Int) u)) Q E s := by
  refine tail_any ht.typeIs slot_tuple_getitem.lookup (getItem_tuple ht (by exact om408q _) (by exact om409q _ hk) ?_ hx h) hs
  unfold seqIndex?
  have : k < items.size := by
    rcases Nat.lt_or_ge k items.size with q | q
    · exact q
    · rw [Array.getElem?_eq_none q] at hx; cases hx
  simp; omega
end
end Mine
end
section
open PySem PySem.W PyProof.Rows PySem.Calls
set_option Elab.async false
set_option linter.all false
set_option maxRecDepth 100000
namespace Mine
theorem same_fn {K : Frag} {f : Addr} {oc oc' : Value} {od od' : Option Addr} {osl osl' : Array (Option Value)} {name qual name' qual' : Str} {params params' : Arguments} {body body' : List Stmt} {scope scope' : Scope} {dV kV doc pm cdv ct dV' kV' doc' pm' cdv' ct' : Value} {an an' : Option Addr}
    (h1 : K.lookup f = some ⟨oc, od, .func (fnOf name qual params body scope dV kV doc pm an cdv ct), osl⟩) (h2 : K.lookup f = some ⟨oc', od', .func (fnOf name' qual' params' body' scope' dV' kV' doc' pm' an' cdv' ct'), osl'⟩) :
    body = body' ∧ scope = scope' ∧ qual = qual' ∧ cdv = cdv' := by
  have e := Option.some.inj (h1.symm.trans h2)
  have e2 : Data.func (fnOf name qual params body scope dV kV doc pm an cdv ct) = Data.func (fnOf name' qual' params' body' scope' dV' kV' doc' pm' an' cdv' ct') := congrArg Obj.data e
  have e3 := Data.func.inj e2
  simp only [fnOf, FuncData.mk.injEq] at e3
  simp_all
/-- a triple in the bounded heap -/
def Trip (h : Heap) (D : Addr) (vs : List Value) (ys : List Str) (v : Value) (i : Nat) (o : Int) : Prop :=
  ∃ T S t1 t2 x tx, v = .ref T ∧ D < T ∧ IsTup h T #[.str S t1, .int o t2, .str x tx] ∧ vs[i]? = some (.str x tx) ∧ ys[i]? = some x ∧ raw S = kyI ys i
section
variable {h h' : Heap} {D : Addr} {vs : List Value} {ys : List Str} {v : Value} {i : Nat} {o : Int}
theorem Trip.keep (x : Trip h D vs ys v i o) (hk : ∀ b o, D < b → h.get? b = some o → h'.get? b = some o) : Trip h' D vs ys v i o := by
  obtain ⟨T, S, t1, t2, x, tx, a, b, ⟨ob, c, d⟩, r⟩ := x
  exact ⟨T, S, t1, t2, x, tx, a, b, ⟨ob, hk _ _ b c, d⟩, r⟩
theorem Trip.low {D' : Addr} (x : Trip h D vs ys v i o) (hd : D' ≤ D) : Trip h D' vs ys v i o := by
  obtain ⟨T, S, t1, t2, x, tx, a, b, r⟩ := x
  exact ⟨T, S, t1, t2, x, tx, a, Nat.lt_of_le_of_lt hd b, r⟩
theorem Trip.key (x : Trip h D vs ys v i o) : KeyAt true h v ⟨kyI ys i, o, raw (ys.getD i ⟨#[]⟩)⟩ := by
  obtain ⟨T, S, t1, t2, x, tx, a, b, c, d, e, f⟩ := x
  refine ⟨T, _, a, c, ?_⟩
  rw [if_pos rfl]
  refine ⟨S, t1, t2, x, tx, rfl, f.symm, ?_⟩
  show raw (ys.getD i ⟨#[]⟩) = raw x
  rw [List.getD_eq_getElem?_getD, e]; rfl
theorem Trip.kf (x : Trip h D vs ys v i o) : kfH h v = ⟨kyI ys i, o, raw (ys.getD i ⟨#[]⟩)⟩ := kfH_of x.key
theorem BH.start {b : Bool} {kf : Value → Key} {rs rs' : List Value} {n : Nat} {st : Int} (hst : st = if b = true then -1 else 1) (hk : ∀ (k : Nat) v, rs[k]? = some v → kf v = ⟨kyI ys k, (k : Int) * st, raw (ys.getD k ⟨#[]⟩)⟩) (hp : rs'.Perm rs) (hn : rs.length ≤ n) :
    BH b ys kf rs.length ((n : Int) * st) rs' ((List.range rs.length).map fun k => ⟨rs.getD k .none, k, (k : Int) * st⟩) := by
  have hsg : ∀ x : Int, sg b (x * st) = x := by intro x; cases b <;> simp [sg, hst]
  have mem : ∀ e ∈ ((List.range rs.length).map fun k => (⟨rs.getD k .none, k, (k : Int) * st⟩ : Ent)), e.i < rs.length ∧ e.v = rs.getD e.i .none ∧ e.o = (e.i : Int) * st := by
    intro e he
    obtain ⟨k, hk, rfl⟩ := List.mem_map.mp he
    exact ⟨List.mem_range.mp hk, rfl, rfl⟩
  have him : (((List.range rs.length).map fun k => (⟨rs.getD k .none, k, (k : Int) * st⟩ : Ent)).map Ent.i) = List.range rs.length := by
    rw [List.map_map]; exact List.map_id _
  refine ⟨?_, ?_, ?_, ?_, ?_, ?_⟩
  · rw [List.map_map]
    have : (Ent.v ∘ fun k => (⟨rs.getD k .none, k, (k : Int) * st⟩ : Ent)) = fun k => rs.getD k .none := rfl
    rw [this, map_getD_range]; exact hp
  · intro e he
    obtain ⟨h1, h2, h3⟩ := mem e he
    rw [h2, hk e.i _ (by rw [List.getD_eq_getElem?_getD, List.getElem?_eq_getElem h1]; rfl), h3]
  · rw [him]; exact List.nodup_range
  · intro e he
    obtain ⟨h1, h2, h3⟩ := mem e he
    refine ⟨h1, ?_⟩
    rw [h3, hsg, hsg]; exact om141q _ _ _ hn h1
  · intro e he e' he' hlt
    rw [(mem e he).2.2, (mem e' he').2.2, hsg, hsg]; exact om142q _ _ hlt
  · intro e he i hi hn
    rw [him] at hn
    exact absurd (List.mem_range.mpr hi) hn
end
/-- the bounded heap in the heap -/
structure BHs (b : Bool) (vs : List Value) (ys : List Str) (D : Addr) (j : Nat) (ord : Int) (h : Heap) (rs : List Value) (E : List Ent) : Prop where
  bh : BH b ys (kfH h) j ord rs E
  hp : HP (gtB b (kfH h)) 0 rs
  tr : ∀ e ∈ E, Trip h D vs ys e.v e.i e.o
section
variable {b : Bool} {vs : List Value} {ys : List Str} {D : Addr} {j : Nat} {ord : Int} {h h' : Heap} {rs : List Value} {E : List Ent}
theorem gtB_congr {kf kf' : Value → Key} {u v : Value} (h1 : kf u = kf' u) (h2 : kf v = kf' v) : gtB b kf u v = gtB b kf' u v := by
  unfold gtB klt kgt
  rw [h1, h2]
theorem BHs.mem (B : BHs b vs ys D j ord h rs E) {v : Value} (hv : v ∈ rs) : ∃ e ∈ E, e.v = v := List.mem_map.mp (B.bh.perm.mem_iff.mp hv)
theorem BHs.same (B : BHs b vs ys D j ord h rs E) (hk : ∀ b o, D < b → h.get? b = some o → h'.get? b = some o) : ∀ v ∈ rs, kfH h v = kfH h' v := by
  intro v hv
  obtain ⟨e, he, rfl⟩ := B.mem hv
  rw [(B.tr e he).kf, ((B.tr e he).keep hk).kf]
theorem BHs.keep (B : BHs b vs ys D j ord h rs E) (hk : ∀ b o, D < b → h.get? b = some o → h'.get? b = some o) : BHs b vs ys D j ord h' rs E :=
  ⟨B.bh.congr (B.same hk), B.hp.congr fun u hu v hv => gtB_congr (B.same hk u hu) (B.same hk v hv), fun e he => (B.tr e he).keep hk⟩
theorem BHs.key (B : BHs b vs ys D j ord h rs E) : ∀ v ∈ rs, KeyAt true h v (kfH h v) := by
  intro v hv
  obtain ⟨e, he, rfl⟩ := B.mem hv
  exact keyH (B.tr e he).key
theorem BHs.root (B : BHs b vs ys D j ord h rs E) (hl : 0 < rs.length) : ∃ e ∈ E, e.v = at' rs 0 := B.mem (at_mem hl)
theorem BHs.len (B : BHs b vs ys D j ord h rs E) : rs.length = E.length := by rw [B.bh.perm.length_eq, List.length_map]
theorem BHs.skip (B : BHs b vs ys D j ord h rs E) {e0 : Ent} (h0 : e0 ∈ E) (hv : e0.v = at' rs 0) (hlt : ltB b ys j e0.i = false) : BHs b vs ys D (j + 1) ord h rs E := ⟨B.bh.skip B.hp h0 hv hlt, B.hp, B.tr⟩
theorem BHs.repl (B : BHs b vs ys D j ord h rs E) {e0 : Ent} (h0 : e0 ∈ E) (hv : e0.v = at' rs 0) (hlt : ltB b ys j e0.i = true) {v : Value} {rs' : List Value} (ht : Trip h D vs ys v j ord) (hrs : rs'.Perm (rs.set 0 v)) (hp : HP (gtB b (kfH h)) 0 rs')
    {ord' : Int} (ho : sg b ord < sg b ord') (hk : ∀ b o, D < b → h.get? b = some o → h'.get? b = some o) : ∃ E', BHs b vs ys D (j + 1) ord' h' rs' E' ∧ E'.length = E.length := by
  obtain ⟨E', B', hl, hsub⟩ : ∃ E', BH b ys (kfH h) (j + 1) ord' rs' E' ∧ E'.length = E.length ∧ ∀ e ∈ E', e ∈ E ∨ e = ⟨v, j, ord⟩ := B.bh.repl' B.hp h0 hv hlt (fun _ _ => rfl) ht.kf hrs ho
  have tr : ∀ e ∈ E', Trip h D vs ys e.v e.i e.o := fun e he => by
    rcases hsub e he with q | rfl
    · exact B.tr e q
    · exact ht
  exact ⟨E', BHs.keep ⟨B', hp, tr⟩ hk, hl⟩
theorem BHs.start {n : Nat} {st : Int} {rs' : List Value} (hst : st = if b = true then -1 else 1) (hT : ∀ (k : Nat) v, rs[k]? = some v → Trip h D vs ys v k ((k : Int) * st)) (hp : rs'.Perm rs) (hn : rs.length ≤ n) (hpp : HP (gtB b (kfH h)) 0 rs') :
    ∃ E, BHs b vs ys D rs.length ((n : Int) * st) h rs' E ∧ E.length = rs.length := by
  refine ⟨_, ⟨BH.start hst (fun k v e => (hT k v e).kf) hp hn, hpp, ?_⟩, by simp⟩
  intro e he
  obtain ⟨k, hk, rfl⟩ := List.mem_map.mp he
  have hk' := List.mem_range.mp hk
  exact hT k _ (by show rs[k]? = some (rs.getD k .none); rw [List.getD_eq_getElem?_getD, List.getElem?_eq_getElem hk']; rfl)
end
theorem ZEnd.frame {vs : List Value} {n : Nat} {I l : Addr} {h h' : Heap} (z : ZEnd vs n I l h) (h1 : ∀ o, h.get? I = some o → h'.get? I = some o) (h2 : ∀ o, h.get? l = some o → h'.get? l = some o) : ZEnd vs n I l h' :=
  ⟨fun q => (z.1 q).at fun o e => h1 o e, fun q => by obtain ⟨o, v, a, b⟩ := z.2.1 q; exact ⟨o, v, h1 o a, b⟩, z.2.2.at fun o e => h2 o e⟩
section
variable {prog : Program} {w : World} {A : Around} {E : Value → Shared → Prop} {s : Shared}
theorem isTrue_not {e : PySem.Expr} {env : Env} {p : Pos} {whole : Sem Value} {Q : Bool → Shared → Prop} (h : wpAny (model prog w) A (isTrue e env (eval e env)) (fun b s' => Q (!b) s') E s) :
    wpAny (model prog w) A (isTrue (.UnaryOp .Not e p) env whole) Q E s := by
  rw [arm_isTrue_UnaryOp]
  exact wpAny_bind (wpAny_mono h (fun b s' h' => wpAny_pure h') fun _ _ x => x)
theorem assign3 {env : Env} {a b c : Str} {pa pb pc tp : Pos} {kk : Nat} {T : Addr} {x y z : Value} {m : Str → Option Value} {Q : Unit → Shared → Prop} (hh : A.handled = none) (ht : s.heap.IsTuple T #[x, y, z]) (hn : s.heap.Ns env.locals m)
    (h : ∀ (h' : Heap) (tk : Nat), h'.Ns env.locals (fun u => if u = c then some z else if u = b then some y else if u = a then some x else m u) → (∀ c o, c ≠ env.locals → s.heap.get? c = some o → h'.get? c = some o) → Q () { s with heap := h', toks := tk })
    (ha : env.kindOf a = some .local := by rfl) (hb : env.kindOf b = some .local := by rfl) (hc : env.kindOf c = some .local := by rfl) (hp : (env.scope.kind == .class || (env.scope.kind == .module && env.locals != env.globals)) = false := by rfl) :
    wpAny (model prog w) A (assign (.Tuple [.Name a pa, .Name b pb, .Name c pc] kk tp) env (.ref T)) Q E s := by
  refine wpAny_assign_Tuple hh ht rfl rfl fun h₃ he₃ => ?_
  have up₃ : ∀ c o, s.heap.get? c = some o → h₃.get? c = some o := fun c o e => he₃ c o (Nat.ne_of_lt (Heap.lt_size e)) e
  show wpAny _ _ (assignInOrder [assign (.Name a pa) env, assign (.Name b pb) env, assign (.Name c pc) env] [x, y, z]) _ _ _
  refine assignInOrder_cons (wpAny_assign_Name (wpAny_storeName_local ha (hn.at' fun o e => up₃ _ o e) (fun h₄ hn₄ hs₄ => ?_) hp))
  refine assignInOrder_cons (wpAny_assign_Name (wpAny_storeName_local hb hn₄ (fun h₅ hn₅ hs₅ => ?_) hp))
  refine assignInOrder_cons (wpAny_assign_Name (wpAny_storeName_local hc hn₅ (fun h₆ hn₆ hs₆ => ?_) hp))
  exact assignInOrder_nil (h h₆ _ hn₆ fun c o q e => hs₆.extBut c o q (hs₅.extBut c o q (hs₄.extBut c o q (up₃ c o e))))
theorem type_list_sort : typeOf (.builtin "list.sort") = pure (.type "method_descriptor") := by kernel_rfl
theorem gm_sort {D : Addr} {vs : List Value} {c : Nat} {pl : Sem Bool} {Q : Value × List Value → Shared → Prop} (hD : s.heap.get? D = some (lst vs c)) (h : Q (.builtin "list.sort", [.ref D]) s) : wpAny (model prog w) A (getMethod (.ref D) (Str.ofString "sort") pl) Q E s :=
  getMethod_builtin ⟨_, hD, rfl⟩ PySem.F.plainAttrs_list slot_list_sort type_list_sort (fun a e => by cases e; exact ⟨_, hD, rfl⟩) h
theorem tupsU {h0 : Heap} {zs : List Value} {D I : Addr} (hh : A.handled = none) (hne : D ≠ I) (R : Nat → Array Value → Prop) (ht : ∀ (j : Nat) v, zs[j]? = some v → ∃ T xs, v = .ref T ∧ IsTup h0 T xs ∧ R j xs ∧ T ≠ I) :
    ∃ (Ts : List Addr) (St : Nat → Heap → Prop) (Mid : Nat → Addr → Heap → Prop), WalksU prog w A I (I :: D :: Ts) [I] zs.length R St Mid ∧ (∀ b ∈ Ts, ∃ o, h0.get? b = some o) ∧
      ∀ h : Heap, h.IsListIter I D 0 → h.IsList D zs.toArray → (∀ b ∈ Ts, ∀ o, h0.get? b = some o → h.get? b = some o) → St 0 h := by
  let Ts : Nat → Addr := fun j => match zs[j]? with | some (.ref T) => T | _ => 0
  let vals : Nat → Array Value := fun j => match h0.get? (Ts j) with | some o => (match o.data with | .seq xs _ => xs | _ => #[]) | none => #[]
  have hj : ∀ j, j < zs.length → zs[j]? = some (.ref (Ts j)) ∧ IsTup h0 (Ts j) (vals j) ∧ R j (vals j) ∧ Ts j ≠ I := by
    intro j hj
    obtain ⟨T, xs, e, ⟨o, ho, hc, n, hd⟩, hR, hT⟩ := ht j _ (List.getElem?_eq_getElem hj)
    have e1 : Ts j = T := by simp only [Ts, List.getElem?_eq_getElem hj, e]
    have e2 : vals j = xs := by simp only [vals, e1, ho, hd]
    refine ⟨by rw [List.getElem?_eq_getElem hj, e, e1], ?_, by rw [e2]; exact hR, by rw [e1]; exact hT⟩
    rw [e1, e2]; exact ⟨o, ho, hc, n, hd⟩
  have hsz : zs.toArray.size = zs.length := List.size_toArray ..
  have W := (WalksU.listOfTuples (prog := prog) (w := w) hh I D hne zs.toArray Ts vals (fun j h => by rw [hsz] at h; simpa using (hj j h).1) (fun j h => by rw [hsz] at h; exact (hj j h).2.2.2)).bound
  rw [hsz] at W
  refine ⟨(List.range zs.length).map Ts, _, _, { W with item := fun i s Q E hi st hQ => W.item i s Q E hi st fun T vals' h' tk hP hT mid hk => hQ T vals' h' tk ?_ hT mid hk }, ?_, ?_⟩
  · obtain ⟨h1, rfl⟩ := hP
    exact (hj i h1).2.2.1
  · intro b hb
    obtain ⟨j, hjm, rfl⟩ := List.mem_map.mp hb
    obtain ⟨o, ho, _⟩ := (hj j (List.mem_range.mp hjm)).2.1
    exact ⟨o, ho⟩
  · intro h h1 h2 h3
    refine ⟨h1, h2, fun k hk => ?_⟩
    obtain ⟨o, ho, r⟩ := (hj k hk).2.1
    exact ⟨o, h3 _ (List.mem_map_of_mem (List.mem_range.mpr hk)) o ho, r⟩
theorem MCk {M : Model} {env : Env} {name : Str} {apos pos : Pos} {args : List PySem.Expr} {kws : List Keyword} {Q : Value → Shared → Prop} {o : PySem.Expr} (h : ∀ pl : Sem Bool, wpAny M A (eval o env) (fun ov s₁ => wpAny M A (getMethod ov name pl) (fun fx s₂ => wpAny M A (callWith pos fx.1 fx.2 (backTo pos (starEach args env)) (backToKw pos (keywordEach kws env))) Q E s₂) E s₁) E s)
    (e1 : methodCallForm (args.length + kws.length) (backTo pos (starEach args env)) (backToKw pos (keywordEach kws env)) = true := by with_unfolding_all rfl) (hb : ∀ whole, attributeBase o name env whole = whole := by intro _; with_unfolding_all rfl) (hp : (apos.endLine == pos.line) = true := by decide) :
    wpAny M A (eval (.Call (.Attribute o name apos) args kws pos) env) Q E s := by
  refine methodCall_KW (pl := do return (← importBound o env).getD true) (h _) ?_
  rw [arm_eval_Call, hb]
  unfold methodCall
  have e2 : methodCallPos true o env apos pos = pure pos := by
    unfold methodCallPos
    rw [hp]; rfl
  rw [e1, e2]
  rfl
theorem st_R {M : Model} {mm : Str → Option Value} {env : Env} {x : Str} {v : Value} {Q : Unit → Shared → Prop} (hn : s.heap.Ns env.locals mm)
    (h : ∀ h' tk, h'.Ns env.locals (fun y => if y = x then some v else mm y) → But env.locals s.heap h' → Q () { s with heap := h', toks := tk })
    (hx : env.kindOf x = some .local := by rfl) (hp : (env.scope.kind == .class || (env.scope.kind == .module && env.locals != env.globals)) = false := by rfl) :
    wpAny M A (storeName env x v) Q E s := wpAny_storeName_local hx hn (fun h' hn hs => h h' _ hn fun b o q e => hs.extBut b o q e) hp
theorem st_Z {M : Model} {mm : Str → Option Value} {env : Env} {x : Str} {v : Value} {Q : Unit → Shared → Prop} (hn : s.heap.Ns env.locals mm)
    (h : ∀ h' tk, h'.Ns env.locals (fun y => if y = x then some v else mm y) → But env.locals s.heap h' → h'.objs.size = s.heap.objs.size → Q () { s with heap := h', toks := tk })
    (hx : env.kindOf x = some .local := by rfl) (hp : (env.scope.kind == .class || (env.scope.kind == .module && env.locals != env.globals)) = false := by rfl) :
    wpAny M A (storeName env x v) Q E s := wpAny_storeName_local hx hn (fun h' hn hs => h h' _ hn (fun b o q e => hs.extBut b o q e) hs.1) hp
end
end Mine
end
section
open PySem PySem.W PyProof.Rows PySem.Calls
set_option Elab.async false
set_option linter.all false
set_option maxRecDepth 100000
namespace Mine
theorem fill31 (w : World) (g : Heap) : (hd.heap_1 w.params).In g → PySem.Challenge.rw_mr0283_01.row.prog = PySem.Challenge.rw_mr0283_01.row.prog := by
  k_fill
  intro _; rfl
theorem boot_zip' : bootBuiltins (Str.ofString "zip") = some (.type "zip") := by decide +kernel
theorem boot_iter' : bootBuiltins (Str.ofString "iter") = some (.builtin "iter") := by decide +kernel
section
variable {prog : Program} {w : World} {A : Around} {E : Value → Shared → Prop} {s : Shared} {mg mb : Str → Option Value} {g : Heap}

set_option maxHeartbeats 4000000 in
theorem ns_heap {oc : Value} {od : Option Addr} {osl : Array (Option Value)} {name qual : Str} {params : Arguments} {body : List Stmt} {scope : Scope} {dV kV doc pm cdv ct : Value} {an : Option Addr}
    (ho : (hd.heap_1 w.params).lookup 105 = some ⟨oc, od, .func (fnOf name qual params body scope dV kV doc pm an cdv ct), osl⟩)
    {n nl : Nat} {t : Tok} {a l L : Addr} {X : List Addr} {vs : List Value} {ys : List Str} {m : Str → Option Value} {occ : Obj} {Q : Flow → Shared → Prop}
    (C : Cx w mg mb g) (S : g.StaysIn s.heap) (gX : ∀ b ∈ X, g.get? b = none) (gL : g.get? L = none)
    (ns : s.heap.Ns L m) (e1 : m (Str.ofString "n") = some (.int (n : Int) t)) (e2 : m (Str.ofString "iterable") = some (.ref a)) (gc : s.heap.get? (L + 1) = some occ) (hoc : occ.data = .cell (some (.ref 22)))
    (hsrc : (X = [] ∧ a = l) ∨ (X = [a] ∧ s.heap.IsListIter a l 0 ∧ a ≠ l)) (hl : s.heap.get? l = some (lst vs nl)) (hlL : l ≠ L) (haL : a ≠ L)
    (hi : StrsAre vs ys) (hx : ∀ y ∈ ys, (∀ c ∈ raw y, Al c = true) ∧ y.length ≤ 100)
    (hN : 2 ≤ vs.length) (hN2 : vs.length ≤ 40) (hn : n ≤ 50) (hn1 : n ≠ 1) (hh : A.handled = none) (hroom : A.depth + 4 < recursionLimit) (hu : A.units + 70 < cLine)
    (hQ : ∀ h' tk D out c, (∀ b o, b ≠ L → b ∉ X → s.heap.get? b = some o → h'.get? b = some o) → s.heap.objs.size ≤ D → h'.get? D = some (lst out c) → TopN (ltB false ys) n vs out → Q (.ret (.ref D)) { s with heap := h', toks := tk }) :
    wpAny (model prog w) A (execs (body.drop 3) (envOfC qual scope L 105 cdv)) Q E s := by
  obtain ⟨rfl, rfl, rfl, rfl⟩ := same_fn ho (by k_is)
  simp only [List.drop_succ_cons, List.drop_zero]
  have hlX : l ∉ X := by
    rcases hsrc with ⟨rfl, _⟩ | ⟨rfl, _, h⟩
    · exact fun q => by cases q
    · exact fun q => h (List.mem_singleton.mp q).symm
  have hcL : L + 1 ≠ L := Nat.succ_ne_self _
  have hls : l < s.heap.objs.size := Heap.lt_size hl
  have hLs : L < s.heap.objs.size := ns.lt
  have hL1s : L + 1 < s.heap.objs.size := Heap.lt_size gc
  have hl' : s.heap.IsList l vs.toArray := PySem.IsL.isList (n := nl) hl
  -- it = iter(iterable)
  refine execs_cut (P := fun s' => Ex4 fun h tk m I => C13 (s' = { s with heap := h, toks := tk }) (h.Ns L m) (m (Str.ofString "n") = some (.int (n : Int) t)) (m (Str.ofString "it") = some (.ref I)) (h.IsListIter I l 0) (h.get? l = some (lst vs nl)) (I ≠ l) (g.get? I = none) (h.get? (L + 1) = some occ) ((∀ b o, b ≠ L → b ∉ X → s.heap.get? b = some o → h.get? b = some o ∧ b ≠ I)) (I ≠ L) (I ≠ L + 1) (s.heap.objs.size ≤ h.objs.size)) ?_ ?_
  · rintro s' ⟨h, tk, m', I, rfl, ns', e1', eI, hI, hl₁, hIl, gI, gc', kp, hIL, hIc, hszh⟩
    have S' : g.StaysIn h := fun b o e => (kp b o (fun q => by rw [q, gL] at e; cases e) (fun q => by rw [gX b q] at e; cases e) (S b o e)).1
    have hIs : I < h.objs.size := by obtain ⟨_, e, _⟩ := hI; exact Heap.lt_size e
    have hl₁' : h.IsList l vs.toArray := PySem.IsL.isList (n := nl) hl₁
    refine execs_cut (P := fun s' => Ex6 fun h tk m D rs c => C13 (s' = { s with heap := h, toks := tk }) (h.Ns L m) (m (Str.ofString "n") = some (.int (n : Int) t)) (m (Str.ofString "it") = some (.ref I)) (m (Str.ofString "result") = some (.ref D)) (h.get? D = some (lst rs c)) (rs.length = min n vs.length) ((∀ (j : Nat) v, rs[j]? = some v → Trip h D vs ys v j ((j : Int) * 1))) (ZEnd vs n I l h) (h.get? (L + 1) = some occ) (s.heap.objs.size ≤ D) (I < D) ((∀ b o, b ≠ L → b ∉ X → s.heap.get? b = some o → h.get? b = some o))) ?_ ?_
    · rintro s' ⟨h₂, tk₂, m₂, D, rs, c, rfl, ns₂, e1₂, eI₂, eD, gD, hrl, hT, hz, gc₂, hDs, hID, kp₂⟩
      have gDn : g.get? D = none := by
        cases q : g.get? D with
        | none => rfl
        | some o => exact absurd (Nat.lt_of_lt_of_le (Heap.lt_size (S _ _ q)) hDs) (Nat.lt_irrefl _)
      have hLD : L < D := Nat.lt_of_lt_of_le hLs hDs
      have hcD : L + 1 < D := Nat.lt_of_lt_of_le hL1s hDs
      have hlD : l < D := Nat.lt_of_lt_of_le hls hDs
      have stay : ∀ {h' : Heap}, (∀ b o, b ≠ L → b ∉ X → s.heap.get? b = some o → h'.get? b = some o) → g.StaysIn h' := fun k b o e => k b o (fun q => by rw [q, gL] at e; cases e) (fun q => by rw [gX b q] at e; cases e) (S b o e)
      have S₂ : g.StaysIn h₂ := stay kp₂
      -- if not result
      with_reducible refine wpAny_execs_cons ?_
      refine wpAny_If (isTrue_not (isTrue_plain (nm_L ns₂ eD (truth_l gD (by exact om54q _ _ _ hn hrl) fun tk => ?_))))
      by_cases hn0 : n = 0
      · obtain rfl : rs = [] := List.eq_nil_of_length_eq_zero (by exact om55q _ _ _ hrl hn0)
        simp only [List.isEmpty_nil, Bool.not_true, Bool.not_false, if_true]
        with_reducible refine wpAny_execs_cons (wpAny_Return_some ?_)
        refine nm_L ns₂ eD ?_
        refine hQ _ _ _ [] c kp₂ hDs gD ?_
        have hsp := sort_spec (sw_ltB false ys) (N := vs.length) (by exact om56q _ hN)
        exact ⟨_, hsp.1, hsp.2, by rw [hn0]; rfl⟩
      have hne : 0 < rs.length := by exact om57q _ _ _ hN hrl hn0
      rw [show (!(!rs.isEmpty)) = false from by cases rs with | nil => simp at hne | cons _ _ => rfl, if_neg (by decide)]
      refine wpAny_execs_nil ?_
      dsimp only
      -- heapify
      with_reducible refine wpAny_execs_cons ?_
      refine wpAny_Expr_any (Call_ (nm_K C S₂ (by k_is) (cwK C.K (by k_is) (sm (nm_L ns₂ eD (spliced_none ⟨C.K.keeps S₂, ?_⟩))))))
      refine heapifym_call (kb := true) (kf := kfH h₂) C S₂ gD gDn (fun v hv => ?_) (ord_kgt _) hh (by exact om58q _ _ hroom) (by exact om59q _ _ hu) (by exact om60q _ _ _ hn hrl) fun h₃ tk₃ rs₃ c₃ b₃ gD₃ hp₃ hh₃ => ?_
      · obtain ⟨k, hk⟩ := List.getElem?_of_mem hv
        exact keyH (hT k v hk).key
      obtain ⟨E₃, B₃, hE₃⟩ := BHs.start (b := false) (st := 1) rfl hT hp₃ (n := n) (by exact om61q _ _ _ hrl) hh₃
      rw [hrl, Int.mul_one] at B₃
      rw [hrl] at hE₃
      replace B₃ : BHs false vs ys D _ _ h₃ rs₃ E₃ := B₃.keep fun b o hb e => b₃ b o (Nat.ne_of_gt hb) e
      have ns₃ : h₃.Ns L m₂ := ns₂.at' fun o e => b₃ _ o (Nat.ne_of_lt hLD) e
      have kp₃ : ∀ b o, b ≠ L → b ∉ X → s.heap.get? b = some o → h₃.get? b = some o := fun b o q1 q2 e => b₃ b o (Nat.ne_of_lt (Nat.lt_of_lt_of_le (Heap.lt_size e) hDs)) (kp₂ b o q1 q2 e)
      have hl₃ : 0 < rs₃.length := by rw [hp₃.length_eq]; exact hne
      -- top = result[0][0]
      with_reducible refine wpAny_execs_cons ?_
      refine wpAny_Assign_Name (Subscript_ (Subscript_ (nm_L ns₃ eD (cI fun _ _ => item_l (i := 0) gD₃ hl₃ (by have := hp₃.length_eq; exact om62q _ _ _ _ hn hrl this) ?_))))
      obtain ⟨e0, h0, hv0⟩ := B₃.root hl₃
      rw [← hv0]
      obtain ⟨T, S0, t1, t2, x, tx, hvT, hDT, hTup, hvx, hyx, hS0⟩ := B₃.tr e0 h0
      rw [hvT]
      refine cI fun _ _ => item_t (k := 0) hTup rfl (by exact om63q) (st_R ns₃ fun h₄ tk₄ ns₄ k₄ => ?_)
      -- order = n
      with_reducible refine wpAny_execs_cons ?_
      refine wpAny_Assign_Name (nm_L ns₄ e1₂ (st_R ns₄ fun h₅ tk₅ ns₅ k₅ => ?_))
      -- _heapreplace = _heapreplace_max
      have kp₅ : ∀ b o, b ≠ L → b ∉ X → s.heap.get? b = some o → h₅.get? b = some o := fun b o q1 q2 e => k₅ b o q1 (k₄ b o q1 (kp₃ b o q1 q2 e))
      with_reducible refine wpAny_execs_cons ?_
      refine wpAny_Assign_Name (nm_K C (stay kp₅) (by k_is) (st_R ns₅ fun h₆ tk₆ ns₆ k₆ => ?_))
      have up₆ : ∀ b o, b ≠ L → h₃.get? b = some o → h₆.get? b = some o := fun b o q e => k₆ b o q (k₅ b o q (k₄ b o q e))
      -- the loop
      with_reducible refine execs_cut (P := fun s' => Ex7 fun h tk m rs c E ord => C7 (s' = { s with heap := h, toks := tk }) (h.Ns L m) (m (Str.ofString "result") = some (.ref D)) (h.get? D = some (lst rs c)) (BHs false vs ys D vs.length ord h rs E) (E.length = min n vs.length) ((∀ b o, b ≠ L → b ∉ X → s.heap.get? b = some o → h.get? b = some o))) ?_ ?_
      · rintro s' ⟨h, tk, m, rs, c, E', ord, rfl, ns₇, eD₇, gD₇, B₇, hE₇, kp₇⟩
        have hrl₇ : rs.length = min n vs.length := by rw [B₇.len, hE₇]
        with_reducible refine wpAny_execs_cons ?_
        refine wpAny_Expr_any ?_
        with_reducible refine MC fun pl => ?_
        refine nm_L ns₇ eD₇ (gm_sort gD₇ (callWith_method0 (lsort_call (b := false) (kb := true) (kf := kfH h) (.inl ⟨rfl, rfl⟩) gD₇ (by exact om64q _ _ _ hN hn1 hn0 hrl₇) (by exact om65q _ _ _ hn hrl₇) B₇.key fun h₈ c₈ tk₈ b₈ gD₈ => ?_)))
        have hsp := srt_spec (b := false) (kf := kfH h) (rs := rs) (by exact om66q _ _ _ _ hrl hne hrl₇)
        obtain ⟨E₈, pE, hzs, htop⟩ := B₇.bh.top (vs := vs) rfl hE₇ hsp.1 hsp.2 (by exact om56q _ hN)
        rw [hzs] at gD₈
        have trs : ∀ e ∈ E₈, Trip h₈ D vs ys e.v e.i e.o := fun e he => (B₇.tr e (pE.mem_iff.mp he)).keep fun b o hb e => b₈ b o (Nat.ne_of_gt hb) e
        have ns₈ : h₈.Ns L m := ns₇.at' fun o e => b₈ _ o (Nat.ne_of_lt hLD) e
        have kp₈ : ∀ b o, b ≠ L → b ∉ X → s.heap.get? b = some o → h₈.get? b = some o := fun b o q1 q2 e => b₈ b o (Nat.ne_of_lt (Nat.lt_of_lt_of_le (Heap.lt_size e) hDs)) (kp₇ b o q1 q2 e)
        with_reducible refine wpAny_execs_cons (wpAny_Return_some ?_)
        refine LComp (cl := []) rfl (by decide) rfl (by decide) ?_
        refine wpAny_abs fun KK hKK => ?_
        refine nm_L ns₈ eD₇ (hKK _ _ ?_)
        clear hKK KK
        refine wpAny_abs fun KK hKK => ?_
        refine wpAny_pyIter_list (PySem.IsL.isList (n := c₈) gD₈) (hKK _ _ ?_)
        clear hKK KK
        dsimp only
        have hD₈ : D < h₈.objs.size := Heap.lt_size gD₈
        generalize hH : h₈.push _ = H
        have upH : ∀ b o, h₈.get? b = some o → H.get? b = some o := fun b o e => by rw [← hH]; exact Heap.get?_push_of_some _ e
        have gI' : H.IsListIter h₈.objs.size D 0 := ⟨_, by rw [← hH]; exact Heap.get?_push_size _ rfl, rfl, rfl⟩
        obtain ⟨Ts, St, Mid, W, hTs, hst⟩ := tupsU (prog := prog) (w := w) (A := A) (h0 := h₈) (zs := E₈.map Ent.v) (D := D) (I := h₈.objs.size) hh (Nat.ne_of_lt hD₈) (fun j xs => ∃ a b cc, xs = #[a, b, cc] ∧ E₈[j]?.map (fun e => vs.getD e.i .none) = some cc) (fun j v hj => by
          rw [List.getElem?_map] at hj
          obtain ⟨e, he, rfl⟩ := Option.map_eq_some_iff.mp hj
          obtain ⟨T, S1, t1, t2, x, tx, hvT, hDT, hTup, hvx, hyx, hS1⟩ := trs e (List.mem_of_getElem? he)
          refine ⟨T, _, hvT, hTup, ⟨_, _, _, rfl, ?_⟩, ?_⟩
          · rw [he]; show some (vs.getD e.i .none) = _; rw [List.getD_eq_getElem?_getD, hvx]; rfl
          · obtain ⟨o, ho, _⟩ := hTup
            exact Nat.ne_of_lt (Heap.lt_size ho))
        refine ⟨h₈.objs.size, _, [h₈.objs.size], (E₈.map Ent.v).length, [Str.ofString "k", Str.ofString "order", Str.ofString "elem"], _, St, fun C j v h => E₈[j]?.map (fun e => vs.getD e.i .none) = some v, rfl, Drw.tup3 (P := fun i a b cc => E₈[i]?.map (fun e => vs.getD e.i .none) = some cc) hh W (fun i vals h => h) (by decide) (by decide) (by decide), ?_, (fun b hb => by cases hb), (fun _ _ _ _ _ hp _ => hp), ?_, hst H gI' (PySem.IsL.isList (n := c₈) (upH _ _ gD₈)) (fun b _ o e => upH b o e), ?_, ?_, ?_⟩
        · rw [List.length_map, pE.length_eq, hE₇]; exact om67q _ _ hn
        · intro x hx'
          simp only [List.mem_cons, List.not_mem_nil, or_false] at hx'
          rcases hx' with rfl | rfl | rfl <;> rfl
        · intro b hb
          rcases List.mem_cons.mp hb with rfl | hb
          · obtain ⟨_, e, _⟩ := gI'; exact Heap.lt_size e
          · rcases List.mem_cons.mp hb with rfl | hb
            · exact Heap.lt_size (upH _ _ gD₈)
            · obtain ⟨o, ho⟩ := hTs b hb; exact Heap.lt_size (upH _ _ ho)
        · rintro C' j bs mc s' hC hj ⟨a', b', cc, hcc, rfl⟩ hns hm hk hsz
          refine wpAny_abs fun KK hKK => ?_
          exact nm_L hns (hm _ (.tail _ (.tail _ (.head _)))) (hKK _ _ ⟨⟨_, _, rfl⟩, fun b o e => e, hcc⟩)
        · intro D' C' h' tk' out c' hD' hC' gD' hol hP hk
          have hout : out = E₈.map (fun e => vs.getD e.i .none) := by
            apply List.ext_getElem?
            intro j
            rw [List.getElem?_map]
            cases hj : out[j]? with
            | some v => exact (hP j v hj).symm
            | none =>
              have := List.getElem?_eq_none_iff.mp hj
              rw [hol, List.length_map] at this
              rw [List.getElem?_eq_none (by exact om35q _ _ this)]; rfl
          rw [hout] at gD'
          refine hQ h' tk' D' _ c' (fun b o q1 q2 e => hk b o (fun q => ?_) (fun q => by cases q) (upH _ _ (kp₈ b o q1 q2 e))) ?_ gD' htop
          · exact Nat.lt_irrefl _ (by have := Heap.lt_size (kp₈ b o q1 q2 e); rw [List.mem_singleton.mp q] at this; exact this)
          · rw [hD']
            have h1 : h₈.objs.size < H.objs.size := by obtain ⟨_, e, _⟩ := gI'; exact Heap.lt_size e
            exact Nat.le_of_lt (Nat.lt_of_le_of_lt hDs (Nat.lt_trans hD₈ h1))
      · refine wpAny_abs fun KK hKK => ?_
        refine wpAny_For (nm_L ns₆ eI₂ ?_)
        have up₆' : ∀ b o, b ≠ L → b ≠ D → h₂.get? b = some o → h₆.get? b = some o := fun b o q1 q2 e => up₆ b o q1 (b₃ b o q2 e)
        have hz₆ : ZEnd vs n I l h₆ := hz.frame (fun o e => up₆' _ o hIL (Nat.ne_of_lt hID) e) fun o e => up₆' _ o hlL (Nat.ne_of_lt hlD) e
        have rst : RestSt vs n I l 0 h₆ := hz₆
        have W := Walks.rest (prog := prog) (w := w) (A := A) hh I l hIl.symm vs n
        refine W.self 0 _ _ _ rst ?_
        refine for_w (E := E) W (fun i s' => Ex11 fun h tk m rs c E ord tord S0 tS e0 => C14 (s' = { s with heap := h, toks := tk }) (h.Ns L m) (m (Str.ofString "result") = some (.ref D)) (m (Str.ofString "top") = some (.str S0 tS)) (m (Str.ofString "order") = some (.int ord tord)) (m (Str.ofString "_heapreplace") = some (.ref 64)) (h.get? D = some (lst rs c)) (BHs false vs ys D (min n vs.length + i) ord h rs E) (E.length = min n vs.length) (e0 ∈ E) (e0.v = at' rs 0) (raw S0 = kyI ys e0.i) (h.get? (L + 1) = some occ) ((∀ b o, b ≠ L → b ∉ X → s.heap.get? b = some o → h.get? b = some o))) ?_ ?_ ?_ rst
        · rintro i s' hin ⟨h, tk, m, rs, c, E', ord, tord, S0, tS, e0, rfl, ns₇, eD₇, etop, eord, ehr, gD₇, B₇, hE₇, he0, hv0, hS0, gc₇, kp₇⟩ v h' tk' hv hst' hkp
          obtain ⟨y, ty, rfl, hy⟩ := hi.item (n + i) v hv
          have hyx' := hx y (List.mem_of_getElem? hy)
          have hky : kyI ys (n + i) = capK y := by unfold kyI; rw [List.getD_eq_getElem?_getD, hy]; rfl
          rw [show min n vs.length + i = n + i from by exact om68q _ _ _ hin] at B₇
          have up₇ : ∀ b o, b ≠ I → h.get? b = some o → h'.get? b = some o := fun b o q e => hkp b o (by simpa using q) e
          refine wpAny_assign_Name (st_R (ns₇.at' fun o e => up₇ _ o hIL.symm e) fun h₈ tk₈ ns₈ k₈ => ?_)
          refine wpAny_abs fun K₃ hK₃ => ?_
          have kp₈ : ∀ b o, b ≠ L → b ∉ X → s.heap.get? b = some o → h₈.get? b = some o := fun b o q1 q2 e => k₈ b o q1 (up₇ b o (kp b o q1 q2 e).2 (kp₇ b o q1 q2 e))
          have gc₈ : h₈.get? (L + 1) = some occ := k₈ _ _ hcL (up₇ _ _ hIc.symm gc₇)
          have S₈ := stay kp₈
          -- k = key(elem)
          with_reducible refine wpAny_execs_cons ?_
          refine wpAny_Assign_Name (Call_ (nm_C rfl gc₈ hoc (cwK C.K (by k_is) (sm (nm_L ns₈ (if_pos rfl) (spliced_none ⟨C.K.keeps S₈, cap_call C S₈ hyx'.1 hyx'.2 hh (by exact om69q _ _ hroom) fun h₉ tk₉ k tkk hs₉ hk₉ => st_R (ns₈.at' fun o e => hs₉ _ o e) fun h₁ tk₁ ns₁ k₁ => ?_⟩))))))
          have hkk : raw k = kyI ys (n + i) := by rw [hky]; exact hk₉
          have up₁ : ∀ b o, b ≠ L → h'.get? b = some o → h₁.get? b = some o := fun b o q e => k₁ b o q (hs₉ b o (k₈ b o q e))
          have gD₁ := up₁ D _ (Nat.ne_of_gt hLD) (up₇ _ _ (Nat.ne_of_gt hID) gD₇)
          have B₁ : BHs false vs ys D (n + i) ord h₁ rs E' := B₇.keep fun b o hb e => up₁ b o (Nat.ne_of_gt (Nat.lt_trans hLD hb)) (up₇ b o (Nat.ne_of_gt (Nat.lt_trans hID hb)) e)
          have kp₁ : ∀ b o, b ≠ L → b ∉ X → s.heap.get? b = some o → h₁.get? b = some o := fun b o q1 q2 e => k₁ b o q1 (hs₉ b o (kp₈ b o q1 q2 e))
          have gc₁ : h₁.get? (L + 1) = some occ := k₁ _ _ hcL (hs₉ _ _ gc₈)
          have fpL : ∀ b ∈ [I, l], b ≠ L ∧ b < D := fun b hb => by
            simp only [List.mem_cons, List.not_mem_nil, or_false] at hb
            rcases hb with rfl | rfl
            · exact ⟨hIL, hID⟩
            · exact ⟨hlL, hlD⟩
          -- if k < top
          with_reducible refine wpAny_execs_cons ?_
          refine wpAny_If (wpAny_isTrue_Compare1 (nm_L ns₁ (if_pos rfl) (nm_L ns₁ etop (lt_str (wpAny_truthy_bool ?_)))))
          have hdec : (k.cps.toList < S0.cps.toList) = (kyI ys (n + i) < kyI ys e0.i) := by rw [show k.cps.toList = _ from hkk, show S0.cps.toList = _ from hS0]
          by_cases hlt : kyI ys (n + i) < kyI ys e0.i
          · have hlt' : ltB false ys (n + i) e0.i = true := decide_eq_true hlt
            rw [decide_eq_true (by rw [hdec]; exact hlt), if_pos rfl]
            with_reducible refine wpAny_execs_cons ?_
            refine wpAny_Expr_any (Call_ (nm_L ns₁ ehr (cwK C.K (by k_is) (sm (nm_L ns₁ eD₇ (sm (tup3 (nm_L ns₁ (if_pos rfl) (nm_L ns₁ eord (nm_L ns₁ (show _ = some _ from rfl) ?_))))))))))
            dsimp only
            generalize hH : h₁.push _ = H
            have gT : H.get? h₁.objs.size = some { cls := .type "tuple", data := .seq #[.str k tkk, .int ord tord, .str y ty] } := by rw [← hH]; exact Heap.get?_push_size _ rfl
            have upH : ∀ b o, h₁.get? b = some o → H.get? b = some o := fun b o e => by rw [← hH]; exact Heap.get?_push_of_some _ e
            have hD₁ : D < h₁.objs.size := Heap.lt_size gD₁
            have trip : Trip H D vs ys (.ref h₁.objs.size) (n + i) ord := ⟨_, k, tkk, tord, y, ty, rfl, hD₁, ⟨_, gT, rfl, _, rfl⟩, hv, hy, hkk⟩
            have BH' : BHs false vs ys D (n + i) ord H rs E' := B₁.keep fun b o _ e => upH b o e
            have SH : g.StaysIn H := stay fun b o q1 q2 e => upH b o (kp₁ b o q1 q2 e)
            have hrl₁ : rs.length = min n vs.length := by rw [BH'.len, hE₇]
            refine spliced_none ⟨C.K.keeps SH, ?_⟩
            refine replacem_call (kb := true) (kf := kfH H) C SH (upH _ _ gD₁) gDn BH'.key (keyH trip.key) (ord_kgt _) (by exact om70q _ _ hroom) (by exact om59q _ _ hu) (by exact om60q _ _ _ hn hrl₁) (by exact om71q _ _ _ _ hrl hne hrl₁) BH'.hp fun h₃ tk₃ rs' c' b' gD' hp' hh' => ?_
            obtain ⟨E₂, B₂, hE₂⟩ : ∃ E₂, BHs false vs ys D (n + i + 1) (ord + 1) h₃ rs' E₂ ∧ E₂.length = E'.length := BH'.repl he0 hv0 hlt' trip hp' hh' (show ord < ord + 1 by exact om72q _) fun b o hb e => b' b o (Nat.ne_of_gt hb) e
            have hrl' : rs'.length = min n vs.length := by rw [B₂.len, hE₂, hE₇]
            have ns₂' : h₃.Ns L _ := (ns₁.at' fun o e => upH _ o e).at' fun o e => b' _ o (Nat.ne_of_lt hLD) e
            -- top, _order, _elem = result[0]
            with_reducible refine wpAny_execs_cons ?_
            refine Assign_Tuple (Subscript_ (nm_L ns₂' eD₇ (cI fun _ _ => item_l (i := 0) gD' (by exact om71q _ _ _ _ hrl hne hrl') (by exact om54q _ _ _ hn hrl') ?_)))
            obtain ⟨e1', h1', hv1⟩ := B₂.root (by exact om71q _ _ _ _ hrl hne hrl')
            rw [← hv1]
            obtain ⟨T', S', u1, u2, x', tx', hvT', hDT', hTup', hvx', hyx₁, hS'⟩ := B₂.tr e1' h1'
            rw [hvT']
            refine assign3 hh hTup' ns₂' fun h₄ tk₄ ns₄ k₄ => ?_
            -- order += 1
            with_reducible refine wpAny_execs_cons ?_
            refine wpAny_AugAssign_Name (wpAny_loadName_local rfl rfl ns₄ eord (cI fun _ _ => iadd_int (st_R ns₄ fun h₅ tk₅ ns₅ k₅ => ?_)))
            have up₅ : ∀ b o, b ≠ L → h₃.get? b = some o → h₅.get? b = some o := fun b o q e => k₅ b o q (k₄ b o q e)
            have up₅' : ∀ b o, b ≠ L → b < D → h₁.get? b = some o → h₅.get? b = some o := fun b o q q2 e => up₅ b o q (b' b o (Nat.ne_of_lt q2) (upH b o e))
            refine wpAny_execs_nil (wpAny_execs_nil (hK₃ .next _ ⟨⟨h₅, _, _, rs', c', E₂, ord + 1, _, S', _, e1', rfl, ns₅, eD₇, rfl, rfl, ehr, up₅ _ _ (Nat.ne_of_gt hLD) gD', ?_, by rw [hE₂, hE₇], h1', hv1, hS', up₅' _ _ hcL hcD gc₁, fun b o q1 q2 e => up₅' b o q1 (Nat.lt_of_lt_of_le (Heap.lt_size e) hDs) (kp₁ b o q1 q2 e)⟩, fun b hb o e => up₅' b o (fpL b hb).1 (fpL b hb).2 (up₁ b o (fpL b hb).1 e)⟩))
            rw [show min n vs.length + (i + 1) = n + i + 1 from by exact om73q _ _ _ hin]
            exact B₂.keep fun b o hb e => up₅ b o (Nat.ne_of_gt (Nat.lt_trans hLD hb)) e
          · have hlt' : ltB false ys (n + i) e0.i = false := decide_eq_false hlt
            rw [decide_eq_false (by rw [hdec]; exact hlt), if_neg (by decide)]
            refine wpAny_execs_nil (wpAny_execs_nil (hK₃ .next _ ⟨⟨h₁, _, _, rs, c, E', ord, tord, S0, tS, e0, rfl, ns₁, eD₇, etop, eord, ehr, gD₁, ?_, hE₇, he0, hv0, hS0, gc₁, kp₁⟩, fun b hb o e => up₁ b o (fpL b hb).1 e⟩))
            rw [show min n vs.length + (i + 1) = n + i + 1 from by exact om73q _ _ _ hin]
            exact B₁.skip he0 hv0 hlt'
        · rintro s' ⟨h, tk, m, rs, c, E', ord, tord, S0, tS, e0, rfl, ns₇, eD₇, etop, eord, ehr, gD₇, B₇, hE₇, he0, hv0, hS0, gc₇, kp₇⟩ h' tk' hkp
          have up : ∀ b o, b ≠ I → h.get? b = some o → h'.get? b = some o := fun b o q e => hkp b o (by simpa using q) e
          rw [show min n vs.length + (vs.length - n) = vs.length from by exact om74q _ _] at B₇
          refine hKK .next _ ?_
          refine ⟨h', tk', m, rs, c, E', ord, rfl, ns₇.at' fun o e => up _ o hIL.symm e, eD₇, up _ _ (Nat.ne_of_gt hID) gD₇, B₇.keep fun b o hb e => up b o (Nat.ne_of_gt (Nat.lt_trans hID hb)) e, hE₇, fun b o q1 q2 e => up b o ?_ (kp₇ b o q1 q2 e)⟩
          exact (kp b o q1 q2 e).2
        · refine ⟨h₆, _, _, rs₃, c₃, E₃, _, _, S0, _, e0, rfl, ns₆, eD, rfl, rfl, rfl, up₆ _ _ (Nat.ne_of_gt hLD) gD₃, B₃.keep fun b o hb e => up₆ b o (Nat.ne_of_gt (Nat.lt_trans hLD hb)) e, hE₃, h0, hv0, hS0, up₆' _ _ hcL (Nat.ne_of_lt hcD) gc₂, fun b o q1 q2 e => up₆ b o q1 (kp₃ b o q1 q2 e)⟩
    · refine wpAny_abs fun K₁ hK₁ => ?_
      refine ACompZ (cl := [(Str.ofString "key", L + 1)]) rfl rfl (by decide) rfl (by decide) rfl rfl ?_
      refine wpAny_abs fun KK hKK => ?_
      refine Call_ (nm_B C S' (by k_is) boot_zip' (by decide) (cwt (sm (Call_ (nm_B C S' (by k_is) boot_range (by decide) (cwt (sm (nm_L ns' e1' (spliced_none (call_range_1 ?_))))))))))
      refine sm (nm_L (ns'.push _) eI (spliced_none (zip_call (n := n) (st := 1) (vs := vs) (Heap.get?_push_size _ rfl) (small_one (by exact om75q) (by exact om76q) (by exact om15q _) (by exact om77q _ hn)) ?_ (hI.at fun o e => Heap.get?_push_of_some _ e) (hl₁'.at fun o e => Heap.get?_push_of_some _ e) hIl fun h₂ z TI TO i1 za zst k₂ z1 z2 z3 z4 => ?_)))
      · rw [rangeSize_nat]; exact om78q _
      refine hKK _ _ ?_
      clear hKK KK
      refine wpAny_abs fun KK hKK => ?_
      refine wpAny_pyIter_zip zst.1 (hKK _ _ ?_)
      clear hKK KK
      dsimp only at k₂ z1 z2 z3 z4 ⊢
      rw [Heap.size_push] at z1 z2 z3 z4
      have hI₂ : I < h₂.objs.size := by obtain ⟨_, e, _⟩ := hI; exact Heap.lt_size (k₂ _ _ (Heap.get?_push_of_some _ e))
      have up₂ : ∀ b o, h.get? b = some o → h₂.get? b = some o := fun b o e => k₂ b o (Heap.get?_push_of_some _ e)
      have sz₂ : h.objs.size < h₂.objs.size := Nat.lt_of_succ_le (Nat.le_trans z1 (Nat.le_of_lt (Heap.lt_size zst.1)))
      have hLh : L < h.objs.size := ns'.lt
      have big : ∀ b, b < h.objs.size → b ≠ I → b ∉ [z, TO, i1, I] := fun b hb hbI q => by
        simp only [List.mem_cons, List.not_mem_nil, or_false] at q
        rcases q with rfl | rfl | rfl | q
        · exact Nat.lt_irrefl _ (Nat.lt_of_lt_of_le (Nat.lt_succ_of_lt hb) z1)
        · exact Nat.lt_irrefl _ (Nat.lt_of_lt_of_le (Nat.lt_succ_of_lt hb) z3)
        · exact Nat.lt_irrefl _ (Nat.lt_of_lt_of_le (Nat.lt_succ_of_lt hb) z4)
        · exact hbI q
      have hfp : ∀ b ∈ [z, TI, TO, i1, I, l], b < h₂.objs.size := fun b hb => by
        simp only [List.mem_cons, List.not_mem_nil, or_false] at hb
        obtain ⟨a1, a2, ⟨_, _, a3⟩, a4, ⟨_, a5, _⟩, ⟨_, a6, _⟩⟩ := zst
        rcases hb with rfl | rfl | rfl | rfl | rfl | rfl
        · exact Heap.lt_size a1
        · exact Heap.lt_size a2
        · exact Heap.lt_size a3
        · exact Heap.lt_size a4
        · exact Heap.lt_size a5
        · exact Heap.lt_size a6
      have hwr : ∀ b ∈ [z, TO, i1, I], b < h₂.objs.size := fun b hb => hfp b (by simp only [List.mem_cons, List.not_mem_nil, or_false] at hb ⊢; rcases hb with q | q | q | q <;> simp [q])
      refine ⟨m', z, [z, TI, TO, i1, I, l], [z, TO, i1, I], min n vs.length, [Str.ofString "i", Str.ofString "elem"], _, _, ZEnd vs n I l, fun C j v h => C = h₂.objs.size + 1 ∧ Trip h C vs ys v j ((j : Int) * 1), ns'.at' fun o e => up₂ _ o e, rfl, Drw.zip hh za (by decide), by exact om67q _ _ hn, ?_, ?_, ?_, ?_, zst, hfp, ?_, ?_⟩
      · intro q
        simp only [List.mem_cons, List.not_mem_nil, or_false] at q
        rcases q with q | q | q | q | q | q
        · exact absurd hLh (by rw [show L = z from q]; exact Nat.not_lt.mpr (Nat.le_of_succ_le z1))
        · exact absurd hLh (by rw [show L = TI from q]; exact Nat.not_lt.mpr (Nat.le_of_succ_le z2))
        · exact absurd hLh (by rw [show L = TO from q]; exact Nat.not_lt.mpr (Nat.le_of_succ_le z3))
        · exact absurd hLh (by rw [show L = i1 from q]; exact Nat.not_lt.mpr (Nat.le_of_succ_le z4))
        · exact hIL q.symm
        · exact hlL q.symm
      · exact fun h h' hz hk => hz.frame (fun o e => hk I (by simp) o e) fun o e => hk l (by simp) o e
      · rintro C j v h h' ⟨hC, hP⟩ hk
        exact ⟨hC, hP.keep fun b o hb e => hk b o (.inr hb) (fun q => absurd (Nat.lt_trans (by rw [hC]; exact Nat.lt_succ_self _) hb) (Nat.not_lt.mpr (Nat.le_of_lt (hwr b q)))) (Nat.ne_of_gt (Nat.lt_trans (by rw [hC]; exact Nat.lt_succ_of_lt (Nat.lt_trans hLh sz₂)) hb)) e⟩
      · intro x hx'
        simp only [List.mem_cons, List.not_mem_nil, or_false] at hx'
        rcases hx' with rfl | rfl <;> rfl
      · rintro C' j bs mc s' hC hj ⟨tv, v, hv, rfl⟩ hns hm hk hsz
        obtain ⟨y, ty, rfl, hy⟩ := hi.item j v hv
        have hyx := hx y (List.mem_of_getElem? hy)
        have gcs : s'.heap.get? (L + 1) = some occ := hk _ _ (big _ (Heap.lt_size gc') hIc.symm) (up₂ _ _ gc')
        have Ss : g.StaysIn s'.heap := fun b o e => hk b o (big b (Heap.lt_size (S' b o e)) fun q => by rw [q, gI] at e; cases e) (up₂ _ _ (S' b o e))
        have hky : kyI ys j = capK y := by unfold kyI; rw [List.getD_eq_getElem?_getD, hy]; rfl
        refine wpAny_abs fun KK hKK => ?_
        refine tup3 (Call_ (nm_C rfl gcs hoc (cwK C.K (by k_is) (sm (nm_L hns (hm _ (.tail _ (.head _))) (spliced_none ⟨C.K.keeps Ss, cap_call C Ss hyx.1 hyx.2 hh (by exact om69q _ _ hroom) fun h₃ tk₃ k tk' hs₃ hk₃ => ?_⟩))))))
        have hns₃ : h₃.Ns C' mc := hns.at' fun o e => hs₃ _ o e
        refine nm_L hns₃ (hm _ (.head _)) (nm_L hns₃ (hm _ (.tail _ (.head _))) ?_)
        refine hKK _ _ ?_
        refine ⟨⟨_, _, rfl⟩, fun b o e => Heap.get?_push_of_some _ (hs₃ b o e), hC, h₃.objs.size, k, _, _, y, ty, rfl, hns₃.lt, ⟨_, Heap.get?_push_size _ rfl, rfl, _, rfl⟩, hv, hy, ?_⟩
        rw [hky]; exact hk₃
      · intro D C' h' tk' rs c hD hC gD hrl hP hz hk hns
        have up : ∀ b o, b < h.objs.size → b ≠ I → b ≠ L → h.get? b = some o → h'.get? b = some o := fun b o q1 q2 q3 e => hk b o (big b q1 q2) q3 (up₂ b o e)
        refine hK₁ .next _ ?_
        refine ⟨h', tk', _, D, rs, c, rfl, hns, e1', eI, if_pos rfl, gD, hrl, fun j v e => (hP j v e).2.low (by rw [hC, hD]; exact Nat.le_succ _), hz, up _ _ (Heap.lt_size gc') hIc.symm hcL gc', ?_, by rw [hD]; exact hI₂, fun b o q1 q2 e => up b o (Heap.lt_size (kp b o q1 q2 e).1) (kp b o q1 q2 e).2 q1 (kp b o q1 q2 e).1⟩
        rw [hD]; exact Nat.le_of_lt (Nat.lt_of_le_of_lt hszh sz₂)
  · refine wpAny_abs fun KK hKK => ?_
    rcases hsrc with ⟨rfl, rfl⟩ | ⟨rfl, hit, hal⟩
    · refine wpAny_Assign_Name (Call_ (nm_B C S (by k_is) boot_iter' (by decide) (cwb (sm (nm_L ns e2 (spliced_none (iter_list hl' (st_Z (ns.push _) fun h₂ tk₂ ns₂ k₂ hz₂ => ?_))))))))
      have up : ∀ b o, b ≠ L → s.heap.get? b = some o → h₂.get? b = some o := fun b o q e => k₂ b o q (Heap.get?_push_of_some _ e)
      have nI : ∀ {b o}, s.heap.get? b = some o → b ≠ s.heap.objs.size := fun e => Nat.ne_of_lt (Heap.lt_size e)
      refine hKK .next _ ?_
      refine ⟨h₂, _, _, s.heap.objs.size, rfl, ns₂, e1, if_pos rfl, ⟨_, k₂ _ _ (Nat.ne_of_gt hLs) (Heap.get?_push_size _ rfl), rfl, rfl⟩, up _ _ hlL hl, (nI hl).symm, ?_, up _ _ hcL gc, fun b o q _ e => ⟨up b o q e, nI e⟩, Nat.ne_of_gt hLs, (nI gc).symm, by rw [hz₂]; show _ ≤ (s.heap.push _).objs.size; rw [Heap.size_push]; exact Nat.le_succ _⟩
      cases q : g.get? s.heap.objs.size with
      | none => rfl
      | some o => exact absurd (Heap.lt_size (S _ _ q)) (Nat.lt_irrefl _)
    · refine wpAny_Assign_Name (Call_ (nm_B C S (by k_is) boot_iter' (by decide) (cwb (sm (nm_L ns e2 (spliced_none (iter_iter hit (st_Z ns fun h₂ tk₂ ns₂ k₂ hz₂ => ?_))))))))
      refine hKK .next _ ?_
      refine ⟨h₂, _, _, a, rfl, ns₂, e1, if_pos rfl, hit.at fun o e => k₂ _ o haL e, k₂ _ _ hlL hl, hal, gX a (.head _), k₂ _ _ hcL gc, fun b o q hb e => ⟨k₂ b o q e, fun q => hb (List.mem_singleton.mpr q)⟩, haL, ?_, Nat.le_of_eq hz₂.symm⟩
      rintro rfl
      obtain ⟨oi, ei, _, di⟩ := hit
      rw [gc] at ei; cases ei; rw [hoc] at di; cases di
end
end Mine
end
section
open PySem PySem.W PyProof.Rows PySem.Calls
set_option Elab.async false
set_option linter.all false
set_option maxRecDepth 100000
namespace Mine
theorem fill32 (w : World) (g : Heap) : (hd.heap_1 w.params).In g → PySem.Challenge.rw_mr0283_01.row.prog = PySem.Challenge.rw_mr0283_01.row.prog := by
  k_fill
  intro _; rfl
section
variable {prog : Program} {w : World} {A : Around} {E : Value → Shared → Prop} {s : Shared} {mg mb : Str → Option Value} {g : Heap}

set_option maxHeartbeats 4000000 in
theorem nl_heap {oc : Value} {od : Option Addr} {osl : Array (Option Value)} {name qual : Str} {params : Arguments} {body : List Stmt} {scope : Scope} {dV kV doc pm cdv ct : Value} {an : Option Addr}
    (ho : (hd.heap_1 w.params).lookup 111 = some ⟨oc, od, .func (fnOf name qual params body scope dV kV doc pm an cdv ct), osl⟩)
    {n nl : Nat} {t : Tok} {a l L : Addr} {X : List Addr} {vs : List Value} {ys : List Str} {m : Str → Option Value} {occ : Obj} {Q : Flow → Shared → Prop}
    (C : Cx w mg mb g) (S : g.StaysIn s.heap) (gX : ∀ b ∈ X, g.get? b = none) (gL : g.get? L = none)
    (ns : s.heap.Ns L m) (e1 : m (Str.ofString "n") = some (.int (n : Int) t)) (e2 : m (Str.ofString "iterable") = some (.ref a)) (gc : s.heap.get? (L + 1) = some occ) (hoc : occ.data = .cell (some (.ref 22)))
    (hsrc : (X = [] ∧ a = l) ∨ (X = [a] ∧ s.heap.IsListIter a l 0 ∧ a ≠ l)) (hl : s.heap.get? l = some (lst vs nl)) (hlL : l ≠ L) (haL : a ≠ L)
    (hi : StrsAre vs ys) (hx : ∀ y ∈ ys, (∀ c ∈ raw y, Al c = true) ∧ y.length ≤ 100)
    (hN : 2 ≤ vs.length) (hN2 : vs.length ≤ 40) (hn : n ≤ 50) (hn1 : n ≠ 1) (hh : A.handled = none) (hroom : A.depth + 4 < recursionLimit) (hu : A.units + 70 < cLine)
    (hQ : ∀ h' tk D out c, (∀ b o, b ≠ L → b ∉ X → s.heap.get? b = some o → h'.get? b = some o) → s.heap.objs.size ≤ D → h'.get? D = some (lst out c) → TopN (ltB true ys) n vs out → Q (.ret (.ref D)) { s with heap := h', toks := tk }) :
    wpAny (model prog w) A (execs (body.drop 3) (envOfC qual scope L 111 cdv)) Q E s := by
  obtain ⟨rfl, rfl, rfl, rfl⟩ := same_fn ho (by k_is)
  simp only [List.drop_succ_cons, List.drop_zero]
  have hlX : l ∉ X := by
    rcases hsrc with ⟨rfl, _⟩ | ⟨rfl, _, h⟩
    · exact fun q => by cases q
    · exact fun q => h (List.mem_singleton.mp q).symm
  have hcL : L + 1 ≠ L := Nat.succ_ne_self _
  have hls : l < s.heap.objs.size := Heap.lt_size hl
  have hLs : L < s.heap.objs.size := ns.lt
  have hL1s : L + 1 < s.heap.objs.size := Heap.lt_size gc
  have hl' : s.heap.IsList l vs.toArray := PySem.IsL.isList (n := nl) hl
  -- it = iter(iterable)
  refine execs_cut (P := fun s' => Ex4 fun h tk m I => C13 (s' = { s with heap := h, toks := tk }) (h.Ns L m) (m (Str.ofString "n") = some (.int (n : Int) t)) (m (Str.ofString "it") = some (.ref I)) (h.IsListIter I l 0) (h.get? l = some (lst vs nl)) (I ≠ l) (g.get? I = none) (h.get? (L + 1) = some occ) ((∀ b o, b ≠ L → b ∉ X → s.heap.get? b = some o → h.get? b = some o ∧ b ≠ I)) (I ≠ L) (I ≠ L + 1) (s.heap.objs.size ≤ h.objs.size)) ?_ ?_
  · rintro s' ⟨h, tk, m', I, rfl, ns', e1', eI, hI, hl₁, hIl, gI, gc', kp, hIL, hIc, hszh⟩
    have S' : g.StaysIn h := fun b o e => (kp b o (fun q => by rw [q, gL] at e; cases e) (fun q => by rw [gX b q] at e; cases e) (S b o e)).1
    have hIs : I < h.objs.size := by obtain ⟨_, e, _⟩ := hI; exact Heap.lt_size e
    have hl₁' : h.IsList l vs.toArray := PySem.IsL.isList (n := nl) hl₁
    refine execs_cut (P := fun s' => Ex6 fun h tk m D rs c => C13 (s' = { s with heap := h, toks := tk }) (h.Ns L m) (m (Str.ofString "n") = some (.int (n : Int) t)) (m (Str.ofString "it") = some (.ref I)) (m (Str.ofString "result") = some (.ref D)) (h.get? D = some (lst rs c)) (rs.length = min n vs.length) ((∀ (j : Nat) v, rs[j]? = some v → Trip h D vs ys v j ((j : Int) * (-1)))) (ZEnd vs n I l h) (h.get? (L + 1) = some occ) (s.heap.objs.size ≤ D) (I < D) ((∀ b o, b ≠ L → b ∉ X → s.heap.get? b = some o → h.get? b = some o))) ?_ ?_
    · rintro s' ⟨h₂, tk₂, m₂, D, rs, c, rfl, ns₂, e1₂, eI₂, eD, gD, hrl, hT, hz, gc₂, hDs, hID, kp₂⟩
      have gDn : g.get? D = none := by
        cases q : g.get? D with
        | none => rfl
        | some o => exact absurd (Nat.lt_of_lt_of_le (Heap.lt_size (S _ _ q)) hDs) (Nat.lt_irrefl _)
      have hLD : L < D := Nat.lt_of_lt_of_le hLs hDs
      have hcD : L + 1 < D := Nat.lt_of_lt_of_le hL1s hDs
      have hlD : l < D := Nat.lt_of_lt_of_le hls hDs
      have stay : ∀ {h' : Heap}, (∀ b o, b ≠ L → b ∉ X → s.heap.get? b = some o → h'.get? b = some o) → g.StaysIn h' := fun k b o e => k b o (fun q => by rw [q, gL] at e; cases e) (fun q => by rw [gX b q] at e; cases e) (S b o e)
      have S₂ : g.StaysIn h₂ := stay kp₂
      -- if not result
      with_reducible refine wpAny_execs_cons ?_
      refine wpAny_If (isTrue_not (isTrue_plain (nm_L ns₂ eD (truth_l gD (by omega) fun tk => ?_))))
      by_cases hn0 : n = 0
      · obtain rfl : rs = [] := List.eq_nil_of_length_eq_zero (by omega)
        simp only [List.isEmpty_nil, Bool.not_true, Bool.not_false, if_true]
        with_reducible refine wpAny_execs_cons (wpAny_Return_some ?_)
        refine nm_L ns₂ eD ?_
        refine hQ _ _ _ [] c kp₂ hDs gD ?_
        have hsp := sort_spec (sw_ltB true ys) (N := vs.length) (by omega)
        exact ⟨_, hsp.1, hsp.2, by rw [hn0]; rfl⟩
      have hne : 0 < rs.length := by omega
      rw [show (!(!rs.isEmpty)) = false from by cases rs with | nil => simp at hne | cons _ _ => rfl, if_neg (by decide)]
      refine wpAny_execs_nil ?_
      dsimp only
      -- heapify
      with_reducible refine wpAny_execs_cons ?_
      refine wpAny_Expr_any (Call_ (nm_K C S₂ (by k_is) (cwK C.K (by k_is) (sm (nm_L ns₂ eD (spliced_none ⟨C.K.keeps S₂, ?_⟩))))))
      refine heapify_call (kb := true) (kf := kfH h₂) C S₂ gD gDn (fun v hv => ?_) (ord_klt _) hh (by omega) (by omega) (by omega) fun h₃ tk₃ rs₃ c₃ b₃ gD₃ hp₃ hh₃ => ?_
      · obtain ⟨k, hk⟩ := List.getElem?_of_mem hv
        exact keyH (hT k v hk).key
      obtain ⟨E₃, B₃, hE₃⟩ := BHs.start (b := true) (st := -1) rfl hT hp₃ (n := n) (by omega) hh₃
      rw [hrl, show (n : Int) * (-1) = -(n : Int) from by omega] at B₃
      rw [hrl] at hE₃
      replace B₃ : BHs true vs ys D _ _ h₃ rs₃ E₃ := B₃.keep fun b o hb e => b₃ b o (Nat.ne_of_gt hb) e
      have ns₃ : h₃.Ns L m₂ := ns₂.at' fun o e => b₃ _ o (Nat.ne_of_lt hLD) e
      have kp₃ : ∀ b o, b ≠ L → b ∉ X → s.heap.get? b = some o → h₃.get? b = some o := fun b o q1 q2 e => b₃ b o (Nat.ne_of_lt (Nat.lt_of_lt_of_le (Heap.lt_size e) hDs)) (kp₂ b o q1 q2 e)
      have hl₃ : 0 < rs₃.length := by rw [hp₃.length_eq]; exact hne
      -- top = result[0][0]
      with_reducible refine wpAny_execs_cons ?_
      refine wpAny_Assign_Name (Subscript_ (Subscript_ (nm_L ns₃ eD (cI fun _ _ => item_l (i := 0) gD₃ hl₃ (by have := hp₃.length_eq; omega) ?_))))
      obtain ⟨e0, h0, hv0⟩ := B₃.root hl₃
      rw [← hv0]
      obtain ⟨T, S0, t1, t2, x, tx, hvT, hDT, hTup, hvx, hyx, hS0⟩ := B₃.tr e0 h0
      rw [hvT]
      refine cI fun _ _ => item_t (k := 0) hTup rfl (by omega) (st_R ns₃ fun h₄ tk₄ ns₄ k₄ => ?_)
      -- order = n
      with_reducible refine wpAny_execs_cons ?_
      refine wpAny_Assign_Name (UnaryOp_ (nm_L ns₄ e1₂ (neg_int (st_R ns₄ fun h₅ tk₅ ns₅ k₅ => ?_))))
      -- _heapreplace = _heapreplace_max
      have kp₅ : ∀ b o, b ≠ L → b ∉ X → s.heap.get? b = some o → h₅.get? b = some o := fun b o q1 q2 e => k₅ b o q1 (k₄ b o q1 (kp₃ b o q1 q2 e))
      with_reducible refine wpAny_execs_cons ?_
      refine wpAny_Assign_Name (nm_K C (stay kp₅) (by k_is) (st_R ns₅ fun h₆ tk₆ ns₆ k₆ => ?_))
      have up₆ : ∀ b o, b ≠ L → h₃.get? b = some o → h₆.get? b = some o := fun b o q e => k₆ b o q (k₅ b o q (k₄ b o q e))
      -- the loop
      with_reducible refine execs_cut (P := fun s' => Ex7 fun h tk m rs c E ord => C7 (s' = { s with heap := h, toks := tk }) (h.Ns L m) (m (Str.ofString "result") = some (.ref D)) (h.get? D = some (lst rs c)) (BHs true vs ys D vs.length ord h rs E) (E.length = min n vs.length) ((∀ b o, b ≠ L → b ∉ X → s.heap.get? b = some o → h.get? b = some o))) ?_ ?_
      · rintro s' ⟨h, tk, m, rs, c, E', ord, rfl, ns₇, eD₇, gD₇, B₇, hE₇, kp₇⟩
        have hrl₇ : rs.length = min n vs.length := by rw [B₇.len, hE₇]
        with_reducible refine wpAny_execs_cons ?_
        refine wpAny_Expr_any ?_
        refine MCk fun pl => ?_
        refine nm_L ns₇ eD₇ (gm_sort gD₇ (callWith_builtin_kwB rfl rfl (evalArgs_kw2_nil rfl (kws_cons (Constant_bool (kws_nil (lsort_call (b := true) (kb := true) (kf := kfH h) (.inr rfl) gD₇ (by omega) (by omega) B₇.key fun h₈ c₈ tk₈ b₈ gD₈ => ?_)))))))
        have hsp := srt_spec (b := true) (kf := kfH h) (rs := rs) (by omega)
        obtain ⟨E₈, pE, hzs, htop⟩ := B₇.bh.top (vs := vs) rfl hE₇ hsp.1 hsp.2 (by omega)
        rw [hzs] at gD₈
        have trs : ∀ e ∈ E₈, Trip h₈ D vs ys e.v e.i e.o := fun e he => (B₇.tr e (pE.mem_iff.mp he)).keep fun b o hb e => b₈ b o (Nat.ne_of_gt hb) e
        have ns₈ : h₈.Ns L m := ns₇.at' fun o e => b₈ _ o (Nat.ne_of_lt hLD) e
        have kp₈ : ∀ b o, b ≠ L → b ∉ X → s.heap.get? b = some o → h₈.get? b = some o := fun b o q1 q2 e => b₈ b o (Nat.ne_of_lt (Nat.lt_of_lt_of_le (Heap.lt_size e) hDs)) (kp₇ b o q1 q2 e)
        with_reducible refine wpAny_execs_cons (wpAny_Return_some ?_)
        refine LComp (cl := []) rfl (by decide) rfl (by decide) ?_
        refine wpAny_abs fun KK hKK => ?_
        refine nm_L ns₈ eD₇ (hKK _ _ ?_)
        clear hKK KK
        refine wpAny_abs fun KK hKK => ?_
        refine wpAny_pyIter_list (PySem.IsL.isList (n := c₈) gD₈) (hKK _ _ ?_)
        clear hKK KK
        dsimp only
        have hD₈ : D < h₈.objs.size := Heap.lt_size gD₈
        generalize hH : h₈.push _ = H
        have upH : ∀ b o, h₈.get? b = some o → H.get? b = some o := fun b o e => by rw [← hH]; exact Heap.get?_push_of_some _ e
        have gI' : H.IsListIter h₈.objs.size D 0 := ⟨_, by rw [← hH]; exact Heap.get?_push_size _ rfl, rfl, rfl⟩
        obtain ⟨Ts, St, Mid, W, hTs, hst⟩ := tupsU (prog := prog) (w := w) (A := A) (h0 := h₈) (zs := E₈.map Ent.v) (D := D) (I := h₈.objs.size) hh (Nat.ne_of_lt hD₈) (fun j xs => ∃ a b cc, xs = #[a, b, cc] ∧ E₈[j]?.map (fun e => vs.getD e.i .none) = some cc) (fun j v hj => by
          rw [List.getElem?_map] at hj
          obtain ⟨e, he, rfl⟩ := Option.map_eq_some_iff.mp hj
          obtain ⟨T, S1, t1, t2, x, tx, hvT, hDT, hTup, hvx, hyx, hS1⟩ := trs e (List.mem_of_getElem? he)
          refine ⟨T, _, hvT, hTup, ⟨_, _, _, rfl, ?_⟩, ?_⟩
          · rw [he]; show some (vs.getD e.i .none) = _; rw [List.getD_eq_getElem?_getD, hvx]; rfl
          · obtain ⟨o, ho, _⟩ := hTup
            exact Nat.ne_of_lt (Heap.lt_size ho))
        refine ⟨h₈.objs.size, _, [h₈.objs.size], (E₈.map Ent.v).length, [Str.ofString "k", Str.ofString "order", Str.ofString "elem"], _, St, fun C j v h => E₈[j]?.map (fun e => vs.getD e.i .none) = some v, rfl, Drw.tup3 (P := fun i a b cc => E₈[i]?.map (fun e => vs.getD e.i .none) = some cc) hh W (fun i vals h => h) (by decide) (by decide) (by decide), ?_, (fun b hb => by cases hb), (fun _ _ _ _ _ hp _ => hp), ?_, hst H gI' (PySem.IsL.isList (n := c₈) (upH _ _ gD₈)) (fun b _ o e => upH b o e), ?_, ?_, ?_⟩
        · rw [List.length_map, pE.length_eq, hE₇]; omega
        · intro x hx'
          simp only [List.mem_cons, List.not_mem_nil, or_false] at hx'
          rcases hx' with rfl | rfl | rfl <;> rfl
        · intro b hb
          rcases List.mem_cons.mp hb with rfl | hb
          · obtain ⟨_, e, _⟩ := gI'; exact Heap.lt_size e
          · rcases List.mem_cons.mp hb with rfl | hb
            · exact Heap.lt_size (upH _ _ gD₈)
            · obtain ⟨o, ho⟩ := hTs b hb; exact Heap.lt_size (upH _ _ ho)
        · rintro C' j bs mc s' hC hj ⟨a', b', cc, hcc, rfl⟩ hns hm hk hsz
          refine wpAny_abs fun KK hKK => ?_
          exact nm_L hns (hm _ (.tail _ (.tail _ (.head _)))) (hKK _ _ ⟨⟨_, _, rfl⟩, fun b o e => e, hcc⟩)
        · intro D' C' h' tk' out c' hD' hC' gD' hol hP hk
          have hout : out = E₈.map (fun e => vs.getD e.i .none) := by
            apply List.ext_getElem?
            intro j
            rw [List.getElem?_map]
            cases hj : out[j]? with
            | some v => exact (hP j v hj).symm
            | none =>
              have := List.getElem?_eq_none_iff.mp hj
              rw [hol, List.length_map] at this
              rw [List.getElem?_eq_none (by omega)]; rfl
          rw [hout] at gD'
          refine hQ h' tk' D' _ c' (fun b o q1 q2 e => hk b o (fun q => ?_) (fun q => by cases q) (upH _ _ (kp₈ b o q1 q2 e))) ?_ gD' htop
          · exact Nat.lt_irrefl _ (by have := Heap.lt_size (kp₈ b o q1 q2 e); rw [List.mem_singleton.mp q] at this; exact this)
          · rw [hD']
            have h1 : h₈.objs.size < H.objs.size := by obtain ⟨_, e, _⟩ := gI'; exact Heap.lt_size e
            exact Nat.le_of_lt (Nat.lt_of_le_of_lt hDs (Nat.lt_trans hD₈ h1))
      · refine wpAny_abs fun KK hKK => ?_
        refine wpAny_For (nm_L ns₆ eI₂ ?_)
        have up₆' : ∀ b o, b ≠ L → b ≠ D → h₂.get? b = some o → h₆.get? b = some o := fun b o q1 q2 e => up₆ b o q1 (b₃ b o q2 e)
        have hz₆ : ZEnd vs n I l h₆ := hz.frame (fun o e => up₆' _ o hIL (Nat.ne_of_lt hID) e) fun o e => up₆' _ o hlL (Nat.ne_of_lt hlD) e
        have rst : RestSt vs n I l 0 h₆ := hz₆
        have W := Walks.rest (prog := prog) (w := w) (A := A) hh I l hIl.symm vs n
        refine W.self 0 _ _ _ rst ?_
        refine for_w (E := E) W (fun i s' => Ex11 fun h tk m rs c E ord tord S0 tS e0 => C14 (s' = { s with heap := h, toks := tk }) (h.Ns L m) (m (Str.ofString "result") = some (.ref D)) (m (Str.ofString "top") = some (.str S0 tS)) (m (Str.ofString "order") = some (.int ord tord)) (m (Str.ofString "_heapreplace") = some (.ref 43)) (h.get? D = some (lst rs c)) (BHs true vs ys D (min n vs.length + i) ord h rs E) (E.length = min n vs.length) (e0 ∈ E) (e0.v = at' rs 0) (raw S0 = kyI ys e0.i) (h.get? (L + 1) = some occ) ((∀ b o, b ≠ L → b ∉ X → s.heap.get? b = some o → h.get? b = some o))) ?_ ?_ ?_ rst
        · rintro i s' hin ⟨h, tk, m, rs, c, E', ord, tord, S0, tS, e0, rfl, ns₇, eD₇, etop, eord, ehr, gD₇, B₇, hE₇, he0, hv0, hS0, gc₇, kp₇⟩ v h' tk' hv hst' hkp
          obtain ⟨y, ty, rfl, hy⟩ := hi.item (n + i) v hv
          have hyx' := hx y (List.mem_of_getElem? hy)
          have hky : kyI ys (n + i) = capK y := by unfold kyI; rw [List.getD_eq_getElem?_getD, hy]; rfl
          rw [show min n vs.length + i = n + i from by omega] at B₇
          have up₇ : ∀ b o, b ≠ I → h.get? b = some o → h'.get? b = some o := fun b o q e => hkp b o (by simpa using q) e
          refine wpAny_assign_Name (st_R (ns₇.at' fun o e => up₇ _ o hIL.symm e) fun h₈ tk₈ ns₈ k₈ => ?_)
          refine wpAny_abs fun K₃ hK₃ => ?_
          have kp₈ : ∀ b o, b ≠ L → b ∉ X → s.heap.get? b = some o → h₈.get? b = some o := fun b o q1 q2 e => k₈ b o q1 (up₇ b o (kp b o q1 q2 e).2 (kp₇ b o q1 q2 e))
          have gc₈ : h₈.get? (L + 1) = some occ := k₈ _ _ hcL (up₇ _ _ hIc.symm gc₇)
          have S₈ := stay kp₈
          -- k = key(elem)
          with_reducible refine wpAny_execs_cons ?_
          refine wpAny_Assign_Name (Call_ (nm_C rfl gc₈ hoc (cwK C.K (by k_is) (sm (nm_L ns₈ (if_pos rfl) (spliced_none ⟨C.K.keeps S₈, cap_call C S₈ hyx'.1 hyx'.2 hh (by omega) fun h₉ tk₉ k tkk hs₉ hk₉ => st_R (ns₈.at' fun o e => hs₉ _ o e) fun h₁ tk₁ ns₁ k₁ => ?_⟩))))))
          have hkk : raw k = kyI ys (n + i) := by rw [hky]; exact hk₉
          have up₁ : ∀ b o, b ≠ L → h'.get? b = some o → h₁.get? b = some o := fun b o q e => k₁ b o q (hs₉ b o (k₈ b o q e))
          have gD₁ := up₁ D _ (Nat.ne_of_gt hLD) (up₇ _ _ (Nat.ne_of_gt hID) gD₇)
          have B₁ : BHs true vs ys D (n + i) ord h₁ rs E' := B₇.keep fun b o hb e => up₁ b o (Nat.ne_of_gt (Nat.lt_trans hLD hb)) (up₇ b o (Nat.ne_of_gt (Nat.lt_trans hID hb)) e)
          have kp₁ : ∀ b o, b ≠ L → b ∉ X → s.heap.get? b = some o → h₁.get? b = some o := fun b o q1 q2 e => k₁ b o q1 (hs₉ b o (kp₈ b o q1 q2 e))
          have gc₁ : h₁.get? (L + 1) = some occ := k₁ _ _ hcL (hs₉ _ _ gc₈)
          have fpL : ∀ b ∈ [I, l], b ≠ L ∧ b < D := fun b hb => by
            simp only [List.mem_cons, List.not_mem_nil, or_false] at hb
            rcases hb with rfl | rfl
            · exact ⟨hIL, hID⟩
            · exact ⟨hlL, hlD⟩
          -- if k < top
          with_reducible refine wpAny_execs_cons ?_
          refine wpAny_If (wpAny_isTrue_Compare1 (nm_L ns₁ etop (nm_L ns₁ (if_pos rfl) (lt_str (wpAny_truthy_bool ?_)))))
          have hdec : (S0.cps.toList < k.cps.toList) = (kyI ys e0.i < kyI ys (n + i)) := by rw [show k.cps.toList = _ from hkk, show S0.cps.toList = _ from hS0]
          by_cases hlt : kyI ys e0.i < kyI ys (n + i)
          · have hlt' : ltB true ys (n + i) e0.i = true := decide_eq_true hlt
            rw [decide_eq_true (by rw [hdec]; exact hlt), if_pos rfl]
            with_reducible refine wpAny_execs_cons ?_
            refine wpAny_Expr_any (Call_ (nm_L ns₁ ehr (cwK C.K (by k_is) (sm (nm_L ns₁ eD₇ (sm (tup3 (nm_L ns₁ (if_pos rfl) (nm_L ns₁ eord (nm_L ns₁ (show _ = some _ from rfl) ?_))))))))))
            dsimp only
            generalize hH : h₁.push _ = H
            have gT : H.get? h₁.objs.size = some { cls := .type "tuple", data := .seq #[.str k tkk, .int ord tord, .str y ty] } := by rw [← hH]; exact Heap.get?_push_size _ rfl
            have upH : ∀ b o, h₁.get? b = some o → H.get? b = some o := fun b o e => by rw [← hH]; exact Heap.get?_push_of_some _ e
            have hD₁ : D < h₁.objs.size := Heap.lt_size gD₁
            have trip : Trip H D vs ys (.ref h₁.objs.size) (n + i) ord := ⟨_, k, tkk, tord, y, ty, rfl, hD₁, ⟨_, gT, rfl, _, rfl⟩, hv, hy, hkk⟩
            have BH' : BHs true vs ys D (n + i) ord H rs E' := B₁.keep fun b o _ e => upH b o e
            have SH : g.StaysIn H := stay fun b o q1 q2 e => upH b o (kp₁ b o q1 q2 e)
            have hrl₁ : rs.length = min n vs.length := by rw [BH'.len, hE₇]
            refine spliced_none ⟨C.K.keeps SH, ?_⟩
            refine replace_call (kb := true) (kf := kfH H) C SH (upH _ _ gD₁) gDn BH'.key (keyH trip.key) (ord_klt _) (by omega) (by omega) (by omega) (by omega) BH'.hp fun h₃ tk₃ rs' c' b' gD' hp' hh' => ?_
            obtain ⟨E₂, B₂, hE₂⟩ : ∃ E₂, BHs true vs ys D (n + i + 1) (ord - 1) h₃ rs' E₂ ∧ E₂.length = E'.length := BH'.repl he0 hv0 hlt' trip hp' hh' (show -ord < -(ord - 1) by omega) fun b o hb e => b' b o (Nat.ne_of_gt hb) e
            have hrl' : rs'.length = min n vs.length := by rw [B₂.len, hE₂, hE₇]
            have ns₂' : h₃.Ns L _ := (ns₁.at' fun o e => upH _ o e).at' fun o e => b' _ o (Nat.ne_of_lt hLD) e
            -- top, _order, _elem = result[0]
            with_reducible refine wpAny_execs_cons ?_
            refine Assign_Tuple (Subscript_ (nm_L ns₂' eD₇ (cI fun _ _ => item_l (i := 0) gD' (by omega) (by omega) ?_)))
            obtain ⟨e1', h1', hv1⟩ := B₂.root (by omega)
            rw [← hv1]
            obtain ⟨T', S', u1, u2, x', tx', hvT', hDT', hTup', hvx', hyx₁, hS'⟩ := B₂.tr e1' h1'
            rw [hvT']
            refine assign3 hh hTup' ns₂' fun h₄ tk₄ ns₄ k₄ => ?_
            -- order += 1
            with_reducible refine wpAny_execs_cons ?_
            refine wpAny_AugAssign_Name (wpAny_loadName_local rfl rfl ns₄ eord (cI fun _ _ => isub_int (st_R ns₄ fun h₅ tk₅ ns₅ k₅ => ?_)))
            have up₅ : ∀ b o, b ≠ L → h₃.get? b = some o → h₅.get? b = some o := fun b o q e => k₅ b o q (k₄ b o q e)
            have up₅' : ∀ b o, b ≠ L → b < D → h₁.get? b = some o → h₅.get? b = some o := fun b o q q2 e => up₅ b o q (b' b o (Nat.ne_of_lt q2) (upH b o e))
            refine wpAny_execs_nil (wpAny_execs_nil (hK₃ .next _ ⟨⟨h₅, _, _, rs', c', E₂, ord - 1, _, S', _, e1', rfl, ns₅, eD₇, rfl, rfl, ehr, up₅ _ _ (Nat.ne_of_gt hLD) gD', ?_, by rw [hE₂, hE₇], h1', hv1, hS', up₅' _ _ hcL hcD gc₁, fun b o q1 q2 e => up₅' b o q1 (Nat.lt_of_lt_of_le (Heap.lt_size e) hDs) (kp₁ b o q1 q2 e)⟩, fun b hb o e => up₅' b o (fpL b hb).1 (fpL b hb).2 (up₁ b o (fpL b hb).1 e)⟩))
            rw [show min n vs.length + (i + 1) = n + i + 1 from by omega]
            exact B₂.keep fun b o hb e => up₅ b o (Nat.ne_of_gt (Nat.lt_trans hLD hb)) e
          · have hlt' : ltB true ys (n + i) e0.i = false := decide_eq_false hlt
            rw [decide_eq_false (by rw [hdec]; exact hlt), if_neg (by decide)]
            refine wpAny_execs_nil (wpAny_execs_nil (hK₃ .next _ ⟨⟨h₁, _, _, rs, c, E', ord, tord, S0, tS, e0, rfl, ns₁, eD₇, etop, eord, ehr, gD₁, ?_, hE₇, he0, hv0, hS0, gc₁, kp₁⟩, fun b hb o e => up₁ b o (fpL b hb).1 e⟩))
            rw [show min n vs.length + (i + 1) = n + i + 1 from by omega]
            exact B₁.skip he0 hv0 hlt'
        · rintro s' ⟨h, tk, m, rs, c, E', ord, tord, S0, tS, e0, rfl, ns₇, eD₇, etop, eord, ehr, gD₇, B₇, hE₇, he0, hv0, hS0, gc₇, kp₇⟩ h' tk' hkp
          have up : ∀ b o, b ≠ I → h.get? b = some o → h'.get? b = some o := fun b o q e => hkp b o (by simpa using q) e
          rw [show min n vs.length + (vs.length - n) = vs.length from by omega] at B₇
          refine hKK .next _ ?_
          refine ⟨h', tk', m, rs, c, E', ord, rfl, ns₇.at' fun o e => up _ o hIL.symm e, eD₇, up _ _ (Nat.ne_of_gt hID) gD₇, B₇.keep fun b o hb e => up b o (Nat.ne_of_gt (Nat.lt_trans hID hb)) e, hE₇, fun b o q1 q2 e => up b o ?_ (kp₇ b o q1 q2 e)⟩
          exact (kp b o q1 q2 e).2
        · refine ⟨h₆, _, _, rs₃, c₃, E₃, _, _, S0, _, e0, rfl, ns₆, eD, rfl, rfl, rfl, up₆ _ _ (Nat.ne_of_gt hLD) gD₃, B₃.keep fun b o hb e => up₆ b o (Nat.ne_of_gt (Nat.lt_trans hLD hb)) e, hE₃, h0, hv0, hS0, up₆' _ _ hcL (Nat.ne_of_lt hcD) gc₂, fun b o q1 q2 e => up₆ b o q1 (kp₃ b o q1 q2 e)⟩
    · refine wpAny_abs fun K₁ hK₁ => ?_
      refine ACompZ (cl := [(Str.ofString "key", L + 1)]) rfl rfl (by decide) rfl (by decide) rfl rfl ?_
      refine wpAny_abs fun KK hKK => ?_
      refine Call_ (nm_B C S' (by k_is) boot_zip' (by decide) (cwt (sm (Call_ (nm_B C S' (by k_is) boot_range (by decide) (cwt (sm (cI fun _ _ => sm (UnaryOp_ (nm_L ns' e1' (neg_int (sm (UnaryOp_ (cI fun _ _ => neg_int (spliced_none (call_range_3 (by decide) ?_ (Or.inl (PyProof.noPylong_small (by omega)))))))))))))))))))
      refine sm (nm_L (ns'.push _) eI (spliced_none (zip_call (n := n) (st := -1) (vs := vs) (Heap.get?_push_size _ rfl) (small_down (by omega) (by omega) (by omega) (by omega)) ?_ (hI.at fun o e => Heap.get?_push_of_some _ e) (hl₁'.at fun o e => Heap.get?_push_of_some _ e) hIl fun h₂ z TI TO i1 za zst k₂ z1 z2 z3 z4 => ?_)))
      · rw [rangeSize_downNat]; omega
      refine hKK _ _ ?_
      clear hKK KK
      refine wpAny_abs fun KK hKK => ?_
      refine wpAny_pyIter_zip zst.1 (hKK _ _ ?_)
      clear hKK KK
      dsimp only at k₂ z1 z2 z3 z4 ⊢
      rw [Heap.size_push] at z1 z2 z3 z4
      have hI₂ : I < h₂.objs.size := by obtain ⟨_, e, _⟩ := hI; exact Heap.lt_size (k₂ _ _ (Heap.get?_push_of_some _ e))
      have up₂ : ∀ b o, h.get? b = some o → h₂.get? b = some o := fun b o e => k₂ b o (Heap.get?_push_of_some _ e)
      have sz₂ : h.objs.size < h₂.objs.size := Nat.lt_of_succ_le (Nat.le_trans z1 (Nat.le_of_lt (Heap.lt_size zst.1)))
      have hLh : L < h.objs.size := ns'.lt
      have big : ∀ b, b < h.objs.size → b ≠ I → b ∉ [z, TO, i1, I] := fun b hb hbI q => by
        simp only [List.mem_cons, List.not_mem_nil, or_false] at q
        rcases q with rfl | rfl | rfl | q
        · exact Nat.lt_irrefl _ (Nat.lt_of_lt_of_le (Nat.lt_succ_of_lt hb) z1)
        · exact Nat.lt_irrefl _ (Nat.lt_of_lt_of_le (Nat.lt_succ_of_lt hb) z3)
        · exact Nat.lt_irrefl _ (Nat.lt_of_lt_of_le (Nat.lt_succ_of_lt hb) z4)
        · exact hbI q
      have hfp : ∀ b ∈ [z, TI, TO, i1, I, l], b < h₂.objs.size := fun b hb => by
        simp only [List.mem_cons, List.not_mem_nil, or_false] at hb
        obtain ⟨a1, a2, ⟨_, _, a3⟩, a4, ⟨_, a5, _⟩, ⟨_, a6, _⟩⟩ := zst
        rcases hb with rfl | rfl | rfl | rfl | rfl | rfl
        · exact Heap.lt_size a1
        · exact Heap.lt_size a2
        · exact Heap.lt_size a3
        · exact Heap.lt_size a4
        · exact Heap.lt_size a5
        · exact Heap.lt_size a6
      have hwr : ∀ b ∈ [z, TO, i1, I], b < h₂.objs.size := fun b hb => hfp b (by simp only [List.mem_cons, List.not_mem_nil, or_false] at hb ⊢; rcases hb with q | q | q | q <;> simp [q])
      refine ⟨m', z, [z, TI, TO, i1, I, l], [z, TO, i1, I], min n vs.length, [Str.ofString "i", Str.ofString "elem"], _, _, ZEnd vs n I l, fun C j v h => C = h₂.objs.size + 1 ∧ Trip h C vs ys v j ((j : Int) * (-1)), ns'.at' fun o e => up₂ _ o e, rfl, Drw.zip hh za (by decide), by omega, ?_, ?_, ?_, ?_, zst, hfp, ?_, ?_⟩
      · intro q
        simp only [List.mem_cons, List.not_mem_nil, or_false] at q
        rcases q with q | q | q | q | q | q
        · exact absurd hLh (by rw [show L = z from q]; exact Nat.not_lt.mpr (Nat.le_of_succ_le z1))
        · exact absurd hLh (by rw [show L = TI from q]; exact Nat.not_lt.mpr (Nat.le_of_succ_le z2))
        · exact absurd hLh (by rw [show L = TO from q]; exact Nat.not_lt.mpr (Nat.le_of_succ_le z3))
        · exact absurd hLh (by rw [show L = i1 from q]; exact Nat.not_lt.mpr (Nat.le_of_succ_le z4))
        · exact hIL q.symm
        · exact hlL q.symm
      · exact fun h h' hz hk => hz.frame (fun o e => hk I (by simp) o e) fun o e => hk l (by simp) o e
      · rintro C j v h h' ⟨hC, hP⟩ hk
        exact ⟨hC, hP.keep fun b o hb e => hk b o (.inr hb) (fun q => absurd (Nat.lt_trans (by rw [hC]; exact Nat.lt_succ_self _) hb) (Nat.not_lt.mpr (Nat.le_of_lt (hwr b q)))) (Nat.ne_of_gt (Nat.lt_trans (by rw [hC]; exact Nat.lt_succ_of_lt (Nat.lt_trans hLh sz₂)) hb)) e⟩
      · intro x hx'
        simp only [List.mem_cons, List.not_mem_nil, or_false] at hx'
        rcases hx' with rfl | rfl <;> rfl
      · rintro C' j bs mc s' hC hj ⟨tv, v, hv, rfl⟩ hns hm hk hsz
        obtain ⟨y, ty, rfl, hy⟩ := hi.item j v hv
        have hyx := hx y (List.mem_of_getElem? hy)
        have gcs : s'.heap.get? (L + 1) = some occ := hk _ _ (big _ (Heap.lt_size gc') hIc.symm) (up₂ _ _ gc')
        have Ss : g.StaysIn s'.heap := fun b o e => hk b o (big b (Heap.lt_size (S' b o e)) fun q => by rw [q, gI] at e; cases e) (up₂ _ _ (S' b o e))
        have hky : kyI ys j = capK y := by unfold kyI; rw [List.getD_eq_getElem?_getD, hy]; rfl
        refine wpAny_abs fun KK hKK => ?_
        refine tup3 (Call_ (nm_C rfl gcs hoc (cwK C.K (by k_is) (sm (nm_L hns (hm _ (.tail _ (.head _))) (spliced_none ⟨C.K.keeps Ss, cap_call C Ss hyx.1 hyx.2 hh (by omega) fun h₃ tk₃ k tk' hs₃ hk₃ => ?_⟩))))))
        have hns₃ : h₃.Ns C' mc := hns.at' fun o e => hs₃ _ o e
        refine nm_L hns₃ (hm _ (.head _)) (nm_L hns₃ (hm _ (.tail _ (.head _))) ?_)
        refine hKK _ _ ?_
        refine ⟨⟨_, _, rfl⟩, fun b o e => Heap.get?_push_of_some _ (hs₃ b o e), hC, h₃.objs.size, k, _, _, y, ty, rfl, hns₃.lt, ⟨_, Heap.get?_push_size _ rfl, rfl, _, rfl⟩, hv, hy, ?_⟩
        rw [hky]; exact hk₃
      · intro D C' h' tk' rs c hD hC gD hrl hP hz hk hns
        have up : ∀ b o, b < h.objs.size → b ≠ I → b ≠ L → h.get? b = some o → h'.get? b = some o := fun b o q1 q2 q3 e => hk b o (big b q1 q2) q3 (up₂ b o e)
        refine hK₁ .next _ ?_
        refine ⟨h', tk', _, D, rs, c, rfl, hns, e1', eI, if_pos rfl, gD, hrl, fun j v e => (hP j v e).2.low (by rw [hC, hD]; exact Nat.le_succ _), hz, up _ _ (Heap.lt_size gc') hIc.symm hcL gc', ?_, by rw [hD]; exact hI₂, fun b o q1 q2 e => up b o (Heap.lt_size (kp b o q1 q2 e).1) (kp b o q1 q2 e).2 q1 (kp b o q1 q2 e).1⟩
        rw [hD]; exact Nat.le_of_lt (Nat.lt_of_le_of_lt hszh sz₂)
  · refine wpAny_abs fun KK hKK => ?_
    rcases hsrc with ⟨rfl, rfl⟩ | ⟨rfl, hit, hal⟩
    · refine wpAny_Assign_Name (Call_ (nm_B C S (by k_is) boot_iter' (by decide) (cwb (sm (nm_L ns e2 (spliced_none (iter_list hl' (st_Z (ns.push _) fun h₂ tk₂ ns₂ k₂ hz₂ => ?_))))))))
      have up : ∀ b o, b ≠ L → s.heap.get? b = some o → h₂.get? b = some o := fun b o q e => k₂ b o q (Heap.get?_push_of_some _ e)
      have nI : ∀ {b o}, s.heap.get? b = some o → b ≠ s.heap.objs.size := fun e => Nat.ne_of_lt (Heap.lt_size e)
      refine hKK .next _ ?_
      refine ⟨h₂, _, _, s.heap.objs.size, rfl, ns₂, e1, if_pos rfl, ⟨_, k₂ _ _ (Nat.ne_of_gt hLs) (Heap.get?_push_size _ rfl), rfl, rfl⟩, up _ _ hlL hl, (nI hl).symm, ?_, up _ _ hcL gc, fun b o q _ e => ⟨up b o q e, nI e⟩, Nat.ne_of_gt hLs, (nI gc).symm, by rw [hz₂]; show _ ≤ (s.heap.push _).objs.size; rw [Heap.size_push]; exact Nat.le_succ _⟩
      cases q : g.get? s.heap.objs.size with
      | none => rfl
      | some o => exact absurd (Heap.lt_size (S _ _ q)) (Nat.lt_irrefl _)
    · refine wpAny_Assign_Name (Call_ (nm_B C S (by k_is) boot_iter' (by decide) (cwb (sm (nm_L ns e2 (spliced_none (iter_iter hit (st_Z ns fun h₂ tk₂ ns₂ k₂ hz₂ => ?_))))))))
      refine hKK .next _ ?_
      refine ⟨h₂, _, _, a, rfl, ns₂, e1, if_pos rfl, hit.at fun o e => k₂ _ o haL e, k₂ _ _ hlL hl, hal, gX a (.head _), k₂ _ _ hcL gc, fun b o q hb e => ⟨k₂ b o q e, fun q => hb (List.mem_singleton.mpr q)⟩, haL, ?_, Nat.le_of_eq hz₂.symm⟩
      rintro rfl
      obtain ⟨oi, ei, _, di⟩ := hit
      rw [gc] at ei; cases ei; rw [hoc] at di; cases di
end
end Mine
end
section
open PySem PySem.W PyProof.Rows PySem.Calls
set_option Elab.async false
set_option linter.all false
set_option maxRecDepth 100000
namespace Mine
theorem fill33 (w : World) (g : Heap) : (hd.heap_1 w.params).In g → PySem.Challenge.rw_mr0283_01.row.prog = PySem.Challenge.rw_mr0283_01.row.prog := by
  k_fill
  intro _; rfl
theorem topN_one {ys : List Str} {vs : List Value} {i : Nat} {v : Value} (hv : vs[i]? = some v) (hm : FirstMin ys vs.length i) : TopN (ltB false ys) 1 vs [v] := by
  have hs := sort_spec (sw_ltB false ys) (N := vs.length) (by have := hm.1; exact om79q _ _ this)
  obtain ⟨r, hr⟩ := head_is hs.1 hs.2 hm.1 fun j hj => ⟨decide_eq_false (hm.2 j hj).1, fun h => decide_eq_true ((hm.2 j hj).2 h)⟩
  refine ⟨_, hs.1, hs.2, ?_⟩
  rw [hr]
  show [v] = [vs.getD i .none]
  rw [List.getD_eq_getElem?_getD, hv]
  rfl
section
variable {prog : Program} {w : World} {A : Around} {E : Value → Shared → Prop} {s : Shared} {mg mb : Str → Option Value} {g : Heap}

set_option maxHeartbeats 4000000 in
theorem nsmallest_call {n nl : Nat} {t : Tok} {a l : Addr} {X : List Addr} {vs : List Value} {ys : List Str} {outer : List Env} {base : Heap} {Q : Value → Shared → Prop}
    (C : Cx w mg mb g) (S : g.StaysIn s.heap) (hfr : A.frames = some outer) (hff : s.heap.FunFrames base outer) (hng : ∀ b ∈ frs outer, g.get? b = none)
    (hsrc : (X = [] ∧ a = l) ∨ (X = [a] ∧ s.heap.IsListIter a l 0 ∧ g.get? a = none ∧ a ≠ l)) (hlX : l ∉ frs outer) (hl : s.heap.get? l = some (lst vs nl)) (hi : StrsAre vs ys) (hx : ∀ y ∈ ys, (∀ c ∈ raw y, Al c = true) ∧ y.length ≤ 100)
    (hN : 2 ≤ vs.length) (hN2 : vs.length ≤ 40) (hn : n ≤ 50) (hh : A.handled = none) (hroom : A.depth + 5 < recursionLimit) (hu : A.units + 80 < cLine)
    (hQ : ∀ h' tk D out c, (∀ b o, b ∉ frs outer → b ∉ X → s.heap.get? b = some o → h'.get? b = some o) → s.heap.UpToSlots h' → s.heap.objs.size ≤ D → h'.get? D = some (lst out c) → TopN (ltB false ys) n vs out → Q (.ref D) { s with heap := h', toks := tk }) :
    wpAny (model prog w) A (call (.ref 105) [.int (n : Int) t, .ref a] [(Str.ofString "key", .ref 22)]) Q E s := by
  obtain ⟨oc', od', osl', name', qual', params', body', scope', dV', kV', doc', pm', cdv', ct', an', ho⟩ : ∃ oc od osl name qual params body scope dV kV doc pm cdv ct an, (hd.heap_1 w.params).lookup 105 = some ⟨oc, od, .func (fnOf name qual params body scope dV kV doc pm an cdv ct), osl⟩ := ⟨_, _, _, _, _, _, _, _, _, _, _, _, _, _, _, by k_is⟩
  obtain ⟨rfl, rfl, rfl, rfl⟩ := same_fn ho (by k_is)
  refine enterC X (binds := [(Str.ofString "n", .int (n : Int) t), (Str.ofString "iterable", .ref a), (Str.ofString "key", .ref 22)]) C S ?_ (by k_is) (by k_is) (by exact om80q _ _ hroom) (BindsTo.of_defaults (T := 100) rfl ((C.K.keeps S) 100 _ (by k_is)) rfl rfl rfl) ?_ ?_ rfl rfl rfl
  · intro b hb
    rcases hsrc with ⟨rfl, _⟩ | ⟨rfl, _, h, _⟩
    · cases hb
    · rw [List.mem_singleton.mp hb]; exact h
  · intro n x hx
    simp only [List.mem_cons, List.not_mem_nil, or_false] at hx
    rcases hx with rfl | rfl | rfl
    · exact .inl rfl
    · exact .inl rfl
    · exact .inr ⟨rfl, rfl⟩
  intro L h₁ tk hL C' F K₁ cells
  obtain ⟨m, F, e1, e2⟩ : ∃ m, Fr (hideAll s.heap X) L h₁ m ∧ m (Str.ofString "n") = some (.int (n : Int) t) ∧ m (Str.ofString "iterable") = some (.ref a) := ⟨_, F, rfl, rfl⟩
  obtain ⟨oc, gc, hoc⟩ : h₁.IsCell (L + 1) (some (.ref 22)) := cells (Str.ofString "key") (L + 1) rfl
  clear cells
  have ns : h₁.Ns L m := F.ns
  have hL1 : L < h₁.objs.size := ns.lt
  have gX : ∀ b ∈ X, g.get? b = none := by
    intro b hb
    rcases hsrc with ⟨rfl, _⟩ | ⟨rfl, _, h, _⟩
    · cases hb
    · rw [List.mem_singleton.mp hb]; exact h
  have gL : g.get? L = none := by
    cases q : g.get? L with
    | none => rfl
    | some o => have := Heap.lt_size (S _ _ q); rw [hL] at this; exact absurd this (Nat.lt_irrefl _)
  have XF : ∀ b o, b ∈ X → s.heap.get? b = some o → (∀ vs, o.data ≠ .fields vs) → False := by
    intro b o hb e hnf
    rcases hsrc with ⟨rfl, _⟩ | ⟨rfl, ⟨oi, ei, _, di⟩, _, _⟩
    · cases hb
    · rw [List.mem_singleton.mp hb, ei] at e
      cases e
      exact hnf _ di
  have hroom' : A.depth + 1 + 3 < recursionLimit := by exact om81q _ _ hroom
  have S₁ : g.StaysIn h₁ := fun b o e => K₁ b o (S b o e)
  with_reducible refine wpAny_execs_cons ?_
  refine wpAny_If (wpAny_isTrue_Compare1 (nm_L ns e1 (cI fun _ _ => eq_int (wpAny_truthy_bool ?_))))
  by_cases hn1 : n = 1
  · rw [show ((n : Int) == 1) = true from by rw [hn1]; rfl, if_pos rfl]
    have hlX' : l ∉ X := by
      rcases hsrc with ⟨rfl, _⟩ | ⟨rfl, _, _, h⟩
      · exact fun q => by cases q
      · exact fun q => h (List.mem_singleton.mp q).symm
    have hl₁ : h₁.get? l = some (lst vs nl) := K₁ _ _ hl
    have hl₁' : h₁.IsList l vs.toArray := PySem.IsL.isList (n := nl) hl₁
    have hcL : L + 1 ≠ L := Nat.succ_ne_self _
    refine execs_cut (P := fun s' => Ex4 fun h tk m I => C11 (s' = { s with heap := h, toks := tk }) (h.Ns L m) (m (Str.ofString "it") = some (.ref I)) (h.IsListIter I l 0) (h.IsList l vs.toArray) (I ≠ l) (g.get? I = none) (h.get? (L + 1) = some oc) ((∀ b o, b ∉ X → s.heap.get? b = some o → h.get? b = some o ∧ b ≠ I)) (I ≠ L) (I ≠ L + 1)) ?_ ?_
    · rintro s' ⟨h, tk', m', I, rfl, ns', eI, hI, hl', hIl, gI, gc', kp, hIL, hIc⟩
      have S' : g.StaysIn h := fun b o e => (kp b o (fun q => by rw [gX b q] at e; cases e) (S b o e)).1
      have hLh : L < h.objs.size := ns'.lt
      with_reducible refine wpAny_execs_cons ?_
      refine wpAny_Assign_Name (Call_ (nm_B C S' (by k_is) (by decide +kernel : bootBuiltins (Str.ofString "object") = some (.type "object")) (by decide) (callWith_type0 (object_call (st_R (ns'.push _) fun h₂ tk₂ ns₂ k₂ => ?_)))))
      have up : ∀ b o, b ≠ L → h.get? b = some o → h₂.get? b = some o := fun b o q e => k₂ b o q (Heap.get?_push_of_some _ e)
      have hlL : l ≠ L := by rw [hL]; exact Nat.ne_of_lt (Heap.lt_size hl)
      have S₂ : g.StaysIn h₂ := fun b o e => up b o (fun q => by rw [q, gL] at e; cases e) (S' b o e)
      have hI₂ : h₂.IsListIter I l 0 := hI.at fun o e => up _ o hIL e
      have hl₂ : h₂.IsList l vs.toArray := hl'.at fun o e => up _ o hlL e
      have gc₂ : h₂.get? (L + 1) = some oc := up _ _ hcL gc'
      with_reducible refine wpAny_execs_cons ?_
      refine wpAny_Assign_Name (wpAny_Call_Name_kw (nm_B C S₂ (by k_is) (by decide +kernel : bootBuiltins (Str.ofString "min") = some (.builtin "min")) (by decide) (callWith_kw (sm (nm_L ns₂ eI (spliced_none ?_))))))
      refine kws_cons (nm_L ns₂ (if_pos rfl) (kws_cons (nm_C rfl gc₂ hoc (kws_nil ?_))))
      refine min_call C S₂ hh (Nat.lt_of_le_of_lt (Nat.le_add_right _ _) hroom') hi hx gI hI₂ hl₂ hIl.symm (by exact om56q _ hN) fun i v h₃ tk₃ hv hmin k₃ => ?_
      obtain ⟨y, ty, rfl, hy⟩ := hi.item i v hv
      have ns₃ : h₃.Ns L _ := ns₂.at' fun o e => k₃ _ o hIL.symm e
      refine st_R ns₃ fun h₄ tk₄ ns₄ k₄ => ?_
      with_reducible refine wpAny_execs_cons (wpAny_Return_some ?_)
      refine IfExp_ (wpAny_isTrue_Compare1 (nm_L ns₄ (if_pos rfl) (nm_L ns₄ (v := .ref h.objs.size) rfl (show wpAny _ _ (compareOp .Is (.str y ty) (.ref h.objs.size)) _ _ _ from wpAny_pure (a := Value.bool false) (wpAny_truthy_bool ?_)))))
      rw [if_neg (by decide)]
      refine list1 (nm_L ns₄ (if_pos rfl) ?_)
      have up₄ : ∀ b o, b ∉ X → s.heap.get? b = some o → h₄.get? b = some o := fun b o hb e => by
        have hbL : b ≠ L := by rw [hL]; exact Nat.ne_of_lt (Heap.lt_size e)
        exact k₄ b o hbL (k₃ b o (kp b o hb e).2 (up b o hbL (kp b o hb e).1))
      refine hQ _ _ _ [.str y ty] 0 (fun b o _ hb e => Heap.get?_push_of_some _ (up₄ b o hb e)) ?_ ?_ (Heap.get?_push_size _ rfl) ?_
      · exact fun b o e hnf => ⟨o.slots, Heap.get?_push_of_some _ (up₄ b o (fun q => XF b o q e hnf) e)⟩
      · have := ns₄.lt
        rw [hL] at this
        exact Nat.le_of_lt this
      · rw [hn1]; exact topN_one hv hmin
    · refine wpAny_abs fun KK hKK => ?_
      rcases hsrc with ⟨rfl, rfl⟩ | ⟨rfl, hit, hga, hal⟩
      · refine wpAny_Assign_Name (Call_ (nm_B C S₁ (by k_is) (by decide +kernel : bootBuiltins (Str.ofString "iter") = some (.builtin "iter")) (by decide) (cwb (sm (nm_L ns e2 (spliced_none (iter_list hl₁' (st_R (ns.push _) fun h₂ tk₂ ns₂ k₂ => ?_))))))))
        have up : ∀ b o, b ≠ L → h₁.get? b = some o → h₂.get? b = some o := fun b o q e => k₂ b o q (Heap.get?_push_of_some _ e)
        have nI : ∀ {b o}, h₁.get? b = some o → b ≠ h₁.objs.size := fun e => Nat.ne_of_lt (Heap.lt_size e)
        have hlL : a ≠ L := by rw [hL]; exact Nat.ne_of_lt (Heap.lt_size hl)
        refine hKK .next _ ?_
        refine ⟨h₂, _, _, h₁.objs.size, rfl, ns₂, if_pos rfl, ⟨_, k₂ _ _ (Nat.ne_of_gt hL1) (Heap.get?_push_size _ rfl), rfl, rfl⟩, PySem.IsL.isList (n := nl) (up _ _ hlL hl₁), (nI hl₁).symm, ?_, up _ _ hcL gc, fun b o _ e => ⟨up b o (by rw [hL]; exact Nat.ne_of_lt (Heap.lt_size e)) (K₁ b o e), nI (K₁ b o e)⟩, Nat.ne_of_gt hL1, (nI gc).symm⟩
        cases q : g.get? h₁.objs.size with
        | none => rfl
        | some o => exact absurd (Heap.lt_size (S₁ _ _ q)) (Nat.lt_irrefl _)
      · have hit₁ : h₁.IsListIter a l 0 := hit.at fun o e => K₁ _ o e
        have has : a < s.heap.objs.size := by obtain ⟨_, e, _⟩ := hit; exact Heap.lt_size e
        have haL : a ≠ L := by rw [hL]; exact Nat.ne_of_lt has
        refine wpAny_Assign_Name (Call_ (nm_B C S₁ (by k_is) (by decide +kernel : bootBuiltins (Str.ofString "iter") = some (.builtin "iter")) (by decide) (cwb (sm (nm_L ns e2 (spliced_none (iter_iter hit₁ (st_R ns fun h₂ tk₂ ns₂ k₂ => ?_))))))))
        have hlL : l ≠ L := by rw [hL]; exact Nat.ne_of_lt (Heap.lt_size hl)
        exact hKK .next _ ⟨h₂, _, _, a, rfl, ns₂, if_pos rfl, hit₁.at fun o e => k₂ _ o haL e, PySem.IsL.isList (n := nl) (k₂ _ _ hlL hl₁), hal, hga, k₂ _ _ hcL gc, fun b o hb e => ⟨k₂ b o (by rw [hL]; exact Nat.ne_of_lt (Heap.lt_size e)) (K₁ b o e), fun q => hb (List.mem_singleton.mpr q)⟩, haL, by rw [hL]; exact Nat.ne_of_lt (Nat.lt_succ_of_lt has)⟩
  · rw [show ((n : Int) == 1) = false from by rw [beq_eq_false_iff_ne]; exact om82q _ hn1, if_neg (by decide)]
    refine wpAny_execs_nil ?_
    dsimp only
    have hlL : l ≠ L := by rw [hL]; exact Nat.ne_of_lt (Heap.lt_size hl)
    have sL : s.heap.get? L = none := Heap.get?_none_of_le (Nat.le_of_eq hL.symm)
    have haf : ∀ oi vs', s.heap.get? a = some oi → oi.data = .fields vs' → a ∉ frs outer := fun oi vs' e d q => by
      obtain ⟨_, o, ho, hnf⟩ := hff.mem q
      rw [e] at ho; cases ho; exact hnf _ d
    have frL : ∀ b ∈ frs outer, b < L := fun b q => by
      obtain ⟨_, o, ho, _⟩ := hff.mem q
      rw [hL]; exact Heap.lt_size ho
    have hlt : ∀ {b o}, s.heap.get? b = some o → b ≠ L := fun e => by rw [hL]; exact Nat.ne_of_lt (Heap.lt_size e)
    refine execs_cut (P := fun s' => Ex4 fun h tk m oc => C8 (s' = { s with heap := h, toks := tk }) (h.Ns L m) (m (Str.ofString "n") = some (.int (n : Int) t)) (m (Str.ofString "iterable") = some (.ref a)) (h.get? (L + 1) = some oc) (oc.data = .cell (some (.ref 22))) ((∀ b o, b ∉ frs outer → s.heap.get? b = some o → h.get? b = some o)) (s.heap.UpToSlots h)) ?_ ?_
    · rintro s' ⟨h, tk', m', oc₁, rfl, ns', e1', e2', gc', hoc', kp, ups⟩
      have S' : g.StaysIn h := fun b o e => kp b o (fun q => by rw [hng b q] at e; cases e) (S b o e)
      with_reducible refine wpAny_execs_cons ?_
      refine wpAny_If (wpAny_isTrue_Compare1 (nm_C rfl gc' hoc' (Constant_none (show wpAny _ _ (compareOp .Is (.ref 22) .none) _ _ _ from wpAny_pure (a := Value.bool false) (wpAny_truthy_bool ?_)))))
      rw [if_neg (by decide)]
      refine wpAny_execs_nil ?_
      dsimp only
      have hsrc' : (X = [] ∧ a = l) ∨ (X = [a] ∧ h.IsListIter a l 0 ∧ a ≠ l) := by
        rcases hsrc with q | ⟨q, hit, _, q2⟩
        · exact .inl q
        · obtain ⟨oi, ei, r, di⟩ := hit
          exact .inr ⟨q, ⟨oi, kp a oi (haf oi _ ei di) ei, r, di⟩, q2⟩
      have haL : a ≠ L := by
        rcases hsrc with ⟨_, q⟩ | ⟨_, ⟨oi, ei, _⟩, _⟩
        · rw [q]; exact hlL
        · exact hlt ei
      refine ns_heap ho C S' gX gL ns' e1' e2' gc' hoc' hsrc' (kp l _ hlX hl) hlL haL hi hx hN hN2 hn hn1 hh (show A.depth + 1 + 4 < recursionLimit by exact om83q _ _ hroom) (show A.units + 3 + 70 < cLine by exact om84q _ _ hu) fun h' tk' D out c kp' hD gD htop => ?_
      refine hQ h' tk' D out c (fun b o q1 q2 e => kp' b o (hlt e) q2 (kp b o q1 e)) (fun b o e hnf => ?_) ?_ gD htop
      · obtain ⟨sl, e'⟩ := ups b o e hnf
        exact ⟨sl, kp' b _ (hlt e) (fun q => XF b o q e hnf) e'⟩
      · rw [← hL]; exact Nat.le_of_lt (Nat.lt_of_lt_of_le ns'.lt hD)
    · refine wpAny_abs fun KK hKK => ?_
      rcases hsrc with ⟨rfl, rfl⟩ | ⟨rfl, hit, hga, hal⟩
      · have hl₁ : h₁.get? a = some (lst vs nl) := K₁ _ _ hl
        refine wpAny_Try_except (wpAny_execs_cons (wpAny_Assign_Name (Call_ (nm_B C S₁ (by k_is) boot_len (by decide) (cwb (sm (nm_L ns e2 (spliced_none (len_l hl₁ (by exact om85q _ hN2) fun te tk => st_R ns fun h₂ tk₂ ns₂ k₂ => wpAny_execs_nil ?_)))))))))
        dsimp only
        have K₂ : s.heap.StaysIn h₂ := fun b o e => k₂ b o (hlt e) (K₁ b o e)
        have S₂ : g.StaysIn h₂ := fun b o e => K₂ b o (S b o e)
        have gc₂ : h₂.get? (L + 1) = some oc := k₂ _ _ (Nat.succ_ne_self _) gc
        with_reducible refine wpAny_execs_cons ?_
        refine wpAny_If (wpAny_isTrue_Compare1 (nm_L ns₂ e1 (nm_L ns₂ (if_pos rfl) (PyProof.Rows.ge_int (wpAny_truthy_bool ?_)))))
        by_cases hge : vs.length ≤ n
        · rw [decide_eq_true (by exact om86q _ _ hge), if_pos rfl]
          with_reducible refine wpAny_execs_cons (wpAny_Return_some ?_)
          have F₂ : Fr s.heap L h₂ _ := ⟨ns₂, K₂, Nat.le_of_eq hL.symm⟩
          refine Subscript_ (wpAny_Call_Name_kw (nm_B C S₂ (by k_is) boot_sorted (by decide) (callWith_kw (sm (nm_L ns₂ e2 (spliced_none (kws_cons (nm_C rfl gc₂ hoc (kws_nil ?_)))))))))
          refine sortedK_call (b := false) (.inl ⟨rfl, rfl⟩) (C.keeps S) F₂ (K₂ _ _ hl) hi hx hN (by exact om87q _ hN2) hh (show A.depth + 1 < recursionLimit by exact om88q _ _ hroom) fun h₃ c₃ tk₃ D ks kys F₃ hDL gDn gD hks hkr => ?_
          have hkl : ks.length = vs.length := by
            have q1 := congrArg List.length hkr
            simp only [List.length_map] at q1
            have q2 := hks.len_eq
            have q3 := hi.len_eq
            exact om89q _ _ _ _ q1 q2 q3
          have htop := srt_top (b := false) (n := n) (vs := vs) hks hkr hkl (by exact om56q _ hN)
          refine sl_ns (nm_L F₃.ns e1 (slice_upto gD (by rw [htop.2]; omega) fun h₄ D' K₄ hD' gD' => ?_))
          refine hKK (.ret _) _ ?_
          exact hQ h₄ _ D' _ 0 (fun b o _ _ e => K₄ b o (F₃.keep b o e)) (fun b o e _ => ⟨o.slots, K₄ b o (F₃.keep b o e)⟩) (by rw [← hL]; exact Nat.le_of_lt (Nat.lt_of_lt_of_le F₃.ns.lt hD')) gD' htop.1
        · rw [decide_eq_false (by exact om90q _ _ hge), if_neg (by decide)]
          refine wpAny_execs_nil (wpAny_execs_nil ?_)
          exact hKK .next _ ⟨h₂, _, _, oc, rfl, ns₂, e1, e2, gc₂, hoc, fun b o _ e => K₂ b o e, fun b o e _ => ⟨o.slots, K₂ b o e⟩⟩
      · have hit₁ : h₁.IsListIter a l 0 := hit.at fun o e => K₁ _ o e
        have hB : s.heap.FunFrames (hideAll s.heap (frs outer)) outer := funFrames_hide hff fun env' he' a ha => List.mem_filterMap.mpr ⟨env', he', ha⟩
        have hBL : (hideAll s.heap (frs outer)).get? L = none := by
          cases q : (hideAll s.heap (frs outer)).get? L with
          | none => rfl
          | some o => have := of_hideAll _ q; rw [sL] at this; cases this
        refine try_len C S₁ (Around.frames_deeper hfr) (Heap.FunFrames.cons (fun q => by cases q) rfl ns hBL (hB.of_keeps fun b o e _ => ⟨o, K₁ b o e, rfl⟩)) rfl ?_ ns e2 hit₁ hh rfl rfl rfl rfl rfl rfl rfl (by k_is) (by k_is) (by k_is) rfl fun h' tk' kp ups => ?_
        · intro b hb
          rcases List.mem_cons.mp hb with rfl | hb
          · exact gL
          · exact hng b hb
        · refine hKK .next _ ?_
          refine ⟨h', tk', m, oc, rfl, ups.ns ns, e1, e2, kp _ _ (fun q => ?_) gc, hoc, fun b o hb e => kp b o (fun q => ?_) (K₁ b o e), fun b o e hnf => ups b o (K₁ b o e) hnf⟩
          · rcases List.mem_cons.mp q with q | q
            · exact Nat.succ_ne_self _ q
            · have := frL _ q; exact absurd this (Nat.not_lt.mpr (Nat.le_succ _))
          · rcases List.mem_cons.mp q with q | q
            · exact hlt e q
            · exact hb q
end
end Mine
end
section
open PySem PySem.W PyProof.Rows PySem.Calls
set_option Elab.async false
set_option linter.all false
set_option maxRecDepth 100000
namespace Mine
theorem fill34 (w : World) (g : Heap) : (hd.heap_1 w.params).In g → PySem.Challenge.rw_mr0283_01.row.prog = PySem.Challenge.rw_mr0283_01.row.prog := by
  k_fill
  intro _; rfl
theorem topN_oneM {ys : List Str} {vs : List Value} {i : Nat} {v : Value} (hv : vs[i]? = some v) (hm : FirstMax ys vs.length i) : TopN (ltB true ys) 1 vs [v] := by
  have hs := sort_spec (sw_ltB true ys) (N := vs.length) (by have := hm.1; exact om79q _ _ this)
  obtain ⟨r, hr⟩ := head_is hs.1 hs.2 hm.1 fun j hj => ⟨decide_eq_false (hm.2 j hj).1, fun h => decide_eq_true ((hm.2 j hj).2 h)⟩
  refine ⟨_, hs.1, hs.2, ?_⟩
  rw [hr]
  show [v] = [vs.getD i .none]
  rw [List.getD_eq_getElem?_getD, hv]
  rfl
section
variable {prog : Program} {w : World} {A : Around} {E : Value → Shared → Prop} {s : Shared} {mg mb : Str → Option Value} {g : Heap}

set_option maxHeartbeats 4000000 in
theorem nlargest_call {n nl : Nat} {t : Tok} {a l : Addr} {X : List Addr} {vs : List Value} {ys : List Str} {outer : List Env} {base : Heap} {Q : Value → Shared → Prop}
    (C : Cx w mg mb g) (S : g.StaysIn s.heap) (hfr : A.frames = some outer) (hff : s.heap.FunFrames base outer) (hng : ∀ b ∈ frs outer, g.get? b = none)
    (hsrc : (X = [] ∧ a = l) ∨ (X = [a] ∧ s.heap.IsListIter a l 0 ∧ g.get? a = none ∧ a ≠ l)) (hlX : l ∉ frs outer) (hl : s.heap.get? l = some (lst vs nl)) (hi : StrsAre vs ys) (hx : ∀ y ∈ ys, (∀ c ∈ raw y, Al c = true) ∧ y.length ≤ 100)
    (hN : 2 ≤ vs.length) (hN2 : vs.length ≤ 40) (hn : n ≤ 50) (hh : A.handled = none) (hroom : A.depth + 5 < recursionLimit) (hu : A.units + 80 < cLine)
    (hQ : ∀ h' tk D out c, (∀ b o, b ∉ frs outer → b ∉ X → s.heap.get? b = some o → h'.get? b = some o) → s.heap.UpToSlots h' → s.heap.objs.size ≤ D → h'.get? D = some (lst out c) → TopN (ltB true ys) n vs out → Q (.ref D) { s with heap := h', toks := tk }) :
    wpAny (model prog w) A (call (.ref 111) [.int (n : Int) t, .ref a] [(Str.ofString "key", .ref 22)]) Q E s := by
  obtain ⟨oc', od', osl', name', qual', params', body', scope', dV', kV', doc', pm', cdv', ct', an', ho⟩ : ∃ oc od osl name qual params body scope dV kV doc pm cdv ct an, (hd.heap_1 w.params).lookup 111 = some ⟨oc, od, .func (fnOf name qual params body scope dV kV doc pm an cdv ct), osl⟩ := ⟨_, _, _, _, _, _, _, _, _, _, _, _, _, _, _, by k_is⟩
  obtain ⟨rfl, rfl, rfl, rfl⟩ := same_fn ho (by k_is)
  refine enterC X (binds := [(Str.ofString "n", .int (n : Int) t), (Str.ofString "iterable", .ref a), (Str.ofString "key", .ref 22)]) C S ?_ (by k_is) (by k_is) (by exact om80q _ _ hroom) (BindsTo.of_defaults (T := 106) rfl ((C.K.keeps S) 106 _ (by k_is)) rfl rfl rfl) ?_ ?_ rfl rfl rfl
  · intro b hb
    rcases hsrc with ⟨rfl, _⟩ | ⟨rfl, _, h, _⟩
    · cases hb
    · rw [List.mem_singleton.mp hb]; exact h
  · intro n x hx
    simp only [List.mem_cons, List.not_mem_nil, or_false] at hx
    rcases hx with rfl | rfl | rfl
    · exact .inl rfl
    · exact .inl rfl
    · exact .inr ⟨rfl, rfl⟩
  intro L h₁ tk hL C' F K₁ cells
  obtain ⟨m, F, e1, e2⟩ : ∃ m, Fr (hideAll s.heap X) L h₁ m ∧ m (Str.ofString "n") = some (.int (n : Int) t) ∧ m (Str.ofString "iterable") = some (.ref a) := ⟨_, F, rfl, rfl⟩
  obtain ⟨oc, gc, hoc⟩ : h₁.IsCell (L + 1) (some (.ref 22)) := cells (Str.ofString "key") (L + 1) rfl
  clear cells
  have ns : h₁.Ns L m := F.ns
  have hL1 : L < h₁.objs.size := ns.lt
  have gX : ∀ b ∈ X, g.get? b = none := by
    intro b hb
    rcases hsrc with ⟨rfl, _⟩ | ⟨rfl, _, h, _⟩
    · cases hb
    · rw [List.mem_singleton.mp hb]; exact h
  have gL : g.get? L = none := by
    cases q : g.get? L with
    | none => rfl
    | some o => have := Heap.lt_size (S _ _ q); rw [hL] at this; exact absurd this (Nat.lt_irrefl _)
  have XF : ∀ b o, b ∈ X → s.heap.get? b = some o → (∀ vs, o.data ≠ .fields vs) → False := by
    intro b o hb e hnf
    rcases hsrc with ⟨rfl, _⟩ | ⟨rfl, ⟨oi, ei, _, di⟩, _, _⟩
    · cases hb
    · rw [List.mem_singleton.mp hb, ei] at e
      cases e
      exact hnf _ di
  have hroom' : A.depth + 1 + 3 < recursionLimit := by exact om81q _ _ hroom
  have S₁ : g.StaysIn h₁ := fun b o e => K₁ b o (S b o e)
  with_reducible refine wpAny_execs_cons ?_
  refine wpAny_If (wpAny_isTrue_Compare1 (nm_L ns e1 (cI fun _ _ => eq_int (wpAny_truthy_bool ?_))))
  by_cases hn1 : n = 1
  · rw [show ((n : Int) == 1) = true from by rw [hn1]; rfl, if_pos rfl]
    have hlX' : l ∉ X := by
      rcases hsrc with ⟨rfl, _⟩ | ⟨rfl, _, _, h⟩
      · exact fun q => by cases q
      · exact fun q => h (List.mem_singleton.mp q).symm
    have hl₁ : h₁.get? l = some (lst vs nl) := K₁ _ _ hl
    have hl₁' : h₁.IsList l vs.toArray := PySem.IsL.isList (n := nl) hl₁
    have hcL : L + 1 ≠ L := Nat.succ_ne_self _
    refine execs_cut (P := fun s' => Ex4 fun h tk m I => C11 (s' = { s with heap := h, toks := tk }) (h.Ns L m) (m (Str.ofString "it") = some (.ref I)) (h.IsListIter I l 0) (h.IsList l vs.toArray) (I ≠ l) (g.get? I = none) (h.get? (L + 1) = some oc) ((∀ b o, b ∉ X → s.heap.get? b = some o → h.get? b = some o ∧ b ≠ I)) (I ≠ L) (I ≠ L + 1)) ?_ ?_
    · rintro s' ⟨h, tk', m', I, rfl, ns', eI, hI, hl', hIl, gI, gc', kp, hIL, hIc⟩
      have S' : g.StaysIn h := fun b o e => (kp b o (fun q => by rw [gX b q] at e; cases e) (S b o e)).1
      have hLh : L < h.objs.size := ns'.lt
      with_reducible refine wpAny_execs_cons ?_
      refine wpAny_Assign_Name (Call_ (nm_B C S' (by k_is) (by decide +kernel : bootBuiltins (Str.ofString "object") = some (.type "object")) (by decide) (callWith_type0 (object_call (st_R (ns'.push _) fun h₂ tk₂ ns₂ k₂ => ?_)))))
      have up : ∀ b o, b ≠ L → h.get? b = some o → h₂.get? b = some o := fun b o q e => k₂ b o q (Heap.get?_push_of_some _ e)
      have hlL : l ≠ L := by rw [hL]; exact Nat.ne_of_lt (Heap.lt_size hl)
      have S₂ : g.StaysIn h₂ := fun b o e => up b o (fun q => by rw [q, gL] at e; cases e) (S' b o e)
      have hI₂ : h₂.IsListIter I l 0 := hI.at fun o e => up _ o hIL e
      have hl₂ : h₂.IsList l vs.toArray := hl'.at fun o e => up _ o hlL e
      have gc₂ : h₂.get? (L + 1) = some oc := up _ _ hcL gc'
      with_reducible refine wpAny_execs_cons ?_
      refine wpAny_Assign_Name (wpAny_Call_Name_kw (nm_B C S₂ (by k_is) (by decide +kernel : bootBuiltins (Str.ofString "max") = some (.builtin "max")) (by decide) (callWith_kw (sm (nm_L ns₂ eI (spliced_none ?_))))))
      refine kws_cons (nm_L ns₂ (if_pos rfl) (kws_cons (nm_C rfl gc₂ hoc (kws_nil ?_))))
      refine max_call C S₂ hh (Nat.lt_of_le_of_lt (Nat.le_add_right _ _) hroom') hi hx gI hI₂ hl₂ hIl.symm (by exact om56q _ hN) fun i v h₃ tk₃ hv hmin k₃ => ?_
      obtain ⟨y, ty, rfl, hy⟩ := hi.item i v hv
      have ns₃ : h₃.Ns L _ := ns₂.at' fun o e => k₃ _ o hIL.symm e
      refine st_R ns₃ fun h₄ tk₄ ns₄ k₄ => ?_
      with_reducible refine wpAny_execs_cons (wpAny_Return_some ?_)
      refine IfExp_ (wpAny_isTrue_Compare1 (nm_L ns₄ (if_pos rfl) (nm_L ns₄ (v := .ref h.objs.size) rfl (show wpAny _ _ (compareOp .Is (.str y ty) (.ref h.objs.size)) _ _ _ from wpAny_pure (a := Value.bool false) (wpAny_truthy_bool ?_)))))
      rw [if_neg (by decide)]
      refine list1 (nm_L ns₄ (if_pos rfl) ?_)
      have up₄ : ∀ b o, b ∉ X → s.heap.get? b = some o → h₄.get? b = some o := fun b o hb e => by
        have hbL : b ≠ L := by rw [hL]; exact Nat.ne_of_lt (Heap.lt_size e)
        exact k₄ b o hbL (k₃ b o (kp b o hb e).2 (up b o hbL (kp b o hb e).1))
      refine hQ _ _ _ [.str y ty] 0 (fun b o _ hb e => Heap.get?_push_of_some _ (up₄ b o hb e)) ?_ ?_ (Heap.get?_push_size _ rfl) ?_
      · exact fun b o e hnf => ⟨o.slots, Heap.get?_push_of_some _ (up₄ b o (fun q => XF b o q e hnf) e)⟩
      · have := ns₄.lt
        rw [hL] at this
        exact Nat.le_of_lt this
      · rw [hn1]; exact topN_oneM hv hmin
    · refine wpAny_abs fun KK hKK => ?_
      rcases hsrc with ⟨rfl, rfl⟩ | ⟨rfl, hit, hga, hal⟩
      · refine wpAny_Assign_Name (Call_ (nm_B C S₁ (by k_is) (by decide +kernel : bootBuiltins (Str.ofString "iter") = some (.builtin "iter")) (by decide) (cwb (sm (nm_L ns e2 (spliced_none (iter_list hl₁' (st_R (ns.push _) fun h₂ tk₂ ns₂ k₂ => ?_))))))))
        have up : ∀ b o, b ≠ L → h₁.get? b = some o → h₂.get? b = some o := fun b o q e => k₂ b o q (Heap.get?_push_of_some _ e)
        have nI : ∀ {b o}, h₁.get? b = some o → b ≠ h₁.objs.size := fun e => Nat.ne_of_lt (Heap.lt_size e)
        have hlL : a ≠ L := by rw [hL]; exact Nat.ne_of_lt (Heap.lt_size hl)
        refine hKK .next _ ?_
        refine ⟨h₂, _, _, h₁.objs.size, rfl, ns₂, if_pos rfl, ⟨_, k₂ _ _ (Nat.ne_of_gt hL1) (Heap.get?_push_size _ rfl), rfl, rfl⟩, PySem.IsL.isList (n := nl) (up _ _ hlL hl₁), (nI hl₁).symm, ?_, up _ _ hcL gc, fun b o _ e => ⟨up b o (by rw [hL]; exact Nat.ne_of_lt (Heap.lt_size e)) (K₁ b o e), nI (K₁ b o e)⟩, Nat.ne_of_gt hL1, (nI gc).symm⟩
        cases q : g.get? h₁.objs.size with
        | none => rfl
        | some o => exact absurd (Heap.lt_size (S₁ _ _ q)) (Nat.lt_irrefl _)
      · have hit₁ : h₁.IsListIter a l 0 := hit.at fun o e => K₁ _ o e
        have has : a < s.heap.objs.size := by obtain ⟨_, e, _⟩ := hit; exact Heap.lt_size e
        have haL : a ≠ L := by rw [hL]; exact Nat.ne_of_lt has
        refine wpAny_Assign_Name (Call_ (nm_B C S₁ (by k_is) (by decide +kernel : bootBuiltins (Str.ofString "iter") = some (.builtin "iter")) (by decide) (cwb (sm (nm_L ns e2 (spliced_none (iter_iter hit₁ (st_R ns fun h₂ tk₂ ns₂ k₂ => ?_))))))))
        have hlL : l ≠ L := by rw [hL]; exact Nat.ne_of_lt (Heap.lt_size hl)
        exact hKK .next _ ⟨h₂, _, _, a, rfl, ns₂, if_pos rfl, hit₁.at fun o e => k₂ _ o haL e, PySem.IsL.isList (n := nl) (k₂ _ _ hlL hl₁), hal, hga, k₂ _ _ hcL gc, fun b o hb e => ⟨k₂ b o (by rw [hL]; exact Nat.ne_of_lt (Heap.lt_size e)) (K₁ b o e), fun q => hb (List.mem_singleton.mpr q)⟩, haL, by rw [hL]; exact Nat.ne_of_lt (Nat.lt_succ_of_lt has)⟩
  · rw [show ((n : Int) == 1) = false from by rw [beq_eq_false_iff_ne]; exact om82q _ hn1, if_neg (by decide)]
    refine wpAny_execs_nil ?_
    dsimp only
    have hlL : l ≠ L := by rw [hL]; exact Nat.ne_of_lt (Heap.lt_size hl)
    have sL : s.heap.get? L = none := Heap.get?_none_of_le (Nat.le_of_eq hL.symm)
    have haf : ∀ oi vs', s.heap.get? a = some oi → oi.data = .fields vs' → a ∉ frs outer := fun oi vs' e d q => by
      obtain ⟨_, o, ho, hnf⟩ := hff.mem q
      rw [e] at ho; cases ho; exact hnf _ d
    have frL : ∀ b ∈ frs outer, b < L := fun b q => by
      obtain ⟨_, o, ho, _⟩ := hff.mem q
      rw [hL]; exact Heap.lt_size ho
    have hlt : ∀ {b o}, s.heap.get? b = some o → b ≠ L := fun e => by rw [hL]; exact Nat.ne_of_lt (Heap.lt_size e)
    refine execs_cut (P := fun s' => Ex4 fun h tk m oc => C8 (s' = { s with heap := h, toks := tk }) (h.Ns L m) (m (Str.ofString "n") = some (.int (n : Int) t)) (m (Str.ofString "iterable") = some (.ref a)) (h.get? (L + 1) = some oc) (oc.data = .cell (some (.ref 22))) ((∀ b o, b ∉ frs outer → s.heap.get? b = some o → h.get? b = some o)) (s.heap.UpToSlots h)) ?_ ?_
    · rintro s' ⟨h, tk', m', oc₁, rfl, ns', e1', e2', gc', hoc', kp, ups⟩
      have S' : g.StaysIn h := fun b o e => kp b o (fun q => by rw [hng b q] at e; cases e) (S b o e)
      with_reducible refine wpAny_execs_cons ?_
      refine wpAny_If (wpAny_isTrue_Compare1 (nm_C rfl gc' hoc' (Constant_none (show wpAny _ _ (compareOp .Is (.ref 22) .none) _ _ _ from wpAny_pure (a := Value.bool false) (wpAny_truthy_bool ?_)))))
      rw [if_neg (by decide)]
      refine wpAny_execs_nil ?_
      dsimp only
      have hsrc' : (X = [] ∧ a = l) ∨ (X = [a] ∧ h.IsListIter a l 0 ∧ a ≠ l) := by
        rcases hsrc with q | ⟨q, hit, _, q2⟩
        · exact .inl q
        · obtain ⟨oi, ei, r, di⟩ := hit
          exact .inr ⟨q, ⟨oi, kp a oi (haf oi _ ei di) ei, r, di⟩, q2⟩
      have haL : a ≠ L := by
        rcases hsrc with ⟨_, q⟩ | ⟨_, ⟨oi, ei, _⟩, _⟩
        · rw [q]; exact hlL
        · exact hlt ei
      refine nl_heap ho C S' gX gL ns' e1' e2' gc' hoc' hsrc' (kp l _ hlX hl) hlL haL hi hx hN hN2 hn hn1 hh (show A.depth + 1 + 4 < recursionLimit by exact om83q _ _ hroom) (show A.units + 3 + 70 < cLine by exact om84q _ _ hu) fun h' tk' D out c kp' hD gD htop => ?_
      refine hQ h' tk' D out c (fun b o q1 q2 e => kp' b o (hlt e) q2 (kp b o q1 e)) (fun b o e hnf => ?_) ?_ gD htop
      · obtain ⟨sl, e'⟩ := ups b o e hnf
        exact ⟨sl, kp' b _ (hlt e) (fun q => XF b o q e hnf) e'⟩
      · rw [← hL]; exact Nat.le_of_lt (Nat.lt_of_lt_of_le ns'.lt hD)
    · refine wpAny_abs fun KK hKK => ?_
      rcases hsrc with ⟨rfl, rfl⟩ | ⟨rfl, hit, hga, hal⟩
      · have hl₁ : h₁.get? a = some (lst vs nl) := K₁ _ _ hl
        refine wpAny_Try_except (wpAny_execs_cons (wpAny_Assign_Name (Call_ (nm_B C S₁ (by k_is) boot_len (by decide) (cwb (sm (nm_L ns e2 (spliced_none (len_l hl₁ (by exact om85q _ hN2) fun te tk => st_R ns fun h₂ tk₂ ns₂ k₂ => wpAny_execs_nil ?_)))))))))
        dsimp only
        have K₂ : s.heap.StaysIn h₂ := fun b o e => k₂ b o (hlt e) (K₁ b o e)
        have S₂ : g.StaysIn h₂ := fun b o e => K₂ b o (S b o e)
        have gc₂ : h₂.get? (L + 1) = some oc := k₂ _ _ (Nat.succ_ne_self _) gc
        with_reducible refine wpAny_execs_cons ?_
        refine wpAny_If (wpAny_isTrue_Compare1 (nm_L ns₂ e1 (nm_L ns₂ (if_pos rfl) (PyProof.Rows.ge_int (wpAny_truthy_bool ?_)))))
        by_cases hge : vs.length ≤ n
        · rw [decide_eq_true (by exact om86q _ _ hge), if_pos rfl]
          with_reducible refine wpAny_execs_cons (wpAny_Return_some ?_)
          have F₂ : Fr s.heap L h₂ _ := ⟨ns₂, K₂, Nat.le_of_eq hL.symm⟩
          refine Subscript_ (wpAny_Call_Name_kw (nm_B C S₂ (by k_is) boot_sorted (by decide) (callWith_kw (sm (nm_L ns₂ e2 (spliced_none (kws_cons (nm_C rfl gc₂ hoc (kws_cons (Constant_bool (kws_nil ?_)))))))))))
          refine sortedK_call (b := true) (.inr rfl) (C.keeps S) F₂ (K₂ _ _ hl) hi hx hN (by exact om87q _ hN2) hh (show A.depth + 1 < recursionLimit by exact om88q _ _ hroom) fun h₃ c₃ tk₃ D ks kys F₃ hDL gDn gD hks hkr => ?_
          have hkl : ks.length = vs.length := by
            have q1 := congrArg List.length hkr
            simp only [List.length_map] at q1
            have q2 := hks.len_eq
            have q3 := hi.len_eq
            exact om89q _ _ _ _ q1 q2 q3
          have htop := srt_top (b := true) (n := n) (vs := vs) hks hkr hkl (by exact om56q _ hN)
          refine sl_ns (nm_L F₃.ns e1 (slice_upto gD (by rw [htop.2]; omega) fun h₄ D' K₄ hD' gD' => ?_))
          refine hKK (.ret _) _ ?_
          exact hQ h₄ _ D' _ 0 (fun b o _ _ e => K₄ b o (F₃.keep b o e)) (fun b o e _ => ⟨o.slots, K₄ b o (F₃.keep b o e)⟩) (by rw [← hL]; exact Nat.le_of_lt (Nat.lt_of_lt_of_le F₃.ns.lt hD')) gD' htop.1
        · rw [decide_eq_false (by exact om90q _ _ hge), if_neg (by decide)]
          refine wpAny_execs_nil (wpAny_execs_nil ?_)
          exact hKK .next _ ⟨h₂, _, _, oc, rfl, ns₂, e1, e2, gc₂, hoc, fun b o _ e => K₂ b o e, fun b o e _ => ⟨o.slots, K₂ b o e⟩⟩
      · have hit₁ : h₁.IsListIter a l 0 := hit.at fun o e => K₁ _ o e
        have hB : s.heap.FunFrames (hideAll s.heap (frs outer)) outer := funFrames_hide hff fun env' he' a ha => List.mem_filterMap.mpr ⟨env', he', ha⟩
        have hBL : (hideAll s.heap (frs outer)).get? L = none := by
          cases q : (hideAll s.heap (frs outer)).get? L with
          | none => rfl
          | some o => have := of_hideAll _ q; rw [sL] at this; cases this
        refine try_len C S₁ (Around.frames_deeper hfr) (Heap.FunFrames.cons (fun q => by cases q) rfl ns hBL (hB.of_keeps fun b o e _ => ⟨o, K₁ b o e, rfl⟩)) rfl ?_ ns e2 hit₁ hh rfl rfl rfl rfl rfl rfl rfl (by k_is) (by k_is) (by k_is) rfl fun h' tk' kp ups => ?_
        · intro b hb
          rcases List.mem_cons.mp hb with rfl | hb
          · exact gL
          · exact hng b hb
        · refine hKK .next _ ?_
          refine ⟨h', tk', m, oc, rfl, ups.ns ns, e1, e2, kp _ _ (fun q => ?_) gc, hoc, fun b o hb e => kp b o (fun q => ?_) (K₁ b o e), fun b o e hnf => ups b o (K₁ b o e) hnf⟩
          · rcases List.mem_cons.mp q with q | q
            · exact Nat.succ_ne_self _ q
            · have := frL _ q; exact absurd this (Nat.not_lt.mpr (Nat.le_succ _))
          · rcases List.mem_cons.mp q with q | q
            · exact hlt e q
            · exact hb q
end
end Mine
end
section
open PySem PySem.W PyProof.Rows
set_option Elab.async false
set_option linter.all false
set_option maxRecDepth 100000
namespace Mine
theorem wd_ok : ∀ (cs cur w : List Nat), (∀ c ∈ cur, sp c = false) → w ∈ wd cur cs → w ≠ [] ∧ ∀ c ∈ w, sp c = false
  | [], cur, w, h, hw => by
    unfold wd at hw
    by_cases e : cur = []
    · rw [if_pos e] at hw; cases hw
    · rw [if_neg e] at hw; rw [List.mem_singleton.mp hw]; exact ⟨e, h⟩
  | c :: r, cur, w, h, hw => by
    unfold wd at hw
    by_cases hc : sp c = true
    · rw [if_pos hc] at hw
      by_cases e : cur = []
      · rw [if_pos e] at hw; exact wd_ok r [] w (fun _ q => by cases q) hw
      · rw [if_neg e] at hw
        rcases List.mem_cons.mp hw with rfl | hw
        · exact ⟨e, h⟩
        · exact wd_ok r [] w (fun _ q => by cases q) hw
    · rw [if_neg hc] at hw
      refine wd_ok r (cur ++ [c]) w (fun d hd => ?_) hw
      rcases List.mem_append.mp hd with q | q
      · exact h d q
      · rw [List.mem_singleton.mp q]; simpa using hc
/-- what the catalogue makes of a capitalized text, sign by sign -/
def upT (c : Nat) : Nat := if c = 65 then 97 else if c = 66 then 98 else if c = 95 then 123 else c
def goT : Bool → List Nat → List Nat
  | _, [] => []
  | st, c :: r => (if st = true then upT c else c) :: goT (c == 32) r
def OkF : Bool → List Nat → Prop
  | _, [] => True
  | st, c :: r => (st = true → c = 51 ∨ c = 65 ∨ c = 66 ∨ c = 95) ∧ OkF (c == 32) r
theorem goT_lt : ∀ (x y : List Nat) (st : Bool), OkF st x → OkF st y → (goT st x < goT st y ↔ x < y)
  | [], [], st, _, _ => by simp [goT]
  | [], d :: s, st, _, _ => by simp [goT]
  | c :: r, [], st, _, _ => by simp [goT]
  | c :: r, d :: s, st, hx, hy => by
    have ih := goT_lt r s (c == 32) hx.2
    show (_ :: _ < _ :: _) ↔ _
    rw [List.cons_lt_cons_iff, List.cons_lt_cons_iff]
    have key : ((if st = true then upT c else c) < (if st = true then upT d else d) ↔ c < d) ∧ ((if st = true then upT c else c) = (if st = true then upT d else d) ↔ c = d) := by
      cases st with
      | false => simp
      | true =>
        simp only [if_true]
        rcases hx.1 rfl with rfl | rfl | rfl | rfl <;> rcases hy.1 rfl with rfl | rfl | rfl | rfl <;> decide
    rw [key.1, key.2]
    constructor
    · rintro (h | ⟨rfl, h⟩)
      · exact .inl h
      · exact .inr ⟨rfl, (ih hy.2).mp h⟩
    · rintro (h | ⟨rfl, h⟩)
      · exact .inl h
      · exact .inr ⟨rfl, (ih hy.2).mpr h⟩
theorem goT_run : ∀ (t rest : List Nat), (∀ c ∈ t, c ≠ 32) → goT false (t ++ rest) = t ++ goT false rest
  | [], rest, _ => rfl
  | c :: r, rest, h => by
    have hc : (c == 32) = false := beq_eq_false_iff_ne.mpr (h c (.head _))
    show c :: goT (c == 32) (r ++ rest) = c :: (r ++ goT false rest)
    rw [hc, goT_run r rest fun d hd => h d (.tail _ hd)]
theorem OkF_run : ∀ (t rest : List Nat), (∀ c ∈ t, c ≠ 32) → OkF false rest → OkF false (t ++ rest)
  | [], rest, _, h => h
  | c :: r, rest, h, hr => by
    have hc : (c == 32) = false := beq_eq_false_iff_ne.mpr (h c (.head _))
    refine ⟨fun q => absurd q (by decide), ?_⟩
    rw [hc]
    exact OkF_run r rest (fun d hd => h d (.tail _ hd)) hr
def GoodW' (w : List Nat) : Prop := w ≠ [] ∧ ∀ c ∈ w, sp c = false ∧ Al c = true
theorem good_sign {c : Nat} (h1 : sp c = false) (h2 : Al c = true) : low c ≠ 32 ∧ (upc (low c) = 51 ∨ upc (low c) = 65 ∨ upc (low c) = 66 ∨ upc (low c) = 95) ∧ upT (upc (low c)) = (if low c = 95 then 123 else low c) := by
  rcases al_cases h2 with rfl | rfl | rfl | rfl | rfl | rfl | rfl | rfl <;> first | (refine ⟨?_, ?_, ?_⟩ <;> decide) | cases h1
theorem cap_word {w rest : List Nat} (hw : GoodW' w) : goT true (capL w ++ rest) = toldW (w.map low) ++ goT false rest ∧ (OkF false rest → OkF true (capL w ++ rest)) := by
  obtain ⟨hne, hc⟩ := hw
  cases w with
  | nil => exact absurd rfl hne
  | cons c t =>
    obtain ⟨g1, g2, g3⟩ := good_sign (hc c (.head _)).1 (hc c (.head _)).2
    have ht : ∀ d ∈ t.map low, d ≠ 32 := fun d hd => by
      obtain ⟨e, he, rfl⟩ := List.mem_map.mp hd
      exact (good_sign (hc e (.tail _ he)).1 (hc e (.tail _ he)).2).1
    have h32 : (upc (low c) == 32) = false := by
      rcases g2 with q | q | q | q <;> rw [q] <;> rfl
    constructor
    · show upT (upc (low c)) :: goT (upc (low c) == 32) (t.map low ++ rest) = toldW (low c :: t.map low) ++ _
      rw [h32, goT_run _ _ ht, g3, toldW_cons]
      split <;> rfl
    · intro hr
      refine ⟨fun _ => g2, ?_⟩
      show OkF (upc (low c) == 32) (t.map low ++ rest)
      rw [h32]
      exact OkF_run _ _ ht hr
theorem cap_all : ∀ (ws : List (List Nat)), (∀ w ∈ ws, GoodW' w) → goT true (joinL (ws.map capL)) = joinL ((ws.map (List.map low)).map toldW) ∧ OkF true (joinL (ws.map capL))
  | [], _ => ⟨rfl, trivial⟩
  | [w], h => by
    have := cap_word (rest := []) (h w (.head _))
    rw [List.append_nil] at this
    refine ⟨?_, this.2 trivial⟩
    show goT true (capL w) = toldW (w.map low)
    rw [this.1]
    exact List.append_nil _
  | w :: v :: r, h => by
    have ih := cap_all (v :: r) fun u hu => h u (.tail _ hu)
    have := cap_word (rest := 32 :: joinL ((v :: r).map capL)) (h w (.head _))
    refine ⟨?_, this.2 ⟨fun q => absurd q (by decide), ih.2⟩⟩
    show goT true (capL w ++ 32 :: joinL ((v :: r).map capL)) = toldW (w.map low) ++ 32 :: joinL (((v :: r).map (List.map low)).map toldW)
    rw [this.1, ← ih.1]
    rfl
/-- the texts of a name -/
def toldK (x : Str) : List Nat := joinL ((wd [] ((raw x).map low)).map toldW)
def wrK (x : Str) : List Nat := joinL ((wd [] ((raw x).map low)).map wrW)
theorem wd_good {r : List Nat} (h : ∀ c ∈ r, Al c = true) : ∀ w ∈ wd [] r, GoodW' w := fun w hw =>
  ⟨(wd_ok r [] w (fun _ q => by cases q) hw).1, fun c hc => ⟨(wd_ok r [] w (fun _ q => by cases q) hw).2 c hc, h c (by simpa using (wd_mem r [] w hw).1 c hc)⟩⟩
theorem toldK_go {x : Str} (h : ∀ c ∈ raw x, Al c = true) : toldK x = goT true (capK x) ∧ OkF true (capK x) := by
  have := cap_all (wd [] (raw x)) (wd_good h)
  refine ⟨?_, this.2⟩
  unfold toldK capK
  rw [this.1, show wd [] ((raw x).map low) = (wd [] (raw x)).map (List.map low) from wd_low (raw x) []]
theorem told_lt {x y : Str} (hx : ∀ c ∈ raw x, Al c = true) (hy : ∀ c ∈ raw y, Al c = true) : toldK x < toldK y ↔ capK x < capK y := by
  rw [(toldK_go hx).1, (toldK_go hy).1]
  exact goT_lt _ _ _ (toldK_go hx).2 (toldK_go hy).2
theorem told_eq {x y : Str} (hx : ∀ c ∈ raw x, Al c = true) (hy : ∀ c ∈ raw y, Al c = true) : toldK x = toldK y ↔ capK x = capK y := by
  constructor
  · intro e
    rcases List.lt_tri (capK x) (capK y) with h | h | h
    · have := (told_lt hx hy).mpr h; rw [e] at this; exact absurd this (List.lt_irrefl _)
    · exact h
    · have := (told_lt hy hx).mpr h; rw [e] at this; exact absurd this (List.lt_irrefl _)
  · intro e
    rw [(toldK_go hx).1, (toldK_go hy).1, e]
theorem wrW_low (w : List Nat) : wrW (w.map low) = capL w := by
  cases w with
  | nil => rfl
  | cons c t => rfl
theorem wr_cap (x : Str) : wrK x = capK x := by
  unfold wrK capK
  rw [show wd [] ((raw x).map low) = (wd [] (raw x)).map (List.map low) from wd_low (raw x) [], List.map_map]
  congr 1
  apply List.map_congr_left
  intro w _
  exact wrW_low w
end Mine
end
section
open PySem PySem.W PyProof.Rows
set_option Elab.async false
set_option linter.all false
set_option maxRecDepth 100000
namespace Mine
/-- the order of places -/
abbrev RR (ys : List Str) (i j : Nat) : Prop := lt2 (klI ys) i j
theorem RR.irr {ys : List Str} {i : Nat} (h : RR ys i i) : False := lt2_asy (sw_klI ys) h h
theorem key2_lt {ys : List Str} {i j : Nat} : (⟨kyI ys i, (i : Int), []⟩ : Key).lt ⟨kyI ys j, (j : Int), []⟩ = true ↔ RR ys i j := by
  rw [Key.lt_iff]
  unfold RR lt2 klI
  rw [decide_eq_true_eq, decide_eq_false_iff_not]
  have tri := List.lt_tri (kyI ys i) (kyI ys j)
  constructor
  · rintro (h | ⟨h, q⟩)
    · exact .inl h
    · refine .inr ⟨by simp only at h; rw [h]; exact List.lt_irrefl _, ?_⟩
      rcases q with q | ⟨_, q⟩
      · simp only at q; exact om421q _ _ q
      · exact absurd q (List.lt_irrefl _)
  · rintro (h | ⟨h, q⟩)
    · exact .inl h
    · rcases tri with t | t | t
      · exact .inl t
      · exact .inr ⟨t, .inl (by simp only; exact om142q _ _ q)⟩
      · exact absurd t h
theorem pw_nodup {ys : List Str} {J : List Nat} (h : J.Pairwise (RR ys)) : J.Nodup := h.imp fun {a b} r e => by subst e; exact RR.irr r
structure LV (ys : List Str) (N : Nat) (kf : Value → Key) (pv tv : Nat → Value) : Prop where
  p : ∀ i, i < N → kf (pv i) = ⟨kyI ys i, (i : Int), []⟩
  t : ∀ i, i < N → kf (tv i) = ⟨toldK (ys.getD i ⟨#[]⟩), (i : Int), []⟩
  x : ∀ i, i < N → ∀ c ∈ raw (ys.getD i ⟨#[]⟩), Al c = true
section
variable {ys : List Str} {N : Nat} {kf : Value → Key} {pv tv : Nat → Value}
theorem LV.pl (V : LV ys N kf pv tv) {i j : Nat} (hi : i < N) (hj : j < N) : klt kf (pv i) (pv j) = true ↔ RR ys i j := by
  unfold klt
  rw [V.p i hi, V.p j hj]; exact key2_lt
theorem LV.tl (V : LV ys N kf pv tv) {i j : Nat} (hi : i < N) (hj : j < N) : klt kf (tv i) (tv j) = true ↔ RR ys i j := by
  rw [← key2_lt]
  unfold klt
  rw [V.t i hi, V.t j hj, Key.lt_iff, Key.lt_iff]
  simp only
  rw [told_lt (V.x i hi) (V.x j hj), told_eq (V.x i hi) (V.x j hj)]
  rfl
/-- sorted() of told things -/
theorem LV.sort (V : LV ys N kf pv tv) {K : List Nat} (hK : K.Nodup) (hN : ∀ i ∈ K, i < N) (h1 : 1 ≤ K.length) : ∃ J : List Nat, srt false (klt kf) (K.map tv) (K.map tv) = J.map tv ∧ J.Perm K ∧ J.Pairwise (RR ys) := by
  have hs := srt_spec (b := false) (kf := kf) (rs := K.map tv) (by simpa using h1)
  obtain ⟨J, pJ, eJ⟩ := perm_map hs.1
  refine ⟨J, eJ, pJ, ?_⟩
  have h2 := hs.2
  rw [eJ, List.pairwise_map] at h2
  have nd : J.Nodup := pJ.nodup_iff.mpr hK
  refine (h2.and nd).imp_of_mem fun {a b} ha hb h => ?_
  rcases lt2_tri (lt := klI ys) a b h.2 with q | q
  · exact q
  · have := (V.tl (hN b (pJ.mem_iff.mp hb)) (hN a (pJ.mem_iff.mp ha))).mpr q
    have h3 : klt kf (tv b) (tv a) = false := h.1
    rw [h3] at this; cases this
/-- the heap's root is the line's head -/
theorem LV.root (V : LV ys N kf pv tv) {ps : List Value} {i0 : Nat} {J : List Nat} (hp : ps.Perm ((i0 :: J).map pv)) (hh : HP (klt kf) 0 ps) (hJ : (i0 :: J).Pairwise (RR ys)) (hN : ∀ i ∈ i0 :: J, i < N) : ∃ pt, ps = pv i0 :: pt ∧ pt.Perm (J.map pv) := by
  have hl : 0 < ps.length := by rw [hp.length_eq]; simp
  obtain ⟨r, pt, rfl⟩ : ∃ r pt, ps = r :: pt := by
    cases ps with
    | nil => simp at hl
    | cons a b => exact ⟨a, b, rfl⟩
  obtain ⟨k, hk, e⟩ := List.mem_map.mp (hp.mem_iff.mp (.head _))
  have hmem : pv i0 ∈ r :: pt := hp.mem_iff.mpr (by simp)
  obtain ⟨q, hq, hq'⟩ := List.mem_iff_getElem.mp hmem
  have hle := HP.least (ord_klt kf) hh q hq
  rw [at_eq hq, hq'] at hle
  have hle' : klt kf (pv i0) (pv k) = false := by rw [e]; exact hle
  have hk0 : k = i0 := by
    rcases List.mem_cons.mp hk with e' | h
    · exact e'
    · have := (V.pl (hN i0 (.head _)) (hN k hk)).mpr ((List.pairwise_cons.mp hJ).1 k h)
      rw [hle'] at this; cases this
  rw [hk0] at e
  subst e
  rw [List.map_cons] at hp
  exact ⟨pt, rfl, hp.cons_inv⟩
theorem head_least {K : List Nat} {k0 i0 : Nat} (hK : (k0 :: K).Pairwise (RR ys)) (hm : i0 ∈ k0 :: K) (hl : ∀ i ∈ k0 :: K, i ≠ i0 → RR ys i0 i) : k0 = i0 := by
  by_cases h : k0 = i0
  · exact h
  · have h1 := hl k0 (.head _) h
    rcases List.mem_cons.mp hm with q | q
    · exact absurd q.symm h
    · exact (lt2_asy (sw_klI ys) ((List.pairwise_cons.mp hK).1 i0 q) h1).elim
/-- heappushpop -/
theorem LV.pushpop (V : LV ys N kf pv tv) {ps ps' : List Value} {i0 p k0 : Nat} {J K : List Nat} {r : Value} (hp : ps.Perm ((i0 :: J).map pv)) (hh : HP (klt kf) 0 ps) (hJ : (i0 :: J).Pairwise (RR ys)) (hN : ∀ i ∈ i0 :: J, i < N) (hpN : p < N) (hpJ : p ∉ i0 :: J)
    (hK : (k0 :: K).Perm ((i0 :: J) ++ [p])) (hKp : (k0 :: K).Pairwise (RR ys))
    (hr : (klt kf (at' ps 0) (pv p) = true ∧ r = at' ps 0 ∧ ps'.Perm (ps.set 0 (pv p))) ∨ (klt kf (at' ps 0) (pv p) = false ∧ r = pv p ∧ ps' = ps)) :
    r = pv k0 ∧ ps'.Perm (K.map pv) := by
  obtain ⟨pt, rfl, hpt⟩ := V.root hp hh hJ hN
  have mem : ∀ i ∈ k0 :: K, i ∈ i0 :: J ∨ i = p := fun i hi => by
    rcases List.mem_append.mp (hK.mem_iff.mp hi) with q | q
    · exact .inl q
    · exact .inr (List.mem_singleton.mp q)
  rcases hr with ⟨h1, rfl, h3⟩ | ⟨h1, rfl, rfl⟩
  · have h1' : RR ys i0 p := (V.pl (hN i0 (.head _)) hpN).mp h1
    have e : k0 = i0 := head_least hKp (hK.mem_iff.mpr (by simp)) fun i hi hne => by
      rcases mem i hi with q | rfl
      · rcases List.mem_cons.mp q with q | q
        · exact absurd q hne
        · exact (List.pairwise_cons.mp hJ).1 i q
      · exact h1'
    subst e
    refine ⟨rfl, h3.trans ?_⟩
    have hK' : K.Perm (J ++ [p]) := hK.cons_inv
    show (pv p :: pt).Perm _
    refine (hpt.cons (pv p)).trans ?_
    rw [← List.map_cons]
    exact ((List.perm_append_singleton p J).symm.trans hK'.symm).map pv
  · have h1' : ¬ RR ys i0 p := fun q => by
      have := (V.pl (hN i0 (.head _)) hpN).mpr q
      have h2 : klt kf (pv i0) (pv p) = false := h1
      rw [h2] at this; cases this
    have hne : p ≠ i0 := fun q => hpJ (by rw [q]; exact .head _)
    have hR : RR ys p i0 := (lt2_tri (lt := klI ys) p i0 hne).resolve_right h1'
    have tr : ∀ i ∈ J, RR ys p i := fun i hi => by
      have hi0 := (List.pairwise_cons.mp hJ).1 i hi
      have hne' : p ≠ i := fun q => hpJ (by rw [q]; exact .tail _ hi)
      rcases lt2_tri (lt := klI ys) p i hne' with q | q
      · exact q
      · exfalso
        -- i < p < i0 < i
        have k1 := key2_lt.mpr q
        have k2 := key2_lt.mpr hR
        have k3 := key2_lt.mpr hi0
        have := Key.tr (Key.tr k1 k2) k3
        rw [Key.irr] at this; cases this
    have e : k0 = p := head_least hKp (hK.mem_iff.mpr (by simp)) fun i hi hne' => by
      rcases mem i hi with q | q
      · rcases List.mem_cons.mp q with q | q
        · rw [q]; exact hR
        · exact tr i q
      · exact absurd q hne'
    subst e
    refine ⟨rfl, hp.trans ?_⟩
    have : (k0 :: K).Perm (k0 :: (i0 :: J)) := hK.trans (List.perm_append_singleton k0 (i0 :: J))
    exact (this.cons_inv).symm.map pv
end
end Mine
end
section
open PySem PySem.W PyProof.Rows PySem.Calls
set_option Elab.async false
set_option linter.all false
set_option maxRecDepth 100000
namespace Mine
section
variable {prog : Program} {w : World} {A : Around} {E : Value → Shared → Prop} {s : Shared}
theorem app_R {l : Addr} {vs : List Value} {n : Nat} {v : Value} {Q : Value → Shared → Prop} (hl : s.heap.get? l = some (lst vs n)) (hsz : vs.length < 1000)
    (h : ∀ h', But l s.heap h' → h'.get? l = some (lst (vs ++ [v]) (n + 1)) → Q .none { s with heap := h' }) :
    wpAny (model prog w) A (call (.builtin "list.append") [.ref l, v]) Q E s := by
  refine append_at (its := vs.toArray) (n := n) hl (fun h' hs ho => h h' (fun b o q e => hs.extBut b o q e) ?_) (by rw [sizeLine_eq, List.size_toArray]; exact om91q _ hsz)
  rw [ho, List.push_toArray]
theorem gm_app {D : Addr} {vs : List Value} {c : Nat} {pl : Sem Bool} {Q : Value × List Value → Shared → Prop} (hD : s.heap.get? D = some (lst vs c)) (h : Q (.builtin "list.append", [.ref D]) s) : wpAny (model prog w) A (getMethod (.ref D) (Str.ofString "append") pl) Q E s :=
  getMethod_builtin ⟨_, hD, rfl⟩ PySem.F.plainAttrs_list PySem.F.slot_list_append PySem.F.type_list_append (fun a e => by cases e; exact ⟨_, hD, rfl⟩) h
theorem add_R {l b : Addr} {vs ws : List Value} {c d : Nat} {Q : Value → Shared → Prop} (hl : s.heap.get? l = some (lst vs c)) (hb : s.heap.get? b = some (lst ws d)) (hsz : vs.length + ws.length < 1000)
    (h : Q (.ref s.heap.objs.size) { s with heap := s.heap.push (lst (vs ++ ws) 0) }) : wpAny (model prog w) A (binaryOp .Add (.ref l) (.ref b)) Q E s := by
  refine PySem.P.add_list (items := vs.toArray) (items2 := ws.toArray) (n := c) (n2 := d) hl hb ?_ (by rw [sizeLine_eq, List.size_toArray, List.size_toArray]; exact om139q _ _ hsz)
  have e : (vs ++ ws).toArray = vs.toArray ++ ws.toArray := by simp
  have e2 : lst (vs ++ ws) 0 = { cls := .type "list", data := .seq (vs.toArray ++ ws.toArray) } := by show PySem.W.listOf (vs ++ ws).toArray 0 = _; rw [e]
  rw [← e2]; exact h
theorem list0 {env : Env} {pos : Pos} {Q : Value → Shared → Prop} (h : Q (.ref s.heap.objs.size) { s with heap := s.heap.push (lst [] 0) }) : wpAny (model prog w) A (eval (.List [] pos) env) Q E s :=
  wpAny_List_spliced (spliced_none ⟨by rw [sizeLine_eq]; simp, h⟩)
theorem ne_list {l b : Addr} {vs ws : List Value} {c d : Nat} {Q : Value → Shared → Prop} (hl : s.heap.get? l = some (lst vs c)) (hb : s.heap.get? b = some (lst ws d)) (hsz : vs.length = ws.length) (hu : A.units < cLine)
    (he : ∀ (j : Nat) u v, vs[j]? = some u → ws[j]? = some v → SeqAt.EqAt A.in1 s u v true) (h : Q (.bool false) s) : wpAny (model prog w) A (compareOp .NotEq (.ref l) (.ref b)) Q E s := by
  have hL : s.heap.IsList l vs.toArray := PySem.IsL.isList (n := c) hl
  have hB : s.heap.IsList b ws.toArray := PySem.IsL.isList (n := d) hb
  refine SeqAt.RcNeAt.lists (e := fun _ => true) hL hB (by simpa using hsz) hu (fun j h1 h2 => he j _ _ (by simp at h1; simp [h1]) (by simp at h2; simp [h2])) prog w E Q ?_
  have : (!(List.range vs.toArray.size).all fun _ => true) = false := by simp
  rw [this]; exact h
theorem eq_list {l b : Addr} {vs ws : List Value} {c d : Nat} {Q : Value → Shared → Prop} (hl : s.heap.get? l = some (lst vs c)) (hb : s.heap.get? b = some (lst ws d)) (hsz : vs.length = ws.length) (hu : A.units < cLine)
    (he : ∀ (j : Nat) u v, vs[j]? = some u → ws[j]? = some v → SeqAt.EqAt A.in1 s u v true) (h : Q (.bool true) s) : wpAny (model prog w) A (compareOp .Eq (.ref l) (.ref b)) Q E s := by
  have hL : s.heap.IsList l vs.toArray := PySem.IsL.isList (n := c) hl
  have hB : s.heap.IsList b ws.toArray := PySem.IsL.isList (n := d) hb
  refine SeqAt.RcAt.lists (e := fun _ => true) hL hB (by simpa using hsz) hu (fun j h1 h2 => he j _ _ (by simp at h1; simp [h1]) (by simp at h2; simp [h2])) prog w E Q ?_
  have : ((List.range vs.toArray.size).all fun _ => true) = true := by simp
  rw [this]; exact h
theorem st_C {M : Model} {env : Env} {x : Str} {c : Addr} {o : Obj} {v₀ : Option Value} {v : Value} {Q : Unit → Shared → Prop} (hc : env.cells.lookup x = some c) (ho : s.heap.get? c = some o) (hd : o.data = .cell v₀)
    (h : ∀ h' o', h'.get? c = some o' → o'.data = .cell (some v) → (∀ b o, b ≠ c → s.heap.get? b = some o → h'.get? b = some o) → h'.objs.size = s.heap.objs.size → Q () { s with heap := h' }) (hk : env.scope.kind = .function := by rfl) (hx : env.kindOf x = some .cell := by rfl) : wpAny M A (storeName env x v) Q E s :=
  wpAny_storeName_cell hk hx hc ⟨o, ho, hd⟩ fun h' ⟨o', ho', hd'⟩ hs => h h' o' ho' hd' (fun b o q e => hs.extBut b o q e) hs.1
end
/-- what the law has laid when pairs stands -/
structure LawD (G : Heap) (L aN aR aT aP aC : Addr) (vs : List Value) (ys : List Str) (rws tvs pvs cvs : List Value) (cs : List Int) : Prop where
  n5 : 5 ≤ vs.length
  n11 : vs.length ≤ 11
  hst : StrsAre vs ys
  hx : ∀ y ∈ ys, (∀ c ∈ raw y, Al c = true) ∧ y.length ≤ 100
  h50 : ∀ y ∈ ys, y.length ≤ 50
  gN : ∃ c, G.get? aN = some (lst vs c)
  cN : ∃ o, G.get? (L + 1) = some o ∧ o.data = .cell (some (.ref aN))
  cR : ∃ o, G.get? (L + 2) = some o ∧ o.data = .cell (some (.ref aR))
  gR : ∃ c, G.get? aR = some (lst rws c)
  rl : rws.length = vs.length
  rwk : ∀ (i : Nat) v, rws[i]? = some v → ∃ a ws zs c, v = .ref a ∧ G.get? a = some (lst ws c) ∧ StrsAre ws zs ∧ zs.map raw = wd [] ((raw (ys.getD i ⟨#[]⟩)).map low)
  gT : ∃ c, G.get? aT = some (lst tvs c)
  tl : tvs.length = vs.length
  tk : ∀ i, i < vs.length → KeyAt false G (tvs.getD i .none) ⟨toldK (ys.getD i ⟨#[]⟩), (i : Int), []⟩
  gP : ∃ c, G.get? aP = some (lst pvs c)
  pl : pvs.length = vs.length
  pk : ∀ i, i < vs.length → KeyAt false G (pvs.getD i .none) ⟨kyI ys i, (i : Int), []⟩
  gC : ∃ c, G.get? aC = some (lst cvs c)
  ci : IntsAre cvs cs
  cl : ∀ i, 5 ≤ i → i < vs.length → i - 4 < cs.length
  cb : cs.length ≤ 7
  c0 : ∀ c ∈ cs, 0 ≤ c ∧ c < 1000000
  gL : G.get? L = none
section
variable {G : Heap} {L aN aR aT aP aC : Addr} {vs : List Value} {ys : List Str} {rws tvs pvs cvs : List Value} {cs : List Int}
theorem LawD.yl (D : LawD G L aN aR aT aP aC vs ys rws tvs pvs cvs cs) : vs.length = ys.length := D.hst.len_eq
theorem LawD.lv (D : LawD G L aN aR aT aP aC vs ys rws tvs pvs cvs cs) : LV ys vs.length (kfH G) (fun i => pvs.getD i .none) (fun i => tvs.getD i .none) where
  p := fun i hi => kfH_of (D.pk i hi)
  t := fun i hi => kfH_of (D.tk i hi)
  x := fun i hi => by
    have hy : i < ys.length := by rw [← D.yl]; exact hi
    rw [List.getD_eq_getElem?_getD, List.getElem?_eq_getElem hy]
    exact (D.hx _ (List.getElem_mem hy)).1
theorem LawD.pK (D : LawD G L aN aR aT aP aC vs ys rws tvs pvs cvs cs) {h : Heap} (S : G.StaysIn h) {i : Nat} (hi : i < vs.length) : KeyAt false h (pvs.getD i .none) (kfH G (pvs.getD i .none)) := (keyH (D.pk i hi)).keep fun a _ o e => S a o e
theorem LawD.tK (D : LawD G L aN aR aT aP aC vs ys rws tvs pvs cvs cs) {h : Heap} (S : G.StaysIn h) {i : Nat} (hi : i < vs.length) : KeyAt false h (tvs.getD i .none) (kfH G (tvs.getD i .none)) := (keyH (D.tk i hi)).keep fun a _ o e => S a o e
theorem take_getD {l : List Value} {n : Nat} (h : n ≤ l.length) : l.take n = (List.range n).map fun i => l.getD i .none := by
  apply List.ext_getElem
  · simp [h]
  · intro i h1 h2
    simp at h1
    simp [List.getD_eq_getElem?_getD, show i < l.length by exact om140q _ _ _ h1]
end
/-- the law's own things while it plays -/
structure LS (G : Heap) (L p q r ln aC aT aP : Addr) (wish : Option Value) (h : Heap) (m : Str → Option Value) (ps gs ws ls : List Value) : Prop where
  st : G.StaysIn h
  ns : h.Ns L m
  mp : m (Str.ofString "pile") = some (.ref p)
  mq : m (Str.ofString "gone") = some (.ref q)
  mr : m (Str.ofString "wanted") = some (.ref r)
  ml : m (Str.ofString "line") = some (.ref ln)
  mC : m (Str.ofString "cells") = some (.ref aC)
  mT : m (Str.ofString "told") = some (.ref aT)
  mP : m (Str.ofString "pairs") = some (.ref aP)
  mW : m (Str.ofString "wish") = wish
  gp : ∃ c, h.get? p = some (lst ps c)
  gq : ∃ c, h.get? q = some (lst gs c)
  gr : ∃ c, h.get? r = some (lst ws c)
  gl : ∃ c, h.get? ln = some (lst ls c)
  nd : ([L, p, q, r, ln] : List Nat).Nodup
  gL : G.get? L = none
  np : G.get? p = none
  nq : G.get? q = none
  nr : G.get? r = none
section
variable {G : Heap} {L p q r ln aC aT aP : Addr} {wish : Option Value} {h h' : Heap} {m : Str → Option Value} {ps gs ws ls : List Value}
theorem LS.ne (X : LS G L p q r ln aC aT aP wish h m ps gs ws ls) : L ≠ p ∧ L ≠ q ∧ L ≠ r ∧ L ≠ ln ∧ p ≠ q ∧ p ≠ r ∧ p ≠ ln ∧ q ≠ r ∧ q ≠ ln ∧ r ≠ ln := by
  have := X.nd
  simp only [List.nodup_cons, List.mem_cons, List.not_mem_nil, or_false, not_or, List.nodup_nil, and_true, not_false_eq_true] at this
  obtain ⟨⟨a1, a2, a3, a4⟩, ⟨b1, b2, b3⟩, ⟨c1, c2⟩, d1⟩ := this
  exact ⟨a1, a2, a3, a4, b1, b2, b3, c1, c2, d1⟩
theorem LS.ext (X : LS G L p q r ln aC aT aP wish h m ps gs ws ls) (k : h.StaysIn h') : LS G L p q r ln aC aT aP wish h' m ps gs ws ls :=
  { X with st := fun b o e => k b o (X.st b o e), ns := X.ns.at' fun o e => k _ o e, gp := X.gp.imp fun _ e => k _ _ e, gq := X.gq.imp fun _ e => k _ _ e, gr := X.gr.imp fun _ e => k _ _ e, gl := X.gl.imp fun _ e => k _ _ e }
theorem stG {X : Addr} (k : G.StaysIn h) (hX : G.get? X = none) (hk : ∀ b o, b ≠ X → h.get? b = some o → h'.get? b = some o) : G.StaysIn h' := fun b o e => hk b o (fun q => by rw [q, hX] at e; cases e) (k b o e)
theorem LS.setP (X : LS G L p q r ln aC aT aP wish h m ps gs ws ls) {ps' : List Value} {c : Nat} (k : But p h h') (g : h'.get? p = some (lst ps' c)) : LS G L p q r ln aC aT aP wish h' m ps' gs ws ls := by
  obtain ⟨a1, a2, a3, a4, b1, b2, b3, c1, c2, d1⟩ := X.ne
  exact { X with st := stG X.st X.np k, ns := X.ns.at' fun o e => k _ o a1 e, gp := ⟨c, g⟩, gq := X.gq.imp fun _ e => k _ _ b1.symm e, gr := X.gr.imp fun _ e => k _ _ b2.symm e, gl := X.gl.imp fun _ e => k _ _ b3.symm e }
theorem LS.setQ (X : LS G L p q r ln aC aT aP wish h m ps gs ws ls) {gs' : List Value} {c : Nat} (k : But q h h') (g : h'.get? q = some (lst gs' c)) : LS G L p q r ln aC aT aP wish h' m ps gs' ws ls := by
  obtain ⟨a1, a2, a3, a4, b1, b2, b3, c1, c2, d1⟩ := X.ne
  exact { X with st := stG X.st X.nq k, ns := X.ns.at' fun o e => k _ o a2 e, gp := X.gp.imp fun _ e => k _ _ b1 e, gq := ⟨c, g⟩, gr := X.gr.imp fun _ e => k _ _ c1.symm e, gl := X.gl.imp fun _ e => k _ _ c2.symm e }
theorem LS.setR (X : LS G L p q r ln aC aT aP wish h m ps gs ws ls) {ws' : List Value} {c : Nat} (k : But r h h') (g : h'.get? r = some (lst ws' c)) : LS G L p q r ln aC aT aP wish h' m ps gs ws' ls := by
  obtain ⟨a1, a2, a3, a4, b1, b2, b3, c1, c2, d1⟩ := X.ne
  exact { X with st := stG X.st X.nr k, ns := X.ns.at' fun o e => k _ o a3 e, gp := X.gp.imp fun _ e => k _ _ b2 e, gq := X.gq.imp fun _ e => k _ _ c1 e, gr := ⟨c, g⟩, gl := X.gl.imp fun _ e => k _ _ d1.symm e }
/-- a local of no weight -/
theorem LS.loc (X : LS G L p q r ln aC aT aP wish h m ps gs ws ls) {x : Str} {v : Value} (ns : h'.Ns L (fun y => if y = x then some v else m y)) (k : ∀ b o, b ≠ L → h.get? b = some o → h'.get? b = some o)
    (hx : x = Str.ofString "place" ∨ x = Str.ofString "deed" ∨ x = Str.ofString "pair") : LS G L p q r ln aC aT aP wish h' (fun y => if y = x then some v else m y) ps gs ws ls := by
  obtain ⟨a1, a2, a3, a4, b1, b2, b3, c1, c2, d1⟩ := X.ne
  have hm : ∀ y, (y ≠ x) → (fun y => if y = x then some v else m y) y = m y := fun y hy => if_neg hy
  have n1 : Str.ofString "pile" ≠ x ∧ Str.ofString "gone" ≠ x ∧ Str.ofString "wanted" ≠ x ∧ Str.ofString "line" ≠ x ∧ Str.ofString "cells" ≠ x ∧ Str.ofString "told" ≠ x ∧ Str.ofString "pairs" ≠ x ∧ Str.ofString "wish" ≠ x := by
    rcases hx with rfl | rfl | rfl <;> decide
  exact { X with st := stG X.st X.gL k, ns := ns, mp := (hm _ n1.1).trans X.mp, mq := (hm _ n1.2.1).trans X.mq, mr := (hm _ n1.2.2.1).trans X.mr, ml := (hm _ n1.2.2.2.1).trans X.ml, mC := (hm _ n1.2.2.2.2.1).trans X.mC, mT := (hm _ n1.2.2.2.2.2.1).trans X.mT, mP := (hm _ n1.2.2.2.2.2.2.1).trans X.mP, mW := (hm _ n1.2.2.2.2.2.2.2).trans X.mW, gp := X.gp.imp fun _ e => k _ _ a1.symm e, gq := X.gq.imp fun _ e => k _ _ a2.symm e, gr := X.gr.imp fun _ e => k _ _ a3.symm e, gl := X.gl.imp fun _ e => k _ _ a4.symm e }
/-- line = a list made before -/
theorem LS.line (X : LS G L p q r ln aC aT aP wish h m ps gs ws ls) {ln' : Addr} {ls' : List Value} {c : Nat} (hn : ln' ≠ L ∧ ln' ≠ p ∧ ln' ≠ q ∧ ln' ≠ r) (g : h.get? ln' = some (lst ls' c)) (ns : h'.Ns L (fun y => if y = Str.ofString "line" then some (.ref ln') else m y)) (k : ∀ b o, b ≠ L → h.get? b = some o → h'.get? b = some o) :
    LS G L p q r ln' aC aT aP wish h' (fun y => if y = Str.ofString "line" then some (.ref ln') else m y) ps gs ws ls' := by
  obtain ⟨a1, a2, a3, a4, b1, b2, b3, c1, c2, d1⟩ := X.ne
  refine { X with st := stG X.st X.gL k, ns := ns, mp := X.mp, mq := X.mq, mr := X.mr, ml := rfl, mC := X.mC, mT := X.mT, mP := X.mP, mW := X.mW, gp := X.gp.imp fun _ e => k _ _ a1.symm e, gq := X.gq.imp fun _ e => k _ _ a2.symm e, gr := X.gr.imp fun _ e => k _ _ a3.symm e, gl := ⟨c, k _ _ hn.1 g⟩, nd := ?_ }
  simp only [List.nodup_cons, List.mem_cons, List.not_mem_nil, or_false, not_or, List.nodup_nil, and_true, not_false_eq_true]
  exact ⟨⟨a1, a2, a3, hn.1.symm⟩, ⟨b1, b2, hn.2.1.symm⟩, ⟨c1, hn.2.2.1.symm⟩, hn.2.2.2.symm⟩
theorem LS.skip (X : LS G L p q r ln aC aT aP wish h m ps gs ws ls) {I : Addr} (k : ∀ b o, b ≠ I → h.get? b = some o → h'.get? b = some o) (gI : G.get? I = none) (nI : I ≠ L ∧ I ≠ p ∧ I ≠ q ∧ I ≠ r) (nl : ln ≠ I) : LS G L p q r ln aC aT aP wish h' m ps gs ws ls :=
  { X with st := stG X.st gI k, ns := X.ns.at' fun o e => k _ o nI.1.symm e, gp := X.gp.imp fun _ e => k _ _ nI.2.1.symm e, gq := X.gq.imp fun _ e => k _ _ nI.2.2.1.symm e, gr := X.gr.imp fun _ e => k _ _ nI.2.2.2.symm e, gl := X.gl.imp fun _ e => k _ _ nl e }
theorem LS.new (X : LS G L p q r ln aC aT aP wish h m ps gs ws ls) {b : Addr} (hb : h.objs.size ≤ b) : b ≠ L ∧ b ≠ p ∧ b ≠ q ∧ b ≠ r := by
  obtain ⟨_, e1⟩ := X.gp
  obtain ⟨_, e2⟩ := X.gq
  obtain ⟨_, e3⟩ := X.gr
  exact ⟨Nat.ne_of_gt (Nat.lt_of_lt_of_le X.ns.lt hb), Nat.ne_of_gt (Nat.lt_of_lt_of_le (Heap.lt_size e1) hb), Nat.ne_of_gt (Nat.lt_of_lt_of_le (Heap.lt_size e2) hb), Nat.ne_of_gt (Nat.lt_of_lt_of_le (Heap.lt_size e3) hb)⟩
end
end Mine
end
section
open PySem PySem.W PyProof.Rows PySem.Calls
set_option Elab.async false
set_option linter.all false
set_option maxRecDepth 100000
namespace Mine
theorem fill37 (w : World) (g : Heap) : (hd.heap_1 w.params).In g → PySem.Challenge.rw_mr0283_01.row.prog = PySem.Challenge.rw_mr0283_01.row.prog := by
  k_fill
  intro _; rfl
theorem wr_props {zs : List Str} {r : List Nat} (hr : ∀ c ∈ r, Al c = true) (hl : r.length ≤ 50) (e : zs.map raw = wd [] (r.map low)) : (∀ y ∈ zs, 1 ≤ y.length) ∧ zs.length ≤ 100 ∧ (∀ y ∈ zs, y.length ≤ 100) := by
  have hmem : ∀ y ∈ zs, raw y ∈ wd [] (r.map low) := fun y hy => by rw [← e]; exact List.mem_map_of_mem hy
  refine ⟨fun y hy => ?_, ?_, fun y hy => ?_⟩
  · have := (wd_ok (r.map low) [] (raw y) (fun _ q => by cases q) (hmem y hy)).1
    rw [raw_len]
    cases hq : raw y with
    | nil => exact absurd hq this
    | cons _ _ => simp
  · have := (wd_len (r.map low) []).1
    rw [← e, List.length_map, List.length_map] at this
    exact om131q _ _ hl this
  · have := (wd_mem (r.map low) [] (raw y) (hmem y hy)).2
    simp only [List.length_nil, List.length_map, Nat.zero_add] at this
    rw [raw_len]
    exact om132q _ _ hl this
/-- a pair made by the law -/
def Pr (h : Heap) (C : Addr) (v : Value) (x : List Nat) (i : Int) : Prop := ∃ T S t1 t2, v = .ref T ∧ C < T ∧ IsTup h T #[.str S t1, .int i t2] ∧ raw S = x
theorem Pr.keep {h h' : Heap} {C : Addr} {v : Value} {x : List Nat} {i : Int} (p : Pr h C v x i) (hk : ∀ b o, C < b → h.get? b = some o → h'.get? b = some o) : Pr h' C v x i := by
  obtain ⟨T, S, t1, t2, a, b, ⟨o, ho, r⟩, e⟩ := p
  exact ⟨T, S, t1, t2, a, b, ⟨o, hk _ _ b ho, r⟩, e⟩
theorem Pr.key {h : Heap} {C : Addr} {v : Value} {x : List Nat} {i : Int} (p : Pr h C v x i) : KeyAt false h v ⟨x, i, []⟩ := by
  obtain ⟨T, S, t1, t2, a, b, c, e⟩ := p
  refine ⟨T, _, a, c, ?_⟩
  rw [if_neg (by decide)]
  exact ⟨S, t1, t2, rfl, e.symm, rfl⟩
theorem str_of_raw {x y : Str} (h : raw x = raw y) : x = y := by
  have := str_eq_iff x y
  rw [decide_eq_true h] at this
  exact eq_of_beq this
section
variable {prog : Program} {w : World} {A : Around} {E : Value → Shared → Prop} {s : Shared} {mg mb : Str → Option Value}
/-- two pairs that are alike -/
theorem eq_pairs {u v : Value} {x : List Nat} {i : Int} {C : Addr} (hu : KeyAt false s.heap u ⟨x, i, []⟩) (hC : ∀ a, u = .ref a → a ≤ C) (hv : Pr s.heap C v x i) (hun : A.units < cLine) : SeqAt.EqAt A s u v true := by
  obtain ⟨a, xs, rfl, hT, hx⟩ := hu
  rw [if_neg (by decide)] at hx
  obtain ⟨S, t, t', rfl, e1, _⟩ := hx
  obtain ⟨T, S', t1, t2, rfl, hCT, hT', e2⟩ := hv
  have hne : a ≠ T := Nat.ne_of_lt (Nat.lt_of_le_of_lt (hC a rfl) hCT)
  refine SeqAt.EqAt.of_refs hne ?_
  have hS : S = S' := str_of_raw (by rw [e2]; exact e1.symm)
  subst hS
  have := SeqAt.RcAt.tuples (A := A) (e := fun _ => true) hT hT' hun (fun j h1 h2 => ?_)
  · exact this
  · have hj : j = 0 ∨ j = 1 := by simp at h1; exact om133q _ h1
    rcases hj with rfl | rfl
    · have := SeqAt.EqAt.str_str (A := A.in1) (s := s) S t S t1
      rw [beq_self_eq_true] at this
      exact this
    · have := SeqAt.EqAt.int_int (A := A.in1) (s := s) i t' i t2
      rw [beq_self_eq_true] at this
      exact this
variable {G : Heap} {L aN aR aT aP aC : Addr} {vs : List Value} {ys : List Str} {rws tvs pvs cvs : List Value} {cs : List Int}

set_option maxHeartbeats 4000000 in
theorem law_C {oc : Value} {od : Option Addr} {osl : Array (Option Value)} {name qual : Str} {params : Arguments} {body : List Stmt} {scope : Scope} {dV kV doc pm cdv ct : Value} {an : Option Addr}
    (ho : (hd.heap_1 w.params).lookup 136 = some ⟨oc, od, .func (fnOf name qual params body scope dV kV doc pm an cdv ct), osl⟩) {fa : Addr} {cdv' : Value}
    {m : Str → Option Value} {Q : Flow → Shared → Prop} {p q r ln : Addr} {wish : Option Value} {ls : List Value} {Gs : List Nat} (D : LawD G L aN aR aT aP aC vs ys rws tvs pvs cvs cs) (C : Cx w mg mb G)
    (X : LS G L p q r ln aC aT aP wish s.heap m [] (Gs.map fun i => pvs.getD i .none) (Gs.map fun i => tvs.getD i .none) ls) (hGN : ∀ i ∈ Gs, i < vs.length) (hGl : Gs.length ≤ 20)
    (hh : A.handled = none) (hroom : A.depth + 6 < recursionLimit) (hu : A.units + 100 < cLine)
    (hQ : ∀ h tk, G.StaysIn h → h.Ns L m → wpAny (model prog w) A (execs (body.drop 13) (envOfC qual scope L fa cdv')) Q E { s with heap := h, toks := tk }) :
    wpAny (model prog w) A (execs (body.drop 12) (envOfC qual scope L fa cdv')) Q E s := by
  obtain ⟨rfl, rfl, rfl, rfl⟩ := same_fn ho (by k_is)
  simp only [List.drop_succ_cons, List.drop_zero] at hQ ⊢
  clear ho
  have n5 := D.n5
  have n11 := D.n11
  obtain ⟨oR, gcR, hcR⟩ := D.cR
  obtain ⟨cR, gR⟩ := D.gR
  obtain ⟨cp, gp⟩ := X.gp
  obtain ⟨cq, gq⟩ := X.gq
  obtain ⟨cr, gr⟩ := X.gr
  with_reducible refine wpAny_execs_cons ?_
  refine wpAny_If (isTrue_or (wpAny_isTrue_Compare1 (nm_L X.ns X.mp (list0 ?_))))
  generalize hH : s.heap.push (lst [] 0) = H
  have kH : s.heap.StaysIn H := fun b o e => by rw [← hH]; exact Heap.get?_push_of_some _ e
  refine ne_list (kH _ _ gp) (d := 0) (ws := []) (by rw [← hH]; exact Heap.get?_push_size _ rfl) rfl (by exact om130q _ _ hu) (fun j u v h1 h2 => by simp at h1) (wpAny_truthy_bool ?_)
  rw [if_neg (by decide)]
  have X₁ := X.ext kH
  refine isTrue_or (wpAny_isTrue_Compare1 (nm_L X₁.ns X₁.mq ?_))
  refine LComp (cl := [(Str.ofString "rows", L + 2)]) rfl (by decide) rfl (by decide) (nm_L X₁.ns X₁.mr ?_)
  refine wpAny_pyIter_list (PySem.IsL.isList (n := cr) (kH _ _ gr)) ?_
  dsimp only
  generalize hH2 : H.push _ = H2
  have kH2 : H.StaysIn H2 := fun b o e => by rw [← hH2]; exact Heap.get?_push_of_some _ e
  have gI' : H2.IsListIter H.objs.size r 0 := ⟨_, by rw [← hH2]; exact Heap.get?_push_size _ rfl, rfl, rfl⟩
  have X₂ := X₁.ext kH2
  have hIH2 : H.objs.size < H2.objs.size := by obtain ⟨_, e, _⟩ := gI'; exact Heap.lt_size e
  have hrI : r < H.objs.size := Heap.lt_size (kH _ _ gr)
  obtain ⟨Ts, St, Mid, W, hTs, hst⟩ := tupsU (prog := prog) (w := w) (A := A) (h0 := H) (zs := Gs.map fun i => tvs.getD i .none) (D := r) (I := H.objs.size) hh (Nat.ne_of_lt hrI) (fun j xs => ∃ a t, xs = #[a, .int ((Gs.getD j 0 : Nat) : Int) t] ∧ j < Gs.length) (fun j v hj => by
    rw [List.getElem?_map] at hj
    obtain ⟨i, hi, rfl⟩ := Option.map_eq_some_iff.mp hj
    have hiN := hGN i (List.mem_of_getElem? hi)
    obtain ⟨T, xs, e, hT, hx⟩ := (D.tk i hiN).keep (h' := H) fun a _ o e => X₁.st a o e
    rw [if_neg (by decide)] at hx
    obtain ⟨S, t, t', rfl, _⟩ := hx
    refine ⟨T, _, e, hT, ⟨.str S t, t', ?_, ?_⟩, ?_⟩
    · rw [show Gs.getD j 0 = i from by rw [List.getD_eq_getElem?_getD, hi]; rfl]
    · rcases Nat.lt_or_ge j Gs.length with q | q
      · exact q
      · rw [List.getElem?_eq_none q] at hi; cases hi
    · obtain ⟨o, ho, _⟩ := hT
      exact Nat.ne_of_lt (Heap.lt_size ho))
  refine ⟨H.objs.size, _, [H.objs.size], (Gs.map fun i => tvs.getD i .none).length, [Str.ofString "text", Str.ofString "place"], _, St, fun C j v h => C = H2.objs.size + 1 ∧ Pr h C v (kyI ys (Gs.getD j 0)) ((Gs.getD j 0 : Nat) : Int), rfl, Drw.tup2 (P := fun j a b => ∃ t, b = .int ((Gs.getD j 0 : Nat) : Int) t ∧ j < Gs.length) hh W (fun i vals h => by obtain ⟨a, t, e, hl⟩ := h; exact ⟨a, _, e, t, rfl, hl⟩) (by decide), by rw [List.length_map]; exact om134q _ hGl, (fun b hb => by cases hb), ?_, ?_, hst H2 gI' (PySem.IsL.isList (n := cr) (kH2 _ _ (kH _ _ gr))) (fun b _ o e => kH2 b o e), ?_, ?_, ?_⟩
  · rintro C j v h h' ⟨hC, hP⟩ hk
    exact ⟨hC, hP.keep fun b o hb e => hk b o (.inr hb) (fun q => absurd (Nat.lt_trans (by rw [hC, List.mem_singleton.mp q]; exact Nat.lt_succ_of_lt hIH2) hb) (Nat.lt_irrefl _)) (fun q => by cases q) e⟩
  · intro x hx'
    simp only [List.mem_cons, List.not_mem_nil, or_false] at hx'
    rcases hx' with rfl | rfl <;> rfl
  · intro b hb
    rcases List.mem_cons.mp hb with rfl | hb
    · exact hIH2
    · rcases List.mem_cons.mp hb with rfl | hb
      · exact Heap.lt_size (kH2 _ _ (kH _ _ gr))
      · obtain ⟨o, ho⟩ := hTs b hb; exact Heap.lt_size (kH2 _ _ ho)
  · rintro C' j bs mc s' hC hj ⟨a', b', ⟨tb, rfl, hjl⟩, rfl⟩ hns hm hk hsz
    have keepG : G.StaysIn s'.heap := fun b o e => hk b o (fun q => by
      have := Heap.lt_size (X₁.st b o e)
      rw [List.mem_singleton.mp q] at this
      exact Nat.lt_irrefl _ this) (kH2 _ _ (X₁.st b o e))
    have hiN : Gs.getD j 0 < vs.length := hGN _ (by rw [List.getD_eq_getElem?_getD, List.getElem?_eq_getElem hjl]; exact List.getElem_mem hjl)
    generalize hgi : Gs.getD j 0 = gi at *
    have hrl := D.rl
    obtain ⟨ra, wsv, zs, cw, hra, gra, hzs, hzr⟩ := D.rwk gi _ (List.getElem?_eq_getElem (by exact om135q _ _ _ hiN hrl))
    have hyl := D.yl
    have hyi : ys.getD gi ⟨#[]⟩ = ys[gi]'(by exact om136q _ _ _ hiN hyl) := by rw [List.getD_eq_getElem?_getD, List.getElem?_eq_getElem (by exact om136q _ _ _ hiN hyl)]; rfl
    have hyx := D.hx _ (List.getElem_mem (show gi < ys.length by exact om136q _ _ _ hiN hyl))
    have hyx5 := D.h50 _ (List.getElem_mem (show gi < ys.length by exact om136q _ _ _ hiN hyl))
    rw [← hyi] at hyx hyx5
    obtain ⟨w1, w2, w3⟩ := wr_props hyx.1 (by rw [← raw_len]; exact hyx5) hzr
    refine tup2 (Call_ (nm_K C keepG (by k_is) (cwK C.K (by k_is) (sm (Subscript_ (nm_C rfl (keepG _ _ gcR) hcR (nm_L hns (hm _ (.tail _ (.head _))) (item_l (i := gi) (keepG _ _ gR) (by exact om135q _ _ _ hiN hrl) (by exact om1q _ _ n11 hrl) ?_))))))))
    rw [at_eq (by exact om135q _ _ _ hiN hrl), hra]
    refine spliced_none ⟨C.K.keeps keepG, ?_⟩
    refine written_call C keepG (keepG _ _ gra) hzs w1 w2 w3 hh (by exact om137q _ _ hroom) fun h₃ tk₃ y ty S₃ hy => ?_
    have hns₃ : h₃.Ns C' mc := hns.at' fun o e => S₃ _ o e
    refine nm_L hns₃ (hm _ (.tail _ (.head _))) ?_
    refine ⟨⟨_, _, rfl⟩, fun b o e => Heap.get?_push_of_some _ (S₃ b o e), hC, ?_⟩
    show Pr _ C' _ (kyI ys (Gs.getD j 0)) ((Gs.getD j 0 : Nat) : Int)
    rw [hgi]
    refine ⟨h₃.objs.size, y, ty, tb, rfl, hns₃.lt, ⟨_, Heap.get?_push_size _ rfl, rfl, _, rfl⟩, ?_⟩
    rw [hy]
    have e1 : zs.map (fun y => wrW (raw y)) = (wd [] ((raw (ys.getD gi ⟨#[]⟩)).map low)).map wrW := by rw [← hzr, List.map_map]; rfl
    rw [e1]
    exact wr_cap (ys.getD gi ⟨#[]⟩)
  · intro D' C' h' tk' out c' hD' hC' gD' hol hP hk
    have kp : H.StaysIn h' := fun b o e => hk b o (fun q => by
      have := Heap.lt_size e
      rw [List.mem_singleton.mp q] at this
      exact Nat.lt_irrefl _ this) (fun q => by cases q) (kH2 _ _ e)
    have X₃ := X₁.ext kp
    obtain ⟨cq₃, gq₃⟩ := X₃.gq
    refine ne_list gq₃ gD' (by rw [hol]; simp) (by exact om130q _ _ hu) (fun j u v h1 h2 => ?_) (wpAny_truthy_bool ?_)
    · obtain ⟨hCC, hPv⟩ := hP j v h2
      rw [List.getElem?_map] at h1
      obtain ⟨gi, hgi, rfl⟩ := Option.map_eq_some_iff.mp h1
      have e0 : Gs.getD j 0 = gi := by rw [List.getD_eq_getElem?_getD, hgi]; rfl
      rw [e0] at hPv
      have hgN := hGN gi (List.mem_of_getElem? hgi)
      refine eq_pairs ((D.pk gi hgN).keep fun a _ o e => X₃.st a o e) (fun a ea => ?_) hPv (show A.units + 1 < cLine by exact om138q _ _ hu)
      obtain ⟨a', xs, ea', ⟨o, ho, _⟩, _⟩ := D.pk gi hgN
      rw [ea] at ea'
      cases ea'
      have := Heap.lt_size (X₁.st _ _ ho)
      rw [hC']
      exact Nat.le_of_lt (Nat.lt_succ_of_lt (Nat.lt_trans this hIH2))
    rw [if_neg (by decide)]
    refine isTrue_or_nil ?_
    rw [if_neg (by decide)]
    refine wpAny_execs_nil ?_
    exact hQ _ _ X₃.st X₃.ns
end
end Mine
end
section
open PySem PySem.W PyProof.Rows PySem.Calls
set_option Elab.async false
set_option linter.all false
set_option maxRecDepth 100000
namespace Mine
theorem fill36 (w : World) (g : Heap) : (hd.heap_1 w.params).In g → PySem.Challenge.rw_mr0283_01.row.prog = PySem.Challenge.rw_mr0283_01.row.prog := by
  k_fill
  intro _; rfl
theorem snocM {α β : Type} (f : α → β) (l : List α) (a : α) : l.map f ++ [f a] = (l ++ [a]).map f := by simp
theorem nd5 (L p N ln : Nat) (h1 : L < p) (h2 : p < ln) (h3 : ln < N) : ([L, p, N, N + 1, ln] : List Nat).Nodup := by
  simp only [List.nodup_cons, List.mem_cons, List.not_mem_nil, or_false, not_or, List.nodup_nil, and_true, not_false_eq_true]
  refine ⟨⟨?_, ?_, ?_, ?_⟩, ⟨?_, ?_, ?_⟩, ⟨?_, ?_⟩, ?_⟩ <;> omega
section
variable {prog : Program} {w : World} {A : Around} {E : Value → Shared → Prop} {s : Shared} {mg mb : Str → Option Value}
  {G : Heap} {L aN aR aT aP aC : Addr} {vs : List Value} {ys : List Str} {rws tvs pvs cvs : List Value} {cs : List Int}

set_option maxHeartbeats 4000000 in
theorem law_B1 {oc : Value} {od : Option Addr} {osl : Array (Option Value)} {name qual : Str} {params : Arguments} {body : List Stmt} {scope : Scope} {dV kV doc pm cdv ct : Value} {an : Option Addr}
    (ho : (hd.heap_1 w.params).lookup 136 = some ⟨oc, od, .func (fnOf name qual params body scope dV kV doc pm an cdv ct), osl⟩) {fa : Addr} {cdv' : Value}
    {m : Str → Option Value} {Q : Flow → Shared → Prop} (D : LawD G L aN aR aT aP aC vs ys rws tvs pvs cvs cs) (C : Cx w mg mb G) (S : G.StaysIn s.heap)
    (ns : s.heap.Ns L m) (eC : m (Str.ofString "cells") = some (.ref aC)) (eT : m (Str.ofString "told") = some (.ref aT)) (eP : m (Str.ofString "pairs") = some (.ref aP))
    (hh : A.handled = none) (hroom : A.depth + 6 < recursionLimit) (hu : A.units + 100 < cLine)
    (hQ : ∀ h tk m', G.StaysIn h → h.Ns L m' → m' (Str.ofString "wish") = m (Str.ofString "wish") → m' (Str.ofString "told") = some (.ref aT) → wpAny (model prog w) A (execs (body.drop 13) (envOfC qual scope L fa cdv')) Q E { s with heap := h, toks := tk }) :
    wpAny (model prog w) A (execs (body.drop 6) (envOfC qual scope L fa cdv')) Q E s := by
  obtain ⟨rfl, rfl, rfl, rfl⟩ := same_fn ho (by k_is)
  simp only [List.drop_succ_cons, List.drop_zero] at hQ ⊢
  have n5 := D.n5
  have n11 := D.n11
  have V := D.lv
  have newG : ∀ {h : Heap} {b : Addr}, G.StaysIn h → h.objs.size ≤ b → G.get? b = none := fun {h b} k hb => by
    cases q : G.get? b with
    | none => rfl
    | some o => exact absurd (Nat.lt_of_lt_of_le (Heap.lt_size (k _ _ q)) hb) (Nat.lt_irrefl _)
  have keepG : ∀ {h h' : Heap} {X : Addr}, G.StaysIn h → G.get? X = none → (∀ b o, b ≠ X → h.get? b = some o → h'.get? b = some o) → G.StaysIn h' := fun {h h' X} k hX hk b o e => hk b o (fun q => by rw [q, hX] at e; cases e) (k b o e)
  obtain ⟨cP, gP⟩ := D.gP
  obtain ⟨cT, gT⟩ := D.gT
  obtain ⟨cC, gC⟩ := D.gC
  obtain ⟨cN, gN⟩ := D.gN
  obtain ⟨oN, gcN, hcN⟩ := D.cN
  obtain ⟨oR, gcR, hcR⟩ := D.cR
  have hpl := D.pl
  have htl := D.tl
  -- pile = pairs[:5]
  with_reducible refine wpAny_execs_cons ?_
  refine wpAny_Assign_Name (Subscript_ (nm_L ns eP (sl_ns (cI fun _ _ => slice_upto (n := 5) (S _ _ gP) (by exact om1q _ _ n11 hpl) fun h₁ p S₁ hp gp => st_Z (ns.at' fun o e => S₁ _ o e) fun h₂ tk₂ ns₂ k₂ z₂ => ?_))))
  have hLp : L < p := Nat.lt_of_lt_of_le ns.lt hp
  have gpn : G.get? p = none := newG S hp
  have S₂ : G.StaysIn h₂ := keepG (fun b o e => S₁ b o (S b o e)) D.gL k₂
  have gp₂ : h₂.get? p = some (lst (pvs.take 5) 0) := k₂ _ _ (Nat.ne_of_gt hLp) gp
  rw [take_getD (by exact om2q _ _ n5 hpl)] at gp₂
  -- heapify(pile)
  with_reducible refine wpAny_execs_cons ?_
  refine wpAny_Expr_any (Call_ (nm_K C S₂ (by k_is) (cwK C.K (by k_is) (sm (nm_L ns₂ (if_pos rfl) (spliced_none ⟨C.K.keeps S₂, ?_⟩))))))
  refine heapify_call (kb := false) (kf := kfH G) C S₂ gp₂ gpn (fun v hv => ?_) (ord_klt _) hh (by exact om3q _ _ hroom) (by exact om4q _ _ hu) (by simp) fun h₃ tk₃ ps₃ c₃ b₃ gp₃ hp₃ hh₃ => ?_
  · obtain ⟨i, hi, rfl⟩ := List.mem_map.mp hv
    exact D.pK S₂ (by have := List.mem_range.mp hi; exact om5q _ _ n5 this)
  have S₃ : G.StaysIn h₃ := keepG S₂ gpn b₃
  have ns₃ : h₃.Ns L _ := ns₂.at' fun o e => b₃ _ o (Nat.ne_of_lt hLp) e
  -- line = sorted(told[:5])
  with_reducible refine wpAny_execs_cons ?_
  refine wpAny_Assign_Name (Call_ (nm_B C S₃ (by k_is) boot_sorted (by decide) (cwb (sm (Subscript_ (nm_L ns₃ eT (sl_ns (cI fun _ _ => slice_upto (n := 5) (S₃ _ _ gT) (by exact om1q _ _ n11 htl) fun h₄ t5 S₄ ht5 gt5 => spliced_none ?_))))))))
  rw [take_getD (by exact om2q _ _ n5 htl)] at gt5
  refine sorted_call (b := false) (kb := false) (kf := kfH G) (.inl ⟨rfl, rfl⟩) gt5 (by simp) (by simp) (fun v hv => ?_) fun h₅ c₅ tk₅ ln S₅ hln gln => st_Z (ns₃.at' fun o e => S₅ _ o (S₄ _ o e)) fun h₆ tk₆ ns₆ k₆ z₆ => ?_
  · obtain ⟨i, hi, rfl⟩ := List.mem_map.mp hv
    exact D.tK (fun b o e => S₄ b o (S₃ b o e)) (by have := List.mem_range.mp hi; exact om5q _ _ n5 this)
  obtain ⟨J₀, eJ₀, pJ₀, wJ₀⟩ := V.sort (K := List.range 5) List.nodup_range (fun i hi => by have := List.mem_range.mp hi; exact om5q _ _ n5 this) (by simp)
  rw [eJ₀] at gln
  have up₆ : ∀ b o, b ≠ L → h₃.get? b = some o → h₆.get? b = some o := fun b o q e => k₆ b o q (S₅ b o (S₄ b o e))
  have hp₃s : p < h₃.objs.size := Heap.lt_size gp₃
  have hpln : p < ln := Nat.lt_of_lt_of_le (Heap.lt_size (S₄ _ _ gp₃)) hln
  have hLln : L < ln := Nat.lt_trans hLp hpln
  have gln₆ : h₆.get? ln = some (lst (J₀.map fun i => tvs.getD i .none) c₅) := k₆ _ _ (Nat.ne_of_gt hLln) gln
  have gp₆ : h₆.get? p = some (lst ps₃ c₃) := up₆ _ _ (Nat.ne_of_gt hLp) gp₃
  have S₆ : G.StaysIn h₆ := stG S₃ D.gL up₆
  have hln₆ : ln < h₆.objs.size := Heap.lt_size gln₆
  -- gone, wanted = ([], [])
  refine execs_cut (P := fun s' => ∃ h tk m' q r, s' = { s with heap := h, toks := tk } ∧ LS G L p q r ln aC aT aP (m (Str.ofString "wish")) h m' ps₃ [] [] (J₀.map fun i => tvs.getD i .none)) ?_ ?_
  · rintro s' ⟨h, tk, m', q, r, rfl, X⟩
    clear k₆ S₅ S₄ gln gln₆ gp₆ up₆ S₆ hln₆ ns₆ gt5 ht5 hln b₃ gp₃ S₃ ns₃ hp₃s gp₂ S₂ ns₂ k₂ gp hp S₁ z₂ z₆
    -- for place in range(5, len(names))
    refine execs_cut (P := fun s' => Ex7 fun (h : Heap) (tk : Nat) (m₁ : Str → Option Value) (ln : Addr) (ps : List Value) (Gn J : List Nat) => C9 (s' = { s with heap := h, toks := tk }) (LS G L p q r ln aC aT aP (m (Str.ofString "wish")) h m₁ ps (Gn.map fun i => pvs.getD i .none) (Gn.map fun i => tvs.getD i .none) (J.map fun i => tvs.getD i .none)) (ps.Perm (J.map fun i => pvs.getD i .none)) (HP (klt (kfH G)) 0 ps) (J.Pairwise (RR ys)) ((∀ i ∈ J, i < vs.length)) ((∀ i ∈ Gn, i < vs.length)) (J.length ≤ 11) (Gn.length ≤ 6)) ?_ ?_
    · rintro s' ⟨h, tk, m₁, ln, ps, Gn, J, rfl, X, hperm, hhp, hpw, hJN, hGN, hJl, hGl⟩
      -- for pair in line
      refine execs_cut (P := fun s' => ∃ (h : Heap) (tk : Nat) (m₂ : Str → Option Value), s' = { s with heap := h, toks := tk } ∧ LS G L p q r ln aC aT aP (m (Str.ofString "wish")) h m₂ [] ((Gn ++ J).map fun i => pvs.getD i .none) ((Gn ++ J).map fun i => tvs.getD i .none) (J.map fun i => tvs.getD i .none)) ?_ ?_
      · rintro s' ⟨h, tk, m₂, rfl, X⟩
        refine law_C ho D C X (fun i hi => ?_) (by rw [List.length_append]; exact om6q _ _ hJl hGl) hh hroom hu fun h' tk' S' ns' => ?_
        · rcases List.mem_append.mp hi with q | q
          · exact hGN i q
          · exact hJN i q
        · exact hQ h' tk' m₂ S' ns' X.mW X.mT
      · obtain ⟨cl, gl⟩ := X.gl
        refine wpAny_abs fun KK hKK => ?_
        refine wpAny_For (nm_L X.ns X.ml (wpAny_pyIter_list (PySem.IsL.isList (n := cl) gl) ?_))
        dsimp only
        generalize hH : h.push _ = H
        have keep : h.StaysIn H := fun b o e => by rw [← hH]; exact Heap.get?_push_of_some _ e
        have gI' : H.IsListIter h.objs.size ln 0 := ⟨_, by rw [← hH]; exact Heap.get?_push_size _ rfl, rfl, rfl⟩
        have nI := X.new (Nat.le_refl _)
        have gI : G.get? h.objs.size = none := newG X.st (Nat.le_refl _)
        have hlnI : ln ≠ h.objs.size := Nat.ne_of_lt (Heap.lt_size gl)
        generalize h.objs.size = I at *
        have XI := X.ext keep
        have glH : H.IsList ln (List.map (fun i => tvs.getD i .none) J).toArray := PySem.IsL.isList (n := cl) (keep _ _ gl)
        refine for_w (E := E) (Walks.list (A := A) hh I ln hlnI (List.map (fun i => tvs.getD i .none) J).toArray) (fun i s' => Ex4 fun (h : Heap) (tk : Nat) (m₂ : Str → Option Value) (ps : List Value) => C4 (s' = { s with heap := h, toks := tk }) (LS G L p q r ln aC aT aP (m (Str.ofString "wish")) h m₂ ps ((Gn ++ J.take i).map fun i => pvs.getD i .none) ((Gn ++ J.take i).map fun i => tvs.getD i .none) (J.map fun i => tvs.getD i .none)) (ps.Perm ((J.drop i).map fun i => pvs.getD i .none)) (HP (klt (kfH G)) 0 ps)) ?_ ?_ ?_ ⟨gI', glH⟩
        · rintro i s' hi ⟨h₁, tk₁, m₂, ps₁, rfl, X₁, hperm₁, hhp₁⟩ v h₂ tk₂ hv hst₂ hkp
          have hiJ : i < J.length := by simpa using hi
          obtain rfl : v = tvs.getD J[i] .none := by
            have : (List.map (fun i => tvs.getD i .none) J)[i]? = some v := by simpa using hv
            rw [List.getElem?_map, List.getElem?_eq_getElem hiJ] at this
            exact (Option.some.inj this).symm
          have X₂ := X₁.skip (fun b o q e => hkp b o (by simpa using q) e) gI nI hlnI
          have hdrop : J.drop i = J[i] :: J.drop (i + 1) := List.drop_eq_getElem_cons hiJ
          rw [hdrop] at hperm₁
          have hpw₁ : (J[i] :: J.drop (i + 1)).Pairwise (RR ys) := by rw [← hdrop]; exact hpw.sublist (List.drop_sublist _ _)
          have hJN₁ : ∀ j ∈ J[i] :: J.drop (i + 1), j < vs.length := fun j hj => hJN j (List.mem_of_mem_drop (by rw [hdrop]; exact hj))
          obtain ⟨pt, hps, hpt⟩ := V.root hperm₁ hhp₁ hpw₁ hJN₁
          have hroot : at' ps₁ 0 = pvs.getD J[i] .none := by rw [hps]; rfl
          have hpl₁ : ps₁.length = J.length - i := by rw [hperm₁.length_eq]; simp <;> omega
          refine wpAny_assign_Name (st_R X₂.ns fun h₃ tk₃ ns₃ k₃ => ?_)
          have X₃ := X₂.loc ns₃ k₃ (.inr (.inr rfl))
          dsimp only
          refine wpAny_abs fun K₃ hK₃ => ?_
          -- gone.append(heappop(pile))
          with_reducible refine wpAny_execs_cons ?_
          refine wpAny_Expr_any ?_
          with_reducible refine MC fun pl => ?_
          obtain ⟨cq, gq⟩ := X₃.gq
          obtain ⟨cp, gp⟩ := X₃.gp
          refine nm_L X₃.ns X₃.mq (gm_app gq (cwm (sm (Call_ (nm_K C X₃.st (by k_is) (cwK C.K (by k_is) (sm (nm_L X₃.ns X₃.mp (spliced_none ⟨C.K.keeps X₃.st, ?_⟩)))))))))
          refine pop_call (kb := false) (kf := kfH G) C X₃.st gp X₃.np (fun v hv => ?_) (ord_klt _) (by exact om7q _ _ hroom) (by exact om4q _ _ hu) (by exact om8q _ _ _ hJl hpl₁) (by exact om9q _ _ _ hiJ hpl₁) hhp₁ fun h₄ tk₄ ps₄ c₄ b₄ gp₄ hp₄ hh₄ => ?_
          · obtain ⟨j, hj, rfl⟩ := List.mem_map.mp (hperm₁.mem_iff.mp hv)
            exact D.pK X₃.st (hJN₁ j hj)
          have X₄ := X₃.setP b₄ gp₄
          dsimp only
          obtain ⟨cq₄, gq₄⟩ := X₄.gq
          have htl : (J.take i).length ≤ 11 := by rw [List.length_take]; exact om10q _ _ hJl
          refine spliced_none (app_R gq₄ (by rw [List.length_map, List.length_append]; exact om11q _ _ hGl htl) fun h₅ b₅ gq₅ => ?_)
          have X₅ := X₄.setQ b₅ gq₅
          dsimp only
          -- wanted.append(pair)
          with_reducible refine wpAny_execs_cons ?_
          refine wpAny_Expr_any ?_
          with_reducible refine MC fun pl => ?_
          obtain ⟨cr, gr⟩ := X₅.gr
          refine nm_L X₅.ns X₅.mr (gm_app gr (cwm (sm (nm_L X₅.ns (if_pos rfl) (spliced_none (app_R gr (by rw [List.length_map, List.length_append]; exact om11q _ _ hGl htl) fun h₆ b₆ gr₆ => ?_))))))
          have X₆ := X₅.setR b₆ gr₆
          dsimp only
          have htake : Gn ++ J.take (i + 1) = Gn ++ J.take i ++ [J[i]] := by rw [List.append_assoc, List.take_append_getElem hiJ]
          rw [hroot, snocM (fun i => pvs.getD i .none) (Gn ++ J.take i) J[i], snocM (fun i => tvs.getD i .none) (Gn ++ J.take i) J[i], ← htake] at X₆
          refine wpAny_execs_nil (hK₃ .next _ ⟨⟨h₆, _, _, ps₄, rfl, X₆, ?_, hh₄⟩, fun b hb o e => ?_⟩)
          · have := hp₄.trans hperm₁
            rw [hroot, List.map_cons] at this
            exact this.cons_inv
          · have hb' : b ≠ L ∧ b ≠ p ∧ b ≠ q ∧ b ≠ r := by
              simp only [List.mem_cons, List.not_mem_nil, or_false] at hb
              rcases hb with rfl | rfl
              · exact nI
              · obtain ⟨a1, a2, a3, a4, b1, b2, b3, c1, c2, d1⟩ := X₁.ne
                exact ⟨a4.symm, b3.symm, c2.symm, d1.symm⟩
            exact b₆ _ o hb'.2.2.2 (b₅ _ o hb'.2.2.1 (b₄ _ o hb'.2.1 (k₃ _ o hb'.1 e)))
        · rintro s' ⟨h₁, tk₁, m₂, ps₁, rfl, X₁, hperm₁, hhp₁⟩ h₂ tk₂ hkp
          have hsz : (List.map (fun i => tvs.getD i .none) J).toArray.size = J.length := by simp
          rw [hsz, List.take_length] at X₁
          rw [hsz, List.drop_length] at hperm₁
          obtain rfl : ps₁ = [] := hperm₁.eq_nil
          exact hKK .next _ ⟨h₂, tk₂, m₂, rfl, X₁.skip (fun b o q e => hkp b o (by simpa using q) e) gI nI hlnI⟩
        · refine ⟨H, _, m₁, ps, rfl, ?_, hperm, hhp⟩
          rw [List.take_zero, List.append_nil]
          exact XI
    · refine wpAny_abs fun KK hKK => ?_
      refine wpAny_For (Call_ (nm_B C X.st (by k_is) boot_range (by decide) (cwt (sm (cI fun _ _ => sm (Call_ (nm_B C X.st (by k_is) boot_len (by decide) (cwb (sm (nm_C rfl (X.st _ _ gcN) hcN (spliced_none (len_l (X.st _ _ gN) (by exact om12q _ n11) fun te tk => spliced_none (call_range_2 ?_)))))))))))))
      refine wpAny_pyIter_range (a := 5) (b := (vs.length : Int)) (c := 1) (Heap.get?_push_size _ rfl) (small_one (by exact om13q) (by exact om14q) (by exact om15q _) (by exact om16q _ n11)) ?_
      rw [rangeSize_nat, show (((vs.length : Int) - 5).toNat : Int) = ((vs.length - 5 : Nat) : Int) from by exact om17q _]
      dsimp only
      generalize hH : (h.push _).push _ = H
      generalize hI : (h.push _).objs.size = I
      have hIs : h.objs.size < I := by rw [← hI, Heap.size_push]; exact Nat.lt_succ_self _
      have hst : IsRangeIter H I (5 : Int) ((vs.length - 5 : Nat) : Int) 1 := by rw [← hH, ← hI]; exact Heap.get?_push_size _ rfl
      have keep : h.StaysIn H := fun b o e => by rw [← hH]; exact Heap.get?_push_of_some _ (Heap.get?_push_of_some _ e)
      have XI := X.ext keep
      have nI := X.new (Nat.le_of_lt hIs)
      have gI : G.get? I = none := newG X.st (Nat.le_of_lt hIs)
      refine for_w (E := E) (Walks.range (A := A) hh I 5 1 (vs.length - 5)) (fun i s' => Ex7 fun (h : Heap) (tk : Nat) (m₁ : Str → Option Value) (ln : Addr) (ps : List Value) (Gn J : List Nat) => C11 (s' = { s with heap := h, toks := tk }) (LS G L p q r ln aC aT aP (m (Str.ofString "wish")) h m₁ ps (Gn.map fun i => pvs.getD i .none) (Gn.map fun i => tvs.getD i .none) (J.map fun i => tvs.getD i .none)) (ps.Perm (J.map fun i => pvs.getD i .none)) (HP (klt (kfH G)) 0 ps) (J.Pairwise (RR ys)) ((∀ j ∈ J, j < 5 + i)) ((∀ j ∈ Gn, j < 5 + i)) (J.length ≤ 5 + i) (5 ≤ J.length) (Gn.length ≤ i) (ln ≠ I)) ?_ ?_ ?_ (by simpa using hst)
      · rintro i s' hi ⟨h₁, tk₁, m₁, ln, ps, Gn, J, rfl, X₁, hperm, hhp, hpw, hJN, hGN, hJl, hJ5, hGl, hlnI⟩ v h₂ tk₂ ⟨tv, rfl⟩ hst₂ hkp
        have X₂ := X₁.skip (fun b o q e => hkp b o (by simpa using q) e) gI nI hlnI
        rw [show (5 : Int) + (i : Int) * 1 = ((5 + i : Nat) : Int) from by exact om18q _]
        refine wpAny_assign_Name (st_R X₂.ns fun h₃ tk₃ ns₃ k₃ => ?_)
        have X₃ := X₂.loc ns₃ k₃ (.inl rfl)
        refine wpAny_abs fun K₃ hK₃ => ?_
        -- deed
        have hcl := D.cl (5 + i) (by exact om19q _) (by exact om20q _ _ hi)
        have hcv : cvs.length = cs.length := D.ci.length
        have hcb := D.cb
        obtain ⟨c, tc, hc, hc0⟩ : ∃ c tc, at' cvs (i + 1) = .int c tc ∧ 0 ≤ c ∧ c < 1000000 := by
          have hlt : i + 1 < cvs.length := by exact om21q _ _ _ hcl hcv
          obtain ⟨c, tc, e, hcs⟩ := D.ci.at (i + 1) _ (List.getElem?_eq_getElem hlt)
          exact ⟨c, tc, by rw [at_eq hlt, e], D.c0 c (List.mem_of_getElem? hcs)⟩
        with_reducible refine wpAny_execs_cons ?_
        refine wpAny_Assign_Name (wpAny_BinOp (wpAny_BinOp (Subscript_ (nm_L X₃.ns X₃.mC (wpAny_BinOp (nm_L X₃.ns (if_pos rfl) (cI fun _ _ => sub_ fun _ _ => ?_)))))))
        rw [show ((5 + i : Nat) : Int) - 4 = ((i + 1 : Nat) : Int) from by exact om22q _]
        refine item_l (i := i + 1) (X₃.st _ _ gC) (by exact om21q _ _ _ hcl hcv) (by exact om23q _ _ hcv hcb) ?_
        rw [hc]
        refine cI fun _ _ => floordiv_int (by decide) (cI fun _ _ => mod_int (by decide) (st_R X₃.ns fun h₄ tk₄ ns₄ k₄ => ?_)) (Or.inl (PyProof.noPylong_small (by exact om24q)))
        have X₄ := X₃.loc ns₄ k₄ (.inr (.inl rfl))
        dsimp only
        have kI₄ : ∀ o, h₂.get? I = some o → h₄.get? I = some o := fun o e => k₄ _ o nI.1 (k₃ _ o nI.1 e)
        obtain ⟨oI, gI₂⟩ : ∃ oI, h₂.get? I = some oI := ⟨_, hst₂⟩
        have hp5 : 5 + i < vs.length := by exact om20q _ _ hi
        obtain ⟨i0, J', rfl⟩ : ∃ i0 J', J = i0 :: J' := by
          cases J with
          | nil => simp at hJ5
          | cons a b => exact ⟨a, b, rfl⟩
        have hJl' : J'.length + 1 ≤ 5 + i := hJl
        have hJ5' : 5 ≤ J'.length + 1 := hJ5
        have hJNs : ∀ j ∈ i0 :: J', j < vs.length := fun j hj => by have := hJN j hj; exact om25q _ _ _ hp5 this
        have hpJ : 5 + i ∉ i0 :: J' := fun hm => by have := hJN _ hm; exact om26q _ this
        have hpw' := (List.pairwise_cons.mp hpw)
        have hkP : ∀ {h : Heap}, G.StaysIn h → ∀ v ∈ ps, KeyAt false h v (kfH G v) := fun {h} k v hv => by
          obtain ⟨j, hj, rfl⟩ := List.mem_map.mp (hperm.mem_iff.mp hv)
          exact D.pK k (hJNs j hj)
        have hpsl : ps.length = J'.length + 1 := by rw [hperm.length_eq]; simp
        obtain ⟨pt, hps, hpt⟩ := V.root hperm hhp hpw hJNs
        have hroot : at' ps 0 = pvs.getD i0 .none := by rw [hps]; rfl
        with_reducible refine wpAny_execs_cons ?_
        refine wpAny_If (wpAny_isTrue_Compare1 (nm_L X₄.ns (if_pos rfl) (cI fun _ _ => eq_int (wpAny_truthy_bool ?_))))
        generalize (c.fdiv 5).fmod 3 = dd at *
        by_cases hd2 : dd = 2
        · rw [show (dd == 2) = true from by rw [hd2]; rfl, if_pos rfl]
          with_reducible refine wpAny_execs_cons ?_
          refine wpAny_Expr_any ?_
          with_reducible refine MC fun pl => ?_
          obtain ⟨cq, gq⟩ := X₄.gq
          obtain ⟨cp, gp⟩ := X₄.gp
          refine nm_L X₄.ns X₄.mq (gm_app gq (cwm (sm (Call_ (nm_K C X₄.st (by k_is) (cwK C.K (by k_is) (sm (nm_L X₄.ns X₄.mp (sm (Subscript_ (nm_L X₄.ns X₄.mP (nm_L X₄.ns rfl (item_l (i := 5 + i) (X₄.st _ _ gP) (by exact om27q _ _ _ hpl hp5) (by exact om1q _ _ n11 hpl) (spliced_none ⟨C.K.keeps X₄.st, ?_⟩))))))))))))))
          refine replace_call (kb := false) (kf := kfH G) C X₄.st gp X₄.np (hkP X₄.st) (D.pK X₄.st hp5) (ord_klt _) (by exact om7q _ _ hroom) (by exact om4q _ _ hu) (by exact om28q _ _ _ _ n11 hp5 hJl' hpsl) (by exact om29q _ _ hpsl) hhp fun h₅ tk₅ ps₅ c₅ b₅ gp₅ hp₅ hh₅ => ?_
          dsimp only
          have X₅ := X₄.setP b₅ gp₅
          obtain ⟨cq₅, gq₅⟩ := X₅.gq
          refine spliced_none (app_R gq₅ (by simp; exact om30q _ _ _ n11 hGl hp5) fun h₆ b₆ gq₆ => ?_)
          have X₆ := X₅.setQ b₆ gq₆
          dsimp only
          -- wanted.append(line[0])
          with_reducible refine wpAny_execs_cons ?_
          refine wpAny_Expr_any ?_
          with_reducible refine MC fun pl => ?_
          obtain ⟨cr, gr⟩ := X₆.gr
          obtain ⟨cl, gl⟩ := X₆.gl
          refine nm_L X₆.ns X₆.mr (gm_app gr (cwm (sm (Subscript_ (nm_L X₆.ns X₆.ml (cI fun _ _ => item_l (i := 0) gl (by simp) (by simp; exact om31q _ _ _ n11 hp5 hJl') (spliced_none (app_R gr (by simp; exact om30q _ _ _ n11 hGl hp5) fun h₇ b₇ gr₇ => ?_))))))))
          have X₇ := X₆.setR b₇ gr₇
          dsimp only
          have kI₇ : ∀ o, h₂.get? I = some o → h₇.get? I = some o := fun o e => b₇ _ o nI.2.2.2 (b₆ _ o nI.2.2.1 (b₅ _ o nI.2.1 (kI₄ o e)))
          -- line = sorted(line[1:] + [told[place]])
          with_reducible refine wpAny_execs_cons ?_
          obtain ⟨cl₇, gl₇⟩ := X₇.gl
          refine wpAny_Assign_Name ?_
          refine Call_ (nm_B C X₇.st (by k_is) boot_sorted (by decide) ?_)
          refine cwb (sm ?_)
          refine wpAny_BinOp ?_
          refine Subscript_ (nm_L X₇.ns X₇.ml ?_)
          refine sl_sn (cI fun _ _ => ?_)
          refine slice_from (n := 1) gl₇ (by simp; exact om31q _ _ _ n11 hp5 hJl') fun h₈ d S₈ hd gd => ?_
          have ns₈ := X₇.ns.at' fun o e => S₈ _ o e
          refine list1 ?_
          refine Subscript_ (nm_L ns₈ X₇.mT ?_)
          refine nm_L ns₈ rfl ?_
          refine item_l (i := 5 + i) (S₈ _ _ (X₇.st _ _ gT)) (by exact om27q _ _ _ htl hp5) (by exact om1q _ _ n11 htl) ?_
          refine add_R (Heap.get?_push_of_some _ gd) (Heap.get?_push_size _ rfl) (by simp; exact om31q _ _ _ n11 hp5 hJl') ?_
          refine spliced_none ?_
          generalize hH9 : Heap.push (Heap.push h₈ _) _ = H9
          have gz : H9.get? (Heap.push h₈ (lst [at' tvs (5 + i)] 0)).objs.size = some (lst ((J' ++ [5 + i]).map fun i => tvs.getD i .none) 0) := by
            rw [← hH9]
            have e : List.drop 1 (List.map (fun i => tvs.getD i .none) (i0 :: J')) ++ [at' tvs (5 + i)] = (J' ++ [5 + i]).map fun i => tvs.getD i .none := by simp
            rw [← e]
            exact Heap.get?_push_size _ rfl
          have S₉ : Heap.StaysIn h₇ H9 := fun b o e => by rw [← hH9]; exact Heap.get?_push_of_some _ (Heap.get?_push_of_some _ (S₈ b o e))
          have X₉ := X₇.ext S₉
          have hKn : (J' ++ [5 + i]).Nodup := (by rw [List.nodup_append]; exact ⟨(List.nodup_cons.mp (pw_nodup hpw)).2, by simp, fun x hx y hy e => hpJ (by rw [← List.mem_singleton.mp hy, ← e]; exact .tail _ hx)⟩)
          have hKN : ∀ j ∈ J' ++ [5 + i], j < vs.length := (fun j hj => by
            rcases List.mem_append.mp hj with q | q
            · exact hJNs j (.tail _ q)
            · rw [List.mem_singleton.mp q]; exact hp5)
          have hKl : (J' ++ [5 + i]).length = J'.length + 1 := by simp
          refine sorted_call (b := false) (kb := false) (kf := kfH G) (.inl ⟨rfl, rfl⟩) gz (by rw [List.length_map, hKl]; exact om32q _ hJ5') (by rw [List.length_map, hKl]; exact om33q _ _ _ n11 hp5 hJl') (fun v hv => ?_) fun h₁₀ c₁₀ tk₁₀ ln' S₁₀ hln' gln' => st_R (X₉.ns.at' fun o e => S₁₀ _ o e) fun h₁₁ tk₁₁ ns₁₁ k₁₁ => ?_
          · obtain ⟨j, hj, rfl⟩ := List.mem_map.mp hv
            exact D.tK X₉.st (hKN j hj)
          obtain ⟨K, eK, pK, wK⟩ := V.sort (K := J' ++ [5 + i]) hKn hKN (by rw [hKl]; exact om34q _)
          rw [eK] at gln'
          have nln := X₉.new hln'
          have X₁₁ := (X₉.ext S₁₀).line nln gln' ns₁₁ k₁₁
          have hIH : I < H9.objs.size := Heap.lt_size (S₉ _ _ (kI₇ _ gI₂))
          have hlnI' : ln' ≠ I := Nat.ne_of_gt (Nat.lt_of_lt_of_le hIH hln')
          rw [hroot, show at' (List.map (fun i => tvs.getD i .none) (i0 :: J')) 0 = tvs.getD i0 .none from rfl, snocM (fun i => pvs.getD i .none) Gn i0, snocM (fun i => tvs.getD i .none) Gn i0] at X₁₁
          dsimp only
          refine wpAny_execs_nil (wpAny_execs_nil (hK₃ .next _ ⟨⟨h₁₁, _, _, ln', ps₅, Gn ++ [i0], K, rfl, X₁₁, ?_, hh₅, wK, ?_, ?_, ?_, ?_, by simp; exact om35q _ _ hGl, hlnI'⟩, fun b hb o e => ?_⟩))
          · refine hp₅.trans ?_
            rw [hps]
            show (pvs.getD (5 + i) .none :: pt).Perm _
            refine (hpt.cons _).trans ?_
            exact ((List.perm_append_singleton (5 + i) J').symm.trans pK.symm).map fun i => pvs.getD i .none
          · intro j hj
            rcases List.mem_append.mp (pK.mem_iff.mp hj) with q | q
            · have := hJN j (.tail _ q); exact om36q _ _ this
            · rw [List.mem_singleton.mp q]; exact om37q _
          · intro j hj
            rcases List.mem_append.mp hj with q | q
            · have := hGN j q; exact om36q _ _ this
            · rw [List.mem_singleton.mp q]; have := hJN i0 (.head _); exact om36q _ _ this
          · rw [pK.length_eq, hKl]; exact om38q _ _ hJl'
          · rw [pK.length_eq, hKl]; exact om39q _ hJ5'
          · rw [List.mem_singleton.mp hb] at e ⊢
            exact k₁₁ _ o nI.1 (S₁₀ _ o (S₉ _ o (kI₇ o e)))
        · rw [show (dd == 2) = false from beq_eq_false_iff_ne.mpr hd2, if_neg (by decide)]
          with_reducible refine wpAny_execs_cons ?_
          refine wpAny_If (wpAny_isTrue_Compare1 (nm_L X₄.ns (if_pos rfl) (cI fun _ _ => eq_int (wpAny_truthy_bool ?_))))
          by_cases hd1 : dd = 1
          · rw [show (dd == 1) = true from by rw [hd1]; rfl, if_pos rfl]
            with_reducible refine wpAny_execs_cons ?_
            refine wpAny_Expr_any ?_
            with_reducible refine MC fun pl => ?_
            obtain ⟨cq, gq⟩ := X₄.gq
            obtain ⟨cp, gp⟩ := X₄.gp
            refine nm_L X₄.ns X₄.mq (gm_app gq (cwm (sm (Call_ (nm_K C X₄.st (by k_is) (cwK C.K (by k_is) (sm (nm_L X₄.ns X₄.mp (sm (Subscript_ (nm_L X₄.ns X₄.mP (nm_L X₄.ns rfl (item_l (i := 5 + i) (X₄.st _ _ gP) (by exact om27q _ _ _ hpl hp5) (by exact om1q _ _ n11 hpl) (spliced_none ⟨C.K.keeps X₄.st, ?_⟩))))))))))))))
            refine pushpop_call (kb := false) (kf := kfH G) C X₄.st gp X₄.np (hkP X₄.st) (D.pK X₄.st hp5) (ord_klt _) hh (by exact om7q _ _ hroom) (by exact om4q _ _ hu) (by exact om28q _ _ _ _ n11 hp5 hJl' hpsl) (by exact om29q _ _ hpsl) hhp fun h₅ tk₅ ps₅ c₅ r₅ b₅ gp₅ hh₅ hr₅ => ?_
            dsimp only
            have X₅ := X₄.setP b₅ gp₅
            obtain ⟨cq₅, gq₅⟩ := X₅.gq
            refine spliced_none (app_R gq₅ (by simp; exact om30q _ _ _ n11 hGl hp5) fun h₆ b₆ gq₆ => ?_)
            have X₆ := X₅.setQ b₆ gq₆
            dsimp only
            have kI₇ : ∀ o, h₂.get? I = some o → h₆.get? I = some o := fun o e => b₆ _ o nI.2.2.1 (b₅ _ o nI.2.1 (kI₄ o e))
            -- line = sorted(line + [told[place]])
            with_reducible refine wpAny_execs_cons ?_
            obtain ⟨cl₇, gl₇⟩ := X₆.gl
            refine wpAny_Assign_Name ?_
            refine Call_ (nm_B C X₆.st (by k_is) boot_sorted (by decide) ?_)
            refine cwb (sm ?_)
            refine wpAny_BinOp ?_
            refine nm_L X₆.ns X₆.ml ?_
            refine list1 ?_
            refine Subscript_ (nm_L X₆.ns X₆.mT ?_)
            refine nm_L X₆.ns rfl ?_
            refine item_l (i := 5 + i) (X₆.st _ _ gT) (by exact om27q _ _ _ htl hp5) (by exact om1q _ _ n11 htl) ?_
            refine add_R (Heap.get?_push_of_some _ gl₇) (Heap.get?_push_size _ rfl) (by simp; exact om40q _ _ _ n11 hp5 hJl') ?_
            refine spliced_none ?_
            generalize hH9 : Heap.push (Heap.push h₆ _) _ = H9
            have gz : H9.get? (Heap.push h₆ (lst [at' tvs (5 + i)] 0)).objs.size = some (lst (((i0 :: J') ++ [5 + i]).map fun i => tvs.getD i .none) 0) := by
              rw [← hH9]
              have e : List.map (fun i => tvs.getD i .none) (i0 :: J') ++ [at' tvs (5 + i)] = ((i0 :: J') ++ [5 + i]).map fun i => tvs.getD i .none := by simp
              rw [← e]
              exact Heap.get?_push_size _ rfl
            have S₉ : Heap.StaysIn h₆ H9 := fun b o e => by rw [← hH9]; exact Heap.get?_push_of_some _ (Heap.get?_push_of_some _ e)
            have X₉ := X₆.ext S₉
            have hKn : ((i0 :: J') ++ [5 + i]).Nodup := by
              rw [List.nodup_append]
              exact ⟨pw_nodup hpw, by simp, fun x hx y hy e => hpJ (by rw [← List.mem_singleton.mp hy, ← e]; exact hx)⟩
            have hKN : ∀ j ∈ (i0 :: J') ++ [5 + i], j < vs.length := fun j hj => by
              rcases List.mem_append.mp hj with q | q
              · exact hJNs j q
              · rw [List.mem_singleton.mp q]; exact hp5
            have hKl : ((i0 :: J') ++ [5 + i]).length = J'.length + 2 := by simp
            dsimp only
            refine sorted_call (b := false) (kb := false) (kf := kfH G) (.inl ⟨rfl, rfl⟩) gz (by rw [List.length_map, hKl]; exact om41q _) (by rw [List.length_map, hKl]; exact om42q _ _ _ n11 hp5 hJl') (fun v hv => ?_) fun h₁₀ c₁₀ tk₁₀ ln' S₁₀ hln' gln' => st_R (X₉.ns.at' fun o e => S₁₀ _ o e) fun h₁₁ tk₁₁ ns₁₁ k₁₁ => ?_
            · obtain ⟨j, hj, rfl⟩ := List.mem_map.mp hv
              exact D.tK X₉.st (hKN j hj)
            obtain ⟨K, eK, pK, wK⟩ := V.sort (K := (i0 :: J') ++ [5 + i]) hKn hKN (by rw [hKl]; exact om43q _)
            rw [eK] at gln'
            have nln := X₉.new hln'
            have X₁₁ := (X₉.ext S₁₀).line nln gln' ns₁₁ k₁₁
            have hIH : I < H9.objs.size := Heap.lt_size (S₉ _ _ (kI₇ _ gI₂))
            have hlnI' : ln' ≠ I := Nat.ne_of_gt (Nat.lt_of_lt_of_le hIH hln')
            have hKl' : K.length = J'.length + 2 := by rw [pK.length_eq, hKl]
            have hKN' : ∀ j ∈ K, j < 5 + (i + 1) := fun j hj => by
              rcases List.mem_append.mp (pK.mem_iff.mp hj) with q | q
              · have := hJN j q; exact om36q _ _ this
              · rw [List.mem_singleton.mp q]; exact om37q _
            dsimp only
            obtain ⟨k0, K', rfl⟩ : ∃ k0 K', K = k0 :: K' := by
              cases K with
              | nil => simp at hKl'
              | cons a b => exact ⟨a, b, rfl⟩
            have hKl₂ : K'.length = J'.length + 1 := by simpa using hKl'
            obtain ⟨hr1, hr2⟩ := V.pushpop hperm hhp hpw hJNs hp5 hpJ pK wK hr₅
            -- wanted.append(line[0])
            with_reducible refine wpAny_execs_cons ?_
            refine wpAny_Expr_any ?_
            with_reducible refine MC fun pl => ?_
            obtain ⟨cr, gr⟩ := X₁₁.gr
            obtain ⟨cl, gl⟩ := X₁₁.gl
            refine nm_L X₁₁.ns X₁₁.mr (gm_app gr (cwm (sm (Subscript_ (nm_L X₁₁.ns X₁₁.ml (cI fun _ _ => item_l (i := 0) gl (by simp) (by simp; exact om44q _ _ _ _ n11 hp5 hJl' hKl₂) (spliced_none (app_R gr (by simp; exact om30q _ _ _ n11 hGl hp5) fun h₁₂ b₁₂ gr₁₂ => ?_))))))))
            have X₁₂ := X₁₁.setR b₁₂ gr₁₂
            dsimp only
            -- line = line[1:]
            with_reducible refine wpAny_execs_cons ?_
            obtain ⟨cl₁₂, gl₁₂⟩ := X₁₂.gl
            refine wpAny_Assign_Name ?_
            refine Subscript_ (nm_L X₁₂.ns X₁₂.ml ?_)
            refine sl_sn (cI fun _ _ => ?_)
            refine slice_from (n := 1) gl₁₂ (by simp; exact om44q _ _ _ _ n11 hp5 hJl' hKl₂) fun h₁₃ d S₁₃ hd gd => ?_
            refine st_R (X₁₂.ns.at' fun o e => S₁₃ _ o e) fun h₁₄ tk₁₄ ns₁₄ k₁₄ => ?_
            have X₁₄ := (X₁₂.ext S₁₃).line (X₁₂.new hd) gd ns₁₄ k₁₄
            have kI₁₂ : ∀ o, h₂.get? I = some o → h₁₂.get? I = some o := fun o e => b₁₂ _ o nI.2.2.2 (k₁₁ _ o nI.1 (S₁₀ _ o (S₉ _ o (kI₇ o e))))
            have hdI : d ≠ I := Nat.ne_of_gt (Nat.lt_of_lt_of_le (Heap.lt_size (kI₁₂ _ gI₂)) hd)
            have e1 : List.drop 1 (List.map (fun i => tvs.getD i .none) (k0 :: K')) = List.map (fun i => tvs.getD i .none) K' := rfl
            rw [hr1, show at' (List.map (fun i => tvs.getD i .none) (k0 :: K')) 0 = tvs.getD k0 .none from rfl, snocM (fun i => pvs.getD i .none) Gn k0, snocM (fun i => tvs.getD i .none) Gn k0, e1] at X₁₄
            dsimp only
            refine wpAny_execs_nil (wpAny_execs_nil (wpAny_execs_nil (hK₃ .next _ ⟨⟨h₁₄, _, _, d, ps₅, Gn ++ [k0], K', rfl, X₁₄, hr2, hh₅, (List.pairwise_cons.mp wK).2, fun j hj => hKN' j (.tail _ hj), ?_, by exact om45q _ _ _ hJl' hKl₂, by exact om46q _ _ hJ5' hKl₂, by simp; exact om35q _ _ hGl, hdI⟩, fun b hb o e => ?_⟩)))
            · intro j hj
              rcases List.mem_append.mp hj with q | q
              · have := hGN j q; exact om36q _ _ this
              · rw [List.mem_singleton.mp q]; exact hKN' k0 (.head _)
            · rw [List.mem_singleton.mp hb] at e ⊢
              exact k₁₄ _ o nI.1 (S₁₃ _ o (kI₁₂ o e))
          · rw [show (dd == 1) = false from beq_eq_false_iff_ne.mpr hd1, if_neg (by decide)]
            with_reducible refine wpAny_execs_cons ?_
            obtain ⟨cp, gp⟩ := X₄.gp
            refine wpAny_Expr_any (Call_ (nm_K C X₄.st (by k_is) (cwK C.K (by k_is) (sm (nm_L X₄.ns X₄.mp (sm (Subscript_ (nm_L X₄.ns X₄.mP (nm_L X₄.ns rfl (item_l (i := 5 + i) (X₄.st _ _ gP) (by exact om27q _ _ _ hpl hp5) (by exact om1q _ _ n11 hpl) (spliced_none ⟨C.K.keeps X₄.st, ?_⟩)))))))))))
            refine push_call (kb := false) (kf := kfH G) C X₄.st gp X₄.np (hkP X₄.st) (D.pK X₄.st hp5) (ord_klt _) (by exact om7q _ _ hroom) (by exact om4q _ _ hu) (by exact om28q _ _ _ _ n11 hp5 hJl' hpsl) hhp fun h₅ tk₅ ps₅ c₅ b₅ gp₅ hp₅ hh₅ => ?_
            have X₅ := X₄.setP b₅ gp₅
            dsimp only
            have kI₇ : ∀ o, h₂.get? I = some o → h₅.get? I = some o := fun o e => b₅ _ o nI.2.1 (kI₄ o e)
            -- line = sorted(line + [told[place]])
            with_reducible refine wpAny_execs_cons ?_
            obtain ⟨cl₇, gl₇⟩ := X₅.gl
            refine wpAny_Assign_Name ?_
            refine Call_ (nm_B C X₅.st (by k_is) boot_sorted (by decide) ?_)
            refine cwb (sm ?_)
            refine wpAny_BinOp ?_
            refine nm_L X₅.ns X₅.ml ?_
            refine list1 ?_
            refine Subscript_ (nm_L X₅.ns X₅.mT ?_)
            refine nm_L X₅.ns rfl ?_
            refine item_l (i := 5 + i) (X₅.st _ _ gT) (by exact om27q _ _ _ htl hp5) (by exact om1q _ _ n11 htl) ?_
            refine add_R (Heap.get?_push_of_some _ gl₇) (Heap.get?_push_size _ rfl) (by simp; exact om40q _ _ _ n11 hp5 hJl') ?_
            refine spliced_none ?_
            generalize hH9 : Heap.push (Heap.push h₅ _) _ = H9
            have gz : H9.get? (Heap.push h₅ (lst [at' tvs (5 + i)] 0)).objs.size = some (lst (((i0 :: J') ++ [5 + i]).map fun i => tvs.getD i .none) 0) := by
              rw [← hH9]
              have e : List.map (fun i => tvs.getD i .none) (i0 :: J') ++ [at' tvs (5 + i)] = ((i0 :: J') ++ [5 + i]).map fun i => tvs.getD i .none := by simp
              rw [← e]
              exact Heap.get?_push_size _ rfl
            have S₉ : Heap.StaysIn h₅ H9 := fun b o e => by rw [← hH9]; exact Heap.get?_push_of_some _ (Heap.get?_push_of_some _ e)
            have X₉ := X₅.ext S₉
            have hKn : ((i0 :: J') ++ [5 + i]).Nodup := by
              rw [List.nodup_append]
              exact ⟨pw_nodup hpw, by simp, fun x hx y hy e => hpJ (by rw [← List.mem_singleton.mp hy, ← e]; exact hx)⟩
            have hKN : ∀ j ∈ (i0 :: J') ++ [5 + i], j < vs.length := fun j hj => by
              rcases List.mem_append.mp hj with q | q
              · exact hJNs j q
              · rw [List.mem_singleton.mp q]; exact hp5
            have hKl : ((i0 :: J') ++ [5 + i]).length = J'.length + 2 := by simp
            dsimp only
            refine sorted_call (b := false) (kb := false) (kf := kfH G) (.inl ⟨rfl, rfl⟩) gz (by rw [List.length_map, hKl]; exact om41q _) (by rw [List.length_map, hKl]; exact om42q _ _ _ n11 hp5 hJl') (fun v hv => ?_) fun h₁₀ c₁₀ tk₁₀ ln' S₁₀ hln' gln' => st_R (X₉.ns.at' fun o e => S₁₀ _ o e) fun h₁₁ tk₁₁ ns₁₁ k₁₁ => ?_
            · obtain ⟨j, hj, rfl⟩ := List.mem_map.mp hv
              exact D.tK X₉.st (hKN j hj)
            obtain ⟨K, eK, pK, wK⟩ := V.sort (K := (i0 :: J') ++ [5 + i]) hKn hKN (by rw [hKl]; exact om43q _)
            rw [eK] at gln'
            have nln := X₉.new hln'
            have X₁₁ := (X₉.ext S₁₀).line nln gln' ns₁₁ k₁₁
            have hIH : I < H9.objs.size := Heap.lt_size (S₉ _ _ (kI₇ _ gI₂))
            have hlnI' : ln' ≠ I := Nat.ne_of_gt (Nat.lt_of_lt_of_le hIH hln')
            have hKl' : K.length = J'.length + 2 := by rw [pK.length_eq, hKl]
            have hKN' : ∀ j ∈ K, j < 5 + (i + 1) := fun j hj => by
              rcases List.mem_append.mp (pK.mem_iff.mp hj) with q | q
              · have := hJN j q; exact om36q _ _ this
              · rw [List.mem_singleton.mp q]; exact om37q _
            dsimp only
            refine wpAny_execs_nil (wpAny_execs_nil (wpAny_execs_nil (hK₃ .next _ ⟨⟨h₁₁, _, _, ln', ps₅, Gn, K, rfl, X₁₁, ?_, hh₅, wK, hKN', fun j hj => by have := hGN j hj; exact om36q _ _ this, by exact om47q _ _ _ hJl' hKl', by exact om48q _ _ hJ5' hKl', by exact om49q _ _ hGl, hlnI'⟩, fun b hb o e => ?_⟩)))
            · refine hp₅.trans ((hperm.cons _).trans ?_)
              exact ((List.perm_append_singleton (5 + i) (i0 :: J')).symm.trans pK.symm).map fun i => pvs.getD i .none
            · rw [List.mem_singleton.mp hb] at e ⊢
              exact k₁₁ _ o nI.1 (S₁₀ _ o (S₉ _ o (kI₇ o e)))
      · rintro s' ⟨h₁, tk₁, m₁, ln, ps, Gn, J, rfl, X₁, hperm, hhp, hpw, hJN, hGN, hJl, hJ5, hGl, hlnI⟩ h₂ tk₂ hkp
        have hN : 5 + (vs.length - 5) = vs.length := by exact om50q _ n5
        rw [hN] at hJN hGN hJl
        exact hKK .next _ ⟨h₂, tk₂, m₁, ln, ps, Gn, J, rfl, X₁.skip (fun b o q e => hkp b o (by simpa using q) e) gI nI hlnI, hperm, hhp, hpw, hJN, hGN, by exact om51q _ _ n11 hJl, by exact om52q _ _ n11 hGl⟩
      · exact ⟨H, _, m', ln, ps₃, [], J₀, rfl, XI, hp₃.trans (pJ₀.map _).symm, hh₃, wJ₀, fun j hj => by have := List.mem_range.mp (pJ₀.mem_iff.mp hj); exact om53q _ this, fun j hj => (by cases hj), by rw [pJ₀.length_eq]; simp, by rw [pJ₀.length_eq]; simp, by simp, by
          obtain ⟨_, e⟩ := X.gl
          exact Nat.ne_of_lt (Nat.lt_trans (Heap.lt_size e) hIs)⟩
  · refine wpAny_abs fun KK hKK => ?_
    refine Assign_Tuple_swapped (names := [Str.ofString "gone", Str.ofString "wanted"]) (tup2 (list0 (list0 ?_)))
    dsimp only
    generalize hH1 : h₆.push (lst [] 0) = H1
    generalize hH2 : H1.push (lst [] 0) = H2
    generalize hH3 : H2.push _ = H3
    have sz1 : H1.objs.size = h₆.objs.size + 1 := by rw [← hH1, Heap.size_push]
    have sz2 : H2.objs.size = h₆.objs.size + 2 := by rw [← hH2, Heap.size_push, sz1]
    have up1 : ∀ b o, h₆.get? b = some o → H1.get? b = some o := fun b o e => by rw [← hH1]; exact Heap.get?_push_of_some _ e
    have up2 : ∀ b o, H1.get? b = some o → H2.get? b = some o := fun b o e => by rw [← hH2]; exact Heap.get?_push_of_some _ e
    have up3 : ∀ b o, H2.get? b = some o → H3.get? b = some o := fun b o e => by rw [← hH3]; exact Heap.get?_push_of_some _ e
    have gq : H3.get? h₆.objs.size = some (lst [] 0) := up3 _ _ (up2 _ _ (by rw [← hH1]; exact Heap.get?_push_size _ rfl))
    have gr : H3.get? H1.objs.size = some (lst [] 0) := up3 _ _ (by rw [← hH2]; exact Heap.get?_push_size _ rfl)
    have gt : H3.IsTuple H2.objs.size #[.ref h₆.objs.size, .ref H1.objs.size] := ⟨_, by rw [← hH3]; exact Heap.get?_push_size _ rfl, rfl, _, rfl⟩
    refine wpAny_unpackItems_tuple (items := #[.ref h₆.objs.size, .ref H1.objs.size]) hh gt fun H4 x4 => ?_
    have up4 : ∀ b o, H3.get? b = some o → H4.get? b = some o := fun b o e => x4 b o (Nat.ne_of_lt (Heap.lt_size e)) e
    show wpAny _ _ (assignInOrder [bindName _ (Str.ofString "wanted"), bindName _ (Str.ofString "gone")] [.ref H1.objs.size, .ref h₆.objs.size]) _ _ _
    have up : ∀ b o, h₆.get? b = some o → H4.get? b = some o := fun b o e => up4 b o (up3 b o (up2 b o (up1 b o e)))
    refine assignInOrder_cons (wpAny_bindName (st_R (ns₆.at' fun o e => up _ o e) fun h₇ tk₇ ns₇ k₇ => ?_))
    refine assignInOrder_cons (wpAny_bindName (st_R ns₇ fun h₈ tk₈ ns₈ k₈ => ?_))
    refine assignInOrder_nil ?_
    have up8 : ∀ b o, b ≠ L → H4.get? b = some o → h₈.get? b = some o := fun b o q e => k₈ b o q (k₇ b o q e)
    have hL6 : L < h₆.objs.size := ns₆.lt
    have hp6 : p < h₆.objs.size := Heap.lt_size gp₆
    refine hKK .next _ ?_
    refine ⟨h₈, _, _, h₆.objs.size, H1.objs.size, rfl, ⟨stG (fun b o e => up b o (S₆ b o e)) D.gL up8, ns₈, rfl, rfl, rfl, rfl, eC, eT, eP, rfl, ⟨_, up8 _ _ (Nat.ne_of_gt hLp) (up _ _ gp₆)⟩, ⟨_, up8 _ _ (Nat.ne_of_gt hL6) (up4 _ _ gq)⟩, ⟨_, up8 _ _ (by rw [sz1]; exact Nat.ne_of_gt (Nat.lt_succ_of_lt hL6)) (up4 _ _ gr)⟩, ⟨_, up8 _ _ (Nat.ne_of_gt hLln) (up _ _ gln₆)⟩, ?_, D.gL, gpn, newG S₆ (Nat.le_refl _), newG S₆ (by rw [sz1]; exact Nat.le_succ _)⟩⟩
    rw [sz1]
    have a1 : L < (h₆.objs.size : Nat) := hL6
    have a2 : (p : Nat) < h₆.objs.size := hp6
    have a3 : (ln : Nat) < h₆.objs.size := hln₆
    exact nd5 L p h₆.objs.size ln hLp hpln hln₆
end
end Mine
end
section
open PySem PySem.W PyProof.Rows PySem.Calls
set_option Elab.async false
set_option linter.all false
set_option maxRecDepth 100000
namespace Mine
theorem fill38 (w : World) (g : Heap) : (hd.heap_1 w.params).In g → PySem.Challenge.rw_mr0283_01.row.prog = PySem.Challenge.rw_mr0283_01.row.prog := by
  k_fill
  intro _; rfl
theorem order_one {lt : Nat → Nat → Bool} (o : SW lt) {p J : List Nat} {N : Nat} (h1 : p.Perm (List.range N)) (h2 : p.Pairwise (lt2 lt)) (h3 : J.Perm (List.range N)) (h4 : J.Pairwise (lt2 lt)) : p = J :=
  List.Perm.eq_of_pairwise (le := lt2 lt) (fun a b _ _ h h' => (lt2_asy o h h').elim) h2 h4 (h1.trans h3.symm)
section
variable {prog : Program} {w : World} {A : Around} {E : Value → Shared → Prop} {s : Shared} {mg mb : Str → Option Value}
  {G : Heap} {L aN aR aT aP aC : Addr} {vs : List Value} {ys : List Str} {rws tvs pvs cvs : List Value} {cs : List Int}

set_option maxHeartbeats 4000000 in
theorem law_E2 {oc : Value} {od : Option Addr} {osl : Array (Option Value)} {name qual : Str} {params : Arguments} {body : List Stmt} {scope : Scope} {dV kV doc pm cdv ct : Value} {an : Option Addr}
    (ho : (hd.heap_1 w.params).lookup 136 = some ⟨oc, od, .func (fnOf name qual params body scope dV kV doc pm an cdv ct), osl⟩) {fa : Addr} {cdv' : Value}
    {m : Str → Option Value} {Q : Flow → Shared → Prop} {n : Nat} {t : Tok} {aF aL : Addr} {cF cL : Nat} {J J' : List Nat} (D : LawD G L aN aR aT aP aC vs ys rws tvs pvs cvs cs) (C : Cx w mg mb G)
    {fe : Env} (hfe : fe.frame = some L) (hfk : fe.scope.kind ≠ .module) (hfr : A.frames = some [fe]) (S : G.StaysIn s.heap) (ns : s.heap.Ns L m) (eW : m (Str.ofString "wish") = some (.int (n : Int) t)) (hn : n ≤ 40) (eF : m (Str.ofString "first") = some (.ref aF)) (eL : m (Str.ofString "last") = some (.ref aL))
    (gF : s.heap.get? aF = some (lst (J.map fun i => vs.getD i .none) cF)) (gL : s.heap.get? aL = some (lst (J'.map fun i => vs.getD i .none) cL)) (hFL : aF ≠ L) (hLL : aL ≠ L)
    (pJ : J.Perm (List.range vs.length)) (wJ : J.Pairwise (lt2 (ltB false ys))) (pJ' : J'.Perm (List.range vs.length)) (wJ' : J'.Pairwise (lt2 (ltB true ys)))
    (hh : A.handled = none) (hroom : A.depth + 7 < recursionLimit) (hu : A.units + 100 < cLine)
    (hQ : ∀ h tk, G.StaysIn h → Q (.ret (.bool true)) { s with heap := h, toks := tk }) :
    wpAny (model prog w) A (execs (body.drop 15) (envOfC qual scope L fa cdv')) Q E s := by
  obtain ⟨rfl, rfl, rfl, rfl⟩ := same_fn ho (by k_is)
  simp only [List.drop_succ_cons, List.drop_zero]
  clear ho
  have n5 := D.n5
  have n11 := D.n11
  obtain ⟨oN, gcN, hcN⟩ := D.cN
  obtain ⟨cN, gN⟩ := D.gN
  have hfrs : frs [fe] = [L] := by simp [hfe]
  have ff : ∀ {h : Heap}, h.Ns L m → h.FunFrames G [fe] := fun {h} k => Heap.FunFrames.cons hfk hfe k D.gL trivial
  have hng : ∀ b ∈ frs [fe], G.get? b = none := fun b hb => by rw [hfrs] at hb; rw [List.mem_singleton.mp hb]; exact D.gL
  have hlX : aN ∉ frs [fe] := fun q => by rw [hfrs] at q; rw [List.mem_singleton.mp q, D.gL] at gN; cases gN
  -- if nsmallest(wish, .., key=capwords) != first[:wish]
  with_reducible refine wpAny_execs_cons ?_
  refine wpAny_If (wpAny_isTrue_Compare1 (wpAny_Call_Name_kw (nm_K C S (by k_is) (callWith_KW C.K (by k_is) (by rfl) (sm (nm_L ns eW (sm ?_)))))))
  refine wpAny_mono (Q := fun v s' => ∃ X a h tk, v = .ref a ∧ s' = { s with heap := h, toks := tk } ∧ s.heap.StaysIn h ∧ ((X = [] ∧ a = aN) ∨ (X = [a] ∧ h.IsListIter a aN 0 ∧ G.get? a = none ∧ a ≠ aN)) ∧ (∀ b ∈ X, s.heap.objs.size ≤ b)) (E := E) ?_ (fun v s' hv => ?_) fun _ _ x => x
  · refine IfExp_ (isTrue_plain (wpAny_BinOp (nm_L ns eW (cI fun _ _ => mod_int (by decide) (PyProof.Rows.truthy_int ?_)))))
    split
    · refine Call_ (nm_B C S (by k_is) boot_iter' (by decide) (cwb (sm (nm_C rfl (S _ _ gcN) hcN (spliced_none (iter_list (PySem.IsL.isList (n := cN) (S _ _ gN)) ?_))))))
      refine ⟨[s.heap.objs.size], s.heap.objs.size, _, _, rfl, rfl, fun b o e => Heap.get?_push_of_some _ e, .inr ⟨rfl, ⟨_, Heap.get?_push_size _ rfl, rfl, rfl⟩, S.fresh, ?_⟩, fun b hb => by rw [List.mem_singleton.mp hb]; exact Nat.le_refl _⟩
      exact Nat.ne_of_gt (Heap.lt_size (S _ _ gN))
    · exact nm_C rfl (S _ _ gcN) hcN ⟨[], aN, s.heap, _, rfl, rfl, fun b o e => e, .inl ⟨rfl, rfl⟩, fun b hb => by cases hb⟩
  obtain ⟨X, a, h₁, tk₁, rfl, rfl, K₁, hsrc, hXn⟩ := hv
  have S₁ : G.StaysIn h₁ := fun b o e => K₁ b o (S b o e)
  have ns₁ : h₁.Ns L m := ns.at' fun o e => K₁ _ o e
  refine spliced_none (kws_cons (nm_K C S₁ (by k_is) (kws_nil ⟨C.K.keeps S₁, ?_⟩)))
  refine nsmallest_call (X := X) (vs := vs) (ys := ys) (nl := cN) (base := G) C S₁ hfr (ff ns₁) hng hsrc hlX (S₁ _ _ gN) D.hst D.hx (by exact om125q _ n5) (by exact om126q _ n11) (by exact om127q _ hn) hh (by exact om128q _ _ hroom) (by exact om129q _ _ hu) fun h₂ tk₂ D₂ out c₂ kp₂ ups₂ hD₂ gD₂ htop => ?_
  have keepS : ∀ b o, b ≠ L → s.heap.get? b = some o → h₂.get? b = some o := fun b o q e => kp₂ b o (by rw [hfrs]; exact fun z => q (List.mem_singleton.mp z)) (fun z => absurd (Heap.lt_size e) (Nat.not_lt.mpr (hXn b z))) (K₁ b o e)
  have S₂ : G.StaysIn h₂ := fun b o e => keepS b o (fun q => by rw [q, D.gL] at e; cases e) (S b o e)
  have ns₂ : h₂.Ns L m := ups₂.ns ns₁
  have hJl : J.length = vs.length := by rw [pJ.length_eq]; simp
  have hJl' : J'.length = vs.length := by rw [pJ'.length_eq]; simp
  dsimp only
  refine Subscript_ (nm_L ns₂ eF (sl_ns (nm_L ns₂ eW (slice_upto (keepS _ _ hFL gF) (by rw [List.length_map]; exact om1q _ _ n11 hJl) fun h₃ D₃ S₃ hD₃ gD₃ => ?_))))
  obtain ⟨p, hp1, hp2, hp3⟩ := htop
  obtain rfl : p = J := order_one (sw_ltB false ys) hp1 hp2 pJ wJ
  refine ne_list (S₃ _ _ gD₂) gD₃ (by rw [hp3, List.map_take]) (by exact om130q _ _ hu) (fun j u v h1 h2 => ?_) (wpAny_truthy_bool ?_)
  · rw [hp3, List.map_take] at h1
    rw [h1] at h2
    cases h2
    exact SeqAt.EqAt.same _
  rw [if_neg (by decide)]
  refine wpAny_execs_nil ?_
  dsimp only
  -- return nlargest(wish, .., key=capwords) == last[:wish]
  have S₃' : G.StaysIn h₃ := fun b o e => S₃ b o (S₂ b o e)
  have ns₃ : h₃.Ns L m := ns₂.at' fun o e => S₃ _ o e
  have gL₃ := S₃ _ _ (keepS _ _ hLL gL)
  generalize hs3 : ({ heap := h₃, gens := s.gens, drawn := s.drawn, toks := tk₂, os := s.os } : Shared) = s₃
  have es3 : s₃.heap = h₃ := by rw [← hs3]
  rw [← es3] at S₃' ns₃ gL₃
  with_reducible refine wpAny_execs_cons (wpAny_Return_some ?_)
  refine wpAny_Compare1 (wpAny_Call_Name_kw (nm_K C S₃' (by k_is) (callWith_KW C.K (by k_is) (by rfl) (sm (nm_L ns₃ eW (sm ?_))))))
  refine wpAny_mono (Q := fun v s' => ∃ X a h tk, v = .ref a ∧ s' = { s₃ with heap := h, toks := tk } ∧ s₃.heap.StaysIn h ∧ ((X = [] ∧ a = aN) ∨ (X = [a] ∧ h.IsListIter a aN 0 ∧ G.get? a = none ∧ a ≠ aN)) ∧ (∀ b ∈ X, s₃.heap.objs.size ≤ b)) (E := E) ?_ (fun v s' hv => ?_) fun _ _ x => x
  · refine IfExp_ (isTrue_plain (wpAny_BinOp (nm_L ns₃ eW (cI fun _ _ => mod_int (by decide) (PyProof.Rows.truthy_int ?_)))))
    split
    · exact nm_C rfl (S₃' _ _ gcN) hcN ⟨[], aN, s₃.heap, _, rfl, rfl, fun b o e => e, .inl ⟨rfl, rfl⟩, fun b hb => by cases hb⟩
    · refine Call_ (nm_B C S₃' (by k_is) boot_iter' (by decide) (cwb (sm (nm_C rfl (S₃' _ _ gcN) hcN (spliced_none (iter_list (PySem.IsL.isList (n := cN) (S₃' _ _ gN)) ?_))))))
      refine ⟨[s₃.heap.objs.size], s₃.heap.objs.size, _, _, rfl, rfl, fun b o e => Heap.get?_push_of_some _ e, .inr ⟨rfl, ⟨_, Heap.get?_push_size _ rfl, rfl, rfl⟩, S₃'.fresh, ?_⟩, fun b hb => by rw [List.mem_singleton.mp hb]; exact Nat.le_refl _⟩
      exact Nat.ne_of_gt (Heap.lt_size (S₃' _ _ gN))
  obtain ⟨X', a', h₄, tk₄, rfl, rfl, K₄, hsrc', hXn'⟩ := hv
  have S₄ : G.StaysIn h₄ := fun b o e => K₄ b o (S₃' b o e)
  have ns₄ : h₄.Ns L m := ns₃.at' fun o e => K₄ _ o e
  refine spliced_none (kws_cons (nm_K C S₄ (by k_is) (kws_nil ⟨C.K.keeps S₄, ?_⟩)))
  refine nlargest_call (X := X') (vs := vs) (ys := ys) (nl := cN) (base := G) C S₄ hfr (ff ns₄) hng hsrc' hlX (S₄ _ _ gN) D.hst D.hx (by exact om125q _ n5) (by exact om126q _ n11) (by exact om127q _ hn) hh (by exact om128q _ _ hroom) (by exact om129q _ _ hu) fun h₅ tk₅ D₅ out' c₅ kp₅ ups₅ hD₅ gD₅ htop' => ?_
  have keepS' : ∀ b o, b ≠ L → s₃.heap.get? b = some o → h₅.get? b = some o := fun b o q e => kp₅ b o (by rw [hfrs]; exact fun z => q (List.mem_singleton.mp z)) (fun z => absurd (Heap.lt_size e) (Nat.not_lt.mpr (hXn' b z))) (K₄ b o e)
  have S₅ : G.StaysIn h₅ := fun b o e => keepS' b o (fun q => by rw [q, D.gL] at e; cases e) (S₃' b o e)
  have ns₅ : h₅.Ns L m := ups₅.ns ns₄
  dsimp only
  refine Subscript_ (nm_L ns₅ eL (sl_ns (nm_L ns₅ eW (slice_upto (keepS' _ _ hLL gL₃) (by rw [List.length_map]; exact om1q _ _ n11 hJl') fun h₆ D₆ S₆ hD₆ gD₆ => ?_))))
  obtain ⟨p', hp1', hp2', hp3'⟩ := htop'
  obtain rfl : p' = J' := order_one (sw_ltB true ys) hp1' hp2' pJ' wJ'
  refine eq_list (S₆ _ _ gD₅) gD₆ (by rw [hp3', List.map_take]) (by exact om130q _ _ hu) (fun j u v h1 h2 => ?_) ?_
  · rw [hp3', List.map_take] at h1
    rw [h1] at h2
    cases h2
    exact SeqAt.EqAt.same _
  subst hs3
  exact hQ h₆ _ fun b o e => S₆ b o (S₅ b o e)
end
end Mine
end
section
open PySem PySem.W PyProof.Rows PySem.Calls
set_option Elab.async false
set_option linter.all false
set_option maxRecDepth 100000
namespace Mine
theorem fill39 (w : World) (g : Heap) : (hd.heap_1 w.params).In g → PySem.Challenge.rw_mr0283_01.row.prog = PySem.Challenge.rw_mr0283_01.row.prog := by
  k_fill
  intro _; rfl
theorem ns_get {h : Heap} {L : Addr} {m : Str → Option Value} (n : h.Ns L m) : ∃ o, h.get? L = some o := by
  obtain ⟨o, _, _, ho, _⟩ := n
  exact ⟨o, ho⟩
/-- the order turned about: told texts with their places below nought -/
theorem srt_back {ys : List Str} {N : Nat} {kf : Value → Key} {us : List Value} (hl : us.length = N) (h1 : 1 ≤ N) (hx : ∀ i, i < N → ∀ c ∈ raw (ys.getD i ⟨#[]⟩), Al c = true) (hk : ∀ i, i < N → kf (us.getD i .none) = ⟨toldK (ys.getD i ⟨#[]⟩), -(i : Int), []⟩) :
    ∃ J : List Nat, srt true (klt kf) us us = J.map (fun i => us.getD i .none) ∧ J.Perm (List.range N) ∧ J.Pairwise (lt2 (ltB true ys)) := by
  have hs := srt_spec (b := true) (kf := kf) (rs := us) (by exact om114q _ _ hl h1)
  have e0 : us = (List.range N).map fun i => us.getD i .none := by rw [← hl, map_getD_range]
  have hp : (srt true (klt kf) us us).Perm ((List.range N).map fun i => us.getD i .none) := by rw [← e0]; exact hs.1
  obtain ⟨J, pJ, eJ⟩ := perm_map hp
  refine ⟨J, eJ, pJ, ?_⟩
  have h2 := hs.2
  rw [eJ, List.pairwise_map] at h2
  have nd : J.Nodup := pJ.nodup_iff.mpr List.nodup_range
  refine (h2.and nd).imp_of_mem fun {a b} ha hb h => ?_
  rcases lt2_tri (lt := ltB true ys) a b h.2 with q | q
  · exact q
  · exfalso
    have ha' := List.mem_range.mp (pJ.mem_iff.mp ha)
    have hb' := List.mem_range.mp (pJ.mem_iff.mp hb)
    have h3 : klt kf (us.getD a .none) (us.getD b .none) = false := h.1
    unfold klt at h3
    rw [hk a ha', hk b hb', Bool.eq_false_iff, Ne, Key.lt_iff] at h3
    apply h3
    simp only
    rw [told_lt (hx a ha') (hx b hb'), told_eq (hx a ha') (hx b hb')]
    rcases q with q | q
    · exact .inl (of_decide_eq_true q)
    · have q1 : ¬ capK (ys.getD b ⟨#[]⟩) < capK (ys.getD a ⟨#[]⟩) := of_decide_eq_false q.1
      rcases List.lt_tri (capK (ys.getD a ⟨#[]⟩)) (capK (ys.getD b ⟨#[]⟩)) with z | z | z
      · exact .inl z
      · exact .inr ⟨z, .inl (by omega)⟩
      · exact absurd z q1
section
variable {M : Model} {A : Around} {E : Value → Shared → Prop} {s : Shared} {env : Env} {e : PySem.Expr} {rest : List PySem.Expr} {pos : Pos}
theorem cwk {id : String} {kws : List Keyword} {Q : Value → Shared → Prop}
    (h : wpAny M A (spliced (backTo pos (starEach (e :: rest) env))) (fun vs s₁ => wpAny M A (evalAll ((backToKw pos (keywordEach kws env)).map (·.2)))
      (fun kvs s₂ => wpAny M A (call (.builtin id) vs (((backToKw pos (keywordEach kws env)).filterMap (·.1)).zip kvs)) Q E s₂) E s₁) E s)
    (hn : (e :: rest).all NS = true := by rfl)
    (hall : (backToKw pos (keywordEach kws env)).all (·.1.isSome) = true := by rfl)
    (hkw : (backToKw pos (keywordEach kws env)).any (·.1.isNone) = false := by rfl) :
    wpAny M A (callWith pos (.builtin id) [] (backTo pos (starEach (e :: rest) env)) (backToKw pos (keywordEach kws env))) Q E s := by
  have h2 := star_any hn pos env
  rw [List.all_cons, Bool.and_eq_true] at hn
  exact callWith_kw h (by rw [star_ns hn.1]; rfl) h2 hall hkw
end
section
variable {prog : Program} {w : World} {A : Around} {E : Value → Shared → Prop} {s : Shared} {mg mb : Str → Option Value}
  {G : Heap} {L aN aR aT aP aC : Addr} {vs : List Value} {ys : List Str} {rws tvs pvs cvs : List Value} {cs : List Int}

set_option maxHeartbeats 4000000 in
theorem law_E1 {oc : Value} {od : Option Addr} {osl : Array (Option Value)} {name qual : Str} {params : Arguments} {body : List Stmt} {scope : Scope} {dV kV doc pm cdv ct : Value} {an : Option Addr}
    (ho : (hd.heap_1 w.params).lookup 136 = some ⟨oc, od, .func (fnOf name qual params body scope dV kV doc pm an cdv ct), osl⟩) {fa : Addr} {cdv' : Value}
    {m : Str → Option Value} {Q : Flow → Shared → Prop} {n : Nat} {t : Tok} (D : LawD G L aN aR aT aP aC vs ys rws tvs pvs cvs cs) (C : Cx w mg mb G)
    {fe : Env} (hfe : fe.frame = some L) (hfk : fe.scope.kind ≠ .module) (hfr : A.frames = some [fe]) (S : G.StaysIn s.heap) (ns : s.heap.Ns L m) (eW : m (Str.ofString "wish") = some (.int (n : Int) t)) (hn : n ≤ 40) (eT : m (Str.ofString "told") = some (.ref aT))
    (hh : A.handled = none) (hroom : A.depth + 7 < recursionLimit) (hu : A.units + 100 < cLine)
    (hQ : ∀ h tk, G.StaysIn h → Q (.ret (.bool true)) { s with heap := h, toks := tk }) :
    wpAny (model prog w) A (execs (body.drop 13) (envOfC qual scope L fa cdv')) Q E s := by
  obtain ⟨rfl, rfl, rfl, rfl⟩ := same_fn ho (by k_is)
  simp only [List.drop_succ_cons, List.drop_zero]
  have n5 := D.n5
  have n11 := D.n11
  have V := D.lv
  have htl := D.tl
  obtain ⟨oN, gcN, hcN⟩ := D.cN
  obtain ⟨cN, gN⟩ := D.gN
  obtain ⟨cT, gT⟩ := D.gT
  have hLs : L < s.heap.objs.size := ns.lt
  -- first
  refine execs_cut (P := fun s' => Ex6 fun h tk m' aF cF J => C10 (s' = { s with heap := h, toks := tk }) (G.StaysIn h) (h.Ns L m') (m' (Str.ofString "wish") = some (.int (n : Int) t)) (m' (Str.ofString "told") = some (.ref aT)) (m' (Str.ofString "first") = some (.ref aF)) (aF ≠ L) (h.get? aF = some (lst (List.map (fun i => vs.getD i .none) J) cF)) (J.Perm (List.range vs.length)) (J.Pairwise (lt2 (ltB false ys)))) ?_ ?_
  · rintro s' ⟨h, tk, m', aF, cF, J, rfl, S₁, ns₁, eW₁, eT₁, eF, hFL, gF, pJ, wJ⟩
    -- last
    have hLs₁ : L < h.objs.size := ns₁.lt
    refine execs_cut (P := fun s' => Ex6 fun h tk m' aL cL J' => C11 (s' = { s with heap := h, toks := tk }) (G.StaysIn h) (h.Ns L m') (m' (Str.ofString "wish") = some (.int (n : Int) t)) (m' (Str.ofString "first") = some (.ref aF)) (m' (Str.ofString "last") = some (.ref aL)) (aL ≠ L) (h.get? aL = some (lst (List.map (fun i => vs.getD i .none) J') cL)) (J'.Perm (List.range vs.length)) (J'.Pairwise (lt2 (ltB true ys))) (h.get? aF = some (lst (List.map (fun i => vs.getD i .none) J) cF))) ?_ ?_
    · rintro s' ⟨h₂, tk₂, m₂, aL, cL, J', rfl, S₂, ns₂, eW₂, eF₂, eL, hLL, gL, pJ', wJ', gF₂⟩
      exact law_E2 ho D C hfe hfk hfr S₂ ns₂ eW₂ hn eF₂ eL gF₂ gL hFL hLL pJ wJ pJ' wJ' hh hroom hu fun h' tk' S' => hQ h' tk' S'
    · refine wpAny_abs fun K₀ hK₀ => ?_
      refine AComp (cl := [(Str.ofString "names", L + 1)]) rfl rfl (by decide) rfl (by decide) rfl rfl ?_
      refine wpAny_abs fun K₁ hK₁ => ?_
      refine wpAny_Call_Name_kw (nm_B C S₁ (by k_is) boot_sorted (by decide) (cwk (sm ?_)))
      refine LComp (cl := []) rfl (by decide) rfl (by decide) (nm_L ns₁ eT₁ ?_)
      refine wpAny_pyIter_list (PySem.IsL.isList (n := cT) (S₁ _ _ gT)) ?_
      dsimp only
      generalize hH : h.push _ = H
      have kH : h.StaysIn H := fun b o e => by rw [← hH]; exact Heap.get?_push_of_some _ e
      have gI' : H.IsListIter h.objs.size aT 0 := ⟨_, by rw [← hH]; exact Heap.get?_push_size _ rfl, rfl, rfl⟩
      have hIH : h.objs.size < H.objs.size := by obtain ⟨_, e, _⟩ := gI'; exact Heap.lt_size e
      have hTI : aT < h.objs.size := Heap.lt_size (S₁ _ _ gT)
      have hyl := D.yl
      obtain ⟨Ts, St, Mid, W, hTs, hst⟩ := tupsU (prog := prog) (w := w) (A := A) (h0 := h) (zs := tvs) (D := aT) (I := h.objs.size) hh (Nat.ne_of_lt hTI) (fun j xs => ∃ X tx tz, xs = #[.str X tx, .int (j : Int) tz] ∧ raw X = toldK (ys.getD j ⟨#[]⟩) ∧ j < vs.length) (fun j v hj => by
        have hjl : j < vs.length := by
          rcases Nat.lt_or_ge j tvs.length with q | q
          · exact om115q _ _ _ htl q
          · rw [List.getElem?_eq_none q] at hj; cases hj
        have ev : tvs.getD j .none = v := by rw [List.getD_eq_getElem?_getD, hj]; rfl
        obtain ⟨T, xs, e, hT, hx⟩ := (D.tk j hjl).keep (h' := h) fun a _ o e => S₁ a o e
        rw [if_neg (by decide)] at hx
        obtain ⟨X, tx, tz, rfl, e1, _⟩ := hx
        refine ⟨T, _, by rw [← ev]; exact e, hT, ⟨X, tx, tz, rfl, e1.symm, hjl⟩, ?_⟩
        obtain ⟨o, ho, _⟩ := hT
        exact Nat.ne_of_lt (Heap.lt_size ho))
      refine ⟨h.objs.size, _, [h.objs.size], tvs.length, [Str.ofString "text", Str.ofString "spot"], _, St, fun C j v h => C = H.objs.size + 1 ∧ Pr h C v (toldK (ys.getD j ⟨#[]⟩)) (-(j : Int)), rfl, Drw.tup2 (P := fun j a b => ∃ X tx tz, a = .str X tx ∧ b = .int (j : Int) tz ∧ raw X = toldK (ys.getD j ⟨#[]⟩) ∧ j < vs.length) hh W (fun i vals h => by obtain ⟨X, tx, tz, e, h1, h2⟩ := h; exact ⟨_, _, e, X, tx, tz, rfl, rfl, h1, h2⟩) (by decide), by exact om113q _ _ n11 htl, (fun b hb => by cases hb), ?_, ?_, hst H gI' (PySem.IsL.isList (n := cT) (kH _ _ (S₁ _ _ gT))) (fun b _ o e => kH b o e), ?_, ?_, ?_⟩
      · rintro C j v h h' ⟨hC, hP⟩ hk
        exact ⟨hC, hP.keep fun b o hb e => hk b o (.inr hb) (fun q => absurd (Nat.lt_trans (by rw [hC, List.mem_singleton.mp q]; exact Nat.lt_succ_of_lt hIH) hb) (Nat.lt_irrefl _)) (fun q => by cases q) e⟩
      · intro x hx'
        simp only [List.mem_cons, List.not_mem_nil, or_false] at hx'
        rcases hx' with rfl | rfl <;> rfl
      · intro b hb
        rcases List.mem_cons.mp hb with rfl | hb
        · exact hIH
        · rcases List.mem_cons.mp hb with rfl | hb
          · exact Heap.lt_size (kH _ _ (S₁ _ _ gT))
          · obtain ⟨o, ho⟩ := hTs b hb; exact Heap.lt_size (kH _ _ ho)
      · rintro C' j bs mc s' hC hj ⟨a', b', ⟨X, tx, tz, rfl, rfl, hX, hjl⟩, rfl⟩ hns hm hk hsz
        refine wpAny_abs fun KK hKK => ?_
        refine tup2 (nm_L hns (hm _ (.head _)) (UnaryOp_ (nm_L hns (hm _ (.tail _ (.head _))) (neg_int ?_))))
        refine hKK _ _ ?_
        exact ⟨⟨_, _, rfl⟩, fun b o e => Heap.get?_push_of_some _ e, hC, s'.heap.objs.size, X, tx, _, rfl, hsz, ⟨_, Heap.get?_push_size _ rfl, rfl, _, rfl⟩, hX⟩
      · intro D₁ C₁ h₁ tk₁ us c₁ hD₁ hC₁ gD₁ hol hP hk
        have S₁' : h.StaysIn h₁ := fun b o e => hk b o (fun q => by
          have := Heap.lt_size e
          rw [List.mem_singleton.mp q] at this
          exact Nat.lt_irrefl _ this) (fun q => by cases q) (kH _ _ e)
        have hul : us.length = vs.length := by rw [hol]; exact htl
        have hPr : ∀ i, i < vs.length → Pr h₁ C₁ (us.getD i .none) (toldK (ys.getD i ⟨#[]⟩)) (-(i : Int)) := fun i hi => by
          have := hP i us[i] (List.getElem?_eq_getElem (by exact om116q _ _ _ _ htl hol hi))
          rw [List.getD_eq_getElem?_getD, List.getElem?_eq_getElem (by exact om116q _ _ _ _ htl hol hi)]
          exact this.2
        refine spliced_none (kws_cons (Constant_bool (kws_nil ?_)))
        refine sorted_call (b := true) (kb := false) (kf := kfH h₁) (vs := us) (.inr rfl) gD₁ (by exact om117q _ _ _ n5 htl hol) (by exact om118q _ _ _ n11 htl hol) (fun v hv => ?_) fun h₂ c₂ tk₂ a₂ S₂ ha₂ ga₂ => ?_
        · obtain ⟨i, hi, rfl⟩ := List.mem_iff_getElem.mp hv
          have := hPr i (by exact om119q _ _ _ _ htl hol hi)
          rw [List.getD_eq_getElem?_getD, List.getElem?_eq_getElem hi] at this
          exact keyH this.key
        obtain ⟨J', eJ', pJ', wJ'⟩ := srt_back (ys := ys) (N := vs.length) (kf := kfH h₁) (us := us) hul (by exact om120q _ n5) V.x (fun i hi => kfH_of (hPr i hi).key)
        rw [eJ'] at ga₂
        refine hK₁ _ _ ?_
        refine wpAny_abs fun K₂ hK₂ => ?_
        refine wpAny_pyIter_list (PySem.IsL.isList (n := c₂) ga₂) (hK₂ _ _ ?_)
        dsimp only
        have K₂ : h.StaysIn h₂ := fun b o e => S₂ b o (S₁' b o e)
        have SG : G.StaysIn h₂ := fun b o e => K₂ b o (S₁ b o e)
        have hLa : L < a₂ := Nat.lt_of_lt_of_le (Heap.lt_size (S₁' _ _ (Classical.choose_spec (ns_get ns₁)))) ha₂
        generalize hH2 : h₂.push _ = H2
        have kH2 : h₂.StaysIn H2 := fun b o e => by rw [← hH2]; exact Heap.get?_push_of_some _ e
        have gI₂ : H2.IsListIter h₂.objs.size a₂ 0 := ⟨_, by rw [← hH2]; exact Heap.get?_push_size _ rfl, rfl, rfl⟩
        have hIH2 : h₂.objs.size < H2.objs.size := by obtain ⟨_, e, _⟩ := gI₂; exact Heap.lt_size e
        have haI : a₂ < h₂.objs.size := Heap.lt_size ga₂
        have hJl : J'.length = vs.length := by rw [pJ'.length_eq]; simp
        have hJN : ∀ i ∈ J', i < vs.length := fun i hi => List.mem_range.mp (pJ'.mem_iff.mp hi)
        obtain ⟨Ts₂, St₂, Mid₂, W₂, hTs₂, hst₂⟩ := tupsU (prog := prog) (w := w) (A := A) (h0 := h₂) (zs := J'.map fun i => us.getD i .none) (D := a₂) (I := h₂.objs.size) hh (Nat.ne_of_lt haI) (fun j xs => ∃ a t, xs = #[a, .int (-((J'.getD j 0 : Nat) : Int)) t] ∧ j < J'.length) (fun j v hj => by
          rw [List.getElem?_map] at hj
          obtain ⟨i, hi, rfl⟩ := Option.map_eq_some_iff.mp hj
          have hiN := hJN i (List.mem_of_getElem? hi)
          obtain ⟨T, X, tx, tz, e, hCT, ⟨o, ho, r⟩, hX⟩ := hPr i hiN
          refine ⟨T, _, e, ⟨o, S₂ _ _ ho, r⟩, ⟨.str X tx, tz, ?_, ?_⟩, ?_⟩
          · rw [show J'.getD j 0 = i from by rw [List.getD_eq_getElem?_getD, hi]; rfl]
          · rcases Nat.lt_or_ge j J'.length with q | q
            · exact q
            · rw [List.getElem?_eq_none q] at hi; cases hi
          · exact Nat.ne_of_lt (Heap.lt_size (S₂ _ _ ho)))
        have nsH : H2.Ns L m' := (ns₁.at' fun o e => K₂ _ o e).at' fun o e => kH2 _ o e
        refine ⟨m', nsH, h₂.objs.size, _, [h₂.objs.size], (J'.map fun i => us.getD i .none).length, [Str.ofString "text", Str.ofString "back"], _, St₂, fun C j v h => v = vs.getD (J'.getD j 0) .none, rfl, Drw.tup2 (P := fun j a b => ∃ t, b = .int (-((J'.getD j 0 : Nat) : Int)) t ∧ j < J'.length) hh W₂ (fun i vals h => by obtain ⟨a, t, e, hl⟩ := h; exact ⟨a, _, e, t, rfl, hl⟩) (by decide), by rw [List.length_map]; exact om113q _ _ n11 hJl, ?_, (fun _ _ _ _ _ hp _ => hp), ?_, hst₂ H2 gI₂ (PySem.IsL.isList (n := c₂) (kH2 _ _ ga₂)) (fun b _ o e => kH2 b o e), ?_, ?_, ?_⟩
        · intro b hb q
          rw [List.mem_singleton.mp hb] at q
          exact absurd (List.mem_singleton.mp q) (Nat.ne_of_lt (Nat.lt_trans hLa haI))
        · intro x hx'
          simp only [List.mem_cons, List.not_mem_nil, or_false] at hx'
          rcases hx' with rfl | rfl <;> rfl
        · intro b hb
          rcases List.mem_cons.mp hb with rfl | hb
          · exact hIH2
          · rcases List.mem_cons.mp hb with rfl | hb
            · exact Heap.lt_size (kH2 _ _ ga₂)
            · obtain ⟨o, ho⟩ := hTs₂ b hb; exact Heap.lt_size (kH2 _ _ ho)
        · rintro C' j bs mc s' hC hj ⟨a', b', ⟨tb, rfl, hjl⟩, rfl⟩ hns hm hk hsz
          have keepG : G.StaysIn s'.heap := fun b o e => hk b o (fun q => by
            have := Heap.lt_size (SG b o e)
            rw [List.mem_singleton.mp q] at this
            exact Nat.lt_irrefl _ this) (kH2 _ _ (SG b o e))
          have hiN : J'.getD j 0 < vs.length := hJN _ (by rw [List.getD_eq_getElem?_getD, List.getElem?_eq_getElem hjl]; exact List.getElem_mem hjl)
          refine wpAny_abs fun KK hKK => ?_
          refine Subscript_ (nm_C rfl (keepG _ _ gcN) hcN (UnaryOp_ (nm_L hns (hm _ (.tail _ (.head _))) (neg_int ?_))))
          rw [Int.neg_neg]
          refine item_l (i := J'.getD j 0) (keepG _ _ gN) hiN (by exact om12q _ n11) ?_
          exact hKK _ _ ⟨⟨_, _, rfl⟩, fun b o e => e, rfl⟩
        · intro D' C' h' tk' out c' hD' hC' gD' hol' hP' hk' hns'
          have hout : out = J'.map (fun i => vs.getD i .none) := by
            apply List.ext_getElem?
            intro j
            rw [List.getElem?_map]
            rw [List.length_map] at hol'
            cases hj : out[j]? with
            | some v =>
              have hjl : j < J'.length := by
                rcases Nat.lt_or_ge j J'.length with q | q
                · exact q
                · rw [List.getElem?_eq_none (by exact om121q _ _ _ hol' q)] at hj; cases hj
              rw [hP' j v hj, List.getElem?_eq_getElem hjl, List.getD_eq_getElem?_getD (l := J'), List.getElem?_eq_getElem hjl]
              rfl
            | none =>
              have := List.getElem?_eq_none_iff.mp hj
              rw [List.getElem?_eq_none (by exact om122q _ _ _ hol' this)]; rfl
          rw [hout] at gD'
          have hLD : L < D' := by rw [hD']; exact Nat.lt_trans (Nat.lt_trans hLa haI) hIH2
          have kpA : ∀ b o, b ≠ L → h.get? b = some o → h'.get? b = some o := fun b o q e => hk' b o (fun z => by
            have := Heap.lt_size (K₂ b o e)
            rw [List.mem_singleton.mp z] at this
            exact Nat.lt_irrefl _ this) (fun z => q (List.mem_singleton.mp z)) (kH2 _ _ (K₂ b o e))
          refine hK₀ .next _ ?_
          exact ⟨h', tk', _, D', c', J', rfl, fun b o e => kpA b o (fun q => by rw [q, D.gL] at e; cases e) (S₁ b o e), hns', eW₁, eF, if_pos rfl, Nat.ne_of_gt hLD, gD', pJ', wJ', kpA _ _ hFL gF⟩
  · refine wpAny_abs fun K₀ hK₀ => ?_
    refine AComp (cl := [(Str.ofString "names", L + 1)]) rfl rfl (by decide) rfl (by decide) rfl rfl ?_
    refine wpAny_abs fun K₁ hK₁ => ?_
    have e0 : tvs = (List.range vs.length).map fun i => tvs.getD i .none := by rw [← htl, map_getD_range]
    refine Call_ (nm_B C S (by k_is) boot_sorted (by decide) (cwb (sm (nm_L ns eT (spliced_none ?_)))))
    refine sorted_call (b := false) (kb := false) (kf := kfH G) (vs := tvs) (.inl ⟨rfl, rfl⟩) (S _ _ gT) (by exact om123q _ _ n5 htl) (by exact om124q _ _ n11 htl) (fun v hv => ?_) fun h₁ c₁ tk₁ a₁ S₁ ha₁ ga₁ => ?_
    · rw [e0] at hv
      obtain ⟨i, hi, rfl⟩ := List.mem_map.mp hv
      exact D.tK S (List.mem_range.mp hi)
    obtain ⟨J, eJ, pJ, wJ⟩ := V.sort (K := List.range vs.length) List.nodup_range (fun i hi => List.mem_range.mp hi) (by simp; exact om120q _ n5)
    rw [← e0] at eJ
    rw [eJ] at ga₁
    refine hK₁ _ _ ?_
    refine wpAny_abs fun K₂ hK₂ => ?_
    refine wpAny_pyIter_list (PySem.IsL.isList (n := c₁) ga₁) (hK₂ _ _ ?_)
    dsimp only
    have hLa : L < a₁ := Nat.lt_of_lt_of_le hLs ha₁
    generalize hH : h₁.push _ = H
    have kH : h₁.StaysIn H := fun b o e => by rw [← hH]; exact Heap.get?_push_of_some _ e
    have gI' : H.IsListIter h₁.objs.size a₁ 0 := ⟨_, by rw [← hH]; exact Heap.get?_push_size _ rfl, rfl, rfl⟩
    have hIH : h₁.objs.size < H.objs.size := by obtain ⟨_, e, _⟩ := gI'; exact Heap.lt_size e
    have haI : a₁ < h₁.objs.size := Heap.lt_size ga₁
    have SG : G.StaysIn h₁ := fun b o e => S₁ b o (S b o e)
    have hJl : J.length = vs.length := by rw [pJ.length_eq]; simp
    have hJN : ∀ i ∈ J, i < vs.length := fun i hi => List.mem_range.mp (pJ.mem_iff.mp hi)
    obtain ⟨Ts, St, Mid, W, hTs, hst⟩ := tupsU (prog := prog) (w := w) (A := A) (h0 := h₁) (zs := J.map fun i => tvs.getD i .none) (D := a₁) (I := h₁.objs.size) hh (Nat.ne_of_lt haI) (fun j xs => ∃ a t, xs = #[a, .int ((J.getD j 0 : Nat) : Int) t] ∧ j < J.length) (fun j v hj => by
      rw [List.getElem?_map] at hj
      obtain ⟨i, hi, rfl⟩ := Option.map_eq_some_iff.mp hj
      have hiN := hJN i (List.mem_of_getElem? hi)
      obtain ⟨T, xs, e, hT, hx⟩ := (D.tk i hiN).keep (h' := h₁) fun a _ o e => SG a o e
      rw [if_neg (by decide)] at hx
      obtain ⟨S, t, t', rfl, _⟩ := hx
      refine ⟨T, _, e, hT, ⟨.str S t, t', ?_, ?_⟩, ?_⟩
      · rw [show J.getD j 0 = i from by rw [List.getD_eq_getElem?_getD, hi]; rfl]
      · rcases Nat.lt_or_ge j J.length with q | q
        · exact q
        · rw [List.getElem?_eq_none q] at hi; cases hi
      · obtain ⟨o, ho, _⟩ := hT
        exact Nat.ne_of_lt (Heap.lt_size ho))
    have nsH : H.Ns L m := (ns.at' fun o e => S₁ _ o e).at' fun o e => kH _ o e
    refine ⟨m, nsH, h₁.objs.size, _, [h₁.objs.size], (J.map fun i => tvs.getD i .none).length, [Str.ofString "text", Str.ofString "place"], _, St, fun C j v h => v = vs.getD (J.getD j 0) .none, rfl, Drw.tup2 (P := fun j a b => ∃ t, b = .int ((J.getD j 0 : Nat) : Int) t ∧ j < J.length) hh W (fun i vals h => by obtain ⟨a, t, e, hl⟩ := h; exact ⟨a, _, e, t, rfl, hl⟩) (by decide), by rw [List.length_map]; exact om113q _ _ n11 hJl, ?_, (fun _ _ _ _ _ hp _ => hp), ?_, hst H gI' (PySem.IsL.isList (n := c₁) (kH _ _ ga₁)) (fun b _ o e => kH b o e), ?_, ?_, ?_⟩
    · intro b hb q
      rw [List.mem_singleton.mp hb] at q
      exact absurd (List.mem_singleton.mp q) (Nat.ne_of_lt (Nat.lt_trans hLa haI))
    · intro x hx'
      simp only [List.mem_cons, List.not_mem_nil, or_false] at hx'
      rcases hx' with rfl | rfl <;> rfl
    · intro b hb
      rcases List.mem_cons.mp hb with rfl | hb
      · exact hIH
      · rcases List.mem_cons.mp hb with rfl | hb
        · exact Heap.lt_size (kH _ _ ga₁)
        · obtain ⟨o, ho⟩ := hTs b hb; exact Heap.lt_size (kH _ _ ho)
    · rintro C' j bs mc s' hC hj ⟨a', b', ⟨tb, rfl, hjl⟩, rfl⟩ hns hm hk hsz
      have keepG : G.StaysIn s'.heap := fun b o e => hk b o (fun q => by
        have := Heap.lt_size (SG b o e)
        rw [List.mem_singleton.mp q] at this
        exact Nat.lt_irrefl _ this) (kH _ _ (SG b o e))
      have hiN : J.getD j 0 < vs.length := hJN _ (by rw [List.getD_eq_getElem?_getD, List.getElem?_eq_getElem hjl]; exact List.getElem_mem hjl)
      refine wpAny_abs fun KK hKK => ?_
      refine Subscript_ (nm_C rfl (keepG _ _ gcN) hcN (nm_L hns (hm _ (.tail _ (.head _))) (item_l (i := J.getD j 0) (keepG _ _ gN) hiN (by exact om12q _ n11) ?_)))
      exact hKK _ _ ⟨⟨_, _, rfl⟩, fun b o e => e, rfl⟩
    · intro D' C' h' tk' out c' hD' hC' gD' hol hP hk hns'
      have hout : out = J.map (fun i => vs.getD i .none) := by
        apply List.ext_getElem?
        intro j
        rw [List.getElem?_map]
        rw [List.length_map] at hol
        cases hj : out[j]? with
        | some v =>
          have hjl : j < J.length := by
            rcases Nat.lt_or_ge j J.length with q | q
            · exact q
            · rw [List.getElem?_eq_none (by exact om121q _ _ _ hol q)] at hj; cases hj
          rw [hP j v hj, List.getElem?_eq_getElem hjl, List.getD_eq_getElem?_getD (l := J), List.getElem?_eq_getElem hjl]
          rfl
        | none =>
          have := List.getElem?_eq_none_iff.mp hj
          rw [List.getElem?_eq_none (by exact om122q _ _ _ hol this)]; rfl
      rw [hout] at gD'
      have hLD : L < D' := by rw [hD']; exact Nat.lt_trans (Nat.lt_trans hLa haI) hIH
      refine hK₀ .next _ ?_
      refine ⟨h', tk', _, D', c', J, rfl, fun b o e => hk b o (fun q => ?_) (fun q => ?_) (kH _ _ (SG b o e)), hns', eW, eT, if_pos rfl, Nat.ne_of_gt hLD, gD', pJ, wJ⟩
      · have := Heap.lt_size (SG b o e)
        rw [List.mem_singleton.mp q] at this
        exact Nat.lt_irrefl _ this
      · rw [List.mem_singleton.mp q, show (envOfC (Str.ofString "law") _ L fa cdv').locals = L from rfl, D.gL] at e; cases e
end
end Mine
end
section
open PySem PySem.W PyProof.Rows PySem.Calls
set_option Elab.async false
set_option linter.all false
set_option maxRecDepth 100000
namespace Mine
theorem fill40 (w : World) (g : Heap) : (hd.heap_1 w.params).In g → PySem.Challenge.rw_mr0283_01.row.prog = PySem.Challenge.rw_mr0283_01.row.prog := by
  k_fill
  intro _; rfl
theorem no_lt1 (z : Nat) (h : z + 2 + 1 < z + 1) : False := by exact om109q _ h
theorem no_lt0 (z : Nat) (h : z + 2 + 1 < z) : False := by exact om110q _ h
/-- a row of words -/
def Rw (h : Heap) (C : Addr) (ys : List Str) (i : Nat) (v : Value) : Prop := ∃ a ws zs c, v = .ref a ∧ C < a ∧ h.get? a = some (lst ws c) ∧ StrsAre ws zs ∧ zs.map raw = wd [] ((raw (ys.getD i ⟨#[]⟩)).map low)
theorem Rw.keep {h h' : Heap} {C : Addr} {ys : List Str} {i : Nat} {v : Value} (p : Rw h C ys i v) (hk : ∀ b o, C < b → h.get? b = some o → h'.get? b = some o) : Rw h' C ys i v := by
  obtain ⟨a, ws, zs, c, e, hC, g, r⟩ := p
  exact ⟨a, ws, zs, c, e, hC, hk _ _ hC g, r⟩
theorem Rw.low {h : Heap} {C C' : Addr} {ys : List Str} {i : Nat} {v : Value} (p : Rw h C ys i v) (hC : C' ≤ C) : Rw h C' ys i v := by
  obtain ⟨a, ws, zs, c, e, hC', r⟩ := p
  exact ⟨a, ws, zs, c, e, Nat.lt_of_le_of_lt hC hC', r⟩
theorem Pr.low {h : Heap} {C C' : Addr} {v : Value} {x : List Nat} {i : Int} (p : Pr h C v x i) (hC : C' ≤ C) : Pr h C' v x i := by
  obtain ⟨T, S, t1, t2, a, b, r⟩ := p
  exact ⟨T, S, t1, t2, a, Nat.lt_of_le_of_lt hC b, r⟩
section
variable {prog : Program} {w : World} {A : Around} {E : Value → Shared → Prop} {s : Shared} {mg mb : Str → Option Value}
  {g : Heap} {L aN aC : Addr} {vs : List Value} {ys : List Str} {cvs : List Value} {cs : List Int}

set_option maxHeartbeats 4000000 in
theorem law_A2 {oc : Value} {od : Option Addr} {osl : Array (Option Value)} {name qual : Str} {params : Arguments} {body : List Stmt} {scope : Scope} {dV kV doc pm cdv ct : Value} {an : Option Addr}
    (ho : (hd.heap_1 w.params).lookup 136 = some ⟨oc, od, .func (fnOf name qual params body scope dV kV doc pm an cdv ct), osl⟩) {fa : Addr} {cdv' : Value}
    {m : Str → Option Value} {Q : Flow → Shared → Prop} {n : Nat} {t : Tok} {oN oR : Obj} {v₀ : Option Value} {cN cC : Nat} (C : Cx w mg mb g) (hgL : g.objs.size ≤ L)
    {fe : Env} (hfe : fe.frame = some L) (hfk : fe.scope.kind ≠ .module) (hfr : A.frames = some [fe]) (S : g.StaysIn s.heap) (ns : s.heap.Ns L m) (eC : m (Str.ofString "cells") = some (.ref aC)) (eW : m (Str.ofString "wish") = some (.int (n : Int) t)) (hn : n ≤ 40)
    (n5 : 5 ≤ vs.length) (n11 : vs.length ≤ 11) (hi : StrsAre vs ys) (hx : ∀ y ∈ ys, (∀ c ∈ raw y, Al c = true) ∧ y.length ≤ 100) (h50 : ∀ y ∈ ys, y.length ≤ 50)
    (gN : s.heap.get? aN = some (lst vs cN)) (gcN : s.heap.get? (L + 1) = some oN) (hcN : oN.data = .cell (some (.ref aN))) (gcR : s.heap.get? (L + 2) = some oR) (hcR : oR.data = .cell v₀)
    (gC : s.heap.get? aC = some (lst cvs cC)) (ci : IntsAre cvs cs) (cl : ∀ i, 5 ≤ i → i < vs.length → i - 4 < cs.length) (cb : cs.length ≤ 7) (c0 : ∀ c ∈ cs, 0 ≤ c ∧ c < 1000000) (hNL : aN ≠ L) (hCL : aC ≠ L)
    (hh : A.handled = none) (hroom : A.depth + 7 < recursionLimit) (hu : A.units + 100 < cLine)
    (hQ : ∀ h tk, g.StaysIn h → Q (.ret (.bool true)) { s with heap := h, toks := tk }) :
    wpAny (model prog w) A (execs (body.drop 3) (envOfC qual scope L fa cdv')) Q E s := by
  obtain ⟨rfl, rfl, rfl, rfl⟩ := same_fn ho (by k_is)
  simp only [List.drop_succ_cons, List.drop_zero]
  have hLs : L < s.heap.objs.size := ns.lt
  have hRs : L + 2 < s.heap.objs.size := Heap.lt_size gcR
  have hyl : vs.length = ys.length := hi.len_eq
  have hNR : aN ≠ L + 2 := fun q => by rw [q, gcR] at gN; cases gN; cases hcR
  have gnone : ∀ b, L ≤ b → g.get? b = none := fun b hb => Heap.get?_none_of_le (Nat.le_trans hgL hb)
  have hv : ∀ (j : Nat) v, vs[j]? = some v → ∃ y ty, v = .str y ty ∧ ys.getD j ⟨#[]⟩ = y ∧ (∀ c ∈ raw y, Al c = true) ∧ y.length ≤ 100 ∧ y.length ≤ 50 := fun j v e => by
    obtain ⟨y, ty, rfl, hy⟩ := hi.item j v e
    exact ⟨y, ty, rfl, by rw [List.getD_eq_getElem?_getD, hy]; rfl, (hx y (List.mem_of_getElem? hy)).1, (hx y (List.mem_of_getElem? hy)).2, h50 y (List.mem_of_getElem? hy)⟩
  -- rows
  refine execs_cut (P := fun s' => Ex6 fun h tk aR rws cR oR' => C8 (s' = { s with heap := h, toks := tk }) ((∀ b o, b ≠ L + 2 → s.heap.get? b = some o → h.get? b = some o)) (h.get? (L + 2) = some oR') (oR'.data = .cell (some (.ref aR))) (h.get? aR = some (lst rws cR)) (L + 2 < aR) (rws.length = vs.length) ((∀ (i : Nat) v, rws[i]? = some v → Rw h (L + 2) ys i v))) ?_ ?_
  · rintro s' ⟨h₁, tk₁, aR, rws, cR, oR', rfl, k₁, gcR₁, hcR₁, gR₁, hRL, hrl, hrw⟩
    have S₁ : g.StaysIn h₁ := fun b o e => k₁ b o (fun q => by rw [q, gnone (L + 2) (Nat.le_add_right _ _)] at e; cases e) (S b o e)
    have ns₁ : h₁.Ns L m := ns.at' fun o e => k₁ _ o (Nat.ne_of_lt (Nat.lt_add_of_pos_right (by decide))) e
    have gN₁ : h₁.get? aN = some (lst vs cN) := k₁ _ _ hNR gN
    have gcN₁ : h₁.get? (L + 1) = some oN := k₁ _ _ (Nat.ne_of_lt (Nat.lt_succ_self _)) gcN
    have hR₁ : L + 2 < h₁.objs.size := Heap.lt_size gcR₁
    -- told
    refine execs_cut (P := fun s' => Ex6 fun h tk m' aT tvs cT => C10 (s' = { s with heap := h, toks := tk }) ((∀ b o, b ≠ L → h₁.get? b = some o → h.get? b = some o)) (h.Ns L m') (m' (Str.ofString "cells") = some (.ref aC)) (m' (Str.ofString "wish") = some (.int (n : Int) t)) (m' (Str.ofString "told") = some (.ref aT)) (h.get? aT = some (lst tvs cT)) (aT ≠ L) (tvs.length = vs.length) ((∀ (i : Nat) v, tvs[i]? = some v → Pr h (L + 2) v (toldK (ys.getD i ⟨#[]⟩)) (i : Int)))) ?_ ?_
    · rintro s' ⟨h₂, tk₂, m₂, aT, tvs, cT, rfl, k₂, ns₂, eC₂, eW₂, eT₂, gT₂, hTL, htl, htv⟩
      have S₂ : g.StaysIn h₂ := fun b o e => k₂ b o (fun q => by rw [q, gnone L (Nat.le_refl _)] at e; cases e) (S₁ b o e)
      have gN₂ : h₂.get? aN = some (lst vs cN) := k₂ _ _ hNL gN₁
      have gcN₂ : h₂.get? (L + 1) = some oN := k₂ _ _ (Nat.succ_ne_self _) gcN₁
      have hR₂ : L + 2 < h₂.objs.size := Heap.lt_size (k₂ _ _ (Nat.ne_of_gt (Nat.lt_add_of_pos_right (by decide))) gcR₁)
      -- pairs
      refine execs_cut (P := fun s' => Ex6 fun h tk m' aP pvs cP => C11 (s' = { s with heap := h, toks := tk }) ((∀ b o, b ≠ L → h₂.get? b = some o → h.get? b = some o)) (h.Ns L m') (m' (Str.ofString "cells") = some (.ref aC)) (m' (Str.ofString "wish") = some (.int (n : Int) t)) (m' (Str.ofString "told") = some (.ref aT)) (m' (Str.ofString "pairs") = some (.ref aP)) (h.get? aP = some (lst pvs cP)) (aP ≠ L) (pvs.length = vs.length) ((∀ (i : Nat) v, pvs[i]? = some v → Pr h (L + 2) v (kyI ys i) (i : Int)))) ?_ ?_
      · rintro s' ⟨h₃, tk₃, m₃, aP, pvs, cP, rfl, k₃, ns₃, eC₃, eW₃, eT₃, eP₃, gP₃, hPL, hpl, hpv⟩
        have toG : ∀ b o, b ≠ L → h₃.get? b = some o → (h₃.hide L).get? b = some o := fun b o q e => (Heap.hide_ne h₃ q).trans e
        have up3 : ∀ b o, b ≠ L → h₁.get? b = some o → (h₃.hide L).get? b = some o := fun b o q e => toG b o q (k₃ b o q (k₂ b o q e))
        have gtL : ∀ b, L + 2 < b → b ≠ L := fun b hb => Nat.ne_of_gt (Nat.lt_trans (Nat.lt_add_of_pos_right (by decide)) hb)
        have hCR : aC ≠ L + 2 := fun q => by rw [q, gcR] at gC; cases gC; cases hcR
        have gG : g.StaysIn (h₃.hide L) := fun b o e => up3 b o (fun q => by rw [q, gnone L (Nat.le_refl _)] at e; cases e) (S₁ b o e)
        have D : LawD (h₃.hide L) L aN aR aT aP aC vs ys rws tvs pvs cvs cs := {
          n5 := n5, n11 := n11, hst := hi, hx := hx, h50 := h50
          gN := ⟨cN, up3 _ _ hNL gN₁⟩
          cN := ⟨oN, up3 _ _ (Nat.succ_ne_self _) gcN₁, hcN⟩
          cR := ⟨oR', up3 _ _ (Nat.ne_of_gt (Nat.lt_add_of_pos_right (by decide))) gcR₁, hcR₁⟩
          gR := ⟨cR, up3 _ _ (gtL _ hRL) gR₁⟩
          rl := hrl
          rwk := fun i v e => by
            obtain ⟨a, ws, zs, c, e, hC, ga, r⟩ := hrw i v e
            exact ⟨a, ws, zs, c, e, up3 _ _ (gtL _ hC) ga, r⟩
          gT := ⟨cT, toG _ _ hTL (k₃ _ _ hTL gT₂)⟩
          tl := htl
          tk := fun i hi' => by
            have := htv i tvs[i] (List.getElem?_eq_getElem (by exact om111q _ _ _ htl hi'))
            rw [List.getD_eq_getElem?_getD (l := tvs), List.getElem?_eq_getElem (by exact om111q _ _ _ htl hi')]
            exact (this.keep fun b o hb e => toG b o (gtL _ hb) (k₃ b o (gtL _ hb) e)).key
          gP := ⟨cP, toG _ _ hPL gP₃⟩
          pl := hpl
          pk := fun i hi' => by
            have := hpv i pvs[i] (List.getElem?_eq_getElem (by exact om111q _ _ _ hpl hi'))
            rw [List.getD_eq_getElem?_getD (l := pvs), List.getElem?_eq_getElem (by exact om111q _ _ _ hpl hi')]
            exact (this.keep fun b o hb e => toG b o (gtL _ hb) e).key
          gC := ⟨cC, up3 _ _ hCL (k₁ _ _ hCR gC)⟩
          ci := ci, cl := cl, cb := cb, c0 := c0
          gL := Heap.hide_self _ _ }
        have C' : Cx w mg mb (h₃.hide L) := C.keeps gG
        refine law_B1 ho D C' (fun b o e => Heap.of_hide e) ns₃ eC₃ eT₃ eP₃ hh (by exact om112q _ _ hroom) hu fun h₄ tk₄ m₄ S₄ ns₄ ew₄ et₄ => ?_
        exact law_E1 ho D C' hfe hfk hfr S₄ ns₄ (ew₄.trans eW₃) hn et₄ hh hroom hu fun h₅ tk₅ S₅ => hQ h₅ tk₅ fun b o e => S₅ b o (gG b o e)
      · refine wpAny_abs fun K₀ hK₀ => ?_
        refine AComp (cl := []) rfl rfl (by decide) rfl (by decide) rfl rfl ?_
        refine wpAny_abs fun K₁ hK₁ => ?_
        refine Call_ (nm_B C S₂ (by k_is) boot_enumerate (by decide) (cwt (sm (nm_C rfl gcN₂ hcN (spliced_none ?_)))))
        refine call_enumerate_list (PySem.IsL.isList (n := cN) gN₂) fun H hE hI hHs kH => ?_
        dsimp only at hE hI hHs kH ⊢
        have hlI : aN < h₂.objs.size := Heap.lt_size gN₂
        have old : ∀ b o, h₂.get? b = some o → b < h₂.objs.size := fun b o e => Heap.lt_size e
        have hLz : L + 2 < h₂.objs.size := hR₂
        generalize h₂.objs.size = z at *
        refine hK₁ _ _ ?_
        refine wpAny_abs fun K₂ hK₂ => ?_
        refine wpAny_pyIter_enum hE (hK₂ _ _ ?_)
        have hsz : vs.toArray.size = vs.length := by simp
        have nsH : H.Ns L m₂ := ns₂.at' fun o e => kH _ o e
        have hzz : ∀ b, b < z → b ∉ [z + 1, z] := fun b hb q => by
          simp only [List.mem_cons, List.not_mem_nil, or_false] at q
          rcases q with rfl | rfl
          · exact absurd hb (Nat.not_lt.mpr (Nat.le_succ _))
          · exact Nat.lt_irrefl _ hb
        have hL' : L < z := Nat.lt_trans (Nat.lt_add_of_pos_right (by decide)) hLz
        refine ⟨m₂, nsH, z + 1, _, [z + 1, z], vs.toArray.size, [Str.ofString "place", Str.ofString "name"], _, _, fun C j v h => C = H.objs.size + 1 ∧ Pr h C v (kyI ys j) (j : Int), rfl, Drw.tup2 (P := fun i a b => (∃ tk, a = .int (i : Int) tk) ∧ vs.toArray[i]? = some b) hh (WalksT.enumerate (A := A) hh (z + 1) z aN (Nat.succ_ne_self _) (Nat.ne_of_lt (Nat.lt_succ_of_lt hlI)) (Nat.ne_of_lt hlI) vs.toArray).toU (fun i vals h => by obtain ⟨tk, x, h1, h2⟩ := h; exact ⟨_, _, h2, ⟨tk, rfl⟩, h1⟩) (by decide), by exact om113q _ _ n11 hsz, ?_, ?_, ?_, ⟨⟨_, hE⟩, hI, (PySem.IsL.isList (n := cN) (kH _ _ gN₂))⟩, ?_, ?_, ?_⟩
        · intro b hb
          rw [List.mem_singleton.mp hb]
          exact hzz L hL'
        · rintro C j v h h' ⟨hC, hP⟩ hk
          refine ⟨hC, hP.keep fun b o hb e => hk b o (.inr hb) (fun q => ?_) (fun q => ?_) e⟩
          · rw [hC, hHs] at hb
            simp only [List.mem_cons, List.not_mem_nil, or_false] at q
            rcases q with q | q
            · rw [q] at hb; exact (no_lt1 _ hb).elim
            · rw [q] at hb; exact (no_lt0 _ hb).elim
          · rw [hC, hHs, List.mem_singleton.mp q] at hb
            exact (no_lt0 _ (Nat.lt_trans hb hL')).elim
        · intro x hx'
          simp only [List.mem_cons, List.not_mem_nil, or_false] at hx'
          rcases hx' with rfl | rfl <;> rfl
        · intro b hb
          rw [hHs]
          simp only [List.mem_cons, List.not_mem_nil, or_false] at hb
          rcases hb with q | q | q
          · rw [q]; exact Nat.lt_succ_self _
          · rw [q]; exact Nat.lt_succ_of_lt (Nat.lt_succ_self _)
          · rw [q]; exact Nat.lt_succ_of_lt (Nat.lt_succ_of_lt hlI)
        · rintro C' j bs mc s' hC hj ⟨a', b', ⟨⟨tp, rfl⟩, hb'⟩, rfl⟩ hns hm hk hsz'
          have keepA : ∀ b o, h₂.get? b = some o → s'.heap.get? b = some o := fun b o e => hk b o (hzz b (old b o e)) (kH b o e)
          have keepG : g.StaysIn s'.heap := fun b o e => keepA b o (S₂ b o e)
          obtain ⟨y, ty, rfl, hyj, hy1, hy2, hy3⟩ := hv j b' (by simpa using hb')
          refine wpAny_abs fun KK hKK => ?_
          refine tup2 (Call_ (nm_K C keepG (by k_is) (cwK C.K (by k_is) (sm (nm_L hns (hm _ (.tail _ (.head _))) (spliced_none ⟨C.K.keeps keepG, ?_⟩))))))
          refine cap_call C keepG hy1 hy2 hh (by exact om103q _ _ hroom) fun h₄ tk₄ y' ty' S₄ hy' => ?_
          have hns₄ : h₄.Ns C' mc := hns.at' fun o e => S₄ _ o e
          refine nm_L hns₄ (hm _ (.head _)) ?_
          refine hKK _ _ ?_
          refine ⟨⟨_, _, rfl⟩, fun b o e => Heap.get?_push_of_some _ (S₄ b o e), hC, h₄.objs.size, y', ty', tp, rfl, hns₄.lt, ⟨_, Heap.get?_push_size _ rfl, rfl, _, rfl⟩, ?_⟩
          unfold kyI
          rw [hyj]; exact hy'
        · intro D' C' h' tk' out c' hD' hC' gD' hol hP hk hns'
          have hD : L + 2 < D' := by rw [hD', hHs]; exact Nat.lt_succ_of_lt (Nat.lt_succ_of_lt hLz)
          have hC2 : L + 2 ≤ C' := by rw [hC', hHs]; exact Nat.le_of_lt (Nat.lt_succ_of_lt (Nat.lt_succ_of_lt (Nat.lt_succ_of_lt hLz)))
          have kp : ∀ b o, b ≠ L → h₂.get? b = some o → h'.get? b = some o := fun b o q e => hk b o (hzz b (old b o e)) (fun z => q (List.mem_singleton.mp z)) (kH b o e)
          have hDL : D' ≠ L := Nat.ne_of_gt (Nat.lt_trans (Nat.lt_add_of_pos_right (by decide)) hD)
          refine hK₀ .next _ ?_
          exact ⟨h', tk', _, D', out, c', rfl, kp, hns', eC₂, eW₂, eT₂, if_pos rfl, gD', hDL, by rw [hol, hsz], fun i v e => (hP i v e).2.low hC2⟩
    · refine wpAny_abs fun K₀ hK₀ => ?_
      refine AComp (cl := []) rfl rfl (by decide) rfl (by decide) rfl rfl ?_
      refine wpAny_abs fun K₁ hK₁ => ?_
      refine Call_ (nm_B C S₁ (by k_is) boot_enumerate (by decide) (cwt (sm (nm_C rfl gcR₁ hcR₁ (spliced_none ?_)))))
      refine call_enumerate_list (PySem.IsL.isList (n := cR) gR₁) fun H hE hI hHs kH => ?_
      dsimp only at hE hI hHs kH ⊢
      have hlI : aR < h₁.objs.size := Heap.lt_size gR₁
      have old : ∀ b o, h₁.get? b = some o → b < h₁.objs.size := fun b o e => Heap.lt_size e
      have hLz : L + 2 < h₁.objs.size := hR₁
      generalize h₁.objs.size = z at *
      refine hK₁ _ _ ?_
      refine wpAny_abs fun K₂ hK₂ => ?_
      refine wpAny_pyIter_enum hE (hK₂ _ _ ?_)
      have hsz : rws.toArray.size = vs.length := by simp [hrl]
      have nsH : H.Ns L m := ns₁.at' fun o e => kH _ o e
      have hzz : ∀ b, b < z → b ∉ [z + 1, z] := fun b hb q => by
        simp only [List.mem_cons, List.not_mem_nil, or_false] at q
        rcases q with rfl | rfl
        · exact absurd hb (Nat.not_lt.mpr (Nat.le_succ _))
        · exact Nat.lt_irrefl _ hb
      have hL' : L < z := Nat.lt_trans (Nat.lt_add_of_pos_right (by decide)) hLz
      refine ⟨m, nsH, z + 1, _, [z + 1, z], rws.toArray.size, [Str.ofString "place", Str.ofString "words"], _, _, fun C j v h => C = H.objs.size + 1 ∧ Pr h C v (toldK (ys.getD j ⟨#[]⟩)) (j : Int), rfl, Drw.tup2 (P := fun i a b => (∃ tk, a = .int (i : Int) tk) ∧ rws.toArray[i]? = some b) hh (WalksT.enumerate (A := A) hh (z + 1) z aR (Nat.succ_ne_self _) (Nat.ne_of_lt (Nat.lt_succ_of_lt hlI)) (Nat.ne_of_lt hlI) rws.toArray).toU (fun i vals h => by obtain ⟨tk, x, h1, h2⟩ := h; exact ⟨_, _, h2, ⟨tk, rfl⟩, h1⟩) (by decide), by exact om113q _ _ n11 hsz, ?_, ?_, ?_, ⟨⟨_, hE⟩, hI, (PySem.IsL.isList (n := cR) (kH _ _ gR₁))⟩, ?_, ?_, ?_⟩
      · intro b hb
        rw [List.mem_singleton.mp hb]
        exact hzz L hL'
      · rintro C j v h h' ⟨hC, hP⟩ hk
        refine ⟨hC, hP.keep fun b o hb e => hk b o (.inr hb) (fun q => ?_) (fun q => ?_) e⟩
        · rw [hC, hHs] at hb
          simp only [List.mem_cons, List.not_mem_nil, or_false] at q
          rcases q with q | q
          · rw [q] at hb; exact (no_lt1 _ hb).elim
          · rw [q] at hb; exact (no_lt0 _ hb).elim
        · rw [hC, hHs, List.mem_singleton.mp q] at hb
          exact (no_lt0 _ (Nat.lt_trans hb hL')).elim
      · intro x hx'
        simp only [List.mem_cons, List.not_mem_nil, or_false] at hx'
        rcases hx' with rfl | rfl <;> rfl
      · intro b hb
        rw [hHs]
        simp only [List.mem_cons, List.not_mem_nil, or_false] at hb
        rcases hb with q | q | q
        · rw [q]; exact Nat.lt_succ_self _
        · rw [q]; exact Nat.lt_succ_of_lt (Nat.lt_succ_self _)
        · rw [q]; exact Nat.lt_succ_of_lt (Nat.lt_succ_of_lt hlI)
      · rintro C' j bs mc s' hC hj ⟨a', b', ⟨⟨tp, rfl⟩, hb'⟩, rfl⟩ hns hm hk hsz'
        have keepA : ∀ b o, h₁.get? b = some o → s'.heap.get? b = some o := fun b o e => hk b o (hzz b (old b o e)) (kH b o e)
        have keepG : g.StaysIn s'.heap := fun b o e => keepA b o (S₁ b o e)
        have hjl : j < vs.length := by rw [← hsz]; exact hj
        obtain ⟨a, ws, zs, cw, rfl, hCa, ga, hzs, hzr⟩ := hrw j b' (by simpa using hb')
        obtain ⟨y, ty, _, hyj, hy1, hy2, hy3⟩ := hv j _ (List.getElem?_eq_getElem hjl)
        rw [hyj] at hzr
        obtain ⟨w1, w2, w3⟩ := wr_props hy1 (by rw [← raw_len]; exact hy3) hzr
        refine wpAny_abs fun KK hKK => ?_
        refine tup2 (Call_ (nm_K C keepG (by k_is) (cwK C.K (by k_is) (sm (nm_L hns (hm _ (.tail _ (.head _))) (spliced_none ⟨C.K.keeps keepG, ?_⟩))))))
        refine told_call C keepG (keepA _ _ ga) hzs w1 w2 w3 hh (by exact om103q _ _ hroom) fun h₄ tk₄ y' ty' S₄ hy' => ?_
        have hns₄ : h₄.Ns C' mc := hns.at' fun o e => S₄ _ o e
        refine nm_L hns₄ (hm _ (.head _)) ?_
        refine hKK _ _ ?_
        refine ⟨⟨_, _, rfl⟩, fun b o e => Heap.get?_push_of_some _ (S₄ b o e), hC, h₄.objs.size, y', ty', tp, rfl, hns₄.lt, ⟨_, Heap.get?_push_size _ rfl, rfl, _, rfl⟩, ?_⟩
        rw [hyj, hy']
        have e1 : zs.map (fun y => toldW (raw y)) = (wd [] ((raw y).map low)).map toldW := by rw [← hzr, List.map_map]; rfl
        rw [e1]; rfl
      · intro D' C' h' tk' out c' hD' hC' gD' hol hP hk hns'
        have hD : L + 2 < D' := by rw [hD', hHs]; exact Nat.lt_succ_of_lt (Nat.lt_succ_of_lt hLz)
        have hC2 : L + 2 ≤ C' := by rw [hC', hHs]; exact Nat.le_of_lt (Nat.lt_succ_of_lt (Nat.lt_succ_of_lt (Nat.lt_succ_of_lt hLz)))
        have kp : ∀ b o, b ≠ L → h₁.get? b = some o → h'.get? b = some o := fun b o q e => hk b o (hzz b (old b o e)) (fun z => q (List.mem_singleton.mp z)) (kH b o e)
        have hDL : D' ≠ L := Nat.ne_of_gt (Nat.lt_trans (Nat.lt_add_of_pos_right (by decide)) hD)
        refine hK₀ .next _ ?_
        exact ⟨h', tk', _, D', out, c', rfl, kp, hns', eC, eW, if_pos rfl, gD', hDL, by rw [hol, hsz], fun i v e => (hP i v e).2.low hC2⟩
  · refine wpAny_abs fun K₀ hK₀ => ?_
    refine wpAny_Assign_Name (LComp (cl := []) rfl (by decide) rfl (by decide) (nm_C rfl gcN hcN ?_))
    refine wpAny_abs fun K₂ hK₂ => ?_
    refine wpAny_pyIter_list (PySem.IsL.isList (n := cN) gN) (hK₂ _ _ ?_)
    dsimp only
    generalize hH : s.heap.push _ = H
    have kH : s.heap.StaysIn H := fun b o e => by rw [← hH]; exact Heap.get?_push_of_some _ e
    have gI' : H.IsListIter s.heap.objs.size aN 0 := ⟨_, by rw [← hH]; exact Heap.get?_push_size _ rfl, rfl, rfl⟩
    have hIH : s.heap.objs.size < H.objs.size := by obtain ⟨_, e, _⟩ := gI'; exact Heap.lt_size e
    have hNI : aN < s.heap.objs.size := Heap.lt_size gN
    have hsz : vs.toArray.size = vs.length := by simp
    refine ⟨s.heap.objs.size, [s.heap.objs.size, aN], [s.heap.objs.size], vs.toArray.size, [Str.ofString "name"], _, _, fun C j v h => C = H.objs.size + 1 ∧ Rw h C ys j v, rfl, Drw.name (Walks.list (A := A) hh s.heap.objs.size aN (Nat.ne_of_lt hNI) vs.toArray), by exact om113q _ _ n11 hsz, ?_, ?_, ?_, ⟨gI', PySem.IsL.isList (n := cN) (kH _ _ gN)⟩, ?_, ?_, ?_⟩
    · exact fun b hb => by cases hb
    · rintro C j v h h' ⟨hC, hP⟩ hk
      refine ⟨hC, hP.keep fun b o hb e => hk b o (.inr hb) (fun q => ?_) (fun q => by cases q) e⟩
      exact absurd (Nat.lt_trans (by rw [hC, List.mem_singleton.mp q]; exact Nat.lt_succ_of_lt hIH) hb) (Nat.lt_irrefl _)
    · intro x hx'; rw [List.mem_singleton.mp hx']; rfl
    · intro b hb
      rcases List.mem_cons.mp hb with rfl | hb
      · exact hIH
      · rw [List.mem_singleton.mp hb]; exact Nat.lt_trans hNI hIH
    · rintro C' j bs mc s' hC hj ⟨v, hvj, rfl⟩ hns hm hk hsz'
      have keepG : g.StaysIn s'.heap := fun b o e => hk b o (fun q => by
        have := Heap.lt_size (S b o e)
        rw [List.mem_singleton.mp q] at this
        exact Nat.lt_irrefl _ this) (kH _ _ (S b o e))
      obtain ⟨y, ty, rfl, hyj, hy1, hy2, hy3⟩ := hv j v (by simpa using hvj)
      refine wpAny_abs fun KK hKK => ?_
      refine Call_ (nm_K C keepG (by k_is) (cwK C.K (by k_is) (sm (nm_L hns (hm _ (.head _)) (spliced_none ⟨C.K.keeps keepG, ?_⟩)))))
      refine words_call C keepG hy1 hy2 hh (by exact om103q _ _ hroom) fun h₂ tk₂ D₂ ws zs c₂ S₂ hD₂ gD₂ hzs hzr => ?_
      refine hKK _ _ ?_
      refine ⟨⟨_, _, rfl⟩, fun b o e => S₂ b o e, hC, D₂, ws, zs, c₂, rfl, Nat.lt_of_lt_of_le hsz' hD₂, gD₂, hzs, ?_⟩
      rw [hyj]; exact hzr
    · intro D' C' h' tk' out c' hD' hC' gD' hol hP hk
      have kp : s.heap.StaysIn h' := fun b o e => hk b o (fun z => by
        have := Heap.lt_size e
        rw [List.mem_singleton.mp z] at this
        exact Nat.lt_irrefl _ this) (fun z => by cases z) (kH _ _ e)
      have hD : L + 2 < D' := by rw [hD']; exact Nat.lt_trans hRs hIH
      refine st_C (c := L + 2) rfl (kp _ _ gcR) hcR fun h₂ o₂ gc₂ hc₂ k₂ z₂ => ?_
      refine hK₀ .next _ ?_
      refine ⟨h₂, tk', D', out, c', o₂, rfl, fun b o q e => k₂ b o q (kp b o e), gc₂, hc₂, k₂ _ _ (Nat.ne_of_gt hD) gD', hD, by rw [hol, hsz], fun i v e => ((hP i v e).2.low ?_).keep fun b o hb e => k₂ b o (Nat.ne_of_gt hb) e⟩
      rw [hC']; exact Nat.le_of_lt (Nat.lt_succ_of_lt (Nat.lt_trans hRs hIH))
end
end Mine
end
section
open PySem PySem.W PyProof.Rows PySem.Calls
set_option Elab.async false
set_option linter.all false
set_option maxRecDepth 100000
namespace Mine
theorem fill41 (w : World) (g : Heap) : (hd.heap_1 w.params).In g → PySem.Challenge.rw_mr0283_01.row.prog = PySem.Challenge.rw_mr0283_01.row.prog := by
  k_fill
  intro _; rfl
def iv : Value → Int
  | .int c _ => c
  | _ => 0
def sv : Value → Str
  | .str y _ => y
  | _ => ⟨#[]⟩
theorem ints_of : ∀ {l : List Value}, (∀ v ∈ l, ∃ c t, v = .int c t) → IntsAre l (l.map iv)
  | [], _ => .nil
  | v :: r, h => by
    obtain ⟨c, t, rfl⟩ := h v (.head _)
    exact .cons c t (ints_of fun u hu => h u (.tail _ hu))
theorem strs_of : ∀ {l : List Value}, (∀ v ∈ l, ∃ c t, v = .str c t) → StrsAre l (l.map sv)
  | [], _ => .nil
  | v :: r, h => by
    obtain ⟨c, t, rfl⟩ := h v (.head _)
    exact .cons c t (strs_of fun u hu => h u (.tail _ hu))
section
variable {prog : Program} {w : World} {A : Around} {E : Value → Shared → Prop} {s : Shared} {mg mb : Str → Option Value} {g : Heap} {L : Addr}
/-- x[:n] of any list -/
theorem slice_uptoI {value slice : PySem.Expr} {l : Addr} {vs : List Value} {n : Nat} {t : Tok} {Q : Value → Shared → Prop} (hL : s.heap.IsList l vs.toArray) (hsz : vs.length < 1000)
    (h : ∀ h' D, s.heap.StaysIn h' → s.heap.objs.size ≤ D → h'.get? D = some (lst (vs.take n) 0) → Q (.ref D) { s with heap := h' })
    (hs : subscripted slice false (.ref l) (.ref s.heap.objs.size) = operate [.ref s.heap.objs.size, .ref l] (getItem (.ref l) (.ref s.heap.objs.size)) := by with_unfolding_all rfl) :
    wpAny (model prog w) A (subscriptTail value slice (.ref l) (.ref s.heap.objs.size)) Q E { s with heap := s.heap.push { cls := .type "slice", data := .fields #[.none, .int (n : Int) t, .none] } } := by
  refine tail_any (Heap.IsList.typeIs (s := { s with heap := s.heap.push { cls := .type "slice", data := .fields #[.none, .int (n : Int) t, .none] } }) (hL.push _)) list_getitem_lookup
    (wpAny_getItem_list_slice (hL.push _) (Heap.IsSliceOf.new ..) .none (.int _ _) .none (by simp) ?_ (by rw [sizeLine_eq, List.size_toArray]; exact om91q _ hsz)) hs
  rw [pick_upto]
  refine h _ _ (fun b o e => Heap.get?_push_of_some _ (Heap.get?_push_of_some _ e)) ?_ (Heap.get?_push_size _ rfl)
  show _ ≤ (s.heap.push _).objs.size
  rw [Heap.size_push]; exact Nat.le_succ _

set_option maxHeartbeats 4000000 in
theorem law_A1 {oc : Value} {od : Option Addr} {osl : Array (Option Value)} {name qual : Str} {params : Arguments} {body : List Stmt} {scope : Scope} {dV kV doc pm cdv ct : Value} {an : Option Addr}
    (ho : (hd.heap_1 w.params).lookup 136 = some ⟨oc, od, .func (fnOf name qual params body scope dV kV doc pm an cdv ct), osl⟩) {fa : Addr} {cdv' : Value}
    {m : Str → Option Value} {Q : Flow → Shared → Prop} {l : Addr} {vals : List Value} {zs : List Int} {oN oR : Obj} {v₁ v₂ : Option Value} (C : Cx w mg mb g) (hgL : g.objs.size ≤ L)
    {fe : Env} (hfe : fe.frame = some L) (hfk : fe.scope.kind ≠ .module) (hfr : A.frames = some [fe]) (S : g.StaysIn s.heap) (ns : s.heap.Ns L m) (eS : m (Str.ofString "script") = some (.ref l)) (hl : g.IsList l vals.toArray) (hI : IntsAre vals zs) (h63 : zs.length ≤ 63)
    (gcN : s.heap.get? (L + 1) = some oN) (hcN : oN.data = .cell v₁) (gcR : s.heap.get? (L + 2) = some oR) (hcR : oR.data = .cell v₂)
    (hh : A.handled = none) (hroom : A.depth + 7 < recursionLimit) (hu : A.units + 100 < cLine)
    (hQ : ∀ h tk, g.StaysIn h → Q (.ret (.bool true)) { s with heap := h, toks := tk }) :
    wpAny (model prog w) A (execs body (envOfC qual scope L fa cdv')) Q E s := by
  obtain ⟨rfl, rfl, rfl, rfl⟩ := same_fn ho (by k_is)
  have hLs : L < s.heap.objs.size := ns.lt
  have hRs : L + 2 < s.heap.objs.size := Heap.lt_size gcR
  have gnone : ∀ b, L ≤ b → g.get? b = none := fun b hb => Heap.get?_none_of_le (Nat.le_trans hgL hb)
  have hvl : vals.length = zs.length := hI.length
  -- cells
  refine execs_cut (P := fun s' => Ex6 fun h tk m' aC cvs cC => C8 (s' = { s with heap := h, toks := tk }) ((∀ b o, b ≠ L → s.heap.get? b = some o → h.get? b = some o)) (h.Ns L m') (m' (Str.ofString "cells") = some (.ref aC)) (h.get? aC = some (lst cvs cC)) (L + 2 < aC) (cvs.length ≤ 7) ((∀ v ∈ cvs, ∃ c t, v = .int c t ∧ 0 ≤ c ∧ c < 1000000))) ?_ ?_
  · rintro s' ⟨h₁, tk₁, m₁, aC, cvs, cC, rfl, k₁, ns₁, eC₁, gC₁, hCL, hcl, hcv⟩
    have S₁ : g.StaysIn h₁ := fun b o e => k₁ b o (fun q => by rw [q, gnone L (Nat.le_refl _)] at e; cases e) (S b o e)
    have gcN₁ : h₁.get? (L + 1) = some oN := k₁ _ _ (Nat.succ_ne_self _) gcN
    have gcR₁ : h₁.get? (L + 2) = some oR := k₁ _ _ (Nat.ne_of_gt (Nat.lt_add_of_pos_right (by decide))) gcR
    have hR₁ : L + 2 < h₁.objs.size := Heap.lt_size gcR₁
    -- names
    refine execs_cut (P := fun s' => Ex6 fun h tk aN vs cN oN' => C8 (s' = { s with heap := h, toks := tk }) ((∀ b o, b ≠ L + 1 → h₁.get? b = some o → h.get? b = some o)) (h.get? (L + 1) = some oN') (oN'.data = .cell (some (.ref aN))) (h.get? aN = some (lst vs cN)) (L + 2 < aN) (vs.length = 5 + (cvs.length - 1)) ((∀ v ∈ vs, ∃ y ty, v = .str y ty ∧ (∀ c ∈ raw y, Al c = true) ∧ y.length ≤ 5))) ?_ ?_
    · rintro s' ⟨h₂, tk₂, aN, vs, cN, oN', rfl, k₂, gcN₂, hcN₂, gN₂, hNL, hvl₂, hvs⟩
      have S₂ : g.StaysIn h₂ := fun b o e => k₂ b o (fun q => by rw [q, gnone (L + 1) (Nat.le_succ _)] at e; cases e) (S₁ b o e)
      have ns₂ : h₂.Ns L m₁ := ns₁.at' fun o e => k₂ _ o (Nat.ne_of_lt (Nat.lt_succ_self _)) e
      have gC₂ : h₂.get? aC = some (lst cvs cC) := k₂ _ _ (Nat.ne_of_gt (Nat.lt_trans (Nat.lt_succ_self _) hCL)) gC₁
      have gcR₂ : h₂.get? (L + 2) = some oR := k₂ _ _ (Nat.ne_of_gt (Nat.lt_succ_self _)) gcR₁
      have hci : IntsAre cvs (cvs.map iv) := ints_of fun v hv => by obtain ⟨c, t, e, _⟩ := hcv v hv; exact ⟨c, t, e⟩
      have hst : StrsAre vs (vs.map sv) := strs_of fun v hv => by obtain ⟨c, t, e, _⟩ := hvs v hv; exact ⟨c, t, e⟩
      -- wish
      with_reducible refine wpAny_execs_cons ?_
      refine wpAny_Assign_Name (wpAny_BinOp (Subscript_ (wpAny_BinOp (nm_L ns₂ eC₁ (list1 (cI fun t3 _ => ?_))))))
      refine add_R (Heap.get?_push_of_some _ gC₂) (Heap.get?_push_size _ rfl) (by simp; exact om92q _ hcl) ?_
      obtain ⟨c, tc, hc, hc0⟩ : ∃ c tc, at' (cvs ++ [Value.int 3 t3]) 0 = .int c tc ∧ 0 ≤ c := by
        cases hq : cvs with
        | nil => exact ⟨3, t3, rfl, by decide⟩
        | cons v r =>
          obtain ⟨c, t, e, h0, _⟩ := hcv v (by rw [hq]; exact .head _)
          exact ⟨c, t, e, h0⟩
      dsimp only
      refine cI fun _ _ => item_l (i := 0) (Heap.get?_push_size _ rfl) (by simp) (by simp; exact om92q _ hcl) ?_
      rw [hc]
      generalize hH : (h₂.push _).push _ = H
      have kH : h₂.StaysIn H := fun b o e => by rw [← hH]; exact Heap.get?_push_of_some _ (Heap.get?_push_of_some _ e)
      have SH : g.StaysIn H := fun b o e => kH b o (S₂ b o e)
      refine wpAny_BinOp (Call_ (nm_B C SH (by k_is) boot_len (by decide) (cwb (sm (nm_C rfl (kH _ _ gcN₂) hcN₂ (spliced_none (len_l (kH _ _ gN₂) (by exact om93q _ _ hcl hvl₂) fun _ _ => cI fun _ _ => add_int ?_)))))))
      dsimp only
      refine mod_int (by exact om94q _) ?_
      have f0 := Int.fmod_nonneg_of_pos c (b := (vs.length : Int) + 2) (by exact om95q _)
      have f1 := Int.fmod_lt_of_pos c (b := (vs.length : Int) + 2) (by exact om95q _)
      obtain ⟨n, hn⟩ : ∃ n : Nat, c.fmod ((vs.length : Int) + 2) = (n : Int) := ⟨(c.fmod ((vs.length : Int) + 2)).toNat, by exact om96q _ f0⟩
      rw [hn] at f1 ⊢
      refine st_R (ns₂.at' fun o e => kH _ o e) fun h₃ tk₃ ns₃ k₃ => ?_
      dsimp only
      have up : ∀ b o, b ≠ L → h₂.get? b = some o → h₃.get? b = some o := fun b o q e => k₃ b o q (kH b o e)
      have gtL : ∀ b, L + 2 < b → b ≠ L := fun b hb => Nat.ne_of_gt (Nat.lt_trans (Nat.lt_add_of_pos_right (by decide)) hb)
      refine law_A2 (vs := vs) (ys := vs.map sv) (cs := cvs.map iv) ho C hgL hfe hfk hfr (fun b o e => up b o (fun q => by rw [q, gnone L (Nat.le_refl _)] at e; cases e) (S₂ b o e)) ns₃ eC₁ (if_pos rfl) (by exact om97q _ _ _ hcl hvl₂ f1) (by exact om98q _ _ hvl₂) (by exact om99q _ _ hcl hvl₂) hst ?_ ?_ (up _ _ (gtL _ hNL) gN₂) (up _ _ (Nat.succ_ne_self _) gcN₂) hcN₂ (up _ _ (Nat.ne_of_gt (Nat.lt_add_of_pos_right (by decide))) gcR₂) hcR (up _ _ (gtL _ hCL) gC₂) hci ?_ (by rw [List.length_map]; exact hcl) ?_ (gtL _ hNL) (gtL _ hCL) hh hroom hu fun h tk S => hQ h tk S
      · intro y hy
        obtain ⟨v, hv, rfl⟩ := List.mem_map.mp hy
        obtain ⟨y, ty, rfl, h1, h2⟩ := hvs v hv
        exact ⟨h1, Nat.le_trans h2 (by decide)⟩
      · intro y hy
        obtain ⟨v, hv, rfl⟩ := List.mem_map.mp hy
        obtain ⟨y, ty, rfl, h1, h2⟩ := hvs v hv
        exact Nat.le_trans h2 (by decide)
      · intro i h5 hi
        rw [List.length_map]; exact om100q _ _ _ hvl₂ h5 hi
      · intro c hc
        obtain ⟨v, hv, rfl⟩ := List.mem_map.mp hc
        obtain ⟨c, t, rfl, h0⟩ := hcv v hv
        exact h0
    · refine wpAny_abs fun K₀ hK₀ => ?_
      refine wpAny_Assign_Name (wpAny_BinOp ?_)
      refine wpAny_List_spliced ?_
      refine sm (wpAny_Constant_str (sm (wpAny_Constant_str (sm (wpAny_Constant_str (sm (wpAny_Constant_str (sm (wpAny_Constant_str (spliced_none ⟨by rw [sizeLine_eq]; simp, ?_⟩))))))))))
      dsimp only
      obtain ⟨c5, hc5, hc5l, hc5v⟩ : ∃ c5 : List Value, c5 = [Value.str (Str.ofString " a  b") tk₁, Value.str (Str.ofString "_b") (tk₁ + 1), Value.str (Str.ofString "A\tB") (tk₁ + 1 + 1), Value.str (Str.ofString "aB") (tk₁ + 1 + 1 + 1), Value.str (Str.ofString "A_b") (tk₁ + 1 + 1 + 1 + 1)] ∧ c5.length = 5 ∧ (∀ v ∈ c5, ∃ y ty, v = .str y ty ∧ (∀ c ∈ raw y, Al c = true) ∧ y.length ≤ 5) := by
        refine ⟨_, rfl, rfl, fun v hv => ?_⟩
        simp only [List.mem_cons, List.not_mem_nil, or_false] at hv
        rcases hv with rfl | rfl | rfl | rfl | rfl
        · exact ⟨_, _, rfl, by decide, by decide⟩
        · exact ⟨_, _, rfl, by decide, by decide⟩
        · exact ⟨_, _, rfl, by decide, by decide⟩
        · exact ⟨_, _, rfl, by decide, by decide⟩
        · exact ⟨_, _, rfl, by decide, by decide⟩
      generalize hH0 : h₁.push _ = H0
      have g5 : H0.get? h₁.objs.size = some (lst c5 0) := by rw [← hH0, hc5]; exact Heap.get?_push_size _ rfl
      have kH0 : h₁.StaysIn H0 := fun b o e => by rw [← hH0]; exact Heap.get?_push_of_some _ e
      have ns0 : H0.Ns L m₁ := ns₁.at' fun o e => kH0 _ o e
      have SG0 : g.StaysIn H0 := fun b o e => kH0 b o (S₁ b o e)
      refine wpAny_abs fun K₃ hK₃ => ?_
      refine LComp (cl := []) rfl (by decide) rfl (by decide) ?_
      refine wpAny_abs fun K₁ hK₁ => ?_
      refine Subscript_ (nm_L ns0 eC₁ (sl_sn (cI fun _ _ => ?_)))
      refine slice_from (n := 1) (kH0 _ _ gC₁) (by exact om101q _ hcl) fun h₂ d S₂ hd gd => ?_
      refine hK₁ _ _ ?_
      refine wpAny_abs fun K₂ hK₂ => ?_
      refine wpAny_pyIter_list (PySem.IsL.isList (n := 0) gd) (hK₂ _ _ ?_)
      dsimp only
      generalize hH : h₂.push _ = H
      have kH : h₂.StaysIn H := fun b o e => by rw [← hH]; exact Heap.get?_push_of_some _ e
      have gI' : H.IsListIter h₂.objs.size d 0 := ⟨_, by rw [← hH]; exact Heap.get?_push_size _ rfl, rfl, rfl⟩
      have hIH : h₂.objs.size < H.objs.size := by obtain ⟨_, e, _⟩ := gI'; exact Heap.lt_size e
      have hdI : d < h₂.objs.size := Heap.lt_size gd
      have h1d : h₁.objs.size < d := Nat.lt_of_lt_of_le (Heap.lt_size g5) hd
      have hLI : L + 2 < h₂.objs.size := Nat.lt_trans hR₁ (Nat.lt_trans h1d hdI)
      have SG : g.StaysIn h₂ := fun b o e => S₂ b o (SG0 b o e)
      have hsz : (cvs.drop 1).toArray.size = cvs.length - 1 := by simp
      refine ⟨h₂.objs.size, [h₂.objs.size, d], [h₂.objs.size], (cvs.drop 1).toArray.size, [Str.ofString "cell"], _, _, fun C j v h => ∃ y ty, v = .str y ty ∧ (∀ c ∈ raw y, Al c = true) ∧ y.length ≤ 5, rfl, Drw.name (Walks.list (A := A) hh h₂.objs.size d (Nat.ne_of_lt hdI) (cvs.drop 1).toArray), by exact om102q _ _ hcl hsz, (fun b hb => by cases hb), (fun _ _ _ _ _ hp _ => hp), ?_, ⟨gI', PySem.IsL.isList (n := 0) (kH _ _ gd)⟩, ?_, ?_, ?_⟩
      · intro x hx'; rw [List.mem_singleton.mp hx']; rfl
      · intro b hb
        rcases List.mem_cons.mp hb with rfl | hb
        · exact hIH
        · rw [List.mem_singleton.mp hb]; exact Nat.lt_trans hdI hIH
      · rintro C' j bs mc s' hC hj ⟨v, hvj, rfl⟩ hns hm hk hsz'
        have keepG : g.StaysIn s'.heap := fun b o e => hk b o (fun q => by
          have := Heap.lt_size (SG b o e)
          rw [List.mem_singleton.mp q] at this
          exact Nat.lt_irrefl _ this) (kH _ _ (SG b o e))
        have hvj' : (cvs.drop 1)[j]? = some v := by simpa using hvj
        obtain ⟨c, tc, rfl, hc0, hc1⟩ := hcv v (List.mem_of_mem_drop (List.mem_of_getElem? hvj'))
        refine Call_ (nm_K C keepG (by k_is) (cwK C.K (by k_is) (sm (nm_L hns (hm _ (.head _)) (spliced_none ⟨C.K.keeps keepG, ?_⟩)))))
        exact name_call C keepG hc0 hc1 hh (by exact om103q _ _ hroom) fun h₃ tk₃ y ty S₃ hy1 hy2 => ⟨⟨_, _, rfl⟩, fun b o e => S₃ b o e, y, ty, rfl, hy1, hy2⟩
      · intro D' C' h' tk' out c' hD' hC' gD' hol hP hk
        have kp : h₂.StaysIn h' := fun b o e => hk b o (fun z => by
          have := Heap.lt_size e
          rw [List.mem_singleton.mp z] at this
          exact Nat.lt_irrefl _ this) (fun z => by cases z) (kH _ _ e)
        have kp1 : h₁.StaysIn h' := fun b o e => kp b o (S₂ b o (kH0 b o e))
        have hol' : out.length = cvs.length - 1 := by rw [hol, hsz]
        refine hK₃ _ _ ?_
        refine add_R (kp _ _ (S₂ _ _ g5)) gD' (by exact om104q _ _ _ _ hcl hc5l hsz hol) ?_
        refine st_C (c := L + 1) rfl (Heap.get?_push_of_some _ (kp1 _ _ gcN₁)) hcN fun h₄ o₄ gc₄ hc₄ k₄ z₄ => ?_
        have hLD : L + 2 < h'.objs.size := Nat.lt_of_lt_of_le hLI (Nat.le_of_lt (Nat.lt_of_lt_of_le hIH (by rw [← hD']; exact Nat.le_of_lt (Heap.lt_size gD'))))
        refine hK₀ .next _ ?_
        refine ⟨h₄, tk', h'.objs.size, c5 ++ out, 0, o₄, rfl, fun b o q e => k₄ b o q (Heap.get?_push_of_some _ (kp1 b o e)), gc₄, hc₄, k₄ _ _ (Nat.ne_of_gt (Nat.lt_trans (Nat.lt_succ_self _) hLD)) (Heap.get?_push_size _ rfl), hLD, by rw [List.length_append, hc5l, hol'], fun v hv => ?_⟩
        rcases List.mem_append.mp hv with q | q
        · exact hc5v v q
        · obtain ⟨j, hj⟩ := List.getElem?_of_mem q
          exact hP j v hj
  · refine wpAny_abs fun K₀ hK₀ => ?_
    refine AComp (cl := []) rfl rfl (by decide) rfl (by decide) rfl rfl ?_
    refine wpAny_abs fun K₁ hK₁ => ?_
    refine Subscript_ (nm_L ns eS (sl_ns (cI fun _ _ => ?_)))
    refine slice_uptoI (n := 7) (vs := vals) (hl.at fun o e => S _ o e) (by exact om105q _ _ h63 hvl) fun h₁ d S₁ hd gd => ?_
    refine hK₁ _ _ ?_
    refine wpAny_abs fun K₂ hK₂ => ?_
    refine wpAny_pyIter_list (PySem.IsL.isList (n := 0) gd) (hK₂ _ _ ?_)
    dsimp only
    generalize hH : h₁.push _ = H
    have kH : h₁.StaysIn H := fun b o e => by rw [← hH]; exact Heap.get?_push_of_some _ e
    have gI' : H.IsListIter h₁.objs.size d 0 := ⟨_, by rw [← hH]; exact Heap.get?_push_size _ rfl, rfl, rfl⟩
    have hIH : h₁.objs.size < H.objs.size := by obtain ⟨_, e, _⟩ := gI'; exact Heap.lt_size e
    have hdI : d < h₁.objs.size := Heap.lt_size gd
    have hLd : L + 2 < d := Nat.lt_of_lt_of_le hRs hd
    have hLI : L + 2 < h₁.objs.size := Nat.lt_trans hLd hdI
    have hsz : (vals.take 7).toArray.size ≤ 7 := by simp; exact om106q _
    have SG : g.StaysIn h₁ := fun b o e => S₁ b o (S b o e)
    refine ⟨m, (ns.at' fun o e => S₁ _ o e).at' fun o e => kH _ o e, h₁.objs.size, [h₁.objs.size, d], [h₁.objs.size], (vals.take 7).toArray.size, [Str.ofString "cell"], _, _, fun C j v h => ∃ c t, v = .int c t ∧ 0 ≤ c ∧ c < 1000000, rfl, Drw.name (Walks.list (A := A) hh h₁.objs.size d (Nat.ne_of_lt hdI) (vals.take 7).toArray), by exact om107q _ hsz, ?_, (fun _ _ _ _ _ hp _ => hp), ?_, ⟨gI', PySem.IsL.isList (n := 0) (kH _ _ gd)⟩, ?_, ?_, ?_⟩
    · intro b hb q
      rw [List.mem_singleton.mp hb] at q
      exact absurd (List.mem_singleton.mp q) (Nat.ne_of_lt (Nat.lt_trans (Nat.lt_add_of_pos_right (by decide)) hLI))
    · intro x hx'; rw [List.mem_singleton.mp hx']; rfl
    · intro b hb
      rcases List.mem_cons.mp hb with rfl | hb
      · exact hIH
      · rw [List.mem_singleton.mp hb]; exact Nat.lt_trans hdI hIH
    · rintro C' j bs mc s' hC hj ⟨v, hvj, rfl⟩ hns hm hk hsz'
      have keepG : g.StaysIn s'.heap := fun b o e => hk b o (fun q => by
        have := Heap.lt_size (SG b o e)
        rw [List.mem_singleton.mp q] at this
        exact Nat.lt_irrefl _ this) (kH _ _ (SG b o e))
      have hvj' : (vals.take 7)[j]? = some v := by simpa using hvj
      obtain ⟨c, tc, rfl, _⟩ := hI.at j v (by
        rw [List.getElem?_take] at hvj'
        split at hvj'
        · exact hvj'
        · cases hvj')
      refine wpAny_abs fun KK hKK => ?_
      refine wpAny_BinOp (Call_ (nm_B C keepG (by k_is) boot_int (by decide) (cwt (sm (nm_L hns (hm _ (.head _)) (spliced_none (call_int_int ?_)))))))
      refine wpAny_BinOp (cI fun _ _ => cI fun _ _ => pow_int_small (by decide) (by decide) (by decide) ?_)
      refine mod_int (by decide) (hKK _ _ ⟨⟨_, _, rfl⟩, fun b o e => e, _, _, rfl, ?_, ?_⟩)
      · exact Int.fmod_nonneg_of_pos _ (by decide)
      · exact Int.fmod_lt_of_pos _ (by decide)
    · intro D' C' h' tk' out c' hD' hC' gD' hol hP hk hns'
      have hD : L + 2 < D' := by rw [hD']; exact Nat.lt_trans hLI hIH
      refine hK₀ .next _ ?_
      refine ⟨h', tk', _, D', out, c', rfl, fun b o q e => hk b o (fun z => ?_) (fun z => q (List.mem_singleton.mp z)) (kH _ _ (S₁ b o e)), hns', if_pos rfl, gD', hD, by exact om108q _ _ hsz hol, fun v hv => ?_⟩
      · have := Heap.lt_size (S₁ b o e)
        rw [List.mem_singleton.mp z] at this
        exact Nat.lt_irrefl _ this
      · obtain ⟨j, hj⟩ := List.getElem?_of_mem hv
        exact hP j v hj
end
end Mine
end
section
open PySem PySem.W PyProof.Rows PySem.Calls
set_option Elab.async false
set_option linter.all false
set_option maxRecDepth 100000
set_option maxHeartbeats 8000000
namespace Mine
theorem fill42 (w : World) (g : Heap) : (hd.heap_1 w.params).In g → PySem.Challenge.rw_mr0283_01.row.prog = PySem.Challenge.rw_mr0283_01.row.prog := by
  k_fill
  intro _; rfl
theorem post_true (args ds : List WData) : PySem.Challenge.rw_mr0283_01.row.claim.post args (.bool true) ds = true := by
  show (WShape.has [] (.bool true) .bool && WTm.holds [] (.eq .res (.lit (.bool true))) { args := args, res := some (.bool true), after := ds }) = true
  rw [Bool.and_eq_true]
  constructor
  · first | rfl | simp [WShape.has]
  · unfold WTm.holds
    simp only [WTm.value]
    rw [PySem.W.same_iff.mpr rfl]
end Mine
open Mine
local macro_rules | `(tactic| k_qdec) => `(tactic| decide +kernel)
theorem PySem.Challenge.cw_mr0283_01_holds : PySem.Challenge.rw_mr0283_01.Holds := by
  refine holds_law said fun _ => ?_
  apply hd
  w_strict (
    k_go0
    rename_i w s₀ s₁ mg mb G Y fa o pm doc ho hg KX X V GL T B TE TW w11 w10 M w9 w8 hcd zs hs hlay0 hL1 hr1 hl2 w6 w5 l vals w2 hL ra w1 r0 hI hr hc1 hc2 K0 hD h1 tk1 F wo1 wo0 left right N0 X0
    obtain ⟨oc', od', osl', name', qual', params', body', scope', dV', kV', doc', pm', cdv', ct', an', ho'⟩ : ∃ oc od osl name qual params body scope dV kV doc pm cdv ct an, (hd.heap_1 w.params).lookup 136 = some ⟨oc, od, .func (fnOf name qual params body scope dV kV doc pm an cdv ct), osl⟩ := ⟨_, _, _, _, _, _, _, _, _, _, _, _, _, _, _, by k_is⟩
    obtain ⟨rfl, rfl, rfl, rfl⟩ := same_fn ho' (by k_is)
    have C : Cx w mg mb s₁.heap := ⟨KX, topRead_of T⟩
    have gcN := (N0 _ (.tail _ (.head _))).1
    have gcR := (N0 _ (.head _)).1
    refine wpAny_mono (Q := fun fl s' => fl = .ret (.bool true) ∧ ∃ h tk, s' = { s₁ with heap := h, toks := tk } ∧ s₁.heap.StaysIn h) (E := fun _ _ => False) (law_A1 (l := l) ho' C (Nat.le_refl _) rfl (fun q => by cases q) rfl F.keep F.ns (by rfl) hL hI (by omega) gcN right gcR left rfl ?_ ?_ fun h tk S => ⟨rfl, h, tk, rfl, S⟩) (fun fl s' h => ?_) (fun _ _ x => x.elim)
    · show callerA.depth + 1 + 7 < recursionLimit; decide +kernel
    · show callerA.units + 3 + 100 < cLine; decide +kernel
    · obtain ⟨rfl, h, tk, rfl, st⟩ := h
      refine ⟨.inl ⟨.bool true, .bool true, [], rfl, ?_, ?_, ?_, ?_⟩, st, rfl, hg⟩
      · intro cls; rfl
      · first | exact .bool _ | constructor | rfl | trivial
      · exact post_true _ _
      · exact fun _ => ⟨List.nodup_nil, fun a ha => by cases ha⟩)
end
