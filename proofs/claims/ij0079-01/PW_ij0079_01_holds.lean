import PyProof.Rows.All
import Wide.All
import OpenK.AllK
import Wide.FinOn
import PySem.Challenge.RW_ij0079_01
set_option Elab.async false
set_option compiler.extract_closed false

section
open PySem PySem.W PyProof.Rows
namespace Mine
/-- the text without the rows that name its modules -/
noncomputable def viewP : Program := { PySem.Challenge.pw_ij0079_01 with main := { PySem.Challenge.pw_ij0079_01.main with body := [0, 2, 3, 4, 5, 6, 8, 9, 10, 11, 13, 15, 17, 19, 20, 21, 22, 23].filterMap fun i => PySem.Challenge.pw_ij0079_01.main.body[i]? } }
-- the head at once, its runs by the library's quick twins (the program's own twin is made by the look at the law, ahead of the head)
local macro_rules | `(tactic| o_head $H) => do
  let te := Lean.mkIdent `PySem.W.Fast.te17477566880906200382
  `(tactic| (
  refine holds_open (q := Mine.viewP) (loose := [Str.ofString "filterfalse"]) (Xt := fun s => xlAt Mine.viewP [] s && recOk (RowW.records (OpenRow.toRowW (OpenLaw.row PySem.Challenge.rw_ij0079_01))) s) (XP := XL Mine.viewP []) (Yf := Hook.obs $H) (Ya := Hook.val $H) (YP := Hook.says $H) (N := 1854) ?hl (Hook.of $H) (Hook.keeps $H) (fun s e => xl_of s (Bool.and_eq_true_iff.mp e).1) XL.keeps (by rfl) (by rfl) (by rfl) (fun s e => recFacts_of (Bool.and_eq_true_iff.mp e).2) (by rfl) (by first | assumption | decide +kernel) (by decide +kernel) ⟨rfl, rfl, rfl, rfl, rfl, by decide +kernel⟩ ?hw ?hc;
  (case hl => (
    intro w;
    change Option.map (fun s => (openSeen Mine.viewP [Str.ofString "filterfalse"] (importedModules PySem.Challenge.pw_ij0079_01.main.body) (fun s => xlAt Mine.viewP [] s && recOk (RowW.records (OpenRow.toRowW (OpenLaw.row PySem.Challenge.rw_ij0079_01))) s) true s, Hook.obs $H s)) (openEnds treeTable PySem.Challenge.pw_ij0079_01 w 1854) = some (openGood Mine.viewP [Str.ofString "filterfalse"], Hook.val $H w);
    delta openEnds fencedOpening topFrom;
    rw [PySem.W.Fast.te14364793385576792824, PySem.W.Fast.te10274390034422433532, PySem.W.Fast.te14082659384304107361, PySem.W.Fast.te5923862056798008813, PySem.W.Fast.te4187177175401517315, $te:ident];
    kernel_rfl))))
set_option maxRecDepth 100000 in
set_option maxHeartbeats 8000000 in
open_top hd for PySem.Challenge.rw_ij0079_01
end Mine
end

section
open PySem PySem.W PySem.Calls PyProof.Rows PySem.Spec PyProof
set_option maxRecDepth 100000
set_option maxHeartbeats 4000000
namespace Mine

/-- a tuple of two ints -/
noncomputable abbrev tup2 (x y : Int) (t u : Tok) (n : Nat) : Obj := { cls := .type "tuple", data := .seq #[.int x t, .int y u] n }

theorem rc_lt_int {prog : Program} {w : World} {A : Around} {E : Value → Shared → Prop} {s : Shared} {a b : Int} {t u : Tok} {Q : Value → Shared → Prop}
    (h : Q (.bool (decide (a < b))) s) : wpAny (model prog w) A (richCompare .Lt (.int a t) (.int b u)) Q E s := lt_int h

open AutoSeq1 (wpAny_loadPart') in
theorem tuple_lt2 (l b : Addr) (x1 y1 x2 y2 : Int) (t1 u1 t2 u2 : Tok) (n n2 : Nat) :
    Meets (Builtin.«tuple.__lt__» ⟨[.ref l, .ref b], []⟩)
      (fun _ R s => s.heap.get? l = some (tup2 x1 y1 t1 u1 n) ∧ s.heap.get? b = some (tup2 x2 y2 t2 u2 n2) ∧
        R (.ok (.ret (.bool (decide (x1 < x2 ∨ x1 = x2 ∧ y1 < y2))))) s) :=
  .of_wp fun prog w A R s h => by
    obtain ⟨hp, g, d, tk, os⟩ := s; obtain ⟨hl, hb, h⟩ := h
    have f2 := AutoSeq1.sub_tuple_tuple
    repeat (first | with_reducible apply wpAny_loadPart' hl | with_reducible apply wpAny_loadPart' hb | (first | with_reducible refine PySem.wpAny_bind ?_ | with_reducible refine PySem.wpAny_pure ?_ | with_reducible refine PySem.wpAny_of_eq (by assumption) ?_ | ((with_reducible fail_if_success first | show PySem.wpAny _ _ (PySem.mkStr _) _ _ _ | show PySem.wpAny _ _ (PySem.mkInt _) _ _ _ | show PySem.wpAny _ _ (PySem.typeOf _) _ _ _ | show PySem.wpAny _ _ (PySem.isInstance _ _) _ _ _ | show PySem.wpAny _ _ (PySem.specialOf _ _) _ _ _ | show PySem.wpAny _ _ (PySem.letGo _ _) _ _ _ | show PySem.wpAny _ _ (throw _) _ _ _ | show PySem.wpAny _ _ (PySem.Sem.attempt _) _ _ _); wp_delta) | (with_reducible apply PySem.wpAny_loadPart'; focus (heap_get; done)) | (with_reducible apply PySem.wpAny_load'; focus (heap_get; done)) | (with_reducible apply PySem.wpAny_ite_false; focus (first | (rfl; done) | (simp [*]; done))) | (with_reducible apply PySem.wpAny_ite_true; focus (first | (rfl; done) | (simp [*]; done))) | with_reducible refine PySem.wpAny_runValue ?_ | with_reducible refine PySem.wpAny_alloc' ?_ | with_reducible refine PySem.wpAny_typeOf (by assumption) ?_ | ((with_reducible show PySem.wpAny _ _ _ _ _ _); wp_step)))
    refine wpAny_eqBool_int ?_
    by_cases hx : x1 = x2
    · subst hx
      rw [show (x1 == x1) = true from beq_self_eq_true x1]
      repeat (first | with_reducible refine PySem.wpAny_bind ?_ | with_reducible refine PySem.wpAny_pure ?_ | with_reducible refine PySem.wpAny_of_eq (by assumption) ?_ | ((with_reducible fail_if_success first | show PySem.wpAny _ _ (PySem.mkStr _) _ _ _ | show PySem.wpAny _ _ (PySem.mkInt _) _ _ _ | show PySem.wpAny _ _ (PySem.typeOf _) _ _ _ | show PySem.wpAny _ _ (PySem.isInstance _ _) _ _ _ | show PySem.wpAny _ _ (PySem.specialOf _ _) _ _ _ | show PySem.wpAny _ _ (PySem.letGo _ _) _ _ _ | show PySem.wpAny _ _ (throw _) _ _ _ | show PySem.wpAny _ _ (PySem.Sem.attempt _) _ _ _); wp_delta) | (with_reducible apply PySem.wpAny_loadPart'; focus (heap_get; done)) | (with_reducible apply PySem.wpAny_load'; focus (heap_get; done)) | (with_reducible apply PySem.wpAny_ite_false; focus (first | (rfl; done) | (simp [*]; done))) | (with_reducible apply PySem.wpAny_ite_true; focus (first | (rfl; done) | (simp [*]; done))) | with_reducible refine PySem.wpAny_runValue ?_ | with_reducible refine PySem.wpAny_alloc' ?_ | with_reducible refine PySem.wpAny_typeOf (by assumption) ?_ | ((with_reducible show PySem.wpAny _ _ _ _ _ _); wp_step))
      refine wpAny_eqBool_int ?_
      by_cases hy : y1 = y2
      · subst hy
        rw [show (y1 == y1) = true from beq_self_eq_true y1]
        repeat (first | with_reducible refine PySem.wpAny_bind ?_ | with_reducible refine PySem.wpAny_pure ?_ | with_reducible refine PySem.wpAny_of_eq (by assumption) ?_ | ((with_reducible fail_if_success first | show PySem.wpAny _ _ (PySem.mkStr _) _ _ _ | show PySem.wpAny _ _ (PySem.mkInt _) _ _ _ | show PySem.wpAny _ _ (PySem.typeOf _) _ _ _ | show PySem.wpAny _ _ (PySem.isInstance _ _) _ _ _ | show PySem.wpAny _ _ (PySem.specialOf _ _) _ _ _ | show PySem.wpAny _ _ (PySem.letGo _ _) _ _ _ | show PySem.wpAny _ _ (throw _) _ _ _ | show PySem.wpAny _ _ (PySem.Sem.attempt _) _ _ _); wp_delta) | (with_reducible apply PySem.wpAny_loadPart'; focus (heap_get; done)) | (with_reducible apply PySem.wpAny_load'; focus (heap_get; done)) | (with_reducible apply PySem.wpAny_ite_false; focus (first | (rfl; done) | (simp [*]; done))) | (with_reducible apply PySem.wpAny_ite_true; focus (first | (rfl; done) | (simp [*]; done))) | with_reducible refine PySem.wpAny_runValue ?_ | with_reducible refine PySem.wpAny_alloc' ?_ | with_reducible refine PySem.wpAny_typeOf (by assumption) ?_ | ((with_reducible show PySem.wpAny _ _ _ _ _ _); wp_step))
        refine ⟨_, rfl, ?_⟩
        have e : decide (x1 < x1 ∨ x1 = x1 ∧ y1 < y1) = false := by simp
        rw [e] at h
        exact h
      · rw [show (y1 == y2) = false from beq_eq_false_iff_ne.mpr hy]
        repeat (first | with_reducible apply rc_lt_int | (first | with_reducible refine PySem.wpAny_bind ?_ | with_reducible refine PySem.wpAny_pure ?_ | with_reducible refine PySem.wpAny_of_eq (by assumption) ?_ | ((with_reducible fail_if_success first | show PySem.wpAny _ _ (PySem.mkStr _) _ _ _ | show PySem.wpAny _ _ (PySem.mkInt _) _ _ _ | show PySem.wpAny _ _ (PySem.typeOf _) _ _ _ | show PySem.wpAny _ _ (PySem.isInstance _ _) _ _ _ | show PySem.wpAny _ _ (PySem.specialOf _ _) _ _ _ | show PySem.wpAny _ _ (PySem.letGo _ _) _ _ _ | show PySem.wpAny _ _ (throw _) _ _ _ | show PySem.wpAny _ _ (PySem.Sem.attempt _) _ _ _); wp_delta) | (with_reducible apply PySem.wpAny_loadPart'; focus (heap_get; done)) | (with_reducible apply PySem.wpAny_load'; focus (heap_get; done)) | (with_reducible apply PySem.wpAny_ite_false; focus (first | (rfl; done) | (simp [*]; done))) | (with_reducible apply PySem.wpAny_ite_true; focus (first | (rfl; done) | (simp [*]; done))) | with_reducible refine PySem.wpAny_runValue ?_ | with_reducible refine PySem.wpAny_alloc' ?_ | with_reducible refine PySem.wpAny_typeOf (by assumption) ?_ | ((with_reducible show PySem.wpAny _ _ _ _ _ _); wp_step)))
        refine ⟨_, rfl, ?_⟩
        simpa using h
    · rw [show (x1 == x2) = false from beq_eq_false_iff_ne.mpr hx]
      repeat (first | with_reducible apply rc_lt_int | (first | with_reducible refine PySem.wpAny_bind ?_ | with_reducible refine PySem.wpAny_pure ?_ | with_reducible refine PySem.wpAny_of_eq (by assumption) ?_ | ((with_reducible fail_if_success first | show PySem.wpAny _ _ (PySem.mkStr _) _ _ _ | show PySem.wpAny _ _ (PySem.mkInt _) _ _ _ | show PySem.wpAny _ _ (PySem.typeOf _) _ _ _ | show PySem.wpAny _ _ (PySem.isInstance _ _) _ _ _ | show PySem.wpAny _ _ (PySem.specialOf _ _) _ _ _ | show PySem.wpAny _ _ (PySem.letGo _ _) _ _ _ | show PySem.wpAny _ _ (throw _) _ _ _ | show PySem.wpAny _ _ (PySem.Sem.attempt _) _ _ _); wp_delta) | (with_reducible apply PySem.wpAny_loadPart'; focus (heap_get; done)) | (with_reducible apply PySem.wpAny_load'; focus (heap_get; done)) | (with_reducible apply PySem.wpAny_ite_false; focus (first | (rfl; done) | (simp [*]; done))) | (with_reducible apply PySem.wpAny_ite_true; focus (first | (rfl; done) | (simp [*]; done))) | with_reducible refine PySem.wpAny_runValue ?_ | with_reducible refine PySem.wpAny_alloc' ?_ | with_reducible refine PySem.wpAny_typeOf (by assumption) ?_ | ((with_reducible show PySem.wpAny _ _ _ _ _ _); wp_step)))
      refine ⟨_, rfl, ?_⟩
      simpa [hx] using h

open AutoSeq1 (wpAny_loadPart') in
theorem tuple_ne2 (l b : Addr) (x1 y1 x2 y2 : Int) (t1 u1 t2 u2 : Tok) (n n2 : Nat) :
    Meets (Builtin.«tuple.__ne__» ⟨[.ref l, .ref b], []⟩)
      (fun _ R s => s.heap.get? l = some (tup2 x1 y1 t1 u1 n) ∧ s.heap.get? b = some (tup2 x2 y2 t2 u2 n2) ∧
        R (.ok (.ret (.bool (decide (¬ (x1 = x2 ∧ y1 = y2)))))) s) :=
  .of_wp fun prog w A R s h => by
    obtain ⟨hp, g, d, tk, os⟩ := s; obtain ⟨hl, hb, h⟩ := h
    have f2 := AutoSeq1.sub_tuple_tuple
    repeat (first | with_reducible apply wpAny_loadPart' hl | with_reducible apply wpAny_loadPart' hb | (first | with_reducible refine PySem.wpAny_bind ?_ | with_reducible refine PySem.wpAny_pure ?_ | with_reducible refine PySem.wpAny_of_eq (by assumption) ?_ | ((with_reducible fail_if_success first | show PySem.wpAny _ _ (PySem.mkStr _) _ _ _ | show PySem.wpAny _ _ (PySem.mkInt _) _ _ _ | show PySem.wpAny _ _ (PySem.typeOf _) _ _ _ | show PySem.wpAny _ _ (PySem.isInstance _ _) _ _ _ | show PySem.wpAny _ _ (PySem.specialOf _ _) _ _ _ | show PySem.wpAny _ _ (PySem.letGo _ _) _ _ _ | show PySem.wpAny _ _ (throw _) _ _ _ | show PySem.wpAny _ _ (PySem.Sem.attempt _) _ _ _); wp_delta) | (with_reducible apply PySem.wpAny_loadPart'; focus (heap_get; done)) | (with_reducible apply PySem.wpAny_load'; focus (heap_get; done)) | (with_reducible apply PySem.wpAny_ite_false; focus (first | (rfl; done) | (simp [*]; done))) | (with_reducible apply PySem.wpAny_ite_true; focus (first | (rfl; done) | (simp [*]; done))) | with_reducible refine PySem.wpAny_runValue ?_ | with_reducible refine PySem.wpAny_alloc' ?_ | with_reducible refine PySem.wpAny_typeOf (by assumption) ?_ | ((with_reducible show PySem.wpAny _ _ _ _ _ _); wp_step)))
    refine wpAny_eqBool_int ?_
    by_cases hx : x1 = x2
    · subst hx
      rw [show (x1 == x1) = true from beq_self_eq_true x1]
      repeat (first | with_reducible refine PySem.wpAny_bind ?_ | with_reducible refine PySem.wpAny_pure ?_ | with_reducible refine PySem.wpAny_of_eq (by assumption) ?_ | ((with_reducible fail_if_success first | show PySem.wpAny _ _ (PySem.mkStr _) _ _ _ | show PySem.wpAny _ _ (PySem.mkInt _) _ _ _ | show PySem.wpAny _ _ (PySem.typeOf _) _ _ _ | show PySem.wpAny _ _ (PySem.isInstance _ _) _ _ _ | show PySem.wpAny _ _ (PySem.specialOf _ _) _ _ _ | show PySem.wpAny _ _ (PySem.letGo _ _) _ _ _ | show PySem.wpAny _ _ (throw _) _ _ _ | show PySem.wpAny _ _ (PySem.Sem.attempt _) _ _ _); wp_delta) | (with_reducible apply PySem.wpAny_loadPart'; focus (heap_get; done)) | (with_reducible apply PySem.wpAny_load'; focus (heap_get; done)) | (with_reducible apply PySem.wpAny_ite_false; focus (first | (rfl; done) | (simp [*]; done))) | (with_reducible apply PySem.wpAny_ite_true; focus (first | (rfl; done) | (simp [*]; done))) | with_reducible refine PySem.wpAny_runValue ?_ | with_reducible refine PySem.wpAny_alloc' ?_ | with_reducible refine PySem.wpAny_typeOf (by assumption) ?_ | ((with_reducible show PySem.wpAny _ _ _ _ _ _); wp_step))
      refine wpAny_eqBool_int ?_
      by_cases hy : y1 = y2
      · subst hy
        rw [show (y1 == y1) = true from beq_self_eq_true y1]
        repeat (first | with_reducible refine PySem.wpAny_bind ?_ | with_reducible refine PySem.wpAny_pure ?_ | with_reducible refine PySem.wpAny_of_eq (by assumption) ?_ | ((with_reducible fail_if_success first | show PySem.wpAny _ _ (PySem.mkStr _) _ _ _ | show PySem.wpAny _ _ (PySem.mkInt _) _ _ _ | show PySem.wpAny _ _ (PySem.typeOf _) _ _ _ | show PySem.wpAny _ _ (PySem.isInstance _ _) _ _ _ | show PySem.wpAny _ _ (PySem.specialOf _ _) _ _ _ | show PySem.wpAny _ _ (PySem.letGo _ _) _ _ _ | show PySem.wpAny _ _ (throw _) _ _ _ | show PySem.wpAny _ _ (PySem.Sem.attempt _) _ _ _); wp_delta) | (with_reducible apply PySem.wpAny_loadPart'; focus (heap_get; done)) | (with_reducible apply PySem.wpAny_load'; focus (heap_get; done)) | (with_reducible apply PySem.wpAny_ite_false; focus (first | (rfl; done) | (simp [*]; done))) | (with_reducible apply PySem.wpAny_ite_true; focus (first | (rfl; done) | (simp [*]; done))) | with_reducible refine PySem.wpAny_runValue ?_ | with_reducible refine PySem.wpAny_alloc' ?_ | with_reducible refine PySem.wpAny_typeOf (by assumption) ?_ | ((with_reducible show PySem.wpAny _ _ _ _ _ _); wp_step))
        refine ⟨_, rfl, ?_⟩
        have e : decide (¬ (x1 = x1 ∧ y1 = y1)) = false := by simp
        rw [e] at h
        exact h
      · rw [show (y1 == y2) = false from beq_eq_false_iff_ne.mpr hy]
        repeat (first | with_reducible refine PySem.wpAny_bind ?_ | with_reducible refine PySem.wpAny_pure ?_ | with_reducible refine PySem.wpAny_of_eq (by assumption) ?_ | ((with_reducible fail_if_success first | show PySem.wpAny _ _ (PySem.mkStr _) _ _ _ | show PySem.wpAny _ _ (PySem.mkInt _) _ _ _ | show PySem.wpAny _ _ (PySem.typeOf _) _ _ _ | show PySem.wpAny _ _ (PySem.isInstance _ _) _ _ _ | show PySem.wpAny _ _ (PySem.specialOf _ _) _ _ _ | show PySem.wpAny _ _ (PySem.letGo _ _) _ _ _ | show PySem.wpAny _ _ (throw _) _ _ _ | show PySem.wpAny _ _ (PySem.Sem.attempt _) _ _ _); wp_delta) | (with_reducible apply PySem.wpAny_loadPart'; focus (heap_get; done)) | (with_reducible apply PySem.wpAny_load'; focus (heap_get; done)) | (with_reducible apply PySem.wpAny_ite_false; focus (first | (rfl; done) | (simp [*]; done))) | (with_reducible apply PySem.wpAny_ite_true; focus (first | (rfl; done) | (simp [*]; done))) | with_reducible refine PySem.wpAny_runValue ?_ | with_reducible refine PySem.wpAny_alloc' ?_ | with_reducible refine PySem.wpAny_typeOf (by assumption) ?_ | ((with_reducible show PySem.wpAny _ _ _ _ _ _); wp_step))
        refine ⟨_, rfl, ?_⟩
        simpa [hy] using h
    · rw [show (x1 == x2) = false from beq_eq_false_iff_ne.mpr hx]
      repeat (first | with_reducible refine PySem.wpAny_bind ?_ | with_reducible refine PySem.wpAny_pure ?_ | with_reducible refine PySem.wpAny_of_eq (by assumption) ?_ | ((with_reducible fail_if_success first | show PySem.wpAny _ _ (PySem.mkStr _) _ _ _ | show PySem.wpAny _ _ (PySem.mkInt _) _ _ _ | show PySem.wpAny _ _ (PySem.typeOf _) _ _ _ | show PySem.wpAny _ _ (PySem.isInstance _ _) _ _ _ | show PySem.wpAny _ _ (PySem.specialOf _ _) _ _ _ | show PySem.wpAny _ _ (PySem.letGo _ _) _ _ _ | show PySem.wpAny _ _ (throw _) _ _ _ | show PySem.wpAny _ _ (PySem.Sem.attempt _) _ _ _); wp_delta) | (with_reducible apply PySem.wpAny_loadPart'; focus (heap_get; done)) | (with_reducible apply PySem.wpAny_load'; focus (heap_get; done)) | (with_reducible apply PySem.wpAny_ite_false; focus (first | (rfl; done) | (simp [*]; done))) | (with_reducible apply PySem.wpAny_ite_true; focus (first | (rfl; done) | (simp [*]; done))) | with_reducible refine PySem.wpAny_runValue ?_ | with_reducible refine PySem.wpAny_alloc' ?_ | with_reducible refine PySem.wpAny_typeOf (by assumption) ?_ | ((with_reducible show PySem.wpAny _ _ _ _ _ _); wp_step))
      refine ⟨_, rfl, ?_⟩
      simpa [hx] using h

section
variable {prog : Program} {w : World} {A : Around} {E : Value → Shared → Prop} {s : Shared}
theorem lt_tup2 {l b : Addr} {x1 y1 x2 y2 : Int} {t1 u1 t2 u2 : Tok} {n n2 : Nat} {Q : Value → Shared → Prop} (hl : s.heap.get? l = some (tup2 x1 y1 t1 u1 n)) (hb : s.heap.get? b = some (tup2 x2 y2 t2 u2 n2)) (hu : A.units < cLine)
    (h : Q (.bool (decide (x1 < x2 ∨ x1 = x2 ∧ y1 < y2))) s) : wpAny (model prog w) A (compareOp .Lt (.ref l) (.ref b)) Q E s :=
  richCompare_meets_room (op := .Lt) ⟨_, hl, rfl⟩ ⟨_, hb, rfl⟩ F.slot_tuple_lt F.entry_tuple_lt (F.args_tuple_lt_2 _ _) (tuple_lt2 l b x1 y1 x2 y2 t1 u1 t2 u2 n n2)
    ⟨hl, hb, show Value.bool _ ≠ Value.notImplemented ∧ Q (.bool _) s from ⟨(fun x => nomatch x), h⟩⟩ hu
theorem ne_tup2 {l b : Addr} {x1 y1 x2 y2 : Int} {t1 u1 t2 u2 : Tok} {n n2 : Nat} {Q : Value → Shared → Prop} (hl : s.heap.get? l = some (tup2 x1 y1 t1 u1 n)) (hb : s.heap.get? b = some (tup2 x2 y2 t2 u2 n2)) (hu : A.units < cLine)
    (h : Q (.bool (decide (¬ (x1 = x2 ∧ y1 = y2)))) s) : wpAny (model prog w) A (compareOp .NotEq (.ref l) (.ref b)) Q E s :=
  richCompare_meets_room (op := .NotEq) ⟨_, hl, rfl⟩ ⟨_, hb, rfl⟩ F.slot_tuple_ne F.entry_tuple_ne (F.args_tuple_ne_2 _ _) (tuple_ne2 l b x1 y1 x2 y2 t1 u1 t2 u2 n n2)
    ⟨hl, hb, show Value.bool _ ≠ Value.notImplemented ∧ Q (.bool _) s from ⟨(fun x => nomatch x), h⟩⟩ hu
end
end Mine
end

section
open PySem PySem.W PySem.Calls PyProof.Rows PySem.Spec PyProof
set_option maxRecDepth 100000
set_option maxHeartbeats 8000000
namespace Mine

noncomputable def Stop (p : Prop) : Prop := p
theorem stop {p : Prop} (h : Stop p) : p := h

noncomputable abbrev Itm := Value × Int
noncomputable def Key (rest : List (Addr × Obj)) (v : Value) (k : Int) : Prop :=
  ∃ a x y t u n, v = .ref a ∧ (a, tup2 x y t u n) ∈ rest ∧ 0 ≤ y ∧ y < 8 ∧ k = 8 * x + y
noncomputable abbrev itemsOf (xs : List Itm) (ep : Nat) : Obj := listOf (xs.map (·.1)).toArray ep

noncomputable def Off (stored : List Str) (m₀ m₁ : Str → Option Value) : Prop := ∀ x, stored.contains x = false → m₁ x = m₀ x
theorem Off.refl (stored : List Str) (m : Str → Option Value) : Off stored m m := fun _ _ => rfl
theorem norm0 {m₀ m₁ : Str → Option Value} {stored : List Str} (h : Off stored m₀ m₁) : m₁ = fun x => if stored.contains x then m₁ x else m₀ x := by
  funext x
  cases h9 : stored.contains x with
  | true => simp
  | false => simp only [Bool.false_eq_true, if_false]; exact h x h9
theorem norm1 {m₀ m₁ : Str → Option Value} {stored : List Str} {y : Str} {v : Value} (h : Off stored m₀ m₁) (hy : m₁ y = some v) :
    m₁ = fun x => if x = y then some v else if stored.contains x then m₁ x else m₀ x := by
  funext x
  by_cases h1 : x = y
  · subst h1; simp [hy]
  · simp only [if_neg h1]
    cases h9 : stored.contains x with
    | true => simp
    | false => simp only [Bool.false_eq_true, if_false]; exact h x h9
theorem norm2 {m₀ m₁ : Str → Option Value} {stored : List Str} {y z : Str} {v u : Value} (h : Off stored m₀ m₁) (hy : m₁ y = some v) (hz : m₁ z = some u) :
    m₁ = fun x => if x = y then some v else if x = z then some u else if stored.contains x then m₁ x else m₀ x := by
  funext x
  by_cases h1 : x = y
  · subst h1; simp [hy]
  · simp only [if_neg h1]
    by_cases h2 : x = z
    · subst h2; simp [hz]
    · simp only [if_neg h2]
      cases h9 : stored.contains x with
      | true => simp
      | false => simp only [Bool.false_eq_true, if_false]; exact h x h9

section
variable {prog : Program} {w : World} {A : Around} {E : Value → Shared → Prop} {s : Shared} {h₀ : Heap} {L H : Addr} {m : Str → Option Value} {news : List (Addr × Obj)} {xs : List Itm} {ep : Nat} {k : Int} {u : Tok}
theorem add_int' {a b : Int} {t u : Tok} {Q : Value → Shared → Prop} (h : ∀ t tk, Q (.int (a + b) t) { s with toks := tk }) : wpAny (model prog w) A (binaryOp .Add (.int a t) (.int b u)) Q E s := add_int (h _ _)
theorem sub_int' {a b : Int} {t u : Tok} {Q : Value → Shared → Prop} (h : ∀ t tk, Q (.int (a - b) t) { s with toks := tk }) : wpAny (model prog w) A (binaryOp .Sub (.int a t) (.int b u)) Q E s := sub_int (h _ _)
theorem mul_int' {a b : Int} {t u : Tok} {Q : Value → Shared → Prop} (h : ∀ t tk, Q (.int (a * b) t) { s with toks := tk }) (hm : IntMulOk a b := by mul_fits) : wpAny (model prog w) A (binaryOp .Mult (.int a t) (.int b u)) Q E s := mul_int (h _ _) hm
theorem fdiv_two (a : Int) : a.fdiv 2 = a / 2 := by rw [Int.fdiv_eq_ediv_of_nonneg _ (by decide)]
theorem shr1' {a : Int} {t u : Tok} {Q : Value → Shared → Prop} (h : ∀ t tk, Q (.int (a / 2) t) { s with toks := tk }) : wpAny (model prog w) A (binaryOp .RShift (.int a t) (.int 1 u)) Q E s :=
  rshift_int (by decide) (by have e : a.fdiv (2 ^ Int.toNat 1) = a / 2 := fdiv_two a
                             rw [e]; exact h _ _)
theorem fdiv' {a b : Int} {t u : Tok} {Q : Value → Shared → Prop} (hb : 0 < b) (hs : b < 1073741824) (h : ∀ t tk, Q (.int (a / b) t) { s with toks := tk }) : wpAny (model prog w) A (binaryOp .FloorDiv (.int a t) (.int b u)) Q E s :=
  floordiv_int (by omega) (by rw [Int.fdiv_eq_ediv_of_nonneg _ (by omega)]; exact h _ _) (Or.inl (noPylong_small (by omega)))
theorem fmod' {a b : Int} {t u : Tok} {Q : Value → Shared → Prop} (hb : 0 < b) (h : ∀ t tk, Q (.int (a % b) t) { s with toks := tk }) : wpAny (model prog w) A (binaryOp .Mod (.int a t) (.int b u)) Q E s :=
  mod_int' (by omega) (by rw [Int.fmod_eq_emod_of_nonneg _ (by omega)]; exact h _ _)
theorem neg_int' {a : Int} {t : Tok} {Q : Value → Shared → Prop} (h : ∀ t tk, Q (.int (-a) t) { s with toks := tk }) : wpAny (model prog w) A (unaryOp .USub (.int a t)) Q E s := neg_int (h _ _)
theorem const_int' {env : Env} {i k pos} {Q : Value → Shared → Prop} (h : ∀ t tk, Q (.int i t) { s with toks := tk }) : wpAny (model prog w) A (eval (.Constant (.int i) k pos) env) Q E s := wpAny_Constant_int (h _ _)
theorem stN' {name : Str} {scope : Scope} {a : Addr} {cd : Value} {x : Str} {v : Value} {Q : Unit → Shared → Prop} (F : Fr h₀ L s.heap m) (N : News h₀ L s.heap news)
    (h : ∀ h' tk', Fr h₀ L h' (fun y => if y = x then some v else m y) → News h₀ L h' news → Q () { s with heap := h', toks := tk' })
    (hk : scope.kind = .function := by rfl) (hl : (envOf name scope L a cd).kindOf x = some .local := by rfl) :
    wpAny (model prog w) A (storeName (envOf name scope L a cd) x v) Q E s := stN F N (fun h' F' N' => h h' _ F' N') hk hl
theorem len_items {Q : Value → Shared → Prop} (N : News h₀ L s.heap news) (hm : (H, itemsOf xs ep) ∈ news) (hfit : xs.length ≤ 64) (h : ∀ t tk, Q (.int (xs.length : Int) t) { s with toks := tk }) :
    wpAny (model prog w) A (call (.builtin "len") [.ref H]) Q E s := by
  refine PyProof.Rows.len_list (IsL.isList (n := ep) (N _ hm).1) (by simp; omega) ?_
  simp only [List.size_toArray, List.length_map]
  exact h _ _
theorem get_items {Q : Value → Shared → Prop} (N : News h₀ L s.heap news) (hm : (H, itemsOf xs ep) ∈ news) (h0 : 0 ≤ k) (h1 : k < xs.length) (hfit : k < 2 ^ 63)
    (h : ∀ v key, xs[k.toNat]? = some (v, key) → Q v s) : wpAny (model prog w) A (getItem (.ref H) (.int k u)) Q E s := by
  have hlt : k.toNat < xs.length := by omega
  refine wpAny_getItem_list (IsL.isList (n := ep) (N _ hm).1) h0 hfit (x := (xs[k.toNat]'hlt).1) (by simp [hlt]) (h _ (xs[k.toNat]'hlt).2 (by simp [hlt]))
theorem sub_items {value slice : PySem.Expr} {Q : Value → Shared → Prop} (N : News h₀ L s.heap news) (hm : (H, itemsOf xs ep) ∈ news) (h0 : 0 ≤ k) (h1 : k < xs.length) (hfit : k < 2 ^ 63)
    (h : ∀ v key, xs[k.toNat]? = some (v, key) → Q v s) (hs : subscripted slice false (.ref H) (.int k u) = operate [.ref H, .int k u] (getItem (.ref H) (.int k u)) := by with_unfolding_all rfl) :
    wpAny (model prog w) A (subscriptTail value slice (.ref H) (.int k u)) Q E s :=
  tail_any (IsL.isList (n := ep) (N _ hm).1).typeIs slot_list_getitem.lookup (get_items N hm h0 h1 hfit h) hs
theorem set_items {v : Value} {key : Int} {rest : List (Addr × Obj)} {Q : Unit → Shared → Prop} (F : Fr h₀ L s.heap m) (N : News h₀ L s.heap ((H, itemsOf xs ep) :: rest)) (hH : ∀ p ∈ rest, p.1 ≠ H) (hks : ∀ p ∈ xs, Key rest p.1 p.2) (hk : Key rest v key) (h0 : 0 ≤ k) (h1 : k < xs.length) (hfit : k < 2 ^ 63)
    (h : ∀ h', Fr h₀ L h' m → News h₀ L h' ((H, itemsOf (xs.set k.toNat (v, key)) ep) :: rest) → (∀ p ∈ xs.set k.toNat (v, key), Key rest p.1 p.2) → (xs.set k.toNat (v, key)).length = xs.length → Q () { s with heap := h' }) :
    wpAny (model prog w) A (setItem (.ref H) (.int k u) v) Q E s := by
  have z := N (H, itemsOf xs ep) (List.mem_cons_self ..)
  refine ki_setAt z.1 h0 hfit (by simpa using h1) (h _ (F.change (Heap.SameBut.update ..) z.2.1 z.2.2) (ki_turn (pre := []) _ N (fun _ hp => nomatch hp) hH ?_ ?_) (fun p hp => ?_) (List.length_set ..))
  · show (xs.map (·.1)).toArray.setIfInBounds k.toNat v = ((xs.set k.toNat (v, key)).map (·.1)).toArray
    apply Array.toList_inj.mp
    simp [List.map_set]
  · simp
  · rcases List.mem_or_eq_of_mem_set hp with h | rfl
    · exact hks p h
    · exact hk
theorem lt_items {v1 v2 : Value} {k1 k2 : Int} {rest : List (Addr × Obj)} {Q : Value → Shared → Prop} (N : News h₀ L s.heap ((H, itemsOf xs ep) :: rest)) (hk1 : Key rest v1 k1) (hk2 : Key rest v2 k2) (hu : A.units < cLine)
    (h : Q (.bool (decide (k1 < k2))) s) : wpAny (model prog w) A (compareOp .Lt v1 v2) Q E s := by
  obtain ⟨a, x, y, t, u, n, rfl, hm, hy0, hy1, rfl⟩ := hk1
  obtain ⟨a', x', y', t', u', n', rfl, hm', hy0', hy1', rfl⟩ := hk2
  refine lt_tup2 (N _ (List.mem_cons_of_mem _ hm)).1 (N _ (List.mem_cons_of_mem _ hm')).1 hu ?_
  have e : decide (x < x' ∨ x = x' ∧ y < y') = decide (8 * x + y < 8 * x' + y') := by
    congr 1; apply propext; omega
  rw [e]; exact h
theorem truthy_items {Q : Bool → Shared → Prop} (N : News h₀ L s.heap news) (hm : (H, itemsOf xs ep) ∈ news) (h3 : xs.length ≤ 64) (h : ∀ tk, Q (decide (0 < xs.length)) { s with toks := tk }) : wpAny (model prog w) A (truthy (.ref H)) Q E s := by
  refine wpAny_truthy_list (IsL.isList (n := ep) (N _ hm).1) (by simp; omega) ?_
  have e : (!(xs.map (·.1)).toArray.isEmpty) = decide (0 < xs.length) := by cases xs <;> simp
  rw [e]
  exact h _
theorem pop_items {ys : List Itm} {it : Itm} {rest : List (Addr × Obj)} {Q : Value → Shared → Prop} (F : Fr h₀ L s.heap m) (N : News h₀ L s.heap ((H, itemsOf xs ep) :: rest)) (hH : ∀ p ∈ rest, p.1 ≠ H) (hx : xs = ys ++ [it]) (h3 : xs.length ≤ 64)
    (h : ∀ h', Fr h₀ L h' m → News h₀ L h' ((H, itemsOf ys (ep + 1)) :: rest) → Q it.1 { s with heap := h' }) : wpAny (model prog w) A (call (.builtin "list.pop") [.ref H]) Q E s := by
  subst hx
  refine kl_pop F N (p := ys.map (·.1)) (y := it.1) ?_ (.head hH) ?_ h
  · rw [List.map_append]; exact kpa_last _ _
  · rw [sizeLine_eq]; simp at h3 ⊢; omega
theorem step_brk {n : Nat} {s' : Shared} {J : Nat → (Str → Option Value) → List (Addr × Obj) → Prop} {Q : Flow → Shared → Prop} (h : Q .next s') : WhileStep2 h₀ L s J Q n .brk s' := h
theorem step_ret {n : Nat} {s' : Shared} {v : Value} {J : Nat → (Str → Option Value) → List (Addr × Obj) → Prop} {Q : Flow → Shared → Prop} (h : Q (.ret v) s') : WhileStep2 h₀ L s J Q n (.ret v) s' := h
theorem code_def' {K : Frag} {A₀ : Around} {base : Heap} {mg mb : Str → Option Value} {p : Program} {loose : List Str} {mean : ExcName → Option Value} {env : Env} {outer : List Env} {R : Result → Shared → Prop} {name qual : Str} {params : Arguments} {body : List Stmt} {scope : Scope} {dV kV doc pm cdv ct oc : Value} {an od : Option Addr} {osl : Array (Option Value)} {f : Addr} {args : Args} {binds : List (Str × Value)}
    (B : Below A₀ base outer h₀) (F : Fr h₀ L s.heap m) (X₀ : K.In h₀) (N : News h₀ L s.heap news) (T : Top p loose mean mg mb h₀) (hA : A.frames = some (env :: outer)) (hf : env.frame = some L) (hke : env.scope.kind = .function)
    (ho : K.lookup f = some ⟨oc, od, .func (fnOf name qual params body scope dV kV doc pm an cdv ct), osl⟩) (hcd : codeIn K cdv qual = true) (hroom : A.depth < recursionLimit)
    (hbind : BindsTo s (fnOf name qual params body scope dV kV doc pm an cdv ct) args binds) (hloc : ∀ y ∈ binds, scope.names.lookup y.1 = some .local)
    (h : ∀ g L' h₁ tk, Fr h₀ L g m → Fr g L' h₁ (fun y => binds.reverse.lookup y) → News g L' h₁ news → Below A base (env :: outer) g → K.In g → Top p loose mean mg mb g →
      wpAny (model prog w) (A.deeper (envOf qual scope L' f cdv)) (execs body (envOf qual scope L' f cdv))
        (fun fl s' => LeaveK h₀ L m g R (match fl with | .ret v => v | _ => .none) s')
        (fun e s' => wpAny (model prog w) (A.deeper (envOf qual scope L' f cdv)) (leaving (envOf qual scope L' f cdv) e) (fun _ s'' => R (.error e) s'') (fun e' s'' => R (.error e') s'') s')
        { s with heap := h₁, toks := tk })
    (hco : scope.isCoroutine = false) (hgen : scope.isGenerator = false) (hk : scope.kind = .function)
    (hcell : ∀ x ∈ scope.names, x.2 ≠ .cell) : codeAny (model prog w) A (.call (.ref f) args) R s :=
  code_def B F X₀ N T hA hf hke ho hcd hroom hbind hloc (fun g L' h₁ a b c d e f => h g L' h₁ _ a b c d e f) hco hgen hk hcell
end
end Mine
end

section
open PySem PySem.W PySem.Calls PyProof.Rows PySem.Spec PyProof
set_option maxRecDepth 100000
set_option maxHeartbeats 8000000
namespace Mine

noncomputable abbrev rangeObj (n : Int) (t u v : Tok) : Obj := { cls := .type "range", data := .fields #[.int 0 t, .int n u, .int 1 v] }
noncomputable abbrev ritObj (x left step : Int) : Obj := { cls := .type "range_iterator", data := .fields #[rawInt x, rawInt left, rawInt step] }

theorem rangeSize_n {n : Int} (h : 0 ≤ n) : Builtin.Range.rangeSize 0 n 1 = n := by
  rw [rangeSize_one]; split <;> omega

theorem allLt_mem {d : Addr} {l : List (Addr × Obj)} (h : AllLt d l) : ∀ p ∈ l, p.1 < d := by
  induction l with
  | nil => intro p hp; cases hp
  | cons q r ih =>
    intro p hp
    rcases List.mem_cons.mp hp with rfl | h2
    · exact h.1
    · exact ih h.2 p h2

section
variable {prog : Program} {w : World} {A : Around} {E : Value → Shared → Prop} {s : Shared} {h₀ : Heap} {L : Addr} {m : Str → Option Value} {news : List (Addr × Obj)} {n : Int}

theorem news_above (F : Fr h₀ L s.heap m) (N : News h₀ L s.heap news) : ∀ p ∈ news, p.1 < s.heap.objs.size := fun p hp => Heap.lt_size (N p hp).1

theorem call_range' {t : Tok} {Q : Value → Shared → Prop} (F : Fr h₀ L s.heap m) (N : News h₀ L s.heap news)
    (h : ∀ r h' tk t u v, Fr h₀ L h' m → News h₀ L h' ((r, rangeObj n t u v) :: news) → (∀ p ∈ news, p.1 < r) → Q (.ref r) { s with heap := h', toks := tk }) :
    wpAny (model prog w) A (call (.type "range") [.int n t]) Q E s :=
  call_range_1 (h _ _ _ _ _ _ (F.push _) (N.push F _) (news_above F N))

open AutoSeq1 in
theorem range_reversed_meets (r : Addr) (n : Int) (t u v : Tok) (h0 : 0 ≤ n) (h1 : n < 2 ^ 62) :
    Meets (Builtin.«range.__reversed__» ⟨[.ref r], []⟩) (fun _ R s => s.heap.get? r = some (rangeObj n t u v) ∧ R (.ok (.ret (Value.ref s.heap.objs.size))) { s with heap := s.heap.push (ritObj (n - 1) n (-1)) }) :=
  .of_wp fun prog w A R s h => by
    obtain ⟨hp, g, d, tk, os⟩ := s; obtain ⟨hl, h⟩ := h
    have e1 : Builtin.Range.rangeSize 0 n 1 = n := rangeSize_n h0
    have e2 : (Builtin.Range.rangeFitsLong 0 && Builtin.Range.rangeFitsLong n && Builtin.Range.rangeFitsLong 1 && Builtin.Range.rangeFitsLong (-1) && Builtin.Range.rangeFitsLong (0 - 1) && Builtin.Range.rangeFitsLong n) = true := by
      simp only [Builtin.Range.rangeFitsLong, Bool.and_eq_true, decide_eq_true_eq]; omega
    have e3 : 0 + (n - 1) * 1 = n - 1 := by omega
    unfold Builtin.«range.__reversed__»
    wp_walk
    rw [e1, e2, e3]
    wp_walk
    exact ⟨_, rfl, h⟩

theorem call_reversed_range {r : Addr} {t u v : Tok} {Q : Value → Shared → Prop} (Fm : Fr h₀ L s.heap m) (N : News h₀ L s.heap news) (hm : (r, rangeObj n t u v) ∈ news) (h0 : 0 ≤ n) (h1 : n < 2 ^ 62)
    (h : ∀ it h', Fr h₀ L h' m → News h₀ L h' ((it, ritObj (n - 1) n (-1)) :: news) → (∀ p ∈ news, p.1 < it) → Q (.ref it) { s with heap := h' }) :
    wpAny (model prog w) A (call (.type "reversed") [.ref r]) Q E s := by
  have hr := (N _ hm).1
  have hT : s.TypeIs (.ref r) "range" := ⟨_, hr, rfl⟩
  refine callType_other (U := "range_iterator") (Q₁ := fun obj s₁ => obj = .ref s.heap.objs.size ∧ s₁ = { s with heap := s.heap.push (ritObj (n - 1) n (-1)) }) (by decide +kernel) F.create_reversed ⟨_, _, F.mro_reversed⟩ F.made_reversed
    (by rw [isSubtype_type]; kernel_rfl) (F.typeCall_reversed_1 _) ?_ ?_
  · refine codeAny_of_tree ?_
    show wpAny _ A.in1.in1 (do checkBuiltinCall "reversed.__new__" ⟨[.type "reversed", .ref r], []⟩; again (.builtin "reversed.__new__" ⟨[.type "reversed", .ref r], []⟩)) _ _ s
    refine wpAny_bind (wpAny_of_eq (F.newCall_reversed_1 _) (wpAny_pure ⟨plainId_quiet F.plain_reversed_new _, codeAny_builtin F.entry_reversed_new ?_⟩))
    rw [Around.under_plainId F.plain_reversed_new _]
    unfold Builtin.«reversed.__new__»
    refine wpAny_bind (wpAny_of_eq (newClass_reversed _) ?_)
    try dsimp only
    refine wpAny_bind (wpAny_of_eq (a := ()) (by first | rfl | kernel_rfl) ?_)
    refine wpAny_bind (wpAny_of_eq (a := ()) (by first | rfl | kernel_rfl) ?_)
    try dsimp only
    refine wpAny_bind (wpAny_specialOf hT F.slot_range_reversed.lookup ?_)
    try dsimp only
    refine wpAny_bind (wpAny_of_eq (F.slot_range_reversed.bind _) ?_)
    try dsimp only
    have hne : ¬ ((Value.builtin "range.__reversed__" == Value.none) = true) := Bool.false_ne_true
    first
    | rw [if_neg hne]
    | (show wpAny _ _ (if (Value.builtin "range.__reversed__" == Value.none) = true then _ else _) _ _ _; rw [if_neg hne])
    refine wpAny_bind (wpAny_rule ?_)
    refine wpAny_bind (m := runValue (.call (.builtin "range.__reversed__") ⟨[.ref r], []⟩)) (show wpAny _ _ (call (.builtin "range.__reversed__") [.ref r]) _ _ _ from
      call_meets F.slot_range_reversed hT F.entry_range_reversed (F.args_range_reversed_1 _) (range_reversed_meets r n t u v h0 h1) ⟨hr, ?_⟩)
    first
    | exact wpAny_pure ⟨rfl, rfl⟩
    | exact wpAny_bind (wpAny_pure (wpAny_pure ⟨rfl, rfl⟩))
  · rintro obj s₁ ⟨rfl, rfl⟩
    exact ⟨⟨_, Heap.get?_push_size _ rfl, rfl⟩, h _ _ (Fm.push _) (N.push Fm _) (news_above Fm N)⟩
end

section
variable {prog : Program} {w : World} {A : Around} {E : Value → Shared → Prop} {s : Shared} {env : Env} {h₀ : Heap} {x : Str} {body : List Stmt} {Q : Flow → Shared → Prop}

/-- the end of a turn of a loop over a range's iterator at I -/
noncomputable def RStep (h₀ : Heap) (L I : Addr) (io : Obj) (J : (Str → Option Value) → List (Addr × Obj) → Prop) (s₁ : Shared) (Q : Flow → Shared → Prop) (f : Flow) (s₂ : Shared) : Prop :=
  match f with
  | .ret v => Q (.ret v) s₂
  | .brk => Q .next s₂
  | _ => ∃ h' tk m' nx, s₂ = { s₁ with heap := h', toks := tk } ∧ Fr h₀ L h' m' ∧ News h₀ L h' (nx ++ [(I, io)]) ∧ (∀ p ∈ nx, p.1 ≠ I) ∧ J m' nx

theorem loopAt_rangeit {I : Addr} {a c : Int} {n : Nat} {m₀ : Str → Option Value} {news : List (Addr × Obj)} (J : Nat → (Str → Option Value) → List (Addr × Obj) → Prop)
    (hh : A.handled = none) (F : Fr h₀ env.locals s.heap m₀) (N : News h₀ env.locals s.heap (news ++ [(I, ritObj a n c)])) (hI : ∀ p ∈ news, p.1 ≠ I) (hj : J 0 m₀ news)
    (turn : ∀ (i : Nat) t m₁ nx h tk, i < n → J i m₁ nx → (∀ p ∈ nx, p.1 ≠ I) → Fr h₀ env.locals h (fun y => if y = x then some (.int (a + (i : Nat) * c) t) else m₁ y) →
      News h₀ env.locals h (nx ++ [(I, ritObj (a + ((i + 1 : Nat) : Int) * c) ((n : Int) - ((i + 1 : Nat) : Int)) c)]) →
      wpAny (model prog w) A (execs body env) (RStep h₀ env.locals I (ritObj (a + ((i + 1 : Nat) : Int) * c) ((n : Int) - ((i + 1 : Nat) : Int)) c) (J (i + 1)) { s with heap := h, toks := tk } Q) E { s with heap := h, toks := tk })
    (done : ∀ m₁ nx h tk, J n m₁ nx → Fr h₀ env.locals h m₁ → News h₀ env.locals h nx → Q .next { s with heap := h, toks := tk }) :
    LoopAtV prog w A h₀ env x body Q E (.ref I) s := by
  have hNI := N (I, ritObj a n c) (List.mem_append_right _ (List.mem_singleton.mpr rfl))
  have hit : IsRangeIter s.heap I a n c := hNI.1
  refine ⟨I, [I], [I], n, _, _, m₀, news, J, rfl, Walks.range hh I a c n, ?_, ?_, ?_, ?_, F, fun p hp => N p (List.mem_append_left _ hp), hj, ?_, ?_⟩
  · intro hm; exact hNI.2.1 (List.mem_singleton.mp hm).symm
  · intro b hb; rw [List.mem_singleton.mp hb]; exact hNI.2.2
  · intro p hp hm; exact hI p hp (List.mem_singleton.mp hm)
  · simpa using hit
  · rintro i v m₁ nx s₁ own ⟨h, tk, rfl⟩ hi ⟨t, rfl⟩ hJ hnx ho1 ho2 ho3 hst F₁ N₁
    have hst' : h.get? I = some (ritObj (a + ((i + 1 : Nat) : Int) * c) ((n : Int) - ((i + 1 : Nat) : Int)) c) := hst
    have hnx' : ∀ p ∈ nx, p.1 ≠ I := fun p hp e => hnx p hp (List.mem_singleton.mpr e)
    have hoI : ∀ p ∈ own, p = (I, ritObj (a + ((i + 1 : Nat) : Int) * c) ((n : Int) - ((i + 1 : Nat) : Int)) c) := fun p hp => by
      have e1 := List.mem_singleton.mp (ho1 p hp)
      have e2 := ho2 p hp
      have e3 : h.get? p.1 = some p.2 := e2
      rw [e1, hst'] at e3
      exact Prod.ext e1 (Option.some.inj e3).symm
    have N₂ : News h₀ env.locals h (nx ++ [(I, ritObj (a + ((i + 1 : Nat) : Int) * c) ((n : Int) - ((i + 1 : Nat) : Int)) c)]) := fun p hp => by
      rcases List.mem_append.mp hp with h1 | h1
      · exact N₁ p (List.mem_append_right _ h1)
      · rw [List.mem_singleton.mp h1]; exact ⟨hst', hNI.2.1, hNI.2.2⟩
    refine wpAny_mono (turn i t m₁ nx h tk hi hJ hnx' F₁ N₂) (fun f s₂ p => ?_) fun _ _ e => e
    have fin : (∃ h' tk' m' nx', s₂ = { { s with heap := h, toks := tk } with heap := h', toks := tk' } ∧ Fr h₀ env.locals h' m' ∧ News h₀ env.locals h' (nx' ++ [(I, ritObj (a + ((i + 1 : Nat) : Int) * c) ((n : Int) - ((i + 1 : Nat) : Int)) c)]) ∧ (∀ p ∈ nx', p.1 ≠ I) ∧ J (i + 1) m' nx') →
        LoopStepU h₀ env.locals [I] own (J (i + 1)) { s with heap := h, toks := tk } .next s₂ := by
      rintro ⟨h', tk', m', nx', e, F', N', hn', hJ'⟩
      refine ⟨rfl, h', tk', m', nx', e, F', fun p hp => ?_, fun p hp hm => hn' p hp (List.mem_singleton.mp hm), hJ'⟩
      rcases List.mem_append.mp hp with h1 | h1
      · rw [hoI p h1]; exact N' _ (List.mem_append_right _ (List.mem_singleton.mpr rfl))
      · exact N' p (List.mem_append_left _ h1)
    cases f with
    | ret v => exact .ret p
    | brk => exact .brk p
    | next => exact .next (fin p)
    | cont => exact .cont (fin p)
  · intro h' tk m' nx F' N' _ hJ
    exact done m' nx h' tk hJ F' N'

theorem loop_rangeit {I : Addr} {a c : Int} {n : Nat} {m₀ : Str → Option Value} {news : List (Addr × Obj)} (J : Nat → (Str → Option Value) → List (Addr × Obj) → Prop)
    (hh : A.handled = none) (F : Fr h₀ env.locals s.heap m₀) (N : News h₀ env.locals s.heap (news ++ [(I, ritObj a n c)])) (hI : ∀ p ∈ news, p.1 ≠ I) (hj : J 0 m₀ news)
    (turn : ∀ (i : Nat) t m₁ nx h tk, i < n → J i m₁ nx → (∀ p ∈ nx, p.1 ≠ I) → Fr h₀ env.locals h (fun y => if y = x then some (.int (a + (i : Nat) * c) t) else m₁ y) →
      News h₀ env.locals h (nx ++ [(I, ritObj (a + ((i + 1 : Nat) : Int) * c) ((n : Int) - ((i + 1 : Nat) : Int)) c)]) →
      wpAny (model prog w) A (execs body env) (RStep h₀ env.locals I (ritObj (a + ((i + 1 : Nat) : Int) * c) ((n : Int) - ((i + 1 : Nat) : Int)) c) (J (i + 1)) { s with heap := h, toks := tk } Q) E { s with heap := h, toks := tk })
    (done : ∀ m₁ nx h tk, J n m₁ nx → Fr h₀ env.locals h m₁ → News h₀ env.locals h nx → Q .next { s with heap := h, toks := tk }) :
    wpAny (model prog w) A (pyIter (.ref I)) (fun it s₂ => LoopAtV prog w A h₀ env x body Q E it s₂) E s :=
  wpAny_pyIter_rangeiter (x := a) (left := n) (step := c) (N (I, ritObj a n c) (List.mem_append_right _ (List.mem_singleton.mpr rfl))).1 (loopAt_rangeit J hh F N hI hj turn done)

theorem loop_range {r : Addr} {n : Nat} {t u v : Tok} {m₀ : Str → Option Value} {news : List (Addr × Obj)} (J : Nat → (Str → Option Value) → List (Addr × Obj) → Prop)
    (hh : A.handled = none) (F : Fr h₀ env.locals s.heap m₀) (N : News h₀ env.locals s.heap news) (hm : (r, rangeObj n t u v) ∈ news) (hn : n < 2 ^ 62) (hj : J 0 m₀ news)
    (turn : ∀ (I : Addr) (io : Obj) (i : Nat) t m₁ nx h tk, i < n → J i m₁ nx → (∀ p ∈ nx, p.1 ≠ I) → Fr h₀ env.locals h (fun y => if y = x then some (.int (i : Nat) t) else m₁ y) →
      News h₀ env.locals h (nx ++ [(I, io)]) →
      wpAny (model prog w) A (execs body env) (RStep h₀ env.locals I io (J (i + 1)) { s with heap := h, toks := tk } Q) E { s with heap := h, toks := tk })
    (done : ∀ m₁ nx h tk, J n m₁ nx → Fr h₀ env.locals h m₁ → News h₀ env.locals h nx → Q .next { s with heap := h, toks := tk }) :
    wpAny (model prog w) A (pyIter (.ref r)) (fun it s₂ => LoopAtV prog w A h₀ env x body Q E it s₂) E s := by
  have e0 : Builtin.Range.rangeSize 0 (n : Int) 1 = n := rangeSize_n (by omega)
  refine wpAny_pyIter_range (a := 0) (b := (n : Int)) (c := 1) (N _ hm).1 (small_one (by decide) (by decide) (by omega) (by omega)) ?_
  rw [e0]
  have ab := news_above F N
  refine loopAt_rangeit (news := news) (a := 0) (c := 1) J hh (F.push _) (fun p hp => ?_) (fun p hp => Nat.ne_of_lt (ab p hp)) hj (fun i t m₁ nx h tk hi hJ hnx F₁ N₁ => ?_) done
  · rcases List.mem_append.mp hp with h1 | h1
    · exact N.push F _ rfl _ (List.mem_cons_of_mem _ h1)
    · rw [List.mem_singleton.mp h1]
      exact N.push F _ rfl _ (List.mem_cons_self ..)
  · have e1 : (0 : Int) + (i : Int) * 1 = (i : Int) := by omega
    rw [e1] at F₁
    exact turn _ _ i t m₁ nx h tk hi hJ hnx F₁ N₁
end
end Mine
end

section
open PySem PySem.W PySem.Calls PyProof.Rows PySem.Spec PyProof
set_option maxRecDepth 100000
set_option maxHeartbeats 8000000
namespace Mine

section
variable {prog : Program} {w : World} {A : Around} {E : Value → Shared → Prop} {s : Shared} {h₀ : Heap} {L : Addr} {m : Str → Option Value} {news : List (Addr × Obj)}

/-- everything that stood stands -/
noncomputable abbrev Kept (h h' : Heap) : Prop := ∀ b o, h.get? b = some o → h'.get? b = some o
theorem Fr.kept {h h' : Heap} (F : Fr h₀ L h m) (k : Kept h h') : Fr h₀ L h' m :=
  ⟨let ⟨o, a, b, c, d⟩ := F.ns; ⟨o, a, b, k _ _ c, d⟩, fun b o e => k b o (F.keep b o e), F.above⟩
theorem News.kept {h h' : Heap} (N : News h₀ L h news) (k : Kept h h') : News h₀ L h' news := fun p hp => ⟨k _ _ (N p hp).1, (N p hp).2⟩
theorem News.pick {h : Heap} {news news' : List (Addr × Obj)} (N : News h₀ L h news) (hs : ∀ q ∈ news', q ∈ news) : News h₀ L h news' := fun q hq => N q (hs q hq)
theorem News.cons {h h' : Heap} {a : Addr} {o : Obj} (F : Fr h₀ L h m) (N : News h₀ L h news) (k : Kept h h') (ha : h'.get? a = some o) (hn : h.get? a = none) : News h₀ L h' ((a, o) :: news) := fun p hp => by
  rcases List.mem_cons.mp hp with rfl | hp
  · refine ⟨ha, fun e => ?_, ?_⟩
    · obtain ⟨oL, _, _, c, _⟩ := F.ns
      have e' : a = L := e
      rw [e', c] at hn; cases hn
    · cases q : h₀.get? a with
      | none => rfl
      | some o' => rw [F.keep _ _ q] at hn; cases hn
  · exact ⟨k _ _ (N p hp).1, (N p hp).2⟩

theorem code_plain {K : Frag} {mg mb : Str → Option Value} {p : Program} {loose : List Str} {mean : ExcName → Option Value} {R : Result → Shared → Prop} {name qual : Str} {params : Arguments} {body : List Stmt} {scope : Scope} {dV kV doc pm cdv ct oc : Value} {an od : Option Addr} {osl : Array (Option Value)} {f : Addr} {args : Args} {binds : List (Str × Value)}
    (X₀ : K.In s.heap) (T : Top p loose mean mg mb s.heap)
    (ho : K.lookup f = some ⟨oc, od, .func (fnOf name qual params body scope dV kV doc pm an cdv ct), osl⟩) (hcd : codeIn K cdv qual = true) (hroom : A.depth < recursionLimit)
    (hbind : BindsTo s (fnOf name qual params body scope dV kV doc pm an cdv ct) args binds) (hloc : ∀ y ∈ binds, scope.names.lookup y.1 = some .local)
    (h : ∀ L' h₁ tk, Fr s.heap L' h₁ (fun y => binds.reverse.lookup y) → News s.heap L' h₁ [] →
      wpAny (model prog w) (A.deeper (envOf qual scope L' f cdv)) (execs body (envOf qual scope L' f cdv))
        (fun fl s' => R (.ok (.ret (match fl with | .ret v => v | _ => .none))) s') (fun _ _ => False) { s with heap := h₁, toks := tk })
    (hco : scope.isCoroutine = false) (hgen : scope.isGenerator = false) (hk : scope.kind = .function)
    (hcell : ∀ x ∈ scope.names, x.2 ≠ .cell) : codeAny (model prog w) A (.call (.ref f) args) R s := by
  refine codeAny_call_def (fd := fnOf name qual params body scope dV kV doc pm an cdv ct) (body := body) (binds := binds) hroom (X₀ _ _ ho) rfl T.nolimit (codeRec_of X₀ hcd) rfl hbind hcell hloc (fun h₁ hns hk₁ => ?_) hco hgen hk
  exact wpAny_mono (h s.heap.objs.size h₁ _ ⟨hns, hk₁, Nat.le_refl _⟩ (fun _ hp => nomatch hp)) (fun _ _ x => x) fun _ _ x => x.elim
end
end Mine
end

section
open PySem PySem.W PySem.Calls PyProof.Rows PySem.Spec PyProof
set_option maxRecDepth 100000
set_option maxHeartbeats 8000000
namespace Mine
theorem switch_L36 : True := by
  w_top off
  trivial

noncomputable def sdP (start : Nat) : Nat → List Itm → Nat → Int → List Itm × Nat
  | 0, xs, pos, _ => (xs, pos)
  | f + 1, xs, pos, key =>
    if start < pos then
      match xs[(pos - 1) / 2]? with
      | some (v, k) => if key < k then sdP start f (xs.set pos (v, k)) ((pos - 1) / 2) key else (xs, pos)
      | none => (xs, pos)
    else (xs, pos)

theorem set_get {xs : List Itm} {i : Nat} {it : Itm} (h : i < (xs.set ((i : Int)).toNat it).length) : (xs.set ((i : Int)).toNat it)[i]? = some it := by
  rw [List.length_set] at h
  simp [h]
theorem key_mem {rest : List (Addr × Obj)} {xs : List Itm} {i : Nat} {v : Value} {k : Int} (h : ∀ p ∈ xs, Key rest p.1 p.2) (hx : xs[i]? = some (v, k)) : Key rest v k := h (v, k) (List.mem_of_getElem? hx)
local macro_rules | `(tactic| k_room) => `(tactic| ktr_room)
local macro_rules | `(tactic| k_units) => `(tactic| ktr_units)
local macro_rules | `(tactic| walk_at "exec While Compare cons nil") => `(tactic| (refine Mine.stop ?_))
local macro_rules | `(tactic| walk_at "exec While Constant cons nil") => `(tactic| (refine Mine.stop ?_))
local macro_rules | `(tactic| walk_at "binaryOp Add int int") => `(tactic| (refine Mine.add_int' ?_; intro _ _; try dsimp only))
local macro_rules | `(tactic| walk_at "binaryOp Sub int int") => `(tactic| (refine Mine.sub_int' ?_; intro _ _; try dsimp only))
local macro_rules | `(tactic| walk_at "binaryOp Mult int int") => `(tactic| (refine Mine.mul_int' ?_; intro _ _; try dsimp only))
local macro_rules | `(tactic| walk_at "binaryOp RShift int int") => `(tactic| (refine Mine.shr1' ?_; intro _ _; try dsimp only))
local macro_rules | `(tactic| walk_at "unaryOp USub int") => `(tactic| (refine Mine.neg_int' ?_; intro _ _; try dsimp only))
local macro_rules | `(tactic| walk_at "eval Constant int") => `(tactic| (refine Mine.const_int' ?_; intro _ _; try dsimp only))
local macro_rules | `(tactic| walk_at "storeName") => `(tactic| (k_here; (with_unfolding_all refine' Mine.stN' ?k1 ?k2 ?_ ?k3 ?k4; (case k1 => k_asm); (case k2 => k_asm); (case k3 => exact rfl); (case k4 => exact rfl); k_whole); intro h' tk' F' N'; (try k_sweep); try dsimp only))
local macro_rules | `(tactic| walk_at "WhileStep2 brk") => `(tactic| ((with_reducible show WhileStep2 _ _ _ _ _ _ Flow.brk _); refine Mine.step_brk ?_; try dsimp only))
local macro_rules | `(tactic| walk_at "setItem ref int") => `(tactic| (k_here; (with_unfolding_all refine' Mine.set_items ?k1 ?k2 ?k3 ?k4 ?k5 ?k6 ?k7 ?k8 ?_; (case k1 => k_asm); (case k2 => k_asm); (case k3 => with_reducible assumption); (case k4 => with_reducible assumption); (case k5 => with_reducible assumption); (case k6 => omega); (case k7 => omega); (case k8 => omega); k_whole); intro h' F' N' hks' hln'; (try k_sweep); try dsimp only))
local macro_rules | `(tactic| walk_at "call builtin:len") => `(tactic| (k_here; (with_unfolding_all refine' Mine.len_items ?k1 ?k2 ?k3 ?_; (case k1 => k_asm); (case k2 => k_mem); (case k3 => omega); k_whole); intro _ _; try dsimp only))
local macro_rules | `(tactic| walk_at "subscriptTail Name Name ref int") => `(tactic| (k_here; (with_unfolding_all refine' Mine.sub_items ?k1 ?k2 ?k3 ?k4 ?k5 ?_ ?k6; (case k1 => k_asm); (case k2 => k_mem); (case k3 => omega); (case k4 => omega); (case k5 => omega); (case k6 => with_unfolding_all rfl); k_whole); intro v' key' hx'; have hK' := Mine.key_mem (by with_reducible assumption) hx'))
local macro_rules | `(tactic| walk_at "compareOp Lt") => `(tactic| (k_here; (with_unfolding_all refine' Mine.lt_items ?k1 ?k2 ?k3 ?k4 ?_; (case k1 => k_asm); (case k2 => with_reducible assumption); (case k3 => with_reducible assumption); (case k4 => ktr_units); k_whole)))
local macro_rules | `(tactic| walk_at "binaryOp FloorDiv int int") => `(tactic| (refine' Mine.fdiv' ?k1 ?k2 ?_; (case k1 => omega); (case k2 => omega); intro _ _; try dsimp only))
local macro_rules | `(tactic| walk_at "binaryOp Mod int int") => `(tactic| (refine' Mine.fmod' ?k1 ?_; (case k1 => omega); intro _ _; try dsimp only))
local macro_rules | `(tactic| walk_at "call type:range") => `(tactic| (k_here; (with_unfolding_all refine' Mine.call_range' ?k1 ?k2 ?_; (case k1 => k_asm); (case k2 => k_asm); k_whole); intro r' h' tk' t' u' v' F' N' lt'; (try k_lt lt'); (try k_sweep); try dsimp only))
local macro_rules | `(tactic| walk_at "call type:reversed") => `(tactic| (k_here; (with_unfolding_all refine' Mine.call_reversed_range ?k1 ?k2 ?k3 ?k4 ?k5 ?_; (case k1 => k_asm); (case k2 => k_asm); (case k3 => k_mem); (case k4 => omega); (case k5 => omega); k_whole); intro r' h' F' N' lt'; (try k_lt lt'); (try k_sweep); try dsimp only))
local macro_rules | `(tactic| walk_at "pyIter ref") => `(tactic| ((with_reducible show wpAny _ _ (pyIter _) (fun it s₂ => LoopAtV _ _ _ _ _ _ _ _ _ _ _) _ _); refine Mine.stop ?_))
local macro_rules | `(tactic| walk_at "subscriptTail Name Constant ref int") => `(tactic| (k_here; (with_unfolding_all refine' Mine.sub_items ?k1 ?k2 ?k3 ?k4 ?k5 ?_ ?k6; (case k1 => k_asm); (case k2 => k_mem); (case k3 => omega); (case k4 => omega); (case k5 => omega); (case k6 => with_unfolding_all rfl); k_whole); intro v' key' hx'; have hK' := Mine.key_mem (by with_reducible assumption) hx'))
local macro_rules | `(tactic| walk_at "truthy ref") => `(tactic| (k_here; (with_unfolding_all refine' Mine.truthy_items ?k1 ?k2 ?k3 ?_; (case k1 => k_asm); (case k2 => k_mem); (case k3 => omega); k_whole); intro _; try dsimp only))
local macro_rules | `(tactic| walk_at "call builtin:list.pop") => `(tactic| (k_here; (with_unfolding_all refine' Mine.pop_items ?k1 ?k2 ?k3 ?k4 ?k5 ?_; (case k1 => k_asm); (case k2 => k_asm); (case k3 => with_reducible assumption); (case k4 => with_reducible assumption); (case k5 => omega); k_whole); intro h' F' N'; (try k_sweep); try dsimp only))

theorem siftdown_spec {w : World} {dp un : Nat} {gd : Option (List Code)} {env : Env} {outer : List Env} {A₀ : Around} {base h₀ : Heap} {L H : Addr} {m mg mb : Str → Option Value} {mean : ExcName → Option Value}
    {rest : List (Addr × Obj)} {s : Shared} {Q E : Value → Shared → Prop} {xs : List Itm} {ep start pos : Nat} {t1 t2 : Tok}
    (B : Below A₀ base outer h₀) (F : Fr h₀ L s.heap m) (X : (hd.heap_39 w.params).In h₀) (N : News h₀ L s.heap ((H, itemsOf xs ep) :: rest))
    (T : Top viewP (looseW viewP ["filterfalse"]) mean mg mb h₀) (hf : env.frame = some L) (hke : env.scope.kind = .function)
    (hdp : dp + 50 < recursionLimit) (hun : un + 400 < cLine)
    (hH : ∀ p ∈ rest, p.1 ≠ H) (hk : ∀ p ∈ xs, Key rest p.1 p.2) (h2 : pos < xs.length) (h3 : xs.length ≤ 64)
    {v₀ : Value} {key₀ : Int} (hv : xs[pos]? = some (v₀, key₀))
    (ret : ∀ h' tk', Fr h₀ L h' m → News h₀ L h' ((H, itemsOf ((sdP start pos xs pos key₀).1.set (sdP start pos xs pos key₀).2 (v₀, key₀)) ep) :: rest) → Q .none { s with heap := h', toks := tk' }) :
    wpAny (model PySem.Challenge.rw_ij0079_01.row.prog w) { handled := none, depth := dp, frames := some (env :: outer), guards := gd, units := un } (call (.ref 49) [.ref H, .int (start : Int) t1, .int (pos : Int) t2]) Q E s := by
  revert X
  k_fill
  intro X
  refine wpAny_call ?_
  refine' code_def' ?k1 ?k2 ?k3 ?k4 ?k5 ?kA ?kF ?kK ?k6 ?k7 ?k8 ?k9 ?kB ?_ ?c2 ?c3 ?c4 ?c5
  case kA => exact rfl
  case kF => exact hf
  case kK => exact hke
  case k1 => k_asm
  case k2 => k_asm
  case k3 => k_asm
  case k4 => k_asm
  case k5 => k_asm
  case k6 => k_is
  case k7 => k_is
  case k8 => ktr_room
  case k9 => exact BindsTo.of_eq rfl
  case c5 => decide
  case kB => exact locs rfl
  case c2 => exact rfl
  case c3 => exact rfl
  case c4 => exact rfl
  intro g' L' h' tk0 FG' F' N' B' X' T'
  dsimp only
  k_fold
  clear F N B X T
  replace F' : Fr g' L' h' (fun y => List.lookup y [(Str.ofString "pos", Value.int (pos : Int) t2), (Str.ofString "startpos", Value.int (start : Int) t1), (Str.ofString "heap", Value.ref H)]) := F'
  have hv0 : Key rest v₀ key₀ := key_mem hk hv
  k_steps
  rename_i v1 key1 hx1 hK1 h2' tk2 F2 N2
  unfold Stop
  obtain ⟨rfl, rfl⟩ : v₀ = v1 ∧ key₀ = key1 := by
    have := hx1; simp only [Int.toNat_natCast] at this; rw [hv] at this; simpa using this
  refine While_inv2 (fun n m₁ nx => ∃ xs₁ pos₁ tp, nx = (H, itemsOf xs₁ ep) :: rest ∧ xs₁.length = xs.length ∧ (∀ p ∈ xs₁, Key rest p.1 p.2) ∧ pos₁ ≤ n ∧ pos₁ < xs.length ∧
    m₁ (Str.ofString "pos") = some (.int (pos₁ : Int) tp) ∧ Off [Str.ofString "pos", Str.ofString "parentpos", Str.ofString "parent"] _ m₁ ∧ sdP start n xs₁ pos₁ key₀ = sdP start pos xs pos key₀) F2 N2 (n₀ := pos)
    ⟨xs, pos, t2, rfl, rfl, hk, Nat.le_refl _, h2, rfl, Off.refl _ _, rfl⟩ ?_
  rintro n m₁ nx h₁ tk₁ F₁ N₁ ⟨xs₁, pos₁, tp, rfl, hl, hk₁, hpn, hplt, hmp, hoff, hres⟩
  rw [norm1 hoff hmp] at F₁
  clear F2 N2
  k_steps
  · rename Fr _ _ _ _ => Fz
    rename News _ _ _ _ => Nz
    rename (_ = some (_, _)) => hx
    rename (key₀ < _) => hlt
    rename ((start : Int) < _) => hsl
    rename (∀ p ∈ List.set _ _ _, _) => hks
    have e : (((pos₁ : Int) - 1) / 2 : Int) = (((pos₁ - 1) / 2 : Nat) : Int) := by omega
    simp only [e, Int.toNat_natCast] at Fz Nz hx hks
    obtain ⟨n', rfl⟩ : ∃ n', n = n' + 1 := ⟨n - 1, by omega⟩
    refine ⟨_, _, _, _, n', rfl, Fz, Nz, by omega, _, (pos₁ - 1) / 2, _, rfl, by rw [List.length_set]; exact hl, hks, by omega, by omega, rfl, ?_, ?_⟩
    · intro x hx0
      simp only [List.contains_cons, List.contains_nil, Bool.or_false, Bool.or_eq_false_iff, beq_eq_false_iff_ne, ne_eq] at hx0
      simp [hx0]
    · rw [← hres]
      have h9 : start < pos₁ := by omega
      conv => rhs; unfold sdP
      simp only [if_pos h9, hx, if_pos hlt]
  · rename Fr _ _ _ _ => Fz
    rename News _ _ _ _ => Nz
    rename (_ = some (_, _)) => hx
    rename (¬ key₀ < _) => hlt
    rename ((start : Int) < _) => hsl
    have e : (((pos₁ : Int) - 1) / 2 : Int) = (((pos₁ - 1) / 2 : Nat) : Int) := by omega
    simp only [e, Int.toNat_natCast] at Nz hx
    obtain ⟨n', rfl⟩ : ∃ n', n = n' + 1 := ⟨n - 1, by omega⟩
    have h9 : start < pos₁ := by omega
    have hr : sdP start (n' + 1) xs₁ pos₁ key₀ = (xs₁, pos₁) := by
      unfold sdP
      simp only [if_pos h9, hx, if_neg hlt]
    rw [hr] at hres
    refine leaveK_ Fz Nz (fun kF kN => ret _ _ kF ?_)
    rw [← hres]
    exact kN
  · rename Fr _ _ _ _ => Fz
    rename News _ _ _ _ => Nz
    rename (¬ (start : Int) < _) => hsl
    simp only [Int.toNat_natCast] at Nz
    have h9 : ¬ start < pos₁ := by omega
    have hr : sdP start n xs₁ pos₁ key₀ = (xs₁, pos₁) := by
      cases n with
      | zero => rfl
      | succ n => unfold sdP; rw [if_neg h9]
    rw [hr] at hres
    refine leaveK_ Fz Nz (fun kF kN => ret _ _ kF ?_)
    rw [← hres]
    exact kN

local macro_rules | `(tactic| walk_at "call ref") => `(tactic| (k_here; (with_unfolding_all refine' Mine.siftdown_spec ?k1 ?k2 ?k3 ?k4 ?k5 ?k6 ?k7 ?k8 ?k9 ?k10 ?k11 ?k12 ?k13 ?k14 ?_; (case k1 => k_asm); (case k2 => k_asm); (case k3 => k_asm); (case k4 => k_asm); (case k5 => k_asm); (case k6 => exact rfl); (case k7 => exact rfl); (case k8 => ktr_room); (case k9 => ktr_units); (case k10 => with_reducible assumption); (case k11 => with_reducible assumption); (case k12 => omega); (case k13 => omega); (case k14 => first | with_reducible assumption | exact Mine.set_get (by omega)); k_whole); intro h' tk' F' N'; (try k_sweep); try dsimp only))


noncomputable abbrev itAt (xs : List Itm) (i : Nat) : Itm := xs.getD i (.none, 0)
noncomputable def childP (xs : List Itm) (pos : Nat) : Nat := if 2 * pos + 2 < xs.length ∧ ¬ (itAt xs (2 * pos + 1)).2 < (itAt xs (2 * pos + 2)).2 then 2 * pos + 2 else 2 * pos + 1
noncomputable def suP : Nat → List Itm → Nat → List Itm × Nat
  | 0, xs, pos => (xs, pos)
  | f + 1, xs, pos => if 2 * pos + 1 < xs.length then suP f (xs.set pos (itAt xs (childP xs pos))) (childP xs pos) else (xs, pos)
noncomputable def siftdownP (xs : List Itm) (start pos : Nat) (it : Itm) : List Itm := (sdP start pos xs pos it.2).1.set (sdP start pos xs pos it.2).2 it
noncomputable def siftupP (xs : List Itm) (pos : Nat) : List Itm :=
  siftdownP ((suP xs.length xs pos).1.set (suP xs.length xs pos).2 (itAt xs pos)) pos (suP xs.length xs pos).2 (itAt xs pos)


theorem itAt_of {xs : List Itm} {i : Nat} {p : Itm} (h : xs[i]? = some p) : itAt xs i = p := by unfold itAt; rw [List.getD_eq_getElem?_getD, h]; rfl

theorem su_step {n : Nat} {xs : List Itm} {pos c : Nat} {it : Itm} (h : 2 * pos + 1 < xs.length) (hc : childP xs pos = c) (hi : itAt xs c = it) : suP (n + 1) xs pos = suP n (xs.set pos it) c := by
  subst hc hi
  rw [suP, if_pos h]
theorem child_left {xs : List Itm} {pos : Nat} (h : ¬ 2 * pos + 2 < xs.length) : childP xs pos = 2 * pos + 1 := by
  unfold childP
  rw [if_neg (fun x => h x.1)]
theorem child_lt {xs : List Itm} {pos : Nat} {v v' : Value} {k k' : Int} (h1 : xs[2 * pos + 1]? = some (v, k)) (h2 : xs[2 * pos + 2]? = some (v', k')) (h : k < k') : childP xs pos = 2 * pos + 1 := by
  unfold childP
  rw [itAt_of h1, itAt_of h2, if_neg (fun x => x.2 h)]
theorem child_ge {xs : List Itm} {pos : Nat} {v v' : Value} {k k' : Int} (h0 : 2 * pos + 2 < xs.length) (h1 : xs[2 * pos + 1]? = some (v, k)) (h2 : xs[2 * pos + 2]? = some (v', k')) (h : ¬ k < k') : childP xs pos = 2 * pos + 2 := by
  unfold childP
  rw [itAt_of h1, itAt_of h2, if_pos ⟨h0, h⟩]

theorem siftup_spec {w : World} {dp un : Nat} {gd : Option (List Code)} {env : Env} {outer : List Env} {A₀ : Around} {base h₀ : Heap} {L H : Addr} {m mg mb : Str → Option Value} {mean : ExcName → Option Value}
    {rest : List (Addr × Obj)} {s : Shared} {Q E : Value → Shared → Prop} {xs : List Itm} {ep pos : Nat} {t1 : Tok}
    (B : Below A₀ base outer h₀) (F : Fr h₀ L s.heap m) (X : (hd.heap_39 w.params).In h₀) (N : News h₀ L s.heap ((H, itemsOf xs ep) :: rest))
    (T : Top viewP (looseW viewP ["filterfalse"]) mean mg mb h₀) (hf : env.frame = some L) (hke : env.scope.kind = .function)
    (hdp : dp + 100 < recursionLimit) (hun : un + 800 < cLine)
    (hH : ∀ p ∈ rest, p.1 ≠ H) (hk : ∀ p ∈ xs, Key rest p.1 p.2) (h2 : pos < xs.length) (h3 : xs.length ≤ 64)
    (ret : ∀ h' tk', Fr h₀ L h' m → News h₀ L h' ((H, itemsOf (siftupP xs pos) ep) :: rest) → Q .none { s with heap := h', toks := tk' }) :
    wpAny (model PySem.Challenge.rw_ij0079_01.row.prog w) { handled := none, depth := dp, frames := some (env :: outer), guards := gd, units := un } (call (.ref 56) [.ref H, .int (pos : Int) t1]) Q E s := by
  revert X
  k_fill
  intro X
  refine wpAny_call ?_
  refine' code_def' ?k1 ?k2 ?k3 ?k4 ?k5 ?kA ?kF ?kK ?k6 ?k7 ?k8 ?k9 ?kB ?_ ?c2 ?c3 ?c4 ?c5
  case kA => exact rfl
  case kF => exact hf
  case kK => exact hke
  case k1 => k_asm
  case k2 => k_asm
  case k3 => k_asm
  case k4 => k_asm
  case k5 => k_asm
  case k6 => k_is
  case k7 => k_is
  case k8 => ktr_room
  case k9 => exact BindsTo.of_eq rfl
  case c5 => decide
  case kB => exact locs rfl
  case c2 => exact rfl
  case c3 => exact rfl
  case c4 => exact rfl
  intro g' L' h' tk0 FG' F' N' B' X' T'
  dsimp only
  k_fold
  clear F N B X T
  replace F' : Fr g' L' h' (fun y => List.lookup y [(Str.ofString "pos", Value.int (pos : Int) t1), (Str.ofString "heap", Value.ref H)]) := F'
  k_steps
  unfold Stop
  rename_i v1 key1 hx1 hK1 _ _ _ _ _ _ _ _ tc _ h2' tk2 F2 N2
  simp only [Int.toNat_natCast] at hx1
  have hit : itAt xs pos = (v1, key1) := itAt_of hx1
  refine While_inv2 (fun n m₁ nx => ∃ xs₁ pos₁ tp tc, nx = (H, itemsOf xs₁ ep) :: rest ∧ xs₁.length = xs.length ∧ (∀ p ∈ xs₁, Key rest p.1 p.2) ∧ xs.length - pos₁ ≤ n ∧ pos₁ < xs.length ∧
    m₁ (Str.ofString "pos") = some (.int (pos₁ : Int) tp) ∧ m₁ (Str.ofString "childpos") = some (.int (2 * (pos₁ : Int) + 1) tc) ∧ Off [Str.ofString "pos", Str.ofString "childpos", Str.ofString "rightpos"] _ m₁ ∧ suP n xs₁ pos₁ = suP xs.length xs pos) F2 N2 (n₀ := xs.length)
    ⟨xs, pos, t1, tc, rfl, rfl, hk, by omega, h2, rfl, rfl, Off.refl _ _, rfl⟩ ?_
  rintro n m₁ nx h₁ tk₁ F₁ N₁ ⟨xs₁, pos₁, tp, tc1, rfl, hl, hk₁, hpn, hplt, hmp, hmc, hoff, hres⟩
  rw [norm2 hoff hmp hmc] at F₁
  clear F2 N2
  k_steps
  all_goals (have e1 : 2 * (pos₁ : Int) + 1 = ((2 * pos₁ + 1 : Nat) : Int) := by omega)
  all_goals (have e2 : ((2 * pos₁ + 1 : Nat) : Int) + 1 = ((2 * pos₁ + 2 : Nat) : Int) := by omega)
  all_goals rename Fr _ _ _ _ => Fz
  all_goals rename News _ _ _ _ => Nz
  · rename (xs₁[(2 * (pos₁ : Int) + 1).toNat]? = some (_, _)) => ha
    have ja := itAt_of ha
    clear ha
    rename (xs₁[(2 * (pos₁ : Int) + 1).toNat]? = some (_, _)) => ha2
    rename (xs₁[(2 * (pos₁ : Int) + 1 + 1).toNat]? = some (_, _)) => hb
    rename ((_ : Int) < _) => hlt
    rename (2 * (pos₁ : Int) + 1 < _) => hcl
    rename (∀ p ∈ List.set _ _ _, _) => hks
    simp only [e1, e2, Int.toNat_natCast] at Fz Nz ja ha2 hb hks hcl
    obtain ⟨n', rfl⟩ : ∃ n', n = n' + 1 := ⟨n - 1, by omega⟩
    rw [su_step (by omega) (child_lt ha2 hb hlt) ja] at hres
    refine ⟨_, _, _, _, n', rfl, Fz, Nz, by omega, _, 2 * pos₁ + 1, _, _, rfl, by rw [List.length_set]; exact hl, hks, by omega, by omega, rfl, rfl, ?_, hres⟩
    · intro x hx0
      simp only [List.contains_cons, List.contains_nil, Bool.or_false, Bool.or_eq_false_iff, beq_eq_false_iff_ne, ne_eq] at hx0
      simp [hx0]
  · rename (xs₁[(2 * (pos₁ : Int) + 1 + 1).toNat]? = some (_, _)) => ha
    have ja := itAt_of ha
    clear ha
    rename (xs₁[(2 * (pos₁ : Int) + 1 + 1).toNat]? = some (_, _)) => ha2
    rename (xs₁[(2 * (pos₁ : Int) + 1).toNat]? = some (_, _)) => hb
    rename (¬ (_ : Int) < _) => hlt
    rename (2 * (pos₁ : Int) + 1 < _) => hcl
    rename (2 * (pos₁ : Int) + 1 + 1 < _) => hcr
    rename (∀ p ∈ List.set _ _ _, _) => hks
    simp only [e1, e2, Int.toNat_natCast] at Fz Nz ja ha2 hb hks hcl hcr
    obtain ⟨n', rfl⟩ : ∃ n', n = n' + 1 := ⟨n - 1, by omega⟩
    rw [su_step (by omega) (child_ge (by omega) hb ha2 hlt) ja] at hres
    refine ⟨_, _, _, _, n', rfl, Fz, Nz, by omega, _, 2 * pos₁ + 2, _, _, rfl, by rw [List.length_set]; exact hl, hks, by omega, by omega, rfl, rfl, ?_, hres⟩
    · intro x hx0
      simp only [List.contains_cons, List.contains_nil, Bool.or_false, Bool.or_eq_false_iff, beq_eq_false_iff_ne, ne_eq] at hx0
      simp [hx0]
  · rename (xs₁[(2 * (pos₁ : Int) + 1).toNat]? = some (_, _)) => ha
    rename (2 * (pos₁ : Int) + 1 < _) => hcl
    rename (¬ 2 * (pos₁ : Int) + 1 + 1 < _) => hcr
    rename (∀ p ∈ List.set _ _ _, _) => hks
    simp only [e1, e2, Int.toNat_natCast] at Fz Nz ha hks hcl hcr
    obtain ⟨n', rfl⟩ : ∃ n', n = n' + 1 := ⟨n - 1, by omega⟩
    rw [su_step (by omega) (child_left (by omega)) (itAt_of ha)] at hres
    refine ⟨_, _, _, _, n', rfl, Fz, Nz, by omega, _, 2 * pos₁ + 1, _, _, rfl, by rw [List.length_set]; exact hl, hks, by omega, by omega, rfl, rfl, ?_, hres⟩
    · intro x hx0
      simp only [List.contains_cons, List.contains_nil, Bool.or_false, Bool.or_eq_false_iff, beq_eq_false_iff_ne, ne_eq] at hx0
      simp [hx0]
  · rename (¬ 2 * (pos₁ : Int) + 1 < _) => hcl
    have hr : suP n xs₁ pos₁ = (xs₁, pos₁) := by
      cases n with
      | zero => rfl
      | succ n => rw [suP, if_neg (by omega)]
    rw [hr] at hres
    simp only [Int.toNat_natCast] at Nz
    refine leaveK_ Fz Nz (fun kF kN => ret _ _ kF ?_)
    unfold siftupP siftdownP
    rw [← hres, hit]
    exact kN

local macro_rules | `(tactic| walk_at "call ref") => `(tactic| (k_here; (with_unfolding_all refine' Mine.siftup_spec ?k1 ?k2 ?k3 ?k4 ?k5 ?k6 ?k7 ?k8 ?k9 ?k10 ?k11 ?k12 ?k13 ?_; (case k1 => k_asm); (case k2 => k_asm); (case k3 => k_asm); (case k4 => k_asm); (case k5 => k_asm); (case k6 => exact rfl); (case k7 => exact rfl); (case k8 => ktr_room); (case k9 => ktr_units); (case k10 => with_reducible assumption); (case k11 => with_reducible assumption); (case k12 => omega); (case k13 => omega); k_whole); intro h' tk' F' N'; (try k_sweep); try dsimp only))


theorem siftdownP_length (xs : List Itm) (start pos : Nat) (it : Itm) : (siftdownP xs start pos it).length = xs.length := by
  have h : ∀ f xs pos k, (sdP start f xs pos k).1.length = xs.length := by
    intro f
    induction f with
    | zero => intros; rfl
    | succ f ih =>
      intro xs pos k
      unfold sdP
      split
      · split
        · split
          · rw [ih, List.length_set]
          · rfl
        · rfl
      · rfl
  unfold siftdownP
  rw [List.length_set, h]
theorem siftupP_length (xs : List Itm) (pos : Nat) : (siftupP xs pos).length = xs.length := by
  have h : ∀ f xs pos, (suP f xs pos).1.length = xs.length := by
    intro f
    induction f with
    | zero => intros; rfl
    | succ f ih =>
      intro xs pos
      unfold suP
      split
      · rw [ih, List.length_set]
      · rfl
  unfold siftupP
  rw [siftdownP_length, List.length_set, h]

theorem Key.mono {rest rest' : List (Addr × Obj)} {v : Value} {k : Int} (h : Key rest v k) (hs : ∀ p ∈ rest, p ∈ rest') : Key rest' v k :=
  let ⟨a, x, y, t, u, n, e, hm, r⟩ := h
  ⟨a, x, y, t, u, n, e, hs _ hm, r⟩
theorem siftdownP_key {rest : List (Addr × Obj)} {xs : List Itm} {start pos : Nat} {it : Itm} (h : ∀ p ∈ xs, Key rest p.1 p.2) (hi : Key rest it.1 it.2) : ∀ p ∈ siftdownP xs start pos it, Key rest p.1 p.2 := by
  have hf : ∀ f (xs : List Itm) pos k, (∀ p ∈ xs, Key rest p.1 p.2) → ∀ p ∈ (sdP start f xs pos k).1, Key rest p.1 p.2 := by
    intro f
    induction f with
    | zero => intro xs pos k hx; exact hx
    | succ f ih =>
      intro xs pos k hx
      unfold sdP
      split
      · split
        · rename_i v k' hv
          split
          · refine ih _ _ _ (fun p hp => ?_)
            rcases List.mem_or_eq_of_mem_set hp with h1 | rfl
            · exact hx p h1
            · exact hx _ (List.mem_of_getElem? hv)
          · exact hx
        · exact hx
      · exact hx
  intro p hp
  unfold siftdownP at hp
  rcases List.mem_or_eq_of_mem_set hp with h1 | rfl
  · exact hf _ _ _ _ h p h1
  · exact hi
theorem itAt_mem {xs : List Itm} {i : Nat} (h : i < xs.length) : itAt xs i ∈ xs := by
  have : itAt xs i = xs[i] := itAt_of (by simp [h])
  rw [this]; exact List.getElem_mem h
theorem childP_lt {xs : List Itm} {pos : Nat} (h : 2 * pos + 1 < xs.length) : childP xs pos < xs.length := by
  unfold childP; split
  · rename_i h1; exact h1.1
  · exact h
theorem siftupP_key {rest : List (Addr × Obj)} {xs : List Itm} {pos : Nat} (h : ∀ p ∈ xs, Key rest p.1 p.2) (hp : pos < xs.length) : ∀ p ∈ siftupP xs pos, Key rest p.1 p.2 := by
  have hf : ∀ f (xs : List Itm) pos, (∀ p ∈ xs, Key rest p.1 p.2) → ∀ p ∈ (suP f xs pos).1, Key rest p.1 p.2 := by
    intro f
    induction f with
    | zero => intro xs pos hx; exact hx
    | succ f ih =>
      intro xs pos hx
      unfold suP
      split
      · rename_i h1
        refine ih _ _ (fun p hp => ?_)
        rcases List.mem_or_eq_of_mem_set hp with h2 | rfl
        · exact hx p h2
        · exact hx _ (itAt_mem (childP_lt h1))
      · exact hx
  have hi := h _ (itAt_mem hp)
  refine siftdownP_key (fun p hp => ?_) hi
  rcases List.mem_or_eq_of_mem_set hp with h1 | rfl
  · exact hf _ _ _ h p h1
  · exact hi

noncomputable def hpfP (xs : List Itm) : Nat → List Itm
  | 0 => xs
  | i + 1 => siftupP (hpfP xs i) (xs.length / 2 - 1 - i)
theorem hpfP_length (xs : List Itm) : ∀ i, (hpfP xs i).length = xs.length
  | 0 => rfl
  | i + 1 => by rw [hpfP, siftupP_length, hpfP_length xs i]
theorem hpfP_key {rest : List (Addr × Obj)} {xs : List Itm} (h : ∀ p ∈ xs, Key rest p.1 p.2) (hx : 0 < xs.length) : ∀ i, ∀ p ∈ hpfP xs i, Key rest p.1 p.2
  | 0 => h
  | i + 1 => siftupP_key (hpfP_key h hx i) (by rw [hpfP_length]; omega)


theorem heapify_spec {w : World} {dp un : Nat} {gd : Option (List Code)} {env : Env} {outer : List Env} {A₀ : Around} {base h₀ : Heap} {L H : Addr} {m mg mb : Str → Option Value} {mean : ExcName → Option Value}
    {rest : List (Addr × Obj)} {s : Shared} {Q E : Value → Shared → Prop} {xs : List Itm} {ep : Nat}
    (B : Below A₀ base outer h₀) (F : Fr h₀ L s.heap m) (X : (hd.heap_39 w.params).In h₀) (N : News h₀ L s.heap ((H, itemsOf xs ep) :: rest))
    (T : Top viewP (looseW viewP ["filterfalse"]) mean mg mb h₀) (hf : env.frame = some L) (hke : env.scope.kind = .function)
    (hdp : dp + 150 < recursionLimit) (hun : un + 1200 < cLine)
    (hH : ∀ p ∈ rest, p.1 ≠ H) (hk : ∀ p ∈ xs, Key rest p.1 p.2) (h3 : xs.length ≤ 64)
    (ret : ∀ h' tk', Fr h₀ L h' m → News h₀ L h' ((H, itemsOf (hpfP xs (xs.length / 2)) ep) :: rest) → Q .none { s with heap := h', toks := tk' }) :
    wpAny (model PySem.Challenge.rw_ij0079_01.row.prog w) { handled := none, depth := dp, frames := some (env :: outer), guards := gd, units := un } (call (.ref 42) [.ref H]) Q E s := by
  revert X
  k_fill
  intro X
  refine wpAny_call ?_
  refine' code_def' ?k1 ?k2 ?k3 ?k4 ?k5 ?kA ?kF ?kK ?k6 ?k7 ?k8 ?k9 ?kB ?_ ?c2 ?c3 ?c4 ?c5
  case kA => exact rfl
  case kF => exact hf
  case kK => exact hke
  case k1 => k_asm
  case k2 => k_asm
  case k3 => k_asm
  case k4 => k_asm
  case k5 => k_asm
  case k6 => k_is
  case k7 => k_is
  case k8 => ktr_room
  case k9 => exact BindsTo.of_eq rfl
  case c5 => decide
  case kB => exact locs rfl
  case c2 => exact rfl
  case c3 => exact rfl
  case c4 => exact rfl
  intro g' L' h' tk0 FG' F' N' B' X' T'
  dsimp only
  k_fold
  clear F N B X T
  replace F' : Fr g' L' h' (fun y => List.lookup y [(Str.ofString "x", Value.ref H)]) := F'
  k_steps
  unfold Stop
  rename_i it h2' F2 N2 lt2
  have eL : (xs.length : Int) / 2 = ((xs.length / 2 : Nat) : Int) := by omega
  simp only [eL] at F2 N2
  have hit : ∀ p ∈ (H, itemsOf xs ep) :: rest, p.1 ≠ it := fun p hp => by
    rcases List.mem_cons.mp hp with rfl | h
    · exact Nat.ne_of_lt lt2.2.1
    · exact Nat.ne_of_lt (allLt_mem lt2.2.2 p h)
  have hHit : it ≠ H := Nat.ne_of_gt lt2.2.1
  refine loop_rangeit (n := xs.length / 2) (a := ((xs.length / 2 : Nat) : Int) - 1) (c := -1) (fun i m₁ nx => nx = (H, itemsOf (hpfP xs i) ep) :: rest ∧ Off [Str.ofString "i"] _ m₁) rfl F2 (news := (H, itemsOf xs ep) :: rest) (fun p hp => N2 p ?_) hit ⟨rfl, Off.refl _ _⟩ ?_ ?_
  · rcases List.mem_append.mp hp with h | h
    · exact List.mem_cons_of_mem _ (List.mem_cons_of_mem _ h)
    · rw [List.mem_singleton.mp h]; exact List.mem_cons_self ..
  · rintro i t m₁ nx h₁ tk₁ hi ⟨rfl, hoff⟩ hnI F₁ N₁
    rw [norm0 hoff] at F₁
    have eI : ((xs.length / 2 : Nat) : Int) - 1 + (i : Nat) * (-1) = ((xs.length / 2 - 1 - i : Nat) : Int) := by omega
    rw [eI] at F₁
    generalize ritObj (((xs.length / 2 : Nat) : Int) - 1 + ((i + 1 : Nat) : Int) * (-1)) (((xs.length / 2 : Nat) : Int) - ((i + 1 : Nat) : Int)) (-1) = io at N₁
    have hk1 : ∀ p ∈ hpfP xs i, Key (rest ++ [(it, io)]) p.1 p.2 := fun p hp => (hpfP_key hk (by omega) i p hp).mono fun q hq => List.mem_append_left _ hq
    have hH1 : ∀ p ∈ rest ++ [(it, io)], p.1 ≠ H := fun p hp => by
      rcases List.mem_append.mp hp with h | h
      · exact hH p h
      · rw [List.mem_singleton.mp h]; exact hHit
    have hl := hpfP_length xs i
    have hnI' : ∀ p ∈ (H, itemsOf (hpfP xs (i + 1)) ep) :: rest, p.1 ≠ it := fun p hp => by
      rcases List.mem_cons.mp hp with rfl | h
      · exact Ne.symm hHit
      · exact hnI p (List.mem_cons_of_mem _ h)
    rw [List.cons_append] at N₁
    clear F2 N2
    k_steps
    rename Fr _ _ _ _ => Fz
    rename News _ _ _ _ => Nz
    refine ⟨_, _, _, (H, itemsOf (hpfP xs (i + 1)) ep) :: rest, rfl, Fz, Nz, hnI', rfl, ?_⟩
    intro x hx0
    simp only [List.contains_cons, List.contains_nil, Bool.or_false, Bool.or_eq_false_iff, beq_eq_false_iff_ne, ne_eq] at hx0
    simp [hx0]
  · rintro m₁ nx h₁ tk₁ ⟨rfl, hoff⟩ F₁ N₁
    dsimp only
    clear F2 N2
    k_steps
    exact leaveK_ F₁ N₁ (fun kF kN => ret _ _ kF kN)


theorem siftup_spec0 {w : World} {dp un : Nat} {gd : Option (List Code)} {env : Env} {outer : List Env} {A₀ : Around} {base h₀ : Heap} {L H : Addr} {m mg mb : Str → Option Value} {mean : ExcName → Option Value}
    {rest : List (Addr × Obj)} {s : Shared} {Q E : Value → Shared → Prop} {xs : List Itm} {ep : Nat} {t1 : Tok}
    (B : Below A₀ base outer h₀) (F : Fr h₀ L s.heap m) (X : (hd.heap_39 w.params).In h₀) (N : News h₀ L s.heap ((H, itemsOf xs ep) :: rest))
    (T : Top viewP (looseW viewP ["filterfalse"]) mean mg mb h₀) (hf : env.frame = some L) (hke : env.scope.kind = .function)
    (hdp : dp + 100 < recursionLimit) (hun : un + 800 < cLine)
    (hH : ∀ p ∈ rest, p.1 ≠ H) (hk : ∀ p ∈ xs, Key rest p.1 p.2) (h2 : 0 < xs.length) (h3 : xs.length ≤ 64)
    (ret : ∀ h' tk', Fr h₀ L h' m → News h₀ L h' ((H, itemsOf (siftupP xs 0) ep) :: rest) → Q .none { s with heap := h', toks := tk' }) :
    wpAny (model PySem.Challenge.rw_ij0079_01.row.prog w) { handled := none, depth := dp, frames := some (env :: outer), guards := gd, units := un } (call (.ref 56) [.ref H, .int 0 t1]) Q E s :=
  siftup_spec (pos := 0) B F X N T hf hke hdp hun hH hk h2 h3 ret

local macro_rules | `(tactic| walk_at "call ref") => `(tactic| (k_here; (with_unfolding_all refine' Mine.siftup_spec0 ?k1 ?k2 ?k3 ?k4 ?k5 ?k6 ?k7 ?k8 ?k9 ?k10 ?k11 ?k12 ?k13 ?_; (case k1 => k_asm); (case k2 => k_asm); (case k3 => k_asm); (case k4 => k_asm); (case k5 => k_asm); (case k6 => exact rfl); (case k7 => exact rfl); (case k8 => ktr_room); (case k9 => ktr_units); (case k10 => with_reducible assumption); (case k11 => with_reducible assumption); (case k12 => omega); (case k13 => omega); k_whole); intro h' tk' F' N'; (try k_sweep); try dsimp only))

theorem heapreplace_spec {w : World} {dp un : Nat} {gd : Option (List Code)} {env : Env} {outer : List Env} {A₀ : Around} {base h₀ : Heap} {L H : Addr} {m mg mb : Str → Option Value} {mean : ExcName → Option Value}
    {rest : List (Addr × Obj)} {s : Shared} {Q E : Value → Shared → Prop} {xs : List Itm} {ep : Nat} {v : Value} {key : Int}
    (B : Below A₀ base outer h₀) (F : Fr h₀ L s.heap m) (X : (hd.heap_39 w.params).In h₀) (N : News h₀ L s.heap ((H, itemsOf xs ep) :: rest))
    (T : Top viewP (looseW viewP ["filterfalse"]) mean mg mb h₀) (hf : env.frame = some L) (hke : env.scope.kind = .function)
    (hdp : dp + 150 < recursionLimit) (hun : un + 1200 < cLine)
    (hH : ∀ p ∈ rest, p.1 ≠ H) (hk : ∀ p ∈ xs, Key rest p.1 p.2) (hv : Key rest v key) (hne : 0 < xs.length) (h3 : xs.length ≤ 64)
    (ret : ∀ h' tk', Fr h₀ L h' m → News h₀ L h' ((H, itemsOf (siftupP (xs.set 0 (v, key)) 0) ep) :: rest) → Q (itAt xs 0).1 { s with heap := h', toks := tk' }) :
    wpAny (model PySem.Challenge.rw_ij0079_01.row.prog w) { handled := none, depth := dp, frames := some (env :: outer), guards := gd, units := un } (call (.ref 35) [.ref H, v]) Q E s := by
  revert X
  k_fill
  intro X
  refine wpAny_call ?_
  refine' code_def' ?k1 ?k2 ?k3 ?k4 ?k5 ?kA ?kF ?kK ?k6 ?k7 ?k8 ?k9 ?kB ?_ ?c2 ?c3 ?c4 ?c5
  case kA => exact rfl
  case kF => exact hf
  case kK => exact hke
  case k1 => k_asm
  case k2 => k_asm
  case k3 => k_asm
  case k4 => k_asm
  case k5 => k_asm
  case k6 => k_is
  case k7 => k_is
  case k8 => ktr_room
  case k9 => exact BindsTo.of_eq rfl
  case c5 => decide
  case kB => exact locs rfl
  case c2 => exact rfl
  case c3 => exact rfl
  case c4 => exact rfl
  intro g' L' h' tk0 FG' F' N' B' X' T'
  dsimp only
  k_fold
  clear F N B X T
  replace F' : Fr g' L' h' (fun y => List.lookup y [(Str.ofString "item", v), (Str.ofString "heap", Value.ref H)]) := F'
  k_steps
  rename Fr _ _ _ _ => Fz
  rename News _ _ _ _ => Nz
  rename (_ = some (_, _)) => hx
  have hx' := itAt_of (i := 0) hx
  rw [hx'] at ret
  exact leaveK_ Fz Nz (fun kF kN => ret _ _ kF kN)

theorem heappop_spec {w : World} {dp un : Nat} {gd : Option (List Code)} {env : Env} {outer : List Env} {A₀ : Around} {base h₀ : Heap} {L H : Addr} {m mg mb : Str → Option Value} {mean : ExcName → Option Value}
    {rest : List (Addr × Obj)} {s : Shared} {Q E : Value → Shared → Prop} {xs : List Itm} {ep : Nat} {ys : List Itm} {it : Itm}
    (B : Below A₀ base outer h₀) (F : Fr h₀ L s.heap m) (X : (hd.heap_39 w.params).In h₀) (N : News h₀ L s.heap ((H, itemsOf xs ep) :: rest))
    (T : Top viewP (looseW viewP ["filterfalse"]) mean mg mb h₀) (hf : env.frame = some L) (hke : env.scope.kind = .function)
    (hdp : dp + 150 < recursionLimit) (hun : un + 1200 < cLine)
    (hH : ∀ p ∈ rest, p.1 ≠ H) (hk : ∀ p ∈ xs, Key rest p.1 p.2) (hx : xs = ys ++ [it]) (hxl : xs.length = ys.length + 1) (hky : ∀ p ∈ ys, Key rest p.1 p.2) (h3 : xs.length ≤ 64)
    (ret : ∀ h' tk', Fr h₀ L h' m → News h₀ L h' ((H, itemsOf (if 0 < ys.length then siftupP (ys.set 0 it) 0 else []) (ep + 1)) :: rest) → Q (itAt xs 0).1 { s with heap := h', toks := tk' }) :
    wpAny (model PySem.Challenge.rw_ij0079_01.row.prog w) { handled := none, depth := dp, frames := some (env :: outer), guards := gd, units := un } (call (.ref 28) [.ref H]) Q E s := by
  revert X
  k_fill
  intro X
  refine wpAny_call ?_
  refine' code_def' ?k1 ?k2 ?k3 ?k4 ?k5 ?kA ?kF ?kK ?k6 ?k7 ?k8 ?k9 ?kB ?_ ?c2 ?c3 ?c4 ?c5
  case kA => exact rfl
  case kF => exact hf
  case kK => exact hke
  case k1 => k_asm
  case k2 => k_asm
  case k3 => k_asm
  case k4 => k_asm
  case k5 => k_asm
  case k6 => k_is
  case k7 => k_is
  case k8 => ktr_room
  case k9 => exact BindsTo.of_eq rfl
  case c5 => decide
  case kB => exact locs rfl
  case c2 => exact rfl
  case c3 => exact rfl
  case c4 => exact rfl
  intro g' L' h' tk0 FG' F' N' B' X' T'
  dsimp only
  k_fold
  clear F N B X T
  replace F' : Fr g' L' h' (fun y => List.lookup y [(Str.ofString "heap", Value.ref H)]) := F'
  have hit : Key rest it.1 it.2 := hk it (by rw [hx]; simp)
  k_steps
  · rename Fr _ _ _ _ => Fz
    rename News _ _ _ _ => Nz
    rename (_ = some (_, _)) => hv
    rename (0 < ys.length) => hl
    have hv' : itAt xs 0 = _ := itAt_of (i := 0) (by rw [hx, List.getElem?_append_left hl]; exact hv)
    rw [hv', if_pos hl] at ret
    exact leaveK_ Fz Nz (fun kF kN => ret _ _ kF kN)
  · rename Fr _ _ _ _ => Fz
    rename News _ _ _ _ => Nz
    rename (¬ 0 < ys.length) => hl
    have hy : ys = [] := List.length_eq_zero_iff.mp (by omega)
    subst hy
    have hv' : itAt xs 0 = it := itAt_of (i := 0) (by rw [hx]; rfl)
    rw [hv', if_neg hl] at ret
    exact leaveK_ Fz Nz (fun kF kN => ret _ _ kF kN)

end Mine
end

section
open PySem PySem.W PySem.Calls PyProof.Rows PySem.Spec PyProof
set_option maxRecDepth 100000
set_option maxHeartbeats 8000000
namespace Mine
theorem switch_S1 : True := by
  w_top off
  trivial
local macro_rules | `(tactic| k_room) => `(tactic| ktr_room)
local macro_rules | `(tactic| k_units) => `(tactic| ktr_units)
local macro_rules | `(tactic| walk_at "binaryOp Add int int") => `(tactic| (refine Mine.add_int' ?_; intro _ _; try dsimp only))
local macro_rules | `(tactic| walk_at "eval Constant int") => `(tactic| (refine Mine.const_int' ?_; intro _ _; try dsimp only))
local macro_rules | `(tactic| walk_at "storeName") => `(tactic| (k_here; (with_unfolding_all refine' Mine.stN' ?k1 ?k2 ?_ ?k3 ?k4; (case k1 => k_asm); (case k2 => k_asm); (case k3 => exact rfl); (case k4 => exact rfl); k_whole); intro h' tk' F' N'; (try k_sweep); try dsimp only))

noncomputable abbrev tupS (x y : Str) (t u : Tok) : Obj := { cls := .type "tuple", data := .seq #[.str x t, .str y u] }

noncomputable def splitCut (p : Str) : Str := Txt.slice p none (some (Txt.rfind p (Str.ofString "/") + 1))
noncomputable def splitHead (p : Str) : Str :=
  if (splitCut p).length = 0 then splitCut p
  else if (splitCut p != Txt.mul (Str.ofString "/") ((splitCut p).length : Int)) = true then Txt.rstripChars (splitCut p) (Str.ofString "/") else splitCut p
noncomputable def splitTail (p : Str) : Str := Txt.slice p (some (Txt.rfind p (Str.ofString "/") + 1)) none

theorem kind_spec {w : World} {dp un : Nat} {gd : Option (List Code)} {fr : Option (List Env)} {mg mb : Str → Option Value} {mean : ExcName → Option Value}
    {s : Shared} {Q E : Value → Shared → Prop} {x p : Str} {tx tp : Tok}
    (X : (hd.heap_39 w.params).In s.heap) (T : Top viewP (looseW viewP ["filterfalse"]) mean mg mb s.heap)
    (hdp : dp + 50 < recursionLimit)
    (ret : ∀ h' tk' t, Kept s.heap h' → Q (.str (Str.ofString "") t) { s with heap := h', toks := tk' }) :
    wpAny (model PySem.Challenge.rw_ij0079_01.row.prog w) { handled := none, depth := dp, frames := fr, guards := gd, units := un } (call (.ref 63) [.str x tx, .str p tp]) Q E s := by
  revert X
  k_fill
  intro X
  refine wpAny_call ?_
  refine' code_plain ?k3 ?k5 ?k6 ?k7 ?k8 ?k9 ?kB ?_ ?c2 ?c3 ?c4 ?c5
  case k3 => k_asm
  case k5 => k_asm
  case k6 => k_is
  case k7 => k_is
  case k8 => ktr_room
  case k9 => exact BindsTo.of_eq rfl
  case c5 => decide
  case kB => exact locs rfl
  case c2 => exact rfl
  case c3 => exact rfl
  case c4 => exact rfl
  intro L' h' tk0 F' N'
  dsimp only
  k_fold
  k_steps
  rename Fr _ _ _ _ => Fz
  exact ret _ _ _ Fz.keep

local macro_rules | `(tactic| walk_at "call ref") => `(tactic| (k_here; (with_unfolding_all refine' Mine.kind_spec ?k1 ?k2 ?k3 ?_; (case k1 => exact Frag.In.keeps (by k_asm) (Fr.keep (by k_asm))); (case k2 => exact Top.keeps (by k_asm) (Fr.keep (by k_asm))); (case k3 => ktr_room); k_whole); (rename Fr _ _ _ _ => Fy'); (rename News _ _ _ _ => Ny'); intro h' tk' t' kp'; (have F' := Fr.kept Fy' kp'); (have N' := News.kept Ny' kp'); clear Fy' Ny'; try dsimp only))

theorem fspath_spec {w : World} {dp un : Nat} {gd : Option (List Code)} {fr : Option (List Env)} {mg mb : Str → Option Value} {mean : ExcName → Option Value}
    {s : Shared} {Q E : Value → Shared → Prop} {x p : Str} {tx tp : Tok}
    (X : (hd.heap_39 w.params).In s.heap) (T : Top viewP (looseW viewP ["filterfalse"]) mean mg mb s.heap)
    (hdp : dp + 70 < recursionLimit)
    (ret : ∀ h' tk', Kept s.heap h' → Q (.str p tp) { s with heap := h', toks := tk' }) :
    wpAny (model PySem.Challenge.rw_ij0079_01.row.prog w) { handled := none, depth := dp, frames := fr, guards := gd, units := un } (call (.ref 70) [.str x tx, .str p tp]) Q E s := by
  revert X
  k_fill
  intro X
  refine wpAny_call ?_
  refine' code_plain ?k3 ?k5 ?k6 ?k7 ?k8 ?k9 ?kB ?_ ?c2 ?c3 ?c4 ?c5
  case k3 => k_asm
  case k5 => k_asm
  case k6 => k_is
  case k7 => k_is
  case k8 => ktr_room
  case k9 => exact BindsTo.of_eq rfl
  case c5 => decide
  case kB => exact locs rfl
  case c2 => exact rfl
  case c3 => exact rfl
  case c4 => exact rfl
  intro L' h' tk0 F' N'
  dsimp only
  k_fold
  k_steps
  rename Fr _ _ _ _ => Fz
  exact ret _ _ Fz.keep

local macro_rules | `(tactic| walk_at "call ref") => `(tactic| (k_here; (with_unfolding_all refine' Mine.fspath_spec ?k1 ?k2 ?k3 ?_; (case k1 => exact Frag.In.keeps (by k_asm) (Fr.keep (by k_asm))); (case k2 => exact Top.keeps (by k_asm) (Fr.keep (by k_asm))); (case k3 => ktr_room); k_whole); (rename Fr _ _ _ _ => Fy'); (rename News _ _ _ _ => Ny'); intro h' tk' kp'; (have F' := Fr.kept Fy' kp'); (have N' := News.kept Ny' kp'); clear Fy' Ny'; try dsimp only))

theorem split_spec {w : World} {dp un : Nat} {gd : Option (List Code)} {fr : Option (List Env)} {mg mb : Str → Option Value} {mean : ExcName → Option Value}
    {s : Shared} {Q E : Value → Shared → Prop} {p : Str} {tp : Tok}
    (X : (hd.heap_39 w.params).In s.heap) (T : Top viewP (looseW viewP ["filterfalse"]) mean mg mb s.heap)
    (hdp : dp + 100 < recursionLimit) (hun : un + 200 < cLine) (hp : p.length ≤ 100)
    (ret : ∀ r h' tk' t u, Kept s.heap h' → s.heap.get? r = none → h'.get? r = some (tupS (splitHead p) (splitTail p) t u) → Q (.ref r) { s with heap := h', toks := tk' }) :
    wpAny (model PySem.Challenge.rw_ij0079_01.row.prog w) { handled := none, depth := dp, frames := fr, guards := gd, units := un } (call (.ref 77) [.str p tp]) Q E s := by
  revert X
  k_fill
  intro X
  refine wpAny_call ?_
  refine' code_plain ?k3 ?k5 ?k6 ?k7 ?k8 ?k9 ?kB ?_ ?c2 ?c3 ?c4 ?c5
  case k3 => k_asm
  case k5 => k_asm
  case k6 => k_is
  case k7 => k_is
  case k8 => ktr_room
  case k9 => exact BindsTo.of_eq rfl
  case c5 => decide
  case kB => exact locs rfl
  case c2 => exact rfl
  case c3 => exact rfl
  case c4 => exact rfl
  intro L' h' tk0 F' N'
  dsimp only
  k_fold
  replace F' : Fr s.heap L' h' (fun y => List.lookup y [(Str.ofString "p", Value.str p tp)]) := F'
  k_steps
  · rename Fr _ _ _ _ => Fz
    rename News _ _ _ _ => Nz
    rename (((_ : Str) != _) = true) => hb
    rename (((Txt.slice p none _).length : Int) ≠ 0) => ha
    have e : splitHead p = Txt.rstripChars (splitCut p) (Str.ofString "/") := by
      unfold splitHead
      rw [if_neg (by unfold splitCut; omega)]
      exact if_pos hb
    rw [e] at ret
    have Nz' := Nz _ (List.mem_cons_self ..)
    exact ret _ _ _ _ _ Fz.keep Nz'.2.2 Nz'.1
  · rename Fr _ _ _ _ => Fz
    rename News _ _ _ _ => Nz
    rename (((_ : Str) != _) = false) => hb
    rename (((Txt.slice p none _).length : Int) ≠ 0) => ha
    have e : splitHead p = splitCut p := by
      unfold splitHead
      rw [if_neg (by unfold splitCut; omega), if_neg (by unfold splitCut; rw [hb]; exact Bool.false_ne_true)]
    rw [e] at ret
    have Nz' := Nz _ (List.mem_cons_self ..)
    exact ret _ _ _ _ _ Fz.keep Nz'.2.2 Nz'.1
  · rename Fr _ _ _ _ => Fz
    rename News _ _ _ _ => Nz
    rename (((Txt.slice p none _).length : Int) = 0) => ha
    have e : splitHead p = splitCut p := by
      unfold splitHead
      rw [if_pos (by unfold splitCut; omega)]
    rw [e] at ret
    have Nz' := Nz _ (List.mem_cons_self ..)
    exact ret _ _ _ _ _ Fz.keep Nz'.2.2 Nz'.1
end Mine
end

section
open PySem PySem.W PySem.Calls PyProof.Rows PySem.Spec PyProof
set_option maxRecDepth 100000
set_option maxHeartbeats 8000000
namespace Mine

/-- all that stood stands, but C -/
noncomputable def ButC (C : Addr) (h h' : Heap) : Prop := ∀ b o, b ≠ C → h.get? b = some o → h'.get? b = some o
theorem ButC.refl (C : Addr) (h : Heap) : ButC C h h := fun _ _ _ e => e
theorem ButC.trans {C : Addr} {h h' h'' : Heap} (x : ButC C h h') (y : ButC C h' h'') : ButC C h h'' := fun b o n e => y b o n (x b o n e)
theorem Kept.butC {C : Addr} {h h' : Heap} (x : Kept h h') : ButC C h h' := fun b o _ e => x b o e

/-- what a piece of the frame's own work does: it moves the heap and the tokens alone -/
noncomputable def Work (hb : Heap) (C : Addr) (s : Shared) (G : (Str → Option Value) → Prop) (s' : Shared) : Prop :=
  ∃ h' tk m', s' = { s with heap := h', toks := tk } ∧ Fr hb C h' m' ∧ ButC C s.heap h' ∧ G m'

noncomputable def Roomy (A : Around) : Prop := A.handled = none ∧ A.depth + 120 < recursionLimit ∧ A.units + 300 < cLine

/-- a generator whose body is: s1; while test: yield e; s2 -/
structure GenWork (prog : Program) (w : World) (env : Env) (s1 s2 : Stmt) (test e : Expr) (hb : Heap) (C : Addr) (m₀ : Str → Option Value) (Jm : Str → (Str → Option Value) → Prop) (Anc : Str → List Str → Prop) (p : Str) : Prop where
  one : ∀ (A : Around) (s : Shared), Roomy A → Fr hb C s.heap m₀ → wpAny (model prog w) A (exec s1 env) (fun f s' => f = .next ∧ Work hb C s (Jm p) s') (fun _ _ => False) s
  test : ∀ (A : Around) (s : Shared) (m : Str → Option Value) (q : Str) (ps : List Str), Roomy A → Anc q ps → Fr hb C s.heap m → Jm q m →
    wpAny (model prog w) A (isTrue test env (eval test env)) (fun b s' => b = !ps.isEmpty ∧ Work hb C s (Jm q) s') (fun _ _ => False) s
  out : ∀ (A : Around) (s : Shared) (m : Str → Option Value) (q : Str), Roomy A → Fr hb C s.heap m → Jm q m →
    wpAny (model prog w) A (eval e env) (fun v s' => (∃ t, v = .str q t) ∧ Work hb C s (Jm q) s') (fun _ _ => False) s
  two : ∀ (A : Around) (s : Shared) (m : Str → Option Value) (q q' : Str) (ps : List Str), Roomy A → Anc q (q :: ps) → Anc q' ps → (∀ r, Anc q (q :: r) → r = ps) → Fr hb C s.heap m → Jm q m →
    wpAny (model prog w) A (exec s2 env) (fun f s' => f = .next ∧ ∃ q'', Anc q'' ps ∧ Work hb C s (Jm q'') s') (fun _ _ => False) s
  head : ∀ q p' ps, Anc q (p' :: ps) → p' = q ∧ ∃ q', Anc q' ps
  only : ∀ q r r', Anc q r → Anc q r' → r = r'
  room : True

noncomputable def Since (C : Addr) (s₀ s : Shared) : Prop := ∃ h' tk, s = { s₀ with heap := h', toks := tk } ∧ ButC C s₀.heap h'
theorem Since.refl (C : Addr) (s : Shared) : Since C s s := ⟨s.heap, s.toks, rfl, .refl _ _⟩
theorem Since.work {hb : Heap} {C : Addr} {s₀ s s' : Shared} {G : (Str → Option Value) → Prop} (x : Since C s₀ s) (y : Work hb C s G s') : Since C s₀ s' := by
  obtain ⟨h₁, tk₁, rfl, k₁⟩ := x
  obtain ⟨h₂, tk₂, m₂, rfl, _, k₂, _⟩ := y
  exact ⟨h₂, tk₂, rfl, k₁.trans k₂⟩

/-- what a yield hands out: the text at place len - 1 - m of ps -/
noncomputable def ancProto (hb : Heap) (C : Addr) (ps : List Str) : Protocol := fun m s₀ v s kap =>
  (∃ p t, ps[ps.length - 1 - m]? = some p ∧ v = .str p t) ∧ (Since C s₀ s ∧ (s.heap.get? C).isSome = true) ∧
    ∀ s'' : Shared, (∀ b o, (b = C ∨ (hb.get? b).isSome = true) → s.heap.get? b = some o → s''.heap.get? b = some o) → kap (.send .none) s''
noncomputable def ancEnd (C : Addr) : GenEnd := fun n s₀ r s₁ => r = .ok (.ret .none) ∧ (n = 0 ∧ Since C s₀ s₁)

section
variable {prog : Program} {w : World} {A : Around} {env : Env} {s1 s2 : Stmt} {test e : Expr} {ypos pos wpos : Pos} {hb : Heap} {C : Addr} {m₀ : Str → Option Value} {Jm : Str → (Str → Option Value) → Prop} {Anc : Str → List Str → Prop} {p : Str} {all : List Str}

theorem Fr.again {m : Str → Option Value} {h h' : Heap} (F : Fr hb C h m) (k : ∀ b o, (b = C ∨ (hb.get? b).isSome = true) → h.get? b = some o → h'.get? b = some o) : Fr hb C h' m :=
  ⟨let ⟨o, a, b, c, d⟩ := F.ns; ⟨o, a, b, k _ _ (.inl rfl) c, d⟩, fun b o q => k b o (.inr (by rw [q]; rfl)) (F.keep b o q), F.above⟩

noncomputable abbrev genBody (s1 s2 : Stmt) (test e : Expr) (ypos pos wpos : Pos) : List Stmt := [s1, .While test [.Expr (.Yield (some e) ypos) pos, s2] [] wpos]

theorem Roomy.over {c : Code} {fs : List Frame} (R : A.handled = none ∧ A.depth + 130 < recursionLimit ∧ A.units + 320 < cLine) (h1 : (marksOver fs (none, none)).1 = none) (h2 : frameCount (fs.map Frame.where_) + c.weight ≤ 10)
    (h3 : unitsOf (fs.map Frame.where_) + c.cUnits ≤ 20) : Roomy (A.over c fs) := by
  obtain ⟨a, b, d⟩ := R
  refine ⟨by show (marksOver fs (A.handled, A.handled)).1 = none; rw [a]; exact h1, ?_, ?_⟩
  · show A.depth + frameCount (fs.map Frame.where_) + c.weight + 120 < recursionLimit; omega
  · show A.units + unitsOf (fs.map Frame.where_) + c.cUnits + 300 < cLine; omega

theorem seg_anc_loop (W : GenWork prog w env s1 s2 test e hb C m₀ Jm Anc p) (hA : A.handled = none ∧ A.depth + 130 < recursionLimit ∧ A.units + 320 < cLine)
    (hco : env.scope.isCoroutine = false) (hi : interactive env = false) (hcf : (Code.func (genBody s1 s2 test e ypos pos wpos) env).isFrame = true)
    {kk : Result → Sem Fin} (hkk : kk (.ok .next) = .pure (.done (.ret .none))) (pp : Pos) :
    ∀ (ps : List Str) (q : Str) (s₀ s : Shared) (m : Str → Option Value), Anc q ps → (∃ pre, all = pre ++ ps) → Fr hb C s.heap m → Jm q m → Since C s₀ s →
      Seg (model prog w) A (ancEnd C) (ancProto hb C all) ps.length s₀ (.whileLoop test [.Expr (.Yield (some e) ypos) pos, s2] [] env) ((model prog w).den (.whileLoop test [.Expr (.Yield (some e) ypos) pos, s2] [] env))
        [.ret kk none false [] (.func (genBody s1 s2 test e ypos pos wpos) env) pp []] s := by
  have hR : Roomy (A.over (.whileLoop test [.Expr (.Yield (some e) ypos) pos, s2] [] env) [.ret kk none false [] (.func (genBody s1 s2 test e ypos pos wpos) env) pp []]) :=
    Roomy.over hA rfl (Nat.le_of_ble_eq_true rfl) (Nat.le_of_ble_eq_true rfl)
  intro ps
  induction ps with
  | nil =>
    intro q s₀ s m ha hpre F hJ hs
    refine seg_whileLoop (wpAny_mono (W.test _ s m q [] hR ha F hJ) (fun b s' h' => ?_) fun _ _ x => x.elim)
    obtain ⟨rfl, hw⟩ := h'
    rw [if_neg (by simp)]
    refine seg_execs_nil ?_
    refine seg_leaf (.ok .next) ?_
    rw [hkk]
    exact seg_end (.ok (.ret .none)) ⟨rfl, rfl, hs.work hw⟩
  | cons p' ps ih =>
    intro q s₀ s m ha hpre F hJ hs
    obtain ⟨rfl, q', hq'⟩ := W.head q p' ps ha
    obtain ⟨pre, hpre⟩ := hpre
    refine seg_whileLoop (wpAny_mono (W.test _ s m p' (p' :: ps) hR ha F hJ) (fun b s₁ h₁ => ?_) fun _ _ x => x.elim)
    obtain ⟨rfl, hw⟩ := h₁
    rw [if_pos (by simp)]
    have hs₁ := hs.work hw
    obtain ⟨h₁, tk₁, m₁, rfl, F₁, k₁, J₁⟩ := hw
    refine seg_execs_cons (seg_Expr_Yield rfl rfl rfl (wpAny_mono (W.out _ _ m₁ p' hR F₁ J₁) (fun v s₂ h₂ kap hkap => ?_) fun _ _ x => x.elim) hco hi)
    obtain ⟨⟨t, rfl⟩, hw₂⟩ := h₂
    have hs₂ := hs₁.work hw₂
    have hCs : (s₂.heap.get? C).isSome = true := by
      obtain ⟨h₂, tk₂, m₂, rfl, F₂, _, _⟩ := id hw₂
      obtain ⟨oC, _, _, hoC, _⟩ := F₂.ns
      show (h₂.get? C).isSome = true
      rw [hoC]; rfl
    refine ⟨⟨p', t, ?_, rfl⟩, ⟨hs₂, hCs⟩, fun s'' hal => hkap _ _ ?_⟩
    · subst hpre
      rw [List.length_append, List.length_cons]
      have : pre.length + (ps.length + 1) - 1 - ps.length = pre.length := by omega
      rw [this, List.getElem?_append_right (Nat.le_refl _), Nat.sub_self]; rfl
    · obtain ⟨h₂, tk₂, m₂, rfl, F₂, k₂, J₂⟩ := hw₂
      have F₃ : Fr hb C s''.heap m₂ := Fr.again F₂ hal
      show Seg _ A _ _ ps.length s'' _ _ _ s''
      refine seg_execs_cons (seg_wrap (wpAny_mono (W.two _ s'' m₂ p' q' ps hR ha hq' (fun r hr => by have := W.only _ _ _ hr ha; simpa using this) F₃ J₂) (fun f s₃ h₃ => ?_) fun _ _ x => x.elim))
      obtain ⟨rfl, q'', hq'', hw₃⟩ := h₃
      have hs₃ := (Since.refl C s'').work hw₃
      obtain ⟨h₃, tk₃, m₃, rfl, F₄, k₃, J₃⟩ := hw₃
      refine seg_execs_nil ?_
      exact seg_again rfl (ih q'' s'' _ m₃ hq'' ⟨pre ++ [p'], by rw [hpre]; simp⟩ F₄ J₃ hs₃)
end
end Mine
end

section
open PySem PySem.W PySem.Calls PyProof.Rows PySem.Spec PyProof
set_option maxRecDepth 100000
set_option maxHeartbeats 8000000
namespace Mine

section
variable {prog : Program} {w : World} {A : Around} {env : Env} {s1 s2 : Stmt} {test e : Expr} {ypos pos wpos : Pos} {hb : Heap} {C : Addr} {m₀ : Str → Option Value} {Jm : Str → (Str → Option Value) → Prop} {Anc : Str → List Str → Prop} {p : Str} {all : List Str}

theorem seg_anc_start (W : GenWork prog w env s1 s2 test e hb C m₀ Jm Anc p) (hA : A.handled = none ∧ A.depth + 130 < recursionLimit ∧ A.units + 320 < cLine)
    (hco : env.scope.isCoroutine = false) (hi : interactive env = false) (hcf : (Code.func (genBody s1 s2 test e ypos pos wpos) env).isFrame = true)
    {s₀ s : Shared} (ha : Anc p all) (F : Fr hb C s.heap m₀) (hs : Since C s₀ s) :
    Seg (model prog w) A (ancEnd C) (ancProto hb C all) all.length s₀ (.func (genBody s1 s2 test e ypos pos wpos) env) ((model prog w).den (.func (genBody s1 s2 test e ypos pos wpos) env)) [] s := by
  have hR : Roomy (A.over (.func (genBody s1 s2 test e ypos pos wpos) env) []) := Roomy.over hA rfl (Nat.le_of_ble_eq_true rfl) (Nat.le_of_ble_eq_true rfl)
  refine seg_func ?_
  refine seg_execs_cons (seg_wrap (wpAny_mono (W.one _ s hR F) (fun f s₁ h₁ => ?_) fun _ _ x => x.elim))
  obtain ⟨rfl, hw⟩ := h₁
  have hs₁ := hs.work hw
  obtain ⟨h₁, tk₁, m₁, rfl, F₁, k₁, J₁⟩ := hw
  refine seg_execs_cons (seg_While fun pp => ?_)
  exact seg_anc_loop W hA hco hi hcf (by rfl) pp all p s₀ _ m₁ ha ⟨[], rfl⟩ F₁ J₁ hs₁

/-- what a generator is run under, however it is reached -/
noncomputable def agen : Around := { handled := none, depth := 800, frames := none, guards := none, units := 5000 }
noncomputable def Light (A : Around) : Prop := A.handled = none ∧ A.depth ≤ 800 ∧ A.units ≤ 5000
theorem light_in {A : Around} (h : Light A) {Γ : PySem.Ctx} (hΓ : Γ.In A) : Γ.In agen :=
  ⟨hΓ.1.trans h.1, Nat.le_trans hΓ.2.1 h.2.1, (fun l x => by cases x), (fun l x => by cases x), Nat.le_trans hΓ.2.2.2.2 h.2.2⟩
theorem wpAny_light {α : Type} {M : Model} {A : Around} (hA : Light A) {t : Sem α} {Q : α → Shared → Prop} {E : Value → Shared → Prop} {s : Shared} (h : wpAny M agen t Q E s) : wpAny M A t Q E s :=
  fun Γ p hΓ => h Γ p (light_in hA hΓ)

/-- the generator at a has i texts of all behind it -/
noncomputable def AncAt (prog : Program) (w : World) (hb : Heap) (C : Addr) (all : List Str) (a g : Nat) (i : Nat) (s : Shared) : Prop :=
  s.heap.IsGen a g ∧ (s.heap.get? C).isSome = true ∧ (∀ b o, hb.get? b = some o → s.heap.get? b = some o) ∧ ∃ gs, s.gens[g]? = some gs ∧
    ∀ s'' : Shared, (∀ b o, (b = C ∨ (hb.get? b).isSome = true) → s.heap.get? b = some o → s''.heap.get? b = some o) →
      gs.Goes (model prog w) agen (ancEnd C) (ancProto hb C all) (all.length - i) (.send .none) s''

theorem AncAt.fresh (W : GenWork prog w env s1 s2 test e hb C m₀ Jm Anc p) (hco : env.scope.isCoroutine = false) (hi : interactive env = false) (hcf : (Code.func (genBody s1 s2 test e ypos pos wpos) env).isFrame = true)
    {s : Shared} {a g : Nat} (ha : Anc p all) (F : Fr hb C s.heap m₀) (hg : s.heap.IsGen a g) (hgs : s.gens[g]? = some (.fresh (.func (genBody s1 s2 test e ypos pos wpos) env))) : AncAt prog w hb C all a g 0 s :=
  ⟨hg, (by obtain ⟨oC, _, _, hoC, _⟩ := F.ns; rw [hoC]; rfl), F.keep, _, hgs, fun s'' hal => ⟨rfl, seg_anc_start W ⟨rfl, Nat.le_of_ble_eq_true rfl, Nat.le_of_ble_eq_true rfl⟩ hco hi hcf ha (Fr.again F hal) (Since.refl C s'')⟩⟩

theorem call_gen_next {Y : Protocol} {n : Nat} {E : Value → Shared → Prop} {Q : Value → Shared → Prop} {s : Shared} {a g : Nat} {gs : GenState} (hA : Light A.in1)
    (hl : s.heap.NoLimit) (hg : s.heap.IsGen a g) (hgs : s.gens[g]? = some gs)
    (hgo : gs.Goes (model prog w) agen (ancEnd C) Y n (.send .none) (s.setGen g .running))
    (hY : ∀ v s₁ gs', gs'.bare = true → Y (n - 1) (s.setGen g .running) v s₁ (fun r' s'' => match n with
        | 0 => False
        | m + 1 => gs'.Goes (model prog w) agen (ancEnd C) Y m r' s'') → Q v (s₁.setGen g gs'))
    (hP : ∀ s₁, n = 0 → Since C (s.setGen g .running) s₁ → ∀ h' ex, Heap.NewExc s₁.heap h' ex "StopIteration" → E (.ref ex) { s₁.setGen g .finished with heap := h' }) :
    wpAny (model prog w) A (call (.builtin "generator.__next__") [.ref a]) Q E s := by
  refine wpAny_call_entry slot_gen_next hg.typeIs entry_gen_next ?_ (args_gen_next _)
  refine wpAny_light hA ?_
  show wpAny _ _ (Builtin.Generator.genWake (.ref a) (.send .none)) _ _ s
  unfold Builtin.Generator.genWake
  refine wpAny_bind (wpAny_holding (wpAny_genNumber hg (wpAny_bind (wpAny_genState hgs ?_))))
  cases gs with
  | running => exact hgo.elim
  | finished => exact hgo.elim
  | _ =>
    refine wpAny_bind (wpAny_roomToWake hl (show agen.depth < recursionLimit from Nat.le_of_ble_eq_true rfl) ?_)
    show wpAny _ _ (.resume g (.send .none) [] _) _ _ s
    refine wpAny_resumeQ hgs hgo (fun x s₁ hx => ?_) (fun v s₁ gs' hb hv => ?_)
    · obtain ⟨rfl, hn, hp⟩ := hx
      show wpAny _ _ (newExc (.type "StopIteration") [] >>= _) _ _ _
      refine wpAny_bind ?_
      simp only [newExc, newTuple]
      refine wpAny_bind (wpAny_newObj_type ?_ (by size_fits))
      refine wpAny_bind (m := firstArgMember _ _) (wpAny_of_eq (a := Value.none) (by first | rfl | (simp only [firstArgMember]; rfl)) ?_)
      refine wpAny_newObj_type ?_ (by size_fits)
      simp only [raiseNew]
      refine wpAny_bind (wpAny_bind (wpAny_handled ?_))
      rw [show agen.handled = none from rfl]
      refine wpAny_throw ?_
      refine hP s₁ hn hp _ _ ⟨fun b o hb => Heap.get?_push_of_some _ (Heap.get?_push_of_some _ hb), Heap.get?_none_of_le (by simp [Shared.setGen]), _, .ref s₁.heap.objs.size, Heap.get?_push_size _ rfl, rfl, ?_⟩
      rfl
    · exact wpAny_pure ⟨v, rfl, hY v s₁ gs' hb hv⟩

theorem AncAt.item {E : Value → Shared → Prop} {Q : Value → Shared → Prop} {s : Shared} {a g i : Nat} (hA : Light A.in1) (hl : hb.NoLimit) (haC : a ≠ C) (hCb : hb.get? C = none) (st : AncAt prog w hb C all a g i s) (hi : i < all.length)
    (hQ : ∀ p t s', all[i]? = some p → AncAt prog w hb C all a g (i + 1) s' → Moved [C] (GenOnlyQ g) s s' → Q (.str p t) s') :
    wpAny (model prog w) A (call (.builtin "generator.__next__") [.ref a]) Q E s := by
  obtain ⟨hg, hCs, hk, gs, hgs, hgo⟩ := st
  obtain ⟨m, hm⟩ : ∃ m, all.length - i = m + 1 := ⟨all.length - i - 1, by omega⟩
  rw [hm] at hgo
  refine wpAny_with_toks (Nat.le_refl s.toks) ?_
  refine call_gen_next hA (hl.keeps hk) hg hgs (hgo _ fun _ _ _ e => e) (fun v s₁ gs' hb' hv => ?_) (fun s₁ hn => absurd hn (Nat.succ_ne_zero m))
  obtain ⟨⟨p, t, hp, rfl⟩, ⟨⟨h₁, tk₁, rfl, hk₁⟩, hCs₁⟩, hkap⟩ := hv
  have hidx : all.length - 1 - (m + 1 - 1) = i := by omega
  rw [hidx] at hp
  intro htk
  have hC : ∀ b o, hb.get? b = some o → b ≠ C := fun b o e q => by rw [q, hCb] at e; cases e
  refine hQ p t _ hp ⟨let ⟨o, nm, qn, ho, r⟩ := hg; ⟨o, nm, qn, hk₁ a o haC ho, r⟩, hCs₁, fun b o e => hk₁ b o (hC b o e) (hk b o e), gs', setGen_self (gs := .running) (setGen_self hgs), fun s'' hal => ?_⟩
    ⟨fun b o hb' e => hk₁ b o (fun h => hb' (h ▸ List.mem_cons_self ..)) e, GenOnlyQ.of ((GenOnly.setGen s g .running).trans (GenOnly.setGen _ g gs')) (setGen_self (gs := .running) (setGen_self hgs)) hb', rfl, rfl, htk⟩
  have e : all.length - (i + 1) = m := by omega
  rw [e]
  exact hkap s'' hal

theorem AncAt.done {E : Value → Shared → Prop} {Q : Value → Shared → Prop} {s : Shared} {a g : Nat} (hA : Light A.in1) (hl : hb.NoLimit) (st : AncAt prog w hb C all a g all.length s)
    (hE : ∀ ex s' s'', Moved [C] (GenOnlyQ g) s s' → Heap.NewExc s'.heap s''.heap ex "StopIteration" → s'' = { s' with heap := s''.heap } → E (.ref ex) s'') :
    wpAny (model prog w) A (call (.builtin "generator.__next__") [.ref a]) Q E s := by
  obtain ⟨hg, hCs, hk, gs, hgs, hgo⟩ := st
  rw [Nat.sub_self] at hgo
  refine wpAny_with_toks (Nat.le_refl s.toks) ?_
  refine call_gen_next hA (hl.keeps hk) hg hgs (hgo _ fun _ _ _ e => e) (fun v s₁ gs' hb' hv => ?_) (fun s₁ _ hp h' ex hx => ?_)
  · obtain ⟨_, _, hkap⟩ := hv
    exact False.elim (hkap s₁ fun _ _ _ e => e)
  · obtain ⟨h₁, tk₁, rfl, hk₁⟩ := hp
    intro htk
    refine hE ex ({ (s.setGen g .running) with heap := h₁, toks := tk₁ }.setGen g .finished) _ ⟨fun b o hb' e => hk₁ b o (fun h => hb' (h ▸ List.mem_cons_self ..)) e, ?_, rfl, rfl, htk⟩ hx rfl
    exact GenOnlyQ.of ((GenOnly.setGen s g .running).trans (GenOnly.setGen _ g .finished)) (setGen_self (gs := .running) (setGen_self hgs)) rfl
end
end Mine
end

section
open PySem PySem.W PySem.Calls PyProof.Rows PySem.Spec PyProof
set_option maxRecDepth 100000
set_option maxHeartbeats 8000000
namespace Mine
section
variable {prog : Program} {w : World} {A : Around} {E : Value → Shared → Prop} {s : Shared}
theorem all_news {hb h : Heap} {C : Addr} {m : Str → Option Value} (F : Fr hb C h m) : ∃ news, News hb C h news ∧ ∀ h' m', Fr hb C h' m' → News hb C h' news → ButC C h h' := by
  refine ⟨(List.range h.objs.size).filterMap (fun b => if b = C ∨ (hb.get? b).isSome = true then none else (h.get? b).map fun o => (b, o)), fun p hp => ?_, fun h' m' F' N' b o hne e => ?_⟩
  · obtain ⟨b, _, hb'⟩ := List.mem_filterMap.mp hp
    split at hb'
    · cases hb'
    · rename_i hn
      cases q : h.get? b with
      | none => rw [q] at hb'; cases hb'
      | some o =>
        rw [q] at hb'
        cases hb'
        refine ⟨q, fun e => hn (.inl e), ?_⟩
        cases r : hb.get? b with
        | none => rfl
        | some o' => exact absurd (.inr (by rw [r]; rfl)) hn
  · cases r : hb.get? b with
    | some o' =>
      have e1 := F.keep b o' r
      rw [e] at e1
      cases e1
      exact F'.keep b _ r
    | none =>
      refine (N' (b, o) (List.mem_filterMap.mpr ⟨b, List.mem_range.mpr (Heap.lt_size e), ?_⟩)).1
      rw [if_neg (by rintro (h9 | h9); exact hne h9; rw [r] at h9; cases h9), e]
      rfl
theorem gen_plain {K : Frag} {R : Result → Shared → Prop} {name qual : Str} {params : Arguments} {body : List Stmt} {scope : Scope} {dV kV doc pm cdv ct oc : Value} {an od : Option Addr} {osl : Array (Option Value)} {f : Addr} {args : Args} {binds : List (Str × Value)}
    (X₀ : K.In s.heap) (hlim : s.heap.NoLimit)
    (ho : K.lookup f = some ⟨oc, od, .func (fnOf name qual params body scope dV kV doc pm an cdv ct), osl⟩) (hcd : codeIn K cdv qual = true) (hroom : A.depth < recursionLimit)
    (hbind : BindsTo s (fnOf name qual params body scope dV kV doc pm an cdv ct) args binds) (hloc : ∀ y ∈ binds, scope.names.lookup y.1 = some .local)
    (h : ∀ C a h₂ tk, s.heap.objs.size ≤ C → s.heap.get? C = none → s.heap.get? a = none → a ≠ C → Kept s.heap h₂ → h₂.Ns C (fun y => binds.reverse.lookup y) → h₂.IsGen a s.gens.size → a < h₂.objs.size → C < h₂.objs.size →
      R (.ok (.ret (.ref a))) { s with gens := s.gens.push (.fresh (.func body (envOf qual scope C f cdv))), toks := tk, heap := h₂ })
    (hco : scope.isCoroutine = false) (hgen : scope.isGenerator = true) (hk : scope.kind = .function)
    (hcell : ∀ x ∈ scope.names, x.2 ≠ .cell) : codeAny (model prog w) A (.call (.ref f) args) R s := by
  refine codeAny_call_generator (fd := fnOf name qual params body scope dV kV doc pm an cdv ct) (body := body) hroom (X₀ _ _ ho) rfl hco hgen rfl (codeRec_of X₀ hcd) (hbind _ _ _ _ ?_)
  refine wpAny_newFunctionEnv hcell hloc (fun h₀ hns₀ hsb₀ => ⟨hlim.fresh _ hsb₀, ?_⟩) hk
  have k₀ : Kept s.heap h₀ := fun b o e => hsb₀.extBut b o (Nat.ne_of_lt (Heap.lt_size e)) (Heap.get?_push_of_some _ e)
  have hz : h₀.objs.size = s.heap.objs.size + 1 := by rw [hsb₀.1, Heap.size_push]
  refine h s.heap.objs.size h₀.objs.size _ _ (Nat.le_refl _) (Heap.get?_none_of_le (Nat.le_refl _)) (Heap.get?_none_of_le (by rw [hz]; exact Nat.le_succ _)) (by rw [hz]; exact Nat.succ_ne_self _) (fun b o e => Heap.get?_push_of_some _ (k₀ b o e)) (hns₀.push _)
    ⟨_, _, _, Heap.get?_push_size _ rfl, rfl, rfl, rfl⟩ (by rw [Heap.size_push]; exact Nat.lt_succ_self _) (by rw [Heap.size_push, hz]; omega)
end
end Mine
end

section
open PySem PySem.W PySem.Calls PyProof.Rows PySem.Spec PyProof
set_option maxRecDepth 100000
set_option maxHeartbeats 8000000
namespace Mine
theorem switch_G2 : True := by
  w_top off
  trivial
local macro_rules | `(tactic| k_room) => `(tactic| ktr_room)
local macro_rules | `(tactic| k_units) => `(tactic| ktr_units)
local macro_rules | `(tactic| walk_at "binaryOp Add int int") => `(tactic| (refine Mine.add_int' ?_; intro _ _; try dsimp only))
local macro_rules | `(tactic| walk_at "eval Constant int") => `(tactic| (refine Mine.const_int' ?_; intro _ _; try dsimp only))
local macro_rules | `(tactic| walk_at "storeName") => `(tactic| (k_here; (with_unfolding_all refine' Mine.stN' ?k1 ?k2 ?_ ?k3 ?k4; (case k1 => k_asm); (case k2 => k_asm); (case k3 => exact rfl); (case k4 => exact rfl); k_whole); intro h' tk' F' N'; (try k_sweep); try dsimp only))
local macro_rules | `(tactic| walk_at "call ref") => `(tactic| (k_here; (with_unfolding_all refine' Mine.split_spec ?k1 ?k2 ?k3 ?k4 ?k5 ?_; (case k1 => exact Frag.In.keeps (by k_asm) (Fr.keep (by k_asm))); (case k2 => exact Top.keeps (by k_asm) (Fr.keep (by k_asm))); (case k3 => ktr_room); (case k4 => ktr_units); (case k5 => assumption); k_whole); (rename Fr _ _ _ _ => Fy'); (rename News _ _ _ _ => Ny'); intro r' h' tk' t' u' kp' no' hr'; (have F' := Fr.kept Fy' kp'); (have N' := News.cons Fy' Ny' kp' hr' no'); clear Fy' Ny'; try dsimp only))

inductive AncOf : Str → List Str → Prop where
  | nil {q : Str} : q.length ≤ 100 → (Txt.rstripChars q (Str.ofString "/")).length = 0 → AncOf q []
  | cons {q : Str} {ps : List Str} : q.length ≤ 100 → (Txt.rstripChars q (Str.ofString "/")).length ≠ 0 → AncOf (splitHead q) ps → AncOf q (q :: ps)

theorem ancestry_spec {w : World} {dp un : Nat} {gd : Option (List Code)} {fr : Option (List Env)} {mg mb : Str → Option Value} {mean : ExcName → Option Value}
    {s : Shared} {hb : Heap} {Q E : Value → Shared → Prop} {p0 : Str} {t0 : Tok} {all : List Str}
    (X : (hd.heap_39 w.params).In hb) (T : Top viewP (looseW viewP ["filterfalse"]) mean mg mb hb) (kb : Kept hb s.heap) (hsz : hb.objs.size ≤ s.heap.objs.size)
    (hdp : dp + 100 < recursionLimit) (hp0 : p0.length ≤ 100) (ha : AncOf (Txt.rstripChars p0 (Str.ofString "/")) all)
    (ret : ∀ a C h' tk' x, s.heap.get? a = none → s.heap.get? C = none → a ≠ C → hb.objs.size ≤ C → Kept s.heap h' → a < h'.objs.size → C < h'.objs.size → x.bare = true →
      AncAt PySem.Challenge.rw_ij0079_01.row.prog w hb C all a s.gens.size 0 { s with heap := h', toks := tk', gens := s.gens.push x } → Q (.ref a) { s with heap := h', toks := tk', gens := s.gens.push x }) :
    wpAny (model PySem.Challenge.rw_ij0079_01.row.prog w) { handled := none, depth := dp, frames := fr, guards := gd, units := un } (call (.ref 84) [.str p0 t0]) Q E s := by
  revert X
  k_fill
  intro X
  refine wpAny_call ?_
  refine' gen_plain ?k3 ?k5 ?k6 ?k7 ?k8 ?k9 ?kB ?_ ?c2 ?c3 ?c4 ?c5
  case k3 => exact Frag.In.keeps X kb
  case k5 => exact (Top.nolimit T).keeps kb
  case k6 => k_is
  case k7 => k_is
  case k8 => ktr_room
  case k9 => exact BindsTo.of_eq rfl
  case c5 => decide
  case kB => exact locs rfl
  case c2 => exact rfl
  case c3 => exact rfl
  case c4 => exact rfl
  intro C a h₂ tk hC hCn han haC k₂ hns hgen ha2 hC2
  have F : Fr hb C h₂ (fun y => List.lookup y [(Str.ofString "path", Value.str p0 t0)]) := ⟨hns, fun b o e => k₂ b o (kb b o e), Nat.le_trans hsz hC⟩
  refine ret a C _ _ _ han hCn haC (Nat.le_trans hsz hC) k₂ ha2 hC2 rfl ?_
  refine AncAt.fresh (Jm := fun q m => (∃ t, m (Str.ofString "path") = some (.str q t)) ∧ Off [Str.ofString "path", Str.ofString "tail"] (fun y => List.lookup y [(Str.ofString "path", Value.str p0 t0)]) m) (Anc := AncOf) (p := Txt.rstripChars p0 (Str.ofString "/"))
    (m₀ := fun y => List.lookup y [(Str.ofString "path", Value.str p0 t0)]) ?_ rfl rfl rfl ha F hgen (Array.getElem?_push_size ..)
  refine ⟨?_, ?_, ?_, ?_, ?_, ?_, trivial⟩
  · rintro ⟨hdl, dp', fr', gd', un'⟩ s' ⟨rfl, hR1, hR2⟩ F'
    obtain ⟨news, N', hall⟩ := all_news F'
    dsimp only at hR1 hR2
    k_steps
    all_goals (try exact True.intro)
    rename Fr _ _ _ _ => Fz
    rename News _ _ _ _ => Nz
    refine ⟨_, _, _, rfl, Fz, hall _ _ Fz Nz, ⟨_, rfl⟩, ?_⟩
    intro x hx0
    simp only [List.contains_cons, List.contains_nil, Bool.or_false, Bool.or_eq_false_iff, beq_eq_false_iff_ne, ne_eq] at hx0
    simp [hx0]
  · rintro ⟨hdl, dp', fr', gd', un'⟩ s' m q ps ⟨rfl, hR1, hR2⟩ hq F' ⟨⟨t, hm⟩, hoff⟩
    obtain ⟨news, N', hall⟩ := all_news F'
    dsimp only at hR1 hR2
    have hql : q.length ≤ 100 := by cases hq <;> assumption
    rw [norm1 hoff hm] at F'
    clear F
    k_steps
    all_goals (try exact True.intro)
    · cases hq with
      | nil h1 h2 => simp [h2]
      | cons h1 h2 h3 =>
        have : ((Txt.rstripChars q (Str.ofString "/")).length : Int) ≠ 0 := by omega
        exact (bne_iff_ne.mpr this).trans rfl
    · rename Fr _ _ _ _ => Fz
      refine ⟨_, _, _, rfl, Fz, .refl _ _, ⟨_, rfl⟩, ?_⟩
      intro x hx0
      simp only [List.contains_cons, List.contains_nil, Bool.or_false, Bool.or_eq_false_iff, beq_eq_false_iff_ne, ne_eq] at hx0
      simp [hx0]
  · rintro ⟨hdl, dp', fr', gd', un'⟩ s' m q ⟨rfl, hR1, hR2⟩ F' ⟨⟨t, hm⟩, hoff⟩
    obtain ⟨news, N', hall⟩ := all_news F'
    dsimp only at hR1 hR2
    rw [norm1 hoff hm] at F'
    clear F
    k_steps
    all_goals (try exact True.intro)
    · rename Fr _ _ _ _ => Fz
      refine ⟨_, s'.toks, _, rfl, Fz, .refl _ _, ⟨_, rfl⟩, ?_⟩
      intro x hx0
      simp only [List.contains_cons, List.contains_nil, Bool.or_false, Bool.or_eq_false_iff, beq_eq_false_iff_ne, ne_eq] at hx0
      simp [hx0]
  · rintro ⟨hdl, dp', fr', gd', un'⟩ s' m q q' ps ⟨rfl, hR1, hR2⟩ hq hq' _ F' ⟨⟨t, hm⟩, hoff⟩
    obtain ⟨news, N', hall⟩ := all_news F'
    dsimp only at hR1 hR2
    have hql : q.length ≤ 100 := by cases hq <;> assumption
    rw [norm1 hoff hm] at F'
    clear F
    k_steps
    all_goals (try exact True.intro)
    rotate_right 1
    · exact splitHead q
    · cases hq with
      | cons h1 h2 h3 => exact h3
    · rename Fr _ _ _ _ => Fz
      rename News _ _ _ _ => Nz
      refine ⟨_, _, _, rfl, Fz, hall _ _ Fz (fun p hp => Nz p (List.mem_cons_of_mem _ hp)), ⟨_, rfl⟩, ?_⟩
      intro x hx0
      simp only [List.contains_cons, List.contains_nil, Bool.or_false, Bool.or_eq_false_iff, beq_eq_false_iff_ne, ne_eq] at hx0
      simp [hx0]
  · intro q p' ps h
    cases h with
    | cons h1 h2 h3 => exact ⟨rfl, _, h3⟩
  · intro q r r' h
    induction h generalizing r' with
    | nil h1 h2 =>
      intro h'
      cases h' with
      | nil _ _ => rfl
      | cons _ h3 _ => exact absurd h2 h3
    | cons h1 h2 h3 ih =>
      intro h'
      cases h' with
      | nil _ h4 => exact absurd h4 h2
      | cons _ _ h4 => rw [ih _ h4]
end Mine
end

section
open PySem PySem.W PySem.Calls PyProof.Rows PySem.Spec PyProof
set_option maxRecDepth 100000
set_option maxHeartbeats 8000000
namespace Mine

noncomputable abbrev GRel := Array GenState → Array GenState → Prop

section
variable {prog : Program} {w : World} {A : Around}

/-- the iterator at I, told by W, and what a turn of the block needs -/
structure CompWork (prog : Program) (w : World) (A : Around) (env : Env) (scope : Scope) (cl : List (Str × Addr)) (x : Str) (ifs : List Expr) (elt : Expr) (wr : List Addr) (GG G' : GRel) (P : Nat → Value → Prop) (St : Nat → Shared → Prop)
    (p : Nat → Bool) (F : List (Addr × Obj) → Nat → Value → Value → Prop) (s₂ : Shared) : Prop where
  tests : ∀ C i v s₃ m₃, s₂.heap.objs.size ≤ C → P i v → s₃.heap.Ns C m₃ → m₃ x = some v → Moved wr GG s₂ s₃ →
    wpAny (model prog w) A (forIn ifs true fun c r => if r = true then do let ok ← isTrue c (compEnvC scope cl C env) (eval c (compEnvC scope cl C env)); pure (ForInStep.yield ok) else pure (ForInStep.yield r))
      (fun ok s₄ => ok = p i ∧ Moved [] (fun a b => b = a) s₃ s₄) (fun _ _ => False) s₃
  elt : ∀ C i v s₃ m₃, s₂.heap.objs.size ≤ C → P i v → p i = true → s₃.heap.Ns C m₃ → m₃ x = some v → Moved wr GG s₂ s₃ →
    wpAny (model prog w) A (eval elt (compEnvC scope cl C env)) (fun y s₄ => Moved [] G' s₃ s₄ ∧ ∃ new, F new i v y ∧ ∀ q ∈ new, s₄.heap.get? q.1 = some q.2 ∧ s₃.heap.get? q.1 = none) (fun _ _ => False) s₃

/-- what the block hands on -/
noncomputable def CompOut (n : Nat) (P : Nat → Value → Prop) (p : Nat → Bool) (F : List (Addr × Obj) → Nat → Value → Value → Prop) (news : List (Addr × Obj)) (ys : List Value) : Prop :=
  ys.length = ((List.range n).filter p).length ∧ ∀ (j i : Nat) (y : Value), ((List.range n).filter p)[j]? = some i → ys[j]? = some y → ∃ v, P i v ∧ F news i v y

theorem mv_nil {wr : List Addr} {G : GRel} {s s' : Shared} (x : Moved [] G s s') : Moved wr G s s' := x.mono fun _ h => nomatch h
theorem mv_rel {wr : List Addr} {G G' : GRel} {s s' : Shared} (x : Moved wr G s s') (h : ∀ a b, G a b → G' a b) : Moved wr G' s s' := ⟨x.heap, h _ _ x.gens, x.drawn, x.os, x.toks⟩

theorem codeAny_compLoopS {elt iter : Expr} {x : Str} {px : Pos} {ifs : List Expr} {scope : Scope} {cl : List (Str × Addr)} {pos : Pos} {I D C : Addr} {fp wr : List Addr} {G G' GG : GRel} {n : Nat} {P : Nat → Value → Prop} {St : Nat → Shared → Prop}
    {env : Env} {p : Nat → Bool} {F : List (Addr × Obj) → Nat → Value → Value → Prop} {R : Result → Shared → Prop} {s₂ s : Shared} {m : Str → Option Value}
    (W : WalksS prog w A I fp wr G n P St) (hsz : n ≤ sizeLine)
    (hg : ∀ a b, G a b → GG a b) (hg' : ∀ a b, G' a b → GG a b) (hrefl : ∀ a, GG a a) (htr : ∀ a b c, GG a b → GG b c → GG a c)
    (hst' : ∀ i s gs, St i s → G' s.gens gs → St i { s with gens := gs }) (hwr : ∀ i s, St i s → ∀ b ∈ wr, (s.heap.get? b).isSome = true)
    (hdo : ∀ i s dr os, St i s → St i { s with drawn := dr, os := os })
    (hmono : ∀ a b i v y, (∀ q ∈ a, q ∈ b) → F a i v y → F b i v y)
    (hkind : scope.kind = .function) (hx : scope.names.lookup x = some .local) (hC2 : s₂.heap.objs.size ≤ C) (hD2 : s₂.heap.objs.size ≤ D) (hDC : D ≠ C) (hDf : D ∉ fp) (hCf : C ∉ fp)
    (hst : St 0 s) (hacc : s.heap.PlainList D #[]) (hn : s.heap.Ns C m) (hm₂ : Moved wr GG s₂ s)
    (hq : CompWork prog w A env scope cl x ifs elt wr GG G' P St p F s₂)
    (hR : ∀ s' m' ys news, s'.heap.Ns C m' → s'.heap.PlainList D ys.toArray → Moved wr GG s₂ s' → CompOut n P p F news ys → (∀ q ∈ news, s'.heap.get? q.1 = some q.2 ∧ q.1 ≠ C ∧ q.1 ≠ D ∧ s₂.heap.get? q.1 = none) → R (.ok .next) s') :
    codeAny (model prog w) A (.compLoop (.ListComp elt [⟨.Name x px, iter, ifs, 0⟩] scope pos) 0 (.ref I) (.ref D) (compEnvC scope cl C env)) R s := by
  have nC : ∀ b o, s₂.heap.get? b = some o → b ≠ C := fun b o e q => Nat.lt_irrefl _ (Nat.lt_of_lt_of_le (Heap.lt_size e) (q ▸ hC2))
  have nD : ∀ b o, s₂.heap.get? b = some o → b ≠ D := fun b o e q => Nat.lt_irrefl _ (Nat.lt_of_lt_of_le (Heap.lt_size e) (q ▸ hD2))
  have hCw : C ∉ wr := fun h => hCf (W.sub _ h)
  have hDw : D ∉ wr := fun h => hDf (W.sub _ h)
  have hpc : ((compEnvC scope cl C env).scope.kind == .class || ((compEnvC scope cl C env).scope.kind == .module && (compEnvC scope cl C env).locals != (compEnvC scope cl C env).globals)) = false := by simp [compEnvC, relabel, hkind]
  refine codeAny_compLoop_tests
    (fun k s' => ∃ i ys news m', St i s' ∧ s'.heap.PlainList D ys.toArray ∧ s'.heap.Ns C m' ∧ i ≤ n ∧ k = n + 1 - i ∧ Moved wr GG s₂ s' ∧ CompOut i P p F news ys ∧
      (∀ q ∈ news, s'.heap.get? q.1 = some q.2 ∧ q.1 ≠ C ∧ q.1 ≠ D ∧ q.1 ∉ wr ∧ s₂.heap.get? q.1 = none)) ?_ (n + 1)
    ⟨0, [], [], m, hst, hacc, hn, Nat.zero_le _, rfl, hm₂, ⟨rfl, fun j i y h => by simp at h⟩, fun q hq => nomatch hq⟩
  rintro k s' ⟨i, ys, news, m', hst0, hacc', hn', hi, rfl, hmv, hout, hnews⟩
  by_cases hlt : i < n
  · refine W.item i _ _ _ hlt hst0 fun v s₁ hP hst₁ hm₁ => ?_
    have hn₁ : s₁.heap.Ns C m' := hn'.at' fun o e => hm₁.heap _ o hCw e
    have hacc₁ : s₁.heap.PlainList D ys.toArray := hacc'.at fun o e => hm₁.heap _ o hDw e
    have hnews₁ : ∀ q ∈ news, s₁.heap.get? q.1 = some q.2 := fun q hq => hm₁.heap _ _ (hnews q hq).2.2.2.1 (hnews q hq).1
    have hmv₁ := hmv.trans htr (mv_rel hm₁ hg)
    refine wpAny_assign_Name (wpAny_storeName_local (env := compEnvC scope cl C env) (lookup_relabel_local hx) hn₁ (fun h₂ hn₂ hs₂ => ?_) hpc)
    have up₂ : ∀ b o, b ≠ C → s₁.heap.get? b = some o → h₂.get? b = some o := fun b o hbC e => hs₂.extBut b o hbC e
    have hst₂ : St (i + 1) { s₁ with heap := h₂, toks := s₁.toks + 1 } := W.frame _ _ _ _ hst₁ (Nat.le_succ _) fun b hb o e => up₂ b o (fun h => hCf (h ▸ hb)) e
    have hmv₂ : Moved wr GG s₂ { s₁ with heap := h₂, toks := s₁.toks + 1 } := ⟨fun b o hb e => up₂ b o (nC b o e) (hmv₁.heap b o hb e), hmv₁.gens, hmv₁.drawn, hmv₁.os, Nat.le_succ_of_le hmv₁.toks⟩
    refine wpAny_mono (hq.tests C i v _ _ hC2 hP hn₂ (by simp) hmv₂) (fun ok s₃ h₃ => ?_) fun _ _ x => x.elim
    obtain ⟨rfl, hm₃⟩ := h₃
    have hst₃ : St (i + 1) s₃ := by
      have h := W.frame (i + 1) _ s₃.heap s₃.toks hst₂ hm₃.toks fun b _ o e => hm₃.heap b o (fun h => nomatch h) e
      have h' := hdo (i + 1) _ s₃.drawn s₃.os h
      have e : s₃ = { ({ ({ s₁ with heap := h₂, toks := s₁.toks + 1 } : Shared) with heap := s₃.heap, toks := s₃.toks } : Shared) with drawn := s₃.drawn, os := s₃.os } := by
        have hge := hm₃.gens
        cases s₃
        simp only at hge ⊢
        rw [hge]
      rw [e]; exact h'
    have hk₃ : ∀ b o, h₂.get? b = some o → s₃.heap.get? b = some o := fun b o e => hm₃.heap b o (fun h => nomatch h) e
    have hmv₃ : Moved wr GG s₂ s₃ := hmv₂.trans htr ⟨fun b o _ e => hk₃ b o e, by rw [hm₃.gens]; exact hrefl _, hm₃.drawn, hm₃.os, hm₃.toks⟩
    have hn₃ := hn₂.at' fun o e => hk₃ _ o e
    have hacc₃ : s₃.heap.PlainList D ys.toArray := hacc₁.at fun o e => hk₃ _ o (up₂ D o hDC e)
    have hnews₃ : ∀ q ∈ news, s₃.heap.get? q.1 = some q.2 := fun q hq => hk₃ _ _ (up₂ _ _ (hnews q hq).2.1 (hnews₁ q hq))
    cases hpi : p i with
    | false =>
      simp only [Bool.false_eq_true, if_false]
      refine ⟨n + 1 - (i + 1), by omega, i + 1, ys, news, _, hst₃, hacc₃, hn₃, hlt, rfl, hmv₃, ?_, fun q hq => ⟨hnews₃ q hq, (hnews q hq).2⟩⟩
      have e : (List.range (i + 1)).filter p = (List.range i).filter p := by rw [List.range_succ, List.filter_append]; simp [hpi]
      unfold CompOut; rw [e]; exact hout
    | true =>
      simp only [if_true]
      refine wpAny_mono (hq.elt C i v _ _ hC2 hP hpi hn₃ (by simp) hmv₃) (fun y s₄ h₄ => ?_) fun _ _ x => x.elim
      obtain ⟨hm₄, new, hF, hnew⟩ := h₄
      have hk₄ : ∀ b o, s₃.heap.get? b = some o → s₄.heap.get? b = some o := fun b o e => hm₄.heap b o (fun h => nomatch h) e
      have hst₄ : St (i + 1) s₄ := by
        have h := W.frame (i + 1) _ s₄.heap s₄.toks hst₃ hm₄.toks fun b _ o e => hk₄ b o e
        have h' := hst' (i + 1) _ s₄.gens h hm₄.gens
        have h'' := hdo (i + 1) _ s₄.drawn s₄.os h'
        exact h''
      have hmv₄ : Moved wr GG s₂ s₄ := hmv₃.trans htr ⟨fun b o _ e => hk₄ b o e, hg' _ _ hm₄.gens, hm₄.drawn, hm₄.os, hm₄.toks⟩
      have hacc₄ : s₄.heap.PlainList D ys.toArray := hacc₃.at fun o e => hk₄ _ o e
      have hn₄ := hn₃.at' fun o e => hk₄ _ o e
      have hlen : ys.length ≤ i := by
        rw [hout.1]
        exact Nat.le_trans (List.length_filter_le _ _) (by simp)
      refine wpAny_list_append_plain (hsz := by rw [List.size_toArray]; omega) hacc₄ fun h₅ hl₅ hs₅ => ?_
      have hnewD : ∀ q ∈ new, q.1 ≠ C ∧ q.1 ≠ D ∧ q.1 ∉ wr ∧ s₂.heap.get? q.1 = none := fun q hq => by
        have hnone := (hnew q hq).2
        refine ⟨fun e => ?_, fun e => ?_, fun e => ?_, ?_⟩
        · obtain ⟨_, _, _, o, _⟩ := (show s₃.heap.Ns C _ from hn₃); rw [e, o] at hnone; cases hnone
        · obtain ⟨_, o⟩ := hacc₃; rw [e, o] at hnone; cases hnone
        · have := hwr _ _ hst₃ _ e; rw [hnone] at this; cases this
        · cases e : s₂.heap.get? q.1 with
          | none => rfl
          | some o =>
            by_cases hw : q.1 ∈ wr
            · have := hwr _ _ hst₃ _ hw; rw [hnone] at this; cases this
            · rw [hmv₃.heap _ _ hw e] at hnone; cases hnone
      refine ⟨n + 1 - (i + 1), by omega, i + 1, ys ++ [y], news ++ new, _, ?_, ?_, hn₄.sameBut hs₅ (Ne.symm hDC), hlt, rfl, ?_, ?_, fun q hq => ?_⟩
      · exact W.frame _ _ _ _ hst₄ (Nat.le_refl _) fun b hb o e => hs₅.extBut b o (fun h => hDf (h ▸ hb)) e
      · have e : (ys ++ [y]).toArray = ys.toArray.push y := by simp
        rw [e]; exact hl₅
      · exact ⟨fun b o hb e => hs₅.extBut b o (nD b o e) (hmv₄.heap b o hb e), hmv₄.gens, hmv₄.drawn, hmv₄.os, hmv₄.toks⟩
      · have e : (List.range (i + 1)).filter p = (List.range i).filter p ++ [i] := by rw [List.range_succ, List.filter_append]; simp [hpi]
        unfold CompOut
        rw [e]
        refine ⟨by rw [List.length_append, List.length_append, hout.1]; rfl, fun j i' y' hj hy => ?_⟩
        rcases Nat.lt_trichotomy j ys.length with h | h | h
        · rw [List.getElem?_append_left (by rw [← hout.1]; exact h)] at hj
          rw [List.getElem?_append_left h] at hy
          obtain ⟨v', hv', hf'⟩ := hout.2 j i' y' hj hy
          exact ⟨v', hv', hmono _ _ _ _ _ (fun q hq => List.mem_append_left _ hq) hf'⟩
        · subst h
          rw [List.getElem?_append_right (by rw [← hout.1]; exact Nat.le_refl _), ← hout.1, Nat.sub_self] at hj
          rw [List.getElem?_append_right (Nat.le_refl _), Nat.sub_self] at hy
          simp only [List.getElem?_cons_zero, Option.some.injEq] at hj hy
          subst hj hy
          exact ⟨v, hP, hmono _ _ _ _ _ (fun q hq => List.mem_append_right _ hq) hF⟩
        · have : (ys ++ [y])[j]? = none := List.getElem?_eq_none (by rw [List.length_append, List.length_singleton]; omega)
          rw [this] at hy; cases hy
      · rcases List.mem_append.mp hq with h | h
        · exact ⟨hs₅.extBut _ _ (hnews q h).2.2.1 (hk₄ _ _ (hnews₃ q h)), (hnews q h).2⟩
        · exact ⟨hs₅.extBut _ _ (hnewD q h).2.1 (hnew q h).1, hnewD q h⟩
  · have hin : i = n := by omega
    subst hin
    refine W.done _ _ _ hst0 fun s₁ hm₁ => ?_
    exact hR s₁ m' ys news (hn'.at' fun o e => hm₁.heap _ o hCw e) (hacc'.at fun o e => hm₁.heap _ o hDw e) (hmv.trans htr (mv_rel hm₁ hg)) hout fun q hq =>
      ⟨hm₁.heap _ _ (hnews q hq).2.2.2.1 (hnews q hq).1, (hnews q hq).2.1, (hnews q hq).2.2.1, (hnews q hq).2.2.2.2⟩
end
end Mine
end

section
open PySem PySem.W PySem.Calls PyProof.Rows PySem.Spec PyProof
set_option maxRecDepth 100000
set_option maxHeartbeats 8000000
namespace Mine

section
variable {prog : Program} {w : World} {A : Around} {E : Value → Shared → Prop} {s : Shared} {env : Env}

structure CompSide (G G' GG : GRel) (wr : List Addr) (St : Nat → Shared → Prop) (F : List (Addr × Obj) → Nat → Value → Value → Prop) : Prop where
  hg : ∀ a b, G a b → GG a b
  hg' : ∀ a b, G' a b → GG a b
  hrefl : ∀ a, GG a a
  htr : ∀ a b c, GG a b → GG b c → GG a c
  hst' : ∀ i s gs, St i s → G' s.gens gs → St i { s with gens := gs }
  hwr : ∀ i s, St i s → ∀ b ∈ wr, (s.heap.get? b).isSome = true
  hdo : ∀ i s dr os, St i s → St i { s with drawn := dr, os := os }
  hmono : ∀ a b i v y, (∀ q ∈ a, q ∈ b) → F a i v y → F b i v y

/-- what an iterator hands to a block, and what comes of it -/
noncomputable def CompGo (prog : Program) (w : World) (A : Around) (env : Env) (scope : Scope) (cl : List (Str × Addr)) (x : Str) (ifs : List Expr) (elt : Expr) (Q : Value → Shared → Prop) (it : Value) (s₂ : Shared) : Prop :=
  ∃ (I : Addr) (fp wr : List Addr) (G G' GG : GRel) (n : Nat) (P : Nat → Value → Prop) (St : Nat → Shared → Prop) (p : Nat → Bool) (F : List (Addr × Obj) → Nat → Value → Value → Prop),
    it = .ref I ∧ WalksS prog w A I fp wr G n P St ∧ n ≤ sizeLine ∧ CompSide G G' GG wr St F ∧ St 0 s₂ ∧ (∀ b ∈ fp, b < s₂.heap.objs.size) ∧ CompWork prog w A env scope cl x ifs elt wr GG G' P St p F s₂ ∧
    ∀ D k s' ys news, s₂.heap.get? D = none → s'.heap.get? D = some (listOf ys.toArray k) → Moved wr GG s₂ s' → CompOut n P p F news ys → (∀ q ∈ news, s'.heap.get? q.1 = some q.2 ∧ q.1 ≠ D ∧ s₂.heap.get? q.1 = none) → Q (.ref D) s'

theorem eval_listcomp {elt iter : Expr} {x : Str} {px : Pos} {ifs : List Expr} {scope : Scope} {cl : List (Str × Addr)} {pos : Pos} {Q : Value → Shared → Prop}
    (hclos : closureFor scope env = pure cl) (hcell : ∀ y ∈ scope.names, y.2 ≠ .cell) (hkind : scope.kind = .function)
    (hnames : ∀ y ∈ scope.names, y.2 = .local → scope.names.lookup y.1 = some .local) (hx : scope.names.lookup x = some .local)
    (h : wpAny (model prog w) A (eval iter env) (fun xv s₁ => wpAny (model prog w) A (pyIter xv) (CompGo prog w A env scope cl x ifs elt Q) E s₁) E s)
    (hs : ∀ x, foldedSetIterable iter env x = pure x := by intro _; rfl) :
    wpAny (model prog w) A (eval (.ListComp elt [⟨.Name x px, iter, ifs, 0⟩] scope pos) env) Q E s := by
  rw [eval_ListComp]
  refine wpAny_comprehension_free (use := none) rfl hs hclos hkind hnames (wpAny_mono h (fun xv s₁ h₁ => wpAny_mono h₁ (fun it s₂ h₂ => ?_) fun _ _ e => e) fun _ _ e => e)
  obtain ⟨I, fp, wr, G, G', GG, n, P, St, p, F, rfl, W, hsz, ⟨hg, hg', hrefl, htr, hst', hwr, hdo, hmono⟩, hst, hfp, hq, hQ⟩ := h₂
  refine wpAny_newObj_type (wpAny_newFunctionEnv hcell (by intro y hy; simp at hy) (fun h₁ hns₁ hsb₁ => ?_) hkind)
  dsimp only at hns₁ hsb₁ ⊢
  generalize hH2 : s₂.heap.push { cls := .type "list", dict := none, data := .seq ([] : List Value).toArray } = H2 at hns₁ hsb₁ ⊢
  have hC : H2.objs.size = s₂.heap.objs.size + 1 := by rw [← hH2, Heap.size_push]
  have hDC : s₂.heap.objs.size ≠ H2.objs.size := by rw [hC]; exact Nat.ne_of_lt (Nat.lt_succ_self _)
  have hCle : s₂.heap.objs.size ≤ H2.objs.size := by rw [hC]; exact Nat.le_succ _
  have below : ∀ b, b < s₂.heap.objs.size → b ≠ H2.objs.size ∧ b ≠ s₂.heap.objs.size := fun b hb => ⟨by rw [hC]; exact Nat.ne_of_lt (Nat.lt_succ_of_lt hb), Nat.ne_of_lt hb⟩
  have hDf : s₂.heap.objs.size ∉ fp := fun hm => Nat.lt_irrefl _ (hfp _ hm)
  have hCf : H2.objs.size ∉ fp := fun hm => by have := hfp _ hm; rw [hC] at this; exact Nat.lt_irrefl _ (Nat.lt_of_succ_lt this)
  have old : ∀ b o, s₂.heap.get? b = some o → h₁.get? b = some o := fun b o e => hsb₁.extBut b o (below b (Heap.lt_size e)).1 (Heap.get?_push_of_some _ (hH2 ▸ Heap.get?_push_of_some _ e))
  have hacc : h₁.PlainList s₂.heap.objs.size #[] := ⟨_, hsb₁.extBut _ _ hDC (Heap.get?_push_of_some _ (hH2 ▸ Heap.get?_push_size _ rfl))⟩
  have loop : ∀ s₃ : Shared, s₃ = { s₂ with heap := h₁, toks := s₂.toks + ([] : List (Str × Value)).length } → St 0 s₃ →
      codeAny (model prog w) A (.compLoop (.ListComp elt [⟨.Name x px, iter, ifs, 0⟩] scope pos) 0 (.ref I) (.ref s₂.heap.objs.size) (compEnvC scope cl H2.objs.size env))
        (compPost (model prog w) A E none Q (.ref s₂.heap.objs.size) H2.objs.size) s₃ := by
    rintro s₃ rfl hst₁
    refine codeAny_compLoopS (s₂ := s₂) W hsz hg hg' hrefl htr hst' hwr hdo hmono hkind hx hCle (Nat.le_refl _) hDC hDf hCf hst₁ hacc hns₁ ⟨fun b o _ e => old b o e, hrefl _, rfl, rfl, Nat.le_add_right _ _⟩ hq ?_
    intro s' m' ys news hn ha hmv hout hnews
    refine ⟨m', hn, fun h' hs' => ?_⟩
    obtain ⟨k, hk⟩ := ha
    have fresh : s₂.heap.get? s₂.heap.objs.size = none := Heap.get?_none_of_le (Nat.le_refl _)
    refine hQ _ k _ ys news fresh ?_ ?_ hout (fun q hq => ?_)
    · exact hs'.extBut _ _ hDC hk
    · exact ⟨fun b o hb e => hs'.extBut b o (below b (Heap.lt_size e)).1 (hmv.heap b o hb e), hmv.gens, hmv.drawn, hmv.os, hmv.toks⟩
    · exact ⟨hs'.extBut _ _ (hnews q hq).2.1 (hnews q hq).1, (hnews q hq).2.2⟩
  have hst₁ : St 0 { s₂ with heap := h₁, toks := s₂.toks + ([] : List (Str × Value)).length } := W.frame _ _ _ _ hst (Nat.le_add_right _ _) fun b _ o e => old b o e
  exact codeAny_compStart_list (loop _ rfl hst₁) (W.self 0 _ _ _ hst₁ (loop _ rfl hst₁))
end
end Mine
end

section
open PySem PySem.W PySem.Calls PyProof.Rows PySem.Spec PyProof
set_option maxRecDepth 100000
set_option maxHeartbeats 8000000
namespace Mine

section
variable {prog : Program} {w : World} {A : Around} {E : Value → Shared → Prop} {s : Shared} {env : Env}

/-- what an iterator hands to a block, and what comes of it when the block's list is stored at y in the same line -/
noncomputable def CompGoA (prog : Program) (w : World) (A : Around) (env : Env) (scope : Scope) (cl : List (Str × Addr)) (x y : Str) (ifs : List Expr) (elt : Expr) (Q : Flow → Shared → Prop) (it : Value) (s₂ : Shared) : Prop :=
  ∃ (I : Addr) (fp wr : List Addr) (G G' GG : GRel) (n : Nat) (P : Nat → Value → Prop) (St : Nat → Shared → Prop) (p : Nat → Bool) (F : List (Addr × Obj) → Nat → Value → Value → Prop) (m : Str → Option Value),
    it = .ref I ∧ WalksS prog w A I fp wr G n P St ∧ n ≤ sizeLine ∧ CompSide G G' GG wr St F ∧ St 0 s₂ ∧ (∀ b ∈ fp, b < s₂.heap.objs.size) ∧ CompWork prog w A env scope cl x ifs elt wr GG G' P St p F s₂ ∧
    env.locals ∉ wr ∧ s₂.heap.Ns env.locals m ∧
    ∀ D k s' ys news, s₂.heap.get? D = none → s'.heap.get? D = some (listOf ys.toArray k) → Moved (env.locals :: wr) GG s₂ s' → s'.heap.Ns env.locals (fun z => if z = y then some (.ref D) else m z) → CompOut n P p F news ys →
      (∀ q ∈ news, s'.heap.get? q.1 = some q.2 ∧ q.1 ≠ D ∧ s₂.heap.get? q.1 = none) → Q .next s'

theorem assign_listcomp {elt iter : Expr} {x y : Str} {px py : Pos} {ifs : List Expr} {scope : Scope} {cl : List (Str × Addr)} {pos spos : Pos} {Q : Flow → Shared → Prop}
    (hsw : swapsWith (.ListComp elt [⟨.Name x px, iter, ifs, 0⟩] scope pos) (some (.Name y py)) spos.line env = pure true)
    (hclos : closureFor scope env = pure cl) (hcell : ∀ y ∈ scope.names, y.2 ≠ .cell) (hkind : scope.kind = .function)
    (hnames : ∀ y ∈ scope.names, y.2 = .local → scope.names.lookup y.1 = some .local) (hx : scope.names.lookup x = some .local)
    (hy : env.kindOf y = some .local) (hp : (env.scope.kind == .class || (env.scope.kind == .module && env.locals != env.globals)) = false)
    (h : wpAny (model prog w) A (eval iter env) (fun xv s₁ => wpAny (model prog w) A (pyIter xv) (CompGoA prog w A env scope cl x y ifs elt Q) E s₁) E s)
    (hs : ∀ x, foldedSetIterable iter env x = pure x := by intro _; rfl) :
    wpAny (model prog w) A (exec (.Assign [.Name y py] (.ListComp elt [⟨.Name x px, iter, ifs, 0⟩] scope pos) spos) env) Q E s := by
  rw [exec_Assign_Name_used _ _ _ _ hsw]
  refine wpAny_bind (wpAny_standAt (wpAny_bind ?_))
  show wpAny _ A (do let _ ← comprehension (.ListComp elt [⟨.Name x px, iter, ifs, 0⟩] scope pos) scope env _ (newList []) false (eval iter env) (some (assign (.Name y py) env))) _ _ s
  refine wpAny_bind (wpAny_mono (wpAny_comprehension_free (use := some (assign (.Name y py) env)) (Q := fun _ s' => Q .next s') rfl hs hclos hkind hnames
    (wpAny_mono h (fun xv s₁ h₁ => wpAny_mono h₁ (fun it s₂ h₂ => ?_) fun _ _ e => e) fun _ _ e => e)) (fun _ s' hq => wpAny_pure (wpAny_pure hq)) fun _ _ e => e)
  obtain ⟨I, fp, wr, G, G', GG, n, P, St, p, F, m, rfl, W, hsz, ⟨hg, hg', hrefl, htr, hst', hwr, hdo, hmono⟩, hst, hfp, hq, hLw, hnL, hQ⟩ := h₂
  refine wpAny_newObj_type (wpAny_newFunctionEnv hcell (by intro y hy; simp at hy) (fun h₁ hns₁ hsb₁ => ?_) hkind)
  dsimp only at hns₁ hsb₁ ⊢
  generalize hH2 : s₂.heap.push { cls := .type "list", dict := none, data := .seq ([] : List Value).toArray } = H2 at hns₁ hsb₁ ⊢
  have hC : H2.objs.size = s₂.heap.objs.size + 1 := by rw [← hH2, Heap.size_push]
  have hDC : s₂.heap.objs.size ≠ H2.objs.size := by rw [hC]; exact Nat.ne_of_lt (Nat.lt_succ_self _)
  have hCle : s₂.heap.objs.size ≤ H2.objs.size := by rw [hC]; exact Nat.le_succ _
  have below : ∀ b, b < s₂.heap.objs.size → b ≠ H2.objs.size ∧ b ≠ s₂.heap.objs.size := fun b hb => ⟨by rw [hC]; exact Nat.ne_of_lt (Nat.lt_succ_of_lt hb), Nat.ne_of_lt hb⟩
  have hDf : s₂.heap.objs.size ∉ fp := fun hm => Nat.lt_irrefl _ (hfp _ hm)
  have hCf : H2.objs.size ∉ fp := fun hm => by have := hfp _ hm; rw [hC] at this; exact Nat.lt_irrefl _ (Nat.lt_of_succ_lt this)
  have old : ∀ b o, s₂.heap.get? b = some o → h₁.get? b = some o := fun b o e => hsb₁.extBut b o (below b (Heap.lt_size e)).1 (Heap.get?_push_of_some _ (hH2 ▸ Heap.get?_push_of_some _ e))
  have hacc : h₁.PlainList s₂.heap.objs.size #[] := ⟨_, hsb₁.extBut _ _ hDC (Heap.get?_push_of_some _ (hH2 ▸ Heap.get?_push_size _ rfl))⟩
  have loop : ∀ s₃ : Shared, s₃ = { s₂ with heap := h₁, toks := s₂.toks + ([] : List (Str × Value)).length } → St 0 s₃ →
      codeAny (model prog w) A (.compLoop (.ListComp elt [⟨.Name x px, iter, ifs, 0⟩] scope pos) 0 (.ref I) (.ref s₂.heap.objs.size) (compEnvC scope cl H2.objs.size env))
        (compPost (model prog w) A E (some (assign (.Name y py) env)) (fun _ s' => Q .next s') (.ref s₂.heap.objs.size) H2.objs.size) s₃ := by
    rintro s₃ rfl hst₁
    refine codeAny_compLoopS (s₂ := s₂) W hsz hg hg' hrefl htr hst' hwr hdo hmono hkind hx hCle (Nat.le_refl _) hDC hDf hCf hst₁ hacc hns₁ ⟨fun b o _ e => old b o e, hrefl _, rfl, rfl, Nat.le_add_right _ _⟩ hq ?_
    intro s' m' ys news hn ha hmv hout hnews
    obtain ⟨k, hk⟩ := ha
    have fresh : s₂.heap.get? s₂.heap.objs.size = none := Heap.get?_none_of_le (Nat.le_refl _)
    have hLlt := hnL.lt
    have hLC : env.locals ≠ H2.objs.size := (below _ hLlt).1
    have hLD : env.locals ≠ s₂.heap.objs.size := (below _ hLlt).2
    show wpAny _ A (assign (.Name y py) env (.ref s₂.heap.objs.size)) _ _ _
    refine wpAny_assign_Name (wpAny_storeName_local hy (hnL.at' fun o e => hmv.heap _ o hLw e) (fun h₂ hn₂ hs₂ => ?_) hp)
    refine ⟨m', hn.sameBut hs₂ (Ne.symm hLC), fun h₃ hs₃ => ?_⟩
    refine hQ _ k _ ys news fresh ?_ ?_ ?_ hout (fun q hq => ?_)
    · exact hs₃.extBut _ _ hDC (hs₂.extBut _ _ (Ne.symm hLD) hk)
    · exact ⟨fun b o hb e => hs₃.extBut b o (below b (Heap.lt_size e)).1 (hs₂.extBut b o (fun z => hb (z ▸ List.mem_cons_self)) (hmv.heap b o (fun z => hb (List.mem_cons_of_mem _ z)) e)), hmv.gens, hmv.drawn, hmv.os, Nat.le_succ_of_le hmv.toks⟩
    · exact hn₂.sameBut hs₃ hLC
    · have nL : q.1 ≠ env.locals := fun z => by
        have := (hnews q hq).2.2.2
        obtain ⟨o, _, _, ho, _⟩ := hnL
        rw [z, ho] at this; cases this
      exact ⟨hs₃.extBut _ _ (hnews q hq).2.1 (hs₂.extBut _ _ nL (hnews q hq).1), (hnews q hq).2.2⟩
  have hst₁ : St 0 { s₂ with heap := h₁, toks := s₂.toks + ([] : List (Str × Value)).length } := W.frame _ _ _ _ hst (Nat.le_add_right _ _) fun b _ o e => old b o e
  exact codeAny_compStart_list (loop _ rfl hst₁) (W.self 0 _ _ _ hst₁ (loop _ rfl hst₁))
end
end Mine
end

section
open PySem PySem.W PySem.Calls PyProof.Rows PySem.Spec PyProof
set_option maxRecDepth 100000
set_option maxHeartbeats 8000000
namespace Mine
section
variable {prog : Program} {w : World} {A : Around} {hb : Heap} {C : Addr} {all : List Str}

noncomputable abbrev ancP (all : List Str) : Nat → Value → Prop := fun i v => ∃ p t, all[i]? = some p ∧ v = .str p t
theorem anc_walks (hA : Light A.in1) (hh : A.handled = none) (hl : hb.NoLimit) {a g : Nat} (haC : a ≠ C) (hCb : hb.get? C = none) :
    WalksS prog w A a (a :: C :: List.range hb.objs.size) [C] (GenOnlyQ g) all.length (ancP all) (AncAt prog w hb C all a g) where
  sub := fun b hb' => by rw [List.mem_singleton.mp hb']; simp
  grefl := fun _ => .inl rfl
  gtrans := fun _ _ _ x y => x.trans y
  frame := fun i s h' tk st _ hk => by
    obtain ⟨⟨o, nm, qn, ho, r⟩, hC, hkb, gs, hgs, hgo⟩ := st
    have hk' : ∀ b o, (b = C ∨ (hb.get? b).isSome = true) → s.heap.get? b = some o → h'.get? b = some o := fun b o hbo e => by
      rcases hbo with rfl | hbo
      · exact hk _ (by simp) o e
      · refine hk b ?_ o e
        obtain ⟨o', ho'⟩ := Option.isSome_iff_exists.mp hbo
        exact List.mem_cons_of_mem _ (List.mem_cons_of_mem _ (List.mem_range.mpr (Heap.lt_size ho')))
    refine ⟨⟨o, nm, qn, hk a (by simp) o ho, r⟩, ?_, fun b o e => hk' b o (.inr (by rw [e]; rfl)) (hkb b o e), gs, hgs, fun s'' hal => hgo s'' fun b o hbo e => hal b o hbo (hk' b o hbo e)⟩
    obtain ⟨oC, hoC⟩ := Option.isSome_iff_exists.mp hC
    show (h'.get? C).isSome = true
    rw [hk' C oC (.inl rfl) hoC]; rfl
  item := fun i s Q E hi st hQ => by
    unfold pyNext
    refine wpAny_bind (wpAny_attempt (wpAny_callSpecial?_slot (name := Str.ofString "__next__") st.1.typeIs slot_gen_next ?_))
    exact AncAt.item hA hl haC hCb st hi fun p t s' hp st' hm => wpAny_pure (hQ _ _ ⟨p, t, hp, rfl⟩ st' hm)
  done := fun s Q E st hQ => by
    unfold pyNext
    refine wpAny_bind (wpAny_attempt (wpAny_callSpecial?_slot (name := Str.ofString "__next__") st.1.typeIs slot_gen_next ?_))
    refine AncAt.done hA hl st fun ex s' s'' hm hx e => ?_
    obtain ⟨ob, t, hob, hc, _⟩ := hx.there
    refine wpAny_bind (wpAny_isInstance (T := "StopIteration") (b := true) ⟨_, hob, hc⟩ isSubtype_stop ?_)
    refine wpAny_pure (hQ _ ?_)
    rw [e]
    exact ⟨fun b o hb' e' => hx.keeps b o (hm.heap b o hb' e'), hm.gens, hm.drawn, hm.os, hm.toks⟩
  self := fun _ _ _ _ st hQ => wpAny_pyIter_gen st.1 hQ
end
end Mine
end

section
open PySem PySem.W PySem.Calls PyProof.Rows PySem.Spec PyProof
set_option maxRecDepth 100000
set_option maxHeartbeats 8000000
namespace Mine

/-- the values are these texts -/
noncomputable def StrsAre (vs : List Value) (xs : List Str) : Prop := vs.length = xs.length ∧ ∀ (i : Nat) (v : Value), vs[i]? = some v → ∃ t x, xs[i]? = some x ∧ v = .str x t

section
variable {prog : Program} {w : World} {A : Around} {E : Value → Shared → Prop} {s : Shared}

theorem setOf_congr {h : Heap} {a : Addr} {S S' : Str → Bool} {n : Nat} (hS : h.SetOf (strKind prog w) a S n) (e : ∀ k, S k = S' k) : h.SetOf (strKind prog w) a S' n := by
  have : S = S' := funext e
  subst this; exact hS

theorem set_update_strs {R : Result → Shared → Prop} {I : Addr} {fp wr : List Addr} {G : GRel} {n : Nat} {P : Nat → Value → Prop} {St : Nat → Shared → Prop}
    (W : WalksS prog w A.in1 I fp wr G n P St) (S : Addr) (hSf : S ∉ fp) (xs : List Str) (hn : n = xs.length) (hval : ∀ i v, P i v → ∃ t x, xs[i]? = some x ∧ v = .str x t) (hb : n + 1 < scanBound) :
    ∀ (k i c : Nat) (s : Shared), n - i = k → i ≤ n → c ≤ i → St i s → s.heap.SetOf (strKind prog w) S (fun k' => (xs.take i).contains k') c →
      (∀ s' c', Moved (S :: wr) G s s' → c' ≤ n → s'.heap.SetOf (strKind prog w) S (fun k' => xs.contains k') c' → R (.ok (.ret .none)) s') →
      codeAny (model prog w) A (.builtin "set.update.loop" ⟨[.ref S, .ref I], []⟩) R s := by
  have hSw : S ∉ wr := fun h => hSf (W.sub _ h)
  have hsub : ∀ b ∈ wr, b ∈ S :: wr := fun b hb => List.mem_cons_of_mem _ hb
  intro k
  induction k with
  | zero =>
    intro i c s hk hi hc hst hS hR
    have hin : i = n := by omega
    subst hin
    refine codeAny_builtin PyProof.Rows.F.entry_set_update_loop ?_
    rw [Around.under_plainId PyProof.Rows.F.plain_set_update_loop _]
    show wpAny _ A.in1 (pyNext (.ref I) >>= _) _ _ s
    refine wpAny_bind (W.done s _ _ hst fun s' hm => ?_)
    show wpAny _ A.in1 (ret Value.none) _ _ s'
    refine wpAny_pure (hR s' c (hm.mono hsub) hc ?_)
    obtain ⟨o, es, ep, t, ho, rest⟩ := setOf_congr hS (S' := fun k' => xs.contains k') (fun k' => by rw [hn, List.take_length])
    exact ⟨o, es, ep, t, hm.heap S _ hSw ho, rest⟩
  | succ k ih =>
    intro i c s hk hi hc hst hS hR
    have hlt : i < n := by omega
    refine codeAny_builtin PyProof.Rows.F.entry_set_update_loop ?_
    rw [Around.under_plainId PyProof.Rows.F.plain_set_update_loop _]
    show wpAny _ A.in1 (pyNext (.ref I) >>= _) _ _ s
    refine wpAny_bind (W.item i s _ _ hlt hst fun v s' hP hst' hm => ?_)
    obtain ⟨t, x, hx, rfl⟩ := hval i v hP
    have hS' : s'.heap.SetOf (strKind prog w) S (fun k' => (xs.take i).contains k') c := by
      obtain ⟨o, es, ep, tb, ho, rest⟩ := hS
      exact ⟨o, es, ep, tb, hm.heap S _ hSw ho, rest⟩
    show wpAny _ A.in1 (holding [Value.str x t] (setAdd S (.str x t)) >>= _) _ _ s'
    refine wpAny_bind (wpAny_holding ?_)
    unfold setAdd
    refine wpAny_holding ?_
    refine wpAny_bind ((strKind prog w).pyHash (k := x) (strKind_is _ _ _ _) ?_)
    refine wpAny_setAddHashed_of (knd := strKind prog w) (s := { s' with toks := s'.toks + 1 }) (strKind_is _ _ _ _) rfl hS' (by omega) fun h' hsb hS2 => ?_
    have hSi := setOf_congr hS2 (S' := fun k' => (xs.take (i + 1)).contains k') (fun k' => by
      rw [List.take_add_one, hx]
      simp only [Option.toList_some, List.contains_eq_any_beq, List.any_append, List.any_cons, List.any_nil, Bool.or_false]
      congr 1)
    refine wpAny_pure ⟨plainId_quiet PyProof.Rows.F.plain_set_update_loop _, ih (i + 1) _ _ (by omega) hlt (by split <;> omega) (W.frame _ s' _ _ hst' (Nat.le_succ _) fun b hb o e => ?_) hSi fun s'' c' hm'' hc' hS'' => ?_⟩
    · rw [hsb.2 b (fun h : b = S => hSf (by rw [← h]; exact hb))]; exact e
    · refine hR s'' c' (Moved.trans W.gtrans ((hm.mono hsub).then_heap (Nat.le_succ _) fun b o hb e => ?_) hm'') hc' hS''
      rw [hsb.2 b (fun h : b = S => hb (by rw [h]; exact List.mem_cons_self))]; exact e

theorem call_set_strs {l : Addr} {items : Array Value} {xs : List Str} {Q : Value → Shared → Prop}
    (hh : A.handled = none) (hl : s.heap.IsList l items) (hi : StrsAre items.toList xs) (hb : items.size + 1 < scanBound)
    (h : ∀ (h' : Heap) (tk c : Nat), h'.SetOf (strKind prog w) s.heap.objs.size (fun k' => xs.contains k') c → Kept s.heap h' → Q (.ref s.heap.objs.size) { s with heap := h', toks := tk }) :
    wpAny (model prog w) A (call (.type "set") [.ref l]) Q E s := by
  have hsz : items.size = xs.length := by rw [← hi.1, Array.length_toList]
  obtain ⟨c, tl, hmro⟩ := F.called_set.mro
  have hmade := F.called_set.made
  have hsub := F.called_set.sub
  refine wpAny_call (codeAny_of_tree ?_)
  show wpAny _ _ (callAny (.type "set") _) _ _ _
  refine wpAny_pure ⟨Code.quiet_builtin _ (by decide +kernel), codeAny_builtin F.entry_type_call ?_⟩
  rw [Around.under_plain (weight_type_call_type "set" [.ref l] []) rfl]
  have h1 := F.called_set.notType
  have h2 := F.called_set.canCreate
  have hct := F.typeCall_set_1 (.ref l)
  repeat (any_goals (first | assumption | (first | with_reducible refine PySem.wpAny_bind ?_ | with_reducible refine PySem.wpAny_pure ?_ | with_reducible refine PySem.wpAny_of_eq (by assumption) ?_ | ((with_reducible fail_if_success first | show PySem.wpAny _ _ (PySem.mkStr _) _ _ _ | show PySem.wpAny _ _ (PySem.mkInt _) _ _ _ | show PySem.wpAny _ _ (PySem.typeOf _) _ _ _ | show PySem.wpAny _ _ (PySem.isInstance _ _) _ _ _ | show PySem.wpAny _ _ (PySem.specialOf _ _) _ _ _ | show PySem.wpAny _ _ (PySem.letGo _ _) _ _ _ | show PySem.wpAny _ _ (throw _) _ _ _ | show PySem.wpAny _ _ (PySem.Sem.attempt _) _ _ _); wp_delta) | (with_reducible apply PySem.wpAny_loadPart'; focus (heap_get; done)) | (with_reducible apply PySem.wpAny_load'; focus (heap_get; done)) | (with_reducible apply PySem.wpAny_ite_false; focus (first | (rfl; done) | (simp [*]; done))) | (with_reducible apply PySem.wpAny_ite_true; focus (first | (rfl; done) | (simp [*]; done))) | with_reducible refine PySem.wpAny_runValue ?_ | with_reducible refine PySem.wpAny_alloc' ?_ | with_reducible refine PySem.wpAny_typeOf (by assumption) ?_ | ((with_reducible show PySem.wpAny _ _ _ _ _ _); wp_step))))
  refine codeAny_mono (code_set_new_1 (.ref l) (E := E) (Q₁ := fun obj s₁ => ∃ led : Bool, obj = .ref s.heap.objs.size ∧ s₁ = { s with heap := s.heap.push { cls := .type "set", dict := none, data := .set #[] 0 (.fresh 0 0 led) } }) fun led => ⟨led, rfl, rfl⟩) fun r s₁ hr => ?_
  cases r with
  | error e => exact hr
  | ok fl =>
    cases fl with
    | ret obj =>
      obtain ⟨led, rfl, rfl⟩ := hr
      have hS : (s.heap.push { cls := .type "set", dict := none, data := .set #[] 0 (.fresh 0 0 led) }).get? s.heap.objs.size = some { cls := .type "set", dict := none, data := .set #[] 0 (.fresh 0 0 led) } := Heap.get?_push_size _ rfl
      have hT : Shared.TypeIs { s with heap := s.heap.push { cls := .type "set", dict := none, data := .set #[] 0 (.fresh 0 0 led) } } (.ref s.heap.objs.size) "set" := ⟨_, hS, rfl⟩
      have hli := F.called_set.init.lookup
      have hbi := F.called_set.init.bind (.ref s.heap.objs.size)
      repeat (any_goals (first | assumption | (first | with_reducible refine PySem.wpAny_bind ?_ | with_reducible refine PySem.wpAny_pure ?_ | with_reducible refine PySem.wpAny_of_eq (by assumption) ?_ | ((with_reducible fail_if_success first | show PySem.wpAny _ _ (PySem.mkStr _) _ _ _ | show PySem.wpAny _ _ (PySem.mkInt _) _ _ _ | show PySem.wpAny _ _ (PySem.typeOf _) _ _ _ | show PySem.wpAny _ _ (PySem.isInstance _ _) _ _ _ | show PySem.wpAny _ _ (PySem.specialOf _ _) _ _ _ | show PySem.wpAny _ _ (PySem.letGo _ _) _ _ _ | show PySem.wpAny _ _ (throw _) _ _ _ | show PySem.wpAny _ _ (PySem.Sem.attempt _) _ _ _); wp_delta) | (with_reducible apply PySem.wpAny_loadPart'; focus (heap_get; done)) | (with_reducible apply PySem.wpAny_load'; focus (heap_get; done)) | (with_reducible apply PySem.wpAny_ite_false; focus (first | (rfl; done) | (simp [*]; done))) | (with_reducible apply PySem.wpAny_ite_true; focus (first | (rfl; done) | (simp [*]; done))) | with_reducible refine PySem.wpAny_runValue ?_ | with_reducible refine PySem.wpAny_alloc' ?_ | with_reducible refine PySem.wpAny_typeOf (by assumption) ?_ | ((with_reducible show PySem.wpAny _ _ _ _ _ _); wp_step))))
      refine codeAny_mono (codeAny_call_builtin (R := wants (fun r s₂ => r = .none ∧ ∃ h' tk c, s₂ = { s with heap := h', toks := tk } ∧
          h'.SetOf (strKind prog w) s.heap.objs.size (fun k' => xs.contains k') c ∧ Kept s.heap h') E) F.called_set.init.plain F.entry_set_init (check_set_init_1 hT ?_)) fun r₂ s₂ hr₂ => ?_
      · obtain ⟨ol, hol, hcl, nl, hdl⟩ := hl
        obtain ⟨ocls, odict, odata, oslots⟩ := ol
        simp only at hcl hdl
        subst hcl; subst hdl
        have hol' : (s.heap.push { cls := .type "set", dict := none, data := .set #[] 0 (.fresh 0 0 led) }).get? l = some { cls := .type "list", dict := odict, data := .seq items nl, slots := oslots } := Heap.get?_push_of_some _ hol
        have hsls := F.sub_list_set
        have hslf := F.sub_list_frozenset
        have hne : (Value.type "list" == Value.type "dict") = false := by decide
        have hl1 : (s.heap.push { cls := .type "set", dict := none, data := .set #[] 0 (.fresh 0 0 led) }).IsList l items := ⟨_, hol', rfl, nl, rfl⟩
        unfold Builtin.«set.__init__» noKeywords Builtin.Frozenset.updateFrom
        generalize hPI : pyIter = PI
        clear h hli hbi hct h1 h2 hsub hmade hmro
        repeat (first | with_reducible refine PySem.wpAny_bind ?_ | with_reducible refine PySem.wpAny_pure ?_ | with_reducible refine PySem.wpAny_of_eq (by assumption) ?_ | ((with_reducible fail_if_success first | show PySem.wpAny _ _ (PySem.mkStr _) _ _ _ | show PySem.wpAny _ _ (PySem.mkInt _) _ _ _ | show PySem.wpAny _ _ (PySem.typeOf _) _ _ _ | show PySem.wpAny _ _ (PySem.isInstance _ _) _ _ _ | show PySem.wpAny _ _ (PySem.specialOf _ _) _ _ _ | show PySem.wpAny _ _ (PySem.letGo _ _) _ _ _ | show PySem.wpAny _ _ (throw _) _ _ _ | show PySem.wpAny _ _ (PySem.Sem.attempt _) _ _ _); wp_delta) | (with_reducible apply PySem.wpAny_loadPart'; focus (heap_get; done)) | (with_reducible apply PySem.wpAny_load'; focus (heap_get; done)) | (with_reducible apply PySem.wpAny_ite_false; focus (first | (rfl; done) | (simp [*]; done))) | (with_reducible apply PySem.wpAny_ite_true; focus (first | (rfl; done) | (simp [*]; done))) | with_reducible refine PySem.wpAny_runValue ?_ | with_reducible refine PySem.wpAny_alloc' ?_ | with_reducible refine PySem.wpAny_typeOf (by assumption) ?_ | ((with_reducible show PySem.wpAny _ _ _ _ _ _); wp_step))
        subst hPI
        refine wpAny_pyIter_list hl1 ?_
        refine wpAny_bind (wpAny_runValue ?_)
        have hlS : l < s.heap.objs.size := Heap.lt_size hol
        have hh3 : A.in1.in1.in1.handled = none := by simp [hh]
        have hneI : l ≠ (s.heap.push { cls := .type "set", dict := none, data := .set #[] 0 (.fresh 0 0 led) }).objs.size := by
          rw [Heap.size_push]; exact Nat.ne_of_lt (Nat.lt_succ_of_lt hlS)
        have hSf : s.heap.objs.size ∉ [(s.heap.push { cls := .type "set", dict := none, data := .set #[] 0 (.fresh 0 0 led) }).objs.size, l] := by
          rw [Heap.size_push]; simp only [List.mem_cons, List.mem_singleton, List.not_mem_nil, or_false, not_or]
          exact ⟨Nat.ne_of_lt (Nat.lt_succ_self _), Nat.ne_of_gt hlS⟩
        have hval : ∀ (i : Nat) (v : Value), items[i]? = some v → ∃ t x, xs[i]? = some x ∧ v = .str x t := fun i v hv => hi.2 i v (by rw [Array.getElem?_toList]; exact hv)
        refine set_update_strs ((Walks.list hh3 _ l hneI items).toS) s.heap.objs.size hSf xs hsz hval hb (items.size - 0) 0 0 _ (by omega) (Nat.zero_le _) (Nat.le_refl _)
          ⟨⟨_, Heap.get?_push_size _ rfl, rfl, rfl⟩, (hl1.push _)⟩ ?hS0 ?hR
        case hS0 =>
          have hget : ((s.heap.push { cls := .type "set", dict := none, data := .set #[] 0 (.fresh 0 0 led) }).push { cls := .type "list_iterator", data := .fields #[.ref l, .int 0 0] }).get? s.heap.objs.size
              = some { cls := .type "set", dict := none, data := .set #[] 0 (.fresh 0 0 led) } := Heap.get?_push_of_some _ hS
          exact setOf_congr ((PyProof.Rows.setObjOf_fresh (knd := strKind prog w) led).setOf hget (by unfold scanBound; omega)) (fun _ => rfl)
        case hR =>
          intro s' c' hm _ hS'
          obtain ⟨h', g', d', tk', os'⟩ := s'
          have eg : g' = s.gens := hm.gens
          have ed : d' = s.drawn := hm.drawn
          have eo : os' = s.os := hm.os
          subst eg; subst ed; subst eo
          show wpAny _ _ _ _ _ _
          refine wpAny_pure ?_
          show wpAny _ _ (ret Value.none) _ _ _
          refine wpAny_pure ⟨rfl, h', tk', c', rfl, hS', fun b o e => ?_⟩
          have hb0 := Heap.lt_size e
          have hb1 : b ≠ s.heap.objs.size := Nat.ne_of_lt hb0
          have hb2 : b ≠ (s.heap.push { cls := .type "set", dict := none, data := .set #[] 0 (.fresh 0 0 led) }).objs.size := by
            rw [Heap.size_push]; exact Nat.ne_of_lt (Nat.lt_succ_of_lt hb0)
          exact hm.heap b o (by simp only [List.mem_cons, List.mem_singleton, List.not_mem_nil, or_false, not_or]; exact ⟨hb1, hb2⟩) (Heap.get?_push_of_some _ (Heap.get?_push_of_some _ e))
      · cases r₂ with
        | error e => exact hr₂
        | ok fl₂ =>
          cases fl₂ with
          | ret r =>
            obtain ⟨rfl, h', tk, c, rfl, hS', hk'⟩ := hr₂
            repeat (any_goals (first | assumption | (first | with_reducible refine PySem.wpAny_bind ?_ | with_reducible refine PySem.wpAny_pure ?_ | with_reducible refine PySem.wpAny_of_eq (by assumption) ?_ | ((with_reducible fail_if_success first | show PySem.wpAny _ _ (PySem.mkStr _) _ _ _ | show PySem.wpAny _ _ (PySem.mkInt _) _ _ _ | show PySem.wpAny _ _ (PySem.typeOf _) _ _ _ | show PySem.wpAny _ _ (PySem.isInstance _ _) _ _ _ | show PySem.wpAny _ _ (PySem.specialOf _ _) _ _ _ | show PySem.wpAny _ _ (PySem.letGo _ _) _ _ _ | show PySem.wpAny _ _ (throw _) _ _ _ | show PySem.wpAny _ _ (PySem.Sem.attempt _) _ _ _); wp_delta) | (with_reducible apply PySem.wpAny_loadPart'; focus (heap_get; done)) | (with_reducible apply PySem.wpAny_load'; focus (heap_get; done)) | (with_reducible apply PySem.wpAny_ite_false; focus (first | (rfl; done) | (simp [*]; done))) | (with_reducible apply PySem.wpAny_ite_true; focus (first | (rfl; done) | (simp [*]; done))) | with_reducible refine PySem.wpAny_runValue ?_ | with_reducible refine PySem.wpAny_alloc' ?_ | with_reducible refine PySem.wpAny_typeOf (by assumption) ?_ | ((with_reducible show PySem.wpAny _ _ _ _ _ _); wp_step))))
            exact h _ _ _ hS' hk'
          | _ => exact hr₂.elim
    | _ => exact hr.elim
end
end Mine
end

section
open PySem PySem.W PySem.Calls PyProof.Rows PySem.Spec PyProof
set_option maxRecDepth 100000
set_option maxHeartbeats 4000000
namespace Mine

noncomputable def inBound (S : Addr) : Obj := { cls := .type "builtin_function_or_method", data := .fields #[.builtin "set.__contains__", .ref S] }

theorem slot_md_get : Slot "method_descriptor" "__get__" "method_descriptor.__get__" :=
  .of (owner := "method_descriptor") (n := "__get__") (by rw [typeLookup_type, builtinLookup_eq_fast]; kernel_rfl) (by decide +kernel) (by decide +kernel) (by decide +kernel)
    (by first | exact .inl (by decide +kernel) | exact .inr (by decide +kernel)) (by rw [isSubtype_type]; kernel_rfl)
theorem entry_md_get : entryFor table "method_descriptor.__get__" = some Builtin.«method_descriptor.__get__» := entryFor_of_tree (by kernel_rfl)
theorem args_md_get (a b c : Value) : argsOk "method_descriptor.__get__" ⟨[a, b, c], []⟩ := by unfold argsOk; kernel_rfl
theorem owner_sc : (kfb_private% "ownerAndName") "set.__contains__" = ("set", "__contains__") := by first | decide +kernel | kernel_rfl
theorem md_noset : typeLookup (.type "method_descriptor") "__set__" = pure none := by rw [typeLookup_type, builtinLookup_eq_fast]; kernel_rfl
theorem md_nodel : typeLookup (.type "method_descriptor") "__delete__" = pure none := by rw [typeLookup_type, builtinLookup_eq_fast]; kernel_rfl

section
variable {prog : Program} {w : World} {A : Around} {E : Value → Shared → Prop} {s : Shared}

theorem run_md_get {S : Addr} {P : Fin → Shared → Prop} (hT : s.TypeIs (.ref S) "set") (h : P (.done (.ret (.ref s.heap.objs.size))) { s with heap := s.heap.push (inBound S) }) :
    wpAny (model prog w) A (Builtin.«method_descriptor.__get__» ⟨[.builtin "set.__contains__", .ref S, .type "set"], []⟩) P E s := by
  unfold Builtin.«method_descriptor.__get__»
  refine wpAny_bind (wpAny_of_eq (a := (.builtin "set.__contains__", some (.ref S), some (.type "set"))) (by first | rfl | kernel_rfl) ?_)
  simp only [show Manifest.toldItsClass.contains "set.__contains__" = false by decide +kernel, Bool.false_eq_true, if_false]
  have f8 : isSubtype (.type "set") (.type (".".intercalate ("set.__contains__".cutAt '.').dropLast)) = pure true := by
    rw [show (".".intercalate ("set.__contains__".cutAt '.').dropLast) = "set" by decide +kernel, isSubtype_type]; kernel_rfl
  repeat (any_goals (first | assumption | (first | with_reducible refine PySem.wpAny_bind ?_ | with_reducible refine PySem.wpAny_pure ?_ | with_reducible refine PySem.wpAny_of_eq (by assumption) ?_ | ((with_reducible fail_if_success first | show PySem.wpAny _ _ (PySem.mkStr _) _ _ _ | show PySem.wpAny _ _ (PySem.mkInt _) _ _ _ | show PySem.wpAny _ _ (PySem.typeOf _) _ _ _ | show PySem.wpAny _ _ (PySem.isInstance _ _) _ _ _ | show PySem.wpAny _ _ (PySem.specialOf _ _) _ _ _ | show PySem.wpAny _ _ (PySem.letGo _ _) _ _ _ | show PySem.wpAny _ _ (throw _) _ _ _ | show PySem.wpAny _ _ (PySem.Sem.attempt _) _ _ _); wp_delta) | (with_reducible apply PySem.wpAny_loadPart'; focus (heap_get; done)) | (with_reducible apply PySem.wpAny_load'; focus (heap_get; done)) | (with_reducible apply PySem.wpAny_ite_false; focus (first | (rfl; done) | (simp [*]; done))) | (with_reducible apply PySem.wpAny_ite_true; focus (first | (rfl; done) | (simp [*]; done))) | with_reducible refine PySem.wpAny_runValue ?_ | with_reducible refine PySem.wpAny_alloc' ?_ | with_reducible refine PySem.wpAny_typeOf (by assumption) ?_ | ((with_reducible show PySem.wpAny _ _ _ _ _ _); wp_step))))

theorem run_ga_in {S : Addr} {hp : Heap} {g : Array GenState} {d : Drawn} {t : Nat} {os : OsState} {tk : Tok} {Q : Fin → Shared → Prop} {es : Array (Int × Value)} {ep : Nat} {tb : SetTable} {sl : Array (Option Value)} (hx : hp.get? S = some { cls := .type "set", dict := none, data := .set es ep tb, slots := sl })
    (h : Q (.done (.ret (.ref hp.objs.size))) ⟨hp.push (inBound S), g, d, t, os⟩) :
    wpAny (model prog w) A (Builtin.«object.__getattribute__» ⟨[.ref S, .str "__contains__" tk], []⟩) Q E ⟨hp, g, d, t, os⟩ := by
  have hT : (⟨hp, g, d, t, os⟩ : Shared).TypeIs (.ref S) "set" := ⟨_, hx, rfl⟩
  have f5 := F.slot_set_contains.lookup
  have f6 := F.type_set_contains
  have f7 := slot_md_get.lookup
  have f8 := md_noset
  have f9 := md_nodel
  repeat (any_goals (first | assumption | (first | with_reducible refine PySem.wpAny_bind ?_ | with_reducible refine PySem.wpAny_pure ?_ | with_reducible refine PySem.wpAny_of_eq (by assumption) ?_ | ((with_reducible fail_if_success first | show PySem.wpAny _ _ (PySem.mkStr _) _ _ _ | show PySem.wpAny _ _ (PySem.mkInt _) _ _ _ | show PySem.wpAny _ _ (PySem.typeOf _) _ _ _ | show PySem.wpAny _ _ (PySem.isInstance _ _) _ _ _ | show PySem.wpAny _ _ (PySem.specialOf _ _) _ _ _ | show PySem.wpAny _ _ (PySem.letGo _ _) _ _ _ | show PySem.wpAny _ _ (throw _) _ _ _ | show PySem.wpAny _ _ (PySem.Sem.attempt _) _ _ _); wp_delta) | (with_reducible apply PySem.wpAny_loadPart'; focus (heap_get; done)) | (with_reducible apply PySem.wpAny_load'; focus (heap_get; done)) | (with_reducible apply PySem.wpAny_ite_false; focus (first | (rfl; done) | (simp [*]; done))) | (with_reducible apply PySem.wpAny_ite_true; focus (first | (rfl; done) | (simp [*]; done))) | with_reducible refine PySem.wpAny_runValue ?_ | with_reducible refine PySem.wpAny_alloc' ?_ | with_reducible refine PySem.wpAny_typeOf (by assumption) ?_ | ((with_reducible show PySem.wpAny _ _ _ _ _ _); wp_step))))
  refine codeAny_call_builtin slot_md_get.plain entry_md_get (slot_md_get.check _ _ _ _ _ _ _ _ (show (⟨hp, g, d, t, os⟩ : Shared).TypeIs (.builtin "set.__contains__") "method_descriptor" from f6) (args_md_get _ _ _) (run_md_get hT ?_))
  exact wpAny_pure h

theorem getattr_in {S : Addr} {ex : Bool} {Q : Value → Shared → Prop} {es : Array (Int × Value)} {ep : Nat} {tb : SetTable} {sl : Array (Option Value)} (hx : s.heap.get? S = some { cls := .type "set", dict := none, data := .set es ep tb, slots := sl })
    (h : ∀ tk, Q (.ref s.heap.objs.size) { s with heap := s.heap.push (inBound S), toks := tk }) :
    wpAny (model prog w) A (getAttr (.ref S) "__contains__" ex) Q E s := by
  have f2 := F.slot_set_getattribute.lookup
  have f3 := F.slot_set_getattribute.bind (.ref S)
  obtain ⟨hp, g, d, t, os⟩ := s
  have hT : (⟨hp, g, d, t + 1, os⟩ : Shared).TypeIs (.ref S) "set" := ⟨_, hx, rfl⟩
  unfold getAttr
  refine wpAny_bind ?_
  unfold mkText
  repeat (any_goals (first | assumption | (first | with_reducible refine PySem.wpAny_bind ?_ | with_reducible refine PySem.wpAny_pure ?_ | with_reducible refine PySem.wpAny_of_eq (by assumption) ?_ | ((with_reducible fail_if_success first | show PySem.wpAny _ _ (PySem.mkStr _) _ _ _ | show PySem.wpAny _ _ (PySem.mkInt _) _ _ _ | show PySem.wpAny _ _ (PySem.typeOf _) _ _ _ | show PySem.wpAny _ _ (PySem.isInstance _ _) _ _ _ | show PySem.wpAny _ _ (PySem.specialOf _ _) _ _ _ | show PySem.wpAny _ _ (PySem.letGo _ _) _ _ _ | show PySem.wpAny _ _ (throw _) _ _ _ | show PySem.wpAny _ _ (PySem.Sem.attempt _) _ _ _); wp_delta) | (with_reducible apply PySem.wpAny_loadPart'; focus (heap_get; done)) | (with_reducible apply PySem.wpAny_load'; focus (heap_get; done)) | (with_reducible apply PySem.wpAny_ite_false; focus (first | (rfl; done) | (simp [*]; done))) | (with_reducible apply PySem.wpAny_ite_true; focus (first | (rfl; done) | (simp [*]; done))) | with_reducible refine PySem.wpAny_runValue ?_ | with_reducible refine PySem.wpAny_alloc' ?_ | with_reducible refine PySem.wpAny_typeOf (by assumption) ?_ | ((with_reducible show PySem.wpAny _ _ _ _ _ _); wp_step))))
  simp only [onTheHeap, Bool.and_false, Bool.false_eq_true, if_false]
  repeat (any_goals (first | assumption | (first | with_reducible refine PySem.wpAny_bind ?_ | with_reducible refine PySem.wpAny_pure ?_ | with_reducible refine PySem.wpAny_of_eq (by assumption) ?_ | ((with_reducible fail_if_success first | show PySem.wpAny _ _ (PySem.mkStr _) _ _ _ | show PySem.wpAny _ _ (PySem.mkInt _) _ _ _ | show PySem.wpAny _ _ (PySem.typeOf _) _ _ _ | show PySem.wpAny _ _ (PySem.isInstance _ _) _ _ _ | show PySem.wpAny _ _ (PySem.specialOf _ _) _ _ _ | show PySem.wpAny _ _ (PySem.letGo _ _) _ _ _ | show PySem.wpAny _ _ (throw _) _ _ _ | show PySem.wpAny _ _ (PySem.Sem.attempt _) _ _ _); wp_delta) | (with_reducible apply PySem.wpAny_loadPart'; focus (heap_get; done)) | (with_reducible apply PySem.wpAny_load'; focus (heap_get; done)) | (with_reducible apply PySem.wpAny_ite_false; focus (first | (rfl; done) | (simp [*]; done))) | (with_reducible apply PySem.wpAny_ite_true; focus (first | (rfl; done) | (simp [*]; done))) | with_reducible refine PySem.wpAny_runValue ?_ | with_reducible refine PySem.wpAny_alloc' ?_ | with_reducible refine PySem.wpAny_typeOf (by assumption) ?_ | ((with_reducible show PySem.wpAny _ _ _ _ _ _); wp_step))))
  refine codeAny_call_builtin F.slot_set_getattribute.plain F.entry_set_ga (F.slot_set_getattribute.check _ _ _ _ _ _ _ _ hT (F.args_set_getattribute_2 _ _) (run_ga_in hx ?_))
  exact wpAny_pure (h _)

noncomputable def sigIn := (Manifest.signature? "set.__contains__").get (by decide +kernel)
theorem sig_in : Manifest.signature? "set.__contains__" = some sigIn := (Option.some_get _).symm
theorem kind_in : builtinKind "set.__contains__" = some .method := by kernel_rfl
theorem sig_same : { sigIn with full := (toString (Bind.lastOf "set") ++ toString "." ++ toString (Bind.lastOf "set.__contains__")) } = sigIn := by
  have e : (toString (Bind.lastOf "set") ++ toString "." ++ toString (Bind.lastOf "set.__contains__")) = sigIn.full := by decide +kernel
  rw [e]
theorem args_in (S : Addr) (k : Value) : Bind.checkArgs "set.__contains__" { sigIn with full := (toString (Bind.lastOf "set") ++ toString "." ++ toString (Bind.lastOf "set.__contains__")) } ⟨[.ref S, k], []⟩ = pure () := by
  rw [sig_same]
  have := F.args_set_contains_2 (.ref S) k
  unfold argsOk at this
  rw [sig_in] at this
  exact this
theorem sub_set_module : isSubtype (.type "set") (.type "module") = pure false := by rw [isSubtype_type]; kernel_rfl
theorem sub_set_type : isSubtype (.type "set") (.type "type") = pure false := by rw [isSubtype_type]; kernel_rfl

theorem check_in {S : Addr} {k : Str} {tk : Tok} {o : Obj} {es : Array (Int × Value)} {ep : Nat} {tb : SetTable} {Q : Unit → Shared → Prop} (ho : s.heap.get? S = some o) (hc : o.cls = .type "set") (hd : o.data = .set es ep tb) (h : Q () s) :
    wpAny (model prog w) A (checkBoundCall "set.__contains__" ⟨[.ref S, .str k tk], []⟩) Q E s := by
  have hT : s.TypeIs (.ref S) "set" := ⟨o, ho, hc⟩
  unfold checkBoundCall
  rw [sig_in]
  dsimp only
  rw [kind_in]
  dsimp only
  rw [if_neg (by decide)]
  refine wpAny_bind (wpAny_isInstance hT sub_set_module ?_)
  have hv : (Manifest.varargsMethods.contains "set.__contains__" || false) = false := by decide +kernel
  rw [hv, if_neg Bool.false_ne_true]
  have f2 := args_in S (.str k tk)
  refine wpAny_bind (m := isType (.ref S)) ?_
  unfold isType
  refine wpAny_bind (wpAny_loadPart ho ?_)
  refine wpAny_pure ?_
  rw [hd]
  dsimp only
  rw [if_neg Bool.false_ne_true]
  refine wpAny_bind (wpAny_typeOf hT ?_)
  dsimp only
  rw [f2]
  exact wpAny_pure h

/-- the bound method `__contains__` of a set of texts, called -/
theorem call_inBound {S x : Addr} {Sf : Str → Bool} {n : Nat} {k : Str} {tk : Tok} {Q : Value → Shared → Prop} (ho : s.heap.get? x = some (inBound S)) (hS : s.heap.SetOf (strKind prog w) S Sf n)
    (h : Q (.bool (Sf k)) { s with toks := s.toks + 1 }) : wpAny (model prog w) A (call (.ref x) [.str k tk]) Q E s := by
  refine wpAny_call (codeAny_of_tree ?_)
  show wpAny _ A.in1 (callAny (.ref x) ⟨[.str k tk], []⟩) _ _ s
  simp only [callAny]
  refine wpAny_bind (wpAny_load ho ?_)
  simp only [inBound]
  refine KFB.if_so (by decide) ?_
  have hS2 := hS
  obtain ⟨oS, es, ep, tb, hoS, hcS, hdS, _⟩ := hS2
  refine wpAny_bind (check_in (S := S) hoS hcS.1 hdS ?_)
  refine wpAny_bind (wpAny_pure (wpAny_pure ?_))
  refine ⟨Code.quiet_builtin _ (by decide +kernel), codeAny_builtin entry_set_contains ?_⟩
  unfold Builtin.«frozenset.__contains__» Builtin.Frozenset.oneOther
  simp only [List.isEmpty_nil, bind_assoc]
  unfold Builtin.Frozenset.addrOf Builtin.Frozenset.withSetAsKey setContains
  refine wpAny_bind (wpAny_pure ?_)
  try dsimp only
  refine wpAny_bind (wpAny_pure ?_)
  try dsimp only
  refine wpAny_bind (wpAny_tryCatch ?_)
  refine wpAny_holding ?_
  refine wpAny_bind ((strKind prog w).pyHash (k := k) (strKind_is _ _ _ _) ?_)
  refine wpAny_bind (wpAny_setFind_of (knd := strKind prog w) (s := { s with toks := s.toks + 1 }) (strKind_is _ _ _ _) rfl hS fun r hr => ?_)
  refine wpAny_pure ?_
  show wpAny _ _ (ret (Value.bool r.isSome)) _ _ _
  rw [hr]
  exact wpAny_pure h
end
end Mine
end

section
open PySem PySem.W PySem.Calls PyProof.Rows PySem.Spec PyProof
set_option maxRecDepth 100000
set_option maxHeartbeats 8000000
namespace Mine
section
variable {prog : Program} {w : World} {A : Around} {E : Value → Shared → Prop} {s : Shared} {hb : Heap} {L : Addr} {m : Str → Option Value} {news : List (Addr × Obj)}

/-- the entry into a function when some of what stands may be changed: that is in news, and not in hb -/
theorem code_plainN {K : Frag} {mg mb : Str → Option Value} {p : Program} {loose : List Str} {mean : ExcName → Option Value} {R : Result → Shared → Prop} {name qual : Str} {params : Arguments} {body : List Stmt} {scope : Scope} {dV kV doc pm cdv ct oc : Value} {an od : Option Addr} {osl : Array (Option Value)} {f : Addr} {args : Args} {binds : List (Str × Value)}
    (X₀ : K.In hb) (T : Top p loose mean mg mb hb) (kb : Kept hb s.heap) (hsz : hb.objs.size ≤ s.heap.objs.size) (hN : ∀ q ∈ news, s.heap.get? q.1 = some q.2 ∧ hb.get? q.1 = none)
    (ho : K.lookup f = some ⟨oc, od, .func (fnOf name qual params body scope dV kV doc pm an cdv ct), osl⟩) (hcd : codeIn K cdv qual = true) (hroom : A.depth < recursionLimit)
    (hbind : BindsTo s (fnOf name qual params body scope dV kV doc pm an cdv ct) args binds) (hloc : ∀ y ∈ binds, scope.names.lookup y.1 = some .local)
    (h : ∀ L' h₁ tk, Fr hb L' h₁ (fun y => binds.reverse.lookup y) → News hb L' h₁ news → Kept s.heap h₁ → s.heap.get? L' = none →
      wpAny (model prog w) (A.deeper (envOf qual scope L' f cdv)) (execs body (envOf qual scope L' f cdv))
        (fun fl s' => R (.ok (.ret (match fl with | .ret v => v | _ => .none))) s') (fun e s' => wpAny (model prog w) (A.deeper (envOf qual scope L' f cdv)) (leaving (envOf qual scope L' f cdv) e) (fun _ s'' => R (.error e) s'') (fun e' s'' => R (.error e') s'') s') { s with heap := h₁, toks := tk })
    (hco : scope.isCoroutine = false) (hgen : scope.isGenerator = false) (hk : scope.kind = .function)
    (hcell : ∀ x ∈ scope.names, x.2 ≠ .cell) : codeAny (model prog w) A (.call (.ref f) args) R s := by
  refine codeAny_call_def (fd := fnOf name qual params body scope dV kV doc pm an cdv ct) (body := body) (binds := binds) hroom (X₀.keeps kb _ _ ho) rfl (T.nolimit.keeps kb) (codeRec_of (X₀.keeps kb) hcd) rfl hbind hcell hloc (fun h₁ hns hk₁ => ?_) hco hgen hk
  refine h s.heap.objs.size h₁ _ ⟨hns, fun b o e => hk₁ b o (kb b o e), hsz⟩ (fun q hq => ⟨hk₁ _ _ (hN q hq).1, fun e => ?_, (hN q hq).2⟩) hk₁ (Heap.get?_none_of_le (Nat.le_refl _))
  have := Heap.lt_size (hN q hq).1
  rw [e] at this
  exact absurd this (Nat.lt_irrefl _)
end
end Mine
end

section
open PySem PySem.W PySem.Calls PyProof.Rows PySem.Spec PyProof
set_option maxRecDepth 100000
set_option maxHeartbeats 8000000
namespace Mine
section
variable {prog : Program} {w : World} {A : Around} {E : Value → Shared → Prop} {s : Shared}

theorem IsGen.kept {h h' : Heap} {a g : Nat} (x : h.IsGen a g) (k : Kept h h') : h'.IsGen a g := let ⟨o, nm, qn, ho, r⟩ := x; ⟨o, nm, qn, k _ _ ho, r⟩
theorem call_iter_gen {a g : Nat} {Q : Value → Shared → Prop} (hg : s.heap.IsGen a g) (h : Q (.ref a) s) : wpAny (model prog w) A (call (.builtin "iter") [.ref a]) Q E s := by
  refine call_function_entry (by decide +kernel) (by decide +kernel) kdk_entry_iter (kdk_args_iter _) ?_
  unfold Builtin.«iter»
  refine wpAny_bind (m := someArgs "iter" 1 2 _) (wpAny_of_eq (a := [Value.ref a]) (by first | rfl | kernel_rfl!) ?_)
  show wpAny _ _ (pyIter (.ref a) >>= _) _ _ s
  refine wpAny_bind (wpAny_pyIter_gen hg ?_)
  exact wpAny_pure ⟨_, rfl, h⟩

theorem call_next_gen {a g : Nat} {Q : Value → Shared → Prop} (hg : s.heap.IsGen a g)
    (h : wpAny (model prog w) A.in1 (call (.builtin "generator.__next__") [.ref a]) Q E s) : wpAny (model prog w) A (call (.builtin "next") [.ref a]) Q E s := by
  refine call_function_entry (by decide +kernel) (by decide +kernel) kdk_entry_next (kdk_args_next _) ?_
  unfold Builtin.«next»
  refine wpAny_bind (m := someArgs "next" 1 2 _) (wpAny_of_eq (a := [Value.ref a]) (by first | rfl | kernel_rfl!) ?_)
  show wpAny _ _ (specialOf (.ref a) "__next__" >>= _) _ _ s
  refine wpAny_bind (wpAny_specialOf hg.typeIs slot_gen_next.lookup ?_)
  show wpAny _ _ (if (none : Option Value).isSome = true then _ else _) _ _ _
  refine KFB.if_not rfl ?_
  refine wpAny_bind (wpAny_callSpecial?_slot (name := Str.ofString "__next__") hg.typeIs slot_gen_next ?_)
  refine wpAny_mono h (fun v s' hq => ?_) fun _ _ z => z
  exact wpAny_pure ⟨_, rfl, hq⟩
end
end Mine
end

section
open PySem PySem.W PySem.Calls PyProof.Rows PySem.Spec PyProof
set_option maxRecDepth 100000
set_option maxHeartbeats 8000000
namespace Mine
theorem switch_M3 : True := by
  w_top off
  trivial
local macro_rules | `(tactic| k_room) => `(tactic| ktr_room)
local macro_rules | `(tactic| k_units) => `(tactic| ktr_units)
local macro_rules | `(tactic| walk_at "call builtin:iter") => `(tactic| (k_here; (with_unfolding_all refine' Mine.call_iter_gen ?k1 ?_; (case k1 => exact IsGen.kept (by assumption) (Fr.keep (by k_asm))); k_whole); try dsimp only))

noncomputable abbrev ffObj (dI B a : Addr) : Obj := { cls := .ref 117, dict := some dI, data := .plain, slots := #[some (.ref B), some (.ref a)] }

theorem new_ff {w : World} {dp un : Nat} {gd : Option (List Code)} {fr : Option (List Env)} {mg mb : Str → Option Value} {mean : ExcName → Option Value}
    {s : Shared} {Q E : Value → Shared → Prop} {a B g : Addr}
    (X : (hd.heap_39 w.params).In s.heap) (T : Top viewP (looseW viewP ["filterfalse"]) mean mg mb s.heap)
    (hdp : dp + 40 < recursionLimit) (hun : un + 100 < cLine) (hg : s.heap.IsGen a g)
    (ret : ∀ I dI h' tk', Kept s.heap h' → h'.get? I = some (ffObj dI B a) → h'.get? dI = some (dictOf [] 0) → s.heap.get? I = none → s.heap.get? dI = none → I ≠ dI → Q (.ref I) { s with heap := h', toks := tk' }) :
    wpAny (model PySem.Challenge.rw_ij0079_01.row.prog w) { handled := none, depth := dp, frames := fr, guards := gd, units := un } (call (.ref 117) [.ref B, .ref a]) Q E s := by
  revert X
  k_fill
  intro X
  refine wpAny_call ?_
  obtain ⟨h, gg, d, t, os⟩ := s
  refine' make_core (makes_of X ?m1) (looks_findIn X ?m2) (fun self => bind_fn X self (beq_iff_eq.mp (?m3 : isFn _ _ = true))) (.inl rfl) ?_
  case m1 => k_is
  case m2 => k_is
  case m3 => k_is
  refine' code_plainN (news := [(h.objs.size + 1, instObj 117 h.objs.size), (h.objs.size, dictOf [] 0)]) ?k3 ?k5 ?kk ?ks ?kN ?k6 ?k7 ?k8 ?k9 ?kB ?_ ?c2 ?c3 ?c4 ?c5
  case k3 => k_asm
  case k5 => k_asm
  case k6 => k_is
  case k7 => k_is
  case k8 => ktr_room
  case k9 => exact BindsTo.of_eq rfl
  case c5 => decide
  case kB => exact locs rfl
  case c2 => exact rfl
  case c3 => exact rfl
  case c4 => exact rfl
  case kk => exact fun _ _ e => Heap.get?_push_of_some _ (Heap.get?_push_of_some _ e)
  case ks => rw [Heap.size_push, Heap.size_push]; exact Nat.le_add_right _ 2
  case kN =>
    intro q hq
    rcases List.mem_cons.mp hq with rfl | hq
    · exact ⟨by rw [← Heap.size_push]; exact Heap.get?_push_size _ rfl, Heap.get?_none_of_le (Nat.le_succ _)⟩
    · rw [List.mem_singleton.mp hq]
      exact ⟨Heap.get?_push_of_some _ (Heap.get?_push_size _ rfl), Heap.get?_none_of_le (Nat.le_refl _)⟩
  intro L' h' tk F' N' kp' hn'
  replace F' : Fr h L' h' (fun y => List.lookup y [(Str.ofString "iterable", Value.ref a), (Str.ofString "function", Value.ref B), (Str.ofString "self", Value.ref (h.objs.size + 1))]) := F'
  dsimp only
  have l2 : @LT.lt Nat _ h.objs.size (h.objs.size + 1) := Nat.lt_succ_self _
  generalize h.objs.size + 1 = xI at *
  generalize h.objs.size = dI at *
  show wpAny _ _ _ _ _ _
  k_fold
  k_steps
  rename Fr _ _ _ _ => Fz
  rename News _ _ _ _ => Nz
  refine ⟨rfl, ret _ _ _ _ (Fr.keep Fz) (Nz _ (List.mem_cons_self ..)).1 (Nz _ (List.mem_cons_of_mem _ (List.mem_cons_self ..))).1 (Nz _ (List.mem_cons_self ..)).2.2 (Nz _ (List.mem_cons_of_mem _ (List.mem_cons_self ..))).2.2 (Nat.ne_of_gt l2)⟩
end Mine
end

section
open PySem PySem.W PySem.Calls PyProof.Rows PySem.Spec PyProof
set_option maxRecDepth 100000
set_option maxHeartbeats 8000000
namespace Mine
theorem switch_D1 : True := by
  w_top off
  trivial
theorem IsList.kept {h h' : Heap} {l : Addr} {items : Array Value} (x : h.IsList l items) (k : Kept h h') : h'.IsList l items := let ⟨o, a, b, n, c⟩ := x; ⟨o, k _ _ a, b, n, c⟩
theorem SetOf.kept {K : Type} [DecidableEq K] {prog : Program} {w : World} {knd : KeyKind prog w K} {h h' : Heap} {a : Addr} {S : K → Bool} {n : Nat} (x : h.SetOf knd a S n) (k : Kept h h') : h'.SetOf knd a S n := let ⟨o, es, ep, t, ho, r⟩ := x; ⟨o, es, ep, t, k _ _ ho, r⟩

theorem kept_push (o : Obj) (h : Heap) : Kept h (h.push o) := fun _ _ e => Heap.get?_push_of_some _ e
theorem getattr_inS {prog : Program} {w : World} {A : Around} {E : Value → Shared → Prop} {s : Shared} {S : Addr} {ex : Bool} {Q : Value → Shared → Prop} {f : Str → Bool} {c : Nat} (hS : s.heap.SetOf (strKind prog w) S f c)
    (h : ∀ B h' tk, Kept s.heap h' → h'.get? B = some (inBound S) → s.heap.get? B = none → Q (.ref B) { s with heap := h', toks := tk }) :
    wpAny (model prog w) A (getAttr (.ref S) "__contains__" ex) Q E s := by
  obtain ⟨⟨ocls, odict, odata, osl⟩, es, ep, t, ho, hx, hd, _⟩ := hS
  obtain ⟨h1, h2, h3⟩ := hx
  simp only at h1 h2 h3 hd
  subst h1; subst h2; subst h3; subst hd
  exact getattr_in ho fun tk => h _ _ tk (kept_push _ _) (Heap.get?_push_size _ rfl) (Heap.get?_none_of_le (Nat.le_refl _))

theorem News.cons2 {h₀ h h' : Heap} {L : Addr} {m : Str → Option Value} {news : List (Addr × Obj)} {a : Addr} {o : Obj} (F : Fr h₀ L h m) (N : News h₀ L h' news) (k : Kept h h') (ha : h'.get? a = some o) (hn : h.get? a = none) : News h₀ L h' ((a, o) :: news) := fun p hp => by
  rcases List.mem_cons.mp hp with rfl | hp
  · refine ⟨ha, fun e => ?_, ?_⟩
    · obtain ⟨oL, _, _, c, _⟩ := F.ns
      have e' : a = L := e
      rw [e', c] at hn; cases hn
    · cases q : h₀.get? a with
      | none => rfl
      | some o' => rw [F.keep _ _ q] at hn; cases hn
  · exact N p hp
local macro_rules | `(tactic| k_room) => `(tactic| ktr_room)
local macro_rules | `(tactic| k_units) => `(tactic| ktr_units)
local macro_rules | `(tactic| walk_at "call type:set") => `(tactic| (k_here; (with_unfolding_all refine' Mine.call_set_strs ?k1 ?k2 ?k3 ?k4 ?_; (case k1 => exact rfl); (case k2 => exact IsList.kept (by assumption) (Fr.keep (by k_asm))); (case k3 => assumption); (case k4 => assumption); k_whole); (rename Fr _ _ _ _ => Fy'); (rename News _ _ _ _ => Ny'); intro h' tk' c' hS' kp'; (dsimp only at hS' kp'); (have hS3' := hS'); (obtain ⟨oS', esS', epS', tbS', hoS', hSr'⟩ := hS3'); (have F' := Fr.kept Fy' kp'); (have N' := News.cons Fy' Ny' kp' hoS' (Heap.get?_none_of_le (Nat.le_refl _))); clear Fy' Ny'; try dsimp only))
local macro_rules | `(tactic| walk_at "getAttr ref") => `(tactic| (k_here; (with_unfolding_all refine' Mine.getattr_inS ?k1 ?_; (case k1 => assumption); k_whole); (rename Fr _ _ _ _ => Fy'); (rename News _ _ _ _ => Ny'); intro B' h' tk' kp' hB' hn'; (dsimp only at kp' hn'); (have hS2' := SetOf.kept (by assumption) kp'); (have F' := Fr.kept Fy' kp'); (have N' := News.cons Fy' Ny' kp' hB' hn'); clear Fy' Ny'; try dsimp only))
local macro_rules | `(tactic| walk_at "call ref") => `(tactic| (k_here; (with_unfolding_all refine' Mine.new_ff ?k1 ?k2 ?k3 ?k4 ?k5 ?_; (case k1 => exact Frag.In.keeps (by k_asm) (Fr.keep (by k_asm))); (case k2 => exact Top.keeps (by k_asm) (Fr.keep (by k_asm))); (case k3 => ktr_room); (case k4 => ktr_units); (case k5 => exact IsGen.kept (by assumption) (Fr.keep (by k_asm))); k_whole); (rename Fr _ _ _ _ => Fy'); (rename News _ _ _ _ => Ny'); intro I' d' h' tk' kp' hI' hd' hn1' hn2' hne'; (have F' := Fr.kept Fy' kp'); (have N1' := News.cons Fy' Ny' kp' hd' hn2'); (have N' := Mine.News.cons2 Fy' N1' kp' hI' hn1'); clear N1' Fy' Ny'; try dsimp only))

theorem difference_spec {w : World} {dp un : Nat} {gd : Option (List Code)} {fr : Option (List Env)} {mg mb : Str → Option Value} {mean : ExcName → Option Value}
    {s : Shared} {Q E : Value → Shared → Prop} {a Hd g : Addr} {held : Array Value} {xs : List Str}
    (X : (hd.heap_39 w.params).In s.heap) (T : Top viewP (looseW viewP ["filterfalse"]) mean mg mb s.heap)
    (hdp : dp + 100 < recursionLimit) (hun : un + 300 < cLine) (hH : s.heap.IsList Hd held) (hHs : StrsAre held.toList xs) (hlen : held.size + 1 < scanBound) (hg : s.heap.IsGen a g)
    (ret : ∀ I dI B S c h' tk', Kept s.heap h' → h'.get? I = some (ffObj dI B a) → h'.get? dI = some (dictOf [] 0) → h'.get? B = some (inBound S) →
      h'.SetOf (strKind PySem.Challenge.rw_ij0079_01.row.prog w) S (fun k' => xs.contains k') c →
      s.heap.get? I = none → s.heap.get? dI = none → s.heap.get? B = none → s.heap.get? S = none → Q (.ref I) { s with heap := h', toks := tk' }) :
    wpAny (model PySem.Challenge.rw_ij0079_01.row.prog w) { handled := none, depth := dp, frames := fr, guards := gd, units := un } (call (.ref 128) [.ref a, .ref Hd]) Q E s := by
  revert X
  k_fill
  intro X
  refine wpAny_call ?_
  refine' code_plain ?k3 ?k5 ?k6 ?k7 ?k8 ?k9 ?kB ?_ ?c2 ?c3 ?c4 ?c5
  case k3 => k_asm
  case k5 => k_asm
  case k6 => k_is
  case k7 => k_is
  case k8 => ktr_room
  case k9 => exact BindsTo.of_eq rfl
  case c5 => decide
  case kB => exact locs rfl
  case c2 => exact rfl
  case c3 => exact rfl
  case c4 => exact rfl
  intro L' h' tk0 F' N'
  dsimp only
  k_fold
  replace F' : Fr s.heap L' h' (fun y => List.lookup y [(Str.ofString "subtrahend", Value.ref Hd), (Str.ofString "minuend", Value.ref a)]) := F'
  k_steps
  rename Fr _ _ _ _ => Fz
  rename News _ _ _ _ => Nz
  rename Heap.SetOf _ _ _ _ _ => hSz
  rename Kept _ _ => kz
  have n1 := Nz _ (List.mem_cons_self ..)
  have n2 := Nz _ (List.mem_cons_of_mem _ (List.mem_cons_self ..))
  have n3 := Nz _ (List.mem_cons_of_mem _ (List.mem_cons_of_mem _ (List.mem_cons_self ..)))
  have n4 := Nz _ (List.mem_cons_of_mem _ (List.mem_cons_of_mem _ (List.mem_cons_of_mem _ (List.mem_cons_self ..))))
  exact ret _ _ _ _ _ _ _ (Fr.keep Fz) n1.1 n2.1 n3.1 (SetOf.kept hSz kz) n1.2.2 n2.2.2 n3.2.2 n4.2.2
end Mine
end

section
open PySem PySem.W PySem.Calls PyProof.Rows PySem.Spec PyProof
set_option maxRecDepth 100000
set_option maxHeartbeats 8000000
namespace Mine

section
variable {prog : Program} {w : World} {A : Around} {E : Value → Shared → Prop} {s : Shared} {env : Env} {Q : Flow → Shared → Prop}
noncomputable def StStep (J : Nat → Shared → Prop) (Q : Flow → Shared → Prop) (n : Nat) (f : Flow) (s₃ : Shared) : Prop := match f with
  | .next => ∃ n', n' < n ∧ J n' s₃
  | .cont => ∃ n', n' < n ∧ J n' s₃
  | .brk => Q .next s₃
  | .ret v => Q (.ret v) s₃
theorem While_st {test : Expr} {body : List Stmt} {pos : Pos} (J : Nat → Shared → Prop) {n₀ : Nat} (h0 : J n₀ s)
    (turn : ∀ n s', J n s' → wpAny (model prog w) A (isTrue test env (eval test env)) (fun b s₂ => if b = true then wpAny (model prog w) A (execs body env) (StStep J Q n) E s₂ else Q .next s₂) E s')
    (hE : PassesOwn (model prog w) A env E) : wpAny (model prog w) A (exec (.While test body [] pos) env) Q E s := by
  refine wpAny_While (codeAny_whileLoop J ?_ n₀ h0)
  intro n s' hJ
  refine wpAny_mono (turn n s' hJ) (fun b s₂ h₂ => ?_) hE
  cases b with
  | false =>
    simp only [Bool.false_eq_true, if_false] at h₂ ⊢
    exact wpAny_execs_nil h₂
  | true =>
    simp only [if_true] at h₂ ⊢
    refine wpAny_mono h₂ (fun f s₃ h₃ => ?_) hE
    cases f with
    | next => exact h₃
    | cont => exact h₃
    | brk => exact h₃
    | ret v => exact h₃
end

section
variable {prog : Program} {w : World} {A : Around} {E : Value → Shared → Prop} {s : Shared} {hb : Heap} {L : Addr} {m : Str → Option Value} {news : List (Addr × Obj)}
theorem callWith_in0 {pos : Pos} {u S : Addr} {args : List (Bool × Sem Value)} {first : List Value} {Q : Value → Shared → Prop} (hplain : args.any (·.1) = false)
    (h : wpAny (model prog w) A (evalArgs (.ref u) true args []) (fun x s₁ => s₁.heap.get? u = some (inBound S) ∧ wpAny (model prog w) A (call (.ref u) (first ++ x.pos) x.kw) Q E s₁) E s) : wpAny (model prog w) A (callWith pos (.ref u) first args []) Q E s := by
  unfold callWith
  refine wpAny_bind (wpAny_holding (wpAny_mono h (fun x s₁ h₁ => wpAny_bind (wpAny_standAt ?_)) fun _ _ x => x))
  obtain ⟨ho, hcall⟩ := h₁
  simp only [hplain, List.any_nil, Bool.or_false]
  refine wpAny_bind (m := keeperOf (.ref u)) ?_
  unfold keeperOf
  refine wpAny_bind (wpAny_load ho ?_)
  simp only [inBound, show (Value.type "builtin_function_or_method" != Value.type "method") = true by decide, show (Value.type "builtin_function_or_method" == Value.type "builtin_function_or_method" || Value.type "builtin_function_or_method" == Value.type "method-wrapper") = true by decide, if_true]
  refine wpAny_pure ?_
  exact wpAny_bind (wpAny_mono hcall (fun r s₂ hr => wpAny_bind (wpAny_holding (wpAny_point (wpAny_pure hr)))) fun _ _ x => x)
theorem callWith_in {pos : Pos} {u S : Addr} {first : List Value} {env : Env} {e : Expr} {rest : List Expr} {Q : Value → Shared → Prop} (_N : News hb L s.heap news) (_hm : (u, inBound S) ∈ news)
    (h : wpAny (model prog w) A (spliced (backTo pos (starEach (e :: rest) env))) (fun vs s₁ => s₁.heap.get? u = some (inBound S) ∧ wpAny (model prog w) A (call (.ref u) (first ++ vs)) Q E s₁) E s)
    (he : starEach (e :: rest) env = (false, eval e env) :: starEach rest env := by rfl) (hplain : (backTo pos (starEach rest env)).any (·.1) = false := by rfl) :
    wpAny (model prog w) A (callWith pos (.ref u) first (backTo pos (starEach (e :: rest) env)) []) Q E s := by
  rw [he] at h ⊢
  refine callWith_in0 (S := S) (by show (false || (backTo pos (starEach rest env)).any (·.1)) = false; rw [hplain]; rfl) ?_
  exact evalArgs_plain h

theorem AncAt.kept {C : Addr} {all : List Str} {a g i : Nat} {h' : Heap} {tk : Nat} (st : AncAt prog w hb C all a g i s) (ka : ∀ o, s.heap.get? a = some o → h'.get? a = some o) (kC : ∀ o, s.heap.get? C = some o → h'.get? C = some o)
    (kb : ∀ b o, hb.get? b = some o → h'.get? b = some o) : AncAt prog w hb C all a g i { s with heap := h', toks := tk } := by
  obtain ⟨⟨o, nm, qn, ho, r⟩, hC, hkb, gs, hgs, hgo⟩ := st
  refine ⟨⟨o, nm, qn, ka o ho, r⟩, ?_, kb, gs, hgs, fun s'' hal => hgo s'' fun b o hbo e => hal b o hbo ?_⟩
  · obtain ⟨oC, hoC⟩ := Option.isSome_iff_exists.mp hC
    show (h'.get? C).isSome = true
    rw [kC oC hoC]; rfl
  · rcases hbo with rfl | hbo
    · exact kC o e
    · obtain ⟨o', ho'⟩ := Option.isSome_iff_exists.mp hbo
      rw [hkb b o' ho'] at e
      cases e
      exact kb b _ ho'
theorem AncAt.here {C : Addr} {all : List Str} {a g i : Nat} (st : AncAt prog w hb C all a g i s) : ∃ oa oC, s.heap.get? a = some oa ∧ s.heap.get? C = some oC := by
  obtain ⟨⟨o, nm, qn, ho, r⟩, hC, _⟩ := st
  obtain ⟨oC, hoC⟩ := Option.isSome_iff_exists.mp hC
  exact ⟨_, _, ho, hoC⟩
end

/-- what is held: all but C stands, and the frames' own stand up to their slots -/
structure Held (C : Addr) (fs : List Addr) (g : Nat) (s s' : Shared) : Prop where
  heap : ∀ b o, b ≠ C → b ∉ fs → s.heap.get? b = some o → s'.heap.get? b = some o
  frames : ∀ b o, b ≠ C → s.heap.get? b = some o → (∀ vs, o.data ≠ .fields vs) → ∃ sl, s'.heap.get? b = some { o with slots := sl }
  gens : GenOnlyQ g s.gens s'.gens
  drawn : s'.drawn = s.drawn
  os : s'.os = s.os
theorem Held.of_moved {C : Addr} {fs : List Addr} {g : Nat} {s s' : Shared} (x : Moved [C] (GenOnlyQ g) s s') : Held C fs g s s' :=
  ⟨fun b o h _ e => x.heap b o (fun hm => h (List.mem_singleton.mp hm)) e, fun b o h e _ => ⟨o.slots, x.heap b o (fun hm => h (List.mem_singleton.mp hm)) e⟩, x.gens, x.drawn, x.os⟩
end Mine
end

section
open PySem PySem.W PySem.Calls PyProof.Rows PySem.Spec PyProof
set_option maxRecDepth 100000
set_option maxHeartbeats 8000000
namespace Mine
theorem switch_N3 : True := by
  w_top off
  trivial
noncomputable def SetAs (prog : Program) (w : World) (S : Addr) (o : Obj) (xs : List Str) (c : Nat) : Prop := ∀ h : Heap, h.get? S = some o → h.SetOf (strKind prog w) S (fun k' => xs.contains k') c
local macro_rules | `(tactic| k_room) => `(tactic| ktr_room)
local macro_rules | `(tactic| k_units) => `(tactic| ktr_units)
local macro_rules | `(tactic| walk_at "exec While Constant cons nil") => `(tactic| (refine Mine.stop ?_))
local macro_rules | `(tactic| walk_at "call builtin:next") => `(tactic| (refine Mine.stop ?_))
local macro_rules | `(tactic| walk_at "storeName") => `(tactic| (k_here; (with_unfolding_all refine' Mine.stN' ?k1 ?k2 ?_ ?k3 ?k4; (case k1 => k_asm); (case k2 => k_asm); (case k3 => exact rfl); (case k4 => exact rfl); k_whole); intro h' tk' F' N'; (try k_sweep); try dsimp only))
local macro_rules | `(tactic| walk_at "callWith ref") => `(tactic| (k_here; (with_unfolding_all refine' Mine.callWith_in ?k1 ?k2 ?_; (case k1 => k_asm); (case k2 => k_mem); k_whole)))
local macro_rules | `(tactic| walk_at "call ref") => `(tactic| (k_here; (with_unfolding_all refine' Mine.call_inBound ?k1 ?k2 ?_; (case k1 => exact (News.get (by k_asm) (by k_mem))); (case k2 => ((rename SetAs _ _ _ _ _ _ => hSx); exact hSx _ (News.get (by k_asm) (by k_mem)))); k_whole); try dsimp only))
local macro_rules | `(tactic| walk_at "And") => `(tactic| ((with_reducible show (Heap.get? _ _ = some (inBound _)) ∧ _); (refine ⟨(News.get (by k_asm) (by k_mem)), ?_⟩); (try dsimp only [List.nil_append, List.cons_append])))

theorem funFrames_on {hb h h' : Heap} : ∀ {l : List Env}, (∀ b ∈ l.filterMap (·.frame), ∀ o, h.get? b = some o → ∃ sl, h'.get? b = some { o with slots := sl }) → h.FunFrames hb l → h'.FunFrames hb l
  | [], _, _ => trivial
  | env :: l, k, ⟨hk, ⟨L, o, hf, hn, ho, hd⟩, hr⟩ => by
    obtain ⟨sl, hs⟩ := k L (List.mem_filterMap.mpr ⟨env, .head _, hf⟩) o ho
    exact ⟨hk, ⟨L, _, hf, hn, hs, hd⟩, funFrames_on (fun b hb => k b (by
      obtain ⟨e, he, hef⟩ := List.mem_filterMap.mp hb
      exact List.mem_filterMap.mpr ⟨e, .tail _ he, hef⟩)) hr⟩

theorem leave_stop {M : Model} {A : Around} {E : Value → Shared → Prop} {hb h₁ : Heap} {s : Shared} {env : Env} {outer : List Env} {L ex : Addr} {Q : Unit → Shared → Prop}
    (hfr : A.frames = some (env :: outer)) (hf : env.frame = some L) (fr : h₁.FunFrames hb (env :: outer)) (hx : Heap.NewExc h₁ s.heap ex "StopIteration")
    (h : ∀ h', (∀ b o, b ∉ (env :: outer).filterMap (·.frame) → h₁.get? b = some o → h'.get? b = some o) → (∀ b o, h₁.get? b = some o → (∀ vs, o.data ≠ .fields vs) → ∃ sl, h'.get? b = some { o with slots := sl }) →
      (∃ o, h'.get? ex = some o ∧ o.cls = .type "StopIteration") → Q () { s with heap := h' }) : wpAny M A (leaving env (.ref ex)) Q E s := by
  obtain ⟨ob, t, he, hc, hd⟩ := hx.there
  have hin : ∀ e ∈ env :: outer, ∀ a, e.frame = some a → a ∈ (env :: outer).filterMap (·.frame) := fun e he a ha => List.mem_filterMap.mpr ⟨e, he, ha⟩
  have fr' : s.heap.FunFrames hb (env :: outer) := fr.of_keeps fun b o e _ => ⟨o, hx.keeps b o e, rfl⟩
  have fr2 : h₁.FunFrames (hideAll h₁ ((env :: outer).filterMap (·.frame))) (env :: outer) := funFrames_hide fr hin
  have fr3 : s.heap.FunFrames (hideAll h₁ ((env :: outer).filterMap (·.frame))) (env :: outer) := fr2.of_keeps fun b o e _ => ⟨o, hx.keeps b o e, rfl⟩
  refine wpAny_leaving_firstW (base := hideAll h₁ ((env :: outer).filterMap (·.frame))) (a0 := t) hfr fr3 hf he (fun b o e => hx.keeps b o (of_hideAll _ e)) ?_ hd rfl rfl fun h' hL => ?_
  · cases q : (hideAll h₁ ((env :: outer).filterMap (·.frame))).get? ex with
    | none => rfl
    | some o => have := of_hideAll _ q; rw [hx.new] at this; cases this
  · obtain ⟨k1, _, k3, k4⟩ := hL
    obtain ⟨oe, _, _, _, _, hoe, ⟨hoc, _⟩, _⟩ := k3
    exact h h' (fun b o hb e => k1 b o (hideAll_get _ e hb)) (fun b o e hn => k4 b o (hx.keeps b o e) hn) ⟨oe, hoe, hoc.trans hc⟩

theorem ff_next {w : World} {dp un : Nat} {gd : Option (List Code)} {outer : List Env} {mg mb : Str → Option Value} {mean : ExcName → Option Value}
    {s : Shared} {hb : Heap} {Q E : Value → Shared → Prop} {a C g I dI B S c j : Nat} {all xs : List Str}
    (X : (hd.heap_39 w.params).In hb) (T : Top viewP (looseW viewP ["filterfalse"]) mean mg mb hb) (hdp : dp + 20 ≤ 800) (hun : un + 100 ≤ 5000)
    (st : AncAt PySem.Challenge.rw_ij0079_01.row.prog w hb C all a g j s) (hj : j ≤ all.length) (haC : a ≠ C) (hCb : hb.get? C = none) (hzC : hb.objs.size ≤ C)
    (oI : s.heap.get? I = some (ffObj dI B a)) (od : s.heap.get? dI = some (dictOf [] 0)) (oB : s.heap.get? B = some (inBound S))
    (oS : s.heap.SetOf (strKind PySem.Challenge.rw_ij0079_01.row.prog w) S (fun k' => xs.contains k') c)
    (nI : hb.get? I = none) (nd : hb.get? dI = none) (nB : hb.get? B = none) (nS : hb.get? S = none) (cI : I ≠ C) (cd : dI ≠ C) (cB : B ≠ C) (cS : S ≠ C)
    (fr : s.heap.FunFrames hb outer) (frC : C ∉ outer.filterMap (·.frame))
    (item : ∀ k p t s', j ≤ k → all[k]? = some p → xs.contains p = false → (∀ i, j ≤ i → i < k → ∀ q, all[i]? = some q → xs.contains q = true) →
      AncAt PySem.Challenge.rw_ij0079_01.row.prog w hb C all a g (k + 1) s' → Moved [C] (GenOnlyQ g) s s' → Q (.str p t) s')
    (done : ∀ ex s', (∀ i, j ≤ i → i < all.length → ∀ q, all[i]? = some q → xs.contains q = true) → Held C (outer.filterMap (·.frame)) g s s' → s.toks ≤ s'.toks →
      (∃ o, s'.heap.get? ex = some o ∧ o.cls = .type "StopIteration") → E (.ref ex) s') :
    wpAny (model PySem.Challenge.rw_ij0079_01.row.prog w) { handled := none, depth := dp, frames := some outer, guards := gd, units := un } (call (.ref 113) [.ref I]) Q E s := by
  revert X
  k_fill
  intro X
  refine wpAny_with_toks (Nat.le_refl s.toks) ?_
  refine wpAny_call ?_
  have hCs : (s.heap.get? C).isSome = true := st.2.1
  obtain ⟨oCx, hoC⟩ := Option.isSome_iff_exists.mp hCs
  have oS2 := oS
  obtain ⟨oS', esS, epS, tbS, hoS, hSr⟩ := oS2
  have hSA : SetAs PySem.Challenge.rw_ij0079_01.row.prog w S oS' xs c := fun h e => ⟨oS', esS, epS, tbS, e, hSr⟩
  have kb : Kept hb s.heap := st.2.2.1
  have hsz : hb.objs.size ≤ s.heap.objs.size := Nat.le_trans hzC (Nat.le_of_lt (Heap.lt_size hoC))
  have hN : ∀ q ∈ [(I, ffObj dI B a), (dI, dictOf [] 0), (B, inBound S), (S, oS')], s.heap.get? q.1 = some q.2 ∧ hb.get? q.1 = none := by
    intro q hq
    simp only [List.mem_cons, List.not_mem_nil, or_false] at hq
    rcases hq with rfl | rfl | rfl | rfl
    · exact ⟨oI, nI⟩
    · exact ⟨od, nd⟩
    · exact ⟨oB, nB⟩
    · exact ⟨hoS, nS⟩
  refine' code_plainN (news := [(I, ffObj dI B a), (dI, dictOf [] 0), (B, inBound S), (S, oS')]) X T kb hsz hN ?k6 ?k7 ?k8 ?k9 ?kB ?_ ?c2 ?c3 ?c4 ?c5
  case k6 => k_is
  case k7 => k_is
  case k8 => ktr_room
  case k9 => exact BindsTo.of_eq rfl
  case c5 => decide
  case kB => exact locs rfl
  case c2 => exact rfl
  case c3 => exact rfl
  case c4 => exact rfl
  intro L' h' tk F' N' kp hnL
  replace F' : Fr hb L' h' (fun y => List.lookup y [(Str.ofString "self", Value.ref I)]) := F'
  have st1 : AncAt PySem.Challenge.rw_ij0079_01.row.prog w hb C all a g j { s with heap := h', toks := tk } := AncAt.kept st (fun o e => kp _ _ e) (fun o e => kp _ _ e) F'.keep
  obtain ⟨newsx, Nx, hall⟩ := all_news F'
  have N2 : News hb L' h' ((I, ffObj dI B a) :: (dI, dictOf [] 0) :: (B, inBound S) :: (S, oS') :: newsx) := fun p hp => by
    simp only [List.mem_cons] at hp
    rcases hp with h | h | h | h | h
    · exact N' _ (by rw [h]; simp)
    · exact N' _ (by rw [h]; simp)
    · exact N' _ (by rw [h]; simp)
    · exact N' _ (by rw [h]; simp)
    · exact Nx _ h
  clear N'
  dsimp only
  show wpAny _ _ _ _ _ _
  k_fold
  k_steps
  unfold Stop
  rename Fr _ _ _ _ => Fz
  rename News _ _ _ _ => Nz
  obtain ⟨oax, oCx', hoa, hoC'⟩ := st.here
  have hLC : C ≠ L' := fun e => by rw [← e, hoC] at hnL; cases hnL
  have hLa : a ≠ L' := fun e => by rw [← e, hoa] at hnL; cases hnL
  have ne : ∀ {b o}, s.heap.get? b = some o → b ≠ L' := fun e z => by rw [← z, e] at hnL; cases hnL
  have bz := hall _ _ Fz (fun p hp => Nz p (by simp [hp]))
  refine While_st (fun n s' => ∃ k m, n = all.length - k ∧ j ≤ k ∧ k ≤ all.length ∧ (∀ i, j ≤ i → i < k → ∀ q, all[i]? = some q → xs.contains q = true) ∧
      AncAt PySem.Challenge.rw_ij0079_01.row.prog w hb C all a g k s' ∧ Fr hb L' s'.heap m ∧ Off [Str.ofString "item"] (fun y => if y = Str.ofString "func" then some (Value.ref B) else List.lookup y [(Str.ofString "self", Value.ref I)]) m ∧
      ButC C s.heap s'.heap ∧ GenOnlyQ g s.gens s'.gens ∧ s'.drawn = s.drawn ∧ s'.os = s.os)
    ⟨j, _, rfl, Nat.le_refl _, hj, fun i h1 h2 => absurd h1 (Nat.not_le.mpr h2), AncAt.kept (s := { s with heap := h', toks := tk }) st1 (fun o e => bz _ _ hLa e) (fun o e => bz _ _ hLC e) Fz.keep, Fz, Off.refl _ _,
      fun b o hb e => bz b o (ne e) (kp _ _ e), .inl rfl, rfl, rfl⟩ ?_ ?_
  · rintro n s' ⟨k, m, rfl, hjk, hk, hin, stk, Fk, hoff, hbut, hgen, hdr, hos⟩
    clear Fz Nz bz
    rw [norm0 hoff] at Fk
    obtain ⟨newsy, Ny, hally⟩ := all_news Fk
    have Nk : News hb L' s'.heap ((I, ffObj dI B a) :: (dI, dictOf [] 0) :: (B, inBound S) :: (S, oS') :: newsy) := fun p hp => by
      simp only [List.mem_cons] at hp
      rcases hp with h | h | h | h | h
      · rw [h]; exact ⟨hbut _ _ cI oI, ne oI, nI⟩
      · rw [h]; exact ⟨hbut _ _ cd od, ne od, nd⟩
      · rw [h]; exact ⟨hbut _ _ cB oB, ne oB, nB⟩
      · rw [h]; exact ⟨hbut _ _ cS hoS, ne hoS, nS⟩
      · exact Ny _ h
    k_steps
    unfold Stop
    refine call_next_gen stk.1 ?_
    have hA : Light (((Around.mk none dp (some outer) gd un).deeper (envOf "filterfalse.__next__" (Scope.mk .function [] false false []) L' 113 (Value.ref 112))).in1.in1) := ⟨rfl, by simp only [depth_in1, depth_deeper]; omega, by simp only [units_in1, units_deeper]; omega⟩
    rcases Nat.lt_or_ge k all.length with hlt | hge
    · refine AncAt.item hA (Top.nolimit T) haC hCb stk hlt fun p t s₂ hp st₂ hm => ?_
      have F₂ := Fr.mk ((let ⟨o, es, ep, ho, r⟩ := Fk.ns; ⟨o, es, ep, hm.heap _ _ (fun h => hLC (List.mem_singleton.mp h).symm) ho, r⟩ : s₂.heap.Ns L' _)) st₂.2.2.1 Fk.above
      have nk : ∀ {b o}, b ≠ C → s'.heap.get? b = some o → s₂.heap.get? b = some o := fun h e => hm.heap _ _ (fun z => h (List.mem_singleton.mp z)) e
      obtain ⟨newsz, Nz, hallz⟩ := all_news F₂
      have N₂ : News hb L' s₂.heap ((I, ffObj dI B a) :: (dI, dictOf [] 0) :: (B, inBound S) :: (S, oS') :: newsz) := fun p hp => by
        simp only [List.mem_cons] at hp
        rcases hp with h | h | h | h | h
        · rw [h]; exact ⟨nk cI (hbut _ _ cI oI), ne oI, nI⟩
        · rw [h]; exact ⟨nk cd (hbut _ _ cd od), ne od, nd⟩
        · rw [h]; exact ⟨nk cB (hbut _ _ cB oB), ne oB, nB⟩
        · rw [h]; exact ⟨nk cS (hbut _ _ cS hoS), ne hoS, nS⟩
        · exact Nz _ h
      clear Fk Nk Ny Nz
      have hm2 : Moved [C] (GenOnlyQ g) s s₂ ∨ True := .inr trivial
      have mvd : ∀ {h₃ : Heap} {tk₃ : Nat}, ButC L' s₂.heap h₃ → s.toks ≤ tk₃ → Moved [C] (GenOnlyQ g) s { s₂ with heap := h₃, toks := tk₃ } := fun hbz htk =>
        ⟨fun b o hb e => hbz b o (ne e) (nk (fun z => hb (List.mem_singleton.mpr z)) (hbut b o (fun z => hb (List.mem_singleton.mpr z)) e)), GenOnlyQ.trans hgen hm.gens, hm.drawn.trans hdr, hm.os.trans hos, htk⟩
      obtain ⟨oa2, oC2, hoa2, hoC2⟩ := st₂.here
      k_steps
      · exact News.get (by assumption) (by k_mem)
      · rename Fr _ _ _ _ => Fw
        rename News _ _ _ _ => Nw
        rename xs.contains p = true => hcp
        have bw := hallz _ _ Fw (fun p hp => Nw p (by simp [hp]))
        have hoff' : Off [Str.ofString "item"] (fun y => if y = Str.ofString "func" then some (Value.ref B) else List.lookup y [(Str.ofString "self", Value.ref I)]) _ := hoff
        refine ⟨all.length - (k + 1), by omega, k + 1, _, rfl, by omega, hlt, fun i h1 h2 q hq => ?_, AncAt.kept st₂ (fun o e => bw _ _ hLa e) (fun o e => bw _ _ hLC e) Fw.keep, Fw, ?_, fun b o hb e => bw b o (ne e) (nk hb (hbut b o hb e)), GenOnlyQ.trans hgen hm.gens, hm.drawn.trans hdr, hm.os.trans hos⟩
        · rcases Nat.lt_or_ge i k with h3 | h3
          · exact hin i h1 h3 q hq
          · obtain rfl : i = k := by omega
            rw [hp] at hq
            cases hq
            exact hcp
        · intro x hx0
          have hx1 := hx0
          simp only [List.contains_cons, List.contains_nil, Bool.or_false, beq_eq_false_iff_ne, ne_eq] at hx1
          simp only [if_neg hx1, hx0, Bool.false_eq_true, if_false]
      · rename Fr _ _ _ _ => Fw
        rename News _ _ _ _ => Nw
        rename xs.contains p = false => hcp
        have bw := hallz _ _ Fw (fun p hp => Nw p (by simp [hp]))
        show s.toks ≤ _ → Q (.str p t) _
        intro htk
        exact item k p t _ hjk hp hcp hin (AncAt.kept st₂ (fun o e => bw _ _ hLa e) (fun o e => bw _ _ hLC e) Fw.keep) (mvd bw htk)
    · obtain rfl : k = all.length := by omega
      refine AncAt.done hA (Top.nolimit T) stk fun ex s₂ s₃ hm hx e3 => ?_
      show wpAny _ _ (leaving _ _) _ _ _
      have mv : ∀ {b : Addr} {o : Obj}, b ≠ C → s.heap.get? b = some o → s₂.heap.get? b = some o := fun hb e => hm.heap _ _ (fun z => hb (List.mem_singleton.mp z)) (hbut _ _ hb e)
      have frk : s₂.heap.FunFrames hb (envOf "filterfalse.__next__" (Scope.mk .function [] false false []) L' 113 (Value.ref 112) :: outer) := by
        obtain ⟨oL, es, ep, hoL, hdL, _⟩ := Fk.ns
        exact ⟨(fun z => ScopeKind.noConfusion z), ⟨L', oL, rfl, Heap.get?_none_of_le Fk.above, hm.heap _ _ (fun h => hLC (List.mem_singleton.mp h).symm) hoL, fun vs q => by rw [hdL] at q; cases q⟩,
          funFrames_on (fun b hbm o e => ⟨o.slots, mv (fun z => frC (z ▸ hbm)) e⟩) fr⟩
      refine leave_stop rfl rfl frk hx fun h₄ k1 k2 hex => ?_
      show s.toks ≤ _ → E (.ref ex) _
      intro htk
      refine done ex _ (fun i h1 h2 q hq => hin i h1 h2 q hq) ⟨fun b o hb hbf e => k1 b o ?_ (mv hb e), fun b o hb e hn => k2 b o (mv hb e) hn, ?_, ?_, ?_⟩ htk hex
      · intro hm9
        obtain ⟨e9, he9, hf9⟩ := List.mem_filterMap.mp hm9
        rcases List.mem_cons.mp he9 with rfl | he9
        · exact ne e (Option.some.inj hf9).symm
        · exact hbf (List.mem_filterMap.mpr ⟨e9, he9, hf9⟩)
      · show GenOnlyQ g s.gens s₃.gens
        rw [e3]; exact GenOnlyQ.trans hgen hm.gens
      · show s₃.drawn = s.drawn
        rw [e3]; exact hm.drawn.trans hdr
      · show s₃.os = s.os
        rw [e3]; exact hm.os.trans hos
  · passes_own
end Mine
end

section
namespace Mine
theorem filt_all {α : Type} {l : List α} {f : α → Bool} {j : Nat} (h : ∀ i, j ≤ i → i < l.length → ∀ q, l[i]? = some q → f q = false) : (l.take j).filter f = l.filter f := by
  conv => rhs; rw [← List.take_append_drop j l]
  rw [List.filter_append]
  have : (l.drop j).filter f = [] := by
    rw [List.filter_eq_nil_iff]
    intro q hq
    obtain ⟨i, hi⟩ := List.mem_iff_getElem?.mp hq
    rw [List.getElem?_drop] at hi
    have h1 := h (j + i) (Nat.le_add_right _ _) (by
      rcases Nat.lt_or_ge (j + i) l.length with h2 | h2
      · exact h2
      · rw [List.getElem?_eq_none h2] at hi; cases hi) q hi
    rw [h1]; exact Bool.false_ne_true
  rw [this, List.append_nil]

theorem filt_next {α : Type} {l : List α} {f : α → Bool} {j k : Nat} {p : α} (hjk : j ≤ k) (hp : l[k]? = some p) (hf : f p = true) (h : ∀ i, j ≤ i → i < k → ∀ q, l[i]? = some q → f q = false) :
    (l.take (k + 1)).filter f = (l.take j).filter f ++ [p] := by
  rw [List.take_add_one, hp, List.filter_append]
  have e : (l.take k).filter f = (l.take j).filter f := by
    have h1 := filt_all (l := l.take k) (f := f) (j := j) (fun i h1 h2 q hq => h i h1 (by rw [List.length_take] at h2; omega) q (by
      rw [List.getElem?_take] at hq
      split at hq
      · exact hq
      · cases hq))
    rw [← h1, List.take_take, Nat.min_eq_left hjk]
  rw [e]
  simp [hf]

theorem filt_get {α : Type} {l : List α} {f : α → Bool} {j k : Nat} {p : α} (hjk : j ≤ k) (hp : l[k]? = some p) (hf : f p = true) (h : ∀ i, j ≤ i → i < k → ∀ q, l[i]? = some q → f q = false) :
    (l.filter f)[((l.take j).filter f).length]? = some p := by
  have e := filt_next hjk hp hf h
  have e2 : l.filter f = ((l.take j).filter f ++ [p]) ++ (l.drop (k + 1)).filter f := by
    rw [← e, ← List.filter_append, List.take_append_drop]
  rw [e2]
  rw [List.getElem?_append_left (by simp)]
  rw [List.getElem?_append_right (Nat.le_refl _)]
  simp
end Mine
end

section
open PySem PySem.W PySem.Calls PyProof.Rows PySem.Spec PyProof
set_option maxRecDepth 100000
set_option maxHeartbeats 8000000
namespace Mine

structure HeldD (C D : Addr) (fs : List Addr) (g : Nat) (s s' : Shared) : Prop where
  heap : ∀ b o, b ≠ C → b ≠ D → b ∉ fs → s.heap.get? b = some o → s'.heap.get? b = some o
  frames : ∀ b o, b ≠ C → b ≠ D → s.heap.get? b = some o → (∀ vs, o.data ≠ .fields vs) → ∃ sl, s'.heap.get? b = some { o with slots := sl }
  gens : GenOnlyQ g s.gens s'.gens
  drawn : s'.drawn = s.drawn
  os : s'.os = s.os

/-- a walk whose steps move C and g alone, and whose end leaves a Python frame -/
structure WalkH (prog : Program) (w : World) (A : Around) (I D C : Addr) (fs : List Addr) (g n : Nat) (P : Nat → Value → Prop) (St : Nat → Shared → Prop) : Prop where
  frame : ∀ i s h' tk, St i s → (∀ b o, b ≠ D → s.heap.get? b = some o → h'.get? b = some o) → St i { s with heap := h', toks := tk }
  item : ∀ i s Q E, i < n → St i s → (∀ v s', P i v → St (i + 1) s' → Moved [C] (GenOnlyQ g) s s' → Q (some v) s') → wpAny (model prog w) A (pyNext (.ref I)) Q E s
  done : ∀ s Q E, St n s → (∀ s', Held C fs g s s' → Q none s') → wpAny (model prog w) A (pyNext (.ref I)) Q E s
  self : ∀ i s Q E, St i s → (∀ h' tk, Kept s.heap h' → Q (.ref I) { s with heap := h', toks := tk }) → wpAny (model prog w) A (pyIter (.ref I)) Q E s
  typ : ∀ i s Q E, St i s → Q (.ref 117) s → wpAny (model prog w) A (typeOf (.ref I)) Q E s
  nolen : ∀ i s Q E, St i s → Q none s → wpAny (model prog w) A (specialOf (.ref I) "__len__") Q E s
  nohint : ∀ i s Q E, St i s → Q none s → wpAny (model prog w) A (specialOf (.ref I) "__length_hint__") Q E s
  ne : D ≠ C ∧ D ∉ fs ∧ D ≠ I

section
variable {prog : Program} {w : World} {A : Around} {E : Value → Shared → Prop} {s : Shared} {R : Result → Shared → Prop} {I D C : Addr} {fs : List Addr} {g n : Nat} {P : Nat → Value → Prop} {St : Nat → Shared → Prop}

theorem extend_loopH (W : WalkH prog w A.in1 I D C fs g n P St) (hn : n ≤ sizeLine) (res : Value) :
    ∀ (k i : Nat) (s : Shared) (acc : Array Value) (c : Nat), n - i = k → i ≤ n → St i s → s.heap.get? D = some { cls := .type "list", dict := none, data := .seq acc c, slots := #[] } → ItemsOf P acc i →
    (∀ s' acc' c', HeldD C D fs g s s' → s'.heap.get? D = some { cls := .type "list", dict := none, data := .seq acc' c', slots := #[] } → ItemsOf P acc' n → R (.ok (.ret res)) s') →
    codeAny (model prog w) A (.builtin "list.extend.loop" ⟨[.ref D, .ref I, res], []⟩) R s := by
  obtain ⟨hDC, hDf, hDI⟩ := W.ne
  intro k
  induction k with
  | zero =>
    intro i s acc c hk hi hst hS hacc hR
    have hin : i = n := by omega
    subst hin
    refine codeAny_builtin PySem.F.entry_extend_loop ?_
    rw [Around.under_plainId PySem.F.plain_extend_loop _]
    show wpAny _ A.in1 (pyNext (.ref I) >>= _) _ _ s
    refine wpAny_bind (W.done s _ _ hst fun s' hm => ?_)
    exact wpAny_pure (hR s' acc c ⟨fun b o h1 _ h2 e => hm.heap b o h1 h2 e, fun b o h1 _ e hx => hm.frames b o h1 e hx, hm.gens, hm.drawn, hm.os⟩ (hm.heap D _ hDC hDf hS) hacc)
  | succ k ih =>
    intro i s acc c hk hi hst hS hacc hR
    have hlt : i < n := by omega
    refine codeAny_builtin PySem.F.entry_extend_loop ?_
    rw [Around.under_plainId PySem.F.plain_extend_loop _]
    show wpAny _ A.in1 (pyNext (.ref I) >>= _) _ _ s
    refine wpAny_bind (W.item i s _ _ hlt hst fun v s' hP hst' hm => ?_)
    have hS' := hm.heap D _ (fun h => hDC (List.mem_singleton.mp h)) hS
    show wpAny _ A.in1 (updateSeq D (·.push v) >>= _) _ _ _
    refine wpAny_bind ?_
    refine wpAny_updateSeq hS' rfl (wpAny_pure ⟨plainId_quiet PySem.F.plain_extend_loop _, ih (i + 1) _ (acc.push v) _ (by omega) hlt (W.frame _ s' _ s'.toks hst' fun b o hb e => ?_) (Heap.get?_update_self _ hS' rfl) (hacc.push hP) fun s'' acc' c' hm'' hS'' hacc' => ?_⟩)
      (by rw [hacc.1]; omega) (by show (acc.push v).size ≤ sizeLine + 1; rw [Array.size_push, hacc.1]; omega)
    · exact (Heap.get?_update_other _ _ (Ne.symm hb)).trans e
    · refine hR s'' acc' c' ⟨fun b o h1 h2 h3 e => hm''.heap b o h1 h2 h3 ((Heap.get?_update_other _ _ (Ne.symm h2)).trans (hm.heap b o (fun z => h1 (List.mem_singleton.mp z)) e)),
        fun b o h1 h2 e hx => hm''.frames b o h1 h2 ((Heap.get?_update_other _ _ (Ne.symm h2)).trans (hm.heap b o (fun z => h1 (List.mem_singleton.mp z)) e)) hx, GenOnlyQ.trans hm.gens hm''.gens, hm''.drawn.trans hm.drawn, hm''.os.trans hm.os⟩ hS'' hacc'

theorem HeldD.before {s₀ s s' : Shared} (x : HeldD C D fs g s s') (k : ∀ b o, b ≠ D → s₀.heap.get? b = some o → s.heap.get? b = some o) (hg : s.gens = s₀.gens) (hd : s.drawn = s₀.drawn) (ho : s.os = s₀.os) : HeldD C D fs g s₀ s' :=
  ⟨fun b o h1 h2 h3 e => x.heap b o h1 h2 h3 (k b o h2 e), fun b o h1 h2 e hn => x.frames b o h1 h2 (k b o h2 e) hn, hg ▸ x.gens, x.drawn.trans hd, x.os.trans ho⟩

theorem extendH (W1 : WalkH prog w A.in1 I D C fs g n P St) (res : Value) (c₀ : Nat) (hst : St 0 s)
    (hS : s.heap.get? D = some { cls := .type "list", data := .seq #[] c₀ })
    (hR : ∀ s' acc' c', HeldD C D fs g s s' → s'.heap.get? D = some { cls := .type "list", dict := none, data := .seq acc' c', slots := #[] } → ItemsOf P acc' n → R (.ok (.ret res)) s') (hn : n ≤ sizeLine) :
    wpAny (model prog w) A.in1 (Builtin.List.listExtendWith (.ref D) (.ref I) res)
      (fun fin s' => match fin with | .done f => R (.ok f) s' | .again c' => c'.quiet = true ∧ codeAny (model prog w) A c' R s') (fun e s' => R (.error e) s') s := by
  obtain ⟨hDC, hDf, hDI⟩ := W1.ne
  unfold Builtin.List.listExtendWith
  refine wpAny_bind (W1.typ 0 _ _ _ hst ?_)
  have h1 : Builtin.List.listSameRef (.ref D) (.ref I) = false := by simp [Builtin.List.listSameRef, hDI]
  have h2 : (Value.ref 117 == Value.type "list") = false := by decide
  have h3 : (Value.ref 117 == Value.type "tuple") = false := by decide
  simp only [h1, h2, h3, Bool.or_false, Bool.false_eq_true, if_false]
  refine wpAny_bind (W1.self 0 _ _ _ hst fun h₁ tk₁ k₁ => ?_)
  refine wpAny_bind (wpAny_holding ?_)
  unfold Builtin.List.listLengthHint
  have hst₁ : St 0 { s with heap := h₁, toks := tk₁ } := W1.frame 0 s _ _ hst fun b o _ e => k₁ b o e
  refine wpAny_bind (W1.nolen 0 _ _ _ hst₁ ?_)
  show wpAny _ A.in1 (specialOf (Value.ref I) (Str.ofString "__length_hint__") >>= _) _ _ _
  refine wpAny_bind (W1.nohint 0 _ _ _ hst₁ ?_)
  refine wpAny_pure ?_
  have hS₁ : h₁.get? D = _ := k₁ _ _ hS
  show wpAny _ A.in1 (rule "list.extend.makes-room" >>= fun _ => Builtin.List.listTouch (.ref D) >>= fun _ =>
    again (.builtin "list.extend.loop" ⟨[.ref D, .ref I, res], []⟩)) _ _ _
  refine wpAny_bind (wpAny_rule ?_)
  refine wpAny_bind ?_
  show wpAny _ A.in1 (updateSeq D (·.push .none) >>= fun _ => updateSeq D (·.pop)) _ _ _
  refine wpAny_bind (wpAny_updateSeq (s := { s with heap := h₁, toks := tk₁ }) hS₁ rfl ?_)
  have hS₂ := Heap.get?_update_self (Obj.mapSeq (·.push Value.none)) hS₁ rfl
  refine wpAny_updateSeq (hz := by seq_fits) hS₂ rfl ?_
  have hS₃ := Heap.get?_update_self (Obj.mapSeq (·.pop)) hS₂ rfl
  have oth : ∀ b o, b ≠ D → h₁.get? b = some o → ((h₁.update D (Obj.mapSeq (·.push Value.none))).update D (Obj.mapSeq (·.pop))).get? b = some o :=
    fun b o hb e => (Heap.get?_update_other _ _ (Ne.symm hb)).trans ((Heap.get?_update_other _ _ (Ne.symm hb)).trans e)
  refine wpAny_pure ⟨plainId_quiet PySem.F.plain_extend_loop _, extend_loopH W1 hn _ n 0 _ _ _ rfl (Nat.zero_le _)
    (W1.frame 0 s _ _ hst fun b o hb e => oth b o hb (k₁ b o e)) hS₃ (ItemsOf.nil P) fun s' acc' c' hm hS' hacc => ?_⟩
  exact hR s' acc' c' (HeldD.before hm (fun b o hb e => oth b o hb (k₁ b o e)) rfl rfl rfl) hS' hacc

theorem call_listH {Q : Value → Shared → Prop} (hD : D = s.heap.objs.size) (W : WalkH prog w A.in1.in1 I D C fs g n P St) (hst : St 0 s)
    (hQ : ∀ s' acc' c', Held C fs g s s' → s'.heap.get? D = some { cls := .type "list", dict := none, data := .seq acc' c', slots := #[] } → ItemsOf P acc' n → Q (.ref D) s') (hn : n ≤ sizeLine) :
    wpAny (model prog w) A (call (.type "list") [.ref I]) Q E s := by
  subst hD
  refine callType_codes (Q₁ := fun obj s₁ => obj = .ref s.heap.objs.size ∧ s₁ = { s with heap := s.heap.push { cls := .type "list", data := .seq #[] } }) PySem.F.called_list (PySem.F.typeCall_list_1 _) PySem.F.entry_list_init
    (code_list_new _ ⟨rfl, rfl⟩) fun obj s₁ h₁ => ?_
  obtain ⟨rfl, rfl⟩ := h₁
  have hS : (s.heap.push { cls := .type "list", data := .seq #[] }).get? s.heap.objs.size = some { cls := .type "list", data := .seq #[] } := Heap.get?_push_size _ rfl
  refine ⟨⟨_, hS, rfl⟩, PySem.F.args_list_init_2 _ _, ?_⟩
  show wpAny _ A.in1.in1 (do let old ← Builtin.List.listItems (.ref s.heap.objs.size); Builtin.List.listUpdate (.ref s.heap.objs.size) (fun _ => #[]); letGo old.toList.reverse; Builtin.List.listExtendWith (.ref s.heap.objs.size) (.ref I) .none) _ _ _
  refine wpAny_bind ?_
  unfold Builtin.List.listItems
  refine wpAny_bind (wpAny_seqItems hS rfl (wpAny_pure ?_))
  show wpAny _ A.in1.in1 (updateSeq s.heap.objs.size (fun _ => #[]) >>= fun _ => letGo (#[] : Array Value).toList.reverse >>= fun _ => Builtin.List.listExtendWith (.ref s.heap.objs.size) (.ref I) .none) _ _ _
  refine wpAny_bind (wpAny_updateSeq (s := { s with heap := s.heap.push { cls := .type "list", data := .seq #[] } }) hS rfl ?_)
  have hS₂ := Heap.get?_update_self (Obj.mapSeq (fun _ => (#[] : Array Value))) hS rfl
  have oth : ∀ b o, b ≠ s.heap.objs.size → s.heap.get? b = some o → ((s.heap.push { cls := .type "list", data := .seq #[] }).update s.heap.objs.size (Obj.mapSeq (fun _ => (#[] : Array Value)))).get? b = some o :=
    fun b o hb e => (Heap.get?_update_other _ _ (Ne.symm hb)).trans (Heap.get?_push_of_some _ e)
  refine wpAny_bind (wpAny_letGo ?_)
  refine extendH (hn := hn) W .none _ (W.frame 0 s _ s.toks hst oth) hS₂ fun s' acc' c' hm hS' hacc => ?_
  have hm' := HeldD.before (s₀ := s) hm oth rfl rfl rfl
  have nD : ∀ {b o}, s.heap.get? b = some o → b ≠ s.heap.objs.size := fun e z => Nat.lt_irrefl _ (by have := Heap.lt_size e; rw [z] at this; exact this)
  exact ⟨rfl, hQ s' acc' c' ⟨fun b o h1 h2 e => hm'.heap b o h1 (nD e) h2 e, fun b o h1 e hx => hm'.frames b o h1 (nD e) e hx, hm'.gens, hm'.drawn, hm'.os⟩ hS' hacc⟩
end
end Mine
end

section
open PySem PySem.W PySem.Calls PyProof.Rows PySem.Spec PyProof
set_option maxRecDepth 100000
set_option maxHeartbeats 8000000
namespace Mine
theorem switch_F2 : True := by
  w_top off
  trivial
local macro_rules | `(tactic| k_room) => `(tactic| ktr_room)
local macro_rules | `(tactic| k_units) => `(tactic| ktr_units)

theorem ff_iter {w : World} {A : Around} {mg mb : Str → Option Value} {mean : ExcName → Option Value}
    {s : Shared} {Q E : Value → Shared → Prop} {I : Addr}
    (X : (hd.heap_39 w.params).In s.heap) (T : Top viewP (looseW viewP ["filterfalse"]) mean mg mb s.heap) (hdp : A.depth + 20 ≤ 800)
    (ret : ∀ h' tk', Kept s.heap h' → Q (.ref I) { s with heap := h', toks := tk' }) :
    wpAny (model PySem.Challenge.rw_ij0079_01.row.prog w) A (call (.ref 106) [.ref I]) Q E s := by
  revert X
  k_fill
  intro X
  refine wpAny_call ?_
  refine' code_plain ?k3 ?k5 ?k6 ?k7 ?k8 ?k9 ?kB ?_ ?c2 ?c3 ?c4 ?c5
  case k3 => k_asm
  case k5 => k_asm
  case k6 => k_is
  case k7 => k_is
  case k8 => ktr_room
  case k9 => exact BindsTo.of_eq rfl
  case c5 => decide
  case kB => exact locs rfl
  case c2 => exact rfl
  case c3 => exact rfl
  case c4 => exact rfl
  intro L' h' tk0 F' N'
  dsimp only
  k_fold
  replace F' : Fr s.heap L' h' (fun y => List.lookup y [(Str.ofString "self", Value.ref I)]) := F'
  k_steps
  rename Fr _ _ _ _ => Fz
  exact ret _ _ Fz.keep

/-- the filterfalse object at I has handed out i texts -/
noncomputable def FfSt (prog : Program) (w : World) (hb : Heap) (C : Addr) (a g : Nat) (all xs : List Str) (I dI B S c Lt : Addr) (outer : List Env) (i : Nat) (s : Shared) : Prop :=
  ∃ j, j ≤ all.length ∧ i = ((all.take j).filter fun q => !xs.contains q).length ∧ AncAt prog w hb C all a g j s ∧
    s.heap.get? I = some (ffObj dI B a) ∧ s.heap.get? dI = some (dictOf [] 0) ∧ s.heap.get? B = some (inBound S) ∧ s.heap.SetOf (strKind prog w) S (fun k' => xs.contains k') c ∧
    s.heap.FunFrames hb outer ∧ ∃ m, Fr hb Lt s.heap m

section
variable {w : World} {A : Around} {mg mb : Str → Option Value} {mean : ExcName → Option Value} {hb : Heap} {a C g I dI B S c Lt D : Nat} {all xs : List Str} {outer : List Env}

noncomputable abbrev freshP (ys : List Str) : Nat → Value → Prop := fun i v => ∃ p t, ys[i]? = some p ∧ v = .str p t

theorem ff_walk (X : (hd.heap_39 w.params).In hb) (T : Top viewP (looseW viewP ["filterfalse"]) mean mg mb hb) (hA : A.handled = none ∧ A.frames = some outer ∧ A.depth + 40 ≤ 800 ∧ A.units + 200 ≤ 5000)
    (haC : a ≠ C) (hCb : hb.get? C = none) (hzC : hb.objs.size ≤ C)
    (nI : hb.get? I = none) (nd : hb.get? dI = none) (nB : hb.get? B = none) (nS : hb.get? S = none) (cI : I ≠ C) (cd : dI ≠ C) (cB : B ≠ C) (cS : S ≠ C) (frC : C ∉ outer.filterMap (·.frame)) (frL : Lt ∈ outer.filterMap (·.frame))
    (hD : hb.get? D = none ∧ D ≠ a ∧ D ≠ C ∧ D ≠ I ∧ D ≠ dI ∧ D ≠ B ∧ D ≠ S ∧ D ∉ outer.filterMap (·.frame)) :
    WalkH PySem.Challenge.rw_ij0079_01.row.prog w A I D C (outer.filterMap (·.frame)) g (all.filter fun q => !xs.contains q).length (freshP (all.filter fun q => !xs.contains q))
      (FfSt PySem.Challenge.rw_ij0079_01.row.prog w hb C a g all xs I dI B S c Lt outer) := by
  revert X
  k_fill
  intro X
  obtain ⟨dh, da, dC, dII, ddI, dB, dS, dfr⟩ := hD
  have inst : ∀ {i s}, FfSt PySem.Challenge.rw_ij0079_01.row.prog w hb C a g all xs I dI B S c Lt outer i s → InstAt s.heap I (ffObj dI B a) 117 (some (dictOf [] 0)) := fun ⟨j, _, _, _, h1, h2, _⟩ => ⟨h1, rfl, rfl, h2⟩
  have nxt : ∀ {i s} {Q : Option Value → Shared → Prop} {E : Value → Shared → Prop}, FfSt PySem.Challenge.rw_ij0079_01.row.prog w hb C a g all xs I dI B S c Lt outer i s →
      (∀ p t s', (all.filter fun q => !xs.contains q)[i]? = some p → FfSt PySem.Challenge.rw_ij0079_01.row.prog w hb C a g all xs I dI B S c Lt outer (i + 1) s' → Moved [C] (GenOnlyQ g) s s' → Q (some (.str p t)) s') →
      (∀ s', i = (all.filter fun q => !xs.contains q).length → Held C (outer.filterMap (·.frame)) g s s' → Q none s') → wpAny (model PySem.Challenge.rw_ij0079_01.row.prog w) A (pyNext (.ref I)) Q E s := by
    intro i s Q E hst item done
    have I1 := inst hst
    obtain ⟨j, hj, rfl, st, h1, h2, h3, h4, h5, mL, hL⟩ := hst
    unfold pyNext
    refine wpAny_bind (wpAny_attempt (special_fn (name := "__next__") (args := []) (f := 113) (X.keeps st.2.2.1) I1 (by k_is) (by k_is) ?_))
    obtain ⟨A1, A2, A3, A4⟩ := hA
    obtain ⟨ahd, adp, afr, agd, aun⟩ := A
    dsimp only at A1 A2 A3 A4
    subst A1; subst A2
    refine ff_next X T (by omega) (by omega) st hj haC hCb hzC h1 h2 h3 h4 nI nd nB nS cI cd cB cS h5 frC (fun k p t s' hjk hp hcp hin st' hm => ?_) fun ex s' hin hheld htk hex => ?_
    · have mv : ∀ {b : Addr} {o : Obj}, b ≠ C → s.heap.get? b = some o → s'.heap.get? b = some o := fun hb e => hm.heap _ _ (fun z => hb (List.mem_singleton.mp z)) e
      have hin' : ∀ i, j ≤ i → i < k → ∀ q, all[i]? = some q → (!xs.contains q) = false := fun i a b q e => by rw [hin i a b q e]; rfl
      have hcp' : (!xs.contains p) = true := by rw [hcp]; rfl
      have hkl : k < all.length := by
        rcases Nat.lt_or_ge k all.length with h | h
        · exact h
        · rw [List.getElem?_eq_none h] at hp; cases hp
      refine wpAny_pure (item p t s' (filt_get hjk hp hcp' hin') ⟨k + 1, hkl, ?_, st', mv cI h1, mv cd h2, mv cB h3, ?_, funFrames_on (fun b hb o e => ⟨o.slots, mv (fun z => frC (z ▸ hb)) e⟩) h5, mL, ?_⟩ hm)
      · rw [filt_next hjk hp hcp' hin']; simp
      · obtain ⟨oS, es, ep, tb, hoS, r⟩ := h4
        exact ⟨oS, es, ep, tb, mv cS hoS, r⟩
      · obtain ⟨oL, es, ep, hoL, r⟩ := hL.ns
        exact ⟨⟨oL, es, ep, mv (fun z => frC (z ▸ frL)) hoL, r⟩, st'.2.2.1, hL.above⟩
    · obtain ⟨o, ho, hc⟩ := hex
      refine wpAny_bind (wpAny_isInstance (T := "StopIteration") (b := true) ⟨o, ho, hc⟩ isSubtype_stop ?_)
      refine wpAny_pure (done s' (by rw [filt_all (fun i a b q e => by rw [hin i a b q e]; rfl)]) hheld)
  refine ⟨?_, ?_, ?_, ?_, ?_, ?_, ?_, ⟨dC, dfr, dII⟩⟩
  · rintro i s h' tk ⟨j, hj, hi, st, h1, h2, h3, h4, h5, mL, hL⟩ k
    have kb : Kept hb h' := fun b o e => k b o (fun z => by rw [z, dh] at e; cases e) (st.2.2.1 b o e)
    refine ⟨j, hj, hi, AncAt.kept st (fun o e => k _ _ (Ne.symm da) e) (fun o e => k _ _ (Ne.symm dC) e) kb, k _ _ (Ne.symm dII) h1, k _ _ (Ne.symm ddI) h2, k _ _ (Ne.symm dB) h3, ?_, funFrames_on (fun b hb o e => ⟨o.slots, k _ _ (fun z => dfr (z ▸ hb)) e⟩) h5, mL, ?_⟩
    · obtain ⟨oS, es, ep, tb, hoS, r⟩ := h4
      exact ⟨oS, es, ep, tb, k _ _ (Ne.symm dS) hoS, r⟩
    · obtain ⟨oL, es, ep, hoL, r⟩ := hL.ns
      exact ⟨⟨oL, es, ep, k _ _ (fun z => dfr (z ▸ frL)) hoL, r⟩, kb, hL.above⟩
  · intro i s Q E hi hst hq
    exact nxt hst (fun p t s' hp hst' hm => hq _ _ ⟨p, t, hp, rfl⟩ hst' hm) fun s' h => absurd hi (by omega)
  · intro s Q E hst hq
    exact nxt hst (fun p t s' hp => by rw [List.getElem?_eq_none (Nat.le_refl _)] at hp; cases hp) fun s' _ h => hq s' h
  · intro i s Q E hst hq
    have I1 := inst hst
    obtain ⟨j, hj, hi, st, h1, h2, h3, h4, h5, mL, hL⟩ := hst
    refine owit_iter hL X I1 (f := 106) (by k_is) (by k_is) ?_
    refine ff_iter (X.keeps st.2.2.1) (T.keeps st.2.2.1) (by omega) fun h' tk' kp => ?_
    exact owit_it (Fr.kept hL kp) X (⟨kp _ _ h1, rfl, rfl, kp _ _ h2⟩ : InstAt h' I (ffObj dI B a) 117 (some (dictOf [] 0))) (g := .ref 113) (by k_is) (hq _ _ kp)
  · intro i s Q E hst hq
    exact (inst hst).type.here hq
  · intro i s Q E hst hq
    have I1 := inst hst
    obtain ⟨j, hj, hi, st, h1, h2, h3, h4, h5, mL, hL⟩ := hst
    exact wpAny_bind (I1.type.here ((looks_findIn (X.keeps st.2.2.1) (name := "__len__") (by k_is)).here hq))
  · intro i s Q E hst hq
    have I1 := inst hst
    obtain ⟨j, hj, hi, st, h1, h2, h3, h4, h5, mL, hL⟩ := hst
    exact wpAny_bind (I1.type.here ((looks_findIn (X.keeps st.2.2.1) (name := "__length_hint__") (by k_is)).here hq))
end
end Mine
end

section
open PySem PySem.W PySem.Calls PyProof.Rows PySem.Spec PyProof
set_option maxRecDepth 100000
set_option maxHeartbeats 8000000
namespace Mine

theorem get_extract {h : Heap} {n b : Nat} : (⟨h.objs.extract 0 n, h.life⟩ : Heap).get? b = if b < n then h.get? b else none := by
  unfold Heap.get?
  dsimp only
  rw [Array.getElem?_extract]
  simp only [Nat.sub_zero, Nat.zero_add]
  by_cases hb : b < n
  · by_cases hz : b < h.objs.size
    · rw [if_pos (by omega), if_pos hb]
    · rw [if_neg (by omega), if_pos hb, Array.getElem?_eq_none (by omega)]
  · rw [if_neg (by omega), if_neg hb]

/-- the heap of hb and one namespace more -/
theorem ghost {hb h : Heap} {LL : Addr} {mL : Str → Option Value} (FL : Fr hb LL h mL) :
    ∃ g : Heap, g.objs.size = LL + 1 ∧ (∀ b o, hb.get? b = some o → g.get? b = some o) ∧ (∀ b o, g.get? b = some o → h.get? b = some o) ∧ (∀ b, b ≠ LL → hb.get? b = none → g.get? b = none) ∧
      ∃ o, h.get? LL = some o ∧ g.get? LL = some o ∧ (∀ vs, o.data ≠ .fields vs) ∧ hb.get? LL = none := by
  obtain ⟨oL, es, ep, hL, hd, hr⟩ := FL.ns
  have hlt : LL < h.objs.size := Heap.lt_size hL
  have hn : hb.get? LL = none := Heap.get?_none_of_le FL.above
  refine ⟨hideAll ⟨h.objs.extract 0 (LL + 1), h.life⟩ ((List.range LL).filter fun b => (hb.get? b).isNone), ?_, ?_, ?_, ?_, oL, hL, ?_, fun vs q => (by rw [hd] at q; cases q), hn⟩
  · rw [hideAll_size]
    show (h.objs.extract 0 (LL + 1)).size = LL + 1
    rw [Array.size_extract, Nat.sub_zero]; exact Nat.min_eq_left hlt
  · intro b o e
    have hb : b < LL := Nat.lt_of_lt_of_le (Heap.lt_size e) FL.above
    refine hideAll_get _ ?_ ?_
    · rw [get_extract, if_pos (Nat.lt_succ_of_lt hb)]; exact FL.keep b o e
    · intro hm
      have := (List.mem_filter.mp hm).2
      rw [e] at this; cases this
  · intro b o e
    have := of_hideAll _ e
    rw [get_extract] at this
    split at this
    · exact this
    · cases this
  · intro b hb hnb
    rcases Nat.lt_trichotomy b LL with h1 | h1 | h1
    · exact hideAll_none _ (List.mem_filter.mpr ⟨List.mem_range.mpr h1, by rw [hnb]; rfl⟩)
    · exact absurd h1 hb
    · refine Heap.get?_none_of_le ?_
      rw [hideAll_size]
      show (h.objs.extract 0 (LL + 1)).size ≤ b
      rw [Array.size_extract, Nat.sub_zero, Nat.min_eq_left hlt]; exact h1
  · refine hideAll_get _ ?_ ?_
    · rw [get_extract, if_pos (Nat.lt_succ_self _)]; exact hL
    · intro hm
      have := List.mem_range.mp (List.mem_filter.mp hm).1
      exact absurd this (Nat.lt_irrefl _)

section
variable {prog : Program} {w : World} {A : Around} {E : Value → Shared → Prop} {s : Shared} {hb : Heap} {L : Addr} {m : Str → Option Value} {news : List (Addr × Obj)}
/-- the entry into a function with cells; all that stood stands -/
theorem code_cellsN {K : Frag} {mg mb : Str → Option Value} {p : Program} {loose : List Str} {mean : ExcName → Option Value} {R : Result → Shared → Prop} {name qual : Str} {params : Arguments} {body : List Stmt} {scope : Scope} {dV kV doc pm cdv ct oc : Value} {an od : Option Addr} {osl : Array (Option Value)} {f : Addr} {args : Args} {binds : List (Str × Value)}
    (X₀ : K.In hb) (T : Top p loose mean mg mb hb) (kb : Kept hb s.heap) (hsz : hb.objs.size ≤ s.heap.objs.size)
    (ho : K.lookup f = some ⟨oc, od, .func (fnOf name qual params body scope dV kV doc pm an cdv ct), osl⟩) (hcd : codeIn K cdv qual = true) (hroom : A.depth < recursionLimit)
    (hbind : BindsTo s (fnOf name qual params body scope dV kV doc pm an cdv ct) args binds) (hkind : (binds.all fun y => scope.names.lookup y.1 == some .local || scope.names.lookup y.1 == some .cell) = true)
    (hnd : ((cellsFrom 0 scope.names []).map (·.1)).Nodup)
    (h : ∀ L' h₁ tk cells, L' = s.heap.objs.size → Fr hb L' h₁ (bindL (envOfC qual scope L' f cdv).kindOf binds fun _ => none) → News hb L' h₁ cells → Kept s.heap h₁ →
      CellsAre (bindC (envOfC qual scope L' f cdv).kindOf binds fun _ => none) (cellsFrom (L' + 1) scope.names []) cells → (∀ q ∈ cells, s.heap.get? q.1 = none) →
      wpAny (model prog w) (A.deeper (envOfC qual scope L' f cdv)) (execs body (envOfC qual scope L' f cdv))
        (fun fl s' => R (.ok (.ret (match fl with | .ret v => v | _ => .none))) s')
        (fun e s' => wpAny (model prog w) (A.deeper (envOfC qual scope L' f cdv)) (leaving (envOfC qual scope L' f cdv) e) (fun _ s'' => R (.error e) s'') (fun e' s'' => R (.error e') s'') s')
        { s with heap := h₁, toks := tk })
    (hco : scope.isCoroutine = false) (hgen : scope.isGenerator = false) (hk : scope.kind = .function) : codeAny (model prog w) A (.call (.ref f) args) R s := by
  refine codeAny_call_function hroom (X₀.keeps kb _ _ ho) rfl hco hgen rfl (codeRec_of (X₀.keeps kb) hcd) (hbind _ _ _ _ ?_)
  refine wpAny_newFunctionEnv_cells hk (kindsX hkind _) fun env' he s' x => ?_
  subst he
  refine ⟨(T.nolimit.keeps kb).keeps x.toInCall.keep, codeAny_func ?_⟩
  obtain ⟨h₁, tk, rfl, _⟩ := x.done
  have hk₁ := x.toInCall.keep
  obtain ⟨cells, NC, Y⟩ := Cl.news (h₀ := s.heap) (Nat.le_refl _) fun n c hm => ⟨x.cell n c (lookup_of_mem_nodup (cellsFrom_names scope.names 0 (s.heap.objs.size + 1) [] [] rfl ▸ hnd) hm), x.above n c hm⟩
  refine h s.heap.objs.size h₁ tk cells rfl ⟨x.toInCall.ns, fun b o e => hk₁ b o (kb b o e), hsz⟩ (fun q hq => ⟨(NC q hq).1, (NC q hq).2.1, ?_⟩) hk₁ Y fun q hq => (NC q hq).2.2
  cases r : hb.get? q.1 with
  | none => rfl
  | some o => have := kb _ _ r; rw [(NC q hq).2.2] at this; cases this
end

theorem all_news2 {hb h : Heap} {L : Addr} {m : Str → Option Value} (LL : Addr) (F : Fr hb L h m) : ∃ news, News hb L h news ∧ (∀ q ∈ news, q.1 ≠ LL) ∧ ∀ h' m', Fr hb L h' m' → News hb L h' news → ∀ b o, b ≠ L → b ≠ LL → h.get? b = some o → h'.get? b = some o := by
  obtain ⟨news, N, hall⟩ := all_news F
  refine ⟨(List.range h.objs.size).filterMap (fun b => if b = L ∨ b = LL ∨ (hb.get? b).isSome = true then none else (h.get? b).map fun o => (b, o)), fun p hp => ?_, fun p hp => ?_, fun h' m' F' N' b o hne hn2 e => ?_⟩
  · obtain ⟨b, _, hb'⟩ := List.mem_filterMap.mp hp
    split at hb'
    · cases hb'
    · rename_i hn
      cases q : h.get? b with
      | none => rw [q] at hb'; cases hb'
      | some o =>
        rw [q] at hb'
        cases hb'
        refine ⟨q, fun e => hn (.inl e), ?_⟩
        cases r : hb.get? b with
        | none => rfl
        | some o' => exact absurd (.inr (.inr (by rw [r]; rfl))) hn
  · obtain ⟨b, _, hb'⟩ := List.mem_filterMap.mp hp
    split at hb'
    · cases hb'
    · rename_i hn
      cases q : h.get? b with
      | none => rw [q] at hb'; cases hb'
      | some o =>
        rw [q] at hb'
        cases hb'
        exact fun e => hn (.inr (.inl e))
  · cases r : hb.get? b with
    | some o' =>
      have e1 := F.keep b o' r
      rw [e] at e1
      cases e1
      exact F'.keep b _ r
    | none =>
      refine (N' (b, o) (List.mem_filterMap.mpr ⟨b, List.mem_range.mpr (Heap.lt_size e), ?_⟩)).1
      rw [if_neg (by rintro (h9 | h9 | h9); exact hne h9; exact hn2 h9; rw [r] at h9; cases h9), e]
      rfl
end Mine
end

section
open PySem PySem.W PySem.Calls PyProof.Rows PySem.Spec PyProof
set_option maxRecDepth 100000
set_option maxHeartbeats 8000000
namespace Mine
section
variable {prog : Program} {w : World} {A : Around} {E : Value → Shared → Prop} {s : Shared} {env : Env}

theorem on_list {l : Addr} {items : Array Value} {k : Nat} {t : Tok} {v : Value} {Q : Value → Shared → Prop} (hl : s.heap.IsList l items) (hv : items[k]? = some v) (hk : (k : Int) < 2 ^ 63) (h : Q v s) :
    SubscriptOn (model prog w) A (.ref l) (.int k t) Q E s :=
  ⟨"list", _, slot_list_getitem.lookup, hl.typeIs, wpAny_getItem_list hl (Int.natCast_nonneg _) hk (by rw [Int.toNat_natCast]; exact hv) h⟩

theorem on_dict {d : Addr} {kvs : List (Str × Value)} {k : Str} {t : Tok} {v : Value} {Q : Value → Shared → Prop} (hd : s.heap.DictOf (strKind prog w) d kvs) (hv : valueAt kvs k = some v) (h : Q v { s with toks := s.toks + 1 }) :
    SubscriptOn (model prog w) A (.ref d) (.str k t) Q E s :=
  ⟨"dict", _, slot_dict_getitem.lookup, hd.typeIs, wpAny_getItem_of (strKind_is _ _ _ _) hd.mapOf hv h⟩

theorem valueAt_stored {kvs : List (Str × Value)} {k k' : Str} {y : Value} : valueAt (stored kvs k y) k' = if k = k' then some y else valueAt kvs k' := by
  unfold valueAt stored
  by_cases ha : kvs.any (fun kv => kv.1 = k) = true
  · rw [if_pos ha]
    induction kvs with
    | nil => cases ha
    | cons p r ih =>
      rw [List.map_cons, List.find?_cons, List.find?_cons]
      by_cases hp : p.1 = k
      · simp only [hp, if_true]
        by_cases hk : k = k'
        · simp [hk]
        · have e1 : decide (k = k') = false := by simp [hk]
          simp only [e1, hk, if_false]
          by_cases ha2 : r.any (fun kv => kv.1 = k) = true
          · have := ih ha2
            rw [if_neg hk] at this
            exact this
          · have e2 : r.map (fun kv => if kv.1 = k then (kv.1, y) else kv) = r := by
              conv => rhs; rw [← List.map_id r]
              refine List.map_congr_left fun q hq => ?_
              by_cases hqk : q.1 = k
              · exact absurd (List.any_eq_true.mpr ⟨q, hq, by simp [hqk]⟩) ha2
              · simp [hqk]
            rw [e2]; simp
      · simp only [hp, if_false]
        have ha2 : r.any (fun kv => kv.1 = k) = true := by
          rw [List.any_cons] at ha
          simpa [hp] using ha
        by_cases hk : p.1 = k'
        · have hkk : ¬ k = k' := fun z => hp (hk.trans z.symm)
          simp [hk, hkk]
        · have e1 : decide (p.1 = k') = false := by simp [hk]
          simp only [e1]
          exact ih ha2
  · rw [if_neg ha]
    by_cases hk : k = k'
    · subst hk
      rw [if_pos rfl, List.find?_append]
      have : kvs.find? (fun kv => kv.1 = k) = none := by
        rw [List.find?_eq_none]
        intro q hq hqk
        exact ha (List.any_eq_true.mpr ⟨q, hq, hqk⟩)
      rw [this]; simp
    · rw [if_neg hk, List.find?_append]
      have : ([(k, y)] : List (Str × Value)).find? (fun kv => kv.1 = k') = none := by simp [hk]
      rw [this, Option.or_none]

/-- what the dict of worths says -/
noncomputable def WorthIs (ns : List Str) (ws : List Int) (n : Nat) (kvs : List (Str × Value)) : Prop := ∀ (i : Nat) (k : Str) (x : Int), i < n → ns[i]? = some k → ws[i]? = some x → ∃ u, valueAt kvs k = some (.int x u)

theorem worth_stored {ns : List Str} {ws : List Int} (hnd : ns.Nodup) {l : List Value} {kvs : List (Str × Value)}
    (h : StoredAll (fun v k => ∃ (i : Nat) (t : Tok), v = .int i t ∧ ns[i]? = some k) (fun v y => ∃ (i : Nat) (t u : Tok) (x : Int), v = .int i t ∧ y = .int x u ∧ ws[i]? = some x) l kvs) :
    (∀ (j : Nat) (v : Value), l[j]? = some v → ∃ t, v = .int (j : Int) t) → WorthIs ns ws l.length kvs := by
  induction h with
  | nil => intro _ i k x hi; exact absurd hi (Nat.not_lt_zero _)
  | @snoc l kvs v k y hs hk hv ih =>
    intro hl i k' x hi hk' hx
    have hl' : ∀ (j : Nat) (v : Value), l[j]? = some v → ∃ t, v = .int (j : Int) t := fun j u hj => hl j u (by
      have hlt : j < l.length := by
        rcases Nat.lt_or_ge j l.length with h | h
        · exact h
        · rw [List.getElem?_eq_none h] at hj; cases hj
      rw [List.getElem?_append_left hlt]; exact hj)
    obtain ⟨t, hvt⟩ := hl l.length v (by simp)
    subst hvt
    obtain ⟨i₁, t₁, e₁, hk₁⟩ := hk
    obtain ⟨i₂, t₂, u₂, x₂, e₂, rfl, hx₂⟩ := hv
    have h1 : i₁ = l.length := by injection e₁ with a b; omega
    have h2 : i₂ = l.length := by injection e₂ with a b; omega
    subst h1; subst h2
    rw [valueAt_stored]
    by_cases hkk : k = k'
    · subst hkk
      have : i = l.length := by
        have hi1 : i < ns.length := by
          rcases Nat.lt_or_ge i ns.length with h | h
          · exact h
          · rw [List.getElem?_eq_none h] at hk'; cases hk'
        exact (List.getElem?_inj hi1 hnd).mp (hk'.trans hk₁.symm)
      subst this
      rw [hx] at hx₂; cases hx₂
      exact ⟨u₂, by rw [if_pos rfl]⟩
    · rw [if_neg hkk]
      have hne : i ≠ l.length := fun z => by subst z; rw [hk'] at hk₁; exact hkk (Option.some.inj hk₁).symm
      rw [List.length_append, List.length_singleton] at hi
      exact ih hl' i k' x (by omega) hk' hx
end
end Mine
end

section
open PySem PySem.W PySem.Calls PyProof.Rows PySem.Spec PyProof
set_option maxRecDepth 100000
set_option maxHeartbeats 8000000
namespace Mine
section
variable {prog : Program} {w : World} {A : Around} {E : Value → Shared → Prop} {s : Shared} {env : Env} {scope : Scope} {cl : List (Str × Addr)} {C : Addr}

/-- a subscript of a list in a cell by a variable of the block -/
theorem sub_free {x y : Str} {p1 p2 p3 : Pos} {c l : Addr} {items : Array Value} {m : Str → Option Value} {k : Nat} {t : Tok} {v : Value} {Q : Value → Shared → Prop}
    (hf : (compEnvC scope cl C env).scope.kind = .function) (kx : (compEnvC scope cl C env).kindOf x = some .cell) (ky : (compEnvC scope cl C env).kindOf y = some .local) (hl : cl.lookup x = some c)
    (hx1 : (x == ("__debug__" : Str)) = false) (hy1 : (y == ("__debug__" : Str)) = false)
    (hc : s.heap.IsCell c (some (.ref l))) (hli : s.heap.IsList l items) (hn : s.heap.Ns C m) (hm : m y = some (.int k t)) (hv : items[k]? = some v) (hk : (k : Int) < 2 ^ 63) (h : Q v s) :
    wpAny (model prog w) A (eval (.Subscript (.Name x p1) (.Name y p2) p3) (compEnvC scope cl C env)) Q E s := by
  refine wpAny_Subscript_Name_late (ldCellK hl hc ?_ hf kx hx1)
  refine ldVarK (m := m) hn hm ?_ hf ky hy1
  exact on_list hli hv hk h

theorem StrsAre.get {vs : Array Value} {xs : List Str} (h : StrsAre vs.toList xs) {i : Nat} {x : Str} (hx : xs[i]? = some x) : ∃ t, vs[i]? = some (.str x t) := by
  have hlt : i < vs.toList.length := by
    rw [h.1]
    rcases Nat.lt_or_ge i xs.length with h1 | h1
    · exact h1
    · rw [List.getElem?_eq_none h1] at hx; cases hx
  obtain ⟨t, x', hx', e⟩ := h.2 i _ (List.getElem?_eq_getElem hlt)
  rw [hx] at hx'; cases hx'
  exact ⟨t, by rw [← Array.getElem?_toList, List.getElem?_eq_getElem hlt, e]⟩
theorem IntsAre.get {vs : Array Value} {xs : List Int} (h : IntsAre vs.toList xs) {i : Nat} {x : Int} (hx : xs[i]? = some x) : ∃ t, vs[i]? = some (.int x t) := by
  have : ∀ {l : List Value} {xs : List Int}, IntsAre l xs → ∀ {i : Nat} {x : Int}, xs[i]? = some x → ∃ t, l[i]? = some (.int x t) := by
    intro l xs h
    induction h with
    | nil => intro i x hx; simp at hx
    | cons _ _ _ ih =>
      intro i x hx
      cases i with
      | zero => simp only [List.getElem?_cons_zero, Option.some.injEq] at hx ⊢; subst hx; exact ⟨_, rfl⟩
      | succ i => simp only [List.getElem?_cons_succ] at hx ⊢; exact ih hx
  obtain ⟨t, ht⟩ := this h hx
  exact ⟨t, by rw [← Array.getElem?_toList]; exact ht⟩

theorem keeps_refl (s : Shared) : Keeps s s := ⟨s.heap, s.toks, rfl, fun _ _ e => e⟩

theorem quiet_worth {c1 c2 Nm Ws : Addr} {nms wos : Array Value} {ns : List Str} {ws : List Int} {wr : List Addr} {n : Nat} {p1 p2 p3 p4 p5 p6 : Pos}
    (hf : ∀ C, (compEnvC scope cl C env).scope.kind = .function) (k1 : ∀ C, (compEnvC scope cl C env).kindOf (Str.ofString "names") = some .cell) (k2 : ∀ C, (compEnvC scope cl C env).kindOf (Str.ofString "worths") = some .cell)
    (kk : ∀ C, (compEnvC scope cl C env).kindOf (Str.ofString "k") = some .local) (l1 : cl.lookup (Str.ofString "names") = some c1) (l2 : cl.lookup (Str.ofString "worths") = some c2)
    (hc1 : s.heap.IsCell c1 (some (.ref Nm))) (hc2 : s.heap.IsCell c2 (some (.ref Ws))) (hNm : s.heap.IsList Nm nms) (hns : StrsAre nms.toList ns) (hWs : s.heap.IsList Ws wos) (hws : IntsAre wos.toList ws)
    (w1 : c1 ∉ wr) (w2 : c2 ∉ wr) (w3 : Nm ∉ wr) (w4 : Ws ∉ wr) (hn1 : n ≤ ns.length) (hn2 : n ≤ ws.length) (hn3 : n ≤ 1000) :
    QuietOnCD (strKind prog w) A env scope cl (Str.ofString "k") [] (.Subscript (.Name (Str.ofString "names") p1) (.Name (Str.ofString "k") p2) p3) (.Subscript (.Name (Str.ofString "worths") p4) (.Name (Str.ofString "k") p5) p6) wr
      (fun i v => i < n ∧ ∃ t, v = .int (0 + (i : Int)) t) (fun _ => true) (fun v k => ∃ (i : Nat) (t : Tok), v = .int i t ∧ ns[i]? = some k) (fun v y => ∃ (i : Nat) (t u : Tok) (x : Int), v = .int i t ∧ y = .int x u ∧ ws[i]? = some x) s where
  tests := fun C i v s₃ m₃ E' _ _ _ _ => wpAny_pure ⟨rfl, keeps_refl _⟩
  key := fun C i v s₃ m₃ E' hP _ hn hm hk => by
    obtain ⟨hi, t, rfl⟩ := hP
    rw [Int.zero_add] at hm
    obtain ⟨x, hx⟩ : ∃ x, ns[i]? = some x := ⟨_, List.getElem?_eq_getElem (by omega)⟩
    obtain ⟨t', hv⟩ := hns.get hx
    obtain ⟨oc, hoc, hdc⟩ := hc1
    obtain ⟨ol, hol, hcl, nl, hdl⟩ := hNm
    refine sub_free (hf C) (k1 C) (kk C) l1 (by decide) (by decide) ⟨oc, hk _ _ w1 hoc, hdc⟩ ⟨ol, hk _ _ w3 hol, hcl, nl, hdl⟩ hn hm hv (by omega) ⟨⟨x, strKind_is _ _ _ _, i, t, by rw [Int.zero_add], hx⟩, keeps_refl _⟩
  val := fun C i v s₃ m₃ E' hP _ hn hm hk => by
    obtain ⟨hi, t, rfl⟩ := hP
    rw [Int.zero_add] at hm
    obtain ⟨x, hx⟩ : ∃ x, ws[i]? = some x := ⟨_, List.getElem?_eq_getElem (by omega)⟩
    obtain ⟨t', hv⟩ := IntsAre.get hws hx
    obtain ⟨oc, hoc, hdc⟩ := hc2
    obtain ⟨ol, hol, hcl, nl, hdl⟩ := hWs
    refine sub_free (hf C) (k2 C) (kk C) l2 (by decide) (by decide) ⟨oc, hk _ _ w2 hoc, hdc⟩ ⟨ol, hk _ _ w4 hol, hcl, nl, hdl⟩ hn hm hv (by omega) ⟨⟨i, t, t', x, by rw [Int.zero_add], rfl, hx⟩, keeps_refl _⟩
end
end Mine
namespace Mine
section
variable {prog : Program} {w : World} {A : Around} {E : Value → Shared → Prop} {s : Shared}
theorem tail_list {value slice : PySem.Expr} {l : Addr} {o : Obj} {items : Array Value} {nn k : Nat} {t : Tok} {v : Value} {Q : Value → Shared → Prop} (ho : s.heap.get? l = some o) (hc : o.cls = .type "list") (hd : o.data = .seq items nn)
    (hv : items[k]? = some v) (hk : (k : Int) < 2 ^ 63) (h : Q v s) (hs : subscripted slice false (.ref l) (.int k t) = operate [.ref l, .int k t] (getItem (.ref l) (.int k t)) := by with_unfolding_all rfl) :
    wpAny (model prog w) A (subscriptTail value slice (.ref l) (.int k t)) Q E s := by
  have hl : s.heap.IsList l items := ⟨o, ho, hc, nn, hd⟩
  exact tail_any hl.typeIs slot_list_getitem.lookup (wpAny_getItem_list hl (Int.natCast_nonneg _) hk (by rw [Int.toNat_natCast]; exact hv) h) hs
theorem tail_dict {value slice : PySem.Expr} {d : Addr} {o : Obj} {kvs : List (Str × Value)} {k : Str} {t : Tok} {v : Value} {Q : Value → Shared → Prop} (ho : s.heap.get? d = some o) (hd : o.IsDictOf (strKind prog w) kvs)
    (hv : valueAt kvs k = some v) (h : Q v { s with toks := s.toks + 1 }) (hs : subscripted slice false (.ref d) (.str k t) = operate [.ref d, .str k t] (getItem (.ref d) (.str k t)) := by with_unfolding_all rfl) :
    wpAny (model prog w) A (subscriptTail value slice (.ref d) (.str k t)) Q E s := by
  have hD : s.heap.DictOf (strKind prog w) d kvs := Heap.dictOf_iff.mpr ⟨o, ho, hd⟩
  exact tail_any hD.typeIs slot_dict_getitem.lookup (wpAny_getItem_of (strKind_is _ _ _ _) hD.mapOf hv h) hs
end
end Mine
end

section
open PySem PySem.W PySem.Calls PyProof.Rows PySem.Spec PyProof
set_option maxRecDepth 100000
set_option maxHeartbeats 8000000
namespace Mine
section
variable {prog : Program} {w : World} {A : Around} {E : Value → Shared → Prop} {s : Shared} {env : Env} {scope : Scope} {cl : List (Str × Addr)} {C : Addr}

theorem sum_ints {l : Addr} {items : Array Value} {zs : List Int} {Q : Value → Shared → Prop} (hh : A.handled = none) (hl : s.heap.IsList l items) (hi : IntsAre items.toList zs)
    (h : ∀ h' tk t', Kept s.heap h' → Q (.int zs.sum t') { s with heap := h', toks := tk }) : wpAny (model prog w) A (call (.builtin "sum") [.ref l]) Q E s := by
  have hall : AllInts items := by have := hi.allInts; simpa using this
  obtain ⟨xs, rfl⟩ := hall.items
  have hn := hi.numsOf
  rw [nums_intItems] at hn
  refine sum_intListG hh hl fun h' tk t' hk => ?_
  have := h h' tk t' hk
  rw [preSum_eq, List.take_of_length_le (by simp), hn]; exact this

theorem ints_of : ∀ {ys : List Value} {zs : List Int}, ys.length = zs.length → (∀ (j : Nat) (y : Value), ys[j]? = some y → ∃ x u, zs[j]? = some x ∧ y = .int x u) → IntsAre ys zs := by
  intro ys
  induction ys with
  | nil =>
    intro zs hl _
    cases zs with
    | nil => exact .nil
    | cons => cases hl
  | cons y ys ih =>
    intro zs hl h
    cases zs with
    | nil => cases hl
    | cons z zs =>
      obtain ⟨x, u, hx, rfl⟩ := h 0 y rfl
      simp only [List.getElem?_cons_zero, Option.some.injEq] at hx
      subst hx
      exact .cons _ _ (ih (by simpa using hl) fun j y' hj => h (j + 1) y' (by simpa using hj))

theorem range_true (n : Nat) : (List.range n).filter (fun _ => true) = List.range n := List.filter_eq_self.mpr fun _ _ => rfl

/-- the block's list, when nothing is left out and every item is an int -/
theorem compOut_ints {n : Nat} {P : Nat → Value → Prop} {F : List (Addr × Obj) → Nat → Value → Value → Prop} {news : List (Addr × Obj)} {ys : List Value} {zs : List Int} (h : CompOut n P (fun _ => true) F news ys) (hz : zs.length = n)
    (hF : ∀ i v y, P i v → F news i v y → ∃ x u, zs[i]? = some x ∧ y = .int x u) : IntsAre ys zs := by
  obtain ⟨hl, hy⟩ := h
  rw [range_true, List.length_range] at hl
  refine ints_of (by omega) fun j y hj => ?_
  have hlt : j < n := by
    rw [← hl]
    rcases Nat.lt_or_ge j ys.length with h | h
    · exact h
    · rw [List.getElem?_eq_none h] at hj; cases hj
  obtain ⟨v, hP, hf⟩ := hy j j y (by rw [range_true, List.getElem?_range hlt]) hj
  exact hF j v y hP hf

/-- a subscript of a dict in a cell by a text variable of the block -/
theorem sub_free_dict {x y : Str} {p1 p2 p3 : Pos} {c d : Addr} {kvs : List (Str × Value)} {m : Str → Option Value} {k : Str} {t : Tok} {v : Value} {Q : Value → Shared → Prop}
    (hf : (compEnvC scope cl C env).scope.kind = .function) (kx : (compEnvC scope cl C env).kindOf x = some .cell) (ky : (compEnvC scope cl C env).kindOf y = some .local) (hl : cl.lookup x = some c)
    (hx1 : (x == ("__debug__" : Str)) = false) (hy1 : (y == ("__debug__" : Str)) = false)
    (hc : s.heap.IsCell c (some (.ref d))) (hd : s.heap.DictOf (strKind prog w) d kvs) (hn : s.heap.Ns C m) (hm : m y = some (.str k t)) (hv : valueAt kvs k = some v) (h : Q v { s with toks := s.toks + 1 }) :
    wpAny (model prog w) A (eval (.Subscript (.Name x p1) (.Name y p2) p3) (compEnvC scope cl C env)) Q E s := by
  refine wpAny_Subscript_Name_late (ldCellK hl hc ?_ hf kx hx1)
  refine ldVarK (m := m) hn hm ?_ hf ky hy1
  exact on_dict hd hv h

theorem moved_refl (s : Shared) : Moved [] (fun a b => b = a) s s := ⟨fun _ _ _ e => e, rfl, rfl, rfl, Nat.le_refl _⟩

/-- [worth[name] for name in ..]: the turn -/
theorem worth_turn {c d : Addr} {kvs : List (Str × Value)} {wf : Str → Int} {all : List Str} {wr : List Addr} {GG : GRel} {P : Nat → Value → Prop} {St : Nat → Shared → Prop} {p1 p2 p3 : Pos}
    (hf : ∀ C, (compEnvC scope cl C env).scope.kind = .function) (kx : ∀ C, (compEnvC scope cl C env).kindOf (Str.ofString "worth") = some .cell) (ky : ∀ C, (compEnvC scope cl C env).kindOf (Str.ofString "name") = some .local)
    (hl : cl.lookup (Str.ofString "worth") = some c) (hc : s.heap.IsCell c (some (.ref d))) (hd : s.heap.DictOf (strKind prog w) d kvs) (hcw : c ∉ wr) (hdw : d ∉ wr)
    (hP : ∀ i v, P i v → ∃ q t, all[i]? = some q ∧ v = .str q t) (hv : ∀ q ∈ all, ∃ u, valueAt kvs q = some (.int (wf q) u)) :
    CompWork prog w A env scope cl (Str.ofString "name") [] (.Subscript (.Name (Str.ofString "worth") p1) (.Name (Str.ofString "name") p2) p3) wr GG (fun a b => b = a) P St (fun _ => true)
      (fun _ i v y => ∃ q t u, all[i]? = some q ∧ v = .str q t ∧ y = .int (wf q) u) s where
  tests := fun C i v s₃ m₃ _ _ _ _ _ => wpAny_pure ⟨rfl, moved_refl _⟩
  elt := fun C i v s₃ m₃ _ hPi _ hn hm hmv => by
    obtain ⟨q, t, hq, rfl⟩ := hP i v hPi
    obtain ⟨u, hu⟩ := hv q (List.mem_of_getElem? hq)
    obtain ⟨oc, hoc, hdc⟩ := hc
    obtain ⟨od, es, ep, hod, r⟩ := hd
    refine sub_free_dict (hf C) (kx C) (ky C) hl (by decide) (by decide) ⟨oc, hmv.heap _ _ hcw hoc, hdc⟩ ⟨od, es, ep, hmv.heap _ _ hdw hod, r⟩ hn hm hu
      ⟨⟨fun _ _ _ e => e, rfl, rfl, rfl, Nat.le_succ _⟩, [], ⟨q, t, u, hq, rfl, rfl⟩, fun _ h => nomatch h⟩
end
end Mine
namespace Mine
theorem anc_side {prog : Program} {w : World} {hb : Heap} {C a gi : Nat} {all : List Str} {F : List (Addr × Obj) → Nat → Value → Value → Prop} (hF : ∀ a b i v y, (∀ q ∈ a, q ∈ b) → F a i v y → F b i v y) :
    CompSide (GenOnlyQ gi) (fun a b => b = a) (GenOnlyQ gi) [C] (AncAt prog w hb C all a gi) F where
  hg := fun _ _ h => h
  hg' := fun _ _ h => .inl h
  hrefl := fun _ => .inl rfl
  htr := fun _ _ _ => GenOnlyQ.trans
  hst' := fun i s gs st e => by subst e; exact st
  hwr := fun i s st b hb => by rw [List.mem_singleton.mp hb]; exact st.2.1
  hdo := fun i s dr os st => st
  hmono := hF

theorem worth_val {ns : List Str} {ws : List Int} {kvs : List (Str × Value)} {wf : Str → Int} (hW : WorthIs ns ws 6 kvs) (hn6 : ns.length = 6) (hw6 : ws.length = 6)
    (hwf : ∀ (i : Nat) (p : Str) (x : Int), ns[i]? = some p → ws[i]? = some x → wf p = x) {q : Str} (hq : q ∈ ns) : ∃ u, valueAt kvs q = some (.int (wf q) u) := by
  obtain ⟨i, hi⟩ := List.mem_iff_getElem?.mp hq
  have hlt : i < 6 := by
    rw [← hn6]
    rcases Nat.lt_or_ge i ns.length with h | h
    · exact h
    · rw [List.getElem?_eq_none h] at hi; cases hi
  have hx : ws[i]? = some (ws[i]'(by omega)) := List.getElem?_eq_getElem (by omega)
  obtain ⟨u, hu⟩ := hW i q _ hlt hi hx
  exact ⟨u, by rw [hu, hwf i q _ hi hx]⟩
end Mine
namespace Mine
theorem bare_only {g : Nat} {a b : Array GenState} (x : AllBare a) (h : GenOnlyQ g a b) : AllBare b := by
  rcases h with rfl | ⟨⟨hsz, hk⟩, hg⟩
  · exact x
  · intro y hy
    obtain ⟨i, hi, rfl⟩ := Array.getElem_of_mem hy
    by_cases e : i = g
    · exact hg _ (by rw [← e]; exact Array.getElem?_eq_getElem hi)
    · have h1 := hk i e
      rw [Array.getElem?_eq_getElem hi] at h1
      exact x _ (Array.mem_of_getElem? h1.symm)
end Mine
end

section
open PySem PySem.W PySem.Calls PyProof.Rows PySem.Spec PyProof
set_option maxRecDepth 100000
set_option maxHeartbeats 8000000
namespace Mine

open AutoSeq1 (wpAny_loadPart') in
theorem list_ne_nil (l b : Addr) (items : Array Value) (n n2 : Nat) (dd dd2 : Option Addr) (sl sl2 : Array (Option Value)) (hc : items.size ≠ 0) :
    Meets (Builtin.«list.__ne__» ⟨[.ref l, .ref b], []⟩)
      (fun _ R s => s.heap.get? l = some { cls := .type "list", dict := dd, data := .seq items n, slots := sl } ∧ s.heap.get? b = some { cls := .type "list", dict := dd2, data := .seq #[] n2, slots := sl2 } ∧
        R (.ok (.ret (.bool true))) s) :=
  .of_wp fun prog w A R s h => by
    obtain ⟨hp, g, d, tk, os⟩ := s; obtain ⟨hl, hb, h⟩ := h
    have f3 := AutoSeq1.sub_list_list
    have hc0 : (items.size != (#[] : Array Value).size) = true := by simpa using hc
    repeat (first | with_reducible apply wpAny_loadPart' hl | with_reducible apply wpAny_loadPart' hb | (first | with_reducible refine PySem.wpAny_bind ?_ | with_reducible refine PySem.wpAny_pure ?_ | with_reducible refine PySem.wpAny_of_eq (by assumption) ?_ | ((with_reducible fail_if_success first | show PySem.wpAny _ _ (PySem.mkStr _) _ _ _ | show PySem.wpAny _ _ (PySem.mkInt _) _ _ _ | show PySem.wpAny _ _ (PySem.typeOf _) _ _ _ | show PySem.wpAny _ _ (PySem.isInstance _ _) _ _ _ | show PySem.wpAny _ _ (PySem.specialOf _ _) _ _ _ | show PySem.wpAny _ _ (PySem.letGo _ _) _ _ _ | show PySem.wpAny _ _ (throw _) _ _ _ | show PySem.wpAny _ _ (PySem.Sem.attempt _) _ _ _); wp_delta) | (with_reducible apply PySem.wpAny_loadPart'; focus (heap_get; done)) | (with_reducible apply PySem.wpAny_load'; focus (heap_get; done)) | (with_reducible apply PySem.wpAny_ite_false; focus (first | (rfl; done) | (simp [*]; done))) | (with_reducible apply PySem.wpAny_ite_true; focus (first | (rfl; done) | (simp [*]; done))) | with_reducible refine PySem.wpAny_runValue ?_ | with_reducible refine PySem.wpAny_alloc' ?_ | with_reducible refine PySem.wpAny_typeOf (by assumption) ?_ | ((with_reducible show PySem.wpAny _ _ _ _ _ _); wp_step)))
    exact ⟨_, rfl, h⟩

open AutoSeq1 (wpAny_loadPart') in
theorem list_ne_nil0 (l b : Addr) (n n2 : Nat) (dd dd2 : Option Addr) (sl sl2 : Array (Option Value)) :
    Meets (Builtin.«list.__ne__» ⟨[.ref l, .ref b], []⟩)
      (fun _ R s => s.heap.get? l = some { cls := .type "list", dict := dd, data := .seq #[] n, slots := sl } ∧ s.heap.get? b = some { cls := .type "list", dict := dd2, data := .seq #[] n2, slots := sl2 } ∧
        R (.ok (.ret (.bool false))) s) := by
  intro prog w A R s h
  obtain ⟨hp, g, d, tk, os⟩ := s; obtain ⟨hl, hb, h⟩ := h
  have f3 := AutoSeq1.sub_list_list
  repeat (first | with_reducible apply wpAny_loadPart' hl | with_reducible apply wpAny_loadPart' hb | (first | with_reducible refine PySem.wpAny_bind ?_ | with_reducible refine PySem.wpAny_pure ?_ | with_reducible refine PySem.wpAny_of_eq (by assumption) ?_ | ((with_reducible fail_if_success first | show PySem.wpAny _ _ (PySem.mkStr _) _ _ _ | show PySem.wpAny _ _ (PySem.mkInt _) _ _ _ | show PySem.wpAny _ _ (PySem.typeOf _) _ _ _ | show PySem.wpAny _ _ (PySem.isInstance _ _) _ _ _ | show PySem.wpAny _ _ (PySem.specialOf _ _) _ _ _ | show PySem.wpAny _ _ (PySem.letGo _ _) _ _ _ | show PySem.wpAny _ _ (throw _) _ _ _ | show PySem.wpAny _ _ (PySem.Sem.attempt _) _ _ _); wp_delta) | (with_reducible apply PySem.wpAny_loadPart'; focus (heap_get; done)) | (with_reducible apply PySem.wpAny_load'; focus (heap_get; done)) | (with_reducible apply PySem.wpAny_ite_false; focus (first | (rfl; done) | (simp [*]; done))) | (with_reducible apply PySem.wpAny_ite_true; focus (first | (rfl; done) | (simp [*]; done))) | with_reducible refine PySem.wpAny_runValue ?_ | with_reducible refine PySem.wpAny_alloc' ?_ | with_reducible refine PySem.wpAny_typeOf (by assumption) ?_ | ((with_reducible show PySem.wpAny _ _ _ _ _ _); wp_step)))
  refine ⟨plainId_quiet MeetsSeq3.plain_eq_loop _, codeAny_builtin MeetsSeq3.entry_eq_loop (by
    rw [Around.under_plainId MeetsSeq3.plain_eq_loop _]
    unfold Builtin.«list.__eq__.loop»
    repeat (first | with_reducible apply wpAny_loadPart' hl | with_reducible apply wpAny_loadPart' hb | (first | with_reducible refine PySem.wpAny_bind ?_ | with_reducible refine PySem.wpAny_pure ?_ | with_reducible refine PySem.wpAny_of_eq (by assumption) ?_ | ((with_reducible fail_if_success first | show PySem.wpAny _ _ (PySem.mkStr _) _ _ _ | show PySem.wpAny _ _ (PySem.mkInt _) _ _ _ | show PySem.wpAny _ _ (PySem.typeOf _) _ _ _ | show PySem.wpAny _ _ (PySem.isInstance _ _) _ _ _ | show PySem.wpAny _ _ (PySem.specialOf _ _) _ _ _ | show PySem.wpAny _ _ (PySem.letGo _ _) _ _ _ | show PySem.wpAny _ _ (throw _) _ _ _ | show PySem.wpAny _ _ (PySem.Sem.attempt _) _ _ _); wp_delta) | (with_reducible apply PySem.wpAny_loadPart'; focus (heap_get; done)) | (with_reducible apply PySem.wpAny_load'; focus (heap_get; done)) | (with_reducible apply PySem.wpAny_ite_false; focus (first | (rfl; done) | (simp [*]; done))) | (with_reducible apply PySem.wpAny_ite_true; focus (first | (rfl; done) | (simp [*]; done))) | with_reducible refine PySem.wpAny_runValue ?_ | with_reducible refine PySem.wpAny_alloc' ?_ | with_reducible refine PySem.wpAny_typeOf (by assumption) ?_ | ((with_reducible show PySem.wpAny _ _ _ _ _ _); wp_step)))
    exact h)⟩

section
variable {prog : Program} {w : World} {A : Around} {E : Value → Shared → Prop} {s : Shared}
theorem ne_nil {l b : Addr} {items : Array Value} {Q : Value → Shared → Prop} (hl : s.heap.IsList l items) (hb : s.heap.IsList b #[]) (hu : A.units < cLine)
    (h : Q (.bool (decide (items.size ≠ 0))) s) : wpAny (model prog w) A (compareOp .NotEq (.ref l) (.ref b)) Q E s := by
  obtain ⟨⟨cls, dd, data, sl⟩, ho, hc, n, hd⟩ := id hl
  obtain ⟨⟨cls2, dd2, data2, sl2⟩, ho2, hc2, n2, hd2⟩ := id hb
  simp only at hc hd hc2 hd2
  subst hc hd hc2 hd2
  by_cases hz : items.size = 0
  · have e : items = #[] := Array.eq_empty_of_size_eq_zero hz
    subst e
    exact richCompare_meets_room (op := .NotEq) ⟨_, ho, rfl⟩ ⟨_, ho2, rfl⟩ PySem.F.slot_list_ne PySem.F.entry_list_ne (PySem.F.args_list_ne_2 _ _) (list_ne_nil0 l b n n2 dd dd2 sl sl2)
      ⟨ho, ho2, show Value.bool false ≠ Value.notImplemented ∧ Q (.bool false) s from ⟨(fun x => nomatch x), h⟩⟩ hu
  · rw [show decide (items.size ≠ 0) = true from decide_eq_true hz] at h
    exact richCompare_meets_room (op := .NotEq) ⟨_, ho, rfl⟩ ⟨_, ho2, rfl⟩ PySem.F.slot_list_ne PySem.F.entry_list_ne (PySem.F.args_list_ne_2 _ _) (list_ne_nil l b items n n2 dd dd2 sl sl2 hz)
      ⟨ho, ho2, show Value.bool true ≠ Value.notImplemented ∧ Q (.bool true) s from ⟨(fun x => nomatch x), h⟩⟩ hu

/-- l + b, two lists -/
theorem add_two {l b : Addr} {vs ws : Array Value} {Q : Value → Shared → Prop} (hl : s.heap.IsList l vs) (hb : s.heap.IsList b ws) (hsz : vs.size + ws.size ≤ sizeLine)
    (h : Q (.ref s.heap.objs.size) { s with heap := s.heap.push { cls := .type "list", data := .seq (vs ++ ws) } }) : wpAny (model prog w) A (binaryOp .Add (.ref l) (.ref b)) Q E s := by
  obtain ⟨⟨cls, dd, data, sl⟩, ho, hc, n, hd⟩ := id hl
  obtain ⟨⟨cls2, dd2, data2, sl2⟩, ho2, hc2, n2, hd2⟩ := id hb
  simp only at hc hd hc2 hd2
  subst hc hd hc2 hd2
  exact concat_meets ⟨_, ho, rfl⟩ ⟨_, ho2, rfl⟩ noFill_list_add seq_list_add PySem.F.slot_list_add PySem.F.entry_list_add (PySem.F.args_list_add_2 _ _) (list_addW l b vs ws n n2 dd dd2 sl sl2 hsz) ⟨ho, ho2, h⟩

theorem tail_last {value slice : PySem.Expr} {l : Addr} {items : Array Value} {t : Tok} {v : Value} {Q : Value → Shared → Prop} (hl : s.heap.IsList l items) (hv : items[items.size - 1]? = some v) (h : Q v s)
    (hs : subscripted slice false (.ref l) (.int (-1) t) = operate [.ref l, .int (-1) t] (getItem (.ref l) (.int (-1) t)) := by with_unfolding_all rfl) :
    wpAny (model prog w) A (subscriptTail value slice (.ref l) (.int (-1) t)) Q E s := by
  have hz : 0 < items.size := by
    rcases Nat.eq_zero_or_pos items.size with h0 | h0
    · rw [Array.getElem?_eq_none (by omega)] at hv; cases hv
    · exact h0
  refine tail_any hl.typeIs slot_list_getitem.lookup (wpAny_getItem_list_neg hl (by decide) (by omega) (by decide) ?_ h) hs
  rw [show ((-1 : Int) + (items.size : Int)).toNat = items.size - 1 by omega]; exact hv

theorem strsAre_lib {vs : List Value} {xs : List Str} (h : StrsAre vs xs) : PyProof.Rows.StrsAre vs xs := by
  induction vs generalizing xs with
  | nil =>
    cases xs with
    | nil => exact .nil
    | cons => cases h.1
  | cons v vs ih =>
    cases xs with
    | nil => cases h.1
    | cons x xs =>
      obtain ⟨t, x', hx, rfl⟩ := h.2 0 v rfl
      simp only [List.getElem?_cons_zero, Option.some.injEq] at hx
      subst hx
      exact .cons _ _ (ih ⟨by simpa using h.1, fun i v' hv => h.2 (i + 1) v' (by simpa using hv)⟩)
theorem strsAre_app {vs ws : List Value} {xs ys : List Str} (h : StrsAre vs xs) (k : StrsAre ws ys) : StrsAre (vs ++ ws) (xs ++ ys) := by
  refine ⟨by simp [h.1, k.1], fun i v hv => ?_⟩
  rcases Nat.lt_or_ge i vs.length with hi | hi
  · rw [List.getElem?_append_left hi] at hv
    obtain ⟨t, x, hx, e⟩ := h.2 i v hv
    exact ⟨t, x, by rw [List.getElem?_append_left (by rw [← h.1]; exact hi)]; exact hx, e⟩
  · rw [List.getElem?_append_right hi] at hv
    obtain ⟨t, x, hx, e⟩ := k.2 _ v hv
    exact ⟨t, x, by rw [List.getElem?_append_right (by rw [← h.1]; exact hi), ← h.1]; exact hx, e⟩
end
end Mine
end

section
open PySem PySem.W PySem.Calls PyProof.Rows PySem.Spec PyProof
set_option maxRecDepth 100000
set_option maxHeartbeats 8000000
namespace Mine

noncomputable abbrev tStored : List Str := [Str.ofString "held", Str.ofString "told", Str.ofString "noted", Str.ofString "leaf", Str.ofString "fresh", Str.ofString "brings", Str.ofString "taken"]

/-- how it stands before a turn of the loop of _law_taken; fix: what never moves -/
noncomputable def TInv (hb : Heap) (LL Lt D2 : Addr) (mL m₀ : Str → Option Value) (fix keep : List (Addr × Obj)) (s₀ : Shared) (xs : List Itm) (hs : List Str) (ts : List Int) (s' : Shared) : Prop :=
  ∃ (ep hep tep : Nat) (Hd Td : Addr) (hv tv : Array Value) (rest : List (Addr × Obj)) (m : Str → Option Value),
    Fr hb LL s'.heap mL ∧ Fr hb Lt s'.heap m ∧ Off tStored m₀ m ∧ m (Str.ofString "held") = some (.ref Hd) ∧ m (Str.ofString "told") = some (.ref Td) ∧
    News hb Lt s'.heap ((D2, itemsOf xs ep) :: (Td, listOf tv tep) :: (Hd, listOf hv hep) :: (fix ++ rest)) ∧
    (∀ q ∈ ((D2, itemsOf xs ep) :: (Td, listOf tv tep) :: (Hd, listOf hv hep) :: (fix ++ rest)), q.1 ≠ LL) ∧
    (∀ q ∈ ((Td, listOf tv tep) :: (Hd, listOf hv hep) :: (fix ++ rest)), q.1 ≠ D2) ∧
    (∀ q ∈ ((Hd, listOf hv hep) :: (fix ++ rest)), q.1 ≠ Td) ∧
    (∀ p ∈ xs, Key (fix ++ rest) p.1 p.2) ∧ StrsAre hv.toList hs ∧ IntsAre tv.toList ts ∧
    AllBare s'.gens ∧ s'.drawn = s₀.drawn ∧ s'.os = s₀.os ∧ (∀ q ∈ keep, q ∈ rest)

end Mine
namespace Mine
section
variable {prog : Program} {w : World} {A : Around} {E : Value → Shared → Prop} {s : Shared} {h₀ : Heap} {L : Addr} {m : Str → Option Value} {news : List (Addr × Obj)}
theorem stNC' {name : Str} {scope : Scope} {a : Addr} {cd : Value} {x : Str} {v : Value} {Q : Unit → Shared → Prop} (F : Fr h₀ L s.heap m) (N : News h₀ L s.heap news)
    (h : ∀ h' tk', Fr h₀ L h' (fun y => if y = x then some v else m y) → News h₀ L h' news → Q () { s with heap := h', toks := tk' })
    (hk : scope.kind = .function := by rfl) (hl : (envOfC name scope L a cd).kindOf x = some .local := by rfl) :
    wpAny (model prog w) A (storeName (envOfC name scope L a cd) x v) Q E s := stLocN F N (fun h' F' N' => h h' _ F' N') hk hl
end
end Mine
namespace Mine
theorem mem_frames_two {env envL : Env} {Lt LL b : Addr} (h1 : env.frame = some Lt) (h2 : envL.frame = some LL) : b ∈ [env, envL].filterMap (·.frame) ↔ b = Lt ∨ b = LL := by
  rw [List.filterMap_cons_some h1, List.filterMap_cons_some h2]; simp
end Mine
namespace Mine
theorem held_fr {hb : Heap} {L C g : Addr} {fs : List Addr} {m : Str → Option Value} {s s' : Shared} (H : Held C fs g s s') (F : Fr hb L s.heap m) (hL : L ≠ C) (hC : hb.get? C = none) (hfs : ∀ b ∈ fs, hb.get? b = none) : Fr hb L s'.heap m := by
  refine ⟨?_, fun b o e => H.heap b o (fun z => by rw [z, hC] at e; cases e) (fun z => by rw [hfs b z] at e; cases e) (F.keep b o e), F.above⟩
  obtain ⟨o, es, ep, ho, hd, r⟩ := F.ns
  obtain ⟨sl, hs⟩ := H.frames L o hL ho (fun vs z => by rw [hd] at z; cases z)
  exact ⟨_, es, ep, hs, hd, r⟩
theorem held_news {hb : Heap} {L C g : Addr} {fs : List Addr} {news : List (Addr × Obj)} {s s' : Shared} (H : Held C fs g s s') (N : News hb L s.heap news) (h1 : ∀ q ∈ news, q.1 ≠ C) (h2 : ∀ q ∈ news, q.1 ∉ fs) : News hb L s'.heap news :=
  fun q hq => ⟨H.heap _ _ (h1 q hq) (h2 q hq) (N q hq).1, (N q hq).2⟩
end Mine
namespace Mine
theorem news_ne {hb h : Heap} {L C : Addr} {news : List (Addr × Obj)} (N : News hb L h news) (hn : h.get? C = none) : ∀ q ∈ news, q.1 ≠ C := fun q hq z => by
  have := (N q hq).1
  rw [z, hn] at this; cases this
end Mine
namespace Mine
theorem news_ne_g {hb h : Heap} {L LL : Addr} {o : Obj} {news : List (Addr × Obj)} (N : News hb L h news) (hn : hb.get? LL = some o) : ∀ q ∈ news, q.1 ≠ LL := fun q hq z => by
  have := (N q hq).2.2
  rw [z, hn] at this; cases this
end Mine
namespace Mine
theorem list_side {l I : Addr} {items : Array Value} {F : List (Addr × Obj) → Nat → Value → Value → Prop} (hF : ∀ a b i v y, (∀ q ∈ a, q ∈ b) → F a i v y → F b i v y) :
    CompSide (fun a b => b = a) (fun a b => b = a) (fun a b => b = a) [I] (fun i s => s.heap.IsListIter I l i ∧ s.heap.IsList l items) F where
  hg := fun _ _ h => h
  hg' := fun _ _ h => h
  hrefl := fun _ => rfl
  htr := fun _ _ _ h1 h2 => h2.trans h1
  hst' := fun i s gs st e => st
  hwr := fun i s st b hb => by
    rw [List.mem_singleton.mp hb]
    obtain ⟨o, ho, _⟩ := st.1
    rw [ho]; rfl
  hdo := fun i s dr os st => st
  hmono := hF
end Mine
end

section
namespace Mine
theorem swap_perm {α : Type} {l : List α} {i j : Nat} {x : α} (hi : i < l.length) (hj : j < l.length) (hij : i ≠ j) : ((l.set i (l[j]'hj)).set j x).Perm (l.set i x) := by
  have h := List.set_set_perm (as := l.set i x) (i := i) (j := j) (by simpa using hi) (by simpa using hj)
  have e1 : (l.set i x)[j]'(by simpa using hj) = l[j]'hj := by rw [List.getElem_set_ne hij]
  have e2 : (l.set i x)[i]'(by simpa using hi) = x := by rw [List.getElem_set_self]
  rw [e1, e2, List.set_set] at h
  exact h

theorem itAt_eq {xs : List Itm} {i : Nat} (h : i < xs.length) : itAt xs i = xs[i] := by
  unfold itAt; rw [List.getD_eq_getElem?_getD, List.getElem?_eq_getElem h]; rfl

theorem childP_bound {xs : List Itm} {pos : Nat} (h : 2 * pos + 1 < xs.length) : childP xs pos < xs.length ∧ pos < childP xs pos := by
  unfold childP
  split <;> omega

theorem suP_perm (it : Itm) : ∀ (f : Nat) (xs : List Itm) (pos : Nat), pos < xs.length → ((suP f xs pos).1.set (suP f xs pos).2 it).Perm (xs.set pos it) ∧ (suP f xs pos).2 < xs.length ∧ (suP f xs pos).1.length = xs.length := by
  intro f
  induction f with
  | zero => intro xs pos h; exact ⟨List.Perm.refl _, h, rfl⟩
  | succ f ih =>
    intro xs pos h
    unfold suP
    split
    · rename_i hc
      obtain ⟨b1, b2⟩ := childP_bound hc
      obtain ⟨p1, p2, p3⟩ := ih (xs.set pos (itAt xs (childP xs pos))) (childP xs pos) (by simpa using b1)
      rw [itAt_eq b1] at p1 p2 p3 ⊢
      refine ⟨p1.trans (swap_perm h b1 (Nat.ne_of_lt b2)), by simpa using p2, by simpa using p3⟩
    · exact ⟨List.Perm.refl _, h, rfl⟩

theorem sdP_perm (it : Itm) (start : Nat) (key : Int) : ∀ (f : Nat) (xs : List Itm) (pos : Nat), pos < xs.length → ((sdP start f xs pos key).1.set (sdP start f xs pos key).2 it).Perm (xs.set pos it) ∧ (sdP start f xs pos key).2 < xs.length ∧ (sdP start f xs pos key).1.length = xs.length := by
  intro f
  induction f with
  | zero => intro xs pos h; exact ⟨List.Perm.refl _, h, rfl⟩
  | succ f ih =>
    intro xs pos h
    unfold sdP
    split
    · rename_i hs
      have hp : (pos - 1) / 2 < xs.length := by omega
      rw [List.getElem?_eq_getElem hp]
      dsimp only
      split
      · obtain ⟨p1, p2, p3⟩ := ih (xs.set pos xs[(pos - 1) / 2]) ((pos - 1) / 2) (by simpa using hp)
        refine ⟨p1.trans (swap_perm h hp (by omega)), by simpa using p2, by simpa using p3⟩
      · exact ⟨List.Perm.refl _, h, rfl⟩
    · exact ⟨List.Perm.refl _, h, rfl⟩

theorem siftupP_perm {xs : List Itm} {pos : Nat} (h : pos < xs.length) : (siftupP xs pos).Perm xs := by
  obtain ⟨p1, p2, p3⟩ := suP_perm (itAt xs pos) xs.length xs pos h
  have hl : (suP xs.length xs pos).2 < ((suP xs.length xs pos).1.set (suP xs.length xs pos).2 (itAt xs pos)).length := by rw [List.length_set, p3]; exact p2
  obtain ⟨q1, q2, q3⟩ := sdP_perm (itAt xs pos) pos (itAt xs pos).2 (suP xs.length xs pos).2 _ _ hl
  unfold siftupP siftdownP
  refine q1.trans ?_
  rw [List.set_set]
  refine p1.trans ?_
  rw [itAt_eq h, List.set_getElem_self]

theorem hpfP_perm {xs : List Itm} (hx : 0 < xs.length) : ∀ i, (hpfP xs i).Perm xs
  | 0 => List.Perm.refl _
  | i + 1 => (siftupP_perm (by rw [hpfP_length]; omega)).trans (hpfP_perm hx i)
end Mine
end

section
namespace Mine
noncomputable abbrev keyAt (xs : List Itm) (i : Nat) : Int := (itAt xs i).2
noncomputable def HeapFrom (xs : List Itm) (s : Nat) : Prop := ∀ i, 0 < i → i < xs.length → s ≤ (i - 1) / 2 → keyAt xs ((i - 1) / 2) ≤ keyAt xs i

theorem keyAt_set {xs : List Itm} {i j : Nat} {v : Itm} (hi : i < xs.length) : keyAt (xs.set i v) j = if j = i then v.2 else keyAt xs j := by
  unfold keyAt itAt
  rw [List.getD_eq_getElem?_getD, List.getD_eq_getElem?_getD, List.getElem?_set]
  by_cases h : i = j
  · subst h; simp [hi]
  · have h' : ¬ j = i := fun z => h z.symm
    simp [h, h']

theorem childP_min {xs : List Itm} {pos i : Nat} (h : 2 * pos + 1 < xs.length) (hi : i < xs.length) (h0 : 0 < i) (hp : (i - 1) / 2 = pos) : keyAt xs (childP xs pos) ≤ keyAt xs i := by
  have h1 : i = 2 * pos + 1 ∨ i = 2 * pos + 2 := by omega
  unfold childP
  split
  · rename_i hc
    rcases h1 with rfl | rfl
    · show (itAt xs (2 * pos + 2)).2 ≤ (itAt xs (2 * pos + 1)).2
      omega
    · exact Int.le_refl _
  · rename_i hc
    rcases h1 with rfl | rfl
    · exact Int.le_refl _
    · show (itAt xs (2 * pos + 1)).2 ≤ (itAt xs (2 * pos + 2)).2
      have : (itAt xs (2 * pos + 1)).2 < (itAt xs (2 * pos + 2)).2 := by
        by_cases hh : (itAt xs (2 * pos + 1)).2 < (itAt xs (2 * pos + 2)).2
        · exact hh
        · exact absurd ⟨hi, hh⟩ hc
      omega
theorem childP_parent {xs : List Itm} {pos : Nat} : (childP xs pos - 1) / 2 = pos := by
  unfold childP
  split <;> omega

theorem up_heap {xs : List Itm} {s p : Nat} (hsp : s ≤ p) (hc : 2 * p + 1 < xs.length) (H : ∀ i, 0 < i → i < xs.length → s ≤ (i - 1) / 2 → (i - 1) / 2 ≠ p → keyAt xs ((i - 1) / 2) ≤ keyAt xs i)
    (Hp : p = s ∨ ∀ i, 0 < i → i < xs.length → (i - 1) / 2 = p → keyAt xs p ≤ keyAt xs i) : HeapFrom (xs.set p (itAt xs (childP xs p))) s := by
  obtain ⟨b1, b2⟩ := childP_bound hc
  intro i h0 hi hs
  rw [List.length_set] at hi
  rw [keyAt_set (by omega), keyAt_set (by omega)]
  by_cases e1 : (i - 1) / 2 = p
  · rw [if_pos e1, if_neg (by omega)]
    exact childP_min hc hi h0 e1
  · rw [if_neg e1]
    by_cases e2 : i = p
    · rw [if_pos e2]
      rcases Hp with rfl | Hp
      · omega
      · have h1 := H i h0 hi hs e1
        have h2 := Hp (childP xs p) (by omega) b1 childP_parent
        rw [e2] at h1
        rw [e2]
        exact Int.le_trans h1 h2
    · rw [if_neg e2]
      exact H i h0 hi hs e1

theorem suP_heap {s : Nat} : ∀ (f : Nat) (xs : List Itm) (p : Nat), p < xs.length → s ≤ p → HeapFrom xs s → HeapFrom (suP f xs p).1 s := by
  intro f
  induction f with
  | zero => intro xs p _ _ H; exact H
  | succ f ih =>
    intro xs p hp hs H
    unfold suP
    split
    · rename_i hc
      obtain ⟨b1, b2⟩ := childP_bound hc
      refine ih _ _ (by simpa using b1) (by omega) (up_heap hs hc (fun i a b c _ => H i a b c) (.inr fun i a b c => ?_))
      have := H i a b (by omega)
      rw [c] at this; exact this
    · exact H
inductive Desc (s : Nat) : Nat → Prop where
  | here : Desc s s
  | down {p : Nat} : s < p → Desc s ((p - 1) / 2) → Desc s p
theorem Desc.le {s p : Nat} (h : Desc s p) : s ≤ p := by
  cases h with
  | here => exact Nat.le_refl _
  | down h _ => exact Nat.le_of_lt h

theorem set_heap {ys : List Itm} {s p : Nat} {it : Itm} (hp : p < ys.length) (H : HeapFrom ys s) (Hc : ∀ i, 0 < i → i < ys.length → (i - 1) / 2 = p → it.2 ≤ keyAt ys i)
    (Hq : 0 < p → s ≤ (p - 1) / 2 → keyAt ys ((p - 1) / 2) ≤ it.2) : HeapFrom (ys.set p it) s := by
  intro i h0 hi hs
  rw [List.length_set] at hi
  rw [keyAt_set hp, keyAt_set hp]
  by_cases e1 : (i - 1) / 2 = p
  · rw [if_pos e1, if_neg (by omega)]
    exact Hc i h0 hi e1
  · rw [if_neg e1]
    by_cases e2 : i = p
    · rw [if_pos e2]
      subst e2
      exact Hq h0 hs
    · rw [if_neg e2]
      exact H i h0 hi hs

theorem sdP_heap {s : Nat} {it : Itm} : ∀ (f : Nat) (ys : List Itm) (p : Nat), p ≤ f → p < ys.length → Desc s p → HeapFrom ys s → (∀ i, 0 < i → i < ys.length → (i - 1) / 2 = p → it.2 ≤ keyAt ys i) →
    HeapFrom ((sdP s f ys p it.2).1.set (sdP s f ys p it.2).2 it) s := by
  intro f
  induction f with
  | zero =>
    intro ys p hf hp hd H Hc
    obtain rfl : p = 0 := by omega
    exact set_heap hp H Hc (fun h => absurd h (Nat.lt_irrefl _))
  | succ f ih =>
    intro ys p hf hp hd H Hc
    unfold sdP
    split
    · rename_i hs
      have hq : (p - 1) / 2 < ys.length := by omega
      have hdq : Desc s ((p - 1) / 2) := by
        cases hd with
        | here => exact absurd hs (Nat.lt_irrefl _)
        | down _ h => exact h
      rw [List.getElem?_eq_getElem hq]
      dsimp only
      have eq : keyAt ys ((p - 1) / 2) = (ys[(p - 1) / 2]'hq).2 := by show (itAt ys _).2 = _; rw [itAt_eq hq]
      split
      · rename_i hlt
        have e : ((ys[(p - 1) / 2]'hq).1, (ys[(p - 1) / 2]'hq).2) = itAt ys ((p - 1) / 2) := by rw [itAt_eq hq]
        have hup : HeapFrom (ys.set p (itAt ys ((p - 1) / 2))) s := by
          refine set_heap hp H (fun i h0 hi he => ?_) fun _ _ => Int.le_refl _
          have h1 := H p (by omega) hp hdq.le
          have h2 := H i h0 hi (by rw [he]; exact hd.le)
          rw [he] at h2
          exact Int.le_trans h1 h2
        refine ih _ _ (by omega) (by simpa using hq) hdq (by rw [← e] at hup; exact hup) fun i h0 hi he => ?_
        rw [List.length_set] at hi
        have e3 := keyAt_set (xs := ys) (v := itAt ys ((p - 1) / 2)) (j := i) hp
        rw [← e] at e3
        show it.2 ≤ keyAt (ys.set p ((ys[(p - 1) / 2]'hq).1, (ys[(p - 1) / 2]'hq).2)) i
        rw [e3]
        split
        · omega
        · have h2 := H i h0 hi (by rw [he]; exact hdq.le)
          rw [he, eq] at h2
          omega
      · rename_i hge
        exact set_heap hp H Hc fun _ _ => by rw [eq]; omega
    · rename_i hs
      have hps : p = s := by have := hd.le; omega
      exact set_heap hp H Hc fun h0 h1 => by omega
theorem sdP_set {s f p : Nat} {us : List Itm} {x it : Itm} {key : Int} (hs : s < p → (p - 1) / 2 ≠ p) :
    (sdP s f (us.set p x) p key).1.set (sdP s f (us.set p x) p key).2 it = (sdP s f us p key).1.set (sdP s f us p key).2 it := by
  cases f with
  | zero => unfold sdP; dsimp only; rw [List.set_set]
  | succ f =>
    unfold sdP
    split
    · rename_i h
      rw [List.getElem?_set_ne (Ne.symm (hs h))]
      cases us[(p - 1) / 2]? with
      | none => dsimp only; rw [List.set_set]
      | some v =>
        obtain ⟨v, k⟩ := v
        dsimp only
        split
        · rw [List.set_set]
        · dsimp only; rw [List.set_set]
    · dsimp only; rw [List.set_set]
theorem suP_leaf : ∀ (f : Nat) (xs : List Itm) (p : Nat), xs.length ≤ p + f → p < xs.length → xs.length ≤ 2 * (suP f xs p).2 + 1 := by
  intro f
  induction f with
  | zero => intro xs p h hp; omega
  | succ f ih =>
    intro xs p h hp
    unfold suP
    split
    · rename_i hc
      obtain ⟨b1, b2⟩ := childP_bound hc
      have := ih (xs.set p (itAt xs (childP xs p))) (childP xs p) (by rw [List.length_set]; omega) (by rw [List.length_set]; exact b1)
      rw [List.length_set] at this
      exact this
    · dsimp only; omega
theorem suP_desc {s : Nat} : ∀ (f : Nat) (xs : List Itm) (p : Nat), Desc s p → Desc s (suP f xs p).2 := by
  intro f
  induction f with
  | zero => intro xs p h; exact h
  | succ f ih =>
    intro xs p h
    unfold suP
    split
    · rename_i hc
      obtain ⟨b1, b2⟩ := childP_bound hc
      exact ih _ _ (.down (by have := h.le; omega) (by rw [childP_parent]; exact h))
    · exact h

theorem siftupP_heap {xs : List Itm} {pos : Nat} (h : pos < xs.length) (H : HeapFrom xs (pos + 1)) : HeapFrom (siftupP xs pos) pos := by
  obtain ⟨_, p2, p3⟩ := suP_perm (itAt xs pos) xs.length xs pos h
  have hleaf := suP_leaf xs.length xs pos (Nat.le_add_left _ _) h
  have hd := suP_desc (s := pos) xs.length xs pos .here
  have hus : HeapFrom (suP xs.length xs pos).1 pos := by
    cases hf : xs.length with
    | zero => omega
    | succ f =>
      unfold suP
      split
      · rename_i hc
        obtain ⟨b1, b2⟩ := childP_bound hc
        refine suP_heap _ _ _ (by simpa using b1) (Nat.le_of_lt b2) (up_heap (Nat.le_refl _) hc (fun i a b c d => H i a b (by omega)) (.inl rfl))
      · rename_i hc
        intro i h0 hi hs
        have hi' : i < xs.length := hi
        exact H i h0 hi' (by omega)
  unfold siftupP siftdownP
  rw [sdP_set (fun hh => by omega)]
  refine sdP_heap _ _ _ (Nat.le_refl _) (by rw [p3]; exact p2) hd hus fun i h0 hi he => ?_
  rw [p3] at hi
  omega
theorem hpfP_heap {xs : List Itm} : ∀ i, i ≤ xs.length / 2 → HeapFrom (hpfP xs i) (xs.length / 2 - i)
  | 0, _ => fun i h0 hi hs => by
    have hi' : i < xs.length := hi
    omega
  | i + 1, h => by
    have ih := hpfP_heap (xs := xs) i (by omega)
    have e : xs.length / 2 - i = xs.length / 2 - 1 - i + 1 := by omega
    rw [e] at ih
    have := siftupP_heap (xs := hpfP xs i) (pos := xs.length / 2 - 1 - i) (by rw [hpfP_length]; omega) ih
    have e2 : xs.length / 2 - (i + 1) = xs.length / 2 - 1 - i := by omega
    rw [e2]; exact this

theorem head_least {xs : List Itm} (H : HeapFrom xs 0) : ∀ (n i : Nat), i ≤ n → i < xs.length → keyAt xs 0 ≤ keyAt xs i := by
  intro n
  induction n with
  | zero => intro i h _; obtain rfl : i = 0 := by omega
            exact Int.le_refl _
  | succ n ih =>
    intro i h hi
    by_cases h0 : i = 0
    · subst h0; exact Int.le_refl _
    · exact Int.le_trans (ih ((i - 1) / 2) (by omega) (by omega)) (H i (by omega) hi (Nat.zero_le _))
end Mine
end

section
open PySem PySem.W PySem.Calls PyProof.Rows PySem.Spec PyProof
namespace Mine

/-- what the greedy law has to say of the keys on the heap, of what is held and of what is told -/
structure GSpec (ls : List Int) (anc : Nat → List Str) (wf : Str → Int) (G : List Int → List Str → List Int → Prop) : Prop where
  key : ∀ {ks hs ts}, G ks hs ts → ∀ k ∈ ks, ∃ (n i : Nat), k % 8 = (n : Int) ∧ ls[i]? = some (n : Int)
  size : ∀ {ks hs ts}, G ks hs ts → ks.length ≤ 6 ∧ hs.length ≤ 6 ∧ ts.length ≤ 7 ∧ 0 < ts.length
  perm : ∀ {ks ks' hs ts}, ks.Perm ks' → G ks hs ts → G ks' hs ts
  start : G (ls.map fun x => 8 * (-((anc x.toNat).map wf).sum) + x) [] [0]
  pop : ∀ {k ks hs ts} {n : Nat}, G (k :: ks) hs ts → (∀ k' ∈ ks, k ≤ k') → k % 8 = (n : Int) → (((anc n).filter (fun p => !hs.contains p)).map wf).sum = -(k / 8) →
    G ks (hs ++ (anc n).filter (fun p => !hs.contains p)) (ts ++ [ts.getLastD 0 + (((anc n).filter (fun p => !hs.contains p)).map wf).sum]) ∧ 0 ≤ (((anc n).filter (fun p => !hs.contains p)).map wf).sum
  rep : ∀ {k ks hs ts} {n : Nat}, G (k :: ks) hs ts → k % 8 = (n : Int) → (((anc n).filter (fun p => !hs.contains p)).map wf).sum ≠ -(k / 8) →
    G ((8 * (-(((anc n).filter (fun p => !hs.contains p)).map wf).sum) + n) :: ks) hs ts ∧ 0 ≤ (((anc n).filter (fun p => !hs.contains p)).map wf).sum ∧ (((anc n).filter (fun p => !hs.contains p)).map wf).sum < -(k / 8)

noncomputable def mu (ks : List Int) : Nat := (ks.map fun k => ((-(k / 8)) + 1).toNat).sum
theorem mu_perm {ks ks' : List Int} (h : ks.Perm ks') : mu ks = mu ks' := (h.map _).sum_nat
theorem mu_cons (k : Int) (ks : List Int) : mu (k :: ks) = ((-(k / 8)) + 1).toNat + mu ks := rfl

theorem heapFrom_start {xs : List Itm} : HeapFrom (hpfP xs (xs.length / 2)) 0 := by
  have := hpfP_heap (xs := xs) (xs.length / 2) (Nat.le_refl _)
  rw [Nat.sub_self] at this; exact this

theorem pop_facts {xs ys : List Itm} {it : Itm} (hx : xs = ys ++ [it]) (H : HeapFrom xs 0) :
    (itAt xs 0 :: (if 0 < ys.length then siftupP (ys.set 0 it) 0 else [])).Perm xs ∧ HeapFrom (if 0 < ys.length then siftupP (ys.set 0 it) 0 else []) 0 := by
  by_cases hl : 0 < ys.length
  · rw [if_pos hl]
    have h1 := siftupP_perm (xs := ys.set 0 it) (pos := 0) (by simpa using hl)
    cases ys with
    | nil => exact absurd hl (Nat.lt_irrefl _)
    | cons y ys =>
      subst hx
      refine ⟨?_, siftupP_heap (by simp) fun i h0 hi hs => ?_⟩
      · refine (List.Perm.cons _ h1).trans ?_
        show (y :: it :: ys).Perm (y :: (ys ++ [it]))
        exact List.Perm.cons _ (List.perm_append_singleton it ys).symm
      · rw [List.length_set] at hi
        rw [keyAt_set (by simp), keyAt_set (by simp), if_neg (by omega), if_neg (by omega)]
        have e : ∀ j, j < (y :: ys).length → keyAt (y :: ys ++ [it]) j = keyAt (y :: ys) j := fun j hj => by
          unfold keyAt itAt
          rw [List.getD_eq_getElem?_getD, List.getD_eq_getElem?_getD, List.getElem?_append_left hj]
        have := H i h0 (by rw [List.length_append]; omega) (Nat.zero_le _)
        rw [e _ hi, e _ (by omega)] at this
        exact this
  · rw [if_neg hl]
    have : ys = [] := List.length_eq_zero_iff.mp (by omega)
    subst this; subst hx
    exact ⟨List.Perm.refl _, fun i h0 hi => absurd hi (Nat.not_lt_zero _)⟩

theorem rep_facts {xs : List Itm} {v : Itm} (hx : 0 < xs.length) (H : HeapFrom xs 0) :
    (siftupP (xs.set 0 v) 0).Perm (v :: xs.tail) ∧ (itAt xs 0 :: xs.tail).Perm xs ∧ HeapFrom (siftupP (xs.set 0 v) 0) 0 := by
  cases xs with
  | nil => exact absurd hx (Nat.lt_irrefl _)
  | cons x xs =>
    refine ⟨siftupP_perm (by simp), List.Perm.refl _, siftupP_heap (by simp) fun i h0 hi hs => ?_⟩
    rw [List.length_set] at hi
    rw [keyAt_set (by simp), keyAt_set (by simp), if_neg (by omega), if_neg (by omega)]
    exact H i h0 hi (Nat.zero_le _)

theorem least_of {xs : List Itm} (H : HeapFrom xs 0) : ∀ p ∈ xs, (itAt xs 0).2 ≤ p.2 := fun p hp => by
  obtain ⟨i, hi, rfl⟩ := List.getElem_of_mem hp
  have := head_least H _ i (Nat.le_refl _) hi
  unfold keyAt at this
  rw [itAt_eq hi] at this
  exact this
end Mine
end

section
open PySem PySem.W PySem.Calls PyProof.Rows PySem.Spec PyProof
set_option maxRecDepth 100000
set_option maxHeartbeats 8000000
namespace Mine

theorem unghost_ne {hb g : Heap} {b : Addr} (hgb : ∀ b o, hb.get? b = some o → g.get? b = some o) (e : g.get? b = none) : hb.get? b = none := by
  cases r : hb.get? b with
  | none => rfl
  | some o => rw [hgb _ _ r] at e; cases e

/-- the next turn's state -/
theorem TInv.make {hb g h8 : Heap} {LL Lt D2 Td Hd : Addr} {mL m₀ m : Str → Option Value} {oL : Obj} {fix keep rest : List (Addr × Obj)} {s₀ s' : Shared} {xs : List Itm} {hs : List Str} {ts : List Int} {ep tep hep : Nat} {tv hv : Array Value}
    (hgb : ∀ b o, hb.get? b = some o → g.get? b = some o) (FL8 : Fr hb LL h8 mL) (hoL : h8.get? LL = some oL) (hgL : g.get? LL = some oL) (hbLt : hb.objs.size ≤ Lt)
    (F : Fr g Lt s'.heap m) (N : News g Lt s'.heap ((D2, itemsOf xs ep) :: (Td, listOf tv tep) :: (Hd, listOf hv hep) :: (fix ++ rest)))
    (hoff : Off tStored m₀ m) (hmh : m (Str.ofString "held") = some (.ref Hd)) (hmt : m (Str.ofString "told") = some (.ref Td))
    (nD : ∀ q ∈ ((Td, listOf tv tep) :: (Hd, listOf hv hep) :: (fix ++ rest)), q.1 ≠ D2) (nT : ∀ q ∈ ((Hd, listOf hv hep) :: (fix ++ rest)), q.1 ≠ Td)
    (hk : ∀ p ∈ xs, Key (fix ++ rest) p.1 p.2) (hhs : StrsAre hv.toList hs) (hts : IntsAre tv.toList ts) (hb2 : AllBare s'.gens) (hdr : s'.drawn = s₀.drawn) (hos : s'.os = s₀.os) (hkeep : ∀ q ∈ keep, q ∈ rest) :
    TInv hb LL Lt D2 mL m₀ fix keep s₀ xs hs ts s' :=
  ⟨ep, hep, tep, Hd, Td, hv, tv, rest, m, ⟨FL8.ns.at' fun o e => (by rw [hoL] at e; cases e; exact F.keep _ _ hgL), fun b o e => F.keep _ _ (hgb _ _ e), FL8.above⟩, ⟨F.ns, fun b o e => F.keep _ _ (hgb _ _ e), hbLt⟩, hoff, hmh, hmt,
    fun q hq => ⟨(N q hq).1, (N q hq).2.1, unghost_ne hgb (N q hq).2.2⟩, fun q hq z => (by have := (N q hq).2.2; rw [z, hgL] at this; cases this), nD, nT, hk, hhs, hts, hb2, hdr, hos, hkeep⟩

theorem allBare_held {C g : Addr} {fs : List Addr} {s s' : Shared} (H : Held C fs g s s') (hb : AllBare s.gens) : AllBare s'.gens := bare_only hb H.gens

theorem ints_snoc {vs : Array Value} {ts : List Int} (h : IntsAre vs.toList ts) {x : Int} {t : Tok} : IntsAre (vs.push (.int x t)).toList (ts ++ [x]) := by
  rw [Array.toList_push]
  have : ∀ {l : List Value} {zs : List Int}, IntsAre l zs → IntsAre (l ++ [Value.int x t]) (zs ++ [x]) := by
    intro l zs h
    induction h with
    | nil => exact .cons _ _ .nil
    | cons a b _ ih => exact .cons a b ih
  exact this h

theorem last_getD {ts : List Int} (h : 0 < ts.length) : ts.getD (-1 + (ts.length : Int)).toNat 0 = ts.getLastD 0 := by
  rw [show (-1 + (ts.length : Int)).toNat = ts.length - 1 by omega, List.getD_eq_getElem?_getD, ← List.getLast?_eq_getElem?, List.getLastD_eq_getLast?]
theorem ints_len {vs : List Value} {xs : List Int} (h : IntsAre vs xs) : vs.length = xs.length := by
  induction h with
  | nil => rfl
  | cons _ _ _ ih => simp [ih]
theorem ints_at {vs : Array Value} {xs : List Int} (h : IntsAre vs.toList xs) {i : Nat} {v : Value} (hv : vs[i]? = some v) : ∃ x, xs[i]? = some x ∧ ∃ t, v = .int x t := by
  have hl := ints_len h
  have hlt : i < vs.toList.length := by
    rw [Array.length_toList]
    rcases Nat.lt_or_ge i vs.size with h1 | h1
    · exact h1
    · rw [Array.getElem?_eq_none h1] at hv; cases hv
  have hx : xs[i]? = some (xs[i]'(by omega)) := List.getElem?_eq_getElem (by omega)
  obtain ⟨t, ht⟩ := IntsAre.get h hx
  rw [hv] at ht; cases ht
  exact ⟨_, hx, t, rfl⟩
theorem News.ghosted {hb g h : Heap} {L LL : Addr} {news : List (Addr × Obj)} (N : News hb L h news) (hn : ∀ q ∈ news, q.1 ≠ LL) (hg : ∀ b, b ≠ LL → hb.get? b = none → g.get? b = none) : News g L h news :=
  fun q hq => ⟨(N q hq).1, (N q hq).2.1, hg _ (hn q hq) (N q hq).2.2⟩
theorem News.app {hb h : Heap} {L : Addr} {n1 n2 : List (Addr × Obj)} (N1 : News hb L h n1) (N2 : News hb L h n2) : News hb L h (n1 ++ n2) := fun q hq => (List.mem_append.mp hq).elim (N1 q) (N2 q)

theorem fresh_ne {hb h : Heap} {LL a : Addr} {m : Str → Option Value} (F : Fr hb LL h m) (hn : h.get? a = none) : a ≠ LL := fun z => by
  obtain ⟨o, _, _, ho, _⟩ := F.ns
  rw [z, ho] at hn; cases hn

theorem IsList.at {h h' : Heap} {l : Addr} {items : Array Value} (k : ∀ o, h.get? l = some o → h'.get? l = some o) (x : h.IsList l items) : h'.IsList l items := let ⟨o, a, b, n, c⟩ := x; ⟨o, k _ a, b, n, c⟩
theorem list_ne {hb h : Heap} {LL l : Addr} {m : Str → Option Value} {items : Array Value} (F : Fr hb LL h m) (hl : h.IsList l items) : l ≠ LL := fun z => by
  obtain ⟨o, es, ep, ho, hd, _⟩ := F.ns
  obtain ⟨o', ho', _, n, hd'⟩ := hl
  rw [z, ho] at ho'; cases ho'; rw [hd] at hd'; cases hd'

theorem range6 {prog : Program} {w : World} {A : Around} {I : Addr} (hh : A.handled = none) : Walks prog w A I [I] [I] 6 (fun i v => i < 6 ∧ ∃ t, v = .int (0 + (i : Int)) t) (fun i h => IsRangeIter h I (0 + (i : Nat) * 1) ((6 : Nat) - (i : Nat)) 1) :=
  (PyProof.Rows.LCg.range_walks hh 0 6).bound
theorem notin_size {h : Heap} {b : Addr} {o : Obj} (e : h.get? b = some o) : b ∉ [h.objs.size] := fun hm => by
  have := Heap.lt_size e
  rw [List.mem_singleton.mp hm] at this
  exact Nat.lt_irrefl _ this
theorem none_of_push {h : Heap} {D : Addr} {o : Obj} (e : (h.push o).get? D = none) : h.get? D = none := by
  cases q : h.get? D with
  | none => rfl
  | some o' => rw [Heap.get?_push_of_some _ q] at e; cases e
theorem kept_around {h h' : Heap} {o : Obj} (hk : ∀ b o', b ∉ [h.objs.size] → (h.push o).get? b = some o' → h'.get? b = some o') : Kept h h' := fun b o' e => hk b o' (notin_size e) (Heap.get?_push_of_some _ e)
noncomputable def BareMono : GRel := fun a b => AllBare a → AllBare b
end Mine
end

section
open PySem PySem.W PySem.Calls PyProof.Rows PySem.Spec PyProof
set_option maxRecDepth 100000
set_option maxHeartbeats 8000000
namespace Mine
theorem switch_T1 : True := by
  w_top off
  trivial
structure MarkT : Prop where
  mark : True
local macro_rules | `(tactic| k_room) => `(tactic| ktr_room)
local macro_rules | `(tactic| k_units) => `(tactic| ktr_units)
local macro_rules | `(tactic| walk_at "eval DictComp") => `(tactic| (refine Mine.stop ?_))
local macro_rules | `(tactic| walk_at "eval ListComp") => `(tactic| (refine Mine.stop ?_))
local macro_rules | `(tactic| walk_at "exec Assign cons ListComp") => `(tactic| (refine Mine.stop ?_))
local macro_rules | `(tactic| walk_at "call ref") => `(tactic| ((with_reducible show wpAny _ _ (call (Value.ref 84) _) _ _ _); refine Mine.stop ?_))
local macro_rules | `(tactic| walk_at "subscriptTail Name Name ref int") => `(tactic| (k_here; (with_unfolding_all refine' Mine.tail_list (News.get ?k1 ?k2) ?k3 ?k4 ?k5 ?k6 ?_ ?k7; (case k1 => k_asm); (case k2 => k_mem); (case k3 => assumption); (case k4 => assumption); (case k5 => assumption); (case k6 => omega); (case k7 => with_unfolding_all rfl); k_whole); try dsimp only))
local macro_rules | `(tactic| walk_at "call builtin:sum") => `(tactic| (refine Mine.stop ?_))
local macro_rules | `(tactic| walk_at "newTuple") => `(tactic| ((rename MarkT => mkT); refine Mine.stop ?_))
local macro_rules | `(tactic| walk_at "unaryOp USub int") => `(tactic| (refine Mine.neg_int' ?_; intro _ _; try dsimp only))
local macro_rules | `(tactic| walk_at "call ref") => `(tactic| (k_here; (with_unfolding_all refine' Mine.heapify_spec ?k1 ?k2 ?k3 ?k4 ?k5 ?k6 ?k7 ?k8 ?k9 ?k10 ?k11 ?k12 ?_; (case k1 => k_asm); (case k2 => k_asm); (case k3 => k_asm); (case k4 => k_asm); (case k5 => k_asm); (case k6 => exact rfl); (case k7 => exact rfl); (case k8 => ktr_room); (case k9 => ktr_units); (case k10 => with_reducible assumption); (case k11 => with_reducible assumption); (case k12 => omega); k_whole); intro h' tk' F' N'; (try k_sweep); try dsimp only))
local macro_rules | `(tactic| walk_at "exec While Compare cons nil") => `(tactic| (refine Mine.stop ?_))
local macro_rules | `(tactic| walk_at "subscriptTail Name Constant ref int") => `(tactic| (k_here; (with_unfolding_all refine' Mine.sub_items ?k1 ?k2 ?k3 ?k4 ?k5 ?_ ?k6; (case k1 => k_asm); (case k2 => k_mem); (case k3 => omega); (case k4 => omega); (case k5 => omega); (case k6 => with_unfolding_all rfl); k_whole); intro v' key' hx'; (refine Mine.stop ?_)))
local macro_rules | `(tactic| walk_at "call ref") => `(tactic| ((with_reducible show wpAny _ _ (call (Value.ref 128) _) _ _ _); refine Mine.stop ?_))
local macro_rules | `(tactic| walk_at "call type:list") => `(tactic| (refine Mine.stop ?_))
local macro_rules | `(tactic| walk_at "call ref") => `(tactic| ((with_reducible show wpAny _ _ (call (Value.ref 28) _) _ _ _); refine Mine.stop ?_))
local macro_rules | `(tactic| walk_at "call ref") => `(tactic| ((with_reducible show wpAny _ _ (call (Value.ref 35) _) _ _ _); refine Mine.stop ?_))
local macro_rules | `(tactic| walk_at "compareOp NotEq ref ref") => `(tactic| (refine Mine.stop ?_))
local macro_rules | `(tactic| walk_at "call type:range") => `(tactic| (k_here; (with_unfolding_all refine' Mine.call_range' ?k1 ?k2 ?_; (case k1 => k_asm); (case k2 => k_asm); k_whole); intro r' h' tk' t' u' v' F' N' lt'; (try k_lt lt'); (try k_sweep); try dsimp only))
local macro_rules | `(tactic| walk_at "eval Constant int") => `(tactic| (refine Mine.const_int' ?_; intro _ _; try dsimp only))

section
variable {α : Type} {a b c d e f : α} {l : List α}
theorem ro_in {r : α} {g : α} : ∀ q, q ∈ (a :: b :: c :: d :: e :: f :: [g]) ++ (r :: l) → q = r ∨ q ∈ a :: b :: c :: d :: e :: f :: g :: l := by
  intro q hq; simp only [List.mem_cons, List.cons_append, List.nil_append] at hq ⊢; rcases hq with h | h | h | h | h | h | h | h | h <;> simp [h]
theorem ro_inr {r : α} {g : α} : ∀ q, q ∈ a :: b :: c :: d :: e :: f :: g :: l → q ∈ (a :: b :: c :: d :: e :: f :: [g]) ++ (r :: l) := by
  intro q hq; simp only [List.mem_cons, List.cons_append, List.nil_append] at hq ⊢; rcases hq with h | h | h | h | h | h | h | h <;> simp [h]
theorem ro_n {g₁ g₂ g₃ g₄ g₅ g₆ g₇ : α} : ∀ q ∈ b :: e :: f :: ((g₁ :: g₂ :: g₃ :: g₄ :: g₅ :: g₆ :: [g₇]) ++ (c :: l)), q ∈ a :: b :: c :: d :: e :: f :: g₁ :: g₂ :: g₃ :: g₄ :: g₅ :: g₆ :: g₇ :: l := by
  intro q hq; simp only [List.mem_cons, List.cons_append, List.nil_append] at hq ⊢; rcases hq with h | h | h | h | h | h | h | h | h | h | h | h <;> simp [h]
theorem ro_w : ∀ q ∈ d :: b :: c :: l, q ∈ a :: b :: c :: d :: l := by
  intro q hq; simp only [List.mem_cons] at hq ⊢; rcases hq with h | h | h | h <;> simp [h]
theorem ro_f : ∀ q ∈ c :: a :: b :: l, q ∈ a :: b :: c :: l := by
  intro q hq; simp only [List.mem_cons] at hq ⊢; rcases hq with h | h | h | h <;> simp [h]
theorem ro_i : ∀ q ∈ e :: b :: a :: d :: l, q ∈ a :: b :: c :: d :: e :: f :: l := by
  intro q hq; simp only [List.mem_cons] at hq ⊢; rcases hq with h | h | h | h | h <;> simp [h]
theorem ro_k : ∀ q ∈ c :: b :: d :: l, q ∈ a :: b :: c :: d :: e :: l := by
  intro q hq; simp only [List.mem_cons] at hq ⊢; rcases hq with h | h | h | h <;> simp [h]
theorem ro_r : ∀ q ∈ d :: a :: c :: l, q ∈ a :: b :: c :: d :: l := by
  intro q hq; simp only [List.mem_cons] at hq ⊢; rcases hq with h | h | h | h <;> simp [h]
end


theorem taken_spec {w : World} {dp un : Nat} {gd : Option (List Code)} {envL : Env} {mg mb mL : Str → Option Value} {mean : ExcName → Option Value}
    {s : Shared} {hb : Heap} {Q E : Value → Shared → Prop} {LL Nm Ws Ls : Addr} {nms wos lvs : Array Value} {ns : List Str} {ws ls : List Int}
    (X : (hd.heap_39 w.params).In hb) (T : Top viewP (looseW viewP ["filterfalse"]) mean mg mb hb) (hdp : dp + 200 ≤ 800) (hun : un + 600 ≤ 5000)
    (FL : Fr hb LL s.heap mL) (hfL : envL.frame = some LL) (hkL : envL.scope.kind = .function)
    (hNm : s.heap.IsList Nm nms) (hns : StrsAre nms.toList ns) (hWs : s.heap.IsList Ws wos) (hws : IntsAre wos.toList ws) (hLs : s.heap.IsList Ls lvs) (hls : IntsAre lvs.toList ls)
    (bNm : hb.get? Nm = none) (bWs : hb.get? Ws = none) (bLs : hb.get? Ls = none) (hn6 : ns.length = 6) (hw6 : ws.length = 6) (hnd : ns.Nodup)
    {wf : Str → Int} {anc : Nat → List Str} (hwf : ∀ (i : Nat) (p : Str) (x : Int), ns[i]? = some p → ws[i]? = some x → wf p = x)
    (hanc : ∀ (i : Nat) (x : Int), ls[i]? = some x → ∃ (n : Nat) (q : Str), x = (n : Int) ∧ n < 6 ∧ ns[n]? = some q ∧ q.length ≤ 100 ∧ AncOf (Txt.rstripChars q (Str.ofString "/")) (anc n) ∧ (∀ p ∈ anc n, p ∈ ns) ∧ (anc n).length ≤ 6)
    (hl6 : ls.length ≤ 6) (hl0 : 0 < ls.length) {G : List Int → List Str → List Int → Prop}
    (hG : GSpec ls anc wf G) (hga : AllBare s.gens)
    (ret : ∀ (r Sd Td : Addr) (s' : Shared) (ov tv : Array Value) (oe te : Nat) (ss hs : List Str) (ts : List Int), Fr hb LL s'.heap mL → (∀ b o, b ≠ LL → s.heap.get? b = some o → s'.heap.get? b = some o) →
      News hb LL s'.heap [(r, { cls := .type "tuple", data := .seq #[.ref Sd, .ref Td] }), (Sd, listOf ov oe), (Td, listOf tv te)] → PyProof.Rows.StrsAre ov.toList ss → ss.Perm hs → sortedS ss = true → IntsAre tv.toList ts → G [] hs ts →
      AllBare s'.gens → s'.drawn = s.drawn → s'.os = s.os → Q (.ref r) s') :
    wpAny (model PySem.Challenge.rw_ij0079_01.row.prog w) { handled := none, depth := dp, frames := some [envL], guards := gd, units := un } (call (.ref 145) [.ref Nm, .ref Ws, .ref Ls]) Q E s := by
  revert X
  k_fill
  intro X
  refine wpAny_call ?_
  refine' code_cellsN ?k3 ?k5 ?kk ?ks ?k6 ?k7 ?k8 ?k9 ?kB ?kD ?_ ?c2 ?c3 ?c4
  case k3 => k_asm
  case k5 => k_asm
  case k6 => k_is
  case k7 => k_is
  case k8 => ktr_room
  case k9 => exact BindsTo.of_eq rfl
  case kB => exact rfl
  case kD => decide +kernel
  case c2 => exact rfl
  case c3 => exact rfl
  case c4 => exact rfl
  case kk => exact FL.keep
  case ks => exact Nat.le_trans FL.above (Nat.le_of_lt FL.ns.lt)
  intro Lt h₁ tk cells hLt F₁ N₁ kp Y hfresh
  obtain ⟨o1, o2, o3, hcs, d1, d2, d3⟩ := CellsAre.three Y
  subst hcs
  replace d1 : o1.data = .cell none := d1
  replace d2 : o2.data = .cell (some (.ref Ws)) := d2
  replace d3 : o3.data = .cell (some (.ref Nm)) := d3
  replace F₁ : Fr hb Lt h₁ (fun y => if y = Str.ofString "leaves" then some (.ref Ls) else none) := F₁
  obtain ⟨newsA, NA0, hallA⟩ := all_news FL
  have ltLt : ∀ {b o}, s.heap.get? b = some o → b < Lt := fun e => by rw [hLt]; exact Heap.lt_size e
  have NA : News hb Lt h₁ newsA := fun q hq => ⟨kp _ _ (NA0 q hq).1, Nat.ne_of_lt (ltLt (NA0 q hq).1), (NA0 q hq).2.2⟩
  have hneA : ∀ q ∈ newsA, q.1 ≠ LL := fun q hq => (NA0 q hq).2.1
  have ltA : ∀ q ∈ newsA, q.1 < Lt := fun q hq => ltLt (NA0 q hq).1
  have hLLt : LL < Lt := hLt ▸ FL.ns.lt
  have hLs1 : h₁.get? LL = s.heap.get? LL := by
    obtain ⟨o, _, _, ho, _⟩ := FL.ns
    rw [ho]; exact kp _ _ ho
  have FL₁ : Fr hb LL h₁ mL := Fr.kept FL kp
  obtain ⟨g, hgz, hgb, hgh, hgn, oLL, hoLL, hgLL, hnf, hbLL⟩ := ghost FL₁
  have Fg : Fr g Lt h₁ _ := ⟨F₁.ns, hgh, by rw [hgz]; exact hLLt⟩
  have hNm' := hNm
  have hWs' := hWs
  have hLs' := hLs
  obtain ⟨oNm, gNm, cNm, eNm, dNm⟩ := hNm'
  obtain ⟨oWs, gWs, cWs, eWs, dWs⟩ := hWs'
  obtain ⟨oLs, gLs, cLs, eLs, dLs⟩ := hLs'
  have ltne : ∀ {b o}, s.heap.get? b = some o → b ≠ Lt := fun e => Nat.ne_of_lt (ltLt e)
  have ltNm := ltLt gNm
  have ltWs := ltLt gWs
  have ltLs := ltLt gLs
  have NL : News hb Lt h₁ [(Nm, oNm), (Ws, oWs), (Ls, oLs)] := fun q hq => by
    simp only [List.mem_cons, List.not_mem_nil, or_false] at hq
    rcases hq with rfl | rfl | rfl
    · exact ⟨kp _ _ gNm, ltne gNm, bNm⟩
    · exact ⟨kp _ _ gWs, ltne gWs, bWs⟩
    · exact ⟨kp _ _ gLs, ltne gLs, bLs⟩
  have neL : ∀ q ∈ [(Nm, oNm), (Ws, oWs), (Ls, oLs)], q.1 ≠ LL := fun q hq => by
    simp only [List.mem_cons, List.not_mem_nil, or_false] at hq
    rcases hq with rfl | rfl | rfl
    · exact list_ne FL hNm
    · exact list_ne FL hWs
    · exact list_ne FL hLs
  have Ng := News.app (News.ghosted N₁ (fun q hq => fresh_ne FL (hfresh q hq)) hgn) (News.app (News.ghosted NL neL hgn) (News.ghosted NA hneA hgn))
  simp only [List.cons_append, List.nil_append] at Ng
  have Xg := X.keeps hgb
  have Tg := T.keeps hgb
  dsimp only
  show wpAny _ _ _ _ _ _
  k_fold
  k_steps
  unfold Stop
  refine wpAny_DictComp_free (strKind PySem.Challenge.rw_ij0079_01.row.prog w) (fun _ => true) (fun v k => ∃ (i : Nat) (t : Tok), v = .int i t ∧ ns[i]? = some k) (fun v y => ∃ (i : Nat) (t u : Tok) (x : Int), v = .int i t ∧ y = .int x u ∧ ws[i]? = some x)
    (by rfl) (by decide) (by rfl) (by decide) (by rfl) ?_
  k_steps
  rename Fr _ _ _ _ => Fr1
  rename News _ _ _ _ => Nr1
  refine wpAny_pyIter_range (a := 0) (b := 6) (c := 1) (News.get Nr1 (by k_mem)) (by rfl) ?_
  have Fr2 := Fr1.push { cls := .type "range_iterator", data := .fields #[rawInt 0, rawInt (Builtin.Range.rangeSize 0 6 1), rawInt 1] }
  have Nr2 := Nr1.push Fr1 { cls := .type "range_iterator", data := .fields #[rawInt 0, rawInt (Builtin.Range.rangeSize 0 6 1), rawInt 1] }
  refine ⟨_, _, _, 6, _, _, rfl, range6 ?hh, by decide, News.get Nr2 (by k_mem), ?_, ?_, ?_⟩
  case hh => exact rfl
  · intro b hb
    rw [List.mem_singleton.mp hb, Heap.size_push]; exact Nat.lt_succ_self _
  · refine quiet_worth (fun _ => rfl) (fun _ => rfl) (fun _ => rfl) (fun _ => rfl) rfl rfl ⟨_, News.get Nr2 (by k_mem), d3⟩ ⟨_, News.get Nr2 (by k_mem), d2⟩ ⟨_, News.get Nr2 (by k_mem), cNm, _, dNm⟩ hns ⟨_, News.get Nr2 (by k_mem), cWs, _, dWs⟩ hws ?_ ?_ ?_ ?_ (by omega) (by omega) (by omega)
    · exact notin_size (News.get Nr1 (show (Lt + 1, o3) ∈ _ by k_mem))
    · exact notin_size (News.get Nr1 (show (Lt + 1 + 1, o2) ∈ _ by k_mem))
    · exact notin_size (News.get Nr1 (show (Nm, oNm) ∈ _ by k_mem))
    · exact notin_size (News.get Nr1 (show (Ws, oWs) ∈ _ by k_mem))
  intro D h' tk' kvs vs hD hdict hlen hP hst hk
  have hW : WorthIs ns ws 6 kvs := by
    have e : vs.filter (fun _ => true) = vs := List.filter_eq_self.mpr fun _ _ => rfl
    rw [e] at hst
    rw [← hlen]
    exact worth_stored hnd hst fun j v hj => by
      obtain ⟨_, t, rfl⟩ := hP j v hj
      exact ⟨t, by rw [Int.zero_add]⟩
  have kpD := kept_around hk
  obtain ⟨oD, hoD, hDat⟩ := Heap.dictOf_iff.mp hdict
  have F3 := Fr.kept Fr1 kpD
  have N3' := News.cons Fr1 Nr1 kpD hoD (none_of_push hD)
  have nD3 : D ≠ Lt + 1 + 1 + 1 := fun z => by
    have e := none_of_push hD
    rw [z, News.get Nr1 (show (Lt + 1 + 1 + 1, o1) ∈ _ by k_mem)] at e; cases e
  have N3 : News g Lt h' ((Lt + 1 + 1 + 1, o1) :: (D, oD) :: (Lt + 1 + 1, o2) :: (Lt + 1, o3) :: (Nm, oNm) :: (Ws, oWs) :: (Ls, oLs) :: newsA) := News.pick N3' (by (repeat (refine List.forall_mem_cons.mpr (And.intro (by repeat (first | (with_reducible exact List.mem_cons_self) | refine List.mem_cons_of_mem _ ?_)) ?_))); (intro q hq; repeat (first | (with_reducible exact hq) | refine List.mem_cons_of_mem _ ?_)))
  clear Fr1 Nr1 Fr2 Nr2 N3'
  refine stCN (own := []) F3 N3 (by rfl) d1 (fun _ h => nomatch h) ?_ ?_
  · intro p hp
    simp only [List.mem_cons] at hp
    rcases hp with rfl | rfl | rfl | rfl | rfl | rfl | hp
    · exact nD3
    · exact Nat.ne_of_lt (Nat.lt_succ_self _)
    · exact Nat.ne_of_lt (Nat.lt_succ_of_lt (Nat.lt_succ_self _))
    · exact Nat.ne_of_lt (Nat.lt_of_lt_of_le ltNm (Nat.le_add_right Lt 3))
    · exact Nat.ne_of_lt (Nat.lt_of_lt_of_le ltWs (Nat.le_add_right Lt 3))
    · exact Nat.ne_of_lt (Nat.lt_of_lt_of_le ltLs (Nat.le_add_right Lt 3))
    · exact Nat.ne_of_lt (Nat.lt_of_lt_of_le (ltA p hp) (Nat.le_add_right Lt 3))
  intro h4 o1' F4 N4 d1'
  clear F3 N3
  simp only [List.nil_append] at N4
  k_steps
  unfold Stop
  refine assign_listcomp (by rfl) (by rfl) (by decide) (by rfl) (by decide) (by rfl) (by rfl) (by rfl) ?_
  k_steps
  have hlsz : lvs.size = ls.length := by rw [← Array.length_toList]; exact ints_len hls
  have hLs4 : h4.IsList Ls lvs := ⟨oLs, News.get N4 (by k_mem), cLs, _, dLs⟩
  refine wpAny_pyIter_list hLs4 ?_
  have F5 := F4.push { cls := .type "list_iterator", data := .fields #[.ref Ls, .int 0 0] }
  have N5 := N4.push F4 { cls := .type "list_iterator", data := .fields #[.ref Ls, .int 0 0] }
  have hLs5 := IsList.kept hLs4 (kept_push { cls := .type "list_iterator", data := .fields #[.ref Ls, .int 0 0] } h4)
  have nIL : Ls ≠ h4.objs.size := fun z => notin_size (News.get N4 (show (Ls, oLs) ∈ _ by k_mem)) (List.mem_singleton.mpr z)
  refine ⟨h4.objs.size, _, _, _, BareMono, BareMono, lvs.size, _, _, fun _ => true, fun new i v y => ∃ leaf t, v = .int leaf t ∧ ls[i]? = some leaf ∧ Key new y (8 * (-((anc leaf.toNat).map wf).sum) + leaf), _, rfl, (Walks.list (by rfl) h4.objs.size Ls nIL lvs).toS, ?_, ?_, ?_, ?_, ?_, ?_, F5.ns, ?_⟩
  · rw [hlsz]; exact Nat.le_trans hl6 (by decide)
  · exact ⟨fun a b e h => by rw [e]; exact h, fun _ _ h => h, fun _ h => h, fun _ _ _ h1 h2 h => h2 (h1 h), fun i s gs st _ => st, fun i s st b hb => by
      rw [List.mem_singleton.mp hb]
      obtain ⟨o, ho, _⟩ := st.1
      rw [ho]; rfl, fun i s _ _ st => st, fun a b i v y hab ⟨leaf, t, h1, h2, h3⟩ => ⟨leaf, t, h1, h2, Key.mono h3 hab⟩⟩
  · exact ⟨⟨_, Heap.get?_push_size _ rfl, rfl, rfl⟩, hLs5⟩
  · intro b hb9
    rw [Heap.size_push]
    rcases List.mem_cons.mp hb9 with rfl | hb9
    · exact Nat.lt_succ_self _
    · rw [List.mem_singleton.mp hb9]
      exact Nat.lt_succ_of_lt (Heap.lt_size (News.get N4 (show (Ls, oLs) ∈ _ by k_mem)))
  · constructor
    · intro C i v s₃ m₃ _ _ _ _ _
      exact wpAny_pure ⟨rfl, fun b o _ e => e, rfl, rfl, rfl, Nat.le_refl _⟩
    · intro C i v s₃ m₃ hC hP _ hn hm hmv
      refine wpAny_with_toks (Nat.le_refl s₃.toks) ?_
      have mkT : MarkT := ⟨trivial⟩
      have kp3 : Kept h4 s₃.heap := fun b o e => hmv.heap b o (notin_size e) (Heap.get?_push_of_some _ e)
      have FC : Fr g C s₃.heap m₃ := ⟨hn, fun b o e => kp3 b o (F4.keep b o e), Nat.le_trans F4.above (Nat.le_trans (Nat.le_of_lt F5.ns.lt) hC)⟩
      have NC : News g C s₃.heap ((Lt + 1 + 1 + 1, o1') :: (D, oD) :: (Lt + 1 + 1, o2) :: (Lt + 1, o3) :: (Nm, oNm) :: (Ws, oWs) :: (Ls, oLs) :: newsA) := fun q hq => ⟨kp3 _ _ (N4 q hq).1, Nat.ne_of_lt (Nat.lt_of_lt_of_le (Nat.lt_of_lt_of_le (Heap.lt_size (N4 q hq).1) (by rw [Heap.size_push]; exact Nat.le_succ _)) hC), (N4 q hq).2.2⟩
      clear F4 N4 F5 N5
      obtain ⟨leaf, hleaf, hvl⟩ : ∃ leaf, ls[i]? = some leaf ∧ ∃ t, v = .int leaf t := ints_at hls hP
      obtain ⟨tl, rfl⟩ := hvl
      obtain ⟨n, q, rfl, hn6', hq, hq100, hanc1, hancns, hanc6⟩ := hanc i leaf hleaf
      obtain ⟨tq, hnq⟩ := hns.get hq
      have hn8 : (n : Int) < 8 := by omega
      k_steps
      unfold Stop
      refine eval_listcomp (by rfl) (by decide) (by rfl) (by decide) (by rfl) ?_
      k_steps
      unfold Stop
      rename Fr _ _ _ _ => Fc
      rename News _ _ _ _ => Nc
      refine ancestry_spec X T (fun b o e => Fc.keep b o (hgb b o e)) (Nat.le_trans F₁.above (Nat.le_of_lt (Nat.lt_trans (Nat.lt_succ_self _) (Heap.lt_size (News.get Nc (show (Lt + 1, o3) ∈ _ by k_mem)))))) (by ktr_room) hq100 hanc1 fun a Cg hx tkx xg han hCn haC hzC kpx hax hCx hbare hat => ?_
      refine wpAny_pyIter_gen hat.1 ?_
      have Fx := Fr.kept Fc kpx
      have Nx := News.kept Nc kpx
      have hbCg : hb.get? Cg = none := by
        cases r : hb.get? Cg with
        | none => rfl
        | some o => have := Fc.keep _ _ (hgb _ _ r); rw [hCn] at this; cases this
      have neCg : ∀ {b o}, (b, o) ∈ _ → b ≠ Cg := fun {b o} hm z => by have := News.get Nc hm; rw [z, hCn] at this; cases this
      refine ⟨a, _, _, GenOnlyQ s₃.gens.size, (fun a b => b = a), GenOnlyQ s₃.gens.size, (anc n).length, _, _, (fun _ => true), _, rfl, anc_walks ?lA rfl (Top.nolimit T) haC hbCg, ?z1, ?z2, hat, ?z3, worth_turn (wf := wf) (fun _ => rfl) (fun _ => rfl) (fun _ => rfl) rfl ⟨_, News.get Nx (show (Lt + 1 + 1 + 1, o1') ∈ _ by k_mem), d1'⟩ (Heap.dictOf_iff.mpr ⟨_, News.get Nx (show (D, oD) ∈ _ by k_mem), hDat⟩) ?z4 ?z5 (fun i v h => h) ?z6, ?z7⟩
      case lA => exact ⟨rfl, by simp only [depth_in1, depth_deeper]; omega, by simp only [units_in1, units_deeper]; omega⟩
      case z1 => exact Nat.le_trans hanc6 (by decide)
      case z2 => exact anc_side fun _ _ _ _ _ _ h => h
      case z3 =>
        intro b hbm
        rcases List.mem_cons.mp hbm with rfl | hbm
        · exact hax
        · rcases List.mem_cons.mp hbm with rfl | hbm
          · exact hCx
          · exact Nat.lt_of_lt_of_le (List.mem_range.mp hbm) (Nat.le_trans hzC (Nat.le_of_lt hCx))
      case z4 => exact fun hm => neCg (show (Lt + 1 + 1 + 1, o1') ∈ _ by k_mem) (List.mem_singleton.mp hm)
      case z5 => exact fun hm => neCg (show (D, oD) ∈ _ by k_mem) (List.mem_singleton.mp hm)
      case z6 => exact fun p hp => worth_val hW hn6 hw6 hwf (hancns p hp)
      intro D2 k2 s' ys nw hD2 hlD2 hmv2 hout _
      have hints : IntsAre ys ((anc n).map wf) := compOut_ints hout (by simp) fun i v y hP hF => by
        obtain ⟨p, t, u, h1, h2, rfl⟩ := hF
        exact ⟨wf p, u, by rw [List.getElem?_map, h1]; rfl, rfl⟩
      have mv : ∀ {b o}, b ≠ Cg → hx.get? b = some o → s'.heap.get? b = some o := fun hb e => hmv2.heap _ _ (fun hm => hb (List.mem_singleton.mp hm)) e
      have old : ∀ {b o}, s₃.heap.get? b = some o → s'.heap.get? b = some o := fun {b o} e => mv (fun z => by rw [z, hCn] at e; cases e) (kpx _ _ e)
      have Fs : Fr g C s'.heap _ := Fr.kept Fc (fun b o e => old e)
      have Ns' := News.kept Nc (fun b o e => old e)
      clear Fc Nc Fx Nx
      k_steps
      unfold Stop
      refine sum_ints rfl (⟨_, hlD2, rfl, _, rfl⟩ : s'.heap.IsList D2 ys.toArray) hints fun h6 tk6 t6 kp6 => ?_
      have F6 := Fr.kept Fs kp6
      have N6 := News.kept Ns' kp6
      clear Fs Ns'
      k_steps
      refine ldVarK (m := m₃) F6.ns hm ?_ rfl rfl (by decide)
      k_steps
      unfold Stop
      rename_i uA uB
      refine wpAny_newTuple ?_ (show 2 ≤ sizeLine by decide)
      show s₃.toks ≤ _ → _
      intro htk
      refine ⟨⟨fun b o _ e => Heap.get?_push_of_some _ (kp6 _ _ (old e)), fun hb9 => bare_only (AllBare.push hb9 hbare) hmv2.gens, hmv2.drawn, hmv2.os, htk⟩, [(h6.objs.size, tup2 (-(List.map wf (anc n)).sum) n uA tl 0)], ⟨n, tl, rfl, hleaf, _, _, _, _, _, _, rfl, List.mem_singleton.mpr rfl, Int.natCast_nonneg _, hn8, ?_⟩, fun q hq => ?_⟩
      · rw [Int.toNat_natCast]
      · rw [List.mem_singleton.mp hq]
        refine ⟨Heap.get?_push_size _ rfl, ?_⟩
        cases r : s₃.heap.get? h6.objs.size with
        | none => rfl
        | some o => exact absurd (Heap.lt_size (kp6 _ _ (old r))) (Nat.lt_irrefl _)
  · exact fun hm => notin_size F4.ns.choose_spec.choose_spec.choose_spec.1 hm
  · intro D2 k2 s' ys nw hD2 hlD2 hmv2 hns2 hout hnw
    have ltF4 : ∀ {b o}, h4.get? b = some o → b ≠ Lt → s'.heap.get? b = some o := fun {b o} e hb => hmv2.heap b o (fun hm => by
      rcases List.mem_cons.mp hm with h | h
      · exact hb h
      · exact notin_size e h) (Heap.get?_push_of_some _ e)
    have neg : ∀ {b o}, g.get? b = some o → b ≠ Lt := fun e => Nat.ne_of_lt (Nat.lt_of_lt_of_le (Heap.lt_size e) F4.above)
    have Fs : Fr g Lt s'.heap _ := ⟨hns2, fun b o e => ltF4 (F4.keep b o e) (neg e), F4.above⟩
    have fresh4 : ∀ {b}, (h4.push { cls := .type "list_iterator", data := .fields #[.ref Ls, .int 0 0] }).get? b = none → b ≠ Lt ∧ g.get? b = none ∧ h4.get? b = none := fun {b} e => by
      have e4 := none_of_push e
      refine ⟨fun z => ?_, ?_, e4⟩
      · obtain ⟨o, _, _, ho, _⟩ := F4.ns
        rw [z, ho] at e4; cases e4
      · cases r : g.get? b with
        | none => rfl
        | some o => rw [F4.keep _ _ r] at e4; cases e4
    have hyl : ys.length = ls.length := by
      have := hout.1
      rw [range_true, List.length_range] at this
      omega
    obtain ⟨xs, hxs⟩ : ∃ xs, xs = ys.zip (ls.map fun x => 8 * (-((anc x.toNat).map wf).sum) + x) := ⟨_, rfl⟩
    have hx1 : xs.map (·.1) = ys := by rw [hxs, List.map_fst_zip (by rw [List.length_map]; omega)]
    have hx2 : xs.map (·.2) = ls.map fun x => 8 * (-((anc x.toNat).map wf).sum) + x := by rw [hxs, List.map_snd_zip (by rw [List.length_map]; omega)]
    have hspl : ∀ q ∈ ((Lt + 1 + 1 + 1, o1') :: (D, oD) :: (Lt + 1 + 1, o2) :: (Lt + 1, o3) :: (Nm, oNm) :: (Ws, oWs) :: (Ls, oLs) :: (nw ++ newsA)), q ∈ nw ∨ q ∈ ((Lt + 1 + 1 + 1, o1') :: (D, oD) :: (Lt + 1 + 1, o2) :: (Lt + 1, o3) :: (Nm, oNm) :: (Ws, oWs) :: (Ls, oLs) :: newsA) := by
      (repeat (refine List.forall_mem_cons.mpr (And.intro (.inr (by repeat (first | (with_reducible exact List.mem_cons_self) | refine List.mem_cons_of_mem _ ?_))) ?_))); (intro q hq); exact (List.mem_append.mp hq).elim .inl fun h => .inr (by repeat (first | exact h | refine List.mem_cons_of_mem _ ?_))
    have hNs : News g Lt s'.heap ((D2, itemsOf xs k2) :: (Lt + 1 + 1 + 1, o1') :: (D, oD) :: (Lt + 1 + 1, o2) :: (Lt + 1, o3) :: (Nm, oNm) :: (Ws, oWs) :: (Ls, oLs) :: (nw ++ newsA)) := fun q hq => by
      rcases List.mem_cons.mp hq with rfl | hq
      · refine ⟨?_, (fresh4 hD2).1, (fresh4 hD2).2.1⟩
        show s'.heap.get? D2 = some (listOf (xs.map (·.1)).toArray k2)
        rw [hx1]; exact hlD2
      · have := hspl q hq
        rcases this with h | h
        · exact ⟨(hnw q h).1, (fresh4 (hnw q h).2.2).1, (fresh4 (hnw q h).2.2).2.1⟩
        · exact ⟨ltF4 (N4 q h).1 (N4 q h).2.1, (N4 q h).2⟩
    have hneD2 : ∀ q ∈ ((Lt + 1 + 1 + 1, o1') :: (D, oD) :: (Lt + 1 + 1, o2) :: (Lt + 1, o3) :: (Nm, oNm) :: (Ws, oWs) :: (Ls, oLs) :: (nw ++ newsA)), q.1 ≠ D2 := fun q hq z => by
      have := hspl q hq
      rcases this with h | h
      · exact (hnw q h).2.1 z
      · have := (N4 q h).1
        rw [z, (fresh4 hD2).2.2] at this; cases this
    have hkx : ∀ p ∈ xs, Key ((Lt + 1 + 1 + 1, o1') :: (D, oD) :: (Lt + 1 + 1, o2) :: (Lt + 1, o3) :: (Nm, oNm) :: (Ws, oWs) :: (Ls, oLs) :: (nw ++ newsA)) p.1 p.2 := fun p hp => by
      obtain ⟨j, hj⟩ := List.mem_iff_getElem?.mp hp
      rw [hxs] at hj
      obtain ⟨hj1, hj2⟩ := List.getElem?_zip_eq_some.mp hj
      have hjl : j < lvs.size := by
        rw [hlsz, ← hyl]
        rcases Nat.lt_or_ge j ys.length with h | h
        · exact h
        · rw [List.getElem?_eq_none h] at hj1; cases hj1
      obtain ⟨v, _, leaf, t, _, hlf, hkey⟩ := hout.2 j j p.1 (by rw [range_true, List.getElem?_range hjl]) hj1
      rw [List.getElem?_map, hlf] at hj2
      simp only [Option.map_some, Option.some.injEq] at hj2
      rw [← hj2]
      exact Key.mono hkey fun q hq => by simp [hq]
    have hbare2 : AllBare s'.gens := hmv2.gens hga
    have Bg : Below { handled := none, depth := dp, frames := some [envL], guards := gd, units := un } hb [envL] g := ⟨rfl, hgb, ⟨(fun z => by rw [hkL] at z; cases z), ⟨LL, oLL, hfL, hbLL, hgLL, hnf⟩, trivial⟩⟩
    have hx64 : xs.length ≤ 64 := by rw [hxs, List.length_zip, List.length_map]; omega
    k_steps
    unfold Stop
    rename Fr _ _ _ _ => Fw
    rename News _ _ _ _ => Nw
    rename_i hA1 tA1 Hd hA2 ltH uT1 uT2 Td hA3 ltT Dt hA4 ltD hA5 hA6 hA7
    clear hA1 hA2 hA3 hA4 hA5 hA6
    have hbm : ∀ {b}, g.get? b = none → hb.get? b = none := fun {b} e => by
      cases r : hb.get? b with
      | none => rfl
      | some o => rw [hgb _ _ r] at e; cases e
    have neLLg : ∀ {b}, g.get? b = none → b ≠ LL := fun e z => by rw [z, hgLL] at e; cases e
    have Nw2 : News g Lt hA7 ((D2, itemsOf (hpfP xs (xs.length / 2)) k2) :: (Td, listOf #[Value.int 0 uT1] 0) :: (Hd, listOf #[] 0) :: (((Lt + 1 + 1 + 1, o1') :: (D, oD) :: (Lt + 1 + 1, o2) :: (Lt + 1, o3) :: (Nm, oNm) :: (Ws, oWs) :: [(Ls, oLs)]) ++ (nw ++ newsA))) := News.pick Nw ro_w
    have hinv : TInv hb LL Lt D2 mL (fun y => if y = Str.ofString "heap" then some (Value.ref D2) else if y = Str.ofString "leaves" then some (Value.ref Ls) else none)
        ((Lt + 1 + 1 + 1, o1') :: (D, oD) :: (Lt + 1 + 1, o2) :: (Lt + 1, o3) :: (Nm, oNm) :: (Ws, oWs) :: [(Ls, oLs)]) newsA s (hpfP xs (xs.length / 2)) [] [0] { s' with heap := hA7, toks := tk } := by
      refine ⟨_, _, _, Hd, Td, #[], _, nw ++ newsA, _, ?_, ⟨Fw.ns, fun b o e => Fw.keep b o (hgb b o e), F₁.above⟩, ?_, rfl, rfl, fun q hq => ⟨(Nw2 q hq).1, (Nw2 q hq).2.1, hbm (Nw2 q hq).2.2⟩, fun q hq => neLLg (Nw2 q hq).2.2, ?_, ?_, ?_, ⟨rfl, fun i v h => by simp at h⟩, .cons _ _ .nil, hbare2, ?_, ?_, fun q hq => List.mem_append_right _ hq⟩
      · exact ⟨FL₁.ns.at' fun o e => by rw [hoLL] at e; cases e; exact Fw.keep _ _ hgLL, fun b o e => Fw.keep _ _ (hgb _ _ e), FL.above⟩
      · intro x hx0
        simp only [tStored, List.contains_cons, List.contains_nil, Bool.or_false, Bool.or_eq_false_iff, beq_eq_false_iff_ne, ne_eq] at hx0
        simp only [if_neg hx0.1, if_neg hx0.2.1]
      · intro q hq
        rcases List.mem_cons.mp hq with rfl | hq
        · exact Nat.ne_of_gt ltT.2.1
        · rcases List.mem_cons.mp hq with rfl | hq
          · exact Nat.ne_of_gt ltH.1
          · exact hneD2 q (by simpa using hq)
      · intro q hq
        rcases List.mem_cons.mp hq with rfl | hq
        · exact Nat.ne_of_lt ltT.1
        · obtain ⟨_, _, a1, a2, a3, a4, a5, a6, a7, a8⟩ := ltT
          simp only [List.mem_cons, List.mem_append, List.cons_append, List.nil_append] at hq
          rcases hq with rfl | rfl | rfl | rfl | rfl | rfl | rfl | hq
          · exact Nat.ne_of_lt a1
          · exact Nat.ne_of_lt a2
          · exact Nat.ne_of_lt a3
          · exact Nat.ne_of_lt a4
          · exact Nat.ne_of_lt a5
          · exact Nat.ne_of_lt a6
          · exact Nat.ne_of_lt a7
          · exact Nat.ne_of_lt (allLt_mem a8 q (List.mem_append.mpr hq))
      · exact hpfP_key (fun p hp => by simpa using hkx p hp) (by rw [hxs, List.length_zip, List.length_map]; omega) _
      · exact hmv2.drawn
      · exact hmv2.os
    refine While_st (fun n s2 => ∃ xs hs ts, n = mu (xs.map (·.2)) ∧ HeapFrom xs 0 ∧ G (xs.map (·.2)) hs ts ∧ TInv hb LL Lt D2 mL (fun y => if y = Str.ofString "heap" then some (Value.ref D2) else if y = Str.ofString "leaves" then some (Value.ref Ls) else none)
        ((Lt + 1 + 1 + 1, o1') :: (D, oD) :: (Lt + 1 + 1, o2) :: (Lt + 1, o3) :: (Nm, oNm) :: (Ws, oWs) :: [(Ls, oLs)]) newsA s xs hs ts s2) ⟨_, _, _, rfl, heapFrom_start, hG.perm ((hpfP_perm (by rw [hxs, List.length_zip, List.length_map]; omega) _).symm.map _) (hx2 ▸ hG.start), hinv⟩ ?_ (by passes_own)
    · rintro n s2 ⟨xs2, hs2, ts2, rfl, hH2, hG2, ep, hep, tep, Hd2, Td2, hv, tv, rest, m2, FL2, FT2, hoff, hmh, hmt, N2, nLL, nD, nT, hk2, hhs, hts, hb2, hdr2, hos2, hkeep⟩
      clear Fw Nw Nw2 hinv
      obtain ⟨hz1, hz2, hz3, hz4⟩ := hG.size hG2
      have hx26 : xs2.length ≤ 6 := by rw [List.length_map] at hz1; exact hz1
      have hvl : hv.size = hs2.length := by rw [← Array.length_toList]; exact hhs.1
      have hvs : hv.size + 1 < scanBound := Nat.lt_of_le_of_lt (show hv.size + 1 ≤ 7 by omega) (by decide)
      obtain ⟨g2, hg2z, hg2b, hg2h, hg2n, oL2, hoL2, hg2L, hnf2, _⟩ := ghost FL2
      have Fg2 : Fr g2 Lt s2.heap m2 := ⟨FT2.ns, hg2h, by rw [hg2z]; exact hLLt⟩
      have Ng2 := News.ghosted N2 nLL hg2n
      have Xg2 := X.keeps hg2b
      have Tg2 := T.keeps hg2b
      have Bg2 : Below { handled := none, depth := dp, frames := some [envL], guards := gd, units := un } hb [envL] g2 := ⟨rfl, hg2b, ⟨(fun z => by rw [hkL] at z; cases z), ⟨LL, oL2, hfL, hbLL, hg2L, hnf2⟩, trivial⟩⟩
      rw [norm2 hoff hmh hmt] at Fg2
      try clear Bg
      try clear Xg
      try clear Tg
      try clear ltH
      try clear ltT
      try clear ltD
      try clear hneD2
      try clear hkx
      try clear hNs
      try clear Fs
      try clear hout
      try clear hnw
      try clear hlD2
      try clear hD2
      try clear hmv2
      try clear hns2
      try clear fresh4
      try clear ltF4
      try clear neg
      try clear F4
      try clear N4
      try clear F5
      try clear N5
      try clear N₁
      try clear NA
      try clear NL
      try clear Ng
      try clear neL
      try clear F₁
      try clear FL₁
      try clear FT2
      try clear N2
      simp only [List.cons_append, List.nil_append] at Ng2 hk2 nD nT
      walk1
      walk1
      walk1
      walk1
      refine newList_K (by with_reducible assumption) (by with_reducible assumption) ?_
      intro l' h' F' N' l1
      refine ne_nil (⟨_, News.get N' (show (D2, itemsOf xs2 ep) ∈ _ by k_mem), rfl, _, rfl⟩ : h'.IsList D2 _) (⟨_, News.get N' (show (l', _) ∈ _ by k_mem), rfl, _, rfl⟩ : h'.IsList l' #[]) (by ktr_units) ?_
      replace l1 := allLt_of l1
      simp only [AllLt, and_true] at l1
      k_sweep
      have N3 : News g2 Lt h' _ := fun q hq => N' q (List.mem_cons_of_mem _ hq)
      clear N'
      have hlen2 : ((xs2.map (·.1)).toArray.size = xs2.length) := by simp
      rw [hlen2]
      walk1
      by_cases hz : xs2.length = 0
      · rw [show decide (xs2.length ≠ 0) = false by simp [hz]]
        k_steps
        refine sorted_N_str F' N3 (l := Hd2) (vs := hv.toList) (ss := hs2) ⟨_, News.get N3 (show (Hd2, listOf hv hep) ∈ _ by k_mem), rfl, _, by rw [Array.toArray_toList]⟩ (strsAre_lib hhs) (by rw [Array.length_toList]; omega) fun hS vsS ssS eS FS NS aS bS cS => ?_
        clear F' N3
        k_steps
        rename Fr _ _ _ _ => Fz
        rename News _ _ _ _ => Nz
        have hxe : xs2 = [] := List.length_eq_zero_iff.mp hz
        rw [hxe] at hG2
        have FLz : Fr hb LL _ mL := ⟨FL2.ns.at' fun o e => (by rw [hoL2] at e; cases e; exact Fz.keep _ _ hg2L), fun b o e => Fz.keep _ _ (hg2b _ _ e), FL2.above⟩
        have NAz : News hb LL _ newsA := fun q hq => ⟨(Nz q (by
          have := hkeep q hq
          simp only [List.mem_cons]; simp [this])).1, hneA q hq, (NA0 q hq).2.2⟩
        have nz : ∀ {b : Addr}, g2.get? b = none → hb.get? b = none := fun e => unghost_ne hg2b e
        exact ret _ _ _ _ vsS.toArray tv eS tep ssS hs2 ts2 FLz (fun b o hbl e => hallA _ _ FLz NAz b o hbl e) (fun q hq => by
          rcases List.mem_cons.mp hq with rfl | hq
          · exact ⟨(Nz _ List.mem_cons_self).1, fun z => (by have := (Nz _ List.mem_cons_self).2.2; rw [z, hg2L] at this; cases this), nz (Nz _ List.mem_cons_self).2.2⟩
          · rcases List.mem_cons.mp hq with rfl | hq
            · exact ⟨(Nz _ (List.mem_cons_of_mem _ List.mem_cons_self)).1, fun z => (by have := (Nz _ (List.mem_cons_of_mem _ List.mem_cons_self)).2.2; rw [z, hg2L] at this; cases this), nz (Nz _ (List.mem_cons_of_mem _ List.mem_cons_self)).2.2⟩
            · rw [List.mem_singleton.mp hq]
              have h9 := Nz (Td2, listOf tv tep) (by k_mem)
              exact ⟨h9.1, fun z => (by have := h9.2.2; rw [z, hg2L] at this; cases this), nz h9.2.2⟩) (by rw [List.toList_toArray]; exact aS) bS cS hts hG2 hb2 hdr2 hos2
      · have hxp : 0 < xs2.length := Nat.pos_of_ne_zero hz
        rw [show decide (xs2.length ≠ 0) = true from decide_eq_true hz]
        k_steps
        unfold Stop
        rename_i v1 key1 hx1
        obtain ⟨at1, x1, y1, tx1, ty1, nt1, hv1, hm1, hy0, hy8, hkey1⟩ := hk2 (v1, key1) (List.mem_of_getElem? hx1)
        dsimp only at hv1 hkey1
        subst hv1
        rename Fr _ _ _ _ => Fa
        rename News _ _ _ _ => Na
        have Na2 : News g2 Lt _ ((at1, tup2 x1 y1 tx1 ty1 nt1) :: _) := fun q hq => by
          rcases List.mem_cons.mp hq with rfl | hq
          · exact Na _ (List.mem_cons_of_mem _ (List.mem_cons_of_mem _ (List.mem_cons_of_mem _ hm1)))
          · exact Na q hq
        clear Na
        obtain ⟨n0, i0, hn0, hi0⟩ := hG.key hG2 key1 (List.mem_map.mpr ⟨_, List.mem_of_getElem? hx1, rfl⟩)
        have hy1 : y1 = (n0 : Int) := by omega
        subst hy1
        obtain ⟨n, q, hnn, hn6', hq, hq100, hanc1, hancns, hanc6⟩ := hanc i0 n0 hi0
        have hnn' : n = n0 := by omega
        subst hnn'
        obtain ⟨tq, hnq⟩ := hns.get hq
        k_steps
        unfold Stop
        rename Fr _ _ _ _ => Fb
        rename News _ _ _ _ => Nb
        refine ancestry_spec X T (fun b o e => Fb.keep b o (hg2b b o e)) (Nat.le_trans FL.above (Nat.le_trans (Nat.le_of_lt hLLt) (Nat.le_of_lt Fb.ns.lt))) (by ktr_room) hq100 hanc1 fun a Cg hx tkx xg han hCn haC hzC kpx hax hCx hbare hat => ?_
        have Fx := Fr.kept Fb kpx
        have Nx := News.kept Nb kpx
        have CgLt : Cg ≠ Lt := fun z => by
          obtain ⟨o, _, _, ho, _⟩ := Fb.ns
          rw [z, ho] at hCn; cases hCn
        have CgLL : Cg ≠ LL := fun z => by
          have := Fb.keep _ _ hg2L
          rw [z, this] at hCn; cases hCn
        have nCgN := news_ne Nb hCn
        have hD2s0 := News.get Nb (show (D2, itemsOf xs2 ep) ∈ _ by k_mem)
        clear Fb Nb
        k_steps
        unfold Stop
        have hHd : hx.IsList Hd2 hv := ⟨_, News.get Nx (show (Hd2, listOf hv hep) ∈ _ by k_mem), rfl, _, rfl⟩
        refine difference_spec (X.keeps hat.2.2.1) (T.keeps hat.2.2.1) (by ktr_room) (by ktr_units) hHd hhs hvs hat.1 fun I dI B S c h7 tk7 kp7 gI gdI gB gS nI nd nB nS => ?_
        have Fy := Fr.kept Fx kp7
        have Ny := News.kept Nx kp7
        clear Fx Nx
        k_steps
        unfold Stop
        have nb : ∀ {b}, hx.get? b = none → hb.get? b = none := fun {b} e => by
          cases r : hb.get? b with
          | none => rfl
          | some o => rw [hat.2.2.1 _ _ r] at e; cases e
        obtain ⟨oax, oCx, gax, gCx⟩ := hat.here
        have nC : ∀ {b}, hx.get? b = none → b ≠ Cg := fun e z => by rw [z, gCx] at e; cases e
        have hbCg : hb.get? Cg = none := by
          cases r : hb.get? Cg with
          | none => rfl
          | some o => exact absurd (Heap.lt_size r) (Nat.not_lt.mpr hzC)
        obtain ⟨oLt, esLt, epLt, gLt, rLt⟩ := Fy.ns
        have hD2s : h7.objs.size ≠ D2 := fun z => Nat.lt_irrefl _ (z ▸ Heap.lt_size (kp7 _ _ (kpx _ _ hD2s0)))
        have hbLt : hb.objs.size ≤ Lt := Nat.le_trans FL.above (Nat.le_of_lt hLLt)
        have h7LL := Fy.keep _ _ hg2L
        have lt7 : ∀ {b o}, h7.get? b = some o → h7.objs.size ≠ b := fun e => Nat.ne_of_gt (Heap.lt_size e)
        have hbS := gS
        obtain ⟨oS, _, _, _, goS, _⟩ := hbS
        have FyT : Fr hb Lt h7 _ := ⟨Fy.ns, fun b o e => Fy.keep b o (hg2b b o e), hbLt⟩
        refine call_listH rfl (ff_walk X T ⟨rfl, rfl, ?u1, ?u2⟩ haC hbCg hzC (nb nI) (nb nd) (nb nB) (nb nS) (nC nI) (nC nd) (nC nB) (nC nS) ?frC (Lt := Lt) ?frL ⟨?d1, lt7 (kp7 _ _ gax), lt7 (kp7 _ _ gCx), lt7 gI, lt7 gdI, lt7 gB, lt7 goS, ?d8⟩)
          ⟨0, Nat.zero_le _, rfl, AncAt.kept hat (fun o e => kp7 _ _ e) (fun o e => kp7 _ _ e) FyT.keep, gI, gdI, gB, gS, ?fr, _, FyT⟩ (fun s8 acc c8 hheld hl8 hitems => ?_) ?sz
        case u1 => simp only [depth_in1, depth_deeper]; omega
        case u2 => simp only [units_in1, units_deeper]; omega
        case frC =>
          intro hm
          exact ((mem_frames_two rfl hfL).mp hm).elim CgLt CgLL
        case frL => exact (mem_frames_two rfl hfL).mpr (.inl rfl)
        case d1 => exact Heap.get?_none_of_le (Nat.le_trans hbLt (Nat.le_of_lt (Heap.lt_size gLt)))
        case d8 =>
          intro hm
          exact ((mem_frames_two rfl hfL).mp hm).elim (lt7 gLt) (lt7 h7LL)
        case fr => exact ⟨(fun z => ScopeKind.noConfusion z), ⟨Lt, oLt, rfl, Heap.get?_none_of_le hbLt, gLt, fun vs z => by rw [rLt.1] at z; cases z⟩, (fun z => by rw [hkL] at z; cases z), ⟨LL, oL2, hfL, hbLL, h7LL, hnf2⟩, trivial⟩
        case sz => exact Nat.le_trans (List.length_filter_le _ _) (Nat.le_trans hanc6 (by decide))
        have FL7 : Fr hb LL h7 mL := ⟨FL2.ns.at' fun o e => by rw [hoL2] at e; cases e; exact h7LL, FyT.keep, FL.above⟩
        have FL8 := held_fr hheld FL7 (Ne.symm CgLL) hbCg (fun b hb9 => ((mem_frames_two rfl hfL).mp hb9).elim (fun z => by rw [z]; exact Heap.get?_none_of_le hbLt) (fun z => by rw [z]; exact hbLL))
        have FT8 := held_fr hheld FyT (Ne.symm CgLt) hbCg (fun b hb9 => ((mem_frames_two rfl hfL).mp hb9).elim (fun z => by rw [z]; exact Heap.get?_none_of_le hbLt) (fun z => by rw [z]; exact hbLL))
        have hb2' : ∀ {b}, g2.get? b = none → hb.get? b = none := fun {b} e => by
          cases r : hb.get? b with
          | none => rfl
          | some o => rw [hg2b _ _ r] at e; cases e
        have neLL2 : ∀ {b}, g2.get? b = none → b ≠ LL := fun e z => by rw [z, hg2L] at e; cases e
        have N8 := held_news hheld (fun q hq => ⟨(Ny q hq).1, (Ny q hq).2.1, hb2' (Ny q hq).2.2⟩) nCgN (fun q hq hm => ((mem_frames_two rfl hfL).mp hm).elim (Ny q hq).2.1 (neLL2 (Ny q hq).2.2))
        have neLL8 := news_ne_g Ny hg2L
        clear Fy Ny
        obtain ⟨g3, hg3z, hg3b, hg3h, hg3n, oL3, hoL3, hg3L, hnf3, _⟩ := ghost FL8
        have Fg3 : Fr g3 Lt s8.heap _ := ⟨FT8.ns, hg3h, by rw [hg3z]; exact hLLt⟩
        have Ng3 := News.ghosted N8 neLL8 hg3n
        have Xg3 := X.keeps hg3b
        have Tg3 := T.keeps hg3b
        have Bg3 : Below { handled := none, depth := dp, frames := some [envL], guards := gd, units := un } hb [envL] g3 := ⟨rfl, hg3b, ⟨(fun z => by rw [hkL] at z; cases z), ⟨LL, oL3, hfL, hbLL, hg3L, hnf3⟩, trivial⟩⟩
        have Ng4 : News g3 Lt s8.heap ((h7.objs.size, listOf acc c8) :: _) := fun q hq => by
          rcases List.mem_cons.mp hq with rfl | hq
          · exact ⟨hl8, lt7 gLt, hg3n _ (lt7 h7LL) (Heap.get?_none_of_le (Nat.le_trans hbLt (Nat.le_of_lt (Heap.lt_size gLt))))⟩
          · exact Ng3 q hq
        clear Xg2 Tg2 Bg2 FL7 FyT FT8 N8 Ng3
        obtain ⟨fr9, hfr9⟩ : ∃ fr9, fr9 = (anc n).filter (fun p => !hs2.contains p) := ⟨_, rfl⟩
        rw [← hfr9] at hitems
        have hfrs : StrsAre acc.toList fr9 := ⟨by rw [Array.length_toList]; exact hitems.1, fun i v hv => by
          obtain ⟨p, t, h1, h2⟩ := hitems.2 i v (by rw [← Array.getElem?_toList]; exact hv)
          exact ⟨t, p, h1, h2⟩⟩
        have hfrns : ∀ p ∈ fr9, p ∈ ns := fun p hp => hancns p (by rw [hfr9] at hp; exact (List.mem_filter.mp hp).1)
        have hfr6 : fr9.length ≤ 6 := by rw [hfr9]; exact Nat.le_trans (List.length_filter_le _ _) hanc6
        k_steps
        unfold Stop
        refine eval_listcomp (by rfl) (by decide) (by rfl) (by decide) (by rfl) ?_
        k_steps
        rename Fr _ _ _ _ => Fc
        rename News _ _ _ _ => Nc
        have hFr9 := (⟨_, News.get Nc (show (h7.objs.size, listOf acc c8) ∈ _ by k_mem), rfl, _, rfl⟩ : Heap.IsList _ h7.objs.size acc)
        refine wpAny_pyIter_list hFr9 ?_
        have Fd := Fc.push { cls := .type "list_iterator", data := .fields #[.ref h7.objs.size, .int 0 0] }
        have Nd := Nc.push Fc { cls := .type "list_iterator", data := .fields #[.ref h7.objs.size, .int 0 0] }
        refine ⟨_, _, _, (fun a b => b = a), (fun a b => b = a), (fun a b => b = a), acc.size, _, _, (fun _ => true), _, rfl, (Walks.list ?e1 _ h7.objs.size ?e2 acc).toS, ?e3, list_side (fun _ _ _ _ _ _ h => h), ⟨⟨_, Heap.get?_push_size _ rfl, rfl, rfl⟩, IsList.kept hFr9 (kept_push _ _)⟩, ?e4,
          worth_turn (wf := wf) (all := fr9) (fun _ => rfl) (fun _ => rfl) (fun _ => rfl) rfl ⟨_, News.get Nd (show (Lt + 1 + 1 + 1, o1') ∈ _ by k_mem), d1'⟩ (Heap.dictOf_iff.mpr ⟨_, News.get Nd (show (D, oD) ∈ _ by k_mem), hDat⟩) ?e5 ?e6 ?e7 ?e8, ?e9⟩
        case e1 => rfl
        case e2 => exact fun z => notin_size (News.get Nc (show (h7.objs.size, listOf acc c8) ∈ _ by k_mem)) (List.mem_singleton.mpr z)
        case e3 => rw [hitems.1]; exact Nat.le_trans hfr6 (by decide)
        case e4 =>
          intro b hb9
          rw [Heap.size_push]
          rcases List.mem_cons.mp hb9 with rfl | hb9
          · exact Nat.lt_succ_self _
          · rw [List.mem_singleton.mp hb9]
            exact Nat.lt_succ_of_lt (Heap.lt_size (News.get Nc (show (h7.objs.size, listOf acc c8) ∈ _ by k_mem)))
        case e5 => exact notin_size (News.get Nc (show (Lt + 1 + 1 + 1, o1') ∈ _ by k_mem))
        case e6 => exact notin_size (News.get Nc (show (D, oD) ∈ _ by k_mem))
        case e7 =>
          intro i v hv
          obtain ⟨p, t, h1, h2⟩ := hitems.2 i v hv
          exact ⟨p, t, h1, h2⟩
        case e8 => exact fun p hp => worth_val hW hn6 hw6 hwf (hfrns p hp)
        intro D9 k9 s9 ys9 nw9 hD9 hlD9 hmv9 hout9 _
        have hints9 : IntsAre ys9 (fr9.map wf) := compOut_ints hout9 (by rw [List.length_map, hitems.1]) fun i v y hP hF => by
          obtain ⟨p, t, u, h1, h2, rfl⟩ := hF
          exact ⟨wf p, u, by rw [List.getElem?_map, h1]; rfl, rfl⟩
        have old9 := fun {b o} e => hmv9.heap b o (notin_size e) (Heap.get?_push_of_some _ e)
        have Fe : Fr g3 Lt s9.heap _ := Fr.kept Fc (fun b o e => old9 e)
        have Ne := News.kept Nc (fun b o e => old9 e)
        clear Fc Nc Fd Nd
        k_steps
        unfold Stop
        refine sum_ints rfl (⟨_, hlD9, rfl, _, rfl⟩ : s9.heap.IsList D9 ys9.toArray) hints9 fun h10 tk10 t10 kp10 => ?_
        have Fe' := Fr.kept Fe kp10
        have Ne' := News.kept Ne kp10
        clear Fe Ne
        k_steps
        · unfold Stop
          rename _ = -x1 => hsum
          rename Fr _ _ _ _ => Ff
          rename News _ _ _ _ => Nf
          obtain ⟨ys2, it2, hys⟩ : ∃ ys2 it2, xs2 = ys2 ++ [it2] := ⟨_, _, (List.dropLast_concat_getLast (List.ne_nil_of_length_pos hxp)).symm⟩
          have Nf2 : News g3 Lt _ ((D2, itemsOf xs2 ep) :: (h7.objs.size, listOf acc c8) :: (at1, tup2 x1 (n : Int) tx1 ty1 nt1) :: (Td2, listOf tv tep) :: (Hd2, listOf hv hep) :: (Lt + 1 + 1 + 1, o1') :: (D, oD) :: (Lt + 1 + 1, o2) :: (Lt + 1, o3) :: (Nm, oNm) :: (Ws, oWs) :: (Ls, oLs) :: rest) := News.pick Nf ro_f
          have hneP : ∀ q ∈ ((h7.objs.size, listOf acc c8) :: (at1, tup2 x1 (n : Int) tx1 ty1 nt1) :: (Td2, listOf tv tep) :: (Hd2, listOf hv hep) :: (Lt + 1 + 1 + 1, o1') :: (D, oD) :: (Lt + 1 + 1, o2) :: (Lt + 1, o3) :: (Nm, oNm) :: (Ws, oWs) :: (Ls, oLs) :: rest), q.1 ≠ D2 := fun q hq => by
            rcases List.mem_cons.mp hq with rfl | hq
            · exact hD2s
            · rcases List.mem_cons.mp hq with rfl | hq
              · exact nD _ (List.mem_cons_of_mem _ (List.mem_cons_of_mem _ hm1))
              · exact nD q hq
          have hkP : ∀ p ∈ xs2, Key ((h7.objs.size, listOf acc c8) :: (at1, tup2 x1 (n : Int) tx1 ty1 nt1) :: (Td2, listOf tv tep) :: (Hd2, listOf hv hep) :: (Lt + 1 + 1 + 1, o1') :: (D, oD) :: (Lt + 1 + 1, o2) :: (Lt + 1, o3) :: (Nm, oNm) :: (Ws, oWs) :: (Ls, oLs) :: rest) p.1 p.2 := fun p hp => Key.mono (hk2 p hp) fun q hq =>
            List.mem_cons_of_mem _ (List.mem_cons_of_mem _ (List.mem_cons_of_mem _ (List.mem_cons_of_mem _ hq)))
          refine heappop_spec Bg3 Ff Xg3 Nf2 Tg3 rfl rfl (by ktr_room) (by ktr_units) hneP hkP hys (by rw [hys]; simp) (fun p hp => hkP p (by rw [hys]; simp [hp])) (by omega) fun h11 tk11 F11 N11 => ?_
          clear Ff Nf Nf2
          rw [show (itAt xs2 0) = (Value.ref at1, key1) from itAt_of hx1]
          dsimp only
          k_steps
          rename Fr _ _ _ _ => Fg
          rename News _ _ _ _ => Ng
          refine add_two (⟨_, News.get Ng (show (Hd2, listOf hv hep) ∈ _ by k_mem), rfl, _, rfl⟩ : Heap.IsList _ Hd2 hv) (⟨_, News.get Ng (show (h7.objs.size, listOf acc c8) ∈ _ by k_mem), rfl, _, rfl⟩ : Heap.IsList _ h7.objs.size acc) ?sz9 ?_
          case sz9 => exact Nat.le_trans (show hv.size + acc.size ≤ 12 by have := hitems.1; omega) (by decide)
          rename Heap => h12
          have ab12 := news_above (s := { s9 with heap := h12 }) Fg Ng
          have Fh := Fg.push (listOf (hv ++ acc) 0)
          have Nh := Ng.push Fg (listOf (hv ++ acc) 0)
          clear Fg Ng
          k_steps
          rename Fr _ _ _ _ => Fi
          rename News _ _ _ _ => Ni
          obtain ⟨zs2, hzs2⟩ : ∃ zs2, zs2 = (if 0 < ys2.length then siftupP (ys2.set 0 it2) 0 else []) := ⟨_, rfl⟩
          rw [← hzs2] at Ni ab12
          have Ni2 : News g3 Lt _ ((Td2, listOf tv tep) :: (D2, itemsOf zs2 (ep + 1)) :: (h12.objs.size, listOf (hv ++ acc) 0) :: (at1, tup2 x1 (n : Int) tx1 ty1 nt1) :: (Lt + 1 + 1 + 1, o1') :: (D, oD) :: (Lt + 1 + 1, o2) :: (Lt + 1, o3) :: (Nm, oNm) :: (Ws, oWs) :: (Ls, oLs) :: rest) := News.pick Ni ro_i
          have nTI : ∀ q ∈ ((D2, itemsOf zs2 (ep + 1)) :: (h12.objs.size, listOf (hv ++ acc) 0) :: (at1, tup2 x1 (n : Int) tx1 ty1 nt1) :: (Lt + 1 + 1 + 1, o1') :: (D, oD) :: (Lt + 1 + 1, o2) :: (Lt + 1, o3) :: (Nm, oNm) :: (Ws, oWs) :: (Ls, oLs) :: rest), q.1 ≠ Td2 := fun q hq => by
            rcases List.mem_cons.mp hq with rfl | hq
            · exact Ne.symm (nD _ List.mem_cons_self)
            · rcases List.mem_cons.mp hq with rfl | hq
              · exact Nat.ne_of_gt (ab12 (Td2, listOf tv tep) (by k_mem))
              · rcases List.mem_cons.mp hq with rfl | hq
                · exact nT _ (List.mem_cons_of_mem _ hm1)
                · exact nT q (List.mem_cons_of_mem _ hq)
          clear Ni
          refine append_head Fi Ni2 nTI (fun h13 F13 N13 => ?_) ?sz13
          case sz13 =>
            have e : tv.size = ts2.length := by rw [← Array.length_toList]; exact ints_len hts
            exact Nat.le_trans (show tv.size ≤ 7 by omega) (by decide)
          clear Fi Ni2
          obtain ⟨t14, N13⟩ : ∃ t14, News g3 Lt h13 ((Td2, listOf (tv.push (Value.int (ts2.getD (-1 + (ts2.length : Int)).toNat 0 + (List.map wf fr9).sum) t14)) (tep + 1)) :: _) := ⟨_, N13⟩
          k_steps
          unfold Stop
          rename Fr _ _ _ _ => Fj
          rename News _ _ _ _ => Nj
          refine ne_tup2 (News.get Nj (show (at1, tup2 x1 (n : Int) tx1 ty1 nt1) ∈ _ by k_mem)) (News.get Nj (List.mem_cons_self ..)) (by ktr_units) ?_
          rw [show (decide (¬(x1 = x1 ∧ (n : Int) = (n : Int)))) = false by simp]
          k_steps
          have hkx1 : itAt xs2 0 = (Value.ref at1, key1) := itAt_of hx1
          obtain ⟨pf1, pf2⟩ := pop_facts hys hH2
          rw [← hzs2, hkx1] at pf1
          rw [← hzs2] at pf2
          have pk : (key1 :: zs2.map (·.2)).Perm (xs2.map (·.2)) := pf1.map (fun p : Itm => p.2)
          have hlst : ∀ k' ∈ zs2.map (·.2), key1 ≤ k' := fun k' hk' => by
            obtain ⟨p, hp, rfl⟩ := List.mem_map.mp hk'
            have := least_of hH2 p (pf1.mem_iff.mp (List.mem_cons_of_mem _ hp))
            rw [hkx1] at this; exact this
          have hdiv : key1 / 8 = x1 := by omega
          obtain ⟨hGp, hGs⟩ := hG.pop (n := n) (hG.perm pk.symm hG2) hlst hn0 (by rw [← hfr9, hdiv]; exact hsum)
          rw [← hfr9] at hGp hGs
          have Nk : News g3 Lt _ ((D2, itemsOf zs2 (ep + 1)) :: (Td2, listOf (tv.push (Value.int (ts2.getD (-1 + (ts2.length : Int)).toNat 0 + (List.map wf fr9).sum) t14)) (tep + 1)) :: (h12.objs.size, listOf (hv ++ acc) 0) :: (((Lt + 1 + 1 + 1, o1') :: (D, oD) :: (Lt + 1 + 1, o2) :: (Lt + 1, o3) :: (Nm, oNm) :: (Ws, oWs) :: [(Ls, oLs)]) ++ rest)) := News.pick Nj ro_k
          have hkz : ∀ p ∈ zs2, Key (((Lt + 1 + 1 + 1, o1') :: (D, oD) :: (Lt + 1 + 1, o2) :: (Lt + 1, o3) :: (Nm, oNm) :: (Ws, oWs) :: [(Ls, oLs)]) ++ rest) p.1 p.2 := fun p hp => by
            simpa using hk2 p (pf1.mem_iff.mp (List.mem_cons_of_mem _ hp))
          rw [last_getD hz4] at Nk
          refine ⟨_, ?_, zs2, hs2 ++ fr9, ts2 ++ [ts2.getLastD 0 + (List.map wf fr9).sum], rfl, pf2, hGp, TInv.make hg3b FL8 hoL3 hg3L hbLt Fj Nk ?_ rfl rfl ?_ ?_ hkz ?_ (ints_snoc hts) ?_ ?_ ?_ hkeep⟩
          · rw [← mu_perm pk, mu_cons]; omega
          · intro x hx0
            simp only [tStored, List.contains_cons, List.contains_nil, Bool.or_false, Bool.or_eq_false_iff, beq_eq_false_iff_ne, ne_eq] at hx0
            simp [hx0, tStored]
          · intro q hq
            rcases List.mem_cons.mp hq with rfl | hq
            · exact (nD (Td2, listOf tv tep) List.mem_cons_self : Td2 ≠ D2)
            · rcases List.mem_cons.mp hq with rfl | hq
              · exact Nat.ne_of_gt (ab12 (D2, _) List.mem_cons_self)
              · exact nD q (List.mem_cons_of_mem _ (List.mem_cons_of_mem _ (by simpa using hq)))
          · intro q hq
            rcases List.mem_cons.mp hq with rfl | hq
            · exact Nat.ne_of_gt (ab12 (Td2, listOf tv tep) (by k_mem))
            · exact nT q (List.mem_cons_of_mem _ (by simpa using hq))
          · rw [Array.toList_append]; exact strsAre_app hhs hfrs
          · rw [hmv9.gens]; exact bare_only (AllBare.push hb2 hbare) hheld.gens
          · rw [hmv9.drawn, hheld.drawn]; exact hdr2
          · rw [hmv9.os, hheld.os]; exact hos2
        · unfold Stop
          rename_i hsum t99 tk99 R9 h99 Ff Nf lt9
          have ltR : AllLt R9 ((h7.objs.size, listOf acc c8) :: (at1, tup2 x1 (n : Int) tx1 ty1 nt1) :: (D2, itemsOf xs2 ep) :: (Td2, listOf tv tep) :: (Hd2, listOf hv hep) :: (Lt + 1 + 1 + 1, o1') :: (D, oD) :: (Lt + 1 + 1, o2) :: (Lt + 1, o3) :: (Nm, oNm) :: (Ws, oWs) :: (Ls, oLs) :: rest) := lt9
          have abR := allLt_mem ltR
          have Nf2 : News g3 Lt _ ((D2, itemsOf xs2 ep) :: (R9, tup2 (-(List.map wf fr9).sum) (n : Int) t99 ty1 0) :: (at1, tup2 x1 (n : Int) tx1 ty1 nt1) :: (Td2, listOf tv tep) :: (Hd2, listOf hv hep) :: (Lt + 1 + 1 + 1, o1') :: (D, oD) :: (Lt + 1 + 1, o2) :: (Lt + 1, o3) :: (Nm, oNm) :: (Ws, oWs) :: (Ls, oLs) :: rest) := News.pick Nf ro_r
          have hneR : ∀ q ∈ ((R9, tup2 (-(List.map wf fr9).sum) (n : Int) t99 ty1 0) :: (at1, tup2 x1 (n : Int) tx1 ty1 nt1) :: (Td2, listOf tv tep) :: (Hd2, listOf hv hep) :: (Lt + 1 + 1 + 1, o1') :: (D, oD) :: (Lt + 1 + 1, o2) :: (Lt + 1, o3) :: (Nm, oNm) :: (Ws, oWs) :: (Ls, oLs) :: rest), q.1 ≠ D2 := fun q hq => by
            rcases List.mem_cons.mp hq with rfl | hq
            · exact Nat.ne_of_gt (abR (D2, itemsOf xs2 ep) (by k_mem))
            · rcases List.mem_cons.mp hq with rfl | hq
              · exact nD _ (List.mem_cons_of_mem _ (List.mem_cons_of_mem _ hm1))
              · exact nD q hq
          have hkR : ∀ p ∈ xs2, Key ((R9, tup2 (-(List.map wf fr9).sum) (n : Int) t99 ty1 0) :: (at1, tup2 x1 (n : Int) tx1 ty1 nt1) :: (Td2, listOf tv tep) :: (Hd2, listOf hv hep) :: (Lt + 1 + 1 + 1, o1') :: (D, oD) :: (Lt + 1 + 1, o2) :: (Lt + 1, o3) :: (Nm, oNm) :: (Ws, oWs) :: (Ls, oLs) :: rest) p.1 p.2 := fun p hp => Key.mono (hk2 p hp) fun q hq =>
            List.mem_cons_of_mem _ (List.mem_cons_of_mem _ (List.mem_cons_of_mem _ (List.mem_cons_of_mem _ hq)))
          have hvR : Key ((R9, tup2 (-(List.map wf fr9).sum) (n : Int) t99 ty1 0) :: (at1, tup2 x1 (n : Int) tx1 ty1 nt1) :: (Td2, listOf tv tep) :: (Hd2, listOf hv hep) :: (Lt + 1 + 1 + 1, o1') :: (D, oD) :: (Lt + 1 + 1, o2) :: (Lt + 1, o3) :: (Nm, oNm) :: (Ws, oWs) :: (Ls, oLs) :: rest) (.ref R9) (8 * (-(List.map wf fr9).sum) + n) := ⟨R9, _, _, _, _, _, rfl, List.mem_cons_self, Int.natCast_nonneg _, by omega, rfl⟩
          refine heapreplace_spec Bg3 Ff Xg3 Nf2 Tg3 rfl rfl (by ktr_room) (by ktr_units) hneR hkR hvR hxp (by omega) fun h11 tk11 F11 N11 => ?_
          clear Ff Nf Nf2
          rw [show (itAt xs2 0) = (Value.ref at1, key1) from itAt_of hx1]
          dsimp only
          obtain ⟨zs2, hzs2⟩ : ∃ zs2, zs2 = siftupP (xs2.set 0 (Value.ref R9, 8 * (-(List.map wf fr9).sum) + n)) 0 := ⟨_, rfl⟩
          rw [← hzs2] at N11
          k_steps
          unfold Stop
          rename Fr _ _ _ _ => Fj
          rename News _ _ _ _ => Nj
          refine ne_tup2 (News.get Nj (show (at1, tup2 x1 (n : Int) tx1 ty1 nt1) ∈ _ by k_mem)) (News.get Nj (List.mem_cons_self ..)) (by ktr_units) ?_
          rw [show (decide (¬(x1 = x1 ∧ (n : Int) = (n : Int)))) = false by simp]
          k_steps
          have hkx1 : itAt xs2 0 = (Value.ref at1, key1) := itAt_of hx1
          obtain ⟨pf1, pf2, pf3⟩ := rep_facts (v := (Value.ref R9, 8 * (-(List.map wf fr9).sum) + n)) hxp hH2
          rw [← hzs2] at pf1 pf3
          rw [hkx1] at pf2
          have pk : (key1 :: xs2.tail.map (·.2)).Perm (xs2.map (·.2)) := pf2.map (fun p : Itm => p.2)
          have pz : (zs2.map (·.2)).Perm ((8 * (-(List.map wf fr9).sum) + n) :: xs2.tail.map (·.2)) := pf1.map (fun p : Itm => p.2)
          have hdiv : key1 / 8 = x1 := by omega
          obtain ⟨hGp, hGs, hGl⟩ := hG.rep (n := n) (hG.perm pk.symm hG2) hn0 (by rw [← hfr9, hdiv]; exact hsum)
          rw [← hfr9] at hGp hGs hGl
          have Nk : News g3 Lt _ ((D2, itemsOf zs2 ep) :: (Td2, listOf tv tep) :: (Hd2, listOf hv hep) :: (((Lt + 1 + 1 + 1, o1') :: (D, oD) :: (Lt + 1 + 1, o2) :: (Lt + 1, o3) :: (Nm, oNm) :: (Ws, oWs) :: [(Ls, oLs)]) ++ ((R9, tup2 (-(List.map wf fr9).sum) (n : Int) t99 ty1 0) :: rest))) := News.pick Nj ro_n
          have hin : ∀ q, q ∈ (((Lt + 1 + 1 + 1, o1') :: (D, oD) :: (Lt + 1 + 1, o2) :: (Lt + 1, o3) :: (Nm, oNm) :: (Ws, oWs) :: [(Ls, oLs)]) ++ ((R9, tup2 (-(List.map wf fr9).sum) (n : Int) t99 ty1 0) :: rest)) → q = (R9, tup2 (-(List.map wf fr9).sum) (n : Int) t99 ty1 0) ∨ q ∈ (Lt + 1 + 1 + 1, o1') :: (D, oD) :: (Lt + 1 + 1, o2) :: (Lt + 1, o3) :: (Nm, oNm) :: (Ws, oWs) :: (Ls, oLs) :: rest := ro_in
          have hinr : ∀ q, q ∈ (Lt + 1 + 1 + 1, o1') :: (D, oD) :: (Lt + 1 + 1, o2) :: (Lt + 1, o3) :: (Nm, oNm) :: (Ws, oWs) :: (Ls, oLs) :: rest → q ∈ (((Lt + 1 + 1 + 1, o1') :: (D, oD) :: (Lt + 1 + 1, o2) :: (Lt + 1, o3) :: (Nm, oNm) :: (Ws, oWs) :: [(Ls, oLs)]) ++ ((R9, tup2 (-(List.map wf fr9).sum) (n : Int) t99 ty1 0) :: rest)) := ro_inr
          have hkz : ∀ p ∈ zs2, Key (((Lt + 1 + 1 + 1, o1') :: (D, oD) :: (Lt + 1 + 1, o2) :: (Lt + 1, o3) :: (Nm, oNm) :: (Ws, oWs) :: [(Ls, oLs)]) ++ ((R9, tup2 (-(List.map wf fr9).sum) (n : Int) t99 ty1 0) :: rest)) p.1 p.2 := fun p hp => by
            rcases List.mem_cons.mp (pf1.mem_iff.mp hp) with rfl | hp
            · exact ⟨R9, _, _, _, _, _, rfl, List.mem_append_right _ List.mem_cons_self, Int.natCast_nonneg _, by omega, rfl⟩
            · exact Key.mono (hk2 p (List.mem_of_mem_tail hp)) hinr
          refine ⟨_, ?_, zs2, hs2, ts2, rfl, pf3, hG.perm pz.symm hGp, TInv.make hg3b FL8 hoL3 hg3L hbLt Fj Nk ?_ rfl rfl ?_ ?_ hkz hhs hts ?_ ?_ ?_ fun q hq => List.mem_cons_of_mem _ (hkeep q hq)⟩
          · rw [← mu_perm pk, mu_perm pz, mu_cons, mu_cons]; omega
          · intro x hx0
            simp only [tStored, List.contains_cons, List.contains_nil, Bool.or_false, Bool.or_eq_false_iff, beq_eq_false_iff_ne, ne_eq] at hx0
            simp [hx0, tStored]
          · intro q hq
            rcases List.mem_cons.mp hq with rfl | hq
            · exact nD _ List.mem_cons_self
            · rcases List.mem_cons.mp hq with rfl | hq
              · exact nD _ (List.mem_cons_of_mem _ List.mem_cons_self)
              · rcases hin q hq with rfl | hq
                · exact Nat.ne_of_gt (abR (D2, itemsOf xs2 ep) (by k_mem))
                · exact nD q (List.mem_cons_of_mem _ (List.mem_cons_of_mem _ hq))
          · intro q hq
            rcases List.mem_cons.mp hq with rfl | hq
            · exact nT _ List.mem_cons_self
            · rcases hin q hq with rfl | hq
              · exact Nat.ne_of_gt (abR (Td2, listOf tv tep) (by k_mem))
              · exact nT q (List.mem_cons_of_mem _ hq)
          · rw [hmv9.gens]; exact bare_only (AllBare.push hb2 hbare) hheld.gens
          · rw [hmv9.drawn, hheld.drawn]; exact hdr2
          · rw [hmv9.os, hheld.os]; exact hos2
end Mine
end

section
open PySem PySem.W PySem.Calls PyProof.Rows PySem.Spec PyProof
set_option maxRecDepth 100000
set_option maxHeartbeats 8000000
namespace Mine
theorem switch_A1 : True := by
  w_top off
  trivial
local macro_rules | `(tactic| k_room) => `(tactic| ktr_room)
local macro_rules | `(tactic| k_units) => `(tactic| ktr_units)
local macro_rules | `(tactic| walk_at "binaryOp Add ref ref") => `(tactic| (refine Mine.stop ?_))

theorem ints_app {vs ws : List Value} {xs ys : List Int} (h : IntsAre vs xs) (k : IntsAre ws ys) : IntsAre (vs ++ ws) (xs ++ ys) := by
  induction h with
  | nil => exact k
  | cons a b _ ih => exact .cons a b ih
theorem len_any {prog : Program} {w : World} {A : Around} {E : Value → Shared → Prop} {s : Shared} {l : Addr} {items : Array Value} {n : Nat} {Q : Value → Shared → Prop} (hl : s.heap.get? l = some (listOf items n)) (hs : items.size ≤ 64)
    (h : ∀ t tk, Q (.int (items.size : Int) t) { s with toks := tk }) : wpAny (model prog w) A (call (.builtin "len") [.ref l]) Q E s :=
  PyProof.Rows.len_list (IsL.isList (n := n) hl) (by omega) (h _ _)
local macro_rules | `(tactic| walk_at "last subscriptTail") => `(tactic| (refine Mine.stop ?_))
theorem numbers_spec {w : World} {dp un : Nat} {gd : Option (List Code)} {fr : Option (List Env)} {mg mb : Str → Option Value} {mean : ExcName → Option Value}
    {s : Shared} {Q E : Value → Shared → Prop} {Sc : Addr} {vs : List Value} {xs : List Int}
    (X : (hd.heap_39 w.params).In s.heap) (T : Top viewP (looseW viewP ["filterfalse"]) mean mg mb s.heap)
    (hdp : dp + 70 < recursionLimit) (hun : un + 400 < cLine) (hS : s.heap.IsList Sc vs.toArray) (hI : IntsAre vs xs) (h63 : xs.length ≤ 63)
    (ret : ∀ r h' tk' ov e, Kept s.heap h' → s.heap.get? r = none → h'.get? r = some (listOf ov e) → IntsAre ov.toList ((xs.take 6).map (· % 1000000) ++ [50, 1031, 41, 62, 1080, 25].drop (xs.take 6).length) → Q (.ref r) { s with heap := h', toks := tk' }) :
    wpAny (model PySem.Challenge.rw_ij0079_01.row.prog w) { handled := none, depth := dp, frames := fr, guards := gd, units := un } (call (.ref 133) [.ref Sc]) Q E s := by
  revert X
  k_fill
  intro X
  refine wpAny_call ?_
  refine' code_plain ?k3 ?k5 ?k6 ?k7 ?k8 ?k9 ?kB ?_ ?c2 ?c3 ?c4 ?c5
  case k3 => k_asm
  case k5 => k_asm
  case k6 => k_is
  case k7 => k_is
  case k8 => ktr_room
  case k9 => exact BindsTo.of_eq rfl
  case c5 => decide
  case kB => exact locs rfl
  case c2 => exact rfl
  case c3 => exact rfl
  case c4 => exact rfl
  intro L' h' tk0 F' N'
  dsimp only
  k_fold
  replace F' : Fr s.heap L' h' (fun y => List.lookup y [(Str.ofString "script", Value.ref Sc)]) := F'
  k_steps
  unfold Stop
  rename_i hI8 hL8 D1 h2 tk1 o1 la h1 Fy Ny l1a
  have hlit : IntsAre [Value.int 50 tk1, Value.int 1031 (tk1 + 1), Value.int 41 (tk1 + 1 + 1), Value.int 62 (tk1 + 1 + 1 + 1), Value.int 1080 (tk1 + 1 + 1 + 1 + 1), Value.int 25 (tk1 + 1 + 1 + 1 + 1 + 1)] [50, 1031, 41, 62, 1080, 25] :=
    .cons _ _ (.cons _ _ (.cons _ _ (.cons _ _ (.cons _ _ (.cons _ _ .nil)))))
  refine kba_turn (value' := PySem.Expr.Name (PySem.Str.ofString "_") ⟨0, 0, 0, 0⟩) (fun _ => rfl) ?_
  refine kmk_slice_ints Fy Ny (News.isList Ny (List.mem_cons_self ..)) (IsPart.int _ _) IsPart.none hlit (kmk_from hlit (Int.natCast_nonneg _)) rfl (fun D0 ws0 h0 Fz Nz l1b hI0 hC0 hL0 => ?_) (by with_unfolding_all rfl) (by intro _; with_unfolding_all rfl) (Nat.le_of_ble_eq_true rfl)
  clear Fy Ny
  have e1 : (List.take 6 xs).map (fun k' => k'.fmod (10 ^ Int.toNat 6)) = (List.take 6 xs).map (· % 1000000) := List.map_congr_left fun x _ => Int.fmod_eq_emod_of_nonneg _ (by decide)
  have e2 : (List.drop (((List.map (fun k' => k'.fmod (10 ^ Int.toNat 6)) (List.take 6 xs)).length : Int)).toNat [50, 1031, 41, 62, 1080, 25]) = ([50, 1031, 41, 62, 1080, 25] : List Int).drop (xs.take 6).length := by rw [Int.toNat_natCast, List.length_map]
  have hy := ints_len hI8
  have hz := ints_len hI0
  have t6 : (xs.take 6).length ≤ 6 := by rw [List.length_take]; omega
  refine add_two (⟨_, News.get Nz (show (D1, LCg.lst ys) ∈ _ by k_mem), rfl, _, rfl⟩ : Heap.IsList _ D1 ys.toArray) (⟨_, News.get Nz (show (D0, listOf ws0.toArray 0) ∈ _ by k_mem), rfl, _, rfl⟩ : Heap.IsList _ D0 ws0.toArray) ?_ ?_
  · refine Nat.le_trans (show ys.toArray.size + ws0.toArray.size ≤ 12 from ?_) (by decide)
    have hyl : ys.length ≤ 6 := by rw [hy, List.length_map]; exact t6
    have hwl : ws0.length ≤ 6 := by rw [hz]; exact hL0
    rw [List.size_toArray, List.size_toArray]
    omega
  · have Fp := Fz.push (listOf (ys.toArray ++ ws0.toArray) 0)
    refine ret _ _ _ _ 0 Fp.keep ?_ (Heap.get?_push_size _ rfl) ?_
    · cases r : s.heap.get? h0.objs.size with
      | none => rfl
      | some o => exact absurd (Heap.lt_size (Fz.keep _ _ r)) (Nat.lt_irrefl _)
    · rw [Array.toList_append, List.toList_toArray, List.toList_toArray, ← e1, ← e2]
      exact ints_app hI8 hI0
end Mine
end

section
open PySem PySem.W PySem.Calls PyProof.Rows PySem.Spec PyProof
set_option maxRecDepth 100000
set_option maxHeartbeats 8000000
namespace Mine
theorem switch_A2 : True := by
  w_top off
  trivial
local macro_rules | `(tactic| k_room) => `(tactic| ktr_room)
local macro_rules | `(tactic| k_units) => `(tactic| ktr_units)
local macro_rules | `(tactic| walk_at "eval Constant int") => `(tactic| (refine Mine.const_int' ?_; intro _ _; try dsimp only))
local macro_rules | `(tactic| walk_at "storeName") => `(tactic| (k_here; (with_unfolding_all refine' Mine.stN' ?k1 ?k2 ?_ ?k3 ?k4; (case k1 => k_asm); (case k2 => k_asm); (case k3 => exact rfl); (case k4 => exact rfl); k_whole); intro h' tk' F' N'; (try k_sweep); try dsimp only))
local macro_rules | `(tactic| walk_at "call type:range") => `(tactic| (k_here; (with_unfolding_all refine' Mine.call_range' ?k1 ?k2 ?_; (case k1 => k_asm); (case k2 => k_asm); k_whole); intro r' h' tk' t' u' v' F' N' lt'; (try k_lt lt'); (try k_sweep); try dsimp only))
local macro_rules | `(tactic| walk_at "pyIter ref") => `(tactic| ((with_reducible show wpAny _ _ (pyIter _) (fun it s₂ => LoopAtV _ _ _ _ _ _ _ _ _ _ _) _ _); refine Mine.stop ?_))

local macro_rules | `(tactic| walk_at "last subscriptTail") => `(tactic| (refine Mine.stop ?_))
local macro_rules | `(tactic| walk_at "call builtin:list.append") => `(tactic| (refine Mine.stop ?_))
local macro_rules | `(tactic| walk_at "binaryOp Add str str") => `(tactic| (refine Mine.add_str' ?_ ?_; (simp only [PySem.Str.length_append]; omega); intro _ _; try dsimp only))
local macro_rules | `(tactic| walk_at "subscriptTail Name Subscript ref int") => `(tactic| (refine Mine.stop ?_))

noncomputable def slashP (nus : List Int) (k : Nat) : Str := Txt.mul (Str.ofString "/") (((nus.getD k 0).fdiv 1000).fmod 2)
noncomputable def letterP (os : List Int) (k : Nat) : Str := Txt.item (Str.ofString "abcdef") ((List.count (os.getD k 0) (os.take k) : Nat) : Int)
theorem lt_of_nameP {x : Int} {k : Nat} (h : 0 ≤ x ∧ x < k) : x.toNat < k := by omega
noncomputable def nameP (nus os : List Int) (k : Nat) : Str :=
  WellFounded.Nat.fix (motive := fun _ => Str) (fun k => k) (fun k f =>
    if h : 0 ≤ os.getD k 0 ∧ os.getD k 0 < k then f (os.getD k 0).toNat (lt_of_nameP h) ++ Str.ofString "/" ++ slashP nus k ++ letterP os k else slashP nus k ++ letterP os k) k
theorem nameP_eq (nus os : List Int) (k : Nat) : nameP nus os k =
    if _h : 0 ≤ os.getD k 0 ∧ os.getD k 0 < k then nameP nus os (os.getD k 0).toNat ++ Str.ofString "/" ++ slashP nus k ++ letterP os k else slashP nus k ++ letterP os k := by
  delta nameP
  exact WellFounded.Nat.fix_eq ..

theorem slashP_def (nus : List Int) (k : Nat) : Txt.mul (Str.ofString "/") (((nus.getD k 0).fdiv 1000).fmod 2) = slashP nus k := rfl
theorem letterP_def (os : List Int) (k : Nat) : Txt.item (Str.ofString "abcdef") ((List.count (os.getD k 0) (os.take k) : Nat) : Int) = letterP os k := rfl
theorem slashP_le (nus : List Int) (k : Nat) : (slashP nus k).length ≤ 1 := by
  unfold slashP Txt.mul
  split
  · exact Nat.zero_le _
  · split
    · exact Nat.le_of_ble_eq_true rfl
    · rename_i h1 h2
      have h3 := Int.fmod_nonneg_of_pos ((nus.getD k 0).fdiv 1000) (show (0 : Int) < 2 by decide)
      have h4 := Int.fmod_lt_of_pos ((nus.getD k 0).fdiv 1000) (show (0 : Int) < 2 by decide)
      have h5 : ((nus.getD k 0).fdiv 1000).fmod 2 = 1 := by omega
      rw [h5] at h2
      exact absurd rfl h2
theorem letterP_len (os : List Int) (k : Nat) : (letterP os k).length = 1 := len_item _ _
theorem nameP_sub {nus os : List Int} {k : Nat} (h : 0 ≤ os.getD k 0 ∧ os.getD k 0 < k) : nameP nus os k = nameP nus os (os.getD k 0).toNat ++ Str.ofString "/" ++ slashP nus k ++ letterP os k := by
  rw [nameP_eq, dif_pos h]
theorem nameP_top {nus os : List Int} {k : Nat} (h : os.getD k 0 < 0) : nameP nus os k = slashP nus k ++ letterP os k := by
  rw [nameP_eq, dif_neg (by omega)]
theorem nameP_le {nus os : List Int} : ∀ (n k : Nat), k ≤ n → (nameP nus os k).length ≤ 3 * k + 2 := by
  intro n
  induction n with
  | zero =>
    intro k hk
    rw [nameP_eq, dif_neg (by omega), Str.length_append, letterP_len]
    have := slashP_le nus k
    omega
  | succ n ih =>
    intro k hk
    rw [nameP_eq]
    have h1 := slashP_le nus k
    have h2 := letterP_len os k
    split
    · rename_i h
      have := ih (os.getD k 0).toNat (by omega)
      have h3 : (Str.ofString "/").length = 1 := rfl
      rw [Str.length_append, Str.length_append, Str.length_append]
      omega
    · rw [Str.length_append]
      omega

theorem add_str' {prog : Program} {w : World} {A : Around} {E : Value → Shared → Prop} {s : Shared} {x y : Str} {t u : Tok} {Q : Value → Shared → Prop} (hs : x.length + y.length ≤ 1000) (h : ∀ t' tk, Q (.str (x ++ y) t') { s with toks := tk }) :
    wpAny (model prog w) A (binaryOp .Add (.str x t) (.str y u)) Q E s := SB.add h (Nat.le_trans hs (by decide))

theorem strs_snoc {vs : Array Value} {xs : List Str} (h : StrsAre vs.toList xs) {x : Str} {t : Tok} : StrsAre (vs.push (.str x t)).toList (xs ++ [x]) := by
  rw [Array.toList_push]
  refine strsAre_app h ⟨rfl, fun i v hv => ?_⟩
  cases i with
  | zero => simp only [List.getElem?_cons_zero, Option.some.injEq] at hv; subst hv; exact ⟨t, x, rfl, rfl⟩
  | succ i => simp at hv
theorem tail_listI {prog : Program} {w : World} {A : Around} {E : Value → Shared → Prop} {s : Shared} {value slice : PySem.Expr} {l : Addr} {items : Array Value} {nn : Nat} {k : Int} {t : Tok} {v : Value} {Q : Value → Shared → Prop} (ho : s.heap.get? l = some (listOf items nn))
    (h0 : 0 ≤ k) (hk : k < 2 ^ 63) (hv : items[k.toNat]? = some v) (h : Q v s) (hs : subscripted slice false (.ref l) (.int k t) = operate [.ref l, .int k t] (getItem (.ref l) (.int k t)) := by with_unfolding_all rfl) :
    wpAny (model prog w) A (subscriptTail value slice (.ref l) (.int k t)) Q E s := by
  have hl : s.heap.IsList l items := ⟨_, ho, rfl, nn, rfl⟩
  exact tail_any hl.typeIs slot_list_getitem.lookup (wpAny_getItem_list hl h0 hk hv h) hs

theorem names_spec {w : World} {dp un : Nat} {gd : Option (List Code)} {fr : Option (List Env)} {mg mb : Str → Option Value} {mean : ExcName → Option Value}
    {s : Shared} {Q E : Value → Shared → Prop} {Nu Ov : Addr} {nvs ovs : List Value} {nus os : List Int}
    (X : (hd.heap_39 w.params).In s.heap) (T : Top viewP (looseW viewP ["filterfalse"]) mean mg mb s.heap)
    (hdp : dp + 70 < recursionLimit) (hun : un + 400 < cLine) (hN : s.heap.IsList Nu nvs.toArray) (hNI : IntsAre nvs nus) (hO : s.heap.IsList Ov ovs.toArray) (hOI : IntsAre ovs os)
    (hn6 : nus.length = 6) (ho6 : os.length = 6) (hov : ∀ (k : Nat) (x : Int), os[k]? = some x → -1 ≤ x ∧ x < k)
    (ret : ∀ r h' tk' ov e, Kept s.heap h' → s.heap.get? r = none → h'.get? r = some (listOf ov e) → StrsAre ov.toList ((List.range 6).map (nameP nus os)) → Q (.ref r) { s with heap := h', toks := tk' }) :
    wpAny (model PySem.Challenge.rw_ij0079_01.row.prog w) { handled := none, depth := dp, frames := fr, guards := gd, units := un } (call (.ref 140) [.ref Nu, .ref Ov]) Q E s := by
  revert X
  k_fill
  intro X
  refine wpAny_call ?_
  refine' code_plain ?k3 ?k5 ?k6 ?k7 ?k8 ?k9 ?kB ?_ ?c2 ?c3 ?c4 ?c5
  case k3 => k_asm
  case k5 => k_asm
  case k6 => k_is
  case k7 => k_is
  case k8 => ktr_room
  case k9 => exact BindsTo.of_eq rfl
  case c5 => decide
  case kB => exact locs rfl
  case c2 => exact rfl
  case c3 => exact rfl
  case c4 => exact rfl
  intro L' h' tk0 F' N'
  dsimp only
  k_fold
  replace F' : Fr s.heap L' h' (fun y => List.lookup y [(Str.ofString "overs", Value.ref Ov), (Str.ofString "numbers", Value.ref Nu)]) := F'
  k_steps
  unfold Stop
  rename Fr _ _ _ _ => F0
  rename News _ _ _ _ => N0
  rename_i l0 h0' l00 h00 tk00 tt00 tk01 r0 h1' tk1' t1' u1' v1' lt0
  have N0' : News s.heap L' h1' [(l0, listOf #[] 0), (r0, rangeObj 6 t1' u1' v1')] := News.pick N0 (by (repeat (refine List.forall_mem_cons.mpr (And.intro (by repeat (first | (with_reducible exact List.mem_cons_self) | refine List.mem_cons_of_mem _ ?_)) ?_))); (intro q hq; repeat (first | (with_reducible exact hq) | refine List.mem_cons_of_mem _ ?_)))
  refine loop_range (n := 6) (news := [(l0, listOf #[] 0), (r0, rangeObj 6 t1' u1' v1')]) (fun i m₁ nx => ∃ (vs : Array Value) (ep : Nat), nx = [(l0, listOf vs ep), (r0, rangeObj 6 t1' u1' v1')] ∧ StrsAre vs.toList ((List.range i).map (nameP nus os)) ∧ m₁ (Str.ofString "names") = some (.ref l0) ∧
    Off [Str.ofString "k", Str.ofString "slashes", Str.ofString "letter", Str.ofString "names"] (fun y => List.lookup y [(Str.ofString "overs", Value.ref Ov), (Str.ofString "numbers", Value.ref Nu)]) m₁) rfl F0 N0' (List.mem_cons_of_mem _ (List.mem_singleton.mpr rfl)) (by decide) ⟨#[], 0, rfl, ⟨rfl, fun i v h => by simp at h⟩, rfl, ?_⟩ ?_ ?_
  · intro x hx0
    simp only [List.contains_cons, List.contains_nil, Bool.or_false, Bool.or_eq_false_iff, beq_eq_false_iff_ne, ne_eq] at hx0
    simp only [if_neg hx0.2.2.2]
  · rintro I io i t m₁ nx h₁ tk₁ hi ⟨vs, ep, rfl, hvs, hmn, hoff⟩ hnI F₁ N₁
    rw [norm1 hoff hmn] at F₁
    have ho : os[i]? = some (os.getD i 0) := by rw [List.getD_eq_getElem?_getD, List.getElem?_eq_getElem (by omega)]; rfl
    have hob := hov i _ ho
    have hsl := slashP_le nus i
    have hle := letterP_len os i
    have hcnt : List.count (os.getD i 0) (List.take i os) ≤ i := Nat.le_trans List.count_le_length (by rw [List.length_take]; omega)
    have hI1 : l0 ≠ I := hnI (l0, listOf vs ep) List.mem_cons_self
    have hI2 : r0 ≠ I := hnI (r0, rangeObj 6 t1' u1' v1') (List.mem_cons_of_mem _ List.mem_cons_self)
    have hvz : vs.size = i := by rw [← Array.length_toList, hvs.1, List.length_map, List.length_range]
    simp only [List.cons_append, List.nil_append] at N₁
    clear F0 N0 N0'
    k_steps
    unfold Stop
    rename Fr _ _ _ _ => Fz
    rename News _ _ _ _ => Nz
    simp only [Int.toNat_natCast, slashP_def] at Fz ⊢
    have h6 : (Str.ofString "abcdef").length = 6 := rfl
    refine item_str (fitsSsize_of (N := 100) (by omega) (by omega) (by decide)) (by omega) (by rw [h6]; omega) (fun _ => ?_)
    simp only [letterP_def]
    clear F₁ N₁
    k_steps
    · unfold Stop
      rename Fr _ _ _ _ => Fy
      rename News _ _ _ _ => Ny
      rename _ < (0 : Int) => hng
      have Ny2 : News s.heap L' _ [(l0, listOf vs ep), (r0, rangeObj 6 t1' u1' v1'), (I, io)] := News.pick Ny (by (repeat (refine List.forall_mem_cons.mpr (And.intro (by repeat (first | (with_reducible exact List.mem_cons_self) | refine List.mem_cons_of_mem _ ?_)) ?_))); (intro q hq; repeat (first | (with_reducible exact hq) | refine List.mem_cons_of_mem _ ?_)))
      clear Ny
      refine append_head Fy Ny2 (fun q hq => ?_) (fun h13 F13 N13 => ?_) (Nat.le_trans (show vs.size ≤ 6 by omega) (by decide))
      · simp only [List.mem_cons, List.not_mem_nil, or_false] at hq
        rcases hq with rfl | rfl
        · exact Nat.ne_of_gt lt0
        · exact Ne.symm hI1
      clear Fy Ny2
      k_steps
      refine ⟨_, _, _, [(l0, _), (r0, rangeObj 6 t1' u1' v1')], rfl, F13, N13, fun q hq => ?_, _, _, rfl, ?_, rfl, ?_⟩
      · simp only [List.mem_cons, List.not_mem_nil, or_false] at hq
        rcases hq with rfl | rfl
        · exact hI1
        · exact hI2
      · rw [List.range_succ, List.map_append, List.map_singleton, nameP_eq, dif_neg (by simp only [Int.toNat_natCast] at hng; omega)]
        exact strs_snoc hvs
      · intro x hx0
        simp only [List.contains_cons, List.contains_nil, Bool.or_false, Bool.or_eq_false_iff, beq_eq_false_iff_ne, ne_eq] at hx0
        simp [hx0]
    · unfold Stop
      rename ¬ _ < _ => hnn
      simp only [Int.toNat_natCast] at hnn ⊢
      rename Fr _ _ _ _ => Fy
      rename News _ _ _ _ => Ny
      have hpl : (os.getD i 0).toNat < i := by omega
      obtain ⟨tp, hp⟩ := StrsAre.get hvs (i := (os.getD i 0).toNat) (x := nameP nus os (os.getD i 0).toNat) (by rw [List.getElem?_map, List.getElem?_range hpl]; rfl)
      have hpn := nameP_le (nus := nus) (os := os) _ (os.getD i 0).toNat (Nat.le_refl _)
      have hs1 : (Str.ofString "/").length = 1 := rfl
      have Ny2 : News s.heap L' _ [(l0, listOf vs ep), (r0, rangeObj 6 t1' u1' v1'), (I, io)] := News.pick Ny (by (repeat (refine List.forall_mem_cons.mpr (And.intro (by repeat (first | (with_reducible exact List.mem_cons_self) | refine List.mem_cons_of_mem _ ?_)) ?_))); (intro q hq; repeat (first | (with_reducible exact hq) | refine List.mem_cons_of_mem _ ?_)))
      clear Ny
      refine tail_listI (News.get Ny2 (show (l0, listOf vs ep) ∈ _ by k_mem)) (by omega) (by omega) hp ?_
      k_steps
      unfold Stop
      refine append_head Fy Ny2 (fun q hq => ?_) (fun h13 F13 N13 => ?_) (Nat.le_trans (show vs.size ≤ 6 by omega) (by decide))
      · simp only [List.mem_cons, List.not_mem_nil, or_false] at hq
        rcases hq with rfl | rfl
        · exact Nat.ne_of_gt lt0
        · exact Ne.symm hI1
      clear Fy Ny2
      k_steps
      refine ⟨_, _, _, [(l0, _), (r0, rangeObj 6 t1' u1' v1')], rfl, F13, N13, fun q hq => ?_, _, _, rfl, ?_, rfl, ?_⟩
      · simp only [List.mem_cons, List.not_mem_nil, or_false] at hq
        rcases hq with rfl | rfl
        · exact hI1
        · exact hI2
      · rw [List.range_succ, List.map_append, List.map_singleton, nameP_sub (k := i) ⟨by omega, by omega⟩]
        exact strs_snoc hvs
      · intro x hx0
        simp only [List.contains_cons, List.contains_nil, Bool.or_false, Bool.or_eq_false_iff, beq_eq_false_iff_ne, ne_eq] at hx0
        simp [hx0]
  · rintro m₁ nx h₁ tk₁ ⟨vs, ep, rfl, hvs, hmn, hoff⟩ F₁ N₁
    rw [norm1 hoff hmn] at F₁
    dsimp only
    clear F0 N0 N0'
    k_steps
    exact ret _ _ _ vs ep F₁.keep (N₁ _ List.mem_cons_self).2.2 (N₁ _ List.mem_cons_self).1 hvs
end Mine
end

section
open PySem PySem.W PySem.Calls PyProof.Rows PySem.Spec PyProof
set_option maxRecDepth 100000
set_option maxHeartbeats 8000000
namespace Mine
theorem switch_A3 : True := by
  w_top off
  trivial
local macro_rules | `(tactic| k_room) => `(tactic| ktr_room)
local macro_rules | `(tactic| k_units) => `(tactic| ktr_units)
local macro_rules | `(tactic| walk_at "eval Constant int") => `(tactic| (refine Mine.const_int' ?_; intro _ _; try dsimp only))
local macro_rules | `(tactic| walk_at "binaryOp Add int int") => `(tactic| (refine Mine.add_int' ?_; intro _ _; try dsimp only))
local macro_rules | `(tactic| walk_at "call type:range") => `(tactic| (k_here; (with_unfolding_all refine' Mine.call_range' ?k1 ?k2 ?_; (case k1 => k_asm); (case k2 => k_asm); k_whole); intro r' h' tk' t' u' v' F' N' lt'; (try k_lt lt'); (try k_sweep); try dsimp only))
local macro_rules | `(tactic| walk_at "pyIter ref") => `(tactic| ((with_reducible show wpAny _ _ (pyIter _) (fun it s₂ => LoopAtV _ _ _ _ _ _ _ _ _ _ _) _ _); refine Mine.stop ?_))
local macro_rules | `(tactic| walk_at "call builtin:list.append") => `(tactic| (refine Mine.stop ?_))
local macro_rules | `(tactic| walk_at "eval ListComp") => `(tactic| (refine Mine.stop ?_))
local macro_rules | `(tactic| walk_at "call builtin:sum") => `(tactic| (refine Mine.stop ?_))
local macro_rules | `(tactic| walk_at "setItem ref int") => `(tactic| (refine Mine.stop ?_))
local macro_rules | `(tactic| walk_at "binaryOp Mult ref int") => `(tactic| (refine Mine.stop ?_))
local macro_rules | `(tactic| walk_at "subscriptTail Name Subscript ref int") => `(tactic| (refine Mine.stop ?_))

theorem lt_of_mask {x : Int} {k : Nat} (h : 0 ≤ x ∧ x < k) : x.toNat < k := by omega
noncomputable def mask (o : Nat → Int) (k : Nat) : Nat :=
  WellFounded.Nat.fix (motive := fun _ => Nat) (fun k => k) (fun k f => 2 ^ k + (if h : 0 ≤ o k ∧ o k < k then f (o k).toNat (lt_of_mask h) else 0)) k
theorem mask_eq (o : Nat → Int) (k : Nat) : mask o k = 2 ^ k + (if _h : 0 ≤ o k ∧ o k < k then mask o (o k).toNat else 0) := by
  delta mask
  exact WellFounded.Nat.fix_eq ..
noncomputable abbrev maskI (os : List Int) (k : Nat) : Int := (mask (fun k => os.getD k 0) k : Int)

theorem bitOr_nat (a b : Nat) : Builtin.bitOr (a : Int) (b : Int) = ((a ||| b : Nat) : Int) := by
  have h1 : decide ((0 : Int) ≤ -(a : Int) - 1) = false := by simp; omega
  have h2 : decide ((0 : Int) ≤ -(b : Int) - 1) = false := by simp; omega
  unfold Builtin.bitOr Builtin.bitAnd Builtin.bitNot
  rw [h1, h2]
  have e1 : (-(-(a : Int) - 1) - 1).toNat = a := by omega
  have e2 : (-(-(b : Int) - 1) - 1).toNat = b := by omega
  simp only [e1, e2]
  omega
theorem bit_int (c p : Nat) : ((c : Int).fdiv (2 ^ p)).fmod 2 = ((c / 2 ^ p % 2 : Nat) : Int) := by
  rw [Int.fdiv_eq_ediv_of_nonneg _ (Int.le_of_lt (Int.pow_pos (by decide))), Int.fmod_eq_emod_of_nonneg _ (by decide)]
  push_cast
  rfl
noncomputable def wayAt (os ls : List Int) (p : Nat) : Nat := mask (fun k => os.getD k 0) (ls.getD p 0).toNat
noncomputable def heldP (os ls : List Int) (c : Nat) : Nat → Nat
  | 0 => 0
  | p + 1 => if c / 2 ^ p % 2 = 1 then heldP os ls c p ||| wayAt os ls p else heldP os ls c p
noncomputable def manyP (c : Nat) : Nat → Nat
  | 0 => 0
  | p + 1 => if c / 2 ^ p % 2 = 1 then manyP c p + 1 else manyP c p
theorem manyP_le (c : Nat) : ∀ p, manyP c p ≤ p
  | 0 => Nat.le_refl _
  | p + 1 => by
    have := manyP_le c p
    unfold manyP
    split <;> omega
noncomputable def totP (ws : List Int) (h : Nat) : Int := (((List.range 6).filter (fun k => decide (h / 2 ^ k % 2 = 1))).map (fun k => ws.getD k 0)).sum
noncomputable def mostP (os ws ls : List Int) : Nat → List Int
  | 0 => List.replicate (ls.length + 1) 0
  | c + 1 => (mostP os ws ls c).set (manyP c ls.length) (max ((mostP os ws ls c).getD (manyP c ls.length) 0) (totP ws (heldP os ls c ls.length)))
theorem mostP_len (os ws ls : List Int) : ∀ c, (mostP os ws ls c).length = ls.length + 1
  | 0 => List.length_replicate
  | c + 1 => by rw [mostP, List.length_set, mostP_len os ws ls c]

theorem set_list {prog : Program} {w : World} {A : Around} {E : Value → Shared → Prop} {s : Shared} {h₀ : Heap} {L H : Addr} {m : Str → Option Value} {items : Array Value} {ep k : Nat} {u : Tok} {v : Value} {rest : List (Addr × Obj)} {Q : Unit → Shared → Prop} (F : Fr h₀ L s.heap m) (N : News h₀ L s.heap ((H, listOf items ep) :: rest)) (hH : ∀ p ∈ rest, p.1 ≠ H) (h1 : k < items.size) (hfit : (k : Int) < 2 ^ 63)
    (h : ∀ h', Fr h₀ L h' m → News h₀ L h' ((H, listOf (items.setIfInBounds k v) ep) :: rest) → Q () { s with heap := h' }) :
    wpAny (model prog w) A (setItem (.ref H) (.int k u) v) Q E s := by
  have z := N (H, listOf items ep) (List.mem_cons_self ..)
  refine ki_setAt z.1 (Int.natCast_nonneg _) hfit (by omega) (h _ (F.change (Heap.SameBut.update ..) z.2.1 z.2.2) (ki_turn (pre := []) _ N (fun _ hp => nomatch hp) hH ?_ ?_))
  · rw [Int.toNat_natCast]
  · simp

theorem ints_set {vs : Array Value} {xs : List Int} (h : IntsAre vs.toList xs) {k : Nat} {x : Int} {t : Tok} : IntsAre (vs.setIfInBounds k (.int x t)).toList (xs.set k x) := by
  rw [Array.toList_setIfInBounds]
  have : ∀ {l : List Value} {zs : List Int}, IntsAre l zs → ∀ k, IntsAre (l.set k (Value.int x t)) (zs.set k x) := by
    intro l zs h
    induction h with
    | nil => intro k; exact .nil
    | cons a b hr ih =>
      intro k
      cases k with
      | zero => exact .cons _ _ hr
      | succ k => exact .cons _ _ (ih k)
  exact this h k

local macro_rules | `(tactic| walk_at "subscriptTail Name Name ref int") => `(tactic| ((with_reducible show wpAny _ _ (subscriptTail _ _ _ (Value.int (Nat.cast (manyP _ _)) _)) _ _ _); refine Mine.stop ?_))
theorem range_side {I : Addr} {n : Nat} {F : List (Addr × Obj) → Nat → Value → Value → Prop} (hF : ∀ a b i v y, (∀ q ∈ a, q ∈ b) → F a i v y → F b i v y) :
    CompSide (fun a b => b = a) (fun a b => b = a) (fun a b => b = a) [I] (fun i (s : Shared) => IsRangeIter s.heap I (0 + (i : Nat) * 1) ((n : Nat) - (i : Nat)) 1) F where
  hg := fun _ _ h => h
  hg' := fun _ _ h => h
  hrefl := fun _ => rfl
  htr := fun _ _ _ h1 h2 => h2.trans h1
  hst' := fun i s gs st e => st
  hwr := fun i s st b hb => by
    rw [List.mem_singleton.mp hb]
    have : s.heap.get? I = _ := st
    rw [this]; rfl
  hdo := fun i s dr os st => st
  hmono := hF

theorem most_spec {w : World} {dp un : Nat} {gd : Option (List Code)} {fr : Option (List Env)} {mg mb : Str → Option Value} {mean : ExcName → Option Value}
    {s : Shared} {Q E : Value → Shared → Prop} {Ov Ws Ls : Addr} {ovs wos lvs : List Value} {os ws ls : List Int}
    (X : (hd.heap_39 w.params).In s.heap) (T : Top viewP (looseW viewP ["filterfalse"]) mean mg mb s.heap)
    (hdp : dp + 70 < recursionLimit) (hun : un + 400 < cLine) (hO : s.heap.IsList Ov ovs.toArray) (hOI : IntsAre ovs os) (hW : s.heap.IsList Ws wos.toArray) (hWI : IntsAre wos ws) (hL : s.heap.IsList Ls lvs.toArray) (hLI : IntsAre lvs ls)
    (hw6 : ws.length = 6) (ho6 : os.length = 6) (hov : ∀ (k : Nat) (x : Int), os[k]? = some x → -1 ≤ x ∧ x < k) (hl6 : ls.length ≤ 6) (hlv : ∀ x ∈ ls, 0 ≤ x ∧ x < 6)
    (ret : ∀ r h' tk' ov e, Kept s.heap h' → s.heap.get? r = none → h'.get? r = some (listOf ov e) → IntsAre ov.toList (mostP os ws ls (2 ^ ls.length)) → Q (.ref r) { s with heap := h', toks := tk' }) :
    wpAny (model PySem.Challenge.rw_ij0079_01.row.prog w) { handled := none, depth := dp, frames := fr, guards := gd, units := un } (call (.ref 150) [.ref Ov, .ref Ws, .ref Ls]) Q E s := by
  revert X
  k_fill
  intro X
  refine wpAny_call ?_
  refine' code_cellsN ?k3 ?k5 ?kk ?ks ?k6 ?k7 ?k8 ?k9 ?kB ?kD ?_ ?c2 ?c3 ?c4
  case k3 => k_asm
  case k5 => k_asm
  case k6 => k_is
  case k7 => k_is
  case k8 => ktr_room
  case k9 => exact BindsTo.of_eq rfl
  case kB => exact rfl
  case kD => decide +kernel
  case c2 => exact rfl
  case c3 => exact rfl
  case c4 => exact rfl
  case kk => exact fun _ _ e => e
  case ks => exact Nat.le_refl _
  intro Lt h₁ tk cells hLt F₁ N₁ kp Y hfresh
  obtain ⟨o1, o2, hcs, d1, d2⟩ := CellsAre.two Y
  subst hcs
  replace d1 : o1.data = .cell none := d1
  replace d2 : o2.data = .cell (some (.ref Ws)) := d2
  replace F₁ : Fr s.heap Lt h₁ (fun y => if y = Str.ofString "leaves" then some (.ref Ls) else if y = Str.ofString "overs" then some (.ref Ov) else none) := F₁
  dsimp only
  show wpAny _ _ _ _ _ _
  k_fold
  k_steps
  unfold Stop
  rename Fr _ _ _ _ => F0
  rename News _ _ _ _ => N0
  rename_i Wl hx1 lA hx2 tt1 tk2 r0 h1' tk1' t1' u1' v1' lt0
  have N0' : News s.heap Lt h1' [(Wl, listOf #[] 0), (r0, rangeObj 6 t1' u1' v1'), (Lt + 1 + 1, o1), (Lt + 1, o2)] := News.pick N0 (by (repeat (refine List.forall_mem_cons.mpr (And.intro (by repeat (first | (with_reducible exact List.mem_cons_self) | refine List.mem_cons_of_mem _ ?_)) ?_))); (intro q hq; repeat (first | (with_reducible exact hq) | refine List.mem_cons_of_mem _ ?_)))
  refine loop_range (n := 6) (fun i m₁ nx => ∃ (vs : Array Value) (ep : Nat), nx = [(Wl, listOf vs ep), (r0, rangeObj 6 t1' u1' v1'), (Lt + 1 + 1, o1), (Lt + 1, o2)] ∧ IntsAre vs.toList ((List.range i).map (maskI os)) ∧
    Off [Str.ofString "k"] (fun y => if y = Str.ofString "ways" then some (.ref Wl) else if y = Str.ofString "leaves" then some (.ref Ls) else if y = Str.ofString "overs" then some (.ref Ov) else none) m₁) rfl F0 N0' (List.mem_cons_of_mem _ List.mem_cons_self) (by decide) ⟨#[], 0, rfl, .nil, Off.refl _ _⟩ ?_ ?_
  · rintro I io i t m₁ nx h₂ tk₁ hi ⟨vs, ep, rfl, hvs, hoff⟩ hnI F₂ N₂
    rw [norm0 hoff] at F₂
    have ho : os[i]? = some (os.getD i 0) := by rw [List.getD_eq_getElem?_getD, List.getElem?_eq_getElem (by omega)]; rfl
    have hob := hov i _ ho
    simp only [List.cons_append, List.nil_append] at N₂
    clear F0 N0 N0'
    have hI1 : Wl ≠ I := hnI _ List.mem_cons_self
    have hl1 : vs.size = i := by rw [← Array.length_toList, ints_len hvs, List.length_map, List.length_range]
    have hnW : ∀ q ∈ [(r0, rangeObj 6 t1' u1' v1'), (Lt + 1 + 1, o1), (Lt + 1, o2), (I, io)], q.1 ≠ Wl := fun q hq => by
      simp only [List.mem_cons, List.not_mem_nil, or_false] at hq
      rcases hq with rfl | rfl | rfl | rfl
      · exact Nat.ne_of_gt lt0.1
      · exact Nat.ne_of_lt lA.1
      · exact Nat.ne_of_lt lA.2
      · exact Ne.symm hI1
    have hnI' : ∀ (v : Array Value) (e : Nat), ∀ q ∈ [(Wl, listOf v e), (r0, rangeObj 6 t1' u1' v1'), (Lt + 1 + 1, o1), (Lt + 1, o2)], q.1 ≠ I := fun v e q hq => by
      rcases List.mem_cons.mp hq with rfl | hq
      · exact hI1
      · exact hnI q (List.mem_cons_of_mem _ hq)
    k_steps
    · unfold Stop
      rename Fr _ _ _ _ => Fy
      rename News _ _ _ _ => Ny
      rename 0 ≤ _ => hng
      simp only [Int.toNat_natCast] at hng ⊢
      have hpl : (os.getD i 0).toNat < i := by omega
      obtain ⟨tp, hp⟩ := IntsAre.get hvs (i := (os.getD i 0).toNat) (x := maskI os (os.getD i 0).toNat) (by rw [List.getElem?_map, List.getElem?_range hpl]; rfl)
      refine tail_listI (News.get Ny List.mem_cons_self) (by omega) (by omega) hp ?_
      k_steps
      unfold Stop
      refine append_head Fy Ny hnW (fun h13 F13 N13 => ?_) (Nat.le_trans (show vs.size ≤ 6 by omega) (by decide))
      clear Fy Ny
      k_steps
      refine ⟨_, _, _, [(Wl, _), (r0, rangeObj 6 t1' u1' v1'), (Lt + 1 + 1, o1), (Lt + 1, o2)], rfl, F13, N13, hnI' _ _, _, _, rfl, ?_, ?_⟩
      · rw [List.range_succ, List.map_append, List.map_singleton]
        have e : maskI os i = 2 ^ i + maskI os (os.getD i 0).toNat := by
          show ((mask (fun k => os.getD k 0) i : Nat) : Int) = _
          rw [mask_eq, dif_pos ⟨hng, by omega⟩]
          push_cast
          rfl
        rw [e]
        exact ints_snoc hvs
      · intro x hx0
        simp only [List.contains_cons, List.contains_nil, Bool.or_false, Bool.or_eq_false_iff, beq_eq_false_iff_ne, ne_eq] at hx0
        simp [hx0]
    · unfold Stop
      rename Fr _ _ _ _ => Fy
      rename News _ _ _ _ => Ny
      rename ¬ 0 ≤ _ => hng
      simp only [Int.toNat_natCast] at hng ⊢
      refine append_head Fy Ny hnW (fun h13 F13 N13 => ?_) (Nat.le_trans (show vs.size ≤ 6 by omega) (by decide))
      clear Fy Ny
      k_steps
      refine ⟨_, _, _, [(Wl, _), (r0, rangeObj 6 t1' u1' v1'), (Lt + 1 + 1, o1), (Lt + 1, o2)], rfl, F13, N13, hnI' _ _, _, _, rfl, ?_, ?_⟩
      · rw [List.range_succ, List.map_append, List.map_singleton]
        have e : maskI os i = 2 ^ i + 0 := by
          show ((mask (fun k => os.getD k 0) i : Nat) : Int) = _
          rw [mask_eq, dif_neg (fun z => hng z.1)]
          push_cast
          rfl
        rw [e]
        exact ints_snoc hvs
      · intro x hx0
        simp only [List.contains_cons, List.contains_nil, Bool.or_false, Bool.or_eq_false_iff, beq_eq_false_iff_ne, ne_eq] at hx0
        simp [hx0]
  · rintro m₁ nx h₂ tk₁ ⟨vs, ep, rfl, hvs, hoff⟩ F₂ N₂
    rw [norm0 hoff] at F₂
    dsimp only
    clear F0 N0 N0'
    k_steps
    unfold Stop
    rename Fr _ _ _ _ => Fy
    rename News _ _ _ _ => Ny
    refine KM.mul (vs := [_]) Fy Ny (News.isList Ny List.mem_cons_self) (.cons _ _ .nil) (by omega) (by omega) (by simp; omega) fun Ml h3 F3 N3 lM hM _ _ _ _ _ => ?_
    obtain ⟨mvl, N3, hM⟩ : ∃ mvl : List Value, News s.heap Lt h3 ((Ml, listOf mvl.toArray 0) :: _) ∧ IntsAre mvl (List.replicate ((ls.length : Int) + 1).toNat [(0 : Int)]).flatten := ⟨_, N3, hM⟩
    clear Fy Ny
    k_steps
    unfold Stop
    clear F3 N3
    rename Fr _ _ _ _ => F4
    rename News _ _ _ _ => N4
    rename_i r2 h4 tk4 t4 u4 v4 lt4
    have e2 : (2 : Int) ^ (ls.length : Int).toNat = ((2 ^ ls.length : Nat) : Int) := by rw [Int.toNat_natCast]; push_cast; rfl
    rw [e2] at N4
    have e3 : (List.replicate ((ls.length : Int) + 1).toNat [(0 : Int)]).flatten = mostP os ws ls 0 := by
      rw [show ((ls.length : Int) + 1).toNat = ls.length + 1 by omega]
      show _ = List.replicate (ls.length + 1) 0
      generalize ls.length + 1 = n
      induction n with
      | zero => rfl
      | succ n ih => rw [List.replicate_succ, List.flatten_cons, ih, List.replicate_succ]; rfl
    rw [e3] at hM
    have hM' : IntsAre mvl.toArray.toList (mostP os ws ls 0) := by rw [List.toList_toArray]; exact hM
    obtain ⟨lt4a, lt4b⟩ := lt4
    have N4' : News s.heap Lt h4 [(Ml, listOf mvl.toArray 0), (Lt + 1 + 1, o1), (Lt + 1, o2), (Wl, listOf vs ep), (r2, rangeObj ((2 ^ ls.length : Nat) : Int) t4 u4 v4)] := News.pick N4 (by (repeat (refine List.forall_mem_cons.mpr (And.intro (by repeat (first | (with_reducible exact List.mem_cons_self) | refine List.mem_cons_of_mem _ ?_)) ?_))); (intro q hq; repeat (first | (with_reducible exact hq) | refine List.mem_cons_of_mem _ ?_)))
    have hlM : Lt + 1 + 1 < Ml ∧ Lt + 1 < Ml ∧ Wl < Ml := ⟨lM (Lt + 1 + 1, o1) (by k_mem), lM (Lt + 1, o2) (by k_mem), lM (Wl, listOf vs ep) (by k_mem)⟩
    have h2n : 2 ^ ls.length ≤ 64 := Nat.le_trans (Nat.pow_le_pow_right (by decide) hl6) (by decide)
    refine loop_range (n := 2 ^ ls.length) (fun c m₁ nx => ∃ (mv : Array Value) (mep : Nat) (oh : Obj) (v0 : Option Value), nx = [(Ml, listOf mv mep), (Lt + 1 + 1, oh), (Lt + 1, o2), (Wl, listOf vs ep), (r2, rangeObj ((2 ^ ls.length : Nat) : Int) t4 u4 v4)] ∧ oh.data = .cell v0 ∧ IntsAre mv.toList (mostP os ws ls c) ∧
      Off [Str.ofString "k", Str.ofString "choice", Str.ofString "many", Str.ofString "place", Str.ofString "total"] (fun y => if y = Str.ofString "most" then some (.ref Ml) else if y = Str.ofString "ways" then some (.ref Wl) else if y = Str.ofString "leaves" then some (.ref Ls) else if y = Str.ofString "overs" then some (.ref Ov) else none) m₁) rfl F4 N4' (by k_mem) (Nat.lt_of_le_of_lt h2n (by decide)) ⟨mvl.toArray, 0, o1, none, rfl, d1, hM', ?_⟩ ?_ ?_
    · intro x hx0
      simp only [List.contains_cons, List.contains_nil, Bool.or_false, Bool.or_eq_false_iff, beq_eq_false_iff_ne, ne_eq] at hx0
      simp [hx0]
    · rintro I io c t m₁ nx h5 tk5 hc ⟨mv, mep, oh, v0, rfl, hoh, hmv, hoff⟩ hnI F5 N5
      rw [norm0 hoff] at F5
      simp only [List.cons_append, List.nil_append] at N5
      clear F4 N4 N4'
      have hI1 : Ml ≠ I := hnI (Ml, listOf mv mep) (by k_mem)
      have hI2 : Lt + 1 + 1 ≠ I := hnI (Lt + 1 + 1, oh) (by k_mem)
      have hI3 : Lt + 1 ≠ I := hnI (Lt + 1, o2) (by k_mem)
      have hI4 : Wl ≠ I := hnI (Wl, listOf vs ep) (by k_mem)
      have hI5 : r2 ≠ I := hnI (r2, rangeObj ((2 ^ ls.length : Nat) : Int) t4 u4 v4) (by k_mem)
      have hI6 : Lt + 1 + 1 ≠ r2 := Nat.ne_of_lt (Nat.lt_trans hlM.1 lt4a)
      have hmz : mv.size = ls.length + 1 := by rw [← Array.length_toList, ints_len hmv, mostP_len]
      k_steps
      unfold Stop
      rename Fr _ _ _ _ => F8
      rename News _ _ _ _ => N8
      rename_i oh7 d7 hh7 r3 h8 tk8 t8 u8 v8 lt8
      have N8' : News s.heap Lt h8 [(Lt + 1 + 1, oh7), (Ml, listOf mv mep), (Lt + 1, o2), (Wl, listOf vs ep), (r2, rangeObj ((2 ^ ls.length : Nat) : Int) t4 u4 v4), (I, io), (r3, rangeObj (ls.length : Int) t8 u8 v8)] := News.pick N8 (by (repeat (refine List.forall_mem_cons.mpr (And.intro (by repeat (first | (with_reducible exact List.mem_cons_self) | refine List.mem_cons_of_mem _ ?_)) ?_))); (intro q hq; repeat (first | (with_reducible exact hq) | refine List.mem_cons_of_mem _ ?_)))
      obtain ⟨lt8a, lt8b⟩ := lt8
      refine loop_range (n := ls.length) (fun p m₃ nx => ∃ (oh' : Obj) (th tm : Tok), nx = [(Lt + 1 + 1, oh'), (Ml, listOf mv mep), (Lt + 1, o2), (Wl, listOf vs ep), (r2, rangeObj ((2 ^ ls.length : Nat) : Int) t4 u4 v4), (I, io), (r3, rangeObj (ls.length : Int) t8 u8 v8)] ∧ oh'.data = .cell (some (.int (heldP os ls c p : Nat) th)) ∧
        m₃ (Str.ofString "many") = some (.int (manyP c p : Nat) tm) ∧ Off [Str.ofString "place", Str.ofString "many"] _ m₃) rfl F8 N8' (by k_mem) (Nat.lt_of_le_of_lt hl6 (by decide)) ⟨oh7, _, _, rfl, d7, rfl, Off.refl _ _⟩ ?_ ?_
      · rintro I3 io3 p t9 m₃ nx h9 tk9 hp ⟨oh', th, tm, rfl, hoh', hmm, hoff9⟩ hnI3 F9 N9
        rw [norm1 hoff9 hmm] at F9
        simp only [List.cons_append, List.nil_append] at N9
        clear F8 N8 N8'
        have hJ1 : Ml ≠ I3 := hnI3 (Ml, listOf mv mep) (by k_mem)
        have hJ2 : Lt + 1 + 1 ≠ I3 := hnI3 (Lt + 1 + 1, oh') (by k_mem)
        have hJ3 : Lt + 1 ≠ I3 := hnI3 (Lt + 1, o2) (by k_mem)
        have hJ4 : Wl ≠ I3 := hnI3 (Wl, listOf vs ep) (by k_mem)
        have hJ5 : Lt + 1 + 1 ≠ r3 := Nat.ne_of_lt (Nat.lt_trans hlM.1 (by omega))
        have hnJ : ∀ (o : Obj), ∀ q ∈ [(Lt + 1 + 1, o), (Ml, listOf mv mep), (Lt + 1, o2), (Wl, listOf vs ep), (r2, rangeObj ((2 ^ ls.length : Nat) : Int) t4 u4 v4), (I, io), (r3, rangeObj (ls.length : Int) t8 u8 v8)], q.1 ≠ I3 := fun o q hq => by
          rcases List.mem_cons.mp hq with rfl | hq
          · exact hJ2
          · exact hnI3 q (List.mem_cons_of_mem _ hq)
        k_steps
        · unfold Stop
          rename _ = (1 : Int) => hbit
          simp only [Int.toNat_natCast, bit_int] at hbit ⊢
          have hx : ls[p]? = some (ls.getD p 0) := by rw [List.getD_eq_getElem?_getD, List.getElem?_eq_getElem hp]; rfl
          have hb := hlv _ (List.mem_of_getElem? hx)
          obtain ⟨tp, hp'⟩ := IntsAre.get hvs (i := (ls.getD p 0).toNat) (x := maskI os (ls.getD p 0).toNat) (by rw [List.getElem?_map, List.getElem?_range (by omega)]; rfl)
          refine tail_listI (News.get N9 (show (Wl, listOf vs ep) ∈ _ by k_mem)) (by omega) (by omega) hp' ?_
          k_steps
          rename Fr _ _ _ _ => Fy
          rename News _ _ _ _ => Ny
          rename Obj => oz
          rename oz.data = _ => dz
          have hb1 : c / 2 ^ p % 2 = 1 := by exact_mod_cast hbit
          refine ⟨_, _, _, [(Lt + 1 + 1, oz), (Ml, listOf mv mep), (Lt + 1, o2), (Wl, listOf vs ep), (r2, rangeObj ((2 ^ ls.length : Nat) : Int) t4 u4 v4), (I, io), (r3, rangeObj (ls.length : Int) t8 u8 v8)], rfl, Fy, fun q hq => Ny q (List.mem_cons_of_mem _ (by simpa using hq)), hnJ _, oz, ?th, ?tm, rfl, ?q1, ?q2, ?q3⟩
          case q1 => rw [heldP, if_pos hb1, ← bitOr_nat]; exact dz
          case q2 => rw [manyP, if_pos hb1]; rfl
          case q3 =>
            intro x hx0
            simp only [List.contains_cons, List.contains_nil, Bool.or_false, Bool.or_eq_false_iff, beq_eq_false_iff_ne, ne_eq] at hx0
            simp [hx0]
        · rename _ ≠ (1 : Int) => hbit
          simp only [Int.toNat_natCast, bit_int] at hbit
          have hnb : ¬ (c / 2 ^ p % 2 = 1) := fun z => hbit (by rw [z]; rfl)
          refine ⟨_, _, _, [(Lt + 1 + 1, oh'), (Ml, listOf mv mep), (Lt + 1, o2), (Wl, listOf vs ep), (r2, rangeObj ((2 ^ ls.length : Nat) : Int) t4 u4 v4), (I, io), (r3, rangeObj (ls.length : Int) t8 u8 v8)], rfl, F9, N9, hnJ _, oh', th, tm, rfl, ?_, ?_, ?_⟩
          · rw [heldP, if_neg hnb]; exact hoh'
          · rw [manyP, if_neg hnb]; rfl
          · intro x hx0
            simp only [List.contains_cons, List.contains_nil, Bool.or_false, Bool.or_eq_false_iff, beq_eq_false_iff_ne, ne_eq] at hx0
            simp [hx0]
      · rintro m₃ nx h9 tk9 ⟨oh', th, tm, rfl, hoh', hmm, hoff9⟩ F9 N9
        rw [norm1 hoff9 hmm] at F9
        dsimp only
        clear F8 N8 N8'
        have hI7 : Lt + 1 + 1 ≠ r3 := Nat.ne_of_lt (Nat.lt_trans hlM.1 (by omega))
        k_steps
        unfold Stop
        refine eval_listcomp (by rfl) (by decide) (by rfl) (by decide) (by rfl) ?_
        k_steps
        rename Fr _ _ _ _ => Fa
        rename News _ _ _ _ => Na
        rename Heap => ha
        refine wpAny_pyIter_range (a := 0) (b := 6) (c := 1) (News.get Na List.mem_cons_self) (by rfl) ?_
        have Fb := Fa.push { cls := .type "range_iterator", data := .fields #[rawInt 0, rawInt (Builtin.Range.rangeSize 0 6 1), rawInt 1] }
        have Nb := Na.push Fa { cls := .type "range_iterator", data := .fields #[rawInt 0, rawInt (Builtin.Range.rangeSize 0 6 1), rawInt 1] }
        refine ⟨ha.objs.size, _, _, (fun a b => b = a), (fun a b => b = a), (fun a b => b = a), 6, _, _, (fun k => decide (heldP os ls c ls.length / 2 ^ k % 2 = 1)), (fun _ i _ y => ∃ u, y = .int (ws.getD i 0) u), rfl, (range6 rfl).toS, by decide, range_side (fun _ _ _ _ _ _ h => h), News.get Nb List.mem_cons_self, ?_, ?_, ?_⟩
        · intro b hb
          rw [List.mem_singleton.mp hb, Heap.size_push]; exact Nat.lt_succ_self _
        · constructor
          · intro C i v s₃ m₃ hC hP hn hm hmv
            obtain ⟨hi6, ti, rfl⟩ := hP
            rw [Int.zero_add] at hm
            refine wpAny_tests_one (wpAny_with_toks (Nat.le_refl s₃.toks) ?_)
            have kp3 : Kept ha s₃.heap := fun b o e => hmv.heap b o (notin_size e) (Heap.get?_push_of_some _ e)
            have FC : Fr s.heap C s₃.heap m₃ := ⟨hn, fun b o e => kp3 b o (Fa.keep b o e), Nat.le_trans Fa.above (Nat.le_trans (Nat.le_of_lt Fb.ns.lt) hC)⟩
            have NC : News s.heap C s₃.heap [(Lt + 1 + 1, oh')] := fun q hq => by
              have hq' := Na q (by simp only [List.mem_singleton] at hq; simp [hq])
              exact ⟨kp3 _ _ hq'.1, Nat.ne_of_lt (Nat.lt_of_lt_of_le (Nat.lt_of_lt_of_le (Heap.lt_size hq'.1) (by rw [Heap.size_push]; exact Nat.le_succ _)) hC), hq'.2.2⟩
            clear Fa Na Fb Nb
            k_steps
            · simp only [Int.toNat_natCast, bit_int]
              rw [Bool.eq_iff_iff, beq_iff_eq, decide_eq_true_eq]
              exact ⟨fun z => by exact_mod_cast z, fun z => by rw [z]; rfl⟩
            · exact ⟨fun _ _ _ e => e, rfl, rfl, rfl, by assumption⟩
          · intro C i v s₃ m₃ hC hP _ hn hm hmv
            obtain ⟨hi6, ti, rfl⟩ := hP
            rw [Int.zero_add] at hm
            have hx : ws[i]? = some (ws.getD i 0) := by rw [List.getD_eq_getElem?_getD, List.getElem?_eq_getElem (by omega)]; rfl
            obtain ⟨t', hv⟩ := IntsAre.get (vs := wos.toArray) (by rw [List.toList_toArray]; exact hWI) hx
            have hc2 := Na (Lt + 1, o2) (by k_mem)
            obtain ⟨ol, hol, hcl, nl, hdl⟩ := IsList.kept hW Fa.keep
            refine sub_free rfl rfl rfl rfl (by decide) (by decide) ⟨o2, hmv.heap _ _ (notin_size hc2.1) (Heap.get?_push_of_some _ hc2.1), d2⟩ ⟨ol, hmv.heap _ _ (notin_size hol) (Heap.get?_push_of_some _ hol), hcl, nl, hdl⟩ hn hm hv (by omega) ⟨moved_refl _, [], ⟨t', rfl⟩, fun _ h => nomatch h⟩
        · intro D k s' ys news hD hlD hmv9 hout _
          have hints : IntsAre ys (((List.range 6).filter (fun k => decide (heldP os ls c ls.length / 2 ^ k % 2 = 1))).map (fun k => ws.getD k 0)) := by
            obtain ⟨hl9, hy9⟩ := hout
            refine ints_of (by rw [hl9, List.length_map]) fun j y hj => ?_
            have hlt : j < ((List.range 6).filter (fun k => decide (heldP os ls c ls.length / 2 ^ k % 2 = 1))).length := by
              rw [← hl9]
              rcases Nat.lt_or_ge j ys.length with h | h
              · exact h
              · rw [List.getElem?_eq_none h] at hj; cases hj
            obtain ⟨v, _, u, e⟩ := hy9 j _ y (List.getElem?_eq_getElem hlt) hj
            exact ⟨_, u, by rw [List.getElem?_map, List.getElem?_eq_getElem hlt]; rfl, e⟩
          have old9 : ∀ {b o}, ha.get? b = some o → s'.heap.get? b = some o := fun e => hmv9.heap _ _ (notin_size e) (Heap.get?_push_of_some _ e)
          have Fe := Fr.kept Fa (fun b o e => old9 e)
          have Ne := News.kept Na (fun b o e => old9 e)
          clear Fa Na Fb Nb
          have hg9 : s'.gens = _ := hmv9.gens
          obtain ⟨sh, sg, sd, stk, sos⟩ := s'
          have hd9 := hmv9.drawn
          have ho9 := hmv9.os
          dsimp only at hg9 hd9 ho9 Fe Ne
          subst hg9 hd9 ho9
          k_steps
          unfold Stop
          refine sum_ints rfl (⟨_, hlD, rfl, _, rfl⟩ : Heap.IsList _ D ys.toArray) (by rw [List.toList_toArray]; exact hints) fun h10 tk10 t10 kp10 => ?_
          have Fe' := Fr.kept Fe kp10
          have Ne' := News.kept Ne kp10
          clear Fe Ne
          k_steps
          unfold Stop
          rename Fr _ _ _ _ => Ff
          rename News _ _ _ _ => Nf
          clear Fe' Ne'
          have hmn := manyP_le c ls.length
          have hmx : (mostP os ws ls c)[manyP c ls.length]? = some ((mostP os ws ls c).getD (manyP c ls.length) 0) := by rw [List.getD_eq_getElem?_getD, List.getElem?_eq_getElem (by rw [mostP_len]; omega)]; rfl
          obtain ⟨tx, hvx⟩ := IntsAre.get hmv hmx
          refine tail_list (News.get Nf (show (Ml, listOf mv mep) ∈ _ by k_mem)) rfl rfl hvx (by omega) ?_
          k_steps
          unfold Stop
          try clear Ff
          try clear Nf
          rename Fr _ _ _ _ => Fg
          rename News _ _ _ _ => Ng
          have Ng2 : News s.heap Lt _ [(Ml, listOf mv mep), (Lt + 1 + 1, oh'), (Lt + 1, o2), (Wl, listOf vs ep), (r2, rangeObj ((2 ^ ls.length : Nat) : Int) t4 u4 v4), (I, io)] := News.pick Ng (by (repeat (refine List.forall_mem_cons.mpr (And.intro (by repeat (first | (with_reducible exact List.mem_cons_self) | refine List.mem_cons_of_mem _ ?_)) ?_))); (intro q hq; repeat (first | (with_reducible exact hq) | refine List.mem_cons_of_mem _ ?_)))
          have hnM : ∀ q ∈ [(Lt + 1 + 1, oh'), (Lt + 1, o2), (Wl, listOf vs ep), (r2, rangeObj ((2 ^ ls.length : Nat) : Int) t4 u4 v4), (I, io)], q.1 ≠ Ml := fun q hq => by
            simp only [List.mem_cons, List.not_mem_nil, or_false] at hq
            rcases hq with rfl | rfl | rfl | rfl | rfl
            · exact Nat.ne_of_lt hlM.1
            · exact Nat.ne_of_lt hlM.2.1
            · exact Nat.ne_of_lt hlM.2.2
            · exact Nat.ne_of_gt lt4a
            · exact Ne.symm hI1
          clear Ng
          refine set_list Fg Ng2 hnM (by omega) (by omega) fun h12 F12 N12 => ?_
          clear Fg Ng2
          k_steps
          refine ⟨_, _, _, [(Ml, _), (Lt + 1 + 1, oh'), (Lt + 1, o2), (Wl, listOf vs ep), (r2, rangeObj ((2 ^ ls.length : Nat) : Int) t4 u4 v4)], rfl, F12, N12, fun q hq => ?_, _, _, _, _, rfl, hoh', ?_, ?_⟩
          · rcases List.mem_cons.mp hq with rfl | hq
            · exact hI1
            · rcases List.mem_cons.mp hq with rfl | hq
              · exact hI2
              · exact hnI q (List.mem_cons_of_mem _ (List.mem_cons_of_mem _ hq))
          · have e9 : (if totP ws (heldP os ls c ls.length) > (mostP os ws ls c).getD (manyP c ls.length) 0 then totP ws (heldP os ls c ls.length) else (mostP os ws ls c).getD (manyP c ls.length) 0) = max ((mostP os ws ls c).getD (manyP c ls.length) 0) (totP ws (heldP os ls c ls.length)) := by
              rw [Int.max_def]; split <;> split <;> omega
            rw [mostP, ← e9]
            exact ints_set hmv
          · intro x hx0
            simp only [List.contains_cons, List.contains_nil, Bool.or_false, Bool.or_eq_false_iff, beq_eq_false_iff_ne, ne_eq] at hx0
            simp [hx0]
    · rintro m₁ nx h5 tk5 ⟨mv, mep, oh, v0, rfl, hoh, hmv, hoff⟩ F5 N5
      rw [norm0 hoff] at F5
      dsimp only
      clear F4 N4 N4'
      k_steps
      exact ret _ _ _ mv mep F5.keep (N5 _ List.mem_cons_self).2.2 (N5 _ List.mem_cons_self).1 hmv
end Mine
end

section
open PySem PySem.W PySem.Calls PyProof.Rows PySem.Spec PyProof PySem.SeqAt
namespace Mine

theorem risingS_pairwise : ∀ (l : List Str) (p : Str), risingS p l = true → (p :: l).Pairwise (fun a b => a.cps.toList ≤ b.cps.toList)
  | [], p, _ => List.pairwise_singleton _ _
  | x :: r, p, h => by
    have h' : (!ltCps x.cps.toList p.cps.toList && risingS x r) = true := h
    rw [Bool.and_eq_true, ltCps_eq, Bool.not_eq_true', decide_eq_false_iff_not] at h'
    have ih := risingS_pairwise r x h'.2
    have hpx : p.cps.toList ≤ x.cps.toList := List.not_lt.mp h'.1
    refine List.pairwise_cons.mpr ⟨fun y hy => ?_, ih⟩
    rcases List.mem_cons.mp hy with rfl | hy
    · exact hpx
    · exact List.le_trans hpx ((List.pairwise_cons.mp ih).1 y hy)
theorem sortedS_pairwise : ∀ (l : List Str), sortedS l = true → l.Pairwise (fun a b => a.cps.toList ≤ b.cps.toList)
  | [], _ => .nil
  | x :: r, h => risingS_pairwise r x h
theorem sorted_unique {l l' : List Str} (h : sortedS l = true) (h' : sortedS l' = true) (p : l.Perm l') : l = l' :=
  List.Perm.eq_of_pairwise (fun a b _ _ h1 h2 => by
    obtain ⟨a⟩ := a
    obtain ⟨b⟩ := b
    have := List.le_antisymm h1 h2
    simp only at this
    rw [Array.toList_inj.mp this]) (sortedS_pairwise l h) (sortedS_pairwise l' h') p

theorem strsAre_nth {vs : List Value} {ss : List Str} (h : PyProof.Rows.StrsAre vs ss) : ∀ (j : Nat) (h1 : j < vs.length), ∃ (h2 : j < ss.length) (t : Tok), vs[j] = .str ss[j] t := by
  induction h with
  | nil => intro j h1; exact absurd h1 (Nat.not_lt_zero _)
  | cons x t _ ih =>
    intro j h1
    cases j with
    | zero => exact ⟨Nat.zero_lt_succ _, t, rfl⟩
    | succ j =>
      obtain ⟨h2, u, e⟩ := ih j (Nat.lt_of_succ_lt_succ h1)
      exact ⟨Nat.succ_lt_succ h2, u, e⟩
theorem strsAre_length {vs : List Value} {ss : List Str} (h : PyProof.Rows.StrsAre vs ss) : vs.length = ss.length := by
  induction h with
  | nil => rfl
  | cons _ _ _ ih => simp [ih]
theorem intsAre_nth {vs : List Value} {xs : List Int} (h : IntsAre vs xs) : ∀ (j : Nat) (h1 : j < vs.length), ∃ (h2 : j < xs.length) (t : Tok), vs[j] = .int xs[j] t := by
  induction h with
  | nil => intro j h1; exact absurd h1 (Nat.not_lt_zero _)
  | cons x t _ ih =>
    intro j h1
    cases j with
    | zero => exact ⟨Nat.zero_lt_succ _, t, rfl⟩
    | succ j =>
      obtain ⟨h2, u, e⟩ := ih j (Nat.lt_of_succ_lt_succ h1)
      exact ⟨Nat.succ_lt_succ h2, u, e⟩

theorem all_true (n : Nat) : (List.range n).all (fun _ => true) = true := List.all_eq_true.mpr fun _ _ => rfl

section
variable {A : Around} {s : Shared}
theorem eqAt_strs {l b : Addr} {v1 v2 : Array Value} {ss : List Str} (hl : s.heap.IsList l v1) (hb : s.heap.IsList b v2) (h1 : PyProof.Rows.StrsAre v1.toList ss) (h2 : PyProof.Rows.StrsAre v2.toList ss) (hne : l ≠ b) (hu : A.units < cLine) :
    EqAt A s (.ref l) (.ref b) true := by
  have hsz : v1.size = v2.size := by rw [← Array.length_toList, ← Array.length_toList, strsAre_length h1, strsAre_length h2]
  have := RcAt.lists (A := A) (s := s) (e := fun _ => true) hl hb hsz hu (fun j a1 a2 => by
    obtain ⟨b1, t, e1⟩ := strsAre_nth h1 j (by simpa using a1)
    obtain ⟨b2, u, e2⟩ := strsAre_nth h2 j (by simpa using a2)
    rw [Array.getElem_toList] at e1 e2
    rw [e1, e2]
    have := EqAt.str_str (A := A.in1) (s := s) ss[j] t ss[j] u
    rw [beq_self_eq_true] at this
    exact this)
  rw [all_true] at this
  exact .of_refs hne this
theorem eqAt_ints {l b : Addr} {v1 v2 : Array Value} {xs : List Int} (hl : s.heap.IsList l v1) (hb : s.heap.IsList b v2) (h1 : IntsAre v1.toList xs) (h2 : IntsAre v2.toList xs) (hne : l ≠ b) (hu : A.units < cLine) :
    EqAt A s (.ref l) (.ref b) true := by
  have hsz : v1.size = v2.size := by rw [← Array.length_toList, ← Array.length_toList, ints_len h1, ints_len h2]
  have := RcAt.lists (A := A) (s := s) (e := fun _ => true) hl hb hsz hu (fun j a1 a2 => by
    obtain ⟨b1, t, e1⟩ := intsAre_nth h1 j (by simpa using a1)
    obtain ⟨b2, u, e2⟩ := intsAre_nth h2 j (by simpa using a2)
    rw [Array.getElem_toList] at e1 e2
    rw [e1, e2]
    have := EqAt.int_int (A := A.in1) (s := s) xs[j] t xs[j] u
    rw [beq_self_eq_true] at this
    exact this)
  rw [all_true] at this
  exact .of_refs hne this

theorem eq_pair {prog : Program} {w : World} {E : Value → Shared → Prop} {r r' Sd Td Sd' Td' : Addr} {n n' : Nat} {v1 v2 w1 w2 : Array Value} {ss : List Str} {xs : List Int} {Q : Value → Shared → Prop}
    (hr : s.heap.get? r = some { cls := .type "tuple", data := .seq #[.ref Sd, .ref Td] n }) (hr' : s.heap.get? r' = some { cls := .type "tuple", data := .seq #[.ref Sd', .ref Td'] n' })
    (hS : s.heap.IsList Sd v1) (hS' : s.heap.IsList Sd' v2) (hT : s.heap.IsList Td w1) (hT' : s.heap.IsList Td' w2) (nS : Sd ≠ Sd') (nT : Td ≠ Td')
    (h1 : PyProof.Rows.StrsAre v1.toList ss) (h2 : PyProof.Rows.StrsAre v2.toList ss) (h3 : IntsAre w1.toList xs) (h4 : IntsAre w2.toList xs) (hu : A.units + 10 < cLine)
    (h : Q (.bool true) s) : wpAny (model prog w) A (compareOp .Eq (.ref r) (.ref r')) Q E s := by
  refine eq_tupleAt (items := #[.ref Sd, .ref Td]) (items2 := #[.ref Sd', .ref Td']) (e := fun _ => true) ⟨_, hr, rfl, _, rfl⟩ ⟨_, hr', rfl, _, rfl⟩ (by omega) (fun j a1 a2 => ?_) ?_
  · have hj : j = 0 ∨ j = 1 := by
      have : j < 2 := a1
      omega
    rcases hj with rfl | rfl
    · exact eqAt_strs hS hS' h1 h2 nS (by simp only [Around.in1]; omega)
    · exact eqAt_ints hT hT' h3 h4 nT (by simp only [Around.in1]; omega)
  · rw [all_true]; exact h
end
end Mine
end

section
namespace Mine

theorem lt_of_chain {x : Int} {k : Nat} (h : 0 ≤ x ∧ x < k) : x.toNat < k := by omega
/-- the way of a folder: itself, the one that it lies in, and so on -/
noncomputable def chain (o : Nat → Int) (k : Nat) : List Nat :=
  WellFounded.Nat.fix (motive := fun _ => List Nat) (fun k => k) (fun k f => k :: (if h : 0 ≤ o k ∧ o k < k then f (o k).toNat (lt_of_chain h) else [])) k
theorem chain_eq (o : Nat → Int) (k : Nat) : chain o k = k :: (if _h : 0 ≤ o k ∧ o k < k then chain o (o k).toNat else []) := by
  delta chain
  exact WellFounded.Nat.fix_eq ..

theorem chain_self (o : Nat → Int) (k : Nat) : k ∈ chain o k := by rw [chain_eq]; exact List.mem_cons_self
theorem chain_le {o : Nat → Int} : ∀ (n k : Nat), k ≤ n → ∀ p ∈ chain o k, p ≤ k := by
  intro n
  induction n with
  | zero =>
    intro k hk p hp
    rw [chain_eq] at hp
    rcases List.mem_cons.mp hp with rfl | hp
    · exact Nat.le_refl _
    · split at hp
      · omega
      · cases hp
  | succ n ih =>
    intro k hk p hp
    rw [chain_eq] at hp
    rcases List.mem_cons.mp hp with rfl | hp
    · exact Nat.le_refl _
    · split at hp
      · have := ih _ (by omega) p hp
        omega
      · cases hp
theorem chain_nodup {o : Nat → Int} : ∀ (n k : Nat), k ≤ n → (chain o k).Nodup := by
  intro n
  induction n with
  | zero =>
    intro k hk
    rw [chain_eq, dif_neg (by omega)]
    simp
  | succ n ih =>
    intro k hk
    rw [chain_eq]
    split
    · rename_i h
      refine List.nodup_cons.mpr ⟨fun hm => ?_, ih _ (by omega)⟩
      have := chain_le _ _ (Nat.le_refl _) _ hm
      omega
    · simp
theorem chain_trans {o : Nat → Int} {p q : Nat} (hp : p ∈ chain o q) : ∀ (n y : Nat), y ≤ n → q ∈ chain o y → p ∈ chain o y := by
  intro n
  induction n with
  | zero =>
    intro y hy hq
    rw [chain_eq, dif_neg (by omega)] at hq
    rw [List.mem_singleton.mp hq] at hp; exact hp
  | succ n ih =>
    intro y hy hq
    rw [chain_eq] at hq
    rcases List.mem_cons.mp hq with rfl | hq
    · exact hp
    · rw [chain_eq]
      split at hq
      · rename_i h
        rw [dif_pos h]
        exact List.mem_cons_of_mem _ (ih _ (by omega) hq)
      · cases hq
theorem chain_lin {o : Nat → Int} {p q : Nat} : ∀ (n k : Nat), k ≤ n → p ∈ chain o k → q ∈ chain o k → p ∈ chain o q ∨ q ∈ chain o p := by
  intro n
  induction n with
  | zero =>
    intro k hk hp hq
    have h1 := hp
    have h2 := hq
    rw [chain_eq, dif_neg (by omega)] at h1 h2
    rw [List.mem_singleton.mp h1, List.mem_singleton.mp h2]
    exact .inl (chain_self _ _)
  | succ n ih =>
    intro k hk hp hq
    have h1 := hp
    have h2 := hq
    rw [chain_eq] at h1 h2
    rcases List.mem_cons.mp h1 with rfl | h1
    · exact .inr hq
    · rcases List.mem_cons.mp h2 with rfl | h2
      · exact .inl hp
      · split at h1
        · rename_i h
          rw [dif_pos h] at h2
          exact ih _ (by omega) h1 h2
        · cases h1
theorem chain_nested {o : Nat → Int} (n x y : Nat) : (∀ p, p ∈ chain o n → p ∈ chain o x → p ∈ chain o y) ∨ (∀ p, p ∈ chain o n → p ∈ chain o y → p ∈ chain o x) := by
  by_cases h : ∀ p, p ∈ chain o n → p ∈ chain o x → p ∈ chain o y
  · exact .inl h
  · refine .inr fun q hq hy => ?_
    simp only [Classical.not_forall] at h
    obtain ⟨p, hp, hx, hpy⟩ := h
    rcases chain_lin _ _ (Nat.le_refl _) hp hq with h1 | h1
    · exact absurd (chain_trans h1 _ _ (Nat.le_refl _) hy) hpy
    · exact chain_trans h1 _ _ (Nat.le_refl _) hx

/-- what a set of folders is worth -/
noncomputable def worth (w : Nat → Int) (N : Nat) (p : Nat → Bool) : Int := ((List.range N).map fun k => if p k then w k else 0).sum

theorem sum_le {l : List Nat} {f g : Nat → Int} (h : ∀ k ∈ l, f k ≤ g k) : (l.map f).sum ≤ (l.map g).sum := by
  induction l with
  | nil => exact Int.le_refl _
  | cons a l ih =>
    simp only [List.map_cons, List.sum_cons]
    have := h a List.mem_cons_self
    have := ih fun k hk => h k (List.mem_cons_of_mem _ hk)
    omega
theorem sum_add {l : List Nat} {f g : Nat → Int} : (l.map fun k => f k + g k).sum = (l.map f).sum + (l.map g).sum := by
  induction l with
  | nil => rfl
  | cons a l ih => simp only [List.map_cons, List.sum_cons, ih]; omega
theorem worth_congr {w : Nat → Int} {N : Nat} {p q : Nat → Bool} (h : ∀ k, k < N → p k = q k) : worth w N p = worth w N q := by
  unfold worth
  congr 1
  exact List.map_congr_left fun k hk => by rw [h k (List.mem_range.mp hk)]
theorem worth_nonneg {w : Nat → Int} {N : Nat} (hw : ∀ k, k < N → 0 ≤ w k) (p : Nat → Bool) : 0 ≤ worth w N p := by
  have h0 : ((List.range N).map fun _ => (0 : Int)).sum = 0 := by
    generalize List.range N = l
    induction l with
    | nil => rfl
    | cons a l ih => simp [ih]
  rw [← h0]
  refine sum_le fun k hk => ?_
  have := hw k (List.mem_range.mp hk)
  split <;> omega

/-- the change of one leaf for another -/
theorem exchange {w : Nat → Int} {N : Nat} (hw : ∀ k, k < N → 0 ≤ w k) {H R P X : Nat → Bool} (hHR : ∀ k, H k = true → R k = true) (hPR : ∀ k, P k = true → R k = true → H k = true ∨ X k = true)
    (hg : worth w N (fun k => X k && !H k) ≤ worth w N (fun k => P k && !H k)) : worth w N (fun k => R k || X k) ≤ worth w N (fun k => R k || P k) := by
  have h : worth w N (fun k => R k || X k) + worth w N (fun k => P k && !H k) ≤ worth w N (fun k => R k || P k) + worth w N (fun k => X k && !H k) := by
    unfold worth
    rw [← sum_add, ← sum_add]
    refine sum_le fun k hk => ?_
    have h1 := hw k (List.mem_range.mp hk)
    have h2 := hHR k
    have h3 := hPR k
    clear hw hg hHR hPR hk
    cases hH : H k <;> cases hR : R k <;> cases hP : P k <;> cases hX : X k <;> simp_all <;> omega
  omega
end Mine
end

section
namespace Mine

/-- what a choice of leaves holds -/
noncomputable def union (o : Nat → Int) (ls : List Nat) (S : Nat → Bool) (k : Nat) : Bool := ls.any fun x => S x && (chain o x).contains k
noncomputable def cnt (ls : List Nat) (S : Nat → Bool) : Nat := (ls.filter S).length
noncomputable abbrev way (o : Nat → Int) (x k : Nat) : Bool := (chain o x).contains k

theorem union_iff {o : Nat → Int} {ls : List Nat} {S : Nat → Bool} {k : Nat} : union o ls S k = true ↔ ∃ x ∈ ls, S x = true ∧ k ∈ chain o x := by
  unfold union
  rw [List.any_eq_true]
  constructor
  · rintro ⟨x, hx, h⟩
    rw [Bool.and_eq_true] at h
    exact ⟨x, hx, h.1, by simpa using h.2⟩
  · rintro ⟨x, hx, h1, h2⟩
    exact ⟨x, hx, by simp [h1, h2]⟩

theorem cnt_congr {ls : List Nat} {S S' : Nat → Bool} (h : ∀ x ∈ ls, S x = S' x) : cnt ls S = cnt ls S' := by
  unfold cnt; congr 1; exact List.filter_congr h
theorem cnt_add {ls : List Nat} (hn : ls.Nodup) {S : Nat → Bool} {p : Nat} (hp : p ∈ ls) (hS : S p = false) : cnt ls (fun x => S x || x == p) = cnt ls S + 1 := by
  unfold cnt
  induction ls with
  | nil => cases hp
  | cons a l ih =>
    obtain ⟨ha, hl⟩ := List.nodup_cons.mp hn
    rw [List.filter_cons, List.filter_cons]
    by_cases e : a = p
    · subst e
      have e2 : l.filter (fun x => S x || x == a) = l.filter S := List.filter_congr fun x hx => by
        have : (x == a) = false := beq_eq_false_iff_ne.mpr fun z => ha (z ▸ hx)
        rw [this, Bool.or_false]
      rw [e2, hS]; simp
    · have e1 : (a == p) = false := beq_eq_false_iff_ne.mpr e
      have := ih hl ((List.mem_cons.mp hp).resolve_left fun z => e z.symm)
      rw [e1, Bool.or_false]
      split
      · simp only [List.length_cons, this]
      · exact this
theorem cnt_le {ls : List Nat} {S S' : Nat → Bool} (h : ∀ x ∈ ls, S x = true → S' x = true) : cnt ls S ≤ cnt ls S' := by
  unfold cnt
  induction ls with
  | nil => exact Nat.le_refl _
  | cons a l ih =>
    have := ih fun x hx => h x (List.mem_cons_of_mem _ hx)
    rw [List.filter_cons, List.filter_cons]
    have ha := h a List.mem_cons_self
    cases h1 : S a <;> cases h2 : S' a <;> simp_all
    · omega
theorem cnt_eq {ls : List Nat} {S S' : Nat → Bool} (h : ∀ x ∈ ls, S x = true → S' x = true) (hc : cnt ls S' ≤ cnt ls S) : ∀ x ∈ ls, S x = S' x := by
  induction ls with
  | nil => intro x hx; cases hx
  | cons a l ih =>
    have hl : cnt l S ≤ cnt l S' := cnt_le fun x hx => h x (List.mem_cons_of_mem _ hx)
    have ha := h a List.mem_cons_self
    unfold cnt at hc hl
    rw [List.filter_cons, List.filter_cons] at hc
    have ih' := ih (fun x hx => h x (List.mem_cons_of_mem _ hx))
    unfold cnt at ih'
    intro x hx
    cases h1 : S a <;> cases h2 : S' a
    · rw [h1, h2] at hc
      rcases List.mem_cons.mp hx with rfl | hx
      · rw [h1, h2]
      · exact ih' (by simpa using hc) x hx
    · rw [h1, h2] at hc
      simp at hc
      omega
    · rw [ha h1] at h2; cases h2
    · rw [h1, h2] at hc
      rcases List.mem_cons.mp hx with rfl | hx
      · rw [h1, h2]
      · exact ih' (by simpa using hc) x hx

/-- a greatest of a list under a total order -/
theorem greatest {α : Type} {le : α → α → Prop} (htot : ∀ x y, le x y ∨ le y x) (htr : ∀ x y z, le x y → le y z → le x z) : ∀ l : List α, l ≠ [] → ∃ x ∈ l, ∀ y ∈ l, le y x := by
  intro l
  induction l with
  | nil => intro h; exact absurd rfl h
  | cons a l ih =>
    intro _
    have hrefl : ∀ x, le x x := fun x => (htot x x).elim id id
    by_cases hl : l = []
    · subst hl
      exact ⟨a, List.mem_cons_self, fun y hy => by rw [List.mem_singleton.mp hy]; exact hrefl a⟩
    · obtain ⟨x, hx, hm⟩ := ih hl
      rcases htot a x with h | h
      · exact ⟨x, List.mem_cons_of_mem _ hx, fun y hy => (List.mem_cons.mp hy).elim (fun e => e ▸ h) (hm y)⟩
      · exact ⟨a, List.mem_cons_self, fun y hy => (List.mem_cons.mp hy).elim (fun e => e ▸ hrefl a) fun hy => htr _ _ _ (hm y hy) h⟩

/-- the greedy choice of leaves -/
inductive Greedy (o : Nat → Int) (w : Nat → Int) (N : Nat) (ls : List Nat) : (Nat → Bool) → Prop where
  | nil : Greedy o w N ls (fun _ => false)
  | step {T : Nat → Bool} {p : Nat} : Greedy o w N ls T → p ∈ ls → T p = false →
      (∀ x ∈ ls, T x = false → worth w N (fun k => way o x k && !union o ls T k) ≤ worth w N (fun k => way o p k && !union o ls T k)) →
      Greedy o w N ls (fun x => T x || x == p)

theorem greedy_ext {o : Nat → Int} {w : Nat → Int} {N : Nat} {ls : List Nat} (hn : ls.Nodup) (hw : ∀ k, k < N → 0 ≤ w k) {T : Nat → Bool} (g : Greedy o w N ls T) :
    ∀ S, cnt ls T ≤ cnt ls S → ∃ S', (∀ x ∈ ls, T x = true → S' x = true) ∧ cnt ls S' = cnt ls S ∧ worth w N (union o ls S) ≤ worth w N (union o ls S') := by
  induction g with
  | nil => intro S _; exact ⟨S, (fun _ _ h => Bool.noConfusion h), rfl, Int.le_refl _⟩
  | @step T p g hp hT hbest ih =>
    intro S hS
    have hcp := cnt_add hn hp hT
    rw [hcp] at hS
    obtain ⟨S₁, hsub, hc, hle⟩ := ih S (by omega)
    by_cases hpS : S₁ p = true
    · refine ⟨S₁, fun x hx h => ?_, hc, hle⟩
      rcases Bool.or_eq_true_iff.mp h with h | h
      · exact hsub x hx h
      · rw [eq_of_beq h]; exact hpS
    · have hpS : S₁ p = false := by simpa using hpS
      have hne : ls.filter (fun x => S₁ x && !T x) ≠ [] := fun e => by
        have := cnt_le (ls := ls) (S := S₁) (S' := T) fun x hx h => by
          cases ht : T x with
          | true => rfl
          | false =>
            have : x ∈ ls.filter (fun x => S₁ x && !T x) := List.mem_filter.mpr ⟨hx, by rw [h, ht]; rfl⟩
            rw [e] at this; cases this
        omega
      obtain ⟨x, hxm, hmax⟩ := greatest (le := fun x y => ∀ k, k ∈ chain o p → k ∈ chain o x → k ∈ chain o y) (fun x y => chain_nested p x y) (fun x y z h1 h2 k hk hx => h2 k hk (h1 k hk hx)) _ hne
      obtain ⟨hxl, hx2⟩ := List.mem_filter.mp hxm
      have hxS : S₁ x = true := (Bool.and_eq_true_iff.mp hx2).1
      have hxT : T x = false := by simpa using (Bool.and_eq_true_iff.mp hx2).2
      have hxp : x ≠ p := fun z => by rw [z, hpS] at hxS; cases hxS
      obtain ⟨R, hR⟩ : ∃ R : Nat → Bool, R = fun z => S₁ z && !(z == x) := ⟨_, rfl⟩
      have hRx : R x = false := by rw [hR]; simp
      have hRp : R p = false := by rw [hR]; simp [hpS]
      have e1 : ∀ z, S₁ z = (R z || z == x) := fun z => by
        rw [hR]; dsimp only
        by_cases e : z = x
        · subst e; rw [hxS]; simp
        · have e' : (z == x) = false := beq_eq_false_iff_ne.mpr e
          rw [e']; simp
      have hc1 : cnt ls S₁ = cnt ls R + 1 := by rw [← cnt_add hn hxl hRx]; exact cnt_congr fun z _ => e1 z
      have hu : ∀ q k, q ∈ ls → union o ls (fun z => R z || z == q) k = (union o ls R k || way o q k) := fun q k hq => by
        rw [Bool.eq_iff_iff, Bool.or_eq_true, union_iff, union_iff]
        constructor
        · rintro ⟨z, hz, h, hk⟩
          rcases Bool.or_eq_true_iff.mp h with h | h
          · exact .inl ⟨z, hz, h, hk⟩
          · rw [eq_of_beq h] at hk; exact .inr (by simpa using hk)
        · rintro (⟨z, hz, h, hk⟩ | h)
          · exact ⟨z, hz, by rw [h]; rfl, hk⟩
          · exact ⟨q, hq, by simp, by simpa using h⟩
      have hRT : ∀ z ∈ ls, T z = true → R z = true := fun z hz h => by
        rw [hR]
        have : z ≠ x := fun e => by rw [e, hxT] at h; cases h
        simp [hsub z hz h, this]
      refine ⟨fun z => R z || z == p, fun z hz h => ?_, ?_, ?_⟩
      · dsimp only
        rcases Bool.or_eq_true_iff.mp h with h | h
        · rw [hRT z hz h]; rfl
        · rw [h, Bool.or_true]
      · rw [cnt_add hn hp hRp, ← hc1, hc]
      · refine Int.le_trans hle ?_
        have a1 : worth w N (union o ls S₁) = worth w N (fun k => union o ls R k || way o x k) := worth_congr fun k _ => by
          rw [← hu x k hxl]
          congr 1
          funext z; exact e1 z
        have a2 : worth w N (union o ls fun z => R z || z == p) = worth w N (fun k => union o ls R k || way o p k) := worth_congr fun k _ => hu p k hp
        rw [a1, a2]
        refine exchange hw (H := union o ls T) (fun k h => ?_) (fun k h1 h2 => ?_) (hbest x hxl hxT)
        · obtain ⟨z, hz, h, hk⟩ := union_iff.mp h
          exact union_iff.mpr ⟨z, hz, hRT z hz h, hk⟩
        · obtain ⟨z, hz, h, hk⟩ := union_iff.mp h2
          cases ht : T z with
          | true => exact .inl (union_iff.mpr ⟨z, hz, ht, hk⟩)
          | false =>
            refine .inr ?_
            have hzS : S₁ z = true := by rw [e1 z, h]; rfl
            have := hmax z (List.mem_filter.mpr ⟨hz, by rw [hzS, ht]; rfl⟩) k (by simpa using h1) hk
            simpa using this

theorem greedy_best {o : Nat → Int} {w : Nat → Int} {N : Nat} {ls : List Nat} (hn : ls.Nodup) (hw : ∀ k, k < N → 0 ≤ w k) {T : Nat → Bool} (g : Greedy o w N ls T) {S : Nat → Bool} (hS : cnt ls S = cnt ls T) :
    worth w N (union o ls S) ≤ worth w N (union o ls T) := by
  obtain ⟨S', h1, h2, h3⟩ := greedy_ext hn hw g S (by omega)
  have e := cnt_eq h1 (by omega)
  refine Int.le_trans h3 (Int.le_of_eq (worth_congr fun k _ => ?_))
  rw [Bool.eq_iff_iff, union_iff, union_iff]
  constructor
  · rintro ⟨x, hx, h, hk⟩; exact ⟨x, hx, by rw [e x hx]; exact h, hk⟩
  · rintro ⟨x, hx, h, hk⟩; exact ⟨x, hx, by rw [← e x hx]; exact h, hk⟩
end Mine
end

section
namespace Mine

theorem perm_sum {l l' : List Int} (h : l.Perm l') : l.sum = l'.sum := by
  induction h with
  | nil => rfl
  | cons x _ ih => simp only [List.sum_cons, ih]
  | swap x y l => simp only [List.sum_cons]; omega
  | trans _ _ h1 h2 => exact h1.trans h2

theorem ite_or (a b : Bool) (x : Int) : (if (a || b) = true then x else 0) = (if a = true then x else 0) + (if (b && !a) = true then x else 0) := by
  cases a <;> cases b <;> simp
theorem ite_le (a b c : Bool) {x : Int} (hx : 0 ≤ x) : (if (c && !(a || b)) = true then x else 0) ≤ (if (c && !a) = true then x else 0) := by
  cases a <;> cases b <;> cases c <;> simp <;> omega
theorem worth_filter (w : Nat → Int) (N : Nat) (p : Nat → Bool) : worth w N p = (((List.range N).filter p).map w).sum := by
  unfold worth
  generalize List.range N = l
  induction l with
  | nil => rfl
  | cons a l ih =>
    rw [List.map_cons, List.sum_cons, List.filter_cons, ih]
    cases h : p a <;> simp

theorem nodup_filter {l : List Nat} (p : Nat → Bool) (h : l.Nodup) : (l.filter p).Nodup := List.Pairwise.filter p h

theorem sum_worth {w : Nat → Int} {N : Nat} {l : List Nat} (hn : l.Nodup) (hl : ∀ i ∈ l, i < N) {p : Nat → Bool} (hp : ∀ i, i < N → (p i = true ↔ i ∈ l)) : (l.map w).sum = worth w N p := by
  rw [worth_filter]
  refine perm_sum (List.Perm.map w ?_)
  rw [List.perm_ext_iff_of_nodup hn (nodup_filter _ List.nodup_range)]
  intro i
  rw [List.mem_filter, List.mem_range]
  exact ⟨fun h => ⟨hl i h, (hp i (hl i h)).mpr h⟩, fun h => (hp i h.1).mp h.2⟩

section
variable {o : Nat → Int} {w : Nat → Int} {N : Nat} {lf : List Nat}

theorem union_lt (hl : ∀ x ∈ lf, x < N) {T : Nat → Bool} {k : Nat} (h : union o lf T k = true) : k < N := by
  obtain ⟨x, hx, _, hk⟩ := union_iff.mp h
  exact Nat.lt_of_le_of_lt (chain_le _ _ (Nat.le_refl _) _ hk) (hl x hx)
theorem union_step {T : Nat → Bool} {p k : Nat} (hp : p ∈ lf) : union o lf (fun x => T x || x == p) k = (union o lf T k || way o p k) := by
  rw [Bool.eq_iff_iff, Bool.or_eq_true, union_iff, union_iff]
  constructor
  · rintro ⟨z, hz, h, hk⟩
    rcases Bool.or_eq_true_iff.mp h with h | h
    · exact .inl ⟨z, hz, h, hk⟩
    · rw [eq_of_beq h] at hk; exact .inr (by simpa using hk)
  · rintro (⟨z, hz, h, hk⟩ | h)
    · exact ⟨z, hz, by rw [h]; rfl, hk⟩
    · exact ⟨p, hp, by simp, by simpa using h⟩

/-- what the greedy law knows: keys on the heap, folders held, sums told -/
structure GI (o : Nat → Int) (w : Nat → Int) (N : Nat) (lf : List Nat) (ks : List Int) (hI : List Nat) (ts : List Int) (T : Nat → Bool) : Prop where
  greedy : Greedy o w N lf T
  keys : (ks.map (fun k => (k % 8).toNat)).Perm (lf.filter (fun x => !T x))
  fresh : ∀ k ∈ ks, worth w N (fun i => way o (k % 8).toNat i && !union o lf T i) ≤ -(k / 8)
  nodup : hI.Nodup
  held : ∀ i, i ∈ hI ↔ union o lf T i = true
  last : ts.getLastD 0 = worth w N (union o lf T)
  len : ts.length = cnt lf T + 1
  hist : ∀ j, j < ts.length → ∃ S, Greedy o w N lf S ∧ cnt lf S = j ∧ ts[j]? = some (worth w N (union o lf S))

theorem fresh_sum (hl : ∀ x ∈ lf, x < N) {n : Nat} (hn : n < N) {hI : List Nat} {T : Nat → Bool} (held : ∀ i, i ∈ hI ↔ union o lf T i = true) :
    (((chain o n).filter (fun i => !hI.contains i)).map w).sum = worth w N (fun i => way o n i && !union o lf T i) := by
  refine sum_worth (nodup_filter _ (chain_nodup _ _ (Nat.le_refl _))) (fun i hi => ?_) (fun i _ => ?_)
  · have := chain_le _ _ (Nat.le_refl _) i (List.mem_filter.mp hi).1
    omega
  · rw [List.mem_filter]
    have e : hI.contains i = union o lf T i := by
      rw [Bool.eq_iff_iff]
      simp only [List.contains_iff_mem]
      exact held i
    rw [e, Bool.and_eq_true]
    simp

theorem cnt_filter {T : Nat → Bool} : cnt lf T + (lf.filter (fun x => !T x)).length = lf.length := by
  unfold cnt
  induction lf with
  | nil => rfl
  | cons a l ih =>
    rw [List.filter_cons, List.filter_cons]
    cases T a <;> simp <;> omega

theorem gi_mem {ks : List Int} {hI : List Nat} {ts : List Int} {T : Nat → Bool} (g : GI o w N lf ks hI ts T) {k : Int} (hk : k ∈ ks) : (k % 8).toNat ∈ lf ∧ T (k % 8).toNat = false := by
  have := g.keys.mem_iff.mp (List.mem_map.mpr ⟨k, hk, rfl⟩)
  obtain ⟨h1, h2⟩ := List.mem_filter.mp this
  exact ⟨h1, by simpa using h2⟩

theorem gi_pop (hn : lf.Nodup) (hl : ∀ x ∈ lf, x < N) (hw : ∀ k, k < N → 0 ≤ w k) {k : Int} {ks : List Int} {hI : List Nat} {ts : List Int} {T : Nat → Bool} (g : GI o w N lf (k :: ks) hI ts T)
    (hmin : ∀ k' ∈ ks, k ≤ k') {n : Nat} (hkn : k % 8 = (n : Int)) (hs : (((chain o n).filter (fun i => !hI.contains i)).map w).sum = -(k / 8)) :
    GI o w N lf ks (hI ++ (chain o n).filter (fun i => !hI.contains i)) (ts ++ [ts.getLastD 0 + (((chain o n).filter (fun i => !hI.contains i)).map w).sum]) (fun x => T x || x == n) := by
  obtain ⟨hm, hT⟩ := gi_mem g List.mem_cons_self
  rw [hkn, Int.toNat_natCast] at hm hT
  have hnN := hl n hm
  have hfr := fresh_sum (w := w) hl hnN g.held
  have hfw : worth w N (fun i => way o n i && !union o lf T i) = -(k / 8) := by rw [← hfr]; exact hs
  have hcnt := cnt_add hn hm hT
  have hgr : Greedy o w N lf (fun x => T x || x == n) := by
    refine .step g.greedy hm hT fun x hx hxT => ?_
    have hin : x ∈ lf.filter (fun x => !T x) := List.mem_filter.mpr ⟨hx, by rw [hxT]; rfl⟩
    obtain ⟨k', hk', e⟩ := List.mem_map.mp (g.keys.mem_iff.mpr hin)
    have h1 := g.fresh k' hk'
    rw [e] at h1
    rw [hfw]
    have h2 : k ≤ k' := (List.mem_cons.mp hk').elim (fun e => by rw [e]; exact Int.le_refl _) (hmin k')
    omega
  have hun : ∀ i, union o lf (fun x => T x || x == n) i = (union o lf T i || way o n i) := fun i => union_step hm
  have hlastv : worth w N (union o lf fun x => T x || x == n) = worth w N (union o lf T) + worth w N (fun i => way o n i && !union o lf T i) := by
    unfold worth
    rw [← sum_add]
    congr 1
    refine List.map_congr_left fun i _ => ?_
    rw [hun i]
    exact ite_or _ _ _
  refine ⟨hgr, ?_, ?_, ?_, ?_, ?_, ?_, ?_⟩
  · have hp := g.keys
    rw [List.map_cons, hkn, Int.toNat_natCast] at hp
    have e : (lf.filter (fun x => !(T x || x == n))) = (lf.filter (fun x => !T x)).filter (fun x => !(x == n)) := by
      rw [List.filter_filter]
      refine List.filter_congr fun x _ => ?_
      cases T x <;> cases (x == n) <;> rfl
    rw [e]
    have hnd := nodup_filter (fun x => !T x) hn
    have hnd2 : (n :: ks.map (fun k => (k % 8).toNat)).Nodup := hp.nodup_iff.mpr hnd
    have hp2 := hp.filter (fun x => !(x == n))
    rw [List.filter_cons, if_neg (by simp)] at hp2
    rw [List.filter_eq_self.mpr (fun x hx => by
      have : x ≠ n := fun z => (List.nodup_cons.mp hnd2).1 (z ▸ hx)
      simp [this])] at hp2
    exact hp2
  · intro k' hk'
    refine Int.le_trans ?_ (g.fresh k' (List.mem_cons_of_mem _ hk'))
    rw [worth_congr (p := fun i => way o (k' % 8).toNat i && !union o lf (fun x => T x || x == n) i) (q := fun i => way o (k' % 8).toNat i && !(union o lf T i || way o n i)) fun i _ => by simp only [hun i]]
    unfold worth
    refine sum_le fun i hi => ?_
    exact ite_le _ _ _ (hw i (List.mem_range.mp hi))
  · refine List.nodup_append.mpr ⟨g.nodup, nodup_filter _ (chain_nodup _ _ (Nat.le_refl _)), fun a ha b hb e => ?_⟩
    have := (List.mem_filter.mp hb).2
    rw [← e] at this
    simp [ha] at this
  · intro i
    rw [List.mem_append, hun i, Bool.or_eq_true, g.held i, List.mem_filter]
    constructor
    · rintro (h | ⟨h, _⟩)
      · exact .inl h
      · exact .inr (by simpa using h)
    · rintro (h | h)
      · exact .inl h
      · cases hu : union o lf T i with
        | true => exact .inl rfl
        | false =>
          refine .inr ⟨by simpa using h, ?_⟩
          have : ¬ i ∈ hI := fun z => by rw [(g.held i).mp z] at hu; cases hu
          simp [this]
  · rw [List.getLastD_concat, g.last, hfr, hlastv]
  · rw [List.length_append, List.length_singleton, g.len, hcnt]
  · intro j hj
    rw [List.length_append, List.length_singleton] at hj
    by_cases h : j < ts.length
    · obtain ⟨S, h1, h2, h3⟩ := g.hist j h
      exact ⟨S, h1, h2, by rw [List.getElem?_append_left h]; exact h3⟩
    · have e : j = ts.length := by omega
      subst e
      refine ⟨_, hgr, by rw [hcnt, g.len], ?_⟩
      rw [List.getElem?_concat_length, g.last, hfr, hlastv]

theorem gi_rep (hl : ∀ x ∈ lf, x < N) (hw : ∀ k, k < N → 0 ≤ w k) {k : Int} {ks : List Int} {hI : List Nat} {ts : List Int} {T : Nat → Bool} (g : GI o w N lf (k :: ks) hI ts T)
    (h8 : N ≤ 8) {n : Nat} (hkn : k % 8 = (n : Int)) (hs : (((chain o n).filter (fun i => !hI.contains i)).map w).sum ≠ -(k / 8)) :
    GI o w N lf ((8 * (-(((chain o n).filter (fun i => !hI.contains i)).map w).sum) + n) :: ks) hI ts T ∧ 0 ≤ (((chain o n).filter (fun i => !hI.contains i)).map w).sum ∧ (((chain o n).filter (fun i => !hI.contains i)).map w).sum < -(k / 8) := by
  obtain ⟨hm, hT⟩ := gi_mem g List.mem_cons_self
  rw [hkn, Int.toNat_natCast] at hm hT
  have hnN := hl n hm
  have hfr := fresh_sum (w := w) hl hnN g.held
  have h0 : 0 ≤ worth w N (fun i => way o n i && !union o lf T i) := worth_nonneg hw _
  have h1 := g.fresh k List.mem_cons_self
  rw [hkn, Int.toNat_natCast] at h1
  rw [hfr] at hs ⊢
  refine ⟨⟨g.greedy, ?_, ?_, g.nodup, g.held, g.last, g.len, g.hist⟩, h0, by omega⟩
  · have hp := g.keys
    rw [List.map_cons] at hp ⊢
    have e : (8 * -worth w N (fun i => way o n i && !union o lf T i) + (n : Int)) % 8 = k % 8 := by omega
    rw [e]
    exact hp
  · intro k' hk'
    rcases List.mem_cons.mp hk' with rfl | hk'
    · have e : (8 * -worth w N (fun i => way o n i && !union o lf T i) + (n : Int)) % 8 = (n : Int) := by omega
      have e2 : (8 * -worth w N (fun i => way o n i && !union o lf T i) + (n : Int)) / 8 = -worth w N (fun i => way o n i && !union o lf T i) := by omega
      rw [e, e2, Int.toNat_natCast]
      omega
    · exact g.fresh k' (List.mem_cons_of_mem _ hk')

theorem gi_start (hl : ∀ x ∈ lf, x < N) (h8 : N ≤ 8) : GI o w N lf (lf.map (fun (x : Nat) => 8 * (-((chain o x).map w).sum) + (x : Int))) [] [0] (fun _ => false) := by
  have hu : ∀ i, union o lf (fun _ => false) i = false := fun i => by
    cases h : union o lf (fun _ => false) i with
    | false => rfl
    | true =>
      obtain ⟨_, _, z, _⟩ := union_iff.mp h
      cases z
  have hz : worth w N (union o lf fun _ => false) = 0 := by
    rw [worth_congr (q := fun _ => false) fun i _ => hu i, worth_filter]
    rw [List.filter_eq_nil_iff.mpr (fun _ _ => Bool.false_ne_true)]; rfl
  have hc : cnt lf (fun _ => false) = 0 := by
    unfold cnt
    rw [List.filter_eq_nil_iff.mpr (fun _ _ => Bool.false_ne_true)]; rfl
  refine ⟨.nil, ?_, ?_, by simp, ?_, hz.symm, by rw [hc]; rfl, ?_⟩
  · rw [List.map_map]
    have e : (lf.filter (fun _ => !false)) = lf := List.filter_eq_self.mpr fun _ _ => rfl
    rw [e]
    have : lf.map ((fun (k : Int) => (k % 8).toNat) ∘ fun (x : Nat) => 8 * (-((chain o x).map w).sum) + (x : Int)) = lf := by
      conv => rhs; rw [← List.map_id lf]
      refine List.map_congr_left fun x hx => ?_
      have := hl x hx
      simp only [Function.comp, id]
      omega
    rw [this]
  · intro k hk
    obtain ⟨x, hx, rfl⟩ := List.mem_map.mp hk
    have hxN := hl x hx
    have e1 : ((8 * (-((chain o x).map w).sum) + (x : Int)) % 8).toNat = x := by omega
    have e2 : (8 * (-((chain o x).map w).sum) + (x : Int)) / 8 = -((chain o x).map w).sum := by omega
    rw [e1, e2, Int.neg_neg]
    refine Int.le_of_eq ?_
    rw [sum_worth (w := w) (N := N) (p := fun i => way o x i) (chain_nodup _ _ (Nat.le_refl _)) (fun i hi => Nat.lt_of_le_of_lt (chain_le _ _ (Nat.le_refl _) _ hi) hxN) (fun i _ => by simp)]
    refine worth_congr fun i _ => ?_
    rw [hu i]; simp
  · intro i
    rw [hu i]
    simp
  · intro j hj
    have : j = 0 := by simpa using hj
    subst this
    exact ⟨_, .nil, hc, by rw [hz]; rfl⟩
end
end Mine
end

section
namespace Mine

theorem mask_lt {o : Nat → Int} : ∀ (n k : Nat), k ≤ n → mask o k < 2 ^ (k + 1) := by
  intro n
  induction n with
  | zero =>
    intro k hk
    rw [mask_eq, dif_neg (by omega)]
    have : k = 0 := by omega
    subst this; decide
  | succ n ih =>
    intro k hk
    rw [mask_eq]
    split
    · rename_i h
      have h1 := ih (o k).toNat (by omega)
      have h2 : 2 ^ ((o k).toNat + 1) ≤ 2 ^ k := Nat.pow_le_pow_right (by decide) (by omega)
      rw [Nat.pow_succ]; omega
    · rw [Nat.pow_succ]
      have : 0 < 2 ^ k := Nat.two_pow_pos k
      omega
theorem mask_bit {o : Nat → Int} (i : Nat) : ∀ (n k : Nat), k ≤ n → (mask o k).testBit i = (chain o k).contains i := by
  intro n
  induction n with
  | zero =>
    intro k hk
    rw [mask_eq, chain_eq, dif_neg (by omega), dif_neg (by omega)]
    have : k = 0 := by omega
    subst this
    rw [Nat.add_zero, Nat.testBit_two_pow]
    simp [eq_comm]
  | succ n ih =>
    intro k hk
    rw [mask_eq, chain_eq]
    by_cases h : 0 ≤ o k ∧ o k < k
    · rw [dif_pos h, dif_pos h]
      have h1 := mask_lt (o := o) _ (o k).toNat (Nat.le_refl _)
      have h2 : 2 ^ ((o k).toNat + 1) ≤ 2 ^ k := Nat.pow_le_pow_right (by decide) (by omega)
      have h3 := ih (o k).toNat (by omega)
      have h4 := chain_le (o := o) _ (o k).toNat (Nat.le_refl _)
      rw [List.contains_cons]
      rcases Nat.lt_trichotomy i k with hi | hi | hi
      · rw [Nat.testBit_two_pow_add_gt hi, h3]
        have : (i == k) = false := beq_eq_false_iff_ne.mpr (Nat.ne_of_lt hi)
        rw [this, Bool.false_or]
      · subst hi
        rw [Nat.testBit_two_pow_add_eq, Nat.testBit_lt_two_pow (Nat.lt_of_lt_of_le h1 h2)]
        simp
      · have hlt : 2 ^ k + mask o (o k).toNat < 2 ^ i := by
          have : 2 ^ (k + 1) ≤ 2 ^ i := Nat.pow_le_pow_right (by decide) hi
          rw [Nat.pow_succ] at this; omega
        rw [Nat.testBit_lt_two_pow hlt]
        have e1 : (i == k) = false := beq_eq_false_iff_ne.mpr (Nat.ne_of_gt hi)
        rw [e1, Bool.false_or]
        symm
        rw [Bool.eq_false_iff]
        intro hc
        have := h4 i (by simpa using hc)
        omega
    · rw [dif_neg h, dif_neg h, Nat.add_zero, Nat.testBit_two_pow]
      simp [eq_comm]

theorem held_bit {os ls : List Int} {c : Nat} (i : Nat) : ∀ p, (heldP os ls c p).testBit i = (List.range p).any fun q => decide (c / 2 ^ q % 2 = 1) && (chain (fun k => os.getD k 0) (ls.getD q 0).toNat).contains i
  | 0 => by simp [heldP]
  | p + 1 => by
    rw [heldP, List.range_succ, List.any_append, List.any_cons, List.any_nil, Bool.or_false, ← held_bit i p]
    split
    · rename_i h
      rw [Nat.testBit_or, wayAt, mask_bit _ _ _ (Nat.le_refl _), decide_eq_true h, Bool.true_and]
    · rename_i h
      rw [decide_eq_false h, Bool.false_and, Bool.or_false]

theorem many_count {c : Nat} : ∀ p, manyP c p = ((List.range p).filter fun q => decide (c / 2 ^ q % 2 = 1)).length
  | 0 => rfl
  | p + 1 => by
    rw [manyP, List.range_succ, List.filter_append, List.length_append, ← many_count p, List.filter_cons, List.filter_nil]
    split
    · rename_i h; rw [decide_eq_true h]; rfl
    · rename_i h; rw [decide_eq_false h]; rfl

/-- any bits at all -/
theorem bits_exist (f : Nat → Bool) : ∀ m, ∃ c, c < 2 ^ m ∧ ∀ q, q < m → decide (c / 2 ^ q % 2 = 1) = f q
  | 0 => ⟨0, by decide, fun q h => absurd h (Nat.not_lt_zero _)⟩
  | m + 1 => by
    obtain ⟨c, hc, hq⟩ := bits_exist f m
    by_cases hf : f m = true
    · refine ⟨2 ^ m + c, by rw [Nat.pow_succ]; omega, fun q hqm => ?_⟩
      rw [← Nat.testBit_eq_decide_div_mod_eq]
      rcases Nat.lt_or_eq_of_le (Nat.le_of_lt_succ hqm) with h | h
      · rw [Nat.testBit_two_pow_add_gt h, Nat.testBit_eq_decide_div_mod_eq]; exact hq q h
      · subst h
        rw [Nat.testBit_two_pow_add_eq, Nat.testBit_lt_two_pow hc, hf]; rfl
    · refine ⟨c, by rw [Nat.pow_succ]; omega, fun q hqm => ?_⟩
      rcases Nat.lt_or_eq_of_le (Nat.le_of_lt_succ hqm) with h | h
      · exact hq q h
      · subst h
        rw [← Nat.testBit_eq_decide_div_mod_eq, Nat.testBit_lt_two_pow hc]
        simpa using hf

section
variable {os ws : List Int} {lf : List Nat}
/-- the choice that a number tells -/
noncomputable def chosen (lf : List Nat) (c : Nat) (x : Nat) : Bool := (List.range lf.length).any fun q => decide (c / 2 ^ q % 2 = 1) && (lf.getD q 0 == x)

theorem ls_getD (q : Nat) : ((lf.map (fun (k : Nat) => (k : Int))).getD q 0).toNat = lf.getD q 0 := by
  rw [List.getD_eq_getElem?_getD, List.getD_eq_getElem?_getD, List.getElem?_map]
  cases lf[q]? <;> simp

theorem tot_worth (c : Nat) : totP ws (heldP os (lf.map (fun (k : Nat) => (k : Int))) c lf.length) = worth (fun k => ws.getD k 0) 6 (union (fun k => os.getD k 0) lf (chosen lf c)) := by
  rw [worth_filter]
  unfold totP
  congr 2
  refine List.filter_congr fun k _ => ?_
  rw [← Nat.testBit_eq_decide_div_mod_eq, held_bit, Bool.eq_iff_iff, List.any_eq_true, union_iff]
  constructor
  · rintro ⟨q, hq, h⟩
    rw [ls_getD, Bool.and_eq_true] at h
    have hql := List.mem_range.mp hq
    have e : lf.getD q 0 = lf[q] := by rw [List.getD_eq_getElem?_getD, List.getElem?_eq_getElem hql]; rfl
    refine ⟨lf.getD q 0, by rw [e]; exact List.getElem_mem hql, ?_, by simpa using h.2⟩
    unfold chosen
    exact List.any_eq_true.mpr ⟨q, hq, by rw [h.1]; simp⟩
  · rintro ⟨x, hx, h, hk⟩
    obtain ⟨q, hq, h⟩ := List.any_eq_true.mp h
    rw [Bool.and_eq_true] at h
    refine ⟨q, hq, ?_⟩
    rw [ls_getD, h.1, eq_of_beq h.2]
    simpa using hk

theorem cnt_chosen (hn : lf.Nodup) (c : Nat) : cnt lf (chosen lf c) = manyP c lf.length := by
  rw [many_count]
  unfold cnt
  have e : lf.filter (chosen lf c) = ((List.range lf.length).filter fun q => decide (c / 2 ^ q % 2 = 1)).map fun q => lf.getD q 0 := by
    have e1 : lf = (List.range lf.length).map fun q => lf.getD q 0 := by
      apply List.ext_getElem?
      intro i
      rw [List.getElem?_map]
      by_cases hi : i < lf.length
      · rw [List.getElem?_range hi, Option.map_some, List.getD_eq_getElem?_getD, List.getElem?_eq_getElem hi]; rfl
      · rw [List.getElem?_eq_none (by omega), List.getElem?_eq_none (by rw [List.length_range]; omega)]; rfl
    conv => lhs; rw [e1]
    rw [List.filter_map]
    congr 1
    conv => lhs; rw [← e1]
    refine List.filter_congr fun q hq => ?_
    have hql := List.mem_range.mp hq
    show chosen lf c (lf.getD q 0) = _
    unfold chosen
    rw [Bool.eq_iff_iff, List.any_eq_true]
    constructor
    · rintro ⟨p, hp, h⟩
      rw [Bool.and_eq_true] at h
      have hpl := List.mem_range.mp hp
      have h2 := eq_of_beq h.2
      rw [List.getD_eq_getElem?_getD, List.getD_eq_getElem?_getD, List.getElem?_eq_getElem hpl, List.getElem?_eq_getElem hql] at h2
      have : p = q := (List.getElem?_inj hpl hn).mp (by rw [List.getElem?_eq_getElem hpl, List.getElem?_eq_getElem hql]; exact congrArg some h2)
      rw [← this]; exact h.1
    · intro h
      exact ⟨q, hq, by rw [h]; simp⟩
  rw [e, List.length_map]

theorem most_char {ls : List Int} {C : Nat} : (∀ c, c < C → totP ws (heldP os ls c ls.length) ≤ (mostP os ws ls C).getD (manyP c ls.length) 0) ∧
    ∀ j, (mostP os ws ls C).getD j 0 = 0 ∨ ∃ c, c < C ∧ manyP c ls.length = j ∧ (mostP os ws ls C).getD j 0 = totP ws (heldP os ls c ls.length) := by
  induction C with
  | zero =>
    refine ⟨fun c h => absurd h (Nat.not_lt_zero _), fun j => .inl ?_⟩
    rw [mostP, List.getD_eq_getElem?_getD, List.getElem?_replicate]
    split <;> rfl
  | succ C ih =>
    obtain ⟨h1, h2⟩ := ih
    have hset : ∀ j, (mostP os ws ls (C + 1)).getD j 0 = if j = manyP C ls.length then max ((mostP os ws ls C).getD (manyP C ls.length) 0) (totP ws (heldP os ls C ls.length)) else (mostP os ws ls C).getD j 0 := fun j => by
      have hlt : manyP C ls.length < (mostP os ws ls C).length := by rw [mostP_len]; have := manyP_le C ls.length; omega
      rw [mostP, List.getD_eq_getElem?_getD, List.getElem?_set]
      by_cases h : manyP C ls.length = j
      · subst h; rw [if_pos rfl, if_pos hlt, if_pos rfl]; rfl
      · rw [if_neg h, if_neg (fun z => h z.symm), List.getD_eq_getElem?_getD]
    refine ⟨fun c hc => ?_, fun j => ?_⟩
    · rw [hset]
      by_cases h : c = C
      · subst h; rw [if_pos rfl]; exact Int.le_max_right _ _
      · have := h1 c (by omega)
        split
        · rename_i e; rw [e] at this; exact Int.le_trans this (Int.le_max_left _ _)
        · exact this
    · rw [hset]
      split
      · rename_i e
        subst e
        rw [Int.max_def]
        split
        · exact .inr ⟨C, by omega, rfl, rfl⟩
        · rcases h2 (manyP C ls.length) with h | ⟨c, hc, he, h⟩
          · exact .inl h
          · exact .inr ⟨c, by omega, he, h⟩
      · rcases h2 j with h | ⟨c, hc, he, h⟩
        · exact .inl h
        · exact .inr ⟨c, by omega, he, h⟩

theorem told_most (hn : lf.Nodup) (hw : ∀ k, k < 6 → 0 ≤ ws.getD k 0) {hI : List Nat} {ts : List Int} {T : Nat → Bool} (g : GI (fun k => os.getD k 0) (fun k => ws.getD k 0) 6 lf [] hI ts T) :
    ts = mostP os ws (lf.map (fun (k : Nat) => (k : Int))) (2 ^ (lf.map (fun (k : Nat) => (k : Int))).length) := by
  have hk := g.keys.length_eq
  have hc := cnt_filter (lf := lf) (T := T)
  rw [List.map_nil, List.length_nil] at hk
  have hlen : ts.length = lf.length + 1 := by rw [g.len]; omega
  obtain ⟨m1, m2⟩ := most_char (os := os) (ws := ws) (ls := lf.map (fun (k : Nat) => (k : Int))) (C := 2 ^ (lf.map (fun (k : Nat) => (k : Int))).length)
  apply List.ext_getElem?
  intro j
  by_cases hj : j < ts.length
  · obtain ⟨S, h1, h2, h3⟩ := g.hist j hj
    have hml : j < (mostP os ws (lf.map (fun (k : Nat) => (k : Int))) (2 ^ (lf.map (fun (k : Nat) => (k : Int))).length)).length := by rw [mostP_len, List.length_map]; omega
    rw [h3, List.getElem?_eq_getElem hml]
    congr 1
    have e : (mostP os ws (lf.map (fun (k : Nat) => (k : Int))) (2 ^ (lf.map (fun (k : Nat) => (k : Int))).length))[j] = (mostP os ws (lf.map (fun (k : Nat) => (k : Int))) (2 ^ (lf.map (fun (k : Nat) => (k : Int))).length)).getD j 0 := by
      rw [List.getD_eq_getElem?_getD, List.getElem?_eq_getElem hml]; rfl
    rw [e]
    refine Int.le_antisymm ?_ ?_
    · obtain ⟨c, hcl, hcb⟩ := bits_exist (fun q => S (lf.getD q 0)) lf.length
      have hS : ∀ x ∈ lf, chosen lf c x = S x := fun x hx => by
        unfold chosen
        rw [Bool.eq_iff_iff, List.any_eq_true]
        constructor
        · rintro ⟨q, hq, h⟩
          rw [Bool.and_eq_true, hcb q (List.mem_range.mp hq), eq_of_beq h.2] at h
          exact h.1
        · intro h
          obtain ⟨q, hq, he⟩ := List.getElem_of_mem hx
          have hd : lf.getD q 0 = x := by rw [List.getD_eq_getElem?_getD, List.getElem?_eq_getElem hq]; exact he
          exact ⟨q, List.mem_range.mpr hq, by rw [hcb q hq, hd, h]; simp⟩
      have hcnt : manyP c lf.length = j := by rw [← cnt_chosen hn c, cnt_congr hS, h2]
      have := m1 c (by rw [List.length_map]; exact hcl)
      rw [List.length_map, hcnt, tot_worth] at this
      refine Int.le_trans (Int.le_of_eq (worth_congr fun k _ => ?_)) (by rw [List.length_map]; exact this)
      rw [Bool.eq_iff_iff, union_iff, union_iff]
      exact ⟨fun ⟨x, hx, h, hk⟩ => ⟨x, hx, by rw [hS x hx]; exact h, hk⟩, fun ⟨x, hx, h, hk⟩ => ⟨x, hx, by rw [← hS x hx]; exact h, hk⟩⟩
    · rcases m2 j with h | ⟨c, hcl, hcj, h⟩
      · rw [h]; exact worth_nonneg hw _
      · rw [h]
        rw [List.length_map] at hcj ⊢
        rw [tot_worth]
        exact greedy_best hn hw h1 (by rw [cnt_chosen hn, hcj, h2])
  · rw [List.getElem?_eq_none (by omega), List.getElem?_eq_none (by rw [mostP_len, List.length_map]; omega)]
end
end Mine
end

section
open PySem PySem.Builtin PySem.Builtin.Str
set_option maxRecDepth 100000
namespace Mine

/-- without the slashes at the end -/
noncomputable def rs (l : List Nat) : List Nat := (l.reverse.dropWhile (· == 47)).reverse
theorem rs_self {u : List Nat} {c : Nat} (h : c ≠ 47) : rs (u ++ [c]) = u ++ [c] := by
  unfold rs
  rw [List.reverse_append, List.reverse_singleton, List.singleton_append, List.dropWhile_cons, if_neg (by simpa using h), List.reverse_cons, List.reverse_reverse]
theorem rs_slash (u : List Nat) : rs (u ++ [47]) = rs u := by
  unfold rs
  rw [List.reverse_append, List.reverse_singleton, List.singleton_append, List.dropWhile_cons, if_pos (by simp)]
theorem rs_nil : rs [] = [] := rfl

theorem slash_cps : (PySem.Str.ofString "/").cps = #[47] := rfl
theorem slash_goes : (PySem.Str.ofString "/").cps.contains = fun c => c == 47 := by
  funext c
  rw [slash_cps, Bool.eq_iff_iff]
  simp

theorem rstrip_list (x : PySem.Str) : (Txt.rstripChars x (PySem.Str.ofString "/")).cps.toList = rs x.cps.toList := by
  unfold Txt.rstripChars
  rw [slash_goes]
  unfold Txt.stripBy stripSame stripped stripLo stripHi rs
  simp only [Bool.false_eq_true, if_false, if_true, List.drop_zero]
  obtain ⟨tw, htw⟩ : ∃ tw, tw = x.cps.toList.reverse.takeWhile (fun c => c == 47) := ⟨_, rfl⟩
  obtain ⟨dw, hdw⟩ : ∃ dw, dw = x.cps.toList.reverse.dropWhile (fun c => c == 47) := ⟨_, rfl⟩
  have hl : x.cps.toList = dw.reverse ++ tw.reverse := by
    rw [← List.reverse_append, htw, hdw, List.takeWhile_append_dropWhile, List.reverse_reverse]
  have hlen : x.length = dw.length + tw.length := by
    show x.cps.size = _
    rw [← Array.length_toList, hl, List.length_append, List.length_reverse, List.length_reverse]
  rw [← htw, ← hdw]
  split
  · rename_i h
    have h0 : tw.length = 0 := by
      have : x.length - tw.length = x.length := by simpa using h
      omega
    have : tw = [] := List.length_eq_zero_iff.mp h0
    rw [hl, this]; simp
  · rw [StrLaws.strSub_toList, hl, List.drop_zero, hlen]
    rw [show dw.length + tw.length - tw.length - 0 = dw.reverse.length by rw [List.length_reverse]; omega]
    exact List.take_left

theorem at_slash {x : PySem.Str} {i : Nat} : StrLaws.At x (PySem.Str.ofString "/") x.length i ↔ x.cps.toList[i]? = some 47 := by
  unfold StrLaws.At
  rw [StrLaws.subAt_eq]
  have e1 : (PySem.Str.ofString "/").length = 1 := rfl
  have e2 : (PySem.Str.ofString "/").cps.toList = [47] := rfl
  rw [e1, e2]
  have hx : x.length = x.cps.toList.length := by show x.cps.size = _; rw [Array.length_toList]
  rw [hx]
  constructor
  · rintro ⟨h1, h2⟩
    have hi : i < x.cps.toList.length := by omega
    rw [List.drop_eq_getElem_cons hi] at h2
    simp only [List.take_succ_cons, List.take_zero] at h2
    rw [List.getElem?_eq_getElem hi]
    simpa using h2
  · intro h
    have hi : i < x.cps.toList.length := by
      rcases Nat.lt_or_ge i x.cps.toList.length with h1 | h1
      · exact h1
      · rw [List.getElem?_eq_none h1] at h; cases h
    refine ⟨by omega, ?_⟩
    rw [List.drop_eq_getElem_cons hi]
    rw [List.getElem?_eq_getElem hi] at h
    simp only [List.take_succ_cons, List.take_zero]
    simpa using h

theorem rfind_at {x : PySem.Str} {u v : List Nat} (hx : x.cps.toList = u ++ 47 :: v) (hv : 47 ∉ v) : Txt.rfind x (PySem.Str.ofString "/") = (u.length : Int) := by
  have hat : StrLaws.At x (PySem.Str.ofString "/") x.length u.length := at_slash.mpr (by rw [hx, List.getElem?_append_right (Nat.le_refl _), Nat.sub_self]; rfl)
  have hno : ∀ k, u.length < k → ¬ StrLaws.At x (PySem.Str.ofString "/") x.length k := fun k hk h => by
    have h2 := at_slash.mp h
    rw [hx, List.getElem?_append_right (by omega), show k - u.length = (k - u.length - 1) + 1 by omega, List.getElem?_cons_succ] at h2
    exact hv (List.mem_of_getElem? h2)
  unfold Txt.rfind
  rcases StrLaws.last_spec x (PySem.Str.ofString "/") with ⟨h1, h2⟩ | ⟨i, h1, h2, h3⟩
  · exact absurd hat (h2 _)
  · rw [h1]
    show (i : Int) = _
    have : i = u.length := by
      rcases Nat.lt_trichotomy i u.length with h | h | h
      · exact absurd hat (h3 _ h)
      · exact h
      · exact absurd h2 (hno _ h)
    rw [this]
theorem rfind_none {x : PySem.Str} (hx : 47 ∉ x.cps.toList) : Txt.rfind x (PySem.Str.ofString "/") = -1 := by
  unfold Txt.rfind
  rcases StrLaws.last_spec x (PySem.Str.ofString "/") with ⟨h1, _⟩ | ⟨i, _, h2, _⟩
  · rw [h1]
  · exact absurd (List.mem_of_getElem? (at_slash.mp h2)) hx

theorem cut_at {x : PySem.Str} {u v : List Nat} (hx : x.cps.toList = u ++ 47 :: v) (hv : 47 ∉ v) : (splitCut x).cps.toList = u ++ [47] := by
  unfold splitCut
  rw [rfind_at hx hv]
  have := StrLaws.sliceText_to (x := x) (j := (u.length : Int) + 1) ⟨by omega, by rw [hx, List.length_append, List.length_cons]; omega⟩
  rw [show Txt.slice x none (some ((u.length : Int) + 1)) = StrLaws.sliceText x none (some ((u.length : Int) + 1)) from rfl, this]
  rw [hx, List.drop_zero, Int.sub_zero, show ((u.length : Int) + 1).toNat = (u ++ [47]).length by rw [List.length_append, List.length_singleton]; omega]
  rw [show u ++ 47 :: v = (u ++ [47]) ++ v by simp]
  exact List.take_left
theorem cut_none {x : PySem.Str} (hx : 47 ∉ x.cps.toList) : (splitCut x).cps.toList = [] := by
  unfold splitCut
  rw [rfind_none hx]
  have := StrLaws.sliceText_to (x := x) (j := 0) ⟨by omega, by omega⟩
  rw [show Txt.slice x none (some (-1 + 1)) = StrLaws.sliceText x none (some 0) from rfl, this]
  rfl

theorem fold_slash : ∀ (n : Nat) (acc : Array Nat), ∀ c ∈ ((List.replicate n #[47]).foldl (· ++ ·) acc).toList, c ∈ acc.toList ∨ c = 47
  | 0, acc, c, h => .inl h
  | n + 1, acc, c, h => by
    rw [List.replicate_succ, List.foldl_cons] at h
    rcases fold_slash n _ c h with h | h
    · rw [Array.toList_append, List.mem_append] at h
      rcases h with h | h
      · exact .inl h
      · exact .inr (by simpa using h)
    · exact .inr h
theorem mul_slash (n : Int) : ∀ c ∈ (Txt.mul (PySem.Str.ofString "/") n).cps.toList, c = 47 := by
  intro c h
  unfold Txt.mul at h
  split at h
  · exact absurd h (by simp [PySem.Str.empty])
  · split at h
    · simpa [slash_cps] using h
    · rw [slash_cps] at h
      rcases fold_slash _ _ c h with h | h
      · simp at h
      · exact h

theorem str_len (x : PySem.Str) : x.length = x.cps.toList.length := by show x.cps.size = _; rw [Array.length_toList]

/-- the head of a way: all but the last name and the slashes before it, when some sign is no slash -/
theorem head_at {x : PySem.Str} {u v : List Nat} (hx : x.cps.toList = u ++ 47 :: v) (hv : 47 ∉ v) {c : Nat} (hc : c ∈ u) (h47 : c ≠ 47) : (splitHead x).cps.toList = rs u := by
  have hcut := cut_at hx hv
  unfold splitHead
  have h1 : (splitCut x).length ≠ 0 := by rw [str_len, hcut, List.length_append, List.length_singleton]; omega
  have h2 : (splitCut x != Txt.mul (PySem.Str.ofString "/") ((splitCut x).length : Int)) = true := by
    rw [bne_iff_ne]
    intro e
    have hm := mul_slash ((splitCut x).length : Int) c (by rw [← e, hcut]; exact List.mem_append_left _ hc)
    exact h47 hm
  rw [if_neg h1, if_pos h2, rstrip_list, hcut, rs_slash]
theorem head_none {x : PySem.Str} (hx : 47 ∉ x.cps.toList) : (splitHead x).cps.toList = [] := by
  have hcut := cut_none hx
  unfold splitHead
  rw [if_pos (by rw [str_len, hcut]; rfl)]
  exact hcut
theorem head_slash {x : PySem.Str} {v : List Nat} (hx : x.cps.toList = 47 :: v) (hv : 47 ∉ v) : (splitHead x).cps.toList = [47] := by
  have hcut := cut_at (u := []) hx hv
  have hc : splitCut x = PySem.Str.ofString "/" := by
    have h1 : (splitCut x).cps = #[47] := by rw [← Array.toList_inj]; exact hcut
    have hx2 : ∀ a b : PySem.Str, a.cps = b.cps → a = b := fun a b h => by
      cases a; cases b; simp only at h; rw [h]
    exact hx2 _ _ h1
  unfold splitHead
  rw [hc]
  have e1 : (PySem.Str.ofString "/").length = 1 := rfl
  rw [e1, if_neg (by decide), if_neg (by decide)]
  rfl

section
variable {nus os : List Int}
theorem slash_list (k : Nat) : (slashP nus k).cps.toList = [] ∨ (slashP nus k).cps.toList = [47] := by
  have h1 := slashP_le nus k
  have h2 : ∀ c ∈ (slashP nus k).cps.toList, c = 47 := mul_slash _
  rw [str_len] at h1
  cases h : (slashP nus k).cps.toList with
  | nil => exact .inl rfl
  | cons a l =>
    rw [h] at h1 h2
    have : l = [] := List.length_eq_zero_iff.mp (by rw [List.length_cons] at h1; omega)
    rw [this, h2 a List.mem_cons_self]; exact .inr rfl

noncomputable def letterC (os : List Int) (k : Nat) : Nat := 97 + List.count (os.getD k 0) (os.take k)
theorem letter_list {k : Nat} (hk : k < 6) : (letterP os k).cps.toList = [letterC os k] := by
  have hc : List.count (os.getD k 0) (os.take k) ≤ k := Nat.le_trans List.count_le_length (by rw [List.length_take]; omega)
  unfold letterP letterC
  generalize List.count (os.getD k 0) (os.take k) = n at hc
  have : n = 0 ∨ n = 1 ∨ n = 2 ∨ n = 3 ∨ n = 4 ∨ n = 5 := by omega
  rcases this with rfl | rfl | rfl | rfl | rfl | rfl <;> rfl
theorem letter_ne (k : Nat) : letterC os k ≠ 47 := by unfold letterC; omega

theorem name_top {k : Nat} (hk : k < 6) (h : os.getD k 0 < 0) : (nameP nus os k).cps.toList = (slashP nus k).cps.toList ++ [letterC os k] := by
  rw [nameP_top h, PySem.Str.cps_append, Array.toList_append, letter_list hk]
theorem name_sub {k : Nat} (hk : k < 6) (h : 0 ≤ os.getD k 0 ∧ os.getD k 0 < k) : (nameP nus os k).cps.toList = ((nameP nus os (os.getD k 0).toNat).cps.toList ++ 47 :: (slashP nus k).cps.toList) ++ [letterC os k] := by
  rw [nameP_sub h, PySem.Str.cps_append, PySem.Str.cps_append, PySem.Str.cps_append, Array.toList_append, Array.toList_append, Array.toList_append, letter_list hk]
  have : (PySem.Str.ofString "/").cps.toList = [47] := rfl
  rw [this]; simp
theorem name_end {k : Nat} (hk : k < 6) : ∃ u, (nameP nus os k).cps.toList = u ++ [letterC os k] := by
  by_cases h : 0 ≤ os.getD k 0 ∧ os.getD k 0 < k
  · exact ⟨_, name_sub hk h⟩
  · rw [nameP_eq, dif_neg h, PySem.Str.cps_append, Array.toList_append, letter_list hk]
    exact ⟨_, rfl⟩
theorem name_rs {k : Nat} (hk : k < 6) : rs (nameP nus os k).cps.toList = (nameP nus os k).cps.toList := by
  obtain ⟨u, h⟩ := name_end (nus := nus) (os := os) hk
  rw [h]; exact rs_self (letter_ne k)
theorem str_ext {x y : PySem.Str} (h : x.cps.toList = y.cps.toList) : x = y := by
  obtain ⟨a⟩ := x
  obtain ⟨b⟩ := y
  simp only at h
  rw [Array.toList_inj.mp h]
theorem name_rstrip {k : Nat} (hk : k < 6) : Txt.rstripChars (nameP nus os k) (PySem.Str.ofString "/") = nameP nus os k := str_ext (by rw [rstrip_list, name_rs hk])

theorem name_head {k : Nat} (hk : k < 6) (h : 0 ≤ os.getD k 0 ∧ os.getD k 0 < k) : splitHead (nameP nus os k) = nameP nus os (os.getD k 0).toNat := by
  have hok : (os.getD k 0).toNat < 6 := by omega
  obtain ⟨u, hu⟩ := name_end (nus := nus) (os := os) hok
  have hl := letter_ne (os := os) k
  refine str_ext ?_
  rcases slash_list (nus := nus) k with hs | hs
  · rw [head_at (u := (nameP nus os (os.getD k 0).toNat).cps.toList) (v := [letterC os k]) (by rw [name_sub hk h, hs]; simp) (by simp; omega) (c := letterC os (os.getD k 0).toNat) (by rw [hu]; simp) (letter_ne _), name_rs hok]
  · rw [head_at (u := (nameP nus os (os.getD k 0).toNat).cps.toList ++ [47]) (v := [letterC os k]) (by rw [name_sub hk h, hs]; simp) (by simp; omega) (c := letterC os (os.getD k 0).toNat) (by rw [hu]; simp) (letter_ne _), rs_slash, name_rs hok]

theorem name_anc : ∀ (n k : Nat), k ≤ n → k < 6 → (∀ j, j < 6 → -1 ≤ os.getD j 0 ∧ os.getD j 0 < j) → AncOf (nameP nus os k) ((chain (fun k => os.getD k 0) k).map (nameP nus os)) := by
  intro n
  induction n with
  | zero =>
    intro k hk hk6 ho
    have := ho k hk6
    rw [chain_eq, dif_neg (by omega)]
    have ht : os.getD k 0 < 0 := by omega
    refine .cons (Nat.le_trans (nameP_le _ _ (Nat.le_refl _)) (by omega)) ?_ ?_
    · rw [name_rstrip hk6, str_len]
      obtain ⟨u, hu⟩ := name_end (nus := nus) (os := os) hk6
      rw [hu]; simp
    · have hl := letter_ne (os := os) k
      rcases slash_list (nus := nus) k with hs | hs
      · have hh := head_none (x := nameP nus os k) (by rw [name_top hk6 ht, hs]; simp; omega)
        exact .nil (by rw [str_len, hh]; simp) (by rw [str_len, rstrip_list, hh]; rfl)
      · have hh := head_slash (x := nameP nus os k) (v := [letterC os k]) (by rw [name_top hk6 ht, hs]; rfl) (by simp; omega)
        exact .nil (by rw [str_len, hh]; simp) (by rw [str_len, rstrip_list, hh]; rfl)
  | succ n ih =>
    intro k hk hk6 ho
    have hok := ho k hk6
    rw [chain_eq]
    have hcons : ∀ ps, AncOf (splitHead (nameP nus os k)) ps → AncOf (nameP nus os k) (nameP nus os k :: ps) := fun ps h => by
      refine .cons (Nat.le_trans (nameP_le _ _ (Nat.le_refl _)) (by omega)) ?_ h
      rw [name_rstrip hk6, str_len]
      obtain ⟨u, hu⟩ := name_end (nus := nus) (os := os) hk6
      rw [hu]; simp
    by_cases h : 0 ≤ os.getD k 0 ∧ os.getD k 0 < k
    · rw [dif_pos h, List.map_cons]
      refine hcons _ ?_
      rw [name_head hk6 h]
      exact ih _ (by omega) (by omega) ho
    · rw [dif_neg h]
      have ht : os.getD k 0 < 0 := by omega
      refine hcons _ ?_
      have hl := letter_ne (os := os) k
      rcases slash_list (nus := nus) k with hs | hs
      · have hh := head_none (x := nameP nus os k) (by rw [name_top hk6 ht, hs]; simp; omega)
        exact .nil (by rw [str_len, hh]; simp) (by rw [str_len, rstrip_list, hh]; rfl)
      · have hh := head_slash (x := nameP nus os k) (v := [letterC os k]) (by rw [name_top hk6 ht, hs]; rfl) (by simp; omega)
        exact .nil (by rw [str_len, hh]; simp) (by rw [str_len, rstrip_list, hh]; rfl)

theorem count_lt {i j : Nat} (hij : i < j) (hi : i < os.length) {v : Int} (hv : os[i]? = some v) : List.count v (os.take i) < List.count v (os.take j) := by
  have h1 : (os.take (i + 1)).Sublist (os.take j) := by
    rw [show os.take (i + 1) = (os.take j).take (i + 1) by rw [List.take_take, Nat.min_eq_left hij]]
    exact List.take_sublist _ _
  have h2 : List.count v (os.take (i + 1)) = List.count v (os.take i) + 1 := by
    rw [List.take_add_one, hv, List.count_append]; simp
  have := h1.count_le v
  omega

theorem name_inj (ho6 : os.length = 6) (ho : ∀ j, j < 6 → -1 ≤ os.getD j 0 ∧ os.getD j 0 < j) : ∀ (n i j : Nat), i ≤ n → i < 6 → j < 6 → nameP nus os i = nameP nus os j → i = j := by
  intro n
  induction n with
  | zero =>
    intro i j hi hi6 hj6 e
    have hi0 : i = 0 := by omega
    subst hi0
    have := ho 0 hi6
    have e2 : (nameP nus os 0).cps.toList = (nameP nus os j).cps.toList := by rw [e]
    have ht : os.getD 0 0 < 0 := by omega
    rw [name_top hi6 ht] at e2
    by_cases hj : 0 ≤ os.getD j 0 ∧ os.getD j 0 < j
    · rw [name_sub hj6 hj] at e2
      obtain ⟨e3, _⟩ := List.append_inj' e2 rfl
      obtain ⟨u, hu⟩ := name_end (nus := nus) (os := os) (k := (os.getD j 0).toNat) (by omega)
      have hm : letterC os (os.getD j 0).toNat ∈ (slashP nus 0).cps.toList := by rw [e3, hu]; simp
      exact absurd (mul_slash _ _ hm) (letter_ne _)
    · have htj : os.getD j 0 < 0 := by have := ho j hj6; omega
      rw [name_top hj6 htj] at e2
      obtain ⟨_, e4⟩ := List.append_inj' e2 rfl
      have e5 : letterC os 0 = letterC os j := by simpa using e4
      unfold letterC at e5
      have hjv := ho j hj6
      have e6 : os.getD 0 0 = os.getD j 0 := by omega
      rw [e6] at e5
      rcases Nat.eq_zero_or_pos j with h | h
      · exact h.symm
      · have := count_lt (os := os) (i := 0) (j := j) h (by omega) (v := os.getD j 0) (by rw [← e6, List.getD_eq_getElem?_getD, List.getElem?_eq_getElem (by omega)]; rfl)
        omega
  | succ n ih =>
    intro i j hi hi6 hj6 e
    have hoi := ho i hi6
    have hoj := ho j hj6
    have e2 : (nameP nus os i).cps.toList = (nameP nus os j).cps.toList := by rw [e]
    have key : letterC os i = letterC os j ∧ os.getD i 0 = os.getD j 0 := by
      by_cases h1 : 0 ≤ os.getD i 0 ∧ os.getD i 0 < i
      · by_cases h2 : 0 ≤ os.getD j 0 ∧ os.getD j 0 < j
        · rw [name_sub hi6 h1, name_sub hj6 h2] at e2
          obtain ⟨e3, e4⟩ := List.append_inj' e2 rfl
          refine ⟨by simpa using e4, ?_⟩
          have hr : ∀ k, k < 6 → 0 ≤ os.getD k 0 ∧ os.getD k 0 < k → rs ((nameP nus os (os.getD k 0).toNat).cps.toList ++ 47 :: (slashP nus k).cps.toList) = (nameP nus os (os.getD k 0).toNat).cps.toList := fun k hk h => by
            rcases slash_list (nus := nus) k with hs | hs
            · rw [hs, rs_slash, name_rs (by omega)]
            · rw [hs, show (nameP nus os (os.getD k 0).toNat).cps.toList ++ 47 :: [47] = ((nameP nus os (os.getD k 0).toNat).cps.toList ++ [47]) ++ [47] by simp, rs_slash, rs_slash, name_rs (by omega)]
          have e5 := congrArg rs e3
          rw [hr i hi6 h1, hr j hj6 h2] at e5
          have := ih _ _ (by omega) (by omega) (by omega) (str_ext e5)
          omega
        · have htj : os.getD j 0 < 0 := by omega
          rw [name_sub hi6 h1, name_top hj6 htj] at e2
          obtain ⟨e3, _⟩ := List.append_inj' e2 rfl
          obtain ⟨u, hu⟩ := name_end (nus := nus) (os := os) (k := (os.getD i 0).toNat) (by omega)
          have hm : letterC os (os.getD i 0).toNat ∈ (slashP nus j).cps.toList := by rw [← e3, hu]; simp
          exact absurd (mul_slash _ _ hm) (letter_ne _)
      · have hti : os.getD i 0 < 0 := by omega
        by_cases h2 : 0 ≤ os.getD j 0 ∧ os.getD j 0 < j
        · rw [name_top hi6 hti, name_sub hj6 h2] at e2
          obtain ⟨e3, _⟩ := List.append_inj' e2 rfl
          obtain ⟨u, hu⟩ := name_end (nus := nus) (os := os) (k := (os.getD j 0).toNat) (by omega)
          have hm : letterC os (os.getD j 0).toNat ∈ (slashP nus i).cps.toList := by rw [e3, hu]; simp
          exact absurd (mul_slash _ _ hm) (letter_ne _)
        · have htj : os.getD j 0 < 0 := by omega
          rw [name_top hi6 hti, name_top hj6 htj] at e2
          obtain ⟨_, e4⟩ := List.append_inj' e2 rfl
          exact ⟨by simpa using e4, by omega⟩
    obtain ⟨e5, e6⟩ := key
    unfold letterC at e5
    rw [e6] at e5
    rcases Nat.lt_trichotomy i j with h | h | h
    · have := count_lt (os := os) h (by omega) (v := os.getD j 0) (by rw [← e6, List.getD_eq_getElem?_getD, List.getElem?_eq_getElem (by omega)]; rfl)
      omega
    · exact h
    · have := count_lt (os := os) h (by omega) (v := os.getD j 0) (by rw [List.getD_eq_getElem?_getD, List.getElem?_eq_getElem (by omega)]; rfl)
      omega
end
end Mine
end

section
open PySem PySem.Builtin PySem.Builtin.Str
set_option maxRecDepth 100000
namespace Mine

theorem getD_at {l : List Int} {i : Nat} {x : Int} (h : l[i]? = some x) : l.getD i 0 = x := by rw [List.getD_eq_getElem?_getD, h]; rfl

section
variable {nus os ws : List Int} {lf : List Nat}

noncomputable def worthOf (nus os ws : List Int) (p : PySem.Str) : Int := match (List.range 6).find? (fun i => decide (nameP nus os i = p)) with
  | some i => ws.getD i 0
  | none => 0
noncomputable abbrev over (os : List Int) (k : Nat) : Int := os.getD k 0
noncomputable abbrev val (ws : List Int) (k : Nat) : Int := ws.getD k 0
noncomputable abbrev anceOf (nus os : List Int) (n : Nat) : List PySem.Str := (chain (over os) n).map (nameP nus os)

theorem worthOf_name (ho6 : os.length = 6) (ho : ∀ j, j < 6 → -1 ≤ os.getD j 0 ∧ os.getD j 0 < j) {i : Nat} (hi : i < 6) : worthOf nus os ws (nameP nus os i) = ws.getD i 0 := by
  unfold worthOf
  cases h : (List.range 6).find? (fun j => decide (nameP nus os j = nameP nus os i)) with
  | none =>
    have := List.find?_eq_none.mp h i (List.mem_range.mpr hi)
    simp at this
  | some j =>
    have h1 := List.find?_some h
    have h2 := List.mem_range.mp (List.mem_of_find?_eq_some h)
    have := name_inj ho6 ho _ j i (Nat.le_refl _) h2 hi (of_decide_eq_true h1)
    rw [this]

theorem chain_lt {n : Nat} (hn : n < 6) : ∀ i ∈ chain (over os) n, i < 6 := fun i hi => Nat.lt_of_le_of_lt (chain_le _ _ (Nat.le_refl _) i hi) hn

theorem filt (ho6 : os.length = 6) (ho : ∀ j, j < 6 → -1 ≤ os.getD j 0 ∧ os.getD j 0 < j) {n : Nat} (hn : n < 6) {hI : List Nat} (hlt : ∀ i ∈ hI, i < 6) :
    (anceOf nus os n).filter (fun p => !(hI.map (nameP nus os)).contains p) = ((chain (over os) n).filter (fun i => !hI.contains i)).map (nameP nus os) := by
  rw [List.filter_map]
  congr 1
  refine List.filter_congr fun i hi => ?_
  have hi6 := chain_lt hn i hi
  show (!(hI.map (nameP nus os)).contains (nameP nus os i)) = _
  congr 1
  rw [Bool.eq_iff_iff, List.contains_iff_mem, List.contains_iff_mem]
  constructor
  · intro h
    obtain ⟨j, hj, e⟩ := List.mem_map.mp h
    have := name_inj ho6 ho _ j i (Nat.le_refl _) (hlt j hj) hi6 e
    rw [← this]; exact hj
  · exact fun h => List.mem_map.mpr ⟨i, h, rfl⟩

theorem sum_names (ho6 : os.length = 6) (ho : ∀ j, j < 6 → -1 ≤ os.getD j 0 ∧ os.getD j 0 < j) {l : List Nat} (hl : ∀ i ∈ l, i < 6) : ((l.map (nameP nus os)).map (worthOf nus os ws)).sum = (l.map (val ws)).sum := by
  rw [List.map_map]
  congr 1
  exact List.map_congr_left fun i hi => worthOf_name ho6 ho (hl i hi)

theorem filt_sum (ho6 : os.length = 6) (ho : ∀ j, j < 6 → -1 ≤ os.getD j 0 ∧ os.getD j 0 < j) {n : Nat} (hn : n < 6) {hI : List Nat} (hlt : ∀ i ∈ hI, i < 6) :
    (((anceOf nus os n).filter (fun p => !(hI.map (nameP nus os)).contains p)).map (worthOf nus os ws)).sum = (((chain (over os) n).filter (fun i => !hI.contains i)).map (val ws)).sum := by
  rw [filt ho6 ho hn hlt, sum_names ho6 ho fun i hi => chain_lt hn i (List.mem_filter.mp hi).1]

theorem leaf_above (ho : ∀ j, j < 6 → -1 ≤ os.getD j 0 ∧ os.getD j 0 < j) (ho6 : os.length = 6) (hlf : lf = (List.range 6).filter (fun (k : Nat) => !(os.any (· == (k : Int))))) : ∀ (m k : Nat), 6 - k ≤ m → k < 6 → ∃ x ∈ lf, k ∈ chain (over os) x := by
  intro m
  induction m with
  | zero => intro k h hk; omega
  | succ m ih =>
    intro k h hk
    by_cases hin : (os.any (· == (k : Int))) = true
    · obtain ⟨v, hv, e⟩ := List.any_eq_true.mp hin
      obtain ⟨j, hj, e2⟩ := List.getElem_of_mem hv
      have hoj : os.getD j 0 = (k : Int) := getD_at (by rw [List.getElem?_eq_getElem hj, e2, eq_of_beq e])
      have hj6 : j < 6 := by omega
      have := ho j hj6
      obtain ⟨x, hx, hc⟩ := ih j (by omega) hj6
      refine ⟨x, hx, chain_trans ?_ _ _ (Nat.le_refl _) hc⟩
      rw [chain_eq, dif_pos ⟨by rw [show over os j = _ from hoj]; omega, by rw [show over os j = _ from hoj]; omega⟩]
      refine List.mem_cons_of_mem _ ?_
      rw [show (over os j).toNat = k by rw [show over os j = _ from hoj]; omega]
      exact chain_self _ _
    · refine ⟨k, ?_, chain_self _ _⟩
      rw [hlf]
      exact List.mem_filter.mpr ⟨List.mem_range.mpr hk, by rw [Bool.not_eq_true']; exact Bool.eq_false_iff.mpr hin⟩

theorem gspec (ho6 : os.length = 6) (ho : ∀ j, j < 6 → -1 ≤ os.getD j 0 ∧ os.getD j 0 < j) (hw : ∀ k, k < 6 → 0 ≤ ws.getD k 0) (hn : lf.Nodup) (hl : ∀ x ∈ lf, x < 6) (hll : lf.length ≤ 6) :
    GSpec (lf.map (fun (k : Nat) => (k : Int))) (anceOf nus os) (worthOf nus os ws) (fun ks hs ts => ∃ hI T, hs = hI.map (nameP nus os) ∧ GI (over os) (val ws) 6 lf ks hI ts T) where
  key := by
    rintro ks hs ts ⟨hI, T, _, g⟩ k hk
    obtain ⟨h1, _⟩ := gi_mem g hk
    obtain ⟨i, hi, e⟩ := List.getElem_of_mem h1
    exact ⟨(k % 8).toNat, i, by omega, by rw [List.getElem?_map, List.getElem?_eq_getElem hi, e]; rfl⟩
  size := by
    rintro ks hs ts ⟨hI, T, rfl, g⟩
    have h1 := g.keys.length_eq
    rw [List.length_map] at h1
    have h2 := cnt_filter (lf := lf) (T := T)
    have h3 := g.len
    have h4 : hI.Perm ((List.range 6).filter (fun i => hI.contains i)) := by
      rw [List.perm_ext_iff_of_nodup g.nodup (nodup_filter _ List.nodup_range)]
      intro i
      rw [List.mem_filter, List.mem_range, List.contains_iff_mem]
      exact ⟨fun h => ⟨union_lt hl ((g.held i).mp h), h⟩, fun h => h.2⟩
    have h5 := h4.length_eq
    have h6 := List.length_filter_le (fun i => hI.contains i) (List.range 6)
    rw [List.length_range] at h6
    rw [List.length_map]
    omega
  perm := by
    rintro ks ks' hs ts p ⟨hI, T, e, g⟩
    exact ⟨hI, T, e, g.greedy, (p.map _).symm.trans g.keys, fun k hk => g.fresh k (p.mem_iff.mpr hk), g.nodup, g.held, g.last, g.len, g.hist⟩
  start := by
    refine ⟨[], fun _ => false, rfl, ?_⟩
    have := gi_start (o := over os) (w := val ws) (N := 6) hl (by decide)
    rw [List.map_map]
    have e : lf.map ((fun (x : Int) => 8 * (-((anceOf nus os x.toNat).map (worthOf nus os ws)).sum) + x) ∘ fun (k : Nat) => (k : Int)) = lf.map (fun (x : Nat) => 8 * (-((chain (over os) x).map (val ws)).sum) + (x : Int)) := by
      refine List.map_congr_left fun x hx => ?_
      simp only [Function.comp, Int.toNat_natCast]
      rw [sum_names ho6 ho (chain_lt (hl x hx))]
    rw [e]
    exact this
  pop := by
    rintro k ks hs ts n ⟨hI, T, rfl, g⟩ hmin hkn hsum
    have hm := (gi_mem g List.mem_cons_self).1
    rw [hkn, Int.toNat_natCast] at hm
    have hn6 := hl n hm
    have hlt : ∀ i ∈ hI, i < 6 := fun i hi => union_lt hl ((g.held i).mp hi)
    rw [filt_sum ho6 ho hn6 hlt] at hsum ⊢
    have g2 := gi_pop hn hl hw g hmin hkn hsum
    refine ⟨⟨_, _, ?_, g2⟩, ?_⟩
    · rw [filt ho6 ho hn6 hlt, List.map_append]
    · rw [fresh_sum hl hn6 g.held]; exact worth_nonneg hw _
  rep := by
    rintro k ks hs ts n ⟨hI, T, rfl, g⟩ hkn hsum
    have hm := (gi_mem g List.mem_cons_self).1
    rw [hkn, Int.toNat_natCast] at hm
    have hn6 := hl n hm
    have hlt : ∀ i ∈ hI, i < 6 := fun i hi => union_lt hl ((g.held i).mp hi)
    rw [filt_sum ho6 ho hn6 hlt] at hsum ⊢
    obtain ⟨g2, h0, h1⟩ := gi_rep hl hw g (by decide) hkn hsum
    exact ⟨⟨hI, T, rfl, g2⟩, h0, h1⟩
end

theorem over_get {nus os : List Int} (hos : os = (List.range 6).map (fun (k : Nat) => nus.getD k 0 % ((k : Int) + 1) - 1)) {k : Nat} {x : Int} (h : os[k]? = some x) : -1 ≤ x ∧ x < k := by
  rw [hos, List.getElem?_map] at h
  have hk : k < 6 := by
    rcases Nat.lt_or_ge k 6 with h1 | h1
    · exact h1
    · rw [List.getElem?_eq_none (by rw [List.length_range]; exact h1)] at h; cases h
  rw [List.getElem?_range hk, Option.map_some, Option.some.injEq] at h
  have h1 := Int.emod_nonneg (nus.getD k 0) (b := (k : Int) + 1) (by omega)
  have h2 := Int.emod_lt_of_pos (nus.getD k 0) (b := (k : Int) + 1) (by omega)
  omega

theorem plain_law {nus os ws ls : List Int} (hn6 : nus.length = 6) (hos : os = (List.range 6).map (fun (k : Nat) => nus.getD k 0 % ((k : Int) + 1) - 1)) (hws : ws = nus.map (fun k => k / 10 % 10))
    (hls : ls = ((List.range 6).filter (fun (k : Nat) => !(os.any (· == (k : Int))))).map (fun (k : Nat) => (k : Int))) :
    ∃ (wf : PySem.Str → Int) (anc : Nat → List PySem.Str) (Gg : List Int → List PySem.Str → List Int → Prop), ((List.range 6).map (nameP nus os)).Nodup ∧ 0 < ls.length ∧ (∀ (i : Nat) (p : PySem.Str) (x : Int), ((List.range 6).map (nameP nus os))[i]? = some p → ws[i]? = some x → wf p = x) ∧
        (∀ (i : Nat) (x : Int), ls[i]? = some x → ∃ (n : Nat) (q : PySem.Str), x = (n : Int) ∧ n < 6 ∧ ((List.range 6).map (nameP nus os))[n]? = some q ∧ q.length ≤ 100 ∧ AncOf (Txt.rstripChars q (PySem.Str.ofString "/")) (anc n) ∧ (∀ p ∈ anc n, p ∈ ((List.range 6).map (nameP nus os))) ∧ (anc n).length ≤ 6) ∧
        GSpec ls anc wf Gg ∧ (∀ hs ts, Gg [] hs ts → hs.Perm ((List.range 6).map (nameP nus os)) ∧ ts = mostP os ws ls (2 ^ ls.length)) := by
  have ho6 : os.length = 6 := by rw [hos, List.length_map, List.length_range]
  have hw6 : ws.length = 6 := by rw [hws, List.length_map]; exact hn6
  have ho : ∀ j, j < 6 → -1 ≤ os.getD j 0 ∧ os.getD j 0 < j := fun j hj => by
    have h := List.getElem?_eq_getElem (l := os) (i := j) (by omega)
    rw [getD_at h]
    exact over_get hos h
  have hw : ∀ k, k < 6 → 0 ≤ ws.getD k 0 := fun k hk => by
    rw [hws, List.getD_eq_getElem?_getD, List.getElem?_map, List.getElem?_eq_getElem (by omega)]
    show 0 ≤ _ / 10 % 10
    exact Int.emod_nonneg _ (by decide)
  obtain ⟨lf, hlf⟩ : ∃ lf, lf = (List.range 6).filter (fun (k : Nat) => !(os.any (· == (k : Int)))) := ⟨_, rfl⟩
  rw [← hlf] at hls
  have hn : lf.Nodup := by rw [hlf]; exact nodup_filter _ List.nodup_range
  have hl : ∀ x ∈ lf, x < 6 := fun x hx => by rw [hlf] at hx; exact List.mem_range.mp (List.mem_filter.mp hx).1
  have hll : lf.length ≤ 6 := by rw [hlf]; exact Nat.le_trans (List.length_filter_le _ _) (by rw [List.length_range]; exact Nat.le_refl _)
  have hleaf := leaf_above ho ho6 hlf 6
  refine ⟨worthOf nus os ws, anceOf nus os, _, ?_, ?_, ?_, ?_, by rw [hls]; exact gspec ho6 ho hw hn hl hll, ?_⟩
  · rw [List.nodup_iff_pairwise_ne, List.pairwise_map]
    refine List.Pairwise.imp_of_mem ?_ (List.nodup_iff_pairwise_ne.mp (List.nodup_range (n := 6)))
    intro a b ha hb hne e
    exact hne (name_inj ho6 ho _ a b (Nat.le_refl _) (List.mem_range.mp ha) (List.mem_range.mp hb) e)
  · obtain ⟨x, hx, _⟩ := hleaf 0 (by omega) (by omega)
    rw [hls, List.length_map]
    exact List.length_pos_of_mem hx
  · intro i p x hp hx
    have hi : i < 6 := by
      rcases Nat.lt_or_ge i 6 with h | h
      · exact h
      · rw [List.getElem?_eq_none (by omega)] at hx; cases hx
    rw [List.getElem?_map, List.getElem?_range hi, Option.map_some, Option.some.injEq] at hp
    rw [← hp, worthOf_name ho6 ho hi, getD_at hx]
  · intro i x hx
    rw [hls, List.getElem?_map] at hx
    cases hy : lf[i]? with
    | none => rw [hy] at hx; cases hx
    | some n =>
      rw [hy, Option.map_some, Option.some.injEq] at hx
      have hn6 := hl n (List.mem_of_getElem? hy)
      refine ⟨n, nameP nus os n, hx.symm, hn6, by rw [List.getElem?_map, List.getElem?_range hn6]; rfl, Nat.le_trans (nameP_le _ _ (Nat.le_refl _)) (by omega), ?_, ?_, ?_⟩
      · rw [name_rstrip hn6]
        exact name_anc _ n (Nat.le_refl _) hn6 ho
      · intro p hp
        obtain ⟨j, hj, rfl⟩ := List.mem_map.mp hp
        exact List.mem_map.mpr ⟨j, List.mem_range.mpr (chain_lt hn6 j hj), rfl⟩
      · rw [List.length_map]
        have h4 : (chain (over os) n).Perm ((List.range 6).filter (fun i => (chain (over os) n).contains i)) := by
          rw [List.perm_ext_iff_of_nodup (chain_nodup _ _ (Nat.le_refl _)) (nodup_filter _ List.nodup_range)]
          intro i
          rw [List.mem_filter, List.mem_range, List.contains_iff_mem]
          exact ⟨fun h => ⟨chain_lt hn6 i h, h⟩, fun h => h.2⟩
        rw [h4.length_eq]
        exact Nat.le_trans (List.length_filter_le _ _) (by rw [List.length_range]; exact Nat.le_refl _)
  · rintro hs ts ⟨hI, T, rfl, g⟩
    have hT : ∀ x ∈ lf, T x = true := fun x hx => by
      cases h : T x with
      | true => rfl
      | false =>
        have hm : x ∈ lf.filter (fun x => !T x) := List.mem_filter.mpr ⟨hx, by rw [h]; rfl⟩
        have := g.keys.mem_iff.mpr hm
        simp at this
    refine ⟨List.Perm.map _ ?_, ?_⟩
    · rw [List.perm_ext_iff_of_nodup g.nodup List.nodup_range]
      intro k
      rw [g.held k, List.mem_range]
      refine ⟨fun h => union_lt hl h, fun hk => ?_⟩
      obtain ⟨x, hx, hc⟩ := hleaf k (by omega) hk
      exact union_iff.mpr ⟨x, hx, hT x hx, hc⟩
    · rw [hls]
      exact told_most hn hw g
end Mine
end

section
open PySem PySem.W PySem.Calls PyProof.Rows PySem.Spec PyProof
set_option maxRecDepth 100000
set_option maxHeartbeats 8000000
namespace Mine
theorem switch_W1 : True := by
  w_top off
  trivial
local macro_rules | `(tactic| k_room) => `(tactic| ktr_room)
local macro_rules | `(tactic| k_units) => `(tactic| ktr_units)
local macro_rules | `(tactic| walk_at "call ref") => `(tactic| (refine Mine.stop ?_))
local macro_rules | `(tactic| walk_at "exec Assign cons ListComp") => `(tactic| ((with_reducible show wpAny _ _ (exec (PySem.Stmt.Assign _ (PySem.Expr.ListComp (PySem.Expr.Name _ _) _ _ _) _) _) _ _ _); refine Mine.stop ?_))
local macro_rules | `(tactic| walk_at "compareOp NotIn int ref") => `(tactic| (refine Mine.stop ?_))
local macro_rules | `(tactic| walk_at "compareOp Eq ref ref") => `(tactic| (refine Mine.stop ?_))
local macro_rules | `(tactic| walk_at "call builtin:sorted") => `(tactic| (refine Mine.stop ?_))
theorem holds_1 : PySem.Challenge.rw_ij0079_01.Holds := by
  refine Mine.hd ?_
  k_fill
  intro w s₀ s₁ mg mb G Y fa o pm cd doc dV kV ho hd hcd hD hmg hg args vals as hpre hlay hrd hwl hlo
  have KX := kIn_of Y
  have X := (Ground.X G).1
  have V := (Ground.X G).2
  try w_nolog (first | (have GL := glob_more (Ground.glob G (by first | k_qdec | decide +kernel) (by first | k_qdec | decide +kernel)) V) | (have GL := glob_more (Ground.glob G (by decide +kernel)) V))
  refine Ground.open G ?_
  intro T B D TE TW
  try (refine guard_noD D (by decide +kernel) ?_; clear D)
  obtain ⟨_, _, M⟩ := bmod_of_top T
  have TA := at_of_top T
  try (obtain ⟨_, _, he, B0⟩ := based_of_top T rfl hmg ho hd; have he' : cd = _ := he; subst he'; clear he)
  clear hmg
  wrow_args hpre hlay hrd hwl hlo
  first | refine callC_kw (enter_call ?_) | refine enter_call ?_ | refine callC_kw (enter_callW ?_) | refine enter_callW ?_ | w_how
  w_top on
  have K0 := below_caller (Top.heap T)
  w_call any ho hd hcd hD T F
  clear hd TA
  k_drop
  rename_i gA gO cdA cdB xs hs0 hlay0 hLl hr1 hl2 la lb Sc vs lc hL ra w1 r0 hI hr hc1 hc2 h1 tk1 oA oB left right N0 X0
  replace F : Fr s₁.heap s₁.heap.objs.size h1 (fun y => if y = Str.ofString "script" then some (.ref Sc) else none) := F
  replace left : oA.data = .cell none := left
  replace right : oB.data = .cell none := right
  clear X0 hcd hD G Y ho X V GL B TE TW M K0 ra w1 r0 hr hs0 hlay0 hLl hr1 hl2
  all_goals try k_fold
  k_steps
  unfold Stop
  obtain ⟨LL, hLL⟩ : ∃ LL, LL = s₁.heap.objs.size := ⟨_, rfl⟩
  rw [← hLL] at F N0 ⊢
  have h63 : xs.length ≤ 63 := by omega
  with_unfolding_all refine numbers_spec (KX.keeps F.keep) (T.keeps F.keep) ?rm ?un (IsList.kept hL F.keep) hI h63 fun Nu h2 tk2 nv ne kp2 hNu gNu hnv => ?_
  case rm => decide
  case un => decide
  obtain ⟨nus, hnus⟩ : ∃ nus : List Int, nus = (xs.take 6).map (· % 1000000) ++ [50, 1031, 41, 62, 1080, 25].drop (xs.take 6).length := ⟨_, rfl⟩
  rw [← hnus] at hnv
  have hn6 : nus.length = 6 := by
    rw [hnus, List.length_append, List.length_map, List.length_drop, List.length_take]
    have : ([50, 1031, 41, 62, 1080, 25] : List Int).length = 6 := rfl
    omega
  have hnvK : IntsAre nv.toList nus ∧ True := ⟨hnv, trivial⟩
  have F2 := Fr.kept F kp2
  have N2 := News.cons F N0 kp2 gNu hNu
  have nNu : ∀ q ∈ [(LL + 1 + 1, oA), (LL + 1, oB)], q.1 ≠ Nu := news_ne N0 hNu
  have hA1 : LL + 1 + 1 ≠ Nu := nNu _ List.mem_cons_self
  have hA2 : LL + 1 ≠ Nu := nNu _ (List.mem_cons_of_mem _ List.mem_cons_self)
  clear F N0 kp2 hNu gNu
  k_steps
  unfold Stop
  rename Fr _ _ _ _ => F3
  rename News _ _ _ _ => N3
  rename_i hI8 hL8 Ov h3a tk3 oN h3 o3 d3
  obtain ⟨os, hos⟩ : ∃ os : List Int, os = (List.range 6).map (fun (k : Nat) => nus.getD k 0 % ((k : Int) + 1) - 1) := ⟨_, rfl⟩
  obtain ⟨oy, hoy⟩ : ∃ oy : List Value, oy = ys := ⟨_, rfl⟩
  rw [← hoy] at N3 hI8 hL8
  have hOI : IntsAre oy os := by
    have e : (rangeKs 0 (6 - 0 : Int).toNat) = [0, 1, 2, 3, 4, 5] := by rfl
    rw [e] at hI8
    rw [hos]
    have hm : ∀ (a b : Int), 0 < b → a.fmod b = a % b := fun a b hb => Int.fmod_eq_emod_of_nonneg _ (Int.le_of_lt hb)
    have e2 : (List.map (fun k' => (nus.getD k'.toNat 0).fmod (k' + 1) - 1) ([0, 1, 2, 3, 4, 5] : List Int)) = (List.range 6).map (fun (k : Nat) => nus.getD k 0 % ((k : Int) + 1) - 1) := by
      simp only [List.range_succ_eq_map, List.map_cons, List.map_nil]
      simp [hm]
    rw [← e2]; exact hI8
  have hOIk : IntsAre oy os ∧ True := ⟨hOI, trivial⟩
  have ho6 : os.length = 6 := by rw [hos, List.length_map, List.length_range]
  have hov : ∀ (k : Nat) (x : Int), os[k]? = some x → -1 ≤ x ∧ x < k := fun k x hk => over_get hos hk
  have nOv : Ov ≠ Nu := Ne.symm oN.1
  have hNuI := News.get N3 (show (Nu, listOf nv ne) ∈ _ by k_mem)
  have hOvI := News.get N3 (show (Ov, LCg.lst oy) ∈ _ by k_mem)
  with_unfolding_all refine names_spec (KX.keeps F3.keep) (T.keeps F3.keep) ?rm ?un (⟨_, hNuI, rfl, _, rfl⟩ : h3.IsList Nu nv.toList.toArray) hnvK.1 (⟨_, hOvI, rfl, _, rfl⟩ : h3.IsList Ov oy.toArray) hOI hn6 ho6 hov fun Nm h4 tk4 mv me kp4 hNm gNm hmv => ?_
  case rm => decide
  case un => decide
  have F4 := Fr.kept F3 kp4
  have N4 := News.cons F3 N3 kp4 gNm hNm
  have nNm := news_ne N3 hNm
  have hB1 : LL + 1 + 1 ≠ Nm := nNm (LL + 1 + 1, o3) (by k_mem)
  clear F3 N3 kp4
  k_steps
  unfold Stop
  rename Fr _ _ _ _ => F5
  rename News _ _ _ _ => N5
  rename_i hI9 hL9 Wo h5 tk5 o5
  obtain ⟨ws, hws⟩ : ∃ ws : List Int, ws = nus.map (fun k => k / 10 % 10) := ⟨_, rfl⟩
  have hWI : IntsAre ys ws := by
    have e : nus.map (fun k => k / 10 % 10) = nus.map (fun k' => (k'.fdiv 10).fmod 10) := List.map_congr_left fun k _ => by
      rw [Int.fdiv_eq_ediv_of_nonneg _ (by decide), Int.fmod_eq_emod_of_nonneg _ (by decide)]
    rw [hws, e]; exact hI9
  have hw6 : ws.length = 6 := by rw [hws, List.length_map]; exact hn6
  refine assign_listcomp (by rfl) (by rfl) (by decide) (by rfl) (by decide) (by rfl) (by rfl) (by rfl) ?_
  k_steps
  try clear F5
  try clear N5
  rename Fr _ _ _ _ => F6
  rename News _ _ _ _ => N6
  rename Heap => h6
  refine wpAny_pyIter_range (a := 0) (b := 6) (c := 1) (by assumption) (by rfl) ?_
  have F7 := F6.push { cls := .type "range_iterator", data := .fields #[rawInt 0, rawInt (Builtin.Range.rangeSize 0 6 1), rawInt 1] }
  have N7 := N6.push F6 { cls := .type "range_iterator", data := .fields #[rawInt 0, rawInt (Builtin.Range.rangeSize 0 6 1), rawInt 1] }
  refine ⟨h6.objs.size, _, _, (fun a b => b = a), (fun a b => b = a), (fun a b => b = a), 6, _, _, (fun k => !(os.any (· == (k : Int)))), (fun _ i _ y => ∃ u, y = .int (i : Int) u), _, rfl, (range6 rfl).toS, by decide, range_side (fun _ _ _ _ _ _ h => h), News.get N7 List.mem_cons_self, ?_, ?_, ?_, F7.ns, ?_⟩
  · intro b hb
    rw [List.mem_singleton.mp hb, Heap.size_push]; exact Nat.lt_succ_self _
  · constructor
    · intro C i v s₃ m₃ hC hP hn hm hmv9
      obtain ⟨hi6, ti, rfl⟩ := hP
      rw [Int.zero_add] at hm
      refine wpAny_tests_one (wpAny_with_toks (Nat.le_refl s₃.toks) ?_)
      have kp3 : Kept h6 s₃.heap := fun b o e => hmv9.heap b o (notin_size e) (Heap.get?_push_of_some _ e)
      have FC : Fr s₁.heap C s₃.heap m₃ := ⟨hn, fun b o e => kp3 b o (F6.keep b o e), Nat.le_trans F6.above (Nat.le_trans (Nat.le_of_lt F7.ns.lt) hC)⟩
      have NC : News s₁.heap C s₃.heap [(Ov, LCg.lst oy), (LL + 1 + 1, o3)] := fun q hq => by
        have hq' := N6 q (by
          simp only [List.mem_cons, List.not_mem_nil, or_false] at hq ⊢
          rcases hq with h | h <;> simp [h])
        exact ⟨kp3 _ _ hq'.1, Nat.ne_of_lt (Nat.lt_of_lt_of_le (Nat.lt_of_lt_of_le (Heap.lt_size hq'.1) (by rw [Heap.size_push]; exact Nat.le_succ _)) hC), hq'.2.2⟩
      have hOv3 : s₃.heap.IsList Ov oy.toArray := ⟨_, (NC _ List.mem_cons_self).1, rfl, _, rfl⟩
      clear F6 N6 F7 N7
      k_steps
      unfold Stop
      refine notin_list_ints hOv3 hOIk.1 ?_
      k_steps
      exact moved_refl _
    · intro C i v s₃ m₃ hC hP _ hn hm hmv9
      obtain ⟨hi6, ti, rfl⟩ := hP
      rw [Int.zero_add] at hm
      refine ldVarK (m := m₃) hn hm ?_ rfl rfl (by decide)
      exact ⟨moved_refl _, [], ⟨ti, rfl⟩, fun _ h => nomatch h⟩
  · exact fun hm => notin_size F6.ns.choose_spec.choose_spec.choose_spec.1 hm
  · intro D k s' ls9 news hD hlD hmv9 hns9 hout _
    have old9 : ∀ {b o}, h6.get? b = some o → b ≠ LL → s'.heap.get? b = some o := fun {b o} e hb => hmv9.heap b o (fun hm => by
      rcases List.mem_cons.mp hm with h | h
      · exact hb h
      · exact notin_size e h) (Heap.get?_push_of_some _ e)
    obtain ⟨ls, hls⟩ : ∃ ls : List Int, ls = ((List.range 6).filter (fun (k : Nat) => !(os.any (· == (k : Int))))).map (fun (k : Nat) => (k : Int)) := ⟨_, rfl⟩
    have hLI : IntsAre ls9 ls := by
      obtain ⟨hl9, hy9⟩ := hout
      rw [hls]
      refine ints_of (by rw [hl9, List.length_map]) fun j y hj => ?_
      have hlt : j < ((List.range 6).filter (fun (k : Nat) => !(os.any (· == (k : Int))))).length := by
        rw [← hl9]
        rcases Nat.lt_or_ge j ls9.length with h | h
        · exact h
        · rw [List.getElem?_eq_none h] at hj; cases hj
      obtain ⟨v, _, u, e⟩ := hy9 j _ y (List.getElem?_eq_getElem hlt) hj
      exact ⟨_, u, by rw [List.getElem?_map, List.getElem?_eq_getElem hlt]; rfl, e⟩
    have F8 : Fr s₁.heap LL s'.heap _ := ⟨hns9, fun b o e => old9 (F6.keep b o e) (Nat.ne_of_lt (by rw [hLL]; exact Heap.lt_size e)), F6.above⟩
    have N8 : News s₁.heap LL s'.heap _ := fun q hq => ⟨old9 (N6 q hq).1 (N6 q hq).2.1, (N6 q hq).2⟩
    have hDn := none_of_push hD
    have hDL : D ≠ LL := fun z => by
      obtain ⟨o, _, _, ho, _⟩ := F6.ns
      rw [z, ho] at hDn; cases hDn
    have hDb : s₁.heap.get? D = none := by
      cases r : s₁.heap.get? D with
      | none => rfl
      | some o => rw [F6.keep _ _ r] at hDn; cases hDn
    have hgz : s'.gens = s₁.gens := hmv9.gens
    have hdz := hmv9.drawn
    have hoz := hmv9.os
    have hWoI := (N8 (Wo, LCg.lst ys) (by k_mem)).1
    have hNmI := (N8 (Nm, listOf mv me) (by k_mem)).1
    have hOvJ := (N8 (Ov, LCg.lst oy) (by k_mem)).1
    have bOv := (N8 (Ov, LCg.lst oy) (by k_mem)).2.2
    have nOv9 := (N8 (Ov, LCg.lst oy) (by k_mem)).2.1
    have hC9 := (N8 (LL + 1 + 1, o3) (by k_mem)).1
    have nC9 := (N8 (LL + 1 + 1, o3) (by k_mem)).2.1
    have bC9 := (N8 (LL + 1 + 1, o3) (by k_mem)).2.2
    have bWo := (N8 (Wo, LCg.lst ys) (by k_mem)).2.2
    have bNm := (N8 (Nm, listOf mv me) (by k_mem)).2.2
    have nWo := (N8 (Wo, LCg.lst ys) (by k_mem)).2.1
    have nNm9 := (N8 (Nm, listOf mv me) (by k_mem)).2.1
    have hlv : ∀ x ∈ ls, 0 ≤ x ∧ x < 6 := fun x hx => by
      rw [hls] at hx
      obtain ⟨k, hk, rfl⟩ := List.mem_map.mp hx
      have := List.mem_range.mp (List.mem_filter.mp hk).1
      omega
    have hWIk : IntsAre ys ws ∧ True := ⟨by assumption, trivial⟩
    have hLIk : IntsAre ls9 ls ∧ True := ⟨hLI, trivial⟩
    clear F6 N6 F7 N7
    k_steps
    unfold Stop
    have hl6 : ls.length ≤ 6 := by rw [hls, List.length_map]; exact Nat.le_trans (List.length_filter_le _ _) (by rw [List.length_range]; decide)
    obtain ⟨wf, anc, Gg, hnd, hl0, hwf, hanc, hG, hfin⟩ := plain_law hn6 hos hws hls
    have FL0 := F8
    with_unfolding_all refine taken_spec (nms := mv) (wos := ys.toArray) (lvs := ls9.toArray) (G := Gg) KX T ?rm ?un F8 rfl rfl ⟨_, hNmI, rfl, _, rfl⟩ hmv ⟨_, hWoI, rfl, _, rfl⟩ (by rw [List.toList_toArray]; exact hWIk.1) ⟨_, hlD, rfl, _, rfl⟩ (by rw [List.toList_toArray]; exact hLIk.1) bNm bWo hDb (by rw [List.length_map, List.length_range]) hw6 hnd hwf hanc hl6 hl0 hG ?bare ?rt
    case rm => decide
    case un => decide
    case bare => rw [hgz, hg]; exact .of_eq rfl
    case rt =>
    intro r Sd Td s9 ov tv oe te ss hs ts F9 kp9 N9 hov9 hperm hsort htv hGe hbare hd9 ho9
    obtain ⟨hpn, hts⟩ := hfin hs ts hGe
    have N9b : News s₁.heap LL s9.heap [(r, { cls := .type "tuple", data := .seq #[.ref Sd, .ref Td] }), (Sd, listOf ov oe), (Td, listOf tv te), (D, listOf ls9.toArray k), (Wo, LCg.lst ys), (Nm, listOf mv me), (Ov, LCg.lst oy), (LL + 1 + 1, o3)] := fun q hq => by
      simp only [List.mem_cons, List.not_mem_nil, or_false] at hq
      rcases hq with h | h | h | h | h | h | h | h
      · exact N9 q (by simp [h])
      · exact N9 q (by simp [h])
      · exact N9 q (by simp [h])
      · rw [h]; exact ⟨kp9 _ _ hDL hlD, hDL, hDb⟩
      · rw [h]; exact ⟨kp9 _ _ nWo hWoI, nWo, bWo⟩
      · rw [h]; exact ⟨kp9 _ _ nNm9 hNmI, nNm9, bNm⟩
      · rw [h]; exact ⟨kp9 _ _ nOv9 hOvJ, nOv9, bOv⟩
      · rw [h]; exact ⟨kp9 _ _ nC9 hC9, nC9, bC9⟩
    clear N9
    obtain ⟨h9, g9, d9, tk9, os9⟩ := s9
    dsimp only at F9 N9b hbare hd9 ho9 kp9
    k_steps
    unfold Stop
    refine sorted_N_str F9 N9b (l := Nm) (vs := mv.toList) (ss := (List.range 6).map (nameP nus os)) ⟨_, (N9b (Nm, listOf mv me) (by k_mem)).1, rfl, _, by rw [Array.toArray_toList]⟩ (strsAre_lib hmv) (by rw [hmv.1, List.length_map, List.length_range]; decide) fun hT vsT ssT eT FT NT aT bT cT => ?_
    have ab9 := news_above (s := { s₁ with heap := h9 }) F9 N9b
    have hss : ss = ssT := sorted_unique hsort cT (hperm.trans (hpn.trans bT.symm))
    have nST : Sd ≠ h9.objs.size + 1 := Nat.ne_of_lt (Nat.lt_succ_of_lt (ab9 (Sd, listOf ov oe) (by k_mem)))
    clear F9 N9b
    k_steps
    unfold Stop
    rename Fr _ _ _ _ => FU
    rename News _ _ _ _ => NU
    with_unfolding_all refine most_spec (KX.keeps FU.keep) (T.keeps FU.keep) ?rm ?un (⟨_, News.get NU (show (Ov, LCg.lst oy) ∈ _ by k_mem), rfl, _, rfl⟩ : Heap.IsList _ Ov oy.toArray) hOIk.1 (⟨_, News.get NU (show (Wo, LCg.lst ys) ∈ _ by k_mem), rfl, _, rfl⟩ : Heap.IsList _ Wo ys.toArray) hWIk.1 (⟨_, News.get NU (show (D, listOf ls9.toArray k) ∈ _ by k_mem), rfl, _, rfl⟩ : Heap.IsList _ D ls9.toArray) hLIk.1 hw6 ho6 hov hl6 hlv fun Mo hM tkM Mv Me kpM hMn gM hMI => ?_
    case rm => decide
    case un => decide
    have FM := Fr.kept FU kpM
    have NM := News.cons FU NU kpM gM hMn
    have nMT : Td ≠ Mo := news_ne NU hMn (Td, listOf tv te) (by k_mem)
    clear FU NU kpM
    k_steps
    unfold Stop
    rename Fr _ _ _ _ => FZ
    rename News _ _ _ _ => NZ
    refine eq_pair (ss := ss) (xs := ts) (News.get NZ (show (r, ({ cls := .type "tuple", data := .seq #[.ref Sd, .ref Td] } : Obj)) ∈ _ by k_mem)) (NZ _ List.mem_cons_self).1 ⟨_, News.get NZ (show (Sd, listOf ov oe) ∈ _ by k_mem), rfl, _, rfl⟩ ⟨_, (NZ _ (List.mem_cons_of_mem _ (List.mem_cons_of_mem _ List.mem_cons_self))).1, rfl, _, rfl⟩ ⟨_, News.get NZ (show (Td, listOf tv te) ∈ _ by k_mem), rfl, _, rfl⟩ ⟨_, News.get NZ (show (Mo, listOf Mv Me) ∈ _ by k_mem), rfl, _, rfl⟩ nST nMT hov9 (by rw [List.toList_toArray, hss]; exact aT) htv (by rw [hts]; exact hMI) (show (4 + 3) + 10 < cLine by decide) ?_
    refine ⟨.inl ⟨_, .bool true, [], rfl, ?noraise, .bool true, ?post, fun _ => ⟨.nil, fun _ h => nomatch h⟩⟩, .of_keep FZ.keep, ?oss, hbare⟩
    case noraise => intro _; rfl
    case post => with_unfolding_all rfl
    case oss => show os9 = s₁.os; rw [ho9]; exact hoz
end Mine
end

theorem PySem.Challenge.cw_ij0079_01_holds : PySem.Challenge.rw_ij0079_01.Holds := by
  exact Mine.holds_1
