/- 'laws.FnRules' returns true, and leaves its arguments as they were, for every list of parts and every style whose bulk is at most the given row's: the card of the given row. Conditions: those of the row alone (the bound on the bulk; the listed variables as the program's text lays them). -/
import Derived.Test.YtlglijnaeaonpaaGreatDoorCards
import Derived.Test.YtlglijnaeaonpaaGreatDoorTie
import Derived.WalkKit
import Derived.ProofKit
import Derived.OpenShut
import Derived.Deep.DeepHandedRow
import Derived.Deep.DeepWitnessRowRef
import Derived.SizedLaws
import Derived.Lib.LaidTab
import Derived.Test.YtlglijnaeaonpaaGreatDoorNw
import Derived.Test.YtlglijnaeaonpaaGreatDoorNai
set_option linter.all false
/- 'laws.FnRules' returns true, and leaves its arguments as they were, for every list of parts and every style whose bulk is at most the given row's: the card of the given row. Conditions: those of the row alone (the bound on the bulk; the listed variables as the program's text lays them). -/
namespace Go.Proofs.YtlglijnaeaonpaaGreatDoor.Css
open Go.ChangeShapes Go.WideShapes Go.ChangeAt Go.RowKit Go.Deep Go.Lib

theorem read22 : Tryz.prog.readableRec 22 = true := by kernel_rfl
theorem lt22 : 22 < Tryz.prog.types.size := of_decide_eq_true (by kernel_rfl)
theorem varsQ : varsRowed Tryz.prog Rows.fnRulesSpec.vars = true := by kernel_rfl

set_option maxRecDepth 100000 in
/-- WHAT THE WALK GIVES, FOR EVERY ARGUMENT OF THE BULK AND EVERY WORLD THAT HOLDS THE LISTED VARIABLES. -/
theorem rules_contract (H : Type) (enc : TypeId × Value → H) (W : World) (base : Nat) (args : Array Value) (ds gs : List (DataW H)) (before : List MemPlace)
    (hval : ∀ (j : Nat) t v, Tryz.f3.params[j]? = some t → args[j]? = some v → Value.okWide Tryz.prog W .any base t v)
    (hW : DataW.Whole enc Tryz.prog Tryz.f3.params.toList Rows.fnRulesSpec.vars false W args.toList ds gs before)
    (hz : (DataW.weightsEach Tryz.prog (Tryz.f3.params.toList ++ (Rows.OpenSpec.upto Rows.fnRulesSpec).bare.plain.varTypes Tryz.prog) (ds ++ gs)).all (· ≤ reachBytes) = true)
    (hk : Rows.uptoSmall H (ds ++ gs) = true)
    (hL : laidMetH Tryz.prog Rows.fnStyleRow.laid W) :
    Calls Tryz.prog 3 args W fun e W' => ∃ v, e = .returned v ∧ Rows.fnRulesSpec.post enc Tryz.prog Tryz.f3 false true false false W args v W' := by
  have hW' := hW
  obtain ⟨p, q, hA0, hV, rfl, hfz, hnd⟩ := hW
  have hA : DataW.TrodAll enc Tryz.prog W 0 (fun _ => true) true Tryz.f3.params.toList args.toList ds p := hA0
  rw [Tryz.params3] at hA hval hz
  obtain ⟨v0, vs0, d0, ds0, p0, q0, hargs, rfl, rfl, h0, r0⟩ := trodAll_cons hA
  obtain ⟨v1, vs1, d1, ds1, p1, q1, rfl, rfl, rfl, h1, r1⟩ := trodAll_cons r0
  obtain ⟨rfl, rfl, rfl⟩ := trodAll_nil r1
  obtain rfl : args = #[v0, v1] := by cases args; simp_all
  obtain ⟨g1, rfl⟩ : ∃ g1, gs = [g1] := by
    match gs, hV with
    | [g1], _ => exact ⟨g1, rfl⟩
    | [], h => exact h.elim
    | _ :: _ :: _, h => obtain ⟨_, _, _, _, _, _, _, _, _, _, h, _⟩ := h; exact h.elim
  obtain ⟨a0, len, cap, rfl⟩ := okWide_slice Tryz.underlying22 (hval 0 22 v0 rfl rfl)
  obtain ⟨n, rfl, rfl, rfl, wn⟩ := open_int Tryz.underlying3 (hval 1 3 v1 rfl rfl) h1
  obtain ⟨fuel, hf⟩ := h0
  have hwt : Wt 22 d0 := fun m hm => by
    have := List.all_eq_true.1 hz _ (DataW.weights_mem_each (j := 0) (t := 22) (d := d0) rfl rfl m hm)
    exact (of_decide_eq_true this : m ≤ reachBytes)
  have hbk : Rows.uptoBulk d0 ≤ 1048576 := by
    have h := of_decide_eq_true hk
    have h2 := bulk_mem (H := H) (ds := [d0, .lit (.int .i64 n)] ++ [g1]) (d := d0) (by simp)
    exact Nat.le_trans h2 h
  obtain ⟨ps, hM⟩ := parts_of 1048576 (by omega) hf hwt hbk
  obtain ⟨eof, hio⟩ := eof_is hL
  refine (rulesFn_any W _ ps n eof hM (u_tab hL) (hash_tab hL) hio).mono fun e W' ⟨he, hb⟩ => ?_
  subst he
  have hltA := DataW.TrodAll.lt hA0
  have k0 : DataW.Trod enc Tryz.prog W' 0 (fun b => decide (b < W.heap.size)) true 22 (.slice a0 len cap) d0 p0 :=
    Below.trod laidOut read22 lt22 ⟨fuel, hf⟩ hb (fun x hx => hltA x (by simp [hx]))
  have kV := Below.trodVars laidOut hb varsQ hV
  refine ⟨_, rfl, _, _, _, [], p0 ++ ([] ++ []), q, hW', ?_, ?_, ?_, hb.frame _, fun h => by cases h⟩
  · exact trodAll_cons_mk (shut_bool Tryz.underlying4 _) trodAll_mk0
  · rw [Tryz.params3]
    exact trodAll_cons_mk k0 (trodAll_cons_mk (shut_int Tryz.underlying3 wn) trodAll_mk0)
  · exact kV

theorem rules_reads (os : Os) {H : Type} (enc : TypeId × Value → H) : ∃ places, DataW.whole enc Tryz.prog ((laidWorld os).forCall (fun _ _ => 0) ⟨#[], #[.slice none 0 0, .int .i64 0], []⟩).memory Tryz.f3.params.toList Rows.fnRulesSpec.vars false #[Value.slice none 0 0, Value.int .i64 0].toList 8 =
    some ([.nil, .lit (.int .i64 0)], [Rows.laid_loop_example_pub_g01476_pub_tdcss_Hash_table], places) := by
  have hw : (DataW.whole enc Tryz.prog ((laidWorld os).forCall (fun _ _ => 0) ⟨#[], #[.slice none 0 0, .int .i64 0], []⟩).memory Tryz.f3.params.toList Rows.fnRulesSpec.vars false #[Value.slice none 0 0, Value.int .i64 0].toList 8).map (fun x => (x.1, x.2.1)) =
      some ([.nil, .lit (.int .i64 0)], [Rows.laid_loop_example_pub_g01476_pub_tdcss_Hash_table]) := by kernel_rfl
  obtain ⟨⟨x1, x2, x3⟩, hx, hx1⟩ := Option.map_eq_some_iff.1 hw
  simp only [Prod.mk.injEq] at hx1
  obtain ⟨rfl, rfl⟩ := hx1
  exact ⟨x3, hx⟩

set_option maxRecDepth 100000 in
theorem rules_lifted (os : Os) (started : os.Started) (H : Type) (enc : TypeId × Value → H) (F : Stop.Interp) :
    ReturnsInHanded {} Tryz.checked os 3 .any ((Rows.OpenSpec.upto Rows.fnRulesSpec).preRow enc Tryz.prog Tryz.f3 Rows.fnRulesUptoRow.domain false Rows.fnRulesUptoRow.laid) (((Rows.OpenSpec.upto Rows.fnRulesSpec).at F).post enc Tryz.prog Tryz.f3 false true false false) := by
  obtain ⟨places, hx⟩ := rules_reads os enc
  refine returnsInHanded_of_row (C := Tryz.checked) (s := Rows.OpenSpec.upto Rows.fnRulesSpec) own started (by kernel_rfl) Tryz.func3
    (witness_row_atRef (enc := enc) (C := Tryz.checked) false (laidWorld os) #[.slice none 0 0, .int .i64 0] rfl (by kernel_rfl) (by kernel_rfl) (by kernel_rfl)
      (OpenSpec.preRow_of_cond 8 hx (by kernel_rfl) (fun k hk => by cases hk; kernel_rfl) (by kernel_rfl) (laid_met os _))) ?_
  intro W base args ds gs before hval hW hX1 hcond hz hL hX2 hX3
  exact rules_contract H enc W base args ds gs before hval hW hz (hcond _ rfl) hL

theorem rules_said : Rows.FnRulesUptoSaid :=
  OpenClaim.holds_of_cond 3 Tryz.f3 rfl rfl rfl rfl rfl rfl rfl ⟨rfl, rfl, rfl, rfl, rfl⟩ rfl rfl rfl rfl rfl (by kernel_rfl) Tryz.func3 (by kernel_rfl)
    (of_decide_eq_true (by kernel_rfl)) (by unfold Func.isWrapper; first | (rw [if_pos (by decide +kernel)]; kernel_rfl) | (rw [if_neg (by decide +kernel)]; exact ⟨rfl, rfl⟩))
    (fun os started H enc _ F => by rw [OpenClaim.pre_eq_preRow]; exact rules_lifted os started H enc F)

/-- No parameter wants a stand-in; the program's own looks are off: what the card asks. -/
theorem rules_plain_card (f : FuncId) (fn : Func) (hf : Tryz.pinned.checked.prog.funcNamed "loop.example/pub-g01476/laws.FnRules" = some f) (hfn : Tryz.pinned.checked.prog.funcs[f]? = some fn) :
    true = Tryz.pinned.checked.prog.looks [] ∧ ∀ (j : Nat) t, fn.params[j]? = some t → Tryz.pinned.checked.prog.wantsStandIn t = false := by
  obtain rfl : f = 3 := Option.some.inj ((show Tryz.prog.funcNamed "loop.example/pub-g01476/laws.FnRules" = some 3 by kernel_rfl).symm.trans hf) |>.symm
  obtain rfl : fn = Tryz.f3 := (Option.some.inj (Tryz.func3.symm.trans hfn)).symm
  refine ⟨by kernel_rfl, fun j t ht => ?_⟩
  rw [Tryz.params3] at ht
  have hm : t = 22 ∨ t = 3 := by simpa using Array.mem_of_getElem? ht
  rcases hm with rfl | rfl
  · exact (show Tryz.prog.wantsStandIn 22 = false by kernel_rfl)
  · exact (show Tryz.prog.wantsStandIn 3 = false by kernel_rfl)

/-- THE CARD. -/
theorem rules_card : Rows.FnRulesUptoCardSaid :=
  Claim7.holds_tied_plain_at .later [] _ _ _ _ rules_said (fun _ h => by cases h) (by kernel_rfl) (fun _ h => by cases h) fnRulesUpto_row_tie rfl ⟨rfl, rfl⟩ (by kernel_rfl) rfl rules_plain_card (by kernel_rfl)
end Go.Proofs.YtlglijnaeaonpaaGreatDoor.Css
namespace Go.Proofs.YtlglijnaeaonpaaGreatDoor
theorem FnRulesUpto_holds : Rows.FnRulesUptoCardSaid := Css.rules_card
end Go.Proofs.YtlglijnaeaonpaaGreatDoor
