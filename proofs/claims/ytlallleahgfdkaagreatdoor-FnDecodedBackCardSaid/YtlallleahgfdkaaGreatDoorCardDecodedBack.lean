/- The card of laws.FnDecodedBack: for every input the call returns true and each argument reads behind it as before; the listed package-level variables read as the program's text lays them (the tie is given). -/
import Derived.Test.YtlallleahgfdkaaGreatDoorCards
import Derived.Test.YtlallleahgfdkaaGreatDoorTie
import Derived.Test.YtlallleahgfdkaaGreatDoorLawDecodedBack
import Derived.Test.YtlallleahgfdkaaGreatDoorLaid
import Derived.ProofKit
import Derived.OpenShut
import Derived.ShutString
import Derived.LaidMore
import Derived.Lay
import Derived.SevenTiedAt
import Derived.Stop.Joined
import Derived.Below
namespace Go.Proofs.YtlallleahgfdkaaGreatDoor.fnDecodedBackDone
open Go.ChangeShapes Go.WideShapes Go.ChangeAt Go.RowKit
open Go.ChangeMaps (open_string shut_string)

theorem own : ownKnob Tryz.prog.godebug = none := by kernel_rfl

set_option maxRecDepth 100000 in
theorem lifted (os : Os) (started : os.Started) (H : Type) (enc : TypeId × Value → H) :
    ReturnsInHanded {} Tryz.checked os 16 .any (fun w args => (Rows.fnDecodedBackSpec.pre enc Tryz.prog Tryz.f16 Rows.fnDecodedBackRow.domain false w args ∧ laidMetH Tryz.prog Rows.fnDecodedBackRow.laid w) ∧ sizedMet enc Tryz.prog Tryz.f16 (OpenSpec.ofChange Rows.fnDecodedBackSpec) false w args)
      (Rows.fnDecodedBackSpec.post enc Tryz.prog Tryz.f16 false true false false) := by
  refine returnsInHanded_of_change_and (C := Tryz.checked) (X := fun w _ => laidMetH Tryz.prog Rows.fnDecodedBackRow.laid w) (fun _ _ _ hh h => h.of_heap hh) own started (by kernel_rfl) Tryz.func16
    (ChangeSpec.witness_shaped (enc := enc) (C := Tryz.checked) (os := os) (X := fun w _ => laidMetH Tryz.prog Rows.fnDecodedBackRow.laid w) false (World.laidAll Tryz.prog os Rows.fnDecodedBackRow.laid) #[.string ⟨#[]⟩] 8 (World.laidAll_os _ _ _)
      (World.shaped_of_ZipB (by kernel_rfl) (by kernel_rfl)) (by kernel_rfl) (by kernel_rfl) (by kernel_rfl)
      (by rw [MakeChecks.laidMetH_plain _ _ _ (by kernel_rfl)]; exact laidMet_laidAll _ (by kernel_rfl) (by kernel_rfl))) ?_
  intro W base args ds gs before hval0 hW _hc _ hL _
  have hval : ∀ (j : Nat) t v, Tryz.f16.params[j]? = some t → args[j]? = some v → Value.okWide Tryz.prog W .any base t v := hval0
  have hW' := hW
  obtain ⟨p, q, hA0, hV, rfl, _, _⟩ := hW
  have hA : DataW.TrodAll enc Tryz.prog W 0 (fun _ => true) true Tryz.f16.params.toList args.toList ds p := hA0
  rw [Tryz.params16] at hA hval
  obtain ⟨v0, vs0, d0, ds0, p0, q0, hargs, rfl, rfl, h0, r0⟩ := trodAll_cons hA
  obtain ⟨rfl, rfl, rfl⟩ := trodAll_nil r0
  obtain rfl : args = #[v0] := by cases args; simp_all
  obtain ⟨rfl, rfl⟩ := trodVars_none hV
  obtain ⟨s0, rfl, rfl, rfl, w0⟩ := open_string Tryz.underlying9 (hval 0 9 v0 rfl rfl) h0
  clear hA0 hval0
  obtain ⟨h00, u0, y0, hE⟩ := err_decodedBack hL
  refine (fnDecodedBack_any s0 W h00 u0 y0 hE).mono fun e W' ⟨he, bel⟩ => ?_
  subst he
  exact ⟨_, rfl, _, _, _, [], _, [], hW', trodAll_mk1 (shut_bool Tryz.underlying4 _), (trodAll_cons_mk (shut_string Tryz.underlying9 w0) trodAll_mk0), rfl, bel.frame _, fun h => by cases h⟩

theorem and_mk {a b : Bool} (ha : a = true) (hb : b = true) : (a && b) = true := by rw [ha, hb]; rfl
set_option maxRecDepth 100000 in
set_option maxHeartbeats 8000000 in
/-- The row's closed facts, each a lemma of its own. -/
theorem closed : joinedFacts Tryz.pinned.checked.prog 16 Tryz.f16 Rows.fnDecodedBackSpec Rows.fnDecodedBackRow = true := by
  unfold joinedFacts
  repeat' (with_reducible refine and_mk ?_ ?_)
  all_goals (as_aux_lemma => kernel_rfl)

set_option maxRecDepth 100000 in
set_option maxHeartbeats 4000000 in
theorem said : Rows.FnDecodedBackSaid :=
  OpenClaim.holds_of_wide 16 Tryz.f16 rfl rfl rfl rfl rfl rfl rfl ⟨rfl, rfl, rfl, rfl, rfl⟩ rfl rfl rfl rfl rfl (by as_aux_lemma => kernel_rfl) Tryz.func16 closed
    (of_decide_eq_true (by as_aux_lemma => kernel_rfl)) (by unfold Func.isWrapper; first | (rw [if_pos (by decide +kernel)]; kernel_rfl) | (rw [if_neg (by decide +kernel)]; exact ⟨rfl, rfl⟩))
    (fun os started H enc _ => lifted os started H enc)

theorem plain (f : FuncId) (fn : Func) (hf : Tryz.pinned.checked.prog.funcNamed "pub-regostrings/laws.FnDecodedBack" = some f) (hfn : Tryz.pinned.checked.prog.funcs[f]? = some fn) :
    true = Tryz.pinned.checked.prog.looks [] ∧ ∀ (j : Nat) t, fn.params[j]? = some t → Tryz.pinned.checked.prog.wantsStandIn t = false := by
  obtain rfl : f = 16 := Option.some.inj ((show Tryz.prog.funcNamed "pub-regostrings/laws.FnDecodedBack" = some 16 by kernel_rfl).symm.trans hf) |>.symm
  obtain rfl : fn = Tryz.f16 := (Option.some.inj (Tryz.func16.symm.trans hfn)).symm
  refine ⟨by kernel_rfl, fun j t ht => ?_⟩
  rw [Tryz.params16] at ht
  have hm : t ∈ [9] := by simpa using Array.mem_of_getElem? ht
  have hall : ([9].all fun u => !Tryz.prog.wantsStandIn u) = true := by kernel_rfl
  exact (show Tryz.prog.wantsStandIn t = false by simpa using List.all_eq_true.1 hall t hm)

set_option maxRecDepth 100000 in
set_option maxHeartbeats 8000000 in
/-- THE CARD. -/
theorem card : Rows.FnDecodedBackCardSaid :=
  Claim7.holds_tied_plain_at .later [] _ _ _ _ said (fun _ h => by cases h) (by as_aux_lemma => kernel_rfl) (fun _ h => by cases h) fnDecodedBack_row_tie rfl ⟨rfl, rfl⟩ (by as_aux_lemma => kernel_rfl) rfl plain (by as_aux_lemma => kernel_rfl)
end Go.Proofs.YtlallleahgfdkaaGreatDoor.fnDecodedBackDone
