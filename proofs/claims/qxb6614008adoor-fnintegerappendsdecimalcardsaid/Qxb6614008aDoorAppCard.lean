/-
  FnIntegerAppendsDecimal: the row, and the tied card.
-/
import Derived.Test.Qxb6614008aDoorApp
import Derived.Test.Qxb6614008aDoorLaid
import Derived.Test.Qxb6614008aDoorTie
import Derived.Test.Qxb6614008aDoorCards
import Derived.OpenShut
import Derived.SevenTiedAt
namespace Go.Proofs.Qxb6614008aDoor
open Go.ChangeShapes Go.WideShapes Go.ChangeAt Go.RowKit

theorem laidOut : laidOutB Tryd.prog = true := by kernel_rfl
theorem c5 : Tryd.prog.cellsOf 5 = 1 := by kernel_rfl

/-- The law at whatever slice of bytes that reads as data. -/
theorem app_any (v0 : Value) (n : Int) (hn0 : -9223372036854775808 ≤ n) (hn1 : n ≤ 9223372036854775807) (W : World) {H : Type} {enc : TypeId × Value → H} {d0 : DataW H} {p0 : List MemPlace}
    (hv : ∃ a len cap, v0 = .slice a len cap) (h0 : DataW.Trod enc Tryd.prog W 0 (fun _ => true) true 22 v0 d0 p0) (htab : Lib.TabIs Tryd.prog W Tryd.powName .u64 Lib.pow10Tab) :
    Calls Tryd.prog 3 #[v0, .int .i64 n] W fun e w' => e = .returned (.bool true) ∧ Below W.heap.size W w' := by
  obtain ⟨a0, len0, cap0, rfl⟩ := hv
  obtain ⟨fuel, hf⟩ := h0
  rcases open_ints Tryd.underlying22 Tryd.underlying5 c5 hf with ⟨hcs, -⟩ | ⟨a, len, cap, zs, hcs, -, hl, hm, hz, -, hcell, -⟩
  · simp [Value.cells] at hcs
    obtain ⟨rfl, rfl, rfl⟩ := hcs
    exact app_nil n hn0 hn1 W htab
  · simp [Value.cells] at hcs
    obtain ⟨rfl, rfl, rfl⟩ := hcs
    unfold maxLen at hm
    simp only [if_true] at hz
    by_cases hbig : 1048576 < len0
    · exact app_big (some a) len0 cap0 n hbig (by omega) W
    · by_cases hpos : 0 < zs.length
      · obtain ⟨b, off, rfl, hc⟩ := ints_at hcell hpos
        exact app_some ⟨b, off, none⟩ b off len0 cap0 (fun k => zs.getD k 0) n hn0 hn1 W (by omega) (fun _ => rfl) (fun k hk => hc k (by omega)) htab
      · exact app_some a 0 0 len0 cap0 (fun _ => 0) n hn0 hn1 W (by omega) (fun h => by omega) (fun k hk => by omega) htab

set_option maxRecDepth 100000 in
theorem app_lifted (os : Os) (started : os.Started) (H : Type) (enc : TypeId × Value → H) :
    ReturnsInHanded {} Tryd.checked os 3 .any (fun w args => (Rows.fnIntegerAppendsDecimalSpec.pre enc Tryd.prog Tryd.f3 [] false w args ∧ laidMetH Tryd.prog laid3 w) ∧ sizedMet enc Tryd.prog Tryd.f3 (OpenSpec.ofChange Rows.fnIntegerAppendsDecimalSpec) false w args)
      (Rows.fnIntegerAppendsDecimalSpec.post enc Tryd.prog Tryd.f3 false true false false) := by
  refine returnsInHanded_of_change_and (C := Tryd.checked) (X := fun w _ => laidMetH Tryd.prog laid3 w) (fun _ _ _ hh h => h.of_heap hh) own started (by kernel_rfl) Tryd.func3
    (ChangeSpec.witness_shaped (enc := enc) (C := Tryd.checked) (os := os) (X := fun w _ => laidMetH Tryd.prog laid3 w) false (World.doorLaid Tryd.prog 400 os) #[.slice none 0 0, .int .i64 0] 8 rfl (World.shaped_of_RefB (by kernel_rfl) (by kernel_rfl)) (by kernel_rfl) (by kernel_rfl) (by kernel_rfl) (door_met os _)) ?_
  intro W base args ds gs before hval0 hW _ _ hL _
  have hval : ∀ (j : Nat) t v, Tryd.f3.params[j]? = some t → args[j]? = some v → Value.okWide Tryd.prog W .any base t v := hval0
  have hW' := hW
  obtain ⟨p, q, hA0, hV, rfl, hfz, hnd⟩ := hW
  have hA : DataW.TrodAll enc Tryd.prog W 0 (fun _ => true) true Tryd.f3.params.toList args.toList ds p := hA0
  rw [Tryd.params3] at hA hval
  obtain ⟨v0, v1, d0, d1, p0, p1, rfl, rfl, rfl, h0, h1⟩ := trodAll_two hA
  obtain ⟨rfl, rfl⟩ := trodVars_none hV
  obtain ⟨n, rfl, rfl, rfl, wn⟩ := open_int Tryd.underlying2 (hval 1 2 v1 rfl rfl) h1
  have hv := okWide_slice Tryd.underlying22 (hval 0 22 v0 rfl rfl)
  clear hA0 hval0
  simp only [List.append_nil] at hW'
  have hlt : ∀ x ∈ p0, x.block < W.heap.size := fun x hx => hW'.lt x hx
  have bn : -9223372036854775808 ≤ n ∧ n ≤ 9223372036854775807 := by
    have e1 : IntKind.i64.min = -9223372036854775808 := rfl
    have e2 : IntKind.i64.max = 9223372036854775807 := rfl
    simpa [Lit.wf, e1, e2] using wn
  refine (app_any v0 n bn.1 bn.2 W hv h0 (tab_of_laid hL)).mono fun e W' ⟨he, hnx⟩ => ?_
  subst he
  refine ⟨_, rfl, _, _, _, [], p0 ++ [], [], hW', ?_, ?_, rfl, hnx.frame _, fun h => by cases h⟩
  · exact trodAll_mk1 (shut_bool Tryd.underlying4 _)
  · exact trodAll_mk2 (Below.trod laidOut (by kernel_rfl) (of_decide_eq_true (by kernel_rfl)) h0 hnx hlt) (shut_int Tryd.underlying2 wn)

theorem app_holds : Rows.FnIntegerAppendsDecimalSaid :=
  OpenClaim.holds_of_wide 3 Tryd.f3 rfl rfl rfl rfl rfl rfl rfl ⟨rfl, rfl, rfl, rfl, rfl⟩ rfl rfl rfl rfl rfl (by kernel_rfl) Tryd.func3 (by kernel_rfl)
    (of_decide_eq_true (by kernel_rfl)) (by unfold Func.isWrapper; rw [if_neg (of_decide_eq_false (by kernel_rfl))]; exact ⟨rfl, rfl⟩)
    (fun os started H enc _ => app_lifted os started H enc)

theorem app_card : Rows.FnIntegerAppendsDecimalCardSaid :=
  Claim7.holds_tied_plain_at .later [] [.data, .data, .data] true (true, "600bc02b540f71c2bd7e0a17aab6405793d75e45ba49ca265b734a6a217fec84") false
    app_holds (fun _ h => by cases h) (by kernel_rfl) (fun _ h => by cases h) fnIntegerAppendsDecimal_row_tie rfl ⟨rfl, rfl⟩ (by kernel_rfl) rfl
    (fun f fn hf hfn => by
      obtain rfl : f = 3 := Option.some.inj ((show Tryd.prog.funcNamed Rows.fnIntegerAppendsDecimalRow.func = some 3 by kernel_rfl).symm.trans hf) |>.symm
      obtain rfl : fn = Tryd.f3 := (Option.some.inj (Tryd.func3.symm.trans hfn)).symm
      exact ⟨by kernel_rfl, fun j t ht => by
        rw [Tryd.params3] at ht
        have hm : t ∈ [22, 2] := by simpa using Array.mem_of_getElem? ht
        have hall : ([22, 2].all fun u => !Tryd.prog.wantsStandIn u) = true := by kernel_rfl
        exact (show Tryd.prog.wantsStandIn t = false by simpa using List.all_eq_true.1 hall t hm)⟩)
    (by kernel_rfl)

end Go.Proofs.Qxb6614008aDoor
