/-
  The row of FnSizes and its tied card: for every number of 64 bits the law returns true, its argument and the listed variable read as before.
  CONDITIONS: those of the given row: the listed variable errUnexpectedSize reads as laid when the call begins; the given tie ties that to the text of the (pruned) program.
-/
import Derived.Test.YtpdpjpcfioabpaaDoorSizes
import Derived.Test.YtpdpjpcfioabpaaDoorCards
import Derived.Test.YtpdpjpcfioabpaaDoorTie
import Derived.LaidMore
import Derived.MakeChecks
import Derived.OpenVars
import Derived.Stop.Joined
import Derived.SevenTiedAt
namespace Go.Proofs.YtpdpjpcfioabpaaDoor.fnSizes
open Go.ChangeShapes Go.WideShapes Go.ChangeAt Go.RowKit

theorem own : ownKnob Tryd.prog.godebug = none := by kernel_rfl
theorem gVar : Tryd.prog.globalNamed "loop.example/pub-g03468/pub/sio.errUnexpectedSize" = some 0 := by kernel_rfl
theorem tVar : (Tryd.prog.globals[0]?).map (·.type) = some 31 := by kernel_rfl
theorem cells9 : Tryd.prog.cellsOf 9 = 1 := by kernel_rfl
theorem cells31 : Tryd.prog.cellsOf 31 = 1 := by kernel_rfl

/-- The door's own heap meets the condition. -/
theorem door_met (os : Os) (args : Array Value) : laidMetH Tryd.prog Rows.fnSizesRow.laid ((World.doorLaid Tryd.prog 400 os).forCall (fun _ _ => 0) ⟨#[], args, []⟩).memory :=
  laidMetH_of_parts3 (fuel := 8) (laidMet_of_run' 8 (by kernel_rfl) (by kernel_rfl)) (by kernel_rfl) (by kernel_rfl)

/-- What the condition gives the walks: the variable's cell is a string. -/
theorem of_laid {W : World} (h : laidMetH Tryd.prog Rows.fnSizesRow.laid W) : ∃ s, W.cell? ⟨0, 0, none⟩ = some (.string s) := by
  rw [MakeChecks.laidMetH_plain _ _ _ (by kernel_rfl)] at h
  obtain ⟨ps, ⟨g0, t0, cs0, f0, p0, q0, hg0, ht0, hv0, hd0, _⟩, _, _⟩ := h
  obtain rfl := Option.some.inj (gVar.symm.trans hg0)
  obtain rfl := Option.some.inj (tVar.symm.trans ht0)
  obtain ⟨y0, n, hx, hl, hy⟩ := trod_struct1 Tryd.underlying31 hd0
  rw [cells31] at hl
  obtain ⟨l⟩ := cs0
  match l, hl with
  | [c], _ =>
    have hy' : DataW.trod (fun _ => ()) Tryd.prog W 0 (fun _ => true) false n 9 [c] = some y0 := by
      have := hy
      dsimp only at this
      rw [cells9] at this
      exact this
    obtain ⟨s, e, _, _⟩ := DataW.trod_string Tryd.underlying9 hy'
    obtain rfl : c = .string s := by simpa using e
    exact ⟨s, by simpa using World.var?_cell hg0 hv0 0⟩

set_option maxRecDepth 100000 in
theorem lifted (os : Os) (started : os.Started) (H : Type) (enc : TypeId × Value → H) :
    ReturnsInHanded {} Tryd.checked os 3 .any (fun w args => (Rows.fnSizesSpec.pre enc Tryd.prog Tryd.f3 [] false w args ∧ laidMetH Tryd.prog Rows.fnSizesRow.laid w) ∧ sizedMet enc Tryd.prog Tryd.f3 (OpenSpec.ofChange Rows.fnSizesSpec) false w args)
      (Rows.fnSizesSpec.post enc Tryd.prog Tryd.f3 false true false false) := by
  refine returnsInHanded_of_change_and (C := Tryd.checked) (X := fun w _ => laidMetH Tryd.prog Rows.fnSizesRow.laid w) (fun _ _ _ hh h => h.of_heap hh) own started (by kernel_rfl) Tryd.func3
    (ChangeSpec.witness_shaped (enc := enc) (C := Tryd.checked) (os := os) (X := fun w _ => laidMetH Tryd.prog Rows.fnSizesRow.laid w) false (World.doorLaid Tryd.prog 400 os) #[.int .u64 0] 8 rfl (World.shaped_of_RefB (by kernel_rfl) (by kernel_rfl)) (by kernel_rfl) (by kernel_rfl) (by kernel_rfl) (door_met os _)) ?_
  intro W base args ds gs before hval0 hW _ _ hL _
  have hval : ∀ (j : Nat) t v, Tryd.f3.params[j]? = some t → args[j]? = some v → Value.okWide Tryd.prog W .any base t v := hval0
  have hW' := hW
  obtain ⟨p, q, hA0, hV, rfl, hfz, hnd⟩ := hW
  have hA : DataW.TrodAll enc Tryd.prog W 0 (fun _ => true) true Tryd.f3.params.toList args.toList ds p := hA0
  rw [Tryd.params3] at hA hval
  obtain ⟨v0, d0, rfl, rfl, h0⟩ := trodAll_one hA
  obtain ⟨n, rfl, rfl, rfl, hwn⟩ := open_int Tryd.underlying22 (hval 0 22 v0 rfl rfl) h0
  obtain ⟨g, t, cs, fuel, d, p2, rfl, _⟩ := trodVars_one hV
  obtain ⟨s, hc⟩ := of_laid hL
  have hbd : 0 ≤ n ∧ n < 18446744073709551616 := by
    have := hwn
    simp [Lit.wf, IntKind.min, IntKind.max, IntKind.bits, IntKind.signed] at this
    omega
  clear hA0 hval0
  refine (law_any n s W hc hbd.1 hbd.2).mono fun e W' ⟨he, hb⟩ => ?_
  subst he
  refine ⟨_, rfl, _, _, _, [], [], q, hW', ?_, ?_, ?_, hb.frame _, fun h => by cases h⟩
  · exact trodAll_mk1 (shut_bool Tryd.underlying4 true)
  · exact trodAll_mk1 (shut_int Tryd.underlying22 hwn)
  · exact Below.trodVars (by kernel_rfl) hb (by kernel_rfl) hV

theorem over : Rows.FnSizesSaid :=
  OpenClaim.holds_of_wide 3 Tryd.f3 rfl rfl rfl rfl rfl rfl rfl ⟨rfl, rfl, rfl, rfl, rfl⟩ rfl rfl rfl rfl rfl (by kernel_rfl) Tryd.func3 (by kernel_rfl)
    (of_decide_eq_true (by kernel_rfl)) (by unfold Func.isWrapper; first | (rw [if_pos (by decide +kernel)]; kernel_rfl) | (rw [if_neg (by decide +kernel)]; exact ⟨rfl, rfl⟩))
    (fun os started H enc _ => lifted os started H enc)

/-- THE STATEMENT: the tied card. -/
theorem proved : Rows.FnSizesCardSaid :=
  Claim7.holds_tied_plain_at .later [] [.data] true (true, "df5b124547f1b3a43c3f0a4c6526727e4a460c458cfce7164951dd7cbb9651cf") false
    over (fun _ h => by cases h) (by kernel_rfl) (fun _ h => by cases h) fnSizes_row_tie rfl ⟨rfl, rfl⟩ (by kernel_rfl) rfl
    (fun f fn hf hfn => by
      obtain rfl : f = 3 := Option.some.inj ((show Tryd.prog.funcNamed "loop.example/pub-g03468/laws.FnSizes" = some 3 by kernel_rfl).symm.trans hf) |>.symm
      obtain rfl : fn = Tryd.f3 := (Option.some.inj (Tryd.func3.symm.trans hfn)).symm
      exact ⟨by kernel_rfl, fun j t ht => by
        rw [Tryd.params3] at ht
        have hm : t ∈ [22] := by simpa using Array.mem_of_getElem? ht
        have hall : ([22].all fun u => !Tryd.prog.wantsStandIn u) = true := by kernel_rfl
        exact (show Tryd.prog.wantsStandIn t = false by simpa using List.all_eq_true.1 hall t hm)⟩)
    (by kernel_rfl)
end Go.Proofs.YtpdpjpcfioabpaaDoor.fnSizes
namespace Go.Proofs.YtpdpjpcfioabpaaDoor
theorem fnSizes_card_holds : Rows.FnSizesCardSaid := fnSizes.proved
#print axioms fnSizes_card_holds
end Go.Proofs.YtpdpjpcfioabpaaDoor
