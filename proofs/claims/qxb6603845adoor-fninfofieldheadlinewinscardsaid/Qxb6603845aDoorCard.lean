/-
  THE CARD OF FnInfoFieldHeadLineWins.
-/
import Derived.Test.Qxb6603845aDoorLaw
import Derived.Test.Qxb6603845aDoorLift
import Derived.Lib.LaidU8
import Derived.PinnedBridge
namespace Go.Proofs.Qxb6603845aDoor
open Go.ChangeShapes Go.WideShapes Go.ChangeAt Go.RowKit
open Go.ChangeMaps (open_string shut_string)

theorem tabs_of_laid {W : World} (hH : laidMetH Tryd.prog laid W) (hsh : W.ShapedOpen Tryd.prog) : Tabs W := by
  rw [MakeChecks.laidMetH_plain _ _ _ (by kernel_rfl)] at hH
  have e1 : (Rows.laid_unicode_utf8_acceptRanges : DataW Unit) = Lib.acceptData := by kernel_rfl
  have e2 : (Rows.laid_unicode_White_Space : DataW Unit) = Lib.whiteData := by kernel_rfl
  have e3 : (Rows.laid_strings_asciiSpace : DataW Unit) = Lib.tabData .u8 Lib.asciiSpaceTab := by kernel_rfl
  have e4 : Rows.laid_unicode_utf8_first = Lib.firstData := Pinned.utf8First_eq
  have r1 : Lib.VarReads Tryd.prog W "unicode/utf8.acceptRanges" Rows.laid_unicode_utf8_acceptRanges := Lib.laidMet.reads hH (.head _)
  have r2 : Lib.VarReads Tryd.prog W "unicode.White_Space" Rows.laid_unicode_White_Space := Lib.laidMet.reads hH (.tail _ (.head _))
  have r3 : Lib.VarReads Tryd.prog W "strings.asciiSpace" Rows.laid_strings_asciiSpace := Lib.laidMet.reads hH (.tail _ (.tail _ (.head _)))
  have r4 : Lib.VarReads Tryd.prog W "unicode/utf8.first" Rows.laid_unicode_utf8_first := Lib.laidMet.reads hH (.tail _ (.tail _ (.tail _ (.head _))))
  rw [e1] at r1; rw [e2] at r2; rw [e3] at r3; rw [e4] at r4
  refine ⟨maxLenCell hsh, ?_, utf8Tabs_of_reads { Tryd.lays163 with } ⟨by kernel_rfl, by kernel_rfl, by kernel_rfl, by kernel_rfl, by kernel_rfl, by kernel_rfl, by kernel_rfl⟩ r4 r1,
    whiteTab_of_reads { Tryd.lays163 with } ⟨by kernel_rfl, by kernel_rfl, by kernel_rfl, by kernel_rfl, by kernel_rfl, by kernel_rfl, by kernel_rfl, by kernel_rfl⟩ r2⟩
  obtain ⟨g, t, cs, fuel, p, hg, ht, hvar, hd⟩ := r3
  have hty : (Tryd.prog.globals[g]?).map (·.type) = some 40 := by
    have h0 : (Tryd.prog.globalNamed "strings.asciiSpace").bind (fun g => (Tryd.prog.globals[g]?).map (·.type)) = some 40 := by kernel_rfl
    rw [hg] at h0; exact h0
  obtain rfl := Option.some.inj (hty.symm.trans ht)
  unfold Lib.TabIs
  rw [hvar, ← Lib.cells_of_tab Tryd.underlying40 Tryd.underlying5 (by kernel_rfl) (by kernel_rfl) hd]

set_option maxRecDepth 100000 in
theorem info_lifted (os : Os) (started : os.Started) (H : Type) (enc : TypeId × Value → H) :
    ReturnsInHanded {} Tryd.checked os 3 .any (fun w args => (Rows.fnInfoFieldHeadLineWinsSpec.pre enc Tryd.prog Tryd.f3 [] false w args ∧ laidMetH Tryd.prog laid w) ∧ sizedMet enc Tryd.prog Tryd.f3 (OpenSpec.ofChange Rows.fnInfoFieldHeadLineWinsSpec) false w args)
      (Rows.fnInfoFieldHeadLineWinsSpec.post enc Tryd.prog Tryd.f3 false true false false) := by
  refine wrap_shaped (C := Tryd.checked) (X := fun w _ => laidMetH Tryd.prog laid w) (fun _ _ _ hh h => h.of_heap hh) own started (by kernel_rfl) Tryd.func3
    (ChangeSpec.witness_shaped (enc := enc) (C := Tryd.checked) (os := os) (X := fun w _ => laidMetH Tryd.prog laid w) false (World.laidAll Tryd.prog os laid) #[.string ⟨#[]⟩, .string ⟨#[]⟩, .string ⟨#[]⟩] 8 (World.laidAll_os _ _ _)
      (World.shaped_of_ZipB (by kernel_rfl) (by kernel_rfl)) (by kernel_rfl) (by kernel_rfl) (by kernel_rfl)
      (by rw [MakeChecks.laidMetH_plain _ _ _ (by kernel_rfl)]; exact laidMet_laidAll _ (by kernel_rfl) (by kernel_rfl))) ?_
  intro W base args ds gs before hval0 hW hlaid hsh
  have hval : ∀ (j : Nat) t v, Tryd.f3.params[j]? = some t → args[j]? = some v → Value.okWide Tryd.prog W .any base t v := hval0
  have hW' := hW
  obtain ⟨p, q, hA0, hV, rfl, _, _⟩ := hW
  have hA : DataW.TrodAll enc Tryd.prog W 0 (fun _ => true) true Tryd.f3.params.toList args.toList ds p := hA0
  rw [Tryd.params3] at hA hval
  obtain ⟨v0, v1, v2, d0, d1, d2, p0, p1, p2, rfl, rfl, rfl, h0, h1, h2⟩ := trodAll_three hA
  obtain ⟨rfl, rfl⟩ := trodVars_none hV
  obtain ⟨s, rfl, rfl, rfl, ws⟩ := open_string Tryd.underlying9 (hval 0 9 v0 rfl rfl) h0
  obtain ⟨t, rfl, rfl, rfl, wt⟩ := open_string Tryd.underlying9 (hval 1 9 v1 rfl rfl) h1
  obtain ⟨r, rfl, rfl, rfl, wr⟩ := open_string Tryd.underlying9 (hval 2 9 v2 rfl rfl) h2
  simp only [List.append_nil] at hW'
  refine (law3 s t r W ws wt wr (tabs_of_laid hlaid hsh)).mono fun e W' ⟨he, hb⟩ => ?_
  subst he
  exact ⟨_, rfl, _, _, _, [], [], [], hW', trodAll_mk1 (shut_bool Tryd.underlying4 _), trodAll_mk3 (shut_string Tryd.underlying9 ws) (shut_string Tryd.underlying9 wt) (shut_string Tryd.underlying9 wr), rfl, hb.frame _, fun h => by cases h⟩

theorem info_holds : Rows.FnInfoFieldHeadLineWinsSaid :=
  OpenClaim.holds_of_wide 3 Tryd.f3 rfl rfl rfl rfl rfl rfl rfl ⟨rfl, rfl, rfl, rfl, rfl⟩ rfl rfl rfl rfl rfl (by kernel_rfl) Tryd.func3 (by kernel_rfl)
    (of_decide_eq_true (by kernel_rfl)) (by unfold Func.isWrapper; first | (rw [if_pos (by decide +kernel)]; kernel_rfl) | (rw [if_neg (by decide +kernel)]; exact ⟨rfl, rfl⟩))
    (fun os started H enc _ => info_lifted os started H enc)

theorem info_card : Rows.FnInfoFieldHeadLineWinsCardSaid :=
  Claim7.holds_tied_plain_at .later [] [.data, .listed, .data, .pinned] true (true, "28b5ab3dc03f772dadf071bd689a7d72b4e74bb9c22594752fec252fb4f2738a") false info_holds (fun _ h => by cases h) (by kernel_rfl) (fun _ h => by cases h) fnInfoFieldHeadLineWins_row_tie rfl ⟨rfl, rfl⟩ (by kernel_rfl) rfl
    (fun f fn hf hfn => by
      obtain rfl : f = 3 := Option.some.inj ((show Tryd.prog.funcNamed Rows.fnInfoFieldHeadLineWinsRow.func = some 3 by kernel_rfl).symm.trans hf) |>.symm
      obtain rfl : fn = Tryd.f3 := (Option.some.inj (Tryd.func3.symm.trans hfn)).symm
      exact ⟨by kernel_rfl, fun j t ht => by
        rw [Tryd.params3] at ht
        have hm : t ∈ [9] := by simpa using Array.mem_of_getElem? ht
        have hall : ([9].all fun u => !Tryd.prog.wantsStandIn u) = true := by kernel_rfl
        exact (show Tryd.prog.wantsStandIn t = false by simpa using List.all_eq_true.1 hall t hm)⟩)
    (by kernel_rfl)
end Go.Proofs.Qxb6603845aDoor
