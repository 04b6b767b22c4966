/- Proved: FnReverseBack64 returns true for every input, and its argument reads afterwards as before. Condition: the table that the package's text lays holds what the text says (the card ties it). -/
import Derived.Test.YtjcjnldnlgiloaaDoorRows
import Derived.Test.YtjcjnldnlgiloaaDoorTie
import Derived.Test.YtjcjnldnlgiloaaDoorCards
import Derived.WalkKit
import Derived.ProofKit
import Derived.OpenShut
import Derived.ShutString
import Derived.LaidMore
import Derived.Stop.Joined
import Derived.SevenTiedAt
import Derived.Lib.LaidTab
import Derived.Test.YtjcjnldnlgiloaaDoorWalk6
namespace Go.Proofs.YtjcjnldnlgiloaaDoor.fnReverseBack64
open Go.ChangeShapes Go.WideShapes Go.ChangeAt Go.RowKit Go.Proofs.YtjcjnldnlgiloaaDoor.Plain
set_option linter.unusedVariables false

theorem own : ownKnob Tryd.prog.godebug = none := by kernel_rfl
theorem gTab : Tryd.prog.globalNamed "loop.example/pub-g03429/pub/mathbits.deBruijn64tab" = some 1 := by kernel_rfl
theorem tTab : (Tryd.prog.globals[1]?).map (·.type) = some 38 := by kernel_rfl
def lay : List (String × DataW Unit) := [("loop.example/pub-g03429/pub/mathbits.deBruijn64tab", Rows.laid_loop_example_pub_g03429_pub_mathbits_deBruijn64tab)]
theorem door_met (os : Os) (args : Array Value) : laidMetH Tryd.prog lay ((World.doorLaid Tryd.prog 400 os).forCall (fun _ _ => 0) ⟨#[], args, []⟩).memory :=
  laidMetH_of_parts3 (fuel := 8) (laidMet_of_run' 8 (by kernel_rfl) (by kernel_rfl)) (by kernel_rfl) (by kernel_rfl)
theorem of_laid {W : World} (h : laidMetH Tryd.prog lay W) : Lib.TabIs Tryd.prog W "loop.example/pub-g03429/pub/mathbits.deBruijn64tab" .u8 zs64 := by
  rw [MakeChecks.laidMetH_plain _ _ _ (by kernel_rfl)] at h
  exact Lib.tabIs_of_head (rest := []) gTab tTab Tryd.underlying38 Tryd.underlying5 (by kernel_rfl) (by kernel_rfl) h
theorem tab_of {W : World} (h : Lib.TabIs Tryd.prog W "loop.example/pub-g03429/pub/mathbits.deBruijn64tab" .u8 zs64) : Tab W 1 zs64 := fun i hi => h.cell gTab i hi

set_option maxHeartbeats 1000000 in
theorem walk (a0 : Int) (w0 : (Lit.int .u64 a0).wf = true) (w : World) (hT : Tab w 1 zs64) :
    Calls Tryd.prog 11 #[.int .u64 a0] w fun e w' => e = .returned (.bool true) ∧ ∃ m, w' = w.drewN m := by
  obtain ⟨x, rfl, hx⟩ := wf_u64 w0
  clear w0
  have hx2 : x < 2 ^ 64 := by simpa using hx
  have f1 : placedB (placedB x (fun i => 63 - i) 64) (fun i => 63 - i) 64 = x := rev_rev x 64 hx2
  have f2 : onesB (placedB x (fun i => 63 - i) 64) 64 = onesB x 64 := ones_rev x 64
  have f3 : Lib.ctz 64 (placedB x (fun i => 63 - i) 64) = 64 - bitLen x := ctz_rev x 64 hx2
  have f4 : placedB 1 (fun i => 63 - i) 64 = 9223372036854775808 := by decide +kernel
  have hl := bitLen_le x 64 hx2
  have hy : placedB x (fun i => 63 - i) 64 < 18446744073709551616 := placedB_lt _ _ 64
  have c1 := fun w => rev64_i x hx w
  obtain ⟨y, hy0⟩ : ∃ y, y = placedB x (fun i => 63 - i) 64 := ⟨_, rfl⟩
  rw [← hy0] at f1 f2 f3 hy c1
  have c2 := fun w => rev64_i y hy w
  have c3 := fun w => ones64_i y hy w
  have c4 := fun w => ones64_i x hx w
  have c5 := fun w hT => tz64_i y hy w hT
  have c6 := fun w => lz64_i x hx w
  have c7 := fun w => rev64_i 1 (by decide) w
  rw [f1] at c2
  rw [f2] at c3
  rw [f3] at c5
  rw [f4] at c7
  obtain ⟨l, hl0⟩ : ∃ l, l = 64 - bitLen x := ⟨_, rfl⟩
  rw [← hl0] at c5
  rw [show (64 - (bitLen x : Int)) = (l : Int) by omega] at c6
  have C1 := Lib.hid c1
  have C2 := Lib.hid c2
  have C3 := Lib.hid c3
  have C4 := Lib.hid c4
  have C5 := Lib.hid c5
  have C6 := Lib.hid c6
  have C7 := Lib.hid c7
  have HT := Lib.hid hT
  clear hT c1 c2 c3 c4 c5 c6 c7 f1 f2 f3 f4 hl hl0 hx2 hy0
  go_enter Tryd.func11, Tryd.ntmps11
  go_wp2_with fail
  refine (C1.out _).mono ?_
  rintro e w' ⟨rfl, rfl⟩
  go_wp2_with fail
  refine (C2.out _).mono ?_
  rintro e w' ⟨rfl, rfl⟩
  go_wp2_with fail
  refine (C3.out _).mono ?_
  rintro e w' ⟨rfl, rfl⟩
  go_wp2_with fail
  refine (C4.out _).mono ?_
  rintro e w' ⟨rfl, rfl⟩
  go_wp2_with fail
  refine (C5.out _ HT.out).mono ?_
  rintro e w' ⟨rfl, rfl⟩
  go_wp2_with fail
  refine (C6.out _).mono ?_
  rintro e w' ⟨rfl, rfl⟩
  go_wp2_with fail
  refine (C7.out _).mono ?_
  rintro e w' ⟨rfl, rfl⟩
  go_wp2
  go_ret
  exact ⟨rfl, 0, rfl⟩

theorem reads_table {H : Type} (enc : TypeId × Value → H) (W : World) (sp : Nat → Bool) : DataW.trod enc Tryd.prog W 0 sp true 3 38 (zs64.map fun z => Value.int .u8 z) = some (Rows.laid_loop_example_pub_g03429_pub_mathbits_deBruijn64tab, []) := by kernel_rfl

set_option maxRecDepth 100000 in
theorem lifted (os : Os) (started : os.Started) (H : Type) (enc : TypeId × Value → H) :
    ReturnsInHanded {} Tryd.checked os 11 .any (fun w args => (Rows.fnReverseBack64Spec.pre enc Tryd.prog Tryd.f11 [] false w args ∧ laidMetH Tryd.prog lay w) ∧ sizedMet enc Tryd.prog Tryd.f11 (OpenSpec.ofChange Rows.fnReverseBack64Spec) false w args)
      (Rows.fnReverseBack64Spec.post enc Tryd.prog Tryd.f11 false true false false) := by
  refine returnsInHanded_of_change_and (C := Tryd.checked) (X := fun w _ => laidMetH Tryd.prog lay w) (fun _ _ _ hh h => h.of_heap hh) own started (by kernel_rfl) Tryd.func11
    (ChangeSpec.witness_shaped (enc := enc) (C := Tryd.checked) (os := os) (X := fun w _ => laidMetH Tryd.prog lay w) false (World.doorLaid Tryd.prog 400 os) #[.int .u64 0] 8 rfl (World.shaped_of_RefB (by kernel_rfl) (by kernel_rfl)) (by kernel_rfl) (by kernel_rfl) (by kernel_rfl) (door_met os _)) ?_
  intro W base args ds gs before hval0 hW _ _ hL _
  have hval : ∀ (j : Nat) t v, Tryd.f11.params[j]? = some t → args[j]? = some v → Value.okWide Tryd.prog W .any base t v := hval0
  have hW' := hW
  obtain ⟨p, q, hA0, hV0, rfl, hfz, hnd⟩ := hW
  have hA : DataW.TrodAll enc Tryd.prog W 0 (fun _ => true) true Tryd.f11.params.toList args.toList ds p := hA0
  have hV : DataW.TrodVars enc Tryd.prog W (fun _ => true) ["loop.example/pub-g03429/pub/mathbits.deBruijn64tab"] gs q := hV0
  rw [Tryd.params11] at hA hval
  obtain ⟨v0, d0, rfl, rfl, h0⟩ := trodAll_one hA
  obtain ⟨a0, rfl, rfl, rfl, w0⟩ := open_int Tryd.underlying25 (hval 0 25 v0 rfl rfl) h0
  have hTI := of_laid hL
  obtain ⟨g, t, cs, fuel, d, p', rfl, hg, ht, hvar, hd, rfl⟩ := trodVars_one hV
  obtain rfl := Option.some.inj (gTab.symm.trans hg)
  obtain rfl := Option.some.inj (tTab.symm.trans ht)
  obtain rfl : cs = (zs64.map fun z => Value.int .u8 z).toArray := Option.some.inj (hvar.symm.trans hTI)
  obtain ⟨rfl, rfl⟩ := DataW.Trod.unique (v := .agg (zs64.map fun z => Value.int .u8 z).toArray) ⟨fuel, hd⟩ ⟨3, reads_table enc W _⟩
  clear hA0 hV0 hval0
  have hvars : ∀ sp : Nat → Bool, DataW.TrodVars enc Tryd.prog W sp ["loop.example/pub-g03429/pub/mathbits.deBruijn64tab"] [Rows.laid_loop_example_pub_g03429_pub_mathbits_deBruijn64tab] (MemPlace.row ⟨1, 0, none⟩ (zs64.map fun z => Value.int .u8 z).toArray.size ++ [] ++ []) := fun sp =>
    ⟨1, 38, (zs64.map fun z => Value.int .u8 z).toArray, 3, [], [], hg, ht, hvar, reads_table enc W sp, rfl, rfl⟩
  refine (walk a0 w0 W (tab_of hTI)).mono fun e W' ⟨he, m, hw⟩ => ?_
  subst he
  have hal : W'.Alike W := by rw [hw]; exact World.drewN_alike _ _
  exact ⟨_, rfl, ChangeSpec.post_alike (post_of_same (pa := []) hW' (fun _ _ _ => trodAll_mk1 (shut_bool Tryd.underlying4 _)) (fun sp _ => trodAll_mk1 (shut_int Tryd.underlying25 w0)) (fun sp _ => hvars sp) (by simp)
    (World.keptBut_refl _ _) (fun _ => rfl) (ok_one (by kernel_rfl) rfl (okWide_bool_mk Tryd.underlying4 _))) hal⟩

theorem over : Rows.FnReverseBack64Said :=
  OpenClaim.holds_of_wide 11 Tryd.f11 rfl rfl rfl rfl rfl rfl rfl ⟨rfl, rfl, rfl, rfl, rfl⟩ rfl rfl rfl rfl rfl (by kernel_rfl) Tryd.func11 (by kernel_rfl)
    (of_decide_eq_true (by kernel_rfl)) (by unfold Func.isWrapper; first | (rw [if_pos (by decide +kernel)]; kernel_rfl) | (rw [if_neg (by decide +kernel)]; exact ⟨rfl, rfl⟩))
    (fun os started H enc _ => lifted os started H enc)

theorem proved : Rows.FnReverseBack64CardSaid :=
  Claim7.holds_tied_plain_at .later [] [.data] true Rows.fnReverseBack64Card.stood.harness false
    over (fun _ h => by cases h) (by kernel_rfl) (fun _ h => by cases h) fnReverseBack64_row_tie rfl ⟨rfl, rfl⟩ (by kernel_rfl) rfl
    (fun f fn hf hfn => by
      obtain rfl : f = 11 := Option.some.inj ((show Tryd.prog.funcNamed "loop.example/pub-g03429/laws.FnReverseBack64" = some 11 by kernel_rfl).symm.trans hf) |>.symm
      obtain rfl : fn = Tryd.f11 := (Option.some.inj (Tryd.func11.symm.trans hfn)).symm
      exact ⟨by kernel_rfl, fun j t ht => by
        rw [Tryd.params11] at ht
        have hm : t ∈ [25] := by simpa using Array.mem_of_getElem? ht
        have hall : ([25].all fun u => !Tryd.prog.wantsStandIn u) = true := by kernel_rfl
        exact (show Tryd.prog.wantsStandIn t = false by simpa using List.all_eq_true.1 hall t hm)⟩)
    (by kernel_rfl)
#print axioms proved
end Go.Proofs.YtjcjnldnlgiloaaDoor.fnReverseBack64
