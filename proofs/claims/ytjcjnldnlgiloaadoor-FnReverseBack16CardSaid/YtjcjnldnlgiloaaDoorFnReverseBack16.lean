/- Proved: FnReverseBack16 returns true for every input, and its argument reads afterwards as before. Condition: the table that the package's text lays holds what the text says (the card ties it). -/
import Derived.Test.YtjcjnldnlgiloaaDoorRows
import Derived.Test.YtjcjnldnlgiloaaDoorTie
import Derived.Test.YtjcjnldnlgiloaaDoorCards
import Derived.WalkKit
import Derived.ProofKit
import Derived.OpenShut
import Derived.ShutString
import Derived.LaidMore
import Derived.Stop.Joined
import Derived.SevenTiedAt
import Derived.Lib.LaidTab
import Derived.Test.YtjcjnldnlgiloaaDoorWalk6
namespace Go.Proofs.YtjcjnldnlgiloaaDoor.fnReverseBack16
open Go.ChangeShapes Go.WideShapes Go.ChangeAt Go.RowKit Go.Proofs.YtjcjnldnlgiloaaDoor.Plain
set_option linter.unusedVariables false

theorem own : ownKnob Tryd.prog.godebug = none := by kernel_rfl
theorem gTab : Tryd.prog.globalNamed "loop.example/pub-g03429/pub/mathbits.deBruijn32tab" = some 0 := by kernel_rfl
theorem tTab : (Tryd.prog.globals[0]?).map (·.type) = some 36 := by kernel_rfl
def lay : List (String × DataW Unit) := [("loop.example/pub-g03429/pub/mathbits.deBruijn32tab", Rows.laid_loop_example_pub_g03429_pub_mathbits_deBruijn32tab)]
theorem door_met (os : Os) (args : Array Value) : laidMetH Tryd.prog lay ((World.doorLaid Tryd.prog 400 os).forCall (fun _ _ => 0) ⟨#[], args, []⟩).memory :=
  laidMetH_of_parts3 (fuel := 8) (laidMet_of_run' 8 (by kernel_rfl) (by kernel_rfl)) (by kernel_rfl) (by kernel_rfl)
theorem of_laid {W : World} (h : laidMetH Tryd.prog lay W) : Lib.TabIs Tryd.prog W "loop.example/pub-g03429/pub/mathbits.deBruijn32tab" .u8 zs32 := by
  rw [MakeChecks.laidMetH_plain _ _ _ (by kernel_rfl)] at h
  exact Lib.tabIs_of_head (rest := []) gTab tTab Tryd.underlying36 Tryd.underlying5 (by kernel_rfl) (by kernel_rfl) h
theorem tab_of {W : World} (h : Lib.TabIs Tryd.prog W "loop.example/pub-g03429/pub/mathbits.deBruijn32tab" .u8 zs32) : Tab W 0 zs32 := fun i hi => h.cell gTab i hi

set_option maxHeartbeats 1000000 in
theorem walk (a0 : Int) (w0 : (Lit.int .u16 a0).wf = true) (w : World) (hT : Tab w 0 zs32) :
    Calls Tryd.prog 9 #[.int .u16 a0] w fun e w' => e = .returned (.bool true) ∧ ∃ m, w' = w.drewN m := by
  obtain ⟨x, rfl, hx⟩ := wf_u16 w0
  clear w0
  have hx2 : x < 2 ^ 16 := by simpa using hx
  have f1 : placedB (placedB x (fun i => 15 - i) 16) (fun i => 15 - i) 16 = x := rev_rev x 16 hx2
  have f2 : onesB (placedB x (fun i => 15 - i) 16) 16 = onesB x 16 := ones_rev x 16
  have f3 : Lib.ctz 16 (placedB x (fun i => 15 - i) 16) = 16 - bitLen x := ctz_rev x 16 hx2
  have f4 : placedB 1 (fun i => 15 - i) 16 = 32768 := by decide +kernel
  have hl := bitLen_le x 16 hx2
  have hy : placedB x (fun i => 15 - i) 16 < 65536 := placedB_lt _ _ 16
  have c1 := fun w => rev16_i x hx w
  obtain ⟨y, hy0⟩ : ∃ y, y = placedB x (fun i => 15 - i) 16 := ⟨_, rfl⟩
  rw [← hy0] at f1 f2 f3 hy c1
  have c2 := fun w => rev16_i y hy w
  have c3 := fun w => ones16_i y hy w
  have c4 := fun w => ones16_i x hx w
  have c5 := fun w hT => tz16_i y hy w hT
  have c6 := fun w => lz16_i x hx w
  have c7 := fun w => rev16_i 1 (by decide) w
  rw [f1] at c2
  rw [f2] at c3
  rw [f3] at c5
  rw [f4] at c7
  obtain ⟨l, hl0⟩ : ∃ l, l = 16 - bitLen x := ⟨_, rfl⟩
  rw [← hl0] at c5
  rw [show (16 - (bitLen x : Int)) = (l : Int) by omega] at c6
  have C1 := Lib.hid c1
  have C2 := Lib.hid c2
  have C3 := Lib.hid c3
  have C4 := Lib.hid c4
  have C5 := Lib.hid c5
  have C6 := Lib.hid c6
  have C7 := Lib.hid c7
  have HT := Lib.hid hT
  clear hT c1 c2 c3 c4 c5 c6 c7 f1 f2 f3 f4 hl hl0 hx2 hy0
  go_enter Tryd.func9, Tryd.ntmps9
  go_wp2_with fail
  refine (C1.out _).mono ?_
  rintro e w1 ⟨rfl, m1, rfl⟩
  go_wp2_with fail
  refine (C2.out _).mono ?_
  rintro e w2 ⟨rfl, m2, rfl⟩
  go_wp2_with fail
  refine (C3.out _).mono ?_
  rintro e w3 ⟨rfl, m3, rfl⟩
  go_wp2_with fail
  refine (C4.out _).mono ?_
  rintro e w4 ⟨rfl, m4, rfl⟩
  go_wp2_with fail
  refine (C5.out _ (HT.out.drewN _)).mono ?_
  rintro e w' ⟨rfl, rfl⟩
  go_wp2_with fail
  refine (C6.out _).mono ?_
  rintro e w' ⟨rfl, rfl⟩
  go_wp2_with fail
  refine (C7.out _).mono ?_
  rintro e w7 ⟨rfl, m7, rfl⟩
  go_wp2
  go_ret
  exact ⟨rfl, _, rfl⟩

theorem reads_table {H : Type} (enc : TypeId × Value → H) (W : World) (sp : Nat → Bool) : DataW.trod enc Tryd.prog W 0 sp true 3 36 (zs32.map fun z => Value.int .u8 z) = some (Rows.laid_loop_example_pub_g03429_pub_mathbits_deBruijn32tab, []) := by kernel_rfl

set_option maxRecDepth 100000 in
theorem lifted (os : Os) (started : os.Started) (H : Type) (enc : TypeId × Value → H) :
    ReturnsInHanded {} Tryd.checked os 9 .any (fun w args => (Rows.fnReverseBack16Spec.pre enc Tryd.prog Tryd.f9 [] false w args ∧ laidMetH Tryd.prog lay w) ∧ sizedMet enc Tryd.prog Tryd.f9 (OpenSpec.ofChange Rows.fnReverseBack16Spec) false w args)
      (Rows.fnReverseBack16Spec.post enc Tryd.prog Tryd.f9 false true false false) := by
  refine returnsInHanded_of_change_and (C := Tryd.checked) (X := fun w _ => laidMetH Tryd.prog lay w) (fun _ _ _ hh h => h.of_heap hh) own started (by kernel_rfl) Tryd.func9
    (ChangeSpec.witness_shaped (enc := enc) (C := Tryd.checked) (os := os) (X := fun w _ => laidMetH Tryd.prog lay w) false (World.doorLaid Tryd.prog 400 os) #[.int .u16 0] 8 rfl (World.shaped_of_RefB (by kernel_rfl) (by kernel_rfl)) (by kernel_rfl) (by kernel_rfl) (by kernel_rfl) (door_met os _)) ?_
  intro W base args ds gs before hval0 hW _ _ hL _
  have hval : ∀ (j : Nat) t v, Tryd.f9.params[j]? = some t → args[j]? = some v → Value.okWide Tryd.prog W .any base t v := hval0
  have hW' := hW
  obtain ⟨p, q, hA0, hV0, rfl, hfz, hnd⟩ := hW
  have hA : DataW.TrodAll enc Tryd.prog W 0 (fun _ => true) true Tryd.f9.params.toList args.toList ds p := hA0
  have hV : DataW.TrodVars enc Tryd.prog W (fun _ => true) ["loop.example/pub-g03429/pub/mathbits.deBruijn32tab"] gs q := hV0
  rw [Tryd.params9] at hA hval
  obtain ⟨v0, d0, rfl, rfl, h0⟩ := trodAll_one hA
  obtain ⟨a0, rfl, rfl, rfl, w0⟩ := open_int Tryd.underlying22 (hval 0 22 v0 rfl rfl) h0
  have hTI := of_laid hL
  obtain ⟨g, t, cs, fuel, d, p', rfl, hg, ht, hvar, hd, rfl⟩ := trodVars_one hV
  obtain rfl := Option.some.inj (gTab.symm.trans hg)
  obtain rfl := Option.some.inj (tTab.symm.trans ht)
  obtain rfl : cs = (zs32.map fun z => Value.int .u8 z).toArray := Option.some.inj (hvar.symm.trans hTI)
  obtain ⟨rfl, rfl⟩ := DataW.Trod.unique (v := .agg (zs32.map fun z => Value.int .u8 z).toArray) ⟨fuel, hd⟩ ⟨3, reads_table enc W _⟩
  clear hA0 hV0 hval0
  have hvars : ∀ sp : Nat → Bool, DataW.TrodVars enc Tryd.prog W sp ["loop.example/pub-g03429/pub/mathbits.deBruijn32tab"] [Rows.laid_loop_example_pub_g03429_pub_mathbits_deBruijn32tab] (MemPlace.row ⟨0, 0, none⟩ (zs32.map fun z => Value.int .u8 z).toArray.size ++ [] ++ []) := fun sp =>
    ⟨0, 36, (zs32.map fun z => Value.int .u8 z).toArray, 3, [], [], hg, ht, hvar, reads_table enc W sp, rfl, rfl⟩
  refine (walk a0 w0 W (tab_of hTI)).mono fun e W' ⟨he, m, hw⟩ => ?_
  subst he
  have hal : W'.Alike W := by rw [hw]; exact World.drewN_alike _ _
  exact ⟨_, rfl, ChangeSpec.post_alike (post_of_same (pa := []) hW' (fun _ _ _ => trodAll_mk1 (shut_bool Tryd.underlying4 _)) (fun sp _ => trodAll_mk1 (shut_int Tryd.underlying22 w0)) (fun sp _ => hvars sp) (by simp)
    (World.keptBut_refl _ _) (fun _ => rfl) (ok_one (by kernel_rfl) rfl (okWide_bool_mk Tryd.underlying4 _))) hal⟩

theorem over : Rows.FnReverseBack16Said :=
  OpenClaim.holds_of_wide 9 Tryd.f9 rfl rfl rfl rfl rfl rfl rfl ⟨rfl, rfl, rfl, rfl, rfl⟩ rfl rfl rfl rfl rfl (by kernel_rfl) Tryd.func9 (by kernel_rfl)
    (of_decide_eq_true (by kernel_rfl)) (by unfold Func.isWrapper; first | (rw [if_pos (by decide +kernel)]; kernel_rfl) | (rw [if_neg (by decide +kernel)]; exact ⟨rfl, rfl⟩))
    (fun os started H enc _ => lifted os started H enc)

theorem proved : Rows.FnReverseBack16CardSaid :=
  Claim7.holds_tied_plain_at .later [] [.data] true Rows.fnReverseBack16Card.stood.harness false
    over (fun _ h => by cases h) (by kernel_rfl) (fun _ h => by cases h) fnReverseBack16_row_tie rfl ⟨rfl, rfl⟩ (by kernel_rfl) rfl
    (fun f fn hf hfn => by
      obtain rfl : f = 9 := Option.some.inj ((show Tryd.prog.funcNamed "loop.example/pub-g03429/laws.FnReverseBack16" = some 9 by kernel_rfl).symm.trans hf) |>.symm
      obtain rfl : fn = Tryd.f9 := (Option.some.inj (Tryd.func9.symm.trans hfn)).symm
      exact ⟨by kernel_rfl, fun j t ht => by
        rw [Tryd.params9] at ht
        have hm : t ∈ [22] := by simpa using Array.mem_of_getElem? ht
        have hall : ([22].all fun u => !Tryd.prog.wantsStandIn u) = true := by kernel_rfl
        exact (show Tryd.prog.wantsStandIn t = false by simpa using List.all_eq_true.1 hall t hm)⟩)
    (by kernel_rfl)
#print axioms proved
end Go.Proofs.YtjcjnldnlgiloaaDoor.fnReverseBack16
