/- Proved: FnLenZeros64 returns true for every input, and its argument reads afterwards as before. Condition: the table that the package's text lays holds what the text says (the card ties it). -/
import Derived.Test.YtjcjnldnlgiloaaDoorRows
import Derived.Test.YtjcjnldnlgiloaaDoorTie
import Derived.Test.YtjcjnldnlgiloaaDoorCards
import Derived.WalkKit
import Derived.ProofKit
import Derived.OpenShut
import Derived.ShutString
import Derived.LaidMore
import Derived.Stop.Joined
import Derived.SevenTiedAt
import Derived.Lib.LaidTab
import Derived.Test.YtjcjnldnlgiloaaDoorWalk6
namespace Go.Proofs.YtjcjnldnlgiloaaDoor.fnLenZeros64
open Go.ChangeShapes Go.WideShapes Go.ChangeAt Go.RowKit Go.Proofs.YtjcjnldnlgiloaaDoor.Plain
set_option linter.unusedVariables false

theorem own : ownKnob Tryd.prog.godebug = none := by kernel_rfl
theorem gTab : Tryd.prog.globalNamed "loop.example/pub-g03429/pub/mathbits.deBruijn64tab" = some 1 := by kernel_rfl
theorem tTab : (Tryd.prog.globals[1]?).map (·.type) = some 38 := by kernel_rfl
def lay : List (String × DataW Unit) := [("loop.example/pub-g03429/pub/mathbits.deBruijn64tab", Rows.laid_loop_example_pub_g03429_pub_mathbits_deBruijn64tab)]
theorem door_met (os : Os) (args : Array Value) : laidMetH Tryd.prog lay ((World.doorLaid Tryd.prog 400 os).forCall (fun _ _ => 0) ⟨#[], args, []⟩).memory :=
  laidMetH_of_parts3 (fuel := 8) (laidMet_of_run' 8 (by kernel_rfl) (by kernel_rfl)) (by kernel_rfl) (by kernel_rfl)
theorem of_laid {W : World} (h : laidMetH Tryd.prog lay W) : Lib.TabIs Tryd.prog W "loop.example/pub-g03429/pub/mathbits.deBruijn64tab" .u8 zs64 := by
  rw [MakeChecks.laidMetH_plain _ _ _ (by kernel_rfl)] at h
  exact Lib.tabIs_of_head (rest := []) gTab tTab Tryd.underlying38 Tryd.underlying5 (by kernel_rfl) (by kernel_rfl) h
theorem tab_of {W : World} (h : Lib.TabIs Tryd.prog W "loop.example/pub-g03429/pub/mathbits.deBruijn64tab" .u8 zs64) : Tab W 1 zs64 := fun i hi => h.cell gTab i hi

set_option maxHeartbeats 1000000 in
theorem walk (a0 : Int) (w0 : (Lit.int .u64 a0).wf = true) (w : World) (hT : Tab w 1 zs64) :
    Calls Tryd.prog 8 #[.int .u64 a0] w fun e w' => e = .returned (.bool true) ∧ ∃ m, w' = w.drewN m := by
  obtain ⟨x, rfl, hx⟩ := wf_u64 w0
  clear w0
  have hx2 : x < 2 ^ 64 := by simpa using hx
  have h1 := ones_le_len x 64 hx2
  have h2 := bitLen_le x 64 hx2
  have h3 := ctz_le x 64 hx2
  have h4 := ctz_lt_len x 64 hx2
  have c1 := fun w => len64_i x hx w
  have c2 := fun w => lz64_i x hx w
  have c3 := fun w => ones64_i x hx w
  have c4 := fun w hT => tz64_i x hx w hT
  obtain ⟨l, hl⟩ : ∃ l, l = bitLen x := ⟨_, rfl⟩
  obtain ⟨o, ho⟩ : ∃ o, o = onesB x 64 := ⟨_, rfl⟩
  obtain ⟨t, ht⟩ : ∃ t, t = Lib.ctz 64 x := ⟨_, rfl⟩
  rw [← hl] at h1 h2 h4 c1 c2
  rw [← ho] at h1 c3
  rw [← ht] at h3 h4 c4
  have C1 := Lib.hid c1
  have C2 := Lib.hid c2
  have C3 := Lib.hid c3
  have C4 := Lib.hid c4
  have HT := Lib.hid hT
  clear c1 c2 c3 c4 hl ho ht hx2 hT
  have t1 : ∀ _ : True, ((l : Int) + (64 - (l : Int)) == 64) = true := fun _ => by simp; omega
  have t2 : decide (o ≤ l) = true := by simpa using h1
  by_cases h0 : x = 0
  · have t3 : ((x : Int) == 0) = true := by simp; omega
    clear h0 h4
    go_enter Tryd.func8, Tryd.ntmps8
    go_wp2_with fail
    refine (C1.out _).mono ?_
    rintro e w' ⟨rfl, rfl⟩
    go_wp2_with fail
    refine (C2.out _).mono ?_
    rintro e w' ⟨rfl, rfl⟩
    go_wp2_with fail
    refine (C1.out _).mono ?_
    rintro e w' ⟨rfl, rfl⟩
    go_wp2_with fail
    refine (C3.out _).mono ?_
    rintro e w1 ⟨rfl, rfl⟩
    go_wp2
    go_ret
    exact ⟨rfl, 0, rfl⟩
  · have t3 : ((x : Int) == 0) = false := by simp; omega
    have h5 := h4 h0
    have t4 : decide (t < l) = true := by simpa using h5
    clear h0 h4
    go_enter Tryd.func8, Tryd.ntmps8
    go_wp2_with fail
    refine (C1.out _).mono ?_
    rintro e w' ⟨rfl, rfl⟩
    go_wp2_with fail
    refine (C2.out _).mono ?_
    rintro e w' ⟨rfl, rfl⟩
    go_wp2_with fail
    refine (C1.out _).mono ?_
    rintro e w' ⟨rfl, rfl⟩
    go_wp2_with fail
    refine (C3.out _).mono ?_
    rintro e w1 ⟨rfl, rfl⟩
    go_wp2_with fail
    refine (C4.out _ HT.out).mono ?_
    rintro e w' ⟨rfl, rfl⟩
    go_wp2_with fail
    refine (C1.out _).mono ?_
    rintro e w' ⟨rfl, rfl⟩
    go_wp2
    go_ret
    exact ⟨rfl, 0, rfl⟩

theorem reads_table {H : Type} (enc : TypeId × Value → H) (W : World) (sp : Nat → Bool) : DataW.trod enc Tryd.prog W 0 sp true 3 38 (zs64.map fun z => Value.int .u8 z) = some (Rows.laid_loop_example_pub_g03429_pub_mathbits_deBruijn64tab, []) := by kernel_rfl

set_option maxRecDepth 100000 in
theorem lifted (os : Os) (started : os.Started) (H : Type) (enc : TypeId × Value → H) :
    ReturnsInHanded {} Tryd.checked os 8 .any (fun w args => (Rows.fnLenZeros64Spec.pre enc Tryd.prog Tryd.f8 [] false w args ∧ laidMetH Tryd.prog lay w) ∧ sizedMet enc Tryd.prog Tryd.f8 (OpenSpec.ofChange Rows.fnLenZeros64Spec) false w args)
      (Rows.fnLenZeros64Spec.post enc Tryd.prog Tryd.f8 false true false false) := by
  refine returnsInHanded_of_change_and (C := Tryd.checked) (X := fun w _ => laidMetH Tryd.prog lay w) (fun _ _ _ hh h => h.of_heap hh) own started (by kernel_rfl) Tryd.func8
    (ChangeSpec.witness_shaped (enc := enc) (C := Tryd.checked) (os := os) (X := fun w _ => laidMetH Tryd.prog lay w) false (World.doorLaid Tryd.prog 400 os) #[.int .u64 0] 8 rfl (World.shaped_of_RefB (by kernel_rfl) (by kernel_rfl)) (by kernel_rfl) (by kernel_rfl) (by kernel_rfl) (door_met os _)) ?_
  intro W base args ds gs before hval0 hW _ _ hL _
  have hval : ∀ (j : Nat) t v, Tryd.f8.params[j]? = some t → args[j]? = some v → Value.okWide Tryd.prog W .any base t v := hval0
  have hW' := hW
  obtain ⟨p, q, hA0, hV0, rfl, hfz, hnd⟩ := hW
  have hA : DataW.TrodAll enc Tryd.prog W 0 (fun _ => true) true Tryd.f8.params.toList args.toList ds p := hA0
  have hV : DataW.TrodVars enc Tryd.prog W (fun _ => true) ["loop.example/pub-g03429/pub/mathbits.deBruijn64tab"] gs q := hV0
  rw [Tryd.params8] at hA hval
  obtain ⟨v0, d0, rfl, rfl, h0⟩ := trodAll_one hA
  obtain ⟨a0, rfl, rfl, rfl, w0⟩ := open_int Tryd.underlying25 (hval 0 25 v0 rfl rfl) h0
  have hTI := of_laid hL
  obtain ⟨g, t, cs, fuel, d, p', rfl, hg, ht, hvar, hd, rfl⟩ := trodVars_one hV
  obtain rfl := Option.some.inj (gTab.symm.trans hg)
  obtain rfl := Option.some.inj (tTab.symm.trans ht)
  obtain rfl : cs = (zs64.map fun z => Value.int .u8 z).toArray := Option.some.inj (hvar.symm.trans hTI)
  obtain ⟨rfl, rfl⟩ := DataW.Trod.unique (v := .agg (zs64.map fun z => Value.int .u8 z).toArray) ⟨fuel, hd⟩ ⟨3, reads_table enc W _⟩
  clear hA0 hV0 hval0
  have hvars : ∀ sp : Nat → Bool, DataW.TrodVars enc Tryd.prog W sp ["loop.example/pub-g03429/pub/mathbits.deBruijn64tab"] [Rows.laid_loop_example_pub_g03429_pub_mathbits_deBruijn64tab] (MemPlace.row ⟨1, 0, none⟩ (zs64.map fun z => Value.int .u8 z).toArray.size ++ [] ++ []) := fun sp =>
    ⟨1, 38, (zs64.map fun z => Value.int .u8 z).toArray, 3, [], [], hg, ht, hvar, reads_table enc W sp, rfl, rfl⟩
  refine (walk a0 w0 W (tab_of hTI)).mono fun e W' ⟨he, m, hw⟩ => ?_
  subst he
  have hal : W'.Alike W := by rw [hw]; exact World.drewN_alike _ _
  exact ⟨_, rfl, ChangeSpec.post_alike (post_of_same (pa := []) hW' (fun _ _ _ => trodAll_mk1 (shut_bool Tryd.underlying4 _)) (fun sp _ => trodAll_mk1 (shut_int Tryd.underlying25 w0)) (fun sp _ => hvars sp) (by simp)
    (World.keptBut_refl _ _) (fun _ => rfl) (ok_one (by kernel_rfl) rfl (okWide_bool_mk Tryd.underlying4 _))) hal⟩

theorem over : Rows.FnLenZeros64Said :=
  OpenClaim.holds_of_wide 8 Tryd.f8 rfl rfl rfl rfl rfl rfl rfl ⟨rfl, rfl, rfl, rfl, rfl⟩ rfl rfl rfl rfl rfl (by kernel_rfl) Tryd.func8 (by kernel_rfl)
    (of_decide_eq_true (by kernel_rfl)) (by unfold Func.isWrapper; first | (rw [if_pos (by decide +kernel)]; kernel_rfl) | (rw [if_neg (by decide +kernel)]; exact ⟨rfl, rfl⟩))
    (fun os started H enc _ => lifted os started H enc)

theorem proved : Rows.FnLenZeros64CardSaid :=
  Claim7.holds_tied_plain_at .later [] [.data] true Rows.fnLenZeros64Card.stood.harness false
    over (fun _ h => by cases h) (by kernel_rfl) (fun _ h => by cases h) fnLenZeros64_row_tie rfl ⟨rfl, rfl⟩ (by kernel_rfl) rfl
    (fun f fn hf hfn => by
      obtain rfl : f = 8 := Option.some.inj ((show Tryd.prog.funcNamed "loop.example/pub-g03429/laws.FnLenZeros64" = some 8 by kernel_rfl).symm.trans hf) |>.symm
      obtain rfl : fn = Tryd.f8 := (Option.some.inj (Tryd.func8.symm.trans hfn)).symm
      exact ⟨by kernel_rfl, fun j t ht => by
        rw [Tryd.params8] at ht
        have hm : t ∈ [25] := by simpa using Array.mem_of_getElem? ht
        have hall : ([25].all fun u => !Tryd.prog.wantsStandIn u) = true := by kernel_rfl
        exact (show Tryd.prog.wantsStandIn t = false by simpa using List.all_eq_true.1 hall t hm)⟩)
    (by kernel_rfl)
#print axioms proved
end Go.Proofs.YtjcjnldnlgiloaaDoor.fnLenZeros64
