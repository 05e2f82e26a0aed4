/- laws.FnSafeUint8, walked at each width and sign. -/
import Derived.Test.YtgomeiepiajpeaaGreatLh
namespace Go.Proofs.YtgomeiepiajpeaaGreat.Q
open Go.RowKit Go.Proofs.YtgomeiepiajpeaaGreatW.PrintWords Go.Proofs.YtgomeiepiajpeaaGreatW.PrintLast Go.Proofs.YtgomeiepiajpeaaGreatW.PrintMore
set_option linter.unusedVariables false
set_option linter.unusedSimpArgs false
set_option maxHeartbeats 2000000 in
set_option maxRecDepth 100000 in
theorem law4_8s (w : World) : Calls Tryz.prog 4 #[.int .i64 8, .bool true] w fun e w' => e = .returned (.bool true) ∧ Below w.heap.size w w' := by
  have eB0 : laws_bounds.f 100 8 false = some (false, ([] : List Int), false, [255]) := by decide +kernel
  have eB1 : laws_bounds.f 100 8 true = some (true, [128], false, [127]) := by decide +kernel
  have eF0 : laws_fitted.f 100 false ([] : List Int) false ([] : List Int) false [255] = some (0, true) := by decide +kernel
  have eF1 : laws_fitted.f 100 false [255] false ([] : List Int) false [255] = some (255, true) := by decide +kernel
  have eF2 : laws_fitted.f 100 false [127] false ([] : List Int) false [255] = some (127, true) := by decide +kernel
  have eC1 : spec_WideCmp.f 100 true [128] false ([] : List Int) = some (-1) := by decide +kernel
  have eC2 : spec_WideCmp.f 100 false [127] false [255] = some (-1) := by decide +kernel
  go_enter Tryz.func4, Tryz.ntmps4
  go_upto_region 3 with (first | (go_at_call 10; refine (su10_8u _).mono ?_; rintro e w1 ⟨rfl, hb⟩; have HB := Aside0.mk hb; clear hb) | (go_at_call 6; refine (laws_bounds.calls 100 8 false false ([] : List Int) false [255] _ eB0).mono ?_; rintro e w2 ⟨v1, v3, rfl, h1, h2, hb⟩; obtain ⟨Af, cf, Al, cl, rfl, rfl, wf, wl, wb⟩ := two_wd (s1 := false) (s2 := false) 0 1 rfl rfl h1 h2; have HB2 := Aside0.mk (HB.out.trans (hb.mono HB.out.size)); have WF := Aside0.mk wf; have WL := Aside0.mk wl; have WB := Aside0.mk wb; clear h1 h2 hb wf wl wb))
  have wf := WF.out
  have wl := WL.out
  have hB := HB2.out.trans (WB.out.mono HB2.out.size)
  obtain ⟨W1, hW1⟩ : ∃ W1, W1 = ((w2.alloc (.cells #[.bool false, .slice Af 0 cf] 27)).alloc (.cells #[.bool false, .slice Al 1 cl] 27)) := ⟨_, rfl⟩
  rw [← hW1] at wf wl hB ⊢
  clear hW1 WF WL WB HB HB2
  generalize w2.heap.size = g8 at wf wl ⊢
  have d80 := wf.c0
  have d81 := wf.c1
  have d90 := wl.c0
  have d91 := wl.c1
  have WF := Aside0.mk wf
  have WL := Aside0.mk wl
  have HB := Aside0.mk hB
  clear wf wl hB
  go_upto_region 4 with (first | (go_at_call 7; refine (laws_fitted.calls 100 false Af cf ([] : List Int) false Af cf ([] : List Int) false Al cl [255] 0 true _ WF.out.r WF.out.c WF.out.r WF.out.c WL.out.r WL.out.c eF0).mono ?_; rintro e w3 ⟨rfl, hb⟩; have wf := WF.out.below hb; have wl := WL.out.below hb; have d80 := wf.c0; have d81 := wf.c1; have d90 := wl.c0; have d91 := wl.c1; have n0_ := Aside0.mk wf; have n1_ := Aside0.mk wl; have n2_ := Aside0.mk (HB.out.trans (hb.mono HB.out.size)); clear WF WL HB wf wl hb; have WF := n0_; have WL := n1_; have HB := n2_; clear n0_ n1_ n2_))
  go_upto_region 5 with (first | (go_at_call 7; refine (laws_fitted.calls 100 false Al cl [255] false Af cf ([] : List Int) false Al cl [255] 255 true _ WL.out.r WL.out.c WF.out.r WF.out.c WL.out.r WL.out.c eF1).mono ?_; rintro e w4 ⟨rfl, hb⟩; have wf := WF.out.below hb; have wl := WL.out.below hb; have d80 := wf.c0; have d81 := wf.c1; have d90 := wl.c0; have d91 := wl.c1; have n0_ := Aside0.mk wf; have n1_ := Aside0.mk wl; have n2_ := Aside0.mk (HB.out.trans (hb.mono HB.out.size)); clear WF WL HB wf wl hb; have WF := n0_; have WL := n1_; have HB := n2_; clear n0_ n1_ n2_))
  go_upto_region 9 with (first | (go_at_call 6; refine (laws_bounds.calls 100 8 true true [128] false [127] _ eB1).mono ?_; rintro e w5 ⟨v1, v3, rfl, h1, h2, hb⟩; obtain ⟨Ao, co, Ah, ch, rfl, rfl, wo, wh, wb⟩ := two_wd (s1 := true) (s2 := false) 1 1 rfl rfl h1 h2; have wf := WF.out.below hb; have wl := WL.out.below hb; have WF5 := Aside0.mk wf; have WL5 := Aside0.mk wl; have HB5 := Aside0.mk (HB.out.trans (hb.mono HB.out.size)); have WO := Aside0.mk wo; have WH := Aside0.mk wh; have WB := Aside0.mk wb; clear h1 h2 hb wo wh wf wl wb))
  have wo := WO.out
  have wh := WH.out
  have wf := WF5.out.below WB.out
  have wl := WL5.out.below WB.out
  have hB := HB5.out.trans (WB.out.mono HB5.out.size)
  obtain ⟨W2, hW2⟩ : ∃ W2, W2 = ((w5.alloc (.cells #[.bool true, .slice Ao 1 co] 27)).alloc (.cells #[.bool false, .slice Ah 1 ch] 27)) := ⟨_, rfl⟩
  rw [← hW2] at wf wl wo wh hB ⊢
  clear hW2 WF WL WB HB HB5 WF5 WL5 WO WH d80 d81 d90 d91
  generalize w5.heap.size = g15 at wo wh ⊢
  have d80 := wf.c0
  have d81 := wf.c1
  have d90 := wl.c0
  have d91 := wl.c1
  have d50 := wo.c0
  have d51 := wo.c1
  have WF := Aside0.mk wf
  have WL := Aside0.mk wl
  have WO := Aside0.mk wo
  have WH := Aside0.mk wh
  have HB := Aside0.mk hB
  have HS := Aside0.mk (Below.refl W2.heap.size W2)
  clear wf wl wo wh hB
  have wf := WF.out.below (below_drew (Below.refl _ W2))
  have wl := WL.out.below (below_drew (Below.refl _ W2))
  have wx := WO.out.below (below_drew (Below.refl _ W2))
  have hG := gr_calls 100 true Ao co [128] false Af cf ([] : List Int) (-1) W2.drew wx.r wx.c wf.r wf.c eC1
  rw [if_neg (by decide)] at hG
  unfold wv at hG
  have HG := Aside0.mk hG
  have WFd := Aside0.mk wf
  have WLd := Aside0.mk wl
  clear hG wf wl wx
  go_region_held3 (fun w' => w'.cell? ⟨g8, 0, none⟩ = some (.bool false) ∧ w'.cell? ⟨g8, 1, none⟩ = some (.slice Af 0 cf) ∧ w'.cell? ⟨g8 + 1, 0, none⟩ = some (.bool false) ∧ w'.cell? ⟨g8 + 1, 1, none⟩ = some (.slice Al 1 cl) ∧ w'.cell? ⟨g15, 0, none⟩ = some (.bool true) ∧ w'.cell? ⟨g15, 1, none⟩ = some (.slice Ao 1 co)) (go_keep) (first | (go_at_call 8; go_loud (refine HG.out.mono ?_; rintro e w6 ⟨rfl, hb⟩; have wf := WFd.out.below hb; have wl := WLd.out.below hb; have d80 := wf.c0; have d81 := wf.c1; have d90 := wl.c0; have d91 := wl.c1;  have n0_ := Aside0.mk wf; have n1_ := Aside0.mk wl; have hx : Below W2.heap.size W2 w6 := (below_drew (Below.refl _ W2)).trans hb; have HB6 := Aside0.mk (HB.out.trans (hx.mono HB.out.size)); have n2_ := Aside0.mk (WO.out.below hx); have n3_ := Aside0.mk (WH.out.below hx); clear hx; have c0_ := n2_.out.c0; have c1_ := n2_.out.c1; clear hb wf wl)) | (go_at_call 7; go_loud (refine (laws_fitted.calls 100 false Af cf ([] : List Int) false Af cf ([] : List Int) false Al cl [255] 0 true _ n0_.out.r n0_.out.c n0_.out.r n0_.out.c n1_.out.r n1_.out.c eF0).mono ?_; rintro e w7 ⟨rfl, hb⟩; have wf := n0_.out.below hb; have wl := n1_.out.below hb; have wx := n2_.out.below hb; have d80 := wf.c0; have d81 := wf.c1; have d90 := wl.c0; have d91 := wl.c1; have e0_ := wx.c0; have e1_ := wx.c1; have HB7 := Aside0.mk (HB6.out.trans (hb.mono HB6.out.size)); have WF7 := Aside0.mk wf; have WL7 := Aside0.mk wl; have WX7 := Aside0.mk wx; have WH7 := Aside0.mk (n3_.out.below hb); clear hb wf wl wx)))
  clear WF WL WO WH HB HG WFd WLd n0_ n1_ n2_ n3_ HB6
  have WF := WF7
  have WL := WL7
  have WH := WH7
  have HB := HB7
  clear WF7 WL7 WH7 WX7 HB7
  have d60 := WH.out.c0
  have d61 := WH.out.c1
  go_upto_region 10 with (fail)
  have wf := WF.out.below (below_drew (Below.refl _ w7))
  have wl := WL.out.below (below_drew (Below.refl _ w7))
  have wx := WH.out.below (below_drew (Below.refl _ w7))
  have hG := sm_calls 100 false Ah ch [127] false Al cl [255] (-1) w7.drew wx.r wx.c wl.r wl.c eC2
  rw [if_pos (by decide)] at hG
  unfold wv at hG
  have HG := Aside0.mk hG
  have WFd := Aside0.mk wf
  have WLd := Aside0.mk wl
  clear hG wf wl wx
  go_region_held3 (fun w' => w'.cell? ⟨g8, 0, none⟩ = some (.bool false) ∧ w'.cell? ⟨g8, 1, none⟩ = some (.slice Af 0 cf) ∧ w'.cell? ⟨g8 + 1, 0, none⟩ = some (.bool false) ∧ w'.cell? ⟨g8 + 1, 1, none⟩ = some (.slice Al 1 cl) ∧ w'.cell? ⟨g15 + 1, 0, none⟩ = some (.bool false) ∧ w'.cell? ⟨g15 + 1, 1, none⟩ = some (.slice Ah 1 ch)) (go_keep) (first | (go_at_call 9; go_loud (refine HG.out.mono ?_; rintro e w8 ⟨rfl, hb⟩; have wf := WFd.out.below hb; have wl := WLd.out.below hb; have d80 := wf.c0; have d81 := wf.c1; have d90 := wl.c0; have d91 := wl.c1;  have n0_ := Aside0.mk wf; have n1_ := Aside0.mk wl; have hx : Below w7.heap.size w7 w8 := (below_drew (Below.refl _ w7)).trans hb; have HB6 := Aside0.mk (HB.out.trans (hx.mono HB.out.size)); have n2_ := Aside0.mk (WH.out.below hx); clear hx; have c0_ := n2_.out.c0; have c1_ := n2_.out.c1; clear hb wf wl)) | (go_at_call 7; go_loud (refine (laws_fitted.calls 100 false Ah ch [127] false Af cf ([] : List Int) false Al cl [255] 127 true _ n2_.out.r n2_.out.c n0_.out.r n0_.out.c n1_.out.r n1_.out.c eF2).mono ?_; rintro e w9 ⟨rfl, hb⟩; have wf := n0_.out.below hb; have wl := n1_.out.below hb; have wx := n2_.out.below hb; have d80 := wf.c0; have d81 := wf.c1; have d90 := wl.c0; have d91 := wl.c1; have e0_ := wx.c0; have e1_ := wx.c1; have HB7 := Aside0.mk (HB6.out.trans (hb.mono HB6.out.size)); have WF7 := Aside0.mk wf; have WL7 := Aside0.mk wl; have WX7 := Aside0.mk wx; clear hb wf wl wx)))
  have HB := HB7
  clear HG WFd WLd n0_ n1_ n2_ HB6
  go_wp2_with (first | (go_at_call 10; refine (su10_8s _).mono ?_; rintro e w10 ⟨rfl, hb⟩; have HB10 := Aside0.mk (HB.out.trans (hb.mono HB.out.size)); clear hb))
  go_ret
  exact ⟨rfl, HB10.out⟩
set_option maxHeartbeats 2000000 in
set_option maxRecDepth 100000 in
theorem law4_8u (w : World) : Calls Tryz.prog 4 #[.int .i64 8, .bool false] w fun e w' => e = .returned (.bool true) ∧ Below w.heap.size w w' := by
  have eB0 : laws_bounds.f 100 8 false = some (false, ([] : List Int), false, [255]) := by decide +kernel
  have eB1 : laws_bounds.f 100 8 false = some (false, ([] : List Int), false, [255]) := by decide +kernel
  have eF0 : laws_fitted.f 100 false ([] : List Int) false ([] : List Int) false [255] = some (0, true) := by decide +kernel
  have eF1 : laws_fitted.f 100 false [255] false ([] : List Int) false [255] = some (255, true) := by decide +kernel
  have eF2 : laws_fitted.f 100 false [255] false ([] : List Int) false [255] = some (255, true) := by decide +kernel
  have eC1 : spec_WideCmp.f 100 false ([] : List Int) false ([] : List Int) = some (0) := by decide +kernel
  have eC2 : spec_WideCmp.f 100 false [255] false [255] = some (0) := by decide +kernel
  go_enter Tryz.func4, Tryz.ntmps4
  go_upto_region 3 with (first | (go_at_call 10; refine (su10_8u _).mono ?_; rintro e w1 ⟨rfl, hb⟩; have HB := Aside0.mk hb; clear hb) | (go_at_call 6; refine (laws_bounds.calls 100 8 false false ([] : List Int) false [255] _ eB0).mono ?_; rintro e w2 ⟨v1, v3, rfl, h1, h2, hb⟩; obtain ⟨Af, cf, Al, cl, rfl, rfl, wf, wl, wb⟩ := two_wd (s1 := false) (s2 := false) 0 1 rfl rfl h1 h2; have HB2 := Aside0.mk (HB.out.trans (hb.mono HB.out.size)); have WF := Aside0.mk wf; have WL := Aside0.mk wl; have WB := Aside0.mk wb; clear h1 h2 hb wf wl wb))
  have wf := WF.out
  have wl := WL.out
  have hB := HB2.out.trans (WB.out.mono HB2.out.size)
  obtain ⟨W1, hW1⟩ : ∃ W1, W1 = ((w2.alloc (.cells #[.bool false, .slice Af 0 cf] 27)).alloc (.cells #[.bool false, .slice Al 1 cl] 27)) := ⟨_, rfl⟩
  rw [← hW1] at wf wl hB ⊢
  clear hW1 WF WL WB HB HB2
  generalize w2.heap.size = g8 at wf wl ⊢
  have d80 := wf.c0
  have d81 := wf.c1
  have d90 := wl.c0
  have d91 := wl.c1
  have WF := Aside0.mk wf
  have WL := Aside0.mk wl
  have HB := Aside0.mk hB
  clear wf wl hB
  go_upto_region 4 with (first | (go_at_call 7; refine (laws_fitted.calls 100 false Af cf ([] : List Int) false Af cf ([] : List Int) false Al cl [255] 0 true _ WF.out.r WF.out.c WF.out.r WF.out.c WL.out.r WL.out.c eF0).mono ?_; rintro e w3 ⟨rfl, hb⟩; have wf := WF.out.below hb; have wl := WL.out.below hb; have d80 := wf.c0; have d81 := wf.c1; have d90 := wl.c0; have d91 := wl.c1; have n0_ := Aside0.mk wf; have n1_ := Aside0.mk wl; have n2_ := Aside0.mk (HB.out.trans (hb.mono HB.out.size)); clear WF WL HB wf wl hb; have WF := n0_; have WL := n1_; have HB := n2_; clear n0_ n1_ n2_))
  go_upto_region 5 with (first | (go_at_call 7; refine (laws_fitted.calls 100 false Al cl [255] false Af cf ([] : List Int) false Al cl [255] 255 true _ WL.out.r WL.out.c WF.out.r WF.out.c WL.out.r WL.out.c eF1).mono ?_; rintro e w4 ⟨rfl, hb⟩; have wf := WF.out.below hb; have wl := WL.out.below hb; have d80 := wf.c0; have d81 := wf.c1; have d90 := wl.c0; have d91 := wl.c1; have n0_ := Aside0.mk wf; have n1_ := Aside0.mk wl; have n2_ := Aside0.mk (HB.out.trans (hb.mono HB.out.size)); clear WF WL HB wf wl hb; have WF := n0_; have WL := n1_; have HB := n2_; clear n0_ n1_ n2_))
  go_upto_region 9 with (first | (go_at_call 6; refine (laws_bounds.calls 100 8 false false ([] : List Int) false [255] _ eB1).mono ?_; rintro e w5 ⟨v1, v3, rfl, h1, h2, hb⟩; obtain ⟨Ao, co, Ah, ch, rfl, rfl, wo, wh, wb⟩ := two_wd (s1 := false) (s2 := false) 0 1 rfl rfl h1 h2; have wf := WF.out.below hb; have wl := WL.out.below hb; have WF5 := Aside0.mk wf; have WL5 := Aside0.mk wl; have HB5 := Aside0.mk (HB.out.trans (hb.mono HB.out.size)); have WO := Aside0.mk wo; have WH := Aside0.mk wh; have WB := Aside0.mk wb; clear h1 h2 hb wo wh wf wl wb))
  have wo := WO.out
  have wh := WH.out
  have wf := WF5.out.below WB.out
  have wl := WL5.out.below WB.out
  have hB := HB5.out.trans (WB.out.mono HB5.out.size)
  obtain ⟨W2, hW2⟩ : ∃ W2, W2 = ((w5.alloc (.cells #[.bool false, .slice Ao 0 co] 27)).alloc (.cells #[.bool false, .slice Ah 1 ch] 27)) := ⟨_, rfl⟩
  rw [← hW2] at wf wl wo wh hB ⊢
  clear hW2 WF WL WB HB HB5 WF5 WL5 WO WH d80 d81 d90 d91
  generalize w5.heap.size = g15 at wo wh ⊢
  have d80 := wf.c0
  have d81 := wf.c1
  have d90 := wl.c0
  have d91 := wl.c1
  have d50 := wo.c0
  have d51 := wo.c1
  have WF := Aside0.mk wf
  have WL := Aside0.mk wl
  have WO := Aside0.mk wo
  have WH := Aside0.mk wh
  have HB := Aside0.mk hB
  have HS := Aside0.mk (Below.refl W2.heap.size W2)
  clear wf wl wo wh hB
  have wf := WF.out.below (below_drew (Below.refl _ W2))
  have wl := WL.out.below (below_drew (Below.refl _ W2))
  have wx := WO.out.below (below_drew (Below.refl _ W2))
  have hG := gr_calls 100 false Ao co ([] : List Int) false Af cf ([] : List Int) (0) W2.drew wx.r wx.c wf.r wf.c eC1
  rw [if_pos (by decide)] at hG
  unfold wv at hG
  have HG := Aside0.mk hG
  have WFd := Aside0.mk wf
  have WLd := Aside0.mk wl
  clear hG wf wl wx
  go_region_held3 (fun w' => w'.cell? ⟨g8, 0, none⟩ = some (.bool false) ∧ w'.cell? ⟨g8, 1, none⟩ = some (.slice Af 0 cf) ∧ w'.cell? ⟨g8 + 1, 0, none⟩ = some (.bool false) ∧ w'.cell? ⟨g8 + 1, 1, none⟩ = some (.slice Al 1 cl) ∧ w'.cell? ⟨g15, 0, none⟩ = some (.bool false) ∧ w'.cell? ⟨g15, 1, none⟩ = some (.slice Ao 0 co)) (go_keep) (first | (go_at_call 8; go_loud (refine HG.out.mono ?_; rintro e w6 ⟨rfl, hb⟩; have wf := WFd.out.below hb; have wl := WLd.out.below hb; have d80 := wf.c0; have d81 := wf.c1; have d90 := wl.c0; have d91 := wl.c1;  have n0_ := Aside0.mk wf; have n1_ := Aside0.mk wl; have hx : Below W2.heap.size W2 w6 := (below_drew (Below.refl _ W2)).trans hb; have HB6 := Aside0.mk (HB.out.trans (hx.mono HB.out.size)); have n2_ := Aside0.mk (WO.out.below hx); have n3_ := Aside0.mk (WH.out.below hx); clear hx; have c0_ := n2_.out.c0; have c1_ := n2_.out.c1; clear hb wf wl)) | (go_at_call 7; go_loud (refine (laws_fitted.calls 100 false Ao co ([] : List Int) false Af cf ([] : List Int) false Al cl [255] 0 true _ n2_.out.r n2_.out.c n0_.out.r n0_.out.c n1_.out.r n1_.out.c eF0).mono ?_; rintro e w7 ⟨rfl, hb⟩; have wf := n0_.out.below hb; have wl := n1_.out.below hb; have wx := n2_.out.below hb; have d80 := wf.c0; have d81 := wf.c1; have d90 := wl.c0; have d91 := wl.c1; have e0_ := wx.c0; have e1_ := wx.c1; have HB7 := Aside0.mk (HB6.out.trans (hb.mono HB6.out.size)); have WF7 := Aside0.mk wf; have WL7 := Aside0.mk wl; have WX7 := Aside0.mk wx; have WH7 := Aside0.mk (n3_.out.below hb); clear hb wf wl wx)))
  clear WF WL WO WH HB HG WFd WLd n0_ n1_ n2_ n3_ HB6
  have WF := WF7
  have WL := WL7
  have WH := WH7
  have HB := HB7
  clear WF7 WL7 WH7 WX7 HB7
  have d60 := WH.out.c0
  have d61 := WH.out.c1
  go_upto_region 10 with (fail)
  have wf := WF.out.below (below_drew (Below.refl _ w7))
  have wl := WL.out.below (below_drew (Below.refl _ w7))
  have wx := WH.out.below (below_drew (Below.refl _ w7))
  have hG := sm_calls 100 false Ah ch [255] false Al cl [255] (0) w7.drew wx.r wx.c wl.r wl.c eC2
  rw [if_pos (by decide)] at hG
  unfold wv at hG
  have HG := Aside0.mk hG
  have WFd := Aside0.mk wf
  have WLd := Aside0.mk wl
  clear hG wf wl wx
  go_region_held3 (fun w' => w'.cell? ⟨g8, 0, none⟩ = some (.bool false) ∧ w'.cell? ⟨g8, 1, none⟩ = some (.slice Af 0 cf) ∧ w'.cell? ⟨g8 + 1, 0, none⟩ = some (.bool false) ∧ w'.cell? ⟨g8 + 1, 1, none⟩ = some (.slice Al 1 cl) ∧ w'.cell? ⟨g15 + 1, 0, none⟩ = some (.bool false) ∧ w'.cell? ⟨g15 + 1, 1, none⟩ = some (.slice Ah 1 ch)) (go_keep) (first | (go_at_call 9; go_loud (refine HG.out.mono ?_; rintro e w8 ⟨rfl, hb⟩; have wf := WFd.out.below hb; have wl := WLd.out.below hb; have d80 := wf.c0; have d81 := wf.c1; have d90 := wl.c0; have d91 := wl.c1;  have n0_ := Aside0.mk wf; have n1_ := Aside0.mk wl; have hx : Below w7.heap.size w7 w8 := (below_drew (Below.refl _ w7)).trans hb; have HB6 := Aside0.mk (HB.out.trans (hx.mono HB.out.size)); have n2_ := Aside0.mk (WH.out.below hx); clear hx; have c0_ := n2_.out.c0; have c1_ := n2_.out.c1; clear hb wf wl)) | (go_at_call 7; go_loud (refine (laws_fitted.calls 100 false Ah ch [255] false Af cf ([] : List Int) false Al cl [255] 255 true _ n2_.out.r n2_.out.c n0_.out.r n0_.out.c n1_.out.r n1_.out.c eF2).mono ?_; rintro e w9 ⟨rfl, hb⟩; have wf := n0_.out.below hb; have wl := n1_.out.below hb; have wx := n2_.out.below hb; have d80 := wf.c0; have d81 := wf.c1; have d90 := wl.c0; have d91 := wl.c1; have e0_ := wx.c0; have e1_ := wx.c1; have HB7 := Aside0.mk (HB6.out.trans (hb.mono HB6.out.size)); have WF7 := Aside0.mk wf; have WL7 := Aside0.mk wl; have WX7 := Aside0.mk wx; clear hb wf wl wx)))
  have HB := HB7
  clear HG WFd WLd n0_ n1_ n2_ HB6
  go_wp2_with (first | (go_at_call 10; refine (su10_8u _).mono ?_; rintro e w10 ⟨rfl, hb⟩; have HB10 := Aside0.mk (HB.out.trans (hb.mono HB.out.size)); clear hb))
  go_ret
  exact ⟨rfl, HB10.out⟩
set_option maxHeartbeats 2000000 in
set_option maxRecDepth 100000 in
theorem law4_16s (w : World) : Calls Tryz.prog 4 #[.int .i64 16, .bool true] w fun e w' => e = .returned (.bool true) ∧ Below w.heap.size w w' := by
  have eB0 : laws_bounds.f 100 8 false = some (false, ([] : List Int), false, [255]) := by decide +kernel
  have eB1 : laws_bounds.f 100 16 true = some (true, [32768], false, [32767]) := by decide +kernel
  have eF0 : laws_fitted.f 100 false ([] : List Int) false ([] : List Int) false [255] = some (0, true) := by decide +kernel
  have eF1 : laws_fitted.f 100 false [255] false ([] : List Int) false [255] = some (255, true) := by decide +kernel
  have eF2 : laws_fitted.f 100 false [255] false ([] : List Int) false [255] = some (255, true) := by decide +kernel
  have eC1 : spec_WideCmp.f 100 true [32768] false ([] : List Int) = some (-1) := by decide +kernel
  have eC2 : spec_WideCmp.f 100 false [32767] false [255] = some (1) := by decide +kernel
  go_enter Tryz.func4, Tryz.ntmps4
  go_upto_region 3 with (first | (go_at_call 10; refine (su10_8u _).mono ?_; rintro e w1 ⟨rfl, hb⟩; have HB := Aside0.mk hb; clear hb) | (go_at_call 6; refine (laws_bounds.calls 100 8 false false ([] : List Int) false [255] _ eB0).mono ?_; rintro e w2 ⟨v1, v3, rfl, h1, h2, hb⟩; obtain ⟨Af, cf, Al, cl, rfl, rfl, wf, wl, wb⟩ := two_wd (s1 := false) (s2 := false) 0 1 rfl rfl h1 h2; have HB2 := Aside0.mk (HB.out.trans (hb.mono HB.out.size)); have WF := Aside0.mk wf; have WL := Aside0.mk wl; have WB := Aside0.mk wb; clear h1 h2 hb wf wl wb))
  have wf := WF.out
  have wl := WL.out
  have hB := HB2.out.trans (WB.out.mono HB2.out.size)
  obtain ⟨W1, hW1⟩ : ∃ W1, W1 = ((w2.alloc (.cells #[.bool false, .slice Af 0 cf] 27)).alloc (.cells #[.bool false, .slice Al 1 cl] 27)) := ⟨_, rfl⟩
  rw [← hW1] at wf wl hB ⊢
  clear hW1 WF WL WB HB HB2
  generalize w2.heap.size = g8 at wf wl ⊢
  have d80 := wf.c0
  have d81 := wf.c1
  have d90 := wl.c0
  have d91 := wl.c1
  have WF := Aside0.mk wf
  have WL := Aside0.mk wl
  have HB := Aside0.mk hB
  clear wf wl hB
  go_upto_region 4 with (first | (go_at_call 7; refine (laws_fitted.calls 100 false Af cf ([] : List Int) false Af cf ([] : List Int) false Al cl [255] 0 true _ WF.out.r WF.out.c WF.out.r WF.out.c WL.out.r WL.out.c eF0).mono ?_; rintro e w3 ⟨rfl, hb⟩; have wf := WF.out.below hb; have wl := WL.out.below hb; have d80 := wf.c0; have d81 := wf.c1; have d90 := wl.c0; have d91 := wl.c1; have n0_ := Aside0.mk wf; have n1_ := Aside0.mk wl; have n2_ := Aside0.mk (HB.out.trans (hb.mono HB.out.size)); clear WF WL HB wf wl hb; have WF := n0_; have WL := n1_; have HB := n2_; clear n0_ n1_ n2_))
  go_upto_region 5 with (first | (go_at_call 7; refine (laws_fitted.calls 100 false Al cl [255] false Af cf ([] : List Int) false Al cl [255] 255 true _ WL.out.r WL.out.c WF.out.r WF.out.c WL.out.r WL.out.c eF1).mono ?_; rintro e w4 ⟨rfl, hb⟩; have wf := WF.out.below hb; have wl := WL.out.below hb; have d80 := wf.c0; have d81 := wf.c1; have d90 := wl.c0; have d91 := wl.c1; have n0_ := Aside0.mk wf; have n1_ := Aside0.mk wl; have n2_ := Aside0.mk (HB.out.trans (hb.mono HB.out.size)); clear WF WL HB wf wl hb; have WF := n0_; have WL := n1_; have HB := n2_; clear n0_ n1_ n2_))
  go_upto_region 9 with (first | (go_at_call 6; refine (laws_bounds.calls 100 16 true true [32768] false [32767] _ eB1).mono ?_; rintro e w5 ⟨v1, v3, rfl, h1, h2, hb⟩; obtain ⟨Ao, co, Ah, ch, rfl, rfl, wo, wh, wb⟩ := two_wd (s1 := true) (s2 := false) 1 1 rfl rfl h1 h2; have wf := WF.out.below hb; have wl := WL.out.below hb; have WF5 := Aside0.mk wf; have WL5 := Aside0.mk wl; have HB5 := Aside0.mk (HB.out.trans (hb.mono HB.out.size)); have WO := Aside0.mk wo; have WH := Aside0.mk wh; have WB := Aside0.mk wb; clear h1 h2 hb wo wh wf wl wb))
  have wo := WO.out
  have wh := WH.out
  have wf := WF5.out.below WB.out
  have wl := WL5.out.below WB.out
  have hB := HB5.out.trans (WB.out.mono HB5.out.size)
  obtain ⟨W2, hW2⟩ : ∃ W2, W2 = ((w5.alloc (.cells #[.bool true, .slice Ao 1 co] 27)).alloc (.cells #[.bool false, .slice Ah 1 ch] 27)) := ⟨_, rfl⟩
  rw [← hW2] at wf wl wo wh hB ⊢
  clear hW2 WF WL WB HB HB5 WF5 WL5 WO WH d80 d81 d90 d91
  generalize w5.heap.size = g15 at wo wh ⊢
  have d80 := wf.c0
  have d81 := wf.c1
  have d90 := wl.c0
  have d91 := wl.c1
  have d50 := wo.c0
  have d51 := wo.c1
  have WF := Aside0.mk wf
  have WL := Aside0.mk wl
  have WO := Aside0.mk wo
  have WH := Aside0.mk wh
  have HB := Aside0.mk hB
  have HS := Aside0.mk (Below.refl W2.heap.size W2)
  clear wf wl wo wh hB
  have wf := WF.out.below (below_drew (Below.refl _ W2))
  have wl := WL.out.below (below_drew (Below.refl _ W2))
  have wx := WO.out.below (below_drew (Below.refl _ W2))
  have hG := gr_calls 100 true Ao co [32768] false Af cf ([] : List Int) (-1) W2.drew wx.r wx.c wf.r wf.c eC1
  rw [if_neg (by decide)] at hG
  unfold wv at hG
  have HG := Aside0.mk hG
  have WFd := Aside0.mk wf
  have WLd := Aside0.mk wl
  clear hG wf wl wx
  go_region_held3 (fun w' => w'.cell? ⟨g8, 0, none⟩ = some (.bool false) ∧ w'.cell? ⟨g8, 1, none⟩ = some (.slice Af 0 cf) ∧ w'.cell? ⟨g8 + 1, 0, none⟩ = some (.bool false) ∧ w'.cell? ⟨g8 + 1, 1, none⟩ = some (.slice Al 1 cl) ∧ w'.cell? ⟨g15, 0, none⟩ = some (.bool true) ∧ w'.cell? ⟨g15, 1, none⟩ = some (.slice Ao 1 co)) (go_keep) (first | (go_at_call 8; go_loud (refine HG.out.mono ?_; rintro e w6 ⟨rfl, hb⟩; have wf := WFd.out.below hb; have wl := WLd.out.below hb; have d80 := wf.c0; have d81 := wf.c1; have d90 := wl.c0; have d91 := wl.c1;  have n0_ := Aside0.mk wf; have n1_ := Aside0.mk wl; have hx : Below W2.heap.size W2 w6 := (below_drew (Below.refl _ W2)).trans hb; have HB6 := Aside0.mk (HB.out.trans (hx.mono HB.out.size)); have n2_ := Aside0.mk (WO.out.below hx); have n3_ := Aside0.mk (WH.out.below hx); clear hx; have c0_ := n2_.out.c0; have c1_ := n2_.out.c1; clear hb wf wl)) | (go_at_call 7; go_loud (refine (laws_fitted.calls 100 false Af cf ([] : List Int) false Af cf ([] : List Int) false Al cl [255] 0 true _ n0_.out.r n0_.out.c n0_.out.r n0_.out.c n1_.out.r n1_.out.c eF0).mono ?_; rintro e w7 ⟨rfl, hb⟩; have wf := n0_.out.below hb; have wl := n1_.out.below hb; have wx := n2_.out.below hb; have d80 := wf.c0; have d81 := wf.c1; have d90 := wl.c0; have d91 := wl.c1; have e0_ := wx.c0; have e1_ := wx.c1; have HB7 := Aside0.mk (HB6.out.trans (hb.mono HB6.out.size)); have WF7 := Aside0.mk wf; have WL7 := Aside0.mk wl; have WX7 := Aside0.mk wx; have WH7 := Aside0.mk (n3_.out.below hb); clear hb wf wl wx)))
  clear WF WL WO WH HB HG WFd WLd n0_ n1_ n2_ n3_ HB6
  have WF := WF7
  have WL := WL7
  have WH := WH7
  have HB := HB7
  clear WF7 WL7 WH7 WX7 HB7
  have d60 := WH.out.c0
  have d61 := WH.out.c1
  go_upto_region 10 with (fail)
  have wf := WF.out.below (below_drew (Below.refl _ w7))
  have wl := WL.out.below (below_drew (Below.refl _ w7))
  have wx := WH.out.below (below_drew (Below.refl _ w7))
  have hG := sm_calls 100 false Ah ch [32767] false Al cl [255] (1) w7.drew wx.r wx.c wl.r wl.c eC2
  rw [if_neg (by decide)] at hG
  unfold wv at hG
  have HG := Aside0.mk hG
  have WFd := Aside0.mk wf
  have WLd := Aside0.mk wl
  clear hG wf wl wx
  go_region_held3 (fun w' => w'.cell? ⟨g8, 0, none⟩ = some (.bool false) ∧ w'.cell? ⟨g8, 1, none⟩ = some (.slice Af 0 cf) ∧ w'.cell? ⟨g8 + 1, 0, none⟩ = some (.bool false) ∧ w'.cell? ⟨g8 + 1, 1, none⟩ = some (.slice Al 1 cl) ∧ w'.cell? ⟨g15 + 1, 0, none⟩ = some (.bool false) ∧ w'.cell? ⟨g15 + 1, 1, none⟩ = some (.slice Ah 1 ch)) (go_keep) (first | (go_at_call 9; go_loud (refine HG.out.mono ?_; rintro e w8 ⟨rfl, hb⟩; have wf := WFd.out.below hb; have wl := WLd.out.below hb; have d80 := wf.c0; have d81 := wf.c1; have d90 := wl.c0; have d91 := wl.c1;  have n0_ := Aside0.mk wf; have n1_ := Aside0.mk wl; have hx : Below w7.heap.size w7 w8 := (below_drew (Below.refl _ w7)).trans hb; have HB6 := Aside0.mk (HB.out.trans (hx.mono HB.out.size)); have n2_ := Aside0.mk (WH.out.below hx); clear hx; have c0_ := n2_.out.c0; have c1_ := n2_.out.c1; clear hb wf wl)) | (go_at_call 7; go_loud (refine (laws_fitted.calls 100 false Al cl [255] false Af cf ([] : List Int) false Al cl [255] 255 true _ n1_.out.r n1_.out.c n0_.out.r n0_.out.c n1_.out.r n1_.out.c eF2).mono ?_; rintro e w9 ⟨rfl, hb⟩; have wf := n0_.out.below hb; have wl := n1_.out.below hb; have wx := n2_.out.below hb; have d80 := wf.c0; have d81 := wf.c1; have d90 := wl.c0; have d91 := wl.c1; have e0_ := wx.c0; have e1_ := wx.c1; have HB7 := Aside0.mk (HB6.out.trans (hb.mono HB6.out.size)); have WF7 := Aside0.mk wf; have WL7 := Aside0.mk wl; have WX7 := Aside0.mk wx; clear hb wf wl wx)))
  have HB := HB7
  clear HG WFd WLd n0_ n1_ n2_ HB6
  go_wp2_with (first | (go_at_call 10; refine (su10_16s _).mono ?_; rintro e w10 ⟨rfl, hb⟩; have HB10 := Aside0.mk (HB.out.trans (hb.mono HB.out.size)); clear hb))
  go_ret
  exact ⟨rfl, HB10.out⟩
set_option maxHeartbeats 2000000 in
set_option maxRecDepth 100000 in
theorem law4_16u (w : World) : Calls Tryz.prog 4 #[.int .i64 16, .bool false] w fun e w' => e = .returned (.bool true) ∧ Below w.heap.size w w' := by
  have eB0 : laws_bounds.f 100 8 false = some (false, ([] : List Int), false, [255]) := by decide +kernel
  have eB1 : laws_bounds.f 100 16 false = some (false, ([] : List Int), false, [65535]) := by decide +kernel
  have eF0 : laws_fitted.f 100 false ([] : List Int) false ([] : List Int) false [255] = some (0, true) := by decide +kernel
  have eF1 : laws_fitted.f 100 false [255] false ([] : List Int) false [255] = some (255, true) := by decide +kernel
  have eF2 : laws_fitted.f 100 false [255] false ([] : List Int) false [255] = some (255, true) := by decide +kernel
  have eC1 : spec_WideCmp.f 100 false ([] : List Int) false ([] : List Int) = some (0) := by decide +kernel
  have eC2 : spec_WideCmp.f 100 false [65535] false [255] = some (1) := by decide +kernel
  go_enter Tryz.func4, Tryz.ntmps4
  go_upto_region 3 with (first | (go_at_call 10; refine (su10_8u _).mono ?_; rintro e w1 ⟨rfl, hb⟩; have HB := Aside0.mk hb; clear hb) | (go_at_call 6; refine (laws_bounds.calls 100 8 false false ([] : List Int) false [255] _ eB0).mono ?_; rintro e w2 ⟨v1, v3, rfl, h1, h2, hb⟩; obtain ⟨Af, cf, Al, cl, rfl, rfl, wf, wl, wb⟩ := two_wd (s1 := false) (s2 := false) 0 1 rfl rfl h1 h2; have HB2 := Aside0.mk (HB.out.trans (hb.mono HB.out.size)); have WF := Aside0.mk wf; have WL := Aside0.mk wl; have WB := Aside0.mk wb; clear h1 h2 hb wf wl wb))
  have wf := WF.out
  have wl := WL.out
  have hB := HB2.out.trans (WB.out.mono HB2.out.size)
  obtain ⟨W1, hW1⟩ : ∃ W1, W1 = ((w2.alloc (.cells #[.bool false, .slice Af 0 cf] 27)).alloc (.cells #[.bool false, .slice Al 1 cl] 27)) := ⟨_, rfl⟩
  rw [← hW1] at wf wl hB ⊢
  clear hW1 WF WL WB HB HB2
  generalize w2.heap.size = g8 at wf wl ⊢
  have d80 := wf.c0
  have d81 := wf.c1
  have d90 := wl.c0
  have d91 := wl.c1
  have WF := Aside0.mk wf
  have WL := Aside0.mk wl
  have HB := Aside0.mk hB
  clear wf wl hB
  go_upto_region 4 with (first | (go_at_call 7; refine (laws_fitted.calls 100 false Af cf ([] : List Int) false Af cf ([] : List Int) false Al cl [255] 0 true _ WF.out.r WF.out.c WF.out.r WF.out.c WL.out.r WL.out.c eF0).mono ?_; rintro e w3 ⟨rfl, hb⟩; have wf := WF.out.below hb; have wl := WL.out.below hb; have d80 := wf.c0; have d81 := wf.c1; have d90 := wl.c0; have d91 := wl.c1; have n0_ := Aside0.mk wf; have n1_ := Aside0.mk wl; have n2_ := Aside0.mk (HB.out.trans (hb.mono HB.out.size)); clear WF WL HB wf wl hb; have WF := n0_; have WL := n1_; have HB := n2_; clear n0_ n1_ n2_))
  go_upto_region 5 with (first | (go_at_call 7; refine (laws_fitted.calls 100 false Al cl [255] false Af cf ([] : List Int) false Al cl [255] 255 true _ WL.out.r WL.out.c WF.out.r WF.out.c WL.out.r WL.out.c eF1).mono ?_; rintro e w4 ⟨rfl, hb⟩; have wf := WF.out.below hb; have wl := WL.out.below hb; have d80 := wf.c0; have d81 := wf.c1; have d90 := wl.c0; have d91 := wl.c1; have n0_ := Aside0.mk wf; have n1_ := Aside0.mk wl; have n2_ := Aside0.mk (HB.out.trans (hb.mono HB.out.size)); clear WF WL HB wf wl hb; have WF := n0_; have WL := n1_; have HB := n2_; clear n0_ n1_ n2_))
  go_upto_region 9 with (first | (go_at_call 6; refine (laws_bounds.calls 100 16 false false ([] : List Int) false [65535] _ eB1).mono ?_; rintro e w5 ⟨v1, v3, rfl, h1, h2, hb⟩; obtain ⟨Ao, co, Ah, ch, rfl, rfl, wo, wh, wb⟩ := two_wd (s1 := false) (s2 := false) 0 1 rfl rfl h1 h2; have wf := WF.out.below hb; have wl := WL.out.below hb; have WF5 := Aside0.mk wf; have WL5 := Aside0.mk wl; have HB5 := Aside0.mk (HB.out.trans (hb.mono HB.out.size)); have WO := Aside0.mk wo; have WH := Aside0.mk wh; have WB := Aside0.mk wb; clear h1 h2 hb wo wh wf wl wb))
  have wo := WO.out
  have wh := WH.out
  have wf := WF5.out.below WB.out
  have wl := WL5.out.below WB.out
  have hB := HB5.out.trans (WB.out.mono HB5.out.size)
  obtain ⟨W2, hW2⟩ : ∃ W2, W2 = ((w5.alloc (.cells #[.bool false, .slice Ao 0 co] 27)).alloc (.cells #[.bool false, .slice Ah 1 ch] 27)) := ⟨_, rfl⟩
  rw [← hW2] at wf wl wo wh hB ⊢
  clear hW2 WF WL WB HB HB5 WF5 WL5 WO WH d80 d81 d90 d91
  generalize w5.heap.size = g15 at wo wh ⊢
  have d80 := wf.c0
  have d81 := wf.c1
  have d90 := wl.c0
  have d91 := wl.c1
  have d50 := wo.c0
  have d51 := wo.c1
  have WF := Aside0.mk wf
  have WL := Aside0.mk wl
  have WO := Aside0.mk wo
  have WH := Aside0.mk wh
  have HB := Aside0.mk hB
  have HS := Aside0.mk (Below.refl W2.heap.size W2)
  clear wf wl wo wh hB
  have wf := WF.out.below (below_drew (Below.refl _ W2))
  have wl := WL.out.below (below_drew (Below.refl _ W2))
  have wx := WO.out.below (below_drew (Below.refl _ W2))
  have hG := gr_calls 100 false Ao co ([] : List Int) false Af cf ([] : List Int) (0) W2.drew wx.r wx.c wf.r wf.c eC1
  rw [if_pos (by decide)] at hG
  unfold wv at hG
  have HG := Aside0.mk hG
  have WFd := Aside0.mk wf
  have WLd := Aside0.mk wl
  clear hG wf wl wx
  go_region_held3 (fun w' => w'.cell? ⟨g8, 0, none⟩ = some (.bool false) ∧ w'.cell? ⟨g8, 1, none⟩ = some (.slice Af 0 cf) ∧ w'.cell? ⟨g8 + 1, 0, none⟩ = some (.bool false) ∧ w'.cell? ⟨g8 + 1, 1, none⟩ = some (.slice Al 1 cl) ∧ w'.cell? ⟨g15, 0, none⟩ = some (.bool false) ∧ w'.cell? ⟨g15, 1, none⟩ = some (.slice Ao 0 co)) (go_keep) (first | (go_at_call 8; go_loud (refine HG.out.mono ?_; rintro e w6 ⟨rfl, hb⟩; have wf := WFd.out.below hb; have wl := WLd.out.below hb; have d80 := wf.c0; have d81 := wf.c1; have d90 := wl.c0; have d91 := wl.c1;  have n0_ := Aside0.mk wf; have n1_ := Aside0.mk wl; have hx : Below W2.heap.size W2 w6 := (below_drew (Below.refl _ W2)).trans hb; have HB6 := Aside0.mk (HB.out.trans (hx.mono HB.out.size)); have n2_ := Aside0.mk (WO.out.below hx); have n3_ := Aside0.mk (WH.out.below hx); clear hx; have c0_ := n2_.out.c0; have c1_ := n2_.out.c1; clear hb wf wl)) | (go_at_call 7; go_loud (refine (laws_fitted.calls 100 false Ao co ([] : List Int) false Af cf ([] : List Int) false Al cl [255] 0 true _ n2_.out.r n2_.out.c n0_.out.r n0_.out.c n1_.out.r n1_.out.c eF0).mono ?_; rintro e w7 ⟨rfl, hb⟩; have wf := n0_.out.below hb; have wl := n1_.out.below hb; have wx := n2_.out.below hb; have d80 := wf.c0; have d81 := wf.c1; have d90 := wl.c0; have d91 := wl.c1; have e0_ := wx.c0; have e1_ := wx.c1; have HB7 := Aside0.mk (HB6.out.trans (hb.mono HB6.out.size)); have WF7 := Aside0.mk wf; have WL7 := Aside0.mk wl; have WX7 := Aside0.mk wx; have WH7 := Aside0.mk (n3_.out.below hb); clear hb wf wl wx)))
  clear WF WL WO WH HB HG WFd WLd n0_ n1_ n2_ n3_ HB6
  have WF := WF7
  have WL := WL7
  have WH := WH7
  have HB := HB7
  clear WF7 WL7 WH7 WX7 HB7
  have d60 := WH.out.c0
  have d61 := WH.out.c1
  go_upto_region 10 with (fail)
  have wf := WF.out.below (below_drew (Below.refl _ w7))
  have wl := WL.out.below (below_drew (Below.refl _ w7))
  have wx := WH.out.below (below_drew (Below.refl _ w7))
  have hG := sm_calls 100 false Ah ch [65535] false Al cl [255] (1) w7.drew wx.r wx.c wl.r wl.c eC2
  rw [if_neg (by decide)] at hG
  unfold wv at hG
  have HG := Aside0.mk hG
  have WFd := Aside0.mk wf
  have WLd := Aside0.mk wl
  clear hG wf wl wx
  go_region_held3 (fun w' => w'.cell? ⟨g8, 0, none⟩ = some (.bool false) ∧ w'.cell? ⟨g8, 1, none⟩ = some (.slice Af 0 cf) ∧ w'.cell? ⟨g8 + 1, 0, none⟩ = some (.bool false) ∧ w'.cell? ⟨g8 + 1, 1, none⟩ = some (.slice Al 1 cl) ∧ w'.cell? ⟨g15 + 1, 0, none⟩ = some (.bool false) ∧ w'.cell? ⟨g15 + 1, 1, none⟩ = some (.slice Ah 1 ch)) (go_keep) (first | (go_at_call 9; go_loud (refine HG.out.mono ?_; rintro e w8 ⟨rfl, hb⟩; have wf := WFd.out.below hb; have wl := WLd.out.below hb; have d80 := wf.c0; have d81 := wf.c1; have d90 := wl.c0; have d91 := wl.c1;  have n0_ := Aside0.mk wf; have n1_ := Aside0.mk wl; have hx : Below w7.heap.size w7 w8 := (below_drew (Below.refl _ w7)).trans hb; have HB6 := Aside0.mk (HB.out.trans (hx.mono HB.out.size)); have n2_ := Aside0.mk (WH.out.below hx); clear hx; have c0_ := n2_.out.c0; have c1_ := n2_.out.c1; clear hb wf wl)) | (go_at_call 7; go_loud (refine (laws_fitted.calls 100 false Al cl [255] false Af cf ([] : List Int) false Al cl [255] 255 true _ n1_.out.r n1_.out.c n0_.out.r n0_.out.c n1_.out.r n1_.out.c eF2).mono ?_; rintro e w9 ⟨rfl, hb⟩; have wf := n0_.out.below hb; have wl := n1_.out.below hb; have wx := n2_.out.below hb; have d80 := wf.c0; have d81 := wf.c1; have d90 := wl.c0; have d91 := wl.c1; have e0_ := wx.c0; have e1_ := wx.c1; have HB7 := Aside0.mk (HB6.out.trans (hb.mono HB6.out.size)); have WF7 := Aside0.mk wf; have WL7 := Aside0.mk wl; have WX7 := Aside0.mk wx; clear hb wf wl wx)))
  have HB := HB7
  clear HG WFd WLd n0_ n1_ n2_ HB6
  go_wp2_with (first | (go_at_call 10; refine (su10_16u _).mono ?_; rintro e w10 ⟨rfl, hb⟩; have HB10 := Aside0.mk (HB.out.trans (hb.mono HB.out.size)); clear hb))
  go_ret
  exact ⟨rfl, HB10.out⟩
set_option maxHeartbeats 2000000 in
set_option maxRecDepth 100000 in
theorem law4_32s (w : World) : Calls Tryz.prog 4 #[.int .i64 32, .bool true] w fun e w' => e = .returned (.bool true) ∧ Below w.heap.size w w' := by
  have eB0 : laws_bounds.f 100 8 false = some (false, ([] : List Int), false, [255]) := by decide +kernel
  have eB1 : laws_bounds.f 100 32 true = some (true, [2147483648], false, [2147483647]) := by decide +kernel
  have eF0 : laws_fitted.f 100 false ([] : List Int) false ([] : List Int) false [255] = some (0, true) := by decide +kernel
  have eF1 : laws_fitted.f 100 false [255] false ([] : List Int) false [255] = some (255, true) := by decide +kernel
  have eF2 : laws_fitted.f 100 false [255] false ([] : List Int) false [255] = some (255, true) := by decide +kernel
  have eC1 : spec_WideCmp.f 100 true [2147483648] false ([] : List Int) = some (-1) := by decide +kernel
  have eC2 : spec_WideCmp.f 100 false [2147483647] false [255] = some (1) := by decide +kernel
  go_enter Tryz.func4, Tryz.ntmps4
  go_upto_region 3 with (first | (go_at_call 10; refine (su10_8u _).mono ?_; rintro e w1 ⟨rfl, hb⟩; have HB := Aside0.mk hb; clear hb) | (go_at_call 6; refine (laws_bounds.calls 100 8 false false ([] : List Int) false [255] _ eB0).mono ?_; rintro e w2 ⟨v1, v3, rfl, h1, h2, hb⟩; obtain ⟨Af, cf, Al, cl, rfl, rfl, wf, wl, wb⟩ := two_wd (s1 := false) (s2 := false) 0 1 rfl rfl h1 h2; have HB2 := Aside0.mk (HB.out.trans (hb.mono HB.out.size)); have WF := Aside0.mk wf; have WL := Aside0.mk wl; have WB := Aside0.mk wb; clear h1 h2 hb wf wl wb))
  have wf := WF.out
  have wl := WL.out
  have hB := HB2.out.trans (WB.out.mono HB2.out.size)
  obtain ⟨W1, hW1⟩ : ∃ W1, W1 = ((w2.alloc (.cells #[.bool false, .slice Af 0 cf] 27)).alloc (.cells #[.bool false, .slice Al 1 cl] 27)) := ⟨_, rfl⟩
  rw [← hW1] at wf wl hB ⊢
  clear hW1 WF WL WB HB HB2
  generalize w2.heap.size = g8 at wf wl ⊢
  have d80 := wf.c0
  have d81 := wf.c1
  have d90 := wl.c0
  have d91 := wl.c1
  have WF := Aside0.mk wf
  have WL := Aside0.mk wl
  have HB := Aside0.mk hB
  clear wf wl hB
  go_upto_region 4 with (first | (go_at_call 7; refine (laws_fitted.calls 100 false Af cf ([] : List Int) false Af cf ([] : List Int) false Al cl [255] 0 true _ WF.out.r WF.out.c WF.out.r WF.out.c WL.out.r WL.out.c eF0).mono ?_; rintro e w3 ⟨rfl, hb⟩; have wf := WF.out.below hb; have wl := WL.out.below hb; have d80 := wf.c0; have d81 := wf.c1; have d90 := wl.c0; have d91 := wl.c1; have n0_ := Aside0.mk wf; have n1_ := Aside0.mk wl; have n2_ := Aside0.mk (HB.out.trans (hb.mono HB.out.size)); clear WF WL HB wf wl hb; have WF := n0_; have WL := n1_; have HB := n2_; clear n0_ n1_ n2_))
  go_upto_region 5 with (first | (go_at_call 7; refine (laws_fitted.calls 100 false Al cl [255] false Af cf ([] : List Int) false Al cl [255] 255 true _ WL.out.r WL.out.c WF.out.r WF.out.c WL.out.r WL.out.c eF1).mono ?_; rintro e w4 ⟨rfl, hb⟩; have wf := WF.out.below hb; have wl := WL.out.below hb; have d80 := wf.c0; have d81 := wf.c1; have d90 := wl.c0; have d91 := wl.c1; have n0_ := Aside0.mk wf; have n1_ := Aside0.mk wl; have n2_ := Aside0.mk (HB.out.trans (hb.mono HB.out.size)); clear WF WL HB wf wl hb; have WF := n0_; have WL := n1_; have HB := n2_; clear n0_ n1_ n2_))
  go_upto_region 9 with (first | (go_at_call 6; refine (laws_bounds.calls 100 32 true true [2147483648] false [2147483647] _ eB1).mono ?_; rintro e w5 ⟨v1, v3, rfl, h1, h2, hb⟩; obtain ⟨Ao, co, Ah, ch, rfl, rfl, wo, wh, wb⟩ := two_wd (s1 := true) (s2 := false) 1 1 rfl rfl h1 h2; have wf := WF.out.below hb; have wl := WL.out.below hb; have WF5 := Aside0.mk wf; have WL5 := Aside0.mk wl; have HB5 := Aside0.mk (HB.out.trans (hb.mono HB.out.size)); have WO := Aside0.mk wo; have WH := Aside0.mk wh; have WB := Aside0.mk wb; clear h1 h2 hb wo wh wf wl wb))
  have wo := WO.out
  have wh := WH.out
  have wf := WF5.out.below WB.out
  have wl := WL5.out.below WB.out
  have hB := HB5.out.trans (WB.out.mono HB5.out.size)
  obtain ⟨W2, hW2⟩ : ∃ W2, W2 = ((w5.alloc (.cells #[.bool true, .slice Ao 1 co] 27)).alloc (.cells #[.bool false, .slice Ah 1 ch] 27)) := ⟨_, rfl⟩
  rw [← hW2] at wf wl wo wh hB ⊢
  clear hW2 WF WL WB HB HB5 WF5 WL5 WO WH d80 d81 d90 d91
  generalize w5.heap.size = g15 at wo wh ⊢
  have d80 := wf.c0
  have d81 := wf.c1
  have d90 := wl.c0
  have d91 := wl.c1
  have d50 := wo.c0
  have d51 := wo.c1
  have WF := Aside0.mk wf
  have WL := Aside0.mk wl
  have WO := Aside0.mk wo
  have WH := Aside0.mk wh
  have HB := Aside0.mk hB
  have HS := Aside0.mk (Below.refl W2.heap.size W2)
  clear wf wl wo wh hB
  have wf := WF.out.below (below_drew (Below.refl _ W2))
  have wl := WL.out.below (below_drew (Below.refl _ W2))
  have wx := WO.out.below (below_drew (Below.refl _ W2))
  have hG := gr_calls 100 true Ao co [2147483648] false Af cf ([] : List Int) (-1) W2.drew wx.r wx.c wf.r wf.c eC1
  rw [if_neg (by decide)] at hG
  unfold wv at hG
  have HG := Aside0.mk hG
  have WFd := Aside0.mk wf
  have WLd := Aside0.mk wl
  clear hG wf wl wx
  go_region_held3 (fun w' => w'.cell? ⟨g8, 0, none⟩ = some (.bool false) ∧ w'.cell? ⟨g8, 1, none⟩ = some (.slice Af 0 cf) ∧ w'.cell? ⟨g8 + 1, 0, none⟩ = some (.bool false) ∧ w'.cell? ⟨g8 + 1, 1, none⟩ = some (.slice Al 1 cl) ∧ w'.cell? ⟨g15, 0, none⟩ = some (.bool true) ∧ w'.cell? ⟨g15, 1, none⟩ = some (.slice Ao 1 co)) (go_keep) (first | (go_at_call 8; go_loud (refine HG.out.mono ?_; rintro e w6 ⟨rfl, hb⟩; have wf := WFd.out.below hb; have wl := WLd.out.below hb; have d80 := wf.c0; have d81 := wf.c1; have d90 := wl.c0; have d91 := wl.c1;  have n0_ := Aside0.mk wf; have n1_ := Aside0.mk wl; have hx : Below W2.heap.size W2 w6 := (below_drew (Below.refl _ W2)).trans hb; have HB6 := Aside0.mk (HB.out.trans (hx.mono HB.out.size)); have n2_ := Aside0.mk (WO.out.below hx); have n3_ := Aside0.mk (WH.out.below hx); clear hx; have c0_ := n2_.out.c0; have c1_ := n2_.out.c1; clear hb wf wl)) | (go_at_call 7; go_loud (refine (laws_fitted.calls 100 false Af cf ([] : List Int) false Af cf ([] : List Int) false Al cl [255] 0 true _ n0_.out.r n0_.out.c n0_.out.r n0_.out.c n1_.out.r n1_.out.c eF0).mono ?_; rintro e w7 ⟨rfl, hb⟩; have wf := n0_.out.below hb; have wl := n1_.out.below hb; have wx := n2_.out.below hb; have d80 := wf.c0; have d81 := wf.c1; have d90 := wl.c0; have d91 := wl.c1; have e0_ := wx.c0; have e1_ := wx.c1; have HB7 := Aside0.mk (HB6.out.trans (hb.mono HB6.out.size)); have WF7 := Aside0.mk wf; have WL7 := Aside0.mk wl; have WX7 := Aside0.mk wx; have WH7 := Aside0.mk (n3_.out.below hb); clear hb wf wl wx)))
  clear WF WL WO WH HB HG WFd WLd n0_ n1_ n2_ n3_ HB6
  have WF := WF7
  have WL := WL7
  have WH := WH7
  have HB := HB7
  clear WF7 WL7 WH7 WX7 HB7
  have d60 := WH.out.c0
  have d61 := WH.out.c1
  go_upto_region 10 with (fail)
  have wf := WF.out.below (below_drew (Below.refl _ w7))
  have wl := WL.out.below (below_drew (Below.refl _ w7))
  have wx := WH.out.below (below_drew (Below.refl _ w7))
  have hG := sm_calls 100 false Ah ch [2147483647] false Al cl [255] (1) w7.drew wx.r wx.c wl.r wl.c eC2
  rw [if_neg (by decide)] at hG
  unfold wv at hG
  have HG := Aside0.mk hG
  have WFd := Aside0.mk wf
  have WLd := Aside0.mk wl
  clear hG wf wl wx
  go_region_held3 (fun w' => w'.cell? ⟨g8, 0, none⟩ = some (.bool false) ∧ w'.cell? ⟨g8, 1, none⟩ = some (.slice Af 0 cf) ∧ w'.cell? ⟨g8 + 1, 0, none⟩ = some (.bool false) ∧ w'.cell? ⟨g8 + 1, 1, none⟩ = some (.slice Al 1 cl) ∧ w'.cell? ⟨g15 + 1, 0, none⟩ = some (.bool false) ∧ w'.cell? ⟨g15 + 1, 1, none⟩ = some (.slice Ah 1 ch)) (go_keep) (first | (go_at_call 9; go_loud (refine HG.out.mono ?_; rintro e w8 ⟨rfl, hb⟩; have wf := WFd.out.below hb; have wl := WLd.out.below hb; have d80 := wf.c0; have d81 := wf.c1; have d90 := wl.c0; have d91 := wl.c1;  have n0_ := Aside0.mk wf; have n1_ := Aside0.mk wl; have hx : Below w7.heap.size w7 w8 := (below_drew (Below.refl _ w7)).trans hb; have HB6 := Aside0.mk (HB.out.trans (hx.mono HB.out.size)); have n2_ := Aside0.mk (WH.out.below hx); clear hx; have c0_ := n2_.out.c0; have c1_ := n2_.out.c1; clear hb wf wl)) | (go_at_call 7; go_loud (refine (laws_fitted.calls 100 false Al cl [255] false Af cf ([] : List Int) false Al cl [255] 255 true _ n1_.out.r n1_.out.c n0_.out.r n0_.out.c n1_.out.r n1_.out.c eF2).mono ?_; rintro e w9 ⟨rfl, hb⟩; have wf := n0_.out.below hb; have wl := n1_.out.below hb; have wx := n2_.out.below hb; have d80 := wf.c0; have d81 := wf.c1; have d90 := wl.c0; have d91 := wl.c1; have e0_ := wx.c0; have e1_ := wx.c1; have HB7 := Aside0.mk (HB6.out.trans (hb.mono HB6.out.size)); have WF7 := Aside0.mk wf; have WL7 := Aside0.mk wl; have WX7 := Aside0.mk wx; clear hb wf wl wx)))
  have HB := HB7
  clear HG WFd WLd n0_ n1_ n2_ HB6
  go_wp2_with (first | (go_at_call 10; refine (su10_32s _).mono ?_; rintro e w10 ⟨rfl, hb⟩; have HB10 := Aside0.mk (HB.out.trans (hb.mono HB.out.size)); clear hb))
  go_ret
  exact ⟨rfl, HB10.out⟩
set_option maxHeartbeats 2000000 in
set_option maxRecDepth 100000 in
theorem law4_32u (w : World) : Calls Tryz.prog 4 #[.int .i64 32, .bool false] w fun e w' => e = .returned (.bool true) ∧ Below w.heap.size w w' := by
  have eB0 : laws_bounds.f 100 8 false = some (false, ([] : List Int), false, [255]) := by decide +kernel
  have eB1 : laws_bounds.f 100 32 false = some (false, ([] : List Int), false, [4294967295]) := by decide +kernel
  have eF0 : laws_fitted.f 100 false ([] : List Int) false ([] : List Int) false [255] = some (0, true) := by decide +kernel
  have eF1 : laws_fitted.f 100 false [255] false ([] : List Int) false [255] = some (255, true) := by decide +kernel
  have eF2 : laws_fitted.f 100 false [255] false ([] : List Int) false [255] = some (255, true) := by decide +kernel
  have eC1 : spec_WideCmp.f 100 false ([] : List Int) false ([] : List Int) = some (0) := by decide +kernel
  have eC2 : spec_WideCmp.f 100 false [4294967295] false [255] = some (1) := by decide +kernel
  go_enter Tryz.func4, Tryz.ntmps4
  go_upto_region 3 with (first | (go_at_call 10; refine (su10_8u _).mono ?_; rintro e w1 ⟨rfl, hb⟩; have HB := Aside0.mk hb; clear hb) | (go_at_call 6; refine (laws_bounds.calls 100 8 false false ([] : List Int) false [255] _ eB0).mono ?_; rintro e w2 ⟨v1, v3, rfl, h1, h2, hb⟩; obtain ⟨Af, cf, Al, cl, rfl, rfl, wf, wl, wb⟩ := two_wd (s1 := false) (s2 := false) 0 1 rfl rfl h1 h2; have HB2 := Aside0.mk (HB.out.trans (hb.mono HB.out.size)); have WF := Aside0.mk wf; have WL := Aside0.mk wl; have WB := Aside0.mk wb; clear h1 h2 hb wf wl wb))
  have wf := WF.out
  have wl := WL.out
  have hB := HB2.out.trans (WB.out.mono HB2.out.size)
  obtain ⟨W1, hW1⟩ : ∃ W1, W1 = ((w2.alloc (.cells #[.bool false, .slice Af 0 cf] 27)).alloc (.cells #[.bool false, .slice Al 1 cl] 27)) := ⟨_, rfl⟩
  rw [← hW1] at wf wl hB ⊢
  clear hW1 WF WL WB HB HB2
  generalize w2.heap.size = g8 at wf wl ⊢
  have d80 := wf.c0
  have d81 := wf.c1
  have d90 := wl.c0
  have d91 := wl.c1
  have WF := Aside0.mk wf
  have WL := Aside0.mk wl
  have HB := Aside0.mk hB
  clear wf wl hB
  go_upto_region 4 with (first | (go_at_call 7; refine (laws_fitted.calls 100 false Af cf ([] : List Int) false Af cf ([] : List Int) false Al cl [255] 0 true _ WF.out.r WF.out.c WF.out.r WF.out.c WL.out.r WL.out.c eF0).mono ?_; rintro e w3 ⟨rfl, hb⟩; have wf := WF.out.below hb; have wl := WL.out.below hb; have d80 := wf.c0; have d81 := wf.c1; have d90 := wl.c0; have d91 := wl.c1; have n0_ := Aside0.mk wf; have n1_ := Aside0.mk wl; have n2_ := Aside0.mk (HB.out.trans (hb.mono HB.out.size)); clear WF WL HB wf wl hb; have WF := n0_; have WL := n1_; have HB := n2_; clear n0_ n1_ n2_))
  go_upto_region 5 with (first | (go_at_call 7; refine (laws_fitted.calls 100 false Al cl [255] false Af cf ([] : List Int) false Al cl [255] 255 true _ WL.out.r WL.out.c WF.out.r WF.out.c WL.out.r WL.out.c eF1).mono ?_; rintro e w4 ⟨rfl, hb⟩; have wf := WF.out.below hb; have wl := WL.out.below hb; have d80 := wf.c0; have d81 := wf.c1; have d90 := wl.c0; have d91 := wl.c1; have n0_ := Aside0.mk wf; have n1_ := Aside0.mk wl; have n2_ := Aside0.mk (HB.out.trans (hb.mono HB.out.size)); clear WF WL HB wf wl hb; have WF := n0_; have WL := n1_; have HB := n2_; clear n0_ n1_ n2_))
  go_upto_region 9 with (first | (go_at_call 6; refine (laws_bounds.calls 100 32 false false ([] : List Int) false [4294967295] _ eB1).mono ?_; rintro e w5 ⟨v1, v3, rfl, h1, h2, hb⟩; obtain ⟨Ao, co, Ah, ch, rfl, rfl, wo, wh, wb⟩ := two_wd (s1 := false) (s2 := false) 0 1 rfl rfl h1 h2; have wf := WF.out.below hb; have wl := WL.out.below hb; have WF5 := Aside0.mk wf; have WL5 := Aside0.mk wl; have HB5 := Aside0.mk (HB.out.trans (hb.mono HB.out.size)); have WO := Aside0.mk wo; have WH := Aside0.mk wh; have WB := Aside0.mk wb; clear h1 h2 hb wo wh wf wl wb))
  have wo := WO.out
  have wh := WH.out
  have wf := WF5.out.below WB.out
  have wl := WL5.out.below WB.out
  have hB := HB5.out.trans (WB.out.mono HB5.out.size)
  obtain ⟨W2, hW2⟩ : ∃ W2, W2 = ((w5.alloc (.cells #[.bool false, .slice Ao 0 co] 27)).alloc (.cells #[.bool false, .slice Ah 1 ch] 27)) := ⟨_, rfl⟩
  rw [← hW2] at wf wl wo wh hB ⊢
  clear hW2 WF WL WB HB HB5 WF5 WL5 WO WH d80 d81 d90 d91
  generalize w5.heap.size = g15 at wo wh ⊢
  have d80 := wf.c0
  have d81 := wf.c1
  have d90 := wl.c0
  have d91 := wl.c1
  have d50 := wo.c0
  have d51 := wo.c1
  have WF := Aside0.mk wf
  have WL := Aside0.mk wl
  have WO := Aside0.mk wo
  have WH := Aside0.mk wh
  have HB := Aside0.mk hB
  have HS := Aside0.mk (Below.refl W2.heap.size W2)
  clear wf wl wo wh hB
  have wf := WF.out.below (below_drew (Below.refl _ W2))
  have wl := WL.out.below (below_drew (Below.refl _ W2))
  have wx := WO.out.below (below_drew (Below.refl _ W2))
  have hG := gr_calls 100 false Ao co ([] : List Int) false Af cf ([] : List Int) (0) W2.drew wx.r wx.c wf.r wf.c eC1
  rw [if_pos (by decide)] at hG
  unfold wv at hG
  have HG := Aside0.mk hG
  have WFd := Aside0.mk wf
  have WLd := Aside0.mk wl
  clear hG wf wl wx
  go_region_held3 (fun w' => w'.cell? ⟨g8, 0, none⟩ = some (.bool false) ∧ w'.cell? ⟨g8, 1, none⟩ = some (.slice Af 0 cf) ∧ w'.cell? ⟨g8 + 1, 0, none⟩ = some (.bool false) ∧ w'.cell? ⟨g8 + 1, 1, none⟩ = some (.slice Al 1 cl) ∧ w'.cell? ⟨g15, 0, none⟩ = some (.bool false) ∧ w'.cell? ⟨g15, 1, none⟩ = some (.slice Ao 0 co)) (go_keep) (first | (go_at_call 8; go_loud (refine HG.out.mono ?_; rintro e w6 ⟨rfl, hb⟩; have wf := WFd.out.below hb; have wl := WLd.out.below hb; have d80 := wf.c0; have d81 := wf.c1; have d90 := wl.c0; have d91 := wl.c1;  have n0_ := Aside0.mk wf; have n1_ := Aside0.mk wl; have hx : Below W2.heap.size W2 w6 := (below_drew (Below.refl _ W2)).trans hb; have HB6 := Aside0.mk (HB.out.trans (hx.mono HB.out.size)); have n2_ := Aside0.mk (WO.out.below hx); have n3_ := Aside0.mk (WH.out.below hx); clear hx; have c0_ := n2_.out.c0; have c1_ := n2_.out.c1; clear hb wf wl)) | (go_at_call 7; go_loud (refine (laws_fitted.calls 100 false Ao co ([] : List Int) false Af cf ([] : List Int) false Al cl [255] 0 true _ n2_.out.r n2_.out.c n0_.out.r n0_.out.c n1_.out.r n1_.out.c eF0).mono ?_; rintro e w7 ⟨rfl, hb⟩; have wf := n0_.out.below hb; have wl := n1_.out.below hb; have wx := n2_.out.below hb; have d80 := wf.c0; have d81 := wf.c1; have d90 := wl.c0; have d91 := wl.c1; have e0_ := wx.c0; have e1_ := wx.c1; have HB7 := Aside0.mk (HB6.out.trans (hb.mono HB6.out.size)); have WF7 := Aside0.mk wf; have WL7 := Aside0.mk wl; have WX7 := Aside0.mk wx; have WH7 := Aside0.mk (n3_.out.below hb); clear hb wf wl wx)))
  clear WF WL WO WH HB HG WFd WLd n0_ n1_ n2_ n3_ HB6
  have WF := WF7
  have WL := WL7
  have WH := WH7
  have HB := HB7
  clear WF7 WL7 WH7 WX7 HB7
  have d60 := WH.out.c0
  have d61 := WH.out.c1
  go_upto_region 10 with (fail)
  have wf := WF.out.below (below_drew (Below.refl _ w7))
  have wl := WL.out.below (below_drew (Below.refl _ w7))
  have wx := WH.out.below (below_drew (Below.refl _ w7))
  have hG := sm_calls 100 false Ah ch [4294967295] false Al cl [255] (1) w7.drew wx.r wx.c wl.r wl.c eC2
  rw [if_neg (by decide)] at hG
  unfold wv at hG
  have HG := Aside0.mk hG
  have WFd := Aside0.mk wf
  have WLd := Aside0.mk wl
  clear hG wf wl wx
  go_region_held3 (fun w' => w'.cell? ⟨g8, 0, none⟩ = some (.bool false) ∧ w'.cell? ⟨g8, 1, none⟩ = some (.slice Af 0 cf) ∧ w'.cell? ⟨g8 + 1, 0, none⟩ = some (.bool false) ∧ w'.cell? ⟨g8 + 1, 1, none⟩ = some (.slice Al 1 cl) ∧ w'.cell? ⟨g15 + 1, 0, none⟩ = some (.bool false) ∧ w'.cell? ⟨g15 + 1, 1, none⟩ = some (.slice Ah 1 ch)) (go_keep) (first | (go_at_call 9; go_loud (refine HG.out.mono ?_; rintro e w8 ⟨rfl, hb⟩; have wf := WFd.out.below hb; have wl := WLd.out.below hb; have d80 := wf.c0; have d81 := wf.c1; have d90 := wl.c0; have d91 := wl.c1;  have n0_ := Aside0.mk wf; have n1_ := Aside0.mk wl; have hx : Below w7.heap.size w7 w8 := (below_drew (Below.refl _ w7)).trans hb; have HB6 := Aside0.mk (HB.out.trans (hx.mono HB.out.size)); have n2_ := Aside0.mk (WH.out.below hx); clear hx; have c0_ := n2_.out.c0; have c1_ := n2_.out.c1; clear hb wf wl)) | (go_at_call 7; go_loud (refine (laws_fitted.calls 100 false Al cl [255] false Af cf ([] : List Int) false Al cl [255] 255 true _ n1_.out.r n1_.out.c n0_.out.r n0_.out.c n1_.out.r n1_.out.c eF2).mono ?_; rintro e w9 ⟨rfl, hb⟩; have wf := n0_.out.below hb; have wl := n1_.out.below hb; have wx := n2_.out.below hb; have d80 := wf.c0; have d81 := wf.c1; have d90 := wl.c0; have d91 := wl.c1; have e0_ := wx.c0; have e1_ := wx.c1; have HB7 := Aside0.mk (HB6.out.trans (hb.mono HB6.out.size)); have WF7 := Aside0.mk wf; have WL7 := Aside0.mk wl; have WX7 := Aside0.mk wx; clear hb wf wl wx)))
  have HB := HB7
  clear HG WFd WLd n0_ n1_ n2_ HB6
  go_wp2_with (first | (go_at_call 10; refine (su10_32u _).mono ?_; rintro e w10 ⟨rfl, hb⟩; have HB10 := Aside0.mk (HB.out.trans (hb.mono HB.out.size)); clear hb))
  go_ret
  exact ⟨rfl, HB10.out⟩
set_option maxHeartbeats 2000000 in
set_option maxRecDepth 100000 in
theorem law4_64s (w : World) : Calls Tryz.prog 4 #[.int .i64 64, .bool true] w fun e w' => e = .returned (.bool true) ∧ Below w.heap.size w w' := by
  have eB0 : laws_bounds.f 100 8 false = some (false, ([] : List Int), false, [255]) := by decide +kernel
  have eB1 : laws_bounds.f 100 64 true = some (true, [0, 2147483648], false, [4294967295, 2147483647]) := by decide +kernel
  have eF0 : laws_fitted.f 100 false ([] : List Int) false ([] : List Int) false [255] = some (0, true) := by decide +kernel
  have eF1 : laws_fitted.f 100 false [255] false ([] : List Int) false [255] = some (255, true) := by decide +kernel
  have eF2 : laws_fitted.f 100 false [255] false ([] : List Int) false [255] = some (255, true) := by decide +kernel
  have eC1 : spec_WideCmp.f 100 true [0, 2147483648] false ([] : List Int) = some (-1) := by decide +kernel
  have eC2 : spec_WideCmp.f 100 false [4294967295, 2147483647] false [255] = some (1) := by decide +kernel
  go_enter Tryz.func4, Tryz.ntmps4
  go_upto_region 3 with (first | (go_at_call 10; refine (su10_8u _).mono ?_; rintro e w1 ⟨rfl, hb⟩; have HB := Aside0.mk hb; clear hb) | (go_at_call 6; refine (laws_bounds.calls 100 8 false false ([] : List Int) false [255] _ eB0).mono ?_; rintro e w2 ⟨v1, v3, rfl, h1, h2, hb⟩; obtain ⟨Af, cf, Al, cl, rfl, rfl, wf, wl, wb⟩ := two_wd (s1 := false) (s2 := false) 0 1 rfl rfl h1 h2; have HB2 := Aside0.mk (HB.out.trans (hb.mono HB.out.size)); have WF := Aside0.mk wf; have WL := Aside0.mk wl; have WB := Aside0.mk wb; clear h1 h2 hb wf wl wb))
  have wf := WF.out
  have wl := WL.out
  have hB := HB2.out.trans (WB.out.mono HB2.out.size)
  obtain ⟨W1, hW1⟩ : ∃ W1, W1 = ((w2.alloc (.cells #[.bool false, .slice Af 0 cf] 27)).alloc (.cells #[.bool false, .slice Al 1 cl] 27)) := ⟨_, rfl⟩
  rw [← hW1] at wf wl hB ⊢
  clear hW1 WF WL WB HB HB2
  generalize w2.heap.size = g8 at wf wl ⊢
  have d80 := wf.c0
  have d81 := wf.c1
  have d90 := wl.c0
  have d91 := wl.c1
  have WF := Aside0.mk wf
  have WL := Aside0.mk wl
  have HB := Aside0.mk hB
  clear wf wl hB
  go_upto_region 4 with (first | (go_at_call 7; refine (laws_fitted.calls 100 false Af cf ([] : List Int) false Af cf ([] : List Int) false Al cl [255] 0 true _ WF.out.r WF.out.c WF.out.r WF.out.c WL.out.r WL.out.c eF0).mono ?_; rintro e w3 ⟨rfl, hb⟩; have wf := WF.out.below hb; have wl := WL.out.below hb; have d80 := wf.c0; have d81 := wf.c1; have d90 := wl.c0; have d91 := wl.c1; have n0_ := Aside0.mk wf; have n1_ := Aside0.mk wl; have n2_ := Aside0.mk (HB.out.trans (hb.mono HB.out.size)); clear WF WL HB wf wl hb; have WF := n0_; have WL := n1_; have HB := n2_; clear n0_ n1_ n2_))
  go_upto_region 5 with (first | (go_at_call 7; refine (laws_fitted.calls 100 false Al cl [255] false Af cf ([] : List Int) false Al cl [255] 255 true _ WL.out.r WL.out.c WF.out.r WF.out.c WL.out.r WL.out.c eF1).mono ?_; rintro e w4 ⟨rfl, hb⟩; have wf := WF.out.below hb; have wl := WL.out.below hb; have d80 := wf.c0; have d81 := wf.c1; have d90 := wl.c0; have d91 := wl.c1; have n0_ := Aside0.mk wf; have n1_ := Aside0.mk wl; have n2_ := Aside0.mk (HB.out.trans (hb.mono HB.out.size)); clear WF WL HB wf wl hb; have WF := n0_; have WL := n1_; have HB := n2_; clear n0_ n1_ n2_))
  go_upto_region 9 with (first | (go_at_call 6; refine (laws_bounds.calls 100 64 true true [0, 2147483648] false [4294967295, 2147483647] _ eB1).mono ?_; rintro e w5 ⟨v1, v3, rfl, h1, h2, hb⟩; obtain ⟨Ao, co, Ah, ch, rfl, rfl, wo, wh, wb⟩ := two_wd (s1 := true) (s2 := false) 2 2 rfl rfl h1 h2; have wf := WF.out.below hb; have wl := WL.out.below hb; have WF5 := Aside0.mk wf; have WL5 := Aside0.mk wl; have HB5 := Aside0.mk (HB.out.trans (hb.mono HB.out.size)); have WO := Aside0.mk wo; have WH := Aside0.mk wh; have WB := Aside0.mk wb; clear h1 h2 hb wo wh wf wl wb))
  have wo := WO.out
  have wh := WH.out
  have wf := WF5.out.below WB.out
  have wl := WL5.out.below WB.out
  have hB := HB5.out.trans (WB.out.mono HB5.out.size)
  obtain ⟨W2, hW2⟩ : ∃ W2, W2 = ((w5.alloc (.cells #[.bool true, .slice Ao 2 co] 27)).alloc (.cells #[.bool false, .slice Ah 2 ch] 27)) := ⟨_, rfl⟩
  rw [← hW2] at wf wl wo wh hB ⊢
  clear hW2 WF WL WB HB HB5 WF5 WL5 WO WH d80 d81 d90 d91
  generalize w5.heap.size = g15 at wo wh ⊢
  have d80 := wf.c0
  have d81 := wf.c1
  have d90 := wl.c0
  have d91 := wl.c1
  have d50 := wo.c0
  have d51 := wo.c1
  have WF := Aside0.mk wf
  have WL := Aside0.mk wl
  have WO := Aside0.mk wo
  have WH := Aside0.mk wh
  have HB := Aside0.mk hB
  have HS := Aside0.mk (Below.refl W2.heap.size W2)
  clear wf wl wo wh hB
  have wf := WF.out.below (below_drew (Below.refl _ W2))
  have wl := WL.out.below (below_drew (Below.refl _ W2))
  have wx := WO.out.below (below_drew (Below.refl _ W2))
  have hG := gr_calls 100 true Ao co [0, 2147483648] false Af cf ([] : List Int) (-1) W2.drew wx.r wx.c wf.r wf.c eC1
  rw [if_neg (by decide)] at hG
  unfold wv at hG
  have HG := Aside0.mk hG
  have WFd := Aside0.mk wf
  have WLd := Aside0.mk wl
  clear hG wf wl wx
  go_region_held3 (fun w' => w'.cell? ⟨g8, 0, none⟩ = some (.bool false) ∧ w'.cell? ⟨g8, 1, none⟩ = some (.slice Af 0 cf) ∧ w'.cell? ⟨g8 + 1, 0, none⟩ = some (.bool false) ∧ w'.cell? ⟨g8 + 1, 1, none⟩ = some (.slice Al 1 cl) ∧ w'.cell? ⟨g15, 0, none⟩ = some (.bool true) ∧ w'.cell? ⟨g15, 1, none⟩ = some (.slice Ao 2 co)) (go_keep) (first | (go_at_call 8; go_loud (refine HG.out.mono ?_; rintro e w6 ⟨rfl, hb⟩; have wf := WFd.out.below hb; have wl := WLd.out.below hb; have d80 := wf.c0; have d81 := wf.c1; have d90 := wl.c0; have d91 := wl.c1;  have n0_ := Aside0.mk wf; have n1_ := Aside0.mk wl; have hx : Below W2.heap.size W2 w6 := (below_drew (Below.refl _ W2)).trans hb; have HB6 := Aside0.mk (HB.out.trans (hx.mono HB.out.size)); have n2_ := Aside0.mk (WO.out.below hx); have n3_ := Aside0.mk (WH.out.below hx); clear hx; have c0_ := n2_.out.c0; have c1_ := n2_.out.c1; clear hb wf wl)) | (go_at_call 7; go_loud (refine (laws_fitted.calls 100 false Af cf ([] : List Int) false Af cf ([] : List Int) false Al cl [255] 0 true _ n0_.out.r n0_.out.c n0_.out.r n0_.out.c n1_.out.r n1_.out.c eF0).mono ?_; rintro e w7 ⟨rfl, hb⟩; have wf := n0_.out.below hb; have wl := n1_.out.below hb; have wx := n2_.out.below hb; have d80 := wf.c0; have d81 := wf.c1; have d90 := wl.c0; have d91 := wl.c1; have e0_ := wx.c0; have e1_ := wx.c1; have HB7 := Aside0.mk (HB6.out.trans (hb.mono HB6.out.size)); have WF7 := Aside0.mk wf; have WL7 := Aside0.mk wl; have WX7 := Aside0.mk wx; have WH7 := Aside0.mk (n3_.out.below hb); clear hb wf wl wx)))
  clear WF WL WO WH HB HG WFd WLd n0_ n1_ n2_ n3_ HB6
  have WF := WF7
  have WL := WL7
  have WH := WH7
  have HB := HB7
  clear WF7 WL7 WH7 WX7 HB7
  have d60 := WH.out.c0
  have d61 := WH.out.c1
  go_upto_region 10 with (fail)
  have wf := WF.out.below (below_drew (Below.refl _ w7))
  have wl := WL.out.below (below_drew (Below.refl _ w7))
  have wx := WH.out.below (below_drew (Below.refl _ w7))
  have hG := sm_calls 100 false Ah ch [4294967295, 2147483647] false Al cl [255] (1) w7.drew wx.r wx.c wl.r wl.c eC2
  rw [if_neg (by decide)] at hG
  unfold wv at hG
  have HG := Aside0.mk hG
  have WFd := Aside0.mk wf
  have WLd := Aside0.mk wl
  clear hG wf wl wx
  go_region_held3 (fun w' => w'.cell? ⟨g8, 0, none⟩ = some (.bool false) ∧ w'.cell? ⟨g8, 1, none⟩ = some (.slice Af 0 cf) ∧ w'.cell? ⟨g8 + 1, 0, none⟩ = some (.bool false) ∧ w'.cell? ⟨g8 + 1, 1, none⟩ = some (.slice Al 1 cl) ∧ w'.cell? ⟨g15 + 1, 0, none⟩ = some (.bool false) ∧ w'.cell? ⟨g15 + 1, 1, none⟩ = some (.slice Ah 2 ch)) (go_keep) (first | (go_at_call 9; go_loud (refine HG.out.mono ?_; rintro e w8 ⟨rfl, hb⟩; have wf := WFd.out.below hb; have wl := WLd.out.below hb; have d80 := wf.c0; have d81 := wf.c1; have d90 := wl.c0; have d91 := wl.c1;  have n0_ := Aside0.mk wf; have n1_ := Aside0.mk wl; have hx : Below w7.heap.size w7 w8 := (below_drew (Below.refl _ w7)).trans hb; have HB6 := Aside0.mk (HB.out.trans (hx.mono HB.out.size)); have n2_ := Aside0.mk (WH.out.below hx); clear hx; have c0_ := n2_.out.c0; have c1_ := n2_.out.c1; clear hb wf wl)) | (go_at_call 7; go_loud (refine (laws_fitted.calls 100 false Al cl [255] false Af cf ([] : List Int) false Al cl [255] 255 true _ n1_.out.r n1_.out.c n0_.out.r n0_.out.c n1_.out.r n1_.out.c eF2).mono ?_; rintro e w9 ⟨rfl, hb⟩; have wf := n0_.out.below hb; have wl := n1_.out.below hb; have wx := n2_.out.below hb; have d80 := wf.c0; have d81 := wf.c1; have d90 := wl.c0; have d91 := wl.c1; have e0_ := wx.c0; have e1_ := wx.c1; have HB7 := Aside0.mk (HB6.out.trans (hb.mono HB6.out.size)); have WF7 := Aside0.mk wf; have WL7 := Aside0.mk wl; have WX7 := Aside0.mk wx; clear hb wf wl wx)))
  have HB := HB7
  clear HG WFd WLd n0_ n1_ n2_ HB6
  go_wp2_with (first | (go_at_call 10; refine (su10_64s _).mono ?_; rintro e w10 ⟨rfl, hb⟩; have HB10 := Aside0.mk (HB.out.trans (hb.mono HB.out.size)); clear hb))
  go_ret
  exact ⟨rfl, HB10.out⟩
set_option maxHeartbeats 2000000 in
set_option maxRecDepth 100000 in
theorem law4_64u (w : World) : Calls Tryz.prog 4 #[.int .i64 64, .bool false] w fun e w' => e = .returned (.bool true) ∧ Below w.heap.size w w' := by
  have eB0 : laws_bounds.f 100 8 false = some (false, ([] : List Int), false, [255]) := by decide +kernel
  have eB1 : laws_bounds.f 100 64 false = some (false, ([] : List Int), false, [4294967295, 4294967295]) := by decide +kernel
  have eF0 : laws_fitted.f 100 false ([] : List Int) false ([] : List Int) false [255] = some (0, true) := by decide +kernel
  have eF1 : laws_fitted.f 100 false [255] false ([] : List Int) false [255] = some (255, true) := by decide +kernel
  have eF2 : laws_fitted.f 100 false [255] false ([] : List Int) false [255] = some (255, true) := by decide +kernel
  have eC1 : spec_WideCmp.f 100 false ([] : List Int) false ([] : List Int) = some (0) := by decide +kernel
  have eC2 : spec_WideCmp.f 100 false [4294967295, 4294967295] false [255] = some (1) := by decide +kernel
  go_enter Tryz.func4, Tryz.ntmps4
  go_upto_region 3 with (first | (go_at_call 10; refine (su10_8u _).mono ?_; rintro e w1 ⟨rfl, hb⟩; have HB := Aside0.mk hb; clear hb) | (go_at_call 6; refine (laws_bounds.calls 100 8 false false ([] : List Int) false [255] _ eB0).mono ?_; rintro e w2 ⟨v1, v3, rfl, h1, h2, hb⟩; obtain ⟨Af, cf, Al, cl, rfl, rfl, wf, wl, wb⟩ := two_wd (s1 := false) (s2 := false) 0 1 rfl rfl h1 h2; have HB2 := Aside0.mk (HB.out.trans (hb.mono HB.out.size)); have WF := Aside0.mk wf; have WL := Aside0.mk wl; have WB := Aside0.mk wb; clear h1 h2 hb wf wl wb))
  have wf := WF.out
  have wl := WL.out
  have hB := HB2.out.trans (WB.out.mono HB2.out.size)
  obtain ⟨W1, hW1⟩ : ∃ W1, W1 = ((w2.alloc (.cells #[.bool false, .slice Af 0 cf] 27)).alloc (.cells #[.bool false, .slice Al 1 cl] 27)) := ⟨_, rfl⟩
  rw [← hW1] at wf wl hB ⊢
  clear hW1 WF WL WB HB HB2
  generalize w2.heap.size = g8 at wf wl ⊢
  have d80 := wf.c0
  have d81 := wf.c1
  have d90 := wl.c0
  have d91 := wl.c1
  have WF := Aside0.mk wf
  have WL := Aside0.mk wl
  have HB := Aside0.mk hB
  clear wf wl hB
  go_upto_region 4 with (first | (go_at_call 7; refine (laws_fitted.calls 100 false Af cf ([] : List Int) false Af cf ([] : List Int) false Al cl [255] 0 true _ WF.out.r WF.out.c WF.out.r WF.out.c WL.out.r WL.out.c eF0).mono ?_; rintro e w3 ⟨rfl, hb⟩; have wf := WF.out.below hb; have wl := WL.out.below hb; have d80 := wf.c0; have d81 := wf.c1; have d90 := wl.c0; have d91 := wl.c1; have n0_ := Aside0.mk wf; have n1_ := Aside0.mk wl; have n2_ := Aside0.mk (HB.out.trans (hb.mono HB.out.size)); clear WF WL HB wf wl hb; have WF := n0_; have WL := n1_; have HB := n2_; clear n0_ n1_ n2_))
  go_upto_region 5 with (first | (go_at_call 7; refine (laws_fitted.calls 100 false Al cl [255] false Af cf ([] : List Int) false Al cl [255] 255 true _ WL.out.r WL.out.c WF.out.r WF.out.c WL.out.r WL.out.c eF1).mono ?_; rintro e w4 ⟨rfl, hb⟩; have wf := WF.out.below hb; have wl := WL.out.below hb; have d80 := wf.c0; have d81 := wf.c1; have d90 := wl.c0; have d91 := wl.c1; have n0_ := Aside0.mk wf; have n1_ := Aside0.mk wl; have n2_ := Aside0.mk (HB.out.trans (hb.mono HB.out.size)); clear WF WL HB wf wl hb; have WF := n0_; have WL := n1_; have HB := n2_; clear n0_ n1_ n2_))
  go_upto_region 9 with (first | (go_at_call 6; refine (laws_bounds.calls 100 64 false false ([] : List Int) false [4294967295, 4294967295] _ eB1).mono ?_; rintro e w5 ⟨v1, v3, rfl, h1, h2, hb⟩; obtain ⟨Ao, co, Ah, ch, rfl, rfl, wo, wh, wb⟩ := two_wd (s1 := false) (s2 := false) 0 2 rfl rfl h1 h2; have wf := WF.out.below hb; have wl := WL.out.below hb; have WF5 := Aside0.mk wf; have WL5 := Aside0.mk wl; have HB5 := Aside0.mk (HB.out.trans (hb.mono HB.out.size)); have WO := Aside0.mk wo; have WH := Aside0.mk wh; have WB := Aside0.mk wb; clear h1 h2 hb wo wh wf wl wb))
  have wo := WO.out
  have wh := WH.out
  have wf := WF5.out.below WB.out
  have wl := WL5.out.below WB.out
  have hB := HB5.out.trans (WB.out.mono HB5.out.size)
  obtain ⟨W2, hW2⟩ : ∃ W2, W2 = ((w5.alloc (.cells #[.bool false, .slice Ao 0 co] 27)).alloc (.cells #[.bool false, .slice Ah 2 ch] 27)) := ⟨_, rfl⟩
  rw [← hW2] at wf wl wo wh hB ⊢
  clear hW2 WF WL WB HB HB5 WF5 WL5 WO WH d80 d81 d90 d91
  generalize w5.heap.size = g15 at wo wh ⊢
  have d80 := wf.c0
  have d81 := wf.c1
  have d90 := wl.c0
  have d91 := wl.c1
  have d50 := wo.c0
  have d51 := wo.c1
  have WF := Aside0.mk wf
  have WL := Aside0.mk wl
  have WO := Aside0.mk wo
  have WH := Aside0.mk wh
  have HB := Aside0.mk hB
  have HS := Aside0.mk (Below.refl W2.heap.size W2)
  clear wf wl wo wh hB
  have wf := WF.out.below (below_drew (Below.refl _ W2))
  have wl := WL.out.below (below_drew (Below.refl _ W2))
  have wx := WO.out.below (below_drew (Below.refl _ W2))
  have hG := gr_calls 100 false Ao co ([] : List Int) false Af cf ([] : List Int) (0) W2.drew wx.r wx.c wf.r wf.c eC1
  rw [if_pos (by decide)] at hG
  unfold wv at hG
  have HG := Aside0.mk hG
  have WFd := Aside0.mk wf
  have WLd := Aside0.mk wl
  clear hG wf wl wx
  go_region_held3 (fun w' => w'.cell? ⟨g8, 0, none⟩ = some (.bool false) ∧ w'.cell? ⟨g8, 1, none⟩ = some (.slice Af 0 cf) ∧ w'.cell? ⟨g8 + 1, 0, none⟩ = some (.bool false) ∧ w'.cell? ⟨g8 + 1, 1, none⟩ = some (.slice Al 1 cl) ∧ w'.cell? ⟨g15, 0, none⟩ = some (.bool false) ∧ w'.cell? ⟨g15, 1, none⟩ = some (.slice Ao 0 co)) (go_keep) (first | (go_at_call 8; go_loud (refine HG.out.mono ?_; rintro e w6 ⟨rfl, hb⟩; have wf := WFd.out.below hb; have wl := WLd.out.below hb; have d80 := wf.c0; have d81 := wf.c1; have d90 := wl.c0; have d91 := wl.c1;  have n0_ := Aside0.mk wf; have n1_ := Aside0.mk wl; have hx : Below W2.heap.size W2 w6 := (below_drew (Below.refl _ W2)).trans hb; have HB6 := Aside0.mk (HB.out.trans (hx.mono HB.out.size)); have n2_ := Aside0.mk (WO.out.below hx); have n3_ := Aside0.mk (WH.out.below hx); clear hx; have c0_ := n2_.out.c0; have c1_ := n2_.out.c1; clear hb wf wl)) | (go_at_call 7; go_loud (refine (laws_fitted.calls 100 false Ao co ([] : List Int) false Af cf ([] : List Int) false Al cl [255] 0 true _ n2_.out.r n2_.out.c n0_.out.r n0_.out.c n1_.out.r n1_.out.c eF0).mono ?_; rintro e w7 ⟨rfl, hb⟩; have wf := n0_.out.below hb; have wl := n1_.out.below hb; have wx := n2_.out.below hb; have d80 := wf.c0; have d81 := wf.c1; have d90 := wl.c0; have d91 := wl.c1; have e0_ := wx.c0; have e1_ := wx.c1; have HB7 := Aside0.mk (HB6.out.trans (hb.mono HB6.out.size)); have WF7 := Aside0.mk wf; have WL7 := Aside0.mk wl; have WX7 := Aside0.mk wx; have WH7 := Aside0.mk (n3_.out.below hb); clear hb wf wl wx)))
  clear WF WL WO WH HB HG WFd WLd n0_ n1_ n2_ n3_ HB6
  have WF := WF7
  have WL := WL7
  have WH := WH7
  have HB := HB7
  clear WF7 WL7 WH7 WX7 HB7
  have d60 := WH.out.c0
  have d61 := WH.out.c1
  go_upto_region 10 with (fail)
  have wf := WF.out.below (below_drew (Below.refl _ w7))
  have wl := WL.out.below (below_drew (Below.refl _ w7))
  have wx := WH.out.below (below_drew (Below.refl _ w7))
  have hG := sm_calls 100 false Ah ch [4294967295, 4294967295] false Al cl [255] (1) w7.drew wx.r wx.c wl.r wl.c eC2
  rw [if_neg (by decide)] at hG
  unfold wv at hG
  have HG := Aside0.mk hG
  have WFd := Aside0.mk wf
  have WLd := Aside0.mk wl
  clear hG wf wl wx
  go_region_held3 (fun w' => w'.cell? ⟨g8, 0, none⟩ = some (.bool false) ∧ w'.cell? ⟨g8, 1, none⟩ = some (.slice Af 0 cf) ∧ w'.cell? ⟨g8 + 1, 0, none⟩ = some (.bool false) ∧ w'.cell? ⟨g8 + 1, 1, none⟩ = some (.slice Al 1 cl) ∧ w'.cell? ⟨g15 + 1, 0, none⟩ = some (.bool false) ∧ w'.cell? ⟨g15 + 1, 1, none⟩ = some (.slice Ah 2 ch)) (go_keep) (first | (go_at_call 9; go_loud (refine HG.out.mono ?_; rintro e w8 ⟨rfl, hb⟩; have wf := WFd.out.below hb; have wl := WLd.out.below hb; have d80 := wf.c0; have d81 := wf.c1; have d90 := wl.c0; have d91 := wl.c1;  have n0_ := Aside0.mk wf; have n1_ := Aside0.mk wl; have hx : Below w7.heap.size w7 w8 := (below_drew (Below.refl _ w7)).trans hb; have HB6 := Aside0.mk (HB.out.trans (hx.mono HB.out.size)); have n2_ := Aside0.mk (WH.out.below hx); clear hx; have c0_ := n2_.out.c0; have c1_ := n2_.out.c1; clear hb wf wl)) | (go_at_call 7; go_loud (refine (laws_fitted.calls 100 false Al cl [255] false Af cf ([] : List Int) false Al cl [255] 255 true _ n1_.out.r n1_.out.c n0_.out.r n0_.out.c n1_.out.r n1_.out.c eF2).mono ?_; rintro e w9 ⟨rfl, hb⟩; have wf := n0_.out.below hb; have wl := n1_.out.below hb; have wx := n2_.out.below hb; have d80 := wf.c0; have d81 := wf.c1; have d90 := wl.c0; have d91 := wl.c1; have e0_ := wx.c0; have e1_ := wx.c1; have HB7 := Aside0.mk (HB6.out.trans (hb.mono HB6.out.size)); have WF7 := Aside0.mk wf; have WL7 := Aside0.mk wl; have WX7 := Aside0.mk wx; clear hb wf wl wx)))
  have HB := HB7
  clear HG WFd WLd n0_ n1_ n2_ HB6
  go_wp2_with (first | (go_at_call 10; refine (su10_64u _).mono ?_; rintro e w10 ⟨rfl, hb⟩; have HB10 := Aside0.mk (HB.out.trans (hb.mono HB.out.size)); clear hb))
  go_ret
  exact ⟨rfl, HB10.out⟩
set_option maxHeartbeats 2000000 in
set_option maxRecDepth 100000 in
theorem law4_other (W : Int) (S : Bool) (n8 : W ≠ 8) (n16 : W ≠ 16) (n32 : W ≠ 32) (n64 : W ≠ 64) (w : World) : Calls Tryz.prog 4 #[.int .i64 W, .bool S] w fun e w' => e = .returned (.bool true) ∧ Below w.heap.size w w' := by
  have eB0 : laws_bounds.f 100 8 false = some (false, ([] : List Int), false, [255]) := by decide +kernel
  have eF0 : laws_fitted.f 100 false ([] : List Int) false ([] : List Int) false [255] = some (0, true) := by decide +kernel
  have eF1 : laws_fitted.f 100 false [255] false ([] : List Int) false [255] = some (255, true) := by decide +kernel
  go_enter Tryz.func4, Tryz.ntmps4
  go_upto_region 3 with (first | (go_at_call 10; refine (su10_8u _).mono ?_; rintro e w1 ⟨rfl, hb⟩; have HB := Aside0.mk hb; clear hb) | (go_at_call 6; refine (laws_bounds.calls 100 8 false false ([] : List Int) false [255] _ eB0).mono ?_; rintro e w2 ⟨v1, v3, rfl, h1, h2, hb⟩; obtain ⟨Af, cf, Al, cl, rfl, rfl, wf, wl, wb⟩ := two_wd (s1 := false) (s2 := false) 0 1 rfl rfl h1 h2; have HB2 := Aside0.mk (HB.out.trans (hb.mono HB.out.size)); have WF := Aside0.mk wf; have WL := Aside0.mk wl; have WB := Aside0.mk wb; clear h1 h2 hb wf wl wb))
  have wf := WF.out
  have wl := WL.out
  have hB := HB2.out.trans (WB.out.mono HB2.out.size)
  obtain ⟨W1, hW1⟩ : ∃ W1, W1 = ((w2.alloc (.cells #[.bool false, .slice Af 0 cf] 27)).alloc (.cells #[.bool false, .slice Al 1 cl] 27)) := ⟨_, rfl⟩
  rw [← hW1] at wf wl hB ⊢
  clear hW1 WF WL WB HB HB2
  generalize w2.heap.size = g8 at wf wl ⊢
  have d80 := wf.c0
  have d81 := wf.c1
  have d90 := wl.c0
  have d91 := wl.c1
  have WF := Aside0.mk wf
  have WL := Aside0.mk wl
  have HB := Aside0.mk hB
  clear wf wl hB
  go_upto_region 4 with (first | (go_at_call 7; refine (laws_fitted.calls 100 false Af cf ([] : List Int) false Af cf ([] : List Int) false Al cl [255] 0 true _ WF.out.r WF.out.c WF.out.r WF.out.c WL.out.r WL.out.c eF0).mono ?_; rintro e w3 ⟨rfl, hb⟩; have wf := WF.out.below hb; have wl := WL.out.below hb; have d80 := wf.c0; have d81 := wf.c1; have d90 := wl.c0; have d91 := wl.c1; have n0_ := Aside0.mk wf; have n1_ := Aside0.mk wl; have n2_ := Aside0.mk (HB.out.trans (hb.mono HB.out.size)); clear WF WL HB wf wl hb; have WF := n0_; have WL := n1_; have HB := n2_; clear n0_ n1_ n2_))
  go_upto_region 5 with (first | (go_at_call 7; refine (laws_fitted.calls 100 false Al cl [255] false Af cf ([] : List Int) false Al cl [255] 255 true _ WL.out.r WL.out.c WF.out.r WF.out.c WL.out.r WL.out.c eF1).mono ?_; rintro e w4 ⟨rfl, hb⟩; have wf := WF.out.below hb; have wl := WL.out.below hb; have d80 := wf.c0; have d81 := wf.c1; have d90 := wl.c0; have d91 := wl.c1; have n0_ := Aside0.mk wf; have n1_ := Aside0.mk wl; have n2_ := Aside0.mk (HB.out.trans (hb.mono HB.out.size)); clear WF WL HB wf wl hb; have WF := n0_; have WL := n1_; have HB := n2_; clear n0_ n1_ n2_))
  have e8 : (W != 8) = true := by simpa using n8
  have e16 : (W != 16) = true := by simpa using n16
  have e32 : (W != 32) = true := by simpa using n32
  have e64 : (W != 64) = true := by simpa using n64
  go_wp2
  (try simp only [Exit.inBlock, Exit.then])
  go_ret
  exact ⟨rfl, HB.out⟩
theorem law4_all (W : Int) (S : Bool) (w : World) : Calls Tryz.prog 4 #[.int .i64 W, .bool S] w fun e w' => e = .returned (.bool true) ∧ Below w.heap.size w w' := by
  by_cases h8 : W = 8
  · subst h8; cases S; exact law4_8u w; exact law4_8s w
  by_cases h16 : W = 16
  · subst h16; cases S; exact law4_16u w; exact law4_16s w
  by_cases h32 : W = 32
  · subst h32; cases S; exact law4_32u w; exact law4_32s w
  by_cases h64 : W = 64
  · subst h64; cases S; exact law4_64u w; exact law4_64s w
  exact law4_other W S h8 h16 h32 h64 w
end Go.Proofs.YtgomeiepiajpeaaGreat.Q
