/- laws.FnTexts returns true for every a, b and kind: lists of registers, numbers, shifts and orders of bytes have texts of their own (the tied card: the five package-level variables that the row lists read as the program's own text lays them). -/
import Derived.Test.YtcolmmohbfadoaaDoorKinds
import Derived.Test.YtcolmmohbfadoaaDoorCards
import Derived.Test.YtcolmmohbfadoaaDoorTie
import Derived.SevenTiedAt
import Derived.Lib.LaidTab
import Derived.Stop.LaidErr
namespace Go.Proofs.YtcolmmohbfadoaaDoor
open Go.ChangeShapes Go.WideShapes Go.ChangeAt Go.RowKit
theorem gTab : Tryd.prog.globalNamed "math/bits.deBruijn64tab" = some 4 := by kernel_rfl
theorem gTabT : (Tryd.prog.globals[4]?).map (·.type) = some 66 := by kernel_rfl
theorem gSh : Tryd.prog.globalNamed "loop.example/pub-g03133/pub/armasm.shiftName" = some 0 := by kernel_rfl
theorem gShT : (Tryd.prog.globals[0]?).map (·.type) = some 46 := by kernel_rfl
theorem c5 : Tryd.prog.cellsOf 5 = 1 := by kernel_rfl
theorem c66 : Tryd.prog.cellsOf 66 = 64 := by kernel_rfl
theorem c9 : Tryd.prog.cellsOf 9 = 1 := by kernel_rfl
def zs64 : List Int := [0, 1, 56, 2, 57, 49, 28, 3, 61, 58, 42, 50, 38, 29, 17, 4, 62, 47, 59, 36, 45, 43, 51, 22, 53, 39, 33, 30, 24, 18, 12, 5, 63, 55, 48, 27, 60, 41, 37, 16, 46, 35, 44, 21, 52, 32, 23, 11, 54, 26, 40, 15, 34, 20, 31, 10, 25, 14, 19, 9, 13, 8, 7, 6]
theorem tab15 {W : World} (h : laidMet Tryd.prog Rows.fnTextsRow.laid W) : W.cell? ⟨4, 15, none⟩ = some (.int .u8 4) := by
  have h2 : laidMet Tryd.prog (("math/bits.deBruijn64tab", Lib.tabData .u8 zs64) :: Rows.fnTextsRow.laid.tail.tail) W := laidMet.tail h
  have hT := Lib.tabIs_of_head gTab gTabT Tryd.underlying66 Tryd.underlying5 c5 c66 h2
  have := hT.cell gTab 15 (by decide)
  exact this
theorem names5 {W : World} (h : laidMet Tryd.prog Rows.fnTextsRow.laid W) : ∀ i, i < 5 → W.cell? ⟨0, i, none⟩ = some (.string (shT i)) := by
  have h2 : laidMet Tryd.prog [("loop.example/pub-g03133/pub/armasm.shiftName", Rows.laid_loop_example_pub_g03133_pub_armasm_shiftName)] W := laidMet.tail (laidMet.tail (laidMet.tail (laidMet.tail h)))
  obtain ⟨ps, ⟨g0, t0, cs0, f0, p0, q0, hg0, ht0, hv0, hd0, _, _⟩, _, _⟩ := h2
  obtain rfl := Option.some.inj (gSh.symm.trans hg0)
  obtain rfl := Option.some.inj (gShT.symm.trans ht0)
  obtain ⟨xs, m1, rfl, hx1, hlen, hn5, hel⟩ := DataW.trod_array Tryd.underlying46 hd0
  intro i hi
  have hc := World.var?_cell hg0 hv0 i
  have he := hel i hi
  rw [c9] at he
  have hx : xs[i]? = some (xs[i]'(by omega)) := List.getElem?_eq_getElem (by omega)
  rw [hx] at he
  obtain ⟨s, e1, e2, _⟩ := DataW.trod_string Tryd.underlying9 he
  simp only [Prod.mk.injEq] at hx1
  have hs : s.data.toList = (shT i).data.toList := by
    have e3 : (xs.map (·.1))[i]? = some (.lit (.string s.data.toList)) := by
      rw [List.getElem?_map, hx, e2]; rfl
    have hd : Rows.laid_loop_example_pub_g03133_pub_armasm_shiftName = (DataW.agg (xs.map (·.1)) : DataW Unit) := hx1.1
    unfold Rows.laid_loop_example_pub_g03133_pub_armasm_shiftName at hd
    rw [← (DataW.agg.inj hd)] at e3
    have hi' : i = 0 ∨ i = 1 ∨ i = 2 ∨ i = 3 ∨ i = 4 := by omega
    rcases hi' with rfl | rfl | rfl | rfl | rfl <;> simp at e3 <;> rw [← e3] <;> rfl
  have hs2 : s = shT i := by
    rcases s with ⟨⟨l⟩⟩
    have : (shT i) = ⟨⟨(shT i).data.toList⟩⟩ := rfl
    rw [this]
    simp at hs
    rw [hs]
  rw [hs2, Nat.mul_one] at e1
  rw [hc]
  have e4 := congrArg List.head? e1
  rw [List.head?_take, List.head?_drop] at e4
  simpa using e4

theorem walkT (a b k : Int) (w0 : (Lit.int .u16 a).wf = true) (w1 : (Lit.int .u16 b).wf = true) (w2 : (Lit.int .u8 k).wf = true) (W : World) (h15 : W.cell? ⟨4, 15, none⟩ = some (.int .u8 4)) (h5 : ∀ i, i < 5 → W.cell? ⟨0, i, none⟩ = some (.string (shT i))) :
    Calls Tryd.prog 4 #[.int .u16 a, .int .u16 b, .int .u8 k] W fun e w' => e = .returned (.bool true) ∧ Below W.heap.size W w' := by
  obtain ⟨a0, a1⟩ := bounds_u16 w0
  obtain ⟨b0, b1⟩ := bounds_u16 w1
  obtain ⟨k0, k1⟩ := bounds_u8 w2
  obtain ⟨x, rfl⟩ := Int.eq_ofNat_of_zero_le a0
  obtain ⟨y, rfl⟩ := Int.eq_ofNat_of_zero_le b0
  have hk : k % 4 = 0 ∨ k % 4 = 1 ∨ k % 4 = 2 ∨ k % 4 = 3 := by omega
  rcases hk with hk | hk | hk | hk
  · exact law0 x y k (by omega) (by omega) k0 k1 hk W
  · exact law1 x y k (by omega) (by omega) k0 k1 hk W h15
  · exact law2 x y k (by omega) (by omega) k0 k1 hk W h5
  · exact law3 x y k (by omega) (by omega) k0 k1 hk W
theorem laidOut : laidOutB Tryd.prog = true := by kernel_rfl
theorem door_met2 (os : Os) (args : Array Value) : laidMetH Tryd.prog Rows.fnTextsRow.laid ((World.doorLaid Tryd.prog 400 os).forCall (fun _ _ => 0) ⟨#[], args, []⟩).memory :=
  laidMetH_of_parts3 (fuel := 8) (laidMet_of_run' 8 (by kernel_rfl) (by kernel_rfl)) (by kernel_rfl) (by kernel_rfl)
set_option maxRecDepth 100000 in
theorem lifted2 (os : Os) (started : os.Started) (H : Type) (enc : TypeId × Value → H) :
    ReturnsInHanded {} Tryd.checked os 4 .any (fun w args => (Rows.fnTextsSpec.pre enc Tryd.prog Tryd.f4 [] false w args ∧ laidMetH Tryd.prog Rows.fnTextsRow.laid w) ∧ sizedMet enc Tryd.prog Tryd.f4 (OpenSpec.ofChange Rows.fnTextsSpec) false w args)
      (Rows.fnTextsSpec.post enc Tryd.prog Tryd.f4 false true false false) := by
  refine returnsInHanded_of_change_and (C := Tryd.checked) (X := fun w _ => laidMetH Tryd.prog Rows.fnTextsRow.laid w) (fun _ _ _ hh h => h.of_heap hh) own started (by kernel_rfl) Tryd.func4
    (ChangeSpec.witness_shaped (enc := enc) (C := Tryd.checked) (os := os) (X := fun w _ => laidMetH Tryd.prog Rows.fnTextsRow.laid w) false (World.doorLaid Tryd.prog 400 os) #[.int .u16 0, .int .u16 0, .int .u8 0] 8 rfl (World.shaped_of_RefB (by kernel_rfl) (by kernel_rfl)) (by kernel_rfl) (by kernel_rfl) (by kernel_rfl) (door_met2 os _)) ?_
  intro W base args ds gs before hval0 hW _ _ hL _
  have hval : ∀ (j : Nat) t v, Tryd.f4.params[j]? = some t → args[j]? = some v → Value.okWide Tryd.prog W .any base t v := hval0
  have hW' := hW
  obtain ⟨p, q, hA0, hV, rfl, hfz, hnd⟩ := hW
  have hA : DataW.TrodAll enc Tryd.prog W 0 (fun _ => true) true Tryd.f4.params.toList args.toList ds p := hA0
  rw [Tryd.params4] at hA hval
  obtain ⟨v0, vs0, d0, ds0, p0, q0, hargs, rfl, rfl, h0, r0⟩ := trodAll_cons hA
  obtain ⟨v1, vs1, d1, ds1, p1, q1, rfl, rfl, rfl, h1, r1⟩ := trodAll_cons r0
  obtain ⟨v2, vs2, d2, ds2, p2, q2, rfl, rfl, rfl, h2, r2⟩ := trodAll_cons r1
  obtain ⟨rfl, rfl, rfl⟩ := trodAll_nil r2
  obtain rfl : args = #[v0, v1, v2] := by cases args; simp_all
  obtain ⟨g, t, cs, fuel, d, p', rfl, hg, ht, hvar, hd, rfl⟩ := trodVars_one hV
  obtain rfl := Option.some.inj (gSh.symm.trans hg)
  obtain rfl := Option.some.inj (gShT.symm.trans ht)
  obtain ⟨a0, rfl, rfl, rfl, w0⟩ := open_int Tryd.underlying25 (hval 0 25 v0 rfl rfl) h0
  obtain ⟨a1, rfl, rfl, rfl, w1⟩ := open_int Tryd.underlying25 (hval 1 25 v1 rfl rfl) h1
  obtain ⟨a2, rfl, rfl, rfl, w2⟩ := open_int Tryd.underlying5 (hval 2 5 v2 rfl rfl) h2
  clear hA0 hval0
  simp only [List.append_nil, List.nil_append] at hW'
  have hL2 : laidMet Tryd.prog Rows.fnTextsRow.laid W := by
    rw [MakeChecks.laidMetH_plain _ _ _ (by kernel_rfl)] at hL
    exact hL
  have h15 := tab15 hL2
  have h5 := names5 hL2
  have h0lt : 0 < W.heap.size := World.block_lt_of_cell? _ _ (h5 0 (by omega))
  have hltv : ∀ x ∈ p', x.block < W.heap.size := fun x hx => hW'.lt x (List.mem_append_right _ hx)
  refine (walkT a0 a1 a2 w0 w1 w2 W h15 h5).mono fun e W' ⟨he, hB⟩ => ?_
  subst he
  have hd2 : DataW.trod enc Tryd.prog W 0 (fun _ => true) true fuel 46 cs.toList = some (d, p') := hd
  obtain ⟨fuel', hd'⟩ := Below.trod laidOut (by kernel_rfl) (of_decide_eq_true (by kernel_rfl)) (v := .agg cs) (⟨fuel, by simpa [Value.cells] using hd2⟩ : DataW.Trod enc Tryd.prog W 0 (fun _ => true) true 46 (.agg cs) d p') hB hltv
  have hd3 : DataW.trod enc Tryd.prog W' 0 (fun b => decide (b < W.heap.size)) true fuel' 46 cs.toList = some (d, p') := by simpa [Value.cells] using hd'
  have hv' := trodVars_mk1 (enc := enc) (spare := fun b => decide (b < W.heap.size)) hg ht (var?_below hB hg h0lt hvar) hd3
  refine ⟨_, rfl, _, _, _, [], [], (MemPlace.row ⟨0, 0, none⟩ cs.size ++ p'), hW', ?_, ?_, ?_, hB.frame _, fun h => by cases h⟩
  · exact trodAll_cons_mk (shut_bool Tryd.underlying4 _) trodAll_mk0
  · exact trodAll_cons_mk (shut_int Tryd.underlying25 w0) (trodAll_cons_mk (shut_int Tryd.underlying25 w1) (trodAll_cons_mk (shut_int Tryd.underlying5 w2) trodAll_mk0))
  · exact hv'
theorem over2 : Rows.FnTextsSaid :=
  OpenClaim.holds_of_wide 4 Tryd.f4 rfl rfl rfl rfl rfl rfl rfl ⟨rfl, rfl, rfl, rfl, rfl⟩ rfl rfl rfl rfl rfl (by kernel_rfl) Tryd.func4 (by kernel_rfl)
    (of_decide_eq_true (by kernel_rfl)) (by unfold Func.isWrapper; first | (rw [if_pos (by decide +kernel)]; kernel_rfl) | (rw [if_neg (by decide +kernel)]; exact ⟨rfl, rfl⟩))
    (fun os started H enc _ => lifted2 os started H enc)
theorem fnTexts_card : Rows.FnTextsCardSaid :=
  Claim7.holds_tied_plain_at .later [] [.data, .data, .data, .sentinel, .data] true (true, "face14d1867328e6758551b1139dc008cf951ff4df33df22db8c4b8672294aae") false
    over2 (fun _ h => by cases h) (by kernel_rfl) (fun _ h => by cases h) fnTexts_row_tie rfl ⟨rfl, rfl⟩ (by kernel_rfl) rfl
    (fun f fn hf hfn => by
      obtain rfl : f = 4 := Option.some.inj ((show Tryd.prog.funcNamed "loop.example/pub-g03133/laws.FnTexts" = some 4 by kernel_rfl).symm.trans hf) |>.symm
      obtain rfl : fn = Tryd.f4 := (Option.some.inj (Tryd.func4.symm.trans hfn)).symm
      exact ⟨by kernel_rfl, fun j t ht => by
        rw [Tryd.params4] at ht
        have h3 : t = 25 ∨ t = 5 := by
          rcases j with _ | _ | _ | j
          · left; simpa using ht.symm
          · left; simpa using ht.symm
          · right; simpa using ht.symm
          · simp at ht
        rcases h3 with rfl | rfl
        · exact (show Tryd.prog.wantsStandIn 25 = false by kernel_rfl)
        · exact (show Tryd.prog.wantsStandIn 5 = false by kernel_rfl)⟩)
    (by kernel_rfl)
#print axioms fnTexts_card
end Go.Proofs.YtcolmmohbfadoaaDoor
