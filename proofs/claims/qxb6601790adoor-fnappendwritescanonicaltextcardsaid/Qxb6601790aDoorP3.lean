/-
  FnAppendWritesCanonicalText: the row, and its tied card.
-/
import Derived.Test.Qxb6601790aDoorTie
import Derived.Test.Qxb6601790aDoorCards
import Derived.Test.Qxb6601790aDoorPc
import Derived.Test.Qxb6601790aDoorBh
import Derived.Test.Qxb6601790aDoorCfc
import Derived.SevenTiedAt
import Derived.Carry
import Derived.ChangeSlices
namespace Go.Proofs.Qxb6601790aDoor
open Go.ChangeShapes Go.WideShapes Go.ChangeAt Go.RowKit
open Go.ChangeMaps (open_string shut_string)

section
variable {H : Type} {enc : TypeId × Value → H} {P : Program} {w : World} {base : Nat} {spare : Nat → Bool} {held : Bool}
theorem trodAll_six {t0 t1 t2 t3 t4 t5 : TypeId} {args : Array Value} {ds : List (DataW H)} {ps : List MemPlace} (h : DataW.TrodAll enc P w base spare held [t0, t1, t2, t3, t4, t5] args.toList ds ps) :
    ∃ v0 v1 v2 v3 v4 v5 d0 d1 d2 d3 d4 d5 p0 p1 p2 p3 p4 p5, args = #[v0, v1, v2, v3, v4, v5] ∧ ds = [d0, d1, d2, d3, d4, d5] ∧ ps = p0 ++ (p1 ++ (p2 ++ (p3 ++ (p4 ++ p5)))) ∧ DataW.Trod enc P w base spare held t0 v0 d0 p0 ∧ DataW.Trod enc P w base spare held t1 v1 d1 p1 ∧ DataW.Trod enc P w base spare held t2 v2 d2 p2 ∧ DataW.Trod enc P w base spare held t3 v3 d3 p3 ∧ DataW.Trod enc P w base spare held t4 v4 d4 p4 ∧ DataW.Trod enc P w base spare held t5 v5 d5 p5 := by
  obtain ⟨v0, vs0, d0, ds0, p0, q0, hargs, rfl, rfl, hd0, hr0⟩ := trodAll_cons h
  obtain ⟨v1, vs1, d1, ds1, p1, q1, rfl, rfl, rfl, hd1, hr1⟩ := trodAll_cons hr0
  obtain ⟨v2, vs2, d2, ds2, p2, q2, rfl, rfl, rfl, hd2, hr2⟩ := trodAll_cons hr1
  obtain ⟨v3, vs3, d3, ds3, p3, q3, rfl, rfl, rfl, hd3, hr3⟩ := trodAll_cons hr2
  obtain ⟨v4, vs4, d4, ds4, p4, q4, rfl, rfl, rfl, hd4, hr4⟩ := trodAll_cons hr3
  obtain ⟨v5, vs5, d5, ds5, p5, q5, rfl, rfl, rfl, hd5, hr5⟩ := trodAll_cons hr4
  obtain ⟨rfl, rfl, rfl⟩ := trodAll_nil hr5
  exact ⟨v0, v1, v2, v3, v4, v5, d0, d1, d2, d3, d4, d5, p0, p1, p2, p3, p4, p5, by cases args; simp_all, rfl, by simp, hd0, hd1, hd2, hd3, hd4, hd5⟩
theorem trodAll_mk6 {t0 t1 t2 t3 t4 t5 : TypeId} {v0 v1 v2 v3 v4 v5 : Value} {d0 d1 d2 d3 d4 d5 : DataW H} {p0 p1 p2 p3 p4 p5 : List MemPlace} (h0 : DataW.Trod enc P w base spare held t0 v0 d0 p0) (h1 : DataW.Trod enc P w base spare held t1 v1 d1 p1) (h2 : DataW.Trod enc P w base spare held t2 v2 d2 p2) (h3 : DataW.Trod enc P w base spare held t3 v3 d3 p3) (h4 : DataW.Trod enc P w base spare held t4 v4 d4 p4) (h5 : DataW.Trod enc P w base spare held t5 v5 d5 p5) :
    DataW.TrodAll enc P w base spare held [t0, t1, t2, t3, t4, t5] [v0, v1, v2, v3, v4, v5] [d0, d1, d2, d3, d4, d5] (p0 ++ (p1 ++ (p2 ++ (p3 ++ (p4 ++ p5))))) :=
  ⟨p0, _, h0, ⟨p1, _, h1, trodAll_mk4 h2 h3 h4 h5, rfl⟩, rfl⟩
end

theorem cells5 : Tryd.prog.cellsOf 5 = 1 := by kernel_rfl
theorem laidOut : laidOutB Tryd.prog = true := by kernel_rfl
set_option maxRecDepth 100000 in
/-- A slice of bytes that came in: its bytes. -/
theorem open_bts {H : Type} {enc : TypeId × Value → H} {W : World} {base : Nat} {v : Value} {d : DataW H} {p : List MemPlace} (hval : Value.okWide Tryd.prog W .any base 33 v) (h : DataW.Trod enc Tryd.prog W 0 (fun _ => true) true 33 v d p) :
    ∃ xs : List UInt8, xs.length ≤ maxLen ∧ Bts W v xs := by
  obtain ⟨a1, len, cap, rfl⟩ := okWide_slice Tryd.underlying33 hval
  obtain ⟨fuel, hf⟩ := h
  rcases open_ints Tryd.underlying33 Tryd.underlying5 cells5 hf with ⟨hcs, hx⟩ | ⟨a, len', cap', zs, hcs, _, hl, hm, hz, hx, hcell, hwz⟩
  · simp [Value.cells] at hcs
    obtain ⟨rfl, rfl, rfl⟩ := hcs
    exact ⟨[], Nat.zero_le _, .inl ⟨rfl, rfl⟩⟩
  · simp [Value.cells] at hcs
    obtain ⟨rfl, rfl, rfl⟩ := hcs
    simp only [if_true] at hz
    have hlen : ((zs.take len).map fun n => UInt8.ofNat n.toNat).length = len := by simp; omega
    refine ⟨(zs.take len).map fun n => UInt8.ofNat n.toNat, by rw [hlen]; omega, .inr ⟨a, cap, by rw [hlen], by rw [hlen]; exact hl, fun h0 => ?_⟩⟩
    rw [hlen] at h0
    obtain ⟨ab, ao, spot⟩ := a
    have hspot : spot = none := by simpa [Addr.add] using World.cell?_spot (hcell 0 (by omega))
    subst hspot
    refine ⟨ab, ao, rfl, ?_, fun j hj => ?_⟩
    · exact World.block_lt_of_cell? W _ (hcell 0 (by omega))
    · rw [hlen] at hj
      have hcj := hcell j (by omega)
      rw [Addr.add_lit] at hcj
      rw [hcj]
      have hw := hwz _ (List.getElem_mem (show j < zs.length by omega))
      have hr : (decide (IntKind.u8.min ≤ zs[j]) && decide (zs[j] ≤ IntKind.u8.max)) = true := hw
      rw [Bool.and_eq_true, decide_eq_true_iff, decide_eq_true_iff] at hr
      have hlo : (0 : Int) ≤ zs[j] := hr.1
      have hhi : zs[j] ≤ 255 := hr.2
      congr 2
      rw [List.getElem_map, List.getElem_take, Num.toNat_ofNat (by omega)]
      simp [List.getD, List.getElem?_eq_getElem (show j < zs.length by omega)]
      omega

set_option maxRecDepth 100000 in
theorem lifted3 (os : Os) (started : os.Started) (H : Type) (enc : TypeId × Value → H) :
    ReturnsInHanded {} Tryd.checked os 8 .any (fun w args => (Rows.fnAppendWritesCanonicalTextSpec.pre enc Tryd.prog Tryd.f8 [] false w args ∧ laidMetH Tryd.prog Rows.fnAppendWritesCanonicalTextRow.laid w) ∧ sizedMet enc Tryd.prog Tryd.f8 (OpenSpec.ofChange Rows.fnAppendWritesCanonicalTextSpec) false w args)
      (Rows.fnAppendWritesCanonicalTextSpec.post enc Tryd.prog Tryd.f8 false true false false) := by
  refine returnsInHanded_of_change_and (C := Tryd.checked) (X := fun w _ => laidMetH Tryd.prog Rows.fnAppendWritesCanonicalTextRow.laid w) (fun _ _ _ hh h => h.of_heap hh) own started (by kernel_rfl) Tryd.func8
    (ChangeSpec.witness_shaped (enc := enc) (C := Tryd.checked) (os := os) (X := fun w _ => laidMetH Tryd.prog Rows.fnAppendWritesCanonicalTextRow.laid w) false (World.laidAll Tryd.prog os Rows.fnAppendWritesCanonicalTextRow.laid) #[.bool false, .string ByteArray.empty, .string ByteArray.empty, .int .i64 0, .string ByteArray.empty, .slice none 0 0] 8 (World.laidAll_os _ _ _)
      (World.shaped_of_ZipB (by kernel_rfl) (by kernel_rfl)) (by kernel_rfl) (by kernel_rfl) (by kernel_rfl)
      (by rw [MakeChecks.laidMetH_plain _ _ _ (by kernel_rfl)]; exact laidMet_laidAll _ (by kernel_rfl) (by kernel_rfl))) ?_
  intro W base args ds gs before hval0 hW _ _ hL _
  have hval : ∀ (j : Nat) t v, Tryd.f8.params[j]? = some t → args[j]? = some v → Value.okWide Tryd.prog W .any base t v := hval0
  have hW' := hW
  obtain ⟨p, q, hA0, hV, rfl, _, _⟩ := hW
  have hA : DataW.TrodAll enc Tryd.prog W 0 (fun _ => true) true Tryd.f8.params.toList args.toList ds p := hA0
  rw [Tryd.params8] at hA hval
  obtain ⟨v0, v1, v2, v3, v4, v5, d0, d1, d2, d3, d4, d5, p0, p1, p2, p3, p4, p5, rfl, rfl, rfl, h0, h1, h2, h3, h4, h5⟩ := trodAll_six hA
  obtain ⟨rfl, rfl⟩ := trodVars_none hV
  obtain ⟨b, rfl, rfl, rfl⟩ := open_bool Tryd.underlying4 (hval 0 4 v0 rfl rfl) h0
  obtain ⟨s1, rfl, rfl, rfl, hs1⟩ := open_string Tryd.underlying9 (hval 1 9 v1 rfl rfl) h1
  obtain ⟨s2, rfl, rfl, rfl, hs2⟩ := open_string Tryd.underlying9 (hval 2 9 v2 rfl rfl) h2
  obtain ⟨x, rfl, rfl, rfl, wx⟩ := open_int Tryd.underlying2 (hval 3 2 v3 rfl rfl) h3
  obtain ⟨s5, rfl, rfl, rfl, hs5⟩ := open_string Tryd.underlying9 (hval 4 9 v4 rfl rfl) h4
  obtain ⟨xs, hxs, hbts⟩ := open_bts (hval 5 33 v5 rfl rfl) h5
  have hx : -9223372036854775808 ≤ x ∧ x ≤ 9223372036854775807 := by
    have h : (decide (IntKind.i64.min ≤ x) && decide (x ≤ IntKind.i64.max)) = true := wx
    rw [Bool.and_eq_true, decide_eq_true_iff, decide_eq_true_iff] at h
    exact h
  simp only [List.append_nil, List.nil_append] at hW'
  have hlt : ∀ y ∈ p5, y.block < W.heap.size := fun y hy => by simpa using hW'.lt y hy
  refine (law8 b s1 s2 x s5 v5 xs W (tab_of_laid hL) hs1 hs2 hs5 hxs hx.1 hx.2 hbts).mono fun e W' ⟨he, hb⟩ => ?_
  subst he
  exact ⟨_, rfl, _, _, _, [], _, [], hW', trodAll_mk1 (shut_bool Tryd.underlying4 _), trodAll_mk6 (shut_bool Tryd.underlying4 _) (shut_string Tryd.underlying9 hs1) (shut_string Tryd.underlying9 hs2) (shut_int Tryd.underlying2 wx) (shut_string Tryd.underlying9 hs5) (Below.trod laidOut (by kernel_rfl) (of_decide_eq_true (by kernel_rfl)) h5 hb hlt), rfl, hb.frame _, fun h => by cases h⟩

theorem row3 : Rows.FnAppendWritesCanonicalTextSaid :=
  OpenClaim.holds_of_wide 8 Tryd.f8 rfl rfl rfl rfl rfl rfl rfl ⟨rfl, rfl, rfl, rfl, rfl⟩ rfl rfl rfl rfl rfl Cf8.fn Tryd.func8 Cf8.closed
    Cf8.inst Cf8.wrap (fun os started H enc _ => lifted3 os started H enc)

/-- The card. -/
theorem fnAppendWritesCanonicalText_card : Rows.FnAppendWritesCanonicalTextCardSaid :=
  Claim7.holds_tied_plain_at .later [] [.data, .data, .data, .data, .pinned] true Rows.fnAppendWritesCanonicalTextCard.stood.harness false
    row3 (fun _ h => by cases h) Cf8.wft (fun _ h => by cases h) fnAppendWritesCanonicalText_row_tie rfl ⟨rfl, rfl⟩ Head.mainIs_card rfl
    (fun f fn hf hfn => by
      obtain rfl : f = 8 := Option.some.inj (Cf8.fn.symm.trans hf) |>.symm
      obtain rfl : fn = Tryd.f8 := (Option.some.inj (Tryd.func8.symm.trans hfn)).symm
      exact ⟨Head.looks_no, fun j t ht => by
        rw [Tryd.params8] at ht
        have hm : t ∈ [4, 9, 9, 2, 9, 33] := by simpa using Array.mem_of_getElem? ht
        have hall : ([4, 9, 9, 2, 9, 33].all fun u => !Tryd.prog.wantsStandIn u) = true := by kernel_rfl
        exact (show Tryd.prog.wantsStandIn t = false by simpa using List.all_eq_true.1 hall t hm)⟩)
    Cf8.goes

end Go.Proofs.Qxb6601790aDoor
