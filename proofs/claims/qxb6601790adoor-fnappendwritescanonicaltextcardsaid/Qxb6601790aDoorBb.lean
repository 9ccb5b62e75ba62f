/-
  The walk of zzAppendSigned.
-/
import Derived.Test.Qxb6601790aDoorBa
namespace Go.Proofs.Qxb6601790aDoor
open Go.RowKit Num
open Go.Lib (decDigits)

theorem dec_big {u : Nat} (h : ¬ u < 10) : decDigits u = decDigits (u / 10) ++ [UInt8.ofNat (48 + u % 10)] := by
  conv => lhs; rw [decDigits, dif_neg h]
theorem dec_len_pos (u : Nat) : 1 ≤ (decDigits u).length := by
  have := decDigits_ne_nil u
  have := List.length_pos_iff.2 this
  omega
/-- What the loop keeps: the digits that lie behind place i are the low ones. -/
structure Lo (V u : Nat) (X : List UInt8) (i : Nat) : Prop where
  len : X.length = 20
  hi : i ≤ 19
  dig : decDigits V = decDigits u ++ X.drop (i + 1)
theorem Lo.step {V u : Nat} {X : List UInt8} {i : Nat} (h : Lo V u X i) (hu : ¬ u < 10) (hi : 1 ≤ i) : Lo V (u / 10) (X.set i (UInt8.ofNat (48 + u % 10))) (i - 1) := by
  refine ⟨by rw [List.length_set]; exact h.len, by have := h.hi; omega, ?_⟩
  have hl := h.len
  have hi' := h.hi
  rw [h.dig, dec_big hu, show i - 1 + 1 = i by omega, drop_set (by omega), List.append_assoc]
  rfl
theorem Lo.pos {V u : Nat} {X : List UInt8} {i : Nat} (h : Lo V u X i) (hV : V < 10000000000000000000) : 1 ≤ i := by
  have h1 := congrArg List.length h.dig
  have hp : (10 : Nat) ^ 19 = 10000000000000000000 := by decide
  have h2 : (decDigits V).length ≤ 19 := decDigits_len_le V 19 (by rw [hp]; exact hV) (by decide)
  have h3 := dec_len_pos u
  have h4 := h.len
  rw [List.length_append, List.length_drop] at h1
  omega
theorem Lo.done {V u : Nat} {X : List UInt8} {i : Nat} (h : Lo V u X i) (hu : u < 10) : (X.set i (UInt8.ofNat (48 + u))).drop i = decDigits V ∧ (decDigits V).length = 20 - i := by
  have hl := h.len
  have hi' := h.hi
  have e : (X.set i (UInt8.ofNat (48 + u))).drop i = decDigits V := by
    rw [drop_set (by omega), h.dig, Go.Lib.decDigits_one hu]
    rfl
  refine ⟨e, ?_⟩
  rw [← e, List.length_drop, List.length_set, hl]

theorem len60 : Tryd.prog.arrayLen 60 = 20 := by kernel_rfl
theorem elem60 : Tryd.prog.elem 60 = 5 := by kernel_rfl
theorem slice60 (W : World) (g k : Nat) (hk : k ≤ 19) : (Instr.sliceAt 60 (.pointer (some ⟨g, 0, none⟩)) (some (.int .i64 (k : Int))) none none).run Tryd.prog W = .ok (.slice (some ⟨g, k, none⟩) (20 - k) (20 - k)) W := by
  obtain ⟨ti, hti, htz, hts, htb⟩ := info_parts info5
  have hu : Tryd.prog.underlying 60 = some (.array (Tryd.prog.arrayLen 60) (Tryd.prog.elem 60)) := by rw [len60, elem60]; exact Tryd.underlying60
  rw [run_sliceAt_array_l (P := Tryd.prog) W 60 ⟨g, 0, none⟩ hu .i64 (k : Int) (by omega) (by rw [len60]; omega), len60, elem60]
  have hne : ¬ 20 = k := by omega
  simp [sizeOf, typeInfo, hti, hts, slicedAt, hne, Addr.add]
  exact fun h => h.symm
theorem row20 (w : World) : Row (w.alloc (.cells (Array.replicate 20 (.int .u8 0)) 60)) w.heap.size (List.replicate 20 0) := by
  refine ⟨fun j hj => ?_, fun j _ => by simp⟩
  have hj' : j < 20 := by simpa using hj
  rw [World.cell?_alloc_new, List.getElem_replicate]
  simp [hj']
theorem Row.newsAt {w : World} {g : Nat} {xs : List UInt8} (h : Row w g xs) (k : Nat) {ys : List UInt8} (hy : xs.drop k = ys) : ∀ j u, (bv ys)[j]? = some u → w.cell? ((⟨g, k, none⟩ : Addr).add j) = some u := by
  intro j u hu
  subst hy
  obtain ⟨hj, rfl⟩ := bv_at hu
  have hj' : k + j < xs.length := by rw [List.length_drop] at hj; omega
  have e : (⟨g, k, none⟩ : Addr).add j = ⟨g, k + j, none⟩ := by unfold Addr.add; split <;> simp_all
  rw [e, h.cell (k + j) hj', List.getElem_drop]

set_option maxHeartbeats 2000000 in
set_option maxRecDepth 100000 in
theorem zzAppendSigned_any (v : Value) (xs : List UInt8) (z : Int) (B : Nat) (w : World) (hsrc : Src w B v xs) (hB : B ≤ w.heap.size) (hl : xs.length ≤ 8388608) (h0 : -9223372036854775808 ≤ z) (h1 : z ≤ 9223372036854775807) :
    Calls Tryd.prog 35 #[v, .int .i64 z] w (App w B (xs ++ sgnText z)) := by
  have HS := hide hsrc
  go_enter Tryd.func35, Tryd.ntmps35
  go_upto_if 9 with fail
  go_cut [0, 5] from 8 (fun u n wx => ∃ V : Nat, V < 10000000000000000000 ∧ n = .int .u64 (V : Int) ∧ Hid (z.natAbs = V) ∧ Out wx B u (xs ++ [if z < 0 then 45 else 43]) ∧ Kp B w wx)
  case first =>
    by_cases hz : z < 0
    · go_wp2_with (at_builtin; refine wpList_put1 _ rfl _ _ rfl B _ _ rfl HS.out hB 45 45 rfl _ (by simp) rfl (by omega) ?_)
      intro v2 w2 ho2 hk2
      have HO2 := hide ho2
      have HK2 := hide hk2
      clear ho2 hk2
      go_wp2
      go_meet
      case rel => exact ⟨z.natAbs, by omega, by go_num, rfl, by rw [if_pos hz]; exact HO2.out, HK2.out⟩
    · go_wp2_with (at_builtin; refine wpList_put1 _ rfl _ _ rfl B _ _ rfl HS.out hB 43 43 rfl _ (by simp) rfl (by omega) ?_)
      intro v2 w2 ho2 hk2
      have HO2 := hide ho2
      have HK2 := hide hk2
      clear ho2 hk2
      go_wp2
      go_meet
      case rel => exact ⟨z.natAbs, by omega, by go_num, rfl, by rw [if_neg (by omega)]; exact HO2.out, HK2.out⟩
  case rest =>
  obtain ⟨V, hV, rfl, HZ, ho, hk⟩ := hcut
  have HTX : Hid (sgnText z = (if z < 0 then 45 else 43) :: decDigits V) := hide (by unfold sgnText; rw [HZ.out])
  generalize (if z < 0 then (45 : UInt8) else 43) = sg at *
  have HO := hide ho
  have HK := hide hk
  clear ho hk
  go_wp2
  go_loopw [5, 7] (fun n i wr => ∃ (u : Nat) (X : List UInt8) (k : Nat), n = .int .u64 (u : Int) ∧ i = .int .i64 (k : Int) ∧ u ≤ V ∧ Lo V u X k ∧ Row wr wc.heap.size X ∧ Below wc.heap.size wc wr ∧ wc.heap.size < wr.heap.size) (fun _ i _ => (intOf i).toNat)
  case atStart => exact ⟨V, List.replicate 20 0, 19, rfl, rfl, Nat.le_refl _, ⟨rfl, by decide, by simp⟩, row20 wc, (Below.refl _ _).alloc (Nat.le_refl _) _, by simp⟩
  case round =>
    obtain ⟨u, X, k, rfl, rfl, huV, hlo, hrow, hbel, hsz⟩ := hrel
    have hk1 := hlo.pos hV
    have hk2 := hlo.hi
    have hlX := hlo.len
    have hck := hrow.cell k (by omega)
    have hfk := hrow.free k (by omega)
    by_cases hu : u < 10
    · have hrow2 := hrow.store k (by omega) (UInt8.ofNat (48 + u)) (48 + (u : Int)) (by rw [toNat_ofNat (by omega)]; omega)
      obtain ⟨hd1, hd2⟩ := hlo.done hu
      have HN := hide (hrow2.newsAt k hd1)
      have hsl := fun W => slice60 W wc.heap.size k hk2
      have hbel2 := hbel.setCell (p := ⟨wc.heap.size, k, none⟩) (Nat.le_refl _) (.int .u8 (48 + (u : Int)))
      have HO2 := hide (HO.out.below hbel2)
      have HK2 := hide (HK.out.trans (Kp.of hbel2 (Nat.le_trans hB HK.out.size)))
      have HD2 := hide hd2
      clear hrow hbel hrow2 hbel2 hlo hd1 hd2
      go_wp2_with (at_builtin; refine wpList_putRow _ rfl _ _ rfl B _ _ rfl (.inl HO2.out) (Nat.le_trans hB HK2.out.size) ⟨wc.heap.size, k, none⟩ (20 - k) _ (decDigits V) HD2.out rfl HN.out (by omega) (by simp; omega) ?_)
      intro v3 w3 ho3 hk3
      have HO3 := hide ho3
      have HK3 := hide (HK2.out.trans hk3)
      clear ho3 hk3
      go_wp2
      go_ret
      refine ⟨_, rfl, ?_, HK3.out⟩
      have e : xs ++ sgnText z = xs ++ [sg] ++ decDigits V := by rw [HTX.out]; simp
      rw [e]
      exact .inl (by simpa using HO3.out)
    · have hrow2 := hrow.store k (by omega) (UInt8.ofNat (48 + u % 10)) (48 + (u : Int) % 10) (by rw [toNat_ofNat (by omega)]; omega)
      have HR2 := hide hrow2
      have HL2 := hide (hlo.step hu hk1)
      have HB2 := hide (hbel.setCell (p := ⟨wc.heap.size, k, none⟩) (Nat.le_refl _) (.int .u8 (48 + (u : Int) % 10)))
      clear hrow hbel hrow2 hlo
      go_wp2
      exact ⟨⟨u / 10, _, k - 1, by go_num, by go_num, by omega, HL2.out, HR2.out, HB2.out, by simpa [World.setCell] using hsz⟩, by simp [intOf]; omega⟩

end Go.Proofs.Qxb6601790aDoor
