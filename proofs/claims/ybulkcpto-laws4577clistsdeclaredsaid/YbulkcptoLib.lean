import Derived.Test.YbulkcptoSmall
namespace Go.Proofs.Ybulkcpto
open Go.ChangeShapes Go.WideShapes Go.ChangeAt Go.RowKit Go.Sort Go.Lib

theorem bytes_ne {a b : ByteArray} (h : ¬ a = b) : (a.toList == b.toList) = false := by
  have : ¬ a.data = b.data := fun e => h (ByteArray.ext e)
  simpa [ByteArray.toList_eq] using this

theorem S_inj {a b : List UInt8} (h : S a = S b) : a = b := by simpa [S] using h

set_option maxRecDepth 100000 in
set_option maxHeartbeats 400000 in
/-- slices.Equal at two rows that hold one list. -/
theorem equal8 (g1 g2 c1 c2 : Nat) (l : List Dep) (w : World) (hl : l.length ≤ 100000) (h1 : ∀ j (hj : j < l.length), w.cell? ⟨g1, j * 2, none⟩ = some (S l[j].1) ∧ w.cell? ⟨g1, j * 2 + 1, none⟩ = some (S l[j].2))
    (h2 : ∀ j (hj : j < l.length), w.cell? ⟨g2, j * 2, none⟩ = some (S l[j].1) ∧ w.cell? ⟨g2, j * 2 + 1, none⟩ = some (S l[j].2)) :
    Calls Yba.prog 8 #[.slice (some ⟨g1, 0, none⟩) l.length c1, .slice (some ⟨g2, 0, none⟩) l.length c2] w fun e w' => e = .returned (.bool true) ∧ ∃ m, w' = w.drewN m := by
  generalize hn : l.length = n
  have hn' : (n : Int) ≤ 100000 := by omega
  have HN : Hid (l.length = n) := hn
  clear hn
  go_enter Yba.func8, Yba.ntmps8
  go_wp2
  go_loopw [13] (fun i wr => ∃ k : Nat, k ≤ n ∧ i = .int .i64 k ∧ ∃ m, wr = w.drewN m) (fun i _ => n - (intOf i).toNat)
  case atStart => exact ⟨0, Nat.zero_le _, rfl, 0, rfl⟩
  case round =>
    obtain ⟨k, hk, rfl, m, hwm⟩ := hrel
    by_cases hlt : k < n
    · have hk' : k < l.length := by rw [HN.out]; exact hlt
      obtain ⟨p1, p2⟩ := h1 k hk'
      obtain ⟨q1, q2⟩ := h2 k hk'
      have p1' : wr.cell? ⟨g1, k * 2, none⟩ = some (S l[k].1) := by rw [hwm]; exact p1
      have p2' : wr.cell? ⟨g1, k * 2 + 1, none⟩ = some (S l[k].2) := by rw [hwm]; exact p2
      have q1' : wr.cell? ⟨g2, k * 2, none⟩ = some (S l[k].1) := by rw [hwm]; exact q1
      have q2' : wr.cell? ⟨g2, k * 2 + 1, none⟩ = some (S l[k].2) := by rw [hwm]; exact q2
      have HW : Hid (wr = w.drewN m) := hwm
      have z0 : (0 : Int) ≤ (k : Int) := by omega
      have z1 : (k : Int) < (n : Int) := by omega
      clear hwm h1 h2 p1 p2 q1 q2
      simp only [S] at p1' p2' q1' q2'
      generalize (⟨l[k].1.toArray⟩ : ByteArray) = s1 at p1' q1'
      generalize (⟨l[k].2.toArray⟩ : ByteArray) = s2 at p2' q2'
      go_wp2
      go_quiet (fail)
      go_wp2
      go_roundw
      case rel => exact ⟨k + 1, by omega, by go_num, by rw [HW.out]; exact ⟨_, World.drewN_drewN _ _ _⟩⟩
      case measure => simp [intOf]; omega
    · subst hwm
      go_wp2
      go_ret
      exact ⟨rfl, m, rfl⟩

theorem HoldD.two {w : World} {g cap : Nat} {l : List Dep} (h : HoldD w g cap l) {j : Nat} (hj : j < l.length) : ∃ s1 s2 : ByteArray, S l[j].1 = .string s1 ∧ S l[j].2 = .string s2 ∧ w.cell? ⟨g, j * 2, none⟩ = some (.string s1) ∧ w.cell? ⟨g, j * 2 + 1, none⟩ = some (.string s2) ∧
    w.frozen? ⟨g, j * 2, none⟩ = false ∧ w.frozen? ⟨g, j * 2 + 1, none⟩ = false :=
  ⟨_, _, rfl, rfl, (h.cells j hj).1, (h.cells j hj).2, by obtain ⟨f, hf, _⟩ := h; exact hf.frozen _, by obtain ⟨f, hf, _⟩ := h; exact hf.frozen _⟩

theorem HoldD.set {w : World} {g cap : Nat} {dk : Array Dep} (h : HoldD w g cap dk.toList) {k : Nat} (_hk : k < dk.size) (x : Dep) :
    HoldD ((w.setCell ⟨g, k * 2, none⟩ (S x.1)).setCell ⟨g, k * 2 + 1, none⟩ (S x.2)) g cap (dk.setIfInBounds k x).toList := by
  obtain ⟨f, hf, hc, hv⟩ := h
  refine ⟨_, (hf.set _ _).set _ _, by simpa using hc, fun j hj => ?_⟩
  have hj' : j < dk.size := by simpa using hj
  have hj2 : j < dk.toList.length := by simpa using hj'
  obtain ⟨e1, e2⟩ := hv j hj2
  by_cases e : k = j
  · subst e
    refine ⟨?_, ?_⟩ <;> simp
  · have : (dk.setIfInBounds k x).toList[j] = dk.toList[j] := by simp [e]
    rw [this]
    refine ⟨?_, ?_⟩
    · show (if j * 2 = k * 2 + 1 then _ else if j * 2 = k * 2 then _ else f (j * 2)) = _
      rw [if_neg (by omega), if_neg (by omega), e1]
    · show (if j * 2 + 1 = k * 2 + 1 then _ else if j * 2 + 1 = k * 2 then _ else f (j * 2 + 1)) = _
      rw [if_neg (by omega), if_neg (by omega), e2]

theorem grown_set (w : World) (g o : Nat) (v : Value) : w.grownBy (w.setCell ⟨g, o, none⟩ v) (some g) :=
  ⟨rfl, rfl, rfl, by simp [World.setCell], fun k _ hne => Below.heap_setCell _ _ _ _ (fun e => hne (by rw [e]))⟩

theorem compD_all (l : List Dep) (h : ∀ j, j < l.length → keeps l.toArray j = true) : compD l = l := compact_all l h

theorem zero31 (w : World) : (zeroValue 31).run Yba.prog w = .ok (.agg #[.string ⟨#[]⟩, .string ⟨#[]⟩]) w := by kernel_rfl

theorem grown_sets (g : Nat) : ∀ (vs : List Value) (o : Nat) (w : World), w.grownBy (w.setCells g o vs) (some g)
  | [], _, _ => ⟨rfl, rfl, rfl, Nat.le_refl _, fun _ _ _ => rfl⟩
  | v :: vs, o, w => (grown_set w g o v).trans (grown_sets g vs (o + 1) _)

/-- 'clear(s[k:])' over a row of dependencies: what lies ahead of place k stays. -/
theorem clear_tail (g N k m c : Nat) (f : Nat → Value) (w : World) (hrow : w.rowIs g 31 N f) (hm : 0 < m) (hN : k * 2 + m * 2 ≤ N) :
    ∃ w', (∀ ty, (Builtin.clear_ #[25] ty #[.slice (some ⟨g, k * 2, none⟩) m c]).run Yba.prog w = .ok (.tuple #[]) w') ∧ (∀ j, j < k * 2 → w'.cell? ⟨g, j, none⟩ = w.cell? ⟨g, j, none⟩) ∧ w.grownBy w' (some g) := by
  have hlen : (Builtin.zeroCells #[.string ⟨#[]⟩, .string ⟨#[]⟩] m).toList.length = m * 2 := by simp [size_zeroCells]
  have hone : ∀ v ∈ (Builtin.zeroCells #[.string ⟨#[]⟩, .string ⟨#[]⟩] m).toList, v.oneCell' = true := by
    intro v hv
    simp [Builtin.zeroCells] at hv
    obtain ⟨i, _, rfl⟩ := hv
    rcases Nat.mod_two_eq_zero_or_one i with h | h <;> simp [h, Value.oneCell']
  obtain ⟨m', rfl⟩ : ∃ m', m = m' + 1 := ⟨m - 1, by omega⟩
  generalize hvs : (Builtin.zeroCells #[.string ⟨#[]⟩, .string ⟨#[]⟩] (m' + 1)).toList = vs at hlen hone
  have hst := run_storeCells_cells (P := Yba.prog) g (k * 2) vs 0 w (fun j hj => by rw [hrow.cell (by omega)]; rfl) (fun j hj => hrow.frozen _) hone
  simp only [Nat.add_zero] at hst
  refine ⟨_, fun ty => ?_, fun j hj => World.cell?_setCells_out g vs (k * 2) w _ (fun _ _ => .inl hj), grown_sets g vs (k * 2) w⟩
  simp [Builtin.clear_, run_underlying Yba.underlying25, Value.cells, hvs, hst]

set_option maxRecDepth 100000 in
set_option maxHeartbeats 1000000 in
theorem compact7 (g cap : Nat) (l : List Dep) (w : World) (hH : HoldD w g cap l) (hl : l.length ≤ 100000) :
    Calls Yba.prog 7 #[.slice (some ⟨g, 0, none⟩) l.length cap] w fun e w' => e = .returned (.slice (some ⟨g, 0, none⟩) (compD l).length cap) ∧
      (∀ j (hj : j < (compD l).length), w'.cell? ⟨g, j * 2, none⟩ = some (S (compD l)[j].1) ∧ w'.cell? ⟨g, j * 2 + 1, none⟩ = some (S (compD l)[j].2)) ∧ w.grownBy w' (some g) := by
  by_cases hs : l.length < 2
  · have e : compD l = l := compD_all l fun j hj => keeps_lt_one _ j (by omega)
    rw [e]
    have HH : Hid (HoldD w g cap l) := hH
    clear hH e
    go_enter Yba.func7, Yba.ntmps7
    go_wp2
    go_ret
    exact ⟨rfl, HH.out.cells, ⟨rfl, rfl, rfl, Nat.le_refl _, fun _ _ _ => rfl⟩⟩
  · have hcl : l.length ≤ cap := by obtain ⟨_, _, h, _⟩ := hH; exact h
    generalize hn : l.length = n at hs hl hcl
    have HN : Hid (l.length = n) := hn
    clear hn
    have hn' : (n : Int) ≤ 100000 := by omega
    have hn2 : (2 : Int) ≤ (n : Int) := by omega
    have HH : Hid (HoldD w g cap l) := hH
    clear hH
    go_enter Yba.func7, Yba.ntmps7
    go_wp2
    go_loopw [3] (fun i wr => ∃ k : Nat, 1 ≤ k ∧ k ≤ n ∧ i = .int .i64 k ∧ (∃ m, wr = w.drewN m) ∧ ∀ j, j < k → keeps l.toArray j = true) (fun i _ => n - (intOf i).toNat)
    case atStart => exact ⟨1, by omega, by omega, rfl, ⟨0, rfl⟩, keeps_lt_one _⟩
    case round =>
      obtain ⟨k, hk1, hk, rfl, ⟨m, hwm⟩, hall⟩ := hrel
      have A : Hid (∀ j, j < k → keeps l.toArray j = true) := hall
      have hHr : HoldD wr g cap l := by rw [hwm]; exact HH.out.block rfl
      have HW : Hid (wr = w.drewN m) := hwm
      clear hall hwm
      by_cases hlt : k < n
      · have hkl : k < l.length := by rw [HN.out]; exact hlt
        obtain ⟨j0, hj0⟩ : ∃ j0, j0 + 1 = k := ⟨k - 1, by omega⟩
        have hkl1 : j0 < l.length := by omega
        obtain ⟨s1, s2, es1, es2, c1, c2, _, _⟩ := hHr.two hkl
        obtain ⟨t1, t2, et1, et2, d1, d2, _, _⟩ := hHr.two hkl1
        have z0 : (0 : Int) ≤ (k : Int) := by omega
        have z1 : (k : Int) < (n : Int) := by omega
        have z2 : (0 : Int) ≤ (j0 : Int) := by omega
        have z3 : (j0 : Int) < (n : Int) := by omega
        have kw : IntKind.i64.wrap ((k : Int) - 1) = (j0 : Int) := by rw [IntKind.wrap_i64]; omega
        have HJ : Hid (j0 + 1 = k) := hj0
        clear hj0
        by_cases hdup : l[k] = l[j0]
        · have hd0 : keeps l.toArray k = false := keeps_neg (by omega) (by
            rw [get_toArray l hkl, show k - 1 = j0 by have := HJ.out; omega, get_toArray l hkl1]; exact hdup)
          have I0 : Hid (CompInv l.toArray (k + 1) k l.toArray) := CompInv.start A.out hd0
          obtain rfl : s1 = t1 := by
            have : S l[k].1 = S l[j0].1 := by rw [hdup]
            rw [es1, et1] at this
            simpa using this
          obtain rfl : s2 = t2 := by
            have : S l[k].2 = S l[j0].2 := by rw [hdup]
            rw [es2, et2] at this
            simpa using this
          have HR : Hid (HoldD wr g cap l) := hHr
          clear es1 es2 et1 et2 hdup hd0 hHr
          go_wp2
          go_quiet (fail)
          go_wp2
          clear c1 c2 d1 d2
          go_loopw [3, 5] (fun i3 i5 wx => ∃ (kk k2 : Nat) (dk : Array Dep), i3 = .int .i64 kk ∧ i5 = .int .i64 k2 ∧ 1 ≤ k2 ∧ k + k2 ≤ n ∧ CompInv l.toArray (k + k2) kk dk ∧ HoldD wx g cap dk.toList ∧ w.grownBy wx (some g)) (fun _ i5 _ => n - (intOf i5).toNat)
          case atStart => exact ⟨k, 1, l.toArray, rfl, rfl, Nat.le_refl _, by omega, I0.out, by rw [List.toList_toArray]; exact HR.out.block rfl, by rw [HW.out]; exact ⟨rfl, rfl, rfl, Nat.le_refl _, fun _ _ _ => rfl⟩⟩
          case round =>
            clear I0 HR HH
            obtain ⟨kk, k2, dk, rfl, rfl, h1, hle, hI, hHx, hgr⟩ := hrel
            have hkk := hI.lt
            have hds : dk.size = n := by rw [hI.size]; simpa using HN.out
            have hdl : dk.toList.length = n := by simpa using hds
            have GR : Hid (w.grownBy wr (some g)) := hgr
            have I2 : Hid (CompInv l.toArray (k + k2) kk dk) := hI
            have HX : Hid (HoldD wr g cap dk.toList) := hHx
            clear hgr
            by_cases hlt2 : k + k2 < n
            · obtain ⟨j2, hj2⟩ : ∃ j2, j2 + 1 = k2 := ⟨k2 - 1, by omega⟩
              have b2 : k + k2 < dk.toList.length := by omega
              have b3 : k + j2 < dk.toList.length := by omega
              have b4 : kk < dk.toList.length := by omega
              have hkl2 : k + k2 < l.length := by rw [HN.out]; exact hlt2
              have hkl3 : k + j2 < l.length := by rw [HN.out]; omega
              obtain ⟨u1, u2, eu1, eu2, cm1, cm2, _, _⟩ := hHx.two b2
              obtain ⟨v1, v2, ev1, ev2, cp1, cp2, _, _⟩ := hHx.two b3
              obtain ⟨o1, o2, _, _, ck1, ck2, fk1, fk2⟩ := hHx.two b4
              rw [show (k + k2) * 2 = k * 2 + k2 * 2 by omega] at cm1 cm2
              rw [show (k + j2) * 2 = k * 2 + j2 * 2 by omega] at cp1 cp2
              have hu : dk.toList[k + k2] = l[k + k2] := by
                have := hI.high (k + k2) (by omega)
                rw [get_toArray l hkl2, getElem!_pos dk (k + k2) (by omega)] at this
                simpa using this
              have hv : dk.toList[k + j2] = l[k + j2] := by
                have := hI.high (k + j2) (by omega)
                rw [get_toArray l hkl3, getElem!_pos dk (k + j2) (by omega)] at this
                simpa using this
              have z0 : (0 : Int) ≤ (k2 : Int) := by omega
              have z1 : (k2 : Int) < ((n - k : Nat) : Int) := by omega
              have z2 : (0 : Int) ≤ (j2 : Int) := by omega
              have z3 : (j2 : Int) < ((n - k : Nat) : Int) := by omega
              have z4 : (0 : Int) ≤ (kk : Int) := by omega
              have z5 : (kk : Int) < (n : Int) := by omega
              have kw : IntKind.i64.wrap ((k2 : Int) - 1) = (j2 : Int) := by rw [IntKind.wrap_i64]; omega
              have HJ2 : Hid (j2 + 1 = k2) := hj2
              clear hj2 hHx hI
              by_cases huv : l[k + k2] = l[k + j2]
              · have hd2 : keeps l.toArray (k + k2) = false := keeps_neg (by omega) (by
                  rw [get_toArray l hkl2, show k + k2 - 1 = k + j2 by have := HJ2.out; omega, get_toArray l hkl3]; exact huv)
                have I3 : Hid (CompInv l.toArray (k + (k2 + 1)) kk dk) := I2.out.skip hd2
                obtain rfl : u1 = v1 := by
                  have : S dk.toList[k + k2].1 = S dk.toList[k + j2].1 := by rw [hu, hv, huv]
                  rw [eu1, ev1] at this
                  simpa using this
                obtain rfl : u2 = v2 := by
                  have : S dk.toList[k + k2].2 = S dk.toList[k + j2].2 := by rw [hu, hv, huv]
                  rw [eu2, ev2] at this
                  simpa using this
                clear eu1 eu2 ev1 ev2 hu hv huv hd2 I2
                go_wp2
                go_quiet (fail)
                go_wp2
                go_roundw
                case rel => exact ⟨kk, k2 + 1, dk, rfl, by go_num, by omega, by omega, I3.out, HX.out.block rfl, GR.out.trans ⟨rfl, rfl, rfl, Nat.le_refl _, fun _ _ _ => rfl⟩⟩
                case measure => simp [intOf]; omega
              · have hd2 : keeps l.toArray (k + k2) = true := keeps_pos (by
                  rw [get_toArray l hkl2, show k + k2 - 1 = k + j2 by have := HJ2.out; omega, get_toArray l hkl3]; exact huv)
                have hne : u1 ≠ v1 ∨ u2 ≠ v2 := by
                  by_cases e1 : u1 = v1
                  · by_cases e2 : u2 = v2
                    · refine absurd ?_ huv
                      rw [← hu, ← hv]
                      exact Prod.ext (S_inj (by rw [eu1, ev1, e1])) (S_inj (by rw [eu2, ev2, e2]))
                    · exact .inr e2
                  · exact .inl e1
                have I3 : Hid (CompInv l.toArray (k + (k2 + 1)) (kk + 1) (dk.setIfInBounds kk l[k + k2])) := by
                  have := I2.out.keep (by simpa using hkl2) hd2
                  rw [get_toArray l hkl2] at this
                  exact this
                have EU : Hid (S l[k + k2].1 = .string u1 ∧ S l[k + k2].2 = .string u2) := by rw [← hu]; exact ⟨eu1, eu2⟩
                have hHS : Hid (∀ q, HoldD (((wr.drewN q).setCell ⟨g, kk * 2, none⟩ (.string u1)).setCell ⟨g, kk * 2 + 1, none⟩ (.string u2)) g cap (dk.setIfInBounds kk l[k + k2]).toList ∧
                    w.grownBy (((wr.drewN q).setCell ⟨g, kk * 2, none⟩ (.string u1)).setCell ⟨g, kk * 2 + 1, none⟩ (.string u2)) (some g)) := fun q => by
                  rw [← EU.out.1, ← EU.out.2]
                  refine ⟨HoldD.set (HX.out.block rfl) (by omega) _, (GR.out.trans ?_).trans ((grown_set _ _ _ _).trans (grown_set _ _ _ _))⟩
                  exact ⟨rfl, rfl, rfl, Nat.le_refl _, fun _ _ _ => rfl⟩
                clear eu1 eu2 ev1 ev2 hu hv huv hd2 I2 EU HX GR
                by_cases e1 : u1 = v1
                · have e2 : (u2.toList == v2.toList) = false := bytes_ne (hne.resolve_left (fun h => h e1))
                  subst e1
                  go_wp2
                  go_quiet (fail)
                  go_wp2
                  go_roundw
                  case rel => exact ⟨kk + 1, k2 + 1, _, by go_num, by go_num, by omega, by omega, I3.out, (hHS.out _).1, (hHS.out _).2⟩
                  case measure => simp [intOf]; omega
                · have e2 : (u1.toList == v1.toList) = false := bytes_ne e1
                  go_wp2
                  go_quiet (fail)
                  go_wp2
                  go_roundw
                  case rel => exact ⟨kk + 1, k2 + 1, _, by go_num, by go_num, by omega, by omega, I3.out, (hHS.out _).1, (hHS.out _).2⟩
                  case measure => simp [intOf]; omega
            · have hend : k + k2 = n := by omega
              obtain ⟨f, hf, hcc, hvv⟩ := hHx
              obtain ⟨wc, hcl, hkept, hg⟩ := clear_tail g (cap * 2) kk (n - kk) (cap - kk) f wr hf (by omega) (by omega)
              have FIN : Hid ((compD l).length = kk ∧ (∀ j (hj : j < (compD l).length), wc.cell? ⟨g, j * 2, none⟩ = some (S (compD l)[j].1) ∧ wc.cell? ⟨g, j * 2 + 1, none⟩ = some (S (compD l)[j].2)) ∧ w.grownBy wc (some g)) := by
                have hlk : (compD l).length = kk := by
                  have := hI.len
                  rw [hend, ← HN.out] at this
                  simpa [compD] using this
                refine ⟨hlk, fun j hj => ?_, GR.out.trans hg⟩
                rw [hlk] at hj
                have hlow := hI.low j hj
                have e : (compD l)[j] = dk.toList[j]'(by omega) := by
                  have h1 : (compD l)[j]? = some dk[j]! := by
                    rw [hend, ← HN.out] at hlow
                    simpa [compD] using hlow
                  rw [getElem!_pos dk j (by omega)] at h1
                  have h2 := List.getElem?_eq_some_iff.1 h1
                  obtain ⟨_, h3⟩ := h2
                  simpa using h3
                rw [hkept _ (by omega), hkept _ (by omega), e]
                exact HX.out.cells j (by omega)
              have z4 : (0 : Int) ≤ (kk : Int) := by omega
              have z5 : (kk : Int) < (n : Int) := by omega
              clear hkept hg hI hf hvv hcc I2 HX GR
              go_wp2
              go_ret
              exact ⟨by rw [FIN.out.1]; rfl, FIN.out.2.1, FIN.out.2.2⟩
        · have hne : s1 ≠ t1 ∨ s2 ≠ t2 := by
            by_cases e1 : s1 = t1
            · by_cases e2 : s2 = t2
              · exact absurd (Prod.ext (S_inj (by rw [es1, et1, e1])) (S_inj (by rw [es2, et2, e2]))) hdup
              · exact .inr e2
            · exact .inl e1
          have hkeep : keeps l.toArray k = true := keeps_pos (by
            rw [get_toArray l hkl, show k - 1 = j0 by have := HJ.out; omega, get_toArray l hkl1]; exact hdup)
          have fin : Hid (∀ q, (∃ m', (wr.drewN q) = w.drewN m') ∧ ∀ j, j < k + 1 → keeps l.toArray j = true) := fun q => ⟨by rw [HW.out]; exact ⟨_, World.drewN_drewN _ _ _⟩, fun j hj => by
            by_cases e : j = k
            · subst e; exact hkeep
            · exact A.out j (by omega)⟩
          clear es1 es2 et1 et2 hdup hkeep hHr
          by_cases e1 : s1 = t1
          · have e2 : (s2.toList == t2.toList) = false := bytes_ne (hne.resolve_left (fun h => h e1))
            subst e1
            go_wp2
            go_quiet (fail)
            go_wp2
            go_roundw
            case rel => exact ⟨k + 1, by omega, by omega, by go_num, (fin.out _).1, (fin.out 0).2⟩
            case measure => simp [intOf]; omega
          · have e2 : (s1.toList == t1.toList) = false := bytes_ne e1
            go_wp2
            go_quiet (fail)
            go_wp2
            go_roundw
            case rel => exact ⟨k + 1, by omega, by omega, by go_num, (fin.out _).1, (fin.out 0).2⟩
            case measure => simp [intOf]; omega
      · obtain rfl : k = n := by omega
        have e : compD l = l := compD_all l fun j hj => A.out j (by rw [← HN.out]; exact hj)
        have HC : Hid (compD l = l) := e
        have HR : Hid (HoldD wr g cap l) := hHr
        clear e hHr
        go_wp2
        go_ret
        rw [HC.out]
        refine ⟨by rw [HN.out]; rfl, HR.out.cells, ?_⟩
        rw [HW.out]
        exact ⟨rfl, rfl, rfl, Nat.le_refl _, fun _ _ _ => rfl⟩
end Go.Proofs.Ybulkcpto
