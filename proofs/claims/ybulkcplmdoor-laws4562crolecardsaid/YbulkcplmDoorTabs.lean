import Derived.Test.YbulkcplmDoorRows
import Derived.WalkKit
import Derived.ProofKit
import Derived.WalkLawsBesides
import Derived.WalkSpells
import Derived.Deep.QuietTactic
import Derived.BigQuiet
import Derived.LaidMore
import Derived.OpenShut
import Derived.OpenVars
import Derived.Maps.OwnSet
import Derived.Stop.Joined
namespace Go.Proofs.YbulkcplmDoor
open Go.ChangeShapes Go.WideShapes Go.ChangeAt Go.RowKit Go.WideElems Go.Maps

theorem own : ownKnob Ybad.prog.godebug = none := by kernel_rfl
theorem laidOut : laidOutB Ybad.prog = true := by kernel_rfl
theorem gRoles : Ybad.prog.globalNamed (Rows.lawS4562CRefuseSpec.vars.getD 0 "") = some 0 := by kernel_rfl
theorem gParts : Ybad.prog.globalNamed (Rows.lawS4562CRefuseSpec.vars.getD 1 "") = some 1 := by kernel_rfl
theorem tRoles : (Ybad.prog.globals[0]?).map (·.type) = some 47 := by kernel_rfl
theorem tParts : (Ybad.prog.globals[1]?).map (·.type) = some 48 := by kernel_rfl
theorem law23 : Keyed Ybad.prog 23 := string_keyed Ybad.underlying23
theorem law37 : Keyed Ybad.prog 37 := int_keyed Ybad.underlying37
theorem zero37 (w : World) : (zeroValue 37).run Ybad.prog w = .ok (.int .u8 0) w := by kernel_rfl

/-- WHAT THE TWO LISTED MAPS ANSWER, in this world. -/
structure Tabs (w : World) (b0 b1 : Nat) : Prop where
  c0 : w.cell? ⟨0, 0, none⟩ = some (.map (some b0))
  c1 : w.cell? ⟨1, 0, none⟩ = some (.map (some b1))
  m0 : ∃ n, w.ownsMap (H := Unit) Ybad.prog 23 (plainElem Ybad.prog 37) b0 n Rows.laid_example_com_speakwell_speakwell_pkg_session_wireRoles
  m1 : ∃ n, w.ownsMap (H := Unit) Ybad.prog 37 (plainElem Ybad.prog 37) b1 n Rows.laid_example_com_speakwell_speakwell_pkg_wire_counterparts

theorem of_laid {W : World} (h : laidMetH Ybad.prog Rows.lawS4562CRefuseRow.laid W) : ∃ b0 b1, Tabs W b0 b1 := by
  rw [MakeChecks.laidMetH_plain _ _ _ (by kernel_rfl)] at h
  obtain ⟨ps, ⟨g1, t1, cs1, f1, p1, q1, hg1, ht1, hv1, hd1, ⟨g0, t0, cs0, f0, p0, q0, hg0, ht0, hv0, hd0, _, _⟩, _⟩, _, _⟩ := h
  obtain rfl := Option.some.inj (gRoles.symm.trans hg0)
  obtain rfl := Option.some.inj (gParts.symm.trans hg1)
  obtain rfl := Option.some.inj (tRoles.symm.trans ht0)
  obtain rfl := Option.some.inj (tParts.symm.trans ht1)
  rcases open_map Ybad.underlying47 hd0 with ⟨_, hx⟩ | ⟨b0, es0, k0, m0, rfl, hcs0, hb0, _, F0, hx0⟩
  · simp [Rows.laid_example_com_speakwell_speakwell_pkg_session_wireRoles] at hx
  rcases open_map Ybad.underlying48 hd1 with ⟨_, hx⟩ | ⟨b1, es1, k1, m1, rfl, hcs1, hb1, _, F1, hx1⟩
  · simp [Rows.laid_example_com_speakwell_speakwell_pkg_wire_counterparts] at hx
  simp only [Prod.mk.injEq] at hx0 hx1
  refine ⟨b0, b1, ?_, ?_, ?_, ?_⟩
  · have := World.var?_cell hg0 hv0 0
    rw [Array.eq_one_of_toList hcs0] at this
    simpa using this
  · have := World.var?_cell hg1 hv1 0
    rw [Array.eq_one_of_toList hcs1] at this
    simpa using this
  · have hown := World.ownsMap_of_fit (R := plainElem Ybad.prog 37) hb0 F0 (fun x _ z hz => elemAt_plainElem_int Ybad.underlying37 hz)
    rw [← hx0.1] at hown
    exact ⟨_, hown⟩
  · have hown := World.ownsMap_of_fit (R := plainElem Ybad.prog 37) hb1 F1 (fun x _ z hz => elemAt_plainElem_int Ybad.underlying37 hz)
    rw [← hx1.1] at hown
    exact ⟨_, hown⟩

theorem Tabs.below {w w' : World} {b0 b1 : Nat} (h : Tabs w b0 b1) (hb : Below w.heap.size w w') : Tabs w' b0 b1 := by
  obtain ⟨n0, es0, k0, e0, F0, l0, d0⟩ := h.m0
  obtain ⟨n1, es1, k1, e1, F1, l1, d1⟩ := h.m1
  exact ⟨(hb.cell (World.block_lt_of_cell? _ _ h.c0)).trans h.c0, (hb.cell (World.block_lt_of_cell? _ _ h.c1)).trans h.c1,
    ⟨n0, es0, k0, (hb.block b0 (Array.getElem?_eq_some_iff.1 e0).1).trans e0, F0, l0, d0⟩, ⟨n1, es1, k1, (hb.block b1 (Array.getElem?_eq_some_iff.1 e1).1).trans e1, F1, l1, d1⟩⟩

/-- What the table of roles holds at a name. -/
def roleOf (l : List UInt8) : Int × Bool :=
  if l = [99, 117, 115, 116, 111, 109, 101, 114] then (3, true) else if l = [112, 101, 101, 114] then (4, true) else if l = [112, 114, 111, 118, 105, 100, 101, 114] then (0, true)
  else if l = [114, 115] then (1, true) else if l = [114, 115, 45, 99, 108, 105, 101, 110, 116] then (2, true) else (0, false)

/-- What the table of counterparts holds at a role. -/
def partOf (r : Int) : Int × Bool := if r = 0 then (3, true) else if r = 1 then (2, true) else if r = 2 then (1, true) else if r = 3 then (0, true) else if r = 4 then (4, true) else (0, false)

theorem no_string {a l : List UInt8} (h : ¬ l = a) : (Lit.string a).sameKey (.string l) = false := by simp [Lit.sameKey]; exact fun e => h e.symm
theorem no_int {a r : Int} (h : ¬ r = a) : (Lit.int .u8 a).sameKey (.int .u8 r) = false := by simp [Lit.sameKey]; exact fun e => h e.symm

theorem roles_at (l : List UInt8) : (Rows.laid_example_com_speakwell_speakwell_pkg_session_wireRoles (H := Unit)).atKey (.string l) (.lit (.int .u8 0)) = .lit (.int .u8 (roleOf l).1) ∧
    Maps.has (Rows.laid_example_com_speakwell_speakwell_pkg_session_wireRoles (H := Unit)) (.string l) = (roleOf l).2 := by
  unfold roleOf
  by_cases h1 : l = [99, 117, 115, 116, 111, 109, 101, 114]
  · subst h1; exact ⟨rfl, rfl⟩
  rw [if_neg h1]
  by_cases h2 : l = [112, 101, 101, 114]
  · subst h2; exact ⟨rfl, rfl⟩
  rw [if_neg h2]
  by_cases h3 : l = [112, 114, 111, 118, 105, 100, 101, 114]
  · subst h3; exact ⟨rfl, rfl⟩
  rw [if_neg h3]
  by_cases h4 : l = [114, 115]
  · subst h4; exact ⟨rfl, rfl⟩
  rw [if_neg h4]
  by_cases h5 : l = [114, 115, 45, 99, 108, 105, 101, 110, 116]
  · subst h5; exact ⟨rfl, rfl⟩
  rw [if_neg h5]
  have g1 := no_string h1
  have g2 := no_string h2
  have g3 := no_string h3
  have g4 := no_string h4
  have g5 := no_string h5
  simp [Rows.laid_example_com_speakwell_speakwell_pkg_session_wireRoles, DataW.atKey, Maps.has, g1, g2, g3, g4, g5]

theorem parts_at (r : Int) : (Rows.laid_example_com_speakwell_speakwell_pkg_wire_counterparts (H := Unit)).atKey (.int .u8 r) (.lit (.int .u8 0)) = .lit (.int .u8 (partOf r).1) ∧
    Maps.has (Rows.laid_example_com_speakwell_speakwell_pkg_wire_counterparts (H := Unit)) (.int .u8 r) = (partOf r).2 := by
  unfold partOf
  by_cases h1 : r = 0
  · subst h1; exact ⟨rfl, rfl⟩
  rw [if_neg h1]
  by_cases h2 : r = 1
  · subst h2; exact ⟨rfl, rfl⟩
  rw [if_neg h2]
  by_cases h3 : r = 2
  · subst h3; exact ⟨rfl, rfl⟩
  rw [if_neg h3]
  by_cases h4 : r = 3
  · subst h4; exact ⟨rfl, rfl⟩
  rw [if_neg h4]
  by_cases h5 : r = 4
  · subst h5; exact ⟨rfl, rfl⟩
  rw [if_neg h5]
  have g1 := no_int h1
  have g2 := no_int h2
  have g3 := no_int h3
  have g4 := no_int h4
  have g5 := no_int h5
  simp [Rows.laid_example_com_speakwell_speakwell_pkg_wire_counterparts, DataW.atKey, Maps.has, g1, g2, g3, g4, g5]

theorem Tabs.look0 {w : World} {b0 b1 : Nat} (h : Tabs w b0 b1) (s : ByteArray) (hs : s.size ≤ maxLen) :
    (Instr.lookup 47 (.map (some b0)) (.string s) true).run Ybad.prog w = .ok (.tuple #[.int .u8 (roleOf s.data.toList).1, .bool (roleOf s.data.toList).2]) w := by
  obtain ⟨n, hown⟩ := h.m0
  obtain ⟨v, ps, hrun, hR⟩ := hown.look_ok law23 Ybad.underlying47 (zero37 w) (plainElem_int Ybad.underlying37 (a := 0) (by decide)) (WideMaps.keyOf_string_mk Ybad.underlying23 hs)
  obtain ⟨a, rfl, hz, _⟩ := plainElem_int_inv Ybad.underlying37 hR
  obtain ⟨e1, e2⟩ := roles_at s.data.toList
  rw [e1] at hz
  simp only [Prod.mk.injEq, DataW.lit.injEq, Lit.int.injEq] at hz
  rw [hrun, e2, hz.1.2]

theorem Tabs.look1 {w : World} {b0 b1 : Nat} (h : Tabs w b0 b1) (r : Int) (hr : (Lit.int .u8 r).wf = true) :
    (Instr.lookup 48 (.map (some b1)) (.int .u8 r) true).run Ybad.prog w = .ok (.tuple #[.int .u8 (partOf r).1, .bool (partOf r).2]) w := by
  obtain ⟨n, hown⟩ := h.m1
  obtain ⟨v, ps, hrun, hR⟩ := hown.look_ok law37 Ybad.underlying48 (zero37 w) (plainElem_int Ybad.underlying37 (a := 0) (by decide)) (keyOf_int_mk Ybad.underlying37 hr)
  obtain ⟨a, rfl, hz, _⟩ := plainElem_int_inv Ybad.underlying37 hR
  obtain ⟨e1, e2⟩ := parts_at r
  rw [e1] at hz
  simp only [Prod.mk.injEq, DataW.lit.injEq, Lit.int.injEq] at hz
  rw [hrun, e2, hz.1.2]

/-- 'Counterpart' -/
theorem part7 (b0 b1 : Nat) (r : Int) (w : World) (h : Tabs w b0 b1) (hr : (Lit.int .u8 r).wf = true) :
    Calls Ybad.prog 7 #[.int .u8 r] w fun e w' => e = .returned (.tuple #[.int .u8 (partOf r).1, .bool (partOf r).2]) ∧ w' = w := by
  have hc := h.c1
  have hl := h.look1 r hr
  go_enter Ybad.func7, Ybad.ntmps7
  go_wp2
  go_ret2
  exact ⟨rfl, rfl⟩

theorem roleOf_wf (l : List UInt8) : (Lit.int .u8 (roleOf l).1).wf = true := by
  unfold roleOf
  repeat' split
  all_goals decide

/-- What 'neighborRole' answers at a name. -/
def nbrOf (l : List UInt8) : Int × Bool := if (roleOf l).2 then partOf (roleOf l).1 else (0, false)

/-- 'neighborRole', the neighbour's role in its cell. -/
theorem nbr6 (b0 b1 g : Nat) (s : ByteArray) (w : World) (h : Tabs w b0 b1) (hs : s.size ≤ maxLen) (hcell : w.cell? ⟨g, 10, none⟩ = some (.string s)) :
    Calls Ybad.prog 6 #[.pointer (some ⟨g, 0, none⟩)] w fun e w' => e = .returned (.tuple #[.int .u8 (nbrOf s.data.toList).1, .bool (nbrOf s.data.toList).2]) ∧ Below w.heap.size w w' := by
  have hc := h.c0
  have hl := fun n => (h.below (w' := w.drewN n) ⟨rfl, rfl, rfl, Nat.le_refl _, fun _ _ => rfl⟩).look0 s hs
  have hwf := roleOf_wf s.data.toList
  have HT : Hid (Tabs w b0 b1) := h
  have HD : Hid (nbrOf s.data.toList = if (roleOf s.data.toList).2 then partOf (roleOf s.data.toList).1 else (0, false)) := rfl
  generalize roleOf s.data.toList = ro at hl hwf HD
  obtain ⟨r, ok⟩ := ro
  generalize nbrOf s.data.toList = nb at HD
  cases ok
  · go_enter Ybad.func6, Ybad.ntmps6
    go_wp2
    go_quiet (fail)
    go_wp2
    go_ret2
    rw [HD.out]
    exact ⟨rfl, ⟨rfl, rfl, rfl, Nat.le_refl _, fun _ _ => rfl⟩⟩
  · go_enter Ybad.func6, Ybad.ntmps6
    go_wp2
    go_quiet (fail)
    go_wp2_with fail
    refine (part7 b0 b1 r (w.drewN nq) (HT.out.below ⟨rfl, rfl, rfl, Nat.le_refl _, fun _ _ => rfl⟩) hwf).mono ?_
    rintro e w2 ⟨rfl, rfl⟩
    go_wp2
    go_ret2
    rw [HD.out]
    exact ⟨rfl, ⟨rfl, rfl, rfl, Nat.le_refl _, fun _ _ => rfl⟩⟩
end Go.Proofs.YbulkcplmDoor
