/-
  Slices of structs that came in, opened: from the row's reading to what the walk is told.
-/
import Derived.Test.Qxb6616500aSl
import Derived.OpenShut
import Derived.Deep.Slices
import Derived.Deep.Strs
namespace Go.Proofs.Qxb6616500a
open Go.RowKit Go.ChangeShapes Go.WideShapes
set_option linter.unusedVariables false
section
variable {H : Type} {enc : TypeId × Value → H} {W : World} {base : Nat} {spare : Nat → Bool} {held : Bool}

/-- A slice that came in, its elements of s cells each. -/
theorem open_cells {P : Program} {t e : TypeId} {s fuel : Nat} {a : Option Addr} {len cap : Nat} {x : DataW H × List MemPlace} (ht : P.underlying t = some (.slice e)) (hs : P.cellsOf e = s) (hpos : 0 < s)
    (h : DataW.trod enc P W base spare held fuel t [.slice a len cap] = some x) :
    (a = none → len = 0 ∧ cap = 0) ∧ ∃ b off, (0 < len → a = some ⟨b, off, none⟩) ∧
      ∀ i, i < len → ∃ (cs : List Value) (n : Nat) (y : DataW H × List MemPlace), cs.length = s ∧ (∀ j, j < s → W.cell? ⟨b, off + i * s + j, none⟩ = cs[j]?) ∧ DataW.trod enc P W base spare held n e cs = some y := by
  rcases Deep.open_slice ht h with ⟨hcs, _⟩ | ⟨ad, l, c, m, n, D, Pl, hcs, _, hlc, _, hm, _, hx⟩
  · simp at hcs
    obtain ⟨rfl, rfl, rfl⟩ := hcs
    exact ⟨fun _ => ⟨rfl, rfl⟩, 0, 0, fun h => by omega, fun i hi => by omega⟩
  · simp at hcs
    obtain ⟨rfl, rfl, rfl⟩ := hcs
    refine ⟨(fun h => by cases h), ?_⟩
    have hlm : len ≤ m := by rw [hm]; split <;> omega
    by_cases h0 : len = 0
    · exact ⟨0, 0, fun h => by omega, fun i hi => by omega⟩
    · obtain ⟨b, off, spot⟩ := ad
      have hspot : spot = none := by
        obtain ⟨cs', h1, _⟩ := hx 0 (by omega)
        rw [hs] at h1
        obtain ⟨_, hlen, hcell⟩ := World.cells?_some h1
        have h2 := hcell 0 hpos
        rw [List.getElem?_eq_getElem (by omega)] at h2
        simpa [Addr.add] using World.cell?_spot h2
      subst hspot
      refine ⟨b, off, fun _ => rfl, fun i hi => ?_⟩
      obtain ⟨cs', h1, h2⟩ := hx i (by omega)
      rw [hs] at h1
      obtain ⟨_, hlen, hcell⟩ := World.cells?_some h1
      refine ⟨cs', n, _, hlen, fun j hj => ?_, h2⟩
      have := hcell j hj
      rwa [Addr.add_lit, Addr.add_lit] at this

theorem cells4 : Try.prog.cellsOf 4 = 1 := by kernel_rfl
theorem cells2 : Try.prog.cellsOf 2 = 1 := by kernel_rfl
theorem cells3 : Try.prog.cellsOf 3 = 1 := by kernel_rfl
theorem cells34 : Try.prog.cellsOf 34 = 1 := by kernel_rfl
theorem cells56 : Try.prog.cellsOf 56 = 2 := by kernel_rfl
theorem cells68 : Try.prog.cellsOf 68 = 3 := by kernel_rfl
theorem cells59 : Try.prog.cellsOf 59 = 4 := by kernel_rfl

theorem two_of {α : Type} : ∀ {l : List α}, l.length = 2 → ∃ a b, l = [a, b]
  | [a, b], _ => ⟨a, b, rfl⟩
theorem three_of {α : Type} : ∀ {l : List α}, l.length = 3 → ∃ a b c, l = [a, b, c]
  | [a, b, c], _ => ⟨a, b, c, rfl⟩
theorem four_of {α : Type} : ∀ {l : List α}, l.length = 4 → ∃ a b c d, l = [a, b, c, d]
  | [a, b, c, d], _ => ⟨a, b, c, d, rfl⟩

theorem open_val {fuel : Nat} {cs : List Value} {x : DataW H × List MemPlace} (h : DataW.trod enc Try.prog W base spare held fuel 56 cs = some x) : ∃ p : Bool × Int, cs = [.bool p.1, .int .i64 p.2] := by
  obtain ⟨y0, y1, n, _, hl, g0, g1⟩ := trod_struct2 Try.underlying56 h
  rw [cells56] at hl
  obtain ⟨v0, v1, rfl⟩ := two_of hl
  simp only [cells4, cells2] at g0 g1
  obtain ⟨b, hb, _⟩ := DataW.trod_bool Try.underlying4 g0
  obtain ⟨i, hi, _⟩ := DataW.trod_int Try.underlying2 g1
  simp at hb hi
  exact ⟨(b, i), by rw [hb, hi]⟩
theorem open_cell {fuel : Nat} {cs : List Value} {x : DataW H × List MemPlace} (h : DataW.trod enc Try.prog W base spare held fuel 68 cs = some x) : ∃ p : Int × Bool × Int, cs = [.int .i64 p.1, .bool p.2.1, .int .i64 p.2.2] := by
  obtain ⟨y0, y1, n, _, hl, g0, g1⟩ := trod_struct2 Try.underlying68 h
  rw [cells68] at hl
  obtain ⟨v0, v1, v2, rfl⟩ := three_of hl
  simp only [cells3, cells56] at g0 g1
  obtain ⟨c, hc, _⟩ := DataW.trod_int Try.underlying3 g0
  obtain ⟨q, hq⟩ := open_val g1
  simp at hc hq
  exact ⟨(c, q.1, q.2), by rw [hc, hq.1, hq.2]⟩
theorem open_change {fuel : Nat} {cs : List Value} {x : DataW H × List MemPlace} (h : DataW.trod enc Try.prog W base spare held fuel 59 cs = some x) : ∃ p : Int × Int × Bool × Int, cs = [.int .i64 p.1, .int .u64 p.2.1, .bool p.2.2.1, .int .i64 p.2.2.2] := by
  obtain ⟨y0, y1, y2, n, _, hl, g0, g1, g2⟩ := Deep.trod_struct3 Try.underlying59 h
  rw [cells59] at hl
  obtain ⟨v0, v1, v2, v3, rfl⟩ := four_of hl
  simp only [cells3, cells34, cells56] at g0 g1 g2
  obtain ⟨c, hc, _⟩ := DataW.trod_int Try.underlying3 g0
  obtain ⟨s, hs, _⟩ := DataW.trod_int Try.underlying34 g1
  obtain ⟨q, hq⟩ := open_val g2
  simp at hc hs hq
  exact ⟨(c, s, q.1, q.2), by rw [hc, hs, hq.1, hq.2]⟩

/-- []Val, opened. -/
theorem open_P {fuel : Nat} {a : Option Addr} {len cap : Nat} {x : DataW H × List MemPlace} (h : DataW.trod enc Try.prog W base spare held fuel 40 [.slice a len cap] = some x) : ∃ b off d, SlP W a len b off d := by
  obtain ⟨_, b, off, ha, hx⟩ := open_cells Try.underlying40 cells56 (by omega) h
  obtain ⟨d, hd⟩ := Deep.choose_lt (n := len) (p := fun i (d : Bool × Int) => W.cell? ⟨b, off + i * 2, none⟩ = some (.bool d.1) ∧ W.cell? ⟨b, off + i * 2 + 1, none⟩ = some (.int .i64 d.2)) (fun i hi => by
    obtain ⟨cs, n, y, _, hc, ht⟩ := hx i hi
    obtain ⟨p, rfl⟩ := open_val ht
    exact ⟨p, hc 0 (by omega), hc 1 (by omega)⟩)
  exact ⟨b, off, d, ha, fun k hk => (hd k hk).1, fun k hk => (hd k hk).2⟩
/-- []Cell, opened. -/
theorem open_C {fuel : Nat} {a : Option Addr} {len cap : Nat} {x : DataW H × List MemPlace} (h : DataW.trod enc Try.prog W base spare held fuel 41 [.slice a len cap] = some x) : ∃ b off c v, SlC W a len b off c v := by
  obtain ⟨_, b, off, ha, hx⟩ := open_cells Try.underlying41 cells68 (by omega) h
  obtain ⟨d, hd⟩ := Deep.choose_lt (n := len) (p := fun i (d : Int × Bool × Int) => W.cell? ⟨b, off + i * 3, none⟩ = some (.int .i64 d.1) ∧ W.cell? ⟨b, off + i * 3 + 1, none⟩ = some (.bool d.2.1) ∧ W.cell? ⟨b, off + i * 3 + 2, none⟩ = some (.int .i64 d.2.2)) (fun i hi => by
    obtain ⟨cs, n, y, _, hc, ht⟩ := hx i hi
    obtain ⟨p, rfl⟩ := open_cell ht
    exact ⟨p, hc 0 (by omega), hc 1 (by omega), hc 2 (by omega)⟩)
  exact ⟨b, off, fun k => (d k).1, fun k => (d k).2, ha, fun k hk => (hd k hk).1, fun k hk => (hd k hk).2.1, fun k hk => (hd k hk).2.2⟩
/-- []Change, opened. -/
theorem open_H {fuel : Nat} {a : Option Addr} {len cap : Nat} {x : DataW H × List MemPlace} (h : DataW.trod enc Try.prog W base spare held fuel 42 [.slice a len cap] = some x) : ∃ b off c s v, SlH W a len b off c s v := by
  obtain ⟨_, b, off, ha, hx⟩ := open_cells Try.underlying42 cells59 (by omega) h
  obtain ⟨d, hd⟩ := Deep.choose_lt (n := len) (p := fun i (d : Int × Int × Bool × Int) => W.cell? ⟨b, off + i * 4, none⟩ = some (.int .i64 d.1) ∧ W.cell? ⟨b, off + i * 4 + 1, none⟩ = some (.int .u64 d.2.1) ∧ W.cell? ⟨b, off + i * 4 + 2, none⟩ = some (.bool d.2.2.1) ∧ W.cell? ⟨b, off + i * 4 + 3, none⟩ = some (.int .i64 d.2.2.2)) (fun i hi => by
    obtain ⟨cs, n, y, _, hc, ht⟩ := hx i hi
    obtain ⟨p, rfl⟩ := open_change ht
    exact ⟨p, hc 0 (by omega), hc 1 (by omega), hc 2 (by omega), hc 3 (by omega)⟩)
  exact ⟨b, off, fun k => (d k).1, fun k => (d k).2.1, fun k => (d k).2.2, ha, fun k hk => (hd k hk).1, fun k hk => (hd k hk).2.1, fun k hk => (hd k hk).2.2.1, fun k hk => (hd k hk).2.2.2⟩
/-- []int, opened. -/
theorem open_I {fuel : Nat} {a : Option Addr} {len cap : Nat} {x : DataW H × List MemPlace} (h : DataW.trod enc Try.prog W base spare held fuel 23 [.slice a len cap] = some x) : (a = none → len = 0 ∧ cap = 0) ∧ ∃ b off c, SlI W a len b off c := by
  obtain ⟨hn, b, off, ha, hx⟩ := open_cells Try.underlying23 cells3 (by omega) h
  obtain ⟨d, hd⟩ := Deep.choose_lt (n := len) (p := fun i (d : Int) => W.cell? ⟨b, off + i, none⟩ = some (.int .i64 d)) (fun i hi => by
    obtain ⟨cs, n, y, _, hc, ht⟩ := hx i hi
    obtain ⟨p, rfl, _⟩ := DataW.trod_int Try.underlying3 ht
    have := hc 0 (by omega)
    rw [Nat.mul_one, Nat.add_zero] at this
    exact ⟨p, this⟩)
  exact ⟨hn, b, off, d, ha, hd⟩
end
end Go.Proofs.Qxb6616500a
