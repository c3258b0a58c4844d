/-
  Slices of structs that came in: where they lie and what they hold.
-/
import Derived.Test.Qxb6616500aProj
namespace Go.Proofs.Qxb6616500a
open Go.RowKit
set_option linter.unusedVariables false
/-- []Val. -/
structure SlP (w : World) (ao : Option Addr) (n b off : Nat) (d : Nat → Bool × Int) : Prop where
  addr : 0 < n → ao = some ⟨b, off, none⟩
  c0 : ∀ k, k < n → w.cell? ⟨b, off + k * 2, none⟩ = some (.bool (d k).1)
  c1 : ∀ k, k < n → w.cell? ⟨b, off + k * 2 + 1, none⟩ = some (.int .i64 (d k).2)
/-- []Cell. -/
structure SlC (w : World) (ao : Option Addr) (n b off : Nat) (c : Nat → Int) (v : Nat → Bool × Int) : Prop where
  addr : 0 < n → ao = some ⟨b, off, none⟩
  c0 : ∀ k, k < n → w.cell? ⟨b, off + k * 3, none⟩ = some (.int .i64 (c k))
  c1 : ∀ k, k < n → w.cell? ⟨b, off + k * 3 + 1, none⟩ = some (.bool (v k).1)
  c2 : ∀ k, k < n → w.cell? ⟨b, off + k * 3 + 2, none⟩ = some (.int .i64 (v k).2)
/-- []Change. -/
structure SlH (w : World) (ao : Option Addr) (n b off : Nat) (c s : Nat → Int) (v : Nat → Bool × Int) : Prop where
  addr : 0 < n → ao = some ⟨b, off, none⟩
  c0 : ∀ k, k < n → w.cell? ⟨b, off + k * 4, none⟩ = some (.int .i64 (c k))
  c1 : ∀ k, k < n → w.cell? ⟨b, off + k * 4 + 1, none⟩ = some (.int .u64 (s k))
  c2 : ∀ k, k < n → w.cell? ⟨b, off + k * 4 + 2, none⟩ = some (.bool (v k).1)
  c3 : ∀ k, k < n → w.cell? ⟨b, off + k * 4 + 3, none⟩ = some (.int .i64 (v k).2)
section
variable {w w' : World} {ao : Option Addr} {n b off : Nat} {d v : Nat → Bool × Int} {c s : Nat → Int}
theorem SlP.grown (h : SlP w ao n b off d) (hb : Below w.heap.size w w') : SlP w' ao n b off d := ⟨h.addr, fun k hk => keep_all hb (h.c0 k hk), fun k hk => keep_all hb (h.c1 k hk)⟩
theorem SlC.grown (h : SlC w ao n b off c v) (hb : Below w.heap.size w w') : SlC w' ao n b off c v := ⟨h.addr, fun k hk => keep_all hb (h.c0 k hk), fun k hk => keep_all hb (h.c1 k hk), fun k hk => keep_all hb (h.c2 k hk)⟩
theorem SlH.grown (h : SlH w ao n b off c s v) (hb : Below w.heap.size w w') : SlH w' ao n b off c s v := ⟨h.addr, fun k hk => keep_all hb (h.c0 k hk), fun k hk => keep_all hb (h.c1 k hk), fun k hk => keep_all hb (h.c2 k hk), fun k hk => keep_all hb (h.c3 k hk)⟩
theorem SlP.index (h : SlP w ao n b off d) (cap : Nat) {k : Nat} (hk : k < n) (W : World) : (Instr.indexAt 40 (.slice ao n cap) (.int .i64 k)).run Try.prog W = .ok (.pointer (some ⟨b, off + k * 2, none⟩)) W :=
  index_any (P := Try.prog) Try.underlying40 size56 (c := cap) h.addr hk W
theorem SlC.index (h : SlC w ao n b off c v) (cap : Nat) {k : Nat} (hk : k < n) (W : World) : (Instr.indexAt 41 (.slice ao n cap) (.int .i64 k)).run Try.prog W = .ok (.pointer (some ⟨b, off + k * 3, none⟩)) W :=
  index_any (P := Try.prog) Try.underlying41 size68 (c := cap) h.addr hk W
theorem SlH.index (h : SlH w ao n b off c s v) (cap : Nat) {k : Nat} (hk : k < n) (W : World) : (Instr.indexAt 42 (.slice ao n cap) (.int .i64 k)).run Try.prog W = .ok (.pointer (some ⟨b, off + k * 4, none⟩)) W :=
  index_any (P := Try.prog) Try.underlying42 size59 (c := cap) h.addr hk W
end
end Go.Proofs.Qxb6616500a
