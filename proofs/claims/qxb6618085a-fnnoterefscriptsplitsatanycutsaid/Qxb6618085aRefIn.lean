import Derived.Test.Qxb6618085aLawKeep
import Derived.Deep.Slices
import Derived.OpenShut
namespace Go.Proofs.Qxb6618085a
open Go.RowKit Go.ChangeShapes Go.WideShapes Go.Deep

instance : Inhabited RR := ⟨zeroRef⟩

theorem refs_in {H : Type} {enc : TypeId × Value → H} {W : World} {fuel : Nat} {a : Option Addr} {len cap : Nat} {x : DataW H × List MemPlace} (h : DataW.trod enc Try.prog W 0 (fun _ => true) true fuel 22 [.slice a len cap] = some x) :
    ∃ rs : List RR, len = rs.length ∧ rs.length ≤ maxLen ∧ Refs W a rs := by
  rcases open_slice Try.underlying22 h with ⟨h0, -⟩ | ⟨ad, len', cap', m, n, D, Pl, hcs, hb, hl, hm, hmm, -, hx⟩
  · simp only [List.cons.injEq, Value.slice.injEq, and_true] at h0
    obtain ⟨rfl, rfl, rfl⟩ := h0
    exact ⟨[], rfl, by simp, .inl rfl⟩
  · simp only [List.cons.injEq, Value.slice.injEq, and_true] at hcs
    obtain ⟨rfl, rfl, rfl⟩ := hcs
    have ce : Try.prog.cellsOf 33 = 4 := by kernel_rfl
    have c3 : Try.prog.cellsOf 3 = 1 := by kernel_rfl
    have c9 : Try.prog.cellsOf 9 = 1 := by kernel_rfl
    have hlm : len ≤ m := by rw [hmm]; simp; omega
    have each : ∀ i, i < len → ∃ r : RR, W.cell? (ad.add (i * 4)) = some (.int .i64 r.pos) ∧ W.cell? (ad.add (i * 4 + 1)) = some (.int .i64 r.num) ∧ W.cell? (ad.add (i * 4 + 2)) = some (.string r.name) ∧ W.cell? (ad.add (i * 4 + 3)) = some (.string r.text) := by
      intro i hi
      obtain ⟨cs', h1, h2⟩ := hx i (by omega)
      rw [ce] at h1
      obtain ⟨_, hlen, hcell⟩ := World.cells?_some h1
      obtain ⟨xs, k, hk, hxy, _, hxl, hf⟩ := DataW.trod_struct Try.underlying33 h2
      match cs', hlen with
      | [v0, v1, v2, v3], _ =>
        have g0 : DataW.trod enc Try.prog W 0 (fun _ => true) true k 3 [v0] = xs[0]? := by simpa [c3] using hf 0 _ rfl
        have g1 : DataW.trod enc Try.prog W 0 (fun _ => true) true k 3 [v1] = xs[1]? := by simpa [c3] using hf 1 _ rfl
        have g2 : DataW.trod enc Try.prog W 0 (fun _ => true) true k 9 [v2] = xs[2]? := by simpa [c9] using hf 2 _ rfl
        have g3 : DataW.trod enc Try.prog W 0 (fun _ => true) true k 9 [v3] = xs[3]? := by simpa [c9] using hf 3 _ rfl
        have hxl4 : xs.length = 4 := hxl
        rw [List.getElem?_eq_getElem (by omega)] at g0 g1 g2 g3
        obtain ⟨p, e0, -, -⟩ := DataW.trod_int Try.underlying3 g0
        obtain ⟨q, e1, -, -⟩ := DataW.trod_int Try.underlying3 g1
        obtain ⟨s, e2, -, -⟩ := DataW.trod_string Try.underlying9 g2
        obtain ⟨t, e3, -, -⟩ := DataW.trod_string Try.underlying9 g3
        cases e0
        cases e1
        cases e2
        cases e3
        have k0 := hcell 0 (by omega)
        have k1 := hcell 1 (by omega)
        have k2 := hcell 2 (by omega)
        have k3 := hcell 3 (by omega)
        rw [add_add] at k0 k1 k2 k3
        exact ⟨⟨p, q, s, t⟩, by simpa using k0, by simpa using k1, by simpa using k2, by simpa using k3⟩
    obtain ⟨f, hf⟩ := choose_lt each
    refine ⟨(List.range len).map f, by simp, by simp; omega, ?_⟩
    by_cases h0 : len = 0
    · subst h0; exact .inl rfl
    · obtain ⟨b, off, spot⟩ := ad
      have hspot : spot = none := by simpa [Addr.add] using World.cell?_spot (hf 0 (by omega)).1
      subst hspot
      refine .inr ⟨b, off, rfl, fun i hi => ?_⟩
      have hil : i < len := by simpa using hi
      have hg : ((List.range len).map f).getD i zeroRef = f i := by simp [List.getD, hil]
      rw [hg]
      have := hf i hil
      simp only [Addr.add_lit] at this
      exact this
end Go.Proofs.Qxb6618085a
