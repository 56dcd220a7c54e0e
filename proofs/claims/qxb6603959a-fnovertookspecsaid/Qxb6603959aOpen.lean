/- The arguments opened: a record by value with two slices of records. -/
import Derived.Test.Qxb6603959aRec
import Derived.ProofKit
import Derived.OpenShut
import Derived.Deep.Slices
import Derived.Deep.Fields
import Derived.Lib.SmallJoins
namespace Go.Proofs.Qxb6603959a
open Go.ChangeShapes Go.WideShapes Go.ChangeAt Go.RowKit Go.Deep Go.Joins

theorem Try.cells33 : Try.prog.cellsOf 33 = 5 := by kernel_rfl
theorem Try.cells25 : Try.prog.cellsOf 25 = 21 := by kernel_rfl

section
variable {H : Type} {enc : TypeId × Value → H} {w : World} {base : Nat} {spare : Nat → Bool} {held : Bool}

theorem open_fields {P : Program} {t : TypeId} {fs : Array Field} {fuel : Nat} {cs : List Value} {x : DataW H × List MemPlace} (hs : P.underlying t = some (.struct fs)) (hone : oneCellFields P fs = true) (hC : P.cellsOf t = fs.size)
    (h : DataW.trod enc P w base spare held fuel t cs = some x) : cs.length = fs.size ∧ ∀ (i : Nat) (f : Field), fs[i]? = some f → ∃ n y, DataW.trod enc P w base spare held n f.type [cs.getD i undef] = some y := by
  obtain ⟨xs, n, _, rfl, hlen, hxl, hf⟩ := DataW.trod_struct hs h
  rw [hC] at hlen
  refine ⟨hlen, fun i f hi => ?_⟩
  have hlt : i < fs.size := (Array.getElem?_eq_some_iff.1 hi).1
  obtain ⟨ho, hc1⟩ := hone_of hone i f hi
  have g := hf i f hi
  rw [ho, hc1, take1_drop cs i undef (by omega), List.getElem?_eq_getElem (by omega)] at g
  exact ⟨n, _, g⟩

/-- One element: five numbers. -/
theorem open_el {fuel : Nat} {cs : List Value} {x : DataW H × List MemPlace} (h : DataW.trod enc Try.prog w base spare held fuel 33 cs = some x) :
    ∃ a b c d e : Int, cs = [.int .u64 a, .int .u64 b, .int .i64 c, .int .u64 d, .int .i64 e] := by
  obtain ⟨hl, hf⟩ := open_fields Try.underlying33 (by kernel_rfl) Try.cells33 h
  obtain ⟨m0, y0, r0⟩ := hf 0 _ rfl
  obtain ⟨x0, e0, _, _⟩ := DataW.trod_int Try.underlying22 r0
  obtain ⟨m1, y1, r1⟩ := hf 1 _ rfl
  obtain ⟨x1, e1, _, _⟩ := DataW.trod_int Try.underlying22 r1
  obtain ⟨m2, y2, r2⟩ := hf 2 _ rfl
  obtain ⟨x2, e2, _, _⟩ := DataW.trod_int Try.underlying3 r2
  obtain ⟨m3, y3, r3⟩ := hf 3 _ rfl
  obtain ⟨x3, e3, _, _⟩ := DataW.trod_int Try.underlying22 r3
  obtain ⟨m4, y4, r4⟩ := hf 4 _ rfl
  obtain ⟨x4, e4, _, _⟩ := DataW.trod_int Try.underlying3 r4
  match cs, hl with
  | [v0, v1, v2, v3, v4], _ =>
    simp at e0 e1 e2 e3 e4
    subst e0 e1 e2 e3 e4
    exact ⟨_, _, _, _, _, rfl⟩

/-- A slice of such elements: what lies behind it. -/
theorem open_src {fuel : Nat} {v : Value} {x : DataW H × List MemPlace} (h : DataW.trod enc Try.prog w base spare held fuel 23 [v] = some x) :
    ∃ (o : Option Addr) (n c : Nat) (X : Nat → El), [v] = [.slice o n c] ∧ n ≤ maxLen ∧ Src 0 w o n X := by
  rcases open_slice Try.underlying23 h with ⟨hcs, _⟩ | ⟨a, len, cap, m, n, D, Pl, hcs, _, hlc, hcm, hm, _, hel⟩
  · exact ⟨none, 0, 0, fun _ => ⟨0, 0, 0, 0, 0⟩, hcs, by simp [maxLen], .inl rfl⟩
  rw [Try.cells33] at hel
  have hle : len ≤ m := by rw [hm]; split <;> omega
  obtain ⟨b, off, spot⟩ := a
  by_cases hz : len = 0
  · exact ⟨_, _, _, fun _ => ⟨0, 0, 0, 0, 0⟩, hcs, by omega, .inl hz⟩
  have hcell : ∀ j, j < len → ∃ a b' c d e : Int, ∀ i, i < 5 → w.cell? ((⟨b, off, spot⟩ : Addr).add (j * 5) |>.add i) = ([.int .u64 a, .int .u64 b', .int .i64 c, .int .u64 d, .int .i64 e] : List Value)[i]? := fun j hj => by
    obtain ⟨cs', h1, h2⟩ := hel j (by omega)
    obtain ⟨_, _, h3⟩ := World.cells?_some h1
    obtain ⟨a, b', c, d, e, rfl⟩ := open_el h2
    exact ⟨a, b', c, d, e, h3⟩
  obtain ⟨a0, b0, c0, d0, e0, h0⟩ := hcell 0 (by omega)
  have hs0 := h0 0 (by omega)
  have hspot : spot = none := by simpa [Addr.add] using World.cell?_spot (hs0.trans rfl)
  subst hspot
  have hadd : ∀ j i, ((⟨b, off, none⟩ : Addr).add (j * 5)).add i = ⟨b, off + j * 5 + i, none⟩ := fun j i => by rw [add_plain, add_plain]
  have hlt : b < w.heap.size := by
    have h1 : w.cell? ⟨b, off, none⟩ = some (.int .u64 a0) := by have h2 := hs0; rw [hadd] at h2; simpa using h2
    unfold World.cell? at h1
    rcases Nat.lt_or_ge b w.heap.size with h | h
    · exact h
    · simp [Array.getElem?_eq_none h] at h1
  refine ⟨_, _, _, fun j => ⟨intOf ((w.cell? ⟨b, off + j * 5, none⟩).getD undef), intOf ((w.cell? ⟨b, off + j * 5 + 1, none⟩).getD undef), intOf ((w.cell? ⟨b, off + j * 5 + 2, none⟩).getD undef), intOf ((w.cell? ⟨b, off + j * 5 + 3, none⟩).getD undef), intOf ((w.cell? ⟨b, off + j * 5 + 4, none⟩).getD undef)⟩, hcs, by omega, .inr ⟨b, off, rfl, Nat.zero_le _, hlt, fun j hj => ?_⟩⟩
  obtain ⟨a, b', c, d, e, hj'⟩ := hcell j hj
  have k0 := hj' 0 (by omega)
  have k1 := hj' 1 (by omega)
  have k2 := hj' 2 (by omega)
  have k3 := hj' 3 (by omega)
  have k4 := hj' 4 (by omega)
  rw [hadd] at k0 k1 k2 k3 k4
  simp only [Nat.add_zero, List.getElem?_cons_zero, List.getElem?_cons_succ] at k0 k1 k2 k3 k4
  simp [k0, k1, k2, k3, k4, intOf]
end

set_option maxRecDepth 100000 in
/-- The record by value. -/
theorem open_prg {H : Type} {enc : TypeId × Value → H} {w : World} {spare : Nat → Bool} {held : Bool} {base b0 : Nat} {v : Value} {d : DataW H} {p : List MemPlace} (hv : Value.okWide Try.prog w .any b0 25 v) (h : DataW.Trod enc Try.prog w base spare held 25 v d p) :
    ∃ (P : Prg) (o1 o2 : Option Addr) (n1 c1 n2 c2 : Nat) (X1 X2 : Nat → El), v = .agg #[.int .u8 P.st, .int .u64 P.ma, .int .u64 P.nx, .slice o1 n1 c1, .int .i64 P.wi, .int .i64 P.fl, .int .i64 P.ak, .int .u64 P.sd, .int .u64 P.lr, .bool P.ro, .slice o2 n2 c2, .int .u64 P.rh, .int .u64 P.hf, .int .u64 P.hl, .int .u64 P.hz, .int .i64 P.tk, .int .u64 P.sn, .int .i64 P.ra, .bool P.av, .int .u64 P.rd, .int .u64 P.cm] ∧ n1 ≤ maxLen ∧ n2 ≤ maxLen ∧ Src 0 w o1 n1 X1 ∧ Src 0 w o2 n2 X2 ∧
      (Lit.int .u8 P.st).wf = true ∧ (Lit.int .u64 P.ma).wf = true ∧ (Lit.int .u64 P.nx).wf = true ∧ (Lit.int .u64 P.sn).wf = true := by
  obtain ⟨cs, rfl, hsz⟩ := okWide_struct Try.underlying25 hv
  obtain ⟨fuel, hf0⟩ := h
  obtain ⟨hl, hf⟩ := open_fields Try.underlying25 (by kernel_rfl) Try.cells25 hf0
  obtain ⟨m0, y0, r0⟩ := hf 0 _ rfl
  obtain ⟨xst, e0, _, wst⟩ := DataW.trod_int Try.underlying5 r0
  obtain ⟨m1, y1, r1⟩ := hf 1 _ rfl
  obtain ⟨xma, e1, _, wma⟩ := DataW.trod_int Try.underlying22 r1
  obtain ⟨m2, y2, r2⟩ := hf 2 _ rfl
  obtain ⟨xnx, e2, _, wnx⟩ := DataW.trod_int Try.underlying22 r2
  obtain ⟨m3, y3, r3⟩ := hf 3 _ rfl
  obtain ⟨o1, n1, c1, X1, e3, s1⟩ := open_src r3
  obtain ⟨m4, y4, r4⟩ := hf 4 _ rfl
  obtain ⟨xwi, e4, _, wwi⟩ := DataW.trod_int Try.underlying3 r4
  obtain ⟨m5, y5, r5⟩ := hf 5 _ rfl
  obtain ⟨xfl, e5, _, wfl⟩ := DataW.trod_int Try.underlying3 r5
  obtain ⟨m6, y6, r6⟩ := hf 6 _ rfl
  obtain ⟨xak, e6, _, wak⟩ := DataW.trod_int Try.underlying3 r6
  obtain ⟨m7, y7, r7⟩ := hf 7 _ rfl
  obtain ⟨xsd, e7, _, wsd⟩ := DataW.trod_int Try.underlying22 r7
  obtain ⟨m8, y8, r8⟩ := hf 8 _ rfl
  obtain ⟨xlr, e8, _, wlr⟩ := DataW.trod_int Try.underlying22 r8
  obtain ⟨m9, y9, r9⟩ := hf 9 _ rfl
  obtain ⟨xro, e9, _⟩ := DataW.trod_bool Try.underlying4 r9
  obtain ⟨m10, y10, r10⟩ := hf 10 _ rfl
  obtain ⟨o2, n2, c2, X2, e10, s2⟩ := open_src r10
  obtain ⟨m11, y11, r11⟩ := hf 11 _ rfl
  obtain ⟨xrh, e11, _, wrh⟩ := DataW.trod_int Try.underlying22 r11
  obtain ⟨m12, y12, r12⟩ := hf 12 _ rfl
  obtain ⟨xhf, e12, _, whf⟩ := DataW.trod_int Try.underlying22 r12
  obtain ⟨m13, y13, r13⟩ := hf 13 _ rfl
  obtain ⟨xhl, e13, _, whl⟩ := DataW.trod_int Try.underlying22 r13
  obtain ⟨m14, y14, r14⟩ := hf 14 _ rfl
  obtain ⟨xhz, e14, _, whz⟩ := DataW.trod_int Try.underlying22 r14
  obtain ⟨m15, y15, r15⟩ := hf 15 _ rfl
  obtain ⟨xtk, e15, _, wtk⟩ := DataW.trod_int Try.underlying3 r15
  obtain ⟨m16, y16, r16⟩ := hf 16 _ rfl
  obtain ⟨xsn, e16, _, wsn⟩ := DataW.trod_int Try.underlying22 r16
  obtain ⟨m17, y17, r17⟩ := hf 17 _ rfl
  obtain ⟨xra, e17, _, wra⟩ := DataW.trod_int Try.underlying3 r17
  obtain ⟨m18, y18, r18⟩ := hf 18 _ rfl
  obtain ⟨xav, e18, _⟩ := DataW.trod_bool Try.underlying4 r18
  obtain ⟨m19, y19, r19⟩ := hf 19 _ rfl
  obtain ⟨xrd, e19, _, wrd⟩ := DataW.trod_int Try.underlying22 r19
  obtain ⟨m20, y20, r20⟩ := hf 20 _ rfl
  obtain ⟨xcm, e20, _, wcm⟩ := DataW.trod_int Try.underlying22 r20
  obtain ⟨l⟩ := cs
  simp only [Value.cells] at hl e0 e1 e2 e3 e4 e5 e6 e7 e8 e9 e10 e11 e12 e13 e14 e15 e16 e17 e18 e19 e20
  match l, hl with
  | [v0, v1, v2, v3, v4, v5, v6, v7, v8, v9, v10, v11, v12, v13, v14, v15, v16, v17, v18, v19, v20], _ =>
    simp at e0 e1 e2 e3 e4 e5 e6 e7 e8 e9 e10 e11 e12 e13 e14 e15 e16 e17 e18 e19 e20
    subst e0 e1 e2 e3 e4 e5 e6 e7 e8 e9 e10 e11 e12 e13 e14 e15 e16 e17 e18 e19 e20
    exact ⟨⟨xst, xma, xnx, xwi, xfl, xak, xsd, xlr, xro, xrh, xhf, xhl, xhz, xtk, xsn, xra, xav, xrd, xcm⟩, o1, o2, n1, c1, n2, c2, X1, X2, rfl, s1.1, s2.1, s1.2, s2.2, wst, wma, wnx, wsn⟩
end Go.Proofs.Qxb6603959a
