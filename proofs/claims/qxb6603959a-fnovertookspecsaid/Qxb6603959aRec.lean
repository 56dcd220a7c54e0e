/- The record of 21 cells: how it is built, stored, loaded: by laws, not cell by cell. -/
import Derived.Test.Qxb6603959aSents
import Derived.Deep.MidRow
namespace Go.Proofs.Qxb6603959a
open Go.RowKit

/-- The fields of a member's progress but for its two slices. -/
structure Prg where
  st : Int
  ma : Int
  nx : Int
  wi : Int
  fl : Int
  ak : Int
  sd : Int
  lr : Int
  ro : Bool
  rh : Int
  hf : Int
  hl : Int
  hz : Int
  tk : Int
  sn : Int
  ra : Int
  av : Bool
  rd : Int
  cm : Int

theorem bcell {W w1 : World} (hb : Below W.heap.size W w1) : (∀ b o, b < W.heap.size → w1.cell? ⟨b, o, none⟩ = W.cell? ⟨b, o, none⟩) ∧ (∀ b o, b < W.heap.size → w1.frozen? ⟨b, o, none⟩ = W.frozen? ⟨b, o, none⟩) :=
  ⟨fun b o h => hb.cell (p := ⟨b, o, none⟩) h, fun b o h => hb.frozen (p := ⟨b, o, none⟩) h⟩

/-- A struct literal, behind a name: else the walk opens it field by field. -/
def BuildS (t : TypeId) (parts : Array (Nat × Value)) : Sem Value := Instr.build t parts
theorem build30_pre (parts : Array (Nat × Value)) : Instr.build 30 parts = BuildS 30 parts := rfl
theorem build48_pre (parts : Array (Nat × Value)) : Instr.build 48 parts = BuildS 48 parts := rfl
theorem build30 (xst : Int) (xma : Int) (xnx : Int) (o1 : Option Addr) (n1 c1 : Nat) (xwi : Int) (xfl : Int) (xak : Int) (xsd : Int) (xlr : Int) (xro : Bool) (o2 : Option Addr) (n2 c2 : Nat) (xrh : Int) (xhf : Int) (xhl : Int) (xhz : Int) (xtk : Int) (xsn : Int) (xra : Int) (xav : Bool) (xrd : Int) (xcm : Int) (w : World) : (BuildS 30 #[(0, .int .u8 xst), (1, .int .u64 xma), (2, .int .u64 xnx), (3, .slice o1 n1 c1), (4, .int .i64 xwi), (5, .int .i64 xfl), (6, .int .i64 xak), (7, .int .u64 xsd), (8, .int .u64 xlr), (9, .bool xro), (10, .slice o2 n2 c2), (11, .int .u64 xrh), (12, .int .u64 xhf), (13, .int .u64 xhl), (14, .int .u64 xhz), (15, .int .i64 xtk), (16, .int .u64 xsn), (17, .int .i64 xra), (18, .bool xav), (19, .int .u64 xrd), (20, .int .u64 xcm)]).run Try.prog w = .ok (.agg #[.int .u8 xst, .int .u64 xma, .int .u64 xnx, .slice o1 n1 c1, .int .i64 xwi, .int .i64 xfl, .int .i64 xak, .int .u64 xsd, .int .u64 xlr, .bool xro, .slice o2 n2 c2, .int .u64 xrh, .int .u64 xhf, .int .u64 xhl, .int .u64 xhz, .int .i64 xtk, .int .u64 xsn, .int .i64 xra, .bool xav, .int .u64 xrd, .int .u64 xcm]) w := run_build w 30 _ _ (by kernel_rfl)
theorem build48 (xst : Int) (xma : Int) (xnx : Int) (o1 : Option Addr) (n1 c1 : Nat) (xwi : Int) (xfl : Int) (xak : Int) (xsd : Int) (xlr : Int) (xro : Bool) (o2 : Option Addr) (n2 c2 : Nat) (xrh : Int) (xhf : Int) (xhl : Int) (xhz : Int) (xtk : Int) (xsn : Int) (xra : Int) (xav : Bool) (xrd : Int) (xcm : Int) (w : World) : (BuildS 48 #[(0, .int .u8 xst), (1, .int .u64 xma), (2, .int .u64 xnx), (3, .slice o1 n1 c1), (4, .int .i64 xwi), (5, .int .i64 xfl), (6, .int .i64 xak), (7, .int .u64 xsd), (8, .int .u64 xlr), (9, .bool xro), (10, .slice o2 n2 c2), (11, .int .u64 xrh), (12, .agg #[.int .u64 xhf, .int .u64 xhl, .int .u64 xhz]), (13, .int .i64 xtk), (14, .int .u64 xsn), (15, .int .i64 xra), (16, .bool xav), (17, .int .u64 xrd), (18, .int .u64 xcm)]).run Try.prog w = .ok (.agg #[.int .u8 xst, .int .u64 xma, .int .u64 xnx, .slice o1 n1 c1, .int .i64 xwi, .int .i64 xfl, .int .i64 xak, .int .u64 xsd, .int .u64 xlr, .bool xro, .slice o2 n2 c2, .int .u64 xrh, .int .u64 xhf, .int .u64 xhl, .int .u64 xhz, .int .i64 xtk, .int .u64 xsn, .int .i64 xra, .bool xav, .int .u64 xrd, .int .u64 xcm]) w := run_build w 48 _ _ (by kernel_rfl)

/-- A store of the whole record, behind a name. -/
def StoreS (t : TypeId) (p v : Value) : Sem Unit := Instr.storeAt t p v
theorem store30_pre (p v : Value) : Instr.storeAt 30 p v = StoreS 30 p v := rfl
theorem info30 : (Try.prog.info? 30).map (·.size) = some 21 := by kernel_rfl
theorem info25 : (Try.prog.info? 25).map (·.size) = some 21 := by kernel_rfl
theorem info48 : (Try.prog.info? 48).map (·.size) = some 21 := by kernel_rfl
theorem store30 (b : Nat) (xst : Int) (xma : Int) (xnx : Int) (o1 : Option Addr) (n1 c1 : Nat) (xwi : Int) (xfl : Int) (xak : Int) (xsd : Int) (xlr : Int) (xro : Bool) (o2 : Option Addr) (n2 c2 : Nat) (xrh : Int) (xhf : Int) (xhl : Int) (xhz : Int) (xtk : Int) (xsn : Int) (xra : Int) (xav : Bool) (xrd : Int) (xcm : Int) (w : World) (ht : w.there b 0 21) : (StoreS 30 (.pointer (some ⟨b, 0, none⟩)) (.agg #[.int .u8 xst, .int .u64 xma, .int .u64 xnx, .slice o1 n1 c1, .int .i64 xwi, .int .i64 xfl, .int .i64 xak, .int .u64 xsd, .int .u64 xlr, .bool xro, .slice o2 n2 c2, .int .u64 xrh, .int .u64 xhf, .int .u64 xhl, .int .u64 xhz, .int .i64 xtk, .int .u64 xsn, .int .i64 xra, .bool xav, .int .u64 xrd, .int .u64 xcm])).run Try.prog w = .ok () (w.setCells b 0 [.int .u8 xst, .int .u64 xma, .int .u64 xnx, .slice o1 n1 c1, .int .i64 xwi, .int .i64 xfl, .int .i64 xak, .int .u64 xsd, .int .u64 xlr, .bool xro, .slice o2 n2 c2, .int .u64 xrh, .int .u64 xhf, .int .u64 xhl, .int .u64 xhz, .int .i64 xtk, .int .u64 xsn, .int .i64 xra, .bool xav, .int .u64 xrd, .int .u64 xcm]) :=
  run_storeAt_mid w b 0 30 #[.int .u8 xst, .int .u64 xma, .int .u64 xnx, .slice o1 n1 c1, .int .i64 xwi, .int .i64 xfl, .int .i64 xak, .int .u64 xsd, .int .u64 xlr, .bool xro, .slice o2 n2 c2, .int .u64 xrh, .int .u64 xhf, .int .u64 xhl, .int .u64 xhz, .int .i64 xtk, .int .u64 xsn, .int .i64 xra, .bool xav, .int .u64 xrd, .int .u64 xcm] ht info30 (by kernel_rfl)

/-- A load of the whole record, behind a name. -/
def LoadS (t : TypeId) (p : Value) : Sem Value := Instr.loadAt t p
theorem load30_pre (p : Value) : Instr.loadAt 30 p = LoadS 30 p := rfl
theorem load25_pre (p : Value) : Instr.loadAt 25 p = LoadS 25 p := rfl
theorem load30 (b : Nat) (cs : List Value) (w : World) (hl : cs.length = 21) (hc : w.rangeAt b 0 cs) : (LoadS 30 (.pointer (some ⟨b, 0, none⟩))).run Try.prog w = .ok (.agg cs.toArray) w :=
  run_loadAt_mid w b 0 30 cs _ hc Try.underlying30 rfl (by rw [hl]; exact info30)
theorem load25 (b : Nat) (cs : List Value) (w : World) (hl : cs.length = 21) (hc : w.rangeAt b 0 cs) : (LoadS 25 (.pointer (some ⟨b, 0, none⟩))).run Try.prog w = .ok (.agg cs.toArray) w :=
  run_loadAt_mid w b 0 25 cs _ hc Try.underlying25 rfl (by rw [hl]; exact info25)

theorem there_below {w w' : World} {B b o n : Nat} (h : w.there b o n) (hb : Below B w w') (hB : b < B) : w'.there b o n := fun j hj => by
  obtain ⟨h1, h2⟩ := h j hj
  exact ⟨by rw [hb.cell (p := ⟨b, o + j, none⟩) hB]; exact h1, (hb.frozen (p := ⟨b, o + j, none⟩) hB).trans h2⟩
theorem there_new (w : World) (c : Array Value) (t : TypeId) (n : Nat) (hc : c.size = n) : (w.alloc (.cells c t)).there w.heap.size 0 n := fun j hj => by
  have h := (World.rowIs_alloc w c t (fun i => c[i]!) (fun i hi => by simp [hi]))
  rw [Nat.zero_add]
  exact ⟨by rw [h.cell (by omega)]; rfl, h.frozen j⟩
/-- The record's own variable is still there behind two calls. -/
theorem there_two {w w1 w2 : World} {A : Obj} {c : Array Value} {t : TypeId} (hc : c.size = 21) (hb1 : Below ((w.alloc A).alloc (.cells c t)).drew.heap.size ((w.alloc A).alloc (.cells c t)).drew w1) (hb2 : Below w1.heap.size w1 w2) :
    w2.there (w.heap.size + 1) 0 21 := by
  have h0 := there_new (w.alloc A) c t 21 hc
  rw [World.size_alloc] at h0
  have hz := hb1.size
  simp at hz
  exact there_below (there_below (w := ((w.alloc A).alloc (.cells c t)).drew) h0 hb1 (by simp)) hb2 (by omega)
/-- A store into one block leaves the other. -/
theorem cell_setCells_other (W : World) (b b' o : Nat) (vs : List Value) (h : b' ≠ b) : (W.setCells b 0 vs).cell? ⟨b', o, none⟩ = W.cell? ⟨b', o, none⟩ :=
  World.cell?_setCells_out b vs 0 W ⟨b', o, none⟩ (fun e => absurd e h)
theorem below_setCells' {B b : Nat} (hb : B ≤ b) : ∀ (vs : List Value) (o : Nat) {a w : World}, Below B a w → Below B a (w.setCells b o vs)
  | [], _, _, _, h => h
  | v :: vs, o, _, _, h => below_setCells' hb vs (o + 1) (h.setCell (p := ⟨b, o, none⟩) hb v)
/-- A result that lies in memory. -/
theorem results_cell1 {P : Program} {fn : Func} {p : Tmp} {ty : TypeId} (h : fn.results = #[.cell p ty]) (tmps : Array Value) (w : World) (a : Addr) (v : Value) (ha : tmps.getD p undef = .pointer (some a)) (hl : (loadVar ty a).run P w = .ok v w) :
    (results fn tmps).run P w = .ok v w := by
  have ha' : tmps[p]?.getD undef = .pointer (some a) := by simpa using ha
  simp [results, h, asAddr, ha', hl]
/-- What is read out of the record's own variable behind the store. -/
theorem result30 {w : World} {b : Nat} {cs : List Value} (ht : w.there b 0 21) (hl : cs.length = 21) : (loadVar 30 ⟨b, 0, none⟩).run Try.prog (w.setCells b 0 cs) = .ok (.agg cs.toArray) (w.setCells b 0 cs) :=
  run_loadVar_mid (w.setCells b 0 cs) b 0 30 cs _ (World.rangeAt_setCells_same w b 0 cs (by rw [hl]; exact ht)) Try.underlying30 rfl (by rw [hl]; exact info30)
end Go.Proofs.Qxb6603959a
