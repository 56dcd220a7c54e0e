/- 'FnIsDigitsAcceptsDecimalOfEveryUint64': the walk. -/
import Derived.Test.Qxb6601084aDigits
import Derived.Deep.OwnRows
import Derived.Laws.BytesArg
import Derived.Laws.Pointers
namespace Go.Proofs.Qxb6601084a
open Go.RowKit

/-- The buffer: block B is a row of 21 bytes, from place i on decimal digits. -/
def Buf (B i : Nat) (f : Nat → Value) (wr : World) : Prop :=
  wr.rowIs B 31 21 f ∧ ∀ t, i ≤ t → t < 21 → ∃ d : Nat, 48 ≤ d ∧ d ≤ 57 ∧ f t = .int .u8 (d : Int)

theorem Buf.start (w : World) (c : Array Value) (hc : c = (Array.replicate 21 (Value.int .u8 0))) : Buf w.heap.size 21 (fun _ => .int .u8 0) (w.alloc (.cells c 31)) := by
  subst hc
  refine ⟨?_, fun t h1 h2 => absurd h2 (by omega)⟩
  have := World.rowIs_alloc w (Array.replicate 21 (Value.int .u8 0)) 31 (fun _ => .int .u8 0) (fun i hi => by simp at hi; simp [hi])
  simpa using this

theorem Buf.put {B i : Nat} {f : Nat → Value} {w : World} (h : Buf B (i + 1) f w) (d : Nat) (h1 : 48 ≤ d) (h2 : d ≤ 57) :
    Buf B i (fun j => if j = i then .int .u8 (d : Int) else f j) (w.setCell ⟨B, i, none⟩ (.int .u8 (d : Int))) := by
  refine ⟨h.1.set i _, fun t ht ht' => ?_⟩
  by_cases e : t = i
  · exact ⟨d, h1, h2, by simp [e]⟩
  · obtain ⟨d', a, b, c⟩ := h.2 t (by omega) ht'
    exact ⟨d', a, b, by simp [e, c]⟩

theorem arr31 : Try.prog.arrayLen 31 = 21 := by kernel_rfl
theorem elem31 : Try.prog.elem 31 = 5 := by kernel_rfl

/-- 'buf[i:]'. -/
theorem slice_buf (w : World) (B i : Nat) (hi : i ≤ 20) :
    (Instr.sliceAt 31 (.pointer (some ⟨B, 0, none⟩)) (some (.int .i64 i)) none none).run Try.prog w = .ok (.slice (some ⟨B, i, none⟩) (21 - i) (21 - i)) w := by
  rw [run_sliceAt_array_l w 31 ⟨B, 0, none⟩ (by rw [arr31, elem31]; exact Try.underlying31) .i64 i (by omega) (by rw [arr31]; omega)]
  rw [elem31, arr31, Try.sizeOf5]
  simp only [Result.andThen, slicedAt]
  rw [if_neg (by simp; omega)]
  simp [Addr.add]
  intro h; exact h.symm

/-- The bytes from place i on. -/
def numsFrom (f : Nat → Value) (i : Nat) : List Int := (List.range (21 - i)).map fun t => intOf (f (i + t))

theorem convert_buf {B i : Nat} {f : Nat → Value} {w : World} (hr : w.rowIs B 31 21 f) (hb : ∀ t, i ≤ t → t < 21 → ∃ d : Nat, f t = .int .u8 (d : Int)) :
    (convert 32 9 (.slice (some ⟨B, i, none⟩) (21 - i) (21 - i))).run Try.prog w = .ok (.string (strOfNums (numsFrom f i))) w := by
  refine run_convert_bytes_arg w 32 5 Try.underlying32 Try.underlying5 B i (21 - i) (21 - i) (numsFrom f i) (by simp [numsFrom]) (fun t ht => ?_) 9 Try.underlying9
  rw [hr.cell (by omega)]
  obtain ⟨d, hd⟩ := hb (i + t) (by omega) (by omega)
  simp [numsFrom, ht, hd, intOf]

/-- 'string(buf[i:])', digits all: accepted. -/
theorem string_buf {B i : Nat} {f : Nat → Value} {w : World} (h : Buf B i f w) (hi : i ≤ 20) :
    ∃ s : ByteArray, isDig s = true ∧ s.size ≤ maxLen ∧ (convert 32 9 (.slice (some ⟨B, i, none⟩) (21 - i) (21 - i))).run Try.prog w = .ok (.string s) w := by
  refine ⟨_, ?_, ?_, convert_buf h.1 (fun t h1 h2 => by obtain ⟨d, _, _, e⟩ := h.2 t h1 h2; exact ⟨d, e⟩)⟩
  · unfold isDig
    rw [strOfNums_data, strOfNums_size]
    simp only [Bool.and_eq_true, List.all_eq_true, List.mem_map, decide_eq_true_eq]
    refine ⟨?_, by simp [numsFrom]; omega⟩
    rintro c ⟨x, hx, rfl⟩
    simp only [numsFrom, List.mem_map, List.mem_range] at hx
    obtain ⟨t, ht, rfl⟩ := hx
    obtain ⟨d, d1, d2, e⟩ := h.2 (i + t) (by omega) (by omega)
    have h8 : (UInt8.ofNat d).toNat = d := UInt8.toNat_ofNat_of_lt' (by simp [UInt8.size]; omega)
    rw [e]
    exact decide_eq_true (show 48 ≤ (((UInt8.ofNat d).toNat : Nat) : Int) ∧ (((UInt8.ofNat d).toNat : Nat) : Int) ≤ 57 by rw [h8]; omega)
  · rw [strOfNums_size]; simp [numsFrom, maxLen]; omega

/-- With a minus sign ahead: refused. -/
theorem string_minus {B i : Nat} {f : Nat → Value} {w : World} (h : Buf B (i + 1) f w) (hi : i ≤ 19) :
    ∃ s : ByteArray, isDig s = false ∧ s.size ≤ maxLen ∧ (convert 32 9 (.slice (some ⟨B, i, none⟩) (21 - i) (21 - i))).run Try.prog (w.setCell ⟨B, i, none⟩ (.int .u8 45)) = .ok (.string s) (w.setCell ⟨B, i, none⟩ (.int .u8 45)) := by
  refine ⟨_, ?_, ?_, convert_buf (h.1.set i _) (fun t h1 h2 => ?_)⟩
  · unfold isDig
    rw [strOfNums_data, Bool.and_eq_false_iff]
    left
    rw [List.all_eq_false]
    refine ⟨UInt8.ofNat 45, ?_, by decide⟩
    simp only [List.mem_map]
    refine ⟨45, ?_, rfl⟩
    simp only [numsFrom, List.mem_map, List.mem_range]
    exact ⟨0, by omega, by simp [intOf]⟩
  · rw [strOfNums_size]; simp [numsFrom, maxLen]; omega
  · by_cases e : t = i
    · exact ⟨45, by simp [e]⟩
    · obtain ⟨d, _, _, c⟩ := h.2 t (by omega) h2
      exact ⟨d, by simp [e, c]⟩

set_option maxHeartbeats 800000 in
theorem accepts_walk (n : Nat) (hn : Hid (n < 10 ^ 20)) (hn' : (n : Int) ≤ 18446744073709551615) (w : World) :
    Calls Try.prog 10 #[.int .u64 n] w fun e w' => e = .returned (.bool true) ∧ Grown w w' := by
  go_enter Try.func10, Try.ntmps10
  go_wp2
  go_loopw [4, 5] (fun m k wr => ∃ (i x : Nat) (f : Nat → Value), 1 ≤ i ∧ i ≤ 20 ∧ k = .int .i64 ((i : Int) + 1) ∧ m = .int .u64 (x : Int) ∧ (x : Int) ≤ 18446744073709551615 ∧ Hid (x < 10 ^ i) ∧ Buf w.heap.size (i + 1) f wr ∧ Grown w wr)
    (fun _ k _ => (intOf k).toNat)
  case atStart => exact ⟨20, n, _, by omega, by omega, rfl, rfl, hn', hn, Buf.start w _ rfl, (Grown.refl w).alloc _ _⟩
  case round =>
    obtain ⟨i, x, f, hi1, hi2, rfl, rfl, hx', hx, hB, hg⟩ := hrel
    have hc := hB.1.cell (i := i) (by omega)
    have hf := hB.1.frozen i
    have hP := hB.put (48 + x % 10) (by omega) (by omega)
    rw [show ((48 + x % 10 : Nat) : Int) = 48 + (x : Int) % 10 from by omega] at hP
    by_cases h : x < 10
    · have hq : ((x : Int) / 10 == 0) = true := by simp; omega
      obtain ⟨s1, d1, z1, e1⟩ := string_buf hP hi2
      have hsl := fun W => slice_buf W w.heap.size i hi2
      have hsm := fun W => slice_buf W w.heap.size (i - 1) (by omega)
      rw [show ((i - 1 : Nat) : Int) = (i : Int) - 1 from by omega] at hsm
      have hP' := hP
      rw [show i = (i - 1) + 1 from by omega] at hP'
      obtain ⟨s2, d2, z2, e2⟩ := string_minus hP' (by omega)
      rw [show (i - 1) + 1 = i from by omega] at e2
      have hc' := hB.1.cell (i := i - 1) (by omega)
      have hf' := hB.1.frozen (i - 1)
      clear hP'
      go_wp2_with fail
      refine (zzdig s1 _ z1).mono ?_
      rintro e w' ⟨rfl, hw⟩; subst hw
      go_wp2_with fail
      refine (zzdig s2 _ z2).mono ?_
      rintro e w' ⟨rfl, hw⟩; subst hw
      go_wp2
      go_ret
      exact ⟨rfl, (hg.setCell (Nat.le_refl _) _).setCell (Nat.le_refl _) _⟩
    · have hq : ((x : Int) / 10 == 0) = false := by simp; omega
      go_wp2
      go_round
      case rel =>
        have hi3 : i ≠ 1 := by
          rintro rfl
          have := hx.out
          omega
        refine ⟨i - 1, x / 10, (fun j => if j = i then Value.int .u8 (48 + (x : Int) % 10) else f j), by omega, by omega, by go_num, by go_num, by omega, ?_, ?_, hg.setCell (Nat.le_refl _) _⟩
        · have := hx.out
          show x / 10 < 10 ^ (i - 1)
          rw [show i = (i - 1) + 1 from by omega, Nat.pow_succ] at this
          omega
        · rw [show i - 1 + 1 = i from by omega]; exact hP
      case measure => simp [intOf]
end Go.Proofs.Qxb6601084a
