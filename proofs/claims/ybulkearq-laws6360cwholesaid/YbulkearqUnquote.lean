/-
  'proxy.unquote' (function 11) by its contracts: at a quoted string it answers 'outOf s'; at every other string the string itself. The Builder's two methods come in as contracts ('SaidByte', 'SaidString').
-/
import Derived.Test.YbulkearqModel
import Derived.Lib.Builder
import Derived.Shelf.Strings.Builder1
namespace Go.Proofs.Ybulkearq.Unquote
open Go.RowKit Go.Proofs.Ybulkearq.Plain Go.Proofs.Ybulkearq.Model

def SaidByte : Prop := ∀ (B b : Nat) (bs : List Value) (c : Int) (w : World), Lib.IsBuilder 49 5 B b bs w → bs.length + 1 ≤ 140737488355328 → B ≤ w.heap.size →
  Calls Yba.prog 18 #[.pointer (some ⟨b, 0, none⟩), .int .u8 c] w fun e w' => e = .returned .nilIface ∧ (Lib.BuilderAt 49 5 B b (.pointer (some ⟨b, 0, none⟩)) (bs ++ [.int .u8 c]) w' ∧ Below B w w')
def SaidString : Prop := ∀ (B b : Nat) (l : List UInt8) (w : World), Lib.IsBuilder 49 5 B b (Lib.byteCells l) w → B ≤ w.heap.size →
  Calls Yba.prog 19 #[.pointer (some ⟨b, 0, none⟩)] w fun e w' => e = .returned (.string ⟨l.toArray⟩) ∧ Below B w w'

/-- what lies behind the rounds so far: 'k' bytes of 'l' are read. -/
def UInv (l : List UInt8) (k : Nat) (out : List UInt8) : Prop := out.length ≤ k ∧ out ++ unq (l.drop k) = unq (l.drop 1)

theorem uinv_start (l : List UInt8) : UInv l 1 [] := by simp [UInv]
theorem uinv_esc (l : List UInt8) (k : Nat) (out : List UInt8) (x : UInt8) (h : k + 1 < l.length) (hc : l[k]'(by omega) = 92) (hx : l[k + 1] = x) (hi : UInv l k out) : UInv l (k + 2) (out ++ [x]) := by
  obtain ⟨h1, h2⟩ := hi
  rw [unq_esc l k h hc] at h2
  subst hx
  exact ⟨by simp; omega, by simpa using h2⟩
theorem uinv_keep (l : List UInt8) (k : Nat) (out : List UInt8) (x : UInt8) (h : k < l.length) (hx : l[k] = x) (hc : x ≠ 92 ∨ ¬ k + 1 < l.length) (hi : UInv l k out) : UInv l (k + 1) (out ++ [x]) := by
  obtain ⟨h1, h2⟩ := hi
  subst hx
  rw [unq_plain l k h hc] at h2
  exact ⟨by simpa using h1, by simpa using h2⟩
theorem uinv_end (l : List UInt8) (k : Nat) (out : List UInt8) (h : l.length ≤ k) (hi : UInv l k out) : out = unq (l.drop 1) := by
  obtain ⟨_, h2⟩ := hi
  rw [List.drop_eq_nil_of_le h] at h2
  simpa [unq] using h2

theorem byteCells_snoc (l : List UInt8) (x : UInt8) : Lib.byteCells (l ++ [x]) = Lib.byteCells l ++ [.int .u8 (x.toNat : Int)] := by simp [Lib.byteCells]
theorem pre_len (s : ByteArray) : (s.data.toList.take (s.size - 1)).length = s.size - 1 := by
  rw [List.length_take, lenB]; omega
theorem pre_get (s : ByteArray) (k : Nat) (h : k < s.size) (h' : k < (s.data.toList.take (s.size - 1)).length) : (s.data.toList.take (s.size - 1))[k] = s[k] := by
  rw [List.getElem_take]; rfl

set_option maxHeartbeats 1000000 in
theorem unquote_quoted (hWB : SaidByte) (hST : SaidString) (s : ByteArray) (w : World) (hs : s.size ≤ 1048578) (h2 : 2 ≤ s.size) (q0 : ((s[0].toNat : Int) != 34) = false) (q1 : ((s[s.size - 1].toNat : Int) != 34) = false) :
    Calls Yba.prog 11 #[.string s] w fun e w' => e = .returned (.string (outOf s)) ∧ Below w.heap.size w w' := by
  have hd2 : decide ((s.size : Int) < 2) = false := by simp; omega
  go_enter Yba.func11, Yba.ntmps11
  go_wp2
  have hst : Lib.IsBuilder 49 5 w.heap.size w.heap.size (Lib.byteCells []) (w.alloc (.cells #[.pointer none, .slice none 0 0] 49)) := Lib.fresh_isBuilder 49 5 w
  have hb0 : Below w.heap.size w (w.alloc (.cells #[.pointer none, .slice none 0 0] 49)) := (Below.refl _ _).alloc (Nat.le_refl _) _
  go_loopw [4] (fun i wr => ∃ (k : Nat) (out : List UInt8), 1 ≤ k ∧ k ≤ s.size - 1 ∧ i = .int .i64 k ∧ Lib.IsBuilder 49 5 w.heap.size w.heap.size (Lib.byteCells out) wr ∧
      UInv (s.data.toList.take (s.size - 1)) k out ∧ Below w.heap.size w wr)
    (fun i _ => s.size - (intOf i).toNat)
  case atStart => exact ⟨1, [], Nat.le_refl _, by omega, rfl, hst, uinv_start _, hb0⟩
  case round =>
    obtain ⟨k, out, hk1, hk, rfl, hbu, hinv, hbl⟩ := hrel
    clear hst hb0
    have hol : out.length ≤ k := hinv.1
    have hpl := pre_len s
    by_cases hlt : k < s.size - 1
    · have hlt' : k < s.size := by omega
      by_cases hc : ((s[k].toNat : Int) == 92) = true
      · by_cases hl : k + 1 < s.size - 1
        · have hl' : k + 1 < s.size := by omega
          have HI : UInv (s.data.toList.take (s.size - 1)) (k + 2) (out ++ [s[k + 1]]) := uinv_esc _ k out _ (by omega) (by rw [pre_get s k hlt']; exact toNat92 _ hc) (pre_get s (k + 1) hl' _) hinv
          have hd : decide ((k : Int) + 1 < (s.size : Int) - 1) = true := by simp; omega
          clear hpl hinv
          go_wp2_with (go_at_call 18; refine (hWB w.heap.size w.heap.size (Lib.byteCells out) (s[k + 1].toNat : Int) _ hbu (by rw [Lib.byteCells_length]; omega) hbl.size).mono ?_; rintro e w1 ⟨rfl, hbu1, hbl1⟩; rw [← byteCells_snoc] at hbu1)
          go_wp2
          go_roundw
          case rel => exact ⟨k + 2, out ++ [s[k + 1]], by omega, by omega, by go_num, .inr hbu1, HI, hbl.trans hbl1⟩
          case measure => simp [intOf]; omega
        · have HI : UInv (s.data.toList.take (s.size - 1)) (k + 1) (out ++ [s[k]]) := uinv_keep _ k out _ (by omega) (pre_get s k hlt' _) (.inr (by omega)) hinv
          have hd : decide ((k : Int) + 1 < (s.size : Int) - 1) = false := by simp; omega
          clear hpl hinv
          go_wp2_with (go_at_call 18; refine (hWB w.heap.size w.heap.size (Lib.byteCells out) (s[k].toNat : Int) _ hbu (by rw [Lib.byteCells_length]; omega) hbl.size).mono ?_; rintro e w1 ⟨rfl, hbu1, hbl1⟩; rw [← byteCells_snoc] at hbu1)
          go_wp2
          go_roundw
          case rel => exact ⟨k + 1, out ++ [s[k]], by omega, by omega, by go_num, .inr hbu1, HI, hbl.trans hbl1⟩
          case measure => simp [intOf]; omega
      · have hc : ((s[k].toNat : Int) == 92) = false := by simpa using hc
        have HI : UInv (s.data.toList.take (s.size - 1)) (k + 1) (out ++ [s[k]]) := uinv_keep _ k out _ (by omega) (pre_get s k hlt' _) (.inl (toNatNe92 _ hc)) hinv
        clear hpl hinv
        go_wp2_with (go_at_call 18; refine (hWB w.heap.size w.heap.size (Lib.byteCells out) (s[k].toNat : Int) _ hbu (by rw [Lib.byteCells_length]; omega) hbl.size).mono ?_; rintro e w1 ⟨rfl, hbu1, hbl1⟩; rw [← byteCells_snoc] at hbu1)
        go_wp2
        go_roundw
        case rel => exact ⟨k + 1, out ++ [s[k]], by omega, by omega, by go_num, .inr hbu1, HI, hbl.trans hbl1⟩
        case measure => simp [intOf]; omega
    · have HF : Hid (out = unq (inner s)) := uinv_end _ k out (by omega) hinv
      clear hpl hinv
      go_wp2_with (go_at_call 19; refine (hST w.heap.size w.heap.size out _ hbu hbl.size).mono ?_; rintro e w1 ⟨rfl, hbl1⟩)
      go_ret
      have hE : outOf s = ⟨out.toArray⟩ := by rw [HF.out]; rfl
      exact ⟨by rw [hE]; rfl, hbl.trans hbl1⟩

/-! the three other ways: the string itself -/
theorem unquote_short (s : ByteArray) (w : World) (h : s.size < 2) :
    Calls Yba.prog 11 #[.string s] w fun e w' => e = .returned (.string s) ∧ w' = w := by
  have hd2 : decide ((s.size : Int) < 2) = true := by simp; omega
  go_enter Yba.func11, Yba.ntmps11
  go_wp2
  go_ret
  exact ⟨rfl, rfl⟩

theorem unquote_first (s : ByteArray) (w : World) (h2 : 2 ≤ s.size) (q0 : ((s[0].toNat : Int) != 34) = true) :
    Calls Yba.prog 11 #[.string s] w fun e w' => e = .returned (.string s) ∧ w' = w := by
  have hd2 : decide ((s.size : Int) < 2) = false := by simp; omega
  go_enter Yba.func11, Yba.ntmps11
  go_wp2
  go_ret
  exact ⟨rfl, rfl⟩

theorem unquote_last (s : ByteArray) (w : World) (hs : s.size ≤ 1048578) (h2 : 2 ≤ s.size) (q0 : ((s[0].toNat : Int) != 34) = false) (q1 : ((s[s.size - 1].toNat : Int) != 34) = true) :
    Calls Yba.prog 11 #[.string s] w fun e w' => e = .returned (.string s) ∧ w' = w := by
  have hd2 : decide ((s.size : Int) < 2) = false := by simp; omega
  go_enter Yba.func11, Yba.ntmps11
  go_wp2
  go_ret
  exact ⟨rfl, rfl⟩
end Go.Proofs.Ybulkearq.Unquote
