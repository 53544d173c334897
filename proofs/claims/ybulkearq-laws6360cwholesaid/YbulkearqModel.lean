/-
  'proxy.zzs6360cmodel' (function 12) by its contracts: at a quoted string it answers 'outOf s'; at every other string the string itself.
-/
import Derived.Test.YbulkearqRows
import Derived.Test.YbulkearqPlain
import Derived.WalkKit
import Derived.WalkSpells
import Derived.Laws.IdiomStrings
import Derived.Lib.Strings
namespace Go.Proofs.Ybulkearq.Model
open Go.RowKit Go.Proofs.Ybulkearq.Plain

theorem info5 : (Yba.prog.info? 5).map (fun i => (i.zero, i.size, i.bytes)) = some (some (.int .u8 0), 1, 1) := by kernel_rfl

def cellsB (l : List UInt8) : List Value := l.map fun b => .int .u8 (b.toNat : Int)

def Inv (l : List UInt8) (j : Nat) (b : Bool) (out : List UInt8) : Prop :=
  out.length ≤ j ∧ (if b then ∃ h : j < l.length, out ++ l[j] :: unq (l.drop (j + 1)) = unq l else out ++ unq (l.drop j) = unq l)

theorem inv_start (l : List UInt8) : Inv l 0 false [] := by simp [Inv]
theorem inv_esc (l : List UInt8) (j : Nat) (out : List UInt8) (x : UInt8) (h : j < l.length) (hx : l[j] = x) (hi : Inv l j true out) : Inv l (j + 1) false (out ++ [x]) := by
  simp only [Inv] at hi ⊢
  obtain ⟨h1, h2, h3⟩ := hi
  subst hx
  exact ⟨by simpa using h1, by simpa using h3⟩
theorem inv_skip (l : List UInt8) (j : Nat) (out : List UInt8) (h : j + 1 < l.length) (hx : l[j]'(by omega) = 92) (hi : Inv l j false out) : Inv l (j + 1) true out := by
  simp only [Inv] at hi ⊢
  obtain ⟨h1, h2⟩ := hi
  refine ⟨by omega, by simpa using h, ?_⟩
  simp only [Bool.false_eq_true, if_false] at h2
  rw [unq_esc l j h hx] at h2
  exact h2
theorem inv_keep (l : List UInt8) (j : Nat) (out : List UInt8) (x : UInt8) (h : j < l.length) (hx : l[j] = x) (hc : x ≠ 92 ∨ ¬ j + 1 < l.length) (hi : Inv l j false out) : Inv l (j + 1) false (out ++ [x]) := by
  simp only [Inv] at hi ⊢
  obtain ⟨h1, h2⟩ := hi
  subst hx
  simp only [Bool.false_eq_true, if_false] at h2
  rw [unq_plain l j h hc] at h2
  exact ⟨by simpa using h1, by simpa using h2⟩
theorem inv_end (l : List UInt8) (j : Nat) (b : Bool) (out : List UInt8) (h : l.length ≤ j) (hi : Inv l j b out) : b = false ∧ out = unq l := by
  simp only [Inv] at hi
  obtain ⟨h1, h2⟩ := hi
  cases b with
  | false => simp only [Bool.false_eq_true, if_false] at h2; rw [List.drop_eq_nil_of_le h] at h2; exact ⟨rfl, by simpa [unq] using h2⟩
  | true => simp only [if_true] at h2; obtain ⟨h3, _⟩ := h2; omega

theorem lenB (t : ByteArray) : t.data.toList.length = t.size := rfl
theorem cellsB_snoc (l : List UInt8) (x : UInt8) : cellsB (l ++ [x]) = cellsB l ++ [.int .u8 (x.toNat : Int)] := by simp [cellsB]
theorem inner_extract (s : ByteArray) : (s.extract 1 (s.size - 1)).data.toList = inner s := by
  rw [Lib.extract_data, inner, List.drop_take]
theorem toNat92 (x : UInt8) (h : ((x.toNat : Int) == 92) = true) : x = 92 := by
  have : x.toNat = 92 := by have := beq_iff_eq.1 h; omega
  exact UInt8.toNat_inj.1 this
theorem toNatNe92 (x : UInt8) (h : ((x.toNat : Int) == 92) = false) : x ≠ 92 := by
  rintro rfl; simp at h

set_option maxHeartbeats 1000000 in
theorem model_quoted (s : ByteArray) (w : World) (hs : s.size ≤ 1048578) (h2 : 2 ≤ s.size) (q0 : ((s[0].toNat : Int) != 34) = false) (q1 : ((s[s.size - 1].toNat : Int) != 34) = false) :
    Calls Yba.prog 12 #[.string s] w fun e w' => e = .returned (.string (outOf s)) ∧ Below w.heap.size w w' := by
  obtain ⟨i0, hi, hz0, hz1, hz2⟩ := info_parts info5
  have hd2 : decide ((s.size : Int) < 2) = false := by simp; omega
  go_enter Yba.func12, Yba.ntmps12
  go_wp2_with (at_make; refine wpList_make_own _ rfl _ _ 23 rfl w.heap.size 5 i0 (.int .u8 0) 1 Yba.underlying23 hi hz0 hz1 _ _ _ (s.size - 2) rfl rfl ?cC ?cb ?cm (Nat.le_refl _) ?_)
  case cC => omega
  case cb => rw [hz2]; omega
  case cm => unfold maxLen; omega
  intro w1 hown hgrow
  have hb1 : Below w.heap.size w w1 := (Below.refl _ _).grown hgrow (Nat.le_refl _) (fun k h => by cases h)
  clear hgrow
  go_wp2
  have hout : outOf s = ⟨(unq (s.extract 1 (s.size - 1)).data.toList).toArray⟩ := by rw [inner_extract]; rfl
  have htz : s.size - 2 = (s.extract 1 (s.size - 1)).size := by simp; omega
  generalize s.extract 1 (s.size - 1) = t at *
  have HO : Hid (outOf s = ⟨(unq t.data.toList).toArray⟩) := hout
  clear hout
  rw [htz] at hown
  rw [htz]
  have hts : t.size ≤ 1048578 := by omega
  clear htz q0 q1
  go_loopw [5, 6, 7] (fun v e i wr => ∃ (j : Nat) (b : Bool) (out : List UInt8), j ≤ t.size ∧ i = .int .i64 j ∧ e = .bool b ∧ v = .slice (some ⟨w.heap.size, 0, none⟩) out.length t.size ∧
      wr.ownsRow w.heap.size 5 1 (.slice (some ⟨w.heap.size, 0, none⟩) out.length t.size) out.length (cellsB out) ∧ Inv t.data.toList j b out ∧ Below w.heap.size w wr)
    (fun _ _ i _ => t.size - (intOf i).toNat)
  case atStart => exact ⟨0, false, [], Nat.zero_le _, rfl, rfl, rfl, hown, inv_start _, hb1⟩
  case round =>
    obtain ⟨j, b, out, hj, rfl, rfl, rfl, ho, hinv, hb⟩ := hrel
    clear hown hb1
    have hol : out.length ≤ j := hinv.1
    by_cases hlt : j < t.size
    · cases b with
      | true =>
        go_wp2_with (at_builtin; refine wpList_append_fits _ rfl _ _ 23 rfl w.heap.size 5 i0 1 Yba.underlying23 hi hz1 w.heap.size out.length t.size (cellsB out) rfl (ho.alloc _) ⟨wr.heap.size, 0, none⟩ 1 1 [.int .u8 (t[j].toNat : Int)] rfl rfl (cell_one_new _ _ _) (by simp [Value.oneCell']) (by omega) ?_)
        intro w2 ho2 hg2
        have hb2 : Below w.heap.size w w2 := (hb.alloc hb.size _).grown hg2 (by have := hb.size; simp; omega) (fun k h => by cases h; omega)
        rw [← cellsB_snoc] at ho2
        clear hg2 ho hb
        go_wp2
        go_roundw
        case rel => exact ⟨j + 1, false, out ++ [t[j]], by omega, by go_num, rfl, by simp, by simpa using ho2, inv_esc _ j out _ hlt rfl hinv, hb2⟩
        case measure => simp [intOf]; omega
      | false =>
        by_cases hc : ((t[j].toNat : Int) == 92) = true
        · by_cases hl : j + 1 < t.size
          · have hd : decide ((j : Int) + 1 < (t.size : Int)) = true := by simp; omega
            go_wp2
            go_roundw
            case rel => exact ⟨j + 1, true, out, by omega, by go_num, rfl, rfl, ho, inv_skip _ j out hl (toNat92 _ hc) hinv, hb⟩
            case measure => simp [intOf]; omega
          · have hd : decide ((j : Int) + 1 < (t.size : Int)) = false := by simp; omega
            go_wp2_with (at_builtin; refine wpList_append_fits _ rfl _ _ 23 rfl w.heap.size 5 i0 1 Yba.underlying23 hi hz1 w.heap.size out.length t.size (cellsB out) rfl (ho.alloc _) ⟨wr.heap.size, 0, none⟩ 1 1 [.int .u8 (t[j].toNat : Int)] rfl rfl (cell_one_new _ _ _) (by simp [Value.oneCell']) (by omega) ?_)
            intro w2 ho2 hg2
            have hb2 : Below w.heap.size w w2 := (hb.alloc hb.size _).grown hg2 (by have := hb.size; simp; omega) (fun k h => by cases h; omega)
            rw [← cellsB_snoc] at ho2
            clear hg2 ho hb
            go_wp2
            go_roundw
            case rel => exact ⟨j + 1, false, out ++ [t[j]], by omega, by go_num, rfl, by simp, by simpa using ho2, inv_keep _ j out _ hlt rfl (.inr hl) hinv, hb2⟩
            case measure => simp [intOf]; omega
        · have hc : ((t[j].toNat : Int) == 92) = false := by simpa using hc
          go_wp2_with (at_builtin; refine wpList_append_fits _ rfl _ _ 23 rfl w.heap.size 5 i0 1 Yba.underlying23 hi hz1 w.heap.size out.length t.size (cellsB out) rfl (ho.alloc _) ⟨wr.heap.size, 0, none⟩ 1 1 [.int .u8 (t[j].toNat : Int)] rfl rfl (cell_one_new _ _ _) (by simp [Value.oneCell']) (by omega) ?_)
          intro w2 ho2 hg2
          have hb2 : Below w.heap.size w w2 := (hb.alloc hb.size _).grown hg2 (by have := hb.size; simp; omega) (fun k h => by cases h; omega)
          rw [← cellsB_snoc] at ho2
          clear hg2 ho hb
          go_wp2
          go_roundw
          case rel => exact ⟨j + 1, false, out ++ [t[j]], by omega, by go_num, rfl, by simp, by simpa using ho2, inv_keep _ j out _ hlt rfl (.inl (toNatNe92 _ hc)) hinv, hb2⟩
          case measure => simp [intOf]; omega
    · obtain ⟨rfl, hfin⟩ := inv_end _ j b out (by rw [lenB]; omega) hinv
      have hback := run_convert_bytes_back (P := Yba.prog) wr 23 9 5 ⟨w.heap.size, 0, none⟩ t.size out Yba.underlying23 Yba.underlying5 Yba.underlying9 (fun k hk => by
        exact ho.cells rfl k _ (by simp [cellsB, hk]))
      have HF : Hid (out = unq t.data.toList) := hfin
      clear hfin
      go_wp2
      go_ret
      have hE : outOf s = ⟨out.toArray⟩ := by rw [HO.out, ← HF.out]
      exact ⟨by rw [hE]; rfl, hb⟩

/-! the three other ways: the string itself -/
theorem model_short (s : ByteArray) (w : World) (h : s.size < 2) :
    Calls Yba.prog 12 #[.string s] w fun e w' => e = .returned (.string s) ∧ w' = w := by
  go_enter Yba.func12, Yba.ntmps12
  go_wp2
  go_ret
  exact ⟨rfl, rfl⟩

theorem model_first (s : ByteArray) (w : World) (h2 : 2 ≤ s.size) (q0 : ((s[0].toNat : Int) != 34) = true) :
    Calls Yba.prog 12 #[.string s] w fun e w' => e = .returned (.string s) ∧ w' = w := by
  go_enter Yba.func12, Yba.ntmps12
  go_wp2
  go_ret
  exact ⟨rfl, rfl⟩

theorem model_last (s : ByteArray) (w : World) (hs : s.size ≤ 1048578) (h2 : 2 ≤ s.size) (q0 : ((s[0].toNat : Int) != 34) = false) (q1 : ((s[s.size - 1].toNat : Int) != 34) = true) :
    Calls Yba.prog 12 #[.string s] w fun e w' => e = .returned (.string s) ∧ w' = w := by
  go_enter Yba.func12, Yba.ntmps12
  go_wp2
  go_ret
  exact ⟨rfl, rfl⟩
end Go.Proofs.Ybulkearq.Model
