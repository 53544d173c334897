/-
  'scan.LawS6368BWhole' (function 4): the walk.
-/
import Derived.Test.YbulkeavyStB
import Derived.BigQuiet
import Derived.Deep.QuietTactic
import Derived.WalkSmall
import Derived.Lib.SliceRun
import Derived.Lib.Builder
namespace Go.Proofs.Ybulkeavy
open Go.RowKit
attribute [local go_sem ↓] Go.wp_at_zero Go.wp_at_succ

def rowsI (zs : List Int) : List Value := zs.flatMap (fI { data := #[120] })
theorem one_rowsI (zs : List Int) : ∀ v ∈ rowsI zs, v.oneCell' = true := by
  intro v hv
  obtain ⟨z, _, hz⟩ := List.mem_flatMap.1 hv
  exact one_fI _ z v hz
theorem size45 : (Yba.prog.info? 45).map (·.size) = some 7 := by kernel_rfl
theorem rowsI_get (zs : List Int) : ∀ (i : Nat) (j : Nat), i < zs.length → j < 7 → (rowsI zs)[i * 7 + j]? = (fI { data := #[120] } (zs.getD i 0))[j]? := by
  induction zs with
  | nil => intro i j h; simp at h
  | cons z r ih =>
    intro i j h hj
    have e : rowsI (z :: r) = fI { data := #[120] } z ++ rowsI r := rfl
    have hl : (fI { data := #[120] } z).length = 7 := rfl
    rw [e]
    cases i with
    | zero => rw [Nat.zero_mul, Nat.zero_add, List.getElem?_append_left (by rw [hl]; exact hj)]; simp
    | succ i =>
      rw [List.getElem?_append_right (by rw [hl]; omega), hl, show (i + 1) * 7 + j - 7 = i * 7 + j by omega, ih i j (by simpa using h) hj]
      simp
theorem rows_cells {W : World} {g k : Nat} {rs : List Value} {z : Int} (h : W.rangeAt g 0 rs) (hz : ∀ j, j < 7 → rs[k * 7 + j]? = (fI { data := #[120] } z)[j]?) : W.rangeAt g (k * 7) (fI { data := #[120] } z) := by
  intro j v hv
  have hj : j < 7 := (List.getElem?_eq_some_iff.1 hv).1
  have := h (k * 7 + j) v (by rw [hz j hj]; exact hv)
  rwa [Nat.zero_add] at this
theorem sev_I {w : World} {b o : Nat} {key : ByteArray} {n : Int} (h : w.rangeAt b o (fI key n)) : w.cell? ⟨b, o, none⟩ = some (.string key) ∧ w.cell? ⟨b, o + 1, none⟩ = some (.string { data := #[110, 117, 109, 98, 101, 114] }) ∧ w.cell? ⟨b, o + 2, none⟩ = some (.string { data := #[] }) ∧ w.cell? ⟨b, o + 3, none⟩ = some (.string { data := #[105, 110, 116] }) ∧ w.cell? ⟨b, o + 4, none⟩ = some (.string { data := #[] }) ∧ w.cell? ⟨b, o + 5, none⟩ = some (.int .i64 n) ∧ w.cell? ⟨b, o + 6, none⟩ = some (.int .i64 0) :=
  ⟨h 0 _ rfl, h 1 _ rfl, h 2 _ rfl, h 3 _ rfl, h 4 _ rfl, h 5 _ rfl, h 6 _ rfl⟩
theorem sev_D {w : World} {b o : Nat} {key : ByteArray} {n : Int} (h : w.rangeAt b o (fD key n)) : w.cell? ⟨b, o, none⟩ = some (.string key) ∧ w.cell? ⟨b, o + 1, none⟩ = some (.string { data := #[112, 97, 105, 114] }) ∧ w.cell? ⟨b, o + 2, none⟩ = some (.string { data := #[] }) ∧ w.cell? ⟨b, o + 3, none⟩ = some (.string { data := #[100, 97, 116, 101] }) ∧ w.cell? ⟨b, o + 4, none⟩ = some (.string { data := #[] }) ∧ w.cell? ⟨b, o + 5, none⟩ = some (.int .i64 n) ∧ w.cell? ⟨b, o + 6, none⟩ = some (.int .i64 0) :=
  ⟨h 0 _ rfl, h 1 _ rfl, h 2 _ rfl, h 3 _ rfl, h 4 _ rfl, h 5 _ rfl, h 6 _ rfl⟩
theorem neqI (key : ByteArray) (n : Int) (w : World) : (binOp .neq 45 (.agg #[.string key, .string { data := #[110, 117, 109, 98, 101, 114] }, .string { data := #[] }, .string { data := #[105, 110, 116] }, .string { data := #[] }, .int .i64 n, .int .i64 0]) (.agg #[.string key, .string { data := #[110, 117, 109, 98, 101, 114] }, .string { data := #[] }, .string { data := #[105, 110, 116] }, .string { data := #[] }, .int .i64 n, .int .i64 0])).run Yba.prog w = .ok (.bool false) w := by simp [go_sem]
theorem neqD (key : ByteArray) (n : Int) (w : World) : (binOp .neq 45 (.agg #[.string key, .string { data := #[112, 97, 105, 114] }, .string { data := #[] }, .string { data := #[100, 97, 116, 101] }, .string { data := #[] }, .int .i64 n, .int .i64 0]) (.agg #[.string key, .string { data := #[112, 97, 105, 114] }, .string { data := #[] }, .string { data := #[100, 97, 116, 101] }, .string { data := #[] }, .int .i64 n, .int .i64 0])).run Yba.prog w = .ok (.bool false) w := by simp [go_sem]
theorem neqT (trig : ByteArray) (w : World) : (binOp .neq 52 (.agg #[.int .i64 7, .string { data := #[119] }, .string trig]) (.agg #[.int .i64 7, .string { data := #[119] }, .string trig])).run Yba.prog w = .ok (.bool false) w := by simp [go_sem]
theorem neqP (sb : Nat) (w : World) : (binOp .neq 47 (.pointer (some ⟨sb, 0, none⟩)) (.pointer (some ⟨sb, 0, none⟩))).run Yba.prog w = .ok (.bool false) w := by
  obtain ⟨j, hj, _⟩ := Option.map_eq_some_iff.1 (show (Yba.prog.info? 50).map (·.size) = some 4 by kernel_rfl)
  exact Lib.run_neq_ptr_same w _ Yba.underlying47 hj
theorem neqM (w : World) : (binOp .neq 48 (.map none) (.map none)).run Yba.prog w = .ok (.bool false) w := rfl
theorem neqF (w : World) : (binOp .neq 32 .nilFunc .nilFunc).run Yba.prog w = .ok (.bool false) w := rfl
theorem fI_len (key : ByteArray) (n : Int) : (fI key n).length = 7 := rfl
theorem rangeAt_app {W : World} {g : Nat} {a b : List Value} (h : W.rangeAt g 0 (a ++ b)) : W.rangeAt g 0 a ∧ W.rangeAt g a.length b := by
  refine ⟨fun j v hv => h j v ?_, fun j v hv => ?_⟩
  · rw [List.getElem?_append_left (List.getElem?_eq_some_iff.1 hv).1]; exact hv
  · have := h (a.length + j) v (by rw [List.getElem?_append_right (by omega), Nat.add_sub_cancel_left]; exact hv)
    rwa [Nat.zero_add] at this
structure GotF (W : World) (gb g n c : Nat) (rs : List Value) : Prop where
  p6 : W.cell? ⟨gb, 6, none⟩ = some (.slice (some ⟨g, 0, none⟩) n c)
  r : W.rangeAt g 0 rs
  lb : gb < W.heap.size
  lg : g < W.heap.size
theorem GotF.below {W W' : World} {gb g n c : Nat} {rs : List Value} (h : GotF W gb g n c rs) (hb : Below W.heap.size W W') : GotF W' gb g n c rs :=
  ⟨(hb.cell (p := ⟨gb, 6, none⟩) h.lb).trans h.p6, rangeAt_below hb h.lg h.r, Nat.lt_of_lt_of_le h.lb hb.size, Nat.lt_of_lt_of_le h.lg hb.size⟩
theorem below_of_drew {W W' : World} (h : Below W.drew.heap.size W.drew W') : Below W.heap.size W W' := ((Below.refl _ W).drew).trans h
theorem gotF_new {w6 : World} {g n c : Nat} {rs : List Value} {v0 v1 v2 v3 v4 v5 v7 v8 v9 : Value} (T : TypeId) (hr : w6.rangeAt g 0 rs) (hg : g < w6.heap.size) : GotF (w6.alloc (.cells #[v0, v1, v2, v3, v4, v5, .slice (some ⟨g, 0, none⟩) n c, v7, v8, v9] T)) w6.heap.size g n c rs :=
  ⟨cell_of_row _ _ 6 _ _ _ (heap_alloc_new w6 _), World.rangeAt_alloc hr _, by simp, by simp; omega⟩
theorem gotI {W : World} {gb g n c : Nat} {rs : List Value} {d : Int} (h : GotF W gb g n c rs) (hr : W.rangeAt g 0 (fI { data := #[114, 117, 110] } d)) : W.cell? ⟨gb, 6, none⟩ = some (.slice (some ⟨g, 0, none⟩) n c) ∧ W.cell? ⟨g, 0, none⟩ = some (.string { data := #[114, 117, 110] }) ∧ W.cell? ⟨g, 1, none⟩ = some (.string { data := #[110, 117, 109, 98, 101, 114] }) ∧ W.cell? ⟨g, 2, none⟩ = some (.string { data := #[] }) ∧ W.cell? ⟨g, 3, none⟩ = some (.string { data := #[105, 110, 116] }) ∧ W.cell? ⟨g, 4, none⟩ = some (.string { data := #[] }) ∧ W.cell? ⟨g, 5, none⟩ = some (.int .i64 d) ∧ W.cell? ⟨g, 6, none⟩ = some (.int .i64 0) := by
  obtain ⟨a0, a1, a2, a3, a4, a5, a6⟩ := sev_I hr
  simp only [Nat.zero_add] at a1 a2 a3 a4 a5 a6
  exact ⟨h.p6, a0, a1, a2, a3, a4, a5, a6⟩
theorem gotD {W : World} {gb g n c : Nat} {rs : List Value} {d : Int} (h : GotF W gb g n c rs) (hr : W.rangeAt g 7 (fD { data := #[115, 105, 110, 99, 101] } d)) : W.cell? ⟨gb, 6, none⟩ = some (.slice (some ⟨g, 0, none⟩) n c) ∧ W.cell? ⟨g, 7, none⟩ = some (.string { data := #[115, 105, 110, 99, 101] }) ∧ W.cell? ⟨g, 8, none⟩ = some (.string { data := #[112, 97, 105, 114] }) ∧ W.cell? ⟨g, 9, none⟩ = some (.string { data := #[] }) ∧ W.cell? ⟨g, 10, none⟩ = some (.string { data := #[100, 97, 116, 101] }) ∧ W.cell? ⟨g, 11, none⟩ = some (.string { data := #[] }) ∧ W.cell? ⟨g, 12, none⟩ = some (.int .i64 d) ∧ W.cell? ⟨g, 13, none⟩ = some (.int .i64 0) := by
  obtain ⟨a0, a1, a2, a3, a4, a5, a6⟩ := sev_D hr
  exact ⟨h.p6, a0, a1, a2, a3, a4, a5, a6⟩
theorem newsI (w : World) (key : ByteArray) (d : Int) : ∀ j v, (fI key d)[j]? = some v → (w.alloc (.cells #[.string key, .string { data := #[110, 117, 109, 98, 101, 114] }, .string { data := #[] }, .string { data := #[105, 110, 116] }, .string { data := #[] }, .int .i64 d, .int .i64 0] 45)).cell? ((⟨w.heap.size, 0, none⟩ : Addr).add j) = some v :=
  World.news_of_block (heap_alloc_new w _)
theorem rowsI_snoc (zs : List Int) (k : Nat) (h : k < zs.length) : rowsI (zs.take (k + 1)) = rowsI (zs.take k) ++ fI { data := #[120] } (zs.getD k 0) := by
  have e : zs.take (k + 1) = zs.take k ++ [zs.getD k 0] := by
    rw [List.take_add_one, List.getElem?_eq_getElem h]; simp [List.getD, h]
  rw [e]; simp [rowsI]

/-- WHAT IS TOLD OF THE SLICE OF INTEGERS THAT CAME IN -/
def IntRow (B : Nat) (w : World) (a : Option Addr) (len : Nat) (zs : List Int) : Prop :=
  len ≤ zs.length ∧ (0 < len → ∃ b off, a = some ⟨b, off, none⟩ ∧ b < B ∧ ∀ i, i < len → w.cell? ⟨b, off + i, none⟩ = some (.int .i64 (zs.getD i 0)))

theorem figs_step {w wr w3 w5 : World} {o : Obj} (hB : Below w.heap.size w wr) (hsz : w.heap.size + 1 < wr.heap.size) (hb3 : Below wr.heap.size wr w3)
    (hg : (w3.alloc o).grownBy w5 (some (w.heap.size + 1))) : Below w.heap.size w w5 ∧ w.heap.size + 1 < w5.heap.size := by
  have h3 := hb3.size
  have hb : Below w.heap.size (w3.alloc o) w5 := (Below.refl _ _).grown hg (by simp; omega) (fun k hk => by simp at hk; omega)
  refine ⟨((hB.trans (hb3.mono hB.size)).alloc (by have := hB.size; omega) o).trans hb, ?_⟩
  have := hb.size
  simp at this
  omega

set_option maxRecDepth 100000 in
theorem law_longB (date kind days since : Int) (comp sym test cl ed trig : ByteArray) (op na open' blind : Bool) (a : Option Addr) (len cap : Nat) (w : World) (h : 65536 < len) (hm : len ≤ maxLen) :
    Calls Yba.prog 4 #[.agg #[.int .i32 date, .string comp, .int .i64 kind, .string sym, .string test, .string cl, .bool op, .bool na, .string ed], .slice a len cap, .string trig, .int .i64 days, .int .i32 since, .bool open', .bool blind] w fun e w' => e = .returned (.bool true) ∧ Below w.heap.size w w' := by
  unfold maxLen at hm
  go_enter Yba.func4, Yba.ntmps4
  go_wp2
  go_ret
  exact ⟨rfl, (Below.refl _ _).alloc (Nat.le_refl _) _⟩

set_option maxRecDepth 100000 in
set_option maxHeartbeats 2000000 in
theorem law_walkB (date kind days since : Int) (comp sym test cl ed trig : ByteArray) (op na open' blind : Bool) (a : Option Addr) (len cap : Nat) (zs : List Int) (w : World) (h : IntRow w.heap.size w a len zs) (hlen : len ≤ 65536) (s0 : -2147483648 ≤ since) (s1 : since ≤ 2147483647) :
    Calls Yba.prog 4 #[.agg #[.int .i32 date, .string comp, .int .i64 kind, .string sym, .string test, .string cl, .bool op, .bool na, .string ed], .slice a len cap, .string trig, .int .i64 days, .int .i32 since, .bool open', .bool blind] w fun e w' => e = .returned (.bool true) ∧ Below w.heap.size w w' := by
  obtain ⟨i0, hi, hz0, hz1, hz2⟩ := info_parts info45
  have hdl : decide ((65536 : Int) < (len : Int)) = false := by simp; omega
  go_enter Yba.func4, Yba.ntmps4
  go_wp2_with (at_make; refine wpList_make_own _ rfl _ _ 41 rfl (w.heap.size + 1) 45 i0 _ 7 Yba.underlying41 hi hz0 hz1 _ _ _ len rfl rfl rfl (by rw [hz2]; omega) (by unfold maxLen; omega) (by simp) ?_)
  intro w1 hown0 hgrow
  have hown : w1.ownsRow (w.heap.size + 1) 45 7 (.slice (some ⟨w.heap.size + 1, 0, none⟩) 0 len) 0 (rowsI (zs.take 0)) := by simpa [rowsI] using hown0
  have hb1 : Below w.heap.size w w1 := ((Below.refl _ _).alloc (Nat.le_refl _) _).trans (((Below.refl _ _).grown hgrow (Nat.le_refl _) (fun k h => by cases h)).mono (by simp))
  have hs1 : w.heap.size + 1 < w1.heap.size := (hown.lt (w.heap.size + 1) rfl).2
  have hk1 : w1.heap[w.heap.size]? = some (.cells #[.int .i32 date, .string comp, .int .i64 kind, .string sym, .string test, .string cl, .bool op, .bool na, .string ed] 38 (0, 0)) := (hgrow.block _ (by simp) (by simp)).trans (heap_alloc_new w _)
  clear hown0 hgrow
  go_wp2
  go_loopw [15, 16] (fun v i wr => ∃ k : Nat, k ≤ len ∧ i = .int .i64 k ∧ v = .slice (some ⟨w.heap.size + 1, 0, none⟩) k len ∧ wr.ownsRow (w.heap.size + 1) 45 7 (.slice (some ⟨w.heap.size + 1, 0, none⟩) k len) k (rowsI (zs.take k)) ∧ wr.heap[w.heap.size]? = some (.cells #[.int .i32 date, .string comp, .int .i64 kind, .string sym, .string test, .string cl, .bool op, .bool na, .string ed] 38 (0, 0)) ∧ Below w.heap.size w wr ∧ w.heap.size + 1 < wr.heap.size)
    (fun _ i _ => len - (intOf i).toNat)
  case atStart => exact ⟨0, Nat.zero_le _, rfl, rfl, hown, hk1, hb1, hs1⟩
  case round =>
    obtain ⟨k, hk, rfl, rfl, ho, hK, hB, hsz⟩ := hrel
    clear hown hk1 hb1 hs1
    by_cases hlt : k < len
    · obtain ⟨b, off, hx, hbB, hr⟩ := h.2 (by omega)
      subst hx
      have hck : wr.cell? ⟨b, off + k, none⟩ = some (.int .i64 (zs.getD k 0)) := (hB.cell (p := ⟨b, off + k, none⟩) hbB).trans (hr k hlt)
      have HS : Hid (rowsI (zs.take (k + 1)) = rowsI (zs.take k) ++ fI { data := #[120] } (zs.getD k 0)) := rowsI_snoc zs k (by have := h.1; omega)
      generalize zs.getD k 0 = z at *
      clear hr
      go_wp2_with (first | (go_at_call 7; refine (int_any _ _ _).mono ?_; rintro e w3 ⟨rfl, hb3⟩; have hown3 := own_below ho hb3) | (at_builtin; refine wpList_append_fits _ rfl _ _ 41 rfl (w.heap.size + 1) 45 i0 7 Yba.underlying41 hi hz1 (w.heap.size + 1) k len (rowsI (zs.take k)) rfl (hown3.alloc _) ⟨w3.heap.size, 0, none⟩ 1 1 (fI { data := #[120] } z) rfl rfl (newsI w3 _ _) (one_fI _ _) (by omega) ?_))
      intro w5 hown5 hgrow5
      obtain ⟨hB5, hs5⟩ := figs_step hB hsz hb3 hgrow5
      have hK5 : w5.heap[w.heap.size]? = some (.cells #[.int .i32 date, .string comp, .int .i64 kind, .string sym, .string test, .string cl, .bool op, .bool na, .string ed] 38 (0, 0)) := (hgrow5.block _ (by simp; have := hb3.size; omega) (by simp)).trans ((Below.heap_alloc _ _ _ (by have := hb3.size; omega)).trans ((hb3.block _ (by omega)).trans hK))
      rw [← HS.out] at hown5
      clear hgrow5 hb3 hown3 ho hB hK hck
      go_wp2
      go_roundw
      case rel => exact ⟨k + 1, by omega, by go_num, rfl, hown5, hK5, hB5, hs5⟩
      case measure => simp [intOf]; omega
    · obtain rfl : len = k := by omega
      have hrl : (rowsI (zs.take len)).length = len * 7 := ho.1
      have HZ : Hid (∀ k, k < len → ∃ z, ∀ j, j < 7 → (rowsI (zs.take len))[k * 7 + j]? = (fI { data := #[120] } z)[j]?) := fun k hk => ⟨_, fun j hj => rowsI_get (zs.take len) k j (by rw [List.length_take]; have := h.1; omega) hj⟩
      have ho1 := one_rowsI (zs.take len)
      generalize rowsI (zs.take len) = rs at *
      go_wp2_with (at_make; refine wpList_make_full _ rfl _ _ 41 rfl wr.heap.size 45 i0 _ 7 Yba.underlying41 hi hz0 hz1 _ _ _ _ len rfl rfl rfl rfl (by rw [hz2]; omega) (by unfold maxLen; omega) (Nat.le_refl _) ?_)
      intro w3 hown3 hgrow3
      have hb3 : Below wr.heap.size wr w3 := (Below.refl _ _).grown hgrow3 (Nat.le_refl _) (fun k h => by cases h)
      have ht3 : w3.there wr.heap.size 0 (len * 7) := there_own hown3
      have hs3 : wr.heap.size < w3.heap.size := (hown3.lt wr.heap.size rfl).2
      have hon3 := own_below ho hb3
      have hsrc := hon3.cells (g := w.heap.size + 1) rfl
      clear hown3 hgrow3
      have hK4 : (w3.setCells wr.heap.size 0 rs).heap[w.heap.size]? = some (.cells #[.int .i32 date, .string comp, .int .i64 kind, .string sym, .string test, .string cl, .bool op, .bool na, .string ed] 38 (0, 0)) := (setCells_other _ _ _ _ _ (by omega)).trans ((hb3.block _ (by omega)).trans hK)
      have e4 : (w3.setCells wr.heap.size 0 rs).heap.size = w3.heap.size := size_setCells _ _ _ _
      have hB4 : Below w.heap.size w (w3.setCells wr.heap.size 0 rs) := (hB.trans (hb3.mono hB.size)).trans ((below_setCells _ _ _ _).mono hB.size)
      have r14 : (w3.setCells wr.heap.size 0 rs).rangeAt (w.heap.size + 1) 0 rs := World.rangeAt_setCells_apart (fun j v hv => (congrArg w3.cell? (by rw [Go.Addr.add_mid])).trans (hsrc j v hv)) _ _ _ (.inl (by omega))
      have r24 : (w3.setCells wr.heap.size 0 rs).rangeAt wr.heap.size 0 rs := World.rangeAt_setCells_same _ _ _ _ (by rw [hrl]; exact ht3)
      have hSt := st_startB (len := len) (date := date) (kind := kind) (days := days) (since := since) (comp := comp) (sym := sym) (test := test) (cl := cl) (ed := ed) (trig := trig) (op := op) (na := na) (open' := open') (blind := blind) hB4 hK4 r14 (by omega) r24 (by omega)
      clear r14 r24 hB4 hon3
      have q0 : ∀ o1 o2 o3, ((((w3.setCells wr.heap.size 0 rs).alloc o1).alloc o2).alloc o3).cell? ⟨w.heap.size, 0, none⟩ = some _ := fun o1 o2 o3 => al (al (al (cell_of_row _ _ 0 _ _ _ hK4) o1) o2) o3
      have q1 : ∀ o1 o2 o3, ((((w3.setCells wr.heap.size 0 rs).alloc o1).alloc o2).alloc o3).cell? ⟨w.heap.size, 1, none⟩ = some _ := fun o1 o2 o3 => al (al (al (cell_of_row _ _ 1 _ _ _ hK4) o1) o2) o3
      have q2 : ∀ o1 o2 o3, ((((w3.setCells wr.heap.size 0 rs).alloc o1).alloc o2).alloc o3).cell? ⟨w.heap.size, 2, none⟩ = some _ := fun o1 o2 o3 => al (al (al (cell_of_row _ _ 2 _ _ _ hK4) o1) o2) o3
      have q3 : ∀ o1 o2 o3, ((((w3.setCells wr.heap.size 0 rs).alloc o1).alloc o2).alloc o3).cell? ⟨w.heap.size, 3, none⟩ = some _ := fun o1 o2 o3 => al (al (al (cell_of_row _ _ 3 _ _ _ hK4) o1) o2) o3
      have q4 : ∀ o1 o2 o3, ((((w3.setCells wr.heap.size 0 rs).alloc o1).alloc o2).alloc o3).cell? ⟨w.heap.size, 4, none⟩ = some _ := fun o1 o2 o3 => al (al (al (cell_of_row _ _ 4 _ _ _ hK4) o1) o2) o3
      have q5 : ∀ o1 o2 o3, ((((w3.setCells wr.heap.size 0 rs).alloc o1).alloc o2).alloc o3).cell? ⟨w.heap.size, 5, none⟩ = some _ := fun o1 o2 o3 => al (al (al (cell_of_row _ _ 5 _ _ _ hK4) o1) o2) o3
      have q6 : ∀ o1 o2 o3, ((((w3.setCells wr.heap.size 0 rs).alloc o1).alloc o2).alloc o3).cell? ⟨w.heap.size, 6, none⟩ = some _ := fun o1 o2 o3 => al (al (al (cell_of_row _ _ 6 _ _ _ hK4) o1) o2) o3
      have q7 : ∀ o1 o2 o3, ((((w3.setCells wr.heap.size 0 rs).alloc o1).alloc o2).alloc o3).cell? ⟨w.heap.size, 7, none⟩ = some _ := fun o1 o2 o3 => al (al (al (cell_of_row _ _ 7 _ _ _ hK4) o1) o2) o3
      have q8 : ∀ o1 o2 o3, ((((w3.setCells wr.heap.size 0 rs).alloc o1).alloc o2).alloc o3).cell? ⟨w.heap.size, 8, none⟩ = some _ := fun o1 o2 o3 => al (al (al (cell_of_row _ _ 8 _ _ _ hK4) o1) o2) o3
      clear hK4 e4
      go_wp2_with (((with_reducible refine copy_g 41 41 45 7 wr.heap.size 0 len len ⟨w.heap.size + 1, 0, none⟩ len len len rs ?_ ?_ Yba.underlying41 size45 (Nat.min_self len) hrl hsrc ht3 ho1 ?_); (· rfl); (· rfl)))
      clear hsrc ht3 ho1 hrl hs3 hb3 ho hK hB hsz hi hz0 hz1 hz2
      clear q0 q1 q2 q3 q4 q5 q6 q7 q8
      generalize w3.setCells wr.heap.size 0 rs = w4 at *
      generalize wr.heap.size = g2 at *
      have h3 : World.cell? _ ⟨w4.heap.size + 1 + 1, 3, none⟩ = some _ := cell_of_row _ _ 3 _ _ _ hSt.br
      have h4 : World.cell? _ ⟨w4.heap.size + 1 + 1, 4, none⟩ = some _ := cell_of_row _ _ 4 _ _ _ hSt.br
      have h5 : World.cell? _ ⟨w4.heap.size + 1 + 1, 5, none⟩ = some _ := cell_of_row _ _ 5 _ _ _ hSt.br
      have h6 : World.cell? _ ⟨w4.heap.size + 1 + 1, 6, none⟩ = some _ := cell_of_row _ _ 6 _ _ _ hSt.br
      have h7 : World.cell? _ ⟨w4.heap.size + 1 + 1, 7, none⟩ = some _ := cell_of_row _ _ 7 _ _ _ hSt.br
      by_cases hd : 0 < days
      · refine (state_gt (w4.heap.size + 1 + 1) date kind days since comp sym test cl ed trig _ len len op na open' blind _ h3 h4 h5 h6 h7 hd s0 s1).mono ?_
        rintro e w6 ⟨g, cap1, rfl, hg, hgs, hgl, hb6⟩
        have hS6 := hSt.below hb6
        clear h3 h4 h5 h6 h7 hSt hb6
        generalize w4.heap.size = sb at *
        have q0 := al (show w6.cell? ⟨w.heap.size, 0, none⟩ = some _ from cell_of_row _ _ 0 _ _ _ hS6.bB)
        have q1 := al (show w6.cell? ⟨w.heap.size, 1, none⟩ = some _ from cell_of_row _ _ 1 _ _ _ hS6.bB)
        have q2 := al (show w6.cell? ⟨w.heap.size, 2, none⟩ = some _ from cell_of_row _ _ 2 _ _ _ hS6.bB)
        have q3 := al (show w6.cell? ⟨w.heap.size, 3, none⟩ = some _ from cell_of_row _ _ 3 _ _ _ hS6.bB)
        have q4 := al (show w6.cell? ⟨w.heap.size, 4, none⟩ = some _ from cell_of_row _ _ 4 _ _ _ hS6.bB)
        have q5 := al (show w6.cell? ⟨w.heap.size, 5, none⟩ = some _ from cell_of_row _ _ 5 _ _ _ hS6.bB)
        have q6 := al (show w6.cell? ⟨w.heap.size, 6, none⟩ = some _ from cell_of_row _ _ 6 _ _ _ hS6.bB)
        have q7 := al (show w6.cell? ⟨w.heap.size, 7, none⟩ = some _ from cell_of_row _ _ 7 _ _ _ hS6.bB)
        have q8 := al (show w6.cell? ⟨w.heap.size, 8, none⟩ = some _ from cell_of_row _ _ 8 _ _ _ hS6.bB)
        have hg7 := hg
        have R7 := rangeAt_app (a := fI { data := #[114, 117, 110] } days) (b := fD { data := #[115, 105, 110, 99, 101] } since) hg
        obtain ⟨u0, u1, u2, u3, u4, u5, u6⟩ := sev_I R7.1
        obtain ⟨v0, v1, v2, v3, v4, v5, v6⟩ := sev_D R7.2
        simp only [Nat.zero_add, Nat.reduceAdd, fI_len] at u1 u2 u3 u4 u5 u6 v0 v1 v2 v3 v4 v5 v6
        have x0 := al u0
        have x1 := al u1
        have x2 := al u2
        have x3 := al u3
        have x4 := al u4
        have x5 := al u5
        have x6 := al u6
        have y0 := al v0
        have y1 := al v1
        have y2 := al v2
        have y3 := al v3
        have y4 := al v4
        have y5 := al v5
        have y6 := al v6
        clear u0 u1 u2 u3 u4 u5 u6 v0 v1 v2 v3 v4 v5 v6 R7 hg hgs
        have e1 : (date != date) = false := by simp
        have e2 : (kind != kind) = false := by simp
        have e3 : (open' != open') = false := by simp
        have e4 : (blind != blind) = false := by simp
        go_wp2
        have hG8 : GotF (w6.alloc (.cells #[.int .i32 date, .string comp, .int .i64 kind, .string sym, .string test, .string trig, .slice (some ⟨g, 0, none⟩) 2 cap1, .bool open', .bool blind, .string ed] 60)) w6.heap.size g 2 cap1 (fI { data := #[114, 117, 110] } days ++ fD { data := #[115, 105, 110, 99, 101] } since) := gotF_new _ hg7 hgl
        have hS8 := hS6.below ((Below.refl _ _).alloc (Nat.le_refl _) (.cells #[.int .i32 date, .string comp, .int .i64 kind, .string sym, .string test, .string trig, .slice (some ⟨g, 0, none⟩) 2 cap1, .bool open', .bool blind, .string ed] 60))
        clear q0 q1 q2 q3 q4 q5 q6 q7 q8 x0 x1 x2 x3 x4 x5 x6 y0 y1 y2 y3 y4 y5 y6 e1 e2 e3 e4 hS6 hg7 hgl
        generalize w6.alloc (.cells #[.int .i32 date, .string comp, .int .i64 kind, .string sym, .string test, .string trig, .slice (some ⟨g, 0, none⟩) 2 cap1, .bool open', .bool blind, .string ed] 60) = w8 at *
        generalize w6.heap.size = gb at *
        obtain ⟨p6, x0, x1, x2, x3, x4, x5, x6⟩ := gotI hG8 (rangeAt_app hG8.r).1
        have hneI := neqI { data := #[114, 117, 110] } days
        go_region_held3 (fun w' => w'.cell? ⟨gb, 6, none⟩ = some (.slice (some ⟨g, 0, none⟩) 2 cap1) ∧ w'.cell? ⟨g, 0, none⟩ = some (.string { data := #[114, 117, 110] }) ∧ w'.cell? ⟨g, 1, none⟩ = some (.string { data := #[110, 117, 109, 98, 101, 114] }) ∧ w'.cell? ⟨g, 2, none⟩ = some (.string { data := #[] }) ∧ w'.cell? ⟨g, 3, none⟩ = some (.string { data := #[105, 110, 116] }) ∧ w'.cell? ⟨g, 4, none⟩ = some (.string { data := #[] }) ∧ w'.cell? ⟨g, 5, none⟩ = some (.int .i64 days) ∧ w'.cell? ⟨g, 6, none⟩ = some (.int .i64 0)) (first | go_keep | exact gotI (hG8.below hb9) (rangeAt_app (hG8.below hb9).r).1)
          ((go_at_call 7; refine (int_any _ _ _).mono ?_; rintro e w9 ⟨rfl, hb9'⟩; have hb9 := below_of_drew hb9'; clear hb9'))
        have hG9 := hG8.below hb9
        have hS9 := hS8.below hb9
        clear p6 x0 x1 x2 x3 x4 x5 x6 hneI hG8 hS8 hb9
        obtain ⟨p6, y0, y1, y2, y3, y4, y5, y6⟩ := gotD hG9 (rangeAt_app hG9.r).2
        have hneD := neqD { data := #[115, 105, 110, 99, 101] } since
        go_wp2
        go_region_held3 (fun w' => w'.cell? ⟨gb, 6, none⟩ = some (.slice (some ⟨g, 0, none⟩) 2 cap1) ∧ w'.cell? ⟨g, 7, none⟩ = some (.string { data := #[115, 105, 110, 99, 101] }) ∧ w'.cell? ⟨g, 8, none⟩ = some (.string { data := #[112, 97, 105, 114] }) ∧ w'.cell? ⟨g, 9, none⟩ = some (.string { data := #[] }) ∧ w'.cell? ⟨g, 10, none⟩ = some (.string { data := #[100, 97, 116, 101] }) ∧ w'.cell? ⟨g, 11, none⟩ = some (.string { data := #[] }) ∧ w'.cell? ⟨g, 12, none⟩ = some (.int .i64 since) ∧ w'.cell? ⟨g, 13, none⟩ = some (.int .i64 0)) (first | go_keep | exact gotD (hG9.below hb10) (rangeAt_app (hG9.below hb10).r).2)
          ((go_at_call 9; refine (date_any _ _ _ s0 s1).mono ?_; rintro e w10 ⟨rfl, hb10'⟩; have hb10 := below_of_drew hb10'; clear hb10'))
        have hS10 := hS9.below hb10
        clear p6 y0 y1 y2 y3 y4 y5 y6 hneD hG9 hS9 hb10
        go_wp2
        go_loopw [24] (fun i wq => ∃ k : Nat, k ≤ len ∧ i = .int .i64 k ∧ StB w wq (w.heap.size + 1) g2 sb (sb + 1) (sb + 1 + 1) rs date kind days since comp sym test cl ed trig op na open' blind)
          (fun i _ => len - (intOf i).toNat)
        case atStart => exact ⟨0, Nat.zero_le _, rfl, hS10⟩
        case round =>
          clear hS10
          obtain ⟨k, hk, rfl, hS⟩ := hrel
          by_cases hlt : k < len
          · obtain ⟨z, hz⟩ := HZ.out k hlt
            obtain ⟨a0, a1, a2, a3, a4, a5, a6⟩ := sev_I (rows_cells hS.r1 hz)
            obtain ⟨b0, b1, b2, b3, b4, b5, b6⟩ := sev_I (rows_cells hS.r2 hz)
            have hne := neqI { data := #[120] } z
            have j1 : (0 : Int) ≤ (k : Int) := by omega
            have j2 : (k : Int) < (len : Int) := by omega
            clear hz
            go_wp2
            go_quiet (fail)
            go_wp2
            go_roundw
            case rel => exact ⟨k + 1, by omega, by go_num, hS.below (below_drewN (Below.refl _ _) nq)⟩
            case measure => simp [intOf]; omega
          · clear HZ
            have e1 : (days != days) = false := by simp
            have e2 : (since != since) = false := by simp
            have e3 : (open' != open') = false := by simp
            have e4 : (blind != blind) = false := by simp
            have n1 := neqT trig
            have n2 := neqP sb
            have n3 := neqM
            have n4 := neqF
            have r0 : wr.cell? ⟨sb + 1 + 1, 0, none⟩ = some _ := cell_of_row _ _ 0 _ _ _ hS.br
            have r1 : wr.cell? ⟨sb + 1 + 1, 1, none⟩ = some _ := cell_of_row _ _ 1 _ _ _ hS.br
            have r2 : wr.cell? ⟨sb + 1 + 1, 2, none⟩ = some _ := cell_of_row _ _ 2 _ _ _ hS.br
            have r3 : wr.cell? ⟨sb + 1 + 1, 3, none⟩ = some _ := cell_of_row _ _ 3 _ _ _ hS.br
            have r4 : wr.cell? ⟨sb + 1 + 1, 4, none⟩ = some _ := cell_of_row _ _ 4 _ _ _ hS.br
            have r5 : wr.cell? ⟨sb + 1 + 1, 5, none⟩ = some _ := cell_of_row _ _ 5 _ _ _ hS.br
            have r6 : wr.cell? ⟨sb + 1 + 1, 6, none⟩ = some _ := cell_of_row _ _ 6 _ _ _ hS.br
            have r7 : wr.cell? ⟨sb + 1 + 1, 7, none⟩ = some _ := cell_of_row _ _ 7 _ _ _ hS.br
            have m0 : wr.cell? ⟨sb + 1, 0, none⟩ = some _ := cell_of_row _ _ 0 _ _ _ hS.bt
            have m1 : wr.cell? ⟨sb + 1, 1, none⟩ = some _ := cell_of_row _ _ 1 _ _ _ hS.bt
            have m2 : wr.cell? ⟨sb + 1, 2, none⟩ = some _ := cell_of_row _ _ 2 _ _ _ hS.bt
            have k0 : wr.cell? ⟨sb, 0, none⟩ = some _ := cell_of_row _ _ 0 _ _ _ hS.bs
            have k1 : wr.cell? ⟨sb, 1, none⟩ = some _ := cell_of_row _ _ 1 _ _ _ hS.bs
            have k2 : wr.cell? ⟨sb, 2, none⟩ = some _ := cell_of_row _ _ 2 _ _ _ hS.bs
            have k3 : wr.cell? ⟨sb, 3, none⟩ = some _ := cell_of_row _ _ 3 _ _ _ hS.bs
            go_wp2
            go_quiet (fail)
            go_wp2
            go_ret
            exact ⟨rfl, below_drewN hS.bel nq⟩
      · refine (state_le (w4.heap.size + 1 + 1) date kind days comp sym test cl ed trig _ len len op na open' blind _ h3 h4 h6 h7 (by omega)).mono ?_
        rintro e w6 ⟨g, rfl, hg, hgs, hb6⟩
        have hgl : g < w6.heap.size := blk_lt hg
        have hS6 := hSt.below hb6
        clear h3 h4 h5 h6 h7 hSt hb6
        generalize w4.heap.size = sb at *
        have q0 := al (show w6.cell? ⟨w.heap.size, 0, none⟩ = some _ from cell_of_row _ _ 0 _ _ _ hS6.bB)
        have q1 := al (show w6.cell? ⟨w.heap.size, 1, none⟩ = some _ from cell_of_row _ _ 1 _ _ _ hS6.bB)
        have q2 := al (show w6.cell? ⟨w.heap.size, 2, none⟩ = some _ from cell_of_row _ _ 2 _ _ _ hS6.bB)
        have q3 := al (show w6.cell? ⟨w.heap.size, 3, none⟩ = some _ from cell_of_row _ _ 3 _ _ _ hS6.bB)
        have q4 := al (show w6.cell? ⟨w.heap.size, 4, none⟩ = some _ from cell_of_row _ _ 4 _ _ _ hS6.bB)
        have q5 := al (show w6.cell? ⟨w.heap.size, 5, none⟩ = some _ from cell_of_row _ _ 5 _ _ _ hS6.bB)
        have q6 := al (show w6.cell? ⟨w.heap.size, 6, none⟩ = some _ from cell_of_row _ _ 6 _ _ _ hS6.bB)
        have q7 := al (show w6.cell? ⟨w.heap.size, 7, none⟩ = some _ from cell_of_row _ _ 7 _ _ _ hS6.bB)
        have q8 := al (show w6.cell? ⟨w.heap.size, 8, none⟩ = some _ from cell_of_row _ _ 8 _ _ _ hS6.bB)
        have hg7 : w6.rangeAt g 0 (fI { data := #[114, 117, 110] } days) := fun j v hv => by rw [Nat.zero_add, cell_of_row _ _ j _ _ _ hg]; simpa [fI] using hv
        obtain ⟨u0, u1, u2, u3, u4, u5, u6⟩ := sev_I hg7
        simp only [Nat.zero_add] at u1 u2 u3 u4 u5 u6
        have x0 := al u0
        have x1 := al u1
        have x2 := al u2
        have x3 := al u3
        have x4 := al u4
        have x5 := al u5
        have x6 := al u6
        clear u0 u1 u2 u3 u4 u5 u6 hg hgs
        have e1 : (date != date) = false := by simp
        have e2 : (kind != kind) = false := by simp
        have e3 : (open' != open') = false := by simp
        have e4 : (blind != blind) = false := by simp
        go_wp2
        have hG8 : GotF (w6.alloc (.cells #[.int .i32 date, .string comp, .int .i64 kind, .string sym, .string test, .string trig, .slice (some ⟨g, 0, none⟩) 1 1, .bool open', .bool blind, .string ed] 60)) w6.heap.size g 1 1 (fI { data := #[114, 117, 110] } days) := gotF_new _ hg7 hgl
        have hS8 := hS6.below ((Below.refl _ _).alloc (Nat.le_refl _) (.cells #[.int .i32 date, .string comp, .int .i64 kind, .string sym, .string test, .string trig, .slice (some ⟨g, 0, none⟩) 1 1, .bool open', .bool blind, .string ed] 60))
        clear q0 q1 q2 q3 q4 q5 q6 q7 q8 x0 x1 x2 x3 x4 x5 x6 e1 e2 e3 e4 hS6 hg7 hgl
        generalize w6.alloc (.cells #[.int .i32 date, .string comp, .int .i64 kind, .string sym, .string test, .string trig, .slice (some ⟨g, 0, none⟩) 1 1, .bool open', .bool blind, .string ed] 60) = w8 at *
        generalize w6.heap.size = gb at *
        obtain ⟨p6, x0, x1, x2, x3, x4, x5, x6⟩ := gotI hG8 hG8.r
        have hneI := neqI { data := #[114, 117, 110] } days
        go_region_held3 (fun w' => w'.cell? ⟨gb, 6, none⟩ = some (.slice (some ⟨g, 0, none⟩) 1 1) ∧ w'.cell? ⟨g, 0, none⟩ = some (.string { data := #[114, 117, 110] }) ∧ w'.cell? ⟨g, 1, none⟩ = some (.string { data := #[110, 117, 109, 98, 101, 114] }) ∧ w'.cell? ⟨g, 2, none⟩ = some (.string { data := #[] }) ∧ w'.cell? ⟨g, 3, none⟩ = some (.string { data := #[105, 110, 116] }) ∧ w'.cell? ⟨g, 4, none⟩ = some (.string { data := #[] }) ∧ w'.cell? ⟨g, 5, none⟩ = some (.int .i64 days) ∧ w'.cell? ⟨g, 6, none⟩ = some (.int .i64 0)) (first | go_keep | exact gotI (hG8.below hb9) (hG8.below hb9).r)
          ((go_at_call 7; refine (int_any _ _ _).mono ?_; rintro e w9 ⟨rfl, hb9'⟩; have hb9 := below_of_drew hb9'; clear hb9'))
        have hG9 := hG8.below hb9
        have hS9 := hS8.below hb9
        clear p6 x0 x1 x2 x3 x4 x5 x6 hneI hG8 hS8 hb9
        go_wp2
        go_quiet (fail)
        have hS10 := hS9.below (below_drewN (Below.refl _ _) nq)
        generalize w9.drewN nq = w10 at *
        clear hG9 hS9
        go_wp2
        go_loopw [24] (fun i wq => ∃ k : Nat, k ≤ len ∧ i = .int .i64 k ∧ StB w wq (w.heap.size + 1) g2 sb (sb + 1) (sb + 1 + 1) rs date kind days since comp sym test cl ed trig op na open' blind)
          (fun i _ => len - (intOf i).toNat)
        case atStart => exact ⟨0, Nat.zero_le _, rfl, hS10⟩
        case round =>
          clear hS10
          obtain ⟨k, hk, rfl, hS⟩ := hrel
          by_cases hlt : k < len
          · obtain ⟨z, hz⟩ := HZ.out k hlt
            obtain ⟨a0, a1, a2, a3, a4, a5, a6⟩ := sev_I (rows_cells hS.r1 hz)
            obtain ⟨b0, b1, b2, b3, b4, b5, b6⟩ := sev_I (rows_cells hS.r2 hz)
            have hne := neqI { data := #[120] } z
            have j1 : (0 : Int) ≤ (k : Int) := by omega
            have j2 : (k : Int) < (len : Int) := by omega
            clear hz
            go_wp2
            go_quiet (fail)
            go_wp2
            go_roundw
            case rel => exact ⟨k + 1, by omega, by go_num, hS.below (below_drewN (Below.refl _ _) nq)⟩
            case measure => simp [intOf]; omega
          · clear HZ
            have e1 : (days != days) = false := by simp
            have e2 : (since != since) = false := by simp
            have e3 : (open' != open') = false := by simp
            have e4 : (blind != blind) = false := by simp
            have n1 := neqT trig
            have n2 := neqP sb
            have n3 := neqM
            have n4 := neqF
            have r0 : wr.cell? ⟨sb + 1 + 1, 0, none⟩ = some _ := cell_of_row _ _ 0 _ _ _ hS.br
            have r1 : wr.cell? ⟨sb + 1 + 1, 1, none⟩ = some _ := cell_of_row _ _ 1 _ _ _ hS.br
            have r2 : wr.cell? ⟨sb + 1 + 1, 2, none⟩ = some _ := cell_of_row _ _ 2 _ _ _ hS.br
            have r3 : wr.cell? ⟨sb + 1 + 1, 3, none⟩ = some _ := cell_of_row _ _ 3 _ _ _ hS.br
            have r4 : wr.cell? ⟨sb + 1 + 1, 4, none⟩ = some _ := cell_of_row _ _ 4 _ _ _ hS.br
            have r5 : wr.cell? ⟨sb + 1 + 1, 5, none⟩ = some _ := cell_of_row _ _ 5 _ _ _ hS.br
            have r6 : wr.cell? ⟨sb + 1 + 1, 6, none⟩ = some _ := cell_of_row _ _ 6 _ _ _ hS.br
            have r7 : wr.cell? ⟨sb + 1 + 1, 7, none⟩ = some _ := cell_of_row _ _ 7 _ _ _ hS.br
            have m0 : wr.cell? ⟨sb + 1, 0, none⟩ = some _ := cell_of_row _ _ 0 _ _ _ hS.bt
            have m1 : wr.cell? ⟨sb + 1, 1, none⟩ = some _ := cell_of_row _ _ 1 _ _ _ hS.bt
            have m2 : wr.cell? ⟨sb + 1, 2, none⟩ = some _ := cell_of_row _ _ 2 _ _ _ hS.bt
            have k0 : wr.cell? ⟨sb, 0, none⟩ = some _ := cell_of_row _ _ 0 _ _ _ hS.bs
            have k1 : wr.cell? ⟨sb, 1, none⟩ = some _ := cell_of_row _ _ 1 _ _ _ hS.bs
            have k2 : wr.cell? ⟨sb, 2, none⟩ = some _ := cell_of_row _ _ 2 _ _ _ hS.bs
            have k3 : wr.cell? ⟨sb, 3, none⟩ = some _ := cell_of_row _ _ 3 _ _ _ hS.bs
            go_wp2
            go_quiet (fail)
            go_wp2
            go_ret
            exact ⟨rfl, below_drewN hS.bel nq⟩

theorem lawB (date kind days since : Int) (comp sym test cl ed trig : ByteArray) (op na open' blind : Bool) (a : Option Addr) (len cap : Nat) (zs : List Int) (w : World) (h : IntRow w.heap.size w a len zs) (hm : len ≤ maxLen) (s0 : -2147483648 ≤ since) (s1 : since ≤ 2147483647) :
    Calls Yba.prog 4 #[.agg #[.int .i32 date, .string comp, .int .i64 kind, .string sym, .string test, .string cl, .bool op, .bool na, .string ed], .slice a len cap, .string trig, .int .i64 days, .int .i32 since, .bool open', .bool blind] w fun e w' => e = .returned (.bool true) ∧ Below w.heap.size w w' := by
  by_cases hl : len ≤ 65536
  · exact law_walkB date kind days since comp sym test cl ed trig op na open' blind a len cap zs w h hl s0 s1
  · exact law_longB date kind days since comp sym test cl ed trig op na open' blind a len cap w (by omega) hm
end Go.Proofs.Ybulkeavy
