/-
  What is known of the writer's memory between the law's statements.
-/
import Derived.Test.YbulkeassReset
namespace Go.Proofs.Ybulkeass
open Go.RowKit

def isNilSl : Value → Bool
  | .slice none 0 0 => true
  | _ => false
def chk (l : List Value) : Bool := ((l.drop 5).take 16384).all isU32 && ((l.drop 16391).take 316).all isIntV && ((l.drop 16710).take 3444).all isIntV && ((l.drop 1).take 1).all isNilSl && ((l.drop 16390).take 1).all isNilSl
set_option maxRecDepth 100000 in
theorem zero47 : (Yba.prog.info? 47).map (fun i => (i.zero.map fun z => (z.cells.size, chk z.cells.toList))) = some (some (20155, true)) := by kernel_rfl
set_option maxRecDepth 100000 in
theorem zero31 : (Yba.prog.info? 31).map (fun i => (i.size, i.zero.map fun z => z.cells.size)) = some (16384, some 16384) := by kernel_rfl
theorem zero32 : (Yba.prog.info? 32).map (fun i => (i.size, i.zero.map fun z => z.cells.size)) = some (286, some 286) := by kernel_rfl
theorem zero33 : (Yba.prog.info? 33).map (fun i => (i.size, i.zero.map fun z => z.cells.size)) = some (30, some 30) := by kernel_rfl
theorem zero39 : (Yba.prog.info? 39).map (fun i => (i.size, i.zero.map fun z => z.cells.size)) = some (576, some 576) := by kernel_rfl
theorem zero43 : (Yba.prog.info? 43).map (fun i => (i.size, i.zero.map fun z => z.cells.size)) = some (1716, some 1716) := by kernel_rfl

theorem all_part {z : List Value} {p : Value → Bool} {o m : Nat} (h : ((z.drop o).take m).all p = true) (hz : o + m ≤ z.length) (i : Nat) (hi : i < m) : p (z.getD (o + i) undef) = true := by
  have hlt : o + i < z.length := by omega
  refine List.all_eq_true.1 h _ (List.mem_of_getElem? (i := i) ?_)
  rw [List.getElem?_take_of_lt hi, List.getElem?_drop, List.getElem?_eq_getElem hlt]
  simp [List.getD, hlt]
theorem isU32_ex {v : Value} (h : isU32 v = true) : ∃ n : Int, v = .int .u32 n := by
  unfold isU32 at h; split at h <;> simp_all
theorem isIntV_ex {v : Value} (h : isIntV v = true) : ∃ k n, v = .int k n := by
  unfold isIntV at h; split at h <;> simp_all
theorem isNilSl_eq {v : Value} (h : isNilSl v = true) : v = .slice none 0 0 := by
  unfold isNilSl at h; split at h <;> simp_all

/-- THE WRITER's BLOCK -/
structure Zs (w wx : World) (c : Nat → Value) : Prop where
  row : wx.rowIs w.heap.size 47 20155 c
  bel : Below w.heap.size w wx
  hsh : ∀ i, i < 16384 → ∃ n : Int, c (5 + i) = .int .u32 n
  int1 : ∀ j, 16391 ≤ j → j < 16707 → ∃ k n, c j = .int k n
  int2 : ∀ j, 16710 ≤ j → j < 20154 → ∃ k n, c j = .int k n

theorem zs_new {w wx : World} {z : List Value} {g : Nat} (hg : w.heap.size = g) (hl : z.length = 20155) (hc : chk z = true) (hr : wx.rowIs g 47 20155 (fun j => z.getD j undef)) (hgr : Gr w wx) :
    ∃ c, Zs w wx c ∧ c 1 = .slice none 0 0 ∧ c 16390 = .slice none 0 0 := by
  subst hg
  simp only [chk, Bool.and_eq_true] at hc
  obtain ⟨⟨⟨⟨h1, h2⟩, h3⟩, h4⟩, h5⟩ := hc
  refine ⟨_, ⟨hr, hgr, fun i hi => isU32_ex (all_part h1 (by omega) i hi), fun j a b => ?_, fun j a b => ?_⟩, isNilSl_eq (all_part h4 (by omega) 0 (by omega)), isNilSl_eq (all_part h5 (by omega) 0 (by omega))⟩
  · have := all_part h2 (by omega) (j - 16391) (by omega)
    rw [show 16391 + (j - 16391) = j by omega] at this
    exact isIntV_ex this
  · have := all_part h3 (by omega) (j - 16710) (by omega)
    rw [show 16710 + (j - 16710) = j by omega] at this
    exact isIntV_ex this

theorem Zs.put {w wx w' : World} {c : Nat → Value} (h : Zs w wx c) {o : Nat} {v : Value} (hr : w'.rowIs w.heap.size 47 20155 (upd c o v)) (hb : But w.heap.size wx w')
    (h1 : 5 ≤ o → o < 16389 → ∃ n : Int, v = .int .u32 n) (h2 : 16391 ≤ o → o < 16707 → ∃ k n, v = .int k n) (h3 : 16710 ≤ o → o < 20154 → ∃ k n, v = .int k n) : Zs w w' (upd c o v) := by
  refine ⟨hr, h.bel.trans hb.bel, fun i hi => ?_, fun j a b => ?_, fun j a b => ?_⟩
  · by_cases e : 5 + i = o
    · subst e; rw [upd_same]; exact h1 (by omega) (by omega)
    · rw [upd_other _ _ _ e]; exact h.hsh i hi
  · by_cases e : j = o
    · subst e; rw [upd_same]; exact h2 a b
    · rw [upd_other _ _ _ e]; exact h.int1 j a b
  · by_cases e : j = o
    · subst e; rw [upd_same]; exact h3 a b
    · rw [upd_other _ _ _ e]; exact h.int2 j a b
theorem Zs.gr {w wx w' : World} {c : Nat → Value} (h : Zs w wx c) (hg : Gr wx w') : Zs w w' c :=
  ⟨hg.row h.row, h.bel.trans (hg.mono h.bel.size), h.hsh, h.int1, h.int2⟩
theorem Zs.but {w wx w' : World} {c : Nat → Value} (h : Zs w wx c) {g : Nat} (hb : But g wx w') (hg : w.heap.size < g) : Zs w w' c :=
  ⟨hb.row h.row (by omega), h.bel.trans (hb.bel.mono (by omega)), h.hsh, h.int1, h.int2⟩

/-- WHAT IS TOLD OF A SLICE OF INTEGERS THAT CAME IN -/
def Row (k : IntKind) (w : World) (a : Option Addr) (len : Nat) (zs : List Int) : Prop :=
  (a = none → len = 0) ∧ ∀ x, a = some x → 0 < len → ∃ b off, x = ⟨b, off, none⟩ ∧ b < w.heap.size ∧ ∀ i, i < len → w.cell? ⟨b, off + i, none⟩ = some (.int k (zs.getD i 0))
/-- its elements -/
def ints (k : IntKind) (zs : List Int) (n : Nat) : List Value := seg (fun i => .int k (zs.getD i 0)) 0 n
theorem ints_len (k : IntKind) (zs : List Int) (n : Nat) : (ints k zs n).length = n := seg_length _ _ _
theorem ints_one (k : IntKind) (zs : List Int) (n : Nat) : ∀ v ∈ ints k zs n, v.oneCell' = true := fun v hv => by
  obtain ⟨i, _, rfl⟩ := seg_mem hv; rfl
theorem Row.src {k : IntKind} {w wx : World} {a : Option Addr} {len : Nat} {zs : List Int} (h : Row k w a len zs) (hb : Below w.heap.size w wx) : ∀ x, a = some x → ∀ j v, (ints k zs len)[j]? = some v → wx.cell? (x.add j) = some v := fun x hx j v hv => by
  obtain ⟨hj, rfl⟩ := seg_get_some hv
  obtain ⟨b, off, rfl, hlt, hc⟩ := h.2 x hx (by omega)
  rw [Go.Addr.add_mid, hb.cell (p := ⟨b, off + j, none⟩) hlt, Nat.zero_add]
  exact hc j hj
end Go.Proofs.Ybulkeass
