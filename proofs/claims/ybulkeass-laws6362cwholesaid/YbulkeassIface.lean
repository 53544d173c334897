/-
  An interface value that holds a pointer is equal to itself.
-/
import Derived.Test.YbulkeassNav
import Derived.LaidEql
import Derived.BigQuiet
namespace Go.Proofs.Ybulkeass
theorem neqIface (g : Nat) (w : World) : (binOp .neq 28 (.iface 49 (.pointer (some ⟨g, 0, none⟩))) (.iface 49 (.pointer (some ⟨g, 0, none⟩)))).run Yba.prog w = .ok (.bool false) w := by
  obtain ⟨j, hj, hc⟩ := Option.map_eq_some_iff.1 (show (Yba.prog.info? 49).map (·.comparable) = some true by kernel_rfl)
  obtain ⟨k, hk, hs⟩ := Option.map_eq_some_iff.1 (show (Yba.prog.info? 51).map (·.size) = some 2 by kernel_rfl)
  have h1 : ∀ d : Nat, (Op.equalIn (d + 1) 49 (.pointer (some ⟨g, 0, none⟩)) (.pointer (some ⟨g, 0, none⟩))).run Yba.prog w = .ok true w := fun d => by
    simp [Op.equalIn, run_underlying Yba.underlying49, sizeOf, typeInfo, hk, run_sameAddr_same]
  have h2 : ∀ d : Nat, (Op.equalIn (d + 2) 28 (.iface 49 (.pointer (some ⟨g, 0, none⟩))) (.iface 49 (.pointer (some ⟨g, 0, none⟩)))).run Yba.prog w = .ok true w := fun d => by
    rw [show d + 2 = (d + 1) + 1 from rfl, Op.equalIn]
    simp [run_underlying Yba.underlying28, typeInfo, hj, hc, h1 d]
  simp only [binOp]
  simp [Op.equal, Op.maxDepth, h2 9998]

theorem S40.gr {w wq wx : World} {off : Int} {il : Nat} {ia : Option Addr} {ic : Nat} {ta : Option Addr} {len8 tc len9 : Nat} {z8 : List Int} {N gw s1 s2 s3 s4 s5 s6 s7 gh : Nat} {c9 c' f : Nat → Value} {gi ic' : Nat} {ta' : Option Addr} {tl' tc' g' oc' : Nat}
    (S : S40 w wq off il ia ic ta len8 tc len9 z8 N gw s1 s2 s3 s4 s5 s6 s7 gh c9 c' f gi ic' ta' tl' tc' g' oc') (h : Gr wq wx) : S40 w wx off il ia ic ta len8 tc len9 z8 N gw s1 s2 s3 s4 s5 s6 s7 gh c9 c' f gi ic' ta' tl' tc' g' oc' :=
  { S with
    row := h.row S.row
    bel := S.bel.trans (h.mono S.bel.size)
    outr := h.row S.outr
    r1 := h.row S.r1
    r2 := h.row S.r2
    r3 := h.row S.r3
    r4 := h.row S.r4
    r5 := h.row S.r5
    r6 := h.row S.r6
    r7 := h.row S.r7
    rw51 := by obtain ⟨fw, a, b, c⟩ := S.rw51; exact ⟨fw, h.row a, b, c⟩
    rh := h.row S.rh
    tok := S.tok.keep (Nat.le_refl _) (fun g _ _ h2 => h.block g h2) }

/-- A WHOLE ARRAY OR STRUCT OUT OF AN OWN ROW, in a region that draws its order and only reads -/
theorem wpQuiet_load_row {P : Program} {ops : Array Oper} {Q : Act → Prop} {rest : List Oper} {dst : Option Nat} {x : Operand} {tp : TypeId} {pos : String} {after : Array Edge} {gd : Option (Nat × Bool)} {a : Act} {w : World} (ty : TypeId)
    {b n : Nat} {t : TypeId} {c : Nat → Value} (o m : Nat) {d : TypeDesc} (hZ : w.rowIs b t n c) (hm : o + m ≤ n)
    (hu : P.underlying ty = some d) (hd : d.isRow = true) (hi : (P.info? ty).map (·.size) = some m)
    (hw : Region.wanted { dst := dst, op := .load ty x, type := tp, pos := pos, after := after, guard := gd } (yielded ops a.tmps) = true)
    (hx : a.eval x = .pointer (some ⟨b, o, none⟩))
    (h : wpQuiet P ops (fun w' => ∃ n, w' = w.drewN n) Q rest (a.put dst (.agg (seg c o m).toArray))) : wpQuiet P ops (fun w' => ∃ n, w' = w.drewN n) Q ({ dst := dst, op := .load ty x, type := tp, pos := pos, after := after, guard := gd } :: rest) a := by
  refine BigFrame.wpQuiet_want hw fun K hK => ⟨.agg (seg c o m).toArray, ?_, hK _ h⟩
  rintro _ ⟨k, rfl⟩
  have hr : (w.drewN k).rowIs b t n c := hZ
  have hl := run_loadVar_mid (P := P) (w.drewN k) b o ty (seg c o m) d (range_row hr hm) hu hd (by rw [seg_length]; exact hi)
  unfold Oper.quietAt execOp
  simp only [hx, Instr.loadAt, Instr.sureAddr, Sem.run_bind, Sem.run_pure, Result.andThen_ok, hl]
  exact ⟨rfl, rfl⟩
end Go.Proofs.Ybulkeass
