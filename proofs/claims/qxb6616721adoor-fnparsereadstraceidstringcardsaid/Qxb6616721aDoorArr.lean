/-
  Seat b6616721aD: '==' on arrays of bytes, a law of no program.
-/
import Derived.Test.Qxb6616721aDoorLower
namespace Go.Proofs.Qxb6616721aDoor
open Go.RowKit Go.Lib

theorem part_byte {P : Program} (w : World) (e : TypeId) (l : List UInt8) (i : Nat) (h : i < l.length) (ha : ∀ w, (isAgg e).run P w = .ok false w) :
    (part e (Lib.byteCells l).toArray (i * 1)).run P w = .ok (.int .u8 ((l[i]'h).toNat : Int)) w := by
  have : (Lib.byteCells l).toArray[i * 1]? = some (.int .u8 ((l[i]'h).toNat : Int)) := by simp [Lib.byteCells, h]
  simp only [part, Sem.run_bind, ha, Result.andThen_ok, Bool.false_eq_true, if_false, this, Sem.run_pure]

theorem loop_bytes {P : Program} (d : Nat) (e : TypeId) (he : P.underlying e = some (.int .u8)) (ha : ∀ w, (isAgg e).run P w = .ok false w) (xs ys : List UInt8) (hxy : xs.length = ys.length) :
    ∀ (n k : Nat) (w : World), k + n = xs.length →
    (forIn (List.range' k n) ((none : Option Bool), ()) fun i _ => do
            let a ← part e (Lib.byteCells xs).toArray (i * 1)
            let b ← part e (Lib.byteCells ys).toArray (i * 1)
            let r ← Op.equalIn (d + 1) e a b
            if (!r) = true then pure (ForInStep.done (some false, ())) else pure (ForInStep.yield (none, ()))).run P w
      = .ok (if xs.drop k = ys.drop k then none else some false, ()) w
  | 0, k, w, h => by
    have e1 : xs.drop k = [] := List.drop_eq_nil_of_le (by omega)
    have e2 : ys.drop k = [] := List.drop_eq_nil_of_le (by omega)
    rw [e1, e2]
    rfl
  | n + 1, k, w, h => by
    have hk : k < xs.length := by omega
    have hk' : k < ys.length := by omega
    rw [List.range'_succ, List.forIn_cons]
    simp only [Sem.run_bind, part_byte w e xs k hk ha, part_byte w e ys k hk' ha, Result.andThen_ok, run_equalIn_int w d e .u8 .u8 _ _ he]
    have hdr : (xs.drop k = ys.drop k) = (xs[k] = ys[k] ∧ xs.drop (k + 1) = ys.drop (k + 1)) := by
      rw [List.drop_eq_getElem_cons hk, List.drop_eq_getElem_cons hk', List.cons.injEq]
    simp only [hdr]
    by_cases hq : xs[k] = ys[k]
    · simp only [hq, beq_self_eq_true, Bool.not_true, Bool.false_eq_true, if_false, Sem.run_pure, Result.andThen_ok]
      rw [loop_bytes d e he ha xs ys hxy n (k + 1) w (by omega)]
      simp only [true_and]
    · have hne : (((xs[k]).toNat : Int) == ((ys[k]).toNat : Int)) = false := by
        rw [beq_eq_false_iff_ne]
        intro h
        exact hq (UInt8.toNat_inj.1 (by omega))
      simp only [hne, Bool.not_false, if_true, Sem.run_pure, Result.andThen_ok]
      simp only [hq, false_and, if_false]

theorem run_equalIn_bytes {P : Program} (w : World) (d : Nat) (t e : TypeId) (len : Nat) (ht : P.underlying t = some (.array len e)) (he : P.underlying e = some (.int .u8))
    (ha : ∀ w, (isAgg e).run P w = .ok false w) (hz : ∀ w, (sizeOf e).run P w = .ok 1 w) (xs ys : List UInt8) (hx : xs.length = len) (hy : ys.length = len) :
    (Op.equalIn (d + 2) t (.agg (Lib.byteCells xs).toArray) (.agg (Lib.byteCells ys).toArray)).run P w = .ok (xs == ys) w := by
  rw [Op.equalIn]
  simp only [Sem.run_bind, run_underlying ht, Result.andThen_ok, hz]
  simp only [Std.Legacy.Range.forIn_eq_forIn_range', Std.Legacy.Range.size, Nat.sub_zero, Nat.add_one_sub_one, Nat.div_one]
  rw [loop_bytes d e he ha xs ys (by omega) len 0 w (by omega)]
  simp only [List.drop_zero, Result.andThen_ok]
  by_cases h : xs = ys
  · simp [h]
  · simp [h]
end Go.Proofs.Qxb6616721aDoor
