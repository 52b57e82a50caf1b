import Derived.Test.Qxb6627977aLeaf
import Derived.DeepKeys4
import Derived.Maps.RangeWalk
import Derived.Maps.OwnSet
import Derived.Maps.Ext
namespace Go.Proofs.Qxb6627977a
open Go.RowKit Go.Sort Go

theorem laidOut : laidOutB Try.prog = true := by kernel_rfl
theorem mapM_some {β : Type} {f : Nat → Option β} {g : Nat → β} : ∀ (l : List Nat), (∀ i ∈ l, f i = some (g i)) → l.mapM f = some (l.map g)
  | [], _ => rfl
  | a :: l, h => by
    rw [List.mapM_cons, h a (by simp), mapM_some l (fun i hi => h i (by simp [hi]))]
    rfl
def kl (k : Key) : List Lit := k.map fun b => .int .u8 b.toNat
theorem kl_bytes (k : Key) : keyBytes (kl k) = k := by
  induction k with
  | nil => rfl
  | cons b k ih =>
    have h : Lit.keyBytes (.int .u8 b.toNat) = [b] := by
      have hb := b.toNat_lt
      show bytesBE 1 _ = [b]
      have e : (((b.toNat : Nat) : Int) % 2 ^ IntKind.u8.bits).toNat = b.toNat := by
        have : (2 : Int) ^ IntKind.u8.bits = 256 := by decide
        rw [this]; omega
      rw [e]
      simp [bytesBE, bytesLE]
    show Lit.keyBytes (.int .u8 b.toNat) ++ keyBytes (kl k) = b :: k
    rw [h, ih]
    rfl
theorem byte_lits (d : Nat) (b : UInt8) : Try.prog.keyLits (d + 1) 5 [byteV b] = some [.int .u8 b.toNat] := by
  have hb := b.toNat_lt
  have hw : (Lit.int .u8 b.toNat).wf = true := by
    simp only [Lit.wf, Bool.and_eq_true, decide_eq_true_eq]
    have h1 : IntKind.u8.min = 0 := by decide
    have h2 : IntKind.u8.max = 255 := by decide
    constructor <;> omega
  simp only [Program.keyLits, Try.underlying5, byteV, hw, and_self, if_true]
theorem key_lits {t : TypeId} (ht : Try.prog.underlying t = some (.array 32 5)) (hc : Try.prog.cellsOf t = 32) (d : Nat) (k : Key) (hk : k.length = 32) : Try.prog.keyLits (d + 2) t (kc k) = some (kl k) := by
  have c5 : Try.prog.cellsOf 5 = 1 := by kernel_rfl
  have hl : (kc k).length = 32 := by simp [kc, hk]
  unfold Program.keyLits
  simp only [ht, hc, hl, if_true, c5, Nat.mul_one]
  rw [mapM_some (g := fun i => [Lit.int .u8 ((k[i]?.getD 0).toNat : Int)])]
  · simp only [Option.map_some, Option.some.injEq]
    rw [show (List.range 32).map (fun i => [Lit.int .u8 ((k[i]?.getD 0).toNat : Int)]) = (kl k).map (fun x => [x]) from ?_]
    · rw [← List.flatMap_def]; simp
    · apply List.ext_getElem
      · simp [kl, hk]
      · intro i h1 h2
        have hi : i < k.length := by simpa [kl] using h2
        simp [kl, hi]
  · intro i hi
    have hi' : i < 32 := by simpa using hi
    have e : List.take 1 (List.drop i (kc k)) = [byteV (k[i]'(by omega))] := by
      rw [List.drop_eq_getElem_cons (by omega)]
      simp [kc]
    rw [e, byte_lits]
    simp [hk, hi']
theorem key_of {t : TypeId} (ht : Try.prog.underlying t = some (.array 32 5)) (hc : Try.prog.cellsOf t = 32) (hkt : Try.prog.keyType t = true) (d : Nat) (hd : Try.prog.types.size = d + 1) (k : Key) (hk : k.length = 32) : keyOf Try.prog t (.agg (keyA k)) = some (.string k) := by
  unfold keyOf
  rw [ht]
  have hf : (Value.agg (keyA k)).formed Try.prog t = true := by simp [Value.formed, ht, hc, keyA_size, hk]
  simp only [hkt, hf, Bool.and_self, if_true, hd]
  have : (Value.agg (keyA k)).cells.toList = kc k := rfl
  rw [this, key_lits ht hc d k hk]
  simp [kl_bytes]
theorem keyOf36 (k : Key) (hk : k.length = 32) : keyOf Try.prog 36 (.agg (keyA k)) = some (.string k) := key_of Try.underlying36 (by kernel_rfl) (by kernel_rfl) (Try.prog.types.size - 1) (by kernel_rfl) k hk
theorem keyOf31 (k : Key) (hk : k.length = 32) : keyOf Try.prog 31 (.agg (keyA k)) = some (.string k) := key_of Try.underlying31 (by kernel_rfl) (by kernel_rfl) (Try.prog.types.size - 1) (by kernel_rfl) k hk
theorem law36 : Maps.Keyed Try.prog 36 := Maps.Keyed.of_law (deep_law_laid laidOut (m := 3) (by omega) (of_decide_eq_true (by kernel_rfl)) (by kernel_rfl) (by kernel_rfl))
theorem law31 : Maps.Keyed Try.prog 31 := Maps.Keyed.of_law (deep_law_laid laidOut (m := 3) (by omega) (of_decide_eq_true (by kernel_rfl)) (by kernel_rfl) (by kernel_rfl))
/-- 'a == b' of two keys -/
theorem run_keyEq (a b : Key) (ha : a.length = 32) (hb : b.length = 32) (W : World) : (Op.equalIn 10000 31 (.agg (keyA a)) (.agg (keyA b))).run Try.prog W = .ok (decide (a = b)) W := by
  obtain ⟨r, hr, hiff⟩ := run_equal_deep (P := Try.prog) W (m := 3) (by omega) (k := 31) (by kernel_rfl) (by kernel_rfl) (keyOf31 a ha) (keyOf31 b hb)
  have : r = decide (a = b) := by
    rw [Bool.eq_iff_iff, hiff]
    simp
  rw [← this]
  exact hr
end Go.Proofs.Qxb6627977a
