import Derived.Test.Qxb6627977aBld
import Derived.ProofKit
import Derived.OpenShut
import Derived.ShutString
import Derived.ChangeOld
import Derived.Deep.Slices
import Derived.Lib.SmallJoins
namespace Go.Proofs.Qxb6627977a
open Go.RowKit Go.ChangeShapes Go.WideShapes Go.ChangeAt Go.Deep Go.Joins

theorem own : ownKnob Try.prog.godebug = none := by kernel_rfl
theorem cells5 : Try.prog.cellsOf 5 = 1 := by kernel_rfl
theorem cells31' : Try.prog.cellsOf 31 = 32 := by kernel_rfl
theorem cells32 : Try.prog.cellsOf 32 = 1 := by kernel_rfl
theorem cells39 : Try.prog.cellsOf 39 = 35 := by kernel_rfl
section
variable {H : Type} {enc : TypeId × Value → H} {W : World}

theorem open_key {fuel : Nat} {cs : List Value} {x : DataW H × List MemPlace} (h : DataW.trod enc Try.prog W 0 (fun _ => true) true fuel 31 cs = some x) : ∃ k : Key, k.length = 32 ∧ cs = kc k := by
  obtain ⟨xs, m, _, _, hl, hxl, hel⟩ := DataW.trod_array Try.underlying31 h
  rw [cells31'] at hl
  rw [cells5] at hel
  have hb : ∀ i, i < 32 → ∃ b : UInt8, cs[i]? = some (byteV b) := fun i hi => by
    have h1 := hel i hi
    rw [List.getElem?_eq_getElem (by omega)] at h1
    obtain ⟨n, e, _, hw⟩ := DataW.trod_int Try.underlying5 h1
    simp only [Lit.wf, Bool.and_eq_true, decide_eq_true_eq] at hw
    have h0 : 0 ≤ n := hw.1
    have h2 : n ≤ 255 := hw.2
    refine ⟨UInt8.ofNat n.toNat, ?_⟩
    have e2 : (List.take 1 (List.drop (i * 1) cs))[0]? = some (.int .u8 n) := by rw [e]; rfl
    rw [List.getElem?_take, if_pos (by omega), List.getElem?_drop, Nat.mul_one, Nat.add_zero] at e2
    rw [e2]
    unfold byteV
    rw [UInt8.toNat_ofNat']
    congr 2
    omega
  obtain ⟨f, hf⟩ := choose_lt hb
  refine ⟨(List.range 32).map f, by simp, ?_⟩
  apply List.ext_getElem?
  intro i
  by_cases hi : i < 32
  · rw [hf i hi]; simp [kc, hi]
  · rw [List.getElem?_eq_none (by omega), List.getElem?_eq_none (by simp [kc]; omega)]
theorem take1 {cs : List Value} {i : Nat} {v : Value} (h : List.take 1 (List.drop i cs) = [v]) : cs[i]? = some v := by
  have e2 : (List.take 1 (List.drop i cs))[0]? = some v := by rw [h]; rfl
  rwa [List.getElem?_take, if_pos (by omega), List.getElem?_drop, Nat.add_zero] at e2
theorem open_rec {fuel : Nat} {cs : List Value} {x : DataW H × List MemPlace} (h : DataW.trod enc Try.prog W 0 (fun _ => true) true fuel 39 cs = some x) : ∃ r : AR, r.1.length = 32 ∧ cs = rc r := by
  obtain ⟨y0, y1, y2, y3, n, _, hl, h0, h1, h2, h3⟩ := trod_struct4 Try.underlying39 h
  rw [cells39] at hl
  simp only at h0 h1 h2 h3
  rw [cells31'] at h0
  rw [cells32] at h1 h2 h3
  obtain ⟨k, hk, e0⟩ := open_key h0
  obtain ⟨a1, e1, _, _⟩ := DataW.trod_int Try.underlying32 h1
  obtain ⟨a2, e2, _, _⟩ := DataW.trod_int Try.underlying32 h2
  obtain ⟨a3, e3, _, _⟩ := DataW.trod_int Try.underlying32 h3
  refine ⟨(k, a1, a2, a3), hk, ?_⟩
  have e1' := take1 e1
  have e2' := take1 e2
  have e3' := take1 e3
  simp only [List.drop_zero] at e0
  have hcs : cs = List.take 32 cs ++ List.drop 32 cs := (List.take_append_drop 32 cs).symm
  have hd : List.drop 32 cs = acc (a1, a2, a3) := by
    apply List.ext_getElem?
    intro i
    rw [List.getElem?_drop]
    match i with
    | 0 => exact e1'
    | 1 => exact e2'
    | 2 => exact e3'
    | (j + 3) => rw [List.getElem?_eq_none (by omega), List.getElem?_eq_none (by simp [acc])]
  rw [hcs, e0, hd]
  rfl
theorem open_row {α : Type} [Inhabited α] {n : Nat} {cells : α → List Value} {ok : α → Prop} (hlen : ∀ x, ok x → (cells x).length = n) (hn : 0 < n) {ad : Addr} {len : Nat}
    (hel : ∀ i, i < len → ∃ cs', W.cells? 0 (ad.add (i * n)) n = some cs' ∧ ∃ x, ok x ∧ cs' = cells x) (h0 : 0 < len) :
    ∃ (g o : Nat) (l : List α), ad = ⟨g, o, none⟩ ∧ l.length = len ∧ g < W.heap.size ∧ (∀ x ∈ l, ok x) ∧ ∀ i (h : i < l.length), W.rangeAt g (o + i * n) (cells (l[i]'h)) := by
  have hall : ∀ i, i < len → ∃ x, ok x ∧ ∀ j, j < n → W.cell? ((ad.add (i * n)).add j) = (cells x)[j]? := fun i hi => by
    obtain ⟨cs', hc, x, hx, rfl⟩ := hel i hi
    exact ⟨x, hx, (World.cells?_some hc).2.2⟩
  obtain ⟨f, hf⟩ := choose_lt hall
  obtain ⟨b, off, spot⟩ := ad
  have hc0 := (hf 0 h0).2 0 hn
  rw [List.getElem?_eq_getElem (by rw [hlen _ (hf 0 h0).1]; exact hn)] at hc0
  have hspot : spot = none := by
    have := World.cell?_spot hc0
    simpa [Addr.add] using this
  subst hspot
  have e : ∀ i j, ((⟨b, off, none⟩ : Addr).add (i * n)).add j = ⟨b, off + i * n + j, none⟩ := fun i j => by rw [add_plain, add_plain]
  rw [e] at hc0
  refine ⟨b, off, (List.range len).map f, rfl, by simp, World.block_lt_of_cell? W _ hc0, fun z hz => ?_, fun i hi => ?_⟩
  · simp at hz
    obtain ⟨i, hi, rfl⟩ := hz
    exact (hf i hi).1
  · have hi' : i < len := by simpa using hi
    have hget : ((List.range len).map f)[i] = f i := by simp
    rw [hget]
    intro j v hv
    have hj : j < n := by rw [← hlen _ (hf i hi').1]; exact (List.getElem?_eq_some_iff.1 hv).1
    rw [← e, (hf i hi').2 j hj, hv]
theorem open_recs {fuel : Nat} {a : Option Addr} {len cap : Nat} {x : DataW H × List MemPlace} (h : DataW.trod enc Try.prog W 0 (fun _ => true) true fuel 22 [.slice a len cap] = some x) :
    ∃ l : List AR, len = l.length ∧ len ≤ maxLen ∧ KOk l ∧ SlA W a l := by
  rcases open_slice Try.underlying22 h with ⟨hcs, _⟩ | ⟨ad, len', cap', m, n, D, Pl, hcs, _, hl, hm, hmm, _, hel⟩
  · simp at hcs
    obtain ⟨rfl, rfl, rfl⟩ := hcs
    exact ⟨[], rfl, Nat.zero_le _, fun _ h => absurd h (by simp), fun h => absurd h (Nat.lt_irrefl _)⟩
  simp at hcs
  obtain ⟨rfl, rfl, rfl⟩ := hcs
  by_cases h0 : len = 0
  · subst h0
    exact ⟨[], rfl, Nat.zero_le _, fun _ h => absurd h (by simp), fun h => absurd h (Nat.lt_irrefl _)⟩
  simp only [if_true] at hmm
  subst hmm
  rw [cells39] at hel
  obtain ⟨g, o, l, rfl, hll, hg, hok, hr⟩ := open_row (W := W) (n := 35) (cells := rc) (ok := fun x => x.1.length = 32) (ad := ad) (len := len) (fun x hx => rc_length hx) (by omega) (fun i hi => by
    obtain ⟨cs', hc, ht⟩ := hel i (by omega)
    obtain ⟨r, hr, e⟩ := open_rec ht
    exact ⟨cs', hc, r, hr, e⟩) (by omega)
  exact ⟨l, hll.symm, by omega, hok, fun _ => ⟨g, o, rfl, hg, hr⟩⟩
theorem open_keys {fuel : Nat} {a : Option Addr} {len cap : Nat} {x : DataW H × List MemPlace} (h : DataW.trod enc Try.prog W 0 (fun _ => true) true fuel 23 [.slice a len cap] = some x) :
    ∃ l : List Key, len = l.length ∧ len ≤ maxLen ∧ KsOk l ∧ SlK W a l := by
  rcases open_slice Try.underlying23 h with ⟨hcs, _⟩ | ⟨ad, len', cap', m, n, D, Pl, hcs, _, hl, hm, hmm, _, hel⟩
  · simp at hcs
    obtain ⟨rfl, rfl, rfl⟩ := hcs
    exact ⟨[], rfl, Nat.zero_le _, fun _ h => absurd h (by simp), fun h => absurd h (Nat.lt_irrefl _)⟩
  simp at hcs
  obtain ⟨rfl, rfl, rfl⟩ := hcs
  by_cases h0 : len = 0
  · subst h0
    exact ⟨[], rfl, Nat.zero_le _, fun _ h => absurd h (by simp), fun h => absurd h (Nat.lt_irrefl _)⟩
  simp only [if_true] at hmm
  subst hmm
  rw [cells31'] at hel
  obtain ⟨g, o, l, rfl, hll, hg, hok, hr⟩ := open_row (W := W) (n := 32) (cells := kc) (ok := fun x => x.length = 32) (ad := ad) (len := len) (fun x hx => by rw [kc_length, hx]) (by omega) (fun i hi => by
    obtain ⟨cs', hc, ht⟩ := hel i (by omega)
    obtain ⟨r, hr, e⟩ := open_key ht
    exact ⟨cs', hc, r, hr, e⟩) (by omega)
  exact ⟨l, hll.symm, by omega, hok, fun _ => ⟨g, o, rfl, hg, hr⟩⟩
end
end Go.Proofs.Qxb6627977a
