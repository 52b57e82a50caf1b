import Derived.Test.Qxb6627977aInv
import Derived.Maps.Ext
import Derived.Maps.RangeWalk
namespace Go.Proofs.Qxb6627977a
open Go.RowKit Go.Sort

/-- is the key on the list? -/
def inSet (cs : List Key) (kl : Lit) : Bool := cs.any fun k => (Lit.string k).sameKey kl
def bareE (p : Lit × DataW Value) : Lit × DataW Value := (p.1, .nil)
theorem bare_has (es : List (Lit × DataW Value)) (kl : Lit) : Maps.has (.map (es.map bareE)) kl = Maps.has (.map es) kl := by
  show (es.map bareE).any _ = es.any _
  rw [List.any_map]
  rfl
theorem bare_at (es : List (Lit × DataW Value)) (kl : Lit) (z : DataW Value) (h : Maps.has (.map (es.map bareE)) kl = true) : (DataW.map (es.map bareE)).atKey kl z = .nil := by
  obtain ⟨p, hp, hk⟩ := List.any_eq_true.1 h
  have hs : ((es.map bareE).find? (fun p => p.1.sameKey kl)).isSome = true := List.find?_isSome.2 ⟨p, hp, hk⟩
  obtain ⟨x, hx⟩ := Option.isSome_iff_exists.1 hs
  have hm := List.mem_of_find?_eq_some hx
  obtain ⟨y, _, rfl⟩ := List.mem_map.1 hm
  simp only [DataW.atKey, hx]
  rfl
/-- two readings with the same keys have the same number of entries -/
theorem size_of_has {D E : DataW Value} (c : Maps.Canon D) (d : Maps.Canon E) (h : ∀ kl, Maps.has D kl = Maps.has E kl) : Maps.size D = Maps.size E := by
  obtain ⟨es, rfl, s1, k1⟩ := c
  obtain ⟨fs, rfl, s2, k2⟩ := d
  have c1 : Maps.Canon (DataW.map (es.map bareE)) := ⟨_, rfl, List.pairwise_map.2 s1, fun p hp => by obtain ⟨q, hq, rfl⟩ := List.mem_map.1 hp; exact k1 q hq⟩
  have c2 : Maps.Canon (DataW.map (fs.map bareE)) := ⟨_, rfl, List.pairwise_map.2 s2, fun p hp => by obtain ⟨q, hq, rfl⟩ := List.mem_map.1 hp; exact k2 q hq⟩
  have hh : ∀ kl, Maps.has (.map (es.map bareE)) kl = Maps.has (.map (fs.map bareE)) kl := fun kl => by rw [bare_has, bare_has]; exact h kl
  have := Maps.ext c1 c2 hh (fun kl z hk => by rw [bare_at es kl z hk, bare_at fs kl z (by rw [← hh kl]; exact hk)])
  have e := congrArg Maps.size this
  simpa [Maps.size] using e
theorem size_none {D : DataW Value} (c : Maps.Canon D) (h : ∀ kl, Maps.has D kl = false) : Maps.size D = 0 := size_of_has c Maps.canon_empty h

theorem inSet_snoc (cs : List Key) (k : Key) (kl : Lit) : inSet (cs ++ [k]) kl = (inSet cs kl || (Lit.string k).sameKey kl) := by simp [inSet, List.any_append]
theorem sameKey_other {k : Key} {kl : Lit} (h : kl ≠ .string k) : (Lit.string k).sameKey kl = false := Maps.sameKey_ne (Ne.symm h)
theorem inSet_put {D : DataW Value} {cs : List Key} (hm : Maps.IsMap D) (h : ∀ kl, Maps.has D kl = inSet cs kl) (k : Key) (d : DataW Value) (kl : Lit) : Maps.has (D.put (.string k) d) kl = inSet (cs ++ [k]) kl := by
  rw [inSet_snoc]
  by_cases e : kl = .string k
  · subst e; rw [Maps.has_put_same hm (keyIs k), WideAt.sameKey_self (keyIs k), Bool.or_true]
  · rw [Maps.has_put_other e, h, sameKey_other e, Bool.or_false]
theorem inSet_mem {cs : List Key} {k : Key} : inSet cs (.string k) = true ↔ k ∈ cs := by
  simp only [inSet, List.any_eq_true]
  constructor
  · rintro ⟨x, hx, e⟩
    have := WideAt.sameKey_eq e
    cases this
    exact hx
  · exact fun h => ⟨k, h, WideAt.sameKey_self (keyIs k)⟩
end Go.Proofs.Qxb6627977a
