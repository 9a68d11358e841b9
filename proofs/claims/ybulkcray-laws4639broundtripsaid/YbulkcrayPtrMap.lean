/-
  A MAP KEYED BY POINTERS TO FIVE HOSTS (map[*Host]int32), AS PLAIN DATA: 'PM w M h f n': block M of w is a map of n entries; host i (i below 5) is block h + i; 'f i' is what the map holds at host i.
  No dump in sight.
-/
import Derived.Maps.OwnSet
import Derived.LaidEqlPtr
namespace Go.Proofs.Ybulkcray
open Go.ChangeMaps (setBlock heap_setBlock_same heap_setBlock_other)

def upd (f : Nat → Option Int) (k : Nat) (x : Option Int) (i : Nat) : Option Int := if i = k then x else f i

def kv (e : MapEntry) : Value × Value := (e.key, e.val)
def enc (h : Nat) (x : Nat × Int) : Value × Value := (.pointer (some ⟨h + x.1, 0, none⟩), .int .i32 x.2)

def HB (w : World) (h : Nat) : Prop := ∀ i, i < 5 → ∃ ca ta, w.heap[h + i]? = some (.cells ca ta (0, 0))

/-- the entries 'es' hold 'f i' at host i, n of them -/
def Ents (es : Array MapEntry) (h : Nat) (f : Nat → Option Int) (n : Nat) : Prop :=
  ∃ l : List (Nat × Int), es.toList.map kv = l.map (enc h) ∧ (l.map Prod.fst).Nodup ∧ (∀ x ∈ l, x.1 < 5) ∧ l.length = n ∧ ∀ i v, f i = some v ↔ (i, v) ∈ l

def PM (w : World) (M h : Nat) (f : Nat → Option Int) (n : Nat) : Prop :=
  HB w h ∧ ∃ es clock, w.heap[M]? = some (.map es clock) ∧ Ents es h f n

/-- where key a stands in the list -/
def pos (a : Nat) : List (Nat × Int) → Option (Nat × Int)
  | [] => none
  | x :: r => if a = x.1 then some (0, x.2) else (pos a r).map fun y => (y.1 + 1, y.2)

theorem pos_none {a : Nat} : ∀ {l : List (Nat × Int)}, pos a l = none → ∀ x ∈ l, x.1 ≠ a
  | [], _, x, hx => by simp at hx
  | y :: r, h, x, hx => by
    unfold pos at h
    split at h
    · cases h
    · rename_i hne
      rcases List.mem_cons.1 hx with rfl | hx
      · exact fun e => hne e.symm
      · exact pos_none (by simpa using h) x hx

theorem pos_some {a : Nat} : ∀ {l : List (Nat × Int)} {q : Nat} {v : Int}, pos a l = some (q, v) → l[q]? = some (a, v)
  | [], q, v, h => by simp [pos] at h
  | y :: r, q, v, h => by
    unfold pos at h
    split at h
    · rename_i e
      simp only [Option.some.injEq, Prod.mk.injEq] at h
      obtain ⟨rfl, rfl⟩ := h
      rw [e]
      rfl
    · simp only [Option.map_eq_some_iff, Prod.mk.injEq, Prod.exists] at h
      obtain ⟨q', v', h1, rfl, rfl⟩ := h
      simpa using pos_some h1

/-! ### finding a key -/
section
variable {P : Program} {K E : TypeId} {j : TypeInfo}

theorem equal_host (hk : P.underlying K = some (.pointer E)) (he : P.info? E = some j) (hs : j.size ≠ 0) {w : World} {h : Nat} (H : HB w h) {a b : Nat} (ha : a < 5) (hb : b < 5) :
    (Op.equal K (.pointer (some ⟨h + a, 0, none⟩)) (.pointer (some ⟨h + b, 0, none⟩))).run P w = .ok (decide (a = b)) w := by
  by_cases e : a = b
  · subst e
    have h1 : ∀ d : Nat, (Op.equalIn (d + 1) K (.pointer (some ⟨h + a, 0, none⟩)) (.pointer (some ⟨h + a, 0, none⟩))).run P w = .ok true w := fun d => by
      simp [Op.equalIn, run_underlying hk, sizeOf, typeInfo, he, run_sameAddr_same]
    simpa [Op.equal, Op.maxDepth] using h1 9999
  · obtain ⟨ca, ta, h1⟩ := H a ha
    obtain ⟨cb, tb, h2⟩ := H b hb
    have hne : (⟨h + a, 0, none⟩ : Addr) ≠ ⟨h + b, 0, none⟩ := by
      intro e'
      have := congrArg Addr.block e'
      simp at this
      omega
    have h3 : ∀ d : Nat, (Op.equalIn (d + 1) K (.pointer (some ⟨h + a, 0, none⟩)) (.pointer (some ⟨h + b, 0, none⟩))).run P w = .ok false w := fun d => by
      simp [Op.equalIn, run_underlying hk, sizeOf, typeInfo, he, hs, run_sameAddr_other w hne h1 h2]
    simpa [Op.equal, Op.maxDepth, e] using h3 9999

theorem findAsking_host (hk : P.underlying K = some (.pointer E)) (he : P.info? E = some j) (hs : j.size ≠ 0) {w : World} {h : Nat} (H : HB w h) {a : Nat} (ha : a < 5) :
    ∀ (es : List MapEntry) (l : List (Nat × Int)) (i : Nat), es.map kv = l.map (enc h) → (∀ x ∈ l, x.1 < 5) →
      (Instr.findAsking K (.pointer (some ⟨h + a, 0, none⟩)) es i).run P w = .ok ((pos a l).map fun y => (i + y.1, .int .i32 y.2)) w
  | [], [], i, _, _ => by simp [Instr.findAsking, pos]
  | [], y :: r, i, hm, _ => by simp at hm
  | y :: r, [], i, hm, _ => by simp at hm
  | y :: r, x :: l, i, hm, hl => by
    simp only [List.map_cons, List.cons.injEq] at hm
    obtain ⟨h1, h2⟩ := hm
    obtain ⟨b, v⟩ := x
    simp only [kv, enc, Prod.mk.injEq] at h1
    obtain ⟨e1, e2⟩ := h1
    have hb : b < 5 := hl (b, v) (by simp)
    have heq := equal_host hk he hs H ha hb
    by_cases e : a = b
    · subst e
      simp only [decide_true] at heq
      simp [Instr.findAsking, e1, heq, e2, pos]
    · simp only [e, decide_false] at heq
      have ih := findAsking_host hk he hs H ha r l (i + 1) h2 (fun x hx => hl x (by simp [hx]))
      have e3 : (Instr.findAsking K (.pointer (some ⟨h + a, 0, none⟩)) (y :: r) i).run P w = .ok ((pos a l).map fun y => (i + 1 + y.1, .int .i32 y.2)) w := by
        simp [Instr.findAsking, e1, heq, ih]
      have e4 : pos a ((b, v) :: l) = (pos a l).map fun y => (y.1 + 1, y.2) := by
        show (if a = b then _ else _) = _
        rw [if_neg e]
      rw [e3, e4]
      cases pos a l with
      | none => rfl
      | some y =>
        simp only [Option.map_some]
        rw [show i + 1 + y.1 = i + (y.1 + 1) by omega]

theorem findKey_host (hk : P.underlying K = some (.pointer E)) (he : P.info? E = some j) (hs : j.size ≠ 0) {w : World} {h : Nat} (H : HB w h) {a : Nat} (ha : a < 5)
    (es : List MapEntry) (l : List (Nat × Int)) (hm : es.map kv = l.map (enc h)) (hl : ∀ x ∈ l, x.1 < 5) :
      (Instr.findKey K (.pointer (some ⟨h + a, 0, none⟩)) es).run P w = .ok ((pos a l).map fun y => (y.1, .int .i32 y.2)) w := by
  cases es with
  | nil =>
    cases l with
    | nil => simp [Instr.findKey, run_underlying hk, Instr.findNow, pos]
    | cons y r => simp at hm
  | cons y r =>
    have hn : Instr.findNow (.pointer E) (.pointer (some ⟨h + a, 0, none⟩)) (y :: r) 0 = none := by simp [Instr.findNow, Instr.sameNow]
    have h3 := findAsking_host hk he hs H ha (y :: r) l 0 hm hl
    simp [Instr.findKey, run_underlying hk, hn, h3]

theorem checkKey_host (hk : P.underlying K = some (.pointer E)) (em : Bool) (w : World) (v : Option Addr) : (Instr.checkKey em 10000 K (.pointer v)).run P w = .ok () w := by
  have h3 : ∀ d : Nat, (Instr.checkKey em (d + 1) K (.pointer v)).run P w = .ok () w := fun d => by
    simp [Instr.checkKey, run_underlying hk]
  exact h3 9999
end

/-! ### lists -/
theorem nodup_val {l : List (Nat × Int)} (hn : (l.map Prod.fst).Nodup) {k : Nat} {v v' : Int} (h : (k, v) ∈ l) (h' : (k, v') ∈ l) : v = v' := by
  induction l with
  | nil => simp at h
  | cons x r ih =>
    simp only [List.map_cons, List.nodup_cons] at hn
    rcases List.mem_cons.1 h with e | h
    · rcases List.mem_cons.1 h' with e' | h'
      · rw [← e] at e'; simp at e'; exact e'.symm
      · exact absurd (List.mem_map.2 ⟨_, h', by rw [← e]⟩) hn.1
    · rcases List.mem_cons.1 h' with e' | h'
      · exact absurd (List.mem_map.2 ⟨_, h, by rw [← e']⟩) hn.1
      · exact ih hn.2 h h'

theorem mem_set_keys : ∀ {l : List (Nat × Int)} {q : Nat} {k : Nat} {v0 v : Int}, (l.map Prod.fst).Nodup → l[q]? = some (k, v0) → ∀ i u, (i, u) ∈ l.set q (k, v) ↔ (if i = k then v = u else (i, u) ∈ l)
  | [], q, k, v0, v, _, h, i, u => by simp at h
  | x :: r, 0, k, v0, v, hn, h, i, u => by
    simp only [List.map_cons, List.nodup_cons] at hn
    simp at h
    subst h
    simp only [List.set_cons_zero, List.mem_cons, Prod.mk.injEq]
    by_cases e : i = k
    · subst e
      simp only [true_and, if_true]
      constructor
      · rintro (h | h)
        · exact h.symm
        · exact absurd (List.mem_map.2 ⟨_, h, rfl⟩) hn.1
      · exact fun h => Or.inl h.symm
    · simp [e]
  | x :: r, q + 1, k, v0, v, hn, h, i, u => by
    simp only [List.map_cons, List.nodup_cons] at hn
    simp only [List.getElem?_cons_succ] at h
    have ih := mem_set_keys (v := v) hn.2 h i u
    have hx : x.1 ≠ k := fun e => hn.1 (List.mem_map.2 ⟨_, List.mem_of_getElem? h, e.symm⟩)
    simp only [List.set_cons_succ, List.mem_cons, ih]
    by_cases e : i = k
    · subst e
      simp only [if_true]
      constructor
      · rintro (h | h)
        · exact absurd (by rw [← h]) hx
        · exact h
      · exact Or.inr
    · simp [e]

theorem mem_erase_keys : ∀ {l : List (Nat × Int)} {q : Nat} {k : Nat} {v0 : Int}, (l.map Prod.fst).Nodup → l[q]? = some (k, v0) → ∀ i u, (i, u) ∈ l.eraseIdx q ↔ (i ≠ k ∧ (i, u) ∈ l)
  | [], q, k, v0, _, h, i, u => by simp at h
  | x :: r, 0, k, v0, hn, h, i, u => by
    simp only [List.map_cons, List.nodup_cons] at hn
    simp at h
    subst h
    simp only [List.eraseIdx_zero, List.tail_cons, List.mem_cons, Prod.mk.injEq]
    constructor
    · intro h
      exact ⟨fun e => hn.1 (List.mem_map.2 ⟨_, h, e⟩), Or.inr h⟩
    · rintro ⟨h1, h2 | h2⟩
      · exact absurd h2.1 h1
      · exact h2
  | x :: r, q + 1, k, v0, hn, h, i, u => by
    simp only [List.map_cons, List.nodup_cons] at hn
    simp only [List.getElem?_cons_succ] at h
    have ih := mem_erase_keys hn.2 h i u
    have hx : x.1 ≠ k := fun e => hn.1 (List.mem_map.2 ⟨_, List.mem_of_getElem? h, e.symm⟩)
    simp only [List.eraseIdx_cons_succ, List.mem_cons, ih]
    constructor
    · rintro (h | h)
      · exact ⟨fun e => hx (by rw [← h]; exact e), Or.inl h⟩
      · exact ⟨h.1, Or.inr h.2⟩
    · rintro ⟨h1, h2 | h2⟩
      · exact Or.inl h2
      · exact Or.inr ⟨h1, h2⟩

theorem set_keys (l : List (Nat × Int)) (q k : Nat) (v0 v : Int) (h : l[q]? = some (k, v0)) : (l.set q (k, v)).map Prod.fst = l.map Prod.fst := by
  rw [List.map_set]
  apply List.ext_getElem?
  intro i
  rw [List.getElem?_set]
  split
  · rename_i e
    subst e
    obtain ⟨hq, h'⟩ := List.getElem?_eq_some_iff.1 h
    simp [hq, h']
  · rfl

/-! ### the world -/
theorem HB.set {w : World} {M h : Nat} {es : Array MapEntry} {clock : Nat} (H : HB w h) (hb : w.heap[M]? = some (.map es clock)) (o : Obj) : HB (setBlock w M o) h := by
  intro i hi
  obtain ⟨ca, ta, h1⟩ := H i hi
  refine ⟨ca, ta, ?_⟩
  rw [heap_setBlock_other hb _ (fun e => by rw [e, hb] at h1; cases h1)]
  exact h1

section
variable {P : Program} {T K E V : TypeId} {j : TypeInfo}

theorem Ents.pos {es : Array MapEntry} {h n : Nat} {f : Nat → Option Int} {a : Nat} (E : Ents es h f n) : ∃ l : List (Nat × Int), es.toList.map kv = l.map (enc h) ∧ (l.map Prod.fst).Nodup ∧ (∀ x ∈ l, x.1 < 5) ∧ l.length = n ∧ (∀ i v, f i = some v ↔ (i, v) ∈ l) ∧
    ((pos a l = none ∧ f a = none ∧ ∀ x ∈ l, x.1 ≠ a) ∨ ∃ q v, pos a l = some (q, v) ∧ f a = some v ∧ l[q]? = some (a, v)) := by
  obtain ⟨l, hm, hn, hl, hlen, hf⟩ := E
  refine ⟨l, hm, hn, hl, hlen, hf, ?_⟩
  cases hp : Ybulkcray.pos a l with
  | none =>
    have h2 := pos_none hp
    refine Or.inl ⟨rfl, ?_, h2⟩
    cases hfa : f a with
    | none => rfl
    | some v => exact absurd rfl (h2 _ ((hf a v).1 hfa))
  | some x =>
    obtain ⟨q, v⟩ := x
    have h2 := pos_some hp
    exact Or.inr ⟨q, v, rfl, (hf a v).2 (List.mem_of_getElem? h2), h2⟩

/-- 'm[h]' and 'v, ok := m[h]' -/
theorem PM.look {w : World} {M h n : Nat} {f : Nat → Option Int} (p : PM w M h f n) (ht : P.underlying T = some (.map K V)) (hk : P.underlying K = some (.pointer E)) (he : P.info? E = some j) (hs : j.size ≠ 0)
    (hz : (zeroValue V).run P w = .ok (.int .i32 0) w) {a : Nat} (ha : a < 5) (c : Bool) :
    (Instr.lookup T (.map (some M)) (.pointer (some ⟨h + a, 0, none⟩)) c).run P w = .ok (if c then .tuple #[.int .i32 ((f a).getD 0), .bool (f a).isSome] else .int .i32 ((f a).getD 0)) w := by
  obtain ⟨H, es, clock, hb, E⟩ := p
  obtain ⟨l, hm, hn, hl, hlen, hf, hp⟩ := E.pos (a := a)
  have h1 := findKey_host hk he hs H ha es.toList l hm hl
  rcases hp with ⟨hp, hfa, h2⟩ | ⟨q, v, hp, hfa, h2⟩
  · rw [hp] at h1
    simp [Instr.lookup, run_underlying ht, MapKept.run_getObj_map hb, checkKey_host hk, h1, hz, hfa]
  · rw [hp] at h1
    simp [Instr.lookup, run_underlying ht, MapKept.run_getObj_map hb, checkKey_host hk, h1, hfa]

/-- 'm[h] = v' -/
theorem Ents.put {es : Array MapEntry} {h n : Nat} {f : Nat → Option Int} (X : Ents es h f n) (ht : P.underlying T = some (.map K V)) (hk : P.underlying K = some (.pointer E)) (he : P.info? E = some j) (hs : j.size ≠ 0)
    {a : Nat} (ha : a < 5) (v : Int) (clock : Nat) :
    ∃ es' clock', Ents es' h (upd f a (some v)) (if (f a).isSome then n else n + 1) ∧ ∀ (w : World) (M : Nat), HB w h → w.heap[M]? = some (.map es clock) →
      (Instr.mapUpdate T (.map (some M)) (.pointer (some ⟨h + a, 0, none⟩)) (.int .i32 v)).run P w = .ok () (setBlock w M (.map es' clock')) := by
  obtain ⟨l, hm, hn, hl, hlen, hf, hp⟩ := X.pos (a := a)
  rcases hp with ⟨hp, hfa, h2⟩ | ⟨q, v0, hp, hfa, h2⟩
  · refine ⟨es.push ⟨.pointer (some ⟨h + a, 0, none⟩), .int .i32 v, clock⟩, clock + 1, ⟨l ++ [(a, v)], ?_, ?_, ?_, ?_, ?_⟩, ?_⟩
    · simp [hm, kv, enc]
    · simp only [List.map_append, List.map_cons, List.map_nil]
      refine List.nodup_append.2 ⟨hn, by simp, ?_⟩
      intro x hx y hy e
      simp at hy
      subst hy
      subst e
      obtain ⟨z, hz, ez⟩ := List.mem_map.1 hx
      exact h2 z hz ez
    · intro x hx
      rcases List.mem_append.1 hx with hx | hx
      · exact hl x hx
      · simp at hx; subst hx; exact ha
    · simp [hfa, hlen]
    · intro i u
      simp only [upd, List.mem_append, List.mem_singleton, Prod.mk.injEq]
      by_cases e : i = a
      · subst e
        simp only [if_true, Option.some.injEq, true_and]
        constructor
        · exact fun h => Or.inr h.symm
        · rintro (h | h)
          · exact absurd rfl (h2 _ h)
          · exact h.symm
      · simp [e, hf]
    · intro w M H hb
      have h1 := findKey_host hk he hs H ha es.toList l hm hl
      rw [hp] at h1
      simp [Instr.mapUpdate, run_underlying ht, MapKept.run_getObj_map hb, checkKey_host hk, h1, MapKept.run_setObj_map _ hb, Result.andThen, setBlock]
  · have hq : q < l.length := (List.getElem?_eq_some_iff.1 h2).1
    have hkq : (es.toList.map kv)[q]? = some (.pointer (some ⟨h + a, 0, none⟩), .int .i32 v0) := by rw [hm, List.getElem?_map, h2]; rfl
    obtain ⟨e0, he0, ek⟩ : ∃ e0, es.toList[q]? = some e0 ∧ kv e0 = (.pointer (some ⟨h + a, 0, none⟩), .int .i32 v0) := by
      rw [List.getElem?_map] at hkq
      cases hc : es.toList[q]? with
      | none => rw [hc] at hkq; cases hkq
      | some e0 => rw [hc] at hkq; exact ⟨e0, rfl, by simpa using hkq⟩
    have hj : es[q]? = some e0 := by simpa using he0
    have hkey : e0.key = .pointer (some ⟨h + a, 0, none⟩) := congrArg Prod.fst ek
    refine ⟨es.modify q (fun e' => { e' with key := .pointer (some ⟨h + a, 0, none⟩), val := .int .i32 v }), clock, ⟨l.set q (a, v), ?_, ?_, ?_, ?_, ?_⟩, ?_⟩
    · rw [Array.toList_modify, ChangeMaps.modify_eq_set _ _ _ _ he0, List.map_set, hm, List.map_set]
      rfl
    · rw [set_keys l q a v0 v h2]; exact hn
    · intro x hx
      have := (mem_set_keys (v := v) hn h2 x.1 x.2).1 hx
      split at this
      · rename_i e; rw [e]; exact ha
      · exact hl _ this
    · simp [hfa, hlen]
    · intro i u
      rw [mem_set_keys hn h2]
      unfold upd
      split
      · simp
      · exact hf i u
    · intro w M H hb
      have h1 := findKey_host hk he hs H ha es.toList l hm hl
      rw [hp] at h1
      have hst : (Instr.keyThatStays (.pointer (some ⟨h + a, 0, none⟩)) (.pointer (some ⟨h + a, 0, none⟩))).run P w = .ok (.pointer (some ⟨h + a, 0, none⟩)) w := by
        simp [Instr.keyThatStays, Instr.sameBits]
      simp [Instr.mapUpdate, run_underlying ht, MapKept.run_getObj_map hb, checkKey_host hk, h1, hj, hkey, hst, MapKept.run_setObj_map _ hb, Result.andThen, setBlock]

theorem PM.put {w : World} {M h n : Nat} {f : Nat → Option Int} (p : PM w M h f n) (ht : P.underlying T = some (.map K V)) (hk : P.underlying K = some (.pointer E)) (he : P.info? E = some j) (hs : j.size ≠ 0)
    {a : Nat} (ha : a < 5) (v : Int) :
    ∃ es' clock', (Instr.mapUpdate T (.map (some M)) (.pointer (some ⟨h + a, 0, none⟩)) (.int .i32 v)).run P w = .ok () (setBlock w M (.map es' clock')) ∧ PM (setBlock w M (.map es' clock')) M h (upd f a (some v)) (if (f a).isSome then n else n + 1) := by
  obtain ⟨H, es, clock, hb, X⟩ := p
  obtain ⟨es', clock', X', hrun⟩ := X.put ht hk he hs ha v clock
  exact ⟨es', clock', hrun w M H hb, HB.set H hb _, _, _, heap_setBlock_same hb _, X'⟩

/-- 'delete(m, h)' -/
theorem PM.del {w : World} {M h n : Nat} {f : Nat → Option Int} (p : PM w M h f n) (ht : P.underlying T = some (.map K V)) (hk : P.underlying K = some (.pointer E)) (he : P.info? E = some j) (hs : j.size ≠ 0)
    {a : Nat} (ha : a < 5) (ty : TypeId) :
    ∃ es' clock', (Builtin.delete_ #[T, K] ty #[.map (some M), .pointer (some ⟨h + a, 0, none⟩)]).run P w = .ok (.tuple #[]) (setBlock w M (.map es' clock')) ∧ PM (setBlock w M (.map es' clock')) M h (upd f a none) (if (f a).isSome then n - 1 else n) := by
  obtain ⟨H, es, clock, hb, X⟩ := p
  obtain ⟨l, hm, hn, hl, hlen, hf, hp⟩ := X.pos (a := a)
  have h1 := findKey_host hk he hs H ha es.toList l hm hl
  rcases hp with ⟨hp, hfa, h2⟩ | ⟨q, v0, hp, hfa, h2⟩
  · rw [hp] at h1
    refine ⟨es, clock, ?_, HB.set H hb _, _, _, heap_setBlock_same hb _, l, hm, hn, hl, by simp [hfa, hlen], ?_⟩
    · simp [Builtin.delete_, run_underlying ht, MapKept.run_getObj_map hb, checkKey_host hk, h1, MapKept.run_setObj_map _ hb, Result.andThen, setBlock]
    · intro i u
      unfold upd
      by_cases e : i = a
      · subst e
        simp only [if_true]
        rw [← hf, hfa]
      · simp [e, hf]
  · rw [hp] at h1
    have hq : q < l.length := (List.getElem?_eq_some_iff.1 h2).1
    have hql : es.toList.length = l.length := by simpa using congrArg List.length hm
    have hqs : q < es.size := by
      have : es.toList.length = es.size := by simp
      omega
    refine ⟨es.eraseIdxIfInBounds q, clock, ?_, HB.set H hb _, _, _, heap_setBlock_same hb _, l.eraseIdx q, ?_, ?_, ?_, ?_, ?_⟩
    · simp [Builtin.delete_, run_underlying ht, MapKept.run_getObj_map hb, checkKey_host hk, h1, MapKept.run_setObj_map _ hb, Result.andThen, setBlock]
    · unfold Array.eraseIdxIfInBounds
      rw [dif_pos hqs, Array.toList_eraseIdx, ChangeMaps.map_eraseIdx, ChangeMaps.map_eraseIdx, hm]
    · rw [ChangeMaps.map_eraseIdx]
      exact (List.eraseIdx_sublist _ _).nodup hn
    · intro x hx
      exact hl x (List.mem_of_mem_eraseIdx hx)
    · rw [List.length_eraseIdx, if_pos hq]; simp [hfa, hlen]
    · intro i u
      rw [mem_erase_keys hn h2]
      unfold upd
      by_cases e : i = a
      · simp [e]
      · simp [e, hf]

/-- 'len(m)' -/
theorem PM.len {w : World} {M h n : Nat} {f : Nat → Option Int} (p : PM w M h f n) (ht : P.underlying T = some (.map K V)) (ty : TypeId) :
    (Builtin.len_ #[T] ty #[.map (some M)]).run P w = .ok (.int .i64 n) w := by
  obtain ⟨H, es, clock, hb, l, hm, hn, hl, hlen, hf⟩ := p
  have hql : es.toList.length = l.length := by simpa using congrArg List.length hm
  have : es.size = n := by rw [← hlen, ← hql]; simp
  simp [Builtin.len_, run_underlying ht, MapKept.run_getObj_map hb, this, goInt]

end
end Go.Proofs.Ybulkcray
