/-
  The map of a segment's descriptors: a map of slices of ints that the call makes; what it holds, said plainly: to each type the list of its places.
-/
import Derived.Test.Qxb6608607aBytes
import Derived.Maps.GroupsBeside
namespace Go.Proofs.Qxb6608607a
open Go.RowKit Go.Maps Go.ChangeShapes
open Go.WideElems (Fit)

theorem law : Keyed Try.prog 26 := int_keyed Try.underlying26
theorem zeroE (w : World) : (zeroValue 42).run Try.prog w = .ok (.slice none 0 0) w := by kernel_rfl

/-- The datum D, said plainly: to type t the list 'G t' (the empty list: no entry); c entries. -/
def MapIs (D : DataW Unit) (G : Int → List Int) (c : Nat) : Prop :=
  Tidy D ∧ Maps.size D = c ∧ ∀ t, (Lit.int .u32 t).wf = true → (G t = [] → Maps.has D (.int .u32 t) = false) ∧ (G t ≠ [] → Maps.has D (.int .u32 t) = true ∧ D.atKey (.int .u32 t) .nil = .slice (lits .i64 (G t)) [])

theorem mapIs_empty : MapIs (.map []) (fun _ => []) 0 := ⟨tidy_empty, rfl, fun _ _ => ⟨fun _ => rfl, fun h => absurd rfl h⟩⟩

/-- The plain map behind one place more. -/
def addG (G : Int → List Int) (typ x : Int) : Int → List Int := fun t => if t = typ then G typ ++ [x] else G t
def addC (G : Int → List Int) (typ : Int) (c : Nat) : Nat := if G typ = [] then c + 1 else c

theorem MapIs.put {D : DataW Unit} {G : Int → List Int} {c : Nat} (h : MapIs D G c) {typ : Int} (hw : (Lit.int .u32 typ).wf = true) (x : Int) :
    MapIs (D.put (.int .u32 typ) (.slice (lits .i64 (G typ ++ [x])) [])) (addG G typ x) (addC G typ c) := by
  obtain ⟨ht, hs, hg⟩ := h
  have hk : WideAt.IsKeyLit (.int .u32 typ) := trivial
  refine ⟨ht.put hk _, ?_, fun t hwt => ?_⟩
  · rw [size_put ht, hs]
    by_cases e : G typ = []
    · rw [(hg typ hw).1 e]; simp [addC, e]
    · rw [((hg typ hw).2 e).1]; simp [addC, e]
  · by_cases e : t = typ
    · subst e
      refine ⟨fun h0 => by simp [addG] at h0, fun _ => ⟨has_put_same ht.isMap hk _, ?_⟩⟩
      rw [atKey_put_same ht.isMap hk]; simp [addG]
    · have hne : (Lit.int .u32 t) ≠ (Lit.int .u32 typ) := fun q => e (by cases q; rfl)
      have eg : addG G typ x t = G t := by simp [addG, e]
      rw [eg, has_put_other hne, atKey_put_other hne]
      exact hg t hwt

theorem findNow_int (typ : Int) : ∀ (es : List MapEntry) (i : Nat), (∀ e ∈ es, ∃ a, e.key = .int .u32 a) → ∃ r, Instr.findNow (.int .u32) (.int .u32 typ) es i = some r
  | [], _, _ => ⟨none, rfl⟩
  | e :: es, i, h => by
    obtain ⟨a, ha⟩ := h e (by simp)
    obtain ⟨r, hr⟩ := findNow_int typ es (i + 1) (fun e' he' => h e' (by simp [he']))
    unfold Instr.findNow
    rw [ha]
    by_cases hq : (typ == a) = true
    · exact ⟨some (i, e.val), by simp [Instr.sameNow, hq]⟩
    · exact ⟨r, by simp [Instr.sameNow, hq, hr]⟩

theorem key_int {v : Value} {l : Lit} (h : keyOf Try.prog 26 v = some l) : ∃ a, v = .int .u32 a := by
  have hk := Try.underlying26
  cases v <;> simp [keyOf, mapKey, hk] at h
  obtain ⟨⟨rfl, _⟩, _⟩ := h
  exact ⟨_, rfl⟩

/-- The look-up asks of the world nothing but the map's own block. -/
theorem look_world {w : World} {b : Nat} {es : Array MapEntry} {clock : Nat} (hb : w.heap[b]? = some (.map es clock)) (hes : ∀ e ∈ es.toList, ∃ l, keyOf Try.prog 26 e.key = some l) (typ : Int) (hw : (Lit.int .u32 typ).wf = true) :
    ∃ u, ∀ W : World, W.heap[b]? = w.heap[b]? → (Instr.lookup 38 (.map (some b)) (.int .u32 typ) false).run Try.prog W = .ok u W := by
  obtain ⟨r, hr⟩ := findNow_int typ es.toList 0 (fun e he => (hes e he).elim fun l hl => key_int hl)
  have hkey : keyOf Try.prog 26 (.int .u32 typ) = some (.int .u32 typ) := keyOf_int_mk Try.underlying26 hw
  refine ⟨match r with | some (_, v) => v | none => .slice none 0 0, fun W hW => ?_⟩
  rw [hb] at hW
  have hf : (Instr.findKey 26 (.int .u32 typ) es.toList).run Try.prog W = .ok r W := by
    simp [Instr.findKey, run_underlying Try.underlying26, hr]
  cases r with
  | none => simp [Instr.lookup, run_underlying Try.underlying38, MapKept.run_getObj_map hW, law.check W _ hkey, hf, zeroE W, Result.andThen]
  | some p => simp [Instr.lookup, run_underlying Try.underlying38, MapKept.run_getObj_map hW, law.check W _ hkey, hf, Result.andThen]

/-- 'len' of the map. -/
theorem len_world {w : World} {base b n : Nat} {D : DataW Unit} {G : Int → List Int} {c : Nat} (h : w.ownsGroups Try.prog 26 base 3 .i64 b n D) (hm : MapIs D G c) (ty : TypeId) :
    ∀ W : World, W.heap[b]? = w.heap[b]? → (Builtin.len_ #[38] ty #[.map (some b)]).run Try.prog W = .ok (.int .i64 c) W := by
  obtain ⟨es, clock, hb, F, hs, rfl, hbb, hlen, hap⟩ := h
  intro W hW
  rw [hb] at hW
  have hc : es.size = c := by
    rw [← hm.2.1, size_eq, length_sorted]; simp
  simp [Builtin.len_, run_underlying Try.underlying38, MapKept.run_getObj_map hW, goInt, Result.andThen, hc]

/-- The slice at a type: its numbers; the look-up in whatever world has the map's block so; the way back; what the groups shun. -/
theorem groups_look {w : World} {base b n : Nat} {D : DataW Unit} {G : Int → List Int} {c : Nat} (h : w.ownsGroups Try.prog 26 base 3 .i64 b n D) (hm : MapIs D G c) (hn : n < 1000000) (typ : Int) (hw : (Lit.int .u32 typ).wf = true) :
    ∃ u, (∀ W : World, W.heap[b]? = w.heap[b]? → (Instr.lookup 38 (.map (some b)) (.int .u32 typ) false).run Try.prog W = .ok u W) ∧ w.ownsInts base 3 .i64 u (G typ) ∧ (G typ).length ≤ n ∧
      w.groupBack Try.prog 38 26 base 3 .i64 b n D (.int .u32 typ) (.int .u32 typ) u ∧ ∀ No : Nat → Prop, w.Shuns b No → ∀ g, u.ownBlock = some g → ¬ No g := by
  have hkey : keyOf Try.prog 26 (.int .u32 typ) = some (.int .u32 typ) := keyOf_int_mk Try.underlying26 hw
  have hn' : n < maxLen := by unfold maxLen; omega
  obtain ⟨u, zs, hrun, hat, hoi, hzl, hback⟩ := h.at law Try.underlying38 (zeroE w) hn' hkey
  have hlook : ∀ W : World, W.heap[b]? = w.heap[b]? → (Instr.lookup 38 (.map (some b)) (.int .u32 typ) false).run Try.prog W = .ok u W := by
    obtain ⟨es, clock, hb, F, _⟩ := h
    obtain ⟨u', hu'⟩ := look_world hb F.keys typ hw
    have h0 := hu' w rfl
    rw [hrun] at h0
    obtain rfl : u = u' := by simpa using h0
    exact hu'
  have hzs : zs = G typ := by
    by_cases e : G typ = []
    · have hno := (hm.2.2 typ hw).1 e
      rw [atKey_of_not_has hno] at hat
      rcases hoi.datum (H := Unit) with ⟨_, h0⟩ | h1
      · rw [h0, e]
      · rw [h1] at hat; cases hat
    · have hyes := ((hm.2.2 typ hw).2 e).2
      rw [hyes] at hat
      rcases hoi.datum (H := Unit) with ⟨h0, _⟩ | h1
      · rw [h0] at hat; cases hat
      · rw [h1] at hat
        simp only [DataW.slice.injEq, and_true] at hat
        have : (lits (H := Unit) .i64 (G typ)) = lits .i64 zs := hat
        exact ((List.map_inj_right (fun a b hab => by cases hab; rfl)).1 this).symm
  subst hzs
  refine ⟨u, hlook, hoi, hzl, hback, ?_⟩
  obtain ⟨es, clock, hb, F, _⟩ := h
  rcases Maps.fit_look false law Try.underlying38 (zeroE w) hb F hkey with ⟨hrun', _, _⟩ | ⟨e0, y, hm0, _, hrun', _, _, _⟩
  · rw [hrun] at hrun'
    obtain rfl : u = .slice none 0 0 := by simpa using hrun'
    intro _ _ g hg'
    cases hg'
  · rw [hrun] at hrun'
    obtain rfl : u = e0.val := by simpa using hrun'
    exact fun No hs g hg' => hs es clock hb e0 hm0 g hg'
end Go.Proofs.Qxb6608607a
