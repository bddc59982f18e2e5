/-
  The descriptor's bytes; the steps of 'add' upon a segment in memory.
-/
import Derived.Test.Qxb6608607aSegGroup
import Derived.Test.Qxb6608607aWithAdler
import Derived.Deep.DeepCutAuto
import Derived.Deep.RegionLaw
namespace Go.Proofs.Qxb6608607a
open Go.RowKit Go.Maps

def setObj (u : Bool) : Obj := .cells #[.slice none 0 0, .int .i64 0, .int .i64 0, .nilFunc, .nilFunc, .slice none 0 0, .slice none 0 0, .bool u] 61
def setVal (u : Bool) : Value := .agg #[.slice none 0 0, .int .i64 0, .int .i64 0, .nilFunc, .nilFunc, .slice none 0 0, .slice none 0 0, .bool u]

/-- How many bytes of padding. -/
def padU (u : Bool) (n : Nat) : Nat := if u then 0 else padOf n

theorem i64_and15 (n : Int) : bits .and .i64 n 15 = n % 16 := by
  have h15 : (BitVec.ofInt 64 15).toNat = 2 ^ 4 - 1 := by decide
  have key : (BitVec.ofInt 64 n &&& BitVec.ofInt 64 15).toNat = (n % ((2 ^ 64 : Nat) : Int)).toNat % 2 ^ 4 := by
    rw [BitVec.toNat_and, BitVec.toNat_ofInt, h15, Nat.and_two_pow_sub_one_eq_mod]
  show IntKind.i64.wrap ((BitVec.ofInt 64 n &&& BitVec.ofInt 64 15).toNat : Nat) = n % 16
  rw [key, IntKind.wrap_i64]
  omega
theorem pad_neg (n : Nat) : bits .and .i64 (-(n : Int)) 15 = (padOf n : Int) := by
  rw [i64_and15]; unfold padOf; omega

/-- An append whose run is known by an equation, as one step of a region that draws its order. -/
theorem step_append_by {ops : Array Oper} {o : Oper} {a : Act} {w : World} {K : Act → World → Prop} {Q : Exit → Act → World → Prop} {E : Prop} (hgd : o.guard = none) (s x : Operand) (t tn : TypeId)
    (ho : o.op = .call { callee := .builtin .append, args := #[s, x], argTypes := #[t, tn] }) (vs vx : Value) (hs : a.eval s = vs) (hx : a.eval x = vx)
    (v' : Value) (w' : World) (hr : (Builtin.append_ #[t, tn] o.type #[vs, vx]).run Try.prog w = .ok v' w') (h : K (a.put o.dst v') w') :
    if Region.wanted o (yielded ops a.tmps) = true then Oper.wp Try.prog o a w K Q else E := by
  have hw : Region.wanted o (yielded ops a.tmps) = true := by simp [Region.wanted, hgd]
  rw [if_pos hw]
  exact Lib.wp_append_run w s x t tn ho vs vx hs hx v' w' hr h

/-- The descriptor, less its checksum: sixty bytes; and whole. -/
def desc (typ last size pad : Int) : List Int := le32 typ ++ le32 0 ++ le64 last ++ le64 size ++ le32 64 ++ le32 pad ++ List.replicate 28 0
def desc64 (typ last size pad : Int) : List Int := desc typ last size pad ++ le32 (adler (fun j => (desc typ last size pad).getD j 0) 60)
theorem desc_length (typ last size pad : Int) : (desc typ last size pad).length = 60 := by simp [desc, le32, le64]
theorem desc64_length (typ last size pad : Int) : (desc64 typ last size pad).length = 64 := by simp [desc64, desc, le32, le64]
theorem le32_bd {x : Int} (h0 : 0 ≤ x) (h1 : x < 4294967296) : ∀ y ∈ le32 x, 0 ≤ y ∧ y ≤ 255 := by
  intro y hy
  simp only [le32, List.mem_cons, List.not_mem_nil, or_false] at hy
  omega
theorem le64_bd {x : Int} (h0 : 0 ≤ x) (h1 : x < 9223372036854775807) : ∀ y ∈ le64 x, 0 ≤ y ∧ y ≤ 255 := by
  intro y hy
  simp only [le64, List.mem_cons, List.not_mem_nil, or_false] at hy
  omega
theorem desc_bd {typ last size pad : Int} (t0 : 0 ≤ typ) (t1 : typ < 4294967296) (l0 : 0 ≤ last) (l1 : last ≤ 1000000000) (s0 : 0 ≤ size) (s1 : size ≤ 1000000000) (p0 : 0 ≤ pad) (p1 : pad ≤ 255) (j : Nat) (hj : j < 60) :
    0 ≤ (desc typ last size pad).getD j 0 ∧ (desc typ last size pad).getD j 0 ≤ 255 := by
  have hall : ∀ y ∈ desc typ last size pad, 0 ≤ y ∧ y ≤ 255 := by
    intro y hy
    simp only [desc, List.mem_append] at hy
    rcases hy with (((((hy | hy) | hy) | hy) | hy) | hy) | hy
    · exact le32_bd t0 t1 y hy
    · exact le32_bd (by omega) (by omega) y hy
    · exact le64_bd l0 (by omega) y hy
    · exact le64_bd s0 (by omega) y hy
    · exact le32_bd (by omega) (by omega) y hy
    · exact le32_bd p0 (by omega) y hy
    · rw [List.eq_of_mem_replicate hy]; omega
  have hl := desc_length typ last size pad
  have e : (desc typ last size pad).getD j 0 = (desc typ last size pad)[j]'(by omega) := by simp [List.getD, hl, hj]
  rw [e]
  exact hall _ (List.getElem_mem _)

section
variable {B M : Nat} {v : Value} {bs : List Int} {last : Int} {n : Nat} {G : Int → List Int} {c : Nat}

theorem seg_le32 (w W : World) (d : Value) (zs : List Int) (x : Int) (hS : Seg W B M v bs last n G c d zs) (hb : Below B w W) (h0 : 0 ≤ x) (h1 : x < 4294967296) (hl : zs.length ≤ 100) :
    Calls Try.prog 22 #[.agg #[], d, .int .u32 x] W fun e w' => ∃ d', e = .returned d' ∧ Seg w' B M v bs last n G c d' (zs ++ le32 x) ∧ Below B w w' := by
  refine (le32_any B d zs x W h0 h1 hS.tmp hS.hB (by omega)).mono ?_
  rintro e w' ⟨d', rfl, hG⟩
  exact ⟨d', rfl, hS.dgrow hG, hb.grown hG.2.1 hS.hB (fun k hk => (hS.tmp.lt k hk).1)⟩
theorem seg_le64 (w W : World) (d : Value) (zs : List Int) (x : Int) (hS : Seg W B M v bs last n G c d zs) (hb : Below B w W) (h0 : 0 ≤ x) (h1 : x ≤ 1000000000) (hl : zs.length ≤ 100) :
    Calls Try.prog 31 #[.agg #[], d, .int .u64 x] W fun e w' => ∃ d', e = .returned d' ∧ Seg w' B M v bs last n G c d' (zs ++ le64 x) ∧ Below B w w' := by
  refine (le64_any B d zs x W h0 (by omega) hS.tmp hS.hB (by omega)).mono ?_
  rintro e w' ⟨d', rfl, hG⟩
  exact ⟨d', rfl, hS.dgrow hG, hb.grown hG.2.1 hS.hB (fun k hk => (hS.tmp.lt k hk).1)⟩
/-- The last append of 'add': onto the bytes, from a slice that was made behind the world W. -/
theorem seg_last {w W wd : World} {d x : Value} {zs xs : List Int} (hS : Seg W B M v bs last n G c d zs) (hW : Below B w W) (hx : Own wd W.heap.size x xs) (hb : Below W.heap.size W wd) (hl : bs.length + xs.length ≤ 100000000) :
    ∃ bs' a' c' we ax cx nx, Hid (bs' = bs ++ xs) ∧ x = .slice ax nx cx ∧ (Builtin.append_ #[22, 22] 22 #[v, .slice ax nx cx]).run Try.prog wd = .ok (.slice a' bs'.length c') we ∧ wd.cell? ⟨M + 1, 0, none⟩ = some v ∧ we.cell? ⟨M + 1, 0, none⟩ = some v ∧ we.frozen? ⟨M + 1, 0, none⟩ = false ∧
      Seg (we.setCell ⟨M + 1, 0, none⟩ (.slice a' bs'.length c')) B M (.slice a' bs'.length c') bs' last n G c d zs ∧ Below B w (we.setCell ⟨M + 1, 0, none⟩ (.slice a' bs'.length c')) := by
  have hS1 := hS.below hb
  obtain ⟨ax, cx, rfl, hax, _, hrx⟩ := hx.rd
  obtain ⟨v', we, hr, ho, hg, hat⟩ := hS1.own.append hS1.hB 22 ax cx xs hax hrx (by omega)
  obtain ⟨a', c', rfl, _, _, _⟩ := ho.rd
  obtain ⟨hS2, k, f, hB1, hB2⟩ := hS1.vgrow ⟨ho, hg, hat.imp id (fun e => ⟨_, e, Nat.le_refl _⟩)⟩
  exact ⟨_, a', c', we, ax, cx, _, rfl, rfl, hr, hS1.c0, k, f, hS2, (hW.trans (hb.mono hS.hB)).trans hB2⟩
theorem Seg.drew {w : World} {d : Value} {zs : List Int} (h : Seg w B M v bs last n G c d zs) : Seg w.drew B M v bs last n G c d zs := h.below (Below.refl _ _).drew
end
end Go.Proofs.Qxb6608607a
