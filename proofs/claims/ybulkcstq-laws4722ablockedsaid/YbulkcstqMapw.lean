/-
  OUR OWN. A map that the call makes, whatever its elements: told by a plain function from keys to values. Over the kit's 'World.ownsMap', read at 'H := Value' by a reader that hands each value on as a token.
-/
import Derived.Maps.OwnSet
namespace Go.Proofs.Ybulkcstq
open Go.Maps (Keyed)

/-- Every value reads as itself. -/
def RV (v : Value) : Option (DataW Value × List MemPlace) := some (.held v, [])

/-- Block b is a map of sz entries; at key 'mk l' it holds f l. ('mk': how a plain key is written: 'Lit.string', 'Lit.int .u64'.) -/
def HasMap {κ : Type} (w : World) (P : Program) (k : TypeId) (mk : κ → Lit) (b sz : Nat) (f : κ → Option Value) : Prop :=
  ∃ D, w.ownsMap P k RV b sz D ∧ Maps.size D = sz ∧ (∀ l, Maps.has D (mk l) = (f l).isSome) ∧ ∀ l z, D.atKey (mk l) (.held z) = .held ((f l).getD z)

section
variable {κ : Type} {mk : κ → Lit} {P : Program} {k : TypeId} {w : World} {b sz : Nat} {f : κ → Option Value}

theorem HasMap.made (w : World) (P : Program) (k : TypeId) (mk : κ → Lit) : HasMap (w.alloc (.map #[] 0)) P k mk w.heap.size 0 (fun _ => none) :=
  ⟨.map [], World.ownsMap_made _ _ _ _, rfl, fun _ => rfl, fun _ _ => rfl⟩

theorem HasMap.lt (h : HasMap w P k mk b sz f) : b < w.heap.size := by
  obtain ⟨D, h1, _⟩ := h
  exact h1.lt

theorem HasMap.block {w' : World} (h : HasMap w P k mk b sz f) (e : w'.heap[b]? = w.heap[b]?) : HasMap w' P k mk b sz f := by
  obtain ⟨D, ⟨es, clock, hb, r⟩, h2⟩ := h
  exact ⟨D, ⟨es, clock, e.trans hb, r⟩, h2⟩

theorem HasMap.drew (h : HasMap w P k mk b sz f) : HasMap w.drew P k mk b sz f := h.block rfl

theorem HasMap.alloc (h : HasMap w P k mk b sz f) (o : Obj) : HasMap (w.alloc o) P k mk b sz f :=
  h.block (RowKit.Below.heap_alloc _ _ _ h.lt)

theorem HasMap.setCell (h : HasMap w P k mk b sz f) {a : Addr} (ha : b ≠ a.block) (u : Value) : HasMap (w.setCell a u) P k mk b sz f :=
  h.block (RowKit.Below.heap_setCell _ _ _ _ ha)

theorem HasMap.grown {w' : World} {row : Option Nat} (h : HasMap w P k mk b sz f) (hg : w.grownBy w' row) (hne : some b ≠ row) : HasMap w' P k mk b sz f :=
  h.block (hg.block b h.lt hne)

theorem HasMap.below {w' : World} {B : Nat} (h : HasMap w P k mk b sz f) (hg : RowKit.Below B w w') (hne : b < B) : HasMap w' P k mk b sz f :=
  h.block (hg.block b hne)

theorem HasMap.congr {g : κ → Option Value} (h : HasMap w P k mk b sz f) (e : ∀ l, f l = g l) : HasMap w P k mk b sz g := by
  have : f = g := funext e
  rw [← this]; exact h

theorem HasMap.look {t e : TypeId} (h : HasMap w P k mk b sz f) (K : Keyed P k) (ht : P.underlying t = some (.map k e)) {z : Value} (hz : (zeroValue e).run P w = .ok z w)
    {key : Value} {kl : κ} (hkey : keyOf P k key = some (mk kl)) : (Instr.lookup t (.map (some b)) key false).run P w = .ok ((f kl).getD z) w := by
  obtain ⟨D, h1, _, _, h4⟩ := h
  obtain ⟨v, ps, hrun, hv⟩ := h1.lookup K ht hz (zd := .held z) (zp := []) rfl hkey
  rw [h4] at hv
  simp only [RV, Option.some.injEq, Prod.mk.injEq, DataW.held.injEq] at hv
  rw [hrun, hv.1]

theorem HasMap.look_ok {t e : TypeId} (h : HasMap w P k mk b sz f) (K : Keyed P k) (ht : P.underlying t = some (.map k e)) {z : Value} (hz : (zeroValue e).run P w = .ok z w)
    {key : Value} {kl : κ} (hkey : keyOf P k key = some (mk kl)) : (Instr.lookup t (.map (some b)) key true).run P w = .ok (.tuple #[(f kl).getD z, .bool (f kl).isSome]) w := by
  obtain ⟨D, h1, _, h3, h4⟩ := h
  obtain ⟨v, ps, hrun, hv⟩ := h1.look_ok K ht hz (zd := .held z) (zp := []) rfl hkey
  rw [h4] at hv
  simp only [RV, Option.some.injEq, Prod.mk.injEq, DataW.held.injEq] at hv
  rw [hrun, hv.1, h3]

theorem HasMap.len {t e : TypeId} (h : HasMap w P k mk b sz f) (ht : P.underlying t = some (.map k e)) (ty : TypeId) : (Builtin.len_ #[t] ty #[.map (some b)]).run P w = .ok (.int .i64 sz) w := by
  obtain ⟨D, h1, h2, _⟩ := h
  rw [h1.len ht ty, h2]

theorem HasMap.store {t e : TypeId} (h : HasMap w P k mk b sz f) (K : Keyed P k) (ht : P.underlying t = some (.map k e)) (hn : sz < maxLen) [DecidableEq κ] (hinj : ∀ x y, mk x = mk y → x = y) {key val : Value} {kl : κ}
    (hkey : keyOf P k key = some (mk kl)) : ∃ w', (Instr.mapUpdate t (.map (some b)) key val).run P w = .ok () w' ∧
      HasMap w' P k mk b (if (f kl).isSome then sz else sz + 1) (fun l => if l = kl then some val else f l) ∧ w.mapTurned w' b := by
  obtain ⟨D, h1, h2, h3, h4⟩ := h
  obtain ⟨w', hrun, hown, hturn⟩ := h1.store K ht hn hkey (val := val) (d := .held val) (ps := []) rfl
  have hs : Maps.size (D.put (mk kl) (.held val)) = if (f kl).isSome then sz else sz + 1 := by
    rw [Maps.size_put (h1.tidy K), h3, h2]
  refine ⟨w', hrun, ⟨D.put (mk kl) (.held val), ?_, hs, ?_, ?_⟩, hturn⟩
  · obtain ⟨es, clock, hb, F, hle, hD⟩ := hown
    refine ⟨es, clock, hb, F, ?_, hD⟩
    have e1 : es.size = Maps.size (D.put (mk kl) (.held val)) := by rw [hD]; simp [Maps.size, length_sorted]
    rw [e1, hs]; exact Nat.le_refl _
  · intro l
    by_cases e : l = kl
    · subst e
      simp [Maps.has_put_same h1.isMap (K.key hkey)]
    · simp [Maps.has_put_other (fun h => e (hinj _ _ h)), e, h3]
  · intro l z
    by_cases e : l = kl
    · subst e
      simp [Maps.atKey_put_same h1.isMap (K.key hkey)]
    · simp [Maps.atKey_put_other (fun h => e (hinj _ _ h)), e, h4]

end

section
variable {κ : Type} {mk : κ → Lit} {P : Program} (w : World) {ops : Array Oper} {rest : List Oper} {o : Oper} {a : Act} {Q : Exit → Act → World → Prop}

/-- 'm[k]' at the operation. -/
theorem wpList_look (hg : o.guard = none) (m x : Operand) (t : TypeId) (hop : o.op = Op.lookup t m x false)
    (k e : TypeId) (K : Keyed P k) (ht : P.underlying t = some (.map k e)) {z : Value} (hz : (zeroValue e).run P w = .ok z w) (b sz : Nat) (f : κ → Option Value)
    (hm : a.eval m = .map (some b)) (hown : HasMap w P k mk b sz f) (key : Value) (kl : κ) (hx : a.eval x = key) (hkey : keyOf P k key = some (mk kl))
    (v : Value) (hv : (f kl).getD z = v)
    (hK : wpList P ops Q rest (a.put o.dst v) w) :
    wpList P ops Q (o :: rest) a w := by
  refine wpList_plain hg fun K' hK' => ?_
  have hrun := hown.look K ht hz hkey
  unfold Oper.wp
  simp [execOp, hop, hm, hx, hrun, Result.andThen, hv]
  exact hK' _ _ hK

/-- 'm[k] = v' at the operation. -/
theorem wpList_put [DecidableEq κ] (hg : o.guard = none) (m x v : Operand) (t : TypeId) (hop : o.op = Op.mapUpdate t m x v)
    (k e : TypeId) (K : Keyed P k) (ht : P.underlying t = some (.map k e)) (b sz : Nat) (f : κ → Option Value)
    (hm : a.eval m = .map (some b)) (hown : HasMap w P k mk b sz f) (hn : sz < maxLen) (hinj : ∀ x y, mk x = mk y → x = y) (key val : Value) (kl : κ) (hx : a.eval x = key) (hv : a.eval v = val) (hkey : keyOf P k key = some (mk kl))
    (hK : ∀ w', HasMap w' P k mk b (if (f kl).isSome then sz else sz + 1) (fun l => if l = kl then some val else f l) → w.mapTurned w' b → wpList P ops Q rest (a.put o.dst undef) w') :
    wpList P ops Q (o :: rest) a w := by
  refine wpList_plain hg fun K' hK' => ?_
  obtain ⟨w', hrun, r1, r2⟩ := hown.store K ht hn hinj (val := val) hkey
  unfold Oper.wp
  simp [execOp, hop, hm, hx, hv, hrun, Result.andThen]
  exact hK' _ _ (hK w' r1 r2)
end

end Go.Proofs.Ybulkcstq
