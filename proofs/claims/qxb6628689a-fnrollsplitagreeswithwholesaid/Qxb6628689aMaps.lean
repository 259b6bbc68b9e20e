/-
  MAPS WHOSE ELEMENTS ARE WHATEVER VALUES: a layer over the kit's 'World.ownsMap', its reader the RAW one (an element reads as a token that is the value itself). 'MapIs w k κ b n M N': block b is a map of at most n entries; at key 'κ x' it holds M x; it has N entries.
-/
import Derived.Maps.OwnSet
import Derived.WalkKit
namespace Go.Proofs.Qxb6628689a
open Go.RowKit
open Go.Maps (Keyed IsMap Tidy)

def raw (v : Value) : Option (DataW Value × List MemPlace) := some (.held v, [])

def MapIs {K : Type} (P : Program) (w : World) (k : TypeId) (κ : K → Value) (b n : Nat) (M : K → Option Value) (N : Nat) : Prop :=
  ∃ D : DataW Value, w.ownsMap P k raw b n D ∧ (∀ x kl, keyOf P k (κ x) = some kl → Maps.has D kl = (M x).isSome ∧ ∀ v z, M x = some v → D.atKey kl z = .held v) ∧ Maps.size D = N

section
variable {K : Type} {P : Program} {w w' : World} {k : TypeId} {κ : K → Value} {b n N : Nat} {M : K → Option Value}

theorem MapIs.made (P : Program) (w : World) (k : TypeId) (κ : K → Value) : MapIs P (w.alloc (.map #[] 0)) k κ w.heap.size 0 (fun _ => none) 0 :=
  ⟨.map [], World.ownsMap_made w P k raw, fun _ _ _ => ⟨rfl, fun _ _ h => by cases h⟩, rfl⟩

theorem MapIs.mono (h : MapIs P w k κ b n M N) {n' : Nat} (hn : n ≤ n') : MapIs P w k κ b n' M N := by
  obtain ⟨D, h1, h2⟩ := h; exact ⟨D, h1.mono hn, h2⟩

theorem MapIs.lt (h : MapIs P w k κ b n M N) : b < w.heap.size := by obtain ⟨D, h1, _⟩ := h; exact h1.lt

/-- one that is a map is no row of cells -/
theorem MapIs.isMap (h : MapIs P w k κ b n M N) : ∃ es c, w.heap[b]? = some (.map es c) := by
  obtain ⟨D, ⟨es, c, hb, _⟩, _⟩ := h; exact ⟨es, c, hb⟩

theorem MapIs.of_block (h : MapIs P w k κ b n M N) (hb : w'.heap[b]? = w.heap[b]?) : MapIs P w' k κ b n M N := by
  obtain ⟨D, ⟨es, c, he, r⟩, h2⟩ := h; exact ⟨D, ⟨es, c, hb.trans he, r⟩, h2⟩

theorem MapIs.kept {row : Option Nat} (h : MapIs P w k κ b n M N) (hg : w.grownBy w' row) (hne : some b ≠ row) : MapIs P w' k κ b n M N := by
  obtain ⟨D, h1, h2⟩ := h; exact ⟨D, h1.kept hg hne, h2⟩

theorem MapIs.alloc (h : MapIs P w k κ b n M N) (o : Obj) : MapIs P (w.alloc o) k κ b n M N := by
  obtain ⟨D, h1, h2⟩ := h; exact ⟨D, h1.alloc o, h2⟩

theorem MapIs.drew (h : MapIs P w k κ b n M N) : MapIs P w.drew k κ b n M N := h

theorem MapIs.lookup (h : MapIs P w k κ b n M N) (Kd : Keyed P k) {t e : TypeId} (ht : P.underlying t = some (.map k e)) {z : Value} (hz : (zeroValue e).run P w = .ok z w) {x : K} {kl : Lit} (hkey : keyOf P k (κ x) = some kl) :
    (Instr.lookup t (.map (some b)) (κ x) false).run P w = .ok ((M x).getD z) w := by
  obtain ⟨D, h1, h2, _⟩ := h
  obtain ⟨v, ps, hrun, hv⟩ := h1.lookup Kd ht hz (zd := .held z) (zp := []) rfl hkey
  rw [hrun]
  obtain ⟨e1, e2⟩ := h2 x kl hkey
  simp only [raw, Option.some.injEq, Prod.mk.injEq] at hv
  congr 1
  cases hM : M x with
  | none =>
    rw [hM] at e1
    have := Maps.atKey_of_not_has (z := DataW.held z) e1
    rw [this] at hv
    exact DataW.held.inj hv.1
  | some u =>
    rw [e2 u _ hM] at hv
    exact DataW.held.inj hv.1

theorem MapIs.look_ok (h : MapIs P w k κ b n M N) (Kd : Keyed P k) {t e : TypeId} (ht : P.underlying t = some (.map k e)) {z : Value} (hz : (zeroValue e).run P w = .ok z w) {x : K} {kl : Lit} (hkey : keyOf P k (κ x) = some kl) :
    (Instr.lookup t (.map (some b)) (κ x) true).run P w = .ok (.tuple #[(M x).getD z, .bool (M x).isSome]) w := by
  obtain ⟨D, h1, h2, _⟩ := h
  obtain ⟨v, ps, hrun, hv⟩ := h1.look_ok Kd ht hz (zd := .held z) (zp := []) rfl hkey
  rw [hrun]
  obtain ⟨e1, e2⟩ := h2 x kl hkey
  simp only [raw, Option.some.injEq, Prod.mk.injEq] at hv
  rw [e1]
  have : v = (M x).getD z := by
    cases hM : M x with
    | none =>
      rw [hM] at e1
      have := Maps.atKey_of_not_has (z := DataW.held z) e1
      rw [this] at hv
      exact DataW.held.inj hv.1
    | some u =>
      rw [e2 u _ hM] at hv
      exact DataW.held.inj hv.1
  rw [this]

theorem MapIs.len (h : MapIs P w k κ b n M N) {t e : TypeId} (ht : P.underlying t = some (.map k e)) (ty : TypeId) : (Builtin.len_ #[t] ty #[.map (some b)]).run P w = .ok (.int .i64 N) w := by
  obtain ⟨D, h1, _, h3⟩ := h
  rw [h1.len ht ty, h3]

theorem MapIs.size_le (h : MapIs P w k κ b n M N) : N ≤ n := by
  obtain ⟨D, h1, _, h3⟩ := h
  rw [← h3]; exact h1.size_le

variable [DecidableEq K]
def put (M : K → Option Value) (x : K) (v : Value) : K → Option Value := fun y => if y = x then some v else M y
def del (M : K → Option Value) (x : K) : K → Option Value := fun y => if y = x then none else M y

theorem MapIs.store (h : MapIs P w k κ b n M N) (Kd : Keyed P k) (hinj : ∀ x y, κ x = κ y → x = y) {t e : TypeId} (ht : P.underlying t = some (.map k e)) (hn : n < maxLen) {x : K} {kl : Lit} (v : Value) (hkey : keyOf P k (κ x) = some kl) :
    ∃ w', (Instr.mapUpdate t (.map (some b)) (κ x) v).run P w = .ok () w' ∧ MapIs P w' k κ b (n + 1) (put M x v) (if (M x).isSome then N else N + 1) ∧ w.mapTurned w' b := by
  obtain ⟨D, h1, h2, h3⟩ := h
  obtain ⟨w', hrun, r1, r2⟩ := h1.store Kd ht hn (val := v) (d := .held v) (ps := []) hkey rfl
  refine ⟨w', hrun, ⟨_, r1, fun y yl hy => ?_, ?_⟩, r2⟩
  · by_cases e : y = x
    · subst e
      have : yl = kl := Option.some.inj (hy.symm.trans hkey)
      subst this
      refine ⟨by simp [put, Maps.has_put_same h1.isMap (Kd.key hkey)], fun u z hu => ?_⟩
      simp only [put, if_true, Option.some.injEq] at hu
      subst hu
      exact Maps.atKey_put_same h1.isMap (Kd.key hkey) _ _
    · have hne : yl ≠ kl := fun e' => by
        subst e'
        exact e (hinj _ _ (Kd.inj hy hkey))
      obtain ⟨e1, e2⟩ := h2 y yl hy
      refine ⟨by simp only [put, if_neg e, Maps.has_put_other hne, e1], fun u z hu => ?_⟩
      simp only [put, if_neg e] at hu
      rw [Maps.atKey_put_other hne, e2 u z hu]
  · rw [Maps.size_put (h1.tidy Kd), (h2 x kl hkey).1, h3]

theorem MapIs.drop (h : MapIs P w k κ b n M N) (Kd : Keyed P k) (hinj : ∀ x y, κ x = κ y → x = y) {t e : TypeId} (ht : P.underlying t = some (.map k e)) {x : K} {kl : Lit} (hkey : keyOf P k (κ x) = some kl) (ty : TypeId) :
    ∃ w', (Builtin.delete_ #[t, k] ty #[.map (some b), κ x]).run P w = .ok (.tuple #[]) w' ∧ MapIs P w' k κ b n (del M x) (if (M x).isSome then N - 1 else N) ∧ w.mapTurned w' b := by
  obtain ⟨D, h1, h2, h3⟩ := h
  obtain ⟨w', hrun, r1, r2⟩ := h1.drop Kd ht hkey ty
  refine ⟨w', hrun, ⟨_, r1, fun y yl hy => ?_, ?_⟩, r2⟩
  · by_cases e : y = x
    · subst e
      have : yl = kl := Option.some.inj (hy.symm.trans hkey)
      subst this
      exact ⟨by simp [del, Maps.has_del_same], fun u z hu => by simp [del] at hu⟩
    · have hne : yl ≠ kl := fun e' => by
        subst e'
        exact e (hinj _ _ (Kd.inj hy hkey))
      obtain ⟨e1, e2⟩ := h2 y yl hy
      refine ⟨by simp only [del, if_neg e, Maps.has_del_other hne, e1], fun u z hu => ?_⟩
      simp only [del, if_neg e] at hu
      rw [Maps.atKey_del_other hne, e2 u z hu]
  · have := Maps.size_del (k := kl) (h1.tidy Kd)
    rw [(h2 x kl hkey).1, h3] at this
    cases hM : (M x).isSome
    · rw [hM] at this; simpa using this
    · rw [hM] at this; simp at this ⊢; omega

end

/-! ### at the operation -/
section
variable {K : Type} [DecidableEq K] {P : Program} (w : World) {ops : Array Oper} {rest : List Oper} {o : Oper} {a : Act} {Q : Exit → Act → World → Prop}

theorem wpList_store_raw (hg : o.guard = none) (m x v : Operand) (t : TypeId) (hop : o.op = Op.mapUpdate t m x v) (k e : TypeId) (Kd : Keyed P k) (ht : P.underlying t = some (.map k e))
    {κ : K → Value} (hinj : ∀ x y, κ x = κ y → x = y) (b n N : Nat) (M : K → Option Value) (hm : a.eval m = .map (some b)) (h : MapIs P w k κ b n M N) (hn : n < maxLen) (key : K) (kl : Lit) (val : Value) (hx : a.eval x = κ key) (hv : a.eval v = val) (hkey : keyOf P k (κ key) = some kl)
    (hK : ∀ w', MapIs P w' k κ b (n + 1) (put M key val) (if (M key).isSome then N else N + 1) → w.mapTurned w' b → wpList P ops Q rest (a.put o.dst undef) w') :
    wpList P ops Q (o :: rest) a w := by
  refine wpList_plain hg fun K' hK' => ?_
  obtain ⟨w', hrun, r1, r2⟩ := h.store Kd hinj ht hn val hkey
  unfold Oper.wp
  simp [execOp, hop, hm, hx, hv, hrun, Result.andThen]
  exact hK' _ _ (hK w' r1 r2)

theorem step_store_raw {Kp : Act → World → Prop} {E : Prop} (hg : o.guard = none) (m x v : Operand) (t : TypeId) (hop : o.op = Op.mapUpdate t m x v) (k e : TypeId) (Kd : Keyed P k) (ht : P.underlying t = some (.map k e))
    {κ : K → Value} (hinj : ∀ x y, κ x = κ y → x = y) (b n N : Nat) (M : K → Option Value) (hm : a.eval m = .map (some b)) (h : MapIs P w k κ b n M N) (hn : n < maxLen) (key : K) (kl : Lit) (val : Value) (hx : a.eval x = κ key) (hv : a.eval v = val) (hkey : keyOf P k (κ key) = some kl)
    (hK : ∀ w', MapIs P w' k κ b (n + 1) (put M key val) (if (M key).isSome then N else N + 1) → w.mapTurned w' b → Kp (a.put o.dst undef) w') :
    if Region.wanted o (yielded ops a.tmps) = true then Oper.wp P o a w Kp Q else E := by
  have hw : Region.wanted o (yielded ops a.tmps) = true := by simp [Region.wanted, hg]
  rw [if_pos hw]
  obtain ⟨w', hrun, r1, r2⟩ := h.store Kd hinj ht hn val hkey
  unfold Oper.wp
  simp [execOp, hop, hm, hx, hv, hrun, Result.andThen]
  exact hK w' r1 r2

theorem wpList_delete_raw (hg : o.guard = none) (m x : Operand) (t k : TypeId) (hop : o.op = Op.call { callee := Callee.builtin Builtin.delete, args := #[m, x], argTypes := #[t, k] }) (e : TypeId) (Kd : Keyed P k) (ht : P.underlying t = some (.map k e))
    {κ : K → Value} (hinj : ∀ x y, κ x = κ y → x = y) (b n N : Nat) (M : K → Option Value) (hm : a.eval m = .map (some b)) (h : MapIs P w k κ b n M N) (key : K) (kl : Lit) (hx : a.eval x = κ key) (hkey : keyOf P k (κ key) = some kl)
    (hK : ∀ w', MapIs P w' k κ b n (del M key) (if (M key).isSome then N - 1 else N) → w.mapTurned w' b → wpList P ops Q rest (a.put o.dst (.tuple #[])) w') :
    wpList P ops Q (o :: rest) a w := by
  refine wpList_plain hg fun K' hK' => ?_
  obtain ⟨w', hrun, r1, r2⟩ := h.drop Kd hinj ht hkey o.type
  unfold Oper.wp
  simp [execOp, hop, resolve, invoke, builtin, hm, hx, hrun, Result.andThen]
  exact hK' _ _ (hK w' r1 r2)

theorem step_delete_raw {Kp : Act → World → Prop} {E : Prop} (hg : o.guard = none) (m x : Operand) (t k : TypeId) (hop : o.op = Op.call { callee := Callee.builtin Builtin.delete, args := #[m, x], argTypes := #[t, k] }) (e : TypeId) (Kd : Keyed P k) (ht : P.underlying t = some (.map k e))
    {κ : K → Value} (hinj : ∀ x y, κ x = κ y → x = y) (b n N : Nat) (M : K → Option Value) (hm : a.eval m = .map (some b)) (h : MapIs P w k κ b n M N) (key : K) (kl : Lit) (hx : a.eval x = κ key) (hkey : keyOf P k (κ key) = some kl)
    (hK : ∀ w', MapIs P w' k κ b n (del M key) (if (M key).isSome then N - 1 else N) → w.mapTurned w' b → Kp (a.put o.dst (.tuple #[])) w') :
    if Region.wanted o (yielded ops a.tmps) = true then Oper.wp P o a w Kp Q else E := by
  have hw : Region.wanted o (yielded ops a.tmps) = true := by simp [Region.wanted, hg]
  rw [if_pos hw]
  obtain ⟨w', hrun, r1, r2⟩ := h.drop Kd hinj ht hkey o.type
  unfold Oper.wp
  simp [execOp, hop, resolve, invoke, builtin, hm, hx, hrun, Result.andThen]
  exact hK w' r1 r2

end
end Go.Proofs.Qxb6628689a
