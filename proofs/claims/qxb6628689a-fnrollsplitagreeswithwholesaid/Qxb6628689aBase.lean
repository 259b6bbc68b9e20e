/-
  THE SMALL KEY, AND WHAT A STORE IS.
-/
import Derived.Test.Qxb6628689aRows
import Derived.Test.Qxb6628689aMaps
import Derived.WalkSpells
import Derived.WalkLawsBesides
import Derived.Lib.LazyBuf
import Derived.Laws.CopyOwn
import Derived.Test.Qxb6628689aRowLaws
namespace Go.Proofs.Qxb6628689a
open Go.RowKit

theorem hid {p : Prop} (h : p) : Hid p := h

/-- byte i of s; 0 behind its end -/
def kb (s : ByteArray) (i : Nat) : Int := ((s.data.toList[i]?).map (fun x => (x.toNat : Int))).getD 0
def bytesOf (s : ByteArray) : List Value := s.data.toList.map fun x => Value.int .u8 (x.toNat : Int)
/-- the 32 cells of a smallKey -/
def kcells (s : ByteArray) : Array Value := #[.int .u8 s.size, .int .u8 (kb s 0), .int .u8 (kb s 1), .int .u8 (kb s 2), .int .u8 (kb s 3), .int .u8 (kb s 4), .int .u8 (kb s 5), .int .u8 (kb s 6), .int .u8 (kb s 7), .int .u8 (kb s 8), .int .u8 (kb s 9), .int .u8 (kb s 10), .int .u8 (kb s 11), .int .u8 (kb s 12), .int .u8 (kb s 13), .int .u8 (kb s 14), .int .u8 (kb s 15), .int .u8 (kb s 16), .int .u8 (kb s 17), .int .u8 (kb s 18), .int .u8 (kb s 19), .int .u8 (kb s 20), .int .u8 (kb s 21), .int .u8 (kb s 22), .int .u8 (kb s 23), .int .u8 (kb s 24), .int .u8 (kb s 25), .int .u8 (kb s 26), .int .u8 (kb s 27), .int .u8 (kb s 28), .int .u8 (kb s 29), .int .u8 (kb s 30)]

section
variable {P : Program}
theorem wpList_copy_string {w : World} {ops : Array Oper} {rest : List Oper} {o : Oper} {a : Act} {Q : Exit → Act → World → Prop} (hgd : o.guard = none) (d x : Operand) (dT sT : TypeId)
    (hop : o.op = Op.call { callee := Callee.builtin Builtin.copy, args := #[d, x], argTypes := #[dT, sT] })
    (elem : TypeId) (hu : P.underlying dT = some (.slice elem)) (hz : ∀ w, (Go.sizeOf elem).run P w = .ok 1 w)
    (b off dLen dCap : Nat) (hd : a.eval d = .slice (some ⟨b, off, none⟩) dLen dCap) (t : ByteArray) (hx : a.eval x = .string t) (hle : t.size ≤ dLen)
    (hc : ∀ j, j < t.size → (w.cell? ⟨b, off + j, none⟩).isSome = true) (hf : ∀ j, j < t.size → w.frozen? ⟨b, off + j, none⟩ = false)
    (h : ∀ w', Hid (w' = w.setCells b off (bytesOf t)) → wpList P ops Q rest (a.put o.dst (goInt t.size)) w') : wpList P ops Q (o :: rest) a w := by
  refine wpList_plain hgd fun K hK => ?_
  have hrun := run_copy_string (P := P) w dT sT o.type elem b off dLen dCap t hu hz hle hc hf
  unfold Oper.wp
  simp [execOp, hop, resolve, invoke, builtin, hd, hx, hrun, Result.andThen]
  exact hK _ _ (h _ rfl)
end
theorem size5 (w : World) : (Go.sizeOf 5).run Try.prog w = .ok 1 w := by simp [Try.sizeOf5]
/-- cells laid over an array from place o on -/
def laid (arr : Array Value) : Nat → List Value → Array Value
  | _, [] => arr
  | o, v :: r => laid (arr.setIfInBounds o v) (o + 1) r

theorem laid_size : ∀ (vs : List Value) (arr : Array Value) (o : Nat), (laid arr o vs).size = arr.size
  | [], _, _ => rfl
  | v :: r, arr, o => by rw [laid, laid_size r, Array.size_setIfInBounds]

theorem laid_get : ∀ (vs : List Value) (arr : Array Value) (o i : Nat), i < arr.size → (laid arr o vs)[i]? = if o ≤ i ∧ i < o + vs.length then vs[i - o]? else arr[i]?
  | [], arr, o, i, _ => by simp [laid]; intro h1 h2; omega
  | v :: r, arr, o, i, hi => by
    rw [laid, laid_get r _ (o + 1) i (by simpa using hi)]
    by_cases h : i = o
    · subst h
      rw [if_neg (by omega), if_pos (by simp), Nat.sub_self]
      simp [hi]
    · by_cases h2 : o + 1 ≤ i ∧ i < o + 1 + r.length
      · rw [if_pos h2, if_pos (by simp; omega)]
        obtain ⟨k, rfl⟩ : ∃ k, i = o + 1 + k := ⟨i - (o + 1), by omega⟩
        have e1 : o + 1 + k - (o + 1) = k := by omega
        have e2 : o + 1 + k - o = k + 1 := by omega
        rw [e1, e2, List.getElem?_cons_succ]
      · rw [if_neg h2, if_neg (by simp; omega), Array.getElem?_setIfInBounds_ne (by omega)]

theorem alloc_setCell (w : World) (arr : Array Value) (t : TypeId) (o : Nat) (v : Value) : (w.alloc (.cells arr t)).setCell ⟨w.heap.size, o, none⟩ v = w.alloc (.cells (arr.setIfInBounds o v) t) := by
  have h : ((w.heap.push (.cells arr t)).modify w.heap.size fun
      | .cells c elem frozen => .cells (if (none : Option Nat).isSome then c else c.setIfInBounds o v) elem frozen
      | o => o) = w.heap.push (.cells (arr.setIfInBounds o v) t) := by
    apply Array.ext_getElem?
    intro i
    rw [Array.getElem?_modify, Array.getElem?_push, Array.getElem?_push]
    by_cases hi : w.heap.size = i
    · subst hi; simp
    · rw [if_neg hi, if_neg (by omega), if_neg (by omega)]
  exact congrArg (fun hp => ({ w with heap := hp } : World)) h

theorem alloc_setCells (w : World) (t : TypeId) : ∀ (vs : List Value) (o : Nat) (arr : Array Value), (w.alloc (.cells arr t)).setCells w.heap.size o vs = w.alloc (.cells (laid arr o vs) t)
  | [], _, _ => rfl
  | v :: r, o, arr => by rw [World.setCells, alloc_setCell, alloc_setCells w t r, laid]

theorem kb_lt (s : ByteArray) (i : Nat) (h : i < s.size) : (bytesOf s)[i]? = some (.int .u8 (kb s i)) := by
  have h' : i < s.data.toList.length := by simpa using h
  simp [bytesOf, kb, List.getElem?_eq_getElem h']
theorem kb_ge (s : ByteArray) (i : Nat) (h : ¬ i < s.size) : kb s i = 0 := by
  have h' : s.data.toList[i]? = none := List.getElem?_eq_none (by simpa using h)
  simp [kb, h']
theorem bytesOf_length (s : ByteArray) : (bytesOf s).length = s.size := by simp [bytesOf]

def zeros32 : Array Value := #[.int .u8 0, .int .u8 0, .int .u8 0, .int .u8 0, .int .u8 0, .int .u8 0, .int .u8 0, .int .u8 0, .int .u8 0, .int .u8 0, .int .u8 0, .int .u8 0, .int .u8 0, .int .u8 0, .int .u8 0, .int .u8 0, .int .u8 0, .int .u8 0, .int .u8 0, .int .u8 0, .int .u8 0, .int .u8 0, .int .u8 0, .int .u8 0, .int .u8 0, .int .u8 0, .int .u8 0, .int .u8 0, .int .u8 0, .int .u8 0, .int .u8 0, .int .u8 0]
def kcells0 (s : ByteArray) : Array Value := #[.int .u8 0, .int .u8 (kb s 0), .int .u8 (kb s 1), .int .u8 (kb s 2), .int .u8 (kb s 3), .int .u8 (kb s 4), .int .u8 (kb s 5), .int .u8 (kb s 6), .int .u8 (kb s 7), .int .u8 (kb s 8), .int .u8 (kb s 9), .int .u8 (kb s 10), .int .u8 (kb s 11), .int .u8 (kb s 12), .int .u8 (kb s 13), .int .u8 (kb s 14), .int .u8 (kb s 15), .int .u8 (kb s 16), .int .u8 (kb s 17), .int .u8 (kb s 18), .int .u8 (kb s 19), .int .u8 (kb s 20), .int .u8 (kb s 21), .int .u8 (kb s 22), .int .u8 (kb s 23), .int .u8 (kb s 24), .int .u8 (kb s 25), .int .u8 (kb s 26), .int .u8 (kb s 27), .int .u8 (kb s 28), .int .u8 (kb s 29), .int .u8 (kb s 30)]
theorem kcells0_list (s : ByteArray) : (kcells0 s).toList = .int .u8 0 :: (List.range 31).map (fun i => Value.int .u8 (kb s i)) := rfl
theorem zeros32_list : zeros32.toList = List.replicate 32 (.int .u8 0) := rfl

theorem laid_key (s : ByteArray) : laid zeros32 1 (bytesOf s) = kcells0 s := by
  apply Array.ext_getElem?
  intro i
  have e : (kcells0 s)[i]? = (Value.int .u8 0 :: (List.range 31).map (fun i => Value.int .u8 (kb s i)))[i]? := by rw [← kcells0_list]; simp
  by_cases hi : i < 32
  · rw [e, laid_get _ _ _ _ (by exact hi), bytesOf_length]
    have ez : zeros32[i]? = some (.int .u8 0) := by
      have : zeros32[i]? = zeros32.toList[i]? := by simp
      rw [this, zeros32_list, List.getElem?_replicate, if_pos hi]
    cases i with
    | zero => rw [if_neg (by omega), ez]; rfl
    | succ i =>
      rw [List.getElem?_cons_succ, List.getElem?_map, List.getElem?_range (by omega)]
      by_cases h : i < s.size
      · rw [if_pos (by omega), Nat.add_sub_cancel, kb_lt s i h]; rfl
      · rw [if_neg (by omega), ez]; simp [kb_ge s i h]
  · have h1 : (laid zeros32 1 (bytesOf s)).size = 32 := laid_size _ _ _
    have h2 : (kcells0 s).size = 32 := rfl
    rw [Array.getElem?_eq_none (by omega), Array.getElem?_eq_none (by omega)]

theorem kcells_all (s : ByteArray) : (kcells s).all (·.oneCell') = true := by simp [kcells, Value.oneCell']
theorem kcells_size (s : ByteArray) : (kcells s).size = 32 := rfl
theorem zeros32_all : zeros32.all (·.oneCell') = true := by simp [zeros32, Value.oneCell']
theorem info60 : (Try.prog.info? 60).map (·.size) = some 32 := by kernel_rfl
theorem kcells_set (s : ByteArray) : (kcells0 s).setIfInBounds 0 (.int .u8 s.size) = kcells s := rfl
theorem zeros_is : zeros32 = #[.int .u8 0, .int .u8 0, .int .u8 0, .int .u8 0, .int .u8 0, .int .u8 0, .int .u8 0, .int .u8 0, .int .u8 0, .int .u8 0, .int .u8 0, .int .u8 0, .int .u8 0, .int .u8 0, .int .u8 0, .int .u8 0, .int .u8 0, .int .u8 0, .int .u8 0, .int .u8 0, .int .u8 0, .int .u8 0, .int .u8 0, .int .u8 0, .int .u8 0, .int .u8 0, .int .u8 0, .int .u8 0, .int .u8 0, .int .u8 0, .int .u8 0, .int .u8 0] := rfl
theorem cell_new2 (w : World) (arr : Array Value) (t : TypeId) (j : Nat) : (w.alloc (.cells arr t)).cell? ⟨w.heap.size, j, none⟩ = arr[j]? := by
  have : (w.alloc (.cells arr t)).heap[w.heap.size]? = some (.cells arr t) := by
    show (w.heap.push _)[w.heap.size]? = _
    simp
  unfold World.cell?
  rw [this]
  simp
theorem frozen_new2 (w : World) (arr : Array Value) (t : TypeId) (j : Nat) : (w.alloc (.cells arr t)).frozen? ⟨w.heap.size, j, none⟩ = false := by
  have : (w.alloc (.cells arr t)).heap[w.heap.size]? = some (.cells arr t) := by
    show (w.heap.push _)[w.heap.size]? = _
    simp
  unfold World.frozen?
  rw [this]
  simp


section
variable {P : Program} {w : World} {ops : Array Oper} {rest : List Oper} {o : Oper} {a : Act} {Q : Exit → Act → World → Prop}
theorem wpList_store_cell (hgd : o.guard = none) (x v : Operand) (ty : TypeId) (hop : o.op = Op.store ty x v) (b off : Nat) (val : Value) (hx : a.eval x = .pointer (some ⟨b, off, none⟩)) (hv : a.eval v = val)
    (hz : (Go.sizeOf ty).run P w = .ok 1 w) (h1 : val.oneCell' = true) (hcs : val.cells = #[val]) (hc : (w.cell? ⟨b, off, none⟩).isSome = true) (hf : w.frozen? ⟨b, off, none⟩ = false)
    (h : ∀ w', Hid (w' = w.setCell ⟨b, off, none⟩ val) → wpList P ops Q rest (a.put o.dst undef) w') : wpList P ops Q (o :: rest) a w := by
  refine wpList_plain hgd fun K hK => ?_
  have hst := run_storeCells_cells (P := P) b off [val] 0 w (fun j hj => by
      have e : j = 0 := by simpa using hj
      subst e; exact hc) (fun j hj => by
      have e : j = 0 := by simpa using hj
      subst e; exact hf) (by simpa using h1)
  have hrun : (storeVar ty ⟨b, off, none⟩ val).run P w = .ok () (w.setCell ⟨b, off, none⟩ val) := by
    simp [storeVar, Sem.run_bind, hz, hcs]
    exact hst
  unfold Oper.wp
  simp [execOp, hop, hx, hv, Instr.storeAt, Instr.sureAddr, hrun, Result.andThen]
  exact hK _ _ (h _ rfl)
end

theorem row_load {P : Program} {w : World} {g n : Nat} {t : TypeId} {arr : Array Value} {fr : Nat × Nat} (hg : w.heap[g]? = some (.cells arr t fr)) (hn : arr.size = n) :
    (loadCellsFrom ⟨g, 0, none⟩ 0 n #[]).run P w = .ok arr w := by
  subst hn
  have := run_loadCells_list (P := P) w ⟨g, 0, none⟩ arr.toList (fun j v hv => by
    have hadd : (⟨g, 0, none⟩ : Addr).add j = ⟨g, j, none⟩ := by unfold Addr.add; split <;> simp_all
    rw [hadd, cell_of_row _ _ j arr t fr hg]
    simpa using hv)
  simpa [loadCells] using this
theorem row_store {P : Program} {w : World} {g : Nat} {t : TypeId} {old new : Array Value} (hg : w.heap[g]? = some (.cells old t (0, 0))) (ho : old.size = new.size) (h1 : new.all (·.oneCell') = true) :
    (storeCells ⟨g, 0, none⟩ new.toList).run P w = .ok () (w.setRow g new) := by
  have := run_storeCells_from (P := P) g t new.toList 0 old w hg (by simp; omega) (fun v hv => (Array.all_eq_true_iff_forall_mem.1 h1) v (by simpa using hv))
  simpa using this

set_option maxRecDepth 100000 in
theorem small28 (s : ByteArray) (w : World) (hs : ¬ 31 < s.size) :
    Calls Try.prog 28 #[.string s] w fun e w' => e = .returned (.tuple #[.agg (kcells s), .bool true]) ∧ Below w.heap.size w w' := by
  go_enter Try.func28, Try.ntmps28
  go_wp2_with (with_reducible show wpList _ _ _ ({ dst := _, op := Op.call { callee := Callee.builtin Builtin.copy, args := _, argTypes := _ }, type := _, pos := _, after := _, guard := _ } :: _) _ _; refine wpList_copy_string rfl (.tmp 10) (.tmp 11) 35 9 rfl 5 Try.underlying35 size5 (w.heap.size + 1) 1 31 31 rfl s rfl (by omega) ?c1 ?c2 ?_)
  case c1 =>
    intro j hj
    have hB : (w.alloc (.cells zeros32 60)).heap.size = w.heap.size + 1 := by simp
    have e := cell_new2 (w.alloc (.cells zeros32 60)) zeros32 60 (1 + j)
    rw [hB] at e
    have : (zeros32[1 + j]?).isSome = true := by
      have h2 : zeros32.size = 32 := rfl
      simp; omega
    rw [← e] at this
    exact this
  case c2 =>
    intro j hj
    have hB : (w.alloc (.cells zeros32 60)).heap.size = w.heap.size + 1 := by simp
    have e := frozen_new2 (w.alloc (.cells zeros32 60)) zeros32 60 (1 + j)
    rw [hB] at e
    exact e
  intro w2 hw2
  have hB : (w.alloc (.cells zeros32 60)).heap.size = w.heap.size + 1 := by simp
  have hw3 : w2 = (w.alloc (.cells zeros32 60)).alloc (.cells (kcells0 s) 60) := by
    have e := alloc_setCells (w.alloc (.cells zeros32 60)) 60 (bytesOf s) 1 zeros32
    rw [hB, laid_key] at e
    exact hw2.out.trans e
  clear hw2
  have c0 : w2.cell? ⟨w.heap.size + 1, 0, none⟩ = some (.int .u8 0) := by rw [hw3, ← hB, cell_new2]; rfl
  have f0 : w2.frozen? ⟨w.heap.size + 1, 0, none⟩ = false := by rw [hw3, ← hB, frozen_new2]
  have hw4 : w2.setCell ⟨w.heap.size + 1, 0, none⟩ (.int .u8 s.size) = (w.alloc (.cells zeros32 60)).alloc (.cells (kcells s) 60) := by
    rw [hw3, ← hB, alloc_setCell, kcells_set]
  have C0 := hid c0
  have F0 := hid f0
  have HW4 := hid hw4
  clear hw3 hw4 hB c0 f0
  go_wp2_with (with_reducible show wpList _ _ _ ({ dst := _, op := Op.store 5 _ _, type := _, pos := _, after := _, guard := _ } :: _) _ _; refine wpList_store_cell rfl (.tmp 14) (.tmp 13) 5 rfl (w.heap.size + 1) 0 (.int .u8 s.size) ?e1 ?e2 ?e3 ?e4 ?e5 ?e6 ?e7 ?_)
  case e1 => rfl
  case e2 => rfl
  case e3 => exact size5 _
  case e4 => rfl
  case e5 => rfl
  case e6 => rw [C0.out]; rfl
  case e7 => exact F0.out
  intro w3 hw3
  have hw5 : w3 = (w.alloc (.cells zeros32 60)).alloc (.cells (kcells s) 60) := hw3.out.trans HW4.out
  have hg1 : w3.heap[w.heap.size + 1]? = some (.cells (kcells s) 60 (0, 0)) := by
    rw [hw5]
    show ((w.heap.push _).push _)[w.heap.size + 1]? = _
    rw [Array.getElem?_push, if_pos (by simp)]
  have hg0 : w3.heap[w.heap.size]? = some (.cells zeros32 60 (0, 0)) := by
    rw [hw5]
    show ((w.heap.push _).push _)[w.heap.size]? = _
    rw [Array.getElem?_push, if_neg (by simp), Array.getElem?_push, if_pos rfl]
  have HG1 := hid hg1
  have HG0 := hid hg0
  have HW5 := hid hw5
  clear hw3 HW4 hg1 hg0 C0 F0
  obtain ⟨w5, hw6⟩ : ∃ w5, w5 = w3.setRow w.heap.size (kcells s) := ⟨_, rfl⟩
  have hl := row_load (P := Try.prog) HG1.out (kcells_size s)
  have hst := row_store (P := Try.prog) HG0.out (show zeros32.size = (kcells s).size from rfl) (kcells_all s)
  rw [← hw6] at hst
  have hbel : Below w.heap.size w w5 := by
    rw [hw6, hw5]
    exact below_setRow ((((Below.refl _ _).alloc (Nat.le_refl _) _).alloc (by simp) _)) (Nat.le_refl _) _
  have hw7 : w5.heap[w.heap.size]? = some (.cells (kcells s) 60 (0, 0)) := by rw [hw6]; exact setRow_heap _ _ _ _ _ _ HG0.out
  have hload := run_loadVar_row (P := Try.prog) w5 w.heap.size 60 60 (kcells s) (0, 0) _ hw7 Try.underlying60 rfl info60
  have H6 := hid hload
  have HBEL := hid hbel
  have hsz := kcells_size s
  have HG2 := hid HG1.out
  clear hw6 hw7 HG1 HG0 hload hbel hw5 HW5 hl
  go_wp2_with (with_reducible show wpList _ _ _ ({ dst := _, op := Op.load 60 _, type := _, pos := _, after := _, guard := _ } :: _) _ _; refine wpList_load_row rfl (.tmp 4) 60 rfl (w.heap.size + 1) 60 (kcells s) (0, 0) _ ?e1 ?e2 Try.underlying60 rfl ?e3 ?_)
  case e1 => rfl
  case e2 => exact HG2.out
  case e3 => exact info60
  clear HG2
  go_wp2
  have hl6 := H6.out
  refine bodyPost_ret (v := .tuple #[.agg (kcells s), .bool true]) ?_ rfl ⟨rfl, HBEL.out⟩
  simp [results, Try.results28, hl6, asAddr]

set_option maxRecDepth 100000 in
theorem big28 (s : ByteArray) (w : World) (hs : 31 < s.size) (hm : s.size ≤ maxLen) :
    Calls Try.prog 28 #[.string s] w fun e w' => e = .returned (.tuple #[.agg zeros32, .bool false]) ∧ Below w.heap.size w w' := by
  unfold maxLen at hm
  go_enter Try.func28, Try.ntmps28
  go_wp2_with (first
    | (with_reducible show wpList _ _ _ ({ dst := _, op := Op.load 60 _, type := _, pos := _, after := _, guard := _ } :: _) _ _; refine wpList_load_row rfl (.tmp 4) 60 rfl (w.heap.size + 1) 60 zeros32 (0, 0) _ ?e1 ?e2 Try.underlying60 rfl ?e3 ?_)
    | (with_reducible show wpList _ _ _ ({ dst := _, op := Op.store 60 _ _, type := _, pos := _, after := _, guard := _ } :: _) _ _; refine wpList_store_row rfl (.tmp 2) (.tmp 8) 60 rfl w.heap.size 60 zeros32 zeros32 ?f1 ?f2 ?f3 ?f4 ?f5 zeros32_all ?_))
  case e1 => rfl
  case e2 =>
    show ((w.heap.push _).push _)[w.heap.size + 1]? = _
    rw [Array.getElem?_push, if_pos (by simp)]; rfl
  case e3 => exact info60
  go_wp2_with (first
    | (with_reducible show wpList _ _ _ ({ dst := _, op := Op.store 60 _ _, type := _, pos := _, after := _, guard := _ } :: _) _ _; refine wpList_store_row rfl (.tmp 2) (.tmp 8) 60 rfl w.heap.size 60 zeros32 zeros32 ?f1 ?f2 ?f3 ?f4 ?f5 zeros32_all ?_))
  case f3 =>
    show ((w.heap.push _).push _)[w.heap.size]? = _
    rw [Array.getElem?_push, if_neg (by simp), Array.getElem?_push, if_pos rfl]; rfl
  case f4 => exact info60
  case f5 => rfl
  intro w5 hw5
  have hbel : Below w.heap.size w w5 := by
    rw [hw5.out]
    exact below_setRow ((((Below.refl _ _).alloc (Nat.le_refl _) _).alloc (by simp) _)) (Nat.le_refl _) _
  have hw7 : w5.heap[w.heap.size]? = some (.cells zeros32 60 (0, 0)) := by
    rw [hw5.out]
    refine setRow_heap _ _ zeros32 _ _ _ ?_
    show ((w.heap.push _).push _)[w.heap.size]? = _
    rw [Array.getElem?_push, if_neg (by simp), Array.getElem?_push, if_pos rfl]; rfl
  have hl6 := run_loadVar_row (P := Try.prog) w5 w.heap.size 60 60 zeros32 (0, 0) _ hw7 Try.underlying60 rfl info60
  have HBEL := hid hbel
  have H6 := hid hl6
  clear hw5 hbel hw7 hl6
  go_wp2
  have hl6 := H6.out
  refine bodyPost_ret (v := .tuple #[.agg zeros32, .bool false]) ?_ rfl ⟨rfl, HBEL.out⟩
  simp [results, Try.results28, hl6, asAddr]

end Go.Proofs.Qxb6628689a
