/- The engine: maps whose keys are rows of bytes. -/
import Derived.Test.YtnomlnfdmoecoaaDoorEngT5
import Derived.MapKept
import Derived.ChangeKeysEq
set_option linter.unusedVariables false
set_option linter.unusedSimpArgs false
namespace Go.Proofs.Eng
open Go.RowKit
class TMap (P : Program) (t : Nat) (kt et : outParam Nat) : Prop where
  h : P.underlying t = some (.map kt et)
/-- An array of bytes, n of them. -/
class TBytes (P : Program) (t : Nat) (n e : outParam Nat) : Prop where
  h1 : P.underlying t = some (.array n e)
  h2 : P.underlying e = some (.int .u8)
  h3 : (P.info? e).map (fun i => i.size) = some 1
instance : TMap Tryd.prog 71 83 3 := ⟨by kernel_rfl⟩
instance : TBytes Tryd.prog 83 32 5 := ⟨by kernel_rfl, by kernel_rfl, by kernel_rfl⟩
def byV (l : List Int) : Value := .agg (l.map (Value.int .u8)).toArray
theorem by_part {P : Program} {t n e : Nat} [c : TBytes P t n e] (w : World) (l : List Int) (i : Nat) (h : i < l.length) : (part e ((l.map (Value.int .u8)).toArray) i).run P w = .ok (.int .u8 l[i]) w := by
  have hx : ((l.map (Value.int .u8)).toArray)[i]? = some (.int .u8 l[i]) := by simp [h]
  simp [part, isAgg, run_underlying c.h2, hx]
theorem by_items {P : Program} {t n e : Nat} [c : TBytes P t n e] (w : World) (d : Nat) (a b : List Int) (ha : a.length = n) (hb : b.length = n) : ∀ (is : List Nat), (∀ i ∈ is, i < n) →
    (Op.eqItems (d + 1) e 1 ((a.map (Value.int .u8)).toArray) ((b.map (Value.int .u8)).toArray) is).run P w = .ok (is.all (fun i => decide (a[i]? = b[i]?))) w
  | [], _ => by simp [Op.eqItems]
  | i :: is, h => by
    have hi := h i (by simp)
    have ih := by_items (P := P) (t := t) (e := e) w d a b ha hb is (fun j hj => h j (by simp [hj]))
    have e1 : a[i]? = some a[i] := List.getElem?_eq_getElem (by omega)
    have e2 : b[i]? = some b[i] := List.getElem?_eq_getElem (by omega)
    simp only [Op.eqItems, Sem.run_bind, Nat.mul_one, by_part (P := P) (t := t) (e := e) w a i (by omega), by_part (P := P) (t := t) (e := e) w b i (by omega), Result.andThen_ok, run_equalIn_int w d e .u8 .u8 a[i] b[i] c.h2, if_true]
    by_cases hab : a[i] = b[i]
    · have h1 : (a[i] == b[i]) = true := by simp [hab]
      have h2 : decide (a[i]? = b[i]?) = true := by rw [e1, e2, hab]; simp
      rw [h1]
      simp only [List.all_cons, h2, Bool.true_and, Bool.not_true, Bool.false_eq_true, if_false]
      exact ih
    · have h1 : (a[i] == b[i]) = false := by simp [hab]
      have h2 : decide (a[i]? = b[i]?) = false := by rw [e1, e2]; simp [hab]
      rw [h1]
      simp only [List.all_cons, h2, Bool.false_and, Bool.not_false, if_true, Sem.run_pure]
theorem by_all {n : Nat} (a b : List Int) (ha : a.length = n) (hb : b.length = n) : (List.range n).all (fun i => decide (a[i]? = b[i]?)) = decide (a = b) := by
  by_cases h : a = b
  · subst h
    simp
  · rw [decide_eq_false h, List.all_eq_false]
    refine Classical.byContradiction fun hn => h ?_
    refine List.ext_getElem? fun i => ?_
    by_cases hi : i < n
    · refine Classical.byContradiction fun hne => hn ⟨i, List.mem_range.2 hi, by simp [hne]⟩
    · rw [List.getElem?_eq_none (by omega), List.getElem?_eq_none (by omega)]
theorem by_equal {P : Program} {t n e : Nat} [c : TBytes P t n e] (w : World) (a b : List Int) (ha : a.length = n) (hb : b.length = n) : (Op.equal t (byV a) (byV b)).run P w = .ok (decide (a = b)) w := by
  have h3 := c.h3
  cases hi : P.info? e with
  | none => simp [hi] at h3
  | some i =>
    simp [hi] at h3
    have hc : P.cellsOf e = 1 := by simp [Program.cellsOf, hi, h3]
    unfold Op.equal byV
    rw [show Op.maxDepth = 9999 + 1 from rfl, run_equalIn_array w 9999 _ _ c.h1 hi, hc, show (9999 : Nat) = 9998 + 1 from rfl, by_items (P := P) (t := t) (e := e) w 9998 a b ha hb _ (fun i hi => List.mem_range.1 hi), by_all a b ha hb]
theorem by_check {P : Program} {t n e : Nat} [c : TBytes P t n e] (w : World) (em : Bool) (a : List Int) (ha : a.length = n) : (Instr.checkKey em (9999 + 1) t (byV a)).run P w = .ok () w := by
  have h3 := c.h3
  cases hi : P.info? e with
  | none => simp [hi] at h3
  | some i =>
    simp [hi] at h3
    have hs : (sizeOf e).run P w = .ok 1 w := by simp [sizeOf, typeInfo, hi, h3]
    have hk : ∀ v, (Instr.checkKey em 9999 e (.int .u8 v)).run P w = .ok () w := fun v => MapKept.run_checkKey c.h2 (by simp [MapKept.IsKey]) em 9998
    unfold byV
    generalize 9999 = m at hk
    rw [Instr.checkKey]
    simp only [Sem.run_bind, run_underlying c.h1, Result.andThen_ok]
    simp only [Std.Legacy.Range.forIn_eq_forIn_range', Std.Legacy.Range.size, Nat.sub_zero, Nat.add_one_sub_one, Nat.div_one]
    have key : ∀ is : List Nat, (∀ i ∈ is, i < n) → ((forIn is PUnit.unit fun i (_ : PUnit) => do
        let n ← sizeOf e
        let k ← part e ((a.map (Value.int .u8)).toArray) (i * n)
        Instr.checkKey em m e k
        pure (ForInStep.yield PUnit.unit)) : Sem PUnit).run P w = .ok PUnit.unit w := by
      intro is
      induction is with
      | nil => intro _; simp
      | cons j is ih =>
        intro h
        have hj := h j (by simp)
        simp only [List.forIn_cons, Sem.run_bind, hs, Result.andThen_ok, Nat.mul_one, by_part (P := P) (t := t) (e := e) w a j (by omega), hk, Sem.run_pure]
        exact ih (fun i hi => h i (by simp [hi]))
    have := key (List.range' 0 n) (fun i hi => by simpa using hi)
    simp at this ⊢
    rw [this]
    rfl
/-! ### The entries -/
/-- Entries in the order in which they came, with their places as values. -/
def entsF : Nat → List (List Int) → List MapEntry
  | _, [] => []
  | k, h :: hs => ⟨byV h, .int .i64 (k : Nat), k⟩ :: entsF (k + 1) hs
theorem entsF_len : ∀ (k : Nat) (hs : List (List Int)), (entsF k hs).length = hs.length
  | _, [] => rfl
  | k, h :: hs => by simp [entsF, entsF_len (k + 1) hs]
theorem entsF_app : ∀ (k : Nat) (hs : List (List Int)) (h : List Int), entsF k (hs ++ [h]) = entsF k hs ++ [⟨byV h, .int .i64 ((k + hs.length : Nat) : Int), k + hs.length⟩]
  | k, [], h => by simp [entsF]
  | k, x :: hs, h => by
    simp only [List.cons_append, entsF, entsF_app (k + 1) hs h, List.length_cons]
    rw [show k + 1 + hs.length = k + (hs.length + 1) by omega]
theorem by_find {P : Program} {t n e : Nat} [c : TBytes P t n e] (w : World) (h : List Int) (hh : h.length = n) : ∀ (hs : List (List Int)) (k j : Nat), (∀ x ∈ hs, x.length = n) →
    (Instr.findAsking t (byV h) (entsF k hs) j).run P w = .ok (if hs.any (fun x => decide (x = h)) = true then some (j + hs.findIdx (fun x => decide (x = h)), .int .i64 ((k + hs.findIdx (fun x => decide (x = h)) : Nat) : Int)) else none) w
  | [], k, j, _ => by simp [entsF, Instr.findAsking]
  | x :: hs, k, j, hl => by
    have hx := hl x (by simp)
    have ih := by_find (P := P) (t := t) (e := e) w h hh hs (k + 1) (j + 1) (fun y hy => hl y (by simp [hy]))
    simp only [entsF, Instr.findAsking, Sem.run_bind, by_equal (P := P) (t := t) (e := e) w h x hh hx, Result.andThen_ok]
    by_cases hxh : x = h
    · subst hxh
      simp [List.findIdx_cons]
    · have h1 : decide (h = x) = false := decide_eq_false (fun e => hxh e.symm)
      have h2 : decide (x = h) = false := decide_eq_false hxh
      simp only [h1, Bool.false_eq_true, if_false, ih, List.any_cons, h2, Bool.false_or, List.findIdx_cons, cond_false]
      split
      · rw [show j + 1 + hs.findIdx (fun x => decide (x = h)) = j + (hs.findIdx (fun x => decide (x = h)) + 1) by omega, show k + 1 + hs.findIdx (fun x => decide (x = h)) = k + (hs.findIdx (fun x => decide (x = h)) + 1) by omega]
      · rfl
theorem by_findKey {P : Program} {t n e : Nat} [c : TBytes P t n e] (w : World) (h : List Int) (hh : h.length = n) (hs : List (List Int)) (hl : ∀ x ∈ hs, x.length = n) :
    (Instr.findKey t (byV h) (entsF 0 hs)).run P w = .ok (if hs.any (fun x => decide (x = h)) = true then some (hs.findIdx (fun x => decide (x = h)), .int .i64 ((hs.findIdx (fun x => decide (x = h)) : Nat) : Int)) else none) w := by
  have hf := by_find (P := P) (t := t) (e := e) w h hh hs 0 0 hl
  simp only [Nat.zero_add] at hf
  simp only [Instr.findKey, Sem.run_bind, run_underlying c.h1, Result.andThen_ok]
  cases hs with
  | nil => simp [entsF, Instr.findNow]
  | cons x hs =>
    have : Instr.findNow (.array n e) (byV h) (entsF 0 (x :: hs)) 0 = none := by simp [entsF, Instr.findNow, byV, Instr.sameNow]
    rw [this]
    exact hf
/-! ### The operations -/
section
variable {C : Ctx} {E : Env} {Ls Ls' : List Hp} {ks : List Kont} {ops : Array Oper} {rest : List Oper} {ty : Nat} {pos : String} {af : Array Edge} {d : Nat} {dd : Option Nat} {gg : Option (Nat × Bool)}
theorem op_makeMap {t kt et : Nat} [c : TMap C.P t kt et] {x : Operand} {ik : IntKind} {i : Int} (hn : Nat.blt d C.fn.ntmps = true) (hx : ev E x = some (.int ik i))
    (k : ∀ g, C.w0.heap.size ≤ g → Ops C ops rest ks ((d, .map (some g)) :: E) ([⟨g, .map #[] 0⟩] :: Ls)) : Ops C ops (⟨some d, .makeMap t (some x), ty, pos, af, none⟩ :: rest) ks E Ls := by
  refine ⟨fun a w f gs => ?_⟩
  refine wpList_plain rfl fun K hK => ?_
  unfold Oper.wp
  have : (execOp a.eval ⟨some d, .makeMap t (some x), ty, pos, af, none⟩).run C.P w = .ok (.value (.map (some w.heap.size))) (w.alloc (.map #[] 0)) := by
    simp [execOp, Instr.makeMap, underlying, c.h, f.ev hx, asInt, asIntOf]
  rw [this]
  refine hK _ _ ((k _ gs.size).out _ _ (f.put _ (Nat.lt_of_succ_le (by simpa [Nat.blt] using hn))) ?_)
  exact Goes.frame (Lc := []) gs (goes_new w _)
theorem val_lookup {t kt et n e : Nat} [c : TMap C.P t kt et] [cb : TBytes C.P kt n e] [cz : TZero C.P et (.int .i64 0)] {x y : Operand} {b clock : Nat} {hs : List (List Int)} {h : List Int} {r : Value}
    (hx : ev E x = some (.map (some b))) (hy : ev E y = some (byV h)) (hh : Has Ls b (.map (entsF 0 hs).toArray clock)) (hl : h.length = n) (hls : ∀ x ∈ hs, x.length = n)
    (hr : r = if hs.any (fun x => decide (x = h)) = true then .tuple #[.int .i64 ((hs.findIdx (fun x => decide (x = h)) : Nat) : Int), .bool true] else .tuple #[.int .i64 0, .bool false]) :
    ValAt C E Ls ⟨dd, .lookup t x y true, ty, pos, af, gg⟩ r := ⟨fun a w f gs => by
  subst hr
  have hb := gs.now.here _ hh.mem
  have hz : (zeroValue et).run C.P w = .ok (.int .i64 0) w := by
    have := cz.h
    cases hi : C.P.info? et with
    | none => simp [hi] at this
    | some i => simp [hi] at this; simp [zeroValue, typeInfo, hi, this]
  have hf := by_findKey (P := C.P) (t := kt) (e := e) w h hl hs hls
  have hc := fun em => by_check (P := C.P) (t := kt) (e := e) w em h hl
  simp only [execOp, f.ev hx, f.ev hy, Instr.lookup, Sem.run_bind, run_underlying c.h, MapKept.run_getObj_map hb, Result.andThen_ok, Sem.run_pure, hc, hf]
  cases hany : hs.any (fun x => decide (x = h)) <;> simp [hz]⟩
theorem goes_setMap {w : World} {g : Nat} {ob ob' : Obj} (h : w.heap[g]? = some ob) : Goes w [⟨g, ob⟩] { w with heap := w.heap.setIfInBounds g ob' } [⟨g, ob'⟩] := by
  have hlt := (Array.getElem?_eq_some_iff.1 h).1
  refine ⟨rfl, rfl, rfl, by simp, fun k hk hn => ?_, ⟨by simp [ids], ?_⟩, fun k hk => .inl (by simpa [ids] using hk)⟩
  · have : k ≠ g := by simpa [ids] using hn
    simp only
    rw [Array.getElem?_setIfInBounds_ne (fun e => this e.symm)]
  · intro x hx
    obtain rfl := List.mem_singleton.1 hx
    simp only
    rw [Array.getElem?_setIfInBounds_self_of_lt hlt]
/-- A new key. -/
theorem op_mapUpdate {t kt et n e : Nat} [c : TMap C.P t kt et] [cb : TBytes C.P kt n e] {x y z : Operand} {b : Nat} {hs : List (List Int)} {h : List Int}
    (hx : ev E x = some (.map (some b))) (hy : ev E y = some (byV h)) (hz : ev E z = some (.int .i64 (hs.length : Nat))) (hl : h.length = n) (hls : ∀ x ∈ hs, x.length = n) (hnew : hs.any (fun x => decide (x = h)) = false)
    (hsw : Swap Ls [⟨b, .map (entsF 0 hs).toArray hs.length⟩] [⟨b, .map (entsF 0 (hs ++ [h])).toArray (hs ++ [h]).length⟩] Ls') (k : Ops C ops rest ks E Ls') :
    Ops C ops (⟨none, .mapUpdate t x y z, ty, pos, af, none⟩ :: rest) ks E Ls :=
  ops_skip (fun a w f gs => by
    obtain ⟨R, p1, p2⟩ := hsw.perm
    have gs' := gs.le (L' := [⟨b, .map (entsF 0 hs).toArray hs.length⟩] ++ R) (.of_perm p1)
    have hb := gs'.now.here ⟨b, .map (entsF 0 hs).toArray hs.length⟩ (by simp)
    have hf := by_findKey (P := C.P) (t := kt) (e := e) w h hl hs hls
    rw [hnew] at hf
    have hc := fun em => by_check (P := C.P) (t := kt) (e := e) w em h hl
    refine ⟨{ w with heap := w.heap.setIfInBounds b (.map (entsF 0 (hs ++ [h])).toArray (hs ++ [h]).length) }, ?_, (gs'.frame (goes_setMap hb)).le (.of_perm p2.symm)⟩
    simp only [Bool.false_eq_true, if_false] at hf
    simp only [execOp, f.ev hx, f.ev hy, f.ev hz, Instr.mapUpdate, Sem.run_bind, run_underlying c.h, MapKept.run_getObj_map hb, Result.andThen_ok, Sem.run_pure, hc, hf, MapKept.run_setObj_map _ hb]
    rw [entsF_app]
    simp) k
end
end Go.Proofs.Eng
