/- A part of the proof: what functions of the program do, step by step. -/
import Derived.Test.YtnomlnfdmoecoaaDoorH1
set_option linter.unusedVariables false
set_option linter.unusedSimpArgs false
namespace Go.Proofs.Eng
open Go.RowKit
theorem op_store8 {C : Ctx} {ks : List Kont} {E : Env} {Ls Ls' : List Hp} {ops : Array Oper} {rest : List Oper} {ty : Nat} {pos : String} {af : Array Edge} {x y : Operand} {g o t : Nat} {l : List Value} {v : Value} {lt : Nat} [TOne C.P lt] (hx : ev E x = some (.pointer (some ⟨g, o, none⟩))) (hy : ev E y = some v) (h1 : v.oneCell' = true)
    (hs : Swap Ls [⟨g, .cells l.toArray t (0, 0)⟩] [⟨g, .cells (l.set o v).toArray t (0, 0)⟩] Ls') (ho : o < 8) (hl : 8 ≤ l.length) (k : Ops C ops rest ks E Ls') : Ops C ops (⟨none, .store lt x y, ty, pos, af, none⟩ :: rest) ks E Ls :=
  op_store hx hy h1 (by rw [List.setIfInBounds_toArray]; exact hs) (by simp; omega) k
theorem val_sliceLowO {C : Ctx} {E : Env} {ty : Nat} {pos : String} {af : Array Edge} {dd : Option Nat} {gg : Option (Nat × Bool)} {x y : Operand} {t e size bytes : Nat} {z : Value} [c : TSlice C.P t e size bytes z] {g o len cap : Nat} (l : Nat) {ik : IntKind} {i : Int}
    (hx : ev E x = some (.slice (some ⟨g, o, none⟩) len cap)) (hy : ev E y = some (.int ik i)) (hi : i = (l : Nat)) (hb : l ≤ len) {r : Value} (hr : Value.slice (some (if cap = l then ⟨g, o, none⟩ else ⟨g, o + l * size, none⟩)) (len - l) (cap - l) = r) :
    Val C E ⟨dd, .slice t x (some y) none none, ty, pos, af, gg⟩ r := ⟨fun a f w => by
    subst hi
    subst hr
    obtain ⟨ii, hi, hz0, hz1, hz2⟩ := infoParts c.h2
    have h1 : (l : Int) ≤ len := by omega
    have e : (if cap = l then some (⟨g, o, none⟩ : Addr) else (some (⟨g, o, none⟩ : Addr)).map (·.add (l * size))) = some (if cap = l then ⟨g, o, none⟩ else ⟨g, o + l * size, none⟩) := by
      split
      · rfl
      · simp [Addr.add]
    rw [← e]
    simp [execOp, f.ev hx, f.ev hy, Instr.sliceAt, Instr.slice, Instr.sliceBounds, Instr.sliceBound, asIntOf, underlying, c.h1, sizeOf, typeInfo, hi, hz1, h1, hb]⟩
theorem op_sliceLowO {C : Ctx} {ks : List Kont} {E : Env} {Ls : List Hp} {ops : Array Oper} {rest : List Oper} {ty : Nat} {pos : String} {af : Array Edge} {d : Nat} {x y : Operand} {t e size bytes : Nat} {z : Value} [c : TSlice C.P t e size bytes z] {g o len cap : Nat} (l : Nat) {ik : IntKind} {i : Int}
    (hn : Nat.blt d C.fn.ntmps = true) (hx : ev E x = some (.slice (some ⟨g, o, none⟩) len cap)) (hy : ev E y = some (.int ik i)) (hi : i = (l : Nat)) (hb : l ≤ len) {r : Value} (hr : Value.slice (some (if cap = l then ⟨g, o, none⟩ else ⟨g, o + l * size, none⟩)) (len - l) (cap - l) = r)
    (k : Ops C ops rest ks ((d, r) :: E) Ls) : Ops C ops (⟨some d, .slice t x (some y) none none, ty, pos, af, none⟩ :: rest) ks E Ls := op_val hn (val_sliceLowO l hx hy hi hb hr) k
/-! ### What a block makes of eight numbers -/
structure S8 where
  a : Int
  b : Int
  c : Int
  d : Int
  e : Int
  f : Int
  g : Int
  h : Int
def shrN (x : Int) (n : Int) : Int := x.fdiv (2 ^ (min n.toNat IntKind.u32.bits))
def shlN (x : Int) (n : Int) : Int := IntKind.u32.wrap (x * 2 ^ (min n.toNat IntKind.u32.bits))
def xorN (x y : Int) : Int := bitop .xor .u32 x y
def andN (x y : Int) : Int := bitop .and .u32 x y
def orN (x y : Int) : Int := bitop .or .u32 x y
def addN (x y : Int) : Int := IntKind.u32.wrap (x + y)
def notN (x : Int) : Int := bitop .xor .u32 (if IntKind.u32.signed = true then -1 else IntKind.u32.max) x
def byW (b0 b1 b2 b3 : Int) : Int := orN (orN (orN (shlN (IntKind.u32.wrap b0) 24) (shlN (IntKind.u32.wrap b1) 16)) (shlN (IntKind.u32.wrap b2) 8)) (IntKind.u32.wrap b3)
def sg1 (x : Int) : Int := xorN (xorN (rotN x 15) (rotN x 13)) (shrN x 10)
def sg0 (x : Int) : Int := xorN (xorN (rotN x 25) (rotN x 14)) (shrN x 3)
def schW (w2 w15 w7 w16 : Int) : Int := addN (addN (addN (sg1 w2) w7) (sg0 w15)) w16
def t1N (e f g h k w : Int) : Int := addN (addN (addN (addN h (xorN (xorN (rotN e 26) (rotN e 21)) (rotN e 7))) (xorN (andN e f) (andN (notN e) g))) k) w
def t2N (a b c : Int) : Int := addN (xorN (xorN (rotN a 30) (rotN a 19)) (rotN a 10)) (xorN (xorN (andN a b) (andN a c)) (andN b c))
/-- The i-th word. -/
def wAt (pb wv : List Int) (i : Nat) : Int :=
  if i < 16 then byW (pb.getD (i * 4) 0) (pb.getD (i * 4 + 1) 0) (pb.getD (i * 4 + 2) 0) (pb.getD (i * 4 + 3) 0)
  else schW (wv.getD (i - 2) 0) (wv.getD (i - 15) 0) (wv.getD (i - 7) 0) (wv.getD (i - 16) 0)
def rnd8 (s : S8) (k w : Int) : S8 := ⟨addN (t1N s.e s.f s.g s.h k w) (t2N s.a s.b s.c), s.a, s.b, s.c, addN s.d (t1N s.e s.f s.g s.h k w), s.e, s.f, s.g⟩
/-- So many rounds. -/
def rnds (K : Nat → Int) (pb : List Int) (s : S8) : Nat → S8 × List Int
  | 0 => (s, List.replicate 64 0)
  | i + 1 => (rnd8 (rnds K pb s i).1 (K i) (wAt pb (rnds K pb s i).2 i), (rnds K pb s i).2.set i (wAt pb (rnds K pb s i).2 i))
def add8 (s t : S8) : S8 := ⟨addN s.a t.a, addN s.b t.b, addN s.c t.c, addN s.d t.d, addN s.e t.e, addN s.f t.f, addN s.g t.g, addN s.h t.h⟩
/-- So many blocks of 64 bytes. -/
def blks (K : Nat → Int) : Nat → List Int → S8 → S8
  | 0, _, s => s
  | n + 1, pb, s => blks K n (pb.drop 64) (add8 s (rnds K pb s 64).1)
theorem rnds_len (K : Nat → Int) (pb : List Int) (s : S8) : ∀ i, (rnds K pb s i).2.length = 64
  | 0 => by simp [rnds]
  | i + 1 => by simp [rnds, rnds_len K pb s i]
def s8V (s : S8) : List Value := [.int .u32 s.a, .int .u32 s.b, .int .u32 s.c, .int .u32 s.d, .int .u32 s.e, .int .u32 s.f, .int .u32 s.g, .int .u32 s.h]
def u32V (l : List Int) : List Value := l.map (Value.int .u32)
@[simp] theorem u32V_len (l : List Int) : (u32V l).length = l.length := by simp [u32V]
theorem u32V_get {l : List Int} {i : Nat} (h : i < l.length) : aget (u32V l).toArray i = some (.int .u32 (l.getD i 0)) := by
  rw [aget_eq, List.getElem?_toArray, u32V, List.getElem?_map, List.getElem?_eq_getElem h, List.getD, List.getElem?_eq_getElem h]
  rfl
theorem u32V_set {l : List Int} {i : Nat} {v : Int} : (u32V l).toArray.setIfInBounds i (.int .u32 v) = (u32V (l.set i v)).toArray := by simp [u32V]
set_option maxRecDepth 100000 in
set_option maxHeartbeats 32000000 in
theorem block_any (w : World) (q g o n cap : Nat) (K : Nat → Int) (kv : List Value) (pb : List Int) (s : S8) (rest : List Value) (hn : pb.length = n * 64) (hn2 : n ≤ 10000) (hcap : n * 64 ≤ cap) (B : Nat) (hBw : B ≤ w.heap.size) (hBq : B ≤ q)
    (hK : RdB w B 1 kv) (hkv : ∀ i, i < 64 → kv[i]? = some (.int .u32 (K i)))
    (hp : (g ≠ q ∧ ∀ (j : Nat) (v : Int), pb[j]? = some v → w.cell? ⟨g, o + j, none⟩ = some (.int .u8 v)) ∨ (g = q ∧ ∀ (j : Nat) (v : Int), pb[j]? = some v → aget (s8V s ++ rest).toArray (o + j) = some (.int .u8 v)))
    (hw : At w ([[⟨q, .cells (s8V s ++ rest).toArray 135 (0, 0)⟩]] : List Hp).flatten) :
    Calls Tryd.prog 64 #[.pointer (some ⟨q, 0, none⟩), .slice (some ⟨g, o, none⟩) (n * 64) cap] w (Post w ([[⟨q, .cells (s8V s ++ rest).toArray 135 (0, 0)⟩]] : List Hp).flatten (fun _ : Unit => .tuple #[]) (fun _ => ([[⟨q, .cells (s8V (blks K n pb s) ++ rest).toArray 135 (0, 0)⟩]] : List Hp).flatten) (fun _ => True)) := by
  refine enter [[⟨q, .cells (s8V s ++ rest).toArray 135 (0, 0)⟩]] Tryd.func64 rfl rfl hw (Le.refl _) ?_
  intro R hR
  have hL0 : ∀ k ∈ ids ([[⟨q, .cells (s8V s ++ rest).toArray 135 (0, 0)⟩]] : List Hp).flatten, B ≤ k := by
    intro k hk
    simp [ids] at hk
    subst hk
    exact hBq
  have PC : ∀ (C : Ctx), C.w0 = w → C.L0 = ([[⟨q, .cells (s8V s ++ rest).toArray 135 (0, 0)⟩]] : List Hp).flatten → ∀ (Ls : List Hp), Has Ls q (.cells (s8V s ++ rest).toArray 135 (0, 0)) → ∀ (j : Nat) (v : Int), pb[j]? = some v → Cell C Ls ⟨g, o + j, none⟩ (.int .u8 v) := by
    intro C e1 e2 Ls hh j v hv
    rcases hp with ⟨h1, h2⟩ | ⟨rfl, h2⟩
    · exact cell_of_old (by rw [e1]; exact h2 j v hv) (fun hm => by rw [e2] at hm; exact h1 (by simpa [ids] using hm))
    · exact cell_of_has hh (h2 j v hv)
  have PC1 := PC ⟨Tryd.prog, Tryd.f64, R, w, ([[⟨q, .cells (s8V s ++ rest).toArray 135 (0, 0)⟩]] : List Hp).flatten⟩ rfl rfl
  have hK1 : ∀ (i : Nat), i < 64 → ∀ Ls, Cell ⟨Tryd.prog, Tryd.f64, R, w, ([[⟨q, .cells (s8V s ++ rest).toArray 135 (0, 0)⟩]] : List Hp).flatten⟩ Ls ⟨1, 0 + ((i : Nat) : Int).toNat * 1, none⟩ (.int .u32 (K i)) := fun i hi Ls => RdB.cellE hK hL0 (by omega) (hkv i hi)
  clear PC hp
  refine run_seq ?_
  refine run_region rfl ?_
  (refine op_alloc rfl ?_; intro _ _)
  refine ops_nil ?_
  refine fin_code ?_
  refine run_seq ?_
  rename_i gw hgw
  refine run_drawS [[⟨q, .cells (s8V s ++ rest).toArray 135 (0, 0)⟩]] (by kernel_rfl) ?_
  refine dr_stab 0 rfl rfl (Val.s (val_move rfl)) (by decide +kernel) rfl rfl ?_
  refine dr_stab 1 rfl rfl (Val.s (val_nilCheck rfl)) (by decide +kernel) rfl rfl ?_
  refine dr_stab 2 rfl rfl (Val.s (val_fieldAddr rfl)) (by decide +kernel) rfl rfl ?_
  refine dr_stab 3 rfl rfl (Val.s (val_indexP rfl rfl (by omega))) (by decide +kernel) rfl rfl ?_
  (apply dr_stab 4; (· exact rfl); (· exact rfl); (· apply ValAt.s; (first | (apply val_load; (· exact rfl); (· apply cell_of_has; (· (repeat (first | exact Has.here | apply Has.there))); (· first | exact rfl | exact hw2 | exact hw15 | exact hw7 | exact hw16 | exact hwi))) | (apply val_load; (· exact rfl); (· first | exact hp0 _ (by (repeat (first | exact Has.here | apply Has.there))) | exact hp1 _ (by (repeat (first | exact Has.here | apply Has.there))) | exact hp2 _ (by (repeat (first | exact Has.here | apply Has.there))) | exact hp3 _ (by (repeat (first | exact Has.here | apply Has.there))) | exact hKc _)))); (· decide +kernel); (· exact rfl); (· exact rfl))
  refine dr_stab 5 rfl rfl (Val.s (val_move rfl)) (by decide +kernel) rfl rfl ?_
  refine dr_stab 6 rfl rfl (Val.s (val_nilCheck rfl)) (by decide +kernel) rfl rfl ?_
  refine dr_stab 7 rfl rfl (Val.s (val_fieldAddr rfl)) (by decide +kernel) rfl rfl ?_
  refine dr_stab 8 rfl rfl (Val.s (val_indexP rfl rfl (by omega))) (by decide +kernel) rfl rfl ?_
  (apply dr_stab 9; (· exact rfl); (· exact rfl); (· apply ValAt.s; (first | (apply val_load; (· exact rfl); (· apply cell_of_has; (· (repeat (first | exact Has.here | apply Has.there))); (· first | exact rfl | exact hw2 | exact hw15 | exact hw7 | exact hw16 | exact hwi))) | (apply val_load; (· exact rfl); (· first | exact hp0 _ (by (repeat (first | exact Has.here | apply Has.there))) | exact hp1 _ (by (repeat (first | exact Has.here | apply Has.there))) | exact hp2 _ (by (repeat (first | exact Has.here | apply Has.there))) | exact hp3 _ (by (repeat (first | exact Has.here | apply Has.there))) | exact hKc _)))); (· decide +kernel); (· exact rfl); (· exact rfl))
  refine dr_stab 10 rfl rfl (Val.s (val_move rfl)) (by decide +kernel) rfl rfl ?_
  refine dr_stab 11 rfl rfl (Val.s (val_nilCheck rfl)) (by decide +kernel) rfl rfl ?_
  refine dr_stab 12 rfl rfl (Val.s (val_fieldAddr rfl)) (by decide +kernel) rfl rfl ?_
  refine dr_stab 13 rfl rfl (Val.s (val_indexP rfl rfl (by omega))) (by decide +kernel) rfl rfl ?_
  (apply dr_stab 14; (· exact rfl); (· exact rfl); (· apply ValAt.s; (first | (apply val_load; (· exact rfl); (· apply cell_of_has; (· (repeat (first | exact Has.here | apply Has.there))); (· first | exact rfl | exact hw2 | exact hw15 | exact hw7 | exact hw16 | exact hwi))) | (apply val_load; (· exact rfl); (· first | exact hp0 _ (by (repeat (first | exact Has.here | apply Has.there))) | exact hp1 _ (by (repeat (first | exact Has.here | apply Has.there))) | exact hp2 _ (by (repeat (first | exact Has.here | apply Has.there))) | exact hp3 _ (by (repeat (first | exact Has.here | apply Has.there))) | exact hKc _)))); (· decide +kernel); (· exact rfl); (· exact rfl))
  refine dr_stab 15 rfl rfl (Val.s (val_move rfl)) (by decide +kernel) rfl rfl ?_
  refine dr_stab 16 rfl rfl (Val.s (val_nilCheck rfl)) (by decide +kernel) rfl rfl ?_
  refine dr_stab 17 rfl rfl (Val.s (val_fieldAddr rfl)) (by decide +kernel) rfl rfl ?_
  refine dr_stab 18 rfl rfl (Val.s (val_indexP rfl rfl (by omega))) (by decide +kernel) rfl rfl ?_
  (apply dr_stab 19; (· exact rfl); (· exact rfl); (· apply ValAt.s; (first | (apply val_load; (· exact rfl); (· apply cell_of_has; (· (repeat (first | exact Has.here | apply Has.there))); (· first | exact rfl | exact hw2 | exact hw15 | exact hw7 | exact hw16 | exact hwi))) | (apply val_load; (· exact rfl); (· first | exact hp0 _ (by (repeat (first | exact Has.here | apply Has.there))) | exact hp1 _ (by (repeat (first | exact Has.here | apply Has.there))) | exact hp2 _ (by (repeat (first | exact Has.here | apply Has.there))) | exact hp3 _ (by (repeat (first | exact Has.here | apply Has.there))) | exact hKc _)))); (· decide +kernel); (· exact rfl); (· exact rfl))
  refine dr_stab 20 rfl rfl (Val.s (val_move rfl)) (by decide +kernel) rfl rfl ?_
  refine dr_stab 21 rfl rfl (Val.s (val_nilCheck rfl)) (by decide +kernel) rfl rfl ?_
  refine dr_stab 22 rfl rfl (Val.s (val_fieldAddr rfl)) (by decide +kernel) rfl rfl ?_
  refine dr_stab 23 rfl rfl (Val.s (val_indexP rfl rfl (by omega))) (by decide +kernel) rfl rfl ?_
  (apply dr_stab 24; (· exact rfl); (· exact rfl); (· apply ValAt.s; (first | (apply val_load; (· exact rfl); (· apply cell_of_has; (· (repeat (first | exact Has.here | apply Has.there))); (· first | exact rfl | exact hw2 | exact hw15 | exact hw7 | exact hw16 | exact hwi))) | (apply val_load; (· exact rfl); (· first | exact hp0 _ (by (repeat (first | exact Has.here | apply Has.there))) | exact hp1 _ (by (repeat (first | exact Has.here | apply Has.there))) | exact hp2 _ (by (repeat (first | exact Has.here | apply Has.there))) | exact hp3 _ (by (repeat (first | exact Has.here | apply Has.there))) | exact hKc _)))); (· decide +kernel); (· exact rfl); (· exact rfl))
  refine dr_stab 25 rfl rfl (Val.s (val_move rfl)) (by decide +kernel) rfl rfl ?_
  refine dr_stab 26 rfl rfl (Val.s (val_nilCheck rfl)) (by decide +kernel) rfl rfl ?_
  refine dr_stab 27 rfl rfl (Val.s (val_fieldAddr rfl)) (by decide +kernel) rfl rfl ?_
  refine dr_stab 28 rfl rfl (Val.s (val_indexP rfl rfl (by omega))) (by decide +kernel) rfl rfl ?_
  (apply dr_stab 29; (· exact rfl); (· exact rfl); (· apply ValAt.s; (first | (apply val_load; (· exact rfl); (· apply cell_of_has; (· (repeat (first | exact Has.here | apply Has.there))); (· first | exact rfl | exact hw2 | exact hw15 | exact hw7 | exact hw16 | exact hwi))) | (apply val_load; (· exact rfl); (· first | exact hp0 _ (by (repeat (first | exact Has.here | apply Has.there))) | exact hp1 _ (by (repeat (first | exact Has.here | apply Has.there))) | exact hp2 _ (by (repeat (first | exact Has.here | apply Has.there))) | exact hp3 _ (by (repeat (first | exact Has.here | apply Has.there))) | exact hKc _)))); (· decide +kernel); (· exact rfl); (· exact rfl))
  refine dr_stab 30 rfl rfl (Val.s (val_move rfl)) (by decide +kernel) rfl rfl ?_
  refine dr_stab 31 rfl rfl (Val.s (val_nilCheck rfl)) (by decide +kernel) rfl rfl ?_
  refine dr_stab 32 rfl rfl (Val.s (val_fieldAddr rfl)) (by decide +kernel) rfl rfl ?_
  refine dr_stab 33 rfl rfl (Val.s (val_indexP rfl rfl (by omega))) (by decide +kernel) rfl rfl ?_
  (apply dr_stab 34; (· exact rfl); (· exact rfl); (· apply ValAt.s; (first | (apply val_load; (· exact rfl); (· apply cell_of_has; (· (repeat (first | exact Has.here | apply Has.there))); (· first | exact rfl | exact hw2 | exact hw15 | exact hw7 | exact hw16 | exact hwi))) | (apply val_load; (· exact rfl); (· first | exact hp0 _ (by (repeat (first | exact Has.here | apply Has.there))) | exact hp1 _ (by (repeat (first | exact Has.here | apply Has.there))) | exact hp2 _ (by (repeat (first | exact Has.here | apply Has.there))) | exact hp3 _ (by (repeat (first | exact Has.here | apply Has.there))) | exact hKc _)))); (· decide +kernel); (· exact rfl); (· exact rfl))
  refine dr_stab 35 rfl rfl (Val.s (val_move rfl)) (by decide +kernel) rfl rfl ?_
  refine dr_stab 36 rfl rfl (Val.s (val_nilCheck rfl)) (by decide +kernel) rfl rfl ?_
  refine dr_stab 37 rfl rfl (Val.s (val_fieldAddr rfl)) (by decide +kernel) rfl rfl ?_
  refine dr_stab 38 rfl rfl (Val.s (val_indexP rfl rfl (by omega))) (by decide +kernel) rfl rfl ?_
  (apply dr_stab 39; (· exact rfl); (· exact rfl); (· apply ValAt.s; (first | (apply val_load; (· exact rfl); (· apply cell_of_has; (· (repeat (first | exact Has.here | apply Has.there))); (· first | exact rfl | exact hw2 | exact hw15 | exact hw7 | exact hw16 | exact hwi))) | (apply val_load; (· exact rfl); (· first | exact hp0 _ (by (repeat (first | exact Has.here | apply Has.there))) | exact hp1 _ (by (repeat (first | exact Has.here | apply Has.there))) | exact hp2 _ (by (repeat (first | exact Has.here | apply Has.there))) | exact hp3 _ (by (repeat (first | exact Has.here | apply Has.there))) | exact hKc _)))); (· decide +kernel); (· exact rfl); (· exact rfl))
  refine dr_stab 40 rfl rfl (Val.s (val_assign rfl)) (by decide +kernel) rfl rfl ?_
  refine dr_stab 41 rfl rfl (Val.s (val_assign rfl)) (by decide +kernel) rfl rfl ?_
  refine dr_stab 42 rfl rfl (Val.s (val_assign rfl)) (by decide +kernel) rfl rfl ?_
  refine dr_stab 43 rfl rfl (Val.s (val_assign rfl)) (by decide +kernel) rfl rfl ?_
  refine dr_stab 44 rfl rfl (Val.s (val_assign rfl)) (by decide +kernel) rfl rfl ?_
  refine dr_stab 45 rfl rfl (Val.s (val_assign rfl)) (by decide +kernel) rfl rfl ?_
  refine dr_stab 46 rfl rfl (Val.s (val_assign rfl)) (by decide +kernel) rfl rfl ?_
  refine dr_stab 47 rfl rfl (Val.s (val_assign rfl)) (by decide +kernel) rfl rfl ?_
  (refine dr_done (by decide +kernel) (by (apply le_of_picks; (repeat (first | exact Picks.nil | (apply Picks.cons; (· (repeat (first | exact Pick.here | apply Pick.there)))) | apply Picks.empty)))) ?_)
  refine fin_code ?_
  refine run_seq ?_
  refine run_block ?_
  refine run_loop (α := Nat × Nat × S8 × List Int) (fun x => [(0, .pointer (some ⟨q, 0, none⟩)), (1, .slice (some ⟨g, x.2.1, none⟩) ((n - x.1) * 64) (cap - x.1 * 64)), (4, .pointer (some ⟨gw, 0, none⟩)), (5, .int .u32 x.2.2.1.a), (6, .int .u32 x.2.2.1.b), (7, .int .u32 x.2.2.1.c), (8, .int .u32 x.2.2.1.d), (9, .int .u32 x.2.2.1.e), (10, .int .u32 x.2.2.1.f), (11, .int .u32 x.2.2.1.g), (12, .int .u32 x.2.2.1.h)])
    (fun x => [[⟨q, .cells (s8V s ++ rest).toArray 135 (0, 0)⟩], [⟨gw, .cells (u32V x.2.2.2).toArray 160 (0, 0)⟩]])
    (fun x => x.1 ≤ n ∧ (x.1 < n → x.2.1 = o + x.1 * 64) ∧ blks K n pb s = blks K (n - x.1) (pb.drop (x.1 * 64)) x.2.2.1 ∧ x.2.2.2.length = 64) (fun x => n - x.1) (0, o, s, List.replicate 64 0) ⟨Nat.zero_le _, by intro _; simp, by simp, by simp⟩ (by (repeat (first | exact Sub.nil _ | (refine Sub.cons rfl ?_)))) (by (apply le_of_picks; (repeat (first | exact Picks.nil | (apply Picks.cons; (· (repeat (first | exact Pick.here | apply Pick.there)))) | apply Picks.empty)))) ?_
  rintro ⟨k, ok, hs, wv⟩ ⟨hk, hok, hbl, hwl⟩
  dsimp only at hk hok hbl hwl ⊢
  by_cases hkn : k < n
  · have hok := hok hkn
    obtain ⟨pk, hpk⟩ : ∃ pk, pk = pb.drop (k * 64) := ⟨_, rfl⟩
    have hpl : 64 ≤ pk.length := by rw [hpk, List.length_drop]; omega
    have hpg : ∀ j, j < 64 → pb[k * 64 + j]? = some (pk.getD j 0) := by
      intro j hj
      rw [hpk, List.getD, List.getElem?_drop, List.getElem?_eq_getElem (by omega)]
      rfl
    rw [← hpk] at hbl
    refine run_seq ?_
    refine run_seq ?_
    refine run_region rfl ?_
    refine op_move rfl rfl ?_
    refine op_len rfl rfl ?_
    refine op_cmp_t rfl rfl rfl rfl (by first | (simp only [cmpP]; done) | (simp only [cmpP]; omega)) ?_
    refine ops_nil ?_
    refine fin_code ?_
    refine run_cond_t rfl ?_
    refine run_skip ?_
    refine fin_code ?_
    refine run_block ?_
    refine run_seq ?_
    refine run_region rfl ?_
    refine op_move rfl rfl ?_
    refine op_move rfl rfl ?_
    refine op_move rfl rfl ?_
    refine op_move rfl rfl ?_
    refine op_move rfl rfl ?_
    refine op_move rfl rfl ?_
    refine op_move rfl rfl ?_
    refine op_move rfl rfl ?_
    refine op_assign rfl rfl ?_
    refine op_assign rfl rfl ?_
    refine op_assign rfl rfl ?_
    refine op_assign rfl rfl ?_
    refine op_assign rfl rfl ?_
    refine op_assign rfl rfl ?_
    refine op_assign rfl rfl ?_
    refine op_assign rfl rfl ?_
    refine ops_nil ?_
    refine fin_code ?_
    refine run_seq ?_
    refine run_seq ?_
    refine run_region rfl ?_
    refine op_move rfl rfl ?_
    refine ops_nil ?_
    refine fin_code ?_
    refine run_block ?_
    refine run_loop (α := Nat × S8 × List Int) (fun x => [(0, .pointer (some ⟨q, 0, none⟩)), (1, .slice (some ⟨g, ok, none⟩) ((n - k) * 64) (cap - k * 64)), (4, .pointer (some ⟨gw, 0, none⟩)), (5, .int .u32 hs.a), (6, .int .u32 hs.b), (7, .int .u32 hs.c), (8, .int .u32 hs.d), (9, .int .u32 hs.e), (10, .int .u32 hs.f), (11, .int .u32 hs.g), (12, .int .u32 hs.h), (13, .int .u32 x.2.1.a), (14, .int .u32 x.2.1.b), (15, .int .u32 x.2.1.c), (16, .int .u32 x.2.1.d), (17, .int .u32 x.2.1.e), (18, .int .u32 x.2.1.f), (19, .int .u32 x.2.1.g), (20, .int .u32 x.2.1.h), (80, .int .i64 (x.1 : Nat))])
      (fun x => [[⟨q, .cells (s8V s ++ rest).toArray 135 (0, 0)⟩], [⟨gw, .cells (u32V x.2.2).toArray 160 (0, 0)⟩]])
      (fun x => x.1 ≤ 64 ∧ x.2.1 = (rnds K pk hs x.1).1 ∧ x.2.2.length = 64 ∧ ∀ j, j < x.1 → x.2.2.getD j 0 = (rnds K pk hs x.1).2.getD j 0) (fun x => 64 - x.1) (0, hs, wv) ⟨by omega, rfl, hwl, by intro j hj; omega⟩ (by (repeat (first | exact Sub.nil _ | (refine Sub.cons rfl ?_)))) (by (apply le_of_picks; (repeat (first | exact Picks.nil | (apply Picks.cons; (· (repeat (first | exact Pick.here | apply Pick.there)))) | apply Picks.empty)))) ?_
    clear hwl wv
    rintro ⟨i, st, wv⟩ ⟨hi, hst, hwl, hwv⟩
    dsimp only at hi hst hwl hwv ⊢
    by_cases hi64 : i < 64
    · have hwA : wAt pk wv i = wAt pk (rnds K pk hs i).2 i := by
        unfold wAt
        split
        · rfl
        · rw [hwv _ (by omega), hwv _ (by omega), hwv _ (by omega), hwv _ (by omega)]
      refine run_seq ?_
      refine run_region rfl ?_
      refine op_cmp_t rfl rfl rfl rfl (by first | (simp only [cmpP]; done) | (simp only [cmpP]; omega)) ?_
      refine ops_nil ?_
      refine fin_code ?_
      refine run_seq ?_
      refine run_cond_t rfl ?_
      refine run_skip ?_
      refine fin_code ?_
      refine run_seq ?_
      refine run_block ?_
      refine run_seq ?_
      refine run_region rfl ?_
      refine op_move rfl rfl ?_
      refine op_assign rfl rfl ?_
      refine ops_nil ?_
      refine fin_code ?_
      refine run_seq ?_
      refine run_seq ?_
      refine run_region rfl ?_
      refine op_move rfl rfl ?_
      refine ops_join1 (α := Unit) (fun _ => [(0, .pointer (some ⟨q, 0, none⟩)), (1, .slice (some ⟨g, ok, none⟩) ((n - k) * 64) (cap - k * 64)), (4, .pointer (some ⟨gw, 0, none⟩)), (5, .int .u32 hs.a), (6, .int .u32 hs.b), (7, .int .u32 hs.c), (8, .int .u32 hs.d), (9, .int .u32 hs.e), (10, .int .u32 hs.f), (11, .int .u32 hs.g), (12, .int .u32 hs.h), (13, .int .u32 st.a), (14, .int .u32 st.b), (15, .int .u32 st.c), (16, .int .u32 st.d), (17, .int .u32 st.e), (18, .int .u32 st.f), (19, .int .u32 st.g), (20, .int .u32 st.h), (21, .int .i64 (i : Nat)), (80, .int .i64 (i : Nat))])
        (fun _ => [[⟨q, .cells (s8V s ++ rest).toArray 135 (0, 0)⟩], [⟨gw, .cells (u32V (wv.set i (wAt pk wv i))).toArray 160 (0, 0)⟩]]) (fun _ => True) ?_ ?_
      rotate_left 1
      · intro J
        have J1 := J () trivial
        by_cases hi16 : i < 16
        · have ew : wAt pk wv i = byW (pk.getD (i * 4) 0) (pk.getD (i * 4 + 1) 0) (pk.getD (i * 4 + 2) 0) (pk.getD (i * 4 + 3) 0) := by unfold wAt; rw [if_pos hi16]
          rw [ew] at J1
          have hp0 : ∀ Ls, Has Ls q (.cells (s8V s ++ rest).toArray 135 (0, 0)) → Cell ⟨Tryd.prog, Tryd.f64, R, w, ([[⟨q, .cells (s8V s ++ rest).toArray 135 (0, 0)⟩]] : List Hp).flatten⟩ Ls ⟨g, ok + ((i : Int) * 4).toNat * 1, none⟩ (.int .u8 (pk.getD (i * 4) 0)) := fun Ls h => by
            rw [show ok + ((i : Int) * 4).toNat * 1 = o + (k * 64 + i * 4) by omega]
            exact PC1 Ls h _ _ (hpg _ (by omega))
          have hp1 : ∀ Ls, Has Ls q (.cells (s8V s ++ rest).toArray 135 (0, 0)) → Cell ⟨Tryd.prog, Tryd.f64, R, w, ([[⟨q, .cells (s8V s ++ rest).toArray 135 (0, 0)⟩]] : List Hp).flatten⟩ Ls ⟨g, ok + ((i : Int) * 4 + 1).toNat * 1, none⟩ (.int .u8 (pk.getD (i * 4 + 1) 0)) := fun Ls h => by
            rw [show ok + ((i : Int) * 4 + 1).toNat * 1 = o + (k * 64 + (i * 4 + 1)) by omega]
            exact PC1 Ls h _ _ (hpg _ (by omega))
          have hp2 : ∀ Ls, Has Ls q (.cells (s8V s ++ rest).toArray 135 (0, 0)) → Cell ⟨Tryd.prog, Tryd.f64, R, w, ([[⟨q, .cells (s8V s ++ rest).toArray 135 (0, 0)⟩]] : List Hp).flatten⟩ Ls ⟨g, ok + ((i : Int) * 4 + 2).toNat * 1, none⟩ (.int .u8 (pk.getD (i * 4 + 2) 0)) := fun Ls h => by
            rw [show ok + ((i : Int) * 4 + 2).toNat * 1 = o + (k * 64 + (i * 4 + 2)) by omega]
            exact PC1 Ls h _ _ (hpg _ (by omega))
          have hp3 : ∀ Ls, Has Ls q (.cells (s8V s ++ rest).toArray 135 (0, 0)) → Cell ⟨Tryd.prog, Tryd.f64, R, w, ([[⟨q, .cells (s8V s ++ rest).toArray 135 (0, 0)⟩]] : List Hp).flatten⟩ Ls ⟨g, ok + ((i : Int) * 4 + 3).toNat * 1, none⟩ (.int .u8 (pk.getD (i * 4 + 3) 0)) := fun Ls h => by
            rw [show ok + ((i : Int) * 4 + 3).toNat * 1 = o + (k * 64 + (i * 4 + 3)) by omega]
            exact PC1 Ls h _ _ (hpg _ (by omega))
          refine op_cmp_t rfl rfl rfl rfl (by first | (simp only [cmpP]; done) | (simp only [cmpP]; omega)) ?_
          refine ops_nil ?_
          refine fin_code ?_
          refine run_cond_t rfl ?_
          refine run_seq ?_
          refine run_region rfl ?_
          refine op_move rfl rfl ?_
          (refine op_mul rfl rfl rfl (by simp only [kLo, kHi]; omega) ?_)
          refine op_assign rfl rfl ?_
          refine ops_nil ?_
          refine fin_code ?_
          refine run_drawS [[⟨q, .cells (s8V s ++ rest).toArray 135 (0, 0)⟩]] (by kernel_rfl) ?_
          refine dr_stab 0 rfl rfl (Val.s (val_move rfl)) (by decide +kernel) rfl rfl ?_
          refine dr_stab 1 rfl rfl (Val.s (val_move rfl)) (by decide +kernel) rfl rfl ?_
          refine dr_stab 2 rfl rfl (Val.s (val_move rfl)) (by decide +kernel) rfl rfl ?_
          refine dr_stab 3 rfl rfl (Val.s (val_index rfl rfl (by omega) (by first | (rw [Int.toNat_natCast, Nat.mul_one, Nat.zero_add]) | (rw [Int.toNat_natCast, Nat.mul_one]) | (rw [Int.toNat_natCast, Nat.zero_add]) | (rw [Int.toNat_natCast]) | exact rfl))) (by decide +kernel) rfl rfl ?_
          (apply dr_stab 4; (· exact rfl); (· exact rfl); (· apply ValAt.s; (first | (apply val_load; (· exact rfl); (· apply cell_of_has; (· (repeat (first | exact Has.here | apply Has.there))); (· first | exact rfl | exact hw2 | exact hw15 | exact hw7 | exact hw16 | exact hwi))) | (apply val_load; (· exact rfl); (· first | exact hp0 _ (by (repeat (first | exact Has.here | apply Has.there))) | exact hp1 _ (by (repeat (first | exact Has.here | apply Has.there))) | exact hp2 _ (by (repeat (first | exact Has.here | apply Has.there))) | exact hp3 _ (by (repeat (first | exact Has.here | apply Has.there))) | exact hKc _)))); (· decide +kernel); (· exact rfl); (· exact rfl))
          (apply dr_stab 5; (· exact rfl); (· exact rfl); (· apply Val.s; first | first | exact val_convw rfl | exact val_shl rfl rfl (by omega) | exact val_bits rfl rfl rfl | exact val_complE rfl rfl | exact val_addw rfl rfl | exact val_shr rfl rfl (by omega)); (· decide +kernel); (· exact rfl); (· exact rfl))
          (apply dr_stab 6; (· exact rfl); (· exact rfl); (· apply Val.s; first | first | exact val_convw rfl | exact val_shl rfl rfl (by omega) | exact val_bits rfl rfl rfl | exact val_complE rfl rfl | exact val_addw rfl rfl | exact val_shr rfl rfl (by omega)); (· decide +kernel); (· exact rfl); (· exact rfl))
          refine dr_stab 7 rfl rfl (Val.s (val_move rfl)) (by decide +kernel) rfl rfl ?_
          refine dr_stab 8 rfl rfl (Val.s (val_move rfl)) (by decide +kernel) rfl rfl ?_
          refine dr_stab 9 rfl rfl (Val.s (val_add rfl rfl (by simp only [kLo, kHi]; omega))) (by decide +kernel) rfl rfl ?_
          refine dr_stab 10 rfl rfl (Val.s (val_index rfl rfl (by omega) (by first | (rw [Int.toNat_natCast, Nat.mul_one, Nat.zero_add]) | (rw [Int.toNat_natCast, Nat.mul_one]) | (rw [Int.toNat_natCast, Nat.zero_add]) | (rw [Int.toNat_natCast]) | exact rfl))) (by decide +kernel) rfl rfl ?_
          (apply dr_stab 11; (· exact rfl); (· exact rfl); (· apply ValAt.s; (first | (apply val_load; (· exact rfl); (· apply cell_of_has; (· (repeat (first | exact Has.here | apply Has.there))); (· first | exact rfl | exact hw2 | exact hw15 | exact hw7 | exact hw16 | exact hwi))) | (apply val_load; (· exact rfl); (· first | exact hp0 _ (by (repeat (first | exact Has.here | apply Has.there))) | exact hp1 _ (by (repeat (first | exact Has.here | apply Has.there))) | exact hp2 _ (by (repeat (first | exact Has.here | apply Has.there))) | exact hp3 _ (by (repeat (first | exact Has.here | apply Has.there))) | exact hKc _)))); (· decide +kernel); (· exact rfl); (· exact rfl))
          (apply dr_stab 12; (· exact rfl); (· exact rfl); (· apply Val.s; first | first | exact val_convw rfl | exact val_shl rfl rfl (by omega) | exact val_bits rfl rfl rfl | exact val_complE rfl rfl | exact val_addw rfl rfl | exact val_shr rfl rfl (by omega)); (· decide +kernel); (· exact rfl); (· exact rfl))
          (apply dr_stab 13; (· exact rfl); (· exact rfl); (· apply Val.s; first | first | exact val_convw rfl | exact val_shl rfl rfl (by omega) | exact val_bits rfl rfl rfl | exact val_complE rfl rfl | exact val_addw rfl rfl | exact val_shr rfl rfl (by omega)); (· decide +kernel); (· exact rfl); (· exact rfl))
          (apply dr_stab 14; (· exact rfl); (· exact rfl); (· apply Val.s; first | first | exact val_convw rfl | exact val_shl rfl rfl (by omega) | exact val_bits rfl rfl rfl | exact val_complE rfl rfl | exact val_addw rfl rfl | exact val_shr rfl rfl (by omega)); (· decide +kernel); (· exact rfl); (· exact rfl))
          refine dr_stab 15 rfl rfl (Val.s (val_move rfl)) (by decide +kernel) rfl rfl ?_
          refine dr_stab 16 rfl rfl (Val.s (val_move rfl)) (by decide +kernel) rfl rfl ?_
          refine dr_stab 17 rfl rfl (Val.s (val_add rfl rfl (by simp only [kLo, kHi]; omega))) (by decide +kernel) rfl rfl ?_
          refine dr_stab 18 rfl rfl (Val.s (val_index rfl rfl (by omega) (by first | (rw [Int.toNat_natCast, Nat.mul_one, Nat.zero_add]) | (rw [Int.toNat_natCast, Nat.mul_one]) | (rw [Int.toNat_natCast, Nat.zero_add]) | (rw [Int.toNat_natCast]) | exact rfl))) (by decide +kernel) rfl rfl ?_
          (apply dr_stab 19; (· exact rfl); (· exact rfl); (· apply ValAt.s; (first | (apply val_load; (· exact rfl); (· apply cell_of_has; (· (repeat (first | exact Has.here | apply Has.there))); (· first | exact rfl | exact hw2 | exact hw15 | exact hw7 | exact hw16 | exact hwi))) | (apply val_load; (· exact rfl); (· first | exact hp0 _ (by (repeat (first | exact Has.here | apply Has.there))) | exact hp1 _ (by (repeat (first | exact Has.here | apply Has.there))) | exact hp2 _ (by (repeat (first | exact Has.here | apply Has.there))) | exact hp3 _ (by (repeat (first | exact Has.here | apply Has.there))) | exact hKc _)))); (· decide +kernel); (· exact rfl); (· exact rfl))
          (apply dr_stab 20; (· exact rfl); (· exact rfl); (· apply Val.s; first | first | exact val_convw rfl | exact val_shl rfl rfl (by omega) | exact val_bits rfl rfl rfl | exact val_complE rfl rfl | exact val_addw rfl rfl | exact val_shr rfl rfl (by omega)); (· decide +kernel); (· exact rfl); (· exact rfl))
          (apply dr_stab 21; (· exact rfl); (· exact rfl); (· apply Val.s; first | first | exact val_convw rfl | exact val_shl rfl rfl (by omega) | exact val_bits rfl rfl rfl | exact val_complE rfl rfl | exact val_addw rfl rfl | exact val_shr rfl rfl (by omega)); (· decide +kernel); (· exact rfl); (· exact rfl))
          (apply dr_stab 22; (· exact rfl); (· exact rfl); (· apply Val.s; first | first | exact val_convw rfl | exact val_shl rfl rfl (by omega) | exact val_bits rfl rfl rfl | exact val_complE rfl rfl | exact val_addw rfl rfl | exact val_shr rfl rfl (by omega)); (· decide +kernel); (· exact rfl); (· exact rfl))
          refine dr_stab 23 rfl rfl (Val.s (val_move rfl)) (by decide +kernel) rfl rfl ?_
          refine dr_stab 24 rfl rfl (Val.s (val_move rfl)) (by decide +kernel) rfl rfl ?_
          refine dr_stab 25 rfl rfl (Val.s (val_add rfl rfl (by simp only [kLo, kHi]; omega))) (by decide +kernel) rfl rfl ?_
          refine dr_stab 26 rfl rfl (Val.s (val_index rfl rfl (by omega) (by first | (rw [Int.toNat_natCast, Nat.mul_one, Nat.zero_add]) | (rw [Int.toNat_natCast, Nat.mul_one]) | (rw [Int.toNat_natCast, Nat.zero_add]) | (rw [Int.toNat_natCast]) | exact rfl))) (by decide +kernel) rfl rfl ?_
          (apply dr_stab 27; (· exact rfl); (· exact rfl); (· apply ValAt.s; (first | (apply val_load; (· exact rfl); (· apply cell_of_has; (· (repeat (first | exact Has.here | apply Has.there))); (· first | exact rfl | exact hw2 | exact hw15 | exact hw7 | exact hw16 | exact hwi))) | (apply val_load; (· exact rfl); (· first | exact hp0 _ (by (repeat (first | exact Has.here | apply Has.there))) | exact hp1 _ (by (repeat (first | exact Has.here | apply Has.there))) | exact hp2 _ (by (repeat (first | exact Has.here | apply Has.there))) | exact hp3 _ (by (repeat (first | exact Has.here | apply Has.there))) | exact hKc _)))); (· decide +kernel); (· exact rfl); (· exact rfl))
          (apply dr_stab 28; (· exact rfl); (· exact rfl); (· apply Val.s; first | first | exact val_convw rfl | exact val_shl rfl rfl (by omega) | exact val_bits rfl rfl rfl | exact val_complE rfl rfl | exact val_addw rfl rfl | exact val_shr rfl rfl (by omega)); (· decide +kernel); (· exact rfl); (· exact rfl))
          (apply dr_stab 29; (· exact rfl); (· exact rfl); (· apply Val.s; first | first | exact val_convw rfl | exact val_shl rfl rfl (by omega) | exact val_bits rfl rfl rfl | exact val_complE rfl rfl | exact val_addw rfl rfl | exact val_shr rfl rfl (by omega)); (· decide +kernel); (· exact rfl); (· exact rfl))
          refine dr_stab 30 rfl rfl (Val.s (val_indexP rfl rfl (by omega))) (by decide +kernel) rfl rfl ?_
          (refine dr_one 31 rfl (by decide +kernel) (by (apply le_of_picks; (repeat (first | exact Picks.nil | (apply Picks.cons; (· (repeat (first | exact Pick.here | apply Pick.there)))) | apply Picks.empty)))) ?_)
          (apply op_store; (· exact rfl); (· exact rfl); (· exact rfl); (· (repeat (first | exact Swap.here | apply Swap.there))); (· first | decide | (simp; done) | (simp; omega) | assumption))
          refine ops_nil ?_
          refine fin_draw ?_
          (refine dr_done (by decide +kernel) (by (apply le_of_picks; (repeat (first | exact Picks.nil | (apply Picks.cons; (· (repeat (first | exact Pick.here | apply Pick.there)))) | apply Picks.empty)))) ?_)
          (apply J1)
          · (repeat (first | exact Sub.nil _ | (refine Sub.cons rfl ?_)))
          · rw [← u32V_set, show 0 + ((i : Nat) : Int).toNat * 1 = i by omega]
            exact Le.refl _
        · have ew : wAt pk wv i = schW (wv.getD (i - 2) 0) (wv.getD (i - 15) 0) (wv.getD (i - 7) 0) (wv.getD (i - 16) 0) := by unfold wAt; rw [if_neg hi16]
          rw [ew] at J1
          have hw2 : aget (u32V wv).toArray (0 + ((i : Int) - 2).toNat * 1) = some (.int .u32 (wv.getD (i - 2) 0)) := by
            rw [show 0 + ((i : Int) - 2).toNat * 1 = i - 2 by omega]
            exact u32V_get (by omega)
          have hw15 : aget (u32V wv).toArray (0 + ((i : Int) - 15).toNat * 1) = some (.int .u32 (wv.getD (i - 15) 0)) := by
            rw [show 0 + ((i : Int) - 15).toNat * 1 = i - 15 by omega]
            exact u32V_get (by omega)
          have hw7 : aget (u32V wv).toArray (0 + ((i : Int) - 7).toNat * 1) = some (.int .u32 (wv.getD (i - 7) 0)) := by
            rw [show 0 + ((i : Int) - 7).toNat * 1 = i - 7 by omega]
            exact u32V_get (by omega)
          have hw16 : aget (u32V wv).toArray (0 + ((i : Int) - 16).toNat * 1) = some (.int .u32 (wv.getD (i - 16) 0)) := by
            rw [show 0 + ((i : Int) - 16).toNat * 1 = i - 16 by omega]
            exact u32V_get (by omega)
          refine op_cmp_f rfl rfl rfl rfl (by first | (simp only [cmpP]; done) | (simp only [cmpP]; omega)) ?_
          refine ops_nil ?_
          refine fin_code ?_
          refine run_cond_f rfl ?_
          refine run_seq ?_
          refine run_region rfl ?_
          refine op_move rfl rfl ?_
          refine op_sub rfl rfl rfl (by simp only [kLo, kHi]; omega) ?_
          (refine op_indexP rfl rfl rfl (by omega) ?_)
          (apply op_load; (· exact rfl); (· exact rfl); (· apply cell_of_has; (· (repeat (first | exact Has.here | apply Has.there))); (· first | exact rfl | exact hw2 | exact hw15 | exact hw7 | exact hw16 | exact hwi)))
          refine op_assign rfl rfl ?_
          refine ops_nil ?_
          refine fin_code ?_
          refine run_seq ?_
          refine run_region rfl ?_
          refine op_move rfl rfl ?_
          ((first | (apply op_call; (· exact rfl)) | apply op_call0); (· exact rfl); rotate_left 1; (· exact fun w hG hw => rot_any w _ (-17) 15 (by decide) (by omega)); rotate_right 1; (· (repeat (first | exact Picks.nil | (apply Picks.cons; (· (repeat (first | exact Pick.here | apply Pick.there)))) | apply Picks.empty))))
          intro _ _
          refine op_move rfl rfl ?_
          ((first | (apply op_call; (· exact rfl)) | apply op_call0); (· exact rfl); rotate_left 1; (· exact fun w hG hw => rot_any w _ (-19) 13 (by decide) (by omega)); rotate_right 1; (· (repeat (first | exact Picks.nil | (apply Picks.cons; (· (repeat (first | exact Pick.here | apply Pick.there)))) | apply Picks.empty))))
          intro _ _
          (refine op_bits rfl rfl rfl rfl ?_)
          refine op_move rfl rfl ?_
          (refine op_shr rfl rfl rfl (by omega) ?_)
          (refine op_bits rfl rfl rfl rfl ?_)
          refine op_assign rfl rfl ?_
          refine ops_nil ?_
          refine fin_code ?_
          refine run_seq ?_
          refine run_region rfl ?_
          refine op_move rfl rfl ?_
          refine op_sub rfl rfl rfl (by simp only [kLo, kHi]; omega) ?_
          (refine op_indexP rfl rfl rfl (by omega) ?_)
          (apply op_load; (· exact rfl); (· exact rfl); (· apply cell_of_has; (· (repeat (first | exact Has.here | apply Has.there))); (· first | exact rfl | exact hw2 | exact hw15 | exact hw7 | exact hw16 | exact hwi)))
          refine op_assign rfl rfl ?_
          refine ops_nil ?_
          refine fin_code ?_
          refine run_seq ?_
          refine run_region rfl ?_
          refine op_move rfl rfl ?_
          ((first | (apply op_call; (· exact rfl)) | apply op_call0); (· exact rfl); rotate_left 1; (· exact fun w hG hw => rot_any w _ (-7) 25 (by decide) (by omega)); rotate_right 1; (· (repeat (first | exact Picks.nil | (apply Picks.cons; (· (repeat (first | exact Pick.here | apply Pick.there)))) | apply Picks.empty))))
          intro _ _
          refine op_move rfl rfl ?_
          ((first | (apply op_call; (· exact rfl)) | apply op_call0); (· exact rfl); rotate_left 1; (· exact fun w hG hw => rot_any w _ (-18) 14 (by decide) (by omega)); rotate_right 1; (· (repeat (first | exact Picks.nil | (apply Picks.cons; (· (repeat (first | exact Pick.here | apply Pick.there)))) | apply Picks.empty))))
          intro _ _
          (refine op_bits rfl rfl rfl rfl ?_)
          refine op_move rfl rfl ?_
          (refine op_shr rfl rfl rfl (by omega) ?_)
          (refine op_bits rfl rfl rfl rfl ?_)
          refine op_assign rfl rfl ?_
          refine ops_nil ?_
          refine fin_code ?_
          refine run_drawS [[⟨q, .cells (s8V s ++ rest).toArray 135 (0, 0)⟩]] (by kernel_rfl) ?_
          refine dr_stab 0 rfl rfl (Val.s (val_move rfl)) (by decide +kernel) rfl rfl ?_
          refine dr_stab 1 rfl rfl (Val.s (val_move rfl)) (by decide +kernel) rfl rfl ?_
          refine dr_stab 2 rfl rfl (Val.s (val_move rfl)) (by decide +kernel) rfl rfl ?_
          refine dr_stab 3 rfl rfl (Val.s (val_sub rfl rfl (by simp only [kLo, kHi]; omega))) (by decide +kernel) rfl rfl ?_
          refine dr_stab 4 rfl rfl (Val.s (val_indexP rfl rfl (by omega))) (by decide +kernel) rfl rfl ?_
          refine dr_stab 7 rfl rfl (Val.s (val_move rfl)) (by decide +kernel) rfl rfl ?_
          refine dr_stab 9 rfl rfl (Val.s (val_move rfl)) (by decide +kernel) rfl rfl ?_
          refine dr_stab 10 rfl rfl (Val.s (val_sub rfl rfl (by simp only [kLo, kHi]; omega))) (by decide +kernel) rfl rfl ?_
          refine dr_stab 11 rfl rfl (Val.s (val_indexP rfl rfl (by omega))) (by decide +kernel) rfl rfl ?_
          (apply dr_read 5; (· exact rfl); (· exact rfl); (· (first | (apply val_load; (· exact rfl); (· apply cell_of_has; (· (repeat (first | exact Has.here | apply Has.there))); (· first | exact rfl | exact hw2 | exact hw15 | exact hw7 | exact hw16 | exact hwi))) | (apply val_load; (· exact rfl); (· first | exact hp0 _ (by (repeat (first | exact Has.here | apply Has.there))) | exact hp1 _ (by (repeat (first | exact Has.here | apply Has.there))) | exact hp2 _ (by (repeat (first | exact Has.here | apply Has.there))) | exact hp3 _ (by (repeat (first | exact Has.here | apply Has.there))) | exact hKc _)))); (· decide +kernel); (· exact rfl); (· exact rfl))
          (apply dr_stab 6; (· exact rfl); (· exact rfl); (· apply Val.s; first | first | exact val_convw rfl | exact val_shl rfl rfl (by omega) | exact val_bits rfl rfl rfl | exact val_complE rfl rfl | exact val_addw rfl rfl | exact val_shr rfl rfl (by omega)); (· decide +kernel); (· exact rfl); (· exact rfl))
          (apply dr_stab 8; (· exact rfl); (· exact rfl); (· apply Val.s; first | first | exact val_convw rfl | exact val_shl rfl rfl (by omega) | exact val_bits rfl rfl rfl | exact val_complE rfl rfl | exact val_addw rfl rfl | exact val_shr rfl rfl (by omega)); (· decide +kernel); (· exact rfl); (· exact rfl))
          (apply dr_read 12; (· exact rfl); (· exact rfl); (· (first | (apply val_load; (· exact rfl); (· apply cell_of_has; (· (repeat (first | exact Has.here | apply Has.there))); (· first | exact rfl | exact hw2 | exact hw15 | exact hw7 | exact hw16 | exact hwi))) | (apply val_load; (· exact rfl); (· first | exact hp0 _ (by (repeat (first | exact Has.here | apply Has.there))) | exact hp1 _ (by (repeat (first | exact Has.here | apply Has.there))) | exact hp2 _ (by (repeat (first | exact Has.here | apply Has.there))) | exact hp3 _ (by (repeat (first | exact Has.here | apply Has.there))) | exact hKc _)))); (· decide +kernel); (· exact rfl); (· exact rfl))
          (apply dr_stab 13; (· exact rfl); (· exact rfl); (· apply Val.s; first | first | exact val_convw rfl | exact val_shl rfl rfl (by omega) | exact val_bits rfl rfl rfl | exact val_complE rfl rfl | exact val_addw rfl rfl | exact val_shr rfl rfl (by omega)); (· decide +kernel); (· exact rfl); (· exact rfl))
          refine dr_stab 14 rfl rfl (Val.s (val_indexP rfl rfl (by omega))) (by decide +kernel) rfl rfl ?_
          (refine dr_one 15 rfl (by decide +kernel) (by (apply le_of_picks; (repeat (first | exact Picks.nil | (apply Picks.cons; (· (repeat (first | exact Pick.here | apply Pick.there)))) | apply Picks.empty)))) ?_)
          (apply op_store; (· exact rfl); (· exact rfl); (· exact rfl); (· (repeat (first | exact Swap.here | apply Swap.there))); (· first | decide | (simp; done) | (simp; omega) | assumption))
          refine ops_nil ?_
          refine fin_draw ?_
          (refine dr_done (by decide +kernel) (by (apply le_of_picks; (repeat (first | exact Picks.nil | (apply Picks.cons; (· (repeat (first | exact Pick.here | apply Pick.there)))) | apply Picks.empty)))) ?_)
          (apply J1)
          · (repeat (first | exact Sub.nil _ | (refine Sub.cons rfl ?_)))
          · rw [← u32V_set, show 0 + ((i : Nat) : Int).toNat * 1 = i by omega]
            exact Le.refl _
      intro _ _
      have hwi : aget (u32V (wv.set i (wAt pk wv i))).toArray (0 + ((i : Nat) : Int).toNat * 1) = some (.int .u32 (wAt pk wv i)) := by
        rw [show 0 + ((i : Nat) : Int).toNat * 1 = i by omega, u32V_get (by simpa using by omega)]
        simp [hwl, hi64]
      have hKc := hK1 i hi64
      generalize hwe : wAt pk wv i = wi at *
      refine fin_code ?_
      refine run_seq ?_
      refine run_drawS [[⟨q, .cells (s8V s ++ rest).toArray 135 (0, 0)⟩], [⟨gw, .cells (u32V (wv.set i wi)).toArray 160 (0, 0)⟩]] (by kernel_rfl) ?_
      refine dr_stab 0 rfl rfl (Val.s (val_move rfl)) (by decide +kernel) rfl rfl ?_
      refine dr_stab 1 rfl rfl (Val.s (val_move rfl)) (by decide +kernel) rfl rfl ?_
      refine dr_stab 3 rfl rfl (Val.s (val_move rfl)) (by decide +kernel) rfl rfl ?_
      refine dr_stab 6 rfl rfl (Val.s (val_move rfl)) (by decide +kernel) rfl rfl ?_
      refine dr_stab 10 rfl rfl (Val.s (val_move rfl)) (by decide +kernel) rfl rfl ?_
      refine dr_stab 11 rfl rfl (Val.s (val_move rfl)) (by decide +kernel) rfl rfl ?_
      (apply dr_stab 12; (· exact rfl); (· exact rfl); (· apply Val.s; first | first | exact val_convw rfl | exact val_shl rfl rfl (by omega) | exact val_bits rfl rfl rfl | exact val_complE rfl rfl | exact val_addw rfl rfl | exact val_shr rfl rfl (by omega)); (· decide +kernel); (· exact rfl); (· exact rfl))
      refine dr_stab 13 rfl rfl (Val.s (val_move rfl)) (by decide +kernel) rfl rfl ?_
      (apply dr_stab 14; (· exact rfl); (· exact rfl); (· apply Val.s; first | first | exact val_convw rfl | exact val_shl rfl rfl (by omega) | exact val_bits rfl rfl rfl | exact val_complE rfl rfl | exact val_addw rfl rfl | exact val_shr rfl rfl (by omega)); (· decide +kernel); (· exact rfl); (· exact rfl))
      refine dr_stab 15 rfl rfl (Val.s (val_move rfl)) (by decide +kernel) rfl rfl ?_
      (apply dr_stab 16; (· exact rfl); (· exact rfl); (· apply Val.s; first | first | exact val_convw rfl | exact val_shl rfl rfl (by omega) | exact val_bits rfl rfl rfl | exact val_complE rfl rfl | exact val_addw rfl rfl | exact val_shr rfl rfl (by omega)); (· decide +kernel); (· exact rfl); (· exact rfl))
      (apply dr_stab 17; (· exact rfl); (· exact rfl); (· apply Val.s; first | first | exact val_convw rfl | exact val_shl rfl rfl (by omega) | exact val_bits rfl rfl rfl | exact val_complE rfl rfl | exact val_addw rfl rfl | exact val_shr rfl rfl (by omega)); (· decide +kernel); (· exact rfl); (· exact rfl))
      refine dr_stab 19 rfl rfl (Val.s (val_move rfl)) (by decide +kernel) rfl rfl ?_
      refine dr_stab 20 rfl rfl (Val.s (val_indexP rfl rfl (by omega))) (by decide +kernel) rfl rfl ?_
      (apply dr_stab 21; (· exact rfl); (· exact rfl); (· apply ValAt.s; (first | (apply val_load; (· exact rfl); (· apply cell_of_has; (· (repeat (first | exact Has.here | apply Has.there))); (· first | exact rfl | exact hw2 | exact hw15 | exact hw7 | exact hw16 | exact hwi))) | (apply val_load; (· exact rfl); (· first | exact hp0 _ (by (repeat (first | exact Has.here | apply Has.there))) | exact hp1 _ (by (repeat (first | exact Has.here | apply Has.there))) | exact hp2 _ (by (repeat (first | exact Has.here | apply Has.there))) | exact hp3 _ (by (repeat (first | exact Has.here | apply Has.there))) | exact hKc _)))); (· decide +kernel); (· exact rfl); (· exact rfl))
      refine dr_stab 23 rfl rfl (Val.s (val_move rfl)) (by decide +kernel) rfl rfl ?_
      refine dr_stab 24 rfl rfl (Val.s (val_indexP rfl rfl (by omega))) (by decide +kernel) rfl rfl ?_
      (apply dr_stab 25; (· exact rfl); (· exact rfl); (· apply ValAt.s; (first | (apply val_load; (· exact rfl); (· apply cell_of_has; (· (repeat (first | exact Has.here | apply Has.there))); (· first | exact rfl | exact hw2 | exact hw15 | exact hw7 | exact hw16 | exact hwi))) | (apply val_load; (· exact rfl); (· first | exact hp0 _ (by (repeat (first | exact Has.here | apply Has.there))) | exact hp1 _ (by (repeat (first | exact Has.here | apply Has.there))) | exact hp2 _ (by (repeat (first | exact Has.here | apply Has.there))) | exact hp3 _ (by (repeat (first | exact Has.here | apply Has.there))) | exact hKc _)))); (· decide +kernel); (· exact rfl); (· exact rfl))
      (refine dr_one 2 rfl (by decide +kernel) (by (apply le_of_picks; (repeat (first | exact Picks.nil | (apply Picks.cons; (· (repeat (first | exact Pick.here | apply Pick.there)))) | apply Picks.empty)))) ?_)
      ((first | (apply op_call; (· exact rfl)) | apply op_call0); (· exact rfl); rotate_left 1; (· exact fun w hG hw => rot_any w _ (-6) 26 (by decide) (by omega)); rotate_right 1; (· (repeat (first | exact Picks.nil | (apply Picks.cons; (· (repeat (first | exact Pick.here | apply Pick.there)))) | apply Picks.empty))))
      intro _ _
      refine ops_nil ?_
      refine fin_draw ?_
      (refine dr_one 4 rfl (by decide +kernel) (by (apply le_of_picks; (repeat (first | exact Picks.nil | (apply Picks.cons; (· (repeat (first | exact Pick.here | apply Pick.there)))) | apply Picks.empty)))) ?_)
      ((first | (apply op_call; (· exact rfl)) | apply op_call0); (· exact rfl); rotate_left 1; (· exact fun w hG hw => rot_any w _ (-11) 21 (by decide) (by omega)); rotate_right 1; (· (repeat (first | exact Picks.nil | (apply Picks.cons; (· (repeat (first | exact Pick.here | apply Pick.there)))) | apply Picks.empty))))
      intro _ _
      refine ops_nil ?_
      refine fin_draw ?_
      (apply dr_stab 5; (· exact rfl); (· exact rfl); (· apply Val.s; first | first | exact val_convw rfl | exact val_shl rfl rfl (by omega) | exact val_bits rfl rfl rfl | exact val_complE rfl rfl | exact val_addw rfl rfl | exact val_shr rfl rfl (by omega)); (· decide +kernel); (· exact rfl); (· exact rfl))
      (refine dr_one 7 rfl (by decide +kernel) (by (apply le_of_picks; (repeat (first | exact Picks.nil | (apply Picks.cons; (· (repeat (first | exact Pick.here | apply Pick.there)))) | apply Picks.empty)))) ?_)
      ((first | (apply op_call; (· exact rfl)) | apply op_call0); (· exact rfl); rotate_left 1; (· exact fun w hG hw => rot_any w _ (-25) 7 (by decide) (by omega)); rotate_right 1; (· (repeat (first | exact Picks.nil | (apply Picks.cons; (· (repeat (first | exact Pick.here | apply Pick.there)))) | apply Picks.empty))))
      intro _ _
      refine ops_nil ?_
      refine fin_draw ?_
      (apply dr_stab 8; (· exact rfl); (· exact rfl); (· apply Val.s; first | first | exact val_convw rfl | exact val_shl rfl rfl (by omega) | exact val_bits rfl rfl rfl | exact val_complE rfl rfl | exact val_addw rfl rfl | exact val_shr rfl rfl (by omega)); (· decide +kernel); (· exact rfl); (· exact rfl))
      (apply dr_stab 9; (· exact rfl); (· exact rfl); (· apply Val.s; first | first | exact val_convw rfl | exact val_shl rfl rfl (by omega) | exact val_bits rfl rfl rfl | exact val_complE rfl rfl | exact val_addw rfl rfl | exact val_shr rfl rfl (by omega)); (· decide +kernel); (· exact rfl); (· exact rfl))
      (apply dr_stab 18; (· exact rfl); (· exact rfl); (· apply Val.s; first | first | exact val_convw rfl | exact val_shl rfl rfl (by omega) | exact val_bits rfl rfl rfl | exact val_complE rfl rfl | exact val_addw rfl rfl | exact val_shr rfl rfl (by omega)); (· decide +kernel); (· exact rfl); (· exact rfl))
      (apply dr_stab 22; (· exact rfl); (· exact rfl); (· apply Val.s; first | first | exact val_convw rfl | exact val_shl rfl rfl (by omega) | exact val_bits rfl rfl rfl | exact val_complE rfl rfl | exact val_addw rfl rfl | exact val_shr rfl rfl (by omega)); (· decide +kernel); (· exact rfl); (· exact rfl))
      (apply dr_stab 26; (· exact rfl); (· exact rfl); (· apply Val.s; first | first | exact val_convw rfl | exact val_shl rfl rfl (by omega) | exact val_bits rfl rfl rfl | exact val_complE rfl rfl | exact val_addw rfl rfl | exact val_shr rfl rfl (by omega)); (· decide +kernel); (· exact rfl); (· exact rfl))
      refine dr_stab 27 rfl rfl (Val.s (val_assign rfl)) (by decide +kernel) rfl rfl ?_
      (refine dr_done (by decide +kernel) (by (apply le_of_picks; (repeat (first | exact Picks.nil | (apply Picks.cons; (· (repeat (first | exact Pick.here | apply Pick.there)))) | apply Picks.empty)))) ?_)
      refine fin_code ?_
      refine run_seq ?_
      refine run_region rfl ?_
      refine op_move rfl rfl ?_
      ((first | (apply op_call; (· exact rfl)) | apply op_call0); (· exact rfl); rotate_left 1; (· exact fun w hG hw => rot_any w _ (-2) 30 (by decide) (by omega)); rotate_right 1; (· (repeat (first | exact Picks.nil | (apply Picks.cons; (· (repeat (first | exact Pick.here | apply Pick.there)))) | apply Picks.empty))))
      intro _ _
      refine op_move rfl rfl ?_
      ((first | (apply op_call; (· exact rfl)) | apply op_call0); (· exact rfl); rotate_left 1; (· exact fun w hG hw => rot_any w _ (-13) 19 (by decide) (by omega)); rotate_right 1; (· (repeat (first | exact Picks.nil | (apply Picks.cons; (· (repeat (first | exact Pick.here | apply Pick.there)))) | apply Picks.empty))))
      intro _ _
      (refine op_bits rfl rfl rfl rfl ?_)
      refine op_move rfl rfl ?_
      ((first | (apply op_call; (· exact rfl)) | apply op_call0); (· exact rfl); rotate_left 1; (· exact fun w hG hw => rot_any w _ (-22) 10 (by decide) (by omega)); rotate_right 1; (· (repeat (first | exact Picks.nil | (apply Picks.cons; (· (repeat (first | exact Pick.here | apply Pick.there)))) | apply Picks.empty))))
      intro _ _
      (refine op_bits rfl rfl rfl rfl ?_)
      refine op_move rfl rfl ?_
      refine op_move rfl rfl ?_
      (refine op_bits rfl rfl rfl rfl ?_)
      refine op_move rfl rfl ?_
      refine op_move rfl rfl ?_
      (refine op_bits rfl rfl rfl rfl ?_)
      (refine op_bits rfl rfl rfl rfl ?_)
      refine op_move rfl rfl ?_
      refine op_move rfl rfl ?_
      (refine op_bits rfl rfl rfl rfl ?_)
      (refine op_bits rfl rfl rfl rfl ?_)
      (refine op_addw rfl rfl rfl ?_)
      refine op_assign rfl rfl ?_
      refine ops_nil ?_
      refine fin_code ?_
      refine run_seq ?_
      refine run_region rfl ?_
      refine op_move rfl rfl ?_
      refine op_assign rfl rfl ?_
      refine ops_nil ?_
      refine fin_code ?_
      refine run_seq ?_
      refine run_region rfl ?_
      refine op_move rfl rfl ?_
      refine op_assign rfl rfl ?_
      refine ops_nil ?_
      refine fin_code ?_
      refine run_seq ?_
      refine run_region rfl ?_
      refine op_move rfl rfl ?_
      refine op_assign rfl rfl ?_
      refine ops_nil ?_
      refine fin_code ?_
      refine run_seq ?_
      refine run_region rfl ?_
      refine op_move rfl rfl ?_
      refine op_move rfl rfl ?_
      (refine op_addw rfl rfl rfl ?_)
      refine op_assign rfl rfl ?_
      refine ops_nil ?_
      refine fin_code ?_
      refine run_seq ?_
      refine run_region rfl ?_
      refine op_move rfl rfl ?_
      refine op_assign rfl rfl ?_
      refine ops_nil ?_
      refine fin_code ?_
      refine run_seq ?_
      refine run_region rfl ?_
      refine op_move rfl rfl ?_
      refine op_assign rfl rfl ?_
      refine ops_nil ?_
      refine fin_code ?_
      refine run_seq ?_
      refine run_region rfl ?_
      refine op_move rfl rfl ?_
      refine op_assign rfl rfl ?_
      refine ops_nil ?_
      refine fin_code ?_
      refine run_region rfl ?_
      refine op_move rfl rfl ?_
      refine op_move rfl rfl ?_
      (refine op_addw rfl rfl rfl ?_)
      refine op_assign rfl rfl ?_
      refine ops_nil ?_
      refine fin_block ?_
      refine fin_code ?_
      refine run_region rfl ?_
      refine op_add rfl rfl rfl (by simp only [kLo, kHi]; omega) ?_
      refine op_move rfl rfl ?_
      refine ops_nil ?_
      refine fin_round (i + 1, rnd8 st (K i) wi, wv.set i wi) (by dsimp only; omega) (by (repeat (first | exact Sub.nil _ | (refine Sub.cons rfl ?_)))) (by (apply le_of_picks; (repeat (first | exact Picks.nil | (apply Picks.cons; (· (repeat (first | exact Pick.here | apply Pick.there)))) | apply Picks.empty)))) ⟨by dsimp only; omega, ?_, by simpa using hwl, ?_⟩
      · dsimp only
        simp only [rnds]
        rw [← hst, ← hwA]
      · intro j hj
        dsimp only at hj ⊢
        simp only [rnds]
        rw [← hwA]
        have hrl := rnds_len K pk hs i
        rcases Nat.lt_or_ge j i with h | h
        · have := hwv j h
          rw [List.getD, List.getD] at this ⊢
          rw [List.getElem?_set_ne (by omega), List.getElem?_set_ne (by omega)]
          exact this
        · obtain rfl : j = i := by omega
          rw [List.getD, List.getD, List.getElem?_set_self (by omega), List.getElem?_set_self (by omega)]
    · obtain rfl : i = 64 := by omega
      have hbl2 : blks K (n - k) pk hs = blks K (n - (k + 1)) (pb.drop ((k + 1) * 64)) (add8 hs st) := by
        rw [show n - k = (n - (k + 1)) + 1 by omega]
        simp only [blks]
        rw [hst, hpk, List.drop_drop]
        congr 2
        omega
      rw [hbl2] at hbl
      refine run_seq ?_
      refine run_region rfl ?_
      refine op_cmp_f rfl rfl rfl rfl (by first | (simp only [cmpP]; done) | (simp only [cmpP]; omega)) ?_
      refine ops_nil ?_
      refine fin_code ?_
      refine run_seq ?_
      refine run_cond_f rfl ?_
      refine run_exit ?_
      refine fin_exit_code ?_
      refine fin_exit_inv ?_
      refine fin_exit_here ?_
      refine fin_code ?_
      refine run_seq ?_
      refine run_region rfl ?_
      refine op_move rfl rfl ?_
      refine op_move rfl rfl ?_
      (refine op_addw rfl rfl rfl ?_)
      refine op_assign rfl rfl ?_
      refine ops_nil ?_
      refine fin_code ?_
      refine run_seq ?_
      refine run_region rfl ?_
      refine op_move rfl rfl ?_
      refine op_move rfl rfl ?_
      (refine op_addw rfl rfl rfl ?_)
      refine op_assign rfl rfl ?_
      refine ops_nil ?_
      refine fin_code ?_
      refine run_seq ?_
      refine run_region rfl ?_
      refine op_move rfl rfl ?_
      refine op_move rfl rfl ?_
      (refine op_addw rfl rfl rfl ?_)
      refine op_assign rfl rfl ?_
      refine ops_nil ?_
      refine fin_code ?_
      refine run_seq ?_
      refine run_region rfl ?_
      refine op_move rfl rfl ?_
      refine op_move rfl rfl ?_
      (refine op_addw rfl rfl rfl ?_)
      refine op_assign rfl rfl ?_
      refine ops_nil ?_
      refine fin_code ?_
      refine run_seq ?_
      refine run_region rfl ?_
      refine op_move rfl rfl ?_
      refine op_move rfl rfl ?_
      (refine op_addw rfl rfl rfl ?_)
      refine op_assign rfl rfl ?_
      refine ops_nil ?_
      refine fin_code ?_
      refine run_seq ?_
      refine run_region rfl ?_
      refine op_move rfl rfl ?_
      refine op_move rfl rfl ?_
      (refine op_addw rfl rfl rfl ?_)
      refine op_assign rfl rfl ?_
      refine ops_nil ?_
      refine fin_code ?_
      refine run_seq ?_
      refine run_region rfl ?_
      refine op_move rfl rfl ?_
      refine op_move rfl rfl ?_
      (refine op_addw rfl rfl rfl ?_)
      refine op_assign rfl rfl ?_
      refine ops_nil ?_
      refine fin_code ?_
      refine run_seq ?_
      refine run_region rfl ?_
      refine op_move rfl rfl ?_
      refine op_move rfl rfl ?_
      (refine op_addw rfl rfl rfl ?_)
      refine op_assign rfl rfl ?_
      refine ops_nil ?_
      refine fin_code ?_
      refine run_region rfl ?_
      refine op_move rfl rfl ?_
      refine op_sliceLowO (r := .slice (some ⟨g, if cap - k * 64 = 64 then ok else ok + 64 * 1, none⟩) ((n - (k + 1)) * 64) (cap - (k + 1) * 64)) 64 rfl rfl rfl rfl (by omega) ?_ ?_
      · rw [show (n - k) * 64 - 64 = (n - (k + 1)) * 64 by omega, show cap - k * 64 - 64 = cap - (k + 1) * 64 by omega]
        split <;> rfl
      refine op_assign rfl rfl ?_
      refine ops_nil ?_
      refine fin_block ?_
      refine fin_round (k + 1, if cap - k * 64 = 64 then ok else ok + 64 * 1, add8 hs st, wv) (by dsimp only; omega) (by (repeat (first | exact Sub.nil _ | (refine Sub.cons rfl ?_)))) (by (apply le_of_picks; (repeat (first | exact Picks.nil | (apply Picks.cons; (· (repeat (first | exact Pick.here | apply Pick.there)))) | apply Picks.empty)))) ⟨by dsimp only; omega, ?_, hbl, hwl⟩
      intro h
      dsimp only at h ⊢
      rw [if_neg (by omega)]
      omega
  · obtain rfl : k = n := by omega
    rw [Nat.sub_self] at hbl
    simp only [blks] at hbl
    refine run_seq ?_
    refine run_seq ?_
    refine run_region rfl ?_
    refine op_move rfl rfl ?_
    refine op_len rfl rfl ?_
    refine op_cmp_f rfl rfl rfl rfl (by first | (simp only [cmpP]; done) | (simp only [cmpP]; omega)) ?_
    refine ops_nil ?_
    refine fin_code ?_
    refine run_cond_f rfl ?_
    refine run_exit ?_
    refine fin_exit_code ?_
    refine fin_exit_inv ?_
    refine fin_exit_here ?_
    refine fin_code ?_
    have hl8 : 8 ≤ (s8V s ++ rest).length := by simp [s8V]
    refine run_drawS [[⟨gw, .cells (u32V wv).toArray 160 (0, 0)⟩]] (by kernel_rfl) ?_
    refine dr_stab 0 rfl rfl (Val.s (val_move rfl)) (by decide +kernel) rfl rfl ?_
    refine dr_stab 1 rfl rfl (Val.s (val_move rfl)) (by decide +kernel) rfl rfl ?_
    refine dr_stab 2 rfl rfl (Val.s (val_move rfl)) (by decide +kernel) rfl rfl ?_
    refine dr_stab 3 rfl rfl (Val.s (val_move rfl)) (by decide +kernel) rfl rfl ?_
    refine dr_stab 4 rfl rfl (Val.s (val_move rfl)) (by decide +kernel) rfl rfl ?_
    refine dr_stab 5 rfl rfl (Val.s (val_move rfl)) (by decide +kernel) rfl rfl ?_
    refine dr_stab 6 rfl rfl (Val.s (val_move rfl)) (by decide +kernel) rfl rfl ?_
    refine dr_stab 7 rfl rfl (Val.s (val_move rfl)) (by decide +kernel) rfl rfl ?_
    refine dr_stab 8 rfl rfl (Val.s (val_move rfl)) (by decide +kernel) rfl rfl ?_
    refine dr_stab 9 rfl rfl (Val.s (val_move rfl)) (by decide +kernel) rfl rfl ?_
    refine dr_stab 10 rfl rfl (Val.s (val_move rfl)) (by decide +kernel) rfl rfl ?_
    refine dr_stab 11 rfl rfl (Val.s (val_move rfl)) (by decide +kernel) rfl rfl ?_
    refine dr_stab 12 rfl rfl (Val.s (val_move rfl)) (by decide +kernel) rfl rfl ?_
    refine dr_stab 13 rfl rfl (Val.s (val_move rfl)) (by decide +kernel) rfl rfl ?_
    refine dr_stab 14 rfl rfl (Val.s (val_move rfl)) (by decide +kernel) rfl rfl ?_
    refine dr_stab 15 rfl rfl (Val.s (val_move rfl)) (by decide +kernel) rfl rfl ?_
    refine dr_stab 16 rfl rfl (Val.s (val_nilCheck rfl)) (by decide +kernel) rfl rfl ?_
    refine dr_stab 17 rfl rfl (Val.s (val_fieldAddr rfl)) (by decide +kernel) rfl rfl ?_
    refine dr_stab 20 rfl rfl (Val.s (val_nilCheck rfl)) (by decide +kernel) rfl rfl ?_
    refine dr_stab 21 rfl rfl (Val.s (val_fieldAddr rfl)) (by decide +kernel) rfl rfl ?_
    refine dr_stab 24 rfl rfl (Val.s (val_nilCheck rfl)) (by decide +kernel) rfl rfl ?_
    refine dr_stab 25 rfl rfl (Val.s (val_fieldAddr rfl)) (by decide +kernel) rfl rfl ?_
    refine dr_stab 28 rfl rfl (Val.s (val_nilCheck rfl)) (by decide +kernel) rfl rfl ?_
    refine dr_stab 29 rfl rfl (Val.s (val_fieldAddr rfl)) (by decide +kernel) rfl rfl ?_
    refine dr_stab 32 rfl rfl (Val.s (val_nilCheck rfl)) (by decide +kernel) rfl rfl ?_
    refine dr_stab 33 rfl rfl (Val.s (val_fieldAddr rfl)) (by decide +kernel) rfl rfl ?_
    refine dr_stab 36 rfl rfl (Val.s (val_nilCheck rfl)) (by decide +kernel) rfl rfl ?_
    refine dr_stab 37 rfl rfl (Val.s (val_fieldAddr rfl)) (by decide +kernel) rfl rfl ?_
    refine dr_stab 40 rfl rfl (Val.s (val_nilCheck rfl)) (by decide +kernel) rfl rfl ?_
    refine dr_stab 41 rfl rfl (Val.s (val_fieldAddr rfl)) (by decide +kernel) rfl rfl ?_
    refine dr_stab 44 rfl rfl (Val.s (val_nilCheck rfl)) (by decide +kernel) rfl rfl ?_
    refine dr_stab 45 rfl rfl (Val.s (val_fieldAddr rfl)) (by decide +kernel) rfl rfl ?_
    refine dr_stab 18 rfl rfl (Val.s (val_indexP rfl rfl (by omega))) (by decide +kernel) rfl rfl ?_
    (refine dr_one 19 rfl (by decide +kernel) (by (apply le_of_picks; (repeat (first | exact Picks.nil | (apply Picks.cons; (· (repeat (first | exact Pick.here | apply Pick.there)))) | apply Picks.empty)))) ?_)
    (refine op_store8 rfl rfl rfl (by (repeat (first | exact Swap.here | apply Swap.there))) (by decide) (by first | exact hl8 | (simp only [List.length_set]; exact hl8)) ?_)
    refine ops_nil ?_
    refine fin_draw ?_
    refine dr_stab 22 rfl rfl (Val.s (val_indexP rfl rfl (by omega))) (by decide +kernel) rfl rfl ?_
    (refine dr_one 23 rfl (by decide +kernel) (by (apply le_of_picks; (repeat (first | exact Picks.nil | (apply Picks.cons; (· (repeat (first | exact Pick.here | apply Pick.there)))) | apply Picks.empty)))) ?_)
    (refine op_store8 rfl rfl rfl (by (repeat (first | exact Swap.here | apply Swap.there))) (by decide) (by first | exact hl8 | (simp only [List.length_set]; exact hl8)) ?_)
    refine ops_nil ?_
    refine fin_draw ?_
    refine dr_stab 26 rfl rfl (Val.s (val_indexP rfl rfl (by omega))) (by decide +kernel) rfl rfl ?_
    (refine dr_one 27 rfl (by decide +kernel) (by (apply le_of_picks; (repeat (first | exact Picks.nil | (apply Picks.cons; (· (repeat (first | exact Pick.here | apply Pick.there)))) | apply Picks.empty)))) ?_)
    (refine op_store8 rfl rfl rfl (by (repeat (first | exact Swap.here | apply Swap.there))) (by decide) (by first | exact hl8 | (simp only [List.length_set]; exact hl8)) ?_)
    refine ops_nil ?_
    refine fin_draw ?_
    refine dr_stab 30 rfl rfl (Val.s (val_indexP rfl rfl (by omega))) (by decide +kernel) rfl rfl ?_
    (refine dr_one 31 rfl (by decide +kernel) (by (apply le_of_picks; (repeat (first | exact Picks.nil | (apply Picks.cons; (· (repeat (first | exact Pick.here | apply Pick.there)))) | apply Picks.empty)))) ?_)
    (refine op_store8 rfl rfl rfl (by (repeat (first | exact Swap.here | apply Swap.there))) (by decide) (by first | exact hl8 | (simp only [List.length_set]; exact hl8)) ?_)
    refine ops_nil ?_
    refine fin_draw ?_
    refine dr_stab 34 rfl rfl (Val.s (val_indexP rfl rfl (by omega))) (by decide +kernel) rfl rfl ?_
    (refine dr_one 35 rfl (by decide +kernel) (by (apply le_of_picks; (repeat (first | exact Picks.nil | (apply Picks.cons; (· (repeat (first | exact Pick.here | apply Pick.there)))) | apply Picks.empty)))) ?_)
    (refine op_store8 rfl rfl rfl (by (repeat (first | exact Swap.here | apply Swap.there))) (by decide) (by first | exact hl8 | (simp only [List.length_set]; exact hl8)) ?_)
    refine ops_nil ?_
    refine fin_draw ?_
    refine dr_stab 38 rfl rfl (Val.s (val_indexP rfl rfl (by omega))) (by decide +kernel) rfl rfl ?_
    (refine dr_one 39 rfl (by decide +kernel) (by (apply le_of_picks; (repeat (first | exact Picks.nil | (apply Picks.cons; (· (repeat (first | exact Pick.here | apply Pick.there)))) | apply Picks.empty)))) ?_)
    (refine op_store8 rfl rfl rfl (by (repeat (first | exact Swap.here | apply Swap.there))) (by decide) (by first | exact hl8 | (simp only [List.length_set]; exact hl8)) ?_)
    refine ops_nil ?_
    refine fin_draw ?_
    refine dr_stab 42 rfl rfl (Val.s (val_indexP rfl rfl (by omega))) (by decide +kernel) rfl rfl ?_
    (refine dr_one 43 rfl (by decide +kernel) (by (apply le_of_picks; (repeat (first | exact Picks.nil | (apply Picks.cons; (· (repeat (first | exact Pick.here | apply Pick.there)))) | apply Picks.empty)))) ?_)
    (refine op_store8 rfl rfl rfl (by (repeat (first | exact Swap.here | apply Swap.there))) (by decide) (by first | exact hl8 | (simp only [List.length_set]; exact hl8)) ?_)
    refine ops_nil ?_
    refine fin_draw ?_
    refine dr_stab 46 rfl rfl (Val.s (val_indexP rfl rfl (by omega))) (by decide +kernel) rfl rfl ?_
    (refine dr_one 47 rfl (by decide +kernel) (by (apply le_of_picks; (repeat (first | exact Picks.nil | (apply Picks.cons; (· (repeat (first | exact Pick.here | apply Pick.there)))) | apply Picks.empty)))) ?_)
    (apply op_store; (· exact rfl); (· exact rfl); (· exact rfl); (· (repeat (first | exact Swap.here | apply Swap.there))); (· first | decide | (simp; done) | (simp; omega) | assumption))
    refine ops_nil ?_
    refine fin_draw ?_
    (refine dr_done (by decide +kernel) (by (apply le_of_picks; (repeat (first | exact Picks.nil | (apply Picks.cons; (· (repeat (first | exact Pick.here | apply Pick.there)))) | apply Picks.empty)))) ?_)
    skip
    refine fin_ret0 (.inr rfl) rfl ?_
    intro w' g
    refine hR _ _ (post_of g () trivial rfl ?_)
    rw [← hbl]
    (apply le_of_picks; (repeat (first | exact Picks.nil | (apply Picks.cons; (· (repeat (first | exact Pick.here | apply Pick.there)))) | apply Picks.empty)))
end Go.Proofs.Eng
