/- A part of the proof: what functions of the program do, step by step. -/
import Derived.Test.YtnomlnfdmoecoaaDoorH2
set_option linter.unusedVariables false
set_option linter.unusedSimpArgs false
namespace Go.Proofs.Eng
open Go.RowKit
/-- 'copy' into a block that is known whole. -/
theorem op_copy {C : Ctx} {ks : List Kont} {E : Env} {Ls Ls' : List Hp} {ops : Array Oper} {rest : List Oper} {ty : Nat} {pos : String} {af : Array Edge} {d : Nat} {x y : Operand} {t t' e bytes : Nat} {z : Value} [c : TSlice C.P t e 1 bytes z] {g o dLen dCap sLen sCap bt : Nat} {ad : Addr} {cs cs' : Array Value} {vs : List Value}
    (hn : Nat.blt d C.fn.ntmps = true) (hx : ev E x = some (.slice (some ⟨g, o, none⟩) dLen dCap)) (hy : ev E y = some (.slice (some ad) sLen sCap)) (hl : vs.length = Nat.min sLen dLen)
    (hsrc : ∀ j v, vs[j]? = some v → Cell C Ls (ad.add j) v) (h1 : ∀ v ∈ vs, v.oneCell' = true) (ho : o + vs.length ≤ cs.size)
    (he : (cs.toList.take o ++ vs ++ cs.toList.drop (o + vs.length)).toArray = cs')
    (hs : Swap Ls [⟨g, .cells cs bt (0, 0)⟩] [⟨g, .cells cs' bt (0, 0)⟩] Ls')
    (k : Ops C ops rest ks ((d, .int .i64 vs.length) :: E) Ls') : Ops C ops (⟨some d, .call { callee := .builtin .copy, args := #[x, y], argTypes := #[t, t'] }, ty, pos, af, none⟩ :: rest) ks E Ls := by
  subst he
  refine ⟨fun a w f gs => ?_⟩
  refine wpList_plain rfl fun K hK => ?_
  obtain ⟨R, p1, p2⟩ := hs.perm
  have gs' := gs.le (L' := [⟨g, .cells cs bt (0, 0)⟩] ++ R) (.of_perm p1)
  have hh := gs'.now.here ⟨g, .cells cs bt (0, 0)⟩ (by simp)
  obtain ⟨i, hi, hz0, hz1, hz2⟩ := infoParts c.h2
  have hrun := run_copy_row (P := C.P) w t t' ty e g o dLen dCap ad sLen sCap cs bt vs c.h1 (by rw [hi]; simp [hz1]) hh hl (fun j v hv => hsrc j v hv w gs) ho h1
  unfold Oper.wp
  have : (execOp a.eval ⟨some d, .call { callee := .builtin .copy, args := #[x, y], argTypes := #[t, t'] }, ty, pos, af, none⟩).run C.P w = .ok (.value (.int .i64 vs.length)) (w.setRow g (cs.toList.take o ++ vs ++ cs.toList.drop (o + vs.length)).toArray) := by
    simp only [execOp, resolve, invoke, builtin, Sem.run_bind, Sem.run_pure, Result.andThen_ok, List.map_toArray, List.map_cons, List.map_nil, f.ev hx, f.ev hy, hrun]
    rfl
  rw [this]
  exact hK _ _ (k.out _ _ (f.put _ (Nat.lt_of_succ_le (by simpa [Nat.blt] using hn))) ((gs'.frame (goes_setRow (vs := (cs.toList.take o ++ vs ++ cs.toList.drop (o + vs.length)).toArray) hh)).le (.of_perm p2.symm)))
end Go.Proofs.Eng

set_option linter.unusedVariables false
set_option linter.unusedSimpArgs false
namespace Go.Proofs.Eng
open Go.RowKit
def b64 (v : Int) (k : Int) : Value := .int .u8 (IntKind.u8.wrap (v.fdiv (2 ^ (min k.toNat IntKind.u64.bits))))
def put64 (cs : Array Value) (o : Nat) (v : Int) : Array Value :=
  (((((((cs.setIfInBounds (o + 0) (b64 v 56)).setIfInBounds (o + 1) (b64 v 48)).setIfInBounds (o + 2) (b64 v 40)).setIfInBounds (o + 3) (b64 v 32)).setIfInBounds (o + 4) (b64 v 24)).setIfInBounds (o + 5) (b64 v 16)).setIfInBounds (o + 6) (b64 v 8)).setIfInBounds (o + 7) (.int .u8 (IntKind.u8.wrap v))
set_option maxRecDepth 100000 in
set_option maxHeartbeats 8000000 in
theorem put64i_any (w : World) (g o len cap T : Nat) (cs : Array Value) (v : Int) (hl : 8 ≤ len) (hsz : o + 8 ≤ cs.size) (hw : At w ([[⟨g, .cells cs T (0, 0)⟩]] : List Hp).flatten) :
    Calls Tryd.prog 99 #[.slice (some ⟨g, o, none⟩) len cap, .int .u64 v] w (Post w ([[⟨g, .cells cs T (0, 0)⟩]] : List Hp).flatten (fun _ : Unit => .tuple #[]) (fun _ => ([[⟨g, .cells (put64 cs o v) T (0, 0)⟩]] : List Hp).flatten) (fun _ => True)) := by
  refine enter [[⟨g, .cells cs T (0, 0)⟩]] Tryd.func99 rfl rfl hw (Le.refl _) ?_
  intro R hR
  have hg7 : aget cs (o + Int.toNat 7 * 1) = some (cs[o + 7]'(by omega)) := by
    rw [aget_eq]
    exact Array.getElem?_eq_getElem (by omega)
  refine run_seq ?_
  refine run_region rfl ?_
  refine op_move rfl rfl ?_
  refine op_index rfl rfl rfl (by omega) (by first | (rw [Int.toNat_natCast, Nat.mul_one, Nat.zero_add]) | (rw [Int.toNat_natCast, Nat.mul_one]) | (rw [Int.toNat_natCast, Nat.zero_add]) | (rw [Int.toNat_natCast]) | exact rfl) ?_
  (apply op_load; (· exact rfl); (· exact rfl); (· apply cell_of_has; (· (repeat (first | exact Has.here | apply Has.there))); (· first | exact rfl | exact hg7 | (simp [dgV, s8V]; done))))
  refine ops_nil ?_
  refine fin_code ?_
  refine run_seq ?_
  refine run_region rfl ?_
  refine op_move rfl rfl ?_
  refine op_move rfl rfl ?_
  (refine op_shr rfl rfl rfl (by omega) ?_)
  (refine op_convw rfl rfl ?_)
  refine op_index rfl rfl rfl (by omega) (by first | (rw [Int.toNat_natCast, Nat.mul_one, Nat.zero_add]) | (rw [Int.toNat_natCast, Nat.mul_one]) | (rw [Int.toNat_natCast, Nat.zero_add]) | (rw [Int.toNat_natCast]) | exact rfl) ?_
  (apply op_store; (· exact rfl); (· exact rfl); (· exact rfl); (· (repeat (first | exact Swap.here | apply Swap.there))); (· first | decide | (simp; done) | (simp; omega) | assumption))
  refine ops_nil ?_
  refine fin_code ?_
  refine run_seq ?_
  refine run_region rfl ?_
  refine op_move rfl rfl ?_
  refine op_move rfl rfl ?_
  (refine op_shr rfl rfl rfl (by omega) ?_)
  (refine op_convw rfl rfl ?_)
  refine op_index rfl rfl rfl (by omega) (by first | (rw [Int.toNat_natCast, Nat.mul_one, Nat.zero_add]) | (rw [Int.toNat_natCast, Nat.mul_one]) | (rw [Int.toNat_natCast, Nat.zero_add]) | (rw [Int.toNat_natCast]) | exact rfl) ?_
  (apply op_store; (· exact rfl); (· exact rfl); (· exact rfl); (· (repeat (first | exact Swap.here | apply Swap.there))); (· first | decide | (simp; done) | (simp; omega) | assumption))
  refine ops_nil ?_
  refine fin_code ?_
  refine run_seq ?_
  refine run_region rfl ?_
  refine op_move rfl rfl ?_
  refine op_move rfl rfl ?_
  (refine op_shr rfl rfl rfl (by omega) ?_)
  (refine op_convw rfl rfl ?_)
  refine op_index rfl rfl rfl (by omega) (by first | (rw [Int.toNat_natCast, Nat.mul_one, Nat.zero_add]) | (rw [Int.toNat_natCast, Nat.mul_one]) | (rw [Int.toNat_natCast, Nat.zero_add]) | (rw [Int.toNat_natCast]) | exact rfl) ?_
  (apply op_store; (· exact rfl); (· exact rfl); (· exact rfl); (· (repeat (first | exact Swap.here | apply Swap.there))); (· first | decide | (simp; done) | (simp; omega) | assumption))
  refine ops_nil ?_
  refine fin_code ?_
  refine run_seq ?_
  refine run_region rfl ?_
  refine op_move rfl rfl ?_
  refine op_move rfl rfl ?_
  (refine op_shr rfl rfl rfl (by omega) ?_)
  (refine op_convw rfl rfl ?_)
  refine op_index rfl rfl rfl (by omega) (by first | (rw [Int.toNat_natCast, Nat.mul_one, Nat.zero_add]) | (rw [Int.toNat_natCast, Nat.mul_one]) | (rw [Int.toNat_natCast, Nat.zero_add]) | (rw [Int.toNat_natCast]) | exact rfl) ?_
  (apply op_store; (· exact rfl); (· exact rfl); (· exact rfl); (· (repeat (first | exact Swap.here | apply Swap.there))); (· first | decide | (simp; done) | (simp; omega) | assumption))
  refine ops_nil ?_
  refine fin_code ?_
  refine run_seq ?_
  refine run_region rfl ?_
  refine op_move rfl rfl ?_
  refine op_move rfl rfl ?_
  (refine op_shr rfl rfl rfl (by omega) ?_)
  (refine op_convw rfl rfl ?_)
  refine op_index rfl rfl rfl (by omega) (by first | (rw [Int.toNat_natCast, Nat.mul_one, Nat.zero_add]) | (rw [Int.toNat_natCast, Nat.mul_one]) | (rw [Int.toNat_natCast, Nat.zero_add]) | (rw [Int.toNat_natCast]) | exact rfl) ?_
  (apply op_store; (· exact rfl); (· exact rfl); (· exact rfl); (· (repeat (first | exact Swap.here | apply Swap.there))); (· first | decide | (simp; done) | (simp; omega) | assumption))
  refine ops_nil ?_
  refine fin_code ?_
  refine run_seq ?_
  refine run_region rfl ?_
  refine op_move rfl rfl ?_
  refine op_move rfl rfl ?_
  (refine op_shr rfl rfl rfl (by omega) ?_)
  (refine op_convw rfl rfl ?_)
  refine op_index rfl rfl rfl (by omega) (by first | (rw [Int.toNat_natCast, Nat.mul_one, Nat.zero_add]) | (rw [Int.toNat_natCast, Nat.mul_one]) | (rw [Int.toNat_natCast, Nat.zero_add]) | (rw [Int.toNat_natCast]) | exact rfl) ?_
  (apply op_store; (· exact rfl); (· exact rfl); (· exact rfl); (· (repeat (first | exact Swap.here | apply Swap.there))); (· first | decide | (simp; done) | (simp; omega) | assumption))
  refine ops_nil ?_
  refine fin_code ?_
  refine run_seq ?_
  refine run_region rfl ?_
  refine op_move rfl rfl ?_
  refine op_move rfl rfl ?_
  (refine op_shr rfl rfl rfl (by omega) ?_)
  (refine op_convw rfl rfl ?_)
  refine op_index rfl rfl rfl (by omega) (by first | (rw [Int.toNat_natCast, Nat.mul_one, Nat.zero_add]) | (rw [Int.toNat_natCast, Nat.mul_one]) | (rw [Int.toNat_natCast, Nat.zero_add]) | (rw [Int.toNat_natCast]) | exact rfl) ?_
  (apply op_store; (· exact rfl); (· exact rfl); (· exact rfl); (· (repeat (first | exact Swap.here | apply Swap.there))); (· first | decide | (simp; done) | (simp; omega) | assumption))
  refine ops_nil ?_
  refine fin_code ?_
  refine run_region rfl ?_
  refine op_move rfl rfl ?_
  refine op_move rfl rfl ?_
  (refine op_convw rfl rfl ?_)
  refine op_index rfl rfl rfl (by omega) (by first | (rw [Int.toNat_natCast, Nat.mul_one, Nat.zero_add]) | (rw [Int.toNat_natCast, Nat.mul_one]) | (rw [Int.toNat_natCast, Nat.zero_add]) | (rw [Int.toNat_natCast]) | exact rfl) ?_
  (apply op_store; (· exact rfl); (· exact rfl); (· exact rfl); (· (repeat (first | exact Swap.here | apply Swap.there))); (· first | decide | (simp; done) | (simp; omega) | assumption))
  refine ops_nil ?_
  refine fin_ret0 (.inr rfl) rfl ?_
  intro w' g'
  exact hR _ _ (post_of g' () trivial rfl (by (apply le_of_picks; (repeat (first | exact Picks.nil | (apply Picks.cons; (· (repeat (first | exact Pick.here | apply Pick.there)))) | apply Picks.empty)))))
set_option maxRecDepth 100000 in
theorem put64_any (w : World) (g o len cap T : Nat) (cs : Array Value) (v : Int) (hl : 8 ≤ len) (hsz : o + 8 ≤ cs.size) (hw : At w ([[⟨g, .cells cs T (0, 0)⟩]] : List Hp).flatten) :
    Calls Tryd.prog 96 #[.slice (some ⟨g, o, none⟩) len cap, .int .u64 v] w (Post w ([[⟨g, .cells cs T (0, 0)⟩]] : List Hp).flatten (fun _ : Unit => .tuple #[]) (fun _ => ([[⟨g, .cells (put64 cs o v) T (0, 0)⟩]] : List Hp).flatten) (fun _ => True)) := by
  refine enter [[⟨g, .cells cs T (0, 0)⟩]] Tryd.func96 rfl rfl hw (Le.refl _) ?_
  intro R hR
  refine run_region rfl ?_
  refine op_move rfl rfl ?_
  refine op_move rfl rfl ?_
  ((first | (apply op_call; (· exact rfl)) | apply op_call0); (· exact rfl); rotate_left 1; (· exact fun w hG hw => put64i_any w g o len cap T cs v hl hsz hw); rotate_right 1; (· (repeat (first | exact Picks.nil | (apply Picks.cons; (· (repeat (first | exact Pick.here | apply Pick.there)))) | apply Picks.empty))))
  intro _ _
  refine ops_nil ?_
  refine fin_ret0 (.inr rfl) rfl ?_
  intro w' g'
  exact hR _ _ (post_of g' () trivial rfl (by (apply le_of_picks; (repeat (first | exact Picks.nil | (apply Picks.cons; (· (repeat (first | exact Pick.here | apply Pick.there)))) | apply Picks.empty)))))
/-- sha256's state. -/
structure Dg where (s : S8) (x : List Int) (nx ln : Nat)
def u8V (l : List Int) : List Value := l.map (Value.int .u8)
def dgT (d : Dg) : List Value := u8V d.x ++ [.int .i64 d.nx, .int .u64 d.ln, .bool false]
def dgV (d : Dg) : List Value := s8V d.s ++ dgT d
def s8i : S8 := ⟨1779033703, 3144134277, 1013904242, 2773480762, 1359893119, 2600822924, 528734635, 1541459225⟩
def dg0 : Dg := ⟨s8i, List.replicate 64 0, 0, 0⟩
def dgz : List Value := dgV ⟨⟨0, 0, 0, 0, 0, 0, 0, 0⟩, List.replicate 64 0, 0, 0⟩
set_option maxRecDepth 100000 in
set_option maxHeartbeats 8000000 in
/-- What a new state begins with. -/
theorem reset_any (w : World) (q : Nat) (hw : At w ([[⟨q, .cells dgz.toArray 135 (0, 0)⟩]] : List Hp).flatten) :
    Calls Tryd.prog 65 #[.pointer (some ⟨q, 0, none⟩)] w (Post w ([[⟨q, .cells dgz.toArray 135 (0, 0)⟩]] : List Hp).flatten (fun _ : Unit => .tuple #[]) (fun _ => ([[⟨q, .cells (dgV dg0).toArray 135 (0, 0)⟩]] : List Hp).flatten) (fun _ => True)) := by
  refine enter [[⟨q, .cells dgz.toArray 135 (0, 0)⟩]] Tryd.func65 rfl rfl hw (Le.refl _) ?_
  intro R hR
  have hdz : ∀ o, o < 75 → o < dgz.toArray.size := fun o h => h
  refine run_seq ?_
  refine run_seq ?_
  refine run_region rfl ?_
  refine op_move rfl rfl ?_
  refine op_nilCheck rfl rfl ?_
  refine op_fieldAddr rfl rfl ?_
  (apply op_load; (· exact rfl); (· exact rfl); (· apply cell_of_has; (· (repeat (first | exact Has.here | apply Has.there))); (· first | exact rfl | exact hg7 | (simp [dgV, s8V]; done))))
  refine op_not rfl rfl ?_
  refine ops_nil ?_
  refine fin_code ?_
  refine run_cond_t rfl ?_
  refine run_seq ?_
  refine run_region rfl ?_
  refine op_move rfl rfl ?_
  refine op_nilCheck rfl rfl ?_
  refine op_fieldAddr rfl rfl ?_
  (refine op_indexP rfl rfl rfl (by omega) ?_)
  (apply op_store; (· exact rfl); (· exact rfl); (· exact rfl); (· (repeat (first | exact Swap.here | apply Swap.there))); (· first | decide | (simp; done) | (simp; omega) | assumption))
  refine ops_nil ?_
  refine fin_code ?_
  refine run_seq ?_
  refine run_region rfl ?_
  refine op_move rfl rfl ?_
  refine op_nilCheck rfl rfl ?_
  refine op_fieldAddr rfl rfl ?_
  (refine op_indexP rfl rfl rfl (by omega) ?_)
  (apply op_store; (· exact rfl); (· exact rfl); (· exact rfl); (· (repeat (first | exact Swap.here | apply Swap.there))); (· first | decide | (simp; done) | (simp; omega) | assumption))
  refine ops_nil ?_
  refine fin_code ?_
  refine run_seq ?_
  refine run_region rfl ?_
  refine op_move rfl rfl ?_
  refine op_nilCheck rfl rfl ?_
  refine op_fieldAddr rfl rfl ?_
  (refine op_indexP rfl rfl rfl (by omega) ?_)
  (apply op_store; (· exact rfl); (· exact rfl); (· exact rfl); (· (repeat (first | exact Swap.here | apply Swap.there))); (· first | decide | (simp; done) | (simp; omega) | assumption))
  refine ops_nil ?_
  refine fin_code ?_
  refine run_seq ?_
  refine run_region rfl ?_
  refine op_move rfl rfl ?_
  refine op_nilCheck rfl rfl ?_
  refine op_fieldAddr rfl rfl ?_
  (refine op_indexP rfl rfl rfl (by omega) ?_)
  (apply op_store; (· exact rfl); (· exact rfl); (· exact rfl); (· (repeat (first | exact Swap.here | apply Swap.there))); (· first | decide | (simp; done) | (simp; omega) | assumption))
  refine ops_nil ?_
  refine fin_code ?_
  refine run_seq ?_
  refine run_region rfl ?_
  refine op_move rfl rfl ?_
  refine op_nilCheck rfl rfl ?_
  refine op_fieldAddr rfl rfl ?_
  (refine op_indexP rfl rfl rfl (by omega) ?_)
  (apply op_store; (· exact rfl); (· exact rfl); (· exact rfl); (· (repeat (first | exact Swap.here | apply Swap.there))); (· first | decide | (simp; done) | (simp; omega) | assumption))
  refine ops_nil ?_
  refine fin_code ?_
  refine run_seq ?_
  refine run_region rfl ?_
  refine op_move rfl rfl ?_
  refine op_nilCheck rfl rfl ?_
  refine op_fieldAddr rfl rfl ?_
  (refine op_indexP rfl rfl rfl (by omega) ?_)
  (apply op_store; (· exact rfl); (· exact rfl); (· exact rfl); (· (repeat (first | exact Swap.here | apply Swap.there))); (· first | decide | (simp; done) | (simp; omega) | assumption))
  refine ops_nil ?_
  refine fin_code ?_
  refine run_seq ?_
  refine run_region rfl ?_
  refine op_move rfl rfl ?_
  refine op_nilCheck rfl rfl ?_
  refine op_fieldAddr rfl rfl ?_
  (refine op_indexP rfl rfl rfl (by omega) ?_)
  (apply op_store; (· exact rfl); (· exact rfl); (· exact rfl); (· (repeat (first | exact Swap.here | apply Swap.there))); (· first | decide | (simp; done) | (simp; omega) | assumption))
  refine ops_nil ?_
  refine fin_code ?_
  refine run_region rfl ?_
  refine op_move rfl rfl ?_
  refine op_nilCheck rfl rfl ?_
  refine op_fieldAddr rfl rfl ?_
  (refine op_indexP rfl rfl rfl (by omega) ?_)
  (apply op_store; (· exact rfl); (· exact rfl); (· exact rfl); (· (repeat (first | exact Swap.here | apply Swap.there))); (· first | decide | (simp; done) | (simp; omega) | assumption))
  refine ops_nil ?_
  refine fin_code ?_
  refine run_seq ?_
  refine run_region rfl ?_
  refine op_move rfl rfl ?_
  refine op_nilCheck rfl rfl ?_
  refine op_fieldAddr rfl rfl ?_
  (apply op_store; (· exact rfl); (· exact rfl); (· exact rfl); (· (repeat (first | exact Swap.here | apply Swap.there))); (· first | decide | (simp; done) | (simp; omega) | assumption))
  refine ops_nil ?_
  refine fin_code ?_
  refine run_region rfl ?_
  refine op_move rfl rfl ?_
  refine op_nilCheck rfl rfl ?_
  refine op_fieldAddr rfl rfl ?_
  (apply op_store; (· exact rfl); (· exact rfl); (· exact rfl); (· (repeat (first | exact Swap.here | apply Swap.there))); (· first | decide | (simp; done) | (simp; omega) | assumption))
  refine ops_nil ?_
  refine fin_ret0 (.inr rfl) rfl ?_
  intro w' g'
  exact hR _ _ (post_of g' () trivial rfl (by (apply le_of_picks; (repeat (first | exact Picks.nil | (apply Picks.cons; (· (repeat (first | exact Pick.here | apply Pick.there)))) | apply Picks.empty)))))
end Go.Proofs.Eng

set_option linter.unusedVariables false
set_option linter.unusedSimpArgs false
namespace Go.Proofs.Eng
open Go.RowKit
/-! ### Bytes fed to sha256: plain -/
/-- First the rest of a block that was begun. -/
def wr1 (K : Nat → Int) (d : Dg) (pb : List Int) : Dg × List Int :=
  if d.nx = 0 then (d, pb) else
    if d.nx + min pb.length (64 - d.nx) = 64 then
      (⟨blks K 1 (d.x.take d.nx ++ pb.take (min pb.length (64 - d.nx)) ++ d.x.drop (d.nx + min pb.length (64 - d.nx))) d.s, d.x.take d.nx ++ pb.take (min pb.length (64 - d.nx)) ++ d.x.drop (d.nx + min pb.length (64 - d.nx)), 0, d.ln⟩, pb.drop (min pb.length (64 - d.nx)))
    else (⟨d.s, d.x.take d.nx ++ pb.take (min pb.length (64 - d.nx)) ++ d.x.drop (d.nx + min pb.length (64 - d.nx)), d.nx + min pb.length (64 - d.nx), d.ln⟩, pb.drop (min pb.length (64 - d.nx)))
/-- Then the whole blocks. -/
def wr2 (K : Nat → Int) (p : Dg × List Int) : Dg × List Int :=
  if p.2.length < 64 then p else (⟨blks K (p.2.length / 64) (p.2.take (p.2.length / 64 * 64)) p.1.s, p.1.x, p.1.nx, p.1.ln⟩, p.2.drop (p.2.length / 64 * 64))
/-- Then what is left. -/
def wr3 (p : Dg × List Int) : Dg := if p.2.length = 0 then p.1 else ⟨p.1.s, p.2 ++ p.1.x.drop p.2.length, p.2.length, p.1.ln⟩
def wr (K : Nat → Int) (d : Dg) (pb : List Int) : Dg := wr3 (wr2 K (wr1 K ⟨d.s, d.x, d.nx, d.ln + pb.length⟩ pb))
/-- What is so of each state. -/
def DgOk (d : Dg) : Prop := d.x.length = 64 ∧ d.nx < 64 ∧ d.ln % 64 = d.nx
theorem wr1_ok (K : Nat → Int) (d : Dg) (pb : List Int) (hx : d.x.length = 64) (hn : d.nx < 64) (hl : d.ln % 64 = (d.nx + pb.length) % 64) :
    (wr1 K d pb).1.x.length = 64 ∧ (wr1 K d pb).1.nx < 64 ∧ (wr1 K d pb).1.ln % 64 = ((wr1 K d pb).1.nx + (wr1 K d pb).2.length) % 64 ∧ ((wr1 K d pb).2 = [] ∨ (wr1 K d pb).1.nx = 0) ∧ (wr1 K d pb).2.length ≤ pb.length := by
  unfold wr1
  split
  · next h => exact ⟨hx, hn, hl, .inr h, Nat.le_refl _⟩
  · next h =>
    split
    · next h2 =>
      refine ⟨?_, ?_, ?_, .inr rfl, ?_⟩ <;> simp <;> omega
    · next h2 =>
      refine ⟨?_, ?_, ?_, .inl ?_, ?_⟩
      · simp; omega
      · dsimp only; omega
      · simp; omega
      · simp; omega
      · simp
theorem wr_ok (K : Nat → Int) (d : Dg) (pb : List Int) (h : DgOk d) : DgOk (wr K d pb) := by
  obtain ⟨hx, hn, hl⟩ := h
  obtain ⟨a1, a2, a3, a4, a5⟩ := wr1_ok K ⟨d.s, d.x, d.nx, d.ln + pb.length⟩ pb hx hn (by dsimp only; omega)
  unfold wr
  generalize wr1 K ⟨d.s, d.x, d.nx, d.ln + pb.length⟩ pb = p at *
  obtain ⟨d1, r⟩ := p
  dsimp only at a1 a2 a3 a4
  have hr : ∀ (s : S8), (r.length < 64 ∨ d1.nx = 0) → True := fun _ _ => trivial
  unfold wr2 wr3 DgOk
  dsimp only
  split
  · dsimp only
    split
    · next h => exact ⟨a1, a2, by omega⟩
    · next h =>
      rcases a4 with rfl | a4
      · exact absurd rfl h
      · refine ⟨by simp; omega, by dsimp only; omega, by dsimp only; omega⟩
  · next hr =>
    have h0 : d1.nx = 0 := by
      rcases a4 with rfl | a4
      · simp at hr
      · exact a4
    dsimp only
    split
    · next h =>
      simp at h
      refine ⟨a1, by dsimp only; omega, by dsimp only; omega⟩
    · next h =>
      simp at h
      refine ⟨by simp; omega, by simp; omega, by simp; omega⟩
/-! ### Its cells -/
theorem u8V_len (l : List Int) : (u8V l).length = l.length := by simp [u8V]
theorem dg_len (d : Dg) (h : d.x.length = 64) : (dgV d).toArray.size = 75 := by simp [dgV, dgT, s8V, u8V, h]
theorem dg_get_nx (d : Dg) (h : d.x.length = 64) : aget (dgV d).toArray 72 = some (.int .i64 d.nx) := by
  rw [aget_eq]; simp [dgV, dgT, s8V, List.getElem?_append, u8V_len, h]
theorem dg_get_ln (d : Dg) (h : d.x.length = 64) : aget (dgV d).toArray 73 = some (.int .u64 d.ln) := by
  rw [aget_eq]; simp [dgV, dgT, s8V, List.getElem?_append, u8V_len, h]
theorem dg_set_nx (d : Dg) (h : d.x.length = 64) (n : Nat) : (dgV d).toArray.setIfInBounds 72 (.int .i64 n) = (dgV ⟨d.s, d.x, n, d.ln⟩).toArray := by
  rw [List.setIfInBounds_toArray]
  congr 1
  simp only [dgV, dgT, s8V, List.cons_append, List.nil_append, List.set_cons_succ]
  congr 8
  rw [List.set_append_right _ _ (by rw [u8V_len, h]; decide), u8V_len, h]
  rfl
theorem dg_set_ln (d : Dg) (h : d.x.length = 64) (n : Nat) : (dgV d).toArray.setIfInBounds 73 (.int .u64 n) = (dgV ⟨d.s, d.x, d.nx, n⟩).toArray := by
  rw [List.setIfInBounds_toArray]
  congr 1
  simp only [dgV, dgT, s8V, List.cons_append, List.nil_append, List.set_cons_succ]
  congr 8
  rw [List.set_append_right _ _ (by rw [u8V_len, h]; decide), u8V_len, h]
  rfl
theorem dg_copy (d : Dg) (h : d.x.length = 64) (o : Nat) (bs : List Int) (hb : o + bs.length ≤ 64) :
    ((dgV d).toArray.toList.take (8 + o) ++ u8V bs ++ (dgV d).toArray.toList.drop (8 + o + (u8V bs).length)).toArray = (dgV ⟨d.s, d.x.take o ++ bs ++ d.x.drop (o + bs.length), d.nx, d.ln⟩).toArray := by
  have e8 : ∀ s : S8, (s8V s).length = 8 := fun _ => rfl
  congr 1
  simp only [dgV, dgT]
  rw [List.take_append, List.drop_append, e8, u8V_len, List.take_of_length_le (by rw [e8]; omega), List.drop_of_length_le (by rw [e8]; omega), show 8 + o - 8 = o by omega, show 8 + o + bs.length - 8 = o + bs.length by omega]
  rw [List.take_append_of_le_length (by rw [u8V_len, h]; omega), List.drop_append_of_le_length (by rw [u8V_len, h]; omega)]
  simp [u8V, List.map_take, List.map_drop]
end Go.Proofs.Eng

set_option linter.unusedVariables false
set_option linter.unusedSimpArgs false
namespace Go.Proofs.Eng
open Go.RowKit
theorem RdB.nowD {w0 w : World} {L0 L : Hp} {B q : Nat} {cs : List Value} (h : RdB w0 B q cs) (g : Goes w0 L0 w L) (hL : ∀ k ∈ ids L0, B ≤ k) (hB : B ≤ w0.heap.size) : RdB w B q cs := by
  refine ⟨h.1, fun j v hv => ?_⟩
  have := h.2 j v hv
  have hq := h.1
  have e : w.cell? ⟨q, j, none⟩ = w0.cell? ⟨q, j, none⟩ := by
    simp only [World.cell?, g.keep q (by omega) (fun hm => by have := hL q hm; omega)]
  rw [e]; exact this
theorem cell_now {w0 w : World} {L0 L : Hp} {g o : Nat} {v : Value} (gs : Goes w0 L0 w L) (h : w0.cell? ⟨g, o, none⟩ = some v) (hg : g ∉ ids L0) : w.cell? ⟨g, o, none⟩ = some v := by
  have hlt := World.block_lt_of_cell? w0 _ h
  rw [← h]
  exact World.cell?_of_block (gs.keep g hlt hg)
set_option maxRecDepth 100000 in
theorem blk_any (w : World) (q g o n cap : Nat) (K : Nat → Int) (kv : List Value) (pb : List Int) (s : S8) (rest : List Value) (hn : pb.length = n * 64) (hn2 : n ≤ 10000) (hcap : n * 64 ≤ cap) (B : Nat) (hBw : B ≤ w.heap.size) (hBq : B ≤ q)
    (hK : RdB w B 1 kv) (hkv : ∀ i, i < 64 → kv[i]? = some (.int .u32 (K i)))
    (hp : (g ≠ q ∧ ∀ (j : Nat) (v : Int), pb[j]? = some v → w.cell? ⟨g, o + j, none⟩ = some (.int .u8 v)) ∨ (g = q ∧ ∀ (j : Nat) (v : Int), pb[j]? = some v → aget (s8V s ++ rest).toArray (o + j) = some (.int .u8 v)))
    (hw : At w ([[⟨q, .cells (s8V s ++ rest).toArray 135 (0, 0)⟩]] : List Hp).flatten) :
    Calls Tryd.prog 93 #[.pointer (some ⟨q, 0, none⟩), .slice (some ⟨g, o, none⟩) (n * 64) cap] w (Post w ([[⟨q, .cells (s8V s ++ rest).toArray 135 (0, 0)⟩]] : List Hp).flatten (fun _ : Unit => .tuple #[]) (fun _ => ([[⟨q, .cells (s8V (blks K n pb s) ++ rest).toArray 135 (0, 0)⟩]] : List Hp).flatten) (fun _ => True)) := by
  refine enter [[⟨q, .cells (s8V s ++ rest).toArray 135 (0, 0)⟩]] Tryd.func93 rfl rfl hw (Le.refl _) ?_
  intro R hR
  have hL0 : ∀ k ∈ ids ([[⟨q, .cells (s8V s ++ rest).toArray 135 (0, 0)⟩]] : List Hp).flatten, B ≤ k := by
    intro k hk
    simp [ids] at hk
    subst hk
    exact hBq
  refine run_region rfl ?_
  refine op_move rfl rfl ?_
  refine op_move rfl rfl ?_
  ((first | (apply op_call; (· exact rfl)) | apply op_call0); (· exact rfl)); (case' hc => (refine fun w hG hw => block_any w q g o n cap K kv pb s rest hn hn2 hcap B ?_ hBq ?_ hkv ?_ hw)); (case hp => (repeat (first | exact Picks.nil | (apply Picks.cons; (· (repeat (first | exact Pick.here | apply Pick.there)))) | apply Picks.empty)))
  · exact Nat.le_trans hBw hG.size
  · exact RdB.nowD hK hG hL0 hBw
  · rcases hp with ⟨h1, h2⟩ | ⟨h1, h2⟩
    · exact .inl ⟨h1, fun j v hv => cell_now hG (h2 j v hv) (by simpa [ids] using h1)⟩
    · exact .inr ⟨h1, h2⟩
  intro _ _
  refine ops_nil ?_
  refine fin_ret0 (.inr rfl) rfl ?_
  intro w' g'
  exact hR _ _ (post_of g' () trivial rfl (by (apply le_of_picks; (repeat (first | exact Picks.nil | (apply Picks.cons; (· (repeat (first | exact Pick.here | apply Pick.there)))) | apply Picks.empty)))))
end Go.Proofs.Eng
