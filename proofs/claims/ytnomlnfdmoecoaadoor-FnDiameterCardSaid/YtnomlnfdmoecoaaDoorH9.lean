/- A part of the proof: what functions of the program do, step by step. -/
import Derived.Test.YtnomlnfdmoecoaaDoorH8
import Derived.Lib.AppendStr
set_option linter.unusedVariables false
set_option linter.unusedSimpArgs false
namespace Go.Proofs.Eng
open Go.RowKit
open Go.Lib (strCells strCells_length strCells_oneCell)
theorem own_append_string {P : Program} {w : World} {t u ty e : Nat} [c : TSlice P t e 1 1 (.int .u8 0)] [cs : TStr P u] {v : Value} {n : Nat} {xs : List Value} {l : Hp} {s : ByteArray}
    (h : Own e 1 v n xs l) (hw : At w l) (hs : 0 < s.size) (h63 : n + s.size ≤ maxLen) (hb : n + s.size ≤ 140737488355328) :
    ∃ v' w' l', (Builtin.append_ #[t, u] ty #[v, .string s]).run P w = .ok v' w' ∧ Own e 1 v' (n + s.size) (xs ++ strCells s) l' ∧ Goes w l w' l' := by
  obtain ⟨i, hi, hz0, hz1, hz2⟩ := infoParts c.h2
  have hxl : xs.length = n := by simpa using h.1
  have hlen : (xs ++ strCells s).length = (n + s.size) * 1 := by rw [List.length_append, hxl, strCells_length, Nat.mul_one]
  rcases h.2 with ⟨rfl, rfl, rfl⟩ | ⟨g, cap, cur, rfl, rfl, hnc, hcm, hcs, htake⟩
  · obtain ⟨v', w', hr, h2, h3, _⟩ := Go.Lib.run_append_own_string (P := P) w w.heap.size t u ty e i c.h1 cs.h hi hz0 hz1 hz2 (.slice none 0 0) 0 xs ⟨h.1, .inl ⟨rfl, rfl⟩⟩ s h63 hb (Nat.le_refl _)
    rcases h2.2 with ⟨_, h0⟩ | ⟨g', cap', cur', rfl, hge, hh, h4, h5, h6, h7⟩
    · omega
    · refine ⟨_, w', [⟨g', .cells cur' e (0, 0)⟩], hr, ⟨h2.1, .inr ⟨g', cap', cur', rfl, rfl, h4, h5, h6, h7⟩⟩, ⟨h3.os, h3.tape, h3.output, h3.size, fun k hk _ => h3.block k hk (by simp [Value.ownBlock]), ⟨by simp [ids], ?_⟩, ?_⟩⟩
      · intro x hx
        obtain rfl := List.mem_singleton.1 hx
        exact hh
      · intro k hk
        simp [ids] at hk
        subst hk
        exact .inr hge
  · have hg := hw.here ⟨g, .cells cur e (0, 0)⟩ (by simp)
    have hcs' : cur.size = cap := by simpa using hcs
    have ht' : cur.toList.take n = xs := by simpa using htake
    by_cases hroom : n + s.size ≤ cap
    · have hr := Go.Lib.run_append_room_string (P := P) w t u ty e i c.h1 cs.h hi hz1 g n cap cur hg s hroom (by omega)
      refine ⟨_, _, [⟨g, .cells (cur.toList.take n ++ strCells s ++ cur.toList.drop (n + s.size)).toArray e (0, 0)⟩], hr, ⟨hlen, .inr ⟨g, cap, _, rfl, rfl, hroom, hcm, ?_, ?_⟩⟩, goes_setRow hg⟩
      · simp only [List.size_toArray, List.length_append, List.length_take, List.length_drop, Array.length_toList, strCells_length]
        omega
      · rw [ht', ← hlen]
        exact List.take_left
    · have holds : ∀ j u, xs[j]? = some u → w.cell? ((⟨g, 0, none⟩ : Addr).add j) = some u := (h.owns hw).cells (g := g) rfl
      have hr := Go.Lib.run_append_grow_string (P := P) w t u ty e i (.int .u8 0) c.h1 cs.h hi hz0 ⟨g, 0, none⟩ n cap xs (by rw [hz1]; simpa using hxl) holds s (by omega) (by simp only [maxLen] at h63; omega) (by rw [hz2]; exact growslice_fits (by omega) (by omega))
      refine ⟨_, _, [⟨w.heap.size, .cells (xs.toArray ++ (strCells s).toArray ++ Builtin.zeroCells (Value.int .u8 0).cells (grownCap w (n + s.size) cap e - (n + s.size))) e⟩], hr, ⟨hlen, .inr ⟨w.heap.size, _, _, rfl, rfl, grownCap_ge w (n + s.size) cap e, grownCap_le_maxLen w (n + s.size) cap e h63, ?_, ?_⟩⟩, ⟨rfl, rfl, rfl, by simp, fun k hk _ => heap_alloc_old w.drew _ k hk, ⟨by simp [ids], ?_⟩, ?_⟩⟩
      · have hz1 : (Value.int IntKind.u8 0).cells.size = 1 := rfl
        have := grownCap_ge w (n + s.size) cap e
        simp only [Array.size_append, List.size_toArray, size_zeroCells, hz1, hxl, strCells_length]
        omega
      · simp only [Array.toList_append, List.append_assoc]
        rw [← List.append_assoc, ← hlen]
        exact List.take_left
      · intro x hx
        obtain rfl := List.mem_singleton.1 hx
        exact heap_alloc_new w.drew _
      · intro k hk
        simp [ids] at hk
        subst hk
        exact .inr (Nat.le_refl _)
section
variable {C : Ctx} {E : Env} {Ls : List Hp} {ks : List Kont} {ops : Array Oper} {rest : List Oper} {ty : Nat} {pos : String} {af : Array Edge} {d : Nat}
theorem ops_nilFirst (h : Ops C ops rest ks E ([] :: Ls)) : Ops C ops rest ks E Ls := h.perm (Le.of_perm (by simp))
/-- append of a string's bytes to a row of the call's own. -/
theorem op_appendS {x y : Operand} {t u e : Nat} [c : TSlice C.P t e 1 1 (.int .u8 0)] [cs : TStr C.P u] {v : Value} {n : Nat} {xs : List Value} {l : Hp} {R : List Hp} {s : ByteArray} (ns : List Int) (m : Nat)
    (hn : Nat.blt d C.fn.ntmps = true) (hx : ev E x = some v) (hy : ev E y = some (.string s)) (ho : Own e 1 v n xs l) (hp : Pick Ls l R)
    (hns : strCells s = u8V ns) (hm : s.size = m) (hs : 0 < m) (h63 : n + m ≤ 1000000)
    (k : ∀ v' l', Own e 1 v' (n + m) (xs ++ u8V ns) l' → Ops C ops rest ks ((d, v') :: E) (l' :: R)) : Ops C ops (⟨some d, .call { callee := .builtin .append, args := #[x, y], argTypes := #[t, u] }, ty, pos, af, none⟩ :: rest) ks E Ls := by
  subst hm
  refine ⟨fun a w f gs => ?_⟩
  refine wpList_plain rfl fun K hK => ?_
  have gs' := gs.le (L' := l ++ R.flatten) (.of_perm hp.perm)
  have hat : At w l := ⟨by have := gs'.now.nd; rw [ids_append, List.nodup_append] at this; exact this.1, fun x hx => gs'.now.here x (List.mem_append.2 (.inl hx))⟩
  obtain ⟨v', w', l', hrun, ho', hg'⟩ := own_append_string (P := C.P) (w := w) (t := t) (u := u) (ty := ty) ho hat hs (by simp only [maxLen]; omega) (by omega)
  rw [hns] at ho'
  unfold Oper.wp
  have : (execOp a.eval ⟨some d, .call { callee := .builtin .append, args := #[x, y], argTypes := #[t, u] }, ty, pos, af, none⟩).run C.P w = .ok (.value v') w' := by
    simp only [execOp, resolve, invoke, builtin, Sem.run_bind, Sem.run_pure, Result.andThen_ok, List.map_toArray, List.map_cons, List.map_nil, f.ev hx, f.ev hy, hrun]
  rw [this]
  exact hK _ _ ((k v' l' ho').out _ _ (f.put _ (Nat.lt_of_succ_le (by simpa [Nat.blt] using hn))) (gs'.frame hg'))
theorem op_quoC {bt bt' : Nat} {x y : Operand} {ik : IntKind} {m : Nat} (n : Nat) {i : Int} (hn : Nat.blt d C.fn.ntmps = true) (hx : ev E x = some (.int ik (m : Int))) (hy : ev E y = some (.int ik i)) (hi : i = n) (h : n ≠ 0) (hm : (m : Int) ≤ kHi ik)
    (k : Ops C ops rest ks ((d, .int ik ((m / n : Nat) : Int)) :: E) Ls) : Ops C ops (⟨some d, .binOp .quo bt x y bt', ty, pos, af, none⟩ :: rest) ks E Ls := by
  subst hi
  exact op_quoN hn hx hy h hm k
/-- append of a row of bytes of the call's own to another one. -/
theorem op_appendO {x y : Operand} {t t' e : Nat} [c : TSlice C.P t e 1 1 (.int .u8 0)] {v v2 : Value} {n m : Nat} {xs : List Value} {ns : List Int} {l l2 : Hp} {R R2 : List Hp}
    (hn : Nat.blt d C.fn.ntmps = true) (hx : ev E x = some v) (hy : ev E y = some v2) (ho : Own e 1 v n xs l) (hp : Pick Ls l R)
    (ho2 : Own e 1 v2 m (u8V ns) l2) (hp2 : Pick Ls l2 R2) (hm : 0 < m) (h63 : n + m ≤ 1000000) (ht' : t' = t)
    (k : ∀ v' l', Own e 1 v' (n + m) (xs ++ u8V ns) l' → Ops C ops rest ks ((d, v') :: E) (l' :: R)) : Ops C ops (⟨some d, .call { callee := .builtin .append, args := #[x, y], argTypes := #[t, t'] }, ty, pos, af, none⟩ :: rest) ks E Ls := by
  obtain ⟨g, cap, sp, rfl, rfl, h1, h2, h3, h4⟩ := ho2.open hm
  refine op_append (news := u8V ns) hn hx hy ho hp (by rw [h4, Nat.mul_one]) (u8_one _) (fun j u hu => ?_) (by simp only [maxLen]; omega) (by omega) ht' k
  rw [add_addr]
  refine Pick.cell hp2 (t := e) (fr := (0, 0)) (cs := (u8V ns ++ sp).toArray) (by simp) ?_
  rw [Nat.zero_add]
  exact aget_pre hu
end
/-- Decimal digits. -/
def digF : Nat → Nat → List Int
  | 0, n => [48 + (n : Int)]
  | f + 1, n => if n < 10 then [48 + (n : Int)] else digF f (n / 10) ++ [48 + ((n % 10 : Nat) : Int)]
theorem digF_len : ∀ f n, 0 < (digF f n).length ∧ (digF f n).length ≤ f + 1
  | 0, n => ⟨by simp [digF], by simp [digF]⟩
  | f + 1, n => by
    have := digF_len f (n / 10)
    unfold digF
    split <;> simp <;> omega
set_option maxRecDepth 100000 in
theorem dig_any : ∀ (f n : Nat) (w : World), n < 10 ^ f → f ≤ 10 → n ≤ 4294967295 →
    Calls Tryd.prog 44 #[.int .u32 n] w (Post w ([] : List Hp).flatten (fun x : Value × Hp => x.1) (fun x => ([x.2] : List Hp).flatten) (fun x => Own 5 1 x.1 (digF f n).length (u8V (digF f n)) x.2)) := by
  intro f
  induction f with
  | zero =>
    intro n w hn hf hm
    have hn0 : n = 0 := by omega
    subst hn0
    refine enter [] Tryd.func44 rfl rfl (At.nil w) (Le.refl _) ?_
    intro R hR
    refine run_seq ?_
    refine run_region rfl ?_
    refine op_assign rfl rfl ?_
    refine ops_nil ?_
    refine fin_code ?_
    refine run_seq ?_
    refine run_seq ?_
    refine run_region rfl ?_
    refine op_move rfl rfl ?_
    refine op_cmp_t rfl rfl rfl rfl (by first | (simp only [cmpP]; done) | (simp only [cmpP]; omega)) ?_
    refine ops_nil ?_
    refine fin_code ?_
    refine run_cond_t rfl ?_
    refine run_seq ?_
    refine run_region rfl ?_
    refine op_move rfl rfl ?_
    refine op_add rfl rfl rfl (by simp only [kLo, kHi]; omega) ?_
    refine op_conv rfl rfl (by simp only [kLo, kHi]; omega) ?_
    (refine op_slice1 rfl rfl (by first | rfl | simp [Value.cells]) (by decide) ?_; intro _ _)
    refine op_assign rfl rfl ?_
    refine ops_nil ?_
    refine fin_code ?_
    refine run_ret ?_
    refine fin_ret_code ?_
    refine fin_ret1 rfl rfl ?_
    intro w' g'
    exact hR _ _ (post_of g' (_, _) (Own.lit rfl (show 1 ≤ maxLen by decide)) rfl (by (apply le_of_picks; (repeat (first | exact Picks.nil | (apply Picks.cons; (· (repeat (first | exact Pick.here | apply Pick.there)))) | apply Picks.empty)))))
  | succ f ih =>
    intro n w hn hf hm
    refine enter [] Tryd.func44 rfl rfl (At.nil w) (Le.refl _) ?_
    intro R hR
    by_cases h10 : n < 10
    · have hd : digF (f + 1) n = [48 + (n : Int)] := by unfold digF; rw [if_pos h10]
      rw [hd] at hR
      refine run_seq ?_
      refine run_region rfl ?_
      refine op_assign rfl rfl ?_
      refine ops_nil ?_
      refine fin_code ?_
      refine run_seq ?_
      refine run_seq ?_
      refine run_region rfl ?_
      refine op_move rfl rfl ?_
      refine op_cmp_t rfl rfl rfl rfl (by first | (simp only [cmpP]; done) | (simp only [cmpP]; omega)) ?_
      refine ops_nil ?_
      refine fin_code ?_
      refine run_cond_t rfl ?_
      refine run_seq ?_
      refine run_region rfl ?_
      refine op_move rfl rfl ?_
      refine op_add rfl rfl rfl (by simp only [kLo, kHi]; omega) ?_
      refine op_conv rfl rfl (by simp only [kLo, kHi]; omega) ?_
      (refine op_slice1 rfl rfl (by first | rfl | simp [Value.cells]) (by decide) ?_; intro _ _)
      refine op_assign rfl rfl ?_
      refine ops_nil ?_
      refine fin_code ?_
      refine run_ret ?_
      refine fin_ret_code ?_
      refine fin_ret1 rfl rfl ?_
      intro w' g'
      exact hR _ _ (post_of g' (_, _) (Own.lit rfl (show 1 ≤ maxLen by decide)) rfl (by (apply le_of_picks; (repeat (first | exact Picks.nil | (apply Picks.cons; (· (repeat (first | exact Pick.here | apply Pick.there)))) | apply Picks.empty)))))
    · have hd : digF (f + 1) n = digF f (n / 10) ++ [48 + ((n % 10 : Nat) : Int)] := by conv => lhs; unfold digF; rw [if_neg h10]
      rw [hd] at hR
      have hl := digF_len f (n / 10)
      refine run_seq ?_
      refine run_region rfl ?_
      refine op_assign rfl rfl ?_
      refine ops_nil ?_
      refine fin_code ?_
      refine run_seq ?_
      refine run_seq ?_
      refine run_region rfl ?_
      refine op_move rfl rfl ?_
      refine op_cmp_f rfl rfl rfl rfl (by first | (simp only [cmpP]; done) | (simp only [cmpP]; omega)) ?_
      refine ops_nil ?_
      refine fin_code ?_
      refine run_cond_f rfl ?_
      refine run_skip ?_
      refine fin_code ?_
      refine run_seq ?_
      refine run_region rfl ?_
      refine op_move rfl rfl ?_
      (refine op_quoC 10 rfl rfl rfl rfl (by decide) (by simp only [kHi]; omega) ?_)
      have hp9 : n / 10 < 10 ^ f := by rw [Nat.pow_succ] at hn; omega
      ((first | (apply op_call; (· exact rfl)) | apply op_call0); (· exact rfl); rotate_left 1; (· exact fun w hG hw => ih (n / 10) w hp9 (by omega) (by omega)); rotate_right 1; (· (repeat (first | exact Picks.nil | (apply Picks.cons; (· (repeat (first | exact Pick.here | apply Pick.there)))) | apply Picks.empty))))
      rintro ⟨v, l⟩ hx
      dsimp only at hx ⊢
      refine op_move rfl rfl ?_
      (refine op_remC 10 rfl rfl rfl rfl (by decide) ?_)
      refine op_add rfl rfl rfl (by simp only [kLo, kHi]; omega) ?_
      refine op_conv rfl rfl (by simp only [kLo, kHi]; omega) ?_
      (refine op_slice1 rfl rfl (by first | rfl | simp [Value.cells]) (by decide) ?_; intro _ _)
      (apply op_append1; (· exact rfl); (· exact rfl); (· exact rfl); (· exact hx); (· (repeat (first | exact Pick.here | apply Pick.there))); (· (repeat (first | exact Has.here | apply Has.there))); (· exact rfl); (· first | exact onesC rfl | (intro u hu; simp [Value.cells] at hu; rcases hu with rfl | rfl | rfl | rfl | rfl | rfl <;> rfl) | (intro u hu; simp [Value.cells] at hu; rcases hu with rfl | rfl | rfl <;> rfl) | (intro u hu; simp [Value.cells] at hu; rcases hu with rfl | rfl <;> rfl) | (intro u hu; simp [Value.cells] at hu; subst hu; rfl)); (· omega); (· omega); (· exact rfl))
      intro v2 l2 ho2
      refine op_assign rfl rfl ?_
      refine ops_nil ?_
      refine fin_code ?_
      refine run_ret ?_
      refine fin_ret1 rfl rfl ?_
      intro w' g'
      refine hR _ _ (post_of g' (v2, l2) ?_ rfl (by (apply le_of_picks; (repeat (first | exact Picks.nil | (apply Picks.cons; (· (repeat (first | exact Pick.here | apply Pick.there)))) | apply Picks.empty)))))
      have e : u8V (digF f (n / 10) ++ [48 + ((n % 10 : Nat) : Int)]) = u8V (digF f (n / 10)) ++ [.int .u8 (48 + ((n % 10 : Nat) : Int))] := by simp [u8V]
      dsimp only
      rw [List.length_append, e]
      exact ho2
/-! ### A place's text -/
def tOff : List Int := [123, 34, 79, 102, 102, 115, 101, 116, 34, 58]
def tDist : List Int := [44, 34, 68, 105, 115, 116, 97, 110, 99, 101, 34, 58]
def tYes : List Int := [44, 34, 73, 110, 84, 114, 97, 110, 115, 112, 111, 115, 101, 34, 58, 116, 114, 117, 101, 125]
def tNo : List Int := [44, 34, 73, 110, 84, 114, 97, 110, 115, 112, 111, 115, 101, 34, 58, 102, 97, 108, 115, 101, 125]
def jsonB (s : NS) : List Int := tOff ++ digF 10 s.o ++ tDist ++ digF 10 s.d ++ (if s.t = true then tYes else tNo)
theorem jsonB_len (s : NS) : 0 < (jsonB s).length ∧ (jsonB s).length ≤ 100 := by
  have h1 := digF_len 10 s.o
  have h2 := digF_len 10 s.d
  have h3 : (if s.t = true then tYes else tNo).length ≤ 21 := by split <;> decide
  simp only [jsonB, List.length_append]
  have : tOff.length = 10 := rfl
  have : tDist.length = 12 := rfl
  omega
theorem u8V_app (a b : List Int) : u8V (a ++ b) = u8V a ++ u8V b := by simp [u8V]
set_option maxRecDepth 100000 in
theorem json_any (w : World) (s : NS) (ho : s.o ≤ 4294967295) (hd : s.d ≤ 255) :
    Calls Tryd.prog 38 #[.agg #[.int .u32 s.o, .int .u8 s.d, .bool s.t]] w (Post w ([] : List Hp).flatten (fun x : Value × Hp => x.1) (fun x => ([x.2] : List Hp).flatten) (fun x => Own 5 1 x.1 (jsonB s).length (u8V (jsonB s)) x.2)) := by
  refine enter [] Tryd.func38 rfl rfl (At.nil w) (Le.refl _) ?_
  intro R hR
  have h1 := digF_len 10 s.o
  have h2 := digF_len 10 s.d
  have p1 : s.o < 10 ^ 10 := by omega
  have p2 : s.d < 10 ^ 10 := by omega
  refine run_seq ?_
  refine run_region rfl ?_
  (refine op_box rfl rfl ?_; intro _ _)
  refine op_assign rfl rfl ?_
  refine ops_nil ?_
  refine fin_code ?_
  refine run_seq ?_
  refine run_region rfl ?_
  refine ops_nilFirst ?_
  refine op_appendS tOff 10 rfl rfl rfl (Own.nil 5 1) (by (repeat (first | exact Pick.here | apply Pick.there))) rfl rfl (by decide) (by decide) ?_
  intro v1 l1 o1
  refine op_assign rfl rfl ?_
  refine ops_nil ?_
  refine fin_code ?_
  refine run_seq ?_
  refine run_region rfl ?_
  refine op_move rfl rfl ?_
  refine op_fieldAddr rfl rfl ?_
  (apply op_load; (· exact rfl); (· exact rfl); (· apply cell_of_has; (· (repeat (first | exact Has.here | apply Has.there))); (· first | exact rfl | exact nats_get _ _ _ (by omega))))
  ((first | (apply op_call; (· exact rfl)) | apply op_call0); (· exact rfl); rotate_left 1; (· exact fun w hG hw => dig_any 10 s.o w p1 (by decide) ho); rotate_right 1; (· (repeat (first | exact Picks.nil | (apply Picks.cons; (· (repeat (first | exact Pick.here | apply Pick.there)))) | apply Picks.empty))))
  rintro ⟨v2, l2⟩ o2
  dsimp only at o2 ⊢
  skip
  refine op_appendO rfl rfl rfl o1 (by (repeat (first | exact Pick.here | apply Pick.there))) o2 (by (repeat (first | exact Pick.here | apply Pick.there))) h1.1 (by omega) rfl ?_
  intro v3 l3 o3
  refine op_assign rfl rfl ?_
  refine ops_nil ?_
  refine fin_code ?_
  refine run_seq ?_
  refine run_region rfl ?_
  refine op_move rfl rfl ?_
  refine op_appendS tDist 12 rfl rfl rfl o3 (by (repeat (first | exact Pick.here | apply Pick.there))) rfl rfl (by decide) (by omega) ?_
  intro v4 l4 o4
  refine op_assign rfl rfl ?_
  refine ops_nil ?_
  refine fin_code ?_
  refine run_seq ?_
  refine run_region rfl ?_
  refine op_move rfl rfl ?_
  refine op_fieldAddr rfl rfl ?_
  (apply op_load; (· exact rfl); (· exact rfl); (· apply cell_of_has; (· (repeat (first | exact Has.here | apply Has.there))); (· first | exact rfl | exact nats_get _ _ _ (by omega))))
  refine op_conv rfl rfl (by simp only [kLo, kHi]; omega) ?_
  ((first | (apply op_call; (· exact rfl)) | apply op_call0); (· exact rfl); rotate_left 1; (· exact fun w hG hw => dig_any 10 s.d w p2 (by decide) (by omega)); rotate_right 1; (· (repeat (first | exact Picks.nil | (apply Picks.cons; (· (repeat (first | exact Pick.here | apply Pick.there)))) | apply Picks.empty))))
  rintro ⟨v5, l5⟩ o5
  dsimp only at o5 ⊢
  skip
  refine op_appendO rfl rfl rfl o4 (by (repeat (first | exact Pick.here | apply Pick.there))) o5 (by (repeat (first | exact Pick.here | apply Pick.there))) h2.1 (by omega) rfl ?_
  intro v6 l6 o6
  have hj : ∀ t, u8V (tOff ++ digF 10 s.o ++ tDist ++ digF 10 s.d ++ t) = [] ++ u8V tOff ++ u8V (digF 10 s.o) ++ u8V tDist ++ u8V (digF 10 s.d) ++ u8V t := fun t => by simp only [u8V_app, List.nil_append]
  have hjl : ∀ t : List Int, (tOff ++ digF 10 s.o ++ tDist ++ digF 10 s.d ++ t).length = 0 + 10 + (digF 10 s.o).length + 12 + (digF 10 s.d).length + t.length := fun t => by
    simp only [List.length_append]
    have : tOff.length = 10 := rfl
    have : tDist.length = 12 := rfl
    omega
  by_cases ht : s.t = true
  · rw [ht]
    refine op_assign rfl rfl ?_
    refine ops_nil ?_
    refine fin_code ?_
    refine run_seq ?_
    refine run_seq ?_
    refine run_region rfl ?_
    refine op_fieldAddr rfl rfl ?_
    (apply op_load; (· exact rfl); (· exact rfl); (· apply cell_of_has; (· (repeat (first | exact Has.here | apply Has.there))); (· first | exact rfl | exact nats_get _ _ _ (by omega))))
    refine ops_nil ?_
    refine fin_code ?_
    refine run_cond_t rfl ?_
    refine run_seq ?_
    refine run_region rfl ?_
    refine op_move rfl rfl ?_
    refine op_appendS tYes 20 rfl rfl rfl o6 (by (repeat (first | exact Pick.here | apply Pick.there))) rfl rfl (by decide) (by omega) ?_
    intro v7 l7 o7
    refine op_assign rfl rfl ?_
    refine ops_nil ?_
    refine fin_code ?_
    refine run_ret ?_
    refine fin_ret_code ?_
    refine fin_ret1 rfl rfl ?_
    intro w' g'
    refine hR _ _ (post_of g' (v7, l7) ?_ rfl (by (apply le_of_picks; (repeat (first | exact Picks.nil | (apply Picks.cons; (· (repeat (first | exact Pick.here | apply Pick.there)))) | apply Picks.empty)))))
    dsimp only [jsonB]
    rw [if_pos ht, hj, hjl]
    exact o7
  · rw [show s.t = false by simpa using ht]
    refine op_assign rfl rfl ?_
    refine ops_nil ?_
    refine fin_code ?_
    refine run_seq ?_
    refine run_seq ?_
    refine run_region rfl ?_
    refine op_fieldAddr rfl rfl ?_
    (apply op_load; (· exact rfl); (· exact rfl); (· apply cell_of_has; (· (repeat (first | exact Has.here | apply Has.there))); (· first | exact rfl | exact nats_get _ _ _ (by omega))))
    refine ops_nil ?_
    refine fin_code ?_
    refine run_cond_f rfl ?_
    refine run_skip ?_
    refine fin_code ?_
    refine run_seq ?_
    refine run_region rfl ?_
    refine op_move rfl rfl ?_
    refine op_appendS tNo 21 rfl rfl rfl o6 (by (repeat (first | exact Pick.here | apply Pick.there))) rfl rfl (by decide) (by omega) ?_
    intro v7 l7 o7
    refine op_assign rfl rfl ?_
    refine ops_nil ?_
    refine fin_code ?_
    refine run_ret ?_
    refine fin_ret1 rfl rfl ?_
    intro w' g'
    refine hR _ _ (post_of g' (v7, l7) ?_ rfl (by (apply le_of_picks; (repeat (first | exact Picks.nil | (apply Picks.cons; (· (repeat (first | exact Pick.here | apply Pick.there)))) | apply Picks.empty)))))
    dsimp only [jsonB]
    rw [if_neg ht, hj, hjl]
    exact o7
end Go.Proofs.Eng
