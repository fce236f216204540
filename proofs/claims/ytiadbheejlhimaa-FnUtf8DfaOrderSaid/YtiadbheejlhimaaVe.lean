/- A part of the proof: what functions of the program do, step by step. -/
import Derived.Test.YtiadbheejlhimaaVd
set_option linter.unusedVariables false
set_option linter.unusedSimpArgs false
namespace Go.Proofs.Eng
open Go.RowKit
theorem val_neqIface {C : Ctx} {E : Env} {ty : Nat} {pos : String} {af : Array Edge} {dd : Option Nat} {gg : Option (Nat × Bool)} {bt bt' : Nat} {x : Operand} [c : TIface C.P bt] (hx : ev E x = some .nilIface) : Val C E ⟨dd, .binOp .neq bt x (.const .nilIface) bt', ty, pos, af, gg⟩ (.bool false) := ⟨fun a f w => by
    have e1 : a.eval (.const .nilIface) = .nilIface := rfl
    have e2 : (eqGuard .neq bt x (.const .nilIface) .nilIface .nilIface).run C.P w = .ok () w := by simp [eqGuard]
    simp [execOp, f.ev hx, e1, e2, binOp, equal_nilIface]⟩
theorem larV_one (s : LArc) : ∀ v ∈ (larV s).toArray.toList, v.oneCell' = true := by
  intro v hv
  simp [larV] at hv
  rcases hv with rfl | rfl <;> rfl
structure LOk (n : Nat) (s : LSt) : Prop where
  d0 : -1 ≤ s.dflt
  d1 : s.dflt < n
  few : s.arcs.length ≤ 12
  arcs : ∀ a ∈ s.arcs, 0 ≤ a.r ∧ isL a.r.toNat ∧ 0 ≤ a.to ∧ a.to < n
def Bd.addArcs (ps : List Nat) (sid : Nat) : List LArc → Bd → Bd
  | [], b => b
  | a :: r, b => Bd.addArcs ps sid r (b.addT ps sid (encN a.r.toNat) (a.to.toNat + 1))
def Bd.addL (b : Bd) (i : Nat) (s : LSt) : Bd :=
  Bd.addArcs (b.addS (i + 1) (s.dflt + 1).toNat (s.ex, s.dist)).2.1 (b.addS (i + 1) (s.dflt + 1).toNat (s.ex, s.dist)).1 s.arcs (b.addS (i + 1) (s.dflt + 1).toNat (s.ex, s.dist)).2.2
def Bd.addLs : List LSt → Nat → Bd → Bd
  | [], _, b => b
  | s :: r, i, b => Bd.addLs r (i + 1) (b.addL i s)
def Bd.start (b : Bd) (s : Nat) : Bd := { (b.goa (s * 4)).2 with init := (b.goa (s * 4)).1 }
def builtOf (sts : List LSt) (start : Nat) : Bd := (Bd.addLs sts 0 ((Bd.new (4 * sts.length + 4)).addS 0 0 (false, 255)).2.2).start (start + 1)
theorem encN_256 {r : Nat} (h : isL r) : ∀ x ∈ encN r, x < 256 := fun x hx => by have := encN_le r h.1 x hx; omega
set_option maxRecDepth 100000 in
set_option maxHeartbeats 8000000 in
theorem build25_any (w : World) (A : Option Addr) (n c start : Nat) (l : List LStM) (hl : l.length = n) (hn : n ≤ 13) (hst : start < n) (hr : Rd w w.heap.size A (l.flatMap lstV)) (hin : ∀ i (h : i < l.length), LOk n l[i].st ∧ Rd w w.heap.size l[i].A (l[i].st.arcs.flatMap larV)) :
    Calls Try.prog 25 #[.slice A n c, .int .i64 start] w (Post w ([] : List Hp).flatten (fun x : Nat × BdM => .tuple #[.pointer (some ⟨x.1, 0, none⟩), .bool true]) (fun x => (dfH (builtOf (l.map (·.st)) start) x.2 x.1).flatten)
      (fun x => BdOk (builtOf (l.map (·.st)) start) x.2 ∧ BdI (builtOf (l.map (·.st)) start) ((4 * n + 4) * 2 + 100) (4 * n + 4) ∧ (builtOf (l.map (·.st)) start).init < (builtOf (l.map (·.st)) start).n)) := by
  refine enter [] Try.func25 rfl rfl (At.nil w) (Le.refl _) ?_
  intro R hR
  rcases hr with hr | ⟨g, o, rfl, hg, hc⟩
  · exfalso
    have := flat_len lstV 4 (fun _ => rfl) l
    rw [hr] at this
    simp at this
    omega
  have hll : (l.map (·.st)).length = n := by simp [hl]
  unfold builtOf at hR
  rw [hll] at hR
  refine run_seq ?_
  refine run_region rfl ?_
  refine op_assign rfl rfl ?_
  refine op_assign rfl rfl ?_
  refine ops_nil ?_
  refine fin_code ?_
  refine run_seq ?_
  refine run_region rfl ?_
  refine op_move rfl rfl ?_
  refine op_len rfl rfl ?_
  (refine op_mul rfl rfl rfl (by simp only [kLo, kHi]; omega) ?_)
  refine op_add rfl rfl rfl (by simp only [kLo, kHi]; omega) ?_
  refine op_conv rfl rfl (by simp only [kLo, kHi]; omega) ?_
  ((first | (apply op_call; (· exact rfl)) | apply op_call0); (· exact rfl); rotate_left 1; (· exact fun w hG hw => zzUtf8_any w (4 * n + 4) (by omega)); rotate_right 1; (· (repeat (first | exact Picks.nil | (apply Picks.cons; (· (repeat (first | exact Pick.here | apply Pick.there)))) | apply Picks.empty))))
  rintro ⟨q0, gi0, vd0, vt0, ld0, lt0⟩ hok0
  have hi0 := new_i (4 * n + 4)
  have hn0 : (Bd.new (4 * n + 4)).n = 0 := rfl
  generalize Bd.new (4 * n + 4) = b0 at *
  dsimp only [bdH]
  have A0 := fun w hw => zzAddState_any w b0 ⟨q0, gi0, vd0, vt0, ld0, lt0⟩ 0 0 (false, 255) hok0 hi0.wf (by omega) (by rw [hi0.il]; omega) (by rw [hi0.il]; omega) (by omega) hw
  have hI0 := addS_i (s := 0) (d := 0) (e := (false, 255)) hi0 (by omega) (by omega)
  generalize b0.addS 0 0 (false, 255) = y at A0 hI0 hR
  obtain ⟨sid0, ps0, b1⟩ := y
  dsimp only [bdH] at A0 hI0 hR
  obtain ⟨hi1, _, hn1, _⟩ := hI0
  refine op_assign rfl rfl ?_
  refine ops_nil ?_
  refine fin_code ?_
  refine run_seq ?_
  refine run_seq ?_
  refine run_region rfl ?_
  refine op_move rfl rfl ?_
  ((first | (apply op_call; (· exact rfl)) | apply op_call0); (· exact rfl); rotate_left 1; (· exact fun w hG hw => A0 w hw); rotate_right 1; (· (repeat (first | exact Picks.nil | (apply Picks.cons; (· (repeat (first | exact Pick.here | apply Pick.there)))) | apply Picks.empty))))
  rintro ⟨⟨q1, gi1, vd1, vt1, ld1, lt1⟩, p0, gp0⟩ ⟨hq, hgi, hok1⟩
  dsimp only at hq hgi hok1 ⊢
  subst hq hgi
  refine op_move rfl rfl ?_
  refine op_extract rfl rfl rfl ?_
  refine op_extract rfl rfl rfl ?_
  refine op_assign rfl rfl ?_
  refine op_assign rfl rfl ?_
  refine ops_nil ?_
  refine fin_code ?_
  refine run_seq ?_
  refine run_region rfl ?_
  refine op_move rfl rfl ?_
  (refine op_val rfl (val_neqIface rfl) ?_)
  refine ops_nil ?_
  refine fin_code ?_
  refine run_cond_f rfl ?_
  refine run_skip ?_
  refine fin_code ?_
  refine run_seq ?_
  refine run_seq ?_
  refine run_region rfl ?_
  refine op_move rfl rfl ?_
  refine op_len rfl rfl ?_
  refine op_move rfl rfl ?_
  refine ops_nil ?_
  refine fin_code ?_
  refine run_block ?_
  generalize hF : Bd.addLs (l.map (·.st)) 0 b1 = F at hR
  refine run_loop (α := Nat × Bd × BdM) (fun x => [(1, .int .i64 start), (6, .pointer (some ⟨q1, 0, none⟩)), (28, .slice (some ⟨g, o, none⟩) n c), (29, .int .i64 n), (30, .int .i64 (x.1 : Nat))]) (fun x => bdH x.2.1 x.2.2)
    (fun x => x.1 ≤ n ∧ x.2.2.q = q1 ∧ BdOk x.2.1 x.2.2 ∧ BdI x.2.1 ((4 * n + 4) * 2 + 100) (4 * n + 4) ∧ x.2.1.n ≤ 5 + x.1 * 100 ∧ Bd.addLs ((l.map (·.st)).drop x.1) x.1 x.2.1 = F) (fun x => n - x.1)
    (0, b1, ⟨q1, gi1, vd1, vt1, ld1, lt1⟩) ⟨Nat.zero_le _, rfl, hok1, hi1, by dsimp only; omega, hF⟩ (by (repeat (first | exact Sub.nil _ | (refine Sub.cons rfl ?_)))) (by dsimp only [bdH]; (apply le_of_picks; (repeat (first | exact Picks.nil | (apply Picks.cons; (· (repeat (first | exact Pick.here | apply Pick.there)))) | apply Picks.empty)))) ?_
  rintro ⟨i, b, ⟨q2, gi2, vd2, vt2, ld2, lt2⟩⟩ ⟨hi, hq, hok, hI, hbn, hFi⟩
  dsimp only at hi hq hok hI hbn hFi ⊢
  subst hq
  have hbm := hI.mx
  dsimp only [bdH]
  by_cases hin' : i < n
  · have hil : i < l.length := by omega
    obtain ⟨hok', hri⟩ := hin i hil
    obtain ⟨d0, d1, few, harc⟩ := hok'
    rw [List.drop_eq_getElem_cons (by simpa using hil), List.getElem_map] at hFi
    simp only [Bd.addLs, Bd.addL] at hFi
    have hd : (((l[i].st.dflt + 1).toNat : Nat) : Int) = l[i].st.dflt + 1 := by omega
    have A1 := fun w hw => zzAddState_any w b ⟨q2, gi2, vd2, vt2, ld2, lt2⟩ (i + 1) (l[i].st.dflt + 1).toNat (l[i].st.ex, l[i].st.dist) hok hI.wf (by omega) (by rw [hI.il]; omega) (by rw [hI.il]; omega) (by omega) hw
    have hI1 := addS_i (s := i + 1) (d := (l[i].st.dflt + 1).toNat) (e := (l[i].st.ex, l[i].st.dist)) hI (by omega) (by omega)
    generalize b.addS (i + 1) (l[i].st.dflt + 1).toNat (l[i].st.ex, l[i].st.dist) = y at A1 hI1 hFi
    obtain ⟨sid, ps, b2⟩ := y
    dsimp only [bdH] at A1 hI1 hFi
    simp only [hd] at A1
    obtain ⟨hi2, hnn, hn2, hsid, hps, hpl⟩ := hI1
    refine run_seq ?_
    refine run_region rfl ?_
    refine op_cmp_t rfl rfl rfl rfl (by first | (simp only [cmpP]; done) | (simp only [cmpP]; omega)) ?_
    refine ops_nil ?_
    refine fin_code ?_
    refine run_seq ?_
    refine run_cond_t rfl ?_
    refine run_skip ?_
    refine fin_code ?_
    refine run_seq ?_
    refine run_block ?_
    refine run_seq ?_
    refine run_region rfl ?_
    refine op_move rfl rfl ?_
    refine op_index rfl rfl rfl (by omega) (by first | (rw [Int.toNat_natCast, Nat.mul_one, Nat.zero_add]) | (rw [Int.toNat_natCast, Nat.mul_one]) | (rw [Int.toNat_natCast, Nat.zero_add]) | (rw [Int.toNat_natCast]) | exact rfl) ?_
    (apply op_loadA; (· exact rfl); (· exact rfl); (· exact (show (lstV l[i]).length = 4 from rfl)); (· exact fun j v hv => by rw [Nat.add_assoc]; exact Rd.cell hc hg (by simp [ids]) (flat_get lstV 4 (fun _ => rfl) l i hil j v hv)))
    (refine op_alloc rfl ?_; intro _ _)
    refine op_assign rfl rfl ?_
    (apply op_storeAll; (· exact rfl); (· exact rfl); (· exact rfl); (· exact lstV_one _); (· (repeat (first | exact Swap.here | apply Swap.there))); (· exact rfl))
    refine ops_nil ?_
    refine fin_code ?_
    refine run_seq ?_
    refine run_region rfl ?_
    refine op_move rfl rfl ?_
    refine op_move rfl rfl ?_
    refine op_add rfl rfl rfl (by simp only [kLo, kHi]; omega) ?_
    refine op_conv rfl rfl (by simp only [kLo, kHi]; omega) ?_
    refine op_fieldAddr rfl rfl ?_
    (apply op_load; (· exact rfl); (· exact rfl); (· apply cell_of_has; (· (repeat (first | exact Has.here | apply Has.there))); (· first | exact rfl | exact nats_get _ _ _ (by omega))))
    refine op_add rfl rfl rfl (by simp only [kLo, kHi]; omega) ?_
    refine op_conv rfl rfl (by simp only [kLo, kHi]; omega) ?_
    refine op_fieldAddr rfl rfl ?_
    (apply op_load; (· exact rfl); (· exact rfl); (· apply cell_of_has; (· (repeat (first | exact Has.here | apply Has.there))); (· first | exact rfl | exact nats_get _ _ _ (by omega))))
    refine op_fieldAddr rfl rfl ?_
    (apply op_load; (· exact rfl); (· exact rfl); (· apply cell_of_has; (· (repeat (first | exact Has.here | apply Has.there))); (· first | exact rfl | exact nats_get _ _ _ (by omega))))
    ((first | (apply op_call; (· exact rfl)) | apply op_call0); (· exact rfl); rotate_left 1; (· exact fun w hG hw => A1 w hw); rotate_right 1; (· (repeat (first | exact Picks.nil | (apply Picks.cons; (· (repeat (first | exact Pick.here | apply Pick.there)))) | apply Picks.empty))))
    rintro ⟨⟨q3, gi3, vd3, vt3, ld3, lt3⟩, p, gp⟩ ⟨hq, hgi, hok2⟩
    dsimp only at hq hgi hok2 ⊢
    subst hq hgi
    refine op_move rfl rfl ?_
    refine op_extract rfl rfl rfl ?_
    refine op_extract rfl rfl rfl ?_
    refine op_assign rfl rfl ?_
    refine op_assign rfl rfl ?_
    refine ops_nil ?_
    refine fin_code ?_
    refine run_seq ?_
    refine run_seq ?_
    refine run_region rfl ?_
    refine op_move rfl rfl ?_
    (refine op_val rfl (val_neqIface rfl) ?_)
    refine ops_nil ?_
    refine fin_code ?_
    refine run_cond_f rfl ?_
    refine run_skip ?_
    refine fin_code ?_
    refine run_seq ?_
    refine run_region rfl ?_
    refine op_fieldAddr rfl rfl ?_
    (apply op_load; (· exact rfl); (· exact rfl); (· apply cell_of_has; (· (repeat (first | exact Has.here | apply Has.there))); (· first | exact rfl | exact nats_get _ _ _ (by omega))))
    refine op_len rfl rfl ?_
    refine op_move rfl rfl ?_
    refine ops_nil ?_
    refine fin_code ?_
    refine run_block ?_
    rename_i gs _
    generalize hG : Bd.addArcs ps sid l[i].st.arcs b2 = G at hFi
    refine run_loop (α := Nat × Bd × BdM) (fun x => [(1, .int .i64 start), (6, .pointer (some ⟨q3, 0, none⟩)), (28, .slice (some ⟨g, o, none⟩) n c), (29, .int .i64 n), (30, .int .i64 (i : Nat)), (11, .pointer (some ⟨p, 0, none⟩)), (54, .slice l[i].A l[i].st.arcs.length l[i].c), (55, .int .i64 l[i].st.arcs.length), (56, .int .i64 (x.1 : Nat))]) (fun x => [sbB p q3 sid gp] :: [psB gp ps] :: bdH x.2.1 x.2.2)
      (fun x => x.1 ≤ l[i].st.arcs.length ∧ x.2.2.q = q3 ∧ BdOk x.2.1 x.2.2 ∧ BdI x.2.1 ((4 * n + 4) * 2 + 100) (4 * n + 4) ∧ b2.n ≤ x.2.1.n ∧ x.2.1.n ≤ b2.n + x.1 * 5 ∧ Bd.addArcs ps sid (l[i].st.arcs.drop x.1) x.2.1 = G) (fun x => l[i].st.arcs.length - x.1)
      (0, b2, ⟨q3, gi3, vd3, vt3, ld3, lt3⟩) ⟨Nat.zero_le _, rfl, hok2, hi2, Nat.le_refl _, by dsimp only; omega, hG⟩ (by (repeat (first | exact Sub.nil _ | (refine Sub.cons rfl ?_)))) (by dsimp only [bdH]; (apply le_of_picks; (repeat (first | exact Picks.nil | (apply Picks.cons; (· (repeat (first | exact Pick.here | apply Pick.there)))) | apply Picks.empty)))) ?_
    rintro ⟨j, bj, ⟨q4, gi4, vd4, vt4, ld4, lt4⟩⟩ ⟨hji, hq, hokj, hIj, hnj0, hnj, hGj⟩
    dsimp only at hji hq hokj hIj hnj0 hnj hGj ⊢
    subst hq
    dsimp only [bdH]
    by_cases hjl : j < l[i].st.arcs.length
    · obtain ⟨g1, o1, hA1, hg1, hc1⟩ := hri.some (by rw [flat_len larV 2 (fun _ => rfl)]; omega)
      have ha := harc _ (List.getElem_mem hjl)
      rw [List.drop_eq_getElem_cons hjl] at hGj
      simp only [Bd.addArcs] at hGj
      rw [hA1]
      generalize l[i].st.arcs = ars at *
      have hj := hjl
      obtain ⟨hr0, hL, ht0, ht1⟩ := ha
      have hrc : ((ars[j].r.toNat : Nat) : Int) = ars[j].r := by omega
      have htc : ((ars[j].to.toNat + 1 : Nat) : Int) = ars[j].to + 1 := by omega
      have hlen := encN_len4 ars[j].r.toNat
      have hr1 := hL.1
      have A2 := fun w hw => zzAddTr_any w bj ⟨q4, gi4, vd4, vt4, ld4, lt4⟩ p sid gp ars[j].r.toNat (ars[j].to.toNat + 1) ps hokj hL hIj.wf hIj.wt hpl (fun x hx => by have := hps x hx; omega) (by omega) (by rw [hIj.il]; omega) (by omega) hw
      have hI2 := addT_i (ps := ps) (sid := sid) (to := ars[j].to.toNat + 1) (bs := encN ars[j].r.toNat) (b := bj) (encN_256 hL) hIj (by omega) (fun x hx => by have := hps x hx; omega) (by omega)
      generalize bj.addT ps sid (encN ars[j].r.toNat) (ars[j].to.toNat + 1) = b3 at A2 hI2 hGj
      simp only [hrc, htc] at A2
      dsimp only [bdH] at A2
      refine run_seq ?_
      refine run_region rfl ?_
      refine op_cmp_t rfl rfl rfl rfl (by first | (simp only [cmpP]; done) | (simp only [cmpP]; omega)) ?_
      refine ops_nil ?_
      refine fin_code ?_
      refine run_seq ?_
      refine run_cond_t rfl ?_
      refine run_skip ?_
      refine fin_code ?_
      refine run_seq ?_
      refine run_block ?_
      refine run_seq ?_
      refine run_region rfl ?_
      refine op_index rfl rfl rfl (by omega) (by first | (rw [Int.toNat_natCast, Nat.mul_one, Nat.zero_add]) | (rw [Int.toNat_natCast, Nat.mul_one]) | (rw [Int.toNat_natCast, Nat.zero_add]) | (rw [Int.toNat_natCast]) | exact rfl) ?_
      (apply op_loadA; (· exact rfl); (· exact rfl); (· exact (show (larV ars[j]).length = 2 from rfl)); (· exact fun k v hv => by rw [Nat.add_assoc]; exact Rd.cell hc1 hg1 (by simp [ids]) (flat_get larV 2 (fun _ => rfl) ars j hj k v hv)))
      (refine op_alloc rfl ?_; intro _ _)
      (apply op_storeAll; (· exact rfl); (· exact rfl); (· exact rfl); (· exact larV_one _); (· (repeat (first | exact Swap.here | apply Swap.there))); (· exact rfl))
      refine ops_nil ?_
      refine fin_code ?_
      refine run_region rfl ?_
      refine op_move rfl rfl ?_
      refine op_fieldAddr rfl rfl ?_
      (apply op_load; (· exact rfl); (· exact rfl); (· apply cell_of_has; (· (repeat (first | exact Has.here | apply Has.there))); (· first | exact rfl | exact nats_get _ _ _ (by omega))))
      refine op_fieldAddr rfl rfl ?_
      (apply op_load; (· exact rfl); (· exact rfl); (· apply cell_of_has; (· (repeat (first | exact Has.here | apply Has.there))); (· first | exact rfl | exact nats_get _ _ _ (by omega))))
      refine op_add rfl rfl rfl (by simp only [kLo, kHi]; omega) ?_
      refine op_conv rfl rfl (by simp only [kLo, kHi]; omega) ?_
      ((first | (apply op_call; (· exact rfl)) | apply op_call0); (· exact rfl); rotate_left 1; (· exact fun w hG hw => A2 w hw); rotate_right 1; (· (repeat (first | exact Picks.nil | (apply Picks.cons; (· (repeat (first | exact Pick.here | apply Pick.there)))) | apply Picks.empty))))
      rintro ⟨q5, gi5, vd5, vt5, ld5, lt5⟩ ⟨hq, hgi, hok3⟩
      dsimp only at hq hgi hok3 ⊢
      subst hq hgi
      refine ops_nil ?_
      refine fin_block ?_
      refine fin_code ?_
      refine run_region rfl ?_
      refine op_add rfl rfl rfl (by simp only [kLo, kHi]; omega) ?_
      refine op_move rfl rfl ?_
      refine ops_nil ?_
      refine fin_round (j + 1, b3, ⟨q5, gi5, vd5, vt5, ld5, lt5⟩) (by dsimp only; omega) (by (repeat (first | exact Sub.nil _ | (refine Sub.cons rfl ?_)))) (by dsimp only [bdH]; (apply le_of_picks; (repeat (first | exact Picks.nil | (apply Picks.cons; (· (repeat (first | exact Pick.here | apply Pick.there)))) | apply Picks.empty)))) ⟨by dsimp only; omega, rfl, hok3, hI2.1, by dsimp only; omega, by dsimp only; omega, hGj⟩
    · obtain rfl : j = l[i].st.arcs.length := by omega
      rw [List.drop_length] at hGj
      simp only [Bd.addArcs] at hGj
      subst hGj
      refine run_seq ?_
      refine run_region rfl ?_
      refine op_cmp_f rfl rfl rfl rfl (by first | (simp only [cmpP]; done) | (simp only [cmpP]; omega)) ?_
      refine ops_nil ?_
      refine fin_code ?_
      refine run_seq ?_
      refine run_cond_f rfl ?_
      refine run_exit ?_
      refine fin_exit_code ?_
      refine fin_exit_inv ?_
      refine fin_exit_here ?_
      refine fin_block ?_
      refine fin_code ?_
      refine run_region rfl ?_
      refine op_add rfl rfl rfl (by simp only [kLo, kHi]; omega) ?_
      refine op_move rfl rfl ?_
      refine ops_nil ?_
      refine fin_round (i + 1, bj, ⟨q4, gi4, vd4, vt4, ld4, lt4⟩) (by dsimp only; omega) (by (repeat (first | exact Sub.nil _ | (refine Sub.cons rfl ?_)))) (by dsimp only [bdH]; (apply le_of_picks; (repeat (first | exact Picks.nil | (apply Picks.cons; (· (repeat (first | exact Pick.here | apply Pick.there)))) | apply Picks.empty)))) ⟨by dsimp only; omega, rfl, hokj, hIj, by dsimp only; omega, hFi⟩
  · obtain rfl : i = n := by omega
    rw [List.drop_of_length_le (by omega)] at hFi
    simp only [Bd.addLs] at hFi
    subst hFi
    have A3 := fun w hw => zzSetInit_any w b ⟨q2, gi2, vd2, vt2, ld2, lt2⟩ (start + 1) hok hI.wf (by omega) (by rw [hI.il]; omega) hw
    have hI4 := goa_i (s := (start + 1) * 4) hI
    have hlt := goa_lt (s := (start + 1) * 4) hI.wf (by rw [hI.il]; omega)
    have hgn := goa_n b ((start + 1) * 4)
    have hI5 : BdI (b.start (start + 1)) ((4 * i + 4) * 2 + 100) (4 * i + 4) := ⟨hI4.wf, hI4.wt, hI4.fl, hI4.il, hI4.mx⟩
    have hlt5 : (b.start (start + 1)).init < (b.start (start + 1)).n := hlt
    have hn5 : (b.start (start + 1)).n ≤ b.n + 1 := hgn.2
    change ∀ w hw, Calls Try.prog 42 _ w (Post w _ _ (fun m' => (bdH (b.start (start + 1)) m').flatten) (fun m' => m'.q = _ ∧ m'.gi = _ ∧ BdOk (b.start (start + 1)) m')) at A3
    generalize b.start (start + 1) = bs at *
    dsimp only [bdH] at A3
    refine run_seq ?_
    refine run_region rfl ?_
    refine op_cmp_f rfl rfl rfl rfl (by first | (simp only [cmpP]; done) | (simp only [cmpP]; omega)) ?_
    refine ops_nil ?_
    refine fin_code ?_
    refine run_seq ?_
    refine run_cond_f rfl ?_
    refine run_exit ?_
    refine fin_exit_code ?_
    refine fin_exit_inv ?_
    refine fin_exit_here ?_
    refine fin_code ?_
    refine run_seq ?_
    refine run_region rfl ?_
    refine op_move rfl rfl ?_
    refine op_move rfl rfl ?_
    refine op_add rfl rfl rfl (by simp only [kLo, kHi]; omega) ?_
    refine op_conv rfl rfl (by simp only [kLo, kHi]; omega) ?_
    ((first | (apply op_call; (· exact rfl)) | apply op_call0); (· exact rfl); rotate_left 1; (· exact fun w hG hw => A3 w hw); rotate_right 1; (· (repeat (first | exact Picks.nil | (apply Picks.cons; (· (repeat (first | exact Pick.here | apply Pick.there)))) | apply Picks.empty))))
    rintro ⟨q5, gi5, vd5, vt5, ld5, lt5⟩ ⟨hq, hgi, hok3⟩
    dsimp only at hq hgi hok3 ⊢
    subst hq hgi
    have A4 := fun w hw => zzBuilt_any w bs ⟨q5, gi5, vd5, vt5, ld5, lt5⟩ hok3 (by omega) hw
    dsimp only [bdH, dfH] at A4
    refine ops_nil ?_
    refine fin_code ?_
    refine run_seq ?_
    refine run_region rfl ?_
    refine op_move rfl rfl ?_
    ((first | (apply op_call; (· exact rfl)) | apply op_call0); (· exact rfl); rotate_left 1; (· exact fun w hG hw => A4 w hw); rotate_right 1; (· (repeat (first | exact Picks.nil | (apply Picks.cons; (· (repeat (first | exact Pick.here | apply Pick.there)))) | apply Picks.empty))))
    intro dq _
    refine op_assign rfl rfl ?_
    refine op_assign rfl rfl ?_
    refine ops_nil ?_
    refine fin_code ?_
    refine run_ret ?_
    refine fin_ret2 rfl rfl rfl ?_
    intro w' g
    exact hR _ _ (post_of g (dq, ⟨q5, gi5, vd5, vt5, ld5, lt5⟩) ⟨hok3, hI5, hlt5⟩ rfl (by dsimp only [dfH]; (apply le_of_picks; (repeat (first | exact Picks.nil | (apply Picks.cons; (· (repeat (first | exact Pick.here | apply Pick.there)))) | apply Picks.empty)))))
end Go.Proofs.Eng
