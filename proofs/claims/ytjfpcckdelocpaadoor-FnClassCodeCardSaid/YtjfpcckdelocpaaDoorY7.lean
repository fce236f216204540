/- A part of the proof: what functions of the program do, step by step. -/
import Derived.Test.YtjfpcckdelocpaaDoorZ4
import Derived.Test.YtjfpcckdelocpaaDoorZ6
set_option linter.unusedVariables false
set_option linter.unusedSimpArgs false
namespace Go.Proofs.Eng
open Go.RowKit
/-- A sequence: its block's number, and its ranges. -/
abbrev SqG := Nat × List (Nat × Nat)
def sqV (x : SqG) : Value := .slice (some ⟨x.1, 0, none⟩) x.2.length x.2.length
def sqB (x : SqG) : Blk := ⟨x.1, .cells (encQ x.2).toArray 71 (0, 0)⟩
def hdQ : List (Nat × Nat) → Nat × Nat
  | [] => (65535, 0)
  | p :: _ => p
theorem popQ_any (w : World) (B : Nat) (v : Value) (Q : List (Nat × Nat)) (l : Hp) (hgl : RdB w B 5 (r2 (65535, 0))) (hl : ∀ k ∈ ids l, B ≤ k) (hn : Q.length ≤ 100000000) (ho : Own 113 2 v Q.length (encR2 Q.reverse) l) (hw : At w ([l] : List Hp).flatten) :
    Calls Tryd.prog 41 #[v] w (Post w ([l] : List Hp).flatten (fun r : Value => .tuple #[r, .agg (r2 (hdQ Q)).toArray]) (fun _ => ([l] : List Hp).flatten) (fun r => Own 113 2 r Q.tail.length (encR2 Q.tail.reverse) l)) := by
  cases Q with
  | nil =>
    refine (pop0_any w B v l hgl hl ho hw).mono ?_
    rintro e w' ⟨_, _, rfl, hg⟩
    exact ⟨v, ho, rfl, hg⟩
  | cons p Q =>
    rw [List.reverse_cons] at ho
    refine (pop1_any w B v Q.length Q.reverse p l hgl hl (by simp) (by simp at hn; omega) ho hw).mono ?_
    rintro e w' ⟨r, h, rfl, hg⟩
    exact ⟨r, h, rfl, hg⟩
theorem u8s_cons (a : Nat) (l : List Nat) : u8s (a :: l) = .int .u8 a :: u8s l := rfl
theorem seqF_any (w : World) (g1 g2 c1 c2 s e : Nat) (ra rb : List Value) (hc : (127 < s ∧ e ≤ 2047) ∨ (2047 < s ∧ e ≤ 65535) ∨ 65535 < s) (hle : s ≤ e)
    (hA : RdB w w.heap.size g1 (u8s (encN s) ++ ra)) (hB : RdB w w.heap.size g2 (u8s (encN e) ++ rb)) :
    Calls Tryd.prog 47 #[.slice (some ⟨g1, 0, none⟩) (encN s).length c1, .slice (some ⟨g2, 0, none⟩) (encN s).length c2] w (Post w ([] : List Hp).flatten (fun g : Nat => .tuple #[sqV (g, seqOf s e), .nilIface])
      (fun g => ([[sqB (g, seqOf s e)]] : List Hp).flatten) (fun _ => True)) := by
  rcases hc with ⟨h1, h2⟩ | ⟨h1, h2⟩ | h1
  · unfold seqOf
    rw [encN2 h1 (by omega)] at hA ⊢
    rw [encN2 (by omega) h2] at hB ⊢
    exact seq2_any w g1 g2 c1 c2 _ _ _ _ ra rb hA hB
  · unfold seqOf
    rw [encN3 h1 (by omega)] at hA ⊢
    rw [encN3 (by omega) h2] at hB ⊢
    exact seq3_any w g1 g2 c1 c2 _ _ _ _ _ _ ra rb hA hB
  · unfold seqOf
    rw [encN4 h1] at hA ⊢
    rw [encN4 (by omega)] at hB ⊢
    exact seq4_any w g1 g2 c1 c2 _ _ _ _ _ _ _ _ ra rb hA hB
theorem wts_len : ∀ Q : List (Nat × Nat), Q.length ≤ wts Q
  | [] => by simp
  | p :: Q => by
    have := wts_len Q
    have h2 := wts_pop (Q := Q) (p := p)
    simp only [List.length_cons]; omega
/-- What the bit operations of one width come to. -/
structure MaskF (s : Nat) (k : Nat) (m c : Int) : Prop where
  lo : bitop .and .i32 (s : Int) m = ((s % k : Nat) : Int)
  up : bitop .or .i32 (s : Int) m = ((s / k * k + (k - 1) : Nat) : Int)
  hi : bitop .and .i32 (s : Int) c = ((s / k * k : Nat) : Int)
theorem mask6 {s : Nat} (h : s < 2147483648) : MaskF s 64 (64 - 1) (-64) := ⟨and_low (k := 6) h (by omega), or_low (k := 6) h (by omega), and_high (k := 6) h (by omega)⟩
theorem mask12 {s : Nat} (h : s < 2147483648) : MaskF s 4096 (4096 - 1) (-4096) := ⟨and_low (k := 12) h (by omega), or_low (k := 12) h (by omega), and_high (k := 12) h (by omega)⟩
theorem mask18 {s : Nat} (h : s < 2147483648) : MaskF s 262144 (262144 - 1) (-262144) := ⟨and_low (k := 18) h (by omega), or_low (k := 18) h (by omega), and_high (k := 18) h (by omega)⟩
structure QSt where
  G : List SqG
  L : List (Nat × Nat)
  Q : List (Nat × Nat)
  v : Value
  l : Hp
  sv : Value
  sl : Hp
  x0 : Value
  x1 : Value
  x2 : Value
  x3 : Value
  y0 : Value
  y1 : Value
  y2 : Value
  y3 : Value
structure QOk (lo hi : Nat) (x : QSt) : Prop where
  work : WorkL lo hi x.L x.Q
  seq : x.G.map (·.2) = x.L.map (fun p => seqOf p.1 p.2)
  own : Own 64 1 x.v x.G.length (x.G.map sqV) x.l
  stk : Own 113 2 x.sv x.Q.tail.length (encR2 x.Q.tail.reverse) x.sl
  few : x.L.length + wts x.Q ≤ 4456448
  odd : ∀ p ∈ x.Q, p.1 ≤ p.2 ∨ 57344 ≤ p.1 ∨ p.2 ≤ 55295
  far : (x.L ++ x.Q).Pairwise (fun p q => p.2 / 64 < q.1 / 64)
def qE (q g1 g2 : Nat) (x : QSt) : Env := [(15, x.v), (16, .slice (some ⟨g1, 0, none⟩) 4 4), (17, .slice (some ⟨g2, 0, none⟩) 4 4), (18, x.sv), (19, .pointer (some ⟨q, 0, none⟩))]
def qH (q g1 g2 : Nat) (x : QSt) : List Hp := [x.l, x.G.map sqB, x.sl, [⟨q, .cells (r2 (hdQ x.Q)).toArray 113 (0, 0)⟩], [⟨g1, .cells #[x.x0, x.x1, x.x2, x.x3] 5 (0, 0)⟩], [⟨g2, .cells #[x.y0, x.y1, x.y2, x.y3] 5 (0, 0)⟩]]
theorem far_cut {L Q : List (Nat × Nat)} {s e a b : Nat} (h : (L ++ (s, e) :: Q).Pairwise (fun p q => p.2 / 64 < q.1 / 64)) (h1 : a / 64 < b / 64) (h2 : a ≤ e) (h3 : s ≤ b) : (L ++ (s, a) :: (b, e) :: Q).Pairwise (fun p q => p.2 / 64 < q.1 / 64) := by
  rw [List.pairwise_append] at h ⊢
  obtain ⟨p1, p2, p3⟩ := h
  rw [List.pairwise_cons] at p2
  have h2' : a / 64 ≤ e / 64 := Nat.div_le_div_right h2
  have h3' : s / 64 ≤ b / 64 := Nat.div_le_div_right h3
  refine ⟨p1, ?_, ?_⟩
  · rw [List.pairwise_cons, List.pairwise_cons]
    refine ⟨?_, ?_, p2.2⟩
    · intro q hq
      rcases List.mem_cons.1 hq with rfl | hq
      · exact h1
      · have := p2.1 q hq
        dsimp only at this ⊢
        exact Nat.lt_of_le_of_lt h2' this
    · intro q hq
      exact p2.1 q hq
  · intro p hp q hq
    have k := p3 p hp (s, e) (by simp)
    dsimp only at k
    simp only [List.mem_cons] at hq
    rcases hq with rfl | rfl | hq
    · exact k
    · exact Nat.lt_of_lt_of_le k h3'
    · exact p3 p hp q (by simp [hq])
theorem far_len {N : Nat} : ∀ L : List (Nat × Nat), L.Pairwise (fun p q => p.2 / 64 < q.1 / 64) → (∀ p ∈ L, p.1 ≤ p.2 ∧ p.2 / 64 < N) → L.length + (match L with | [] => 0 | p :: _ => p.1 / 64) ≤ N
  | [], _, _ => Nat.zero_le _
  | [p], _, h => by
    have := h p (by simp)
    have h2 : p.1 / 64 ≤ p.2 / 64 := Nat.div_le_div_right this.1
    simp
    omega
  | p :: q :: r, h, hb => by
    have ih := far_len (N := N) (q :: r) (List.pairwise_cons.1 h).2 (fun x hx => hb x (by simp [hx]))
    have h1 := (List.pairwise_cons.1 h).1 q (by simp)
    have := hb p (by simp)
    have h2 : p.1 / 64 ≤ p.2 / 64 := Nat.div_le_div_right this.1
    simp only [List.length_cons] at ih ⊢
    omega
theorem far_pop {L Q : List (Nat × Nat)} {p : Nat × Nat} (h : (L ++ p :: Q).Pairwise (fun p q => p.2 / 64 < q.1 / 64)) : (L ++ Q).Pairwise (fun p q => p.2 / 64 < q.1 / 64) :=
  h.sublist (List.Sublist.append (List.Sublist.refl _) (List.sublist_cons_self _ _))
/-- The work behind a cut. -/
theorem QOk.cut {lo hi : Nat} {x : QSt} {s e a b : Nat} {Q : List (Nat × Nat)} {sv : Value} {sl : Hp} (hm : hi ≤ 1114111) (h : QOk lo hi x) (hQ : x.Q = (s, e) :: Q) (h1 : s ≤ a) (h2 : a + 1 = b) (h3 : b ≤ e) (h64 : b % 64 = 0)
    (hst : Own 113 2 sv (Q.length + 1) (encR2 (Q.reverse ++ [(b, e)])) sl) : QOk lo hi { x with Q := (s, a) :: (b, e) :: Q, sv := sv, sl := sl } ∧ wts ((s, a) :: (b, e) :: Q) < wts ((s, e) :: Q) := by
  obtain ⟨hw, hs, ho, hk, hf, hd, hr⟩ := h
  have hi0 := hw.inn (s, e) (by rw [hQ]; simp)
  dsimp only at hi0
  rw [hQ] at hw hf hd hr
  have hlt := wts_cut (Q := Q) h1 h2 h3
  refine ⟨⟨?_, hs, ho, ?_, ?_, ?_, ?_⟩, hlt⟩
  · exact hw.cut (by omega) (by omega) (by omega) (by omega) (by omega) (.inl h1) (.inl h3) (by omega) (fun r _ h4 h5 => by omega)
  · simpa using hst
  · dsimp only; omega
  · intro p hp
    simp only [List.mem_cons] at hp
    rcases hp with rfl | rfl | hp
    · exact .inl h1
    · exact .inl h3
    · exact hd p (by simp [hp])
  · exact far_cut hr (by omega) (by omega) (by omega)
theorem QOk.half {lo hi : Nat} {x : QSt} {s e : Nat} {Q : List (Nat × Nat)} {sv : Value} {sl : Hp} (hm : hi ≤ 1114111) (h : QOk lo hi x) (hQ : x.Q = (s, e) :: Q) (h1 : s < 57344) (h2 : 55295 < e)
    (hst : Own 113 2 sv (Q.length + 1) (encR2 (Q.reverse ++ [(57344, e)])) sl) : QOk lo hi { x with Q := (s, 55295) :: (57344, e) :: Q, sv := sv, sl := sl } ∧ wts ((s, 55295) :: (57344, e) :: Q) < wts ((s, e) :: Q) := by
  obtain ⟨hw, hs, ho, hk, hf, hd, hr⟩ := h
  have hi0 := hw.inn (s, e) (by rw [hQ]; simp)
  have hd0 := hd (s, e) (by rw [hQ]; simp)
  dsimp only at hi0 hd0
  rw [hQ] at hw hf hd hr
  have hlt := wts_half (Q := Q) (s := s) (e := e) (by omega) h1 h2
  refine ⟨⟨?_, hs, ho, ?_, ?_, ?_, ?_⟩, hlt⟩
  · refine hw.cut (by omega) (by omega) (by omega) (by omega) (by omega) (.inr (by omega)) (.inr (by omega)) (by omega) (fun r hL h4 h5 => ?_)
    have := hL.2
    omega
  · simpa using hst
  · dsimp only; omega
  · intro p hp
    simp only [List.mem_cons] at hp
    rcases hp with rfl | rfl | hp
    · exact .inr (.inr (Nat.le_refl _))
    · exact .inr (.inl (Nat.le_refl _))
    · exact hd p (by simp [hp])
  · exact far_cut hr (by omega) (by omega) (by omega)
theorem QOk.drop {lo hi : Nat} {x : QSt} {s e : Nat} {Q : List (Nat × Nat)} {sv : Value} (h : QOk lo hi x) (hQ : x.Q = (s, e) :: Q) (h1 : e < s)
    (hst : Own 113 2 sv Q.tail.length (encR2 Q.tail.reverse) x.sl) : QOk lo hi { x with Q := Q, sv := sv } := by
  obtain ⟨hw, hs, ho, hk, hf, hd, hr⟩ := h
  rw [hQ] at hw hf hd hr
  have hlt := wts_pop (Q := Q) (p := (s, e))
  exact ⟨hw.drop (fun r _ h4 h5 => by omega), hs, ho, hst, by dsimp only; omega, fun p hp => hd p (by simp [hp]), far_pop hr⟩
theorem QOk.emit {lo hi : Nat} {x : QSt} {s e g : Nat} {Q : List (Nat × Nat)} {sv v : Value} {l : Hp} (h : QOk lo hi x) (hQ : x.Q = (s, e) :: Q) (ha : Al s e)
    (hst : Own 113 2 sv Q.tail.length (encR2 Q.tail.reverse) x.sl) (hv : Own 64 1 v (x.G.length + 1) (x.G.map sqV ++ [sqV (g, seqOf s e)]) l) : QOk lo hi { x with G := x.G ++ [(g, seqOf s e)], L := x.L ++ [(s, e)], Q := Q, sv := sv, v := v, l := l } := by
  obtain ⟨hw, hs, ho, hk, hf, hd, hr⟩ := h
  rw [hQ] at hw hf hd hr
  have hlt := wts_pop (Q := Q) (p := (s, e))
  exact ⟨hw.emit ha, by simp [hs], by simpa using hv, hst, by simp only [List.length_append, List.length_singleton]; omega, fun p hp => hd p (by simp [hp]), by simpa using hr⟩
def Ai (i s e : Nat) : Prop := (i = 1 → s / 64 = e / 64 ∨ (s % 64 = 0 ∧ e % 64 = 63)) ∧ (i = 2 → s / 4096 = e / 4096 ∨ (s % 4096 = 0 ∧ e % 4096 = 4095)) ∧ (i = 3 → s / 262144 = e / 262144 ∨ (s % 262144 = 0 ∧ e % 262144 = 262143))
structure MaskE (i s e K sh eh sl el : Nat) : Prop where
  shl : IntKind.i32.wrap (1 * 2 ^ (min (6 * (i : Int)).toNat IntKind.i32.bits)) = (K : Nat)
  K1 : 64 ≤ K
  K2 : K ≤ 262144
  compl : bitop .xor .i32 (if IntKind.i32.signed = true then -1 else IntKind.i32.max) ((K : Int) - 1) = -(K : Int)
  ss : sh + sl = s
  ee : eh + el = e
  s1 : sl < K
  e1 : el < K
  sep : sh = eh ∨ sh + K ≤ eh
  slo : bitop .and .i32 (s : Int) ((K : Int) - 1) = (sl : Nat)
  elo : bitop .and .i32 (e : Int) ((K : Int) - 1) = (el : Nat)
  sor : bitop .or .i32 (s : Int) ((K : Int) - 1) = ((sh + (K - 1) : Nat) : Int)
  shi : bitop .and .i32 (s : Int) (-(K : Int)) = (sh : Nat)
  ehi : bitop .and .i32 (e : Int) (-(K : Int)) = (eh : Nat)
  m64 : eh % 64 = 0 ∧ (sh + K) % 64 = 0
  fin : (sh = eh ∨ (sl = 0 ∧ el + 1 = K)) → Ai i s e
theorem maskE {i s e : Nat} (h1 : 1 ≤ i) (h4 : i < 4) (hse : s ≤ e) (he : e ≤ 1114111) : ∃ K sh eh sl el, MaskE i s e K sh eh sl el := by
  have hi : i = 1 ∨ i = 2 ∨ i = 3 := by omega
  have hs2 : s < 2147483648 := by omega
  have he2 : e < 2147483648 := by omega
  rcases hi with rfl | rfl | rfl
  · have ms := mask6 hs2
    have me := mask6 he2
    exact ⟨64, s / 64 * 64, e / 64 * 64, s % 64, e % 64, by decide, by omega, by omega, compl6, by omega, by omega, by omega, by omega, by omega, ms.lo, me.lo, ms.up, ms.hi, me.hi, ⟨by omega, by omega⟩, fun h => ⟨fun _ => by omega, fun h => by omega, fun h => by omega⟩⟩
  · have ms := mask12 hs2
    have me := mask12 he2
    exact ⟨4096, s / 4096 * 4096, e / 4096 * 4096, s % 4096, e % 4096, by decide, by omega, by omega, compl12, by omega, by omega, by omega, by omega, by omega, ms.lo, me.lo, ms.up, ms.hi, me.hi, ⟨by omega, by omega⟩, fun h => ⟨fun h => by omega, fun _ => by omega, fun h => by omega⟩⟩
  · have ms := mask18 hs2
    have me := mask18 he2
    exact ⟨262144, s / 262144 * 262144, e / 262144 * 262144, s % 262144, e % 262144, by decide, by omega, by omega, compl18, by omega, by omega, by omega, by omega, by omega, ms.lo, me.lo, ms.up, ms.hi, me.hi, ⟨by omega, by omega⟩, fun h => ⟨fun h => by omega, fun h => by omega, fun _ => by omega⟩⟩
theorem encN_len4 (r : Nat) : (encN r).length ≤ 4 := by
  rw [encN_len]
  split
  · omega
  · split
    · omega
    · split <;> omega
theorem buf4 (r : Nat) (x0 x1 x2 x3 : Value) : ∃ y0 y1 y2 y3, buf r x0 x1 x2 x3 = #[y0, y1, y2, y3] := by
  by_cases h1 : r ≤ 127
  · unfold buf; rw [encN1 h1]; exact ⟨_, _, _, _, rfl⟩
  · by_cases h2 : r ≤ 2047
    · unfold buf; rw [encN2 (by omega) h2]; exact ⟨_, _, _, _, rfl⟩
    · by_cases h3 : r ≤ 65535
      · unfold buf; rw [encN3 (by omega) h3]; exact ⟨_, _, _, _, rfl⟩
      · unfold buf; rw [encN4 (by omega)]; exact ⟨_, _, _, _, rfl⟩
theorem QOk.bufs {lo hi : Nat} {G : List SqG} {L Q : List (Nat × Nat)} {v sv a0 a1 a2 a3 b0 b1 b2 b3 c0 c1 c2 c3 d0 d1 d2 d3 : Value} {l sl : Hp} (h : QOk lo hi ⟨G, L, Q, v, l, sv, sl, a0, a1, a2, a3, b0, b1, b2, b3⟩) : QOk lo hi ⟨G, L, Q, v, l, sv, sl, c0, c1, c2, c3, d0, d1, d2, d3⟩ :=
  ⟨h.work, h.seq, h.own, h.stk, h.few, h.odd, h.far⟩
end Go.Proofs.Eng
