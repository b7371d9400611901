import PyProof.Rows.All
import Wide.All
import OpenK.AllK
import Wide.FinOn
import PySem.Challenge.RW_ix0001_01
/-
The law of decode_packet_number. In this order: a rule for a loop over range(0, n, 3) and one for a loop over four made ints; cuts (an int of which only a word is kept, a test that is never true, a call whose answer is told); what the bit operations say; the plain law (decF is nearF, a number sent comes back); the lines for the walk; the theorem.
-/
open PySem PySem.W PyProof.Rows
set_option Elab.async false
set_option maxRecDepth 100000
namespace Mine
open PySem.Calls PyProof.V PySem.Spec

theorem small3 {b : Int} (h0 : 0 ≤ b) (hb : b < 2 ^ 40) : Builtin.Range.small 0 b 3 = true := by
  unfold Builtin.Range.small Builtin.Range.rangeSize
  simp only [Builtin.Range.rangeFitsLong, Bool.and_eq_true, Bool.or_eq_true, decide_eq_true_eq, beq_iff_eq, show ((3 : Int) > 0) by decide, if_true]
  split <;> omega

theorem size3 (b : Int) : Builtin.Range.rangeSize 0 b 3 = (((b + 2) / 3).toNat : Int) := by
  unfold Builtin.Range.rangeSize
  simp only [show ((3 : Int) > 0) by decide, if_true]
  split <;> omega

section
variable {prog : Program} {w : World} {A : Around} {E : Value → Shared → Prop} {s : Shared} {env : Env} {h₀ : Heap} {x : Str} {body : List Stmt} {Q : Flow → Shared → Prop}

/-- a loop over ints of which a word P is known, that changes the names `stored` and nothing else -/
theorem stillLoop {I : Addr} {fp : List Addr} {n : Nat} {G : Nat → Value → Prop} {St : Nat → Heap → Prop} {m₀ : Str → Option Value} {news : List (Addr × Obj)} (P : Int → Prop) (stored : List Str)
    (W : Walks prog w A I fp [I] n G St) (hI : h₀.get? I = none) (hfp : ∀ a ∈ fp, a ≠ env.locals ∧ ∀ q ∈ news, q.1 ≠ a) (hIn : ∀ q ∈ news, q.1 ≠ I)
    (hst : St 0 s.heap) (F : Fr h₀ env.locals s.heap m₀) (N : News h₀ env.locals s.heap news) (hG : ∀ i v, i < n → G i v → ∃ k t, v = .int k t ∧ P k)
    (turn : ∀ (k : Int) t (u : Str → Option Value) h tk own, P k → OwnOff own (news.map (·.1)) →
      Fr h₀ env.locals h (fun y => if y = x then some (.int k t) else if stored.contains y then u y else m₀ y) → News h₀ env.locals h (news ++ own) →
      wpAny (model prog w) A (execs body env) (InvPostN h₀ env.locals (KstS (fun _ : Unit => news) (fun _ => []) (fun _ => True) x stored m₀ (fun _ _ => True) []) own (news.map (·.1)) { s with heap := h, toks := tk } Q) E { s with heap := h, toks := tk })
    (done : ∀ (u : Str → Option Value) h tk, Fr h₀ env.locals h (fun y => if y = x then u y else if stored.contains y then u y else m₀ y) → News h₀ env.locals h news → Q .next { s with heap := h, toks := tk }) :
    LoopAtV prog w A h₀ env x body Q E (.ref I) s := by
  refine loop_invN (fun _ m nx => KstS (fun _ : Unit => news) (fun _ => []) (fun _ => True) x stored m₀ (fun _ _ => True) [] m nx) W (fun h => (hfp _ h).1 rfl) (fun b hb => List.mem_singleton.mp hb ▸ hI) (fun q hq h => hIn q hq (List.mem_singleton.mp h)) (fun q hq h => (hfp _ h).2 q hq rfl) hst F N ?_ ?_ ?_
  · exact ⟨(), rfl, trivial, List.forall_mem_nil _, fun _ _ _ _ => rfl, trivial⟩
  · intro i v m nx h tk own hi hv _ hoff hS F₁ N₁
    obtain ⟨_, rfl, _, h1, h2, _⟩ := hS
    obtain ⟨k, t, rfl, hk⟩ := hG i v hi hv
    exact turn k t m h tk own hk hoff (kst_fr (ps := []) h1 h2 F₁) N₁
  · intro m nx h tk hS F₁ N₁
    obtain ⟨_, rfl, _, h1, h2, _⟩ := hS
    exact done m h tk (kst_frOut (ps := []) h1 h2 F₁) N₁

/-- the address that comes next is none of those known -/
theorem fresh {m₀ : Str → Option Value} {news : List (Addr × Obj)} (F : Fr h₀ env.locals s.heap m₀) (N : News h₀ env.locals s.heap news) :
    s.heap.objs.size ≠ env.locals ∧ ∀ q ∈ news, q.1 ≠ s.heap.objs.size :=
  ⟨fun e => Nat.lt_irrefl _ (e ▸ F.ns.lt : s.heap.objs.size < s.heap.objs.size), fun q hq => Nat.ne_of_lt (Heap.lt_size (N q hq).1)⟩
theorem pushed {news : List (Addr × Obj)} {h : Heap} {o : Obj} (N : News h₀ env.locals h news) : News h₀ env.locals (h.push o) news :=
  fun q hq => ⟨Heap.get?_push_of_some _ (N q hq).1, (N q hq).2⟩

theorem range3 {r : Addr} {b₀ : Int} {t₀ u₀ v₀ : Tok} {m₀ : Str → Option Value} {news : List (Addr × Obj)} (stored : List Str)
    (hh : A.handled = none) (hr : IsRange s.heap r 0 b₀ 3 t₀ u₀ v₀) (hb0 : 0 ≤ b₀) (hb1 : b₀ < 2 ^ 40) (F : Fr h₀ env.locals s.heap m₀) (N : News h₀ env.locals s.heap news)
    (turn : ∀ (k : Int) t (u : Str → Option Value) h tk own, 0 ≤ k ∧ k < b₀ → OwnOff own (news.map (·.1)) →
      Fr h₀ env.locals h (fun y => if y = x then some (.int k t) else if stored.contains y then u y else m₀ y) → News h₀ env.locals h (news ++ own) →
      wpAny (model prog w) A (execs body env) (InvPostN h₀ env.locals (KstS (fun _ : Unit => news) (fun _ => []) (fun _ => True) x stored m₀ (fun _ _ => True) []) own (news.map (·.1)) { s with heap := h, toks := tk } Q) E { s with heap := h, toks := tk })
    (done : ∀ (u : Str → Option Value) h tk, Fr h₀ env.locals h (fun y => if y = x then u y else if stored.contains y then u y else m₀ y) → News h₀ env.locals h news → Q .next { s with heap := h, toks := tk }) :
    wpAny (model prog w) A (pyIter (.ref r)) (fun it s₂ => LoopAtV prog w A h₀ env x body Q E it s₂) E s := by
  refine wpAny_pyIter_range hr (small3 hb0 hb1) ?_
  have hn := size3 b₀
  have W := (Walks.range (prog := prog) (w := w) hh s.heap.objs.size 0 3 ((b₀ + 2) / 3).toNat).bound
  have f := fresh F N
  refine stillLoop (fun k => 0 ≤ k ∧ k < b₀) stored W (next_is_new F) (fun a ha => List.mem_singleton.mp ha ▸ f) f.2 ?_ (F.push _) (pushed N) ?_ turn done
  · show IsRangeIter _ _ _ _ _
    rw [hn]
    simpa using Heap.get?_push_size _ rfl
  · intro i v hi hv
    obtain ⟨_, t, rfl⟩ := hv
    exact ⟨_, t, rfl, by omega, by omega⟩

theorem tupLoop {ax : Addr} {lo : Obj} {n : Nat} {a1 a2 a3 a4 : Int} {t1 t2 t3 t4 : Tok} {m₀ : Str → Option Value} {news : List (Addr × Obj)} (P : Int → Prop) (stored : List Str)
    (hh : A.handled = none) (F : Fr h₀ env.locals s.heap m₀) (N : News h₀ env.locals s.heap ((ax, lo) :: news)) (hlt : ∀ p ∈ news, p.1 < ax) (hc : lo.cls = .type "tuple") (hd : lo.data = .seq #[.int a1 t1, .int a2 t2, .int a3 t3, .int a4 t4] n)
    (p1 : P a1) (p2 : P a2) (p3 : P a3) (p4 : P a4)
    (turn : ∀ (k : Int) t (u : Str → Option Value) h tk own, P k → OwnOff own (news.map (·.1)) →
      Fr h₀ env.locals h (fun y => if y = x then some (.int k t) else if stored.contains y then u y else m₀ y) → News h₀ env.locals h (news ++ own) →
      wpAny (model prog w) A (execs body env) (InvPostN h₀ env.locals (KstS (fun _ : Unit => news) (fun _ => []) (fun _ => True) x stored m₀ (fun _ _ => True) []) own (news.map (·.1)) { s with heap := h, toks := tk } Q) E { s with heap := h, toks := tk })
    (done : ∀ (u : Str → Option Value) h tk, Fr h₀ env.locals h (fun y => if y = x then u y else if stored.contains y then u y else m₀ y) → News h₀ env.locals h news → Q .next { s with heap := h, toks := tk }) :
    wpAny (model prog w) A (pyIter (.ref ax)) (fun it s₂ => LoopAtV prog w A h₀ env x body Q E it s₂) E s := by
  have hax := N _ (List.mem_cons_self ..)
  have N' : News h₀ env.locals s.heap news := fun q hq => N q (List.mem_cons_of_mem _ hq)
  have hl : s.heap.IsTuple ax #[.int a1 t1, .int a2 t2, .int a3 t3, .int a4 t4] := ⟨lo, hax.1, hc, n, hd⟩
  have hne : ax ≠ s.heap.objs.size := Nat.ne_of_lt (Heap.lt_size hax.1)
  have f := fresh F N'
  refine wpAny_pyIter_tuple hl ?_
  refine stillLoop P stored (Walks.tuple (prog := prog) (w := w) hh s.heap.objs.size ax hne _) (next_is_new F) (fun a ha => ?_) f.2 ⟨⟨_, Heap.get?_push_size _ rfl, rfl, rfl⟩, hl.at fun o e => Heap.get?_push_of_some _ e⟩ (F.push _) (pushed N') ?_ turn done
  · have ha' : a = s.heap.objs.size ∨ a = ax := by simpa using ha
    rcases ha' with rfl | rfl
    · exact f
    · exact ⟨hax.2.1, fun q hq => Nat.ne_of_lt (hlt q hq)⟩
  · intro i v hi hv
    have hi' : i < 4 := hi
    have hc4 : i = 0 ∨ i = 1 ∨ i = 2 ∨ i = 3 := by omega
    rcases hc4 with rfl | rfl | rfl | rfl
    · exact ⟨a1, t1, (Option.some.inj hv).symm, p1⟩
    · exact ⟨a2, t2, (Option.some.inj hv).symm, p2⟩
    · exact ⟨a3, t3, (Option.some.inj hv).symm, p3⟩
    · exact ⟨a4, t4, (Option.some.inj hv).symm, p4⟩
end

theorem offIf {α : Sort _} {z s : Str} [d : Decidable (z = s)] {v r c : α} (h : z ≠ s) (h' : r = c) : (if z = s then v else r) = c := by rw [if_neg h]; exact h'
theorem offS {z s : Str} {st : List Str} (h : st.contains z = false) (hs : st.contains s = true) : z ≠ s := fun e => by rw [e, hs] at h; cases h
theorem offC {α : Sort _} {z : Str} {st l : List Str} {v r c : α} (h : st.contains z = false) (hl : l.all (fun s => st.contains s) = true) (h' : r = c) : (if l.contains z = true then v else r) = c := by
  rw [if_neg]
  · exact h'
  · intro hz
    have h1 : z ∈ l := by simpa using hz
    have h2 := List.all_eq_true.mp hl z h1
    rw [h] at h2
    cases h2


theorem newsTail {h₀ : Heap} {L : Addr} {h : Heap} {p : Addr × Obj} {l : List (Addr × Obj)} (N : News h₀ L h (p :: l)) : News h₀ L h l := fun q hq => N q (List.mem_cons_of_mem _ hq)

/-- a cut at a test that is always false -/
def NoF (h₀ : Heap) (L : Addr) (m : Str → Option Value) (news : List (Addr × Obj)) (s : Shared) (b : Bool) (s' : Shared) : Prop :=
  b = false ∧ ∃ h tk, s' = { s with heap := h, toks := tk } ∧ Fr h₀ L h m ∧ News h₀ L h news

theorem NoF.intro {h₀ : Heap} {L : Addr} {m : Str → Option Value} {news : List (Addr × Obj)} {s : Shared} {b : Bool} {h : Heap} {tk : Nat} (F : Fr h₀ L h m) (N : News h₀ L h news) (hb : b = false) :
    NoF h₀ L m news s b { s with heap := h, toks := tk } := ⟨hb, h, tk, rfl, F, N⟩

theorem never {M : Model} {A : Around} {t : Sem Bool} {E : Value → Shared → Prop} {s : Shared} {h₀ : Heap} {L : Addr} {m : Str → Option Value} {news : List (Addr × Obj)} {Q : Bool → Shared → Prop}
    (_F : Fr h₀ L s.heap m) (_N : News h₀ L s.heap news)
    (a : wpAny M A t (NoF h₀ L m news s) E s) (b : ∀ h tk, Fr h₀ L h m → News h₀ L h news → Q false { s with heap := h, toks := tk }) : wpAny M A t Q E s :=
  wpAny_mono a (fun f s' p => by obtain ⟨rfl, h, tk, rfl, F, N⟩ := p; exact b h tk F N) fun _ _ e => e

/-- a cut at an int whose value is forgotten but for what is said of it -/
def IntF (h₀ : Heap) (L : Addr) (m : Str → Option Value) (news : List (Addr × Obj)) (P : Int → Prop) (s : Shared) (v : Value) (s' : Shared) : Prop :=
  ∃ x t h tk, v = .int x t ∧ P x ∧ s' = { s with heap := h, toks := tk } ∧ Fr h₀ L h m ∧ News h₀ L h news

theorem IntF.intro {h₀ : Heap} {L : Addr} {m : Str → Option Value} {news : List (Addr × Obj)} {P : Int → Prop} {s : Shared} {x : Int} {t : Tok} {h : Heap} {tk : Nat} (F : Fr h₀ L h m) (N : News h₀ L h news) (hP : P x) :
    IntF h₀ L m news P s (.int x t) { s with heap := h, toks := tk } := ⟨x, t, h, tk, rfl, hP, rfl, F, N⟩

theorem someInt {M : Model} {A : Around} {t : Sem Value} {E : Value → Shared → Prop} {s : Shared} {h₀ : Heap} {L : Addr} {m : Str → Option Value} {news : List (Addr × Obj)} {Q : Value → Shared → Prop} (P : Int → Prop)
    (_F : Fr h₀ L s.heap m) (_N : News h₀ L s.heap news)
    (a : wpAny M A t (IntF h₀ L m news P s) E s) (b : ∀ x u h tk, P x → Fr h₀ L h m → News h₀ L h news → Q (.int x u) { s with heap := h, toks := tk }) : wpAny M A t Q E s :=
  wpAny_mono a (fun f s' p => by obtain ⟨x, u, h, tk, rfl, hP, rfl, F, N⟩ := p; exact b x u h tk hP F N) fun _ _ e => e
/-- a cut at a call of three ints whose answer is told -/
theorem callIs {M : Model} {A : Around} {f : Value} {kw : List (Str × Value)} {t1 t2 t3 : Tok} {x1 x2 x3 : Int} {E : Value → Shared → Prop} {s : Shared} {h₀ : Heap} {L : Addr} {m : Str → Option Value} {news : List (Addr × Obj)} {Q : Value → Shared → Prop} (g : Int → Int → Int → Int)
    (_F : Fr h₀ L s.heap m) (_N : News h₀ L s.heap news)
    (a : wpAny M A (call f [.int x1 t1, .int x2 t2, .int x3 t3] kw) (IntF h₀ L m news (fun x => x = g x1 x2 x3) s) E s)
    (b : ∀ u h tk, Fr h₀ L h m → News h₀ L h news → Q (.int (g x1 x2 x3) u) { s with heap := h, toks := tk }) : wpAny M A (call f [.int x1 t1, .int x2 t2, .int x3 t3] kw) Q E s :=
  wpAny_mono a (fun v s' p => by obtain ⟨x, u, h, tk, rfl, rfl, rfl, F, N⟩ := p; exact b u h tk F N) fun _ _ e => e
theorem sub1 {α : Type _} {a : α} {l r : List α} : ∀ p ∈ a :: l, p ∈ a :: (l ++ r) := fun _ hp => (List.mem_cons.mp hp).elim (fun e => e ▸ List.mem_cons_self ..) fun h => List.mem_cons_of_mem _ (List.mem_append_left _ h)
theorem sub2 {α : Type _} {a : α} {l r : List α} : ∀ p ∈ r, p ∈ a :: (l ++ r) := fun _ hp => List.mem_cons_of_mem _ (List.mem_append_right _ hp)
theorem sub3 {α : Type _} {a : α} {l : List α} : ∀ p ∈ [a], p ∈ a :: l := fun _ hp => (List.mem_singleton.mp hp) ▸ List.mem_cons_self ..
theorem sub4 {α : Type _} {a : α} {l : List α} : ∀ p ∈ l, p ∈ a :: l := fun _ hp => List.mem_cons_of_mem _ hp

theorem andZero (a k t : Nat) (h : t < 2 ^ k) : (a * 2 ^ k) &&& t = 0 := by
  refine Nat.eq_of_testBit_eq fun i => ?_
  rw [Nat.testBit_and, Nat.zero_testBit]
  by_cases hi : i < k
  · rw [Nat.mul_comm, Nat.testBit_two_pow_mul]
    simp [Nat.not_le.mpr hi]
  · have h2 : t < 2 ^ i := Nat.lt_of_lt_of_le h (Nat.pow_le_pow_right (by decide) (by omega))
    rw [Nat.testBit_lt_two_pow h2, Bool.and_false]

theorem cand {e t : Int} (k : Nat) (he : 0 ≤ e) (ht : 0 ≤ t) (hk : t < 2 ^ k) :
    Builtin.bitOr (Builtin.bitAnd e (Builtin.bitNot (2 ^ k - 1))) t = e - e.fmod (2 ^ k) + t := by
  have hp := kbt_pos k
  have hc := kbt_cast k
  have hq : 0 ≤ e / 2 ^ k := Int.ediv_nonneg he (Int.le_of_lt hp)
  rw [bitAnd_not, kbt_maskF, kbt_cut, Int.fdiv_eq_ediv_of_nonneg _ (Int.le_of_lt hp), bitOr_and]
  generalize e / 2 ^ k = q at hq
  obtain ⟨n, rfl⟩ := Int.eq_ofNat_of_zero_le hq
  obtain ⟨m, rfl⟩ := Int.eq_ofNat_of_zero_le ht
  rw [← hc]
  rw [← hc] at hk
  have h1 : ((n : Int) * ((2 ^ k : Nat) : Int)) = ((n * 2 ^ k : Nat) : Int) := (Int.natCast_mul _ _).symm
  rw [h1, bitAnd_pp (Int.natCast_nonneg _) (Int.natCast_nonneg _), Int.toNat_natCast, Int.toNat_natCast, andZero n k m (by omega)]
  omega

theorem cand8 {e t : Int} (he : 0 ≤ e) (ht : 0 ≤ t) (hk : t < 256) : Builtin.bitOr (Builtin.bitAnd e (Builtin.bitNot 255)) t = e - e.fmod 256 + t := cand 8 he ht hk
theorem cand16 {e t : Int} (he : 0 ≤ e) (ht : 0 ≤ t) (hk : t < 65536) : Builtin.bitOr (Builtin.bitAnd e (Builtin.bitNot 65535)) t = e - e.fmod 65536 + t := cand 16 he ht hk
theorem cand24 {e t : Int} (he : 0 ≤ e) (ht : 0 ≤ t) (hk : t < 16777216) : Builtin.bitOr (Builtin.bitAnd e (Builtin.bitNot 16777215)) t = e - e.fmod 16777216 + t := cand 24 he ht hk
theorem cand32 {e t : Int} (he : 0 ≤ e) (ht : 0 ≤ t) (hk : t < 4294967296) : Builtin.bitOr (Builtin.bitAnd e (Builtin.bitNot 4294967295)) t = e - e.fmod 4294967296 + t := cand 32 he ht hk

/-- how many bits the octets hold -/
def IsB (b : Int) : Prop := b = 8 ∨ b = 16 ∨ b = 24 ∨ b = 32
/-- a turn of the octets -/
def wOf (b : Int) : Int := if b = 8 then 256 else if b = 16 then 65536 else if b = 24 then 16777216 else 4294967296

/-- what the law reckons -/
def nearF (t W e : Int) : Int :=
  if (if 2 * (t - e).fmod W > W then e + (t - e).fmod W - W else e + (t - e).fmod W) < 0 then
    (if 2 * (t - e).fmod W > W then e + (t - e).fmod W - W else e + (t - e).fmod W) + W
  else if (if 2 * (t - e).fmod W > W then e + (t - e).fmod W - W else e + (t - e).fmod W) ≥ 4611686018427387904 then
    (if 2 * (t - e).fmod W > W then e + (t - e).fmod W - W else e + (t - e).fmod W) - W
  else (if 2 * (t - e).fmod W > W then e + (t - e).fmod W - W else e + (t - e).fmod W)

/-- what the function reckons -/
def decF (t W e : Int) : Int :=
  if e - e.fmod W + t ≤ e - W.fdiv 2 ∧ e - e.fmod W + t < 4611686018427387904 - W then e - e.fmod W + t + W
  else if e - e.fmod W + t > e + W.fdiv 2 ∧ e - e.fmod W + t ≥ W then e - e.fmod W + t - W
  else e - e.fmod W + t

theorem wOf_cases {b : Int} (h : IsB b) : wOf b = 256 ∨ wOf b = 65536 ∨ wOf b = 16777216 ∨ wOf b = 4294967296 := by
  rcases h with rfl | rfl | rfl | rfl <;> decide
theorem wOf_lo {b : Int} (h : IsB b) : 256 ≤ wOf b := by rcases wOf_cases h with h | h | h | h <;> omega
theorem wOf_hi {b : Int} (h : IsB b) : wOf b ≤ 4294967296 := by rcases wOf_cases h with h | h | h | h <;> omega

theorem fm (a : Int) {W : Int} (h : 0 < W) : a.fmod W = a % W := Int.fmod_eq_emod_of_nonneg a (Int.le_of_lt h)
theorem fd (a : Int) {W : Int} (h : 0 < W) : a.fdiv W = a / W := Int.fdiv_eq_ediv_of_nonneg a (Int.le_of_lt h)

theorem dec_near_w {t W e : Int} (hW : W = 256 ∨ W = 65536 ∨ W = 16777216 ∨ W = 4294967296) (t0 : 0 ≤ t) (t1 : t < W) (e0 : 0 ≤ e) (e1 : e < 4611686018427387904) :
    decF t W e = nearF t W e := by
  unfold decF nearF
  rw [fm e (show 0 < W by omega), fm (t - e) (show 0 < W by omega), fd W (show (0 : Int) < 2 by decide)]
  rcases hW with rfl | rfl | rfl | rfl <;> (repeat' split) <;> omega

theorem near_sent_w {s W e : Int} (hW : W = 256 ∨ W = 65536 ∨ W = 16777216 ∨ W = 4294967296) (s0 : 0 ≤ s) (s1 : s < 4611686018427387904) (lo : -W < 2 * (s - e)) (hi : 2 * (s - e) ≤ W) :
    nearF (s.fmod W) W e = s := by
  unfold nearF
  rw [fm s (show 0 < W by omega), fm (s % W - e) (show 0 < W by omega)]
  rcases hW with rfl | rfl | rfl | rfl <;> (repeat' split) <;> omega

theorem dec_near {b t e : Int} (hb : IsB b) (t0 : 0 ≤ t) (t1 : t < wOf b) (e0 : 0 ≤ e) (e1 : e < 4611686018427387904) : decF t (wOf b) e = nearF t (wOf b) e :=
  dec_near_w (wOf_cases hb) t0 t1 e0 e1
theorem near_sent {b s e : Int} (hb : IsB b) (s0 : 0 ≤ s) (s1 : s < 4611686018427387904) (lo : -(wOf b) < 2 * (s - e)) (hi : 2 * (s - e) ≤ wOf b) : nearF (s.fmod (wOf b)) (wOf b) e = s :=
  near_sent_w (wOf_cases hb) s0 s1 lo hi

theorem fm_wOf {b : Int} (x : Int) (hb : IsB b) : 0 ≤ x.fmod (wOf b) ∧ x.fmod (wOf b) < wOf b := by
  have h := wOf_lo hb
  rw [fm x (show 0 < wOf b by omega)]
  exact ⟨Int.emod_nonneg _ (by omega), Int.emod_lt_of_pos _ (by omega)⟩

theorem candB {b e t : Int} (hb : IsB b) (he : 0 ≤ e) (ht : 0 ≤ t) (htW : t < wOf b) :
    Builtin.bitOr (Builtin.bitAnd e (Builtin.bitNot (wOf b - 1))) t = e - e.fmod (wOf b) + t := by
  rcases wOf_cases hb with h | h | h | h <;> rw [h] at htW ⊢
  · exact cand8 he ht htW
  · exact cand16 he ht htW
  · exact cand24 he ht htW
  · exact cand32 he ht htW

section
variable {prog : Program} {w : World} {A : Around} {E : Value → Shared → Prop} {s : Shared}
theorem bitsG {env : Env} {x : Str} {c : Int} {t : Tok} {Q : Unit → Shared → Prop}
    (h : ∀ b : Int, (b = 8 ∨ b = 16 ∨ b = 24 ∨ b = 32) → wpAny (model prog w) A (storeName env x (.int b t)) Q E s) :
    wpAny (model prog w) A (storeName env x (.int (8 * (1 + c.fmod 4)) t)) Q E s := by
  refine h _ ?_
  rw [Int.fmod_eq_emod_of_nonneg _ (show (0 : Int) ≤ 4 by decide)]
  omega
variable {Q : Value → Shared → Prop} {t u : Tok} {b x e : Int}
theorem shlB (hb : b = 8 ∨ b = 16 ∨ b = 24 ∨ b = 32) (h : 256 ≤ wOf b → wOf b ≤ 4294967296 → Q (.int (wOf b) s.toks) { s with toks := s.toks + 1 }) :
    wpAny (model prog w) A (binaryOp .LShift (.int 1 t) (.int b u)) Q E s := by
  refine lshift_int_small (by omega) (by omega) (by decide) ?_
  have e : (1 : Int) * 2 ^ b.toNat = wOf b := by
    rcases hb with rfl | rfl | rfl | rfl <;> decide
  rw [e]
  exact h (wOf_lo hb) (wOf_hi hb)
theorem shl62 (h : Q (.int 4611686018427387904 s.toks) { s with toks := s.toks + 1 }) : wpAny (model prog w) A (binaryOp .LShift (.int 1 t) (.int 62 u)) Q E s := lshift_int_small (by decide) (by decide) (by decide) h
theorem modW (hb : b = 8 ∨ b = 16 ∨ b = 24 ∨ b = 32) (h : 0 ≤ x.fmod (wOf b) → x.fmod (wOf b) < wOf b → Q (.int (x.fmod (wOf b)) s.toks) { s with toks := s.toks + 1 }) :
    wpAny (model prog w) A (binaryOp .Mod (.int x t) (.int (wOf b) u)) Q E s :=
  mod_int' (by have := wOf_lo hb; omega) (h (fm_wOf x hb).1 (fm_wOf x hb).2)
theorem halfW (hb : b = 8 ∨ b = 16 ∨ b = 24 ∨ b = 32) (h : Q (.int ((wOf b).fdiv 2) s.toks) { s with toks := s.toks + 1 }) :
    wpAny (model prog w) A (binaryOp .FloorDiv (.int (wOf b) t) (.int 2 u)) Q E s := by
  refine floordiv_int (by decide) h (Or.inl ?_)
  rcases wOf_cases hb with h | h | h | h <;> rw [h] <;> exact PyProof.noPylong_of_log2 (by decide +kernel)
theorem endW (hb : b = 8 ∨ b = 16 ∨ b = 24 ∨ b = 32) (h : ∀ n : Int, 0 < n → n * wOf b = 4611686018427387904 → Q (.int n s.toks) { s with toks := s.toks + 1 }) :
    wpAny (model prog w) A (binaryOp .FloorDiv (.int 4611686018427387904 t) (.int (wOf b) u)) Q E s := by
  refine floordiv_int (by have := wOf_lo hb; omega) (h _ ?_ ?_) (Or.inl ?_)
  · rcases wOf_cases hb with h | h | h | h <;> rw [h] <;> decide
  · rcases wOf_cases hb with h | h | h | h <;> rw [h] <;> decide
  · rcases wOf_cases hb with h | h | h | h <;> rw [h] <;> exact PyProof.noPylong_of_log2 (by decide +kernel)
theorem mulW {n : Int} (hb : b = 8 ∨ b = 16 ∨ b = 24 ∨ b = 32) (h0 : 0 < n) (hn : n * wOf b = 4611686018427387904)
    (h : ∀ p : Int, 0 ≤ p → p ≤ 4611686018427387904 - 256 → Q (.int p s.toks) { s with toks := s.toks + 1 }) :
    wpAny (model prog w) A (binaryOp .Mult (.int (x.fmod n) t) (.int (wOf b) u)) Q E s := by
  have hw := wOf_lo hb
  have h1 : 0 ≤ x.fmod n := by rw [fm x h0]; exact Int.emod_nonneg _ (by omega)
  have h2 : x.fmod n + 1 ≤ n := by rw [fm x h0]; have := Int.emod_lt_of_pos x h0; omega
  have h3 : (x.fmod n + 1) * wOf b ≤ n * wOf b := Int.mul_le_mul_of_nonneg_right h2 (by omega)
  rw [hn, Int.add_mul] at h3
  have h4 : n ≤ 4611686018427387904 := by
    have h5 : n * 256 ≤ n * wOf b := Int.mul_le_mul_of_nonneg_left hw (by omega)
    omega
  exact mul_int (h _ (Int.mul_nonneg h1 (by omega)) (by omega))
theorem orB {a : Int} (hb : b = 8 ∨ b = 16 ∨ b = 24 ∨ b = 32) (he : 0 ≤ e) (h0 : 0 ≤ a) (h1 : a < wOf b) (h : Q (.int (e - e.fmod (wOf b) + a) s.toks) { s with toks := s.toks + 1 }) :
    wpAny (model prog w) A (binaryOp .BitOr (.int (Builtin.bitAnd e (Builtin.bitNot (wOf b - 1))) t) (.int a u)) Q E s :=
  or_int (by rw [candB hb he h0 h1]; exact h)
end
theorem decW1 {t b e : Int} (h : (b = 8 ∨ b = 16 ∨ b = 24 ∨ b = 32) ∧ 0 ≤ t ∧ t < wOf b ∧ 0 ≤ e ∧ e < 4611686018427387904) (h1 : e - e.fmod (wOf b) + t ≤ e - (wOf b).fdiv 2) (h2 : e - e.fmod (wOf b) + t < 4611686018427387904 - wOf b) : e - e.fmod (wOf b) + t + wOf b = nearF t (wOf b) e := by
  have hw : 0 ≤ (wOf b).fdiv 2 := by rw [fd _ (by decide)]; have := wOf_lo h.1; omega
  rw [← dec_near h.1 h.2.1 h.2.2.1 h.2.2.2.1 h.2.2.2.2]
  unfold decF
  (repeat' split) <;> omega
theorem decW2 {t b e : Int} (h : (b = 8 ∨ b = 16 ∨ b = 24 ∨ b = 32) ∧ 0 ≤ t ∧ t < wOf b ∧ 0 ≤ e ∧ e < 4611686018427387904) (h1 : e - e.fmod (wOf b) + t ≤ e - (wOf b).fdiv 2) (h2 : ¬ e - e.fmod (wOf b) + t < 4611686018427387904 - wOf b) : e - e.fmod (wOf b) + t = nearF t (wOf b) e := by
  have hw : 0 ≤ (wOf b).fdiv 2 := by rw [fd _ (by decide)]; have := wOf_lo h.1; omega
  rw [← dec_near h.1 h.2.1 h.2.2.1 h.2.2.2.1 h.2.2.2.2]
  unfold decF
  (repeat' split) <;> omega
theorem decW3 {t b e : Int} (h : (b = 8 ∨ b = 16 ∨ b = 24 ∨ b = 32) ∧ 0 ≤ t ∧ t < wOf b ∧ 0 ≤ e ∧ e < 4611686018427387904) (h1 : e + (wOf b).fdiv 2 < e - e.fmod (wOf b) + t) (h2 : wOf b ≤ e - e.fmod (wOf b) + t) : e - e.fmod (wOf b) + t - wOf b = nearF t (wOf b) e := by
  have hw : 0 ≤ (wOf b).fdiv 2 := by rw [fd _ (by decide)]; have := wOf_lo h.1; omega
  rw [← dec_near h.1 h.2.1 h.2.2.1 h.2.2.2.1 h.2.2.2.2]
  unfold decF
  (repeat' split) <;> omega
theorem decW4 {t b e : Int} (h : (b = 8 ∨ b = 16 ∨ b = 24 ∨ b = 32) ∧ 0 ≤ t ∧ t < wOf b ∧ 0 ≤ e ∧ e < 4611686018427387904) (h1 : e + (wOf b).fdiv 2 < e - e.fmod (wOf b) + t) (h2 : ¬ wOf b ≤ e - e.fmod (wOf b) + t) : e - e.fmod (wOf b) + t = nearF t (wOf b) e := by
  have hw : 0 ≤ (wOf b).fdiv 2 := by rw [fd _ (by decide)]; have := wOf_lo h.1; omega
  rw [← dec_near h.1 h.2.1 h.2.2.1 h.2.2.2.1 h.2.2.2.2]
  unfold decF
  (repeat' split) <;> omega
theorem decW5 {t b e : Int} (h : (b = 8 ∨ b = 16 ∨ b = 24 ∨ b = 32) ∧ 0 ≤ t ∧ t < wOf b ∧ 0 ≤ e ∧ e < 4611686018427387904) (h1 : ¬ e - e.fmod (wOf b) + t ≤ e - (wOf b).fdiv 2) (h2 : ¬ e + (wOf b).fdiv 2 < e - e.fmod (wOf b) + t) : e - e.fmod (wOf b) + t = nearF t (wOf b) e := by
  have hw : 0 ≤ (wOf b).fdiv 2 := by rw [fd _ (by decide)]; have := wOf_lo h.1; omega
  rw [← dec_near h.1 h.2.1 h.2.2.1 h.2.2.2.1 h.2.2.2.2]
  unfold decF
  (repeat' split) <;> omega
theorem fm3 (a : Int) : a.fmod 3 = a % 3 := Int.fmod_eq_emod_of_nonneg a (by decide)
theorem fm4 (a : Int) : a.fmod 4 = a % 4 := Int.fmod_eq_emod_of_nonneg a (by decide)
theorem fm7 (a : Int) : a.fmod 7 = a % 7 := Int.fmod_eq_emod_of_nonneg a (by decide)
theorem fm9 (a : Int) : a.fmod 9 = a % 9 := Int.fmod_eq_emod_of_nonneg a (by decide)
theorem fm900 (a : Int) : a.fmod 900 = a % 900 := Int.fmod_eq_emod_of_nonneg a (by decide)
theorem fm62 (a : Int) : a.fmod 4611686018427387904 = a % 4611686018427387904 := Int.fmod_eq_emod_of_nonneg a (by decide)
theorem fd4 (a : Int) : a.fdiv 4 = a / 4 := Int.fdiv_eq_ediv_of_nonneg a (by decide)

/-- how far the law sends -/
def Away {b : Int} (_ : b = 8 ∨ b = 16 ∨ b = 24 ∨ b = 32) (k : Int) : Prop := -(wOf b) < 2 * k ∧ 2 * k ≤ wOf b
theorem away1 {b x : Int} (hb : b = 8 ∨ b = 16 ∨ b = 24 ∨ b = 32) : Away hb (x.fmod (wOf b) - (wOf b).fdiv 2 + 1) := by
  have h := fm_wOf x hb
  have hc := wOf_cases hb
  have hf : (wOf b).fdiv 2 = wOf b / 2 := fd _ (by decide)
  exact ⟨by omega, by omega⟩
theorem away2 {b x : Int} (hb : b = 8 ∨ b = 16 ∨ b = 24 ∨ b = 32) : Away hb (x.fmod 9 - 4) := by
  have h := wOf_lo hb
  have hf : x.fmod 9 = x % 9 := fm _ (by decide)
  exact ⟨by omega, by omega⟩
theorem away3 {b x : Int} (hb : b = 8 ∨ b = 16 ∨ b = 24 ∨ b = 32) : Away hb ((wOf b).fdiv 2 - x.fmod 3) := by
  have hc := wOf_cases hb
  have hf : x.fmod 3 = x % 3 := fm _ (by decide)
  have hf2 : (wOf b).fdiv 2 = wOf b / 2 := fd _ (by decide)
  exact ⟨by omega, by omega⟩
theorem away4 {b x : Int} (hb : b = 8 ∨ b = 16 ∨ b = 24 ∨ b = 32) : Away hb (x.fmod 3 + 1 - (wOf b).fdiv 2) := by
  have hc := wOf_cases hb
  have hf : x.fmod 3 = x % 3 := fm _ (by decide)
  have hf2 : (wOf b).fdiv 2 = wOf b / 2 := fd _ (by decide)
  exact ⟨by omega, by omega⟩
theorem sentX {P : Prop} {b e k : Int} {hb : b = 8 ∨ b = 16 ∨ b = 24 ∨ b = 32} (h : Away hb k) (hn : nearF ((e + k).fmod (wOf b)) (wOf b) e ≠ e + k) (s0 : 0 ≤ e + k) (s1 : e + k < 4611686018427387904) : P :=
  absurd (near_sent hb s0 s1 (by have := h.1; omega) (by have := h.2; omega)) hn
end Mine

local macro_rules | `(tactic| walk_at "pyIter ref") => `(tactic| (k_here; (rename Fr _ _ _ _ => lF'); (rename News _ _ _ _ => lN'); (rename IsRange _ _ _ ((List.length (List.take _ _) : Nat) : Int) 3 _ _ _ => rgX); (with_unfolding_all refine' Mine.range3 [Str.ofString "bits", Str.ofString "window", Str.ofString "expected", Str.ofString "held", Str.ofString "away", Str.ofString "sent"] (by rfl) rgX (by omega) (by omega) lF' lN' ?_ ?_); (clear lF' lN'; intro kX kU0 kU kH kTk kOwn kB kOff kFr kNews; (have kLo := kB.1); (have kHi := kB.2); (clear kB); (try dsimp only at kFr); (try simp only [List.nil_append, List.cons_append, List.append_nil] at kNews); (try dsimp only at kOff); (try simp only [List.map_cons, List.map_nil] at kOff); (have hMark := kstMark); (try dsimp only); (try k_fold)); rotate_left; (clear lF' lN'; intro kU kH kTk kFr kNews; (try k_fold)); rotate_right))
local macro_rules | `(tactic| walk_at "storeName") => `(tactic| (k_here; (rename PySem.W.KstMark => hMk); (with_reducible refine Mine.bitsG ?_); intro bB hB))
local macro_rules | `(tactic| walk_at "binaryOp LShift int int") => `(tactic| (k_here; (with_reducible refine Mine.shl62 ?_)))
local macro_rules | `(tactic| walk_at "binaryOp LShift int int") => `(tactic| (k_here; (with_reducible refine Mine.shlB ?kb ?_); (case kb => (first | assumption | exact And.left (by assumption))); intro hW0 hW1))
local macro_rules | `(tactic| walk_at "binaryOp Mod int int") => `(tactic| (k_here; (with_reducible refine Mine.modW ?kb ?_); (case kb => (first | assumption | exact And.left (by assumption))); intro hM0 hM1))
local macro_rules | `(tactic| walk_at "binaryOp FloorDiv int int") => `(tactic| (k_here; (with_reducible refine Mine.halfW ?kb ?_); (case kb => (first | assumption | exact And.left (by assumption)))))
local macro_rules | `(tactic| walk_at "binaryOp FloorDiv int int") => `(tactic| (k_here; (with_reducible refine Mine.endW ?kb ?_); (case kb => (first | assumption | exact And.left (by assumption))); intro nN hN0 hN1))
local macro_rules | `(tactic| walk_at "binaryOp Mult int int") => `(tactic| (k_here; (with_reducible refine Mine.mulW ?kb ?kc ?kd ?_); (case kb => (first | assumption | exact And.left (by assumption))); (case kc => assumption); (case kd => assumption); intro pP hP0 hP1))
local macro_rules | `(tactic| walk_at "binaryOp BitOr int int") => `(tactic| (k_here; (with_reducible refine Mine.orB ?kb ?k1 ?k2 ?k3 ?_); (case kb => (first | assumption | exact And.left (by assumption))); (case k1 => omega); (case k2 => omega); (case k3 => omega)))
local macro_rules | `(tactic| walk_at "eval IfExp") => `(tactic| (k_here; (rename PySem.W.KstMark => hMk); (with_reducible show wpAny _ _ (PySem.eval (PySem.Expr.IfExp (PySem.Expr.Compare _ _ _ _) (PySem.Expr.Call _ _ _ _) _ _) _) _ _ _); (fail_if_success (with_reducible show wpAny _ _ _ (Mine.IntF _ _ _ _ _ _) _ _)); (rename Fr _ _ _ _ => lF'); (rename News _ _ _ _ => lN'); (try dsimp only); (k_dflt (refine Mine.someInt (fun x => 0 ≤ x ∧ x < 4611686018427387904) lF' lN' ?_ ?_)); rotate_left; (intro kE kT' kH' kTk' kP kFr' kNews'; (try dsimp only at kP); (try k_sweep); (try k_fold)); rotate_right))
local macro_rules | `(tactic| walk_at "eval IfExp") => `(tactic| (k_here; (rename PySem.W.KstMark => hMk); (with_reducible show wpAny _ _ (PySem.eval (PySem.Expr.IfExp (PySem.Expr.Compare _ _ _ _) (PySem.Expr.Subscript _ _ _) _ _) _) _ _ _); (fail_if_success (with_reducible show wpAny _ _ _ (Mine.IntF _ _ _ _ _ _) _ _)); (rename Fr _ _ _ _ => lF'); (rename News _ _ _ _ => lN'); (try dsimp only); (k_dflt (refine Mine.someInt (fun x => True) lF' lN' ?_ ?_)); rotate_left; (intro kE kT' kH' kTk' kP kFr' kNews'; (try dsimp only at kP); (try k_sweep); (try k_fold)); rotate_right))
local macro_rules | `(tactic| walk_at "call ref") => `(tactic| (k_here; (rename PySem.W.KstMark => hMk); (with_reducible show wpAny _ _ (PySem.call _ [_, Value.int (Mine.wOf _) _, _] _) _ _ _); (fail_if_success (with_reducible show wpAny _ _ _ (Mine.IntF _ _ _ _ _ _) _ _)); (rename Fr _ _ _ _ => lF'); (rename News _ _ _ _ => lN'); (try dsimp only); (k_dflt (refine Mine.callIs Mine.nearF lF' lN' ?_ ?_)); rotate_left; (intro kT' kH' kTk' kFr' kNews'; (try k_sweep); (try k_fold)); rotate_right))
local macro_rules | `(tactic| walk_at "IntF") => `(tactic| ((try dsimp only); (k_dflt (refine Mine.IntF.intro ?ka ?kb ?kc)); (case ka => (rename Fr _ _ _ _ => lF9); (first | with_reducible exact lF9 | exact lF9)); (case kb => (rename News _ _ _ _ => lN9); (try dsimp only at lN9); (first | (with_reducible exact lN9) | (exact Mine.newsTail lN9) | (exact lN9))); (case kc => first | exact True.intro | ((with_reducible show _ = Mine.nearF _ _ _); unfold Mine.nearF; (repeat' split) <;> omega) | ((try simp only [Mine.fm3, Mine.fm4, Mine.fm7, Mine.fm9, Mine.fm900, Mine.fm62, Mine.fd4]); omega))))
local macro_rules | `(tactic| walk_at "callWith ref") => `(tactic| (k_here; (k_dflt (refine' callWith_K0 ?k1 ?k2 ?_; (case k1 => (rename Fr _ _ _ _ => lF9); exact Frag.In.keeps (by with_reducible assumption) (Fr.keep lF9)); (case k2 => k_is); k_whole))))
local macro_rules | `(tactic| walk_at "isTrue BoolOp") => `(tactic| (k_here; (rename PySem.W.KstMark => hMk); (with_reducible show wpAny _ _ (PySem.isTrue (PySem.Expr.BoolOp PySem.BoolOp.And [PySem.Expr.Compare _ [CmpOp.LtE, CmpOp.Lt] _ _, _] _) _ _) _ _ _); (fail_if_success (with_reducible show wpAny _ _ _ (Mine.NoF _ _ _ _ _) _ _)); (rename Fr _ _ _ _ => lF'); (rename News _ _ _ _ => lN'); (try dsimp only); (k_dflt (refine Mine.never lF' lN' ?_ ?_)); rotate_left; (intro kH' kTk' kFr' kNews'; (try k_sweep); (try k_fold)); rotate_right))
local macro_rules | `(tactic| walk_at "eval Call") => `(tactic| (k_here; (rename PySem.W.KstMark => hMk); k_dflt (refine Call_ ?_)))
local macro_rules | `(tactic| walk_at "eval Call") => `(tactic| ((rename PySem.W.CbIn _ => hMk); k_dflt (refine Call_ ?_)))
local macro_rules | `(tactic| walk_at "exec For Name Tuple cons nil") => `(tactic| (k_here; (rename PySem.W.KstMark => hMk); (rename Fr _ _ _ _ => lF'); (with_unfolding_all refine' For_invVF lF' ?k1 ?k2 ?_; (case k1 => exact rfl); (case k2 => exact rfl); k_whole)))
local macro_rules | `(tactic| walk_at "pyIter ref") => `(tactic| (k_here; (rename PySem.W.KstMark => hMk); (with_reducible show wpAny _ _ (pyIter (Value.ref _)) (fun it s₂ => LoopAtV _ _ _ _ _ _ _ _ _ it s₂) _ _); (rename Fr _ _ _ _ => lF'); (rename News _ _ _ _ => lN'); (rename ((_ : Int) = 8 ∨ _) => hB9); (k_dflt (refine' Mine.tupLoop (Mine.Away hB9) [Str.ofString "sent"] ?hh lF' lN' ?hlt ?hc ?hd ?p1 ?p2 ?p3 ?p4 ?_ ?_)); (case hh => with_unfolding_all rfl); (case hc => with_unfolding_all rfl); (case hd => with_unfolding_all rfl); (case hlt => exact kst_ltOf (by assumption)); (case p1 => exact Mine.away1 hB9); (case p2 => exact Mine.away2 hB9); (case p3 => exact Mine.away3 hB9); (case p4 => exact Mine.away4 hB9); ((try clear lF' lN'); intro kX kU0 kU kH kTk kOwn kAw kOff kFr kNews; (try dsimp only at kFr); (try simp only [List.nil_append, List.cons_append, List.append_nil] at kNews); (try dsimp only at kOff); (try simp only [List.map_cons, List.map_nil] at kOff); (try k_sweep); (try dsimp only); (try k_fold)); rotate_left; ((try clear lF' lN'); intro kU kH kTk kFr kNews; (try dsimp only at kFr); (try k_sweep); (try dsimp only); (try k_fold)); rotate_right))
local macro_rules | `(tactic| walk_at "InvEndN") => `(tactic| ((rename Fr _ _ _ _ => lF9); (rename News _ _ _ _ => lN9); (try dsimp only); (k_dflt (refine kst_end () lF9 lN9 ?hn ?ho ?ha True.intro ?hk ?hr True.intro)); (case hn => first | exact Mine.sub3 | exact Mine.sub1); (case ho => first | exact Mine.sub4 | exact Mine.sub2); (case ha => rfl); (case hk => exact List.forall_mem_nil _); (case hr => (intro z h1 h0 h2; (repeat (first | (refine Mine.offIf h1 ?_) | (refine Mine.offIf (Mine.offS h2 (by with_unfolding_all rfl)) ?_) | (refine Mine.offC h2 (by with_unfolding_all rfl) ?_))); rfl))))
local macro_rules | `(tactic| walk_at "NoF") => `(tactic| ((try dsimp only); (k_dflt (refine Mine.NoF.intro ?ka ?kb ?kc)); (case ka => (rename Fr _ _ _ _ => lF9); (first | with_reducible exact lF9 | exact lF9)); (case kb => (rename News _ _ _ _ => lN9); (try dsimp only at lN9); (first | (with_reducible exact lN9) | (exact Mine.newsTail lN9) | (exact lN9))); (case kc => first | exact rfl | (exact Mine.sentP (by assumption) (by assumption) (by assumption)) | (exact Mine.sentX (by assumption) (by assumption) (by assumption) (by assumption)))))

set_option maxRecDepth 100000 in
set_option maxHeartbeats 8000000 in
theorem PySem.Challenge.cw_ix0001_01_holds : PySem.Challenge.rw_ix0001_01.Holds := by
  (k_with "call ref" => ((rename PySem.W.KstMark => hMk); k_call_by "decode_packet_number" (fun t b e => Mine.nearF t (Mine.wOf b) e) (fun (t b e : Int) => (b = 8 ∨ b = 16 ∨ b = 24 ∨ b = 32) ∧ 0 ≤ t ∧ t < Mine.wOf b ∧ 0 ≤ e ∧ e < 4611686018427387904)))
  (k_with "tree" => first | exact Mine.decW1 (by assumption) (by assumption) (by assumption) | exact Mine.decW2 (by assumption) (by assumption) (by assumption) | exact Mine.decW3 (by assumption) (by assumption) (by assumption) | exact Mine.decW4 (by assumption) (by assumption) (by assumption) | exact Mine.decW5 (by assumption) (by assumption) (by assumption) | (unfold Mine.nearF; (repeat' split) <;> omega))
  open_k
