import PyProof.Rows.All
import Wide.All
import OpenK.AllK
import Wide.FinOn
import PySem.Challenge.RW_bg5001_01
open PySem PySem.W PyProof.Rows
set_option Elab.async false
set_option maxRecDepth 100000
set_option maxHeartbeats 8000000
namespace Mine
open_top hd for PySem.Challenge.rw_bg5001_01
end Mine
-- BgStop
namespace Mine
structure Stop (P : Prop) : Prop where
  out : P
theorem Stop.intro {P : Prop} (h : Stop P) : P := h.out
end Mine
-- BgDraw
namespace Mine
open PySem.Spec PySem.Calls
def DrawTells (prog : Program) (w : World) (K : Frag) (p : Program) (loose : List Str) (mean : ExcName → Option Value) (mg mb : Str → Option Value) : Prop :=
  ∀ (dp un : Nat) (gd : Option (List Code)) (cn : Str) (cs : Scope) (a : Addr) (ccd : Value) (cl : List (Str × Addr)) (outer : List Env) (A₀ : Around) (base h₀ : Heap) (L : Addr) (m : Str → Option Value) (news : List (Addr × Obj)) (s : Shared)
    (bx l : Addr) (vs : List Value) (ns : List Int) (n₁ : Nat) (n₂ : Nat) (i x many : Int) (t1 t2 t3 : Tok) (Q E : Value → Shared → Prop),
    Below A₀ base outer h₀ → Fr h₀ L s.heap m → K.In h₀ → News h₀ L s.heap ((bx, listOf #[.ref l, .int i t1, .int x t2] n₁) :: (l, listOf vs.toArray n₂) :: news) → Top p loose mean mg mb h₀ → cs.kind = .function →
    IntsAre vs ns → ns.length ≤ 14 → OwnOff news [bx] → @Ne Nat l bx → 0 ≤ i → i ≤ 100 → 0 ≤ x → x < 1009 → 1 ≤ many → many ≤ 65536 → dp + 1 < recursionLimit → un + 8 < cLine →
    (∀ r t h' tk' x' t1' t2', 0 ≤ r → r < many → 0 ≤ x' → x' < 1009 → Fr h₀ L h' m → News h₀ L h' ((bx, listOf #[.ref l, .int (i+1) t1', .int x' t2'] n₁) :: (l, listOf vs.toArray n₂) :: news) → Q (.int r t) { s with heap := h', toks := tk' }) →
    wpAny (model prog w) (ktrTop dp un gd cn cs L a ccd cl outer) (call (.ref 150) [.ref bx, .int many t3]) Q E s

theorem draw_tells {prog : Program} {w : World} {loose : List Str} {mean : ExcName → Option Value} {mg mb : Str → Option Value} : DrawTells prog w (hd.heap_39 w.params) hd.view_39 loose mean mg mb := by
  w_top off
  unfold DrawTells
  intro dp un gd cn cs a ccd cl outer A₀ base h₀ L m news s bx l vs ns n₁ n₂ i x many t1 t2 t3 Q E B F X N T hk hi hlen hne hlb hi0 hi1 hx0 hx1 hm0 hm1 hd hu hret
  refine wpAny_call ?_
  k_dflt cell_enter
  k_steps
  · exact hret _ _ _ _ _ _ _ (Int.fmod_nonneg_of_pos _ (by omega)) (Int.fmod_lt_of_pos _ (by omega)) hx0 hx1 (by assumption) (by assumption)
  · exact hret _ _ _ _ _ _ _ (Int.fmod_nonneg_of_pos _ (by omega)) (Int.fmod_lt_of_pos _ (by omega)) (Int.fmod_nonneg_of_pos _ (by omega)) (Int.fmod_lt_of_pos _ (by omega)) (by assumption) (by assumption)
end Mine
-- BgUse
namespace Mine
open PySem.Spec PySem.Calls
theorem draw_use {prog : Program} {w : World} {K : Frag} {p : Program} {loose : List Str} {mean : ExcName → Option Value} {mg mb : Str → Option Value}
    {dp un : Nat} {gd : Option (List Code)} {cn : Str} {cs : Scope} {a : Addr} {ccd : Value} {cl : List (Str × Addr)} {outer : List Env} {A₀ : Around} {base h₀ : Heap} {L : Addr} {m : Str → Option Value} {led : List (Addr × Obj)} {led' : Tok → Int → Tok → List (Addr × Obj)} {s : Shared}
    {bx l : Addr} {vs : List Value} {ns : List Int} {n₁ n₂ : Nat} {i x many : Int} {t1 t2 t3 : Tok} {Q E : Value → Shared → Prop}
    (C : DrawTells prog w K p loose mean mg mb)
    (B : Below A₀ base outer h₀) (F : Fr h₀ L s.heap m) (X : K.In h₀) (N : News h₀ L s.heap led) (T : Top p loose mean mg mb h₀) (hk : cs.kind = .function)
    (hl : (l, listOf vs.toArray n₂) ∈ led)
    (hU : ∀ t1' x' t2', Upd bx (listOf #[.ref l, .int i t1, .int x t2] n₁) (listOf #[.ref l, .int (i + 1) t1', .int x' t2'] n₁) led (led' t1' x' t2'))
    (hi : IntsAre vs ns) (hlen : ns.length ≤ 14) (hlb : @Ne Nat l bx) (hi0 : 0 ≤ i) (hi1 : i ≤ 100) (hx0 : 0 ≤ x) (hx1 : x < 1009) (hm0 : 1 ≤ many) (hm1 : many ≤ 65536) (hd : dp + 1 < recursionLimit) (hu : un + 8 < cLine)
    (ret : ∀ r t h' tk' x' t1' t2', 0 ≤ r → r < many → 0 ≤ x' → x' < 1009 → Fr h₀ L h' m → News h₀ L h' (led' t1' x' t2') → Q (.int r t) { s with heap := h', toks := tk' }) :
    wpAny (model prog w) (ktrTop dp un gd cn cs L a ccd cl outer) (call (.ref 150) [.ref bx, .int many t3]) Q E s := by
  obtain ⟨pre, post, e1, _, d1, d2⟩ := (hU 0 0 0).split
  subst e1
  refine C dp un gd cn cs a ccd cl outer A₀ base h₀ L m (pre ++ post) s bx l vs ns n₁ n₂ i x many t1 t2 t3 Q E B F X (fun q hq => ?_) T hk hi hlen (fun q hq b hb => ?_) hlb hi0 hi1 hx0 hx1 hm0 hm1 hd hu
    fun r t h' tk' x' t1' t2' r0 r1 x0 x1 F' N' => ret r t h' tk' x' t1' t2' r0 r1 x0 x1 F' (fun q hq => ?_)
  · rcases List.mem_cons.mp hq with rfl | hq
    · exact N _ (by simp)
    rcases List.mem_cons.mp hq with rfl | hq
    · exact N _ hl
    · rcases List.mem_append.mp hq with h | h
      · exact N _ (by simp [h])
      · exact N _ (by simp [h])
  · rw [List.mem_singleton.mp hb]
    rcases List.mem_append.mp hq with h | h
    · exact d1 q h
    · exact d2 q h
  · obtain ⟨pre', post', f1, f2, g1, g2⟩ := (hU t1' x' t2').split
    rw [f2] at hq
    have hq' : q = (bx, listOf #[.ref l, .int (i + 1) t1', .int x' t2'] n₁) ∨ q ∈ pre' ∨ q ∈ post' := by
      rcases List.mem_append.mp hq with h | h
      · exact .inr (.inl h)
      · rcases List.mem_cons.mp h with h | h
        · exact .inl h
        · exact .inr (.inr h)
    have inb : ∀ q, (q ∈ pre' ∨ q ∈ post') → q ∈ pre ++ post := by
      intro q hq
      have hne : q.1 ≠ bx := hq.elim (g1 q) (g2 q)
      have hin : q ∈ pre ++ (bx, listOf #[.ref l, .int i t1, .int x t2] n₁) :: post := by
        rw [f1]
        rcases hq with h | h
        · exact List.mem_append.mpr (.inl h)
        · exact List.mem_append.mpr (.inr (.tail _ h))
      rcases List.mem_append.mp hin with h | h
      · exact List.mem_append.mpr (.inl h)
      · rcases List.mem_cons.mp h with h | h
        · exact absurd (by rw [h]) hne
        · exact List.mem_append.mpr (.inr h)
    rcases hq' with rfl | h
    · exact N' _ (.head _)
    · exact N' _ (.tail _ (.tail _ (inb q h)))
end Mine
-- BgComp
namespace Mine
open PySem.Spec PySem.Calls PyProof.Rows.LCg
theorem comp_draws {prog : Program} {w : World} {A : Around} {h₀ : Heap} {L : Addr} {m : Str → Option Value} {env : Env} {elt : PySem.Expr} {x : Str} {scope : Scope} {cl : List (Str × Addr)} {Fin : Shared → List Value → List (Addr × Obj) → Prop} {s₁ : Shared}
    {r l bx : Addr} {b₀ x₀ M bnd : Int} {t1₀ t2₀ t u v : Tok} {n₁ : Nat} {led : List (Addr × Obj)} (led' : Int → Tok → Int → Tok → List (Addr × Obj))
    (hh : A.handled = none) (F : Fr h₀ L s₁.heap m) (N : News h₀ L s₁.heap led) (hr : IsRange s₁.heap r 0 bnd 1 t u v)
    (hU : ∀ b t1 x t2, Upd bx (listOf #[.ref l, .int b₀ t1₀, .int x₀ t2₀] n₁) (listOf #[.ref l, .int b t1, .int x t2] n₁) led (led' b t1 x t2))
    (hB : (bx, listOf #[.ref l, .int b₀ t1₀, .int x₀ t2₀] n₁) ∈ led) (hb0 : 0 ≤ bnd) (hb4 : bnd ≤ 4) (hx0 : 0 ≤ x₀) (hx1 : x₀ < 1009)
    (step : ∀ (g : Heap) (i : Nat) ys ns b t1 x' t2 vi I oI C oC D m₂ h tk (E' : Value → Shared → Prop), i < 4 → (∃ t, vi = .int (0 + (i : Int)) t) → IntsAre ys ns → ns.length = i → b₀ ≤ b → b ≤ b₀ + i → 0 ≤ x' → x' < 1009 →
      NsObj oC m₂ → m₂ x = some vi → Fr h₀ L h m → News h₀ L h ((I, oI) :: (C, oC) :: (D, lst ys) :: led' b t1 x' t2) → Off3 I C D (led' b t1 x' t2) → ((@Ne Nat I C) ∧ (@Ne Nat I D) ∧ (@Ne Nat C D)) →
      wpAny (model prog w) A (eval elt (compEnvC scope cl C env)) (CompEnd h₀ L m { ({ s₁ with heap := g } : Shared) with heap := h, toks := tk } I oI C oC D (lst ys) (fun _ => True)
        (fun y news' => ∃ z t b' t1' x'' t2', y = .int z t ∧ 0 ≤ z ∧ z < M ∧ news' = led' b' t1' x'' t2' ∧ b₀ ≤ b' ∧ b' ≤ b₀ + (i + 1 : Nat) ∧ 0 ≤ x'' ∧ x'' < 1009)) E' { ({ s₁ with heap := g } : Shared) with heap := h, toks := tk })
    (fin : ∀ (g : Heap) ys ns b t1 x' t2, IntsAre ys ns → ns.length ≤ 4 → (∀ z ∈ ns, 0 ≤ z ∧ z < M) → b₀ ≤ b → b ≤ b₀ + 4 → 0 ≤ x' → x' < 1009 → Fin { s₁ with heap := g } ys (led' b t1 x' t2)) :
    CompSrc prog w A h₀ L m env elt x scope cl Fin (.ref r) s₁ := by
  have hbn : bnd = ((bnd.toNat : Nat) : Int) := by omega
  have e0 : ∀ (z : Int), z = 0 ∨ z = 1 ∨ z = 2 ∨ z = 3 ∨ z = 4 → Builtin.Range.small 0 z 1 = true ∧ Builtin.Range.rangeSize 0 z 1 = ((z.toNat : Nat) : Int) := by
    rintro z (rfl | rfl | rfl | rfl | rfl) <;> exact ⟨by decide, by decide⟩
  have e1 := e0 bnd (by omega)
  have hled : led = led' b₀ t1₀ x₀ t2₀ := by
    obtain ⟨pre, post, f1, f2, _, _⟩ := (hU b₀ t1₀ x₀ t2₀).split
    rw [f1, f2]
  refine CompSrc.range hh F N hr e1.1 e1.2 (by rw [sizeLine_eq]; omega) fun g => ?_
  have go : ∀ (k i : Nat) ys ns b t1 x' t2, i + k = bnd.toNat → IntsAre ys ns → ns.length = i → (∀ z ∈ ns, 0 ≤ z ∧ z < M) → b₀ ≤ b → b ≤ b₀ + i → 0 ≤ x' → x' < 1009 →
      CompRest prog w A h₀ L m env elt x scope cl { s₁ with heap := g } (fun _ => True) (fun i v => ∃ t, v = .int (0 + (i : Int)) t) (Fin { s₁ with heap := g }) k i ys (led' b t1 x' t2) := by
    intro k
    induction k with
    | zero =>
      intro i ys ns b t1 x' t2 hi hI hn hz hb hb' hx hx'
      exact CompRest.zero (fin g ys ns b t1 x' t2 hI (by omega) hz hb (by omega) hx hx')
    | succ k ih =>
      intro i ys ns b t1 x' t2 hi hI hn hz hb hb' hx hx'
      refine CompRest.succ fun vi I oI C oC D m₂ h tk E' hP hN hm F' N' off ne => ?_
      refine wpAny_mono (step g i ys ns b t1 x' t2 vi I oI C oC D m₂ h tk E' (by omega) hP hI hn hb hb' hx hx' hN hm F' N' off ne) (fun y s₂ q => ?_) fun _ _ e => e
      obtain ⟨h', tk', news', e, Fq, Nq, offq, _, z, t, b', t1', x'', t2', rfl, hz0, hz1, rfl, hb0', hb1', hx0', hx1'⟩ := q
      exact ⟨h', tk', _, e, Fq, Nq, offq, trivial, ih (i + 1) (ys ++ [.int z t]) (ns ++ [z]) b' t1' x'' t2' (by omega) (hI.append (IntsAre.cons z t .nil)) (by rw [List.length_append, hn]; rfl)
        (fun y hy => by
          rcases List.mem_append.mp hy with h | h
          · exact hz y h
          · rw [List.mem_singleton.mp h]; exact ⟨hz0, hz1⟩) hb0' hb1' hx0' hx1'⟩
  rw [hled]
  exact go bnd.toNat 0 [] [] b₀ t1₀ x₀ t2₀ (by omega) .nil rfl (fun z hz => nomatch hz) (by omega) (by omega) hx0 hx1
end Mine
-- BgRules
namespace Mine
open PySem.Spec PySem.Calls
theorem size_item {prog : Program} {w : World} {A : Around} {E : Value → Shared → Prop} {s : Shared} {value slice : PySem.Expr} {l : Addr} {a b c d e f : Nat} {k : Int} {u : Tok} {Q : Value → Shared → Prop}
    (hl : s.heap.IsList l #[.int 1 a, .int 2 b, .int 3 c, .int 4 d, .int 5 e, .int 8 f]) (h0 : 0 ≤ k) (h1 : k < 6) (h : ∀ (z : Int) t, 1 ≤ z → z ≤ 8 → Q (.int z t) s)
    (hs : subscripted slice false (.ref l) (.int k u) = operate [.ref l, .int k u] (getItem (.ref l) (.int k u))) :
    wpAny (model prog w) A (subscriptTail value slice (.ref l) (.int k u)) Q E s := by
  have hc : k = 0 ∨ k = 1 ∨ k = 2 ∨ k = 3 ∨ k = 4 ∨ k = 5 := by omega
  rcases hc with rfl | rfl | rfl | rfl | rfl | rfl <;>
  exact tail_any hl.typeIs slot_list_getitem.lookup (wpAny_getItem_list hl (by decide) (by decide) rfl (h _ _ (by decide) (by decide))) hs
theorem shl_one {prog : Program} {w : World} {A : Around} {E : Value → Shared → Prop} {s : Shared} {k : Int} {t u : Tok} {Q : Value → Shared → Prop} (h0 : 0 ≤ k) (h1 : k ≤ 16)
    (h : ∀ M t', M = 2 ^ k.toNat → 1 ≤ M → M ≤ 65536 → Q (.int M t') { s with toks := s.toks + 1 }) : wpAny (model prog w) A (binaryOp .LShift (.int 1 t) (.int k u)) Q E s := by
  refine lshift_int_small h0 (by omega) (by decide) ?_
  have e : (2 : Int) ^ k.toNat = ((2 ^ k.toNat : Nat) : Int) := (kbt_cast _).symm
  have h2 : 2 ^ k.toNat ≤ 2 ^ 16 := Nat.pow_le_pow_right (by omega) (by omega)
  have h3 := Nat.two_pow_pos k.toNat
  rw [Int.one_mul]
  exact h _ _ rfl (by omega) (by omega)
theorem news_drop1 {h₀ h : Heap} {L : Addr} {a b : Addr × Obj} {l : List (Addr × Obj)} (N : News h₀ L h (a :: b :: l)) : News h₀ L h (a :: l) := fun p hp => by
  rcases List.mem_cons.mp hp with rfl | hp
  · exact N _ (.head _)
  · exact N _ (.tail _ (.tail _ hp))
theorem news_drop0 {h₀ h : Heap} {L : Addr} {a : Addr × Obj} {l : List (Addr × Obj)} (N : News h₀ L h (a :: l)) : News h₀ L h l := fun p hp => N p (.tail _ hp)
theorem off1_mem {D : Addr} : ∀ {l : List (Addr × Obj)}, PyProof.Rows.LCg.Off1 D l → ∀ p ∈ l, p.1 ≠ D
  | [], _, _, h => nomatch h
  | _ :: _, x, p, h => by
    rcases List.mem_cons.mp h with rfl | h
    · exact x.1
    · exact off1_mem x.2 p h
end Mine
-- BgIndex
namespace Mine
open PySem.Spec PySem.Calls
theorem entry_index : entryFor table "_operator.index" = some Builtin.«_operator.index» := entryFor_of_tree (by kernel_rfl)
theorem kind_index : builtinKind "_operator.index" = none := by kernel_rfl
theorem plain_index : plainId "_operator.index" = true := by decide +kernel
theorem args_index (a : Value) : argsOk "_operator.index" ⟨[a], []⟩ := by unfold argsOk; kernel_rfl
theorem run_index (a : Int) (t : Tok) : Gives (Builtin.«_operator.index» ⟨[.int a t], []⟩) (.val (.int a t)) :=
  .of_wp fun M A E s Q h => by obtain ⟨hp, g, d, tk, os⟩ := s; wp_walk; exact ⟨_, rfl, h⟩
theorem call_index {prog : Program} {w : World} {A : Around} {E : Value → Shared → Prop} {s : Shared} {Q : Value → Shared → Prop} {a : Int} {t : Tok} (h : Q (.int a t) s) :
    wpAny (model prog w) A (call (.builtin "_operator.index") [.int a t]) Q E s :=
  call_function_meets kind_index plain_index entry_index (args_index _) (run_index a t).meets h
end Mine
-- BgNotIn
namespace Mine
open PySem.Spec PySem.Calls
theorem notin_range {prog : Program} {w : World} {A : Around} {E : Value → Shared → Prop} {s : Shared} {Q : Value → Shared → Prop} {r : Addr} {b x : Int} {t1 t2 t3 t : Tok}
    (hr : IsRange s.heap r 0 b 1 t1 t2 t3) (h0 : 0 ≤ x) (h1 : x < b) (h : Q (.bool false) s) : wpAny (model prog w) A (compareOp .NotIn (.int x t) (.ref r)) Q E s := by
  have hT : s.TypeIs (.ref r) "range" := ⟨_, hr, rfl⟩
  have hp : (Builtin.Range.rangePlace? 0 b 1 x).isSome = true := by
    unfold Builtin.Range.rangePlace?
    simp [h0, h1, Int.emod_one]
  show wpAny _ _ (do return .bool (!(← contains (.ref r) (.int x t)))) Q E s
  refine wpAny_bind (wpAny_contains_slot hT F.slot_range_contains (wpAny_call_entry F.slot_range_contains hT F.entry_range_contains ?_ (F.args_range_contains_2 _ _)))
  unfold Builtin.«range.__contains__»
  refine wpAny_bind (wpAny_of_eq (a := (Value.ref r, [Value.int x t])) rfl ?_)
  dsimp only
  refine wpAny_bind (wpAny_rule ?_)
  obtain ⟨hp9, g, d, tk, os⟩ := s
  have hr' : hp9.get? r = some _ := hr
  wp_walk
  refine ⟨_, rfl, ?_⟩
  dsimp only
  rw [hp]
  exact wpAny_truthy_bool (wpAny_pure h)
end Mine
-- BgNat
namespace Mine
theorem xor_add (a : Nat) : ∀ b : Nat, (a ^^^ b) + 2 * (a &&& b) = a + b := by
  induction a using Nat.strongRecOn with
  | _ a ih =>
    intro b
    by_cases h : a = 0
    · subst h; simp
    · have i := ih (a / 2) (by omega) (b / 2)
      have h1 : (a ^^^ b) / 2 = a / 2 ^^^ b / 2 := Nat.xor_div_two
      have h2 : (a &&& b) / 2 = a / 2 &&& b / 2 := Nat.and_div_two
      have h3 := @Nat.xor_mod_two_eq_one a b
      have h4 := @Nat.and_mod_two_eq_one a b
      rw [← h1, ← h2] at i
      omega
theorem and_cast (a b : Nat) : Builtin.bitAnd (a : Int) (b : Int) = ((a &&& b : Nat) : Int) := by
  rw [bitAnd_pp (by omega) (by omega)]; rfl
theorem xor_cast (a b : Nat) : Builtin.bitXor (a : Int) (b : Int) = ((a ^^^ b : Nat) : Int) := by
  have h := xor_add a b
  rw [bitXor_and, and_cast]; omega
theorem or_cast (a b : Nat) : Builtin.bitOr (a : Int) (b : Int) = ((a ||| b : Nat) : Int) := by
  have h : (a ||| b) + (a &&& b) = a + b := by
    have h1 : a ||| b = (a ^^^ b) + (a &&& b) := by
      have e1 : (a ^^^ b) ^^^ (a &&& b) = a ||| b := by
        apply Nat.eq_of_testBit_eq; intro i; simp only [Nat.testBit_xor, Nat.testBit_and, Nat.testBit_or]; cases a.testBit i <;> cases b.testBit i <;> rfl
      have e2 : (a ^^^ b) &&& (a &&& b) = 0 := by
        apply Nat.eq_of_testBit_eq; intro i; simp only [Nat.testBit_xor, Nat.testBit_and, Nat.zero_testBit]; cases a.testBit i <;> cases b.testBit i <;> rfl
      have := xor_add (a ^^^ b) (a &&& b)
      rw [e1, e2] at this
      omega
    have h2 := xor_add a b
    omega
  rw [show Builtin.bitOr (a : Int) (b : Int) = (a : Int) + b - Builtin.bitAnd a b from bitOr_and _ _, and_cast]; omega
theorem shl_cast (a k : Nat) : (a : Int) * 2 ^ k = ((a <<< k : Nat) : Int) := by
  rw [Nat.shiftLeft_eq, Int.natCast_mul, kbt_cast]
theorem shr_cast (a k : Nat) : (a : Int).fdiv (2 ^ k) = ((a >>> k : Nat) : Int) := by
  rw [Int.fdiv_eq_ediv_of_nonneg _ (Int.le_of_lt (kbt_pos k)), Nat.shiftRight_eq_div_pow, Int.natCast_ediv, kbt_cast]
end Mine
-- BgLoop
namespace Mine
open PySem.Spec PySem.Calls
section
variable {prog : Program} {w : World} {A : Around} {E : Value → Shared → Prop} {s : Shared} {env : Env} {h₀ : Heap} {x y : Str} {body : List Stmt} {Q : Flow → Shared → Prop}
abbrev natFr (x y : Str) (v : Value) (c : Nat) (tc : Tok) (stored : List Str) (u m₀ : Str → Option Value) : Str → Option Value :=
  fun z => if z = x then some v else if z = y then some (.int (c : Nat) tc) else if stored.contains z = true then u z else m₀ z
abbrev natOut (x y : Str) (c : Nat) (tc : Tok) (stored : List Str) (u m₀ : Str → Option Value) : Str → Option Value :=
  fun z => if z = x then u z else if z = y then some (.int (c : Nat) tc) else if stored.contains z = true then u z else m₀ z
theorem natFr_same {v : Value} {c : Nat} {tc : Tok} {stored : List Str} {u m₀ : Str → Option Value} {z : Str} (h1 : z ≠ x) (h2 : z ≠ y) (h3 : stored.contains z = false) : natFr x y v c tc stored u m₀ z = m₀ z := by
  show (if z = x then _ else if z = y then _ else if stored.contains z = true then _ else _) = _
  rw [if_neg h1, if_neg h2, if_neg (by rw [h3]; decide)]
theorem natOut_same {c : Nat} {tc : Tok} {stored : List Str} {u m₀ : Str → Option Value} {z : Str} (h1 : z ≠ x) (h2 : z ≠ y) (h3 : stored.contains z = false) : natOut x y c tc stored u m₀ z = m₀ z := by
  show (if z = x then _ else if z = y then _ else if stored.contains z = true then _ else _) = _
  rw [if_neg h1, if_neg h2, if_neg (by rw [h3]; decide)]
def NatJ (led : List (Addr × Obj)) (x y : Str) (stored : List Str) (m₀ : Str → Option Value) (P : List Int → Nat → Prop) (pre : List Int) : (Str → Option Value) → List (Addr × Obj) → Prop :=
  KstS (σ := Nat × Tok) (fun _ => led) (fun c => [(y, .int (c.1 : Nat) c.2)]) (fun _ => True) x stored m₀ (fun pre c => P pre c.1) pre
theorem nat_end {led own news' : List (Addr × Obj)} {stored : List Str} {m₀ m' : Str → Option Value} {P : List Int → Nat → Prop} {pre : List Int} {L : Addr} {s₁ : Shared} {h' : Heap} {tk : Nat} (c' : Nat) (tc' : Tok)
    (F : Fr h₀ L h' m') (N : News h₀ L h' news') (hn : ∀ p ∈ led, p ∈ news') (ho : ∀ p ∈ own, p ∈ news') (hk : m' y = some (.int (c' : Nat) tc')) (hr : ∀ z, z ≠ x → z ≠ y → stored.contains z = false → m' z = m₀ z) (hp : P pre c') :
    InvEndN h₀ L (NatJ led x y stored m₀ P pre) own (led.map (·.1)) s₁ { s₁ with heap := h', toks := tk } :=
  kst_end (σ := Nat × Tok) (c', tc') F N hn ho rfl trivial (fun p hp => by rw [List.mem_singleton.mp hp]; exact hk) (fun z h1 h2 h3 => hr z h1 (h2 _ (List.mem_singleton.mpr rfl)) h3) hp
theorem nat_list {l : Addr} {vs : List Value} {ns : List Int} {nn : Nat} {led : List (Addr × Obj)} {m₀ : Str → Option Value} (stored : List Str) (P : List Int → Nat → Prop) (c₀ : Nat) {t₀ : Tok}
    (hh : A.handled = none) (hl : (l, listOf vs.toArray nn) ∈ led) (hi : IntsAre vs ns) (F : Fr h₀ env.locals s.heap m₀) (N : News h₀ env.locals s.heap led) (hk : m₀ y = some (.int (c₀ : Nat) t₀)) (hp : P [] c₀)
    (turn : ∀ c tc pre post n t (u : Str → Option Value) h tk own, ns = pre ++ n :: post → n ∈ ns → OwnOff own (led.map (·.1)) → P pre c → Fr h₀ env.locals h (natFr x y (.int n t) c tc stored u m₀) → News h₀ env.locals h (led ++ own) →
      wpAny (model prog w) A (execs body env) (InvPostN h₀ env.locals (NatJ led x y stored m₀ P (pre ++ [n])) own (led.map (·.1)) { s with heap := h, toks := tk } Q) E { s with heap := h, toks := tk })
    (done : ∀ c tc (u : Str → Option Value) h tk, P ns c → Fr h₀ env.locals h (natOut x y c tc stored u m₀) → News h₀ env.locals h led → Q .next { s with heap := h, toks := tk }) :
    wpAny (model prog w) A (pyIter (.ref l)) (fun it s₂ => LoopAtV prog w A h₀ env x body Q E it s₂) E s :=
  kst_listL (σ := Nat × Tok) (fun _ => led) (fun c => [(y, .int (c.1 : Nat) c.2)]) (fun _ => True) stored (fun pre c => P pre c.1) (c₀, t₀) hh (fun _ => hl) hi F N trivial (fun p hp => by rw [List.mem_singleton.mp hp]; exact hk) hp
    (fun c pre post n t u h tk own h1 h2 h3 _ h4 h5 h6 => turn c.1 c.2 pre post n t u h tk own h1 h2 h3 h4 h5 h6) (fun c u h tk _ h1 h2 h3 => done c.1 c.2 u h tk h1 h2 h3)
theorem nat_range {r : Addr} {a₀ b₀ : Int} {t₁ u₁ v₁ : Tok} {n : Nat} {led : List (Addr × Obj)} {m₀ : Str → Option Value} (stored : List Str) (P : List Int → Nat → Prop) (c₀ : Nat) {t₀ : Tok}
    (hh : A.handled = none) (hr : IsRange s.heap r a₀ b₀ 1 t₁ u₁ v₁) (hsmall : Builtin.Range.small a₀ b₀ 1 = true) (hn : Builtin.Range.rangeSize a₀ b₀ 1 = (n : Int))
    (F : Fr h₀ env.locals s.heap m₀) (N : News h₀ env.locals s.heap led) (hk : m₀ y = some (.int (c₀ : Nat) t₀)) (hp : P [] c₀)
    (turn : ∀ c tc (pre : List Int) (k : Int) t (u : Str → Option Value) h tk own, k = a₀ + (pre.length : Int) → pre.length < n → OwnOff own (led.map (·.1)) → P pre c → Fr h₀ env.locals h (natFr x y (.int k t) c tc stored u m₀) → News h₀ env.locals h (led ++ own) →
      wpAny (model prog w) A (execs body env) (InvPostN h₀ env.locals (NatJ led x y stored m₀ P (pre ++ [k])) own (led.map (·.1)) { s with heap := h, toks := tk } Q) E { s with heap := h, toks := tk })
    (done : ∀ c tc (u : Str → Option Value) h tk, P (rangeKs a₀ n) c → Fr h₀ env.locals h (natOut x y c tc stored u m₀) → News h₀ env.locals h led → Q .next { s with heap := h, toks := tk }) :
    wpAny (model prog w) A (pyIter (.ref r)) (fun it s₂ => LoopAtV prog w A h₀ env x body Q E it s₂) E s :=
  kst_range (σ := Nat × Tok) (fun _ => led) (fun c => [(y, .int (c.1 : Nat) c.2)]) (fun _ => True) stored (fun pre c => P pre c.1) (c₀, t₀) hh hr hsmall hn F N trivial (fun p hp => by rw [List.mem_singleton.mp hp]; exact hk) hp
    (fun c pre k t u h tk own h1 h2 h3 _ h4 h5 h6 => turn c.1 c.2 pre k t u h tk own h1 h2 h3 h4 h5 h6) (fun c u h tk _ h1 h2 h3 => done c.1 c.2 u h tk h1 h2 h3)
end
end Mine
-- BgFmt
namespace Mine
open PySem.Spec PySem.Calls PySem.Builtin PySem.Builtin.Int PySem.NumText

/-- the value of a list of bits, the first one the highest -/
def bitsVal (l : List Nat) : Nat := l.foldl (fun acc d => acc * 2 + d) 0
/-- the bits of w, the lowest first -/
def lowBits (n w : Nat) : List Nat := (List.range n).map fun k => (w >>> k) % 2
/-- the bits of w, the highest of n first -/
def highBits (n w : Nat) : List Nat := (List.range n).map fun k => (w >>> (n - 1 - k)) % 2
def binCodes (l : List Nat) : List Nat := l.map (48 + ·)
def revN (n w : Nat) : Nat := bitsVal (lowBits n w)

theorem highBits_succ (n w : Nat) : highBits (n + 1) w = highBits n (w / 2) ++ [w % 2] := by
  unfold highBits
  rw [List.range_succ, List.map_append]
  congr 1
  · apply List.map_congr_left
    intro k hk
    have hk := List.mem_range.mp hk
    rw [Nat.shiftRight_eq_div_pow, Nat.shiftRight_eq_div_pow, Nat.div_div_eq_div_mul, show n + 1 - 1 - k = (n - 1 - k) + 1 by omega, Nat.pow_succ, Nat.mul_comm 2]
  · simp
theorem digit01 : ∀ d : Nat, d < 2 → (Nat.digitChar d).toNat = 48 + d := by decide
theorem bin_text : ∀ n w : Nat, w < 2 ^ (n + 1) →
    List.replicate (n + 1 - (Nat.toDigits 2 w).length) 48 ++ (Nat.toDigits 2 w).map Char.toNat = binCodes (highBits (n + 1) w)
  | 0, w, h => by
    have h2 : w = 0 ∨ w = 1 := by omega
    rcases h2 with rfl | rfl <;> decide
  | n + 1, w, h => by
    rw [highBits_succ, binCodes, List.map_append]
    have hd : w / 2 < 2 ^ (n + 1) := by rw [Nat.pow_succ] at h; omega
    have ih := bin_text n (w / 2) hd
    rw [binCodes] at ih
    rw [← ih]
    by_cases hw : w < 2
    · have e0 : w / 2 = 0 := by omega
      have em : w % 2 = w := by omega
      rw [e0, em, Nat.toDigits_of_lt_base hw, Nat.toDigits_of_lt_base (show 0 < 2 by omega)]
      simp only [List.length_singleton, List.map_cons, List.map_nil, digit01 w hw]
      have : (Nat.digitChar 0).toNat = 48 := by decide
      rw [this, show n + 1 + 1 - 1 = n + 1 by omega, show n + 1 - 1 = n by omega, List.replicate_succ']
    · have hm : w % 2 < 2 := Nat.mod_lt _ (by omega)
      have t : Nat.toDigits 2 (w / 2) ++ Nat.toDigits 2 (w % 2) = Nat.toDigits 2 (2 * (w / 2) + w % 2) := Nat.toDigits_append_toDigits (by decide) (by omega) hm
      rw [Nat.div_add_mod] at t
      rw [← t, List.length_append, List.map_append, Nat.toDigits_of_lt_base hm]
      simp only [List.length_singleton, List.map_cons, List.map_nil, digit01 _ hm]
      rw [show n + 1 + 1 - ((Nat.toDigits 2 (w / 2)).length + 1) = n + 1 - (Nat.toDigits 2 (w / 2)).length by omega, List.append_assoc]

-- int(text, 2)
theorem step_bits : ∀ (l : List Nat) (a : Array Nat) (b : Bool), (∀ d ∈ l, d < 2) → l ≠ [] → (binCodes l).foldlM (step 2) (a, b) = some (a ++ l.toArray, true)
  | [], _, _, _, h => absurd rfl h
  | d :: r, a, b, hl, _ => by
    have hd : d < 2 := hl d (.head _)
    have hs : step 2 (a, b) (48 + d) = some (a.push d, true) := by
      have h2 : d = 0 ∨ d = 1 := by omega
      rcases h2 with rfl | rfl <;> rfl
    show (binCodes (d :: r)).foldlM (step 2) (a, b) = _
    rw [show binCodes (d :: r) = (48 + d) :: binCodes r from rfl, List.foldlM_cons, hs]
    show (binCodes r).foldlM (step 2) (a.push d, true) = _
    by_cases hr : r = []
    · subst hr
      show some (a.push d, true) = _
      simp
    · rw [step_bits r _ _ (fun x hx => hl x (.tail _ hx)) hr]
      simp
theorem blank_bit {d : Nat} (h : d < 2) : blank (48 + d) = false := by
  have h2 : d = 0 ∨ d = 1 := by omega
  rcases h2 with rfl | rfl <;> rfl
theorem sign_bits {l : List Nat} (hl : ∀ d ∈ l, d < 2) : sign (binCodes l) = (false, binCodes l) := by
  cases l with
  | nil => rfl
  | cons d r =>
    have h2 : d = 0 ∨ d = 1 := by have := hl d (.head _); omega
    rcases h2 with rfl | rfl <;> rfl
theorem prefix_bits {l : List Nat} (hl : ∀ d ∈ l, d < 2) : prefix? (binCodes l) = none := by
  cases l with
  | nil => rfl
  | cons d r =>
    cases r with
    | nil =>
      have h2 : d = 0 ∨ d = 1 := by have := hl d (.head _); omega
      rcases h2 with rfl | rfl <;> rfl
    | cons c r =>
      have h2 : d = 0 ∨ d = 1 := by have := hl d (.head _); omega
      have h3 : c = 0 ∨ c = 1 := by have := hl c (.tail _ (.head _)); omega
      rcases h2 with rfl | rfl <;> rcases h3 with rfl | rfl <;> rfl
theorem dropBlank_bits {l : List Nat} (hl : ∀ d ∈ l, d < 2) : (binCodes l).dropWhile blank = binCodes l := by
  cases l with
  | nil => rfl
  | cons d r =>
    rw [show binCodes (d :: r) = (48 + d) :: binCodes r from rfl, List.dropWhile_cons, blank_bit (hl d (.head _))]
    rfl
theorem codes_reverse (l : List Nat) : (binCodes l).reverse = binCodes l.reverse := by unfold binCodes; rw [List.map_reverse]
theorem read_bits {l : List Nat} (hl : ∀ d ∈ l, d < 2) (hne : l ≠ []) : (int_private% "readNumeral") 0 2 (binCodes l) = (int_private% "Numeral.value") (bitsVal l : Int) := by
  rw [readNumeral_eq, dropBlank_bits hl, sign_bits hl]
  have hb : based 2 (binCodes l) = (2, false, binCodes l) := by unfold based; rw [prefix_bits hl]; rfl
  dsimp only
  rw [hb]
  dsimp only
  rw [codes_reverse, dropBlank_bits (fun d hd => hl d (List.mem_reverse.mp hd)), codes_reverse, List.reverse_reverse]
  have hd : digits? 2 (binCodes l) = some l.toArray := by
    unfold digits?
    rw [step_bits l _ _ hl hne]
    simp
  rw [hd]
  unfold judge
  simp only [show (![2, 4, 8, 16, 32].contains 2 && (0 : Nat) != 0 && decide (l.toArray.size > 0)) = false by simp, show ((2 : Nat) == 10 && decide (l.toArray.size > 6000)) = false by simp, Bool.false_eq_true, if_false, Bool.false_and]
  show (int_private% "Numeral.value") ((l.toArray.foldl (fun acc d => acc * 2 + d) 0 : Nat) : Int) = _
  rw [show l.toArray.foldl (fun acc d => acc * 2 + d) 0 = bitsVal l by simp [bitsVal]]
theorem no_nul : ∀ l : List Nat, (binCodes l).takeWhile (· != 0) = binCodes l
  | [] => rfl
  | d :: r => by
    have h : ((48 + d) != 0) = true := by simp
    rw [show binCodes (d :: r) = (48 + d) :: binCodes r from rfl, List.takeWhile_cons, if_pos h, no_nul r]

structure Hid (p : Prop) : Prop where
  out : p
theorem wp_text2 {M : Model} {A : Around} {E : Value → Shared → Prop} {s : Shared} {Q : Value → Shared → Prop} {v : Value} {l : List Nat} (hl : ∀ d ∈ l, d < 2) (hne : l ≠ []) (hs : l.length ≤ 640)
    (h : Q (.int (bitsVal l) s.toks) { s with toks := s.toks + 1 }) : wpAny M A ((int_private% "intFromText") v (binCodes l) 2) Q E s := by
  obtain ⟨hp, g, d, tk, os⟩ := s
  have h1 : ((binCodes l).takeWhile (· != 0)).length ≤ 640 := by rw [no_nul]; simpa [binCodes] using hs
  have h2 : (int_private% "readNumeral") 0 2 ((binCodes l).takeWhile (· != 0)) = (int_private% "Numeral.value") (bitsVal l : Int) := by rw [no_nul]; exact read_bits hl hne
  have h3 : (((binCodes l).takeWhile (· != 0)).length == (binCodes l).length) = true := by rw [no_nul]; simp
  repeat (any_goals (first
    | assumption
    | (with_reducible refine wpAny_ite_true (decide_eq_true h1) ?_)
    | (with_reducible refine wpAny_ite_true (decide_eq_true h3) ?_)
    | wp_step))
  all_goals (try rw [h2])
  all_goals (try dsimp only)
  repeat (any_goals (first
    | assumption
    | (with_reducible refine wpAny_ite_true (decide_eq_true h1) ?_)
    | (with_reducible refine wpAny_ite_true (decide_eq_true h3) ?_)
    | wp_step))
theorem ascii_bits {l : List Nat} (hl : ∀ d ∈ l, d < 2) : (binCodes l).toArray.all (· < 128) = true := by
  rw [Array.all_eq_true_iff_forall_mem]
  intro x hx
  obtain ⟨d, hd, rfl⟩ := List.mem_map.mp (List.mem_toArray.mp hx)
  have := hl d hd
  simp; omega
theorem numText_bits {l : List Nat} {u : Tok} (hl : ∀ d ∈ l, d < 2) : (int_private% "numeralText?") (.str ⟨(binCodes l).toArray⟩ u) = pure (some (binCodes l)) := by
  show (pure (some (if (binCodes l).toArray.all (· < 128) then (binCodes l).toArray.toList else Unicode.numberText (binCodes l).toArray.toList)) : Sem (Option (List Nat))) = _
  rw [ascii_bits hl]
  rfl
theorem gives_text2 {l : List Nat} {u v : Tok} (hl : ∀ d ∈ l, d < 2) (hne : l ≠ []) (hs : l.length ≤ 640) : Gives (Builtin.«int.__new__» ⟨[.type "int", .str ⟨(binCodes l).toArray⟩ u, .int 2 v], []⟩) (.int (bitsVal l)) :=
  .of_wp fun M A E s Q h => by
    obtain ⟨hp, g, d, tk, os⟩ := s
    have f1 := F.conv_sub_int
    have f2 := F.madeHere_int
    have f3 := numText_bits (u := u) hl
    have hk := Hid.mk (And.intro hl (And.intro hne hs))
    clear hl hne hs
    repeat (any_goals (first
      | assumption
      | ((with_reducible show wpAny _ _ ((int_private% "intFromText") _ _ _) _ _ _); refine wp_text2 hk.out.1 hk.out.2.1 hk.out.2.2 ?_)
      | wp_step))
    all_goals first | exact ⟨_, rfl, h⟩ | skip
theorem typeCall_int_2 (a b : Value) : checkTypeCall "int" ⟨[a, b], []⟩ = pure () := by kernel_rfl
theorem newCall_int_2 (a b : Value) : checkBuiltinCall "int.__new__" ⟨[.type "int", a, b], []⟩ = pure () := by kernel_rfl
end Mine
-- BgFmt2
namespace Mine
open PySem.Spec PySem.Calls PySem.Builtin PySem.Builtin.Int PySem.Builtin.Str PySem.NumText
section
variable {prog : Program} {w : World} {A : Around} {E : Value → Shared → Prop} {s : Shared} {Q : Value → Shared → Prop}
theorem call_int_bits {l : List Nat} {u v : Tok} (hl : ∀ d ∈ l, d < 2) (hne : l ≠ []) (hs : l.length ≤ 640) (h : Q (.int (bitsVal l) s.toks) { s with toks := s.toks + 1 }) :
    wpAny (model prog w) A (call (.type "int") [.str ⟨(binCodes l).toArray⟩ u, .int 2 v]) Q E s :=
  callType_new F.called_int F.newNe_int (typeCall_int_2 _ _) (newCall_int_2 _ _) (fun obj => F.args_object_init_3 obj _ _) F.entry_int_new (gives_text2 hl hne hs).meets
    (show (Made.int (bitsVal l)).post _ s from ⟨rfl, h⟩)
end

theorem field_value {f : Float.FormatSpec} {n word : Nat} (hgr : f.grouping = none) (hsg : f.sign = none) (hf : f.fill = 48) (hal : f.align = 61) (hw : f.width.getD 0 = n + 1) (h : word < 2 ^ (n + 1)) :
    intField' f false [] ((Nat.toDigits 2 word).map Char.toNat) [] 4 = ⟨(binCodes (highBits (n + 1) word)).toArray⟩ := by
  have hd : ((Nat.toDigits 2 word).map Char.toNat).isEmpty = false := by
    have := tDigits_len_ge 2 word
    cases h : Nat.toDigits 2 word with
    | nil => rw [h] at this; simp at this
    | cons _ _ => rfl
  rw [intField'_zero_nonneg f _ 4 hgr hsg hd hf hal, hw, List.length_map, bin_text n word h]

def specText (n : Nat) : Str := Str.ofString ("0" ++ toString n ++ "b")
def specOf (n : Nat) : Float.FormatSpec := { fill := 48, align := 61, width := some n, type := some 98 }

theorem int_format_bits {n : Nat} {word : Nat} {t : Tok} {sp : Str} (h : word < 2 ^ (n + 1)) (hp : Float.parseFormatSpec sp.cps.toList "int" 62 = .ok (specOf (n + 1)))
    (hn : n < 100) (hne : (sp.length == 0) = false)
    (hasc : ((sp.cps.toList.drop 1).any (· ≥ 128) || (sp.cps.getD 0 0 ≥ 128 && !([60, 62, 61, 94] : List Nat).contains (sp.cps.getD 1 0))) = false) (u : Tok) :
    Meets («int.__format__» ⟨[.int (word : Int) t, .str sp u], []⟩) (fun _ R s => ∀ t' k, R (.ok (.ret (.str ⟨(binCodes (highBits (n + 1) word)).toArray⟩ t'))) { s with toks := k }) := by
  apply KPc.meets_of
  intro prog w A s Q E hQ
  unfold Builtin.«int.__format__»
  refine wpAny_bind (wpAny_of_eq (a := (_, _)) rfl ?_)
  refine wpAny_bind (wpAny_of_eq (a := _) rfl ?_)
  kxf_if
  refine wpAny_bind (wpAny_typeNameOf (T := "str") (typeIs_str _ _ _) (by decide) fun _ => ?_)
  refine wpAny_bind (wpAny_of_eq (a := some _) rfl ?_)
  simp only [hne, hasc, Bool.false_eq_true, if_false, pure_bind]
  refine wpAny_bind (wpAny_typeNameOfCut_int ?_)
  simp only [hp]
  rw [if_pos (by kernel_rfl)]
  show wpAny _ _ (if _ then _ else _) _ _ _
  rw [if_neg (by simp [specOf]; omega)]
  refine KXf.ret_text (T := ⟨(binCodes (highBits (n + 1) word)).toArray⟩) ?_ ?_ hQ
  · have hneg : decide (((word : Nat) : Int) < 0) = false := decide_eq_false (by omega)
    have e := field_value (f := specOf (n + 1)) (n := n) (word := word) rfl rfl rfl rfl rfl h
    rw [← hneg] at e
    exact e
  · have hneg : decide (((word : Nat) : Int) < 0) = false := decide_eq_false (by omega)
    have e := field_value (f := specOf (n + 1)) (n := n) (word := word) rfl rfl rfl rfl rfl h
    rw [← hneg] at e
    refine Nat.le_trans (Nat.le_of_eq (congrArg Str.length e)) ?_
    simp [Str.length, binCodes, highBits, sizeLine_eq]
    omega
theorem format_bits {prog : Program} {w : World} {A : Around} {E : Value → Shared → Prop} {s : Shared} {Q : Value → Shared → Prop} {n : Nat} {word : Nat} {t : Tok} (h : word < 2 ^ (n + 1)) (hn : n < 16)
    (hQ : ∀ t' k, Q (.str ⟨(binCodes (highBits (n + 1) word)).toArray⟩ t') { s with toks := k }) :
    wpAny (model prog w) A (formatField (.int (word : Int) t) (Str.empty ++ Str.ofString "0" ++ Str.ofString (toString ((n + 1 : Nat) : Int)) ++ Str.ofString "b")) Q E s := by
  have hcase : n = 0 ∨ n = 1 ∨ n = 2 ∨ n = 3 ∨ n = 4 ∨ n = 5 ∨ n = 6 ∨ n = 7 ∨ n = 8 ∨ n = 9 ∨ n = 10 ∨ n = 11 ∨ n = 12 ∨ n = 13 ∨ n = 14 ∨ n = 15 := by omega
  rcases hcase with rfl | rfl | rfl | rfl | rfl | rfl | rfl | rfl | rfl | rfl | rfl | rfl | rfl | rfl | rfl | rfl <;>
  · refine KXf.field_int rfl (by decide +kernel) (by decide +kernel) (fun u => int_format_bits h (by kernel_rfl) (by omega) (by decide +kernel) (by decide +kernel) u) hQ
end Mine
-- BgRefl
namespace Mine
open PySem.Spec PySem.Calls
theorem highBits_length (n w : Nat) : (highBits n w).length = n := by simp [highBits]
theorem lowBits_lt {n w : Nat} : ∀ d ∈ lowBits n w, d < 2 := by
  intro d hd
  obtain ⟨k, _, rfl⟩ := List.mem_map.mp hd
  exact Nat.mod_lt _ (by omega)
theorem rev_bits (n w : Nat) (u : Tok) : Txt.sliceBy ⟨(binCodes (highBits n w)).toArray⟩ none none (-1, u) = ⟨(binCodes (lowBits n w)).toArray⟩ := by
  refine Str.ext' ?_
  have hl : (⟨(binCodes (highBits n w)).toArray⟩ : Str).length = n := by simp [Str.length, binCodes, highBits_length]
  rw [← Array.toList_inj, step_rev_list, hl]
  show _ = binCodes (lowBits n w)
  rw [show binCodes (lowBits n w) = (List.range n).map (fun k => 48 + (w >>> k) % 2) by simp [binCodes, lowBits]]
  apply List.map_congr_left
  intro k hk
  have hk := List.mem_range.mp hk
  simp [binCodes, highBits, Array.getD, show n - 1 - k < n by omega]
  rw [show n - 1 - (n - 1 - k) = k by omega]
def ReflTells (prog : Program) (w : World) (K : Frag) (p : Program) (loose : List Str) (mean : ExcName → Option Value) (mg mb : Str → Option Value) : Prop :=
  ∀ (dp un : Nat) (gd : Option (List Code)) (cn : Str) (cs : Scope) (a : Addr) (ccd : Value) (cl : List (Str × Addr)) (outer : List Env) (A₀ : Around) (base h₀ : Heap) (L : Addr) (m : Str → Option Value) (news : List (Addr × Obj)) (s : Shared)
    (word n : Nat) (wi ni : Int) (t1 t2 : Tok) (Q E : Value → Shared → Prop),
    Below A₀ base outer h₀ → Fr h₀ L s.heap m → K.In h₀ → News h₀ L s.heap news → Top p loose mean mg mb h₀ → cs.kind = .function →
    wi = (word : Int) → ni = (n : Int) → 1 ≤ n → n ≤ 16 → word < 2 ^ n → dp + 1 < recursionLimit → un + 8 < cLine →
    (∀ t h' tk', Fr h₀ L h' m → News h₀ L h' news → Q (.int (revN n word : Nat) t) { s with heap := h', toks := tk' }) →
    wpAny (model prog w) (ktrTop dp un gd cn cs L a ccd cl outer) (call (.ref 119) [.int wi t1, .int ni t2]) Q E s

local macro_rules | `(tactic| walk_at "formatField int") => `(tactic| (refine format_bits (by assumption) (by assumption) ?_; intro _ _))
local macro_rules | `(tactic| walk_at "subscriptTail") => `(tactic| ((with_reducible show wpAny _ _ (subscriptTail _ (Expr.Slice none none (some _) _) (Value.str _ _) (Value.ref _)) _ _ _); (with_reducible rename Fr _ _ _ _ => F'); (with_reducible rename News _ _ _ _ => N'); (refine slice_strK_nn (hsz := ?hsz) (s := ⟨_, _, _, _, _⟩) F' N' (by decide) ?_); (case hsz => (simp [Str.length, binCodes, highBits_length, sizeLine_eq]; omega)); intro _ _ _ _ _; rw [rev_bits]))
local macro_rules | `(tactic| walk_at "call type:int") => `(tactic| (refine call_int_bits lowBits_lt (by (simp [lowBits])) (by (simp [lowBits]; omega)) ?_))
theorem refl_tells {prog : Program} {w : World} {loose : List Str} {mean : ExcName → Option Value} {mg mb : Str → Option Value} : ReflTells prog w (hd.heap_39 w.params) hd.view_39 loose mean mg mb := by
  w_top off
  unfold ReflTells
  intro dp un gd cn cs a ccd cl outer A₀ base h₀ L m news s word n wi ni t1 t2 Q E B F X N T hk hwi hni hn1 hn2 hw1 hd hu hret
  obtain ⟨n, rfl⟩ : ∃ k, n = k + 1 := ⟨n - 1, by omega⟩
  have hn3 : n < 16 := by omega
  subst hwi hni
  refine wpAny_call ?_
  k_dflt cell_enter
  k_steps
  all_goals (try (refine Stop.mk ?_))
  exact hret _ _ _ (by assumption) (by assumption)
end Mine
-- BgFun
namespace Mine
def stepC (top ps c : Nat) : Nat := if c &&& top ≠ 0 then (c <<< 1) ^^^ ps else c <<< 1
def iterC (top ps : Nat) : Nat → Nat → Nat
  | 0, c => c
  | k + 1, c => stepC top ps (iterC top ps k c)
def wordC (wn pn dn : Nat) (b1 : Bool) (c n : Nat) : Nat := iterC (2 ^ (wn + dn - 1)) (pn <<< dn) dn (c ^^^ ((if b1 then revN dn n else n) <<< wn)) &&& (2 ^ (wn + dn) - 1)
def regC (wn pn iv dn : Nat) (b1 : Bool) (l : List Nat) : Nat := l.foldl (wordC wn pn dn b1) (iv <<< dn)
def compN (wn pn iv : Nat) (b1 b2 : Bool) (xn dn : Nat) (l : List Nat) : Nat := (if b2 then revN wn (regC wn pn iv dn b1 l >>> dn) else regC wn pn iv dn b1 l >>> dn) ^^^ xn
theorem shl_lt {a k j : Nat} (h : a < 2 ^ k) : a <<< j < 2 ^ (k + j) := by
  rw [Nat.shiftLeft_eq, Nat.pow_add]
  exact (Nat.mul_lt_mul_right (Nat.two_pow_pos j)).mpr h
theorem pow_le {a b : Nat} (h : a ≤ b) : 2 ^ a ≤ 2 ^ b := Nat.pow_le_pow_right (by omega) h
theorem stepC_lt {top ps c k : Nat} (hc : c < 2 ^ k) (hp : ps < 2 ^ (k + 1)) : stepC top ps c < 2 ^ (k + 1) := by
  unfold stepC
  have h := shl_lt (j := 1) hc
  split
  · exact Nat.xor_lt_two_pow h hp
  · exact h
theorem iterC_lt {top ps c K : Nat} (hc : c < 2 ^ K) (hp : ps < 2 ^ K) : ∀ j, iterC top ps j c < 2 ^ (K + j)
  | 0 => hc
  | j + 1 => stepC_lt (iterC_lt hc hp j) (Nat.lt_of_lt_of_le hp (pow_le (show K ≤ K + j + 1 by omega)))
theorem bitsVal_lt : ∀ l : List Nat, (∀ d ∈ l, d < 2) → bitsVal l < 2 ^ l.length := by
  intro l
  unfold bitsVal
  have go : ∀ (l : List Nat) (a k : Nat), a < 2 ^ k → (∀ d ∈ l, d < 2) → l.foldl (fun acc d => acc * 2 + d) a < 2 ^ (k + l.length) := by
    intro l
    induction l with
    | nil => intro a k h _; exact h
    | cons d r ih =>
      intro a k h hd
      have := hd d (.head _)
      have h2 : a * 2 + d < 2 ^ (k + 1) := by rw [Nat.pow_succ]; omega
      have := ih (a * 2 + d) (k + 1) h2 fun x hx => hd x (.tail _ hx)
      rw [List.length_cons, show k + (r.length + 1) = k + 1 + r.length by omega]
      exact this
  intro h
  have := go l 0 0 (by simp) h
  simpa using this
theorem revN_lt (n w : Nat) : revN n w < 2 ^ n := by
  have h := bitsVal_lt (lowBits n w) lowBits_lt
  simpa [revN, lowBits] using h
theorem wordC_lt {wn pn dn : Nat} {b1 : Bool} {c n : Nat} : wordC wn pn dn b1 c n < 2 ^ (wn + dn) := by
  unfold wordC
  rw [Nat.and_two_pow_sub_one_eq_mod]
  exact Nat.mod_lt _ (Nat.two_pow_pos _)
theorem word_in {dn n : Nat} {b1 : Bool} (h : n < 2 ^ dn) : (if b1 then revN dn n else n) < 2 ^ dn := by
  cases b1
  · exact h
  · exact revN_lt dn n
theorem step_set {c top ps : Nat} (h : Builtin.bitAnd (c : Int) (top : Int) ≠ 0) : Builtin.bitXor ((c : Int) * 2 ^ (Int.toNat 1)) (ps : Int) = ((stepC top ps c : Nat) : Int) := by
  rw [and_cast] at h
  have h' : c &&& top ≠ 0 := fun e => h (by rw [e]; rfl)
  unfold stepC
  rw [if_pos h', show Int.toNat 1 = 1 from rfl, shl_cast, xor_cast]
theorem step_clear {c top ps : Nat} (h : Builtin.bitAnd (c : Int) (top : Int) = 0) : (c : Int) * 2 ^ (Int.toNat 1) = ((stepC top ps c : Nat) : Int) := by
  rw [and_cast] at h
  have h' : ¬ (c &&& top ≠ 0) := fun e => e (by omega)
  unfold stepC
  rw [if_neg h', show Int.toNat 1 = 1 from rfl, shl_cast]
end Mine
-- BgGrow
namespace Mine
open PySem.Spec PySem.Calls
section
variable {prog : Program} {w : World} {A : Around} {E : Value → Shared → Prop} {s : Shared} {env : Env} {h₀ : Heap} {x : Str} {body : List Stmt} {Q : Flow → Shared → Prop}
def GrowJ (wl : Addr) (rest : List (Addr × Obj)) (x : Str) (stored : List Str) (m₀ : Str → Option Value) (P : Nat → List Int → Prop) (i : Nat) (m : Str → Option Value) (nx : List (Addr × Obj)) : Prop :=
  ∃ ys ws k, nx = (wl, listOf (List.toArray ys) k) :: rest ∧ IntsAre ys ws ∧ P i ws ∧ ∀ z, z ≠ x → stored.contains z = false → m z = m₀ z
abbrev growFr (x : Str) (v : Value) (stored : List Str) (u m₀ : Str → Option Value) : Str → Option Value :=
  fun z => if z = x then some v else if stored.contains z = true then u z else m₀ z
abbrev growOut (x : Str) (stored : List Str) (u m₀ : Str → Option Value) : Str → Option Value :=
  fun z => if z = x then u z else if stored.contains z = true then u z else m₀ z
theorem growFr_same {v : Value} {stored : List Str} {u m₀ : Str → Option Value} {z : Str} (h1 : z ≠ x) (h3 : stored.contains z = false) : growFr x v stored u m₀ z = m₀ z := by
  show (if z = x then _ else if stored.contains z = true then _ else _) = _
  rw [if_neg h1, if_neg (by rw [h3]; decide)]
theorem grow_end {wl : Addr} {rest own news' : List (Addr × Obj)} {stored : List Str} {m₀ m' : Str → Option Value} {P : Nat → List Int → Prop} {i : Nat} {L : Addr} {s₁ : Shared} {h' : Heap} {tk : Nat} {adr : List Addr} {ys : List Value} {ws : List Int} {k : Nat}
    (F : Fr h₀ L h' m') (N : News h₀ L h' news') (hw : (wl, listOf (List.toArray ys) k) ∈ news') (hn : ∀ p ∈ rest, p ∈ news') (ho : ∀ p ∈ own, p ∈ news') (ha : wl :: rest.map (·.1) = adr) (hi : IntsAre ys ws) (hp : P i ws)
    (hr : ∀ z, z ≠ x → stored.contains z = false → m' z = m₀ z) :
    InvEndN h₀ L (GrowJ wl rest x stored m₀ P i) own adr s₁ { s₁ with heap := h', toks := tk } :=
  InvEndN.intro F N ⟨ys, ws, k, rfl, hi, hp, hr⟩ ha (fun p hp => by
    rcases List.mem_cons.mp hp with rfl | hp
    · exact hw
    · exact hn p hp) ho
theorem grow_range {r wl : Addr} {a₀ b₀ d₀ : Int} {t₁ u₁ v₁ : Tok} {n k₀ : Nat} {rest : List (Addr × Obj)} {m₀ : Str → Option Value} (stored : List Str) (P : Nat → List Int → Prop)
    (hh : A.handled = none) (hr : IsRange s.heap r a₀ b₀ d₀ t₁ u₁ v₁) (hsmall : Builtin.Range.small a₀ b₀ d₀ = true) (hn : Builtin.Range.rangeSize a₀ b₀ d₀ = (n : Int))
    (F : Fr h₀ env.locals s.heap m₀) (N : News h₀ env.locals s.heap ((wl, listOf (List.toArray []) k₀) :: rest)) (hp : P 0 [])
    (turn : ∀ (i : Nat) t ys ws k (u : Str → Option Value) h tk own, i < n → IntsAre ys ws → P i ws → OwnOff own (wl :: rest.map (·.1)) → Fr h₀ env.locals h (growFr x (.int (a₀ + (i : Int) * d₀) t) stored u m₀) → News h₀ env.locals h (((wl, listOf (List.toArray ys) k) :: rest) ++ own) →
      wpAny (model prog w) A (execs body env) (InvPostN h₀ env.locals (GrowJ wl rest x stored m₀ P (i + 1)) own (wl :: rest.map (·.1)) { s with heap := h, toks := tk } Q) E { s with heap := h, toks := tk })
    (done : ∀ ys ws k (u : Str → Option Value) h tk, IntsAre ys ws → P n ws → Fr h₀ env.locals h (growOut x stored u m₀) → News h₀ env.locals h ((wl, listOf (List.toArray ys) k) :: rest) → Q .next { s with heap := h, toks := tk }) :
    wpAny (model prog w) A (pyIter (.ref r)) (fun it s₂ => LoopAtV prog w A h₀ env x body Q E it s₂) E s := by
  refine wpAny_pyIter_range hr hsmall ?_
  have W : Walks prog w A s.heap.objs.size [s.heap.objs.size] [s.heap.objs.size] n (fun i v => i < n ∧ ∃ t, v = .int (a₀ + i * d₀) t)
      (fun i h => IsRangeIter h s.heap.objs.size (a₀ + (i : Nat) * d₀) ((n : Int) - (i : Nat)) d₀) := (Walks.range hh _ a₀ d₀ n).bound
  have off : ∀ p ∈ ((wl, listOf (List.toArray []) k₀) :: rest), p.1 ∉ [s.heap.objs.size] := fun p hp hI => absurd (Heap.lt_size (N p hp).1) ((List.mem_singleton.mp hI) ▸ Nat.lt_irrefl _)
  have frIn : ∀ (v : Value) (m₁ : Str → Option Value), (∀ z, z ≠ x → stored.contains z = false → m₁ z = m₀ z) → (fun y => if y = x then some v else m₁ y) = growFr x v stored m₁ m₀ := by
    intro v m₁ hm
    funext y
    by_cases h1 : y = x
    · rw [if_pos h1]; exact (if_pos h1).symm
    · rw [if_neg h1]
      show _ = (if y = x then _ else if stored.contains y = true then _ else _)
      rw [if_neg h1]
      cases h3 : stored.contains y with
      | true => simp
      | false => simp only [Bool.false_eq_true, if_false]; exact hm y h1 h3
  refine loop_invN (fun i m nx => GrowJ wl rest x stored m₀ P i m nx) W ?_ ?_ off off ?_ (F.push _) (fun p hp => ⟨Heap.get?_push_of_some _ (N p hp).1, (N p hp).2⟩) ⟨[], [], k₀, rfl, .nil, hp, fun _ _ _ => rfl⟩ ?_ ?_
  · intro hm
    exact absurd F.ns.lt ((List.mem_singleton.mp hm) ▸ Nat.lt_irrefl _)
  · intro b hb
    rw [List.mem_singleton.mp hb]
    exact next_is_new F
  · show IsRangeIter _ _ _ _ _
    rw [hn]; simpa using Heap.get?_push_size _ rfl
  · rintro i v m₁ nx h tk own hi ⟨_, t, rfl⟩ _ hoff ⟨ys, ws, k, rfl, hI, hP, hm⟩ F₁ N₁
    rw [frIn _ _ hm] at F₁
    exact turn i t ys ws k m₁ h tk own hi hI hP hoff F₁ N₁
  · rintro m₁ nx h tk ⟨ys, ws, k, rfl, hI, hP, hm⟩ F₁ N₁
    refine done ys ws k m₁ h tk hI hP ?_ N₁
    have e : growOut x stored m₁ m₀ = m₁ := by
      funext y
      show (if y = x then _ else if stored.contains y = true then _ else _) = _
      by_cases h1 : y = x
      · rw [if_pos h1]
      · rw [if_neg h1]
        cases h3 : stored.contains y with
        | true => simp
        | false => simp only [Bool.false_eq_true, if_false]; exact (hm y h1 h3).symm
    rw [e]; exact F₁
end
end Mine
-- BgEnum
namespace Mine
open PySem.Spec PySem.Calls PyProof.Rows.LCg
section
variable {prog : Program} {w : World} {A : Around} {E : Value → Shared → Prop} {s : Shared} {h₀ : Heap} {L : Addr} {m : Str → Option Value} {env : Env}
def ElPost (z : Int) (s : Shared) (h : Heap) (y : Value) (s' : Shared) : Prop := ∃ tz tk', y = .int z tz ∧ s' = { s with heap := h, toks := tk' }
structure EnumAt (prog : Program) (w : World) (A : Around) (h₀ : Heap) (L : Addr) (m : Str → Option Value) (env : Env) (elt : PySem.Expr) (a b : Str) (scope : Scope) (cl : List (Str × Addr)) (g : Nat → Int) (Q : Value → Shared → Prop)
    (e it ax : Addr) (nn : Nat) (vs : List Value) (news : List (Addr × Obj)) (s₁ : Shared) : Prop where
  hh : A.handled = none
  he : IsEnum s₁.heap e it 0 .none
  hit : s₁.heap.IsListIter it ax 0
  F : Fr h₀ L s₁.heap m
  N : News h₀ L s₁.heap news
  hl : (ax, listOf vs.toArray nn) ∈ news
  ne : e ≠ it
  Le : L ≠ e
  Li : L ≠ it
  e0 : h₀.get? e = none
  i0 : h₀.get? it = none
  off : ∀ p ∈ news, p.1 ≠ e ∧ p.1 ≠ it
  sz : vs.length ≤ sizeLine
  turn : ∀ (i : Nat) vi t oe C oC D ys m₂ h tk (E' : Value → Shared → Prop), vs[i]? = some vi → NsObj oC m₂ → m₂ a = some (.int (i : Nat) t) → m₂ b = some vi → Fr h₀ L h m → News h₀ L h ((e, oe) :: (C, oC) :: (D, lst ys) :: news) →
    wpAny (model prog w) A (eval elt (compEnvC scope cl C env)) (ElPost (g i) s₁ h) E' { s₁ with heap := h, toks := tk }
  fin : ∀ D h tk ys, IntsAre ys ((List.range vs.length).map g) → Fr h₀ L h m → News h₀ L h ((D, lst ys) :: news) → Off1 D news → Q (.ref D) { s₁ with heap := h, toks := tk }

theorem enum_ListComp {elt iter : PySem.Expr} {a b : Str} {pa pb tp : Pos} {kk : Nat} {scope : Scope} {cl : List (Str × Addr)} {pos : Pos} {Q : Value → Shared → Prop} (g : Nat → Int) (_F₀ : Fr h₀ L s.heap m)
    (hclos : closureFor scope env = pure cl) (hcell : ∀ y ∈ scope.names, y.2 ≠ .cell) (hkind : scope.kind = .function)
    (hnames : ∀ y ∈ scope.names, y.2 = .local → scope.names.lookup y.1 = some .local) (hxa : scope.names.lookup a = some .local) (hxb : scope.names.lookup b = some .local) (hab : ¬ a = b)
    (h : wpAny (model prog w) A (eval iter env) (fun xv s₁ => ∃ e it ax nn vs news, xv = .ref e ∧ EnumAt prog w A h₀ L m env elt a b scope cl g Q e it ax nn vs news s₁) E s)
    (hs : ∀ x, foldedSetIterable iter env x = pure x := by intro _; rfl) :
    wpAny (model prog w) A (eval (.ListComp elt [⟨.Tuple [.Name a pa, .Name b pb] kk tp, iter, [], 0⟩] scope pos) env) Q E s := by
  rw [eval_ListComp]
  refine wpAny_comprehension_free (use := none) rfl hs hclos hkind hnames (wpAny_mono h (fun xv s₁ h₁ => ?_) fun _ _ e => e)
  obtain ⟨e, it, ax, nn, vs, news, rfl, X⟩ := h₁
  refine wpAny_pyIter_enum X.he ?_
  refine wpAny_newObj_type (wpAny_newFunctionEnv hcell (by intro y hy; simp at hy) (fun h₁ hns₁ hsb₁ => ?_) hkind)
  dsimp only at hns₁ hsb₁ ⊢
  generalize hH2 : s₁.heap.push { cls := .type "list", dict := none, data := .seq ([] : List Value).toArray } = H2 at hns₁ hsb₁ ⊢
  have hC : H2.objs.size = s₁.heap.objs.size + 1 := by rw [← hH2, Heap.size_push]
  generalize hCa : H2.objs.size = C at hns₁ hsb₁ hC ⊢
  generalize hDa : s₁.heap.objs.size = D at hC ⊢
  have hDC : D ≠ C := by rw [hC]; exact Nat.ne_of_lt (Nat.lt_succ_self _)
  have below : ∀ c, c < s₁.heap.objs.size → c ≠ C ∧ c ≠ D := fun c hc => ⟨by rw [hC, ← hDa]; exact Nat.ne_of_lt (Nat.lt_succ_of_lt hc), by rw [← hDa]; exact Nat.ne_of_lt hc⟩
  have helt : e < s₁.heap.objs.size := Heap.lt_size X.he
  have hilt : it < s₁.heap.objs.size := by obtain ⟨_, x, _⟩ := X.hit; exact Heap.lt_size x
  have hLlt : L < s₁.heap.objs.size := X.F.ns.lt
  have old : ∀ c o, s₁.heap.get? c = some o → h₁.get? c = some o := fun c o q => hsb₁.extBut c o (below c (Heap.lt_size q)).1 (Heap.get?_push_of_some _ (by rw [← hH2]; exact Heap.get?_push_of_some _ q))
  have hacc : h₁.get? D = some (lst []) := hsb₁.extBut _ _ hDC (Heap.get?_push_of_some _ (by rw [← hH2, ← hDa]; exact Heap.get?_push_size _ rfl))
  have fresh₀ : ∀ c, s₁.heap.objs.size ≤ c → h₀.get? c = none := fun c hc => by
    cases q : h₀.get? c with
    | none => rfl
    | some o' => exact absurd (Heap.lt_size (X.F.keep c o' q)) (Nat.not_lt.mpr hc)
  have hD₀ : h₀.get? D = none := fresh₀ _ (Nat.le_of_eq hDa)
  have hC₀ : h₀.get? C = none := fresh₀ _ (by rw [hC, ← hDa]; exact Nat.le_succ _)
  have hDL : D ≠ L := Ne.symm (below L hLlt).2
  have hCL : C ≠ L := Ne.symm (below L hLlt).1
  have hCe : e ≠ C := (below e helt).1
  have hDe : e ≠ D := (below e helt).2
  have hCi : it ≠ C := (below it hilt).1
  have hDi : it ≠ D := (below it hilt).2
  have offN : ∀ p ∈ news, p.1 ≠ e ∧ p.1 ≠ it ∧ p.1 ≠ C ∧ p.1 ≠ D := fun p hp => ⟨(X.off p hp).1, (X.off p hp).2, (below _ (Heap.lt_size (X.N p hp).1)).1, (below _ (Heap.lt_size (X.N p hp).1)).2⟩
  have off1 : ∀ {l : List (Addr × Obj)}, (∀ p ∈ l, p ∈ news) → Off1 D l := by
    intro l
    induction l with
    | nil => intro _; exact trivial
    | cons q r ih => intro hq; exact ⟨(offN q (hq q (.head _))).2.2.2, ih fun p hp => hq p (.tail _ hp)⟩
  have hax : ∀ h : Heap, News h₀ L h news → h.IsList ax vs.toArray := fun h N => ⟨_, (N _ X.hl).1, rfl, nn, rfl⟩
  have haxe := offN _ X.hl
  have W := WalksT.enumerate (prog := prog) (w := w) X.hh e it ax X.ne haxe.1 haxe.2.1 vs.toArray
  have loop : ∀ s₃ : Shared, s₃ = { s₁ with heap := h₁, toks := s₁.toks + ([] : List (Str × Value)).length } →
      codeAny (model prog w) A (.compLoop (.ListComp elt [⟨.Tuple [.Name a pa, .Name b pb] kk tp, iter, [], 0⟩] scope pos) 0 (.ref e) (.ref D) (compEnvC scope cl C env))
        (compPost (model prog w) A E none Q (.ref D) C) s₃ := by
    rintro s₃ rfl
    refine kcp_loop
      (fun k s' => ∃ h' tk i ys m', s' = { s₁ with heap := h', toks := tk } ∧ i ≤ vs.length ∧ k = vs.length + 1 - i ∧ IntsAre ys ((List.range i).map g) ∧ (∃ old, IsEnum h' e it (i : Nat) old) ∧ h'.IsListIter it ax i ∧ Fr h₀ L h' m ∧ h'.Ns C m' ∧
        News h₀ L h' ((D, lst ys) :: news)) ?_ (vs.length + 1)
      ⟨h₁, _, 0, [], _, rfl, Nat.zero_le _, rfl, .nil, ⟨_, old _ _ X.he⟩, X.hit.at fun o q => old _ o q, X.F.keeps old, hns₁, fun p hp => ?_⟩
    · rintro k s' ⟨h', tk, i, ys, m', rfl, hi, rfl, hys, hen, hli, F', hn', N'⟩
      have Nn : News h₀ L h' news := fun p hp => N' p (.tail _ hp)
      have hyl : ys.length = i := by rw [hys.length]; simp
      by_cases hlt : i < vs.length
      · refine W.item i { s₁ with heap := h', toks := tk } _ _ (by simpa using hlt) ⟨hen, hli, hax _ Nn⟩ fun T vals h₂ tk₂ hPt _ hT hMid hk₂ => ?_
        obtain ⟨t, x, hx, rfl⟩ := hPt
        have hx' : vs[i]? = some x := by simpa using hx
        refine W.go [.Name a pa, .Name b pb] kk tp i T { s₁ with heap := h₂, toks := tk₂ } _ _ hMid fun h₃ hst₃ hk₃ => ?_
        have hT₃ : h₃.IsTuple T #[.int (i : Nat) t, x] := by
          obtain ⟨o, ho, r⟩ := hT
          exact ⟨o, hk₃ T o (W.apart _ _ _ hMid) ho, r⟩
        have up₃ : ∀ c o, c ≠ e → c ≠ it → h'.get? c = some o → h₃.get? c = some o := fun c o h1 h2 q => hk₃ c o (by simp [h1, h2]) (hk₂ c o (by simp [h1, h2]) q)
        refine kcp_assign (env := compEnvC scope cl C env) X.hh hT₃ (lookup_relabel_local hxa) (lookup_relabel_local hxb) (by simp [compEnvC, relabel, hkind]) (hn'.at' fun o q => up₃ _ o (Ne.symm hCe) (Ne.symm hCi) q) fun h₄ tk₄ hn₄ hs₄ => ?_
        have up : ∀ c o, c ≠ e → c ≠ it → c ≠ C → h'.get? c = some o → h₄.get? c = some o := fun c o h1 h2 h3 q => hs₄ c o h3 (up₃ c o h1 h2 q)
        obtain ⟨⟨old', he₃⟩, hli₃, _⟩ := hst₃
        have he₄ : IsEnum h₄ e it ((i + 1 : Nat) : Int) old' := hs₄ e _ hCe he₃
        have hli₄ : h₄.IsListIter it ax (i + 1) := hli₃.at fun o q => hs₄ it o hCi q
        obtain ⟨oC, heC, hoC⟩ := ns_obj hn₄
        have F₄ : Fr h₀ L h₄ m := ⟨F'.ns.at' fun o q => up _ o X.Le X.Li (Ne.symm hCL) q, fun c o q => up c o (fun z => by rw [z, X.e0] at q; cases q) (fun z => by rw [z, X.i0] at q; cases q) (fun z => by rw [z, hC₀] at q; cases q) (F'.keep c o q), F'.above⟩
        have N₄ : News h₀ L h₄ ((D, lst ys) :: news) := fun q hq => by
          refine ⟨up _ _ ?_ ?_ ?_ (N' q hq).1, (N' q hq).2⟩
          · rcases List.mem_cons.mp hq with rfl | hq
            · exact Ne.symm hDe
            · exact (offN q hq).1
          · rcases List.mem_cons.mp hq with rfl | hq
            · exact Ne.symm hDi
            · exact (offN q hq).2.1
          · rcases List.mem_cons.mp hq with rfl | hq
            · exact hDC
            · exact (offN q hq).2.2.1
        have N₄' : News h₀ L h₄ ((e, _) :: (C, oC) :: (D, lst ys) :: news) := fun q hq => by
          rcases List.mem_cons.mp hq with rfl | hq
          · exact ⟨he₄, Ne.symm X.Le, X.e0⟩
          rcases List.mem_cons.mp hq with rfl | hq
          · exact ⟨heC, hCL, hC₀⟩
          · exact N₄ q hq
        refine wpAny_mono (X.turn i x t _ C oC D ys _ h₄ tk₄ _ hx' hoC (by simp [hab]) (by simp) F₄ N₄') (fun y s₅ h₅ => ?_) fun _ _ q => q
        obtain ⟨tz, tk₅, rfl, rfl⟩ := h₅
        have zD := (N₄ (D, lst ys) (.head _)).1
        refine append_at (hsz := by show ys.toArray.size ≤ sizeLine; rw [List.size_toArray, hyl]; exact Nat.le_trans hi X.sz) zD fun h₆ hs₆ hD₆ => ?_
        refine ⟨vs.length + 1 - (i + 1), by omega, h₆, tk₅, i + 1, ys ++ [.int (g i) tz], _, rfl, hlt, rfl, ?_, ⟨_, (hs₆.2 e hDe).trans he₄⟩, hli₄.at fun o q => (hs₆.2 it hDi).trans q, F₄.change hs₆ hDL hD₀, (hoC.ns heC).sameBut hs₆ (Ne.symm hDC), fun q hq => ?_⟩
        · rw [List.range_succ, List.map_append]
          exact hys.append (IntsAre.cons _ _ .nil)
        rcases List.mem_cons.mp hq with rfl | hq
        · exact ⟨hD₆.trans (congrArg some (lst_snoc ys _)), hDL, hD₀⟩
        · exact ⟨hs₆.extBut _ _ (offN q hq).2.2.2 (N₄ q (.tail _ hq)).1, (N₄ q (.tail _ hq)).2⟩
      · have hin : i = vs.length := Nat.le_antisymm hi (Nat.not_lt.mp hlt)
        subst hin
        refine W.done { s₁ with heap := h', toks := tk } _ _ (by rw [List.size_toArray]; exact ⟨hen, hli, hax _ Nn⟩) fun h₂ tk₂ hk₂ => ?_
        have up₂ : ∀ c o, c ≠ e → c ≠ it → h'.get? c = some o → h₂.get? c = some o := fun c o h1 h2 q => hk₂ c o (by simp [h1, h2]) q
        have F₂ : Fr h₀ L h₂ m := ⟨F'.ns.at' fun o q => up₂ _ o X.Le X.Li q, fun c o q => up₂ c o (fun z => by rw [z, X.e0] at q; cases q) (fun z => by rw [z, X.i0] at q; cases q) (F'.keep c o q), F'.above⟩
        have N₂ : News h₀ L h₂ ((D, lst ys) :: news) := fun q hq => by
          refine ⟨up₂ _ _ ?_ ?_ (N' q hq).1, (N' q hq).2⟩
          · rcases List.mem_cons.mp hq with rfl | hq
            · exact Ne.symm hDe
            · exact (offN q hq).1
          · rcases List.mem_cons.mp hq with rfl | hq
            · exact Ne.symm hDi
            · exact (offN q hq).2.1
        refine ⟨_, hn'.at' fun o q => up₂ _ o (Ne.symm hCe) (Ne.symm hCi) q, fun h'' hs'' => X.fin D h'' tk₂ ys hys (F₂.change hs'' hCL hC₀) (fun p hp => ?_) (off1 fun p hp => hp)⟩
        refine ⟨hs''.extBut _ _ ?_ (N₂ p hp).1, (N₂ p hp).2⟩
        rcases List.mem_cons.mp hp with rfl | hp
        · exact hDC
        · exact (offN p hp).2.2.1
    · rcases List.mem_cons.mp hp with rfl | hp
      · exact ⟨hacc, hDL, hD₀⟩
      · exact ⟨old _ _ (X.N p hp).1, (X.N p hp).2⟩
  exact codeAny_compStart_list (loop _ rfl) (wpAny_pyIter_enum (old _ _ X.he) (loop _ rfl))
theorem enum_call {elt : PySem.Expr} {a b : Str} {scope : Scope} {cl : List (Str × Addr)} {g : Nat → Int} {Q : Value → Shared → Prop} {ax : Addr} {nn : Nat} {vs : List Value} {news : List (Addr × Obj)}
    (hh : A.handled = none) (F : Fr h₀ L s.heap m) (N : News h₀ L s.heap news) (hl : (ax, listOf vs.toArray nn) ∈ news) (sz : vs.length ≤ sizeLine)
    (turn : ∀ (i : Nat) vi t e oe C oC D ys m₂ h tk (E' : Value → Shared → Prop), vs[i]? = some vi → NsObj oC m₂ → m₂ a = some (.int (i : Nat) t) → m₂ b = some vi → Fr h₀ L h m → News h₀ L h ((e, oe) :: (C, oC) :: (D, lst ys) :: news) →
      wpAny (model prog w) A (eval elt (compEnvC scope cl C env)) (ElPost (g i) s h) E' { s with heap := h, toks := tk })
    (fin : ∀ D h tk ys, IntsAre ys ((List.range vs.length).map g) → Fr h₀ L h m → News h₀ L h ((D, lst ys) :: news) → Off1 D news → Q (.ref D) { s with heap := h, toks := tk }) :
    wpAny (model prog w) A (call (.type "enumerate") [.ref ax]) (fun xv s₁ => ∃ e it ax nn vs news, xv = .ref e ∧ EnumAt prog w A h₀ L m env elt a b scope cl g Q e it ax nn vs news s₁) E s := by
  have hlist : s.heap.IsList ax vs.toArray := ⟨_, (N _ hl).1, rfl, nn, rfl⟩
  have fresh : ∀ c, s.heap.objs.size ≤ c → h₀.get? c = none := fun c hc => by
    cases q : h₀.get? c with
    | none => rfl
    | some o' => exact absurd (Heap.lt_size (F.keep c o' q)) (Nat.not_lt.mpr hc)
  have hL : L < s.heap.objs.size := F.ns.lt
  refine call_enumerate_list hlist fun h' hE hI hsz hk => ⟨s.heap.objs.size + 1, s.heap.objs.size, ax, nn, vs, news, rfl, ?_⟩
  exact { hh := hh, he := hE, hit := hI, F := F.keeps hk, N := N.grown hk, hl := hl, ne := Nat.succ_ne_self _, Le := Nat.ne_of_lt (Nat.lt_succ_of_lt hL), Li := Nat.ne_of_lt hL,
          e0 := fresh _ (Nat.le_succ _), i0 := fresh _ (Nat.le_refl _), off := fun p hp => ⟨Nat.ne_of_lt (Nat.lt_succ_of_lt (Heap.lt_size (N p hp).1)), Nat.ne_of_lt (Heap.lt_size (N p hp).1)⟩, sz := sz,
          turn := fun i vi t oe C oC D ys m₂ h tk E' h1 h2 h3 h4 h5 h6 => turn i vi t _ oe C oC D ys m₂ h tk E' h1 h2 h3 h4 h5 h6, fin := fin }
end
end Mine
-- BgTurn
namespace Mine
open PySem.Spec PySem.Calls
theorem bitsVal_snoc (l : List Nat) (d : Nat) : bitsVal (l ++ [d]) = bitsVal l * 2 + d := by
  unfold bitsVal
  rw [List.foldl_append]
  rfl
theorem sum_high (f : Nat → Nat) : ∀ n : Nat, ((List.range n).map fun k => f k * 2 ^ (n - 1 - k)).sum = bitsVal ((List.range n).map f)
  | 0 => rfl
  | n + 1 => by
    rw [List.range_succ, List.map_append, List.map_append, List.sum_append, List.map_cons, List.map_nil, List.map_cons, List.map_nil, bitsVal_snoc, ← sum_high f n]
    have e : ((List.range n).map fun k => f k * 2 ^ (n + 1 - 1 - k)) = ((List.range n).map fun k => f k * 2 ^ (n - 1 - k)).map (· * 2) := by
      rw [List.map_map]
      apply List.map_congr_left
      intro k hk
      have := List.mem_range.mp hk
      show f k * 2 ^ (n + 1 - 1 - k) = f k * 2 ^ (n - 1 - k) * 2
      rw [show n + 1 - 1 - k = (n - 1 - k) + 1 by omega, Nat.pow_succ, Nat.mul_assoc]
    have es : ∀ l : List Nat, (l.map (· * 2)).sum = l.sum * 2 := by
      intro l
      induction l with
      | nil => rfl
      | cons a r ih => rw [List.map_cons, List.sum_cons, List.sum_cons, ih]; omega
    rw [e, es]
    simp
theorem cast_sum (l : List Nat) : (l.map fun (x : Nat) => (x : Int)).sum = ((l.sum : Nat) : Int) := by
  induction l with
  | nil => rfl
  | cons a r ih => rw [List.map_cons, List.sum_cons, List.sum_cons, ih]; omega
theorem cast_pow2 (k : Nat) : ((2 ^ k : Nat) : Int) = (2 : Int) ^ k := kbt_cast k
theorem bit_cast (w k : Nat) : Builtin.bitAnd (((w : Nat) : Int).fdiv (2 ^ k)) 1 = (((w >>> k) % 2 : Nat) : Int) := by
  have h := kbt_mask (((w : Nat) : Int).fdiv (2 ^ k)) 1
  rw [show ((2 : Int) ^ 1 - 1) = 1 by decide] at h
  rw [h, Int.fdiv_eq_ediv_of_nonneg _ (Int.le_of_lt (kbt_pos k)), Nat.shiftRight_eq_div_pow, Int.natCast_emod, Int.natCast_ediv, cast_pow2]
  rfl
theorem and_one_small (x : Int) : (Builtin.bitAnd x 1).natAbs < 2 ^ 64 := by
  have h := kbt_mask x 1
  rw [show ((2 : Int) ^ 1 - 1) = 1 by decide] at h
  rw [h]
  omega
theorem turn_sum (w n : Nat) (f : Int → Int) (hf : ∀ k : Nat, k < n → f (k : Int) = Builtin.bitAnd ((w : Int).fdiv (2 ^ k)) 1 * 2 ^ (n - 1 - k)) :
    ((rangeKs 0 n).map f).sum = (revN n w : Int) := by
  unfold revN lowBits
  rw [← sum_high, ← cast_sum]
  unfold rangeKs
  rw [List.map_map, List.map_map]
  congr 1
  apply List.map_congr_left
  intro k hk
  have hk := List.mem_range.mp hk
  show f (0 + (k : Int)) = (((w >>> k) % 2 * 2 ^ (n - 1 - k) : Nat) : Int)
  rw [Int.zero_add, hf k hk, bit_cast, Int.natCast_mul, cast_pow2]
def TurnTells (prog : Program) (w : World) (K : Frag) (p : Program) (loose : List Str) (mean : ExcName → Option Value) (mg mb : Str → Option Value) : Prop :=
  ∀ (dp un : Nat) (gd : Option (List Code)) (cn : Str) (cs : Scope) (a : Addr) (ccd : Value) (cl : List (Str × Addr)) (outer : List Env) (A₀ : Around) (base h₀ : Heap) (L : Addr) (m : Str → Option Value) (news : List (Addr × Obj)) (s : Shared)
    (word n : Nat) (wi ni : Int) (t1 t2 : Tok) (Q E : Value → Shared → Prop),
    Below A₀ base outer h₀ → Fr h₀ L s.heap m → K.In h₀ → News h₀ L s.heap news → Top p loose mean mg mb h₀ → cs.kind = .function →
    wi = (word : Int) → ni = (n : Int) → 1 ≤ n → n ≤ 16 → word < 2 ^ n → dp + 1 < recursionLimit → un + 8 < cLine →
    (∀ t h' tk', Fr h₀ L h' m → News h₀ L h' news → Q (.int (revN n word : Nat) t) { s with heap := h', toks := tk' }) →
    wpAny (model prog w) (ktrTop dp un gd cn cs L a ccd cl outer) (call (.ref 155) [.int wi t1, .int ni t2]) Q E s

local macro_rules | `(tactic| walk_at "binaryOp LShift int int") => `(tactic| (refine lshift_int_small (by omega) (by omega) (and_one_small _) ?_))
theorem turn_tells {prog : Program} {w : World} {loose : List Str} {mean : ExcName → Option Value} {mg mb : Str → Option Value} : TurnTells prog w (hd.heap_39 w.params) hd.view_39 loose mean mg mb := by
  w_top off
  unfold TurnTells
  intro dp un gd cn cs a ccd cl outer A₀ base h₀ L m news s word n wi ni t1 t2 Q E B F X N T hk hwi hni hn1 hn2 hw1 hd hu hret
  have b0 : 0 ≤ wi := by omega
  have b1 : wi < 65536 := by
    have : 2 ^ n ≤ 2 ^ 16 := Nat.pow_le_pow_right (by omega) hn2
    omega
  have b2 : 1 ≤ ni := by omega
  have b3 : ni ≤ 16 := by omega
  refine wpAny_call ?_
  k_dflt (refine' code_defC ?k1 ?k2 ?k3 ?k4 ?k5 ?kA ?kF ?kK ?k6 ?k7 ?k8 ?k9 ?kB ?kD ?_ ?c2 ?c3 ?c4; (case kA => exact rfl); (case kF => exact rfl); (case kK => assumption); (case k1 => k_asm); (case k2 => k_asm); (case k3 => k_asm); (case k4 => k_asm); (case k5 => k_asm); (case k6 => k_is); (case k7 => k_is); (case k8 => ktr_room); (case k9 => exact BindsTo.of_eq rfl); (case kB => exact rfl); (case kD => decide +kernel); (case c2 => exact rfl); (case c3 => exact rfl); (case c4 => exact rfl); k_whole; intro g' L' h' tk' cells' FG' F' N' Y' B' X' T' l1; (try k_lt l1); k_cells Y'; (try simp only [List.cons_append, List.nil_append] at N'); (try dsimp only); (try k_lift B'); (try k_fold))
  k_steps
  subst hwi hni
  rw [Int.sub_zero, Int.toNat_natCast, turn_sum word n _ (fun k hk => by rw [show ((n : Int) - 1 - (k : Int)).toNat = n - 1 - k by omega, Int.toNat_natCast])]
  exact hret _ _ _ (by assumption) (kst_newsOf (by assumption) (fun p hp => .tail _ (.tail _ (.tail _ hp))))
end Mine
-- BgWords
namespace Mine
open PySem.Spec PySem.Calls
def chunkVal (low : Bool) (row : List Nat) : Nat := if low then bitsVal row.reverse else bitsVal row
theorem range_chunks {q dn : Nat} (h : 1 ≤ dn) : Builtin.Range.rangeSize 0 ((q * dn : Nat) : Int) (dn : Int) = (q : Int) := by
  unfold Builtin.Range.rangeSize
  rw [if_pos (by omega)]
  by_cases h0 : q = 0
  · subst h0
    simp
  · have h1 : 1 * dn ≤ q * dn := Nat.mul_le_mul_right dn (by omega)
    rw [if_pos (by omega)]
    have e : ((q * dn : Nat) : Int) - 0 - 1 = (dn - 1 : Int) + ((q : Int) - 1) * dn := by
      rw [Int.sub_mul, Int.natCast_mul]; omega
    rw [e, Int.add_mul_ediv_right _ _ (by omega), Int.ediv_eq_zero_of_lt (by omega) (by omega)]
    omega
theorem range_small {n dn : Nat} (h : n ≤ 128) (h1 : dn ≤ 16) : Builtin.Range.small 0 (n : Int) (dn : Int) = true := by
  unfold Builtin.Range.small
  by_cases h0 : dn = 0
  · subst h0
    have e : Builtin.Range.rangeSize 0 (n : Int) ((0 : Nat) : Int) = 0 := by
      unfold Builtin.Range.rangeSize
      rw [if_neg (by omega), if_neg (by omega)]
    rw [e]
    simp [Builtin.Range.rangeFitsLong]
    omega
  · have e : Builtin.Range.rangeSize 0 (n : Int) (dn : Int) ≤ n ∧ 0 ≤ Builtin.Range.rangeSize 0 (n : Int) (dn : Int) := by
      unfold Builtin.Range.rangeSize
      rw [if_pos (by omega)]
      split
      · have := Int.ediv_le_self (a := (n : Int) - 0 - 1) (dn : Int) (by omega)
        have := Int.ediv_nonneg (a := (n : Int) - 0 - 1) (b := (dn : Int)) (by omega) (by omega)
        omega
      · omega
    generalize Builtin.Range.rangeSize 0 (n : Int) (dn : Int) = z at e
    have e2 : (0 : Int) - dn = -dn := by omega
    simp [Builtin.Range.rangeFitsLong]
    refine ⟨by omega, .inr ?_⟩
    rw [if_pos (by omega)]
    omega
theorem slice_run {vs : List Value} {ns : List Int} {a d : Nat} (hi : IntsAre vs ns) (h : a + d ≤ ns.length) : IntsAre (slicePick vs.toArray (some (a : Int)) (some ((a : Int) + (d : Int))) none).toList ((ns.drop a).take d) := by
  have q := kmk_run (x := (a : Int)) (y := (a : Int) + (d : Int)) hi (by omega) (by omega)
  rw [show ((a : Int)).toNat = a by omega, show ((a : Int) + (d : Int)).toNat = a + d by omega, show min (a + d) ns.length - a = d by omega] at q
  exact q
theorem ints_nat_get {ws : List Value} {row : List Nat} {j : Nat} {vj : Value} (h : IntsAre ws (row.map fun (b : Nat) => (b : Int))) (hj : ws[j]? = some vj) : j < row.length ∧ ∃ t, vj = .int ((row.getD j 0 : Nat) : Int) t := by
  have hl : ws.length = row.length := by rw [h.length, List.length_map]
  obtain ⟨hlt, _⟩ := List.getElem?_eq_some_iff.mp hj
  have hjr : j < row.length := by omega
  obtain ⟨t, ht⟩ := h.get j ((row[j] : Nat) : Int) (by rw [List.getElem?_map, List.getElem?_eq_getElem hjr]; rfl)
  rw [hj] at ht
  refine ⟨hjr, t, ?_⟩
  rw [Option.some.inj ht]
  simp [List.getD, hjr]
theorem bitsVal_cons (d : Nat) (l : List Nat) : bitsVal (d :: l) = d * 2 ^ l.length + bitsVal l := by
  have go : ∀ (l : List Nat) (a : Nat), l.foldl (fun acc d => acc * 2 + d) a = a * 2 ^ l.length + l.foldl (fun acc d => acc * 2 + d) 0 := by
    intro l
    induction l with
    | nil => intro a; simp
    | cons c r ih =>
      intro a
      rw [List.foldl_cons, List.foldl_cons, ih (a * 2 + c), ih (0 * 2 + c), List.length_cons, Nat.pow_succ, Nat.add_mul, Nat.zero_mul, Nat.zero_add]
      have : a * 2 * 2 ^ r.length = a * (2 ^ r.length * 2) := by rw [Nat.mul_assoc, Nat.mul_comm 2]
      omega
  unfold bitsVal
  rw [List.foldl_cons, go l (0 * 2 + d)]
  simp
theorem sum_low (f : Nat → Nat) : ∀ n : Nat, ((List.range n).map fun k => f k * 2 ^ k).sum = bitsVal ((List.range n).map f).reverse
  | 0 => rfl
  | n + 1 => by
    rw [List.range_succ, List.map_append, List.map_append, List.sum_append, sum_low f n, List.reverse_append, List.map_cons, List.map_nil, List.map_cons, List.map_nil, List.reverse_singleton, List.singleton_append, bitsVal_cons]
    simp
    omega
theorem range_getD {row : List Nat} {n : Nat} (h : row.length = n) : ((List.range n).map fun j => row.getD j 0) = row := by
  apply List.ext_getElem
  · simp [h]
  · intro j h1 h2
    simp [List.getD, h2]
theorem chunk_sum {row : List Nat} {n : Nat} {low : Bool} (h : row.length = n) :
    ((List.range n).map fun j => ((row.getD j 0 * 2 ^ (if low then j else n - 1 - j) : Nat) : Int)).sum = ((chunkVal low row : Nat) : Int) := by
  have e := cast_sum ((List.range n).map fun j => row.getD j 0 * 2 ^ (if low then j else n - 1 - j))
  rw [List.map_map] at e
  refine Eq.trans e ?_
  congr 1
  unfold chunkVal
  cases low with
  | true =>
    simp only [if_true]
    rw [sum_low (fun j => row.getD j 0), range_getD h]
  | false =>
    simp only [Bool.false_eq_true, if_false]
    rw [sum_high (fun j => row.getD j 0), range_getD h]
theorem news_drop2b {h₀ h : Heap} {L : Addr} {a c d : Addr × Obj} {l : List (Addr × Obj)} (N : News h₀ L h (a :: c :: d :: l)) : News h₀ L h (a :: l) := by
  intro p hp
  rcases List.mem_cons.mp hp with rfl | hp
  · exact N _ (.head _)
  · exact N _ (.tail _ (.tail _ (.tail _ hp)))
def WordsTells (prog : Program) (w : World) (K : Frag) (p : Program) (loose : List Str) (mean : ExcName → Option Value) (mg mb : Str → Option Value) : Prop :=
  ∀ (cn : Str) (nm : List (Str × NameKind)) (ig ic : Bool) (mo : List (Str × Const)) (a : Addr) (ccd : Value) (cl : List (Str × Addr)) (base h₀ : Heap) (L : Addr) (m : Str → Option Value) (news : List (Addr × Obj)) (s : Shared)
    (bl : Addr) (D : Int) (low : Bool) (t1 : Tok) (vs : List Value) (ns : List Int) (nn : Nat) (bits : List Nat) (q dn : Nat) (Q E : Value → Shared → Prop),
    Below callerA base [] h₀ → Fr h₀ L s.heap m → K.In h₀ → News h₀ L s.heap ((bl, listOf vs.toArray nn) :: news) → Top p loose mean mg mb h₀ →
    IntsAre vs ns → ns = bits.map (fun (b : Nat) => (b : Int)) → (∀ b ∈ bits, b < 2) → bits.length = q * dn → q ≤ 16 → D = dn → 1 ≤ dn → dn ≤ 8 →
    (∀ lw ys ws k h' tk', IntsAre ys ws → ws = ((List.range q).map fun j => ((chunkVal low ((bits.drop (j * dn)).take dn) : Nat) : Int)) → Fr h₀ L h' m → News h₀ L h' ((lw, listOf (List.toArray ys) k) :: (bl, listOf vs.toArray nn) :: news) → @LT.lt Nat _ bl lw → (∀ p ∈ news, p.1 < lw) → Q (.ref lw) { s with heap := h', toks := tk' }) →
    wpAny (model prog w) (callerA.deeper (envX cn { kind := .function, names := nm, isGenerator := ig, isCoroutine := ic, more := mo } L a ccd cl)) (call (.ref 160) [.ref bl, .int D t1, .bool low]) Q E s
local macro_rules | `(tactic| walk_at "exec For Name Call cons nil") => `(tactic| ((rename Fr _ _ _ _ => lF'); (with_unfolding_all refine' For_invVF lF' ?k1 ?k2 ?_; (case k1 => exact rfl); (case k2 => exact rfl); k_whole)))
local macro_rules | `(tactic| walk_at "pyIter ref") => `(tactic| refine Stop.intro ?_)
local macro_rules | `(tactic| walk_at "InvEndN") => `(tactic| refine Stop.intro ?_)
local macro_rules | `(tactic| walk_at "binaryOp LShift int int") => `(tactic| (refine lshift_int_small (by omega) (by omega) (by omega) ?_))
local macro_rules | `(tactic| k_ne) => `(tactic| first | exact neN (Ne.symm (off1_mem (by assumption) (_, _) (by k_mem))) | exact neN (off1_mem (by assumption) (_, _) (by k_mem)) | fail "off")
local macro_rules | `(tactic| walk_at "call type:enumerate") => `(tactic| refine Stop.intro ?_)
local macro_rules | `(tactic| walk_at "subscriptTail Name Slice ref ref") => `(tactic| refine Stop.intro ?_)
local macro_rules | `(tactic| walk_at "eval ListComp") => `(tactic| refine Stop.intro ?_)
theorem words_tells {prog : Program} {w : World} {loose : List Str} {mean : ExcName → Option Value} {mg mb : Str → Option Value} : WordsTells prog w (hd.heap_39 w.params) hd.view_39 loose mean mg mb := by
  w_top off
  unfold WordsTells
  intro cn nm ig ic mo a ccd cl base h₀ L m news s bl D low t1 vs ns nn bits q dn Q E B F XX N T hi hns hbits hlen hq hD hd1 hd8 hret
  subst hD
  have hnl : ns.length = q * dn := by rw [hns, List.length_map, hlen]
  have hq8 : q * dn ≤ 128 := Nat.mul_le_mul hq hd8
  have hle : q * dn ≤ q * 8 := Nat.mul_le_mul_left q hd8
  k_steps
  refine Stop.mk ?_
  rename Fr _ _ _ _ => FF
  rename News _ _ _ _ => NN
  rename IsRange _ _ _ _ _ _ _ _ => RR
  rw [hnl] at RR
  k_dflt (refine' grow_range (n := q) [Str.ofString "row"] (fun i ws => ws = (List.range i).map fun j => ((chunkVal low ((bits.drop (j * dn)).take dn) : Nat) : Int)) ?hh RR ?hsm ?hn FF NN ?hp ?_ ?_)
  case hh => exact rfl
  case hsm => exact range_small hq8 (by omega)
  case hn => exact range_chunks hd1
  case hp => rfl
  · intro i ti ys ws k u1 hp1 tk1 own1 hiq hys hws hoff F1 N1
    have hi1 : (i + 1) * dn ≤ q * dn := Nat.mul_le_mul_right dn hiq
    have e0 : (0 : Int) + (i : Int) * (dn : Int) = ((i * dn : Nat) : Int) := by rw [Int.natCast_mul]; omega
    rw [e0] at F1
    have hi2 : i * dn + dn ≤ q * dn := by rw [← Nat.succ_mul]; exact hi1
    clear FF NN
    try simp only [List.cons_append] at N1
    have hrow : (ns.drop (i * dn)).take dn = ((bits.drop (i * dn)).take dn).map fun (b : Nat) => (b : Int) := by rw [hns, List.map_take, List.map_drop]
    have hMk9 : KstMark := kstMark
    have hyl : ys.length = i := by rw [hys.length, hws]; simp
    have hi16 : i < 16 := by omega
    try k_fold
    k_steps
    refine Stop.mk ?_
    k_dflt (refine' kmk_slice_ints (ms := (ns.drop (i * dn)).take dn) (c := dn) ?sF ?sN ?sl ?sp ?sq hi ?sm ?sc ?_ ?ss ?st ?sz; (case sF => k_asm); (case sN => k_asm); (case sl => kmk_list); (case sp => kmk_part); (case sq => kmk_part); (case sm => exact slice_run hi (by rw [hnl]; exact hi2)); (case sc => (rw [List.length_take, List.length_drop, hnl]; omega)); (case ss => with_unfolding_all rfl); (case st => kmk_pure); (case sz => kmk_size))
    intro D9 ws9 h9 F9 N9 l9 hI9 hC9 hL9
    (try k_lt l9)
    (try k_sweep)
    k_steps
    refine Stop.mk ?_
    k_dflt (refine' enum_ListComp (fun j => ((((bits.drop (i * dn)).take dn).getD j 0 * 2 ^ (if low then j else dn - 1 - j) : Nat) : Int)) ?c0 ?c1 ?c2 ?c3 ?c4 ?c5 ?c6 ?c7 ?_; (case c0 => k_asm); (case c1 => exact rfl); (case c2 => decide); (case c3 => exact rfl); (case c4 => decide); (case c5 => exact rfl); (case c6 => exact rfl); (case c7 => decide))
    k_steps
    refine Stop.mk ?_
    k_dflt (refine' enum_call (ax := D9) ?d1 ?d2 ?d3 ?d4 ?d5 ?_ ?_)
    case d1 => exact rfl
    case d2 => k_asm
    case d3 => k_asm
    case d4 => k_mem
    case d5 => (rw [hI9.length, hC9, sizeLine_eq]; omega)
    · intro j vj tj e9 oe9 C9 oC9 DD9 ys9 m9 hh9 tkk9 E9 hvj hNs ha9 hb9 FF9 NN9
      try k_fold
      obtain ⟨hjr, tv, rfl⟩ := ints_nat_get (hrow ▸ hI9) hvj
      have hjd : j < dn := Nat.lt_of_lt_of_le hjr (by rw [List.length_take]; omega)
      have hb2 : ((bits.drop (i * dn)).take dn).getD j 0 < 2 := by
        rw [show ((bits.drop (i * dn)).take dn).getD j 0 = ((bits.drop (i * dn)).take dn)[j] by rw [List.getD_eq_getElem?_getD, List.getElem?_eq_getElem hjr]; rfl]
        exact hbits _ (List.mem_of_mem_drop (List.mem_of_mem_take (List.getElem_mem hjr)))
      k_steps
      · rename low = true => hlow
        (try k_unfold)
        refine ⟨_, _, congrArg (fun z => Value.int z _) ?_, rfl⟩
        rw [hlow, Int.toNat_natCast, Int.natCast_mul, cast_pow2]
        rfl
      · rename low = false => hlow
        (try k_unfold)
        refine ⟨_, _, congrArg (fun z => Value.int z _) ?_, rfl⟩
        rw [hlow, show ((dn : Int) - 1 - (j : Int)).toNat = dn - 1 - j by omega, Int.natCast_mul, cast_pow2]
        rfl
    · intro DD9 hh9 tkk9 ys9 hys9 FF9 NN9 off9
      try k_fold
      k_steps
      refine Stop.mk ?_
      rename Fr _ _ _ _ => FE
      rename News _ _ _ _ => NE
      simp only [List.push_toArray] at NE
      have hrl : ((bits.drop (i * dn)).take dn).length = dn := by rw [List.length_take, List.length_drop]; omega
      have hwl : ws9.length = dn := by rw [hI9.length, hC9]
      rw [hwl, chunk_sum hrl] at NE
      refine' grow_end (ws := ws ++ [((chunkVal low ((bits.drop (i * dn)).take dn) : Nat) : Int)]) (k := k + 1) FE NE ?w1 ?w2 ?w3 rfl (hys.append (IntsAre.cons _ _ .nil)) ?w4 (fun z h1 h3 => ?w5)
      case w1 => k_mem
      case w2 => first | kst_in | kst_inAny
      case w3 => first | (intro p hp; kst_mem) | kst_anyIn
      case w4 => rw [hws, List.range_succ, List.map_append]; rfl
      case w5 =>
        have h4 : z ≠ Str.ofString "row" := by
          intro e
          subst e
          exact absurd h3 (by decide)
        (try dsimp only)
        rw [if_neg h4]
        exact growFr_same h1 h3
  · intro ys ws k u1 hp1 tk1 hys hws F1 N1
    try k_fold
    k_steps
    exact hret _ _ _ _ _ _ hys hws (by assumption) (news_drop2b (by assumption)) (by rename _ ∧ _ ∧ _ ∧ AllLt _ _ => hB; exact hB.2.2.1) (by rename _ ∧ _ ∧ _ ∧ AllLt _ _ => hB; exact kst_ltOf hB.2.2.2)
end Mine
-- BgMade
namespace Mine
open PySem.Spec PySem.Calls
theorem news_drop2 {h₀ h : Heap} {L : Addr} {a b c d : Addr × Obj} {l : List (Addr × Obj)} (N : News h₀ L h (a :: b :: c :: d :: l)) : News h₀ L h (a :: b :: l) := by
  intro p hp
  rcases List.mem_cons.mp hp with rfl | hp
  · exact N _ (.head _)
  rcases List.mem_cons.mp hp with rfl | hp
  · exact N _ (.tail _ (.head _))
  · exact N _ (.tail _ (.tail _ (.tail _ (.tail _ hp))))
def AlgTells (prog : Program) (w : World) (K : Frag) (p : Program) (loose : List Str) (mean : ExcName → Option Value) (mg mb : Str → Option Value) : Prop :=
  ∀ (cn : Str) (nm : List (Str × NameKind)) (ig ic : Bool) (mo : List (Str × Const)) (a : Addr) (ccd : Value) (cl : List (Str × Addr)) (base h₀ : Heap) (L : Addr) (m : Str → Option Value) (news : List (Addr × Obj)) (s : Shared)
    (W P I X : Int) (b1 b2 : Bool) (t1 t2 t3 t6 : Tok) (Q E : Value → Shared → Prop),
    Below callerA base [] h₀ → Fr h₀ L s.heap m → K.In h₀ → News h₀ L s.heap news → Top p loose mean mg mb h₀ → 
    1 ≤ W → W ≤ 16 → 0 ≤ P → P < 2 ^ W.toNat → 0 ≤ I → I < 2 ^ W.toNat → 0 ≤ X → X < 2 ^ W.toNat →
    (∀ x d k1 k2 k3 k4 k5 k6 h' tk', Fr h₀ L h' m → News h₀ L h' ((x, instObj 71 d) :: (d, dictOf [⟨PyData.keyHash w.params (Str.ofString "crc_width"), .str (Str.ofString "crc_width") k1, .int W t1⟩, ⟨PyData.keyHash w.params (Str.ofString "polynomial"), .str (Str.ofString "polynomial") k2, .int P t2⟩, ⟨PyData.keyHash w.params (Str.ofString "initial_crc"), .str (Str.ofString "initial_crc") k3, .int I t3⟩, ⟨PyData.keyHash w.params (Str.ofString "reflect_input"), .str (Str.ofString "reflect_input") k4, .bool b1⟩, ⟨PyData.keyHash w.params (Str.ofString "reflect_output"), .str (Str.ofString "reflect_output") k5, .bool b2⟩, ⟨PyData.keyHash w.params (Str.ofString "xor_output"), .str (Str.ofString "xor_output") k6, .int X t6⟩] 6) :: news) → (∀ p ∈ news, p.1 < d) → @LT.lt Nat _ d x → Q (.ref x) { s with heap := h', toks := tk' }) →
    wpAny (model prog w) (callerA.deeper (envX cn { kind := .function, names := nm, isGenerator := ig, isCoroutine := ic, more := mo } L a ccd cl)) (call (.ref 71) [] [(Str.ofString "crc_width", .int W t1), (Str.ofString "polynomial", .int P t2), (Str.ofString "initial_crc", .int I t3), (Str.ofString "reflect_input", .bool b1), (Str.ofString "reflect_output", .bool b2), (Str.ofString "xor_output", .int X t6)]) Q E s
local macro_rules | `(tactic| walk_at "call builtin:_operator.index") => `(tactic| refine call_index ?_)
local macro_rules | `(tactic| walk_at "compareOp NotIn int ref") => `(tactic| refine notin_range (by assumption) (by assumption) (by assumption) ?_)
theorem alg_tells {prog : Program} {w : World} {loose : List Str} {mean : ExcName → Option Value} {mg mb : Str → Option Value} : AlgTells prog w (hd.heap_39 w.params) hd.view_39 loose mean mg mb := by
  w_top off
  unfold AlgTells
  intro cn nm ig ic mo a ccd cl base h₀ L m news s W P I X b1 b2 t1 t2 t3 t6 Q E B F XX N T hW1 hW2 hP0 hP1 hI0 hI1 hX0 hX1 hret
  k_steps
  exact hret _ _ _ _ _ _ _ _ _ _ (by assumption) (by assumption) (by assumption) (by assumption)

def ParTells (prog : Program) (w : World) (K : Frag) (p : Program) (loose : List Str) (mean : ExcName → Option Value) (mg mb : Str → Option Value) : Prop :=
  ∀ (cn : Str) (nm : List (Str × NameKind)) (ig ic : Bool) (mo : List (Str × Const)) (a : Addr) (ccd : Value) (cl : List (Str × Addr)) (base h₀ : Heap) (L : Addr) (m : Str → Option Value) (news : List (Addr × Obj)) (s : Shared)
    (x d : Addr) (k1 k2 k3 k4 k5 k6 : Tok) (W P I X D : Int) (b1 b2 : Bool) (t1 t2 t3 t6 t7 : Tok) (Q E : Value → Shared → Prop),
    Below callerA base [] h₀ → Fr h₀ L s.heap m → K.In h₀ → News h₀ L s.heap ((x, instObj 71 d) :: (d, dictOf [⟨PyData.keyHash w.params (Str.ofString "crc_width"), .str (Str.ofString "crc_width") k1, .int W t1⟩, ⟨PyData.keyHash w.params (Str.ofString "polynomial"), .str (Str.ofString "polynomial") k2, .int P t2⟩, ⟨PyData.keyHash w.params (Str.ofString "initial_crc"), .str (Str.ofString "initial_crc") k3, .int I t3⟩, ⟨PyData.keyHash w.params (Str.ofString "reflect_input"), .str (Str.ofString "reflect_input") k4, .bool b1⟩, ⟨PyData.keyHash w.params (Str.ofString "reflect_output"), .str (Str.ofString "reflect_output") k5, .bool b2⟩, ⟨PyData.keyHash w.params (Str.ofString "xor_output"), .str (Str.ofString "xor_output") k6, .int X t6⟩] 6) :: news) → Top p loose mean mg mb h₀ →
    (∀ p ∈ news, p.1 < d) → @LT.lt Nat _ d x → 1 ≤ D → D ≤ 8 →
    (∀ x' d' j1 j2 j3 j4 j5 j6 j7 h' tk', Fr h₀ L h' m → News h₀ L h' ((x', instObj 139 d') :: (d', dictOf [⟨PyData.keyHash w.params (Str.ofString "_crc_width"), .str (Str.ofString "_crc_width") j1, .int W t1⟩, ⟨PyData.keyHash w.params (Str.ofString "_polynomial"), .str (Str.ofString "_polynomial") j2, .int P t2⟩, ⟨PyData.keyHash w.params (Str.ofString "_initial_crc"), .str (Str.ofString "_initial_crc") j3, .int I t3⟩, ⟨PyData.keyHash w.params (Str.ofString "_reflect_input"), .str (Str.ofString "_reflect_input") j4, .bool b1⟩, ⟨PyData.keyHash w.params (Str.ofString "_reflect_output"), .str (Str.ofString "_reflect_output") j5, .bool b2⟩, ⟨PyData.keyHash w.params (Str.ofString "_xor_output"), .str (Str.ofString "_xor_output") j6, .int X t6⟩, ⟨PyData.keyHash w.params (Str.ofString "data_width"), .str (Str.ofString "data_width") j7, .int D t7⟩] 7) :: news) → (∀ p ∈ news, p.1 < d') → @LT.lt Nat _ d' x' → Q (.ref x') { s with heap := h', toks := tk' }) →
    wpAny (model prog w) (callerA.deeper (envX cn { kind := .function, names := nm, isGenerator := ig, isCoroutine := ic, more := mo } L a ccd cl)) (call (.ref x) [.int D t7] []) Q E s
theorem par_tells {prog : Program} {w : World} {loose : List Str} {mean : ExcName → Option Value} {mg mb : Str → Option Value} : ParTells prog w (hd.heap_39 w.params) hd.view_39 loose mean mg mb := by
  w_top off
  unfold ParTells
  intro cn nm ig ic mo a ccd cl base h₀ L m news s x d k1 k2 k3 k4 k5 k6 W P I X D b1 b2 t1 t2 t3 t6 t7 Q E B F XX N T hlt hdx hD1 hD8 hret
  k_steps
  exact hret _ _ _ _ _ _ _ _ _ _ _ (by assumption) (news_drop2 (by assumption)) (by first | assumption | (rename _ ∧ _ ∧ AllLt _ _ => hB; exact kst_ltOf hB.2.2)) (by assumption)
end Mine
-- BgComp2
namespace Mine
open PySem.Spec PySem.Calls
def CompTells (prog : Program) (w : World) (K : Frag) (p : Program) (loose : List Str) (mean : ExcName → Option Value) (mg mb : Str → Option Value) : Prop :=
  ∀ (cn : Str) (nm : List (Str × NameKind)) (ig ic : Bool) (mo : List (Str × Const)) (a : Addr) (ccd : Value) (cl : List (Str × Addr)) (base h₀ : Heap) (L : Addr) (m : Str → Option Value) (news : List (Addr × Obj)) (s : Shared)
    (x' d' l : Addr) (j1 j2 j3 j4 j5 j6 j7 : Tok) (W P I X D : Int) (b1 b2 : Bool) (t1 t2 t3 t6 t7 : Tok) (vs : List Value) (ns : List Int) (nn : Nat) (wn pn iv xn dn : Nat) (Q E : Value → Shared → Prop),
    Below callerA base [] h₀ → Fr h₀ L s.heap m → K.In h₀ → News h₀ L s.heap ((x', instObj 139 d') :: (d', dictOf [⟨PyData.keyHash w.params (Str.ofString "_crc_width"), .str (Str.ofString "_crc_width") j1, .int W t1⟩, ⟨PyData.keyHash w.params (Str.ofString "_polynomial"), .str (Str.ofString "_polynomial") j2, .int P t2⟩, ⟨PyData.keyHash w.params (Str.ofString "_initial_crc"), .str (Str.ofString "_initial_crc") j3, .int I t3⟩, ⟨PyData.keyHash w.params (Str.ofString "_reflect_input"), .str (Str.ofString "_reflect_input") j4, .bool b1⟩, ⟨PyData.keyHash w.params (Str.ofString "_reflect_output"), .str (Str.ofString "_reflect_output") j5, .bool b2⟩, ⟨PyData.keyHash w.params (Str.ofString "_xor_output"), .str (Str.ofString "_xor_output") j6, .int X t6⟩, ⟨PyData.keyHash w.params (Str.ofString "data_width"), .str (Str.ofString "data_width") j7, .int D t7⟩] 7) :: (l, listOf vs.toArray nn) :: news) → Top p loose mean mg mb h₀ →
    IntsAre vs ns → (∀ z ∈ ns, ∃ k : Nat, z = k ∧ k < 2 ^ dn) →
    W = wn → P = pn → I = iv → X = xn → D = dn → 1 ≤ wn → wn ≤ 16 → 1 ≤ dn → dn ≤ 8 → pn < 2 ^ wn → iv < 2 ^ wn → xn < 2 ^ wn →
    (∀ t h' tk', Fr h₀ L h' m → News h₀ L h' ((x', instObj 139 d') :: (d', dictOf [⟨PyData.keyHash w.params (Str.ofString "_crc_width"), .str (Str.ofString "_crc_width") j1, .int W t1⟩, ⟨PyData.keyHash w.params (Str.ofString "_polynomial"), .str (Str.ofString "_polynomial") j2, .int P t2⟩, ⟨PyData.keyHash w.params (Str.ofString "_initial_crc"), .str (Str.ofString "_initial_crc") j3, .int I t3⟩, ⟨PyData.keyHash w.params (Str.ofString "_reflect_input"), .str (Str.ofString "_reflect_input") j4, .bool b1⟩, ⟨PyData.keyHash w.params (Str.ofString "_reflect_output"), .str (Str.ofString "_reflect_output") j5, .bool b2⟩, ⟨PyData.keyHash w.params (Str.ofString "_xor_output"), .str (Str.ofString "_xor_output") j6, .int X t6⟩, ⟨PyData.keyHash w.params (Str.ofString "data_width"), .str (Str.ofString "data_width") j7, .int D t7⟩] 7) :: (l, listOf vs.toArray nn) :: news) → Q (.int (compN wn pn iv b1 b2 xn dn (ns.map Int.toNat) : Nat) t) { s with heap := h', toks := tk' }) →
    wpAny (model prog w) (callerA.deeper (envX cn { kind := .function, names := nm, isGenerator := ig, isCoroutine := ic, more := mo } L a ccd cl)) (call (.ref 112) [.ref x', .ref l]) Q E s
local macro_rules | `(tactic| walk_at "exec For Name Name cons nil") => `(tactic| ((rename Fr _ _ _ _ => lF'); (with_unfolding_all refine' For_invVF lF' ?k1 ?k2 ?_; (case k1 => exact rfl); (case k2 => exact rfl); k_whole)))
local macro_rules | `(tactic| walk_at "exec For Name Call cons nil") => `(tactic| ((rename Fr _ _ _ _ => lF'); (with_unfolding_all refine' For_invVF lF' ?k1 ?k2 ?_; (case k1 => exact rfl); (case k2 => exact rfl); k_whole)))
local macro_rules | `(tactic| walk_at "pyIter ref") => `(tactic| refine Stop.intro ?_)
local macro_rules | `(tactic| walk_at "binaryOp LShift int int") => `(tactic| (refine lshift_int_small (by omega) (by omega) (by omega) ?_))
local macro_rules | `(tactic| walk_at "call ref") => `(tactic| ((with_reducible show wpAny _ _ (PySem.call (Value.ref 119) _) _ _ _); refine Stop.intro ?_))
theorem refl_use {prog : Program} {w : World} {K : Frag} {p : Program} {loose : List Str} {mean : ExcName → Option Value} {mg mb : Str → Option Value}
    {dp un : Nat} {gd : Option (List Code)} {cn : Str} {cs : Scope} {a : Addr} {ccd : Value} {cl : List (Str × Addr)} {outer : List Env} {A₀ : Around} {base h₀ : Heap} {L : Addr} {m : Str → Option Value} {led : List (Addr × Obj)} {s : Shared} {wi ni : Int} {t1 t2 : Tok} {Q E : Value → Shared → Prop}
    (C : ReflTells prog w K p loose mean mg mb) (word n : Nat) (B : Below A₀ base outer h₀) (F : Fr h₀ L s.heap m) (X : K.In h₀) (N : News h₀ L s.heap led) (T : Top p loose mean mg mb h₀) (hk : cs.kind = .function)
    (hwi : wi = (word : Int)) (hni : ni = (n : Int)) (hn1 : 1 ≤ n) (hn2 : n ≤ 16) (hw : word < 2 ^ n) (hd : dp + 1 < recursionLimit) (hu : un + 8 < cLine)
    (ret : ∀ t h' tk', Fr h₀ L h' m → News h₀ L h' led → Q (.int (revN n word : Nat) t) { s with heap := h', toks := tk' }) :
    wpAny (model prog w) (ktrTop dp un gd cn cs L a ccd cl outer) (call (.ref 119) [.int wi t1, .int ni t2]) Q E s :=
  C dp un gd cn cs a ccd cl outer A₀ base h₀ L m led s word n wi ni t1 t2 Q E B F X N T hk hwi hni hn1 hn2 hw hd hu ret
local macro_rules | `(tactic| walk_at "InvEndN") => `(tactic| refine Stop.intro ?_)
theorem comp_tells {prog : Program} {w : World} {loose : List Str} {mean : ExcName → Option Value} {mg mb : Str → Option Value} : CompTells prog w (hd.heap_39 w.params) hd.view_39 loose mean mg mb := by
  w_top off
  unfold CompTells
  intro cn nm ig ic mo a ccd cl base h₀ L m news s x' d' l j1 j2 j3 j4 j5 j6 j7 W P I X D b1 b2 t1 t2 t3 t6 t7 vs ns nn wn pn iv xn dn Q E B F XX N T hi hz hW hP hI hX hD hw1 hw16 hd1 hd8 hpn hiv hxn hret
  subst hW hP hI hX hD
  have hp16 : 2 ^ wn ≤ 2 ^ 16 := pow_le hw16
  have e1 : (1 : Int) * 2 ^ ((dn : Int).toNat) - 1 = ((2 ^ dn - 1 : Nat) : Int) := by
    have := kbt_cast dn; have := Nat.two_pow_pos dn; rw [Int.toNat_natCast]; omega
  have e2 : (1 : Int) * 2 ^ (((wn : Int) + dn - 1).toNat) = ((2 ^ (wn + dn - 1) : Nat) : Int) := by
    rw [show ((wn : Int) + dn - 1).toNat = wn + dn - 1 by omega, kbt_cast, Int.one_mul]
  have e3 : (1 : Int) * 2 ^ (((wn : Int) + dn).toNat) - 1 = ((2 ^ (wn + dn) - 1 : Nat) : Int) := by
    have := kbt_cast (wn + dn); have := Nat.two_pow_pos (wn + dn); rw [show ((wn : Int) + dn).toNat = wn + dn by omega]; omega
  have e4 : (pn : Int) * 2 ^ ((dn : Int).toNat) = ((pn <<< dn : Nat) : Int) := by rw [Int.toNat_natCast, shl_cast]
  have e5 : (iv : Int) * 2 ^ ((dn : Int).toNat) = ((iv <<< dn : Nat) : Int) := by rw [Int.toNat_natCast, shl_cast]
  have hps : pn <<< dn < 2 ^ (wn + dn) := shl_lt hpn
  have hc0 : iv <<< dn < 2 ^ (wn + dn) := shl_lt hiv
  have hwd : 2 ^ (wn + dn) ≤ 2 ^ 24 := pow_le (by omega)
  k_steps
  refine Stop.mk ?_
  rename Fr _ _ _ _ => FF
  rename News _ _ _ _ => NN
  rw [e1, e2, e3, e4, e5] at FF
  k_dflt (refine' nat_list (y := Str.ofString "crc") [Str.ofString "_", Str.ofString "crc"] (fun pre c => c = (pre.map Int.toNat).foldl (wordC wn pn dn b1) (iv <<< dn) ∧ c < 2 ^ (wn + dn)) (iv <<< dn) ?hh ?hl hi FF NN ?hk ⟨rfl, hc0⟩ ?_ ?_)
  case hh => exact rfl
  case hl => k_mem
  case hk => exact rfl
  · intro c tc pre post z tz u1 hp1 tk1 own1 hns hmem hoff hP F1 N1
    obtain ⟨nw, hzn, hnw⟩ := hz z hmem
    subst hzn
    have hnw' : (nw : Int) ≤ ((2 ^ dn - 1 : Nat) : Int) := by omega
    have hnw8 : 2 ^ dn ≤ 2 ^ 8 := pow_le hd8
    try simp only [List.cons_append] at N1
    clear FF NN
    try k_fold
    k_steps
    · rename b1 = true => hb1
      have hww : revN dn nw < 2 ^ dn := revN_lt dn nw
      refine Stop.mk ?_
      k_dflt (refine' refl_use refl_tells nw dn ?k1 ?k2 ?k3 ?k4 ?k5 ?k6 rfl rfl hd1 (by omega) hnw ?kd ?ku ?_; (case k1 => k_asm); (case k2 => k_asm); (case k3 => k_asm); (case k4 => k_asm); (case k5 => k_asm); (case k6 => exact rfl); (case kd => k_room); (case ku => ktr_units))
      intro tR hR tkR FR NR
      k_steps
      refine Stop.mk ?_
      rename Fr _ _ _ _ => FG
      rename News _ _ _ _ => NG
      have e6 : Builtin.bitXor (c : Int) (((revN dn nw : Nat) : Int) * 2 ^ ((wn : Int).toNat)) = ((c ^^^ ((revN dn nw) <<< wn) : Nat) : Int) := by rw [Int.toNat_natCast, shl_cast, xor_cast]
      rw [e6] at FG
      have hC1 : c ^^^ ((revN dn nw) <<< wn) < 2 ^ (wn + dn) := Nat.xor_lt_two_pow hP.2 (Nat.add_comm dn wn ▸ shl_lt hww)
      generalize hC1e : c ^^^ ((revN dn nw) <<< wn) = C1 at FG hC1
      k_dflt (refine' nat_range (y := Str.ofString "crc") (n := dn) [] (fun pre c' => c' = iterC (2 ^ (wn + dn - 1)) (pn <<< dn) pre.length C1 ∧ c' < 2 ^ (wn + dn + pre.length)) C1 ?hh ?hr ?hsm ?hn FG NG ?hk ⟨rfl, hC1⟩ ?_ ?_)
      case hh => exact rfl
      case hr => assumption
      case hsm => exact small_one (by omega) (by omega) (by omega) (by omega)
      case hn => rw [rangeSize_nat]; omega
      case hk => exact rfl
      · intro c' tc' pre' k' tk' u' hp' tq' own' hk' hlt' hoff' hP' F2 N2
        have hc32 : c' < 2 ^ 32 := Nat.lt_of_lt_of_le hP'.2 (pow_le (by omega))
        have hst : stepC (2 ^ (wn + dn - 1)) (pn <<< dn) c' = iterC (2 ^ (wn + dn - 1)) (pn <<< dn) (pre' ++ [k']).length C1 ∧ stepC (2 ^ (wn + dn - 1)) (pn <<< dn) c' < 2 ^ (wn + dn + (pre' ++ [k']).length) := by
          rw [List.length_append, List.length_singleton]
          exact ⟨by rw [hP'.1]; rfl, stepC_lt hP'.2 (Nat.lt_of_lt_of_le hps (pow_le (show wn + dn ≤ wn + dn + pre'.length + 1 by omega)))⟩
        try simp only [List.cons_append] at N2
        clear FG NG
        try k_fold
        k_steps
        · refine Stop.mk ?_
          rename Builtin.bitAnd _ _ ≠ 0 => hset
          rename Fr _ _ _ _ => FE
          rename News _ _ _ _ => NE
          rw [step_set hset] at FE
          refine nat_end (stepC (2 ^ (wn + dn - 1)) (pn <<< dn) c') _ FE NE ?n1 ?n2 rfl (fun z h1 h2 h3 => ?n3) hst
          case n1 => first | kst_in | kst_inAny
          case n2 => first | (intro p hp; kst_mem) | kst_anyIn
          case n3 => (try dsimp only); rw [if_neg h2]; exact natFr_same h1 h2 h3
        · refine Stop.mk ?_
          rename Builtin.bitAnd _ _ = 0 => hset
          rename Fr _ _ _ _ => FE
          rename News _ _ _ _ => NE
          rw [step_clear (ps := pn <<< dn) hset] at FE
          refine nat_end (stepC (2 ^ (wn + dn - 1)) (pn <<< dn) c') _ FE NE ?n1 ?n2 rfl (fun z h1 h2 h3 => ?n3) hst
          case n1 => first | kst_in | kst_inAny
          case n2 => first | (intro p hp; kst_mem) | kst_anyIn
          case n3 => (try dsimp only); rw [if_neg h2]; exact natFr_same h1 h2 h3
      · intro c' tc' u' hp' tk' hP' F2 N2
        try k_fold
        k_steps
        refine Stop.mk ?_
        rename Fr _ _ _ _ => FE
        rename News _ _ _ _ => NE
        rw [and_cast] at FE
        rw [rangeKs_length] at hP'
        refine nat_end (c' &&& (2 ^ (wn + dn) - 1)) _ FE NE ?n1 ?n2 rfl (fun z h1 h2 h3 => ?n3) ⟨?n4, ?n5⟩
        case n1 => first | kst_in | kst_inAny
        case n2 => first | (intro p hp; kst_mem) | kst_anyIn
        case n3 =>
          have h4 : z ≠ Str.ofString "_" := by
            intro e
            subst e
            exact absurd h3 (by decide)
          simp only [natFr, natOut, if_neg h1, if_neg h2, if_neg h4, h3]
          first | done | rfl | simp
        case n4 =>
          rw [List.map_append, List.foldl_append, ← hP.1, hP'.1, ← hC1e]
          show _ = wordC wn pn dn b1 c (Int.toNat (nw : Int))
          rw [Int.toNat_natCast]
          unfold wordC
          simp only [hb1]
          first | done | rfl | simp
        case n5 =>
          rw [Nat.and_two_pow_sub_one_eq_mod]
          exact Nat.mod_lt _ (Nat.two_pow_pos _)
    · rename b1 = false => hb1
      have hww : nw < 2 ^ dn := hnw
      refine Stop.mk ?_
      rename Fr _ _ _ _ => FG
      rename News _ _ _ _ => NG
      have e6 : Builtin.bitXor (c : Int) (((nw : Nat) : Int) * 2 ^ ((wn : Int).toNat)) = ((c ^^^ ((nw) <<< wn) : Nat) : Int) := by rw [Int.toNat_natCast, shl_cast, xor_cast]
      rw [e6] at FG
      have hC1 : c ^^^ ((nw) <<< wn) < 2 ^ (wn + dn) := Nat.xor_lt_two_pow hP.2 (Nat.add_comm dn wn ▸ shl_lt hww)
      generalize hC1e : c ^^^ ((nw) <<< wn) = C1 at FG hC1
      k_dflt (refine' nat_range (y := Str.ofString "crc") (n := dn) [] (fun pre c' => c' = iterC (2 ^ (wn + dn - 1)) (pn <<< dn) pre.length C1 ∧ c' < 2 ^ (wn + dn + pre.length)) C1 ?hh ?hr ?hsm ?hn FG NG ?hk ⟨rfl, hC1⟩ ?_ ?_)
      case hh => exact rfl
      case hr => assumption
      case hsm => exact small_one (by omega) (by omega) (by omega) (by omega)
      case hn => rw [rangeSize_nat]; omega
      case hk => exact rfl
      · intro c' tc' pre' k' tk' u' hp' tq' own' hk' hlt' hoff' hP' F2 N2
        have hc32 : c' < 2 ^ 32 := Nat.lt_of_lt_of_le hP'.2 (pow_le (by omega))
        have hst : stepC (2 ^ (wn + dn - 1)) (pn <<< dn) c' = iterC (2 ^ (wn + dn - 1)) (pn <<< dn) (pre' ++ [k']).length C1 ∧ stepC (2 ^ (wn + dn - 1)) (pn <<< dn) c' < 2 ^ (wn + dn + (pre' ++ [k']).length) := by
          rw [List.length_append, List.length_singleton]
          exact ⟨by rw [hP'.1]; rfl, stepC_lt hP'.2 (Nat.lt_of_lt_of_le hps (pow_le (show wn + dn ≤ wn + dn + pre'.length + 1 by omega)))⟩
        try simp only [List.cons_append] at N2
        clear FG NG
        try k_fold
        k_steps
        · refine Stop.mk ?_
          rename Builtin.bitAnd _ _ ≠ 0 => hset
          rename Fr _ _ _ _ => FE
          rename News _ _ _ _ => NE
          rw [step_set hset] at FE
          refine nat_end (stepC (2 ^ (wn + dn - 1)) (pn <<< dn) c') _ FE NE ?n1 ?n2 rfl (fun z h1 h2 h3 => ?n3) hst
          case n1 => first | kst_in | kst_inAny
          case n2 => first | (intro p hp; kst_mem) | kst_anyIn
          case n3 => (try dsimp only); rw [if_neg h2]; exact natFr_same h1 h2 h3
        · refine Stop.mk ?_
          rename Builtin.bitAnd _ _ = 0 => hset
          rename Fr _ _ _ _ => FE
          rename News _ _ _ _ => NE
          rw [step_clear (ps := pn <<< dn) hset] at FE
          refine nat_end (stepC (2 ^ (wn + dn - 1)) (pn <<< dn) c') _ FE NE ?n1 ?n2 rfl (fun z h1 h2 h3 => ?n3) hst
          case n1 => first | kst_in | kst_inAny
          case n2 => first | (intro p hp; kst_mem) | kst_anyIn
          case n3 => (try dsimp only); rw [if_neg h2]; exact natFr_same h1 h2 h3
      · intro c' tc' u' hp' tk' hP' F2 N2
        try k_fold
        k_steps
        refine Stop.mk ?_
        rename Fr _ _ _ _ => FE
        rename News _ _ _ _ => NE
        rw [and_cast] at FE
        rw [rangeKs_length] at hP'
        refine nat_end (c' &&& (2 ^ (wn + dn) - 1)) _ FE NE ?n1 ?n2 rfl (fun z h1 h2 h3 => ?n3) ⟨?n4, ?n5⟩
        case n1 => first | kst_in | kst_inAny
        case n2 => first | (intro p hp; kst_mem) | kst_anyIn
        case n3 =>
          have h4 : z ≠ Str.ofString "_" := by
            intro e
            subst e
            exact absurd h3 (by decide)
          simp only [natFr, natOut, if_neg h1, if_neg h2, if_neg h4, h3]
          first | done | rfl | simp
        case n4 =>
          rw [List.map_append, List.foldl_append, ← hP.1, hP'.1, ← hC1e]
          show _ = wordC wn pn dn b1 c (Int.toNat (nw : Int))
          rw [Int.toNat_natCast]
          unfold wordC
          simp only [hb1]
          first | done | rfl | simp
        case n5 =>
          rw [Nat.and_two_pow_sub_one_eq_mod]
          exact Nat.mod_lt _ (Nat.two_pow_pos _)
  · intro c tc u1 hp1 tk1 hP F1 N1
    try k_fold
    have hr1 : c >>> dn < 2 ^ wn := by
      rw [Nat.shiftRight_eq_div_pow]
      exact Nat.div_lt_of_lt_mul (by rw [← Nat.pow_add, Nat.add_comm dn wn]; exact hP.2)
    have e7 : (c : Int).fdiv (2 ^ ((dn : Int).toNat)) = ((c >>> dn : Nat) : Int) := by rw [Int.toNat_natCast, shr_cast]
    k_steps
    · rename b2 = true => hb2
      refine Stop.mk ?_
      k_dflt (refine' refl_use refl_tells (c >>> dn) wn ?k1 ?k2 ?k3 ?k4 ?k5 ?k6 e7 rfl hw1 hw16 hr1 ?kd ?ku ?_; (case k1 => k_asm); (case k2 => k_asm); (case k3 => k_asm); (case k4 => k_asm); (case k5 => k_asm); (case k6 => exact rfl); (case kd => k_room); (case ku => ktr_units))
      intro tR hR tkR FR NR
      k_steps
      have e8 : ((compN wn pn iv b1 b2 xn dn (ns.map Int.toNat) : Nat) : Int) = Builtin.bitXor ((revN wn (c >>> dn) : Nat) : Int) (xn : Int) := by
        rw [xor_cast, hP.1]
        simp only [compN, regC, hb2, if_true]
      rw [← e8]
      exact hret _ _ _ (by assumption) (by assumption)
    · rename b2 = false => hb2
      have e8 : ((compN wn pn iv b1 b2 xn dn (ns.map Int.toNat) : Nat) : Int) = Builtin.bitXor ((c : Int).fdiv (2 ^ ((dn : Int).toNat))) (xn : Int) := by
        rw [e7, xor_cast, hP.1]
        simp only [compN, regC, hb2, Bool.false_eq_true, if_false]
      rw [← e8]
      exact hret _ _ _ (by assumption) (by assumption)
end Mine
-- BgUse2
namespace Mine
open PySem.Spec PySem.Calls
theorem alg_use {prog : Program} {w : World} {K : Frag} {p : Program} {loose : List Str} {mean : ExcName → Option Value} {mg mb : Str → Option Value} {cn : Str} {nm : List (Str × NameKind)} {ig ic : Bool} {mo : List (Str × Const)} {a : Addr} {ccd : Value} {cl : List (Str × Addr)} {base h₀ : Heap} {L : Addr} {m : Str → Option Value} {news : List (Addr × Obj)} {s : Shared} {W P I X : Int} {b1 b2 : Bool} {t1 t2 t3 t6 : Tok} {Q E : Value → Shared → Prop} (C : AlgTells prog w K p loose mean mg mb)
    (B : Below callerA base [] h₀) (F : Fr h₀ L s.heap m) (XX : K.In h₀) (N : News h₀ L s.heap news) (T : Top p loose mean mg mb h₀) (hW1 : 1 ≤ W) (hW2 : W ≤ 16) (hP0 : 0 ≤ P) (hP1 : P < 2 ^ W.toNat) (hI0 : 0 ≤ I) (hI1 : I < 2 ^ W.toNat) (hX0 : 0 ≤ X) (hX1 : X < 2 ^ W.toNat)
    (ret : ∀ x d k1 k2 k3 k4 k5 k6 h' tk', Fr h₀ L h' m → News h₀ L h' ((x, instObj 71 d) :: (d, dictOf [⟨PyData.keyHash w.params (Str.ofString "crc_width"), .str (Str.ofString "crc_width") k1, .int W t1⟩, ⟨PyData.keyHash w.params (Str.ofString "polynomial"), .str (Str.ofString "polynomial") k2, .int P t2⟩, ⟨PyData.keyHash w.params (Str.ofString "initial_crc"), .str (Str.ofString "initial_crc") k3, .int I t3⟩, ⟨PyData.keyHash w.params (Str.ofString "reflect_input"), .str (Str.ofString "reflect_input") k4, .bool b1⟩, ⟨PyData.keyHash w.params (Str.ofString "reflect_output"), .str (Str.ofString "reflect_output") k5, .bool b2⟩, ⟨PyData.keyHash w.params (Str.ofString "xor_output"), .str (Str.ofString "xor_output") k6, .int X t6⟩] 6) :: news) → (∀ p ∈ news, p.1 < d) → @LT.lt Nat _ d x → Q (.ref x) { s with heap := h', toks := tk' }) :
    wpAny (model prog w) (callerA.deeper (envX cn { kind := .function, names := nm, isGenerator := ig, isCoroutine := ic, more := mo } L a ccd cl)) (call (.ref 71) [] [(Str.ofString "crc_width", .int W t1), (Str.ofString "polynomial", .int P t2), (Str.ofString "initial_crc", .int I t3), (Str.ofString "reflect_input", .bool b1), (Str.ofString "reflect_output", .bool b2), (Str.ofString "xor_output", .int X t6)]) Q E s :=
  C cn nm ig ic mo a ccd cl base h₀ L m news s W P I X b1 b2 t1 t2 t3 t6 Q E B F XX N T hW1 hW2 hP0 hP1 hI0 hI1 hX0 hX1 ret
theorem par_use {prog : Program} {w : World} {K : Frag} {p : Program} {loose : List Str} {mean : ExcName → Option Value} {mg mb : Str → Option Value} {cn : Str} {nm : List (Str × NameKind)} {ig ic : Bool} {mo : List (Str × Const)} {a : Addr} {ccd : Value} {cl : List (Str × Addr)} {base h₀ : Heap} {L : Addr} {m : Str → Option Value} {news : List (Addr × Obj)} {s : Shared} {x d : Addr} {k1 k2 k3 k4 k5 k6 : Tok} {W P I X D : Int} {b1 b2 : Bool} {t1 t2 t3 t6 t7 : Tok} {Q E : Value → Shared → Prop} (C : ParTells prog w K p loose mean mg mb)
    (B : Below callerA base [] h₀) (F : Fr h₀ L s.heap m) (XX : K.In h₀) (N : News h₀ L s.heap ((x, instObj 71 d) :: (d, dictOf [⟨PyData.keyHash w.params (Str.ofString "crc_width"), .str (Str.ofString "crc_width") k1, .int W t1⟩, ⟨PyData.keyHash w.params (Str.ofString "polynomial"), .str (Str.ofString "polynomial") k2, .int P t2⟩, ⟨PyData.keyHash w.params (Str.ofString "initial_crc"), .str (Str.ofString "initial_crc") k3, .int I t3⟩, ⟨PyData.keyHash w.params (Str.ofString "reflect_input"), .str (Str.ofString "reflect_input") k4, .bool b1⟩, ⟨PyData.keyHash w.params (Str.ofString "reflect_output"), .str (Str.ofString "reflect_output") k5, .bool b2⟩, ⟨PyData.keyHash w.params (Str.ofString "xor_output"), .str (Str.ofString "xor_output") k6, .int X t6⟩] 6) :: news)) (T : Top p loose mean mg mb h₀) (hlt : ∀ p ∈ news, p.1 < d) (hdx : @LT.lt Nat _ d x) (hD1 : 1 ≤ D) (hD8 : D ≤ 8)
    (ret : ∀ x' d' j1 j2 j3 j4 j5 j6 j7 h' tk', Fr h₀ L h' m → News h₀ L h' ((x', instObj 139 d') :: (d', dictOf [⟨PyData.keyHash w.params (Str.ofString "_crc_width"), .str (Str.ofString "_crc_width") j1, .int W t1⟩, ⟨PyData.keyHash w.params (Str.ofString "_polynomial"), .str (Str.ofString "_polynomial") j2, .int P t2⟩, ⟨PyData.keyHash w.params (Str.ofString "_initial_crc"), .str (Str.ofString "_initial_crc") j3, .int I t3⟩, ⟨PyData.keyHash w.params (Str.ofString "_reflect_input"), .str (Str.ofString "_reflect_input") j4, .bool b1⟩, ⟨PyData.keyHash w.params (Str.ofString "_reflect_output"), .str (Str.ofString "_reflect_output") j5, .bool b2⟩, ⟨PyData.keyHash w.params (Str.ofString "_xor_output"), .str (Str.ofString "_xor_output") j6, .int X t6⟩, ⟨PyData.keyHash w.params (Str.ofString "data_width"), .str (Str.ofString "data_width") j7, .int D t7⟩] 7) :: news) → (∀ p ∈ news, p.1 < d') → @LT.lt Nat _ d' x' → Q (.ref x') { s with heap := h', toks := tk' }) :
    wpAny (model prog w) (callerA.deeper (envX cn { kind := .function, names := nm, isGenerator := ig, isCoroutine := ic, more := mo } L a ccd cl)) (call (.ref x) [.int D t7] []) Q E s :=
  C cn nm ig ic mo a ccd cl base h₀ L m news s x d k1 k2 k3 k4 k5 k6 W P I X D b1 b2 t1 t2 t3 t6 t7 Q E B F XX N T hlt hdx hD1 hD8 ret
theorem comp_use {prog : Program} {w : World} {K : Frag} {p : Program} {loose : List Str} {mean : ExcName → Option Value} {mg mb : Str → Option Value} {cn : Str} {nm : List (Str × NameKind)} {ig ic : Bool} {mo : List (Str × Const)} {a : Addr} {ccd : Value} {cl : List (Str × Addr)} {base h₀ : Heap} {L : Addr} {m : Str → Option Value} {news : List (Addr × Obj)} {s : Shared} {x' d' l : Addr} {j1 j2 j3 j4 j5 j6 j7 : Tok} {W P I X D : Int} {b1 b2 : Bool} {t1 t2 t3 t6 t7 : Tok} {vs : List Value} {ns : List Int} {nn : Nat} {Q E : Value → Shared → Prop} (C : CompTells prog w K p loose mean mg mb) (wn pn iv xn dn : Nat)
    (B : Below callerA base [] h₀) (F : Fr h₀ L s.heap m) (XX : K.In h₀) (N : News h₀ L s.heap news) (T : Top p loose mean mg mb h₀) (m1 : (x', instObj 139 d') ∈ news) (m2 : (d', dictOf [⟨PyData.keyHash w.params (Str.ofString "_crc_width"), .str (Str.ofString "_crc_width") j1, .int W t1⟩, ⟨PyData.keyHash w.params (Str.ofString "_polynomial"), .str (Str.ofString "_polynomial") j2, .int P t2⟩, ⟨PyData.keyHash w.params (Str.ofString "_initial_crc"), .str (Str.ofString "_initial_crc") j3, .int I t3⟩, ⟨PyData.keyHash w.params (Str.ofString "_reflect_input"), .str (Str.ofString "_reflect_input") j4, .bool b1⟩, ⟨PyData.keyHash w.params (Str.ofString "_reflect_output"), .str (Str.ofString "_reflect_output") j5, .bool b2⟩, ⟨PyData.keyHash w.params (Str.ofString "_xor_output"), .str (Str.ofString "_xor_output") j6, .int X t6⟩, ⟨PyData.keyHash w.params (Str.ofString "data_width"), .str (Str.ofString "data_width") j7, .int D t7⟩] 7) ∈ news) (m3 : (l, listOf (List.toArray vs) nn) ∈ news)
    (hi : IntsAre vs ns) (hz : ∀ z ∈ ns, ∃ k : Nat, z = k ∧ k < 2 ^ dn) (hW : W = wn) (hP : P = pn) (hI : I = iv) (hX : X = xn) (hD : D = dn) (hw1 : 1 ≤ wn) (hw16 : wn ≤ 16) (hd1 : 1 ≤ dn) (hd8 : dn ≤ 8) (hpn : pn < 2 ^ wn) (hiv : iv < 2 ^ wn) (hxn : xn < 2 ^ wn)
    (ret : ∀ t h' tk', Fr h₀ L h' m → News h₀ L h' news → Q (.int (compN wn pn iv b1 b2 xn dn (ns.map Int.toNat) : Nat) t) { s with heap := h', toks := tk' }) :
    wpAny (model prog w) (callerA.deeper (envX cn { kind := .function, names := nm, isGenerator := ig, isCoroutine := ic, more := mo } L a ccd cl)) (call (.ref 112) [.ref x', .ref l]) Q E s := by
  refine C cn nm ig ic mo a ccd cl base h₀ L m news s x' d' l j1 j2 j3 j4 j5 j6 j7 W P I X D b1 b2 t1 t2 t3 t6 t7 vs ns nn wn pn iv xn dn Q E B F XX (fun q hq => ?_) T hi hz hW hP hI hX hD hw1 hw16 hd1 hd8 hpn hiv hxn
    fun t h' tk' F' N' => ret t h' tk' F' fun q hq => N' q (.tail _ (.tail _ (.tail _ hq)))
  rcases List.mem_cons.mp hq with rfl | hq
  · exact N _ m1
  rcases List.mem_cons.mp hq with rfl | hq
  · exact N _ m2
  rcases List.mem_cons.mp hq with rfl | hq
  · exact N _ m3
  · exact N q hq
theorem words_use {prog : Program} {w : World} {K : Frag} {p : Program} {loose : List Str} {mean : ExcName → Option Value} {mg mb : Str → Option Value} {cn : Str} {nm : List (Str × NameKind)} {ig ic : Bool} {mo : List (Str × Const)} {a : Addr} {ccd : Value} {cl : List (Str × Addr)} {base h₀ : Heap} {L : Addr} {m : Str → Option Value} {news : List (Addr × Obj)} {s : Shared} {bl : Addr} {D : Int} {low : Bool} {t1 : Tok} {vs : List Value} {ns : List Int} {nn : Nat} {Q E : Value → Shared → Prop} (C : WordsTells prog w K p loose mean mg mb) (bits : List Nat) (q dn : Nat)
    (B : Below callerA base [] h₀) (F : Fr h₀ L s.heap m) (XX : K.In h₀) (N : News h₀ L s.heap news) (T : Top p loose mean mg mb h₀) (m1 : (bl, listOf (List.toArray vs) nn) ∈ news)
    (hi : IntsAre vs ns) (hns : ns = bits.map fun (b : Nat) => (b : Int)) (hb : ∀ b ∈ bits, b < 2) (hlen : bits.length = q * dn) (hq : q ≤ 16) (hD : D = dn) (hd1 : 1 ≤ dn) (hd8 : dn ≤ 8)
    (ret : ∀ lw ys ws k h' tk', IntsAre ys ws → ws = ((List.range q).map fun j => ((chunkVal low ((bits.drop (j * dn)).take dn) : Nat) : Int)) → Fr h₀ L h' m → News h₀ L h' ((lw, listOf (List.toArray ys) k) :: news) → (∀ p ∈ news, p.1 < lw) → Q (.ref lw) { s with heap := h', toks := tk' }) :
    wpAny (model prog w) (callerA.deeper (envX cn { kind := .function, names := nm, isGenerator := ig, isCoroutine := ic, more := mo } L a ccd cl)) (call (.ref 160) [.ref bl, .int D t1, .bool low]) Q E s := by
  refine C cn nm ig ic mo a ccd cl base h₀ L m news s bl D low t1 vs ns nn bits q dn Q E B F XX (fun q hq => ?_) T hi hns hb hlen hq hD hd1 hd8
    fun lw ys ws k h' tk' h1 h2 F' N' h3 h4 => ret lw ys ws k h' tk' h1 h2 F' (fun q hq => ?_) h4
  · rcases List.mem_cons.mp hq with rfl | hq
    · exact N _ m1
    · exact N q hq
  · rcases List.mem_cons.mp hq with rfl | hq
    · exact N' _ (.head _)
    · exact N' _ (.tail _ (.tail _ hq))
theorem turn_use {prog : Program} {w : World} {K : Frag} {p : Program} {loose : List Str} {mean : ExcName → Option Value} {mg mb : Str → Option Value}
    {dp un : Nat} {gd : Option (List Code)} {cn : Str} {cs : Scope} {a : Addr} {ccd : Value} {cl : List (Str × Addr)} {outer : List Env} {A₀ : Around} {base h₀ : Heap} {L : Addr} {m : Str → Option Value} {led : List (Addr × Obj)} {s : Shared} {wi ni : Int} {t1 t2 : Tok} {Q E : Value → Shared → Prop}
    (C : TurnTells prog w K p loose mean mg mb) (word n : Nat) (B : Below A₀ base outer h₀) (F : Fr h₀ L s.heap m) (X : K.In h₀) (N : News h₀ L s.heap led) (T : Top p loose mean mg mb h₀) (hk : cs.kind = .function)
    (hwi : wi = (word : Int)) (hni : ni = (n : Int)) (hn1 : 1 ≤ n) (hn2 : n ≤ 16) (hw : word < 2 ^ n) (hd : dp + 1 < recursionLimit) (hu : un + 8 < cLine)
    (ret : ∀ t h' tk', Fr h₀ L h' m → News h₀ L h' led → Q (.int (revN n word : Nat) t) { s with heap := h', toks := tk' }) :
    wpAny (model prog w) (ktrTop dp un gd cn cs L a ccd cl outer) (call (.ref 155) [.int wi t1, .int ni t2]) Q E s :=
  C dp un gd cn cs a ccd cl outer A₀ base h₀ L m led s word n wi ni t1 t2 Q E B F X N T hk hwi hni hn1 hn2 hw hd hu ret
end Mine
-- BgCut
namespace Mine
open PySem.Spec PySem.Calls
abbrev cutM (m : Str → Option Value) (lv : Nat) (tl : Tok) (gv : Nat) (tg : Tok) : Str → Option Value :=
  fun z => if z = Str.ofString "goal" then some (.int (gv : Nat) tg) else if z = Str.ofString "left" then some (.int (lv : Nat) tl) else m z
theorem if_cut {M : Model} {A : Around} {E : Value → Shared → Prop} {s : Shared} {h₀ : Heap} {L : Addr} {m : Str → Option Value} {led : List (Addr × Obj)} {t : Sem Flow} {Q : Flow → Shared → Prop} (lv gv : Nat)
    (_F : Fr h₀ L s.heap m) (_N : News h₀ L s.heap led)
    (body : ∀ Q' : Flow → Shared → Prop, (∀ tl tg h tk, Fr h₀ L h (cutM m lv tl gv tg) → News h₀ L h led → Q' .next { s with heap := h, toks := tk }) → wpAny M A t Q' E s)
    (rest : ∀ tl tg h tk, Fr h₀ L h (cutM m lv tl gv tg) → News h₀ L h led → Q .next { s with heap := h, toks := tk }) : wpAny M A t Q E s := body Q rest
theorem fr_cut {h₀ h : Heap} {L : Addr} {m : Str → Option Value} {lv gv : Nat} {tl tg : Tok} (F : Fr h₀ L h m) (hl : m (Str.ofString "left") = some (.int (lv : Nat) tl)) (hg : m (Str.ofString "goal") = some (.int (gv : Nat) tg)) : Fr h₀ L h (cutM m lv tl gv tg) := by
  have e : cutM m lv tl gv tg = m := by
    funext z
    show (if z = _ then _ else if z = _ then _ else _) = _
    by_cases h1 : z = Str.ofString "goal"
    · rw [if_pos h1, h1, hg]
    · rw [if_neg h1]
      by_cases h2 : z = Str.ofString "left"
      · rw [if_pos h2, h2, hl]
      · rw [if_neg h2]
  rw [e]; exact F
theorem fr_cut2 {h₀ h : Heap} {L : Addr} {m m' : Str → Option Value} {lv gv : Nat} {tl tg : Tok} (F : Fr h₀ L h m') (hm : ∀ z, z ≠ Str.ofString "goal" → z ≠ Str.ofString "left" → m' z = m z)
    (hl : m' (Str.ofString "left") = some (.int (lv : Nat) tl)) (hg : m' (Str.ofString "goal") = some (.int (gv : Nat) tg)) : Fr h₀ L h (cutM m lv tl gv tg) := by
  have e : cutM m lv tl gv tg = m' := by
    funext z
    show (if z = _ then _ else if z = _ then _ else _) = _
    by_cases h1 : z = Str.ofString "goal"
    · rw [if_pos h1, h1, hg]
    · rw [if_neg h1]
      by_cases h2 : z = Str.ofString "left"
      · rw [if_pos h2, h2, hl]
      · rw [if_neg h2, hm z h1 h2]
  rw [e]; exact F
theorem regC_lt {wn pn iv dn : Nat} {b1 : Bool} (hiv : iv < 2 ^ wn) : ∀ l : List Nat, regC wn pn iv dn b1 l < 2 ^ (wn + dn) := by
  unfold regC
  have go : ∀ (l : List Nat) (c : Nat), c < 2 ^ (wn + dn) → l.foldl (wordC wn pn dn b1) c < 2 ^ (wn + dn) := by
    intro l
    induction l with
    | nil => intro c h; exact h
    | cons z r ih => intro c _; exact ih _ wordC_lt
  intro l
  exact go l _ (shl_lt hiv)
theorem compN_lt {wn pn iv xn dn : Nat} {b1 b2 : Bool} {l : List Nat} (_h1 : 1 ≤ wn) (hiv : iv < 2 ^ wn) (hxn : xn < 2 ^ wn) : compN wn pn iv b1 b2 xn dn l < 2 ^ wn := by
  unfold compN
  have hr : regC wn pn iv dn b1 l >>> dn < 2 ^ wn := by
    rw [Nat.shiftRight_eq_div_pow]
    exact Nat.div_lt_of_lt_mul (by rw [← Nat.pow_add, Nat.add_comm dn wn]; exact regC_lt hiv l)
  cases b2
  · exact Nat.xor_lt_two_pow hr hxn
  · exact Nat.xor_lt_two_pow (revN_lt _ _) hxn
/-- one turn of the law's first loop: times x, modulo the polynomial -/
def stepX (wn wh c : Nat) : Nat := if (c * 2) >>> wn = 1 then (c * 2) ^^^ wh else c * 2
def iterX (wn wh : Nat) : Nat → Nat → Nat
  | 0, c => c
  | k + 1, c => stepX wn wh (iterX wn wh k c)
/-- one turn of the second: divided by x -/
def stepG (wh c : Nat) : Nat := (if c % 2 = 1 then c ^^^ wh else c) / 2
def iterG (wh : Nat) : Nat → Nat → Nat
  | 0, c => c
  | k + 1, c => stepG wh (iterG wh k c)
theorem stepX_lt {wn wh c : Nat} (hw : wh < 2 ^ (wn + 1)) (hb : wh.testBit wn = true) (hc : c < 2 ^ wn) : stepX wn wh c < 2 ^ wn := by
  have h2 : c * 2 < 2 ^ (wn + 1) := by rw [Nat.pow_succ]; omega
  unfold stepX
  split
  · rename_i h
    have hx : (c * 2) ^^^ wh < 2 ^ (wn + 1) := Nat.xor_lt_two_pow h2 hw
    have hd : ((c * 2) ^^^ wh) >>> wn = 0 := by
      rw [Nat.shiftRight_xor_distrib, h]
      have e1 : wh >>> wn < 2 := by
        rw [Nat.shiftRight_eq_div_pow]
        exact Nat.div_lt_of_lt_mul (by rw [← Nat.pow_succ]; exact hw)
      have e2 : (wh >>> wn).testBit 0 = true := by rw [Nat.testBit_shiftRight]; simpa using hb
      have e3 : wh >>> wn = 1 := by
        generalize wh >>> wn = z at e1 e2
        have hz : z = 0 ∨ z = 1 := by omega
        rcases hz with rfl | rfl
        · simp at e2
        · rfl
      rw [e3]; rfl
    rw [Nat.shiftRight_eq_div_pow] at hd
    exact (Nat.div_eq_zero_iff_lt (Nat.two_pow_pos wn)).mp hd
  · rename_i h
    rw [Nat.shiftRight_eq_div_pow] at h
    have h3 : c * 2 / 2 ^ wn < 2 := Nat.div_lt_of_lt_mul (by rw [← Nat.pow_succ]; exact h2)
    have h4 : c * 2 / 2 ^ wn = 0 := by
      generalize c * 2 / 2 ^ wn = z at h h3
      omega
    exact (Nat.div_eq_zero_iff_lt (Nat.two_pow_pos wn)).mp h4
theorem stepG_lt {wn wh c : Nat} (hw : wh < 2 ^ (wn + 1)) (hc : c < 2 ^ wn) : stepG wh c < 2 ^ wn := by
  have hc2 : c < 2 ^ (wn + 1) := by rw [Nat.pow_succ]; omega
  unfold stepG
  have : (if c % 2 = 1 then c ^^^ wh else c) < 2 ^ (wn + 1) := by
    split
    · exact Nat.xor_lt_two_pow hc2 hw
    · exact hc2
  rw [Nat.pow_succ] at this
  omega
end Mine
-- BgSteps
namespace Mine
theorem two_pow_w (w0 : Nat) : (2 : Int) ^ ((1 + (w0 : Int)).toNat) = (2 : Int) ^ (w0 + 1) := by rw [show (1 + (w0 : Int)).toNat = w0 + 1 by omega]
theorem dbl_cast (c : Nat) : (c : Int) * 2 = ((c * 2 : Nat) : Int) := by omega
theorem stepX_yes {w0 wh c : Nat} (h : ((c : Int) * 2).fdiv (2 ^ ((1 + (w0 : Int)).toNat)) = 1) : Builtin.bitXor ((c : Int) * 2) (wh : Int) = ((stepX (w0 + 1) wh c : Nat) : Int) := by
  rw [two_pow_w, dbl_cast, shr_cast] at h
  have h' : (c * 2) >>> (w0 + 1) = 1 := by omega
  unfold stepX
  rw [if_pos h', dbl_cast, xor_cast]
theorem stepX_no {w0 wh c : Nat} (h : ((c : Int) * 2).fdiv (2 ^ ((1 + (w0 : Int)).toNat)) ≠ 1) : (c : Int) * 2 = ((stepX (w0 + 1) wh c : Nat) : Int) := by
  rw [two_pow_w, dbl_cast, shr_cast] at h
  have h' : ¬ (c * 2) >>> (w0 + 1) = 1 := by omega
  unfold stepX
  rw [if_neg h', dbl_cast]
theorem half_cast (c : Nat) : (c : Int).fdiv 2 = ((c / 2 : Nat) : Int) := by
  rw [Int.fdiv_eq_ediv_of_nonneg _ (by decide)]; omega
theorem stepG_yes {wh c : Nat} (h : (c : Int).fmod 2 = 1) : (Builtin.bitXor (c : Int) (wh : Int)).fdiv 2 = ((stepG wh c : Nat) : Int) := by
  rw [Int.fmod_eq_emod_of_nonneg _ (by decide)] at h
  unfold stepG
  rw [if_pos (by omega), xor_cast, half_cast]
theorem stepG_no {wh c : Nat} (h : (c : Int).fmod 2 ≠ 1) : (c : Int).fdiv 2 = ((stepG wh c : Nat) : Int) := by
  rw [Int.fmod_eq_emod_of_nonneg _ (by decide)] at h
  unfold stepG
  rw [if_neg (by omega), half_cast]
theorem count_cast (w0 dn : Nat) : (1 + (w0 : Int) + (dn : Int) - 1).fdiv (dn : Int) * (dn : Int) = (((w0 + dn) / dn * dn : Nat) : Int) := by
  rw [Int.fdiv_eq_ediv_of_nonneg _ (by omega), show (1 + (w0 : Int) + (dn : Int) - 1) = ((w0 + dn : Nat) : Int) by omega, Int.natCast_mul, Int.natCast_ediv]
theorem count_ge {w0 dn : Nat} (h : 1 ≤ dn) : w0 + 1 ≤ (w0 + dn) / dn * dn := by
  have h1 := Nat.div_add_mod (w0 + dn) dn
  have h2 := Nat.mod_lt (w0 + dn) (show 0 < dn by omega)
  rw [Nat.mul_comm] at h1
  omega
theorem count_q {w0 dn : Nat} (h : 1 ≤ dn) (hw : w0 ≤ 15) : (w0 + dn) / dn ≤ 16 := by
  have : (w0 + dn) / dn < 17 := Nat.div_lt_of_lt_mul (by omega)
  omega
theorem count_le {w0 dn : Nat} : (w0 + dn) / dn * dn ≤ w0 + dn := Nat.div_mul_le_self _ _
theorem whole_lt {w0 pn : Nat} (h : pn < 2 ^ (w0 + 1)) : 2 ^ (w0 + 1) ||| pn < 2 ^ (w0 + 1 + 1) :=
  Nat.or_lt_two_pow (by rw [Nat.pow_succ]; have := Nat.two_pow_pos (w0 + 1); omega) (by rw [Nat.pow_succ]; omega)
theorem whole_top {w0 pn : Nat} : (2 ^ (w0 + 1) ||| pn).testBit (w0 + 1) = true := by
  rw [Nat.testBit_or, Nat.testBit_two_pow_self]; rfl
end Mine
-- BgZero
namespace Mine
open PySem.Spec PySem.Calls
theorem ints_rep (t : Tok) : ∀ n : Nat, IntsAre (List.replicate n (Value.int 0 t)) (List.replicate n (0 : Int))
  | 0 => .nil
  | n + 1 => .cons _ _ (ints_rep t n)
theorem flat_rep {α : Type} (a : α) : ∀ n : Nat, (List.replicate n [a]).flatten = List.replicate n a
  | 0 => rfl
  | n + 1 => by rw [List.replicate_succ, List.flatten_cons, flat_rep a n]; rfl
theorem zeros_mul {prog : Program} {w : World} {A : Around} {E : Value → Shared → Prop} {s : Shared} {h₀ : Heap} {L : Addr} {m : Str → Option Value} {news : List (Addr × Obj)} {l : Addr} {x : Int} {t u : Tok} {n : Nat} {Q : Value → Shared → Prop}
    (Fm : Fr h₀ L s.heap m) (N : News h₀ L s.heap news) (hl : s.heap.IsList l [Value.int 0 t].toArray) (hx : x = (n : Int)) (hn : n ≤ 64)
    (h : ∀ D ws h', IntsAre ws (List.replicate n (0 : Int)) → Fr h₀ L h' m → News h₀ L h' ((D, listOf (List.toArray ws) 0) :: news) → (∀ p ∈ news, p.1 < D) → Q (.ref D) { s with heap := h' }) :
    wpAny (model prog w) A (binaryOp .Mult (.ref l) (.int x u)) Q E s := by
  subst hx
  refine KMa.mul Fm N hl (by omega) (by omega) (by simp; omega) rfl ?_
  rw [Int.toNat_natCast, flat_rep]
  intro D h' F' N' l1
  exact h D _ h' (ints_rep t n) F' N' l1
theorem high_map (w0 rt : Nat) : (rangeKs 0 (w0 + 1)).map (fun k => Builtin.bitAnd ((rt : Int).fdiv (2 ^ ((1 + (w0 : Int) - 1 - k).toNat))) 1) = (highBits (w0 + 1) rt).map fun (b : Nat) => (b : Int) := by
  unfold highBits rangeKs
  rw [List.map_map, List.map_map]
  apply List.map_congr_left
  intro k hk
  have hk := List.mem_range.mp hk
  show Builtin.bitAnd ((rt : Int).fdiv (2 ^ ((1 + (w0 : Int) - 1 - (0 + (k : Int))).toNat))) 1 = (((rt >>> (w0 + 1 - 1 - k)) % 2 : Nat) : Int)
  rw [show (1 + (w0 : Int) - 1 - (0 + (k : Int))).toNat = w0 + 1 - 1 - k by omega, bit_cast]
theorem rep_cast (n : Nat) : List.replicate n (0 : Int) = (List.replicate n 0).map fun (b : Nat) => (b : Int) := by
  rw [List.map_replicate]; rfl
theorem bits_two (k n w : Nat) : ∀ b ∈ List.replicate k 0 ++ highBits n w, b < 2 := by
  intro b hb
  rcases List.mem_append.mp hb with h | h
  · rw [(List.mem_replicate.mp h).2]; omega
  · obtain ⟨j, _, rfl⟩ := List.mem_map.mp h
    omega
theorem chunkVal_lt {low : Bool} {row : List Nat} (h : ∀ b ∈ row, b < 2) : chunkVal low row < 2 ^ row.length := by
  unfold chunkVal
  split
  · rw [← List.length_reverse]
    exact bitsVal_lt _ (fun b hb => h b (List.mem_reverse.mp hb))
  · exact bitsVal_lt _ h
theorem tail_small {ns9 ww : List Int} {low : Bool} {bb : List Nat} {q dn : Nat} (h1 : ∀ z ∈ ns9, ∃ k : Nat, z = k ∧ k < 2 ^ dn) (h2 : ww = (List.range q).map fun j => ((chunkVal low ((bb.drop (j * dn)).take dn) : Nat) : Int)) (hb : ∀ b ∈ bb, b < 2) :
    ∀ z ∈ ns9 ++ ww, ∃ k : Nat, z = k ∧ k < 2 ^ dn := by
  intro z hz
  rcases List.mem_append.mp hz with h | h
  · exact h1 z h
  · subst h2
    obtain ⟨j, _, rfl⟩ := List.mem_map.mp h
    refine ⟨_, rfl, Nat.lt_of_lt_of_le (chunkVal_lt fun b hb' => hb b (List.mem_of_mem_drop (List.mem_of_mem_take hb'))) ?_⟩
    exact Nat.pow_le_pow_right (by omega) (by rw [List.length_take]; omega)
end Mine
-- BgPlain
namespace Mine
/-- times x, modulo x^n + p, on n bits -/
def tx (n p c : Nat) : Nat := (c <<< 1) % 2 ^ n ^^^ (if c.testBit (n - 1) then p else 0)
def iterT (n p : Nat) : Nat → Nat → Nat
  | 0, c => c
  | k + 1, c => tx n p (iterT n p k c)
theorem ite_bit (b : Bool) (p i : Nat) : (if b = true then p else 0).testBit i = (b && p.testBit i) := by
  cases b
  · simp
  · simp
theorem tx_bit (n p c i : Nat) : (tx n p c).testBit i = ((decide (i < n) && (decide (1 ≤ i) && c.testBit (i - 1))) ^^ (c.testBit (n - 1) && p.testBit i)) := by
  unfold tx
  rw [Nat.testBit_xor, Nat.testBit_mod_two_pow, Nat.testBit_shiftLeft, ite_bit]
theorem tx_xor (n p a b : Nat) : tx n p (a ^^^ b) = tx n p a ^^^ tx n p b := by
  apply Nat.eq_of_testBit_eq
  intro i
  rw [Nat.testBit_xor, tx_bit, tx_bit, tx_bit, Nat.testBit_xor, Nat.testBit_xor]
  cases decide (i < n) <;> cases decide (1 ≤ i) <;> cases a.testBit (i - 1) <;> cases b.testBit (i - 1) <;> cases a.testBit (n - 1) <;> cases b.testBit (n - 1) <;> cases p.testBit i <;> rfl
theorem tx_lt {n p : Nat} (hp : p < 2 ^ n) (c : Nat) : tx n p c < 2 ^ n := by
  unfold tx
  refine Nat.xor_lt_two_pow (Nat.mod_lt _ (Nat.two_pow_pos n)) ?_
  split
  · exact hp
  · exact Nat.two_pow_pos n
theorem iterT_lt {n p c : Nat} (hp : p < 2 ^ n) (hc : c < 2 ^ n) : ∀ k, iterT n p k c < 2 ^ n
  | 0 => hc
  | _ + 1 => tx_lt hp _
theorem iterT_xor (n p : Nat) (a b : Nat) : ∀ k, iterT n p k (a ^^^ b) = iterT n p k a ^^^ iterT n p k b
  | 0 => rfl
  | k + 1 => by
    show tx n p (iterT n p k (a ^^^ b)) = tx n p (iterT n p k a) ^^^ tx n p (iterT n p k b)
    rw [iterT_xor n p a b k, tx_xor]
theorem bit_hi {c n i : Nat} (h : c < 2 ^ n) (hi : n ≤ i) : c.testBit i = false :=
  Nat.testBit_lt_two_pow (Nat.lt_of_lt_of_le h (pow_le hi))
theorem stepC_tx {n p c : Nat} (hn : 1 ≤ n) (hp : p < 2 ^ n) : stepC (2 ^ (n - 1)) p c % 2 ^ n = tx n p (c % 2 ^ n) := by
  have e : stepC (2 ^ (n - 1)) p c = (c <<< 1) ^^^ (if c.testBit (n - 1) then p else 0) := by
    unfold stepC
    have : (c &&& 2 ^ (n - 1) ≠ 0) ↔ c.testBit (n - 1) = true := by
      constructor
      · intro h
        cases hb : c.testBit (n - 1) with
        | true => rfl
        | false =>
          refine absurd (Nat.eq_of_testBit_eq fun i => ?_) h
          rw [Nat.testBit_and, Nat.testBit_two_pow, Nat.zero_testBit]
          by_cases q : n - 1 = i
          · subst q; rw [hb]; rfl
          · simp [q]
      · intro h e
        have e2 : (c &&& 2 ^ (n - 1)).testBit (n - 1) = true := by rw [Nat.testBit_and, Nat.testBit_two_pow_self, h]; rfl
        rw [e] at e2
        simp at e2
    by_cases h : c.testBit (n - 1) = true
    · rw [if_pos (this.mpr h), if_pos h]
    · rw [if_neg (fun q => h (this.mp q)), if_neg h, Nat.xor_zero]
  rw [e]
  apply Nat.eq_of_testBit_eq
  intro i
  rw [tx_bit, Nat.testBit_mod_two_pow, Nat.testBit_xor, Nat.testBit_shiftLeft, ite_bit, Nat.testBit_mod_two_pow, Nat.testBit_mod_two_pow]
  by_cases hi : i < n
  · have h1 : i - 1 < n := by omega
    have h2 : n - 1 < n := by omega
    simp [hi, h1, h2]
  · have h2 : n - 1 < n := by omega
    simp [hi, bit_hi hp (show n ≤ i by omega)]
theorem iterC_tx {n p c : Nat} (hn : 1 ≤ n) (hp : p < 2 ^ n) : ∀ k, iterC (2 ^ (n - 1)) p k c % 2 ^ n = iterT n p k (c % 2 ^ n)
  | 0 => rfl
  | k + 1 => by
    show stepC (2 ^ (n - 1)) p (iterC (2 ^ (n - 1)) p k c) % 2 ^ n = tx n p (iterT n p k (c % 2 ^ n))
    rw [stepC_tx hn hp, iterC_tx hn hp k]
theorem tx_reg {W D P r : Nat} (hW : 1 ≤ W) : tx (W + D) (P <<< D) (r <<< D) = (tx W P r) <<< D := by
  apply Nat.eq_of_testBit_eq
  intro i
  rw [tx_bit, Nat.testBit_shiftLeft, Nat.testBit_shiftLeft, Nat.testBit_shiftLeft, Nat.testBit_shiftLeft, tx_bit]
  have e1 : W + D - 1 - D = W - 1 := by omega
  have e2 : decide (W + D - 1 ≥ D) = true := decide_eq_true (by omega)
  rw [e1, e2]
  by_cases h : D ≤ i
  · have e3 : decide (i < W + D) = decide (i - D < W) := by
      by_cases q : i - D < W
      · rw [decide_eq_true q, decide_eq_true (by omega)]
      · rw [decide_eq_false q, decide_eq_false (by omega)]
    rw [e3]
    by_cases h1 : i = D
    · subst h1
      have e6 : i = 0 ∨ ¬ (i ≤ i - 1) := by omega
      rcases e6 with e6 | e6
      · subst e6; simp
      · simp [e6]
    · have e4 : i - 1 - D = i - D - 1 := by omega
      have e5 : (1 ≤ i) = True := by simp; omega
      have e6 : (i - 1 ≥ D) = True := by simp; omega
      have e7 : (1 ≤ i - D) = True := by simp; omega
      have e8 : (i ≥ D) = True := by simp; omega
      simp [e4, e5, e6, e7, e8]
  · have e6 : ¬ (i - 1 ≥ D) := by omega
    have e8 : ¬ (i ≥ D) := by omega
    simp [e6, e8]
theorem tx_word {W D P w : Nat} (hD : 1 ≤ D) : tx (W + D) (P <<< D) (w <<< W) = (if w.testBit (D - 1) then P else 0) <<< D ^^^ ((w <<< 1) % 2 ^ D) <<< W := by
  apply Nat.eq_of_testBit_eq
  intro i
  rw [tx_bit, Nat.testBit_shiftLeft, Nat.testBit_shiftLeft, Nat.testBit_shiftLeft, Nat.testBit_xor, Nat.testBit_shiftLeft, Nat.testBit_shiftLeft, ite_bit, Nat.testBit_mod_two_pow, Nat.testBit_shiftLeft]
  have e1 : W + D - 1 - W = D - 1 := by omega
  have e2 : decide (W + D - 1 ≥ W) = true := decide_eq_true (by omega)
  rw [e1, e2, Bool.true_and, Bool.xor_comm]
  congr 1
  · cases w.testBit (D - 1) <;> simp
  · by_cases h : W + 1 ≤ i
    · have e4 : i - 1 - W = i - W - 1 := by omega
      have e3 : decide (i < W + D) = decide (i - W < D) := by
        by_cases q : i - W < D
        · rw [decide_eq_true q, decide_eq_true (by omega)]
        · rw [decide_eq_false q, decide_eq_false (by omega)]
      rw [e3, e4]
      have e5 : (1 ≤ i) = True := by simp; omega
      have e6 : (i - 1 ≥ W) = True := by simp; omega
      have e7 : (i - W ≥ 1) = True := by simp; omega
      have e8 : (i ≥ W) = True := by simp; omega
      simp [e5, e6, e7, e8]
    · have e7 : ¬ (i - W ≥ 1) := by omega
      have e6 : i = 0 ∨ ¬ (i - 1 ≥ W) := by omega
      rcases e6 with e6 | e6
      · subst e6; simp
      · simp [e6, e7]
end Mine
-- BgPlain2
namespace Mine
/-- the register, one message bit -/
def feed1 (W P r b : Nat) : Nat := tx W P r ^^^ (if b = 1 then P else 0)
def feed (W P r : Nat) (l : List Nat) : Nat := l.foldl (feed1 W P) r
theorem feed1_lt {W P : Nat} (hP : P < 2 ^ W) (r b : Nat) : feed1 W P r b < 2 ^ W := by
  unfold feed1
  refine Nat.xor_lt_two_pow (tx_lt hP r) ?_
  split
  · exact hP
  · exact Nat.two_pow_pos W
theorem feed_lt {W P : Nat} (hP : P < 2 ^ W) : ∀ (l : List Nat) {r : Nat}, r < 2 ^ W → feed W P r l < 2 ^ W
  | [], _, h => h
  | _ :: l, _, _ => feed_lt hP l (feed1_lt hP _ _)
theorem feed_append (W P r : Nat) (a b : List Nat) : feed W P r (a ++ b) = feed W P (feed W P r a) b := List.foldl_append ..
/-- the first i bits of w, the highest of n first -/
def topBits (n i w : Nat) : List Nat := (List.range i).map fun k => (w >>> (n - 1 - k)) % 2
theorem topBits_succ (n i w : Nat) : topBits n (i + 1) w = topBits n i w ++ [(w >>> (n - 1 - i)) % 2] := by
  unfold topBits
  rw [List.range_succ, List.map_append]
  rfl
theorem topBits_all (n w : Nat) : topBits n n w = highBits n w := rfl
theorem shr_bit (w k : Nat) : ((w >>> k) % 2 = 1) ↔ w.testBit k = true := by
  have h : (w >>> k).testBit 0 = w.testBit k := by rw [Nat.testBit_shiftRight]; rfl
  rw [← h, Nat.testBit_zero]
  exact decide_eq_true_iff.symm
theorem if_shr_bit (w k P : Nat) : (if (w >>> k) % 2 = 1 then P else 0) = (if w.testBit k = true then P else 0) := by
  by_cases h : w.testBit k = true
  · rw [if_pos h, if_pos ((shr_bit w k).mpr h)]
  · rw [if_neg h, if_neg (fun q => h ((shr_bit w k).mp q))]
theorem shl_mod_succ (w n i : Nat) : (((w <<< i) % 2 ^ n) <<< 1) % 2 ^ n = (w <<< (i + 1)) % 2 ^ n := by
  apply Nat.eq_of_testBit_eq
  intro j
  rw [Nat.testBit_mod_two_pow, Nat.testBit_shiftLeft, Nat.testBit_mod_two_pow, Nat.testBit_shiftLeft, Nat.testBit_mod_two_pow, Nat.testBit_shiftLeft]
  by_cases h : j < n
  · by_cases h1 : i + 1 ≤ j
    · have e1 : j - 1 < n := by omega
      have e2 : i ≤ j - 1 := by omega
      have e3 : 1 ≤ j := by omega
      have e4 : j - 1 - i = j - (i + 1) := by omega
      simp [h, h1, e1, e2, e3, e4]
    · have e1 : ¬ (1 ≤ j ∧ i ≤ j - 1) := by omega
      by_cases q : 1 ≤ j
      · have e2 : ¬ i ≤ j - 1 := fun z => e1 ⟨q, z⟩
        simp [h1, e2]
      · simp [h1, q]
  · simp [h]
theorem shl_mod_top {w n i : Nat} (h : i < n) : ((w <<< i) % 2 ^ n).testBit (n - 1) = w.testBit (n - 1 - i) := by
  rw [Nat.testBit_mod_two_pow, Nat.testBit_shiftLeft]
  have e1 : n - 1 < n := by omega
  have e2 : i ≤ n - 1 := by omega
  simp [e1, e2]
theorem shl_mod_zero (w n : Nat) : (w <<< n) % 2 ^ n = 0 := by
  rw [Nat.shiftLeft_eq]
  exact Nat.mul_mod_left ..
theorem iterT_word {W D P r w : Nat} (hW : 1 ≤ W) (hw : w < 2 ^ D) : ∀ i, i ≤ D →
    iterT (W + D) (P <<< D) i ((r <<< D) ^^^ (w <<< W)) = (feed W P r (topBits D i w)) <<< D ^^^ ((w <<< i) % 2 ^ D) <<< W
  | 0, _ => by
    have e : (w <<< 0) % 2 ^ D = w := by rw [Nat.shiftLeft_zero]; exact Nat.mod_eq_of_lt hw
    rw [e]
    rfl
  | i + 1, hi => by
    show tx (W + D) (P <<< D) (iterT (W + D) (P <<< D) i ((r <<< D) ^^^ (w <<< W))) = _
    rw [iterT_word hW hw i (by omega), tx_xor, tx_reg hW, tx_word (by omega), shl_mod_succ, shl_mod_top (by omega), topBits_succ, feed_append]
    show _ = (feed1 W P (feed W P r (topBits D i w)) ((w >>> (D - 1 - i)) % 2)) <<< D ^^^ _
    unfold feed1
    rw [if_shr_bit, Nat.shiftLeft_xor_distrib, Nat.xor_assoc]
theorem wordC_feed {W D P r n : Nat} {b1 : Bool} (hW : 1 ≤ W) (hP : P < 2 ^ W) (hr : r < 2 ^ W) (hn : n < 2 ^ D) :
    wordC W P D b1 (r <<< D) n = (feed W P r (highBits D (if b1 then revN D n else n))) <<< D := by
  have hw : (if b1 then revN D n else n) < 2 ^ D := word_in hn
  unfold wordC
  generalize (if b1 then revN D n else n) = w at hw
  rw [Nat.and_two_pow_sub_one_eq_mod, iterC_tx (by omega) (shl_lt hP)]
  have hb : (r <<< D) ^^^ (w <<< W) < 2 ^ (W + D) := Nat.xor_lt_two_pow (shl_lt hr) (by rw [Nat.add_comm W D]; exact shl_lt hw)
  rw [Nat.mod_eq_of_lt hb, iterT_word hW hw D (Nat.le_refl D), shl_mod_zero, Nat.zero_shiftLeft, Nat.xor_zero, topBits_all]
/-- the message's bits, in the order in which the register takes them -/
def msg (D : Nat) (b1 : Bool) (l : List Nat) : List Nat := (l.map fun n => highBits D (if b1 then revN D n else n)).flatten
theorem msg_append (D : Nat) (b1 : Bool) (a b : List Nat) : msg D b1 (a ++ b) = msg D b1 a ++ msg D b1 b := by
  unfold msg
  rw [List.map_append, List.flatten_append]
theorem regC_feed {W D P iv : Nat} {b1 : Bool} (hW : 1 ≤ W) (hP : P < 2 ^ W) (hiv : iv < 2 ^ W) {l : List Nat} (hl : ∀ n ∈ l, n < 2 ^ D) :
    regC W P iv D b1 l = (feed W P iv (msg D b1 l)) <<< D := by
  unfold regC
  have go : ∀ (l : List Nat) (r : Nat), r < 2 ^ W → (∀ n ∈ l, n < 2 ^ D) → l.foldl (wordC W P D b1) (r <<< D) = (feed W P r (msg D b1 l)) <<< D := by
    intro l
    induction l with
    | nil => intro r _ _; rfl
    | cons n t ih =>
      intro r hr h
      rw [List.foldl_cons, wordC_feed hW hP hr (h n (.head _)), ih _ (feed_lt hP _ hr) (fun x hx => h x (.tail _ hx))]
      show _ = (feed W P r (highBits D (if b1 then revN D n else n) ++ msg D b1 t)) <<< D
      rw [feed_append]
  exact go l iv hiv hl
theorem compN_feed {W D P iv xn : Nat} {b1 b2 : Bool} (hW : 1 ≤ W) (hP : P < 2 ^ W) (hiv : iv < 2 ^ W) {l : List Nat} (hl : ∀ n ∈ l, n < 2 ^ D) :
    compN W P iv b1 b2 xn D l = (if b2 then revN W (feed W P iv (msg D b1 l)) else feed W P iv (msg D b1 l)) ^^^ xn := by
  unfold compN
  rw [regC_feed hW hP hiv hl, Nat.shiftLeft_shiftRight]
end Mine
-- BgPlain3
namespace Mine
theorem bv_hb : ∀ (n w : Nat), w < 2 ^ n → bitsVal (highBits n w) = w
  | 0, w, h => by
    have : w = 0 := by simpa using h
    subst this
    rfl
  | n + 1, w, h => by
    rw [Nat.pow_succ] at h
    rw [highBits_succ, bitsVal_snoc, bv_hb n (w / 2) (by omega)]
    omega
theorem hb_bv_rev : ∀ l : List Nat, (∀ b ∈ l, b < 2) → highBits l.length (bitsVal l.reverse) = l.reverse
  | [], _ => rfl
  | b :: t, h => by
    have hb := h b (.head _)
    rw [List.length_cons, highBits_succ, List.reverse_cons, bitsVal_snoc, show (bitsVal t.reverse * 2 + b) / 2 = bitsVal t.reverse by omega, hb_bv_rev t (fun x hx => h x (.tail _ hx)), show (bitsVal t.reverse * 2 + b) % 2 = b by omega]
theorem hb_bv {l : List Nat} (h : ∀ b ∈ l, b < 2) : highBits l.length (bitsVal l) = l := by
  have q := hb_bv_rev l.reverse (fun b hb => h b (List.mem_reverse.mp hb))
  rw [List.length_reverse, List.reverse_reverse] at q
  exact q
theorem low_high (n w : Nat) : lowBits n w = (highBits n w).reverse := by
  unfold lowBits highBits
  apply List.ext_getElem
  · simp
  · intro i h1 h2
    simp at h1
    rw [List.getElem_reverse]
    simp
    congr 2
    omega
theorem high_two (n w : Nat) : ∀ b ∈ highBits n w, b < 2 := by
  intro b hb
  obtain ⟨j, _, rfl⟩ := List.mem_map.mp hb
  omega
theorem rev_rev {n w : Nat} (h : w < 2 ^ n) : revN n (revN n w) = w := by
  have hl : (lowBits n w).length = n := by simp [lowBits]
  have e : highBits n (bitsVal (lowBits n w)) = lowBits n w := by
    have q := hb_bv (l := lowBits n w) lowBits_lt
    rw [hl] at q
    exact q
  unfold revN
  rw [low_high n (bitsVal (lowBits n w)), e, low_high, List.reverse_reverse, bv_hb n w h]
theorem chunk_bits {D : Nat} {b1 : Bool} {row : List Nat} (hr : row.length = D) (h : ∀ b ∈ row, b < 2) : highBits D (if b1 then revN D (chunkVal b1 row) else chunkVal b1 row) = row := by
  cases b1
  · show highBits D (bitsVal row) = row
    rw [← hr]
    exact hb_bv h
  · show highBits D (revN D (bitsVal row.reverse)) = row
    have e : highBits D (bitsVal row.reverse) = row.reverse := by
      rw [← hr, ← List.length_reverse]
      exact hb_bv (fun b hb => h b (List.mem_reverse.mp hb))
    unfold revN
    rw [low_high, e, List.reverse_reverse, ← hr]
    exact hb_bv h
theorem msg_tail {D : Nat} {b1 : Bool} : ∀ (q : Nat) (bb : List Nat), bb.length = q * D → (∀ b ∈ bb, b < 2) →
    msg D b1 ((List.range q).map fun j => chunkVal b1 ((bb.drop (j * D)).take D)) = bb
  | 0, bb, hl, _ => by
    have : bb = [] := by
      apply List.eq_nil_of_length_eq_zero
      omega
    subst this
    rfl
  | q + 1, bb, hl, h => by
    have hl2 : bb.length = q * D + D := by rw [hl, Nat.succ_mul]
    have ih := msg_tail (D := D) (b1 := b1) q (bb.take (q * D)) (by rw [List.length_take]; omega) (fun b hb => h b (List.mem_of_mem_take hb))
    rw [List.range_succ, List.map_append, msg_append]
    have e1 : ((List.range q).map fun j => chunkVal b1 ((bb.drop (j * D)).take D)) = ((List.range q).map fun j => chunkVal b1 (((bb.take (q * D)).drop (j * D)).take D)) := by
      apply List.map_congr_left
      intro j hj
      have hj := List.mem_range.mp hj
      have h1 : (j + 1) * D ≤ q * D := Nat.mul_le_mul_right D (by omega)
      rw [Nat.succ_mul] at h1
      rw [List.drop_take, List.take_take, Nat.min_eq_left (by omega)]
    rw [e1, ih]
    have hr : (List.take D (List.drop (q * D) bb)).length = D := by rw [List.length_take, List.length_drop]; omega
    have e2 : msg D b1 [chunkVal b1 ((bb.drop (q * D)).take D)] = (bb.drop (q * D)).take D := by
      show highBits D (if b1 then revN D (chunkVal b1 ((bb.drop (q * D)).take D)) else chunkVal b1 ((bb.drop (q * D)).take D)) ++ [] = _
      rw [List.append_nil, chunk_bits hr (fun b hb => h b (List.mem_of_mem_drop (List.mem_of_mem_take hb)))]
    show bb.take (q * D) ++ msg D b1 [chunkVal b1 ((bb.drop (q * D)).take D)] = bb
    have e3 : (bb.drop (q * D)).take D = bb.drop (q * D) := List.take_of_length_le (by rw [List.length_drop]; omega)
    rw [e2, e3, List.take_append_drop]
theorem feed_zeros (W P : Nat) : ∀ (k r : Nat), feed W P r (List.replicate k 0) = iterT W P k r := by
  intro k
  induction k with
  | zero => intro r; rfl
  | succ k ih =>
    intro r
    rw [List.replicate_succ', feed_append, ih]
    show tx W P (iterT W P k r) ^^^ 0 = tx W P (iterT W P k r)
    rw [Nat.xor_zero]
theorem tx_mod {W P c : Nat} (_hW : 1 ≤ W) : tx W P c = (c <<< 1) % 2 ^ W ^^^ (if c.testBit (W - 1) = true then P else 0) := rfl
theorem feed_top {W P r t : Nat} (hW : 1 ≤ W) (ht : t < 2 ^ W) : ∀ i, i ≤ W → feed W P r (topBits W i t) = iterT W P i (r ^^^ t) ^^^ (t <<< i) % 2 ^ W
  | 0, _ => by
    show r = (r ^^^ t) ^^^ (t <<< 0) % 2 ^ W
    rw [Nat.shiftLeft_zero, Nat.mod_eq_of_lt ht, Nat.xor_assoc, Nat.xor_self, Nat.xor_zero]
  | i + 1, hi => by
    rw [topBits_succ, feed_append]
    show feed1 W P (feed W P r (topBits W i t)) ((t >>> (W - 1 - i)) % 2) = tx W P (iterT W P i (r ^^^ t)) ^^^ _
    rw [feed_top hW ht i (by omega)]
    unfold feed1
    rw [if_shr_bit, tx_xor, Nat.xor_assoc]
    congr 1
    rw [tx_mod hW, shl_mod_succ, shl_mod_top (by omega), Nat.xor_assoc, Nat.xor_self, Nat.xor_zero]
theorem feed_high {W P r t : Nat} (hW : 1 ≤ W) (ht : t < 2 ^ W) : feed W P r (highBits W t) = iterT W P W (r ^^^ t) := by
  rw [← topBits_all, feed_top hW ht W (Nat.le_refl W), shl_mod_zero, Nat.xor_zero]
/-- the law's own loops -/
theorem whole_add {W P : Nat} (hP : P < 2 ^ W) : 2 ^ W ||| P = 2 ^ W ^^^ P := by
  apply Nat.eq_of_testBit_eq
  intro i
  rw [Nat.testBit_or, Nat.testBit_xor, Nat.testBit_two_pow]
  by_cases h : W = i
  · subst h
    rw [bit_hi hP (Nat.le_refl _)]
    simp
  · simp [h]
theorem stepX_tx {W P c : Nat} (hW : 1 ≤ W) (hP : P < 2 ^ W) (hc : c < 2 ^ W) : stepX W (2 ^ W ||| P) c = tx W P c := by
  have hs : (c * 2) >>> W = 1 ↔ c.testBit (W - 1) = true := by
    have e1 : c.testBit (W - 1) = ((c * 2) >>> W).testBit 0 := by
      rw [Nat.testBit_shiftRight, show c * 2 = c <<< 1 by rw [Nat.shiftLeft_eq], Nat.testBit_shiftLeft]
      simp [hW]
    have e2 : (c * 2) >>> W < 2 := by
      rw [Nat.shiftRight_eq_div_pow]
      exact Nat.div_lt_of_lt_mul (by omega)
    rw [e1, Nat.testBit_zero]
    generalize (c * 2) >>> W = z at e2
    have : z = 0 ∨ z = 1 := by omega
    rcases this with rfl | rfl <;> simp
  unfold stepX
  by_cases h : c.testBit (W - 1) = true
  · rw [if_pos (hs.mpr h), tx_mod hW, if_pos h, whole_add hP]
    apply Nat.eq_of_testBit_eq
    intro i
    rw [show c * 2 = c <<< 1 by rw [Nat.shiftLeft_eq], Nat.testBit_xor, Nat.testBit_xor, Nat.testBit_xor, Nat.testBit_mod_two_pow, Nat.testBit_two_pow, Nat.testBit_shiftLeft]
    by_cases q : i < W
    · have q2 : ¬ W = i := by omega
      simp [q, q2]
    · by_cases q2 : W = i
      · subst q2
        simp [hW, h]
      · have e1 : c.testBit (i - 1) = false := bit_hi hc (by omega)
        simp [q, q2, e1]
  · rw [if_neg (fun z => h (hs.mp z)), tx_mod hW, if_neg h, Nat.xor_zero]
    have hc2 : c * 2 < 2 ^ W := by
      have e2 : (c * 2) >>> W < 2 := by
        rw [Nat.shiftRight_eq_div_pow]
        exact Nat.div_lt_of_lt_mul (by omega)
      have e3 : (c * 2) >>> W = 0 := by
        have : (c * 2) >>> W ≠ 1 := fun z => h (hs.mp z)
        generalize (c * 2) >>> W = z at e2 this
        omega
      rw [Nat.shiftRight_eq_div_pow] at e3
      exact (Nat.div_eq_zero_iff_lt (Nat.two_pow_pos W)).mp e3
    rw [Nat.shiftLeft_eq, Nat.mod_eq_of_lt hc2]
theorem iterX_tx {W P c : Nat} (hW : 1 ≤ W) (hP : P < 2 ^ W) (hc : c < 2 ^ W) : ∀ k, iterX W (2 ^ W ||| P) k c = iterT W P k c
  | 0 => rfl
  | k + 1 => by
    show stepX W _ (iterX W _ k c) = tx W P (iterT W P k c)
    rw [iterX_tx hW hP hc k, stepX_tx hW hP (iterT_lt hP hc k)]
end Mine
-- BgPlain4
namespace Mine
theorem xor_back (a b : Nat) : a ^^^ (a ^^^ b) = b := by rw [← Nat.xor_assoc, Nat.xor_self, Nat.zero_xor]
theorem xor_back2 (a b : Nat) : (a ^^^ b) ^^^ b = a := by rw [Nat.xor_assoc, Nat.xor_self, Nat.xor_zero]
theorem xor_cancel {a b x : Nat} (h : a ^^^ x = b ^^^ x) : a = b := by
  have := congrArg (· ^^^ x) h
  simpa only [xor_back2] using this
theorem half_bit (e n : Nat) (hn : 1 ≤ n) : (e / 2).testBit (n - 1) = e.testBit n := by
  rw [show n = (n - 1) + 1 by omega, Nat.testBit_succ]
  rfl
theorem tx_stepG {W P c : Nat} (hW : 1 ≤ W) (hP : P < 2 ^ W) (ho : P.testBit 0 = true) (hc : c < 2 ^ W) : tx W P (stepG (2 ^ W ||| P) c) = c := by
  unfold stepG
  by_cases h : c % 2 = 1
  · rw [if_pos h, whole_add hP]
    have hc0 : c.testBit 0 = true := by rw [Nat.testBit_zero]; exact decide_eq_true h
    have he0 : (c ^^^ (2 ^ W ^^^ P)).testBit 0 = false := by
      rw [Nat.testBit_xor, Nat.testBit_xor, Nat.testBit_two_pow, hc0, ho]
      have : ¬ W = 0 := by omega
      simp [this]
    have heW : (c ^^^ (2 ^ W ^^^ P)).testBit W = true := by
      rw [Nat.testBit_xor, Nat.testBit_xor, Nat.testBit_two_pow_self, bit_hi hc (Nat.le_refl _), bit_hi hP (Nat.le_refl _)]
      rfl
    have hei : ∀ i, i < W → (c ^^^ (2 ^ W ^^^ P)).testBit i = (c.testBit i ^^ P.testBit i) := by
      intro i hi
      rw [Nat.testBit_xor, Nat.testBit_xor, Nat.testBit_two_pow]
      have : ¬ W = i := by omega
      simp [this]
    generalize c ^^^ (2 ^ W ^^^ P) = e at he0 heW hei
    rw [Nat.testBit_zero] at he0
    have he2 : e % 2 = 0 := by
      have := of_decide_eq_false he0
      omega
    rw [tx_mod hW, half_bit e W hW, if_pos heW, Nat.shiftLeft_eq, show e / 2 * 2 ^ 1 = e by omega]
    apply Nat.eq_of_testBit_eq
    intro i
    rw [Nat.testBit_xor, Nat.testBit_mod_two_pow]
    by_cases hi : i < W
    · rw [hei i hi]
      simp [hi]
    · rw [bit_hi hc (by omega), bit_hi hP (by omega)]
      simp [hi]
  · rw [if_neg h, tx_mod hW, half_bit c W hW, if_neg (by rw [bit_hi hc (Nat.le_refl _)]; decide), Nat.xor_zero, Nat.shiftLeft_eq, show c / 2 * 2 ^ 1 = c by omega, Nat.mod_eq_of_lt hc]
theorem iterT_out (n p c : Nat) : ∀ k, iterT n p (k + 1) c = iterT n p k (tx n p c)
  | 0 => rfl
  | k + 1 => by
    show tx n p (iterT n p (k + 1) c) = tx n p (iterT n p k (tx n p c))
    rw [iterT_out n p c k]
theorem iterG_lt {W P c : Nat} (hW : P < 2 ^ W) (hc : c < 2 ^ W) : ∀ k, iterG (2 ^ W ||| P) k c < 2 ^ W
  | 0 => hc
  | k + 1 => stepG_lt (Nat.or_lt_two_pow (by rw [Nat.pow_succ]; have := Nat.two_pow_pos W; omega) (by rw [Nat.pow_succ]; omega)) (iterG_lt hW hc k)
theorem iterT_G {W P c : Nat} (hW : 1 ≤ W) (hP : P < 2 ^ W) (ho : P.testBit 0 = true) (hc : c < 2 ^ W) : ∀ k, iterT W P k (iterG (2 ^ W ||| P) k c) = c
  | 0 => rfl
  | k + 1 => by
    rw [iterT_out]
    show iterT W P k (tx W P (stepG (2 ^ W ||| P) (iterG (2 ^ W ||| P) k c))) = c
    rw [tx_stepG hW hP ho (iterG_lt hP hc k), iterT_G hW hP ho hc k]
theorem tx_zero {W P z : Nat} (hW : 1 ≤ W) (ho : P.testBit 0 = true) (hz : z < 2 ^ W) (h : tx W P z = 0) : z = 0 := by
  have h0 : ∀ i, (tx W P z).testBit i = false := fun i => by rw [h, Nat.zero_testBit]
  have ht : z.testBit (W - 1) = false := by
    have := h0 0
    rw [tx_bit, ho] at this
    simpa using this
  apply Nat.eq_of_testBit_eq
  intro i
  rw [Nat.zero_testBit]
  have := h0 (i + 1)
  rw [tx_bit, ht] at this
  by_cases h1 : i + 1 < W
  · simpa [h1] using this
  · by_cases h2 : i = W - 1
    · rw [h2]; exact ht
    · exact bit_hi hz (by omega)
theorem tx_inj {W P a b : Nat} (hW : 1 ≤ W) (ho : P.testBit 0 = true) (ha : a < 2 ^ W) (hb : b < 2 ^ W) (h : tx W P a = tx W P b) : a = b := by
  have hz := tx_zero hW ho (Nat.xor_lt_two_pow ha hb) (by rw [tx_xor, h, Nat.xor_self])
  have := xor_back a b
  rw [hz, Nat.xor_zero] at this
  exact this
theorem feed_inj {W P : Nat} (hW : 1 ≤ W) (hP : P < 2 ^ W) (ho : P.testBit 0 = true) : ∀ (l : List Nat) {r s : Nat}, r < 2 ^ W → s < 2 ^ W → feed W P r l = feed W P s l → r = s
  | [], _, _, _, _, h => h
  | b :: t, r, s, hr, hs, h => by
    have h1 : feed1 W P r b = feed1 W P s b := feed_inj hW hP ho t (feed1_lt hP r b) (feed1_lt hP s b) h
    unfold feed1 at h1
    exact tx_inj hW ho hr hs (xor_cancel h1)
theorem feed_flip {W P : Nat} (hW : 1 ≤ W) (hP : P < 2 ^ W) (ho : P.testBit 0 = true) : ∀ (l : List Nat) (i r : Nat), r < 2 ^ W → i < l.length → (∀ b ∈ l, b < 2) → feed W P r (l.set i (1 - l.getD i 0)) ≠ feed W P r l
  | [], _, _, _, h, _ => absurd h (Nat.not_lt_zero _)
  | b :: t, 0, r, hr, _, hb => by
    intro h
    have h1 : feed1 W P r (1 - b) = feed1 W P r b := feed_inj hW hP ho t (feed1_lt hP r _) (feed1_lt hP r b) h
    unfold feed1 at h1
    rw [Nat.xor_comm (tx W P r), Nat.xor_comm (tx W P r)] at h1
    have h2 := xor_cancel h1
    have h3 := hb b (.head _)
    have hp : P ≠ 0 := fun e => by rw [e] at ho; simp at ho
    have hb' : b = 0 ∨ b = 1 := by omega
    rcases hb' with rfl | rfl
    · exact hp (by simpa using h2)
    · exact hp (by simpa using h2.symm)
  | b :: t, i + 1, r, hr, hi, hb => feed_flip hW hP ho t i (feed1 W P r b) (feed1_lt hP r b) (Nat.lt_of_succ_lt_succ hi) (fun x hx => hb x (.tail _ hx))
end Mine
-- BgLaw
namespace Mine
def tailW (low : Bool) (dn q : Nat) (bb : List Nat) : List Nat := (List.range q).map fun j => chunkVal low ((bb.drop (j * dn)).take dn)
structure Setup (w0 p0 iv xn gn dn qn cn lv gv lw gw wh lz gz rt : Nat) (b1 b2 : Bool) (ms bb : List Nat) : Prop where
  hd1 : 1 ≤ dn
  hiv : iv < 2 ^ (w0 + 1)
  hxn : xn < 2 ^ (w0 + 1)
  hgn : gn < 2 ^ (w0 + 1)
  hpn : p0 ||| 1 < 2 ^ (w0 + 1)
  hms : ∀ n ∈ ms, n < 2 ^ dn
  hcn : qn * dn = cn
  hge : w0 + 1 ≤ cn
  hlv : compN (w0 + 1) (p0 ||| 1) iv b1 b2 xn dn ms ^^^ xn = lv
  hgv : gn ^^^ xn = gv
  hlw : (if b2 = true then revN (w0 + 1) lv else lv) = lw
  hgw : (if b2 = true then revN (w0 + 1) gv else gv) = gw
  hwh : 2 ^ (w0 + 1) ||| (p0 ||| 1) = wh
  hlz : lz = iterX (w0 + 1) wh (cn - (w0 + 1)) lw
  hgz : gz = iterG wh (w0 + 1) gw
  hrt : lz ^^^ gz = rt
  hbb : List.replicate (cn - (w0 + 1)) 0 ++ highBits (w0 + 1) rt = bb
theorem odd_bit (p0 : Nat) : (p0 ||| 1).testBit 0 = true := by
  rw [Nat.testBit_or]
  simp
theorem tailW_lt {b1 : Bool} {dn q : Nat} {bb : List Nat} (hb : ∀ b ∈ bb, b < 2) : ∀ n ∈ tailW b1 dn q bb, n < 2 ^ dn := by
  intro n hn
  obtain ⟨j, _, rfl⟩ := List.mem_map.mp hn
  exact Nat.lt_of_lt_of_le (chunkVal_lt fun b hb' => hb b (List.mem_of_mem_drop (List.mem_of_mem_take hb'))) (Nat.pow_le_pow_right (by omega) (by rw [List.length_take]; omega))
theorem compN_tail {w0 P iv xn dn q : Nat} {b1 b2 : Bool} {ms bb : List Nat} (hP : P < 2 ^ (w0 + 1)) (hiv : iv < 2 ^ (w0 + 1)) (hms : ∀ n ∈ ms, n < 2 ^ dn) (hb : ∀ b ∈ bb, b < 2) (hl : bb.length = q * dn) :
    compN (w0 + 1) P iv b1 b2 xn dn (ms ++ tailW b1 dn q bb) = (if b2 then revN (w0 + 1) (feed (w0 + 1) P (feed (w0 + 1) P iv (msg dn b1 ms)) bb) else feed (w0 + 1) P (feed (w0 + 1) P iv (msg dn b1 ms)) bb) ^^^ xn := by
  rw [compN_feed (by omega) hP hiv (fun n hn => (List.mem_append.mp hn).elim (hms n) (tailW_lt hb n)), msg_append, feed_append]
  have e : msg dn b1 (tailW b1 dn q bb) = bb := msg_tail q bb hl hb
  rw [e]
theorem setup_feed {w0 p0 iv xn gn dn qn cn lv gv lw gw wh lz gz rt : Nat} {b1 b2 : Bool} {ms bb : List Nat} (S : Setup w0 p0 iv xn gn dn qn cn lv gv lw gw wh lz gz rt b1 b2 ms bb) :
    feed (w0 + 1) (p0 ||| 1) (feed (w0 + 1) (p0 ||| 1) iv (msg dn b1 ms)) bb = gw ∧ (if b2 = true then revN (w0 + 1) gw else gw) ^^^ xn = gn ∧ (∀ b ∈ bb, b < 2) ∧ bb.length = qn * dn ∧ gw < 2 ^ (w0 + 1) := by
  obtain ⟨hd1, hiv, hxn, hgn, hpn, hms, hcn, hge, hlv, hgv, hlw, hgw, hwh, hlz, hgz, hrt, hbb⟩ := S
  have hW : 1 ≤ w0 + 1 := by omega
  generalize hR : feed (w0 + 1) (p0 ||| 1) iv (msg dn b1 ms) = R
  have hR2 : R < 2 ^ (w0 + 1) := by rw [← hR]; exact feed_lt hpn _ hiv
  have hlwR : lw = R := by
    rw [← hlw, ← hlv, compN_feed hW hpn hiv hms, hR, xor_back2]
    cases b2
    · rfl
    · exact rev_rev hR2
  have hgv2 : gv < 2 ^ (w0 + 1) := by rw [← hgv]; exact Nat.xor_lt_two_pow hgn hxn
  have hgw2 : gw < 2 ^ (w0 + 1) := by
    rw [← hgw]
    cases b2
    · exact hgv2
    · exact revN_lt _ _
  have hlz2 : lz = iterT (w0 + 1) (p0 ||| 1) (cn - (w0 + 1)) R := by rw [hlz, ← hwh, iterX_tx hW hpn (by rw [hlwR]; exact hR2), hlwR]
  have hgz2 : gz < 2 ^ (w0 + 1) := by rw [hgz, ← hwh]; exact iterG_lt hpn hgw2 _
  have hlz3 : lz < 2 ^ (w0 + 1) := by rw [hlz2]; exact iterT_lt hpn hR2 _
  have hrt2 : rt < 2 ^ (w0 + 1) := by rw [← hrt]; exact Nat.xor_lt_two_pow hlz3 hgz2
  refine ⟨?_, ?_, ?_, ?_, hgw2⟩
  · rw [← hbb, feed_append, feed_zeros, ← hlz2, feed_high hW hrt2, ← hrt, xor_back, hgz, ← hwh, iterT_G hW hpn (odd_bit p0) hgw2]
  · rw [← hgw]
    cases b2
    · show gv ^^^ xn = gn
      rw [← hgv, xor_back2]
    · show revN (w0 + 1) (revN (w0 + 1) gv) ^^^ xn = gn
      rw [rev_rev hgv2, ← hgv, xor_back2]
  · rw [← hbb]
    exact bits_two _ _ _
  · rw [← hbb, List.length_append, List.length_replicate, highBits_length]
    omega
theorem law_hits {w0 p0 iv xn gn dn qn cn lv gv lw gw wh lz gz rt : Nat} {b1 b2 : Bool} {ms bb : List Nat} (S : Setup w0 p0 iv xn gn dn qn cn lv gv lw gw wh lz gz rt b1 b2 ms bb) :
    compN (w0 + 1) (p0 ||| 1) iv b1 b2 xn dn (ms ++ tailW b1 dn qn bb) = gn := by
  obtain ⟨h1, h2, h3, h4, _⟩ := setup_feed S
  rw [compN_tail S.hpn S.hiv S.hms h3 h4, h1, h2]
theorem law_misses {w0 p0 iv xn gn dn qn cn lv gv lw gw wh lz gz rt pk : Nat} {b1 b2 : Bool} {ms bb : List Nat} (S : Setup w0 p0 iv xn gn dn qn cn lv gv lw gw wh lz gz rt b1 b2 ms bb) (hpk : pk < cn) :
    compN (w0 + 1) (p0 ||| 1) iv b1 b2 xn dn (ms ++ tailW b1 dn qn (bb.set pk (1 - bb.getD pk 0))) ≠ gn := by
  obtain ⟨h1, h2, h3, h4, h5⟩ := setup_feed S
  have hb' : ∀ b ∈ bb.set pk (1 - bb.getD pk 0), b < 2 := by
    intro b hb
    rcases List.mem_or_eq_of_mem_set hb with q | q
    · exact h3 b q
    · omega
  have hR2 : feed (w0 + 1) (p0 ||| 1) iv (msg dn b1 ms) < 2 ^ (w0 + 1) := feed_lt S.hpn _ S.hiv
  have hne := feed_flip (by omega) S.hpn (odd_bit p0) bb pk _ hR2 (by rw [h4, S.hcn]; exact hpk) h3
  rw [compN_tail S.hpn S.hiv S.hms hb' (by rw [List.length_set]; exact h4), ← h2]
  rw [h1] at hne
  have hf := feed_lt S.hpn (bb.set pk (1 - bb.getD pk 0)) hR2
  intro e
  refine hne ?_
  have e1 := xor_cancel e
  cases b2
  · exact e1
  · have e2 : revN (w0 + 1) _ = revN (w0 + 1) gw := e1
    have := congrArg (revN (w0 + 1)) e2
    rw [rev_rev hf, rev_rev h5] at this
    exact this
theorem nat_words {ns9 ww : List Int} {low : Bool} {q dn : Nat} {bb : List Nat} (h : ww = (List.range q).map fun j => ((chunkVal low ((bb.drop (j * dn)).take dn) : Nat) : Int)) :
    (ns9 ++ ww).map Int.toNat = ns9.map Int.toNat ++ tailW low dn q bb := by
  subst h
  rw [List.map_append, List.map_map]
  rfl
theorem nat_small {ns9 : List Int} {dn : Nat} (h : ∀ z ∈ ns9, ∃ k : Nat, z = k ∧ k < 2 ^ dn) : ∀ n ∈ ns9.map Int.toNat, n < 2 ^ dn := by
  intro n hn
  obtain ⟨z, hz, rfl⟩ := List.mem_map.mp hn
  obtain ⟨k, rfl, hk⟩ := h z hz
  exact hk
theorem fmod_nat (pl cn : Nat) : ((pl : Int)).fmod (cn : Int) = ((pl % cn : Nat) : Int) := by
  rw [Int.fmod_eq_emod_of_nonneg _ (by omega)]
  rfl
theorem flip_cast {bb : List Nat} {pk : Nat} (h : ∀ b ∈ bb, b < 2) (hp : pk < bb.length) : 1 - (bb.map fun (b : Nat) => (b : Int)).getD pk 0 = ((1 - bb.getD pk 0 : Nat) : Int) := by
  have h1 : bb.getD pk 0 < 2 := by
    rw [List.getD_eq_getElem?_getD, List.getElem?_eq_getElem hp]
    exact h _ (List.getElem_mem hp)
  have h2 : (bb.map fun (b : Nat) => (b : Int)).getD pk 0 = ((bb.getD pk 0 : Nat) : Int) := by
    rw [List.getD_eq_getElem?_getD, List.getD_eq_getElem?_getD, List.getElem?_map, List.getElem?_eq_getElem hp]
    rfl
  rw [h2]
  omega
theorem flip_set (bb : List Nat) (pk x : Nat) : (bb.map fun (b : Nat) => (b : Int)).set pk (x : Int) = (bb.set pk x).map fun (b : Nat) => (b : Int) := by
  rw [List.map_set]
theorem flip_two {bb : List Nat} {pk : Nat} (h : ∀ b ∈ bb, b < 2) : ∀ b ∈ bb.set pk (1 - bb.getD pk 0), b < 2 := by
  intro b hb
  rcases List.mem_or_eq_of_mem_set hb with h1 | h1
  · exact h b h1
  · omega
end Mine
namespace Mine
open PySem.Spec PySem.Calls
local macro_rules | `(tactic| walk_at "DRAW") => `(tactic| (k_dflt (refine' draw_use draw_tells ?k1 ?k2 ?k3 ?k4 ?k5 ?k6 ?kl ?kU ?ki ?kn ?kb ?i0 ?i1 ?x0 ?x1 ?m0 ?m1 ?kd ?ku ?_; (case k1 => k_asm); (case k2 => k_asm); (case k3 => k_asm); (case k4 => k_asm); (case k5 => k_asm); (case k6 => exact rfl); (case kU => (intro _ _ _; k_upd)); (case kl => k_mem); (case ki => l_ints); (case kn => (simp only [List.length_take]; omega)); (case kb => k_ne); (case i0 => omega); (case i1 => omega); (case x0 => first | omega | exact Int.fmod_nonneg_of_pos _ (by decide)); (case x1 => first | omega | exact Int.fmod_lt_of_pos _ (by decide)); (case m0 => omega); (case m1 => omega); (case kd => k_room); (case ku => ktr_units))))
local macro_rules | `(tactic| walk_at "ITEM") => `(tactic| (k_dflt (refine' size_item ?l ?k0 ?k1 ?_ ?s; (case l => is_list); (case k0 => omega); (case k1 => omega); (case s => with_unfolding_all rfl))))
local macro_rules | `(tactic| walk_at "call ref") => `(tactic| ((with_reducible show wpAny _ _ (PySem.call (Value.ref 150) _) _ _ _); refine Stop.intro ?_))
local macro_rules | `(tactic| walk_at "subscriptTail") => `(tactic| ((with_reducible show wpAny _ _ (subscriptTail (Expr.List _ _) _ (Value.ref _) (Value.int _ _)) _ _ _); refine Stop.intro ?_))
local macro_rules | `(tactic| walk_at "CompSrc") => `(tactic| ((with_reducible show PyProof.Rows.LCg.CompSrc _ _ _ _ _ _ _ _ (Str.ofString "place") _ _ _ _ _); refine Stop.intro ?_))
local macro_rules | `(tactic| walk_at "binaryOp LShift int int") => `(tactic| ((with_reducible show wpAny _ _ (binaryOp _ (Value.int 1 _) (Value.int _ _)) _ _ _); refine Stop.intro ?_))
local macro_rules | `(tactic| k_ne) => `(tactic| first | exact neN (Ne.symm (PyProof.Rows.LCg.Off3.mem (by assumption) (_, _) (by k_mem)).1) | exact neN (Ne.symm (PyProof.Rows.LCg.Off3.mem (by assumption) (_, _) (by k_mem)).2.1) | exact neN (Ne.symm (PyProof.Rows.LCg.Off3.mem (by assumption) (_, _) (by k_mem)).2.2) | fail "off")
local macro_rules | `(tactic| k_ne) => `(tactic| first | exact neN (Ne.symm (off1_mem (by assumption) (_, _) (by k_mem))) | exact neN (off1_mem (by assumption) (_, _) (by k_mem)) | fail "off")
local macro_rules | `(tactic| walk_at "call builtin:_operator.index") => `(tactic| refine call_index ?_)
local macro_rules | `(tactic| walk_at "call ref") => `(tactic| ((with_reducible show wpAny _ _ (PySem.call (Value.ref 71) _ _) _ _ _); refine Stop.intro ?_))
local macro_rules | `(tactic| walk_at "call ref") => `(tactic| ((with_reducible show wpAny _ _ (PySem.call (Value.ref 112) _ _) _ _ _); refine Stop.intro ?_))
local macro_rules | `(tactic| walk_at "call ref") => `(tactic| ((with_reducible show wpAny _ _ (PySem.call (Value.ref 155) _ _) _ _ _); refine Stop.intro ?_))
local macro_rules | `(tactic| walk_at "call ref") => `(tactic| ((with_reducible show wpAny _ _ (PySem.call (Value.ref 160) _ _) _ _ _); refine Stop.intro ?_))
local macro_rules | `(tactic| walk_at "call ref") => `(tactic| ((with_reducible show wpAny _ _ (PySem.call (Value.ref _) [Value.int _ _] _) _ _ _); refine Stop.intro ?_))
local macro_rules | `(tactic| walk_at "exec If") => `(tactic| ((with_reducible show wpAny _ _ (exec (Stmt.If (Expr.Name (Str.ofString "turn_out") _) _ _ _) _) _ _ _); refine Stop.intro ?_))
local macro_rules | `(tactic| walk_at "exec For Name Call cons nil") => `(tactic| ((rename Fr _ _ _ _ => lF'); (with_unfolding_all refine' For_invVF lF' ?k1 ?k2 ?_; (case k1 => exact rfl); (case k2 => exact rfl); k_whole)))
local macro_rules | `(tactic| walk_at "pyIter ref") => `(tactic| ((with_reducible show wpAny _ _ (pyIter (Value.ref _)) (fun it s₂ => LoopAtV _ _ _ _ _ _ _ _ _ it s₂) _ _); refine Stop.intro ?_))
local macro_rules | `(tactic| walk_at "InvEndN") => `(tactic| refine Stop.intro ?_)
local macro_rules | `(tactic| walk_at "CompSrc") => `(tactic| ((with_reducible show PyProof.Rows.LCg.CompSrc _ _ _ _ _ _ _ _ (Str.ofString "at") _ _ _ _ _); refine Stop.intro ?_))
local macro_rules | `(tactic| walk_at "binaryOp Add ref ref") => `(tactic| refine Stop.intro ?_)
local macro_rules | `(tactic| walk_at "exec Return some") => `(tactic| ((with_reducible show wpAny _ _ (exec (Stmt.Return (some (Expr.Constant _ _ _)) _) _) _ _ _); refine Stop.intro ?_))
local macro_rules | `(tactic| walk_at "setItem ref int") => `(tactic| refine Stop.intro ?_)
local macro_rules | `(tactic| walk_at "binaryOp Mult ref int") => `(tactic| refine Stop.intro ?_)
theorem law_holds : PySem.Challenge.rw_bg5001_01.Holds := hd (by
  k_go0
  all_goals try k_fold
  k_steps
  -- width
  refine Stop.mk ?_
  walk_at "DRAW"
  intro rW tW hW9 tkW xW taW tbW rW0 rW1 xW0 xW1 FW NW
  k_sweep
  k_steps
  -- size
  refine Stop.mk ?_
  walk_at "DRAW"
  intro rS tS hS9 tkS xS taS tbS rS0 rS1 xS0 xS1 FS NS
  k_sweep
  k_steps
  refine Stop.mk ?_
  walk_at "ITEM"
  intro zD tD zD0 zD1
  k_steps
  -- poly
  refine Stop.mk ?_
  refine shl_one (by omega) (by omega) ?_
  intro M1 tM1 hM1 hM10 hM11
  k_steps
  refine Stop.mk ?_
  walk_at "DRAW"
  intro rP tP hP9 tkP xP taP tbP rP0 rP1 xP0 xP1 FP NP
  k_sweep
  k_steps
  -- first
  refine Stop.mk ?_
  refine shl_one (by omega) (by omega) ?_
  intro M2 tM2 hM2 hM20 hM21
  k_steps
  refine Stop.mk ?_
  walk_at "DRAW"
  intro rI tI hI9 tkI xI taI tbI rI0 rI1 xI0 xI1 FI NI
  k_sweep
  k_steps
  -- last
  refine Stop.mk ?_
  refine shl_one (by omega) (by omega) ?_
  intro M3 tM3 hM3 hM30 hM31
  k_steps
  refine Stop.mk ?_
  walk_at "DRAW"
  intro rX tX hX9 tkX xX taX tbX rX0 rX1 xX0 xX1 FX NX
  k_sweep
  k_steps
  -- turn_in
  refine Stop.mk ?_
  walk_at "DRAW"
  intro rA tA hA9 tkA xA taA tbA rA0 rA1 xA0 xA1 FA NA
  k_sweep
  k_steps
  -- turn_out
  refine Stop.mk ?_
  walk_at "DRAW"
  intro rB tB hB9 tkB xB taB tbB rB0 rB1 xB0 xB1 FB NB
  k_sweep
  k_steps
  -- wanted
  refine Stop.mk ?_
  refine shl_one (by omega) (by omega) ?_
  intro M4 tM4 hM4 hM40 hM41
  k_steps
  refine Stop.mk ?_
  walk_at "DRAW"
  intro rG tG hG9 tkG xG taG tbG rG0 rG1 xG0 xG1 FG NG
  k_sweep
  k_steps
  -- words
  refine Stop.mk ?_
  walk_at "DRAW"
  intro rC tC hC9 tkC xC taC tbC rC0 rC1 xC0 xC1 FC NC
  k_sweep
  k_steps
  refine Stop.mk ?_
  k_dflt (refine' comp_draws (M := 2 ^ zD.toNat) _ ?k0 ?k1 ?k2 ?k3 ?kU ?kB ?kb0 ?kb1 ?kx0 ?kx1 ?_ ?_)
  case k0 => exact rfl
  case k1 => k_asm
  case k2 => k_asm
  case k3 => k_asm
  case kB => k_mem
  case kU => intro _ _ _ _; k_upd
  case kb0 => omega
  case kb1 => omega
  case kx0 => omega
  case kx1 => omega
  · intro g9 i9 ys9 ns9 b9 t91 x9 t92 vi9 I9 oI9 C9 oC9 D9 m9 h9 tk9 E9 hi9 hv9 hI9 hn9 hb9 hb9' hx9 hx9' hN9 hm9 F9 N9 off9 ne9
    try dsimp only
    try k_fold
    k_steps
    refine Stop.mk ?_
    refine shl_one (by omega) (by omega) ?_
    intro M5 tM5 hM5 hM50 hM51
    k_steps
    refine Stop.mk ?_
    walk_at "DRAW"
    intro rV tV hV9 tkV xV taV tbV rV0 rV1 xV0 xV1 FV NV
    k_sweep
    k_unfold
    refine PyProof.Rows.LCg.CompEnd.intro FV NV _ ?cs ?co trivial ⟨rV, tV, b9 + 1, taV, xV, tbV, rfl, rV0, ?cl, rfl, by omega, by omega, xV0, xV1⟩
    case cs => intro p hp; exact hp
    case co => simp only [PyProof.Rows.LCg.Off3, and_true] at off9 ⊢; exact off9
    case cl => rw [← hM5]; exact rV1
  · intro g9 ys9 ns9 b9 t91 x9 t92 hI9 hn9 hz9 hb9 hb9' hx9 hx9'
    unfold PyProof.Rows.LCg.FinA
    intro D9 hD9 tkD FD ND offD
    try dsimp only
    try k_fold
    k_steps
    -- place
    refine Stop.mk ?_
    refine shl_one (by omega) (by omega) ?_
    intro M6 tM6 hM6 hM60 hM61
    k_steps
    refine Stop.mk ?_
    walk_at "DRAW"
    intro rL tL hL9 tkL xL taL tbL rL0 rL1 xL0 xL1 FL NL
    k_sweep
    replace NL := news_drop1 (news_drop1 (news_drop1 (news_drop1 (news_drop1 (news_drop1 (news_drop1 NL))))))

    obtain ⟨w0, rfl⟩ : ∃ k : Nat, rW = k := ⟨rW.toNat, by omega⟩
    obtain ⟨dn, rfl⟩ : ∃ k : Nat, zD = k := ⟨zD.toNat, by omega⟩
    obtain ⟨p0, rfl⟩ : ∃ k : Nat, rP = k := ⟨rP.toNat, by omega⟩
    obtain ⟨iv, rfl⟩ : ∃ k : Nat, rI = k := ⟨rI.toNat, by omega⟩
    obtain ⟨xn, rfl⟩ : ∃ k : Nat, rX = k := ⟨rX.toNat, by omega⟩
    obtain ⟨gn, rfl⟩ : ∃ k : Nat, rG = k := ⟨rG.toNat, by omega⟩
    obtain ⟨pl, rfl⟩ : ∃ k : Nat, rL = k := ⟨rL.toNat, by omega⟩
    have e2w : (2 : Int) ^ ((1 + (w0 : Int)).toNat) = ((2 ^ (w0 + 1) : Nat) : Int) := by rw [show (1 + (w0 : Int)).toNat = w0 + 1 by omega, kbt_cast]
    have hwn : 1 + (w0 : Int) = ((w0 + 1 : Nat) : Int) := by omega
    have hor : Builtin.bitOr (p0 : Int) 1 = ((p0 ||| 1 : Nat) : Int) := or_cast p0 1
    have hp0 : p0 < 2 ^ (w0 + 1) := by omega
    have hiv : iv < 2 ^ (w0 + 1) := by omega
    have hxn : xn < 2 ^ (w0 + 1) := by omega
    have hgn : gn < 2 ^ (w0 + 1) := by omega
    have hpn : p0 ||| 1 < 2 ^ (w0 + 1) := Nat.or_lt_two_pow hp0 (Nat.one_lt_two_pow (by omega))
    have hwords : ∀ z ∈ ns9, ∃ k : Nat, z = k ∧ k < 2 ^ dn := fun z hz => by
      obtain ⟨h1, h2⟩ := hz9 z hz
      rw [Int.toNat_natCast, ← kbt_cast] at h2
      exact ⟨z.toNat, by omega, by omega⟩
    k_steps
    refine Stop.mk ?_
    k_dflt (refine' alg_use alg_tells ?k1 ?k2 ?k3 ?k4 ?k5 ?a1 ?a2 ?a3 ?a4 ?a5 ?a6 ?a7 ?a8 ?_; (case k1 => k_asm); (case k2 => k_asm); (case k3 => k_asm); (case k4 => k_asm); (case k5 => k_asm); (case a1 => omega); (case a2 => omega); (case a3 => rw [hor]; omega); (case a4 => rw [hor, e2w]; omega); (case a5 => omega); (case a6 => rw [e2w]; omega); (case a7 => omega); (case a8 => rw [e2w]; omega))
    intro xa da ka1 ka2 ka3 ka4 ka5 ka6 hA tkA1 FAl NAl lA1 lA2
    k_sweep
    k_steps
    refine Stop.mk ?_
    k_dflt (refine' par_use par_tells ?k1 ?k2 ?k3 ?k4 ?k5 ?a1 ?a2 ?a3 ?a4 ?_; (case k1 => k_asm); (case k2 => k_asm); (case k3 => k_asm); (case k4 => k_asm); (case k5 => k_asm); (case a1 => exact lA1); (case a2 => exact lA2); (case a3 => omega); (case a4 => omega))
    intro xo do9 jo1 jo2 jo3 jo4 jo5 jo6 jo7 hB tkB1 FBo NBo lB1 lB2
    k_sweep
    replace lB1 := allLt_of lB1
    simp only [AllLt, and_true] at lB1
    k_steps
    refine Stop.mk ?_
    k_dflt (refine' comp_use comp_tells (w0 + 1) (p0 ||| 1) iv xn dn ?k1 ?k2 ?k3 ?k4 ?k5 ?m1 ?m2 ?m3 ?i1 ?i2 ?i3 ?i4 ?i5 ?i6 ?i7 ?i8 ?i9 ?ia ?ib ?ic ?id ?ie ?_; (case k1 => k_asm); (case k2 => k_asm); (case k3 => k_asm); (case k4 => k_asm); (case k5 => k_asm); (case m1 => k_mem); (case m2 => k_mem); (case m3 => k_mem))
    case i1 => l_ints
    case i2 => exact hwords
    case i3 => exact hwn
    case i4 => exact hor
    case i5 => rfl
    case i6 => rfl
    case i7 => rfl
    case i8 => omega
    case i9 => omega
    case ia => omega
    case ib => omega
    case ic => exact hpn
    case id => exact hiv
    case ie => exact hxn
    intro tc1 hc1 tkc1 Fc1 Nc1
    k_sweep
    k_steps
    refine Stop.mk ?_
    rename Fr _ _ _ _ => FI1
    rename News _ _ _ _ => NI1
    have elv : Builtin.bitXor ((compN (w0 + 1) (p0 ||| 1) iv (rA == 1) (rB == 1) xn dn (ns9.map Int.toNat) : Nat) : Int) (xn : Int) = ((compN (w0 + 1) (p0 ||| 1) iv (rA == 1) (rB == 1) xn dn (ns9.map Int.toNat) ^^^ xn : Nat) : Int) := xor_cast _ _
    have egv : Builtin.bitXor (gn : Int) (xn : Int) = ((gn ^^^ xn : Nat) : Int) := xor_cast _ _
    rw [elv, egv] at FI1
    generalize hlv : compN (w0 + 1) (p0 ||| 1) iv (rA == 1) (rB == 1) xn dn (ns9.map Int.toNat) ^^^ xn = lv at FI1
    generalize hgv : gn ^^^ xn = gv at FI1
    have hlv2 : lv < 2 ^ (w0 + 1) := by rw [← hlv]; exact Nat.xor_lt_two_pow (compN_lt (by omega) hiv hxn) hxn
    have hgv2 : gv < 2 ^ (w0 + 1) := by rw [← hgv]; exact Nat.xor_lt_two_pow hgn hxn
    refine if_cut (if (rB == 1) then revN (w0 + 1) lv else lv) (if (rB == 1) then revN (w0 + 1) gv else gv) FI1 NI1 ?_ ?_
    · intro Q9 J9
      refine wpAny_If ?_
      k_steps
      · have hB1 : (rB == 1) = true := beq_iff_eq.mpr (by omega)
        refine Stop.mk ?_
        k_dflt (refine' turn_use turn_tells lv (w0 + 1) ?k1 ?k2 ?k3 ?k4 ?k5 ?k6 rfl hwn (by omega) (by omega) hlv2 ?kd ?ku ?_; (case k1 => k_asm); (case k2 => k_asm); (case k3 => k_asm); (case k4 => k_asm); (case k5 => k_asm); (case k6 => exact rfl); (case kd => k_room); (case ku => ktr_units))
        intro tq1 hq1 tkq1 Fq1 Nq1
        k_steps
        refine Stop.mk ?_
        k_dflt (refine' turn_use turn_tells gv (w0 + 1) ?k1 ?k2 ?k3 ?k4 ?k5 ?k6 rfl hwn (by omega) (by omega) hgv2 ?kd ?ku ?_; (case k1 => k_asm); (case k2 => k_asm); (case k3 => k_asm); (case k4 => k_asm); (case k5 => k_asm); (case k6 => exact rfl); (case kd => k_room); (case ku => ktr_units))
        intro tq2 hq2 tkq2 Fq2 Nq2
        k_steps
        rename Fr _ _ _ _ => FE
        rename News _ _ _ _ => NE
        have q1 : (if (rB == 1) = true then revN (w0 + 1) lv else lv) = revN (w0 + 1) lv := if_pos hB1
        have q2 : (if (rB == 1) = true then revN (w0 + 1) gv else gv) = revN (w0 + 1) gv := if_pos hB1
        rw [q1, q2] at J9
        refine J9 _ _ _ _ (fr_cut2 FE (fun z h1 h2 => ?_) rfl rfl) (kst_newsOf NE (fun p hp => .tail _ hp))
        (try dsimp only)
        rw [if_neg h1, if_neg h2]
      · have hB1 : (rB == 1) = false := beq_eq_false_iff_ne.mpr (by omega)
        have q1 : (if (rB == 1) = true then revN (w0 + 1) lv else lv) = lv := if_neg (by rw [hB1]; decide)
        have q2 : (if (rB == 1) = true then revN (w0 + 1) gv else gv) = gv := if_neg (by rw [hB1]; decide)
        rw [q1, q2] at J9
        exact J9 _ _ _ _ (fr_cut FI1 rfl rfl) NI1
    clear FI1 NI1
    intro tl9 tg9 hJ tkJ FJ NJ
    generalize hlw : (if (rB == 1) = true then revN (w0 + 1) lv else lv) = lw at FJ
    generalize hgw : (if (rB == 1) = true then revN (w0 + 1) gv else gv) = gw at FJ
    have hlw2 : lw < 2 ^ (w0 + 1) := by
      rw [← hlw]
      split
      · exact revN_lt _ _
      · exact hlv2
    have hgw2 : gw < 2 ^ (w0 + 1) := by
      rw [← hgw]
      split
      · exact revN_lt _ _
      · exact hgv2
    have hw16 : 2 ^ (w0 + 1) ≤ 2 ^ 16 := pow_le (by omega)
    (try dsimp only)
    try k_fold
    k_steps
    refine Stop.mk ?_
    refine shl_one (by omega) (by omega) ?_
    intro M7 tM7 hM7 hM70 hM71
    k_steps
    refine Stop.mk ?_
    rename Fr _ _ _ _ => FL1
    rename News _ _ _ _ => NL1
    rename IsRange _ _ _ _ _ _ _ _ => RL1
    have eW : Builtin.bitOr M7 (Builtin.bitOr (p0 : Int) 1) = ((2 ^ (w0 + 1) ||| (p0 ||| 1) : Nat) : Int) := by rw [hM7, e2w, hor, or_cast]
    have hge := count_ge (w0 := w0) (dn := dn) (by omega)
    have hqn := count_q (w0 := w0) (dn := dn) (by omega) (by omega)
    have hcle := count_le (w0 := w0) (dn := dn)
    rw [eW, count_cast] at FL1
    rw [count_cast] at RL1
    have hwh1 := whole_lt hpn
    have hwh2 : (2 ^ (w0 + 1) ||| (p0 ||| 1)).testBit (w0 + 1) = true := whole_top
    generalize hwh : 2 ^ (w0 + 1) ||| (p0 ||| 1) = wh at FL1 hwh1 hwh2
    generalize hq9 : (w0 + dn) / dn = qn at FL1 RL1 hge hqn hcle
    generalize hcn : qn * dn = cn at FL1 RL1 hge hcle
    k_dflt (refine' nat_range (y := Str.ofString "left") (n := cn - (w0 + 1)) [] (fun pre c => c = iterX (w0 + 1) wh pre.length lw ∧ c < 2 ^ (w0 + 1)) lw ?hh RL1 ?hsm ?hn FL1 NL1 ?hk ⟨rfl, hlw2⟩ ?_ ?_)
    case hh => exact rfl
    case hsm => exact small_one (by omega) (by omega) (by omega) (by omega)
    case hn => rw [rangeSize_nat]; omega
    case hk => exact rfl
    · intro c' tc' pre' k' tk' u' hp' tq' own' hk' hlt' hoff' hP' F2 N2
      have hst : stepX (w0 + 1) wh c' = iterX (w0 + 1) wh (pre' ++ [k']).length lw ∧ stepX (w0 + 1) wh c' < 2 ^ (w0 + 1) := by
        rw [List.length_append, List.length_singleton]
        exact ⟨by rw [hP'.1]; rfl, stepX_lt hwh1 hwh2 hP'.2⟩
      try simp only [List.cons_append, List.nil_append] at N2
      clear FL1 NL1
      try k_fold
      k_steps
      · refine Stop.mk ?_
        rename Fr _ _ _ _ => FE
        rename News _ _ _ _ => NE
        rename Int.fdiv _ _ = 1 => hset
        rw [stepX_yes hset] at FE
        refine nat_end (stepX (w0 + 1) wh c') _ FE NE ?n1 ?n2 rfl (fun z h1 h2 h3 => ?n3) hst
        case n1 => first | kst_in | kst_inAny
        case n2 => first | (intro p hp; kst_mem) | kst_anyIn
        case n3 => (try dsimp only); simp only [h2, if_false]; exact natFr_same h1 h2 h3
      · refine Stop.mk ?_
        rename Fr _ _ _ _ => FE
        rename News _ _ _ _ => NE
        have hset : ((c' : Int) * 2).fdiv (2 ^ ((1 + (w0 : Int)).toNat)) ≠ 1 := by first | assumption | (intro hh9; simp_all)
        rw [stepX_no (wh := wh) hset] at FE
        refine nat_end (stepX (w0 + 1) wh c') _ FE NE ?n1 ?n2 rfl (fun z h1 h2 h3 => ?n3) hst
        case n1 => first | kst_in | kst_inAny
        case n2 => first | (intro p hp; kst_mem) | kst_anyIn
        case n3 => (try dsimp only); simp only [h2, if_false]; exact natFr_same h1 h2 h3
    intro lz tlz ulz hL2 tkL2 hPlz FL2 NL2
    clear FL1 NL1
    rw [rangeKs_length] at hPlz
    try k_fold
    k_steps
    refine Stop.mk ?_
    rename Fr _ _ _ _ => FL3
    rename News _ _ _ _ => NL3
    rename IsRange _ _ _ _ _ _ _ _ => RL3
    rw [hwn] at RL3
    k_dflt (refine' nat_range (y := Str.ofString "goal") (n := w0 + 1) [] (fun pre c => c = iterG wh pre.length gw ∧ c < 2 ^ (w0 + 1)) gw ?hh RL3 ?hsm ?hn FL3 NL3 ?hk ⟨rfl, hgw2⟩ ?_ ?_)
    case hh => exact rfl
    case hsm => exact small_one (by omega) (by omega) (by omega) (by omega)
    case hn => rw [rangeSize_nat]; omega
    case hk => exact rfl
    · intro c' tc' pre' k' tk' u' hp' tq' own' hk' hlt' hoff' hP' F2 N2
      have hst : stepG wh c' = iterG wh (pre' ++ [k']).length gw ∧ stepG wh c' < 2 ^ (w0 + 1) := by
        rw [List.length_append, List.length_singleton]
        exact ⟨by rw [hP'.1]; rfl, stepG_lt hwh1 hP'.2⟩
      try simp only [List.cons_append, List.nil_append] at N2
      clear FL3 NL3
      try k_fold
      k_steps
      · refine Stop.mk ?_
        rename Fr _ _ _ _ => FE
        rename News _ _ _ _ => NE
        have hset : (c' : Int).fmod 2 = 1 := by first | assumption | (simp_all; done)
        rw [stepG_yes hset] at FE
        refine nat_end (stepG wh c') _ FE NE ?n1 ?n2 rfl (fun z h1 h2 h3 => ?n3) hst
        case n1 => first | kst_in | kst_inAny
        case n2 => first | (intro p hp; kst_mem) | kst_anyIn
        case n3 => (try dsimp only); simp only [h2, if_false]; exact natFr_same h1 h2 h3
      · refine Stop.mk ?_
        rename Fr _ _ _ _ => FE
        rename News _ _ _ _ => NE
        have hset : (c' : Int).fmod 2 ≠ 1 := by first | assumption | (intro hh9; simp_all)
        rw [stepG_no (wh := wh) hset] at FE
        refine nat_end (stepG wh c') _ FE NE ?n1 ?n2 rfl (fun z h1 h2 h3 => ?n3) hst
        case n1 => first | kst_in | kst_inAny
        case n2 => first | (intro p hp; kst_mem) | kst_anyIn
        case n3 => (try dsimp only); simp only [h2, if_false]; exact natFr_same h1 h2 h3
    intro gz tgz ugz hL4 tkL4 hPgz FL4 NL4
    clear FL3 NL3
    rw [rangeKs_length] at hPgz
    try k_fold
    k_steps
    rename (_ = Data.cell (some (Value.int (Builtin.bitXor _ _) _))) => dR
    rw [xor_cast] at dR
    generalize hrt : lz ^^^ gz = rt at dR
    have hrt2 : rt < 2 ^ (w0 + 1) := by rw [← hrt]; exact Nat.xor_lt_two_pow hPlz.2 hPgz.2
    have hzz : (cn : Int) - (1 + (w0 : Int)) = ((cn - (w0 + 1) : Nat) : Int) := by omega
    refine Stop.mk ?_
    refine' zeros_mul ?k1 ?k2 ?k3 hzz ?k5 ?_
    case k1 => k_asm
    case k2 => k_asm
    case k3 => is_list
    case k5 => omega
    intro Dz zs hz0 Iz Fz Nz lz9
    k_steps
    refine Stop.mk ?_
    rename IsRange _ _ _ _ _ _ _ _ => RL5
    rename Fr _ _ _ _ => FX2
    rename News _ _ _ _ => NX2
    rw [hwn] at RL5
    refine LCg.CompSrc.range rfl FX2 NX2 RL5 (small_one (by omega) (by omega) (by omega) (by omega)) (rangeSize_nat _ _) (by rw [PySem.sizeLine_eq]; omega) ?_
    intro g'
    refine' kcf_range (fun k => Builtin.bitAnd ((rt : Int).fdiv (2 ^ ((1 + (w0 : Int) - 1 - k).toNat))) 1) (fun k' t' I' oI' C' oC' D' m' ys' h' tk' E' hlo' hhi' hC' hx' F' N' off' ne' hMark' => ?_) ?_
    · (try k_fold)
      k_steps
    k_steps
    refine Stop.mk ?_
    k_sweep
    rename Fr _ _ _ _ => FX3
    rename News _ _ _ _ => NX3
    rename IntsAre _ (List.map (fun k => Builtin.bitAnd _ _) _) => hI8
    rw [show (((w0 + 1 : Nat) : Int) - 0).toNat = w0 + 1 by omega, high_map] at hI8
    refine' kmk_add_ints FX3 NX3 ?qa ?qb Iz hI8 ?_ ?qz
    case qa => is_list
    case qb => is_list
    case qz => (rw [PySem.sizeLine_eq, List.length_replicate, List.length_map, highBits_length]; omega)
    intro Db bs hb0 Fb Nb lb9 Ib
    rw [rep_cast, ← List.map_append] at Ib
    have hbl : (List.replicate (cn - (w0 + 1)) 0 ++ highBits (w0 + 1) rt).length = qn * dn := by rw [List.length_append, List.length_replicate, highBits_length]; omega
    have hb2 := bits_two (cn - (w0 + 1)) (w0 + 1) rt
    generalize hbb : List.replicate (cn - (w0 + 1)) 0 ++ highBits (w0 + 1) rt = bb at Ib hbl hb2
    k_steps
    refine Stop.mk ?_
    k_dflt (refine' words_use words_tells bb qn dn ?k1 ?k2 ?k3 ?k4 ?k5 ?m1 Ib rfl hb2 hbl hqn rfl ?d1 ?d2 ?_; (case k1 => k_asm); (case k2 => k_asm); (case k3 => k_asm); (case k4 => k_asm); (case k5 => k_asm); (case m1 => k_mem))
    case d1 => omega
    case d2 => omega
    intro aw yw ww kw hw9 tkw9 Iw hww Fw Nw lw9
    k_steps
    refine Stop.mk ?_
    refine' kmk_add_ints Fw Nw ?qa ?qb hI9 Iw ?_ ?qz
    case qa => is_list
    case qb => is_list
    case qz => (rw [PySem.sizeLine_eq, hww, List.length_map, List.length_range]; omega)
    intro Dt ts ht0 Ft Nt lt9 It
    have hts : ∀ z ∈ ns9 ++ ww, ∃ k : Nat, z = k ∧ k < 2 ^ dn := tail_small hwords hww hb2
    k_steps
    refine Stop.mk ?_
    k_dflt (refine' comp_use comp_tells (w0 + 1) (p0 ||| 1) iv xn dn ?k1 ?k2 ?k3 ?k4 ?k5 ?m1 ?m2 ?m3 It hts hwn hor rfl rfl rfl ?i8 ?i9 ?ia ?ib hpn hiv hxn ?_; (case k1 => k_asm); (case k2 => k_asm); (case k3 => k_asm); (case k4 => k_asm); (case k5 => k_asm); (case m1 => k_mem); (case m2 => k_mem); (case m3 => k_mem))
    case i8 => omega
    case i9 => omega
    case ia => omega
    case ib => omega
    intro td hd0 tkd0 Fd Nd
    have hsetup : Setup w0 p0 iv xn gn dn qn cn lv gv lw gw wh lz gz rt (rA == 1) (rB == 1) (ns9.map Int.toNat) bb := ⟨by omega, hiv, hxn, hgn, hpn, nat_small hwords, hcn, hge, hlv, hgv, hlw, hgw, hwh, hPlz.1, hPgz.1, hrt, hbb⟩
    have hhit := law_hits hsetup
    rw [← nat_words hww] at hhit
    k_steps
    · refine Stop.mk ?_
      exact absurd (congrArg (fun (n : Nat) => (n : Int)) hhit) (by assumption)
    refine Stop.mk ?_
    have hpk : pl % cn < cn := Nat.mod_lt _ (by omega)
    have hmiss := law_misses hsetup hpk
    rw [fmod_nat]
    generalize pl % cn = pk at hpk hmiss ⊢
    have hcb : pk < bb.length := by omega
    rw [Int.toNat_natCast, flip_cast hb2 hcb]
    refine' ksa_set ?k1 ?k2 ?k3 Ib ?k5 ?k6 ?k7 ?_
    case k1 => k_asm
    case k2 => k_asm
    case k3 =>
      k_lt lb9
      k_lt lw9
      k_lt lt9
      k_upd
    case k5 => omega
    case k6 => (rw [List.length_map]; omega)
    case k7 => omega
    intro hf9 Ff Nf If _ _
    rw [Int.toNat_natCast, flip_set] at If
    rw [Int.toNat_natCast] at Nf
    have hbl' : (bb.set pk (1 - bb.getD pk 0)).length = qn * dn := by rw [List.length_set]; exact hbl
    have hb2' := flip_two (pk := pk) hb2
    generalize hbf : bb.set pk (1 - bb.getD pk 0) = bf at If hbl' hb2' hmiss
    k_sweep
    k_steps
    refine Stop.mk ?_
    k_dflt (refine' words_use words_tells bf qn dn ?k1 ?k2 ?k3 ?k4 ?k5 ?m1 If rfl hb2' hbl' hqn rfl ?d1 ?d2 ?_; (case k1 => k_asm); (case k2 => k_asm); (case k3 => k_asm); (case k4 => k_asm); (case k5 => k_asm); (case m1 => k_mem))
    case d1 => omega
    case d2 => omega
    intro ax yx wx kx hx9 tkx9 Ix hwx Fx Nx lx9
    k_steps
    refine Stop.mk ?_
    refine' kmk_add_ints Fx Nx ?qa ?qb hI9 Ix ?_ ?qz
    case qa => is_list
    case qb => is_list
    case qz => (rw [PySem.sizeLine_eq, hwx, List.length_map, List.length_range]; omega)
    intro Dv vv hv0 Fv Nv lv9 Iv
    have hvs : ∀ z ∈ ns9 ++ wx, ∃ k : Nat, z = k ∧ k < 2 ^ dn := tail_small hwords hwx hb2'
    rw [← nat_words hwx] at hmiss
    k_steps
    refine Stop.mk ?_
    k_dflt (refine' comp_use comp_tells (w0 + 1) (p0 ||| 1) iv xn dn ?k1 ?k2 ?k3 ?k4 ?k5 ?m1 ?m2 ?m3 Iv hvs hwn hor rfl rfl rfl ?i8 ?i9 ?ia ?ib hpn hiv hxn ?_; (case k1 => k_asm); (case k2 => k_asm); (case k3 => k_asm); (case k4 => k_asm); (case k5 => k_asm); (case m1 => k_mem); (case m2 => k_mem); (case m3 => k_mem))
    case i8 => omega
    case i9 => omega
    case ia => omega
    case ib => omega
    intro te he0 tke0 Fe Ne
    have hne9 : ((compN (w0 + 1) (p0 ||| 1) iv (rA == 1) (rB == 1) xn dn (List.map Int.toNat (ns9 ++ wx)) : Nat) : Int) ≠ (gn : Int) := fun e => hmiss (by omega)
    k_steps)
end Mine
theorem PySem.Challenge.cw_bg5001_01_holds : PySem.Challenge.rw_bg5001_01.Holds :=
  Mine.law_holds
