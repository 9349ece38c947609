import PyProof.Rows.All
import Wide.All
import OpenK.AllK
import Wide.FinOn
import PySem.Challenge.RW_wa0007_01
section
open PySem PySem.W PyProof.Rows
set_option Elab.async false
namespace Mine
set_option maxRecDepth 100000 in
set_option maxHeartbeats 8000000 in
open_top hd for PySem.Challenge.rw_wa0007_01
end Mine
end
section
open PySem PySem.W PySem.Calls PySem.Spec PyProof.Rows
set_option Elab.async false
namespace Mine

/-- a call of a def of the text, from any frame of a def -/
def Spec (w : World) (f : Addr) (vs : List Value) (dn uz : Nat) (Ret : Value → Prop) : Prop :=
  ∀ (mean : ExcName → Option Value) (mg mb : Str → Option Value) (dp un : Nat) (gd : Option (List Code)) (cn : Str) (cs : Scope) (a : Addr) (ccd : Value) (cl : List (Str × Addr)) (outer : List Env) (A₀ : Around) (base h₀ : Heap) (L : Addr) (m : Str → Option Value) (news : List (Addr × Obj)) (s : Shared) (Q E : Value → Shared → Prop),
    Below A₀ base outer h₀ → Fr h₀ L s.heap m → (Mine.hd.heap_39 w.params).In h₀ → News h₀ L s.heap news → Top Mine.hd.view_39 (looseW Mine.hd.view_39 []) mean mg mb h₀ → cs.kind = .function →
    dp + dn < recursionLimit → un + uz < cLine → AllBare s.gens →
    (∀ v h' tk' gs', Ret v → Fr h₀ L h' m → News h₀ L h' news → AllBare gs' → Q v { s with heap := h', toks := tk', gens := gs' }) →
    wpAny (model PySem.Challenge.rw_wa0007_01.row.prog w) (ktrTop dp un gd cn cs L a ccd cl outer) (call (.ref f) vs) Q E s

/-- the same, of a def that makes no generator -/
def SpecP (w : World) (f : Addr) (vs : List Value) (dn uz : Nat) (Ret : Value → Prop) : Prop :=
  ∀ (mean : ExcName → Option Value) (mg mb : Str → Option Value) (dp un : Nat) (gd : Option (List Code)) (cn : Str) (cs : Scope) (a : Addr) (ccd : Value) (cl : List (Str × Addr)) (outer : List Env) (A₀ : Around) (base h₀ : Heap) (L : Addr) (m : Str → Option Value) (news : List (Addr × Obj)) (s : Shared) (Q E : Value → Shared → Prop),
    Below A₀ base outer h₀ → Fr h₀ L s.heap m → (Mine.hd.heap_39 w.params).In h₀ → News h₀ L s.heap news → Top Mine.hd.view_39 (looseW Mine.hd.view_39 []) mean mg mb h₀ → cs.kind = .function →
    dp + dn < recursionLimit → un + uz < cLine →
    (∀ v h' tk', Ret v → Fr h₀ L h' m → News h₀ L h' news → Q v { s with heap := h', toks := tk' }) →
    wpAny (model PySem.Challenge.rw_wa0007_01.row.prog w) (ktrTop dp un gd cn cs L a ccd cl outer) (call (.ref f) vs) Q E s

section
variable {prog : Program} {w : World} {A : Around} {E : Value → Shared → Prop} {Q : Flow → Shared → Prop} {env : Env} {g : Heap} {L : Addr}

theorem frB {h : Heap} {m : Str → Option Value} {ps : List (Str × Value)} (F : Fr g L h m) (hp : ∀ p ∈ ps, m p.1 = some p.2) : Fr g L h (kstB m ps) := by
  have e : kstB m ps = m := by
    funext z
    exact kstB_eq hp fun _ => rfl
  rw [e]; exact F

/-- what holds between the turns of a loop, over states c -/
def At {σ : Type} (Gp : Array GenState → Prop) (g : Heap) (L : Addr) (s0 : Shared) (ps : σ → List (Str × Value)) (Led : σ → List (Addr × Obj)) (P : σ → Prop) (c : σ) (s : Shared) : Prop :=
  ∃ h tk gs rest, s = { s0 with heap := h, toks := tk, gens := gs } ∧ P c ∧ Gp gs ∧ Fr g L h (kstB rest (ps c)) ∧ News g L h (Led c)

def Turn {σ : Type} (Gp : Array GenState → Prop) (g : Heap) (L : Addr) (s0 : Shared) (ps : σ → List (Str × Value)) (Led : σ → List (Addr × Obj)) (P : σ → Prop) (μ : σ → Nat) (n : Nat) (Q : Flow → Shared → Prop) (f : Flow) (s : Shared) : Prop :=
  match f with
  | .ret v => Q (.ret v) s
  | .brk => Q .next s
  | _ => ∃ c', μ c' < n ∧ At Gp g L s0 ps Led P c' s

theorem turn_next {σ : Type} {Gp : Array GenState → Prop} {s0 : Shared} {ps : σ → List (Str × Value)} {Led : σ → List (Addr × Obj)} {P : σ → Prop} {μ : σ → Nat} {n : Nat} {h : Heap} {tk : Nat} {gs : Array GenState} {m : Str → Option Value} {news : List (Addr × Obj)} (c : σ)
    (F : Fr g L h m) (N : News g L h news) (hN : ∀ p ∈ Led c, p ∈ news) (hG : Gp gs) (hps : ∀ p ∈ ps c, m p.1 = some p.2) (hP : P c) (hm : μ c < n) :
    Turn Gp g L s0 ps Led P μ n Q .next { s0 with heap := h, toks := tk, gens := gs } :=
  ⟨c, hm, h, tk, gs, m, rfl, hP, hG, frB F hps, fun p hp => N p (hN p hp)⟩

theorem while_B {σ : Type} {test : Expr} {body : List Stmt} {pos : Pos} (Gp : Array GenState → Prop) (s0 : Shared) (ps : σ → List (Str × Value)) (Led : σ → List (Addr × Obj)) (P : σ → Prop) (μ : σ → Nat)
    (hE : PassesOwn (model prog w) A env E)
    (turn : ∀ c h tk gs rest, P c → Gp gs → Fr g L h (kstB rest (ps c)) → News g L h (Led c) →
      wpAny (model prog w) A (isTrue test env (eval test env)) (fun b s₂ => WhlIf b (wpAny (model prog w) A (execs body env) (Turn Gp g L s0 ps Led P μ (μ c) Q) E s₂) (Q .next s₂)) E { s0 with heap := h, toks := tk, gens := gs }) :
    ∀ c s, At Gp g L s0 ps Led P c s → wpAny (model prog w) A (exec (.While test body [] pos) env) Q E s := by
  have main : ∀ n c s, μ c < n → At Gp g L s0 ps Led P c s → WhlRest prog w A E env test body [] Q n s := by
    intro n
    induction n with
    | zero => intro c s hn _; exact absurd hn (Nat.not_lt_zero _)
    | succ n ih =>
      rintro c s hn ⟨h, tk, gs, rest, rfl, hP, hG, F, N⟩
      refine whl_turn hE (wpAny_mono (turn c h tk gs rest hP hG F N) (fun b s₂ hb => ?_) fun _ _ x => x)
      cases b with
      | false =>
        unfold WhlIf at hb ⊢
        rw [if_neg Bool.false_ne_true] at hb ⊢
        exact wpAny_execs_nil hb
      | true =>
        unfold WhlIf at hb ⊢
        rw [if_pos rfl] at hb ⊢
        refine wpAny_mono hb (fun f s₃ hf => ?_) fun _ _ x => x
        cases f with
        | ret v => exact hf
        | brk => exact hf
        | next => obtain ⟨c', hm, hc⟩ := hf; exact ih c' s₃ (Nat.lt_of_lt_of_le hm (Nat.le_of_lt_succ hn)) hc
        | cont => obtain ⟨c', hm, hc⟩ := hf; exact ih c' s₃ (Nat.lt_of_lt_of_le hm (Nat.le_of_lt_succ hn)) hc
  intro c s hc
  exact whl_start (μ c + 1) (main _ c s (Nat.lt_succ_self _) hc)
end
end Mine
namespace Mine
theorem whl_dec {p : Prop} [Decidable p] {T F : Prop} (h1 : p → T) (h2 : ¬ p → F) : WhlIf (decide p) T F := by
  by_cases h : p
  · exact WhlIf.yes (by simp [h]) (h1 h)
  · exact WhlIf.no (by simp [h]) (h2 h)
end Mine
namespace Mine
section
variable {prog : Program} {w : World} {A : Around} {E : Value → Shared → Prop} {s : Shared} {env : Env} {g : Heap} {x : Str} {body : List Stmt} {Q : Flow → Shared → Prop}

/-- the end of a for's turn: the ledger as it was, the state one on -/
def FTurn {σ : Type} (g : Heap) (L : Addr) (s0 : Shared) (ps : σ → List (Str × Value)) (P : σ → Prop) (led : List (Addr × Obj)) (Q : Flow → Shared → Prop) (f : Flow) (s : Shared) : Prop :=
  match f with
  | .ret v => Q (.ret v) s
  | .brk => Q .next s
  | _ => ∃ c h tk m news, s = { s0 with heap := h, toks := tk } ∧ Fr g L h m ∧ News g L h news ∧ (∀ p ∈ led, p ∈ news) ∧ (∀ p ∈ ps c, m p.1 = some p.2) ∧ P c

theorem fturn_next {σ : Type} {L : Addr} {s0 : Shared} {ps : σ → List (Str × Value)} {P : σ → Prop} {led : List (Addr × Obj)} {h : Heap} {tk : Nat} {m : Str → Option Value} {news : List (Addr × Obj)} (c : σ)
    (F : Fr g L h m) (N : News g L h news) (hN : ∀ p ∈ led, p ∈ news) (hps : ∀ p ∈ ps c, m p.1 = some p.2) (hP : P c) :
    FTurn g L s0 ps P led Q .next { s0 with heap := h, toks := tk } := ⟨c, h, tk, m, news, rfl, F, N, hN, hps, hP⟩

theorem for_B {σ : Type} {I : Addr} {fp wr : List Addr} {n : Nat} {Pv : Nat → Value → Prop} {St : Nat → Heap → Prop} {m₀ : Str → Option Value} {news : List (Addr × Obj)} (ps : σ → List (Str × Value)) (P : Nat → σ → Prop) (c₀ : σ)
    (W : Walks prog w A I fp wr n Pv St) (hLf : env.locals ∉ fp) (hwr : ∀ b ∈ wr, g.get? b = none) (hfp : ∀ q ∈ news, q.1 ∉ fp) (hst : St 0 s.heap) (F : Fr g env.locals s.heap m₀) (N : News g env.locals s.heap news)
    (hps : ∀ p ∈ ps c₀, m₀ p.1 = some p.2) (hP : P 0 c₀)
    (turn : ∀ i v c rest h tk own, i < n → Pv i v → P i c → Fr g env.locals h (fun y => if y = x then some v else kstB rest (ps c) y) → News g env.locals h (news ++ own) →
      wpAny (model prog w) A (execs body env) (FTurn g env.locals s ps (P (i + 1)) (news ++ own) Q) E { s with heap := h, toks := tk })
    (done : ∀ c rest h tk, P n c → Fr g env.locals h (kstB rest (ps c)) → News g env.locals h news → Q .next { s with heap := h, toks := tk }) :
    LoopAtV prog w A g env x body Q E (.ref I) s := by
  refine loop_invN (fun i m nx => nx = news ∧ ∃ c, (∀ p ∈ ps c, m p.1 = some p.2) ∧ P i c) W hLf hwr (fun p hp hw => hfp p hp (W.sub _ hw)) hfp hst F N ⟨rfl, c₀, hps, hP⟩ ?_ ?_
  · rintro i v m₁ news₁ h tk own hi hv _ _ ⟨rfl, c, hc, hPi⟩ F₁ N₁
    have e : (fun y => if y = x then some v else m₁ y) = fun y => if y = x then some v else kstB m₁ (ps c) y := by
      funext y
      rw [show kstB m₁ (ps c) y = m₁ y from kstB_eq hc fun _ => rfl]
    rw [e] at F₁
    refine wpAny_mono (turn i v c m₁ h tk own hi hv hPi F₁ N₁) (fun f s₂ p => ?_) fun _ _ z => z
    have fin : FTurn g env.locals s ps (P (i + 1)) (news₁ ++ own) Q .next s₂ → InvEndN g env.locals (fun m nx => nx = news₁ ∧ ∃ c, (∀ p ∈ ps c, m p.1 = some p.2) ∧ P (i + 1) c) own (news₁.map (·.1)) { s with heap := h, toks := tk } s₂ := by
      rintro ⟨c', h', tk', m', news', rfl, F', N', hN, hps', hP'⟩
      exact ⟨h', tk', m', news', news₁, rfl, F', N', fun p hp => hN p (List.mem_append.mpr (.inl hp)), fun p hp => hN p (List.mem_append.mpr (.inr hp)), rfl, rfl, c', hps', hP'⟩
    cases f with
    | ret v => exact p
    | brk => exact p
    | next => exact fin p
    | cont => exact fin p
  · rintro m₁ nx h tk ⟨rfl, c, hc, hPn⟩ F₁ N₁
    exact done c m₁ h tk hPn (frB F₁ hc) N₁

theorem range_B {σ : Type} {r : Addr} {a₀ b₀ : Int} {t₀ u₀ v₀ : Tok} {n : Nat} {m₀ : Str → Option Value} {news : List (Addr × Obj)} (ps : σ → List (Str × Value)) (P : Nat → σ → Prop) (c₀ : σ)
    (hh : A.handled = none) (hr : IsRange s.heap r a₀ b₀ 1 t₀ u₀ v₀) (hsmall : Builtin.Range.small a₀ b₀ 1 = true) (hn : Builtin.Range.rangeSize a₀ b₀ 1 = (n : Int)) (F : Fr g env.locals s.heap m₀) (N : News g env.locals s.heap news)
    (hps : ∀ p ∈ ps c₀, m₀ p.1 = some p.2) (hP : P 0 c₀)
    (turn : ∀ i t c rest h tk own, i < n → P i c → Fr g env.locals h (fun y => if y = x then some (.int (a₀ + (i : Int)) t) else kstB rest (ps c) y) → News g env.locals h (news ++ own) →
      wpAny (model prog w) A (execs body env) (FTurn g env.locals s ps (P (i + 1)) (news ++ own) Q) E { s with heap := h, toks := tk })
    (done : ∀ c rest h tk, P n c → Fr g env.locals h (kstB rest (ps c)) → News g env.locals h news → Q .next { s with heap := h, toks := tk }) :
    wpAny (model prog w) A (pyIter (.ref r)) (fun it s₂ => LoopAtV prog w A g env x body Q E it s₂) E s := by
  refine wpAny_pyIter_range hr hsmall ?_
  have W : Walks prog w A s.heap.objs.size [s.heap.objs.size] [s.heap.objs.size] n (fun i v => ∃ t, v = .int (a₀ + i * 1) t)
      (fun i h => IsRangeIter h s.heap.objs.size (a₀ + (i : Nat) * 1) ((n : Int) - (i : Nat)) 1) := Walks.range hh _ a₀ 1 n
  refine for_B (s := { s with heap := s.heap.push _ }) ps P c₀ W ?_ ?_ ?_ (by show IsRangeIter _ _ _ _ _; rw [hn]; simpa using Heap.get?_push_size _ rfl) (F.push _) (fun p hp => ⟨Heap.get?_push_of_some _ (N p hp).1, (N p hp).2⟩) hps hP ?_ ?_
  · intro hm
    exact absurd F.ns.lt ((List.mem_singleton.mp hm) ▸ Nat.lt_irrefl _)
  · intro b hb
    rw [List.mem_singleton.mp hb]
    exact next_is_new F
  · intro p hp hI
    exact absurd (Heap.lt_size (N p hp).1) ((List.mem_singleton.mp hI) ▸ Nat.lt_irrefl _)
  · rintro i v c rest h tk own hi ⟨t, rfl⟩ hPi F₁ N₁
    have e1 : a₀ + (i : Int) * 1 = a₀ + (i : Int) := by omega
    rw [e1] at F₁
    exact turn i t c rest h tk own hi hPi F₁ N₁
  · intro c rest h tk hPn F₁ N₁
    exact done c rest h tk hPn F₁ N₁

theorem str_B {σ : Type} {xs : Str} {t₀ : Tok} {m₀ : Str → Option Value} {news : List (Addr × Obj)} (ps : σ → List (Str × Value)) (P : Nat → σ → Prop) (c₀ : σ)
    (hh : A.handled = none) (F : Fr g env.locals s.heap m₀) (N : News g env.locals s.heap news)
    (hps : ∀ p ∈ ps c₀, m₀ p.1 = some p.2) (hP : P 0 c₀)
    (turn : ∀ i z u c rest h tk own, xs.cps[i]? = some z → P i c → Fr g env.locals h (fun y => if y = x then some (.str ⟨#[z]⟩ u) else kstB rest (ps c) y) → News g env.locals h (news ++ own) →
      wpAny (model prog w) A (execs body env) (FTurn g env.locals s ps (P (i + 1)) (news ++ own) Q) E { s with heap := h, toks := tk })
    (done : ∀ c rest h tk, P xs.cps.size c → Fr g env.locals h (kstB rest (ps c)) → News g env.locals h news → Q .next { s with heap := h, toks := tk }) :
    wpAny (model prog w) A (pyIter (.str xs t₀)) (fun it s₂ => LoopAtV prog w A g env x body Q E it s₂) E s := by
  refine wpAny_pyIter_str fun o St W hst => ?_
  refine for_B (s := { s with heap := s.heap.push o }) ps P c₀ (W A hh) ?_ ?_ ?_ hst (F.push _) (fun p hp => ⟨Heap.get?_push_of_some _ (N p hp).1, (N p hp).2⟩) hps hP ?_ ?_
  · intro hm
    exact absurd F.ns.lt ((List.mem_singleton.mp hm) ▸ Nat.lt_irrefl _)
  · intro b hb
    rw [List.mem_singleton.mp hb]
    exact next_is_new F
  · intro p hp hI
    exact absurd (Heap.lt_size (N p hp).1) ((List.mem_singleton.mp hI) ▸ Nat.lt_irrefl _)
  · rintro i v c rest h tk own hi ⟨z, u, hz, rfl⟩ hPi F₁ N₁
    exact turn i z u c rest h tk own hz hPi F₁ N₁
  · intro c rest h tk hPn F₁ N₁
    exact done c rest h tk hPn F₁ N₁
end
theorem spec_use {w : World} {f : Addr} {vs : List Value} {dn uz : Nat} {Ret : Value → Prop} (S : Spec w f vs dn uz Ret)
    {mean : ExcName → Option Value} {mg mb : Str → Option Value} {dp un : Nat} {gd : Option (List Code)} {cn : Str} {cs : Scope} {a : Addr} {ccd : Value} {cl : List (Str × Addr)} {outer : List Env} {A₀ : Around} {base h₀ : Heap} {L : Addr} {m : Str → Option Value} {news : List (Addr × Obj)} {s : Shared} {Q E : Value → Shared → Prop}
    (B : Below A₀ base outer h₀) (F : Fr h₀ L s.heap m) (X : (Mine.hd.heap_39 w.params).In h₀) (N : News h₀ L s.heap news) (T : Top Mine.hd.view_39 (looseW Mine.hd.view_39 []) mean mg mb h₀) (hk : cs.kind = .function)
    (hd : dp + dn < recursionLimit) (hu : un + uz < cLine) (hg : AllBare s.gens)
    (ret : ∀ v h' tk' gs', Ret v → Fr h₀ L h' m → News h₀ L h' news → AllBare gs' → Q v { s with heap := h', toks := tk', gens := gs' }) :
    wpAny (model PySem.Challenge.rw_wa0007_01.row.prog w) (ktrTop dp un gd cn cs L a ccd cl outer) (call (.ref f) vs) Q E s :=
  S mean mg mb dp un gd cn cs a ccd cl outer A₀ base h₀ L m news s Q E B F X N T hk hd hu hg ret
theorem specP_use {w : World} {f : Addr} {vs : List Value} {dn uz : Nat} {Ret : Value → Prop} (S : SpecP w f vs dn uz Ret)
    {mean : ExcName → Option Value} {mg mb : Str → Option Value} {dp un : Nat} {gd : Option (List Code)} {cn : Str} {cs : Scope} {a : Addr} {ccd : Value} {cl : List (Str × Addr)} {outer : List Env} {A₀ : Around} {base h₀ : Heap} {L : Addr} {m : Str → Option Value} {news : List (Addr × Obj)} {s : Shared} {Q E : Value → Shared → Prop}
    (B : Below A₀ base outer h₀) (F : Fr h₀ L s.heap m) (X : (Mine.hd.heap_39 w.params).In h₀) (N : News h₀ L s.heap news) (T : Top Mine.hd.view_39 (looseW Mine.hd.view_39 []) mean mg mb h₀) (hk : cs.kind = .function)
    (hd : dp + dn < recursionLimit) (hu : un + uz < cLine)
    (ret : ∀ v h' tk', Ret v → Fr h₀ L h' m → News h₀ L h' news → Q v { s with heap := h', toks := tk' }) :
    wpAny (model PySem.Challenge.rw_wa0007_01.row.prog w) (ktrTop dp un gd cn cs L a ccd cl outer) (call (.ref f) vs) Q E s :=
  S mean mg mb dp un gd cn cs a ccd cl outer A₀ base h₀ L m news s Q E B F X N T hk hd hu ret
end Mine
end
section
namespace Mine
theorem pmod (a n : Int) (k : Nat) : (a % n) ^ k % n = a ^ k % n := by
  induction k with
  | zero => simp
  | succ k ih => rw [Int.pow_succ, Int.pow_succ, Int.mul_emod, ih, Int.emod_emod, ← Int.mul_emod]
theorem psq (x : Int) (k : Nat) : (x * x) ^ k = x ^ (2 * k) := by
  induction k with
  | zero => simp
  | succ k ih => rw [Int.pow_succ, ih, show 2 * (k + 1) = 2 * k + 1 + 1 from by omega, Int.pow_succ, Int.pow_succ, Int.mul_assoc]
theorem pow_even (t x y : Int) (hy : 0 < y) (h : y % 2 ≠ 1) : t * (x * x % 257) ^ (y / 2).toNat % 257 = t * x ^ y.toNat % 257 := by
  have e : y.toNat = 2 * (y / 2).toNat := by omega
  rw [Int.mul_emod, pmod, ← Int.mul_emod, psq, ← e]
theorem pow_odd (t x y : Int) (hy : 0 < y) (h : y % 2 = 1) : (t * x % 257) * (x * x % 257) ^ (y / 2).toNat % 257 = t * x ^ y.toNat % 257 := by
  have e : y.toNat = 2 * (y / 2).toNat + 1 := by omega
  rw [Int.mul_emod, pmod, Int.emod_emod, ← Int.mul_emod, psq, e, Int.pow_succ, Int.mul_assoc, Int.mul_comm x]
def powI (b0 e0 : Int) (c : Int × Int × Int) : Prop := 0 ≤ c.1 ∧ c.1 < 257 ∧ 0 ≤ c.2.1 ∧ c.2.1 < 2 ^ 32 ∧ 0 ≤ c.2.2 ∧ c.2.2 < 2 ^ 32 ∧ c.1 * c.2.1 ^ c.2.2.toNat % 257 = b0 ^ e0.toNat % 257
theorem powI_odd {b e t x y : Int} (h : powI b e (t, x, y)) (hy : 0 < y) (h2 : Int.fmod y 2 = 1) : powI b e (Int.fmod (t * x) 257, Int.fmod (x * x) 257, Int.fdiv y 2) := by
  obtain ⟨p1, p2, p3, p4, p5, p6, p7⟩ := h
  dsimp only at *
  simp only [Int.fmod_eq_emod_of_nonneg _ (show (0:Int) ≤ 257 by decide), Int.fmod_eq_emod_of_nonneg _ (show (0:Int) ≤ 2 by decide)] at *
  rw [Int.fdiv_eq_ediv_of_nonneg _ (by decide)]
  refine ⟨?_, ?_, ?_, ?_, ?_, ?_, ?_⟩ <;> dsimp only <;> first | omega | skip
  rw [← p7]; exact pow_odd t x y hy h2
theorem powI_even {b e t x y : Int} (h : powI b e (t, x, y)) (hy : 0 < y) (h2 : Int.fmod y 2 ≠ 1) : powI b e (t, Int.fmod (x * x) 257, Int.fdiv y 2) := by
  obtain ⟨p1, p2, p3, p4, p5, p6, p7⟩ := h
  dsimp only at *
  simp only [Int.fmod_eq_emod_of_nonneg _ (show (0:Int) ≤ 257 by decide), Int.fmod_eq_emod_of_nonneg _ (show (0:Int) ≤ 2 by decide)] at *
  rw [Int.fdiv_eq_ediv_of_nonneg _ (by decide)]
  refine ⟨?_, ?_, ?_, ?_, ?_, ?_, ?_⟩ <;> dsimp only <;> first | omega | skip
  rw [← p7]; exact pow_even t x y hy h2
theorem powI_end {b e t x y : Int} (h : powI b e (t, x, y)) (hy : ¬ 0 < y) : t = b ^ e.toNat % 257 := by
  obtain ⟨p1, p2, p3, p4, p5, p6, p7⟩ := h
  dsimp only at *
  have : y.toNat = 0 := by omega
  rw [this, Int.pow_zero, Int.mul_one] at p7
  omega
theorem powI_start {b e : Int} (hb : 0 ≤ b) (hb2 : b < 2 ^ 32) (he : 0 ≤ e) (he2 : e < 2 ^ 32) : powI b e (1, b, e) := ⟨by dsimp only; omega, by dsimp only; omega, hb, hb2, he, he2, by simp⟩
theorem half_lt {y : Int} (hy : 0 < y) : (Int.fdiv y 2).toNat < y.toNat := by
  rw [Int.fdiv_eq_ediv_of_nonneg _ (by decide)]; omega
end Mine
end
section
open PySem PySem.W PySem.Calls PySem.Spec PyProof.Rows
set_option Elab.async false
namespace Mine
local macro_rules | `(tactic| ktn_open) => `(tactic| (repeat' (first | (k_unfold; (try dsimp only)) | ((fail_if_success (with_reducible show wpAny _ _ (exec (Stmt.While _ _ _ _) _) _ _ _)); (fail_if_success (with_reducible show wpAny _ _ (exec (Stmt.For _ _ _ _ _) _) _ _ _)); walk1) | (dsimp only; walk1))))

set_option maxRecDepth 100000 in
set_option maxHeartbeats 8000000 in
theorem power_spec (w : World) (b e : Int) (tb te : Tok) (hb : 0 ≤ b) (hb2 : b < 2 ^ 32) (he : 0 ≤ e) (he2 : e < 2 ^ 32) :
    SpecP w 63 [.int b tb, .int e te] 1 8 (fun v => ∃ t, v = .int (b ^ e.toNat % 257) t) := by
  unfold SpecP
  k_fill
  intro mean mg mb dp un gd cn cs a ccd cl outer A₀ base h₀ L m news s Q E B F X N T hk hd hu hret
  refine wpAny_call ?_
  k_dflt ktr_enter
  ktn_open
  refine' while_B (σ := (Int × Tok) × (Int × Tok) × (Int × Tok)) (· = s.gens) s (fun c => [(Str.ofString "told", .int c.1.1 c.1.2), (Str.ofString "base", .int c.2.1.1 c.2.1.2), (Str.ofString "exponent", .int c.2.2.1 c.2.2.2)]) (fun _ => news)
    (fun c => powI b e (c.1.1, c.2.1.1, c.2.2.1)) (fun c => c.2.2.1.toNat) ?hE ?turn ((1, _), (b, _), (e, _)) _ ⟨_, _, _, _, rfl, powI_start hb hb2 he he2, rfl, frB (by assumption) ?h2, (by assumption)⟩
  case hE => first | passes_own | with_unfolding_all passes_own
  case h2 => kst_all
  case turn =>
    rintro ⟨⟨t, tt⟩, ⟨x, tx⟩, ⟨y, ty⟩⟩ h tk gs rest hP hG F1 N1
    have hP' := hP
    obtain ⟨p1, p2, p3, p4, p5, p6, p7⟩ := hP'
    dsimp only at *
    ktn_open
    refine whl_dec (fun hy => ?_) (fun hy => ?_)
    · ktn_open
      · refine' turn_next ((_, _), (_, _), (_, _)) (by assumption) (by assumption) (fun _ q => q) hG ?ps1 ?hP1 (half_lt hy)
        case ps1 => kst_all
        exact powI_odd hP hy (by assumption)
      · refine' turn_next ((_, _), (_, _), (_, _)) (by assumption) (by assumption) (fun _ q => q) hG ?ps2 ?hP2 (half_lt hy)
        case ps2 => kst_all
        exact powI_even hP hy (by assumption)
    · dsimp only
      ktn_open
      subst hG
      exact hret _ _ _ ⟨_, by rw [powI_end hP hy]⟩ (by assumption) (by assumption)
end Mine
end
section
namespace Mine
/-- what _iter_escaped_chars hands out: place and text, from place i on; b: a backslash stands ahead -/
def es : Nat → Bool → List Nat → List (Nat × List Nat)
  | i, b, [] => if b then [(i - 1, [92])] else []
  | i, true, c :: r => (i, [92, c]) :: es (i + 1) false r
  | i, false, c :: r => if c = 92 then es (i + 1) true r else (i, [c]) :: es (i + 1) false r
theorem es_t (i c : Nat) (r : List Nat) : es i true (c :: r) = (i, [92, c]) :: es (i + 1) false r := rfl
theorem es_b (i : Nat) (r : List Nat) : es i false (92 :: r) = es (i + 1) true r := by simp [es]
theorem es_f (i c : Nat) (r : List Nat) (h : c ≠ 92) : es i false (c :: r) = (i, [c]) :: es (i + 1) false r := by simp [es, h]
theorem es_end (i : Nat) (b : Bool) : es i b [] = if b then [(i - 1, [92])] else [] := by cases b <;> rfl
theorem drop_tail {α : Type} {all l : List α} {x : α} {n : Nat} (hn : n + 1 ≤ all.length) (h : all.drop (all.length - (n + 1)) = x :: l) : all[all.length - (n + 1)]? = some x ∧ all.drop (all.length - n) = l := by
  have e : all.length - n = (all.length - (n + 1)) + 1 := by omega
  refine ⟨?_, ?_⟩
  · have := congrArg List.head? h
    simpa [List.head?_drop] using this
  · rw [e, ← List.drop_drop, h]; rfl
end Mine
namespace Mine
/-- the count of open brackets, place by place; none: it falls below nought -/
def chk : Bool → Int → List Nat → Option Int
  | _, o, [] => some o
  | true, o, _ :: r => chk false o r
  | false, o, c :: r => if c = 92 then chk true o r else if c = 40 then chk false (o + 1) r else if c = 41 then (if o - 1 < 0 then none else chk false (o - 1) r) else chk false o r
/-- the same over what the generator hands out -/
def fo : Int → List (Nat × List Nat) → Option Int
  | o, [] => some o
  | o, (_, ch) :: r => if ch = [40] then fo (o + 1) r else if ch = [41] then (if o - 1 < 0 then none else fo (o - 1) r) else fo o r
theorem fo_es : ∀ (l : List Nat) (i : Nat) (b : Bool) (o : Int), fo o (es i b l) = chk b o l
  | [], i, b, o => by cases b <;> simp [es, fo, chk]
  | c :: r, i, true, o => by rw [es_t, fo, if_neg (by simp), if_neg (by simp), fo_es r]; rfl
  | c :: r, i, false, o => by
    by_cases h : c = 92
    · subst h; rw [es_b, fo_es r]; rfl
    · rw [es_f _ _ _ h]
      simp only [fo, chk, if_neg h, fo_es r, List.cons.injEq, and_true]
end Mine
end
section
open PySem PySem.W PySem.Calls PySem.Spec PyProof.Rows
open Sem (wp)
set_option Elab.async false
namespace Mine

section
variable {M : Model} {A : Around} {R : GenEnd} {Y : Protocol} {n : Nat} {s₀ : Shared} {c : Code} {fs : List Frame} {s : Shared} {env : Env}
  {K : Flow → Sem Fin} {H : Value → Sem Fin} {gd : Bool → Bool} {lv : List Value → List Value}

theorem seg_If {test : Expr} {body orelse : List Stmt} {pos : Pos}
    (h : wpAny M (A.over c fs) (isTrue test env (eval test env)) (fun b s' => WhlIf b (Seg M A R Y n s₀ c ((execs body env).wrap K H gd lv) fs s') (Seg M A R Y n s₀ c ((execs orelse env).wrap K H gd lv) fs s'))
      (fun x s' => Seg M A R Y n s₀ c (H x) fs s') s) :
    Seg M A R Y n s₀ c ((exec (.If test body orelse pos) env).wrap K H gd lv) fs s := by
  rw [exec_If]
  refine seg_bind_wrap (wpAny_standAt ?_)
  refine seg_bind_wrap (wpAny_mono h (fun b s' hb => ?_) fun _ _ x => x)
  cases b with
  | true => unfold WhlIf at hb; rw [if_pos rfl] at hb; rw [if_pos rfl]; exact hb
  | false => unfold WhlIf at hb; rw [if_neg Bool.false_ne_true] at hb; rw [if_neg Bool.false_ne_true]; exact hb

/-- a statement that yields nothing -/
theorem seg_stmt {st : Stmt} (h : wpAny M (A.over c fs) (exec st env) (fun f s' => Seg M A R Y n s₀ c (K f) fs s') (fun x s' => Seg M A R Y n s₀ c (H x) fs s') s) :
    Seg M A R Y n s₀ c ((exec st env).wrap K H gd lv) fs s := seg_wrap h

theorem seg_For {target iter : Expr} {body orelse : List Stmt} {pos : Pos}
    (h : wpAny M (A.over c fs) (eval iter env) (fun xv s₁ => wpAny M (A.over c fs) (pyIter xv) (fun it s₂ => ∀ p, Seg M A R Y n s₀ (.forLoop target it body orelse env) (M.den (.forLoop target it body orelse env))
      (.ret (fun r => ((match r with | .ok f => (.pure f : Sem Flow) | .error e => .raise e).onRaise fun (x : Value) => do
        if (← field x 1) == Value.none then unsupported "frame.own-activation:exception-without-traceback"
        setFlight x env.frame).wrap K H gd lv) none (gd false) (lv []) c p [] :: fs) s₂) (fun x s' => Seg M A R Y n s₀ c (H x) fs s') s₁) (fun x s' => Seg M A R Y n s₀ c (H x) fs s') s)
    (hs : ∀ x, foldedSetIterable iter env x = pure x := by intro _; rfl) :
    Seg M A R Y n s₀ c ((exec (.For target iter body orelse pos) env).wrap K H gd lv) fs s := by
  rw [exec_For]
  refine seg_bind_wrap (wpAny_standAt ?_)
  refine seg_bind_wrap (wpAny_mono h (fun xv s₁ h₁ => ?_) fun _ _ x => x)
  refine seg_bind_wrap (wpAny_of_eq (hs xv) ?_)
  refine seg_bind_wrap (wpAny_standAt ?_)
  refine seg_bind_wrap (wpAny_holding (wpAny_mono h₁ (fun it s₂ h₂ => ?_) fun _ _ x => x))
  exact seg_call h₂
end

section
variable {prog : Program} {w : World} {A : Around} {R : GenEnd} {Y : Protocol} {n : Nat} {s₀ : Shared} {fs : List Frame} {s : Shared} {env : Env}

/-- what stands behind a for's turn in a generator -/
def forK (target : Expr) (it : Value) (body : List Stmt) (env : Env) : Flow → Sem Fin := fun f => match f with
  | .next | .cont => .pure (.again (.forLoop target it body [] env))
  | .brk => .pure (.done .next)
  | .ret v => .pure (.done (.ret v))
def forH (env : Env) : Value → Sem Fin := fun e => (do noteFrame e env; theTreesLotGoes e : Sem Unit).wrap (fun _ => .raise e) .raise id id

theorem seg_forLoop {target : Expr} {it : Value} {body : List Stmt}
    (h : wpAny (model prog w) (A.over (.forLoop target it body [] env) fs) (pyNext it) (fun r s₁ => match r with
      | none => Seg (model prog w) A R Y n s₀ (.block [] env) (leafOf (.ok .next)) fs s₁
      | some v => wpAny (model prog w) (A.over (.forLoop target it body [] env) fs) (letOwnedTupleGo target it v) (fun _ s₂ => wpAny (model prog w) (A.over (.forLoop target it body [] env) fs) (assign target env v) (fun _ s₃ =>
          Seg (model prog w) A R Y n s₀ (.forLoop target it body [] env) ((execs body env).wrap (forK target it body env) (forH env) id id) fs s₃)
          (fun x s' => Seg (model prog w) A R Y n s₀ (.forLoop target it body [] env) (forH env x) fs s') s₂) (fun x s' => Seg (model prog w) A R Y n s₀ (.forLoop target it body [] env) (forH env x) fs s') s₁)
      (fun x s' => Seg (model prog w) A R Y n s₀ (.forLoop target it body [] env) (forH env x) fs s') s) :
    Seg (model prog w) A R Y n s₀ (.forLoop target it body [] env) ((model prog w).den (.forLoop target it body [] env)) fs s := by
  show Seg _ A R Y n s₀ _ ((forTurn target it body [] env).onRaise (fun x => do noteFrame x env; theTreesLotGoes x)) fs s
  unfold forTurn
  rw [Sem.onRaise_eq_wrap]
  have hH : ∀ e, (((fun x => do noteFrame x env; theTreesLotGoes x : Value → Sem Unit) e).bind fun _ => (.raise e : Sem Fin)) = forH env e := fun e => Sem.bind_eq_wrap _ _
  rw [Sem.wrap_congr _ _ _ (K' := (.pure : Fin → Sem Fin)) (H' := forH env) (fun _ => rfl) hH]
  refine seg_bind_wrap (wpAny_standAt ?_)
  refine seg_bind_wrap (wpAny_onRaise (wpAny_mono h (fun r s₁ h₁ => ?_) fun _ _ x => wpAny_standAt x))
  cases r with
  | none =>
    dsimp only at h₁ ⊢
    exact seg_again rfl h₁
  | some v =>
    dsimp only at h₁ ⊢
    refine seg_bind_wrap (wpAny_mono h₁ (fun _ s₂ h₂ => ?_) fun _ _ x => x)
    refine seg_bind_wrap (wpAny_mono h₂ (fun _ s₃ h₃ => ?_) fun _ _ x => x)
    rw [Sem.bind_eq_wrap', Sem.wrap_wrap]
    exact (congrArg (fun t => Seg (model prog w) A R Y n s₀ (.forLoop target it body [] env) t fs s₃) (Sem.wrap_congr (execs body env) (fun g => id (id g)) (fun l => id (id l)) (K' := forK target it body env) (H' := forH env) (fun f => by cases f <;> rfl) (fun e => rfl))).mpr h₃
end
end Mine
end
section
open PySem PySem.W PySem.Calls PySem.Spec PyProof.Rows
set_option Elab.async false
namespace Mine
local macro_rules | `(tactic| ktn_open) => `(tactic| (repeat' (first | (k_unfold; (try dsimp only)) | ((fail_if_success (with_reducible show wpAny _ _ (exec (Stmt.While _ _ _ _) _) _ _ _)); (fail_if_success (with_reducible show wpAny _ _ (exec (Stmt.For _ _ _ _ _) _) _ _ _)); walk1) | (dsimp only; walk1))))

noncomputable def iterFd (w : World) : FuncData := match (Mine.hd.heap_39 w.params).lookup 35 with
  | some ⟨_, _, .func fd, _⟩ => fd
  | _ => default
noncomputable def iterBody (w : World) : List Stmt := match (iterFd w).body with
  | .stmts b => b
  | _ => []
noncomputable def iterEnv (w : World) (C : Addr) : Env := envOf (Str.ofString "_iter_escaped_chars") (iterFd w).scope C 35 (.ref 34)

def Keep (B0 a : Addr) (s₀ s : Shared) : Prop := ∃ h tk, s = { s₀ with heap := h, toks := tk } ∧ ∀ b o, (b < B0 ∨ b = a) → s₀.heap.get? b = some o → h.get? b = some o
theorem Keep.refl {B0 a : Addr} {s : Shared} : Keep B0 a s s := ⟨s.heap, s.toks, rfl, fun _ _ _ e => e⟩
theorem Keep.then {B0 a : Addr} {s₀ s : Shared} (k : Keep B0 a s₀ s) {h : Heap} {tk : Nat} (hk : ∀ b o, (b < B0 ∨ b = a) → s.heap.get? b = some o → h.get? b = some o) : Keep B0 a s₀ { s with heap := h, toks := tk } := by
  obtain ⟨h₁, tk₁, rfl, k₁⟩ := k
  exact ⟨h, tk, rfl, fun b o hb e => hk b o hb (k₁ b o hb e)⟩

def trunc (h : Heap) (B : Nat) : Heap := ⟨h.objs.extract 0 B, h.life⟩
theorem trunc_size (h : Heap) (B : Nat) : (trunc h B).objs.size ≤ B := by simp only [trunc, Array.size_extract]; omega
theorem trunc_lt {h : Heap} {B b : Nat} (hb : b < B) : (trunc h B).get? b = h.get? b := by
  have e : (trunc h B).objs[b]? = h.objs[b]? := by simp only [trunc, Array.getElem?_extract]; simp; intro h1; omega
  unfold Heap.get?
  rw [e]
theorem trunc_some {h : Heap} {B b : Nat} {o : Obj} (e : (trunc h B).get? b = some o) : b < B ∧ h.get? b = some o := by
  have hb : b < B := Nat.lt_of_lt_of_le (Heap.lt_size e) (trunc_size h B)
  exact ⟨hb, (trunc_lt hb).symm.trans e⟩
theorem trunc_ge {h : Heap} {B b : Nat} (hb : B ≤ b) : (trunc h B).get? b = none := by
  cases q : (trunc h B).get? b with
  | none => rfl
  | some o => exact absurd (trunc_some q).1 (Nat.not_lt.mpr hb)

def itY (g : Heap) (B0 a : Addr) (ga : Obj) (all : List (Nat × List Nat)) : Protocol := fun m s₀ v s kap =>
  Keep B0 a s₀ s ∧ ∃ (p : Nat) (ch : List Nat) (T : Addr) (tk u : Tok) (own : List (Addr × Obj)), m + 1 ≤ all.length ∧ all[all.length - (m + 1)]? = some (p, ch) ∧ v = .ref T ∧ s.heap.IsTuple T #[.int (p : Nat) tk, .str ⟨ch.toArray⟩ u] ∧ (∀ q : Addr × Obj, q ∈ own → s.heap.get? q.1 = some q.2 ∧ B0 ≤ q.1 ∧ q.1 ≠ a) ∧
    ∀ s'', (∀ b o, g.get? b = some o → s''.heap.get? b = some o) → s''.heap.get? a = some ga → (∀ q : Addr × Obj, q ∈ own → s''.heap.get? q.1 = some q.2) → kap (.send .none) s''

theorem seg_start {M : Model} {A : Around} {R : GenEnd} {Y : Protocol} {c : Code} {fs : List Frame} (Inv : Nat → Nat → Shared → Shared → Prop)
    (main : ∀ k n s₀ s, Inv k n s₀ s → Seg M A R Y n s₀ c (M.den c) fs s) {k n : Nat} {s₀ s : Shared} (h : Inv k n s₀ s) : Seg M A R Y n s₀ c (M.den c) fs s := main k n s₀ s h
theorem seg_forEnd {M : Model} {A : Around} {R : GenEnd} {Y : Protocol} {n : Nat} {s₀ s : Shared} {c c' : Code} {fs : List Frame} {env : Env} {K : Flow → Sem Fin} {H : Value → Sem Fin} {gd : Bool → Bool} {lv : List Value → List Value} {hd : Option Value} {gb : Bool} {l kp : List Value} {p : Pos}
    (h : Seg M A R Y n s₀ c (K .next) fs s) : Seg M A R Y n s₀ c' (leafOf (.ok .next)) (.ret (fun r => ((match r with | .ok f => (.pure f : Sem Flow) | .error e => .raise e).onRaise fun (x : Value) => do
        if (← field x 1) == Value.none then unsupported "frame.own-activation:exception-without-traceback"
        setFlight x env.frame).wrap K H gd lv) hd gb l c p kp :: fs) s := seg_leaf (.ok .next) h

theorem drawsU {prog : Program} {w : World} {A : Around} (hh : A.handled = none) (it : Addr) (x : Str) (t : Tok) :
    Draws prog w A it [it] x.cps.size (fun i v => ∃ c u, x.cps[i]? = some c ∧ v = .str ⟨#[c]⟩ u) (fun i h => h.IsStrIter it (strIterType x) x t i) := by
  unfold strIterType
  split
  · exact Draws.strAscii hh it x t
  · exact Draws.strWide hh it x t

/-- the state of the generator's frame between the turns -/
structure GI (g : Heap) (B0 a C e it : Addr) (ga : Obj) (t : Str) (tt : Tok) (s₀ : Shared) (i : Nat) (b : Bool) (pp : Int) (s : Shared) : Prop where
  same : ∃ h tk, s = { s₀ with heap := h, toks := tk }
  gk : ∀ b o, g.get? b = some o → s₀.heap.get? b = some o
  fr : ∃ tp rest, Fr (trunc s₀.heap B0) C s.heap (kstB rest [(Str.ofString "pos", .int pp tp), (Str.ofString "escape", .bool b), (Str.ofString "addr", .str t tt)])
  hga : s₀.heap.get? a = some ga
  nw : News (trunc s₀.heap B0) C s.heap [(a, ga)]
  en : ∃ old, IsEnum s.heap e it i old
  si : s.heap.IsStrIter it (strIterType t) t tt i

def GInv (g : Heap) (B0 a C e it : Addr) (ga : Obj) (t : Str) (tt : Tok) (k n : Nat) (s₀ s : Shared) : Prop :=
  ∃ i b pp, i + k = t.cps.size ∧ n = (es i b (t.cps.toList.drop i)).length ∧ n ≤ (es 0 false t.cps.toList).length ∧ (es 0 false t.cps.toList).drop ((es 0 false t.cps.toList).length - n) = es i b (t.cps.toList.drop i) ∧
    ((pp = (i : Int) - 1 ∧ 1 ≤ i) ∨ (i = 0 ∧ b = false)) ∧ GI g B0 a C e it ga t tt s₀ i b pp s

theorem keep_of {B0 a C : Addr} {ga : Obj} {s₀ : Shared} {h : Heap} {tk : Nat} {m : Str → Option Value} {news : List (Addr × Obj)} (ha : s₀.heap.get? a = some ga) (F : Fr (trunc s₀.heap B0) C h m) (N : News (trunc s₀.heap B0) C h news) (hm : (a, ga) ∈ news) :
    Keep B0 a s₀ { s₀ with heap := h, toks := tk } := ⟨h, tk, rfl, fun b o hb e => by
  rcases hb with hb | rfl
  · exact F.keep b o ((trunc_lt hb).trans e)
  · rw [ha] at e; cases e; exact (N _ hm).1⟩

theorem frKeep {B0 C e it : Addr} {s₀ : Shared} {h h' : Heap} {m : Str → Option Value} (hBe : @LE.le Nat _ B0 e) (hBit : @LE.le Nat _ B0 it) (hCe : @Ne Nat C e) (hCit : @Ne Nat C it) (F : Fr (trunc s₀.heap B0) C h m)
    (hk : ∀ b o, b ∉ [e, it] → h.get? b = some o → h'.get? b = some o) : Fr (trunc s₀.heap B0) C h' m :=
  ⟨F.ns.at' fun o q => hk _ o (by intro hm; rcases List.mem_cons.mp hm with hm | hm; exact hCe hm; exact hCit (List.mem_singleton.mp hm)) q,
   fun b o q => hk b o (by
    have hb := (trunc_some q).1
    intro hm
    rcases List.mem_cons.mp hm with hm | hm
    · subst hm; exact absurd hb (Nat.not_lt.mpr hBe)
    · rw [List.mem_singleton.mp hm] at hb; exact absurd hb (Nat.not_lt.mpr hBit)) (F.keep b o q), F.above⟩
theorem newsKeep {B0 C e it a : Addr} {ga : Obj} {s₀ : Shared} {h h' : Heap} (hae : @Ne Nat a e) (hait : @Ne Nat a it) (N : News (trunc s₀.heap B0) C h [(a, ga)])
    (hk : ∀ b o, b ∉ [e, it] → h.get? b = some o → h'.get? b = some o) : News (trunc s₀.heap B0) C h' [(a, ga)] := by
  intro p hp
  have hp' := List.mem_singleton.mp hp
  refine ⟨hk _ _ ?_ (N p hp).1, (N p hp).2⟩
  rw [hp']
  intro hm
  rcases List.mem_cons.mp hm with hm | hm
  · exact hae hm
  · exact hait (List.mem_singleton.mp hm)

abbrev enumObj (it : Addr) (i : Int) (old : Value) : Obj := { cls := .type "enumerate", data := .fields #[.none, .bool false, .ref it, rawInt i, .none, old] }
theorem sign_eq (c d : Nat) : ((⟨#[c]⟩ : PySem.Str) == ⟨#[d]⟩) = decide (c = d) := by
  by_cases h : c = d
  · subst h; simp
  · have : (⟨#[c]⟩ : PySem.Str) ≠ ⟨#[d]⟩ := by intro q; injection q with q; injection q with q; injection q with q; exact h q
    simp [h]
theorem backslash : Str.ofString "\\" = ⟨#[92]⟩ := by decide

theorem itY_mk {g : Heap} {B0 a C T : Addr} {ga : Obj} {all : List (Nat × List Nat)} {m : Nat} {s₀ : Shared} {h : Heap} {tk' : Nat} {mm : Str → Option Value} {news own : List (Addr × Obj)} {pp : Int} {p : Nat} {ch : List Nat} {tk u : Tok} {x : Str} {k : Nat} {kap : Resume → Shared → Prop}
    (hga : s₀.heap.get? a = some ga) (F : Fr (trunc s₀.heap B0) C h mm) (N : News (trunc s₀.heap B0) C h news) (hm : (a, ga) ∈ news) (hT : (T, ({ cls := .type "tuple", data := .seq #[.int pp tk, .str x u] k } : Obj)) ∈ news)
    (hpp : pp = (p : Int)) (hx : x = ⟨ch.toArray⟩) (hn : m + 1 ≤ all.length) (hall : all[all.length - (m + 1)]? = some (p, ch)) (hC : @LE.le Nat _ B0 C) (haC : @Ne Nat a C) (hown : ∀ q ∈ own, q ∈ news ∧ @LE.le Nat _ B0 q.1 ∧ @Ne Nat q.1 a)
    (hk : ∀ s'' : Shared, (∀ b o, g.get? b = some o → s''.heap.get? b = some o) → s''.heap.get? a = some ga → Fr (trunc s''.heap B0) C s''.heap mm → (∀ q ∈ own, s''.heap.get? q.1 = some q.2) → kap (.send .none) s'') :
    itY g B0 a ga all m s₀ (.ref T) { s₀ with heap := h, toks := tk' } kap := by
  subst hpp hx
  obtain ⟨oC, es, ep, hoC, r⟩ := F.ns
  refine ⟨keep_of hga F N hm, p, ch, T, tk, u, (C, oC) :: own, hn, hall, rfl, ⟨_, (N _ hT).1, rfl, _, rfl⟩, fun q hq => ?_, fun s'' h1 h2 h3 => ?_⟩
  · rcases List.mem_cons.mp hq with rfl | hq
    · exact ⟨hoC, hC, fun q => haC q.symm⟩
    · exact ⟨(N _ (hown q hq).1).1, (hown q hq).2⟩
  · exact hk s'' h1 h2 ⟨⟨oC, es, ep, h3 _ (.head _), r⟩, fun b o e => (trunc_some e).2, Nat.le_trans (trunc_size _ _) hC⟩ fun q hq => h3 q (.tail _ hq)

set_option maxRecDepth 100000 in
set_option maxHeartbeats 8000000 in
theorem iter_goes (w : World) {mean : ExcName → Option Value} {mg mb : Str → Option Value} {g : Heap} {B0 a C : Addr} {ga : Obj} (t : Str) (tt : Tok) (X : (Mine.hd.heap_39 w.params).In g) (T : Top Mine.hd.view_39 (looseW Mine.hd.view_39 []) mean mg mb g) (hlen : t.cps.size ≤ 2 ^ 20)
    {A : Around} (hh : A.handled = none) (hg : g.objs.size ≤ B0) (hC : B0 ≤ C) (haC : a ≠ C) (haB : B0 ≤ a) {s : Shared} (hga : s.heap.get? a = some ga) (hgk : ∀ b o, g.get? b = some o → s.heap.get? b = some o)
    (hn : s.heap.Ns C (fun x => ([(Str.ofString "addr", Value.str t tt)] : List (Str × Value)).reverse.lookup x)) :
    Seg (model PySem.Challenge.rw_wa0007_01.row.prog w) A (fun n s₀ r s₁ => r = .ok (.ret .none) ∧ (n = 0 ∧ Keep B0 a s₀ s₁)) (itY g B0 a ga (es 0 false t.cps.toList)) (es 0 false t.cps.toList).length s
      (.func (iterBody w) (iterEnv w C)) ((model PySem.Challenge.rw_wa0007_01.row.prog w).den (.func (iterBody w) (iterEnv w C))) [] s := by
  have X0 := X
  revert X0
  k_fill
  intro _
  have gt : ∀ s₀ : Shared, (∀ b o, g.get? b = some o → s₀.heap.get? b = some o) → ∀ b o, g.get? b = some o → (trunc s₀.heap B0).get? b = some o := fun s₀ hk b o e => (trunc_lt (Nat.lt_of_lt_of_le (Heap.lt_size e) hg)).trans (hk b o e)
  generalize hbody : iterBody w = body
  generalize hsc : (iterFd w).scope = sc
  have henv : iterEnv w C = envOf (Str.ofString "_iter_escaped_chars") sc C 35 (.ref 34) := by rw [← hsc]; rfl
  rw [henv]
  clear henv
  conv at hbody => lhs; whnf
  conv at hsc => lhs; whnf
  subst hbody hsc
  refine seg_func ?_
  refine seg_execs_cons (seg_stmt ?_)
  have F : Fr (trunc s.heap B0) C s.heap _ := ⟨hn, fun b o e => (trunc_some e).2, Nat.le_trans (trunc_size _ _) hC⟩
  have N : News (trunc s.heap B0) C s.heap [(a, ga)] := fun p hp => by rw [List.mem_singleton.mp hp]; exact ⟨hga, haC, trunc_ge haB⟩
  have X1 := X.keeps (gt s hgk)
  have T1 := T.keeps (gt s hgk)
  ktn_open
  refine seg_execs_cons (seg_stmt ?_)
  ktn_open
  refine seg_execs_cons (seg_For ?_)
  ktn_open
  refine call_enumerate_str fun h1 he hit hsz hk => ?_
  refine wpAny_pyIter_enum he ?_
  intro p
  rename Fr _ _ _ _ => F1
  rename News _ _ _ _ => N1
  dsimp only at he hit hsz hk ⊢
  rename_i hp
  have hCi := F1.ns.lt
  have hai := Heap.lt_size (N1 (a, ga) (.head _)).1
  have F2 := Fr.keeps F1 hk
  have N2 := News.grown N1 hk
  generalize hp.objs.size = it at he hit hsz hCi hai ⊢
  clear hk F1 N1
  obtain ⟨e, hee⟩ : ∃ e, e = it + 1 := ⟨_, rfl⟩
  rw [← hee] at he ⊢
  have q1 : @LT.lt Nat _ C it := hCi
  have q2 : @LT.lt Nat _ a it := hai
  have q3 : @LE.le Nat _ B0 C := hC
  have q4 : @Eq Nat e (it + 1) := hee
  have hCe : @Ne Nat C e := by omega
  have hCit : @Ne Nat C it := by omega
  have hae : @Ne Nat a e := by omega
  have hait : @Ne Nat a it := by omega
  have hei : @Ne Nat e it := by omega
  have hBe : @LE.le Nat _ B0 e := by omega
  have hBit : @LE.le Nat _ B0 it := by omega
  clear q1 q2 q3 q4
  clear hee hCi hai hsz
  refine seg_start (GInv g B0 a C e it ga t tt) ?_ (k := t.cps.size) ⟨0, false, 0, by omega, rfl, Nat.le_refl _, by simp, .inr ⟨rfl, rfl⟩, ⟨_, _, rfl⟩, hgk, ⟨s.toks, _, frB F2 ?ps⟩, hga, N2, ⟨_, he⟩, hit⟩
  case ps => kst_all
  clear he hit F2 N2 hga hgk hn X1 T1
  clear s
  have W := fun (A' : Around) (h' : A'.handled = none) => WalksT.enumerateD (prog := PySem.Challenge.rw_wa0007_01.row.prog) (w := w) (A := A') (drawsU (A := A'.in1) h' it t tt) e hei (by intro h; exact hei (List.mem_singleton.mp h)) (by simp)
  intro k
  induction k with
  | zero =>
    rintro n s₀ s ⟨i, b, pp, hik, hn, hn2, hall, hpp, I⟩
    obtain rfl : i = t.cps.size := by omega
    have hdr : t.cps.toList.drop t.cps.size = [] := List.drop_of_length_le (by simp)
    rw [hdr, es_end] at hn hall
    refine seg_forLoop ?_
    refine (W _ ?hW0).done s _ _ ⟨I.en, I.si⟩ fun h' tk hk => ?_
    case hW0 => exact hh
    refine seg_forEnd ?_
    obtain ⟨tp, rest, F⟩ := I.fr
    have F1 := frKeep hBe hBit hCe hCit F hk
    have N1 := newsKeep hae hait I.nw hk
    have X1 := X.keeps (gt s₀ I.gk)
    have T1 := T.keeps (gt s₀ I.gk)
    obtain ⟨h0, tk0, hs⟩ := I.same
    have hga := I.hga
    have hgk := I.gk
    clear I
    subst hs
    refine seg_execs_cons (seg_If ?_)
    ktn_open
    cases b with
    | false =>
      refine WhlIf.no rfl ?_
      refine seg_execs_nil (seg_execs_nil ?_)
      have h0 : n = 0 := hn
      exact seg_end (.ok (.ret .none)) ⟨rfl, h0, keep_of hga F1 N1 (.head _)⟩
    | true =>
      refine WhlIf.yes rfl ?_
      have h1 : n = 0 + 1 := hn
      subst h1
      refine seg_execs_cons (seg_Expr_Yield rfl rfl rfl ?_)
      ktn_open
      rename_i kap hkap
      have h1 : pp = ((t.cps.size - 1 : Nat) : Int) := by
        rcases hpp with ⟨q1, q2⟩ | ⟨_, q⟩
        · omega
        · cases q
      refine itY_mk (ch := [92]) (own := []) hga (by assumption) (by assumption) (.tail _ (.head _)) (.head _) h1 (by decide) hn2 (drop_tail hn2 hall).1 hC haC (fun _ q => nomatch q) ?_
      intro s'' _ _ _ _
      refine hkap .none s'' ?_
      dsimp only
      refine seg_execs_nil (seg_execs_nil ?_)
      exact seg_end (.ok (.ret .none)) ⟨rfl, rfl, Keep.refl⟩
  | succ k ih =>
    rintro n s₀ s ⟨i, b, pp, hik, hn, hn2, hall, hpp, I⟩
    have hlt : i < t.cps.size := by omega
    refine seg_forLoop ?_
    refine (W _ ?hW1).item i s _ _ hlt ⟨I.en, I.si⟩ fun TT vals h1 tk1 hP _ hT hM hk1 => ?_
    case hW1 => exact hh
    have hTw := (W A hh).apart i TT _ hM
    refine (W _ ?hW2).go _ _ _ i TT _ _ _ hM fun h2 hst hk2 => ?_
    case hW2 => exact hh
    obtain ⟨tki, x, ⟨c, u, hc, rfl⟩, rfl⟩ := hP
    obtain ⟨oT, hoT, hcT, nT, hdT⟩ := hT
    have hT2 : h2.IsTuple TT #[.int i tki, .str ⟨#[c]⟩ u] := ⟨oT, hk2 _ _ hTw hoT, hcT, nT, hdT⟩
    obtain ⟨tp, rest, F⟩ := I.fr
    have F1 := frKeep hBe hBit hCe hCit (frKeep hBe hBit hCe hCit F hk1) hk2
    have N1 := newsKeep hae hait (newsKeep hae hait I.nw hk1) hk2
    have X1 := X.keeps (gt s₀ I.gk)
    have T1 := T.keeps (gt s₀ I.gk)
    obtain ⟨h0, tk0, hs⟩ := I.same
    have hga := I.hga
    have hgk := I.gk
    clear I
    subst hs
    refine kcp_assign ?hW3 hT2 rfl rfl rfl F1.ns fun h3 tk3 hn3 hk3 => ?_
    case hW3 => exact hh
    have F3 : Fr (trunc s₀.heap B0) C h3 _ := ⟨hn3, fun b o e => hk3 b o (by
      intro hb
      have := (trunc_some e).1
      rw [hb] at this
      exact absurd this (Nat.not_lt.mpr hC)) (F1.keep b o e), F1.above⟩
    have N3 : News (trunc s₀.heap B0) C h3 [(a, ga)] := fun p hp => ⟨hk3 _ _ (N1 p hp).2.1 (N1 p hp).1, (N1 p hp).2⟩
    obtain ⟨⟨old, hE⟩, oi, hoi, hci, hdi⟩ := hst
    have N4 : News (trunc s₀.heap B0) C h3 [(e, enumObj it ((i + 1 : Nat) : Int) old), (it, oi), (a, ga)] := by
      intro p hp
      rcases List.mem_cons.mp hp with rfl | hp
      · exact ⟨hk3 _ _ hCe.symm hE, hCe.symm, trunc_ge hBe⟩
      rcases List.mem_cons.mp hp with rfl | hp
      · exact ⟨hk3 _ _ hCit.symm hoi, hCit.symm, trunc_ge hBit⟩
      · exact N3 p hp
    have hdr : t.cps.toList.drop i = c :: t.cps.toList.drop (i + 1) := by
      obtain ⟨hl, hcc⟩ := Array.getElem?_eq_some_iff.mp hc
      rw [List.drop_eq_getElem_cons (by simpa using hl)]
      simp [hcc]
    clear hk1 hk2 hk3 hn3 N3 F1 N1 F hE hoi hT2 hoT hcT hdT hTw hM
    refine seg_execs_cons (seg_If ?_)
    ktn_open
    cases b with
    | true =>
      refine WhlIf.yes rfl ?_
      rw [hdr, es_t] at hall
      rw [hdr, es_t, List.length_cons] at hn
      obtain ⟨n', hn'⟩ : ∃ n', n' = (es (i + 1) false (t.cps.toList.drop (i + 1))).length := ⟨_, rfl⟩
      rw [← hn'] at hn
      subst hn
      refine seg_execs_cons (seg_Expr_Yield rfl rfl rfl ?_)
      ktn_open
      rename_i kap hkap
      refine itY_mk (ch := [92, c]) (own := [(e, enumObj it ((i + 1 : Nat) : Int) old), (it, oi)]) hga (by assumption) (by assumption) (.tail _ (.tail _ (.tail _ (.head _)))) (.head _) rfl (by rw [backslash]; rfl) hn2 (drop_tail hn2 hall).1 hC haC ?_ ?_
      · intro q hq
        rcases List.mem_cons.mp hq with rfl | hq
        · exact ⟨.tail _ (.head _), hBe, hae.symm⟩
        · rw [List.mem_singleton.mp hq]; exact ⟨.tail _ (.tail _ (.head _)), hBit, hait.symm⟩
      intro s'' hg'' ha'' F5 hown
      refine hkap .none s'' ?_
      dsimp only
      have X2 := X.keeps (gt s'' hg'')
      have T2 := T.keeps (gt s'' hg'')
      have N5 : News (trunc s''.heap B0) C s''.heap [(e, enumObj it ((i + 1 : Nat) : Int) old), (it, oi), (a, ga)] := by
        intro p hp
        rcases List.mem_cons.mp hp with rfl | hp
        · exact ⟨hown _ (.head _), hCe.symm, trunc_ge hBe⟩
        rcases List.mem_cons.mp hp with rfl | hp
        · exact ⟨hown _ (.tail _ (.head _)), hCit.symm, trunc_ge hBit⟩
        · rw [List.mem_singleton.mp hp]; exact ⟨ha'', haC, trunc_ge haB⟩
      clear hown
      refine seg_execs_cons (seg_stmt ?_)
      ktn_open
      refine seg_execs_nil (seg_execs_nil ?_)
      rename News _ _ _ _ => N6
      rename Fr _ _ _ _ => F6
      refine seg_again rfl (ih _ _ _ ⟨i + 1, false, (i : Int), by omega, hn', by omega, (drop_tail hn2 hall).2, .inl ⟨by omega, by omega⟩, ⟨_, _, rfl⟩, hg'', ⟨tki, _, frB F6 ?ps1⟩, ha'',
        (fun p hp => N6 p (.tail _ (.tail _ hp))), ⟨old, (N6 _ (.head _)).1⟩, oi, (N6 _ (.tail _ (.head _))).1, hci, hdi⟩)
      case ps1 => kst_all
    | false =>
      refine WhlIf.no rfl ?_
      refine seg_execs_cons (seg_If ?_)
      ktn_open
      rw [backslash, sign_eq]
      refine whl_dec (fun hc92 => ?_) (fun hc92 => ?_)
      · subst hc92
        rw [hdr, es_b] at hall hn
        refine seg_execs_cons (seg_stmt ?_)
        ktn_open
        refine seg_execs_nil (seg_execs_nil (seg_execs_nil ?_))
        rename News _ _ _ _ => N6
        rename Fr _ _ _ _ => F6
        refine seg_again rfl (ih _ _ _ ⟨i + 1, true, (i : Int), by omega, hn, by omega, hall, .inl ⟨by omega, by omega⟩, ⟨_, _, rfl⟩, hgk, ⟨tki, _, frB F6 ?ps2⟩, hga,
          (fun p hp => N6 p (.tail _ (.tail _ hp))), ⟨old, (N6 _ (.head _)).1⟩, oi, (N6 _ (.tail _ (.head _))).1, hci, hdi⟩)
        case ps2 => kst_all
      · rw [hdr, es_f _ _ _ hc92] at hall
        rw [hdr, es_f _ _ _ hc92, List.length_cons] at hn
        obtain ⟨n', hn'⟩ : ∃ n', n' = (es (i + 1) false (t.cps.toList.drop (i + 1))).length := ⟨_, rfl⟩
        rw [← hn'] at hn
        subst hn
        refine seg_execs_cons (seg_Expr_Yield rfl rfl rfl ?_)
        ktn_open
        rename_i kap hkap
        refine itY_mk (ch := [c]) (own := [(e, enumObj it ((i + 1 : Nat) : Int) old), (it, oi)]) hga (by assumption) (by assumption) (.tail _ (.tail _ (.tail _ (.head _)))) (.head _) rfl rfl hn2 (drop_tail hn2 hall).1 hC haC ?_ ?_
        · intro q hq
          rcases List.mem_cons.mp hq with rfl | hq
          · exact ⟨.tail _ (.head _), hBe, hae.symm⟩
          · rw [List.mem_singleton.mp hq]; exact ⟨.tail _ (.tail _ (.head _)), hBit, hait.symm⟩
        intro s'' hg'' ha'' F5 hown
        refine hkap .none s'' ?_
        dsimp only
        refine seg_execs_nil (seg_execs_nil (seg_execs_nil ?_))
        refine seg_again rfl (ih _ _ _ ⟨i + 1, false, (i : Int), by omega, hn', by omega, (drop_tail hn2 hall).2, .inl ⟨by omega, by omega⟩, ⟨_, _, rfl⟩, hg'', ⟨tki, _, frB F5 ?ps3⟩, ha'',
          (fun p hp => by rw [List.mem_singleton.mp hp]; exact ⟨ha'', haC, trunc_ge haB⟩), ⟨old, hown _ (.head _)⟩, oi, hown _ (.tail _ (.head _)), hci, hdi⟩)
        case ps3 => kst_all
end Mine
end
section
open PySem PySem.W PySem.Calls PySem.Spec PyProof.Rows
set_option Elab.async false
namespace Mine

theorem push_set {α : Type} (gs : Array α) (x y : α) : (gs.push x).setIfInBounds gs.size y = gs.push y := by
  apply Array.ext
  · simp
  · intro i h1 h2
    simp only [Array.size_setIfInBounds, Array.size_push] at h1
    rw [Array.getElem_setIfInBounds (by simpa using h1), Array.getElem_push]
    by_cases e : gs.size = i
    · subst e; simp
    · rw [if_neg e, Array.getElem_push]
      have : i < gs.size := by omega
      simp [this]

theorem letOwned_gen {M : Model} {A : Around} {E : Value → Shared → Prop} {s : Shared} {elts : List Expr} {x1 : Nat} {pos : Pos} {a T : Addr} {g : Nat} {Q : Unit → Shared → Prop} (hg : s.heap.IsGen a g) (hQ : Q () s) :
    wpAny M A (letOwnedTupleGo (.Tuple elts x1 pos) (.ref a) (.ref T)) Q E s := by
  obtain ⟨o, nm, qn, ho, hc, hd, _⟩ := hg
  unfold letOwnedTupleGo
  refine wpAny_bind (wpAny_load ho ?_)
  rw [hc, hd]
  have no : (["enumerate", "zip", "dict_itemiterator", "dict_reverseitemiterator", "odict_iterator", "itertools.zip_longest", "itertools.pairwise"].contains "generator") = false := by decide
  show wpAny _ A (if (["enumerate", "zip", "dict_itemiterator", "dict_reverseitemiterator", "odict_iterator", "itertools.zip_longest", "itertools.pairwise"].contains "generator" && _) = true then _ else _) Q E s
  rw [no, Bool.false_and, if_neg Bool.false_ne_true]
  exact wpAny_pure hQ

/-- the generator, woken, goes on with n more items -/
def Ready (M : Model) (A : Around) (g : Heap) (B0 a : Addr) (ga : Obj) (all : List (Nat × List Nat)) (n : Nat) (gx : GenState) (own : List (Addr × Obj)) : Prop :=
  ∀ s'' : Shared, (∀ b o, g.get? b = some o → s''.heap.get? b = some o) → s''.heap.get? a = some ga → (∀ q ∈ own, s''.heap.get? q.1 = some q.2) →
    gx.Goes M A.in1 (fun n s₀ r s₁ => r = .ok (.ret .none) ∧ (n = 0 ∧ Keep B0 a s₀ s₁)) (itY g B0 a ga all) n (.send .none) s''

/-- the end of a turn of a for over the generator -/
def GTurn {σ : Type} (g : Heap) (L : Addr) (s0 : Shared) (ps : σ → List (Str × Value)) (P : σ → Prop) (led : List (Addr × Obj)) (R : Result → Shared → Prop) (f : Flow) (s : Shared) : Prop :=
  match f with
  | .ret v => R (.ok (.ret v)) s
  | .brk => R (.ok .next) s
  | _ => ∃ c h tk m news, s = { s0 with heap := h, toks := tk } ∧ Fr g L h m ∧ News g L h news ∧ (∀ p ∈ led, p ∈ news) ∧ (∀ p ∈ ps c, m p.1 = some p.2) ∧ P c

theorem gturn_next {σ : Type} {g : Heap} {L : Addr} {s0 : Shared} {ps : σ → List (Str × Value)} {P : σ → Prop} {led : List (Addr × Obj)} {R : Result → Shared → Prop} {h : Heap} {tk : Nat} {m : Str → Option Value} {news : List (Addr × Obj)} (c : σ)
    (F : Fr g L h m) (N : News g L h news) (hN : ∀ p ∈ led, p ∈ news) (hps : ∀ p ∈ ps c, m p.1 = some p.2) (hP : P c) :
    GTurn g L s0 ps P led R .next { s0 with heap := h, toks := tk } := ⟨c, h, tk, m, news, rfl, F, N, hN, hps, hP⟩

section
variable {prog : Program} {w : World} {A : Around} {env : Env} {R : Result → Shared → Prop}

theorem for_gen {σ : Type} {g : Heap} {B0 a : Addr} {ga : Obj} {all : List (Nat × List Nat)} {gs0 : Array GenState} {xa xb : Str} {pa pb tp : Pos} {kk : Nat} {body : List Stmt} {news : List (Addr × Obj)} {nm qn : Value} (ps : σ → List (Str × Value)) (P : List (Nat × List Nat) → σ → Prop)
    (hh : A.handled = none) (hroom : A.depth < recursionLimit) (hlim : g.NoLimit) (hgB : g.objs.size ≤ B0) (hL : @LT.lt Nat _ env.locals B0) (haB : @LE.le Nat _ B0 a) (hnews : ∀ p ∈ news, @LT.lt Nat _ p.1 B0)
    (hga : ga = { cls := .type "generator", data := .fields #[.int gs0.size 0, nm, qn] })
    (ha : env.kindOf xa = some .local) (hb : env.kindOf xb = some .local) (hp : (env.scope.kind == .class || (env.scope.kind == .module && env.locals != env.globals)) = false)
    (s0 : Shared)
    (turn : ∀ p ch l c gs h tk t u rest led, P ((p, ch) :: l) c → (∀ q ∈ news, q ∈ led) → Fr g env.locals h (fun z => if z = xb then some (.str ⟨ch.toArray⟩ u) else if z = xa then some (.int (p : Nat) t) else kstB rest (ps c) z) → News g env.locals h led →
      wpAny (model prog w) A (execs body env) (GTurn g env.locals { s0 with gens := gs } ps (P l) led R) (notedBy (model prog w) A env fun e s' => R (.error e) s') { s0 with heap := h, toks := tk, gens := gs })
    (done : ∀ c rest h tk, P [] c → Fr g env.locals h (kstB rest (ps c)) → News g env.locals h news → R (.ok .next) { s0 with heap := h, toks := tk, gens := gs0.push .finished }) :
    ∀ (l : List (Nat × List Nat)) (c : σ) (h : Heap) (tk : Nat) (rest : Str → Option Value) (gx : GenState) (own : List (Addr × Obj)), all.drop (all.length - l.length) = l → l.length ≤ all.length → P l c → Fr g env.locals h (kstB rest (ps c)) →
      News g env.locals h (own ++ (a, ga) :: news) → (∀ q ∈ own, @LE.le Nat _ B0 q.1 ∧ @Ne Nat q.1 a) → Ready (model prog w) A g B0 a ga all l.length gx own →
      codeAny (model prog w) A (.forLoop (.Tuple [.Name xa pa, .Name xb pb] kk tp) (.ref a) body [] env) R { s0 with heap := h, toks := tk, gens := gs0.push gx } := by
  intro l c h tk rest gx own hall hlen hP F N hown hr
  refine codeAny_forLoop_any (fun k s' => ∃ (l : List (Nat × List Nat)) (c : σ) (h : Heap) (tk : Nat) (rest : Str → Option Value) (gx : GenState) (own : List (Addr × Obj)), k = l.length ∧ s' = { s0 with heap := h, toks := tk, gens := gs0.push gx } ∧ all.drop (all.length - l.length) = l ∧ l.length ≤ all.length ∧ P l c ∧ Fr g env.locals h (kstB rest (ps c)) ∧
      News g env.locals h (own ++ (a, ga) :: news) ∧ (∀ q ∈ own, @LE.le Nat _ B0 q.1 ∧ @Ne Nat q.1 a) ∧ Ready (model prog w) A g B0 a ga all l.length gx own) ?_ l.length ⟨l, c, h, tk, rest, gx, own, rfl, rfl, hall, hlen, hP, F, N, hown, hr⟩
  clear hall hlen hP F N hown hr l c h tk rest gx own
  rintro k s' ⟨l, c, h, tk, rest, gx, own, rfl, rfl, hall, hlen, hP, F, N, hown, hr⟩
  have ga_at : h.get? a = some ga := (N (a, ga) (List.mem_append.mpr (.inr (.head _)))).1
  have gen_at : ∀ h' : Heap, h'.get? a = some ga → h'.IsGen a gs0.size := fun h' e => ⟨_, nm, qn, e, by rw [hga], by rw [hga], by rw [hga]⟩
  have hready := hr { s0 with heap := h, toks := tk, gens := (gs0.push gx).setIfInBounds gs0.size .running } F.keep ga_at (fun q hq => (N q (List.mem_append.mpr (.inl hq))).1)
  -- what the caller knows behind a step of the generator
  have after : ∀ s₁ : Shared, Keep B0 a { s0 with heap := h, toks := tk, gens := (gs0.push gx).setIfInBounds gs0.size .running } s₁ → ∃ h₁ tk₁, s₁ = { s0 with heap := h₁, toks := tk₁, gens := gs0.push .running } ∧ h₁.get? a = some ga ∧ Fr g env.locals h₁ (kstB rest (ps c)) ∧ News g env.locals h₁ ((a, ga) :: news) := by
    rintro s₁ ⟨h₁, tk₁, rfl, hk⟩
    have hk' : ∀ b o, (@LT.lt Nat _ b B0 ∨ b = a) → h.get? b = some o → h₁.get? b = some o := hk
    refine ⟨h₁, tk₁, by simp only [push_set], hk' _ _ (.inr rfl) ga_at, ⟨F.ns.at' fun o e => hk' _ o (.inl hL) e, fun b o e => hk' _ _ (.inl (Nat.lt_of_lt_of_le (Heap.lt_size e) hgB)) (F.keep b o e), F.above⟩, fun p hp => ?_⟩
    have Np := N p (List.mem_append.mpr (.inr hp))
    refine ⟨hk' _ _ ?_ Np.1, Np.2⟩
    rcases List.mem_cons.mp hp with rfl | hp
    · exact .inr rfl
    · exact .inl (hnews p hp)
  refine wpAny_pyNext_gen (s := { s0 with heap := h, toks := tk, gens := gs0.push gx }) (g := gs0.size) (gs := gx) (n := l.length) (P := fun n s₀ s₁ => n = 0 ∧ Keep B0 a s₀ s₁) (Y := itY g B0 a ga all) hh (hlim.keeps F.keep) hroom (gen_at h ga_at) (by simp) hready ?_ ?_
  · intro v s₁ gs' hY
    obtain ⟨hkeep, p, ch, T, tkp, u, own', hle, hit, rfl, hT, hown', hkap⟩ := hY
    obtain ⟨h₁, tk₁, rfl, hga₁, F₁, N₁⟩ := after s₁ hkeep
    cases l with
    | nil => exact (hkap _ F₁.keep hga₁ fun q hq => (hown' q hq).1).elim
    | cons x l =>
      dsimp only [List.length_cons] at hle hit hkap hlen hall
      rw [Nat.add_sub_cancel] at hle hit
      obtain ⟨e1, e2⟩ := drop_tail hlen hall
      rw [e1] at hit
      obtain rfl : x = (p, ch) := Option.some.inj hit
      have hgens : (({ s0 with heap := h₁, toks := tk₁, gens := gs0.push .running } : Shared).setGen gs0.size gs') = { s0 with heap := h₁, toks := tk₁, gens := gs0.push gs' } := by
        simp only [Shared.setGen, push_set]
      rw [hgens]
      refine letOwned_gen (gen_at h₁ hga₁) ?_
      refine kcp_assign hh hT ha hb hp F₁.ns fun h₂ tk₂ hn₂ hk₂ => ?_
      have hLo : ∀ q ∈ own', q.1 ≠ env.locals := fun q hq e => by
        have := (hown' q hq).2.1
        rw [e] at this
        exact absurd hL (Nat.not_lt.mpr this)
      have F₂ : Fr g env.locals h₂ _ := ⟨hn₂, fun b o e => hk₂ b o (by
        intro hb
        have h3 := Nat.lt_of_lt_of_le (Heap.lt_size e) F₁.above
        rw [hb] at h3
        exact absurd h3 (Nat.lt_irrefl _)) (F₁.keep b o e), F₁.above⟩
      have N₂ : News g env.locals h₂ (own' ++ (a, ga) :: news) := by
        intro q hq
        rcases List.mem_append.mp hq with hq | hq
        · refine ⟨hk₂ _ _ (hLo q hq) (hown' q hq).1, hLo q hq, ?_⟩
          cases hx : g.get? q.1 with
          | none => rfl
          | some o => exact absurd (Nat.lt_of_lt_of_le (Heap.lt_size hx) hgB) (Nat.not_lt.mpr (hown' q hq).2.1)
        · exact ⟨hk₂ _ _ (N₁ q hq).2.1 (N₁ q hq).1, (N₁ q hq).2⟩
      refine wpAny_mono (turn p ch l c (gs0.push gs') h₂ tk₂ tkp u rest _ hP (fun q hq => List.mem_append.mpr (.inr (.tail _ hq))) F₂ N₂) (fun f s₃ hf => ?_) fun _ _ x => x
      have fin : GTurn g env.locals { s0 with gens := gs0.push gs' } ps (P l) (own' ++ (a, ga) :: news) R .next s₃ → _ := fun ⟨c', h₃, tk₃, m₃, news₃, e3, F₃, N₃, hN₃, hps₃, hP₃⟩ =>
        (⟨l.length, Nat.lt_succ_self _, l, c', h₃, tk₃, m₃, gs', own', rfl, e3, e2, by omega, hP₃, frB F₃ hps₃, fun q hq => N₃ q (hN₃ q hq), fun q hq => (hown' q hq).2,
          fun s'' h1 h2 h3 => hkap s'' h1 h2 h3⟩ : ∃ m, m < (((p, ch) :: l).length) ∧ ∃ (l : List (Nat × List Nat)) (c : σ) (h : Heap) (tk : Nat) (rest : Str → Option Value) (gx : GenState) (own : List (Addr × Obj)), m = l.length ∧ s₃ = { s0 with heap := h, toks := tk, gens := gs0.push gx } ∧ all.drop (all.length - l.length) = l ∧ l.length ≤ all.length ∧ P l c ∧ Fr g env.locals h (kstB rest (ps c)) ∧
      News g env.locals h (own ++ (a, ga) :: news) ∧ (∀ q ∈ own, @LE.le Nat _ B0 q.1 ∧ @Ne Nat q.1 a) ∧ Ready (model prog w) A g B0 a ga all l.length gx own)
      cases f with
      | ret v => exact hf
      | brk => exact hf
      | next => exact fin hf
      | cont => exact fin hf
  · rintro s₁ ⟨h0, hkeep⟩ h' hk'
    obtain rfl : l = [] := List.eq_nil_of_length_eq_zero h0
    obtain ⟨h₁, tk₁, rfl, hga₁, F₁, N₁⟩ := after s₁ hkeep
    have e : ({ (({ s0 with heap := h₁, toks := tk₁, gens := gs0.push .running } : Shared).setGen gs0.size .finished) with heap := h' } : Shared) = { s0 with heap := h', toks := tk₁, gens := gs0.push .finished } := by
      simp only [Shared.setGen, push_set]
    rw [e]
    refine wpAny_execs_nil ?_
    exact done c rest h' tk₁ hP (Fr.keeps F₁ hk') (fun q hq => ⟨hk' _ _ (N₁ q (.tail _ hq)).1, (N₁ q (.tail _ hq)).2⟩)
end
end Mine
end
section
open PySem PySem.W PySem.Calls PySem.Spec PyProof.Rows
set_option Elab.async false
namespace Mine
noncomputable def iterObj (w : World) : Obj := ((Mine.hd.heap_39 w.params).lookup 35).getD default

set_option maxRecDepth 100000 in
set_option maxHeartbeats 8000000 in
theorem iter_call (w : World) {mean : ExcName → Option Value} {mg mb : Str → Option Value} {g : Heap} {L : Addr} {m : Str → Option Value} {A : Around} {s : Shared} {t : Str} {tt : Tok} {Q E : Value → Shared → Prop}
    (X : (Mine.hd.heap_39 w.params).In g) (T : Top Mine.hd.view_39 (looseW Mine.hd.view_39 []) mean mg mb g) (F : Fr g L s.heap m) (hroom : A.depth < recursionLimit)
    (h : ∀ (h' : Heap) (tk : Nat) (nm qn : Value), h'.Ns s.heap.objs.size (fun x => ([(Str.ofString "addr", Value.str t tt)] : List (Str × Value)).reverse.lookup x) → (∀ b o, s.heap.get? b = some o → h'.get? b = some o) →
      h'.get? (s.heap.objs.size + 1) = some { cls := .type "generator", data := .fields #[.int s.gens.size 0, nm, qn] } →
      Q (.ref (s.heap.objs.size + 1)) { s with heap := h', toks := tk, gens := s.gens.push (.fresh (.func (iterBody w) (iterEnv w s.heap.objs.size))) }) :
    wpAny (model PySem.Challenge.rw_wa0007_01.row.prog w) A (call (.ref 35) [.str t tt]) Q E s := by
  have X0 := X
  revert X0
  k_fill
  intro _
  have X1 := X.keeps F.keep
  have hl : (Mine.hd.heap_39 w.params).lookup 35 = some (iterObj w) := rfl
  have hcr : s.heap.CodeRec (.ref 34) (Str.ofString "_iter_escaped_chars") := codeRec_of X1 (by k_is)
  refine wpAny_call ?_
  refine codeAny_call_generator (fd := iterFd w) (body := iterBody w) hroom (X1 35 _ hl) rfl rfl rfl rfl hcr ?_
  refine wpAny_of_eq (a := [(Str.ofString "addr", Value.str t tt)]) rfl ?_
  refine wpAny_newFunctionEnv ?_ ?_ (fun h' hn hs => ?_) rfl
  · show ∀ x ∈ (iterFd w).scope.names, x.2 ≠ .cell
    generalize hsc : (iterFd w).scope = sc
    conv at hsc => lhs; whnf
    subst hsc
    decide
  · intro x hx
    rw [List.mem_singleton.mp hx]
    rfl
  · have hsz : h'.objs.size = s.heap.objs.size + 1 := by rw [hs.1, Heap.size_push]
    have keep : ∀ b o, s.heap.get? b = some o → h'.get? b = some o := fun b o e => hs.extBut b o (Nat.ne_of_lt (Heap.lt_size e)) (Heap.get?_push_of_some _ e)
    refine ⟨(T.nolimit.keeps F.keep).keeps keep, ?_⟩
    show Q (.ref h'.objs.size) _
    have := h (h'.push { cls := .type "generator", data := .fields #[.int s.gens.size 0, .str (iterFd w).name (s.toks + 1), .str (iterFd w).qualname (s.toks + 1 + 1)] }) (s.toks + 1 + 1 + 1) _ _ (hn.push _) (fun b o e => Heap.get?_push_of_some _ (keep b o e)) (by rw [← hsz]; exact Heap.get?_push_size _ rfl)
    rw [← hsz] at this
    exact this
end Mine
end
section
open PySem PySem.W PySem.Calls PySem.Spec PyProof.Rows
set_option Elab.async false
namespace Mine
local macro_rules | `(tactic| ktn_open) => `(tactic| (repeat' (first | (k_unfold; (try dsimp only)) | ((fail_if_success (with_reducible show wpAny _ _ (exec (Stmt.While _ _ _ _) _) _ _ _)); (fail_if_success (with_reducible show wpAny _ _ (exec (Stmt.For _ _ _ _ _) _) _ _ _)); walk1) | (dsimp only; walk1))))

set_option maxRecDepth 100000 in
set_option maxHeartbeats 8000000 in
theorem strip_spec (w : World) (t : Str) (tt : Tok) (ht : 34 ∉ t.cps.toList) :
    SpecP w 42 [.str t tt] 1 8 (fun v => v = .str t tt) := by
  unfold SpecP
  k_fill
  intro mean mg mb dp un gd cn cs a ccd cl outer A₀ base h₀ L m news s Q E B F X N T hk hd hu hret
  have hocc : (Builtin.Str.occurrences t (Str.ofString "\"") 0 t.length 1).isEmpty = true := by
    have e : Str.ofString "\"" = ⟨#[34]⟩ := by decide
    have := StrLaws.found_one t 34
    rw [e]
    rw [decide_eq_false ht] at this
    simpa using this
  refine wpAny_call ?_
  k_dflt ktr_enter
  ktn_open
  exact hret _ _ _ rfl (by assumption) (by assumption)

theorem sgn_eq (ch : List Nat) (d : Nat) : ((⟨ch.toArray⟩ : PySem.Str) == ⟨#[d]⟩) = decide (ch = [d]) := by
  by_cases h : ch = [d]
  · subst h; simp
  · have : (⟨ch.toArray⟩ : PySem.Str) ≠ ⟨#[d]⟩ := by intro q; injection q with q; exact h (by simpa using congrArg Array.toList q)
    simp [h, this]
theorem opn : Str.ofString "(" = ⟨#[40]⟩ := by decide
theorem shut : Str.ofString ")" = ⟨#[41]⟩ := by decide
section
variable {p : Nat} {ch : List Nat} {l : List (Nat × List Nat)} {o o1 : Int}
theorem fo_open (h : ((⟨ch.toArray⟩ : PySem.Str) == Str.ofString "(") = true) (hP : fo o1 ((p, ch) :: l) = some o) : fo (o1 + 1) l = some o := by
  rw [opn, sgn_eq, decide_eq_true_eq] at h
  rwa [fo, if_pos h] at hP
theorem fo_neg (h : ((⟨ch.toArray⟩ : PySem.Str) == Str.ofString "(") = false) (h2 : ((⟨ch.toArray⟩ : PySem.Str) == Str.ofString ")") = true) (h3 : o1 - 1 < 0) (hP : fo o1 ((p, ch) :: l) = some o) : False := by
  rw [opn, sgn_eq, decide_eq_false_iff_not] at h
  rw [shut, sgn_eq, decide_eq_true_eq] at h2
  rw [fo, if_neg h, if_pos h2, if_pos h3] at hP
  cases hP
theorem fo_shut (h : ((⟨ch.toArray⟩ : PySem.Str) == Str.ofString "(") = false) (h2 : ((⟨ch.toArray⟩ : PySem.Str) == Str.ofString ")") = true) (h3 : ¬ o1 - 1 < 0) (hP : fo o1 ((p, ch) :: l) = some o) : fo (o1 - 1) l = some o := by
  rw [opn, sgn_eq, decide_eq_false_iff_not] at h
  rw [shut, sgn_eq, decide_eq_true_eq] at h2
  rwa [fo, if_neg h, if_pos h2, if_neg h3] at hP
theorem fo_else (h : ((⟨ch.toArray⟩ : PySem.Str) == Str.ofString "(") = false) (h2 : ((⟨ch.toArray⟩ : PySem.Str) == Str.ofString ")") = false) (hP : fo o1 ((p, ch) :: l) = some o) : fo o1 l = some o := by
  rw [opn, sgn_eq, decide_eq_false_iff_not] at h
  rw [shut, sgn_eq, decide_eq_false_iff_not] at h2
  rwa [fo, if_neg h, if_neg h2] at hP
end
theorem ge_none {h : Heap} {b : Addr} (hb : h.objs.size ≤ b) : h.get? b = none := by
  cases q : h.get? b with
  | none => rfl
  | some o => exact absurd (Heap.lt_size q) (Nat.not_lt.mpr hb)
theorem fr1 {g : Heap} {L : Addr} {h : Heap} {m : Str → Option Value} {x : Str} {i : Int} (F : Fr g L h m) (hx : ∃ t, m x = some (.int i t)) : ∃ t rest, Fr g L h (kstB rest [(x, .int i t)]) := by
  obtain ⟨t, ht⟩ := hx
  exact ⟨t, m, frB F fun p hp => by rw [List.mem_singleton.mp hp]; exact ht⟩

set_option maxRecDepth 100000 in
set_option maxHeartbeats 8000000 in
theorem check_spec (w : World) (t : Str) (tt : Tok) (o : Int) (ht : 34 ∉ t.cps.toList) (hlen : t.cps.size ≤ 2 ^ 20) (ho : chk false 0 t.cps.toList = some o) :
    Spec w 49 [.str t tt] 4 32 (fun v => v = .bool (o == 0)) := by
  unfold Spec
  k_fill
  intro mean mg mb dp un gd cn cs a ccd cl outer A₀ base h₀ L m news s Q E B F X N T hk hd hu hg hret
  refine wpAny_call ?_
  k_dflt ktr_enter
  ktn_open
  refine specP_use (strip_spec w t tt ht) (by k_asm) (by k_asm) (by k_asm) (by k_asm) (by k_asm) rfl (by ktr_room) (by ktr_units) ?_
  rintro v h1 tk1 rfl F1 N1
  (try dsimp only)
  (try k_fold)
  ktn_open
  refine wpAny_For ?_
  ktn_open
  rename Fr _ _ _ _ => F9
  rename News _ _ _ _ => N9
  rename Frag.In _ _ => X9
  rename Top _ _ _ _ _ _ => T9
  refine iter_call w X9 T9 F9 (by ktr_room) fun h2 tk2 nm qn hns hkeep hgen => ?_
  refine wpAny_pyIter_gen ⟨_, nm, qn, hgen, rfl, rfl, rfl⟩ ?_
  dsimp only at hns hkeep hgen ⊢
  obtain ⟨oC, es', ep', hoC, hdC, hkC, hfC⟩ := hns
  rename_i hp
  have hLB := F9.ns.lt
  have hNB : ∀ p ∈ news, @LT.lt Nat _ p.1 hp.objs.size := fun p hp' => Heap.lt_size (N9 p hp').1
  have F2 := Fr.keeps F9 hkeep
  have N2 := News.grown N9 hkeep
  have hgB := Nat.le_trans F9.above (Nat.le_of_lt hLB)
  obtain ⟨to, rest0, F3⟩ := fr1 (x := Str.ofString "opens") (i := 0) F2 ⟨_, rfl⟩
  clear N9 hkeep F2
  generalize hp.objs.size = B0 at hoC hgen hLB hNB hgB ⊢
  refine for_gen (σ := Int × Tok) (B0 := B0) (ga := _) (all := es 0 false t.cps.toList) (gs0 := s.gens) (nm := nm) (qn := qn) (news := news) (fun c => [(Str.ofString "opens", .int c.1 c.2)]) (fun l c => fo c.1 l = some o)
    rfl (by ktr_room) T9.nolimit hgB hLB (Nat.le_succ _) hNB rfl rfl rfl rfl s ?turn ?done _ (0, to) h2 tk2 rest0 _ [(B0, oC)] (by simp) (Nat.le_refl _) (by show fo 0 _ = _; rw [fo_es]; exact ho) F3 ?hN ?hown ?hready
  case hN =>
    intro q hq
    rcases List.mem_cons.mp hq with rfl | hq
    · exact ⟨hoC, Nat.ne_of_gt hLB, ge_none hgB⟩
    rcases List.mem_cons.mp hq with rfl | hq
    · exact ⟨hgen, Nat.ne_of_gt (Nat.lt_succ_of_lt hLB), ge_none (Nat.le_succ_of_le hgB)⟩
    · exact N2 q hq
  case hown =>
    intro q hq
    rw [List.mem_singleton.mp hq]
    exact ⟨Nat.le_refl _, Nat.ne_of_lt (Nat.lt_succ_self _)⟩
  case hready =>
    intro s'' h1 h2 h3
    exact ⟨rfl, iter_goes w t tt X9 T9 hlen rfl hgB (Nat.le_refl _) (Nat.ne_of_gt (Nat.lt_succ_self _)) (Nat.le_succ _) h2 h1 ⟨oC, es', ep', h3 _ (.head _), hdC, hkC, hfC⟩⟩
  case done =>
    rintro ⟨o1, to1⟩ rest h tk hP F5 N5
    obtain rfl : o1 = o := Option.some.inj hP
    dsimp only
    clear hoC hgen N2 F3 F9
    ktn_open
    exact hret _ _ _ _ rfl (by assumption) (by assumption) (hg.push rfl)
  case turn =>
    rintro p ch l ⟨o1, to1⟩ gs h tk tp u rest led hP hled F5 N5
    clear hoC hgen N2 F3 F9
    dsimp only at hP F5
    ktn_open
    · refine' gturn_next (_, _) (by assumption) (by assumption) (fun _ q => q) ?p1 ?q1
      case p1 => kst_all
      exact fo_open (by assumption) hP
    · exact (fo_neg (by assumption) (by assumption) (by first | assumption | omega) hP).elim
    · refine' gturn_next (_, _) (by assumption) (by assumption) (fun _ q => q) ?p2 ?q2
      case p2 => kst_all
      exact fo_shut (by assumption) (by assumption) (by first | assumption | omega) hP
    · refine' gturn_next (_, _) (by assumption) (by assumption) (fun _ q => q) ?p3 ?q3
      case p3 => kst_all
      exact fo_else (by assumption) (by assumption) hP
end Mine
end
section
namespace Mine
/-- a text that stands for a number: signs (e: behind a backslash), brackets -/
inductive Bx where
  | nil
  | sgn (e : Bool) (c : Nat) (r : Bx)
  | grp (i r : Bx)
namespace Bx
def codes : Bx → List Nat
  | nil => []
  | sgn false c r => c :: r.codes
  | sgn true c r => 92 :: c :: r.codes
  | grp i r => 40 :: (i.codes ++ 41 :: r.codes)
def wt : Bx → Nat
  | nil => 0
  | sgn _ c r => c + r.wt
  | grp i r => 2 * i.wt + r.wt
def size : Bx → Nat
  | nil => 0
  | sgn _ _ r => r.size + 1
  | grp i r => i.size + r.size + 1
def height : Bx → Nat
  | nil => 0
  | sgn _ _ r => r.height
  | grp i r => max (i.height + 1) r.height
def Good : Bx → Prop
  | nil => True
  | sgn false c r => c ≠ 34 ∧ c ≠ 40 ∧ c ≠ 41 ∧ c ≠ 92 ∧ c < 128 ∧ r.Good
  | sgn true c r => c ≠ 34 ∧ c < 128 ∧ r.Good
  | grp i r => i.Good ∧ r.Good
theorem no34 : ∀ {b : Bx}, b.Good → 34 ∉ b.codes
  | nil, _ => by simp [codes]
  | sgn false c r, h => by
    have := no34 h.2.2.2.2.2
    simp only [codes, List.mem_cons, not_or]; exact ⟨fun q => h.1 q.symm, this⟩
  | sgn true c r, h => by
    have := no34 h.2.2
    simp only [codes, List.mem_cons, not_or]; exact ⟨by decide, fun q => h.1 q.symm, this⟩
  | grp i r, h => by
    have h1 := no34 h.1
    have h2 := no34 h.2
    simp only [codes, List.mem_cons, List.mem_append, not_or]; exact ⟨by decide, h1, by decide, h2⟩
theorem chk_app : ∀ {b : Bx}, b.Good → ∀ {o : Int}, 0 ≤ o → ∀ X, chk false o (b.codes ++ X) = chk false o X
  | nil, _, _, _, _ => rfl
  | sgn false c r, h, o, ho, X => by
    have e := chk_app h.2.2.2.2.2 ho X
    simp only [codes, List.cons_append, chk, if_neg h.2.2.2.1, if_neg h.2.1, if_neg h.2.2.1]; exact e
  | sgn true c r, h, o, ho, X => by
    have e := chk_app h.2.2 ho X
    simp only [codes, List.cons_append, chk, if_true]; exact e
  | grp i r, h, o, ho, X => by
    have e1 := chk_app h.1 (o := o + 1) (by omega) (41 :: (r.codes ++ X))
    have e2 := chk_app h.2 ho X
    have h3 : ¬ (o < 0) := by omega
    have h4 : o + 1 - 1 = o := by omega
    simp only [codes, List.cons_append, List.append_assoc, chk, if_neg (show ¬ (40 = 92) by decide), if_true]
    rw [e1]
    simp only [chk, if_neg (show ¬ (41 = 92) by decide), if_neg (show ¬ (41 = 40) by decide), if_true, h4, if_neg h3]
    exact e2
theorem chk_pre : ∀ {b : Bx}, b.Good → ∀ {o : Int}, 1 ≤ o → ∀ j, ∃ o', chk false o (b.codes.take j) = some o' ∧ 1 ≤ o'
  | nil, _, o, ho, j => ⟨o, by simp [codes, chk], ho⟩
  | sgn false c r, h, o, ho, 0 => ⟨o, by simp [chk], ho⟩
  | sgn false c r, h, o, ho, j + 1 => by
    obtain ⟨o', e, h'⟩ := chk_pre h.2.2.2.2.2 ho j
    exact ⟨o', by simp only [codes, List.take_succ_cons, chk, if_neg h.2.2.2.1, if_neg h.2.1, if_neg h.2.2.1]; exact e, h'⟩
  | sgn true c r, h, o, ho, 0 => ⟨o, by simp [chk], ho⟩
  | sgn true c r, h, o, ho, 1 => ⟨o, by simp [codes, chk], ho⟩
  | sgn true c r, h, o, ho, j + 2 => by
    obtain ⟨o', e, h'⟩ := chk_pre h.2.2 ho j
    exact ⟨o', by simp only [codes, List.take_succ_cons, chk, if_true]; exact e, h'⟩
  | grp i r, h, o, ho, 0 => ⟨o, by simp [chk], ho⟩
  | grp i r, h, o, ho, j + 1 => by
    by_cases hj : j ≤ i.codes.length
    · obtain ⟨o', e, h'⟩ := chk_pre h.1 (o := o + 1) (by omega) j
      refine ⟨o', ?_, h'⟩
      simp only [codes, List.take_succ_cons, chk, if_neg (show ¬ (40 = 92) by decide), if_true]
      rw [List.take_append_of_le_length hj]
      exact e
    · obtain ⟨o', e, h'⟩ := chk_pre h.2 ho (j - i.codes.length - 1)
      refine ⟨o', ?_, h'⟩
      have h3 : ¬ (o < 0) := by omega
      have h4 : o + 1 - 1 = o := by omega
      have h5 : j = i.codes.length + ((j - i.codes.length - 1) + 1) := by omega
      simp only [codes, List.take_succ_cons, chk, if_neg (show ¬ (40 = 92) by decide), if_true]
      rw [h5, List.take_length_add_append, List.take_succ_cons, chk_app h.1 (by omega)]
      simp only [chk, if_neg (show ¬ (41 = 92) by decide), if_neg (show ¬ (41 = 40) by decide), if_true, h4, if_neg h3]
      exact e
/-- a bracket's stretch, cut short: brackets stand open -/
theorem chk_short {i : Bx} (h : i.Good) (X : List Nat) {j : Nat} (hj : j ≤ i.codes.length) : ∃ o', chk false 0 ((40 :: (i.codes ++ X)).take (j + 1)) = some o' ∧ 1 ≤ o' := by
  obtain ⟨o', e, h'⟩ := chk_pre h (o := 0 + 1) (by omega) j
  refine ⟨o', ?_, h'⟩
  simp only [List.take_succ_cons, chk, if_neg (show ¬ (40 = 92) by decide), if_true]
  rw [List.take_append_of_le_length hj]
  exact e
/-- the whole stretch -/
theorem chk_whole {i : Bx} (h : i.Good) (X : List Nat) : chk false 0 ((40 :: (i.codes ++ 41 :: X)).take (i.codes.length + 2)) = some 0 := by
  simp only [List.take_succ_cons, chk, if_neg (show ¬ (40 = 92) by decide), if_true]
  rw [List.take_length_add_append, chk_app h (by omega)]
  simp [chk]
end Bx
end Mine
end
section
open PySem PySem.W PySem.Calls PySem.Spec PyProof.Rows
set_option Elab.async false
namespace Mine
section
variable {prog : Program} {w : World} {A : Around} {E : Value → Shared → Prop} {s : Shared} {x : Str} {t : Tok} {Q : Value → Shared → Prop}
theorem len_at {n : Nat} (hx : x.length = n) (hn : n ≤ 1048576) (h : ∀ t' k, Q (.int (n : Nat) t') { s with toks := k }) : wpAny (model prog w) A (call (.builtin "len") [.str x t]) Q E s :=
  P.len_str (by omega) (by rw [hx]; exact h _ _)
theorem item_at {value slice : Expr} {i : Int} {u : Tok} {n c : Nat} (hi : i = (n : Int)) (hn : n ≤ 1048576) (hc : x.cps[n]? = some c) (h : ∀ t' k, Q (.str ⟨#[c]⟩ t') { s with toks := k })
    (hs : subscripted slice false (.str x t) (.int i u) = operate [.str x t, .int i u] (getItem (.str x t) (.int i u)) := by with_unfolding_all rfl)
    (ht : ∀ r, letTemporaryGo value (.str x t) r = pure () := by intro _; with_unfolding_all rfl) :
    wpAny (model prog w) A (subscriptTail value slice (.str x t) (.int i u)) Q E s := by
  subst hi
  obtain ⟨hlt, _⟩ := Array.getElem?_eq_some_iff.mp hc
  refine tail_of_ItemOn ⟨"str", _, F.slot_str_getitem.lookup, typeIs_str s x t, P.getItem_str ?_ ?_ (h _ _)⟩ hs ht
  · simp; omega
  · have e : seqIndex? (n : Int) x.length = some n := by
      unfold seqIndex?
      have h1 : (n : Int) < (x.length : Int) := by exact_mod_cast hlt
      simp; omega
    rw [e]; exact hc
end
theorem slice_codes {x : Str} {i j : Int} {p q : Nat} (hi : i = (p : Int)) (hj : j = (q : Int)) (h1 : p ≤ q) (h2 : q ≤ x.length) : Txt.slice x (some i) (some j) = ⟨((x.cps.toList.drop p).take (q - p)).toArray⟩ := by
  subst hi hj
  have := eq_of_beq (slice_closesL (x := x) (i := (p : Int)) (j := (q : Int)) (by omega) (by omega) (by omega))
  rw [this]
  have e : ((q : Int) - (p : Int)).toNat = q - p := by omega
  rw [e]; rfl
end Mine
namespace Mine
section
variable {prog : Program} {w : World} {A : Around} {E : Value → Shared → Prop} {Q : Flow → Shared → Prop} {env : Env} {g : Heap} {L : Addr}
def DoneAt {σ : Type} (Gp : Array GenState → Prop) (g : Heap) (L : Addr) (s0 : Shared) (ps : σ → List (Str × Value)) (Led : σ → List (Addr × Obj)) (D : σ → Prop) (s : Shared) : Prop :=
  ∃ c h tk gs rest, s = { s0 with heap := h, toks := tk, gens := gs } ∧ D c ∧ Gp gs ∧ Fr g L h (kstB rest (ps c)) ∧ News g L h (Led c)
theorem doneAt_mk {σ : Type} {Gp : Array GenState → Prop} {s0 : Shared} {ps : σ → List (Str × Value)} {Led : σ → List (Addr × Obj)} {D : σ → Prop} {h : Heap} {tk : Nat} {gs : Array GenState} {m : Str → Option Value} {news : List (Addr × Obj)} (c : σ)
    (F : Fr g L h m) (N : News g L h news) (hN : ∀ p ∈ Led c, p ∈ news) (hG : Gp gs) (hps : ∀ p ∈ ps c, m p.1 = some p.2) (hD : D c) :
    DoneAt Gp g L s0 ps Led D { s0 with heap := h, toks := tk, gens := gs } := ⟨c, h, tk, gs, m, rfl, hD, hG, frB F hps, fun p hp => N p (hN p hp)⟩
/-- a while with one way out: the code behind it is walked once -/
theorem while_D {σ : Type} {test : Expr} {body : List Stmt} {pos : Pos} (Gp : Array GenState → Prop) (s0 : Shared) (ps : σ → List (Str × Value)) (Led : σ → List (Addr × Obj)) (P : σ → Prop) (D : σ → Prop) (μ : σ → Nat)
    (hE : PassesOwn (model prog w) A env E)
    (turn : ∀ c h tk gs rest, P c → Gp gs → Fr g L h (kstB rest (ps c)) → News g L h (Led c) →
      wpAny (model prog w) A (isTrue test env (eval test env)) (fun b s₂ => WhlIf b (wpAny (model prog w) A (execs body env) (Turn Gp g L s0 ps Led P μ (μ c) (fun f s => match f with | .next => DoneAt Gp g L s0 ps Led D s | f => Q f s)) E s₂) (DoneAt Gp g L s0 ps Led D s₂)) E { s0 with heap := h, toks := tk, gens := gs })
    (done : ∀ c h tk gs rest, D c → Gp gs → Fr g L h (kstB rest (ps c)) → News g L h (Led c) → Q .next { s0 with heap := h, toks := tk, gens := gs }) :
    ∀ c s, At Gp g L s0 ps Led P c s → wpAny (model prog w) A (exec (.While test body [] pos) env) Q E s := by
  intro c s hc
  refine wpAny_mono (while_B Gp s0 ps Led P μ hE turn c s hc) (fun f s hf => ?_) fun _ _ x => x
  cases f with
  | next =>
    obtain ⟨c, h, tk, gs, rest, rfl, hD, hG, F, N⟩ := hf
    exact done c h tk gs rest hD hG F N
  | ret v => exact hf
  | brk => exact hf
  | cont => exact hf
end
end Mine
namespace Mine
section
variable {prog : Program} {w : World} {A : Around} {E : Value → Shared → Prop} {s : Shared} {value slice : Expr} {x : Str} {t : Tok} {h₀ : Heap} {L : Addr} {m : Str → Option Value} {news : List (Addr × Obj)} {Q : Value → Shared → Prop}
theorem slice_at {i j : Int} {ui uj : Tok} {p q : Nat} (hF : Fr h₀ L s.heap m) (hN : News h₀ L s.heap news) (hi : i = (p : Int)) (hj : j = (q : Int)) (h1 : p ≤ q) (h2 : q ≤ x.length) (hx : x.length ≤ 1048576)
    (h : ∀ h' t' k, Fr h₀ L h' m → News h₀ L h' news → Q (.str ⟨((x.cps.toList.drop p).take (q - p)).toArray⟩ t') { s with heap := h', toks := k })
    (hs : subscripted slice false (.str x t) (.ref s.heap.objs.size) = operate [.ref s.heap.objs.size, .str x t] (getItem (.str x t) (.ref s.heap.objs.size)) := by with_unfolding_all rfl)
    (ht : ∀ r, letTemporaryGo value (.str x t) r = pure () := by intro _; with_unfolding_all rfl) :
    wpAny (model prog w) A (subscriptTail value slice (.str x t) (.ref s.heap.objs.size)) Q E { s with heap := s.heap.push { cls := .type "slice", data := .fields #[.int i ui, .int j uj, .none] } } := by
  refine slice_strN_ss (hsz := by rw [sizeLine_eq]; omega) hF hN (fun h' t' k F N => ?_) hs ht
  rw [slice_codes hi hj h1 h2]
  exact h h' t' k F N
end
end Mine
end
section
namespace Mine
theorem val_sgn {v B : Int} {c n : Nat} {z : Int} (h : v * B ^ (c + n) % 257 = z) : Int.fmod (v * (B ^ ((c : Int)).toNat % 257)) 257 * B ^ n % 257 = z := by
  rw [Int.fmod_eq_emod_of_nonneg _ (by decide), Int.toNat_natCast, ← h]
  rw [Int.mul_emod, Int.emod_emod, ← Int.mul_emod]
  rw [Int.mul_assoc, Int.mul_emod, Int.mul_emod (B ^ c % 257), Int.emod_emod, ← Int.mul_emod (B ^ c), ← Int.mul_emod, Int.pow_add]
theorem val_grp {v B y : Int} {i n : Nat} {z : Int} (h : v * B ^ (2 * i + n) % 257 = z) (hy : y = B ^ i % 257) : Int.fmod (v * y * y) 257 * B ^ n % 257 = z := by
  rw [Int.fmod_eq_emod_of_nonneg _ (by decide), ← h]
  have e : v * B ^ (2 * i + n) = (v * (B ^ i * B ^ i)) * B ^ n := by
    rw [Int.pow_add, show 2 * i = i + i by omega, Int.pow_add]; simp only [Int.mul_assoc]
  have e2 : (v * y * y) % 257 = (v * (B ^ i * B ^ i)) % 257 := by
    rw [hy, Int.mul_assoc, Int.mul_emod, ← Int.mul_emod (B ^ i), ← Int.mul_emod]
  rw [e, Int.mul_emod, Int.emod_emod, e2, ← Int.mul_emod]
theorem fmod_range {x : Int} : 0 ≤ Int.fmod x 257 ∧ Int.fmod x 257 < 257 := by
  rw [Int.fmod_eq_emod_of_nonneg _ (by decide)]; omega
theorem val_end {v B : Int} {n : Nat} (h0 : 0 ≤ v) (h1 : v < 257) (h : v * B ^ 0 % 257 = B ^ n % 257) : v = B ^ n % 257 := by
  rw [Int.pow_zero, Int.mul_one] at h; omega
end Mine
end
section
open PySem PySem.W PySem.Calls PySem.Spec PyProof.Rows
set_option Elab.async false
namespace Mine
local macro_rules | `(tactic| ktn_open) => `(tactic| (repeat' (first | (k_unfold; (try dsimp only)) | ((fail_if_success (with_reducible show wpAny _ _ (exec (Stmt.While _ _ _ _) _) _ _ _)); (fail_if_success (with_reducible show wpAny _ _ (exec (Stmt.For _ _ _ _ _) _) _ _ _)); walk1) | (dsimp only; walk1))))

structure VS where
  pre : List Nat
  r : Bx
  v : Int
  k : Int
  tv : Tok
  tk : Tok

theorem not_in_take {l : List Nat} {k : Nat} (h : 34 ∉ l) : 34 ∉ (⟨(l.take k).toArray⟩ : Str).cps.toList := fun q => h (List.mem_of_mem_take q)
theorem ite_ne' {c d : Nat} {x : Str} (hx : x = ⟨#[d]⟩) (h : c ≠ d) {P Q : Prop} (q : P) : if ((⟨#[c]⟩ : Str) != x) = true then P else Q := by
  rw [hx, bne, sign_eq, if_pos (by simpa using h)]; exact q
theorem ite_eq' {c d : Nat} {x : Str} (hx : x = ⟨#[d]⟩) (h : c = d) {P Q : Prop} (q : Q) : if ((⟨#[c]⟩ : Str) != x) = true then P else Q := by
  rw [hx, bne, sign_eq, if_neg (by simpa using h)]; exact q
theorem ite_ne {c d : Nat} {x : Str} (hx : x = ⟨#[d]⟩) (h : c ≠ d) {P Q : Prop} (q : Q) : if ((⟨#[c]⟩ : Str) == x) = true then P else Q := by
  rw [hx, sign_eq, if_neg (by simpa using h)]; exact q
theorem ite_eq {c d : Nat} {x : Str} (hx : x = ⟨#[d]⟩) (h : c = d) {P Q : Prop} (q : P) : if ((⟨#[c]⟩ : Str) == x) = true then P else Q := by
  rw [hx, sign_eq, if_pos (by simpa using h)]; exact q

def VP (b : Bx) (base : Int) (T : Str) (c : VS) : Prop := c.k = (c.pre.length : Nat) ∧ T.cps.toList = c.pre ++ c.r.codes ∧ c.r.Good ∧ c.r.size ≤ b.size ∧ c.r.height ≤ b.height ∧ 0 ≤ c.v ∧ c.v < 257 ∧ c.v * base ^ c.r.wt % 257 = base ^ b.wt % 257

def ValSpec (w : World) (b : Bx) : Prop := ∀ (Tx : Str) (Bs : Int) (tt tb : Tok), Tx.cps.toList = b.codes → b.Good → 0 ≤ Bs → Bs < 257 → b.codes.length ≤ 2 ^ 16 →
  Spec w 70 [.str Tx tt, .int Bs tb] (8 + 2 * b.height) (64 + 16 * b.height) (fun v => ∃ t, v = .int (Bs ^ b.wt % 257) t)

local macro_rules | `(tactic| ktr_unf) => `(tactic| (repeat' (first | (k_unfold; (try dsimp only)) | ((fail_if_success (with_reducible show wpAny _ _ (exec (Stmt.While _ _ _ _) _) _ _ _)); (fail_if_success (with_reducible show wpAny _ _ (exec (Stmt.For _ _ _ _ _) _) _ _ _)); (fail_if_success (with_reducible show wpAny _ _ (subscriptTail _ _ (Value.str _ _) _) _ _ _)); (fail_if_success (with_reducible show wpAny _ _ (PySem.call (Value.ref _) _) _ _ _)); (fail_if_success (with_reducible show ite _ _ _)); walk1) | (dsimp only; (fail_if_success (with_reducible show wpAny _ _ (exec (Stmt.While _ _ _ _) _) _ _ _)); (fail_if_success (with_reducible show wpAny _ _ (exec (Stmt.For _ _ _ _ _) _) _ _ _)); (fail_if_success (with_reducible show wpAny _ _ (subscriptTail _ _ (Value.str _ _) _) _ _ _)); (fail_if_success (with_reducible show wpAny _ _ (PySem.call (Value.ref _) _) _ _ _)); (fail_if_success (with_reducible show ite _ _ _)); walk1))))
local macro_rules | `(tactic| walk_at "call builtin:len") => `(tactic| ((with_reducible show wpAny _ _ (call (Value.builtin "len") [Value.str _ _]) _ _ _); (refine len_at (by assumption) (by omega) ?_); intro _ _))
set_option maxRecDepth 100000 in
set_option maxHeartbeats 8000000 in
theorem val_spec (w : World) : ∀ (n : Nat) (b : Bx), b.size < n → ValSpec w b := by
  intro n
  induction n with
  | zero => intro b h; exact absurd h (Nat.not_lt_zero _)
  | succ n ih =>
  intro b hbn Tx Bs tt tb hT hgood hb0 hb1 hlen
  unfold Spec
  k_fill
  intro mean mg mb dp un gd cn cs a ccd cl outer A₀ base h₀ L m news s Q E B F X N T hk hd hu hg hret
  refine wpAny_call ?_
  k_dflt ktr_enter
  ktn_open
  refine' while_B (σ := VS) AllBare s (fun c => [(Str.ofString "text", .str Tx tt), (Str.ofString "base", .int Bs tb), (Str.ofString "value", .int c.v c.tv), (Str.ofString "k", .int c.k c.tk)]) (fun _ => news)
    (VP b Bs Tx) (fun c => c.r.codes.length) ?hE ?turn ⟨[], b, 1, 0, _, _⟩ _ ⟨_, _, _, _, rfl, ?h1, hg, frB (by assumption) ?h2, (by assumption)⟩
  case hE => first | passes_own | with_unfolding_all passes_own
  case h2 => kst_all
  case h1 => exact ⟨rfl, hT, hgood, Nat.le_refl _, Nat.le_refl _, by show (0:Int) ≤ 1; decide, by show (1:Int) < 257; decide, by show 1 * _ % 257 = _; rw [Int.one_mul]⟩
  case turn =>
    rintro ⟨pre, r, v, kk, tv, tkk⟩ h tk' gs rest hP hG F1 N1
    obtain ⟨hkk, hTx, hrg, hrs, hrh, hv0, hv1, hvw⟩ := hP
    dsimp only at *
    subst hkk
    obtain ⟨NN, hN⟩ : ∃ NN, NN = b.codes.length := ⟨_, rfl⟩
    have hLen : Tx.length = NN := by rw [hN, ← hT]; rfl
    have hNN : pre.length + r.codes.length = NN := by
      rw [hN, ← hT, hTx, List.length_append]
    rw [← hN] at hlen
    clear hN
    ktn_open
    refine whl_dec (fun hlt => ?_) (fun hlt => ?_)
    · cases r with
      | nil => exfalso; simp only [Bx.codes, List.length_nil] at hNN; omega
      | sgn e c r' =>
        cases e with
        | false =>
          obtain ⟨g1, g2, g3, g4, g5, g6⟩ := hrg
          have hc0 : Tx.cps[pre.length]? = some c := by
            rw [← Array.getElem?_toList, hTx]; simp [Bx.codes]
          have hNN' : pre.length + (r'.codes.length + 1) = NN := hNN
          clear hNN
          ktr_unf
          refine item_at (n := pre.length) rfl (by omega) hc0 ?_
          intro _ _
          ktr_unf
          refine ite_ne opn g2 ?_
          ktr_unf
          refine item_at (n := pre.length) rfl (by omega) hc0 ?_
          intro _ _
          ktr_unf
          refine ite_ne backslash g4 ?_
          ktr_unf
          refine item_at (n := pre.length) (by omega) (by omega) hc0 ?_
          intro _ _
          ktr_unf
          refine specP_use (power_spec w Bs c tb _ hb0 (by omega) (by omega) (by omega)) (by k_asm) (by k_asm) (by k_asm) (by k_asm) (by k_asm) rfl (by ktr_room) (by ktr_units) ?_
          rintro _ h1 tk1 ⟨t1, rfl⟩ F2 N2
          (try dsimp only)
          (try k_fold)
          ktr_unf
          refine' turn_next ⟨pre ++ [c], r', _, _, _, _⟩ (by assumption) (by assumption) (fun _ q => q) hG ?ps1 ?hP1 ?hm1
          case ps1 => kst_all
          case hm1 => show r'.codes.length < r'.codes.length + 1; omega
          case hP1 => exact ⟨by simp, by rw [hTx]; simp [Bx.codes], g6, Nat.le_trans (Nat.le_succ _) hrs, hrh, fmod_range.1, fmod_range.2, val_sgn hvw⟩
        | true =>
          obtain ⟨g1, g5, g6⟩ := hrg
          have hc0 : Tx.cps[pre.length]? = some 92 := by
            rw [← Array.getElem?_toList, hTx]; simp [Bx.codes]
          have hc1 : Tx.cps[pre.length + 1]? = some c := by
            rw [← Array.getElem?_toList, hTx]; simp [Bx.codes]
          have hNN' : pre.length + (r'.codes.length + 2) = NN := hNN
          clear hNN
          ktr_unf
          refine item_at (n := pre.length) rfl (by omega) hc0 ?_
          intro _ _
          ktr_unf
          refine ite_ne opn (by decide) ?_
          ktr_unf
          refine item_at (n := pre.length) rfl (by omega) hc0 ?_
          intro _ _
          ktr_unf
          refine ite_eq backslash rfl ?_
          ktr_unf
          refine item_at (n := pre.length + 1) (by omega) (by omega) hc1 ?_
          intro _ _
          ktr_unf
          refine specP_use (power_spec w Bs c tb _ hb0 (by omega) (by omega) (by omega)) (by k_asm) (by k_asm) (by k_asm) (by k_asm) (by k_asm) rfl (by ktr_room) (by ktr_units) ?_
          rintro _ h1 tk1 ⟨t1, rfl⟩ F2 N2
          (try dsimp only)
          (try k_fold)
          ktr_unf
          refine' turn_next ⟨pre ++ [92, c], r', _, _, _, _⟩ (by assumption) (by assumption) (fun _ q => q) hG ?ps2 ?hP2 ?hm2
          case ps2 => kst_all
          case hm2 => show r'.codes.length < r'.codes.length + 2; omega
          case hP2 => exact ⟨by simp; omega, by rw [hTx]; simp [Bx.codes], g6, Nat.le_trans (Nat.le_succ _) hrs, hrh, fmod_range.1, fmod_range.2, val_sgn hvw⟩
      | grp i r' =>
        obtain ⟨g1, g2⟩ := hrg
        have hc0 : Tx.cps[pre.length]? = some 40 := by
          rw [← Array.getElem?_toList, hTx]; simp [Bx.codes]
        obtain ⟨LI, hLI⟩ : ∃ LI, LI = i.codes.length := ⟨_, rfl⟩
        have hNN' : pre.length + (LI + r'.codes.length + 2) = NN := by
          rw [← hNN, hLI]; simp only [Bx.codes, List.length_cons, List.length_append]; omega
        have hdrop : Tx.cps.toList.drop pre.length = 40 :: (i.codes ++ 41 :: r'.codes) := by rw [hTx]; simp [Bx.codes]
        have n34 : 34 ∉ 40 :: (i.codes ++ 41 :: r'.codes) := Bx.no34 (b := .grp i r') ⟨g1, g2⟩
        have hsz : i.size < n := by simp only [Bx.size] at hrs; omega
        have hhi : i.height + 1 ≤ b.height := by simp only [Bx.height] at hrh; omega
        clear hNN
        ktr_unf
        refine item_at (n := pre.length) rfl (by omega) hc0 ?_
        intro _ _
        ktr_unf
        refine ite_eq opn rfl ?_
        ktr_unf
        refine' while_D (σ := Nat × Int × Tok) AllBare s (fun c => [(Str.ofString "text", .str Tx tt), (Str.ofString "base", .int Bs tb), (Str.ofString "value", .int v tv), (Str.ofString "k", .int (pre.length : Nat) tkk), (Str.ofString "cut", .int c.2.1 c.2.2)]) (fun _ => news)
          (fun c => c.1 ≤ LI + 1 ∧ c.2.1 = (pre.length : Nat) + 1 + (c.1 : Nat)) (fun c => c.2.1 = (pre.length : Nat) + 2 + (LI : Nat)) (fun c => LI + 1 - c.1) ?hE2 ?turn2 ?done2 (0, _, _) _ ⟨_, _, _, _, rfl, ⟨Nat.zero_le _, ?hcut⟩, hG, frB (by assumption) ?h22, (by assumption)⟩
        case hE2 => first | passes_own | with_unfolding_all passes_own
        case h22 => kst_all
        case hcut => show _ + 1 = _ + 1 + ((0 : Nat) : Int); omega
        case turn2 =>
          rintro ⟨j, cut, tj⟩ h9 tk9 gs9 rest9 ⟨hj, hcut⟩ hG9 F9 N9
          dsimp only at hj hcut F9 N9 ⊢
          ktr_unf
          by_cases hjl : j ≤ LI
          · rw [if_pos (by simp; omega)]
            obtain ⟨dd, hdd⟩ : ∃ dd, Tx.cps[pre.length + j]? = some dd := ⟨Tx.cps[pre.length + j]'(by show pre.length + j < Tx.length; omega), by simp⟩
            ktr_unf
            refine item_at (n := pre.length + j) (by omega) (by omega) hdd ?_
            intro _ _
            ktr_unf
            by_cases h41 : dd = 41
            · refine ite_eq' shut h41 ?_
              ktr_unf
              obtain ⟨o', ho', ho1⟩ := Bx.chk_short g1 (41 :: r'.codes) (j := j) (by omega)
              refine slice_at (s := ⟨_, _, _, _, _⟩) (p := pre.length) (q := pre.length + 1 + j) (by assumption) (by assumption) rfl (by omega) (by omega) (by omega) (by omega) ?_
              intro h10 t10 k10 F10 N10
              rw [hdrop, show pre.length + 1 + j - pre.length = j + 1 by omega]
              ktr_unf
              refine spec_use (check_spec w _ t10 o' (not_in_take n34) (by simp; omega) ho') (by k_asm) (by k_asm) (by k_asm) (by k_asm) (by k_asm) rfl (by ktr_room) (by ktr_units) (by assumption) ?_
              rintro _ h11 tk11 gs11 rfl F11 N11 hG11
              (try dsimp only)
              (try k_fold)
              ktr_unf
              refine ite_pos (by simp; omega) ?_
              refine ite_pos (by first | exact trivial | rfl) ?_
              ktr_unf
              refine' turn_next (j + 1, _, _) (by assumption) (by assumption) (fun _ q => q) hG11 ?ps3 ?hP3 ?hm3
              case ps3 => kst_all
              case hm3 => show LI + 1 - (j + 1) < LI + 1 - j; omega
              case hP3 => exact ⟨by show j + 1 ≤ LI + 1; omega, by show cut + 1 = _; push_cast; omega⟩
            · refine ite_ne' shut h41 ?_
              ktr_unf
              refine ite_pos rfl ?_
              ktr_unf
              refine' turn_next (j + 1, _, _) (by assumption) (by assumption) (fun _ q => q) hG9 ?ps4 ?hP4 ?hm4
              case ps4 => kst_all
              case hm4 => show LI + 1 - (j + 1) < LI + 1 - j; omega
              case hP4 => exact ⟨by show j + 1 ≤ LI + 1; omega, by show cut + 1 = _; push_cast; omega⟩
          · obtain rfl : j = LI + 1 := by omega
            by_cases hcn : cut < (NN : Int)
            · rw [if_pos (by simpa using hcn)]
              have hdd : Tx.cps[pre.length + (LI + 1)]? = some 41 := by
                rw [← Array.getElem?_toList, hTx, hLI]; simp [Bx.codes]
              ktr_unf
              refine item_at (n := pre.length + (LI + 1)) (by omega) (by omega) hdd ?_
              intro _ _
              ktr_unf
              refine ite_eq' shut rfl ?_
              ktr_unf
              have ho' := Bx.chk_whole g1 r'.codes
              refine slice_at (s := ⟨_, _, _, _, _⟩) (p := pre.length) (q := pre.length + 1 + (LI + 1)) (by assumption) (by assumption) rfl (by omega) (by omega) (by omega) (by omega) ?_
              intro h10 t10 k10 F10 N10
              rw [hdrop, show pre.length + 1 + (LI + 1) - pre.length = i.codes.length + 2 by omega]
              ktr_unf
              refine spec_use (check_spec w _ t10 0 (not_in_take n34) (by simp; omega) ho') (by k_asm) (by k_asm) (by k_asm) (by k_asm) (by k_asm) rfl (by ktr_room) (by ktr_units) (by assumption) ?_
              rintro _ h11 tk11 gs11 rfl F11 N11 hG11
              (try dsimp only)
              (try k_fold)
              ktr_unf
              refine ite_neg (by decide) ?_
              ktr_unf
              refine ite_neg (by decide) ?_
              ktr_unf
              refine' doneAt_mk (0, _, _) (by assumption) (by assumption) (fun _ q => q) hG11 ?ps6 ?hD6
              case ps6 => kst_all
              case hD6 => show cut = _; push_cast at hcut; omega
            · rw [if_neg (by simpa using hcn)]
              ktr_unf
              refine' doneAt_mk (0, _, _) (by assumption) (by assumption) (fun _ q => q) hG9 ?ps5 ?hD5
              case ps5 => kst_all
              case hD5 => show cut = _; omega
        case done2 =>
          rintro ⟨j, cut, tj⟩ h9 tk9 gs9 rest9 hcut hG9 F9 N9
          dsimp only at hcut F9 N9 ⊢
          ktr_unf
          refine slice_at (s := ⟨_, _, _, _, _⟩) (p := pre.length + 1) (q := pre.length + 1 + LI) (by assumption) (by assumption) (by omega) (by omega) (by omega) (by omega) (by omega) ?_
          intro h10 t10 k10 F10 N10
          have hin : (Tx.cps.toList.drop (pre.length + 1)).take (pre.length + 1 + LI - (pre.length + 1)) = i.codes := by
            rw [← List.drop_drop, hdrop, show pre.length + 1 + LI - (pre.length + 1) = i.codes.length by omega]
            simp
          rw [hin]
          ktr_unf
          refine spec_use (ih i hsz _ Bs t10 tb (by simp) g1 hb0 hb1 (by omega)) (by k_asm) (by k_asm) (by k_asm) (by k_asm) (by k_asm) rfl (by ktr_room) (by ktr_units) (by assumption) ?_
          rintro _ h11 tk11 gs11 ⟨t11, rfl⟩ F11 N11 hG11
          obtain ⟨y, hy⟩ : ∃ y, y = Bs ^ i.wt % 257 := ⟨_, rfl⟩
          rw [← hy]
          have hy0 : 0 ≤ y := by omega
          have hy1 : y < 257 := by omega
          (try dsimp only)
          (try k_fold)
          ktr_unf
          refine' turn_next ⟨pre ++ (40 :: (i.codes ++ [41])), r', _, _, _, _⟩ (by assumption) (by assumption) (fun _ q => q) hG11 ?ps7 ?hP7 ?hm7
          case ps7 => kst_all
          case hm7 => show r'.codes.length < (40 :: (i.codes ++ 41 :: r'.codes)).length; simp; omega
          case hP7 => exact ⟨by show cut = _; simp; omega, by rw [hTx]; simp [Bx.codes], g2, by simp only [Bx.size] at hrs ⊢; omega, by simp only [Bx.height] at hrh ⊢; omega, fmod_range.1, fmod_range.2, val_grp hvw hy⟩
    · dsimp only
      ktn_open
      have hr0 : r = .nil := by
        cases r with
        | nil => rfl
        | sgn e c r' => cases e <;> (simp only [Bx.codes, List.length_cons] at hNN; omega)
        | grp i r' => simp only [Bx.codes, List.length_cons] at hNN; omega
      subst hr0
      exact hret _ _ _ _ ⟨_, by rw [val_end hv0 hv1 hvw]⟩ (by assumption) (by assumption) hG
end Mine
end
section
namespace Mine
theorem pow256 (n : Nat) : (256 : Int) ^ n % 257 = if n % 2 = 1 then 256 else 1 := by
  induction n with
  | zero => rfl
  | succ n ih =>
    rw [Int.pow_succ, Int.mul_emod, ih]
    by_cases h : n % 2 = 1
    · rw [if_pos h, if_neg (by omega)]; rfl
    · rw [if_neg h, if_pos (by omega)]; rfl
theorem pow_mulI (a : Int) (m n : Nat) : a ^ (m * n) = (a ^ m) ^ n := by
  induction n with
  | zero => simp
  | succ n ih => rw [Nat.mul_succ, Int.pow_add, ih, Int.pow_succ]
theorem two_pow_split {i : Nat} (hi : i < 8) : Int.fdiv 128 (2 ^ (0 + (i : Int)).toNat) = ((2 ^ (7 - i) : Nat) : Int) ∧ 2 ^ i * 2 ^ (7 - i) = 128 := by
  match i, hi with
  | 0, _ | 1, _ | 2, _ | 3, _ | 4, _ | 5, _ | 6, _ | 7, _ => exact ⟨by decide, by decide⟩
theorem exp_bit {b v told : Int} {e i : Nat} (h : b ^ 128 % 257 = 256) (hi : i < 8) (hv : v = b ^ e % 257) (ht : told = ((e % 2 ^ i : Nat) : Int)) :
    (Int.fmod (v * (b ^ (256 - told).toNat % 257)) 257) ^ (Int.fdiv 128 (2 ^ (0 + (i : Int)).toNat)).toNat % 257 = if e / 2 ^ i % 2 = 1 then 256 else 1 := by
  have hlt : e % 2 ^ i < 256 := by
    have h1 : e % 2 ^ i < 2 ^ i := Nat.mod_lt _ (Nat.two_pow_pos i)
    have h2 : 2 ^ i ≤ 2 ^ 7 := Nat.pow_le_pow_right (by decide) (by omega)
    omega
  have e1 : (256 - told).toNat = 256 - e % 2 ^ i := by omega
  obtain ⟨d1, d2⟩ := two_pow_split hi
  rw [d1, Int.toNat_natCast, Int.fmod_eq_emod_of_nonneg _ (by decide), pmod, e1, hv]
  have e2 : (b ^ e % 257 * (b ^ (256 - e % 2 ^ i) % 257)) ^ 2 ^ (7 - i) % 257 = (b ^ e * b ^ (256 - e % 2 ^ i)) ^ 2 ^ (7 - i) % 257 := by
    rw [← pmod, ← Int.mul_emod, pmod]
  rw [e2, ← Int.pow_add, ← pow_mulI]
  have e3 : (e + (256 - e % 2 ^ i)) * 2 ^ (7 - i) = 128 * (e / 2 ^ i + 2 * 2 ^ (7 - i)) := by
    have hq : e = 2 ^ i * (e / 2 ^ i) + e % 2 ^ i := (Nat.div_add_mod _ _).symm
    have : e + (256 - e % 2 ^ i) = 2 ^ i * (e / 2 ^ i) + 256 := by omega
    rw [this, Nat.add_mul, Nat.mul_right_comm, d2, Nat.mul_add]
    omega
  rw [e3, pow_mulI, ← pmod, h, pow256]
  by_cases hb : e / 2 ^ i % 2 = 1
  · rw [if_pos hb, if_pos (by omega)]
  · rw [if_neg hb, if_neg (by omega)]
theorem exp_yes {told : Int} {e i : Nat} (ht : told = ((e % 2 ^ i : Nat) : Int)) (hb : e / 2 ^ i % 2 = 1) : told + 2 ^ (0 + (i : Int)).toNat = ((e % 2 ^ (i + 1) : Nat) : Int) := by
  have h := @Nat.mod_mul (2 ^ i) 2 e
  rw [← Nat.pow_succ, hb, Nat.mul_one] at h
  have h2 : (0 + (i : Int)).toNat = i := by omega
  rw [h2, h, ht, Int.natCast_add, Int.natCast_pow]; rfl
theorem exp_no {told : Int} {e i : Nat} (ht : told = ((e % 2 ^ i : Nat) : Int)) (hb : ¬ e / 2 ^ i % 2 = 1) : told = ((e % 2 ^ (i + 1) : Nat) : Int) := by
  have h := @Nat.mod_mul (2 ^ i) 2 e
  rw [← Nat.pow_succ, show e / 2 ^ i % 2 = 0 by omega, Nat.mul_zero, Nat.add_zero] at h
  rw [h, ht]
theorem exp_bound {i : Nat} (hi : i < 8) : 0 ≤ Int.fdiv 128 (2 ^ (0 + (i : Int)).toNat) ∧ Int.fdiv 128 (2 ^ (0 + (i : Int)).toNat) < 2 ^ 32 := by
  match i, hi with
  | 0, _ | 1, _ | 2, _ | 3, _ | 4, _ | 5, _ | 6, _ | 7, _ => exact ⟨by decide, by decide⟩
end Mine
end
section
open PySem PySem.W PySem.Calls PySem.Spec PyProof.Rows
set_option Elab.async false
namespace Mine
local macro_rules | `(tactic| ktr_unf) => `(tactic| (repeat' (first | (k_unfold; (try dsimp only)) | walk1 | (dsimp only; walk1))))

set_option maxRecDepth 100000 in
set_option maxHeartbeats 8000000 in
theorem nont_spec (w : World) (x : Int) (t : Tok) : SpecP w 21 [.int x t] 1 8 (fun v => v = .bool (decide (256 ≤ x))) := by
  unfold SpecP
  k_fill
  intro mean mg mb dp un gd cn cs a ccd cl outer A₀ base h₀ L m news s Q E B F X N T hk hd hu hret
  refine wpAny_call ?_
  k_dflt ktr_enter
  ktr_unf
  exact hret _ _ _ rfl (by assumption) (by assumption)
set_option maxRecDepth 100000 in
set_option maxHeartbeats 8000000 in
theorem eof_spec (w : World) (x : Int) (t : Tok) : SpecP w 28 [.int x t] 1 8 (fun v => v = .bool (x == 0)) := by
  unfold SpecP
  k_fill
  intro mean mg mb dp un gd cn cs a ccd cl outer A₀ base h₀ L m news s Q E B F X N T hk hd hu hret
  refine wpAny_call ?_
  k_dflt ktr_enter
  ktr_unf
  exact hret _ _ _ rfl (by assumption) (by assumption)
end Mine
end
section
open PySem PySem.W PySem.Calls PySem.Spec PyProof.Rows
set_option Elab.async false
namespace Mine
local macro_rules | `(tactic| ktr_unf) => `(tactic| (repeat' (first | (k_unfold; (try dsimp only)) | ((fail_if_success (with_reducible show wpAny _ _ (exec (Stmt.While _ _ _ _) _) _ _ _)); (fail_if_success (with_reducible show wpAny _ _ (pyIter _) _ _ _)); (fail_if_success (with_reducible show wpAny _ _ (PySem.call (Value.ref 63) _) _ _ _)); walk1) | (dsimp only; (fail_if_success (with_reducible show wpAny _ _ (pyIter _) _ _ _)); (fail_if_success (with_reducible show wpAny _ _ (PySem.call (Value.ref 63) _) _ _ _)); walk1))))

set_option maxRecDepth 100000 in
set_option maxHeartbeats 8000000 in
theorem exp_spec (w : World) (b v : Int) (e : Nat) (tb tv : Tok) (hb : 0 ≤ b) (hb2 : b < 257) (h128 : b ^ 128 % 257 = 256) (hv : v = b ^ e % 257) :
    SpecP w 77 [.int b tb, .int v tv] 4 32 (fun r => ∃ t, r = .int ((e % 256 : Nat)) t) := by
  unfold SpecP
  k_fill
  intro mean mg mb dp un gd cn cs a ccd cl outer A₀ base h₀ L m news s Q E B F X N T hk hd hu hret
  have hv0 : 0 ≤ v := by omega
  have hv1 : v < 257 := by omega
  refine wpAny_call ?_
  k_dflt ktr_enter
  ktr_unf
  refine' range_B (σ := Int × Tok) (n := 8) (fun c => [(Str.ofString "base", .int b tb), (Str.ofString "value", .int v tv), (Str.ofString "told", .int c.1 c.2)]) (fun i c => c.1 = ((e % 2 ^ i : Nat) : Int)) (0, _) rfl (by assumption) (by decide) (by decide) (by assumption) (by assumption) ?hps ?hP ?turn ?done
  case hps => kst_all
  case hP => show (0 : Int) = ((e % 2 ^ 0 : Nat) : Int); simp [Nat.mod_one]
  case done =>
    rintro ⟨told, tt⟩ rest h tk hP F1 N1
    dsimp only at hP F1 N1 ⊢
    ktr_unf
    exact hret _ _ _ ⟨tt, by rw [show told = ((e % 256 : Nat) : Int) from hP]⟩ (by assumption) (by assumption)
  case turn =>
    rintro i ti ⟨told, tt⟩ rest h tk own hi hP F1 N1
    dsimp only at hP F1 N1 ⊢
    have ht0 : 0 ≤ told := by omega
    have ht1 : told < 256 := by
      have h1 : e % 2 ^ i < 2 ^ i := Nat.mod_lt _ (Nat.two_pow_pos i)
      have h2 : 2 ^ i ≤ 2 ^ 7 := Nat.pow_le_pow_right (by decide) (by omega)
      omega
    ktr_unf
    refine specP_use (power_spec w b (256 - told) tb _ hb (by omega) (by omega) (by omega)) (by k_asm) (by k_asm) (by k_asm) (by k_asm) (by k_asm) rfl (by ktr_room) (by ktr_units) ?_
    rintro _ h1 tk1 ⟨t1, rfl⟩ F2 N2
    (try dsimp only)
    (try k_fold)
    ktr_unf
    refine specP_use (power_spec w _ _ _ _ fmod_range.1 (Int.lt_trans fmod_range.2 (by decide)) (exp_bound hi).1 (exp_bound hi).2) (by k_asm) (by k_asm) (by k_asm) (by k_asm) (by k_asm) rfl (by ktr_room) (by ktr_units) ?_
    rintro _ h2 tk2 ⟨t2, rfl⟩ F3 N3
    rw [exp_bit h128 hi hv hP]
    by_cases hbit : e / 2 ^ i % 2 = 1
    · rw [if_pos hbit]
      have hP' := exp_yes hP hbit
      (try dsimp only)
      (try k_fold)
      ktr_unf
      refine specP_use (nont_spec w _ _) (by k_asm) (by k_asm) (by k_asm) (by k_asm) (by k_asm) rfl (by ktr_room) (by ktr_units) ?_
      rintro _ h3 tk3 rfl F4 N4
      (try dsimp only)
      (try k_fold)
      ktr_unf
      refine' fturn_next (_, _) (by assumption) (by assumption) (fun _ q => q) ?ps1 hP'
      case ps1 => kst_all
    · rw [if_neg hbit]
      have hP' := exp_no hP hbit
      (try dsimp only)
      (try k_fold)
      ktr_unf
      refine specP_use (nont_spec w _ _) (by k_asm) (by k_asm) (by k_asm) (by k_asm) (by k_asm) rfl (by ktr_room) (by ktr_units) ?_
      rintro _ h3 tk3 rfl F4 N4
      (try dsimp only)
      (try k_fold)
      ktr_unf
      refine' fturn_next (told, _) (by assumption) (by assumption) (fun _ q => q) ?ps2 hP'
      case ps2 => kst_all
end Mine
end
section
open PySem PySem.W PySem.Calls PySem.Spec PyProof.Rows
set_option Elab.async false
namespace Mine
theorem ap_pick (k : Nat) (hk : k < 16) : KBy.picked [65, 66, 67, 68, 69, 70, 71, 72, 73, 74, 75, 76, 77, 78, 79, 80].toArray (some (k : Int)) (some ((k : Int) + 1)) = #[UInt8.ofNat (65 + k)] := by
  rw [KBc.picked_eq]
  match k, hk with
  | 0, _ | 1, _ | 2, _ | 3, _ | 4, _ | 5, _ | 6, _ | 7, _ | 8, _ | 9, _ | 10, _ | 11, _ | 12, _ | 13, _ | 14, _ | 15, _ => decide
  | n + 16, h => exact absurd h (by omega)
section
variable {prog : Program} {w : World} {A : Around} {E : Value → Shared → Prop} {s : Shared} {value slice : Expr} {t : Tok} {h₀ : Heap} {L : Addr} {m : Str → Option Value} {news : List (Addr × Obj)} {Q : Value → Shared → Prop}
theorem ap_at {i j : Int} {ui uj : Tok} {k : Nat} (hF : Fr h₀ L s.heap m) (hN : News h₀ L s.heap news) (hk : k < 16) (hi : i = (k : Int)) (hj : j = (k : Int) + 1)
    (h : ∀ h' t' c, Fr h₀ L h' m → News h₀ L h' news → Q (.bytes #[UInt8.ofNat (65 + k)] t') { s with heap := h', toks := c })
    (hs : subscripted slice false (.bytes [65, 66, 67, 68, 69, 70, 71, 72, 73, 74, 75, 76, 77, 78, 79, 80].toArray t) (.ref s.heap.objs.size) = operate [.ref s.heap.objs.size, .bytes [65, 66, 67, 68, 69, 70, 71, 72, 73, 74, 75, 76, 77, 78, 79, 80].toArray t] (getItem (.bytes [65, 66, 67, 68, 69, 70, 71, 72, 73, 74, 75, 76, 77, 78, 79, 80].toArray t) (.ref s.heap.objs.size)) := by with_unfolding_all rfl)
    (ht : ∀ r, letTemporaryGo value (.bytes [65, 66, 67, 68, 69, 70, 71, 72, 73, 74, 75, 76, 77, 78, 79, 80].toArray t) r = pure () := by intro _; with_unfolding_all rfl) :
    wpAny (model prog w) A (subscriptTail value slice (.bytes [65, 66, 67, 68, 69, 70, 71, 72, 73, 74, 75, 76, 77, 78, 79, 80].toArray t) (.ref s.heap.objs.size)) Q E { s with heap := s.heap.push { cls := .type "slice", data := .fields #[.int i ui, .int j uj, .none] } } := by
  subst hi hj
  refine KBc.slice_K hF hN rfl (lo := some (k : Int)) (hi := some ((k : Int) + 1)) (by constructor) (by constructor) (by decide) (fun h' t' c F N _ => ?_) hs ht
  rw [ap_pick k hk]
  exact h h' t' c F N
end
end Mine
end
section
open PySem PySem.W PySem.Calls PySem.Spec PyProof.Rows
set_option Elab.async false
namespace Mine
local macro_rules | `(tactic| ktr_unf) => `(tactic| (repeat' (first | (k_unfold; (try dsimp only)) | ((fail_if_success (with_reducible show wpAny _ _ (exec (Stmt.While _ _ _ _) _) _ _ _)); walk1) | (dsimp only; walk1))))

theorem whl_ne {y : Int} {T F : Prop} (h1 : y ≠ 0 → T) (h2 : y = 0 → F) : WhlIf (y != 0) T F := by
  by_cases h : y = 0
  · exact WhlIf.no (by simp [h]) (h2 h)
  · exact WhlIf.yes (by simp [h]) (h1 h)
def WordOf (n : Int) (z : Array UInt8) : Prop := (n = 0 ∧ z = #[]) ∨ (0 < n ∧ n < 16 ∧ z = #[UInt8.ofNat (65 + (n % 16).toNat)]) ∨ (16 ≤ n ∧ z = #[UInt8.ofNat (65 + (n / 16).toNat), UInt8.ofNat (65 + (n % 16).toNat)])
def IntW (n y : Int) (z : Array UInt8) : Prop := (y = n ∧ z = #[]) ∨ (0 < n ∧ y = n / 16 ∧ z = #[UInt8.ofNat (65 + (n % 16).toNat)]) ∨ (16 ≤ n ∧ y = 0 ∧ z = #[UInt8.ofNat (65 + (n / 16).toNat), UInt8.ofNat (65 + (n % 16).toNat)])
theorem fdiv16 (y : Int) : Int.fdiv y 16 = y / 16 := Int.fdiv_eq_ediv_of_nonneg _ (by decide)
theorem intW_step {n y : Int} {z : Array UInt8} (h0 : 0 ≤ n) (h1 : n < 256) (hP : IntW n y z) (hy : y ≠ 0) : IntW n (Int.fdiv y 16) (#[UInt8.ofNat (65 + (y % 16).toNat)] ++ z) := by
  rw [fdiv16]
  rcases hP with ⟨rfl, rfl⟩ | ⟨q1, q2, rfl⟩ | q
  · exact Or.inr (Or.inl ⟨by omega, rfl, rfl⟩)
  · refine Or.inr (Or.inr ⟨by omega, by omega, ?_⟩)
    have e : y % 16 = n / 16 := by omega
    rw [e]; rfl
  · exact absurd q.2.1 hy
theorem intW_dec {y : Int} (h0 : 0 ≤ y) (hy : y ≠ 0) : (Int.fdiv y 16).toNat < y.toNat := by
  rw [fdiv16]; omega
set_option maxRecDepth 100000 in
set_option maxHeartbeats 8000000 in
theorem word_spec (w : World) (n : Int) (t : Tok) (h0 : 0 ≤ n) (h1 : n < 256) : SpecP w 56 [.int n t] 1 8 (fun v => ∃ z t, v = .bytes z t ∧ WordOf n z) := by
  unfold SpecP
  k_fill
  intro mean mg mb dp un gd cn cs a ccd cl outer A₀ base h₀ L m news s Q E B F X N T hk hd hu hret
  refine wpAny_call ?_
  k_dflt ktr_enter
  ktr_unf
  have habs : (if n < 0 then -n else n) = n := if_neg (by omega)
  rename Fr _ _ _ _ => F9
  rw [habs] at F9
  refine' while_B (σ := (Int × Tok) × (Array UInt8 × Tok) × Tok) (· = s.gens) s (fun c => [(Str.ofString "num", .int c.1.1 c.1.2), (Str.ofString "val", .bytes c.2.1.1 c.2.1.2), (Str.ofString "AP", .bytes [65, 66, 67, 68, 69, 70, 71, 72, 73, 74, 75, 76, 77, 78, 79, 80].toArray c.2.2)]) (fun _ => news)
    (fun c => IntW n c.1.1 c.2.1.1) (fun c => c.1.1.toNat) ?hE ?turn ((n, _), (#[], _), _) _ ⟨_, _, _, _, rfl, Or.inl ⟨rfl, rfl⟩, rfl, frB F9 ?h2, (by assumption)⟩
  case hE => first | passes_own | with_unfolding_all passes_own
  case h2 => kst_all
  case turn =>
    rintro ⟨⟨y, ty⟩, ⟨z, tz⟩, tq⟩ h tk gs rest hP hG F1 N1
    dsimp only at hP F1 N1 ⊢
    ktr_unf
    refine whl_ne (fun hy => ?_) (fun hy => ?_)
    · ktr_unf
      have y0 : 0 ≤ y := by unfold IntW at hP; omega
      refine ap_at (s := ⟨_, _, _, _, _⟩) (k := (y % 16).toNat) (by assumption) (by assumption) (by omega) (by rw [Int.fmod_eq_emod_of_nonneg _ (by decide)]; omega) (by rw [Int.fmod_eq_emod_of_nonneg _ (by decide)]; omega) ?_
      intro h5 t5 c5 F5 N5
      ktr_unf
      have hz : z.size ≤ 2 := by
        rcases hP with q | q | q
        · rw [q.2]; decide
        · rw [q.2.2]; exact (by decide : 1 ≤ 2)
        · exact absurd q.2.1 hy
      refine KBy.add_bytes (by show 1 + z.size ≤ 16777216; omega) ?_
      intro t6 c6
      ktr_unf
      refine' turn_next ((_, _), (_, _), _) (by assumption) (by assumption) (fun p q => by first | exact q | exact List.mem_cons_of_mem _ q) hG ?ps1 ?hP1 ?hm
      case ps1 => kst_all
      case hP1 => exact intW_step h0 h1 hP hy
      case hm => exact intW_dec y0 hy
    · (try dsimp only)
      ktr_unf
      subst hG
      exact hret _ _ _ ⟨_, _, rfl, hP.imp (fun q => ⟨by omega, q.2⟩) (Or.imp (fun q => ⟨by omega, by omega, q.2.2⟩) (fun q => ⟨q.1, q.2.2⟩))⟩ (by assumption) (by assumption)
end Mine
end
section
namespace Mine
namespace Bx
def app : Bx → Bx → Bx
  | nil, b => b
  | sgn e c r, b => sgn e c (r.app b)
  | grp i r, b => grp i (r.app b)
theorem codes_app : ∀ (a b : Bx), (a.app b).codes = a.codes ++ b.codes
  | nil, _ => rfl
  | sgn false c r, b => by simp only [app, codes, codes_app r b, List.cons_append]
  | sgn true c r, b => by simp only [app, codes, codes_app r b, List.cons_append]
  | grp i r, b => by simp only [app, codes, codes_app r b, List.cons_append, List.append_assoc]
theorem wt_app : ∀ (a b : Bx), (a.app b).wt = a.wt + b.wt
  | nil, _ => by simp [app, wt]
  | sgn e c r, b => by simp only [app, wt, wt_app r b]; omega
  | grp i r, b => by simp only [app, wt, wt_app r b]; omega
theorem good_app : ∀ {a b : Bx}, a.Good → b.Good → (a.app b).Good
  | nil, _, _, h => h
  | sgn false c r, b, h, h' => ⟨h.1, h.2.1, h.2.2.1, h.2.2.2.1, h.2.2.2.2.1, good_app h.2.2.2.2.2 h'⟩
  | sgn true c r, b, h, h' => ⟨h.1, h.2.1, good_app h.2.2 h'⟩
  | grp i r, b, h, h' => ⟨h.1, good_app h.2 h'⟩
theorem height_le : ∀ (b : Bx), 2 * b.height ≤ b.codes.length
  | nil => by simp [height, codes]
  | sgn false c r => by have := height_le r; simp only [height, codes, List.length_cons]; omega
  | sgn true c r => by have := height_le r; simp only [height, codes, List.length_cons]; omega
  | grp i r => by
    have h1 := height_le i
    have h2 := height_le r
    simp only [height, codes, List.length_cons, List.length_append]; omega
end Bx
/-- the text so far: cur is the innermost open bracket's, outs what lies around it -/
def tx : List Bx → Bx → List Nat
  | [], cur => cur.codes
  | o :: os, cur => tx os o ++ 40 :: cur.codes
def pw : List Bx → Bx → Nat
  | [], cur => cur.wt
  | o :: os, cur => pw os o + 2 ^ (os.length + 1) * cur.wt
def shutAll : List Bx → Bx → Bx
  | [], cur => cur
  | o :: os, cur => shutAll os (o.app (.grp cur .nil))
theorem tx_app : ∀ (outs : List Bx) (cur b : Bx), tx outs (cur.app b) = tx outs cur ++ b.codes
  | [], cur, b => by simp only [tx, Bx.codes_app]
  | o :: os, cur, b => by simp only [tx, Bx.codes_app, List.append_assoc, List.cons_append]
theorem pw_app : ∀ (outs : List Bx) (cur b : Bx), pw outs (cur.app b) = pw outs cur + 2 ^ outs.length * b.wt
  | [], cur, b => by simp [pw, Bx.wt_app]
  | o :: os, cur, b => by simp only [pw, Bx.wt_app, Nat.mul_add, List.length_cons]; omega
def GoodSt (outs : List Bx) (cur : Bx) : Prop := cur.Good ∧ ∀ b ∈ outs, b.Good
theorem tx_open (outs : List Bx) (cur : Bx) : tx (cur :: outs) .nil = tx outs cur ++ [40] := rfl
theorem pw_open (outs : List Bx) (cur : Bx) : pw (cur :: outs) .nil = pw outs cur := by simp [pw, Bx.wt]
theorem tx_shut (o : Bx) (os : List Bx) (cur : Bx) : tx os (o.app (.grp cur .nil)) = tx (o :: os) cur ++ [41] := by
  rw [tx_app]; simp [tx, Bx.codes]
theorem pw_shut (o : Bx) (os : List Bx) (cur : Bx) : pw os (o.app (.grp cur .nil)) = pw (o :: os) cur := by
  rw [pw_app]; simp only [pw, Bx.wt, Nat.pow_succ, Nat.add_zero, Nat.mul_assoc]
theorem shutAll_codes : ∀ (outs : List Bx) (cur : Bx), (shutAll outs cur).codes = tx outs cur ++ List.replicate outs.length 41
  | [], cur => by simp [shutAll, tx]
  | o :: os, cur => by
    show (shutAll os (o.app (.grp cur .nil))).codes = _
    rw [shutAll_codes os, tx_shut, List.length_cons, List.append_assoc]
    rfl
theorem shutAll_wt : ∀ (outs : List Bx) (cur : Bx), (shutAll outs cur).wt = pw outs cur
  | [], cur => rfl
  | o :: os, cur => by
    show (shutAll os (o.app (.grp cur .nil))).wt = _
    rw [shutAll_wt os, pw_shut]
theorem good_shut {o : Bx} {os : List Bx} {cur : Bx} (h : GoodSt (o :: os) cur) : GoodSt os (o.app (.grp cur .nil)) :=
  ⟨Bx.good_app (h.2 o (List.mem_cons_self ..)) ⟨h.1, trivial⟩, fun b hb => h.2 b (List.mem_cons_of_mem _ hb)⟩
theorem good_shutAll : ∀ (outs : List Bx) (cur : Bx), GoodSt outs cur → (shutAll outs cur).Good
  | [], _, h => h.1
  | o :: os, cur, h => good_shutAll os (o.app (.grp cur .nil)) (good_shut h)
/-- what holds after i pieces -/
def Pieces (i : Nat) (T : List Nat) (d : Int) (p : Int) : Prop :=
  ∃ outs cur, GoodSt outs cur ∧ T = tx outs cur ∧ d = (outs.length : Nat) ∧ p = (pw outs cur : Nat) ∧ outs.length ≤ 3 ∧ T.length ≤ 2 * i
theorem pieces_len {i : Nat} {x : Array Nat} {d p : Int} (h : Pieces i x.toList d p) (hi : i < 9) : x.size ≤ 18 := by
  obtain ⟨_, _, _, _, _, _, _, h4⟩ := h
  rw [Array.length_toList] at h4; omega
theorem pieces_len9 {x : Array Nat} {d p : Int} (h : Pieces 9 x.toList d p) : x.size ≤ 18 := by
  obtain ⟨_, _, _, _, _, _, _, h4⟩ := h
  rw [Array.length_toList] at h4; omega
theorem pieces_dep {i : Nat} {T : List Nat} {d p : Int} (h : Pieces i T d p) : 0 ≤ d ∧ d ≤ 3 := by
  obtain ⟨outs, _, _, _, e, _, h3, _⟩ := h
  omega
theorem pieces_0 : Pieces 0 [] 0 0 := ⟨[], .nil, ⟨trivial, fun _ h => nomatch h⟩, rfl, rfl, rfl, by decide, by decide⟩
theorem pieces_open {i : Nat} {T : List Nat} {d p : Int} (h : Pieces i T d p) (hd : d < 3) : Pieces (i + 1) (T ++ [40]) (d + 1) p := by
  obtain ⟨outs, cur, g, rfl, rfl, rfl, h3, h4⟩ := h
  refine ⟨cur :: outs, .nil, ⟨trivial, ?_⟩, (tx_open outs cur).symm, ?_, by rw [pw_open], ?_, ?_⟩
  · intro b hb
    rcases List.mem_cons.mp hb with rfl | hb
    · exact g.1
    · exact g.2 b hb
  · simp
  · simp; omega
  · simp; omega
theorem pieces_shut {i : Nat} {T : List Nat} {d p : Int} (h : Pieces i T d p) (hd : 0 < d) : Pieces (i + 1) (T ++ [41]) (d - 1) p := by
  obtain ⟨outs, cur, g, rfl, rfl, rfl, h3, h4⟩ := h
  match outs, g, h3, h4, hd with
  | [], _, _, _, hd => exact absurd hd (by decide)
  | o :: os, g, h3, h4, hd =>
    refine ⟨os, o.app (.grp cur .nil), good_shut g, (tx_shut o os cur).symm, ?_, by rw [pw_shut], ?_, ?_⟩
    · simp
    · simp at h3; omega
    · simp only [List.length_append, List.length_cons, List.length_nil]; omega
theorem pieces_sgn {i : Nat} {T S : List Nat} {d p x : Int} {e : Bool} {c : Nat} (h : Pieces i T d p) (hg : (Bx.sgn e c .nil).Good) (hS : S = (Bx.sgn e c .nil).codes) (hx : x = p + (c : Int) * 2 ^ d.toNat) : Pieces (i + 1) (T ++ S) d x := by
  obtain ⟨outs, cur, g, rfl, rfl, rfl, h3, h4⟩ := h
  refine ⟨outs, cur.app (.sgn e c .nil), ⟨Bx.good_app g.1 hg, g.2⟩, ?_, rfl, ?_, h3, ?_⟩
  · rw [tx_app, hS]
  · rw [pw_app, hx]; simp only [Bx.wt, Nat.add_zero, Int.toNat_natCast, Int.natCast_add, Int.natCast_mul, Int.natCast_pow]
    rw [Int.mul_comm]; rfl
  · have : S.length ≤ 2 := by cases e <;> (rw [hS]; simp [Bx.codes])
    simp only [List.length_append]; omega
theorem pieces_end {i : Nat} {T : List Nat} {d p : Int} (h : Pieces i T d p) : ∃ b : Bx, b.Good ∧ b.codes = T ++ List.replicate d.toNat 41 ∧ p = (b.wt : Nat) ∧ b.codes.length ≤ 2 * i + 3 := by
  obtain ⟨outs, cur, g, rfl, rfl, rfl, h3, h4⟩ := h
  refine ⟨shutAll outs cur, good_shutAll _ _ g, ?_, by rw [shutAll_wt], ?_⟩
  · rw [shutAll_codes]; rfl
  · rw [shutAll_codes]; simp; omega
end Mine
end
section
open PySem PySem.W PySem.Calls PySem.Spec PyProof.Rows
namespace Mine
theorem with_list {h : Heap} {l : Addr} {vs : List Value} {P : Prop} (_H : h.IsList l vs.toArray) (k : ∀ l9 vs9, l9 = l → vs9 = vs → P) : P := k _ _ rfl rfl
theorem with_ints {vs : List Value} {ns : List Int} {P : Prop} (_H : IntsAre vs ns) (k : ∀ n9, n9 = ns → P) : P := k _ rfl
theorem with_news {g h : Heap} {L l : Addr} {o : Obj} {P : Prop} (_N : News g L h [(l, o)]) (k : ∀ l9, l9 = l → P) : P := k _ rfl
theorem with_fr {g h : Heap} {L : Addr} {m : Str → Option Value} {P : Prop} (_N : Fr g L h m) (k : ∀ h9, h9 = h → P) : P := k _ rfl
theorem ite_b {c : Bool} {P Q : Prop} (h1 : c = true → P) (h2 : c = false → Q) : if c = true then P else Q := by
  cases c with
  | true => exact h1 rfl
  | false => exact h2 rfl
section
variable {prog : Program} {w : World} {A : Around} {E : Value → Shared → Prop} {s : Shared}
/-- a tree that changes no object: what it answers, said once -/
theorem cut_tk {α : Type} {X : Sem α} {Q : α → Shared → Prop} (C : α → Prop) (h : wpAny (model prog w) A X (fun b s₂ => C b ∧ ∃ tk, s₂ = { s with toks := tk }) E s) (k : ∀ b tk, C b → Q b { s with toks := tk }) :
    wpAny (model prog w) A X Q E s := wpAny_mono h (fun b _ ⟨hc, tk, e⟩ => e ▸ k b tk hc) fun _ _ x => x
end
theorem cps_cat (x y : Str) : (x ++ y).cps.toList = x.cps.toList ++ y.cps.toList := Array.toList_append
theorem cat_pieces {i : Nat} {x y : Str} {l : List Nat} {d p : Int} (hy : y.cps.toList = l) (h : Pieces i (x.cps.toList ++ l) d p) : Pieces i (x ++ y).cps.toList d p := by
  rw [cps_cat, hy]; exact h
theorem sgn_pick {x j : Int} (hx : 0 ≤ x) (hx2 : x < 26) (hj : 0 ≤ j) (hj2 : j < 4) {u : List Str} (hu : u = [⟨#[(97 + x).toNat]⟩, ⟨#[(97 + x).toNat]⟩, Str.ofString "(", Str.ofString ")"]) :
    (∃ c : Nat, 97 ≤ c ∧ c < 123 ∧ u.getD j.toNat Str.empty = ⟨#[c]⟩) ∨ u.getD j.toNat Str.empty = ⟨#[40]⟩ ∨ u.getD j.toNat Str.empty = ⟨#[41]⟩ := by
  subst hu
  have h : j.toNat = 0 ∨ j.toNat = 1 ∨ j.toNat = 2 ∨ j.toNat = 3 := by omega
  rcases h with h | h | h | h <;> rw [h]
  · exact Or.inl ⟨(97 + x).toNat, by omega, by omega, rfl⟩
  · exact Or.inl ⟨(97 + x).toNat, by omega, by omega, rfl⟩
  · exact Or.inr (Or.inl rfl)
  · exact Or.inr (Or.inr rfl)
theorem fm_lo {a n : Int} (h : 0 < n) : 0 ≤ Int.fmod a n := by
  rw [Int.fmod_eq_emod_of_nonneg _ (by omega)]; exact Int.emod_nonneg _ (by omega)
theorem fm_hi {a n : Int} (h : 0 < n) : Int.fmod a n < n := by
  rw [Int.fmod_eq_emod_of_nonneg _ (by omega)]; exact Int.emod_lt_of_pos _ h
section
variable {prog : Program} {w : World} {A : Around} {E : Value → Shared → Prop} {s : Shared} {g : Heap} {L l : Addr} {news : List (Addr × Obj)} {Q : Value → Shared → Prop}
theorem pick4_at {v a b : Expr} {op : Operator} {p : Pos} {j : Int} {u ta tb tc td : Tok} {x1 x2 x3 x4 : Str} (N : News g L s.heap ((l, W.listOf #[.str x1 ta, .str x2 tb, .str x3 tc, .str x4 td] 0) :: news)) (hj : 0 ≤ j) (hj2 : j < 4)
    (h : ∀ t, Q (.str ([x1, x2, x3, x4].getD j.toNat Str.empty) t) s) : wpAny (model prog w) A (subscriptTail v (.BinOp a op b p) (.ref l) (.int j u)) Q E s :=
  KTb.item_list (vs := [.str x1 ta, .str x2 tb, .str x3 tc, .str x4 td]) (News.isList N (List.Mem.head _)) (.cons _ _ (.cons _ _ (.cons _ _ (.cons _ _ .nil)))) hj hj2 (Int.lt_trans hj2 (by decide)) (fun t _ => h t) (by with_unfolding_all rfl)
theorem sign_at {v a b : Expr} {op : Operator} {p : Pos} {x j : Int} {u ta tb tc td : Tok} (N : News g L s.heap ((l, W.listOf #[.str ⟨#[(97 + x).toNat]⟩ ta, .str ⟨#[(97 + x).toNat]⟩ tb, .str (Str.ofString "(") tc, .str (Str.ofString ")") td] 0) :: news))
    (hx : 0 ≤ x) (hx2 : x < 26) (hj : 0 ≤ j) (hj2 : j < 4) (h1 : ∀ (c : Nat) t, 97 ≤ c → c < 123 → Q (.str ⟨#[c]⟩ t) s) (h2 : ∀ (c : Nat) t, (c = 40 ∨ c = 41) → Q (.str ⟨#[c]⟩ t) s) :
    wpAny (model prog w) A (subscriptTail v (.BinOp a op b p) (.ref l) (.int j u)) Q E s := by
  refine pick4_at N hj hj2 fun t => ?_
  rcases sgn_pick hx hx2 hj hj2 rfl with ⟨c, h7, h8, e⟩ | e | e
  · rw [e]; exact h1 c t h7 h8
  · rw [e]; exact h2 40 t (Or.inl rfl)
  · rw [e]; exact h2 41 t (Or.inr rfl)
end
theorem occ_letter {c : Nat} (h : 97 ≤ c) : (!(Builtin.Str.occurrences (Str.ofString "()") ⟨#[c]⟩ 0 (Str.ofString "()").length 1).isEmpty) = false := by
  rw [StrLaws.found_one]
  have e : (Str.ofString "()").cps.toList = [40, 41] := by decide
  rw [e]
  simp; omega
theorem occ_paren {c : Nat} (h : c = 40 ∨ c = 41) : (!(Builtin.Str.occurrences (Str.ofString "()") ⟨#[c]⟩ 0 (Str.ofString "()").length 1).isEmpty) = true := by
  rw [StrLaws.found_one]
  have e : (Str.ofString "()").cps.toList = [40, 41] := by decide
  rw [e]
  simp; omega
theorem ite_f {P Q : Prop} (h : Q) : if false = true then P else Q := h
theorem ite_t {P Q : Prop} (h : P) : if true = true then P else Q := h
theorem pieces_letter {i c : Nat} {x : Str} {d p v : Int} (h : Pieces i x.cps.toList d p) (h1 : 97 ≤ c) (h2 : c < 123) (hv : v = p + (c : Int) * 2 ^ d.toNat) : Pieces (i + 1) (x ++ ⟨#[c]⟩ : Str).cps.toList d v :=
  cat_pieces (l := [c]) rfl (pieces_sgn (e := false) h ⟨by omega, by omega, by omega, by omega, by omega, trivial⟩ rfl hv)
theorem pieces_paren {i c : Nat} {x : Str} {d p v : Int} (h : Pieces i x.cps.toList d p) (h1 : c = 40 ∨ c = 41) (hv : v = p + (c : Int) * 2 ^ d.toNat) : Pieces (i + 1) (x ++ (Str.ofString "\\" ++ ⟨#[c]⟩) : Str).cps.toList d v :=
  cat_pieces (l := [92, c]) (by rw [cps_cat]; rfl) (pieces_sgn (e := true) h ⟨by omega, by omega, trivial⟩ rfl hv)
theorem paren_len {c : Nat} {x : Str} (h : x.cps.size ≤ 18) : x.length + (Str.ofString "\\" ++ (⟨#[c]⟩ : Str)).length ≤ 16777216 := by
  have e : (Str.ofString "\\" ++ (⟨#[c]⟩ : Str)).length = 2 := rfl
  have e2 : x.length = x.cps.size := rfl
  omega
theorem letter_len {c : Nat} {x : Str} (h : x.cps.size ≤ 18) : x.length + (⟨#[c]⟩ : Str).length ≤ 16777216 := by
  have e : (⟨#[c]⟩ : Str).length = 1 := rfl
  have e2 : x.length = x.cps.size := rfl
  omega
theorem mul_rep {d : Int} (h0 : 0 ≤ d) (h3 : d ≤ 3) : (Txt.mul (Str.ofString ")") d).cps.toList = List.replicate d.toNat 41 := by
  have h : d = 0 ∨ d = 1 ∨ d = 2 ∨ d = 3 := by omega
  rcases h with h | h | h | h <;> (subst h; decide)
theorem shut_len {d : Int} {x : Str} (h0 : 0 ≤ d) (h3 : d ≤ 3) (h : x.cps.size ≤ 18) : x.length + (Txt.mul (Str.ofString ")") d).length ≤ 16777216 := by
  have e : (Txt.mul (Str.ofString ")") d).length = (Txt.mul (Str.ofString ")") d).cps.toList.length := by rw [Array.length_toList]; rfl
  rw [mul_rep h0 h3, List.length_replicate] at e
  have e2 : x.length = x.cps.size := rfl
  omega
theorem shut_codes {d : Int} {x : Str} {l : List Nat} (h0 : 0 ≤ d) (h3 : d ≤ 3) (h : l = x.cps.toList ++ List.replicate d.toNat 41) : (x ++ Txt.mul (Str.ofString ")") d).cps.toList = l := by
  rw [cps_cat, mul_rep h0 h3, h]
theorem whl_neK {y k : Int} {T F : Prop} (h1 : y ≠ k → T) (h2 : y = k → F) : WhlIf (y != k) T F := by
  by_cases h : y = k
  · exact WhlIf.no (by simp [h]) (h2 h)
  · exact WhlIf.yes (by simp [h]) (h1 h)
theorem ite_neb {a b : Bool} {P Q : Prop} (h : a = b) (q : Q) : if (a != b) = true then P else Q := by
  subst h; simpa using q
/-- the law's base -/
def IsBase (v : Value) : Prop := ∃ (b : Int) (t : Tok), v = .int b t ∧ 0 ≤ b ∧ b < 257 ∧ b ^ 128 % 257 = 256
theorem ite_nei {a b : Int} {P Q : Prop} (h : a = b) (q : Q) : if (a != b) = true then P else Q := by
  subst h; simpa using q
theorem plain_eq {n : Nat} {p : Int} (h : p = (n : Int)) : ((n % 256 : Nat) : Int) = Int.fmod p 256 := by
  rw [h, Int.fmod_eq_emod_of_nonneg _ (by decide)]; omega
end Mine
end
section
namespace Mine
theorem half_nat : ∀ n : Nat, n < 257 → n = 0 ∨ n ^ 128 % 257 = 1 ∨ n ^ 128 % 257 = 256 := by decide +kernel
theorem cast_pm (n k : Nat) : ((n ^ k % 257 : Nat) : Int) = (n : Int) ^ k % 257 := by rw [Int.natCast_emod, Int.natCast_pow]; rfl
theorem one_pm (m : Nat) : (1 : Int) ^ m % 257 = 1 := by rw [Int.one_pow]; rfl
theorem half_int {n : Int} (h1 : 1 ≤ n) (h2 : n ≤ 256) : n ^ 128 % 257 = 1 ∨ n ^ 128 % 257 = 256 := by
  have h := half_nat n.toNat (by omega)
  have e : n = (n.toNat : Int) := by omega
  rw [e]
  rcases h with h | h | h
  · omega
  · exact Or.inl (by rw [← cast_pm, h]; rfl)
  · exact Or.inr (by rw [← cast_pm, h]; rfl)
theorem full_of_half {n : Int} (h : n ^ 128 % 257 = 1 ∨ n ^ 128 % 257 = 256) : n ^ 256 % 257 = 1 := by
  rw [show 256 = 128 * 2 from rfl, pow_mulI, ← pmod]
  rcases h with h | h <;> rw [h] <;> rfl
theorem fermat {n : Int} (h1 : 1 ≤ n) (h2 : n ≤ 256) : n ^ 256 % 257 = 1 := full_of_half (half_int h1 h2)
theorem lift128 : ∀ j : Nat, j < 256 → j = 0 ∨ ∃ k, k < 8 ∧ j * 2 ^ k % 256 = 128 := by decide +kernel
theorem not_one {b : Int} (h : b ^ 128 % 257 = 256) {j : Nat} (h0 : 0 < j) (h1 : j < 256) : b ^ j % 257 ≠ 1 := by
  intro e
  rcases lift128 j h1 with r | ⟨k, _, hk⟩
  · omega
  · have e1 : b ^ (j * 2 ^ k) % 257 = 1 := by
      rw [pow_mulI, ← pmod, e]
      exact one_pm _
    have e2 : j * 2 ^ k = 128 * (2 * (j * 2 ^ k / 256) + 1) := by omega
    rw [e2, pow_mulI, ← pmod, h, pow256, if_pos (by omega)] at e1
    exact absurd e1 (by decide)
/-- what the order's loop holds -/
def Ord (n o p : Int) : Prop := 1 ≤ o ∧ o ≤ 256 ∧ p = n ^ o.toNat % 257 ∧ ∀ j : Nat, 0 < j → (j : Int) < o → n ^ j % 257 ≠ 1
theorem ord_0 {n : Int} (h1 : 1 ≤ n) (h2 : n ≤ 256) : Ord n 1 n := ⟨by decide, by decide, by show n = n ^ 1 % 257; rw [Int.pow_succ, Int.pow_zero, Int.one_mul]; omega, fun j h h' => by omega⟩
theorem ord_lt {n o p : Int} (h1 : 1 ≤ n) (h2 : n ≤ 256) (h : Ord n o p) (hp : p ≠ 1) : o < 256 := by
  obtain ⟨a, b, c, _⟩ := h
  rcases Int.lt_or_eq_of_le b with h | h
  · exact h
  · subst h; exact absurd (c.trans (fermat h1 h2)) hp
theorem ord_step {n o p : Int} (h1 : 1 ≤ n) (h2 : n ≤ 256) (h : Ord n o p) (hp : p ≠ 1) : Ord n (o + 1) (Int.fmod (p * n) 257) := by
  have hlt := ord_lt h1 h2 h hp
  obtain ⟨a, b, c, d⟩ := h
  refine ⟨by omega, by omega, ?_, fun j h0 hj => ?_⟩
  · rw [Int.fmod_eq_emod_of_nonneg _ (by decide), show (o + 1).toNat = o.toNat + 1 by omega, Int.pow_succ, c, Int.mul_emod, Int.emod_emod, ← Int.mul_emod]
  · rcases Int.lt_or_eq_of_le (show (j : Int) ≤ o by omega) with q | q
    · exact d j h0 q
    · have : j = o.toNat := by omega
      rw [this, ← c]; exact hp
theorem ord_dec {n o p : Int} (h1 : 1 ≤ n) (h2 : n ≤ 256) (h : Ord n o p) (hp : p ≠ 1) : (257 - (o + 1)).toNat < (257 - o).toNat := by
  have := ord_lt h1 h2 h hp
  omega
theorem ord_end {n o : Int} (h1 : 1 ≤ n) (h2 : n ≤ 256) (h : Ord n o 1) : decide (256 ≤ n ^ 128 % 257) = (o == 256) := by
  obtain ⟨a, b, c, d⟩ := h
  rcases half_int h1 h2 with q | q
  · have hne : o ≠ 256 := fun e => d 128 (by decide) (by omega) q
    rw [q]; simp [hne]
  · have he : o = 256 := by
      rcases Int.lt_or_eq_of_le b with r | r
      · exact absurd c.symm (not_one q (by omega) (by omega))
      · exact r
    rw [q, he]; decide
theorem base_root {n : Int} (h1 : 1 ≤ n) (h2 : n ≤ 256) (h : decide (256 ≤ n ^ 128 % 257) = true) : n ^ 128 % 257 = 256 := by
  have := of_decide_eq_true h
  rcases half_int h1 h2 with q | q <;> omega
theorem base_three {n : Int} (h1 : 1 ≤ n) (h2 : n ≤ 256) (h : decide (256 ≤ n ^ 128 % 257) = false) : (Int.fmod (n * 3) 257) ^ 128 % 257 = 256 := by
  have hq := of_decide_eq_false h
  have e : n ^ 128 % 257 = 1 := by rcases half_int h1 h2 with q | q <;> omega
  rw [Int.fmod_eq_emod_of_nonneg _ (by decide), pmod, Int.mul_pow, Int.mul_emod, e]
  decide
theorem pow_256 {b : Int} (h : b ^ 128 % 257 = 256) (e : Nat) : b ^ e % 257 = b ^ (e % 256) % 257 := by
  have hf := full_of_half (Or.inr h)
  have hd : e = 256 * (e / 256) + e % 256 := (Nat.div_add_mod _ _).symm
  have h1 : b ^ (256 * (e / 256)) % 257 = 1 := by
    rw [pow_mulI, ← pmod, hf]; exact one_pm _
  rw [hd, Int.pow_add, Int.mul_emod, h1, Int.one_mul, Int.emod_emod]
  rw [← hd]
theorem zero_iff {b : Int} (h : b ^ 128 % 257 = 256) (e : Nat) : (((e % 256 : Nat) : Int) == 0) = (b ^ e % 257 == 1) := by
  rw [pow_256 h]
  by_cases q : e % 256 = 0
  · rw [q, Int.pow_zero]; rfl
  · have := not_one h (j := e % 256) (by omega) (by omega)
    have q' : ((e % 256 : Nat) : Int) ≠ 0 := by omega
    rw [beq_false_of_ne q', beq_false_of_ne this]
end Mine
end
section
open PySem PySem.W PySem.Calls PySem.Spec PyProof.Rows
set_option Elab.async false
set_option maxRecDepth 100000
namespace Mine
open Builtin
theorem args_decode_2 (a b : Value) : argsOk "bytes.decode" ⟨[a, b], []⟩ := by
  unfold argsOk; rw [signature?_of (id := "bytes.decode") (n := ['e', 'd', 'o', 'c', 'e', 'd']) (o := ['s', 'e', 't', 'y', 'b']) (by kernel_rfl) FB.owner_bytes]; kernel_rfl
theorem road_ascii {id : String} {b : Array UInt8} : _codecs.decodeRoad id b (PySem.Str.ofString "ascii") none [] = (_codecs.runDecoder id _codecs.asciiDecoder none true b 0 [] >>= fun r => mkStr ⟨r.1⟩) := by kernel_rfl
theorem ascii1 {id : String} : ∀ k : Nat, k < 16 → _codecs.runDecoder id _codecs.asciiDecoder none true #[UInt8.ofNat (65 + k)] 0 [] = pure (#[65 + k], 1)
  | 0, _ | 1, _ | 2, _ | 3, _ | 4, _ | 5, _ | 6, _ | 7, _ | 8, _ | 9, _ | 10, _ | 11, _ | 12, _ | 13, _ | 14, _ | 15, _ => by kernel_rfl
  | n + 16, h => absurd h (by omega)
theorem ascii2_0 {id : String} : ∀ k : Nat, k < 16 → _codecs.runDecoder id _codecs.asciiDecoder none true #[UInt8.ofNat (65 + 0), UInt8.ofNat (65 + k)] 0 [] = pure (#[65 + 0, 65 + k], 2)
  | 0, _ | 1, _ | 2, _ | 3, _ | 4, _ | 5, _ | 6, _ | 7, _ | 8, _ | 9, _ | 10, _ | 11, _ | 12, _ | 13, _ | 14, _ | 15, _ => by kernel_rfl
  | n + 16, h => absurd h (by omega)
theorem ascii2_1 {id : String} : ∀ k : Nat, k < 16 → _codecs.runDecoder id _codecs.asciiDecoder none true #[UInt8.ofNat (65 + 1), UInt8.ofNat (65 + k)] 0 [] = pure (#[65 + 1, 65 + k], 2)
  | 0, _ | 1, _ | 2, _ | 3, _ | 4, _ | 5, _ | 6, _ | 7, _ | 8, _ | 9, _ | 10, _ | 11, _ | 12, _ | 13, _ | 14, _ | 15, _ => by kernel_rfl
  | n + 16, h => absurd h (by omega)
theorem ascii2_2 {id : String} : ∀ k : Nat, k < 16 → _codecs.runDecoder id _codecs.asciiDecoder none true #[UInt8.ofNat (65 + 2), UInt8.ofNat (65 + k)] 0 [] = pure (#[65 + 2, 65 + k], 2)
  | 0, _ | 1, _ | 2, _ | 3, _ | 4, _ | 5, _ | 6, _ | 7, _ | 8, _ | 9, _ | 10, _ | 11, _ | 12, _ | 13, _ | 14, _ | 15, _ => by kernel_rfl
  | n + 16, h => absurd h (by omega)
theorem ascii2_3 {id : String} : ∀ k : Nat, k < 16 → _codecs.runDecoder id _codecs.asciiDecoder none true #[UInt8.ofNat (65 + 3), UInt8.ofNat (65 + k)] 0 [] = pure (#[65 + 3, 65 + k], 2)
  | 0, _ | 1, _ | 2, _ | 3, _ | 4, _ | 5, _ | 6, _ | 7, _ | 8, _ | 9, _ | 10, _ | 11, _ | 12, _ | 13, _ | 14, _ | 15, _ => by kernel_rfl
  | n + 16, h => absurd h (by omega)
theorem ascii2_4 {id : String} : ∀ k : Nat, k < 16 → _codecs.runDecoder id _codecs.asciiDecoder none true #[UInt8.ofNat (65 + 4), UInt8.ofNat (65 + k)] 0 [] = pure (#[65 + 4, 65 + k], 2)
  | 0, _ | 1, _ | 2, _ | 3, _ | 4, _ | 5, _ | 6, _ | 7, _ | 8, _ | 9, _ | 10, _ | 11, _ | 12, _ | 13, _ | 14, _ | 15, _ => by kernel_rfl
  | n + 16, h => absurd h (by omega)
theorem ascii2_5 {id : String} : ∀ k : Nat, k < 16 → _codecs.runDecoder id _codecs.asciiDecoder none true #[UInt8.ofNat (65 + 5), UInt8.ofNat (65 + k)] 0 [] = pure (#[65 + 5, 65 + k], 2)
  | 0, _ | 1, _ | 2, _ | 3, _ | 4, _ | 5, _ | 6, _ | 7, _ | 8, _ | 9, _ | 10, _ | 11, _ | 12, _ | 13, _ | 14, _ | 15, _ => by kernel_rfl
  | n + 16, h => absurd h (by omega)
theorem ascii2_6 {id : String} : ∀ k : Nat, k < 16 → _codecs.runDecoder id _codecs.asciiDecoder none true #[UInt8.ofNat (65 + 6), UInt8.ofNat (65 + k)] 0 [] = pure (#[65 + 6, 65 + k], 2)
  | 0, _ | 1, _ | 2, _ | 3, _ | 4, _ | 5, _ | 6, _ | 7, _ | 8, _ | 9, _ | 10, _ | 11, _ | 12, _ | 13, _ | 14, _ | 15, _ => by kernel_rfl
  | n + 16, h => absurd h (by omega)
theorem ascii2_7 {id : String} : ∀ k : Nat, k < 16 → _codecs.runDecoder id _codecs.asciiDecoder none true #[UInt8.ofNat (65 + 7), UInt8.ofNat (65 + k)] 0 [] = pure (#[65 + 7, 65 + k], 2)
  | 0, _ | 1, _ | 2, _ | 3, _ | 4, _ | 5, _ | 6, _ | 7, _ | 8, _ | 9, _ | 10, _ | 11, _ | 12, _ | 13, _ | 14, _ | 15, _ => by kernel_rfl
  | n + 16, h => absurd h (by omega)
theorem ascii2_8 {id : String} : ∀ k : Nat, k < 16 → _codecs.runDecoder id _codecs.asciiDecoder none true #[UInt8.ofNat (65 + 8), UInt8.ofNat (65 + k)] 0 [] = pure (#[65 + 8, 65 + k], 2)
  | 0, _ | 1, _ | 2, _ | 3, _ | 4, _ | 5, _ | 6, _ | 7, _ | 8, _ | 9, _ | 10, _ | 11, _ | 12, _ | 13, _ | 14, _ | 15, _ => by kernel_rfl
  | n + 16, h => absurd h (by omega)
theorem ascii2_9 {id : String} : ∀ k : Nat, k < 16 → _codecs.runDecoder id _codecs.asciiDecoder none true #[UInt8.ofNat (65 + 9), UInt8.ofNat (65 + k)] 0 [] = pure (#[65 + 9, 65 + k], 2)
  | 0, _ | 1, _ | 2, _ | 3, _ | 4, _ | 5, _ | 6, _ | 7, _ | 8, _ | 9, _ | 10, _ | 11, _ | 12, _ | 13, _ | 14, _ | 15, _ => by kernel_rfl
  | n + 16, h => absurd h (by omega)
theorem ascii2_10 {id : String} : ∀ k : Nat, k < 16 → _codecs.runDecoder id _codecs.asciiDecoder none true #[UInt8.ofNat (65 + 10), UInt8.ofNat (65 + k)] 0 [] = pure (#[65 + 10, 65 + k], 2)
  | 0, _ | 1, _ | 2, _ | 3, _ | 4, _ | 5, _ | 6, _ | 7, _ | 8, _ | 9, _ | 10, _ | 11, _ | 12, _ | 13, _ | 14, _ | 15, _ => by kernel_rfl
  | n + 16, h => absurd h (by omega)
theorem ascii2_11 {id : String} : ∀ k : Nat, k < 16 → _codecs.runDecoder id _codecs.asciiDecoder none true #[UInt8.ofNat (65 + 11), UInt8.ofNat (65 + k)] 0 [] = pure (#[65 + 11, 65 + k], 2)
  | 0, _ | 1, _ | 2, _ | 3, _ | 4, _ | 5, _ | 6, _ | 7, _ | 8, _ | 9, _ | 10, _ | 11, _ | 12, _ | 13, _ | 14, _ | 15, _ => by kernel_rfl
  | n + 16, h => absurd h (by omega)
theorem ascii2_12 {id : String} : ∀ k : Nat, k < 16 → _codecs.runDecoder id _codecs.asciiDecoder none true #[UInt8.ofNat (65 + 12), UInt8.ofNat (65 + k)] 0 [] = pure (#[65 + 12, 65 + k], 2)
  | 0, _ | 1, _ | 2, _ | 3, _ | 4, _ | 5, _ | 6, _ | 7, _ | 8, _ | 9, _ | 10, _ | 11, _ | 12, _ | 13, _ | 14, _ | 15, _ => by kernel_rfl
  | n + 16, h => absurd h (by omega)
theorem ascii2_13 {id : String} : ∀ k : Nat, k < 16 → _codecs.runDecoder id _codecs.asciiDecoder none true #[UInt8.ofNat (65 + 13), UInt8.ofNat (65 + k)] 0 [] = pure (#[65 + 13, 65 + k], 2)
  | 0, _ | 1, _ | 2, _ | 3, _ | 4, _ | 5, _ | 6, _ | 7, _ | 8, _ | 9, _ | 10, _ | 11, _ | 12, _ | 13, _ | 14, _ | 15, _ => by kernel_rfl
  | n + 16, h => absurd h (by omega)
theorem ascii2_14 {id : String} : ∀ k : Nat, k < 16 → _codecs.runDecoder id _codecs.asciiDecoder none true #[UInt8.ofNat (65 + 14), UInt8.ofNat (65 + k)] 0 [] = pure (#[65 + 14, 65 + k], 2)
  | 0, _ | 1, _ | 2, _ | 3, _ | 4, _ | 5, _ | 6, _ | 7, _ | 8, _ | 9, _ | 10, _ | 11, _ | 12, _ | 13, _ | 14, _ | 15, _ => by kernel_rfl
  | n + 16, h => absurd h (by omega)
theorem ascii2_15 {id : String} : ∀ k : Nat, k < 16 → _codecs.runDecoder id _codecs.asciiDecoder none true #[UInt8.ofNat (65 + 15), UInt8.ofNat (65 + k)] 0 [] = pure (#[65 + 15, 65 + k], 2)
  | 0, _ | 1, _ | 2, _ | 3, _ | 4, _ | 5, _ | 6, _ | 7, _ | 8, _ | 9, _ | 10, _ | 11, _ | 12, _ | 13, _ | 14, _ | 15, _ => by kernel_rfl
  | n + 16, h => absurd h (by omega)
theorem ascii2 {id : String} : ∀ (j k : Nat), j < 16 → k < 16 → _codecs.runDecoder id _codecs.asciiDecoder none true #[UInt8.ofNat (65 + j), UInt8.ofNat (65 + k)] 0 [] = pure (#[65 + j, 65 + k], 2)
  | 0, k, _, h => ascii2_0 k h
  | 1, k, _, h => ascii2_1 k h
  | 2, k, _, h => ascii2_2 k h
  | 3, k, _, h => ascii2_3 k h
  | 4, k, _, h => ascii2_4 k h
  | 5, k, _, h => ascii2_5 k h
  | 6, k, _, h => ascii2_6 k h
  | 7, k, _, h => ascii2_7 k h
  | 8, k, _, h => ascii2_8 k h
  | 9, k, _, h => ascii2_9 k h
  | 10, k, _, h => ascii2_10 k h
  | 11, k, _, h => ascii2_11 k h
  | 12, k, _, h => ascii2_12 k h
  | 13, k, _, h => ascii2_13 k h
  | 14, k, _, h => ascii2_14 k h
  | 15, k, _, h => ascii2_15 k h
  | n + 16, _, h, _ => absurd h (by omega)
section
variable {b : Array UInt8} {c : UInt8} {cs : List UInt8} {t u : Tok} {x : PySem.Str} {n : Nat}
theorem meets_asc {t1 t2 : Tok} {d : PySem.Str} (hd : ∀ id, _codecs.runDecoder id _codecs.asciiDecoder none true b 0 [] = pure (x.cps, n)) :
    Meets («_codecs.decode.text» ⟨[.bytes b t, .str (PySem.Str.ofString "ascii") t1, .none, .str d t2], []⟩) (fun _ R s => x.length ≤ sizeLine ∧ R (.ok (.ret (.str x s.toks))) { s with toks := s.toks + 1 }) := by
  refine .of_wp fun prog w A R s hS => ?_
  obtain ⟨hsz, h⟩ := hS
  show wpAny _ _ (Bytes.bytesLike _ (.bytes b t) >>= fun r => _) _ _ s
  refine wpAny_bind (wpAny_of_eq KBd.like_eq ?_)
  refine wpAny_bind (wpAny_of_eq KBd.held_eq ?_)
  show wpAny _ _ (_codecs.decodeRoad _ b (PySem.Str.ofString "ascii") none [] >>= fun v => _) _ _ s
  rw [road_ascii, hd]
  refine wpAny_bind (wpAny_bind (wpAny_pure ?_))
  exact wpAny_mkStr (wpAny_pure ⟨_, rfl, h⟩) hsz
theorem entry_asc : «bytes.decode» ⟨[.bytes (c :: cs).toArray t, .str (PySem.Str.ofString "ascii") u], []⟩ = (mkStr (PySem.Str.ofString "utf-8") >>= fun _ => mkStr (PySem.Str.ofString "ascii") >>= fun e => mkStr (PySem.Str.ofString "bytes.decode") >>= fun d =>
    call (.builtin "_codecs.decode.text") [.bytes (c :: cs).toArray t, e, .none, d] >>= fun v => ret v) := by kernel_rfl
theorem meets_decode2 (hd : ∀ id, _codecs.runDecoder id _codecs.asciiDecoder none true (c :: cs).toArray 0 [] = pure (x.cps, n)) :
    Meets («bytes.decode» ⟨[.bytes (c :: cs).toArray t, .str (PySem.Str.ofString "ascii") u], []⟩) (fun _ R s => x.length ≤ sizeLine ∧ ∀ t' k, R (.ok (.ret (.str x t'))) { s with toks := k }) := by
  refine .of_wp fun prog w A R s hS => ?_
  obtain ⟨hsz, h⟩ := hS
  rw [entry_asc]
  refine wpAny_bind (wpAny_mkStr ?_ (by decide))
  refine wpAny_bind (wpAny_mkStr ?_ (by decide))
  refine wpAny_bind (wpAny_mkStr ?_ (by decide))
  exact wpAny_bind (call_function_meets KBd.kind_text KBd.plain_text KBd.entry_text (KBd.args_text _ _ _ _) (meets_asc hd) ⟨hsz, wpAny_pure ⟨_, rfl, h _ _⟩⟩)
theorem entry_nil : «bytes.decode» ⟨[.bytes #[] t, .str (PySem.Str.ofString "ascii") u], []⟩ = (rule "bytes.decode.empty" >>= fun _ => retStr Str.empty) := by kernel_rfl
theorem meets_nil : Meets («bytes.decode» ⟨[.bytes #[] t, .str (PySem.Str.ofString "ascii") u], []⟩) (fun _ R s => ∀ t' k, R (.ok (.ret (.str PySem.Str.empty t'))) { s with toks := k }) := by
  refine .of_wp fun prog w A R s h => ?_
  rw [entry_nil]
  refine wpAny_bind (wpAny_rule ?_)
  exact wpAny_bind (wpAny_mkStr (wpAny_pure ⟨_, rfl, h _ _⟩) (by decide))
end
section
variable {prog : Program} {w : World} {A : Around} {E : Value → Shared → Prop} {s : Shared} {c : UInt8} {cs : List UInt8} {t u : Tok} {x : PySem.Str} {n : Nat}
theorem decode2 {Q : Value → Shared → Prop} (hd : ∀ id, _codecs.runDecoder id _codecs.asciiDecoder none true (c :: cs).toArray 0 [] = pure (x.cps, n)) (hsz : x.length ≤ 16777216) (h : ∀ t' k, Q (.str x t') { s with toks := k }) :
    wpAny (model prog w) A (call (.builtin "bytes.decode") [.bytes (c :: cs).toArray t, .str (PySem.Str.ofString "ascii") u]) Q E s :=
  call_meets FB.slot_bytes_decode (typeIs_bytes _ _ _) FB.entry_bytes_decode (args_decode_2 _ _) (meets_decode2 hd) ⟨by rw [sizeLine_eq]; exact hsz, h⟩
theorem decode0 {Q : Value → Shared → Prop} (h : ∀ t' k, Q (.str PySem.Str.empty t') { s with toks := k }) :
    wpAny (model prog w) A (call (.builtin "bytes.decode") [.bytes #[] t, .str (PySem.Str.ofString "ascii") u]) Q E s :=
  call_meets FB.slot_bytes_decode (typeIs_bytes _ _ _) FB.entry_bytes_decode (args_decode_2 _ _) meets_nil h
end
end Mine
end
section
namespace Mine
def lets (n : Nat) : List Nat := if n = 0 then [] else if n < 16 then [65 + n] else [65 + n / 16, 65 + n % 16]
def vl (l : List Nat) : Nat := l.foldl (fun a c => 16 * a + (c - 65)) 0
theorem vl_snoc (l : List Nat) (c : Nat) : vl (l ++ [c]) = 16 * vl l + (c - 65) := by
  unfold vl; rw [List.foldl_append]; rfl
theorem vl_lets {n : Nat} : vl (lets n) = n := by
  unfold lets
  by_cases h : n = 0
  · rw [if_pos h, h]; rfl
  · rw [if_neg h]
    by_cases h2 : n < 16
    · rw [if_pos h2]; show 16 * 0 + (65 + n - 65) = n; omega
    · rw [if_neg h2]; show 16 * (16 * 0 + (65 + n / 16 - 65)) + (65 + n % 16 - 65) = n; omega
theorem lets_in {n z : Nat} (hn : n < 256) (h : z ∈ lets n) : 65 ≤ z ∧ z < 81 := by
  unfold lets at h
  by_cases h0 : n = 0
  · rw [if_pos h0] at h; exact nomatch h
  · rw [if_neg h0] at h
    by_cases h2 : n < 16
    · rw [if_pos h2] at h; simp at h; omega
    · rw [if_neg h2] at h; simp at h; omega
theorem back_step {b v : Int} {e k : Nat} (hv : v = b ^ e % 257) : Int.fmod (v ^ (16 : Int).toNat % 257 * (b ^ ((k : Nat) : Int).toNat % 257)) 257 = b ^ (16 * e + k) % 257 := by
  rw [Int.fmod_eq_emod_of_nonneg _ (by decide), ← Int.mul_emod, hv, Int.toNat_natCast]
  show (b ^ e % 257) ^ 16 * b ^ k % 257 = _
  rw [Int.mul_emod, pmod, ← Int.mul_emod, ← pow_mulI, ← Int.pow_add, Nat.mul_comm]
theorem take_snoc {l : List Nat} {i z : Nat} (h : l[i]? = some z) : l.take (i + 1) = l.take i ++ [z] := by
  rw [List.take_add_one, h]; rfl
theorem back_end {b : Int} (h : b ^ 128 % 257 = 256) {w : Nat} {v : Int} {l : List Nat} {m : Nat} (hl : l = lets (w % 256)) (hm : l.length ≤ m) (hv : v = b ^ vl (l.take m) % 257) : (v == b ^ w % 257) = true := by
  rw [List.take_of_length_le hm, hl, vl_lets, ← pow_256 h] at hv
  rw [hv]; simp
end Mine
end
section
open PySem PySem.W PySem.Calls PySem.Spec PyProof.Rows
set_option Elab.async false
set_option maxRecDepth 100000
namespace Mine
theorem idx_occ : ∀ k : Nat, k < 16 → Builtin.Str.occurrences (Str.ofString "ABCDEFGHIJKLMNOP") ⟨#[65 + k]⟩ 0 (Str.ofString "ABCDEFGHIJKLMNOP").length 1 = [k]
  | 0, _ | 1, _ | 2, _ | 3, _ | 4, _ | 5, _ | 6, _ | 7, _ | 8, _ | 9, _ | 10, _ | 11, _ | 12, _ | 13, _ | 14, _ | 15, _ => by kernel_rfl
  | n + 16, h => absurd h (by omega)
section
variable {prog : Program} {w : World} {A : Around} {E : Value → Shared → Prop} {s : Shared} {t u : Tok} {Q : Value → Shared → Prop}
theorem index_at {z : Nat} (h1 : 65 ≤ z) (h2 : z < 81) (h : Q (.int ((z - 65 : Nat) : Int) s.toks) { s with toks := s.toks + 1 }) :
    wpAny (model prog w) A (call (.builtin "str.index") [.str (Str.ofString "ABCDEFGHIJKLMNOP") t, .str ⟨#[z]⟩ u]) Q E s := by
  have e := idx_occ (z - 65) (by omega)
  rw [show 65 + (z - 65) = z by omega] at e
  exact SC.index e h
theorem decode_at {n : Nat} {z : Array UInt8} (hn : n < 256) (hz : WordOf (n : Int) z) (h : ∀ (x : Str) t' k, x.cps.toList = lets n → Q (.str x t') { s with toks := k }) :
    wpAny (model prog w) A (call (.builtin "bytes.decode") [.bytes z t, .str (PySem.Str.ofString "ascii") u]) Q E s := by
  rcases hz with ⟨h0, rfl⟩ | ⟨h0, h1, rfl⟩ | ⟨h0, rfl⟩
  · refine decode0 fun t' k => h _ t' k ?_
    have : n = 0 := by omega
    rw [this]; rfl
  · have e : ((n : Int) % 16).toNat = n := by omega
    rw [e]
    refine decode2 (x := ⟨#[65 + n]⟩) (fun id => ascii1 n (by omega)) (Nat.le_of_ble_eq_true rfl) fun t' k => h _ t' k ?_
    unfold lets
    rw [if_neg (by omega), if_pos (by omega)]
  · have e : ((n : Int) % 16).toNat = n % 16 := by omega
    have e2 : ((n : Int) / 16).toNat = n / 16 := by omega
    rw [e, e2]
    refine decode2 (x := ⟨#[65 + n / 16, 65 + n % 16]⟩) (fun id => ascii2 (n / 16) (n % 16) (by omega) (by omega)) (Nat.le_of_ble_eq_true rfl) fun t' k => h _ t' k ?_
    unfold lets
    rw [if_neg (by omega), if_neg (by omega)]
end
end Mine
end
section
open PySem PySem.W PySem.Calls PySem.Spec PyProof.Rows
set_option Elab.async false
namespace Mine
local macro_rules | `(tactic| ktr_unf) => `(tactic| (repeat' (first | (k_unfold; (try dsimp only)) | ((fail_if_success (with_reducible show wpAny _ _ (exec (Stmt.While _ _ _ _) _) _ _ _)); (fail_if_success (with_reducible show wpAny _ _ (pyIter _) _ _ _)); (fail_if_success (with_reducible show wpAny _ _ (subscriptTail _ _ (Value.str _ _) _) _ _ _)); (fail_if_success (with_reducible show wpAny _ _ (PySem.call (Value.ref _) _) _ _ _)); (fail_if_success (with_reducible show ite _ _ _)); (fail_if_success (with_reducible show wpAny _ _ (PySem.call (Value.builtin "str.index") _) _ _ _)); (fail_if_success (with_reducible show wpAny _ _ (truthy (Value.bool (!_))) _ _ _)); (fail_if_success (with_reducible show wpAny _ _ (subscriptTail (Expr.List _ _) _ _ _) _ _ _)); (fail_if_success (with_reducible show wpAny _ _ (PySem.isTrue (Expr.BoolOp _ _ _) _ _) _ _ _)); walk1) | (dsimp only; (fail_if_success (with_reducible show wpAny _ _ (pyIter _) _ _ _)); (fail_if_success (with_reducible show wpAny _ _ (PySem.call (Value.ref _) _) _ _ _)); (fail_if_success (with_reducible show ite _ _ _)); (fail_if_success (with_reducible show wpAny _ _ (PySem.call (Value.builtin "str.index") _) _ _ _)); (fail_if_success (with_reducible show wpAny _ _ (truthy (Value.bool (!_))) _ _ _)); (fail_if_success (with_reducible show wpAny _ _ (subscriptTail (Expr.List _ _) _ _ _) _ _ _)); (fail_if_success (with_reducible show wpAny _ _ (PySem.isTrue (Expr.BoolOp _ _ _) _ _) _ _ _)); walk1))))
local macro_rules | `(tactic| ktn_open) => `(tactic| (repeat' (first | (k_unfold; (try dsimp only)) | ((fail_if_success (with_reducible show wpAny _ _ (exec (Stmt.While _ _ _ _) _) _ _ _)); (fail_if_success (with_reducible show wpAny _ _ (pyIter _) _ _ _)); (fail_if_success (with_reducible show wpAny _ _ (subscriptTail _ _ (Value.str _ _) _) _ _ _)); (fail_if_success (with_reducible show wpAny _ _ (PySem.call (Value.ref _) _) _ _ _)); (fail_if_success (with_reducible show ite _ _ _)); (fail_if_success (with_reducible show wpAny _ _ (eval (Expr.IfExp _ _ _ _) _) _ _ _)); (fail_if_success (with_reducible show wpAny _ _ (truthy (Value.bool (!_))) _ _ _)); (fail_if_success (with_reducible show wpAny _ _ (subscriptTail (Expr.List _ _) _ _ _) _ _ _)); walk1) | (dsimp only; (fail_if_success (with_reducible show wpAny _ _ (pyIter _) _ _ _)); (fail_if_success (with_reducible show wpAny _ _ (PySem.call (Value.ref _) _) _ _ _)); (fail_if_success (with_reducible show ite _ _ _)); (fail_if_success (with_reducible show wpAny _ _ (eval (Expr.IfExp _ _ _ _) _) _ _ _)); (fail_if_success (with_reducible show wpAny _ _ (truthy (Value.bool (!_))) _ _ _)); (fail_if_success (with_reducible show wpAny _ _ (subscriptTail (Expr.List _ _) _ _ _) _ _ _)); walk1))))
set_option maxRecDepth 100000 in
set_option maxHeartbeats 40000000 in
theorem whole : PySem.Challenge.rw_wa0007_01.Holds := hd (by
  k_fill
  intro w s₀ s₁ mg mb G Y fa o pm cd doc dV kV ho hd hcd hD hmg hg args vals as hpre hlay hrd hwl hlo
  have KX := kIn_of Y
  have X := (Ground.X G).1
  have V := (Ground.X G).2
  refine Ground.open G ?_
  intro T B D TE TW
  try (refine guard_noD D (by decide +kernel) ?_; clear D)
  obtain ⟨_, _, M⟩ := bmod_of_top T
  have TA := at_of_top T
  try (obtain ⟨_, _, he, B0⟩ := based_of_top T rfl hmg ho hd; have he' : cd = _ := he; subst he'; clear he)
  clear hmg
  wrow_args hpre hlay hrd hwl hlo
  all_goals (
    first | refine callC_kw (enter_call ?_) | refine enter_call ?_ | refine callC_kw (enter_callW ?_) | refine enter_callW ?_ | w_how
    w_top on
    have K0 : Below callerA s₁.heap [] s₁.heap := below_caller (Top.heap T)
    w_call any ho hd hcd hD T F
    clear hd TA
    k_drop
    skip)
  rename_i ns hs9 hy9 hl9 hr9 hz9 q1 q2 lS vs q3 hL9 ra9 wl9 rd9 hI9 hr8 hn9 hc9 h1 N0
  clear hs9 hy9 hl9 hr9 hz9 ra9 wl9 rd9 hr8 hc9 q1 q2 q3 hcd hD
  (try dsimp only)
  try k_fold
  ktr_unf
  rename_i lR z3 z4 z5 z6 z7 z8 F9 N9 z9 z10 z11 z12 z13 z14 z15 z16 z17 z18
  refine' range_B (σ := (Str × Tok) × (Int × Tok) × (Int × Tok)) (n := 9) (fun c => [(Str.ofString "script", .ref lS), (Str.ofString "row", .ref lR), (Str.ofString "text", .str c.1.1 c.1.2), (Str.ofString "depth", .int c.2.1.1 c.2.1.2), (Str.ofString "plain", .int c.2.2.1 c.2.2.2)]) (fun i c => Pieces i c.1.1.cps.toList c.2.1.1 c.2.2.1) ((_, _), (0, _), (0, _)) rfl (by assumption) (by decide) (by decide) (by assumption) (by assumption) ?hps ?hP ?turn ?done
  case hps => kst_all
  case hP => exact pieces_0
  case turn =>
    rintro i ti ⟨⟨txt, tt⟩, ⟨dep, td⟩, ⟨pl, tp⟩⟩ rest h tk own hi hP F1 N1
    dsimp only at hP F1 N1 ⊢
    ktr_unf
    have hlen : txt.cps.size ≤ 18 := pieces_len hP hi
    obtain ⟨hdep0, hdep3⟩ := pieces_dep hP
    with_reducible rename Fr _ _ _ _ => F8
    generalize ([162, 4, 15, 8, 310, 10, 5, 19, 9].getD (0 + (i : Int)).toNat 0 + (List.take (min (0 + (i : Int) + 1).toNat ns.length - (0 + (i : Int)).toNat) (List.drop (0 + (i : Int)).toNat ns)).sum).fmod (10 ^ Int.toNat 6) = v9 at F8 ⊢
    refine cut_tk (fun b => b = true → dep < 3) ?_ ?_
    · ktn_open
      refine ite_b (fun hc1 => ?_) (fun hc1 => ?_)
      · ktn_open
        refine ite_b (fun hc2 => ?_) (fun hc2 => ?_)
        · ktn_open
          all_goals first | exact of_decide_eq_true hc2 | contradiction
        · ktn_open
          all_goals first | exact of_decide_eq_true hc2 | contradiction
      · ktn_open
        all_goals contradiction
    · intro b tk5 hb
      refine ite_b (fun hc1 => ?_) (fun hc1 => ?_)
      · ktr_unf
        refine iadd_str ?_ (by show txt.cps.size + 1 ≤ 16777216; omega)
        intro t8 k8
        ktr_unf
        refine' fturn_next ((_, _), (_, _), (_, _)) (by assumption) (by assumption) (fun p q => by first | exact q | exact List.mem_cons_of_mem _ q | exact List.mem_cons_of_mem _ (List.mem_cons_of_mem _ q)) ?ps1 ?hP1
        case ps1 => kst_all
        case hP1 => exact cat_pieces (by decide) (pieces_open hP (hb hc1))
      · ktr_unf
        refine cut_tk (fun b => b = true → 0 < dep) ?_ ?_
        · ktn_open
          refine ite_b (fun hc3 => ?_) (fun hc3 => ?_)
          · ktn_open
            refine ite_b (fun hc2 => ?_) (fun hc2 => ?_)
            · ktn_open
              all_goals first | exact of_decide_eq_true hc2 | contradiction
            · ktn_open
              all_goals first | exact of_decide_eq_true hc2 | contradiction
          · ktn_open
            all_goals contradiction
        · intro b6 tk6 hb6
          refine ite_b (fun hc3 => ?_) (fun hc3 => ?_)
          · ktr_unf
            refine iadd_str ?_ (by show txt.cps.size + 1 ≤ 16777216; omega)
            intro t8 k8
            ktr_unf
            refine' fturn_next ((_, _), (_, _), (_, _)) (by assumption) (by assumption) (fun p q => by first | exact q | exact List.mem_cons_of_mem _ q | exact List.mem_cons_of_mem _ (List.mem_cons_of_mem _ q)) ?ps2 ?hP2
            case ps2 => kst_all
            case hP2 => exact cat_pieces (by decide) (pieces_shut hP (hb6 hc3))
          · ktr_unf
            with_reducible rename News _ _ _ _ => N7
            refine sign_at N7 (fm_lo (by decide)) (fm_hi (by decide)) (fm_lo (by decide)) (fm_hi (by decide)) ?_ ?_
            · intro c t7 hc7 hc8
              ktr_unf
              rw [occ_letter hc7]
              ktr_unf
              refine ite_f ?_
              ktr_unf
              refine' fturn_next ((_, _), (_, _), (_, _)) (by assumption) (by assumption) (fun p q => by first | exact q | exact List.mem_cons_of_mem _ q | exact List.mem_cons_of_mem _ (List.mem_cons_of_mem _ q)) ?ps3 ?hP3
              case ps3 => kst_all
              case hP3 => exact pieces_letter hP hc7 hc8 rfl
            · intro c t7 hc7
              ktr_unf
              rw [occ_paren hc7]
              ktr_unf
              refine ite_t ?_
              ktr_unf
              refine iadd_str ?_ (by exact paren_len hlen)
              intro t8 k8
              ktr_unf
              refine' fturn_next ((_, _), (_, _), (_, _)) (by assumption) (by assumption) (fun p q => by first | exact q | exact List.mem_cons_of_mem _ q | exact List.mem_cons_of_mem _ (List.mem_cons_of_mem _ q)) ?ps4 ?hP4
              case ps4 => kst_all
              case hP4 => exact pieces_paren hP hc7 rfl
  case done =>
    rintro ⟨⟨txt, tt⟩, ⟨dep, td⟩, ⟨pl, tp⟩⟩ rest h tk hP F1 N1
    dsimp only at hP F1 N1 ⊢
    obtain ⟨bx, hgood, hcodes, hwt, hblen⟩ := pieces_end hP
    obtain ⟨hdep0, hdep3⟩ := pieces_dep hP
    have hlen : txt.cps.size ≤ 18 := pieces_len9 hP
    ktr_unf
    refine iadd_str ?_ (by exact shut_len hdep0 hdep3 hlen)
    intro t8 k8
    have hT2 := shut_codes hdep0 hdep3 hcodes
    generalize txt ++ Txt.mul (Str.ofString ")") dep = T2 at hT2 ⊢
    ktr_unf
    have hAB : AllBare s₁.gens := hg ▸ AllBare.empty
    with_reducible rename Fr _ _ _ _ => F8
    have hnum1 : 1 ≤ Int.fmod (ns.sum + 5) 256 + 1 := by have := fm_lo (a := ns.sum + 5) (n := 256) (by decide); omega
    have hnum2 : Int.fmod (ns.sum + 5) 256 + 1 ≤ 256 := by have := fm_hi (a := ns.sum + 5) (n := 256) (by decide); omega
    generalize Int.fmod (ns.sum + 5) 256 + 1 = num at F8 hnum1 hnum2 ⊢
    refine' while_D (σ := Tok × (Int × Tok) × (Int × Tok)) (· = s₁.gens) s₁ (fun c => [(Str.ofString "text", .str T2 t8), (Str.ofString "plain", .int pl tp), (Str.ofString "number", .int num c.1), (Str.ofString "order", .int c.2.1.1 c.2.1.2), (Str.ofString "power", .int c.2.2.1 c.2.2.2)]) (fun _ => [])
      (fun c => Ord num c.2.1.1 c.2.2.1) (fun c => Ord num c.2.1.1 1) (fun c => (257 - c.2.1.1).toNat) ?hE ?wturn ?wdone (_, (1, _), (num, _)) _ ⟨_, _, _, _, rfl, ord_0 hnum1 hnum2, rfl, frB F8 ?h2, fun _ q => nomatch q⟩
    case hE => first | passes_own | with_unfolding_all passes_own
    case h2 => kst_all
    case wturn =>
      rintro ⟨tn, ⟨od, to⟩, ⟨pp, tq⟩⟩ h tk gs rest hO hG F1 N1
      dsimp only at hO F1 N1 ⊢
      ktr_unf
      have hp0 : 0 ≤ pp ∧ pp < 257 := by
        have e := hO.2.2.1
        omega
      obtain ⟨hp0, hp1⟩ := hp0
      refine whl_neK (fun hy => ?_) (fun hy => ?_)
      · ktr_unf
        refine' turn_next (tn, (_, _), (_, _)) (by assumption) (by assumption) (fun _ q => q) hG ?ps5 ?hP5 ?hm5
        case ps5 => kst_all
        case hP5 => exact ord_step hnum1 hnum2 hO hy
        case hm5 => exact ord_dec hnum1 hnum2 hO hy
      · refine' doneAt_mk (tn, (od, to), (1, tq)) (by assumption) (by assumption) (fun _ q => q) hG ?ps6 ?hD6
        case ps6 => (subst hy; kst_all)
        case hD6 => (subst hy; exact hO)
    case wdone =>
      rintro ⟨tn, ⟨od, to⟩, ⟨pp, tq⟩⟩ h tk gs rest hO hG F1 N1
      dsimp only at hO F1 N1 ⊢
      subst hG
      ktr_unf
      refine specP_use (power_spec w num 128 tn _ (by omega) (by omega) (by decide) (by decide)) K0 (by k_asm) (by k_asm) (by k_asm) (by k_asm) rfl (by decide) (by decide) ?_
      rintro _ h1 tk1 ⟨t1, rfl⟩ F2 N2
      (try dsimp only)
      (try k_fold)
      ktr_unf
      refine specP_use (nont_spec w _ _) K0 (by k_asm) (by k_asm) (by k_asm) (by k_asm) rfl (by decide) (by decide) ?_
      rintro _ h2 tk2 rfl F3 N3
      (try dsimp only)
      (try k_fold)
      ktr_unf
      refine ite_neb (ord_end hnum1 hnum2 hO) ?_
      ktn_open
      refine cut_tk IsBase ?_ ?_
      · ktr_unf
        refine ite_b (fun hr => ?_) (fun hr => ?_)
        · ktr_unf
          exact ⟨num, tn, rfl, by omega, by omega, base_root hnum1 hnum2 hr⟩
        · ktr_unf
          exact ⟨_, _, rfl, fmod_range.1, fmod_range.2, base_three hnum1 hnum2 hr⟩
      · rintro _ tk3 ⟨base, tb, rfl, hb0, hb1, hb128⟩
        ktr_unf
        have hht := Bx.height_le bx
        refine spec_use (val_spec w (bx.size + 1) bx (Nat.lt_succ_self _) T2 base _ _ hT2 hgood hb0 hb1 (by omega)) K0 (by k_asm) (by k_asm) (by k_asm) (by k_asm) rfl (by ktr_room) (by ktr_units) hAB ?_
        rintro _ h4 tk4 gs4 ⟨t4, rfl⟩ F4 N4 hAB4
        (try dsimp only)
        (try k_fold)
        ktr_unf
        refine specP_use (exp_spec w base _ bx.wt _ _ hb0 hb1 hb128 rfl) K0 (by k_asm) (by k_asm) (by k_asm) (by k_asm) rfl (by decide) (by decide) ?_
        rintro _ h5 tk5 ⟨t5, rfl⟩ F5 N5
        (try dsimp only)
        (try k_fold)
        ktr_unf
        ktn_open
        refine ite_nei (plain_eq hwt) ?_
        ktn_open
        refine specP_use (eof_spec w _ _) K0 (by k_asm) (by k_asm) (by k_asm) (by k_asm) rfl (by decide) (by decide) ?_
        rintro _ h6 tk6 rfl F6 N6
        (try dsimp only)
        (try k_fold)
        ktn_open
        refine ite_neb (zero_iff hb128 bx.wt) ?_
        ktn_open
        (try (refine ite_f ?_; ktn_open))
        refine specP_use (word_spec w _ _ (by omega) (by omega)) K0 (by k_asm) (by k_asm) (by k_asm) (by k_asm) rfl (by decide) (by decide) ?_
        rintro _ h7 tk7 ⟨z7, t7, rfl, hz7⟩ F7 N7
        (try dsimp only)
        (try k_fold)
        ktr_unf
        refine decode_at (by omega) hz7 ?_
        intro wd t8 k8 hwd
        ktr_unf
        refine' str_B (σ := Int × Tok) (fun c => [(Str.ofString "base", .int base tb), (Str.ofString "value", .int (base ^ bx.wt % 257) t4), (Str.ofString "back", .int c.1 c.2)]) (fun i c => c.1 = base ^ vl (wd.cps.toList.take i) % 257) (1, _) rfl (by assumption) (by assumption) ?hps9 ?hP9 ?turn9 ?done9
        case hps9 => kst_all
        case hP9 => (show (1 : Int) = base ^ 0 % 257; rw [Int.pow_zero]; rfl)
        case turn9 =>
          rintro i z u ⟨bk, tbk⟩ rest9 h9 tk9 own9 hz9 hP9 F9 N9
          dsimp only at hP9 F9 N9 ⊢
          have hz8 : wd.cps.toList[i]? = some z := by rw [Array.getElem?_toList]; exact hz9
          obtain ⟨hz1, hz2⟩ := lets_in (n := bx.wt % 256) (z := z) (by omega) (hwd ▸ List.mem_of_getElem? hz8)
          ktr_unf
          refine specP_use (power_spec w bk 16 _ _ (by omega) (by omega) (by decide) (by decide)) K0 (by k_asm) (by k_asm) (by k_asm) (by k_asm) rfl (by decide) (by decide) ?_
          rintro _ h10 tk10 ⟨t10, rfl⟩ F10 N10
          (try dsimp only)
          (try k_fold)
          ktr_unf
          refine index_at hz1 hz2 ?_
          ktr_unf
          refine specP_use (power_spec w base _ _ _ hb0 (by omega) (by omega) (by omega)) K0 (by k_asm) (by k_asm) (by k_asm) (by k_asm) rfl (by decide) (by decide) ?_
          rintro _ h11 tk11 ⟨t11, rfl⟩ F11 N11
          (try dsimp only)
          (try k_fold)
          ktr_unf
          refine' fturn_next (_, _) (by assumption) (by assumption) (fun _ q => q) ?ps8 ?hP8
          case ps8 => kst_all
          case hP8 => (show _ = base ^ vl (wd.cps.toList.take (i + 1)) % 257; rw [take_snoc hz8, vl_snoc]; exact back_step hP9)
        case done9 =>
          rintro ⟨bk, tbk⟩ rest9 h9 tk9 hP9 F9 N9
          dsimp only at hP9 F9 N9 ⊢
          have hm := back_end hb128 hwd (m := wd.cps.size) (by rw [Array.length_toList]; exact Nat.le_refl _) hP9
          ktr_unf
          rw [hm]
          (try dsimp only)
          refine ⟨.inl ⟨_, _, [], rfl, fun _ => rfl, ReadsW.bool true, ?_, fun _ => ⟨List.nodup_nil, fun _ hm => nomatch hm⟩⟩, .of_keep (Fr.keep F9), rfl, hAB4⟩
          first | rfl | wrow_post)
end Mine
end
open PySem PySem.W PyProof.Rows
theorem PySem.Challenge.cw_wa0007_01_holds : PySem.Challenge.rw_wa0007_01.Holds := by
  exact Mine.whole
