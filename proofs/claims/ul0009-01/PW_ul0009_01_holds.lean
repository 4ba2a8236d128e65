import PyProof.Rows.All
import Wide.All
import OpenK.AllK
import Wide.FinOn
import KE.BitLaws
import Lean
import PySem.Challenge.RW_ul0009_01
set_option Elab.async false
set_option maxHeartbeats 4000000
set_option compiler.extract_closed false
namespace Mine
-- HD
open PySem PySem.W PyProof.Rows
section
set_option hygiene true
local macro_rules | `(tactic| o_head (kmHook $_ $_ $_ $_)) => `(tactic| assumption)
/-- the written part, laid apart from the head: Mine.K0.heap_1 -/
theorem K0 (H : PySem.Challenge.rw_ul0009_01.row.Holds) : PySem.Challenge.rw_ul0009_01.row.Holds := by
  km_head
end
-- Hole
noncomputable def Hole (P : Prop) : Prop := P
theorem hole {P : Prop} (h : Hole P) : P := h
-- Base
open PySem.Spec PySem.Calls
/-- so that the written part is known to the walk in this file -/
theorem fill : (fun (x : PySem.W.OpenLaw) (P : Params) (K : Params → Frag) => x = PySem.Challenge.rw_ul0009_01 ∧ K P = Mine.K0.heap_1 P) = (fun (x : PySem.W.OpenLaw) (P : Params) (K : Params → Frag) => x = PySem.Challenge.rw_ul0009_01 ∧ K P = Mine.K0.heap_1 P) := by k_fill; rfl

noncomputable abbrev Led := List (Addr × Obj)
noncomputable abbrev lst (vs : List Value) (n : Nat) : Obj := PySem.W.listOf vs.toArray n

/-- a call of a def of the text: what it hands back, and the ledger behind it -/
noncomputable def Does (prog : Program) (w : World) (base : Heap) (f : Addr) (args : List Value) (d : Nat) (news : Led) (Ret : Value → Led → Prop) : Prop :=
  ∀ (p : Program) (loose : List Str) (mean : ExcName → Option Value) (mg mb : Str → Option Value) (dp un : Nat) (gd : Option (List Code)) (cn : Str) (cs : Scope) (a : Addr) (ccd : Value) (cl : List (Str × Addr)) (outer : List Env) (A₀ : Around) (h₀ : Heap) (L : Addr) (m : Str → Option Value) (s : Shared)
    (Q E : Value → Shared → Prop),
    Below A₀ base outer h₀ → Fr h₀ L s.heap m → Frag.In (Mine.K0.heap_1 w.params) h₀ → News h₀ L s.heap news → Top p loose mean mg mb h₀ → cs.kind = .function → dp + d < recursionLimit → un + 8 * d < cLine →
    (∀ r news' h' tk', Ret r news' → Fr h₀ L h' m → News h₀ L h' news' → Q r { s with heap := h', toks := tk' }) →
    wpAny (model prog w) (ktrTop dp un gd cn cs L a ccd cl outer) (call (.ref f) args) Q E s

theorem Does.use {prog : Program} {w : World} {base : Heap} {f : Addr} {args : List Value} {d : Nat} {news : Led} {Ret : Value → Led → Prop} (D : Does prog w base f args d news Ret)
    {p : Program} {loose : List Str} {mean : ExcName → Option Value} {mg mb : Str → Option Value} {dp un : Nat} {gd : Option (List Code)} {cn : Str} {cs : Scope} {a : Addr} {ccd : Value} {cl : List (Str × Addr)} {outer : List Env} {A₀ : Around} {h₀ : Heap} {L : Addr} {m : Str → Option Value} {s : Shared}
    {Q E : Value → Shared → Prop}
    (B : Below A₀ base outer h₀) (F : Fr h₀ L s.heap m) (X : Frag.In (Mine.K0.heap_1 w.params) h₀) (N : News h₀ L s.heap news) (T : Top p loose mean mg mb h₀) (hk : cs.kind = .function) (hd : dp + d < recursionLimit) (hu : un + 8 * d < cLine)
    (ret : ∀ r news' h' tk', Ret r news' → Fr h₀ L h' m → News h₀ L h' news' → Q r { s with heap := h', toks := tk' }) :
    wpAny (model prog w) (ktrTop dp un gd cn cs L a ccd cl outer) (call (.ref f) args) Q E s := D _ _ _ _ _ _ _ _ _ _ _ _ _ _ _ _ _ _ _ _ _ B F X N T hk hd hu ret

/-- what a call of a def of the text stands on -/
structure Use (w : World) (base : Heap) (p : Program) (loose : List Str) (mean : ExcName → Option Value) (mg mb : Str → Option Value) (cs : Scope) (outer : List Env) (A₀ : Around) (h₀ : Heap) (L : Addr) (m : Str → Option Value) (h : Heap) (news : Led) : Prop where
  B : Below A₀ base outer h₀
  F : Fr h₀ L h m
  X : Frag.In (Mine.K0.heap_1 w.params) h₀
  N : News h₀ L h news
  T : Top p loose mean mg mb h₀
  hk : cs.kind = .function
section
variable {prog : Program} {w : World} {base : Heap} {f : Addr} {args : List Value} {d : Nat} {news n9 : Led} {Ret : Value → Led → Prop} {x : Int} {v : Value}
variable {p : Program} {loose : List Str} {mean : ExcName → Option Value} {mg mb : Str → Option Value} {dp un : Nat} {gd : Option (List Code)} {cn : Str} {cs : Scope} {a : Addr} {ccd : Value} {cl : List (Str × Addr)} {outer : List Env} {A₀ : Around} {h₀ : Heap} {L : Addr} {m : Str → Option Value} {s : Shared} {Q E : Value → Shared → Prop}
theorem Does.u (U : Use w base p loose mean mg mb cs outer A₀ h₀ L m s.heap news) (D : Does prog w base f args d news Ret) (R : dp + d < recursionLimit ∧ un + 8 * d < cLine)
    (ret : ∀ r news' h' tk', Ret r news' → Fr h₀ L h' m → News h₀ L h' news' → Q r { s with heap := h', toks := tk' }) :
    wpAny (model prog w) (ktrTop dp un gd cn cs L a ccd cl outer) (call (.ref f) args) Q E s := D.use U.B U.F U.X U.N U.T U.hk R.1 R.2 ret
theorem Does.ui (U : Use w base p loose mean mg mb cs outer A₀ h₀ L m s.heap news) (D : Does prog w base f args d news (fun r n => n = n9 ∧ ∃ t, r = .int x t)) (R : dp + d < recursionLimit ∧ un + 8 * d < cLine)
    (ret : ∀ t h' tk', Fr h₀ L h' m → News h₀ L h' n9 → Q (.int x t) { s with heap := h', toks := tk' }) :
    wpAny (model prog w) (ktrTop dp un gd cn cs L a ccd cl outer) (call (.ref f) args) Q E s := D.u U R fun _ _ h' tk' o F N => by obtain ⟨e1, t, e2⟩ := o; subst e1 e2; exact ret t h' tk' F N
theorem Does.uv (U : Use w base p loose mean mg mb cs outer A₀ h₀ L m s.heap news) (D : Does prog w base f args d news (fun r n => n = n9 ∧ r = v)) (R : dp + d < recursionLimit ∧ un + 8 * d < cLine)
    (ret : ∀ h' tk', Fr h₀ L h' m → News h₀ L h' n9 → Q v { s with heap := h', toks := tk' }) :
    wpAny (model prog w) (ktrTop dp un gd cn cs L a ccd cl outer) (call (.ref f) args) Q E s := D.u U R fun _ _ h' tk' o F N => by obtain ⟨e1, e2⟩ := o; subst e1 e2; exact ret h' tk' F N
end

section
variable {prog : Program} {w : World} {A : Around} {E : Value → Shared → Prop} {s : Shared} {env : Env} {h₀ : Heap} {x : Str} {body : List Stmt} {Q : Flow → Shared → Prop}

/-- the end of a turn of a loop -/
noncomputable def TurnOk {σ : Type} (h₀ : Heap) (L : Addr) (x : Str) (ps : σ → List (Str × Value)) (led : σ → Led) (stored : List Str) (m₀ : Str → Option Value) (I : σ → Prop) (own : Led) (s₁ s₂ : Shared) : Prop :=
  ∃ c h' tk m' news', s₂ = { s₁ with heap := h', toks := tk } ∧ Fr h₀ L h' m' ∧ News h₀ L h' news' ∧ (∀ p ∈ led c, p ∈ news') ∧ (∀ p ∈ own, p ∈ news') ∧ OwnOff own ((led c).map (·.1)) ∧
    (∀ p ∈ ps c, m' p.1 = some p.2) ∧ (∀ z, z ≠ x → (∀ p ∈ ps c, z ≠ p.1) → stored.contains z = false → m' z = m₀ z) ∧ I c
noncomputable def TurnPost {σ : Type} (h₀ : Heap) (L : Addr) (x : Str) (ps : σ → List (Str × Value)) (led : σ → Led) (stored : List Str) (m₀ : Str → Option Value) (I : σ → Prop) (own : Led) (s₁ : Shared) (Q : Flow → Shared → Prop) (f : Flow) (s₂ : Shared) : Prop :=
  match f with
  | .ret v => Q (.ret v) s₂
  | .brk => Q .next s₂
  | _ => TurnOk h₀ L x ps led stored m₀ I own s₁ s₂
theorem TurnOk.intro {σ : Type} {L : Addr} {ps : σ → List (Str × Value)} {led : σ → Led} {stored : List Str} {m₀ : Str → Option Value} {I : σ → Prop} {own : Led} {s₁ : Shared} (c : σ) {h' : Heap} {tk : Nat} {m' : Str → Option Value} {news' : Led}
    (F : Fr h₀ L h' m') (N : News h₀ L h' news') (hn : ∀ p ∈ led c, p ∈ news') (ho : ∀ p ∈ own, p ∈ news') (hoff : OwnOff own ((led c).map (·.1))) (h1 : ∀ p ∈ ps c, m' p.1 = some p.2) (h2 : ∀ z, z ≠ x → (∀ p ∈ ps c, z ≠ p.1) → stored.contains z = false → m' z = m₀ z) (hI : I c) :
    TurnOk h₀ L x ps led stored m₀ I own s₁ { s₁ with heap := h', toks := tk } := ⟨c, h', tk, m', news', rfl, F, N, hn, ho, hoff, h1, h2, hI⟩

theorem for_list {σ : Type} {l : Addr} {vs : List Value} {nn : Nat} {m₀ : Str → Option Value} {news : Led} (ps : σ → List (Str × Value)) (led : σ → Led) (stored : List Str) (I : Nat → σ → Prop) (c₀ : σ)
    (hh : A.handled = none) (hl : ∀ c, (l, lst vs nn) ∈ led c) (F : Fr h₀ env.locals s.heap m₀) (N : News h₀ env.locals s.heap news) (hn : ∀ p ∈ led c₀, p ∈ news) (hps : ∀ p ∈ ps c₀, m₀ p.1 = some p.2) (hI : I 0 c₀)
    (turn : ∀ i v c (u : Str → Option Value) h tk own, vs[i]? = some v → OwnOff own ((led c).map (·.1)) → I i c → Fr h₀ env.locals h (fun y => if y = x then some v else kstB (fun z => if stored.contains z then u z else m₀ z) (ps c) y) → News h₀ env.locals h (led c ++ own) →
      wpAny (model prog w) A (execs body env) (TurnPost h₀ env.locals x ps led stored m₀ (I (i + 1)) own { s with heap := h, toks := tk } Q) E { s with heap := h, toks := tk })
    (done : ∀ c (u : Str → Option Value) h tk, I vs.length c → Fr h₀ env.locals h (fun y => if y = x then u y else kstB (fun z => if stored.contains z then u z else m₀ z) (ps c) y) → News h₀ env.locals h (led c) → Q .next { s with heap := h, toks := tk }) :
    wpAny (model prog w) A (pyIter (.ref l)) (fun it s₂ => LoopAtV prog w A h₀ env x body Q E it s₂) E s := by
  refine kdl_iter (news := led c₀) (fun i m nx => ∃ c, nx = led c ∧ (∀ p ∈ ps c, m p.1 = some p.2) ∧ (∀ z, z ≠ x → (∀ p ∈ ps c, z ≠ p.1) → stored.contains z = false → m z = m₀ z) ∧ I i c) hh (hl c₀) F (fun p hp => N p (hn p hp)) ⟨c₀, rfl, hps, fun _ _ _ _ => rfl, hI⟩ ?_ ?_
  · rintro i v m₁ nx h tk own hv hoff _ ⟨c, rfl, h1, h2, hi⟩ F₁ N₁
    refine wpAny_mono (turn i v c m₁ h tk own hv hoff hi (kst_fr h1 h2 F₁) N₁) (fun f s₂ p => ?_) fun _ _ x => x
    have up : TurnOk h₀ env.locals x ps led stored m₀ (I (i + 1)) own { s with heap := h, toks := tk } s₂ →
        InvEndG h₀ env.locals (fun m' nx => (l, lst vs nn) ∈ nx ∧ ∃ c, nx = led c ∧ (∀ p ∈ ps c, m' p.1 = some p.2) ∧ (∀ z, z ≠ x → (∀ p ∈ ps c, z ≠ p.1) → stored.contains z = false → m' z = m₀ z) ∧ I (i + 1) c) own { s with heap := h, toks := tk } s₂ := by
      rintro ⟨c', h', tk', m', news', e', F', N', hn', ho', ha, g1, g2, hI'⟩
      exact ⟨h', tk', m', news', led c', e', F', N', hn', ho', ha, hl c', c', rfl, g1, g2, hI'⟩
    cases f with
    | ret v => exact p
    | brk => exact p
    | next => exact up p
    | cont => exact up p
  · rintro m₁ nx h tk ⟨c, rfl, h1, h2, hi⟩ F₁ N₁
    exact done c m₁ h tk hi (kst_frOut h1 h2 F₁) N₁
end
/-- what stands behind, as one letter -/
theorem wpQ {M : Model} {A : Around} {α : Type} {c : Sem α} {Q : α → Shared → Prop} {E : Value → Shared → Prop} {s : Shared} (h : ∀ Q9, Q9 = Q → wpAny M A c Q9 E s) : wpAny M A c Q E s := h Q rfl
set_option hygiene false
local macro_rules | `(tactic| walk_at "TurnPost") => `(tactic| (dsimp only [TurnPost]))
-- PS
section
variable {prog : Program} {w : World} {A : Around} {E : Value → Shared → Prop} {s : Shared} {env : Env} {h₀ : Heap} {x : Str} {body : List Stmt} {Q : Flow → Shared → Prop}
/-- a place in the code at which the names ps, the ledger led and the fact I stand -/
noncomputable def CutP {σ : Type} (h₀ : Heap) (L : Addr) (ps : σ → List (Str × Value)) (led : σ → Led) (I : σ → Prop) (s₁ s₂ : Shared) : Prop :=
  ∃ c h' tk m' news', s₂ = { s₁ with heap := h', toks := tk } ∧ Fr h₀ L h' m' ∧ News h₀ L h' news' ∧ (∀ p ∈ led c, p ∈ news') ∧ (∀ p ∈ ps c, m' p.1 = some p.2) ∧ I c
theorem CutP.intro {σ : Type} {L : Addr} {ps : σ → List (Str × Value)} {led : σ → Led} {I : σ → Prop} {s₁ : Shared} (c : σ) {h' : Heap} {tk : Nat} {m' : Str → Option Value} {news' : Led}
    (F : Fr h₀ L h' m') (N : News h₀ L h' news') (hn : ∀ p ∈ led c, p ∈ news') (h1 : ∀ p ∈ ps c, m' p.1 = some p.2) (hI : I c) : CutP h₀ L ps led I s₁ { s₁ with heap := h', toks := tk } := ⟨c, h', tk, m', news', rfl, F, N, hn, h1, hI⟩
noncomputable def EndP {σ : Type} (h₀ : Heap) (L : Addr) (ps : σ → List (Str × Value)) (led : σ → Led) (I : σ → Prop) (own : Led) (s₁ s₂ : Shared) : Prop :=
  ∃ c h' tk m' news', s₂ = { s₁ with heap := h', toks := tk } ∧ Fr h₀ L h' m' ∧ News h₀ L h' news' ∧ (∀ p ∈ led c, p ∈ news') ∧ (∀ p ∈ own, p ∈ news') ∧ OwnOff own ((led c).map (·.1)) ∧ (∀ p ∈ ps c, m' p.1 = some p.2) ∧ I c
theorem EndP.intro {σ : Type} {L : Addr} {ps : σ → List (Str × Value)} {led : σ → Led} {I : σ → Prop} {own : Led} {s₁ : Shared} (c : σ) {h' : Heap} {tk : Nat} {m' : Str → Option Value} {news' : Led}
    (F : Fr h₀ L h' m') (N : News h₀ L h' news') (hn : ∀ p ∈ led c, p ∈ news') (ho : ∀ p ∈ own, p ∈ news') (hoff : OwnOff own ((led c).map (·.1))) (h1 : ∀ p ∈ ps c, m' p.1 = some p.2) (hI : I c) :
    EndP h₀ L ps led I own s₁ { s₁ with heap := h', toks := tk } := ⟨c, h', tk, m', news', rfl, F, N, hn, ho, hoff, h1, hI⟩
noncomputable def PostP {σ : Type} (h₀ : Heap) (L : Addr) (ps : σ → List (Str × Value)) (led : σ → Led) (D I : σ → Prop) (own : Led) (s₁ : Shared) (Q : Flow → Shared → Prop) (f : Flow) (s₂ : Shared) : Prop :=
  match f with
  | .ret v => Q (.ret v) s₂
  | .brk => CutP h₀ L ps led D s₁ s₂
  | _ => EndP h₀ L ps led I own s₁ s₂
theorem kstB_own {ps : List (Str × Value)} {m : Str → Option Value} (h : ∀ p ∈ ps, m p.1 = some p.2) : kstB m ps = m := by
  funext y
  exact kstB_eq h fun _ => rfl
theorem CutP.on {σ : Type} {L : Addr} {ps : σ → List (Str × Value)} {led : σ → Led} {I : σ → Prop} {s₁ s₂ : Shared} {R : Prop} (h : CutP h₀ L ps led I s₁ s₂)
    (k : ∀ c (u : Str → Option Value) h tk, I c → Fr h₀ L h (kstB u (ps c)) → News h₀ L h (led c) → s₂ = { s₁ with heap := h, toks := tk } → R) : R := by
  obtain ⟨c, h', tk, m', news', rfl, F, N, hn, h1, hI⟩ := h
  exact k c m' h' tk hI (by rw [kstB_own h1]; exact F) (fun p hp => N p (hn p hp)) rfl
theorem PostP.up {σ : Type} {L : Addr} {ps : σ → List (Str × Value)} {led : σ → Led} {D : σ → Prop} {I : σ → Prop} {own : Led} {s₁ s₂ : Shared} {f : Flow} {J : (Str → Option Value) → Led → Prop}
    (p : PostP h₀ L ps led D I own s₁ Q f s₂) (hJ : ∀ c m', (∀ p ∈ ps c, m' p.1 = some p.2) → I c → J m' (led c)) (done : ∀ c (u : Str → Option Value) h tk, D c → Fr h₀ L h (kstB u (ps c)) → News h₀ L h (led c) → Q .next { s₁ with heap := h, toks := tk }) :
    InvPostG h₀ L J own s₁ Q f s₂ := by
  have up : EndP h₀ L ps led I own s₁ s₂ → InvEndG h₀ L J own s₁ s₂ := by
    rintro ⟨c', h', tk', m', news', e', F', N', hn', ho', ha, g1, hI'⟩
    exact ⟨h', tk', m', news', led c', e', F', N', hn', ho', ha, hJ c' m' g1 hI'⟩
  cases f with
  | ret v => exact p
  | brk => exact CutP.on p fun c u h tk hI F N e => by rw [e]; exact done c u h tk hI F N
  | next => exact up p
  | cont => exact up p
theorem for_rangeP {σ : Type} {r : Addr} {a₀ b₀ : Int} {t₀ u₀ v₀ : Tok} {n : Nat} {m₀ : Str → Option Value} {news : Led} (ps : σ → List (Str × Value)) (led : σ → Led) (I : Nat → σ → Prop) (D : σ → Prop) (c₀ : σ)
    (hh : A.handled = none) (hr : IsRange s.heap r a₀ b₀ 1 t₀ u₀ v₀) (hsmall : Builtin.Range.small a₀ b₀ 1 = true) (hsz : Builtin.Range.rangeSize a₀ b₀ 1 = (n : Int)) (F : Fr h₀ env.locals s.heap m₀) (N : News h₀ env.locals s.heap news) (hn : ∀ p ∈ led c₀, p ∈ news) (hps : ∀ p ∈ ps c₀, m₀ p.1 = some p.2) (hI : I 0 c₀)
    (turn : ∀ i t c (u : Str → Option Value) h tk own, i < n → OwnOff own ((led c).map (·.1)) → I i c → Fr h₀ env.locals h (fun y => if y = x then some (.int (a₀ + i) t) else kstB u (ps c) y) → News h₀ env.locals h (led c ++ own) →
      wpAny (model prog w) A (execs body env) (PostP h₀ env.locals ps led D (I (i + 1)) own { s with heap := h, toks := tk } Q) E { s with heap := h, toks := tk })
    (fin : ∀ c, I n c → D c)
    (done : ∀ c (u : Str → Option Value) h tk, D c → Fr h₀ env.locals h (kstB u (ps c)) → News h₀ env.locals h (led c) → Q .next { s with heap := h, toks := tk }) :
    wpAny (model prog w) A (pyIter (.ref r)) (fun it s₂ => LoopAtV prog w A h₀ env x body Q E it s₂) E s := by
  refine wpAny_pyIter_range hr hsmall ?_
  have W : Walks prog w A s.heap.objs.size [s.heap.objs.size] [s.heap.objs.size] n (fun i v => i < n ∧ ∃ t, v = .int (a₀ + i * 1) t)
      (fun i h => IsRangeIter h s.heap.objs.size (a₀ + (i : Nat) * 1) ((n : Int) - (i : Nat)) 1) := (Walks.range hh _ a₀ 1 n).bound
  refine kdr_loop (fun i m nx => ∃ c, nx = led c ∧ (∀ p ∈ ps c, m p.1 = some p.2) ∧ I i c) W (fun _ h => h) (fun _ h => h) ?_ ?_ ?_ ?_ (by show IsRangeIter _ _ _ _ _; rw [hsz]; simpa using Heap.get?_push_size _ rfl) (F.push _) (fun p hp => ⟨Heap.get?_push_of_some _ (N p (hn p hp)).1, (N p (hn p hp)).2⟩) ⟨c₀, rfl, hps, hI⟩ ?_ ?_
  · intro i h hi b hb
    rw [List.mem_singleton.mp hb]
    exact ⟨_, hi⟩
  · intro hm
    exact absurd F.ns.lt ((List.mem_singleton.mp hm) ▸ Nat.lt_irrefl _)
  · intro b hb
    rw [List.mem_singleton.mp hb]
    exact next_is_new F
  · intro p hp hI
    exact absurd (Heap.lt_size (N p (hn p hp)).1) ((List.mem_singleton.mp hI) ▸ Nat.lt_irrefl _)
  · rintro i v m₁ nx h tk own hi ⟨_, t, rfl⟩ hoff ⟨c, rfl, h1, h2⟩ F₁ N₁
    have e1 : a₀ + (i : Int) * 1 = a₀ + (i : Int) := by omega
    rw [e1] at F₁
    refine wpAny_mono (turn i t c m₁ h tk own hi hoff h2 (by rw [kstB_own h1]; exact F₁) N₁) (fun f s₂ p => ?_) fun _ _ x => x
    exact PostP.up p (fun c' m' g hI' => ⟨c', rfl, g, hI'⟩) done
  · rintro m₁ nx h tk ⟨c, rfl, h1, h2⟩ F₁ N₁
    exact done c m₁ h tk (fin c h2) (by rw [kstB_own h1]; exact F₁) N₁
theorem for_listP {σ : Type} {l : Addr} {vs : List Value} {nn : Nat} {m₀ : Str → Option Value} {news : Led} (ps : σ → List (Str × Value)) (led : σ → Led) (I : Nat → σ → Prop) (D : σ → Prop) (c₀ : σ)
    (hh : A.handled = none) (hl : ∀ c, (l, lst vs nn) ∈ led c) (F : Fr h₀ env.locals s.heap m₀) (N : News h₀ env.locals s.heap news) (hn : ∀ p ∈ led c₀, p ∈ news) (hps : ∀ p ∈ ps c₀, m₀ p.1 = some p.2) (hI : I 0 c₀)
    (turn : ∀ i v c (u : Str → Option Value) h tk own, vs[i]? = some v → OwnOff own ((led c).map (·.1)) → I i c → Fr h₀ env.locals h (fun y => if y = x then some v else kstB u (ps c) y) → News h₀ env.locals h (led c ++ own) →
      wpAny (model prog w) A (execs body env) (PostP h₀ env.locals ps led D (I (i + 1)) own { s with heap := h, toks := tk } Q) E { s with heap := h, toks := tk })
    (fin : ∀ c, I vs.length c → D c)
    (done : ∀ c (u : Str → Option Value) h tk, D c → Fr h₀ env.locals h (kstB u (ps c)) → News h₀ env.locals h (led c) → Q .next { s with heap := h, toks := tk }) :
    wpAny (model prog w) A (pyIter (.ref l)) (fun it s₂ => LoopAtV prog w A h₀ env x body Q E it s₂) E s := by
  refine kdl_iter (news := led c₀) (fun i m nx => ∃ c, nx = led c ∧ (∀ p ∈ ps c, m p.1 = some p.2) ∧ I i c) hh (hl c₀) F (fun p hp => N p (hn p hp)) ⟨c₀, rfl, hps, hI⟩ ?_ ?_
  · rintro i v m₁ nx h tk own hv hoff _ ⟨c, rfl, h1, hi⟩ F₁ N₁
    refine wpAny_mono (turn i v c m₁ h tk own hv hoff hi (by rw [kstB_own h1]; exact F₁) N₁) (fun f s₂ p => ?_) fun _ _ x => x
    exact PostP.up p (fun c' m' g hI' => ⟨hl c', c', rfl, g, hI'⟩) done
  · rintro m₁ nx h tk ⟨c, rfl, h1, hi⟩ F₁ N₁
    exact done c m₁ h tk (fin c hi) (by rw [kstB_own h1]; exact F₁) N₁
/-- one statement, and what stands behind it -/
theorem cut_execs {σ : Type} {L : Addr} (ps : σ → List (Str × Value)) (led : σ → Led) (I : σ → Prop) {st : Stmt} {rest : List Stmt}
    (first : wpAny (model prog w) A (exec st env) (fun f s₂ => f = .next ∧ CutP h₀ L ps led I s s₂) E s)
    (on : ∀ c (u : Str → Option Value) h tk, I c → Fr h₀ L h (kstB u (ps c)) → News h₀ L h (led c) → wpAny (model prog w) A (execs rest env) Q E { s with heap := h, toks := tk }) :
    wpAny (model prog w) A (execs (st :: rest) env) Q E s := by
  refine wpAny_execs_cons (wpAny_mono first (fun f s₂ h => ?_) fun _ _ x => x)
  obtain ⟨rfl, h⟩ := h
  exact CutP.on h fun c u h tk hI F N e => by rw [e]; exact on c u h tk hI F N
end
set_option hygiene false
local macro_rules | `(tactic| walk_at "PostP") => `(tactic| (dsimp only [PostP]))
-- E1
/-- the running count of one turn -/
noncomputable def endNext (x : Str) (need : Int) : Int := if x = Str.ofString "@" then need + 1 else need - 1
noncomputable def lawEndGo : List Str → Int → Int → Int
  | [], _, p => p
  | x :: r, need, p => if endNext x need = 0 then p + 1 else lawEndGo r (endNext x need) (p + 1)
noncomputable def lawEnd (ws : List Str) : Int := lawEndGo ws 1 0

theorem lawEndGo_bd : ∀ (ws : List Str) (k p : Int), p ≤ lawEndGo ws k p ∧ lawEndGo ws k p ≤ p + ws.length
  | [], _, p => ⟨Int.le_refl _, by simp [lawEndGo]⟩
  | x :: r, k, p => by
    have ih := lawEndGo_bd r (endNext x k) (p + 1)
    simp only [lawEndGo, List.length_cons]
    split <;> omega
theorem lawEnd_ge (ws : List Str) : 0 ≤ lawEnd ws := (lawEndGo_bd ws 1 0).1
theorem lawEnd_le (ws : List Str) : lawEnd ws ≤ ws.length := by have := (lawEndGo_bd ws 1 0).2; unfold lawEnd; omega
/-- what is true of need and place when i words are taken -/
noncomputable def EndI (ws : List Str) (i : Nat) (c : Int × Int × Tok × Tok) : Prop := lawEndGo ws 1 0 = lawEndGo (ws.drop i) c.1 c.2.1 ∧ c.2.1 = i ∧ -(i : Int) ≤ c.1 ∧ c.1 ≤ i + 1

theorem drop_item {α : Type} {l : List α} {i : Nat} {y : α} (h : l[i]? = some y) : l.drop i = y :: l.drop (i + 1) := by
  obtain ⟨hl, he⟩ := List.getElem?_eq_some_iff.mp h
  rw [List.drop_eq_getElem_cons hl, he]
theorem EndI.stop {ws : List Str} {i : Nat} {c : Int × Int × Tok × Tok} {y : Str} {k : Int} (h : EndI ws i c) (hy : ws[i]? = some y) (hk : endNext y c.1 = k) (h0 : k = 0) : lawEnd ws = c.2.1 + 1 := by
  have e := h.1
  rw [drop_item hy, lawEndGo, if_pos (hk.trans h0)] at e
  exact e
theorem EndI.next {ws : List Str} {i : Nat} {c : Int × Int × Tok × Tok} {y : Str} {k : Int} (t t' : Tok) (h : EndI ws i c) (hy : ws[i]? = some y) (hk : endNext y c.1 = k) (h0 : k ≠ 0) : EndI ws (i + 1) (k, c.2.1 + 1, t, t') := by
  obtain ⟨e, h2, h3, h4⟩ := h
  rw [drop_item hy, lawEndGo, if_neg (fun q => h0 (hk.symm.trans q)), hk] at e
  have : k = c.1 + 1 ∨ k = c.1 - 1 := by subst hk; unfold endNext; split <;> simp
  exact ⟨e, by show c.2.1 + 1 = _; omega, by show _ ≤ k; omega, by show k ≤ _; omega⟩
theorem endNext_at {y : Str} {k : Int} (h : (y == Str.ofString "@") = true) : endNext y k = k + 1 := if_pos (by simpa using h)
theorem endNext_no {y : Str} {k : Int} (h : (y == Str.ofString "@") = false) : endNext y k = k - 1 := if_neg (by simpa using h)

set_option maxRecDepth 100000 in
set_option maxHeartbeats 8000000 in
theorem lawEnd_does {prog : Program} {w : World} {base : Heap} {news : Led} {l : Addr} {vs : List Value} {ws : List Str} {n : Nat} (hl : (l, lst vs n) ∈ news) (hw : StrsAre vs ws) (hz : ws.length ≤ 10000) :
    Does prog w base 157 [.ref l] 2 news (fun r news' => news' = news ∧ ∃ t, r = .int (lawEnd ws) t ∧ 0 ≤ lawEnd ws ∧ lawEnd ws ≤ ws.length) := by
  intro p loose mean mg mb dp un gd cn cs a ccd cl outer A₀ h₀ L m s Q E B F X N T hk hd hu hret
  refine wpAny_call ?_
  k_dflt (refine' code_def (binds := [((Str.ofString "words"), .ref l)]) ?k1 ?k2 ?k3 ?k4 ?k5 ?kA ?kF ?kK ?k6 ?k7 ?k8 ?k9 ?kB ?_ ?c2 ?c3 ?c4 ?c5; (case kA => exact rfl); (case kF => exact rfl); (case kK => assumption); (case k1 => k_asm); (case k2 => k_asm); (case k3 => k_asm); (case k4 => k_asm); (case k5 => k_asm); (case k6 => k_is); (case k7 => k_is); (case k8 => first | exact Nat.lt_of_le_of_lt (Nat.le_add_right _ _) (by assumption) | ktr_room); (case k9 => first | exact BindsTo.of_eq rfl | exact binds_K (by k_in) rfl (by k_is) rfl rfl rfl); (case c5 => decide); (case kB => exact locs rfl); (case c2 => exact rfl); (case c3 => exact rfl); (case c4 => exact rfl); k_whole; intro g' L' h' FG' F' N' B' X' T'; (try dsimp only); (try k_fold))
  k_steps
  (rename Fr _ _ _ _ => lF')
  (with_unfolding_all refine' For_invVF lF' ?k1 ?k2 ?_; (case k1 => exact rfl); (case k2 => exact rfl); k_whole)
  k_steps
  rename News _ _ _ _ => lN'
  refine' for_list (ps := fun c : Int × Int × Tok × Tok => [((Str.ofString "need"), .int c.1 c.2.2.1), ((Str.ofString "place"), .int c.2.1 c.2.2.2), ((Str.ofString "words"), .ref l)]) (led := fun _ => news) (stored := []) (I := EndI ws) (1, 0, ?t1, ?t2) rfl (fun _ => hl) lF' lN' (fun p hp => List.mem_cons_of_mem _ hp) ?hps ?hI ?turn ?done
  case hps => exact (List.forall_mem_cons.mpr ⟨by first | with_unfolding_all exact rfl | (dsimp only; with_unfolding_all exact rfl), (List.forall_mem_cons.mpr ⟨by first | with_unfolding_all exact rfl | (dsimp only; with_unfolding_all exact rfl), (List.forall_mem_cons.mpr ⟨by first | with_unfolding_all exact rfl | (dsimp only; with_unfolding_all exact rfl), (fun _ h => nomatch h)⟩)⟩)⟩)
  case hI => exact ⟨rfl, rfl, by dsimp only; omega, by dsimp only; omega⟩
  case turn =>
    clear lF' lN'
    intro i v c u h tk own hv hoff hI F' N'
    obtain ⟨hlt, -⟩ := List.getElem?_eq_some_iff.mp hv
    obtain ⟨y, t, rfl, hy⟩ := StrsAre.item hw i v hv
    have hI' := hI
    obtain ⟨hI1, hI2, hI3, hI4⟩ := hI'
    have hn1 : (i : Int) ≤ 10000 := by have := hw.length; omega
    have e1 := @endNext_at y c.1
    have e2 := @endNext_no y c.1
    k_steps
    all_goals first
      | (refine hret (.int (c.2.1 + 1) _) news _ _ ⟨rfl, _, congrArg (fun z => Value.int z _) (EndI.stop hI hy (by first | exact e1 (by assumption) | exact e2 (by assumption)) (by assumption)).symm, lawEnd_ge ws, lawEnd_le ws⟩ (by assumption) ?_
         rename News h₀ _ _ _ => kN'
         exact fun p hp => kN' p (List.mem_append_left _ hp))
      | (refine TurnOk.intro (_, c.2.1 + 1, _, _) (by assumption) (by assumption) (fun p hp => List.mem_append_left _ hp) (fun p hp => List.mem_append_right _ hp) hoff (List.forall_mem_cons.mpr ⟨by first | with_unfolding_all exact rfl | (dsimp only; with_unfolding_all exact rfl), (List.forall_mem_cons.mpr ⟨by first | with_unfolding_all exact rfl | (dsimp only; with_unfolding_all exact rfl), (List.forall_mem_cons.mpr ⟨by first | with_unfolding_all exact rfl | (dsimp only; with_unfolding_all exact rfl), (fun _ h => nomatch h)⟩)⟩)⟩) ?_ (EndI.next _ _ hI hy (by first | exact e1 (by assumption) | exact e2 (by assumption)) (by assumption))
         (intro z h1 h2 h3; simp only [List.forall_mem_cons, ne_eq] at h1 h2; (try simp only [List.contains_cons, List.contains_nil, Bool.or_false, Bool.or_eq_false_iff, beq_eq_false_iff_ne, ne_eq] at h3); simp [kstB, h1, h2, h3]))
  case done =>
    intro c u h tk hI F' N'
    k_steps
    refine hret (.int c.2.1 _) news _ _ ⟨rfl, _, congrArg (fun z => Value.int z _) ?_, lawEnd_ge ws, lawEnd_le ws⟩ (by assumption) (by assumption)
    have := hI.1
    rw [hw.length, List.drop_length] at this
    exact this.symm
-- Base2
section
variable {prog : Program} {w : World} {A : Around} {E : Value → Shared → Prop} {s : Shared} {h₀ : Heap} {L l b : Addr} {m : Str → Option Value} {news : Led} {vs us : List Value} {ws xs : List Str} {n k : Nat} {Q : Value → Shared → Prop}

theorem inList (N : News h₀ L s.heap news) (hm : (l, lst vs n) ∈ news) : s.heap.IsList l vs.toArray := ⟨_, (N _ hm).1, rfl, n, rfl⟩

theorem in_strs {x : Str} {t : Tok} (N : News h₀ L s.heap news) (hm : (l, lst vs n) ∈ news) (hw : StrsAre vs ws) (h : Q (.bool (ws.any (· == x))) s) : wpAny (model prog w) A (compareOp .In (.str x t) (.ref l)) Q E s :=
  in_list_strs (inList N hm) hw h
theorem notin_strs {x : Str} {t : Tok} (N : News h₀ L s.heap news) (hm : (l, lst vs n) ∈ news) (hw : StrsAre vs ws) (h : Q (.bool (!ws.any (· == x))) s) : wpAny (model prog w) A (compareOp .NotIn (.str x t) (.ref l)) Q E s :=
  notin_list_strs (inList N hm) hw h

theorem add_strs (F : Fr h₀ L s.heap m) (N : News h₀ L s.heap news) (h1 : (l, lst vs n) ∈ news) (h2 : (b, lst us k) ∈ news) (hw : StrsAre vs ws) (hu : StrsAre us xs)
    (h : ∀ D zs h', Fr h₀ L h' m → News h₀ L h' ((D, lst zs 0) :: news) → (∀ p ∈ news, p.1 < D) → StrsAre zs (ws ++ xs) → Q (.ref D) { s with heap := h' }) (hz : ws.length + xs.length ≤ 1000000) :
    wpAny (model prog w) A (binaryOp .Add (.ref l) (.ref b)) Q E s :=
  add_arrays F N (inList N h1) (inList N h2) (fun h' F' N' => h _ (vs ++ us) h' F' N' (fun p hp => Heap.lt_size (N p hp).1) (hw.append' hu)) (by rw [List.size_toArray, List.size_toArray, hw.length, hu.length, sizeLine_eq]; omega)

theorem canAll_strs : ∀ ns : List Str, (∀ x ∈ ns, PyData.strOk x = true) → PyData.canLayAll0 (ns.map PyData.str) = true
  | [], _ => rfl
  | x :: r, h => by simp [PyData.canLayAll0, PyData.canLay0, canAll_strs r fun y hy => h y (.tail _ hy), h x (.head _)]
theorem depthAll_strs : ∀ ns : List Str, PyData.depthAll (ns.map PyData.str) = 0
  | [] => rfl
  | _ :: r => by simp [PyData.depthAll, PyData.depth, depthAll_strs r]
theorem shaped_strs (ns : List Str) (h : ∀ x ∈ ns, PyData.strOk x = true) : SeqAt.shaped (.list (ns.map PyData.str)) = true := by
  simp [SeqAt.shaped, PyData.canLay0, PyData.depth, canAll_strs ns h, depthAll_strs]
theorem sameAll_strs : ∀ ns ms : List Str, PySem.Spec.sameAll (ns.map PyData.str) (ms.map PyData.str) = decide (ns = ms)
  | [], [] => by simp [PySem.Spec.sameAll]
  | [], _ :: _ => by simp [PySem.Spec.sameAll]
  | _ :: _, [] => by simp [PySem.Spec.sameAll]
  | a :: r, b :: t => by
    simp only [List.map_cons, PySem.Spec.sameAll, PySem.Spec.same, sameAll_strs r t]
    by_cases h : a = b <;> by_cases h' : r = t <;> simp [h, h']
theorem same_strs (ns ms : List Str) : PySem.Spec.same (.list (ns.map PyData.str)) (.list (ms.map PyData.str)) = decide (ns = ms) := by
  simp only [PySem.Spec.same]; exact sameAll_strs ns ms

theorem eq_strs (N : News h₀ L s.heap news) (h1 : (l, lst vs n) ∈ news) (h2 : (b, lst us k) ∈ news) (hw : StrsAre vs ws) (hu : StrsAre us xs) (g1 : ∀ x ∈ ws, PyData.strOk x = true) (g2 : ∀ x ∈ xs, PyData.strOk x = true) (hr : A.units + 64 < cLine) (h : Q (.bool (decide (ws = xs))) s) :
    wpAny (model prog w) A (compareOp .Eq (.ref l) (.ref b)) Q E s :=
  eq_dataH_same (reads_newData (inList N h1) hw.carried) (reads_newData (inList N h2) hu.carried) (shaped_strs _ g1) (shaped_strs _ g2) hr (SeqAt.noMix_of_shape (.list .str) rfl _ _ (list_map_has fun _ => rfl) (list_map_has fun _ => rfl)) (by rw [same_strs]; exact h)
theorem ne_strs (N : News h₀ L s.heap news) (h1 : (l, lst vs n) ∈ news) (h2 : (b, lst us k) ∈ news) (hw : StrsAre vs ws) (hu : StrsAre us xs) (g1 : ∀ x ∈ ws, PyData.strOk x = true) (g2 : ∀ x ∈ xs, PyData.strOk x = true) (hr : A.units + 64 < cLine) (h : Q (.bool (!decide (ws = xs))) s) :
    wpAny (model prog w) A (compareOp .NotEq (.ref l) (.ref b)) Q E s :=
  ne_dataH_same (reads_newData (inList N h1) hw.carried) (reads_newData (inList N h2) hu.carried) (shaped_strs _ g1) (shaped_strs _ g2) hr (SeqAt.noMix_of_shape (.list .str) rfl _ _ (list_map_has fun _ => rfl) (list_map_has fun _ => rfl)) (by rw [same_strs]; exact h)

theorem pick_from (l : List Value) {x : Int} (h0 : 0 ≤ x) : kms_pick l (some x) none = l.drop x.toNat := by
  simp only [kms_pick, kms_lo, kms_hi]
  rw [if_neg (Int.not_lt.mpr h0), kmk_drop_min, List.take_of_length_le]
  rw [List.length_drop]; exact Nat.sub_le_sub_left (Nat.min_le_left ..) _
theorem pick_upto (l : List Value) {y : Int} (h0 : 0 ≤ y) : kms_pick l none (some y) = l.take y.toNat := by
  simp only [kms_pick, kms_lo, kms_hi]
  rw [if_neg (Int.not_lt.mpr h0), List.drop_zero, Nat.sub_zero, kmk_take_min]
theorem pick_run (l : List Value) {x y : Int} (h0 : 0 ≤ x) (h1 : 0 ≤ y) : kms_pick l (some x) (some y) = (l.take y.toNat).drop x.toNat := by
  simp only [kms_pick, kms_lo, kms_hi]
  rw [if_neg (Int.not_lt.mpr h0), if_neg (Int.not_lt.mpr h1), kmk_drop_min, List.drop_take]
  by_cases h : y.toNat ≤ l.length
  · rw [Nat.min_eq_left h]
    by_cases g : x.toNat ≤ l.length
    · rw [Nat.min_eq_left g]
    · rw [List.drop_of_length_le (Nat.le_of_not_le g)]; simp
  · rw [Nat.min_eq_right (Nat.le_of_not_le h)]
    by_cases g : x.toNat ≤ l.length
    · rw [Nat.min_eq_left g, List.take_of_length_le (by rw [List.length_drop]; first | exact Nat.le_refl _ | exact Nat.sub_le_sub_right (Nat.le_of_not_le h) _), List.take_of_length_le (by rw [List.length_drop]; first | exact Nat.le_refl _ | exact Nat.sub_le_sub_right (Nat.le_of_not_le h) _)]
    · rw [List.drop_of_length_le (Nat.le_of_not_le g)]; simp

theorem slice_strs {value slice : PySem.Expr} {vl vu : Value} {lo hi : Option Int} {zs : List Value} {ys : List Str} (F : Fr h₀ L s.heap m) (N : News h₀ L s.heap news) (hm : (l, lst vs n) ∈ news) (hw : StrsAre vs ws) (pl : IsPart vl lo) (pu : IsPart vu hi)
    (e : kms_pick vs lo hi = zs) (hy : StrsAre zs ys)
    (h : ∀ D us h', Fr h₀ L h' m → News h₀ L h' ((D, lst us 0) :: news) → (∀ p ∈ news, p.1 < D) → StrsAre us ys → Q (.ref D) { s with heap := h' })
    (hs : subscripted slice false (.ref l) (.ref s.heap.objs.size) = operate [.ref s.heap.objs.size, .ref l] (getItem (.ref l) (.ref s.heap.objs.size))) (ht : ∀ r, letTemporaryGo value (.ref l) r = pure ()) (hz : ws.length ≤ 1000000) :
    wpAny (model prog w) A (subscriptTail value slice (.ref l) (.ref s.heap.objs.size)) Q E { s with heap := s.heap.push { cls := .type "slice", data := .fields #[vl, vu, .none] } } :=
  kms_slice_lit F N (inList N hm) pl pu e (fun D h' F' N' l1 => h D zs h' F' N' l1 hy) hs ht (by rw [List.size_toArray, hw.length, sizeLine_eq]; omega)
end
/- the lines of the walk for lists of texts -/
set_option hygiene false
local macro_rules | `(tactic| walk_at "mem") => `(tactic| first | assumption | exact List.Mem.head _ | (refine List.Mem.tail _ ?_; walk_at "mem") | (refine List.mem_append.mpr (Or.inl ?_); walk_at "mem") | (refine List.mem_append.mpr (Or.inr ?_); walk_at "mem"))
set_option hygiene true
local macro_rules | `(tactic| walk_at "sa") => `(tactic| first | assumption | exact StrsAre.nil | (refine' StrsAre.cons _ _ ?a; (case a => walk_at "sa")))
theorem any_len {α : Type} {p : α → Bool} {ws : List α} (h : ws.any p = true) : 0 < ws.length := by cases ws with | nil => cases h | cons => simp
theorem News.take2 {h₀ h : Heap} {L D : Addr} {o : Obj} {news all : Led} (N : News h₀ L h all) (hm : (D, o) ∈ all) (hs : ∀ p ∈ news, p ∈ all) : News h₀ L h ((D, o) :: news) := fun p hp => N p ((List.mem_cons.mp hp).elim (fun e => e ▸ hm) (hs p))
theorem ne_of_ord {news : Led} {d e : Nat} (h : ∀ p ∈ news, @LT.lt Nat _ p.1 e) (he : e ≤ d) : ∀ p ∈ news, p.1 ≠ d := fun p hp => Nat.ne_of_lt (Nat.lt_of_lt_of_le (h p hp) he)
set_option hygiene false
local macro_rules | `(tactic| k_all) => `(tactic| assumption)
local macro_rules | `(tactic| k_all) => `(tactic| (refine' ne_of_ord (by assumption) (by omega)))
/-- what a def hands back that makes one list of texts -/
noncomputable def RetL (news : Led) (ws : List Str) (P : Prop) (r : Value) (news' : Led) : Prop := P ∧ ∃ D us, r = .ref D ∧ news' = (D, lst us 0) :: news ∧ (∀ p ∈ news, p.1 < D) ∧ StrsAre us ws
theorem RetL.hand {h₀ : Heap} {L D : Addr} {m : Str → Option Value} {s : Shared} {Q : Value → Shared → Prop} {news all : Led} {ws ys : List Str} {us : List Value} {P : Prop} {h : Heap} {tk : Nat}
    (hret : ∀ r news' h' tk', RetL news ws P r news' → Fr h₀ L h' m → News h₀ L h' news' → Q r { s with heap := h', toks := tk' })
    (F : Fr h₀ L h m) (N : News h₀ L h all) (hm : (D, lst us 0) ∈ all) (hs : ∀ p ∈ news, p ∈ all) (ho : ∀ p ∈ news, p.1 < D) (sa : StrsAre us ys) (e : ws = ys) (p : P) : Q (.ref D) { s with heap := h, toks := tk } :=
  hret _ _ h tk ⟨p, D, us, rfl, rfl, ho, e ▸ sa⟩ F (News.take2 N hm hs)
local macro_rules | `(tactic| walk_at "lens") => `(tactic| simp only [List.length_append, List.length_cons, List.length_nil, List.length_drop, List.length_take])
local macro_rules | `(tactic| walk_at "len") => `(tactic| first | assumption | omega | ((walk_at "lens"); omega) | ((try walk_at "lens"); have h9 := any_len (by assumption); (try simp only [List.length_drop, List.length_take] at h9); omega))
local macro_rules | `(tactic| walk_at "sub") => `(tactic| (intro q9 hq9; walk_at "mem"))
theorem ord_of {news all : Led} {D : Addr} (h : ∀ p ∈ all, p.1 < D) (hs : ∀ p ∈ news, p ∈ all) : ∀ p ∈ news, p.1 < D := fun p hp => h p (hs p hp)
local macro_rules | `(tactic| walk_at "ord") => `(tactic| first | assumption | (refine' ord_of (D := _) (by assumption) (by walk_at "sub")))
local macro_rules | `(tactic| walk_at "newList") => `(tactic| (k_here; k_dflt (refine' newList_K (by k_asm) (by k_asm) ?_; k_whole; intro l'z h'z F'z N'z l1z; (have l2 := l1z); (try k_lt l2); (try k_sweep))))
local macro_rules | `(tactic| walk_at "compareOp In str ref") => `(tactic| (k_here; k_dflt ((with_reducible show wpAny _ _ (compareOp CmpOp.In (Value.str _ _) (Value.ref _)) _ _ _); refine' in_strs (by k_asm) (by walk_at "mem") (by walk_at "sa") ?_; k_whole)))
local macro_rules | `(tactic| walk_at "compareOp NotIn str ref") => `(tactic| (k_here; k_dflt ((with_reducible show wpAny _ _ (compareOp CmpOp.NotIn (Value.str _ _) (Value.ref _)) _ _ _); refine' notin_strs (by k_asm) (by walk_at "mem") (by walk_at "sa") ?_; k_whole)))
local macro_rules | `(tactic| walk_at "binaryOp Add ref ref") => `(tactic| (k_here; k_dflt ((with_reducible show wpAny _ _ (binaryOp _ (Value.ref _) (Value.ref _)) _ _ _); refine' add_strs (by k_asm) (by k_asm) (by walk_at "mem") (by walk_at "mem") (by walk_at "sa") (by walk_at "sa") ?_ (by walk_at "len"); k_whole; intros; (try k_sweep))))
local macro_rules | `(tactic| walk_at "compareOp Eq ref ref") => `(tactic| (k_here; k_dflt ((with_reducible show wpAny _ _ (compareOp CmpOp.Eq (Value.ref _) (Value.ref _)) _ _ _); refine' eq_strs (by k_asm) (by walk_at "mem") (by walk_at "mem") (by walk_at "sa") (by walk_at "sa") (by walk_at "oks") (by walk_at "oks") (by walk_at "ru") ?_; k_whole)))
local macro_rules | `(tactic| walk_at "compareOp NotEq ref ref") => `(tactic| (k_here; k_dflt ((with_reducible show wpAny _ _ (compareOp CmpOp.NotEq (Value.ref _) (Value.ref _)) _ _ _); refine' ne_strs (by k_asm) (by walk_at "mem") (by walk_at "mem") (by walk_at "sa") (by walk_at "sa") (by walk_at "oks") (by walk_at "oks") (by walk_at "ru") ?_; k_whole)))
local macro_rules | `(tactic| walk_at "pick") => `(tactic| first | exact pick_from _ (by omega) | exact pick_upto _ (by omega) | exact pick_run _ (by omega) (by omega))
local macro_rules | `(tactic| walk_at "pickS") => `(tactic| first | exact StrsAre.drop' (by assumption) _ | exact StrsAre.take' (by assumption) _ | exact StrsAre.drop' (StrsAre.take' (by assumption) _) _)
local macro_rules | `(tactic| walk_at "subscriptTail Name Slice ref ref") => `(tactic| (k_here; k_dflt ((with_reducible show wpAny _ _ (subscriptTail _ (PySem.Expr.Slice _ _ none _) (Value.ref _) (Value.ref _)) _ _ _); k_dflt (refine' slice_strs (by k_asm) (by k_asm) (by walk_at "mem") (by walk_at "sa") (by kmk_part) (by kmk_part) (by walk_at "pick") (by walk_at "pickS") ?_ (by with_unfolding_all rfl) (by kmk_pure) (by walk_at "len")); intros; (try k_sweep))))
section
variable {prog : Program} {w : World} {base : Heap} {f : Addr} {args : List Value} {d : Nat} {news : Led} {ws : List Str} {P : Prop}
variable {p : Program} {loose : List Str} {mean : ExcName → Option Value} {mg mb : Str → Option Value} {dp un : Nat} {gd : Option (List Code)} {cn : Str} {cs : Scope} {a : Addr} {ccd : Value} {cl : List (Str × Addr)} {outer : List Env} {A₀ : Around} {h₀ : Heap} {L : Addr} {m : Str → Option Value} {s : Shared} {Q E : Value → Shared → Prop}
theorem Does.ul (U : Use w base p loose mean mg mb cs outer A₀ h₀ L m s.heap news) (D : Does prog w base f args d news (RetL news ws P)) (R : dp + d < recursionLimit ∧ un + 8 * d < cLine)
    (ret : ∀ D us h' tk', P → (∀ p ∈ news, p.1 < D) → StrsAre us ws → Fr h₀ L h' m → News h₀ L h' ((D, lst us 0) :: news) → Q (.ref D) { s with heap := h', toks := tk' }) :
    wpAny (model prog w) (ktrTop dp un gd cn cs L a ccd cl outer) (call (.ref f) args) Q E s := D.u U R fun _ _ h' tk' o F N => by obtain ⟨p, D, us, e1, e2, l, sa⟩ := o; subst e1 e2; exact ret D us h' tk' p l sa F N
theorem end_use {l : Addr} {vs : List Value} {n : Nat} (U : Use w base p loose mean mg mb cs outer A₀ h₀ L m s.heap news) (hl : (l, lst vs n) ∈ news) (hw : StrsAre vs ws) (hz : ws.length ≤ 10000) (R : dp + 2 < recursionLimit ∧ un + 8 * 2 < cLine)
    (ret : ∀ t h' tk', 0 ≤ lawEnd ws → lawEnd ws ≤ ws.length → Fr h₀ L h' m → News h₀ L h' news → Q (.int (lawEnd ws) t) { s with heap := h', toks := tk' }) :
    wpAny (model prog w) (ktrTop dp un gd cn cs L a ccd cl outer) (call (.ref 157) [.ref l]) Q E s := (lawEnd_does (base := base) hl hw hz).u U R fun _ _ h' tk' o F N => by obtain ⟨e1, t, e2, g, k⟩ := o; subst e1 e2; exact ret t h' tk' g k F N
end
theorem holeA (x : String) {M : Model} {A : Around} {p q : Pos} {v : PySem.Expr} {rest : List Stmt} {env : Env} {Q : Flow → Shared → Prop} {E : Value → Shared → Prop} {s : Shared} (h : Hole (wpAny M A (execs (.Assign [.Name (Str.ofString x) p] v q :: rest) env) Q E s)) : wpAny M A (execs (.Assign [.Name (Str.ofString x) p] v q :: rest) env) Q E s := h
set_option hygiene false
local macro_rules | `(tactic| walk_at "execs cons") => `(tactic| (k_here; with_reducible refine holeA "cut" ?_))
local macro_rules | `(tactic| walk_at "use") => `(tactic| refine' Use.mk (by k_asm) (by k_asm) (by k_asm) (by k_asm) (by k_asm) (by first | exact rfl | assumption))
section
variable {p d d' k c B : Nat}
theorem rm (h : p + d < B) (e : d' + 1 ≤ d) : p + 1 + d' < B := by omega
theorem rmk (h : p + (k + 1 + c) < B) : p + 1 + (k + c) < B := by omega
theorem rm2 (h : p + (k + 1 + c) < B) (e : d' ≤ c) : p + 1 + d' < B := by omega
theorem ru (h : p + 8 * d < B) (e : d' + 1 ≤ d) : p + 3 + 8 * d' < B := by omega
theorem ruk (h : p + 8 * (k + 1 + c) < B) : p + 3 + 8 * (k + c) < B := by omega
theorem ru2 (h : p + 8 * (k + 1 + c) < B) (e : d' ≤ c) : p + 3 + 8 * d' < B := by omega
theorem rq (h : p + 8 * d < B) (e : 9 ≤ d) : p + 3 + 64 < B := by omega
theorem rqk (h : p + 8 * (k + 1 + c) < B) (e : 8 ≤ c) : p + 3 + 64 < B := by omega
theorem add_len {a b : Nat} (h : a ≤ B / 2) (h' : b ≤ B / 2) : a + b ≤ B := by omega
theorem app_len {α : Type} {x y : List α} (h : x.length + y.length ≤ B) : (x ++ y).length ≤ B := List.length_append ▸ h
theorem drop_len {α : Type} {x : List α} (h : x.length ≤ B) : (x.drop k).length ≤ B := Nat.le_trans (List.length_drop ▸ Nat.sub_le _ _) h
theorem take_len {α : Type} {x : List α} (h : x.length ≤ B) : (x.take k).length ≤ B := Nat.le_trans (List.length_take_le' _ _) h
end
set_option hygiene false
local macro_rules | `(tactic| walk_at "rm") => `(tactic| first | decide | exact rmk (by assumption) | exact rm2 (by assumption) (by decide) | exact rm (by assumption) (by decide) | ktr_room)
local macro_rules | `(tactic| walk_at "ru") => `(tactic| first | decide | exact ruk (by assumption) | exact ru2 (by assumption) (by decide) | exact ru (by assumption) (by decide) | exact rq (by assumption) (by decide) | exact rqk (by assumption) (by decide) | ktr_units)
local macro_rules | `(tactic| walk_at "room") => `(tactic| exact ⟨by walk_at "rm", by walk_at "ru"⟩)
local macro_rules | `(tactic| walk_at "len") => `(tactic| (with_reducible show @LE.le Nat _ _ _; first | assumption | exact Nat.le_trans (by assumption) (by decide) | (with_reducible refine drop_len ?_; walk_at "len") | (with_reducible refine take_len ?_; walk_at "len") | (with_reducible refine app_len ?_; walk_at "len") | (with_reducible refine add_len ?_ ?_ <;> walk_at "len") | decide))
local macro_rules | `(tactic| walk_at "gf") => `(tactic| ((try dsimp only); (try k_fold)))
local macro_rules | `(tactic| walk_at "gi") => `(tactic| (intros; walk_at "gf"))
local macro_rules | `(tactic| walk_at "call ref") => `(tactic| (k_here; k_dflt ((with_reducible show wpAny _ _ (call (Value.ref 157) _) _ _ _); refine' end_use (by walk_at "use") (by walk_at "mem") (by walk_at "sa") (by walk_at "len") (by walk_at "room") ?_; intro t9 h9 tk9 ge9 le9 F9 N9; (try simp only [List.length_drop, List.length_take] at le9); walk_at "gf")))
-- Acc
open Builtin Builtin.ObjectAttr Builtin.Getset_descriptor
set_option maxRecDepth 100000

noncomputable abbrev accObj (C dx : Addr) (vs : List Value) (n : Nat) : Obj := { cls := .ref C, dict := some dx, data := .seq vs.toArray n }

structure MakesL (M : Model) (h : Heap) (C : Addr) : Prop where
  obj : ∃ oc od cd sl, h.get? C = some ⟨oc, od, .cls cd, sl⟩ ∧ cd.abstract = false ∧ cd.hasDel = false ∧ cd.mro.isEmpty = false
  made : Looks M h (Bind.madeBy (.ref C)) (some "list.__new__")
  base : Looks M h (Bind.staticBase (.ref C)) (.ref C)
  self : Looks M h (isSubtype (.ref C) (.ref C)) true
  top : Looks M h (isSubtype (.ref C) (.type "list")) true
  call : Looks M h (specialOf (.ref C) "__call__") (some (.builtin "type.__call__"))
  typ : Looks M h (isInstance (.ref C) (.type "type")) true
noncomputable def makesInL (K : Frag) (C : Addr) : Bool := match K.lookup C with
  | some ⟨_, _, .cls cd, sl⟩ => !cd.abstract && !cd.hasDel && (sl.toList[4]?).join == some (.builtin "list.__new__") && !cd.mro.isEmpty && cd.mro.contains (.ref C) && cd.mro.contains (.type "list") &&
      specialIn K (.ref C) "__call__" == some (some (.builtin "type.__call__")) && instIn K (.ref C) (.type "type") == some true
  | _ => false
theorem makesL_of {K : Frag} {M : Model} {h : Heap} (X : K.In h) {C : Addr} (e : makesInL K C = true) : MakesL M h C := by
  unfold makesInL at e
  split at e
  · rename_i oc od cd sl ho
    simp only [Bool.and_eq_true, Bool.not_eq_true', beq_iff_eq] at e
    obtain ⟨⟨⟨⟨⟨⟨⟨e1, e2⟩, e3⟩, e4⟩, e5⟩, e6⟩, e7⟩, e8⟩ := e
    have hc : clsIn K C = some cd := by unfold clsIn; rw [ho]
    have hm : Looks M h (mroOf (.ref C)) cd.mro := (looks_clsIn X hc).andThen .now
    obtain ⟨c, l, hl⟩ : ∃ c l, cd.mro = c :: l := by cases q : cd.mro with | nil => rw [q] at e4; cases e4 | cons c l => exact ⟨c, l, rfl⟩
    have made : Looks M h (Bind.madeBy (.ref C)) (some "list.__new__") := by
      intro A Q E s k q
      unfold Bind.madeBy
      refine wpAny_bind (hm A _ E s k ?_)
      rw [hl, List.forIn_cons]
      refine wpAny_bind (wpAny_bind (wpAny_bind (wpAny_bind (wpAny_loadPart (k _ _ (X _ _ ho)) (wpAny_pure ?_)))))
      dsimp only
      rw [← Array.getElem?_toList, e3]
      exact wpAny_pure (wpAny_pure (wpAny_pure q))
    refine ⟨⟨oc, od, cd, sl, X _ _ ho, e1, e2, e4⟩, made, ?_, looks_mroIn X ?_, looks_mroIn X ?_, looks_specialIn X e7, looks_instIn X e8⟩
    · intro A Q E s k q
      unfold Bind.staticBase
      refine wpAny_bind (hm A _ E s k ?_)
      rw [hl, List.forIn_cons]
      exact wpAny_bind (wpAny_bind (wpAny_bind (made A _ E s k (wpAny_pure (wpAny_pure (wpAny_pure q))))))
    · unfold mroIn; rw [hc, Option.bind_some, if_neg (by rw [e4]; decide), e5]
    · unfold mroIn; rw [hc, Option.bind_some, if_neg (by rw [e4]; decide), e6]
  · cases e

theorem ln_kind : builtinKind "list.__new__" = some .builtinFn := by decide +kernel
theorem ln_split : splitId "list.__new__" = some ("list", "__new__") := by decide +kernel
theorem ln_quiet : ("list.__new__" : String).startsWith "lifetime." = false := by decide +kernel
section
variable {prog : Program} {w : World} {A : Around} {K : Frag} {C : Addr} {R : Result → Shared → Prop} {h : Heap} {g : Array GenState} {d : Drawn} {t : Nat} {os : OsState}

set_option maxHeartbeats 1000000 in
theorem new_L (Y : MakesL (model prog w) h C)
    (hq : R (.ok (.ret (.ref (h.objs.size + 1)))) ⟨(h.push emptyDict).push (accObj C h.objs.size [] 0), g, d, t, os⟩) :
    codeAny (model prog w) A (.call (.builtin "list.__new__") ⟨[.ref C], []⟩) R ⟨h, g, d, t, os⟩ := by
  obtain ⟨⟨oc, od, cd, sl, hC, e1, e2, e4⟩, made, base, self, top, call, typ⟩ := Y
  refine codeAny_call_builtin_code (Code.quiet_builtin _ ln_quiet) ?_
  simp only [checkBuiltinCall, ln_kind, ln_split]
  have isT : Looks (model prog w) h (isType (.ref C)) true := fun A Q E s k q => wpAny_bind (wpAny_loadPart (k _ _ hC) (wpAny_pure q))
  repeat (first | simp only [bne_self_eq_false, Bool.false_eq_true, if_false, Bool.not_true, Option.map_some] | lk)
  refine codeAny_builtin_stack F.entry_list_new rfl fun p st => ?_
  have hown := owner_list_new
  have hC2 : ((h.push { cls := .type "dict", data := .dict #[] }).push { cls := .ref C, dict := some h.objs.size, data := .seq #[] }).get? C = some ⟨oc, od, .cls cd, sl⟩ := Heap.get?_push_of_some _ (Heap.get?_push_of_some _ hC)
  have hsz : (h.push { cls := Value.type "dict", data := Data.dict #[] }).objs.size = h.objs.size + 1 := Heap.size_push ..
  rw [← hsz] at hq
  simp only [hown]
  repeat (first | simp only [bne_self_eq_false, Bool.false_eq_true, if_false, Bool.not_true, Option.map_some, e2] | exact hq | lk)

theorem make_coreL {init : Value} (Y : MakesL (model prog w) h C) (hi : Looks (model prog w) h (typeLookup (.ref C) "__init__") (some init))
    (hb : ∀ self, Looks (model prog w) h (bindSpecial init self) (init, [self]))
    (hq : codeAny (model prog w) (A.under (.builtin "type.__call__" ⟨[.ref C], []⟩)) (.call init ⟨[.ref (h.objs.size + 1)], []⟩) (InitBack (h.objs.size + 1) R) ⟨(h.push emptyDict).push (accObj C h.objs.size [] 0), g, d, t, os⟩) :
    codeAny (model prog w) A (.call (.ref C) ⟨[], []⟩) R ⟨h, g, d, t, os⟩ := by
  have Y' := Y
  obtain ⟨⟨oc, od, cd, sl, hC, e1, e2, e4⟩, made, base, self, top, call, typ⟩ := Y
  refine codeAny_of_tree ?_
  show wpAny _ _ (callAny (.ref C) _) _ _ _
  refine nd_load hC ?_
  show wpAny _ _ (callAny.viaDunder (.ref C) _) _ _ _
  unfold callAny.viaDunder
  refine wpAny_bind (call.at ?_)
  dsimp only
  rw [tc_bind]
  refine wpAny_bind (wpAny_pure (wpAny_bind (wpAny_pure ?_)))
  refine wpAny_pure (a := Fin.again (.call (.builtin "type.__call__") ⟨[.ref C], []⟩)) (And.intro rfl ?_)
  refine codeAny_call_builtin_at (Code.quiet_builtin _ (by decide +kernel)) entry_typeCall (check_slot tc_kind tc_split typ (tc_args _ _ _) ?_)
  unfold Builtin.«type.__call__»
  have hm : Looks (model prog w) h (mroOf (.ref C)) cd.mro := ((Looks.ld (part := none) hC).andThen .now).andThen .now
  repeat (first | simp only [e4, Bool.false_eq_true, if_false] | with_reducible refine wpAny_call ?_ | lk)
  refine new_L Y' ?_
  have k : ∀ b o, h.get? b = some o → ((h.push emptyDict).push (accObj C h.objs.size [] 0)).get? b = some o := fun b o e => Heap.get?_push_of_some _ (Heap.get?_push_of_some _ e)
  have hx : ((h.push emptyDict).push (accObj C h.objs.size [] 0)).get? (h.objs.size + 1) = some (accObj C h.objs.size [] 0) := by heap_get
  have t1 : Looks (model prog w) ((h.push emptyDict).push (accObj C h.objs.size [] 0)) (typeOf (.ref (h.objs.size + 1))) (.ref C) := (Looks.ld hx).andThen .now
  have s1 := self.keeps k
  have i1 := hi.keeps k
  have b1 := (hb (.ref (h.objs.size + 1))).keeps k
  unfold isInstance callSpecial? specialOf
  repeat (first | with_reducible refine wpAny_call ?_ | lk)
  refine codeAny_mono hq fun r s' z => ?_
  rcases r with e | (v | _ | _ | _) <;> first | exact z | exact z.elim | skip
  obtain ⟨rfl, z⟩ := z
  exact wpAny_pure (wpAny_pure z)
end
section
variable {prog : Program} {w : World} {A : Around} {E : Value → Shared → Prop} {K : Frag} {C x : Addr} {s : Shared} {h₀ : Heap} {L : Addr} {m : Str → Option Value} {news : List (Addr × Obj)} {R : Result → Shared → Prop} {Q : Value → Shared → Prop}

theorem call_clsL {fI : Addr} (F : Fr h₀ L s.heap m) (X₀ : K.In h₀) (N : News h₀ L s.heap news) (hm : makesInL K C = true)
    (hi : findIn K (.ref C) "__init__" = some (some (.ref fI))) (hf : isFn K (.ref fI) = true)
    (h : ∀ x dx h', Fr h₀ L h' m → News h₀ L h' ((x, accObj C dx [] 0) :: (dx, dictOf [] 0) :: news) → (∀ p ∈ news, p.1 < dx) → dx < x →
      codeAny (model prog w) (A.under (.builtin "type.__call__" ⟨[.ref C], []⟩)) (.call (.ref fI) ⟨[.ref x], []⟩) (InitBack x fun r s' => match r with | .ok (.ret v) => Q v s' | .ok _ => False | .error e => E e s') { s with heap := h' }) :
    wpAny (model prog w) A (call (.ref C) [] []) Q E s := by
  refine wpAny_call ?_
  have X := X₀.keeps F.keep
  obtain ⟨hh, g, d, t, os⟩ := s
  refine make_coreL (makesL_of X hm) (looks_findIn X hi) (fun self => bind_fn X self (beq_iff_eq.mp hf)) (h _ hh.objs.size _ ((F.push _).push _) ?_ (fun p hp => Heap.lt_size (N p hp).1) (Nat.lt_succ_self _))
  have := (N.push F emptyDict).push (F.push _) (accObj C hh.objs.size [] 0)
  rwa [Heap.size_push] at this
end

theorem InstAt.of_acc {h₀ h : Heap} {L x C dx : Addr} {news : Led} {od : Obj} {vs : List Value} {n : Nat} (N : News h₀ L h news) (h1 : (x, accObj C dx vs n) ∈ news) (h2 : (dx, od) ∈ news) : InstAt h x (accObj C dx vs n) C (some od) := ⟨(N _ h1).1, rfl, rfl, (N _ h2).1⟩
set_option hygiene false
local macro_rules | `(tactic| k_inst) => `(tactic| (refine' InstAt.of_acc (by k_asm) (by walk_at "mem") (by walk_at "mem")))

local macro_rules | `(tactic| walk_at "wpAt") => `(tactic| (k_dflt (ks_step "exec Expr"; refine ks_wpAt_Expr_any ?_)))
local macro_rules | `(tactic| walk_at "wpAt") => `(tactic| (k_dflt (ks_step "eval Call"; refine ks_wpAt_MethodCall ?_)))
local macro_rules | `(tactic| walk_at "wpAt") => `(tactic| (k_dflt (ks_step "exec Return"; refine ks_wpAt_Return_some ?_)))
theorem refuse_listObj (self : Value) : refuseLoop self "__setattr__" [.type "list", .type "object"] = pure () := by kernel_rfl
section
variable {prog : Program} {w : World} {A : Around} {E : Value → Shared → Prop} {K : Frag} {C x dx : Addr} {s : Shared} {h₀ : Heap} {L : Addr} {m : Str → Option Value} {news news' : List (Addr × Obj)} {R : Result → Shared → Prop} {vs : List Value} {n : Nat}
noncomputable def overList (K : Frag) (C : Addr) : Bool := (clsIn K C).any fun cd => cd.mro == [.ref C, .type "list", .type "object"] && cd.hasDict
set_option maxHeartbeats 1000000 in
/-- the first field of an object over list -/
theorem set_acc {name : Str} {v : Value} {Q : Unit → Shared → Prop} (F : Fr h₀ L s.heap m) (X₀ : K.In h₀) (N : News h₀ L s.heap news) (hx : (x, accObj C dx vs n) ∈ news) (U : Upd dx (dictOf [] 0) (dictOf [⟨PyData.keyHash w.params name, .str name (s.toks + 1), v⟩] 1) news news')
    (hs : findIn K (.ref C) "__setattr__" = some (some (.builtin "object.__setattr__"))) (hp : overList K C = true) (ht : takerIn K C name = some none)
    (h : ∀ h', Fr h₀ L h' m → News h₀ L h' news' → Q () { s with heap := h', toks := s.toks + 2 }) :
    wpAny (model prog w) A (setAttr (.ref x) name v) Q E s := by
  obtain ⟨pre, post, rfl, rfl, h1, h2⟩ := U.split
  obtain ⟨hh, g, d, t, os⟩ := s
  dsimp only at F N U h ⊢
  have X := X₀.keeps F.keep
  have I : InstAt hh x (accObj C dx vs n) C (some (dictOf [] 0)) := ⟨(N _ hx).1, rfl, rfl, (N (dx, dictOf [] 0) (by simp)).1⟩
  refine set_plain X I hs ?_
  have SF := PySem.F.store_object
  obtain ⟨cd, hc, ho⟩ := any_some hp
  simp only [Bool.and_eq_true, beq_iff_eq] at ho
  obtain ⟨hmro, hd'⟩ := ho
  have sub : Looks (model prog w) hh (isInstance (.ref x) (.type "object")) true := I.type.andThen (looks_mroIn X (by unfold mroIn; rw [hc, Option.bind_some, hmro]; simp))
  refine codeAny_call_builtin SF.slot.plain SF.entry (@check_slot (model prog w) _ _ _ "object.__setattr__" "object" "__setattr__" (.ref x) [.str name t, v] [] _ SF.kind SF.split sub (SF.args (.ref x) (.str name t) v) ?_)
  obtain ⟨attr, ha, hr⟩ := Option.bind_eq_some_iff.mp ht
  have hm : Looks (model prog w) hh (mroOf (.ref C)) cd.mro := (looks_clsIn X hc).andThen .now
  have L3 : Looks (model prog w) hh (storeTaker? attr) none := by
    cases attr with
    | none => cases hr; exact .now
    | some a =>
      obtain ⟨b, hb, hbb⟩ := Option.map_eq_some_iff.mp hr
      refine (looks_takesIn X hb).andThen ?_
      cases b <;> first | exact .now | cases hbb
  rw [osa_eq, refuse_eq]
  refine wpAny_bind (wpAny_bind (I.type.here (wpAny_bind (hm.here ?_))))
  rw [hmro, refuseLoop_ref, refuse_listObj]
  refine wpAny_pure (wpAny_bind (I.type.here (wpAny_bind ((looks_findIn X ha).here (wpAny_bind (L3.here ?_))))))
  have D := (N (dx, dictOf [] 0) (by simp)).1
  have hx' := (N _ hx).1
  obtain ⟨U1, U2⟩ := news_upd (f := Obj.putName name (PyData.keyHash w.params name) (.str name (t + 1)) v) (o' := dictOf [⟨PyData.keyHash w.params name, .str name (t + 1), v⟩] 1) F N h1 h2 (by rfl) rfl
  refine wpAny_bind (wpAny_pure (wpAny_bind (wpAny_bind (wpAny_loadPart hx' (wpAny_bind ((looks_clsIn X hc).here ?_))))))
  rw [hd']
  refine wpAny_pure (a := some dx) (wpAny_bind (wpAny_pure (wpAny_bind ?_)))
  unfold nsSet
  refine wpAny_bind (wpAny_bind (wpAny_askSetting (wpAny_pure (wpAny_bind (wpAny_mkText (wpAny_bind (wpAny_loadPart D ?_)))))))
  refine wpAny_updatePart D ?_
  refine wpAny_bind (wpAny_lookBehind (U2 (dx, dictOf [⟨PyData.keyHash w.params name, .str name (t + 1), v⟩] 1) (by simp)).1 (pastItsLine_dict (by rw [sizeLine_eq]; show 1 ≤ _; omega)) ?_)
  exact wpAny_pure (h _ U1 U2)
end
-- Acc2
set_option maxRecDepth 100000
namespace G
theorem slot_wd_get : Slot "wrapper_descriptor" "__get__" "wrapper_descriptor.__get__" := .of (owner := "wrapper_descriptor") (n := "__get__") (by rw [typeLookup_type, builtinLookup_eq_fast]; kernel_rfl) (by decide +kernel) (by decide +kernel) (by decide +kernel)
  (by first | exact .inl (by decide +kernel) | exact .inr (by decide +kernel)) (by rw [isSubtype_type]; kernel_rfl)
theorem entry_wd_get : entryFor table "wrapper_descriptor.__get__" = some Builtin.«wrapper_descriptor.__get__» := entryFor_of_tree (by kernel_rfl)
theorem args_wd_get (a b c : Value) : argsOk "wrapper_descriptor.__get__" ⟨[a, b, c], []⟩ := by unfold argsOk; kernel_rfl
theorem slot_md_get : Slot "method_descriptor" "__get__" "method_descriptor.__get__" := .of (owner := "method_descriptor") (n := "__get__") (by rw [typeLookup_type, builtinLookup_eq_fast]; kernel_rfl) (by decide +kernel) (by decide +kernel) (by decide +kernel)
  (by first | exact .inl (by decide +kernel) | exact .inr (by decide +kernel)) (by rw [isSubtype_type]; kernel_rfl)
theorem entry_md_get : entryFor table "method_descriptor.__get__" = some Builtin.«method_descriptor.__get__» := entryFor_of_tree (by kernel_rfl)
theorem args_md_get (a b c : Value) : argsOk "method_descriptor.__get__" ⟨[a, b, c], []⟩ := by unfold argsOk; kernel_rfl
end G
section
variable {prog : Program} {w : World} {A : Around} {E : Value → Shared → Prop} {h : Heap} {g : Array GenState} {d : Drawn} {t : Nat} {os : OsState}
theorem own_init : ".".intercalate ("list.__init__".cutAt '.').dropLast = "list" := by decide +kernel
theorem own_len : ".".intercalate ("list.__len__".cutAt '.').dropLast = "list" := by decide +kernel
theorem own_pop : ".".intercalate ("list.pop".cutAt '.').dropLast = "list" := by decide +kernel
theorem wd_get_init {x C : Addr} {Q : Fin → Shared → Prop} (sub : Looks (model prog w) h (isInstance (.ref x) (.type "list")) true)
    (hq : Q (.done (.ret (.ref h.objs.size))) ⟨h.push { cls := .type "method-wrapper", data := .fields #[.builtin "list.__init__", .ref x] }, g, d, t, os⟩) :
    wpAny (model prog w) A (Builtin.«wrapper_descriptor.__get__» ⟨[.builtin "list.__init__", .ref x, .ref C], []⟩) Q E ⟨h, g, d, t, os⟩ := by
  rw [← own_init] at sub
  unfold Builtin.«wrapper_descriptor.__get__»
  repeat (first | exact hq | lk)
theorem wd_get_len {x C : Addr} {Q : Fin → Shared → Prop} (sub : Looks (model prog w) h (isInstance (.ref x) (.type "list")) true)
    (hq : Q (.done (.ret (.ref h.objs.size))) ⟨h.push { cls := .type "method-wrapper", data := .fields #[.builtin "list.__len__", .ref x] }, g, d, t, os⟩) :
    wpAny (model prog w) A (Builtin.«wrapper_descriptor.__get__» ⟨[.builtin "list.__len__", .ref x, .ref C], []⟩) Q E ⟨h, g, d, t, os⟩ := by
  rw [← own_len] at sub
  unfold Builtin.«wrapper_descriptor.__get__»
  repeat (first | exact hq | lk)
theorem md_get_pop {x C : Addr} {Q : Fin → Shared → Prop} (sub : Looks (model prog w) h (isInstance (.ref x) (.type "list")) true)
    (hq : Q (.done (.ret (.ref h.objs.size))) ⟨h.push { cls := .type "builtin_function_or_method", data := .fields #[.builtin "list.pop", .ref x] }, g, d, t, os⟩) :
    wpAny (model prog w) A (Builtin.«method_descriptor.__get__» ⟨[.builtin "list.pop", .ref x, .ref C], []⟩) Q E ⟨h, g, d, t, os⟩ := by
  rw [← own_pop] at sub
  have told : Manifest.toldItsClass.contains "list.pop" = false := by decide +kernel
  unfold Builtin.«method_descriptor.__get__»
  repeat (first | simp only [told, Bool.false_eq_true, if_false] | exact hq | (with_unfolding_all refine Looks.at sub ?_) | lk)
structure Got (T T' : String) (id gid : String) (b : Builtin) (M : Model) (h : Heap) (x C : Addr) : Prop where
  typ : typeOf (.builtin id) = pure (.type T)
  slot : Slot T "__get__" gid
  entry : entryFor table gid = some b
  args : argsOk gid ⟨[.builtin id, .ref x, .ref C], []⟩
  run : ∀ (A : Around) (Q : Fin → Shared → Prop) E g d t os, Q (.done (.ret (.ref h.objs.size))) ⟨h.push { cls := .type T', data := .fields #[.builtin id, .ref x] }, g, d, t, os⟩ → wpAny M A (b ⟨[.builtin id, .ref x, .ref C], []⟩) Q E ⟨h, g, d, t, os⟩
theorem got_init {x C : Addr} (sub : Looks (model prog w) h (isInstance (.ref x) (.type "list")) true) : Got "wrapper_descriptor" "method-wrapper" "list.__init__" "wrapper_descriptor.__get__" Builtin.«wrapper_descriptor.__get__» (model prog w) h x C :=
  ⟨by show builtinType _ = _; rw [builtinType_eq_fast]; kernel_rfl, G.slot_wd_get, G.entry_wd_get, G.args_wd_get _ _ _, fun _ _ _ _ _ _ _ q => wd_get_init sub q⟩
theorem got_len {x C : Addr} (sub : Looks (model prog w) h (isInstance (.ref x) (.type "list")) true) : Got "wrapper_descriptor" "method-wrapper" "list.__len__" "wrapper_descriptor.__get__" Builtin.«wrapper_descriptor.__get__» (model prog w) h x C :=
  ⟨by show builtinType _ = _; rw [builtinType_eq_fast]; kernel_rfl, G.slot_wd_get, G.entry_wd_get, G.args_wd_get _ _ _, fun _ _ _ _ _ _ _ q => wd_get_len sub q⟩
theorem got_pop {x C : Addr} (sub : Looks (model prog w) h (isInstance (.ref x) (.type "list")) true) : Got "method_descriptor" "builtin_function_or_method" "list.pop" "method_descriptor.__get__" Builtin.«method_descriptor.__get__» (model prog w) h x C :=
  ⟨by show builtinType _ = _; rw [builtinType_eq_fast]; kernel_rfl, G.slot_md_get, G.entry_md_get, G.args_md_get _ _ _, fun _ _ _ _ _ _ _ q => md_get_pop sub q⟩

theorem superB_ga {so D x C : Addr} {l₀ l : List Value} {K : Frag} {name : Str} {tk : Tok} {Q : Fin → Shared → Prop} {T T' id gid : String} {b : Builtin}
    (hso : h.get? so = some { cls := .type "super", dict := none, data := .fields #[.ref D, .ref x, .ref C], slots := #[] }) (hno : Looks (model prog w) h (opaqueClassAbove (.ref C)) none)
    (hC : Looks (model prog w) h (mroOf (.ref C)) l₀) (hl : (l₀.dropWhile (· != .ref D)).drop 1 = l) (X : K.In h)
    (hf : alongIn K name l = some (some (.builtin id))) (G : Got T T' id gid b (model prog w) h x C) (hxC : x ≠ C) (hn : (name == ("__class__" : Str)) = false)
    (hq : Q (.done (.ret (.ref h.objs.size))) ⟨h.push { cls := .type T', data := .fields #[.builtin id, .ref x] }, g, d, t, os⟩) :
    wpAny (model prog w) A (Builtin.«super.__getattribute__» ⟨[.ref so, .str name tk], []⟩) Q E ⟨h, g, d, t, os⟩ := by
  have hlk := G.slot.lookup
  have hne : (Value.ref x == Value.ref C) = false := by simp [hxC]
  have hdt : ({ cls := .type "super", dict := none, data := .fields #[.ref D, .ref x, .ref C], slots := #[] } : Obj).data = .fields #[.ref D, .ref x, .ref C] := rfl
  have f0 : (#[.ref D, .ref x, .ref C] : Array Value)[0]? = some (.ref D) := rfl
  have f1 : (#[.ref D, .ref x, .ref C] : Array Value)[1]? = some (.ref x) := rfl
  have f2 : (#[.ref D, .ref x, .ref C] : Array Value)[2]? = some (.ref C) := rfl
  have hT : (⟨h, g, d, t, os⟩ : Shared).TypeIs (.builtin id) T := G.typ
  have ht := G.typ
  unfold Builtin.«super.__getattribute__»
  repeat (first
    | (with_reducible refine wpAny_field hso hdt f0 ?_) | (with_reducible refine wpAny_field hso hdt f1 ?_) | (with_reducible refine wpAny_field hso hdt f2 ?_)
    | (with_reducible refine ks_wpAny_notOpaque hno ?_)
    | (with_reducible refine Looks.at hC ?_; rw [hl])
    | (refine ks_forIn_along X (fun _ _ => rfl) rfl ?_ hf)
    | (with_reducible refine wpAny_typeOf hT ?_)
    | (with_reducible refine wpAny_call_entry G.slot hT G.entry ?_ G.args; refine G.run _ _ _ _ _ _ _ ⟨_, rfl, ?_⟩)
    | (simp only [hn, hne, ht, hlk, Bool.or_false, Bool.false_eq_true, if_false])
    | wp_step
    | dsimp only)
  all_goals exact hq
theorem superB {so D x C : Addr} {l₀ l : List Value} {K : Frag} {name : Str} {pl : Sem Bool} {Q : Value × List Value → Shared → Prop} {T T' id gid : String} {b : Builtin}
    (hso : h.get? so = some { cls := .type "super", dict := none, data := .fields #[.ref D, .ref x, .ref C], slots := #[] }) (hno : Looks (model prog w) h (opaqueClassAbove (.ref C)) none)
    (hC : Looks (model prog w) h (mroOf (.ref C)) l₀) (hl : (l₀.dropWhile (· != .ref D)).drop 1 = l) (X : K.In h)
    (hf : alongIn K name l = some (some (.builtin id))) (G : Got T T' id gid b (model prog w) h x C) (hxC : x ≠ C) (hn : (name == ("__class__" : Str)) = false)
    (hq : Q (.ref h.objs.size, []) ⟨h.push { cls := .type T', data := .fields #[.builtin id, .ref x] }, g, d, t + 1, os⟩) :
    wpAny (model prog w) A (getMethod (.ref so) name pl) Q E ⟨h, g, d, t, os⟩ := by
  have hlk := F.ks_slot_super_ga.lookup
  have hcan := F.ks_canon_super_ga
  have hT : ∀ t', (⟨h, g, d, t', os⟩ : Shared).TypeIs (.ref so) "super" := fun _ => ⟨_, hso, rfl⟩
  unfold getMethod
  refine wpAny_bind (wpAny_specialOf (hT _) hlk ?_)
  show wpAny _ _ (if (Manifest.canonical "super.__getattribute__" != "object.__getattribute__") = true then _ else _) _ _ _
  rw [if_pos hcan]
  unfold getAttr getAttrBy
  refine wpAny_bind (wpAny_bind (wpAny_mkText (wpAny_holding (wpAny_bind (wpAny_typeOf (hT _) (wpAny_bind (wpAny_of_eq hlk ?_)))))))
  show wpAny _ _ (getAttrByItsOwn (.ref so) (.str name t) (.type "super") (.builtin "super.__getattribute__") true false) _ _ _
  unfold getAttrByItsOwn hookBefore callGetattribute boundAndCalled
  refine wpAny_bind (wpAny_of_eq (show (if onTheHeap (.type "super") then typeLookup (.type "super") "__getattr__" else pure none) = pure none from rfl) ?_)
  refine wpAny_bind (wpAny_attempt (wpAny_holding ?_))
  show wpAny _ _ (bindSpecial (.builtin "super.__getattribute__") (.ref so) >>= _) _ _ _
  refine wpAny_bind (wpAny_of_eq (F.ks_slot_super_ga.bind _) ?_)
  refine wpAny_mono (Q := fun v s' => v = .ref h.objs.size ∧ s' = ⟨h.push { cls := .type T', data := .fields #[.builtin id, .ref x] }, g, d, t + 1, os⟩) (E := fun _ _ => False)
    (wpAny_call_entry F.ks_slot_super_ga (hT _) F.ks_entry_super_ga (superB_ga hso hno hC hl X hf G hxC hn ⟨_, rfl, rfl, rfl⟩) (F.ks_gaArgs_super _ _)) (fun v s' hv => ?_) fun _ _ z => z.elim
  obtain ⟨rfl, rfl⟩ := hv
  exact wpAny_pure (wpAny_pure hq)
end
section
variable {prog : Program} {w : World} {A : Around} {E : Value → Shared → Prop} {K : Frag} {C D x dx so q : Addr} {s : Shared} {h₀ : Heap} {L : Addr} {m : Str → Option Value} {news news' : List (Addr × Obj)} {vs : List Value} {n : Nat} {od : Obj}

theorem sub_list {h : Heap} (X : K.In h) {ox : Obj} {odx : Option Obj} (I : InstAt h x ox C odx) (hm : mroIn K C (.type "list") = some true) : Looks (model prog w) h (isInstance (.ref x) (.type "list")) true :=
  I.type.andThen (looks_mroIn X hm)
/-- a method of list that super() finds -/
theorem ks_methodB {name : Str} {pl : Sem Bool} {Q : Value × List Value → Shared → Prop} {T T' id gid : String} {b : Builtin} {ox : Obj} {odx : Option Obj}
    (G : ∀ h : Heap, Looks (model prog w) h (isInstance (.ref x) (.type "list")) true → Got T T' id gid b (model prog w) h x C)
    (F : Fr h₀ L s.heap m) (X₀ : K.In h₀) (N : News h₀ L s.heap news) (hso : (so, ks_superObj D x C) ∈ news) (I : InstAt s.heap x ox C odx) (ho : nsIn K cStatics "thirdparty.any" = some none)
    (hm : ks_superIn K C D name = some (some (.builtin id))) (hs : mroIn K C (.type "list") = some true) (hn : (name == ("__class__" : Str)) = false)
    (h : ∀ q h', Fr h₀ L h' m → News h₀ L h' ((q, { cls := .type T', data := .fields #[.builtin id, .ref x] }) :: news) → (∀ p ∈ news, p.1 < q) → Q (.ref q, []) { s with heap := h', toks := s.toks + 1 }) : wpAny (model prog w) A (getMethod (.ref so) name pl) Q E s := by
  have X : K.In s.heap := X₀.keeps F.keep
  obtain ⟨hh, g, d, t, os⟩ := s
  cases hc : clsIn K C with
  | none => unfold ks_superIn at hm; rw [hc] at hm; cases hm
  | some cd =>
    unfold ks_superIn at hm
    rw [hc] at hm
    refine superB (N _ hso).1 (looks_opaque X ho) (l₀ := cd.mro) ?_ rfl X hm (G _ (sub_list X I hs)) (ks_ne X I hc) hn ?_
    · exact fun A Q E s k q => wpAny_bind ((looks_clsIn X hc) A _ E s k (wpAny_pure q))
    · obtain ⟨F', N', l'⟩ := ks_newsPush (s := ⟨hh, g, d, t, os⟩) (o := { cls := .type T', data := .fields #[.builtin id, .ref x] }) F N rfl (Heap.get?_push_at rfl rfl) (fun b o e => Heap.get?_push_of_some _ e)
      exact h _ _ F' N' l'
end
-- Acc3
set_option maxRecDepth 100000
section
variable {prog : Program} {w : World} {A : Around} {E : Value → Shared → Prop} {K : Frag} {C D x dx so q : Addr} {s : Shared} {h₀ : Heap} {L : Addr} {m : Str → Option Value} {news news' : List (Addr × Obj)} {vs us : List Value} {n n' : Nat} {od : Obj} {env : Env} {pos : Pos} {Q : Value → Shared → Prop}
noncomputable abbrev boundObj (T' : String) (id : String) (x : Addr) : Obj := { cls := .type T', data := .fields #[.builtin id, .ref x] }
theorem keeps_B {M : Model} {T' id : String} {h : Heap} (hq : h.get? q = some (boundObj T' id x)) (hT : T' = "method-wrapper" ∨ T' = "builtin_function_or_method") : Looks M h (keeperOf (.ref q)) .machine := by
  refine (Looks.ld (part := none) hq).andThen ?_
  rcases hT with rfl | rfl <;> exact .now
theorem callB {T' id : String} {b : Builtin} (N : News h₀ L s.heap news) (hq : (q, boundObj T' id x) ∈ news) (hT : T' = "method-wrapper" ∨ T' = "builtin_function_or_method")
    (hb : entryFor table id = some b) (hp : plainId id = true) (hc : Looks (model prog w) s.heap (checkBoundCall id ⟨[.ref x], []⟩) ())
    (run : wpAny (model prog w) A.in1 (b ⟨[.ref x], []⟩) (fun fin s' => ∃ v, fin = .done (.ret v) ∧ Q v s') E s) :
    wpAny (model prog w) A (callWith pos (.ref q) [] (backTo pos (starEach [] env)) []) Q E s := by
  refine callWith_of (P := fun h => h.get? q = some (boundObj T' id x)) rfl (fun h e => ⟨_, .inr (.inl rfl), keeps_B e hT⟩) (evalArgs_nil3 ⟨(N _ hq).1, ?_⟩)
  refine wpAny_call (codeAny_of_tree ?_)
  show wpAny _ _ (callAny (.ref q) _) _ _ _
  refine nd_load (N _ hq).1 ?_
  have body : wpAny (model prog w) A.in1 (do checkBoundCall id ⟨[.ref x], []⟩; again (.builtin id ⟨[.ref x], []⟩)) (fun fin s' => match fin with | .done f => (match (Except.ok f : Result) with | .ok (.ret v) => Q v s' | .ok _ => False | .error e => E e s') | .again c' => c'.quiet = true ∧ codeAny (model prog w) A c' (fun r s' => match r with | .ok (.ret v) => Q v s' | .ok _ => False | .error e => E e s') s') (fun e s' => E e s') s := by
    refine wpAny_bind (hc.here (wpAny_pure ⟨plainId_quiet hp _, codeAny_builtin hb ?_⟩))
    rw [Around.under_plainId hp]
    exact wpAny_mono run (fun fin s' h' => by obtain ⟨v, rfl, hv⟩ := h'; exact hv) fun _ _ h' => h'
  rcases hT with rfl | rfl <;> exact body

theorem chk_init (y : Value) : checkBoundCall "list.__init__" ⟨[y], []⟩ = pure () := by kernel_rfl
theorem chk_len (y : Value) : checkBoundCall "list.__len__" ⟨[y], []⟩ = pure () := by kernel_rfl
theorem pop_kind : builtinKind "list.pop" = some .method := by decide +kernel
theorem pop_varargs : Manifest.varargsMethods.contains "list.pop" = false := by decide +kernel
theorem pop_sig : (Manifest.signature? "list.pop").any (fun sig => sig.machinery == .positional) = true := by decide +kernel
theorem pop_sig' : Manifest.signature? "list.pop" = some ⟨.positional, "list.pop", "pop", .self, [⟨"index", .posOnly, false⟩]⟩ := by kernel_rfl
theorem pop_full : toString ((Str.ofString "_Accumulator").toString) ++ toString "." ++ toString (Bind.lastOf "list.pop") = "_Accumulator.pop" := by decide +kernel
theorem pop_args (y : Value) : Bind.checkArgs "list.pop" ⟨.positional, "_Accumulator.pop", "pop", .self, [⟨"index", .posOnly, false⟩]⟩ ⟨[y], []⟩ = pure () := by kernel_rfl
theorem chk_pop {M : Model} {h : Heap} {ox : Obj} {odx : Option Obj} (X : K.In h) (I : InstAt h x ox C odx) (hm : mroIn K C (.type "module") = some false) (ht : typeIn K (.ref C) = some (.type "type")) (hc : (clsIn K C).map (·.qualname) = some ((Str.ofString "_Accumulator"))) : Looks M h (checkBoundCall "list.pop" ⟨[.ref x], []⟩) () := by
  intro A Q E s k q
  obtain ⟨hh, g, d, t, os⟩ := s
  have X' := X.keeps k
  have hx := k _ _ I.at_
  have nomod0 : Looks M h (isInstance (.ref x) (.type "module")) false := (I.type (M := M)).andThen (looks_mroIn X hm)
  have nomod := nomod0.keeps k
  have ty : Looks M hh (typeOf (.ref x)) (.ref C) := (I.type (M := M)).keeps k
  have tyC : Looks M hh (typeOf (.ref C)) (.type "type") := looks_typeIn X' ht
  obtain ⟨cd, hcd, hqn⟩ := Option.map_eq_some_iff.mp hc
  have cld : Looks M hh (classData C) cd := looks_clsIn X' hcd
  have notT : Looks M hh (isType (.ref x)) false := by
    intro A Q E s k' q'
    obtain ⟨_, _, _, _, _⟩ := s
    refine ks_wpAny_isType_inst (k' _ _ hx) (fun c e => ?_) q'
    have := I.no
    unfold notCls at this
    rw [e] at this
    exact Bool.noConfusion this
  unfold checkBoundCall
  simp only [pop_sig', pop_kind, pop_varargs]
  repeat (first | exact q | simp only [hqn, pop_full, pop_args] | lk)
theorem entry_len' : entryFor table "list.__len__" = some Builtin.«list.__len__» := entryFor_of_tree (by kernel_rfl)
theorem entry_init' : entryFor table "list.__init__" = some Builtin.«list.__init__» := entryFor_of_tree (by kernel_rfl)
theorem entry_pop' : entryFor table "list.pop" = some Builtin.«list.pop» := entryFor_of_tree (by kernel_rfl)
theorem plain_init' : plainId "list.__init__" = true := by decide +kernel
theorem plain_len' : plainId "list.__len__" = true := by decide +kernel
theorem plain_pop' : plainId "list.pop" = true := by decide +kernel
set_option maxHeartbeats 1000000 in
theorem run_init (F : Fr h₀ L s.heap m) (N : News h₀ L s.heap news) (hx : (x, accObj C dx [] n) ∈ news) (U : Upd x (accObj C dx [] n) (accObj C dx [] n) news news)
    (h : ∀ h', Fr h₀ L h' m → News h₀ L h' news → Q .none { s with heap := h' }) :
    wpAny (model prog w) A (Builtin.«list.__init__» ⟨[.ref x], []⟩) (fun fin s' => ∃ v, fin = .done (.ret v) ∧ Q v s') E s := by
  obtain ⟨pre, post, e1, e2, a, b⟩ := U.split
  have hx' := (N _ hx).1
  obtain ⟨hh, g, d, t, os⟩ := s
  dsimp only at hx'
  rw [e1] at N
  obtain ⟨U1, U2⟩ := news_upd (f := Obj.mapSeq fun _ => #[]) (o' := accObj C dx [] n) F N a b (by simp [Obj.mapSeq]) rfl
  rw [← e1] at U2
  have q := h _ U1 U2
  unfold Builtin.«list.__init__» Builtin.List.listUpdate updateSeq Builtin.List.listItems seqItems?
  have hl := (U2 _ hx).1
  have pl : (Data.seq (([] : List Value).toArray) n).pastItsLine = none := pastItsLine_seq (by rw [sizeLine_eq, List.size_toArray, List.length_nil]; omega)
  repeat (first | with_reducible exact ⟨_, rfl, q⟩ | (with_reducible refine wpAny_update hx' ?_) | (with_reducible refine wpAny_lookBehind hl pl ?_) | lk)
theorem run_len (N : News h₀ L s.heap news) (hx : (x, accObj C dx vs n) ∈ news) 
    (h : Q (.int vs.length s.toks) { s with toks := s.toks + 1 }) :
    wpAny (model prog w) A (Builtin.«list.__len__» ⟨[.ref x], []⟩) (fun fin s' => ∃ v, fin = .done (.ret v) ∧ Q v s') E s := by
  have hx' := (N _ hx).1
  obtain ⟨hh, g, d, t, os⟩ := s
  dsimp only at hx'
  unfold Builtin.«list.__len__»
  repeat (first | exact ⟨_, rfl, h⟩ | lk)
set_option maxHeartbeats 1000000 in
theorem run_pop {v : Value} (F : Fr h₀ L s.heap m) (N : News h₀ L s.heap news) (hx : (x, accObj C dx (vs ++ [v]) n) ∈ news) (U : Upd x (accObj C dx (vs ++ [v]) n) (accObj C dx vs (n + 1)) news news') (hz : vs.length ≤ 10000)
    (h : ∀ h', Fr h₀ L h' m → News h₀ L h' news' → Q v { s with heap := h' }) :
    wpAny (model prog w) A (Builtin.«list.pop» ⟨[.ref x], []⟩) (fun fin s' => ∃ v, fin = .done (.ret v) ∧ Q v s') E s := by
  obtain ⟨pre, post, e1, e2, a, b⟩ := U.split
  have hx' := (N _ hx).1
  obtain ⟨hh, g, d, t, os⟩ := s
  dsimp only at hx'
  rw [e1] at N
  have ei : (vs ++ [v]).toArray.eraseIdxIfInBounds vs.length = vs.toArray := by rw [kl_erase vs [] v, List.append_nil]
  obtain ⟨U1, U2⟩ := news_upd (f := Obj.mapSeq (·.eraseIdxIfInBounds vs.length)) (o' := accObj C dx vs (n + 1)) F N a b (by simp only [Obj.mapSeq, ei]; simp) rfl
  rw [← e2] at U2
  have q := h _ U1 U2
  have hl := (U2 (x, accObj C dx vs (n + 1)) (by rw [e2]; simp)).1
  have pl : (Data.seq vs.toArray (n + 1)).pastItsLine = none := pastItsLine_seq (by rw [sizeLine_eq, List.size_toArray]; omega)
  have ne : (vs ++ [v]).toArray.isEmpty = false := by simp
  have hk : ((seqIndex? (-1) (vs ++ [v]).toArray.size).bind fun k => (vs ++ [v]).toArray[k]?.map (k, ·)) = some (vs.length, v) := by
    have : seqIndex? (-1) (vs ++ [v]).toArray.size = some vs.length := by
      rw [List.size_toArray, List.length_append, List.length_singleton]
      unfold seqIndex?
      rw [if_pos (by omega : (-1 : Int) < 0)]
      rw [if_pos (by simp; omega)]
      congr 1; omega
    rw [this]; simp
  have hf : Builtin.List.listFitsIndex (-1) = true := by decide +kernel
  unfold Builtin.«list.pop» Builtin.List.listUpdate updateSeq Builtin.List.listItems seqItems?
  repeat (first | with_reducible exact ⟨_, rfl, q⟩ | (with_reducible refine wpAny_update hx' ?_) | (with_reducible refine wpAny_lookBehind hl pl ?_) | simp only [ne, hk, hf, Bool.not_true, Bool.false_eq_true, if_false] | lk)
theorem super_init (F : Fr h₀ L s.heap m) (N : News h₀ L s.heap news) (hq : (q, boundObj "method-wrapper" "list.__init__" x) ∈ news) (hx : (x, accObj C dx [] n) ∈ news) (U : Upd x (accObj C dx [] n) (accObj C dx [] n) news news)
    (h : ∀ h', Fr h₀ L h' m → News h₀ L h' news → Q .none { s with heap := h' }) : wpAny (model prog w) A (callWith pos (.ref q) [] (backTo pos (starEach [] env)) []) Q E s :=
  callB N hq (.inl rfl) entry_init' plain_init' (by rw [chk_init]; exact .now) (run_init F N hx U h)
theorem super_len (N : News h₀ L s.heap news) (hq : (q, boundObj "method-wrapper" "list.__len__" x) ∈ news) (hx : (x, accObj C dx vs n) ∈ news)
    (h : Q (.int vs.length s.toks) { s with toks := s.toks + 1 }) : wpAny (model prog w) A (callWith pos (.ref q) [] (backTo pos (starEach [] env)) []) Q E s :=
  callB N hq (.inl rfl) entry_len' plain_len' (by rw [chk_len]; exact .now) (run_len N hx h)
theorem super_pop {v : Value} {ox : Obj} {odx : Option Obj} (F : Fr h₀ L s.heap m) (X : K.In h₀) (N : News h₀ L s.heap news) (hq : (q, boundObj "builtin_function_or_method" "list.pop" x) ∈ news) (hx : (x, accObj C dx (vs ++ [v]) n) ∈ news) (U : Upd x (accObj C dx (vs ++ [v]) n) (accObj C dx vs (n + 1)) news news') (hz : vs.length ≤ 10000)
    (I : InstAt s.heap x ox C odx) (hm : mroIn K C (.type "module") = some false) (ht : typeIn K (.ref C) = some (.type "type")) (hc : (clsIn K C).map (·.qualname) = some ((Str.ofString "_Accumulator")))
    (h : ∀ h', Fr h₀ L h' m → News h₀ L h' news' → Q v { s with heap := h' }) : wpAny (model prog w) A (callWith pos (.ref q) [] (backTo pos (starEach [] env)) []) Q E s :=
  callB N hq (.inr rfl) entry_pop' plain_pop' (chk_pop (X.keeps F.keep) I hm ht hc) (run_pop F N hx U hz h)
end
/-- what may be put in the place of an entry of an unknown ledger -/
noncomputable def Puts (x : Addr) (o : Obj) (news : Led) (put : Obj → Led) : Prop := ∀ o', Upd x o o' news (put o')
theorem Puts.at {x : Addr} {o o' : Obj} {news : Led} {put : Obj → Led} (h : Puts x o news put) : Upd x o o' news (put o') := h o'
theorem ne_all {d x : Addr} {o : Obj} {news : Led} (h : ∀ p ∈ news, @LT.lt Nat _ p.1 d) (hm : (x, o) ∈ news) : d ≠ x := fun e => Nat.lt_irrefl _ (e ▸ h _ hm)
theorem ne_all' {d x : Addr} {o : Obj} {news : Led} (h : ∀ p ∈ news, p.1 ≠ d) (hm : (x, o) ∈ news) : d ≠ x := fun e => h _ hm e.symm
set_option hygiene true
local macro_rules | `(tactic| k_upd) => `(tactic| first | (refine' Upd.tail ?a ?b; (case a => exact ne_all (by assumption) (by walk_at "mem")); (case b => k_upd)) | fail)
set_option hygiene false
local macro_rules | `(tactic| k_upd) => `(tactic| first | (refine' Puts.at (by assumption)) | fail)
local macro_rules | `(tactic| walk_at "callWith ref") => `(tactic| (k_here; k_dflt ((with_reducible show wpAny _ _ (callWith _ (Value.ref _) [] (backTo _ (starEach [] _)) []) _ _ _); refine' super_init (by k_asm) (by k_asm) (by walk_at "mem") (by walk_at "mem") (by k_upd) ?_); intros))
local macro_rules | `(tactic| walk_at "callWith ref") => `(tactic| (k_here; k_dflt ((with_reducible show wpAny _ _ (callWith _ (Value.ref _) [] (backTo _ (starEach [] _)) []) _ _ _); refine' super_len (by k_asm) (by walk_at "mem") (by walk_at "mem") ?_)))
local macro_rules | `(tactic| walk_at "callWith ref") => `(tactic| (k_here; k_dflt ((with_reducible show wpAny _ _ (callWith _ (Value.ref _) [] (backTo _ (starEach [] _)) []) _ _ _); refine' super_pop (by k_asm) (by k_asm) (by k_asm) (by walk_at "mem") (by walk_at "mem") (by k_upd) (by omega) (by k_inst) (by kernel_rfl) (by kernel_rfl) (by kernel_rfl) ?_); intros))
-- Acc5
set_option maxRecDepth 100000
section
variable {prog : Program} {w : World} {A : Around} {E : Value → Shared → Prop} {K : Frag} {C D x dx so q : Addr} {s : Shared} {h₀ : Heap} {L : Addr} {m : Str → Option Value} {news news' : List (Addr × Obj)} {vs us : List Value} {n n' : Nat} {ox : Obj} {od : Option Obj} {name : Str} {pl : Sem Bool}
/-- what a text on the class says of the list beneath it -/
structure OverL (K : Frag) (C : Addr) : Prop where
  list : mroIn K C (.type "list") = some true
  deque : mroIn K C (.type "collections.deque") = some false
  get : findIn K (.ref C) "__getitem__" = some (some (.builtin "list.__getitem__"))
  set : findIn K (.ref C) "__setitem__" = some (some (.builtin "list.__setitem__"))
  iter : findIn K (.ref C) "__iter__" = some (some (.builtin "list.__iter__"))
theorem key_acc {o : Value} {nm : Str} {Q : Value → Shared → Prop} (X : K.In s.heap) (I : InstAt s.heap x ox C od) (O : OverL K C) (h : Q o s) : wpAny (model prog w) A (sequenceKey (.ref x) o nm) Q E s := by
  unfold sequenceKey
  refine wpAny_bind (I.type.here ?_)
  have no : Looks (model prog w) s.heap (isSubtype (.ref C) (.type "collections.deque")) false := looks_mroIn X O.deque
  have an : Looks (model prog w) s.heap (seqItemTypes.anyM fun n => isSubtype (.ref C) (.type n)) false := by
    refine no.andThen ?_
    exact .now
  dsimp only
  refine wpAny_bind (an.here ?_)
  exact wpAny_pure h
theorem special_acc {nm : Str} {id : String} {args : List Value} {Q : Option Value → Shared → Prop} (X : K.In s.heap) (I : InstAt s.heap x ox C od) (hf : findIn K (.ref C) nm = some (some (.builtin id))) (hb : ∀ self, bindSpecial (.builtin id) self = pure (.builtin id, [self]))
    (h : wpAny (model prog w) A (call (.builtin id) (.ref x :: args)) (fun v => Q (some v)) E s) : wpAny (model prog w) A (callSpecial? (.ref x) nm args) Q E s := by
  simp only [callSpecial?, specialOf]
  refine wpAny_bind (wpAny_bind (I.type.here ((looks_findIn X hf).here ?_)))
  simp only [hb]
  exact wpAny_holding (wpAny_bind (wpAny_pure (wpAny_bind (wpAny_mono h (fun v s' h' => wpAny_pure h') fun _ _ h' => h'))))
theorem get_kind : builtinKind "list.__getitem__" = some .method := by decide +kernel
theorem get_split : splitId "list.__getitem__" = some ("list", "__getitem__") := by decide +kernel
theorem set_kind : builtinKind "list.__setitem__" = some .slot := by decide +kernel
theorem set_split : splitId "list.__setitem__" = some ("list", "__setitem__") := by decide +kernel

theorem check_method' {M : Model} {i owner n : String} {self : Value} {rest : List Value} {Q : Unit → Shared → Prop}
    (hk : builtinKind i = some .method) (hs : splitId i = some (owner, n)) (hi : Looks M s.heap (isInstance self (.type owner)) true) (ha : argsOk i ⟨self :: rest, []⟩) (q : Q () s) :
    wpAny M A (checkBuiltinCall i ⟨self :: rest, []⟩) Q E s := by
  simp only [checkBuiltinCall, hk, hs]
  refine wpAny_bind (hi.here ?_)
  simp only [Bool.not_true, Bool.false_eq_true, if_false]
  cases hsig : Manifest.signature? i with
  | none => exact wpAny_pure q
  | some sig =>
    simp only [argsOk, hsig] at ha
    have h2 : Bind.checkArgs i sig ⟨self :: rest, []⟩ = pure () := ha
    first | (rw [h2]; exact wpAny_pure q) | (simp only [h2]; exact wpAny_pure q)

theorem get_acc {sl : Addr} {vl vu v3 : Value} {lo hi st : Option Int} {Q : Value → Shared → Prop} (X : K.In s.heap) (I : InstAt s.heap x (accObj C dx vs n) C od) (O : OverL K C)
    (hs : s.heap.IsSliceOf sl vl vu v3) (pl : IsPart vl lo) (pu : IsPart vu hi) (ps : IsPart v3 st) (h0 : st ≠ some 0)
    (h : Q (.ref s.heap.objs.size) { s with heap := s.heap.push { cls := .type "list", data := .seq (slicePick vs.toArray lo hi st) } })
    (hsz : vs.toArray.size ≤ sizeLine) : wpAny (model prog w) A (getItem (.ref x) (.ref sl)) Q E s := by
  obtain ⟨os, hos, hcs, hds⟩ := id hs
  have hTs : s.TypeIs (.ref sl) "slice" := ⟨os, hos, hcs⟩
  unfold getItem
  refine wpAny_holding ?_
  refine wpAny_bind (key_acc X I O ?_)
  refine wpAny_bind (special_acc X I O.get (slot_list_getitem).bind ?_)
  refine wpAny_call (codeAny_call_builtin slot_list_getitem.plain entry_list_getitem ?_)
  have sub : Looks (model prog w) s.heap (isInstance (.ref x) (.type "list")) true := I.type.andThen (looks_mroIn X O.list)
  refine check_method' (i := "list.__getitem__") (owner := "list") (n := "__getitem__") (rest := [.ref sl]) get_kind get_split sub (args_list_getitem _ _) ?_
  show wpAny _ _ (Builtin.List.listSubscript? (.ref sl) >>= _) _ _ s
  refine wpAny_bind ?_
  unfold Builtin.List.listSubscript?
  refine wpAny_bind (wpAny_specialOf hTs slice_no_index ?_)
  simp only [Option.isNone_none, if_true]
  refine wpAny_pure ?_
  show wpAny _ _ (typeOf (.ref sl) >>= _) _ _ s
  refine wpAny_bind (wpAny_typeOf hTs ?_)
  rw [if_neg (by decide)]
  rw [listSliceParts_eq]
  have hstep : ¬ ((rawPart st == rawInt 0) = true) := by
    cases st with
    | none => exact Bool.false_ne_true
    | some c =>
      intro hh
      have : c = 0 := by simpa [rawPart, rawInt] using hh
      exact h0 (by rw [this])
  refine wpAny_bind (wpAny_bind (wpAny_field hos hds (x := v3) rfl (wpAny_bind (wpAny_listPart ps ?_))))
  rw [if_neg hstep]
  refine wpAny_bind (wpAny_field hos hds (x := vl) rfl (wpAny_bind (wpAny_listPart pl ?_)))
  refine wpAny_bind (wpAny_field hos hds (x := vu) rfl (wpAny_bind (wpAny_listPart pu (wpAny_pure ?_))))
  refine wpAny_bind (m := Builtin.List.listItems (.ref x)) ?_
  unfold Builtin.List.listItems
  refine wpAny_bind (wpAny_seqItems I.at_ rfl (wpAny_pure ?_))
  refine wpAny_bind (wpAny_of_eq (sliceIndices_raw lo hi st vs.toArray.size h0) ?_)
  have hz' : sizeOk (.seq (slicePick vs.toArray lo hi st)) := Nat.le_trans (slicePick_size_le vs.toArray lo hi st) hsz
  refine wpAny_bind ?_
  refine wpAny_newObj_type (wpAny_pure ?_) hz'
  exact wpAny_pure h

theorem tail_acc {value slice : PySem.Expr} {i : Value} {ops : List Value} {Q : Value → Shared → Prop} (X : K.In s.heap) (I : InstAt s.heap x ox C od) (O : OverL K C) (h : wpAny (model prog w) A (getItem (.ref x) i) Q E s)
    (hs : subscripted slice false (.ref x) i = operate ops (getItem (.ref x) i)) (ht : ∀ r, letTemporaryGo value (.ref x) r = pure ()) :
    wpAny (model prog w) A (subscriptTail value slice (.ref x) i) Q E s := by
  unfold subscriptTail
  refine wpAny_bind ?_
  rw [getitemInPython_of_ne (by simp)]
  unfold specialOf
  refine wpAny_bind (wpAny_bind (I.type.here ((looks_findIn X O.get).here ?_)))
  have fin : wpAny (model prog w) A (subscripted slice false (.ref x) i) (fun r s₃ => wpAny (model prog w) A (letTemporaryGo value (.ref x) r >>= fun _ => pure r) Q E s₃) E s := by
    rw [hs]
    exact wpAny_operating (wpAny_mono h (fun r s₃ h₃ => wpAny_bind (wpAny_of_eq (ht r) (wpAny_pure h₃))) fun _ _ x => x)
  first
    | exact wpAny_pure (wpAny_bind fin)
    | exact wpAny_bind (wpAny_pure (wpAny_bind fin))
    | exact wpAny_bind fin
/-- row[i:] -/
theorem slice_acc {value slice : PySem.Expr} {vl vu : Value} {lo hi : Option Int} {zs : List Value} {o1 : Obj} {Q : Value → Shared → Prop} (F : Fr h₀ L s.heap m) (X₀ : K.In h₀) (N : News h₀ L s.heap news) (hx : (x, accObj C dx vs n) ∈ news) (hdx : (dx, o1) ∈ news) (O : OverL K C) (pl : IsPart vl lo) (pu : IsPart vu hi)
    (e : kms_pick vs lo hi = zs)
    (h : ∀ D h', Fr h₀ L h' m → News h₀ L h' ((D, lst zs 0) :: news) → (∀ p ∈ news, p.1 < D) → Q (.ref D) { s with heap := h' })
    (hs : subscripted slice false (.ref x) (.ref s.heap.objs.size) = operate [.ref s.heap.objs.size, .ref x] (getItem (.ref x) (.ref s.heap.objs.size))) (ht : ∀ r, letTemporaryGo value (.ref x) r = pure ()) (hz : vs.length ≤ 1000000) :
    wpAny (model prog w) A (subscriptTail value slice (.ref x) (.ref s.heap.objs.size)) Q E { s with heap := s.heap.push { cls := .type "slice", data := .fields #[vl, vu, .none] } } := by
  have F1 := F.push (o := { cls := .type "slice", data := .fields #[vl, vu, .none] })
  have N1 : News h₀ L (s.heap.push { cls := .type "slice", data := .fields #[vl, vu, .none] }) news := N.grown fun _ _ e => Heap.get?_push_of_some _ e
  have I : InstAt (s.heap.push { cls := .type "slice", data := .fields #[vl, vu, .none] }) x (accObj C dx vs n) C (some o1) := InstAt.of_acc N1 hx hdx
  refine tail_acc (X₀.keeps F1.keep) I O (get_acc (X₀.keeps F1.keep) I O (Heap.IsSliceOf.new ..) pl pu .none (by simp) ?_ (by rw [List.size_toArray, sizeLine_eq]; omega)) hs ht
  have N2 := News.push F1 N1 { cls := .type "list", data := .seq (slicePick vs.toArray lo hi none) }
  have e2 : slicePick vs.toArray lo hi none = zs.toArray := by rw [← e, kms_pick_eq]
  rw [e2] at N2 ⊢
  refine h _ _ (F1.push _) N2 ?_
  intro p hp
  show p.1 < (s.heap.push _).objs.size
  rw [Heap.size_push]
  exact Nat.lt_succ_of_lt (Heap.lt_size (N p hp).1)
theorem setitem_args (a b c : Value) : argsOk "list.__setitem__" ⟨[a, b, c], []⟩ := PySem.F.args_list_setitem_3 a b c
theorem bounds_tail (k sz : Nat) (h : k ≤ sz) : sliceBounds (some (k : Int)) none none sz = ((k : Int), (sz : Int), 1) := by
  simp only [sliceBounds, Option.getD_none, show (1 : Int) > 0 by decide, if_true]
  rw [if_neg (by omega)]
  congr 1
  omega
set_option maxHeartbeats 1000000 in
/-- row[i:] = [] -/
theorem cut_acc {sl e : Addr} {t : Tok} {k ne : Nat} {Q : Unit → Shared → Prop} (F : Fr h₀ L s.heap m) (X₀ : K.In h₀) (N : News h₀ L s.heap news) (hx : (x, accObj C dx (vs ++ us) n) ∈ news) {o1 : Obj} (hdx : (dx, o1) ∈ news) (O : OverL K C) (U : Upd x (accObj C dx (vs ++ us) n) (accObj C dx vs (n + 1)) news news')
    (hs : s.heap.IsSliceOf sl (.int k t) .none .none) (he : (e, lst [] ne) ∈ news) (hne : x ≠ e) (hk : k = vs.length) (hu : 0 < us.length) (hz : vs.length + us.length ≤ 1000000)
    (h : ∀ h', Fr h₀ L h' m → News h₀ L h' news' → Q () { s with heap := h' }) : wpAny (model prog w) A (setItem (.ref x) (.ref sl) (.ref e)) Q E s := by
  have X := X₀.keeps F.keep
  have I : InstAt s.heap x (accObj C dx (vs ++ us) n) C (some o1) := InstAt.of_acc N hx hdx
  obtain ⟨os, hos, hcs, hds⟩ := id hs
  have hTs : s.TypeIs (.ref sl) "slice" := ⟨os, hos, hcs⟩
  obtain ⟨pre, post, e1, e2, a, b⟩ := U.split
  have hx' := (N _ hx).1
  have he' := (N _ he).1
  have Nn := N
  rw [e1] at Nn
  have mx : (max (k : Int) ((vs ++ us).toArray.size : Int)).toNat = (vs ++ us).toArray.size := by
    rw [List.size_toArray, List.length_append]; omega
  have ee : ((vs ++ us).toArray.extract 0 ((k : Int)).toNat ++ ([] : List Value).toArray ++ (vs ++ us).toArray.extract (max (k : Int) ((vs ++ us).toArray.size : Int)).toNat (vs ++ us).toArray.size) = vs.toArray := by
    rw [mx, Int.toNat_natCast, hk]
    apply Array.toList_inj.mp; simp
  obtain ⟨U1, U2⟩ := news_upd (f := Obj.mapSeq fun xs => xs.extract 0 ((k : Int)).toNat ++ ([] : List Value).toArray ++ xs.extract (max (k : Int) ((vs ++ us).toArray.size : Int)).toNat xs.size) (o' := accObj C dx vs (n + 1)) F Nn a b (by
    simp only [Obj.mapSeq, ee]
    rw [if_neg (by simp only [List.size_toArray, List.length_append, beq_iff_eq]; omega)]) rfl
  rw [← e2] at U2
  have q := h _ U1 U2
  have hl := (U2 (x, accObj C dx vs (n + 1)) (by rw [e2]; simp)).1
  have pl : (Data.seq vs.toArray (n + 1)).pastItsLine = none := pastItsLine_seq (by rw [sizeLine_eq, List.size_toArray]; omega)
  have sub : Looks (model prog w) s.heap (isInstance (.ref x) (.type "list")) true := I.type.andThen (looks_mroIn X O.list)
  unfold setItem
  refine wpAny_holding ?_
  refine wpAny_bind (key_acc X I O ?_)
  refine wpAny_bind (special_acc X I O.set (PySem.F.slot_list_setitem).bind ?_)
  refine wpAny_call (codeAny_call_builtin PySem.F.slot_list_setitem.plain PySem.F.entry_list_setitem ?_)
  refine check_slot (i := "list.__setitem__") (owner := "list") (n := "__setitem__") (rest := [.ref sl, .ref e]) (kw := []) set_kind set_split sub (setitem_args _ _ _) ?_
  show wpAny _ _ (Builtin.List.listSubscript? (.ref sl) >>= _) _ _ s
  refine wpAny_bind ?_
  unfold Builtin.List.listSubscript?
  refine wpAny_bind (wpAny_specialOf hTs slice_no_index ?_)
  simp only [Option.isNone_none, if_true]
  refine wpAny_pure ?_
  show wpAny _ _ (typeOf (.ref sl) >>= _) _ _ s
  refine wpAny_bind (wpAny_typeOf hTs ?_)
  rw [if_neg (by decide)]
  rw [listSliceParts_eq]
  refine wpAny_bind (wpAny_bind (wpAny_field hos hds (x := .none) rfl (wpAny_bind (wpAny_listPart .none ?_))))
  rw [if_neg (by decide)]
  refine wpAny_bind (wpAny_field hos hds (x := .int k t) rfl (wpAny_bind (wpAny_listPart (.int _ _) ?_)))
  refine wpAny_bind (wpAny_field hos hds (x := .none) rfl (wpAny_bind (wpAny_listPart .none (wpAny_pure ?_))))
  have hsame : Builtin.List.listSameRef (.ref x) (.ref e) = false := by show (x == e) = false; simp [hne]
  have hsz : (vs ++ us).toArray.size = vs.length + us.length := by simp
  have long : Builtin.List.listTooLong ((vs ++ us).toArray.size + ([] : List Value).toArray.size) = false := by
    unfold Builtin.List.listTooLong
    rw [sizeLine_eq, hsz]
    simp; omega
  dsimp only
  rw [hsame]
  rw [if_neg (by decide)]
  have hTe : s.TypeIs (.ref e) "list" := ⟨_, he', rfl⟩
  refine wpAny_bind ?_
  unfold Builtin.List.listAllItems
  refine wpAny_bind (wpAny_typeOf hTe ?_)
  rw [if_pos (by decide)]
  have hsl : sliceIndices (rawPart (some (k : Int))) (rawPart none) (rawPart none) (vs ++ us).toArray.size = pure ((k : Int), ((vs ++ us).toArray.size : Int), 1) :=
    (sliceIndices_raw (some (k : Int)) none none _ (by simp)).trans (by rw [bounds_tail k _ (by rw [hsz]; omega)])
  unfold Builtin.List.listItems seqItems? Builtin.List.listUpdate updateSeq
  repeat (first | with_reducible exact q | with_reducible refine wpAny_of_eq hsl ?_ | (with_reducible refine wpAny_update hx' ?_) | (with_reducible refine wpAny_lookBehind hl pl ?_) | (with_reducible refine wpAny_letGo ?_) | simp only [long, Bool.false_eq_true, if_false] | lk)
theorem cut_lit {e : Addr} {t : Tok} {k ne : Nat} {Q : Unit → Shared → Prop} (F : Fr h₀ L s.heap m) (X₀ : K.In h₀) (N : News h₀ L s.heap news) (hx : (x, accObj C dx (vs ++ us) n) ∈ news) {o1 : Obj} (hdx : (dx, o1) ∈ news) (O : OverL K C) (U : Upd x (accObj C dx (vs ++ us) n) (accObj C dx vs (n + 1)) news news')
    (he : (e, lst [] ne) ∈ news) (hne : x ≠ e) (hk : k = vs.length) (hu : 0 < us.length) (hz : vs.length + us.length ≤ 1000000)
    (h : ∀ h', Fr h₀ L h' m → News h₀ L h' news' → Q () { s with heap := h' }) : wpAny (model prog w) A (setItem (.ref x) (.ref s.heap.objs.size) (.ref e)) Q E { s with heap := s.heap.push { cls := .type "slice", data := .fields #[.int k t, .none, .none] } } := by
  have F1 := F.push (o := { cls := .type "slice", data := .fields #[.int k t, .none, .none] })
  have N1 : News h₀ L (s.heap.push { cls := .type "slice", data := .fields #[.int k t, .none, .none] }) news := N.grown fun _ _ e => Heap.get?_push_of_some _ e
  exact cut_acc (s := { s with heap := s.heap.push { cls := .type "slice", data := .fields #[.int k t, .none, .none] } }) F1 X₀ N1 hx hdx O U (Heap.IsSliceOf.new ..) he hne hk hu hz h
end
-- Acc4
set_option maxRecDepth 100000
/-- what the law's file must say of the program around it -/
structure Out (prog : Program) : Prop where
  file : ((prog.main.file : Str) == (Str.ofString "/claim/cut.py")) = true
  top : (prog.main.scope.names.lookup ("super" : Str)).isSome = false
set_option hygiene false
local macro_rules | `(tactic| walk_at "wpAt") => `(tactic| (k_dflt (ks_step "attributeBase Call"; k_here; (rename Out _ => out9); refine ks_node (by k_asm) (by k_asm) (by k_asm) (by k_asm) (by k_is) (by rfl) (by rfl) (by k_inst) (by k_is) (by rfl) (by exact out9.file) (by k_is) (by k_is) (by k_is) (by k_is) (by decide) (by rfl) (by rfl) (by rfl) (by rfl) (by exact out9.top) (by first | boot_by_name | rfl | kernel_rfl) ?_; intros)))
local macro_rules | `(tactic| walk_at "gm") => `(tactic| ((case k1 => k_asm); (case k2 => k_asm); (case k3 => k_asm); (case k4 => k_mem); (case k5 => k_inst); (case k7 => ks_is); (case k6 => k_is); (case k8 => kernel_rfl); (case k9 => decide); intros; (try dsimp only)))
set_option hygiene true
local macro_rules | `(tactic| walk_at "getMethod ref") => `(tactic| (k_here; k_dflt ((with_reducible show wpAny _ _ (getMethod (Value.ref _) (PySem.Str.ofString "__init__") _) _ _ _); refine' ks_methodB (fun _ => got_init) ?k1 ?k2 ?k3 ?k4 ?k5 ?k6 ?k7 ?k8 ?k9 ?_; walk_at "gm")))
local macro_rules | `(tactic| walk_at "getMethod ref") => `(tactic| (k_here; k_dflt ((with_reducible show wpAny _ _ (getMethod (Value.ref _) (PySem.Str.ofString "__len__") _) _ _ _); refine' ks_methodB (fun _ => got_len) ?k1 ?k2 ?k3 ?k4 ?k5 ?k6 ?k7 ?k8 ?k9 ?_; walk_at "gm")))
local macro_rules | `(tactic| walk_at "getMethod ref") => `(tactic| (k_here; k_dflt ((with_reducible show wpAny _ _ (getMethod (Value.ref _) (PySem.Str.ofString "pop") _) _ _ _); refine' ks_methodB (fun _ => got_pop) ?k1 ?k2 ?k3 ?k4 ?k5 ?k6 ?k7 ?k8 ?k9 ?_; walk_at "gm")))
section
variable {prog : Program} {w : World} {A : Around} {E : Value → Shared → Prop} {K : Frag} {C D x dx so q : Addr} {s : Shared} {h₀ : Heap} {L : Addr} {m : Str → Option Value} {news news' : List (Addr × Obj)} {vs us : List Value} {n n' : Nat} {ox : Obj} {od : Option Obj} {name : Str} {pl : Sem Bool}
theorem method_any {f : Value} {tf : Value} {Q : Value × List Value → Shared → Prop} (X : K.In s.heap) (I : InstAt s.heap x ox C od) (hga : findIn K (.ref C) "__getattribute__" = some (some (.builtin "list.__getattribute__"))) (hk : findIn K (.ref C) "__getattr__" = some none)
    (hf : findIn K (.ref C) name = some (some f)) (ht : typeIn K f = some tf) (htf : (tf != .type "function" && tf != .type "method_descriptor" && tf != .type "wrapper_descriptor") = false) (hs : shadowIn od name = some false) (h : Q (f, [.ref x]) s) :
    wpAny (model prog w) A (getMethod (.ref x) name pl) Q E s := by
  have hcan : (Manifest.canonical "list.__getattribute__" != "object.__getattribute__") = false := by decide +kernel
  unfold getMethod specialOf
  refine wpAny_bind (wpAny_bind (I.type.here ((looks_findIn X hga).here ?_)))
  dsimp only
  rw [hcan, if_neg (by decide)]
  refine wpAny_bind (wpAny_bind (I.type.here ((looks_findIn X hk).here ?_)))
  refine wpAny_bind (wpAny_bind (I.type.here ((looks_findIn X hf).here (wpAny_bind ((looks_typeIn X ht).here ?_)))))
  rw [htf, if_neg (by decide)]
  refine wpAny_bind (wpAny_loadPart I.at_ ?_)
  have hd := I.dict
  cases e : ox.dict with
  | none => exact wpAny_bind (wpAny_rule (wpAny_pure h))
  | some dx =>
    cases od with
    | none => rw [e] at hd; exact hd.elim
    | some o =>
      rw [e] at hd
      obtain ⟨r, a, b⟩ := Option.map_eq_some_iff.mp hs
      refine wpAny_bind (wpAny_bind (wpAny_loadPart hd ?_))
      rw [nsLook_of a]
      cases r with
      | none => exact wpAny_pure (wpAny_bind (wpAny_rule (wpAny_pure h)))
      | some v => cases b
noncomputable def plainL (K : Frag) (C : Addr) : Bool := findIn K (.ref C) "__getattribute__" == some (some (.builtin "list.__getattribute__")) && findIn K (.ref C) "__getattr__" == some none
theorem method_acc {f tf : Value} {es : List DictEntry} {k : Nat} {Q : Value × List Value → Shared → Prop} (F : Fr h₀ L s.heap m) (X₀ : K.In h₀) (I : InstAt s.heap x ox C (some (dictOf es k))) (hg : plainL K C = true)
    (hf : findIn K (.ref C) name = some (some f)) (ht : typeIn K f = some tf) (htf : (tf != .type "function" && tf != .type "method_descriptor" && tf != .type "wrapper_descriptor") = false) (hl : getL name es = some none) (h : Q (f, [.ref x]) s) : wpAny (model prog w) A (getMethod (.ref x) name pl) Q E s := by
  unfold plainL at hg
  simp only [Bool.and_eq_true, beq_iff_eq] at hg
  exact method_any (X₀.keeps F.keep) I hg.1 hg.2 hf ht htf (by show (lookIn name (dictOf es k)).map _ = _; rw [lookIn_dict, hl]; rfl) h
theorem check_method {M : Model} {i owner n : String} {self : Value} {rest : List Value} {Q : Unit → Shared → Prop}
    (hk : builtinKind i = some .method) (hs : splitId i = some (owner, n)) (hi : Looks M s.heap (isInstance self (.type owner)) true) (ha : argsOk i ⟨self :: rest, []⟩) (q : Q () s) :
    wpAny M A (checkBuiltinCall i ⟨self :: rest, []⟩) Q E s := by
  simp only [checkBuiltinCall, hk, hs]
  refine wpAny_bind (hi.here ?_)
  simp only [Bool.not_true, Bool.false_eq_true, if_false]
  cases hsig : Manifest.signature? i with
  | none => exact wpAny_pure q
  | some sig =>
    simp only [argsOk, hsig] at ha
    have h2 : Bind.checkArgs i sig ⟨self :: rest, []⟩ = pure () := ha
    first | (rw [h2]; exact wpAny_pure q) | (simp only [h2]; exact wpAny_pure q)
end
theorem app_kind : builtinKind "list.append" = some .method := by decide +kernel
theorem app_split : splitId "list.append" = some ("list", "append") := by decide +kernel
theorem app_args (a b : Value) : argsOk "list.append" ⟨[a, b], []⟩ := by unfold argsOk; kernel_rfl
theorem app_entry : entryFor table "list.append" = some Builtin.«list.append» := entryFor_of_tree (by kernel_rfl)
theorem app_plain : plainId "list.append" = true := by decide +kernel
section
variable {prog : Program} {w : World} {A : Around} {E : Value → Shared → Prop} {K : Frag} {C D x dx so q : Addr} {s : Shared} {h₀ : Heap} {L : Addr} {m : Str → Option Value} {news news' : List (Addr × Obj)} {vs us : List Value} {n n' : Nat} {ox : Obj} {od : Option Obj} {Q : Value → Shared → Prop}
set_option maxHeartbeats 1000000 in
theorem append_acc {v : Value} (F : Fr h₀ L s.heap m) (X : K.In h₀) (N : News h₀ L s.heap news) (hx : (x, accObj C dx vs n) ∈ news) (U : Upd x (accObj C dx vs n) (accObj C dx (vs ++ [v]) (n + 1)) news news') (hz : vs.length ≤ 10000)
    (I : InstAt s.heap x ox C od) (hs : mroIn K C (.type "list") = some true)
    (h : ∀ h', Fr h₀ L h' m → News h₀ L h' news' → Q .none { s with heap := h' }) : wpAny (model prog w) A (call (.builtin "list.append") [.ref x, v]) Q E s := by
  refine wpAny_call (codeAny_call_builtin app_plain app_entry (check_method (i := "list.append") (owner := "list") (n := "append") (rest := [v]) app_kind app_split (sub_list (X.keeps F.keep) I hs) (app_args _ _) ?_))
  obtain ⟨pre, post, e1, e2, a, b⟩ := U.split
  have hx' := (N _ hx).1
  obtain ⟨hh, g, d, t, os⟩ := s
  dsimp only at hx'
  rw [e1] at N
  obtain ⟨U1, U2⟩ := news_upd (f := Obj.mapSeq (·.push v)) (o' := accObj C dx (vs ++ [v]) (n + 1)) F N a b (by simp [Obj.mapSeq]) rfl
  rw [← e2] at U2
  have q := h _ U1 U2
  have hl := (U2 (x, accObj C dx (vs ++ [v]) (n + 1)) (by rw [e2]; simp)).1
  have pl : (Data.seq (vs ++ [v]).toArray (n + 1)).pastItsLine = none := pastItsLine_seq (by rw [sizeLine_eq, List.size_toArray, List.length_append, List.length_singleton]; omega)
  unfold Builtin.«list.append» Builtin.List.listUpdate updateSeq
  repeat (first | with_reducible exact q | (with_reducible refine wpAny_update hx' ?_) | (with_reducible refine wpAny_lookBehind hl pl ?_) | lk)
end
set_option hygiene false
local macro_rules | `(tactic| walk_at "getMethod ref") => `(tactic| (k_here; k_dflt (refine' method_acc (by k_asm) (by k_asm) (by k_inst) (by kernel_rfl) (by k_is) (by k_is) (by decide) (by k_get) ?_)))
local macro_rules | `(tactic| walk_at "call builtin:list.append") => `(tactic| (k_here; k_dflt ((with_reducible show wpAny _ _ (call (Value.builtin _) [Value.ref _, _]) _ _ _); refine' append_acc (by k_asm) (by k_asm) (by k_asm) (by walk_at "mem") (by k_upd) (by omega) (by k_inst) (by kernel_rfl) ?_); intros; (try dsimp only)))
theorem overL (P : Params) : OverL (Mine.K0.heap_1 P) 115 := ⟨by kernel_rfl, by kernel_rfl, by kernel_rfl, by kernel_rfl, by kernel_rfl⟩
local macro_rules | `(tactic| walk_at "subscriptTail Name Slice ref ref") => `(tactic| (k_here; k_dflt ((with_reducible show wpAny _ _ (subscriptTail _ (PySem.Expr.Slice _ _ none _) (Value.ref _) (Value.ref _)) _ _ _); k_dflt (refine' slice_acc (by k_asm) (by k_asm) (by k_asm) (by walk_at "mem") (by walk_at "mem") (overL _) (by kmk_part) (by kmk_part) (by walk_at "pick") ?_ (by with_unfolding_all rfl) (by kmk_pure) (by walk_at "len")); intros; (try dsimp only))))
local macro_rules | `(tactic| walk_at "wpAt") => `(tactic| (k_dflt (dsimp only; ks_step "execs cons"; refine ks_wpAt_execs_cons ?_)))
theorem setitem_P (P : Params) : OverL (Mine.K0.heap_1 P) 115 := overL P
set_option hygiene true
local macro_rules | `(tactic| walk_at "setItem ref ref") => `(tactic| (k_here; k_dflt ((with_reducible show wpAny _ _ (setItem (Value.ref _) (Value.ref _) (Value.ref _)) _ _ _); refine' cut_lit (by k_asm) (by k_asm) (by k_asm) (by walk_at "mem") (by walk_at "mem") (overL _) (by k_upd) (by walk_at "mem") (by first | assumption | (refine' Ne.symm (ne_all ?l ?m); (case l => assumption); (case m => walk_at "mem"))) (by rfl) (by assumption) (by omega) ?_); intros; (try dsimp only)))
noncomputable abbrev tupOf (vs : List Value) : Obj := { cls := .type "tuple", data := .seq vs.toArray }
noncomputable abbrev accD (w : World) (t1 t2 : Tok) : Obj := dictOf [⟨PyData.keyHash w.params ((Str.ofString "_initial_size")), .str ((Str.ofString "_initial_size")) t1, .int 0 t2⟩] 1
noncomputable def NewAcc (w : World) (news : Led) (r : Value) (news' : Led) : Prop := ∃ x dx t1 t2, r = .ref x ∧ news' = (x, accObj 115 dx [] 0) :: (dx, accD w t1 t2) :: news ∧ (∀ p ∈ news, p.1 < dx) ∧ @LT.lt Nat _ dx x
theorem NewAcc.hand {w : World} {h₀ : Heap} {L x dx : Addr} {m : Str → Option Value} {s : Shared} {Q : Value → Shared → Prop} {news all : Led} {h : Heap} {tk : Nat} {t1 t2 : Tok}
    (hret : ∀ r news' h' tk', NewAcc w news r news' → Fr h₀ L h' m → News h₀ L h' news' → Q r { s with heap := h', toks := tk' })
    (F : Fr h₀ L h m) (N : News h₀ L h all) (hx : (x, accObj 115 dx [] 0) ∈ all) (hd : (dx, accD w t1 t2) ∈ all) (hs : ∀ p ∈ news, p ∈ all) (l1 : ∀ p ∈ news, p.1 < dx) (l2 : @LT.lt Nat _ dx x) : Q (.ref x) { s with heap := h, toks := tk } :=
  hret _ _ h tk ⟨x, dx, t1, t2, rfl, rfl, l1, l2⟩ F (fun p hp => (List.mem_cons.mp hp).elim (fun e => by subst e; exact N _ hx) fun hp => News.take2 N hd hs p hp)
set_option maxHeartbeats 8000000 in
theorem newAcc {prog : Program} {w : World} {base : Heap} {news : Led} (O : Out prog) : Does prog w base 115 [] 20 news (NewAcc w news) := by
  intro p loose mean mg mb dp un gd cn cs a₀ ccd cl outer A₀ h₀ L m s Q E B F X N T hk hd hu hret
  refine' call_clsL (fI := 52) F X N ?m ?i ?f ?_
  case m => kernel_rfl
  case i => k_is
  case f => k_is
  intro x dx h' F' N' l1 l2
  k_lt2 l2
  refine' ks_code_super ?k1 ?k2 ?k3 ?k4 ?k5 ?kA ?kF ?kK ?k6 ?k7 ?k8 ?k9 ?kB ?_ ?c1 ?c2 ?c3 ?c4
  case kA => exact rfl
  case kF => exact rfl
  case kK => assumption
  case k1 => k_asm
  case k2 => k_asm
  case k3 => k_asm
  case k4 => k_asm
  case k5 => k_asm
  case k6 => k_is
  case k7 => k_is
  case k8 => ktr_room
  case k9 => first | exact BindsTo.of_eq rfl | exact binds_K (by k_in) rfl (by k_is) rfl rfl rfl
  case kB => exact locs rfl
  case c1 => decide
  case c2 => exact rfl
  case c3 => exact rfl
  case c4 => exact rfl
  intro g' L' h' FG' F' N' B' X' T' l3; (try dsimp only)
  k_steps
  k_dflt (refine' set_acc ?k1 ?k2 ?k3 ?k4 ?k5 ?k6 ?k7 ?k8 ?_; (case k1 => k_asm); (case k2 => k_asm); (case k3 => k_asm); (case k4 => walk_at "mem"); (case k5 => k_upd); (case k6 => k_is); (case k7 => kernel_rfl); (case k8 => k_is))
  intro h' F' N'
  dsimp only
  k_steps
  refine' NewAcc.hand hret ?F ?N ?x ?d ?s l1 l2
  case F => assumption
  case N => assumption
  case x => walk_at "mem"
  case d => walk_at "mem"
  case s => walk_at "sub"

set_option maxHeartbeats 8000000 in
theorem count_does {prog : Program} {w : World} {base : Heap} {news : Led} {x dx : Addr} {vs : List Value} {n : Nat} {t1 t2 : Tok} (O : Out prog) (hx : (x, accObj 115 dx vs n) ∈ news) (hd : (dx, accD w t1 t2) ∈ news) : Does prog w base 112 [.ref x] 20 news (fun r news' => news' = news ∧ ∃ t, r = .int vs.length t) := by
  intro p loose mean mg mb dp un gd cn cs a₀ ccd cl outer A₀ h₀ L m s Q E B F X N T hk hd hu hret
  refine wpAny_call ?_
  refine' ks_code_super (binds := [((Str.ofString "self"), .ref x)]) ?k1 ?k2 ?k3 ?k4 ?k5 ?kA ?kF ?kK ?k6 ?k7 ?k8 ?k9 ?kB ?_ ?c1 ?c2 ?c3 ?c4; (case kA => exact rfl); (case kF => exact rfl); (case kK => assumption); (case k1 => k_asm); (case k2 => k_asm); (case k3 => k_asm); (case k4 => k_asm); (case k5 => k_asm); (case k6 => k_is); (case k7 => k_is); (case k8 => first | exact Nat.lt_of_le_of_lt (Nat.le_add_right _ _) (by assumption) | ktr_room); (case k9 => first | exact BindsTo.of_eq rfl | exact binds_K (by k_in) rfl (by k_is) rfl rfl rfl); (case kB => exact locs rfl); (case c1 => decide); (case c2 => exact rfl); (case c3 => exact rfl); (case c4 => exact rfl); intro g' L' h' FG' F' N' B' X' T' l3; (try dsimp only)
  k_steps
  refine hret _ news _ _ ⟨rfl, _, rfl⟩ (by assumption) ?_
  rename News h₀ _ _ _ => N9
  exact fun p hp => N9 p (by walk_at "mem")
-- Acc6
set_option maxRecDepth 100000
set_option hygiene false
local macro_rules | `(tactic| walk_at "call ref") => `(tactic| (k_here; k_dflt ((with_reducible show wpAny _ _ (call (Value.ref 112) _) _ _ _); refine' Does.ui (by walk_at "use") (count_does (by assumption) (by walk_at "mem") (by walk_at "mem")) (by walk_at "room") ?_; walk_at "gi")))
noncomputable def PushL (put : Obj → Led) (dx : Addr) (vs : List Value) (n : Nat) (a b : Value) (news : Led) (r : Value) (news' : Led) : Prop := r = .none ∧ ∃ T, news' = (T, tupOf [a, b]) :: put (accObj 115 dx (vs ++ [.ref T]) (n + 1)) ∧ ∀ p ∈ news, p.1 < T
theorem PushL.hand {put : Obj → Led} {dx : Addr} {vs : List Value} {n : Nat} {a b : Value} {news all : Led} {h₀ : Heap} {L T : Addr} {m : Str → Option Value} {s : Shared} {Q : Value → Shared → Prop} {h : Heap} {tk : Nat}
    (hret : ∀ r news' h' tk', PushL put dx vs n a b news r news' → Fr h₀ L h' m → News h₀ L h' news' → Q r { s with heap := h', toks := tk' })
    (F : Fr h₀ L h m) (N : News h₀ L h all) (hT : (T, tupOf [a, b]) ∈ all) (hs : ∀ p ∈ put (accObj 115 dx (vs ++ [.ref T]) (n + 1)), p ∈ all) (ho : ∀ p ∈ news, p.1 < T) : Q .none { s with heap := h, toks := tk } :=
  hret _ _ h tk ⟨rfl, T, rfl, ho⟩ F (News.take2 N hT hs)
set_option maxHeartbeats 8000000 in
theorem push_does {prog : Program} {w : World} {base : Heap} {news : Led} {put : Obj → Led} {x dx : Addr} {vs : List Value} {n : Nat} {t1 t2 : Tok} {a b : Value} (hx : (x, accObj 115 dx vs n) ∈ news) (hd : (dx, accD w t1 t2) ∈ news) (hp : Puts x (accObj 115 dx vs n) news put) (hz : vs.length ≤ 10000) :
    Does prog w base 59 [.ref x, a, b] 20 news (PushL put dx vs n a b news) := by
  intro p loose mean mg mb dp un gd cn cs a₀ ccd cl outer A₀ h₀ L m s Q E B F X N T hk hd hu hret
  refine wpAny_call ?_
  k_dflt (refine' code_def (binds := [((Str.ofString "self"), .ref x), ((Str.ofString "fws"), a), ((Str.ofString "string"), b)]) ?k1 ?k2 ?k3 ?k4 ?k5 ?kA ?kF ?kK ?k6 ?k7 ?k8 ?k9 ?kB ?_ ?c2 ?c3 ?c4 ?c5; (case kA => exact rfl); (case kF => exact rfl); (case kK => assumption); (case k1 => k_asm); (case k2 => k_asm); (case k3 => k_asm); (case k4 => k_asm); (case k5 => k_asm); (case k6 => k_is); (case k7 => k_is); (case k8 => first | exact Nat.lt_of_le_of_lt (Nat.le_add_right _ _) (by assumption) | ktr_room); (case k9 => first | exact BindsTo.of_eq rfl | exact binds_K (by k_in) rfl (by k_is) rfl rfl rfl); (case c5 => decide); (case kB => exact locs rfl); (case c2 => exact rfl); (case c3 => exact rfl); (case c4 => exact rfl); k_whole; intro g' L' h' FG' F' N' B' X' T'; (try dsimp only); (try k_fold))
  k_steps
  refine' PushL.hand hret ?F ?N ?x ?s ?o
  case F => assumption
  case N => assumption
  case x => walk_at "mem"
  case s => walk_at "sub"
  case o => walk_at "ord"
set_option maxHeartbeats 8000000 in
theorem pop_does {prog : Program} {w : World} {base : Heap} {news : Led} {put : Obj → Led} {x dx : Addr} {vs : List Value} {v : Value} {n : Nat} {t1 t2 : Tok} (O : Out prog) (hx : (x, accObj 115 dx (vs ++ [v]) n) ∈ news) (hd : (dx, accD w t1 t2) ∈ news) (hp : Puts x (accObj 115 dx (vs ++ [v]) n) news put) (hz : vs.length ≤ 10000) :
    Does prog w base 75 [.ref x] 40 news (fun r news' => r = v ∧ news' = put (accObj 115 dx vs (n + 1))) := by
  intro p loose mean mg mb dp un gd cn cs a₀ ccd cl outer A₀ h₀ L m s Q E B F X N T hk hd hu hret
  refine wpAny_call ?_
  refine' ks_code_super (binds := [((Str.ofString "self"), .ref x)]) ?k1 ?k2 ?k3 ?k4 ?k5 ?kA ?kF ?kK ?k6 ?k7 ?k8 ?k9 ?kB ?_ ?c1 ?c2 ?c3 ?c4; (case kA => exact rfl); (case kF => exact rfl); (case kK => assumption); (case k1 => k_asm); (case k2 => k_asm); (case k3 => k_asm); (case k4 => k_asm); (case k5 => k_asm); (case k6 => k_is); (case k7 => k_is); (case k8 => first | exact Nat.lt_of_le_of_lt (Nat.le_add_right _ _) (by assumption) | ktr_room); (case k9 => first | exact BindsTo.of_eq rfl | exact binds_K (by k_in) rfl (by k_is) rfl rfl rfl); (case kB => exact locs rfl); (case c1 => decide); (case c2 => exact rfl); (case c3 => exact rfl); (case c4 => exact rfl); intro g' L' h' FG' F' N' B' X' T' l3; (try dsimp only)
  k_steps
  · exfalso
    have e9 : (vs ++ [v]).length = vs.length + 1 := by simp
    omega
  · rename News h₀ _ _ _ => N9
    exact hret _ _ _ _ ⟨rfl, rfl⟩ (by assumption) (fun p hp => N9 p (by walk_at "mem"))
/-- pop of an empty one -/
noncomputable def Pop0 (news : Led) (r : Value) (news' : Led) : Prop := ∃ T u1 u2, r = .ref T ∧ news' = (T, tupOf [.str (Str.ofString "") u1, .str (Str.ofString "") u2]) :: news ∧ ∀ p ∈ news, p.1 < T
theorem Pop0.hand {news all : Led} {h₀ : Heap} {L T : Addr} {m : Str → Option Value} {s : Shared} {Q : Value → Shared → Prop} {h : Heap} {tk : Nat} {u1 u2 : Tok}
    (hret : ∀ r news' h' tk', Pop0 news r news' → Fr h₀ L h' m → News h₀ L h' news' → Q r { s with heap := h', toks := tk' })
    (F : Fr h₀ L h m) (N : News h₀ L h all) (hT : (T, tupOf [.str (Str.ofString "") u1, .str (Str.ofString "") u2]) ∈ all) (hs : ∀ p ∈ news, p ∈ all) (ho : ∀ p ∈ news, p.1 < T) : Q (.ref T) { s with heap := h, toks := tk } :=
  hret _ _ h tk ⟨T, u1, u2, rfl, rfl, ho⟩ F (News.take2 N hT hs)
theorem pop0_does {prog : Program} {w : World} {base : Heap} {news : Led} {x dx : Addr} {n : Nat} {t1 t2 : Tok} (O : Out prog) (hx : (x, accObj 115 dx [] n) ∈ news) (hd : (dx, accD w t1 t2) ∈ news) :
    Does prog w base 75 [.ref x] 40 news (Pop0 news) := by
  intro p loose mean mg mb dp un gd cn cs a₀ ccd cl outer A₀ h₀ L m s Q E B F X N T hk hd hu hret
  refine wpAny_call ?_
  refine' ks_code_super (binds := [((Str.ofString "self"), .ref x)]) ?k1 ?k2 ?k3 ?k4 ?k5 ?kA ?kF ?kK ?k6 ?k7 ?k8 ?k9 ?kB ?_ ?c1 ?c2 ?c3 ?c4; (case kA => exact rfl); (case kF => exact rfl); (case kK => assumption); (case k1 => k_asm); (case k2 => k_asm); (case k3 => k_asm); (case k4 => k_asm); (case k5 => k_asm); (case k6 => k_is); (case k7 => k_is); (case k8 => first | exact Nat.lt_of_le_of_lt (Nat.le_add_right _ _) (by assumption) | ktr_room); (case k9 => first | exact BindsTo.of_eq rfl | exact binds_K (by k_in) rfl (by k_is) rfl rfl rfl); (case kB => exact locs rfl); (case c1 => decide); (case c2 => exact rfl); (case c3 => exact rfl); (case c4 => exact rfl); intro g' L' h' FG' F' N' B' X' T' l3; (try dsimp only)
  k_steps
  refine' Pop0.hand hret ?F ?N ?x ?s ?o
  case F => assumption
  case N => assumption
  case x => walk_at "mem"
  case s => walk_at "sub"
  case o => walk_at "ord"
set_option maxHeartbeats 8000000 in
theorem popfrom_does {prog : Program} {w : World} {base : Heap} {news : Led} {put : Obj → Led} {x dx : Addr} {vs us : List Value} {n : Nat} {t1 t2 tk : Tok} (hx : (x, accObj 115 dx (vs ++ us) n) ∈ news) (hd : (dx, accD w t1 t2) ∈ news) (hp : Puts x (accObj 115 dx (vs ++ us) n) news put) (hz : vs.length ≤ 10000) (hu9 : us.length ≤ 1000) (hu0 : 0 < us.length) :
    Does prog w base 67 [.ref x, .int vs.length tk] 40 news (fun r news' => ∃ D, r = .ref D ∧ news' = (D, lst us 0) :: put (accObj 115 dx vs (n + 1)) ∧ ∀ p ∈ news, p.1 < D) := by
  intro p loose mean mg mb dp un gd cn cs a₀ ccd cl outer A₀ h₀ L m s Q E B F X N T hk hd hu hret
  refine wpAny_call ?_
  k_dflt (refine' code_def (binds := [((Str.ofString "self"), .ref x), ((Str.ofString "i"), .int vs.length tk)]) ?k1 ?k2 ?k3 ?k4 ?k5 ?kA ?kF ?kK ?k6 ?k7 ?k8 ?k9 ?kB ?_ ?c2 ?c3 ?c4 ?c5; (case kA => exact rfl); (case kF => exact rfl); (case kK => assumption); (case k1 => k_asm); (case k2 => k_asm); (case k3 => k_asm); (case k4 => k_asm); (case k5 => k_asm); (case k6 => k_is); (case k7 => k_is); (case k8 => first | exact Nat.lt_of_le_of_lt (Nat.le_add_right _ _) (by assumption) | ktr_room); (case k9 => first | exact BindsTo.of_eq rfl | exact binds_K (by k_in) rfl (by k_is) rfl rfl rfl); (case c5 => decide); (case kB => exact locs rfl); (case c2 => exact rfl); (case c3 => exact rfl); (case c4 => exact rfl); k_whole; intro g' L' h' FG' F' N' B' X' T'; (try dsimp only); (try k_fold))
  k_steps
  have e9 : List.drop ((vs.length : Int)).toNat (vs ++ us) = us := by simp
  rename News h₀ _ _ _ => N9
  rw [e9] at N9
  exact hret _ _ _ _ ⟨_, rfl, rfl, by assumption⟩ (by assumption) (News.take2 N9 (.tail _ (.head _)) (fun p hp => .tail _ (.tail _ hp)))
-- Q0
/-- a piece on a pile: its tuple's address, its text -/
structure Part where
  a : Addr
  x : Str
  t : Tok
  u : Tok
noncomputable def refs (l : List Part) : List Value := l.map fun p => .ref p.a
noncomputable def tups (l : List Part) : Led := l.map fun p => (p.a, tupOf [.str (Str.ofString " ") p.t, .str p.x p.u])
noncomputable def texts (l : List Part) : List Str := l.map (·.x)
theorem refs_app (l r : List Part) : refs (l ++ r) = refs l ++ refs r := List.map_append
theorem tups_app (l r : List Part) : tups (l ++ r) = tups l ++ tups r := List.map_append
theorem texts_app (l r : List Part) : texts (l ++ r) = texts l ++ texts r := List.map_append
theorem refs_len (l : List Part) : (refs l).length = l.length := List.length_map ..

/-- a call that may leave generators behind -/
noncomputable def DoesG (prog : Program) (w : World) (base : Heap) (f : Addr) (args : List Value) (d : Nat) (news : Led) (Ret : Value → Led → Prop) : Prop :=
  ∀ (p : Program) (loose : List Str) (mean : ExcName → Option Value) (mg mb : Str → Option Value) (dp un : Nat) (gd : Option (List Code)) (cn : Str) (cs : Scope) (a : Addr) (ccd : Value) (cl : List (Str × Addr)) (outer : List Env) (A₀ : Around) (h₀ : Heap) (L : Addr) (m : Str → Option Value) (s : Shared)
    (Q E : Value → Shared → Prop),
    Below A₀ base outer h₀ → Fr h₀ L s.heap m → Frag.In (Mine.K0.heap_1 w.params) h₀ → News h₀ L s.heap news → Top p loose mean mg mb h₀ → cs.kind = .function → dp + d < recursionLimit → un + 8 * d < cLine → AllBare s.gens →
    (∀ r news' s', Ret r news' → Fr h₀ L s'.heap m → News h₀ L s'.heap news' → AllBare s'.gens → s'.os = s.os → Q r s') →
    wpAny (model prog w) (ktrTop dp un gd cn cs L a ccd cl outer) (call (.ref f) args) Q E s
theorem DoesG.use {prog : Program} {w : World} {base : Heap} {f : Addr} {args : List Value} {d : Nat} {news : Led} {Ret : Value → Led → Prop} (D : DoesG prog w base f args d news Ret)
    {p : Program} {loose : List Str} {mean : ExcName → Option Value} {mg mb : Str → Option Value} {dp un : Nat} {gd : Option (List Code)} {cn : Str} {cs : Scope} {a : Addr} {ccd : Value} {cl : List (Str × Addr)} {outer : List Env} {A₀ : Around} {h₀ : Heap} {L : Addr} {m : Str → Option Value} {s : Shared}
    {Q E : Value → Shared → Prop}
    (B : Below A₀ base outer h₀) (F : Fr h₀ L s.heap m) (X : Frag.In (Mine.K0.heap_1 w.params) h₀) (N : News h₀ L s.heap news) (T : Top p loose mean mg mb h₀) (hk : cs.kind = .function) (hd : dp + d < recursionLimit) (hu : un + 8 * d < cLine) (hg : AllBare s.gens)
    (ret : ∀ r news' s', Ret r news' → Fr h₀ L s'.heap m → News h₀ L s'.heap news' → AllBare s'.gens → s'.os = s.os → Q r s') :
    wpAny (model prog w) (ktrTop dp un gd cn cs L a ccd cl outer) (call (.ref f) args) Q E s := D _ _ _ _ _ _ _ _ _ _ _ _ _ _ _ _ _ _ _ _ _ B F X N T hk hd hu hg ret
-- C1
section
variable {prog : Program} {w : World} {A : Around} {E : Value → Shared → Prop} {s s₁ : Shared} {h₀ : Heap} {L ax : Addr} {m : Str → Option Value} {news : Led} {n : Nat} {env : Env}
/-- a list of pairs, the second of each told -/
theorem rest_pairs {x x₂ : Str} {p2 : Pos} {scope : Scope} {cl : List (Str × Addr)} {S : Led → Prop} {Fin : List Value → Led → Prop} {ps : List Part} (hS : S news) (ht : ∀ q ∈ tups ps, q ∈ news) (hk : ∀ C, (compEnvC scope cl C env).scope.kind = .function) (hl : ∀ C, (compEnvC scope cl C env).kindOf x₂ = some .local) (hd : (x₂ == ("__debug__" : Str)) = false)
    (fin : ∀ ys, StrsAre ys (texts ps) → Fin ys news) :
    ∀ (k i : Nat) (ys : List Value), i + k = ps.length → StrsAre ys ((texts ps).take i) → LCp.CompRestP prog w A h₀ L m env (.Name x₂ p2) x x₂ scope cl s S (fun i v => (refs ps).toArray[i]? = some v) Fin k i ys news
  | 0, i, ys, e, sa => .zero (fin ys (by rw [List.take_of_length_le (by rw [texts, List.length_map]; omega)] at sa; exact sa))
  | k + 1, i, ys, e, sa => .succ (by
    intro v hv
    have hi : i < ps.length := by omega
    have hv' : v = .ref ps[i].a := by
      have : (refs ps)[i]? = some v := by simpa using hv
      rw [refs, List.getElem?_map, List.getElem?_eq_getElem hi] at this
      exact (Option.some.inj this).symm
    refine ⟨ps[i].a, tupOf [.str (Str.ofString " ") ps[i].t, .str ps[i].x ps[i].u], .str (Str.ofString " ") ps[i].t, .str ps[i].x ps[i].u, _, hv', ht _ (List.mem_map.mpr ⟨ps[i], List.getElem_mem hi, rfl⟩), rfl, rfl, ?_⟩
    intro I oI C oC D m₂ h tk E' hC hx hx2 F N off ne
    refine LCgL.ld_own N (.tail _ (.head _)) hC hx2 ?_ (hk C) (hl C) hd
    refine LCg.CompEnd.intro F N news (fun _ h => h) off hS ?_
    refine rest_pairs hS ht hk hl hd fin k (i + 1) _ (by omega) ?_
    have et : (texts ps).take (i + 1) = (texts ps).take i ++ [ps[i].x] := by
      rw [List.take_add_one, texts, List.getElem?_map, List.getElem?_eq_getElem hi]; rfl
    rw [et]
    exact sa.append' (.cons _ _ .nil))
theorem src_pairs {x x₂ : Str} {p2 : Pos} {scope : Scope} {cl : List (Str × Addr)} {Fin : Shared → List Value → Led → Prop} {ps : List Part} (hh : A.handled = none) (F : Fr h₀ L s₁.heap m) (N : News h₀ L s₁.heap news) (hm : (ax, lst (refs ps) n) ∈ news) (ht : ∀ q ∈ tups ps, q ∈ news) (hz : ps.length ≤ 1000000)
    (hk : ∀ C, (compEnvC scope cl C env).scope.kind = .function) (hl : ∀ C, (compEnvC scope cl C env).kindOf x₂ = some .local) (hd : (x₂ == ("__debug__" : Str)) = false) (fin : ∀ g ys, StrsAre ys (texts ps) → Fin { s₁ with heap := g } ys news) :
    LCp.SrcLP prog w A h₀ L m env (.Name x₂ p2) x x₂ scope cl Fin (.ref ax) s₁ := by
  refine LCp.SrcLP.ledger hh F N hm (by rw [List.size_toArray, refs, List.length_map, sizeLine_eq]; omega) fun g => ?_
  have e : (refs ps).toArray.size = ps.length := by rw [List.size_toArray, refs, List.length_map]
  rw [e]
  exact rest_pairs (.inr ⟨_, hm, rfl, _, rfl⟩) ht hk hl hd (fin g) ps.length 0 [] (by omega) .nil
end
-- C2
section
variable {prog : Program} {w : World} {A : Around} {E : Value → Shared → Prop} {s s₁ : Shared} {h₀ : Heap} {L ax : Addr} {m : Str → Option Value} {news : Led} {n : Nat} {env : Env}
theorem val_at {vs : List Value} {ws : List Str} (h : StrsAre vs ws) {i : Nat} {v : Value} (hv : vs.toArray[i]? = some v) : ∃ y t, v = .str y t ∧ ws[i]? = some y := by
  have hv' : vs[i]? = some v := by simpa using hv
  have hi : i < ws.length := by rw [← h.length]; exact (List.getElem?_eq_some_iff.mp hv').1
  obtain ⟨t, ht⟩ := h.get i ws[i] (List.getElem?_eq_getElem hi)
  rw [hv'] at ht
  exact ⟨ws[i], t, Option.some.inj ht, List.getElem?_eq_getElem hi⟩
theorem ints_snoc : ∀ {vs : List Value} {ns : List Int} {k : Int} {t : Tok}, IntsAre vs ns → IntsAre (vs ++ [.int k t]) (ns ++ [k])
  | _, _, _, _, .nil => .cons _ _ .nil
  | _, _, _, _, .cons _ _ h => .cons _ _ (ints_snoc h)
/-- a list of texts, each told by a call -/
noncomputable def EltOk (prog : Program) (w : World) (A : Around) (h₀ : Heap) (L : Addr) (m : Str → Option Value) (news : Led) (env : Env) (elt : PySem.Expr) (x : Str) (scope : Scope) (cl : List (Str × Addr)) (s : Shared) (f : Str → Int) (y : Str) : Prop :=
  ∀ (t : Tok) (I : Addr) (oI : Obj) (C : Addr) (oC : Obj) (D : Addr) (ys : List Value) (m₂ : Str → Option Value) (h : Heap) (tk : Nat) (E' : Value → Shared → Prop) (R : Value → Shared → Prop), LCg.NsObj oC m₂ → m₂ x = some (.str y t) → Fr h₀ L h m → News h₀ L h ((I, oI) :: (C, oC) :: (D, LCg.lst ys) :: news) →
    (∀ t' h' tk', Fr h₀ L h' m → News h₀ L h' ((I, oI) :: (C, oC) :: (D, LCg.lst ys) :: news) → R (.int (f y) t') { s with heap := h', toks := tk' }) → wpAny (model prog w) A (eval elt (compEnvC scope cl C env)) R E' { s with heap := h, toks := tk }
theorem rest_map {elt : PySem.Expr} {x : Str} {scope : Scope} {cl : List (Str × Addr)} {S : Led → Prop} {Fin : List Value → Led → Prop} {vs : List Value} {ws : List Str} {f : Str → Int} (hS : S news) (hw : StrsAre vs ws) (he : ∀ y ∈ ws, EltOk prog w A h₀ L m news env elt x scope cl s f y) (fin : ∀ ys, IntsAre ys (ws.map f) → Fin ys news) :
    ∀ (k i : Nat) (ys : List Value), i + k = ws.length → IntsAre ys ((ws.take i).map f) → LCg.CompRest prog w A h₀ L m env elt x scope cl s S (fun i v => vs.toArray[i]? = some v) Fin k i ys news
  | 0, i, ys, e, sa => .zero (fin ys (by rw [List.take_of_length_le (by omega)] at sa; exact sa))
  | k + 1, i, ys, e, sa => .succ (by
    intro v I oI C oC D m₂ h tk E' hv hC hx F N off ne
    obtain ⟨y, t, rfl, hy⟩ := val_at hw hv
    refine he y (List.mem_of_getElem? hy) t I oI C oC D ys m₂ h tk E' _ hC hx F N fun t' h' tk' F' N' => ?_
    refine LCg.CompEnd.intro F' N' news (fun _ h => h) off hS ?_
    refine rest_map hS hw he fin k (i + 1) _ (by omega) ?_
    rw [List.take_add_one, hy, List.map_append]
    exact ints_snoc sa)
theorem src_map {elt : PySem.Expr} {x : Str} {scope : Scope} {cl : List (Str × Addr)} {Fin : Shared → List Value → Led → Prop} {vs : List Value} {ws : List Str} {f : Str → Int} (hh : A.handled = none) (F : Fr h₀ L s₁.heap m) (N : News h₀ L s₁.heap news) (hm : (ax, lst vs n) ∈ news) (hw : StrsAre vs ws) (hz : ws.length ≤ 1000000)
    (he : ∀ g, ∀ y ∈ ws, EltOk prog w A h₀ L m news env elt x scope cl { s₁ with heap := g } f y) (fin : ∀ g ys, IntsAre ys (ws.map f) → Fin { s₁ with heap := g } ys news) :
    LCg.CompSrc prog w A h₀ L m env elt x scope cl Fin (.ref ax) s₁ := by
  refine LCg.CompSrc.ledger hh F N hm (by rw [List.size_toArray, hw.length, sizeLine_eq]; omega) fun g => ?_
  have e : vs.toArray.size = ws.length := by rw [List.size_toArray, hw.length]
  rw [e]
  exact rest_map (.inr ⟨_, hm, rfl, _, rfl⟩) hw (he g) (fin g) ws.length 0 [] (by omega) .nil
/-- a list of texts, those that pass a test -/
noncomputable def TestOk (prog : Program) (w : World) (A : Around) (h₀ : Heap) (L : Addr) (m : Str → Option Value) (news : Led) (env : Env) (ct : PySem.Expr) (x : Str) (scope : Scope) (cl : List (Str × Addr)) (s : Shared) (pz : Str → Bool) (y : Str) : Prop :=
  ∀ (t : Tok) (I : Addr) (oI : Obj) (C : Addr) (oC : Obj) (D : Addr) (ys : List Value) (m₂ : Str → Option Value) (h : Heap) (tk : Nat) (E' : Value → Shared → Prop) (R : Bool → Shared → Prop), LCg.NsObj oC m₂ → m₂ x = some (.str y t) → Fr h₀ L h m → News h₀ L h ((I, oI) :: (C, oC) :: (D, LCg.lst ys) :: news) →
    (∀ h' tk', Fr h₀ L h' m → News h₀ L h' ((I, oI) :: (C, oC) :: (D, LCg.lst ys) :: news) → R (pz y) { s with heap := h', toks := tk' }) → wpAny (model prog w) A (isTrue ct (compEnvC scope cl C env) (eval ct (compEnvC scope cl C env))) R E' { s with heap := h, toks := tk }
theorem filter_snoc {pz : Str → Bool} {ws : List Str} {i : Nat} {y : Str} (h : ws[i]? = some y) : (ws.take (i + 1)).filter pz = (ws.take i).filter pz ++ (if pz y = true then [y] else []) := by
  rw [List.take_add_one, h, List.filter_append]
  cases hp : pz y <;> simp [hp]
theorem rest_test {ct : PySem.Expr} {x : Str} {px : Pos} {scope : Scope} {cl : List (Str × Addr)} {S : Led → Prop} {Fin : List Value → Led → Prop} {vs : List Value} {ws : List Str} {pz : Str → Bool} (hS : S news) (hw : StrsAre vs ws) (hk : ∀ C, (compEnvC scope cl C env).scope.kind = .function) (hl : ∀ C, (compEnvC scope cl C env).kindOf x = some .local) (hd : (x == ("__debug__" : Str)) = false)
    (he : ∀ y ∈ ws, TestOk prog w A h₀ L m news env ct x scope cl s pz y) (fin : ∀ ys, StrsAre ys (ws.filter pz) → Fin ys news) :
    ∀ (k i : Nat) (ys : List Value), i + k = ws.length → StrsAre ys ((ws.take i).filter pz) → LCt.CompRestT prog w A h₀ L m env ct (.Name x px) x scope cl s S (fun i v => vs.toArray[i]? = some v) Fin k i ys news
  | 0, i, ys, e, sa => .zero (fin ys (by rw [List.take_of_length_le (by omega)] at sa; exact sa))
  | k + 1, i, ys, e, sa => .succ (by
    intro v I oI C oC D m₂ h tk E' hv hC hx F N off ne
    obtain ⟨y, t, rfl, hy⟩ := val_at hw hv
    refine he y (List.mem_of_getElem? hy) t I oI C oC D ys m₂ h tk E' _ hC hx F N fun h' tk' F' N' => ?_
    have es := filter_snoc (pz := pz) hy
    cases hp : pz y with
    | true =>
      rw [if_pos rfl]
      refine LCgL.ld_own N' (.tail _ (.head _)) hC hx ?_ (hk C) (hl C) hd
      refine LCg.CompEnd.intro F' N' news (fun _ h => h) off hS ?_
      refine rest_test hS hw hk hl hd he fin k (i + 1) _ (by omega) ?_
      rw [es, hp]
      exact sa.append' (.cons _ _ .nil)
    | false =>
      rw [if_neg (by decide)]
      refine LCg.CompEnd.intro F' N' news (fun _ h => h) off hS ?_
      refine rest_test hS hw hk hl hd he fin k (i + 1) _ (by omega) ?_
      rw [es, hp, if_neg (by decide), List.append_nil]
      exact sa)
theorem src_test {ct : PySem.Expr} {x : Str} {px : Pos} {scope : Scope} {cl : List (Str × Addr)} {Fin : Shared → List Value → Led → Prop} {vs : List Value} {ws : List Str} {pz : Str → Bool} (hh : A.handled = none) (F : Fr h₀ L s₁.heap m) (N : News h₀ L s₁.heap news) (hm : (ax, lst vs n) ∈ news) (hw : StrsAre vs ws) (hz : ws.length ≤ 1000000)
    (hk : ∀ C, (compEnvC scope cl C env).scope.kind = .function) (hl : ∀ C, (compEnvC scope cl C env).kindOf x = some .local) (hd : (x == ("__debug__" : Str)) = false)
    (he : ∀ g, ∀ y ∈ ws, TestOk prog w A h₀ L m news env ct x scope cl { s₁ with heap := g } pz y) (fin : ∀ g ys, StrsAre ys (ws.filter pz) → Fin { s₁ with heap := g } ys news) :
    LCt.CompSrcT prog w A h₀ L m env ct (.Name x px) x scope cl Fin (.ref ax) s₁ := by
  refine LCt.CompSrcT.ledger hh F N hm (by rw [List.size_toArray, hw.length, sizeLine_eq]; omega) fun g => ?_
  have e : vs.toArray.size = ws.length := by rw [List.size_toArray, hw.length]
  rw [e]
  exact rest_test (.inr ⟨_, hm, rfl, _, rfl⟩) hw hk hl hd (he g) (fin g) ws.length 0 [] (by omega) .nil
end
-- G0
set_option maxRecDepth 100000
section
variable {prog : Program} {w : World} {A : Around} {E : Value → Shared → Prop} {K : Frag} {C x dx : Addr} {s : Shared} {h₀ : Heap} {L : Addr} {m : Str → Option Value} {news : Led} {vs : List Value} {n : Nat} {od : Option Obj}
theorem iter_kind : builtinKind "list.__iter__" = some .slot := by decide +kernel
theorem iter_split : splitId "list.__iter__" = some ("list", "__iter__") := by decide +kernel
theorem iter_acc {Q : Value → Shared → Prop} (X : K.In s.heap) (I : InstAt s.heap x (accObj C dx vs n) C od) (O : OverL K C)
    (hQ : Q (.ref s.heap.objs.size) { s with heap := s.heap.push { cls := .type "list_iterator", data := .fields #[.ref x, .int 0 0] } }) : wpAny (model prog w) A (pyIter (.ref x)) Q E s := by
  have sub : Looks (model prog w) s.heap (isInstance (.ref x) (.type "list")) true := I.type.andThen (looks_mroIn X O.list)
  have body : wpAny (model prog w) A (call (.builtin "list.__iter__") [.ref x]) (fun it s' => (∃ T' r, s'.TypeIs it T' ∧ typeLookup (.type T') "__next__" = pure (some r)) ∧ Q it s') E s := by
    refine wpAny_call (codeAny_call_builtin slot_list_iter.plain entry_list_iter ?_)
    refine check_slot (i := "list.__iter__") (owner := "list") (n := "__iter__") (rest := []) (kw := []) iter_kind iter_split sub (args_list_iter _) ?_
    show wpAny _ _ (do ret (← newFields "list_iterator" [.ref x, rawInt 0])) _ _ s
    refine wpAny_bind (wpAny_newObj_type ?_)
    refine wpAny_pure ?_
    exact ⟨⟨"list_iterator", _, ⟨_, Heap.get?_push_size _ rfl, rfl⟩, slot_listiter_next.lookup⟩, hQ⟩
  unfold pyIter
  simp only [specialOf]
  refine wpAny_bind (wpAny_bind (I.type.here ((looks_findIn X O.iter).here ?_)))
  show wpAny _ _ (callSpecialIfBoundUnlessNone? (.ref x) "__iter__" _ >>= _) Q E s
  refine wpAny_bind ?_
  simp only [callSpecialIfBoundUnlessNone?, bindSpecialIfBound?, specialOf]
  refine wpAny_holding (wpAny_bind (wpAny_bind (wpAny_bind (I.type.here ((looks_findIn X O.iter).here ?_)))))
  simp only [slot_list_iter.bind]
  refine wpAny_bind (wpAny_askSetting (wpAny_ite ?_))
  have fin : ∀ {R : Option Value → Shared → Prop}, (∀ it s', (∃ T' r, s'.TypeIs it T' ∧ typeLookup (.type T') "__next__" = pure (some r)) → Q it s' → R (some it) s') →
      wpAny (model prog w) A (if (Value.builtin "list.__iter__" == Value.none) = true then ((do rule "iter.none"; raiseError "TypeError" s!"'{← typeNameOf (.ref x)}' object is not iterable") >>= fun v => pure (some v)) else (call (.builtin "list.__iter__") [.ref x] >>= fun v => pure (some v))) R E s := by
    intro R hR
    rw [if_neg (by decide)]
    exact wpAny_bind (wpAny_mono body (fun v s' h' => wpAny_pure (hR v s' h'.1 h'.2)) fun _ _ h' => h')
  have last : ∀ it s', (∃ T' r, s'.TypeIs it T' ∧ typeLookup (.type T') "__next__" = pure (some r)) → Q it s' → wpAny (model prog w) A (specialOf it "__next__" >>= fun o => match o with | none => (do rule "iter.non-iterator"; raiseError "TypeError" s!"iter() returned non-iterator of type '{← typeNameOf it}'") | some _ => pure it) Q E s' := by
    rintro it s' ⟨T', r, hT', hl⟩ hQ
    exact wpAny_bind (wpAny_specialOf hT' hl (wpAny_pure hQ))
  split
  · exact wpAny_bind (wpAny_pure (wpAny_pure (fin last)))
  · exact wpAny_tryCatch (wpAny_bind (wpAny_pure (wpAny_pure (fin last))))
theorem accI_end {I : Addr} {i : Nat} {Q : Option Value → Shared → Prop} (hh : A.handled = none) (hit : s.heap.IsListIter I x i) (ho : s.heap.get? x = some (accObj C dx vs n)) (hx : vs.toArray[i]? = none)
    (hQ : ∀ h', Heap.ExtBut I s.heap h' → Q none { s with heap := h' }) : wpAny (model prog w) A (pyNext (.ref I)) Q E s := by
  obtain ⟨oi, hoi, hc, hd⟩ := id hit
  unfold pyNext
  refine wpAny_bind (wpAny_attempt (wpAny_callSpecial?_slot (name := Str.ofString "__next__") hit.typeIs slot_listiter_next (wpAny_call_entry slot_listiter_next hit.typeIs entry_listiter_next ?_ (args_listiter_next _))))
  show wpAny _ _ (field (.ref I) 0 >>= _) _ _ s
  refine wpAny_bind (wpAny_field hoi hd (x := .ref x) rfl ?_)
  show wpAny _ _ (if (Value.ref x == Value.none) = true then _ else _) _ _ s
  rw [if_neg (show ¬ ((Value.ref x == Value.none) = true) from Bool.false_ne_true)]
  show wpAny _ _ (field (.ref I) 1 >>= _) _ _ s
  refine wpAny_bind (wpAny_field hoi hd (x := .int i 0) rfl ?_)
  show wpAny _ _ (seqItems? (.ref x) >>= _) _ _ s
  refine wpAny_bind (wpAny_seqItems ho rfl ?_)
  simp only [Int.toNat_natCast, hx]
  refine wpAny_bind (wpAny_rule (wpAny_bind (wpAny_setField hoi hd (by simp) ?_)))
  show wpAny _ _ (newExc (.type "StopIteration") [] >>= _) _ _ _
  refine wpAny_bind ?_
  simp only [newExc, newTuple]
  refine wpAny_bind (wpAny_newObj_type ?_ (by size_fits))
  refine wpAny_bind (m := firstArgMember _ _) (wpAny_of_eq (a := Value.none) (by first | rfl | (simp only [firstArgMember]; rfl)) ?_)
  refine wpAny_newObj_type ?_ (by size_fits)
  simp only [raiseNew]
  refine wpAny_bind (wpAny_handled ?_)
  rw [show A.in1.handled = none from hh]
  refine wpAny_bind (wpAny_pure (wpAny_throw ?_))
  refine wpAny_bind (wpAny_isInstance (T := "StopIteration") (b := true) ⟨_, Heap.get?_push_size _ rfl, rfl⟩ isSubtype_stop ?_)
  exact wpAny_pure (hQ _ (((Heap.SameBut.update ..).extBut.push _).push _))
theorem accI_item {I : Addr} {i : Nat} {v : Value} {Q : Option Value → Shared → Prop} (hit : s.heap.IsListIter I x i) (ho : s.heap.get? x = some (accObj C dx vs n)) (hx : vs.toArray[i]? = some v)
    (hQ : ∀ h', h'.IsListIter I x (i + 1) → Heap.SameBut I s.heap h' → Q (some v) { s with heap := h' }) : wpAny (model prog w) A (pyNext (.ref I)) Q E s := by
  obtain ⟨oi, hoi, hc, hd⟩ := id hit
  unfold pyNext
  refine wpAny_bind (wpAny_attempt (wpAny_callSpecial?_slot (name := Str.ofString "__next__") hit.typeIs slot_listiter_next (wpAny_call_entry slot_listiter_next hit.typeIs entry_listiter_next ?_ (args_listiter_next _))))
  show wpAny _ _ (field (.ref I) 0 >>= _) _ _ s
  refine wpAny_bind (wpAny_field hoi hd (x := .ref x) rfl ?_)
  show wpAny _ _ (if (Value.ref x == Value.none) = true then _ else _) _ _ s
  rw [if_neg (show ¬ ((Value.ref x == Value.none) = true) from Bool.false_ne_true)]
  show wpAny _ _ (field (.ref I) 1 >>= _) _ _ s
  refine wpAny_bind (wpAny_field hoi hd (x := .int i 0) rfl ?_)
  show wpAny _ _ (seqItems? (.ref x) >>= _) _ _ s
  refine wpAny_bind (wpAny_seqItems ho rfl ?_)
  simp only [Int.toNat_natCast, hx]
  refine wpAny_bind (wpAny_setField hoi hd (by simp) (wpAny_pure ⟨v, rfl, wpAny_pure (hQ _ ?_ (Heap.SameBut.update ..))⟩))
  exact ⟨_, Heap.get?_update_self _ hoi (Obj.isFreed_of_fields (Obj.data_mapFields hd _)), (Obj.cls_mapFields ..).trans hc, by
    rw [Obj.data_mapFields hd]; simp [rawInt]⟩
theorem walkAcc (hh : A.handled = none) (I : Addr) (hne : x ≠ I) (items : List Value) (Ts : Nat → Addr) (vals : Nat → Array Value)
    (hit : ∀ j, j < items.length → items[j]? = some (.ref (Ts j))) (hTI : ∀ j, j < items.length → Ts j ≠ I) :
    WalksU prog w A I (I :: x :: (List.range items.length).map Ts) [I] items.length (fun j v => v = vals j)
      (fun j h => h.IsListIter I x j ∧ h.get? x = some (accObj C dx items n) ∧ ∀ k, k < items.length → h.IsTuple (Ts k) (vals k))
      (fun j T h => (j < items.length ∧ T = Ts j) ∧ h.IsListIter I x (j + 1) ∧ h.get? x = some (accObj C dx items n) ∧ ∀ k, k < items.length → h.IsTuple (Ts k) (vals k)) where
  sub := fun b hb => by simp at hb; simp [hb]
  frame := fun _ _ _ st hk => ⟨st.1.at fun o e => hk I (by simp) o e, hk x (by simp) _ st.2.1,
    fun k hk' => (st.2.2 k hk').at fun o e => hk (Ts k) (List.mem_cons_of_mem _ (List.mem_cons_of_mem _ (List.mem_map.mpr ⟨k, List.mem_range.mpr hk', rfl⟩))) o e⟩
  item := fun i s Q E hi st hQ => by
    refine accI_item st.1 st.2.1 (v := .ref (Ts i)) (by simpa using hit i hi) fun h' hit' hs' => ?_
    have tup : ∀ k, k < items.length → h'.IsTuple (Ts k) (vals k) := fun k hk' => (st.2.2 k hk').extBut hs'.extBut (hTI k hk')
    exact hQ (Ts i) (vals i) h' s.toks rfl (tup i hi) ⟨⟨hi, rfl⟩, hit', hs'.extBut x _ hne st.2.1, tup⟩ fun b o hb e => hs'.extBut b o (fun h => hb (by simp [h])) e
  go := fun _ _ _ _ _ s Q _ hm hQ => wpAny_letOwnedTupleGo_listiter hm.2.1 (hQ s.heap hm.2 fun _ _ _ e => e)
  apart := fun j T _ hm hmem => by
    rcases List.mem_cons.mp hmem with e | e
    · exact hTI j hm.1.1 (hm.1.2 ▸ e)
    · cases e
  done := fun s Q E st hQ => accI_end hh st.1 st.2.1 (by simp) fun h' he' => hQ h' s.toks fun b o hb e => he' b o (fun h => hb (by simp [h])) e
  self := fun _ _ _ _ st hQ => wpAny_pyIter_listiter st.1 hQ
end
-- G1
set_option maxRecDepth 100000
/-- the expression that the generator tells -/
noncomputable abbrev eltE (p1 p2 p3 p4 p5 p6 : Pos) (k : Nat) : PySem.Expr := .Call (.Attribute (.Name (Str.ofString "EMPTYSTRING") p1) (Str.ofString "join") p2) [.Tuple [.Name (Str.ofString "fws") p3, .Name (Str.ofString "part") p4] k p5] [] p6
theorem passing_all (n : Nat) : passing (fun _ => true) n 0 = List.range n := by simp [passing]
section
variable {prog : Program} {w : World} {A : Around} {E : Value → Shared → Prop} {K : Frag} {x dx : Addr} {s : Shared} {h₀ : Heap} {L : Addr} {m : Str → Option Value} {news : Led} {n : Nat} {p : Program} {loose : List Str} {mean : ExcName → Option Value} {mg mb : Str → Option Value}
theorem elt_ok {env : Env} {scope : Scope} {cl : List (Str × Addr)} {C : Addr} {code : Value} {a b : Str} {t u te : Tok} {p1 p2 p3 p4 p5 p6 : Pos} {k : Nat} (F : Fr h₀ C s.heap m) (X : K.In h₀) (T : TopRead p loose mg mb h₀) (e : nsIn K mainGlobals (Str.ofString "EMPTYSTRING") = some (some (.str (Str.ofString "") te)))
    (ha : m (Str.ofString "fws") = some (.str a t)) (hb : m (Str.ofString "part") = some (.str b u)) (hl : a.length + b.length ≤ 100000) (hg : env.globals = mainGlobals) (hk : scope.kind = .function)
    {pl : Sem Bool} (he : eval (eltE p1 p2 p3 p4 p5 p6 k) (genEnv scope cl C code builtinsNs env) = (do
      let ov ← eval (.Name (Str.ofString "EMPTYSTRING") p1) (genEnv scope cl C code builtinsNs env)
      standAt p2.atName
      let (f, first) ← holding [ov] (getMethod ov (Str.ofString "join") pl)
      callWith p6 f first (backTo p6 (starEach [.Tuple [.Name (Str.ofString "fws") p3, .Name (Str.ofString "part") p4] k p5] (genEnv scope cl C code builtinsNs env))) []))
    (h1 : (genEnv scope cl C code builtinsNs env).kindOf (Str.ofString "EMPTYSTRING") = some .globalImplicit) (h2 : (genEnv scope cl C code builtinsNs env).kindOf (Str.ofString "fws") = some .local) (h3 : (genEnv scope cl C code builtinsNs env).kindOf (Str.ofString "part") = some .local) :
    wpAny (model prog w) A (eval (eltE p1 p2 p3 p4 p5 p6 k) (genEnv scope cl C code builtinsNs env)) (fun y s₃ => (∃ t, y = .str (Txt.join (Str.ofString "") [a, b]) t) ∧ Keeps s s₃) E s := by
  refine MethodCall_ (nameG_K F X T e ?_ hg hk h1 (by decide)) he
  refine GM.join ?_
  refine callWith_method1 (spliced_more (Tuple_ (spliced_more (ldVarG F ha (spliced_more (ldVarG F hb (spliced_none ?_) hk h3)) hk h2))))
  refine wpAny_newTuple (spliced_none ?_)
  refine join_tuple (D := s.heap.objs.size) (ys := [a, b]) ⟨_, Heap.get?_push_size _ rfl, rfl, _, rfl⟩ (.cons _ _ (.cons _ _ .nil)) ?_ fun t' k => ?_
  · show (a.length + (b.length + 0)) + 2 * (Str.length (Str.ofString "")) ≤ _
    have : Str.length (Str.ofString "") = 0 := by decide +kernel
    omega
  · exact ⟨⟨t', rfl⟩, _, _, rfl, fun b o e => Heap.get?_push_of_some _ e⟩
end
theorem sp_len0 : ((Str.ofString " ")).length = 1 := by decide +kernel
/-- what a turn of the generator tells -/
noncomputable abbrev tupAtP (ps : List Part) (j : Nat) : Addr × Obj := ((ps.getD j ⟨0, (Str.ofString ""), 0, 0⟩).a, tupOf [.str (Str.ofString " ") (ps.getD j ⟨0, (Str.ofString ""), 0, 0⟩).t, .str (ps.getD j ⟨0, (Str.ofString ""), 0, 0⟩).x (ps.getD j ⟨0, (Str.ofString ""), 0, 0⟩).u])
noncomputable def GenF (ps : List Part) (j : Nat) (y : Value) : Prop := ∃ q t, ps[j]? = some q ∧ y = .str (Txt.join (Str.ofString "") [(Str.ofString " "), q.x]) t
theorem refs_get {ps : List Part} {j : Nat} (h : j < ps.length) : (refs ps)[j]? = some (.ref ps[j].a) := by
  rw [refs, List.getElem?_map, List.getElem?_eq_getElem h]; rfl
section
variable {prog : Program} {w : World} {A : Around} {E : Value → Shared → Prop} {K : Frag} {x dx : Addr} {s : Shared} {h₀ : Heap} {L : Addr} {m : Str → Option Value} {news : Led} {n : Nat} {p : Program} {loose : List Str} {mean : ExcName → Option Value} {mg mb : Str → Option Value}
theorem gen_acc {cn : Str} {cs scope : Scope} {a₀ c P : Addr} {p1 p2 p3 p4 p5 p6 pa pb pt pi pos : Pos} {k kt : Nat} {ps : List Part} {od : Obj} {te : Tok} {Q : Value → Shared → Prop}
    (F : Fr h₀ L s.heap m) (X : K.In h₀) (O : OverL K 115) (T : Top p loose mean mg mb h₀) (C0 : CodeHd h₀ c P) (N : News h₀ L s.heap ((P, tabObj #[]) :: news)) (hP : ∀ q ∈ news, q.1 ≠ P)
    (hx : (x, accObj 115 dx (refs ps) n) ∈ news) (hd : (dx, od) ∈ news) (ht : ∀ q ∈ tups ps, q ∈ news) (hlen : ∀ q ∈ ps, q.x.length ≤ 1000) (e : nsIn K mainGlobals (Str.ofString "EMPTYSTRING") = some (some (.str (Str.ofString "") te)))
    (hself : m (Str.ofString "self") = some (.ref x)) (hl0 : (envOf cn cs L a₀ (.ref c)).kindOf (Str.ofString "self") = some .local) (hk0 : cs.kind = .function) (hh : A.handled = none) (hroom : A.depth < recursionLimit) (hG : AllBare s.gens)
    (hco : scope.isCoroutine = false) (hclos : closureFor scope (envOf cn cs L a₀ (.ref c)) = pure []) (hcell : ∀ y ∈ scope.names, y.2 ≠ .cell) (h0 : scope.names.lookup (".0" : Str) = some NameKind.local)
    (hxa : scope.names.lookup (Str.ofString "fws") = some .local) (hxb : scope.names.lookup (Str.ofString "part") = some .local) (hkind : scope.kind = .function)
    {pl : Addr → Value → Sem Bool} (he : ∀ (C : Addr) (code : Value), eval (eltE p1 p2 p3 p4 p5 p6 k) (genEnv scope [] C code builtinsNs (envOf cn cs L a₀ (.ref c))) = (do
      let ov ← eval (.Name (Str.ofString "EMPTYSTRING") p1) (genEnv scope [] C code builtinsNs (envOf cn cs L a₀ (.ref c)))
      standAt p2.atName
      let (f, first) ← holding [ov] (getMethod ov (Str.ofString "join") (pl C code))
      callWith p6 f first (backTo p6 (starEach [.Tuple [.Name (Str.ofString "fws") p3, .Name (Str.ofString "part") p4] k p5] (genEnv scope [] C code builtinsNs (envOf cn cs L a₀ (.ref c))))) []))
    (h1 : ∀ (C : Addr) (code : Value), (genEnv scope [] C code builtinsNs (envOf cn cs L a₀ (.ref c))).kindOf (Str.ofString "EMPTYSTRING") = some .globalImplicit) (h2 : ∀ (C : Addr) (code : Value), (genEnv scope [] C code builtinsNs (envOf cn cs L a₀ (.ref c))).kindOf (Str.ofString "fws") = some .local)
    (h3 : ∀ (C : Addr) (code : Value), (genEnv scope [] C code builtinsNs (envOf cn cs L a₀ (.ref c))).kindOf (Str.ofString "part") = some .local)
    (hs : ∀ v, genFold (.Name (Str.ofString "self") pi) (envOf cn cs L a₀ (.ref c)) v = pure v)
    (h : ∀ a s₅ Kk pt, Fr h₀ L s₅.heap m → News h₀ L s₅.heap ((P, tabObj pt) :: news) → AllBare s₅.gens → s₅.os = s.os → L ≤ Kk → (∀ q ∈ (P, tabObj pt) :: news, @LE.le Nat _ q.1 Kk) → (∃ FF, Gen prog w A Kk a ps.length FF s₅ ∧ ∀ j y, FF j y → GenF ps j y) → Q (.ref a) s₅) :
    wpAny (model prog w) A (eval (.GeneratorExp (eltE p1 p2 p3 p4 p5 p6 k) [⟨.Tuple [.Name (Str.ofString "fws") pa, .Name (Str.ofString "part") pb] kt pt, .Name (Str.ofString "self") pi, [], 0⟩] scope pos) (envOf cn cs L a₀ (.ref c))) Q E s := by
  have hNp := N _ (.head _)
  have N1 : News h₀ L s.heap news := fun q hq => N q (.tail _ hq)
  refine wpAny_GeneratorExp_walksQTD hh hco hclos hcell h0 hxa hxb (by decide) hkind hroom (ld F hself ?_ hk0 hl0 (by decide)) hs
  refine iter_acc (X.keeps F.keep) (InstAt.of_acc N1 hx hd) O ?_
  have F2 : Fr h₀ L (s.heap.push { cls := .type "list_iterator", data := .fields #[.ref x, .int 0 0] }) m := F.push _
  have N2 := N.keeps (h' := s.heap.push { cls := .type "list_iterator", data := .fields #[.ref x, .int 0 0] }) (fun b o e => Heap.get?_push_of_some _ e)
  refine ⟨T.nolimit.keeps F2.keep, ?_⟩
  have Cs : CodeHd (s.heap.push { cls := .type "list_iterator", data := .fields #[.ref x, .int 0 0] }) c P := C0.keeps F2.keep
  refine wpAny_genexprCodeX rfl (Cs.code (N2 _ (.head _)).1 trivial) (Cs.tab (N2 _ (.head _)).1) rfl fun c' h₃ tk₃ hx₃ hge hlt hcode₃ _ htab₃ _ => ?_
  have keep₃ : ∀ b o, h₀.get? b = some o → h₃.get? b = some o := fun b o e => hx₃ b o (fun q => by rw [q, hNp.2.2] at e; cases e) (F2.keep b o e)
  have news₃ : ∀ q ∈ news, h₃.get? q.1 = some q.2 := fun q hq => hx₃ _ _ (hP q hq) (N2 q (.tail _ hq)).1
  have F3 : Fr h₀ L h₃ m := ⟨F2.ns.extBut hx₃ (fun q => hNp.2.1 q.symm), keep₃, F2.above⟩
  have sz : (s.heap.push { cls := .type "list_iterator", data := .fields #[.ref x, .int 0 0] }).objs.size = s.heap.objs.size + 1 := Heap.size_push ..
  obtain ⟨bm, ob, b1, b2, b3, b4, b5, b6⟩ := T.bmain
  refine wpAny_builtinsFor (T.g.keeps keep₃) b1 b2 (keep₃ _ _ b3) b4 b5 b6 ?_
  have hxl : x < s.heap.objs.size := Heap.lt_size (N1 _ hx).1
  have hel : ∀ q ∈ news, @LT.lt Nat _ q.1 s.heap.objs.size := fun q hq => Heap.lt_size (N1 q hq).1
  have len : (refs ps).length = ps.length := List.length_map ..
  have hget : ∀ j (hj : j < ps.length), ps.getD j ⟨0, (Str.ofString ""), 0, 0⟩ = ps[j] := fun j hj => by rw [List.getD_eq_getElem?_getD, List.getElem?_eq_getElem hj]; rfl
  have htl : ∀ j, j < ps.length → tupAtP ps j ∈ news := fun j hj => by
    refine ht _ (List.mem_map.mpr ⟨ps[j], List.getElem_mem hj, ?_⟩)
    simp only [tupAtP, hget j hj]
  have W := fun (A' : Around) (hA : A'.handled = none) => (walkAcc (prog := prog) (w := w) (C := 115) (dx := dx) (n := n) hA s.heap.objs.size (Nat.ne_of_lt hxl) (refs ps) (fun j => (ps.getD j ⟨0, (Str.ofString ""), 0, 0⟩).a) (fun j => #[.str (Str.ofString " ") (ps.getD j ⟨0, (Str.ofString ""), 0, 0⟩).t, .str (ps.getD j ⟨0, (Str.ofString ""), 0, 0⟩).x (ps.getD j ⟨0, (Str.ofString ""), 0, 0⟩).u])
    (fun j hj => by rw [len] at hj; rw [refs_get hj, hget j hj]) (fun j hj => Nat.ne_of_lt (hel _ (htl j (len ▸ hj))))).bound
  have hLs : L < s.heap.objs.size := F.ns.lt
  have hLI : ∀ b, b ≤ L → b ∉ [s.heap.objs.size] := fun b hb hm => Nat.lt_irrefl _ (Nat.lt_of_le_of_lt (List.mem_singleton.mp hm ▸ hb) hLs)
  have hst : cStatics < s.heap.objs.size := (T.nolimit.keeps F.keep).elim fun _ q => q.1.lt
  refine ⟨s.heap.objs.size, _, _, _, _, _, _, fun _ => true, GenF ps, rfl, W, ?_, ?_, ?_, T.nolimit.keeps keep₃, ?_, ?_, ?_⟩
  · rintro i vals ⟨_, rfl⟩
    exact ⟨_, _, rfl⟩
  · refine ⟨⟨_, hx₃ _ _ (fun q => Nat.lt_irrefl _ (q ▸ Heap.lt_size hNp.1)) (Heap.get?_push_size _ rfl), rfl, rfl⟩, news₃ _ hx, fun k hk => ?_⟩
    exact ⟨_, news₃ _ (htl k (len ▸ hk)), rfl, _, rfl⟩
  · have hle : s.heap.objs.size + 1 ≤ h₃.objs.size := Nat.le_trans (sz ▸ hge) (Nat.le_of_lt hlt)
    intro b hb
    show b < h₃.objs.size
    rcases List.mem_cons.mp hb with rfl | hb
    · exact hle
    · refine Nat.lt_of_lt_of_le ?_ (Nat.le_trans (Nat.le_succ _) hle)
      rcases List.mem_cons.mp hb with rfl | hb
      · exact hxl
      · obtain ⟨k, hk, rfl⟩ := List.mem_map.mp hb
        exact hel _ (htl k (len ▸ List.mem_range.mp hk))
  · exact fun hm => Nat.lt_irrefl _ (List.mem_singleton.mp hm ▸ hst)
  · intro href hhref
    constructor
    · intro A' E' i va vb s₂ m₂ _ _ _ _ _ _ _ _
      exact wpAny_pure ⟨rfl, _, _, rfl, fun _ _ e => e⟩
    · rintro A' E' i va vb s₂ m₂ hA hD hU ⟨hi, hv⟩ _ hn hma hmb hkp
      have F9 : Fr h₀ h₃.objs.size s₂.heap m₂ := ⟨hn, fun b o e => hkp b (List.mem_range.mpr (Heap.lt_size (keep₃ b o e))) (hLI b (Nat.le_of_lt (Nat.lt_of_lt_of_le (Heap.lt_size e) F.above))) o (hhref b o (keep₃ b o e)),
        Nat.le_trans F.above (Nat.le_of_lt F3.ns.lt)⟩
      have hi' : i < ps.length := len ▸ hi
      simp only [hget i hi', Array.mk.injEq, List.cons.injEq, and_true] at hv
      obtain ⟨rfl, rfl⟩ := hv
      refine wpAny_mono (elt_ok F9 X (topRead_of T) e hma hmb ?_ rfl hkind (he _ _) (h1 _ _) (h2 _ _) (h3 _ _)) (fun y s₃ hy => ?_) fun _ _ e => e
      · have := hlen ps[i] (List.getElem_mem hi')
        rw [sp_len0]; omega
      · obtain ⟨⟨t, rfl⟩, hk⟩ := hy
        exact ⟨⟨ps[i], t, List.getElem?_eq_getElem hi', rfl⟩, hk⟩
  · intro a h₅ tk gs hgb hag hsz₅ hk₅ W5 hat
    refine h a _ (s.heap.objs.size - 1) _ ⟨F3.ns.keeps hk₅, fun b o e => hk₅ b o (keep₃ b o e), F.above⟩ (List.forall_mem_cons.mpr ⟨⟨hk₅ _ _ htab₃.2, hNp.2.1, hNp.2.2⟩, fun q hq => ⟨hk₅ _ _ (news₃ q hq), (N1 q hq).2⟩⟩) (hG.push hgb) rfl (Nat.le_sub_one_of_lt hLs) (List.forall_mem_cons.mpr ⟨Nat.le_sub_one_of_lt (Heap.lt_size hNp.1), fun q hq => Nat.le_sub_one_of_lt (hel q hq)⟩) ?_
    rw [passing_all, List.length_range] at W5
    rw [len] at W5 hat
    refine ⟨_, ⟨_, _, _, _, W5, hat, (fun i s' st => st.1.typeIs), List.mem_cons_self, ?_, ?_⟩, ?_⟩
    · intro b hb
      show b < h₅.objs.size
      rw [hsz₅]
      rcases List.mem_cons.mp hb with rfl | hb
      · exact Nat.lt_succ_self _
      · rcases List.mem_cons.mp hb with rfl | hb
        · exact Nat.lt_succ_of_lt hag
        · exact Nat.lt_succ_of_lt (Nat.lt_trans (List.mem_range.mp hb) hag)
    · intro b hb
      have hle : s.heap.objs.size + 1 ≤ h₃.objs.size := Nat.le_trans (sz ▸ hge) (Nat.le_of_lt hlt)
      rcases List.mem_cons.mp hb with rfl | hb
      · exact Nat.lt_of_lt_of_le (Nat.sub_lt (Nat.lt_of_le_of_lt (Nat.zero_le _) hxl) Nat.one_pos) (Nat.le_trans (Nat.le_succ _) hle)
      · rw [List.mem_singleton.mp hb]; exact Nat.sub_lt (Nat.lt_of_le_of_lt (Nat.zero_le _) hxl) Nat.one_pos
    · rintro j y ⟨i, hi, hF⟩
      obtain ⟨_, e9⟩ := List.getElem?_eq_some_iff.mp hi
      rw [List.getElem_range] at e9
      rw [e9]; exact hF
end
-- G2
set_option maxRecDepth 100000
/-- the text of a pile -/
noncomputable def pileText (ps : List Part) : Str := Txt.join (Str.ofString "") (ps.map fun q => Txt.join (Str.ofString "") [(Str.ofString " "), q.x])
theorem two_len (x : Str) : (Txt.join (Str.ofString "") [(Str.ofString " "), x]).length = 1 + x.length := by
  have h2 : Txt.join (Str.ofString "") [(Str.ofString " "), x] = Str.join (Str.ofString "") [(Str.ofString " "), x] := StrLaws.glued_eq_join _ _
  have h0 : ((Str.ofString "")).length = 0 := by decide +kernel
  rw [h2]
  show ((Str.ofString " ") ++ (Str.ofString "") ++ x).length = _
  rw [Str.length_append, Str.length_append, sp_len0, h0]
theorem sum_le' {B : Nat} : ∀ ps : List Part, (∀ q ∈ ps, q.x.length ≤ B) → ((ps.map fun q => Txt.join (Str.ofString "") [(Str.ofString " "), q.x]).map (·.length)).sum ≤ ps.length * (B + 1)
  | [], _ => by simp
  | q :: r, h => by
    have h1 := h q (.head _)
    have h2 := sum_le' r fun y hy => h y (.tail _ hy)
    simp only [List.map_cons, List.sum_cons, List.length_cons, two_len] at h2 ⊢
    rw [Nat.add_mul, Nat.one_mul]
    omega
theorem range_parts (ps : List Part) : (List.range ps.length).map (fun j => Txt.join (Str.ofString "") [(Str.ofString " "), (ps.getD j ⟨0, (Str.ofString ""), 0, 0⟩).x]) = ps.map fun q => Txt.join (Str.ofString "") [(Str.ofString " "), q.x] := by
  apply List.ext_getElem?
  intro i
  by_cases hi : i < ps.length
  · simp [hi, List.getD_eq_getElem?_getD]
  · simp [hi]
set_option maxHeartbeats 8000000 in
theorem str_does {prog : Program} {w : World} {base : Heap} {news : Led} {x dx : Addr} {ps : List Part} {n : Nat} {t1 t2 : Tok} (C0 : CodeHd base 88 84) (hx : (x, accObj 115 dx (refs ps) n) ∈ news) (hdx : (dx, accD w t1 t2) ∈ news) (ht : ∀ q ∈ tups ps, q ∈ news) (hP : ∀ q ∈ news, q.1 ≠ 84)
    (hlen : ∀ q ∈ ps, q.x.length ≤ 1000) (hz : ps.length ≤ 10000) :
    DoesG prog w base 89 [.ref x] 60 ((84, tabObj #[]) :: news) (fun r news' => (∃ pt, news' = (84, tabObj pt) :: news) ∧ ∃ t, r = .str (pileText ps) t) := by
  intro p loose mean mg mb dp un gd cn cs a₀ ccd cl outer A₀ h₀ L m s Q E B F X N T hk hd hu hg hret
  refine wpAny_call ?_
  k_dflt (refine' code_def (binds := [((Str.ofString "self"), .ref x)]) ?k1 ?k2 ?k3 ?k4 ?k5 ?kA ?kF ?kK ?k6 ?k7 ?k8 ?k9 ?kB ?_ ?c2 ?c3 ?c4 ?c5; (case kA => exact rfl); (case kF => exact rfl); (case kK => assumption); (case k1 => k_asm); (case k2 => k_asm); (case k3 => k_asm); (case k4 => k_asm); (case k5 => k_asm); (case k6 => k_is); (case k7 => k_is); (case k8 => first | exact Nat.lt_of_le_of_lt (Nat.le_add_right _ _) (by assumption) | ktr_room); (case k9 => first | exact BindsTo.of_eq rfl | exact binds_K (by k_in) rfl (by k_is) rfl rfl rfl); (case c5 => decide); (case kB => exact locs rfl); (case c2 => exact rfl); (case c3 => exact rfl); (case c4 => exact rfl); k_whole; intro g' L' h' FG' F' N' B' X' T'; (try dsimp only); (try k_fold))
  k_steps
  refine' gen_acc (K := Mine.K0.heap_1 w.params) (te := 220) F' X' (overL _) T' (CodeHd.keeps C0 (Below.stays B')) N' hP hx hdx ht hlen (by kernel_rfl) ?self (by rfl) rfl rfl ?room hg rfl (by rfl) ?cell (by rfl) (by rfl) (by rfl) rfl (fun _ _ => rfl) (fun _ _ => rfl) (fun _ _ => rfl) (fun _ _ => rfl) (fun _ => rfl) ?_
  case self => with_unfolding_all rfl
  case room => ktr_room
  case cell => decide
  intro a s₅ Kk pt F5 N5 G5 os5 hLK hK X5
  obtain ⟨FF, X5, hFF⟩ := X5
  dsimp only
  refine spliced_none ?_
  dsimp only [List.cons_append, List.nil_append]
  refine join_rowsK F5 G5 X5 hLK (fun j => Txt.join (Str.ofString "") [(Str.ofString " "), (ps.getD j ⟨0, (Str.ofString ""), 0, 0⟩).x]) ?tx ?ok ?_ ?sz
  case tx =>
    intro j v hv
    obtain ⟨q, t, hq, rfl⟩ := hFF j v hv
    refine ⟨t, ?_⟩
    rw [List.getD_eq_getElem?_getD, hq]; rfl
  case ok =>
    rw [range_parts]
    refine joinOk_of ?_
    have h1 := sum_le' ps hlen
    have h0 : ((Str.ofString "")).length = 0 := by decide +kernel
    rw [h0]
    omega
  case sz => rw [sizeLine_eq]; omega
  intro s' t' F6 G6 os6 hk6
  rw [range_parts]
  have N6 : News g' L' s'.heap ((84, tabObj pt) :: news) := fun q hq => ⟨hk6 q.1 q.2 (hK q hq) (N5 q hq).1, (N5 q hq).2⟩
  exact leaveK_ F6 N6 fun F7 N7 => hret _ _ s' ⟨⟨pt, rfl⟩, t', rfl⟩ F7 N7 G6 (os6.trans os5)
-- G3
set_option maxRecDepth 100000
theorem strof_does {prog : Program} {w : World} {base : Heap} {news : Led} {x dx : Addr} {ps : List Part} {n : Nat} {t1 t2 : Tok} (C0 : CodeHd base 88 84) (hx : (x, accObj 115 dx (refs ps) n) ∈ news) (hdx : (dx, accD w t1 t2) ∈ news) (ht : ∀ q ∈ tups ps, q ∈ news) (hP : ∀ q ∈ news, q.1 ≠ 84)
    (hlen : ∀ q ∈ ps, q.x.length ≤ 1000) (hz : ps.length ≤ 10000)
    {p : Program} {loose : List Str} {mean : ExcName → Option Value} {mg mb : Str → Option Value} {dp un : Nat} {gd : Option (List Code)} {cn : Str} {cs : Scope} {a : Addr} {ccd : Value} {cl : List (Str × Addr)} {outer : List Env} {A₀ : Around} {h₀ : Heap} {L : Addr} {m : Str → Option Value} {s : Shared}
    {Q E : Value → Shared → Prop}
    (B : Below A₀ base outer h₀) (F : Fr h₀ L s.heap m) (X : Frag.In (Mine.K0.heap_1 w.params) h₀) (N : News h₀ L s.heap ((84, tabObj #[]) :: news)) (T : Top p loose mean mg mb h₀) (hk : cs.kind = .function) (hd : dp + 60 < recursionLimit) (hu : un + 8 * 70 < cLine) (hg : AllBare s.gens)
    (ret : ∀ t s' pt, Fr h₀ L s'.heap m → News h₀ L s'.heap ((84, tabObj pt) :: news) → AllBare s'.gens → s'.os = s.os → Q (.str (pileText ps) t) s') :
    wpAny (model prog w) (ktrTop dp un gd cn cs L a ccd cl outer) (call (.type "str") [.ref x]) Q E s := by
  refine kso_call (K := Mine.K0.heap_1 w.params) (f := 89) (Nat.lt_of_le_of_lt (show un + 2 ≤ un + 8 * 70 by omega) hu) (X.keeps F.keep) (InstAt.of_acc (fun q hq => N q (.tail _ hq)) hx hdx) (by kernel_rfl) (by kernel_rfl) ?_
  show wpAny (model prog w) (ktrTop dp (un + 2) gd cn cs L a ccd cl outer) _ _ _ _
  refine DoesG.use (str_does C0 hx hdx ht hP hlen hz) B F X N T hk hd (by omega) hg ?_
  rintro r news' s' ⟨⟨pt, rfl⟩, t, rfl⟩ F' N' G' os'
  exact ret t s' pt F' N' G' os'
-- J0
theorem sp_eq : (Str.ofString " ") = (⟨#[32]⟩ : Str) := by decide +kernel
/-- words to one text, a space between -/
noncomputable def jn (ws : List Str) : Str := Txt.join (Str.ofString " ") ws
theorem jn_eq (ws : List Str) : jn ws = Str.join (Str.ofString " ") ws := StrLaws.glued_eq_join _ _
theorem str_ext {x y : Str} (h : x.cps.toList = y.cps.toList) : x = y := by
  cases x; cases y
  simp only [Str.mk.injEq]
  exact Array.ext' h
theorem jn_one (x : Str) : jn [x] = x := by rw [jn_eq]; rfl
theorem jn_cons (x : Str) {r : List Str} (h : r ≠ []) : jn (x :: r) = x ++ (Str.ofString " ") ++ jn r := by
  rw [jn_eq, jn_eq]
  cases r with
  | nil => exact absurd rfl h
  | cons y r => rfl
theorem app_list (x y : Str) : (x ++ y).cps.toList = x.cps.toList ++ y.cps.toList := by
  rw [Str.cps_append, Array.toList_append]
theorem sp_list : ((Str.ofString " ")).cps.toList = [32] := by rw [sp_eq]
theorem jn_cons_list (x : Str) {r : List Str} (h : r ≠ []) : (jn (x :: r)).cps.toList = x.cps.toList ++ 32 :: (jn r).cps.toList := by
  rw [jn_cons x h, app_list, app_list, sp_list]; simp
theorem jn_append {b : List Str} (hb : b ≠ []) : ∀ {a : List Str}, a ≠ [] → jn (a ++ b) = jn a ++ (Str.ofString " ") ++ jn b
  | [], h => absurd rfl h
  | [x], _ => by rw [List.singleton_append, jn_cons x hb, jn_one]
  | x :: y :: r, _ => by
    rw [List.cons_append, jn_cons x (by simp), jn_append hb (a := y :: r) (by simp), jn_cons x (r := y :: r) (by simp)]
    simp only [Str.append_assoc]
theorem cut_at {a b u v : List Nat} (ha : 32 ∉ a) (hb : 32 ∉ b) (h : a ++ 32 :: u = b ++ 32 :: v) : a = b ∧ u = v := by
  induction a generalizing b with
  | nil =>
    cases b with
    | nil => simpa using h
    | cons y b =>
      simp only [List.nil_append, List.cons_append, List.cons.injEq] at h
      exact absurd (h.1 ▸ List.Mem.head _) hb
  | cons x a ih =>
    cases b with
    | nil =>
      simp only [List.nil_append, List.cons_append, List.cons.injEq] at h
      exact absurd (h.1.symm ▸ List.Mem.head _) ha
    | cons y b =>
      simp only [List.cons_append, List.cons.injEq] at h
      obtain ⟨e1, e2⟩ := ih (fun m => ha (.tail _ m)) (fun m => hb (.tail _ m)) h.2
      exact ⟨by rw [h.1, e1], e2⟩
noncomputable def NoSp (x : Str) : Prop := 32 ∉ x.cps.toList
theorem jn_inj : ∀ {a b : List Str}, a ≠ [] → b ≠ [] → (∀ x ∈ a, NoSp x) → (∀ x ∈ b, NoSp x) → jn a = jn b → a = b
  | [], _, h, _, _, _, _ => absurd rfl h
  | _, [], _, h, _, _, _ => absurd rfl h
  | [x], [y], _, _, _, _, h => by rw [jn_one, jn_one] at h; rw [h]
  | [x], y :: z :: r, _, _, ha, _, h => by
    have e := congrArg (fun s : Str => s.cps.toList) h
    simp only [jn_one] at e
    rw [jn_cons_list y (by simp)] at e
    exact absurd (by rw [e]; simp) (ha x (.head _))
  | x :: z :: r, [y], _, _, _, hb, h => by
    have e := congrArg (fun s : Str => s.cps.toList) h
    simp only [jn_one] at e
    rw [jn_cons_list x (by simp)] at e
    exact absurd (by rw [← e]; simp) (hb y (.head _))
  | x :: z :: r, y :: w :: t, _, _, ha, hb, h => by
    have e := congrArg (fun s : Str => s.cps.toList) h
    rw [jn_cons_list x (by simp), jn_cons_list y (by simp)] at e
    obtain ⟨e1, e2⟩ := cut_at (ha x (.head _)) (hb y (.head _)) e
    rw [str_ext e1, jn_inj (by simp) (by simp) (fun u hu => ha u (.tail _ hu)) (fun u hu => hb u (.tail _ hu)) (str_ext e2)]
theorem split_jn {ws : List Str} (h0 : ws ≠ []) (h : ∀ x ∈ ws, NoSp x) : Txt.split (jn ws) (Str.ofString " ") = ws := by
  have f := StrLaws.split_free (jn ws) 32
  rw [← sp_eq] at f
  refine jn_inj ?_ h0 f h ?_
  · intro e
    have := split_pos (jn ws) (Str.ofString " ")
    rw [e] at this
    exact absurd this (by simp)
  · rw [jn_eq, StrLaws.join_split]
theorem jn_len : ∀ {ws : List Str} {B : Nat}, (∀ x ∈ ws, x.length ≤ B) → (jn ws).length ≤ ws.length * (B + 1)
  | [], _, _ => by rw [jn_eq]; exact Nat.zero_le _
  | [x], B, h => by rw [jn_one]; have := h x (.head _); simp; omega
  | x :: y :: r, B, h => by
    have h1 := h x (.head _)
    have h2 := jn_len (ws := y :: r) fun u hu => h u (.tail _ hu)
    have h3 : ((Str.ofString " ")).length = 1 := by decide +kernel
    rw [jn_cons x (by simp), Str.length_append, Str.length_append, h3]
    simp only [List.length_cons, Nat.add_mul] at h2 ⊢
    omega
-- Is
theorem eof_does {prog : Program} {w : World} {base : Heap} {news : Led} {x : Int} {t : Tok} : Does prog w base 143 [.int x t] 5 news (fun r news' => news' = news ∧ r = .bool (x == 0)) := by
  intro p loose mean mg mb dp un gd cn cs a₀ ccd cl outer A₀ h₀ L m s Q E B F X N Tp hk hd hu hret
  refine wpAny_call ?_
  k_dflt (refine' code_def (binds := [((Str.ofString "x"), .int x t)]) ?k1 ?k2 ?k3 ?k4 ?k5 ?kA ?kF ?kK ?k6 ?k7 ?k8 ?k9 ?kB ?_ ?c2 ?c3 ?c4 ?c5; (case kA => exact rfl); (case kF => exact rfl); (case kK => assumption); (case k1 => k_asm); (case k2 => k_asm); (case k3 => k_asm); (case k4 => k_asm); (case k5 => k_asm); (case k6 => k_is); (case k7 => k_is); (case k8 => first | exact Nat.lt_of_le_of_lt (Nat.le_add_right _ _) (by assumption) | ktr_room); (case k9 => first | exact BindsTo.of_eq rfl | exact binds_K (by k_in) rfl (by k_is) rfl rfl rfl); (case c5 => decide); (case kB => exact locs rfl); (case c2 => exact rfl); (case c3 => exact rfl); (case c4 => exact rfl); k_whole; intro g' L' h' FG' F' N' B' X' T'; (try dsimp only); (try k_fold))
  k_steps
  exact hret _ _ _ _ ⟨rfl, rfl⟩ (by assumption) (by assumption)
theorem term_does {prog : Program} {w : World} {base : Heap} {news : Led} {x : Int} {t : Tok} : Does prog w base 129 [.int x t] 5 news (fun r news' => news' = news ∧ r = .bool (decide (x < 256))) := by
  intro p loose mean mg mb dp un gd cn cs a₀ ccd cl outer A₀ h₀ L m s Q E B F X N Tp hk hd hu hret
  refine wpAny_call ?_
  k_dflt (refine' code_def (binds := [((Str.ofString "x"), .int x t)]) ?k1 ?k2 ?k3 ?k4 ?k5 ?kA ?kF ?kK ?k6 ?k7 ?k8 ?k9 ?kB ?_ ?c2 ?c3 ?c4 ?c5; (case kA => exact rfl); (case kF => exact rfl); (case kK => assumption); (case k1 => k_asm); (case k2 => k_asm); (case k3 => k_asm); (case k4 => k_asm); (case k5 => k_asm); (case k6 => k_is); (case k7 => k_is); (case k8 => first | exact Nat.lt_of_le_of_lt (Nat.le_add_right _ _) (by assumption) | ktr_room); (case k9 => first | exact BindsTo.of_eq rfl | exact binds_K (by k_in) rfl (by k_is) rfl rfl rfl); (case c5 => decide); (case kB => exact locs rfl); (case c2 => exact rfl); (case c3 => exact rfl); (case c4 => exact rfl); k_whole; intro g' L' h' FG' F' N' B' X' T'; (try dsimp only); (try k_fold))
  k_steps
  exact hret _ _ _ _ ⟨rfl, rfl⟩ (by assumption) (by assumption)
theorem nonterm_does {prog : Program} {w : World} {base : Heap} {news : Led} {x : Int} {t : Tok} : Does prog w base 136 [.int x t] 5 news (fun r news' => news' = news ∧ r = .bool (decide (256 ≤ x))) := by
  intro p loose mean mg mb dp un gd cn cs a₀ ccd cl outer A₀ h₀ L m s Q E B F X N Tp hk hd hu hret
  refine wpAny_call ?_
  k_dflt (refine' code_def (binds := [((Str.ofString "x"), .int x t)]) ?k1 ?k2 ?k3 ?k4 ?k5 ?kA ?kF ?kK ?k6 ?k7 ?k8 ?k9 ?kB ?_ ?c2 ?c3 ?c4 ?c5; (case kA => exact rfl); (case kF => exact rfl); (case kK => assumption); (case k1 => k_asm); (case k2 => k_asm); (case k3 => k_asm); (case k4 => k_asm); (case k5 => k_asm); (case k6 => k_is); (case k7 => k_is); (case k8 => first | exact Nat.lt_of_le_of_lt (Nat.le_add_right _ _) (by assumption) | ktr_room); (case k9 => first | exact BindsTo.of_eq rfl | exact binds_K (by k_in) rfl (by k_is) rfl rfl rfl); (case c5 => decide); (case kB => exact locs rfl); (case c2 => exact rfl); (case c3 => exact rfl); (case c4 => exact rfl); k_whole; intro g' L' h' FG' F' N' B' X' T'; (try dsimp only); (try k_fold))
  k_steps
  exact hret _ _ _ _ ⟨rfl, rfl⟩ (by assumption) (by assumption)
set_option hygiene false
local macro_rules | `(tactic| walk_at "call ref") => `(tactic| (k_here; k_dflt ((with_reducible show wpAny _ _ (call (Value.ref 143) _) _ _ _); refine' Does.uv (by walk_at "use") eof_does (by walk_at "room") ?_; walk_at "gi")))
local macro_rules | `(tactic| walk_at "call ref") => `(tactic| (k_here; k_dflt ((with_reducible show wpAny _ _ (call (Value.ref 129) _) _ _ _); refine' Does.uv (by walk_at "use") term_does (by walk_at "room") ?_; walk_at "gi")))
local macro_rules | `(tactic| walk_at "call ref") => `(tactic| (k_here; k_dflt ((with_reducible show wpAny _ _ (call (Value.ref 136) _) _ _ _); refine' Does.uv (by walk_at "use") nonterm_does (by walk_at "room") ?_; walk_at "gi")))
-- E2
noncomputable def Oks (ws : List Str) : Prop := ∀ x ∈ ws, PyData.strOk x = true
theorem Oks.nil : Oks [] := fun _ h => nomatch h
theorem Oks.cons {x : Str} {ws : List Str} (h : PyData.strOk x = true) (k : Oks ws) : Oks (x :: ws) := List.forall_mem_cons.mpr ⟨h, k⟩
theorem Oks.drop {ws : List Str} (h : Oks ws) (k : Nat) : Oks (ws.drop k) := fun x hx => h x (List.mem_of_mem_drop hx)
theorem Oks.take {ws : List Str} (h : Oks ws) (k : Nat) : Oks (ws.take k) := fun x hx => h x (List.mem_of_mem_take hx)
theorem Oks.append {ws xs : List Str} (h : Oks ws) (k : Oks xs) : Oks (ws ++ xs) := fun x hx => (List.mem_append.mp hx).elim (h x) (k x)
local macro_rules | `(tactic| walk_at "oks") => `(tactic| first | assumption | exact Oks.nil | (refine Oks.cons (by first | assumption | decide +kernel) ?_; walk_at "oks") | (refine Oks.drop ?_ _; walk_at "oks") | (refine Oks.take ?_ _; walk_at "oks") | (refine Oks.append ?_ ?_ <;> walk_at "oks"))

noncomputable def lawOutF : Nat → Str → List Str → List Str
  | 0, _, _ => []
  | k + 1, nm, ws =>
    if (!ws.any (· == nm)) = true then [(Str.ofString "@"), (Str.ofString "K")] ++ ws
    else if ws = [nm] then [(Str.ofString "I")]
    else if (!((ws.take (1 + lawEnd (ws.drop (Int.toNat 1))).toNat).drop (Int.toNat 1)).any (· == nm)) = true then
      if ws.drop (1 + lawEnd (ws.drop (Int.toNat 1))).toNat = [nm] then (ws.take (1 + lawEnd (ws.drop (Int.toNat 1))).toNat).drop (Int.toNat 1)
      else [(Str.ofString "@"), (Str.ofString "@"), (Str.ofString "B")] ++ (ws.take (1 + lawEnd (ws.drop (Int.toNat 1))).toNat).drop (Int.toNat 1) ++ lawOutF k nm (ws.drop (1 + lawEnd (ws.drop (Int.toNat 1))).toNat)
    else if (!(ws.drop (1 + lawEnd (ws.drop (Int.toNat 1))).toNat).any (· == nm)) = true then [(Str.ofString "@"), (Str.ofString "@"), (Str.ofString "C")] ++ lawOutF k nm ((ws.take (1 + lawEnd (ws.drop (Int.toNat 1))).toNat).drop (Int.toNat 1)) ++ ws.drop (1 + lawEnd (ws.drop (Int.toNat 1))).toNat
    else [(Str.ofString "@"), (Str.ofString "@"), (Str.ofString "S")] ++ lawOutF k nm ((ws.take (1 + lawEnd (ws.drop (Int.toNat 1))).toNat).drop (Int.toNat 1)) ++ lawOutF k nm (ws.drop (1 + lawEnd (ws.drop (Int.toNat 1))).toNat)

section
variable {k : Nat} {nm : Str} {ws : List Str}
theorem out_K (h : (ws.any fun x => x == nm) = false) : lawOutF (k + 1) nm ws = [(Str.ofString "@"), (Str.ofString "K")] ++ ws := by simp [lawOutF, h]
theorem out_I (h : (ws.any fun x => x == nm) = true) (h1 : ws = [nm]) : lawOutF (k + 1) nm ws = [(Str.ofString "I")] := by simp [lawOutF, h1]
theorem out_left (h : (ws.any fun x => x == nm) = true) (h1 : ¬ ws = [nm]) (h2 : ((List.drop (Int.toNat 1) (List.take (1 + lawEnd (List.drop (Int.toNat 1) ws)).toNat ws)).any fun x => x == nm) = false)
    (h3 : List.drop (1 + lawEnd (List.drop (Int.toNat 1) ws)).toNat ws = [nm]) : lawOutF (k + 1) nm ws = List.drop (Int.toNat 1) (List.take (1 + lawEnd (List.drop (Int.toNat 1) ws)).toNat ws) := by
  rw [lawOutF, if_neg (by rw [h]; decide), if_neg h1, if_pos (by rw [h2]; decide), if_pos h3]
theorem out_B (h : (ws.any fun x => x == nm) = true) (h1 : ¬ ws = [nm]) (h2 : ((List.drop (Int.toNat 1) (List.take (1 + lawEnd (List.drop (Int.toNat 1) ws)).toNat ws)).any fun x => x == nm) = false)
    (h3 : ¬ List.drop (1 + lawEnd (List.drop (Int.toNat 1) ws)).toNat ws = [nm]) : lawOutF (k + 1) nm ws = [(Str.ofString "@"), (Str.ofString "@"), (Str.ofString "B")] ++ List.drop (Int.toNat 1) (List.take (1 + lawEnd (List.drop (Int.toNat 1) ws)).toNat ws) ++ lawOutF k nm (List.drop (1 + lawEnd (List.drop (Int.toNat 1) ws)).toNat ws) := by
  rw [lawOutF, if_neg (by rw [h]; decide), if_neg h1, if_pos (by rw [h2]; decide), if_neg h3]
theorem out_C (h : (ws.any fun x => x == nm) = true) (h1 : ¬ ws = [nm]) (h2 : ((List.drop (Int.toNat 1) (List.take (1 + lawEnd (List.drop (Int.toNat 1) ws)).toNat ws)).any fun x => x == nm) = true)
    (h3 : ((List.drop (1 + lawEnd (List.drop (Int.toNat 1) ws)).toNat ws).any fun x => x == nm) = false) : lawOutF (k + 1) nm ws = [(Str.ofString "@"), (Str.ofString "@"), (Str.ofString "C")] ++ lawOutF k nm (List.drop (Int.toNat 1) (List.take (1 + lawEnd (List.drop (Int.toNat 1) ws)).toNat ws)) ++ List.drop (1 + lawEnd (List.drop (Int.toNat 1) ws)).toNat ws := by
  rw [lawOutF, if_neg (by rw [h]; decide), if_neg h1, if_neg (by rw [h2]; decide), if_pos (by rw [h3]; decide)]
theorem out_S (h : (ws.any fun x => x == nm) = true) (h1 : ¬ ws = [nm]) (h2 : ((List.drop (Int.toNat 1) (List.take (1 + lawEnd (List.drop (Int.toNat 1) ws)).toNat ws)).any fun x => x == nm) = true)
    (h3 : ((List.drop (1 + lawEnd (List.drop (Int.toNat 1) ws)).toNat ws).any fun x => x == nm) = true) : lawOutF (k + 1) nm ws = [(Str.ofString "@"), (Str.ofString "@"), (Str.ofString "S")] ++ lawOutF k nm (List.drop (Int.toNat 1) (List.take (1 + lawEnd (List.drop (Int.toNat 1) ws)).toNat ws)) ++ lawOutF k nm (List.drop (1 + lawEnd (List.drop (Int.toNat 1) ws)).toNat ws) := by
  rw [lawOutF, if_neg (by rw [h]; decide), if_neg h1, if_neg (by rw [h2]; decide), if_neg (by rw [h3]; decide)]
end
theorem any_nil {nm : Str} {ws : List Str} (h : ws.length = 0) : (ws.any fun x => x == nm) = false := by cases ws with | nil => rfl | cons => cases h
/-- the two parts' lengths -/
theorem cut_len {ws : List Str} (h : 0 < ws.length) : (List.drop (Int.toNat 1) (List.take (1 + lawEnd (List.drop (Int.toNat 1) ws)).toNat ws)).length + (List.drop (1 + lawEnd (List.drop (Int.toNat 1) ws)).toNat ws).length + 1 = ws.length := by
  have ge := lawEnd_ge (ws.drop (Int.toNat 1))
  have c1 : 1 ≤ (1 + lawEnd (List.drop (Int.toNat 1) ws)).toNat := by omega
  generalize (1 + lawEnd (List.drop (Int.toNat 1) ws)).toNat = c at c1 ⊢
  clear ge
  show (List.drop 1 (List.take c ws)).length + _ + 1 = _
  rw [List.length_drop, List.length_take, List.length_drop]
  rcases Nat.le_total c ws.length with g | g
  · rw [Nat.min_eq_left g]
    obtain ⟨d, hd⟩ := Nat.exists_eq_add_of_le g
    rw [hd, Nat.add_sub_cancel_left, Nat.add_right_comm, Nat.sub_add_cancel c1]
  · rw [Nat.min_eq_right g, Nat.sub_eq_zero_of_le g, Nat.add_zero, Nat.sub_add_cancel h]
theorem bd3 {a b n : Nat} (h : a + b + 1 = n) (x y z : Nat) (hx : x ≤ 3 * a) (hy : y ≤ 3 * b) (hz : z ≤ 3) : z + x + y ≤ 3 * n := by omega
/-- a length that will do: three times and two; where the name stands in it, three times -/
theorem lawOutF_len (nm : Str) : ∀ (k : Nat) (ws : List Str), ws.length < k → ((ws.any fun x => x == nm) = true → (lawOutF k nm ws).length ≤ 3 * ws.length) ∧ (lawOutF k nm ws).length ≤ 3 * ws.length + 2
  | 0, _, h => absurd h (Nat.not_lt_zero _)
  | k + 1, ws, h => by
    cases h0 : (ws.any fun x => x == nm) with
    | false =>
      rw [out_K h0]
      refine ⟨nofun, ?_⟩
      show ws.length + 1 + 1 ≤ _
      omega
    | true =>
      suffices g : (lawOutF (k + 1) nm ws).length ≤ 3 * ws.length from ⟨fun _ => g, Nat.le_add_right_of_le g⟩
      have hpos := any_len h0
      by_cases h1 : ws = [nm]
      · rw [out_I h0 h1, h1]; exact (by decide : 1 ≤ 3)
      · have hab := cut_len hpos
        have i1 := lawOutF_len nm k (List.drop (Int.toNat 1) (List.take (1 + lawEnd (List.drop (Int.toNat 1) ws)).toNat ws)) (by clear h0 h1; omega)
        have i2 := lawOutF_len nm k (List.drop (1 + lawEnd (List.drop (Int.toNat 1) ws)).toNat ws) (by clear h0 h1 i1; omega)
        cases h2 : ((List.drop (Int.toNat 1) (List.take (1 + lawEnd (List.drop (Int.toNat 1) ws)).toNat ws)).any fun x => x == nm) with
        | false =>
          by_cases h3 : List.drop (1 + lawEnd (List.drop (Int.toNat 1) ws)).toNat ws = [nm]
          · rw [out_left h0 h1 h2 h3]; clear i1 i2; omega
          · rw [out_B h0 h1 h2 h3, List.length_append, List.length_append]
            have hne : 2 ≤ ws.length := by
              match ws, h0, h1 with
              | [x], h0, h1 => exact absurd (by simpa using h0) (fun e : x = nm => h1 (by rw [e]))
              | _ :: _ :: _, _, _ => exact Nat.le_add_left 2 _
            cases h4 : ((List.drop (1 + lawEnd (List.drop (Int.toNat 1) ws)).toNat ws).any fun x => x == nm) with
            | true => exact bd3 hab _ _ 3 (Nat.le_mul_of_pos_left _ (by decide)) (i2.1 h4) (Nat.le_refl 3)
            | false =>
              clear i1 i2
              rcases k with _ | k
              · omega
              · rw [out_K h4, List.length_append]
                show 3 + _ + (2 + _) ≤ _
                clear h
                omega
        | true =>
          cases h3 : ((List.drop (1 + lawEnd (List.drop (Int.toNat 1) ws)).toNat ws).any fun x => x == nm) with
          | false =>
            rw [out_C h0 h1 h2 h3, List.length_append, List.length_append]
            exact bd3 hab _ _ 3 (i1.1 h2) (Nat.le_mul_of_pos_left _ (by decide)) (Nat.le_refl 3)
          | true =>
            rw [out_S h0 h1 h2 h3, List.length_append, List.length_append]
            exact bd3 hab _ _ 3 (i1.1 h2) (i2.1 h3) (Nat.le_refl 3)

noncomputable def OutC (prog : Program) (w : World) (base : Heap) (k : Nat) : Prop := ∀ (nm : Str) (t : Tok) (l : Addr) (vs : List Value) (ws : List Str) (n : Nat) (news : Led), (l, lst vs n) ∈ news → StrsAre vs ws → Oks ws → PyData.strOk nm = true → ws.length < k → ws.length ≤ 1000 →
  Does prog w base 171 [.str nm t, .ref l] (k + 15) news (RetL news (lawOutF k nm ws) ((lawOutF k nm ws).length ≤ 4000))
theorem OutC.at {prog : Program} {w : World} {base : Heap} {k : Nat} (h : OutC prog w base k) {nm : Str} {t : Tok} {l : Addr} {vs : List Value} {ws : List Str} {n : Nat} {news : Led} (hl : (l, lst vs n) ∈ news) (hw : StrsAre vs ws) (ho : Oks ws) (hn : PyData.strOk nm = true) (hk : ws.length < k) (hz : ws.length ≤ 1000) :
  Does prog w base 171 [.str nm t, .ref l] (k + 15) news (RetL news (lawOutF k nm ws) ((lawOutF k nm ws).length ≤ 4000)) := h _ _ _ _ _ _ _ hl hw ho hn hk hz
set_option hygiene false
local macro_rules | `(tactic| walk_at "call ref") => `(tactic| (k_here; k_dflt ((with_reducible show wpAny _ _ (call (Value.ref 171) _) _ _ _); refine' Does.ul (by walk_at "use") (OutC.at (by assumption) (by walk_at "mem") (by walk_at "sa") (by walk_at "oks") (by assumption) (by walk_at "len") (by walk_at "len")) (by walk_at "room") ?_; intro D9 us9 h9 tk9 len9 l9 sa9 F9 N9; walk_at "gf")))

set_option maxRecDepth 100000 in
set_option maxHeartbeats 8000000 in
theorem lawOut_step {prog : Program} {w : World} {base : Heap} (k : Nat) (ih : OutC prog w base k) : OutC prog w base (k + 1) := by
  intro nm tn l vs ws n news hl hw hok hnm hlt hz
  intro p loose mean mg mb dp un gd cn cs a ccd cl outer A₀ h₀ L m s Q E B F X N T hk hd hu hret
  refine wpAny_call ?_
  k_dflt (refine' code_def (binds := [((Str.ofString "name"), .str nm tn), ((Str.ofString "term"), .ref l)]) ?k1 ?k2 ?k3 ?k4 ?k5 ?kA ?kF ?kK ?k6 ?k7 ?k8 ?k9 ?kB ?_ ?c2 ?c3 ?c4 ?c5; (case kA => exact rfl); (case kF => exact rfl); (case kK => assumption); (case k1 => k_asm); (case k2 => k_asm); (case k3 => k_asm); (case k4 => k_asm); (case k5 => k_asm); (case k6 => k_is); (case k7 => k_is); (case k8 => first | exact Nat.lt_of_le_of_lt (Nat.le_add_right _ _) (by assumption) | ktr_room); (case k9 => first | exact BindsTo.of_eq rfl | exact binds_K (by k_in) rfl (by k_is) rfl rfl rfl); (case c5 => decide); (case kB => exact locs rfl); (case c2 => exact rfl); (case c3 => exact rfl); (case c4 => exact rfl); k_whole; intro g' L' h' FG' F' N' B' X' T'; (try dsimp only); (try k_fold))
  have hl9 := Nat.le_trans (lawOutF_len nm (k + 1) ws hlt).2 (show 3 * ws.length + 2 ≤ 4000 by clear hlt; omega)
  k_steps
  rotate_left
  · unfold Hole
    rename (List.any ws _ = true) => h0
    have hab := cut_len (any_len h0)
    have hab1 : (List.drop (Int.toNat 1) (List.take (1 + lawEnd (List.drop (Int.toNat 1) ws)).toNat ws)).length ≤ 1000 := by clear hlt; omega
    have hab2 : (List.drop (1 + lawEnd (List.drop (Int.toNat 1) ws)).toNat ws).length ≤ 1000 := by clear hlt; omega
    have hab3 : (List.drop (Int.toNat 1) (List.take (1 + lawEnd (List.drop (Int.toNat 1) ws)).toNat ws)).length < k := by omega
    have hab4 : (List.drop (1 + lawEnd (List.drop (Int.toNat 1) ws)).toNat ws).length < k := by omega
    clear hab
    refine wpAny_execs_cons ?_
    k_steps
    all_goals (
      refine' RetL.hand hret ?F ?N ?mem ?sub ?ord ?sa ?e hl9
      case F => assumption
      case N => assumption
      case mem => walk_at "mem"
      case sub => walk_at "sub"
      case ord => walk_at "ord"
      case sa => walk_at "sa"
      case e => first
        | exact out_K (by assumption)
        | exact out_I (by assumption) (by assumption)
        | exact out_left (by assumption) (by assumption) (by assumption) (by assumption)
        | exact out_B (by assumption) (by assumption) (by assumption) (by assumption)
        | exact out_C (by assumption) (by assumption) (by assumption) (by assumption)
        | exact out_S (by assumption) (by assumption) (by assumption) (by assumption))
  all_goals (
    refine' RetL.hand hret ?F ?N ?mem ?sub ?ord ?sa ?e hl9
    case F => assumption
    case N => assumption
    case mem => walk_at "mem"
    case sub => walk_at "sub"
    case ord => walk_at "ord"
    case sa => walk_at "sa"
    case e => first
      | exact out_K (by assumption)
      | exact out_I (by assumption) (by assumption)
      | exact out_left (by assumption) (by assumption) (by assumption) (by assumption)
      | exact out_B (by assumption) (by assumption) (by assumption) (by assumption)
      | exact out_C (by assumption) (by assumption) (by assumption) (by assumption)
      | exact out_S (by assumption) (by assumption) (by assumption) (by assumption))
theorem lawOut_all {prog : Program} {w : World} {base : Heap} : ∀ k : Nat, OutC prog w base k
  | 0 => fun _ _ _ _ _ _ _ _ _ _ _ h => absurd h (Nat.not_lt_zero _)
  | k + 1 => lawOut_step k (lawOut_all k)
-- N1
theorem isStr_at (k : Str) : ∀ {vs : List Value} {ys : List Str}, StrsAre vs ys → ∀ (j : Nat) (h1 : j < vs.length) (h2 : j < ys.length), isStrOf k vs[j] = (ys[j] == k)
  | _, _, .cons n t _, 0, _, _ => rfl
  | _, _, .cons n t r, j + 1, h1, h2 => isStr_at k r j (Nat.lt_of_succ_lt_succ h1) (Nat.lt_of_succ_lt_succ h2)
theorem ne_idxOf {k : Str} : ∀ {ns : List Str} {j : Nat}, j < ns.idxOf k → ∀ (h2 : j < ns.length), (ns[j] == k) = false
  | n :: r, 0, h, _ => by
    by_cases e : n = k
    · subst e; simp at h
    · simpa using e
  | n :: r, j + 1, h, h2 => by
    by_cases e : n = k
    · subst e; simp at h
    · have hb : (n == k) = false := by simpa using e
      have h' : j < r.idxOf k := by
        rw [List.idxOf_cons, hb] at h
        exact Nat.lt_of_succ_lt_succ h
      exact ne_idxOf h' (Nat.lt_of_succ_lt_succ h2)
section
variable {prog : Program} {w : World} {A : Around} {E : Value → Shared → Prop} {s : Shared} {h₀ : Heap} {L l : Addr} {m : Str → Option Value} {news : Led} {n : Nat} {Q : Value → Shared → Prop} {vs : List Value} {ws : List Str}
theorem index_strs {k : Str} {t : Tok} (N : News h₀ L s.heap news) (hm : (l, lst vs n) ∈ news) (hi : StrsAre vs ws) (hz : ws.length ≤ 1000000) (hk : k ∈ ws) (h : Q (.int (ws.idxOf k : Nat) s.toks) { s with toks := s.toks + 1 }) :
    wpAny (model prog w) A (call (.builtin "list.index") [.ref l, .str k t]) Q E s := by
  obtain ⟨⟨cls, dd, data, sl⟩, ho, hc, n, hd⟩ := inList N hm
  simp only at hc hd
  subst hc hd
  have hlen := hi.length
  have hj : ws.idxOf k < ws.length := List.idxOf_lt_length_iff.mpr hk
  refine call_meets PySem.F.slot_list_index ⟨_, ho, rfl⟩ PySem.F.entry_list_index (PySem.F.args_list_index_2 _ _)
    (SeqAt.list_indexAt l vs.toArray n dd sl (.str k t) (isStrOf k) (ws.idxOf k) (by simpa [hlen] using hj) (by omega) ?_ ?_) ⟨ho, fun y hy => (eq_isStrOf k t hi y (by simpa using hy)).at _ _, h⟩
  · show isStrOf k vs[ws.idxOf k] = true
    rw [isStr_at k hi _ (by omega) hj]
    simpa using List.getElem_idxOf hj
  · intro j hjs hlt
    show isStrOf k vs[j] = false
    rw [isStr_at k hi j (by simpa using hjs) (by omega)]
    exact ne_idxOf hlt _
theorem item_strs {value slice : PySem.Expr} {k : Int} {u : Tok} {y : Str} (N : News h₀ L s.heap news) (hm : (l, lst vs n) ∈ news) (hi : StrsAre vs ws) (h0 : 0 ≤ k) (hfit : k < 2 ^ 63) (hy : ws[k.toNat]? = some y) (h : ∀ t, Q (.str y t) s)
    (hs : subscripted slice false (.ref l) (.int k u) = operate [.ref l, .int k u] (getItem (.ref l) (.int k u))) :
    wpAny (model prog w) A (subscriptTail value slice (.ref l) (.int k u)) Q E s := by
  obtain ⟨t, ht⟩ := hi.get _ _ hy
  exact tail_any (inList N hm).typeIs slot_list_getitem.lookup (wpAny_getItem_list (inList N hm) h0 hfit (by simpa using ht) (h t)) hs
end
set_option hygiene false
local macro_rules | `(tactic| walk_at "call builtin:list.index") => `(tactic| (k_here; k_dflt ((with_reducible show wpAny _ _ (call (Value.builtin _) [Value.ref _, Value.str _ _]) _ _ _); refine' index_strs (by k_asm) (by walk_at "mem") (by walk_at "sa") (by walk_at "len") (by walk_at "inw") ?_)))
local macro_rules | `(tactic| walk_at "subscriptTail") => `(tactic| (k_here; k_dflt ((with_reducible show wpAny _ _ (subscriptTail _ _ (Value.ref _) (Value.int _ _)) _ _ _); refine' item_strs (by k_asm) (by walk_at "mem") (by walk_at "sa") (by first | decide | omega) (by first | decide | omega) (by walk_at "it") ?_ (by with_unfolding_all rfl)); intro _))
local macro_rules | `(tactic| walk_at "it") => `(tactic| exact rfl)
local macro_rules | `(tactic| walk_at "inw") => `(tactic| assumption)

/-- the places of two numbers side by side by turns -/
noncomputable def il : Nat → Nat → Nat → Nat
  | 0, _, _ => 0
  | k + 1, e, o => (e % 2 + 2 * (o % 2)) + 4 * il k (e / 2) (o / 2)
noncomputable def numF (names : List Str) : Nat → List Str → Nat
  | 0, _ => 0
  | k + 1, ws => if ws.head? = some (Str.ofString "@") then 3 + il 10 (numF names k ((ws.take (1 + lawEnd (ws.drop (Int.toNat 1))).toNat).drop (Int.toNat 1))) (numF names k (ws.drop (1 + lawEnd (ws.drop (Int.toNat 1))).toNat))
    else match ws with
      | [] => 0
      | x :: _ => names.idxOf x
noncomputable def okN (names : List Str) : Nat → List Str → Bool
  | 0, _ => false
  | k + 1, ws => match ws with
    | [] => false
    | x :: _ => if x = (Str.ofString "@") then
        let a := (ws.take (1 + lawEnd (ws.drop (Int.toNat 1))).toNat).drop (Int.toNat 1)
        let b := ws.drop (1 + lawEnd (ws.drop (Int.toNat 1))).toNat
        okN names k a && okN names k b && decide (numF names k a < 1024) && decide (numF names k b < 1024)
      else names.contains x
noncomputable def NumC (prog : Program) (w : World) (base : Heap) (names : List Str) (k : Nat) : Prop := ∀ (l ln : Addr) (vs un : List Value) (ws : List Str) (n nn : Nat) (news : Led), (l, lst vs n) ∈ news → StrsAre vs ws → (ln, lst un nn) ∈ news → StrsAre un names → ws.length ≤ 1000 → okN names k ws = true →
  Does prog w base 197 [.ref l, .ref ln] (k + 15) news (fun r news' => news' = news ∧ ∃ t, r = .int ((numF names k ws : Nat) : Int) t)
theorem NumC.at {prog : Program} {w : World} {base : Heap} {names : List Str} {k : Nat} (h : NumC prog w base names k) {l ln : Addr} {vs un : List Value} {ws : List Str} {n nn : Nat} {news : Led} (hl : (l, lst vs n) ∈ news) (hw : StrsAre vs ws) (hn : (ln, lst un nn) ∈ news) (hu : StrsAre un names) (hz : ws.length ≤ 1000) (ok : okN names k ws = true) :
  Does prog w base 197 [.ref l, .ref ln] (k + 15) news (fun r news' => news' = news ∧ ∃ t, r = .int ((numF names k ws : Nat) : Int) t) := h l ln vs un ws n nn news hl hw hn hu hz ok
local macro_rules | `(tactic| walk_at "call ref") => `(tactic| (k_here; k_dflt ((with_reducible show wpAny _ _ (call (Value.ref 197) _) _ _ _); refine' Does.ui (by walk_at "use") (NumC.at (by assumption) (by walk_at "mem") (by walk_at "sa") (by walk_at "mem") (by walk_at "sa") (by walk_at "len") (by assumption)) (by walk_at "room") ?_; walk_at "gi")))
local macro_rules | `(tactic| walk_at "exec While") => `(tactic| (k_here; refine hole ?_))
structure W4 where
  f : Nat
  e : Nat
  o : Nat
  t : Nat
  w : Nat
  te : Tok
  to : Tok
  tt : Tok
  tw : Tok
theorem il_zero : ∀ f, il f 0 0 = 0
  | 0 => rfl
  | f + 1 => by simp [il, il_zero f]
noncomputable def W4P (e o : Nat) (c : W4) : Prop := c.t + c.w * il c.f c.e c.o = 3 + il 10 e o ∧ c.e < 2 ^ c.f ∧ c.o < 2 ^ c.f
theorem W4P.out {e o : Nat} {c : W4} (h : W4P e o c) (he : c.e = 0) (ho : c.o = 0) : c.t = 3 + il 10 e o := by
  obtain ⟨h1, _⟩ := h
  rw [he, ho, il_zero] at h1
  omega
theorem W4P.pos {e o : Nat} {c : W4} (h : W4P e o c) (hp : 0 < c.e ∨ 0 < c.o) : 0 < c.f := by
  obtain ⟨_, h2, h3⟩ := h
  rcases Nat.eq_zero_or_pos c.f with h0 | h0
  · rw [h0] at h2 h3; omega
  · exact h0
theorem W4P.next {e o : Nat} {c : W4} (h : W4P e o c) (hp : 0 < c.e ∨ 0 < c.o) (a b d g : Tok) : W4P e o ⟨c.f - 1, c.e / 2, c.o / 2, c.t + (c.e % 2 + 2 * (c.o % 2)) * c.w, c.w * 4, a, b, d, g⟩ := by
  have h0 := h.pos hp
  obtain ⟨h1, h2, h3⟩ := h
  obtain ⟨f, hf⟩ : ∃ f, c.f = f + 1 := ⟨c.f - 1, by omega⟩
  rw [hf] at h1 h2 h3
  refine ⟨?_, ?_, ?_⟩
  · show c.t + (c.e % 2 + 2 * (c.o % 2)) * c.w + c.w * 4 * il (c.f - 1) (c.e / 2) (c.o / 2) = _
    rw [hf, Nat.add_sub_cancel, ← h1]
    simp only [il]
    rw [Nat.mul_add, Nat.mul_assoc c.w 4, Nat.mul_comm _ c.w, Nat.add_assoc]
  · show c.e / 2 < 2 ^ (c.f - 1)
    rw [hf, Nat.add_sub_cancel]
    rw [Nat.pow_succ] at h2
    omega
  · show c.o / 2 < 2 ^ (c.f - 1)
    rw [hf, Nat.add_sub_cancel]
    rw [Nat.pow_succ] at h3
    omega
theorem val_t (e o t w : Nat) : (t : Int) + (((e : Int).fmod 2) + 2 * ((o : Int).fmod 2)) * (w : Int) = ((t + (e % 2 + 2 * (o % 2)) * w : Nat) : Int) := by
  rw [Int.fmod_eq_emod_of_nonneg _ (by decide), Int.fmod_eq_emod_of_nonneg _ (by decide)]
  norm_cast
theorem val_h (e : Nat) : (e : Int).fdiv 2 = ((e / 2 : Nat) : Int) := by rw [Int.fdiv_eq_ediv_of_nonneg _ (by decide)]; omega
theorem val_w (w : Nat) : (w : Int) * 4 = ((w * 4 : Nat) : Int) := by omega
set_option maxRecDepth 100000 in
set_option maxHeartbeats 1500000 in
theorem num_step {prog : Program} {w : World} {base : Heap} {names : List Str} (hnl : names.length ≤ 100) (k : Nat) (hk9 : k ≤ 300) (ih : NumC prog w base names k) : NumC prog w base names (k + 1) := by
  intro l ln vs un ws n nn news hl hw hln hun hz hok
  obtain ⟨x, r, rfl⟩ : ∃ x r, ws = x :: r := by
    cases ws with
    | nil => cases hok
    | cons x r => exact ⟨x, r, rfl⟩
  have hz2 : r.length + 1 ≤ 1000 := hz
  intro p loose mean mg mb dp un gd cn cs a₀ ccd cl outer A₀ h₀ L m s Q E B F X0 N Tp hk hd hu hret
  by_cases hx : x = (Str.ofString "@")
  · simp only [okN, if_pos hx, Bool.and_eq_true, decide_eq_true_eq] at hok
    obtain ⟨⟨⟨ok1, ok2⟩, b1⟩, b2⟩ := hok
    have hab := cut_len (ws := x :: r) (Nat.succ_pos _)
    have hab1 : (List.drop (Int.toNat 1) (List.take (1 + lawEnd (List.drop (Int.toNat 1) (x :: r))).toNat (x :: r))).length ≤ 1000 := by omega
    have hab2 : (List.drop (1 + lawEnd (List.drop (Int.toNat 1) (x :: r))).toNat (x :: r)).length ≤ 1000 := by omega
    clear hab
    refine wpAny_call ?_
    k_dflt (refine' code_def (binds := [((Str.ofString "words"), .ref l), ((Str.ofString "names"), .ref ln)]) ?k1 ?k2 ?k3 ?k4 ?k5 ?kA ?kF ?kK ?k6 ?k7 ?k8 ?k9 ?kB ?_ ?c2 ?c3 ?c4 ?c5; (case kA => exact rfl); (case kF => exact rfl); (case kK => assumption); (case k1 => k_asm); (case k2 => k_asm); (case k3 => k_asm); (case k4 => k_asm); (case k5 => k_asm); (case k6 => k_is); (case k7 => k_is); (case k8 => first | exact Nat.lt_of_le_of_lt (Nat.le_add_right _ _) (by assumption) | ktr_room); (case k9 => first | exact BindsTo.of_eq rfl | exact binds_K (by k_in) rfl (by k_is) rfl rfl rfl); (case c5 => decide); (case kB => exact locs rfl); (case c2 => exact rfl); (case c3 => exact rfl); (case c4 => exact rfl); k_whole; intro g' L' h' FG' F' N' B' X' T'; (try dsimp only); (try k_fold))
    k_steps
    · simp_all
    · unfold Hole
      refine wpAny_execs_cons ?_
      k_steps
      unfold Hole
      rename News _ _ _ _ => lN'
      rename Fr _ _ _ _ => lF'
      refine' ksw_while (fun _ => news) (fun c : W4 => [((Str.ofString "words"), .ref l), ((Str.ofString "names"), .ref ln), ((Str.ofString "even"), .int c.e c.te), ((Str.ofString "odd"), .int c.o c.to), ((Str.ofString "total"), .int c.t c.tt), ((Str.ofString "worth"), .int c.w c.tw)]) (fun _ => True) [] (W4P (numF names k ((List.take (1 + lawEnd (List.drop (Int.toNat 1) (x :: r))).toNat (x :: r)).drop (Int.toNat 1))) (numF names k (List.drop (1 + lawEnd (List.drop (Int.toNat 1) (x :: r))).toNat (x :: r)))) (fun c => c.f) ⟨10, _, _, 3, 1, ?qte, ?qto, ?qtt, ?qtw⟩ lF' ?qN trivial ?qps ?qP ?qturn ?qE
      case qN => exact fun p hp => lN' p (by walk_at "mem")
      case qps => exact (List.forall_mem_cons.mpr ⟨by first | with_unfolding_all exact rfl | (dsimp only; with_unfolding_all exact rfl), (List.forall_mem_cons.mpr ⟨by first | with_unfolding_all exact rfl | (dsimp only; with_unfolding_all exact rfl), (List.forall_mem_cons.mpr ⟨by first | with_unfolding_all exact rfl | (dsimp only; with_unfolding_all exact rfl), (List.forall_mem_cons.mpr ⟨by first | with_unfolding_all exact rfl | (dsimp only; with_unfolding_all exact rfl), (List.forall_mem_cons.mpr ⟨by first | with_unfolding_all exact rfl | (dsimp only; with_unfolding_all exact rfl), (List.forall_mem_cons.mpr ⟨by first | with_unfolding_all exact rfl | (dsimp only; with_unfolding_all exact rfl), (fun _ h => nomatch h)⟩)⟩)⟩)⟩)⟩)⟩)
      case qE => passes_own
      case qP => exact ⟨by simp, b1, b2⟩
      case qturn =>
        clear lF' lN'
        intro c u h tk _ hP F' N'
        refine wpAny_mono (Q := fun b s' => b = decide (0 < c.e ∨ 0 < c.o) ∧ ∃ tk', s' = { s with heap := h, toks := tk' }) ?qt (fun b s' hb => ?_) fun _ _ x => x
        case qt =>
          clear hret hP ih
          k_steps
          all_goals first | exact ⟨_, rfl⟩ | exact (decide_eq_true (.inl (by omega))).symm | exact (decide_eq_true (.inr (by omega))).symm | exact (decide_eq_false (by omega)).symm
        obtain ⟨rfl, tk', rfl⟩ := hb
        by_cases hpos : 0 < c.e ∨ 0 < c.o
        · rw [if_pos (decide_eq_true hpos)]
          refine wpQ fun Q9 hQ9 => ?_
          k_steps
          subst hQ9
          rename Fr _ _ _ _ => lF'
          rename News _ _ _ _ => lN'
          simp only [val_t, val_h, val_w] at lF'
          refine' ksw_end ⟨c.f - 1, c.e / 2, c.o / 2, c.t + (c.e % 2 + 2 * (c.o % 2)) * c.w, c.w * 4, _, _, _, _⟩ lF' lN' ?_ trivial (List.forall_mem_cons.mpr ⟨by first | with_unfolding_all exact rfl | (dsimp only; with_unfolding_all exact rfl), (List.forall_mem_cons.mpr ⟨by first | with_unfolding_all exact rfl | (dsimp only; with_unfolding_all exact rfl), (List.forall_mem_cons.mpr ⟨by first | with_unfolding_all exact rfl | (dsimp only; with_unfolding_all exact rfl), (List.forall_mem_cons.mpr ⟨by first | with_unfolding_all exact rfl | (dsimp only; with_unfolding_all exact rfl), (List.forall_mem_cons.mpr ⟨by first | with_unfolding_all exact rfl | (dsimp only; with_unfolding_all exact rfl), (List.forall_mem_cons.mpr ⟨by first | with_unfolding_all exact rfl | (dsimp only; with_unfolding_all exact rfl), (fun _ h => nomatch h)⟩)⟩)⟩)⟩)⟩)⟩) ?_ (hP.next hpos _ _ _ _) ?_
          · exact fun p hp => .tail _ hp
          · (intro z h2 h3; simp only [List.forall_mem_cons, ne_eq] at h2; simp [kstB, h2])
          · have := hP.pos hpos
            show c.f - 1 < c.f
            clear hpos
            omega
        · rw [if_neg (by rw [decide_eq_false hpos]; decide)]
          k_steps
          refine hret _ news _ _ ⟨rfl, _, congrArg (fun z => Value.int z _) ?_⟩ (by assumption) (by assumption)
          rw [hP.out (by omega) (by omega), numF, if_pos (by rw [hx]; rfl)]
  · simp only [okN, if_neg hx, List.contains_iff_mem] at hok
    refine wpAny_call ?_
    k_dflt (refine' code_def (binds := [((Str.ofString "words"), .ref l), ((Str.ofString "names"), .ref ln)]) ?k1 ?k2 ?k3 ?k4 ?k5 ?kA ?kF ?kK ?k6 ?k7 ?k8 ?k9 ?kB ?_ ?c2 ?c3 ?c4 ?c5; (case kA => exact rfl); (case kF => exact rfl); (case kK => assumption); (case k1 => k_asm); (case k2 => k_asm); (case k3 => k_asm); (case k4 => k_asm); (case k5 => k_asm); (case k6 => k_is); (case k7 => k_is); (case k8 => first | exact Nat.lt_of_le_of_lt (Nat.le_add_right _ _) (by assumption) | ktr_room); (case k9 => first | exact BindsTo.of_eq rfl | exact binds_K (by k_in) rfl (by k_is) rfl rfl rfl); (case c5 => decide); (case kB => exact locs rfl); (case c2 => exact rfl); (case c3 => exact rfl); (case c4 => exact rfl); k_whole; intro g' L' h' FG' F' N' B' X' T'; (try dsimp only); (try k_fold))
    k_steps
    · refine hret _ news _ _ ⟨rfl, _, congrArg (fun z => Value.int z _) ?_⟩ (by assumption) ?_
      · simp only [numF, List.head?_cons, Option.some.injEq, if_neg hx]
      · rename News h₀ _ _ _ => N9
        exact fun p hp => N9 p (by walk_at "mem")
    · simp_all
theorem num_all {prog : Program} {w : World} {base : Heap} {names : List Str} (hnl : names.length ≤ 100) : ∀ k : Nat, k ≤ 300 → NumC prog w base names k
  | 0, _ => fun _ _ _ _ _ _ _ _ _ _ _ _ _ h => nomatch h
  | k + 1, h => num_step hnl k (by omega) (num_all hnl k (by omega))
-- W1
noncomputable def letterOf (n : Int) : Str := Txt.item (Str.ofString "KISBC") (n - 256)
noncomputable def wordOf (sg : List Str) (n : Int) : Str := if n < 256 then sg.getD (n - 7).toNat (Str.ofString "") else letterOf n
noncomputable def wGo (sg : List Str) : List Int → Bool → List Str → List Str → List Str
  | [], _, a, w => a ++ w
  | n :: r, o, a, w => if n = 0 then wGo sg r true a w else wGo sg r o (if o = true then a ++ [(Str.ofString "@")] else a) (w ++ [wordOf sg n])
noncomputable def symOkN (m : Nat) (n : Int) : Prop := n = 0 ∨ (7 ≤ n ∧ n < 7 + m) ∨ (256 ≤ n ∧ n ≤ 260)
theorem all_app {a b : Led} {P : Addr × Obj → Prop} (h : ∀ p ∈ a, P p) (k : ∀ p ∈ b, P p) : ∀ p ∈ a ++ b, P p := fun p hp => (List.mem_append.mp hp).elim (h p) (k p)
set_option hygiene true
local macro_rules | `(tactic| k_all) => `(tactic| (refine' all_app ?a ?b; (case a => k_all); (case b => k_all)))
theorem append_val {prog : Program} {w : World} {A : Around} {E : Value → Shared → Prop} {s : Shared} {h₀ : Heap} {L D : Addr} {m : Str → Option Value} {news news' : Led} {n : Nat} {Q : Value → Shared → Prop} {vs : List Value} {v : Value}
    (F : Fr h₀ L s.heap m) (N : News h₀ L s.heap news) (U : Upd D (lst vs n) (lst (vs ++ [v]) (n + 1)) news news') (hz : vs.length ≤ 1000000)
    (h : ∀ h', Fr h₀ L h' m → News h₀ L h' news' → Q .none { s with heap := h' }) : wpAny (model prog w) A (call (.builtin "list.append") [.ref D, v]) Q E s := by
  have e : vs.toArray.push v = (vs ++ [v]).toArray := by simp
  exact append_K (its := vs.toArray) F N (by rw [e]; exact U) h (by rw [List.size_toArray, sizeLine_eq]; omega)
set_option hygiene false
local macro_rules | `(tactic| walk_at "call builtin:list.append") => `(tactic| (k_here; (with_reducible show wpAny _ _ (call (Value.builtin _) [Value.ref _, _]) _ _ _); k_dflt (refine' append_val (by k_asm) (by k_asm) (by k_upd) (by walk_at "alen") ?_; k_whole); intros; (try k_sweep)))
theorem alen {vs : List Value} {ws : List Str} (h : StrsAre vs ws) (k : ws.length ≤ 1000) : vs.length ≤ 1000000 := by have := h.length; omega
local macro_rules | `(tactic| walk_at "alen") => `(tactic| first | omega | (refine' alen (by assumption) (by walk_at "len")))
theorem getD_some {l : List Str} {k : Nat} (h : k < l.length) : l[k]? = some (l.getD k (Str.ofString "")) := by
  rw [List.getD_eq_getElem?_getD, List.getElem?_eq_getElem h]; rfl
local macro_rules | `(tactic| walk_at "it") => `(tactic| exact getD_some (by omega))
local macro_rules | `(tactic| walk_at "it") => `(tactic| exact rfl)
structure W5 where
  o : Bool
  va : List Value
  vw : List Value
  na : Nat
  nw : Nat
  a : List Str
  w : List Str
noncomputable def W5P (sg : List Str) (ns : List Int) (i : Nat) (c : W5) : Prop := StrsAre c.va c.a ∧ StrsAre c.vw c.w ∧ wGo sg ns false [] [] = wGo sg (ns.drop i) c.o c.a c.w ∧ c.a.length ≤ i ∧ c.w.length ≤ i
theorem W5P.eof {sg : List Str} {ns : List Int} {i : Nat} {c : W5} {x : Int} (h : W5P sg ns i c) (hx : ns[i]? = some x) (h0 : x = 0) : W5P sg ns (i + 1) ⟨true, c.va, c.vw, c.na, c.nw, c.a, c.w⟩ := by
  obtain ⟨h1, h2, h3, h4, h5⟩ := h
  rw [drop_item hx, wGo, if_pos h0] at h3
  exact ⟨h1, h2, h3, Nat.le_succ_of_le h4, Nat.le_succ_of_le h5⟩
theorem W5P.word {sg : List Str} {ns : List Int} {i : Nat} {c : W5} {x : Int} {y : Str} (t : Tok) (h : W5P sg ns i c) (hx : ns[i]? = some x) (h0 : x ≠ 0) (ho : c.o = false) (hy : wordOf sg x = y) : W5P sg ns (i + 1) ⟨c.o, c.va, c.vw ++ [.str y t], c.na, c.nw + 1, c.a, c.w ++ [y]⟩ := by
  obtain ⟨h1, h2, h3, h4, h5⟩ := h
  rw [drop_item hx, wGo, if_neg h0, hy, if_neg (by rw [ho]; decide)] at h3
  exact ⟨h1, h2.append' (.cons _ _ .nil), h3, Nat.le_succ_of_le h4, by rw [List.length_append]; exact Nat.succ_le_succ h5⟩
theorem W5P.both {sg : List Str} {ns : List Int} {i : Nat} {c : W5} {x : Int} {y : Str} (t t' : Tok) (h : W5P sg ns i c) (hx : ns[i]? = some x) (h0 : x ≠ 0) (ho : c.o = true) (hy : wordOf sg x = y) : W5P sg ns (i + 1) ⟨c.o, c.va ++ [.str (Str.ofString "@") t'], c.vw ++ [.str y t], c.na + 1, c.nw + 1, c.a ++ [(Str.ofString "@")], c.w ++ [y]⟩ := by
  obtain ⟨h1, h2, h3, h4, h5⟩ := h
  rw [drop_item hx, wGo, if_neg h0, hy, if_pos ho] at h3
  exact ⟨h1.append' (.cons _ _ .nil), h2.append' (.cons _ _ .nil), h3, by rw [List.length_append]; exact Nat.succ_le_succ h4, by rw [List.length_append]; exact Nat.succ_le_succ h5⟩
theorem wordOf_lo {sg : List Str} {x : Int} (h : x < 256) : wordOf sg x = sg.getD (x - 7).toNat (Str.ofString "") := if_pos h
theorem wordOf_hi {sg : List Str} {x : Int} (h : ¬ x < 256) : wordOf sg x = Txt.item (Str.ofString "KISBC") (x - 256) := if_neg h
theorem W5.turn {h₀ : Heap} {L la lw l ls : Addr} {x : Str} {m₀ : Str → Option Value} {sg : List Str} {ns : List Int} {i : Nat} {own news : Led} {s₁ : Shared} {o : Bool} {va vw : List Value} {na nw : Nat} {a w : List Str} {h' : Heap} {tk : Nat} {m' : Str → Option Value} {news' : Led}
    (F : Fr h₀ L h' m') (N : News h₀ L h' news') (h1 : (lw, lst vw nw) ∈ news') (h2 : (la, lst va na) ∈ news') (h3 : ∀ p ∈ news, p ∈ news') (h4 : ∀ p ∈ own, p ∈ news') (hoff : OwnOff own (lw :: la :: news.map (·.1)))
    (k1 : ∀ p ∈ [((Str.ofString "ahead"), Value.ref la), ((Str.ofString "words"), .ref lw), ((Str.ofString "over"), .bool o), ((Str.ofString "symbols"), .ref l), ((Str.ofString "signs"), .ref ls)], m' p.1 = some p.2)
    (k2 : ∀ z, z ≠ x → (∀ p ∈ [((Str.ofString "ahead"), Value.ref la), ((Str.ofString "words"), .ref lw), ((Str.ofString "over"), .bool o), ((Str.ofString "symbols"), .ref l), ((Str.ofString "signs"), .ref ls)], z ≠ p.1) → ([] : List Str).contains z = false → m' z = m₀ z) (hI : W5P sg ns (i + 1) ⟨o, va, vw, na, nw, a, w⟩) :
    TurnOk h₀ L x (fun c : W5 => [((Str.ofString "ahead"), .ref la), ((Str.ofString "words"), .ref lw), ((Str.ofString "over"), .bool c.o), ((Str.ofString "symbols"), .ref l), ((Str.ofString "signs"), .ref ls)]) (fun c => (lw, lst c.vw c.nw) :: (la, lst c.va c.na) :: news) [] m₀ (W5P sg ns (i + 1)) own s₁ { s₁ with heap := h', toks := tk } :=
  TurnOk.intro (⟨o, va, vw, na, nw, a, w⟩ : W5) F N (List.forall_mem_cons.mpr ⟨h1, List.forall_mem_cons.mpr ⟨h2, h3⟩⟩) h4 hoff k1 k2 hI
theorem nm3 {h₀ h : Heap} {L a b : Addr} {oa ob : Obj} {x : Addr × Obj} {news : Led} {P : Prop} (_ : News h₀ L h (x :: (b, ob) :: (a, oa) :: news)) (k : ∀ a' b', a' = a → b' = b → P) : P := k a b rfl rfl
set_option maxRecDepth 100000 in
set_option maxHeartbeats 1500000 in
theorem words_does {prog : Program} {w : World} {base : Heap} {news : Led} {l ls : Addr} {vs us : List Value} {ns : List Int} {sg : List Str} {n n' : Nat} (hl : (l, lst vs n) ∈ news) (hi : IntsAre vs ns) (hls : (ls, lst us n') ∈ news) (hsg : StrsAre us sg) (hok : ∀ x ∈ ns, symOkN sg.length x) (hs9 : sg.length ≤ 100) (hz : ns.length ≤ 1000) :
    Does prog w base 185 [.ref l, .ref ls] 20 news (RetL news (wGo sg ns false [] []) True) := by
  intro p loose mean mg mb dp un gd cn cs a₀ ccd cl outer A₀ h₀ L m s Q E B F X N Tp hk hd hu hret
  refine wpAny_call ?_
  k_dflt (refine' code_def (binds := [((Str.ofString "symbols"), .ref l), ((Str.ofString "signs"), .ref ls)]) ?k1 ?k2 ?k3 ?k4 ?k5 ?kA ?kF ?kK ?k6 ?k7 ?k8 ?k9 ?kB ?_ ?c2 ?c3 ?c4 ?c5; (case kA => exact rfl); (case kF => exact rfl); (case kK => assumption); (case k1 => k_asm); (case k2 => k_asm); (case k3 => k_asm); (case k4 => k_asm); (case k5 => k_asm); (case k6 => k_is); (case k7 => k_is); (case k8 => first | exact Nat.lt_of_le_of_lt (Nat.le_add_right _ _) (by assumption) | ktr_room); (case k9 => first | exact BindsTo.of_eq rfl | exact binds_K (by k_in) rfl (by k_is) rfl rfl rfl); (case c5 => decide); (case kB => exact locs rfl); (case c2 => exact rfl); (case c3 => exact rfl); (case c4 => exact rfl); k_whole; intro g' L' h' FG' F' N' B' X' T'; (try dsimp only); (try k_fold))
  k_steps
  rename Fr _ _ _ _ => lF'
  rename News _ _ _ _ => lN'
  refine nm3 lN' ?_
  intro la lw ea ew
  subst ea ew
  have hna : ∀ p ∈ news, p.1 ≠ la := by (refine' ne_of_ord ?h9 ?e9; (case h9 => assumption); (case e9 => omega))
  have hnw : ∀ p ∈ news, p.1 ≠ lw := by (refine' ne_of_ord ?h9 ?e9; (case h9 => assumption); (case e9 => omega))
  refine' for_list (ps := fun c : W5 => [((Str.ofString "ahead"), .ref la), ((Str.ofString "words"), .ref lw), ((Str.ofString "over"), .bool c.o), ((Str.ofString "symbols"), .ref l), ((Str.ofString "signs"), .ref ls)]) (led := fun c => (lw, lst c.vw c.nw) :: (la, lst c.va c.na) :: news) (stored := []) (I := W5P sg ns) ⟨false, [], [], 0, 0, [], []⟩ rfl (fun _ => .tail _ (.tail _ hl)) lF' lN' (fun p hp => List.mem_cons_of_mem _ hp) ?hps ?hI ?turn ?done
  case hps => exact (List.forall_mem_cons.mpr ⟨by first | with_unfolding_all exact rfl | (dsimp only; with_unfolding_all exact rfl), (List.forall_mem_cons.mpr ⟨by first | with_unfolding_all exact rfl | (dsimp only; with_unfolding_all exact rfl), (List.forall_mem_cons.mpr ⟨by first | with_unfolding_all exact rfl | (dsimp only; with_unfolding_all exact rfl), (List.forall_mem_cons.mpr ⟨by first | with_unfolding_all exact rfl | (dsimp only; with_unfolding_all exact rfl), (List.forall_mem_cons.mpr ⟨by first | with_unfolding_all exact rfl | (dsimp only; with_unfolding_all exact rfl), (fun _ h => nomatch h)⟩)⟩)⟩)⟩)⟩)
  case hI => exact ⟨.nil, .nil, rfl, Nat.le_refl _, Nat.le_refl _⟩
  case turn =>
    clear lF' lN'
    intro i v c u h tk own hv hoff hI F' N'

    rename IntsAre _ _ => hi
    obtain ⟨x, t, rfl, hx⟩ := hi.at i v hv
    obtain ⟨hI1, hI2, hI3, hI4, hI5⟩ := id hI
    have hxo := hok x (List.mem_of_getElem? hx)
    unfold symOkN at hxo
    have hix : (i : Int) < 1000 := by
      have := (List.getElem?_eq_some_iff.mp hx).1
      omega
    have h1000 : c.a.length ≤ 1000 := by omega
    have h1001 : c.w.length ≤ 1000 := by omega
    refine wpQ fun Q9 hQ9 => ?_
    cases ho : c.o
    · k_steps
      · subst hQ9
        dsimp only [TurnPost]
        rename Fr _ _ _ _ => lF'
        rename News _ _ _ _ => lN'
        refine' W5.turn lF' lN' (.head _) (.tail _ (.head _)) (fun p hp => .tail _ (.tail _ (List.mem_append_left _ hp))) (fun p hp => .tail _ (.tail _ (List.mem_append_right _ hp))) hoff ?_ ?_ (hI.eof hx (by first | omega | simp_all))
        · exact (List.forall_mem_cons.mpr ⟨by first | with_unfolding_all exact rfl | (dsimp only; with_unfolding_all exact rfl), (List.forall_mem_cons.mpr ⟨by first | with_unfolding_all exact rfl | (dsimp only; with_unfolding_all exact rfl), (List.forall_mem_cons.mpr ⟨by first | with_unfolding_all exact rfl | (dsimp only; with_unfolding_all exact rfl), (List.forall_mem_cons.mpr ⟨by first | with_unfolding_all exact rfl | (dsimp only; with_unfolding_all exact rfl), (List.forall_mem_cons.mpr ⟨by first | with_unfolding_all exact rfl | (dsimp only; with_unfolding_all exact rfl), (fun _ h => nomatch h)⟩)⟩)⟩)⟩)⟩)
        · (intro z h1 h2 h3; simp only [List.forall_mem_cons, ne_eq] at h1 h2; (try simp only [List.contains_cons, List.contains_nil, Bool.or_false, Bool.or_eq_false_iff, beq_eq_false_iff_ne, ne_eq] at h3); simp [kstB, h1, h2, h3])
      all_goals (
        subst hQ9
        dsimp only [TurnPost]
        rename Fr _ _ _ _ => lF'
        rename News _ _ _ _ => lN'
        refine' W5.turn lF' lN' (.head _) (.tail _ (.head _)) (fun p hp => .tail _ (.tail _ (List.mem_append_left _ hp))) (fun p hp => .tail _ (.tail _ (List.mem_append_right _ hp))) hoff ?_ ?_ (hI.word _ hx (by first | omega | simp_all) ho (by first | exact wordOf_lo (by omega) | exact wordOf_hi (by omega)))
        · exact (List.forall_mem_cons.mpr ⟨by first | with_unfolding_all exact rfl | (dsimp only; with_unfolding_all exact rfl), (List.forall_mem_cons.mpr ⟨by first | with_unfolding_all exact rfl | (dsimp only; with_unfolding_all exact rfl), (List.forall_mem_cons.mpr ⟨by first | with_unfolding_all exact rfl | (dsimp only; with_unfolding_all exact rfl), (List.forall_mem_cons.mpr ⟨by first | with_unfolding_all exact rfl | (dsimp only; with_unfolding_all exact rfl), (List.forall_mem_cons.mpr ⟨by first | with_unfolding_all exact rfl | (dsimp only; with_unfolding_all exact rfl), (fun _ h => nomatch h)⟩)⟩)⟩)⟩)⟩)
        · (intro z h1 h2 h3; simp only [List.forall_mem_cons, ne_eq] at h1 h2; (try simp only [List.contains_cons, List.contains_nil, Bool.or_false, Bool.or_eq_false_iff, beq_eq_false_iff_ne, ne_eq] at h3); simp [kstB, h1, h2, h3]))
    · k_steps
      · subst hQ9
        dsimp only [TurnPost]
        rename Fr _ _ _ _ => lF'
        rename News _ _ _ _ => lN'
        refine' W5.turn lF' lN' (.head _) (.tail _ (.head _)) (fun p hp => .tail _ (.tail _ (List.mem_append_left _ hp))) (fun p hp => .tail _ (.tail _ (List.mem_append_right _ hp))) hoff ?_ ?_ (hI.eof hx (by first | omega | simp_all))
        · exact (List.forall_mem_cons.mpr ⟨by first | with_unfolding_all exact rfl | (dsimp only; with_unfolding_all exact rfl), (List.forall_mem_cons.mpr ⟨by first | with_unfolding_all exact rfl | (dsimp only; with_unfolding_all exact rfl), (List.forall_mem_cons.mpr ⟨by first | with_unfolding_all exact rfl | (dsimp only; with_unfolding_all exact rfl), (List.forall_mem_cons.mpr ⟨by first | with_unfolding_all exact rfl | (dsimp only; with_unfolding_all exact rfl), (List.forall_mem_cons.mpr ⟨by first | with_unfolding_all exact rfl | (dsimp only; with_unfolding_all exact rfl), (fun _ h => nomatch h)⟩)⟩)⟩)⟩)⟩)
        · (intro z h1 h2 h3; simp only [List.forall_mem_cons, ne_eq] at h1 h2; (try simp only [List.contains_cons, List.contains_nil, Bool.or_false, Bool.or_eq_false_iff, beq_eq_false_iff_ne, ne_eq] at h3); simp [kstB, h1, h2, h3])
      all_goals (
        subst hQ9
        dsimp only [TurnPost]
        rename Fr _ _ _ _ => lF'
        rename News _ _ _ _ => lN'
        refine' W5.turn lF' lN' (.head _) (.tail _ (.head _)) (fun p hp => .tail _ (.tail _ (List.mem_append_left _ hp))) (fun p hp => .tail _ (.tail _ (List.mem_append_right _ hp))) hoff ?_ ?_ (hI.both _ _ hx (by first | omega | simp_all) ho (by first | exact wordOf_lo (by omega) | exact wordOf_hi (by omega)))
        · exact (List.forall_mem_cons.mpr ⟨by first | with_unfolding_all exact rfl | (dsimp only; with_unfolding_all exact rfl), (List.forall_mem_cons.mpr ⟨by first | with_unfolding_all exact rfl | (dsimp only; with_unfolding_all exact rfl), (List.forall_mem_cons.mpr ⟨by first | with_unfolding_all exact rfl | (dsimp only; with_unfolding_all exact rfl), (List.forall_mem_cons.mpr ⟨by first | with_unfolding_all exact rfl | (dsimp only; with_unfolding_all exact rfl), (List.forall_mem_cons.mpr ⟨by first | with_unfolding_all exact rfl | (dsimp only; with_unfolding_all exact rfl), (fun _ h => nomatch h)⟩)⟩)⟩)⟩)⟩)
        · (intro z h1 h2 h3; simp only [List.forall_mem_cons, ne_eq] at h1 h2; (try simp only [List.contains_cons, List.contains_nil, Bool.or_false, Bool.or_eq_false_iff, beq_eq_false_iff_ne, ne_eq] at h3); simp [kstB, h1, h2, h3]))
  case done =>
    intro c u h tk hI F' N'
    obtain ⟨hI1, hI2, hI3, hI4, hI5⟩ := hI
    have hlen := (by assumption : IntsAre vs ns).length
    rw [hlen, List.drop_length] at hI3
    rw [hlen] at hI4 hI5
    k_steps
    refine' RetL.hand hret ?qF ?qN ?qmem ?qsub ?qord ?qsa ?qe True.intro
    case qF => assumption
    case qN => assumption
    case qmem => walk_at "mem"
    case qsub => walk_at "sub"
    case qord => walk_at "ord"
    case qsa => walk_at "sa"
    case qe => exact hI3
-- Num
theorem and_high (X K : Nat) : X &&& (X / 2 ^ K * 2 ^ K) = X / 2 ^ K * 2 ^ K := by
  apply Nat.eq_of_testBit_eq
  intro i
  rw [← Nat.shiftRight_eq_div_pow, ← Nat.shiftLeft_eq, Nat.testBit_and, Nat.testBit_shiftLeft, Nat.testBit_shiftRight]
  by_cases h : K ≤ i
  · have : K + (i - K) = i := by omega
    simp [h, this]
  · simp [h]
theorem bitAnd_nn (a b : Nat) : Builtin.bitAnd (a : Int) (b : Int) = ((a &&& b : Nat) : Int) := by
  unfold Builtin.bitAnd; simp
theorem bitXor_low (X K : Nat) : Builtin.bitXor (X : Int) ((X / 2 ^ K * 2 ^ K : Nat) : Int) = ((X % 2 ^ K : Nat) : Int) := by
  rw [bitXor_and, bitAnd_nn, and_high]
  have := Nat.div_add_mod X (2 ^ K)
  rw [Nat.mul_comm] at this
  omega
theorem sub_mid {l m r : Nat} (h1 : l ≤ m) (h2 : m ≤ r) : (m - l) + (r - m) = r - l := (Nat.add_comm ..).trans (Nat.sub_add_sub_cancel h2 h1)
theorem half_lo {l m r k : Nat} (h : r - l ≤ k + 1) (h1 : l < m) (h2 : m < r) : m - l ≤ k := Nat.le_of_lt_succ (Nat.lt_of_lt_of_le (Nat.sub_lt_sub_right (Nat.le_of_lt h1) h2) h)
theorem half_hi {l m r k : Nat} (h : r - l ≤ k + 1) (h1 : l < m) (h2 : m < r) : r - m ≤ k := Nat.le_of_lt_succ (Nat.lt_of_lt_of_le (Nat.sub_lt_sub_left (Nat.lt_trans h1 h2) h1) h)
/-- what is known of each place between -/
noncomputable def Mids (l r : Nat) (P : Nat → Prop) : Prop := ∀ m, l < m → m < r → P m
section
variable {prog : Program} {w : World} {A : Around} {E : Value → Shared → Prop} {s : Shared} {t u : Tok} {Q : Value → Shared → Prop}
theorem mid_nn {l r : Nat} {P : Nat → Prop} (h1 : l < r) (h2 : (l : Int) + 1 ≠ r) (hP : Mids l r P) (h : ∀ m : Nat, l < m → m < r → P m → Q (.int (m : Int) s.toks) { s with toks := s.toks + 1 }) : wpAny (model prog w) A (binaryOp .RShift (.int ((l : Int) + (r : Int)) t) (.int 1 u)) Q E s := by
  refine rshift_int (by decide) ?_
  have e : ((l : Int) + (r : Int)).fdiv (2 ^ (1 : Int).toNat) = (((l + r) / 2 : Nat) : Int) := by
    rw [Int.fdiv_eq_ediv_of_nonneg _ (by decide)]
    rfl
  rw [e]
  have hlr : l + 2 ≤ r := Nat.lt_of_le_of_ne h1 fun e => h2 (e ▸ rfl)
  have h3 : l < (l + r) / 2 := (Nat.le_div_iff_mul_le (by decide)).mpr (by omega)
  have h4 : (l + r) / 2 < r := Nat.div_lt_of_lt_mul (by omega)
  exact h _ h3 h4 (hP _ h3 h4)
theorem len_nn {a b n : Nat} (hab : b ≤ a) (ha : a ≤ 100000) (h : Q (.int (((a - b) * n : Nat) : Int) s.toks) { s with toks := s.toks + 1 }) : wpAny (model prog w) A (binaryOp .Mult (.int ((a : Int) - (b : Int)) t) (.int (n : Int) u)) Q E s := by
  refine mul_int ?_ (IntMulOk.of_left (intBits_le_64 (by omega) (by omega)))
  have e : ((a : Int) - b) * n = (((a - b) * n : Nat) : Int) := by rw [Int.natCast_mul]; congr 1; omega
  rw [e]; exact h
theorem shr_nn {X K : Nat} (h : Q (.int ((X / 2 ^ K : Nat) : Int) s.toks) { s with toks := s.toks + 1 }) : wpAny (model prog w) A (binaryOp .RShift (.int (X : Int) t) (.int (K : Int) u)) Q E s := by
  refine rshift_int (by omega) ?_
  have e : (X : Int).fdiv (2 ^ (K : Int).toNat) = ((X / 2 ^ K : Nat) : Int) := by
    rw [Int.toNat_natCast, Int.fdiv_eq_ediv_of_nonneg _ (Int.le_of_lt (Int.pow_pos (by decide)))]
    norm_cast
  rw [e]; exact h
theorem shl_nn {X K B : Nat} (hX : X < 2 ^ B) (hB : B ≤ 100000) (hK : K ≤ 100000) (h : Q (.int ((X * 2 ^ K : Nat) : Int) s.toks) { s with toks := s.toks + 1 }) : wpAny (model prog w) A (binaryOp .LShift (.int (X : Int) t) (.int (K : Int) u)) Q E s := by
  have hb : Builtin.Int.intBits (X : Int) ≤ B := intBits_le (by simpa using hX)
  refine lshift_int (by omega) (by omega) ?_
  have e : (X : Int) * 2 ^ (K : Int).toNat = ((X * 2 ^ K : Nat) : Int) := by rw [Int.toNat_natCast]; norm_cast
  rw [e]; exact h
theorem xor_nn {X K : Nat} (h : Q (.int ((X % 2 ^ K : Nat) : Int) s.toks) { s with toks := s.toks + 1 }) : wpAny (model prog w) A (binaryOp .BitXor (.int (X : Int) t) (.int ((X / 2 ^ K * 2 ^ K : Nat) : Int) u)) Q E s := by
  refine xor_int ?_
  rw [bitXor_low]; exact h
end
-- E3
section
variable {prog : Program} {w : World} {A : Around} {E : Value → Shared → Prop} {s : Shared} {h₀ : Heap} {L l : Addr} {m : Str → Option Value} {news : Led} {n : Nat} {Q : Value → Shared → Prop}
theorem rep_one (v : Value) : ∀ (k : Nat) (acc : Array Value), List.foldl (fun x1 x2 => x1 ++ x2) acc (List.replicate k #[v]) = acc ++ (List.replicate k v).toArray
  | 0, acc => by simp
  | k + 1, acc => by rw [List.replicate_succ, List.foldl_cons, rep_one v k, List.replicate_succ]; apply Array.ext'; simp
theorem mul_one {v : Value} {x : Int} {u : Tok} (F : Fr h₀ L s.heap m) (N : News h₀ L s.heap news) (hm : (l, lst [v] n) ∈ news) (hlo : -1000000 ≤ x) (hhi : x ≤ 1000000)
    (h : ∀ D h', Fr h₀ L h' m → News h₀ L h' ((D, lst (List.replicate x.toNat v) 0) :: news) → (∀ p ∈ news, p.1 < D) → Q (.ref D) { s with heap := h' }) :
    wpAny (model prog w) A (binaryOp .Mult (.ref l) (.int x u)) Q E s := by
  refine mul_list F N (N _ hm).1 (by omega) (by omega) (by show 1 * x.toNat ≤ 2 ^ 24; omega) fun h' F' N' => h _ h' F' ?_ fun p hp => Heap.lt_size (N p hp).1
  have e : List.foldl (fun x1 x2 => x1 ++ x2) #[] (List.replicate (if [v].toArray.isEmpty = true then 0 else x.toNat) [v].toArray) = (List.replicate x.toNat v).toArray := by
    rw [if_neg (by simp)]
    rw [show [v].toArray = #[v] from rfl, rep_one]; simp
  rw [e] at N'
  exact N'
end
set_option hygiene false
local macro_rules | `(tactic| walk_at "binaryOp Mult ref int") => `(tactic| (k_here; k_dflt ((with_reducible show wpAny _ _ (binaryOp _ (Value.ref _) (Value.int _ _)) _ _ _); refine' mul_one (by k_asm) (by k_asm) (by walk_at "mem") (by walk_at "len") (by walk_at "len") ?_; k_whole; intro D'z h'z F'z N'z l1'z; (have l2' := l1'z); (try k_lt l2'); (try k_sweep))))

noncomputable def digs (n : Nat) : Nat → Nat → List Int
  | 0, _ => []
  | k + 1, X => ((X % 2 ^ n : Nat) : Int) :: digs n k (X / 2 ^ n)
theorem digs_len (n : Nat) : ∀ k X, (digs n k X).length = k
  | 0, _ => rfl
  | k + 1, X => by simp [digs, digs_len n k]
theorem digs_add (n : Nat) : ∀ a b X, digs n (a + b) X = digs n a (X % 2 ^ (a * n)) ++ digs n b (X / 2 ^ (a * n))
  | 0, b, X => by simp [digs, Nat.mod_one]
  | a + 1, b, X => by
    rw [show a + 1 + b = (a + b) + 1 by omega]
    simp only [digs, List.cons_append]
    rw [digs_add n a b (X / 2 ^ n)]
    have e1 : X % 2 ^ ((a + 1) * n) % 2 ^ n = X % 2 ^ n := by
      rw [Nat.mod_mod_of_dvd]
      exact Nat.pow_dvd_pow 2 (by rw [Nat.add_mul]; omega)
    have e2 : X % 2 ^ ((a + 1) * n) / 2 ^ n = X / 2 ^ n % 2 ^ (a * n) := by
      rw [show (a + 1) * n = n + a * n by rw [Nat.add_mul]; omega, Nat.pow_add, Nat.mod_mul_right_div_self]
    have e3 : X / 2 ^ ((a + 1) * n) = X / 2 ^ n / 2 ^ (a * n) := by
      rw [show (a + 1) * n = n + a * n by rw [Nat.add_mul]; omega, Nat.pow_add, Nat.div_div_eq_div_mul]
    rw [e1, e2, e3]
theorem base_eq {ns : List Int} {l r X n : Nat} (hr : l + 1 = r) (h : r ≤ ns.length) (hX : X < 2 ^ ((r - l) * n)) : ns.set ((l : Int)).toNat (X : Int) = ns.take l ++ (digs n (r - l) X ++ ns.drop r) := by
  subst hr
  rw [Int.toNat_natCast, Nat.add_sub_cancel_left] at *
  rw [Nat.one_mul] at hX
  simp only [digs, Nat.mod_eq_of_lt hX, List.cons_append, List.nil_append]
  rw [List.set_eq_take_append_cons_drop, if_pos (by omega)]
theorem rec_eq {ns : List Int} {l m r X n : Nat} (h1 : l ≤ m) (h2 : m ≤ r) (h : r ≤ ns.length) :
    List.take m (ns.take l ++ (digs n (m - l) (X % 2 ^ ((m - l) * n)) ++ ns.drop m)) ++ (digs n (r - m) (X / 2 ^ ((m - l) * n)) ++ List.drop r (ns.take l ++ (digs n (m - l) (X % 2 ^ ((m - l) * n)) ++ ns.drop m))) = ns.take l ++ (digs n (r - l) X ++ ns.drop r) := by
  have hl : (ns.take l ++ digs n (m - l) (X % 2 ^ ((m - l) * n))).length = m := by
    rw [List.length_append, List.length_take, digs_len, Nat.min_eq_left (Nat.le_trans h1 (Nat.le_trans h2 h)), Nat.add_sub_of_le h1]
  have e1 : List.take m (ns.take l ++ (digs n (m - l) (X % 2 ^ ((m - l) * n)) ++ ns.drop m)) = ns.take l ++ digs n (m - l) (X % 2 ^ ((m - l) * n)) := by
    rw [← List.append_assoc]
    rw [List.take_append_of_le_length (Nat.le_of_eq hl.symm), List.take_of_length_le (Nat.le_of_eq hl)]
  have e2 : List.drop r (ns.take l ++ (digs n (m - l) (X % 2 ^ ((m - l) * n)) ++ ns.drop m)) = ns.drop r := by
    rw [← List.append_assoc, List.drop_append, List.drop_of_length_le (by rw [hl]; exact h2), List.nil_append, List.drop_drop, hl, Nat.add_sub_of_le h2]
  rw [e1, e2, ← sub_mid h1 h2, digs_add]
  simp only [List.append_assoc]
theorem nDigs_fit {n X : Nat} (hn : 1 ≤ n) : X < 2 ^ ((Builtin.Int.intBits (X : Int) + n - 1) / n * n) := by
  have h1 : X < 2 ^ Builtin.Int.intBits (X : Int) := by
    unfold Builtin.Int.intBits
    by_cases h : X = 0
    · subst h; simp
    · have : ((X : Int) == 0) = false := by simpa using h
      rw [this]
      simp only [Bool.false_eq_true, if_false, Int.natAbs_natCast]
      exact Nat.lt_log2_self
  refine Nat.lt_of_lt_of_le h1 (Nat.pow_le_pow_right (by decide) ?_)
  have := Nat.div_add_mod (Builtin.Int.intBits (X : Int) + n - 1) n
  have h3 := Nat.mod_lt (Builtin.Int.intBits (X : Int) + n - 1) (show n > 0 by omega)
  rw [Nat.mul_comm]
  omega
theorem nDigs_pos {n X : Nat} (hn : 1 ≤ n) (hX : X ≠ 0) : 0 < (Builtin.Int.intBits (X : Int) + n - 1) / n := by
  have : 1 ≤ Builtin.Int.intBits (X : Int) := by
    unfold Builtin.Int.intBits
    have : ((X : Int) == 0) = false := by simpa using hX
    rw [this]; simp
  exact Nat.div_pos (by omega) (by omega)
/-- what may be put into a place of a ledger, whatever lies there -/
noncomputable def PutsAll (D : Addr) (put : Obj → Led) : Prop := ∀ o o', Upd D o o' (put o) (put o')
theorem PutsAll.at {D : Addr} {put : Obj → Led} {o o' : Obj} (h : PutsAll D put) : Upd D o o' (put o) (put o') := h o o'
noncomputable def Rest (all : Led) (D : Addr) (put : Obj → Led) : Prop := ∀ q ∈ all, q.1 ≠ D → ∀ o, q ∈ put o
theorem Rest.at {all : Led} {D : Addr} {put : Obj → Led} {o : Obj} {q : Addr × Obj} (h : Rest all D put) (hm : q ∈ all) (hn : q.1 ≠ D) : q ∈ put o := h q hm hn o
theorem updF_same {D : Addr} {o : Obj} {all : Led} {put : Obj → Led} (U : UpdF D o all put) : put o = all := by
  obtain ⟨pre, post, e1, e2, _, _⟩ := U.split
  rw [e1, e2]
theorem updF_puts {D : Addr} {o : Obj} {all : Led} {put : Obj → Led} (U : UpdF D o all put) : PutsAll D put := by
  obtain ⟨pre, post, e1, e2, a, b⟩ := U.split
  intro o o'
  rw [e2, e2]
  clear e1 e2 U
  induction pre with
  | nil => exact .head b
  | cons p r ih => exact .tail (a p (.head _)) (ih fun q hq => a q (.tail _ hq))
theorem updF_rest {D : Addr} {o : Obj} {all : Led} {put : Obj → Led} (U : UpdF D o all put) : Rest all D put := by
  obtain ⟨pre, post, e1, e2, a, b⟩ := U.split
  intro q hq hn o'
  rw [e1] at hq
  rw [e2]
  rcases List.mem_append.mp hq with h | h
  · exact List.mem_append_left _ h
  · rcases List.mem_cons.mp h with h | h
    · exact absurd (by rw [h]) hn
    · exact List.mem_append_right _ (.tail _ h)
theorem puts_mem {D : Addr} {put : Obj → Led} (U : PutsAll D put) (o : Obj) : (D, o) ∈ put o := by
  obtain ⟨pre, post, e, _, _, _⟩ := (U o o).split
  rw [e]; simp
noncomputable def InnerC (prog : Program) (w : World) (base : Heap) (f : Addr) (put : Obj → Led) (D : Addr) (n : Nat) (k : Nat) : Prop := ∀ (X l r : Nat) (xi li ri : Int) (tx tl tr : Tok) (vs : List Value) (ns : List Int) (e : Nat),
  xi = X → li = l → ri = r → l < r → r ≤ ns.length → r - l ≤ k → IntsAre vs ns → X < 2 ^ ((r - l) * n) → ns.length ≤ 1000 →
  Does prog w base f [.int xi tx, .int li tl, .int ri tr] (k + 15) (put (lst vs e)) (fun rv news' => rv = .none ∧ ∃ vs', news' = put (lst vs' e) ∧ IntsAre vs' (ns.take l ++ (digs n (r - l) X ++ ns.drop r)))
theorem inner_all {prog : Program} {w : World} {base : Heap} {f : Addr} {put : Obj → Led} {D : Addr} {n : Nat} (step : ∀ k, InnerC prog w base f put D n k → InnerC prog w base f put D n (k + 1)) : ∀ k, InnerC prog w base f put D n k
  | 0 => fun _ _ _ _ _ _ _ _ _ _ _ _ _ _ _ h _ h' => absurd h' (by omega)
  | k + 1 => step k (inner_all step k)
theorem InnerC.at {prog : Program} {w : World} {base : Heap} {f : Addr} {put : Obj → Led} {D : Addr} {n k : Nat} (H : InnerC prog w base f put D n k) {X l r : Nat} {xi li ri : Int} {tx tl tr : Tok} {vs : List Value} {ns : List Int} {e : Nat}
  (h1 : xi = X) (h2 : li = l) (h3 : ri = r) (h4 : l < r) (h7 : IntsAre vs ns) (h5 : r ≤ ns.length) (h6 : r - l ≤ k) (h8 : X < 2 ^ ((r - l) * n)) (h9 : ns.length ≤ 1000) :
  Does prog w base f [.int xi tx, .int li tl, .int ri tr] (k + 15) (put (lst vs e)) (fun rv news' => rv = .none ∧ ∃ vs', news' = put (lst vs' e) ∧ IntsAre vs' (ns.take l ++ (digs n (r - l) X ++ ns.drop r))) := H _ _ _ _ _ _ _ _ _ _ _ _ h1 h2 h3 h4 h5 h6 h7 h8 h9
theorem InnerC.u {prog : Program} {w : World} {base : Heap} {f D : Addr} {put : Obj → Led} {n k : Nat} {X l r : Nat} {xi li ri : Int} {tx tl tr : Tok} {vs : List Value} {ns : List Int} {e : Nat}
    {p : Program} {loose : List Str} {mean : ExcName → Option Value} {mg mb : Str → Option Value} {dp un : Nat} {gd : Option (List Code)} {cn : Str} {cs : Scope} {a : Addr} {ccd : Value} {cl : List (Str × Addr)} {outer : List Env} {A₀ : Around} {h₀ : Heap} {L : Addr} {m : Str → Option Value} {s : Shared} {Q E : Value → Shared → Prop}
    (H : InnerC prog w base f put D n k) (U : Use w base p loose mean mg mb cs outer A₀ h₀ L m s.heap (put (lst vs e)))
    (h1 : xi = X) (h2 : li = l) (h3 : ri = r) (h4 : l < r) (h7 : IntsAre vs ns) (h5 : r ≤ ns.length) (h6 : r - l ≤ k) (h8 : X < 2 ^ ((r - l) * n)) (h9 : ns.length ≤ 1000) (R : dp + (k + 15) < recursionLimit ∧ un + 8 * (k + 15) < cLine)
    (ret : ∀ vs' h' tk', IntsAre vs' (ns.take l ++ (digs n (r - l) X ++ ns.drop r)) → Fr h₀ L h' m → News h₀ L h' (put (lst vs' e)) → Q .none { s with heap := h', toks := tk' }) :
    wpAny (model prog w) (ktrTop dp un gd cn cs L a ccd cl outer) (call (.ref f) [.int xi tx, .int li tl, .int ri tr]) Q E s :=
  (H.at h1 h2 h3 h4 h7 h5 h6 h8 h9).u U R fun _ _ h' tk' o F N => by obtain ⟨e1, vs', e2, hi⟩ := o; subst e1 e2; exact ret vs' h' tk' hi F N
theorem inner_call {prog : Program} {w : World} {base : Heap} {p : Program} {loose : List Str} {mean : ExcName → Option Value} {mg mb : Str → Option Value} {dp un : Nat} {gd : Option (List Code)} {cn : Str} {cs : Scope} {a : Addr} {ccd : Value} {cl : List (Str × Addr)} {outer : List Env} {A₀ : Around} {h₀ : Heap} {L : Addr} {m : Str → Option Value} {s : Shared}
    {Q E : Value → Shared → Prop} {f D : Addr} {put : Obj → Led} {all : Led} {n X r : Nat} {xi ri : Int} {tx tl tr : Tok} {vs : List Value} {ns : List Int} {e : Nat}
    (B : Below A₀ base outer h₀) (F : Fr h₀ L s.heap m) (Xk : Frag.In (Mine.K0.heap_1 w.params) h₀) (N : News h₀ L s.heap all) (T : Top p loose mean mg mb h₀) (hk : cs.kind = .function) (hd : dp + (r + 15) < recursionLimit) (hu : un + 8 * (r + 15) < cLine)
    (hi : IntsAre vs ns) (_hm : (D, lst vs e) ∈ all) (U : UpdF D (lst vs e) all put) (h1 : xi = X) (h3 : ri = r) (h4 : 0 < r) (h5 : r = ns.length) (h8 : X < 2 ^ (r * n)) (h9 : ns.length ≤ 1000)
    (step : Rest all D put → PutsAll D put → ∀ k, InnerC prog w base f put D n k → InnerC prog w base f put D n (k + 1))
    (ret : ∀ vs' h' tk', IntsAre vs' (digs n r X) → Fr h₀ L h' m → News h₀ L h' (put (lst vs' e)) → Q .none { s with heap := h', toks := tk' }) :
    wpAny (model prog w) (ktrTop dp un gd cn cs L a ccd cl outer) (call (.ref f) [.int xi tx, .int 0 tl, .int ri tr]) Q E s := by
  have H := inner_all (step (updF_rest U) (updF_puts U)) r
  rw [← updF_same U] at N
  refine Does.use (H.at (X := X) (l := 0) (r := r) h1 rfl h3 h4 hi (by omega) (by omega) (by simpa using h8) h9) B F Xk N T hk hd hu ?_
  rintro rv news' h' tk' ⟨rfl, vs', rfl, hi'⟩ F' N'
  refine ret vs' h' tk' ?_ F' N'
  subst h5
  simpa using hi'
local macro_rules | `(tactic| k_upd) => `(tactic| first | (refine' PutsAll.at (by assumption)) | fail)
local macro_rules | `(tactic| k_mem) => `(tactic| first | (refine' Rest.at (by assumption) (by walk_at "mem") (by (dsimp only; omega))) | fail)
local macro_rules | `(tactic| k_mem) => `(tactic| first | (refine' puts_mem (by assumption) _) | fail)
local macro_rules | `(tactic| walk_at "binaryOp RShift int int") => `(tactic| (k_here; (with_reducible show wpAny _ _ (binaryOp _ (Value.int (Nat.cast _) _) (Value.int (Nat.cast _) _)) _ _ _); with_reducible refine shr_nn ?_))
local macro_rules | `(tactic| walk_at "binaryOp RShift int int") => `(tactic| (k_here; (with_reducible show wpAny _ _ (binaryOp _ (Value.int (Nat.cast _ + Nat.cast _) _) (Value.int 1 _)) _ _ _); with_reducible refine mid_nn (by assumption) (by assumption) (by assumption) ?_; intros))
set_option hygiene true
local macro_rules | `(tactic| walk_at "binaryOp Mult int int") => `(tactic| (k_here; (with_reducible show wpAny _ _ (binaryOp _ (Value.int (Nat.cast _ - Nat.cast _) _) (Value.int (Nat.cast _) _)) _ _ _); (with_reducible refine' len_nn ?a ?b ?_); (case a => omega); (case b => omega)))
local macro_rules | `(tactic| walk_at "binaryOp LShift int int") => `(tactic| (k_here; (with_reducible show wpAny _ _ (binaryOp _ (Value.int (Nat.cast _) _) (Value.int (Nat.cast _) _)) _ _ _); (with_reducible refine' shl_nn ?a ?b ?c ?_); (case a => walk_at "shl"); (case b => omega); (case c => walk_at "shl")))
set_option hygiene false
local macro_rules | `(tactic| walk_at "binaryOp BitXor int int") => `(tactic| (k_here; (with_reducible show wpAny _ _ (binaryOp _ (Value.int (Nat.cast _) _) (Value.int (Nat.cast _) _)) _ _ _); with_reducible refine xor_nn ?_))
theorem il_len {ns : List Int} {l m n Y : Nat} (h1 : l < m) (h2 : m ≤ ns.length) : (ns.take l ++ (digs n (m - l) Y ++ ns.drop m)).length = ns.length := by
  rw [List.length_append, List.length_append, List.length_take, List.length_drop, digs_len, Nat.min_eq_left (Nat.le_trans (Nat.le_of_lt h1) h2), sub_mid (Nat.le_of_lt h1) h2, Nat.add_sub_of_le (Nat.le_trans (Nat.le_of_lt h1) h2)]
theorem up_bd {X l m r n : Nat} (h1 : l ≤ m) (h2 : m ≤ r) (h : X < 2 ^ ((r - l) * n)) : X / 2 ^ ((m - l) * n) < 2 ^ ((r - m) * n) := by
  apply Nat.div_lt_of_lt_mul
  rw [← Nat.pow_add, ← Nat.add_mul]
  rwa [sub_mid h1 h2]
local macro_rules | `(tactic| walk_at "shl") => `(tactic| first | assumption | exact Nat.le_trans (by assumption) (by decide) | exact Nat.le_trans (And.left (by assumption)) (by decide) | exact Nat.lt_of_le_of_lt (Nat.div_le_self _ _) (by assumption) | omega)
local macro_rules | `(tactic| walk_at "hf") => `(tactic| first | exact half_lo (by assumption) (by assumption) (by assumption) | exact half_hi (by assumption) (by assumption) (by assumption) | omega)
local macro_rules | `(tactic| walk_at "il") => `(tactic| first | assumption | omega | (rw [il_len (by assumption) (by omega)]; first | assumption | omega))
local macro_rules | `(tactic| walk_at "bd") => `(tactic| first | exact Nat.mod_lt _ (Nat.two_pow_pos _) | exact up_bd (Nat.le_of_lt (by assumption)) (Nat.le_of_lt (by assumption)) (by assumption))
local macro_rules | `(tactic| walk_at "call ref") => `(tactic| (k_here; k_dflt ((with_reducible show wpAny _ _ (call (Value.ref _) [Value.int _ _, Value.int _ _, Value.int _ _]) _ _ _); refine' InnerC.u (by assumption) (by walk_at "use") rfl rfl rfl (by omega) (by assumption) (by walk_at "il") (by walk_at "hf") (by walk_at "bd") (by walk_at "il") (by walk_at "room") ?_; walk_at "gi")))
noncomputable def Tab (P : Addr) (line col : Int) (qual : Str) (T : Led) : Prop := T = [(P, tabObj #[])] ∨ ∃ c' oc vs t, T = [(c', oc), (P, tabObj #[rawInt line, rawInt col, .ref c'])] ∧ oc.data = .fields vs ∧ vs[1]? = some (.str qual t) ∧ P < c'
theorem apart_mem {T1 news X : Led} {d : Addr} {o : Obj} {b : Nat} (hap : ∀ p ∈ T1, ∀ q ∈ X, q.1 ≠ p.1) (hq : (d, o) ∈ X) (hn : ∀ p ∈ news, @LT.lt Nat _ p.1 b) (hb : @LE.le Nat _ b d) : ∀ p ∈ T1 ++ news, p.1 ≠ d := fun p hp => (List.mem_append.mp hp).elim (fun h => (hap p h _ hq).symm) fun h => Nat.ne_of_lt (Nat.lt_of_lt_of_le (hn p h) hb)
theorem apart_one {T1 X : Led} {c d : Addr} {oc o : Obj} (hap : ∀ p ∈ T1, ∀ q ∈ X, q.1 ≠ p.1) (hc : (c, oc) ∈ T1) (hq : (d, o) ∈ X) : @Ne Nat c d := (hap _ hc _ hq).symm
inductive SwapF (T : Led) : Led → (Led → Led) → Prop
  | here {news : Led} : SwapF T (T ++ news) (fun T' => T' ++ news)
  | cons {p : Addr × Obj} {all : Led} {g : Led → Led} : SwapF T all g → SwapF T (p :: all) (fun T' => p :: g T')
theorem SwapF.split {T : Led} : ∀ {all : Led} {g : Led → Led}, SwapF T all g → ∃ pre post, all = pre ++ (T ++ post) ∧ ∀ T', g T' = pre ++ (T' ++ post)
  | _, _, .here => ⟨[], _, rfl, fun _ => rfl⟩
  | _, _, .cons (p := p) h => let ⟨pre, post, e1, e2⟩ := h.split; ⟨p :: pre, post, by rw [e1]; rfl, fun T' => congrArg (p :: ·) (e2 T')⟩
theorem updF_mk {d : Addr} {o : Obj} {post : Led} (k : ∀ p ∈ post, p.1 ≠ d) : ∀ {pre : Led}, (∀ p ∈ pre, p.1 ≠ d) → UpdF d o (pre ++ (d, o) :: post) (fun o' => pre ++ (d, o') :: post)
  | [], _ => .head k
  | _ :: _, h => .tail (h _ (.head _)) (updF_mk k fun q hq => h q (.tail _ hq))
theorem mem3 {α : Type} {x : α} {pre T post : List α} : x ∈ pre ++ (T ++ post) ↔ x ∈ T ∨ x ∈ pre ++ post := by
  rw [List.mem_append, List.mem_append, List.mem_append]; exact or_left_comm
theorem code_hit (pos : Pos) (c : Value) (t u : Tok) : codeAmong pos [.int pos.line t, .int pos.col u, c] = some c := by
  rw [codeAmong, beq_self_eq_true, beq_self_eq_true]; rfl
/-- a def whose code lies in the table, or not yet: both at one go -/
theorem tab_K {A : Around} {E : Value → Shared → Prop} {s : Shared} {h₀ : Heap} {L : Addr} {m : Str → Option Value} {all T9 : Led} {g : Led → Led} {Q : Value → Shared → Prop}
    {p : Program} {loose : List Str} {mean : ExcName → Option Value} {mg mb : Str → Option Value} {M : Model} {cn name qual q9 : Str} {cs scope : Scope} {a c P : Addr} {ccd : Value} {cl clos : List (Str × Addr)} {params : Arguments} {body : List Stmt} {pos : Pos} {firstLine : Nat} {line col : Int}
    (F : Fr h₀ L s.heap m) (N : News h₀ L s.heap all) (T : Top p loose mean mg mb h₀) (C : CodeHd h₀ c P) (hcd : ccd = .ref c) (hT : Tab P line col q9 T9) (sw : SwapF T9 all g) (hap : ∀ p ∈ T9, ∀ q ∈ g [], q.1 ≠ p.1)
    (hl : line = pos.line) (hc : col = pos.col) (hqu : q9 = qual) (hcl : closureFor scope (envX cn cs L a ccd cl) = pure clos)
    (h : ∀ f c' oc vs t T' ctv doc h' tk, Fr h₀ L h' m → News h₀ L h' ((f, fnMade name q9 params body scope clos doc ((mg "__name__").getD .none) c' ctv) :: g T') →
      oc.data = .fields vs → vs[1]? = some (.str q9 t) → (c', oc) ∈ T' → Tab P line col q9 T' → (∀ p ∈ T', ∀ q ∈ g [], q.1 ≠ p.1) → (∀ q ∈ g T', q.1 < f) → Q (.ref f) { s with heap := h', toks := tk }) :
    wpAny M A (makeFunction name qual params (.stmts body) scope (envX cn cs L a ccd cl) [] [] [] pos firstLine) Q E s := by
  subst hqu hl hc
  obtain ⟨pre, post, e1, e2⟩ := sw.split
  rw [e2] at hap
  simp only [e2] at h
  subst e1
  rcases hT with rfl | ⟨c1, oc, us, t, rfl, d1, d2, hlt⟩
  · have hap1 : ∀ q ∈ pre ++ post, q.1 ≠ P := hap _ (.head _)
    refine nest_K F N T C hcd (updF_mk (fun q hq => hap1 q (List.mem_append_right _ hq)) (fun q hq => hap1 q (List.mem_append_left _ hq))) True.intro rfl hcl fun f c' oc vs t ctv doc h' tk F' N' d1 d2 l1 l2 => ?_
    have l3 : ∀ q ∈ pre ++ post, q.1 < c' := fun q hq => l1 q (mem3.mpr (.inr hq))
    have l4 : P < c' := l1 _ (mem3.mpr (.inl (.head _)))
    refine h f c' oc vs t [(c', oc), (P, tabObj #[rawInt pos.line, rawInt pos.col, .ref c'])] ctv doc h' tk F' ?_ d1 d2 (.head _) (.inr ⟨c', oc, vs, t, rfl, d1, d2, l4⟩) ?_ ?_
    · intro q hq
      rcases List.mem_cons.mp hq with rfl | hq
      · exact N' _ (.head _)
      · rcases mem3.mp hq with hq | hq
        · rcases List.mem_cons.mp hq with rfl | hq
          · exact N' _ (.tail _ (.head _))
          · rw [List.mem_singleton.mp hq]
            exact N' _ (.tail _ (.tail _ (List.mem_append_right _ (.head _))))
        · refine N' _ (.tail _ (.tail _ ?_))
          rcases List.mem_append.mp hq with hq | hq
          · exact List.mem_append_left _ hq
          · exact List.mem_append_right _ (.tail _ hq)
    · exact List.forall_mem_cons.mpr ⟨fun q hq => Nat.ne_of_lt (l3 q hq), List.forall_mem_cons.mpr ⟨hap1, fun _ h => nomatch h⟩⟩
    · intro q hq
      rcases mem3.mp hq with hq | hq
      · rcases List.mem_cons.mp hq with rfl | hq
        · exact l2
        · rw [List.mem_singleton.mp hq]; exact Nat.lt_trans l4 l2
      · exact Nat.lt_trans (l3 q hq) l2
  · refine nestHit_K F N T C hcd (mem3.mpr (.inl (.tail _ (.head _)))) (by kn_triples) (code_hit _ _ _ _) hcl fun f ctv doc h' tk F' N' l1 => ?_
    exact h f c1 oc us t _ ctv doc h' tk F' N' d1 d2 (.head _) (.inr ⟨c1, oc, us, t, rfl, d1, d2, hlt⟩) hap l1
noncomputable def MadeL (P : Addr) (line col : Int) (qual : Str) (ns : List Int) (news : Led) (r : Value) (news' : Led) : Prop := ∃ D vs T', r = .ref D ∧ news' = (D, lst vs 0) :: (T' ++ news) ∧ Tab P line col qual T' ∧ IntsAre vs ns ∧ (∀ p ∈ news, p.1 < D) ∧ ∀ p ∈ T', ∀ q ∈ news, q.1 ≠ p.1
theorem MadeL.hand {P : Addr} {line col : Int} {qual : Str} {ns ms : List Int} {news all T' : Led} {h₀ : Heap} {L D : Addr} {m : Str → Option Value} {s : Shared} {Q : Value → Shared → Prop} {h : Heap} {tk : Nat} {vs : List Value}
    (hret : ∀ r news' h' tk', MadeL P line col qual ns news r news' → Fr h₀ L h' m → News h₀ L h' news' → Q r { s with heap := h', toks := tk' })
    (F : Fr h₀ L h m) (N : News h₀ L h all) (hD : (D, lst vs 0) ∈ all) (hi : IntsAre vs ms) (he : ns = ms) (hT : Tab P line col qual T') (hs : ∀ p ∈ T' ++ news, p ∈ all)
    (ho : ∀ p ∈ news, p.1 < D) (hq : ∀ p ∈ T', ∀ q ∈ news, q.1 ≠ p.1) : Q (.ref D) { s with heap := h, toks := tk } := by
  subst he
  refine hret _ _ h tk ⟨D, vs, T', rfl, rfl, hT, hi, ho, hq⟩ F ?_
  intro p hp
  rcases List.mem_cons.mp hp with rfl | hp
  · exact N _ hD
  · exact N _ (hs p hp)
noncomputable def nDigs (n X : Nat) : Nat := (Builtin.Int.intBits (X : Int) + n - 1) / n
local macro_rules | `(tactic| walk_at "call builtin:len") => `(tactic| (k_here; k_dflt ((with_reducible show wpAny _ _ (call (Value.builtin _) [Value.ref _]) _ _ _); refine' kst_len (by k_asm) (by walk_at "mem") (by exact List.length_replicate ..) (by walk_at "fit") ?_)))
theorem ints_rep (t : Tok) : ∀ k, IntsAre (List.replicate k (.int 0 t)) (List.replicate k 0)
  | 0 => .nil
  | k + 1 => .cons _ _ (ints_rep t k)
local macro_rules | `(tactic| walk_at "fit") => `(tactic| first | omega | (simp only [Int.toNat_natCast]; omega))
local macro_rules | `(tactic| walk_at "exec FunctionDef") => `(tactic| (k_here; k_dflt (refine' nestDef_K (by exact rfl) (by exact rfl) (by exact rfl) ?_); refine hole ?_))
set_option maxRecDepth 100000 in
set_option maxHeartbeats 1500000 in
theorem i2d_does {prog : Program} {w : World} {base : Heap} {news T9 : Led} {X n : Nat} {ta tn : Tok} (C0 : CodeHd base 27 23) (hT9 : Tab 23 8 4 (Str.ofString "_int2digits.<locals>.inner") T9) (hc9 : ∀ p ∈ T9, ∀ q ∈ news, q.1 ≠ p.1) (hn : 1 ≤ n) (hn9 : n ≤ 9) (hX : X < 2 ^ 700) (hq : nDigs n X ≤ 80) :
    Does prog w base 28 [.int (X : Int) ta, .int (n : Int) tn] 120 (T9 ++ news) (MadeL 23 8 4 (Str.ofString "_int2digits.<locals>.inner") (digs n (nDigs n X) X) news) := by
  have hb : Builtin.Int.intBits (X : Int) ≤ 700 := intBits_le (by simpa using hX)
  have hv : ((Builtin.Int.intBits (X : Int) : Int) + (n : Int) - 1).fdiv (n : Int) = ((nDigs n X : Nat) : Int) := by
    rw [Int.fdiv_eq_ediv_of_nonneg _ (by omega)]
    unfold nDigs
    rw [Int.natCast_ediv]
    congr 1
    omega
  intro p loose mean mg mb dp un gd cn cs a₀ ccd cl outer A₀ h₀ L m s Q E B F X0 N T hk hd hu hret
  refine wpAny_call ?_
  k_dflt (refine' code_defC ?k1 ?k2 ?k3 ?k4 ?k5 ?kA ?kF ?kK ?k6 ?k7 ?k8 ?k9 ?kB ?kD ?_ ?c2 ?c3 ?c4; (case kA => exact rfl); (case kF => exact rfl); (case kK => assumption); (case k1 => k_asm); (case k2 => k_asm); (case k3 => k_asm); (case k4 => k_asm); (case k5 => k_asm); (case k6 => k_is); (case k7 => k_is); (case k8 => first | exact Nat.lt_of_le_of_lt (Nat.le_add_right _ _) (by assumption) | ktr_room); (case k9 => exact BindsTo.of_eq rfl); (case kB => exact rfl); (case kD => decide +kernel); (case c2 => exact rfl); (case c3 => exact rfl); (case c4 => exact rfl); k_whole; intro g' L' h' tk' cells' FG' F' N' Y' B' X' T' l1; k_cells Y'; (try simp only [List.cons_append, List.nil_append] at N'); (try dsimp only); (try k_fold))
  k_steps
  rename (_ < _ ∧ _) => lD
  rename Fr _ _ _ _ => F9
  rename News _ _ _ _ => N9
  have lo : ∀ b, L' ≤ b → ∀ p ∈ T9 ++ news, p.1 ≠ b := fun b hb p hp => Nat.ne_of_lt (Nat.lt_of_lt_of_le (l1 p hp) hb)
  have lN : ∀ p ∈ news, p.1 < L' := fun p hp => l1 p (List.mem_append_right _ hp)
  refine' tab_K ?F ?N ?T ?C ?cd hT9 ?sw ?ap ?hl ?hc ?hq ?cl ?_
  case F => exact F9
  case N => exact N9
  case T => k_asm
  case C => kn_code
  case cd => exact rfl
  case sw => exact .cons (.cons (.cons (.cons (.cons .here))))
  case ap =>
    intro p hp
    have hlp := l1 p (List.mem_append_left _ hp)
    repeat (refine List.forall_mem_cons.mpr ⟨Ne.symm (Nat.ne_of_lt (Nat.lt_of_lt_of_le hlp (by omega))), ?_⟩)
    exact hc9 p hp
  case hl => exact rfl
  case hc => exact rfl
  case hq => with_unfolding_all exact rfl
  case cl => exact rfl
  clear F9 N9
  intro f9 c9 oc9 us9 t9 T1 ctv9 doc9 h9 tk9 F9 N9 dd1 dd2 hc1 hT1 hap1 l9
  (try dsimp only at N9); (try dsimp only at hap1); (try dsimp only at l9)
  k_lt l9
  have hAD := apart_mem hap1 (.head _) lN (by omega)
  have hA3 := apart_mem hap1 (.tail _ (.tail _ (.head _))) lN (by omega)
  have hcD := apart_one hap1 hc1 (.head _)
  have hq1 : ∀ p ∈ T1, ∀ q ∈ news, q.1 ≠ p.1 := fun p hp q hq => hap1 p hp q (.tail _ (.tail _ (.tail _ (.tail _ (.tail _ (List.mem_append_right [] hq))))))
  clear hap1
  k_steps
  · refine' inner_call (n := n) ?k1 ?k2 ?k3 ?k4 ?k5 ?kK ?kd ?ku ?hi ?hm ?U ?h1 ?h3 ?h4 ?h5 ?h8 ?h9 ?step ?ret
    case k1 => k_asm
    case k2 => k_asm
    case k3 => k_asm
    case k4 => k_asm
    case k5 => k_asm
    case kK => first | exact rfl | assumption
    case hm => walk_at "mem"
    case hi => exact ints_rep _ _
    case U => k_updF
    case h1 => exact rfl
    case h3 => exact rfl
    case h5 => exact (List.length_replicate ..).symm
    case kd => rw [hv, Int.toNat_natCast]; exact rm hd (show _ ≤ 120 by clear hv; omega)
    case ku => rw [hv, Int.toNat_natCast]; exact ru hu (show _ ≤ 120 by clear hv; omega)
    case h9 => rw [List.length_replicate, hv, Int.toNat_natCast]; omega
    case h4 =>
      rw [hv, Int.toNat_natCast]
      exact nDigs_pos hn (fun e => by subst e; first | contradiction | simp_all)
    case h8 => rw [hv, Int.toNat_natCast]; exact nDigs_fit hn
    case step =>
      clear hret
      repeat (rename News _ _ _ _ => nX; clear nX)
      repeat (rename Fr _ _ _ _ => nX; clear nX)
      repeat (rename Below _ _ _ _ => nX; clear nX)
      repeat (rename Top _ _ _ _ _ _ => nX; clear nX)
      repeat (rename Frag.In _ _ => nX; clear nX)
      intro R9 U9 k ih X1 l r xi li ri tx tl tr vs1 ns1 e1 hx hl hr hlr hrn hk1 hi1 hX1 hns
      subst hx hl hr
      intro p2 loose2 mean2 mg2 mb2 dp2 un2 gd2 cn2 cs2 a2 ccd2 cl2 outer2 A2 h2 L2 m2 s2 Q2 E2 B2 F2 X2 N2 T2 hk2 hd2 hu2 hret2
      refine wpAny_call ?_
      k_dflt (refine' code_nest (binds := [((Str.ofString "x"), .int (X1 : Int) tx), ((Str.ofString "L"), .int (l : Int) tl), ((Str.ofString "R"), .int (r : Int) tr)]) ?k1 ?k2 ?k3 ?k4 ?k5 ?kA ?kF ?kK ?k6 ?k7 ?k8 ?k9 ?kB ?_ ?c2 ?c3 ?c4 ?c5; (case kA => exact rfl); (case kF => exact rfl); (case kK => assumption); (case k1 => k_asm); (case k2 => k_asm); (case k3 => k_asm); (case k4 => k_asm); (case k5 => k_asm); (case k6 => k_mem); (case k7 => exact codeRec_news (by k_asm) (Rest.at R9 (q := (c9, oc9)) (by walk_at "mem") hcD) dd1 dd2); (case k8 => first | exact Nat.lt_of_le_of_lt (Nat.le_add_right _ _) (by assumption) | ktr_room); (case k9 => exact BindsTo.of_eq rfl); (case c5 => decide); (case kB => exact locs rfl); (case c2 => exact rfl); (case c3 => exact rfl); (case c4 => exact rfl); k_whole; intro g3 L3 h3 FG3 F3 N3 B3 X3 T3; (try dsimp only); (try k_fold))
      have hr9 : r ≤ 1000 := Nat.le_trans hrn hns
      have hB1 : (r - l) * n ≤ 9000 := Nat.mul_le_mul (Nat.le_trans (Nat.sub_le _ _) hr9) hn9
      have hB2 : Mids l r (fun m => (m - l) * n ≤ 9000) := fun m _ h => Nat.mul_le_mul (Nat.le_trans (Nat.sub_le _ _) (Nat.le_trans (Nat.le_of_lt h) hr9)) hn9
      clear hX hq
      k_steps
      · rename IntsAre _ (List.set _ _ _) => hi3
        rw [base_eq (n := n) (by omega) hrn hX1] at hi3
        rename News h2 _ _ _ => N9
        exact hret2 .none _ _ _ ⟨rfl, _, rfl, hi3⟩ (by assumption) N9
      · rename IntsAre _ (_ ++ _) => hi3
        rw [rec_eq (by omega) (by omega) hrn] at hi3
        rename News h2 _ _ _ => N9
        exact hret2 .none _ _ _ ⟨rfl, _, rfl, hi3⟩ (by assumption) N9
    case ret =>
      intro vs9 h9 tk9 hi9 F9 N9
      k_steps
      refine' MadeL.hand hret ?F ?N ?D ?i ?e hT1 ?s ?o hq1
      case F => assumption
      case N => assumption
      case D => walk_at "mem"
      case i => exact hi9
      case e => rw [hv, Int.toNat_natCast]
      case s => walk_at "sub"
      case o => exact fun p hp => Nat.lt_trans (lN p hp) (by omega)
  · have h0 : X = 0 := by first | omega | (apply Classical.byContradiction; intro hne; simp_all)
    have hz : nDigs n X = 0 := by
      subst h0
      exact Nat.div_eq_of_lt (by show 0 + n - 1 < n; omega)
    refine' MadeL.hand hret ?F ?N ?D ?i ?e hT1 ?s ?o hq1
    case F => assumption
    case N => assumption
    case D => walk_at "mem"
    case i => exact ints_rep _ _
    case e => rw [hv, Int.toNat_natCast, hz]; rfl
    case s => walk_at "sub"
    case o => exact fun p hp => Nat.lt_trans (lN p hp) (by omega)
-- D2
noncomputable def undigs (n : Nat) : List Nat → Nat
  | [] => 0
  | x :: r => x + 2 ^ n * undigs n r
theorem undigs_append (n : Nat) : ∀ a b, undigs n (a ++ b) = undigs n a + 2 ^ (a.length * n) * undigs n b
  | [], b => by simp [undigs]
  | x :: a, b => by
    simp only [List.cons_append, undigs, undigs_append n a b, List.length_cons]
    rw [Nat.mul_add, ← Nat.mul_assoc, ← Nat.pow_add, show (a.length + 1) * n = n + a.length * n by rw [Nat.add_mul]; omega]
    omega
theorem undigs_lt (n : Nat) : ∀ ds : List Nat, (∀ d ∈ ds, d < 2 ^ n) → undigs n ds < 2 ^ (ds.length * n)
  | [], _ => by simp [undigs]
  | x :: r, h => by
    have h1 := h x (.head _)
    have h2 := undigs_lt n r fun d hd => h d (.tail _ hd)
    simp only [undigs, List.length_cons]
    rw [show (r.length + 1) * n = n + r.length * n by rw [Nat.add_mul]; omega, Nat.pow_add]
    have h3 : 2 ^ n * (undigs n r + 1) ≤ 2 ^ n * 2 ^ (r.length * n) := Nat.mul_le_mul_left _ h2
    rw [Nat.mul_add, Nat.mul_one] at h3
    omega
noncomputable abbrev seg (ds : List Nat) (l r : Nat) : List Nat := (ds.drop l).take (r - l)
theorem seg_split {ds : List Nat} {l m r : Nat} (h1 : l ≤ m) (h2 : m ≤ r) : seg ds l r = seg ds l m ++ seg ds m r := by
  unfold seg
  rw [← sub_mid h1 h2, List.take_add, List.drop_drop, Nat.add_sub_of_le h1]
theorem seg_len {ds : List Nat} {l r : Nat} (h : r ≤ ds.length) : (seg ds l r).length = r - l := by
  unfold seg; rw [List.length_take, List.length_drop, Nat.min_eq_left (Nat.sub_le_sub_right h l)]
theorem seg_lt {ds : List Nat} {n l r : Nat} (h : ∀ d ∈ ds, d < 2 ^ n) : ∀ d ∈ seg ds l r, d < 2 ^ n := fun d hd => h d (List.mem_of_mem_drop (List.mem_of_mem_take hd))
theorem seg_val {ds : List Nat} {n l m r : Nat} (h1 : l ≤ m) (h2 : m ≤ r) (h3 : r ≤ ds.length) : ((undigs n (seg ds m r) * 2 ^ ((m - l) * n) : Nat) : Int) + ((undigs n (seg ds l m) : Nat) : Int) = ((undigs n (seg ds l r) : Nat) : Int) := by
  rw [seg_split h1 h2, undigs_append, seg_len (Nat.le_trans h2 h3)]
  rw [Nat.mul_comm (2 ^ ((m - l) * n))]
  norm_cast
  omega
theorem seg_one {ds : List Nat} {n l r : Nat} (hr : l + 1 = r) (h : r ≤ ds.length) : (ds.map (Nat.cast : Nat → Int)).getD ((l : Int)).toNat 0 = ((undigs n (seg ds l r) : Nat) : Int) := by
  subst hr
  have e : seg ds l (l + 1) = [ds[l]] := by
    unfold seg
    rw [Nat.add_sub_cancel_left, List.drop_eq_getElem_cons h]; rfl
  rw [e, Int.toNat_natCast, List.getD_eq_getElem?_getD, List.getElem?_map, List.getElem?_eq_getElem h]
  simp [undigs]
noncomputable def InnerD (prog : Program) (w : World) (base : Heap) (f : Addr) (all : Led) (ds : List Nat) (n : Nat) (k : Nat) : Prop := ∀ (l r : Nat) (li ri : Int) (tl tr : Tok), li = l → ri = r → l < r → r ≤ ds.length → r - l ≤ k →
  Does prog w base f [.int li tl, .int ri tr] (k + 15) all (fun rv news' => news' = all ∧ ∃ t, rv = .int ((undigs n (seg ds l r) : Nat) : Int) t)
theorem innerD_all {prog : Program} {w : World} {base : Heap} {f : Addr} {all : Led} {ds : List Nat} {n : Nat} (step : ∀ k, InnerD prog w base f all ds n k → InnerD prog w base f all ds n (k + 1)) : ∀ k, InnerD prog w base f all ds n k
  | 0 => fun _ _ _ _ _ _ _ _ h _ h' => absurd h' (by omega)
  | k + 1 => step k (innerD_all step k)
theorem InnerD.at {prog : Program} {w : World} {base : Heap} {f : Addr} {all : Led} {ds : List Nat} {n k : Nat} (H : InnerD prog w base f all ds n k) {l r : Nat} {li ri : Int} {tl tr : Tok} (h2 : li = l) (h3 : ri = r) (h4 : l < r) (h5 : r ≤ ds.length) (h6 : r - l ≤ k) :
  Does prog w base f [.int li tl, .int ri tr] (k + 15) all (fun rv news' => news' = all ∧ ∃ t, rv = .int ((undigs n (seg ds l r) : Nat) : Int) t) := H _ _ _ _ _ _ h2 h3 h4 h5 h6
theorem innerD_call {prog : Program} {w : World} {base : Heap} {p : Program} {loose : List Str} {mean : ExcName → Option Value} {mg mb : Str → Option Value} {dp un : Nat} {gd : Option (List Code)} {cn : Str} {cs : Scope} {a : Addr} {ccd : Value} {cl : List (Str × Addr)} {outer : List Env} {A₀ : Around} {h₀ : Heap} {L : Addr} {m : Str → Option Value} {s : Shared}
    {Q E : Value → Shared → Prop} {f : Addr} {all : Led} {n r : Nat} {ri : Int} {tl tr : Tok} {ds : List Nat}
    (B : Below A₀ base outer h₀) (F : Fr h₀ L s.heap m) (Xk : Frag.In (Mine.K0.heap_1 w.params) h₀) (N : News h₀ L s.heap all) (T : Top p loose mean mg mb h₀) (hk : cs.kind = .function) (hd : dp + (r + 15) < recursionLimit) (hu : un + 8 * (r + 15) < cLine)
    (h3 : ri = r) (h4 : 0 < r) (h5 : r = ds.length)
    (step : ∀ k, InnerD prog w base f all ds n k → InnerD prog w base f all ds n (k + 1))
    (ret : ∀ t h' tk', Fr h₀ L h' m → News h₀ L h' all → Q (.int ((undigs n ds : Nat) : Int) t) { s with heap := h', toks := tk' }) :
    wpAny (model prog w) (ktrTop dp un gd cn cs L a ccd cl outer) (call (.ref f) [.int 0 tl, .int ri tr]) Q E s := by
  have H := innerD_all step r
  refine Does.use (H.at (l := 0) (r := r) rfl h3 h4 (by omega) (by omega)) B F Xk N T hk hd hu ?_
  rintro rv news' h' tk' ⟨rfl, t, rfl⟩ F' N'
  have e : seg ds 0 r = ds := by subst h5; simp [seg]
  rw [e]
  exact ret t h' tk' F' N'
local macro_rules | `(tactic| walk_at "shl") => `(tactic| exact undigs_lt _ _ (seg_lt (by assumption)))
local macro_rules | `(tactic| walk_at "call ref") => `(tactic| (k_here; k_dflt ((with_reducible show wpAny _ _ (call (Value.ref _) [Value.int _ _, Value.int _ _]) _ _ _); refine' Does.ui (by walk_at "use") (InnerD.at (by assumption) (by exact rfl) (by exact rfl) (by omega) (by omega) (by walk_at "hf")) (by walk_at "room") ?_; walk_at "gi")))
theorem truthy_ints9 {prog : Program} {w : World} {A : Around} {E : Value → Shared → Prop} {s : Shared} {h₀ : Heap} {L D : Addr} {news : Led} {vs : List Value} {ns : List Nat} {e : Nat} {Q : Bool → Shared → Prop} (N : News h₀ L s.heap news) (hm : (D, lst vs e) ∈ news) (hi : IntsAre vs (ns.map Nat.cast)) (hz : ns.length ≤ 1000000)
    (h : Q (!decide (ns.length = 0)) { s with toks := s.toks + 1 + 1 }) : wpAny (model prog w) A (truthy (.ref D)) Q E s := by
  have hl : vs.length = ns.length := by rw [hi.length, List.length_map]
  refine wpAny_truthy_list (inList N hm) (by rw [List.size_toArray, hl]; omega) ?_
  have e : vs.toArray.isEmpty = decide (ns.length = 0) := by
    rw [← hl]
    cases vs <;> simp
  rw [e]; exact h
theorem ints_len9 {vs : List Value} {ns : List Nat} (hi : IntsAre vs (ns.map Nat.cast)) : vs.length = ns.length := by rw [hi.length, List.length_map]
local macro_rules | `(tactic| walk_at "truthy ref") => `(tactic| (k_here; k_dflt ((with_reducible show wpAny _ _ (truthy (Value.ref _)) _ _ _); refine' truthy_ints9 (by k_asm) (by walk_at "mem") (by assumption) (by omega) ?_; k_whole)))
local macro_rules | `(tactic| walk_at "call builtin:len") => `(tactic| (k_here; k_dflt ((with_reducible show wpAny _ _ (call (Value.builtin _) [Value.ref _]) _ _ _); refine' kst_len (by k_asm) (by walk_at "mem") (by exact ints_len9 (by assumption)) (by walk_at "fit") ?_)))
local macro_rules | `(tactic| walk_at "idx") => `(tactic| first | omega | (simp only [List.length_map]; omega))
local macro_rules | `(tactic| walk_at "subscriptTail") => `(tactic| (k_here; k_dflt ((with_reducible show wpAny _ _ (subscriptTail _ _ (Value.ref _) (Value.int _ _)) _ _ _); refine' ksa_sub (by k_asm) (by walk_at "mem") (by assumption) (by walk_at "idx") (by walk_at "idx") (by walk_at "idx") ?_ (by with_unfolding_all rfl); k_whole); intro _))
noncomputable def ValL (P : Addr) (line col : Int) (qual : Str) (x : Int) (news : Led) (r : Value) (news' : Led) : Prop := ∃ T' t, r = .int x t ∧ news' = T' ++ news ∧ Tab P line col qual T' ∧ ∀ p ∈ T', ∀ q ∈ news, q.1 ≠ p.1
theorem ValL.hand {P : Addr} {line col : Int} {qual : Str} {x y : Int} {news all T' : Led} {h₀ : Heap} {L : Addr} {m : Str → Option Value} {s : Shared} {Q : Value → Shared → Prop} {h : Heap} {tk : Nat} {t : Tok}
    (hret : ∀ r news' h' tk', ValL P line col qual x news r news' → Fr h₀ L h' m → News h₀ L h' news' → Q r { s with heap := h', toks := tk' })
    (F : Fr h₀ L h m) (N : News h₀ L h all) (he : x = y) (hT : Tab P line col qual T') (hs : ∀ p ∈ T' ++ news, p ∈ all) (hq : ∀ p ∈ T', ∀ q ∈ news, q.1 ≠ p.1) : Q (.int y t) { s with heap := h, toks := tk } := by
  subst he
  exact hret _ _ h tk ⟨T', t, rfl, rfl, hT, hq⟩ F fun p hp => N p (hs p hp)
set_option maxRecDepth 100000 in
set_option maxHeartbeats 1500000 in
theorem d2i_does {prog : Program} {w : World} {base : Heap} {news T9 : Led} {D : Addr} {e n : Nat} {vs : List Value} {ds : List Nat} {tn : Tok} (C0 : CodeHd base 34 30) (hT9 : Tab 30 23 4 (Str.ofString "_digits2int.<locals>.inner") T9) (hc9 : ∀ p ∈ T9, ∀ q ∈ news, q.1 ≠ p.1)
    (hD : (D, lst vs e) ∈ news) (hi : IntsAre vs (ds.map Nat.cast)) (hds : ∀ d ∈ ds, d < 2 ^ n) (hn : 1 ≤ n) (hn9 : n ≤ 9) (hz : ds.length ≤ 80) :
    Does prog w base 35 [.ref D, .int (n : Int) tn] 120 (T9 ++ news) (ValL 30 23 4 (Str.ofString "_digits2int.<locals>.inner") ((undigs n ds : Nat) : Int) news) := by
  intro p loose mean mg mb dp un gd cn cs a₀ ccd cl outer A₀ h₀ L m s Q E B F X0 N T hk hd hu hret
  refine wpAny_call ?_
  k_dflt (refine' code_defC ?k1 ?k2 ?k3 ?k4 ?k5 ?kA ?kF ?kK ?k6 ?k7 ?k8 ?k9 ?kB ?kD ?_ ?c2 ?c3 ?c4; (case kA => exact rfl); (case kF => exact rfl); (case kK => assumption); (case k1 => k_asm); (case k2 => k_asm); (case k3 => k_asm); (case k4 => k_asm); (case k5 => k_asm); (case k6 => k_is); (case k7 => k_is); (case k8 => first | exact Nat.lt_of_le_of_lt (Nat.le_add_right _ _) (by assumption) | ktr_room); (case k9 => exact BindsTo.of_eq rfl); (case kB => exact rfl); (case kD => decide +kernel); (case c2 => exact rfl); (case c3 => exact rfl); (case c4 => exact rfl); k_whole; intro g' L' h' tk' cells' FG' F' N' Y' B' X' T' l1; k_cells Y'; (try simp only [List.cons_append, List.nil_append] at N'); (try dsimp only); (try k_fold))
  k_steps
  rename Fr _ _ _ _ => F9
  rename News _ _ _ _ => N9
  have lN : ∀ p ∈ news, p.1 < L' := fun p hp => l1 p (List.mem_append_right _ hp)
  refine' tab_K ?F ?N ?T ?C ?cd hT9 ?sw ?ap ?hl ?hc ?hq ?cl ?_
  case F => exact F9
  case N => exact N9
  case T => k_asm
  case C => kn_code
  case cd => exact rfl
  case sw => exact .cons (.cons (.cons .here))
  case ap =>
    intro p hp
    have hlp := l1 p (List.mem_append_left _ hp)
    repeat (refine List.forall_mem_cons.mpr ⟨Ne.symm (Nat.ne_of_lt (Nat.lt_of_lt_of_le hlp (by omega))), ?_⟩)
    exact hc9 p hp
  case hl => exact rfl
  case hc => exact rfl
  case hq => with_unfolding_all exact rfl
  case cl => exact rfl
  clear F9 N9
  intro f9 c9 oc9 us9 t9 T1 ctv9 doc9 h9 tk9 F9 N9 dd1 dd2 hc1 hT1 hap1 l9
  k_lt l9
  have hA3 := apart_mem hap1 (.head _) lN (by omega)
  have hq1 : ∀ p ∈ T1, ∀ q ∈ news, q.1 ≠ p.1 := fun p hp q hq => hap1 p hp q (.tail _ (.tail _ (.tail _ (List.mem_append_right [] hq))))
  clear hap1
  k_steps
  · refine' ValL.hand hret ?F ?N ?e hT1 ?s hq1
    case F => assumption
    case N => assumption
    case e =>
      have h0 : ds = [] := by first | (apply List.eq_nil_of_length_eq_zero; omega) | (apply List.eq_nil_of_length_eq_zero; simp_all)
      rw [h0]; rfl
    case s => walk_at "sub"
  · refine' innerD_call (n := n) (ds := ds) ?k1 ?k2 ?k3 ?k4 ?k5 ?kK ?kd ?ku ?h3 ?h4 ?h5 ?step ?ret
    case k1 => k_asm
    case k2 => k_asm
    case k3 => k_asm
    case k4 => k_asm
    case k5 => k_asm
    case kK => first | exact rfl | assumption
    case h3 => exact rfl
    case h5 => exact rfl
    case h4 => first | omega | (apply Nat.pos_of_ne_zero; simp_all)
    case kd => exact rm hd (show _ ≤ 120 by omega)
    case ku => exact ru hu (show _ ≤ 120 by omega)
    case step =>
      clear hret
      repeat (rename News _ _ _ _ => nX; clear nX)
      repeat (rename Fr _ _ _ _ => nX; clear nX)
      repeat (rename Below _ _ _ _ => nX; clear nX)
      repeat (rename Top _ _ _ _ _ _ => nX; clear nX)
      repeat (rename Frag.In _ _ => nX; clear nX)
      intro k ih l r li ri tl tr hl hr hlr hrn hk1
      subst hl hr
      intro p2 loose2 mean2 mg2 mb2 dp2 un2 gd2 cn2 cs2 a2 ccd2 cl2 outer2 A2 h2 L2 m2 s2 Q2 E2 B2 F2 X2 N2 T2 hk2 hd2 hu2 hret2
      refine wpAny_call ?_
      k_dflt (refine' code_nest (binds := [((Str.ofString "L"), .int (l : Int) tl), ((Str.ofString "R"), .int (r : Int) tr)]) ?k1 ?k2 ?k3 ?k4 ?k5 ?kA ?kF ?kK ?k6 ?k7 ?k8 ?k9 ?kB ?_ ?c2 ?c3 ?c4 ?c5; (case kA => exact rfl); (case kF => exact rfl); (case kK => assumption); (case k1 => k_asm); (case k2 => k_asm); (case k3 => k_asm); (case k4 => k_asm); (case k5 => k_asm); (case k6 => k_mem); (case k7 => exact codeRec_news (by k_asm) (by walk_at "mem" : (c9, oc9) ∈ _) dd1 dd2); (case k8 => first | exact Nat.lt_of_le_of_lt (Nat.le_add_right _ _) (by assumption) | ktr_room); (case k9 => exact BindsTo.of_eq rfl); (case c5 => decide); (case kB => exact locs rfl); (case c2 => exact rfl); (case c3 => exact rfl); (case c4 => exact rfl); k_whole; intro g3 L3 h3 FG3 F3 N3 B3 X3 T3; (try dsimp only); (try k_fold))
      have hr9 : r ≤ 1000 := Nat.le_trans hrn (Nat.le_trans hz (by decide))
      have hB1 : (r - l) * n ≤ 9000 := Nat.mul_le_mul (Nat.le_trans (Nat.sub_le _ _) hr9) hn9
      have hB2 : Mids l r (fun m => (m - l) * n ≤ 9000 ∧ (seg ds m r).length * n ≤ 9000) := fun m _ h => ⟨Nat.mul_le_mul (Nat.le_trans (Nat.sub_le _ _) (Nat.le_trans (Nat.le_of_lt h) hr9)) hn9, by rw [seg_len hrn]; exact Nat.mul_le_mul (Nat.le_trans (Nat.sub_le _ _) hr9) hn9⟩
      k_steps
      · rw [seg_one (n := n) (r := r) (by omega) hrn]
        rename News h2 _ _ _ => N9
        exact hret2 _ _ _ _ ⟨rfl, _, rfl⟩ (by assumption) N9
      · rw [seg_val (by omega) (by omega) hrn]
        rename News h2 _ _ _ => N9
        exact hret2 _ _ _ _ ⟨rfl, _, rfl⟩ (by assumption) N9
    case ret =>
      intro t9 h9 tk9 F9 N9
      k_steps
      refine' ValL.hand hret ?F ?N ?e hT1 ?s hq1
      case F => assumption
      case N => assumption
      case e => rfl
      case s => walk_at "sub"
-- T4
/-- every other item -/
noncomputable def eo {α : Type} (l : List α) : List α := (List.range ((l.length + 1) / 2)).filterMap fun k => l[2 * k]?
theorem ints_at {vs : List Value} {ns : List Int} (h : PyProof.Rows.IntsAre vs ns) : ∀ k : Nat, (vs[k]? = none ∧ ns[k]? = none) ∨ ∃ n t, vs[k]? = some (.int n t) ∧ ns[k]? = some n := by
  induction h with
  | nil => exact fun _ => .inl ⟨rfl, rfl⟩
  | cons n t _ ih =>
    intro k
    cases k with
    | zero => exact .inr ⟨n, t, rfl, rfl⟩
    | succ k => exact ih k
theorem ints_pick {vs : List Value} {ns : List Int} (h : PyProof.Rows.IntsAre vs ns) (f : Nat → Nat) : ∀ ks : List Nat, PyProof.Rows.IntsAre (ks.filterMap fun k => vs[f k]?) (ks.filterMap fun k => ns[f k]?)
  | [] => .nil
  | k :: ks => by
    rw [List.filterMap_cons, List.filterMap_cons]
    rcases ints_at h (f k) with ⟨a, b⟩ | ⟨n, t, a, b⟩
    · rw [a, b]; exact ints_pick h f ks
    · rw [a, b]; exact .cons n t (ints_pick h f ks)
theorem eo_ints {vs : List Value} {ns : List Int} (h : PyProof.Rows.IntsAre vs ns) : PyProof.Rows.IntsAre (eo vs) (eo ns) := by
  unfold eo
  rw [h.length]
  exact ints_pick h _ _
theorem eo_map {α β : Type} (f : α → β) (l : List α) : eo (l.map f) = (eo l).map f := by
  simp only [eo, List.length_map, List.getElem?_map, List.map_filterMap]
theorem eo_sub {α : Type} (l : List α) : ∀ d ∈ eo l, d ∈ l := fun d hd => by
  obtain ⟨k, _, h⟩ := List.mem_filterMap.mp hd
  exact List.mem_of_getElem? h
theorem eo_len {α : Type} (l : List α) : (eo l).length ≤ l.length := by
  refine Nat.le_trans (List.length_filterMap_le _ _) ?_
  rw [List.length_range]
  omega
theorem half_up (n a : Nat) : (if ((min a n : Nat) : Int) < (n : Int) then ((n : Int) - ((min a n : Nat) : Int) + 2 - 1) / 2 else 0).toNat = (n - a + 1) / 2 := by
  rcases Nat.lt_or_ge a n with h | h
  · rw [Nat.min_eq_left (Nat.le_of_lt h), if_pos (Int.ofNat_lt.mpr h)]
    rw [← Int.ofNat_sub (Nat.le_of_lt h), Int.add_sub_assoc]
    rfl
  · rw [Nat.min_eq_right h, if_neg (Int.lt_irrefl _), Nat.sub_eq_zero_of_le h]; rfl
theorem pick2 (vs : List Value) (a : Nat) : (slicePick vs.toArray (some (a : Int)) none (some 2)).toList = eo (vs.drop a) := by
  have e : sliceBounds (some (a : Int)) none (some 2) vs.toArray.size = (((min a vs.length : Nat) : Int), (vs.length : Int), 2) := by
    simp only [sliceBounds, Option.getD_some, show (2 : Int) > 0 by decide, if_true, List.size_toArray]
    rw [if_neg (Int.not_lt.mpr (Int.natCast_nonneg a))]
    congr 1
    rw [Int.max_eq_right (Int.le_min.mpr ⟨Int.natCast_nonneg _, Int.natCast_nonneg _⟩)]
    rcases Nat.le_total a vs.length with h | h
    · rw [Nat.min_eq_left h, Int.min_eq_left (Int.ofNat_le.mpr h)]
    · rw [Nat.min_eq_right h, Int.min_eq_right (Int.ofNat_le.mpr h)]
  unfold slicePick
  rw [e]
  dsimp only
  unfold sliceRange
  rw [if_pos (show (2 : Int) > 0 by decide)]
  have hc := half_up vs.length a
  dsimp only
  rw [hc, List.filterMap_map, eo, List.length_drop]
  refine congrArg (fun g => List.filterMap g _) (funext fun k => ?_)
  rw [List.getElem?_drop, Function.comp]
  rcases Nat.le_total a vs.length with h | h
  · rw [Nat.min_eq_left h, show ((a : Int) + 2 * (k : Int)).toNat = a + 2 * k from rfl]; simp
  · rw [Nat.min_eq_right h, List.getElem?_eq_none (Nat.le_trans h (Nat.le_add_right _ _)), List.getElem?_toArray]
    exact List.getElem?_eq_none (show vs.length ≤ vs.length + 2 * k from Nat.le_add_right _ _)
-- S1
/-- the signs, in the order of their codes from 7 on -/
noncomputable def signs : List Str := [Str.ofString "(", Str.ofString ")", Str.ofString "[", Str.ofString "]", Str.ofString ":", Str.ofString ",", Str.ofString ";", Str.ofString "+", Str.ofString "-", Str.ofString "*", Str.ofString "/", Str.ofString "|", Str.ofString "&", Str.ofString "<", Str.ofString ">", Str.ofString "=", Str.ofString ".", Str.ofString "%", Str.ofString "{", Str.ofString "}", Str.ofString "==", Str.ofString "!=", Str.ofString "<=", Str.ofString ">=", Str.ofString "~", Str.ofString "^", Str.ofString "<<", Str.ofString ">>", Str.ofString "**", Str.ofString "+=", Str.ofString "-=", Str.ofString "*=", Str.ofString "/=", Str.ofString "%=", Str.ofString "&=", Str.ofString "|=", Str.ofString "^=", Str.ofString "<<=", Str.ofString ">>=", Str.ofString "**=", Str.ofString "//", Str.ofString "//=", Str.ofString "@", Str.ofString "@=", Str.ofString "->", Str.ofString "...", Str.ofString ":=", Str.ofString "!"]
set_option maxRecDepth 100000 in
set_option maxHeartbeats 1500000 in
theorem signs_does {prog : Program} {w : World} {base : Heap} {news : Led} : Does prog w base 150 [] 20 news (RetL news signs True) := by
  intro p loose mean mg mb dp un gd cn cs a₀ ccd cl outer A₀ h₀ L m s Q E B F X N T hk hd hu hret
  refine wpAny_call ?_
  k_dflt (refine' code_def (binds := []) ?k1 ?k2 ?k3 ?k4 ?k5 ?kA ?kF ?kK ?k6 ?k7 ?k8 ?k9 ?kB ?_ ?c2 ?c3 ?c4 ?c5; (case kA => exact rfl); (case kF => exact rfl); (case kK => assumption); (case k1 => k_asm); (case k2 => k_asm); (case k3 => k_asm); (case k4 => k_asm); (case k5 => k_asm); (case k6 => k_is); (case k7 => k_is); (case k8 => first | exact Nat.lt_of_le_of_lt (Nat.le_add_right _ _) (by assumption) | ktr_room); (case k9 => first | exact BindsTo.of_eq rfl | exact binds_K (by k_in) rfl (by k_is) rfl rfl rfl); (case c5 => decide); (case kB => exact locs rfl); (case c2 => exact rfl); (case c3 => exact rfl); (case c4 => exact rfl); k_whole; intro g' L' h' FG' F' N' B' X' T'; (try dsimp only); (try k_fold))
  k_steps
  refine' RetL.hand hret ?F ?N ?mem ?sub ?ord ?sa ?e True.intro
  case F => assumption
  case N => assumption
  case mem => walk_at "mem"
  case sub => walk_at "sub"
  case ord => walk_at "ord"
  case sa => walk_at "sa"
  case e =>
    rename List.map _ _ = Txt.split _ _ => e9
    rw [e9]
    kernel_rfl
noncomputable def idxIn (x : Str) : List Str → Nat → Option Nat
  | [], _ => none
  | y :: r, k => if x = y then some k else idxIn x r (k + 1)
theorem idx_none {x : Str} : ∀ {l : List Str} {k : Nat}, x ∉ l → idxIn x l k = none
  | [], _, _ => rfl
  | y :: r, k, h => by
    unfold idxIn
    rw [if_neg (fun e => h (by rw [e]; exact .head _)), idx_none fun hm => h (.tail _ hm)]
theorem not_in {g : Heap} {c : Addr} {D : List (Str × KTD.Dat)} (_ : KTD.TextTab g c D) {l : List Str} {x : Str} (a : KTD.inKeys x D = false) (H : ∀ y ∈ l, KTD.inKeys y D = true) : x ∉ l := fun hm => by
  rw [H x hm] at a; cases a
noncomputable def symOf (x : Str) : Int := match idxIn x signs 7 with
  | some k => k
  | none => 256 + Txt.find (Str.ofString "KISBC") x
noncomputable def asInt : KTD.Dat → Option Int
  | .flat (.int i) => some i
  | _ => none
theorem opened_of {h : Heap} {P : Value → Prop} {d : KTD.Dat} {i : Int} (e : asInt d = some i) (hP : ∀ t, P (.int i t)) : KTD.Opened h P d := by
  cases d with
  | flat d => cases d with
    | int j => cases e; exact hP
    | _ => cases e
  | _ => cases e
theorem eachL_ints {h : Heap} {P : Value → Prop} {k : Str} {f : Str → Int} (hP : ∀ t, P (.int (f k) t)) : ∀ {D : List (Str × KTD.Dat)}, (D.all fun e => asInt e.2 == some (f e.1)) = true → KTD.EachL h k P D
  | [], _ => True.intro
  | (x, d) :: D, hD => by
    rw [List.all_cons, Bool.and_eq_true, beq_iff_eq] at hD
    by_cases e : k = x
    · exact KTD.eachL_hit e (opened_of hD.1 (by rw [← e]; exact hP))
    · exact KTD.eachL_miss e (eachL_ints hP hD.2)
local macro_rules | `(tactic| walk_at "EachL") => `(tactic| (k_here; refine hole ?_))
set_option maxRecDepth 100000 in
set_option maxHeartbeats 1500000 in
theorem symbol_does {prog : Program} {w : World} {base : Heap} {news : Led} {x : Str} {t : Tok} : Does prog w base 178 [.str x t] 20 news (fun r news' => news' = news ∧ ∃ t, r = .int (symOf x) t) := by
  intro p loose mean mg mb dp un gd cn cs a₀ ccd cl outer A₀ h₀ L m s Q E B F X N T hk hd hu hret
  refine wpAny_call ?_
  k_dflt (refine' code_def (binds := [((Str.ofString "word"), .str x t)]) ?k1 ?k2 ?k3 ?k4 ?k5 ?kA ?kF ?kK ?k6 ?k7 ?k8 ?k9 ?kB ?_ ?c2 ?c3 ?c4 ?c5; (case kA => exact rfl); (case kF => exact rfl); (case kK => assumption); (case k1 => k_asm); (case k2 => k_asm); (case k3 => k_asm); (case k4 => k_asm); (case k5 => k_asm); (case k6 => k_is); (case k7 => k_is); (case k8 => first | exact Nat.lt_of_le_of_lt (Nat.le_add_right _ _) (by assumption) | ktr_room); (case k9 => first | exact BindsTo.of_eq rfl | exact binds_K (by k_in) rfl (by k_is) rfl rfl rfl); (case c5 => decide); (case kB => exact locs rfl); (case c2 => exact rfl); (case c3 => exact rfl); (case c4 => exact rfl); k_whole; intro g' L' h' FG' F' N' B' X' T'; (try dsimp only); (try k_fold))
  k_steps
  · show KTD.EachL (κ := Str) _ _ _ _
    refine eachL_ints (f := symOf) ?_ (by decide +kernel)
    intro t9
    k_steps
    exact hret _ news _ _ ⟨rfl, _, rfl⟩ (by assumption) (by assumption)
  · rename (_ || _) = false => a9
    rename KTD.TextTab _ _ _ => t9
    have nm : x ∉ signs := not_in t9 a9 (by decide +kernel)
    have e9 : symOf x = 256 + Txt.find (Str.ofString "KISBC") x := by unfold symOf; rw [idx_none nm]
    refine hret _ news _ _ ⟨rfl, _, congrArg (fun z => Value.int z _) e9.symm⟩ (by assumption) (by assumption)
-- T2
noncomputable abbrev Tab23 (T : Led) : Prop := Tab 23 8 4 (Str.ofString "_int2digits.<locals>.inner") T
noncomputable abbrev Tab30 (T : Led) : Prop := Tab 30 23 4 (Str.ofString "_digits2int.<locals>.inner") T
/-- both tables -/
noncomputable def TT (T : Led) : Prop := ∃ a b, T = a ++ b ∧ Tab23 a ∧ Tab30 b
noncomputable def Plain (q : Addr × Obj) : Prop := q = (84, tabObj #[]) ∨ ∀ vs, q.2.data ≠ .fields vs
noncomputable def AllPlain (news : Led) : Prop := ∀ q ∈ news, Plain q
theorem AllPlain.nil : AllPlain [] := fun _ h => nomatch h
theorem AllPlain.cons {p : Addr × Obj} {news : Led} (h : Plain p) (k : AllPlain news) : AllPlain (p :: news) := List.forall_mem_cons.mpr ⟨h, k⟩
theorem AllPlain.append {a b : Led} (h : AllPlain a) (k : AllPlain b) : AllPlain (a ++ b) := fun p hp => (List.mem_append.mp hp).elim (h p) (k p)
local macro_rules | `(tactic| walk_at "plain") => `(tactic| first | assumption | exact AllPlain.nil | (refine AllPlain.cons (Or.inr (fun _ h => nomatch h)) ?_; walk_at "plain") | (refine AllPlain.cons (Or.inl rfl) ?_; walk_at "plain") | (refine AllPlain.append ?_ ?_ <;> walk_at "plain"))
/-- what the objects of a table's list are -/
noncomputable def TObj (P : Addr) (line col : Int) (qual : Str) (p : Addr × Obj) : Prop := (p.1 = P ∧ (p.2 = tabObj #[] ∨ ∃ c', p.2 = tabObj #[rawInt line, rawInt col, .ref c'])) ∨ ∃ vs t, p.2.data = .fields vs ∧ vs[1]? = some (.str qual t)
theorem Tab.objs {P : Addr} {line col : Int} {qual : Str} {T : Led} (h : Tab P line col qual T) : ∀ p ∈ T, TObj P line col qual p := by
  rcases h with rfl | ⟨c', oc, vs, t, rfl, h1, h2, _⟩
  · intro p hp
    rcases List.mem_cons.mp hp with rfl | hp
    · exact .inl ⟨rfl, .inl rfl⟩
    · cases hp
  · intro p hp
    rcases List.mem_cons.mp hp with rfl | hp
    · exact .inr ⟨vs, t, h1, h2⟩
    · rcases List.mem_cons.mp hp with rfl | hp
      · exact .inl ⟨rfl, .inr ⟨c', rfl⟩⟩
      · cases hp
theorem TObj.fields {P : Addr} {line col : Int} {qual : Str} {p : Addr × Obj} (h : TObj P line col qual p) : ∃ vs, p.2.data = .fields vs := by
  rcases h with ⟨_, h | ⟨c', h⟩⟩ | ⟨vs, t, h, _⟩
  · exact ⟨_, by rw [h]⟩
  · exact ⟨_, by rw [h]⟩
  · exact ⟨vs, h⟩
theorem same_at {h₀ h : Heap} {L : Addr} {all : Led} (N : News h₀ L h all) {p q : Addr × Obj} (hp : p ∈ all) (hq : q ∈ all) (e : q.1 = p.1) : q.2 = p.2 := by
  have h1 := (N p hp).1
  have h2 := (N q hq).1
  rw [e, h1] at h2
  exact (Option.some.inj h2).symm
theorem tabEmpty {vs : Array Value} {x : Value} (h : (tabObj #[]).data = .fields vs) (k : vs[1]? = some x) : False := by
  cases h; cases k
theorem TObj.not84 {P : Addr} {line col : Int} {qual : Str} {p : Addr × Obj} (h : TObj P line col qual p) (hP : P ≠ 84) (e : p.1 = 84) (o : p.2 = tabObj #[]) : False := by
  rcases h with ⟨h, _⟩ | ⟨vs, t, h, k⟩
  · exact hP (h.symm.trans e)
  · rw [o] at h; exact tabEmpty h k
theorem apart_plain {h₀ h : Heap} {L : Addr} {all T news : Led} {P : Addr} {line col : Int} {qual : Str} (N : News h₀ L h all) (hT : ∀ p ∈ T, p ∈ all) (hn : ∀ q ∈ news, q ∈ all) (ht : ∀ p ∈ T, TObj P line col qual p) (hP : P ≠ 84) (hp : AllPlain news) : ∀ p ∈ T, ∀ q ∈ news, q.1 ≠ p.1 := by
  intro p h1 q h2 e
  have s := same_at N (hT p h1) (hn q h2) e
  rcases hp q h2 with rfl | h
  · exact (ht p h1).not84 hP e.symm s.symm
  · obtain ⟨vs, hv⟩ := (ht p h1).fields
    exact h vs (s ▸ hv)
theorem raw_ne (x : Int) (q : Str) (t : Tok) : rawInt x ≠ .str q t := fun h => nomatch h
theorem apart_two {h₀ h : Heap} {L : Addr} {all T U : Led} {P P' : Addr} {line col line' col' : Int} {q q' : Str} (N : News h₀ L h all) (hT : ∀ p ∈ T, p ∈ all) (hU : ∀ p ∈ U, p ∈ all) (h1 : Tab P line col q T) (h2 : Tab P' line' col' q' U) (hP : P ≠ P') (hq : q ≠ q') : ∀ p ∈ T, ∀ r ∈ U, r.1 ≠ p.1 := by
  intro p hp r hr e
  have s := same_at N (hT p hp) (hU r hr) e
  have tabs : ∀ {P : Addr} {line col : Int} {x : Addr × Obj} {o : Obj} {vs : Array Value} {t : Tok} {q' : Str}, x.2 = o → o.data = .fields vs → vs[1]? = some (.str q' t) → ¬ (x.1 = P ∧ (x.2 = tabObj #[] ∨ ∃ c', x.2 = tabObj #[rawInt line, rawInt col, .ref c'])) := by
    intro P line col x o vs t q' e1 e2 e3 h
    rcases h with ⟨_, h | ⟨c', h⟩⟩
    · rw [e1] at h; rw [h] at e2; cases e2; cases e3
    · rw [e1] at h; rw [h] at e2; cases e2; exact raw_ne _ _ _ (Option.some.inj e3)
  rcases h1.objs p hp with a | ⟨vs, t, a1, a2⟩
  · rcases h2.objs r hr with b | ⟨us, u, b1, b2⟩
    · exact hP (a.1.symm.trans (e.symm.trans b.1))
    · exact tabs s.symm b1 b2 a
  · rcases h2.objs r hr with b | ⟨us, u, b1, b2⟩
    · exact tabs s a1 a2 b
    · rw [s, a1] at b1
      cases b1
      rw [a2] at b2
      cases b2
      exact hq rfl
theorem TT.not84 {h₀ hh : Heap} {L : Addr} {all T : Led} (h : TT T) (N : News h₀ L hh all) (hT : ∀ p ∈ T, p ∈ all) (h84 : (84, tabObj #[]) ∈ all) : ∀ p ∈ T, p.1 ≠ 84 := by
  obtain ⟨a, b, rfl, h1, h2⟩ := h
  intro p hp e
  have s : p.2 = tabObj #[] := (same_at N (hT p hp) h84 e.symm).symm
  rcases List.mem_append.mp hp with hp | hp
  · exact (h1.objs p hp).not84 (by decide) e s
  · exact (h2.objs p hp).not84 (by decide) e s
theorem q_ne : Str.ofString "_int2digits.<locals>.inner" ≠ Str.ofString "_digits2int.<locals>.inner" := by decide +kernel
/-- what _int2digits hands back, both tables told -/
noncomputable def I2D (ns : List Int) (news : Led) (r : Value) (news' : Led) : Prop := ∃ D vs T', r = .ref D ∧ news' = (D, lst vs 0) :: (T' ++ news) ∧ TT T' ∧ IntsAre vs ns ∧ (∀ p ∈ news, p.1 < D)
theorem i2d_two {prog : Program} {w : World} {base : Heap} {news T : Led} {X n : Nat} {ta tn : Tok} (C0 : CodeHd base 27 23) (hT : TT T) (hp : AllPlain news) (hn : 1 ≤ n) (hn9 : n ≤ 9) (hX : X < 2 ^ 700) (hq : nDigs n X ≤ 80) :
    Does prog w base 28 [.int (X : Int) ta, .int (n : Int) tn] 120 (T ++ news) (I2D (digs n (nDigs n X) X) news) := by
  obtain ⟨a, b, rfl, h1, h2⟩ := hT
  intro p loose mean mg mb dp un gd cn cs a₀ ccd cl outer A₀ h₀ L m s Q E B F X0 N Tp hk hd hu hret
  have N2 : News h₀ L s.heap (a ++ (b ++ news)) := by rw [← List.append_assoc]; exact N
  have ap : ∀ p ∈ a, ∀ q ∈ b ++ news, q.1 ≠ p.1 := by
    intro p hp9 q hq
    rcases List.mem_append.mp hq with hq | hq
    · exact apart_two N2 (fun x hx => List.mem_append_left _ hx) (fun x hx => List.mem_append_right _ (List.mem_append_left _ hx)) h1 h2 (by decide) q_ne p hp9 q hq
    · exact apart_plain N2 (fun x hx => List.mem_append_left _ hx) (fun x hx => List.mem_append_right _ (List.mem_append_right _ hx)) h1.objs (by decide) hp p hp9 q hq
  refine Does.use (i2d_does C0 h1 ap hn hn9 hX hq) B F X0 N2 Tp hk hd hu ?_
  rintro r news' h' tk' ⟨D, vs, T', rfl, rfl, t1, i1, o1, _⟩ F' N'
  refine hret _ _ h' tk' ⟨D, vs, T' ++ b, rfl, rfl, ⟨T', b, rfl, t1, h2⟩, i1, fun p hp => o1 p (List.mem_append_right _ hp)⟩ F' (fun p hp => N' p ?_)
  rwa [List.append_assoc] at hp
noncomputable def D2I (x : Int) (news : Led) (r : Value) (news' : Led) : Prop := ∃ T' t, r = .int x t ∧ news' = T' ++ news ∧ TT T'
theorem d2i_two {prog : Program} {w : World} {base : Heap} {news T : Led} {D : Addr} {e n : Nat} {vs : List Value} {ds : List Nat} {tn : Tok} (C0 : CodeHd base 34 30) (hT : TT T) (hp : AllPlain news)
    (hD : (D, lst vs e) ∈ news) (hi : IntsAre vs (ds.map Nat.cast)) (hds : ∀ d ∈ ds, d < 2 ^ n) (hn : 1 ≤ n) (hn9 : n ≤ 9) (hz : ds.length ≤ 80) :
    Does prog w base 35 [.ref D, .int (n : Int) tn] 120 (T ++ news) (D2I ((undigs n ds : Nat) : Int) news) := by
  obtain ⟨a, b, rfl, h1, h2⟩ := hT
  intro p loose mean mg mb dp un gd cn cs a₀ ccd cl outer A₀ h₀ L m s Q E B F X0 N Tp hk hd hu hret
  have N2 : News h₀ L s.heap (b ++ (a ++ news)) := fun p hp => N p (by
    rcases List.mem_append.mp hp with h | h
    · exact List.mem_append_left _ (List.mem_append_right _ h)
    · rcases List.mem_append.mp h with h | h
      · exact List.mem_append_left _ (List.mem_append_left _ h)
      · exact List.mem_append_right _ h)
  have ap : ∀ p ∈ b, ∀ q ∈ a ++ news, q.1 ≠ p.1 := by
    intro p hp9 q hq
    rcases List.mem_append.mp hq with hq | hq
    · exact apart_two N2 (fun x hx => List.mem_append_left _ hx) (fun x hx => List.mem_append_right _ (List.mem_append_left _ hx)) h2 h1 (by decide) q_ne.symm p hp9 q hq
    · exact apart_plain N2 (fun x hx => List.mem_append_left _ hx) (fun x hx => List.mem_append_right _ (List.mem_append_right _ hx)) h2.objs (by decide) hp p hp9 q hq
  refine Does.use (d2i_does C0 h2 ap (List.mem_append_right _ hD) hi hds hn hn9 hz) B F X0 N2 Tp hk hd hu ?_
  rintro r news' h' tk' ⟨T', t, rfl, rfl, t1, _⟩ F' N'
  refine hret _ _ h' tk' ⟨a ++ T', t, rfl, rfl, ⟨a, T', rfl, h1, t1⟩⟩ F' (fun p hp => N' p ?_)
  rcases List.mem_append.mp hp with h | h
  · rcases List.mem_append.mp h with h | h
    · exact List.mem_append_right _ (List.mem_append_left _ h)
    · exact List.mem_append_left _ h
  · exact List.mem_append_right _ (List.mem_append_right _ h)
/-- the tables' list pulled out of a ledger -/
inductive Pull : Led → Led → Led → Prop
  | here {T news : Led} : Pull (T ++ news) T news
  | cons {p : Addr × Obj} {all T rest : Led} : Pull all T rest → Pull (p :: all) T (p :: rest)
theorem Pull.news {h₀ h : Heap} {L : Addr} {all T rest : Led} (x : Pull all T rest) (N : News h₀ L h all) : News h₀ L h (T ++ rest) := by
  have : ∀ p ∈ T ++ rest, p ∈ all := by
    clear N
    induction x with
    | here => exact fun _ h => h
    | cons _ ih =>
      intro p hp
      rcases List.mem_append.mp hp with h | h
      · exact .tail _ (ih p (List.mem_append_left _ h))
      · rcases List.mem_cons.mp h with rfl | h
        · exact .head _
        · exact .tail _ (ih p (List.mem_append_right _ h))
  exact fun p hp => N p (this p hp)
local macro_rules | `(tactic| walk_at "pull") => `(tactic| first | exact Pull.here | (apply Pull.cons; walk_at "pull"))
section
variable {prog : Program} {w : World} {base : Heap} {f : Addr} {args : List Value} {d : Nat} {all T rest n9 : Led} {Ret : Value → Led → Prop} {x : Int}
variable {p : Program} {loose : List Str} {mean : ExcName → Option Value} {mg mb : Str → Option Value} {dp un : Nat} {gd : Option (List Code)} {cn : Str} {cs : Scope} {a : Addr} {ccd : Value} {cl : List (Str × Addr)} {outer : List Env} {A₀ : Around} {h₀ : Heap} {L : Addr} {m : Str → Option Value} {s : Shared} {Q E : Value → Shared → Prop}
theorem Does.pl (U : Use w base p loose mean mg mb cs outer A₀ h₀ L m s.heap all) (x : Pull all T rest) (D : Does prog w base f args d (T ++ rest) Ret) (R : dp + d < recursionLimit ∧ un + 8 * d < cLine)
    (ret : ∀ r news' h' tk', Ret r news' → Fr h₀ L h' m → News h₀ L h' news' → Q r { s with heap := h', toks := tk' }) :
    wpAny (model prog w) (ktrTop dp un gd cn cs L a ccd cl outer) (call (.ref f) args) Q E s := D.use U.B U.F U.X (x.news U.N) U.T U.hk R.1 R.2 ret
theorem Does.pi (U : Use w base p loose mean mg mb cs outer A₀ h₀ L m s.heap all) (y : Pull all T rest) (D : Does prog w base f args d (T ++ rest) (fun r n => n = n9 ∧ ∃ t, r = .int x t)) (R : dp + d < recursionLimit ∧ un + 8 * d < cLine)
    (ret : ∀ t h' tk', Fr h₀ L h' m → News h₀ L h' n9 → Q (.int x t) { s with heap := h', toks := tk' }) :
    wpAny (model prog w) (ktrTop dp un gd cn cs L a ccd cl outer) (call (.ref f) args) Q E s := D.pl U y R fun _ _ h' tk' o F N => by obtain ⟨e1, t, e2⟩ := o; subst e1 e2; exact ret t h' tk' F N
theorem Does.pd (U : Use w base p loose mean mg mb cs outer A₀ h₀ L m s.heap all) (y : Pull all T rest) (D : Does prog w base f args d (T ++ rest) (D2I x rest)) (R : dp + d < recursionLimit ∧ un + 8 * d < cLine)
    (ret : ∀ T' t h' tk', TT T' → Fr h₀ L h' m → News h₀ L h' (T' ++ rest) → Q (.int x t) { s with heap := h', toks := tk' }) :
    wpAny (model prog w) (ktrTop dp un gd cn cs L a ccd cl outer) (call (.ref f) args) Q E s := D.pl U y R fun _ _ h' tk' o F N => by obtain ⟨T', t, e1, e2, tt⟩ := o; subst e1 e2; exact ret T' t h' tk' tt F N
theorem Does.pn {ns : List Int} (U : Use w base p loose mean mg mb cs outer A₀ h₀ L m s.heap all) (y : Pull all T rest) (D : Does prog w base f args d (T ++ rest) (I2D ns rest)) (R : dp + d < recursionLimit ∧ un + 8 * d < cLine)
    (ret : ∀ D us T' h' tk', TT T' → IntsAre us ns → (∀ p ∈ rest, p.1 < D) → Fr h₀ L h' m → News h₀ L h' ((D, lst us 0) :: (T' ++ rest)) → Q (.ref D) { s with heap := h', toks := tk' }) :
    wpAny (model prog w) (ktrTop dp un gd cn cs L a ccd cl outer) (call (.ref f) args) Q E s := D.pl U y R fun _ _ h' tk' o F N => by obtain ⟨D, us, T', e1, e2, tt, ii, l⟩ := o; subst e1 e2; exact ret D us T' h' tk' tt ii l F N
end
-- R1
structure Fix where
  xr : Addr
  dr : Addr
  xo : Addr
  dO : Addr
  t1 : Tok
  t2 : Tok
  t3 : Tok
  t4 : Tok
  ne : xr ≠ xo
structure RS where
  row : List Part
  out : List Part
  nr : Nat
  no : Nat
noncomputable def led (w : World) (f : Fix) (c : RS) : Led := (f.xr, accObj 115 f.dr (refs c.row) c.nr) :: (f.dr, accD w f.t1 f.t2) :: (f.xo, accObj 115 f.dO (refs c.out) c.no) :: (f.dO, accD w f.t3 f.t4) :: (tups c.row ++ tups c.out)
noncomputable def NA (f : Fix) (q : Addr × Obj) : Prop := q.2.cls = .ref 115 → q.1 ≠ f.xr ∧ q.1 ≠ f.xo
noncomputable def AllNA (f : Fix) (news : Led) : Prop := ∀ q ∈ news, NA f q
theorem AllNA.nil {f : Fix} : AllNA f [] := fun _ h => nomatch h
theorem AllNA.cons {f : Fix} {p : Addr × Obj} {news : Led} (h : NA f p) (k : AllNA f news) : AllNA f (p :: news) := List.forall_mem_cons.mpr ⟨h, k⟩
theorem AllNA.append {f : Fix} {a b : Led} (h : AllNA f a) (k : AllNA f b) : AllNA f (a ++ b) := fun p hp => (List.mem_append.mp hp).elim (h p) (k p)
set_option hygiene false
local macro_rules | `(tactic| walk_at "na") => `(tactic| first | assumption | exact AllNA.nil | (refine AllNA.cons (fun h => nomatch h) ?_; walk_at "na") | (refine AllNA.append ?_ ?_ <;> walk_at "na"))
theorem tups_na (f : Fix) (l : List Part) : AllNA f (tups l) := fun q hq => by
  obtain ⟨p, _, rfl⟩ := List.mem_map.mp hq
  exact fun h => nomatch h
theorem apart_na {h₀ h : Heap} {L x : Addr} {o : Obj} {all news : Led} (N : News h₀ L h all) (hx : (x, o) ∈ all) (hc : o.cls = .ref 115) (hn : ∀ q ∈ news, q ∈ all) {f : Fix} (hf : x = f.xr ∨ x = f.xo) (hp : AllNA f news) : ∀ q ∈ news, q.1 ≠ x := by
  intro q hq e
  have := same_at N hx (hn q hq) e
  have h9 := hp q hq (by rw [this]; exact hc)
  rcases hf with rfl | rfl
  · exact h9.1 e
  · exact h9.2 e
section
variable {h₀ h : Heap} {L : Addr} {w : World} {f : Fix} {c : RS} {rest : Led}
theorem led_row : (f.xr, accObj 115 f.dr (refs c.row) c.nr) ∈ led w f c := .head _
theorem led_rowd : (f.dr, accD w f.t1 f.t2) ∈ led w f c := .tail _ (.head _)
theorem led_out : (f.xo, accObj 115 f.dO (refs c.out) c.no) ∈ led w f c := .tail _ (.tail _ (.head _))
theorem led_outd : (f.dO, accD w f.t3 f.t4) ∈ led w f c := .tail _ (.tail _ (.tail _ (.head _)))
theorem led_tup {p : Addr × Obj} (hp : p ∈ tups c.row ++ tups c.out) : p ∈ led w f c := .tail _ (.tail _ (.tail _ (.tail _ hp)))
noncomputable def putR (w : World) (f : Fix) (c : RS) (rest : Led) (o : Obj) : Led := (f.xr, o) :: (f.dr, accD w f.t1 f.t2) :: (f.xo, accObj 115 f.dO (refs c.out) c.no) :: (f.dO, accD w f.t3 f.t4) :: (tups c.row ++ tups c.out ++ rest)
noncomputable def putO (w : World) (f : Fix) (c : RS) (rest : Led) (o : Obj) : Led := (f.xr, accObj 115 f.dr (refs c.row) c.nr) :: (f.dr, accD w f.t1 f.t2) :: (f.xo, o) :: (f.dO, accD w f.t3 f.t4) :: (tups c.row ++ tups c.out ++ rest)
theorem restNA (c : RS) (hp : AllNA f rest) : AllNA f (tups c.row ++ tups c.out ++ rest) := ((tups_na _ _).append (tups_na _ _)).append hp
theorem putsR (N : News h₀ L h (led w f c ++ rest)) (hp : AllNA f rest) : Puts f.xr (accObj 115 f.dr (refs c.row) c.nr) (led w f c ++ rest) (putR w f c rest) := by
  intro o'
  have e : led w f c ++ rest = putR w f c rest (accObj 115 f.dr (refs c.row) c.nr) := rfl
  rw [e] at N ⊢
  refine Upd.head ?_
  have ap := apart_na (news := (f.dr, accD w f.t1 f.t2) :: (f.dO, accD w f.t3 f.t4) :: (tups c.row ++ tups c.out ++ rest)) N (.head _) rfl (fun q hq => by
    rcases List.mem_cons.mp hq with rfl | hq
    · exact .tail _ (.head _)
    · exact .tail _ (.tail _ (.tail _ hq))) (.inl rfl) (AllNA.cons (fun h => nomatch h) (AllNA.cons (fun h => nomatch h) (restNA c hp)))
  intro q hq
  rcases List.mem_cons.mp hq with rfl | hq
  · exact ap _ (.head _)
  · rcases List.mem_cons.mp hq with rfl | hq
    · exact fun e => f.ne e.symm
    · exact ap q (.tail _ hq)
theorem putsO (N : News h₀ L h (led w f c ++ rest)) (hp : AllNA f rest) : Puts f.xo (accObj 115 f.dO (refs c.out) c.no) (led w f c ++ rest) (putO w f c rest) := by
  intro o'
  have e : led w f c ++ rest = putO w f c rest (accObj 115 f.dO (refs c.out) c.no) := rfl
  rw [e] at N ⊢
  have ap := apart_na (news := (f.dr, accD w f.t1 f.t2) :: (f.dO, accD w f.t3 f.t4) :: (tups c.row ++ tups c.out ++ rest)) N (.tail _ (.tail _ (.head _))) rfl (fun q hq => by
    rcases List.mem_cons.mp hq with rfl | hq
    · exact .tail _ (.head _)
    · exact .tail _ (.tail _ (.tail _ hq))) (.inr rfl) (AllNA.cons (fun h => nomatch h) (AllNA.cons (fun h => nomatch h) (restNA c hp)))
  exact Upd.tail f.ne (Upd.tail (ap _ (.head _)) (Upd.head fun q hq => ap q (.tail _ hq)))
end
noncomputable abbrev adr (w : World) (f : Fix) (c : RS) : List Addr := (led w f c).map (·.1)
/-- what is new among the addresses is younger than all that lay there -/
noncomputable def Grow (w : World) (f : Fix) (c c' : RS) (rest : Led) : Prop := ∀ a ∈ adr w f c', a ∈ adr w f c ∨ ∀ p ∈ rest, p.1 < a
theorem Grow.off {w : World} {f : Fix} {c c' : RS} {rest own : Led} (g : Grow w f c c' rest) (hs : ∀ p ∈ own, p ∈ rest) (h : OwnOff own (adr w f c)) : OwnOff own (adr w f c') := by
  intro p hp b hb e
  rcases g b hb with h1 | h1
  · exact h p hp b h1 e
  · have := h1 p (hs p hp)
    rw [e] at this
    exact Nat.lt_irrefl _ this
theorem own_na {w : World} {f : Fix} {c : RS} {rest own : Led} (h : OwnOff own ((led w f c ++ rest).map (·.1))) : AllNA f own := fun q hq _ =>
  ⟨fun e => h q hq f.xr (List.mem_map.mpr ⟨_, List.mem_append_left _ led_row, rfl⟩) e, fun e => h q hq f.xo (List.mem_map.mpr ⟨_, List.mem_append_left _ led_out, rfl⟩) e⟩
theorem own_adr {w : World} {f : Fix} {c : RS} {rest own : Led} (h : OwnOff own ((led w f c ++ rest).map (·.1))) : OwnOff own (adr w f c) := fun q hq b hb => h q hq b (by rw [List.map_append]; exact List.mem_append_left _ hb)
theorem own_rest {w : World} {f : Fix} {c : RS} {rest own : Led} (h : OwnOff own ((led w f c ++ rest).map (·.1))) : OwnOff own (rest.map (·.1)) := fun q hq b hb => h q hq b (by rw [List.map_append]; exact List.mem_append_right _ hb)
theorem own_both {w : World} {f : Fix} {c : RS} {rest own : Led} (h : OwnOff own (adr w f c)) (k : OwnOff own (rest.map (·.1))) : OwnOff own ((led w f c ++ rest).map (·.1)) := fun q hq b hb => by
  rw [List.map_append] at hb
  exact (List.mem_append.mp hb).elim (h q hq b) (k q hq b)
set_option hygiene false
local macro_rules | `(tactic| walk_at "off") => `(tactic| first | assumption | (refine' Grow.off (by assumption) (by walk_at "sub") (by walk_at "off")))
theorem adr_sub {w : World} {f : Fix} {c c' : RS} {rest : Led} (h : ∀ p ∈ led w f c', p.1 ∈ adr w f c) : Grow w f c c' rest := fun a ha => by
  obtain ⟨p, hp, rfl⟩ := List.mem_map.mp ha
  exact .inl (h p hp)
section
variable {prog : Program} {w : World} {base : Heap} {f : Fix} {c : RS} {rest : Led}
noncomputable def PushedR (w : World) (f : Fix) (c : RS) (rest : Led) (x : Str) (t u : Tok) (r : Value) (news' : Led) : Prop := r = .none ∧ ∃ T, news' = led w f ⟨c.row ++ [⟨T, x, t, u⟩], c.out, c.nr + 1, c.no⟩ ++ rest ∧ Grow w f c ⟨c.row ++ [⟨T, x, t, u⟩], c.out, c.nr + 1, c.no⟩ rest
theorem pushR (hz : c.row.length ≤ 10000) (hp : AllNA f rest) {x : Str} {t u : Tok} :
    Does prog w base 59 [.ref f.xr, .str (Str.ofString " ") t, .str x u] 20 (led w f c ++ rest) (PushedR w f c rest x t u) := by
  intro p loose mean mg mb dp un gd cn cs a₀ ccd cl outer A₀ h₀ L m s Q E B F X N Tp hk hd hu hret
  refine Does.use (push_does (List.mem_append_left _ led_row) (List.mem_append_left _ led_rowd) (putsR N hp) (by rw [refs_len]; exact hz)) B F X N Tp hk hd hu ?_
  rintro r news' h' tk' ⟨rfl, T, rfl, lt⟩ F' N'
  refine hret _ _ h' tk' ⟨rfl, T, rfl, ?_⟩ F' (fun p hp => N' p ?_)
  · intro a ha
    simp only [adr, led, tups_app, List.map_cons, List.map_append, List.mem_cons, List.mem_append] at ha ⊢
    simp only [tups, List.map_cons, List.map_nil, List.mem_singleton, List.not_mem_nil, or_false] at ha ⊢
    by_cases e : a = T
    · exact .inr fun p hp => by rw [e]; exact lt p (List.mem_append_right _ hp)
    · exact .inl (by grind)
  · simp only [led, putR, refs_app, tups_app, List.mem_append, List.mem_cons, List.cons_append] at hp ⊢
    simp only [refs, tups, List.map_cons, List.map_nil, List.mem_singleton, List.mem_cons, List.not_mem_nil, or_false] at hp ⊢
    grind
noncomputable def PushedO (w : World) (f : Fix) (c : RS) (rest : Led) (x : Str) (t u : Tok) (r : Value) (news' : Led) : Prop := r = .none ∧ ∃ T, news' = led w f ⟨c.row, c.out ++ [⟨T, x, t, u⟩], c.nr, c.no + 1⟩ ++ rest ∧ Grow w f c ⟨c.row, c.out ++ [⟨T, x, t, u⟩], c.nr, c.no + 1⟩ rest
theorem pushO (hz : c.out.length ≤ 10000) (hp : AllNA f rest) {x : Str} {t u : Tok} :
    Does prog w base 59 [.ref f.xo, .str (Str.ofString " ") t, .str x u] 20 (led w f c ++ rest) (PushedO w f c rest x t u) := by
  intro p loose mean mg mb dp un gd cn cs a₀ ccd cl outer A₀ h₀ L m s Q E B F X N Tp hk hd hu hret
  refine Does.use (push_does (List.mem_append_left _ led_out) (List.mem_append_left _ led_outd) (putsO N hp) (by rw [refs_len]; exact hz)) B F X N Tp hk hd hu ?_
  rintro r news' h' tk' ⟨rfl, T, rfl, lt⟩ F' N'
  refine hret _ _ h' tk' ⟨rfl, T, rfl, ?_⟩ F' (fun p hp => N' p ?_)
  · intro a ha
    simp only [adr, led, tups_app, List.map_cons, List.map_append, List.mem_cons, List.mem_append] at ha ⊢
    simp only [tups, List.map_cons, List.map_nil, List.mem_singleton, List.not_mem_nil, or_false] at ha ⊢
    by_cases e : a = T
    · exact .inr fun p hp => by rw [e]; exact lt p (List.mem_append_right _ hp)
    · exact .inl (by grind)
  · simp only [led, putO, refs_app, tups_app, List.mem_append, List.mem_cons, List.cons_append] at hp ⊢
    simp only [refs, tups, List.map_cons, List.map_nil, List.mem_singleton, List.mem_cons, List.not_mem_nil, or_false] at hp ⊢
    grind
noncomputable abbrev tupAt (q : Part) : Addr × Obj := (q.a, tupOf [.str (Str.ofString " ") q.t, .str q.x q.u])
noncomputable def PoppedR (w : World) (f : Fix) (rs : List Part) (q : Part) (out : List Part) (nr no : Nat) (rest : Led) (r : Value) (news' : Led) : Prop := r = .ref q.a ∧ news' = tupAt q :: (led w f ⟨rs, out, nr + 1, no⟩ ++ rest) ∧ ∀ rest', Grow w f ⟨rs ++ [q], out, nr, no⟩ ⟨rs, out, nr + 1, no⟩ rest'
theorem popR {rs : List Part} {q : Part} {out : List Part} {nr no : Nat} (O : Out prog) (hz : rs.length ≤ 10000) (hp : AllNA f rest) :
    Does prog w base 75 [.ref f.xr] 40 (led w f ⟨rs ++ [q], out, nr, no⟩ ++ rest) (PoppedR w f rs q out nr no rest) := by
  intro p loose mean mg mb dp un gd cn cs a₀ ccd cl outer A₀ h₀ L m s Q E B F X N Tp hk hd hu hret
  have e : refs (rs ++ [q]) = refs rs ++ [.ref q.a] := refs_app _ _
  have P := putsR N hp
  have M1 : (f.xr, accObj 115 f.dr (refs (rs ++ [q])) nr) ∈ led w f ⟨rs ++ [q], out, nr, no⟩ ++ rest := List.mem_append_left _ led_row
  simp only [e] at P M1
  refine Does.use (pop_does (vs := refs rs) (v := .ref q.a) O M1 (List.mem_append_left _ led_rowd) P (by rw [refs_len]; exact hz)) B F X N Tp hk hd hu ?_
  rintro r news' h' tk' ⟨rfl, rfl⟩ F' N'
  refine hret _ _ h' tk' ⟨rfl, rfl, fun rest' => adr_sub ?_⟩ F' (fun p hp => N' p ?_)
  · intro p hp
    simp only [adr, led, tups_app, List.map_cons, List.map_append, List.mem_cons, List.mem_append] at hp ⊢
    simp only [tups, List.map_cons, List.map_nil, List.mem_singleton, List.not_mem_nil, or_false] at hp ⊢
    grind
  · simp only [led, putR, tups_app, List.mem_append, List.mem_cons, List.cons_append] at hp ⊢
    simp only [tupAt, tups, List.map_cons, List.map_nil, List.mem_singleton, List.mem_cons, List.not_mem_nil, or_false] at hp ⊢
    grind
noncomputable def PoppedF (w : World) (f : Fix) (rs qs : List Part) (out : List Part) (nr no : Nat) (rest : Led) (r : Value) (news' : Led) : Prop := ∃ D, r = .ref D ∧ news' = (D, lst (refs qs) 0) :: (tups qs ++ (led w f ⟨rs, out, nr + 1, no⟩ ++ rest)) ∧ (∀ p ∈ rest, p.1 < D) ∧ ∀ rest', Grow w f ⟨rs ++ qs, out, nr, no⟩ ⟨rs, out, nr + 1, no⟩ rest'
theorem popF {rs qs : List Part} {out : List Part} {nr no : Nat} {k : Int} {tk : Tok} (hk0 : k = (rs.length : Int)) (hz : rs.length ≤ 10000) (hz1 : qs.length ≤ 1000) (hz0 : 0 < qs.length) (hp : AllNA f rest) :
    Does prog w base 67 [.ref f.xr, .int k tk] 40 (led w f ⟨rs ++ qs, out, nr, no⟩ ++ rest) (PoppedF w f rs qs out nr no rest) := by
  intro p loose mean mg mb dp un gd cn cs a₀ ccd cl outer A₀ h₀ L m s Q E B F X N Tp hk hd hu hret
  have e : refs (rs ++ qs) = refs rs ++ refs qs := refs_app _ _
  have P := putsR N hp
  have M1 : (f.xr, accObj 115 f.dr (refs (rs ++ qs)) nr) ∈ led w f ⟨rs ++ qs, out, nr, no⟩ ++ rest := List.mem_append_left _ led_row
  simp only [e] at P M1
  have ek : k = ((refs rs).length : Int) := by rw [refs_len]; exact hk0
  subst ek
  refine Does.use (popfrom_does (vs := refs rs) (us := refs qs) M1 (List.mem_append_left _ led_rowd) P (by rw [refs_len]; exact hz) (by rw [refs_len]; exact hz1) (by rw [refs_len]; exact hz0)) B F X N Tp hk hd hu ?_
  rintro r news' h' tk' ⟨D, rfl, rfl, lt⟩ F' N'
  refine hret _ _ h' tk' ⟨D, rfl, rfl, fun p hp => lt p (List.mem_append_right _ hp), fun rest' => adr_sub ?_⟩ F' (fun p hp => N' p ?_)
  · intro p hp
    simp only [adr, led, tups_app, List.map_cons, List.map_append, List.mem_cons, List.mem_append] at hp ⊢
    grind
  · simp only [led, putR, tups_app, List.mem_append, List.mem_cons, List.cons_append] at hp ⊢
    grind
theorem countR (O : Out prog) : Does prog w base 112 [.ref f.xr] 20 (led w f c ++ rest) (fun r news' => news' = led w f c ++ rest ∧ ∃ t, r = .int (c.row.length : Nat) t) := by
  intro p loose mean mg mb dp un gd cn cs a₀ ccd cl outer A₀ h₀ L m s Q E B F X N Tp hk hd hu hret
  refine Does.use (count_does O (List.mem_append_left _ led_row) (List.mem_append_left _ led_rowd)) B F X N Tp hk hd hu ?_
  rintro r news' h' tk' ⟨rfl, t, rfl⟩ F' N'
  exact hret _ _ h' tk' ⟨rfl, t, by rw [refs_len]⟩ F' N'
end
-- R2
set_option hygiene false
local macro_rules | `(tactic| walk_at "call ref") => `(tactic| (k_here; k_dflt ((with_reducible show wpAny _ _ (call (Value.ref 115) _) _ _ _); refine' Does.u (by walk_at "use") (newAcc (by assumption)) (by walk_at "room") ?_; intro r9 n9 h9 tk9 ho9 F9 N9; obtain ⟨x9, dx9, ta9, tb9, e9, e9', l9, m9⟩ := ho9; subst e9; subst e9'; (try k_lt l9); walk_at "gf")))
local macro_rules | `(tactic| walk_at "call ref") => `(tactic| (k_here; k_dflt ((with_reducible show wpAny _ _ (call (Value.ref 59) _) _ _ _); refine' Does.u (by walk_at "use") (push_does (by walk_at "mem") (by walk_at "mem") (by (intro o9; k_upd)) (by exact Nat.zero_le _)) (by walk_at "room") ?_; intro r9 n9 h9 tk9 ho9 F9 N9; obtain ⟨e9, T9, e9', l9⟩ := ho9; subst e9; subst e9'; (try k_lt l9); walk_at "gf")))
theorem join_strs {prog : Program} {w : World} {A : Around} {E : Value → Shared → Prop} {s : Shared} {h₀ : Heap} {L l : Addr} {news : Led} {n : Nat} {Q : Value → Shared → Prop} {vs : List Value} {ws : List Str} {x : Str} {t : Tok}
    (N : News h₀ L s.heap news) (hm : (l, lst vs n) ∈ news) (hw : StrsAre vs ws) (hok : (ws.map (·.length)).sum + ws.length * x.length ≤ 16777216) (h : ∀ t' k, Q (.str (Txt.join x ws) t') { s with toks := k }) : wpAny (model prog w) A (call (.builtin "str.join") [.str x t, .ref l]) Q E s :=
  join_list (inList N hm) hw hok h
local macro_rules | `(tactic| walk_at "call builtin:str.join") => `(tactic| (k_here; k_dflt ((with_reducible show wpAny _ _ (call (Value.builtin _) [Value.str _ _, Value.ref _]) _ _ _); refine' join_strs (by k_asm) (by walk_at "mem") (by walk_at "sa") (by walk_at "jok") ?_; intro _ _)))
/-- few words, short ones -/
noncomputable def Short (ws : List Str) : Prop := ws.length ≤ 1000 ∧ ∀ x ∈ ws, x.length ≤ 100
theorem Short.drop {ws : List Str} (h : Short ws) (k : Nat) : Short (ws.drop k) := ⟨by have := h.1; rw [List.length_drop]; omega, fun x hx => h.2 x (List.mem_of_mem_drop hx)⟩
theorem Short.take {ws : List Str} (h : Short ws) (k : Nat) : Short (ws.take k) := ⟨by have := h.1; rw [List.length_take]; omega, fun x hx => h.2 x (List.mem_of_mem_take hx)⟩
theorem sum_le {B : Nat} : ∀ ws : List Str, (∀ x ∈ ws, x.length ≤ B) → (ws.map (·.length)).sum ≤ ws.length * B
  | [], _ => by simp
  | x :: r, h => by
    have h1 := h x (.head _)
    have h2 := sum_le r fun y hy => h y (.tail _ hy)
    simp only [List.map_cons, List.sum_cons, List.length_cons, Nat.add_mul, Nat.one_mul]
    omega
theorem sp_len : ((Str.ofString " ")).length = 1 := by decide +kernel
theorem Short.jok {ws : List Str} (h : Short ws) : (ws.map (·.length)).sum + ws.length * ((Str.ofString " ")).length ≤ 16777216 := by
  have h1 := sum_le ws h.2
  have h2 := h.1
  rw [sp_len]
  omega
local macro_rules | `(tactic| walk_at "short") => `(tactic| first | assumption | (refine Short.drop ?_ _; walk_at "short") | (refine Short.take ?_ _; walk_at "short"))
local macro_rules | `(tactic| walk_at "jok") => `(tactic| (refine Short.jok ?_; walk_at "short"))
theorem split_ws {prog : Program} {w : World} {A : Around} {E : Value → Shared → Prop} {s : Shared} {h₀ : Heap} {L : Addr} {m : Str → Option Value} {news : Led} {Q : Value → Shared → Prop} {ws : List Str} {x : Str} {t u : Tok}
    (F : Fr h₀ L s.heap m) (N : News h₀ L s.heap news) (hx : Txt.split x (Str.ofString " ") = ws) (hz : x.length ≤ 1000000)
    (h : ∀ D us h' k, Fr h₀ L h' m → News h₀ L h' ((D, lst us 0) :: news) → (∀ p ∈ news, p.1 < D) → StrsAre us ws → Q (.ref D) { s with heap := h', toks := k }) :
    wpAny (model prog w) A (call (.builtin "str.split") [.str x t, .str (Str.ofString " ") u]) Q E s :=
  KSpl.split1 F N (by decide +kernel) (fun D l h' k e sa F' N' l1 => h D _ h' k F' N' l1 (by rw [e, hx] at sa; exact sa)) (by rw [sizeLine_eq]; omega)
local macro_rules | `(tactic| walk_at "call builtin:str.split") => `(tactic| (k_here; k_dflt ((with_reducible show wpAny _ _ (call (Value.builtin "str.split") [Value.str _ _, Value.str _ _]) _ _ _); refine' split_ws (by k_asm) (by k_asm) (by assumption) (by assumption) ?_); intros; (try k_sweep)))
local macro_rules | `(tactic| walk_at "it") => `(tactic| assumption)
/-- the machine: the pile of pieces (the last one on top), what is told, how many wait -/
structure M where
  row : List (List Str)
  out : List Str
  wait : Nat
noncomputable def needOf (s : Int) : Nat := if s = 256 then 2 else if s = 257 then 1 else if 258 ≤ s ∧ s ≤ 260 then 3 else 0
theorem need_0 {s : Int} (h : s < 256) : needOf s = 0 := by unfold needOf; rw [if_neg (by omega), if_neg (by omega), if_neg (by omega)]
theorem need_2 {s : Int} (h : s = 256) : needOf s = 2 := by unfold needOf; rw [if_pos h]
theorem need_1 {s : Int} (h : s = 257) : needOf s = 1 := by unfold needOf; rw [if_neg (by omega), if_pos h]
theorem need_3 {s : Int} (h : 258 ≤ s) (k : s ≤ 260) : needOf s = 3 := by unfold needOf; rw [if_neg (by omega), if_neg (by omega), if_pos ⟨h, k⟩]
noncomputable def cutOf (ws : List Str) : Nat := (1 + lawEnd (ws.drop (Int.toNat 1))).toNat
noncomputable def layOf (w0 : Str) (got : List (List Str)) : List (List Str) :=
  if w0 = (Str.ofString "S") then [[(Str.ofString "@")] ++ got.getD 1 [] ++ got.getD 0 [], got.getD 0 [], got.getD 2 []]
  else if w0 = (Str.ofString "B") then [[(Str.ofString "@")] ++ got.getD 1 [] ++ got.getD 0 [], got.getD 2 []]
  else if w0 = (Str.ofString "C") then [got.getD 1 [], got.getD 0 [], got.getD 2 []]
  else got.drop (got.length - 1)
noncomputable def stepM (m : M) : M := match m.row.getLast? with
  | none => m
  | some ws =>
    let rs := m.row.dropLast
    let w0 := ws.headD (Str.ofString "")
    if w0 = (Str.ofString "@") then ⟨rs ++ [ws.drop (cutOf ws), (ws.take (cutOf ws)).drop (Int.toNat 1)], m.out, m.wait + 1⟩
    else if 0 < needOf (symOf w0) ∧ needOf (symOf w0) ≤ m.wait then
      let got := rs.drop (rs.length - needOf (symOf w0))
      ⟨rs.take (rs.length - needOf (symOf w0)) ++ layOf w0 got, m.out, m.wait - needOf (symOf w0) + ((layOf w0 got).length - 1)⟩
    else ⟨rs, m.out ++ (List.replicate m.wait (Str.ofString "@") ++ [w0]), 0⟩
/-- a piece that will do -/
noncomputable def PieceOk (ws : List Str) : Prop := ws ≠ [] ∧ ws.length ≤ 300 ∧ ∀ x ∈ ws, x.length ≤ 100 ∧ NoSp x
/-- a state that will do -/
noncomputable def OkM (m : M) : Prop := (∀ ws ∈ m.row, PieceOk ws) ∧ m.row.length ≤ 300 ∧ m.out.length ≤ 600 ∧ m.wait ≤ 200 ∧
  match m.row.getLast? with
  | none => True
  | some ws => symOf (ws.headD (Str.ofString "")) ≤ 260 ∧ (ws.headD (Str.ofString "") ≠ (Str.ofString "@") → needOf (symOf (ws.headD (Str.ofString ""))) ≤ m.wait → needOf (symOf (ws.headD (Str.ofString ""))) ≤ m.row.dropLast.length)
noncomputable def itM (m : M) : Nat → M
  | 0 => m
  | k + 1 => stepM (itM m k)
structure RQ where
  c : RS
  k : Nat
  tk : Tok
noncomputable abbrev psQ (f : Fix) (q : RQ) : List (Str × Value) := [((Str.ofString "row"), .ref f.xr), ((Str.ofString "out"), .ref f.xo), ((Str.ofString "wait"), .int (q.k : Int) q.tk)]
/-- what the program's state is, told by the machine's -/
noncomputable def IsM (q : RQ) (m : M) : Prop := texts q.c.row = m.row.map jn ∧ texts q.c.out = m.out ∧ q.k = m.wait
local macro_rules | `(tactic| walk_at "call ref") => `(tactic| (k_here; k_dflt ((with_reducible show wpAny _ _ (call (Value.ref 112) _) _ _ _); refine' Does.pi (by walk_at "use") (by walk_at "pull") (countR (by assumption)) (by walk_at "room") ?_; walk_at "gi")))
local macro_rules | `(tactic| walk_at "call ref") => `(tactic| (k_here; k_dflt ((with_reducible show wpAny _ _ (call (Value.ref 75) _) _ _ _); refine' Does.pl (by walk_at "use") (by walk_at "pull") (popR (by assumption) (by assumption) (by walk_at "na")) (by walk_at "room") ?_; intro r9 n9 h9 tk9 ho9 F9 N9; obtain ⟨e9, e9', g9⟩ := ho9; subst e9; subst e9'; walk_at "gf")))
local macro_rules | `(tactic| walk_at "call ref") => `(tactic| (k_here; k_dflt ((with_reducible show wpAny _ _ (call (Value.ref 178) _) _ _ _); refine' Does.ui (by walk_at "use") symbol_does (by walk_at "room") ?_; walk_at "gi")))
local macro_rules | `(tactic| walk_at "call ref") => `(tactic| (k_here; k_dflt ((with_reducible show wpAny _ _ (call (Value.ref 67) _) _ _ _); refine' Does.pl (by walk_at "use") (by walk_at "pull") (popF (by walk_at "plen") (by assumption) (by assumption) (by assumption) (by walk_at "na")) (by walk_at "room") ?_; intro r9 n9 h9 tk9 ho9 F9 N9; obtain ⟨D9, e9, e9', l9, g9⟩ := ho9; subst e9; subst e9'; walk_at "gf")))
local macro_rules | `(tactic| walk_at "plen") => `(tactic| first | omega | (simp only [List.length_append, List.length_cons, List.length_nil]; omega))
theorem needVal {s : Int} (h : 256 ≤ s) (k : s ≤ 260) : ([2, 1, 3, 3, 3] : List Int).getD (s - 256).toNat 0 = (needOf s : Nat) := by
  obtain ⟨j, rfl⟩ := Int.le.dest h
  have hj : j < 5 := by omega
  clear h k
  revert j
  decide
theorem end1 {α : Type} {l : List α} (h : 1 ≤ l.length) : ∃ r a, l = r ++ [a] := by
  rcases List.eq_nil_or_concat l with e | ⟨r, a, e⟩
  · rw [e] at h; exact absurd h (by simp)
  · exact ⟨r, a, by rw [e, List.concat_eq_append]⟩
theorem end2 {α : Type} {l : List α} (h : 2 ≤ l.length) : ∃ r a b, l = r ++ [a, b] := by
  obtain ⟨r, b, rfl⟩ := end1 (l := l) (by omega)
  obtain ⟨r, a, rfl⟩ := end1 (l := r) (by simpa using h)
  exact ⟨r, a, b, by simp⟩
theorem end3 {α : Type} {l : List α} (h : 3 ≤ l.length) : ∃ r a b c, l = r ++ [a, b, c] := by
  obtain ⟨r, c, rfl⟩ := end1 (l := l) (by omega)
  obtain ⟨r, a, b, rfl⟩ := end2 (l := r) (by simpa using h)
  exact ⟨r, a, b, c, by simp⟩
local macro_rules | `(tactic| walk_at "subscriptTail Name Constant ref int") => `(tactic| (k_here; k_dflt ((with_reducible show wpAny _ _ (subscriptTail _ _ (Value.ref _) (Value.int _ _)) _ _ _); refine' item_strs (by k_asm) (by walk_at "mem") (by walk_at "sa") (by first | decide | omega) (by first | decide | omega) (by walk_at "it") ?_ (by with_unfolding_all rfl)); intro _))
local macro_rules | `(tactic| walk_at "subscriptTail") => `(tactic| (k_here; k_dflt ((with_reducible show wpAny _ _ (subscriptTail _ _ (Value.ref _) (Value.int _ _)) _ _ _); refine' item_strs (by k_asm) (by walk_at "mem") (by walk_at "sa") (by first | decide | omega) (by first | decide | omega) (by walk_at "it") ?_ (by with_unfolding_all rfl)); intro _))
local macro_rules | `(tactic| walk_at "exec Assign cons ListComp") => `(tactic| (k_here; lcp_look; k_dflt (refine LCp.Assign_ListComp_P (F₀ := by k_asm) (by rfl) (by with_unfolding_all rfl) (by with_unfolding_all rfl) (by decide) (by rfl) (by decide) (by rfl) (by rfl) (by decide) (by rfl) (by rfl) ?_)))
local macro_rules | `(tactic| walk_at "SrcLP") => `(tactic| (k_here; k_dflt (refine' src_pairs (by exact rfl) (by k_asm) (by k_asm) (by walk_at "mem") (by walk_at "sub") (by omega) (by intro _; exact rfl) (by intro _; exact rfl) (by decide) ?_; intro g9 ys9 sa9; unfold LCg.FinA; intros)))
set_option hygiene true
local macro_rules | `(tactic| k_in) => `(tactic| (refine' Frag.In.keeps ?a (Fr.keep ?b); (case b => with_reducible assumption); (case a => with_reducible assumption)))
structure RL where
  c : RS
  k : Nat
  tk : Tok
  D : Addr
  lv : List Value
  ln : Nat
  lts : List (List Str)
noncomputable def IsL (own : Led) (w : World) (f : Fix) (m : M) (q : RL) : Prop := StrsAre q.lv (q.lts.map jn) ∧ texts q.c.row ++ q.lts.map jn = (stepM m).row.map jn ∧ texts q.c.out = (stepM m).out ∧ q.k = (stepM m).wait ∧ OwnOff own (adr w f q.c)
noncomputable abbrev psL (f : Fix) (q : RL) : List (Str × Value) := [((Str.ofString "row"), .ref f.xr), ((Str.ofString "out"), .ref f.xo), ((Str.ofString "wait"), .int (q.k : Int) q.tk), ((Str.ofString "lay"), .ref q.D)]
noncomputable abbrev ledL (w : World) (f : Fix) (rest : Led) (q : RL) : Led := (q.D, lst q.lv q.ln) :: (led w f q.c ++ rest)
set_option hygiene false
local macro_rules | `(tactic| walk_at "mem") => `(tactic| first | with_reducible exact led_row | with_reducible exact led_rowd | with_reducible exact led_out | with_reducible exact led_outd)
-- R3
local macro_rules | `(tactic| walk_at "pyIter ref") => `(tactic| (k_here; refine hole ?_))
local macro_rules | `(tactic| walk_at "isTrue Compare") => `(tactic| (k_here; (with_reducible show wpAny _ _ (isTrue (PySem.Expr.Compare _ [_, _] _ _) _ _) _ _ _); refine hole ?_))
local macro_rules | `(tactic| walk_at "execs cons") => `(tactic| (k_here; with_reducible first | refine holeA "need" ?_ | refine holeA "got" ?_))
theorem nmRun {h₀ h : Heap} {L T D x d x0 d0 : Addr} {oT oD ox od ox0 od0 : Obj} {news : Led} {P : Prop} (_ : News h₀ L h ((T, oT) :: (D, oD) :: (x, ox) :: (d, od) :: (x0, ox0) :: (d0, od0) :: news)) (k : ∀ T' x' d' x0' d0', T' = T → x' = x → d' = d → x0' = x0 → d0' = d0 → P) : P := k T x d x0 d0 rfl rfl rfl rfl rfl
theorem nmRun2 {w : World} {h₀ h : Heap} {L T D x d x0 d0 : Addr} {a b : Tok} {x9 : Str} {vs vs0 : List Value} {n n0 : Nat} {oD : Obj} {t1 t2 t3 t4 : Tok} {news : Led} {P : Prop}
    (_ : News h₀ L h ((T, tupOf [.str (Str.ofString " ") a, .str x9 b]) :: (D, oD) :: (x, accObj 115 d vs n) :: (d, accD w t1 t2) :: (x0, accObj 115 d0 vs0 n0) :: (d0, accD w t3 t4) :: news)) (k : ∀ a' b' t1' t2' t3' t4', a' = a → b' = b → t1' = t1 → t2' = t2 → t3' = t3 → t4' = t4 → P) : P := k _ _ _ _ _ _ rfl rfl rfl rfl rfl rfl
theorem nmW {h₀ h : Heap} {L D : Addr} {vs : List Value} {k : Nat} {news : Led} {P : Prop} (_ : News h₀ L h ((D, lst vs k) :: news)) (k : ∀ D' vs', D' = D → vs' = vs → P) : P := k D vs rfl rfl
local macro_rules | `(tactic| walk_at "call ref") => `(tactic| (k_here; k_dflt ((with_reducible show wpAny _ _ (call (Value.ref 59) [Value.ref (Fix.xr _), _, _]) _ _ _); refine' Does.pl (by walk_at "use") (by walk_at "pull") (pushR (by assumption) (by walk_at "na")) (by walk_at "room") ?_; intro r9 n9 h9 tk9 ho9 F9 N9; obtain ⟨e9, T9, e9', g9⟩ := ho9; subst e9; subst e9'; walk_at "gf")))
local macro_rules | `(tactic| walk_at "call ref") => `(tactic| (k_here; k_dflt ((with_reducible show wpAny _ _ (call (Value.ref 59) [Value.ref (Fix.xo _), _, _]) _ _ _); refine' Does.pl (by walk_at "use") (by walk_at "pull") (pushO (by assumption) (by walk_at "na")) (by walk_at "room") ?_; intro r9 n9 h9 tk9 ho9 F9 N9; obtain ⟨e9, T9, e9', g9⟩ := ho9; subst e9; subst e9'; walk_at "gf")))
local macro_rules | `(tactic| walk_at "exec For Name Name cons nil") => `(tactic| (k_here; (rename Fr _ _ _ _ => lF'); (rename StrsAre _ _ => iL); (with_unfolding_all refine' For_invVF lF' (by exact rfl) (by exact rfl) ?_; k_whole)))
local macro_rules | `(tactic| walk_at "exec For Name BinOp cons nil") => `(tactic| (k_here; (rename Fr _ _ _ _ => lF'); (rename StrsAre _ _ => iL); (with_unfolding_all refine' For_invVF lF' (by exact rfl) (by exact rfl) ?_; k_whole)))
theorem strs_val : ∀ {vs : List Value} {ts : List Str} {i : Nat} {v : Value}, StrsAre vs ts → vs[i]? = some v → ∃ x t, v = .str x t ∧ ts[i]? = some x
  | _, _, _, _, .nil, h => by simp at h
  | _, _, 0, _, .cons n t _, h => ⟨n, t, by simpa using h.symm, rfl⟩
  | _, _, i + 1, _, .cons n t r, h => by
    obtain ⟨x, t, e, hx⟩ := strs_val (i := i) r (by simpa using h)
    exact ⟨x, t, e, by simpa using hx⟩
theorem off_tail {own : Led} {a : Addr} {l : List Addr} (h : OwnOff own (a :: l)) : OwnOff own l := fun p hp b hb => h p hp b (.tail _ hb)
theorem off_cons {own : Led} {a : Addr} {l : List Addr} (h : ∀ p ∈ own, p.1 ≠ a) (k : OwnOff own l) : OwnOff own (a :: l) := fun p hp b hb => by
  rcases List.mem_cons.mp hb with rfl | hb
  · exact h p hp
  · exact k p hp b hb
theorem off_head {own : Led} {a : Addr} {l : List Addr} (h : OwnOff own (a :: l)) : ∀ p ∈ own, p.1 ≠ a := fun p hp => h p hp a (.head _)
theorem take_snoc {l : List Str} {i : Nat} {x : Str} (h : l[i]? = some x) : l.take (i + 1) = l.take i ++ [x] := by
  rw [List.take_add_one, h]; rfl
theorem nmG {w : World} {f : Fix} {c c' : RS} {rest : Led} {P : Prop} (_ : Grow w f c c' rest) (k : ∀ c'', c'' = c' → P) : P := k c' rfl
theorem rep_strs {c : Str} {t : Tok} : ∀ n : Nat, StrsAre (List.replicate n [Value.str c t]).flatten (List.replicate n c)
  | 0 => .nil
  | n + 1 => by
    rw [List.replicate_succ, List.replicate_succ, List.flatten_cons]
    exact .cons _ _ (rep_strs n)
theorem mul_one' {prog : Program} {w : World} {A : Around} {E : Value → Shared → Prop} {s : Shared} {h₀ : Heap} {L l : Addr} {m : Str → Option Value} {news : Led} {n : Nat} {Q : Value → Shared → Prop} {c : Str} {t u : Tok} {k : Nat}
    (F : Fr h₀ L s.heap m) (N : News h₀ L s.heap news) (hm : (l, lst [.str c t] n) ∈ news) (hk : k ≤ 200)
    (h : ∀ D zs h', Fr h₀ L h' m → News h₀ L h' ((D, lst zs 0) :: news) → (∀ p ∈ news, p.1 < D) → StrsAre zs (List.replicate k c) → Q (.ref D) { s with heap := h' }) :
    wpAny (model prog w) A (binaryOp .Mult (.ref l) (.int (k : Int) u)) Q E s :=
  KMa.mul F N (inList N hm) (by omega) (by omega) (by simp only [List.length_cons, List.length_nil, Int.toNat_natCast]; omega) rfl (fun D h' F' N' l1 => h D _ h' F' N' l1 (by rw [Int.toNat_natCast]; exact rep_strs k))
local macro_rules | `(tactic| walk_at "binaryOp Mult ref int") => `(tactic| (k_here; k_dflt ((with_reducible show wpAny _ _ (binaryOp Operator.Mult (Value.ref _) (Value.int (Nat.cast _) _)) _ _ _); refine' mul_one' (by k_asm) (by k_asm) (by walk_at "mem") (by omega) ?_; k_whole; intros; (try k_sweep))))
local macro_rules | `(tactic| walk_at "len") => `(tactic| (simp only [List.length_replicate, List.length_append, List.length_take, List.length_drop]; omega))
theorem stepM_at {m : M} {rs : List (List Str)} {ws : List Str} (hm : m.row = rs ++ [ws]) (h : Hole (ws.headD (Str.ofString "") = (Str.ofString "@"))) : stepM m = ⟨rs ++ [ws.drop (cutOf ws), (ws.take (cutOf ws)).drop (Int.toNat 1)], m.out, m.wait + 1⟩ := by
  have h : ws.headD (Str.ofString "") = (Str.ofString "@") := h
  unfold stepM
  rw [hm, List.getLast?_concat, List.dropLast_concat]
  simp only [h, if_true]
theorem stepM_out {m : M} {rs : List (List Str)} {ws : List Str} {w0 : Str} (hm : m.row = rs ++ [ws]) (h : Hole (ws.headD (Str.ofString "") = w0)) (h1 : w0 ≠ (Str.ofString "@")) (h2 : ¬ (0 < needOf (symOf w0) ∧ needOf (symOf w0) ≤ m.wait)) : stepM m = ⟨rs, m.out ++ (List.replicate m.wait (Str.ofString "@") ++ [w0]), 0⟩ := by
  have h : ws.headD (Str.ofString "") = w0 := h
  unfold stepM
  rw [hm, List.getLast?_concat, List.dropLast_concat]
  simp only [h]
  rw [if_neg h1, if_neg h2]
theorem take_one {ws : List Str} {w0 : Str} (h : ws[Int.toNat 0]? = some w0) : ws.take (Int.toNat 1) = [w0] := by
  cases ws with
  | nil => cases h
  | cons a r => cases h; rfl
theorem pick_last (l : List Value) : kms_pick l (some (-1)) none = l.drop (l.length - 1) := by
  simp only [kms_pick, kms_lo, kms_hi]
  rw [if_pos (by decide)]
  have e : (-(-1) : Int).toNat = 1 := by decide
  rw [e, List.take_of_length_le]
  rw [List.length_drop]
  omega
theorem last_strs {vs : List Value} {ws : List Str} {y : Str} (h : StrsAre vs ws) (e : ws.getLast? = some y) : StrsAre (vs.drop (vs.length - 1)) [y] := by
  obtain ⟨r, rfl⟩ := List.getLast?_eq_some_iff.mp e
  have h1 := h.drop' (vs.length - 1)
  have h2 := h.length
  rw [List.length_append] at h2
  have e2 : vs.length - 1 = r.length := by simp at h2; omega
  rw [e2] at h1 ⊢
  rwa [List.drop_left] at h1
theorem len_strs {prog : Program} {w : World} {A : Around} {E : Value → Shared → Prop} {s : Shared} {h₀ : Heap} {L l : Addr} {news : Led} {n : Nat} {Q : Value → Shared → Prop} {vs : List Value} {ws : List Str}
    (N : News h₀ L s.heap news) (hm : (l, lst vs n) ∈ news) (hw : StrsAre vs ws) (hz : ws.length ≤ 1000000) (h : Q (.int (ws.length : Nat) (s.toks + 1)) { s with toks := s.toks + 1 + 1 }) : wpAny (model prog w) A (call (.builtin "len") [.ref l]) Q E s := by
  have e : vs.toArray.size = ws.length := by rw [List.size_toArray, hw.length]
  exact len_list (inList N hm) (by rw [e]; omega) (by rw [e]; exact h)
local macro_rules | `(tactic| walk_at "call builtin:len") => `(tactic| (k_here; k_dflt ((with_reducible show wpAny _ _ (call (Value.builtin "len") [Value.ref _]) _ _ _); refine' len_strs (by k_asm) (by walk_at "mem") (by walk_at "sa") (by walk_at "len") ?_; k_whole)))
set_option hygiene true
local macro_rules | `(tactic| walk_at "subscriptTail Name Slice ref ref") => `(tactic| (k_here; k_dflt ((with_reducible show wpAny _ _ (subscriptTail _ (PySem.Expr.Slice (some (PySem.Expr.UnaryOp _ _ _)) none none _) (Value.ref _) (Value.ref _)) _ _ _); k_dflt (refine' slice_strs (by k_asm) (by k_asm) (by walk_at "mem") (by walk_at "sa") (by kmk_part) (by kmk_part) (by exact pick_last _) (by (refine' last_strs ?h ?e; (case h => assumption); (case e => assumption))) ?_ (by with_unfolding_all rfl) (by kmk_pure) (by walk_at "len")); intros; (try k_sweep))))
theorem piece_len {ws : List Str} {x : Str} (h : PieceOk ws) (e : x = jn ws) : x.length ≤ 40000 := by
  obtain ⟨h1, h2, h3⟩ := h
  have h4 := jn_len (ws := ws) (B := 100) fun x hx => (h3 x hx).1
  have h5 := Nat.mul_le_mul_right 101 h2
  rw [e]; omega
theorem texts_two {l r : List Part} {a b : List (List Str)} (h : texts (l ++ r) = (a ++ b).map jn) (e : r.length = b.length) : texts l = a.map jn ∧ texts r = b.map jn := by
  rw [texts_app, List.map_append] at h
  exact List.append_inj' h (by simp [texts, e])
theorem texts_len (l : List Part) : (texts l).length = l.length := List.length_map _
theorem pieces {r g : List Part} {rsm : List (List Str)} {n : Nat} (h : texts (r ++ g) = rsm.map jn) (e : g.length = n) : ∃ rm gm, rsm = rm ++ gm ∧ texts r = rm.map jn ∧ texts g = gm.map jn ∧ gm.length = n := by
  have hl := congrArg List.length h
  rw [texts_len, List.length_append, List.length_map] at hl
  obtain ⟨h1, h2⟩ := texts_two (l := r) (r := g) (a := rsm.take r.length) (b := rsm.drop r.length) (by rw [List.take_append_drop]; exact h) (by rw [List.length_drop]; omega)
  exact ⟨_, _, (List.take_append_drop ..).symm, h1, h2, by rw [List.length_drop]; omega⟩
theorem len3 {α : Type} : ∀ {l : List α}, l.length = 3 → ∃ a b c, l = [a, b, c]
  | [a, b, c], _ => ⟨a, b, c, rfl⟩
theorem threes {g : List Part} {gm : List (List Str)} (h : texts g = gm.map jn) (e : gm.length = 3) : ∃ a b c wa wb wc, g = [a, b, c] ∧ gm = [wa, wb, wc] ∧ a.x = jn wa ∧ b.x = jn wb ∧ c.x = jn wc := by
  obtain ⟨wa, wb, wc, rfl⟩ := len3 e
  have hl := congrArg List.length h
  rw [texts_len] at hl
  obtain ⟨a, b, c, rfl⟩ := len3 (hl.trans rfl)
  simp only [texts, List.map_cons, List.map_nil, List.cons.injEq, and_true] at h
  exact ⟨a, b, c, wa, wb, wc, rfl, rfl, h.1, h.2.1, h.2.2⟩
theorem lay_len {w0 : Str} {gm : List (List Str)} (h : 0 < gm.length) : 0 < (layOf w0 gm).length ∧ (layOf w0 gm).length ≤ 3 := by
  unfold layOf
  split
  · exact ⟨Nat.succ_pos _, Nat.le_refl 3⟩
  · split
    · exact ⟨Nat.succ_pos _, Nat.le_succ 2⟩
    · split
      · exact ⟨Nat.succ_pos _, Nat.le_refl 3⟩
      · rw [List.length_drop]; omega
theorem stepM_eat {m : M} {rs rm got : List (List Str)} {ws : List Str} {w0 : Str} {n : Nat} (hm : m.row = rs ++ [ws]) (h : Hole (ws.headD (Str.ofString "") = w0)) (h1 : w0 ≠ (Str.ofString "@")) (hn : needOf (symOf w0) = n) (h0 : 0 < n) (hw : n ≤ m.wait) (hrs : rs = rm ++ got) (hl : got.length = n) :
    stepM m = ⟨rm ++ layOf w0 got, m.out, m.wait - n + ((layOf w0 got).length - 1)⟩ := by
  have h : ws.headD (Str.ofString "") = w0 := h
  have e : rs.length - n = rm.length := by rw [hrs, List.length_append, hl]; omega
  unfold stepM
  rw [hm, List.getLast?_concat, List.dropLast_concat]
  simp only [h, hn]
  rw [if_neg h1, if_pos ⟨h0, hw⟩]
  simp only [e]
  rw [hrs, List.take_left, List.drop_left]
theorem at_sp : ((Str.ofString "@ ") : Str) = (Str.ofString "@") ++ (Str.ofString " ") := by decide +kernel
theorem jn_at {wa wb : List Str} {x y : Str} (ka : wa ≠ []) (kb : wb ≠ []) (ha : x = jn wa) (hb : y = jn wb) : jn ([(Str.ofString "@")] ++ wb ++ wa) = (Str.ofString "@ ") ++ y ++ (Str.ofString " ") ++ x := by
  rw [List.append_assoc, jn_append (a := [(Str.ofString "@")]) (b := wb ++ wa) (by simp [kb]) (by simp), jn_append ka kb, jn_one, at_sp, ha, hb]
  simp only [PySem.Str.append_assoc]
theorem need_cases {s : Int} (h : 0 < needOf s) : needOf s = 1 ∨ needOf s = 2 ∨ needOf s = 3 := by
  unfold needOf at h ⊢
  split
  · exact .inr (.inl rfl)
  · rename_i h1
    rw [if_neg h1] at h
    split
    · exact .inl rfl
    · rename_i h2
      rw [if_neg h2] at h
      split
      · exact .inr (.inr rfl)
      · rename_i h3
        rw [if_neg h3] at h
        exact absurd h (by decide)
theorem _root_.PyProof.Rows.StrsAre.as {vs : List Value} {ws ys : List Str} (h : StrsAre vs ws) (e : ws = ys) : StrsAre vs ys := e ▸ h
theorem item_need {prog : Program} {w : World} {A : Around} {E : Value → Shared → Prop} {s : Shared} {h₀ : Heap} {L l : Addr} {news : Led} {n : Nat} {Q : Value → Shared → Prop} {value slice : PySem.Expr} {k : Int} {u t0 t1 t2 t3 t4 : Tok}
    (N : News h₀ L s.heap news) (hm : (l, lst [.int 2 t0, .int 1 t1, .int 3 t2, .int 3 t3, .int 3 t4] n) ∈ news) (h1 : 256 ≤ k) (h2 : k ≤ 260) (h : ∀ t, Q (.int (needOf k : Nat) t) s)
    (hs : subscripted slice false (.ref l) (.int (k - 256) u) = operate [.ref l, .int (k - 256) u] (getItem (.ref l) (.int (k - 256) u))) :
    wpAny (model prog w) A (subscriptTail value slice (.ref l) (.int (k - 256) u)) Q E s := by
  have key : ∃ t, ([.int 2 t0, .int 1 t1, .int 3 t2, .int 3 t3, .int 3 t4] : List Value)[(k - 256).toNat]? = some (.int (needOf k : Nat) t) := by
    obtain ⟨j, rfl⟩ := Int.le.dest h1
    have hj : j < 5 := by omega
    clear h hs hm N h1 h2
    rcases j with _ | _ | _ | _ | _ | j
    iterate 5 exact ⟨_, rfl⟩
    exact absurd hj (Nat.not_lt.mpr (Nat.le_add_left 5 j))
  obtain ⟨t, ht⟩ := key
  exact tail_any (inList N hm).typeIs slot_list_getitem.lookup (wpAny_getItem_list (inList N hm) (by omega) (by omega) (by simpa using ht) (h t)) hs
set_option hygiene false
local macro_rules | `(tactic| walk_at "subscriptTail") => `(tactic| (k_here; k_dflt ((with_reducible show wpAny _ _ (subscriptTail _ _ (Value.ref _) (Value.int (_ - 256) _)) _ _ _); refine' item_need (by k_asm) (by walk_at "mem") (by first | omega | simp_all) (by first | omega | simp_all) ?_ (by with_unfolding_all rfl)); intro _))
local macro_rules | `(tactic| walk_at "call type:str") => `(tactic| (k_here; (with_reducible show wpAny _ _ (call (Value.type "str") [Value.ref (Fix.xo _)]) _ _ _); refine hole ?_))
theorem itM_stop {m : M} {i : Nat} (h : (itM m i).row = []) : ∀ j, itM m (i + j) = itM m i
  | 0 => rfl
  | j + 1 => by
    show stepM (itM m (i + j)) = _
    rw [itM_stop h j]
    unfold stepM
    rw [h]; rfl
noncomputable def spaced (xs : List Str) : Str := Txt.join (Str.ofString "") (xs.map fun x => Txt.join (Str.ofString "") [(Str.ofString " "), x])
theorem pile_spaced (ps : List Part) : pileText ps = spaced (texts ps) := by rw [pileText, spaced, texts, List.map_map]; rfl
noncomputable def RunL (w : World) (tx : Str) (news : Led) (r : Value) (news' : Led) : Prop := ∃ Tp x dx n t1 t2 t pt, r = .ref Tp ∧ news' = (Tp, tupOf [.ref x, .str tx t]) :: (x, accObj 115 dx [] n) :: (dx, accD w t1 t2) :: (84, tabObj pt) :: news
theorem RunL.hand {w : World} {tx tx' : Str} {h₀ : Heap} {L Tp x dx : Addr} {n : Nat} {t1 t2 t : Tok} {pt : Array Value} {m : Str → Option Value} {s s' : Shared} {Q : Value → Shared → Prop} {news all : Led}
    (hret : ∀ r news' s', RunL w tx news r news' → Fr h₀ L s'.heap m → News h₀ L s'.heap news' → AllBare s'.gens → s'.os = s.os → Q r s')
    (F : Fr h₀ L s'.heap m) (N : News h₀ L s'.heap all) (hg : AllBare s'.gens) (ho : s'.os = s.os) (e : tx' = tx) (h1 : (Tp, tupOf [.ref x, .str tx' t]) ∈ all) (h2 : (x, accObj 115 dx [] n) ∈ all) (h3 : (dx, accD w t1 t2) ∈ all) (h4 : (84, tabObj pt) ∈ all) (hs : ∀ p ∈ news, p ∈ all) : Q (.ref Tp) s' :=
  hret _ _ s' ⟨Tp, x, dx, n, t1, t2, t, pt, rfl, rfl⟩ F (fun p hp => N p (by
    rcases List.mem_cons.mp hp with rfl | hp
    · exact e ▸ h1
    · rcases List.mem_cons.mp hp with rfl | hp
      · exact h2
      · rcases List.mem_cons.mp hp with rfl | hp
        · exact h3
        · rcases List.mem_cons.mp hp with rfl | hp
          · exact h4
          · exact hs p hp)) hg ho
theorem apart84 {h₀ h : Heap} {L : Addr} {all news : Led} (N : News h₀ L h all) (hT : (84, tabObj #[]) ∈ all) (hn : ∀ q ∈ news, q ∈ all) (hc : ∀ q ∈ news, q.2.cls ≠ Value.none) : ∀ q ∈ news, q.1 ≠ 84 := by
  intro q hq e
  have := same_at N hT (hn q hq) e
  exact hc q hq (by rw [this])
theorem led_cls {w : World} {f : Fix} {c : RS} : ∀ q ∈ led w f c, q.2.cls ≠ Value.none := by
  intro q hq
  rcases List.mem_cons.mp hq with rfl | hq
  · exact fun h => nomatch h
  · rcases List.mem_cons.mp hq with rfl | hq
    · exact fun h => nomatch h
    · rcases List.mem_cons.mp hq with rfl | hq
      · exact fun h => nomatch h
      · rcases List.mem_cons.mp hq with rfl | hq
        · exact fun h => nomatch h
        · rcases List.mem_append.mp hq with hq | hq
          · obtain ⟨p, _, rfl⟩ := List.mem_map.mp hq
            exact fun h => nomatch h
          · obtain ⟨p, _, rfl⟩ := List.mem_map.mp hq
            exact fun h => nomatch h
theorem wait_cast {k nd l : Nat} (h1 : nd ≤ k) (h2 : 0 < l) : (k : Int) - (nd : Int) + (l : Int) - 1 = ((k - nd + (l - 1) : Nat) : Int) := by
  rw [← Int.ofNat_sub h1, Int.add_sub_assoc, ← Int.ofNat_one, ← Int.ofNat_sub h2]; rfl
set_option maxRecDepth 100000 in
set_option maxHeartbeats 20000000 in
theorem run_does {prog : Program} {w : World} {base : Heap} {news : Led} {l : Addr} {vs : List Value} {ws : List Str} {n : Nat} (O : Out prog) (C0 : CodeHd base 88 84) (hP : ∀ q ∈ news, q.1 ≠ 84) (hl : (l, lst vs n) ∈ news) (hw : StrsAre vs ws) (hj : Short ws) (hok : ∀ i, i ≤ 400 → OkM (itM ⟨[ws], [], 0⟩ i))
    (hrow : (itM ⟨[ws], [], 0⟩ 400).row = []) (hlo : ∀ x ∈ (itM ⟨[ws], [], 0⟩ 400).out, x.length ≤ 100) :
    DoesG prog w base 190 [.ref l] 200 ((84, tabObj #[]) :: news) (RunL w (spaced (itM ⟨[ws], [], 0⟩ 400).out) news) := by
  intro p loose mean mg mb dp un gd cn cs a₀ ccd cl outer A₀ h₀ L m s Q E B F X N T hk hd hu hgens hret
  have hl : (l, lst vs n) ∈ (84, tabObj #[]) :: news := .tail _ hl
  have hnewsub : ∀ p ∈ news, p ∈ (84, tabObj #[]) :: news := fun p hp => .tail _ hp
  obtain ⟨newsA, hnA⟩ : ∃ newsA, newsA = (84, tabObj #[]) :: news := ⟨_, rfl⟩
  rw [← hnA] at N hl hnewsub
  have h84 : (84, tabObj #[]) ∈ newsA := by rw [hnA]; exact .head _
  clear hnA
  refine wpAny_call ?_
  k_dflt (refine' code_def (binds := [((Str.ofString "start"), .ref l)]) ?k1 ?k2 ?k3 ?k4 ?k5 ?kA ?kF ?kK ?k6 ?k7 ?k8 ?k9 ?kB ?_ ?c2 ?c3 ?c4 ?c5; (case kA => exact rfl); (case kF => exact rfl); (case kK => assumption); (case k1 => k_asm); (case k2 => k_asm); (case k3 => k_asm); (case k4 => k_asm); (case k5 => k_asm); (case k6 => k_is); (case k7 => k_is); (case k8 => first | exact Nat.lt_of_le_of_lt (Nat.le_add_right _ _) (by assumption) | ktr_room); (case k9 => first | exact BindsTo.of_eq rfl | exact binds_K (by k_in) rfl (by k_is) rfl rfl rfl); (case c5 => decide); (case kB => exact locs rfl); (case c2 => exact rfl); (case c3 => exact rfl); (case c4 => exact rfl); k_whole; intro g' L' h' FG' F' N' B' X' T'; (try dsimp only); (try k_fold))
  k_steps
  unfold Hole
  rename News _ _ _ _ => lN'
  refine nmRun lN' ?_
  intro T0 xo dO xr dr e1 e2 e3 e4 e5
  subst e1 e2 e3 e4 e5
  refine nmRun2 lN' ?_
  intro a0 b0 t1 t2 t3 t4 e1 e2 e3 e4 e5 e6
  subst e1 e2 e3 e4 e5 e6
  have hne : xr ≠ xo := by
    intro e
    rename (xr < dO ∧ _) => h1
    rename (dO < xo) => h2
    exact absurd (Nat.lt_trans h1.1 h2) (by rw [e]; exact Nat.lt_irrefl _)
  have hnaR : ∀ p ∈ newsA, p.1 ≠ xr := by (refine' ne_of_ord ?h9 ?e9; (case h9 => assumption); (case e9 => omega))
  have hnaO : ∀ p ∈ newsA, p.1 ≠ xo := by (refine' ne_of_ord ?h9 ?e9; (case h9 => assumption); (case e9 => omega))
  obtain ⟨f, e1, e2, e3, e4, e5, e6, e7, e8⟩ : ∃ f : Fix, xr = f.xr ∧ dr = f.dr ∧ xo = f.xo ∧ dO = f.dO ∧ t3 = f.t1 ∧ t4 = f.t2 ∧ t1 = f.t3 ∧ t2 = f.t4 := ⟨⟨xr, dr, xo, dO, t3, t4, t1, t2, hne⟩, rfl, rfl, rfl, rfl, rfl, rfl, rfl, rfl⟩
  subst e1 e2 e3 e4 e5 e6 e7 e8
  rename Fr _ _ _ _ => lF'
  rename IsRange _ _ _ _ _ _ _ _ => rg
  refine' for_rangeP (ps := psQ f) (led := fun q => led w f q.c ++ newsA) (I := fun i q => IsM q (itM ⟨[ws], [], 0⟩ i)) (D := fun q => IsM q (itM ⟨[ws], [], 0⟩ 400)) ⟨⟨[⟨T0, jn ws, a0, b0⟩], [], 1, 0⟩, 0, ?qtk⟩ (n := 400) rfl rg ?qsm ?qsz lF' lN' ?qn ?qps ?qI ?qturn ?qfin ?qdone
  case qsm => decide
  case qsz => rfl
  case qn =>
    dsimp only at lN'
    refine all_app ?_ (by walk_at "sub")
    simp only [led, refs, tups, List.map_cons, List.map_nil, List.cons_append, List.nil_append, List.forall_mem_cons]
    exact ⟨by walk_at "mem", by walk_at "mem", by walk_at "mem", by walk_at "mem", by walk_at "mem", fun _ h => nomatch h⟩
  case qps => exact (List.forall_mem_cons.mpr ⟨by first | with_unfolding_all exact rfl | (dsimp only; with_unfolding_all exact rfl), (List.forall_mem_cons.mpr ⟨by first | with_unfolding_all exact rfl | (dsimp only; with_unfolding_all exact rfl), (List.forall_mem_cons.mpr ⟨by first | with_unfolding_all exact rfl | (dsimp only; with_unfolding_all exact rfl), (fun _ h => nomatch h)⟩)⟩)⟩)
  case qI => exact ⟨rfl, rfl, rfl⟩
  case qfin => exact fun _ h => h
  case qdone =>
    clear lF' lN' rg
    repeat (rename News _ _ _ _ => nX; clear nX)
    repeat (rename (_ ∧ _) => nX; clear nX)
    intro q u h tk hI F' N'
    obtain ⟨⟨row, out, nr, no⟩, k, tkk⟩ := q
    obtain ⟨hI1, hI2, hI3⟩ := hI
    dsimp only at hI1 hI2 hI3 F' N'
    have hre : row = [] := by
      have := congrArg List.length hI1
      rw [hrow] at this
      simpa [texts] using this
    subst hre
    have hO := (hok 400 (Nat.le_refl _)).2.2.1
    have hout9 : out.length ≤ 10000 := by
      have := congrArg List.length hI2
      simp only [texts, List.length_map] at this
      omega
    have hlen9 : ∀ q ∈ out, q.x.length ≤ 1000 := fun q hq => Nat.le_trans (hlo q.x (by rw [← hI2]; exact List.mem_map.mpr ⟨q, hq, rfl⟩)) (by decide)
    k_steps
    unfold Hole
    rename Fr _ _ _ _ => lF'
    rename News _ _ _ _ => lN'
    have hP9 : ∀ q ∈ led w f ⟨[], out, nr, no⟩ ++ news, q.1 ≠ 84 := all_app (apart84 lN' (by walk_at "mem") (by walk_at "sub") led_cls) hP
    have N84 : News g' L' h ((84, tabObj #[]) :: (led w f ⟨[], out, nr, no⟩ ++ news)) := fun p hp => by
      rcases List.mem_cons.mp hp with rfl | hp
      · exact lN' _ (by walk_at "mem")
      · rcases List.mem_append.mp hp with hp | hp
        · exact lN' p (List.mem_append_left _ hp)
        · exact lN' p (List.mem_append_right _ (hnewsub p hp))
    refine' strof_does (ps := out) C0 (List.mem_append_left _ led_out) (List.mem_append_left _ led_outd) (fun q hq => List.mem_append_left _ (led_tup (List.mem_append_right _ hq))) hP9 hlen9 hout9 ?k1 ?k2 ?k3 ?k4 ?k5 ?kK ?kd ?ku ?kg ?_
    case k1 => k_asm
    case k2 => k_asm
    case k3 => k_asm
    case k4 => k_asm
    case k5 => k_asm
    case kK => first | exact rfl | assumption
    case kd => walk_at "rm"
    case ku => walk_at "ru"
    case kg => exact hgens
    intro t9 s9 pt9 F9 N9 G9 os9
    k_steps
    rename Fr h₀ _ _ _ => lF'
    rename News h₀ _ _ _ => lN'
    refine' RunL.hand hret ?qF ?qN ?qg ?qo ?qe ?q1 ?q2 ?q3 ?q4 ?qs
    case qF => exact lF'
    case qN => exact lN'
    case qg => exact G9
    case qo => exact os9
    case q1 => walk_at "mem"
    case q2 => walk_at "mem"
    case q3 => walk_at "mem"
    case q4 => walk_at "mem"
    case qe => rw [pile_spaced, hI2]
    case qs => walk_at "sub"
  case qturn =>
    clear lF' lN' rg
    repeat (rename News _ _ _ _ => nX; clear nX)
    repeat (rename (_ ∧ _) => nX; clear nX)
    repeat (rename (∀ p ∈ newsA, p.1 < _) => nX; clear nX)
    intro i t q u h tk own hi hoff hI F' N'
    obtain ⟨⟨row, out, nr, no⟩, k, tkk⟩ := q
    obtain ⟨hI1, hI2, hI3⟩ := hI
    dsimp only at hI1 hI2 hI3 F' N' hoff
    rw [List.append_assoc] at N'
    have hown := own_na hoff
    have hoff1 := own_adr hoff
    have hoff2 := own_rest hoff
    have hnaf : AllNA f newsA := fun q hq _ => ⟨hnaR q hq, hnaO q hq⟩
    clear hnaR hnaO
    have hO := hok i (by omega)
    have hOn : (stepM (itM ⟨[ws], [], 0⟩ i)).row.length ≤ 300 := (hok (i + 1) (by omega)).2.1
    obtain ⟨hO1, hO2, hO3, hO4, hO5⟩ := hO
    generalize hm9 : itM ⟨[ws], [], 0⟩ i = m9 at *
    refine wpQ fun Q7 hQ7 => ?_
    rcases List.eq_nil_or_concat row with hr | ⟨rs, q, hr⟩
    · subst hr
      have hm : m9.row = [] := by
        cases hm : m9.row with
        | nil => rfl
        | cons a b => rw [hm] at hI1; cases hI1
      k_steps
      subst hQ7
      rename Fr _ _ _ _ => lF'
      rename News _ _ _ _ => lN'
      refine' CutP.intro (⟨⟨[], out, nr, no⟩, k, tkk⟩ : RQ) lF' lN' ?qn (List.forall_mem_cons.mpr ⟨by first | with_unfolding_all exact rfl | (dsimp only; with_unfolding_all exact rfl), (List.forall_mem_cons.mpr ⟨by first | with_unfolding_all exact rfl | (dsimp only; with_unfolding_all exact rfl), (List.forall_mem_cons.mpr ⟨by first | with_unfolding_all exact rfl | (dsimp only; with_unfolding_all exact rfl), (fun _ h => nomatch h)⟩)⟩)⟩) ?qI
      case qn => exact all_app (by walk_at "sub") (by walk_at "sub")
      case qI =>
        have e4 := itM_stop (m := ⟨[ws], [], 0⟩) (i := i) (by rw [hm9]; exact hm) (400 - i)
        rw [show i + (400 - i) = 400 by omega, hm9] at e4
        rw [e4]
        exact ⟨by rw [hm]; rfl, hI2, hI3⟩
    · rw [List.concat_eq_append] at hr
      subst hr
      obtain ⟨rsm, wsm, hm⟩ : ∃ rsm wsm, m9.row = rsm ++ [wsm] := by
        rcases List.eq_nil_or_concat m9.row with hm | ⟨a, b, hm⟩
        · rw [hm, texts_app] at hI1
          exact absurd hI1 (by simp [texts])
        · exact ⟨a, b, by rw [hm, List.concat_eq_append]⟩
      have hrs : texts rs = rsm.map jn ∧ q.x = jn wsm := by
        rw [hm, texts_app, List.map_append] at hI1
        have := List.append_inj' hI1 rfl
        exact ⟨this.1, by simpa [texts] using this.2⟩
      have hz9 : rs.length ≤ 10000 := by
        have h1 := congrArg List.length hrs.1
        rw [hm] at hO2
        simp only [texts, List.length_map, List.length_append, List.length_cons, List.length_nil] at h1 hO2
        omega
      obtain ⟨hp1, hp2, hp3⟩ := hO1 wsm (by rw [hm]; simp)
      have hsplit : Txt.split q.x (Str.ofString " ") = wsm := by rw [hrs.2]; exact split_jn hp1 fun x hx => (hp3 x hx).2
      have hqlen : q.x.length ≤ 1000000 := by
        have h1 := jn_len (ws := wsm) (B := 100) fun x hx => (hp3 x hx).1
        have h2 := Nat.mul_le_mul_right 101 hp2
        rw [hrs.2]; omega
      have hsh : Short wsm := ⟨by omega, fun x hx => (hp3 x hx).1⟩
      have hw0 : wsm[Int.toNat 0]? = some (wsm.headD (Str.ofString "")) := by
        cases wsm with
        | nil => exact absurd rfl hp1
        | cons a b => rfl
      have hne0 : 0 < (rs ++ [q]).length := by simp
      k_steps
      · exfalso; first | omega | (dsimp only at *; omega)
      unfold Hole
      rename News _ _ _ _ => lN'
      refine nmW lN' ?_
      intro Dw us eD eu
      subst eD eu
      have hsy : symOf (wsm.headD (Str.ofString "")) ≤ 260 := by
        rw [hm, List.getLast?_concat] at hO5
        exact hO5.1
      rename (∀ rest' : Led, Grow w f _ _ rest') => hgr
      have hoffp := Grow.off (hgr own) (fun _ h => h) hoff1
      clear hgr
      obtain ⟨w0, hw0e⟩ : ∃ w0, w0 = wsm.headD (Str.ofString "") := ⟨_, rfl⟩
      rw [← hw0e] at hsy hw0
      refine cut_execs (h₀ := g') (L := L') (fun τ : Tok => [((Str.ofString "row"), .ref f.xr), ((Str.ofString "out"), .ref f.xo), ((Str.ofString "wait"), .int (k : Int) tkk), ((Str.ofString "words"), .ref Dw), ((Str.ofString "need"), .int (needOf (symOf w0) : Nat) τ)]) (fun _ => (Dw, lst us 0) :: (led w f ⟨rs, out, nr + 1, no⟩ ++ (newsA ++ own))) (fun _ => True) ?_ ?_
      · subst hw0e
        refine wpQ fun Q9 hQ9 => ?_
        k_steps
        · subst hQ9
          refine ⟨rfl, ?_⟩
          rename Fr _ _ _ _ => lF'
          rename News _ _ _ _ => lN'
          refine' CutP.intro _ lF' lN' ?_ (List.forall_mem_cons.mpr ⟨by first | with_unfolding_all exact rfl | (dsimp only; with_unfolding_all exact rfl), (List.forall_mem_cons.mpr ⟨by first | with_unfolding_all exact rfl | (dsimp only; with_unfolding_all exact rfl), (List.forall_mem_cons.mpr ⟨by first | with_unfolding_all exact rfl | (dsimp only; with_unfolding_all exact rfl), (List.forall_mem_cons.mpr ⟨by first | with_unfolding_all exact rfl | (dsimp only; with_unfolding_all exact rfl), (List.forall_mem_cons.mpr ⟨by first | with_unfolding_all exact rfl | (dsimp only; with_unfolding_all exact rfl), (fun _ h => nomatch h)⟩)⟩)⟩)⟩)⟩) trivial
          exact List.forall_mem_cons.mpr ⟨by walk_at "mem", by walk_at "sub"⟩
        · subst hQ9
          refine ⟨rfl, ?_⟩
          rename Fr _ _ _ _ => lF'
          rename News _ _ _ _ => lN'
          rw [need_0 (s := symOf (wsm.headD (Str.ofString ""))) (by omega)]
          refine' CutP.intro _ lF' lN' ?_ (List.forall_mem_cons.mpr ⟨by first | with_unfolding_all exact rfl | (dsimp only; with_unfolding_all exact rfl), (List.forall_mem_cons.mpr ⟨by first | with_unfolding_all exact rfl | (dsimp only; with_unfolding_all exact rfl), (List.forall_mem_cons.mpr ⟨by first | with_unfolding_all exact rfl | (dsimp only; with_unfolding_all exact rfl), (List.forall_mem_cons.mpr ⟨by first | with_unfolding_all exact rfl | (dsimp only; with_unfolding_all exact rfl), (List.forall_mem_cons.mpr ⟨by first | with_unfolding_all exact rfl | (dsimp only; with_unfolding_all exact rfl), (fun _ h => nomatch h)⟩)⟩)⟩)⟩)⟩) trivial
          exact List.forall_mem_cons.mpr ⟨by walk_at "mem", by walk_at "sub"⟩
      intro τ u2 h2 tk2 _ F2 N2
      have hHd : Hole (wsm.headD (Str.ofString "") = w0) := hw0e.symm
      clear hw0e
      refine cut_execs (h₀ := g') (L := L') (psL f) (ledL w f (newsA ++ own)) (IsL own w f m9) ?_ ?_
      · refine wpQ fun Q9 hQ9 => ?_
        by_cases hat : w0 = (Str.ofString "@")
        · subst hat
          k_steps
          unfold Hole
          refine wpAny_execs_cons ?_
          k_steps
          subst hQ9
          refine ⟨rfl, ?_⟩
          rename Fr _ _ _ _ => lF'
          rename News _ _ _ _ => lN'
          refine' CutP.intro (⟨⟨rs, out, nr + 1, no⟩, k + 1, _, _, [.str (jn (wsm.drop (cutOf wsm))) _, .str (jn ((wsm.take (cutOf wsm)).drop (Int.toNat 1))) _], 0, [wsm.drop (cutOf wsm), (wsm.take (cutOf wsm)).drop (Int.toNat 1)]⟩ : RL) lF' lN' ?qn (List.forall_mem_cons.mpr ⟨by first | with_unfolding_all exact rfl | (dsimp only; with_unfolding_all exact rfl), (List.forall_mem_cons.mpr ⟨by first | with_unfolding_all exact rfl | (dsimp only; with_unfolding_all exact rfl), (List.forall_mem_cons.mpr ⟨by first | with_unfolding_all exact rfl | (dsimp only; with_unfolding_all exact rfl), (List.forall_mem_cons.mpr ⟨by first | with_unfolding_all exact rfl | (dsimp only; with_unfolding_all exact rfl), (fun _ h => nomatch h)⟩)⟩)⟩)⟩) ⟨.cons _ _ (.cons _ _ .nil), ?q1, ?q2, ?q3, hoffp⟩
          case qn => exact List.forall_mem_cons.mpr ⟨by walk_at "mem", by walk_at "sub"⟩
          case q1 => rw [stepM_at hm hHd, hrs.1, List.map_append]
          case q2 => rw [stepM_at hm hHd]; exact hI2
          case q3 => rw [stepM_at hm hHd, hI3]
        · have hbe : (w0 == (Str.ofString "@")) = false := by simpa using hat
          clear F' lN'
          k_steps
          unfold Hole
          refine wpAny_mono (Q := fun b s' => b = decide (0 < needOf (symOf w0) ∧ needOf (symOf w0) ≤ k) ∧ ∃ tk', s' = { s with heap := h2, toks := tk' }) ?qt (fun b s' hb => ?_) fun _ _ x => x
          case qt =>
            refine isTrue_chain ?_
            k_steps
            all_goals first | exact ⟨_, rfl⟩ | exact decide_eq_decide.mpr (by omega) | exact (decide_eq_false (by omega)).symm
          obtain ⟨rfl, tk', rfl⟩ := hb
          by_cases hn : 0 < needOf (symOf w0) ∧ needOf (symOf w0) ≤ k
          · rw [if_pos (decide_eq_true hn)]
            have hnr : needOf (symOf w0) ≤ rs.length := by
              rw [hm, List.getLast?_concat, List.dropLast_concat] at hO5
              have h1 := congrArg List.length hrs.1
              simp only [texts, List.length_map] at h1
              have hHd' : wsm.headD (Str.ofString "") = w0 := hHd
              rw [h1]
              have h2 := hO5.2
              rw [hHd'] at h2
              exact h2 hat (by rw [← hI3]; exact hn.2)
            obtain ⟨nd, hnd⟩ : ∃ nd, nd = needOf (symOf w0) := ⟨_, rfl⟩
            rw [← hnd] at hn hnr F2
            have hn3 : nd ≤ 3 := by rcases need_cases (by rw [← hnd]; exact hn.1) with e | e | e <;> rw [hnd, e] <;> decide
            obtain ⟨r, g, hr, hgl⟩ : ∃ r g, rs = r ++ g ∧ g.length = nd := ⟨rs.take (rs.length - nd), rs.drop (rs.length - nd), (List.take_append_drop ..).symm, by rw [List.length_drop]; first | exact Nat.sub_sub_self (by assumption) | omega⟩
            subst hr
            obtain ⟨rm, gm, hrm, hr1, hg1, hgm⟩ := pieces hrs.1 hgl
            have hzr : r.length ≤ 10000 := by rw [List.length_append] at hz9; omega
            have hzg : g.length ≤ 1000 := by omega
            have hg0 : 0 < g.length := by omega
            have htl : (texts g).length ≤ 1000 := by rw [texts_len]; exact hzg
            have hstep := stepM_eat hm hHd hat hnd.symm hn.1 (by rw [← hI3]; exact hn.2) hrm hgm
            k_steps
            unfold Hole
            refine cut_execs (h₀ := g') (L := L') (fun c : Addr × List Value => [((Str.ofString "row"), .ref f.xr), ((Str.ofString "out"), .ref f.xo), ((Str.ofString "wait"), .int (k : Int) tkk), ((Str.ofString "words"), .ref Dw), ((Str.ofString "need"), .int (nd : Int) τ), ((Str.ofString "got"), .ref c.1)]) (fun c => (c.1, lst c.2 c.2.length) :: (Dw, lst us 0) :: (led w f ⟨r, out, nr + 1 + 1, no⟩ ++ (newsA ++ own))) (fun c => StrsAre c.2 (texts g) ∧ OwnOff own (adr w f ⟨r, out, nr + 1 + 1, no⟩)) ?_ ?_
            · refine wpQ fun Q8 hQ8 => ?_
              k_steps
              subst hQ8
              refine ⟨rfl, ?_⟩
              rename (∀ rest' : Led, Grow w f _ _ rest') => hgr
              have hoff9 := Grow.off (hgr own) (fun _ h => h) hoffp
              rename Fr _ _ _ _ => lF'
              rename News _ _ _ _ => lN'
              rename StrsAre _ (texts g) => hgv
              refine' CutP.intro (_, _) lF' lN' ?qn (List.forall_mem_cons.mpr ⟨by first | with_unfolding_all exact rfl | (dsimp only; with_unfolding_all exact rfl), (List.forall_mem_cons.mpr ⟨by first | with_unfolding_all exact rfl | (dsimp only; with_unfolding_all exact rfl), (List.forall_mem_cons.mpr ⟨by first | with_unfolding_all exact rfl | (dsimp only; with_unfolding_all exact rfl), (List.forall_mem_cons.mpr ⟨by first | with_unfolding_all exact rfl | (dsimp only; with_unfolding_all exact rfl), (List.forall_mem_cons.mpr ⟨by first | with_unfolding_all exact rfl | (dsimp only; with_unfolding_all exact rfl), (List.forall_mem_cons.mpr ⟨by first | with_unfolding_all exact rfl | (dsimp only; with_unfolding_all exact rfl), (fun _ h => nomatch h)⟩)⟩)⟩)⟩)⟩)⟩) ⟨hgv, hoff9⟩
              case qn => exact List.forall_mem_cons.mpr ⟨List.Mem.head _, List.forall_mem_cons.mpr ⟨by walk_at "mem", all_app (by walk_at "sub") (by walk_at "sub")⟩⟩
            rintro ⟨Dg, gv⟩ u4 h4 tk4 ⟨hgv, hoff9⟩ F4 N4
            clear F2 N2
            dsimp only at F4 N4
            obtain ⟨lts, hlts⟩ : ∃ lts, lts = layOf w0 gm := ⟨_, rfl⟩
            rw [← hlts] at hstep
            refine cut_execs (h₀ := g') (L := L') (fun c : Addr × List Value => [((Str.ofString "row"), .ref f.xr), ((Str.ofString "out"), .ref f.xo), ((Str.ofString "wait"), .int (k : Int) tkk), ((Str.ofString "need"), .int (nd : Int) τ), ((Str.ofString "lay"), .ref c.1)]) (fun c => (c.1, lst c.2 0) :: (led w f ⟨r, out, nr + 1 + 1, no⟩ ++ (newsA ++ own))) (fun c => StrsAre c.2 (lts.map jn)) ?_ ?_
            · clear hstep
              refine wpQ fun Q8 hQ8 => ?_
              by_cases hS : w0 = (Str.ofString "S")
              · subst hS
                have e3 : needOf (symOf (Str.ofString "S")) = 3 := by decide +kernel
                rw [e3] at hnd
                obtain ⟨a, b, c, wa, wb, wc, rfl, rfl, ha, hb, hc⟩ := threes hg1 (hgm.trans hnd)
                have oka := hO1 wa (by rw [hm, hrm]; simp)
                have okb := hO1 wb (by rw [hm, hrm]; simp)
                have la := piece_len oka ha
                have lb := piece_len okb hb
                have hgv : StrsAre gv [a.x, b.x, c.x] := hgv
                k_steps
                subst hQ8
                refine ⟨rfl, ?_⟩
                rename Fr _ _ _ _ => lF'
                rename News _ _ _ _ => lN'
                refine' CutP.intro (_, [.str ((Str.ofString "@ ") ++ b.x ++ (Str.ofString " ") ++ a.x) _, .str (a.x) _, .str (c.x) _]) lF' lN' ?qn (List.forall_mem_cons.mpr ⟨by first | with_unfolding_all exact rfl | (dsimp only; with_unfolding_all exact rfl), (List.forall_mem_cons.mpr ⟨by first | with_unfolding_all exact rfl | (dsimp only; with_unfolding_all exact rfl), (List.forall_mem_cons.mpr ⟨by first | with_unfolding_all exact rfl | (dsimp only; with_unfolding_all exact rfl), (List.forall_mem_cons.mpr ⟨by first | with_unfolding_all exact rfl | (dsimp only; with_unfolding_all exact rfl), (List.forall_mem_cons.mpr ⟨by first | with_unfolding_all exact rfl | (dsimp only; with_unfolding_all exact rfl), (fun _ h => nomatch h)⟩)⟩)⟩)⟩)⟩) ?q0
                case qn => exact List.forall_mem_cons.mpr ⟨by walk_at "mem", by walk_at "sub"⟩
                case q0 =>
                  have hlay : layOf (Str.ofString "S") [wa, wb, wc] = [[(Str.ofString "@")] ++ wb ++ wa, wa, wc] := by rw [layOf, if_pos rfl]; rfl
                  rw [hlts, hlay]
                  simp only [List.map_cons, List.map_nil, jn_at oka.1 okb.1 ha hb, ← ha, ← hc]
                  exact .cons _ _ (.cons _ _ (.cons _ _ .nil))
              have hSe : (w0 == (Str.ofString "S")) = false := by simpa using hS
              by_cases hB : w0 = (Str.ofString "B")
              · subst hB
                have e3 : needOf (symOf (Str.ofString "B")) = 3 := by decide +kernel
                rw [e3] at hnd
                obtain ⟨a, b, c, wa, wb, wc, rfl, rfl, ha, hb, hc⟩ := threes hg1 (hgm.trans hnd)
                have oka := hO1 wa (by rw [hm, hrm]; simp)
                have okb := hO1 wb (by rw [hm, hrm]; simp)
                have la := piece_len oka ha
                have lb := piece_len okb hb
                have hgv : StrsAre gv [a.x, b.x, c.x] := hgv
                k_steps
                subst hQ8
                refine ⟨rfl, ?_⟩
                rename Fr _ _ _ _ => lF'
                rename News _ _ _ _ => lN'
                refine' CutP.intro (_, [.str ((Str.ofString "@ ") ++ b.x ++ (Str.ofString " ") ++ a.x) _, .str (c.x) _]) lF' lN' ?qn (List.forall_mem_cons.mpr ⟨by first | with_unfolding_all exact rfl | (dsimp only; with_unfolding_all exact rfl), (List.forall_mem_cons.mpr ⟨by first | with_unfolding_all exact rfl | (dsimp only; with_unfolding_all exact rfl), (List.forall_mem_cons.mpr ⟨by first | with_unfolding_all exact rfl | (dsimp only; with_unfolding_all exact rfl), (List.forall_mem_cons.mpr ⟨by first | with_unfolding_all exact rfl | (dsimp only; with_unfolding_all exact rfl), (List.forall_mem_cons.mpr ⟨by first | with_unfolding_all exact rfl | (dsimp only; with_unfolding_all exact rfl), (fun _ h => nomatch h)⟩)⟩)⟩)⟩)⟩) ?q0
                case qn => exact List.forall_mem_cons.mpr ⟨by walk_at "mem", by walk_at "sub"⟩
                case q0 =>
                  have hlay : layOf (Str.ofString "B") [wa, wb, wc] = [[(Str.ofString "@")] ++ wb ++ wa, wc] := by rw [layOf, if_neg (by decide +kernel), if_pos rfl]; rfl
                  rw [hlts, hlay]
                  simp only [List.map_cons, List.map_nil, jn_at oka.1 okb.1 ha hb, ← hc]
                  exact .cons _ _ (.cons _ _ .nil)
              have hBe : (w0 == (Str.ofString "B")) = false := by simpa using hB
              by_cases hC : w0 = (Str.ofString "C")
              · subst hC
                have e3 : needOf (symOf (Str.ofString "C")) = 3 := by decide +kernel
                rw [e3] at hnd
                obtain ⟨a, b, c, wa, wb, wc, rfl, rfl, ha, hb, hc⟩ := threes hg1 (hgm.trans hnd)
                have hgv : StrsAre gv [a.x, b.x, c.x] := hgv
                k_steps
                subst hQ8
                refine ⟨rfl, ?_⟩
                rename Fr _ _ _ _ => lF'
                rename News _ _ _ _ => lN'
                refine' CutP.intro (_, [.str (b.x) _, .str (a.x) _, .str (c.x) _]) lF' lN' ?qn (List.forall_mem_cons.mpr ⟨by first | with_unfolding_all exact rfl | (dsimp only; with_unfolding_all exact rfl), (List.forall_mem_cons.mpr ⟨by first | with_unfolding_all exact rfl | (dsimp only; with_unfolding_all exact rfl), (List.forall_mem_cons.mpr ⟨by first | with_unfolding_all exact rfl | (dsimp only; with_unfolding_all exact rfl), (List.forall_mem_cons.mpr ⟨by first | with_unfolding_all exact rfl | (dsimp only; with_unfolding_all exact rfl), (List.forall_mem_cons.mpr ⟨by first | with_unfolding_all exact rfl | (dsimp only; with_unfolding_all exact rfl), (fun _ h => nomatch h)⟩)⟩)⟩)⟩)⟩) ?q0
                case qn => exact List.forall_mem_cons.mpr ⟨by walk_at "mem", by walk_at "sub"⟩
                case q0 =>
                  have hlay : layOf (Str.ofString "C") [wa, wb, wc] = [wb, wa, wc] := by rw [layOf, if_neg (by decide +kernel), if_neg (by decide +kernel), if_pos rfl]; rfl
                  rw [hlts, hlay]
                  simp only [List.map_cons, List.map_nil, ← ha, ← hb, ← hc]
                  exact .cons _ _ (.cons _ _ (.cons _ _ .nil))
              have hCe : (w0 == (Str.ofString "C")) = false := by simpa using hC
              obtain ⟨g1, y9, hy9⟩ := List.eq_nil_or_concat (texts g) |>.resolve_left (fun e => by have := congrArg List.length e; simp only [texts, List.length_map, List.length_nil] at this; omega)
              have hy8 : (texts g).getLast? = some y9 := by rw [hy9, List.concat_eq_append, List.getLast?_concat]
              k_steps
              subst hQ8
              refine ⟨rfl, ?_⟩
              rename Fr _ _ _ _ => lF'
              rename News _ _ _ _ => lN'
              rename StrsAre _ [y9] => sa5
              refine' CutP.intro (_, _) lF' lN' ?qn (List.forall_mem_cons.mpr ⟨by first | with_unfolding_all exact rfl | (dsimp only; with_unfolding_all exact rfl), (List.forall_mem_cons.mpr ⟨by first | with_unfolding_all exact rfl | (dsimp only; with_unfolding_all exact rfl), (List.forall_mem_cons.mpr ⟨by first | with_unfolding_all exact rfl | (dsimp only; with_unfolding_all exact rfl), (List.forall_mem_cons.mpr ⟨by first | with_unfolding_all exact rfl | (dsimp only; with_unfolding_all exact rfl), (List.forall_mem_cons.mpr ⟨by first | with_unfolding_all exact rfl | (dsimp only; with_unfolding_all exact rfl), (fun _ h => nomatch h)⟩)⟩)⟩)⟩)⟩) ?q0
              case qn => exact List.forall_mem_cons.mpr ⟨by walk_at "mem", by walk_at "sub"⟩
              case q0 =>
                rw [hlts, layOf, if_neg hS, if_neg hB, if_neg hC, List.map_drop, ← hg1, hgm, ← hgl, ← texts_len g, hy9, List.concat_eq_append, List.length_append, List.length_cons, List.length_nil, Nat.add_sub_cancel, List.drop_left]
                exact sa5
            rintro ⟨Dl, lv⟩ u5 h5 tk5 hlv F5 N5
            dsimp only at F5 N5
            have hl3 := lay_len (w0 := w0) (gm := gm) (by omega)
            rw [← hlts, ← List.length_map (f := jn)] at hl3
            clear F4 N4
            k_steps
            subst hQ9
            refine ⟨rfl, ?_⟩
            rename Fr _ _ _ _ => lF'
            rename News _ _ _ _ => lN'
            have ew : (k : Int) - (nd : Int) + (((lts.map jn).length : Nat) : Int) - 1 = ((k - nd + (lts.length - 1) : Nat) : Int) := by rw [List.length_map] at hl3 ⊢; exact wait_cast (And.right (by assumption : 0 < nd ∧ nd ≤ k)) hl3.1
            simp only [ew] at lF'
            refine' CutP.intro (⟨⟨r, out, nr + 1 + 1, no⟩, k - nd + (lts.length - 1), _, _, lv, 0, lts⟩ : RL) lF' lN' ?qn (List.forall_mem_cons.mpr ⟨by first | with_unfolding_all exact rfl | (dsimp only; with_unfolding_all exact rfl), (List.forall_mem_cons.mpr ⟨by first | with_unfolding_all exact rfl | (dsimp only; with_unfolding_all exact rfl), (List.forall_mem_cons.mpr ⟨by first | with_unfolding_all exact rfl | (dsimp only; with_unfolding_all exact rfl), (List.forall_mem_cons.mpr ⟨by first | with_unfolding_all exact rfl | (dsimp only; with_unfolding_all exact rfl), (fun _ h => nomatch h)⟩)⟩)⟩)⟩) ⟨hlv, ?q1, ?q2, ?q3, hoff9⟩
            case qn => exact List.forall_mem_cons.mpr ⟨by walk_at "mem", by walk_at "sub"⟩
            case q1 => rw [hstep, hr1, List.map_append]
            case q2 => rw [hstep]; exact hI2
            case q3 => rw [hstep, hI3]
          · rw [if_neg (by rw [decide_eq_false hn]; decide)]
            have hni : ((needOf (symOf w0) : Nat) : Int) ≤ 0 ∨ (k : Int) < ((needOf (symOf w0) : Nat) : Int) := by omega
            have hout9 : out.length ≤ 600 := by
              have h1 := congrArg List.length hI2
              simp only [texts, List.length_map] at h1
              omega
            k_steps
            all_goals (
              unfold Hole
              rename Fr _ _ _ _ => F5
              rename News _ _ _ _ => N5
              rename StrsAre _ _ => sa5
              refine nmW N5 ?_
              intro Dx vx eD eu
              subst eD eu
              rw [take_one hw0] at sa5
              refine' for_listP (fun c : RS => [((Str.ofString "row"), .ref f.xr), ((Str.ofString "out"), .ref f.xo)]) (fun c : RS => (Dx, lst vx 0) :: (led w f c ++ (newsA ++ own))) (fun i c => c.row = rs ∧ texts c.out = texts out ++ (List.replicate k (Str.ofString "@") ++ [w0]).take i ∧ OwnOff own (adr w f c))
                (fun c => c.row = rs ∧ texts c.out = texts out ++ (List.replicate k (Str.ofString "@") ++ [w0]) ∧ OwnOff own (adr w f c)) ⟨rs, out, nr + 1, no⟩ rfl (fun _ => .head _) ?qF ?qN ?qhn ?qps ?qI ?qturn ?qfin ?qdone
              case qF => exact F5
              case qN => exact N5
              case qhn => exact List.forall_mem_cons.mpr ⟨by walk_at "mem", by walk_at "sub"⟩
              case qps => exact (List.forall_mem_cons.mpr ⟨by first | with_unfolding_all exact rfl | (dsimp only; with_unfolding_all exact rfl), (List.forall_mem_cons.mpr ⟨by first | with_unfolding_all exact rfl | (dsimp only; with_unfolding_all exact rfl), (fun _ h => nomatch h)⟩)⟩)
              case qI => exact ⟨rfl, by simp, hoffp⟩
              case qfin =>
                rintro c ⟨h1, h2, h3⟩
                exact ⟨h1, by rw [h2, sa5.length, List.take_length], h3⟩
              case qturn =>
                clear F5 N5
                intro i5 v c u5 h5 tk5 own2 hv hof hI F5 N5
                obtain ⟨j1, j2, j3⟩ := hI
                obtain ⟨x5, t5, rfl, hx5⟩ := strs_val sa5 hv
                rw [List.cons_append, List.append_assoc] at N5
                have hz5 : c.out.length ≤ 10000 := by
                  have h1 := congrArg List.length j2
                  simp only [texts, List.length_append, List.length_map, List.length_take, List.length_replicate, List.length_cons, List.length_nil] at h1
                  omega
                have hof2 : OwnOff own2 (adr w f c) := own_adr (off_tail hof)
                have hna2 : AllNA f own2 := own_na (off_tail hof)
                refine wpQ fun Q8 hQ8 => ?_
                k_steps
                subst hQ8
                rename Fr _ _ _ _ => lF'
                rename News _ _ _ _ => lN'
                rename Grow _ _ _ _ _ => hg9
                refine nmG hg9 ?_
                intro c9 e9
                rw [← e9] at hg9 lN'
                have er : texts c9.out = texts c.out ++ [x5] := by rw [e9, texts_app]; rfl
                have eo : c9.row = c.row := by rw [e9]
                refine' EndP.intro c9 lF' lN' ?qn ?qo ?qf (List.forall_mem_cons.mpr ⟨by first | with_unfolding_all exact rfl | (dsimp only; with_unfolding_all exact rfl), (List.forall_mem_cons.mpr ⟨by first | with_unfolding_all exact rfl | (dsimp only; with_unfolding_all exact rfl), (fun _ h => nomatch h)⟩)⟩) ⟨eo.trans j1, ?q1, ?q3⟩
                case qn => exact List.forall_mem_cons.mpr ⟨by walk_at "mem", all_app (by walk_at "sub") (by walk_at "sub")⟩
                case qo => walk_at "sub"
                case qf => exact off_cons (off_head hof) (own_both (Grow.off hg9 (by walk_at "sub") hof2) (own_rest (off_tail hof)))
                case q1 => rw [er, j2, take_snoc hx5, List.append_assoc]
                case q3 => exact Grow.off hg9 (by walk_at "sub") j3
              case qdone =>
                clear F5 N5
                intro c u5 h5 tk5 hI F5 N5
                obtain ⟨j1, j2, j3⟩ := hI
                have hstep := stepM_out hm hHd hat (by rw [← hI3]; exact hn)
                k_steps
                subst hQ9
                refine ⟨rfl, ?_⟩
                rename Fr _ _ _ _ => lF'
                rename News _ _ _ _ => lN'
                refine' CutP.intro (⟨c, 0, _, _, [], 0, []⟩ : RL) lF' lN' ?qn (List.forall_mem_cons.mpr ⟨by first | with_unfolding_all exact rfl | (dsimp only; with_unfolding_all exact rfl), (List.forall_mem_cons.mpr ⟨by first | with_unfolding_all exact rfl | (dsimp only; with_unfolding_all exact rfl), (List.forall_mem_cons.mpr ⟨by first | with_unfolding_all exact rfl | (dsimp only; with_unfolding_all exact rfl), (List.forall_mem_cons.mpr ⟨by first | with_unfolding_all exact rfl | (dsimp only; with_unfolding_all exact rfl), (fun _ h => nomatch h)⟩)⟩)⟩)⟩) ⟨.nil, ?q1, ?q2, ?q3, j3⟩
                case qn => exact List.forall_mem_cons.mpr ⟨by walk_at "mem", by walk_at "sub"⟩
                case q1 => rw [hstep, j1, hrs.1, List.map_nil, List.append_nil]
                case q2 => rw [hstep, j2, hI2, hI3]
                case q3 => rw [hstep])
      intro c3 u3 h3 tk3 hL F3 N3
      obtain ⟨cc, k3, tk4, D3, lv, ln, lts⟩ := c3
      obtain ⟨hL1, hL2, hL3, hL4, hL5⟩ := hL
      dsimp only [psL, ledL] at hL1 hL2 hL3 hL4 hL5 F3 N3
      clear F2 N2
      k_steps
      unfold Hole
      rename Fr _ _ _ _ => F3
      rename StrsAre lv _ => hL1
      have hlen9 : cc.row.length + lts.length ≤ 300 := by
        have h1 := congrArg List.length hL2
        simp only [texts, List.length_append, List.length_map] at h1
        omega
      refine' for_listP (fun c : RS => [((Str.ofString "row"), .ref f.xr), ((Str.ofString "out"), .ref f.xo), ((Str.ofString "wait"), .int (k3 : Int) tk4)]) (fun c : RS => (D3, lst lv ln) :: (led w f c ++ (newsA ++ own))) (fun i c => texts c.row = texts cc.row ++ (lts.map jn).take i ∧ c.out = cc.out ∧ OwnOff own (adr w f c))
        (fun c => texts c.row = (stepM m9).row.map jn ∧ c.out = cc.out ∧ OwnOff own (adr w f c)) cc rfl (fun _ => .head _) F3 N3 (fun _ h => h) ?qps ?qI ?qturn ?qfin ?qdone
      case qps => exact (List.forall_mem_cons.mpr ⟨by first | with_unfolding_all exact rfl | (dsimp only; with_unfolding_all exact rfl), (List.forall_mem_cons.mpr ⟨by first | with_unfolding_all exact rfl | (dsimp only; with_unfolding_all exact rfl), (List.forall_mem_cons.mpr ⟨by first | with_unfolding_all exact rfl | (dsimp only; with_unfolding_all exact rfl), (fun _ h => nomatch h)⟩)⟩)⟩)
      case qI => exact ⟨by simp, rfl, hL5⟩
      case qfin =>
        rintro c ⟨h1, h2⟩
        refine ⟨?_, h2⟩
        rw [h1, hL1.length, List.take_length, hL2]
      case qturn =>
        clear F3 N3
        intro i5 v c u5 h5 tk5 own2 hv hof hI F5 N5
        obtain ⟨j1, j2, j3⟩ := hI
        obtain ⟨x5, t5, rfl, hx5⟩ := strs_val hL1 hv
        rw [List.cons_append, List.append_assoc] at N5
        have hz5 : c.row.length ≤ 10000 := by
          have h1 := congrArg List.length j1
          have h2 : ((lts.map jn).take i5).length ≤ lts.length := by rw [List.length_take, List.length_map]; omega
          simp only [texts, List.length_append, List.length_map] at h1
          simp only [List.map_take, List.length_take, List.length_map] at h1 h2
          omega
        have hof2 : OwnOff own2 (adr w f c) := own_adr (off_tail hof)
        have hna2 : AllNA f own2 := own_na (off_tail hof)
        refine wpQ fun Q8 hQ8 => ?_
        k_steps
        subst hQ8
        rename Fr _ _ _ _ => lF'
        rename News _ _ _ _ => lN'
        rename Grow _ _ _ _ _ => hg9
        refine nmG hg9 ?_
        intro c9 e9
        rw [← e9] at hg9 lN'
        have er : texts c9.row = texts c.row ++ [x5] := by rw [e9, texts_app]; rfl
        have eo : c9.out = c.out := by rw [e9]
        refine' EndP.intro c9 lF' lN' ?qn ?qo ?qf (List.forall_mem_cons.mpr ⟨by first | with_unfolding_all exact rfl | (dsimp only; with_unfolding_all exact rfl), (List.forall_mem_cons.mpr ⟨by first | with_unfolding_all exact rfl | (dsimp only; with_unfolding_all exact rfl), (List.forall_mem_cons.mpr ⟨by first | with_unfolding_all exact rfl | (dsimp only; with_unfolding_all exact rfl), (fun _ h => nomatch h)⟩)⟩)⟩) ⟨?q1, eo.trans j2, ?q3⟩
        case qn => exact List.forall_mem_cons.mpr ⟨by walk_at "mem", all_app (by walk_at "sub") (by walk_at "sub")⟩
        case qo => walk_at "sub"
        case qf => exact off_cons (off_head hof) (own_both (Grow.off hg9 (by walk_at "sub") hof2) (own_rest (off_tail hof)))
        case q1 => rw [er, j1, take_snoc hx5, List.append_assoc]
        case q3 => exact Grow.off hg9 (by walk_at "sub") j3
      case qdone =>
        intro c u5 h5 tk5 hI F5 N5
        obtain ⟨j1, j2, j3⟩ := hI
        have hstep : itM ⟨[ws], [], 0⟩ (i + 1) = stepM m9 := congrArg stepM hm9
        k_steps
        subst hQ7
        rename Fr _ _ _ _ => lF'
        rename News _ _ _ _ => lN'
        refine' EndP.intro (⟨c, k3, tk4⟩ : RQ) lF' lN' ?qn ?qo ?qf (List.forall_mem_cons.mpr ⟨by first | with_unfolding_all exact rfl | (dsimp only; with_unfolding_all exact rfl), (List.forall_mem_cons.mpr ⟨by first | with_unfolding_all exact rfl | (dsimp only; with_unfolding_all exact rfl), (List.forall_mem_cons.mpr ⟨by first | with_unfolding_all exact rfl | (dsimp only; with_unfolding_all exact rfl), (fun _ h => nomatch h)⟩)⟩)⟩) ?qI
        case qn => exact all_app (by walk_at "sub") (by walk_at "sub")
        case qo => walk_at "sub"
        case qf => exact own_both j3 hoff2
        case qI =>
          rw [hstep]
          exact ⟨j1, by rw [j2]; exact hL3, hL4⟩
-- LT
noncomputable def ndigs (n : Nat) : Nat → Nat → List Nat
  | 0, _ => []
  | k + 1, X => X % 2 ^ n :: ndigs n k (X / 2 ^ n)
theorem digs_nat (n : Nat) : ∀ k X, digs n k X = (ndigs n k X).map Nat.cast
  | 0, _ => rfl
  | k + 1, X => by simp only [digs, ndigs, List.map_cons, digs_nat n k]
theorem ndigs_lt (n : Nat) : ∀ k X, ∀ d ∈ ndigs n k X, d < 2 ^ n
  | 0, _, _, h => nomatch h
  | k + 1, X, d, h => by
    rcases List.mem_cons.mp h with rfl | h
    · exact Nat.mod_lt _ (Nat.two_pow_pos _)
    · exact ndigs_lt n k _ d h
theorem ndigs_len (n : Nat) : ∀ k X, (ndigs n k X).length = k
  | 0, _ => rfl
  | k + 1, X => by simp [ndigs, ndigs_len n k]
noncomputable def places (x : Nat) : List Nat := ndigs 1 (nDigs 1 (x - 3)) (x - 3)
noncomputable def abcAt : Nat → Str
  | 0 => (Str.ofString "a")
  | 1 => (Str.ofString "b")
  | _ => (Str.ofString "c")
noncomputable def termF : Nat → Nat → List Str
  | 0, _ => []
  | k + 1, x => if x < 3 then [abcAt x] else [(Str.ofString "@")] ++ termF k (undigs 1 (eo ((places x).drop 0))) ++ termF k (undigs 1 (eo ((places x).drop 1)))
noncomputable def okT : Nat → Nat → Bool
  | 0, _ => false
  | k + 1, x => decide (x < 600) && (decide (x < 3) || (okT k (undigs 1 (eo ((places x).drop 0))) && okT k (undigs 1 (eo ((places x).drop 1)))))

theorem okT_all : ((List.range 500).all fun x => okT 8 x) = true := by decide +kernel
theorem places_len {x : Nat} (h : x < 600) : (places x).length ≤ 10 := by
  unfold places
  rw [ndigs_len]
  unfold nDigs
  have : Builtin.Int.intBits ((x - 3 : Nat) : Int) ≤ 10 := intBits_le (by simp; omega)
  omega
theorem i2d_use {prog : Program} {w : World} {base : Heap} {news T : Led} {X n : Nat} {xi ni : Int} {ta tn : Tok} (C0 : CodeHd base 27 23) (hT : TT T) (hp : AllPlain news) (hx : xi = X) (hni : ni = n) (hn : 1 ≤ n) (hn9 : n ≤ 9) (hX : X < 2 ^ 700) (hq : nDigs n X ≤ 80) :
    Does prog w base 28 [.int xi ta, .int ni tn] 120 (T ++ news) (I2D ((ndigs n (nDigs n X) X).map Nat.cast) news) := by
  subst hx hni
  rw [← digs_nat]
  exact i2d_two C0 hT hp hn hn9 hX hq
theorem d2i_use {prog : Program} {w : World} {base : Heap} {news T : Led} {D : Addr} {e n : Nat} {vs : List Value} {ds : List Nat} {ni : Int} {tn : Tok} (C0 : CodeHd base 34 30) (hT : TT T) (hp : AllPlain news)
    (hD : (D, lst vs e) ∈ news) (hi : IntsAre vs (ds.map Nat.cast)) (hni : ni = n) (hds : ∀ d ∈ ds, d < 2 ^ n) (hn : 1 ≤ n) (hn9 : n ≤ 9) (hz : ds.length ≤ 80) :
    Does prog w base 35 [.ref D, .int ni tn] 120 (T ++ news) (D2I ((undigs n ds : Nat) : Int) news) := by
  subst hni
  exact d2i_two C0 hT hp hD hi hds hn hn9 hz
noncomputable def TermL (ws : List Str) (news : Led) (r : Value) (news' : Led) : Prop := ∃ D vs T', r = .ref D ∧ news' = (D, lst vs 0) :: (T' ++ news) ∧ TT T' ∧ StrsAre vs ws ∧ (∀ p ∈ news, p.1 < D)
theorem TermL.hand {h₀ : Heap} {L D : Addr} {m : Str → Option Value} {s : Shared} {Q : Value → Shared → Prop} {news all T rest : Led} {ws ys : List Str} {us : List Value} {h : Heap} {tk : Nat}
    (hret : ∀ r news' h' tk', TermL ws news r news' → Fr h₀ L h' m → News h₀ L h' news' → Q r { s with heap := h', toks := tk' })
    (F : Fr h₀ L h m) (N : News h₀ L h all) (x : Pull all T rest) (hT : TT T) (hm : (D, lst us 0) ∈ rest) (hs : ∀ p ∈ news, p ∈ rest) (ho : ∀ p ∈ news, p.1 < D) (sa : StrsAre us ys) (e : ws = ys) : Q (.ref D) { s with heap := h, toks := tk } := by
  refine hret _ _ h tk ⟨D, us, T, rfl, rfl, hT, e ▸ sa, ho⟩ F (fun p hp => x.news N p ?_)
  rcases List.mem_cons.mp hp with rfl | hp
  · exact List.mem_append_right _ hm
  · rcases List.mem_append.mp hp with hp | hp
    · exact List.mem_append_left _ hp
    · exact List.mem_append_right _ (hs p hp)
theorem Does.pt {prog : Program} {w : World} {base : Heap} {f : Addr} {args : List Value} {d : Nat} {all T rest : Led} {ws : List Str}
    {p : Program} {loose : List Str} {mean : ExcName → Option Value} {mg mb : Str → Option Value} {dp un : Nat} {gd : Option (List Code)} {cn : Str} {cs : Scope} {a : Addr} {ccd : Value} {cl : List (Str × Addr)} {outer : List Env} {A₀ : Around} {h₀ : Heap} {L : Addr} {m : Str → Option Value} {s : Shared} {Q E : Value → Shared → Prop}
    (U : Use w base p loose mean mg mb cs outer A₀ h₀ L m s.heap all) (y : Pull all T rest) (D : Does prog w base f args d (T ++ rest) (TermL ws rest)) (R : dp + d < recursionLimit ∧ un + 8 * d < cLine)
    (ret : ∀ D us T' h' tk', TT T' → StrsAre us ws → (∀ p ∈ rest, p.1 < D) → Fr h₀ L h' m → News h₀ L h' ((D, lst us 0) :: (T' ++ rest)) → Q (.ref D) { s with heap := h', toks := tk' }) :
    wpAny (model prog w) (ktrTop dp un gd cn cs L a ccd cl outer) (call (.ref f) args) Q E s := D.pl U y R fun _ _ h' tk' o F N => by obtain ⟨D, us, T', e1, e2, tt, sa, l⟩ := o; subst e1 e2; exact ret D us T' h' tk' tt sa l F N
/-- the two makers' codes -/
noncomputable def Codes (base : Heap) : Prop := CodeHd base 27 23 ∧ CodeHd base 34 30
noncomputable def TermC (prog : Program) (w : World) (base : Heap) (k : Nat) : Prop := ∀ (x : Nat) (xi : Int) (t : Tok) (T news : Led), xi = x → okT k x = true → TT T → AllPlain news → Does prog w base 164 [.int xi t] (k + 130) (T ++ news) (TermL (termF k x) news)
theorem TermC.at {prog : Program} {w : World} {base : Heap} {k : Nat} (h : TermC prog w base k) {x : Nat} {xi : Int} {t : Tok} {T news : Led} (hx : xi = x) (ok : okT k x = true) (hT : TT T) (hp : AllPlain news) : Does prog w base 164 [.int xi t] (k + 130) (T ++ news) (TermL (termF k x) news) := h x xi t T news hx ok hT hp
section
variable {prog : Program} {w : World} {A : Around} {E : Value → Shared → Prop} {s : Shared} {h₀ : Heap} {L l : Addr} {m : Str → Option Value} {news : Led} {n : Nat} {Q : Value → Shared → Prop} {vs : List Value} {ds : List Nat}
theorem eo_slice {value slice : PySem.Expr} {vl vk : Value} {a : Nat} {ai : Int} {ops : List Value} (F : Fr h₀ L s.heap m) (N : News h₀ L s.heap news) (hm : (l, lst vs n) ∈ news) (hi : IntsAre vs (ds.map Nat.cast)) (hz : ds.length ≤ 1000) (ha : ai = a) (pl : IsPart vl (some ai)) (pk : IsPart vk (some 2))
    (h : ∀ D us h', Fr h₀ L h' m → News h₀ L h' ((D, lst us 0) :: news) → (∀ p ∈ news, p.1 < D) → IntsAre us ((eo (ds.drop a)).map Nat.cast) → Q (.ref D) { s with heap := h' })
    (hs : subscripted slice false (.ref l) (.ref s.heap.objs.size) = operate ops (getItem (.ref l) (.ref s.heap.objs.size))) (ht : ∀ r, letTemporaryGo value (.ref l) r = pure ()) :
    wpAny (model prog w) A (subscriptTail value slice (.ref l) (.ref s.heap.objs.size)) Q E { s with heap := s.heap.push { cls := .type "slice", data := .fields #[vl, .none, vk] } } := by
  subst ha
  refine kmk_slice3_lit F N (inList N hm) pl IsPart.none pk (by decide) (pick2 vs a) (fun D h' F' N' l1 => h D _ h' F' N' l1 ?_) hs ht (by rw [List.size_toArray, hi.length, List.length_map, sizeLine_eq]; omega)
  have := eo_ints (hi.drop a)
  rwa [← List.map_drop, eo_map] at this
end
set_option hygiene true
local macro_rules | `(tactic| walk_at "subscriptTail Name Slice ref ref") => `(tactic| (k_here; k_dflt ((with_reducible show wpAny _ _ (subscriptTail _ (PySem.Expr.Slice _ _ (some _) _) (Value.ref _) (Value.ref _)) _ _ _); k_dflt (refine' eo_slice ?F ?N ?m ?w ?z ?a ?p ?k ?_ ?s ?t; (case F => k_asm); (case N => k_asm); (case m => walk_at "mem"); (case w => assumption); (case p => kmk_part); (case k => kmk_part); (case a => first | exact (rfl : (0 : Int) = ((0 : Nat) : Int)) | exact (rfl : (1 : Int) = ((1 : Nat) : Int))); (case s => with_unfolding_all rfl); (case t => kmk_pure); (case z => walk_at "dl")); intros; (try k_sweep))))
theorem le80 {a : Nat} (h : a ≤ 80) : a ≤ 1000 := Nat.le_trans h (by decide)
set_option hygiene false
local macro_rules | `(tactic| walk_at "dl") => `(tactic| first | (refine' le80 (by assumption)) | (rw [ndigs_len]; omega) | omega)
local macro_rules | `(tactic| walk_at "call ref") => `(tactic| (k_here; k_dflt ((with_reducible show wpAny _ _ (call (Value.ref 28) _) _ _ _); refine' Does.pn (by walk_at "use") (by walk_at "pull") (i2d_use (by walk_at "c23") (by assumption) (by walk_at "plain") (by walk_at "hx") (by walk_at "hn") (by decide) (by decide) (by walk_at "hX") (by walk_at "hq")) (by walk_at "room") ?_; walk_at "gi")))
local macro_rules | `(tactic| walk_at "call ref") => `(tactic| (k_here; k_dflt ((with_reducible show wpAny _ _ (call (Value.ref 35) _) _ _ _); refine' Does.pd (by walk_at "use") (by walk_at "pull") (d2i_use (by walk_at "c30") (by assumption) (by walk_at "plain") (by walk_at "mem") (by assumption) (by walk_at "hn") (by walk_at "hds") (by decide) (by decide) (by walk_at "hz")) (by walk_at "room") ?_; walk_at "gi")))
local macro_rules | `(tactic| walk_at "call ref") => `(tactic| (k_here; k_dflt ((with_reducible show wpAny _ _ (call (Value.ref 164) _) _ _ _); refine' Does.pt (by walk_at "use") (by walk_at "pull") (TermC.at (by assumption) (by exact rfl) (by assumption) (by assumption) (by walk_at "plain")) (by walk_at "room") ?_; walk_at "gi")))
local macro_rules | `(tactic| walk_at "c23") => `(tactic| exact And.left (by assumption : Codes _))
local macro_rules | `(tactic| walk_at "c30") => `(tactic| exact And.right (by assumption : Codes _))
local macro_rules | `(tactic| walk_at "hn") => `(tactic| first | exact (rfl : (1 : Int) = ((1 : Nat) : Int)) | exact (rfl : (9 : Int) = ((9 : Nat) : Int)))
theorem eo_lt {ds : List Nat} {a n : Nat} (h : ∀ d ∈ ds, d < n) : ∀ d ∈ eo (ds.drop a), d < n := fun d hd => h d (List.mem_of_mem_drop (eo_sub _ d hd))
theorem eo_le {ds : List Nat} {a n : Nat} (h : ds.length ≤ n) : (eo (ds.drop a)).length ≤ n := by
  have := eo_len (ds.drop a)
  rw [List.length_drop] at this
  omega
theorem term_abc {k x : Nat} {y : Str} (h : x < 3) (hy : abcAt x = y) : termF (k + 1) x = [y] := by rw [termF, if_pos h, hy]
theorem term_two {k x : Nat} (h : ¬ x < 3) : termF (k + 1) x = [(Str.ofString "@")] ++ termF k (undigs 1 (eo ((places x).drop 0))) ++ termF k (undigs 1 (eo ((places x).drop 1))) := by rw [termF, if_neg h]

theorem termF_len : ∀ k x, (termF k x).length + 1 ≤ 2 ^ k
  | 0, _ => by simp [termF]
  | k + 1, x => by
    have h1 := termF_len k (undigs 1 (eo ((places x).drop 0)))
    have h2 := termF_len k (undigs 1 (eo ((places x).drop 1)))
    have h3 : 0 < 2 ^ k := Nat.two_pow_pos _
    rw [termF]
    split
    · simp; omega
    · simp only [List.length_append, List.length_cons, List.length_nil]; omega
theorem ordT {T news : Led} {D : Addr} (h : ∀ p ∈ T ++ news, p.1 < D) : ∀ p ∈ news, p.1 < D := fun p hp => h p (List.mem_append_right _ hp)
local macro_rules | `(tactic| walk_at "ordT") => `(tactic| first | assumption | exact ordT (by assumption) | (refine' ord_of (D := _) (by assumption) (by walk_at "sub")))
-- LT2
section
theorem len_a {c : Str} {a : List Str} (h : a.length ≤ 255) : [c].length + a.length ≤ 1000000 := by simp only [List.length_cons, List.length_nil]; omega
theorem len_b {c : Str} {a b : List Str} (h : a.length ≤ 255) (k : b.length ≤ 255) : ([c] ++ a).length + b.length ≤ 1000000 := by simp only [List.length_append, List.length_cons, List.length_nil]; omega
noncomputable def Len9 (k : Nat) : Prop := ∀ x, (termF k x).length ≤ 255
theorem Len9.of {k : Nat} (h : k ≤ 8) : Len9 k := fun x => by
  have h1 := termF_len k x
  have h2 : 2 ^ k ≤ 2 ^ 8 := Nat.pow_le_pow_right (by decide) h
  omega
theorem Len9.at {k x : Nat} (h : Len9 k) : (termF k x).length ≤ 255 := h x
end
set_option hygiene false
local macro_rules | `(tactic| walk_at "len") => `(tactic| ((with_reducible rename Len9 _ => l99); first | exact len_a (Len9.at l99) | exact len_b (Len9.at l99) (Len9.at l99)))
section
end
set_option hygiene false
local macro_rules | `(tactic| walk_at "hx") => `(tactic| assumption)
section
end
set_option hygiene false
local macro_rules | `(tactic| walk_at "hX") => `(tactic| assumption)
section
end
set_option hygiene false
local macro_rules | `(tactic| walk_at "hq") => `(tactic| assumption)
section
end
set_option hygiene false
local macro_rules | `(tactic| walk_at "hds") => `(tactic| (refine' eo_lt (by assumption)))
section
end
set_option hygiene false
local macro_rules | `(tactic| walk_at "hz") => `(tactic| (refine' eo_le (by assumption)))
section
set_option maxRecDepth 100000 in
set_option maxHeartbeats 1500000 in
theorem term_step {prog : Program} {w : World} {base : Heap} (C0 : Codes base) (k : Nat) (hk8 : k ≤ 8) (ih : TermC prog w base k) : TermC prog w base (k + 1) := by
  intro x xi t T news hx0 hok hTT hpl
  subst hx0
  simp only [okT, Bool.and_eq_true, Bool.or_eq_true, decide_eq_true_eq] at hok
  obtain ⟨h600, hok⟩ := hok
  have hlen := Len9.of hk8
  by_cases h3 : x < 3
  · have hx3 : x = 0 ∨ x = 1 ∨ x = 2 := by omega
    rcases hx3 with rfl | rfl | rfl
    · show Does prog w base 164 [.int 0 t] _ _ _
      intro p loose mean mg mb dp un gd cn cs a₀ ccd cl outer A₀ h₀ L m s Q E B F X0 N Tp hk hd hu hret
      refine wpAny_call ?_
      k_dflt (refine' code_def (binds := [((Str.ofString "number"), .int 0 t)]) ?k1 ?k2 ?k3 ?k4 ?k5 ?kA ?kF ?kK ?k6 ?k7 ?k8 ?k9 ?kB ?_ ?c2 ?c3 ?c4 ?c5; (case kA => exact rfl); (case kF => exact rfl); (case kK => assumption); (case k1 => k_asm); (case k2 => k_asm); (case k3 => k_asm); (case k4 => k_asm); (case k5 => k_asm); (case k6 => k_is); (case k7 => k_is); (case k8 => first | exact Nat.lt_of_le_of_lt (Nat.le_add_right _ _) (by assumption) | ktr_room); (case k9 => first | exact BindsTo.of_eq rfl | exact binds_K (by k_in) rfl (by k_is) rfl rfl rfl); (case c5 => decide); (case kB => exact locs rfl); (case c2 => exact rfl); (case c3 => exact rfl); (case c4 => exact rfl); k_whole; intro g' L' h' FG' F' N' B' X' T'; (try dsimp only); (try k_fold))
      k_steps
      refine' TermL.hand hret ?F ?N ?pl ?tt ?mem ?sub ?ord ?sa ?e
      case F => assumption
      case N => assumption
      case pl => walk_at "pull"
      case tt => assumption
      case mem => walk_at "mem"
      case sub => walk_at "sub"
      case ord => walk_at "ordT"
      case sa => walk_at "sa"
      case e => exact term_abc h3 (by decide +kernel)
    · show Does prog w base 164 [.int 1 t] _ _ _
      intro p loose mean mg mb dp un gd cn cs a₀ ccd cl outer A₀ h₀ L m s Q E B F X0 N Tp hk hd hu hret
      refine wpAny_call ?_
      k_dflt (refine' code_def (binds := [((Str.ofString "number"), .int 1 t)]) ?k1 ?k2 ?k3 ?k4 ?k5 ?kA ?kF ?kK ?k6 ?k7 ?k8 ?k9 ?kB ?_ ?c2 ?c3 ?c4 ?c5; (case kA => exact rfl); (case kF => exact rfl); (case kK => assumption); (case k1 => k_asm); (case k2 => k_asm); (case k3 => k_asm); (case k4 => k_asm); (case k5 => k_asm); (case k6 => k_is); (case k7 => k_is); (case k8 => first | exact Nat.lt_of_le_of_lt (Nat.le_add_right _ _) (by assumption) | ktr_room); (case k9 => first | exact BindsTo.of_eq rfl | exact binds_K (by k_in) rfl (by k_is) rfl rfl rfl); (case c5 => decide); (case kB => exact locs rfl); (case c2 => exact rfl); (case c3 => exact rfl); (case c4 => exact rfl); k_whole; intro g' L' h' FG' F' N' B' X' T'; (try dsimp only); (try k_fold))
      k_steps
      refine' TermL.hand hret ?F ?N ?pl ?tt ?mem ?sub ?ord ?sa ?e
      case F => assumption
      case N => assumption
      case pl => walk_at "pull"
      case tt => assumption
      case mem => walk_at "mem"
      case sub => walk_at "sub"
      case ord => walk_at "ordT"
      case sa => walk_at "sa"
      case e => exact term_abc h3 (by decide +kernel)
    · show Does prog w base 164 [.int 2 t] _ _ _
      intro p loose mean mg mb dp un gd cn cs a₀ ccd cl outer A₀ h₀ L m s Q E B F X0 N Tp hk hd hu hret
      refine wpAny_call ?_
      k_dflt (refine' code_def (binds := [((Str.ofString "number"), .int 2 t)]) ?k1 ?k2 ?k3 ?k4 ?k5 ?kA ?kF ?kK ?k6 ?k7 ?k8 ?k9 ?kB ?_ ?c2 ?c3 ?c4 ?c5; (case kA => exact rfl); (case kF => exact rfl); (case kK => assumption); (case k1 => k_asm); (case k2 => k_asm); (case k3 => k_asm); (case k4 => k_asm); (case k5 => k_asm); (case k6 => k_is); (case k7 => k_is); (case k8 => first | exact Nat.lt_of_le_of_lt (Nat.le_add_right _ _) (by assumption) | ktr_room); (case k9 => first | exact BindsTo.of_eq rfl | exact binds_K (by k_in) rfl (by k_is) rfl rfl rfl); (case c5 => decide); (case kB => exact locs rfl); (case c2 => exact rfl); (case c3 => exact rfl); (case c4 => exact rfl); k_whole; intro g' L' h' FG' F' N' B' X' T'; (try dsimp only); (try k_fold))
      k_steps
      refine' TermL.hand hret ?F ?N ?pl ?tt ?mem ?sub ?ord ?sa ?e
      case F => assumption
      case N => assumption
      case pl => walk_at "pull"
      case tt => assumption
      case mem => walk_at "mem"
      case sub => walk_at "sub"
      case ord => walk_at "ordT"
      case sa => walk_at "sa"
      case e => exact term_abc h3 (by decide +kernel)
  · obtain ⟨ok1, ok2⟩ := hok.resolve_left h3
    intro p loose mean mg mb dp un gd cn cs a₀ ccd cl outer A₀ h₀ L m s Q E B F X0 N Tp hk hd hu hret
    have hxa : (x : Int) - 3 = ((x - 3 : Nat) : Int) := by omega
    have hXa : x - 3 < 2 ^ 700 := Nat.lt_of_lt_of_le (show x - 3 < 2 ^ 10 by omega) (Nat.pow_le_pow_right (by decide) (by decide))
    have hpl9 := places_len h600
    have hqa : nDigs 1 (x - 3) ≤ 80 := by have := ndigs_len 1 (nDigs 1 (x - 3)) (x - 3); unfold places at hpl9; omega
    have hlt9 : ∀ d ∈ places x, d < 2 ^ 1 := ndigs_lt _ _ _
    have hl80 : (places x).length ≤ 80 := by omega
    have hlt9' : ∀ d ∈ ndigs 1 (nDigs 1 (x - 3)) (x - 3), d < 2 ^ 1 := hlt9
    have hl80' : (ndigs 1 (nDigs 1 (x - 3)) (x - 3)).length ≤ 80 := hl80
    refine wpAny_call ?_
    k_dflt (refine' code_def (binds := [((Str.ofString "number"), .int (x : Int) t)]) ?k1 ?k2 ?k3 ?k4 ?k5 ?kA ?kF ?kK ?k6 ?k7 ?k8 ?k9 ?kB ?_ ?c2 ?c3 ?c4 ?c5; (case kA => exact rfl); (case kF => exact rfl); (case kK => assumption); (case k1 => k_asm); (case k2 => k_asm); (case k3 => k_asm); (case k4 => k_asm); (case k5 => k_asm); (case k6 => k_is); (case k7 => k_is); (case k8 => first | exact Nat.lt_of_le_of_lt (Nat.le_add_right _ _) (by assumption) | ktr_room); (case k9 => first | exact BindsTo.of_eq rfl | exact binds_K (by k_in) rfl (by k_is) rfl rfl rfl); (case c5 => decide); (case kB => exact locs rfl); (case c2 => exact rfl); (case c3 => exact rfl); (case c4 => exact rfl); k_whole; intro g' L' h' FG' F' N' B' X' T'; (try dsimp only); (try k_fold))
    k_steps
    refine' TermL.hand hret ?qF ?qN ?qpl ?qtt ?qmem ?qsub ?qord ?qsa ?qe
    case qF => assumption
    case qN => assumption
    case qpl => walk_at "pull"
    case qtt => assumption
    case qmem => walk_at "mem"
    case qsub => walk_at "sub"
    case qord => walk_at "ordT"
    case qsa => walk_at "sa"
    case qe => exact term_two h3
end
theorem term_all {prog : Program} {w : World} {base : Heap} (C0 : Codes base) : ∀ k : Nat, k ≤ 9 → TermC prog w base k
  | 0, _ => fun _ _ _ _ _ _ h => nomatch h
  | k + 1, h => term_step C0 k (by omega) (term_all C0 k (by omega))
-- P0
/- the machine on codes: 0 the sign @, 1 to 5 the letters K I S B C, 6 to 8 the three operators, 9 to 11 the letters a b c -/
noncomputable def endGoN : List Nat → Nat → Nat → Nat
  | [], _, p => p
  | c :: r, need, p => match c with
    | 0 => endGoN r (need + 1) (p + 1)
    | _ + 1 => match need with
      | 0 => endGoN r 0 (p + 1)
      | 1 => p + 1
      | k + 2 => endGoN r (k + 1) (p + 1)
noncomputable def endN (ws : List Nat) : Nat := endGoN ws 1 0
noncomputable def evens : Nat → Nat → Nat
  | 0, _ => 0
  | k + 1, x => x % 2 + 2 * evens k (x / 4)
noncomputable def termN : Nat → Nat → List Nat
  | 0, _ => []
  | k + 1, x => match x with
    | 0 => [9]
    | 1 => [10]
    | 2 => [11]
    | y + 3 => 0 :: (termN k (evens 5 y) ++ termN k (evens 5 (y / 2)))
noncomputable def memN (c : Nat) : List Nat → Bool
  | [] => false
  | x :: r => if Nat.beq x c then true else memN c r
noncomputable def isN (c : Nat) : List Nat → Bool
  | [x] => Nat.beq x c
  | _ => false
noncomputable def outN : Nat → Nat → List Nat → List Nat
  | 0, _, _ => []
  | k + 1, nm, ws => match memN nm ws with
    | false => 0 :: 1 :: ws
    | true => match isN nm ws with
      | true => [2]
      | false => match ws with
        | [] => []
        | _ :: r => match memN nm (r.take (endN r)), memN nm (r.drop (endN r)), isN nm (r.drop (endN r)) with
          | false, _, true => r.take (endN r)
          | false, _, false => 0 :: 0 :: 4 :: (r.take (endN r) ++ outN k nm (r.drop (endN r)))
          | true, false, _ => 0 :: 0 :: 5 :: (outN k nm (r.take (endN r)) ++ r.drop (endN r))
          | true, true, _ => 0 :: 0 :: 3 :: (outN k nm (r.take (endN r)) ++ outN k nm (r.drop (endN r)))
noncomputable def needN (c : Nat) : Nat := match c with
  | 1 => 2
  | 2 => 1
  | 3 => 3
  | 4 => 3
  | 5 => 3
  | _ => 0
structure MN where
  row : List (List Nat)
  out : List Nat
  wait : Nat
noncomputable def pushAt : Nat → List Nat → List Nat
  | 0, l => l
  | k + 1, l => 0 :: pushAt k l
/-- the parts of what comes, the top first -/
noncomputable def layN (c : Nat) (l : List (List Nat)) : List (List Nat) :=
  match c with
  | 3 => [l.headD [], (l.drop 2).headD [], 0 :: ((l.drop 1).headD [] ++ (l.drop 2).headD [])]
  | 4 => [l.headD [], 0 :: ((l.drop 1).headD [] ++ (l.drop 2).headD [])]
  | 5 => [l.headD [], (l.drop 2).headD [], (l.drop 1).headD []]
  | _ => l.take 1
/-- one turn; the pile's top stands first, what is told stands last first -/
noncomputable def stepN (m : MN) : MN := match m.row with
  | [] => m
  | [] :: rs => ⟨rs, m.out, m.wait⟩
  | (c :: r) :: rs => match c with
    | 0 => ⟨r.take (endN r) :: r.drop (endN r) :: rs, m.out, m.wait + 1⟩
    | c + 1 => match Nat.blt 0 (needN (c + 1)) && Nat.ble (needN (c + 1)) m.wait with
      | true => ⟨layN (c + 1) (rs.take (needN (c + 1))) ++ rs.drop (needN (c + 1)), m.out, m.wait - needN (c + 1) + ((layN (c + 1) (rs.take (needN (c + 1)))).length - 1)⟩
      | false => ⟨rs, (c + 1) :: pushAt m.wait m.out, 0⟩
noncomputable def lenLe : List Nat → Nat → Bool
  | [], _ => true
  | _ :: _, 0 => false
  | _ :: r, k + 1 => lenLe r k
noncomputable def pieceN (ws : List Nat) : Bool := match ws with
  | [] => false
  | _ :: _ => lenLe ws 250
noncomputable def rowsLe : List (List Nat) → Nat → Bool
  | [], _ => true
  | _ :: _, 0 => false
  | ws :: r, k + 1 => pieceN ws && rowsLe r k
noncomputable def okSt (m : MN) : Bool := rowsLe m.row 200 && lenLe m.out 300 && Nat.ble m.wait 200 &&
  match m.row with
  | (c :: _) :: rs => match Nat.ble (needN c) m.wait with
    | true => Nat.ble (needN c) rs.length
    | false => true
  | _ => true
noncomputable def runN : Nat → MN → Option MN
  | 0, _ => none
  | k + 1, m => match okSt m with
    | false => none
    | true => match m.row with
      | [] => some m
      | _ :: _ => runN k (stepN m)
noncomputable def ilN : Nat → Nat → Nat → Nat
  | 0, _, _ => 0
  | k + 1, e, o => (e % 2 + 2 * (o % 2)) + 4 * ilN k (e / 2) (o / 2)
noncomputable def numN : Nat → List Nat → Nat
  | 0, _ => 0
  | k + 1, ws => match ws with
    | [] => 0
    | 0 :: r => 3 + ilN 10 (numN k (r.take (endN r))) (numN k (r.drop (endN r)))
    | (c + 1) :: _ => c - 5
noncomputable def okNumN : Nat → List Nat → Bool
  | 0, _ => false
  | k + 1, ws => match ws with
    | [] => false
    | 0 :: r => okNumN k (r.take (endN r)) && okNumN k (r.drop (endN r)) && Nat.blt (numN k (r.take (endN r))) 1024 && Nat.blt (numN k (r.drop (endN r))) 1024
    | (c + 1) :: _ => Nat.ble 5 c && Nat.ble c 7
noncomputable def toldN : List Nat → Bool
  | [] => true
  | c :: r => (Nat.beq c 0 || (Nat.ble 6 c && Nat.ble c 8)) && toldN r
noncomputable def lowN : List Nat → Bool
  | [] => true
  | c :: r => Nat.ble c 5 && lowN r
noncomputable def progN (n : Nat) : List Nat := outN 60 9 (outN 60 10 (outN 60 11 (termN 8 n)))
noncomputable def endsN (n : Nat) (m : MN) : Bool := toldN m.out && Nat.beq (endN m.out.reverse) m.out.length && okNumN 20 m.out.reverse && Nat.beq (numN 20 m.out.reverse) n
noncomputable def checkN (n : Nat) : Bool := lenLe (termN 8 n) 50 && lenLe (outN 60 11 (termN 8 n)) 50 && lenLe (outN 60 10 (outN 60 11 (termN 8 n))) 50 && lenLe (progN n) 60 && lowN (progN n) &&
  match runN 100 ⟨[0 :: 0 :: 0 :: (progN n ++ [6, 7, 8])], [], 0⟩ with
  | none => false
  | some m => endsN n m
noncomputable def checkFrom : Nat → Nat → Bool
  | 0, _ => true
  | k + 1, n => checkN n && checkFrom k (n + 1)
-- P2
structure Wd (W : Nat → Str) : Prop where
  inj : ∀ c d, c < 12 → d < 12 → W c = W d → c = d
  w0 : W 0 = (Str.ofString "@")
  w1 : W 1 = (Str.ofString "K")
  w2 : W 2 = (Str.ofString "I")
  w3 : W 3 = (Str.ofString "S")
  w4 : W 4 = (Str.ofString "B")
  w5 : W 5 = (Str.ofString "C")
  w9 : W 9 = (Str.ofString "a")
  w10 : W 10 = (Str.ofString "b")
  w11 : W 11 = (Str.ofString "c")
noncomputable def Codes12 (ws : List Nat) : Prop := ∀ c ∈ ws, c < 12
section
variable {W : Nat → Str} (hW : Wd W)
include hW
theorem Wd.beq {c d : Nat} (hc : c < 12) (hd : d < 12) : (W c == W d) = Nat.beq c d := by
  by_cases e : c = d
  · subst e; simp
  · have h1 : Nat.beq c d = false := by
      cases h : Nat.beq c d
      · rfl
      · exact absurd (Nat.eq_of_beq_eq_true h) e
    rw [h1]
    simp only [beq_eq_false_iff_ne, ne_eq]
    exact fun h => e (hW.inj c d hc hd h)
theorem Wd.at_iff {c : Nat} (hc : c < 12) : W c = (Str.ofString "@") ↔ c = 0 := by
  rw [← hW.w0]
  exact ⟨hW.inj c 0 hc (by decide), fun h => by rw [h]⟩
theorem endGo_map : ∀ (ws : List Nat) (need p : Nat), Codes12 ws → 1 ≤ need → lawEndGo (ws.map W) (need : Int) (p : Int) = (endGoN ws need p : Nat)
  | [], _, _, _, _ => rfl
  | c :: r, need, p, h, hn => by
    have hc : c < 12 := h c (.head _)
    have hr : Codes12 r := fun x hx => h x (.tail _ hx)
    have en : endNext (W c) (need : Int) = if c = 0 then (need : Int) + 1 else (need : Int) - 1 := by
      unfold endNext
      by_cases e : c = 0
      · rw [if_pos e, if_pos ((hW.at_iff hc).mpr e)]
      · rw [if_neg e, if_neg (fun q => e ((hW.at_iff hc).mp q))]
    rw [List.map_cons, lawEndGo]
    cases c with
    | zero =>
      rw [if_pos rfl] at en
      rw [en, if_neg (by omega)]
      have := endGo_map r (need + 1) (p + 1) hr (by omega)
      simpa [endGoN] using this
    | succ c =>
      rw [if_neg (Nat.succ_ne_zero c)] at en
      rw [en]
      match need, hn with
      | 1, _ =>
        rw [if_pos (by omega)]
        simp [endGoN]
      | k + 2, _ =>
        rw [if_neg (by omega)]
        have := endGo_map r (k + 1) (p + 1) hr (by omega)
        have e1 : ((k + 2 : Nat) : Int) - 1 = ((k + 1 : Nat) : Int) := by omega
        rw [e1]
        simpa [endGoN] using this
theorem end_map {ws : List Nat} (h : Codes12 ws) : lawEnd (ws.map W) = (endN ws : Nat) := endGo_map hW ws 1 0 h (Nat.le_refl _)
theorem cut_map {c : Nat} {r : List Nat} (h : Codes12 r) : (1 + lawEnd (((c :: r).map W).drop (Int.toNat 1))).toNat = 1 + endN r := by
  have e : ((c :: r).map W).drop (Int.toNat 1) = r.map W := rfl
  rw [e, end_map hW h]
  omega
theorem right_map {c : Nat} {r : List Nat} (h : Codes12 r) : ((c :: r).map W).drop (1 + lawEnd (((c :: r).map W).drop (Int.toNat 1))).toNat = (r.drop (endN r)).map W := by
  rw [cut_map hW h, Nat.add_comm, List.map_cons, List.drop_succ_cons, List.map_drop]
theorem left_map {c : Nat} {r : List Nat} (h : Codes12 r) : (((c :: r).map W).take (1 + lawEnd (((c :: r).map W).drop (Int.toNat 1))).toNat).drop (Int.toNat 1) = (r.take (endN r)).map W := by
  rw [cut_map hW h, Nat.add_comm, List.map_cons, List.take_succ_cons, List.map_take]
  rfl
theorem mem_map {nm : Nat} (hn : nm < 12) : ∀ {ws : List Nat}, Codes12 ws → (ws.map W).any (· == W nm) = memN nm ws
  | [], _ => rfl
  | c :: r, h => by
    rw [List.map_cons, List.any_cons, hW.beq (h c (.head _)) hn, mem_map hn fun x hx => h x (.tail _ hx), memN]
    cases Nat.beq c nm <;> rfl
theorem is_map {nm : Nat} (hn : nm < 12) : ∀ {ws : List Nat}, Codes12 ws → (ws.map W = [W nm] ↔ isN nm ws = true)
  | [], _ => by simp [isN]
  | [c], h => by
    have := hW.beq (h c (.head _)) hn
    simp only [List.map_cons, List.map_nil, List.cons.injEq, and_true, isN, ← this, beq_iff_eq]
  | c :: d :: r, h => by simp [isN]
end
theorem Codes12.take {ws : List Nat} (h : Codes12 ws) (k : Nat) : Codes12 (ws.take k) := fun c hc => h c (List.mem_of_mem_take hc)
theorem Codes12.drop {ws : List Nat} (h : Codes12 ws) (k : Nat) : Codes12 (ws.drop k) := fun c hc => h c (List.mem_of_mem_drop hc)
theorem Codes12.app {a b : List Nat} (h : Codes12 a) (k : Codes12 b) : Codes12 (a ++ b) := fun c hc => (List.mem_append.mp hc).elim (h c) (k c)
theorem Codes12.cons {c : Nat} {a : List Nat} (h : c < 12) (k : Codes12 a) : Codes12 (c :: a) := fun d hd => by
  rcases List.mem_cons.mp hd with rfl | hd
  · exact h
  · exact k d hd
theorem term12 : ∀ k x, Codes12 (termN k x)
  | 0, _ => fun _ h => nomatch h
  | k + 1, x => by
    unfold termN
    split
    · exact .cons (by decide) fun _ h => nomatch h
    · exact .cons (by decide) fun _ h => nomatch h
    · exact .cons (by decide) fun _ h => nomatch h
    · exact .cons (by decide) (.app (term12 k _) (term12 k _))
theorem out12 : ∀ k nm ws, Codes12 ws → Codes12 (outN k nm ws)
  | 0, _, _, _ => fun _ h => nomatch h
  | k + 1, nm, ws, h => by
    unfold outN
    split
    · exact .cons (by decide) (.cons (by decide) h)
    · split
      · exact .cons (by decide) fun _ h => nomatch h
      · cases ws with
        | nil => exact fun _ h => nomatch h
        | cons c r =>
          have hr : Codes12 r := fun x hx => h x (.tail _ hx)
          dsimp only
          split
          · exact hr.take _
          · exact .cons (by decide) (.cons (by decide) (.cons (by decide) (.app (hr.take _) (out12 k nm _ (hr.drop _)))))
          · exact .cons (by decide) (.cons (by decide) (.cons (by decide) (.app (out12 k nm _ (hr.take _)) (hr.drop _))))
          · exact .cons (by decide) (.cons (by decide) (.cons (by decide) (.app (out12 k nm _ (hr.take _)) (out12 k nm _ (hr.drop _)))))
noncomputable def splitOk (x : Nat) : Bool := Nat.beq (undigs 1 (eo ((places (x + 3)).drop 0))) (evens 5 x) && Nat.beq (undigs 1 (eo ((places (x + 3)).drop 1))) (evens 5 (x / 2))
theorem split_all : ((List.range 600).all splitOk) = true := by decide +kernel
theorem split_at {x : Nat} (h : x < 600) : undigs 1 (eo ((places (x + 3)).drop 0)) = evens 5 x ∧ undigs 1 (eo ((places (x + 3)).drop 1)) = evens 5 (x / 2) := by
  have := List.all_eq_true.mp split_all x (List.mem_range.mpr h)
  rw [splitOk, Bool.and_eq_true] at this
  exact ⟨Nat.eq_of_beq_eq_true this.1, Nat.eq_of_beq_eq_true this.2⟩
theorem term_map {W : Nat → Str} (hW : Wd W) : ∀ (k x : Nat), okT k x = true → termF k x = (termN k x).map W
  | 0, _, h => nomatch h
  | k + 1, x, h => by
    simp only [okT, Bool.and_eq_true, Bool.or_eq_true, decide_eq_true_eq] at h
    obtain ⟨h6, h⟩ := h
    match x, h6, h with
    | 0, _, _ => simp only [termF, termN, List.map_cons, List.map_nil, hW.w9]; rfl
    | 1, _, _ => simp only [termF, termN, List.map_cons, List.map_nil, hW.w10]; rfl
    | 2, _, _ => simp only [termF, termN, List.map_cons, List.map_nil, hW.w11]; rfl
    | y + 3, h6, h =>
      obtain ⟨h1, h2⟩ := h.resolve_left (by omega)
      obtain ⟨e1, e2⟩ := split_at (x := y) (by omega)
      have i1 := term_map hW k _ h1
      have i2 := term_map hW k _ h2
      rw [termF, if_neg (by omega), i1, i2, e1, e2, termN, List.map_cons, List.map_append, hW.w0]
      rfl
theorem out_map {W : Nat → Str} (hW : Wd W) {nm : Nat} (hn : nm < 12) : ∀ (k : Nat) (ws : List Nat), Codes12 ws → lawOutF k (W nm) (ws.map W) = (outN k nm ws).map W
  | 0, _, _ => rfl
  | k + 1, ws, h => by
    unfold lawOutF
    rw [mem_map hW hn h]
    unfold outN
    cases hm : memN nm ws with
    | false => simp only [Bool.not_false, if_true, List.map_cons, hW.w0, hW.w1]; rfl
    | true =>
      simp only [Bool.not_true, Bool.false_eq_true, if_false]
      cases hi : isN nm ws with
      | true =>
        rw [if_pos ((is_map hW hn h).mpr hi)]
        simp only [List.map_cons, List.map_nil, hW.w2]
      | false =>
        rw [if_neg (fun q => by rw [(is_map hW hn h).mp q] at hi; cases hi)]
        cases ws with
        | nil => cases hm
        | cons c r =>
          have hr : Codes12 r := fun x hx => h x (.tail _ hx)
          have hl := hr.take (endN r)
          have hd := hr.drop (endN r)
          dsimp only
          rw [right_map hW hr, left_map hW hr, mem_map hW hn hl, mem_map hW hn hd, out_map hW hn k _ hl, out_map hW hn k _ hd]
          cases h1 : memN nm (r.take (endN r)) with
          | false =>
            simp only [Bool.not_false, if_true]
            cases h2 : isN nm (r.drop (endN r)) with
            | true => rw [if_pos ((is_map hW hn hd).mpr h2)]
            | false =>
              rw [if_neg (fun q => by rw [(is_map hW hn hd).mp q] at h2; cases h2)]
              simp only [List.map_cons, List.map_append, hW.w0, hW.w4]; rfl
          | true =>
            simp only [Bool.not_true, Bool.false_eq_true, if_false]
            cases h2 : memN nm (r.drop (endN r)) with
            | false =>
              simp only [Bool.not_false, if_true, List.map_cons, List.map_append, hW.w0, hW.w5]; rfl
            | true =>
              simp only [Bool.not_true, Bool.false_eq_true, if_false, List.map_cons, List.map_append, hW.w0, hW.w3]; rfl
-- P3
structure Wd2 (W : Nat → Str) : Prop extends Wd W where
  need : ∀ c, 0 < c → c < 9 → needOf (symOf (W c)) = needN c
  top : ∀ c, c < 9 → symOf (W c) ≤ 260
  short : ∀ c, c < 9 → (W c).length ≤ 100 ∧ NoSp (W c)
noncomputable def Codes9 (ws : List Nat) : Prop := ∀ c ∈ ws, c < 9
theorem Codes9.c12 {ws : List Nat} (h : Codes9 ws) : Codes12 ws := fun c hc => Nat.lt_of_lt_of_le (h c hc) (by decide)
theorem Codes9.app {a b : List Nat} (h : Codes9 a) (k : Codes9 b) : Codes9 (a ++ b) := fun c hc => (List.mem_append.mp hc).elim (h c) (k c)
theorem Codes9.cons {c : Nat} {a : List Nat} (h : c < 9) (k : Codes9 a) : Codes9 (c :: a) := fun d hd => by
  rcases List.mem_cons.mp hd with rfl | hd
  · exact h
  · exact k d hd
noncomputable def mm (W : Nat → Str) (m : MN) : M := ⟨m.row.reverse.map (List.map W), m.out.reverse.map W, m.wait⟩
noncomputable def Ok9 (m : MN) : Prop := (∀ ws ∈ m.row, Codes9 ws) ∧ Codes9 m.out
theorem push_rep : ∀ (k : Nat) (l : List Nat), pushAt k l = List.replicate k 0 ++ l
  | 0, _ => rfl
  | k + 1, l => by rw [pushAt, push_rep k, List.replicate_succ]; rfl
theorem lenLe_iff : ∀ {ws : List Nat} {k : Nat}, lenLe ws k = true → ws.length ≤ k
  | [], _, _ => Nat.zero_le _
  | _ :: r, k + 1, h => Nat.succ_le_succ (lenLe_iff (ws := r) h)
theorem rowsLe_iff : ∀ {rs : List (List Nat)} {k : Nat}, rowsLe rs k = true → rs.length ≤ k ∧ ∀ ws ∈ rs, ws ≠ [] ∧ ws.length ≤ 250
  | [], _, _ => ⟨Nat.zero_le _, fun _ h => nomatch h⟩
  | ws :: r, k + 1, h => by
    rw [rowsLe, Bool.and_eq_true] at h
    obtain ⟨h1, h2⟩ := rowsLe_iff (rs := r) h.2
    refine ⟨Nat.succ_le_succ h1, fun v hv => ?_⟩
    rcases List.mem_cons.mp hv with rfl | hv
    · cases v with
      | nil => exact nomatch h.1
      | cons c t => exact ⟨by simp, lenLe_iff h.1⟩
    · exact h2 v hv
theorem stepN_succ {c wait : Nat} {r out : List Nat} {rs : List (List Nat)} : stepN ⟨((c + 1) :: r) :: rs, out, wait⟩ = (match Nat.blt 0 (needN (c + 1)) && Nat.ble (needN (c + 1)) wait with
      | true => ⟨layN (c + 1) (rs.take (needN (c + 1))) ++ rs.drop (needN (c + 1)), out, wait - needN (c + 1) + ((layN (c + 1) (rs.take (needN (c + 1)))).length - 1)⟩
      | false => ⟨rs, (c + 1) :: pushAt wait out, 0⟩) := rfl
theorem len_three {α : Type} : ∀ {l : List α}, l.length = 3 → ∃ a b c, l = [a, b, c]
  | [a, b, c], _ => ⟨a, b, c, rfl⟩
theorem lay_three {l : List (List Nat)} (hl : l.length = 3) (h9 : ∀ ws ∈ l, Codes9 ws) : ∃ g2 g1 g0, l = [g2, g1, g0] ∧ Codes9 g2 ∧ Codes9 g1 ∧ Codes9 g0 := by
  obtain ⟨a, b, c, rfl⟩ := len_three hl
  exact ⟨a, b, c, rfl, h9 _ (.head _), h9 _ (.tail _ (.head _)), h9 _ (.tail _ (.tail _ (.head _)))⟩
theorem all9_nil : ∀ ws ∈ ([] : List (List Nat)), Codes9 ws := fun _ h => nomatch h
theorem all9_cons {a : List Nat} {l : List (List Nat)} (h : Codes9 a) (k : ∀ ws ∈ l, Codes9 ws) : ∀ ws ∈ a :: l, Codes9 ws := List.forall_mem_cons.mpr ⟨h, k⟩
theorem lay_one {W : Nat → Str} {w : Str} {l : List (List Nat)} (hS : w ≠ (Str.ofString "S")) (hB : w ≠ (Str.ofString "B")) (hC : w ≠ (Str.ofString "C")) : layOf w (l.reverse.map (List.map W)) = (l.take 1).reverse.map (List.map W) := by
  rw [layOf, if_neg hS, if_neg hB, if_neg hC, ← List.map_drop, List.length_map, List.length_reverse]
  cases l with
  | nil => rfl
  | cons a r => rw [List.reverse_cons, List.length_cons, Nat.add_sub_cancel, ← List.length_reverse, List.drop_left]; rfl
section
variable {W : Nat → Str} (hW : Wd2 W)
include hW
theorem ok_map {m : MN} (h : okSt m = true) (h9 : Ok9 m) : OkM (mm W m) := by
  simp only [okSt, Bool.and_eq_true] at h
  obtain ⟨⟨⟨h1, h2⟩, h3⟩, h4⟩ := h
  obtain ⟨r1, r2⟩ := rowsLe_iff h1
  have o1 := lenLe_iff h2
  have w1 := Nat.le_of_ble_eq_true h3
  refine ⟨?_, ?_, ?_, ?_, ?_⟩
  · intro ws hws
    obtain ⟨v, hv, rfl⟩ := List.mem_map.mp hws
    have hv' := List.mem_reverse.mp hv
    obtain ⟨n1, n2⟩ := r2 v hv'
    refine ⟨by simpa using n1, by rw [List.length_map]; omega, ?_⟩
    intro x hx
    obtain ⟨c, hc, rfl⟩ := List.mem_map.mp hx
    exact hW.short c (h9.1 v hv' c hc)
  · show (m.row.reverse.map (List.map W)).length ≤ 300
    rw [List.length_map, List.length_reverse]; omega
  · show (m.out.reverse.map W).length ≤ 600
    rw [List.length_map, List.length_reverse]; omega
  · exact w1
  · show match (m.row.reverse.map (List.map W)).getLast? with | none => True | some ws => symOf (ws.headD (Str.ofString "")) ≤ 260 ∧ (ws.headD (Str.ofString "") ≠ (Str.ofString "@") → needOf (symOf (ws.headD (Str.ofString ""))) ≤ m.wait → needOf (symOf (ws.headD (Str.ofString ""))) ≤ (m.row.reverse.map (List.map W)).dropLast.length)
    cases hr : m.row with
    | nil => exact True.intro
    | cons v rs =>
      rw [List.reverse_cons, List.map_append, List.map_cons, List.map_nil, List.getLast?_concat, List.dropLast_concat]
      have hv := r2 v (by rw [hr]; exact .head _)
      have hc9 := h9.1 v (by rw [hr]; exact .head _)
      cases v with
      | nil => exact absurd rfl hv.1
      | cons c t =>
        have hc := hc9 c (.head _)
        refine ⟨hW.top c hc, fun q1 q2 => ?_⟩
        have c0 : c ≠ 0 := fun e => q1 (by subst e; exact hW.w0)
        have en : needOf (symOf (((c :: t).map W).headD (Str.ofString ""))) = needN c := hW.need c (by omega) hc
        rw [en] at q2 ⊢
        rw [List.length_map, List.length_reverse]
        rw [hr] at h4
        dsimp only at h4
        rw [Nat.ble_eq_true_of_le q2] at h4
        exact Nat.le_of_ble_eq_true h4
theorem lay_map {c : Nat} {l : List (List Nat)} (h0 : 0 < needN c) (hl : l.length = needN c) (h9 : ∀ ws ∈ l, Codes9 ws) : layOf (W c) (l.reverse.map (List.map W)) = (layN c l).reverse.map (List.map W) ∧ ∀ ws ∈ layN c l, Codes9 ws := by
  match c, h0, hl with
  | 1, _, _ =>
    rw [hW.w1]
    exact ⟨lay_one (by decide +kernel) (by decide +kernel) (by decide +kernel), fun ws hw => h9 ws (List.mem_of_mem_take hw)⟩
  | 2, _, _ =>
    rw [hW.w2]
    exact ⟨lay_one (by decide +kernel) (by decide +kernel) (by decide +kernel), fun ws hw => h9 ws (List.mem_of_mem_take hw)⟩
  | 3, _, hl =>
    obtain ⟨g2, g1, g0, rfl, k2, k1, k0⟩ := lay_three hl h9
    refine ⟨?_, all9_cons k2 (all9_cons k0 (all9_cons (.cons (by decide) (.app k1 k0)) all9_nil))⟩
    rw [hW.w3, layOf, if_pos rfl]
    show [[(Str.ofString "@")] ++ g1.map W ++ g0.map W, g0.map W, g2.map W] = [(0 :: (g1 ++ g0)).map W, g0.map W, g2.map W]
    rw [List.map_cons, List.map_append, hW.w0]; rfl
  | 4, _, hl =>
    obtain ⟨g2, g1, g0, rfl, k2, k1, k0⟩ := lay_three hl h9
    refine ⟨?_, all9_cons k2 (all9_cons (.cons (by decide) (.app k1 k0)) all9_nil)⟩
    rw [hW.w4, layOf, if_neg (by decide +kernel), if_pos rfl]
    show [[(Str.ofString "@")] ++ g1.map W ++ g0.map W, g2.map W] = [(0 :: (g1 ++ g0)).map W, g2.map W]
    rw [List.map_cons, List.map_append, hW.w0]; rfl
  | 5, _, hl =>
    obtain ⟨g2, g1, g0, rfl, k2, k1, k0⟩ := lay_three hl h9
    refine ⟨?_, all9_cons k2 (all9_cons k0 (all9_cons k1 all9_nil))⟩
    rw [hW.w5, layOf, if_neg (by decide +kernel), if_neg (by decide +kernel), if_pos rfl]
    rfl
  | 0, h, _ => exact absurd h (Nat.lt_irrefl 0)
  | c + 6, h, _ => exact absurd h (Nat.lt_irrefl 0)
theorem step_map {m : MN} {v : List Nat} {rs : List (List Nat)} (hr : m.row = v :: rs) (h : okSt m = true) (h9 : Ok9 m) : stepM (mm W m) = mm W (stepN m) ∧ Ok9 (stepN m) := by
  have hok := h
  simp only [okSt, Bool.and_eq_true] at h
  obtain ⟨⟨⟨h1, h2⟩, h3⟩, h4⟩ := h
  obtain ⟨r1, r2⟩ := rowsLe_iff h1
  have hv := r2 v (by rw [hr]; exact .head _)
  have hc9 := h9.1 v (by rw [hr]; exact .head _)
  have hrs : ∀ ws ∈ rs, Codes9 ws := fun ws hw => h9.1 ws (by rw [hr]; exact .tail _ hw)
  obtain ⟨row, out, wait⟩ := m
  dsimp only at hr h3 h4 h9 hc9
  subst hr
  have ho := h9.2
  dsimp only at ho
  cases v with
  | nil => exact absurd rfl hv.1
  | cons c r =>
    have hc := hc9 c (.head _)
    have hr9 : Codes9 r := fun x hx => hc9 x (.tail _ hx)
    have hm : (mm W ⟨(c :: r) :: rs, out, wait⟩).row = rs.reverse.map (List.map W) ++ [(c :: r).map W] := by
      show (((c :: r) :: rs).reverse).map (List.map W) = _
      rw [List.reverse_cons, List.map_append]; rfl
    have hHd : Hole (((c :: r).map W).headD (Str.ofString "") = W c) := rfl
    cases c with
    | zero =>
      rw [stepM_at hm (by rw [← hW.w0]; exact hHd)]
      unfold cutOf
      rw [right_map hW.toWd hr9.c12, left_map hW.toWd hr9.c12]
      refine ⟨?_, ?_, ho⟩
      · show (⟨_, _, _⟩ : M) = ⟨(r.take (endN r) :: r.drop (endN r) :: rs).reverse.map (List.map W), _, _⟩
        rw [List.reverse_cons, List.reverse_cons, List.append_assoc, List.map_append]
        rfl
      · intro ws hw
        rcases List.mem_cons.mp hw with rfl | hw
        · exact fun c hc => hr9 c (List.mem_of_mem_take hc)
        · rcases List.mem_cons.mp hw with rfl | hw
          · exact fun c hc => hr9 c (List.mem_of_mem_drop hc)
          · exact hrs ws hw
    | succ c =>
      have en : needOf (symOf (W (c + 1))) = needN (c + 1) := hW.need (c + 1) (by omega) hc
      have h0 : W (c + 1) ≠ (Str.ofString "@") := fun e => absurd ((hW.toWd.at_iff (by omega)).mp e) (by omega)
      cases hcond : (Nat.blt 0 (needN (c + 1)) && Nat.ble (needN (c + 1)) wait) with
      | false =>
        have hst : stepN ⟨((c + 1) :: r) :: rs, out, wait⟩ = ⟨rs, (c + 1) :: pushAt wait out, 0⟩ := by
          rw [stepN_succ, hcond]
        rw [stepM_out hm hHd h0 (by
          rintro ⟨q1, q2⟩
          rw [en] at q1 q2
          have e1 : Nat.blt 0 (needN (c + 1)) = true := Nat.ble_eq_true_of_le q1
          have e2 : Nat.ble (needN (c + 1)) wait = true := Nat.ble_eq_true_of_le q2
          rw [e1, e2] at hcond
          cases hcond), hst]
        refine ⟨?_, hrs, ?_⟩
        · show (⟨_, _, _⟩ : M) = ⟨_, ((c + 1) :: pushAt wait out).reverse.map W, _⟩
          rw [push_rep, List.reverse_cons, List.reverse_append, List.reverse_replicate, List.map_append, List.map_append, List.map_replicate, hW.w0, List.append_assoc]
          rfl
        · rw [push_rep]
          refine .cons hc (.app (fun d hd => ?_) ho)
          rw [(List.mem_replicate.mp hd).2]; decide
      | true =>
        rw [Bool.and_eq_true] at hcond
        have q1 : 0 < needN (c + 1) := Nat.le_of_ble_eq_true hcond.1
        have q2 : needN (c + 1) ≤ wait := Nat.le_of_ble_eq_true hcond.2
        have hlen : needN (c + 1) ≤ rs.length := by
          dsimp only at h4
          rw [Nat.ble_eq_true_of_le q2] at h4
          exact Nat.le_of_ble_eq_true h4
        have hst : stepN ⟨((c + 1) :: r) :: rs, out, wait⟩ = ⟨layN (c + 1) (rs.take (needN (c + 1))) ++ rs.drop (needN (c + 1)), out, wait - needN (c + 1) + ((layN (c + 1) (rs.take (needN (c + 1)))).length - 1)⟩ := by rw [stepN_succ, Bool.and_eq_true_iff.mpr hcond]
        obtain ⟨k1, k2⟩ := lay_map hW (c := c + 1) (l := rs.take (needN (c + 1))) q1 (by rw [List.length_take, Nat.min_eq_left hlen]) (fun ws hw => hrs ws (List.mem_of_mem_take hw))
        have k3 := congrArg List.length k1
        rw [List.length_map, List.length_reverse] at k3
        rw [stepM_eat hm hHd h0 en q1 q2 (rm := (rs.drop (needN (c + 1))).reverse.map (List.map W)) (got := (rs.take (needN (c + 1))).reverse.map (List.map W)) (by rw [← List.map_append, ← List.reverse_append, List.take_append_drop]) (by rw [List.length_map, List.length_reverse, List.length_take, Nat.min_eq_left hlen]), hst, k3, k1]
        refine ⟨?_, fun ws hw => (List.mem_append.mp hw).elim (k2 ws) fun h => hrs ws (List.mem_of_mem_drop h), ho⟩
        show (⟨_, _, _⟩ : M) = ⟨(layN (c + 1) (rs.take (needN (c + 1))) ++ rs.drop (needN (c + 1))).reverse.map (List.map W), _, _⟩
        rw [List.reverse_append, List.map_append]
        rfl
theorem itM_succ (m : M) : ∀ i, itM m (i + 1) = itM (stepM m) i
  | 0 => rfl
  | i + 1 => by
    show stepM (itM m (i + 1)) = stepM (itM (stepM m) i)
    rw [itM_succ m i]
theorem run_map : ∀ (k : Nat) (m mf : MN), runN k m = some mf → Ok9 m → mf.row = [] ∧ Ok9 mf ∧ (∃ j, j ≤ k ∧ itM (mm W m) j = mm W mf) ∧ ∀ i, OkM (itM (mm W m) i)
  | 0, _, _, h, _ => nomatch h
  | k + 1, m, mf, h, h9 => by
    unfold runN at h
    cases hok : okSt m with
    | false => rw [hok] at h; cases h
    | true =>
      rw [hok] at h
      dsimp only at h
      cases hr : m.row with
      | nil =>
        rw [hr] at h
        cases h
        have hs : ∀ i, itM (mm W m) i = mm W m := fun i => by
          have := itM_stop (m := mm W m) (i := 0) (by show (m.row.reverse.map (List.map W)) = []; rw [hr]; rfl) i
          rwa [Nat.zero_add] at this
        exact ⟨hr, h9, ⟨0, Nat.zero_le _, rfl⟩, fun i => by rw [hs i]; exact ok_map hW hok h9⟩
      | cons v rs =>
        rw [hr] at h
        obtain ⟨e1, e2⟩ := step_map hW hr hok h9
        obtain ⟨f1, f2, ⟨j, f3, f4⟩, f5⟩ := run_map k _ _ h e2
        refine ⟨f1, f2, ⟨j + 1, Nat.succ_le_succ f3, by rw [itM_succ hW, e1]; exact f4⟩, fun i => ?_⟩
        cases i with
        | zero => exact ok_map hW hok h9
        | succ i => rw [itM_succ hW, e1]; exact f5 i
end
-- P4
theorem il_eq : ∀ k e o, ilN k e o = il k e o
  | 0, _, _ => rfl
  | k + 1, e, o => by rw [ilN, il, il_eq k]
theorem numF_at {names : List Str} {k : Nat} {ws : List Str} (h : ws.head? = some (Str.ofString "@")) : numF names (k + 1) ws = 3 + il 10 (numF names k ((ws.take (1 + lawEnd (ws.drop (Int.toNat 1))).toNat).drop (Int.toNat 1))) (numF names k (ws.drop (1 + lawEnd (ws.drop (Int.toNat 1))).toNat)) := by
  rw [numF.eq_def]; exact if_pos h
theorem numF_one {names : List Str} {k : Nat} {x : Str} {r : List Str} (h : x ≠ (Str.ofString "@")) : numF names (k + 1) (x :: r) = names.idxOf x := by
  rw [numF.eq_def]; exact if_neg (by simpa using h)
theorem okN_at {names : List Str} {k : Nat} {x : Str} {r : List Str} (h : x = (Str.ofString "@")) : okN names (k + 1) (x :: r) = (okN names k (((x :: r).take (1 + lawEnd ((x :: r).drop (Int.toNat 1))).toNat).drop (Int.toNat 1)) && okN names k ((x :: r).drop (1 + lawEnd ((x :: r).drop (Int.toNat 1))).toNat) &&
    decide (numF names k (((x :: r).take (1 + lawEnd ((x :: r).drop (Int.toNat 1))).toNat).drop (Int.toNat 1)) < 1024) && decide (numF names k ((x :: r).drop (1 + lawEnd ((x :: r).drop (Int.toNat 1))).toNat) < 1024)) := by
  rw [okN.eq_def]; exact if_pos h
theorem okN_one {names : List Str} {k : Nat} {x : Str} {r : List Str} (h : x ≠ (Str.ofString "@")) : okN names (k + 1) (x :: r) = names.contains x := by
  rw [okN.eq_def]; exact if_neg h
section
variable {W : Nat → Str} (hW : Wd W)
include hW
theorem idx_map {c : Nat} (h : 6 ≤ c) (k : c ≤ 8) : [W 6, W 7, W 8].idxOf (W c) = c - 6 := by
  have h67 : (W 6 == W 7) = false := hW.beq (by decide) (by decide)
  have h68 : (W 6 == W 8) = false := hW.beq (by decide) (by decide)
  have h78 : (W 7 == W 8) = false := hW.beq (by decide) (by decide)
  have : c = 6 ∨ c = 7 ∨ c = 8 := by omega
  rcases this with rfl | rfl | rfl
  · simp
  · simp [List.idxOf_cons, h67]
  · simp [List.idxOf_cons, h68, h78]
theorem num_map : ∀ (k : Nat) (ws : List Nat), Codes12 ws → okNumN k ws = true → numF [W 6, W 7, W 8] k (ws.map W) = numN k ws ∧ okN [W 6, W 7, W 8] k (ws.map W) = true
  | 0, _, _, h => nomatch h
  | k + 1, [], _, h => nomatch h
  | k + 1, 0 :: r, h, ok => by
    have hr : Codes12 r := fun x hx => h x (.tail _ hx)
    simp only [okNumN, Bool.and_eq_true] at ok
    obtain ⟨⟨⟨o1, o2⟩, o3⟩, o4⟩ := ok
    obtain ⟨a1, a2⟩ := num_map k _ (hr.take _) o1
    obtain ⟨b1, b2⟩ := num_map k _ (hr.drop _) o2
    have hl := left_map hW (c := 0) hr
    have hd := right_map hW (c := 0) hr
    constructor
    · rw [numF_at (by rw [List.map_cons, hW.w0]; rfl), hl, hd, a1, b1, numN, il_eq]
    · rw [List.map_cons] at hl hd ⊢
      rw [okN_at hW.w0, hl, hd, a1, a2, b1, b2]
      simp only [Bool.true_and, Bool.and_eq_true, decide_eq_true_eq]
      exact ⟨Nat.le_of_ble_eq_true o3, Nat.le_of_ble_eq_true o4⟩
  | k + 1, (c + 1) :: r, h, ok => by
    simp only [okNumN, Bool.and_eq_true] at ok
    have h5 := Nat.le_of_ble_eq_true ok.1
    have h7 := Nat.le_of_ble_eq_true ok.2
    have h0 : W (c + 1) ≠ (Str.ofString "@") := fun e => absurd ((hW.at_iff (h _ (.head _))).mp e) (by omega)
    have hi := idx_map hW (c := c + 1) (by omega) (by omega)
    constructor
    · rw [List.map_cons, numF_one h0, hi, numN]
      omega
    · rw [List.map_cons, okN_one h0, List.contains_iff_mem]
      have : c + 1 = 6 ∨ c + 1 = 7 ∨ c + 1 = 8 := by omega
      rcases this with e | e | e <;> rw [e] <;> simp
end
theorem ndigs_undigs (n : Nat) : ∀ ds : List Nat, (∀ d ∈ ds, d < 2 ^ n) → ndigs n ds.length (undigs n ds) = ds
  | [], _ => rfl
  | d :: r, h => by
    have hd := h d (.head _)
    have hp : 0 < 2 ^ n := Nat.two_pow_pos n
    have e1 : (d + 2 ^ n * undigs n r) % 2 ^ n = d := by rw [Nat.add_mul_mod_self_left, Nat.mod_eq_of_lt hd]
    have e2 : (d + 2 ^ n * undigs n r) / 2 ^ n = undigs n r := by rw [Nat.add_mul_div_left _ _ hp, Nat.div_eq_of_lt hd, Nat.zero_add]
    rw [List.length_cons, ndigs, undigs, e1, e2, ndigs_undigs n r fun x hx => h x (.tail _ hx)]
theorem undigs_lt' (n : Nat) : ∀ ds : List Nat, (∀ d ∈ ds, d < 2 ^ n) → undigs n ds < 2 ^ (ds.length * n)
  | [], _ => by simp [undigs]
  | d :: r, h => by
    have hd := h d (.head _)
    have ih := undigs_lt' n r fun x hx => h x (.tail _ hx)
    rw [undigs, List.length_cons, Nat.add_mul, Nat.one_mul, Nat.pow_add, Nat.mul_comm (2 ^ (r.length * n))]
    have : 2 ^ n * (undigs n r + 1) ≤ 2 ^ n * 2 ^ (r.length * n) := Nat.mul_le_mul_left _ ih
    rw [Nat.mul_add, Nat.mul_one] at this
    omega
theorem nDigs_undigs {ds : List Nat} {x : Nat} (h : ∀ d ∈ ds ++ [x], d < 2 ^ 9) (hx : x ≠ 0) : nDigs 9 (undigs 9 (ds ++ [x])) = (ds ++ [x]).length := by
  have h1 := undigs_lt' 9 _ h
  have h2 : 2 ^ (ds.length * 9) ≤ undigs 9 (ds ++ [x]) := by
    rw [undigs_append]
    have e : undigs 9 [x] = x := by simp [undigs]
    rw [e]
    have : 2 ^ (ds.length * 9) * 1 ≤ 2 ^ (ds.length * 9) * x := Nat.mul_le_mul_left _ (Nat.pos_of_ne_zero hx)
    omega
  have b1 : Builtin.Int.intBits ((undigs 9 (ds ++ [x]) : Nat) : Int) ≤ (ds ++ [x]).length * 9 := intBits_le_iff.mpr (by rw [Int.natAbs_natCast]; exact h1)
  have b2 : ¬ Builtin.Int.intBits ((undigs 9 (ds ++ [x]) : Nat) : Int) ≤ ds.length * 9 := fun q => by
    have := intBits_le_iff.mp q
    rw [Int.natAbs_natCast] at this
    omega
  have hl : (ds ++ [x]).length = ds.length + 1 := by simp
  unfold nDigs
  rw [hl] at b1 ⊢
  omega
theorem round {ds : List Nat} {x : Nat} (h : ∀ d ∈ ds ++ [x], d < 2 ^ 9) (hx : x ≠ 0) : ndigs 9 (nDigs 9 (undigs 9 (ds ++ [x]))) (undigs 9 (ds ++ [x])) = ds ++ [x] := by
  rw [nDigs_undigs h hx, ndigs_undigs 9 _ h]
/-- a word that its symbol tells -/
noncomputable def Told (w : Str) : Prop := symOf w ≠ 0 ∧ wordOf signs (symOf w) = w
theorem wGo_words : ∀ (l : List Str) (rest : List Int) (o : Bool) (a w : List Str), (∀ x ∈ l, Told x) → wGo signs (l.map symOf ++ rest) o a w = wGo signs rest o (if o = true then a ++ List.replicate l.length (Str.ofString "@") else a) (w ++ l)
  | [], rest, o, a, w, _ => by simp
  | x :: r, rest, o, a, w, h => by
    obtain ⟨h1, h2⟩ := h x (.head _)
    rw [List.map_cons, List.cons_append, wGo, if_neg h1, h2, wGo_words r rest o _ _ fun y hy => h y (.tail _ hy)]
    cases o
    · simp
    · simp only [if_true, List.length_cons, List.append_assoc, List.cons_append, List.nil_append, List.replicate_succ]
theorem words_back {P N : List Str} (hP : ∀ x ∈ P, Told x) (hN : ∀ x ∈ N, Told x) : wGo signs (P.map symOf ++ [0] ++ N.map symOf) false [] [] = List.replicate N.length (Str.ofString "@") ++ (P ++ N) := by
  rw [List.append_assoc, wGo_words P _ _ _ _ hP]
  show wGo signs (0 :: N.map symOf) false [] ([] ++ P) = _
  rw [wGo, if_pos rfl]
  have := wGo_words N [] true [] ([] ++ P) hN
  rw [List.append_nil] at this
  rw [this]
  simp [wGo]
-- P5
theorem check_of : ∀ {k s n : Nat}, checkFrom k s = true → s ≤ n → n < s + k → checkN n = true
  | 0, _, _, _, h1, h2 => absurd h2 (by omega)
  | k + 1, s, n, h, h1, h2 => by
    rw [checkFrom, Bool.and_eq_true] at h
    by_cases e : n = s
    · rw [e]; exact h.1
    · exact check_of h.2 (by omega) (by omega)
theorem chk0 : checkFrom 20 0 = true := by decide +kernel
theorem chk1 : checkFrom 20 20 = true := by decide +kernel
theorem chk2 : checkFrom 20 40 = true := by decide +kernel
theorem chk3 : checkFrom 20 60 = true := by decide +kernel
theorem chk4 : checkFrom 20 80 = true := by decide +kernel
theorem chk5 : checkFrom 20 100 = true := by decide +kernel
theorem chk6 : checkFrom 20 120 = true := by decide +kernel
theorem chk7 : checkFrom 20 140 = true := by decide +kernel
theorem chk8 : checkFrom 20 160 = true := by decide +kernel
theorem chk9 : checkFrom 20 180 = true := by decide +kernel
theorem chk10 : checkFrom 20 200 = true := by decide +kernel
theorem chk11 : checkFrom 20 220 = true := by decide +kernel
theorem chk12 : checkFrom 20 240 = true := by decide +kernel
theorem chk13 : checkFrom 20 260 = true := by decide +kernel
theorem chk14 : checkFrom 20 280 = true := by decide +kernel
theorem chk15 : checkFrom 20 300 = true := by decide +kernel
theorem chk16 : checkFrom 20 320 = true := by decide +kernel
theorem chk17 : checkFrom 20 340 = true := by decide +kernel
theorem chk18 : checkFrom 20 360 = true := by decide +kernel
theorem chk19 : checkFrom 20 380 = true := by decide +kernel
theorem chk20 : checkFrom 20 400 = true := by decide +kernel
theorem chk21 : checkFrom 20 420 = true := by decide +kernel
theorem chk22 : checkFrom 20 440 = true := by decide +kernel
theorem chk23 : checkFrom 20 460 = true := by decide +kernel
theorem chk24 : checkFrom 20 480 = true := by decide +kernel
theorem upto {a : Nat} (h : ∀ n, n < a → checkN n = true) (c : checkFrom 20 a = true) : ∀ n, n < a + 20 → checkN n = true := fun n hn => (Nat.lt_or_ge n a).elim (h n) fun e => check_of c e hn
theorem check_all {n : Nat} (h : n < 500) : checkN n = true :=
  upto (upto (upto (upto (upto (upto (upto (upto (upto (upto (upto (upto (upto (upto (upto (upto (upto (upto (upto (upto (upto (upto (upto (upto (upto (fun n h => absurd h (Nat.not_lt_zero n) : ∀ n, n < 0 → checkN n = true) chk0) chk1) chk2) chk3) chk4) chk5) chk6) chk7) chk8) chk9) chk10) chk11) chk12) chk13) chk14) chk15) chk16) chk17) chk18) chk19) chk20) chk21) chk22) chk23) chk24 n h
/-- the words that the codes stand for -/
noncomputable def wd (x y z : Str) : Nat → Str
  | 0 => (Str.ofString "@")
  | 1 => (Str.ofString "K")
  | 2 => (Str.ofString "I")
  | 3 => (Str.ofString "S")
  | 4 => (Str.ofString "B")
  | 5 => (Str.ofString "C")
  | 6 => x
  | 7 => y
  | 8 => z
  | 9 => (Str.ofString "a")
  | 10 => (Str.ofString "b")
  | _ => (Str.ofString "c")
noncomputable def fixed : List Str := [(Str.ofString "@"), (Str.ofString "K"), (Str.ofString "I"), (Str.ofString "S"), (Str.ofString "B"), (Str.ofString "C"), (Str.ofString "a"), (Str.ofString "b"), (Str.ofString "c")]
/-- what is asked of an operator -/
noncomputable def opOk (w : Str) : Bool := !fixed.contains w && needOf (symOf w) == 0
noncomputable def wordOk (w : Str) : Bool := symOf w != 0 && wordOf signs (symOf w) == w && decide (0 ≤ symOf w) && decide (symOf w ≤ 260) && decide (w.length ≤ 100) && !w.cps.toList.contains 32 && PyData.strOk w && (decide (7 ≤ symOf w ∧ symOf w < 7 + 48) || decide (256 ≤ symOf w))
theorem ops_ok : (signs.all fun w => w == (Str.ofString "@") || opOk w) = true := by decide +kernel
theorem words_ok : ((signs ++ [(Str.ofString "K"), (Str.ofString "I"), (Str.ofString "S"), (Str.ofString "B"), (Str.ofString "C")]).all wordOk) = true := by decide +kernel
theorem letters_ok : (([(Str.ofString "a"), (Str.ofString "b"), (Str.ofString "c")] : List Str).all fun w => PyData.strOk w) = true := by decide +kernel
theorem signs_len : signs.length = 48 := by decide +kernel
theorem at_sign : (Str.ofString "@") ∈ signs := by decide +kernel
noncomputable def Op (w : Str) : Prop := w ∈ signs ∧ w ≠ (Str.ofString "@")
theorem Op.ok {w : Str} (h : Op w) : opOk w = true := by
  have := List.all_eq_true.mp ops_ok w h.1
  simpa [h.2] using this
theorem Op.ne {w f : Str} (h : Op w) (hf : f ∈ fixed) : w ≠ f := fun e => by
  have := h.ok
  simp only [opOk, Bool.and_eq_true, Bool.not_eq_true'] at this
  rw [e] at this
  have h2 := List.contains_iff_mem.mpr hf
  rw [this.1] at h2
  cases h2
theorem Op.need {w : Str} (h : Op w) : needOf (symOf w) = 0 := by
  have := h.ok
  simp only [opOk, Bool.and_eq_true, beq_iff_eq] at this
  exact this.2
theorem word_at {w : Str} (h : w ∈ signs ++ [(Str.ofString "K"), (Str.ofString "I"), (Str.ofString "S"), (Str.ofString "B"), (Str.ofString "C")]) : wordOk w = true := List.all_eq_true.mp words_ok w h
structure WordOk (w : Str) : Prop where
  told : Told w
  ge : 0 ≤ symOf w
  le : symOf w ≤ 260
  len : w.length ≤ 100
  nosp : NoSp w
  str : PyData.strOk w = true
  sym : symOkN signs.length (symOf w)
theorem WordOk.of {w : Str} (h : w ∈ signs ++ [(Str.ofString "K"), (Str.ofString "I"), (Str.ofString "S"), (Str.ofString "B"), (Str.ofString "C")]) : WordOk w := by
  have := word_at h
  simp only [wordOk, Bool.and_eq_true, bne_iff_ne, ne_eq, beq_iff_eq, decide_eq_true_eq, Bool.not_eq_true', Bool.or_eq_true] at this
  obtain ⟨⟨⟨⟨⟨⟨⟨h1, h2⟩, h3⟩, h4⟩, h5⟩, h6⟩, h7⟩, h8⟩ := this
  refine ⟨⟨h1, h2⟩, h3, h4, h5, ?_, h7, ?_⟩
  · intro hm
    have := List.contains_iff_mem.mpr hm
    rw [h6] at this
    cases this
  · rcases h8 with h8 | h8
    · exact .inr (.inl ⟨h8.1, by rw [signs_len]; exact h8.2⟩)
    · exact .inr (.inr ⟨h8, h4⟩)
section
variable {x y z : Str} (hx : Op x) (hy : Op y) (hz : Op z) (hxy : x ≠ y) (hxz : x ≠ z) (hyz : y ≠ z)
include hx hy hz
theorem code_word : ∀ {c : Nat}, c < 9 → wd x y z c ∈ signs ++ [(Str.ofString "K"), (Str.ofString "I"), (Str.ofString "S"), (Str.ofString "B"), (Str.ofString "C")]
  | 0, _ => List.mem_append_left _ at_sign
  | 1, _ => List.mem_append_right _ (.head _)
  | 2, _ => List.mem_append_right _ (.tail _ (.head _))
  | 3, _ => List.mem_append_right _ (.tail _ (.tail _ (.head _)))
  | 4, _ => List.mem_append_right _ (.tail _ (.tail _ (.tail _ (.head _))))
  | 5, _ => List.mem_append_right _ (.tail _ (.tail _ (.tail _ (.tail _ (.head _)))))
  | 6, _ => List.mem_append_left _ hx.1
  | 7, _ => List.mem_append_left _ hy.1
  | 8, _ => List.mem_append_left _ hz.1
  | c + 9, h => absurd h (Nat.not_lt.mpr (Nat.le_add_left 9 c))
noncomputable def inv (x y z w : Str) : Nat := if w = x then 6 else if w = y then 7 else if w = z then 8 else [(Str.ofString "@"), (Str.ofString "K"), (Str.ofString "I"), (Str.ofString "S"), (Str.ofString "B"), (Str.ofString "C"), (Str.ofString ""), (Str.ofString ""), (Str.ofString ""), (Str.ofString "a"), (Str.ofString "b"), (Str.ofString "c")].idxOf w
theorem inv_fix {w : Str} (hf : w ∈ fixed) : inv x y z w = [(Str.ofString "@"), (Str.ofString "K"), (Str.ofString "I"), (Str.ofString "S"), (Str.ofString "B"), (Str.ofString "C"), (Str.ofString ""), (Str.ofString ""), (Str.ofString ""), (Str.ofString "a"), (Str.ofString "b"), (Str.ofString "c")].idxOf w := by
  rw [inv, if_neg fun e => hx.ne hf e.symm, if_neg fun e => hy.ne hf e.symm, if_neg fun e => hz.ne hf e.symm]
include hxy hxz hyz
theorem wd_inv : ∀ {c : Nat}, c < 12 → inv x y z (wd x y z c) = c
  | 0, _ => (inv_fix (w := (Str.ofString "@")) hx hy hz (by decide +kernel)).trans (by decide +kernel)
  | 1, _ => (inv_fix (w := (Str.ofString "K")) hx hy hz (by decide +kernel)).trans (by decide +kernel)
  | 2, _ => (inv_fix (w := (Str.ofString "I")) hx hy hz (by decide +kernel)).trans (by decide +kernel)
  | 3, _ => (inv_fix (w := (Str.ofString "S")) hx hy hz (by decide +kernel)).trans (by decide +kernel)
  | 4, _ => (inv_fix (w := (Str.ofString "B")) hx hy hz (by decide +kernel)).trans (by decide +kernel)
  | 5, _ => (inv_fix (w := (Str.ofString "C")) hx hy hz (by decide +kernel)).trans (by decide +kernel)
  | 6, _ => if_pos rfl
  | 7, _ => (if_neg hxy.symm).trans (if_pos rfl)
  | 8, _ => (if_neg hxz.symm).trans ((if_neg hyz.symm).trans (if_pos rfl))
  | 9, _ => (inv_fix (w := (Str.ofString "a")) hx hy hz (by decide +kernel)).trans (by decide +kernel)
  | 10, _ => (inv_fix (w := (Str.ofString "b")) hx hy hz (by decide +kernel)).trans (by decide +kernel)
  | 11, _ => (inv_fix (w := (Str.ofString "c")) hx hy hz (by decide +kernel)).trans (by decide +kernel)
  | c + 12, h => absurd h (Nat.not_lt.mpr (Nat.le_add_left 12 c))
omit hxy hxz hyz in
theorem wd_need : ∀ {c : Nat}, 0 < c → c < 9 → needOf (symOf (wd x y z c)) = needN c
  | 0, h, _ => absurd h (Nat.lt_irrefl 0)
  | 1, _, _ => (by decide +kernel : needOf (symOf (Str.ofString "K")) = 2)
  | 2, _, _ => (by decide +kernel : needOf (symOf (Str.ofString "I")) = 1)
  | 3, _, _ => (by decide +kernel : needOf (symOf (Str.ofString "S")) = 3)
  | 4, _, _ => (by decide +kernel : needOf (symOf (Str.ofString "B")) = 3)
  | 5, _, _ => (by decide +kernel : needOf (symOf (Str.ofString "C")) = 3)
  | 6, _, _ => hx.need
  | 7, _, _ => hy.need
  | 8, _, _ => hz.need
  | c + 9, _, h => absurd h (Nat.not_lt.mpr (Nat.le_add_left 9 c))
theorem wd_ok : Wd2 (wd x y z) where
  inj := fun c d hc hd h => (wd_inv hx hy hz hxy hxz hyz hc).symm.trans ((congrArg (inv x y z) h).trans (wd_inv hx hy hz hxy hxz hyz hd))
  w0 := rfl
  w1 := rfl
  w2 := rfl
  w3 := rfl
  w4 := rfl
  w5 := rfl
  w9 := rfl
  w10 := rfl
  w11 := rfl
  need := fun _ h0 h => wd_need hx hy hz h0 h
  top := fun c h => (WordOk.of (code_word hx hy hz h)).le
  short := fun c h => ⟨(WordOk.of (code_word hx hy hz h)).len, (WordOk.of (code_word hx hy hz h)).nosp⟩
end
noncomputable def symN (w : Str) : Nat := (symOf w).toNat
noncomputable def prog3 (n : Nat) : List Str := lawOutF 60 (Str.ofString "c") (termF 8 n)
noncomputable def prog2 (n : Nat) : List Str := lawOutF 60 (Str.ofString "b") (prog3 n)
noncomputable def prog1 (n : Nat) : List Str := lawOutF 60 (Str.ofString "a") (prog2 n)
noncomputable def syms (n : Nat) (x y z : Str) : List Nat := (prog1 n).map symN ++ [0] ++ [symN x, symN y, symN z]
noncomputable def start (n : Nat) (x y z : Str) : List Str := List.replicate 3 (Str.ofString "@") ++ (prog1 n ++ [x, y, z])
noncomputable def m0 (n : Nat) (x y z : Str) : M := ⟨[start n x y z], [], 0⟩
noncomputable def told (n : Nat) (x y z : Str) : List Str := (itM (m0 n x y z) 400).out
structure PlainLaw (n : Nat) (x y z : Str) : Prop where
  ok : okT 8 n = true
  l0 : (termF 8 n).length < 60
  l1 : (prog3 n).length < 60
  l2 : (prog2 n).length < 60
  l3 : (prog1 n).length ≤ 60
  o0 : Oks (termF 8 n)
  o1 : Oks (prog3 n)
  o2 : Oks (prog2 n)
  s1 : ∀ d ∈ syms n x y z, d < 2 ^ 9
  s2 : (prog1 n).map symOf ++ [0] ++ [symOf x, symOf y, symOf z] = (syms n x y z).map Nat.cast
  s3 : ndigs 9 (nDigs 9 (undigs 9 (syms n x y z))) (undigs 9 (syms n x y z)) = syms n x y z
  s4 : undigs 9 (syms n x y z) < 2 ^ 700
  s5 : nDigs 9 (undigs 9 (syms n x y z)) ≤ 80
  s6 : (syms n x y z).length ≤ 80
  s7 : ∀ v ∈ (syms n x y z).map (Nat.cast : Nat → Int), symOkN signs.length v
  w1 : wGo signs ((syms n x y z).map Nat.cast) false [] [] = start n x y z
  r1 : Short (start n x y z)
  r2 : ∀ i, i ≤ 400 → OkM (itM (m0 n x y z) i)
  r3 : (itM (m0 n x y z) 400).row = []
  r4 : ∀ w ∈ told n x y z, w.length ≤ 100 ∧ NoSp w
  e0 : (told n x y z).length ≤ 600
  e1 : ∀ w ∈ told n x y z, w = (Str.ofString "@") ∨ w ∈ [x, y, z]
  e2 : lawEnd (told n x y z) = ((told n x y z).length : Nat)
  e3 : numF [x, y, z] 20 (told n x y z) = n
  e4 : okN [x, y, z] 20 (told n x y z) = true
theorem lowN_iff : ∀ {ws : List Nat}, lowN ws = true → ∀ c ∈ ws, c ≤ 5
  | [], _, _, h => nomatch h
  | a :: r, h, c, hc => by
    rw [lowN, Bool.and_eq_true] at h
    rcases List.mem_cons.mp hc with rfl | hc
    · exact Nat.le_of_ble_eq_true h.1
    · exact lowN_iff h.2 c hc
theorem toldN_iff : ∀ {ws : List Nat}, toldN ws = true → ∀ c ∈ ws, c = 0 ∨ (6 ≤ c ∧ c ≤ 8)
  | [], _, _, h => nomatch h
  | a :: r, h, c, hc => by
    rw [toldN, Bool.and_eq_true, Bool.or_eq_true, Bool.and_eq_true] at h
    rcases List.mem_cons.mp hc with rfl | hc
    · rcases h.1 with h1 | h1
      · exact .inl (Nat.eq_of_beq_eq_true h1)
      · exact .inr ⟨Nat.le_of_ble_eq_true h1.1, Nat.le_of_ble_eq_true h1.2⟩
    · exact toldN_iff h.2 c hc
theorem oks_map {W : Nat → Str} {ws : List Nat} (h : ∀ c ∈ ws, PyData.strOk (W c) = true) : Oks (ws.map W) := fun x hx => by
  obtain ⟨c, hc, rfl⟩ := List.mem_map.mp hx
  exact h c hc
theorem symN_cast {w : Str} (h : WordOk w) : ((symN w : Nat) : Int) = symOf w := Int.toNat_of_nonneg h.ge
theorem plain {n : Nat} {x y z : Str} (hn : n < 500) (hx : Op x) (hy : Op y) (hz : Op z) (hxy : x ≠ y) (hxz : x ≠ z) (hyz : y ≠ z) : PlainLaw n x y z := by
  have hW := wd_ok hx hy hz hxy hxz hyz
  have hok : okT 8 n = true := List.all_eq_true.mp okT_all n (List.mem_range.mpr hn)
  have ht := term_map hW.toWd 8 n hok
  have h3 : prog3 n = (outN 60 11 (termN 8 n)).map (wd x y z) := by
    rw [prog3, ht]; exact out_map hW.toWd (nm := 11) (by decide) 60 _ (term12 _ _)
  have h2 : prog2 n = (outN 60 10 (outN 60 11 (termN 8 n))).map (wd x y z) := by
    rw [prog2, h3]; exact out_map hW.toWd (nm := 10) (by decide) 60 _ (out12 _ _ _ (term12 _ _))
  have h1 : prog1 n = (progN n).map (wd x y z) := by
    rw [prog1, h2]; exact out_map hW.toWd (nm := 9) (by decide) 60 _ (out12 _ _ _ (out12 _ _ _ (term12 _ _)))
  have hc := check_all hn
  simp only [checkN, Bool.and_eq_true] at hc
  obtain ⟨⟨⟨⟨⟨c1, c2⟩, c3⟩, c4⟩, c5⟩, c6⟩ := hc
  have hlow := lowN_iff c5
  have str12 : ∀ c, c < 12 → PyData.strOk (wd x y z c) = true := fun c hc => by
    by_cases h9 : c < 9
    · exact (WordOk.of (code_word hx hy hz h9)).str
    · have : c = 9 ∨ c = 10 ∨ c = 11 := by omega
      have hl := List.all_eq_true.mp letters_ok
      rcases this with rfl | rfl | rfl
      · exact hl (Str.ofString "a") (.head _)
      · exact hl (Str.ofString "b") (.tail _ (.head _))
      · exact hl (Str.ofString "c") (.tail _ (.tail _ (.head _)))
  have wP : ∀ w ∈ prog1 n, WordOk w := fun w hw => by
    rw [h1] at hw
    obtain ⟨c, hc, rfl⟩ := List.mem_map.mp hw
    exact WordOk.of (code_word hx hy hz (Nat.lt_of_le_of_lt (hlow c hc) (by decide)))
  have wN : ∀ w ∈ [x, y, z], WordOk w := fun w hw => by
    refine WordOk.of (List.mem_append_left _ ?_)
    rcases List.mem_cons.mp hw with rfl | hw
    · exact hx.1
    · rcases List.mem_cons.mp hw with rfl | hw
      · exact hy.1
      · rcases List.mem_cons.mp hw with rfl | hw
        · exact hz.1
        · cases hw
  have wx := wN x (.head _)
  have wy := wN y (.tail _ (.head _))
  have wz := wN z (.tail _ (.tail _ (.head _)))
  have lP : (prog1 n).length ≤ 60 := by rw [h1, List.length_map]; exact lenLe_iff c4
  have hs2 : (prog1 n).map symOf ++ [0] ++ [symOf x, symOf y, symOf z] = (syms n x y z).map Nat.cast := by
    unfold syms
    rw [List.map_append, List.map_append, List.map_map]
    simp only [List.map_cons, List.map_nil, symN_cast wx, symN_cast wy, symN_cast wz]
    congr 2
    exact List.map_congr_left fun w hw => (symN_cast (wP w hw)).symm
  have hs1 : ∀ d ∈ syms n x y z, d < 2 ^ 9 := fun d hd => by
    have small : ∀ w, WordOk w → symN w < 2 ^ 9 := fun w h => by
      have := symN_cast h
      have := h.le
      omega
    unfold syms at hd
    rcases List.mem_append.mp hd with hd | hd
    · rcases List.mem_append.mp hd with hd | hd
      · obtain ⟨w, hw, rfl⟩ := List.mem_map.mp hd
        exact small w (wP w hw)
      · rw [List.mem_singleton.mp hd]; decide
    · rcases List.mem_cons.mp hd with rfl | hd
      · exact small _ wx
      · rcases List.mem_cons.mp hd with rfl | hd
        · exact small _ wy
        · rcases List.mem_cons.mp hd with rfl | hd
          · exact small _ wz
          · cases hd
  have hsl : (syms n x y z).length ≤ 64 := by
    simp only [syms, List.length_append, List.length_map, List.length_cons, List.length_nil]
    omega
  have hlast : syms n x y z = ((prog1 n).map symN ++ [0] ++ [symN x, symN y]) ++ [symN z] := by simp [syms]
  have hz0 : symN z ≠ 0 := fun e => by
    have := symN_cast wz
    rw [e] at this
    exact wz.told.1 this.symm
  have hs3 : ndigs 9 (nDigs 9 (undigs 9 (syms n x y z))) (undigs 9 (syms n x y z)) = syms n x y z := by
    have h9 := hs1
    rw [hlast] at h9 ⊢
    exact round h9 hz0
  have hs5 : nDigs 9 (undigs 9 (syms n x y z)) ≤ 80 := by
    have h9 := hs1
    have hl9 := hsl
    rw [hlast] at h9 hl9 ⊢
    rw [nDigs_undigs h9 hz0]
    omega
  have hs4 : undigs 9 (syms n x y z) < 2 ^ 700 := Nat.lt_of_lt_of_le (undigs_lt' 9 _ hs1) (Nat.pow_le_pow_right (by decide) (by omega))
  have hs7 : ∀ v ∈ (syms n x y z).map (Nat.cast : Nat → Int), symOkN signs.length v := fun v hv => by
    rw [← hs2] at hv
    rcases List.mem_append.mp hv with hv | hv
    · rcases List.mem_append.mp hv with hv | hv
      · obtain ⟨w, hw, rfl⟩ := List.mem_map.mp hv
        exact (wP w hw).sym
      · rw [List.mem_singleton.mp hv]; exact .inl rfl
    · rcases List.mem_cons.mp hv with rfl | hv
      · exact wx.sym
      · rcases List.mem_cons.mp hv with rfl | hv
        · exact wy.sym
        · rcases List.mem_cons.mp hv with rfl | hv
          · exact wz.sym
          · cases hv
  have hw1 : wGo signs ((syms n x y z).map Nat.cast) false [] [] = start n x y z := by
    rw [← hs2]
    exact words_back (P := prog1 n) (N := [x, y, z]) (fun w hw => (wP w hw).told) (fun w hw => (wN w hw).told)
  have hst : start n x y z = (0 :: 0 :: 0 :: (progN n ++ [6, 7, 8])).map (wd x y z) := by
    simp only [start, h1, List.map_cons, List.map_append, List.map_nil]
    rfl
  have hcodes : Codes9 (0 :: 0 :: 0 :: (progN n ++ [6, 7, 8])) := by
    refine .cons (by decide) (.cons (by decide) (.cons (by decide) (.app (fun c hc => Nat.lt_of_le_of_lt (hlow c hc) (by decide)) ?_)))
    exact .cons (by decide) (.cons (by decide) (.cons (by decide) fun _ h => nomatch h))
  cases hrun : runN 100 ⟨[0 :: 0 :: 0 :: (progN n ++ [6, 7, 8])], [], 0⟩ with
  | none => rw [hrun] at c6; cases c6
  | some mf =>
    rw [hrun] at c6
    simp only [endsN, Bool.and_eq_true] at c6
    obtain ⟨⟨⟨d1, d2⟩, d3⟩, d4⟩ := c6
    have h90 : Ok9 ⟨[0 :: 0 :: 0 :: (progN n ++ [6, 7, 8])], [], 0⟩ := ⟨fun ws hw => by rw [List.mem_singleton.mp hw]; exact hcodes, fun _ h => nomatch h⟩
    obtain ⟨f1, f2, ⟨j, f3, f4⟩, f5⟩ := run_map hW 100 _ mf hrun h90
    have em : mm (wd x y z) ⟨[0 :: 0 :: 0 :: (progN n ++ [6, 7, 8])], [], 0⟩ = m0 n x y z := by
      rw [m0, hst]; rfl
    rw [em] at f4 f5
    have hfin : itM (m0 n x y z) 400 = mm (wd x y z) mf := by
      have := itM_stop (m := m0 n x y z) (i := j) (by rw [f4]; show mf.row.reverse.map _ = []; rw [f1]; rfl) (400 - j)
      rw [show j + (400 - j) = 400 by omega, f4] at this
      exact this
    have htold : told n x y z = mf.out.reverse.map (wd x y z) := by rw [told, hfin]; rfl
    have hr9 : Codes9 mf.out.reverse := fun c hc => f2.2 c (List.mem_reverse.mp hc)
    obtain ⟨g1, g2⟩ := num_map hW.toWd 20 mf.out.reverse hr9.c12 d3
    refine ⟨hok, ?_, ?_, ?_, lP, ?_, ?_, ?_, hs1, hs2, hs3, hs4, hs5, by omega, hs7, hw1, ?_, fun i _ => f5 i, ?_, ?_, ?_, ?_, ?_, ?_, ?_⟩
    · rw [ht, List.length_map]; have := lenLe_iff c1; omega
    · rw [h3, List.length_map]; have := lenLe_iff c2; omega
    · rw [h2, List.length_map]; have := lenLe_iff c3; omega
    · rw [ht]; exact oks_map fun c hc => str12 c (term12 _ _ c hc)
    · rw [h3]; exact oks_map fun c hc => str12 c (out12 _ _ _ (term12 _ _) c hc)
    · rw [h2]; exact oks_map fun c hc => str12 c (out12 _ _ _ (out12 _ _ _ (term12 _ _)) c hc)
    · refine ⟨?_, fun w hw => ?_⟩
      · simp only [start, List.length_append, List.length_replicate, List.length_cons, List.length_nil]; omega
      · rw [hst] at hw
        obtain ⟨c, hc, rfl⟩ := List.mem_map.mp hw
        exact (WordOk.of (code_word hx hy hz (hcodes c hc))).len
    · rw [hfin]; show mf.row.reverse.map _ = []; rw [f1]; rfl
    · intro w hw
      rw [htold] at hw
      obtain ⟨c, hc, rfl⟩ := List.mem_map.mp hw
      exact ⟨(WordOk.of (code_word hx hy hz (hr9 c hc))).len, (WordOk.of (code_word hx hy hz (hr9 c hc))).nosp⟩
    · have := (f5 400).2.2.1
      rw [hfin] at this
      have h6 : (mf.out.reverse.map (wd x y z)).length ≤ 600 := this
      rw [htold]; exact h6
    · intro w hw
      rw [htold] at hw
      obtain ⟨c, hc, rfl⟩ := List.mem_map.mp hw
      rcases toldN_iff d1 c (List.mem_reverse.mp hc) with rfl | ⟨a, b⟩
      · exact .inl rfl
      · have : c = 6 ∨ c = 7 ∨ c = 8 := by omega
        rcases this with rfl | rfl | rfl
        · exact .inr (.head _)
        · exact .inr (.tail _ (.head _))
        · exact .inr (.tail _ (.tail _ (.head _)))
    · rw [htold, end_map hW.toWd hr9.c12, List.length_map, List.length_reverse, Nat.eq_of_beq_eq_true d2]
    · rw [htold]; exact g1.trans (Nat.eq_of_beq_eq_true d4)
    · rw [htold]; exact g2
-- C3
theorem pick_sub {vs : List Value} {lo hi st : Option Int} {v : Value} (h : v ∈ (slicePick vs.toArray lo hi st).toList) : v ∈ vs := by
  unfold slicePick at h
  simp only [List.mem_filterMap] at h
  obtain ⟨i, _, hi⟩ := h
  have : vs[i]? = some v := by simpa using hi
  exact List.mem_of_getElem? this
theorem ints_of : ∀ {zs : List Value}, (∀ v ∈ zs, ∃ n t, v = Value.int n t) → ∃ ns : List Int, IntsAre zs ns
  | [], _ => ⟨[], .nil⟩
  | v :: r, h => by
    obtain ⟨n, t, rfl⟩ := h v (.head _)
    obtain ⟨ns, hn⟩ := ints_of fun y hy => h y (.tail _ hy)
    exact ⟨n :: ns, .cons _ _ hn⟩
theorem of_ints : ∀ {zs : List Value} {ns : List Int}, IntsAre zs ns → ∀ v ∈ zs, ∃ n t, v = Value.int n t
  | _, _, .nil, _, h => nomatch h
  | _, _, .cons n t r, v, h => by
    rcases List.mem_cons.mp h with rfl | h
    · exact ⟨n, t, rfl⟩
    · exact of_ints r v h
theorem cut_at' : ∀ {l : List Value} {k : Nat} (h : k < l.length), kl_cut l k = some (l.take k, l[k], l.drop (k + 1))
  | x :: r, 0, _ => rfl
  | x :: r, k + 1, h => by
    have := cut_at' (l := r) (k := k) (Nat.lt_of_succ_lt_succ h)
    rw [kl_cut, this]; rfl
section
variable {prog : Program} {w : World} {A : Around} {E : Value → Shared → Prop} {s : Shared} {h₀ : Heap} {L l D : Addr} {m : Str → Option Value} {news news' : Led} {n : Nat} {Q : Value → Shared → Prop} {vs : List Value} {ns : List Int} {ws : List Str}
theorem slice_ints {value slice : PySem.Expr} {vl vk : Value} {lo st : Option Int} {ops : List Value} (F : Fr h₀ L s.heap m) (N : News h₀ L s.heap news) (hm : (l, lst vs n) ∈ news) (hi : IntsAre vs ns) (hz : ns.length ≤ 1000) (pl : IsPart vl lo) (pk : IsPart vk st) (h0 : st ≠ some 0)
    (h : ∀ D us ms h', Fr h₀ L h' m → News h₀ L h' ((D, lst us 0) :: news) → (∀ p ∈ news, p.1 < D) → IntsAre us ms → (∀ x ∈ ms, x ∈ ns) → Q (.ref D) { s with heap := h' })
    (hs : subscripted slice false (.ref l) (.ref s.heap.objs.size) = operate ops (getItem (.ref l) (.ref s.heap.objs.size))) (ht : ∀ r, letTemporaryGo value (.ref l) r = pure ()) :
    wpAny (model prog w) A (subscriptTail value slice (.ref l) (.ref s.heap.objs.size)) Q E { s with heap := s.heap.push { cls := .type "slice", data := .fields #[vl, .none, vk] } } := by
  have sub : ∀ v ∈ (slicePick vs.toArray lo none st).toList, ∃ n t, v = Value.int n t := fun v hv => of_ints hi v (pick_sub hv)
  obtain ⟨ms, hms⟩ := ints_of sub
  refine kmk_slice3_lit F N (inList N hm) pl IsPart.none pk h0 rfl (fun D h' F' N' l1 => h D _ ms h' F' N' l1 hms ?_) hs ht (by rw [List.size_toArray, hi.length, sizeLine_eq]; omega)
  intro x hx
  have key : ∀ {zs : List Value} {ks : List Int}, IntsAre zs ks → ∀ x ∈ ks, ∃ t, Value.int x t ∈ zs := by
    intro zs ks hk
    induction hk with
    | nil => exact fun _ h => nomatch h
    | cons n t _ ih =>
      intro x hx
      rcases List.mem_cons.mp hx with rfl | hx
      · exact ⟨t, .head _⟩
      · obtain ⟨t', ht'⟩ := ih x hx
        exact ⟨t', .tail _ ht'⟩
  have key2 : ∀ {zs : List Value} {ks : List Int}, IntsAre zs ks → ∀ x t, Value.int x t ∈ zs → x ∈ ks := by
    intro zs ks hk
    induction hk with
    | nil => exact fun _ _ h => nomatch h
    | cons n t _ ih =>
      intro x t' hx
      rcases List.mem_cons.mp hx with e | hx
      · cases e; exact .head _
      · exact .tail _ (ih x t' hx)
  obtain ⟨t, ht9⟩ := key hms x hx
  exact key2 hi x t (pick_sub ht9)
theorem pop_mod {a b : Int} {u : Tok} (F : Fr h₀ L s.heap m) (N : News h₀ L s.heap news) (hw : StrsAre vs ws) (hb : b = (ws.length : Nat)) (h0 : 0 < ws.length) (hz : ws.length ≤ 1000)
    (U : Upd D (lst vs n) (lst (vs.take (a.fmod b).toNat ++ vs.drop ((a.fmod b).toNat + 1)) (n + 1)) news news')
    (h : ∀ h' y t, ws[(a.fmod b).toNat]? = some y → Fr h₀ L h' m → News h₀ L h' news' → Q (.str y t) { s with heap := h' }) : wpAny (model prog w) A (call (.builtin "list.pop") [.ref D, .int (a.fmod b) u]) Q E s := by
  have e0 : a.fmod b = a % (ws.length : Int) := by rw [hb, Int.fmod_eq_emod_of_nonneg _ (Int.natCast_nonneg _)]
  have h1 : 0 ≤ a.fmod b := by rw [e0]; exact Int.emod_nonneg _ (Int.ne_of_gt (Int.ofNat_lt.mpr h0))
  have h2 : a.fmod b < (ws.length : Nat) := by rw [e0]; exact Int.emod_lt_of_pos _ (Int.ofNat_lt.mpr h0)
  have hk : (a.fmod b).toNat < ws.length := (Int.toNat_lt h1).mpr h2
  have hkv : (a.fmod b).toNat < vs.length := by rw [hw.length]; exact hk
  obtain ⟨t, ht⟩ := hw.get _ _ (List.getElem?_eq_getElem hk)
  have hv : vs[(a.fmod b).toNat] = .str ws[(a.fmod b).toNat] t := by
    rw [List.getElem?_eq_getElem hkv] at ht
    exact Option.some.inj ht
  refine kl_popAt (its := vs.toArray) (k := (a.fmod b).toNat) (p := vs.take (a.fmod b).toNat) (q := vs.drop ((a.fmod b).toNat + 1)) (y := .str ws[(a.fmod b).toNat] t) F N ?_ ?_ ?_ U ?_ (fun h' F' N' => h h' _ t (List.getElem?_eq_getElem hk) F' N')
  · simp [Builtin.List.listFitsIndex]; omega
  · have en : ¬ a.fmod b < 0 := Int.not_lt.mpr h1
    simp only [seqIndex?, if_neg en, List.size_toArray, hw.length]
    rw [if_pos]
    rw [Bool.and_eq_true, decide_eq_true_eq, decide_eq_true_eq]
    exact ⟨h1, h2⟩
  · show kl_cut vs _ = _
    rw [cut_at' hkv, hv]
  · show vs.length ≤ sizeLine
    rw [hw.length, sizeLine_eq]; omega
end
theorem take_drop_mid {α : Type} {l : List α} {k : Nat} {y : α} (h : l[k]? = some y) : l = l.take k ++ y :: l.drop (k + 1) := by
  obtain ⟨hk, e⟩ := List.getElem?_eq_some_iff.mp h
  rw [← e, ← List.drop_eq_getElem_cons hk, List.take_append_drop]
theorem nodup_cut {l : List Str} {k : Nat} {y : Str} (h : l[k]? = some y) (hn : l.Nodup) : (l.take k ++ l.drop (k + 1)).Nodup ∧ y ∉ l.take k ++ l.drop (k + 1) := by
  have e := take_drop_mid h
  rw [e] at hn
  rw [List.nodup_append] at hn
  obtain ⟨n1, n2, n3⟩ := hn
  rw [List.nodup_cons] at n2
  constructor
  · rw [List.nodup_append]
    exact ⟨n1, n2.2, fun a ha b hb => n3 a ha b (.tail _ hb)⟩
  · intro hm
    rcases List.mem_append.mp hm with hm | hm
    · exact n3 y hm y (.head _) rfl
    · exact n2.1 hm
-- C4
theorem em_list : ((Str.ofString "")).cps.toList = [] := by decide +kernel
theorem em_app (x : Str) : (Str.ofString "") ++ x = x := str_ext (by rw [app_list, em_list]; rfl)
theorem app_em (x : Str) : x ++ (Str.ofString "") = x := str_ext (by rw [app_list, em_list, List.append_nil])
theorem jn_head (x : Str) : ∀ r : List Str, jn (x :: r) = x ++ jn ((Str.ofString "") :: r)
  | [] => by rw [jn_one, jn_one, app_em]
  | y :: r => by rw [jn_cons x (by simp), jn_cons (Str.ofString "") (by simp), em_app, Str.append_assoc]
theorem t_join (x : Str) (ws : List Str) : Txt.join x ws = Str.join x ws := StrLaws.glued_eq_join _ _
theorem join0_cons (x : Str) (r : List Str) : Txt.join (Str.ofString "") (x :: r) = x ++ Txt.join (Str.ofString "") r := by
  rw [t_join, t_join]
  cases r with
  | nil => exact (app_em x).symm
  | cons y r =>
    show x ++ (Str.ofString "") ++ Str.join (Str.ofString "") (y :: r) = _
    rw [app_em]
theorem join0_two (x : Str) : Txt.join (Str.ofString "") [(Str.ofString " "), x] = (Str.ofString " ") ++ x := by
  rw [join0_cons, join0_cons]
  show (Str.ofString " ") ++ (x ++ (Str.ofString "")) = _
  rw [app_em]
theorem spaced_jn : ∀ xs : List Str, spaced xs = jn ((Str.ofString "") :: xs)
  | [] => by rw [jn_one]; rfl
  | x :: r => by
    rw [jn_cons (Str.ofString "") (by simp), jn_head x r, em_app, ← spaced_jn r]
    show Txt.join (Str.ofString "") (Txt.join (Str.ofString "") [(Str.ofString " "), x] :: r.map _) = _
    rw [join0_cons, join0_two, Str.append_assoc]
    rfl
theorem spaced_split {xs : List Str} (h : ∀ x ∈ xs, NoSp x) : Txt.split (spaced xs) (Str.ofString " ") = (Str.ofString "") :: xs := by
  rw [spaced_jn]
  refine split_jn (by simp) fun x hx => ?_
  rcases List.mem_cons.mp hx with rfl | hx
  · unfold NoSp; rw [em_list]; exact fun h => nomatch h
  · exact h x hx
theorem spaced_len {xs : List Str} (h : ∀ x ∈ xs, x.length ≤ 100) (k : xs.length ≤ 600) : (spaced xs).length ≤ 1000000 := by
  rw [spaced_jn]
  have := jn_len (ws := (Str.ofString "") :: xs) (B := 100) fun x hx => by
    rcases List.mem_cons.mp hx with rfl | hx
    · exact (by decide +kernel : ((Str.ofString "")).length ≤ 100)
    · exact h x hx
  rw [List.length_cons] at this
  omega
theorem run_eq {prog : Program} {w : World} {base : Heap} {news : Led} {l : Addr} {vs : List Value} {ws tl : List Str} {n : Nat} (O : Out prog) (C0 : CodeHd base 88 84) (hP : ∀ q ∈ news, q.1 ≠ 84) (hl : (l, lst vs n) ∈ news) (hw : StrsAre vs ws) (hj : Short ws) (hok : ∀ i, i ≤ 400 → OkM (itM ⟨[ws], [], 0⟩ i))
    (hrow : (itM ⟨[ws], [], 0⟩ 400).row = []) (he : (itM ⟨[ws], [], 0⟩ 400).out = tl) (hlo : ∀ x ∈ tl, x.length ≤ 100) : DoesG prog w base 190 [.ref l] 200 ((84, tabObj #[]) :: news) (RunL w (spaced tl) news) :=
  he ▸ run_does O C0 hP hl hw hj hok hrow (he.symm ▸ hlo)
-- L2
set_option hygiene true
local macro_rules | `(tactic| walk_at "eval Name") => `(tactic| (k_here; k_dflt (refine' nameX_C ?N ?c ?m ?d ?_ ?a ?b; (case a => rfl); (case b => rfl); (case N => k_asm); (case c => rfl); (case m => walk_at "mem"); (case d => assumption); k_whole)))
set_option hygiene false
local macro_rules | `(tactic| walk_at "CompSrc") => `(tactic| (k_here; refine hole ?_))
local macro_rules | `(tactic| walk_at "CompSrcT") => `(tactic| (k_here; refine hole ?_))
local macro_rules | `(tactic| walk_at "exec Assign cons ListComp") => `(tactic| (k_here; refine hole ?_))
local macro_rules | `(tactic| walk_at "eval ListComp") => `(tactic| (k_here; refine hole ?_))
local macro_rules | `(tactic| walk_at "call ref") => `(tactic| (k_here; k_dflt ((with_reducible show wpAny _ _ (call (Value.ref 150) _) _ _ _); refine' Does.ul (by walk_at "use") signs_does (by walk_at "room") ?_; intro D9 us9 h9 tk9 _ l9 sa9 F9 N9; (try k_lt l9); walk_at "gf")))
local macro_rules | `(tactic| walk_at "subscriptTail Name Slice ref ref") => `(tactic| (k_here; k_dflt ((with_reducible show wpAny _ _ (subscriptTail _ (PySem.Expr.Slice _ none (some _) _) (Value.ref _) (Value.ref _)) _ _ _); k_dflt (refine' slice_ints (by k_asm) (by k_asm) (by walk_at "mem") (by assumption) (by omega) (by kmk_part) (by kmk_part) (by decide) ?_ (by with_unfolding_all rfl) (by kmk_pure)); intros; (try k_sweep))))
set_option hygiene true
local macro_rules | `(tactic| walk_at "call builtin:list.pop") => `(tactic| (k_here; k_dflt ((with_reducible show wpAny _ _ (call (Value.builtin _) [Value.ref _, Value.int (Int.fmod _ _) _]) _ _ _); refine' pop_mod ?F ?N ?w ?b ?z ?zz ?U ?_; (case b => exact rfl); (case F => k_asm); (case N => k_asm); (case w => walk_at "sa"); (case z => omega); (case zz => omega); (case U => k_upd); intro h'z y'z t'z hy'z F'z N'z; (try dsimp only [List.nil_append, List.cons_append] at N'z))))
theorem plain_cell {a : Addr} {o : Obj} {v : Option Value} {news : Led} (h : o.data = .cell v) (k : AllPlain news) : AllPlain ((a, o) :: news) := AllPlain.cons (.inr fun vs e => by rw [h] at e; cases e) k
set_option hygiene false
local macro_rules | `(tactic| walk_at "plain") => `(tactic| first | assumption | (refine plain_cell (by assumption) ?_; walk_at "plain") | (refine AllPlain.cons (Or.inl rfl) ?_; walk_at "plain") | (refine AllPlain.cons (Or.inr (fun _ h => nomatch h)) ?_; walk_at "plain") | (refine AllPlain.cons (Or.inl rfl) ?_; walk_at "plain") | exact AllPlain.nil | (refine AllPlain.append ?_ ?_ <;> walk_at "plain"))
theorem d2i_eq {prog : Program} {w : World} {base : Heap} {news T : Led} {D : Addr} {e n : Nat} {vs : List Value} {ms : List Int} {ds : List Nat} {ni : Int} {tn : Tok} (he : ms = ds.map Nat.cast) (C0 : CodeHd base 34 30) (hT : TT T) (hp : AllPlain news)
    (hD : (D, lst vs e) ∈ news) (hi : IntsAre vs ms) (hni : ni = n) (hds : ∀ d ∈ ds, d < 2 ^ n) (hn : 1 ≤ n) (hn9 : n ≤ 9) (hz : ds.length ≤ 80) :
    Does prog w base 35 [.ref D, .int ni tn] 120 (T ++ news) (D2I ((undigs n ds : Nat) : Int) news) := d2i_use C0 hT hp hD (he ▸ hi) hni hds hn hn9 hz
theorem i2d_eq {prog : Program} {w : World} {base : Heap} {news T : Led} {X n : Nat} {ds : List Nat} {xi ni : Int} {ta tn : Tok} (hx : xi = X) (hni : ni = n) (he : ndigs n (nDigs n X) X = ds) (C0 : CodeHd base 27 23) (hT : TT T) (hp : AllPlain news) (hn : 1 ≤ n) (hn9 : n ≤ 9) (hX : X < 2 ^ 700) (hq : nDigs n X ≤ 80) :
    Does prog w base 28 [.int xi ta, .int ni tn] 120 (T ++ news) (I2D (ds.map Nat.cast) news) := he ▸ i2d_use C0 hT hp hx hni hn hn9 hX hq
local macro_rules | `(tactic| walk_at "call ref") => `(tactic| (k_here; k_dflt ((with_reducible show wpAny _ _ (call (Value.ref 35) _) _ _ _); refine' Does.pd (by walk_at "use") (by walk_at "pull") (d2i_eq (by assumption) (by walk_at "c30") (by assumption) (by walk_at "plain") (by walk_at "mem") (by assumption) (by walk_at "hn") (by assumption) (by decide) (by decide) (by assumption)) (by walk_at "room") ?_; walk_at "gi")))
local macro_rules | `(tactic| walk_at "call ref") => `(tactic| (k_here; k_dflt ((with_reducible show wpAny _ _ (call (Value.ref 28) _) _ _ _); refine' Does.pn (by walk_at "use") (by walk_at "pull") (i2d_eq (by exact rfl) (by walk_at "hn") (by assumption) (by walk_at "c23") (by assumption) (by walk_at "plain") (by decide) (by decide) (by assumption) (by assumption)) (by walk_at "room") ?_; walk_at "gi")))
theorem ne_intsE {prog : Program} {w : World} {A : Around} {E : Value → Shared → Prop} {s : Shared} {h₀ : Heap} {L l b : Addr} {news : Led} {n k : Nat} {Q : Value → Shared → Prop} {vs us : List Value} {ns ms : List Int} (N : News h₀ L s.heap news) (h1 : (l, lst vs n) ∈ news) (h2 : (b, lst us k) ∈ news) (i1 : IntsAre vs ns) (i2 : IntsAre us ms) (e : ms = ns) (hu : A.units + 64 < cLine) (h : Q (.bool false) s) :
    wpAny (model prog w) A (compareOp .NotEq (.ref l) (.ref b)) Q E s :=
  ne_intsK (inList N h1) i1 (inList N h2) i2 hu (by rw [decide_eq_true e.symm]; exact h)
theorem reads_two {h : Heap} {a : Addr} {t u : Tok} (e : h.get? a = some (tupOf [.str (Str.ofString "") t, .str (Str.ofString "") u])) : Reads h (.ref a) (.tuple [.str (Str.ofString ""), .str (Str.ofString "")]) [] := .tuple e rfl rfl (.cons (.str _ _) (.cons (.str _ _) .nil))
theorem two_shaped : SeqAt.shaped (.tuple [.str (Str.ofString ""), .str (Str.ofString "")]) = true := by decide +kernel
theorem two_noMix : SeqAt.noMix (.tuple [.str (Str.ofString ""), .str (Str.ofString "")]) (.tuple [.str (Str.ofString ""), .str (Str.ofString "")]) = true := by decide +kernel
theorem two_same : PySem.Spec.same (.tuple [.str (Str.ofString ""), .str (Str.ofString "")]) (.tuple [.str (Str.ofString ""), .str (Str.ofString "")]) = true := by decide +kernel
theorem ne_two0 {prog : Program} {w : World} {A : Around} {E : Value → Shared → Prop} {s : Shared} {h₀ : Heap} {L l b : Addr} {news : Led} {Q : Value → Shared → Prop} {t u t' u' : Tok} (N : News h₀ L s.heap news) (h1 : (l, tupOf [.str (Str.ofString "") t, .str (Str.ofString "") u]) ∈ news) (h2 : (b, tupOf [.str (Str.ofString "") t', .str (Str.ofString "") u']) ∈ news) (hu : A.units + 64 < cLine) (h : Q (.bool false) s) :
    wpAny (model prog w) A (compareOp .NotEq (.ref l) (.ref b)) Q E s :=
  ne_dataH_same (reads_two (N _ h1).1) (reads_two (N _ h2).1) two_shaped two_shaped hu two_noMix (by rw [two_same]; exact h)
local macro_rules | `(tactic| walk_at "compareOp NotEq ref ref") => `(tactic| (k_here; refine hole ?_))
local macro_rules | `(tactic| walk_at "compareOp NotEq ref ref") => `(tactic| (k_here; k_dflt ((with_reducible show wpAny _ _ (compareOp CmpOp.NotEq (Value.ref _) (Value.ref _)) _ _ _); refine' ne_two0 (by k_asm) (by walk_at "mem") (by walk_at "mem") (by walk_at "ru") ?_)))
local macro_rules | `(tactic| walk_at "compareOp NotEq ref ref") => `(tactic| (k_here; k_dflt ((with_reducible show wpAny _ _ (compareOp CmpOp.NotEq (Value.ref _) (Value.ref _)) _ _ _); refine' ne_strs (by k_asm) (by walk_at "mem") (by walk_at "mem") (by walk_at "sa") (by walk_at "sa") (by walk_at "oks") (by walk_at "oks") (by walk_at "ru") ?_; k_whole)))
local macro_rules | `(tactic| walk_at "compareOp NotEq ref ref") => `(tactic| (k_here; k_dflt ((with_reducible show wpAny _ _ (compareOp CmpOp.NotEq (Value.ref _) (Value.ref _)) _ _ _); refine' ne_intsE (by k_asm) (by walk_at "mem") (by walk_at "mem") (by assumption) (by assumption) (by assumption) (by walk_at "ru") ?_)))
local macro_rules | `(tactic| walk_at "call ref") => `(tactic| (k_here; (with_reducible show wpAny _ _ (call (Value.ref 190) _) _ _ _); refine hole ?_))
theorem words_eq {prog : Program} {w : World} {base : Heap} {news : Led} {l ls : Addr} {vs us : List Value} {ns : List Int} {sg ws : List Str} {n n' : Nat} (he : wGo sg ns false [] [] = ws) (hl : (l, lst vs n) ∈ news) (hi : IntsAre vs ns) (hls : (ls, lst us n') ∈ news) (hsg : StrsAre us sg) (hok : ∀ x ∈ ns, symOkN sg.length x) (hs9 : sg.length ≤ 100) (hz : ns.length ≤ 1000) :
    Does prog w base 185 [.ref l, .ref ls] 20 news (RetL news ws True) := he ▸ words_does hl hi hls hsg hok hs9 hz
local macro_rules | `(tactic| walk_at "call ref") => `(tactic| (k_here; k_dflt ((with_reducible show wpAny _ _ (call (Value.ref 185) _) _ _ _); refine' Does.ul (by walk_at "use") (words_eq (by assumption) (by walk_at "mem") (by assumption) (by walk_at "mem") (by assumption) (by assumption) (by assumption) (by assumption)) (by walk_at "room") ?_; intro D9 us9 h9 tk9 _ l9 sa9 F9 N9; walk_at "gf")))
local macro_rules | `(tactic| walk_at "call ref") => `(tactic| (k_here; k_dflt ((with_reducible show wpAny _ _ (call (Value.ref 75) _) _ _ _); refine' Does.u (by walk_at "use") (pop0_does (by assumption) (by walk_at "mem") (by walk_at "mem")) (by walk_at "room") ?_; intro r9 n9 h9 tk9 ho9 F9 N9; obtain ⟨T9, u9, u9', e9, e9', l9⟩ := ho9; subst e9; subst e9'; walk_at "gf")))
theorem law_out : Out PySem.Challenge.rw_ul0009_01.row.prog := ⟨by kernel_rfl, by kernel_rfl⟩
theorem nmC {h₀ h : Heap} {L Dw : Addr} {vw : List Value} {k : Nat} {q : Addr × Obj} {T rest : Led} {P : Prop} (_ : News h₀ L h ((Dw, lst vw k) :: q :: (T ++ rest))) (k : ∀ D' v' T', D' = Dw → v' = vw → T' = T → P) : P := k Dw vw T rfl rfl rfl
theorem ne84 {h₀ h : Heap} {L a : Addr} {o : Obj} {all : Led} (N : News h₀ L h all) (hT : (84, tabObj #[]) ∈ all) (hm : (a, o) ∈ all) (hc : o.cls ≠ Value.none) : a ≠ 84 := fun e => hc (by have this : o = tabObj #[] := same_at N hT hm e; rw [this])
theorem News.sub {h₀ h : Heap} {L : Addr} {all news : Led} (N : News h₀ L h all) (s : ∀ p ∈ news, p ∈ all) : News h₀ L h news := fun p hp => N p (s p hp)
local macro_rules | `(tactic| walk_at "subscriptTail Call Attribute cons nil Slice ref ref") => `(tactic| (k_here; k_dflt (refine kba_turn (value' := PySem.Expr.Name (PySem.Str.ofString "_") ⟨0, 0, 0, 0⟩) (fun _ => rfl) ?_)))
local macro_rules | `(tactic| walk_at "len") => `(tactic| (simp only [List.length_cons]; omega))
local macro_rules | `(tactic| walk_at "eval ListComp") => `(tactic| (k_here; refine hole ?_))
set_option hygiene true
local macro_rules | `(tactic| walk_at "eval Name") => `(tactic| (k_here; (with_reducible show wpAny _ _ (eval (PySem.Expr.Name _ _) (compEnvC _ _ _ _)) _ _ _); k_dflt (refine' lcf_cell ?N ?c ?m ?d ?_ ?a ?b; (case a => rfl); (case b => rfl); (case N => k_asm); (case c => rfl); (case m => walk_at "mem"); (case d => assumption); k_whole)))
/-- the operators drawn, and those left -/
structure NF where
  fv : List Value
  fn : Nat
  nv : List Value
  nn : Nat
  fw : List Str
  nw : List Str
  tn : Tok
structure Drawn (i : Nat) (c : NF) : Prop where
  f : StrsAre c.fv c.fw
  n : StrsAre c.nv c.nw
  nl : c.nw.length = i
  fl : c.fw.length + i = 47
  fo : ∀ x ∈ c.fw, Op x
  no : ∀ x ∈ c.nw, Op x
  fd : c.fw.Nodup
  nd : c.nw.Nodup
  ap : ∀ x ∈ c.nw, x ∉ c.fw
theorem free_len : (signs.filter fun y => y != (Str.ofString "@")).length = 47 := by decide +kernel
theorem signs_nodup : signs.Nodup := by decide +kernel
theorem drawn_0 {ys : List Value} {k : Nat} {tn : Tok} (h : StrsAre ys (signs.filter fun y => y != (Str.ofString "@"))) (n : Nat) : Drawn 0 ⟨ys, k, [], n, signs.filter fun y => y != (Str.ofString "@"), [], tn⟩ where
  f := h
  n := .nil
  nl := rfl
  fl := free_len
  fo := fun x hx => by
    obtain ⟨h1, h2⟩ := List.mem_filter.mp hx
    exact ⟨h1, by simpa using h2⟩
  no := fun _ h => nomatch h
  fd := show List.Nodup (signs.filter fun y => y != (Str.ofString "@")) from List.Pairwise.filter _ signs_nodup
  nd := List.nodup_nil
  ap := fun _ h => nomatch h
theorem fmod_nat (x : Int) : ∃ n : Nat, n < 500 ∧ x.fmod 500 = (n : Int) := by
  rw [Int.fmod_eq_emod_of_nonneg _ (by decide)]
  have h1 := Int.emod_nonneg x (show (500 : Int) ≠ 0 by decide)
  exact ⟨(x % 500).toNat, (Int.toNat_lt h1).mpr (Int.emod_lt_of_pos x (by decide)), (Int.toNat_of_nonneg h1).symm⟩
set_option hygiene false
local macro_rules | `(tactic| k_ne) => `(tactic| first | assumption | exact Ne.symm (by assumption))
theorem Drawn.next {i : Nat} {c : NF} (h : Drawn i c) {k : Nat} {y : Str} (t : Tok) (hy : c.fw[k]? = some y) (a b : Nat) : Drawn (i + 1) ⟨c.fv.take k ++ c.fv.drop (k + 1), a, c.nv ++ [.str y t], b, c.fw.take k ++ c.fw.drop (k + 1), c.nw ++ [y], c.tn⟩ := by
  obtain ⟨hk, _⟩ := List.getElem?_eq_some_iff.mp hy
  have hyf := List.mem_of_getElem? hy
  have sub : ∀ x ∈ c.fw.take k ++ c.fw.drop (k + 1), x ∈ c.fw := fun x hx => (List.mem_append.mp hx).elim List.mem_of_mem_take List.mem_of_mem_drop
  obtain ⟨d1, d2⟩ := nodup_cut hy h.fd
  refine ⟨(h.f.take' _).append' (h.f.drop' _), h.n.append' (.cons _ _ .nil), ?_, ?_, fun x hx => h.fo x (sub x hx), fun x hx => ?_, d1, ?_, fun x hx => ?_⟩
  · rw [List.length_append, h.nl]; rfl
  · have := h.fl
    rw [List.length_append, List.length_take, List.length_drop, Nat.min_eq_left (Nat.le_of_lt hk)]
    omega
  · rcases List.mem_append.mp hx with hx | hx
    · exact h.no x hx
    · rw [List.mem_singleton.mp hx]; exact h.fo y hyf
  · rw [List.nodup_append]
    refine ⟨h.nd, by simp, fun x hx z hz e => ?_⟩
    rw [List.mem_singleton.mp hz] at e
    exact h.ap x hx (e ▸ hyf)
  · rcases List.mem_append.mp hx with hx | hx
    · exact fun q => h.ap x hx (sub x q)
    · rw [List.mem_singleton.mp hx]; exact d2
theorem drawn_3 {c : NF} (h : Drawn 3 c) : ∃ x y z, c.nw = [x, y, z] ∧ Op x ∧ Op y ∧ Op z ∧ x ≠ y ∧ x ≠ z ∧ y ≠ z := by
  have hl := h.nl
  have ho := h.no
  have hd := h.nd
  match hn : c.nw, hl with
  | [x, y, z], _ =>
    rw [hn] at ho hd
    simp only [List.nodup_cons, List.mem_cons, List.not_mem_nil, or_false, not_or] at hd
    exact ⟨x, y, z, rfl, ho x (.head _), ho y (.tail _ (.head _)), ho z (.tail _ (.tail _ (.head _))), hd.1.1, hd.1.2, hd.2.1⟩
theorem nm5 {h₀ h : Heap} {L a b c d : Addr} {oa ob : Obj} {us pv : List Value} {k1 k2 : Nat} {x : Addr × Obj} {news : Led} {P : Prop} (_ : News h₀ L h ((a, oa) :: (b, ob) :: (c, lst us k1) :: (d, lst pv k2) :: x :: news)) (k : ∀ a' b' c' d' us' pv', a' = a → b' = b → c' = c → d' = d → us' = us → pv' = pv → P) : P := k a b c d us pv rfl rfl rfl rfl rfl rfl
theorem nm6 {h₀ h : Heap} {L a b c d e : Addr} {oa ob oc od oe : Obj} {news : Led} {P : Prop} (_ : News h₀ L h ((a, oa) :: (b, ob) :: (c, oc) :: (d, od) :: (e, oe) :: news)) (k : ∀ oe', oe' = oe → P) : P := k oe rfl
theorem Tab.tab {P : Addr} {line col : Int} {qual : Str} {T : Led} (h : Tab P line col qual T) : ∃ ps, (P, tabObj ps) ∈ T := by
  rcases h with rfl | ⟨c', oc, vs, t, rfl, _⟩
  · exact ⟨_, .head _⟩
  · exact ⟨_, .tail _ (.head _)⟩
theorem grown_end {h₀ h : Heap} {L : Addr} {all T : Led} {pt : Array Value} (N : News h₀ L h all) (tt : TT T) (hT : ∀ p ∈ T, p ∈ all) (h84 : (84, tabObj pt) ∈ all) : GrownAll [(27, 23), (34, 30), (88, 84)] h := by
  obtain ⟨a, b, rfl, h1, h2⟩ := tt
  obtain ⟨p1, m1⟩ := h1.tab
  obtain ⟨p2, m2⟩ := h2.tab
  exact ⟨⟨p1, (N _ (hT _ (List.mem_append_left _ m1))).1⟩, ⟨p2, (N _ (hT _ (List.mem_append_right _ m2))).1⟩, ⟨pt, (N _ h84).1⟩, trivial⟩
/-- what the law leaves behind -/
noncomputable def LawOk (tabs : List (Addr × Addr)) (s₁ : Shared) (r : Result) (s' : Shared) : Prop :=
  (∃ v, r = .ok (.ret v) ∧ v = .bool true) ∧ (∀ b o, (ghostOf s₁.heap tabs).get? b = some o → s'.heap.get? b = some o) ∧ s'.os = s₁.os ∧ AllBare s'.gens ∧ GrownAll tabs s'.heap
theorem law_post {M : Model} {A : Around} {cd : Code} {s s₁ : Shared} {cw : ClaimW} {cl : Str → Option Addr} {mean : ExcName → Option Value} {args : List WData} {tabs : List (Addr × Addr)} (hT : TabsAt tabs s₁.heap) (hr : ∀ a x, cw.raises a x = false) (hp : cw.post args (ofPy (.bool true)) args = true)
    (h : codeAny M A cd (LawOk tabs s₁) s) : codeAny M A cd (GoodWG cw cl mean args s₁) s :=
  codeAny_mono h fun r s' ⟨⟨v, hv, hb⟩, hk, hos, hg, hgr⟩ => by
    subst hv hb
    have keep : ∀ b o, b ∉ tabs.map (·.2) → s₁.heap.get? b = some o → s'.heap.get? b = some o := fun b o hb e => hk b o (ghost_ne e hb)
    have grown : ∀ b o, b ∈ tabs.map (·.2) → s₁.heap.get? b = some o → isCodeTable s₁.heap b ∧ o = tabObj #[] ∧ ∃ ps, s'.heap.get? b = some (tabObj ps) := fun b o hb e => by
      obtain ⟨q, hq, rfl⟩ := List.mem_map.mp hb
      have e2 := (hT q hq).2
      rw [e] at e2
      exact ⟨((hT q hq).1.tab (hT q hq).2).isCodeTable, Option.some.inj e2, hgr.get q hq⟩
    refine ⟨.inl ⟨_, _, [], rfl, hr args, readsW_of_reads (.bool true), hp, fun _ => ⟨List.nodup_nil, fun _ h => nomatch h⟩⟩, ⟨fun b o e => ?_, fun b o e => ?_⟩, hos, hg⟩
    · by_cases hb : b ∈ tabs.map (·.2)
      · obtain ⟨ht, rfl, ps, hP⟩ := grown b o hb e
        exact .inr (.inl ⟨ht, rfl, #[], ps, rfl, by rw [Array.empty_append]; exact hP⟩)
      · exact .inl (keep b o hb e)
    · by_cases hb : b ∈ tabs.map (·.2)
      · obtain ⟨_, _, ps, hP⟩ := grown b o hb e
        exact ⟨_, hP⟩
      · exact ⟨o, keep b o hb e⟩
open Mine
section
-- The theorems top.tw.. say nothing and are used by nothing. They take names in this namespace that the library's head would else give to
-- sped-up doubles of its constants (some 27 MB of compiled file, none of which this proof needs): a name that is taken is passed over by it.
theorem top.tw16900427199656544559 : True := trivial
theorem top.tw1139600151236580504 : True := trivial
theorem top.tw10996937224433265937 : True := trivial
theorem top.tw18186074749648716422 : True := trivial
theorem top.tw10936122117785486979 : True := trivial
theorem top.tw5868845118606482295 : True := trivial
theorem top.tw6859976401760118174 : True := trivial
theorem top.tw14917401599646851644 : True := trivial
theorem top.tw10773188271377071773 : True := trivial
theorem top.tw15177526630643400193 : True := trivial
theorem top.tw2822501910515967889 : True := trivial
theorem top.tw7128477653932159489 : True := trivial
theorem top.tw1284575025550258836 : True := trivial
theorem top.tw15569959144833144457 : True := trivial
theorem top.tw9305691244287143441 : True := trivial
theorem top.tw14372152842798730730 : True := trivial
theorem top.tw1516213087968936877 : True := trivial
theorem top.tw13369591340354186047 : True := trivial
theorem top.tw8892184565913893157 : True := trivial
theorem top.tw987869383939708018 : True := trivial
theorem top.tw8640399195822439974 : True := trivial
theorem top.tw7990429038631628895 : True := trivial
theorem top.tw6756868429301003459 : True := trivial
theorem top.tw5667650583090716360 : True := trivial
theorem top.tw17470836177267949868 : True := trivial
theorem top.tw11546936639936008217 : True := trivial
theorem top.tw14901070454687303710 : True := trivial
theorem top.tw4655869559712951663 : True := trivial
theorem top.tw17492772389151264855 : True := trivial
theorem top.tw2617719716777270872 : True := trivial
theorem top.tw13091174067606910046 : True := trivial
theorem top.tw4498253355057717688 : True := trivial
theorem top.tw10617020205504526918 : True := trivial
theorem top.tw12012865196380796599 : True := trivial
theorem top.tw15878805988109762761 : True := trivial
theorem top.tw956942650209027819 : True := trivial
theorem top.tw1047907039808853306 : True := trivial
theorem top.tw5058314954733539658 : True := trivial
theorem top.tw10645569001463820675 : True := trivial
theorem top.tw8443935842833279946 : True := trivial
theorem top.tw13272337422414781067 : True := trivial
theorem top.tw4551080515912023512 : True := trivial
theorem top.tw8813761850579938390 : True := trivial
theorem top.tw14374289702345001990 : True := trivial
theorem top.tw14851680436948445374 : True := trivial
theorem top.tw11133666699803404755 : True := trivial
theorem top.tw5105846836358774362 : True := trivial
theorem top.tw15917854889771391336 : True := trivial
theorem top.tw12622177474791663080 : True := trivial
theorem top.tw15362295582089109014 : True := trivial
theorem top.tw5088376156974544275 : True := trivial
theorem top.tw16885616592811714743 : True := trivial
theorem top.tw18064794426631996164 : True := trivial
theorem top.tw9229161468869434483 : True := trivial
theorem top.tw453181688931711583 : True := trivial
theorem top.tw2835187731363253809 : True := trivial
theorem top.tw17177869089781658578 : True := trivial
theorem top.tw1886144042066472794 : True := trivial
theorem top.tw6187478851450931391 : True := trivial
theorem top.tw1275901062530889299 : True := trivial
theorem top.tw14861896470697024400 : True := trivial
theorem top.tw1483126911874232274 : True := trivial
theorem top.tw6491118196486620199 : True := trivial
theorem top.tw8598144960395782539 : True := trivial
theorem top.tw2812155379371279736 : True := trivial
theorem top.tw8735323631387419056 : True := trivial
theorem top.tw2464713573024523455 : True := trivial
theorem top.tw8265191368974092141 : True := trivial
theorem top.tw1350575918064645229 : True := trivial
theorem top.tw7458633546980236471 : True := trivial
theorem top.tw11423202765487971197 : True := trivial
theorem top.tw1195175773429642966 : True := trivial
theorem top.tw16229821709851022329 : True := trivial
theorem top.tw10567129059001840431 : True := trivial
theorem top.tw14826035006057030972 : True := trivial
theorem top.tw15860264024139754761 : True := trivial
theorem top.tw7527032243904285869 : True := trivial
theorem top.tw8689318265317240412 : True := trivial
theorem top.tw1869187583165140508 : True := trivial
theorem top.tw4205137553216949640 : True := trivial
theorem top.tw12535971307161669396 : True := trivial
theorem top.tw16439428074185983240 : True := trivial
theorem top.tw16782997733028217545 : True := trivial
theorem top.tw16123964013534891561 : True := trivial
theorem top.tw16273406610938067001 : True := trivial
theorem top.tw81815255157605957 : True := trivial
theorem top.tw12385144161495827662 : True := trivial
theorem top.tw14502225709538309166 : True := trivial
theorem top.tw13303987763403120937 : True := trivial
theorem top.tw15299407806266782574 : True := trivial
theorem top.tw7673058066778466091 : True := trivial
theorem top.tw7414872774492366064 : True := trivial
theorem top.tw2555065506035805374 : True := trivial
theorem top.tw13160728816969591200 : True := trivial
theorem top.tw5244899138074338376 : True := trivial
theorem top.tw14597223018079223185 : True := trivial
theorem top.tw10648311167861321448 : True := trivial
theorem top.tw15646934709686841381 : True := trivial
theorem top.tw6664487174759623829 : True := trivial
theorem top.tw11960245374511038805 : True := trivial
theorem top.tw6286779285267259847 : True := trivial
theorem top.tw6333448901615975916 : True := trivial
theorem top.tw9759319705405543751 : True := trivial
theorem top.tw14459580976405569124 : True := trivial
theorem top.tw814325599930780420 : True := trivial
theorem top.tw12501917291106330125 : True := trivial
theorem top.tw8645369167282567922 : True := trivial
theorem top.tw17486766287000646611 : True := trivial
theorem top.tw6520327441239513222 : True := trivial
theorem top.tw11613256710310857696 : True := trivial
theorem top.tw9059672392935016618 : True := trivial
theorem top.tw14903613942468971131 : True := trivial
theorem top.tw12392516345856041104 : True := trivial
theorem top.tw5476889619067714990 : True := trivial
theorem top.tw1149218181149386328 : True := trivial
theorem top.tw18086089286151905521 : True := trivial
theorem top.tw14839182381909581876 : True := trivial
theorem top.tw8538268897159353584 : True := trivial
theorem top.tw9631074621892390191 : True := trivial
theorem top.tw10090393231696489298 : True := trivial
theorem top.tw7847650389618582240 : True := trivial
theorem top.tw13359135706311490777 : True := trivial
theorem top.tw16420938139371093754 : True := trivial
theorem top.tw14349089067433371257 : True := trivial
theorem top.tw10404823597219466188 : True := trivial
theorem top.tw864819663365544661 : True := trivial
theorem top.tw2462062305354472974 : True := trivial
theorem top.tw72247145696351765 : True := trivial
theorem top.tw5597187220613765494 : True := trivial
theorem top.tw14390669486469195807 : True := trivial
theorem top.tw370947364307004932 : True := trivial
theorem top.tw5303079699428457377 : True := trivial
theorem top.tw3776753064480771068 : True := trivial
theorem top.tw11459358961799972967 : True := trivial
theorem top.tw795583310449317561 : True := trivial
theorem top.tw8345894832289464959 : True := trivial
theorem top.tw16155163154822807229 : True := trivial
theorem top.tw4656485037274611717 : True := trivial
theorem top.tw2057334267981633021 : True := trivial
theorem top.tw12643491718579748851 : True := trivial
theorem top.tw5523086135645875356 : True := trivial
theorem top.tw18034075008235765660 : True := trivial
theorem top.tw14608685727046917156 : True := trivial
theorem top.tw15169761463676818070 : True := trivial
theorem top.tw11858546649754279707 : True := trivial
theorem top.tw775762912060472103 : True := trivial
theorem top.tw105208000716104510 : True := trivial
theorem top.tw5155950481276406077 : True := trivial
theorem top.tw9063741608606530840 : True := trivial
theorem top.tw4213018616267185653 : True := trivial
theorem top.tw1732150942055357024 : True := trivial
theorem top.tw9601329371697537090 : True := trivial
theorem top.tw908825868028484722 : True := trivial
theorem top.tw8507776931139520737 : True := trivial
theorem top.tw16174758807025615021 : True := trivial
theorem top.tw11430207588045935325 : True := trivial
theorem top.tw6546709824720544710 : True := trivial
theorem top.tw2287823674025257028 : True := trivial
theorem top.tw1814787853859245837 : True := trivial
theorem top.tw8810280945414196856 : True := trivial
theorem top.tw12819366960792805191 : True := trivial
theorem top.tw517144808224063464 : True := trivial
theorem top.tw14987219478266130788 : True := trivial
theorem top.tw1513038484208349539 : True := trivial
theorem top.tw575894324575664597 : True := trivial
theorem top.tw2731995056826638727 : True := trivial
theorem top.tw6812286434817487243 : True := trivial
theorem top.tw3195968871104189447 : True := trivial
theorem top.tw760020501838809584 : True := trivial
theorem top.tw2732273902793177162 : True := trivial
theorem top.tw16204670001084760307 : True := trivial
theorem top.tw788273225186049534 : True := trivial
theorem top.tw17738590937590139750 : True := trivial
theorem top.tw3730354652608582461 : True := trivial
theorem top.tw16352630495959832749 : True := trivial
theorem top.tw7652560490529028683 : True := trivial
theorem top.tw2782073688633401757 : True := trivial
theorem top.tw12342655685612074800 : True := trivial
theorem top.tw2867133514656366558 : True := trivial
theorem top.tw14611434983143301774 : True := trivial
theorem top.tw9800703332001039478 : True := trivial
theorem top.tw6883741973766446791 : True := trivial
theorem top.tw1492452104121835379 : True := trivial
theorem top.tw13264354339760550358 : True := trivial
theorem top.tw18008055252877512497 : True := trivial
theorem top.tw6370870915552960936 : True := trivial
theorem top.tw8143265674769528471 : True := trivial
theorem top.tw2218668502564051296 : True := trivial
theorem top.tw4166218997396506358 : True := trivial
theorem top.tw1736530178072539846 : True := trivial
theorem top.tw11334415319851112604 : True := trivial
theorem top.tw12611966508407201920 : True := trivial
set_option hygiene true
local macro_rules | `(tactic| o_head (kmHook $_ $as $e $ts)) => if ts.raw.getKind == `«term_::_» then `(tactic| o_head (kmHook Mine.K0.heap_1 $as $e [30, 23, 84])) else Lean.Macro.throwUnsupported
set_option maxRecDepth 100000 in
set_option maxHeartbeats 0 in
set_option Elab.async true in
theorem top : PySem.Challenge.rw_ul0009_01.Holds := by
  w_on; o_law; km_head
  (case hw => w_witness2)
  k_fill
  intro w s₀ s₁ mg mb G Y fa o pm cd doc dV kV ho hd hcd hD hmg hg args vals as hpre hlay hrd hwl hlo
  have KX := km_in_of Y
  have hT8 := km_tabs_of Y
  have X := (Ground.X G).1
  have V := (Ground.X G).2
  refine Ground.open G ?_
  intro T B D TE TW
  try (refine guard_noD D (by decide +kernel) ?_; clear D)
  have hT9 : TabsAt ([(27, 23), (34, 30), (88, 84)] : List (Addr × Addr)) s₁.heap := List.forall_mem_cons.mpr ⟨⟨codeHd_of_K KX (by kernel_rfl), hT8 23 (by decide)⟩, List.forall_mem_cons.mpr ⟨⟨codeHd_of_K KX (by kernel_rfl), hT8 30 (by decide)⟩, List.forall_mem_cons.mpr ⟨⟨codeHd_of_K KX (by kernel_rfl), hT8 84 (by decide)⟩, fun _ h => nomatch h⟩⟩⟩
  clear hT8 hmg
  have hgB : AllBare s₁.gens := AllBare.of_eq hg
  wrow_args hpre hlay hrd hwl hlo
  all_goals (
    first | refine callC_kw (enter_call ?_) | refine enter_call ?_
    w_top on
    refine Mine.law_post hT9 (fun _ _ => rfl) (by kc_post) ?_
    w_call any ho hd hcd hD T F
    clear hd
    kn_ghosts F T
    k_drop
    skip)
  k_steps
  unfold Mine.Hole
  rename IntsAre _ (List.take 60 _) => hI60
  generalize List.take 60 _ = part at *
  rename Fr _ _ _ _ => lF
  rename News _ _ _ _ => lN
  rename StrsAre _ Mine.signs => sa1
  have hnum := Mine.fmod_nat (part.sum + 184)
  obtain ⟨num, hnum, en⟩ := hnum
  simp only [en] at lF
  refine LCt.Assign_ListComp_T (F₀ := lF) (by rfl) (by with_unfolding_all rfl) (by with_unfolding_all rfl) (by decide) (by rfl) (by decide) (by rfl) (by rfl) (by rfl) ?_
  k_steps
  unfold Mine.Hole
  refine' Mine.src_test (pz := fun y => y != Str.ofString "@") ?hh ?hF ?hN ?hm sa1 ?hz ?hk ?hlx ?hd ?he ?fin
  case hh => rfl
  case hF => exact lF
  case hN => exact lN
  case hm => walk_at "mem"
  case hz => decide +kernel
  case hk => exact fun _ => rfl
  case hlx => exact fun _ => rfl
  case hd => decide
  case he =>
    intro g9 y9 hy9 t9 I9 oI9 C9 oC9 D9 ys9 m9 h9 tk9 E9 R9 hC9 hx9 F9 N9 ret9
    k_steps
    exact ret9 _ _ F9 N9
  case fin =>
    intro g9 ys9 sa9
    unfold LCg.FinA
    intro D9 h9 tk9 F9 N9 off9
    simp only [LCg.Off1, and_true] at off9
    obtain ⟨z1, z2, z3, z4, z5, z6⟩ := off9
    clear lF lN
    clear G Y X V T B TE TW ho hcd hD
    k_steps
    unfold Mine.Hole
    rename Fr _ _ _ _ => lF
    rename News _ _ _ _ => lN
    rename IsRange _ _ _ _ _ _ _ _ => rg
    refine Mine.nm5 lN ?_
    intro ln lf ls lp us pv e1 e2 e3 e4 e5 e6
    subst e1 e2 e3 e4 e5 e6
    refine Mine.nm6 lN ?_
    intro oc e1
    subst e1
    rename (lf < ln ∧ _) => l9
    have g1 : @Ne Nat lf ln := Nat.ne_of_lt l9.1
    have g2 : @Ne Nat lf ls := z1.symm
    have g3 : @Ne Nat lf lp := z2.symm
    have g4 : @Ne Nat ln ls := Nat.ne_of_gt l9.2.1
    have g5 : @Ne Nat ln lp := Nat.ne_of_gt l9.2.2.1
    refine' Mine.for_rangeP (σ := Mine.NF) (n := 3) (ps := fun c => [(Str.ofString "free", Value.ref lf), (Str.ofString "signs", .ref ls), (Str.ofString "number", .int (num : Int) c.tn), (Str.ofString "part", .ref lp)])
      (led := fun c => [(ln, Mine.lst c.nv c.nn), (lf, Mine.lst c.fv c.fn), (ls, Mine.lst us 0), (lp, Mine.lst pv 0), (s₁.heap.objs.size + 1, oc), (23, tabObj #[]), (30, tabObj #[]), (84, tabObj #[])])
      (I := fun i c => Mine.Drawn i c) (D := fun c => Mine.Drawn 3 c) ⟨ys9, ys9.length, [], 0, Mine.signs.filter (fun y => y != Str.ofString "@"), [], ?tn⟩ rfl rg ?qsm ?qsz lF ?qN ?qn ?qps ?qI ?qturn ?qfin ?qdone
    case qN => exact lN
    case qps => exact (List.forall_mem_cons.mpr ⟨by first | with_unfolding_all exact rfl | (dsimp only; with_unfolding_all exact rfl), (List.forall_mem_cons.mpr ⟨by first | with_unfolding_all exact rfl | (dsimp only; with_unfolding_all exact rfl), (List.forall_mem_cons.mpr ⟨by first | with_unfolding_all exact rfl | (dsimp only; with_unfolding_all exact rfl), (List.forall_mem_cons.mpr ⟨by first | with_unfolding_all exact rfl | (dsimp only; with_unfolding_all exact rfl), (fun _ h => nomatch h)⟩)⟩)⟩)⟩)
    case qsm => decide
    case qsz => rfl
    case qn => exact fun p hp => hp
    case qI => exact Mine.drawn_0 sa9 0
    case qfin => exact fun _ h => h
    case qturn =>
      clear lF lN rg
      intro i t c u h tk own hi hof hI F N
      simp only [List.map_cons, List.map_nil] at hof
      have hf := hI.f
      have hn := hI.n
      have h47 := hI.fl
      have h0 : 0 < c.fw.length := by omega
      have h1 : c.fw.length ≤ 1000 := by omega
      have h2 : c.nv.length ≤ 1000000 := by rw [hn.length, hI.nl]; omega
      have h3 : part.length ≤ 1000 := by omega
      k_steps
      rename Fr _ _ _ _ => lF
      rename News _ _ _ _ => lN
      rename ((_ : List Str)[_]? = some _) => hy9
      refine' Mine.EndP.intro _ lF lN ?qn ?qo ?qf (List.forall_mem_cons.mpr ⟨by first | with_unfolding_all exact rfl | (dsimp only; with_unfolding_all exact rfl), (List.forall_mem_cons.mpr ⟨by first | with_unfolding_all exact rfl | (dsimp only; with_unfolding_all exact rfl), (List.forall_mem_cons.mpr ⟨by first | with_unfolding_all exact rfl | (dsimp only; with_unfolding_all exact rfl), (List.forall_mem_cons.mpr ⟨by first | with_unfolding_all exact rfl | (dsimp only; with_unfolding_all exact rfl), (fun _ h => nomatch h)⟩)⟩)⟩)⟩) (hI.next _ hy9 _ _)
      case qn => exact List.forall_mem_cons.mpr ⟨by walk_at "mem", List.forall_mem_cons.mpr ⟨by walk_at "mem", List.forall_mem_cons.mpr ⟨by walk_at "mem", List.forall_mem_cons.mpr ⟨by walk_at "mem", List.forall_mem_cons.mpr ⟨by walk_at "mem", List.forall_mem_cons.mpr ⟨by walk_at "mem", List.forall_mem_cons.mpr ⟨by walk_at "mem", List.forall_mem_cons.mpr ⟨by walk_at "mem", fun _ h => nomatch h⟩⟩⟩⟩⟩⟩⟩⟩
      case qo => walk_at "sub"
      case qf => exact hof
    case qdone =>
      clear lF lN rg
      intro c u h tk hD F N
      obtain ⟨x, y, z, hnw, ox, oy, oz, hxy, hxz, hyz⟩ := Mine.drawn_3 hD
      have PL := Mine.plain hnum ox oy oz hxy hxz hyz
      have hns := hD.n
      rw [hnw] at hns
      clear hD g1 g2 g3 g4 g5 z1 z2 z3 z4 z5 z6
      obtain ⟨fv, fn, nv, nn, fw, nw, tn⟩ := c
      dsimp only at F N hns
      obtain ⟨T9, tt9, N2⟩ : ∃ T, Mine.TT T ∧ News _ _ h (T ++ [(ln, Mine.lst nv nn), (ls, Mine.lst us 0), (s₁.heap.objs.size + 1, oc), (84, tabObj #[])]) := ⟨[(23, tabObj #[]), (30, tabObj #[])], ⟨[(23, tabObj #[])], [(30, tabObj #[])], rfl, .inl rfl, .inl rfl⟩, fun p hp => N p ((List.forall_mem_cons.mpr ⟨by walk_at "mem", List.forall_mem_cons.mpr ⟨by walk_at "mem", List.forall_mem_cons.mpr ⟨by walk_at "mem", List.forall_mem_cons.mpr ⟨by walk_at "mem", List.forall_mem_cons.mpr ⟨by walk_at "mem", List.forall_mem_cons.mpr ⟨by walk_at "mem", fun _ h => nomatch h⟩⟩⟩⟩⟩⟩ : ∀ q ∈ [(23, tabObj #[]), (30, tabObj #[]), (ln, Mine.lst nv nn), (ls, Mine.lst us 0), (s₁.heap.objs.size + 1, oc), (84, tabObj #[])], q ∈ [(ln, Mine.lst nv nn), (lf, Mine.lst fv fn), (ls, Mine.lst us 0), (lp, Mine.lst pv 0), (s₁.heap.objs.size + 1, oc), (23, tabObj #[]), (30, tabObj #[]), (84, tabObj #[])]) p hp)⟩
      clear N
      have hC : Mine.Codes (ghostOf s₁.heap [(27, 23), (34, 30), (88, 84)]) := ⟨by assumption, by assumption⟩
      have C84 : CodeHd (ghostOf s₁.heap [(27, 23), (34, 30), (88, 84)]) 88 84 := by assumption
      have ihT : Mine.TermC PySem.Challenge.rw_ul0009_01.row.prog w (ghostOf s₁.heap [(27, 23), (34, 30), (88, 84)]) 8 := Mine.term_all hC 8 (by decide)
      have ihO : Mine.OutC PySem.Challenge.rw_ul0009_01.row.prog w (ghostOf s₁.heap [(27, 23), (34, 30), (88, 84)]) 60 := Mine.lawOut_all 60
      have p1 := PL.ok
      have p2 := PL.l0
      have p3 : (Mine.lawOutF 60 (Str.ofString "c") (Mine.termF 8 num)).length < 60 := PL.l1
      have p4 : (Mine.lawOutF 60 (Str.ofString "b") (Mine.lawOutF 60 (Str.ofString "c") (Mine.termF 8 num))).length < 60 := PL.l2
      have p5 : (Mine.lawOutF 60 (Str.ofString "a") (Mine.lawOutF 60 (Str.ofString "b") (Mine.lawOutF 60 (Str.ofString "c") (Mine.termF 8 num)))).length ≤ 60 := PL.l3
      have p6 := PL.o0
      have p7 : Mine.Oks (Mine.lawOutF 60 (Str.ofString "c") (Mine.termF 8 num)) := PL.o1
      have p8 : Mine.Oks (Mine.lawOutF 60 (Str.ofString "b") (Mine.lawOutF 60 (Str.ofString "c") (Mine.termF 8 num))) := PL.o2
      have na : PyData.strOk (Str.ofString "a") = true := by decide +kernel
      have nb : PyData.strOk (Str.ofString "b") = true := by decide +kernel
      have nc : PyData.strOk (Str.ofString "c") = true := by decide +kernel
      k_steps
      unfold Mine.Hole
      rename Fr _ _ _ _ => lF
      refine LCg.ListComp_U (F₀ := lF) (by rfl) (by decide) (by rfl) (by decide) (by rfl) ?_
      k_steps
      rename Fr _ _ _ _ => lF
      rename News _ _ _ _ => lN
      rename StrsAre _ (Mine.lawOutF 60 (Str.ofString "a") _) => sa2
      unfold Mine.Hole
      refine' Mine.src_map (f := Mine.symOf) ?qhh ?qhF ?qhN ?qhm sa2 ?qhz ?qhe ?qfin
      case qhh => rfl
      case qhF => exact lF
      case qhN => exact lN
      case qhm => walk_at "mem"
      case qhz => omega
      case qhe =>
        clear lF lN
        intro g9 y9 hy9 t9 I9 oI9 C9 oC9 D9 ys9 m9 h9 tk9 E9 R9 hC9 hx9 F9 N9 ret9
        k_steps
        exact ret9 _ _ _ (by assumption) (by assumption)
      case qfin =>
        intro g9 ys9 ia9
        unfold LCg.FinE
        intro D9 h9 tk9 F9 N9 off9
        clear lF lN
        k_steps
        unfold Mine.Hole
        rename Fr _ _ _ _ => lF
        refine LCg.ListComp_U (F₀ := lF) (by rfl) (by decide) (by rfl) (by decide) (by rfl) ?_
        k_steps
        rename Fr _ _ _ _ => lF
        rename News _ _ _ _ => lN
        unfold Mine.Hole
        refine' Mine.src_map (f := Mine.symOf) ?qhh ?qhF ?qhN ?qhm hns ?qhz ?qhe ?qfin
        case qhh => rfl
        case qhF => exact lF
        case qhN => exact lN
        case qhm => walk_at "mem"
        case qhz => exact (by decide : 3 ≤ 1000000)
        case qhe =>
          clear lF lN
          intro g9 y9 hy9 t9 I9 oI9 C9 oC9 D9 ys9 m9 h9 tk9 E9 R9 hC9 hx9 F9 N9 ret9
          k_steps
          exact ret9 _ _ _ (by assumption) (by assumption)
        case qfin =>
          intro g9 ys9 ia9
          unfold LCg.FinE
          intro D9 h9 tk9 F9 N9 off9
          clear lF lN
          have ps2 := PL.s2
          have ps1 := PL.s1
          have ps3 := PL.s3
          have ps4 := PL.s4
          have ps5 := PL.s5
          have ps6 := PL.s6
          have ps7 := PL.s7
          generalize hsy : Mine.syms num x y z = sy at ps1 ps2 ps3 ps4 ps5 ps6 ps7
          have ps2' : List.map Mine.symOf (Mine.lawOutF 60 (Str.ofString "a") (Mine.lawOutF 60 (Str.ofString "b") (Mine.lawOutF 60 (Str.ofString "c") (Mine.termF 8 num)))) ++ [0] ++ List.map Mine.symOf [x, y, z] = sy.map Nat.cast := ps2
          have pw1 := PL.w1
          rw [hsy] at pw1
          have pz1 : (sy.map (Nat.cast : Nat → Int)).length ≤ 1000 := by rw [List.length_map]; omega
          have sg9 : Mine.signs.length ≤ 100 := by rw [Mine.signs_len]; decide
          have O9 := Mine.law_out
          k_steps
          unfold Mine.Hole
          rename Fr _ _ _ _ => lF
          rename News _ _ _ _ => lN
          rename StrsAre _ (Mine.start _ _ _ _) => saS
          refine Mine.nmC lN ?_
          intro Dw vw Tn e1 e2 e3
          subst e1 e2 e3
          have ttn : Mine.TT Tn := by assumption
          have hP9 : ∀ q ∈ (Dw, Mine.lst vw 0) :: (Tn ++ [(ln, Mine.lst nv nn), (s₁.heap.objs.size + 1, oc)]), q.1 ≠ 84 :=
            List.forall_mem_cons.mpr ⟨Mine.ne84 lN (by walk_at "mem") (o := Mine.lst vw 0) (by walk_at "mem") (fun h => nomatch h), Mine.all_app (ttn.not84 lN (by walk_at "sub") (by walk_at "mem")) (List.forall_mem_cons.mpr ⟨Mine.ne84 lN (by walk_at "mem") (o := Mine.lst nv nn) (by walk_at "mem") (fun h => nomatch h), List.forall_mem_cons.mpr ⟨by (show (s₁.heap.objs.size + 1 : Nat) ≠ 84); omega, fun _ h => nomatch h⟩⟩)⟩
          have N84 : News (ghostOf s₁.heap [(27, 23), (34, 30), (88, 84)]) s₁.heap.objs.size _ ((84, tabObj #[]) :: (Dw, Mine.lst vw 0) :: (Tn ++ [(ln, Mine.lst nv nn), (s₁.heap.objs.size + 1, oc)])) :=
            Mine.News.sub lN (List.forall_mem_cons.mpr ⟨by walk_at "mem", List.forall_mem_cons.mpr ⟨by walk_at "mem", Mine.all_app (by walk_at "sub") (List.forall_mem_cons.mpr ⟨by walk_at "mem", List.forall_mem_cons.mpr ⟨by walk_at "mem", fun _ h => nomatch h⟩⟩)⟩⟩)
          clear lN
          have pt1 := PL.r4
          have pt2 := PL.e0
          have pt3 := PL.e1
          have pt4 := PL.e2
          have pt5 := PL.e3
          have pt6 := PL.e4
          have htl : (Mine.itM ⟨[Mine.start num x y z], [], 0⟩ 400).out = Mine.told num x y z := rfl
          generalize Mine.told num x y z = tl at pt1 pt2 pt3 pt4 pt5 pt6 htl
          have hsp := Mine.spaced_split fun w hw => (pt1 w hw).2
          have hspl := Mine.spaced_len (fun w hw => (pt1 w hw).1) pt2
          refine' Mine.DoesG.use (Mine.run_eq (tl := tl) (news := (Dw, Mine.lst vw 0) :: (Tn ++ [(ln, Mine.lst nv nn), (s₁.heap.objs.size + 1, oc)])) (l := Dw) O9 C84 hP9 (.head _) saS PL.r1 ?qok ?qrow ?qhe ?qlo) ?k1 ?k2 ?k3 ?k4 ?k5 ?kK ?kd ?ku ?kg ?_
          case k1 => k_asm
          case k2 => k_asm
          case k3 => k_asm
          case k4 => k_asm
          case k5 => k_asm
          case kK => first | exact rfl | assumption
          case kd => walk_at "rm"
          case ku => walk_at "ru"
          case qok => exact PL.r2
          case qrow => exact PL.r3
          case qhe => exact htl
          case qlo => exact fun w hw => (pt1 w hw).1
          case kg => exact hgB
          clear lF N84
          intro r9 n9 s9 ho9 F9 N9 G9 os9
          obtain ⟨Tp, xr, dxr, nr, t1, t2, tt, pt, e9, e9'⟩ := ho9
          subst e9; subst e9'
          generalize hsx : Mine.spaced tl = tx at N9 hsp hspl
          clear hsx
          k_steps
          unfold Mine.Hole
          rename Fr _ _ _ _ => lF
          refine LCt.ListComp_T (F₀ := lF) (by with_unfolding_all rfl) (by decide) (by rfl) (by decide) (by rfl) ?_
          k_steps
          rename Fr _ _ _ _ => lF
          rename News _ _ _ _ => lN
          rename StrsAre _ (List.drop _ _) => saT
          have saT : StrsAre _ tl := saT
          unfold Mine.Hole
          refine' Mine.src_test (pz := fun _ => false) ?qhh ?qhF ?qhN ?qhm saT ?qhz ?qhk ?qhl ?qhd ?qhe ?qfin
          case qhh => rfl
          case qhF => exact lF
          case qhN => exact lN
          case qhm => walk_at "mem"
          case qhz => omega
          case qhk => exact fun _ => rfl
          case qhl => exact fun _ => rfl
          case qhd => decide
          case qhe =>
            clear lF lN
            intro g9 y9 hy9 t9 I9 oI9 C9 oC9 D9 ys9 m9 h9 tk9 E9 R9 hC9 hx9 F9 N9 ret9
            k_steps
            all_goals first
              | exact ret9 _ _ (by assumption) (by assumption)
              | (exfalso
                 rcases pt3 y9 hy9 with e | e
                 · subst e; simp_all
                 · rename (List.any [x, y, z] _ = false) => a9
                   rw [List.any_eq_false] at a9
                   exact absurd (beq_self_eq_true y9) (a9 y9 e))
          case qfin =>
            intro g9 ys9 sa9
            unfold LCg.FinE
            intro D9 h9 tk9 F9 N9 off9
            clear lF lN
            have e0 : tl.filter (fun _ => false) = [] := by simp
            rw [e0] at sa9
            have ihN : Mine.NumC PySem.Challenge.rw_ul0009_01.row.prog w (ghostOf s₁.heap [(27, 23), (34, 30), (88, 84)]) [x, y, z] 20 := Mine.num_all (names := [x, y, z]) (show 3 ≤ 100 by decide) 20 (by decide)
            have pz2 : tl.length ≤ 1000 := by omega
            k_steps
            · rename Fr _ _ _ _ => lF
              rename News _ _ _ _ => lN
              exact ⟨⟨_, rfl, congrArg Value.bool (by rw [pt5]; exact beq_self_eq_true _)⟩, lF.keep, os9, G9, Mine.grown_end lN ttn (by walk_at "sub") (by walk_at "mem")⟩
            · rename Fr _ _ _ _ => lF
              rename News _ _ _ _ => lN
              exact ⟨⟨_, rfl, congrArg Value.bool (by rw [pt4]; exact beq_self_eq_true _)⟩, lF.keep, os9, G9, Mine.grown_end lN ttn (by walk_at "sub") (by walk_at "mem")⟩
end
end Mine
theorem PySem.Challenge.cw_ul0009_01_holds : PySem.Challenge.rw_ul0009_01.Holds :=
  Mine.top
