import PyProof.Rows.All
import Wide.All
import OpenK.AllK
import Wide.FinOn
import PySem.Challenge.RW_xi0001_01
set_option Elab.async false
section
open PySem PySem.W PyProof.Rows
namespace Mine
set_option Elab.async false
set_option maxRecDepth 100000 in
set_option maxHeartbeats 8000000 in
open_top hd_law for PySem.Challenge.rw_xi0001_01
theorem mk0 : True := by
  w_top off
  exact True.intro
end Mine
end

section
open PySem PySem.W PyProof.Rows
namespace Mine
abbrev Prg := PySem.Challenge.rw_xi0001_01.row.prog
noncomputable abbrev KK (w : World) : Frag := hd_law.heap_39 w.params
abbrev TopL (mean : ExcName → Option Value) (mg mb : Str → Option Value) (h : Heap) : Prop := Top hd_law.view_39 (looseW hd_law.view_39 []) mean mg mb h
/-- a contract of a def -/
abbrev CallC (w : World) (mean : ExcName → Option Value) (mg mb : Str → Option Value) (f : Addr) (dp' un' : Nat) (news : List (Addr × Obj)) (vs : List Value)
    (Ret : Shared → Heap → Addr → (Str → Option Value) → Heap → Nat → Value → Prop) : Prop :=
  ∀ (dp un : Nat) (gd : Option (List Code)) (cn : Str) (cs : Scope) (a : Addr) (ccd : Value) (cl : List (Str × Addr)) (outer : List Env) (A₀ : Around) (base h₀ : Heap) (L : Addr) (m : Str → Option Value) (s : Shared) (Q E : Value → Shared → Prop),
    Below A₀ base outer h₀ → Fr h₀ L s.heap m → (hd_law.heap_39 w.params).In h₀ → News h₀ L s.heap news → TopL mean mg mb h₀ → cs.kind = .function →
    dp + dp' < recursionLimit → un + un' < cLine →
    (∀ (h' : Heap) (tk' : Nat) (v : Value), Ret s h₀ L m h' tk' v → Q v { s with heap := h', toks := tk' }) →
      wpAny (model Prg w) (ktrTop dp un gd cn cs L a ccd cl outer) (call (.ref f) vs) Q E s
/-- fills the walk's own note of the written part -/
theorem mk : (fun (_ : OpenLaw) (_ : Params → Frag) => True) PySem.Challenge.rw_xi0001_01 hd_law.heap_39 = True := by
  k_fill
  rfl
end Mine
end

section
open PySem PySem.W PyProof.Rows PySem.Calls
set_option Elab.async false
set_option maxRecDepth 100000
set_option linter.unusedVariables false
namespace Mine
theorem ex_A2_1 : (fun (_ : OpenLaw) (_ : Params → Frag) => True) PySem.Challenge.rw_xi0001_01 hd_law.heap_39 = True := by
  k_fill
  k_with_none
  rfl
theorem callC_use {w : World} {mean : ExcName → Option Value} {mg mb : Str → Option Value} {f : Addr} {dp' un' : Nat} {news : List (Addr × Obj)} {vs : List Value}
    {Ret : Shared → Heap → Addr → (Str → Option Value) → Heap → Nat → Value → Prop} (C : CallC w mean mg mb f dp' un' news vs Ret)
    {dp un : Nat} {gd : Option (List Code)} {cn : Str} {cs : Scope} {a : Addr} {ccd : Value} {cl : List (Str × Addr)} {outer : List Env} {A₀ : Around} {base h₀ : Heap} {L : Addr} {m : Str → Option Value} {s : Shared} {Q E : Value → Shared → Prop}
    (B : Below A₀ base outer h₀) (F : Fr h₀ L s.heap m) (X : (hd_law.heap_39 w.params).In h₀) (N : News h₀ L s.heap news) (T : TopL mean mg mb h₀) (hk : cs.kind = .function)
    (hd : dp + dp' < recursionLimit) (hu : un + un' < cLine)
    (hret : ∀ (h' : Heap) (tk' : Nat) (v : Value), Ret s h₀ L m h' tk' v → Q v { s with heap := h', toks := tk' }) :
      wpAny (model Prg w) (ktrTop dp un gd cn cs L a ccd cl outer) (call (.ref f) vs) Q E s := C _ _ _ _ _ _ _ _ _ _ _ _ _ _ _ _ _ B F X N T hk hd hu hret
theorem gen_toks {α : Type} {M : Model} {A : Around} {t : Sem α} {Q : α → Shared → Prop} {E : Value → Shared → Prop} {h : Heap} {g d o X} (p : ∀ tk, X ≤ tk → wpAny M A t Q E ⟨h, g, d, tk, o⟩) : wpAny M A t Q E ⟨h, g, d, X, o⟩ := p X (Nat.le_refl _)
/-- an int comes back, its token a new one -/
abbrev RetI (news : List (Addr × Obj)) (x : Int) (s : Shared) (h₀ : Heap) (L : Addr) (m : Str → Option Value) (h' : Heap) (tk' : Nat) (v : Value) : Prop :=
  ∃ t : Nat, v = .int x t ∧ Fr h₀ L h' m ∧ News h₀ L h' news ∧ s.toks ≤ t ∧ t < tk'
local macro_rules | `(tactic| walk_at "execs cons") => `(tactic| ((try k_fold); (with_reducible refine gen_toks ?_); intro _ _; (with_reducible refine wpAny_execs_cons ?_); (try dsimp only)))
set_option maxHeartbeats 4000000 in
theorem add_c {w : World} {mean : ExcName → Option Value} {mg mb : Str → Option Value} {news : List (Addr × Obj)} (x y : Int) (t u : Tok) : CallC w mean mg mb 108 1 8 news [.int x t, .int y u] (RetI news (x + y)) := by
  intro dp un gd cn cs a ccd cl outer A₀ base h₀ L m s Q E B F X N T hk hd hu hret
  refine wpAny_call ?_
  cell_enter
  k_steps
  all_goals exact hret _ _ _ ⟨_, rfl, by assumption, by assumption, by omega, by omega⟩
set_option maxHeartbeats 4000000 in
theorem sub_c {w : World} {mean : ExcName → Option Value} {mg mb : Str → Option Value} {news : List (Addr × Obj)} (x y : Int) (t u : Tok) : CallC w mean mg mb 115 1 8 news [.int x t, .int y u] (RetI news (x - y)) := by
  intro dp un gd cn cs a ccd cl outer A₀ base h₀ L m s Q E B F X N T hk hd hu hret
  refine wpAny_call ?_
  cell_enter
  k_steps
  all_goals exact hret _ _ _ ⟨_, rfl, by assumption, by assumption, by omega, by omega⟩
end Mine
end

section
open PySem PySem.Calls PyProof.Rows
namespace Mine
/-- no run lowers the count of tokens -/
theorem runs_toks {M : Model} {Γ : Ctx} {p : Pos} {t : Sem Fin} {fs : List Frame} {s s' : Shared} {e : End} (h : Runs M Γ p t fs s e s') : s.toks ≤ s'.toks := by
  induction h <;> (try simp only [Shared.setGen] at *) <;> (try dsimp only at *) <;> omega
theorem wakes_toks {M : Model} {Γ : Ctx} {p : Pos} {g : Nat} {r : Resume} {s s' : Shared} {res : GenResult} (h : Wakes M Γ p g r s res s') : s.toks ≤ s'.toks := by
  unfold Wakes at h
  split at h
  · exact h.elim
  · split at h
    · obtain ⟨e₁, s₁, hr, _, _, rfl⟩ := h
      have := runs_toks hr
      simpa [Shared.setGen] using this
    · rw [h.2]; exact Nat.le_refl _
    · rw [h.2]; exact Nat.le_refl _
  · obtain ⟨e₁, s₁, hr, _, _, rfl⟩ := h
    have := runs_toks hr
    simpa [Shared.setGen] using this
  · rw [h.2]; exact Nat.le_refl _
  · rw [h.2]; exact Nat.le_refl _
theorem wp_toks {α : Type} {M : Model} {Γ : Ctx} (n : Nat) (t : Sem α) {Q : α → Pos → Shared → Prop} {E : Value → Pos → Shared → Prop} {p : Pos} {s : Shared} (hn : n ≤ s.toks) (h : Sem.wp M Γ t Q E p s) :
    Sem.wp M Γ t (fun a p' s' => n ≤ s'.toks ∧ Q a p' s') (fun e p' s' => n ≤ s'.toks ∧ E e p' s') p s := by
  induction t generalizing p s with
  | pure x => exact ⟨hn, h⟩
  | raise v => exact ⟨hn, h⟩
  | unsupported | finish | yield | fork | await | register => exact h
  | rule _ k ih | «at» _ k ih | alloc _ k ih | loadIfAlive _ k ih | point _ k ih | ask k ih | os _ _ k ih | handled _ k ih | newGen _ k ih | stack k ih | thread k ih => exact ih _ hn h
  | fresh k ih => exact ih _ (Nat.le_succ_of_le hn) h
  | load a _ k ih | genState a k ih => obtain ⟨o, ho, h⟩ := h; exact ⟨o, ho, ih _ hn h⟩
  | update a _ f k ih | choose _ _ k ih => exact ⟨h.1, ih _ hn h.2⟩
  | call c h' g l k ih =>
    obtain ⟨r, s', hr, hq⟩ := h
    exact ⟨r, s', hr, ih r (Nat.le_trans hn (runs_toks hr)) hq⟩
  | resume g r l k ih =>
    obtain ⟨res, s', hw, hq⟩ := h
    exact ⟨res, s', hw, ih _ (Nat.le_trans hn (wakes_toks hw)) hq⟩
theorem wpAny_toks {α : Type} {M : Model} {A : Around} {t : Sem α} {Q : α → Shared → Prop} {E : Value → Shared → Prop} {s : Shared} (h : wpAny M A t Q E s) :
    wpAny M A t (fun a s' => s.toks ≤ s'.toks ∧ Q a s') (fun e s' => s.toks ≤ s'.toks ∧ E e s') s := fun Γ p hΓ => wp_toks s.toks t (Nat.le_refl _) (h Γ p hΓ)
theorem with_toks {α : Type} {M : Model} {A : Around} {t : Sem α} {Q : α → Shared → Prop} {E : Value → Shared → Prop} {s : Shared} (h : wpAny M A t (fun a s' => s.toks ≤ s'.toks → Q a s') E s) : wpAny M A t Q E s :=
  wpAny_mono (wpAny_toks h) (fun _ _ hq => hq.2 hq.1) fun _ _ he => he.2
theorem min_T {prog : Program} {w : World} {A : Around} {E : Value → Shared → Prop} {s : Shared} {h₀ : Heap} {L : Addr} {m : Str → Option Value} {news : List (Addr × Obj)} {a b : Int} {t u : Tok} {Q : Value → Shared → Prop} (hh : A.handled = none) (F : Fr h₀ L s.heap m) (N : News h₀ L s.heap news)
    (h : ∀ h' tk, s.toks ≤ tk → Fr h₀ L h' m → News h₀ L h' news → Q (.int (if b < a then b else a) (if b < a then u else t)) { s with heap := h', toks := tk }) :
    wpAny (model prog w) A (call (.builtin "min") [.int a t, .int b u]) Q E s :=
  with_toks (min_two_N hh F N fun h' tk F' N' hle => h h' tk hle F' N')
end Mine
end

section
open PySem PySem.W PyProof.Rows PySem.Calls PySem.Spec
set_option linter.unusedVariables false
namespace Mine
/-- a turn's end, the count of tokens in sight -/
def TEnd {σ : Type} (h₀ : Heap) (L : Addr) (Led : σ → List (Addr × Obj)) (ps : σ → List (Str × Value)) (Facts : σ → Prop) (x : Str) (stored : List Str) (m₀ : Str → Option Value) (P : List Int → σ → Nat → Prop) (pre : List Int) (own : List (Addr × Obj)) (adr : List Addr) (s₁ s₂ : Shared) : Prop :=
  ∃ (c : σ) (h' : Heap) (tk : Nat) (m' : Str → Option Value) (news' : List (Addr × Obj)), s₂ = { s₁ with heap := h', toks := tk } ∧ Fr h₀ L h' m' ∧ News h₀ L h' news' ∧ (∀ p ∈ Led c, p ∈ news') ∧ (∀ p ∈ own, p ∈ news') ∧ (Led c).map (·.1) = adr ∧ Facts c ∧ (∀ p ∈ ps c, m' p.1 = some p.2) ∧
    (∀ z, z ≠ x → (∀ p ∈ ps c, z ≠ p.1) → stored.contains z = false → m' z = m₀ z) ∧ P pre c tk
def TPost {σ : Type} (h₀ : Heap) (L : Addr) (Led : σ → List (Addr × Obj)) (ps : σ → List (Str × Value)) (Facts : σ → Prop) (x : Str) (stored : List Str) (m₀ : Str → Option Value) (P : List Int → σ → Nat → Prop) (pre : List Int) (own : List (Addr × Obj)) (adr : List Addr) (s₁ : Shared) (Q : Flow → Shared → Prop) (f : Flow) (s₂ : Shared) : Prop :=
  match f with
  | .ret v => Q (.ret v) s₂
  | .brk => Q .next s₂
  | _ => TEnd h₀ L Led ps Facts x stored m₀ P pre own adr s₁ s₂
theorem tend {σ : Type} {h₀ : Heap} {L : Addr} {Led : σ → List (Addr × Obj)} {ps : σ → List (Str × Value)} {Facts : σ → Prop} {x : Str} {stored : List Str} {m₀ m' : Str → Option Value} {P : List Int → σ → Nat → Prop} {pre : List Int} {own news' : List (Addr × Obj)} {adr : List Addr} {s₁ : Shared} {h' : Heap} {tk : Nat} (c : σ)
    (F : Fr h₀ L h' m') (N : News h₀ L h' news') (hn : ∀ p ∈ Led c, p ∈ news') (ho : ∀ p ∈ own, p ∈ news') (ha : (Led c).map (·.1) = adr) (hf : Facts c) (hk : ∀ p ∈ ps c, m' p.1 = some p.2) (hr : ∀ z, z ≠ x → (∀ p ∈ ps c, z ≠ p.1) → stored.contains z = false → m' z = m₀ z) (hp : P pre c tk) :
    TEnd h₀ L Led ps Facts x stored m₀ P pre own adr s₁ { s₁ with heap := h', toks := tk } := ⟨c, h', tk, m', news', rfl, F, N, hn, ho, ha, hf, hk, hr, hp⟩

section
variable {prog : Program} {w : World} {A : Around} {E : Value → Shared → Prop} {s : Shared} {env : Env} {h₀ : Heap} {x : Str} {px : Pos} {body : List Stmt} {Q : Flow → Shared → Prop}
theorem rangeT {σ : Type} {r : Addr} {a₀ b₀ : Int} {t₀ u₀ v₀ : Tok} {n : Nat} {m₀ : Str → Option Value} (Led : σ → List (Addr × Obj)) (ps : σ → List (Str × Value)) (Facts : σ → Prop) (stored : List Str) (P : List Int → σ → Nat → Prop) (c₀ : σ)
    (hh : A.handled = none) (hx : env.kindOf x = some .local) (hsc : (env.scope.kind == .class || (env.scope.kind == .module && env.locals != env.globals)) = false)
    (hr : IsRange s.heap r a₀ b₀ 1 t₀ u₀ v₀) (hsmall : Builtin.Range.small a₀ b₀ 1 = true) (hn : Builtin.Range.rangeSize a₀ b₀ 1 = (n : Int))
    (F : Fr h₀ env.locals s.heap m₀) (N : News h₀ env.locals s.heap (Led c₀)) (hf : Facts c₀) (hk : ∀ p ∈ ps c₀, m₀ p.1 = some p.2) (hp : P [] c₀ s.toks)
    (hmono : ∀ pre c tk tk', tk ≤ tk' → P pre c tk → P pre c tk')
    (turn : ∀ (c : σ) (pre : List Int) (k : Int) t (u : Str → Option Value) h tk own, k = a₀ + (pre.length : Int) → pre.length < n → OwnOff own ((Led c₀).map (·.1)) → Facts c → P pre c tk → 0 < tk →
      Fr h₀ env.locals h (fun y => if y = x then some (.int k t) else kstB (fun z => if stored.contains z then u z else m₀ z) (ps c) y) → News h₀ env.locals h (Led c ++ own) →
      wpAny (model prog w) A (execs body env) (TPost h₀ env.locals Led ps Facts x stored m₀ P (pre ++ [k]) own ((Led c₀).map (·.1)) { s with heap := h, toks := tk } Q) E { s with heap := h, toks := tk })
    (done : ∀ (c : σ) (u : Str → Option Value) h tk, Facts c → P (rangeKs a₀ n) c tk → Fr h₀ env.locals h (fun y => if y = x then u y else kstB (fun z => if stored.contains z then u z else m₀ z) (ps c) y) → News h₀ env.locals h (Led c) → Q .next { s with heap := h, toks := tk })
    (hE : PassesOwn (model prog w) A env E := by passes_own) :
    wpAny (model prog w) A (pyIter (.ref r)) (fun it s₂ => codeAny (model prog w) A (.forLoop (.Name x px) it body [] env) (fun r s' => match r with | .ok f => Q f s' | .error e => cameBackBy (model prog w) A env E e s') s₂) E s := by
  refine wpAny_pyIter_range hr hsmall ?_
  generalize hI : s.heap.objs.size = I
  have W : Walks prog w A I [I] [I] n (fun i v => i < n ∧ ∃ t, v = .int (a₀ + i * 1) t)
      (fun i h => IsRangeIter h I (a₀ + (i : Nat) * 1) ((n : Int) - (i : Nat)) 1) := (Walks.range hh _ a₀ 1 n).bound
  have hLI : env.locals ≠ I := by rw [← hI]; exact Nat.ne_of_lt F.ns.lt
  have hIn : h₀.get? I = none := by rw [← hI]; exact next_is_new F
  have hled : ∀ p ∈ Led c₀, p.1 ≠ I := fun p hp => by rw [← hI]; exact Nat.ne_of_lt (Heap.lt_size (N p hp).1)
  have hadr : ∀ c : σ, (Led c).map (·.1) = (Led c₀).map (·.1) → ∀ p ∈ Led c, p.1 ≠ I := fun c hc p hp e => by
    have h1 : p.1 ∈ (Led c).map (·.1) := List.mem_map.mpr ⟨p, hp, rfl⟩
    rw [hc] at h1
    obtain ⟨q, hq, e2⟩ := List.mem_map.mp h1
    exact hled q hq (e2.trans e)
  have hlen : ∀ i, i ≤ n → ((rangeKs a₀ n).take i).length = i := fun i hi => by rw [List.length_take, rangeKs_length]; omega
  refine codeAny_forLoop (fun k s' => ∃ (h' : Heap) (tk : Nat) (m' : Str → Option Value) (c : σ) (i : Nat), s' = { s with heap := h', toks := tk } ∧ IsRangeIter h' I (a₀ + (i : Nat) * 1) ((n : Int) - (i : Nat)) 1 ∧ Fr h₀ env.locals h' m' ∧ News h₀ env.locals h' (Led c) ∧
    (Led c).map (·.1) = (Led c₀).map (·.1) ∧ Facts c ∧ (∀ p ∈ ps c, m' p.1 = some p.2) ∧ (∀ z, z ≠ x → (∀ p ∈ ps c, z ≠ p.1) → stored.contains z = false → m' z = m₀ z) ∧ P ((rangeKs a₀ n).take i) c tk ∧ i ≤ n ∧ k = n + 1 - i) ?_ (n + 1) ?_
  · rintro k s' ⟨h', tk, m', c, i, rfl, hst, F', N', hc, hf', hk', hr', hp', hi, rfl⟩
    have keep : ∀ h₁ : Heap, (∀ b o, b ∉ [I] → h'.get? b = some o → h₁.get? b = some o) → Fr h₀ env.locals h₁ m' ∧ News h₀ env.locals h₁ (Led c) := fun h₁ hk₁ =>
      ⟨⟨F'.ns.at' fun o e => hk₁ _ o (by simpa using hLI) e, fun b o e => hk₁ b o (fun hb => by rw [List.mem_singleton.mp hb, hIn] at e; cases e) (F'.keep b o e), F'.above⟩,
        fun p hp => ⟨hk₁ _ _ (by simpa using hadr c hc p hp) (N' p hp).1, (N' p hp).2⟩⟩
    by_cases hlt : i < n
    · refine wpAny_mono (wpAny_toks (W.item i { s with heap := h', toks := tk } (fun r s₁ => ∃ v h₁ tk₁, r = some v ∧ s₁ = { s with heap := h₁, toks := tk₁ } ∧ (i < n ∧ ∃ t, v = .int (a₀ + i * 1) t) ∧ IsRangeIter h₁ I (a₀ + ((i + 1 : Nat) : Int) * 1) ((n : Int) - ((i + 1 : Nat) : Int)) 1 ∧ ∀ b o, b ∉ [I] → h'.get? b = some o → h₁.get? b = some o) _ hlt hst
        (fun v h₁ tk₁ hv hst₁ hk₁ => ⟨v, h₁, tk₁, rfl, rfl, hv, hst₁, hk₁⟩))) (fun r s₁ hq => ?_) fun e s₁ he => he.2
      obtain ⟨hle, v, h₁, tk₁, rfl, rfl, ⟨_, t, rfl⟩, hst₁, hk₁⟩ := hq
      have hle' : tk ≤ tk₁ := hle
      obtain ⟨F₁, N₁⟩ := keep h₁ hk₁
      refine wpAny_assign_Name (wpAny_storeName_local hx F₁.ns (fun h₂ hn₂ hs₂ => ?_) hsc)
      have F₂ := F₁.set hn₂ hs₂
      have N₂ : News h₀ env.locals h₂ (Led c) := N₁.set hs₂
      let oI : Obj := { cls := .type "range_iterator", data := .fields #[rawInt (a₀ + ((i + 1 : Nat) : Int) * 1), rawInt ((n : Int) - ((i + 1 : Nat) : Int)), rawInt 1] }
      have hI₂ : h₂.get? I = some oI := (hs₂.2 I (Ne.symm hLI)).trans hst₁
      have e1 : a₀ + (i : Int) * 1 = a₀ + (i : Int) := by omega
      rw [e1] at F₂
      have hks : (rangeKs a₀ n)[i]? = some (a₀ + (i : Int)) := by simp [rangeKs, hlt]
      have hs1 : (rangeKs a₀ n).take (i + 1) = (rangeKs a₀ n).take i ++ [a₀ + (i : Int)] := by simp [List.take_add_one, hks]
      have hoff : OwnOff [(I, oI)] ((Led c₀).map (·.1)) := fun p hp b hb e => by
        rw [List.mem_singleton.mp hp] at e
        obtain ⟨q, hq, e2⟩ := List.mem_map.mp hb
        exact hled q hq (e2.trans e.symm)
      have hnew : News h₀ env.locals h₂ (Led c ++ [(I, oI)]) := fun p hp => by
        rcases List.mem_append.mp hp with hp | hp
        · exact N₂ p hp
        · rw [List.mem_singleton.mp hp]
          exact ⟨hI₂, Ne.symm hLI, hIn⟩
      refine wpAny_mono (wpAny_passesOwn hE (turn c _ _ t m' h₂ (tk₁ + 1) [(I, oI)] (by rw [hlen i hi]) (by rw [hlen i hi]; exact hlt) hoff hf' (hmono _ _ _ _ (Nat.le_succ_of_le hle') hp') (Nat.succ_pos _) (kst_fr hk' hr' F₂) hnew)) (fun f s₃ h₃ => ?_) fun _ _ e => e
      rw [← hs1] at h₃
      cases f with
      | ret v => exact h₃
      | brk => exact h₃
      | next =>
        obtain ⟨c', h₃', tk₃, m₃, news₃, rfl, F₃, N₃, hn₃, ho₃, ha₃, hf₃, hk₃, hr₃, hp₃⟩ := h₃
        exact ⟨n + 1 - (i + 1), by omega, h₃', tk₃, m₃, c', i + 1, rfl, (N₃ _ (ho₃ _ (.head _))).1, F₃, fun p hp => N₃ p (hn₃ p hp), ha₃, hf₃, hk₃, hr₃, hp₃, hlt, rfl⟩
      | cont =>
        obtain ⟨c', h₃', tk₃, m₃, news₃, rfl, F₃, N₃, hn₃, ho₃, ha₃, hf₃, hk₃, hr₃, hp₃⟩ := h₃
        exact ⟨n + 1 - (i + 1), by omega, h₃', tk₃, m₃, c', i + 1, rfl, (N₃ _ (ho₃ _ (.head _))).1, F₃, fun p hp => N₃ p (hn₃ p hp), ha₃, hf₃, hk₃, hr₃, hp₃, hlt, rfl⟩
    · have hin : i = n := by omega
      subst hin
      refine wpAny_mono (wpAny_toks (W.done { s with heap := h', toks := tk } (fun r s₁ => ∃ h₁ tk₁, r = none ∧ s₁ = { s with heap := h₁, toks := tk₁ } ∧ ∀ b o, b ∉ [I] → h'.get? b = some o → h₁.get? b = some o) _ hst (fun h₁ tk₁ hk₁ => ⟨h₁, tk₁, rfl, rfl, hk₁⟩))) (fun r s₁ hq => ?_) fun e s₁ he => he.2
      obtain ⟨hle, h₁, tk₁, rfl, rfl, hk₁⟩ := hq
      have hle' : tk ≤ tk₁ := hle
      obtain ⟨F₁, N₁⟩ := keep h₁ hk₁
      have hl : (rangeKs a₀ i).take i = rangeKs a₀ i := List.take_of_length_le (Nat.le_of_eq (rangeKs_length _ _))
      rw [hl] at hp'
      exact wpAny_execs_nil (done c m' h₁ tk₁ hf' (hmono _ _ _ _ hle' hp') (kst_frOut hk' hr' F₁) N₁)
  · refine ⟨_, s.toks, m₀, c₀, 0, rfl, ?_, F.push _, fun p hp => ⟨Heap.get?_push_of_some _ (N p hp).1, (N p hp).2⟩, rfl, hf, hk, fun _ _ _ _ => rfl, by simpa using hp, Nat.zero_le _, rfl⟩
    rw [← hI, hn]
    have := Heap.get?_push_size s.heap (o := { cls := .type "range_iterator", data := .fields #[rawInt a₀, rawInt (n : Int), rawInt 1] }) rfl
    simpa using this
end
def TwEnd {σ : Type} (h₀ : Heap) (L : Addr) (s : Shared) (Led : σ → List (Addr × Obj)) (ps : σ → List (Str × Value)) (Facts : σ → Prop) (stored : List Str) (m₀ : Str → Option Value) (P : σ → Nat → Prop) (μ : σ → Nat) (c : σ) (s₂ : Shared) : Prop :=
  ∃ (c' : σ) (h' : Heap) (tk : Nat) (m' : Str → Option Value) (news' : List (Addr × Obj)), s₂ = { s with heap := h', toks := tk } ∧ Fr h₀ L h' m' ∧ News h₀ L h' news' ∧ (∀ p ∈ Led c', p ∈ news') ∧ Facts c' ∧ (∀ p ∈ ps c', m' p.1 = some p.2) ∧ (∀ z, (∀ p ∈ ps c', z ≠ p.1) → stored.contains z = false → m' z = m₀ z) ∧ P c' tk ∧ μ c' < μ c
def TwPost {σ : Type} (h₀ : Heap) (L : Addr) (s : Shared) (Led : σ → List (Addr × Obj)) (ps : σ → List (Str × Value)) (Facts : σ → Prop) (stored : List Str) (m₀ : Str → Option Value) (P : σ → Nat → Prop) (μ : σ → Nat) (Q : Flow → Shared → Prop) (c : σ) (f : Flow) (s₂ : Shared) : Prop :=
  match f with
  | .ret v => Q (.ret v) s₂
  | .brk => Q .next s₂
  | _ => TwEnd h₀ L s Led ps Facts stored m₀ P μ c s₂
theorem twend {σ : Type} {h₀ : Heap} {L : Addr} {s : Shared} {Led : σ → List (Addr × Obj)} {ps : σ → List (Str × Value)} {Facts : σ → Prop} {stored : List Str} {m₀ m' : Str → Option Value} {P : σ → Nat → Prop} {μ : σ → Nat} {c : σ} {h' : Heap} {tk : Nat} {news' : List (Addr × Obj)} (c' : σ)
    (F : Fr h₀ L h' m') (N : News h₀ L h' news') (hn : ∀ p ∈ Led c', p ∈ news') (hf : Facts c') (hk : ∀ p ∈ ps c', m' p.1 = some p.2) (hr : ∀ z, (∀ p ∈ ps c', z ≠ p.1) → stored.contains z = false → m' z = m₀ z) (hp : P c' tk) (hm : μ c' < μ c) :
    TwEnd h₀ L s Led ps Facts stored m₀ P μ c { s with heap := h', toks := tk } := ⟨c', h', tk, m', news', rfl, F, N, hn, hf, hk, hr, hp, hm⟩
section
variable {prog : Program} {w : World} {A : Around} {E : Value → Shared → Prop} {Q : Flow → Shared → Prop} {s : Shared} {env : Env} {h₀ : Heap} {L : Addr}
theorem whileT {σ : Type} {test : Expr} {body : List Stmt} {pos : Pos} {m₀ : Str → Option Value} (Led : σ → List (Addr × Obj)) (ps : σ → List (Str × Value)) (Facts : σ → Prop) (stored : List Str) (P : σ → Nat → Prop) (μ : σ → Nat) (c₀ : σ)
    (F : Fr h₀ L s.heap m₀) (N : News h₀ L s.heap (Led c₀)) (hf : Facts c₀) (hk : ∀ p ∈ ps c₀, m₀ p.1 = some p.2) (hp : P c₀ s.toks)
    (turn : ∀ (c : σ) (u : Str → Option Value) h tk, Facts c → P c tk → Fr h₀ L h (kstB (fun z => if stored.contains z then u z else m₀ z) (ps c)) → News h₀ L h (Led c) →
      wpAny (model prog w) A (isTrue test env (eval test env)) (fun b s₂ =>
        if b = true then wpAny (model prog w) A (execs body env) (TwPost h₀ L s Led ps Facts stored m₀ P μ Q c) E s₂ else Q .next s₂) E { s with heap := h, toks := tk })
    (hE : PassesOwn (model prog w) A env E := by passes_own) :
    wpAny (model prog w) A (exec (.While test body [] pos) env) Q E s := by
  refine wpAny_While (codeAny_whileLoop (fun n s' => ∃ (c : σ) (h' : Heap) (tk : Nat) (m' : Str → Option Value), s' = { s with heap := h', toks := tk } ∧ Fr h₀ L h' m' ∧ News h₀ L h' (Led c) ∧ Facts c ∧ (∀ p ∈ ps c, m' p.1 = some p.2) ∧
    (∀ z, (∀ p ∈ ps c, z ≠ p.1) → stored.contains z = false → m' z = m₀ z) ∧ P c tk ∧ μ c = n) ?_ (μ c₀) ⟨c₀, s.heap, s.toks, m₀, rfl, F, N, hf, hk, fun _ _ _ => rfl, hp, rfl⟩)
  rintro n s' ⟨c, h', tk, m', rfl, F', N', hf', hk', hr', hp', rfl⟩
  refine wpAny_mono (turn c m' h' tk hf' hp' (ksw_fr hk' hr' F') N') (fun b s₂ h₂ => ?_) hE
  cases b with
  | false =>
    simp only [Bool.false_eq_true, if_false] at h₂ ⊢
    exact wpAny_execs_nil h₂
  | true =>
    simp only [if_true] at h₂ ⊢
    refine wpAny_mono h₂ (fun f s₃ h₃ => ?_) hE
    cases f with
    | next =>
      obtain ⟨c₂, h₃', tk₃, m₃, news₃, rfl, F₃, N₃, hn₃, hf₃, hk₃, hr₃, hp₃, hm₃⟩ := h₃
      exact ⟨_, hm₃, c₂, h₃', tk₃, m₃, rfl, F₃, fun p hp => N₃ p (hn₃ p hp), hf₃, hk₃, hr₃, hp₃, rfl⟩
    | cont =>
      obtain ⟨c₂, h₃', tk₃, m₃, news₃, rfl, F₃, N₃, hn₃, hf₃, hk₃, hr₃, hp₃, hm₃⟩ := h₃
      exact ⟨_, hm₃, c₂, h₃', tk₃, m₃, rfl, F₃, fun p hp => N₃ p (hn₃ p hp), hf₃, hk₃, hr₃, hp₃, rfl⟩
    | brk => exact h₃
    | ret v => exact h₃
theorem whileC {σ : Type} {test : Expr} {body : List Stmt} {pos : Pos} {m₀ : Str → Option Value} {nw : List (Addr × Obj)} (ps : σ → List (Str × Value)) (stored : List Str) (P : σ → Nat → Prop) (μ : σ → Nat) (c₀ : σ)
    (F : Fr h₀ L s.heap m₀) (N : News h₀ L s.heap nw) (hk : ∀ p ∈ ps c₀, m₀ p.1 = some p.2) (hp : P c₀ s.toks)
    (turn : ∀ (c : σ) (u : Str → Option Value) h tk, P c tk → Fr h₀ L h (kstB (fun z => if stored.contains z then u z else m₀ z) (ps c)) → News h₀ L h nw →
      wpAny (model prog w) A (isTrue test env (eval test env)) (fun b s₂ =>
        if b = true then wpAny (model prog w) A (execs body env) (TwPost h₀ L s (fun _ => nw) ps (fun _ => True) stored m₀ P μ Q c) E s₂ else Q .next s₂) E { s with heap := h, toks := tk })
    (hE : PassesOwn (model prog w) A env E := by passes_own) :
    wpAny (model prog w) A (exec (.While test body [] pos) env) Q E s := whileT (fun _ => nw) ps (fun _ => True) stored P μ c₀ F N True.intro hk hp (fun c u h tk _ hp F N => turn c u h tk hp F N) hE
end
end Mine
end

section
namespace Mine
def lcp : List Nat → List Nat → Nat
  | a :: as, b :: bs => if a = b then lcp as bs + 1 else 0
  | _, _ => 0
def rad (l : List Nat) (p : Nat) : Nat := lcp (l.take p).reverse (l.drop (p + 1))
theorem lcp_nil_left (l) : lcp [] l = 0 := by cases l <;> rfl
theorem lcp_nil_right (l) : lcp l [] = 0 := by cases l <;> rfl
theorem lcp_cons (a b as bs) : lcp (a :: as) (b :: bs) = if a = b then lcp as bs + 1 else 0 := rfl
theorem lcp_le_left : ∀ (a b : List Nat), lcp a b ≤ a.length
  | [], b => by rw [lcp_nil_left]; exact Nat.zero_le _
  | x :: a, [] => by rw [lcp_nil_right]; exact Nat.zero_le _
  | x :: a, y :: b => by
    rw [lcp_cons]; have := lcp_le_left a b; simp only [List.length_cons]; split <;> omega
theorem lcp_le_right : ∀ (a b : List Nat), lcp a b ≤ b.length
  | [], b => by rw [lcp_nil_left]; exact Nat.zero_le _
  | x :: a, [] => by rw [lcp_nil_right]; exact Nat.zero_le _
  | x :: a, y :: b => by
    rw [lcp_cons]; have := lcp_le_right a b; simp only [List.length_cons]; split <;> omega
/-- r is at most the common prefix's length -/
theorem le_lcp : ∀ (a b : List Nat) (r : Nat), r ≤ lcp a b ↔ r ≤ a.length ∧ r ≤ b.length ∧ ∀ j, j < r → a[j]? = b[j]?
  | [], b, r => by
    rw [lcp_nil_left]; simp only [List.length_nil]
    constructor
    · intro h; exact ⟨h, by omega, fun j hj => by omega⟩
    · intro h; exact h.1
  | x :: a, [], r => by
    rw [lcp_nil_right]; simp only [List.length_nil]
    constructor
    · intro h; exact ⟨by omega, h, fun j hj => by omega⟩
    · intro h; exact h.2.1
  | x :: a, y :: b, 0 => by simp
  | x :: a, y :: b, r + 1 => by
    rw [lcp_cons]
    by_cases h : x = y
    · subst h
      rw [if_pos rfl, Nat.add_le_add_iff_right, le_lcp a b r]
      simp only [List.length_cons, Nat.add_le_add_iff_right]
      constructor
      · rintro ⟨h1, h2, h3⟩
        refine ⟨h1, h2, fun j hj => ?_⟩
        cases j with
        | zero => rfl
        | succ j => simpa using h3 j (by omega)
      · rintro ⟨h1, h2, h3⟩
        refine ⟨h1, h2, fun j hj => ?_⟩
        have := h3 (j + 1) (by omega)
        simpa using this
    · rw [if_neg h]
      constructor
      · intro h'; omega
      · rintro ⟨_, _, h3⟩
        have := h3 0 (by omega)
        simp at this
        exact absurd this h
/-- r is at most the reach at p -/
theorem le_rad (l : List Nat) (p r : Nat) (hp : p < l.length) : r ≤ rad l p ↔ r ≤ p ∧ p + r < l.length ∧ ∀ j, j ≤ r → l[p - j]? = l[p + j]? := by
  unfold rad
  rw [le_lcp]
  have h1 : (l.take p).reverse.length = p := by simp; omega
  have h2 : (l.drop (p + 1)).length = l.length - (p + 1) := by simp
  rw [h1, h2]
  have key : ∀ j, j < p → (l.take p).reverse[j]? = l[p - (j + 1)]? := fun j hj => by
    rw [List.getElem?_reverse (by simp; omega)]
    simp only [List.length_take, Nat.min_eq_left (Nat.le_of_lt hp)]
    rw [List.getElem?_take_of_lt (by omega)]
    congr 1; omega
  have key2 : ∀ j, (l.drop (p + 1))[j]? = l[p + (j + 1)]? := fun j => by
    rw [List.getElem?_drop]; congr 1; omega
  constructor
  · rintro ⟨a, b, c⟩
    refine ⟨a, by omega, fun j hj => ?_⟩
    cases j with
    | zero => rfl
    | succ j => rw [← key j (by omega), ← key2 j]; exact c j (by omega)
  · rintro ⟨a, b, c⟩
    refine ⟨a, by omega, fun j hj => ?_⟩
    rw [key j (by omega), key2 j]; exact c (j + 1) (by omega)
theorem rad_le (l : List Nat) (p : Nat) (hp : p < l.length) : rad l p ≤ p ∧ p + rad l p < l.length := by
  have := (le_rad l p (rad l p) hp).mp (Nat.le_refl _)
  exact ⟨this.1, this.2.1⟩
theorem rad_mirror (l : List Nat) (p j : Nat) (hp : p < l.length) (hj : j ≤ rad l p) : l[p - j]? = l[p + j]? :=
  ((le_rad l p (rad l p) hp).mp (Nat.le_refl _)).2.2 j hj
/-- Manacher's step: inside the reach of c the mirrored reach serves -/
theorem rad_step (l : List Nat) (c p : Nat) (hc : c < l.length) (hcp : c < p) (hpe : p < c + rad l c) :
    min (rad l (2 * c - p)) (c + rad l c - p) ≤ rad l p := by
  have hr := rad_le l c hc
  have hq : 2 * c - p < l.length := by omega
  have hp : p < l.length := by omega
  have hm := rad_le l (2 * c - p) hq
  rw [le_rad l p _ hp]
  generalize hR : min (rad l (2 * c - p)) (c + rad l c - p) = R
  have hR1 : R ≤ rad l (2 * c - p) := by omega
  have hR2 : R ≤ c + rad l c - p := by omega
  refine ⟨by omega, by omega, fun j hj => ?_⟩
  have e1 : l[2 * c - p - j]? = l[2 * c - p + j]? := rad_mirror l _ j hq (by omega)
  have e2 : l[c - (p + j - c)]? = l[c + (p + j - c)]? := rad_mirror l c _ hc (by omega)
  rw [show c - (p + j - c) = 2 * c - p - j by omega, show c + (p + j - c) = p + j by omega] at e2
  rw [← e2, e1]
  by_cases hpj : c ≤ p - j
  · have e3 : l[c - (p - j - c)]? = l[c + (p - j - c)]? := rad_mirror l c _ hc (by omega)
    rw [show c - (p - j - c) = 2 * c - p + j by omega, show c + (p - j - c) = p - j by omega] at e3
    exact e3.symm
  · have e3 : l[c - (c - (p - j))]? = l[c + (c - (p - j))]? := rad_mirror l c _ hc (by omega)
    rw [show c - (c - (p - j)) = p - j by omega, show c + (c - (p - j)) = 2 * c - p + j by omega] at e3
    exact e3
/-- one more sign -/
theorem rad_more (l : List Nat) (p r : Nat) (hp : p < l.length) (h : r ≤ rad l p) (h1 : r + 1 ≤ p) (h2 : p + r + 1 < l.length) (e : l[p - r - 1]? = l[p + r + 1]?) : r + 1 ≤ rad l p := by
  rw [le_rad l p _ hp] at h ⊢
  refine ⟨h1, by omega, fun j hj => ?_⟩
  by_cases hj' : j ≤ r
  · exact h.2.2 j hj'
  · have : j = r + 1 := by omega
    subst this
    exact e
/-- no more -/
theorem rad_stop (l : List Nat) (p r : Nat) (hp : p < l.length) (h : r ≤ rad l p) (hs : p < r + 1 ∨ l.length ≤ p + r + 1 ∨ l[p - r - 1]? ≠ l[p + r + 1]?) : r = rad l p := by
  refine Nat.le_antisymm h (Nat.le_of_not_lt fun hlt => ?_)
  have hm := (le_rad l p (r + 1) hp).mp hlt
  rcases hs with q | q | q
  · omega
  · omega
  · exact q (by have := hm.2.2 (r + 1) (Nat.le_refl _); exact this)
end Mine
end

section
open PySem PySem.W PyProof.Rows
namespace Mine
def RInv (l : List Nat) (n : Nat) (found : List Int) (midst en : Int) : Prop :=
  found = (List.range n).map (fun p => (rad l p : Int)) ∧ found.length = n ∧ n ≤ l.length ∧ 0 ≤ midst ∧ midst ≤ n ∧ 0 ≤ en ∧ (en = 0 ∨ (midst < n ∧ en = midst + rad l midst.toNat))
def WInv (l : List Nat) (p : Int) (r : Int) : Prop := 0 ≤ p ∧ p < l.length ∧ 0 ≤ r ∧ r ≤ rad l p.toNat
theorem RInv.facts {l : List Nat} {n : Nat} {found : List Int} {md en : Int} (h : RInv l n found md en) : found.length = n ∧ n ≤ l.length ∧ 0 ≤ md ∧ md ≤ n ∧ 0 ≤ en ∧ en ≤ md + md ∧ (en = 0 ∨ md < n) := by
  obtain ⟨_, h1, h2, h3, h4, h5, h6⟩ := h
  refine ⟨h1, h2, h3, h4, h5, ?_, ?_⟩
  · rcases h6 with h6 | ⟨h6, h7⟩
    · omega
    · have := (rad_le l md.toNat (by omega)).1
      omega
  · rcases h6 with h6 | ⟨h6, h7⟩
    · exact .inl h6
    · exact .inr h6
theorem WInv.facts {x : Str} {p r : Int} (h : WInv x.cps.toList p r) : 0 ≤ p ∧ p < x.length ∧ 0 ≤ r ∧ p + r < x.length ∧ r ≤ p := by
  obtain ⟨h1, h2, h3, h4⟩ := h
  have hl : x.cps.toList.length = x.length := by simp [Str.length]
  have := rad_le x.cps.toList p.toNat (by omega)
  refine ⟨h1, by omega, h3, by omega, by omega⟩
theorem RInv.init {l : List Nat} : RInv l 0 [] 0 0 := ⟨rfl, rfl, Nat.zero_le _, by omega, by omega, by omega, .inl rfl⟩
theorem item_eq {x : Str} {i j : Int} (hi0 : 0 ≤ i) (hi : i < x.length) (hj0 : 0 ≤ j) (hj : j < x.length) :
    (Txt.item x i == Txt.item x j) = decide (x.cps.toList[i.toNat]? = x.cps.toList[j.toNat]?) := by
  have h1 : i.toNat < x.cps.size := by have : x.length = x.cps.size := rfl; omega
  have h2 : j.toNat < x.cps.size := by have : x.length = x.cps.size := rfl; omega
  rw [PyProof.Rows.item_at hi0 hi rfl, PyProof.Rows.item_at hj0 hj rfl]
  have e1 : x.cps.getD i.toNat 0 = x.cps[i.toNat] := by simp [h1]
  have e2 : x.cps.getD j.toNat 0 = x.cps[j.toNat] := by simp [h2]
  rw [e1, e2]
  rw [Array.getElem?_toList, Array.getElem?_toList, Array.getElem?_eq_getElem h1, Array.getElem?_eq_getElem h2]
  by_cases h : x.cps[i.toNat] = x.cps[j.toNat]
  · rw [h]; simp
  · have h3 : ((⟨#[x.cps[i.toNat]]⟩ : Str) == ⟨#[x.cps[j.toNat]]⟩) = false := by
      rw [beq_eq_false_iff_ne]
      intro e
      injection e with e
      exact h (by simpa using e)
    rw [h3]
    simp [h]
theorem WInv.zero {x : Str} {n : Nat} (hn : n < x.length) : WInv x.cps.toList n 0 := by
  have hl : x.cps.toList.length = x.length := by simp [Str.length]
  exact ⟨by omega, by omega, by omega, by omega⟩
theorem WInv.min {x : Str} {n : Nat} {ns : List Int} {md en k : Int} (hR : RInv x.cps.toList n ns md en) (hk : k = 0 + (n : Int)) (hn : n < x.length) (hc : k < en) :
    WInv x.cps.toList n (if en - k < ns.getD (md + md - k).toNat 0 then en - k else ns.getD (md + md - k).toNat 0) := by
  have hl : x.cps.toList.length = x.length := by simp [Str.length]
  obtain ⟨h0, h1, h2, h3, h4, h5, h6⟩ := hR
  have h6 : md < n ∧ en = md + rad x.cps.toList md.toNat := by omega
  obtain ⟨h6, h7⟩ := h6
  have hr := rad_le x.cps.toList md.toNat (by omega)
  have hq : (md + md - k).toNat < n := by omega
  have hs := rad_step x.cps.toList md.toNat n (by omega) (by omega) (by omega)
  have e : ns.getD (md + md - k).toNat 0 = (rad x.cps.toList (md + md - k).toNat : Int) := by
    rw [h0, List.getD_eq_getElem?_getD, List.getElem?_map, List.getElem?_range hq]
    rfl
  rw [e]
  have e2 : (md + md - k).toNat = 2 * md.toNat - n := by omega
  rw [e2]
  refine ⟨by omega, by omega, ?_, ?_⟩
  · split <;> omega
  · have : ((n : Int)).toNat = n := by omega
    rw [this]
    split <;> omega
theorem WInv.more {x : Str} {n : Nat} {k r : Int} (hW : WInv x.cps.toList n r) (hk : k = 0 + (n : Int)) (h1 : 0 ≤ k - r - 1) (h2 : k + r + 1 < x.length) (h3 : (Txt.item x (k - r - 1) == Txt.item x (k + r + 1)) = true) : WInv x.cps.toList n (r + 1) := by
  have hl : x.cps.toList.length = x.length := by simp [Str.length]
  obtain ⟨w1, w2, w3, w4⟩ := hW
  rw [item_eq h1 (by omega) (by omega) h2] at h3
  have h3 := of_decide_eq_true h3
  have hm := rad_more x.cps.toList n r.toNat (by omega) (by have : ((n : Int)).toNat = n := by omega
                                                            rw [this] at w4; omega) (by omega) (by omega) (by
    rw [show (k - r - 1).toNat = n - r.toNat - 1 by omega, show (k + r + 1).toNat = n + r.toNat + 1 by omega] at h3
    exact h3)
  refine ⟨w1, w2, by omega, ?_⟩
  have : ((n : Int)).toNat = n := by omega
  rw [this]
  omega
theorem WInv.stop {x : Str} {n : Nat} {k r : Int} (hW : WInv x.cps.toList n r) (hk : k = 0 + (n : Int)) (hs : ¬ 0 ≤ k - r - 1 ∨ ¬ k + r + 1 < x.length ∨ (0 ≤ k - r - 1 ∧ k + r + 1 < x.length ∧ (Txt.item x (k - r - 1) == Txt.item x (k + r + 1)) = false)) : r = rad x.cps.toList n := by
  have hl : x.cps.toList.length = x.length := by simp [Str.length]
  obtain ⟨w1, w2, w3, w4⟩ := hW
  have hn : ((n : Int)).toNat = n := by omega
  rw [hn] at w4
  have := rad_stop x.cps.toList n r.toNat (by omega) (by omega) (by
    rcases hs with h | h | ⟨h1, h2, h3⟩
    · left; omega
    · right; left; omega
    · right; right
      rw [item_eq h1 (by omega) (by omega) h2] at h3
      have h3 := of_decide_eq_false h3
      rw [show (k - r - 1).toNat = n - r.toNat - 1 by omega, show (k + r + 1).toNat = n + r.toNat + 1 by omega] at h3
      exact h3)
  omega
theorem RInv.snoc {x : Str} {n : Nat} {ns : List Int} {md en k r md' en' : Int} {pre : List Int} (hR : RInv x.cps.toList pre.length ns md en) (hW : WInv x.cps.toList pre.length r) (hk : k = 0 + (pre.length : Int))
    (hs : r = rad x.cps.toList pre.length) (he : (md' = k ∧ en' = k + r ∧ en < k + r) ∨ (md' = md ∧ en' = en ∧ ¬ en < k + r)) : RInv x.cps.toList (pre ++ [k]).length (ns ++ [r]) md' en' := by
  obtain ⟨h0, h1, h2, h3, h4, h5, h6⟩ := hR
  obtain ⟨w1, w2, w3, w4⟩ := hW
  simp only [List.length_append, List.length_singleton]
  refine ⟨?_, by simp [h1], by omega, by omega, by omega, by omega, ?_⟩
  · rw [List.range_succ, List.map_append, h0, hs]
    rfl
  · rcases he with ⟨e1, e2, e3⟩ | ⟨e1, e2, e3⟩
    · right
      refine ⟨by omega, ?_⟩
      have : md'.toNat = pre.length := by omega
      rw [this]
      omega
    · rw [e1, e2]
      omega
theorem RInv.stepA {x : Str} {ns : List Int} {md en k r : Int} {pre : List Int} (hR : RInv x.cps.toList pre.length ns md en) (hW : WInv x.cps.toList pre.length r) (hk : k = 0 + (pre.length : Int))
    (hs : ¬ 0 ≤ k - r - 1 ∨ ¬ k + r + 1 < x.length ∨ (0 ≤ k - r - 1 ∧ k + r + 1 < x.length ∧ (Txt.item x (k - r - 1) == Txt.item x (k + r + 1)) = false)) (he : en < k + r) : RInv x.cps.toList (pre ++ [k]).length (ns ++ [r]) k (k + r) :=
  RInv.snoc (n := 0) hR hW hk (hW.stop hk hs) (.inl ⟨rfl, rfl, he⟩)
theorem RInv.stepB {x : Str} {ns : List Int} {md en k r : Int} {pre : List Int} (hR : RInv x.cps.toList pre.length ns md en) (hW : WInv x.cps.toList pre.length r) (hk : k = 0 + (pre.length : Int))
    (hs : ¬ 0 ≤ k - r - 1 ∨ ¬ k + r + 1 < x.length ∨ (0 ≤ k - r - 1 ∧ k + r + 1 < x.length ∧ (Txt.item x (k - r - 1) == Txt.item x (k + r + 1)) = false)) (he : ¬ en < k + r) : RInv x.cps.toList (pre ++ [k]).length (ns ++ [r]) md en :=
  RInv.snoc (n := 0) hR hW hk (hW.stop hk hs) (.inr ⟨rfl, rfl, he⟩)
def reachesOf (x : Str) : List Int := (List.range x.length).map (fun p => (rad x.cps.toList p : Int))
theorem RInv.done {x : Str} {N : Nat} {ns : List Int} {md en : Int} (h : RInv x.cps.toList (rangeKs 0 N).length ns md en) (hN : N = x.length) : ns = reachesOf x := by
  rw [rangeKs_length, hN] at h
  exact h.1
/-- the ints of a list: no token is 0, each is below tk, one token is one int -/
def TokI (vs : List Value) (tk : Nat) : Prop := (∀ (a : Int) (t : Nat), Value.int a t ∈ vs → 0 < t ∧ t < tk) ∧ ∀ (a b : Int) (t : Nat), Value.int a t ∈ vs → Value.int b t ∈ vs → a = b
theorem TokI.nil {tk : Nat} : TokI [] tk := ⟨fun _ _ h => (nomatch h), fun _ _ _ h => (nomatch h)⟩
theorem TokI.mono {vs : List Value} {tk tk' : Nat} (h : TokI vs tk) (k : tk ≤ tk') : TokI vs tk' := ⟨fun a t ht => ⟨(h.1 a t ht).1, Nat.lt_of_lt_of_le (h.1 a t ht).2 k⟩, h.2⟩
theorem TokI.left {vs us : List Value} {tk : Nat} (h : TokI (vs ++ us) tk) : TokI vs tk := ⟨fun a t ht => h.1 a t (List.mem_append_left _ ht), fun a b t ha hb => h.2 a b t (List.mem_append_left _ ha) (List.mem_append_left _ hb)⟩
theorem TokI.fresh {vs : List Value} {tk T X : Nat} {a : Int} (h : TokI vs tk) (h0 : 0 < T) (h1 : tk ≤ T) (h2 : T < X) : TokI (vs ++ [.int a T]) X := by
  constructor
  · intro b t hb
    rcases List.mem_append.mp hb with hb | hb
    · have := h.1 b t hb; exact ⟨this.1, by omega⟩
    · cases List.mem_singleton.mp hb; exact ⟨h0, h2⟩
  · intro b c t hb hc
    rcases List.mem_append.mp hb with hb | hb <;> rcases List.mem_append.mp hc with hc | hc
    · exact h.2 b c t hb hc
    · cases List.mem_singleton.mp hc; have := (h.1 b T hb).2; omega
    · cases List.mem_singleton.mp hb; have := (h.1 c T hc).2; omega
    · cases List.mem_singleton.mp hb; cases List.mem_singleton.mp hc; rfl
theorem TokI.old {vs : List Value} {tk X T : Nat} {a : Int} (h : TokI vs tk) (hm : Value.int a T ∈ vs) (h1 : tk ≤ X) : TokI (vs ++ [.int a T]) X := by
  have hs : ∀ v, v ∈ vs ++ [Value.int a T] → v ∈ vs := fun v hv => by
    rcases List.mem_append.mp hv with hv | hv
    · exact hv
    · cases List.mem_singleton.mp hv; exact hm
  exact ⟨fun b t hb => ⟨(h.1 b t (hs _ hb)).1, Nat.lt_of_lt_of_le (h.1 b t (hs _ hb)).2 h1⟩, fun b c t hb hc => h.2 b c t (hs _ hb) (hs _ hc)⟩
theorem TokI.pick {vs : List Value} {tk X T U : Nat} {a b : Int} {c : Prop} [Decidable c] (h : TokI vs tk) (h0 : 0 < T) (h1 : tk ≤ T) (h2 : T < X) (hm : Value.int b U ∈ vs) : TokI (vs ++ [.int (if c then a else b) (if c then T else U)]) X := by
  by_cases hc : c
  · rw [if_pos hc, if_pos hc]; exact h.fresh h0 h1 h2
  · rw [if_neg hc, if_neg hc]; exact h.old hm (by omega)
end Mine
end

section
open PySem PySem.W PyProof.Rows PySem.Calls
set_option Elab.async false
set_option maxRecDepth 100000
set_option linter.unusedVariables false
set_option linter.unusedSimpArgs false
namespace Mine
theorem ex_A3_1 : (fun (_ : OpenLaw) (_ : Params → Frag) => True) PySem.Challenge.rw_xi0001_01 hd_law.heap_39 = True := by
  k_fill
  k_with_none
  rfl
structure RSt where
  vs : List Value
  ns : List Int
  cn : Nat
  md : Int
  t1 : Tok
  en : Int
  t2 : Tok
local macro_rules | `(tactic| walk_at "execs cons") => `(tactic| ((try k_fold); (with_reducible refine gen_toks ?_); intro tkG htkG; (try dsimp only at htkG); (with_reducible refine wpAny_execs_cons ?_); (try dsimp only)))
local macro_rules | `(tactic| walk_at "execs nil") => `(tactic| ((with_reducible refine wpAny_execs_nil ?_); (try dsimp only)))
local macro_rules | `(tactic| walk_at "exec For Name Call cons nil") => `(tactic| (k_here; k_dflt (refine wpAny_For ?_ (by intro _; rfl))))
local macro_rules | `(tactic| walk_at "pyIter ref") => `(tactic| (k_extra "my pyIter"))
local macro_rules | `(tactic| walk_at "call builtin:list.append") => `(tactic| (k_extra "my append"))
local macro_rules | `(tactic| walk_at "TPost") => `(tactic| dsimp only [TPost])
local macro_rules | `(tactic| walk_at "TwPost") => `(tactic| dsimp only [TwPost])
local macro_rules | `(tactic| walk_at "TEnd") => `(tactic| (k_extra "my TEnd"))
local macro_rules | `(tactic| walk_at "TwEnd") => `(tactic| (k_extra "my TwEnd"))
local macro_rules | `(tactic| walk_at "exec While") => `(tactic| (k_extra "my While"))
local macro_rules | `(tactic| walk_at "call ref") => `(tactic| (k_extra "my call"))
local macro_rules | `(tactic| walk_at "call builtin:min") => `(tactic| (k_here; k_dflt ((rename Fr _ _ _ _ => lF'); (rename News _ _ _ _ => lN'); (refine' min_T rfl lF' lN' ?_); intro h5 tk5 hle5 F5 N5; (try dsimp only at hle5))))
local macro_rules | `(tactic| walk_at "subscriptTail") => `(tactic| (k_extra "my item"))
/-- an item of a list of ints in the ledger, its token one of the list's -/
theorem item_led {prog : Program} {w : World} {A : Around} {E : Value → Shared → Prop} {s : Shared} {h₀ : Heap} {L l : Addr} {news : List (Addr × Obj)} {vs : List Value} {ns : List Int} {nn : Nat} {k : Int} {u : Tok} {value slice : Expr} {Q : Value → Shared → Prop}
    (N : News h₀ L s.heap news) (hm : (l, listOf vs.toArray nn) ∈ news) (hi : IntsAre vs ns) (h0 : 0 ≤ k) (h1 : k < vs.length) (hlen : vs.length ≤ 1000)
    (h : ∀ t : Nat, Value.int (ns.getD k.toNat 0) t ∈ vs → Q (.int (ns.getD k.toNat 0) t) s)
    (hs : subscripted slice false (.ref l) (.int k u) = operate [.ref l, .int k u] (getItem (.ref l) (.int k u)) := by with_unfolding_all rfl) :
    wpAny (model prog w) A (subscriptTail value slice (.ref l) (.int k u)) Q E s := by
  have hl : s.heap.IsList l vs.toArray := ⟨_, (N _ hm).1, rfl, nn, rfl⟩
  have hk : k.toNat < vs.length := by omega
  have hkn : k.toNat < ns.length := by rw [← hi.length]; exact hk
  obtain ⟨t, ht⟩ := hi.get k.toNat ns[k.toNat] (by simp [hkn])
  have e : ns.getD k.toNat 0 = ns[k.toNat] := by simp [hkn]
  have hv : Value.int (ns.getD k.toNat 0) t ∈ vs := by rw [e]; exact List.mem_of_getElem? ht
  exact tail_any hl.typeIs F.slot_list_getitem.lookup (wpAny_getItem_list hl h0 (by omega) (x := .int (ns.getD k.toNat 0) t) (by rw [e]; simpa using ht) (h t hv)) hs
abbrev RetL (news : List (Addr × Obj)) (ns : List Int) (s : Shared) (h₀ : Heap) (L : Addr) (m : Str → Option Value) (h' : Heap) (tk' : Nat) (v : Value) : Prop :=
  ∃ l vs nn, v = .ref l ∧ IntsAre vs ns ∧ Fr h₀ L h' m ∧ News h₀ L h' ((l, listOf vs.toArray nn) :: news) ∧ (∀ p ∈ news, p.1 < l) ∧ TokI vs tk'
set_option maxHeartbeats 8000000 in
theorem reaches_c {w : World} {mean : ExcName → Option Value} {mg mb : Str → Option Value} {news : List (Addr × Obj)} (x : Str) (t : Tok) (hx : x.length ≤ 1000) : CallC w mean mg mb 136 3 24 news [.str x t] (RetL news (reachesOf x)) := by
  intro dp un gd cn cs a ccd cl outer A₀ base h₀ L m s Q E B F X N T hk hd hu hret
  k_with_none
  k_with "my pyIter" =>
    k_here
    k_dflt (
      (rename Fr _ _ _ _ => lF')
      (rename News _ _ _ _ => lN')
      (rename IsRange _ _ _ _ _ _ _ _ => rgX)
      (rename (∀ p ∈ news, p.1 < _) => hltl)
      (refine' rangeT (σ := RSt) (fun c => (_, _) :: (_, listOf c.vs.toArray c.cn) :: news) (fun c => [(Str.ofString "midst", .int c.md c.t1), (Str.ofString "end", .int c.en c.t2)]) (fun c => IntsAre c.vs c.ns) [Str.ofString "reach"] (fun pre c tk => RInv x.cps.toList pre.length c.ns c.md c.en ∧ TokI c.vs tk) ⟨[], [], 0, 0, _, 0, _⟩ rfl rfl rfl rgX ?small (rangeSize_nat _ _) lF' lN' ?kf ?kk ?kp (fun _ _ _ _ hle hp => ⟨hp.1, hp.2.mono hle⟩) ?_ ?_)
      (case small => exact small_one (by omega) (by omega) (by omega) (by omega))
      (case kk => kst_all)
      (case kf => exact .nil)
      (case kp => exact ⟨RInv.init, TokI.nil⟩)
      (all_goals first | (rintro ⟨vs, ns, cn, md, t1, en, t2⟩ pre k tk9 u h9 tk8 own hkn hlt hoff hfa ⟨hin, htok⟩ htk0 kFr kNews; (dsimp only [kstB] at kFr); (dsimp only at kNews hfa hin hoff htok); (simp only [List.map_cons, List.map_nil] at hoff); (have kMark := kstMark); (have hfc := hin.facts); (obtain ⟨hf1, hf2, hf3, hf4, hf5, hf6, hf7⟩ := hfc); (have kLen := IntsAre.length hfa); (try k_fold)) | (rintro ⟨vs, ns, cn, md, t1, en, t2⟩ u h9 tk8 hfa ⟨hin, htok⟩ kFr kNews; (dsimp only [kstB] at kFr); (dsimp only at kNews hfa hin htok); (have hdone := hin.done (by omega)); (subst hdone); (have kMark := kstMark); (try k_unfold); (try dsimp only))))
  k_with "my item" =>
    k_here
    (with_reducible show wpAny _ _ (subscriptTail _ _ (Value.ref _) (Value.int _ _)) _ _ _)
    k_dflt (
      (rename News _ _ _ _ => lN')
      (refine' item_led lN' ?ia hfa ?ib ?ic ?id ?_)
      (case ia => (refine List.mem_append_left _ ?_; exact .tail _ (.head _)))
      (case ib => omega)
      (case ic => omega)
      (case id => omega)
      intro t6 hmem6)
  k_with "my While" =>
    k_here
    k_dflt (
      (rename Fr _ _ _ _ => lF')
      (rename News _ _ _ _ => lN')
      (refine' whileC (σ := Int × Tok) (fun c => [(Str.ofString "reach", .int c.1 c.2)]) [] (fun c tk => WInv x.cps.toList pre.length c.1 ∧ TokI (vs ++ [.int c.1 c.2]) tk ∧ 0 < tk) (fun c => (x.length - c.1).toNat) (_, _) lF' lN' ?kk ?kp ?_)
      (case kk => kst_all)
      (case kp => (try dsimp only); first | exact ⟨WInv.zero (by omega), htok.fresh (by omega) (by omega) (by omega), by omega⟩ | exact ⟨WInv.min hin hkn (by omega) (by assumption), htok.pick (by omega) (by omega) (by omega) hmem6, by omega⟩)
      (rintro ⟨r, tr⟩ u2 h8 tk7 ⟨hw, hwt, hw0⟩ kFr kNews; (dsimp only [kstB] at kFr); (dsimp only at kNews hw hwt); (have hwc := hw.facts); (obtain ⟨hw1, hw2, hw3, hw4, hw5⟩ := hwc); (try k_fold)))
  k_with "my append" =>
    k_here
    k_dflt (
      (rename Fr _ _ _ _ => lF')
      (rename News _ _ _ _ => lN')
      (refine' append_K lF' lN' ?ka ?_ ?kz)
      (case ka => (refine' Upd.tail ?a1 (Upd.head ?a2); (case a1 => k_ne); (case a2 => (refine List.forall_mem_append.mpr ⟨?a3, ?a4⟩; (case a3 => exact fun p hp => Nat.ne_of_lt (hltl p hp)); (case a4 => exact hoff.ne (by k_memK))))))
      (case kz => (rw [List.size_toArray, PySem.sizeLine_eq]; omega))
      intro h6 F6 N6; (try k_sweep))
  k_with "my TEnd" =>
    k_dflt (
      (rename News _ _ _ _ => nE')
      (try simp only [List.push_toArray] at nE')
      (refine tend (⟨_, _, _, _, _, _, _⟩ : RSt) (by assumption) nE' (List.forall_mem_cons.mpr ⟨by k_memK, List.forall_mem_cons.mpr ⟨by k_memK, fun p hp => by first | exact .tail _ (.tail _ (List.mem_append_left _ hp)) | exact .tail _ (.tail _ (.tail _ (List.mem_append_left _ hp)))⟩⟩) (by first | (intro p hp; kst_mem) | kst_anyIn) (by rfl) (by kst_facts) (by kst_all) (by kst_same) ?kp)
      (case kp => (try dsimp only); first | exact ⟨RInv.stepA hin hw hkn (by first | exact .inl (by assumption) | exact .inr (.inl (by assumption)) | exact .inr (.inr ⟨by assumption, by assumption, by assumption⟩)) (by first | assumption | omega), hwt.mono (by omega)⟩ | exact ⟨RInv.stepB hin hw hkn (by first | exact .inl (by assumption) | exact .inr (.inl (by assumption)) | exact .inr (.inr ⟨by assumption, by assumption, by assumption⟩)) (by first | assumption | omega), hwt.mono (by omega)⟩))
  k_with "my TwEnd" =>
    k_dflt (
      (rename News _ _ _ _ => nE')
      (refine twend (⟨_, _⟩ : Int × Tok) (by assumption) nE' (by first | exact fun p hp => hp | exact fun p hp => .tail _ hp | exact fun p hp => .tail _ (.tail _ hp)) True.intro (by kst_all) (by ksw_same) ?kp ?km)
      (case kp => (try dsimp only); exact ⟨WInv.more hw hkn (by assumption) (by assumption) (by assumption), hwt.left.fresh (by omega) (by omega) (by omega), by omega⟩)
      (case km => ((try dsimp only); omega)))
  k_with "my call" =>
    k_here
    k_dflt (first
      | (refine' callC_use (add_c _ _ _ _) ?k1 ?k2 ?k3 ?k4 ?k5 ?k6 ?k7 ?k8 ?_; (case k1 => k_asm); (case k2 => k_asm); (case k3 => k_asm); (case k4 => k_asm); (case k5 => k_asm); (case k6 => first | exact rfl | assumption); (case k7 => ktr_room); (case k8 => ktr_units); (rintro h9 tk9 v9 ⟨t9, rfl, F9, N9, hta9, htb9⟩; (try dsimp only at hta9); (try dsimp only); (try k_fold)))
      | (refine' callC_use (sub_c _ _ _ _) ?k1 ?k2 ?k3 ?k4 ?k5 ?k6 ?k7 ?k8 ?_; (case k1 => k_asm); (case k2 => k_asm); (case k3 => k_asm); (case k4 => k_asm); (case k5 => k_asm); (case k6 => first | exact rfl | assumption); (case k7 => ktr_room); (case k8 => ktr_units); (rintro h9 tk9 v9 ⟨t9, rfl, F9, N9, hta9, htb9⟩; (try dsimp only at hta9); (try dsimp only); (try k_fold))))
  refine wpAny_call ?_
  cell_enter
  k_steps
  all_goals ((rename News _ _ _ _ => nE'); (rename (∀ p ∈ news, p.1 < _) => hltl); exact hret _ _ _ ⟨_, _, _, rfl, by assumption, by assumption, fun p hp => nE' p (.tail _ hp), hltl, htok.mono (by omega)⟩)
end Mine
end

section
open PySem PySem.W PyProof.Rows PySem.Calls PySem.Spec
set_option linter.unusedVariables false
namespace Mine
/-- a turn's end, any target, any walk -/
def GEnd {σ : Type} (h₀ : Heap) (L : Addr) (Led : σ → List (Addr × Obj)) (Inv : σ → (Str → Option Value) → Nat → Prop) (own : Addr × Obj) (adr : List Addr) (s₁ s₂ : Shared) : Prop :=
  ∃ (c : σ) (h' : Heap) (tk : Nat) (m' : Str → Option Value) (news' : List (Addr × Obj)), s₂ = { s₁ with heap := h', toks := tk } ∧ Fr h₀ L h' m' ∧ News h₀ L h' news' ∧ (∀ p ∈ Led c, p ∈ news') ∧ own ∈ news' ∧ (Led c).map (·.1) = adr ∧ Inv c m' tk
def GPost {σ : Type} (h₀ : Heap) (L : Addr) (Led : σ → List (Addr × Obj)) (Inv : σ → (Str → Option Value) → Nat → Prop) (own : Addr × Obj) (adr : List Addr) (s₁ : Shared) (Q : Flow → Shared → Prop) (f : Flow) (s₂ : Shared) : Prop :=
  match f with
  | .ret v => Q (.ret v) s₂
  | .brk => Q .next s₂
  | _ => GEnd h₀ L Led Inv own adr s₁ s₂
theorem gend {σ : Type} {h₀ : Heap} {L : Addr} {Led : σ → List (Addr × Obj)} {Inv : σ → (Str → Option Value) → Nat → Prop} {own : Addr × Obj} {adr : List Addr} {s₁ : Shared} {h' : Heap} {tk : Nat} {m' : Str → Option Value} {news' : List (Addr × Obj)} (c : σ)
    (F : Fr h₀ L h' m') (N : News h₀ L h' news') (hn : ∀ p ∈ Led c, p ∈ news') (ho : own ∈ news') (ha : (Led c).map (·.1) = adr) (hp : Inv c m' tk) :
    GEnd h₀ L Led Inv own adr s₁ { s₁ with heap := h', toks := tk } := ⟨c, h', tk, m', news', rfl, F, N, hn, ho, ha, hp⟩

section
variable {prog : Program} {w : World} {A : Around} {E : Value → Shared → Prop} {s : Shared} {env : Env} {h₀ : Heap} {tgt : Expr} {body : List Stmt} {Q : Flow → Shared → Prop}
theorem loopG {σ : Type} {I : Addr} {fp : List Addr} {n : Nat} {Pv : Nat → Value → Prop} {St : Nat → Heap → Prop} {m₀ : Str → Option Value} {orelse : List Stmt} (W : Walks prog w A I fp [I] n Pv St)
    (Led : σ → List (Addr × Obj)) (Inv : Nat → σ → (Str → Option Value) → Nat → Prop) (c₀ : σ)
    (hLI : env.locals ≠ I) (hIn : h₀.get? I = none) (hled : ∀ p ∈ Led c₀, p.1 ≠ I)
    (hfp : ∀ b ∈ fp, b ≠ I → (∃ o, h₀.get? b = some o) ∨ ∃ o, ∀ c, (b, o) ∈ Led c)
    (hst : St 0 s.heap) (hI : ∃ o, s.heap.get? I = some o) (F : Fr h₀ env.locals s.heap m₀) (N : News h₀ env.locals s.heap (Led c₀)) (hp : Inv 0 c₀ m₀ s.toks)
    (hmono : ∀ i c m tk tk', tk ≤ tk' → Inv i c m tk → Inv i c m tk')
    (hnext : ∀ i h, St (i + 1) h → ∃ o, h.get? I = some o)
    (turn : ∀ i v (c : σ) m h tk oI, i < n → Pv i v → Inv i c m tk → OwnOff [(I, oI)] ((Led c₀).map (·.1)) → Fr h₀ env.locals h m → News h₀ env.locals h (Led c ++ [(I, oI)]) →
      wpAny (model prog w) A (assign tgt env v) (fun _ s₂ => wpAny (model prog w) A (execs body env) (GPost h₀ env.locals Led (Inv (i + 1)) (I, oI) ((Led c₀).map (·.1)) { s with heap := h, toks := tk } Q) E s₂) E { s with heap := h, toks := tk })
    (done : ∀ (c : σ) m h tk, Inv n c m tk → Fr h₀ env.locals h m → News h₀ env.locals h (Led c) → wpAny (model prog w) A (execs orelse env) Q E { s with heap := h, toks := tk })
    (ht : ∀ v, letOwnedTupleGo tgt (.ref I) v = pure ())
    (hE : PassesOwn (model prog w) A env E) :
    codeAny (model prog w) A (.forLoop tgt (.ref I) body orelse env) (fun r s' => match r with | .ok f => Q f s' | .error e => cameBackBy (model prog w) A env E e s') s := by
  have hadr : ∀ c : σ, (Led c).map (·.1) = (Led c₀).map (·.1) → ∀ p ∈ Led c, p.1 ≠ I := fun c hc p hp e => by
    have h1 : p.1 ∈ (Led c).map (·.1) := List.mem_map.mpr ⟨p, hp, rfl⟩
    rw [hc] at h1
    obtain ⟨q, hq, e2⟩ := List.mem_map.mp h1
    exact hled q hq (e2.trans e)
  refine codeAny_forLoop (fun k s' => ∃ (h' : Heap) (tk : Nat) (m' : Str → Option Value) (c : σ) (i : Nat), s' = { s with heap := h', toks := tk } ∧ St i h' ∧ Fr h₀ env.locals h' m' ∧ News h₀ env.locals h' (Led c) ∧
    (Led c).map (·.1) = (Led c₀).map (·.1) ∧ Inv i c m' tk ∧ i ≤ n ∧ k = n + 1 - i) ?_ (n + 1) ⟨s.heap, s.toks, m₀, c₀, 0, rfl, hst, F, N, rfl, hp, Nat.zero_le _, rfl⟩ ht
  rintro k s' ⟨h', tk, m', c, i, rfl, hst', F', N', hc, hp', hi, rfl⟩
  have keep : ∀ h₁ : Heap, (∀ b o, b ∉ [I] → h'.get? b = some o → h₁.get? b = some o) → Fr h₀ env.locals h₁ m' ∧ News h₀ env.locals h₁ (Led c) := fun h₁ hk₁ =>
    ⟨⟨F'.ns.at' fun o e => hk₁ _ o (by simpa using hLI) e, fun b o e => hk₁ b o (fun hb => by rw [List.mem_singleton.mp hb, hIn] at e; cases e) (F'.keep b o e), F'.above⟩,
      fun p hp => ⟨hk₁ _ _ (by simpa using hadr c hc p hp) (N' p hp).1, (N' p hp).2⟩⟩
  by_cases hlt : i < n
  · refine wpAny_mono (wpAny_toks (W.item i { s with heap := h', toks := tk } (fun r s₁ => ∃ v h₁ tk₁, r = some v ∧ s₁ = { s with heap := h₁, toks := tk₁ } ∧ Pv i v ∧ St (i + 1) h₁ ∧ ∀ b o, b ∉ [I] → h'.get? b = some o → h₁.get? b = some o) _ hlt hst'
      (fun v h₁ tk₁ hv hst₁ hk₁ => ⟨v, h₁, tk₁, rfl, rfl, hv, hst₁, hk₁⟩))) (fun r s₁ hq => ?_) fun e s₁ he => he.2
    obtain ⟨hle, v, h₁, tk₁, rfl, rfl, hv, hst₁, hk₁⟩ := hq
    have hle' : tk ≤ tk₁ := hle
    obtain ⟨F₁, N₁⟩ := keep h₁ hk₁
    obtain ⟨oI, hoI⟩ := hnext i h₁ hst₁
    have hoff : OwnOff [(I, oI)] ((Led c₀).map (·.1)) := fun p hp b hb e => by
      rw [List.mem_singleton.mp hp] at e
      obtain ⟨q, hq, e2⟩ := List.mem_map.mp hb
      exact hled q hq (e2.trans e.symm)
    have hnew : News h₀ env.locals h₁ (Led c ++ [(I, oI)]) := fun p hp => by
      rcases List.mem_append.mp hp with hp | hp
      · exact N₁ p hp
      · rw [List.mem_singleton.mp hp]
        exact ⟨hoI, Ne.symm hLI, hIn⟩
    refine wpAny_mono (wpAny_passesOwn hE (turn i v c m' h₁ tk₁ oI hlt hv (hmono _ _ _ _ _ hle' hp') hoff F₁ hnew)) (fun _ s₂ h₂ => ?_) fun _ _ e => e
    refine wpAny_mono (wpAny_passesOwn hE h₂) (fun f s₃ h₃ => ?_) fun _ _ e => e
    have fin : GEnd h₀ env.locals Led (Inv (i + 1)) (I, oI) ((Led c₀).map (·.1)) { s with heap := h₁, toks := tk₁ } s₃ → ∃ m_1, m_1 < n + 1 - i ∧ ∃ (h' : Heap) (tk : Nat) (m' : Str → Option Value) (c : σ) (i : Nat), s₃ = { s with heap := h', toks := tk } ∧ St i h' ∧ Fr h₀ env.locals h' m' ∧ News h₀ env.locals h' (Led c) ∧
        (Led c).map (·.1) = (Led c₀).map (·.1) ∧ Inv i c m' tk ∧ i ≤ n ∧ m_1 = n + 1 - i := by
      rintro ⟨c', h₃', tk₃, m₃, news₃, rfl, F₃, N₃, hn₃, ho₃, ha₃, hp₃⟩
      refine ⟨n + 1 - (i + 1), by omega, h₃', tk₃, m₃, c', i + 1, rfl, ?_, F₃, fun p hp => N₃ p (hn₃ p hp), ha₃, hp₃, hlt, rfl⟩
      refine W.frame _ _ _ hst₁ fun b hb o e => ?_
      by_cases hbI : b = I
      · subst hbI
        rw [hoI] at e; cases e
        exact (N₃ _ ho₃).1
      · rcases hfp b hb hbI with ⟨o₀, h0⟩ | ⟨o₀, h0⟩
        · have := F₁.keep b o₀ h0
          rw [e] at this; cases this
          exact F₃.keep b o h0
        · have := (N₁ _ (h0 c)).1
          rw [e] at this; cases this
          exact (N₃ _ (hn₃ _ (h0 c'))).1
    cases f with
    | ret v => exact h₃
    | brk => exact h₃
    | next => exact fin h₃
    | cont => exact fin h₃
  · have hin : i = n := by omega
    subst hin
    refine wpAny_mono (wpAny_toks (W.done { s with heap := h', toks := tk } (fun r s₁ => ∃ h₁ tk₁, r = none ∧ s₁ = { s with heap := h₁, toks := tk₁ } ∧ ∀ b o, b ∉ [I] → h'.get? b = some o → h₁.get? b = some o) _ hst' (fun h₁ tk₁ hk₁ => ⟨h₁, tk₁, rfl, rfl, hk₁⟩))) (fun r s₁ hq => ?_) fun e s₁ he => he.2
    obtain ⟨hle, h₁, tk₁, rfl, rfl, hk₁⟩ := hq
    have hle' : tk ≤ tk₁ := hle
    obtain ⟨F₁, N₁⟩ := keep h₁ hk₁
    exact wpAny_passesOwn hE (done c m' h₁ tk₁ (hmono _ _ _ _ _ hle' hp') F₁ N₁)

/-- a loop over a range, any target -/
theorem rangeG {σ : Type} {r : Addr} {a₀ b₀ : Int} {t₀ u₀ v₀ : Tok} {n : Nat} {m₀ : Str → Option Value} (Led : σ → List (Addr × Obj)) (Inv : Nat → σ → (Str → Option Value) → Nat → Prop) (c₀ : σ)
    (hh : A.handled = none) (hr : IsRange s.heap r a₀ b₀ 1 t₀ u₀ v₀) (hsmall : Builtin.Range.small a₀ b₀ 1 = true) (hn : Builtin.Range.rangeSize a₀ b₀ 1 = (n : Int))
    (F : Fr h₀ env.locals s.heap m₀) (N : News h₀ env.locals s.heap (Led c₀)) (hp : Inv 0 c₀ m₀ s.toks)
    (hmono : ∀ i c m tk tk', tk ≤ tk' → Inv i c m tk → Inv i c m tk')
    (turn : ∀ i (k : Int) t (c : σ) m h tk I oI, i < n → k = a₀ + (i : Int) → Inv i c m tk → OwnOff [(I, oI)] ((Led c₀).map (·.1)) → (∀ p ∈ Led c₀, p.1 < I) → Fr h₀ env.locals h m → News h₀ env.locals h (Led c ++ [(I, oI)]) →
      wpAny (model prog w) A (assign tgt env (.int k t)) (fun _ s₂ => wpAny (model prog w) A (execs body env) (GPost h₀ env.locals Led (Inv (i + 1)) (I, oI) ((Led c₀).map (·.1)) { s with heap := h, toks := tk } Q) E s₂) E { s with heap := h, toks := tk })
    (done : ∀ (c : σ) m h tk, Inv n c m tk → Fr h₀ env.locals h m → News h₀ env.locals h (Led c) → Q .next { s with heap := h, toks := tk })
    (ht : ∀ it v, letOwnedTupleGo tgt it v = pure () := by intro _ _; rfl)
    (hE : PassesOwn (model prog w) A env E := by passes_own) :
    wpAny (model prog w) A (pyIter (.ref r)) (fun it s₂ => codeAny (model prog w) A (.forLoop tgt it body [] env) (fun r s' => match r with | .ok f => Q f s' | .error e => cameBackBy (model prog w) A env E e s') s₂) E s := by
  refine wpAny_pyIter_range hr hsmall ?_
  generalize hI : s.heap.objs.size = I
  have W : Walks prog w A I [I] [I] n (fun i v => i < n ∧ ∃ t, v = .int (a₀ + i * 1) t)
      (fun i h => IsRangeIter h I (a₀ + (i : Nat) * 1) ((n : Int) - (i : Nat)) 1) := (Walks.range hh _ a₀ 1 n).bound
  have hlt : ∀ p ∈ Led c₀, p.1 < I := fun p hp => by rw [← hI]; exact Heap.lt_size (N p hp).1
  have hI0 : (s.heap.push { cls := .type "range_iterator", data := .fields #[rawInt a₀, rawInt (Builtin.Range.rangeSize a₀ b₀ 1), rawInt 1] }).get? I = some { cls := .type "range_iterator", data := .fields #[rawInt a₀, rawInt (Builtin.Range.rangeSize a₀ b₀ 1), rawInt 1] } := by rw [← hI]; exact Heap.get?_push_size _ rfl
  refine loopG W Led Inv c₀ (by rw [← hI]; exact Nat.ne_of_lt F.ns.lt) (by rw [← hI]; exact next_is_new F) (fun p hp => Nat.ne_of_lt (hlt p hp)) (fun b hb hne => absurd (List.mem_singleton.mp hb) hne)
    ?_ ⟨_, hI0⟩ (F.push _) (fun p hp => ⟨Heap.get?_push_of_some _ (N p hp).1, (N p hp).2⟩) hp hmono (fun i h st => ⟨_, st⟩) ?_ (fun c m h tk hp F N => wpAny_execs_nil (done c m h tk hp F N)) (ht _) hE
  · show IsRangeIter _ _ _ _ _
    rw [hn] at hI0
    simpa [hn] using hI0
  · rintro i v c m h tk oI hi ⟨_, t, rfl⟩ hinv hoff F₁ N₁
    exact turn i _ t c m h tk I oI hi (by omega) hinv hoff hlt F₁ N₁
/-- a loop over a list of the ledger, any target -/
theorem listG {σ : Type} {l : Addr} {vs : List Value} {nn : Nat} {m₀ : Str → Option Value} {orelse : List Stmt} (Led : σ → List (Addr × Obj)) (Inv : Nat → σ → (Str → Option Value) → Nat → Prop) (c₀ : σ)
    (hh : A.handled = none) (hm : ∀ c, (l, listOf vs.toArray nn) ∈ Led c)
    (F : Fr h₀ env.locals s.heap m₀) (N : News h₀ env.locals s.heap (Led c₀)) (hp : Inv 0 c₀ m₀ s.toks)
    (hmono : ∀ i c m tk tk', tk ≤ tk' → Inv i c m tk → Inv i c m tk')
    (turn : ∀ i v (c : σ) m h tk I oI, i < vs.length → vs[i]? = some v → Inv i c m tk → OwnOff [(I, oI)] ((Led c₀).map (·.1)) → (∀ p ∈ Led c₀, p.1 < I) → Fr h₀ env.locals h m → News h₀ env.locals h (Led c ++ [(I, oI)]) →
      wpAny (model prog w) A (assign tgt env v) (fun _ s₂ => wpAny (model prog w) A (execs body env) (GPost h₀ env.locals Led (Inv (i + 1)) (I, oI) ((Led c₀).map (·.1)) { s with heap := h, toks := tk } Q) E s₂) E { s with heap := h, toks := tk })
    (done : ∀ (c : σ) m h tk, Inv vs.length c m tk → Fr h₀ env.locals h m → News h₀ env.locals h (Led c) → wpAny (model prog w) A (execs orelse env) Q E { s with heap := h, toks := tk })
    (ht : ∀ it v, letOwnedTupleGo tgt it v = pure () := by intro _ _; rfl)
    (hE : PassesOwn (model prog w) A env E := by passes_own) :
    wpAny (model prog w) A (pyIter (.ref l)) (fun it s₂ => codeAny (model prog w) A (.forLoop tgt it body orelse env) (fun r s' => match r with | .ok f => Q f s' | .error e => cameBackBy (model prog w) A env E e s') s₂) E s := by
  have hl : s.heap.IsList l vs.toArray := ⟨_, (N _ (hm c₀)).1, rfl, nn, rfl⟩
  refine wpAny_pyIter_list hl ?_
  have hlt : ∀ p ∈ Led c₀, p.1 < s.heap.objs.size := fun p hp => Heap.lt_size (N p hp).1
  have hne : l ≠ s.heap.objs.size := Nat.ne_of_lt (hlt _ (hm c₀))
  have W := Walks.list (prog := prog) (w := w) hh s.heap.objs.size l hne vs.toArray
  have hsz : vs.toArray.size = vs.length := by simp
  rw [hsz] at W
  refine loopG W Led Inv c₀ (Nat.ne_of_lt F.ns.lt) (next_is_new F) (fun p hp => Nat.ne_of_lt (hlt p hp)) (fun b hb hbI => .inr ⟨PySem.W.listOf vs.toArray nn, fun c => ?_⟩)
    ⟨⟨_, Heap.get?_push_size _ rfl, rfl, rfl⟩, hl.at fun o e => Heap.get?_push_of_some _ e⟩ ⟨_, Heap.get?_push_size _ rfl⟩ (F.push _) (fun p hp => ⟨Heap.get?_push_of_some _ (N p hp).1, (N p hp).2⟩) hp hmono (fun i h st => ⟨_, st.1.choose_spec.1⟩) ?_ done (ht _) hE
  · rcases List.mem_cons.mp hb with e | hb
    · exact absurd e hbI
    · rw [List.mem_singleton.mp hb]
      exact hm c
  · intro i v c m h tk oI hi hv hinv hoff F₁ N₁
    exact turn i v c m h tk _ oI hi (by simpa using hv) hinv hoff hlt F₁ N₁
/-- is, of two ints that the interpreter keeps, their tokens told apart -/
theorem is_int {M : Model} {p q : Int} {t u : Nat} {Q : Value → Shared → Prop} (hp : 0 ≤ p) (hp2 : p ≤ 256) (ht : 0 < t) (hu : 0 < u) (htu : t = u → p = q) (h : Q (.bool (decide (p = q))) s) : wpAny M A (compareOp .Is (.int p t) (.int q u)) Q E s := by
  have ht0 : (t == 0) = false := by simp; omega
  have hu0 : (u == 0) = false := by simp; omega
  show wpAny M A (do return .bool (← isSame (.int p t) (.int q u))) Q E s
  refine wpAny_bind ?_
  by_cases e : p = q
  · subst e
    have hs : smallInt p = true := by unfold smallInt; simp; omega
    show wpAny M A (if (p == p && smallInt p) = true then isSame.cachedInt t u else isSame.created (p == p) t u) _ E s
    rw [if_pos (by simp [hs])]
    unfold isSame.cachedInt
    rw [if_neg (by simp [ht0, hu0])]
    refine wpAny_bind (wpAny_rule (wpAny_pure (wpAny_pure ?_)))
    simpa using h
  · have hne : (p == q) = false := by simpa using e
    have htu' : (t == u) = false := by simpa using fun x => e (htu x)
    have hc : isSame.created (p == q) t u = pure false := by
      unfold isSame.created
      rw [ht0, hu0, htu', hne]
      rfl
    have hs : isSame (.int p t) (.int q u) = pure false := by
      show (if (p == q && smallInt p) = true then isSame.cachedInt t u else isSame.created (p == q) t u) = pure false
      rw [if_neg (by simp [hne]), hc]
    rw [hs]
    refine wpAny_pure (wpAny_pure ?_)
    simpa [e] using h
end
/-- what a frame's map says, by named letters -/
def KInv {σ : Type} (ps : σ → List (Str × Value)) (x : Str) (stored : List Str) (m₀ : Str → Option Value) (P : Nat → σ → Nat → Prop) (i : Nat) (c : σ) (m : Str → Option Value) (tk : Nat) : Prop :=
  (∀ p ∈ ps c, m p.1 = some p.2) ∧ (∀ z, z ≠ x → (∀ p ∈ ps c, z ≠ p.1) → stored.contains z = false → m z = m₀ z) ∧ P i c tk
theorem KInv.start {σ : Type} {ps : σ → List (Str × Value)} {x : Str} {stored : List Str} {m₀ : Str → Option Value} {P : Nat → σ → Nat → Prop} {c : σ} {tk : Nat} (hk : ∀ p ∈ ps c, m₀ p.1 = some p.2) (hp : P 0 c tk) : KInv ps x stored m₀ P 0 c m₀ tk := ⟨hk, fun _ _ _ _ => rfl, hp⟩
theorem KInv.mono {σ : Type} {ps : σ → List (Str × Value)} {x : Str} {stored : List Str} {m₀ : Str → Option Value} {P : Nat → σ → Nat → Prop} (hP : ∀ i c tk tk', tk ≤ tk' → P i c tk → P i c tk') : ∀ i c m tk tk', tk ≤ tk' → KInv ps x stored m₀ P i c m tk → KInv ps x stored m₀ P i c m tk' :=
  fun i c m tk tk' hle h => ⟨h.1, h.2.1, hP i c tk tk' hle h.2.2⟩
theorem KInv.out {σ : Type} {ps : σ → List (Str × Value)} {x : Str} {stored : List Str} {m₀ : Str → Option Value} {P : Nat → σ → Nat → Prop} {i : Nat} {c : σ} {m : Str → Option Value} {tk : Nat} {h₀ h : Heap} {L : Addr} (K : KInv ps x stored m₀ P i c m tk) (F : Fr h₀ L h m) :
    Fr h₀ L h (fun y => if y = x then m y else kstB (fun z => if stored.contains z then m z else m₀ z) (ps c) y) := kst_frOut K.1 K.2.1 F
section
variable {M : Model} {A : Around} {E : Value → Shared → Prop} {s : Shared} {env : Env} {h₀ : Heap}
theorem local_turn {σ : Type} {ps : σ → List (Str × Value)} {x : Str} {px : Pos} {stored : List Str} {m₀ m : Str → Option Value} {P : Nat → σ → Nat → Prop} {i : Nat} {c : σ} {tk : Nat} {h : Heap} {nw : List (Addr × Obj)} {v : Value} {Q : Unit → Shared → Prop}
    (hx : env.kindOf x = some .local) (hsc : (env.scope.kind == .class || (env.scope.kind == .module && env.locals != env.globals)) = false)
    (K : KInv ps x stored m₀ P i c m tk) (F : Fr h₀ env.locals h m) (N : News h₀ env.locals h nw)
    (t : ∀ (u : Str → Option Value) h', P i c tk → Fr h₀ env.locals h' (fun y => if y = x then some v else kstB (fun z => if stored.contains z then u z else m₀ z) (ps c) y) → News h₀ env.locals h' nw → Q () { s with heap := h', toks := tk + 1 }) :
    wpAny M A (assign (.Name x px) env v) Q E { s with heap := h, toks := tk } :=
  wpAny_assign_Name (wpAny_storeName_local hx F.ns (fun h₂ hn₂ hs₂ => t m h₂ K.2.2 (kst_fr K.1 K.2.1 (F.set hn₂ hs₂)) (N.set hs₂)) hsc)
end
end Mine
end

section
open PySem PySem.W PyProof.Rows PySem.Calls PySem.Spec
set_option linter.unusedVariables false
namespace Mine
section
variable {prog : Program} {w : World} {A : Around} {E : Value → Shared → Prop} {s : Shared} {env : Env} {h₀ : Heap} {L : Addr} {m : Str → Option Value} {news : List (Addr × Obj)}
/-- what stands when enumerate over a list of the ledger is made -/
structure EnumAt (h₀ : Heap) (L : Addr) (h : Heap) (news : List (Addr × Obj)) (l e it : Addr) : Prop where
  en : IsEnum h e it 0 .none
  li : h.IsListIter it l 0
  ne : e ≠ it
  eL : e ≠ L
  iL : it ≠ L
  e0 : h₀.get? e = none
  i0 : h₀.get? it = none
  en' : ∀ p ∈ news, p.1 ≠ e
  in' : ∀ p ∈ news, p.1 ≠ it
theorem enum_call {l : Addr} {vs : List Value} {nn : Nat} {Q : Value → Shared → Prop} (F : Fr h₀ L s.heap m) (N : News h₀ L s.heap news) (hm : (l, PySem.W.listOf vs.toArray nn) ∈ news)
    (h : ∀ h' e it, Fr h₀ L h' m → News h₀ L h' news → EnumAt h₀ L h' news l e it → Q (.ref e) { s with heap := h' }) :
    wpAny (model prog w) A (call (.type "enumerate") [.ref l]) Q E s := by
  have hl : s.heap.IsList l vs.toArray := ⟨_, (N _ hm).1, rfl, nn, rfl⟩
  refine call_enumerate_list hl fun h' he hit hsz hk => ?_
  have hLs := F.ns.lt
  have hab := F.above
  refine h h' _ _ ⟨F.ns.keeps hk, fun b o e => hk b o (F.keep b o e), F.above⟩ (fun p hp => ⟨hk _ _ (N p hp).1, (N p hp).2⟩) ⟨he, hit, Nat.succ_ne_self _, Nat.ne_of_gt (Nat.lt_succ_of_lt hLs), Nat.ne_of_gt hLs,
    Heap.get?_none_of_le (Nat.le_trans hab (Nat.le_of_lt (Nat.lt_succ_of_lt hLs))), Heap.get?_none_of_le (Nat.le_trans hab (Nat.le_of_lt hLs)), fun p hp => ?_, fun p hp => ?_⟩
  · exact Nat.ne_of_lt (Nat.lt_succ_of_lt (Heap.lt_size (N p hp).1))
  · exact Nat.ne_of_lt (Heap.lt_size (N p hp).1)
/-- a turn's end of a search that stores nothing but its two names -/
def SPost (h₀ : Heap) (L : Addr) (xi xc : Str) (m₀ : Str → Option Value) (nw : List (Addr × Obj)) (P : Prop) (s₁ : Shared) (Q : Flow → Shared → Prop) (f : Flow) (s₂ : Shared) : Prop :=
  match f with
  | .ret v => Q (.ret v) s₂
  | .brk => Q .next s₂
  | _ => ∃ (h' : Heap) (tk : Nat) (m' : Str → Option Value), s₂ = { s₁ with heap := h', toks := tk } ∧ Fr h₀ L h' m' ∧ News h₀ L h' nw ∧ (∀ z, z ≠ xi → z ≠ xc → m' z = m₀ z) ∧ P
/-- for i, x in enumerate(a list of the ledger): a search, its else too -/
theorem enumSearch {Q : Flow → Shared → Prop} {xi xc : Str} {pk pv pt : Pos} {x1 : Nat} {body orelse : List Stmt} {l e it : Addr} {vs : List Value} {nn : Nat} {m₀ : Str → Option Value} (P : Nat → Prop)
    (hh : A.handled = none) (hxi : env.kindOf xi = some .local) (hxc : env.kindOf xc = some .local) (hp : (env.scope.kind == .class || (env.scope.kind == .module && env.locals != env.globals)) = false)
    (F : Fr h₀ env.locals s.heap m₀) (N : News h₀ env.locals s.heap news) (hm : (l, PySem.W.listOf vs.toArray nn) ∈ news) (X : EnumAt h₀ env.locals s.heap news l e it) (h0 : P 0)
    (turn : ∀ i v t oe oi h tk, vs[i]? = some v → P i → Fr h₀ env.locals h (fun y => if y = xc then some v else if y = xi then some (.int i t) else m₀ y) → News h₀ env.locals h (news ++ [(e, oe), (it, oi)]) →
      wpAny (model prog w) A (execs body env) (SPost h₀ env.locals xi xc m₀ (news ++ [(e, oe), (it, oi)]) (P (i + 1)) { s with heap := h, toks := tk } Q) E { s with heap := h, toks := tk })
    (done : ∀ h m tk, P vs.length → (∀ z, z ≠ xi → z ≠ xc → m z = m₀ z) → Fr h₀ env.locals h m → News h₀ env.locals h news → wpAny (model prog w) A (execs orelse env) Q E { s with heap := h, toks := tk })
    (hE : PassesOwn (model prog w) A env E := by passes_own) :
    wpAny (model prog w) A (pyIter (.ref e)) (fun it s₂ => codeAny (model prog w) A (.forLoop (.Tuple [.Name xi pk, .Name xc pv] x1 pt) it body orelse env) (fun r s' => match r with | .ok f => Q f s' | .error e => cameBackBy (model prog w) A env E e s') s₂) E s := by
  refine wpAny_pyIter_enum X.en ?_
  refine codeAny_forLoop_any (fun k s' => ∃ (h' : Heap) (tk : Nat) (m' : Str → Option Value) (i : Nat) (old : Value), s' = { s with heap := h', toks := tk } ∧ IsEnum h' e it ((i : Nat) : Int) old ∧ h'.IsListIter it l i ∧ Fr h₀ env.locals h' m' ∧ News h₀ env.locals h' news ∧ (∀ z, z ≠ xi → z ≠ xc → m' z = m₀ z) ∧ P i ∧ i ≤ vs.length ∧
      k = vs.length + 1 - i) ?_ (vs.length + 1) ⟨s.heap, s.toks, m₀, 0, .none, rfl, X.en, X.li, F, N, fun _ _ _ => rfl, h0, Nat.zero_le _, rfl⟩
  rintro k s' ⟨H, tk, m', i, old, rfl, he', hit', F', N', hm', hP, hi, rfl⟩
  have hl' : H.IsList l vs.toArray := ⟨_, (N' _ hm).1, rfl, nn, rfl⟩
  have hle : l ≠ e := X.en' _ hm
  have hli : l ≠ it := X.in' _ hm
  have up : ∀ h₁ : Heap, (∀ b o, b ≠ e → b ≠ it → H.get? b = some o → h₁.get? b = some o) → Fr h₀ env.locals h₁ m' ∧ News h₀ env.locals h₁ news := fun h₁ hk => by
    refine ⟨⟨F'.ns.at' fun o x => hk _ o (Ne.symm X.eL) (Ne.symm X.iL) x, fun b o x => hk b o (fun q => ?_) (fun q => ?_) (F'.keep b o x), F'.above⟩, fun p hp => ⟨hk _ _ (X.en' p hp) (X.in' p hp) (N' p hp).1, (N' p hp).2⟩⟩
    · rw [q, X.e0] at x; cases x
    · rw [q, X.i0] at x; cases x
  cases hv : vs[i]? with
  | none =>
    have hsz : i = vs.length := Nat.le_antisymm hi (by simpa using hv)
    subst hsz
    refine wpAny_pyNext_enum_end hh he' hit' hl' (by simpa using hv) fun h₁ he₁ => ?_
    obtain ⟨F₁, N₁⟩ := up h₁ fun b o _ hbi x => he₁ b o hbi x
    exact wpAny_passesOwn hE (done h₁ m' tk hP hm' F₁ N₁)
  | some v =>
    have hlt : i < vs.length := (List.getElem?_eq_some_iff.mp hv).1
    have heH : e < H.objs.size := Heap.lt_size he'
    refine wpAny_pyNext_enum_item he' hit' hl' (x := v) (by simpa using hv) X.ne fun h₁ heo hit₁ ht₁ hz₁ hk₁ => ?_
    refine wpAny_letOwnedTupleGo_enum heo fun h₂ he₂ hs₂ => ?_
    replace hs₂ : Heap.SameBut e h₁ h₂ := hs₂
    have ht₂ : h₂.IsTuple H.objs.size #[.int i tk, v] := ⟨_, (hs₂.2 _ (Nat.ne_of_gt heH)).trans ht₁, rfl, _, rfl⟩
    obtain ⟨F₂, N₂⟩ := up h₂ fun b o hbe hbi x => hs₂.extBut b o hbe (hk₁ b o hbe hbi x)
    have hit₂ : h₂.IsListIter it l (i + 1) := hit₁.extBut hs₂.extBut (Ne.symm X.ne)
    refine wpAny_assign_Tuple hh ht₂ rfl rfl fun h₃ hx₃ => ?_
    replace hx₃ : Heap.ExtBut h₂.objs.size h₂ h₃ := hx₃
    have up₃ : ∀ b o, h₂.get? b = some o → h₃.get? b = some o := fun b o x => hx₃ b o (Nat.ne_of_lt (Heap.lt_size x)) x
    have F₃ : Fr h₀ env.locals h₃ m' := ⟨F₂.ns.keeps up₃, fun b o e => up₃ b o (F₂.keep b o e), F₂.above⟩
    have N₃ : News h₀ env.locals h₃ news := fun p hp => ⟨up₃ _ _ (N₂ p hp).1, (N₂ p hp).2⟩
    show wpAny _ A (do holding [v] (assign (.Name xi pk) env (.int i tk)); do holding [] (assign (.Name xc pv) env v); pure ()) _ _ _
    refine wpAny_bind (wpAny_holding (wpAny_assign_Name (wpAny_storeName_local hxi F₃.ns (fun h₄ hn₄ hs₄ => ?_) hp)))
    replace hs₄ : Heap.SameBut env.locals h₃ h₄ := hs₄
    have F₄ := F₃.set hn₄ hs₄
    refine wpAny_bind (wpAny_holding (wpAny_assign_Name (wpAny_storeName_local hxc F₄.ns (fun h₅ hn₅ hs₅ => wpAny_pure ?_) hp)))
    replace hs₅ : Heap.SameBut env.locals h₄ h₅ := hs₅
    have F₅ := F₄.set hn₅ hs₅
    have N₅ : News h₀ env.locals h₅ news := (N₃.set hs₄).set hs₅
    have up₅ : ∀ b o, b ≠ env.locals → h₂.get? b = some o → h₅.get? b = some o := fun b o hb x => hs₅.extBut b o hb (hs₄.extBut b o hb (up₃ b o x))
    obtain ⟨oi, hoi, hoi'⟩ := id hit₂
    have hoe : h₅.get? e = some _ := up₅ e _ X.eL he₂
    have hoi₅ : h₅.get? it = some oi := up₅ it _ X.iL hoi
    have em : (fun y => if y = xc then some v else if y = xi then some (Value.int i tk) else m' y) = fun y => if y = xc then some v else if y = xi then some (Value.int i tk) else m₀ y := by
      funext y
      by_cases h1 : y = xc
      · simp [h1]
      · by_cases h2 : y = xi
        · simp [h2]
        · simp only [if_neg h1, if_neg h2]; exact hm' y h2 h1
    rw [em] at F₅
    refine wpAny_mono (wpAny_passesOwn hE (turn i v tk { cls := .type "enumerate", dict := none, data := .fields #[.none, .bool false, .ref it, rawInt ((i : Int) + 1), .none, v], slots := #[] } oi h₅ _ hv hP F₅ fun p hp => ?_)) (fun f s₃ h₃ => ?_) fun _ _ x => x
    · rcases List.mem_append.mp hp with hp | hp
      · exact N₅ p hp
      · rcases List.mem_cons.mp hp with rfl | hp
        · exact ⟨hoe, X.eL, X.e0⟩
        · rw [List.mem_singleton.mp hp]
          exact ⟨hoi₅, X.iL, X.i0⟩
    · have fin : (∃ (h' : Heap) (tk' : Nat) (m'' : Str → Option Value), s₃ = { s with heap := h', toks := tk' } ∧ Fr h₀ env.locals h' m'' ∧ News h₀ env.locals h' (news ++ [(e, { cls := .type "enumerate", dict := none, data := .fields #[.none, .bool false, .ref it, rawInt ((i : Int) + 1), .none, v], slots := #[] }), (it, oi)]) ∧ (∀ z, z ≠ xi → z ≠ xc → m'' z = m₀ z) ∧ P (i + 1)) →
          ∃ m, m < vs.length + 1 - i ∧ ∃ (h' : Heap) (tk : Nat) (m' : Str → Option Value) (i : Nat) (old : Value), s₃ = { s with heap := h', toks := tk } ∧ IsEnum h' e it ((i : Nat) : Int) old ∧ h'.IsListIter it l i ∧ Fr h₀ env.locals h' m' ∧ News h₀ env.locals h' news ∧ (∀ z, z ≠ xi → z ≠ xc → m' z = m₀ z) ∧ P i ∧ i ≤ vs.length ∧ m = vs.length + 1 - i := by
        rintro ⟨h', tk', m'', rfl, F₆, N₆, hm₆, hP₆⟩
        refine ⟨vs.length + 1 - (i + 1), by omega, h', tk', m'', i + 1, v, rfl, ?_, ⟨oi, (N₆ (it, oi) (by simp)).1, hoi'⟩, F₆, fun p hp => N₆ p (List.mem_append_left _ hp), hm₆, hP₆, hlt, rfl⟩
        have := (N₆ (e, _) (List.mem_append_right _ (.head _))).1
        have e1 : ((i + 1 : Nat) : Int) = (i : Int) + 1 := by omega
        rw [e1]; exact this
      cases f with
      | ret v => exact h₃
      | brk => exact h₃
      | next => exact fin h₃
      | cont => exact fin h₃
end
end Mine
end

section
open PySem PySem.W PyProof.Rows PySem.Calls
set_option Elab.async false
set_option maxRecDepth 100000
set_option linter.unusedVariables false
set_option linter.unusedSimpArgs false
namespace Mine
theorem ex_A4_1 : (fun (_ : OpenLaw) (_ : Params → Frag) => True) PySem.Challenge.rw_xi0001_01 hd_law.heap_39 = True := by
  k_fill
  k_with_none
  rfl
theorem ofMem {vs : List Value} {ns : List Int} (hi : IntsAre vs ns) {i : Nat} {v : Value} (hv : vs[i]? = some v) : ∃ (n : Int) (t : Nat), v = .int n t ∧ ns[i]? = some n ∧ Value.int n t ∈ vs := by
  obtain ⟨n, t, rfl, hn⟩ := IntsAre.at hi i v hv
  exact ⟨n, t, rfl, hn, List.mem_of_getElem? hv⟩
theorem count_next {ns : List Int} {i : Nat} {n b : Int} {c : Int} (hn : ns[i]? = some n) (hc : c = ((ns.take i).count b : Int)) : (if n = b then c + 1 else c) = ((ns.take (i + 1)).count b : Int) := by
  rw [List.take_add_one, hn, hc]
  simp only [Option.toList_some, List.count_append, List.count_singleton]
  by_cases h : n = b
  · rw [if_pos h]; subst h; simp
  · rw [if_neg h]; simp [h]
theorem count_up {ns : List Int} {i : Nat} {n b : Int} {c : Int} (hn : ns[i]? = some n) (hc : c = ((ns.take i).count b : Int)) (e : n = b) : c + 1 = ((ns.take (i + 1)).count b : Int) := by
  have := count_next hn hc
  rw [if_pos e] at this
  exact this
theorem count_same {ns : List Int} {i : Nat} {n b : Int} {c : Int} (hn : ns[i]? = some n) (hc : c = ((ns.take i).count b : Int)) (e : ¬ n = b) : c = ((ns.take (i + 1)).count b : Int) := by
  have := count_next hn hc
  rw [if_neg e] at this
  exact this
theorem beq_of_dec {p q : Int} : (p == q) = decide (p = q) := by by_cases h : p = q <;> simp [h]
local macro_rules | `(tactic| walk_at "execs cons") => `(tactic| ((try k_fold); (with_reducible refine gen_toks ?_); intro tkG htkG; (try dsimp only at htkG); (with_reducible refine wpAny_execs_cons ?_); (try dsimp only)))
local macro_rules | `(tactic| walk_at "execs nil") => `(tactic| ((with_reducible refine wpAny_execs_nil ?_); (try dsimp only)))
local macro_rules | `(tactic| walk_at "exec For Name Name cons nil") => `(tactic| (k_here; k_dflt (refine wpAny_For ?_ (by intro _; rfl))))
local macro_rules | `(tactic| walk_at "pyIter ref") => `(tactic| (k_extra "my pyIter"))
local macro_rules | `(tactic| walk_at "compareOp Is") => `(tactic| (k_extra "my Is"))
local macro_rules | `(tactic| walk_at "GPost") => `(tactic| dsimp only [GPost])
local macro_rules | `(tactic| walk_at "GEnd") => `(tactic| (k_extra "my GEnd"))
abbrev RetI0 (news : List (Addr × Obj)) (x : Int) (s : Shared) (h₀ : Heap) (L : Addr) (m : Str → Option Value) (h' : Heap) (tk' : Nat) (v : Value) : Prop :=
  ∃ t, v = .int x t ∧ Fr h₀ L h' m ∧ News h₀ L h' news
set_option maxHeartbeats 4000000 in
theorem countOf_c {w : World} {mean : ExcName → Option Value} {mg mb : Str → Option Value} {news : List (Addr × Obj)} (l : Addr) (vs : List Value) (ns : List Int) (nn : Nat) (b : Int) (t : Nat) (X : Nat) (hm : (l, listOf vs.toArray nn) ∈ news) (hi : IntsAre vs ns) (hlen : ns.length ≤ 1000) (htok : TokI vs X) (hb : Value.int b t ∈ vs) (hsm : ∀ n ∈ ns, 0 ≤ n ∧ n ≤ 256) :
    CallC w mean mg mb 122 3 24 news [.ref l, .int b t] (RetI0 news (ns.count b)) := by
  intro dp un gd cn cs a ccd cl outer A₀ base h₀ L m s Q E B F X N T hk hd hu hret
  k_with_none
  k_with "my pyIter" =>
    k_here
    k_dflt (
      (rename Fr _ _ _ _ => lF')
      (rename News _ _ _ _ => lN')
      (refine' listG (σ := Int × Nat) (fun _ => news) (KInv (fun c => [(Str.ofString "count", .int c.1 c.2)]) (Str.ofString "i") [] _ (fun i c _ => c.1 = ((ns.take i).count b : Int))) (_, _) rfl (fun _ => hm) lF' lN' (KInv.start ?kk ?kp) (KInv.mono (fun _ _ _ _ _ h => h)) ?_ ?_)
      (case kk => kst_all)
      (case kp => rfl)
      (all_goals first | (rintro i v ⟨c, tc⟩ m1 h9 tk9 I oI hlt hv hK hoff hIlt F1 N1; refine local_turn rfl rfl hK F1 N1 ?_; intro u h8 hP kFr kNews; (dsimp only [kstB] at kFr); (dsimp only at kNews hP hoff); (obtain ⟨k, t9, rfl, hk9, hmem9⟩ := ofMem hi hv); (have kMark := kstMark); (try k_fold)) | (rintro ⟨c, tc⟩ m1 h9 tk9 hK F1 N1; (have kFr := hK.out F1); (have hP := hK.2.2); clear F1; (dsimp only [kstB] at kFr); (dsimp only at N1 hP); (have kMark := kstMark); refine wpAny_execs_nil ?_; (try k_unfold); (try dsimp only))))
  k_with "my Is" => (refine is_int (hsm _ (List.mem_of_getElem? hk9)).1 (hsm _ (List.mem_of_getElem? hk9)).2 (htok.1 _ _ hmem9).1 (htok.1 _ _ hb).1 (fun e => htok.2 _ _ _ hmem9 (by rw [e]; exact hb)) ?_)
  k_with "my GEnd" =>
    k_dflt (
      (rename News _ _ _ _ => nE')
      (refine' gend (⟨_, _⟩ : Int × Nat) (by assumption) nE' (fun p hp => List.mem_append_left _ hp) (List.mem_append_right _ (.head _)) rfl ⟨?ga, ?gb, ?gc⟩)
      (case ga => kst_all)
      (case gb => kst_same)
      (case gc => (try dsimp only); first | exact count_up hk9 hP (by assumption) | exact count_same hk9 hP (by assumption)))
  refine wpAny_call ?_
  cell_enter
  k_steps
  all_goals ((have hfin : c = (ns.count b : Int) := by rw [hP, IntsAre.length hi, List.take_length]); (subst hfin); exact hret _ _ _ ⟨_, rfl, by assumption, by assumption⟩)
end Mine
end

section
open PySem PySem.W PyProof.Rows PySem.Calls
set_option Elab.async false
set_option maxRecDepth 100000
set_option linter.unusedVariables false
set_option linter.unusedSimpArgs false
namespace Mine
theorem ex_A5_1 : (fun (_ : OpenLaw) (_ : Params → Frag) => True) PySem.Challenge.rw_xi0001_01 hd_law.heap_39 = True := by
  k_fill
  k_with_none
  rfl
theorem idx_next {ns : List Int} {i : Nat} {k b : Int} (hk : ns[i]? = some k) (hP : b ∉ ns.take i) (e : ¬ k = b) : b ∉ ns.take (i + 1) := by
  rw [List.take_add_one, hk]
  simp only [Option.toList_some, List.mem_append, List.mem_singleton, not_or]
  exact ⟨hP, fun h => e h.symm⟩
theorem idx_here : ∀ {ns : List Int} {i : Nat} {k b : Int}, ns[i]? = some k → b ∉ ns.take i → k = b → i = ns.idxOf b
  | [], i, k, b, hk, _, _ => by simp at hk
  | n :: r, 0, k, b, hk, _, e => by
    simp at hk
    rw [hk, e, List.idxOf_cons_self]
  | n :: r, i + 1, k, b, hk, hP, e => by
    simp only [List.take_succ_cons, List.mem_cons, not_or] at hP
    have h1 := idx_here (ns := r) (i := i) (by simpa using hk) hP.2 e
    rw [List.idxOf_cons, ← h1]
    have : (n == b) = false := by simpa using fun h : n = b => hP.1 h.symm
    rw [this]; rfl
local macro_rules | `(tactic| walk_at "execs cons") => `(tactic| ((try k_fold); (with_reducible refine gen_toks ?_); intro tkG htkG; (try dsimp only at htkG); (with_reducible refine wpAny_execs_cons ?_); (try dsimp only)))
local macro_rules | `(tactic| walk_at "execs nil") => `(tactic| ((with_reducible refine wpAny_execs_nil ?_); (try dsimp only)))
local macro_rules | `(tactic| walk_at "exec For Tuple Call") => `(tactic| (k_here; k_dflt (refine wpAny_For ?_ (by intro _; rfl))))
local macro_rules | `(tactic| walk_at "call type:enumerate") => `(tactic| (k_extra "my enum"))
local macro_rules | `(tactic| walk_at "pyIter ref") => `(tactic| (k_extra "my pyIter"))
local macro_rules | `(tactic| walk_at "compareOp Is") => `(tactic| (k_extra "my Is"))
local macro_rules | `(tactic| walk_at "SPost") => `(tactic| (k_extra "my SPost"))
set_option maxHeartbeats 4000000 in
theorem indexOf_c {w : World} {mean : ExcName → Option Value} {mg mb : Str → Option Value} {news : List (Addr × Obj)} (l : Addr) (vs : List Value) (ns : List Int) (nn : Nat) (b : Int) (t : Nat) (X : Nat) (hm : (l, listOf vs.toArray nn) ∈ news) (hi : IntsAre vs ns) (hlen : ns.length ≤ 1000) (htok : TokI vs X) (hb : Value.int b t ∈ vs) (hbn : b ∈ ns) (hsm : ∀ n ∈ ns, 0 ≤ n ∧ n ≤ 256) :
    CallC w mean mg mb 129 3 24 news [.ref l, .int b t] (RetI0 news (ns.idxOf b)) := by
  intro dp un gd cn cs a ccd cl outer A₀ base h₀ L m s Q E B F X N T hk hd hu hret
  k_with_none
  k_with "my enum" =>
    k_here
    k_dflt (
      (rename Fr _ _ _ _ => lF')
      (rename News _ _ _ _ => lN')
      (refine' enum_call lF' lN' hm ?_)
      intro h9 e9 it9 F9 N9 X9; (try dsimp only))
  k_with "my pyIter" =>
    k_here
    k_dflt (
      (rename Fr _ _ _ _ => lF')
      (rename News _ _ _ _ => lN')
      (refine' enumSearch (fun i => b ∉ ns.take i) rfl rfl rfl rfl lF' lN' hm X9 ?h0 ?_ ?_)
      (case h0 => simp)
      (all_goals first | (rintro i v t8 oe oi h8 tk8 hv hP kFr kNews; (obtain ⟨k, t9, rfl, hk9, hmem9⟩ := ofMem hi hv); (have kMark := kstMark); (try k_fold)) | (rintro h9 m9 tk9 hP _ _ _; exfalso; (rw [IntsAre.length hi, List.take_length] at hP); exact hP hbn)))
  k_with "my Is" => (refine is_int (hsm _ (List.mem_of_getElem? hk9)).1 (hsm _ (List.mem_of_getElem? hk9)).2 (htok.1 _ _ hmem9).1 (htok.1 _ _ hb).1 (fun e => htok.2 _ _ _ hmem9 (by rw [e]; exact hb)) ?_)
  k_with "my SPost" =>
    k_dflt (
      (dsimp only [SPost])
      (first
        | exact ⟨_, _, _, rfl, by assumption, by assumption, fun z h1 h2 => by simp [h1, h2], idx_next hk9 hP (by assumption)⟩
        | (try k_unfold; try dsimp only)))
  refine wpAny_call ?_
  cell_enter
  k_steps
  all_goals ((rename News _ _ _ _ => nE'); (have hix := idx_here hk9 hP (by assumption)); exact hret _ _ _ ⟨_, by rw [hix], by assumption, fun p hp => nE' p (List.mem_append_left _ hp)⟩)
end Mine
end

section
set_option maxRecDepth 100000
open PySem PySem.W PyProof.Rows PySem.Calls PySem.Spec
set_option linter.unusedVariables false
namespace Mine
theorem kind_issub_nested : builtinKind "issubclass.nested" = none := by decide +kernel
theorem plain_issub_nested : plainId "issubclass.nested" = true := by decide +kernel
theorem args_issub_nested_3 (a b c : Value) : argsOk "issubclass.nested" ⟨[a, b, c], []⟩ := by unfold argsOk; kernel_rfl
section
variable {prog : Program} {w : World} {A : Around} {E : Value → Shared → Prop} {s : Shared}
theorem type_str_type : typeOf (.type "str") = pure (.type "type") := by rfl
theorem sub_str : isSubtype (.type "str") (.type "str") = pure true := by rw [isSubtype_type]; kernel_rfl
theorem issub_str {k : Value} {dep : Int} {tk : Tok} (hk : k = .int dep tk) : Meets (Builtin.«issubclass.nested» ⟨[.type "str", .type "str", k], []⟩) (fun _ R s => R (.ok (.ret (.bool true))) s) := fun prog w A R s hs => by
  subst hk
  have hm := type_str_type
  have hself := sub_str
  repeat (any_goals (first | assumption | (rw [if_pos hm]) | (rw [hm]) | (rw [hself]) | wp_step))
theorem code_issub {a b c : Value} {S : Around → (Result → Shared → Prop) → Shared → Prop} {R : Result → Shared → Prop} (g : Meets (Builtin.«issubclass.nested» ⟨[a, b, c], []⟩) S) (h : S A R s) :
    codeAny (model prog w) A (.call (.builtin "issubclass.nested") ⟨[a, b, c], []⟩) R s := by
  refine codeAny_call_builtin plain_issub_nested F.entry_issubclass_nested ?_
  have hfin := g prog w A R s h
  have ok := args_issub_nested_3 a b c
  simp only [checkBuiltinCall, kind_issub_nested]
  cases hsig : Manifest.signature? "issubclass.nested" with
  | none => exact wpAny_pure hfin
  | some sig =>
    simp only [argsOk, hsig] at ok
    have h2 : Bind.checkArgs "issubclass.nested" sig ⟨[a, b, c], []⟩ = pure () := ok
    show wpAny _ _ (Bind.checkArgs "issubclass.nested" sig ⟨[a, b, c], []⟩) _ _ s
    rw [h2]; exact wpAny_pure hfin
theorem issub_tuple {tp : Addr} {c2 : Value} {tk : Tok} {Q : Fin → Shared → Prop} (htp : s.heap.get? tp = some { cls := .type "tuple", data := .seq #[.type "str", c2] })
    (hq : Q (.done (.ret (.bool true))) s) : wpAny (model prog w) A (Builtin.«issubclass.nested» ⟨[.type "str", .ref tp, .int 0 tk], []⟩) Q E s := by
  obtain ⟨h, g, d, t, os⟩ := s
  have hT2 : (⟨h, g, d, t, os⟩ : Shared).TypeIs (.ref tp) "tuple" := ⟨_, htp, rfl⟩
  have f1 := F.isi_sub_tuple
  repeat (any_goals (first | assumption | wp_step))
  refine code_issub (issub_str (dep := 1) (tk := 0) rfl) ?_
  repeat (any_goals (first | assumption | wp_step))
/-- issubclass(str, (str, ..)) -/
theorem issub_call {tp : Addr} {c2 : Value} {Q : Value → Shared → Prop} (htp : s.heap.get? tp = some { cls := .type "tuple", data := .seq #[.type "str", c2] }) (hq : Q (.bool true) s) :
    wpAny (model prog w) A (call (.builtin "issubclass") [.type "str", .ref tp]) Q E s :=
  call_issubclass (S := fun _ R s => s.heap.get? tp = some { cls := .type "tuple", data := .seq #[.type "str", c2] } ∧ R (.ok (.ret (.bool true))) s)
    (fun prog w A R s hs => issubclass_outer (issub_tuple hs.1 hs.2)) ⟨htp, hq⟩
theorem truthy_two {l : Addr} {a b : Value} {Q : Bool → Shared → Prop} (hl : s.heap.IsList l #[a, b]) (h : Q true { s with toks := s.toks + 1 + 1 }) : wpAny (model prog w) A (truthy (.ref l)) Q E s :=
  wpAny_truthy_list hl (by show (2 : Int) < 2 ^ 63; decide) h
theorem item_at_led {l : Addr} {items : Array Value} {k : Int} {u : Tok} {v : Value} {value slice : Expr} {Q : Value → Shared → Prop} (hl : s.heap.IsList l items) (h0 : 0 ≤ k) (h1 : k < 2 ^ 63) (hv : items[k.toNat]? = some v) (h : Q v s)
    (hs : subscripted slice false (.ref l) (.int k u) = operate [.ref l, .int k u] (getItem (.ref l) (.int k u)) := by with_unfolding_all rfl) :
    wpAny (model prog w) A (subscriptTail value slice (.ref l) (.int k u)) Q E s :=
  tail_any hl.typeIs slot_list_getitem.lookup (wpAny_getItem_list hl h0 h1 hv h) hs
end
end Mine
end

section
set_option maxRecDepth 100000
open PySem PySem.W PyProof.Rows PySem.Calls PySem.Spec
open AutoSeq1 (wpAny_loadPart')
set_option linter.unusedVariables false
namespace Mine
abbrev mapObj (T f : Addr) : Obj := { cls := .type "map", data := .fields #[.ref T, .ref f] }
abbrev litObj (l : Addr) : Obj := { cls := .type "list_iterator", data := .fields #[.ref l, .int 0 0] }
abbrev tupObj (xs : Array Value) : Obj := { cls := .type "tuple", data := .seq xs }
theorem mro_map : mroOf (.type "map") = pure [.type "map", .type "object"] := by rw [mroOf_type]; kernel_rfl
theorem lookup_map_new : typeLookup (.type "map") "__new__" = pure (some (.builtin "map.__new__")) := by rw [typeLookup_type, builtinLookup_eq_fast]; kernel_rfl
theorem slot_map_init : Slot "map" "__init__" "object.__init__" :=
  .of (owner := "object") (n := "__init__") (by rw [typeLookup_type, builtinLookup_eq_fast]; kernel_rfl) (by decide +kernel) (by decide +kernel) (by decide +kernel)
    (by first | exact .inl (by decide +kernel) | exact .inr (by decide +kernel)) (by rw [isSubtype_type]; kernel_rfl)
theorem slot_map_next : Slot "map" "__next__" "map.__next__" :=
  .of (owner := "map") (n := "__next__") (by rw [typeLookup_type, builtinLookup_eq_fast]; kernel_rfl) (by decide +kernel) (by decide +kernel) (by decide +kernel)
    (by first | exact .inl (by decide +kernel) | exact .inr (by decide +kernel)) (by rw [isSubtype_type]; kernel_rfl)
theorem slot_map_iter : Slot "map" "__iter__" "map.__iter__" :=
  .of (owner := "map") (n := "__iter__") (by rw [typeLookup_type, builtinLookup_eq_fast]; kernel_rfl) (by decide +kernel) (by decide +kernel) (by decide +kernel)
    (by first | exact .inl (by decide +kernel) | exact .inr (by decide +kernel)) (by rw [isSubtype_type]; kernel_rfl)
theorem called_map : TypeCalled "map" "map.__new__" "object.__init__" :=
  ⟨by decide +kernel, by decide +kernel, ⟨_, _, mro_map⟩, madeBy_type mro_map lookup_map_new (by decide +kernel), by decide +kernel, by rw [isSubtype_type]; kernel_rfl, slot_map_init⟩
theorem typeCall_map_2 (a b : Value) : checkTypeCall "map" ⟨[a, b], []⟩ = pure () := by kernel_rfl
theorem newCall_map_2 (a b : Value) : checkBuiltinCall "map.__new__" ⟨[.type "map", a, b], []⟩ = pure () := by kernel_rfl
theorem entry_map_new : entryFor table "map.__new__" = some Builtin.«map.__new__» := entryFor_of_tree (by kernel_rfl)
theorem entry_map_next : entryFor table "map.__next__" = some Builtin.«map.__next__» := entryFor_of_tree (by kernel_rfl)
theorem entry_map_iter : entryFor table "map.__iter__" = some Builtin.«dict_keyiterator.__iter__» :=
  entryFor_alias (id' := "dict_keyiterator.__iter__") (by kernel_rfl) (by first | rfl | decide +kernel | (unfold String.splitOn; simp +decide [String.splitOnAux])) (by decide +kernel) (by kernel_rfl)
theorem sub_map : isSubtype (.type "map") (.type "map") = pure true := by rw [isSubtype_type]; kernel_rfl
theorem map_no_len : typeLookup (.type "map") "__len__" = pure none := by rw [typeLookup_type, builtinLookup_eq_fast]; kernel_rfl
theorem map_no_hint : typeLookup (.type "map") "__length_hint__" = pure none := by rw [typeLookup_type, builtinLookup_eq_fast]; kernel_rfl
theorem args_object_init_3 (a b c : Value) : argsOk "object.__init__" ⟨[a, b, c], []⟩ := by unfold argsOk; kernel_rfl
theorem args_map_next_1 (a : Value) : argsOk "map.__next__" ⟨[a], []⟩ := by unfold argsOk; kernel_rfl
theorem args_map_iter_1 (a : Value) : argsOk "map.__iter__" ⟨[a], []⟩ := by unfold argsOk; kernel_rfl
theorem meets_map_new (f l : Addr) (items : Array Value) (n : Nat) :
    Meets (Builtin.«map.__new__» ⟨[.type "map", .ref f, .ref l], []⟩) (fun _ R s => s.heap.get? l = some (PySem.W.listOf items n) ∧
      R (.ok (.ret (.ref ((s.heap.push (litObj l)).push (tupObj #[.ref s.heap.objs.size])).objs.size)))
        { s with heap := ((s.heap.push (litObj l)).push (tupObj #[.ref s.heap.objs.size])).push (mapObj (s.heap.push (litObj l)).objs.size f) }) :=
  .of_wp fun prog w A R s h => by
    obtain ⟨hp, g, d, tk, os⟩ := s; obtain ⟨hl, h⟩ := h
    have hsub := sub_map
    have hL : Heap.IsList (Shared.heap ⟨hp, g, d, tk, os⟩) l items := ⟨_, hl, rfl, n, rfl⟩
    wp_walk using wpAny_loadPart' hl, wpAny_pyIter_list hL
    exact ⟨_, rfl, h⟩
section
variable {prog : Program} {w : World} {A : Around} {E : Value → Shared → Prop} {s : Shared} {h₀ : Heap} {L : Addr} {m : Str → Option Value} {nw : List (Addr × Obj)}
theorem map_call {l f : Addr} {items : Array Value} {nn : Nat} {Q : Value → Shared → Prop} (F : Fr h₀ L s.heap m) (N : News h₀ L s.heap nw) (hl : (l, PySem.W.listOf items nn) ∈ nw)
    (h : ∀ h' M T it, Fr h₀ L h' m → News h₀ L h' ((M, mapObj T f) :: (T, tupObj #[.ref it]) :: (it, litObj l) :: nw) → it < T → T < M → (∀ p ∈ nw, p.1 < it) → Q (.ref M) { s with heap := h' }) :
    wpAny (model prog w) A (call (.type "map") [.ref f, .ref l]) Q E s := by
  refine callType_new called_map (by decide) (typeCall_map_2 _ _) (newCall_map_2 _ _) (fun obj => args_object_init_3 obj _ _) entry_map_new (meets_map_new f l items nn) ⟨(N _ hl).1, ?_⟩
  show _ ∧ _
  have z1 : (s.heap.push (litObj l)).objs.size = s.heap.objs.size + 1 := Heap.size_push ..
  have z2 : ((s.heap.push (litObj l)).push (tupObj #[.ref s.heap.objs.size])).objs.size = s.heap.objs.size + 2 := by rw [Heap.size_push, z1]
  have N1 := News.push F N (litObj l)
  have F1 := Fr.push F (litObj l)
  have N2 := News.push F1 N1 (tupObj #[.ref s.heap.objs.size])
  have F2 := Fr.push F1 (tupObj #[.ref s.heap.objs.size])
  have N3 := News.push F2 N2 (mapObj (s.heap.push (litObj l)).objs.size f)
  have F3 := Fr.push F2 (mapObj (s.heap.push (litObj l)).objs.size f)
  refine ⟨⟨_, (N3 _ (.head _)).1, rfl⟩, h _ _ _ _ F3 N3 ?_ ?_ fun p hp => Heap.lt_size (N p hp).1⟩
  · rw [z1]; exact Nat.lt_succ_self _
  · rw [z1, z2]; exact Nat.lt_succ_self _
theorem map_iter {M T f : Addr} {Q : Value → Shared → Prop} (hm : s.heap.get? M = some (mapObj T f)) (h : Q (.ref M) s) : wpAny (model prog w) A (pyIter (.ref M)) Q E s := by
  have hT : s.TypeIs (.ref M) "map" := ⟨_, hm, rfl⟩
  refine wpAny_pyIter_slot hT slot_map_iter (wpAny_call_entry slot_map_iter hT entry_map_iter ?_ (args_map_iter_1 _))
  show wpAny _ _ (ret (.ref M)) _ _ s
  exact wpAny_pure ⟨_, rfl, "map", _, hT, slot_map_next.lookup, h⟩
/-- what a call of f of one value hands back: that value -/
def SameBack (prog : Program) (w : World) (A : Around) (h₀ : Heap) (L : Addr) (m : Str → Option Value) (f : Addr) : Prop :=
  ∀ (k : Nat) (v : Str) (t : Tok) (nw : List (Addr × Obj)) (s : Shared) (Q E : Value → Shared → Prop), Fr h₀ L s.heap m → News h₀ L s.heap nw → k ≤ 12 →
    (∀ h' tk', Fr h₀ L h' m → News h₀ L h' nw → Q (.str v t) { s with heap := h', toks := tk' }) → wpAny (model prog w) { A with units := A.units + k } (call (.ref f) [.str v t]) Q E s
theorem map_next {l f M T it : Addr} {i k : Nat} {items : Array Value} {v : Str} {t : Tok} {nn : Nat} {oi : Obj} {Q : Option Value → Shared → Prop} (F : Fr h₀ L s.heap m)
    (N : News h₀ L s.heap ((M, mapObj T f) :: (T, tupObj #[.ref it]) :: (it, oi) :: nw)) (ho : oi.cls = .type "list_iterator" ∧ oi.data = .fields #[.ref l, .int i 0]) (h1 : it < T) (h2 : T < M) (h3 : ∀ p ∈ nw, p.1 ≠ it) (hl : (l, PySem.W.listOf items nn) ∈ nw) (hv : items[i]? = some (.str v t)) (C : SameBack prog w A h₀ L m f) (hk : k ≤ 8)
    (h : ∀ h' oi' tk, Fr h₀ L h' m → News h₀ L h' ((M, mapObj T f) :: (T, tupObj #[.ref it]) :: (it, oi') :: nw) → oi'.cls = .type "list_iterator" ∧ oi'.data = .fields #[.ref l, .int ((i + 1 : Nat) : Int) 0] → Q (some (.str v t)) { s with heap := h', toks := tk }) :
    wpAny (model prog w) { A with units := A.units + k } (pyNext (.ref M)) Q E s := by
  have hT : s.TypeIs (.ref M) "map" := ⟨_, (N _ (.head _)).1, rfl⟩
  unfold pyNext
  refine wpAny_bind (wpAny_attempt (wpAny_callSpecial?_slot (name := Str.ofString "__next__") hT slot_map_next
    (wpAny_call_entry slot_map_next hT entry_map_next ?_ (args_map_next_1 _))))
  show wpAny _ _ (field (.ref M) 0 >>= _) _ _ _
  refine wpAny_bind (wpAny_field (N _ (.head _)).1 rfl (x := .ref T) rfl ?_)
  refine wpAny_bind (wpAny_seqItems (N _ (.tail _ (.head _))).1 rfl ?_)
  have hit : s.heap.IsListIter it l i := ⟨oi, (N _ (.tail _ (.tail _ (.head _)))).1, ho⟩
  have hlst : s.heap.IsList l items := ⟨_, (N _ (.tail _ (.tail _ (.tail _ hl)))).1, rfl, nn, rfl⟩
  dsimp only
  refine wpAny_bind ?_
  rw [← Array.forIn_toList]
  show wpAny _ _ (forIn [Value.ref it] #[] _) _ _ _
  rw [List.forIn_cons]
  refine wpAny_bind (wpAny_bind (wpAny_holding (wpAny_nextOf_list_item hit hlst hv fun h' hit' hs' => ?_)))
  refine wpAny_pure (wpAny_pure ?_)
  obtain ⟨oi', hoi', hoc', hod'⟩ := hit'
  have hnI : h₀.get? it = none := (N _ (.tail _ (.tail _ (.head _)))).2.2
  have hLI : it ≠ L := (N _ (.tail _ (.tail _ (.head _)))).2.1
  have F' : Fr h₀ L h' m := ⟨F.ns.sameBut hs' (Ne.symm hLI), fun b o e => hs'.extBut b o (fun q => by rw [q, hnI] at e; cases e) (F.keep b o e), F.above⟩
  have N' : News h₀ L h' ((M, mapObj T f) :: (T, tupObj #[.ref it]) :: (it, oi') :: nw) := fun p hp => by
    rcases List.mem_cons.mp hp with rfl | hp
    · exact ⟨(hs'.2 _ (Nat.ne_of_gt (Nat.lt_trans h1 h2))).trans (N _ (.head _)).1, (N _ (.head _)).2⟩
    · rcases List.mem_cons.mp hp with rfl | hp
      · exact ⟨(hs'.2 _ (Nat.ne_of_gt h1)).trans (N _ (.tail _ (.head _))).1, (N _ (.tail _ (.head _))).2⟩
      · rcases List.mem_cons.mp hp with rfl | hp
        · exact ⟨hoi', hLI, hnI⟩
        · exact ⟨(hs'.2 _ (h3 p hp)).trans (N _ (.tail _ (.tail _ (.tail _ hp)))).1, (N _ (.tail _ (.tail _ (.tail _ hp)))).2⟩
  show wpAny _ _ (field (.ref M) 1 >>= _) _ _ _
  refine wpAny_bind (wpAny_field (N' _ (.head _)).1 rfl (x := .ref f) rfl ?_)
  refine wpAny_bind (wpAny_holding ?_)
  refine C (k + 1) v t _ _ _ _ F' N' (by omega) (fun h'' tk'' F'' N'' => ?_)
  refine wpAny_bind (wpAny_letGo ?_)
  exact wpAny_pure ⟨_, rfl, wpAny_pure (h h'' oi' tk'' F'' N'' ⟨hoc', hod'⟩)⟩
theorem map_end {l f M T it : Addr} {i : Nat} {items : Array Value} {nn : Nat} {oi : Obj} {Q : Option Value → Shared → Prop} (hh : A.handled = none) (F : Fr h₀ L s.heap m)
    (N : News h₀ L s.heap ((M, mapObj T f) :: (T, tupObj #[.ref it]) :: (it, oi) :: nw)) (ho : oi.cls = .type "list_iterator" ∧ oi.data = .fields #[.ref l, .int i 0]) (h3 : ∀ p ∈ nw, p.1 ≠ it) (hl : (l, PySem.W.listOf items nn) ∈ nw) (hv : items[i]? = none)
    (h : ∀ h', Fr h₀ L h' m → News h₀ L h' nw → Q none { s with heap := h' }) :
    wpAny (model prog w) A (pyNext (.ref M)) Q E s := by
  have hT : s.TypeIs (.ref M) "map" := ⟨_, (N _ (.head _)).1, rfl⟩
  have hit : s.heap.IsListIter it l i := ⟨oi, (N _ (.tail _ (.tail _ (.head _)))).1, ho⟩
  have hlst : s.heap.IsList l items := ⟨_, (N _ (.tail _ (.tail _ (.tail _ hl)))).1, rfl, nn, rfl⟩
  unfold pyNext
  refine wpAny_bind (wpAny_attempt (wpAny_callSpecial?_slot (name := Str.ofString "__next__") hT slot_map_next
    (wpAny_call_entry slot_map_next hT entry_map_next ?_ (args_map_next_1 _))))
  show wpAny _ _ (field (.ref M) 0 >>= _) _ _ _
  refine wpAny_bind (wpAny_field (N _ (.head _)).1 rfl (x := .ref T) rfl ?_)
  refine wpAny_bind (wpAny_seqItems (N _ (.tail _ (.head _))).1 rfl ?_)
  dsimp only
  refine wpAny_bind ?_
  rw [← Array.forIn_toList]
  show wpAny _ _ (forIn [Value.ref it] #[] _) _ _ _
  rw [List.forIn_cons]
  refine wpAny_bind (wpAny_bind (wpAny_holding (wpAny_nextOf_list_end (A := A.in1) hh hit hlst hv fun h' x he hx => ?_)))
  obtain ⟨o, ho', hc'⟩ := hx
  have hnI : h₀.get? it = none := (N _ (.tail _ (.tail _ (.head _)))).2.2
  have hLI : it ≠ L := (N _ (.tail _ (.tail _ (.head _)))).2.1
  have F' : Fr h₀ L h' m := ⟨F.ns.extBut he (Ne.symm hLI), fun b o e => he b o (fun q => by rw [q, hnI] at e; cases e) (F.keep b o e), F.above⟩
  have N' : News h₀ L h' nw := fun p hp => by
    have := N p (.tail _ (.tail _ (.tail _ hp)))
    exact ⟨he _ _ (h3 p hp) this.1, this.2⟩
  refine wpAny_bind (wpAny_isInstance (T := "StopIteration") (b := true) ⟨o, ho', hc'⟩ isSubtype_stop ?_)
  exact wpAny_pure (h h' F' N')
end
end Mine
end

section
set_option maxRecDepth 100000
open PySem PySem.W PyProof.Rows PySem.Calls PySem.Spec
set_option linter.unusedVariables false
namespace Mine
abbrev lisObj (xs : Array Value) (c : Nat) : Obj := { cls := .type "list", data := .seq xs c }
section
variable {prog : Program} {w : World} {A : Around} {E : Value → Shared → Prop} {s : Shared} {h₀ h : Heap} {L : Addr} {m : Str → Option Value} {nw : List (Addr × Obj)}
theorem upd_head {S : Addr} {o o' : Obj} {f : Obj → Obj} (F : Fr h₀ L h m) (N : News h₀ L h ((S, o) :: nw)) (hne : ∀ p ∈ nw, p.1 ≠ S) (hs : (h.update S f).get? S = some o') : Fr h₀ L (h.update S f) m ∧ News h₀ L (h.update S f) ((S, o') :: nw) := by
  have hS := N (S, o) (.head _)
  have oth : ∀ b ob, b ≠ S → h.get? b = some ob → (h.update S f).get? b = some ob := fun b ob hb e => (Heap.get?_update_other _ _ (Ne.symm hb)).trans e
  refine ⟨⟨F.ns.at' fun ob e => oth L ob (Ne.symm hS.2.1) e, fun b ob e => oth b ob (fun q => ?_) (F.keep b ob e), F.above⟩, fun p hp => ?_⟩
  · rw [q, hS.2.2] at e; cases e
  · rcases List.mem_cons.mp hp with rfl | hp
    · exact ⟨hs, hS.2⟩
    · exact ⟨oth _ _ (hne p hp) (N p (.tail _ hp)).1, (N p (.tail _ hp)).2⟩
theorem ext_item {S l f M T it : Addr} {i k c : Nat} {acc items : Array Value} {v : Str} {t : Tok} {nn : Nat} {oi : Obj} {res : Value} {R : Result → Shared → Prop} (F : Fr h₀ L s.heap m)
    (N : News h₀ L s.heap ((S, lisObj acc c) :: (M, mapObj T f) :: (T, tupObj #[.ref it]) :: (it, oi) :: nw)) (ho : oi.cls = .type "list_iterator" ∧ oi.data = .fields #[.ref l, .int i 0]) (h1 : it < T) (h2 : T < M) (h2S : M < S) (h3 : ∀ p ∈ nw, p.1 < it) (hl : (l, PySem.W.listOf items nn) ∈ nw) (hv : items[i]? = some (.str v t)) (C : SameBack prog w A h₀ L m f) (hk : k ≤ 7) (ha : acc.size ≤ 9)
    (h : ∀ h' oi' tk c', Fr h₀ L h' m → News h₀ L h' ((S, lisObj (acc.push (.str v t)) c') :: (M, mapObj T f) :: (T, tupObj #[.ref it]) :: (it, oi') :: nw) → oi'.cls = .type "list_iterator" ∧ oi'.data = .fields #[.ref l, .int ((i + 1 : Nat) : Int) 0] →
      codeAny (model prog w) { A with units := A.units + k } (.builtin "list.extend.loop" ⟨[.ref S, .ref M, res], []⟩) R { s with heap := h', toks := tk }) :
    codeAny (model prog w) { A with units := A.units + k } (.builtin "list.extend.loop" ⟨[.ref S, .ref M, res], []⟩) R s := by
  refine codeAny_builtin PySem.F.entry_extend_loop ?_
  rw [Around.under_plainId PySem.F.plain_extend_loop _]
  show wpAny _ { A with units := A.units + (k + 1) } (pyNext (.ref M) >>= _) _ _ s
  have N' : News h₀ L s.heap ((M, mapObj T f) :: (T, tupObj #[.ref it]) :: (it, oi) :: (S, lisObj acc c) :: nw) := fun p hp => N p (by
    simp only [List.mem_cons] at hp ⊢
    rcases hp with q | q | q | q | q
    · exact .inr (.inl q)
    · exact .inr (.inr (.inl q))
    · exact .inr (.inr (.inr (.inl q)))
    · exact .inl q
    · exact .inr (.inr (.inr (.inr q))))
  refine wpAny_bind (map_next F N' ho h1 h2 (fun p hp => ?_) (.tail _ hl) hv C (by omega) fun h' oi' tk F₁ N₁ ho₁ => ?_)
  · rcases List.mem_cons.mp hp with rfl | hp
    · exact Nat.ne_of_gt (Nat.lt_trans h1 (Nat.lt_trans h2 h2S))
    · exact Nat.ne_of_lt (h3 p hp)
  · have N₂ : News h₀ L h' ((S, lisObj acc c) :: (M, mapObj T f) :: (T, tupObj #[.ref it]) :: (it, oi') :: nw) := fun p hp => N₁ p (by
      simp only [List.mem_cons] at hp ⊢
      rcases hp with q | q | q | q | q
      · exact .inr (.inr (.inr (.inl q)))
      · exact .inl q
      · exact .inr (.inl q)
      · exact .inr (.inr (.inl q))
      · exact .inr (.inr (.inr (.inr q))))
    have hS := (N₂ _ (.head _)).1
    show wpAny _ _ (updateSeq S (·.push (.str v t)) >>= _) _ _ _
    refine wpAny_bind ?_
    have below : ∀ p ∈ (M, mapObj T f) :: (T, tupObj #[.ref it]) :: (it, oi') :: nw, p.1 ≠ S := fun p hp => by
      simp only [List.mem_cons] at hp
      rcases hp with rfl | rfl | rfl | hp
      · exact Nat.ne_of_lt h2S
      · exact Nat.ne_of_lt (Nat.lt_trans h2 h2S)
      · exact Nat.ne_of_lt (Nat.lt_trans h1 (Nat.lt_trans h2 h2S))
      · exact Nat.ne_of_lt (Nat.lt_trans (h3 p hp) (Nat.lt_trans h1 (Nat.lt_trans h2 h2S)))
    obtain ⟨F₃, N₃⟩ := upd_head (f := Obj.mapSeq (·.push (.str v t))) F₁ N₂ below (Heap.get?_update_self _ hS rfl)
    refine wpAny_updateSeq hS rfl (wpAny_pure ⟨plainId_quiet PySem.F.plain_extend_loop _, ?_⟩) (by rw [sizeLine_eq]; omega) (by show (acc.push (Value.str v t)).size ≤ _; rw [Array.size_push, sizeLine_eq]; omega)
    exact h _ oi' tk _ F₃ N₃ ho₁
theorem collect_map {l f M T it : Addr} {k : Nat} {x y : Str} {t u : Tok} {nn : Nat} {Q : List Value → Shared → Prop} (hh : A.handled = none) (F : Fr h₀ L s.heap m)
    (N : News h₀ L s.heap ((M, mapObj T f) :: (T, tupObj #[.ref it]) :: (it, litObj l) :: nw)) (h1 : it < T) (h2 : T < M) (h3 : ∀ p ∈ nw, p.1 < it) (hl : (l, PySem.W.listOf #[.str x t, .str y u] nn) ∈ nw) (C : SameBack prog w A h₀ L m f) (hk : k ≤ 5)
    (h : ∀ h' tk, Fr h₀ L h' m → News h₀ L h' nw → Q [.str x t, .str y u] { s with heap := h', toks := tk }) :
    wpAny (model prog w) { A with units := A.units + k } (collect (.ref M)) Q E s := by
  unfold collect
  refine wpAny_bind (wpAny_runValue (codeAny_builtin PySem.F.entry_proto_collect ?_))
  rw [Around.under_plainId PySem.F.plain_proto_collect _]
  show wpAny _ { A with units := A.units + (k + 1) } (newList [] >>= fun l => again (.builtin "list.__iadd__" ⟨[l, .ref M], []⟩)) _ _ s
  refine wpAny_bind (wpAny_newObj_type ?_)
  refine wpAny_pure ⟨plainId_quiet PySem.F.plain_list_iadd _, codeAny_builtin PySem.F.entry_list_iadd ?_⟩
  rw [Around.under_plainId PySem.F.plain_list_iadd _]
  have N1 := News.push F N (lisObj #[] 0)
  have F1 := Fr.push F (lisObj #[] 0)
  have hMS : M < s.heap.objs.size := Heap.lt_size (N _ (.head _)).1
  generalize hSe : s.heap.objs.size = S at N1 hMS
  generalize hHe : s.heap.push (lisObj #[] 0) = H1 at N1 F1
  show wpAny _ { A with units := A.units + (k + 1) } (Builtin.List.listExtendWith (.ref S) (.ref M) (.ref S)) _ _ { s with heap := H1 }
  have hT : ({ s with heap := H1 } : Shared).TypeIs (.ref M) "map" := ⟨_, (N1 _ (.tail _ (.head _))).1, rfl⟩
  have hnotM : S ≠ M := Nat.ne_of_gt hMS
  unfold Builtin.List.listExtendWith
  refine wpAny_bind (wpAny_typeOf hT ?_)
  have b1 : Builtin.List.listSameRef (.ref S) (.ref M) = false := by simp [Builtin.List.listSameRef, hnotM]
  have b2 : (Value.type "map" == Value.type "list") = false := by decide
  have b3 : (Value.type "map" == Value.type "tuple") = false := by decide
  simp only [b1, b2, b3, Bool.or_false, Bool.false_eq_true, if_false]
  refine wpAny_bind (map_iter (N1 _ (.tail _ (.head _))).1 ?_)
  refine wpAny_bind (wpAny_holding ?_)
  unfold Builtin.List.listLengthHint
  refine wpAny_bind (wpAny_specialOf hT map_no_len ?_)
  show wpAny _ _ (specialOf (Value.ref M) (Str.ofString "__length_hint__") >>= _) _ _ _
  refine wpAny_bind (wpAny_specialOf hT map_no_hint ?_)
  refine wpAny_pure ?_
  show wpAny _ _ (rule "list.extend.makes-room" >>= fun _ => Builtin.List.listTouch (.ref S) >>= fun _ =>
    again (.builtin "list.extend.loop" ⟨[.ref S, .ref M, .ref S], []⟩)) _ _ _
  refine wpAny_bind (wpAny_rule ?_)
  refine wpAny_bind ?_
  have below : ∀ p ∈ (M, mapObj T f) :: (T, tupObj #[.ref it]) :: (it, litObj l) :: nw, p.1 ≠ S := fun p hp => by
    simp only [List.mem_cons] at hp
    rcases hp with rfl | rfl | rfl | hp
    · exact Nat.ne_of_lt hMS
    · exact Nat.ne_of_lt (Nat.lt_trans h2 hMS)
    · exact Nat.ne_of_lt (Nat.lt_trans h1 (Nat.lt_trans h2 hMS))
    · exact Nat.ne_of_lt (Nat.lt_trans (h3 p hp) (Nat.lt_trans h1 (Nat.lt_trans h2 hMS)))
  have hS1 := (N1 _ (.head _)).1
  show wpAny _ _ (updateSeq S (·.push .none) >>= fun _ => updateSeq S (·.pop)) _ _ _
  refine wpAny_bind (wpAny_updateSeq hS1 rfl ?_)
  obtain ⟨F2, N2⟩ := upd_head (f := Obj.mapSeq (·.push Value.none)) F1 N1 below (Heap.get?_update_self _ hS1 rfl)
  have hS2 := (N2 _ (.head _)).1
  refine wpAny_updateSeq hS2 rfl ?_
  obtain ⟨F3, N3⟩ := upd_head (f := Obj.mapSeq (·.pop)) F2 N2 below (Heap.get?_update_self _ hS2 rfl)
  refine wpAny_pure ⟨plainId_quiet PySem.F.plain_extend_loop _, ?_⟩
  refine ext_item (s := { s with heap := _ }) (i := 0) (acc := #[]) (items := #[.str x t, .str y u]) F3 N3 ⟨rfl, rfl⟩ h1 h2 hMS h3 hl rfl C (by omega) (by decide) fun h4 o4 tk4 c4 F4 N4 ho4 => ?_
  refine ext_item (i := 1) (items := #[.str x t, .str y u]) F4 N4 ho4 h1 h2 hMS h3 hl rfl C (by omega) (by show 1 ≤ 9; decide) fun h5 o5 tk5 c5 F5 N5 ho5 => ?_
  refine codeAny_builtin PySem.F.entry_extend_loop ?_
  rw [Around.under_plainId PySem.F.plain_extend_loop _]
  show wpAny _ { A with units := A.units + (k + 1) } (pyNext (.ref M) >>= _) _ _ _
  have N6 : News h₀ L h5 ((M, mapObj T f) :: (T, tupObj #[.ref it]) :: (it, o5) :: (S, lisObj #[.str x t, .str y u] c5) :: nw) := fun p hp => N5 p (by
    simp only [List.mem_cons] at hp ⊢
    rcases hp with q | q | q | q | q
    · exact .inr (.inl q)
    · exact .inr (.inr (.inl q))
    · exact .inr (.inr (.inr (.inl q)))
    · exact .inl q
    · exact .inr (.inr (.inr (.inr q))))
  refine wpAny_bind (map_end (i := 2) (items := #[.str x t, .str y u]) hh F5 N6 ho5 (fun p hp => ?_) (.tail _ hl) rfl fun h7 F7 N7 => ?_)
  · rcases List.mem_cons.mp hp with rfl | hp
    · exact Nat.ne_of_gt (Nat.lt_trans h1 (Nat.lt_trans h2 hMS))
    · exact Nat.ne_of_lt (h3 p hp)
  · refine wpAny_pure ?_
    show wpAny _ _ (load S >>= _) _ _ _
    refine wpAny_bind (wpAny_load (N7 _ (.head _)).1 ?_)
    exact wpAny_pure (h h7 tk5 F7 fun p hp => N7 p (.tail _ hp))
theorem code_tuple_map {l f M T it : Addr} {k : Nat} {x y : Str} {t u : Tok} {nn : Nat} {Q₁ : Value → Shared → Prop} (hh : A.handled = none) (F : Fr h₀ L s.heap m)
    (N : News h₀ L s.heap ((M, mapObj T f) :: (T, tupObj #[.ref it]) :: (it, litObj l) :: nw)) (h1 : it < T) (h2 : T < M) (h3 : ∀ p ∈ nw, p.1 < it) (hl : (l, PySem.W.listOf #[.str x t, .str y u] nn) ∈ nw) (C : SameBack prog w A h₀ L m f) (hk : k ≤ 2)
    (h : ∀ h' D tk, Fr h₀ L h' m → News h₀ L h' ((D, tupObj #[.str x t, .str y u]) :: nw) → (∀ p ∈ nw, p.1 < D) → Q₁ (.ref D) { s with heap := h', toks := tk }) :
    codeAny (model prog w) { A with units := A.units + k } (.call (.builtin "tuple.__new__") ⟨[.type "tuple", .ref M], []⟩) (wants Q₁ E) s := by
  refine codeAny_of_tree ?_
  show wpAny _ { A with units := A.units + (k + 1) } (do checkBuiltinCall "tuple.__new__" ⟨[.type "tuple", .ref M], []⟩; again (.builtin "tuple.__new__" ⟨[.type "tuple", .ref M], []⟩)) _ _ s
  refine wpAny_bind (wpAny_of_eq (PySem.F.newCall_tuple_1 _) (wpAny_pure ⟨plainId_quiet PySem.F.plain_tuple_new _, codeAny_builtin PySem.F.entry_tuple_new ?_⟩))
  rw [Around.under_plainId PySem.F.plain_tuple_new _]
  have hsub := sub_tuple_self
  have hinit := init_tuple_lookup
  have hmh := madeHere_tuple
  have hT : s.TypeIs (.ref M) "map" := ⟨_, (N _ (.head _)).1, rfl⟩
  have hc : ∀ {Q' : List Value → Shared → Prop} {E' : Value → Shared → Prop}, (∀ h' tk, Fr h₀ L h' m → News h₀ L h' nw → Q' [.str x t, .str y u] { s with heap := h', toks := tk }) →
      wpAny (model prog w) { A with units := A.units + k }.in1 (collect (.ref M)) Q' E' s := fun h => collect_map (k := k + 1) hh F N h1 h2 h3 hl C (by omega) h
  wp_walk using wpAny_typeOf hT, hc
  intro h9 tk9 F9 N9
  show wpAny _ _ (Builtin.Tuple.tupleExact #[.str x t, .str y u] >>= fun v => ret v) _ _ _
  unfold Builtin.Tuple.tupleExact
  refine wpAny_bind (wpAny_newObj_type ?_ (by show 2 ≤ sizeLine; rw [sizeLine_eq]; omega))
  refine wpAny_pure ?_
  exact h _ _ tk9 (Fr.push F9 _) (News.push F9 N9 _) fun p hp => Heap.lt_size (N9 p hp).1
theorem tuple_map {l f M T it : Addr} {x y : Str} {t u : Tok} {nn : Nat} {Q : Value → Shared → Prop} (F : Fr h₀ L s.heap m)
    (N : News h₀ L s.heap ((M, mapObj T f) :: (T, tupObj #[.ref it]) :: (it, litObj l) :: nw)) (h1 : it < T) (h2 : T < M) (h3 : ∀ p ∈ nw, p.1 < it) (hl : (l, PySem.W.listOf #[.str x t, .str y u] nn) ∈ nw) (C : SameBack prog w A h₀ L m f)
    (hh : A.handled = none) (h : ∀ h' D tk, Fr h₀ L h' m → News h₀ L h' ((D, tupObj #[.str x t, .str y u]) :: nw) → (∀ p ∈ nw, p.1 < D) → Q (.ref D) { s with heap := h', toks := tk }) :
    wpAny (model prog w) A (call (.type "tuple") [.ref M]) Q E s := by
  refine callType_codes (Q₁ := fun obj s₁ => s₁.TypeIs obj "tuple" ∧ Q obj s₁) PySem.F.called_tuple (PySem.F.typeCall_tuple_1 _) PySem.F.entry_object_init
    (code_tuple_map (A := A) (k := 1) hh F N h1 h2 h3 hl C (by omega) fun h' D tk F' N' l' => ⟨⟨_, (N' _ (.head _)).1, rfl⟩, h h' D tk F' N' l'⟩) fun obj s₁ h₁ => ?_
  exact ⟨h₁.1, PySem.F.args_object_init_2 obj _, object_init_meets PySem.F.called_tuple.init.lookup PySem.F.called_tuple.made (by decide) prog w A.in1 _ s₁ ⟨h₁.1, rfl, h₁.2⟩⟩
end
end Mine
end

section
set_option maxRecDepth 100000
open PySem PySem.W PyProof.Rows PySem.Calls PySem.Spec
set_option linter.unusedVariables false
namespace Mine
def two (x y : Str) (i : Nat) : Str := if i = 0 then x else y
theorem two_at {x y : Str} {t u : Tok} {i : Nat} {v : Value} (h : (#[Value.str x t, Value.str y u] : Array Value)[i]? = some v) : ∃ t', v = .str (two x y i) t' := by
  match i with
  | 0 => simp at h; exact ⟨t, h.symm⟩
  | 1 => simp at h; exact ⟨u, h.symm⟩
  | n + 2 => simp at h
section
variable {prog : Program} {w : World} {A : Around} {E : Value → Shared → Prop} {s : Shared} {h₀ : Heap} {L : Addr} {m : Str → Option Value} {nw : List (Addr × Obj)}
theorem iter_two {D : Addr} {a b : Value} {Q : Value → Shared → Prop} (hl : s.heap.IsTuple D #[a, b])
    (h : ∀ s₂ : Shared, (∃ o, s₂ = { s with heap := s.heap.push o }) → (s₂.heap.IsTupleIter s.heap.objs.size D 0 ∧ s₂.heap.IsTuple D #[a, b]) → (∀ b ∈ [s.heap.objs.size, D], b < s₂.heap.objs.size) → D ≠ s.heap.objs.size → Q (.ref s.heap.objs.size) s₂) :
    wpAny (model prog w) A (pyIter (.ref D)) Q E s := by
  have hlt : D < s.heap.objs.size := by obtain ⟨_, e, _⟩ := hl; exact Heap.lt_size e
  refine wpAny_pyIter_tuple hl (h _ ⟨_, rfl⟩ ⟨⟨_, Heap.get?_push_size _ rfl, rfl, rfl⟩, hl.at fun o e => Heap.get?_push_of_some _ e⟩ (fun b hb => ?_) (Nat.ne_of_lt hlt))
  show b < (s.heap.push _).objs.size
  rw [Heap.size_push]
  rcases List.mem_cons.mp hb with rfl | hb
  · exact Nat.lt_succ_self _
  · rw [List.mem_singleton.mp hb]; exact Nat.lt_succ_of_lt hlt
theorem kept_two {o : Obj} {h' : Heap} (hk : ∀ b o', b ∉ [s.heap.objs.size] → (s.heap.push o).get? b = some o' → h'.get? b = some o') : ∀ b o', s.heap.get? b = some o' → h'.get? b = some o' := fun b o' e =>
  hk b o' (fun hm => absurd ((List.mem_singleton.mp hm) ▸ Heap.lt_size e) (Nat.lt_irrefl _)) (Heap.get?_push_of_some _ e)
theorem min_strs {D : Addr} {x y : Str} {t u : Tok} {Q : Value → Shared → Prop} (hh : A.handled = none) (hl : s.heap.IsTuple D #[.str x t, .str y u]) (F : Fr h₀ L s.heap m) (N : News h₀ L s.heap nw)
    (h : ∀ h' tk, Fr h₀ L h' m → News h₀ L h' nw → Q (if y.cps.toList < x.cps.toList then .str y u else .str x t) { s with heap := h', toks := tk }) :
    wpAny (model prog w) A (call (.builtin "min") [.ref D]) Q E s := by
  refine call_min_walk (iter_two hl fun s₂ e st hfp hne => ?_)
  obtain ⟨o, rfl⟩ := e
  refine ⟨_, _, _, _, _, _, fun i j => decide ((two x y i).cps.toList < (two x y j).cps.toList), rfl, Walks.tuple (A := A.in1) hh _ D hne _, st, hfp, (by decide : 0 < 2), fun i j vi vj s Q E hi hj h => ?_, fun v h' tk hP hk => ?_⟩
  · obtain ⟨t1, rfl⟩ := two_at hi
    obtain ⟨t2, rfl⟩ := two_at hj
    exact lt_str h
  · have hk' := kept_two hk
    have F' : Fr h₀ L h' m := ⟨F.ns.keeps hk', fun b o e => hk' b o (F.keep b o e), F.above⟩
    have N' : News h₀ L h' nw := fun p hp => ⟨hk' _ _ (N p hp).1, (N p hp).2⟩
    have := h h' tk F' N'
    have hP' : (#[Value.str x t, Value.str y u] : Array Value)[argBest (fun i j => decide ((two x y i).cps.toList < (two x y j).cps.toList)) 1]? = some v := hP
    by_cases c : y.cps.toList < x.cps.toList
    · rw [if_pos c] at this
      have e : argBest (fun i j => decide ((two x y i).cps.toList < (two x y j).cps.toList)) 1 = 1 := by simp [argBest, two, c]
      rw [e] at hP'
      simp at hP'
      rw [← hP']; exact this
    · rw [if_neg c] at this
      have e : argBest (fun i j => decide ((two x y i).cps.toList < (two x y j).cps.toList)) 1 = 0 := by simp [argBest, two, c]
      rw [e] at hP'
      simp at hP'
      rw [← hP']; exact this
theorem max_strs {D : Addr} {x y : Str} {t u : Tok} {Q : Value → Shared → Prop} (hh : A.handled = none) (hl : s.heap.IsTuple D #[.str x t, .str y u]) (F : Fr h₀ L s.heap m) (N : News h₀ L s.heap nw)
    (h : ∀ h' tk, Fr h₀ L h' m → News h₀ L h' nw → Q (if x.cps.toList < y.cps.toList then .str y u else .str x t) { s with heap := h', toks := tk }) :
    wpAny (model prog w) A (call (.builtin "max") [.ref D]) Q E s := by
  refine call_max_walk (iter_two hl fun s₂ e st hfp hne => ?_)
  obtain ⟨o, rfl⟩ := e
  refine ⟨_, _, _, _, _, _, fun i j => decide ((two x y j).cps.toList < (two x y i).cps.toList), rfl, Walks.tuple (A := A.in1) hh _ D hne _, st, hfp, (by decide : 0 < 2), fun i j vi vj s Q E hi hj h => ?_, fun v h' tk hP hk => ?_⟩
  · obtain ⟨t1, rfl⟩ := two_at hi
    obtain ⟨t2, rfl⟩ := two_at hj
    exact P.gt_str h
  · have hk' := kept_two hk
    have F' : Fr h₀ L h' m := ⟨F.ns.keeps hk', fun b o e => hk' b o (F.keep b o e), F.above⟩
    have N' : News h₀ L h' nw := fun p hp => ⟨hk' _ _ (N p hp).1, (N p hp).2⟩
    have := h h' tk F' N'
    have hP' : (#[Value.str x t, Value.str y u] : Array Value)[argBest (fun i j => decide ((two x y j).cps.toList < (two x y i).cps.toList)) 1]? = some v := hP
    by_cases c : x.cps.toList < y.cps.toList
    · rw [if_pos c] at this
      have e : argBest (fun i j => decide ((two x y j).cps.toList < (two x y i).cps.toList)) 1 = 1 := by simp [argBest, two, c]
      rw [e] at hP'
      simp at hP'
      rw [← hP']; exact this
    · rw [if_neg c] at this
      have e : argBest (fun i j => decide ((two x y j).cps.toList < (two x y i).cps.toList)) 1 = 0 := by simp [argBest, two, c]
      rw [e] at hP'
      simp at hP'
      rw [← hP']; exact this
end
end Mine
end

section
set_option maxRecDepth 100000
open PySem PySem.W PyProof.Rows PySem.Calls PySem.Spec
set_option linter.unusedVariables false
namespace Mine
theorem prefix_lt : ∀ (a b : List Nat), (∀ j, j < b.length → a[j]? = b[j]?) → b.length < a.length → b < a
  | [], b, _, h => by simp at h
  | x :: a, [], _, _ => List.nil_lt_cons _ _
  | x :: a, y :: b, h, hl => by
    have h0 := h 0 (by simp)
    simp at h0
    subst h0
    refine List.cons_lt_cons_self.mpr (prefix_lt a b (fun j hj => ?_) (by simpa using hl))
    have := h (j + 1) (by simpa using hj)
    simpa using this
theorem lcp_at {a b : List Nat} {i : Nat} (h : ∀ j, j < i → a[j]? = b[j]?) (h1 : i ≤ a.length) (h2 : i ≤ b.length) (hn : i < a.length → a[i]? ≠ b[i]?) : lcp a b = i := by
  have hle : i ≤ lcp a b := (le_lcp a b i).2 ⟨h1, h2, h⟩
  refine Nat.le_antisymm ?_ hle
  refine Nat.not_lt.mp fun hc => ?_
  have := (le_lcp a b (i + 1)).1 hc
  exact hn (by omega) (this.2.2 i (by omega))
theorem lcp_comm : ∀ (a b : List Nat), lcp a b = lcp b a
  | [], b => by rw [lcp_nil_left, lcp_nil_right]
  | x :: a, [] => by rw [lcp_nil_left, lcp_nil_right]
  | x :: a, y :: b => by
    rw [lcp_cons, lcp_cons, lcp_comm a b]
    by_cases h : x = y
    · rw [if_pos h, if_pos h.symm]
    · rw [if_neg h, if_neg fun e => h e.symm]
section
variable {prog : Program} {w : World} {A : Around} {E : Value → Shared → Prop} {s : Shared} {env : Env} {h₀ : Heap} {m₀ : Str → Option Value} {nw : List (Addr × Obj)}
theorem strSearch {xi xc : Str} {body : List Stmt} {xv : Value} {Q : Flow → Shared → Prop} {x : Str} (S : PairSrc prog w A E h₀ env ItemKind.str (signs x) xv s m₀ nw) (P : Nat → Prop) (h0 : P 0)
    (turn : ∀ i c t tc h tk own, x.cps[i]? = some c → P i → Fr h₀ env.locals h (fun y => if y = xc then some (.str ⟨#[c]⟩ tc) else if y = xi then some (.int i t) else m₀ y) → News h₀ env.locals h (own ++ nw) →
      wpAny (model prog w) A (execs body env) (SPost h₀ env.locals xi xc m₀ (own ++ nw) (P (i + 1)) { s with heap := h, toks := tk } Q) E { s with heap := h, toks := tk })
    (done : ∀ h m tk, P x.length → (∀ z, z ≠ xi → z ≠ xc → m z = m₀ z) → Fr h₀ env.locals h m → News h₀ env.locals h nw → Q .next { s with heap := h, toks := tk }) :
    wpAny (model prog w) A (pyIter xv) (fun it s₂ => PairAt3 prog w A h₀ env xi xc body Q E it s₂) E s := by
  refine S xi xc body Q (fun i m₁ n₁ => n₁ = nw ∧ (∀ z, z ≠ xi → z ≠ xc → m₁ z = m₀ z) ∧ P i) ⟨rfl, fun _ _ _ => rfl, h0⟩ ?_ ?_
  · rintro i a t v m₁ n₁ s₁ own ⟨h, tk, rfl⟩ ha hk ⟨rfl, hm, hP⟩ - - F N
    obtain ⟨u, rfl⟩ := ItemKind.str_is hk
    have hc : ∃ c, x.cps[i]? = some c ∧ a = ⟨#[c]⟩ := by
      simp [signs] at ha
      obtain ⟨c, h1, h2⟩ := ha
      exact ⟨c, by simpa using h1, h2.symm⟩
    obtain ⟨c, hc, rfl⟩ := hc
    have em : (fun y => if y = xc then some (.str ⟨#[c]⟩ u) else if y = xi then some (Value.int i t) else m₁ y) = fun y => if y = xc then some (.str ⟨#[c]⟩ u) else if y = xi then some (Value.int i t) else m₀ y := by
      funext y
      by_cases h1 : y = xc
      · simp [h1]
      · by_cases h2 : y = xi
        · simp [h2]
        · simp only [if_neg h1, if_neg h2]; exact hm y h2 h1
    rw [em] at F
    refine wpAny_mono (turn i c t u h tk own hc hP F N) (fun f s₂ hp => ?_) fun _ _ e => e
    have fin : (∃ (h' : Heap) (tk' : Nat) (m' : Str → Option Value), s₂ = { s with heap := h', toks := tk' } ∧ Fr h₀ env.locals h' m' ∧ News h₀ env.locals h' (own ++ n₁) ∧ (∀ z, z ≠ xi → z ≠ xc → m' z = m₀ z) ∧ P (i + 1)) →
        ∃ (h' : Heap) (tk' : Nat) (m₂ : Str → Option Value) (n₂ : List (Addr × Obj)), s₂ = { ({ s with heap := h, toks := tk } : Shared) with heap := h', toks := tk' } ∧ Fr h₀ env.locals h' m₂ ∧ News h₀ env.locals h' (own ++ n₂) ∧ n₂.map (·.1) = n₁.map (·.1) ∧ n₂ = n₁ ∧ (∀ z, z ≠ xi → z ≠ xc → m₂ z = m₀ z) ∧ P (i + 1) := by
      rintro ⟨h', tk', m', rfl, F', N', hm', hP'⟩
      exact ⟨h', tk', m', n₁, rfl, F', N', rfl, rfl, hm', hP'⟩
    cases f with
    | ret v => exact hp
    | brk => exact hp
    | next => exact ⟨rfl, fin hp⟩
    | cont => exact ⟨rfl, fin hp⟩
  · rintro h' tk m' n' F N - ⟨rfl, hm, hP⟩
    have hs : (signs x).length = x.length := by simp [signs, Str.length]
    exact done h' m' tk (hs ▸ hP) hm F N
end
end Mine
end

section
open PySem PySem.W PyProof.Rows PySem.Calls
set_option Elab.async false
set_option maxRecDepth 100000
set_option linter.unusedVariables false
set_option linter.unusedSimpArgs false
namespace Mine
theorem ex_A6_1 : (fun (_ : OpenLaw) (_ : Params → Frag) => True) PySem.Challenge.rw_xi0001_01 hd_law.heap_39 = True := by
  k_fill
  k_with_none
  rfl
local macro_rules | `(tactic| walk_at "execs cons") => `(tactic| ((try k_fold); (with_reducible refine gen_toks ?_); intro tkG htkG; (try dsimp only at htkG); (with_reducible refine wpAny_execs_cons ?_); (try dsimp only)))
local macro_rules | `(tactic| walk_at "execs nil") => `(tactic| ((with_reducible refine wpAny_execs_nil ?_); (try dsimp only)))
local macro_rules | `(tactic| walk_at "call builtin:issubclass") => `(tactic| (k_here; (rename News _ _ _ _ => lN'); k_dflt (refine issub_call ((lN' _ (.head _)).1) ?_)))
local macro_rules | `(tactic| walk_at "truthy ref") => `(tactic| (k_extra "my truthy"))
local macro_rules | `(tactic| walk_at "subscriptTail") => `(tactic| (k_extra "my item"))
local macro_rules | `(tactic| walk_at "call type:map") => `(tactic| (k_extra "my map"))
local macro_rules | `(tactic| walk_at "call type:tuple") => `(tactic| (k_extra "my tuple"))
abbrev RetV (news : List (Addr × Obj)) (x : Value) (s : Shared) (h₀ : Heap) (L : Addr) (m : Str → Option Value) (h' : Heap) (tk' : Nat) (v : Value) : Prop :=
  v = x ∧ Fr h₀ L h' m ∧ News h₀ L h' news
set_option maxHeartbeats 4000000 in
theorem fspath_c {w : World} {mean : ExcName → Option Value} {mg mb : Str → Option Value} {news : List (Addr × Obj)} (x : Str) (t : Tok) :
    CallC w mean mg mb 94 3 24 news [.str x t] (RetV news (.str x t)) := by
  intro dp un gd cn cs a ccd cl outer A₀ base h₀ L m s Q E B F X N T hk hd hu hret
  k_with_none
  refine wpAny_call ?_
  cell_enter
  k_steps
  all_goals ((rename News _ _ _ _ => nE'); exact hret _ _ _ ⟨rfl, by assumption, fun p hp => nE' p (.tail _ hp)⟩)
theorem sameBack {w : World} {mean : ExcName → Option Value} {mg mb : Str → Option Value}
    {dp un : Nat} {gd : Option (List Code)} {cn : Str} {cs : Scope} {a : Addr} {ccd : Value} {cl : List (Str × Addr)} {outer : List Env} {A₀ : Around} {base h₀ : Heap} {L : Addr} {m : Str → Option Value}
    (B : Below A₀ base outer h₀) (X : (hd_law.heap_39 w.params).In h₀) (T : TopL mean mg mb h₀) (hk : cs.kind = .function)
    (hd : dp + 3 < recursionLimit) (hu : un + 38 < cLine) : SameBack Prg w (ktrTop dp un gd cn cs L a ccd cl outer) h₀ L m 94 := fun k v t nw s Q E F N hk' h =>
  callC_use (un := un + k) (fspath_c v t) B F X N T hk hd (by omega) fun h' tk' v' r => by
    obtain ⟨rfl, F', N'⟩ := r
    exact h h' tk' F' N'
theorem minmax (x y : Str) (t u : Tok) (n : Nat) (hx : x.length ≤ n) (hy : y.length ≤ n) : ∃ (a b : Str) (ta tb : Tok), (if y.cps.toList < x.cps.toList then Value.str y u else .str x t) = .str a ta ∧ (if x.cps.toList < y.cps.toList then Value.str y u else .str x t) = .str b tb ∧
    ¬ b.cps.toList < a.cps.toList ∧ lcp a.cps.toList b.cps.toList = lcp x.cps.toList y.cps.toList ∧ a.length ≤ n ∧ b.length ≤ n := by
  by_cases h1 : y.cps.toList < x.cps.toList
  · have h2 : ¬ x.cps.toList < y.cps.toList := List.lt_asymm h1
    exact ⟨y, x, u, t, by rw [if_pos h1], by rw [if_neg h2], h2, lcp_comm _ _, hy, hx⟩
  · by_cases h2 : x.cps.toList < y.cps.toList
    · exact ⟨x, y, t, u, by rw [if_neg h1], by rw [if_pos h2], h1, rfl, hx, hy⟩
    · have e : x.cps.toList = y.cps.toList := List.le_antisymm (List.not_lt.mp h1) (List.not_lt.mp h2)
      exact ⟨x, x, t, t, by rw [if_neg h1], by rw [if_neg h2], List.lt_irrefl _, by rw [← e], hx, hx⟩
theorem more_signs {a b : Str} {i c : Nat} (hab : ¬ b.cps.toList < a.cps.toList) (h : ∀ j, j < i → a.cps.toList[j]? = b.cps.toList[j]?) (hc : a.cps[i]? = some c) : i < a.length ∧ i < b.length := by
  have h1 : i < a.cps.size := by
    rcases Array.getElem?_eq_some_iff.mp hc with ⟨h, _⟩; exact h
  refine ⟨h1, Nat.not_le.mp fun hle => hab (prefix_lt _ _ (fun j hj => h j (Nat.lt_of_lt_of_le hj ?_)) ?_)⟩
  · exact hle
  · exact Nat.lt_of_le_of_lt hle h1
theorem two_names {m m₀ : Str → Option Value} {xi xc : Str} (h : ∀ z, z ≠ xi → z ≠ xc → m z = m₀ z) : ∃ vi vc : Option Value, m = fun y => if y = xc then vc else if y = xi then vi else m₀ y := by
  refine ⟨m xi, m xc, funext fun y => ?_⟩
  by_cases h1 : y = xc
  · simp [h1]
  · by_cases h2 : y = xi
    · subst h2; simp [h1]
    · simp only [if_neg h1, if_neg h2]; exact h y h2 h1
theorem sign_here {a b : Str} {i c : Nat} (hc : a.cps[i]? = some c) (hb : i < b.length) (k : Bool) (e : ((⟨#[c]⟩ : Str) != Txt.item b (i : Int)) = k) : k = true ↔ a.cps.toList[i]? ≠ b.cps.toList[i]? := by
  have hb' : i < b.cps.size := hb
  have e1 : Txt.item b (i : Int) = ⟨#[b.cps[i]]⟩ := by
    rw [PyProof.Rows.item_at (by omega) (by exact_mod_cast hb) rfl]
    simp [hb']
  rw [e1] at e
  subst e
  rw [Array.getElem?_toList, Array.getElem?_toList, hc, Array.getElem?_eq_getElem hb']
  rw [bne_iff_ne, ne_eq, ne_eq]
  constructor
  · intro hn h; simp at h; exact hn (by rw [h])
  · intro hn h; injection h with h; simp at h; exact hn (by rw [h])
theorem next_sign {a b : Str} {i c : Nat} (h : ∀ j, j < i → a.cps.toList[j]? = b.cps.toList[j]?) (hc : a.cps[i]? = some c) (hb : i < b.length) (e : ((⟨#[c]⟩ : Str) != Txt.item b (i : Int)) = false) : ∀ j, j < i + 1 → a.cps.toList[j]? = b.cps.toList[j]? := by
  intro j hj
  by_cases h1 : j < i
  · exact h j h1
  · have : j = i := by omega
    subst this
    exact Decidable.not_not.mp fun hn => Bool.noConfusion ((sign_here hc hb false e).2 hn)
theorem slice_len {a : Str} {i : Nat} (h : i < a.length) : (Txt.slice a none (some (i : Int))).length = i := by
  have := (fact_slice_ns a (i : Int)).1 (by omega) (by omega)
  exact_mod_cast this
theorem pref_here {a b : Str} {i c : Nat} (h : ∀ j, j < i → a.cps.toList[j]? = b.cps.toList[j]?) (hc : a.cps[i]? = some c) (ha : i < a.length) (hb : i < b.length) (e : ((⟨#[c]⟩ : Str) != Txt.item b (i : Int)) = true) : lcp a.cps.toList b.cps.toList = i :=
  lcp_at h (Nat.le_of_lt ha) (Nat.le_of_lt hb) fun _ => (sign_here hc hb true e).1 rfl
theorem pref_all {a b : Str} (hab : ¬ b.cps.toList < a.cps.toList) (h : ∀ j, j < a.length → a.cps.toList[j]? = b.cps.toList[j]?) : lcp a.cps.toList b.cps.toList = a.length :=
  lcp_at h (Nat.le_refl _) (Nat.not_lt.mp fun hl => hab (prefix_lt _ _ (fun j hj => h j (Nat.lt_trans hj hl)) hl)) fun hl => absurd hl (Nat.lt_irrefl _)
abbrev RetP (news : List (Addr × Obj)) (n : Nat) (s : Shared) (h₀ : Heap) (L : Addr) (m : Str → Option Value) (h' : Heap) (tk' : Nat) (v : Value) : Prop :=
  ∃ (z : Str) (tz : Tok), v = .str z tz ∧ z.length = n ∧ Fr h₀ L h' m ∧ News h₀ L h' news
local macro_rules | `(tactic| walk_at "pyIter ref") => `(tactic| (k_extra "my pyIter"))
local macro_rules | `(tactic| walk_at "SPost") => `(tactic| (k_extra "my SPost"))
local macro_rules | `(tactic| walk_at "call builtin:min") => `(tactic| (k_extra "my min"))
local macro_rules | `(tactic| walk_at "call builtin:max") => `(tactic| (k_extra "my max"))
set_option maxHeartbeats 4000000 in
theorem common_c {w : World} {mean : ExcName → Option Value} {mg mb : Str → Option Value} {news : List (Addr × Obj)} (l : Addr) (x y : Str) (t u : Tok) (nn : Nat) (hm : (l, listOf #[.str x t, .str y u] nn) ∈ news) (hx : x.length ≤ 1000) (hy : y.length ≤ 1000) :
    CallC w mean mg mb 101 6 60 news [.ref l] (RetP news (lcp x.cps.toList y.cps.toList)) := by
  intro dp un gd cn cs a ccd cl outer A₀ base h₀ L m s Q E B F X N T hk hd hu hret
  k_with_none
  obtain ⟨a1, b1, ta1, tb1, hmin, hmax, hab, hlcp, ha1, hb1⟩ := minmax x y t u 1000 hx hy
  k_with "my truthy" =>
    k_here
    k_dflt (
      (rename News _ _ _ _ => lN')
      (refine truthy_two (a := .str x t) (b := .str y u) ⟨_, (lN' _ hm).1, rfl, nn, rfl⟩ ?_))
  k_with "my map" =>
    k_here
    k_dflt (
      (rename Fr _ _ _ _ => lF')
      (rename News _ _ _ _ => lN')
      (refine map_call lF' lN' (by first | exact hm | exact .tail _ hm) ?_)
      intro h8 M8 T8 it8 F8 N8 l81 l82 l83)
  k_with "my tuple" =>
    k_here
    k_dflt (
      (refine' tuple_map F8 N8 l81 l82 l83 (by first | exact hm | exact .tail _ hm) (sameBack ?k1 ?k3 ?k5 ?k6 ?k7 ?k8) rfl ?_); (case k1 => k_asm); (case k3 => k_asm); (case k5 => k_asm); (case k6 => first | exact rfl | assumption); (case k7 => ktr_room); (case k8 => ktr_units)
      intro h7 D7 tk7 F7 N7 l7)
  k_with "my item" =>
    k_here
    (with_reducible show wpAny _ _ (subscriptTail _ _ (Value.ref _) (Value.int _ _)) _ _ _)
    k_dflt (
      (rename News _ _ _ _ => lN')
      (refine item_at_led (items := #[.str x t, .str y u]) ⟨_, (lN' _ hm).1, rfl, nn, rfl⟩ (by decide) (by decide) rfl ?_))
  k_with "my min" =>
    k_here
    k_dflt (
      (rename Fr _ _ _ _ => lF')
      (rename News _ _ _ _ => lN')
      (refine min_strs rfl ⟨_, (lN' _ (.head _)).1, rfl, 0, rfl⟩ lF' lN' ?_)
      intro h6 tk6 F6 N6; (rw [hmin]))
  k_with "my max" =>
    k_here
    k_dflt (
      (rename Fr _ _ _ _ => lF')
      (rename News _ _ _ _ => lN')
      (refine max_strs rfl ⟨_, (lN' _ (.head _)).1, rfl, 0, rfl⟩ lF' lN' ?_)
      intro h6 tk6 F6 N6; (rw [hmax]))
  k_with "my pyIter" =>
    k_here
    k_dflt (
      (refine' strSearch (x := a1) (PairSrcL.at (by assumption) _ rfl) (fun i => ∀ j, j < i → a1.cps.toList[j]? = b1.cps.toList[j]?) ?h0 ?_ ?_)
      (case h0 => (intro j hj; omega))
      (all_goals first | (intro i c8 t8 tc8 h8 tk8 own8 hc8 hP kFr kNews; (obtain ⟨hia, hib⟩ := more_signs hab hP hc8); (have kMark := kstMark); (try k_fold)) | (intro h9 m9 tk9 hP hm9 F9 N9; (obtain ⟨vi9, vc9, rfl⟩ := two_names hm9); (have kMark := kstMark); (try k_fold))))
  k_with "my SPost" =>
    k_dflt (
      (dsimp only [SPost])
      (first
        | exact ⟨_, _, _, rfl, by assumption, by assumption, fun z h1 h2 => by simp [h1, h2], next_sign hP hc8 hib (by assumption)⟩
        | (try k_unfold; try dsimp only)))
  refine wpAny_call ?_
  cell_enter
  k_steps
  all_goals (try dsimp only)
  k_steps
  all_goals (rename News _ _ _ _ => nE')
  all_goals first
    | exact hret _ _ _ ⟨_, _, rfl, (slice_len hia).trans ((pref_here hP hc8 hia hib (by assumption)).symm.trans hlcp), by assumption, fun p hp => nE' p (List.mem_append_right _ (.tail _ (.tail _ hp)))⟩
    | exact hret _ _ _ ⟨_, _, rfl, (pref_all hab hP).symm.trans hlcp, by assumption, fun p hp => nE' p (.tail _ (.tail _ hp))⟩
end Mine
end

section
set_option maxRecDepth 100000
open PySem PySem.W PyProof.Rows PySem.Calls PySem.Spec
set_option linter.unusedVariables false
namespace Mine
/-- a comprehension's turn ends: the ledger as before, the item as wanted -/
def CPost (h₀ : Heap) (L : Addr) (m : Str → Option Value) (all : List (Addr × Obj)) (s₁ : Shared) (R : Value → Prop) (y : Value) (s₂ : Shared) : Prop :=
  ∃ h' tk, s₂ = { s₁ with heap := h', toks := tk } ∧ Fr h₀ L h' m ∧ News h₀ L h' all ∧ R y
section
variable {prog : Program} {w : World} {A : Around} {s : Shared} {h₀ : Heap} {L : Addr} {m : Str → Option Value} {env : Env}
theorem compRest_go {elt : Expr} {x : Str} {scope : Scope} {cl : List (Str × Addr)} {S : List (Addr × Obj) → Prop} {P R : Nat → Value → Prop} {Fin : List Value → List (Addr × Obj) → Prop} {nw : List (Addr × Obj)} {n : Nat} (hS : S nw)
    (turn : ∀ i v I oI C oC D ys m₂ h tk (E' : Value → Shared → Prop), i < n → P i v → LCg.NsObj oC m₂ → m₂ x = some v → Fr h₀ L h m → News h₀ L h ((I, oI) :: (C, oC) :: (D, LCg.lst ys) :: nw) →
      wpAny (model prog w) A (eval elt (compEnvC scope cl C env)) (CPost h₀ L m ((I, oI) :: (C, oC) :: (D, LCg.lst ys) :: nw) { s with heap := h, toks := tk } (R i)) E' { s with heap := h, toks := tk })
    (fin : ∀ ys, ys.length = n → (∀ i v, ys[i]? = some v → R i v) → Fin ys nw) :
    ∀ k i ys, i + k = n → ys.length = i → (∀ j v, ys[j]? = some v → R j v) → LCg.CompRest prog w A h₀ L m env elt x scope cl s S P Fin k i ys nw
  | 0, i, ys, hi, hl, hR => fin ys (by omega) hR
  | k + 1, i, ys, hi, hl, hR => LCg.CompRest.succ fun v I oI C oC D m₂ h tk E' hP hC hx F N off hne => by
    refine wpAny_mono (turn i v I oI C oC D ys m₂ h tk E' (by omega) hP hC hx F N) (fun y s₂ hy => ?_) fun _ _ e => e
    obtain ⟨h', tk', rfl, F', N', hy⟩ := hy
    refine ⟨h', tk', nw, rfl, F', N', off, hS, compRest_go hS turn fin k (i + 1) (ys ++ [y]) (by omega) (by simp [hl]) fun j v hj => ?_⟩
    by_cases hj' : j < ys.length
    · rw [List.getElem?_append_left hj'] at hj; exact hR j v hj
    · rw [List.getElem?_append_right (by omega)] at hj
      have : j = i := by
        have := (List.getElem?_eq_some_iff.mp hj).1
        simp at this; omega
      subst this
      simp [hl] at hj
      exact hj ▸ hy
/-- [elt for x in range(a, b)] -/
theorem comp_range {elt : Expr} {x : Str} {scope : Scope} {cl : List (Str × Addr)} {Fin : Shared → List Value → List (Addr × Obj) → Prop} {r : Addr} {a b : Int} {t u v : Tok} {n : Nat} {nw : List (Addr × Obj)} {s₁ : Shared} {R : Nat → Value → Prop}
    (hh : A.handled = none) (F : Fr h₀ L s₁.heap m) (N : News h₀ L s₁.heap nw) (hr : IsRange s₁.heap r a b 1 t u v) (hsm : Builtin.Range.small a b 1 = true) (hn : Builtin.Range.rangeSize a b 1 = ((n : Nat) : Int)) (hsz : n ≤ sizeLine)
    (turn : ∀ i t9 I oI C oC D ys m₂ h tk (E' : Value → Shared → Prop), i < n → LCg.NsObj oC m₂ → m₂ x = some (.int (a + (i : Int)) t9) → Fr h₀ L h m → News h₀ L h ((I, oI) :: (C, oC) :: (D, LCg.lst ys) :: nw) →
      wpAny (model prog w) A (eval elt (compEnvC scope cl C env)) (CPost h₀ L m ((I, oI) :: (C, oC) :: (D, LCg.lst ys) :: nw) { s₁ with heap := h, toks := tk } (R i)) E' { s₁ with heap := h, toks := tk })
    (fin : ∀ g ys, ys.length = n → (∀ i v, ys[i]? = some v → R i v) → Fin { s₁ with heap := g } ys nw) :
    LCg.CompSrc prog w A h₀ L m env elt x scope cl Fin (.ref r) s₁ :=
  LCg.CompSrc.range hh F N hr hsm hn hsz fun g => compRest_go (R := R) (n := n) trivial (fun i v I oI C oC D ys m₂ h tk E' hi hP hC hx F N => by
    obtain ⟨t9, rfl⟩ := hP
    exact turn i t9 I oI C oC D ys m₂ h tk E' hi hC hx F N) (fin g) n 0 [] (by omega) rfl (by simp)
/-- [elt for x in a list of the ledger] -/
theorem comp_led {elt : Expr} {x : Str} {scope : Scope} {cl : List (Str × Addr)} {Fin : Shared → List Value → List (Addr × Obj) → Prop} {ax : Addr} {vs : List Value} {k : Nat} {nw : List (Addr × Obj)} {s₁ : Shared} {R : Nat → Value → Prop}
    (hh : A.handled = none) (F : Fr h₀ L s₁.heap m) (N : News h₀ L s₁.heap nw) (hm : (ax, ({ cls := .type "list", data := .seq vs.toArray k } : Obj)) ∈ nw) (hsz : vs.length ≤ sizeLine)
    (turn : ∀ i v I oI C oC D ys m₂ h tk (E' : Value → Shared → Prop), vs[i]? = some v → LCg.NsObj oC m₂ → m₂ x = some v → Fr h₀ L h m → News h₀ L h ((I, oI) :: (C, oC) :: (D, LCg.lst ys) :: nw) →
      wpAny (model prog w) A (eval elt (compEnvC scope cl C env)) (CPost h₀ L m ((I, oI) :: (C, oC) :: (D, LCg.lst ys) :: nw) { s₁ with heap := h, toks := tk } (R i)) E' { s₁ with heap := h, toks := tk })
    (fin : ∀ g ys, ys.length = vs.length → (∀ i v, ys[i]? = some v → R i v) → Fin { s₁ with heap := g } ys nw) :
    LCg.CompSrc prog w A h₀ L m env elt x scope cl Fin (.ref ax) s₁ :=
  LCg.CompSrc.ledger hh F N hm hsz fun g => compRest_go (R := R) (n := vs.toArray.size) (Or.inr ⟨_, hm, rfl, _, rfl⟩) (fun i v I oI C oC D ys m₂ h tk E' hi hP hC hx F N => by
    exact turn i v I oI C oC D ys m₂ h tk E' (by simpa using hP) hC hx F N) (fin g) vs.toArray.size 0 [] (by omega) rfl (by simp)
end
end Mine
end

section
open PySem PySem.W PyProof.Rows PySem.Calls
namespace Mine
theorem strsAre_of : ∀ {ys : List Value} {zs : List Str}, ys.length = zs.length → (∀ (i : Nat) v, ys[i]? = some v → ∃ z t, zs[i]? = some z ∧ v = .str z t) → StrsAre ys zs
  | [], [], _, _ => .nil
  | [], _ :: _, h, _ => by simp at h
  | _ :: _, [], h, _ => by simp at h
  | v :: ys, z :: zs, h, hh => by
    obtain ⟨z', t, e1, rfl⟩ := hh 0 v rfl
    simp at e1
    subst e1
    exact .cons _ t (strsAre_of (by simpa using h) fun i v hv => hh (i + 1) v (by simpa using hv))
theorem intsAre_of : ∀ {ys : List Value} {zs : List Int}, ys.length = zs.length → (∀ (i : Nat) v, ys[i]? = some v → ∃ z t, zs[i]? = some z ∧ v = .int z t) → IntsAre ys zs
  | [], [], _, _ => .nil
  | [], _ :: _, h, _ => by simp at h
  | _ :: _, [], h, _ => by simp at h
  | v :: ys, z :: zs, h, hh => by
    obtain ⟨z', t, e1, rfl⟩ := hh 0 v rfl
    simp at e1
    subst e1
    exact .cons _ t (intsAre_of (by simpa using h) fun i v hv => hh (i + 1) v (by simpa using hv))
theorem app_list (a b : Str) : (a ++ b).cps.toList = a.cps.toList ++ b.cps.toList := by
  show (a.cps ++ b.cps).toList = _
  simp
theorem sjoin_flat : ∀ zs : List Str, (Str.join ⟨#[]⟩ zs).cps.toList = zs.flatMap fun z => z.cps.toList
  | [] => rfl
  | [z] => by show z.cps.toList = _; simp
  | z :: y :: r => by
    have : (Str.join ⟨#[]⟩ (z :: y :: r)) = z ++ ⟨#[]⟩ ++ Str.join ⟨#[]⟩ (y :: r) := rfl
    rw [this, app_list, app_list, sjoin_flat (y :: r)]
    simp
theorem join_flat (zs : List Str) : (Txt.join ⟨#[]⟩ zs).cps.toList = zs.flatMap fun z => z.cps.toList := by
  show (Builtin.Str.glued ⟨#[]⟩ zs).cps.toList = _
  rw [StrLaws.glued_eq_join, sjoin_flat]
end Mine
end

section
open PySem PySem.W PyProof.Rows PySem.Calls
set_option Elab.async false
set_option maxRecDepth 100000
set_option linter.unusedVariables false
namespace Mine
def bodyOf : Stmt → List Stmt
  | .FunctionDef _ _ b _ _ _ _ _ _ _ => b
  | _ => []
def scopeOf : Stmt → Scope
  | .FunctionDef _ _ _ _ _ _ s _ _ _ => s
  | s => { kind := .function, names := [], isGenerator := false, isCoroutine := false, more := [] }
def lawD : Stmt := PySem.Challenge.pw_xi0001_01.main.body.getLastD (.Pass ⟨0, 0, 0, 0⟩)
def lawB : List Stmt := bodyOf lawD
def lawS : Scope := scopeOf lawD
abbrev lawC (L : Addr) : List (Str × Addr) := [(Str.ofString "piece", L + 1 + 1 + 1 + 1), (Str.ofString "place", L + 1 + 1 + 1), (Str.ofString "reaches", L + 1 + 1), (Str.ofString "text", L + 1)]
def lawI (i : Nat) : Stmt := lawB.getD i (.Pass ⟨0, 0, 0, 0⟩)

theorem ex_Z0_1 : lawB.length = 11 := by rfl
theorem ex_Z0_2 : cellsFrom (5 + 1) lawS.names [] = lawC 5 := by decide
abbrev led4 (L : Addr) (o4 o3 o2 o1 : Obj) : List (Addr × Obj) := [(L + 1 + 1 + 1 + 1, o4), (L + 1 + 1 + 1, o3), (L + 1 + 1, o2), (L + 1, o1)]
def lettersOf (ns : List Int) : List Nat := (ns.take 30).map fun n => 97 + (n % 2).toNat
def textOf (ls : List Nat) : List Nat := 45 :: ls.flatMap fun c => [c, 45]
abbrev Above4 (L lr : Addr) : Prop := (@LT.lt Nat instLTNat (L + 1 + 1 + 1 + 1) lr) ∧ (@LT.lt Nat instLTNat (L + 1 + 1 + 1) lr) ∧ (@LT.lt Nat instLTNat (L + 1 + 1) lr) ∧ (@LT.lt Nat instLTNat (L + 1) lr)
theorem led4_lt {L lr : Addr} {o4 o3 o2 o1 : Obj} (h : ∀ p ∈ led4 L o4 o3 o2 o1, p.1 < lr) : Above4 L lr :=
  ⟨h (_, o4) (by simp), h (_, o3) (by simp), h (_, o2) (by simp), h (_, o1) (by simp)⟩
end Mine
end

section
open PySem PySem.W PyProof.Rows PySem.Calls
set_option Elab.async false
set_option maxRecDepth 100000
set_option linter.unusedVariables false
set_option linter.unusedSimpArgs false
namespace Mine
theorem ex_Z1_1 : (fun (_ : OpenLaw) (_ : Params → Frag) => True) PySem.Challenge.rw_xi0001_01 hd_law.heap_39 = True := by
  k_fill
  k_with_none
  rfl
def zsOf (ns : List Int) : List Str := (ns.take 30).map fun k => Txt.item (Str.ofString "ab") (k.fmod 2) ++ Str.ofString "-"
theorem item_ab (k : Int) : Txt.item (Str.ofString "ab") (k.fmod 2) = ⟨#[97 + (k % 2).toNat]⟩ := by
  have h : k.fmod 2 = k % 2 := Int.fmod_eq_emod_of_nonneg _ (by decide)
  rw [h]
  have h2 : k % 2 = 0 ∨ k % 2 = 1 := by omega
  rcases h2 with e | e <;> rw [e] <;> decide
theorem zs_len (ns : List Int) : ((zsOf ns).map (·.length)).sum = 2 * (ns.take 30).length := by
  unfold zsOf
  induction ns.take 30 with
  | nil => rfl
  | cons k r ih =>
    simp only [List.map_cons, List.sum_cons, List.length_cons] at ih ⊢
    rw [ih, item_ab]
    have : ((⟨#[97 + (k % 2).toNat]⟩ : Str) ++ Str.ofString "-").length = 2 := rfl
    omega
theorem zs_text (ns : List Int) : (Str.ofString "-" ++ Txt.join ⟨#[]⟩ (zsOf ns)).cps.toList = textOf (lettersOf ns) := by
  rw [app_list, join_flat, show (Str.ofString "-").cps.toList = [45] by decide]
  rw [List.singleton_append, textOf]
  congr 1
  unfold zsOf lettersOf
  induction ns.take 30 with
  | nil => rfl
  | cons k r ih =>
    rw [List.map_cons, List.flatMap_cons, List.map_cons, List.flatMap_cons, ih, item_ab, app_list, show (Str.ofString "-").cps.toList = [45] by decide]
    rfl
theorem zs_join_len (ns : List Int) : (Txt.join (Str.ofString "") (zsOf ns)).length ≤ 60 := by
  have h : (Txt.join (Str.ofString "") (zsOf ns)).length = ((Txt.join ⟨#[]⟩ (zsOf ns)).cps.toList).length := rfl
  rw [h, join_flat, List.length_flatMap]
  have h2 := zs_len ns
  have h3 : (List.map (fun z : Str => z.cps.toList.length) (zsOf ns)) = (zsOf ns).map (·.length) := rfl
  rw [h3, h2, List.length_take]
  omega
theorem zs_get {ns : List Int} {i : Nat} {k : Int} (h : (ns.take 30)[i]? = some k) : (zsOf ns)[i]? = some (Txt.item (Str.ofString "ab") (k.fmod 2) ++ Str.ofString "-") := by
  unfold zsOf
  rw [List.getElem?_map, h]; rfl
local macro_rules | `(tactic| walk_at "eval ListComp") => `(tactic| (k_extra "my ListComp"))
local macro_rules | `(tactic| walk_at "CompSrc") => `(tactic| (k_extra "my CompSrc"))
local macro_rules | `(tactic| walk_at "CPost") => `(tactic| (k_extra "my CPost"))
local macro_rules | `(tactic| walk_at "call builtin:str.join") => `(tactic| (k_extra "my join"))
local macro_rules | `(tactic| walk_at "eval Name") => `(tactic| (k_here; (with_reducible show wpAny _ _ (eval (Expr.Name _ _) (envX _ _ _ _ _ _)) _ _ _); k_dflt (refine nameX_L (by k_asm) (by assumption) ?_ (by rfl) (by rfl))))
set_option maxHeartbeats 4000000 in
theorem seg0 {w : World} {mean : ExcName → Option Value} {mg mb : Str → Option Value} {dp un : Nat} {gd : Option (List Code)} {a : Addr} {ccd : Value} {outer : List Env} {A₀ : Around} {base h₀ : Heap} {L : Addr} {m : Str → Option Value} {s : Shared} {Q : Flow → Shared → Prop} {E : Value → Shared → Prop}
    (B : Below A₀ base outer h₀) (F : Fr h₀ L s.heap m) (X : (hd_law.heap_39 w.params).In h₀) (T : TopL mean mg mb h₀) (hd : dp + 40 < recursionLimit) (hu : un + 400 < cLine)
    {l : Addr} {vs : List Value} {ns : List Int} (hl : h₀.IsList l vs.toArray) (hi : IntsAre vs ns) (hlen : ns.length ≤ 63) (hm : m (Str.ofString "script") = some (.ref l))
    {o4 o3 o2 o1 : Obj} {v1 : Option Value} (hd1 : o1.data = .cell v1) (N : News h₀ L s.heap (led4 L o4 o3 o2 o1))
    (hret : ∀ h' tk' x t o1', x.cps.toList = textOf (lettersOf ns) → o1'.data = .cell (some (.str x t)) → Fr h₀ L h' m → News h₀ L h' (led4 L o4 o3 o2 o1') → Q .next { s with heap := h', toks := tk' }) :
    wpAny (model Prg w) (ktrTop dp un gd (Str.ofString "law") lawS L a ccd (lawC L) outer) (exec (lawI 0) (envX (Str.ofString "law") lawS L a ccd (lawC L))) Q E s := by
  conv in (lawI 0) => whnf
  conv in (envX _ lawS _ _ _ _) => arg 2; whnf
  conv in (ktrTop _ _ _ _ lawS _ _ _ _ _) => arg 5; whnf
  k_with_none
  k_with "my ListComp" =>
    k_dflt (refine LCg.ListComp_U (F₀ := by k_asm) (by with_unfolding_all rfl) (by decide) (by rfl) (by decide) (by rfl) ?_)
  k_with "my CompSrc" =>
    k_here
    k_dflt (
      (rename Fr _ _ _ _ => lF')
      (rename News _ _ _ _ => lN')
      (rename IntsAre _ (List.take _ _) => lI')
      (have hlen8 := lI'.length)
      (refine' comp_led (R := fun i v => ∃ z t, (zsOf ns)[i]? = some z ∧ v = .str z t) rfl lF' lN' (.head _) ?hsz ?_ ?_)
      (case hsz => (rw [lI'.length, sizeLine_eq]; simp only [List.length_take]; omega))
      (all_goals first | (intro i v I8 oI8 C8 oC8 D8 ys8 m8 h8 tk8 E8 hv8 hC8 hx8 F8 N8; (obtain ⟨k, t9, rfl, hk9, hmem9⟩ := ofMem lI' hv8); (have kMark := kstMark); (try k_fold)) | (intro g8 ys8 hl8 hR8)))
  k_with "my CPost" =>
    k_dflt (
      (rename Fr _ _ _ _ => lF')
      (rename News _ _ _ _ => lN')
      (exact ⟨_, _, rfl, lF', lN', _, _, zs_get hk9, rfl⟩))
  k_with "my join" =>
    k_here
    k_dflt (
      (rename News _ _ _ _ => lN')
      (refine join_listC ⟨_, (lN' _ (.head _)).1, rfl, _, rfl⟩ (strsAre_of (by rw [hl8, hlen8]; simp [zsOf]) hR8) (by decide) (by rw [zs_len]; simp [zsOf]; omega) ?_)
      intro t8 k8; (have hjl8 := zs_join_len ns))
  k_steps
  all_goals ((rename News _ _ _ _ => nE'); exact hret _ _ _ _ _ (zs_text ns) (by assumption) (by assumption) (fun p hp => nE' p (.tail _ (.tail _ hp))))
end Mine
end

section
open PySem PySem.W PyProof.Rows PySem.Calls
set_option Elab.async false
set_option maxRecDepth 100000
set_option linter.unusedVariables false
set_option linter.unusedSimpArgs false
namespace Mine
theorem ex_Z2_1 : (fun (_ : OpenLaw) (_ : Params → Frag) => True) PySem.Challenge.rw_xi0001_01 hd_law.heap_39 = True := by
  k_fill
  k_with_none
  rfl
local macro_rules | `(tactic| walk_at "eval Name") => `(tactic| (k_extra "my Name"))
local macro_rules | `(tactic| walk_at "call ref") => `(tactic| (k_extra "my call"))
set_option maxHeartbeats 4000000 in
theorem seg1 {w : World} {mean : ExcName → Option Value} {mg mb : Str → Option Value} {dp un : Nat} {gd : Option (List Code)} {a : Addr} {ccd : Value} {outer : List Env} {A₀ : Around} {base h₀ : Heap} {L : Addr} {m : Str → Option Value} {s : Shared} {Q : Flow → Shared → Prop} {E : Value → Shared → Prop}
    (B : Below A₀ base outer h₀) (F : Fr h₀ L s.heap m) (X : (hd_law.heap_39 w.params).In h₀) (T : TopL mean mg mb h₀) (hd : dp + 40 < recursionLimit) (hu : un + 400 < cLine)
    {x : Str} {t : Tok} (hx : x.length ≤ 1000)
    {o4 o3 o2 o1 : Obj} {v2 : Option Value} (hd1 : o1.data = .cell (some (.str x t))) (hd2 : o2.data = .cell v2) (N : News h₀ L s.heap (led4 L o4 o3 o2 o1))
    (hret : ∀ h' tk' lr vs nn o2', IntsAre vs (reachesOf x) → TokI vs tk' → Above4 L lr → o2'.data = .cell (some (.ref lr)) → Fr h₀ L h' m → News h₀ L h' ((lr, listOf vs.toArray nn) :: led4 L o4 o3 o2' o1) → Q .next { s with heap := h', toks := tk' }) :
    wpAny (model Prg w) (ktrTop dp un gd (Str.ofString "law") lawS L a ccd (lawC L) outer) (exec (lawI 1) (envX (Str.ofString "law") lawS L a ccd (lawC L))) Q E s := by
  conv in (lawI 1) => whnf
  conv in (envX _ lawS _ _ _ _) => arg 2; whnf
  conv in (ktrTop _ _ _ _ lawS _ _ _ _ _) => arg 5; whnf
  k_with_none
  k_with "my call" =>
    k_here
    k_dflt (
      (refine' callC_use (reaches_c x t hx) ?k1 ?k2 ?k3 ?k4 ?k5 ?k6 ?k7 ?k8 ?_; (case k1 => k_asm); (case k2 => k_asm); (case k3 => k_asm); (case k4 => k_asm); (case k5 => k_asm); (case k6 => first | exact rfl | assumption); (case k7 => first | ktr_room | omega); (case k8 => first | ktr_units | omega))
      (rintro h9 tk9 v9 ⟨lr, vs, nn, rfl, hI9, F9, N9, hlt9, hTk9⟩; (have hlt8 := led4_lt hlt9); (try dsimp only)))
  k_steps
  all_goals ((rename News _ _ _ _ => nE'); exact hret _ _ _ _ _ _ hI9 hTk9 hlt8 (by assumption) (by assumption) nE')
end Mine
end

section
open PySem PySem.W PyProof.Rows PySem.Calls
set_option Elab.async false
set_option maxRecDepth 100000
set_option linter.unusedVariables false
set_option linter.unusedSimpArgs false
namespace Mine
theorem ex_Z4_1 : (fun (_ : OpenLaw) (_ : Params → Frag) => True) PySem.Challenge.rw_xi0001_01 hd_law.heap_39 = True := by
  k_fill
  k_with_none
  rfl
theorem text_letters : ∀ ls : List Nat, (∀ c ∈ ls, c ≠ 45) → (textOf ls).filter (· != 45) = ls := by
  intro ls h
  have : (textOf ls).filter (· != 45) = (ls.flatMap fun c => [c, 45]).filter (· != 45) := rfl
  rw [this]
  clear this
  induction ls with
  | nil => rfl
  | cons c r ih =>
    have h1 : (c != 45) = true := by simpa using h c (.head _)
    rw [List.flatMap_cons, List.filter_append, ih fun d hd => h d (.tail _ hd)]
    rw [List.filter_cons, if_pos h1]; rfl
theorem replace_text {x : Str} {ls : List Nat} (hx : x.cps.toList = textOf ls) (h : ∀ c ∈ ls, c ≠ 45) : (Txt.replace x (Str.ofString "-") (Str.ofString "")).cps.toList = ls := by
  have e := eq_of_beq (strike_closes (x := x) (y := Str.ofString "-") (z := Str.ofString "") (c := 45) (by decide) (by decide))
  rw [e, filter_signs, join_ones, hx]
  exact text_letters ls h
theorem letters_ne (ns : List Int) : ∀ c ∈ lettersOf ns, c ≠ 45 := by
  intro c hc
  simp only [lettersOf, List.mem_map] at hc
  obtain ⟨n, _, rfl⟩ := hc
  omega
local macro_rules | `(tactic| walk_at "eval Name") => `(tactic| (k_here; (with_reducible show wpAny _ _ (eval (Expr.Name _ _) (envX _ _ _ _ _ _)) _ _ _); k_dflt (refine nameX_L (by k_asm) (by assumption) ?_ (by rfl) (by rfl))))
set_option maxHeartbeats 4000000 in
theorem seg3 {w : World} {mean : ExcName → Option Value} {mg mb : Str → Option Value} {dp un : Nat} {gd : Option (List Code)} {a : Addr} {ccd : Value} {outer : List Env} {A₀ : Around} {base h₀ : Heap} {L : Addr} {m : Str → Option Value} {s : Shared} {Q : Flow → Shared → Prop} {E : Value → Shared → Prop}
    (B : Below A₀ base outer h₀) (F : Fr h₀ L s.heap m) (X : (hd_law.heap_39 w.params).In h₀) (T : TopL mean mg mb h₀) (hd : dp + 40 < recursionLimit) (hu : un + 400 < cLine)
    {x : Str} {t : Tok} (hx : x.length ≤ 1000) (h0 : s.toks ≠ 0)
    {o4 o3 o2 o1 : Obj} (hd1 : o1.data = .cell (some (.str x t))) {news : List (Addr × Obj)} {p : Addr × Obj} (N : News h₀ L s.heap (p :: led4 L o4 o3 o2 o1))
    (hret : ∀ h' tk' tz, Fr h₀ L h' (fun y => if y = Str.ofString "letters" then some (.str (Txt.replace x (Str.ofString "-") (Str.ofString "")) tz) else m y) → News h₀ L h' (p :: led4 L o4 o3 o2 o1) → Q .next { s with heap := h', toks := tk' }) :
    wpAny (model Prg w) (ktrTop dp un gd (Str.ofString "law") lawS L a ccd (lawC L) outer) (exec (lawI 3) (envX (Str.ofString "law") lawS L a ccd (lawC L))) Q E s := by
  conv in (lawI 3) => whnf
  conv in (envX _ lawS _ _ _ _) => arg 2; whnf
  conv in (ktrTop _ _ _ _ lawS _ _ _ _ _) => arg 5; whnf
  k_with_none
  k_steps
  all_goals exact hret _ _ _ (by assumption) (by assumption)
set_option maxHeartbeats 4000000 in
theorem seg4 {w : World} {mean : ExcName → Option Value} {mg mb : Str → Option Value} {dp un : Nat} {gd : Option (List Code)} {a : Addr} {ccd : Value} {outer : List Env} {A₀ : Around} {base h₀ : Heap} {L : Addr} {m : Str → Option Value} {s : Shared} {Q : Flow → Shared → Prop} {E : Value → Shared → Prop}
    (B : Below A₀ base outer h₀) (F : Fr h₀ L s.heap m) (X : (hd_law.heap_39 w.params).In h₀) (T : TopL mean mg mb h₀) (hd : dp + 40 < recursionLimit) (hu : un + 400 < cLine)
    {news : List (Addr × Obj)} (N : News h₀ L s.heap news)
    (hret : ∀ h' tk' tz, Fr h₀ L h' (fun y => if y = Str.ofString "many" then some (.int 0 tz) else m y) → News h₀ L h' news → Q .next { s with heap := h', toks := tk' }) :
    wpAny (model Prg w) (ktrTop dp un gd (Str.ofString "law") lawS L a ccd (lawC L) outer) (exec (lawI 4) (envX (Str.ofString "law") lawS L a ccd (lawC L))) Q E s := by
  conv in (lawI 4) => whnf
  conv in (envX _ lawS _ _ _ _) => arg 2; whnf
  conv in (ktrTop _ _ _ _ lawS _ _ _ _ _) => arg 5; whnf
  k_with_none
  k_steps
  all_goals exact hret _ _ _ (by assumption) (by assumption)
end Mine
end

section
open PySem PySem.W PyProof.Rows PySem.Calls
set_option Elab.async false
set_option maxRecDepth 100000
set_option linter.unusedVariables false
set_option linter.unusedSimpArgs false
namespace Mine
theorem ex_Z3_1 : (fun (_ : OpenLaw) (_ : Params → Frag) => True) PySem.Challenge.rw_xi0001_01 hd_law.heap_39 = True := by
  k_fill
  k_with_none
  rfl
local macro_rules | `(tactic| walk_at "execs cons") => `(tactic| ((try k_fold); (with_reducible refine gen_toks ?_); intro tkG htkG; (try dsimp only at htkG); (with_reducible refine wpAny_execs_cons ?_); (try dsimp only)))
local macro_rules | `(tactic| walk_at "execs nil") => `(tactic| ((with_reducible refine wpAny_execs_nil ?_); (try dsimp only)))
local macro_rules | `(tactic| walk_at "pyIter ref") => `(tactic| (k_extra "my pyIter"))
local macro_rules | `(tactic| walk_at "GPost") => `(tactic| dsimp only [GPost])
local macro_rules | `(tactic| walk_at "GEnd") => `(tactic| (k_extra "my GEnd"))
local macro_rules | `(tactic| walk_at "eval ListComp") => `(tactic| (k_extra "my ListComp"))
local macro_rules | `(tactic| walk_at "CompSrc") => `(tactic| (k_extra "my CompSrc"))
local macro_rules | `(tactic| walk_at "CPost") => `(tactic| (k_extra "my CPost"))
local macro_rules | `(tactic| walk_at "call builtin:str.join") => `(tactic| (k_extra "my join"))
local macro_rules | `(tactic| walk_at "call ref") => `(tactic| (k_extra "my call"))
local macro_rules | `(tactic| walk_at "subscriptTail") => `(tactic| (k_extra "my item"))
def zsA (x : Str) (i : Nat) : List Str := (List.range i).map fun (j : Nat) => Txt.item x ((i : Int) - 1 - (0 + (j : Int)))
theorem zsA_get {x : Str} {i j : Nat} (h : j < i) : (zsA x i)[j]? = some (Txt.item x ((i : Int) - 1 - (0 + (j : Int)))) := by
  unfold zsA
  rw [List.getElem?_map, List.getElem?_range h]; rfl
theorem zsA_len (x : Str) (i : Nat) : (zsA x i).length = i := by simp [zsA]
theorem zsA_sum (x : Str) (i : Nat) : ((zsA x i).map (·.length)).sum = i := by
  have : (zsA x i).map (·.length) = (List.range i).map fun _ => 1 := by
    unfold zsA
    rw [List.map_map]; rfl
  rw [this]
  clear this
  induction i with
  | zero => rfl
  | succ i ih => rw [List.range_succ, List.map_append, List.sum_append_nat, ih]; rfl
theorem zsA_flat {x : Str} {i : Nat} (hi : i ≤ x.length) : (Txt.join ⟨#[]⟩ (zsA x i)).cps.toList = (x.cps.toList.take i).reverse := by
  rw [join_flat]
  have hl : x.cps.toList.length = x.length := by simp [Str.length]
  have hs : x.cps.size = x.length := rfl
  have e : zsA x i = ((x.cps.toList.take i).reverse).map fun c => (⟨#[c]⟩ : Str) := by
    apply List.ext_getElem?
    intro j
    by_cases hj : j < i
    · rw [zsA_get hj, List.getElem?_map, List.getElem?_reverse (by simp; omega), PyProof.Rows.item_at (by omega) (by omega) rfl]
      have e1 : ((i : Int) - 1 - (0 + (j : Int))).toNat = i - 1 - j := by omega
      have e2 : (x.cps.toList.take i).length - 1 - j = i - 1 - j := by simp; omega
      have hk : i - 1 - j < x.cps.size := by have : x.length = x.cps.size := rfl; omega
      rw [e1, e2, List.getElem?_take, if_pos (by omega), Array.getElem?_toList, Array.getElem?_eq_getElem hk]
      simp [hk]
    · rw [List.getElem?_eq_none (by rw [zsA_len]; omega), List.getElem?_eq_none (by simp; omega)]
  rw [e]
  generalize (x.cps.toList.take i).reverse = l
  induction l with
  | nil => rfl
  | cons c r ih => rw [List.map_cons, List.flatMap_cons, ih]; rfl
theorem zsA_jlen {x : Str} {i : Nat} (hi : i ≤ x.length) : (Txt.join ⟨#[]⟩ (zsA x i)).length = i := by
  have h : (Txt.join ⟨#[]⟩ (zsA x i)).length = (Txt.join ⟨#[]⟩ (zsA x i)).cps.toList.length := by simp [Str.length]
  have hl : x.cps.toList.length = x.length := by simp [Str.length]
  have hs : x.cps.size = x.length := rfl
  rw [h, zsA_flat hi]; simp; omega
theorem rest_flat {x : Str} {i : Nat} (hi : i < x.length) : (Txt.slice x (some ((i : Int) + 1)) none).cps.toList = x.cps.toList.drop (i + 1) := by
  have hl : x.cps.toList.length = x.length := by simp [Str.length]
  have hs : x.cps.size = x.length := rfl
  rw [slice_from_eq (by omega) (by omega) (rfl : (x.length : Int) = x.length)]
  have e1 : ((i : Int) + 1).toNat = i + 1 := by omega
  show (List.take _ _) = _
  rw [e1, List.take_of_length_le (by rw [List.length_drop]; omega)]
theorem reach_at {x : Str} {i : Nat} (hi : i < x.length) : (reachesOf x).getD ((i : Int)).toNat 0 = (rad x.cps.toList i : Int) := by
  simp [reachesOf, hi]
theorem seg2_no {x z : Str} {i : Nat} (hi : i < x.length) (hz : z.length = lcp (Txt.join ⟨#[]⟩ (zsA x i)).cps.toList (Txt.slice x (some ((i : Int) + 1)) none).cps.toList) : (z.length : Int) = (reachesOf x).getD ((i : Int)).toNat 0 := by
  rw [reach_at hi, hz, zsA_flat (by omega), rest_flat hi]; rfl
theorem seg2_zl {x z : Str} {i n : Nat} {B : List Nat} (hi : i < x.length) (hx : x.length ≤ n) (hz : z.length = lcp (Txt.join ⟨#[]⟩ (zsA x i)).cps.toList B) : z.length ≤ n := by
  rw [hz]
  refine Nat.le_trans (lcp_le_left _ _) ?_
  have h : (Txt.join ⟨#[]⟩ (zsA x i)).length = (Txt.join ⟨#[]⟩ (zsA x i)).cps.toList.length := by simp [Str.length]
  rw [← h, zsA_jlen (by omega)]; omega
set_option maxHeartbeats 4000000 in
theorem seg2 {w : World} {mean : ExcName → Option Value} {mg mb : Str → Option Value} {dp un : Nat} {gd : Option (List Code)} {a : Addr} {ccd : Value} {outer : List Env} {A₀ : Around} {base h₀ : Heap} {L : Addr} {m : Str → Option Value} {s : Shared} {Q : Flow → Shared → Prop} {E : Value → Shared → Prop}
    (B : Below A₀ base outer h₀) (F : Fr h₀ L s.heap m) (X : (hd_law.heap_39 w.params).In h₀) (T : TopL mean mg mb h₀) (hd : dp + 40 < recursionLimit) (hu : un + 400 < cLine)
    (hE : PassesOwn (model Prg w) (ktrTop dp un gd (Str.ofString "law") lawS L a ccd (lawC L) outer) (envX (Str.ofString "law") lawS L a ccd (lawC L)) E)
    {x : Str} {t : Tok} (hx : x.length ≤ 1000) {lr : Addr} {vs : List Value} {nn : Nat} (hI : IntsAre vs (reachesOf x)) (hlr : Above4 L lr)
    {o4 o3 o2 o1 : Obj} {v3 : Option Value} (hd1 : o1.data = .cell (some (.str x t))) (hd2 : o2.data = .cell (some (.ref lr))) (hd3 : o3.data = .cell v3) (N : News h₀ L s.heap ((lr, listOf vs.toArray nn) :: led4 L o4 o3 o2 o1))
    (hret : ∀ h' tk' m' o3' v3', o3'.data = .cell v3' → Fr h₀ L h' m' → News h₀ L h' ((lr, listOf vs.toArray nn) :: led4 L o4 o3' o2 o1) → Q .next { s with heap := h', toks := tk' }) :
    wpAny (model Prg w) (ktrTop dp un gd (Str.ofString "law") lawS L a ccd (lawC L) outer) (exec (lawI 2) (envX (Str.ofString "law") lawS L a ccd (lawC L))) Q E s := by
  have kLen := hI.length
  have kLen2 : (reachesOf x).length = x.length := by simp [reachesOf]
  conv in (lawI 2) => whnf
  revert hE
  conv in (envX _ lawS _ _ _ _) => arg 2; whnf
  conv in (ktrTop _ _ _ _ lawS _ _ _ _ _) => arg 5; whnf
  intro hE
  k_with_none
  k_with "my ListComp" =>
    k_dflt (refine LCg.ListComp_U (F₀ := by k_asm) (by with_unfolding_all rfl) (by decide) (by rfl) (by decide) (by rfl) ?_)
  k_with "my pyIter" =>
    k_here
    k_dflt (
      (rename Fr _ _ _ _ => lF')
      (rename News _ _ _ _ => lN')
      (rename IsRange _ _ _ _ _ _ _ _ => rgX)
      (refine' rangeG (σ := Obj) (fun c => (lr, listOf vs.toArray nn) :: led4 L o4 c o2 o1) (fun _ c _ _ => ∃ v, c.data = .cell v) o3 rfl rgX ?small (rangeSize_nat _ _) lF' lN' ⟨_, hd3⟩ (fun _ _ _ _ _ _ h => h) ?_ ?_ (by intro _ _; rfl) ?pass)
      (case small => exact small_one (by omega) (by omega) (by omega) (by omega))
      (case pass => first | exact hE | passes_own)
      (all_goals first | (rintro i k9 t9 c m9 h9 tk9 I9 oI9 hi9 hk9 ⟨v9, hd9⟩ hoff hIlt kFr kNews; (obtain rfl : k9 = (i : Int) := by omega); (simp only [List.cons_append, List.nil_append] at kNews); (have kMark := kstMark); (try k_fold)) | (rintro c m9 h9 tk9 ⟨v9, hd9⟩ kFr kNews; (have kMark := kstMark); (try k_unfold); (try dsimp only))))
  k_with "my CompSrc" =>
    k_here
    k_dflt (
      (rename Fr _ _ _ _ => lF')
      (rename News _ _ _ _ => lN')
      (rename IsRange _ _ _ _ _ _ _ _ => rgY)
      (refine' comp_range (R := fun j v => ∃ z t, (zsA x i)[j]? = some z ∧ v = .str z t) rfl lF' lN' rgY ?small (rangeSize_nat _ _) ?hsz ?_ ?_)
      (case small => exact small_one (by omega) (by omega) (by omega) (by omega))
      (case hsz => (rw [sizeLine_eq]; omega))
      (all_goals first | (intro j t8 I8 oI8 C8 oC8 D8 ys8 m8 h8 tk8 E8 hj8 hC8 hx8 F8 N8; (have hj7 : j < i := by omega); (have kMark := kstMark); (try k_fold)) | (intro g8 ys8 hl8 hR8)))
  k_with "my CPost" =>
    k_dflt (
      (rename Fr _ _ _ _ => lF')
      (rename News _ _ _ _ => lN')
      (exact ⟨_, _, rfl, lF', lN', _, _, zsA_get hj7, rfl⟩))
  k_with "my join" =>
    k_here
    k_dflt (
      (rename News _ _ _ _ => lN')
      (refine join_listC ⟨_, (lN' _ (.head _)).1, rfl, _, rfl⟩ (strsAre_of (by rw [hl8, zsA_len]; omega) hR8) (by decide) (by rw [zsA_sum, zsA_len]; omega) ?_)
      intro t8 k8; (have hjl8 : (Txt.join (Str.ofString "") (zsA x i)).length = i := zsA_jlen (by omega)))
  k_with "my call" =>
    k_here
    k_dflt (
      (refine' callC_use (common_c _ _ _ _ _ _ (.head _) ?ka ?kb) ?k1 ?k2 ?k3 ?k4 ?k5 ?k6 ?k7 ?k8 ?_; (case k1 => k_asm); (case k2 => k_asm); (case k3 => k_asm); (case k4 => k_asm); (case k5 => k_asm); (case k6 => first | exact rfl | assumption); (case k7 => first | ktr_room | omega); (case k8 => first | ktr_units | omega); (case ka => omega); (case kb => exact Nat.le_trans (Txt.slice_le _ _ _) hx))
      (rintro h9 tk9 v9 ⟨z, tz, rfl, hz, F9, N9⟩; (have hno := seg2_no (by omega) hz); (have hzl := seg2_zl (by omega) hx hz); (try dsimp only)))
  k_with "my item" =>
    k_here
    (with_reducible show wpAny _ _ (subscriptTail _ _ (Value.ref _) (Value.int _ _)) _ _ _)
    k_dflt (
      (rename News _ _ _ _ => lN')
      (refine' item_led lN' ?ia hI ?ib ?ic ?id ?_)
      (case ia => k_mem)
      (case ib => omega)
      (case ic => omega)
      (case id => omega)
      intro t6 hmem6)
  k_with "my GEnd" =>
    k_dflt (
      (rename News _ _ _ _ => nE')
      (refine' gend (σ := Obj) _ (by assumption) nE' ?gi ?go (by rfl) ⟨_, by assumption⟩)
      (case gi => lcg_sub)
      (case go => k_mem))
  refine wpAny_For ?_ (by intro _; rfl)
  k_steps
  all_goals first
    | exact absurd hno (by assumption)
    | exact hret _ _ _ _ _ hd9 (by assumption) (by assumption)
    | ((rename News _ _ _ _ => nE'); (refine' gend (σ := Obj) _ (by assumption) nE' ?gi ?go ?gl ⟨_, by assumption⟩); (case gi => ((try dsimp only); lcg_sub)); (case go => k_mem); (case gl => rfl))
end Mine
end

section
open PySem PySem.W PyProof.Rows
namespace Mine
theorem rad_rev (l : List Nat) (p : Nat) (hp : p < l.length) : rad l.reverse p = rad l (l.length - 1 - p) := by
  unfold rad
  rw [List.take_reverse, List.drop_reverse, List.reverse_reverse, lcp_comm]
  have e1 : l.length - (p + 1) = l.length - 1 - p := by omega
  have e2 : l.length - p = l.length - 1 - p + 1 := by omega
  rw [e1, e2]
theorem reaches_len (x : Str) : (reachesOf x).length = x.length := by simp [reachesOf]
theorem reaches_back {x y : Str} (hy : y.cps.toList = x.cps.toList.reverse) :
    reachesOf y = List.map (fun k' => (reachesOf x).getD (((reachesOf x).length : Int) - 1 - k').toNat 0) (rangeKs 0 (((reachesOf x).length : Int) - 0).toNat) := by
  have hl : x.cps.toList.length = x.length := by simp [Str.length]
  have hyl : y.length = x.length := by
    have : y.length = y.cps.toList.length := by simp [Str.length]
    rw [this, hy, List.length_reverse, hl]
  rw [reaches_len]
  have e0 : ((x.length : Int) - 0).toNat = x.length := by omega
  rw [e0]
  unfold rangeKs
  rw [List.map_map]
  unfold reachesOf
  rw [hyl]
  refine List.map_congr_left fun p hp => ?_
  have hp' := List.mem_range.mp hp
  have e1 : ((x.length : Int) - 1 - (0 + (p : Int))).toNat = x.length - 1 - p := by omega
  have hq : x.length - 1 - p < x.length := by omega
  show _ = (List.map _ _).getD ((x.length : Int) - 1 - (0 + (p : Int))).toNat 0
  rw [e1, hy, rad_rev _ _ (by omega), hl]
  simp [hq]
end Mine
end

section
open PySem PySem.W PyProof.Rows PySem.Calls
set_option Elab.async false
set_option maxRecDepth 100000
set_option linter.unusedVariables false
set_option linter.unusedSimpArgs false
namespace Mine
theorem ex_Z9_1 : (fun (_ : OpenLaw) (_ : Params → Frag) => True) PySem.Challenge.rw_xi0001_01 hd_law.heap_39 = True := by
  k_fill
  k_with_none
  rfl
local macro_rules | `(tactic| walk_at "execs cons") => `(tactic| ((try k_fold); (with_reducible refine gen_toks ?_); intro tkG htkG; (try dsimp only at htkG); (with_reducible refine wpAny_execs_cons ?_); (try dsimp only)))
local macro_rules | `(tactic| walk_at "execs nil") => `(tactic| ((with_reducible refine wpAny_execs_nil ?_); (try dsimp only)))
local macro_rules | `(tactic| walk_at "eval ListComp") => `(tactic| (k_extra "my ListComp"))
local macro_rules | `(tactic| walk_at "CompSrc") => `(tactic| (k_extra "my CompSrc"))
local macro_rules | `(tactic| walk_at "CPost") => `(tactic| (k_extra "my CPost"))
local macro_rules | `(tactic| walk_at "call builtin:str.join") => `(tactic| (k_extra "my join"))
theorem back_flat (x : Str) : (Txt.join ⟨#[]⟩ (zsA x x.length)).cps.toList = x.cps.toList.reverse := by
  rw [zsA_flat (Nat.le_refl _), List.take_of_length_le (by simp [Str.length])]
set_option maxHeartbeats 4000000 in
theorem seg9 {w : World} {mean : ExcName → Option Value} {mg mb : Str → Option Value} {dp un : Nat} {gd : Option (List Code)} {a : Addr} {ccd : Value} {outer : List Env} {A₀ : Around} {base h₀ : Heap} {L : Addr} {m : Str → Option Value} {s : Shared} {Q : Flow → Shared → Prop} {E : Value → Shared → Prop}
    (B : Below A₀ base outer h₀) (F : Fr h₀ L s.heap m) (X : (hd_law.heap_39 w.params).In h₀) (T : TopL mean mg mb h₀) (hd : dp + 40 < recursionLimit) (hu : un + 400 < cLine)
    {x : Str} {t : Tok} (hx : x.length ≤ 1000)
    {o4 o3 o2 o1 : Obj} (hd1 : o1.data = .cell (some (.str x t))) {p : Addr × Obj} (N : News h₀ L s.heap (p :: led4 L o4 o3 o2 o1))
    (hret : ∀ h' tk' y tz, y.cps.toList = x.cps.toList.reverse → Fr h₀ L h' (fun z => if z = Str.ofString "back" then some (.str y tz) else m z) → News h₀ L h' (p :: led4 L o4 o3 o2 o1) → Q .next { s with heap := h', toks := tk' }) :
    wpAny (model Prg w) (ktrTop dp un gd (Str.ofString "law") lawS L a ccd (lawC L) outer) (exec (lawI 9) (envX (Str.ofString "law") lawS L a ccd (lawC L))) Q E s := by
  conv in (lawI 9) => whnf
  conv in (envX _ lawS _ _ _ _) => arg 2; whnf
  conv in (ktrTop _ _ _ _ lawS _ _ _ _ _) => arg 5; whnf
  k_with_none
  k_with "my ListComp" =>
    k_dflt (refine LCg.ListComp_U (F₀ := by k_asm) (by with_unfolding_all rfl) (by decide) (by rfl) (by decide) (by rfl) ?_)
  k_with "my CompSrc" =>
    k_here
    k_dflt (
      (rename Fr _ _ _ _ => lF')
      (rename News _ _ _ _ => lN')
      (rename IsRange _ _ _ _ _ _ _ _ => rgY)
      (refine' comp_range (R := fun j v => ∃ z t, (zsA x x.length)[j]? = some z ∧ v = .str z t) rfl lF' lN' rgY ?small (rangeSize_nat _ _) ?hsz ?_ ?_)
      (case small => exact small_one (by omega) (by omega) (by omega) (by omega))
      (case hsz => (rw [sizeLine_eq]; omega))
      (all_goals first | (intro j t8 I8 oI8 C8 oC8 D8 ys8 m8 h8 tk8 E8 hj8 hC8 hx8 F8 N8; (have hj7 : j < x.length := by omega); (have kMark := kstMark); (try k_fold)) | (intro g8 ys8 hl8 hR8)))
  k_with "my CPost" =>
    k_dflt (
      (rename Fr _ _ _ _ => lF')
      (rename News _ _ _ _ => lN')
      (exact ⟨_, _, rfl, lF', lN', _, _, zsA_get hj7, rfl⟩))
  k_with "my join" =>
    k_here
    k_dflt (
      (rename News _ _ _ _ => lN')
      (refine join_listC ⟨_, (lN' _ (.head _)).1, rfl, _, rfl⟩ (strsAre_of (by rw [hl8, zsA_len]; omega) hR8) (by decide) (by rw [zsA_sum, zsA_len]; omega) ?_)
      intro t8 k8)
  k_steps
  all_goals ((rename News _ _ _ _ => nE'); exact hret _ _ _ _ (back_flat x) (by assumption) fun p hp => nE' p (.tail _ hp))
end Mine
end

section
open PySem PySem.W PyProof.Rows
namespace Mine
def ind (r : List Int) (low high : Nat) : Int := if (high : Int) - (low : Int) ≤ r.getD (low + high) 0 then 1 else 0
def cntI (r : List Int) (low j : Nat) : Int := ((List.range j).map fun k => ind r low (low + 1 + k)).sum
def cntO (r : List Int) (n i : Nat) : Int := ((List.range i).map fun low => cntI r low (min n (low + 9) - low)).sum
theorem cntI_zero (r : List Int) (low : Nat) : cntI r low 0 = 0 := rfl
theorem cntO_zero (r : List Int) (n : Nat) : cntO r n 0 = 0 := rfl
theorem cntI_succ (r : List Int) (low j : Nat) : cntI r low (j + 1) = cntI r low j + ind r low (low + 1 + j) := by
  unfold cntI
  rw [List.range_succ, List.map_append, List.sum_append]; simp
theorem cntO_succ (r : List Int) (n i : Nat) : cntO r n (i + 1) = cntO r n i + cntI r i (min n (i + 9) - i) := by
  unfold cntO
  rw [List.range_succ, List.map_append, List.sum_append]; simp
theorem textOf_len (ls : List Nat) : (textOf ls).length = 2 * ls.length + 1 := by
  unfold textOf
  rw [List.length_cons]
  congr 1
  induction ls with
  | nil => rfl
  | cons c r ih => rw [List.flatMap_cons, List.length_append, ih]; simp; omega
theorem text_len {x z : Str} (h : x.cps.toList = textOf z.cps.toList) : x.length = 2 * z.length + 1 := by
  have e1 : x.length = x.cps.toList.length := by simp [Str.length]
  have e2 : z.length = z.cps.toList.length := by simp [Str.length]
  rw [e1, h, textOf_len, e2]
theorem textOf_even : ∀ (ls : List Nat) (k : Nat), k ≤ ls.length → (textOf ls)[2 * k]? = some 45
  | ls, 0, _ => rfl
  | [], k + 1, h => by simp at h
  | c :: r, k + 1, h => by
    have : textOf (c :: r) = 45 :: c :: textOf r := rfl
    have e : 2 * (k + 1) = 2 * k + 1 + 1 := by omega
    rw [this, e, List.getElem?_cons_succ, List.getElem?_cons_succ]
    exact textOf_even r k (by simpa using h)
theorem textOf_odd : ∀ (ls : List Nat) (k : Nat), (textOf ls)[2 * k + 1]? = ls[k]?
  | [], 0 => rfl
  | [], k + 1 => by simp [textOf]
  | c :: r, 0 => rfl
  | c :: r, k + 1 => by
    have : textOf (c :: r) = 45 :: c :: textOf r := rfl
    have e : 2 * (k + 1) + 1 = (2 * k + 1) + 1 + 1 := by omega
    rw [this, e, List.getElem?_cons_succ, List.getElem?_cons_succ, textOf_odd r k]
    rfl
/-- a stretch reads the same backwards exactly where the reach at its middle is long enough -/
theorem pal_reach (ls : List Nat) (low high : Nat) (h1 : low < high) (h2 : high ≤ ls.length) :
    ((ls.drop low).take (high - low)).reverse = (ls.drop low).take (high - low) ↔ high - low ≤ rad (textOf ls) (low + high) := by
  have hlen := textOf_len ls
  rw [le_rad _ _ _ (by omega)]
  have hL : ((ls.drop low).take (high - low)).length = high - low := by simp; omega
  have get : ∀ k, k < high - low → ((ls.drop low).take (high - low))[k]? = ls[low + k]? := fun k hk => by
    rw [List.getElem?_take, if_pos hk, List.getElem?_drop]
  constructor
  · intro e
    refine ⟨by omega, by omega, fun j hj => ?_⟩
    obtain ⟨q, hq⟩ : ∃ q, low + high - j = 2 * q ∨ low + high - j = 2 * q + 1 := ⟨(low + high - j) / 2, by omega⟩
    rcases hq with hq | hq
    · have hq2 : low + high + j = 2 * (q + j) := by omega
      rw [hq, hq2, textOf_even _ _ (by omega), textOf_even _ _ (by omega)]
    · have hq2 : low + high + j = 2 * (q + j) + 1 := by omega
      rw [hq, hq2, textOf_odd, textOf_odd]
      by_cases hj0 : j = 0
      · subst hj0; rfl
      have hk : q - low < high - low := by omega
      have h3 : ((ls.drop low).take (high - low)).reverse[q - low]? = ((ls.drop low).take (high - low))[q - low]? := by rw [e]
      rw [List.getElem?_reverse (by omega), hL, get _ (by omega), get _ hk] at h3
      have e1 : low + (high - low - 1 - (q - low)) = q + j := by omega
      have e2 : low + (q - low) = q := by omega
      rw [e1, e2] at h3
      exact h3.symm
  · rintro ⟨_, _, h⟩
    apply List.ext_getElem?
    intro k
    by_cases hk : k < high - low
    · rw [List.getElem?_reverse (by omega), hL, get _ (by omega), get _ hk]
      by_cases hc : high - low - 1 - k ≤ k
      · have := h (2 * k + 1 - (high - low)) (by omega)
        have e1 : low + high - (2 * k + 1 - (high - low)) = 2 * (low + (high - low - 1 - k)) + 1 := by omega
        have e2 : low + high + (2 * k + 1 - (high - low)) = 2 * (low + k) + 1 := by omega
        rw [e1, e2, textOf_odd, textOf_odd] at this
        exact this
      · have := h (high - low - (2 * k + 1)) (by omega)
        have e1 : low + high - (high - low - (2 * k + 1)) = 2 * (low + k) + 1 := by omega
        have e2 : low + high + (high - low - (2 * k + 1)) = 2 * (low + (high - low - 1 - k)) + 1 := by omega
        rw [e1, e2, textOf_odd, textOf_odd] at this
        exact this.symm
    · rw [List.getElem?_eq_none (by rw [List.length_reverse, hL]; omega), List.getElem?_eq_none (by rw [hL]; omega)]
end Mine
end

section
open PySem PySem.W PyProof.Rows
namespace Mine
theorem str_beq (a b : Str) : (a == b) = decide (a.cps.toList = b.cps.toList) := by
  by_cases h : a.cps.toList = b.cps.toList
  · have := ext_toList h
    subst this
    simp
  · have h2 : (a == b) = false := by
      rw [beq_eq_false_iff_ne]
      intro e; exact h (by rw [e])
    rw [h2]; simp [h]
theorem piece_flat {z : Str} {i j : Nat} (h : (i : Int) + 1 + (j : Int) ≤ z.length) : (Txt.slice z (some (i : Int)) (some ((i : Int) + 1 + (j : Int)))).cps.toList = (z.cps.toList.drop i).take (i + 1 + j - i) := by
  have e := eq_of_beq (slice_closesL (x := z) (i := (i : Int)) (j := (i : Int) + 1 + (j : Int)) (by omega) (by omega) h)
  rw [e]
  have e1 : ((i : Int)).toNat = i := by omega
  have e2 : ((i : Int) + 1 + (j : Int) - (i : Int)).toNat = i + 1 + j - i := by omega
  rw [e1, e2]
theorem reach_get {x : Str} {k : Nat} (h : k < x.length) : (reachesOf x).getD k 0 = (rad x.cps.toList k : Int) := by simp [reachesOf, h]
theorem pal_ok {x z : Str} {i j : Nat} (hx : x.cps.toList = textOf z.cps.toList) (h : (i : Int) + 1 + (j : Int) ≤ z.length) :
    (Txt.slice z (some (i : Int)) (some ((i : Int) + 1 + (j : Int))) == Txt.join ⟨#[]⟩ (zsA (Txt.slice z (some (i : Int)) (some ((i : Int) + 1 + (j : Int)))) (Txt.slice z (some (i : Int)) (some ((i : Int) + 1 + (j : Int)))).length)) =
      decide ((i : Int) + 1 + (j : Int) - (i : Int) ≤ (reachesOf x).getD ((i : Int) + ((i : Int) + 1 + (j : Int))).toNat 0) := by
  have hzl : z.cps.toList.length = z.length := by simp [Str.length]
  have hxl := text_len hx
  have e1 : ((i : Int) + ((i : Int) + 1 + (j : Int))).toNat = i + (i + 1 + j) := by omega
  rw [str_beq, back_flat, piece_flat h, e1, reach_get (by omega), hx]
  have := pal_reach z.cps.toList i (i + 1 + j) (by omega) (by omega)
  by_cases hc : ((z.cps.toList.drop i).take (i + 1 + j - i)).reverse = (z.cps.toList.drop i).take (i + 1 + j - i)
  · rw [decide_eq_true hc.symm]
    have := this.1 hc
    rw [decide_eq_true]; omega
  · rw [decide_eq_false fun e => hc e.symm]
    have h3 : ¬ (i + 1 + j - i ≤ rad (textOf z.cps.toList) (i + (i + 1 + j))) := fun h => hc (this.2 h)
    rw [decide_eq_false]; omega
theorem pal_bad {x z : Str} {i j : Nat} (hx : x.cps.toList = textOf z.cps.toList) (h : (i : Int) + 1 + (j : Int) ≤ z.length) :
    ¬ ((Txt.slice z (some (i : Int)) (some ((i : Int) + 1 + (j : Int))) == Txt.join (Str.ofString "") (zsA (Txt.slice z (some (i : Int)) (some ((i : Int) + 1 + (j : Int)))) (Txt.slice z (some (i : Int)) (some ((i : Int) + 1 + (j : Int)))).length)) !=
      decide ((i : Int) + 1 + (j : Int) - (i : Int) ≤ (reachesOf x).getD ((i : Int) + ((i : Int) + 1 + (j : Int))).toNat 0)) = true := by
  have e : Str.ofString "" = ⟨#[]⟩ := by decide
  rw [e, pal_ok hx h]
  simp
theorem pal_ind {x z : Str} {i j : Nat} (hx : x.cps.toList = textOf z.cps.toList) (h : (i : Int) + 1 + (j : Int) ≤ z.length) :
    (cntO (reachesOf x) z.length i + cntI (reachesOf x) i j + if (Txt.slice z (some (i : Int)) (some ((i : Int) + 1 + (j : Int))) == Txt.join (Str.ofString "") (zsA (Txt.slice z (some (i : Int)) (some ((i : Int) + 1 + (j : Int)))) (Txt.slice z (some (i : Int)) (some ((i : Int) + 1 + (j : Int)))).length)) = true then 1 else 0)
      = cntO (reachesOf x) z.length i + cntI (reachesOf x) i (j + 1) := by
  have e1 : ((i : Int) + ((i : Int) + 1 + (j : Int))).toNat = i + (i + 1 + j) := by omega
  have e0 : Str.ofString "" = ⟨#[]⟩ := by decide
  rw [e0, pal_ok hx h, cntI_succ, e1, Int.add_assoc]
  congr 1
  congr 1
  unfold ind
  have e2 : ((i + 1 + j : Nat) : Int) = (i : Int) + 1 + (j : Int) := by omega
  rw [e2]
  simp only [decide_eq_true_eq]
end Mine
end

section
open PySem PySem.W PyProof.Rows PySem.Calls
set_option Elab.async false
set_option maxRecDepth 100000
set_option linter.unusedVariables false
set_option linter.unusedSimpArgs false
namespace Mine
theorem ex_Z5_1 : (fun (_ : OpenLaw) (_ : Params → Frag) => True) PySem.Challenge.rw_xi0001_01 hd_law.heap_39 = True := by
  k_fill
  k_with_none
  rfl
local macro_rules | `(tactic| walk_at "execs cons") => `(tactic| ((try k_fold); (with_reducible refine gen_toks ?_); intro tkG htkG; (try dsimp only at htkG); (with_reducible refine wpAny_execs_cons ?_); (try dsimp only)))
local macro_rules | `(tactic| walk_at "execs nil") => `(tactic| ((with_reducible refine wpAny_execs_nil ?_); (try dsimp only)))
local macro_rules | `(tactic| walk_at "eval ListComp") => `(tactic| (k_extra "my ListComp"))
local macro_rules | `(tactic| walk_at "CompSrc") => `(tactic| (k_extra "my CompSrc"))
local macro_rules | `(tactic| walk_at "CPost") => `(tactic| (k_extra "my CPost"))
local macro_rules | `(tactic| walk_at "call builtin:str.join") => `(tactic| (k_extra "my join"))
local macro_rules | `(tactic| walk_at "subscriptTail") => `(tactic| (k_extra "my item"))
local macro_rules | `(tactic| walk_at "pyIter ref") => `(tactic| (k_extra "my pyIter"))
local macro_rules | `(tactic| walk_at "GPost") => `(tactic| dsimp only [GPost])
local macro_rules | `(tactic| walk_at "GEnd") => `(tactic| (k_extra "my GEnd"))
local macro_rules | `(tactic| walk_at "exec For Name Call cons nil") => `(tactic| (k_here; k_dflt (refine wpAny_For ?_ (by intro _; rfl))))
local macro_rules | `(tactic| walk_at "eval Name") => `(tactic| (k_extra "my Name"))
abbrev pieceOf (z : Str) (i j : Nat) : Str := Txt.slice z (some (i : Int)) (some ((i : Int) + 1 + (j : Int)))
theorem min_if (n i : Nat) : (if (i : Int) + 9 < (n : Int) then (i : Int) + 9 else (n : Int)) = ((min n (i + 9) : Nat) : Int) := by
  by_cases h : (i : Int) + 9 < (n : Int)
  · rw [if_pos h]; omega
  · rw [if_neg h]; omega
theorem in_n {n i : Nat} : (((min n (i + 9) : Nat) : Int) + 1 - ((i : Int) + 1)).toNat = min n (i + 9) - i := by omega
set_option maxHeartbeats 4000000 in
theorem seg5 {w : World} {mean : ExcName → Option Value} {mg mb : Str → Option Value} {dp un : Nat} {gd : Option (List Code)} {a : Addr} {ccd : Value} {outer : List Env} {A₀ : Around} {base h₀ : Heap} {L : Addr} {m : Str → Option Value} {s : Shared} {Q : Flow → Shared → Prop} {E : Value → Shared → Prop}
    (B : Below A₀ base outer h₀) (F : Fr h₀ L s.heap m) (X : (hd_law.heap_39 w.params).In h₀) (T : TopL mean mg mb h₀) (hd : dp + 40 < recursionLimit) (hu : un + 400 < cLine)
    (hE : PassesOwn (model Prg w) (ktrTop dp un gd (Str.ofString "law") lawS L a ccd (lawC L) outer) (envX (Str.ofString "law") lawS L a ccd (lawC L)) E)
    {z : Str} {tz tm : Tok} (hz : z.length ≤ 30) (hml : m (Str.ofString "letters") = some (.str z tz)) (hmm : m (Str.ofString "many") = some (.int 0 tm))
    {x : Str} {lr : Addr} {vs : List Value} {nn : Nat} (hI : IntsAre vs (reachesOf x)) (hx : x.cps.toList = textOf z.cps.toList) (hlr : Above4 L lr)
    {o4 o3 o2 o1 : Obj} {v4 : Option Value} (hd2 : o2.data = .cell (some (.ref lr))) (hd4 : o4.data = .cell v4) (N : News h₀ L s.heap ((lr, listOf vs.toArray nn) :: led4 L o4 o3 o2 o1))
    (hret : ∀ h' tk' m' o4' tm', m' (Str.ofString "letters") = some (.str z tz) → m' (Str.ofString "many") = some (.int (cntO (reachesOf x) z.length z.length) tm') → Fr h₀ L h' m' → News h₀ L h' ((lr, listOf vs.toArray nn) :: led4 L o4' o3 o2 o1) → Q .next { s with heap := h', toks := tk' }) :
    wpAny (model Prg w) (ktrTop dp un gd (Str.ofString "law") lawS L a ccd (lawC L) outer) (exec (lawI 5) (envX (Str.ofString "law") lawS L a ccd (lawC L))) Q E s := by
  have kLen := hI.length
  have kLen2 : (reachesOf x).length = x.length := reaches_len x
  have hxl : x.length = 2 * z.length + 1 := text_len hx
  conv in (lawI 5) => whnf
  revert hE
  conv in (envX _ lawS _ _ _ _) => arg 2; whnf
  conv in (ktrTop _ _ _ _ lawS _ _ _ _ _) => arg 5; whnf
  intro hE
  k_with_none
  k_with "my Name" =>
    k_here
    (with_reducible show wpAny _ _ (eval (Expr.Name _ _) (envX _ _ _ _ _ _)) _ _ _)
    k_dflt (refine nameX_L (by k_asm) (by assumption) ?_ (by rfl) (by rfl))
  k_with "my ListComp" =>
    k_dflt (refine LCg.ListComp_U (F₀ := by k_asm) (by with_unfolding_all rfl) (by decide) (by rfl) (by decide) (by rfl) ?_)
  k_with "my pyIter" =>
    k_here
    k_dflt (
      (rename Fr _ _ _ _ => lF')
      (rename News _ _ _ _ => lN')
      (rename IsRange _ _ _ _ _ _ _ _ => rgX)
      (first
        | ((refine' rangeG (σ := Obj) (fun c => (lr, listOf vs.toArray nn) :: led4 L c o3 o2 o1) (fun i c m _ => (∃ v, c.data = .cell v) ∧ m (Str.ofString "letters") = some (.str z tz) ∧ ∃ t, m (Str.ofString "many") = some (.int (cntO (reachesOf x) z.length i) t)) o4 rfl rgX ?small (rangeSize_nat _ _) lF' lN' ⟨⟨_, hd4⟩, hml, _, hmm⟩ (fun _ _ _ _ _ _ h => h) ?_ ?_ (by intro _ _; rfl) ?pass); (case small => exact small_one (by omega) (by omega) (by omega) (by omega)); (case pass => first | exact hE | passes_own); (all_goals first | (rintro i k9 t9 c m9 h9 tk9 I9 oI9 hi9 hk9 ⟨⟨v9, hd9⟩, hml9, tm9, hmm9⟩ hoff hIlt kFr kNews; (obtain rfl : k9 = (i : Int) := by omega); (simp only [List.cons_append, List.nil_append] at kNews); (have hq9 : @LT.lt Nat instLTNat (L + 1 + 1 + 1 + 1) I9 := hIlt _ (.tail _ (.head _))); (have kMark := kstMark); (try k_fold)) | (rintro c m9 h9 tk9 ⟨⟨v9, hd9⟩, hml9, tm9, hmm9⟩ kFr kNews; (have kMark := kstMark); (try k_unfold); (try dsimp only))))
        | ((rw [min_if] at rgX); (refine' rangeG (σ := Obj) (fun c => (lr, listOf vs.toArray nn) :: led4 L c o3 o2 o1 ++ [(I9, oI9)]) (fun j c m _ => (∃ v, c.data = .cell v) ∧ m (Str.ofString "letters") = some (.str z tz) ∧ m (Str.ofString "low") = some (.int (i : Int) t9) ∧ ∃ t, m (Str.ofString "many") = some (.int (cntO (reachesOf x) z.length i + cntI (reachesOf x) i j) t)) c rfl rgX ?small (rangeSize_nat _ _) lF' lN' ⟨⟨_, hd9⟩, hml9, rfl, _, ?hmm⟩ (fun _ _ _ _ _ _ h => h) ?_ ?_ (by intro _ _; rfl) ?pass); (case small => exact small_one (by omega) (by omega) (by omega) (by omega)); (case hmm => (rw [cntI_zero, Int.add_zero]; exact hmm9)); (case pass => first | exact hE | passes_own); (all_goals first | (rintro j k8 t8 c8 m8 h8 tk8 I8 oI8 hi8 hk8 ⟨⟨v8, hd8⟩, hml8, hlo8, tm8, hmm8⟩ hoff8 hIlt8 kFr kNews; (obtain rfl : k8 = (i : Int) + 1 + (j : Int) := hk8); (simp only [List.cons_append, List.nil_append] at kNews); (have hq8 : @LT.lt Nat instLTNat (L + 1 + 1 + 1 + 1) I8 := hIlt8 _ (.tail _ (.head _))); (have hpl : (pieceOf z i j).length ≤ 30 := Nat.le_trans (Txt.slice_le _ _ _) hz); (have hjm : (i : Int) + 1 + (j : Int) ≤ z.length := by omega); (have kMark := kstMark); (try k_fold)) | (rintro c8 m8 h8 tk8 ⟨⟨v8, hd8⟩, hml8, hlo8, tm8, hmm8⟩ kFr kNews; (have kMark := kstMark); (try k_unfold); (try dsimp only))))
        | fail "inner"))
  k_with "my CompSrc" =>
    k_here
    k_dflt (
      (rename Fr _ _ _ _ => lF')
      (rename News _ _ _ _ => lN')
      (rename IsRange _ _ _ _ _ _ _ _ => rgY)
      (refine' comp_range (R := fun k v => ∃ w t, (zsA (pieceOf z i j) (pieceOf z i j).length)[k]? = some w ∧ v = .str w t) rfl lF' lN' rgY ?small (rangeSize_nat _ _) ?hsz ?_ ?_)
      (case small => exact small_one (by omega) (by omega) (by omega) (by omega))
      (case hsz => (rw [sizeLine_eq]; omega))
      (all_goals first | (intro k t7 I7 oI7 C7 oC7 D7 ys7 m7 h7 tk7 E7 hk7 hC7 hx7 F7 N7; (have hk6 : k < (pieceOf z i j).length := by (have hk5 := hk7; simp only [Int.sub_zero, Int.toNat_natCast] at hk5; exact hk5)); (have kMark := kstMark); (try k_fold)) | (intro g7 ys7 hl7 hR7)))
  k_with "my CPost" =>
    k_dflt (
      (rename Fr _ _ _ _ => lF')
      (rename News _ _ _ _ => lN')
      (exact ⟨_, _, rfl, lF', lN', _, _, zsA_get hk6, rfl⟩))
  k_with "my join" =>
    k_here
    k_dflt (
      (rename News _ _ _ _ => lN')
      (refine join_listC ⟨_, (lN' _ (.head _)).1, rfl, _, rfl⟩ (strsAre_of (by (have hl5 := hl7; simp only [Int.sub_zero, Int.toNat_natCast] at hl5; rw [zsA_len]; exact hl5)) hR7) (by decide) (by (have hpl5 := hpl; rw [zsA_sum, zsA_len]; omega)) ?_)
      intro t7 k7)
  k_with "my item" =>
    k_here
    (with_reducible show wpAny _ _ (subscriptTail _ _ (Value.ref _) (Value.int _ _)) _ _ _)
    k_dflt (
      (rename News _ _ _ _ => lN')
      (refine' item_led lN' ?ia hI ?ib ?ic ?id ?_)
      (case ia => k_mem)
      (case ib => omega)
      (case ic => omega)
      (case id => omega)
      intro t6 hmem6)
  refine wpAny_For ?_ (by intro _; rfl)
  k_steps
  all_goals first
    | exact absurd (by assumption) (pal_bad hx hjm)
    | exact hret _ _ _ _ _ hml9 hmm9 kFr kNews
    | exact gend (σ := Obj) c8 kFr kNews (fun p hp => List.mem_append_left _ hp) (List.mem_append_right _ (.head _)) rfl ⟨⟨_, hd8⟩, hml8, tm8, by rw [cntO_succ, ← in_n]; exact hmm8⟩
    | ((rename News _ _ _ _ => nE'); (rename Fr _ _ _ _ => fE'); (refine' gend (σ := Obj) _ fE' nE' ?gi ?go ?gl ⟨⟨_, by assumption⟩, hml8, hlo8, _, ?gm⟩); (case gi => ((try dsimp only); lcg_sub)); (case go => k_mem); (case gl => rfl); (case gm => exact congrArg (fun q => some (Value.int q (_ : Tok))) (pal_ind hx hjm)))
end Mine
end

section
open PySem PySem.W PyProof.Rows PySem.Calls
set_option Elab.async false
set_option maxRecDepth 100000
set_option linter.unusedVariables false
set_option linter.unusedSimpArgs false
namespace Mine
theorem ex_Z6_1 : (fun (_ : OpenLaw) (_ : Params → Frag) => True) PySem.Challenge.rw_xi0001_01 hd_law.heap_39 = True := by
  k_fill
  k_with_none
  rfl
local macro_rules | `(tactic| walk_at "execs cons") => `(tactic| ((try k_fold); (with_reducible refine gen_toks ?_); intro tkG htkG; (try dsimp only at htkG); (with_reducible refine wpAny_execs_cons ?_); (try dsimp only)))
local macro_rules | `(tactic| walk_at "execs nil") => `(tactic| ((with_reducible refine wpAny_execs_nil ?_); (try dsimp only)))
local macro_rules | `(tactic| walk_at "eval Name") => `(tactic| (k_here; (with_reducible show wpAny _ _ (eval (Expr.Name _ _) (envX _ _ _ _ _ _)) _ _ _); k_dflt (refine nameX_L (by k_asm) (by assumption) ?_ (by rfl) (by rfl))))
set_option maxHeartbeats 4000000 in
theorem seg6 {w : World} {mean : ExcName → Option Value} {mg mb : Str → Option Value} {dp un : Nat} {gd : Option (List Code)} {a : Addr} {ccd : Value} {outer : List Env} {A₀ : Around} {base h₀ : Heap} {L : Addr} {m : Str → Option Value} {s : Shared} {Q : Flow → Shared → Prop} {E : Value → Shared → Prop}
    (B : Below A₀ base outer h₀) (F : Fr h₀ L s.heap m) (X : (hd_law.heap_39 w.params).In h₀) (T : TopL mean mg mb h₀) (hd : dp + 40 < recursionLimit) (hu : un + 400 < cLine)
    {z : Str} {tz tm : Tok} (hz : z.length ≤ 1000) (many : Int) (hml : m (Str.ofString "letters") = some (.str z tz)) (hmm : m (Str.ofString "many") = some (.int many tm))
    {ns : List Int} {lr : Addr} {vs : List Value} {nn : Nat} (hI : IntsAre vs ns) (hlen : ns.length ≤ 1000) (hsm : ∀ n ∈ ns, 0 ≤ n ∧ n ≤ 256)
    (hcnt : z.length < 10 → (ns.map fun k' => (k' + 1).fdiv 2).sum = many)
    {o4 o3 o2 o1 : Obj} (hd2 : o2.data = .cell (some (.ref lr))) (N : News h₀ L s.heap ((lr, listOf vs.toArray nn) :: led4 L o4 o3 o2 o1))
    (hret : ∀ h' tk', Fr h₀ L h' m → News h₀ L h' ((lr, listOf vs.toArray nn) :: led4 L o4 o3 o2 o1) → Q .next { s with heap := h', toks := tk' }) :
    wpAny (model Prg w) (ktrTop dp un gd (Str.ofString "law") lawS L a ccd (lawC L) outer) (exec (lawI 6) (envX (Str.ofString "law") lawS L a ccd (lawC L))) Q E s := by
  conv in (lawI 6) => whnf
  conv in (envX _ lawS _ _ _ _) => arg 2; whnf
  conv in (ktrTop _ _ _ _ lawS _ _ _ _ _) => arg 5; whnf
  k_with_none
  k_steps
  all_goals first
    | exact absurd (hcnt (by omega)) (by assumption)
    | exact hret _ _ (by assumption) (by assumption)
    | ((rename News _ _ _ _ => nE'); exact hret _ _ (by assumption) fun p hp => nE' p (.tail _ hp))
end Mine
end

section
set_option maxRecDepth 100000
open PySem PySem.W PyProof.Rows PySem.Calls PySem.Spec
set_option linter.unusedVariables false
namespace Mine
section
variable {prog : Program} {w : World} {A : Around} {E : Value → Shared → Prop} {s : Shared} {h₀ : Heap} {L : Addr} {m : Str → Option Value} {nw : List (Addr × Obj)}
theorem iter_led {D : Addr} {items : Array Value} {Q : Value → Shared → Prop} (hl : s.heap.IsList D items)
    (h : ∀ s₂ : Shared, (∃ o, s₂ = { s with heap := s.heap.push o }) → (s₂.heap.IsListIter s.heap.objs.size D 0 ∧ s₂.heap.IsList D items) → (∀ b ∈ [s.heap.objs.size, D], b < s₂.heap.objs.size) → D ≠ s.heap.objs.size → Q (.ref s.heap.objs.size) s₂) :
    wpAny (model prog w) A (pyIter (.ref D)) Q E s := by
  have hlt : D < s.heap.objs.size := by obtain ⟨_, e, _⟩ := hl; exact Heap.lt_size e
  refine wpAny_pyIter_list hl (h _ ⟨_, rfl⟩ ⟨⟨_, Heap.get?_push_size _ rfl, rfl, rfl⟩, hl.at fun o e => Heap.get?_push_of_some _ e⟩ (fun b hb => ?_) (Nat.ne_of_lt hlt))
  show b < (s.heap.push _).objs.size
  rw [Heap.size_push]
  rcases List.mem_cons.mp hb with rfl | hb
  · exact Nat.lt_succ_self _
  · rw [List.mem_singleton.mp hb]; exact Nat.lt_succ_of_lt hlt
theorem max_led {D : Addr} {vs : List Value} {ns : List Int} {Q : Value → Shared → Prop} (hh : A.handled = none) (hl : s.heap.IsList D vs.toArray) (hi : IntsAre vs ns) (h0 : 0 < ns.length) (F : Fr h₀ L s.heap m) (N : News h₀ L s.heap nw)
    (h : ∀ h' tk (b : Int) (t : Nat), Value.int b t ∈ vs → b ∈ ns → (∀ n ∈ ns, n ≤ b) → Fr h₀ L h' m → News h₀ L h' nw → Q (.int b t) { s with heap := h', toks := tk }) :
    wpAny (model prog w) A (call (.builtin "max") [.ref D]) Q E s := by
  have hlen := hi.length
  have val : ∀ {i : Nat} {v : Value}, vs.toArray[i]? = some v → ∃ t, v = .int (ns.getD i 0) t := fun {i v} e => by
    have e' : vs[i]? = some v := by simpa using e
    have hlt := (List.getElem?_eq_some_iff.mp e').1
    have hn : i < ns.length := by omega
    obtain ⟨t, ht⟩ := hi.get i ns[i] (by simp [hn])
    rw [e'] at ht
    exact ⟨t, by rw [Option.some.inj ht]; simp [hn]⟩
  refine call_max_walk (iter_led hl fun s₂ e st hfp hne => ?_)
  obtain ⟨o, rfl⟩ := e
  refine ⟨_, _, _, _, _, _, fun i j => decide (ns.getD i 0 > ns.getD j 0), rfl, Walks.list (A := A.in1) hh _ D hne _, st, hfp, by simp; omega, fun i j vi vj s Q E hi hj h => ?_, fun v h' tk hP hk => ?_⟩
  · obtain ⟨t1, rfl⟩ := val hi
    obtain ⟨t2, rfl⟩ := val hj
    exact P.gt_int h
  · have hk' := kept_two hk
    have F' : Fr h₀ L h' m := ⟨F.ns.keeps hk', fun b o e => hk' b o (F.keep b o e), F.above⟩
    have N' : News h₀ L h' nw := fun p hp => ⟨hk' _ _ (N p hp).1, (N p hp).2⟩
    obtain ⟨t, rfl⟩ := val hP
    obtain ⟨hle, hmax⟩ := argBest_gt (fun i => ns.getD i 0) (vs.toArray.size - 1)
    have hz : vs.toArray.size = ns.length := by simp; omega
    generalize argBest _ _ = k at hP hle hmax ⊢
    have hkn : k < ns.length := by omega
    refine h h' tk _ t (List.mem_of_getElem? (by simpa using hP)) (by simp [hkn]) (fun n hn => ?_) F' N'
    obtain ⟨j, hj, rfl⟩ := List.getElem_of_mem hn
    have := hmax j (by omega)
    simp only [List.getD_eq_getElem?_getD, List.getElem?_eq_getElem hj, Option.getD_some] at this ⊢
    exact this
end
end Mine
end

section
open PySem PySem.W PyProof.Rows PySem.Calls
set_option Elab.async false
set_option maxRecDepth 100000
set_option linter.unusedVariables false
set_option linter.unusedSimpArgs false
namespace Mine
theorem ex_Z8_1 : (fun (_ : OpenLaw) (_ : Params → Frag) => True) PySem.Challenge.rw_xi0001_01 hd_law.heap_39 = True := by
  k_fill
  k_with_none
  rfl
local macro_rules | `(tactic| walk_at "execs cons") => `(tactic| ((try k_fold); (with_reducible refine gen_toks ?_); intro tkG htkG; (try dsimp only at htkG); (with_reducible refine wpAny_execs_cons ?_); (try dsimp only)))
local macro_rules | `(tactic| walk_at "execs nil") => `(tactic| ((with_reducible refine wpAny_execs_nil ?_); (try dsimp only)))
local macro_rules | `(tactic| walk_at "call ref") => `(tactic| (k_extra "my call"))
local macro_rules | `(tactic| walk_at "subscriptTail") => `(tactic| (k_extra "my item"))
local macro_rules | `(tactic| walk_at "eval Name") => `(tactic| (k_here; (with_reducible show wpAny _ _ (eval (Expr.Name _ _) (envX _ _ _ _ _ _)) _ _ _); k_dflt (refine nameX_L (by k_asm) (by assumption) ?_ (by rfl) (by rfl))))
local macro_rules | `(tactic| walk_at "call builtin:max") => `(tactic| (k_extra "my max"))
set_option maxHeartbeats 4000000 in
theorem seg7 {w : World} {mean : ExcName → Option Value} {mg mb : Str → Option Value} {dp un : Nat} {gd : Option (List Code)} {a : Addr} {ccd : Value} {outer : List Env} {A₀ : Around} {base h₀ : Heap} {L : Addr} {m : Str → Option Value} {s : Shared} {Q : Flow → Shared → Prop} {E : Value → Shared → Prop}
    (B : Below A₀ base outer h₀) (F : Fr h₀ L s.heap m) (X : (hd_law.heap_39 w.params).In h₀) (T : TopL mean mg mb h₀) (hd : dp + 40 < recursionLimit) (hu : un + 400 < cLine)
    {ns : List Int} {lr : Addr} {vs : List Value} {nn : Nat} (hI : IntsAre vs ns) (hlen : ns.length ≤ 1000) (hne : 0 < ns.length)
    {o4 o3 o2 o1 : Obj} (hd2 : o2.data = .cell (some (.ref lr))) (N : News h₀ L s.heap ((lr, listOf vs.toArray nn) :: led4 L o4 o3 o2 o1))
    (hret : ∀ h' tk' (b : Int) (t : Nat), Value.int b t ∈ vs → b ∈ ns → (∀ n ∈ ns, n ≤ b) → Fr h₀ L h' (fun y => if y = Str.ofString "most" then some (.int b t) else m y) → News h₀ L h' ((lr, listOf vs.toArray nn) :: led4 L o4 o3 o2 o1) → Q .next { s with heap := h', toks := tk' }) :
    wpAny (model Prg w) (ktrTop dp un gd (Str.ofString "law") lawS L a ccd (lawC L) outer) (exec (lawI 7) (envX (Str.ofString "law") lawS L a ccd (lawC L))) Q E s := by
  conv in (lawI 7) => whnf
  conv in (envX _ lawS _ _ _ _) => arg 2; whnf
  conv in (ktrTop _ _ _ _ lawS _ _ _ _ _) => arg 5; whnf
  k_with_none
  k_with "my max" =>
    k_here
    k_dflt (
      (rename Fr _ _ _ _ => lF')
      (rename News _ _ _ _ => lN')
      (refine max_led rfl ⟨_, (lN' _ (.head _)).1, rfl, _, rfl⟩ hI hne lF' lN' ?_)
      intro h8 k8 b8 t8 hb8 hn8 hm8 F8 N8)
  k_steps
  all_goals exact hret _ _ _ _ hb8 hn8 hm8 (by assumption) (by assumption)
theorem in_take {ns : List Int} {k : Nat} {b : Int} (h : ((List.take ((k : Int)).toNat ns).any fun x => x == b) = true) : b ∈ ns.take k := by
  rw [Int.toNat_natCast, List.any_eq_true] at h
  obtain ⟨x, hx, e⟩ := h
  exact (eq_of_beq e) ▸ hx
theorem not_before : ∀ (ns : List Int) (b : Int), b ∉ ns.take (ns.idxOf b)
  | [], b => by simp
  | n :: r, b => by
    rw [List.idxOf_cons]
    by_cases h : n = b
    · subst h; simp
    · have : (n == b) = false := by simpa using h
      rw [this]
      show b ∉ List.take (r.idxOf b + 1) (n :: r)
      rw [List.take_succ_cons, List.mem_cons, not_or]
      exact ⟨fun e => h e.symm, not_before r b⟩
set_option maxHeartbeats 4000000 in
theorem seg8 {w : World} {mean : ExcName → Option Value} {mg mb : Str → Option Value} {dp un : Nat} {gd : Option (List Code)} {a : Addr} {ccd : Value} {outer : List Env} {A₀ : Around} {base h₀ : Heap} {L : Addr} {m : Str → Option Value} {s : Shared} {Q : Flow → Shared → Prop} {E : Value → Shared → Prop}
    (B : Below A₀ base outer h₀) (F : Fr h₀ L s.heap m) (X : (hd_law.heap_39 w.params).In h₀) (T : TopL mean mg mb h₀) (hd : dp + 40 < recursionLimit) (hu : un + 400 < cLine)
    {ns : List Int} {lr : Addr} {vs : List Value} {nn X9 : Nat} {b : Int} {tb : Nat} (hI : IntsAre vs ns) (hlen : ns.length ≤ 1000) (hsm : ∀ n ∈ ns, 0 ≤ n ∧ n ≤ 256) (htok : TokI vs X9) (hb : Value.int b tb ∈ vs) (hbn : b ∈ ns) (hmb : m (Str.ofString "most") = some (.int b tb))
    {o4 o3 o2 o1 : Obj} (hd2 : o2.data = .cell (some (.ref lr))) (N : News h₀ L s.heap ((lr, listOf vs.toArray nn) :: led4 L o4 o3 o2 o1))
    (hret : ∀ h' tk', Fr h₀ L h' m → News h₀ L h' ((lr, listOf vs.toArray nn) :: led4 L o4 o3 o2 o1) → Q .next { s with heap := h', toks := tk' }) :
    wpAny (model Prg w) (ktrTop dp un gd (Str.ofString "law") lawS L a ccd (lawC L) outer) (exec (lawI 8) (envX (Str.ofString "law") lawS L a ccd (lawC L))) Q E s := by
  have kLen := hI.length
  have hix : ns.idxOf b < ns.length := List.idxOf_lt_length_iff.mpr hbn
  have hget : ns.getD ((ns.idxOf b : Int)).toNat 0 = b := by simp [hix]
  have hnot : b ∉ ns.take (ns.idxOf b) := not_before ns b
  have hcnt : 1 ≤ ns.count b := List.one_le_count_iff.mpr hbn
  conv in (lawI 8) => whnf
  conv in (envX _ lawS _ _ _ _) => arg 2; whnf
  conv in (ktrTop _ _ _ _ lawS _ _ _ _ _) => arg 5; whnf
  k_with_none
  k_with "my call" =>
    k_here
    k_dflt (first
      | ((refine' callC_use (indexOf_c _ _ _ _ _ _ _ (.head _) hI hlen htok hb hbn hsm) ?k1 ?k2 ?k3 ?k4 ?k5 ?k6 ?k7 ?k8 ?_; (case k1 => k_asm); (case k2 => k_asm); (case k3 => k_asm); (case k4 => k_asm); (case k5 => k_asm); (case k6 => first | exact rfl | assumption); (case k7 => first | ktr_room | omega); (case k8 => first | ktr_units | omega)); (rintro h9 tk9 v9 ⟨t9, rfl, F9, N9⟩; (try dsimp only)))
      | ((refine' callC_use (countOf_c _ _ _ _ _ _ _ ?km hI hlen htok hb hsm) ?k1 ?k2 ?k3 ?k4 ?k5 ?k6 ?k7 ?k8 ?_; (case k1 => k_asm); (case k2 => k_asm); (case k3 => k_asm); (case k4 => k_asm); (case k5 => k_asm); (case k6 => first | exact rfl | assumption); (case k7 => first | ktr_room | omega); (case k8 => first | ktr_units | omega)); (case km => k_mem); (rintro h9 tk9 v9 ⟨t9, rfl, F9, N9⟩; (try dsimp only))))
  k_with "my item" =>
    k_here
    (with_reducible show wpAny _ _ (subscriptTail _ _ (Value.ref _) (Value.int _ _)) _ _ _)
    k_dflt (
      (rename News _ _ _ _ => lN')
      (refine' item_led lN' ?ia hI ?ib ?ic ?id ?_)
      (case ia => k_mem)
      (case ib => omega)
      (case ic => omega)
      (case id => omega)
      intro t6 hmem6; (rw [hget]))
  k_steps
  all_goals first
    | exact absurd rfl (by assumption)
    | exact absurd (in_take (by assumption)) hnot
    | ((rename News _ _ _ _ => nE'); exact hret _ _ (by assumption) fun p hp => nE' p (.tail _ hp))
end Mine
end

section
open PySem PySem.W PyProof.Rows PySem.Calls
set_option Elab.async false
set_option maxRecDepth 100000
set_option linter.unusedVariables false
set_option linter.unusedSimpArgs false
namespace Mine
theorem ex_Z10_1 : (fun (_ : OpenLaw) (_ : Params → Frag) => True) PySem.Challenge.rw_xi0001_01 hd_law.heap_39 = True := by
  k_fill
  k_with_none
  rfl
local macro_rules | `(tactic| walk_at "execs cons") => `(tactic| ((try k_fold); (with_reducible refine gen_toks ?_); intro tkG htkG; (try dsimp only at htkG); (with_reducible refine wpAny_execs_cons ?_); (try dsimp only)))
local macro_rules | `(tactic| walk_at "execs nil") => `(tactic| ((with_reducible refine wpAny_execs_nil ?_); (try dsimp only)))
local macro_rules | `(tactic| walk_at "eval ListComp") => `(tactic| (k_extra "my ListComp"))
local macro_rules | `(tactic| walk_at "CompSrc") => `(tactic| (k_extra "my CompSrc"))
local macro_rules | `(tactic| walk_at "CPost") => `(tactic| (k_extra "my CPost"))
local macro_rules | `(tactic| walk_at "call builtin:str.join") => `(tactic| (k_extra "my join"))
local macro_rules | `(tactic| walk_at "call ref") => `(tactic| (k_extra "my call"))
local macro_rules | `(tactic| walk_at "subscriptTail") => `(tactic| (k_extra "my item"))
local macro_rules | `(tactic| walk_at "subscriptTail Name BinOp ref int") => `(tactic| (k_extra "my item"))
local macro_rules | `(tactic| walk_at "eval Name") => `(tactic| (k_here; (with_reducible show wpAny _ _ (eval (Expr.Name _ _) (envX _ _ _ _ _ _)) _ _ _); k_dflt (refine nameX_L (by k_asm) (by assumption) ?_ (by rfl) (by rfl))))
set_option maxHeartbeats 4000000 in
theorem seg10 {w : World} {mean : ExcName → Option Value} {mg mb : Str → Option Value} {dp un : Nat} {gd : Option (List Code)} {a : Addr} {ccd : Value} {outer : List Env} {A₀ : Around} {base h₀ : Heap} {L : Addr} {m : Str → Option Value} {s : Shared} {Q : Flow → Shared → Prop} {E : Value → Shared → Prop}
    (B : Below A₀ base outer h₀) (F : Fr h₀ L s.heap m) (X : (hd_law.heap_39 w.params).In h₀) (T : TopL mean mg mb h₀) (hd : dp + 40 < recursionLimit) (hu : un + 400 < cLine)
    {x y : Str} {ty : Tok} (hx : x.length ≤ 1000) (hy : y.cps.toList = x.cps.toList.reverse) (hmy : m (Str.ofString "back") = some (.str y ty))
    {lr : Addr} {vs : List Value} {nn : Nat} (hI : IntsAre vs (reachesOf x))
    {o4 o3 o2 o1 : Obj} (hd2 : o2.data = .cell (some (.ref lr))) (N : News h₀ L s.heap ((lr, listOf vs.toArray nn) :: led4 L o4 o3 o2 o1))
    (hret : ∀ h' tk' m', Fr h₀ L h' m' → Q (.ret (.bool true)) { s with heap := h', toks := tk' }) :
    wpAny (model Prg w) (ktrTop dp un gd (Str.ofString "law") lawS L a ccd (lawC L) outer) (exec (lawI 10) (envX (Str.ofString "law") lawS L a ccd (lawC L))) Q E s := by
  have kLen := hI.length
  have kLen2 : (reachesOf x).length = x.length := by simp [reachesOf]
  have hyl : y.length ≤ 1000 := by
    have : y.length = y.cps.toList.length := by simp [Str.length]
    rw [this, hy]; simpa [Str.length] using hx
  conv in (lawI 10) => whnf
  conv in (envX _ lawS _ _ _ _) => arg 2; whnf
  conv in (ktrTop _ _ _ _ lawS _ _ _ _ _) => arg 5; whnf
  k_with_none
  k_with "my ListComp" =>
    k_dflt (refine LCg.ListComp_U (F₀ := by k_asm) (by with_unfolding_all rfl) (by decide) (by rfl) (by decide) (by rfl) ?_)
  k_with "my call" =>
    k_here
    k_dflt (
      (refine' callC_use (reaches_c y ty hyl) ?k1 ?k2 ?k3 ?k4 ?k5 ?k6 ?k7 ?k8 ?_; (case k1 => k_asm); (case k2 => k_asm); (case k3 => k_asm); (case k4 => k_asm); (case k5 => k_asm); (case k6 => first | exact rfl | assumption); (case k7 => first | ktr_room | omega); (case k8 => first | ktr_units | omega))
      (rintro h9 tk9 v9 ⟨l9, vs9, nn9, rfl, hI9, F9, N9, hlt9, hTk9⟩; (try dsimp only)))
  k_with "my item" =>
    k_here
    (with_reducible show wpAny _ _ (subscriptTail _ _ (Value.ref _) (Value.int _ _)) _ _ _)
    k_dflt (
      (rename News _ _ _ _ => lN')
      (refine' item_led lN' ?ia hI ?ib ?ic ?id ?_)
      (case ia => k_mem)
      (case ib => ((rename (_ ≠ _ ∧ _ ≠ _ ∧ _ ≠ _) => nE9); (rename ((_ ≠ _ ∧ _ ≠ _ ∧ _ ≠ _) ∧ _) => nO9); clear nE9 nO9; omega))
      (case ic => ((rename (_ ≠ _ ∧ _ ≠ _ ∧ _ ≠ _) => nE9); (rename ((_ ≠ _ ∧ _ ≠ _ ∧ _ ≠ _) ∧ _) => nO9); clear nE9 nO9; omega))
      (case id => ((rename (_ ≠ _ ∧ _ ≠ _ ∧ _ ≠ _) => nE9); (rename ((_ ≠ _ ∧ _ ≠ _ ∧ _ ≠ _) ∧ _) => nO9); clear nE9 nO9; omega))
      intro t6 hmem6)
  k_steps
  all_goals (rw [decide_eq_true (reaches_back hy)]; exact hret _ _ _ (by assumption))
end Mine
end

section
open PySem PySem.W PyProof.Rows
namespace Mine
def sm (n : Nat) (f : Nat → Int) : Int := ((List.range n).map f).sum
theorem sm_zero (f : Nat → Int) : sm 0 f = 0 := rfl
theorem sm_succ (n : Nat) (f : Nat → Int) : sm (n + 1) f = sm n f + f n := by
  unfold sm
  rw [List.range_succ, List.map_append, List.sum_append]; simp
theorem sm_congr {n : Nat} {f g : Nat → Int} (h : ∀ i, i < n → f i = g i) : sm n f = sm n g := by
  induction n with
  | zero => rfl
  | succ n ih => rw [sm_succ, sm_succ, ih fun i hi => h i (by omega), h n (by omega)]
theorem sm_const (n : Nat) (c : Int) : sm n (fun _ => c) = n * c := by
  induction n with
  | zero => simp [sm_zero]
  | succ n ih =>
    rw [sm_succ, ih]
    have : ((n + 1 : Nat) : Int) = (n : Int) + 1 := by omega
    rw [this, Int.add_mul, Int.one_mul]
theorem sm_add (n : Nat) (f g : Nat → Int) : sm n (fun i => f i + g i) = sm n f + sm n g := by
  induction n with
  | zero => rfl
  | succ n ih => rw [sm_succ, sm_succ, sm_succ, ih]; omega
theorem sm_split (a b : Nat) (f : Nat → Int) : sm (a + b) f = sm a f + sm b fun k => f (a + k) := by
  induction b with
  | zero => simp [sm_zero]
  | succ b ih => rw [← Nat.add_assoc, sm_succ, sm_succ, ih]; omega
theorem sm_swap (a b : Nat) (f : Nat → Nat → Int) : sm a (fun i => sm b (f i)) = sm b fun j => sm a fun i => f i j := by
  induction a with
  | zero =>
    have : (fun j => sm 0 fun i => f i j) = fun _ : Nat => (0 : Int) := rfl
    rw [sm_zero, this, sm_const]; simp
  | succ a ih =>
    rw [sm_succ, ih]
    have : (fun j => sm (a + 1) fun i => f i j) = fun j => (sm a fun i => f i j) + f a j := by funext j; rw [sm_succ]
    rw [this, sm_add]
/-- the indicator of a stretch of places -/
theorem sm_band (n a b : Nat) (P : Nat → Prop) [DecidablePred P] (hab : a ≤ b) (hb : b ≤ n) (h : ∀ i, i < n → (P i ↔ a ≤ i ∧ i < b)) : sm n (fun i => if P i then (1 : Int) else 0) = (b : Int) - (a : Int) := by
  have e : n = a + ((b - a) + (n - b)) := by omega
  have h1 : sm a (fun i => if P i then (1 : Int) else 0) = sm a fun _ => 0 := sm_congr fun i hi => if_neg fun hp => by have := (h i (by omega)).1 hp; omega
  have h2 : sm (b - a) (fun k => if P (a + k) then (1 : Int) else 0) = sm (b - a) fun _ => 1 := sm_congr fun i hi => if_pos ((h _ (by omega)).2 (by omega))
  have h3 : sm (n - b) (fun k => if P (a + (b - a + k)) then (1 : Int) else 0) = sm (n - b) fun _ => 0 := sm_congr fun i hi => if_neg fun hp => by have := (h _ (by omega)).1 hp; omega
  rw [e, sm_split, sm_split, h1, h2, h3, sm_const, sm_const, sm_const]
  omega
theorem rad_par (ls : List Nat) (p : Nat) (hp : p ≤ 2 * ls.length) : rad (textOf ls) p % 2 = p % 2 ∧ rad (textOf ls) p ≤ p ∧ p + rad (textOf ls) p ≤ 2 * ls.length := by
  have hlen := textOf_len ls
  have h0 := (le_rad (textOf ls) p (rad (textOf ls) p) (by omega)).1 (Nat.le_refl _)
  refine ⟨?_, h0.1, by omega⟩
  refine Decidable.by_contra fun hc => ?_
  generalize hR : rad (textOf ls) p = R at h0 hc
  have h1 : R + 1 ≤ rad (textOf ls) p := (le_rad (textOf ls) p (R + 1) (by omega)).2 ⟨by omega, by omega, fun j hj => by
    by_cases hj' : j ≤ R
    · exact h0.2.2 j hj'
    · have e1 : p - j = 2 * ((p - j) / 2) := by omega
      have e2 : p + j = 2 * ((p + j) / 2) := by omega
      rw [e1, e2, textOf_even _ _ (by omega), textOf_even _ _ (by omega)]⟩
  omega
theorem count_law {x : Str} {ls : List Nat} (hx : x.cps.toList = textOf ls) (hn : ls.length < 10) : ((reachesOf x).map fun k' => (k' + 1).fdiv 2).sum = cntO (reachesOf x) ls.length ls.length := by
  have hlen := textOf_len ls
  have hxl : x.length = 2 * ls.length + 1 := by
    have e1 : x.length = x.cps.toList.length := by simp [Str.length]
    rw [e1, hx, hlen]
  generalize hN : ls.length = n at hn hxl
  have hr : ∀ p, p < 2 * n + 1 → (reachesOf x).getD p 0 = (rad (textOf ls) p : Int) := fun p hp => by
    rw [← hx]; simp [reachesOf, hxl, hp]
  let F : Nat → Nat → Int := fun low p => if 2 * low < p ∧ p ≤ n + low ∧ p ≤ 2 * low + rad (textOf ls) p then 1 else 0
  have hA : ∀ low, low < n → cntI (reachesOf x) low (min n (low + 9) - low) = sm (2 * n + 1) (F low) := fun low hlow => by
    have e : min n (low + 9) - low = n - low := by omega
    have e2 : 2 * n + 1 = (2 * low + 1) + ((n - low) + (n - low)) := by omega
    have h1 : sm (2 * low + 1) (F low) = sm (2 * low + 1) fun _ => 0 := sm_congr fun i hi => if_neg fun hp => by omega
    have h3 : sm (n - low) (fun k => F low (2 * low + 1 + (n - low + k))) = sm (n - low) fun _ => 0 := sm_congr fun i hi => if_neg fun hp => by omega
    have h2 : sm (n - low) (fun k => F low (2 * low + 1 + k)) = cntI (reachesOf x) low (n - low) := by
      show _ = sm (n - low) fun k => ind (reachesOf x) low (low + 1 + k)
      refine sm_congr fun k hk => ?_
      have e3 : low + (low + 1 + k) = 2 * low + 1 + k := by omega
      unfold ind
      rw [e3, hr _ (by omega)]
      by_cases hc : 2 * low + 1 + k ≤ 2 * low + rad (textOf ls) (2 * low + 1 + k)
      · rw [if_pos (by omega)]; exact if_pos ⟨by omega, by omega, hc⟩
      · rw [if_neg (by omega)]; exact if_neg fun h => hc h.2.2
    rw [e, e2, sm_split (2 * low + 1) (n - low + (n - low)), sm_split (n - low) (n - low), h1, h2, h3, sm_const, sm_const]; omega
  have hB : ∀ p, p < 2 * n + 1 → sm n (fun low => F low p) = ((rad (textOf ls) p : Int) + 1).fdiv 2 := fun p hp => by
    have hpar := rad_par ls p (by omega)
    rw [hN] at hpar
    have := sm_band n ((p - rad (textOf ls) p) / 2) ((p + 1) / 2) (fun low => 2 * low < p ∧ p ≤ n + low ∧ p ≤ 2 * low + rad (textOf ls) p) (by omega) (by omega) fun low hlow => by omega
    show sm n (fun low => if 2 * low < p ∧ p ≤ n + low ∧ p ≤ 2 * low + rad (textOf ls) p then (1 : Int) else 0) = _
    rw [this, Int.fdiv_eq_ediv_of_nonneg _ (by decide)]
    omega
  have h1 : ((reachesOf x).map fun k' => (k' + 1).fdiv 2).sum = sm (2 * n + 1) fun p => ((rad (textOf ls) p : Int) + 1).fdiv 2 := by
    unfold reachesOf sm
    rw [List.map_map, hxl, hx]; rfl
  have h2 : cntO (reachesOf x) n n = sm n fun low => cntI (reachesOf x) low (min n (low + 9) - low) := rfl
  rw [h1, h2, sm_congr hA, sm_swap]
  exact (sm_congr hB).symm
theorem reaches_small {x : Str} (h : x.length ≤ 256) : ∀ n ∈ reachesOf x, 0 ≤ n ∧ n ≤ 256 := by
  intro n hn
  simp only [reachesOf, List.mem_map, List.mem_range] at hn
  obtain ⟨p, hp, rfl⟩ := hn
  have hl : x.cps.toList.length = x.length := by simp [Str.length]
  have := (le_rad x.cps.toList p (rad x.cps.toList p) (by omega)).1 (Nat.le_refl _)
  omega
end Mine
end

section
open PySem PySem.W PyProof.Rows PySem.Calls
set_option Elab.async false
set_option maxRecDepth 100000
set_option linter.unusedVariables false
namespace Mine
theorem nonzero_toks {vs : List Value} {ns : List Int} {X : Nat} (hi : IntsAre vs ns) (h : TokI vs X) (h0 : 0 < ns.length) : X ≠ 0 := by
  cases hi with
  | nil => simp at h0
  | cons n t r => have := (h.1 n t (.head _)).2; omega
theorem law_body {w : World} {mean : ExcName → Option Value} {mg mb : Str → Option Value} {dp un : Nat} {gd : Option (List Code)} {a : Addr} {ccd : Value} {outer : List Env} {A₀ : Around} {base h₀ : Heap} {L : Addr} {m : Str → Option Value} {s : Shared} {Q : Flow → Shared → Prop} {E : Value → Shared → Prop}
    (B : Below A₀ base outer h₀) (F : Fr h₀ L s.heap m) (X : (hd_law.heap_39 w.params).In h₀) (T : TopL mean mg mb h₀) (hd : dp + 40 < recursionLimit) (hu : un + 400 < cLine)
    (hE : PassesOwn (model Prg w) (ktrTop dp un gd (Str.ofString "law") lawS L a ccd (lawC L) outer) (envX (Str.ofString "law") lawS L a ccd (lawC L)) E)
    {l : Addr} {vs : List Value} {ns : List Int} (hl : h₀.IsList l vs.toArray) (hi : IntsAre vs ns) (hlen : ns.length ≤ 63) (hm : m (Str.ofString "script") = some (.ref l))
    {o4 o3 o2 o1 : Obj} {v4 v3 v2 v1 : Option Value} (hd4 : o4.data = .cell v4) (hd3 : o3.data = .cell v3) (hd2 : o2.data = .cell v2) (hd1 : o1.data = .cell v1) (N : News h₀ L s.heap (led4 L o4 o3 o2 o1))
    (hret : ∀ h' tk' m', Fr h₀ L h' m' → Q (.ret (.bool true)) { s with heap := h', toks := tk' }) :
    wpAny (model Prg w) (ktrTop dp un gd (Str.ofString "law") lawS L a ccd (lawC L) outer) (execs lawB (envX (Str.ofString "law") lawS L a ccd (lawC L))) Q E s := by
  show wpAny _ _ (execs [lawI 0, lawI 1, lawI 2, lawI 3, lawI 4, lawI 5, lawI 6, lawI 7, lawI 8, lawI 9, lawI 10] _) Q E s
  refine wpAny_execs_cons (seg0 B F X T hd hu hl hi hlen hm hd1 N fun h0 k0 x t o1 hx hd1 F N => ?_)
  have hll : (lettersOf ns).length ≤ 30 := by simp [lettersOf]; omega
  have hxl : x.length = 2 * (lettersOf ns).length + 1 := by
    have e1 : x.length = x.cps.toList.length := by simp [Str.length]
    rw [e1, hx, textOf_len]
  refine wpAny_execs_cons (seg1 B F X T hd hu (x := x) (t := t) (by omega) hd1 hd2 N fun h1 k1 lr vr nn o2 hI hTk hlr hd2 F N => ?_)
  have hrl := reaches_len x
  have hk1 := nonzero_toks hI hTk (by omega)
  refine wpAny_execs_cons (with_toks (seg2 B F X T hd hu hE (x := x) (t := t) (by omega) hI hlr hd1 hd2 hd3 N fun h2 k2 m2 o3 v3 hd3 F N => ?_))
  intro hk2
  have hk2' : k2 ≠ 0 := by have h5 : k1 ≤ k2 := hk2; omega
  refine wpAny_execs_cons (seg3 B F X T hd hu (x := x) (t := t) (by omega) hk2' hd1 (news := []) N fun h3 k3 tz F N => ?_)
  have hz := replace_text hx (letters_ne ns)
  generalize hzz : Txt.replace x (Str.ofString "-") (Str.ofString "") = z at hz F
  have hzl : z.length = (lettersOf ns).length := by
    have e1 : z.length = z.cps.toList.length := by simp [Str.length]
    rw [e1, hz]
  refine wpAny_execs_cons (seg4 B F X T hd hu N fun h4 k4 tm F N => ?_)
  refine wpAny_execs_cons (seg5 B F X T hd hu hE (z := z) (tz := tz) (by omega) rfl rfl hI (by rw [hz]; exact hx) hlr hd2 hd4 N fun h5 k5 m5 o4 tm5 hml hmm F N => ?_)
  have hsm := reaches_small (x := x) (by omega)
  refine wpAny_execs_cons (seg6 B F X T hd hu (z := z) (by omega) _ hml hmm hI (by omega) hsm (fun h => by rw [hzl] at h ⊢; exact count_law hx h) hd2 N fun h6 k6 F N => ?_)
  refine wpAny_execs_cons (seg7 B F X T hd hu hI (by omega) (by omega) hd2 N fun h7 k7 b tb hb hbn hbm F N => ?_)
  refine wpAny_execs_cons (seg8 B F X T hd hu hI (by omega) hsm hTk hb hbn rfl hd2 N fun h8 k8 F N => ?_)
  refine wpAny_execs_cons (seg9 B F X T hd hu (x := x) (t := t) (by omega) hd1 N fun h9 k9 y ty hy F N => ?_)
  refine wpAny_execs_cons (seg10 B F X T hd hu (x := x) (by omega) hy rfl hI hd2 N fun h10 k10 m10 F => ?_)
  exact hret h10 k10 m10 F
end Mine
end

open PySem PySem.W PyProof.Rows PySem.Calls
set_option Elab.async false
set_option linter.unusedVariables false
set_option maxRecDepth 100000 in
set_option maxHeartbeats 8000000 in
theorem PySem.Challenge.cw_xi0001_01_holds : PySem.Challenge.rw_xi0001_01.Holds := by
  exact Mine.hd_law (by w_strict (
  k_with_none
  k_go0
  rename Below _ _ _ _ => kB
  rename Fr _ _ _ _ => kF
  rename Top _ _ _ _ _ _ => kT
  rename PySem.W.Frag.In _ _ => kX
  rename PySem.Heap.IsList _ _ _ => kL
  rename IntsAre _ _ => kI
  rename News _ _ _ _ => kN
  refine' Mine.law_body (outer := []) kB kF kX kT ?ha ?hb ?hc kL kI ?he ?hf ?_ ?_ ?_ ?_ kN ?hk
  case ha => decide +kernel
  case hb => decide +kernel
  case hc => passes_own
  case he => omega
  case hf => rfl
  all_goals (try assumption)
  intro h9 tk9 m9 F9
  first
    | (dsimp only; wrow_close)
    | (try k_end; wrow_close)
    | (dsimp only; k_end; wrow_close)
    | (dsimp only; trace_state; wrow_close)))
