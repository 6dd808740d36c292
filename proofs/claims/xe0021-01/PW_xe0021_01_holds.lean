import PyProof.Rows.All
import Wide.All
import OpenK.AllK
import KE.KCallBy
import KE.KOwnIter
import KE.KDictText
import Wide.FinOn
import Lean
import PySem.Challenge.RW_xe0021_01
open PySem PySem.W PyProof.Rows
set_option Elab.async false
set_option maxRecDepth 100000
set_option maxHeartbeats 8000000
set_option linter.all false
namespace Mine
open_top top0 for PySem.Challenge.rw_xe0021_01
end Mine
namespace Mine
abbrev pr : Program := PySem.Challenge.rw_xe0021_01.row.prog
abbrev Led := List (Addr × Obj)
abbrev Ar (k : Nat) (gd : Option (List Code)) (env : Env) (outer : List Env) : Around := { handled := none, depth := 900 - 100 * k, frames := some (env :: outer), guards := gd, units := 9000 - 1000 * k }
abbrev Sc (nm : List (Str × NameKind)) (ig ic : Bool) (mr : List (Str × Const)) : Scope := { kind := .function, names := nm, isGenerator := ig, isCoroutine := ic, more := mr }

theorem room_le {α : Type} {M : Model} {A A' : Around} {t : Sem α} {Q : α → Shared → Prop} {E : Value → Shared → Prop} {s : Shared} (h : wpAny M A t Q E s)
    (h1 : A'.handled = A.handled) (h2 : A'.frames = A.frames) (h3 : A'.guards = A.guards) (h4 : A'.depth ≤ A.depth) (h5 : A'.units ≤ A.units) : wpAny M A' t Q E s :=
  fun Γ p hΓ => h Γ p ⟨hΓ.1.trans h1, Nat.le_trans hΓ.2.1 h4, fun l hl => hΓ.2.2.1 l (h2.trans hl), fun g hg => hΓ.2.2.2.1 g (h3.trans hg), Nat.le_trans hΓ.2.2.2.2 h5⟩

theorem room_code {M : Model} {A A' : Around} {c : Code} {R : Result → Shared → Prop} {s : Shared} (h : codeAny M A c R s)
    (h1 : A'.handled = A.handled) (h2 : A'.frames = A.frames) (h3 : A'.guards = A.guards) (h4 : A'.depth ≤ A.depth) (h5 : A'.units ≤ A.units) : codeAny M A' c R s :=
  fun Γ p hc hΓ => h Γ p hc ⟨hΓ.1.trans h1, Nat.le_trans hΓ.2.1 h4, fun l hl => hΓ.2.2.1 l (h2.trans hl), fun g hg => hΓ.2.2.2.1 g (h3.trans hg), Nat.le_trans hΓ.2.2.2.2 h5⟩
abbrev Back (Q E : Value → Shared → Prop) (r : Result) (s' : Shared) : Prop := match r with
  | .ok (.ret v) => Q v s'
  | .ok _ => False
  | .error e => E e s'

def Tell (w : World) (k : Nat) (f : Addr) (args : List Value) (news : Led) (Post : Value → Led → Prop) : Prop :=
  ∀ (nm : List (Str × NameKind)) (ig ic : Bool) (mr : List (Str × Const)) (gd : Option (List Code)) (cn : Str) (a : Addr) (ccd : Value) (cl : List (Str × Addr)) (outer : List Env) (A₀ : Around) (base h₀ : Heap) (L : Addr) (m : Str → Option Value) (s : Shared) (Q E : Value → Shared → Prop)
   (p : Program) (loose : List Str) (mean : ExcName → Option Value) (mg mb : Str → Option Value),
   Below A₀ base outer h₀ → Fr h₀ L s.heap m → (top0.heap_39 w.params).In h₀ → News h₀ L s.heap news → Top p loose mean mg mb h₀ →
   (∀ v news' h' tk', Fr h₀ L h' m → News h₀ L h' news' → Post v news' → Q v { s with heap := h', toks := tk' }) →
   codeAny (model pr w) (Ar k gd (envX cn (Sc nm ig ic mr) L a ccd cl) outer) (.call (.ref f) ⟨args, []⟩) (Back Q E) s
/-- the frame's map m, but for the names of l, and the forgotten names fg, which u tells -/
def ovr (fg : List Str) (u : Str → Option Value) (l : List (Str × Value)) (m : Str → Option Value) (z : Str) : Option Value :=
  if fg.contains z then u z else match l.lookup z with
    | some v => some v
    | none => m z
def Same (fg : List Str) (l : List (Str × Value)) (m m' : Str → Option Value) : Prop := ∀ z, z ∉ fg → m' z = ovr [] m' l m z
theorem Same.eq {fg : List Str} {l : List (Str × Value)} {m m' : Str → Option Value} (h : Same fg l m m') : m' = ovr fg m' l m := by
  funext z
  by_cases hz : z ∈ fg
  · simp [ovr, hz]
  · rw [h z hz]; simp [ovr, hz]

theorem ovr_self (fg : List Str) (m : Str → Option Value) : Same fg [] m m := fun z _ => by simp [ovr]

section
variable {prog : Program} {w : World} {A : Around} {E : Value → Shared → Prop} {Q : Flow → Shared → Prop} {s : Shared} {env : Env} {h₀ : Heap} {L : Addr}
def WEnd {σ : Type} (h₀ : Heap) (L : Addr) (m : Str → Option Value) (news : Led) (fg : List Str) (st : σ → List (Str × Value)) (P : σ → Prop) (ms : σ → Nat) (n : Nat) (s : Shared) (f : Flow) (s₃ : Shared) : Prop :=
  f = .next ∧ ∃ h' tk m₂ news₂ x, s₃ = { s with heap := h', toks := tk } ∧ Fr h₀ L h' m₂ ∧ News h₀ L h' news₂ ∧ (∀ p ∈ news, p ∈ news₂) ∧ Same fg (st x) m m₂ ∧ P x ∧ ms x < n
/-- a while: fg the names forgotten, st the names told, P what holds, ms the measure -/
theorem while_st {σ : Type} {test : Expr} {body : List Stmt} {pos : Pos} {m : Str → Option Value} {news : Led} (fg : List Str) (st : σ → List (Str × Value)) (P : σ → Prop) (ms : σ → Nat) (x₀ : σ)
    (F : Fr h₀ L s.heap m) (N : News h₀ L s.heap news) (h0 : Same fg (st x₀) m m) (hP : P x₀)
    (turn : ∀ x u h tk, Fr h₀ L h (ovr fg u (st x) m) → News h₀ L h news → P x →
      wpAny (model prog w) A (isTrue test env (eval test env)) (fun b s₂ =>
        if b = true then wpAny (model prog w) A (execs body env) (WEnd h₀ L m news fg st P ms (ms x) s) E s₂ else Q .next s₂) E { s with heap := h, toks := tk })
    (hE : PassesOwn (model prog w) A env E := by passes_own) :
    wpAny (model prog w) A (exec (.While test body [] pos) env) Q E s := by
  refine While_inv (fun n m₁ news₁ => news₁ = news ∧ ∃ x, Same fg (st x) m m₁ ∧ P x ∧ ms x = n) F N ⟨rfl, x₀, h0, hP, rfl⟩ ?_ hE
  rintro n m₁ news₁ h₁ tk₁ F₁ N₁ ⟨rfl, x, hs, hp, rfl⟩
  rw [hs.eq] at F₁
  refine wpAny_mono (turn x m₁ h₁ tk₁ F₁ N₁ hp) (fun b s₂ h₂ => ?_) fun _ _ e => e
  cases b with
  | false => exact h₂
  | true =>
    simp only [if_true] at h₂ ⊢
    refine wpAny_mono h₂ (fun f s₃ h₃ => ?_) fun _ _ e => e
    obtain ⟨rfl, h', tk, m₂, news₂, y, rfl, F₂, N₂, hsub, hs₂, hp₂, hn⟩ := h₃
    exact WhileStep.intro F₂ (fun p hp => N₂ p (hsub p hp)) hn ⟨rfl, y, hs₂, hp₂, rfl⟩
end
def AllAt (m : Str → Option Value) : List (Str × Value) → Prop
  | [] => True
  | p :: r => m p.1 = some p.2 ∧ AllAt m r
theorem same_of {fg : List Str} {m m' : Str → Option Value} : ∀ {l : List (Str × Value)}, AllAt m' l → (∀ z, z ∉ fg → z ∉ l.map (·.1) → m' z = m z) → Same fg l m m' := by
  intro l h1 h2 z hz
  have key : ∀ (l : List (Str × Value)), AllAt m' l → (∃ v, l.lookup z = some v ∧ m' z = some v) ∨ (l.lookup z = none ∧ z ∉ l.map (·.1)) := by
    intro l
    induction l with
    | nil => intro _; exact .inr ⟨rfl, by simp⟩
    | cons p r ih =>
      intro h
      by_cases e : z = p.1
      · subst e; exact .inl ⟨p.2, by simp [List.lookup], h.1⟩
      · have e' : (z == p.1) = false := by simpa using e
        rcases ih h.2 with ⟨v, a, b⟩ | ⟨a, b⟩
        · exact .inl ⟨v, by rw [List.lookup_cons, e']; exact a, b⟩
        · exact .inr ⟨by rw [List.lookup_cons, e']; exact a, by simp only [List.map_cons, List.mem_cons, not_or]; exact ⟨e, b⟩⟩
  rcases key l h1 with ⟨v, a, b⟩ | ⟨a, b⟩
  · simp [ovr, a, b]
  · simp [ovr, a, h2 z hz b]
theorem WEnd.intro {σ : Type} {h₀ : Heap} {L : Addr} {m : Str → Option Value} {news : Led} {fg : List Str} {st : σ → List (Str × Value)} {P : σ → Prop} {ms : σ → Nat} {n : Nat} {s : Shared} {h' : Heap} {tk : Nat} {m₂ : Str → Option Value} {news₂ : Led} (x : σ)
    (F : Fr h₀ L h' m₂) (N : News h₀ L h' news₂) (hsub : ∀ p ∈ news, p ∈ news₂) (ha : AllAt m₂ (st x)) (hr : ∀ z, z ∉ fg → z ∉ (st x).map (·.1) → m₂ z = m z) (hP : P x) (hm : ms x < n) :
    WEnd h₀ L m news fg st P ms n s .next { s with heap := h', toks := tk } := ⟨rfl, h', tk, m₂, news₂, x, rfl, F, N, hsub, same_of ha hr, hP, hm⟩
theorem allAt_nil {m : Str → Option Value} : AllAt m [] := trivial
theorem allAt_cons {m : Str → Option Value} {x : Str} {v : Value} {l : List (Str × Value)} (h : m x = some v) (hl : AllAt m l) : AllAt m ((x, v) :: l) := ⟨h, hl⟩
def Srt (ns : List Int) : Prop := ∀ i j, i ≤ j → j < ns.length → ns.getD i 0 ≤ ns.getD j 0
theorem countP_split (p : Int → Bool) : ∀ (ns : List Int) (k : Nat), k ≤ ns.length → (∀ i, i < k → p (ns.getD i 0) = true) → (∀ i, k ≤ i → i < ns.length → p (ns.getD i 0) = false) → ns.countP p = k
  | [], k, hk, _, _ => by simp at hk; simp [hk]
  | n :: r, 0, _, _, h2 => by
    have h := countP_split p r 0 (Nat.zero_le _) (fun i hi => absurd hi (Nat.not_lt_zero _)) (fun i _ hi => by have := h2 (i + 1) (Nat.zero_le _) (by simpa using hi); simpa using this)
    have h0 := h2 0 (Nat.le_refl _) (by simp)
    simp at h0
    rw [List.countP_cons_of_neg (by simp [h0]), h]
  | n :: r, k + 1, hk, h1, h2 => by
    have h := countP_split p r k (by simpa using hk) (fun i hi => by have := h1 (i + 1) (by omega); simpa using this) (fun i hi hl => by have := h2 (i + 1) (by omega) (by simpa using hl); simpa using this)
    have h0 := h1 0 (by omega)
    simp at h0
    rw [List.countP_cons_of_pos h0, h]
theorem ovr_ne {fg : List Str} {u : Str → Option Value} {l : List (Str × Value)} {m : Str → Option Value} {z : Str} (h1 : z ∉ fg) (h2 : z ∉ l.map (·.1)) : ovr fg u l m z = m z := by
  have : l.lookup z = none := by
    induction l with
    | nil => rfl
    | cons p r ih =>
      simp only [List.map_cons, List.mem_cons, not_or] at h2
      rw [List.lookup_cons, show (z == p.1) = false by simpa using h2.1]; exact ih h2.2
  simp [ovr, h1, this]

theorem Tell.use {w : World} {k : Nat} {f : Addr} {args : List Value} {news : Led} {Post : Value → Led → Prop} {A : Around} {nm : List (Str × NameKind)} {ig ic : Bool} {mr : List (Str × Const)} {cn : Str} {a : Addr} {ccd : Value} {cl : List (Str × Addr)} {outer : List Env} {A₀ : Around} {base h₀ : Heap} {L : Addr} {m : Str → Option Value} {s : Shared} {Q E : Value → Shared → Prop}
   {p : Program} {loose : List Str} {mean : ExcName → Option Value} {mg mb : Str → Option Value}
   (N : News h₀ L s.heap news) (B : Below A₀ base outer h₀) (F : Fr h₀ L s.heap m) (X : (top0.heap_39 w.params).In h₀) (T : Top p loose mean mg mb h₀)
   (hh : A.handled = none) (hf : A.frames = some (envX cn (Sc nm ig ic mr) L a ccd cl :: outer)) (hd : A.depth ≤ 900 - 100 * k) (hu : A.units ≤ 9000 - 1000 * k)
   (H : Tell w k f args news Post)
   (ret : ∀ v news' h' tk', Fr h₀ L h' m → News h₀ L h' news' → Post v news' → Q v { s with heap := h', toks := tk' }) :
   wpAny (model pr w) A (call (.ref f) args) Q E s :=
  wpAny_call (room_code (A := Ar k A.guards (envX cn (Sc nm ig ic mr) L a ccd cl) outer) (H nm ig ic mr A.guards cn a ccd cl outer A₀ base h₀ L m s Q E p loose mean mg mb B F X N T ret) hh hf rfl hd hu)

/-- a loop over a list of items by a word J (turn, map, ledger): the items' rest is shown -/
theorem items_inv {prog : Program} {w : World} {A : Around} {E : Value → Shared → Prop} {h₀ : Heap} {env : Env} {target : Expr} {body : List Stmt} {Q : Flow → Shared → Prop} {s : Shared} {ws : List (Addr × String)} {keep : Led} {xs : List Itm}
    (J : Nat → (Str → Option Value) → Led → Prop)
    (turn : ∀ i a m news v h tk, xs[i]? = some a → J i m news → a.Is v h → Fr h₀ env.locals h m → AllObj ws (fun its => ∀ PP : Flow → Shared → Prop, (∀ s₃, UnrEndW h₀ env.locals { s with heap := h, toks := tk } its (fun m' n' => SubL keep n' ∧ J (i + 1) m' n') s₃ → PP .next s₃) → News h₀ env.locals h (its ++ news) →
      wpAny (model prog w) A (assign target env v) (fun _ s₂ => wpAny (model prog w) A (execs body env) PP E s₂) E { s with heap := h, toks := tk }))
    (done : ∀ m news h tk, J xs.length m news → Fr h₀ env.locals h m → News h₀ env.locals h news → Q .next { s with heap := h, toks := tk }) :
    ∀ i m news, i ≤ xs.length → J i m news → ItemsRest prog w A E h₀ env target body Q s ws keep (xs.drop i) m news := by
  have all : ∀ k i m news, k + i = xs.length → J i m news → ItemsRest prog w A E h₀ env target body Q s ws keep (xs.drop i) m news := by
    intro k
    induction k with
    | zero =>
      intro i m news hi hJ
      rw [List.drop_eq_nil_of_le (by omega)]
      intro h tk F N
      have e : i = xs.length := by omega
      rw [e] at hJ
      exact done m news h tk hJ F N
    | succ k ih =>
      intro i m news hi hJ
      have hlt : i < xs.length := by omega
      rw [List.drop_eq_getElem_cons hlt]
      intro v h tk hv F
      have t := turn i xs[i] m news v h tk (List.getElem?_eq_getElem hlt) hJ hv F
      have up : ∀ (ws' : List (Addr × String)) (P P' : Led → Prop), (∀ its, P its → P' its) → AllObj ws' P → AllObj ws' P' := by
        intro ws'
        induction ws' with
        | nil => intro P P' hPP hP; exact hPP _ hP
        | cons a r ih2 => intro P P' hPP hP o ho; exact ih2 _ _ (fun its => hPP _) (hP o ho)
      refine up ws _ _ (fun its q N => ?_) t
      refine wpAny_mono (q (UnrPostW h₀ env.locals { s with heap := h, toks := tk } its (fun m' n' => SubL keep n' ∧ J (i + 1) m' n') Q) (fun s₃ x => x) N) (fun _ s₂ h₂ => wpAny_mono h₂ (fun f s₃ p => ?_) fun _ _ e => e) fun _ _ e => e
      have fin : UnrEndW h₀ env.locals { s with heap := h, toks := tk } its (fun m' n' => SubL keep n' ∧ J (i + 1) m' n') s₃ →
          UnrEndW h₀ env.locals { s with heap := h, toks := tk } its (fun m' n' => SubL keep n' ∧ ItemsRest prog w A E h₀ env target body Q s ws keep (xs.drop (i + 1)) m' n') s₃ := by
        rintro ⟨h', tk', m', news', e, F', N', off, hk, hJ'⟩
        exact ⟨h', tk', m', news', e, F', N', off, hk, ih (i + 1) m' news' (by omega) hJ'⟩
      cases f with
      | ret v => exact p
      | brk => exact p
      | next => exact fin p
      | cont => exact fin p
  exact fun i m news hi hJ => all (xs.length - i) i m news (by omega) hJ

theorem allLt_at {d : Addr} {T : Led} (h : AllLt d T) : ∀ p ∈ T, p.1 < d := by
  induction T with
  | nil => intro p hp; cases hp
  | cons q r ih =>
    intro p hp
    rcases List.mem_cons.mp hp with e | hp
    · rw [e]; exact h.1
    · exact ih h.2 p hp
theorem off_lt {d : Addr} {T : Led} (h : AllLt d T) : ∀ p ∈ T, p.1 ≠ d := fun p hp => Nat.ne_of_lt (allLt_at h p hp)
/-- the end of a turn -/
theorem turn_end {h₀ : Heap} {L : Addr} {s₁ : Shared} {its : Led} {J : (Str → Option Value) → Led → Prop} {h' : Heap} {tk : Nat} {m' : Str → Option Value} {all : Led} (F : Fr h₀ L h' m') (N : News h₀ L h' all) (news' : Led)
    (h1 : ∀ p ∈ its, p ∈ all) (h2 : ∀ p ∈ news', p ∈ all) (off : ∀ p ∈ news', ∀ q ∈ its, p.1 ≠ q.1) (r : J m' news') : UnrEndW h₀ L s₁ its J { s₁ with heap := h', toks := tk } :=
  ⟨h', tk, m', news', rfl, F, fun p hp => (List.mem_append.mp hp).elim (fun h => N p (h1 p h)) fun h => N p (h2 p h), off, r⟩
theorem named {h₀ h : Heap} {L : Addr} {m : Str → Option Value} (F : Fr h₀ L h m) (l : List (Str × Value)) (hl : AllAt m l) : ∃ m0, AllAt m0 l ∧ Fr h₀ L h m0 := ⟨m, hl, F⟩
theorem same_start {fg : List Str} {l : List (Str × Value)} {m : Str → Option Value} (h : AllAt m l) : Same fg l m m := same_of h fun _ _ _ => rfl
theorem same_fr {h₀ h : Heap} {L : Addr} {fg : List Str} {l : List (Str × Value)} {m m' : Str → Option Value} (h1 : Same fg l m m') (F : Fr h₀ L h m') : Fr h₀ L h (ovr fg m' l m) := h1.eq ▸ F
theorem allAt_int {m : Str → Option Value} {x : Str} {i j : Int} {t : Tok} {l : List (Str × Value)} (h : m x = some (.int i t)) (e : i = j) (hl : AllAt m l) : AllAt m ((x, .int j t) :: l) := ⟨e ▸ h, hl⟩
theorem allAt_str {m : Str → Option Value} {x : Str} {i j : Str} {t : Tok} {l : List (Str × Value)} (h : m x = some (.str i t)) (e : i = j) (hl : AllAt m l) : AllAt m ((x, .str j t) :: l) := ⟨e ▸ h, hl⟩
theorem off_succ {d k : Addr} {T : Led} (h : ∀ p ∈ T, p.1 < d) : ∀ p ∈ T, p.1 ≠ d + k := fun p hp => Nat.ne_of_lt (Nat.lt_of_lt_of_le (h p hp) (Nat.le_add_right d k))

def TellC (w : World) (k : Nat) (f : Addr) (args : List Value) (news : Led) (Post : Value → Led → Prop) : Prop :=
  ∀ (nm : List (Str × NameKind)) (ig ic : Bool) (mr : List (Str × Const)) (gd : Option (List Code)) (cn : Str) (a : Addr) (ccd : Value) (cl : List (Str × Addr)) (outer : List Env) (A₀ : Around) (base h₀ : Heap) (L : Addr) (m : Str → Option Value) (s : Shared) (Q E : Value → Shared → Prop)
   (p : Program) (loose : List Str) (mean : ExcName → Option Value) (mg mb : Str → Option Value),
   CodeHd base 144 140 → Below A₀ base outer h₀ → Fr h₀ L s.heap m → (top0.heap_39 w.params).In h₀ → News h₀ L s.heap news → Top p loose mean mg mb h₀ →
   (∀ v news' h' tk', Fr h₀ L h' m → News h₀ L h' news' → Post v news' → Q v { s with heap := h', toks := tk' }) →
   codeAny (model pr w) (Ar k gd (envX cn (Sc nm ig ic mr) L a ccd cl) outer) (.call (.ref f) ⟨args, []⟩) (Back Q E) s
theorem TellC.use {w : World} {k : Nat} {f : Addr} {args : List Value} {news : Led} {Post : Value → Led → Prop} {A : Around} {nm : List (Str × NameKind)} {ig ic : Bool} {mr : List (Str × Const)} {cn : Str} {a : Addr} {ccd : Value} {cl : List (Str × Addr)} {outer : List Env} {A₀ : Around} {base h₀ : Heap} {L : Addr} {m : Str → Option Value} {s : Shared} {Q E : Value → Shared → Prop}
   {p : Program} {loose : List Str} {mean : ExcName → Option Value} {mg mb : Str → Option Value}
   (N : News h₀ L s.heap news) (B : Below A₀ base outer h₀) (F : Fr h₀ L s.heap m) (X : (top0.heap_39 w.params).In h₀) (T : Top p loose mean mg mb h₀) (C : CodeHd base 144 140)
   (hh : A.handled = none) (hf : A.frames = some (envX cn (Sc nm ig ic mr) L a ccd cl :: outer)) (hd : A.depth ≤ 900 - 100 * k) (hu : A.units ≤ 9000 - 1000 * k)
   (H : TellC w k f args news Post)
   (ret : ∀ v news' h' tk', Fr h₀ L h' m → News h₀ L h' news' → Post v news' → Q v { s with heap := h', toks := tk' }) :
   wpAny (model pr w) A (call (.ref f) args) Q E s :=
  wpAny_call (room_code (A := Ar k A.guards (envX cn (Sc nm ig ic mr) L a ccd cl) outer) (H nm ig ic mr A.guards cn a ccd cl outer A₀ base h₀ L m s Q E p loose mean mg mb C B F X N T ret) hh hf rfl hd hu)
def NfLt (news : Led) (nf : Obj → Led) : Prop := ∀ d o, AllLt d news → AllLt d (nf o)
theorem nfLt_of {d : Addr} {o : Obj} {news : Led} {nf : Obj → Led} (U : UpdF d o news nf) : NfLt news nf := by
  induction U with
  | head h => exact fun a o' x => ⟨x.1, x.2⟩
  | tail h _ ih => exact fun a o' x => ⟨x.1, ih a o' x.2⟩
theorem off_nf {d : Addr} {o : Obj} {news : Led} {nf : Obj → Led} (h : NfLt news nf) (x : AllLt d news) : ∀ p ∈ nf o, p.1 ≠ d := off_lt (h d o x)
theorem allLt_succ {d : Addr} {k : Nat} {T : Led} (h : ∀ p ∈ T, p.1 < d) : AllLt (d + k) T := allLt_of fun p hp => Nat.lt_of_lt_of_le (h p hp) (Nat.le_add_right d k)

theorem TellC.code {w : World} {k : Nat} {f : Addr} {args : List Value} {news : Led} {Post : Value → Led → Prop} {A : Around} {nm : List (Str × NameKind)} {ig ic : Bool} {mr : List (Str × Const)} {cn : Str} {a : Addr} {ccd : Value} {cl : List (Str × Addr)} {outer : List Env} {A₀ : Around} {base h₀ : Heap} {L : Addr} {m : Str → Option Value} {s : Shared} {Q E : Value → Shared → Prop}
   {p : Program} {loose : List Str} {mean : ExcName → Option Value} {mg mb : Str → Option Value}
   (N : News h₀ L s.heap news) (B : Below A₀ base outer h₀) (F : Fr h₀ L s.heap m) (X : (top0.heap_39 w.params).In h₀) (T : Top p loose mean mg mb h₀) (C : CodeHd base 144 140)
   (hh : A.handled = none) (hf : A.frames = some (envX cn (Sc nm ig ic mr) L a ccd cl :: outer)) (hd : A.depth ≤ 900 - 100 * k) (hu : A.units ≤ 9000 - 1000 * k)
   (H : TellC w k f args news Post)
   (ret : ∀ v news' h' tk', Fr h₀ L h' m → News h₀ L h' news' → Post v news' → Q v { s with heap := h', toks := tk' }) :
   codeAny (model pr w) A (.call (.ref f) ⟨args, []⟩) (Back Q E) s :=
  room_code (A := Ar k A.guards (envX cn (Sc nm ig ic mr) L a ccd cl) outer) (H nm ig ic mr A.guards cn a ccd cl outer A₀ base h₀ L m s Q E p loose mean mg mb C B F X N T ret) hh hf rfl hd hu
end Mine
section
local macro_rules | `(tactic| k_mem) => `(tactic| first | with_reducible assumption | (show (_ : Addr × Obj) ∈ (_ : List (Addr × Obj)); with_reducible assumption) | exact List.mem_cons_self ..)
local macro_rules | `(tactic| k_all) => `(tactic| first | exact Mine.off_succ (by assumption) | (refine Mine.off_lt ?_; first | assumption | exact allLt_of (by assumption) | ((repeat (rename _ ∧ _ => hq9; cases hq9)); assumption)) | (refine Mine.off_nf (by assumption) ?_; first | assumption | exact allLt_of (by assumption) | exact Mine.allLt_succ (by assumption) | ((repeat (rename _ ∧ _ => hq9; cases hq9)); assumption)))
section
local macro_rules | `(tactic| omega) => `(tactic| lia)
namespace Mine
open PySem.Sre in
def reCode : Array Nat := #[14, 8, 1, 2, 4294967295, 1, 1, 46, 0, 16, 46, 24, 9, 1, 4294967295, 13, 4, 8, 0, 0, 1, 6, 5, 1]
open PySem.Sre

/-- the engine stands at the start s of a try -/
def stA (text : Array Nat) (s : Nat) (b : Bool) (seen : Sre.Seen) : M :=
  { code := reCode, text := text, lim := text.size, start := s, lastStart := text.size, pc := 9, pos := s, handed := s, outermost := b, marks := #[],
    frames := [{ wait := .nextStart, pc := 9, pos := s, outermost := b }], weight := 1, seen := seen }
def endA (text : Array Nat) (s e : Nat) (ans : Bool) (m : M) : Prop :=
  m.outcome = some (if ans then .matched else .failed) ∧ (ans = true → m.start = s ∧ m.handed = e ∧ m.marks = #[] ∧ m.lastmark = -1 ∧ m.lastindex = -1)

theorem runFor_add (a b : Nat) (m : M) : M.runFor (a + b) m = M.runFor b (M.runFor a m) := by
  induction a generalizing m with
  | zero => simp [M.runFor]
  | succ a ih =>
    rw [Nat.succ_add]
    simp only [M.runFor]
    split
    · rename_i h
      cases b with
      | zero => rfl
      | succ b => simp only [M.runFor, h, if_true]
    · exact ih _

theorem start_ok (text : Array Nat) (h : 2 ≤ text.size) : ∃ seen, forSearch reCode text 0 0 text.size false = stA text 0 true seen := by
  have e : ∃ x, forSearch reCode text 0 0 text.size false = if (decide (0 > text.size) || decide (text.size - 0 < 2)) = true then x else stA text 0 true (({} : Sre.Seen).add 14) := ⟨_, rfl⟩
  obtain ⟨x, e⟩ := e
  exact ⟨_, e.trans (if_neg (by simp; omega))⟩

/-- no dot here: on to the next start -/
theorem skip_ok (text : Array Nat) (s : Nat) (b : Bool) (seen : Sre.Seen) (hs : s < text.size) (hc : text.getD s 0 ≠ 46) : ∃ seen', M.runFor 2 (stA text s b seen) = stA text (s + 1) false seen' := by
  have e1 : ∃ seen', (stA text s b seen).step = (stA text s b seen').say false := by
    have q : (stA text s b seen).step = (stA text s b seen).exec := rfl
    rw [q]
    have q2 : (stA text s b seen).exec = if s ≥ text.size then (stA text s b (seen.add 16)).say false else
      match Sre.accepts reCode 9 (text.getD s 0) (seen.add 16) with
      | .error why => (stA text s b (seen.add 16)).stick why
      | .ok (false, seen) => (stA text s b seen).say false
      | .ok (true, seen) => { stA text s b seen with pc := 9 + Sre.itemWidth reCode 9, pos := s + 1 } := rfl
    rw [q2, if_neg (by omega)]
    have q3 : Sre.accepts reCode 9 (text.getD s 0) (seen.add 16) = .ok (text.getD s 0 == 46, seen.add 16) := rfl
    rw [q3, show (text.getD s 0 == 46) = false by simpa using hc]
    exact ⟨_, rfl⟩
  obtain ⟨seen', e1⟩ := e1
  refine ⟨seen', ?_⟩
  have e0 : M.runFor 2 (stA text s b seen) = M.runFor 1 ((stA text s b seen).step) := rfl
  rw [e0, e1]
  have e2 : ∃ X, M.runFor 1 ((stA text s b seen').say false) = if s < text.size then stA text (s + 1) false seen' else X := ⟨_, rfl⟩
  obtain ⟨X, e2⟩ := e2
  rw [e2, if_pos hs]

theorem exec_lit (text : Array Nat) (s : Nat) (b : Bool) (seen : Sre.Seen) (hs : s < text.size) (hc : text.getD s 0 = 46) : (stA text s b seen).step = { stA text s b (seen.add 16) with pc := 11, pos := s + 1 } := by
  have q : (stA text s b seen).step = (stA text s b seen).exec := rfl
  rw [q]
  have q2 : (stA text s b seen).exec = if s ≥ text.size then (stA text s b (seen.add 16)).say false else
      match Sre.accepts reCode 9 (text.getD s 0) (seen.add 16) with
      | .error why => (stA text s b (seen.add 16)).stick why
      | .ok (false, seen) => (stA text s b seen).say false
      | .ok (true, seen) => { stA text s b seen with pc := 9 + Sre.itemWidth reCode 9, pos := s + 1 } := rfl
  rw [q2, if_neg (by omega)]
  have q3 : Sre.accepts reCode 9 (text.getD s 0) (seen.add 16) = .ok (text.getD s 0 == 46, seen.add 16) := rfl
  rw [q3, show (text.getD s 0 == 46) = true by simpa using hc]
  rfl

theorem item_ok (c : Nat) (seen : Sre.Seen) : ∃ s1 s2, Sre.accepts reCode 15 c seen = if (isDigit c != false) = true then .ok (true, s1) else .ok (false, s2) := ⟨_, _, rfl⟩
/-- one digit and then none: the run takes one -/
theorem run_one (text : Array Nat) (n p : Nat) (seen : Sre.Seen) (hn : 0 < n) (hd : isDigit (text.getD p 0) = true) (h2 : n = 1 ∨ isDigit (text.getD (p + 1) 0) = false) :
    ∃ s', Sre.run reCode text 15 n p 0 seen = .ok (1, s') := by
  obtain ⟨n, rfl⟩ : ∃ k, n = k + 1 := ⟨n - 1, by omega⟩
  obtain ⟨s1, s2, e⟩ := item_ok (text.getD p 0) seen
  rw [hd, if_pos (by rfl)] at e
  have q : Sre.run reCode text 15 (n + 1) p 0 seen = Sre.run reCode text 15 n (p + 1) 1 s1 := by
    show (Sre.accepts reCode 15 (text.getD p 0) seen >>= _) = _
    rw [e]; rfl
  rw [q]
  rcases h2 with h | h
  · obtain rfl : n = 0 := by omega
    exact ⟨_, rfl⟩
  · cases n with
    | zero => exact ⟨_, rfl⟩
    | succ n =>
      obtain ⟨s3, s4, e'⟩ := item_ok (text.getD (p + 1) 0) s1
      rw [h, if_neg (by decide)] at e'
      refine ⟨s4, ?_⟩
      show (Sre.accepts reCode 15 (text.getD (p + 1) 0) s1 >>= _) = _
      rw [e']; rfl

/-- behind the digits: the engine asks for the end -/
def stE (text : Array Nat) (s : Nat) (b : Bool) (seen : Sre.Seen) : M :=
  { stA text s b seen with pc := 21, pos := s + 2, handed := s + 2, weight := 2, frames := [{ wait := .giveBack, pc := 11, pos := s + 2, outermost := b, count := 1, kept := { lastmark := -1, lastindex := -1, whole := false, marks := #[] } }, { wait := .nextStart, pc := 9, pos := s, outermost := b }] }
theorem rep_ok (text : Array Nat) (s : Nat) (b : Bool) (seen : Sre.Seen) (hs : s + 1 < text.size) (hd : isDigit (text.getD (s + 1) 0) = true) (h2 : s + 2 = text.size ∨ isDigit (text.getD (s + 2) 0) = false) :
    ∃ seen', M.step { stA text s b seen with pc := 11, pos := s + 1 } = stE text s b seen' := by
  have q : ∃ (X : M) (Y : String → M), M.step { stA text s b seen with pc := 11, pos := s + 1 } = if (1 : Int) > (text.size : Int) - ((s + 1 : Nat) : Int) then X else
      match Sre.run reCode text 15 (min 4294967295 ((text.size : Int) - ((s + 1 : Nat) : Int)).toNat) (s + 1) 0 ((seen.add 24).add 13) with
      | .error why => Y why
      | .ok (n, seen') => if n < 1 then M.say { stA text s b seen' with pc := 11, pos := s + 1 } false else
          M.afterRun { stA text s b seen' with pc := 11, pos := s + 1 + n } .giveBack n { lastmark := -1, lastindex := -1, whole := false, marks := #[] } := ⟨_, _, rfl⟩
  obtain ⟨X, Y, q⟩ := q
  rw [q, if_neg (by omega)]
  obtain ⟨s', e⟩ := run_one text (min 4294967295 ((text.size : Int) - ((s + 1 : Nat) : Int)).toNat) (s + 1) ((seen.add 24).add 13) (by omega) hd (by rcases h2 with h | h; exact .inl (by omega); exact .inr h)
  rw [e]
  exact ⟨s', rfl⟩
theorem notEnd_ok (text : Array Nat) (s : Nat) (b : Bool) (seen : Sre.Seen) (hs : s < text.size) (h : (decide (s + 2 = text.size) || (decide (s + 2 + 1 = text.size) && (text.getD (s + 2) 0 == 10))) = false) : ∃ seen', M.runFor 3 (stE text s b seen) = stA text (s + 1) false seen' := by
  have q : ∃ s1 s2, (stE text s b seen).step = if (((s + 2) == text.size) || (((s + 2 + 1) == text.size) && (text.getD (s + 2) 0 == 10))) = true then { stE text s b s1 with pc := 23 } else (stE text s b s2).say false := ⟨_, _, rfl⟩
  obtain ⟨s1, s2, q⟩ := q
  have h' : (((s + 2) == text.size) || (((s + 2 + 1) == text.size) && (text.getD (s + 2) 0 == 10))) = false := by rw [← h]; rfl
  rw [h', if_neg Bool.false_ne_true] at q
  have e0 : M.runFor 3 (stE text s b seen) = M.runFor 2 ((stE text s b seen).step) := rfl
  rw [e0, q]
  have e2 : ((stE text s b s2).say false).step = M.say { stA text s b s2 with pc := 11, pos := s + 2, handed := s + 2 } false := rfl
  have e3 : M.runFor 2 ((stE text s b s2).say false) = M.runFor 1 (((stE text s b s2).say false).step) := rfl
  have e1 : ∃ X, M.runFor 1 (M.say { stA text s b s2 with pc := 11, pos := s + 2, handed := s + 2 } false) = if s < text.size then stA text (s + 1) false s2 else X := ⟨_, rfl⟩
  rw [e3, e2]
  obtain ⟨X, e1⟩ := e1
  rw [e1, if_pos hs]
  exact ⟨_, rfl⟩
theorem isEnd_ok (text : Array Nat) (s : Nat) (b : Bool) (seen : Sre.Seen) (h : (decide (s + 2 = text.size) || (decide (s + 2 + 1 = text.size) && (text.getD (s + 2) 0 == 10))) = true) : endA text s (s + 2) true (M.runFor 5 (stE text s b seen)) := by
  have q : ∃ s1 s2, (stE text s b seen).step = if (((s + 2) == text.size) || (((s + 2 + 1) == text.size) && (text.getD (s + 2) 0 == 10))) = true then { stE text s b s1 with pc := 23 } else (stE text s b s2).say false := ⟨_, _, rfl⟩
  obtain ⟨s1, s2, q⟩ := q
  have h' : (((s + 2) == text.size) || (((s + 2 + 1) == text.size) && (text.getD (s + 2) 0 == 10))) = true := by rw [← h]; rfl
  rw [h', if_pos rfl] at q
  have e0 : M.runFor 5 (stE text s b seen) = M.runFor 4 ((stE text s b seen).step) := rfl
  rw [e0, q]
  cases b <;> exact ⟨rfl, fun _ => ⟨rfl, rfl, rfl, rfl, rfl⟩⟩
end Mine
namespace Mine
open PySem.Sre
def atEnd (text : Array Nat) (p : Nat) : Bool := decide (p = text.size) || (decide (p + 1 = text.size) && (text.getD p 0 == 10))
/-- no match begins at s -/
def NoAt (text : Array Nat) (s : Nat) : Prop :=
  text.getD s 0 ≠ 46 ∨ (text.getD s 0 = 46 ∧ s + 1 < text.size ∧ isDigit (text.getD (s + 1) 0) = true ∧ isDigit (text.getD (s + 2) 0) = false ∧ atEnd text (s + 2) = false)
def YesAt (text : Array Nat) (s : Nat) : Prop :=
  text.getD s 0 = 46 ∧ s + 1 < text.size ∧ isDigit (text.getD (s + 1) 0) = true ∧ (s + 2 = text.size ∨ isDigit (text.getD (s + 2) 0) = false) ∧ atEnd text (s + 2) = true
/-- what the search comes to -/
def SreIs (text : Array Nat) (r : Option (Nat × Nat)) : Prop := ∃ k, k ≤ 5 * text.size + 10 ∧
  match r with
  | none => (M.runFor k (forSearch reCode text 0 0 text.size false)).outcome = some .failed
  | some (s, e) => endA text s e true (M.runFor k (forSearch reCode text 0 0 text.size false))

theorem one_ok (text : Array Nat) (s : Nat) (b : Bool) (seen : Sre.Seen) (hs : s < text.size) (h : NoAt text s) : ∃ k seen', k ≤ 5 ∧ M.runFor k (stA text s b seen) = stA text (s + 1) false seen' := by
  rcases h with h | ⟨h1, h2, h3, h4, h5⟩
  · obtain ⟨seen', e⟩ := skip_ok text s b seen hs h
    exact ⟨2, seen', by omega, e⟩
  · obtain ⟨s1, e1⟩ := rep_ok text s b (seen.add 16) h2 h3 (.inr h4)
    obtain ⟨s2, e2⟩ := notEnd_ok text s b s1 hs h5
    refine ⟨5, s2, by omega, ?_⟩
    have q : M.runFor 5 (stA text s b seen) = M.runFor 4 ((stA text s b seen).step) := rfl
    have q' : M.runFor 4 { stA text s b (seen.add 16) with pc := 11, pos := s + 1 } = M.runFor 3 (M.step { stA text s b (seen.add 16) with pc := 11, pos := s + 1 }) := rfl
    rw [q, exec_lit text s b seen hs h1, q', e1, e2]
theorem reach_ok (text : Array Nat) (seen : Sre.Seen) : ∀ j, j ≤ text.size → (∀ s, s < j → NoAt text s) → ∃ k b seen', k ≤ 5 * j ∧ M.runFor k (stA text 0 true seen) = stA text j b seen'
  | 0, _, _ => ⟨0, true, seen, by omega, rfl⟩
  | j + 1, hj, h => by
    obtain ⟨k, b, s1, hk, e⟩ := reach_ok text seen j (by omega) fun s hs => h s (by omega)
    obtain ⟨k', s2, hk', e'⟩ := one_ok text j b s1 (by omega) (h j (by omega))
    exact ⟨k + k', false, s2, by omega, by rw [runFor_add, e, e']⟩
theorem sre_none (text : Array Nat) (h2 : 2 ≤ text.size) (h : ∀ s, s < text.size → NoAt text s) : SreIs text none := by
  obtain ⟨seen, e0⟩ := start_ok text h2
  obtain ⟨k, b, s1, hk, e⟩ := reach_ok text seen text.size (Nat.le_refl _) h
  refine ⟨k + 3, by omega, ?_⟩
  show (M.runFor (k + 3) (forSearch reCode text 0 0 text.size false)).outcome = some .failed
  rw [e0, runFor_add, e]
  have q : ∃ X, (stA text text.size b s1).step = if text.size ≥ text.size then (stA text text.size b (s1.add 16)).say false else X := ⟨_, rfl⟩
  obtain ⟨X, q⟩ := q
  rw [if_pos (Nat.le_refl _)] at q
  have q1 : M.runFor 3 (stA text text.size b s1) = M.runFor 2 ((stA text text.size b s1).step) := rfl
  rw [q1, q]
  have q2 : ∃ X, M.runFor 2 ((stA text text.size b (s1.add 16)).say false) = M.runFor 1 (if text.size < text.size then X else M.say { stA text text.size b (s1.add 16) with frames := [], weight := 0 } false) := ⟨_, rfl⟩
  obtain ⟨X2, q2⟩ := q2
  rw [q2, if_neg (Nat.lt_irrefl _)]
  rfl
theorem sre_some (text : Array Nat) (s0 : Nat) (h2 : 2 ≤ text.size) (h : ∀ s, s < s0 → NoAt text s) (y : YesAt text s0) : SreIs text (some (s0, s0 + 2)) := by
  obtain ⟨seen, e0⟩ := start_ok text h2
  obtain ⟨y1, y2, y3, y4, y5⟩ := y
  obtain ⟨k, b, s1, hk, e⟩ := reach_ok text seen s0 (by omega) h
  obtain ⟨s2, e2⟩ := rep_ok text s0 b (s1.add 16) y2 y3 y4
  refine ⟨k + 7, by omega, ?_⟩
  show endA text s0 (s0 + 2) true (M.runFor (k + 7) (forSearch reCode text 0 0 text.size false))
  rw [e0, runFor_add, e]
  have q : M.runFor 7 (stA text s0 b s1) = M.runFor 6 ((stA text s0 b s1).step) := rfl
  have q' : M.runFor 6 { stA text s0 b (s1.add 16) with pc := 11, pos := s0 + 1 } = M.runFor 5 (M.step { stA text s0 b (s1.add 16) with pc := 11, pos := s0 + 1 }) := rfl
  rw [q, exec_lit text s0 b s1 (by omega) y1, q', e2]
  exact isEnd_ok text s0 b s2 y5
theorem runFor_done : ∀ (n : Nat) (m : M), m.outcome.isSome = true → M.runFor n m = m
  | 0, _, _ => rfl
  | n + 1, m, h => by simp only [M.runFor, h, if_true]

section
variable {M' : PySem.Model} {A : Around} {E : Value → Shared → Prop} {s : Shared}
open Builtin.Re in
theorem drive_ok {Q : Sre.M → Shared → Prop} : ∀ (turns : Nat) (m : Sre.M) (k : Nat), k ≤ 4 * turns → 0 < turns → (Sre.M.runFor k m).outcome.isSome = true → Q (Sre.M.runFor k m) s → wpAny M' A (reDrive turns m) Q E s
  | 0, _, _, _, h, _, _ => absurd h (Nat.lt_irrefl _)
  | turns + 1, m, k, hk, _, ho, hQ => by
    show wpAny M' A (if (Sre.M.runFor 4 m).outcome.isSome then pure (Sre.M.runFor 4 m) else do rule "sre.turn"; reDrive turns (Sre.M.runFor 4 m)) Q E s
    by_cases h4 : (Sre.M.runFor 4 m).outcome.isSome = true
    · have e : Sre.M.runFor k m = Sre.M.runFor 4 m := by
        rcases Nat.le_total k 4 with h | h
        · obtain ⟨d, e⟩ : ∃ d, 4 = k + d := ⟨4 - k, by omega⟩
          rw [e, runFor_add, runFor_done d _ ho]
        · obtain ⟨d, rfl⟩ : ∃ d, k = 4 + d := ⟨k - 4, by omega⟩
          rw [runFor_add, runFor_done d _ h4]
      rw [if_pos h4]
      exact wpAny_pure (e ▸ hQ)
    · rw [if_neg h4]
      have hk4 : 4 < k := by
        rcases Nat.lt_or_ge 4 k with h | h
        · exact h
        · obtain ⟨d, e⟩ : ∃ d, 4 = k + d := ⟨4 - k, by omega⟩
          rw [e, runFor_add, runFor_done d _ ho] at h4; exact absurd ho h4
      obtain ⟨d, rfl⟩ : ∃ d, k = 4 + d := ⟨k - 4, by omega⟩
      rw [runFor_add] at ho hQ
      refine wpAny_bind (wpAny_rule (drive_ok turns _ d (by omega) (by omega) ho hQ))
theorem rules_ok {l : List Nat} {f : Nat → PUnit → Sem (ForInStep PUnit)} {Q : PUnit → Shared → Prop} (hf : ∀ i r (Q : ForInStep PUnit → Shared → Prop), Q (.yield ⟨⟩) s → wpAny M' A (f i r) Q E s) (h : Q ⟨⟩ s) : wpAny M' A (forIn l PUnit.unit f) Q E s := by
  induction l with
  | nil => exact wpAny_pure h
  | cons a r ih =>
    rw [List.forIn_cons]
    exact wpAny_bind (hf _ _ _ ih)
open Builtin.Re in
theorem runToEnd_none {text : Array Nat} {Q : Option Sre.M → Shared → Prop} (h : SreIs text none) (hsz : text.size ≤ 1000000) (hQ : Q none s) : wpAny M' A (reRunToEnd (forSearch reCode text 0 0 text.size false)) Q E s := by
  obtain ⟨k, hk, ho⟩ := h
  have ho' : (M.runFor k (forSearch reCode text 0 0 text.size false)).outcome = some .failed := ho
  unfold reRunToEnd
  refine wpAny_bind (drive_ok (2 ^ 64) _ k (by omega) (by decide) (by rw [ho']; rfl) ?_)
  refine wpAny_bind (rules_ok (fun i r Q hq => ?_) ?_)
  · split
    · exact wpAny_bind (wpAny_rule (wpAny_pure hq))
    · exact wpAny_pure hq
  rw [ho']
  exact wpAny_pure hQ
open Builtin.Re in
theorem runToEnd_some {text : Array Nat} {a b : Nat} {Q : Option Sre.M → Shared → Prop} (h : SreIs text (some (a, b))) (hsz : text.size ≤ 1000000)
    (hQ : ∀ m : Sre.M, m.start = a → m.handed = b → m.marks = #[] → m.lastmark = -1 → m.lastindex = -1 → Q (some m) s) : wpAny M' A (reRunToEnd (forSearch reCode text 0 0 text.size false)) Q E s := by
  obtain ⟨k, hk, ho⟩ := h
  have ho' : endA text a b true (M.runFor k (forSearch reCode text 0 0 text.size false)) := ho
  obtain ⟨h1, h2⟩ := ho'
  obtain ⟨q1, q2, q3, q4, q5⟩ := h2 rfl
  unfold reRunToEnd
  refine wpAny_bind (drive_ok (2 ^ 64) _ k (by omega) (by decide) (by rw [h1]; rfl) ?_)
  refine wpAny_bind (rules_ok (fun i r Q hq => ?_) ?_)
  · split
    · exact wpAny_bind (wpAny_rule (wpAny_pure hq))
    · exact wpAny_pure hq
  rw [h1]
  exact wpAny_pure (hQ _ q1 q2 q3 q4 q5)
end
end Mine
namespace Mine
/-- plain: a value put into a sorted row -/
def insI (ns : List Int) (x : Int) : List Int := ns.take (ns.countP (· < x)) ++ x :: ns.drop (ns.countP (· < x))
theorem insI_length (ns : List Int) (x : Int) : (insI ns x).length = ns.length + 1 := by
  have h : ns.countP (· < x) ≤ ns.length := List.countP_le_length
  simp [insI]; omega
theorem srt_iff {ns : List Int} : Srt ns ↔ ns.Pairwise (· ≤ ·) := by
  rw [List.pairwise_iff_getElem]
  constructor
  · intro h i j hi hj hij
    have := h i j (Nat.le_of_lt hij) hj
    simpa [List.getD_eq_getElem?_getD, hi, hj] using this
  · intro h i j hij hj
    have hi : i < ns.length := Nat.lt_of_le_of_lt hij hj
    rcases Nat.lt_or_ge i j with q | q
    · have := h i j hi hj q
      simpa [List.getD_eq_getElem?_getD, hi, hj] using this
    · have : i = j := by omega
      subst this; exact Int.le_refl _
theorem insI_nil (x : Int) : insI [] x = [x] := by simp [insI]
theorem insI_cons (n : Int) (r : List Int) (x : Int) (hs : (n :: r).Pairwise (· ≤ ·)) : insI (n :: r) x = if n < x then n :: insI r x else x :: n :: r := by
  unfold insI
  by_cases h : n < x
  · rw [if_pos h, List.countP_cons_of_pos (by simpa using h)]; simp
  · rw [if_neg h]
    have hz : (n :: r).countP (· < x) = 0 := by
      rw [List.countP_eq_zero]
      intro a ha
      rcases List.mem_cons.mp ha with e | ha
      · subst e; simpa using h
      · have := (List.pairwise_cons.mp hs).1 a ha
        simp; omega
    rw [hz]; simp
theorem insI_mem (ns : List Int) (x a : Int) (h : a ∈ insI ns x) : a = x ∨ a ∈ ns := by
  unfold insI at h
  rcases List.mem_append.mp h with h | h
  · exact .inr (List.mem_of_mem_take h)
  · rcases List.mem_cons.mp h with h | h
    · exact .inl h
    · exact .inr (List.mem_of_mem_drop h)
theorem insI_srt : ∀ (ns : List Int) (x : Int), ns.Pairwise (· ≤ ·) → (insI ns x).Pairwise (· ≤ ·)
  | [], x, _ => by rw [insI_nil]; exact List.pairwise_singleton _ _
  | n :: r, x, hs => by
    have ih := insI_srt r x (List.pairwise_cons.mp hs).2
    rw [insI_cons n r x hs]
    split
    · rename_i h
      refine List.pairwise_cons.mpr ⟨fun a ha => ?_, ih⟩
      rcases insI_mem r x a ha with e | ha
      · omega
      · exact (List.pairwise_cons.mp hs).1 a ha
    · rename_i h
      refine List.pairwise_cons.mpr ⟨fun a ha => ?_, hs⟩
      rcases List.mem_cons.mp ha with e | ha
      · omega
      · have := (List.pairwise_cons.mp hs).1 a ha; omega
/-- a stay: came, gone, name -/
abbrev Stay := Int × Int × Str
structure PQ where
  held : Int
  crossed : Int
  com : List Int
  goi : List Int
def pairStep (q : PQ) (x : Stay) : PQ :=
  { held := q.held + ((q.com.length : Int) - (q.com.countP (· ≤ x.1) : Nat)), crossed := q.crossed + ((q.com.countP (· < x.1) : Nat) - (q.goi.countP (· < x.1) : Nat) : Int),
    com := insI q.com x.1, goi := q.goi ++ [x.2.1] }
def pairsOf (ss : List Stay) : PQ := ss.foldl pairStep ⟨0, 0, [], []⟩
theorem pairsOf_take (ss : List Stay) (i : Nat) (x : Stay) (h : ss[i]? = some x) : pairsOf (ss.take (i + 1)) = pairStep (pairsOf (ss.take i)) x := by
  unfold pairsOf
  rw [List.take_add_one, h]; simp
theorem pairsOf_com : ∀ (ss : List Stay) (q : PQ), q.com.Pairwise (· ≤ ·) → (ss.foldl pairStep q).com.Pairwise (· ≤ ·)
  | [], _, h => h
  | x :: r, q, h => pairsOf_com r _ (insI_srt _ _ h)
theorem pairsOf_len : ∀ (ss : List Stay) (q : PQ), (ss.foldl pairStep q).com.length = q.com.length + ss.length ∧ (ss.foldl pairStep q).goi = q.goi ++ ss.map (·.2.1)
  | [], q => by simp
  | x :: r, q => by
    have h := pairsOf_len r (pairStep q x)
    simp only [List.foldl_cons, List.length_cons, List.map_cons]
    rw [h.1, h.2]
    simp [pairStep, insI_length]; omega
theorem pairsOf_goi (ss : List Stay) : (pairsOf ss).goi = ss.map (·.2.1) := by have := (pairsOf_len ss ⟨0, 0, [], []⟩).2; simpa [pairsOf] using this
theorem pairsOf_clen (ss : List Stay) : (pairsOf ss).com.length = ss.length := by have := (pairsOf_len ss ⟨0, 0, [], []⟩).1; simpa [pairsOf] using this

abbrev tupO (vs : List Value) : Obj := { cls := .type "tuple", data := .seq vs.toArray }
def StaysAre (news : Led) (vs : List Value) (ss : List Stay) : Prop :=
  vs.length = ss.length ∧ ∀ (i : Nat) (x : Stay), ss[i]? = some x → ∃ (p : Addr) (t1 t2 t3 : Tok), vs[i]? = some (Value.ref p) ∧ (p, tupO [.int x.1 t1, .int x.2.1 t2, .str x.2.2 t3]) ∈ news
end Mine
namespace Mine
open Builtin Builtin.Re
theorem plainAttrs_pat : PlainAttrs "re.Pattern" := ⟨⟨"object.__getattribute__", by rw [typeLookup_type, builtinLookup_eq_fast]; kernel_rfl, by decide +kernel⟩, by rw [typeLookup_type, builtinLookup_eq_fast]; kernel_rfl⟩
theorem plainAttrs_mat : PlainAttrs "re.Match" := ⟨⟨"object.__getattribute__", by rw [typeLookup_type, builtinLookup_eq_fast]; kernel_rfl, by decide +kernel⟩, by rw [typeLookup_type, builtinLookup_eq_fast]; kernel_rfl⟩
theorem slot_search : Slot "re.Pattern" "search" "re.Pattern.search" :=
  .of (owner := "re.Pattern") (n := "search") (by rw [typeLookup_type, builtinLookup_eq_fast]; kernel_rfl) (by decide +kernel) (by decide +kernel) (by decide +kernel)
    (by first | exact .inl (by decide +kernel) | exact .inr (by decide +kernel)) (by rw [isSubtype_type]; kernel_rfl)
theorem type_search : typeOf (.builtin "re.Pattern.search") = pure (.type "method_descriptor") := by show builtinType _ = _; rw [builtinType_eq_fast]; kernel_rfl
theorem entry_search : entryFor table "re.Pattern.search" = some Builtin.«re.Pattern.search» := entryFor_of_tree (by kernel_rfl)
theorem args_search (a b : Value) : argsOk "re.Pattern.search" ⟨[a, b], []⟩ := by unfold argsOk; kernel_rfl
theorem slot_span : Slot "re.Match" "span" "re.Match.span" :=
  .of (owner := "re.Match") (n := "span") (by rw [typeLookup_type, builtinLookup_eq_fast]; kernel_rfl) (by decide +kernel) (by decide +kernel) (by decide +kernel)
    (by first | exact .inl (by decide +kernel) | exact .inr (by decide +kernel)) (by rw [isSubtype_type]; kernel_rfl)
theorem type_span : typeOf (.builtin "re.Match.span") = pure (.type "method_descriptor") := by show builtinType _ = _; rw [builtinType_eq_fast]; kernel_rfl
theorem entry_span : entryFor table "re.Match.span" = some Builtin.«re.Match.span» := entryFor_of_tree (by kernel_rfl)
theorem args_span (a b : Value) : argsOk "re.Match.span" ⟨[a, b], []⟩ := by unfold argsOk; kernel_rfl

section
variable {w : World} {A : Around} {E : Value → Shared → Prop} {s : Shared} {h₀ : Heap} {L : Addr} {m : Str → Option Value} {news : Led}
theorem target_ok {h : Heap} (X : (top0.heap_39 w.params).In h) (x : Str) (t : Tok) :
    Looks (model pr w) h (reTarget "re.Pattern.search" "search" ⟨[.ref 43, .str x t], []⟩) { pattern := .ref 43, string := .str x t, code := reCode, text := x.cps, kind := 0, groups := 0, pos := min 0 x.cps.size, lim := min (2 ^ 63 - 1) x.cps.size } :=
  Looks.of_peek X (by kernel_rfl)

abbrev matO (x : Str) (t : Tok) (n : Nat) (tp : Addr) : Obj := { cls := .type "re.Match", data := .fields #[.str x t, .ref 43, .int 0 0, .int n 0, .int (-1) 0, .ref tp] }
theorem pat_at {h : Heap} (X : (top0.heap_39 w.params).In h) : ∃ o, h.get? 43 = some o ∧ o.cls = .type "re.Pattern" ∧ o.dict = none :=
  ⟨{ cls := .type "re.Pattern", data := .fields #[.str "\\.\\d+$" 294, .int 256 321, .int 0 0, .none, .none, .ref 42, .int 0 0] }, X 43 _ (by kernel_rfl), rfl, rfl⟩
theorem getMethod_search {pl : Sem Bool} {Q : Value × List Value → Shared → Prop} (F : Fr h₀ L s.heap m) (X : (top0.heap_39 w.params).In h₀) (h : Q (.builtin "re.Pattern.search", [.ref 43]) s) :
    wpAny (model pr w) A (getMethod (.ref 43) "search" pl) Q E s := by
  obtain ⟨o, ho, hc, hd⟩ := pat_at (X.keeps F.keep)
  exact getMethod_builtin ⟨o, ho, hc⟩ plainAttrs_pat slot_search type_search (fun a e => by cases e; exact ⟨o, ho, hd⟩) h
theorem search_none {x : Str} {t : Tok} {Q : Value → Shared → Prop} (F : Fr h₀ L s.heap m) (X : (top0.heap_39 w.params).In h₀) (hr : SreIs x.cps none) (hsz : x.cps.size ≤ 1000000) (h : Q .none s) :
    wpAny (model pr w) A (call (.builtin "re.Pattern.search") [.ref 43, .str x t]) Q E s := by
  have X' := X.keeps F.keep
  obtain ⟨o, ho, hc, hd⟩ := pat_at X'
  refine wpAny_call (codeAny_call_builtin slot_search.plain entry_search (slot_search.check _ _ _ _ _ _ _ _ ⟨o, ho, hc⟩ (args_search _ _) ?_))
  unfold Builtin.«re.Pattern.search»
  refine wpAny_bind ((target_ok X' x t).here ?_)
  dsimp only
  rw [Nat.zero_min, show min (2 ^ 63 - 1) x.cps.size = x.cps.size by omega]
  unfold reAnswer
  exact wpAny_bind (runToEnd_none hr hsz (wpAny_pure h))
theorem search_some {x : Str} {t : Tok} {a b : Nat} {Q : Value → Shared → Prop} (F : Fr h₀ L s.heap m) (N : News h₀ L s.heap news) (X : (top0.heap_39 w.params).In h₀) (hr : SreIs x.cps (some (a, b))) (hsz : x.cps.size ≤ 1000000)
    (h : ∀ tp mo h', Fr h₀ L h' m → News h₀ L h' ((mo, matO x t x.cps.size tp) :: (tp, tupO [.int a 0, .int b 0]) :: news) → (∀ p ∈ news, p.1 < tp) → tp < mo → Q (.ref mo) { s with heap := h' }) :
    wpAny (model pr w) A (call (.builtin "re.Pattern.search") [.ref 43, .str x t]) Q E s := by
  have X' := X.keeps F.keep
  obtain ⟨o, ho, hc, hd⟩ := pat_at X'
  refine wpAny_call (codeAny_call_builtin slot_search.plain entry_search (slot_search.check _ _ _ _ _ _ _ _ ⟨o, ho, hc⟩ (args_search _ _) ?_))
  unfold Builtin.«re.Pattern.search»
  refine wpAny_bind ((target_ok X' x t).here ?_)
  dsimp only
  rw [Nat.zero_min, show min (2 ^ 63 - 1) x.cps.size = x.cps.size by omega]
  unfold reAnswer
  refine wpAny_bind (runToEnd_some hr hsz fun mm q1 q2 q3 q4 q5 => ?_)
  dsimp only
  refine wpAny_bind ?_
  unfold reNewMatch
  simp only [List.range_zero, List.flatMap_nil, List.any_nil, Bool.false_eq_true, if_false, q1, q2, q5]
  refine wpAny_bind (newTuple_N F N fun h1 F1 N1 => ?_)
  unfold newFields
  have e1 := F1.push (matO x t x.cps.size s.heap.objs.size)
  have e2 := News.push F1 N1 (matO x t x.cps.size s.heap.objs.size)
  refine wpAny_newObj_type (wpAny_pure ?_)
  exact h s.heap.objs.size h1.objs.size _ e1 e2 (fun p hp => Heap.lt_size (N p hp).1) (Heap.lt_size (N1 _ (.head _)).1)
theorem truthy_mat {x : Str} {t : Tok} {n : Nat} {tp mo : Addr} {Q : Bool → Shared → Prop} (N : News h₀ L s.heap news) (hm : (mo, matO x t n tp) ∈ news) (h : Q true s) : wpAny (model pr w) A (truthy (.ref mo)) Q E s := by
  have hT : s.TypeIs (.ref mo) "re.Match" := ⟨_, (N _ hm).1, rfl⟩
  unfold truthy
  refine wpAny_bind (m := callSpecial? (.ref mo) (Str.ofString "__bool__")) (wpAny_bind (wpAny_specialOf (r := none) hT (by rw [typeLookup_type, builtinLookup_eq_fast]; kernel_rfl) (wpAny_pure ?_)))
  refine wpAny_bind (wpAny_specialOf (r := none) hT (by rw [typeLookup_type, builtinLookup_eq_fast]; kernel_rfl) ?_)
  exact wpAny_pure h
end
end Mine
namespace Mine
open Builtin Builtin.Re
section
variable {w : World} {A : Around} {E : Value → Shared → Prop} {s : Shared} {h₀ : Heap} {L : Addr} {m : Str → Option Value} {news : Led}
theorem found_ok {x : Str} {t : Tok} {n : Nat} {tp mo : Addr} {a b : Nat} {Q : ReFound → Shared → Prop} (h1 : s.heap.get? mo = some (matO x t n tp)) (h2 : s.heap.get? tp = some (tupO [.int a 0, .int b 0]))
    (h : Q { fields := #[.str x t, .ref 43, .int 0 0, .int n 0, .int (-1) 0, .ref tp], spans := #[(a : Int), (b : Int)] } s) : wpAny (model pr w) A (reFound (.ref mo)) Q E s := by
  unfold reFound
  refine wpAny_bind (wpAny_fieldsOf h1 rfl ?_)
  refine wpAny_bind ?_
  show wpAny (model pr w) A (reRawItems (.ref tp)) _ E s
  unfold reRawItems seqItems?
  refine wpAny_bind (wpAny_bind (wpAny_load h2 (wpAny_pure ?_)))
  refine wpAny_pure (wpAny_pure ?_)
  have e : Array.map reRawOf ((some (List.toArray [Value.int a 0, Value.int b 0])).getD #[]) = #[(a : Int), (b : Int)] := by simp [reRawOf]
  rw [e]
  exact h
theorem span_ok {x : Str} {t t0 : Tok} {n : Nat} {tp mo : Addr} {a b : Nat} {Q : Value → Shared → Prop} (F : Fr h₀ L s.heap m) (N : News h₀ L s.heap news) (hm : (mo, matO x t n tp) ∈ news) (ht : (tp, tupO [.int a 0, .int b 0]) ∈ news)
    (h : ∀ r t1 t2 h' tk', Fr h₀ L h' m → News h₀ L h' ((r, tupO [.int a t1, .int b t2]) :: news) → (∀ p ∈ news, p.1 < r) → Q (.ref r) { s with heap := h', toks := tk' }) :
    wpAny (model pr w) A (call (.builtin "re.Match.span") [.ref mo, .int 0 t0]) Q E s := by
  have h1 := (N _ hm).1
  have h2 := (N _ ht).1
  refine wpAny_call (codeAny_call_builtin slot_span.plain entry_span (slot_span.check _ _ _ _ _ _ _ _ ⟨_, h1, rfl⟩ (args_span _ _) ?_))
  unfold Builtin.«re.Match.span» reOneGroup
  have e1 : selfAndSome "Match.span" "span" 0 1 ⟨[.ref mo, .int 0 t0], []⟩ = pure (.ref mo, [.int 0 t0]) := by kernel_rfl
  rw [e1]
  refine wpAny_bind (wpAny_bind (wpAny_pure ?_))
  dsimp only
  refine wpAny_bind (found_ok h1 h2 ?_)
  refine wpAny_bind ?_
  have e2 : reGroupNumber { fields := #[.str x t, .ref 43, .int 0 0, .int n 0, .int (-1) 0, .ref tp], spans := #[(a : Int), (b : Int)] } (.int 0 t0) = pure 0 := by
    rfl
  rw [e2]
  refine wpAny_pure (wpAny_pure ?_)
  dsimp only
  refine wpAny_bind (wpAny_bind ?_)
  refine wpAny_fresh (wpAny_pure ?_)
  refine wpAny_bind (wpAny_bind (wpAny_fresh (wpAny_pure ?_)))
  refine wpAny_bind (newTuple_N F N fun h' F' N' => ?_)
  refine wpAny_pure ?_
  exact h s.heap.objs.size s.toks (s.toks + 1) h' _ F' N' fun p hp => Heap.lt_size (N p hp).1
end
end Mine
namespace Mine
open Builtin Builtin.ObjectAttr Builtin.Getset_descriptor
theorem slot_ga : Slot "re.Match" "__getattribute__" "object.__getattribute__" :=
  .of (owner := "object") (n := "__getattribute__") (by rw [typeLookup_type, builtinLookup_eq_fast]; kernel_rfl) (by decide +kernel) (by decide +kernel) (by decide +kernel)
    (by first | exact .inl (by decide +kernel) | exact .inr (by decide +kernel)) (by rw [isSubtype_type]; kernel_rfl)
theorem entry_ga : entryFor table "object.__getattribute__" = some Builtin.«object.__getattribute__» := entryFor_of_tree (by kernel_rfl)
theorem args_ga (a b : Value) : argsOk "object.__getattribute__" ⟨[a, b], []⟩ := by unfold argsOk; kernel_rfl
theorem entry_string : entryFor table "re.Match.string" = some Builtin.«re.Match.string» := entryFor_of_tree (by kernel_rfl)
theorem slot_mg : Slot "member_descriptor" "__get__" "member_descriptor.__get__" :=
  .of (owner := "member_descriptor") (n := "__get__") (by rw [typeLookup_type, builtinLookup_eq_fast]; kernel_rfl) (by decide +kernel) (by decide +kernel) (by decide +kernel)
    (by first | exact .inl (by decide +kernel) | exact .inr (by decide +kernel)) (by rw [isSubtype_type]; kernel_rfl)
theorem entry_mg : entryFor table "member_descriptor.__get__" = some Builtin.«member_descriptor.__get__» := entryFor_of_tree (by kernel_rfl)
theorem args_mg (a b c : Value) : argsOk "member_descriptor.__get__" ⟨[a, b, c], []⟩ := by unfold argsOk; kernel_rfl
theorem type_string : typeOf (.builtin "re.Match.string") = pure (.type "member_descriptor") := by show builtinType _ = _; rw [builtinType_eq_fast]; kernel_rfl
section
variable {w : World} {A : Around} {E : Value → Shared → Prop} {s : Shared} {h₀ : Heap} {L : Addr} {m : Str → Option Value} {news : Led}
theorem string_ok {x : Str} {t : Tok} {n : Nat} {tp mo : Addr} {ex : Bool} {Q : Value → Shared → Prop} (F : Fr h₀ L s.heap m) (N : News h₀ L s.heap news) (hm : (mo, matO x t n tp) ∈ news)
    (h : Q (.str x t) { s with toks := s.toks + 1 }) :
    wpAny (model pr w) A (getAttr (.ref mo) "string" ex) Q E s := by
  have h1 := (N _ hm).1
  have hT : ∀ tk, ({ s with toks := tk } : Shared).TypeIs (.ref mo) "re.Match" := fun _ => ⟨_, h1, rfl⟩
  have f1 := slot_ga.lookup
  have f2 := slot_ga.bind (.ref mo)
  have f3 : typeLookup (.type "re.Match") "__getattr__" = pure none := by rw [typeLookup_type, builtinLookup_eq_fast]; kernel_rfl
  unfold getAttr getAttrBy
  repeat (any_goals (first | assumption | exact hT _ | wp_step))
  rw [if_neg (by simp [onTheHeap])]
  unfold boundAndCalled
  rw [f2]
  refine wpAny_bind (wpAny_pure (wpAny_call ?_))
  refine codeAny_call_builtin slot_ga.plain entry_ga (slot_ga.check _ _ _ _ _ _ _ _ (hT _) (args_ga _ _) ?_)
  unfold Builtin.«object.__getattribute__»
  have e1 : ∀ u, slotArgs "__getattribute__" 1 ⟨[.ref mo, .str "string" u], []⟩ = pure (.ref mo, [.str "string" u]) := fun u => by kernel_rfl
  have e2 : ∀ u, attrName (.str "string" u) = pure (Str.ofString "string") := fun u => by kernel_rfl
  have e3 : typeLookup (.type "re.Match") (Str.ofString "string") = pure (some (.builtin "re.Match.string")) := by rw [typeLookup_type, builtinLookup_eq_fast]; kernel_rfl
  have e4 : getOf (some (.builtin "re.Match.string")) = pure (some (.builtin "member_descriptor.__get__")) := by kernel_rfl
  have e5 : dataDescriptor? (some (.builtin "re.Match.string")) (some (.builtin "member_descriptor.__get__")) = pure (some (.builtin "member_descriptor.__get__", .builtin "re.Match.string")) := by kernel_rfl
  dsimp only [List.append, List.cons_append, List.nil_append]
  rw [e1]
  refine wpAny_bind (wpAny_pure ?_)
  dsimp only
  rw [e2]
  refine wpAny_bind (wpAny_pure (wpAny_bind (wpAny_typeOf (hT _) ?_)))
  unfold find
  rw [e3]
  refine wpAny_bind (wpAny_bind (wpAny_pure ?_))
  rw [e4]
  refine wpAny_bind (wpAny_pure ?_)
  rw [e5]
  refine wpAny_bind (wpAny_pure (wpAny_bind (wpAny_rule (wpAny_pure ?_))))
  dsimp only
  unfold bindTo
  refine wpAny_bind (wpAny_holding (wpAny_call ?_))
  refine codeAny_call_builtin slot_mg.plain entry_mg (slot_mg.check _ _ _ _ _ _ _ _ type_string (args_mg _ _ _) ?_)
  unfold Builtin.«member_descriptor.__get__» descrGet
  have e6 : descrGetArgs ⟨[.builtin "re.Match.string", .ref mo, .type "re.Match"], []⟩ = pure (.builtin "re.Match.string", some (.ref mo), some (.type "re.Match")) := by kernel_rfl
  rw [e6]
  refine wpAny_bind (wpAny_pure ?_)
  dsimp only
  unfold descrGetter descrCheckInstance
  have e7 : descrNameAndClass (.builtin "re.Match.string") = pure (Str.ofString "string", .type "re.Match") := by kernel_rfl
  rw [e7]
  refine wpAny_bind (wpAny_bind (wpAny_pure ?_))
  dsimp only
  refine wpAny_bind (wpAny_isInstance (b := true) (hT _) (by rw [isSubtype_type]; kernel_rfl) ?_)
  refine wpAny_pure (wpAny_pure ?_)
  refine ⟨Code.quiet_builtin _ (by decide +kernel), codeAny_builtin entry_string ?_⟩
  unfold Builtin.«re.Match.string»
  refine wpAny_bind (wpAny_field h1 rfl rfl (wpAny_pure ?_))
  dsimp only
  refine wpAny_pure ?_
  dsimp only
  repeat (any_goals (first | assumption | exact hT _ | wp_step))
end
end Mine
namespace Mine
theorem hdn_no (w : World) (news : Led) (x : Str) (t : Tok) (hr : SreIs x.cps none) (hsz : x.cps.size ≤ 1000000) :
   Tell w 0 50 [.str x t] news fun v n => v = .bool true ∧ n = news := by
  w_top off; have hfill9 := (show top0.heap_39 = top0.heap_39 ∧ PySem.Challenge.rw_xe0021_01 = PySem.Challenge.rw_xe0021_01 by k_fill; exact ⟨rfl, rfl⟩); clear hfill9; k_with_none
  k_with "M9" => ((with_reducible show wpAny _ _ (binaryOp Operator.Add (Value.str _ _) (Value.str _ _)) _ _ _); (k_here; k_dflt (refine' PyProof.Rows.add_str ?_ ?hszq34; (case hszq34 => (rw [sizeLine_eq]; omega)); k_whole); intro _ _))
  k_with "M9" => (k_here; (with_reducible show wpAny _ _ (getMethod (Value.ref 43) (PySem.Str.ofString "search") _) _ _ _); k_dflt (refine' getMethod_search ?Fq6308 ?Xq6308 ?_; (case Fq6308 => k_asm); (case Xq6308 => k_asm); k_whole))
  k_with "M9" => ((with_reducible show wpAny _ _ (call (Value.builtin "re.Pattern.search") _) _ _ _); (k_here; k_dflt (first
  | (refine' search_none ?Fq9471 ?Xq9471 ?rq9471 ?zq9471 ?_; (case rq9471 => assumption); (case Fq9471 => k_asm); (case Xq9471 => k_asm); (case zq9471 => assumption); k_whole)
  | (refine' search_some ?Fq9471 ?Nq9471 ?Xq9471 ?rq9471 ?zq9471 ?_; (case rq9471 => assumption); (case Fq9471 => k_asm); (case Nq9471 => k_asm); (case Xq9471 => k_asm); (case zq9471 => assumption); k_whole; intro _ _ _ _ _ l1 _; (try k_lt l1); revert l1; intro _; (try k_sweep)))))
  k_with "M9" => ((with_reducible show wpAny _ _ (truthy (Value.ref _)) _ _ _); (k_here; k_dflt (refine' truthy_mat ?Nq7584 ?mq7584 ?_; (case Nq7584 => k_asm); (case mq7584 => k_mem); k_whole)))
  intro nm ig ic mr gd cn a ccd cl outer A₀ base h₀ L m s Q E p loose mean mg mb B F X N T hret
  k_enter
  repeat' (first | (k_unfold; (try dsimp only)) | (k_end; wrow_close) | (first | k_extra "M9" | walk1) | (dsimp only; (first | k_extra "M9" | walk1)) | (leave1; walk_say "STEP leave1"; try dsimp only) | fail "no step")
  rename News _ _ _ _ => N9
  rename Fr _ _ _ m => F9
  exact hret _ _ _ _ F9 N9 ⟨rfl, rfl⟩
theorem hdn_yes (w : World) (news : Led) (x : Str) (t : Tok) (p q : Nat) (hr : SreIs x.cps (some (p, q))) (hsz : x.cps.size ≤ 1000000) :
   Tell w 0 50 [.str x t] news fun v n => v = .bool false ∧ n = news := by
  w_top off; have hfill9 := (show top0.heap_39 = top0.heap_39 ∧ PySem.Challenge.rw_xe0021_01 = PySem.Challenge.rw_xe0021_01 by k_fill; exact ⟨rfl, rfl⟩); clear hfill9; k_with_none
  k_with "M9" => ((with_reducible show wpAny _ _ (binaryOp Operator.Add (Value.str _ _) (Value.str _ _)) _ _ _); (k_here; k_dflt (refine' PyProof.Rows.add_str ?_ ?hszq34; (case hszq34 => (rw [sizeLine_eq]; omega)); k_whole); intro _ _))
  k_with "M9" => (k_here; (with_reducible show wpAny _ _ (getMethod (Value.ref 43) (PySem.Str.ofString "search") _) _ _ _); k_dflt (refine' getMethod_search ?Fq6308 ?Xq6308 ?_; (case Fq6308 => k_asm); (case Xq6308 => k_asm); k_whole))
  k_with "M9" => ((with_reducible show wpAny _ _ (call (Value.builtin "re.Pattern.search") _) _ _ _); (k_here; k_dflt (first
  | (refine' search_none ?Fq9471 ?Xq9471 ?rq9471 ?zq9471 ?_; (case rq9471 => assumption); (case Fq9471 => k_asm); (case Xq9471 => k_asm); (case zq9471 => assumption); k_whole)
  | (refine' search_some ?Fq9471 ?Nq9471 ?Xq9471 ?rq9471 ?zq9471 ?_; (case rq9471 => assumption); (case Fq9471 => k_asm); (case Nq9471 => k_asm); (case Xq9471 => k_asm); (case zq9471 => assumption); k_whole; intro _ _ _ _ _ l1 _; (try k_lt l1); revert l1; intro _; (try k_sweep)))))
  k_with "M9" => ((with_reducible show wpAny _ _ (truthy (Value.ref _)) _ _ _); (k_here; k_dflt (refine' truthy_mat ?Nq7584 ?mq7584 ?_; (case Nq7584 => k_asm); (case mq7584 => k_mem); k_whole)))
  intro nm ig ic mr gd cn a ccd cl outer A₀ base h₀ L m s Q E p loose mean mg mb B F X N T hret
  k_enter
  repeat' (first | (k_unfold; (try dsimp only)) | (k_end; wrow_close) | (first | k_extra "M9" | walk1) | (dsimp only; (first | k_extra "M9" | walk1)) | (leave1; walk_say "STEP leave1"; try dsimp only) | fail "no step")
  rename News _ _ _ _ => N9
  rename Fr _ _ _ m => F9
  exact hret _ news _ _ F9 (fun p hp => N9 p (.tail _ (.tail _ hp))) ⟨rfl, rfl⟩
theorem getMethod_span {w : World} {A : Around} {E : Value → Shared → Prop} {s : Shared} {h₀ : Heap} {L : Addr} {news : Led} {x : Str} {t : Tok} {n : Nat} {tp mo : Addr} {pl : Sem Bool} {Q : Value × List Value → Shared → Prop} (N : News h₀ L s.heap news) (hm : (mo, matO x t n tp) ∈ news) (h : Q (.builtin "re.Match.span", [.ref mo]) s) :
    wpAny (model pr w) A (getMethod (.ref mo) "span" pl) Q E s :=
  getMethod_builtin ⟨_, (N _ hm).1, rfl⟩ plainAttrs_mat slot_span type_span (fun a e => by cases e; exact ⟨_, (N _ hm).1, rfl⟩) h
end Mine
namespace Mine
def TellL (w : World) (k : Nat) (f l : Addr) (vs : List Value) (news : Led) (Post : Value → Led → Prop) : Prop :=
  ∀ (nm : List (Str × NameKind)) (ig ic : Bool) (mr : List (Str × Const)) (gd : Option (List Code)) (cn : Str) (a : Addr) (ccd : Value) (cl : List (Str × Addr)) (outer : List Env) (A₀ : Around) (base h₀ : Heap) (L : Addr) (m : Str → Option Value) (s : Shared) (Q E : Value → Shared → Prop)
   (p : Program) (loose : List Str) (mean : ExcName → Option Value) (mg mb : Str → Option Value),
   h₀.IsList l vs.toArray → Below A₀ base outer h₀ → Fr h₀ L s.heap m → (top0.heap_39 w.params).In h₀ → News h₀ L s.heap news → Top p loose mean mg mb h₀ →
   (∀ v news' h' tk', Fr h₀ L h' m → News h₀ L h' news' → Post v news' → Q v { s with heap := h', toks := tk' }) →
   codeAny (model pr w) (Ar k gd (envX cn (Sc nm ig ic mr) L a ccd cl) outer) (.call (.ref f) ⟨[.ref l], []⟩) (Back Q E) s
/-- the ten totals -/
def tot0 : List Int := [0, 122, 4, 123, 6, 1, 123, 8, 1, 121]
def addAt (ts : List Int) (k : Nat) (x : Int) : List Int := ts.set (k % 10) (ts.getD (k % 10) 0 + x % 1000000)
def totalsFrom : List Int → Nat → List Int → List Int
  | ts, _, [] => ts
  | ts, k, x :: r => totalsFrom (addAt ts k x) (k + 1) r
theorem totalsFrom_snoc : ∀ (xs ts : List Int) (k : Nat) (x : Int), totalsFrom ts k (xs ++ [x]) = addAt (totalsFrom ts k xs) (k + xs.length) x
  | [], ts, k, x => rfl
  | y :: r, ts, k, x => by
    simp only [List.cons_append, totalsFrom, List.length_cons]
    rw [totalsFrom_snoc r, show k + 1 + r.length = k + (r.length + 1) by omega]
theorem addAt_length (ts : List Int) (k : Nat) (x : Int) : (addAt ts k x).length = ts.length := by simp [addAt]
theorem totalsFrom_length : ∀ (xs ts : List Int) (k : Nat), (totalsFrom ts k xs).length = ts.length
  | [], _, _ => rfl
  | y :: r, ts, k => by simp only [totalsFrom]; rw [totalsFrom_length r, addAt_length]
/-- each total lies between 0 and b -/
def Within (b : Int) (ts : List Int) : Prop := ∀ y ∈ ts, 0 ≤ y ∧ y ≤ b
theorem addAt_within {b : Int} {ts : List Int} {k : Nat} {x : Int} (h : Within b ts) (hl : ts.length = 10) : Within (b + 1000000) (addAt ts k x) := by
  intro y hy
  have hm : 0 ≤ x % 1000000 ∧ x % 1000000 < 1000000 := ⟨Int.emod_nonneg _ (by omega), Int.emod_lt_of_pos _ (by omega)⟩
  rcases List.mem_or_eq_of_mem_set hy with hy | rfl
  · have := h y hy; omega
  · have hk : k % 10 < ts.length := by omega
    have e : ts.getD (k % 10) 0 = ts[k % 10] := by simp [List.getD_eq_getElem?_getD, hk]
    have := h _ (List.getElem_mem hk)
    rw [e]; omega
theorem totalsFrom_within : ∀ (xs ts : List Int) (k : Nat) (b : Int), Within b ts → ts.length = 10 → Within (b + 1000000 * xs.length) (totalsFrom ts k xs)
  | [], ts, k, b, h, _ => by
    intro y hy
    have := h y hy
    simp only [List.length_nil]
    omega
  | y :: r, ts, k, b, h, hl => by
    have := totalsFrom_within r (addAt ts k y) (k + 1) (b + 1000000) (addAt_within h hl) (by rw [addAt_length, hl])
    simp only [totalsFrom, List.length_cons]
    rw [show b + 1000000 * ((r.length + 1 : Nat) : Int) = b + 1000000 + 1000000 * (r.length : Int) by omega]
    exact this
def totalsOf (ns : List Int) : List Int := totalsFrom tot0 0 (ns.take 30)
theorem totalsOf_length (ns : List Int) : (totalsOf ns).length = 10 := totalsFrom_length _ _ _
theorem totalsOf_within (ns : List Int) : Within 40000000 (totalsOf ns) := by
  have h0 : Within 123 tot0 := by unfold Within; decide +kernel
  have h := totalsFrom_within (ns.take 30) tot0 0 123 h0 rfl
  have hl : (ns.take 30).length ≤ 30 := by simp; omega
  intro y hy
  have := h y hy
  omega
theorem totalsFrom_take (ns : List Int) (i : Nat) (x : Int) (h : ns[i]? = some x) : totalsFrom tot0 0 (ns.take (i + 1)) = addAt (totalsFrom tot0 0 (ns.take i)) i x := by
  rw [List.take_add_one, h]
  have hi : i < ns.length := (List.getElem?_eq_some_iff.mp h).1
  show totalsFrom tot0 0 (ns.take i ++ [x]) = _
  rw [totalsFrom_snoc]
  congr 1
  simp; omega
theorem ki_setL_some : ∀ (l : List Value) (k : Nat) (v : Value), k < l.length → ki_setL l k v = some (l.set k v)
  | [], k, _, h => by simp at h
  | _ :: _, 0, _, _ => rfl
  | x :: r, k + 1, v, h => by
    unfold ki_setL
    rw [ki_setL_some r k v (by simpa using h)]
    rfl
theorem totalsAt_within (ns : List Int) (i : Nat) : Within 40000000 (totalsFrom tot0 0 ((ns.take 30).take i)) := by
  have h0 : Within 123 tot0 := by unfold Within; decide +kernel
  have h := totalsFrom_within ((ns.take 30).take i) tot0 0 123 h0 rfl
  have hl : ((ns.take 30).take i).length ≤ 30 := by simp; omega
  intro y hy
  have := h y hy
  omega
theorem ints_set {vs : List Value} {ns : List Int} (h : IntsAre vs ns) (k : Nat) (z : Int) (t : Tok) : IntsAre (vs.set k (.int z t)) (ns.set k z) := by
  induction h generalizing k with
  | nil => exact .nil
  | cons n u _ ih =>
    cases k with
    | zero => exact .cons _ _ (by assumption)
    | succ k => exact .cons _ _ (ih k)
theorem totals_spec (w : World) (news : Led) (l : Addr) (vs : List Value) (ns : List Int) (hi : IntsAre vs ns) (hsz : ns.length ≤ 63) :
   TellL w 2 126 l vs news fun v n => ∃ r ts k new, v = .ref r ∧ n = (r, listOf (List.toArray ts) k) :: new ++ news ∧ IntsAre ts (totalsOf ns) ∧ (∀ p ∈ news, p.1 < r ∧ ∀ q ∈ new, p.1 < q.1) := by
  w_top off; have hfill9 := (show top0.heap_39 = top0.heap_39 ∧ PySem.Challenge.rw_xe0021_01 = PySem.Challenge.rw_xe0021_01 by k_fill; exact ⟨rfl, rfl⟩); clear hfill9; k_with_none
  have hln : vs.length = ns.length := hi.length
  intro nm ig ic mr gd cn a ccd cl outer A₀ base h₀ L m s Q E p loose mean mg mb HL B F X N T hret
  k_enter
  rename Fr h₀ L _ m => FG
  have HLg := Fr.lst FG HL
  repeat' (first | (k_unfold; (try dsimp only)) | (k_end; wrow_close) | ((fail_if_success (with_reducible show wpAny _ _ (exec (Stmt.While _ _ _ _) _) _ _ _)); (fail_if_success (with_reducible show wpAny _ _ (exec (Stmt.For _ _ _ _ _) _) _ _ _)); walk1) | (dsimp only; walk1) | (leave1; walk_say "STEP leave1"; try dsimp only) | fail "no step")
  rename Fr _ _ _ _ => F1
  rename News _ _ _ _ => N1
  rename ∀ p ∈ news, p.1 < _ => lc
  rename_i c _ _
  k_dflt (refine' For_turns F1 ?_)
  repeat' (first | ((fail_if_success (with_reducible show wpAny _ _ (call (Value.type _) _) _ _ _)); (fail_if_success (with_reducible show wpAny _ _ (pyIter _) _ _ _)); walk1))
  rename Fr _ _ _ _ => F1
  rename News _ _ _ _ => N1
  rename _ ∧ AllLt _ news => lD
  rename IntsAre _ (List.take 30 ns) => hI1
  rename (List.take 30 ns).length = _ => hC1
  rename (List.take 30 ns).length ≤ _ => hL1
  rename_i D ws _
  obtain ⟨m0, A0, F0⟩ := named F1 [("totals", .ref c)] (by (repeat (refine allAt_cons (by with_unfolding_all rfl) ?_)); exact allAt_nil)
  k_dflt (refine' ktu_enum rfl F0 N1 (List.mem_cons_self ..) rfl rfl rfl (fun I lI => items_inv (fun i m' n' => ∃ vt kt, Same ["k", "x"] [("totals", .ref c)] m0 m' ∧ n' = (D, listOf (List.toArray ws) 0) :: (c, listOf (List.toArray vt) kt) :: news ∧ IntsAre vt (totalsFrom tot0 0 ((ns.take 30).take i))) ?turn ?done 0 _ _ (Nat.zero_le _) ?j0))
  case j0 => exact ⟨_, _, same_start A0, rfl, .cons _ _ (.cons _ _ (.cons _ _ (.cons _ _ (.cons _ _ (.cons _ _ (.cons _ _ (.cons _ _ (.cons _ _ (.cons _ _ .nil)))))))))⟩
  case turn =>
    rintro i x m' n' v h tk hx ⟨vt, kt, hS, rfl, hc⟩ hv F2 o1 ho1 o2 ho2 PP hPP N2
    have hil : i < ws.length := by have := (List.getElem?_eq_some_iff.mp hx).1; rw [enumItems_length] at this; omega
    rw [enumItems_get ws 0 i (List.getElem?_eq_getElem hil)] at hx
    obtain rfl := Option.some.inj hx
    obtain ⟨T, t, rfl, hT⟩ := hv
    obtain ⟨z, tz, hz, hzi⟩ := hI1.at i _ (List.getElem?_eq_getElem hil)
    rw [hz] at hT
    have F3 := same_fr hS F2
    simp only [List.cons_append, List.nil_append] at N2
    clear F2 F1 F0 N1
    have e1 := totalsFrom_take (ns.take 30) i z hzi
    have e2 : (totalsFrom tot0 0 ((ns.take 30).take i)).length = 10 := totalsFrom_length _ _ _
    have e3 := totalsAt_within ns i
    replace lI := allLt_of lI
    simp only [AllLt] at lI
    dsimp only [envOf] at F3 N2
    (try k_fold)
    k_dflt (refine' unpackN_ F3 N2 hT ?k1 ?k2 ?k3 ?_)
    case k1 => exact rfl
    case k2 => exact rfl
    case k3 => exact rfl
    intro h' F' N'
    clear F3 N2
    k_steps
    rename Fr _ _ _ _ => F4
    rename News _ _ _ _ => N4
    rename IntsAre (vt.set _ _) _ => hc'
    have q1 : (((0 + i : Nat) : Int).fmod 10).toNat = i % 10 := by rw [Nat.zero_add, Int.fmod_eq_emod_of_nonneg _ (by decide)]; omega
    have q2 : z.fmod 1000000 = z % 1000000 := Int.fmod_eq_emod_of_nonneg _ (by decide)
    refine hPP _ ?_
    refine' turn_end F4 N4 ((D, _) :: (c, _) :: news) (fun q hq => ?a1) (fun q hq => .tail _ (.tail _ hq)) (fun q hq r hr => ?a2) ⟨⟨.head _, trivial⟩, _, _, same_of ?sm ?sr, rfl, ?hc⟩
    case a1 =>
      rcases List.mem_cons.mp hq with rfl | hq
      · exact .head _
      · rw [List.mem_singleton.mp hq]; exact .tail _ (.head _)
    case a2 =>
      have z1 : q.1 < I := by
        rcases List.mem_cons.mp hq with e | hq
        · rw [e]; exact lI.1
        rcases List.mem_cons.mp hq with e | hq
        · rw [e]; exact lI.2.1
        · exact allLt_at lI.2.2 q hq
      rcases List.mem_cons.mp hr with rfl | hr
      · exact Nat.ne_of_lt (Nat.lt_succ_of_lt z1)
      · rw [List.mem_singleton.mp hr]; exact Nat.ne_of_lt z1
    case sm => (repeat (refine allAt_cons (by with_unfolding_all rfl) ?_)); exact allAt_nil
    case sr => (intro z h1 h2; simp only [List.map_cons, List.map_nil, List.mem_cons, List.not_mem_nil, or_false, not_or] at h1 h2; simp [ovr_ne, h1, h2])
    case hc => rw [e1]; unfold addAt; rw [← q1, ← q2]; exact hc'
  case done =>
    rintro m' n' h tk ⟨vt, kt, hS, rfl, hc⟩ F2 N2
    have F3 := same_fr hS F2
    clear F2 F1 F0 N1
    dsimp only [envOf] at F3 N2
    (try k_fold)
    k_steps
    rename News h₀ L _ _ => N9
    rename Fr h₀ L _ m => F9
    rw [enumItems_length, hI1.length, List.take_length] at hc
    refine hret _ ((c, _) :: [(D, _)] ++ news) _ _ F9 (fun q hq => ?_) ⟨c, vt, kt, [(D, listOf (List.toArray ws) 0)], rfl, rfl, hc, fun q hq => ⟨lc q hq, fun r hr => ?_⟩⟩
    · rcases List.mem_cons.mp hq with rfl | hq
      · exact N9 _ (.tail _ (.head _))
      rcases List.mem_cons.mp hq with rfl | hq
      · exact N9 _ (.head _)
      · exact N9 _ (.tail _ (.tail _ hq))
    · rw [List.mem_singleton.mp hr]; exact Nat.lt_trans (lc q hq) lD.1
end Mine
namespace Mine
/-- plain: the day's steps: none comes, some f goes with the figure f -/
structure WS where
  came : Nat
  ins : Nat
  st : List (Option Nat)
abbrev comesAt (q : WS) (t : Int) : Prop := q.ins = 0 ∨ (t % 2 = 0 ∧ q.came < 5)
def wStep (q : WS) (t : Int) : WS := if comesAt q t then ⟨q.came + 1, q.ins + 1, q.st ++ [none]⟩ else ⟨q.came, q.ins - 1, q.st ++ [some ((t / 2) % (q.ins : Int)).toNat]⟩
def wOf (ts : List Int) : WS := ts.foldl wStep ⟨0, 0, []⟩
theorem wOf_take (ts : List Int) (i : Nat) (t : Int) (h : ts[i]? = some t) : wOf (ts.take (i + 1)) = wStep (wOf (ts.take i)) t := by
  unfold wOf; rw [List.take_add_one, h]; simp
def dotW (f : Nat) : Str := Str.ofString "." ++ Str.ofString (toString (f : Int))
def wordsOf (nm : List Str) : Nat → List (Option Nat) → List Str
  | _, [] => []
  | c, none :: r => nm.getD c (Str.empty) :: wordsOf nm (c + 1) r
  | c, some f :: r => dotW f :: wordsOf nm c r
def turnOf : Nat → List (Option Nat) → List (Option Nat)
  | _, [] => []
  | n, none :: r => none :: turnOf (n + 1) r
  | n, some f :: r => some (n - 1 - f) :: turnOf (n - 1) r
theorem wordsOf_length (nm : List Str) : ∀ (st : List (Option Nat)) (c : Nat), (wordsOf nm c st).length = st.length
  | [], _ => rfl
  | none :: r, c => by simp only [wordsOf, List.length_cons, wordsOf_length nm r]
  | some f :: r, c => by simp only [wordsOf, List.length_cons, wordsOf_length nm r]
theorem turnOf_length : ∀ (st : List (Option Nat)) (n : Nat), (turnOf n st).length = st.length
  | [], _ => rfl
  | none :: r, n => by simp only [turnOf, List.length_cons, turnOf_length r]
  | some f :: r, n => by simp only [turnOf, List.length_cons, turnOf_length r]
def comings (st : List (Option Nat)) : Nat := st.countP (·.isNone)
theorem wordsOf_come (nm : List Str) : ∀ (st : List (Option Nat)) (c : Nat), wordsOf nm c (st ++ [none]) = wordsOf nm c st ++ [nm.getD (c + comings st) Str.empty]
  | [], c => by simp [wordsOf, comings]
  | none :: r, c => by
    simp only [List.cons_append, wordsOf, wordsOf_come nm r (c + 1)]
    rw [show c + 1 + comings r = c + comings (none :: r) by simp [comings]; omega]
  | some f :: r, c => by
    simp only [List.cons_append, wordsOf, wordsOf_come nm r c]
    rw [show c + comings r = c + comings (some f :: r) by simp [comings]]
theorem wordsOf_go (nm : List Str) (f : Nat) : ∀ (st : List (Option Nat)) (c : Nat), wordsOf nm c (st ++ [some f]) = wordsOf nm c st ++ [dotW f]
  | [], c => by simp [wordsOf]
  | none :: r, c => by simp only [List.cons_append, wordsOf, wordsOf_go nm f r (c + 1)]
  | some g :: r, c => by simp only [List.cons_append, wordsOf, wordsOf_go nm f r c]
def insOf (n : Nat) (st : List (Option Nat)) : Nat := st.foldl (fun n o => match o with | none => n + 1 | some _ => n - 1) n
theorem turnOf_come : ∀ (st : List (Option Nat)) (n : Nat), turnOf n (st ++ [none]) = turnOf n st ++ [none]
  | [], n => rfl
  | none :: r, n => by simp only [List.cons_append, turnOf, turnOf_come r]
  | some f :: r, n => by simp only [List.cons_append, turnOf, turnOf_come r]
theorem turnOf_go (f : Nat) : ∀ (st : List (Option Nat)) (n : Nat), turnOf n (st ++ [some f]) = turnOf n st ++ [some (insOf n st - 1 - f)]
  | [], n => rfl
  | none :: r, n => by simp only [List.cons_append, turnOf, turnOf_go f r]; rfl
  | some g :: r, n => by simp only [List.cons_append, turnOf, turnOf_go f r]; rfl
theorem comings_turn : ∀ (st : List (Option Nat)) (n : Nat), comings (turnOf n st) = comings st
  | [], _ => rfl
  | none :: r, n => by have := comings_turn r (n + 1); simp only [comings] at this; simp [turnOf, comings, this]
  | some f :: r, n => by have := comings_turn r (n - 1); simp only [comings] at this; simp [turnOf, comings, this]
/-- what holds of the state behind i moments -/
def WOk (i : Nat) (q : WS) : Prop := q.came ≤ 5 ∧ q.ins + i = 2 * q.came ∧ q.came = comings q.st ∧ q.ins = insOf 0 q.st ∧ q.st.length = i
theorem insOf_snoc (n : Nat) (st : List (Option Nat)) (o : Option Nat) : insOf n (st ++ [o]) = match o with | none => insOf n st + 1 | some _ => insOf n st - 1 := by
  cases o <;> simp [insOf]
theorem wStep_ok (i : Nat) (q : WS) (t : Int) (h : WOk i q) (hi : i < 10) : WOk (i + 1) (wStep q t) := by
  obtain ⟨h1, h2, h3, h4, h5⟩ := h
  unfold wStep
  split
  · rename_i hc
    refine ⟨?_, ?_, ?_, ?_, by simp [h5]⟩
    · rcases hc with hc | hc <;> simp only <;> omega
    · simp only; omega
    · simp [comings, h3]
    · rw [insOf_snoc]; simp [h4]
  · rename_i hc
    have : q.ins ≠ 0 := fun e => hc (.inl e)
    refine ⟨h1, ?_, ?_, ?_, by simp [h5]⟩
    · simp only; omega
    · simp [comings, h3]
    · rw [insOf_snoc]; simp [h4]
theorem wOf_ok (ts : List Int) (hl : ts.length = 10) : ∀ i, i ≤ 10 → WOk i (wOf (ts.take i))
  | 0, _ => ⟨by simp [wOf], by simp [wOf], by simp [wOf, comings], by simp [wOf, insOf], by simp [wOf]⟩
  | i + 1, h => by
    have hi : i < ts.length := by omega
    rw [wOf_take ts i ts[i] (List.getElem?_eq_getElem hi)]
    exact wStep_ok i _ _ (wOf_ok ts hl i (by omega)) (by omega)
def names0 : List Str := [Str.ofString "a b", Str.ofString "c\"d", Str.ofString "2.7e", Str.ofString "g\nh", Str.ofString "7"]
def rotN (k : Nat) : List Str := names0.drop k ++ names0.take k
/-- the turn of the names -/
def turnT (ts : List Int) : Nat := ((ts.getD 0 0) / 240 % 5).toNat
section
variable {prog : Program} {w : World} {A : Around} {E : Value → Shared → Prop} {s : Shared} {h₀ : Heap} {L l : Addr} {m : Str → Option Value} {news : List (Addr × Obj)} {value slice : PySem.Expr} {vs : List Value} {ss : List Str} {x : Int} {u : Tok} {Q : Value → Shared → Prop}
theorem pick_from (vs : List Value) (h : 0 ≤ x) : slicePick vs.toArray (some x) none none = (vs.drop x.toNat).toArray := by
  have e : sliceBounds (some x) none none vs.toArray.size = (((min x.toNat vs.toArray.size : Nat) : Int), ((vs.toArray.size : Nat) : Int), 1) := by
    simp only [sliceBounds, Option.getD_none, show (1 : Int) > 0 by decide, if_true, if_neg (show ¬ (x < 0) by omega)]
    congr 1
    omega
  rw [kmk_pick_nat _ e]
  show ((vs.drop (min x.toNat vs.toArray.size)).take (vs.toArray.size - min x.toNat vs.toArray.size)).toArray = _
  rw [List.size_toArray, kmk_drop_min, List.take_of_length_le (by rw [List.length_drop]; omega)]
theorem pick_upto (vs : List Value) (h : 0 ≤ x) : slicePick vs.toArray none (some x) none = (vs.take x.toNat).toArray := by
  have e : sliceBounds none (some x) none vs.toArray.size = (((0 : Nat) : Int), ((min x.toNat vs.toArray.size : Nat) : Int), 1) := by
    simp only [sliceBounds, Option.getD_none, show (1 : Int) > 0 by decide, if_true, if_neg (show ¬ (x < 0) by omega)]
    congr 1
    congr 1
    omega
  rw [kmk_pick_nat _ e]
  show ((vs.drop 0).take (min x.toNat vs.toArray.size - 0)).toArray = _
  rw [List.drop_zero, Nat.sub_zero, List.size_toArray, kmk_take_min]
theorem strs_from (F : Fr h₀ L s.heap m) (N : News h₀ L s.heap news) (hl : s.heap.IsList l vs.toArray) (hs : StrsAre vs ss) (hx : 0 ≤ x) (hz : vs.length ≤ 1000000)
    (h : ∀ D ws h', Fr h₀ L h' m → News h₀ L h' ((D, listOf (List.toArray ws) 0) :: news) → (∀ p ∈ news, p.1 < D) → StrsAre ws (ss.drop x.toNat) → Q (.ref D) { s with heap := h' })
    (hb : subscripted slice false (.ref l) (.ref s.heap.objs.size) = operate [.ref s.heap.objs.size, .ref l] (getItem (.ref l) (.ref s.heap.objs.size))) (ht : ∀ r, letTemporaryGo value (.ref l) r = pure ()) :
    wpAny (model prog w) A (subscriptTail value slice (.ref l) (.ref s.heap.objs.size)) Q E { s with heap := s.heap.push { cls := .type "slice", data := .fields #[.int x u, .none, .none] } } := by
  refine kmk_slice F N hl (.int _ _) .none (fun D h' F' N' l1 => h D _ h' F' ?_ l1 (hs.drop' x.toNat)) hb ht (by rw [sizeLine_eq]; simp; omega)
  rw [pick_from vs hx] at N'
  exact N'
theorem strs_upto (F : Fr h₀ L s.heap m) (N : News h₀ L s.heap news) (hl : s.heap.IsList l vs.toArray) (hs : StrsAre vs ss) (hx : 0 ≤ x) (hz : vs.length ≤ 1000000)
    (h : ∀ D ws h', Fr h₀ L h' m → News h₀ L h' ((D, listOf (List.toArray ws) 0) :: news) → (∀ p ∈ news, p.1 < D) → StrsAre ws (ss.take x.toNat) → Q (.ref D) { s with heap := h' })
    (hb : subscripted slice false (.ref l) (.ref s.heap.objs.size) = operate [.ref s.heap.objs.size, .ref l] (getItem (.ref l) (.ref s.heap.objs.size))) (ht : ∀ r, letTemporaryGo value (.ref l) r = pure ()) :
    wpAny (model prog w) A (subscriptTail value slice (.ref l) (.ref s.heap.objs.size)) Q E { s with heap := s.heap.push { cls := .type "slice", data := .fields #[.none, .int x u, .none] } } := by
  refine kmk_slice F N hl .none (.int _ _) (fun D h' F' N' l1 => h D _ h' F' ?_ l1 (hs.take' x.toNat)) hb ht (by rw [sizeLine_eq]; simp; omega)
  rw [pick_upto vs hx] at N'
  exact N'
theorem strs_cat {l2 : Addr} {vs2 : List Value} {ss2 : List Str} (F : Fr h₀ L s.heap m) (N : News h₀ L s.heap news) (hl : s.heap.IsList l vs.toArray) (hl2 : s.heap.IsList l2 vs2.toArray) (hs : StrsAre vs ss) (hs2 : StrsAre vs2 ss2) (hz : vs.length ≤ 1000000) (hz2 : vs2.length ≤ 1000000)
    (h : ∀ D ws h', Fr h₀ L h' m → News h₀ L h' ((D, listOf (List.toArray ws) 0) :: news) → (∀ p ∈ news, p.1 < D) → StrsAre ws (ss ++ ss2) → Q (.ref D) { s with heap := h' }) :
    wpAny (model prog w) A (binaryOp .Add (.ref l) (.ref l2)) Q E s := by
  refine add_arrays F N hl hl2 (fun h' F' N' => h _ _ h' F' N' (fun p hp => Heap.lt_size (N p hp).1) (hs.append' hs2)) (by rw [sizeLine_eq]; simp; omega)
end
theorem names0_are (t1 t2 t3 t4 t5 : Tok) : StrsAre [.str (Str.ofString "a b") t1, .str (Str.ofString "c\"d") t2, .str (Str.ofString "2.7e") t3, .str (Str.ofString "g\nh") t4, .str (Str.ofString "7") t5] names0 := .cons _ _ (.cons _ _ (.cons _ _ (.cons _ _ (.cons _ _ .nil))))
theorem rotN_len (k : Nat) (h : k ≤ 5) : (rotN k).length = 5 := by simp [rotN, names0]; omega
theorem strs_short {vs : List Value} {ss : List Str} (h : StrsAre vs ss) (hl : ss.length ≤ 1000000) : vs.length ≤ 1000000 := by rw [h.length]; exact hl
theorem if_by {M : Model} {A : Around} {t : Sem Bool} {E : Value → Shared → Prop} {P1 P2 : Shared → Prop} {s : Shared} (c : Prop)
    (h : ∀ PQ : Bool → Shared → Prop, (∀ b tk, (b = true ↔ c) → PQ b { s with toks := tk }) → wpAny M A t PQ E s)
    (yes : c → ∀ tk, P1 { s with toks := tk }) (no : ¬ c → ∀ tk, P2 { s with toks := tk }) : wpAny M A t (fun b s₂ => if b = true then P1 s₂ else P2 s₂) E s := by
  refine h _ fun b tk hb => ?_
  cases b
  · exact no (fun hc => Bool.noConfusion (hb.mpr hc)) tk
  · exact yes (hb.mp rfl) tk
inductive WordsJ (nm : List Str) (W U NM : Addr) (wsn : List Value) (T : Led) (m0 : Str → Option Value) (q : WS) (m' : Str → Option Value) (n' : Led) : Prop
  | mk (t1 t2 : Tok) (vw : List Value) (kw : Nat) (vu : List Value) (ku : Nat)
    (hS : Same ["total", "figure"] [("came", .int q.came t1), ("inside", .int q.ins t2), ("words", .ref W), ("turned", .ref U), ("names", .ref NM)] m0 m')
    (hn : n' = (U, listOf (List.toArray vu) ku) :: (W, listOf (List.toArray vw) kw) :: (NM, listOf (List.toArray wsn) 0) :: T) (hw : StrsAre vw (wordsOf nm 0 q.st)) (hu : StrsAre vu (wordsOf nm 0 (turnOf 0 q.st))) : WordsJ nm W U NM wsn T m0 q m' n'
inductive WordsPost (news : Led) (ts : List Int) (v : Value) (n : Led) : Prop
  | mk (tp wl ul : Addr) (ws us : List Value) (kw ku : Nat) (new : Led) (hv : v = .ref tp) (hn : n = new ++ news) (h1 : (tp, tupO [.ref wl, .ref ul]) ∈ new) (h2 : (wl, listOf (List.toArray ws) kw) ∈ new) (h3 : (ul, listOf (List.toArray us) ku) ∈ new)
    (h4 : StrsAre ws (wordsOf (rotN (turnT ts)) 0 (wOf ts).st)) (h5 : StrsAre us (wordsOf (rotN (turnT ts)) 0 (turnOf 0 (wOf ts).st))) (h6 : ∀ p ∈ news, ∀ q ∈ new, p.1 < q.1) : WordsPost news ts v n
theorem words_spec (w : World) (news : Led) (l : Addr) (vs : List Value) (ts : List Int) (k : Nat) (hl : (l, listOf vs.toArray k) ∈ news) (hi : IntsAre vs ts) (hsz : ts.length = 10) (hw : Within 40000000 ts) :
   Tell w 2 133 [.ref l] news (WordsPost news ts) := by
  w_top off; have hfill9 := (show top0.heap_39 = top0.heap_39 ∧ PySem.Challenge.rw_xe0021_01 = PySem.Challenge.rw_xe0021_01 by k_fill; exact ⟨rfl, rfl⟩); clear hfill9; k_with_none
  k_with "M9" => ((with_reducible show wpAny _ _ (binaryOp Operator.Add (Value.str _ _) (Value.str _ _)) _ _ _); (k_here; k_dflt (refine' PyProof.Rows.add_str ?_ ?hszq34; (case hszq34 => (rw [sizeLine_eq]; omega)); k_whole); intro _ _))
  k_with "M9" => (k_here; (with_reducible show wpAny _ _ (subscriptTail _ (PySem.Expr.Slice (some _) none none _) (Value.ref _) (Value.ref _)) _ _ _); k_dflt (refine' strs_from (ss := names0) ?Fq1495 ?Nq1495 ?lq1495 ?iq1495 ?xq1495 ?zq1495 ?_ ?sq1495 ?tq1495; (case Fq1495 => k_asm); (case Nq1495 => k_asm); (case lq1495 => exact News.isList (by k_asm) (by k_mem)); (case iq1495 => exact names0_are ..); (case xq1495 => assumption); (case sq1495 => with_unfolding_all rfl); (case tq1495 => kmk_pure); (case zq1495 => exact Nat.le_of_ble_eq_true rfl)); intro _ _ _ _ _ l1 _; (try k_lt l1); revert l1; intro _; (try k_sweep))
  k_with "M9" => (k_here; (with_reducible show wpAny _ _ (subscriptTail _ (PySem.Expr.Slice none (some _) none _) (Value.ref _) (Value.ref _)) _ _ _); k_dflt (refine' strs_upto (ss := names0) ?Fq1515 ?Nq1515 ?lq1515 ?iq1515 ?xq1515 ?zq1515 ?_ ?sq1515 ?tq1515; (case Fq1515 => k_asm); (case Nq1515 => k_asm); (case lq1515 => exact News.isList (by k_asm) (by k_mem)); (case iq1515 => exact names0_are ..); (case xq1515 => assumption); (case sq1515 => with_unfolding_all rfl); (case tq1515 => kmk_pure); (case zq1515 => exact Nat.le_of_ble_eq_true rfl)); intro _ _ _ _ _ l1 _; (try k_lt l1); revert l1; intro _; (try k_sweep))
  k_with "M9" => ((with_reducible show wpAny _ _ (binaryOp Operator.Add (Value.ref _) (Value.ref _)) _ _ _); (k_here; k_dflt (refine' strs_cat ?Fq7414 ?Nq7414 ?lq7414 ?l2q7414 ?iq7414 ?i2q7414 ?zq7414 ?z2q7414 ?_; (case Fq7414 => k_asm); (case Nq7414 => k_asm); (case lq7414 => exact News.isList (by k_asm) (by k_mem)); (case l2q7414 => exact News.isList (by k_asm) (by k_mem)); (case iq7414 => assumption); (case i2q7414 => assumption); (case zq7414 => exact strs_short (by assumption) (by simp [names0]; omega)); (case z2q7414 => exact strs_short (by assumption) (by simp [names0]; omega))); intro _ _ _ _ _ l1 _; (try k_lt l1); revert l1; intro _; (try k_sweep)))
  have hln : vs.length = ts.length := hi.length
  have ht0 := hw (ts.getD 0 0) (by rw [List.getD_eq_getElem?_getD, List.getElem?_eq_getElem (by omega)]; exact List.getElem_mem _)
  have hx0 : 0 ≤ ((ts.getD 0 0).fdiv 240).fmod 5 := Int.fmod_nonneg_of_pos _ (by decide)
  intro nm ig ic mr gd cn a ccd cl outer A₀ base h₀ L m s Q E p loose mean mg mb B F X N T hret
  k_enter
  repeat' (first | (k_unfold; (try dsimp only)) | (k_end; wrow_close) | ((fail_if_success (with_reducible show wpAny _ _ (exec (Stmt.While _ _ _ _) _) _ _ _)); (fail_if_success (with_reducible show wpAny _ _ (exec (Stmt.For _ _ _ _ _) _) _ _ _)); (first | k_extra "M9" | walk1)) | (dsimp only; (first | k_extra "M9" | walk1)) | (leave1; walk_say "STEP leave1"; try dsimp only) | fail "no step")
  rename Fr _ _ _ _ => F1
  k_dflt (refine' For_turns F1 ?_)
  repeat' (first | ((fail_if_success (with_reducible show wpAny _ _ (pyIter _) _ _ _)); (first | k_extra "M9" | walk1)))
  rename Fr _ _ _ _ => F1
  rename News _ _ _ _ => N0
  rename StrsAre _ (_ ++ _) => hnm
  rename ∀ p ∈ news, p.1 < _ => l0
  rename_i D2 _ _ _ l2 D3 _ _ _ l3 NM wsn _ ln _ W _ lw _ _ U _ lu _ _ _
  obtain ⟨T, N1, hTl, ex, hTn, hTo⟩ : ∃ T, News _ _ _ ((U, _) :: (W, _) :: (NM, _) :: T) ∧ AllLt NM T ∧ (∃ ex, T = ex ++ news ∧ ∀ p ∈ news, ∀ q ∈ ex, p.1 < q.1) := by
    refine ⟨_, N0, ln, [_, _, _], rfl, fun p hp q hq => ?_⟩
    simp only [List.mem_cons, List.not_mem_nil, or_false] at hq
    rcases hq with rfl | rfl | rfl
    · exact allLt_at l3.2.2 p hp
    · exact allLt_at l2.2 p hp
    · exact l0 p hp
  have up : ∀ {a b : Addr}, a < b → AllLt a T → AllLt b T := fun h x => allLt_of fun p hp => Nat.lt_trans (allLt_at x p hp) h
  have lW := And.intro (ltN lw.1) (up lw.1 hTl)
  have lU := And.intro (ltN lu.1) (And.intro (ltN (Nat.lt_trans lw.1 lu.1)) (up (Nat.lt_trans lw.1 lu.1) hTl))
  clear up
  have hlT : (l, listOf vs.toArray k) ∈ T := by rw [hTn]; exact List.mem_append_right _ hl
  clear l0 l2 l3 ln lw lu N0
  obtain ⟨m0, A0, F0⟩ := named F1 [("came", .int 0 _), ("inside", .int 0 _), ("words", .ref W), ("turned", .ref U), ("names", .ref NM)] (by (repeat (refine allAt_cons (by with_unfolding_all rfl) ?_)); exact allAt_nil)
  have hnm' : StrsAre wsn (rotN (turnT ts)) := by
    unfold rotN turnT
    rw [Int.fdiv_eq_ediv_of_nonneg _ (by decide), Int.fmod_eq_emod_of_nonneg _ (by decide)] at hnm
    exact hnm
  generalize hnmv : rotN (turnT ts) = nm at hnm'
  have hnl : nm.length = 5 := by rw [← hnmv]; exact rotN_len _ (by unfold turnT; omega)
  k_dflt (refine' iter_listTurns rfl F0 N1 (List.mem_cons_of_mem _ (List.mem_cons_of_mem _ (List.mem_cons_of_mem _ hlT))) rfl rfl (fun I lI => items_inv (fun i => WordsJ nm W U NM wsn T m0 (wOf (ts.take i))) ?turn ?done 0 _ _ (Nat.zero_le _) ?j0))
  case j0 => exact ⟨_, _, [], _, [], _, same_start A0, rfl, .nil, .nil⟩
  case turn =>
    rintro i x m' n' v h tk hx ⟨t1, t2, vw, kw, vu, ku, hS, rfl, hvw, hvu⟩ hv F2 o ho PP hPP N2
    simp only [List.getElem?_map, Option.map_eq_some_iff] at hx
    obtain ⟨x, hx, rfl⟩ := hx
    obtain rfl : v = x := hv
    obtain ⟨z, tz, rfl, hz⟩ := hi.at i _ hx
    have hil : i < 10 := by have := (List.getElem?_eq_some_iff.mp hz).1; omega
    replace lI := allLt_of lI
    simp only [AllLt] at lI
    have F3 := same_fr hS F2
    simp only [List.cons_append, List.nil_append] at N2
    clear F2 F1 F0 N1
    have e1 := wOf_take ts i z hz
    obtain ⟨c1, c2, c3, c4, c5⟩ := wOf_ok ts hsz i (by omega)
    have hzb := hw z (List.mem_of_getElem? hz)
    generalize hq : wOf (ts.take i) = q at *
    have hvl : vw.length = i := by rw [hvw.length, wordsOf_length, c5]
    have hul : vu.length = i := by rw [hvu.length, wordsOf_length, turnOf_length, c5]
    have hf : 0 ≤ (z.fdiv 2).fmod (q.ins : Int) ∧ (z.fdiv 2).fmod (q.ins : Int) ≤ 40000000 := by
      rw [Int.fdiv_eq_ediv_of_nonneg _ (by decide), Int.fmod_eq_emod_of_nonneg _ (by omega)]
      by_cases h0 : q.ins = 0
      · rw [h0]; simp only [Int.natCast_zero, Int.emod_zero]; omega
      · have h1 := Int.emod_nonneg (z / 2) (show (q.ins : Int) ≠ 0 by omega)
        have h2 := Int.emod_lt_of_pos (z / 2) (show 0 < (q.ins : Int) by omega)
        omega
    dsimp only [envOf] at F3 N2
    (try k_fold)
    have hzm : z.fmod 2 = z % 2 := Int.fmod_eq_emod_of_nonneg _ (by decide)
    have hzf : 0 < q.ins → (z.fdiv 2).fmod (q.ins : Int) = (((z / 2) % (q.ins : Int)).toNat : Int) ∧ ((z / 2) % (q.ins : Int)).toNat < q.ins := by
      intro h0
      rw [Int.fdiv_eq_ediv_of_nonneg _ (by decide), Int.fmod_eq_emod_of_nonneg _ (by omega)]
      have h1 := Int.emod_nonneg (z / 2) (show (q.ins : Int) ≠ 0 by omega)
      have h2 := Int.emod_lt_of_pos (z / 2) (show 0 < (q.ins : Int) by omega)
      omega
    repeat' (first | ((fail_if_success (with_reducible show wpAny _ _ (exec (Stmt.If _ _ _ _) _) _ _ _)); (first | k_extra "M9" | walk1)))
    (first | k_extra "M9" | walk1)
    refine' if_by (comesAt q z) ?test ?yes ?no
    case test =>
      intro PQ hPQ
      repeat' (first | (k_unfold; (try dsimp only)) | (k_end; wrow_close) | (first | k_extra "M9" | walk1) | (dsimp only; (first | k_extra "M9" | walk1)) | (leave1; walk_say "STEP leave1"; try dsimp only) | fail "no step")
      all_goals
        refine hPQ _ _ ?_
        unfold comesAt
        omega
    case yes =>
      intro hcm tk2
      dsimp only
      have hc5 : q.came < 5 := by
        rcases hcm with hcm | hcm
        · omega
        · exact hcm.2
      repeat' (first | (k_unfold; (try dsimp only)) | (k_end; wrow_close) | (first | k_extra "M9" | walk1) | (dsimp only; (first | k_extra "M9" | walk1)) | (leave1; walk_say "STEP leave1"; try dsimp only) | fail "no step")
      rename News _ _ _ _ => N9
      rename Fr _ _ _ _ => F9
      rw [List.push_toArray, List.push_toArray] at N9
      refine hPP _ ?_
      rw [e1]
      rename StrsAre vu _ => hvu
      rename StrsAre vw _ => hvw
      have hstep : wStep q z = ⟨q.came + 1, q.ins + 1, q.st ++ [none]⟩ := if_pos hcm
      rw [hstep]
      dsimp only
      refine' turn_end F9 N9 ((U, _) :: (W, _) :: (NM, _) :: T) (fun q hq => ?a1) (fun q hq => .tail _ hq) (fun q hq r hr => ?a2) ⟨⟨.tail _ (.tail _ (.tail _ hlT)), trivial⟩, _, _, _, _, _, _, same_of ?sm ?sr, rfl, ?w, ?u⟩
      case sm =>
        refine' allAt_int ?b1 ?b2 (allAt_int ?b3 ?b4 (allAt_cons ?b5 (allAt_cons ?b6 (allAt_cons ?b7 allAt_nil))))
        case b1 => with_unfolding_all rfl
        case b2 => omega
        case b3 => with_unfolding_all rfl
        case b4 => omega
        case b5 => with_unfolding_all rfl
        case b6 => with_unfolding_all rfl
        case b7 => with_unfolding_all rfl
      case w =>
        rw [wordsOf_come, show 0 + comings q.st = (q.came : Int).toNat by omega]
        exact hvw.append' (.cons _ _ .nil)
      case u =>
        rw [turnOf_come, wordsOf_come, comings_turn, show 0 + comings q.st = (q.came : Int).toNat by omega]
        exact hvu.append' (.cons _ _ .nil)
      case sr => (intro z h1 h2; simp only [List.map_cons, List.map_nil, List.mem_cons, List.not_mem_nil, or_false, not_or] at h1 h2; simp [ovr_ne, h1, h2])
      case a1 => rw [List.mem_singleton.mp hq]; exact .head _
      case a2 =>
        rw [List.mem_singleton.mp hr]
        rcases List.mem_cons.mp hq with e | hq
        · rw [e]; exact Nat.ne_of_lt lI.1
        rcases List.mem_cons.mp hq with e | hq
        · rw [e]; exact Nat.ne_of_lt lI.2.1
        rcases List.mem_cons.mp hq with e | hq
        · rw [e]; exact Nat.ne_of_lt lI.2.2.1
        · exact off_lt lI.2.2.2 _ hq
    case no =>
      intro hcm tk2
      dsimp only
      have hin : 0 < q.ins := Nat.pos_of_ne_zero fun e => hcm (.inl e)
      have hi0 : ¬ (q.ins : Int) = 0 := by omega
      repeat' (first | (k_unfold; (try dsimp only)) | (k_end; wrow_close) | (first | k_extra "M9" | walk1) | (dsimp only; (first | k_extra "M9" | walk1)) | (leave1; walk_say "STEP leave1"; try dsimp only) | fail "no step")
      rename News _ _ _ _ => N9
      rename Fr _ _ _ _ => F9
      rw [List.push_toArray, List.push_toArray] at N9
      refine hPP _ ?_
      rw [e1]
      rename StrsAre vu _ => hvu
      rename StrsAre vw _ => hvw
      have hstep : wStep q z = ⟨q.came, q.ins - 1, q.st ++ [some ((z / 2) % (q.ins : Int)).toNat]⟩ := if_neg hcm
      obtain ⟨hz1, hz2⟩ := hzf hin
      rw [hstep]
      dsimp only
      refine' turn_end F9 N9 ((U, _) :: (W, _) :: (NM, _) :: T) (fun q hq => ?a1) (fun q hq => .tail _ hq) (fun q hq r hr => ?a2) ⟨⟨.tail _ (.tail _ (.tail _ hlT)), trivial⟩, _, _, _, _, _, _, same_of ?sm ?sr, rfl, ?w, ?u⟩
      case sm =>
        refine' allAt_int ?b1 ?b2 (allAt_int ?b3 ?b4 (allAt_cons ?b5 (allAt_cons ?b6 (allAt_cons ?b7 allAt_nil))))
        case b1 => with_unfolding_all rfl
        case b2 => omega
        case b3 => with_unfolding_all rfl
        case b4 => omega
        case b5 => with_unfolding_all rfl
        case b6 => with_unfolding_all rfl
        case b7 => with_unfolding_all rfl
      case w =>
        rw [wordsOf_go]
        unfold dotW
        rw [← hz1]
        exact hvw.append' (.cons _ _ .nil)
      case u =>
        rw [turnOf_go, wordsOf_go, ← c4]
        unfold dotW
        rw [show ((q.ins - 1 - ((z / 2) % (q.ins : Int)).toNat : Nat) : Int) = (q.ins : Int) - 1 - (z.fdiv 2).fmod (q.ins : Int) by omega]
        exact hvu.append' (.cons _ _ .nil)
      case sr => (intro z h1 h2; simp only [List.map_cons, List.map_nil, List.mem_cons, List.not_mem_nil, or_false, not_or] at h1 h2; simp [ovr_ne, h1, h2])
      case a1 => rw [List.mem_singleton.mp hq]; exact .head _
      case a2 =>
        rw [List.mem_singleton.mp hr]
        rcases List.mem_cons.mp hq with e | hq
        · rw [e]; exact Nat.ne_of_lt lI.1
        rcases List.mem_cons.mp hq with e | hq
        · rw [e]; exact Nat.ne_of_lt lI.2.1
        rcases List.mem_cons.mp hq with e | hq
        · rw [e]; exact Nat.ne_of_lt lI.2.2.1
        · exact off_lt lI.2.2.2 _ hq
  case done =>
    rintro m' n' h tk ⟨t1, t2, vw, kw, vu, ku, hS, rfl, hvw, hvu⟩ F2 N2
    have F3 := same_fr hS F2
    rw [List.length_map, hln, List.take_length] at hvw hvu
    clear F2 F1 F0 N1 lI
    dsimp only [envOf] at F3 N2
    (try k_fold)
    repeat' (first | (k_unfold; (try dsimp only)) | (k_end; wrow_close) | (first | k_extra "M9" | walk1) | (dsimp only; (first | k_extra "M9" | walk1)) | (leave1; walk_say "STEP leave1"; try dsimp only) | fail "no step")
    rename News h₀ L _ _ => N9
    rename Fr h₀ L _ m => F9
    rename _ ∧ _ ∧ _ ∧ AllLt _ T => lt
    rename_i tp _ _ _ _ _
    rw [← hnmv] at hvw hvu
    refine hret _ (((tp, tupO [.ref W, .ref U]) :: (U, _) :: (W, _) :: (NM, listOf (List.toArray wsn) 0) :: ex) ++ news) _ _ F9 (fun q hq => ?_) ⟨tp, W, U, vw, vu, kw, ku, _, rfl, rfl, .head _, .tail _ (.tail _ (.head _)), .tail _ (.head _), hvw, hvu, fun p hp q hq => ?_⟩
    · refine N9 q ?_
      rw [hTn]
      exact hq
    · have z1 : p.1 < NM := allLt_at hTl p (by rw [hTn]; exact List.mem_append_right _ hp)
      rcases List.mem_cons.mp hq with e | hq
      · rw [e]; exact Nat.lt_trans z1 lt.2.2.1
      rcases List.mem_cons.mp hq with e | hq
      · rw [e]; exact Nat.lt_trans z1 lU.2.1
      rcases List.mem_cons.mp hq with e | hq
      · rw [e]; exact Nat.lt_trans z1 lW.1
      rcases List.mem_cons.mp hq with e | hq
      · rw [e]; exact z1
      · exact hTo p hp q hq
end Mine
namespace Mine
theorem lit_len : (Str.ofString "\\").length = 1 ∧ (Str.ofString "\"").length = 1 ∧ (Str.ofString "\"\n").length = 2 ∧ (Str.ofString " ").length = 1 ∧ (Str.ofString "").length = 0 := by decide +kernel
/-- all the words of a day -/
def allW : List Str := names0 ++ [dotW 0, dotW 1, dotW 2, dotW 3, dotW 4]
/-- a word in the file: in quotes, or each sign escaped -/
def encQ (x : Str) : Str := Str.ofString "\"" ++ PySem.Txt.replace x (Str.ofString "\"") (Str.ofString "\\\"") ++ Str.ofString "\"\n"
def escS (a : Str) : Str := Str.ofString "\\" ++ a
def encE (x : Str) : Str := PySem.Txt.join (Str.ofString "") ((signs x).map escS) ++ Str.ofString " "
def encW (x : Str) (t : Int) : Str := if (t / 120) % 2 = 0 then encQ x else encE x
def fileOf : List Str → List Int → Str
  | x :: r, t :: q => encW x t ++ fileOf r q
  | _, _ => Str.empty
theorem allW_len : ∀ x ∈ allW, x.length ≤ 10 := by decide +kernel
section
variable {prog : Program} {w : World} {A : Around} {E : Value → Shared → Prop} {s₁ : Shared} {h₀ : Heap} {L : Addr} {m : Str → Option Value} {news : Led}
/-- a comprehension over a text: the element walked for a text of one sign -/
theorem comp_sign {env : Env} {elt : Expr} {x : Str} {scope : Scope} {Q : Value → Shared → Prop} {y : Str} {t : Tok} (d : Str → Str)
    (hh : A.handled = none) (F : Fr h₀ L s₁.heap m) (N : News h₀ L s₁.heap news) (hsz : y.length ≤ sizeLine)
    (elem : ∀ C a u s₂ m₂ E', a.length = 1 → s₂.heap.Ns (compEnv scope C env).locals m₂ → m₂ x = some (.str a u) → wpAny (model prog w) A (eval elt (compEnv scope C env)) (fun r s₃ => Carried r (.str (d a)) ∧ Keeps s₂ s₃) E' s₂)
    (rest : ∀ D (ys : List Value) c h' tk, Fr h₀ L h' m → News h₀ L h' ((D, listOf ys.toArray c) :: news) → StrsAre ys ((signs y).map d) → Q (.ref D) { s₁ with heap := h', toks := tk }) :
    wpAny (model prog w) A (pyIter (.str y t)) (CompPost prog w A env scope x [] elt Q) E s₁ := by
  refine wpAny_pyIter_str fun o St W hst => ?_
  have up : ∀ (h' : Heap), (∀ b o', b ∉ [s₁.heap.objs.size] → (s₁.heap.push o).get? b = some o' → h'.get? b = some o') → ∀ b o', s₁.heap.get? b = some o' → h'.get? b = some o' :=
    fun h' hk b o' e => hk b o' (old_not_new e) (Heap.get?_push_of_some _ e)
  have hl : ∀ c : Nat, (⟨#[c]⟩ : Str).length = 1 := fun c => rfl
  refine ⟨ItemKind.str.lift fun _ => true, fun v r => ∃ a, ItemKind.str.is a v ∧ Carried r (.str (d a)), s₁.heap.objs.size, [s₁.heap.objs.size], [s₁.heap.objs.size], y.cps.size, SignAt y, St, rfl, W A hh, hsz, hst, ?_, ⟨?_, ?_⟩, ?_⟩
  · intro b hb
    show b < (s₁.heap.push o).objs.size
    rw [Heap.size_push, List.mem_singleton.mp hb]
    exact Nat.lt_succ_self _
  · intro C i v s₃ m₃ E' hP hn hm _ htk
    obtain ⟨c, u, _, rfl⟩ := hP
    have ha : ItemKind.str.is ⟨#[c]⟩ (.str ⟨#[c]⟩ u) := ⟨u, rfl⟩
    rw [ItemKind.lift_is ha]
    exact wpAny_pure ⟨rfl, ⟨_, _, rfl, fun _ _ e => e⟩⟩
  · intro C i v s₃ m₃ E' hP hp hn hm _ htk
    obtain ⟨c, u, _, rfl⟩ := hP
    exact wpAny_mono (elem C _ u s₃ m₃ E' (hl c) hn hm) (fun r s₄ h₄ => ⟨⟨⟨#[c]⟩, ⟨u, rfl⟩, h₄.1⟩, h₄.2⟩) fun _ _ e => e
  · intro D h' tk ys vs hnew hlD hplD hlen hP hF hk
    obtain ⟨c, e⟩ := hplD
    have hc := (areOf_signs hlen hP).paired (fun _ => true) (fun a => PyData.str (d a)) _ hF
    have hf : ∀ l : List Str, l.filter (fun _ => true) = l := fun l => by simp
    rw [hf, show (signs y).map (fun a => PyData.str (d a)) = ((signs y).map d).map PyData.str by rw [List.map_map]; rfl] at hc
    refine rest D ys.toList c h' tk (F.keeps (up h' hk)) (fun p hp => ?_) (StrsAre.of_carried hc)
    rcases List.mem_cons.mp hp with rfl | hp
    · refine ⟨by rw [Array.toArray_toList]; exact e, ?_, ?_⟩
      · rintro rfl
        obtain ⟨o', _, _, ho', _⟩ := (F.push o).ns
        rw [ho'] at hnew; cases hnew
      · show h₀.get? D = none
        cases q : h₀.get? D with
        | none => rfl
        | some o' => rw [Heap.get?_push_of_some _ (F.keep _ _ q)] at hnew; cases hnew
    · exact N.grown (up h' hk) p hp
end
theorem esc_sum (y : Str) (h : y.length ≤ 10) : (((signs y).map escS).map (·.length)).sum + ((signs y).map escS).length ≤ 1048576 := by
  have h1 := sumLen_le_of_bound escS 2 (signs y) (fun a ha => by
    have := sign_length_one y a ha
    unfold escS
    rw [Str.length_append, this]
    exact Nat.le_of_ble_eq_true rfl)
  rw [signs_length] at h1
  rw [List.length_map, signs_length]
  omega
theorem allW_enc : ∀ x ∈ allW, (PySem.Txt.replace x (Str.ofString "\"") (Str.ofString "\\\"")).length ≤ 20 ∧ (PySem.Txt.join (Str.ofString "") ((signs x).map escS)).length ≤ 20 := by decide +kernel
theorem encW_len (x : Str) (t : Int) (h : x ∈ allW) : (encW x t).length ≤ 24 := by
  obtain ⟨h1, h2⟩ := allW_enc x h
  unfold encW
  split
  · unfold encQ; simp only [Str.length_append, lit_len]; omega
  · unfold encE; simp only [Str.length_append, lit_len]; omega
theorem fileOf_len : ∀ (xs : List Str) (ts : List Int), (∀ x ∈ xs, x ∈ allW) → (fileOf xs ts).length ≤ 24 * xs.length
  | [], _, _ => Nat.zero_le _
  | x :: r, [], _ => Nat.zero_le _
  | x :: r, t :: q, h => by
    have h1 := encW_len x t (h x (List.mem_cons_self ..))
    have h2 := fileOf_len r q (fun y hy => h y (List.mem_cons_of_mem _ hy))
    simp only [fileOf, Str.length_append, List.length_cons]
    omega
theorem fileOf_snoc (x : Str) (t : Int) : ∀ (xs : List Str) (ts : List Int), xs.length = ts.length → fileOf (xs ++ [x]) (ts ++ [t]) = fileOf xs ts ++ encW x t
  | [], [], _ => by simp only [List.nil_append, fileOf]; rw [Str.empty_append, Str.append_empty]
  | y :: r, z :: q, h => by
    simp only [List.cons_append, fileOf]
    rw [fileOf_snoc x t r q (by simpa using h), Str.append_assoc]
  | [], z :: q, h => by simp at h
  | y :: r, [], h => by simp at h
theorem fileOf_take (xs : List Str) (ts : List Int) (i : Nat) (x : Str) (t : Int) (hx : xs[i]? = some x) (ht : ts[i]? = some t) : fileOf (xs.take (i + 1)) (ts.take (i + 1)) = fileOf (xs.take i) (ts.take i) ++ encW x t := by
  rw [List.take_add_one, List.take_add_one, hx, ht]
  have h1 := (List.getElem?_eq_some_iff.mp hx).1
  have h2 := (List.getElem?_eq_some_iff.mp ht).1
  exact fileOf_snoc x t _ _ (by simp; omega)
theorem file_spec (w : World) (news : Led) (l1 l2 : Addr) (vs1 vs2 : List Value) (xs : List Str) (ts : List Int) (k1 k2 : Nat) (hl1 : (l1, listOf vs1.toArray k1) ∈ news) (hl2 : (l2, listOf vs2.toArray k2) ∈ news) (hx : StrsAre vs1 xs) (hi : IntsAre vs2 ts)
   (hxl : xs.length = 10) (hsz : ts.length = 10) (hw : Within 40000000 ts) (hW : ∀ x ∈ xs, x ∈ allW) :
   Tell w 2 138 [.ref l1, .ref l2] news fun v n => ∃ t, v = .str (fileOf xs ts) t ∧ n = news := by
  w_top off; have hfill9 := (show top0.heap_39 = top0.heap_39 ∧ PySem.Challenge.rw_xe0021_01 = PySem.Challenge.rw_xe0021_01 by k_fill; exact ⟨rfl, rfl⟩); clear hfill9; k_with_none
  k_with "M9" => ((with_reducible show wpAny _ _ (inplaceOp Operator.Add (Value.str _ _) (Value.str _ _)) _ _ _); (k_here; k_dflt (refine' PyProof.Rows.iadd_str ?_ ?hszq3916; (case hszq3916 => (rw [sizeLine_eq]; simp only [Str.length_append, lit_len]; omega)); k_whole); intro _ _))
  k_with "M9" => ((with_reducible show wpAny _ _ (binaryOp Operator.Add (Value.str _ _) (Value.str _ _)) _ _ _); (k_here; k_dflt (refine' PyProof.Rows.add_str ?_ ?hszq3811; (case hszq3811 => (rw [sizeLine_eq]; simp only [Str.length_append, lit_len]; omega)); k_whole); intro _ _))
  k_with "M9" => (k_here; (with_reducible show wpAny _ _ (pyIter (Value.str _ _)) (CompPost _ _ _ _ _ _ _ _ _) _ _); k_dflt (refine' comp_sign escS ?hhq9394 ?Fq9394 ?Nq9394 ?zq9394 ?elq9394 ?rsq9394; (case hhq9394 => rfl); (case Fq9394 => k_asm); (case Nq9394 => k_asm); (case zq9394 => rw [sizeLine_eq]; omega)); (case' rsq9394 => (intro _ _ _ _ _ _ _ _)); (case' elq9394 => (intro _ _ _ _ _ _ _ _ _; (try (with_reducible refine wpAny_leafK ?_)))))
  k_with "M9" => (k_here; (with_reducible show wpAny _ _ (call (Value.builtin _) [Value.str _ _, Value.ref _]) _ _ _); k_dflt (refine' join_listW ?lq5672 ?iq5672 ?sq5672 ?wq5672 ?_; (case lq5672 => exact News.isList (by k_asm) (by k_mem)); (case iq5672 => assumption); (case sq5672 => decide); (case wq5672 => exact esc_sum _ (by assumption)); k_whole); intro _ _)
  have hln : vs2.length = ts.length := hi.length
  have hlx : vs1.length = xs.length := hx.length
  intro nm ig ic mr gd cn a ccd cl outer A₀ base h₀ L m s Q E p loose mean mg mb B F X N T hret
  k_enter
  repeat' (first | (k_unfold; (try dsimp only)) | (k_end; wrow_close) | ((fail_if_success (with_reducible show wpAny _ _ (exec (Stmt.While _ _ _ _) _) _ _ _)); (fail_if_success (with_reducible show wpAny _ _ (exec (Stmt.For _ _ _ _ _) _) _ _ _)); (first | k_extra "M9" | walk1)) | (dsimp only; (first | k_extra "M9" | walk1)) | (leave1; walk_say "STEP leave1"; try dsimp only) | fail "no step")
  rename Fr _ _ _ _ => F1
  rename News _ _ _ _ => N1
  k_dflt (refine' For_turns F1 ?_)
  repeat' (first | ((fail_if_success (with_reducible show wpAny _ _ (call (Value.type _) _) _ _ _)); (fail_if_success (with_reducible show wpAny _ _ (pyIter _) _ _ _)); (first | k_extra "M9" | walk1)))
  rename Fr _ _ _ _ => F1
  rename News _ _ _ _ => N1
  obtain ⟨m0, A0, F0⟩ := named F1 [("text", .str (Str.ofString "") _)] (by (repeat (refine allAt_cons (by with_unfolding_all rfl) ?_)); exact allAt_nil)
  k_dflt (refine' ktu_zip rfl F0 N1 hl1 rfl rfl hl2 rfl rfl (fun I lI => items_inv (fun i m' n' => ∃ t1, Same ["word", "total"] [("text", .str (fileOf (xs.take i) (ts.take i)) t1)] m0 m' ∧ news = n') ?turn ?done 0 _ _ (Nat.zero_le _) ?j0))
  case j0 => exact ⟨_, same_start A0, rfl⟩
  case turn =>
    rintro i x m' n' v h tk hx' ⟨t1, hS, rfl⟩ hv F2 o1 ho1 o2 ho2 o3 ho3 o4 ho4 o5 ho5 PP hPP N2
    have hil : i < 10 := by have := (List.getElem?_eq_some_iff.mp hx').1; rw [zipItems_length] at this; omega
    rw [zipItems_get vs1 vs2 i (List.getElem?_eq_getElem (by omega)) (List.getElem?_eq_getElem (by omega))] at hx'
    obtain rfl := Option.some.inj hx'
    obtain ⟨TP, tt, rfl, hT⟩ := hv
    obtain ⟨y, ty, hy, hyi⟩ := hx.item i _ (List.getElem?_eq_getElem (by omega))
    obtain ⟨z, tz, hz, hzi⟩ := hi.at i _ (List.getElem?_eq_getElem (by omega))
    rw [hz, hy] at hT
    dsimp only at hT
    obtain ⟨hyr, hyj⟩ := allW_enc y (hW y (List.mem_of_getElem? hyi))
    have hfl : (fileOf (xs.take i) (ts.take i)).length ≤ 240 := by have := fileOf_len (xs.take i) (ts.take i) (fun x hx => hW x (List.mem_of_mem_take hx)); simp only [List.length_take] at this; omega
    have hyl := allW_len y (hW y (List.mem_of_getElem? hyi))
    have hyW := hW y (List.mem_of_getElem? hyi)
    have hzb := hw z (List.mem_of_getElem? hzi)
    have F3 := same_fr hS F2
    simp only [List.cons_append, List.nil_append] at N2
    clear F2 F1 F0 N1
    dsimp only [envOf] at F3 N2
    (try k_fold)
    k_dflt (refine' unpackN_ F3 N2 hT ?k1 ?k2 ?k3 ?_)
    case k1 => exact rfl
    case k2 => exact rfl
    case k3 => exact rfl
    intro h' F' N'
    clear F3 N2
    have hzm : (z.fdiv 120).fmod 2 = (z / 120) % 2 := by rw [Int.fdiv_eq_ediv_of_nonneg _ (by decide), Int.fmod_eq_emod_of_nonneg _ (by decide)]
    repeat' (first | (k_unfold; (try dsimp only)) | (k_end; wrow_close) | (first | k_extra "M9" | walk1) | (dsimp only; (first | k_extra "M9" | walk1)) | (leave1; walk_say "STEP leave1"; try dsimp only) | fail "no step")
    all_goals
      rename News _ _ _ _ => N9
      rename Fr _ _ _ _ => F9
      refine hPP _ ?_
      rw [fileOf_take xs ts i y z hyi hzi]
      rcases Decidable.em ((z / 120) % 2 = 0) with hcm | hcm
      all_goals try (exfalso; omega)
      first
        | (have e : encW y z = encQ y := if_pos hcm
           rw [e]
           unfold encQ
           refine' turn_end F9 N9 news (fun q hq => List.mem_append_left news hq) (fun q hq => List.mem_append_right [_, _, _, _, _] hq) (fun p hp r hr => ?a2) ⟨⟨hl1, hl2, trivial⟩, _, same_of ?sm ?sr, rfl⟩
           case sr => (intro z h1 h2; simp only [List.map_cons, List.map_nil, List.mem_cons, List.not_mem_nil, or_false, not_or] at h1 h2; simp [ovr_ne, h1, h2])
           case a2 =>
             have z1 : p.1 < I := lI p hp
             simp only [List.mem_cons, List.not_mem_nil, or_false] at hr
             rcases hr with rfl | rfl | rfl | rfl | rfl
             · exact Nat.ne_of_lt (Nat.lt_of_lt_of_le z1 (Nat.le_add_right _ _))
             · exact Nat.ne_of_lt (Nat.lt_of_lt_of_le z1 (Nat.le_add_right _ _))
             · exact Nat.ne_of_lt (Nat.lt_of_lt_of_le z1 (Nat.le_add_right _ _))
             · exact Nat.ne_of_lt z1
             · exact Nat.ne_of_lt (Nat.lt_of_lt_of_le z1 (Nat.le_add_right _ _))
           case sm => refine allAt_cons ?_ allAt_nil; with_unfolding_all rfl)
        | (have e : encW y z = encE y := if_neg hcm
           rw [e]
           unfold encE
           refine' turn_end F9 N9 news (fun q hq => .tail _ (List.mem_append_left news hq)) (fun q hq => .tail _ (List.mem_append_right [_, _, _, _, _] hq)) (fun p hp r hr => ?a2) ⟨⟨hl1, hl2, trivial⟩, _, same_of ?sm ?sr, rfl⟩
           case sr => (intro z h1 h2; simp only [List.map_cons, List.map_nil, List.mem_cons, List.not_mem_nil, or_false, not_or] at h1 h2; simp [ovr_ne, h1, h2])
           case a2 =>
             have z1 : p.1 < I := lI p hp
             simp only [List.mem_cons, List.not_mem_nil, or_false] at hr
             rcases hr with rfl | rfl | rfl | rfl | rfl
             · exact Nat.ne_of_lt (Nat.lt_of_lt_of_le z1 (Nat.le_add_right _ _))
             · exact Nat.ne_of_lt (Nat.lt_of_lt_of_le z1 (Nat.le_add_right _ _))
             · exact Nat.ne_of_lt (Nat.lt_of_lt_of_le z1 (Nat.le_add_right _ _))
             · exact Nat.ne_of_lt z1
             · exact Nat.ne_of_lt (Nat.lt_of_lt_of_le z1 (Nat.le_add_right _ _))
           case sm => refine allAt_cons ?_ allAt_nil; with_unfolding_all rfl)
  case done =>
    rintro m' n' h tk ⟨t1, hS, rfl⟩ F2 N2
    have F3 := same_fr hS F2
    rw [zipItems_length, List.take_of_length_le (by omega), List.take_of_length_le (by omega)] at F3
    clear F2 F1 F0 N1
    dsimp only [envOf] at F3 N2
    (try k_fold)
    repeat' (first | (k_unfold; (try dsimp only)) | (k_end; wrow_close) | (first | k_extra "M9" | walk1) | (dsimp only; (first | k_extra "M9" | walk1)) | (leave1; walk_say "STEP leave1"; try dsimp only) | fail "no step")
    rename News h₀ L _ _ => N9
    rename Fr h₀ L _ m => F9
    exact hret _ _ _ _ F9 N9 ⟨_, rfl, rfl⟩
end Mine
namespace Mine
/-- plain: who is inside (coming, name), who has gone, how many came -/
structure PS where
  row : List (Int × Str)
  stays : List Stay
  came : Nat
def pStep (nm : List Str) (i : Nat) (q : PS) : Option Nat → PS
  | none => ⟨q.row ++ [((i : Int), nm.getD q.came Str.empty)], q.stays, q.came + 1⟩
  | some f => match q.row[f]? with
    | some (c, x) => ⟨q.row.eraseIdx f, q.stays ++ [(c, (i : Int), x)], q.came⟩
    | none => q
def pRun (nm : List Str) : Nat → PS → List (Option Nat) → PS
  | _, q, [] => q
  | i, q, o :: r => pRun nm (i + 1) (pStep nm i q o) r
def pOf (nm : List Str) (st : List (Option Nat)) : PS := pRun nm 0 ⟨[], [], 0⟩ st
theorem pRun_snoc (nm : List Str) (o : Option Nat) : ∀ (st : List (Option Nat)) (i : Nat) (q : PS), pRun nm i q (st ++ [o]) = pStep nm (i + st.length) (pRun nm i q st) o
  | [], i, q => rfl
  | a :: r, i, q => by
    simp only [List.cons_append, pRun, List.length_cons]
    rw [pRun_snoc nm o r, show i + 1 + r.length = i + (r.length + 1) by omega]
theorem pOf_take (nm : List Str) (st : List (Option Nat)) (i : Nat) (o : Option Nat) (h : st[i]? = some o) : pOf nm (st.take (i + 1)) = pStep nm i (pOf nm (st.take i)) o := by
  unfold pOf
  rw [List.take_add_one, h]
  have hi := (List.getElem?_eq_some_iff.mp h).1
  show pRun nm 0 _ (st.take i ++ [o]) = _
  rw [pRun_snoc, List.length_take, show 0 + min i st.length = i by omega]
/-- the steps can be gone: each figure is below the number of those inside, at most five come -/
def Good : Nat → Nat → List (Option Nat) → Prop
  | _, _, [] => True
  | c, n, none :: r => c < 5 ∧ Good (c + 1) (n + 1) r
  | c, n, some f :: r => f < n ∧ Good c (n - 1) r
/-- the words' values of a row -/
def RowAre (news : Led) (vs : List Value) (row : List (Int × Str)) : Prop :=
  vs.length = row.length ∧ ∀ (i : Nat) (x : Int × Str), row[i]? = some x → ∃ (p : Addr) (t1 t2 : Tok), vs[i]? = some (Value.ref p) ∧ (p, tupO [.int x.1 t1, .str x.2 t2]) ∈ news
theorem wordsOf_get (nm : List Str) : ∀ (st : List (Option Nat)) (c i : Nat) (o : Option Nat), st[i]? = some o → (wordsOf nm c st)[i]? = some (match o with | none => nm.getD (c + comings (st.take i)) Str.empty | some f => dotW f)
  | [], _, _, _, h => by simp at h
  | none :: r, c, 0, o, h => by cases h; simp [wordsOf, comings]
  | some f :: r, c, 0, o, h => by cases h; simp [wordsOf]
  | none :: r, c, i + 1, o, h => by
    have := wordsOf_get nm r (c + 1) i o (by simpa using h)
    simp only [wordsOf, List.getElem?_cons_succ, this, List.take_succ_cons]
    rw [show comings (none :: r.take i) = comings (r.take i) + 1 by simp [comings], show c + 1 + comings (r.take i) = c + (comings (r.take i) + 1) by omega]
  | some f :: r, c, i + 1, o, h => by
    have := wordsOf_get nm r c i o (by simpa using h)
    simp only [wordsOf, List.getElem?_cons_succ, this, List.take_succ_cons]
    rw [show comings (some f :: r.take i) = comings (r.take i) by simp [comings]]
/-- what holds of a run -/
theorem pStep_inv (nm : List Str) (i : Nat) (q : PS) (o : Option Nat) (n : Nat) (h : q.row.length = n) (hg : ∀ f, o = some f → f < n) :
    (pStep nm i q o).row.length = (match o with | none => n + 1 | some _ => n - 1) ∧ (pStep nm i q o).came = (match o with | none => q.came + 1 | some _ => q.came) := by
  cases o with
  | none => simp [pStep, h]
  | some f =>
    have hf := hg f rfl
    have hf' : f < q.row.length := by omega
    simp only [pStep, List.getElem?_eq_getElem hf', List.length_eraseIdx, if_pos hf']
    exact ⟨by omega, trivial⟩
theorem good_run (nm : List Str) : ∀ (st : List (Option Nat)) (c n i : Nat) (q : PS), Good c n st → q.row.length = n → q.came = c → ∀ j, j < st.length →
    ∀ o, st[j]? = some o → (∀ f, o = some f → f < (pRun nm i q (st.take j)).row.length) ∧ (o = none → (pRun nm i q (st.take j)).came < 5) ∧ (pRun nm i q (st.take j)).came = c + comings (st.take j)
  | [], _, _, _, _, _, _, _, j, hj => by simp at hj
  | a :: r, c, n, i, q, hg, hn, hc, 0, _ => by
    intro o ho
    cases ho
    refine ⟨?_, ?_, by simp [pRun, comings, hc]⟩
    · intro f e; subst e; simp only [Good] at hg; simp only [List.take_zero, pRun]; omega
    · intro e; subst e; simp only [Good] at hg; simp only [List.take_zero, pRun]; omega
  | none :: r, c, n, i, q, hg, hn, hc, j + 1, hj => by
    intro o ho
    simp only [Good] at hg
    have hs := pStep_inv nm i q none n hn (by intro f e; cases e)
    have := good_run nm r (c + 1) (n + 1) (i + 1) (pStep nm i q none) hg.2 hs.1 (by rw [hs.2, hc]) j (by simpa using hj) o (by simpa using ho)
    simp only [List.take_succ_cons, pRun]
    refine ⟨this.1, this.2.1, ?_⟩
    rw [this.2.2]; simp [comings]; omega
  | some f :: r, c, n, i, q, hg, hn, hc, j + 1, hj => by
    intro o ho
    simp only [Good] at hg
    have hs := pStep_inv nm i q (some f) n hn (by intro g e; cases e; exact hg.1)
    have := good_run nm r c (n - 1) (i + 1) (pStep nm i q (some f)) hg.2 hs.1 (by rw [hs.2, hc]) j (by simpa using hj) o (by simpa using ho)
    simp only [List.take_succ_cons, pRun]
    refine ⟨this.1, this.2.1, ?_⟩
    rw [this.2.2]; simp [comings]
theorem allW_len1 : ∀ x ∈ allW, 1 ≤ x.length ∧ x.length ≤ 10 := by decide +kernel
theorem name_in {nms : List Str} (hnm : ∀ x ∈ nms, x ∈ names0) {k : Nat} (h : k < nms.length) : nms.getD k Str.empty ∈ names0 := by
  rw [List.getD_eq_getElem?_getD, List.getElem?_eq_getElem h]
  exact hnm _ (List.getElem_mem _)
theorem name_allW {x : Str} (h : x ∈ names0) : x ∈ allW := List.mem_append_left _ h
theorem dot_allW {f : Nat} (h : f < 5) : dotW f ∈ allW := by
  have : f = 0 ∨ f = 1 ∨ f = 2 ∨ f = 3 ∨ f = 4 := by omega
  rcases this with rfl | rfl | rfl | rfl | rfl <;> simp [allW]
theorem good_bound (nm : List Str) : ∀ (st : List (Option Nat)) (c n i : Nat) (q : PS), Good c n st → q.row.length = n → q.came = c → n ≤ c → c ≤ 5 → ∀ j, j ≤ st.length →
    (pRun nm i q (st.take j)).row.length ≤ (pRun nm i q (st.take j)).came ∧ (pRun nm i q (st.take j)).came ≤ 5 ∧ (pRun nm i q (st.take j)).stays.length + (pRun nm i q (st.take j)).row.length = q.stays.length + (pRun nm i q (st.take j)).came + n - c
  | [], c, n, i, q, _, hn, hc, h1, h2, j, hj => by
    have : j = 0 := by simpa using hj
    subst this
    simp only [List.take_zero, pRun]; omega
  | a :: r, c, n, i, q, _, hn, hc, h1, h2, 0, _ => by simp only [List.take_zero, pRun]; omega
  | none :: r, c, n, i, q, hg, hn, hc, h1, h2, j + 1, hj => by
    simp only [Good] at hg
    have hs := pStep_inv nm i q none n hn (by intro f e; cases e)
    have := good_bound nm r (c + 1) (n + 1) (i + 1) (pStep nm i q none) hg.2 hs.1 (by rw [hs.2, hc]) (by omega) (by omega) j (by simpa using hj)
    simp only [List.take_succ_cons, pRun]
    have e : (pStep nm i q none).stays = q.stays := rfl
    rw [e] at this
    omega
  | some f :: r, c, n, i, q, hg, hn, hc, h1, h2, j + 1, hj => by
    simp only [Good] at hg
    have hs := pStep_inv nm i q (some f) n hn (by intro g e; cases e; exact hg.1)
    have := good_bound nm r c (n - 1) (i + 1) (pStep nm i q (some f)) hg.2 hs.1 (by rw [hs.2, hc]) (by omega) (by omega) j (by simpa using hj)
    simp only [List.take_succ_cons, pRun]
    have e : (pStep nm i q (some f)).stays.length = q.stays.length + 1 := by
      have hf : f < q.row.length := by omega
      simp [pStep, List.getElem?_eq_getElem hf]
    rw [e] at this
    omega
theorem kl_cut_some : ∀ (l : List Value) (k : Nat) (v : Value), l[k]? = some v → kl_cut l k = some (l.take k, v, l.drop (k + 1))
  | [], _, _, h => by simp at h
  | a :: r, 0, v, h => by cases h; rfl
  | a :: r, k + 1, v, h => by
    unfold kl_cut
    rw [kl_cut_some r k v (by simpa using h)]
    rfl
section
variable {prog : Program} {w : World} {A : Around} {E : Value → Shared → Prop} {s : Shared} {h₀ : Heap} {L : Addr} {m : Str → Option Value} {news : List (Addr × Obj)}
theorem popL_at {l : Addr} {vs : List Value} {v : Value} {k f : Nat} {t : Tok} {news' : Led} {Q : Value → Shared → Prop} (F : Fr h₀ L s.heap m) (N : News h₀ L s.heap news) (hv : vs[f]? = some v) (U : Upd l (listOf vs.toArray k) (listOf (vs.eraseIdx f).toArray (k + 1)) news news') (hz : vs.length ≤ 1000)
    (h : ∀ h', Fr h₀ L h' m → News h₀ L h' news' → Q v { s with heap := h' }) : wpAny (model prog w) A (call (.builtin "list.pop") [.ref l, .int (f : Int) t]) Q E s := by
  have hf := (List.getElem?_eq_some_iff.mp hv).1
  refine kl_popAt (k := f) (n := k) F N ?_ ?_ (kl_cut_some vs f v hv) ?_ (by rw [sizeLine_eq]; simp; omega) h
  · simp only [Builtin.List.listFitsIndex, Bool.and_eq_true, decide_eq_true_eq]; omega
  · unfold seqIndex?
    simp
    omega
  · rw [← List.eraseIdx_eq_take_drop_succ]; exact U
theorem eq_str_known {x y : Str} {t u : Tok} {b : Bool} {Q : Value → Shared → Prop} (e : (x == y) = b) (h : Q (.bool b) s) : wpAny (model prog w) A (compareOp .Eq (.str x t) (.str y u)) Q E s :=
  PyProof.Rows.eq_str (by rw [e]; exact h)
end
theorem names_nodot : ∀ x ∈ names0, (PySem.Txt.item x 0 == Str.ofString ".") = false := by decide +kernel
theorem dots_read : ∀ f ∈ [0, 1, 2, 3, 4], (PySem.Txt.item (dotW f) 0 == Str.ofString ".") = true ∧ PySem.intText? (PySem.Txt.slice (dotW f) (some 1) none) = some (f : Int) := by decide +kernel
theorem five {f : Nat} (h : f < 5) : f ∈ [0, 1, 2, 3, 4] := by
  have : f = 0 ∨ f = 1 ∨ f = 2 ∨ f = 3 ∨ f = 4 := by omega
  simpa using this
theorem ownOff_cons {T : Led} {a : Addr × Obj} {as : List Addr} (h : OwnOff T as) (ha : ∀ b ∈ as, a.1 ≠ b) : OwnOff (a :: T) as := by
  intro p hp b hb
  rcases List.mem_cons.mp hp with rfl | hp
  · exact ha b hb
  · exact h p hp b hb
theorem RowAre.sub {T T' : Led} {vr : List Value} {row : List (Int × Str)} (h : RowAre T vr row) (hs : ∀ p ∈ T, p ∈ T') : RowAre T' vr row :=
  ⟨h.1, fun i x hx => by obtain ⟨p, t1, t2, h1, h2⟩ := h.2 i x hx; exact ⟨p, t1, t2, h1, hs _ h2⟩⟩
theorem RowAre.snoc {T : Led} {vr : List Value} {row : List (Int × Str)} {p : Addr} {c : Int} {x : Str} {t1 t2 : Tok} (h : RowAre T vr row) (hp : (p, tupO [.int c t1, .str x t2]) ∈ T) : RowAre T (vr ++ [.ref p]) (row ++ [(c, x)]) := by
  refine ⟨by simp [h.1], fun i y hy => ?_⟩
  rcases Nat.lt_or_ge i row.length with hi | hi
  · rw [List.getElem?_append_left hi] at hy
    obtain ⟨p', u1, u2, h1, h2⟩ := h.2 i y hy
    exact ⟨p', u1, u2, by rw [List.getElem?_append_left (by rw [h.1]; exact hi)]; exact h1, h2⟩
  · rw [List.getElem?_append_right hi] at hy
    have e : i - row.length = 0 := by have := (List.getElem?_eq_some_iff.mp hy).1; simpa using this
    rw [e] at hy
    have hy' : (c, x) = y := by simpa using hy
    subst hy'
    exact ⟨p, t1, t2, by rw [List.getElem?_append_right (by rw [h.1]; exact hi), h.1, e]; rfl, hp⟩
theorem RowAre.erase {T : Led} {vr : List Value} {row : List (Int × Str)} (h : RowAre T vr row) (f : Nat) : RowAre T (vr.eraseIdx f) (row.eraseIdx f) := by
  refine ⟨by simp [List.length_eraseIdx, h.1], fun i y hy => ?_⟩
  rw [List.getElem?_eraseIdx] at hy ⊢
  split at hy
  · rename_i hi; obtain ⟨p, u1, u2, h1, h2⟩ := h.2 _ y hy; exact ⟨p, u1, u2, by rw [if_pos hi]; exact h1, h2⟩
  · rename_i hi; obtain ⟨p, u1, u2, h1, h2⟩ := h.2 _ y hy; exact ⟨p, u1, u2, by rw [if_neg hi]; exact h1, h2⟩
theorem StaysAre.sub {T T' : Led} {vr : List Value} {ss : List Stay} (h : StaysAre T vr ss) (hs : ∀ p ∈ T, p ∈ T') : StaysAre T' vr ss :=
  ⟨h.1, fun i x hx => by obtain ⟨p, t1, t2, t3, h1, h2⟩ := h.2 i x hx; exact ⟨p, t1, t2, t3, h1, hs _ h2⟩⟩
theorem StaysAre.snoc {T : Led} {vr : List Value} {ss : List Stay} {p : Addr} {c g : Int} {x : Str} {t1 t2 t3 : Tok} (h : StaysAre T vr ss) (hp : (p, tupO [.int c t1, .int g t2, .str x t3]) ∈ T) : StaysAre T (vr ++ [.ref p]) (ss ++ [(c, g, x)]) := by
  refine ⟨by simp [h.1], fun i y hy => ?_⟩
  rcases Nat.lt_or_ge i ss.length with hi | hi
  · rw [List.getElem?_append_left hi] at hy
    obtain ⟨p', u1, u2, u3, h1, h2⟩ := h.2 i y hy
    exact ⟨p', u1, u2, u3, by rw [List.getElem?_append_left (by rw [h.1]; exact hi)]; exact h1, h2⟩
  · rw [List.getElem?_append_right hi] at hy
    have e : i - ss.length = 0 := by have := (List.getElem?_eq_some_iff.mp hy).1; simpa using this
    rw [e] at hy
    have hy' : (c, g, x) = y := by simpa using hy
    subst hy'
    exact ⟨p, t1, t2, t3, by rw [List.getElem?_append_right (by rw [h.1]; exact hi), h.1, e]; rfl, hp⟩
end Mine
namespace Mine
inductive PlainJ (R S I : Addr) (news : Led) (m0 : Str → Option Value) (q : PS) (m' : Str → Option Value) (n' : Led) : Prop
  | mk (vr : List Value) (kr : Nat) (vst : List Value) (kst : Nat) (T new : Led) (hS : Same ["moment", "word", "came", "name"] [("row", .ref R), ("stays", .ref S)] m0 m') (hn : (S, listOf (List.toArray vst) kst) :: (R, listOf (List.toArray vr) kr) :: T = n') (hT : new ++ news = T)
    (hoff : OwnOff T [S, R, I, I + 1]) (hnew : ∀ p ∈ news, ∀ q ∈ new, p.1 < q.1) (hr : RowAre T vr q.row) (hst : StaysAre T vst q.stays) : PlainJ R S I news m0 q m' n'
theorem plain_spec (w : World) (news : Led) (l : Addr) (vs : List Value) (nms : List Str) (st : List (Option Nat)) (k : Nat) (hl : (l, listOf vs.toArray k) ∈ news) (hi : StrsAre vs (wordsOf nms 0 st)) (hnm : ∀ x ∈ nms, x ∈ names0) (hnl : nms.length = 5) (hg : Good 0 0 st) (hsz : st.length = 10) :
   Tell w 2 159 [.ref l] news fun v n => ∃ r vr kr new, v = .ref r ∧ n = new ++ news ∧ (r, listOf (List.toArray vr) kr) ∈ new ∧ StaysAre (new ++ news) vr (pOf nms st).stays ∧ (∀ p ∈ news, ∀ q ∈ new, p.1 < q.1) := by
  w_top off; have hfill9 := (show top0.heap_39 = top0.heap_39 ∧ PySem.Challenge.rw_xe0021_01 = PySem.Challenge.rw_xe0021_01 by k_fill; exact ⟨rfl, rfl⟩); clear hfill9; k_with_none
  k_with "M9" => ((with_reducible show wpAny _ _ (compareOp CmpOp.Eq (Value.str _ _) (Value.str _ _)) _ _ _); (k_here; k_dflt (refine' eq_str_known ?eq8292 ?_; (case eq8292 => with_reducible assumption); k_whole)))
  k_with "M9" => (k_here; (with_reducible show wpAny _ _ (call (Value.builtin _) [Value.ref _, Value.int _ _]) _ _ _); k_dflt (refine' popL_at ?Fq4365 ?Nq4365 ?vq4365 ?Uq4365 ?zq4365 ?_; (case Fq4365 => k_asm); (case Nq4365 => k_asm); (case vq4365 => with_reducible assumption); (case Uq4365 => k_upd); (case zq4365 => omega); k_whole); intro _ _ _; (try k_sweep))
  k_with "M9" => (k_here; (with_reducible show wpAny _ _ (assign (Expr.Tuple _ _ _) _ (Value.ref _)) _ _ _); k_dflt (refine' unpackN_ ?Fq7106 ?Nq7106 ?Tq7106 ?k1q7106 ?k2q7106 ?k3q7106 ?_; (case Fq7106 => k_asm); (case Nq7106 => k_asm); (case Tq7106 => exact News.isTup (by k_asm) (by k_mem)); (case k1q7106 => exact rfl); (case k2q7106 => exact rfl); (case k3q7106 => exact rfl); k_whole); intro _ _ _; (try k_sweep))
  have hln : vs.length = st.length := by rw [hi.length, wordsOf_length]
  intro nm ig ic mr gd cn a ccd cl outer A₀ base h₀ L m s Q E p loose mean mg mb B F X N T hret
  k_enter
  repeat' (first | (k_unfold; (try dsimp only)) | (k_end; wrow_close) | ((fail_if_success (with_reducible show wpAny _ _ (exec (Stmt.While _ _ _ _) _) _ _ _)); (fail_if_success (with_reducible show wpAny _ _ (exec (Stmt.For _ _ _ _ _) _) _ _ _)); (first | k_extra "M9" | walk1)) | (dsimp only; (first | k_extra "M9" | walk1)) | (leave1; walk_say "STEP leave1"; try dsimp only) | fail "no step")
  rename Fr _ _ _ _ => F1
  k_dflt (refine' For_turns F1 ?_)
  repeat' (first | ((fail_if_success (with_reducible show wpAny _ _ (call (Value.type _) _) _ _ _)); (fail_if_success (with_reducible show wpAny _ _ (pyIter _) _ _ _)); (first | k_extra "M9" | walk1)))
  rename Fr _ _ _ _ => F1
  rename News _ _ _ _ => N1
  rename ∀ p ∈ news, p.1 < _ => lR
  rename _ ∧ AllLt _ news => lS
  rename_i R _ _ _ S _ _
  obtain ⟨m0, A0, F0⟩ := named F1 [("row", .ref R), ("stays", .ref S)] (by (repeat (refine allAt_cons (by with_unfolding_all rfl) ?_)); exact allAt_nil)
  k_dflt (refine' ktu_enum rfl F0 N1 (.tail _ (.tail _ hl)) rfl rfl rfl (fun I lI => items_inv (fun i => PlainJ R S I news m0 (pOf nms (st.take i))) ?turn ?done 0 _ _ (Nat.zero_le _) ?j0))
  case j0 => 
    refine ⟨[], _, [], _, news, [], same_start A0, rfl, rfl, ?_, (fun p hp q hq => by cases hq), ⟨rfl, fun i x h => by simp [pOf, pRun] at h⟩, ⟨rfl, fun i x h => by simp [pOf, pRun] at h⟩⟩
    intro p hp b hb
    have h1 : p.1 < I := lI p (.tail _ (.tail _ hp))
    simp only [List.mem_cons, List.not_mem_nil, or_false] at hb
    rcases hb with rfl | rfl | rfl | rfl
    · exact Nat.ne_of_lt (allLt_at lS.2 p hp)
    · exact Nat.ne_of_lt (lR p hp)
    · exact Nat.ne_of_lt h1
    · exact Nat.ne_of_lt (Nat.lt_succ_of_lt h1)
  case turn =>
    rintro i x m' n' v h tk hx ⟨vr, kr, vst, kst, T, new, hS, rfl, rfl, hoff, hnew, hr, hst⟩ hv F2 o1 ho1 o2 ho2 PP hPP N2
    have hil : i < vs.length := by have := (List.getElem?_eq_some_iff.mp hx).1; rw [enumItems_length] at this; omega
    have hil' : i < st.length := by omega
    rw [enumItems_get vs 0 i (List.getElem?_eq_getElem hil)] at hx
    obtain rfl := Option.some.inj hx
    obtain ⟨TP, t, rfl, hT⟩ := hv
    obtain ⟨y, ty, hy, hyi⟩ := hi.item i _ (List.getElem?_eq_getElem hil)
    rw [hy] at hT
    have F3 := same_fr hS F2
    simp only [List.cons_append, List.nil_append, Nat.zero_add] at N2 hT
    have lS1 := ltN lS.1
    have lI1 := ltN (lI _ (.head _))
    have lI2 := ltN (lI _ (.tail _ (.head _)))
    clear F2 F1 F0 N1
    have e1 := pOf_take nms st i st[i] (List.getElem?_eq_getElem hil')
    obtain ⟨g1, g2, g3⟩ := good_run nms st 0 0 0 ⟨[], [], 0⟩ hg rfl rfl i hil' st[i] (List.getElem?_eq_getElem hil')
    rw [wordsOf_get nms st 0 i st[i] (List.getElem?_eq_getElem hil')] at hyi
    change (∀ f, st[i] = some f → f < (pOf nms (st.take i)).row.length) at g1
    change (st[i] = none → (pOf nms (st.take i)).came < 5) at g2
    change (pOf nms (st.take i)).came = 0 + comings (st.take i) at g3
    obtain ⟨b1, b2, b3⟩ := good_bound nms st 0 0 0 ⟨[], [], 0⟩ hg rfl rfl (Nat.le_refl _) (Nat.zero_le _) i (by omega)
    change (pOf nms (st.take i)).row.length ≤ (pOf nms (st.take i)).came at b1
    change (pOf nms (st.take i)).came ≤ 5 at b2
    change (pOf nms (st.take i)).stays.length + (pOf nms (st.take i)).row.length = 0 + (pOf nms (st.take i)).came + 0 - 0 at b3
    generalize pOf nms (st.take i) = q at *
    have hvr : vr.length ≤ 5 := by rw [hr.1]; omega
    have hvst : vst.length ≤ 5 := by rw [hst.1]; omega
    dsimp only [envOf] at F3 N2
    (try k_fold)
    k_dflt (refine' unpackN_ F3 N2 hT ?k1 ?k2 ?k3 ?_)
    case k1 => exact rfl
    case k2 => exact rfl
    case k3 => exact rfl
    intro h' F' N'
    clear F3 N2
    cases ho : st[i] with
    | none =>
      rw [ho] at hyi e1
      dsimp only at hyi
      rw [← g3] at hyi
      have hc5 := g2 ho
      obtain rfl := (Option.some.inj hyi)
      have hyn := name_in hnm (k := q.came) (by omega)
      have hnd := names_nodot _ hyn
      obtain ⟨hy1, hy2⟩ := allW_len1 _ (name_allW hyn)
      repeat' (first | (k_unfold; (try dsimp only)) | (k_end; wrow_close) | (first | k_extra "M9" | walk1) | (dsimp only; (first | k_extra "M9" | walk1)) | (leave1; walk_say "STEP leave1"; try dsimp only) | fail "no step")
      rename News _ _ _ _ => N9
      rename Fr _ _ _ _ => F9
      rename _ ∧ _ ∧ _ ∧ _ ∧ AllLt _ (new ++ news) => lD
      rename_i D _ _
      simp only [List.push_toArray] at N9
      refine hPP _ ?_
      rw [e1]
      refine' turn_end F9 N9 ((S, _) :: (R, _) :: (D, _) :: (new ++ news)) (fun q' hq => ?a1) (fun q' hq => ?a3) (fun q' hq r hr' => ?a2) ⟨⟨.tail _ (.tail _ (.tail _ (List.mem_append_right _ hl))), trivial⟩, vr ++ [.ref D], kr + 1, vst, kst, _, (D, _) :: new, same_of ?sm ?sr, rfl, rfl, ?ho, ?hn, ?hr, ?hst⟩
      case a3 =>
        rcases List.mem_cons.mp hq with rfl | hq
        · exact .tail _ (.tail _ (.tail _ (.head _)))
        rcases List.mem_cons.mp hq with rfl | hq
        · exact .tail _ (.tail _ (.tail _ (.tail _ (.head _))))
        rcases List.mem_cons.mp hq with rfl | hq
        · exact .head _
        · exact .tail _ (.tail _ (.tail _ (.tail _ (.tail _ hq))))
      case hr => exact (hr.sub fun p hp => .tail _ hp).snoc (.head _)
      case hst => exact hst.sub fun p hp => .tail _ hp
      case sr => (intro z h1 h2; simp only [List.map_cons, List.map_nil, List.mem_cons, List.not_mem_nil, or_false, not_or] at h1 h2; simp [ovr_ne, h1, h2])
      case sm => (repeat (refine allAt_cons (by with_unfolding_all rfl) ?_)); exact allAt_nil
      case a1 =>
        rcases List.mem_cons.mp hq with rfl | hq
        · exact .tail _ (.head _)
        · rw [List.mem_singleton.mp hq]; exact .tail _ (.tail _ (.head _))
      case a2 =>
        have z1 : r.1 = I ∨ r.1 = I + 1 := by
          rcases List.mem_cons.mp hr' with rfl | hr'
          · exact .inr rfl
          · rw [List.mem_singleton.mp hr']; exact .inl rfl
        have z2 : q'.1 ≠ I ∧ q'.1 ≠ I + 1 := by
          rcases List.mem_cons.mp hq with rfl | hq
          · exact ⟨Nat.ne_of_lt lI1, Nat.ne_of_lt (Nat.lt_succ_of_lt lI1)⟩
          rcases List.mem_cons.mp hq with rfl | hq
          · exact ⟨Nat.ne_of_lt lI2, Nat.ne_of_lt (Nat.lt_succ_of_lt lI2)⟩
          rcases List.mem_cons.mp hq with rfl | hq
          · exact ⟨Nat.ne_of_gt lD.2.1, Nat.ne_of_gt lD.1⟩
          · exact ⟨hoff _ hq I (by simp), hoff _ hq (I + 1) (by simp)⟩
        rcases z1 with e | e
        · rw [e]; exact z2.1
        · rw [e]; exact z2.2
      case hn =>
        intro p hp q' hq
        rcases List.mem_cons.mp hq with rfl | hq
        · exact allLt_at lD.2.2.2.2 p (List.mem_append_right _ hp)
        · exact hnew p hp q' hq
      case ho =>
        refine ownOff_cons hoff fun b hb => ?_
        simp only [List.mem_cons, List.not_mem_nil, or_false] at hb
        rcases hb with rfl | rfl | rfl | rfl
        · exact Nat.ne_of_gt lD.2.2.1
        · exact Nat.ne_of_gt lD.2.2.2.1
        · exact Nat.ne_of_gt lD.2.1
        · exact Nat.ne_of_gt lD.1
    | some f =>
      rw [ho] at hyi e1
      dsimp only at hyi
      have hf := g1 f ho
      obtain rfl := (Option.some.inj hyi)
      obtain ⟨hy1, hy2⟩ := allW_len1 _ (dot_allW (f := f) (by omega))
      obtain ⟨hnd, hnt⟩ := dots_read f (five (by omega))
      have hrow := List.getElem?_eq_getElem hf
      obtain ⟨p, u1, u2, hp1, hp2⟩ := hr.2 f _ hrow
      repeat' (first | (k_unfold; (try dsimp only)) | (k_end; wrow_close) | (first | k_extra "M9" | walk1) | (dsimp only; (first | k_extra "M9" | walk1)) | (leave1; walk_say "STEP leave1"; try dsimp only) | fail "no step")
      rename News _ _ _ _ => N9
      rename Fr _ _ _ _ => F9
      rename _ ∧ _ ∧ _ ∧ _ ∧ AllLt _ (new ++ news) => lD
      rename_i D _ _
      simp only [List.push_toArray] at N9
      refine hPP _ ?_
      rw [e1]
      have hstep : pStep nms i q (some f) = ⟨q.row.eraseIdx f, q.stays ++ [(q.row[f].1, (i : Int), q.row[f].2)], q.came⟩ := by simp only [pStep, hrow]
      rw [hstep]
      refine' turn_end F9 N9 ((S, _) :: (R, _) :: (D, _) :: (new ++ news)) (fun q' hq => ?a1) (fun q' hq => ?a3) (fun q' hq r hr' => ?a2) ⟨⟨.tail _ (.tail _ (.tail _ (List.mem_append_right _ hl))), trivial⟩, vr.eraseIdx f, kr + 1, vst ++ [.ref D], kst + 1, _, (D, _) :: new, same_of ?sm ?sr, rfl, rfl, ?ho, ?hn, ?hr, ?hst⟩
      case a3 =>
        rcases List.mem_cons.mp hq with rfl | hq
        · exact .tail _ (.tail _ (.tail _ (.head _)))
        rcases List.mem_cons.mp hq with rfl | hq
        · exact .tail _ (.tail _ (.tail _ (.tail _ (.head _))))
        rcases List.mem_cons.mp hq with rfl | hq
        · exact .head _
        · exact .tail _ (.tail _ (.tail _ (.tail _ (.tail _ hq))))
      case hr => exact (hr.erase f).sub fun p hp => .tail _ hp
      case hst => exact (hst.sub fun p hp => .tail _ hp).snoc (.head _)
      case sr => (intro z h1 h2; simp only [List.map_cons, List.map_nil, List.mem_cons, List.not_mem_nil, or_false, not_or] at h1 h2; simp [ovr_ne, h1, h2])
      case sm => (repeat (refine allAt_cons (by with_unfolding_all rfl) ?_)); exact allAt_nil
      case a1 =>
        rcases List.mem_cons.mp hq with rfl | hq
        · exact .tail _ (.head _)
        · rw [List.mem_singleton.mp hq]; exact .tail _ (.tail _ (.head _))
      case a2 =>
        have z1 : r.1 = I ∨ r.1 = I + 1 := by
          rcases List.mem_cons.mp hr' with rfl | hr'
          · exact .inr rfl
          · rw [List.mem_singleton.mp hr']; exact .inl rfl
        have z2 : q'.1 ≠ I ∧ q'.1 ≠ I + 1 := by
          rcases List.mem_cons.mp hq with rfl | hq
          · exact ⟨Nat.ne_of_lt lI1, Nat.ne_of_lt (Nat.lt_succ_of_lt lI1)⟩
          rcases List.mem_cons.mp hq with rfl | hq
          · exact ⟨Nat.ne_of_lt lI2, Nat.ne_of_lt (Nat.lt_succ_of_lt lI2)⟩
          rcases List.mem_cons.mp hq with rfl | hq
          · exact ⟨Nat.ne_of_gt lD.2.1, Nat.ne_of_gt lD.1⟩
          · exact ⟨hoff _ hq I (by simp), hoff _ hq (I + 1) (by simp)⟩
        rcases z1 with e | e
        · rw [e]; exact z2.1
        · rw [e]; exact z2.2
      case hn =>
        intro p hp q' hq
        rcases List.mem_cons.mp hq with rfl | hq
        · exact allLt_at lD.2.2.2.2 p (List.mem_append_right _ hp)
        · exact hnew p hp q' hq
      case ho =>
        refine ownOff_cons hoff fun b hb => ?_
        simp only [List.mem_cons, List.not_mem_nil, or_false] at hb
        rcases hb with rfl | rfl | rfl | rfl
        · exact Nat.ne_of_gt lD.2.2.1
        · exact Nat.ne_of_gt lD.2.2.2.1
        · exact Nat.ne_of_gt lD.2.1
        · exact Nat.ne_of_gt lD.1
  case done =>
    rintro m' n' h tk ⟨vr, kr, vst, kst, T, new, hS, rfl, rfl, hoff, hnew, hr, hst⟩ F2 N2
    have F3 := same_fr hS F2
    rw [enumItems_length, List.take_of_length_le (by omega)] at hst
    clear F2 F1 F0 N1
    dsimp only [envOf] at F3 N2
    (try k_fold)
    repeat' (first | (k_unfold; (try dsimp only)) | (k_end; wrow_close) | (first | k_extra "M9" | walk1) | (dsimp only; (first | k_extra "M9" | walk1)) | (leave1; walk_say "STEP leave1"; try dsimp only) | fail "no step")
    rename News h₀ L _ _ => N9
    rename Fr h₀ L _ m => F9
    have hSn : ∀ p ∈ news, p.1 < S := fun p hp => allLt_at lS.2 p hp
    refine hret _ (((S, listOf (List.toArray vst) kst) :: new) ++ news) _ _ F9 (fun q hq => ?_) ⟨S, vst, kst, (S, _) :: new, rfl, rfl, .head _, hst.sub fun p hp => .tail _ hp, fun p hp q hq => ?_⟩
    · rcases List.mem_cons.mp hq with rfl | hq
      · exact N9 _ (.head _)
      · exact N9 _ (.tail _ (.tail _ hq))
    · rcases List.mem_cons.mp hq with rfl | hq
      · exact hSn p hp
      · exact hnew p hp q hq
end Mine
namespace Mine
/-- the dict of a lexer -/
abbrev lexD (w : World) (n : Int) (t t3 k1 k2 k3 k4 : Tok) (stv pbv : Value) : Obj :=
  dictOf [{ hash := PyData.keyHash w.params (Str.ofString "lineno"), key := .str (Str.ofString "lineno") k1, val := .int n t },
    { hash := PyData.keyHash w.params (Str.ofString "instream"), key := .str (Str.ofString "instream") k2, val := stv },
    { hash := PyData.keyHash w.params (Str.ofString "whitespace"), key := .str (Str.ofString "whitespace") k3, val := .str (Str.ofString "\n\t\r ") t3 },
    { hash := PyData.keyHash w.params (Str.ofString "pushback"), key := .str (Str.ofString "pushback") k4, val := pbv }] 4
abbrev strD (w : World) (t t3 k1 k2 k3 k4 k5 : Tok) (pbv fv : Value) : Obj :=
  dictOf [{ hash := PyData.keyHash w.params (Str.ofString "lineno"), key := .str (Str.ofString "lineno") k1, val := .int 1 t },
    { hash := PyData.keyHash w.params (Str.ofString "instream"), key := .str (Str.ofString "instream") k2, val := .none },
    { hash := PyData.keyHash w.params (Str.ofString "whitespace"), key := .str (Str.ofString "whitespace") k3, val := .str (Str.ofString "\n\t\r ") t3 },
    { hash := PyData.keyHash w.params (Str.ofString "pushback"), key := .str (Str.ofString "pushback") k4, val := pbv },
    { hash := PyData.keyHash w.params (Str.ofString "read"), key := .str (Str.ofString "read") k5, val := fv }] 5
abbrev lamO (qual : Str) (doc : Value) (cell c' : Addr) (ct : Value) : Obj :=
  kla_obj (Str.ofString "<lambda>") qual { posonlyargs := [], args := [{ arg := Str.ofString "size", annotation := none, pos := { line := 140, col := 25, endLine := 140, endCol := 29 } }], vararg := none, kwonlyargs := [], kw_defaults := [], kwarg := none, defaults := [] }
    ((Expr.Name (Str.ofString "left") { line := 140, col := 45, endLine := 140, endCol := 49 }).IfExp
      (((Expr.Name (Str.ofString "left") { line := 140, col := 31, endLine := 140, endCol := 35 }).Attribute (Str.ofString "pop") { line := 140, col := 31, endLine := 140, endCol := 39 }).Call [] [] { line := 140, col := 31, endLine := 140, endCol := 41 })
      (Expr.Constant (Const.str (Str.ofString "")) 0 { line := 140, col := 55, endLine := 140, endCol := 57 }) { line := 140, col := 31, endLine := 140, endCol := 57 })
    { kind := ScopeKind.function, names := [(Str.ofString "size", NameKind.local), (Str.ofString "left", NameKind.free)], isGenerator := false, isCoroutine := false }
    [(Str.ofString "left", cell)] doc c' ct
def lamQ : Str := (envOfC (Str.ofString "_law_lexer") { kind := ScopeKind.function, names := [], isGenerator := false, isCoroutine := false } 0 145 (Value.ref 144)).qual ++ Str.ofString "<lambda>"
/-- what stands fast of a lexer -/
structure LexR (w : World) (T : Led) (lx dlx lf pb : Addr) (st dst f c' cell : Addr) : Prop where
  h1 : (lx, instObj 115 dlx) ∈ T
  h2 : (st, instObj 115 dst) ∈ T
  h3 : ∃ t t3 k1 k2 k3 k4 k5 pbv, (dst, strD w t t3 k1 k2 k3 k4 k5 pbv (.ref f)) ∈ T
  h4 : ∃ doc ct, (f, lamO lamQ doc cell c' ct) ∈ T
  h5 : ∃ oc vs t, (c', oc) ∈ T ∧ oc.data = .fields vs ∧ vs[1]? = some (.str lamQ t)
  h6 : ∃ o, (cell, o) ∈ T ∧ o.data = .cell (some (.ref lf))
/-- the signs of a text, one by one -/
def sgn (cs : List Nat) : List Str := cs.map fun c => ⟨#[c]⟩
section
variable {prog : Program} {w : World} {A : Around} {E : Value → Shared → Prop} {s : Shared} {h₀ : Heap} {L : Addr} {m : Str → Option Value} {news : Led}
theorem truthyL_some {l : Addr} {items : Array Value} {k : Nat} {Q : Bool → Shared → Prop} (N : News h₀ L s.heap news) (hm : (l, listOf items k) ∈ news) (h1 : 0 < items.size) (h2 : items.size ≤ 1000000) (h : ∀ tk, Q true { s with toks := tk }) : wpAny (model prog w) A (truthy (.ref l)) Q E s := by
  refine wpAny_truthy_list (News.isList N hm) (by omega) ?_
  have e : items.isEmpty = false := by
    unfold Array.isEmpty
    exact decide_eq_false (by omega)
  rw [e]
  exact h _
theorem truthyL_none {l : Addr} {items : Array Value} {k : Nat} {Q : Bool → Shared → Prop} (N : News h₀ L s.heap news) (hm : (l, listOf items k) ∈ news) (h1 : items.size = 0) (h : ∀ tk, Q false { s with toks := tk }) : wpAny (model prog w) A (truthy (.ref l)) Q E s := by
  refine wpAny_truthy_list (News.isList N hm) (by omega) ?_
  rw [show (!items.isEmpty) = false by simp [Array.isEmpty, h1]]
  exact h _
theorem popL_last {l : Addr} {p : List Value} {y : Value} {k : Nat} {news' : Led} {Q : Value → Shared → Prop} (F : Fr h₀ L s.heap m) (N : News h₀ L s.heap news) (U : Upd l (listOf (p ++ [y]).toArray k) (listOf p.toArray (k + 1)) news news') (hz : p.length ≤ 1000000)
    (h : ∀ h', Fr h₀ L h' m → News h₀ L h' news' → Q y { s with heap := h' }) : wpAny (model prog w) A (call (.builtin "list.pop") [.ref l]) Q E s :=
  kl_pop F N (kpa_last y p) U (by rw [sizeLine_eq]; simp; omega) h
theorem popL_first {l : Addr} {p : List Value} {y : Value} {k : Nat} {t : Tok} {news' : Led} {Q : Value → Shared → Prop} (F : Fr h₀ L s.heap m) (N : News h₀ L s.heap news) (U : Upd l (listOf (y :: p).toArray k) (listOf p.toArray (k + 1)) news news') (hz : p.length ≤ 1000000)
    (h : ∀ h', Fr h₀ L h' m → News h₀ L h' news' → Q y { s with heap := h' }) : wpAny (model prog w) A (call (.builtin "list.pop") [.ref l, .int 0 t]) Q E s :=
  kl_popAt (k := 0) (p := []) (q := p) F N rfl (by simp [seqIndex?]) rfl U (by rw [sizeLine_eq]; simp; omega) h
end
end Mine
namespace Mine
theorem nl_true {c : Nat} (h : (({ cps := #[c] } : Str) == Str.ofString "\n") = true) : c = 10 := by
  have e : ({ cps := #[c] } : Str) = Str.ofString "\n" := by simpa using h
  have e2 : Str.ofString "\n" = ({ cps := #[10] } : Str) := by decide +kernel
  rw [e2] at e
  simpa using e
theorem nl_false {c : Nat} (h : (({ cps := #[c] } : Str) == Str.ofString "\n") = false) : c ≠ 10 := by
  rintro rfl
  have e2 : Str.ofString "\n" = ({ cps := #[10] } : Str) := by decide +kernel
  rw [e2] at h
  simp at h
/-- what a read sign adds to the line's number -/
def nlOf (c : Nat) : Int := if c = 10 then 1 else 0
theorem rc_cons (w : World) (TT : Led) (lx dlx lf pb st dst f c' cell : Addr) (R : LexR w TT lx dlx lf pb st dst f c' cell) (hoff : OwnOff TT [dlx, lf]) (hne : dlx ≠ lf)
   (n : Int) (t t3 k1 k2 k3 k4 : Tok) (pbv : Value) (vs : List Value) (c : Nat) (k : Nat) (tc : Tok) (hsz : vs.length ≤ 100000) :
   TellC w 0 98 [.ref lx] ((dlx, lexD w n t t3 k1 k2 k3 k4 (.ref st) pbv) :: (lf, listOf (vs ++ [Value.str ⟨#[c]⟩ tc]).toArray k) :: TT) fun v nn => ∃ t', v = .str ⟨#[c]⟩ tc ∧
     nn = ((dlx, lexD w (n + nlOf c) t' t3 k1 k2 k3 k4 (.ref st) pbv) :: (lf, listOf vs.toArray (k + 1)) :: TT) := by
  w_top off; have hfill9 := (show top0.heap_39 = top0.heap_39 ∧ PySem.Challenge.rw_xe0021_01 = PySem.Challenge.rw_xe0021_01 by k_fill; exact ⟨rfl, rfl⟩); clear hfill9; k_with_none
  k_with "M9" => ((with_reducible show wpAny _ _ (truthy (Value.ref _)) _ _ _); (k_here; k_dflt (refine' truthyL_some ?Nq6956 ?mq6956 ?h1q6956 ?h2q6956 ?_; (case Nq6956 => k_asm); (case mq6956 => k_mem); (case h1q6956 => (simp only [List.size_toArray, List.length_append, List.length_cons]; omega)); (case h2q6956 => (simp only [List.size_toArray, List.length_append, List.length_cons, List.length_nil]; omega)); k_whole); intro _))
  k_with "M9" => ((with_reducible show wpAny _ _ (truthy (Value.ref _)) _ _ _); (k_here; k_dflt (refine' truthyL_none ?Nq99 ?mq99 ?h1q99 ?_; (case Nq99 => k_asm); (case mq99 => k_mem); (case h1q99 => rfl); k_whole); intro _))
  k_with "M9" => (k_here; (with_reducible show wpAny _ _ (call (Value.builtin _) [Value.ref _]) _ _ _); k_dflt (refine' popL_last ?Fq9590 ?Nq9590 ?Uq9590 ?zq9590 ?_; (case Fq9590 => k_asm); (case Nq9590 => k_asm); (case Uq9590 => k_upd); (case zq9590 => omega); k_whole); intro _ _ _; (try k_sweep))
  have hne' := neN hne
  obtain ⟨h1, h2, ⟨tt, tt3, kk1, kk2, kk3, kk4, kk5, ppbv, h3⟩, ⟨doc, ct, h4⟩, ⟨oc, ovs, ot, h5, h5a, h5b⟩, ⟨oo, h6, h6a⟩⟩ := R
  intro nm ig ic mr gd cn a ccd cl outer A₀ base h₀ L m s Q E p loose mean mg mb C B F X N T hret
  k_enter
  repeat' (first | (k_unfold; (try dsimp only)) | (k_end; wrow_close) | (first | k_extra "M9" | walk1) | (dsimp only; (first | k_extra "M9" | walk1)) | (leave1; walk_say "STEP leave1"; try dsimp only) | fail "no step")
  · rename (_ == _) = true => hq
    have hq := nl_true hq
    have e : n + nlOf c = n + 1 := by simp [nlOf, hq]
    rename News h₀ _ _ _ => N9
    rename Fr _ _ _ m => F9
    exact hret _ _ _ _ F9 N9 ⟨_, rfl, by rw [e]⟩
  · rename (_ == _) = false => hq
    have hq := nl_false hq
    have e : n + nlOf c = n := by simp [nlOf, hq]
    rename News h₀ _ _ _ => N9
    rename Fr _ _ _ m => F9
    exact hret _ _ _ _ F9 N9 ⟨t, rfl, by rw [e]⟩
theorem rc_nil (w : World) (TT : Led) (lx dlx lf pb st dst f c' cell : Addr) (R : LexR w TT lx dlx lf pb st dst f c' cell) (hoff : OwnOff TT [dlx, lf]) (hne : dlx ≠ lf)
   (n : Int) (t t3 k1 k2 k3 k4 : Tok) (pbv : Value) (k : Nat) :
   TellC w 0 98 [.ref lx] ((dlx, lexD w n t t3 k1 k2 k3 k4 (.ref st) pbv) :: (lf, listOf #[] k) :: TT) fun v nn => ∃ t', v = .str (Str.ofString "") t' ∧
     nn = ((dlx, lexD w n t t3 k1 k2 k3 k4 (.ref st) pbv) :: (lf, listOf #[] k) :: TT) := by
  w_top off; have hfill9 := (show top0.heap_39 = top0.heap_39 ∧ PySem.Challenge.rw_xe0021_01 = PySem.Challenge.rw_xe0021_01 by k_fill; exact ⟨rfl, rfl⟩); clear hfill9; k_with_none
  k_with "M9" => ((with_reducible show wpAny _ _ (truthy (Value.ref _)) _ _ _); (k_here; k_dflt (refine' truthyL_some ?Nq6956 ?mq6956 ?h1q6956 ?h2q6956 ?_; (case Nq6956 => k_asm); (case mq6956 => k_mem); (case h1q6956 => (simp only [List.size_toArray, List.length_append, List.length_cons]; omega)); (case h2q6956 => (simp only [List.size_toArray, List.length_append, List.length_cons, List.length_nil]; omega)); k_whole); intro _))
  k_with "M9" => ((with_reducible show wpAny _ _ (truthy (Value.ref _)) _ _ _); (k_here; k_dflt (refine' truthyL_none ?Nq99 ?mq99 ?h1q99 ?_; (case Nq99 => k_asm); (case mq99 => k_mem); (case h1q99 => rfl); k_whole); intro _))
  k_with "M9" => (k_here; (with_reducible show wpAny _ _ (call (Value.builtin _) [Value.ref _]) _ _ _); k_dflt (refine' popL_last ?Fq9590 ?Nq9590 ?Uq9590 ?zq9590 ?_; (case Fq9590 => k_asm); (case Nq9590 => k_asm); (case Uq9590 => k_upd); (case zq9590 => omega); k_whole); intro _ _ _; (try k_sweep))
  have hne' := neN hne
  obtain ⟨h1, h2, ⟨tt, tt3, kk1, kk2, kk3, kk4, kk5, ppbv, h3⟩, ⟨doc, ct, h4⟩, ⟨oc, ovs, ot, h5, h5a, h5b⟩, ⟨oo, h6, h6a⟩⟩ := R
  intro nm ig ic mr gd cn a ccd cl outer A₀ base h₀ L m s Q E p loose mean mg mb C B F X N T hret
  k_enter
  repeat' (first | (k_unfold; (try dsimp only)) | (k_end; wrow_close) | (first | k_extra "M9" | walk1) | (dsimp only; (first | k_extra "M9" | walk1)) | (leave1; walk_say "STEP leave1"; try dsimp only) | fail "no step")
  rename News h₀ _ _ _ => N9
  rename Fr _ _ _ m => F9
  exact hret _ _ _ _ F9 N9 ⟨_, rfl, rfl⟩
end Mine
namespace Mine
theorem gt_push (w : World) (TT : Led) (lx dlx pb : Addr) (stv : Value) (n : Int) (t t3 k1 k2 k3 k4 : Tok) (h1 : (lx, instObj 115 dlx) ∈ TT) (h2 : (dlx, lexD w n t t3 k1 k2 k3 k4 stv (.ref pb)) ∈ TT) (hoff : OwnOff TT [pb])
   (y : Value) (p : List Value) (kp : Nat) (hsz : p.length ≤ 100000) :
   Tell w 1 105 [.ref lx] ((pb, listOf (y :: p).toArray kp) :: TT) fun v nn => v = y ∧ nn = ((pb, listOf p.toArray (kp + 1)) :: TT) := by
  w_top off; have hfill9 := (show top0.heap_39 = top0.heap_39 ∧ PySem.Challenge.rw_xe0021_01 = PySem.Challenge.rw_xe0021_01 by k_fill; exact ⟨rfl, rfl⟩); clear hfill9; k_with_none
  k_with "M9" => ((with_reducible show wpAny _ _ (truthy (Value.ref _)) _ _ _); (k_here; k_dflt (refine' truthyL_some ?Nq6956 ?mq6956 ?h1q6956 ?h2q6956 ?_; (case Nq6956 => k_asm); (case mq6956 => k_mem); (case h1q6956 => (simp only [List.size_toArray, List.length_append, List.length_cons]; omega)); (case h2q6956 => (simp only [List.size_toArray, List.length_append, List.length_cons, List.length_nil]; omega)); k_whole); intro _))
  k_with "M9" => (k_here; (with_reducible show wpAny _ _ (call (Value.builtin _) [Value.ref _, Value.int 0 _]) _ _ _); k_dflt (refine' popL_first ?Fq902 ?Nq902 ?Uq902 ?zq902 ?_; (case Fq902 => k_asm); (case Nq902 => k_asm); (case Uq902 => k_upd); (case zq902 => omega); k_whole); intro _ _ _; (try k_sweep))
  intro nm ig ic mr gd cn a ccd cl outer A₀ base h₀ L m s Q E p loose mean mg mb B F X N T hret
  k_enter
  repeat' (first | (k_unfold; (try dsimp only)) | (k_end; wrow_close) | (first | k_extra "M9" | walk1) | (dsimp only; (first | k_extra "M9" | walk1)) | (leave1; walk_say "STEP leave1"; try dsimp only) | fail "no step")
  rename News h₀ _ _ _ => N9
  rename Fr _ _ _ m => F9
  exact hret _ _ _ _ F9 N9 ⟨rfl, rfl⟩
theorem push_spec (w : World) (TT : Led) (lx dlx pb : Addr) (stv : Value) (n : Int) (t t3 k1 k2 k3 k4 : Tok) (h1 : (lx, instObj 115 dlx) ∈ TT) (h2 : (dlx, lexD w n t t3 k1 k2 k3 k4 stv (.ref pb)) ∈ TT) (hoff : OwnOff TT [pb])
   (x : Str) (tx : Tok) (p : List Value) (kp : Nat) (hsz : p.length ≤ 100000) :
   Tell w 0 112 [.ref lx, .str x tx] ((pb, listOf p.toArray kp) :: TT) fun v nn => v = .none ∧ nn = ((pb, listOf (p ++ [Value.str x tx]).toArray (kp + 1)) :: TT) := by
  w_top off; have hfill9 := (show top0.heap_39 = top0.heap_39 ∧ PySem.Challenge.rw_xe0021_01 = PySem.Challenge.rw_xe0021_01 by k_fill; exact ⟨rfl, rfl⟩); clear hfill9; k_with_none
  k_with "M9" => ((with_reducible show wpAny _ _ (truthy (Value.ref _)) _ _ _); (k_here; k_dflt (refine' truthyL_some ?Nq6956 ?mq6956 ?h1q6956 ?h2q6956 ?_; (case Nq6956 => k_asm); (case mq6956 => k_mem); (case h1q6956 => (simp only [List.size_toArray, List.length_append, List.length_cons]; omega)); (case h2q6956 => (simp only [List.size_toArray, List.length_append, List.length_cons, List.length_nil]; omega)); k_whole); intro _))
  k_with "M9" => (k_here; (with_reducible show wpAny _ _ (call (Value.builtin _) [Value.ref _, Value.int 0 _]) _ _ _); k_dflt (refine' popL_first ?Fq902 ?Nq902 ?Uq902 ?zq902 ?_; (case Fq902 => k_asm); (case Nq902 => k_asm); (case Uq902 => k_upd); (case zq902 => omega); k_whole); intro _ _ _; (try k_sweep))
  intro nm ig ic mr gd cn a ccd cl outer A₀ base h₀ L m s Q E p loose mean mg mb B F X N T hret
  k_enter
  repeat' (first | (k_unfold; (try dsimp only)) | (k_end; wrow_close) | (first | k_extra "M9" | walk1) | (dsimp only; (first | k_extra "M9" | walk1)) | (leave1; walk_say "STEP leave1"; try dsimp only) | fail "no step")
  rename News h₀ _ _ _ => N9
  rename Fr _ _ _ m => F9
  exact hret _ _ _ _ F9 N9 ⟨rfl, by rw [List.push_toArray]⟩
end Mine
namespace Mine
open Builtin Builtin.SmallTypes
abbrev ciO (bm : Addr) (t0 : Tok) : Obj := { cls := .type "callable_iterator", data := .fields #[.ref bm, .str (Str.ofString "") t0, .bool false] }
abbrev ciE : Obj := { cls := .type "callable_iterator", data := .fields #[.none, .none, .bool true] }
theorem slot_cin : Slot "callable_iterator" "__next__" "callable_iterator.__next__" :=
  .of (owner := "callable_iterator") (n := "__next__") (by rw [typeLookup_type, builtinLookup_eq_fast]; kernel_rfl) (by decide +kernel) (by decide +kernel) (by decide +kernel)
    (by first | exact .inl (by decide +kernel) | exact .inr (by decide +kernel)) (by rw [isSubtype_type]; kernel_rfl)
theorem entry_cin : entryFor table "callable_iterator.__next__" = some Builtin.«callable_iterator.__next__» := entryFor_of_tree (by kernel_rfl)
theorem args_cin (a : Value) : argsOk "callable_iterator.__next__" ⟨[a], []⟩ := by unfold argsOk; kernel_rfl
theorem slotargs_cin (a : Value) : slotArgs "__next__" 0 ⟨[a], []⟩ = pure (a, []) := by kernel_rfl

section
variable {prog : Program} {w : World} {A : Around} {E : Value → Shared → Prop} {s : Shared} {h₀ : Heap} {L : Addr} {m : Str → Option Value} {news news2 : Led}
theorem stop_ok {α : Type} {Q : α → Shared → Prop} (hh : A.handled = none) (h : ∀ h' e, (∀ b o, s.heap.get? b = some o → h'.get? b = some o) → (∃ o, h'.get? e = some o ∧ o.cls = .type "StopIteration") → E (.ref e) { s with heap := h' }) :
    wpAny (model prog w) A (Builtin.SmallTypes.stopIteration : Sem α) Q E s := by
  show wpAny _ _ (newExc (.type "StopIteration") [] >>= _) _ _ _
  refine wpAny_bind ?_
  simp only [newExc, newTuple]
  refine wpAny_bind (wpAny_newObj_type ?_ (by size_fits))
  refine wpAny_bind (m := firstArgMember _ _) (wpAny_of_eq (a := Value.none) (by first | rfl | (simp only [firstArgMember]; rfl)) ?_)
  refine wpAny_newObj_type ?_ (by size_fits)
  simp only [raiseNew]
  refine wpAny_bind (wpAny_handled ?_)
  rw [hh]
  refine wpAny_bind (wpAny_pure (wpAny_throw ?_))
  exact h _ _ (fun b o e => Heap.get?_push_of_some _ (Heap.get?_push_of_some _ e)) ⟨_, Heap.get?_push_size _ rfl, rfl⟩

theorem borrow_ok {bm : Addr} {g self : Value} {fd : FuncData} {Q : Bool → Shared → Prop} (hb : s.heap.get? bm = some (methodObj g self)) (hg : ∃ ga o, g = .ref ga ∧ s.heap.get? ga = some o ∧ o.data = .func fd) (h : Q true s) :
    wpAny (model prog w) A (borrowsExactly (.ref bm)) Q E s := by
  obtain ⟨ga, o, rfl, ho, hd⟩ := hg
  unfold borrowsExactly
  refine wpAny_bind (wpAny_load hb ?_)
  dsimp only
  rw [if_pos (by decide)]
  show wpAny _ _ (do match (← load ga).data with | .func _ => pure true | _ => pure false) _ _ _
  refine wpAny_bind (wpAny_load ho ?_)
  rw [hd]
  exact wpAny_pure h

theorem callBorrowed_ok {f : Value} {pos : List Value} {Q : Value → Shared → Prop} (h : codeAny (model prog w) A (.call f ⟨pos, []⟩) (Back Q E) s) : wpAny (model prog w) A (callBorrowed f pos) Q E s := by
  intro Γ p hΓ
  unfold callBorrowed
  rw [Sem.wp_call]
  have hnb : (none : Option Value) ≠ some byPass := by intro x; cases x
  refine wpCode_mono (fun r s' hr => ?_) (h _ p rfl (hΓ.enter (.call f ⟨pos, []⟩) none p hnb))
  cases r with
  | error e => exact hr
  | ok fl => cases fl <;> exact hr

theorem out_ok {bm : Addr} {g self : Value} {fd : FuncData} {Q : Value → Shared → Prop} (hb : s.heap.get? bm = some (methodObj g self)) (hg : ∃ ga o, g = .ref ga ∧ s.heap.get? ga = some o ∧ o.data = .func fd)
    (h : codeAny (model prog w) A (.call g ⟨[self], []⟩) (Back Q E) s) : wpAny (model prog w) A (callOutOfASlot (.ref bm)) Q E s := by
  unfold callOutOfASlot
  refine wpAny_bind (borrow_ok hb hg ?_)
  rw [if_pos rfl]
  exact callBorrowed_ok (method_call hb h)

theorem ci_item {ci bm : Addr} {t0 : Tok} {self : Value} {ga : Addr} {og : Obj} {fd : FuncData} {Q : Option Value → Shared → Prop} (h1 : s.heap.get? ci = some (ciO bm t0)) (h2 : s.heap.get? bm = some (methodObj (.ref ga) self)) (h3 : s.heap.get? ga = some og) (h4 : og.data = .func fd)
    (h : codeAny (model prog w) A.in1 (.call (.ref ga) ⟨[self], []⟩) (Back (fun v s' => ∃ x t', v = .str x t' ∧ x ≠ Str.ofString "" ∧ s'.heap.get? ci = some (ciO bm t0) ∧ Q (some v) s') fun _ _ => False) s) :
    wpAny (model prog w) A (pyNext (.ref ci)) Q E s := by
  have hT : s.TypeIs (.ref ci) "callable_iterator" := ⟨_, h1, rfl⟩
  unfold pyNext
  refine wpAny_bind (wpAny_attempt (wpAny_callSpecial?_slot (name := Str.ofString "__next__") hT slot_cin (wpAny_call_entry slot_cin hT entry_cin ?_ (args_cin _))))
  unfold Builtin.«callable_iterator.__next__»
  rw [slotargs_cin]
  refine wpAny_bind (wpAny_pure ?_)
  dsimp only
  refine wpAny_bind (wpAny_field h1 rfl rfl ?_)
  show wpAny _ _ (if (Value.bool false == Value.bool true) = true then _ else _) _ _ _
  rw [if_neg (by decide)]
  show wpAny _ _ (field (.ref ci) 0 >>= _) _ _ _
  refine wpAny_bind (wpAny_field h1 rfl (x := .ref bm) rfl ?_)
  refine wpAny_bind (wpAny_attempt (wpAny_mono (out_ok h2 ⟨ga, og, rfl, h3, h4⟩ h) (fun v s' hv => ?_) fun _ _ h => h.elim))
  obtain ⟨x, t', rfl, hx, hc, hQ⟩ := hv
  dsimp only
  refine wpAny_bind (wpAny_field hc rfl rfl ?_)
  show wpAny _ _ (if (Value.bool false == Value.bool true) = true then _ else _) _ _ _
  rw [if_neg (by decide)]
  show wpAny _ _ (field (.ref ci) 1 >>= _) _ _ _
  refine wpAny_bind (wpAny_field hc rfl (x := .str (Str.ofString "") t0) rfl ?_)
  refine wpAny_bind (wpAny_holding (wpAny_eqBool_str ?_))
  rw [decide_eq_false (fun e => hx e.symm)]
  show wpAny _ _ (ret (.str x t')) _ _ _
  exact wpAny_pure ⟨_, rfl, wpAny_pure hQ⟩

theorem upd_same {ci : Addr} {o o' : Obj} {h h' : Heap} (U : Upd ci o o' news news2) (F : Fr h₀ L h m) (N : News h₀ L h news) (hs : Heap.SameBut ci h h') (e : h'.get? ci = some o') : Fr h₀ L h' m ∧ News h₀ L h' news2 := by
  obtain ⟨pre, post, rfl, rfl, a, b⟩ := U.split
  have z := N (ci, o) (by simp)
  exact ⟨F.change hs z.2.1 z.2.2, news_set N a b hs e⟩
theorem news_keeps {h h' : Heap} (N : News h₀ L h news) (hk : ∀ b o, h.get? b = some o → h'.get? b = some o) : News h₀ L h' news := fun p hp => ⟨hk _ _ (N p hp).1, (N p hp).2⟩

theorem ci_end {ci bm : Addr} {t0 : Tok} {self : Value} {ga : Addr} {og : Obj} {fd : FuncData} {Q : Option Value → Shared → Prop} (hh : A.handled = none) (h1 : s.heap.get? ci = some (ciO bm t0)) (h2 : s.heap.get? bm = some (methodObj (.ref ga) self)) (h3 : s.heap.get? ga = some og) (h4 : og.data = .func fd)
    (h : codeAny (model prog w) A.in1 (.call (.ref ga) ⟨[self], []⟩) (Back (fun v s' => ∃ t', v = .str (Str.ofString "") t' ∧ s'.heap.get? ci = some (ciO bm t0) ∧ s'.heap.get? bm = some (methodObj (.ref ga) self) ∧ s'.heap.get? ga = some og ∧ ci ≠ bm ∧ ci ≠ ga ∧
      ∀ h₁ h₂, Heap.SameBut ci s'.heap h₁ → h₁.get? ci = some ciE → (∀ b o, h₁.get? b = some o → h₂.get? b = some o) → Q none { s' with heap := h₂ }) fun _ _ => False) s) :
    wpAny (model prog w) A (pyNext (.ref ci)) Q E s := by
  have hT : s.TypeIs (.ref ci) "callable_iterator" := ⟨_, h1, rfl⟩
  unfold pyNext
  refine wpAny_bind (wpAny_attempt (wpAny_callSpecial?_slot (name := Str.ofString "__next__") hT slot_cin (wpAny_call_entry slot_cin hT entry_cin ?_ (args_cin _))))
  unfold Builtin.«callable_iterator.__next__»
  rw [slotargs_cin]
  refine wpAny_bind (wpAny_pure ?_)
  dsimp only
  refine wpAny_bind (wpAny_field h1 rfl rfl ?_)
  show wpAny _ _ (if (Value.bool false == Value.bool true) = true then _ else _) _ _ _
  rw [if_neg (by decide)]
  show wpAny _ _ (field (.ref ci) 0 >>= _) _ _ _
  refine wpAny_bind (wpAny_field h1 rfl (x := .ref bm) rfl ?_)
  refine wpAny_bind (wpAny_attempt (wpAny_mono (out_ok h2 ⟨ga, og, rfl, h3, h4⟩ h) (fun v s' hv => ?_) fun _ _ h => h.elim))
  obtain ⟨t', rfl, hc, hb, hg, n1, n2, hQ⟩ := hv
  dsimp only
  refine wpAny_bind (wpAny_field hc rfl rfl ?_)
  show wpAny _ _ (if (Value.bool false == Value.bool true) = true then _ else _) _ _ _
  rw [if_neg (by decide)]
  show wpAny _ _ (field (.ref ci) 1 >>= _) _ _ _
  refine wpAny_bind (wpAny_field hc rfl (x := .str (Str.ofString "") t0) rfl ?_)
  refine wpAny_bind (wpAny_holding (wpAny_eqBool_str ?_))
  rw [decide_eq_true rfl]
  show wpAny _ _ (rule "callable_iterator.__next__.sentinel" >>= _) _ _ _
  refine wpAny_bind (wpAny_rule (wpAny_bind ?_))
  show wpAny _ _ (field (.ref ci) 0 >>= fun f => slotLetsGo "callable_iterator.__next__" f _ >>= fun _ => setField (.ref ci) 0 .none >>= fun _ => setField (.ref ci) 1 .none >>= fun _ => setField (.ref ci) 2 (.bool true)) _ _ _
  refine wpAny_bind (wpAny_field hc rfl (x := .ref bm) rfl (wpAny_bind ?_))
  unfold slotLetsGo
  dsimp only
  refine wpAny_bind (borrow_ok hb ⟨ga, og, rfl, hg, h4⟩ ?_)
  rw [if_pos rfl]
  refine wpAny_pure (wpAny_bind ?_)
  refine wpAny_setField_rec hc (by simp) fun q1 e1 s1 => wpAny_bind ?_
  refine wpAny_setField_rec e1 (by simp) fun q2 e2 s2 => ?_
  refine wpAny_setField_rec e2 (by simp) fun q3 e3 s3 => ?_
  refine stop_ok hh fun q4 e hk he => ?_
  obtain ⟨oe, heo, hec⟩ := he
  refine wpAny_bind (wpAny_isInstance (T := "StopIteration") (b := true) ⟨oe, heo, hec⟩ isSubtype_stop ?_)
  refine wpAny_pure ?_
  exact hQ q3 q4 ⟨(s3.1.trans s2.1).trans s1.1, fun b hb => (s3.2 b hb).trans ((s2.2 b hb).trans (s1.2 b hb))⟩ e3 hk
theorem ci_ended {ci : Addr} {Q : Option Value → Shared → Prop} (hh : A.handled = none) (h1 : s.heap.get? ci = some ciE)
    (h : ∀ h₂, (∀ b o, s.heap.get? b = some o → h₂.get? b = some o) → Q none { s with heap := h₂ }) :
    wpAny (model prog w) A (pyNext (.ref ci)) Q E s := by
  have hT : s.TypeIs (.ref ci) "callable_iterator" := ⟨_, h1, rfl⟩
  unfold pyNext
  refine wpAny_bind (wpAny_attempt (wpAny_callSpecial?_slot (name := Str.ofString "__next__") hT slot_cin (wpAny_call_entry slot_cin hT entry_cin ?_ (args_cin _))))
  unfold Builtin.«callable_iterator.__next__»
  rw [slotargs_cin]
  refine wpAny_bind (wpAny_pure ?_)
  dsimp only
  refine wpAny_bind (wpAny_field h1 rfl rfl ?_)
  show wpAny _ _ (if (Value.bool true == Value.bool true) = true then _ else _) _ _ _
  rw [if_pos (by decide)]
  refine wpAny_bind (wpAny_rule (wpAny_bind ?_))
  refine stop_ok hh fun q4 e hk he => ?_
  obtain ⟨oe, heo, hec⟩ := he
  refine wpAny_bind (wpAny_isInstance (T := "StopIteration") (b := true) ⟨oe, heo, hec⟩ isSubtype_stop ?_)
  exact wpAny_pure (h q4 hk)
end
end Mine
namespace Mine
open Builtin
theorem kind_iter : builtinKind "iter" = none := by decide +kernel
theorem plain_iter : plainId "iter" = true := by decide +kernel
theorem entry_iter : entryFor table "iter" = some Builtin.«iter» := entryFor_of_tree (by kernel_rfl)
theorem args_iter (a b : Value) : argsOk "iter" ⟨[a, b], []⟩ := by unfold argsOk; kernel_rfl
theorem some_iter (a b : Value) : someArgs "iter" 1 2 ⟨[a, b], []⟩ = pure [a, b] := by kernel_rfl
theorem slot_cii : Slot "callable_iterator" "__iter__" "callable_iterator.__iter__" :=
  .of (owner := "callable_iterator") (n := "__iter__") (by rw [typeLookup_type, builtinLookup_eq_fast]; kernel_rfl) (by decide +kernel) (by decide +kernel) (by decide +kernel)
    (by first | exact .inl (by decide +kernel) | exact .inr (by decide +kernel)) (by rw [isSubtype_type]; kernel_rfl)
theorem entry_cii : entryFor table "callable_iterator.__iter__" = some Builtin.«dict_keyiterator.__iter__» :=
  entryFor_alias (id' := "dict_keyiterator.__iter__") (by kernel_rfl) (by decide +kernel) (by decide +kernel) (by kernel_rfl)
theorem args_cii (a : Value) : argsOk "callable_iterator.__iter__" ⟨[a], []⟩ := by unfold argsOk; kernel_rfl
section
variable {prog : Program} {w : World} {A : Around} {E : Value → Shared → Prop} {s : Shared} {h₀ : Heap} {L : Addr} {m : Str → Option Value} {news news2 : Led}
theorem iter_ok {bm : Addr} {g self : Value} {t0 : Tok} {Q : Value → Shared → Prop} (F : Fr h₀ L s.heap m) (N : News h₀ L s.heap news) (hm : (bm, methodObj g self) ∈ news)
    (h : ∀ ci h', Fr h₀ L h' m → News h₀ L h' ((ci, ciO bm t0) :: news) → (∀ p ∈ news, p.1 < ci) → Q (.ref ci) { s with heap := h' }) :
    wpAny (model prog w) A (call (.builtin "iter") [.ref bm, .str (Str.ofString "") t0]) Q E s := by
  have hT : s.TypeIs (.ref bm) "method" := ⟨_, (N _ hm).1, rfl⟩
  refine Calls.call_function_entry kind_iter plain_iter entry_iter (args_iter _ _) ?_
  unfold Builtin.«iter»
  rw [some_iter]
  refine wpAny_bind (wpAny_pure ?_)
  dsimp only
  refine wpAny_bind (wpAny_specialOf (r := some (.builtin "method.__call__")) hT (by rw [typeLookup_type, builtinLookup_eq_fast]; kernel_rfl) ?_)
  rw [if_neg (by simp)]
  refine wpAny_bind (wpAny_rule (wpAny_bind ?_))
  unfold newFields
  refine wpAny_newObj_type (wpAny_pure ?_)
  exact ⟨_, rfl, h _ _ (F.push _) (News.push F N _) fun p hp => Heap.lt_size (N p hp).1⟩
theorem pyIter_ci {ci : Addr} {o : Obj} {Q : Value → Shared → Prop} (ho : s.heap.get? ci = some o) (hc : o.cls = .type "callable_iterator") (h : Q (.ref ci) s) : wpAny (model prog w) A (pyIter (.ref ci)) Q E s := by
  have hT : s.TypeIs (.ref ci) "callable_iterator" := ⟨_, ho, hc⟩
  refine wpAny_pyIter_slot hT slot_cii (wpAny_call_entry slot_cii hT entry_cii ?_ (args_cii _))
  show wpAny _ _ (ret (.ref ci)) _ _ s
  exact wpAny_pure ⟨_, rfl, "callable_iterator", _, hT, slot_cin.lookup, h⟩
end
end Mine
namespace Mine
def lexWs (c : Nat) : Bool := c == 10 || c == 9 || c == 13 || c == 32
def inQ : List Nat → List Nat → List Nat × List Nat
  | tok, [] => (tok, [])
  | tok, [c] => if c = 34 then (tok, []) else if c = 92 then (tok, []) else (tok ++ [c], [])
  | tok, c :: d :: r => if c = 34 then (tok, d :: r) else if c = 92 then inQ (tok ++ [d]) r else inQ (tok ++ [c]) (d :: r)
def inW : List Nat → List Nat → List Nat × List Nat
  | tok, [] => (tok, [])
  | tok, [c] => if lexWs c then (tok, []) else if c = 92 then (tok, []) else (tok ++ [c], [])
  | tok, c :: d :: r => if lexWs c then (tok, d :: r) else if c = 92 then inW (tok ++ [d]) r else inW (tok ++ [c]) (d :: r)
def lexTok : List Nat → List Nat × List Nat
  | [] => ([], [])
  | c :: r => if lexWs c then lexTok r else if c = 34 then inQ [] r else if c = 92 then (match r with | [] => ([], []) | d :: r' => inW [d] r') else inW [c] r
def nls (cs : List Nat) : Int := (cs.count 10 : Nat)

/-- the ledger while the iterator lives, and behind its end -/
abbrev liveL (w : World) (TT : Led) (lx dlx lf st pb ci q : Addr) (t0 t3 k1 k2 k3 k4 : Tok) (n : Int) (t : Tok) (vs : List Value) (k : Nat) : Led :=
  (dlx, lexD w n t t3 k1 k2 k3 k4 (.ref st) (.ref pb)) :: (lf, listOf vs.toArray k) :: (ci, ciO q t0) :: (q, methodObj (.ref 98) (.ref lx)) :: TT
abbrev endL (w : World) (TT : Led) (lx dlx lf st pb ci q : Addr) (t3 k1 k2 k3 k4 : Tok) (n : Int) (t : Tok) (k : Nat) : Led :=
  (dlx, lexD w n t t3 k1 k2 k3 k4 (.ref st) (.ref pb)) :: (lf, listOf #[] k) :: (ci, ciE) :: (q, methodObj (.ref 98) (.ref lx)) :: TT
theorem LexR.cons {w : World} {TT : Led} {lx dlx lf pb st dst f c' cell : Addr} (R : LexR w TT lx dlx lf pb st dst f c' cell) (p : Addr × Obj) : LexR w (p :: TT) lx dlx lf pb st dst f c' cell := by
  obtain ⟨h1, h2, ⟨tt, tt3, kk1, kk2, kk3, kk4, kk5, ppbv, h3⟩, ⟨doc, ct, h4⟩, ⟨oc, ovs, ot, h5, h5a, h5b⟩, ⟨oo, h6, h6a⟩⟩ := R
  exact ⟨.tail _ h1, .tail _ h2, ⟨_, _, _, _, _, _, _, _, .tail _ h3⟩, ⟨_, _, .tail _ h4⟩, ⟨_, _, _, .tail _ h5, h5a, h5b⟩, ⟨_, .tail _ h6, h6a⟩⟩
theorem LexR.sub {w : World} {TT TT' : Led} {lx dlx lf pb st dst f c' cell : Addr} (R : LexR w TT lx dlx lf pb st dst f c' cell) (h : ∀ p ∈ TT, p ∈ TT') : LexR w TT' lx dlx lf pb st dst f c' cell := by
  obtain ⟨h1, h2, ⟨tt, tt3, kk1, kk2, kk3, kk4, kk5, ppbv, h3⟩, ⟨doc, ct, h4⟩, ⟨oc, ovs, ot, h5, h5a, h5b⟩, ⟨oo, h6, h6a⟩⟩ := R
  exact ⟨h _ h1, h _ h2, ⟨_, _, _, _, _, _, _, _, h _ h3⟩, ⟨_, _, h _ h4⟩, ⟨_, _, _, h _ h5, h5a, h5b⟩, ⟨_, h _ h6, h6a⟩⟩
theorem OwnOff.two {TT : Led} {a b : Addr} (h : OwnOff TT [a, b]) {p q : Addr × Obj} (hp : p.1 ≠ a ∧ p.1 ≠ b) (hq : q.1 ≠ a ∧ q.1 ≠ b) : OwnOff (p :: q :: TT) [a, b] := by
  intro x hx y hy
  have hy : y = a ∨ y = b := by simpa using hy
  rcases List.mem_cons.mp hx with rfl | hx
  · rcases hy with rfl | rfl
    · exact hp.1
    · exact hp.2
  rcases List.mem_cons.mp hx with rfl | hx
  · rcases hy with rfl | rfl
    · exact hq.1
    · exact hq.2
  exact h x hx y (by rcases hy with rfl | rfl <;> simp)
theorem sgn_last {vs : List Value} {c : Nat} {r : List Nat} (h : StrsAre vs (sgn (c :: r)).reverse) : ∃ us t, vs = us ++ [Value.str ⟨#[c]⟩ t] ∧ StrsAre us (sgn r).reverse := by
  have e : (sgn (c :: r)).reverse = (sgn r).reverse ++ [(⟨#[c]⟩ : Str)] := by simp [sgn]
  rw [e] at h
  have app : ∀ (xs : List Str) (y : Str) (vs : List Value), StrsAre vs (xs ++ [y]) → ∃ us t, vs = us ++ [Value.str y t] ∧ StrsAre us xs := by
    intro xs
    induction xs with
    | nil => intro y vs h; obtain ⟨t, vs', rfl, h'⟩ := StrsAre.cons_inv h; cases h'; exact ⟨[], t, rfl, .nil⟩
    | cons x xs ih =>
      intro y vs h
      obtain ⟨t, vs', rfl, h'⟩ := StrsAre.cons_inv h
      obtain ⟨us, t', rfl, hu⟩ := ih y vs' h'
      exact ⟨_ :: us, t', rfl, .cons _ _ hu⟩
  exact app _ _ _ h
theorem fn98 {w : World} {h : Heap} (X : (top0.heap_39 w.params).In h) : ∃ og fd, h.get? 98 = some og ∧ og.data = .func fd := by
  w_top off; have hfill9 := (show top0.heap_39 = top0.heap_39 ∧ PySem.Challenge.rw_xe0021_01 = PySem.Challenge.rw_xe0021_01 by k_fill; exact ⟨rfl, rfl⟩); clear hfill9; k_with_none
  exact ⟨_, _, X 98 _ (by k_is), rfl⟩

section
variable {prog : Program} {w : World} {A : Around} {E : Value → Shared → Prop} {s : Shared} {env : Env} {h₀ : Heap} {L : Addr} {m : Str → Option Value} {news : Led} {v : Str} {body : List Stmt} {Q : Flow → Shared → Prop}
def OwnAt (prog : Program) (w : World) (A : Around) (E : Value → Shared → Prop) (env : Env) (v : Str) (body : List Stmt) (Q : Flow → Shared → Prop) (it : Value) (s₂ : Shared) : Prop := ∃ I n, it = .ref I ∧ OwitRest prog w A E env v body Q I n s₂
theorem for_own {px pos : Pos} {iter : Expr}
    (h : wpAny (model prog w) A (eval iter env) (fun xv s₁ => wpAny (model prog w) A (pyIter xv) (OwnAt prog w A E env v body Q) E s₁) E s)
    (hs : ∀ x, foldedSetIterable iter env x = pure x := by intro _; rfl) (hE : PassesOwn (model prog w) A env E := by passes_own) :
    wpAny (model prog w) A (exec (.For (.Name v px) iter body [] pos) env) Q E s := by
  refine wpAny_For (wpAny_mono h (fun xv s₁ h₁ => wpAny_mono h₁ (fun it s₂ h₂ => ?_) fun _ _ z => z) fun _ _ z => z) hs
  obtain ⟨I, n, rfl, h₂⟩ := h₂
  refine codeAny_forLoop (R := fun r s' => match r with | .ok f => Q f s' | .error e => cameBackBy (model prog w) A env E e s') (fun k s' => OwitRest prog w A E env v body Q I k s') (fun k s' hk => ?_) n h₂
  cases k with
  | zero => exact hk.elim
  | succ k =>
    refine wpAny_passesOwn hE (wpAny_mono (show wpAny (model prog w) A (pyNext (.ref I)) (OwitTurn prog w A E env v body Q (OwitRest prog w A E env v body Q I k)) E s' from hk) (fun r s₁ hr => ?_) fun _ _ z => z)
    match r, hr with
    | none, hr => exact wpAny_execs_nil hr
    | some y, hr =>
      refine wpAny_passesOwn hE (wpAny_assign_Name (wpAny_mono hr (fun _ s₂ h₂ => wpAny_passesOwn hE (wpAny_mono h₂ (fun f s₃ h₃ => ?_) fun _ _ z => z)) fun _ _ z => z))
      match f, h₃ with
      | .next, h₃ => exact ⟨k, Nat.lt_succ_self k, h₃⟩
      | .cont, h₃ => exact ⟨k, Nat.lt_succ_self k, h₃⟩
      | .brk, h₃ => exact h₃
      | .ret _, h₃ => exact h₃
theorem own_inv {σ : Type} {I : Addr} (J : σ → Shared → Prop) (ms : σ → Nat)
    (turn : ∀ x s, J x s → wpAny (model prog w) A (pyNext (.ref I)) (OwitTurn prog w A E env v body Q (fun s' => ∃ y, ms y < ms x ∧ J y s')) E s) (x₀ : σ) (h : J x₀ s) :
    OwnAt prog w A E env v body Q (.ref I) s := by
  have all : ∀ n x s, ms x < n → J x s → OwitRest prog w A E env v body Q I n s := by
    intro n
    induction n with
    | zero => intro x s h; exact absurd h (Nat.not_lt_zero _)
    | succ n ih =>
      intro x s hn hJ
      refine OwitRest.succ (wpAny_mono (turn x s hJ) (fun r s₁ hr => ?_) fun _ _ z => z)
      match r, hr with
      | none, hr => exact hr
      | some y, hr =>
        refine wpAny_mono hr (fun _ s₂ h₂ => wpAny_mono h₂ (fun f s₃ h₃ => ?_) fun _ _ z => z) fun _ _ z => z
        match f, h₃ with
        | .next, ⟨z, hz, hJ'⟩ => exact ih z s₃ (by omega) hJ'
        | .cont, ⟨z, hz, hJ'⟩ => exact ih z s₃ (by omega) hJ'
        | .brk, h₃ => exact h₃
        | .ret _, h₃ => exact h₃
  exact ⟨I, _, rfl, all _ x₀ s (Nat.lt_succ_self _) h⟩
end

theorem nls_cons (c : Nat) (r : List Nat) : nls (c :: r) = nlOf c + nls r := by
  unfold nls nlOf
  rw [List.count_cons]
  by_cases h : c = 10
  · subst h; simp; omega
  · simp [h]
theorem one_ne (c : Nat) : (⟨#[c]⟩ : Str) ≠ Str.ofString "" := by
  intro h
  have e : Str.ofString "" = (⟨#[]⟩ : Str) := by decide +kernel
  rw [e] at h
  simp at h
section
variable {w : World} {A : Around} {E : Value → Shared → Prop} {s : Shared} {h₀ : Heap} {L : Addr} {m : Str → Option Value}
   {nm : List (Str × NameKind)} {ig ic : Bool} {mr : List (Str × Const)} {cn : Str} {a : Addr} {ccd : Value} {cl : List (Str × Addr)} {outer : List Env} {A₀ : Around} {base : Heap}
   {p : Program} {loose : List Str} {mean : ExcName → Option Value} {mg mb : Str → Option Value}
   {TT : Led} {lx dlx lf pb st dst f c' cell ci q : Addr} {t0 t3 k1 k2 k3 k4 : Tok} {n : Int} {t : Tok} {vs : List Value} {k : Nat} {cs : List Nat}
theorem ci_next {Q : Option Value → Shared → Prop} (R : LexR w TT lx dlx lf pb st dst f c' cell) (hoff : OwnOff TT [dlx, lf]) (hne : dlx ≠ lf) (hci : (ci ≠ dlx ∧ ci ≠ lf) ∧ q ≠ dlx ∧ q ≠ lf) (hcq : q < ci) (hcT : ∀ p ∈ TT, p.1 ≠ ci) (hcs : cs.length ≤ 10000)
   (hvs : StrsAre vs (sgn cs).reverse) (h0 : A.handled = none)
   (N : News h₀ L s.heap (liveL w TT lx dlx lf st pb ci q t0 t3 k1 k2 k3 k4 n t vs k)) (B : Below A₀ base outer h₀) (F : Fr h₀ L s.heap m) (X : (top0.heap_39 w.params).In h₀) (T : Top p loose mean mg mb h₀) (C : CodeHd base 144 140)
   (hh : A.in1.handled = none) (hf : A.in1.frames = some (envX cn (Sc nm ig ic mr) L a ccd cl :: outer)) (hd : A.in1.depth ≤ 900 - 100 * 0) (hu : A.in1.units ≤ 9000 - 1000 * 0)
   (hitem : ∀ c r, cs = c :: r → ∀ tc h' tk t' us k', Fr h₀ L h' m → News h₀ L h' (liveL w TT lx dlx lf st pb ci q t0 t3 k1 k2 k3 k4 (n + nlOf c) t' us k') → StrsAre us (sgn r).reverse → Q (some (.str ⟨#[c]⟩ tc)) { s with heap := h', toks := tk })
   (hend : cs = [] → ∀ h' tk k', Fr h₀ L h' m → News h₀ L h' (endL w TT lx dlx lf st pb ci q t3 k1 k2 k3 k4 n t k') → Q none { s with heap := h', toks := tk }) :
   wpAny (model pr w) A (pyNext (.ref ci)) Q E s := by
  obtain ⟨og, fd, x98, x98d⟩ := fn98 X
  have e1 : s.heap.get? ci = some (ciO q t0) := (N (ci, ciO q t0) (by simp)).1
  have e2 : s.heap.get? q = some (methodObj (.ref 98) (.ref lx)) := (N (q, methodObj (.ref 98) (.ref lx)) (by simp)).1
  have e3 : s.heap.get? 98 = some og := F.keep _ _ x98
  have R' : LexR w ((ci, ciO q t0) :: (q, methodObj (.ref 98) (.ref lx)) :: TT) lx dlx lf pb st dst f c' cell := (R.cons _).cons _
  have hoff' : OwnOff ((ci, ciO q t0) :: (q, methodObj (.ref 98) (.ref lx)) :: TT) [dlx, lf] := OwnOff.two hoff hci.1 hci.2
  cases cs with
  | cons c r =>
    obtain ⟨us, tc, rfl, hus⟩ := sgn_last hvs
    refine ci_item e1 e2 e3 x98d (TellC.code N B F X T C hh hf hd hu (rc_cons w _ lx dlx lf pb st dst f c' cell R' hoff' hne n t t3 k1 k2 k3 k4 (.ref pb) us c k tc ?_) ?_)
    · have z := hus.len_eq
      simp [sgn] at z hcs
      omega
    · rintro v news' h' tk' F' N' ⟨t', rfl, rfl⟩
      exact ⟨_, _, rfl, one_ne c, (N' (ci, ciO q t0) (by simp)).1, hitem c r rfl tc h' tk' t' us (k + 1) F' N' hus⟩
  | nil =>
    cases hvs
    refine ci_end h0 e1 e2 e3 x98d (TellC.code N B F X T C hh hf hd hu (rc_nil w _ lx dlx lf pb st dst f c' cell R' hoff' hne n t t3 k1 k2 k3 k4 (.ref pb) k) ?_)
    rintro v news' h' tk' F' N' ⟨t', rfl, rfl⟩
    refine ⟨t', rfl, (N' (ci, ciO q t0) (by simp)).1, (N' (q, methodObj (.ref 98) (.ref lx)) (by simp)).1, F'.keep _ _ x98, Ne.symm (Nat.ne_of_lt hcq), ?_, ?_⟩
    · intro e
      have z := (N' (ci, ciO q t0) (by simp)).2.2
      rw [e] at z
      dsimp only at z
      rw [x98] at z
      cases z
    intro h₁ h₂ hs hc hk
    have z := N' (ci, ciO q t0) (by simp)
    refine hend rfl h₂ tk' k ?_ ?_
    · exact (F'.change hs z.2.1 z.2.2).keeps hk
    · refine news_keeps (fun p hp => ?_) hk
      have old : ∀ p, p.1 ≠ ci → p ∈ (liveL w TT lx dlx lf st pb ci q t0 t3 k1 k2 k3 k4 n t [] k) → h₁.get? p.1 = some p.2 ∧ p.1 ≠ L ∧ h₀.get? p.1 = none := fun p hn hp => ⟨(hs.2 _ hn).trans (N' p hp).1, (N' p hp).2⟩
      simp only [endL, List.mem_cons] at hp
      rcases hp with rfl | rfl | rfl | rfl | hp
      · exact old _ (Ne.symm hci.1.1) (by simp)
      · exact old _ (Ne.symm hci.1.2) (by simp)
      · exact ⟨hc, z.2⟩
      · exact old _ (Nat.ne_of_lt hcq) (by simp)
      · exact old _ (hcT p hp) (by simp [hp])

/-- the state at the head of a loop over the reader: (ended, signs left, token) -/
def LS (w : World) (TT : Led) (lx dlx lf st pb ci q : Addr) (t0 t3 k1 k2 k3 k4 : Tok) (N0 : Int) (g : Heap) (L : Addr) (m0 : Str → Option Value) (s : Shared) (x : Bool × List Nat × List Nat) (s' : Shared) : Prop :=
  ∃ h tk n t vs k tt m', s' = { s with heap := h, toks := tk } ∧ Fr g L h m' ∧ News g L h (if x.1 = true then endL w TT lx dlx lf st pb ci q t3 k1 k2 k3 k4 n t k else liveL w TT lx dlx lf st pb ci q t0 t3 k1 k2 k3 k4 n t vs k) ∧
    n + nls x.2.1 = N0 ∧ StrsAre vs (sgn x.2.1).reverse ∧ x.2.2.length + x.2.1.length ≤ 10000 ∧ (x.1 = true → x.2.1 = []) ∧ Same ["ch"] [("token", .str ⟨x.2.2.toArray⟩ tt), ("self", .ref lx), ("fiter", .ref ci)] m0 m'
theorem ls_next {Q : Option Value → Shared → Prop} {s₀ : Shared} {N0 : Int} {m0 : Str → Option Value} (x : Bool × List Nat × List Nat) (hJ : LS w TT lx dlx lf st pb ci q t0 t3 k1 k2 k3 k4 N0 h₀ L m0 s₀ x s)
   (R : LexR w TT lx dlx lf pb st dst f c' cell) (hoff : OwnOff TT [dlx, lf]) (hne : dlx ≠ lf) (hci : (ci ≠ dlx ∧ ci ≠ lf) ∧ q ≠ dlx ∧ q ≠ lf) (hcq : q < ci) (hcT : ∀ p ∈ TT, p.1 ≠ ci) (h0 : A.handled = none)
   (B : Below A₀ base outer h₀) (X : (top0.heap_39 w.params).In h₀) (T : Top p loose mean mg mb h₀) (C : CodeHd base 144 140)
   (hh : A.in1.handled = none) (hf : A.in1.frames = some (envX cn (Sc nm ig ic mr) L a ccd cl :: outer)) (hd : A.in1.depth ≤ 900 - 100 * 0) (hu : A.in1.units ≤ 9000 - 1000 * 0)
   (hitem : ∀ c r, x.1 = false → x.2.1 = c :: r → x.2.2.length + (r.length + 1) ≤ 10000 → ∀ tc h' tk n t us k' tt u, Fr h₀ L h' (ovr ["ch"] u [("token", .str ⟨x.2.2.toArray⟩ tt), ("self", .ref lx), ("fiter", .ref ci)] m0) → News h₀ L h' (liveL w TT lx dlx lf st pb ci q t0 t3 k1 k2 k3 k4 n t us k') → n + nls r = N0 → StrsAre us (sgn r).reverse → Q (some (.str ⟨#[c]⟩ tc)) { s₀ with heap := h', toks := tk })
   (hend : x.2.1 = [] → ∀ h' tk t k' tt u, Fr h₀ L h' (ovr ["ch"] u [("token", .str ⟨x.2.2.toArray⟩ tt), ("self", .ref lx), ("fiter", .ref ci)] m0) → News h₀ L h' (endL w TT lx dlx lf st pb ci q t3 k1 k2 k3 k4 N0 t k') → Q none { s₀ with heap := h', toks := tk }) :
   wpAny (model pr w) A (pyNext (.ref ci)) Q E s := by
  obtain ⟨e, cs, tok⟩ := x
  obtain ⟨h, tk, n, t, vs, k, tt, m', rfl, F, N, hn, hvs, hl, hen, hS⟩ := hJ
  dsimp only at hn hvs hl hen hS N hitem hend
  have F3 := same_fr hS F
  cases e with
  | false =>
    refine ci_next R hoff hne hci hcq hcT (by omega) hvs h0 N B F3 X T C hh hf hd hu ?_ ?_
    · rintro c r rfl tc h' tk' t' us k' F' N' hus
      refine hitem c r rfl rfl (by simpa using hl) tc h' tk' _ t' us k' tt m' F' N' ?_ hus
      rw [nls_cons] at hn; omega
    · rintro rfl h' tk' k' F' N'
      have e : n = N0 := by simpa [nls] using hn
      subst e
      exact hend rfl h' tk' t k' tt m' F' N'
  | true =>
    obtain rfl := hen rfl
    have e : n = N0 := by simpa [nls] using hn
    subst e
    refine ci_ended h0 (N (ci, ciE) (by simp)).1 fun h₂ hk => ?_
    exact hend rfl h₂ tk t k tt m' (F3.keeps hk) (news_keeps N hk)
end

theorem TellC.mono {w : World} {k : Nat} {f : Addr} {args : List Value} {news : Led} {Post Post' : Value → Led → Prop} (H : TellC w k f args news Post) (h : ∀ v n, Post v n → Post' v n) : TellC w k f args news Post' :=
  fun nm ig ic mr gd cn a ccd cl outer A₀ base h₀ L m s Q E p loose mean mg mb C B F X N T hret => H nm ig ic mr gd cn a ccd cl outer A₀ base h₀ L m s Q E p loose mean mg mb C B F X N T fun v n h' tk' F' N' P' => hret v n h' tk' F' N' (h v n P')
theorem rc_any (w : World) (TT : Led) (lx dlx lf pb st dst f c' cell : Addr) (R : LexR w TT lx dlx lf pb st dst f c' cell) (hoff : OwnOff TT [dlx, lf]) (hne : dlx ≠ lf)
   (n : Int) (t t3 k1 k2 k3 k4 : Tok) (pbv : Value) (vs : List Value) (cs : List Nat) (k : Nat) (hvs : StrsAre vs (sgn cs).reverse) (hsz : cs.length ≤ 10000) :
   TellC w 0 98 [.ref lx] ((dlx, lexD w n t t3 k1 k2 k3 k4 (.ref st) pbv) :: (lf, listOf vs.toArray k) :: TT) fun v nn => ∃ tc t' us k', v = .str ⟨(cs.take 1).toArray⟩ tc ∧
     nn = ((dlx, lexD w (n + nls (cs.take 1)) t' t3 k1 k2 k3 k4 (.ref st) pbv) :: (lf, listOf us.toArray k') :: TT) ∧ StrsAre us (sgn (cs.drop 1)).reverse := by
  cases cs with
  | nil =>
    cases hvs
    refine (rc_nil w TT lx dlx lf pb st dst f c' cell R hoff hne n t t3 k1 k2 k3 k4 pbv k).mono ?_
    rintro v nn ⟨t', rfl, rfl⟩
    refine ⟨t', t, [], k, ?_, ?_, .nil⟩
    · rfl
    · simp [nls]
  | cons c r =>
    obtain ⟨us, tc, rfl, hus⟩ := sgn_last hvs
    refine (rc_cons w TT lx dlx lf pb st dst f c' cell R hoff hne n t t3 k1 k2 k3 k4 pbv us c k tc (by have z := hus.len_eq; simp [sgn] at z hsz; omega)).mono ?_
    rintro v nn ⟨t', rfl, rfl⟩
    refine ⟨tc, t', us, k + 1, by simp, ?_, by simpa using hus⟩
    rw [show (c :: r).take 1 = [c] from rfl, nls_cons, show nls [] = 0 from rfl, Int.add_zero]
theorem ws_iff (c : Nat) : (Builtin.Str.occurrences (Str.ofString "\n\t\r ") { cps := #[c] } 0 (Str.ofString "\n\t\r ").length 1).isEmpty = !(lexWs c) := by
  have e := StrLaws.found_one (Str.ofString "\n\t\r ") c
  have e2 : (Str.ofString "\n\t\r ").cps.toList = [10, 9, 13, 32] := by decide +kernel
  rw [e2] at e
  rw [← Bool.not_not (Builtin.Str.occurrences (Str.ofString "\n\t\r ") { cps := #[c] } 0 (Str.ofString "\n\t\r ").length 1).isEmpty, e]
  congr 1
  rw [Bool.eq_iff_iff]
  simp [lexWs, or_assoc]
theorem quo_iff (c : Nat) : (({ cps := #[c] } : Str) == Str.ofString "\"") = decide (c = 34) := by
  rw [show Str.ofString "\"" = (⟨#[34]⟩ : Str) by decide +kernel, Bool.eq_iff_iff]; simp
theorem bsl_iff (c : Nat) : (({ cps := #[c] } : Str) == Str.ofString "\\") = decide (c = 92) := by
  rw [show Str.ofString "\\" = (⟨#[92]⟩ : Str) by decide +kernel, Bool.eq_iff_iff]; simp
theorem str_app (a b : List Nat) : (⟨a.toArray⟩ ++ ⟨b.toArray⟩ : Str) = ⟨(a ++ b).toArray⟩ := by
  show (⟨a.toArray ++ b.toArray⟩ : Str) = _
  rw [List.append_toArray]

theorem LS.live {w : World} {TT : Led} {lx dlx lf st pb ci q : Addr} {t0 t3 k1 k2 k3 k4 : Tok} {N0 : Int} {g : Heap} {L : Addr} {m0 : Str → Option Value} {s : Shared} {cs tok : List Nat} {h : Heap} {tk : Nat} {n : Int} {t : Tok} {vs : List Value} {k : Nat} {tt : Tok} {m' : Str → Option Value}
   (F : Fr g L h m') (N : News g L h (liveL w TT lx dlx lf st pb ci q t0 t3 k1 k2 k3 k4 n t vs k)) (hn : n + nls cs = N0) (hus : StrsAre vs (sgn cs).reverse) (hl : tok.length + cs.length ≤ 10000)
   (h1 : m' "token" = some (.str ⟨tok.toArray⟩ tt)) (h2 : m' "self" = some (.ref lx)) (h3 : m' "fiter" = some (.ref ci)) (hr : ∀ z : Str, z ∉ ([("ch" : Str)] : List Str) → z ∉ ([("token" : Str), ("self" : Str), ("fiter" : Str)] : List Str) → m' z = m0 z) :
   LS w TT lx dlx lf st pb ci q t0 t3 k1 k2 k3 k4 N0 g L m0 s (false, cs, tok) { s with heap := h, toks := tk } :=
  ⟨h, tk, n, t, vs, k, tt, m', rfl, F, N, hn, hus, hl, (fun h => by cases h), same_of ⟨h1, h2, h3, trivial⟩ hr⟩
theorem LS.dead {w : World} {TT : Led} {lx dlx lf st pb ci q : Addr} {t0 t3 k1 k2 k3 k4 : Tok} {N0 : Int} {g : Heap} {L : Addr} {m0 : Str → Option Value} {s : Shared} {tok : List Nat} {h : Heap} {tk : Nat} {t : Tok} {k : Nat} {tt : Tok} {m' : Str → Option Value}
   (F : Fr g L h m') (N : News g L h (endL w TT lx dlx lf st pb ci q t3 k1 k2 k3 k4 N0 t k)) (hl : tok.length ≤ 10000)
   (h1 : m' "token" = some (.str ⟨tok.toArray⟩ tt)) (h2 : m' "self" = some (.ref lx)) (h3 : m' "fiter" = some (.ref ci)) (hr : ∀ z : Str, z ∉ ([("ch" : Str)] : List Str) → z ∉ ([("token" : Str), ("self" : Str), ("fiter" : Str)] : List Str) → m' z = m0 z) :
   LS w TT lx dlx lf st pb ci q t0 t3 k1 k2 k3 k4 N0 g L m0 s (true, [], tok) { s with heap := h, toks := tk } :=
  ⟨h, tk, N0, t, [], k, tt, m', rfl, F, N, (by simp [nls]), .nil, (by simpa using hl), (fun _ => rfl), same_of ⟨h1, h2, h3, trivial⟩ hr⟩
theorem str_at {m : Str → Option Value} {x y z : Str} {t : Tok} (h : m x = some (.str y t)) (e : y = z) : m x = some (.str z t) := e ▸ h

theorem nls_split (r : List Nat) : nls r = nls (r.take 1) + nls (r.drop 1) := by
  cases r with
  | nil => rfl
  | cons c r => rw [show (c :: r).take 1 = [c] from rfl, show (c :: r).drop 1 = r from rfl, nls_cons, nls_cons, show nls [] = 0 from rfl]; omega

theorem inQ_end (tok r : List Nat) : inQ tok (34 :: r) = (tok, r) := by cases r <;> simp [inQ]
theorem inQ_esc (tok r : List Nat) : inQ tok (92 :: r) = inQ (tok ++ r.take 1) (r.drop 1) := by cases r <;> simp [inQ]
theorem inQ_sign (tok r : List Nat) (c : Nat) (h1 : c ≠ 34) (h2 : c ≠ 92) : inQ tok (c :: r) = inQ (tok ++ [c]) r := by cases r <;> simp [inQ, h1, h2]
theorem inW_end (tok r : List Nat) (c : Nat) (h : lexWs c = true) : inW tok (c :: r) = (tok, r) := by cases r <;> simp [inW, h]
theorem inW_esc (tok r : List Nat) : inW tok (92 :: r) = inW (tok ++ r.take 1) (r.drop 1) := by cases r <;> simp [inW, show lexWs 92 = false by decide]
theorem inW_sign (tok r : List Nat) (c : Nat) (h1 : lexWs c = false) (h2 : c ≠ 92) : inW tok (c :: r) = inW (tok ++ [c]) r := by cases r <;> simp [inW, h1, h2]
end Mine
namespace Mine
theorem gt_read (w : World) (TT : Led) (lx dlx lf pb st dst f c' cell : Addr) (R : LexR w TT lx dlx lf pb st dst f c' cell) (hoff : OwnOff TT [dlx, lf]) (hne : dlx ≠ lf)
   (n : Int) (t t3 k1 k2 k3 k4 : Tok) (kp : Nat) (hpb : (pb, listOf #[] kp) ∈ TT) (vs : List Value) (cs : List Nat) (k : Nat) (hvs : StrsAre vs (sgn cs).reverse) (hsz : cs.length ≤ 10000) :
   TellC w 1 105 [.ref lx] ((dlx, lexD w n t t3 k1 k2 k3 k4 (.ref st) (.ref pb)) :: (lf, listOf vs.toArray k) :: TT) fun v nn => ∃ t' ts vs' k', v = .str ⟨(lexTok cs).1.toArray⟩ ts ∧
     nn = ((dlx, lexD w (n + nls cs - nls (lexTok cs).2) t' t3 k1 k2 k3 k4 (.ref st) (.ref pb)) :: (lf, listOf vs'.toArray k') :: TT) ∧ StrsAre vs' (sgn (lexTok cs).2).reverse := by
  w_top off; have hfill9 := (show top0.heap_39 = top0.heap_39 ∧ PySem.Challenge.rw_xe0021_01 = PySem.Challenge.rw_xe0021_01 by k_fill; exact ⟨rfl, rfl⟩); clear hfill9; k_with_none
  k_with "M9" => ((with_reducible show wpAny _ _ (truthy (Value.ref _)) _ _ _); (k_here; k_dflt (refine' truthyL_none ?Nq99 ?mq99 ?h1q99 ?_; (case Nq99 => k_asm); (case mq99 => k_mem); (case h1q99 => rfl); k_whole); intro _))
  k_with "M9" => ((with_reducible show wpAny _ _ (call (Value.builtin "iter") _) _ _ _); (k_here; k_dflt (refine' iter_ok ?Fq2635 ?Nq2635 ?mq2635 ?_; (case Fq2635 => k_asm); (case Nq2635 => k_asm); (case mq2635 => k_mem); k_whole); intro _ _ _ _ l1; (try k_lt l1); revert l1; intro _; (try k_sweep)))
  k_with "M9" => ((with_reducible show wpAny _ _ (binaryOp Operator.Add (Value.str _ _) (Value.str _ _)) _ _ _); (k_here; k_dflt (refine' PyProof.Rows.add_str ?_ ?hszq34; (case hszq34 => (rw [sizeLine_eq]; omega)); k_whole); intro _ _))
  k_with "M9" => ((with_reducible show wpAny _ _ (inplaceOp Operator.Add (Value.str _ _) (Value.str _ _)) _ _ _); (k_here; k_dflt (refine' PyProof.Rows.iadd_str ?_ ?hszq1102; (case hszq1102 => (rw [sizeLine_eq]; simp only [List.size_toArray, List.length_append, List.length_cons, List.length_nil, List.length_take, Str.length]; omega)); k_whole); intro _ _))
  k_with "M9" => (k_here; (with_reducible show wpAny _ _ (call (Value.ref 98) _) _ _ _); k_dflt (refine' TellC.use ?Nq1477 ?Bq1477 ?Fq1477 ?Xq1477 ?Tq1477 ?Cq1477 rfl rfl ?dq1477 ?uq1477 (rc_any _ _ _ _ _ _ _ _ _ _ _ ?h1q1477 ?h2q1477 ?h3q1477 _ _ _ _ _ _ _ _ _ _ _ ?h4q1477 ?h5q1477) ?_; (case Nq1477 => k_asm); (case Bq1477 => k_asm); (case Fq1477 => k_asm); (case Xq1477 => k_asm); (case Tq1477 => k_asm); (case dq1477 => exact Nat.le_of_ble_eq_true rfl); (case uq1477 => exact Nat.le_of_ble_eq_true rfl); (case Cq1477 => k_asm); (case h1q1477 => assumption); (case h2q1477 => assumption); (case h3q1477 => assumption); (case h4q1477 => assumption); (case h5q1477 => omega); k_whole); intro _ _ _ _ _ _ P'; obtain ⟨_, _, _, _, e1, e2, _⟩ := P'; subst e1; replace e2 := e2.symm; subst e2; (try k_sweep))
  have hne' := neN hne
  have R' := R
  obtain ⟨h1, h2, ⟨tt, tt3, kk1, kk2, kk3, kk4, kk5, ppbv, h3⟩, ⟨doc, ct, h4⟩, ⟨oc, ovs, ot, h5, h5a, h5b⟩, ⟨oo, h6, h6a⟩⟩ := R
  intro nm ig ic mr gd cn a ccd cl outer A₀ base h₀ L m s Q E p loose mean mg mb C B F X N T hret
  k_enter
  repeat' (first | (k_unfold; (try dsimp only)) | (k_end; wrow_close) | ((fail_if_success (with_reducible show wpAny _ _ (exec (Stmt.While _ _ _ _) _) _ _ _)); (fail_if_success (with_reducible show wpAny _ _ (exec (Stmt.For _ _ _ _ _) _) _ _ _)); (first | k_extra "M9" | walk1)) | (dsimp only; (first | k_extra "M9" | walk1)) | (leave1; walk_say "STEP leave1"; try dsimp only) | fail "no step")
  rename_i gg LL hh4 FG BB XX TP tk1 tk2 hh3 qq hh2 lq ci hh1 lc hh FF NN
  refine for_own ?_
  repeat' (first | ((fail_if_success (with_reducible show wpAny _ _ (pyIter _) _ _ _)); (first | k_extra "M9" | walk1)))
  rename Fr _ _ _ _ => F1
  rename News _ _ _ _ => N1
  obtain ⟨m0, A0, F0⟩ := named F1 [("token", .str (Str.ofString "") _), ("self", .ref lx), ("fiter", .ref ci)] (by (repeat (refine allAt_cons (by with_unfolding_all rfl) ?_)); exact allAt_nil)
  obtain ⟨t0, ho⟩ : ∃ t0, hh.get? ci = some (ciO qq t0) := ⟨_, (N1 _ (.head _)).1⟩
  refine pyIter_ci ho rfl ?_
  obtain ⟨lq1, lq2, lq3⟩ := lq
  obtain ⟨lc1, lc2, lc3, lc4⟩ := lc
  have hcX : (ci ≠ dlx ∧ ci ≠ lf) ∧ qq ≠ dlx ∧ qq ≠ lf := ⟨⟨Ne.symm (Nat.ne_of_lt lc2), Ne.symm (Nat.ne_of_lt lc3)⟩, Ne.symm (Nat.ne_of_lt lq1), Ne.symm (Nat.ne_of_lt lq2)⟩
  have hcT := off_lt lc4
  have R2 : LexR w ((ci, ciO qq t0) :: (qq, methodObj (.ref 98) (.ref lx)) :: TT) lx dlx lf pb st dst f c' cell := (R'.cons _).cons _
  have hoff2 : OwnOff ((ci, ciO qq t0) :: (qq, methodObj (.ref 98) (.ref lx)) :: TT) [dlx, lf] := OwnOff.two hoff hcX.1 hcX.2
  refine own_inv (fun x s' => LS w TT lx dlx lf st pb ci qq t0 t3 k1 k2 k3 k4 (n + nls cs) gg LL m0 s x s' ∧ (x.1 = false → x.2.2 = [] ∧ lexTok x.2.1 = lexTok cs) ∧ (x.1 = true → lexTok cs = (x.2.2, []))) (fun x => 2 * x.2.1.length + (if x.1 = true then 0 else 1)) ?turn (false, cs, []) ⟨?h0, fun _ => ⟨rfl, rfl⟩, fun h => by cases h⟩
  case h0 =>
    refine' ⟨_, _, n, t, vs, k, _, m0, rfl, F0, ?n, rfl, hvs, ?l, ?e, same_start A0⟩
    case n =>
      intro x hx
      simp only [Bool.false_eq_true, if_false, List.mem_cons] at hx
      rcases hx with rfl | rfl | rfl | rfl | hx
      · exact N1 _ (.tail _ (.tail _ (.head _)))
      · exact N1 _ (.tail _ (.tail _ (.tail _ (.head _))))
      · exact ⟨ho, (N1 _ (.head _)).2⟩
      · exact N1 _ (.tail _ (.head _))
      · exact N1 _ (.tail _ (.tail _ (.tail _ (.tail _ hx))))
    case l => simp; omega
    case e => intro h; cases h
  case turn =>
    clear F1 N1 F0
    rintro ⟨e, cs', tok⟩ s' ⟨hJ, hP1, hP2⟩
    refine ls_next _ hJ R' hoff hne hcX lc1 hcT rfl BB XX TP C rfl rfl (Nat.le_of_ble_eq_true rfl) (Nat.le_of_ble_eq_true rfl) ?item ?done
    case done =>
      intro hx h tk t' k' tt u F1 N1
      dsimp only at hx hP1 hP2 F1 N1
      have hfin : lexTok cs = (tok, []) := by
        cases e with
        | true => exact hP2 rfl
        | false => obtain ⟨rfl, z⟩ := hP1 rfl; rw [← z, hx]; rfl
      dsimp only [OwitTurn]
      repeat' (first | (k_unfold; (try dsimp only)) | (k_end; wrow_close) | (first | k_extra "M9" | walk1) | (dsimp only; (first | k_extra "M9" | walk1)) | (leave1; walk_say "STEP leave1"; try dsimp only) | fail "no step")
      rename Fr h₀ L _ m => F9
      rename News h₀ L _ _ => N9
      refine hret _ ((dlx, lexD w (n + nls cs - nls (lexTok cs).2) t' t3 k1 k2 k3 k4 (.ref st) (.ref pb)) :: (lf, listOf (List.toArray []) k') :: TT) _ _ F9 (fun q hq => ?_) ⟨t', _, [], k', by rw [hfin], rfl, by rw [hfin]; exact .nil⟩
      rw [hfin] at hq
      rcases List.mem_cons.mp hq with rfl | hq
      · have e : n + nls cs - nls [] = n + nls cs := by simp [nls]
        rw [e]
        exact N9 _ (.head _)
      rcases List.mem_cons.mp hq with rfl | hq
      · exact N9 _ (.tail _ (.head _))
      · exact N9 _ (.tail _ (.tail _ (.tail _ (.tail _ hq))))
    case item =>
      intro c r hx1 hx2 hl tc h tk n1 t1 us kc1 tt u F1 N1 hn hus
      dsimp only at hx1 hx2 hl F1 N1
      obtain ⟨rfl, hlt⟩ := hP1 hx1
      dsimp only at hlt
      rw [hx2] at hlt
      dsimp only [OwitTurn]
      repeat' (first | (k_unfold; (try dsimp only)) | (k_end; wrow_close) | ((fail_if_success (with_reducible show OwitFlow _ _ _ _)); (fail_if_success (with_reducible show wpAny _ _ (exec (Stmt.While _ _ _ _) _) _ _ _)); (fail_if_success (with_reducible show wpAny _ _ (exec (Stmt.For _ _ _ _ _) _) _ _ _)); (first | k_extra "M9" | walk1)) | (dsimp only; (fail_if_success (with_reducible show OwitFlow _ _ _ _)); (first | k_extra "M9" | walk1)) | (leave1; walk_say "STEP leave1"; try dsimp only) | fail "no step")
      rotate_right
      · -- a blank
        rename_i hw
        rw [ws_iff] at hw
        have hw : lexWs c = true := by simpa using hw
        dsimp only [OwitFlow]
        rename Fr gg LL _ _ => F9
        rename News gg LL _ _ => N9
        refine ⟨(false, r, []), by simp [hx2, hx1], ⟨_, _, n1, t1, us, kc1, tt, _, rfl, F9, N9, hn, hus, (by simp at hl ⊢; omega), (fun h => by cases h), same_of ?sm2 ?sr2⟩, fun _ => ⟨rfl, ?rel⟩, fun h => by cases h⟩
        case sm2 => (repeat (refine allAt_cons (by with_unfolding_all rfl) ?_)); exact allAt_nil
        case sr2 => (intro z h1 h2; simp only [List.map_cons, List.map_nil, List.mem_cons, List.not_mem_nil, or_false, not_or] at h1 h2; simp [ovr_ne, h1, h2])
        case rel => rw [← hlt]; simp [lexTok, hw]
      · -- quoted
        rename (_ == Str.ofString "\"") = true => hq
        rename List.isEmpty _ = true => hw
        rw [ws_iff] at hw
        rw [quo_iff] at hq
        have hw : lexWs c = false := by simpa using hw
        have hq : c = 34 := by simpa using hq
        have hrel : inQ [] r = lexTok cs := by rw [← hlt]; subst hq; simp [lexTok, show lexWs 34 = false by decide]
        refine for_own ?_
        repeat' (first | ((fail_if_success (with_reducible show wpAny _ _ (pyIter _) _ _ _)); (first | k_extra "M9" | walk1)))
        rename Fr _ _ _ _ => F2
        rename News _ _ _ _ => N2
        refine pyIter_ci (N2 (ci, ciO qq t0) (.tail _ (.tail _ (.head _)))).1 rfl ?_
        refine own_inv (fun x s' => LS w TT lx dlx lf st pb ci qq t0 t3 k1 k2 k3 k4 (n + nls cs) gg LL m0 s x s' ∧ (x.1 = false → inQ x.2.2 x.2.1 = lexTok cs) ∧ (x.1 = true → lexTok cs = (x.2.2, []))) (fun x => 2 * x.2.1.length + (if x.1 = true then 0 else 1)) ?turn (false, r, []) ⟨?h0, fun _ => hrel, fun h => by cases h⟩
        case h0 =>
          refine' LS.live F2 N2 ?hn hus ?hl ?sm (by with_unfolding_all rfl) (by with_unfolding_all rfl) ?sr
          case hn => exact hn
          case hl => simp at hl ⊢; omega
          case sm => with_unfolding_all rfl
          case sr => (intro z h1 h2; simp only [List.map_cons, List.map_nil, List.mem_cons, List.not_mem_nil, or_false, not_or] at h1 h2; simp [ovr_ne, h1, h2])
        case turn =>
          clear F2 N2
          rintro ⟨e2, cs2, tok2⟩ s2 ⟨hJ2, hR1, hR2⟩
          refine ls_next _ hJ2 R' hoff hne hcX lc1 hcT rfl BB XX TP C rfl rfl (Nat.le_of_ble_eq_true rfl) (Nat.le_of_ble_eq_true rfl) ?item ?done
          case done =>
            intro hx h tk t' k' tt u F1 N1
            dsimp only at hx hR1 hR2 F1 N1
            have hfin : lexTok cs = (tok2, []) := by
              cases e2 with
              | true => exact hR2 rfl
              | false => have z := hR1 rfl; rw [← z, hx]; rfl
            have hlen : tok2.length ≤ 10000 := by
              obtain ⟨_, _, _, _, _, _, _, _, _, _, _, _, _, z, _⟩ := hJ2
              dsimp only at z
              omega
            dsimp only [OwitTurn]
            repeat' (first | (k_unfold; (try dsimp only)) | (k_end; wrow_close) | ((fail_if_success (with_reducible show OwitFlow _ _ _ _)); (fail_if_success (with_reducible show wpAny _ _ (exec (Stmt.While _ _ _ _) _) _ _ _)); (fail_if_success (with_reducible show wpAny _ _ (exec (Stmt.For _ _ _ _ _) _) _ _ _)); (first | k_extra "M9" | walk1)) | (dsimp only; (fail_if_success (with_reducible show OwitFlow _ _ _ _)); (first | k_extra "M9" | walk1)) | (leave1; walk_say "STEP leave1"; try dsimp only) | fail "no step")
            rename Fr gg LL _ _ => F9
            rename News gg LL _ _ => N9
            dsimp only [OwitFlow]
            refine ⟨(true, [], tok2), by simp [hx1], LS.dead F9 N9 hlen (by with_unfolding_all rfl) (by with_unfolding_all rfl) (by with_unfolding_all rfl) ?sr2, (fun h => by cases h), fun _ => hfin⟩
            case sr2 => (intro z h1 h2; simp only [List.map_cons, List.map_nil, List.mem_cons, List.not_mem_nil, or_false, not_or] at h1 h2; simp [ovr_ne, h1, h2])
          case item =>
            intro c2 r2 hy1 hy2 hl2 tc2 h tk n2 t2 us2 kc2 tt u F1 N1 hn2 hus2
            dsimp only at hy1 hy2 hl2 F1 N1
            have hz := hR1 hy1
            dsimp only at hz
            rw [hy2] at hz
            dsimp only [OwitTurn]
            repeat' (first | (k_unfold; (try dsimp only)) | (k_end; wrow_close) | ((fail_if_success (with_reducible show OwitFlow _ _ _ _)); (fail_if_success (with_reducible show wpAny _ _ (exec (Stmt.While _ _ _ _) _) _ _ _)); (fail_if_success (with_reducible show wpAny _ _ (exec (Stmt.For _ _ _ _ _) _) _ _ _)); (first | k_extra "M9" | walk1)) | (dsimp only; (fail_if_success (with_reducible show OwitFlow _ _ _ _)); (first | k_extra "M9" | walk1)) | (leave1; walk_say "STEP leave1"; try dsimp only) | fail "no step")
            · -- the end of the word
              rename (_ == Str.ofString "\"") = true => hq2
              rw [quo_iff] at hq2
              have hq2 : c2 = 34 := by simpa using hq2
              have hlx : lexTok cs = (tok2, r2) := hz.symm.trans (hq2 ▸ inQ_end _ _)
              dsimp only [OwitFlow]
              repeat' (first | (k_unfold; (try dsimp only)) | (k_end; wrow_close) | (first | k_extra "M9" | walk1) | (dsimp only; (first | k_extra "M9" | walk1)) | (leave1; walk_say "STEP leave1"; try dsimp only) | fail "no step")
              rename Fr h₀ L _ m => F9
              rename News h₀ L _ _ => N9
              have en : n2 = n + nls cs - nls (lexTok cs).2 := by rw [hlx]; dsimp only; omega
              rw [en] at N9
              refine hret _ ((dlx, lexD w (n + nls cs - nls (lexTok cs).2) t2 t3 k1 k2 k3 k4 (.ref st) (.ref pb)) :: (lf, listOf (List.toArray us2) kc2) :: TT) _ _ F9 (fun q hq => ?_) ⟨t2, _, us2, kc2, by rw [hlx], rfl, by rw [hlx]; exact hus2⟩
              rcases List.mem_cons.mp hq with rfl | hq
              · exact N9 _ (.head _)
              rcases List.mem_cons.mp hq with rfl | hq
              · exact N9 _ (.tail _ (.head _))
              · exact N9 _ (.tail _ (.tail _ (.tail _ (.tail _ hq))))
            · -- an escaped sign
              rename (_ == Str.ofString "\\") = true => hb2
              rename StrsAre _ (sgn (List.drop _ r2)).reverse => hus3
              rw [bsl_iff] at hb2
              have hb2 : c2 = 92 := by simpa using hb2
              dsimp only [OwitFlow]
              rename Fr gg LL _ _ => F9
              rename News gg LL _ _ => N9
              have e9 : (⟨tok2.toArray⟩ ++ ⟨(r2.take 1).toArray⟩ : Str) = ⟨(tok2 ++ r2.take 1).toArray⟩ := str_app _ _
              refine' ⟨(false, r2.drop 1, tok2 ++ r2.take 1), ?ms, LS.live F9 N9 ?hn hus3 ?hl (Eq.trans ?b1 (congrArg (fun z => some (Value.str z _)) e9)) (by with_unfolding_all rfl) (by with_unfolding_all rfl) ?sr3, (fun _ => ?rel), fun h => by cases h⟩
              case ms => simp only [hy1, hy2, List.length_drop, List.length_cons]; omega
              case hn => (have z9 := nls_split r2; omega)
              case hl => simp only [List.length_append, List.length_take, List.length_drop]; omega
              case b1 => with_unfolding_all rfl
              case sr3 => (intro z h1 h2; simp only [List.map_cons, List.map_nil, List.mem_cons, List.not_mem_nil, or_false, not_or] at h1 h2; simp [ovr_ne, h1, h2])
              case rel => rw [← hz, hb2]; exact (inQ_esc _ _).symm
            · -- a sign
              rename (_ == Str.ofString "\\") = false => hb2
              rename ((⟨#[c2]⟩ : Str) == Str.ofString "\"") = false => hq2
              rw [quo_iff] at hq2
              have hq2 : c2 ≠ 34 := by simpa using hq2
              rw [bsl_iff] at hb2
              have hb2 : c2 ≠ 92 := by simpa using hb2
              dsimp only [OwitFlow]
              rename Fr gg LL _ _ => F9
              rename News gg LL _ _ => N9
              have e9 : (⟨tok2.toArray⟩ ++ ⟨[c2].toArray⟩ : Str) = ⟨(tok2 ++ [c2]).toArray⟩ := str_app _ _
              refine' ⟨(false, r2, tok2 ++ [c2]), ?ms4, LS.live F9 N9 ?hn4 hus2 ?hl4 (Eq.trans ?b4 (congrArg (fun z => some (Value.str z _)) e9)) (by with_unfolding_all rfl) (by with_unfolding_all rfl) ?sr4, (fun _ => ?rel4), fun h => by cases h⟩
              case ms4 => simp only [hy1, hy2, List.length_cons]; omega
              case hn4 => exact hn2
              case hl4 => simp only [List.length_append, List.length_cons, List.length_nil]; omega
              case b4 => with_unfolding_all rfl
              case sr4 => (intro z h1 h2; simp only [List.map_cons, List.map_nil, List.mem_cons, List.not_mem_nil, or_false, not_or] at h1 h2; simp [ovr_ne, h1, h2])
              case rel4 => rw [← hz]; exact (inQ_sign _ _ _ hq2 hb2).symm
      · -- an escape
        rename (_ == Str.ofString "\"") = false => hq
        rename (_ == Str.ofString "\\") = true => hb
        rename List.isEmpty _ = true => hw
        rename StrsAre _ (sgn (List.drop _ _)).reverse => hus'
        rw [ws_iff] at hw
        rw [quo_iff] at hq
        rw [bsl_iff] at hb
        have hw : lexWs c = false := by simpa using hw
        have hq : c ≠ 34 := by simpa using hq
        have hb : c = 92 := by simpa using hb
        have hrel : inW (r.take 1) (r.drop 1) = lexTok cs := by
          rw [← hlt]
          cases r with
          | nil => subst hb; simp [lexTok, show lexWs 92 = false by decide, inW]
          | cons d r' => subst hb; simp [lexTok, show lexWs 92 = false by decide]
        refine for_own ?_
        repeat' (first | ((fail_if_success (with_reducible show wpAny _ _ (pyIter _) _ _ _)); (first | k_extra "M9" | walk1)))
        rename Fr _ _ _ _ => F2
        rename News _ _ _ _ => N2
        refine pyIter_ci (N2 (ci, ciO qq t0) (.tail _ (.tail _ (.head _)))).1 rfl ?_
        refine own_inv (fun x s' => LS w TT lx dlx lf st pb ci qq t0 t3 k1 k2 k3 k4 (n + nls cs) gg LL m0 s x s' ∧ (x.1 = false → inW x.2.2 x.2.1 = lexTok cs) ∧ (x.1 = true → lexTok cs = (x.2.2, []))) (fun x => 2 * x.2.1.length + (if x.1 = true then 0 else 1)) ?turn (false, r.drop 1, r.take 1) ⟨?h0, fun _ => hrel, fun h => by cases h⟩
        case h0 =>
          refine' LS.live F2 N2 ?hn hus' ?hl ?sm (by with_unfolding_all rfl) (by with_unfolding_all rfl) ?sr
          case hn => (have z9 := nls_split r; omega)
          case hl => simp at hl ⊢; omega
          case sm => 
            have e9 : (⟨(([] : List Nat)).toArray⟩ ++ ⟨(r.take 1 : List Nat).toArray⟩ : Str) = ⟨(r.take 1 : List Nat).toArray⟩ := str_app [] _
            refine' Eq.trans ?b1 (congrArg (fun z => some (Value.str z _)) e9)
            case b1 => with_unfolding_all rfl
          case sr => (intro z h1 h2; simp only [List.map_cons, List.map_nil, List.mem_cons, List.not_mem_nil, or_false, not_or] at h1 h2; simp [ovr_ne, h1, h2])
        case turn =>
          clear F2 N2
          rintro ⟨e2, cs2, tok2⟩ s2 ⟨hJ2, hR1, hR2⟩
          refine ls_next _ hJ2 R' hoff hne hcX lc1 hcT rfl BB XX TP C rfl rfl (Nat.le_of_ble_eq_true rfl) (Nat.le_of_ble_eq_true rfl) ?item ?done
          case done =>
            intro hx h tk t' k' tt u F1 N1
            dsimp only at hx hR1 hR2 F1 N1
            have hfin : lexTok cs = (tok2, []) := by
              cases e2 with
              | true => exact hR2 rfl
              | false => have z := hR1 rfl; rw [← z, hx]; rfl
            have hlen : tok2.length ≤ 10000 := by
              obtain ⟨_, _, _, _, _, _, _, _, _, _, _, _, _, z, _⟩ := hJ2
              dsimp only at z
              omega
            dsimp only [OwitTurn]
            repeat' (first | (k_unfold; (try dsimp only)) | (k_end; wrow_close) | ((fail_if_success (with_reducible show OwitFlow _ _ _ _)); (fail_if_success (with_reducible show wpAny _ _ (exec (Stmt.While _ _ _ _) _) _ _ _)); (fail_if_success (with_reducible show wpAny _ _ (exec (Stmt.For _ _ _ _ _) _) _ _ _)); (first | k_extra "M9" | walk1)) | (dsimp only; (fail_if_success (with_reducible show OwitFlow _ _ _ _)); (first | k_extra "M9" | walk1)) | (leave1; walk_say "STEP leave1"; try dsimp only) | fail "no step")
            rename Fr gg LL _ _ => F9
            rename News gg LL _ _ => N9
            dsimp only [OwitFlow]
            refine ⟨(true, [], tok2), by simp [hx1], LS.dead F9 N9 hlen (by with_unfolding_all rfl) (by with_unfolding_all rfl) (by with_unfolding_all rfl) ?sr2, (fun h => by cases h), fun _ => hfin⟩
            case sr2 => (intro z h1 h2; simp only [List.map_cons, List.map_nil, List.mem_cons, List.not_mem_nil, or_false, not_or] at h1 h2; simp [ovr_ne, h1, h2])
          case item =>
            intro c2 r2 hy1 hy2 hl2 tc2 h tk n2 t2 us2 kc2 tt u F1 N1 hn2 hus2
            dsimp only at hy1 hy2 hl2 F1 N1
            have hz := hR1 hy1
            dsimp only at hz
            rw [hy2] at hz
            dsimp only [OwitTurn]
            repeat' (first | (k_unfold; (try dsimp only)) | (k_end; wrow_close) | ((fail_if_success (with_reducible show OwitFlow _ _ _ _)); (fail_if_success (with_reducible show wpAny _ _ (exec (Stmt.While _ _ _ _) _) _ _ _)); (fail_if_success (with_reducible show wpAny _ _ (exec (Stmt.For _ _ _ _ _) _) _ _ _)); (first | k_extra "M9" | walk1)) | (dsimp only; (fail_if_success (with_reducible show OwitFlow _ _ _ _)); (first | k_extra "M9" | walk1)) | (leave1; walk_say "STEP leave1"; try dsimp only) | fail "no step")
            rotate_right
            · -- the end of the word
              rename List.isEmpty _ = false => hq2
              rw [ws_iff] at hq2
              have hq2 : lexWs c2 = true := by simpa using hq2
              have hlx : lexTok cs = (tok2, r2) := hz.symm.trans (inW_end _ _ _ hq2)
              dsimp only [OwitFlow]
              repeat' (first | (k_unfold; (try dsimp only)) | (k_end; wrow_close) | (first | k_extra "M9" | walk1) | (dsimp only; (first | k_extra "M9" | walk1)) | (leave1; walk_say "STEP leave1"; try dsimp only) | fail "no step")
              rename Fr h₀ L _ m => F9
              rename News h₀ L _ _ => N9
              have en : n2 = n + nls cs - nls (lexTok cs).2 := by rw [hlx]; dsimp only; omega
              rw [en] at N9
              refine hret _ ((dlx, lexD w (n + nls cs - nls (lexTok cs).2) t2 t3 k1 k2 k3 k4 (.ref st) (.ref pb)) :: (lf, listOf (List.toArray us2) kc2) :: TT) _ _ F9 (fun q hq => ?_) ⟨t2, _, us2, kc2, by rw [hlx], rfl, by rw [hlx]; exact hus2⟩
              rcases List.mem_cons.mp hq with rfl | hq
              · exact N9 _ (.head _)
              rcases List.mem_cons.mp hq with rfl | hq
              · exact N9 _ (.tail _ (.head _))
              · exact N9 _ (.tail _ (.tail _ (.tail _ (.tail _ hq))))
            · -- an escaped sign
              rename (_ == Str.ofString "\\") = true => hb2
              rename StrsAre _ (sgn (List.drop _ r2)).reverse => hus3
              rw [bsl_iff] at hb2
              have hb2 : c2 = 92 := by simpa using hb2
              dsimp only [OwitFlow]
              rename Fr gg LL _ _ => F9
              rename News gg LL _ _ => N9
              have e9 : (⟨tok2.toArray⟩ ++ ⟨(r2.take 1).toArray⟩ : Str) = ⟨(tok2 ++ r2.take 1).toArray⟩ := str_app _ _
              refine' ⟨(false, r2.drop 1, tok2 ++ r2.take 1), ?ms, LS.live F9 N9 ?hn hus3 ?hl (Eq.trans ?b1 (congrArg (fun z => some (Value.str z _)) e9)) (by with_unfolding_all rfl) (by with_unfolding_all rfl) ?sr3, (fun _ => ?rel), fun h => by cases h⟩
              case ms => simp only [hy1, hy2, List.length_drop, List.length_cons]; omega
              case hn => (have z9 := nls_split r2; omega)
              case hl => simp only [List.length_append, List.length_take, List.length_drop]; omega
              case b1 => with_unfolding_all rfl
              case sr3 => (intro z h1 h2; simp only [List.map_cons, List.map_nil, List.mem_cons, List.not_mem_nil, or_false, not_or] at h1 h2; simp [ovr_ne, h1, h2])
              case rel => rw [← hz, hb2]; exact (inW_esc _ _).symm
            · -- a sign
              rename (_ == Str.ofString "\\") = false => hb2
              rename List.isEmpty (Builtin.Str.occurrences _ ⟨#[c2]⟩ _ _ _) = true => hq2
              rw [ws_iff] at hq2
              have hq2 : lexWs c2 = false := by simpa using hq2
              rw [bsl_iff] at hb2
              have hb2 : c2 ≠ 92 := by simpa using hb2
              dsimp only [OwitFlow]
              rename Fr gg LL _ _ => F9
              rename News gg LL _ _ => N9
              have e9 : (⟨tok2.toArray⟩ ++ ⟨[c2].toArray⟩ : Str) = ⟨(tok2 ++ [c2]).toArray⟩ := str_app _ _
              refine' ⟨(false, r2, tok2 ++ [c2]), ?ms4, LS.live F9 N9 ?hn4 hus2 ?hl4 (Eq.trans ?b4 (congrArg (fun z => some (Value.str z _)) e9)) (by with_unfolding_all rfl) (by with_unfolding_all rfl) ?sr4, (fun _ => ?rel4), fun h => by cases h⟩
              case ms4 => simp only [hy1, hy2, List.length_cons]; omega
              case hn4 => exact hn2
              case hl4 => simp only [List.length_append, List.length_cons, List.length_nil]; omega
              case b4 => with_unfolding_all rfl
              case sr4 => (intro z h1 h2; simp only [List.map_cons, List.map_nil, List.mem_cons, List.not_mem_nil, or_false, not_or] at h1 h2; simp [ovr_ne, h1, h2])
              case rel4 => rw [← hz]; exact (inW_sign _ _ _ hq2 hb2).symm
      · -- a sign
        rename (_ == Str.ofString "\"") = false => hq
        rename (_ == Str.ofString "\\") = false => hb
        rename List.isEmpty _ = true => hw
        rw [ws_iff] at hw
        rw [quo_iff] at hq
        rw [bsl_iff] at hb
        have hw : lexWs c = false := by simpa using hw
        have hq : c ≠ 34 := by simpa using hq
        have hb : c ≠ 92 := by simpa using hb
        have hrel : inW [c] r = lexTok cs := by rw [← hlt]; simp [lexTok, hw, hq, hb]
        refine for_own ?_
        repeat' (first | ((fail_if_success (with_reducible show wpAny _ _ (pyIter _) _ _ _)); (first | k_extra "M9" | walk1)))
        rename Fr _ _ _ _ => F2
        rename News _ _ _ _ => N2
        refine pyIter_ci (N2 (ci, ciO qq t0) (.tail _ (.tail _ (.head _)))).1 rfl ?_
        refine own_inv (fun x s' => LS w TT lx dlx lf st pb ci qq t0 t3 k1 k2 k3 k4 (n + nls cs) gg LL m0 s x s' ∧ (x.1 = false → inW x.2.2 x.2.1 = lexTok cs) ∧ (x.1 = true → lexTok cs = (x.2.2, []))) (fun x => 2 * x.2.1.length + (if x.1 = true then 0 else 1)) ?turn (false, r, [c]) ⟨?h0, fun _ => hrel, fun h => by cases h⟩
        case h0 =>
          refine' LS.live F2 N2 ?hn hus ?hl ?sm (by with_unfolding_all rfl) (by with_unfolding_all rfl) ?sr
          case hn => exact hn
          case hl => simp at hl ⊢; omega
          case sm => 
            have e9 : (⟨(([] : List Nat)).toArray⟩ ++ ⟨([c] : List Nat).toArray⟩ : Str) = ⟨([c] : List Nat).toArray⟩ := str_app [] _
            refine' Eq.trans ?b1 (congrArg (fun z => some (Value.str z _)) e9)
            case b1 => with_unfolding_all rfl
          case sr => (intro z h1 h2; simp only [List.map_cons, List.map_nil, List.mem_cons, List.not_mem_nil, or_false, not_or] at h1 h2; simp [ovr_ne, h1, h2])
        case turn =>
          clear F2 N2
          rintro ⟨e2, cs2, tok2⟩ s2 ⟨hJ2, hR1, hR2⟩
          refine ls_next _ hJ2 R' hoff hne hcX lc1 hcT rfl BB XX TP C rfl rfl (Nat.le_of_ble_eq_true rfl) (Nat.le_of_ble_eq_true rfl) ?item ?done
          case done =>
            intro hx h tk t' k' tt u F1 N1
            dsimp only at hx hR1 hR2 F1 N1
            have hfin : lexTok cs = (tok2, []) := by
              cases e2 with
              | true => exact hR2 rfl
              | false => have z := hR1 rfl; rw [← z, hx]; rfl
            have hlen : tok2.length ≤ 10000 := by
              obtain ⟨_, _, _, _, _, _, _, _, _, _, _, _, _, z, _⟩ := hJ2
              dsimp only at z
              omega
            dsimp only [OwitTurn]
            repeat' (first | (k_unfold; (try dsimp only)) | (k_end; wrow_close) | ((fail_if_success (with_reducible show OwitFlow _ _ _ _)); (fail_if_success (with_reducible show wpAny _ _ (exec (Stmt.While _ _ _ _) _) _ _ _)); (fail_if_success (with_reducible show wpAny _ _ (exec (Stmt.For _ _ _ _ _) _) _ _ _)); (first | k_extra "M9" | walk1)) | (dsimp only; (fail_if_success (with_reducible show OwitFlow _ _ _ _)); (first | k_extra "M9" | walk1)) | (leave1; walk_say "STEP leave1"; try dsimp only) | fail "no step")
            rename Fr gg LL _ _ => F9
            rename News gg LL _ _ => N9
            dsimp only [OwitFlow]
            refine ⟨(true, [], tok2), by simp [hx1], LS.dead F9 N9 hlen (by with_unfolding_all rfl) (by with_unfolding_all rfl) (by with_unfolding_all rfl) ?sr2, (fun h => by cases h), fun _ => hfin⟩
            case sr2 => (intro z h1 h2; simp only [List.map_cons, List.map_nil, List.mem_cons, List.not_mem_nil, or_false, not_or] at h1 h2; simp [ovr_ne, h1, h2])
          case item =>
            intro c2 r2 hy1 hy2 hl2 tc2 h tk n2 t2 us2 kc2 tt u F1 N1 hn2 hus2
            dsimp only at hy1 hy2 hl2 F1 N1
            have hz := hR1 hy1
            dsimp only at hz
            rw [hy2] at hz
            dsimp only [OwitTurn]
            repeat' (first | (k_unfold; (try dsimp only)) | (k_end; wrow_close) | ((fail_if_success (with_reducible show OwitFlow _ _ _ _)); (fail_if_success (with_reducible show wpAny _ _ (exec (Stmt.While _ _ _ _) _) _ _ _)); (fail_if_success (with_reducible show wpAny _ _ (exec (Stmt.For _ _ _ _ _) _) _ _ _)); (first | k_extra "M9" | walk1)) | (dsimp only; (fail_if_success (with_reducible show OwitFlow _ _ _ _)); (first | k_extra "M9" | walk1)) | (leave1; walk_say "STEP leave1"; try dsimp only) | fail "no step")
            rotate_right
            · -- the end of the word
              rename List.isEmpty _ = false => hq2
              rw [ws_iff] at hq2
              have hq2 : lexWs c2 = true := by simpa using hq2
              have hlx : lexTok cs = (tok2, r2) := hz.symm.trans (inW_end _ _ _ hq2)
              dsimp only [OwitFlow]
              repeat' (first | (k_unfold; (try dsimp only)) | (k_end; wrow_close) | (first | k_extra "M9" | walk1) | (dsimp only; (first | k_extra "M9" | walk1)) | (leave1; walk_say "STEP leave1"; try dsimp only) | fail "no step")
              rename Fr h₀ L _ m => F9
              rename News h₀ L _ _ => N9
              have en : n2 = n + nls cs - nls (lexTok cs).2 := by rw [hlx]; dsimp only; omega
              rw [en] at N9
              refine hret _ ((dlx, lexD w (n + nls cs - nls (lexTok cs).2) t2 t3 k1 k2 k3 k4 (.ref st) (.ref pb)) :: (lf, listOf (List.toArray us2) kc2) :: TT) _ _ F9 (fun q hq => ?_) ⟨t2, _, us2, kc2, by rw [hlx], rfl, by rw [hlx]; exact hus2⟩
              rcases List.mem_cons.mp hq with rfl | hq
              · exact N9 _ (.head _)
              rcases List.mem_cons.mp hq with rfl | hq
              · exact N9 _ (.tail _ (.head _))
              · exact N9 _ (.tail _ (.tail _ (.tail _ (.tail _ hq))))
            · -- an escaped sign
              rename (_ == Str.ofString "\\") = true => hb2
              rename StrsAre _ (sgn (List.drop _ r2)).reverse => hus3
              rw [bsl_iff] at hb2
              have hb2 : c2 = 92 := by simpa using hb2
              dsimp only [OwitFlow]
              rename Fr gg LL _ _ => F9
              rename News gg LL _ _ => N9
              have e9 : (⟨tok2.toArray⟩ ++ ⟨(r2.take 1).toArray⟩ : Str) = ⟨(tok2 ++ r2.take 1).toArray⟩ := str_app _ _
              refine' ⟨(false, r2.drop 1, tok2 ++ r2.take 1), ?ms, LS.live F9 N9 ?hn hus3 ?hl (Eq.trans ?b1 (congrArg (fun z => some (Value.str z _)) e9)) (by with_unfolding_all rfl) (by with_unfolding_all rfl) ?sr3, (fun _ => ?rel), fun h => by cases h⟩
              case ms => simp only [hy1, hy2, List.length_drop, List.length_cons]; omega
              case hn => (have z9 := nls_split r2; omega)
              case hl => simp only [List.length_append, List.length_take, List.length_drop]; omega
              case b1 => with_unfolding_all rfl
              case sr3 => (intro z h1 h2; simp only [List.map_cons, List.map_nil, List.mem_cons, List.not_mem_nil, or_false, not_or] at h1 h2; simp [ovr_ne, h1, h2])
              case rel => rw [← hz, hb2]; exact (inW_esc _ _).symm
            · -- a sign
              rename (_ == Str.ofString "\\") = false => hb2
              rename List.isEmpty (Builtin.Str.occurrences _ ⟨#[c2]⟩ _ _ _) = true => hq2
              rw [ws_iff] at hq2
              have hq2 : lexWs c2 = false := by simpa using hq2
              rw [bsl_iff] at hb2
              have hb2 : c2 ≠ 92 := by simpa using hb2
              dsimp only [OwitFlow]
              rename Fr gg LL _ _ => F9
              rename News gg LL _ _ => N9
              have e9 : (⟨tok2.toArray⟩ ++ ⟨[c2].toArray⟩ : Str) = ⟨(tok2 ++ [c2]).toArray⟩ := str_app _ _
              refine' ⟨(false, r2, tok2 ++ [c2]), ?ms4, LS.live F9 N9 ?hn4 hus2 ?hl4 (Eq.trans ?b4 (congrArg (fun z => some (Value.str z _)) e9)) (by with_unfolding_all rfl) (by with_unfolding_all rfl) ?sr4, (fun _ => ?rel4), fun h => by cases h⟩
              case ms4 => simp only [hy1, hy2, List.length_cons]; omega
              case hn4 => exact hn2
              case hl4 => simp only [List.length_append, List.length_cons, List.length_nil]; omega
              case b4 => with_unfolding_all rfl
              case sr4 => (intro z h1 h2; simp only [List.map_cons, List.map_nil, List.mem_cons, List.not_mem_nil, or_false, not_or] at h1 h2; simp [ovr_ne, h1, h2])
              case rel4 => rw [← hz]; exact (inW_sign _ _ _ hq2 hb2).symm
end Mine
namespace Mine
local macro_rules | `(tactic| k_updF) => `(tactic| assumption)
section
variable {prog : Program} {w : World} {A : Around} {E : Value → Shared → Prop} {s : Shared} {h₀ : Heap} {L : Addr} {m : Str → Option Value} {news : Led} {Q : Value → Shared → Prop}
theorem list_strK {x : Str} {t : Tok} (hh : A.handled = none) (F : Fr h₀ L s.heap m) (N : News h₀ L s.heap news) (hsz : x.length ≤ sizeLine)
    (h : ∀ l (ys : List Value) c h' tk, Fr h₀ L h' m → News h₀ L h' ((l, listOf ys.toArray c) :: news) → (∀ p ∈ news, p.1 < l) → StrsAre ys (signs x) → Q (.ref l) { s with heap := h', toks := tk }) :
    wpAny (model prog w) A (call (.type "list") [.str x t]) Q E s := by
  refine list_strD (hsz := hsz) hh F N fun h' tk ys F' N' hk hf hl hp hc => ?_
  obtain ⟨⟨c, e⟩, hne⟩ := hp
  refine h _ ys c h' tk F' (fun p hp => ?_) (fun p hp => Heap.lt_size (N p hp).1) (StrsAre.of_carried hc)
  rcases List.mem_cons.mp hp with rfl | hp
  · exact ⟨e, Nat.ne_of_gt F.ns.lt, hf⟩
  · exact N' p hp
end
theorem signs_len {ys : List Value} {x : Str} (h : StrsAre ys (signs x)) : ys.length = x.length := by
  have := StrsAre.length h
  rw [this]; simp [signs, Str.length]
theorem signs_fit {ys : List Value} {x : Str} (h : StrsAre ys (signs x)) (hx : x.length ≤ 100000) : ys.toArray.toList.length ≤ sizeLine := by
  rw [sizeLine_eq]; have := signs_len h; show ys.length ≤ _; omega

abbrev tabC (c' : Addr) : Obj := tabObj #[rawInt 140, rawInt 18, .ref c']
/-- the table of nested code: as booted, or with the lambda's code object -/
def TabOk (o : Obj) (TT : Led) : Prop := o = tabObj #[] ∨ ∃ c' oc vs t, o = tabC c' ∧ (c', oc) ∈ TT ∧ oc.data = .fields vs ∧ vs[1]? = some (.str lamQ t)
inductive NewLex (w : World) (TT : Led) (oIn : Obj) (cs : List Nat) (v : Value) (nn : Led) : Prop
  | mk (o140 : Obj) (new : Led) (lx dlx lf pb st dst f c' cell : Addr) (t t3 k1 k2 k3 k4 : Tok) (vs : List Value) (k kp : Nat) (hv : v = .ref lx) (hn : nn = (140, o140) :: (dlx, lexD w 1 t t3 k1 k2 k3 k4 (.ref st) (.ref pb)) :: (lf, listOf (List.toArray vs) k) :: (pb, listOf #[] kp) :: (new ++ TT))
    (hR : LexR w (new ++ TT) lx dlx lf pb st dst f c' cell) (ht : TabOk o140 (new ++ TT)) (hs : StrsAre vs (sgn cs).reverse) (hd : dlx ≠ lf ∧ dlx ≠ pb ∧ lf ≠ pb) (hd' : 140 ≠ dlx ∧ 140 ≠ lf ∧ 140 ≠ pb) (ho : OwnOff (new ++ TT) [140, dlx, lf, pb])
    (hl : ∀ p ∈ TT, p.1 < dlx ∧ p.1 < lf ∧ p.1 < pb ∧ ∀ q ∈ new, p.1 < q.1) (hX : ∀ X : Led, TabOk oIn X → TabOk o140 (new ++ X)) : NewLex w TT oIn cs v nn
theorem tabOk_mem {o : Obj} {T T' : Led} (h : TabOk o T) (hs : ∀ p ∈ T, p ∈ T') : TabOk o T' := by
  rcases h with h | ⟨c', oc, vs, t, h1, h2, h3⟩
  · exact .inl h
  · exact .inr ⟨c', oc, vs, t, h1, hs _ h2, h3⟩
theorem lexer_end {w : World} {TT : Led} {cs : List Nat} {oIn o140 : Obj} {cO : Led} {lx dlx lf pb st dst f c' cell pbS : Addr} {oc oo : Obj} {ocv : Array Value} {tq t t3 k1 k2 k3 k4 u u3 j1 j2 j3 j4 j5 : Tok} {vs : List Value} {k kp kq : Nat} {doc ct : Value}
   (h1 : cell < lf) (h2 : lf < dst) (h3 : dst < st) (h4 : st < pbS) (h5 : ∀ p ∈ cO, pbS < p.1 ∧ p.1 < f) (h6 : pbS < f) (h7 : f < dlx) (h8 : dlx < lx) (h9 : lx < pb) (hT : ∀ p ∈ TT, p.1 < cell) (q140 : 140 < cell) (hO : OwnOff TT [140])
   (hc : (c', oc) ∈ cO ++ TT) (hcd : oc.data = .fields ocv) (hcq : ocv[1]? = some (.str lamQ tq)) (h140 : o140 = tabC c') (hoo : oo.data = .cell (some (.ref lf))) (hvs : StrsAre vs (sgn cs).reverse) (hX : ∀ X : Led, TabOk oIn X → TabOk o140 (cO ++ X)) :
   NewLex w TT oIn cs (.ref lx) ((140, o140) :: (dlx, lexD w 1 t t3 k1 k2 k3 k4 (.ref st) (.ref pb)) :: (lf, listOf vs.toArray k) :: (pb, listOf #[] kp) ::
     (((lx, instObj 115 dlx) :: (f, lamO lamQ doc cell c' ct) :: (pbS, listOf #[] kq) :: (st, instObj 115 dst) :: (dst, strD w u u3 j1 j2 j3 j4 j5 (.ref pbS) (.ref f)) :: (cell, oo) :: cO) ++ TT)) := by
  have g1 : lf < st := Nat.lt_trans h2 h3
  have g2 : lf < pbS := Nat.lt_trans g1 h4
  have g3 : st < f := Nat.lt_trans h4 h6
  have g4 : dlx < pb := Nat.lt_trans h8 h9
  have g5 : lf < f := Nat.lt_trans g2 h6
  have g6 : lf < dlx := Nat.lt_trans g5 h7
  have g7 : cell < dlx := Nat.lt_trans h1 g6
  have g8 : lf < pb := Nat.lt_trans g6 g4
  have g9 : 140 < lf := Nat.lt_trans q140 h1
  have up : ∀ a : Nat, lf < a → a < dlx → (a ≠ 140 ∧ a ≠ dlx ∧ a ≠ lf ∧ a ≠ pb) ∧ cell ≤ a := fun a x y => ⟨⟨Nat.ne_of_gt (Nat.lt_trans g9 x), Nat.ne_of_lt y, Nat.ne_of_gt x, Nat.ne_of_lt (Nat.lt_trans y g4)⟩, Nat.le_of_lt (Nat.lt_trans h1 x)⟩
  have all : ∀ p ∈ (lx, instObj 115 dlx) :: (f, lamO lamQ doc cell c' ct) :: (pbS, listOf #[] kq) :: (st, instObj 115 dst) :: (dst, strD w u u3 j1 j2 j3 j4 j5 (.ref pbS) (.ref f)) :: (cell, oo) :: cO, (p.1 ≠ 140 ∧ p.1 ≠ dlx ∧ p.1 ≠ lf ∧ p.1 ≠ pb) ∧ cell ≤ p.1 := by
    refine List.forall_mem_cons.mpr ⟨⟨⟨Nat.ne_of_gt (Nat.lt_trans g9 (Nat.lt_trans g6 h8)), Nat.ne_of_gt h8, Nat.ne_of_gt (Nat.lt_trans g6 h8), Nat.ne_of_lt h9⟩, Nat.le_of_lt (Nat.lt_trans g7 h8)⟩, ?_⟩
    refine List.forall_mem_cons.mpr ⟨up _ g5 h7, List.forall_mem_cons.mpr ⟨up _ g2 (Nat.lt_trans h6 h7), List.forall_mem_cons.mpr ⟨up _ g1 (Nat.lt_trans g3 h7), List.forall_mem_cons.mpr ⟨up _ h2 (Nat.lt_trans (Nat.lt_trans h3 g3) h7), List.forall_mem_cons.mpr ⟨?_, fun p hp => up _ (Nat.lt_trans g2 (h5 p hp).1) (Nat.lt_trans (h5 p hp).2 h7)⟩⟩⟩⟩⟩
    exact ⟨⟨Nat.ne_of_gt q140, Nat.ne_of_lt g7, Nat.ne_of_lt h1, Nat.ne_of_lt (Nat.lt_trans h1 g8)⟩, Nat.le_refl _⟩
  have low : ∀ a : Nat, a < cell → a < dlx ∧ a < lf ∧ a < pb := fun a x => ⟨Nat.lt_trans x g7, Nat.lt_trans x h1, Nat.lt_trans x (Nat.lt_trans h1 g8)⟩
  have hcm : (c', oc) ∈ ((lx, instObj 115 dlx) :: (f, lamO lamQ doc cell c' ct) :: (pbS, listOf #[] kq) :: (st, instObj 115 dst) :: (dst, strD w u u3 j1 j2 j3 j4 j5 (.ref pbS) (.ref f)) :: (cell, oo) :: cO) ++ TT :=
    (List.mem_append.mp hc).elim (fun hc => List.mem_append_left _ (.tail _ (.tail _ (.tail _ (.tail _ (.tail _ (.tail _ hc))))))) (List.mem_append_right _)
  refine ⟨o140, _, lx, dlx, lf, pb, st, dst, f, c', cell, t, t3, k1, k2, k3, k4, vs, k, kp, rfl, rfl, ⟨.head _, .tail _ (.tail _ (.tail _ (.head _))), ⟨u, u3, j1, j2, j3, j4, j5, .ref pbS, .tail _ (.tail _ (.tail _ (.tail _ (.head _))))⟩, ⟨doc, ct, .tail _ (.head _)⟩, ⟨oc, ocv, tq, hcm, hcd, hcq⟩, ⟨oo, .tail _ (.tail _ (.tail _ (.tail _ (.tail _ (.head _))))), hoo⟩⟩, .inr ⟨c', oc, ocv, tq, h140, hcm, hcd, hcq⟩, hvs, ⟨Nat.ne_of_gt g6, Nat.ne_of_lt g4, Nat.ne_of_lt g8⟩, ⟨Nat.ne_of_lt (Nat.lt_trans q140 g7), Nat.ne_of_lt g9, Nat.ne_of_lt (Nat.lt_trans g9 g8)⟩, ?_, ?_, fun X hx => tabOk_mem (hX X hx) fun p hp => ?_⟩
  · intro p hp
    have z : p.1 ≠ 140 ∧ p.1 ≠ dlx ∧ p.1 ≠ lf ∧ p.1 ≠ pb := (List.mem_append.mp hp).elim (fun hp => (all p hp).1) fun hp =>
      have z := low p.1 (hT p hp)
      ⟨hO p hp 140 (.head _), Nat.ne_of_lt z.1, Nat.ne_of_lt z.2.1, Nat.ne_of_lt z.2.2⟩
    exact List.forall_mem_cons.mpr ⟨z.1, List.forall_mem_cons.mpr ⟨z.2.1, List.forall_mem_cons.mpr ⟨z.2.2.1, List.forall_mem_cons.mpr ⟨z.2.2.2, List.forall_mem_nil _⟩⟩⟩⟩
  · intro p hp
    have z := low p.1 (hT p hp)
    exact ⟨z.1, z.2.1, z.2.2, fun q hq => Nat.lt_of_lt_of_le (hT p hp) (all q hq).2⟩
  · exact (List.mem_append.mp hp).elim (fun hp => List.mem_append_left _ (.tail _ (.tail _ (.tail _ (.tail _ (.tail _ (.tail _ hp))))))) (List.mem_append_right _)
theorem strs_append {vs ws : List Value} {xs ys : List Str} (h : StrsAre vs xs) (h' : StrsAre ws ys) : StrsAre (vs ++ ws) (xs ++ ys) := by
  induction h with
  | nil => exact h'
  | cons y t _ ih => exact .cons _ _ ih
theorem lx_fin {w : World} {TT : Led} {cs : List Nat} {h₀ h : Heap} {L : Addr} {m : Str → Option Value} {s : Shared} {tk : Nat} {Q : Value → Shared → Prop} {oIn o140 : Obj} {cO all : Led} {lx dlx lf pb st dst f c' cell pbS : Addr} {oc oo : Obj} {ocv : Array Value} {tq t t3 k1 k2 k3 k4 u u3 j1 j2 j3 j4 j5 : Tok} {ys : List Value} {k kp kq : Nat} {doc ct : Value} {ra : Array Value}
   (hret : ∀ v news' h' tk', Fr h₀ L h' m → News h₀ L h' news' → NewLex w TT oIn cs v news' → Q v { s with heap := h', toks := tk' }) (F : Fr h₀ L h m) (N : News h₀ L h all)
   (e : all = (pb, listOf #[] kp) :: (lx, instObj 115 dlx) :: (dlx, lexD w 1 t t3 k1 k2 k3 k4 (.ref st) (.ref pb)) :: (f, lamO lamQ doc cell c' ct) :: (cO ++ (pbS, listOf #[] kq) :: (st, instObj 115 dst) :: (dst, strD w u u3 j1 j2 j3 j4 j5 (.ref pbS) (.ref f)) :: (lf, listOf ra k) :: (cell, oo) :: (140, o140) :: TT))
   (h1 : cell < lf) (h2 : lf < dst) (h3 : dst < st) (h4 : st < pbS) (h5 : ∀ p ∈ cO, pbS < p.1 ∧ p.1 < f) (h6 : pbS < f) (h7 : f < dlx) (h8 : dlx < lx) (h9 : lx < pb) (hT : ∀ p ∈ TT, p.1 < cell) (q140 : 140 < cell) (hO : OwnOff TT [140])
   (hc : (c', oc) ∈ cO ++ TT) (hcd : oc.data = .fields ocv) (hcq : ocv[1]? = some (.str lamQ tq)) (h140 : o140 = tabC c') (hoo : oo.data = .cell (some (.ref lf))) (hra : ra = (ys.reverse).toArray) (hvs : StrsAre ys (signs ⟨cs.toArray⟩)) (hX : ∀ X : Led, TabOk oIn X → TabOk o140 (cO ++ X)) :
   Q (.ref lx) { s with heap := h, toks := tk } := by
  subst e hra
  have rev : ∀ {vs : List Value} {ss : List Str}, StrsAre vs ss → StrsAre vs.reverse ss.reverse := by
    intro vs ss h
    induction h with
    | nil => exact .nil
    | cons y t _ ih => simp only [List.reverse_cons]; exact strs_append ih (.cons _ _ .nil)
  have hs : StrsAre ys.reverse (sgn cs).reverse := by
    have z : signs ⟨cs.toArray⟩ = sgn cs := by simp [signs, sgn]
    rw [z] at hvs
    exact rev hvs
  refine hret _ _ h tk F ?_ (lexer_end h1 h2 h3 h4 h5 h6 h7 h8 h9 hT q140 hO hc hcd hcq h140 hoo hs hX (doc := doc) (ct := ct) (t := t) (t3 := t3) (k1 := k1) (k2 := k2) (k3 := k3) (k4 := k4) (u := u) (u3 := u3) (j1 := j1) (j2 := j2) (j3 := j3) (j4 := j4) (j5 := j5) (k := k) (kp := kp) (kq := kq))
  refine fun p hp => N p ((?_ : ∀ p ∈ _, p ∈ _) p hp)
  clear hret F N hc hcd hcq hvs hs hX
  (repeat' (first | exact List.forall_mem_nil _ | refine List.forall_mem_cons.mpr ⟨?_, ?_⟩ | refine List.forall_mem_append.mpr ⟨?_, ?_⟩)); all_goals ((try intro p9 hp9); (repeat (first | exact .head _ | assumption | exact List.mem_append_left _ (by assumption) | exact List.mem_append_left _ (List.mem_append_left _ (by assumption)) | exact List.mem_append_left _ (List.mem_append_right _ (by assumption)) | refine .tail _ ?_ | refine List.mem_append_right _ ?_)))
theorem lexer_spec1 (w : World) (TT : Led) (cs : List Nat) (t : Tok) (hO : OwnOff TT [140]) (hsz : cs.length ≤ 100000) :
   TellC w 2 145 [.str ⟨cs.toArray⟩ t] ((140, tabObj #[]) :: TT) (NewLex w TT (tabObj #[]) cs) := by
  have hO' : ∀ p ∈ TT, p.1 ≠ 140 := fun p hp => hO p hp 140 (by simp)
  have hsz' : (⟨cs.toArray⟩ : Str).length ≤ 100000 := by simpa [Str.length] using hsz
  w_top off; have hfill9 := (show top0.heap_39 = top0.heap_39 ∧ PySem.Challenge.rw_xe0021_01 = PySem.Challenge.rw_xe0021_01 by k_fill; exact ⟨rfl, rfl⟩); clear hfill9; k_with_none
  k_with "M9" => (k_here; (with_reducible show wpAny _ _ (call (Value.type "list") [Value.str _ _]) _ _ _); k_dflt (refine' list_strK ?k0q3910 ?k1q3910 ?k2q3910 ?k3q3910 ?_; (case k0q3910 => rfl); (case k1q3910 => k_asm); (case k2q3910 => k_asm); (case k3q3910 => rw [sizeLine_eq]; omega); k_whole); intro _ _ _ _ _ _ _ l1 _; (try k_lt l1); revert l1; intro _; (try k_sweep))
  k_with "M9" => (k_here; (with_reducible show wpAny _ _ (call (Value.builtin _) [Value.ref _]) _ _ _); k_dflt (refine' kl_reverse ?Fq5125 ?Nq5125 ?eq5125 ?Uq5125 ?zq5125 ?_; (case Fq5125 => k_asm); (case Nq5125 => k_asm); (case Uq5125 => k_upd); (case eq5125 => rfl); (case zq5125 => exact signs_fit (by assumption) (by assumption)); k_whole); intro _ _ _; (try k_sweep))
  intro nm ig ic mr gd cn a ccd cl outer A₀ base h₀ L m s Q E p loose mean mg mb C B F X N T hret
  k_enter
  rename _ ∧ AllLt _ TT => l0
  obtain ⟨q140, l0⟩ := l0
  have q140 := ltN q140
  replace l0 := allLt_at l0
  repeat' (first | (k_unfold; (try dsimp only)) | (k_end; wrow_close) | (first | k_extra "M9" | walk1) | (dsimp only; (first | k_extra "M9" | walk1)) | (leave1; walk_say "STEP leave1"; try dsimp only) | fail "no step")
  rename Fr h₀ L _ m => F9
  rename News h₀ L _ _ => N9
  (repeat (rename _ ∧ _ => hq9; obtain ⟨_, _⟩ := hq9))
  refine' lx_fin (cO := [(_, _)]) hret F9 N9 rfl ?h1 ?h2 ?h3 ?h4 ?h5 ?h6 ?h7 ?h8 ?h9 ?hT ?q ?hO (.head _) ?hcd ?hcq rfl ?hoo ?hra ?hvs ?hX
  case hX => exact fun X _ => .inr ⟨_, _, _, _, rfl, .head _, by assumption, by assumption⟩
  case h1 => assumption
  case h2 => assumption
  case h3 => assumption
  case h4 => assumption
  case h5 => intro p hp; rw [List.mem_singleton.mp hp]; exact ⟨by assumption, by assumption⟩
  case h6 => exact Nat.lt_trans (by assumption) (by assumption)
  case h7 => assumption
  case h8 => assumption
  case h9 => assumption
  case hT => exact fun p hp => Nat.lt_succ_of_lt (l0 p hp)
  case q => exact Nat.lt_succ_of_lt q140
  case hO => exact hO
  case hcd => assumption
  case hcq => assumption
  case hoo => assumption
  case hvs => assumption
  case hra => rfl
theorem lexer_spec2 (w : World) (TT : Led) (cs : List Nat) (t : Tok) (c' : Addr) (oc : Obj) (ocv : Array Value) (tq : Tok) (hcm : (c', oc) ∈ TT) (hcd : oc.data = .fields ocv) (hcq : ocv[1]? = some (.str lamQ tq)) (hO : OwnOff TT [140]) (hsz : cs.length ≤ 100000) :
   TellC w 2 145 [.str ⟨cs.toArray⟩ t] ((140, tabC c') :: TT) (NewLex w TT (tabC c') cs) := by
  have hO' : ∀ p ∈ TT, p.1 ≠ 140 := fun p hp => hO p hp 140 (by simp)
  have hsz' : (⟨cs.toArray⟩ : Str).length ≤ 100000 := by simpa [Str.length] using hsz
  w_top off; have hfill9 := (show top0.heap_39 = top0.heap_39 ∧ PySem.Challenge.rw_xe0021_01 = PySem.Challenge.rw_xe0021_01 by k_fill; exact ⟨rfl, rfl⟩); clear hfill9; k_with_none
  k_with "M9" => (k_here; (with_reducible show wpAny _ _ (call (Value.type "list") [Value.str _ _]) _ _ _); k_dflt (refine' list_strK ?k0q3910 ?k1q3910 ?k2q3910 ?k3q3910 ?_; (case k0q3910 => rfl); (case k1q3910 => k_asm); (case k2q3910 => k_asm); (case k3q3910 => rw [sizeLine_eq]; omega); k_whole); intro _ _ _ _ _ _ _ l1 _; (try k_lt l1); revert l1; intro _; (try k_sweep))
  k_with "M9" => (k_here; (with_reducible show wpAny _ _ (call (Value.builtin _) [Value.ref _]) _ _ _); k_dflt (refine' kl_reverse ?Fq5125 ?Nq5125 ?eq5125 ?Uq5125 ?zq5125 ?_; (case Fq5125 => k_asm); (case Nq5125 => k_asm); (case Uq5125 => k_upd); (case eq5125 => rfl); (case zq5125 => exact signs_fit (by assumption) (by assumption)); k_whole); intro _ _ _; (try k_sweep))
  intro nm ig ic mr gd cn a ccd cl outer A₀ base h₀ L m s Q E p loose mean mg mb C B F X N T hret
  k_enter
  rename _ ∧ AllLt _ TT => l0
  obtain ⟨q140, l0⟩ := l0
  have q140 := ltN q140
  replace l0 := allLt_at l0
  repeat' (first | (k_unfold; (try dsimp only)) | (k_end; wrow_close) | (first | k_extra "M9" | walk1) | (dsimp only; (first | k_extra "M9" | walk1)) | (leave1; walk_say "STEP leave1"; try dsimp only) | fail "no step")
  rename Fr h₀ L _ m => F9
  rename News h₀ L _ _ => N9
  (repeat (rename _ ∧ _ => hq9; obtain ⟨_, _⟩ := hq9))
  refine' lx_fin (cO := []) hret F9 N9 rfl ?h1 ?h2 ?h3 ?h4 ?h5 ?h6 ?h7 ?h8 ?h9 ?hT ?q ?hO hcm ?hcd ?hcq rfl ?hoo ?hra ?hvs (fun X h => h)
  case h1 => assumption
  case h2 => assumption
  case h3 => assumption
  case h4 => assumption
  case h5 => intro p hp; cases hp
  case h6 => assumption
  case h7 => assumption
  case h8 => assumption
  case h9 => assumption
  case hT => exact fun p hp => Nat.lt_succ_of_lt (l0 p hp)
  case q => exact Nat.lt_succ_of_lt q140
  case hO => exact hO
  case hcd => assumption
  case hcq => assumption
  case hoo => assumption
  case hvs => assumption
  case hra => rfl

theorem lexer_any (w : World) (TT : Led) (cs : List Nat) (t : Tok) (o140 : Obj) (ho : TabOk o140 TT) (hO : OwnOff TT [140]) (hsz : cs.length ≤ 100000) :
   TellC w 2 145 [.str ⟨cs.toArray⟩ t] ((140, o140) :: TT) (NewLex w TT o140 cs) := by
  rcases ho with rfl | ⟨c', oc, ocv, tq, rfl, h1, h2, h3⟩
  · exact lexer_spec1 w TT cs t hO hsz
  · exact lexer_spec2 w TT cs t c' oc ocv tq h1 h2 h3 hO hsz
end Mine
namespace Mine
section
variable {prog : Program} {w : World} {A : Around} {E : Value → Shared → Prop} {s : Shared} {env : Env} {h₀ : Heap} {target : Expr} {body : List Stmt} {Q : Flow → Shared → Prop}
/-- the items of a range -/
def rItems (n : Nat) : List Itm := (List.range n).map fun i => Itm.tok fun t => .int ((i : Nat) : Int) t
theorem rItems_length (n : Nat) : (rItems n).length = n := by simp [rItems]
theorem rItems_get {n i : Nat} (h : i < n) : (rItems n)[i]? = some (Itm.tok fun t => .int ((i : Nat) : Int) t) := by simp [rItems, h]
theorem letGo_range {E : Value → Shared → Prop} {target : Expr} {I : Addr} {x y z : Int} {v : Value} {Q' : Unit → Shared → Prop} {s' : Shared} (hit : IsRangeIter s'.heap I x y z) (h : Q' () s') :
    wpAny (model prog w) A (letOwnedTupleGo target (.ref I) v) Q' E s' := by
  unfold letOwnedTupleGo
  cases target <;> first
    | exact wpAny_pure h
    | (cases v <;> first
        | exact wpAny_pure h
        | (refine wpAny_bind (wpAny_load hit ?_)
           exact wpAny_pure h))
theorem range_turns {n : Nat} {t : Tok} {m₀ : Str → Option Value} {news : Led} (hh : A.handled = none) (F : Fr h₀ env.locals s.heap m₀) (N : News h₀ env.locals s.heap news) (hn : n ≤ 1000)
    (rest₀ : ∀ I : Addr, (∀ p ∈ news, p.1 < I) → ItemsRest prog w A E h₀ env target body Q s [(I, "range_iterator")] [] (rItems n) m₀ news) :
    wpAny (model prog w) A (call (.type "range") [.int (n : Int) t]) (fun xv s₁ => wpAny (model prog w) A (pyIter xv) (fun it s₂ => TurnsAt prog w A h₀ env target body Q E it s₂) E s₁) E s := by
  refine range1_rows F N fun h tk a b c hr F' N' hk => ?_
  have hrs : Builtin.Range.rangeSize 0 (n : Int) 1 = ((n : Nat) : Int) := by rw [rangeSize_nat]; omega
  have hsm : Builtin.Range.small 0 (n : Int) 1 = true := small_one (by omega) (by omega) (by omega) (by omega)
  refine wpAny_pyIter_range hr hsm ?_
  rw [hrs]
  refine ktu_core (s := s) (ws := [(h.objs.size, "range_iterator")]) (tk0 := tk) (keep := []) (KTurns.ofWalks ((Walks.range hh h.objs.size 0 1 n).bound) (fun i v s Q E st q => letGo_range st q)) (rItems_length n).symm (fun i v h' hp => ?_) (fun i h' st => ?_) (fun b hb => ?_) (fun b hb => by simpa using hb) (fun b hb => ?_) ?_ (fun p hp hI => ?_) ?_ (F'.push _) (fun p hp => ⟨Heap.get?_push_of_some _ (N' p hp).1, (N' p hp).2⟩) trivial (rest₀ _ fun p hp => Heap.lt_size (N' p hp).1)
  · obtain ⟨hi, t', e⟩ := hp
    exact ⟨_, rItems_get hi, t', e.trans (by rw [Int.mul_one, Int.zero_add])⟩
  · exact ⟨[(h.objs.size, _)], ⟨⟨rfl, rfl⟩, trivial⟩, fun p hp => by rw [List.mem_singleton.mp hp]; exact st⟩
  · have hb' : b = h.objs.size := by simpa using hb
    rw [hb']
    exact ⟨List.mem_cons_self .., next_is_new F'⟩
  · exact .inl (by simpa using hb)
  · intro hI
    exact absurd F'.ns.lt ((List.mem_singleton.mp hI) ▸ Nat.lt_irrefl _)
  · exact absurd (Heap.lt_size (N' p hp).1) ((List.mem_singleton.mp hI) ▸ Nat.lt_irrefl _)
  · show Heap.get? _ _ = _
    rw [show (0 : Int) + ((0 : Nat) : Int) * 1 = 0 by omega, show (n : Int) - ((0 : Nat) : Int) = (n : Int) by omega]
    exact Heap.get?_push_size _ rfl
end
end Mine
namespace Mine
def escQ (cs : List Nat) : List Nat := cs.flatMap fun c => if c = 34 then [92, 34] else [c]
def escE (cs : List Nat) : List Nat := cs.flatMap fun c => [92, c]
theorem inQ_escQ (r : List Nat) : ∀ (cs tok : List Nat), (∀ c ∈ cs, c ≠ 92) → inQ tok (escQ cs ++ 34 :: r) = (tok ++ cs, r)
  | [], tok, _ => by simp only [escQ, List.flatMap_nil, List.nil_append, List.append_nil]; exact inQ_end tok r
  | c :: cs, tok, h => by
    have hc := h c (List.mem_cons_self ..)
    have ih := inQ_escQ r cs (tok ++ [c]) (fun d hd => h d (List.mem_cons_of_mem _ hd))
    by_cases e : c = 34
    · subst e
      have e1 : escQ (34 :: cs) ++ 34 :: r = 92 :: 34 :: (escQ cs ++ 34 :: r) := by simp [escQ]
      rw [e1, inQ_esc]
      show inQ (tok ++ [34]) (escQ cs ++ 34 :: r) = _
      rw [ih]; simp
    · have e1 : escQ (c :: cs) ++ 34 :: r = c :: (escQ cs ++ 34 :: r) := by simp [escQ, e]
      rw [e1, inQ_sign _ _ _ e hc, ih]; simp
theorem inW_escE (r : List Nat) : ∀ (cs tok : List Nat), inW tok (escE cs ++ 32 :: r) = (tok ++ cs, r)
  | [], tok => by simp only [escE, List.flatMap_nil, List.nil_append, List.append_nil]; exact inW_end tok r 32 rfl
  | c :: cs, tok => by
    have ih := inW_escE r cs (tok ++ [c])
    have e1 : escE (c :: cs) ++ 32 :: r = 92 :: c :: (escE cs ++ 32 :: r) := by simp [escE]
    rw [e1, inW_esc]
    show inW (tok ++ [c]) (escE cs ++ 32 :: r) = _
    rw [ih]; simp
theorem lexTok_nl (r : List Nat) : lexTok (10 :: r) = lexTok r := by rw [lexTok.eq_def]; rfl
theorem lexTok_q (r : List Nat) : lexTok (34 :: r) = inQ [] r := by rw [lexTok.eq_def]; rfl
theorem lexTok_e (c : Nat) (r : List Nat) : lexTok (92 :: c :: r) = inW [c] r := by rw [lexTok.eq_def]; rfl
theorem enc_lits : ∀ x ∈ allW, (encQ x).cps.toList = 34 :: (escQ x.cps.toList ++ [34, 10]) ∧ (encE x).cps.toList = escE x.cps.toList ++ [32] ∧ (∀ c ∈ x.cps.toList, c ≠ 92) ∧ x.cps.toList ≠ [] := by decide +kernel
/-- what is left of a file's line end ahead of the next word -/
def nlP (b : Bool) : List Nat := if b then [10] else []
theorem lexTok_word (b : Bool) (x : Str) (t : Int) (r : List Nat) (hx : x ∈ allW) : lexTok (nlP b ++ ((encW x t).cps.toList ++ r)) = (x.cps.toList, nlP (decide ((t / 120) % 2 = 0)) ++ r) := by
  obtain ⟨h1, h2, h3, h4⟩ := enc_lits x hx
  have key : lexTok ((encW x t).cps.toList ++ r) = (x.cps.toList, nlP (decide ((t / 120) % 2 = 0)) ++ r) := by
    unfold encW
    by_cases hc : (t / 120) % 2 = 0
    · rw [if_pos hc, h1, decide_eq_true hc]
      have e : 34 :: (escQ x.cps.toList ++ [34, 10]) ++ r = 34 :: (escQ x.cps.toList ++ 34 :: (10 :: r)) := by simp
      rw [e, lexTok_q, inQ_escQ _ _ _ h3]; rfl
    · rw [if_neg hc, h2, decide_eq_false hc]
      cases hcs : x.cps.toList with
      | nil => exact absurd hcs h4
      | cons c cs =>
        have e : escE (c :: cs) ++ [32] ++ r = 92 :: c :: (escE cs ++ 32 :: r) := by simp [escE]
        rw [e, lexTok_e, inW_escE]; rfl
  cases b with
  | false => exact key
  | true => exact (lexTok_nl _).trans key
theorem lexTok_end (b : Bool) : lexTok (nlP b) = ([], []) := by cases b <;> rfl
theorem fileOf_cps (x : Str) (t : Int) (xs : List Str) (ts : List Int) : (fileOf (x :: xs) (t :: ts)).cps.toList = (encW x t).cps.toList ++ (fileOf xs ts).cps.toList := by
  show (encW x t ++ fileOf xs ts).cps.toList = _
  rw [Str.cps_append, Array.toList_append]
theorem fileOf_drop {xs : List Str} {ts : List Int} {i : Nat} {x : Str} {t : Int} (hx : xs[i]? = some x) (ht : ts[i]? = some t) : (fileOf (xs.drop i) (ts.drop i)).cps.toList = (encW x t).cps.toList ++ (fileOf (xs.drop (i + 1)) (ts.drop (i + 1))).cps.toList := by
  obtain ⟨h1, rfl⟩ := List.getElem?_eq_some_iff.mp hx
  obtain ⟨h2, rfl⟩ := List.getElem?_eq_some_iff.mp ht
  rw [List.drop_eq_getElem_cons h1, List.drop_eq_getElem_cons h2]
  exact fileOf_cps ..
end Mine
namespace Mine
open PySem.Sre
theorem names_no : ∀ x ∈ names0, x.cps = #[55] ∨ (2 ≤ x.cps.size ∧ ∀ s, s < x.cps.size → NoAt x.cps s) := by unfold NoAt; decide +kernel
theorem sre_short : SreIs #[55] none := ⟨5, by decide, by with_unfolding_all rfl⟩
theorem name_hdn {x : Str} (h : x ∈ names0) : SreIs x.cps none := by
  rcases names_no x h with h | ⟨h1, h2⟩
  · rw [h]; exact sre_short
  · exact sre_none _ h1 h2
theorem dots_yes : ∀ f ∈ [0, 1, 2, 3, 4], 2 ≤ (dotW f).cps.size ∧ YesAt (dotW f).cps 0 := by unfold YesAt; decide +kernel
theorem dot_hdn {f : Nat} (h : f < 5) : SreIs (dotW f).cps (some (0, 2)) := by
  obtain ⟨h1, h2⟩ := dots_yes f (five h)
  exact sre_some _ 0 h1 (fun s hs => absurd hs (Nat.not_lt_zero _)) h2
/-- one entry taken out of a ledger -/
inductive Take (a : Addr) (o : Obj) : Led → Led → Prop
  | head {r : Led} : Take a o ((a, o) :: r) r
  | tail {p : Addr × Obj} {r r' : Led} : Take a o r r' → Take a o (p :: r) (p :: r')
theorem Take.mem {a : Addr} {o : Obj} {l r : Led} (h : Take a o l r) : ∀ p ∈ (a, o) :: r, p ∈ l := by
  induction h with
  | head => exact fun p hp => hp
  | tail _ ih =>
    intro p hp
    rcases List.mem_cons.mp hp with rfl | hp
    · exact .tail _ (ih _ (.head _))
    rcases List.mem_cons.mp hp with rfl | hp
    · exact .head _
    · exact .tail _ (ih _ (.tail _ hp))
theorem Take.news {h₀ h : Heap} {L : Addr} {a : Addr} {o : Obj} {l r : Led} (t : Take a o l r) (N : News h₀ L h l) : News h₀ L h ((a, o) :: r) := fun p hp => N p (t.mem p hp)
theorem Take.news2 {h₀ h : Heap} {L : Addr} {a b : Addr} {o q : Obj} {l r r' : Led} (t : Take a o l r) (t' : Take b q r r') (N : News h₀ L h l) : News h₀ L h ((a, o) :: (b, q) :: r') := by
  intro p hp
  rcases List.mem_cons.mp hp with rfl | hp
  · exact N _ (t.mem _ (.head _))
  · exact N _ (t.mem _ (.tail _ (t'.mem _ hp)))
theorem OwnOff.mono {T : Led} {as bs : List Addr} (h : OwnOff T as) (hs : ∀ b ∈ bs, b ∈ as) : OwnOff T bs := fun p hp b hb => h p hp b (hs b hb)
theorem ownOff_one {T : Led} {p : Addr × Obj} {a : Addr} (h1 : p.1 ≠ a) (h : OwnOff T [a]) : OwnOff (p :: T) [a] := ownOff_cons h fun b hb => by rw [List.mem_singleton.mp hb]; exact h1
theorem ownOff_two {T : Led} {p : Addr × Obj} {a b : Addr} (h1 : p.1 ≠ a) (h2 : p.1 ≠ b) (h : OwnOff T [a, b]) : OwnOff (p :: T) [a, b] := ownOff_cons h fun c hc => by
  rcases List.mem_cons.mp hc with rfl | hc
  · exact h1
  · rw [List.mem_singleton.mp hc]; exact h2
theorem LexR.mono {w : World} {T T' : Led} {lx dlx lf pb st dst f c' cell : Addr} (R : LexR w T lx dlx lf pb st dst f c' cell) (h : ∀ p ∈ T, p ∈ T') : LexR w T' lx dlx lf pb st dst f c' cell := R.sub h
theorem lexer_empty (w : World) (TT : Led) (t : Tok) (o140 : Obj) (ho : TabOk o140 TT) (hO : OwnOff TT [140]) :
   TellC w 2 145 [.str (Str.ofString "") t] ((140, o140) :: TT) (NewLex w TT o140 []) := by
  have e : Str.ofString "" = ⟨([] : List Nat).toArray⟩ := by decide +kernel
  rw [e]
  exact lexer_any w TT [] t o140 ho hO (Nat.zero_le _)
theorem tabOk_sub {o : Obj} {T T' : Led} (h : TabOk o T) (hs : ∀ p ∈ T, p ∈ T') : TabOk o T' := by
  rcases h with h | ⟨c', oc, vs, t, h1, h2, h3⟩
  · exact .inl h
  · exact .inr ⟨c', oc, vs, t, h1, hs _ h2, h3⟩
theorem tabOk_up {o : Obj} {T : Led} {a b c : Addr × Obj} (h : TabOk o T) : TabOk o (a :: b :: c :: T) := tabOk_sub h fun p hp => .tail _ (.tail _ (.tail _ hp))
theorem ownOff_lex {T : Led} {a b c x : Addr} {oa ob oc : Obj} (h : OwnOff T [x, a, b, c]) (hn : x ≠ a ∧ x ≠ b ∧ x ≠ c) : OwnOff ((a, oa) :: (b, ob) :: (c, oc) :: T) [x] :=
  ownOff_one (Ne.symm hn.1) (ownOff_one (Ne.symm hn.2.1) (ownOff_one (Ne.symm hn.2.2) (OwnOff.mono h (by simp))))
end Mine
namespace Mine
/-- the address: x and the goings' words -/
def addrStep (a : Str) : Option Nat → Str
  | none => a
  | some f => a ++ dotW f
def addrOf (st : List (Option Nat)) : Str := st.foldl addrStep (Str.ofString "x")
theorem addrOf_take (st : List (Option Nat)) (i : Nat) (o : Option Nat) (h : st[i]? = some o) : addrOf (st.take (i + 1)) = addrStep (addrOf (st.take i)) o := by
  unfold addrOf
  rw [List.take_add_one, h]
  simp
/-- the dict of comings -/
def DictOk (nms : List Str) (q : PS) (c : List (Str × Int)) : Prop :=
  c.length = q.came ∧ (∀ p ∈ c, p.1 ∈ nms.take q.came) ∧ ∀ x ∈ q.row, kdpHas c x.2 = true ∧ kdpLook c x.2 0 = x.1
theorem look_snoc_ne (c : List (Str × Int)) (k x : Str) (v : Int) (h : kdpHas c x = true) : kdpHas (c ++ [(k, v)]) x = true ∧ kdpLook (c ++ [(k, v)]) x 0 = kdpLook c x 0 := by
  have h' : (c.find? fun p => decide (p.1 = x)).isSome = true := by
    rw [List.find?_isSome]
    unfold kdpHas at h
    rw [List.any_eq_true] at h
    exact h
  constructor
  · unfold kdpHas at h ⊢
    rw [List.any_append, h]; rfl
  · unfold kdpLook
    rw [List.find?_append]
    cases hf : c.find? fun p => decide (p.1 = x) with
    | none => rw [hf] at h'; cases h'
    | some y => rfl
theorem not_has {nms : List Str} (hnd : nms.Nodup) {n : Nat} (hn : n < nms.length) {c : List (Str × Int)} (h : ∀ p ∈ c, p.1 ∈ nms.take n) : (c.any fun p => decide (p.1 = nms.getD n Str.empty)) = false := by
  rw [List.any_eq_false]
  intro p hp e
  have e' : p.1 = nms.getD n Str.empty := by simpa using e
  have hm := h p hp
  rw [e', List.getD_eq_getElem?_getD, List.getElem?_eq_getElem hn] at hm
  obtain ⟨j, hj, ej⟩ := List.getElem_of_mem hm
  have hj' : j < n := by have : j < min n nms.length := by simpa using hj
                         omega
  rw [List.getElem_take] at ej
  exact List.pairwise_iff_getElem.mp hnd j n (by omega) hn hj' (by simpa using ej)
theorem dictOk_come {nms : List Str} (hnd : nms.Nodup) {i : Nat} {q : PS} {c : List (Str × Int)} (h : DictOk nms q c) (hn : q.came < nms.length) : DictOk nms (pStep nms i q none) (kdpPut c (nms.getD q.came Str.empty) (i : Int)) := by
  obtain ⟨h1, h2, h3⟩ := h
  have hz := not_has hnd hn h2
  have e : kdpPut c (nms.getD q.came Str.empty) (i : Int) = c ++ [(nms.getD q.came Str.empty, (i : Int))] := by
    unfold kdpPut
    rw [hz]; rfl
  rw [e]
  refine ⟨by simp [pStep, h1], ?_, ?_⟩
  · intro p hp
    show p.1 ∈ nms.take (q.came + 1)
    rw [List.take_add_one, List.getElem?_eq_getElem hn]
    rcases List.mem_append.mp hp with hp | hp
    · exact List.mem_append_left _ (h2 p hp)
    · rw [List.mem_singleton.mp hp, List.getD_eq_getElem?_getD, List.getElem?_eq_getElem hn]
      exact List.mem_append_right _ (List.mem_singleton.mpr rfl)
  · intro x hx
    rcases List.mem_append.mp hx with hx | hx
    · obtain ⟨a, b⟩ := h3 x hx
      obtain ⟨a', b'⟩ := look_snoc_ne c (nms.getD q.came Str.empty) x.2 (i : Int) a
      exact ⟨a', b'.trans b⟩
    · rw [List.mem_singleton.mp hx]
      constructor
      · unfold kdpHas; rw [List.any_append]; simp
      · unfold kdpLook
        have hf : c.find? (fun p => decide (p.1 = nms.getD q.came Str.empty)) = none := by
          rw [List.find?_eq_none]
          rw [List.any_eq_false] at hz
          exact hz
        rw [List.find?_append, hf]
        simp
theorem dictOk_go {nms : List Str} {i f : Nat} {q : PS} {c : List (Str × Int)} (h : DictOk nms q c) : DictOk nms (pStep nms i q (some f)) c := by
  obtain ⟨h1, h2, h3⟩ := h
  cases hr : q.row[f]? with
  | none => simp only [pStep, hr]; exact ⟨h1, h2, h3⟩
  | some y => simp only [pStep, hr]; exact ⟨h1, h2, fun x hx => h3 x (List.mem_of_mem_eraseIdx hx)⟩
/-- an object that no part of a lexer is -/
structure NotLex (o : Obj) : Prop where
  h1 : ∀ vs, o.data ≠ .fields vs
  h2 : ∀ v, o.data ≠ .cell v
  h3 : ∀ d, o ≠ instObj 115 d
  h4 : ∀ (w : World) (t t3 k1 k2 k3 k4 k5 : Tok) (pbv fv : Value), o ≠ strD w t t3 k1 k2 k3 k4 k5 pbv fv
  h5 : ∀ q doc cell c' ct, o ≠ lamO q doc cell c' ct
theorem notLex_list (vs : Array Value) (k : Nat) : NotLex (listOf vs k) :=
  ⟨fun _ h => (by cases h), fun _ h => (by cases h), fun _ h => (by have := congrArg Obj.data h; cases this), fun _ _ _ _ _ _ _ _ _ _ h => (by have := congrArg Obj.data h; cases this), fun _ _ _ _ _ h => (by have := congrArg Obj.data h; cases this)⟩
theorem notLex_dict (w : World) (n : Int) (t t3 k1 k2 k3 k4 : Tok) (a b : Value) : NotLex (lexD w n t t3 k1 k2 k3 k4 a b) :=
  ⟨fun _ h => (by cases h), fun _ h => (by cases h), fun _ h => (by have := congrArg Obj.data h; cases this), fun _ _ _ _ _ _ _ _ _ _ h => (by have := congrArg Obj.data h; injection this with e1 e2; exact absurd e2 (by decide)), fun _ _ _ _ _ h => (by have := congrArg Obj.data h; cases this)⟩
theorem mem_drop {A B : Led} {a p : Addr × Obj} (h : p ∈ A ++ a :: B) (hn : p ≠ a) : p ∈ A ++ B := by
  rcases List.mem_append.mp h with h | h
  · exact List.mem_append_left _ h
  · rcases List.mem_cons.mp h with h | h
    · exact absurd h hn
    · exact List.mem_append_right _ h
theorem LexR.drop {w : World} {A B : Led} {a : Addr} {o : Obj} {lx dlx lf pb st dst f c' cell : Addr} (R : LexR w (A ++ (a, o) :: B) lx dlx lf pb st dst f c' cell) (n : NotLex o) : LexR w (A ++ B) lx dlx lf pb st dst f c' cell := by
  obtain ⟨h1, h2, ⟨t, t3, k1, k2, k3, k4, k5, pbv, h3⟩, ⟨doc, ct, h4⟩, ⟨oc, vs, tq, h5, h6, h7⟩, ⟨oo, h8, h9⟩⟩ := R
  refine ⟨mem_drop h1 fun e => n.h3 _ (congrArg Prod.snd e).symm, mem_drop h2 fun e => n.h3 _ (congrArg Prod.snd e).symm, ⟨t, t3, k1, k2, k3, k4, k5, pbv, mem_drop h3 fun e => n.h4 _ _ _ _ _ _ _ _ _ _ (congrArg Prod.snd e).symm⟩,
    ⟨doc, ct, mem_drop h4 fun e => n.h5 _ _ _ _ _ (congrArg Prod.snd e).symm⟩, ⟨oc, vs, tq, mem_drop h5 fun e => n.h1 vs ?_, h6, h7⟩, ⟨oo, mem_drop h8 fun e => n.h2 (some (Value.ref lf)) ?_, h9⟩⟩
  · have : oc = o := congrArg Prod.snd e
    rw [← this]; exact h6
  · have : oo = o := congrArg Prod.snd e
    rw [← this]; exact h9
theorem tabOk_drop {A B : Led} {a : Addr} {o o' : Obj} (R : TabOk o' (A ++ (a, o) :: B)) (n : NotLex o) : TabOk o' (A ++ B) := by
  rcases R with R | ⟨c', oc, vs, t, h1, h2, h3, h4⟩
  · exact .inl R
  · refine .inr ⟨c', oc, vs, t, h1, mem_drop h2 fun e => n.h1 vs ?_, h3, h4⟩
    have : oc = o := congrArg Prod.snd e
    rw [← this]; exact h3
end Mine
namespace Mine
theorem day_setup {w : World} {TT newA newB : Led} {oX oL oP oB oN oF oQ o : Obj} {lx dlx lf pb stA dstA fA cA cellA ln dln lfn pbn stB dstB fB cB cellB d S : Addr}
   (hRA : LexR w (newA ++ TT) lx dlx lf pb stA dstA fA cA cellA) (hdA : dlx ≠ lf ∧ dlx ≠ pb ∧ lf ≠ pb) (hdA' : 140 ≠ dlx ∧ 140 ≠ lf ∧ 140 ≠ pb) (hoA : OwnOff (newA ++ TT) [140, dlx, lf, pb])
   (hlA : ∀ p ∈ TT, p.1 < dlx ∧ p.1 < lf ∧ p.1 < pb ∧ ∀ q ∈ newA, p.1 < q.1)
   (hRB : LexR w (newB ++ (dlx, oX) :: (lf, oL) :: (pb, oP) :: (newA ++ TT)) ln dln lfn pbn stB dstB fB cB cellB) (hTB : TabOk oB (newB ++ (dlx, oX) :: (lf, oL) :: (pb, oP) :: (newA ++ TT)))
   (hdB : dln ≠ lfn ∧ dln ≠ pbn ∧ lfn ≠ pbn) (hdB' : 140 ≠ dln ∧ 140 ≠ lfn ∧ 140 ≠ pbn) (hoB : OwnOff (newB ++ (dlx, oX) :: (lf, oL) :: (pb, oP) :: (newA ++ TT)) [140, dln, lfn, pbn])
   (hlB : ∀ p ∈ (dlx, oX) :: (lf, oL) :: (pb, oP) :: (newA ++ TT), p.1 < dln ∧ p.1 < lfn ∧ p.1 < pbn ∧ ∀ q ∈ newB, p.1 < q.1)
   (nX : NotLex oX) (nL : NotLex oL)
   (lD : AllLt d ((140, oB) :: (dln, oN) :: (lfn, oF) :: (pbn, oQ) :: (newB ++ (dlx, oX) :: (lf, oL) :: (pb, oP) :: (newA ++ TT))))
   (lS : AllLt S ((d, o) :: (140, oB) :: (dln, oN) :: (lfn, oF) :: (pbn, oQ) :: (newB ++ (dlx, oX) :: (lf, oL) :: (pb, oP) :: (newA ++ TT)))) :
   ∃ T1 Y : Led, T1 = (dln, oN) :: (lfn, oF) :: (pb, oP) :: (newB ++ (newA ++ TT)) ∧ T1 = Y ++ TT ∧ LexR w T1 lx dlx lf pb stA dstA fA cA cellA ∧ LexR w T1 ln dln lfn pbn stB dstB fB cB cellB ∧ TabOk oB T1 ∧
     OwnOff T1 [dlx, lf, pbn, d, S, 140] ∧ (∀ p ∈ TT, ∀ q ∈ Y, p.1 < q.1) ∧ (∀ p ∈ T1, p.1 < d) ∧ Nat.lt dlx pbn ∧ Nat.lt lf pbn ∧ Nat.lt pbn d ∧ Nat.lt d S ∧ Nat.lt 140 d ∧ (∀ p ∈ TT, p.1 < d) ∧ (∀ p ∈ TT, p.1 < S) := by
  have hlX := hlB (dlx, oX) (.head _)
  have hlL := hlB (lf, oL) (.tail _ (.head _))
  have hlP := hlB (pb, oP) (.tail _ (.tail _ (.head _)))
  have hlT : ∀ p ∈ newA ++ TT, p.1 < dln ∧ p.1 < lfn ∧ p.1 < pbn ∧ ∀ q ∈ newB, p.1 < q.1 := fun p hp => hlB p (.tail _ (.tail _ (.tail _ hp)))
  have aD := allLt_at lD
  have aS := allLt_at lS
  have sub : ∀ p ∈ newB ++ (newA ++ TT), p ∈ newB ++ (dlx, oX) :: (lf, oL) :: (pb, oP) :: (newA ++ TT) := fun p hp => by
    rcases List.mem_append.mp hp with hp | hp
    · exact List.mem_append_left _ hp
    · exact List.mem_append_right _ (.tail _ (.tail _ (.tail _ hp)))
  have d1 : pbn < d := aD (pbn, oQ) (.tail _ (.tail _ (.tail _ (.head _))))
  have d2 : d < S := aS (d, o) (.head _)
  have d3 : 140 < d := aD (140, oB) (.head _)
  have hT1d : ∀ p ∈ (dln, oN) :: (lfn, oF) :: (pb, oP) :: (newB ++ (newA ++ TT)), p.1 < d := by
    intro p hp
    rcases List.mem_cons.mp hp with rfl | hp
    · exact aD _ (.tail _ (.head _))
    rcases List.mem_cons.mp hp with rfl | hp
    · exact aD _ (.tail _ (.tail _ (.head _)))
    rcases List.mem_cons.mp hp with rfl | hp
    · exact aD _ (.tail _ (.tail _ (.tail _ (.tail _ (List.mem_append_right _ (.tail _ (.tail _ (.head _))))))))
    · exact aD _ (.tail _ (.tail _ (.tail _ (.tail _ (sub p hp)))))
  have hTT : ∀ p ∈ TT, p ∈ (dln, oN) :: (lfn, oF) :: (pb, oP) :: (newB ++ (newA ++ TT)) := fun p hp => .tail _ (.tail _ (.tail _ (List.mem_append_right _ (List.mem_append_right _ hp))))
  refine ⟨_, (dln, oN) :: (lfn, oF) :: (pb, oP) :: (newB ++ newA), rfl, by simp, ?_, ?_, ?_, ?_, ?_, hT1d, hlX.2.2.1, hlL.2.2.1, d1, d2, d3, fun p hp => hT1d p (hTT p hp), fun p hp => Nat.lt_trans (hT1d p (hTT p hp)) d2⟩
  · exact hRA.sub fun p hp => .tail _ (.tail _ (.tail _ (List.mem_append_right _ hp)))
  · have r1 := LexR.drop hRB nX
    have r2 := LexR.drop r1 nL
    refine r2.sub fun p hp => ?_
    rcases List.mem_append.mp hp with hp | hp
    · exact .tail _ (.tail _ (.tail _ (List.mem_append_left _ hp)))
    rcases List.mem_cons.mp hp with rfl | hp
    · exact .tail _ (.tail _ (.head _))
    · exact .tail _ (.tail _ (.tail _ (List.mem_append_right _ hp)))
  · have r1 := tabOk_drop hTB nX
    have r2 := tabOk_drop r1 nL
    refine tabOk_sub r2 fun p hp => ?_
    rcases List.mem_append.mp hp with hp | hp
    · exact .tail _ (.tail _ (.tail _ (List.mem_append_left _ hp)))
    rcases List.mem_cons.mp hp with rfl | hp
    · exact .tail _ (.tail _ (.head _))
    · exact .tail _ (.tail _ (.tail _ (List.mem_append_right _ hp)))
  · intro p hp b hb
    have pd := hT1d p hp
    have key : p.1 ≠ dlx ∧ p.1 ≠ lf ∧ p.1 ≠ pbn ∧ p.1 ≠ 140 := by
      rcases List.mem_cons.mp hp with rfl | hp
      · exact ⟨Nat.ne_of_gt hlX.1, Nat.ne_of_gt hlL.1, hdB.2.1, Ne.symm hdB'.1⟩
      rcases List.mem_cons.mp hp with rfl | hp
      · exact ⟨Nat.ne_of_gt hlX.2.1, Nat.ne_of_gt hlL.2.1, hdB.2.2, Ne.symm hdB'.2.1⟩
      rcases List.mem_cons.mp hp with rfl | hp
      · exact ⟨Ne.symm hdA.2.1, Ne.symm hdA.2.2, Nat.ne_of_lt hlP.2.2.1, Ne.symm hdA'.2.2⟩
      rcases List.mem_append.mp hp with hp | hp
      · exact ⟨Nat.ne_of_gt (hlX.2.2.2 p hp), Nat.ne_of_gt (hlL.2.2.2 p hp), hoB p (List.mem_append_left _ hp) pbn (by simp), hoB p (List.mem_append_left _ hp) 140 (by simp)⟩
      · exact ⟨hoA p hp dlx (by simp), hoA p hp lf (by simp), Nat.ne_of_lt (hlT p hp).2.2.1, hoA p hp 140 (by simp)⟩
    simp only [List.mem_cons, List.not_mem_nil, or_false] at hb
    rcases hb with rfl | rfl | rfl | rfl | rfl | rfl
    · exact key.1
    · exact key.2.1
    · exact key.2.2.1
    · exact Nat.ne_of_lt pd
    · exact Nat.ne_of_lt (Nat.lt_trans pd d2)
    · exact key.2.2.2
  · intro p hp q hq
    have hpT := hlT p (List.mem_append_right _ hp)
    rcases List.mem_cons.mp hq with rfl | hq
    · exact hpT.1
    rcases List.mem_cons.mp hq with rfl | hq
    · exact hpT.2.1
    rcases List.mem_cons.mp hq with rfl | hq
    · exact (hlA p hp).2.2.1
    rcases List.mem_append.mp hq with hq | hq
    · exact hpT.2.2.2 q hq
    · exact (hlA p hp).2.2.2 q hq
end Mine
namespace Mine
theorem Tell.perm {w : World} {k : Nat} {f : Addr} {args : List Value} {news news' : Led} {Post Post' : Value → Led → Prop} (H : Tell w k f args news Post) (h1 : ∀ p ∈ news, p ∈ news')
   (h2 : ∀ v n, Post v n → ∃ n', (∀ p ∈ n', p ∈ n) ∧ Post' v n') : Tell w k f args news' Post' := by
  intro nm ig ic mr gd cn a ccd cl outer A₀ base h₀ L m s Q E p loose mean mg mb B F X N T hret
  refine H nm ig ic mr gd cn a ccd cl outer A₀ base h₀ L m s Q E p loose mean mg mb B F X (fun p hp => N p (h1 p hp)) T fun v n h' tk F' N' P => ?_
  obtain ⟨n', hs, P'⟩ := h2 v n P
  exact hret v n' h' tk F' (fun p hp => N' p (hs p hp)) P'
theorem TellC.perm {w : World} {k : Nat} {f : Addr} {args : List Value} {news news' : Led} {Post Post' : Value → Led → Prop} (H : TellC w k f args news Post) (h1 : ∀ p ∈ news, p ∈ news')
   (h2 : ∀ v n, Post v n → ∃ n', (∀ p ∈ n', p ∈ n) ∧ Post' v n') : TellC w k f args news' Post' := by
  intro nm ig ic mr gd cn a ccd cl outer A₀ base h₀ L m s Q E p loose mean mg mb C B F X N T hret
  refine H nm ig ic mr gd cn a ccd cl outer A₀ base h₀ L m s Q E p loose mean mg mb C B F X (fun p hp => N p (h1 p hp)) T fun v n h' tk F' N' P => ?_
  obtain ⟨n', hs, P'⟩ := h2 v n P
  exact hret v n' h' tk F' (fun p hp => N' p (hs p hp)) P'
/-- what stands fast in a day -/
structure DayR (w : World) (T : Led) (lx dlx lf pb st ln dln pbn stn : Addr) : Prop where
  a : ∃ dst f c' cell, LexR w T lx dlx lf pb st dst f c' cell
  b : (ln, instObj 115 dln) ∈ T
  c : ∃ t t3 k1 k2 k3 k4, (dln, lexD w 1 t t3 k1 k2 k3 k4 (.ref stn) (.ref pbn)) ∈ T
  g : ∃ kp, (pb, listOf #[] kp) ∈ T
  h : OwnOff T [dlx, lf, pbn]
  n : dlx ≠ lf ∧ dlx ≠ pbn ∧ lf ≠ pbn
theorem dayR_mk {w : World} {E T : Led} {lx dlx lf pb st dst f c' cell ln dln pbn stn : Addr} {kp : Nat} {t t3 k1 k2 k3 k4 : Tok} (Ra : LexR w T lx dlx lf pb st dst f c' cell) (b : (ln, instObj 115 dln) ∈ T) (c : (dln, lexD w 1 t t3 k1 k2 k3 k4 (.ref stn) (.ref pbn)) ∈ E) (g : (pb, listOf #[] kp) ∈ T)
   (hT : OwnOff T [dlx, lf, pbn]) (hE : OwnOff E [dlx, lf, pbn]) (n : dlx ≠ lf ∧ dlx ≠ pbn ∧ lf ≠ pbn) : DayR w (E ++ T) lx dlx lf pb st ln dln pbn stn :=
  ⟨⟨_, _, _, _, Ra.sub fun p hp => List.mem_append_right _ hp⟩, List.mem_append_right _ b, ⟨_, _, _, _, _, _, List.mem_append_left _ c⟩, ⟨_, List.mem_append_right _ g⟩, fun p hp => (List.mem_append.mp hp).elim (hE p) (hT p), n⟩
section
variable {w : World} {TT : Led} {lx dlx lf pb st ln dln pbn stn : Addr}
theorem day_get (R : DayR w TT lx dlx lf pb st ln dln pbn stn) (x : Str) (cs r : List Nat) (hx : lexTok cs = (x.cps.toList, r)) (n : Int) (t t3 k1 k2 k3 k4 : Tok) (vs vq : List Value) (k kq : Nat) (hvs : StrsAre vs (sgn cs).reverse) (hsz : cs.length ≤ 10000) :
   TellC w 1 105 [.ref lx] ((dlx, lexD w n t t3 k1 k2 k3 k4 (.ref st) (.ref pb)) :: (lf, listOf vs.toArray k) :: (pbn, listOf vq.toArray kq) :: TT) fun v nn => ∃ t' ts vs' k', v = .str x ts ∧
     nn = (dlx, lexD w (n + nls cs - nls r) t' t3 k1 k2 k3 k4 (.ref st) (.ref pb)) :: (lf, listOf (List.toArray vs') k') :: (pbn, listOf vq.toArray kq) :: TT ∧ StrsAre vs' (sgn r).reverse := by
  obtain ⟨dst, f, c', cell, Ra⟩ := R.a
  obtain ⟨kp, hg⟩ := R.g
  have h := gt_read w ((pbn, listOf vq.toArray kq) :: TT) lx dlx lf pb st dst f c' cell (Ra.sub fun p hp => .tail _ hp) (ownOff_two (Ne.symm R.n.2.1) (Ne.symm R.n.2.2) (OwnOff.mono R.h (by simp))) R.n.1 n t t3 k1 k2 k3 k4 kp (.tail _ hg) vs cs k hvs hsz
  rw [hx] at h
  refine TellC.perm h (fun p hp => hp) fun v nn P => ⟨nn, fun p hp => hp, ?_⟩
  obtain ⟨t', ts, vs', k', e1, e2, e3⟩ := P
  exact ⟨t', ts, vs', k', by rw [e1], e2, e3⟩
theorem day_pop (R : DayR w TT lx dlx lf pb st ln dln pbn stn) (a b : Obj) (y : Value) (p : List Value) (kq : Nat) (hsz : p.length ≤ 100000) :
   Tell w 1 105 [.ref ln] ((dlx, a) :: (lf, b) :: (pbn, listOf (y :: p).toArray kq) :: TT) fun v nn => v = y ∧ nn = (dlx, a) :: (lf, b) :: (pbn, listOf p.toArray (kq + 1)) :: TT := by
  obtain ⟨t, t3, k1, k2, k3, k4, hc⟩ := R.c
  have h := gt_push w ((dlx, a) :: (lf, b) :: TT) ln dln pbn (.ref stn) 1 t t3 k1 k2 k3 k4 (.tail _ (.tail _ R.b)) (.tail _ (.tail _ hc)) (ownOff_one R.n.2.1 (ownOff_one R.n.2.2 (OwnOff.mono R.h (by simp)))) y p kq hsz
  refine Tell.perm h (fun p hp => ?_) fun v nn P => ⟨_, fun p hp => ?_, P.1, rfl⟩
  · simp only [List.mem_cons] at hp ⊢
    rcases hp with h | h | h | h <;> simp [h]
  · rw [P.2]
    simp only [List.mem_cons] at hp ⊢
    rcases hp with h | h | h | h <;> simp [h]
theorem day_push (R : DayR w TT lx dlx lf pb st ln dln pbn stn) (a b : Obj) (x : Str) (tx : Tok) (p : List Value) (kq : Nat) (hsz : p.length ≤ 100000) :
   Tell w 0 112 [.ref ln, .str x tx] ((dlx, a) :: (lf, b) :: (pbn, listOf p.toArray kq) :: TT) fun v nn => v = .none ∧ nn = (dlx, a) :: (lf, b) :: (pbn, listOf (p ++ [Value.str x tx]).toArray (kq + 1)) :: TT := by
  obtain ⟨t, t3, k1, k2, k3, k4, hc⟩ := R.c
  have h := push_spec w ((dlx, a) :: (lf, b) :: TT) ln dln pbn (.ref stn) 1 t t3 k1 k2 k3 k4 (.tail _ (.tail _ R.b)) (.tail _ (.tail _ hc)) (ownOff_one R.n.2.1 (ownOff_one R.n.2.2 (OwnOff.mono R.h (by simp)))) x tx p kq hsz
  refine Tell.perm h (fun p hp => ?_) fun v nn P => ⟨_, fun p hp => ?_, P.1, rfl⟩
  · simp only [List.mem_cons] at hp ⊢
    rcases hp with h | h | h | h <;> simp [h]
  · rw [P.2]
    simp only [List.mem_cons] at hp ⊢
    rcases hp with h | h | h | h <;> simp [h]
end
/-- an own object that is not one of as -/
theorem off_new {T : Led} {D : Addr} {o : Obj} {as : List Addr} (h : OwnOff T as) (hD : ∀ b ∈ as, b < D) : OwnOff ((D, o) :: T) as := ownOff_cons h fun b hb => Nat.ne_of_gt (hD b hb)
/-- the queue turned on by one -/
theorem rot_next {α : Type} (qs : List α) (i : Nat) (y : α) (hy : qs[i]? = some y) : qs.drop i ++ qs.take i = y :: (qs.drop (i + 1) ++ qs.take i) ∧ qs.drop (i + 1) ++ qs.take (i + 1) = (qs.drop (i + 1) ++ qs.take i) ++ [y] := by
  obtain ⟨hi, rfl⟩ := List.getElem?_eq_some_iff.mp hy
  constructor
  · rw [List.drop_eq_getElem_cons hi, List.cons_append]
  · rw [List.take_succ_eq_append_getElem hi, List.append_assoc]
theorem strs_cons {vs : List Value} {x : Str} {xs : List Str} (h : StrsAre vs (x :: xs)) : ∃ t r, vs = .str x t :: r ∧ StrsAre r xs := by
  cases h with
  | cons a b c => exact ⟨_, _, rfl, by assumption⟩
theorem range_turnsI {prog : Program} {w : World} {A : Around} {E : Value → Shared → Prop} {s : Shared} {env : Env} {h₀ : Heap} {target : Expr} {body : List Stmt} {Q : Flow → Shared → Prop} {x : Int} {n : Nat} {t : Tok} {m₀ : Str → Option Value} {news : Led} (hx : x = (n : Int)) (hh : A.handled = none) (F : Fr h₀ env.locals s.heap m₀) (N : News h₀ env.locals s.heap news) (hn : n ≤ 1000)
    (rest₀ : ∀ I : Addr, (∀ p ∈ news, p.1 < I) → ItemsRest prog w A E h₀ env target body Q s [(I, "range_iterator")] [] (rItems n) m₀ news) :
    wpAny (model prog w) A (call (.type "range") [.int x t]) (fun xv s₁ => wpAny (model prog w) A (pyIter xv) (fun it s₂ => TurnsAt prog w A h₀ env target body Q E it s₂) E s₁) E s := by
  subst hx
  exact range_turns hh F N hn rest₀
end Mine
namespace Mine
theorem ne_nm {a b : Addr} {l : List Addr} (h : a ∉ l) (hb : b ∈ l) : a ≠ b := fun e => h (e ▸ hb)
theorem nm_ne {a : Addr} {l : List Addr} (h : ∀ b ∈ l, a ≠ b) : a ∉ l := fun hm => h _ hm rfl
theorem off_parts {E : Led} {as bs : List Addr} (h : (as ++ bs).Nodup) (hE : E.map (·.1) = as) : OwnOff E bs := fun p hp b hb => (List.nodup_append.mp h).2.2 p.1 (hE ▸ List.mem_map_of_mem (f := Prod.fst) hp) b hb
theorem off_partsR {E : Led} {as bs : List Addr} (h : (bs ++ as).Nodup) (hE : E.map (·.1) = as) : OwnOff E bs := fun p hp b hb => Ne.symm ((List.nodup_append.mp h).2.2 b hb p.1 (hE ▸ List.mem_map_of_mem (f := Prod.fst) hp))
theorem day_setup2 {w : World} {TT newA newB : Led} {oX oL oP oB oN oF oQ o : Obj} {lx dlx lf pb stA dstA fA cA cellA ln dln lfn pbn stB dstB fB cB cellB d S : Addr}
   (hRA : LexR w (newA ++ TT) lx dlx lf pb stA dstA fA cA cellA) (hdA : dlx ≠ lf ∧ dlx ≠ pb ∧ lf ≠ pb) (hdA' : 140 ≠ dlx ∧ 140 ≠ lf ∧ 140 ≠ pb) (hoA : OwnOff (newA ++ TT) [140, dlx, lf, pb])
   (hlA : ∀ p ∈ TT, p.1 < dlx ∧ p.1 < lf ∧ p.1 < pb ∧ ∀ q ∈ newA, p.1 < q.1)
   (hRB : LexR w (newB ++ (dlx, oX) :: (lf, oL) :: (pb, oP) :: (newA ++ TT)) ln dln lfn pbn stB dstB fB cB cellB) (hTB : TabOk oB (newB ++ (dlx, oX) :: (lf, oL) :: (pb, oP) :: (newA ++ TT)))
   (hdB : dln ≠ lfn ∧ dln ≠ pbn ∧ lfn ≠ pbn) (hdB' : 140 ≠ dln ∧ 140 ≠ lfn ∧ 140 ≠ pbn) (hoB : OwnOff (newB ++ (dlx, oX) :: (lf, oL) :: (pb, oP) :: (newA ++ TT)) [140, dln, lfn, pbn])
   (hlB : ∀ p ∈ (dlx, oX) :: (lf, oL) :: (pb, oP) :: (newA ++ TT), p.1 < dln ∧ p.1 < lfn ∧ p.1 < pbn ∧ ∀ q ∈ newB, p.1 < q.1)
   (nX : NotLex oX) (nL : NotLex oL)
   (lD : AllLt d ((140, oB) :: (dln, oN) :: (lfn, oF) :: (pbn, oQ) :: (newB ++ (dlx, oX) :: (lf, oL) :: (pb, oP) :: (newA ++ TT))))
   (lS : AllLt S ((d, o) :: (140, oB) :: (dln, oN) :: (lfn, oF) :: (pbn, oQ) :: (newB ++ (dlx, oX) :: (lf, oL) :: (pb, oP) :: (newA ++ TT)))) (nN : NotLex oN) (nF : NotLex oF) :
   ∃ T Y : Led, T = (pb, oP) :: (newB ++ (newA ++ TT)) ∧ T = Y ++ TT ∧ LexR w T lx dlx lf pb stA dstA fA cA cellA ∧ LexR w T ln dln lfn pbn stB dstB fB cB cellB ∧ TabOk oB T ∧
     OwnOff T [dlx, lf, pbn, d, S, 140, dln, lfn] ∧ [dlx, lf, pbn, d, S, 140, dln, lfn].Nodup ∧ (∀ b ∈ [dlx, lf, pbn, d, S, 140, dln, lfn], Nat.le b S) ∧ (∀ p ∈ TT, ∀ q ∈ Y, p.1 < q.1) ∧ (∀ p ∈ T, Nat.lt p.1 S) ∧ (∀ p ∈ TT, Nat.lt p.1 S) := by
  obtain ⟨T1, Y, rfl, hY, r1, r2, t1, o1, y1, z1, a1, a2, a3, a4, a5, a6, a7⟩ := day_setup (w := w) (oN := oN) (oF := oF) (oQ := oQ) hRA hdA hdA' hoA hlA hRB hTB hdB hdB' hoB hlB nX nL lD lS
  have hlX := hlB (dlx, oX) (.head _)
  have hlL := hlB (lf, oL) (.tail _ (.head _))
  have aD := allLt_at lD
  have n1 : dln < d := aD _ (.tail _ (.head _))
  have n2 : lfn < d := aD _ (.tail _ (.tail _ (.head _)))
  have sub : ∀ p ∈ (pb, oP) :: (newB ++ (newA ++ TT)), p ∈ (dln, oN) :: (lfn, oF) :: (pb, oP) :: (newB ++ (newA ++ TT)) := fun p hp => .tail _ (.tail _ hp)
  have q1 : Nat.lt dlx dln := hlX.1
  have q2 : Nat.lt dlx lfn := hlX.2.1
  have q3 : Nat.lt lf dln := hlL.1
  have q4 : Nat.lt lf lfn := hlL.2.1
  have k1 := hdA.1
  have k2 := hdA'.1
  have k3 := hdA'.2.1
  have k4 := hdB.1
  have k5 := hdB.2.1
  have k6 := hdB.2.2
  have k7 := hdB'.1
  have k8 := hdB'.2.1
  have k9 := hdB'.2.2
  have m1 : Nat.lt dln d := n1
  have m2 : Nat.lt lfn d := n2
  have e1 : (dln : Nat) ≠ lfn := k4
  have e2 : (dln : Nat) ≠ pbn := k5
  have e3 : (lfn : Nat) ≠ pbn := k6
  have e4 : (dlx : Nat) ≠ lf := k1
  have e5 : (140 : Nat) ≠ dlx := k2
  have e6 : (140 : Nat) ≠ lf := k3
  have e7 : (140 : Nat) ≠ dln := k7
  have e8 : (140 : Nat) ≠ lfn := k8
  have e9 : (140 : Nat) ≠ pbn := k9
  refine ⟨_, (pb, oP) :: (newB ++ newA), rfl, by simp, ?_, ?_, ?_, ?_, ?_, ?_, ?_, ?_, a7⟩
  · exact LexR.drop (A := []) (LexR.drop (A := []) r1 nN) nF
  · exact LexR.drop (A := []) (LexR.drop (A := []) r2 nN) nF
  · exact tabOk_drop (A := []) (tabOk_drop (A := []) t1 nN) nF
  · intro p hp b hb
    rcases List.mem_append.mp (show b ∈ [dlx, lf, pbn, d, S, 140] ++ [dln, lfn] from hb) with hb | hb
    · exact o1 p (sub p hp) b hb
    · have key : p.1 ≠ dln ∧ p.1 ≠ lfn := by
        rcases List.mem_cons.mp hp with rfl | hp
        · have := hlB (pb, oP) (.tail _ (.tail _ (.head _)))
          exact ⟨Nat.ne_of_lt this.1, Nat.ne_of_lt this.2.1⟩
        rcases List.mem_append.mp hp with hp | hp
        · exact ⟨hoB p (List.mem_append_left _ hp) dln (by simp), hoB p (List.mem_append_left _ hp) lfn (by simp)⟩
        · have := hlB p (.tail _ (.tail _ (.tail _ hp)))
          exact ⟨Nat.ne_of_lt this.1, Nat.ne_of_lt this.2.1⟩
      simp only [List.mem_cons, List.not_mem_nil, or_false] at hb
      rcases hb with rfl | rfl
      · exact key.1
      · exact key.2
  · have hS : ∀ b : Nat, b < d → b < S := fun b hb => Nat.lt_trans hb a4
    have w1 : Nat.lt dlx d := Nat.lt_trans a1 a3
    have w2 : Nat.lt lf d := Nat.lt_trans a2 a3
    refine List.nodup_cons.mpr ⟨nm_ne (List.forall_mem_cons.mpr ⟨e4, List.forall_mem_cons.mpr ⟨Nat.ne_of_lt a1, List.forall_mem_cons.mpr ⟨Nat.ne_of_lt w1, List.forall_mem_cons.mpr ⟨Nat.ne_of_lt (hS _ w1), List.forall_mem_cons.mpr ⟨Ne.symm e5, List.forall_mem_cons.mpr ⟨Nat.ne_of_lt q1, List.forall_mem_cons.mpr ⟨Nat.ne_of_lt q2, List.forall_mem_nil _⟩⟩⟩⟩⟩⟩⟩), ?_⟩
    refine List.nodup_cons.mpr ⟨nm_ne (List.forall_mem_cons.mpr ⟨Nat.ne_of_lt a2, List.forall_mem_cons.mpr ⟨Nat.ne_of_lt w2, List.forall_mem_cons.mpr ⟨Nat.ne_of_lt (hS _ w2), List.forall_mem_cons.mpr ⟨Ne.symm e6, List.forall_mem_cons.mpr ⟨Nat.ne_of_lt q3, List.forall_mem_cons.mpr ⟨Nat.ne_of_lt q4, List.forall_mem_nil _⟩⟩⟩⟩⟩⟩), ?_⟩
    refine List.nodup_cons.mpr ⟨nm_ne (List.forall_mem_cons.mpr ⟨Nat.ne_of_lt a3, List.forall_mem_cons.mpr ⟨Nat.ne_of_lt (hS _ a3), List.forall_mem_cons.mpr ⟨Ne.symm e9, List.forall_mem_cons.mpr ⟨Ne.symm e2, List.forall_mem_cons.mpr ⟨Ne.symm e3, List.forall_mem_nil _⟩⟩⟩⟩⟩), ?_⟩
    refine List.nodup_cons.mpr ⟨nm_ne (List.forall_mem_cons.mpr ⟨Nat.ne_of_lt a4, List.forall_mem_cons.mpr ⟨Nat.ne_of_gt a5, List.forall_mem_cons.mpr ⟨Nat.ne_of_gt m1, List.forall_mem_cons.mpr ⟨Nat.ne_of_gt m2, List.forall_mem_nil _⟩⟩⟩⟩), ?_⟩
    refine List.nodup_cons.mpr ⟨nm_ne (List.forall_mem_cons.mpr ⟨Nat.ne_of_gt (hS _ a5), List.forall_mem_cons.mpr ⟨Nat.ne_of_gt (hS _ m1), List.forall_mem_cons.mpr ⟨Nat.ne_of_gt (hS _ m2), List.forall_mem_nil _⟩⟩⟩), ?_⟩
    exact List.nodup_cons.mpr ⟨nm_ne (List.forall_mem_cons.mpr ⟨e7, List.forall_mem_cons.mpr ⟨e8, List.forall_mem_nil _⟩⟩), List.nodup_cons.mpr ⟨nm_ne (List.forall_mem_cons.mpr ⟨e1, List.forall_mem_nil _⟩), List.nodup_cons.mpr ⟨List.not_mem_nil, List.nodup_nil⟩⟩⟩
  · have hS : ∀ b : Nat, b < d → b ≤ S := fun b hb => Nat.le_of_lt (Nat.lt_trans hb a4)
    exact List.forall_mem_cons.mpr ⟨hS _ (Nat.lt_trans a1 a3), List.forall_mem_cons.mpr ⟨hS _ (Nat.lt_trans a2 a3), List.forall_mem_cons.mpr ⟨hS _ a3, List.forall_mem_cons.mpr ⟨Nat.le_of_lt a4, List.forall_mem_cons.mpr ⟨Nat.le_refl _, List.forall_mem_cons.mpr ⟨hS _ a5, List.forall_mem_cons.mpr ⟨hS _ m1, List.forall_mem_cons.mpr ⟨hS _ m2, List.forall_mem_nil _⟩⟩⟩⟩⟩⟩⟩⟩
  · intro p hp q hq
    refine y1 p hp q ?_
    have e : Y = (dln, oN) :: (lfn, oF) :: (pb, oP) :: (newB ++ newA) := by
      have : Y ++ TT = ((dln, oN) :: (lfn, oF) :: (pb, oP) :: (newB ++ newA)) ++ TT := by rw [← hY]; simp
      exact List.append_cancel_right this
    rw [e]; exact .tail _ (.tail _ hq)
  · exact fun p hp => Nat.lt_trans (z1 p (sub p hp)) a4
theorem news_sub {h₀ h : Heap} {L : Addr} {A B : Led} (N : News h₀ L h A) (s : ∀ p ∈ B, p ∈ A) : News h₀ L h B := fun p hp => N p (s p hp)
theorem day_perm {h₀ h : Heap} {L : Addr} {xS xd x140 xdln xlfn xpbn xdlx xlf xpb : Addr × Obj} {newB newA TT T : Led} (N : News h₀ L h (xS :: xd :: x140 :: xdln :: xlfn :: xpbn :: (newB ++ xdlx :: xlf :: xpb :: (newA ++ TT)))) (hT : T = xpb :: (newB ++ (newA ++ TT))) :
   News h₀ L h (xdlx :: xlf :: xpbn :: xd :: xS :: x140 :: xdln :: xlfn :: T) := by
  subst hT
  refine news_sub N ?_
  (repeat' (first | exact List.forall_mem_nil _ | refine List.forall_mem_cons.mpr ⟨?_, ?_⟩ | refine List.forall_mem_append.mpr ⟨?_, ?_⟩)); all_goals ((try intro p9 hp9); (repeat (first | exact .head _ | assumption | exact List.mem_append_left _ (by assumption) | exact List.mem_append_left _ (List.mem_append_left _ (by assumption)) | exact List.mem_append_left _ (List.mem_append_right _ (by assumption)) | refine .tail _ ?_ | refine List.mem_append_right _ ?_)))
theorem news_in {h₀ h : Heap} {L : Addr} {x a b c : Addr × Obj} {T : Led} (N : News h₀ L h (x :: a :: b :: c :: T)) : News h₀ L h (a :: b :: c :: x :: T) := by
  refine news_sub N ?_
  (repeat' (first | exact List.forall_mem_nil _ | refine List.forall_mem_cons.mpr ⟨?_, ?_⟩ | refine List.forall_mem_append.mpr ⟨?_, ?_⟩)); all_goals ((try intro p9 hp9); (repeat (first | exact .head _ | assumption | exact List.mem_append_left _ (by assumption) | exact List.mem_append_left _ (List.mem_append_left _ (by assumption)) | exact List.mem_append_left _ (List.mem_append_right _ (by assumption)) | refine .tail _ ?_ | refine List.mem_append_right _ ?_)))
theorem nd_facts {dlx lf pbn d S dln lfn : Addr} (h : [dlx, lf, pbn, d, S, 140, dln, lfn].Nodup) :
   (Ne (α := Nat) dlx d ∧ Ne (α := Nat) lf d ∧ Ne (α := Nat) pbn d ∧ Ne (α := Nat) S d ∧ Ne (α := Nat) 140 d ∧ Ne (α := Nat) dln d ∧ Ne (α := Nat) lfn d) ∧
   (Ne (α := Nat) dlx S ∧ Ne (α := Nat) lf S ∧ Ne (α := Nat) pbn S ∧ Ne (α := Nat) 140 S ∧ Ne (α := Nat) dln S ∧ Ne (α := Nat) lfn S) ∧
   (dlx ≠ lf ∧ dlx ≠ pbn ∧ lf ≠ pbn) ∧ (140 ≠ dlx ∧ 140 ≠ lf ∧ 140 ≠ pbn) ∧ (dlx ≠ dln ∧ lf ≠ dln ∧ pbn ≠ dln) ∧ (dlx ≠ lfn ∧ lf ≠ lfn ∧ pbn ≠ lfn) ∧ dln ≠ lfn ∧ 140 ≠ dln ∧ 140 ≠ lfn := by
  have a := List.nodup_cons.mp h
  have b := List.nodup_cons.mp a.2
  have c := List.nodup_cons.mp b.2
  have d := List.nodup_cons.mp c.2
  have e := List.nodup_cons.mp d.2
  have f := List.nodup_cons.mp e.2
  have g := List.nodup_cons.mp f.2
  refine ⟨⟨ne_nm a.1 ?_, ne_nm b.1 ?_, ne_nm c.1 ?_, Ne.symm (ne_nm d.1 ?_), Ne.symm (ne_nm d.1 ?_), Ne.symm (ne_nm d.1 ?_), Ne.symm (ne_nm d.1 ?_)⟩,
    ⟨ne_nm a.1 ?_, ne_nm b.1 ?_, ne_nm c.1 ?_, Ne.symm (ne_nm e.1 ?_), Ne.symm (ne_nm e.1 ?_), Ne.symm (ne_nm e.1 ?_)⟩,
    ⟨ne_nm a.1 ?_, ne_nm a.1 ?_, ne_nm b.1 ?_⟩, ⟨Ne.symm (ne_nm a.1 ?_), Ne.symm (ne_nm b.1 ?_), Ne.symm (ne_nm c.1 ?_)⟩, ⟨ne_nm a.1 ?_, ne_nm b.1 ?_, ne_nm c.1 ?_⟩, ⟨ne_nm a.1 ?_, ne_nm b.1 ?_, ne_nm c.1 ?_⟩, ne_nm g.1 ?_, ne_nm f.1 ?_, ne_nm f.1 ?_⟩
  all_goals (repeat (first | exact .head _ | assumption | exact List.mem_append_left _ (by assumption) | exact List.mem_append_left _ (List.mem_append_left _ (by assumption)) | exact List.mem_append_left _ (List.mem_append_right _ (by assumption)) | refine .tail _ ?_ | refine List.mem_append_right _ ?_))
/-- a fact put aside -/
structure Keep (P : Prop) : Prop where
  h : P
theorem off_lts {E T : Led} {I : Addr} {as : List Addr} {o1 : Obj} (h : ∀ b ∈ as, b < I) (hE : E.map (·.1) = as) (hT : OwnOff T [I]) : ∀ p ∈ E ++ T, ∀ q ∈ [(I, o1)], p.1 ≠ q.1 := fun p hp q hq => by
  rw [List.mem_singleton.mp hq]
  exact (List.mem_append.mp hp).elim (fun hp => Nat.ne_of_lt (h _ (hE ▸ List.mem_map_of_mem (f := Prod.fst) hp))) fun hp => hT p hp I (.head _)
theorem day_off {x1 x2 x3 x4 x5 x6 x7 x8 : Addr × Obj} {T : Led} {I : Addr} {o1 : Obj} (h : ∀ b ∈ [x1.1, x2.1, x3.1, x4.1, x5.1, x6.1, x7.1, x8.1], b < I) (hT : OwnOff T [I]) :
   ∀ p ∈ x1 :: x2 :: x3 :: x4 :: x5 :: x6 :: x7 :: x8 :: T, ∀ q ∈ [(I, o1)], p.1 ≠ q.1 := off_lts (E := [x1, x2, x3, x4, x5, x6, x7, x8]) h rfl hT
theorem day_sub {x1 x2 x3 x4 x5 x6 x7 x8 y : Addr × Obj} {T : Led} : ∀ p ∈ x1 :: x2 :: x3 :: x4 :: x5 :: x6 :: x7 :: x8 :: T, p ∈ x1 :: x2 :: x3 :: y :: x4 :: x5 :: x6 :: x7 :: x8 :: T := by
  (repeat' (first | exact List.forall_mem_nil _ | refine List.forall_mem_cons.mpr ⟨?_, ?_⟩ | refine List.forall_mem_append.mpr ⟨?_, ?_⟩)); all_goals ((try intro p9 hp9); (repeat (first | exact .head _ | assumption | exact List.mem_append_left _ (by assumption) | exact List.mem_append_left _ (List.mem_append_left _ (by assumption)) | exact List.mem_append_left _ (List.mem_append_right _ (by assumption)) | refine .tail _ ?_ | refine List.mem_append_right _ ?_)))
theorem news_out {x a b c : Addr × Obj} {T : Led} : ∀ p ∈ [x], p ∈ a :: b :: c :: x :: T := fun p hp => by rw [List.mem_singleton.mp hp]; simp
theorem day_sub3 {a b c y : Addr × Obj} {T : Led} : ∀ p ∈ a :: b :: c :: T, p ∈ a :: b :: c :: y :: T := by
  (repeat' (first | exact List.forall_mem_nil _ | refine List.forall_mem_cons.mpr ⟨?_, ?_⟩ | refine List.forall_mem_append.mpr ⟨?_, ?_⟩)); all_goals ((try intro p9 hp9); (repeat (first | exact .head _ | assumption | exact List.mem_append_left _ (by assumption) | exact List.mem_append_left _ (List.mem_append_left _ (by assumption)) | exact List.mem_append_left _ (List.mem_append_right _ (by assumption)) | refine .tail _ ?_ | refine List.mem_append_right _ ?_)))
theorem day_off3 {a b c : Addr × Obj} {T : Led} {I : Addr} {o1 : Obj} (h1 : a.1 < I) (h2 : b.1 < I) (h3 : c.1 < I) (h4 : ∀ p ∈ T, p.1 < I) : ∀ p ∈ a :: b :: c :: T, ∀ q ∈ [(I, o1)], p.1 ≠ q.1 := by
  intro p hp q hq
  rw [List.mem_singleton.mp hq]
  refine Nat.ne_of_lt ?_
  simp only [List.mem_cons] at hp
  rcases hp with rfl | rfl | rfl | hp
  · exact h1
  · exact h2
  · exact h3
  · exact h4 p hp
theorem DayR.cons {w : World} {TT : Led} {lx dlx lf pb st ln dln pbn stn : Addr} {p : Addr × Obj} (R : DayR w TT lx dlx lf pb st ln dln pbn stn) (h1 : dlx < p.1) (h2 : lf < p.1) (h3 : pbn < p.1) : DayR w (p :: TT) lx dlx lf pb st ln dln pbn stn := by
  obtain ⟨⟨dst, f, c', cell, a⟩, b, ⟨t, t3, k1, k2, k3, k4, c⟩, ⟨kp, g⟩, h, n⟩ := R
  refine ⟨⟨dst, f, c', cell, a.sub fun q hq => .tail _ hq⟩, .tail _ b, ⟨t, t3, k1, k2, k3, k4, .tail _ c⟩, ⟨kp, .tail _ g⟩, ownOff_cons h fun b hb => ?_, n⟩
  simp only [List.mem_cons, List.not_mem_nil, or_false] at hb
  rcases hb with rfl | rfl | rfl
  · exact Nat.ne_of_gt h1
  · exact Nat.ne_of_gt h2
  · exact Nat.ne_of_gt h3
theorem rot_end {α : Type} (qs : List α) (f n : Nat) (hf : f < qs.length) (hn : n = qs.length - (f + 1)) : (qs.drop (f + 1) ++ qs.take f).drop n ++ (qs.drop (f + 1) ++ qs.take f).take n = qs.eraseIdx f := by
  have e : (qs.drop (f + 1)).length = n := by simp [hn]
  rw [List.drop_left' e, List.take_left' e, List.eraseIdx_eq_take_drop_succ]
theorem map_erase {α β : Type} (g : α → β) (l : List α) (f : Nat) : (l.eraseIdx f).map g = (l.map g).eraseIdx f := by
  rw [List.eraseIdx_eq_take_drop_succ, List.eraseIdx_eq_take_drop_succ, List.map_append, List.map_take, List.map_drop]
theorem addrOf_len {st : List (Option Nat)} (h : ∀ (i f : Nat), st[i]? = some (some f) → f < 5) : ∀ i, i ≤ st.length → (addrOf (st.take i)).length ≤ 1 + 10 * i
  | 0, _ => by show (Str.ofString "x").length ≤ _; decide
  | i + 1, hi => by
    have ih := addrOf_len h i (by omega)
    have hg : st[i]? = some st[i] := List.getElem?_eq_getElem (by omega)
    rw [addrOf_take st i _ hg]
    cases ho : st[i] with
    | none => show (addrOf (st.take i)).length ≤ _; omega
    | some f =>
      have h2 := (allW_len1 _ (dot_allW (h i f (by rw [hg, ho])))).2
      have e : (addrOf (st.take i) ++ dotW f).length = (addrOf (st.take i)).length + (dotW f).length := by
        unfold Str.length
        rw [Str.cps_append, Array.size_append]
      show (addrOf (st.take i) ++ dotW f).length ≤ _
      omega
theorem good_five {nms : List Str} {st : List (Option Nat)} (hg : Good 0 0 st) (i f : Nat) (h : st[i]? = some (some f)) : f < 5 := by
  have hi := (List.getElem?_eq_some_iff.mp h).1
  have a := (good_run nms st 0 0 0 ⟨[], [], 0⟩ hg rfl rfl i hi _ h).1 f rfl
  have b := good_bound nms st 0 0 0 ⟨[], [], 0⟩ hg rfl rfl (Nat.le_refl _) (Nat.zero_le _) i (by omega)
  omega
theorem words_allW {nms : List Str} {st : List (Option Nat)} (hnm : ∀ x ∈ nms, x ∈ names0) (hnl : nms.length = 5) (hg : Good 0 0 st) : ∀ x ∈ wordsOf nms 0 st, x ∈ allW := by
  intro x hx
  obtain ⟨i, hi, rfl⟩ := List.getElem_of_mem hx
  have hl : i < st.length := by rw [← wordsOf_length nms st 0]; exact hi
  have h := wordsOf_get nms st 0 i st[i] (List.getElem?_eq_getElem hl)
  have e := Option.some.inj ((List.getElem?_eq_getElem hi).symm.trans h)
  rw [e]
  have a := good_run nms st 0 0 0 ⟨[], [], 0⟩ hg rfl rfl i hl _ (List.getElem?_eq_getElem hl)
  cases ho : st[i] with
  | none =>
    have := a.2.1 ho
    have g3 := a.2.2
    exact name_allW (name_in hnm (by omega))
  | some f => exact dot_allW (good_five (nms := nms) hg i f (by rw [List.getElem?_eq_getElem hl, ho]))
theorem day_in {y x1 x2 x3 x4 x5 x6 x7 x8 z : Addr × Obj} {T : Led} : ∀ p ∈ x1 :: x2 :: x3 :: x4 :: x5 :: x6 :: x7 :: x8 :: z :: T, p ∈ z :: x1 :: x2 :: x3 :: y :: x4 :: x5 :: x6 :: x7 :: x8 :: T := by
  (repeat' (first | exact List.forall_mem_nil _ | refine List.forall_mem_cons.mpr ⟨?_, ?_⟩ | refine List.forall_mem_append.mpr ⟨?_, ?_⟩)); all_goals ((try intro p9 hp9); (repeat (first | exact .head _ | assumption | exact List.mem_append_left _ (by assumption) | exact List.mem_append_left _ (List.mem_append_left _ (by assumption)) | exact List.mem_append_left _ (List.mem_append_right _ (by assumption)) | refine .tail _ ?_ | refine List.mem_append_right _ ?_)))
theorem cons_app {x : Addr × Obj} {T Z T0 : Led} (h : T = Z ++ T0) : x :: T = (x :: Z) ++ T0 := by rw [h]; rfl
theorem day_last {w : World} {T : Led} {ln dln lfn pbn st dst f c' cell : Addr} (R : LexR w T ln dln lfn pbn st dst f c' cell) (hT : OwnOff T [dln, lfn]) (hn : dln ≠ lfn) (p1 p2 p4 p5 p6 : Addr × Obj) (kq : Nat) (hE : OwnOff [p1, p2, (pbn, listOf #[] kq), p4, p5, p6] [dln, lfn])
   (t t3 k1 k2 k3 k4 : Tok) (k : Nat) :
   TellC w 1 105 [.ref ln] (p1 :: p2 :: (pbn, listOf #[] kq) :: p4 :: p5 :: p6 :: (dln, lexD w 1 t t3 k1 k2 k3 k4 (.ref st) (.ref pbn)) :: (lfn, listOf #[] k) :: T) fun v nn => ∃ t' ts k', v = .str (Str.ofString "") ts ∧
     nn = (p1 :: p2 :: (pbn, listOf #[] kq) :: p4 :: p5 :: p6 :: (dln, lexD w 1 t' t3 k1 k2 k3 k4 (.ref st) (.ref pbn)) :: (lfn, listOf #[] k') :: T) := by
  have h := gt_read w ([p1, p2, (pbn, listOf #[] kq), p4, p5, p6] ++ T) ln dln lfn pbn st dst f c' cell (R.sub fun p hp => List.mem_append_right _ hp) (fun p hp => (List.mem_append.mp hp).elim (hE p) (hT p)) hn 1 t t3 k1 k2 k3 k4 kq (.tail _ (.tail _ (.head _))) [] [] k .nil (Nat.zero_le _)
  refine TellC.perm h ?_ fun v nn P => ?_
  · simp only [List.cons_append, List.nil_append]
    (repeat' (first | exact List.forall_mem_nil _ | refine List.forall_mem_cons.mpr ⟨?_, ?_⟩ | refine List.forall_mem_append.mpr ⟨?_, ?_⟩)); all_goals ((try intro p9 hp9); (repeat (first | exact .head _ | assumption | exact List.mem_append_left _ (by assumption) | exact List.mem_append_left _ (List.mem_append_left _ (by assumption)) | exact List.mem_append_left _ (List.mem_append_right _ (by assumption)) | refine .tail _ ?_ | refine List.mem_append_right _ ?_)))
  · obtain ⟨t', ts, vs', k', e1, e2, e3⟩ := P
    have e4 : vs' = [] := List.length_eq_zero_iff.mp e3.length
    subst e4
    refine ⟨_, ?_, t', ts, k', ?_, rfl⟩
    · rw [e2]
      show ∀ p ∈ _, p ∈ (dln, lexD w 1 t' t3 k1 k2 k3 k4 (.ref st) (.ref pbn)) :: (lfn, listOf #[] k') :: p1 :: p2 :: (pbn, listOf #[] kq) :: p4 :: p5 :: p6 :: T
      (repeat' (first | exact List.forall_mem_nil _ | refine List.forall_mem_cons.mpr ⟨?_, ?_⟩ | refine List.forall_mem_append.mpr ⟨?_, ?_⟩)); all_goals ((try intro p9 hp9); (repeat (first | exact .head _ | assumption | exact List.mem_append_left _ (by assumption) | exact List.mem_append_left _ (List.mem_append_left _ (by assumption)) | exact List.mem_append_left _ (List.mem_append_right _ (by assumption)) | refine .tail _ ?_ | refine List.mem_append_right _ ?_)))
    · rw [e1]
      have : Str.ofString "" = (⟨#[]⟩ : Str) := by decide +kernel
      rw [this]; rfl
theorem day_E {dlx lf pbn d S dln lfn : Addr} {oa ob oc od oe oj : Obj} (h : [dlx, lf, pbn, d, S, 140, dln, lfn].Nodup) : OwnOff [(dlx, oa), (lf, ob), (pbn, oc), (d, od), (S, oe), (140, oj)] [dln, lfn] :=
  off_parts (as := [dlx, lf, pbn, d, S, 140]) h rfl
/-- what a day gives back -/
inductive DayPost (TT : Led) (oIn : Obj) (nms : List Str) (st : List (Option Nat)) (cs : List Nat) (v : Value) (n : Led) : Prop
  | mk (o' : Obj) (tp S RL : Addr) (vst : List Value) (kst kr : Nat) (ta t1 t2 t3 : Tok) (new : Led) (hv : v = .ref tp) (hn : n = (140, o') :: (new ++ TT)) (ht : TabOk o' (new ++ TT)) (ho : OwnOff (new ++ TT) [140]) (hl : ∀ p ∈ TT, ∀ q ∈ new, p.1 < q.1)
    (h1 : (tp, tupO [.ref S, .str (addrOf st) ta, .ref RL]) ∈ new) (h2 : (S, listOf (List.toArray vst) kst) ∈ new) (h3 : StaysAre (new ++ TT) vst (pOf nms st).stays) (h4 : (RL, listOf #[.str (Str.ofString "") t1, .str (Str.ofString "") t2, .int (1 + nls cs) t3] kr) ∈ new) (h5 : ∀ X : Led, TabOk oIn X → TabOk o' (new ++ X)) : DayPost TT oIn nms st cs v n
theorem day_E3 {dlx lf pbn d S dln lfn : Addr} {od oe oj o1 o2 : Obj} (h : [dlx, lf, pbn, d, S, 140, dln, lfn].Nodup) : OwnOff [(d, od), (S, oe), (140, oj), (dln, o1), (lfn, o2)] [dlx, lf, pbn] :=
  off_partsR (as := [d, S, 140, dln, lfn]) h rfl
theorem day_out {h₀ h : Heap} {L : Addr} {x1 x2 a b c d e j f g : Addr × Obj} {Z Y TT T T0 : Led} (N : News h₀ L h (x1 :: x2 :: a :: b :: c :: d :: e :: j :: f :: g :: T)) (hT : T = Z ++ T0) (hT0 : T0 = Y ++ TT) :
   News h₀ L h (j :: ((x1 :: x2 :: a :: b :: c :: d :: e :: f :: g :: (Z ++ Y)) ++ TT)) := by
  subst hT hT0
  refine news_sub N ?_
  (repeat' (first | exact List.forall_mem_nil _ | refine List.forall_mem_cons.mpr ⟨?_, ?_⟩ | refine List.forall_mem_append.mpr ⟨?_, ?_⟩)); all_goals ((try intro p9 hp9); (repeat (first | exact .head _ | assumption | exact List.mem_append_left _ (by assumption) | exact List.mem_append_left _ (List.mem_append_left _ (by assumption)) | exact List.mem_append_left _ (List.mem_append_right _ (by assumption)) | refine .tail _ ?_ | refine List.mem_append_right _ ?_)))
theorem day_fin {x1 x2 a b c d e f g : Addr × Obj} {Z Y TT T T0 : Led} (hT : T = Z ++ T0) (hT0 : T0 = Y ++ TT) :
   (∀ p ∈ T, p ∈ (x1 :: x2 :: a :: b :: c :: d :: e :: f :: g :: (Z ++ Y)) ++ TT) ∧ (∀ p ∈ T0, p ∈ (x1 :: x2 :: a :: b :: c :: d :: e :: f :: g :: (Z ++ Y)) ++ TT) ∧ (OwnOff T [140] → OwnOff [x1, x2, a, b, c, d, e, f, g] [140] → OwnOff ((x1 :: x2 :: a :: b :: c :: d :: e :: f :: g :: (Z ++ Y)) ++ TT) [140]) ∧
   ((∀ p ∈ TT, ∀ q ∈ Y, p.1 < q.1) → (∀ p ∈ TT, ∀ q ∈ Z, p.1 < q.1) → (∀ p ∈ TT, ∀ q ∈ [x1, x2, a, b, c, d, e, f, g], p.1 < q.1) → ∀ p ∈ TT, ∀ q ∈ x1 :: x2 :: a :: b :: c :: d :: e :: f :: g :: (Z ++ Y), p.1 < q.1) := by
  subst hT hT0
  refine ⟨?_, ?_, fun h1 h2 => ?_, fun h1 h2 h3 p hp => ?_⟩
  · (repeat' (first | exact List.forall_mem_nil _ | refine List.forall_mem_cons.mpr ⟨?_, ?_⟩ | refine List.forall_mem_append.mpr ⟨?_, ?_⟩)); all_goals ((try intro p9 hp9); (repeat (first | exact .head _ | assumption | exact List.mem_append_left _ (by assumption) | exact List.mem_append_left _ (List.mem_append_left _ (by assumption)) | exact List.mem_append_left _ (List.mem_append_right _ (by assumption)) | refine .tail _ ?_ | refine List.mem_append_right _ ?_)))
  · (repeat' (first | exact List.forall_mem_nil _ | refine List.forall_mem_cons.mpr ⟨?_, ?_⟩ | refine List.forall_mem_append.mpr ⟨?_, ?_⟩)); all_goals ((try intro p9 hp9); (repeat (first | exact .head _ | assumption | exact List.mem_append_left _ (by assumption) | exact List.mem_append_left _ (List.mem_append_left _ (by assumption)) | exact List.mem_append_left _ (List.mem_append_right _ (by assumption)) | refine .tail _ ?_ | refine List.mem_append_right _ ?_)))
  · refine fun p hp => ((?_ : ∀ p ∈ (x1 :: x2 :: a :: b :: c :: d :: e :: f :: g :: (Z ++ Y)) ++ TT, p ∈ [x1, x2, a, b, c, d, e, f, g] ++ (Z ++ (Y ++ TT))) p hp |> List.mem_append.mp).elim (h2 p) (h1 p)
    rw [List.cons_append, List.cons_append, List.cons_append, List.cons_append, List.cons_append, List.cons_append, List.cons_append, List.cons_append, List.cons_append]
    (repeat' (first | exact List.forall_mem_nil _ | refine List.forall_mem_cons.mpr ⟨?_, ?_⟩ | refine List.forall_mem_append.mpr ⟨?_, ?_⟩)); all_goals ((try intro p9 hp9); (repeat (first | exact .head _ | assumption | exact List.mem_append_left _ (by assumption) | exact List.mem_append_left _ (List.mem_append_left _ (by assumption)) | exact List.mem_append_left _ (List.mem_append_right _ (by assumption)) | refine .tail _ ?_ | refine List.mem_append_right _ ?_)))
  · exact fun q hq => (List.mem_append.mp (show q ∈ [x1, x2, a, b, c, d, e, f, g] ++ (Z ++ Y) from hq)).elim (h3 p hp q) fun hq => (List.mem_append.mp hq).elim (h2 p hp q) (h1 p hp q)
theorem day_offA {D RL dlx lf pbn d S dln lfn : Addr} {o1 o2 o3 o4 o5 o6 o7 o8 o9 : Obj} (h : [dlx, lf, pbn, d, S, 140, dln, lfn].Nodup) (hD : 140 < D) (hR : 140 < RL) : OwnOff [(D, o1), (RL, o2), (dlx, o3), (lf, o4), (pbn, o5), (d, o6), (S, o7), (dln, o8), (lfn, o9)] [140] := by
  obtain ⟨_, _, _, ⟨z1, z2, z3⟩, _, _, _, z4, z5⟩ := nd_facts h
  obtain ⟨⟨_, _, _, _, y1, _⟩, ⟨_, _, _, y2, _⟩, _⟩ := nd_facts h
  have key : ∀ p ∈ [(D, o1), (RL, o2), (dlx, o3), (lf, o4), (pbn, o5), (d, o6), (S, o7), (dln, o8), (lfn, o9)], p.1 ≠ 140 :=
    List.forall_mem_cons.mpr ⟨Nat.ne_of_gt hD, List.forall_mem_cons.mpr ⟨Nat.ne_of_gt hR, List.forall_mem_cons.mpr ⟨Ne.symm z1, List.forall_mem_cons.mpr ⟨Ne.symm z2, List.forall_mem_cons.mpr ⟨Ne.symm z3, List.forall_mem_cons.mpr ⟨Ne.symm y1, List.forall_mem_cons.mpr ⟨Ne.symm y2, List.forall_mem_cons.mpr ⟨Ne.symm z4, List.forall_mem_cons.mpr ⟨Ne.symm z5, List.forall_mem_nil _⟩⟩⟩⟩⟩⟩⟩⟩⟩
  exact fun p hp b hb => (List.mem_singleton.mp hb) ▸ key p hp
theorem day_ordA {TT : Led} {D RL dlx lf pbn d S dln lfn : Addr} {o1 o2 o3 o4 o5 o6 o7 o8 o9 : Obj} (h1 : ∀ p ∈ TT, p.1 < dlx ∧ p.1 < lf) (h2 : ∀ p ∈ TT, p.1 < dln ∧ p.1 < lfn ∧ p.1 < pbn) (hd : dln < d) (hS : ∀ p ∈ TT, Nat.lt p.1 S) (hR : S < RL) (hD : S < D) :
    ∀ p ∈ TT, ∀ q ∈ [(D, o1), (RL, o2), (dlx, o3), (lf, o4), (pbn, o5), (d, o6), (S, o7), (dln, o8), (lfn, o9)], p.1 < q.1 := by
  intro p hp q hq
  obtain ⟨a1, a2⟩ := h1 p hp
  obtain ⟨b1, b2, b3⟩ := h2 p hp
  have c := hS p hp
  simp only [List.mem_cons, List.not_mem_nil, or_false] at hq
  rcases hq with rfl | rfl | rfl | rfl | rfl | rfl | rfl | rfl | rfl
  · exact Nat.lt_trans c hD
  · exact Nat.lt_trans c hR
  · exact a1
  · exact a2
  · exact b3
  · exact Nat.lt_trans b1 hd
  · exact c
  · exact b1
  · exact b2
theorem day_end {h₀ h : Heap} {L : Addr} {Z Y TT T T0 : Led} {D RL dlx lf pbn d S dln lfn : Addr} {o1 o2 o3 o4 o5 o6 o7 oj o8 o9 : Obj} (N : News h₀ L h ((D, o1) :: (RL, o2) :: (dlx, o3) :: (lf, o4) :: (pbn, o5) :: (d, o6) :: (S, o7) :: (140, oj) :: (dln, o8) :: (lfn, o9) :: T)) (hT : T = Z ++ T0) (hT0 : T0 = Y ++ TT)
   (hn : [dlx, lf, pbn, d, S, 140, dln, lfn].Nodup) (hoT : OwnOff T [dlx, lf, pbn, d, S, 140, dln, lfn]) (hD : 140 < D) (hR : 140 < RL) (hYl : ∀ p ∈ TT, ∀ q ∈ Y, p.1 < q.1) (hZ : ∀ p ∈ TT, ∀ q ∈ Z, p.1 < q.1)
   (h1 : ∀ p ∈ TT, p.1 < dlx ∧ p.1 < lf) (h2 : ∀ p ∈ TT, p.1 < dln ∧ p.1 < lfn ∧ p.1 < pbn) (hd : dln < d) (hS : ∀ p ∈ TT, Nat.lt p.1 S) (hRS : S < RL) (hDS : S < D) :
   ∃ new, new = (D, o1) :: (RL, o2) :: (dlx, o3) :: (lf, o4) :: (pbn, o5) :: (d, o6) :: (S, o7) :: (dln, o8) :: (lfn, o9) :: (Z ++ Y) ∧ News h₀ L h ((140, oj) :: (new ++ TT)) ∧ (∀ p ∈ T, p ∈ new ++ TT) ∧ (∀ p ∈ T0, p ∈ new ++ TT) ∧ OwnOff (new ++ TT) [140] ∧ ∀ p ∈ TT, ∀ q ∈ new, p.1 < q.1 := by
  obtain ⟨q1, q2, q3, q4⟩ := day_fin (x1 := (D, o1)) (x2 := (RL, o2)) (a := (dlx, o3)) (b := (lf, o4)) (c := (pbn, o5)) (d := (d, o6)) (e := (S, o7)) (f := (dln, o8)) (g := (lfn, o9)) hT hT0
  exact ⟨_, rfl, day_out N hT hT0, q1, q2, q3 (OwnOff.mono hoT (by simp)) (day_offA hn hD hR), q4 hYl hZ (day_ordA h1 h2 hd hS hRS hDS)⟩
theorem mem_new {new l : Led} {p : Addr × Obj} (h : new = l) (hp : p ∈ l) : p ∈ new := h ▸ hp
end Mine
namespace Mine
/-- an address, its last figure first -/
def adX : List Nat → Str
  | [] => Str.ofString "x"
  | f :: r => adX r ++ dotW f
def figs (st : List (Option Nat)) : List Nat := st.filterMap id
theorem addr_fold : ∀ (st : List (Option Nat)) (a : List Nat), st.foldl addrStep (adX a) = adX ((figs st).reverse ++ a)
  | [], a => rfl
  | none :: r, a => by simp only [List.foldl_cons, addrStep, figs, List.filterMap_cons, id]; exact addr_fold r a
  | some f :: r, a => by
    have := addr_fold r (f :: a)
    simp only [List.foldl_cons, addrStep, figs, List.filterMap_cons, id, List.reverse_cons, List.append_assoc, List.singleton_append] at this ⊢
    exact this
theorem addrOf_adX (st : List (Option Nat)) : addrOf st = adX (figs st).reverse := by
  have := addr_fold st []
  rw [List.append_nil] at this
  exact this
theorem dotW_five : ∀ f ∈ [0, 1, 2, 3, 4], (dotW f).cps.toList = [46, 48 + f] := by decide +kernel
theorem str_toList (x y : Str) : (x ++ y).cps.toList = x.cps.toList ++ y.cps.toList := by rw [Str.cps_append, Array.toList_append]
theorem str_ext {x y : Str} (h : x.cps.toList = y.cps.toList) : x = y := by
  cases x with | mk a => cases y with | mk b => exact congrArg Str.mk (Array.toList_inj.mp h)
theorem adX_cons {f : Nat} {r : List Nat} (h : f < 5) : (adX (f :: r)).cps.toList = (adX r).cps.toList ++ [46, 48 + f] := by
  show (adX r ++ dotW f).cps.toList = _
  rw [str_toList, dotW_five f (five h)]
theorem adX_len : ∀ (r : List Nat), (∀ f ∈ r, f < 5) → (adX r).cps.toList.length = 1 + 2 * r.length
  | [], _ => by decide +kernel
  | f :: r, h => by
    rw [adX_cons (h f (.head _)), List.length_append, adX_len r fun g hg => h g (.tail _ hg)]
    simp only [List.length_cons, List.length_nil]; omega
theorem x_list : (Str.ofString "x").cps.toList = [120] := by decide +kernel
def AdAt (s c : Nat) : Prop := c ≠ 10 ∧ (s % 2 = 1 → c = 46) ∧ (s % 2 = 0 → c ≠ 46 ∧ (1 ≤ s → PySem.Sre.isDigit c = true))
theorem adX_at : ∀ (r : List Nat), (∀ f ∈ r, f < 5) → ∀ s, s < 1 + 2 * r.length → ∃ c, (adX r).cps.toList[s]? = some c ∧ AdAt s c
  | [], _, s, hs => by
    have : s = 0 := by simpa using hs
    subst this
    exact ⟨120, by show (Str.ofString "x").cps.toList[0]? = _; rw [x_list]; rfl, by unfold AdAt; simp⟩
  | f :: r, h, s, hs => by
    have hf := h f (.head _)
    have hr := fun g hg => h g (.tail _ hg)
    have hl := adX_len r hr
    rw [adX_cons hf]
    simp only [List.length_cons] at hs
    rcases Nat.lt_or_ge s (1 + 2 * r.length) with q | q
    · rw [List.getElem?_append_left (by omega)]
      exact adX_at r hr s q
    · rw [List.getElem?_append_right (by omega), hl]
      have : s = 1 + 2 * r.length ∨ s = 2 + 2 * r.length := by omega
      rcases this with rfl | rfl
      · exact ⟨46, by simp, by unfold AdAt; refine ⟨by omega, fun _ => rfl, fun e => by omega⟩⟩
      · refine ⟨48 + f, by rw [show 2 + 2 * r.length - (1 + 2 * r.length) = 1 by omega]; rfl, ?_⟩
        unfold AdAt
        refine ⟨by omega, fun e => by omega, fun _ => ⟨by omega, fun _ => ?_⟩⟩
        simp [PySem.Sre.isDigit]; omega
theorem adX_no10 (r : List Nat) (h : ∀ f ∈ r, f < 5) : 10 ∉ (adX r).cps.toList := by
  intro hm
  obtain ⟨s, hs, e⟩ := List.getElem_of_mem hm
  rw [adX_len r h] at hs
  obtain ⟨c, h1, h2⟩ := adX_at r h s hs
  have := (List.getElem?_eq_getElem (by rw [adX_len r h]; exact hs)).symm.trans h1
  rw [e] at this
  cases this
  exact h2.1 rfl
theorem getD_list (t : Array Nat) (s : Nat) : t.getD s 0 = t.toList[s]?.getD 0 := by
  rw [Array.getD_eq_getD_getElem?, Array.getElem?_toList]
theorem sre_adr (f : Nat) (r : List Nat) (h : ∀ g ∈ f :: r, g < 5) (text : Array Nat) (e : List Nat) (ht : text.toList = (adX (f :: r)).cps.toList ++ e) (he : e = [] ∨ e = [10]) :
    SreIs text (some (1 + 2 * r.length, 1 + 2 * r.length + 2)) := by
  have hl := adX_len (f :: r) h
  simp only [List.length_cons] at hl
  have hz : text.size = 3 + 2 * r.length + e.length := by rw [← Array.length_toList, ht, List.length_append, hl]; omega
  have key : ∀ s, s < 3 + 2 * r.length → AdAt s (text.getD s 0) := by
    intro s hs
    obtain ⟨c, h1, h2⟩ := adX_at (f :: r) h s (by simp only [List.length_cons]; omega)
    rw [getD_list, ht, List.getElem?_append_left (by rw [hl]; omega), h1]
    exact h2
  have hend : ∀ p, p + 1 < text.size → atEnd text p = false := by
    intro p hp
    unfold atEnd
    rw [decide_eq_false (by omega), decide_eq_false (by omega)]; rfl
  refine sre_some text _ (by omega) (fun s hs => ?_) ?_
  · have k0 := key s (by omega)
    by_cases q : s % 2 = 1
    · right
      have k1 := key (s + 1) (by omega)
      have k2 := key (s + 2) (by omega)
      refine ⟨k0.2.1 q, by omega, (k1.2.2 (by omega)).2 (by omega), ?_, hend _ (by omega)⟩
      rw [k2.2.1 (by omega)]; rfl
    · left
      exact (k0.2.2 (by omega)).1
  · have k0 := key (1 + 2 * r.length) (by omega)
    have k1 := key (1 + 2 * r.length + 1) (by omega)
    refine ⟨k0.2.1 (by omega), by omega, (k1.2.2 (by omega)).2 (by omega), ?_, ?_⟩
    · rcases he with rfl | rfl
      · left; simp at hz; omega
      · right
        rw [getD_list, ht, List.getElem?_append_right (by omega), hl, show 1 + 2 * r.length + 2 - (1 + 2 * (r.length + 1)) = 0 by omega]
        rfl
    · unfold atEnd
      rcases he with rfl | rfl
      · rw [decide_eq_true (by simp at hz; omega)]; rfl
      · rw [decide_eq_true (show 1 + 2 * r.length + 2 + 1 = text.size by simp at hz; omega), getD_list, ht, List.getElem?_append_right (by omega), hl, show 1 + 2 * r.length + 2 - (1 + 2 * (r.length + 1)) = 0 by omega]
        simp
theorem sre_x : SreIs (Str.ofString "x" ++ Str.ofString "\n").cps none := sre_none _ (by decide +kernel) (by unfold NoAt; decide +kernel)
theorem slice_to (x : Str) (p : Nat) (h : p ≤ x.cps.toList.length) : (PySem.Txt.slice x none (some (p : Int))).cps.toList = x.cps.toList.take p := by
  have := PySem.StrLaws.sliceText_to (x := x) (j := (p : Int)) ⟨by omega, by omega⟩
  rw [show PySem.Txt.slice x none (some (p : Int)) = PySem.StrLaws.sliceText x none (some (p : Int)) from rfl, this]
  simp
theorem slice_from (x : Str) (p : Nat) (h : p ≤ x.cps.toList.length) : (PySem.Txt.slice x (some (p : Int)) none).cps.toList = x.cps.toList.drop p := by
  have := PySem.StrLaws.sliceText_from (x := x) (i := (p : Int)) ⟨by omega, by omega⟩
  rw [show PySem.Txt.slice x (some (p : Int)) none = PySem.StrLaws.sliceText x (some (p : Int)) none from rfl, this]
  show ((x.cps.toList.drop ((p : Int)).toNat).take _).toArray.toList = _
  rw [List.take_of_length_le (by rw [List.length_drop]; omega)]
  simp
theorem unm_adr (f : Nat) (r : List Nat) (h : ∀ g ∈ f :: r, g < 5) (e : Str) :
    PySem.Txt.slice (adX (f :: r) ++ e) none (some ((1 + 2 * r.length : Nat) : Int)) ++ PySem.Txt.slice (adX (f :: r) ++ e) (some ((1 + 2 * r.length + 2 : Nat) : Int)) none = adX r ++ e := by
  have hf := h f (.head _)
  have hl := adX_len r fun g hg => h g (.tail _ hg)
  have hx : (adX (f :: r) ++ e).cps.toList = (adX r).cps.toList ++ ([46, 48 + f] ++ e.cps.toList) := by rw [str_toList, adX_cons hf, List.append_assoc]
  refine str_ext ?_
  have hxl : (adX (f :: r) ++ e).cps.toList.length = 1 + 2 * r.length + (2 + e.cps.toList.length) := by rw [hx, List.length_append, hl]; simp only [List.length_append, List.length_cons, List.length_nil]
  rw [str_toList, slice_to _ _ (by rw [hxl]; omega), slice_from _ _ (by rw [hxl]; omega), hx, str_toList]
  rw [List.take_left' hl, ← hl, List.drop_append]
  simp
theorem join_cut (c : Nat) (b : List Nat) (hb : c ∉ b) (z : Str) : ∀ ps : List Str, (∀ p ∈ ps, c ∉ p.cps.toList) → (Str.join ⟨#[c]⟩ ps).cps.toList = b ++ [c] → (Str.join z ps).cps.toList = b ++ z.cps.toList
  | [], _, h => by
    have : ([] : List Nat) = b ++ [c] := h
    simp at this
  | [p], hp, h => by
    have e : p.cps.toList = b ++ [c] := h
    exact absurd (by rw [e]; simp) (hp p (.head _))
  | p :: q :: r, hp, h => by
    have e : (p ++ ⟨#[c]⟩ ++ Str.join ⟨#[c]⟩ (q :: r)).cps.toList = b ++ [c] := h
    rw [str_toList, str_toList] at e
    have e' : p.cps.toList ++ (c :: (Str.join ⟨#[c]⟩ (q :: r)).cps.toList) = b ++ [c] := by rw [← e]; simp
    have h1 := hp p (.head _)
    have hpb : p.cps.toList = b := by
      rcases List.append_eq_append_iff.mp e' with ⟨a, ha, hb'⟩ | ⟨a, ha, hb'⟩
      · cases a with
        | nil => simpa using ha.symm
        | cons y t => 
          have := (List.cons.inj hb').1
          subst this
          exact absurd (by rw [ha]; simp) hb
      · cases a with
        | nil => simpa using ha
        | cons y t =>
          have := (List.cons.inj hb').1
          subst this
          exact absurd (by rw [ha]; simp) h1
    rw [hpb] at e'
    have e2 : (Str.join ⟨#[c]⟩ (q :: r)).cps.toList = [] := by simpa using e'
    cases r with
    | nil =>
      have e3 : q.cps.toList = [] := e2
      show (p ++ z ++ q).cps.toList = _
      rw [str_toList, str_toList, e3, hpb]; simp
    | cons q2 r =>
      have e3 : (q ++ ⟨#[c]⟩ ++ Str.join ⟨#[c]⟩ (q2 :: r)).cps.toList = [] := e2
      rw [str_toList, str_toList] at e3
      simp at e3
theorem repl_end (b z : Str) (hb : 10 ∉ b.cps.toList) : PySem.Txt.replace (b ++ Str.ofString "\n") (Str.ofString "\n") z = b ++ z := by
  have e : Str.ofString "\n" = (⟨#[10]⟩ : Str) := by decide +kernel
  rw [e, PySem.StrLaws.replace_one]
  refine str_ext ?_
  rw [str_toList]
  refine join_cut 10 _ hb z _ (PySem.StrLaws.split_free _ _) ?_
  rw [PySem.StrLaws.join_split, str_toList]
theorem str_assoc (x y z : Str) : x ++ y ++ z = x ++ (y ++ z) := str_ext (by simp [str_toList, List.append_assoc])
theorem count_nl (cs : List Nat) (x : Str) (h : x.cps.toList = cs) : PySem.Txt.count x (Str.ofString "\n") = nls cs := by
  have e : Str.ofString "\n" = (⟨#[10]⟩ : Str) := by decide +kernel
  rw [e, PyProof.Rows.count_cnt, h]
  unfold nls
  clear h
  induction cs with
  | nil => rfl
  | cons a r ih =>
    rw [cnt_cons, ih, List.count_cons]
    by_cases q : a = 10
    · subst q; simp; omega
    · rw [if_neg q]; simp [q]
theorem lit_nl : (Str.ofString "\n").length = 1 ∧ (Str.ofString ".").length = 1 := by decide +kernel
theorem ne_str_known {prog : Program} {w : World} {A : Around} {E : Value → Shared → Prop} {s : Shared} {x y : Str} {t u : Tok} {Q : Value → Shared → Prop} (e : x = y) (h : Q (.bool false) s) : wpAny (model prog w) A (compareOp .NotEq (.str x t) (.str y u)) Q E s := by
  subst e
  exact PyProof.Rows.ne_str (by rw [show (x != x) = false by simp]; exact h)
/-- the row of comings that back keeps -/
def backRow (ss : List Stay) (i : Nat) : List Int := (ss.reverse.take i).foldl (fun r x => insI r x.1) []
theorem backRow_succ (ss : List Stay) (i : Nat) (x : Stay) (h : ss.reverse[i]? = some x) : backRow ss (i + 1) = insI (backRow ss i) x.1 := by
  unfold backRow
  rw [List.take_add_one, h]; simp
theorem backRow_srt (ss : List Stay) (i : Nat) : (backRow ss i).Pairwise (· ≤ ·) := by
  have : ∀ (l : List Stay) (r : List Int), r.Pairwise (· ≤ ·) → (l.foldl (fun r x => insI r x.1) r).Pairwise (· ≤ ·) := by
    intro l
    induction l with
    | nil => intro r h; exact h
    | cons a l ih => intro r h; exact ih _ (insI_srt _ _ h)
  exact this _ _ .nil
theorem insI_perm (ns : List Int) (x : Int) : (insI ns x).Perm (x :: ns) := by
  unfold insI
  refine List.perm_middle.trans ?_
  rw [List.take_append_drop]
theorem backRow_perm (ss : List Stay) : ∀ i, (backRow ss i).Perm ((ss.reverse.take i).map (·.1)) := by
  have : ∀ (l : List Stay) (r : List Int), (l.foldl (fun r x => insI r x.1) r).Perm (l.map (·.1) ++ r) := by
    intro l
    induction l with
    | nil => intro r; exact .refl _
    | cons a l ih =>
      intro r
      refine (ih _).trans ?_
      refine ((insI_perm r a.1).append_left _).trans ?_
      exact List.perm_middle
  intro i
  have h := this (ss.reverse.take i) []
  rw [List.append_nil] at h
  exact h
theorem backRow_all (ss : List Stay) (h : ss.length = 5) (ns : List Int) (hp : ns.Perm (ss.map (·.1))) (hs : ns.Pairwise (· ≤ ·)) : backRow ss 5 = ns := by
  have h1 := backRow_perm ss 5
  rw [List.take_of_length_le (by rw [List.length_reverse, h]; decide), List.map_reverse] at h1
  have h2 : (backRow ss 5).Perm ns := (h1.trans (List.reverse_perm _)).trans hp.symm
  exact h2.eq_of_pairwise (fun a b _ _ h1 h2 => Int.le_antisymm h1 h2) (backRow_srt ss 5) hs
theorem backRow_len (ss : List Stay) (i : Nat) (h : i ≤ ss.length) : (backRow ss i).length = i := by
  rw [(backRow_perm ss i).length_eq, List.length_map, List.length_take, List.length_reverse]; omega
/-- the figures are told by the row -/
def BackOk (ss : List Stay) (fa fb : List Nat) : Prop :=
  ∀ i x, ss.reverse[i]? = some x → (backRow ss i).countP (· < x.1) = fa.getD i 0 ∧ (backRow ss i).countP (· ≤ x.2.1) = fa.getD i 0 + fb.getD i 0
theorem drop_get {fa : List Nat} {i : Nat} (h : i < fa.length) : fa.drop i = fa.getD i 0 :: fa.drop (i + 1) := by
  rw [List.drop_eq_getElem_cons h, List.getD_eq_getElem?_getD, List.getElem?_eq_getElem h]; rfl
theorem mem_getD {fa : List Nat} {i : Nat} (h : i < fa.length) : fa.getD i 0 ∈ fa := by
  rw [List.getD_eq_getElem?_getD, List.getElem?_eq_getElem h]; exact List.getElem_mem h
theorem adX_length {r : List Nat} (h : ∀ f ∈ r, f < 5) : (adX r).length = 1 + 2 * r.length := by rw [← adX_len r h]; rfl
theorem str_nil (x : Str) : x ++ Str.ofString "" = x := str_ext (by rw [str_toList, show (Str.ofString "").cps.toList = [] by decide +kernel, List.append_nil])
end Mine
namespace Mine
theorem bl_spec (w : World) (news : Led) (l : Addr) (vs : List Value) (ns : List Int) (k : Nat) (x : Int) (t : Tok)
   (hl : (l, listOf vs.toArray k) ∈ news) (hi : IntsAre vs ns) (hsz : ns.length < 1000) (hs : Srt ns) : Tell w 0 77 [.ref l, .int x t] news fun v news' => ∃ t, v = .int (ns.countP (· < x) : Nat) t ∧ news' = news := by
  w_top off; have hfill9 := (show top0.heap_39 = top0.heap_39 ∧ PySem.Challenge.rw_xe0021_01 = PySem.Challenge.rw_xe0021_01 by k_fill; exact ⟨rfl, rfl⟩); clear hfill9; k_with_none
  k_with "M9" => (k_here; (with_reducible show wpAny _ _ (call (Value.builtin "len") [Value.ref _]) _ _ _); k_dflt (refine' len_list ?k1q427 ?k2q427 ?_; (case k1q427 => exact News.isList (by k_asm) (by k_mem)); (case k2q427 => simp only [List.size_toArray]; omega); k_whole))
  have hln : vs.length = ns.length := hi.length
  intro nm ig ic mr gd cn a ccd cl outer A₀ base h₀ L m s Q E p loose mean mg mb B F X N T hret
  k_enter
  repeat' (first | (k_unfold; (try dsimp only)) | (k_end; wrow_close) | ((fail_if_success (with_reducible show wpAny _ _ (exec (Stmt.While _ _ _ _) _) _ _ _)); (fail_if_success (with_reducible show wpAny _ _ (exec (Stmt.For _ _ _ _ _) _) _ _ _)); (first | k_extra "M9" | walk1)) | (dsimp only; (first | k_extra "M9" | walk1)) | (leave1; walk_say "STEP leave1"; try dsimp only) | fail "no step")
  rename Fr _ _ _ _ => F1
  rename News _ _ _ _ => N1
  refine' while_st ["mid"] (fun (q : Int × Int × Tok × Tok) => [("lo", .int q.1 q.2.2.1), ("hi", .int q.2.1 q.2.2.2)])
    (fun q => 0 ≤ q.1 ∧ q.1 ≤ q.2.1 ∧ q.2.1 ≤ (ns.length : Int) ∧ (∀ i : Nat, (i : Int) < q.1 → ns.getD i 0 < x) ∧ (∀ i : Nat, q.2.1 ≤ (i : Int) → i < ns.length → ¬ ns.getD i 0 < x)) (fun q => (q.2.1 - q.1).toNat) (0, vs.length, _, _) F1 N1 (same_of ?sm fun _ _ _ => rfl) ?c1 ?c2
  case sm => (repeat (refine allAt_cons (by with_unfolding_all rfl) ?_)); exact allAt_nil
  case c1 => refine ⟨?_, ?_, ?_, ?_, ?_⟩ <;> dsimp only <;> omega
  case c2 =>
    rintro ⟨lo, hi, tl, th⟩ u h tk F2 N2 ⟨p1, p2, p3, p4, p5⟩
    dsimp only at *
    clear F1 N1
    (try k_fold)
    repeat' (first | (k_unfold; (try dsimp only)) | (k_end; wrow_close) | (first | k_extra "M9" | walk1) | (dsimp only; (first | k_extra "M9" | walk1)) | (leave1; walk_say "STEP leave1"; try dsimp only) | fail "no step")
    · rename Fr _ _ _ _ => F9
      rename News _ _ _ _ => N9
      rename _ < x => hq
      have e : (lo + hi).fdiv 2 = (lo + hi) / 2 := Int.fdiv_eq_ediv_of_nonneg _ (by omega)
      rw [e] at hq F9
      refine' WEnd.intro ((lo + hi) / 2 + 1, hi, _, _) F9 N9 (fun _ h => h) ?sm ?sr ?c1 ?c2
      case sm => (repeat (refine allAt_cons (by with_unfolding_all rfl) ?_)); exact allAt_nil
      case sr => (intro z h1 h2; simp only [List.map_cons, List.map_nil, List.mem_cons, List.not_mem_nil, or_false, not_or] at h1 h2; simp [ovr_ne, h1, h2])
      case c1 =>
        dsimp only
        refine ⟨by omega, by omega, p3, fun i hi' => ?_, p5⟩
        exact Int.lt_of_le_of_lt (hs i _ (by omega) (by omega)) hq
      case c2 => dsimp only; omega
    · rename Fr _ _ _ _ => F9
      rename News _ _ _ _ => N9
      rename ¬ (_ < x) => hq
      have e : (lo + hi).fdiv 2 = (lo + hi) / 2 := Int.fdiv_eq_ediv_of_nonneg _ (by omega)
      rw [e] at hq F9
      refine' WEnd.intro (lo, (lo + hi) / 2, _, _) F9 N9 (fun _ h => h) ?sm ?sr ?c1 ?c2
      case sm => (repeat (refine allAt_cons (by with_unfolding_all rfl) ?_)); exact allAt_nil
      case sr => (intro z h1 h2; simp only [List.map_cons, List.map_nil, List.mem_cons, List.not_mem_nil, or_false, not_or] at h1 h2; simp [ovr_ne, h1, h2])
      case c1 =>
        dsimp only
        refine ⟨by omega, by omega, by omega, p4, fun i h1 h2 h3 => hq ?_⟩
        exact Int.lt_of_le_of_lt (hs _ i (by omega) (by omega)) h3
      case c2 => dsimp only; omega
    · rename Fr _ _ _ m => F9
      rename News _ _ _ _ => N9
      have e : lo = (ns.countP (· < x) : Nat) := by
        rw [countP_split (fun y => decide (y < x)) ns lo.toNat (by omega) (fun i h => by simpa using p4 i (by omega)) (fun i h1 h2 => by simpa using p5 i (by omega) h2)]
        omega
      subst e
      exact hret _ _ _ _ F9 N9 ⟨_, rfl, rfl⟩
theorem bl4_spec (w : World) (news : Led) (l : Addr) (vs : List Value) (ns : List Int) (k : Nat) (x : Int) (t t0 : Tok)
   (hl : (l, listOf vs.toArray k) ∈ news) (hi : IntsAre vs ns) (hsz : ns.length < 1000) (hs : Srt ns) : Tell w 0 77 [.ref l, .int x t, .int 0 t0, .none] news fun v news' => ∃ t, v = .int (ns.countP (· < x) : Nat) t ∧ news' = news := by
  w_top off; have hfill9 := (show top0.heap_39 = top0.heap_39 ∧ PySem.Challenge.rw_xe0021_01 = PySem.Challenge.rw_xe0021_01 by k_fill; exact ⟨rfl, rfl⟩); clear hfill9; k_with_none
  k_with "M9" => (k_here; (with_reducible show wpAny _ _ (call (Value.builtin "len") [Value.ref _]) _ _ _); k_dflt (refine' len_list ?k1q427 ?k2q427 ?_; (case k1q427 => exact News.isList (by k_asm) (by k_mem)); (case k2q427 => simp only [List.size_toArray]; omega); k_whole))
  have hln : vs.length = ns.length := hi.length
  intro nm ig ic mr gd cn a ccd cl outer A₀ base h₀ L m s Q E p loose mean mg mb B F X N T hret
  k_enter
  repeat' (first | (k_unfold; (try dsimp only)) | (k_end; wrow_close) | ((fail_if_success (with_reducible show wpAny _ _ (exec (Stmt.While _ _ _ _) _) _ _ _)); (fail_if_success (with_reducible show wpAny _ _ (exec (Stmt.For _ _ _ _ _) _) _ _ _)); (first | k_extra "M9" | walk1)) | (dsimp only; (first | k_extra "M9" | walk1)) | (leave1; walk_say "STEP leave1"; try dsimp only) | fail "no step")
  rename Fr _ _ _ _ => F1
  rename News _ _ _ _ => N1
  refine' while_st ["mid"] (fun (q : Int × Int × Tok × Tok) => [("lo", .int q.1 q.2.2.1), ("hi", .int q.2.1 q.2.2.2)])
    (fun q => 0 ≤ q.1 ∧ q.1 ≤ q.2.1 ∧ q.2.1 ≤ (ns.length : Int) ∧ (∀ i : Nat, (i : Int) < q.1 → ns.getD i 0 < x) ∧ (∀ i : Nat, q.2.1 ≤ (i : Int) → i < ns.length → ¬ ns.getD i 0 < x)) (fun q => (q.2.1 - q.1).toNat) (0, vs.length, _, _) F1 N1 (same_of ?sm fun _ _ _ => rfl) ?c1 ?c2
  case sm => (repeat (refine allAt_cons (by with_unfolding_all rfl) ?_)); exact allAt_nil
  case c1 => refine ⟨?_, ?_, ?_, ?_, ?_⟩ <;> dsimp only <;> omega
  case c2 =>
    rintro ⟨lo, hi, tl, th⟩ u h tk F2 N2 ⟨p1, p2, p3, p4, p5⟩
    dsimp only at *
    clear F1 N1
    (try k_fold)
    repeat' (first | (k_unfold; (try dsimp only)) | (k_end; wrow_close) | (first | k_extra "M9" | walk1) | (dsimp only; (first | k_extra "M9" | walk1)) | (leave1; walk_say "STEP leave1"; try dsimp only) | fail "no step")
    · rename Fr _ _ _ _ => F9
      rename News _ _ _ _ => N9
      rename _ < x => hq
      have e : (lo + hi).fdiv 2 = (lo + hi) / 2 := Int.fdiv_eq_ediv_of_nonneg _ (by omega)
      rw [e] at hq F9
      refine' WEnd.intro ((lo + hi) / 2 + 1, hi, _, _) F9 N9 (fun _ h => h) ?sm ?sr ?c1 ?c2
      case sm => (repeat (refine allAt_cons (by with_unfolding_all rfl) ?_)); exact allAt_nil
      case sr => (intro z h1 h2; simp only [List.map_cons, List.map_nil, List.mem_cons, List.not_mem_nil, or_false, not_or] at h1 h2; simp [ovr_ne, h1, h2])
      case c1 =>
        dsimp only
        refine ⟨by omega, by omega, p3, fun i hi' => ?_, p5⟩
        exact Int.lt_of_le_of_lt (hs i _ (by omega) (by omega)) hq
      case c2 => dsimp only; omega
    · rename Fr _ _ _ _ => F9
      rename News _ _ _ _ => N9
      rename ¬ (_ < x) => hq
      have e : (lo + hi).fdiv 2 = (lo + hi) / 2 := Int.fdiv_eq_ediv_of_nonneg _ (by omega)
      rw [e] at hq F9
      refine' WEnd.intro (lo, (lo + hi) / 2, _, _) F9 N9 (fun _ h => h) ?sm ?sr ?c1 ?c2
      case sm => (repeat (refine allAt_cons (by with_unfolding_all rfl) ?_)); exact allAt_nil
      case sr => (intro z h1 h2; simp only [List.map_cons, List.map_nil, List.mem_cons, List.not_mem_nil, or_false, not_or] at h1 h2; simp [ovr_ne, h1, h2])
      case c1 =>
        dsimp only
        refine ⟨by omega, by omega, by omega, p4, fun i h1 h2 h3 => hq ?_⟩
        exact Int.lt_of_le_of_lt (hs _ i (by omega) (by omega)) h3
      case c2 => dsimp only; omega
    · rename Fr _ _ _ m => F9
      rename News _ _ _ _ => N9
      have e : lo = (ns.countP (· < x) : Nat) := by
        rw [countP_split (fun y => decide (y < x)) ns lo.toNat (by omega) (fun i h => by simpa using p4 i (by omega)) (fun i h1 h2 => by simpa using p5 i (by omega) h2)]
        omega
      subst e
      exact hret _ _ _ _ F9 N9 ⟨_, rfl, rfl⟩
theorem br_spec (w : World) (news : Led) (l : Addr) (vs : List Value) (ns : List Int) (k : Nat) (x : Int) (t : Tok)
   (hl : (l, listOf vs.toArray k) ∈ news) (hi : IntsAre vs ns) (hsz : ns.length < 1000) (hs : Srt ns) : Tell w 0 59 [.ref l, .int x t] news fun v news' => ∃ t, v = .int (ns.countP (· ≤ x) : Nat) t ∧ news' = news := by
  w_top off; have hfill9 := (show top0.heap_39 = top0.heap_39 ∧ PySem.Challenge.rw_xe0021_01 = PySem.Challenge.rw_xe0021_01 by k_fill; exact ⟨rfl, rfl⟩); clear hfill9; k_with_none
  k_with "M9" => (k_here; (with_reducible show wpAny _ _ (call (Value.builtin "len") [Value.ref _]) _ _ _); k_dflt (refine' len_list ?k1q427 ?k2q427 ?_; (case k1q427 => exact News.isList (by k_asm) (by k_mem)); (case k2q427 => simp only [List.size_toArray]; omega); k_whole))
  have hln : vs.length = ns.length := hi.length
  intro nm ig ic mr gd cn a ccd cl outer A₀ base h₀ L m s Q E p loose mean mg mb B F X N T hret
  k_enter
  repeat' (first | (k_unfold; (try dsimp only)) | (k_end; wrow_close) | ((fail_if_success (with_reducible show wpAny _ _ (exec (Stmt.While _ _ _ _) _) _ _ _)); (fail_if_success (with_reducible show wpAny _ _ (exec (Stmt.For _ _ _ _ _) _) _ _ _)); (first | k_extra "M9" | walk1)) | (dsimp only; (first | k_extra "M9" | walk1)) | (leave1; walk_say "STEP leave1"; try dsimp only) | fail "no step")
  rename Fr _ _ _ _ => F1
  rename News _ _ _ _ => N1
  refine' while_st ["mid"] (fun (q : Int × Int × Tok × Tok) => [("lo", .int q.1 q.2.2.1), ("hi", .int q.2.1 q.2.2.2)])
    (fun q => 0 ≤ q.1 ∧ q.1 ≤ q.2.1 ∧ q.2.1 ≤ (ns.length : Int) ∧ (∀ i : Nat, (i : Int) < q.1 → ns.getD i 0 ≤ x) ∧ (∀ i : Nat, q.2.1 ≤ (i : Int) → i < ns.length → x < ns.getD i 0)) (fun q => (q.2.1 - q.1).toNat) (0, vs.length, _, _) F1 N1 (same_of ?sm fun _ _ _ => rfl) ?c1 ?c2
  case sm => (repeat (refine allAt_cons (by with_unfolding_all rfl) ?_)); exact allAt_nil
  case c1 => refine ⟨?_, ?_, ?_, ?_, ?_⟩ <;> dsimp only <;> omega
  case c2 =>
    rintro ⟨lo, hi, tl, th⟩ u h tk F2 N2 ⟨p1, p2, p3, p4, p5⟩
    dsimp only at *
    clear F1 N1
    (try k_fold)
    repeat' (first | (k_unfold; (try dsimp only)) | (k_end; wrow_close) | (first | k_extra "M9" | walk1) | (dsimp only; (first | k_extra "M9" | walk1)) | (leave1; walk_say "STEP leave1"; try dsimp only) | fail "no step")
    · rename Fr _ _ _ _ => F9
      rename News _ _ _ _ => N9
      rename x < _ => hq
      have e : (lo + hi).fdiv 2 = (lo + hi) / 2 := Int.fdiv_eq_ediv_of_nonneg _ (by omega)
      rw [e] at hq F9
      refine' WEnd.intro (lo, (lo + hi) / 2, _, _) F9 N9 (fun _ h => h) ?sm ?sr ?c1 ?c2
      case sm => (repeat (refine allAt_cons (by with_unfolding_all rfl) ?_)); exact allAt_nil
      case sr => (intro z h1 h2; simp only [List.map_cons, List.map_nil, List.mem_cons, List.not_mem_nil, or_false, not_or] at h1 h2; simp [ovr_ne, h1, h2])
      case c1 =>
        dsimp only
        refine ⟨by omega, by omega, by omega, p4, fun i h1 h2 => ?_⟩
        exact Int.lt_of_lt_of_le hq (hs _ i (by omega) (by omega))
      case c2 => dsimp only; omega
    · rename Fr _ _ _ _ => F9
      rename News _ _ _ _ => N9
      rename ¬ (x < _) => hq
      have e : (lo + hi).fdiv 2 = (lo + hi) / 2 := Int.fdiv_eq_ediv_of_nonneg _ (by omega)
      rw [e] at hq F9
      refine' WEnd.intro ((lo + hi) / 2 + 1, hi, _, _) F9 N9 (fun _ h => h) ?sm ?sr ?c1 ?c2
      case sm => (repeat (refine allAt_cons (by with_unfolding_all rfl) ?_)); exact allAt_nil
      case sr => (intro z h1 h2; simp only [List.map_cons, List.map_nil, List.mem_cons, List.not_mem_nil, or_false, not_or] at h1 h2; simp [ovr_ne, h1, h2])
      case c1 =>
        dsimp only
        refine ⟨by omega, by omega, p3, fun i hi' => ?_, p5⟩
        exact Int.le_trans (hs i _ (by omega) (by omega)) (Int.not_lt.mp hq)
      case c2 => dsimp only; omega
    · rename Fr _ _ _ m => F9
      rename News _ _ _ _ => N9
      have e : lo = (ns.countP (· ≤ x) : Nat) := by
        rw [countP_split (fun y => decide (y ≤ x)) ns lo.toNat (by omega) (fun i h => by simpa using p4 i (by omega)) (fun i h1 h2 => by simpa using p5 i (by omega) h2)]
        omega
      subst e
      exact hret _ _ _ _ F9 N9 ⟨_, rfl, rfl⟩
end Mine
namespace Mine
theorem in_spec (w : World) (news : Led) (nf : Obj → Led) (l : Addr) (vs : List Value) (ns : List Int) (k : Nat) (x : Int) (t : Tok)
   (U : ∀ o', Upd l (listOf vs.toArray k) o' news (nf o')) (hi : IntsAre vs ns) (hsz : ns.length < 1000) (hs : Srt ns) :
   Tell w 1 68 [.ref l, .int x t] news fun v n => v = .none ∧ ∃ vs', IntsAre vs' (ns.take (ns.countP (· < x)) ++ x :: ns.drop (ns.countP (· < x))) ∧ n = nf (listOf vs'.toArray (k + 1)) := by
  w_top off; have hfill9 := (show top0.heap_39 = top0.heap_39 ∧ PySem.Challenge.rw_xe0021_01 = PySem.Challenge.rw_xe0021_01 by k_fill; exact ⟨rfl, rfl⟩); clear hfill9; k_with_none
  k_with "M9" => (k_here; (with_reducible show wpAny _ _ (call (Value.ref 77) [Value.ref _, Value.int _ _, Value.int 0 _, Value.none]) _ _ _); k_dflt (refine' Tell.use ?Nq1327 ?Bq1327 ?Fq1327 ?Xq1327 ?Tq1327 rfl rfl ?dq1327 ?uq1327 (bl4_spec _ _ _ _ _ _ _ _ _ ?h1q1327 ?h2q1327 ?h3q1327 ?h4q1327) ?_; (case Nq1327 => k_asm); (case Bq1327 => k_asm); (case Fq1327 => k_asm); (case Xq1327 => k_asm); (case Tq1327 => k_asm); (case dq1327 => exact Nat.le_of_ble_eq_true rfl); (case uq1327 => exact Nat.le_of_ble_eq_true rfl); (case h1q1327 => first | assumption | k_mem); (case h2q1327 => assumption); (case h3q1327 => omega); (case h4q1327 => assumption); k_whole); intro _ _ _ _ _ _ P'; obtain ⟨_, e1, e2⟩ := P'; subst e1; replace e2 := e2.symm; subst e2; (try k_sweep))
  have hln : vs.length = ns.length := hi.length
  have hl : (l, listOf vs.toArray k) ∈ news := by
    obtain ⟨pre, post, e, _⟩ := (U (listOf vs.toArray k)).split
    rw [e]; simp
  intro nm ig ic mr gd cn a ccd cl outer A₀ base h₀ L m s Q E p loose mean mg mb B F X N T hret
  k_enter
  repeat' (first | (k_unfold; (try dsimp only)) | (k_end; wrow_close) | (first | k_extra "M9" | walk1) | (dsimp only; (first | k_extra "M9" | walk1)) | (leave1; walk_say "STEP leave1"; try dsimp only) | fail "no step")
  rename Fr _ _ _ _ => F1
  rename News _ _ _ news => N1
  have hc : ns.countP (· < x) ≤ ns.length := List.countP_le_length
  k_dflt (refine' kl_insert F1 N1 ?f rfl (U _) ?z ?_)
  case f => simp only [Builtin.List.listFitsIndex, Bool.and_eq_true, decide_eq_true_eq]; omega
  case z => simp only [List.toList_toArray, sizeLine_eq]; omega
  intro h' F' N'
  repeat' (first | (k_unfold; (try dsimp only)) | (k_end; wrow_close) | (first | k_extra "M9" | walk1) | (dsimp only; (first | k_extra "M9" | walk1)) | (leave1; walk_say "STEP leave1"; try dsimp only) | fail "no step")
  rename News _ _ _ _ => N9
  rename Fr _ _ _ m => F9
  refine hret _ _ _ _ F9 N9 ⟨rfl, _, ?_, rfl⟩
  have e : min ((ns.countP (· < x) : Nat) : Int).toNat vs.length = ns.countP (· < x) := by omega
  simp only [List.toList_toArray, kl_ins, if_neg (show ¬ ((ns.countP (· < x) : Nat) : Int) < 0 by omega), e]
  exact (hi.take _).append (.cons _ _ (hi.drop _))
end Mine
namespace Mine
inductive PairsJ (c g : Addr) (news : Led) (m0 : Str → Option Value) (q : PQ) (m' : Str → Option Value) (n' : Led) : Prop
  | mk (t1 t2 : Tok) (vc : List Value) (kc : Nat) (vg : List Value) (kg : Nat) (hS : Same ["came", "gone", "name"] [("held", .int q.held t1), ("crossed", .int q.crossed t2), ("comings", .ref c), ("goings", .ref g)] m0 m')
    (hn : n' = (g, listOf (List.toArray vg) kg) :: (c, listOf (List.toArray vc) kc) :: news) (hc : IntsAre vc q.com) (hg : IntsAre vg q.goi) : PairsJ c g news m0 q m' n'
theorem pairs_spec (w : World) (news : Led) (l : Addr) (vs : List Value) (ss : List Stay) (k : Nat)
   (hl : (l, listOf vs.toArray k) ∈ news) (hi : StaysAre news vs ss) (hsz : ss.length < 900) (hs : (ss.map (·.2.1)).Pairwise (· ≤ ·)) :
   Tell w 2 166 [.ref l] news fun v n => ∃ r new t1 t2, v = .ref r ∧ n = news ++ new ∧ (∀ p ∈ news, ∀ q ∈ new, p.1 < q.1) ∧ (r, tupO [.int (pairsOf ss).held t1, .int (pairsOf ss).crossed t2]) ∈ new := by
  w_top off; have hfill9 := (show top0.heap_39 = top0.heap_39 ∧ PySem.Challenge.rw_xe0021_01 = PySem.Challenge.rw_xe0021_01 by k_fill; exact ⟨rfl, rfl⟩); clear hfill9; k_with_none
  k_with "M9" => (k_here; (with_reducible show wpAny _ _ (call (Value.builtin "len") [Value.ref _]) _ _ _); k_dflt (refine' len_list ?k1q427 ?k2q427 ?_; (case k1q427 => exact News.isList (by k_asm) (by k_mem)); (case k2q427 => simp only [List.size_toArray]; omega); k_whole))
  k_with "M9" => (k_here; (with_reducible show wpAny _ _ (call (Value.ref 77) [Value.ref _, Value.int _ _]) _ _ _); k_dflt (refine' Tell.use ?Nq8889 ?Bq8889 ?Fq8889 ?Xq8889 ?Tq8889 rfl rfl ?dq8889 ?uq8889 (bl_spec _ _ _ _ _ _ _ _ ?h1q8889 ?h2q8889 ?h3q8889 ?h4q8889) ?_; (case Nq8889 => k_asm); (case Bq8889 => k_asm); (case Fq8889 => k_asm); (case Xq8889 => k_asm); (case Tq8889 => k_asm); (case dq8889 => exact Nat.le_of_ble_eq_true rfl); (case uq8889 => exact Nat.le_of_ble_eq_true rfl); (case h1q8889 => first | assumption | k_mem); (case h2q8889 => assumption); (case h3q8889 => omega); (case h4q8889 => assumption); k_whole); intro _ _ _ _ _ _ P'; obtain ⟨_, e1, e2⟩ := P'; subst e1; replace e2 := e2.symm; subst e2; (try k_sweep))
  k_with "M9" => (k_here; (with_reducible show wpAny _ _ (call (Value.ref 59) [Value.ref _, Value.int _ _]) _ _ _); k_dflt (refine' Tell.use ?Nq8895 ?Bq8895 ?Fq8895 ?Xq8895 ?Tq8895 rfl rfl ?dq8895 ?uq8895 (br_spec _ _ _ _ _ _ _ _ ?h1q8895 ?h2q8895 ?h3q8895 ?h4q8895) ?_; (case Nq8895 => k_asm); (case Bq8895 => k_asm); (case Fq8895 => k_asm); (case Xq8895 => k_asm); (case Tq8895 => k_asm); (case dq8895 => exact Nat.le_of_ble_eq_true rfl); (case uq8895 => exact Nat.le_of_ble_eq_true rfl); (case h1q8895 => first | assumption | k_mem); (case h2q8895 => assumption); (case h3q8895 => omega); (case h4q8895 => assumption); k_whole); intro _ _ _ _ _ _ P'; obtain ⟨_, e1, e2⟩ := P'; subst e1; replace e2 := e2.symm; subst e2; (try k_sweep))
  k_with "M9" => (k_here; (with_reducible show wpAny _ _ (call (Value.ref 68) [Value.ref _, Value.int _ _]) _ _ _); k_dflt (refine' Tell.use ?Nq6105 ?Bq6105 ?Fq6105 ?Xq6105 ?Tq6105 rfl rfl ?dq6105 ?uq6105 (in_spec _ _ _ _ _ _ _ _ _ ?h1q6105 ?h2q6105 ?h3q6105 ?h4q6105) ?_; (case Nq6105 => k_asm); (case Bq6105 => k_asm); (case Fq6105 => k_asm); (case Xq6105 => k_asm); (case Tq6105 => k_asm); (case dq6105 => exact Nat.le_of_ble_eq_true rfl); (case uq6105 => exact Nat.le_of_ble_eq_true rfl); (case h1q6105 => intro _; k_upd); (case h2q6105 => assumption); (case h3q6105 => omega); (case h4q6105 => assumption); k_whole); intro _ _ _ _ _ _ P'; obtain ⟨e1, _, _, e2⟩ := P'; subst e1; subst e2; (try k_sweep))
  have hln : vs.length = ss.length := hi.1
  intro nm ig ic mr gd cn a ccd cl outer A₀ base h₀ L m s Q E p loose mean mg mb B F X N T hret
  k_enter
  repeat' (first | (k_unfold; (try dsimp only)) | (k_end; wrow_close) | ((fail_if_success (with_reducible show wpAny _ _ (exec (Stmt.While _ _ _ _) _) _ _ _)); (fail_if_success (with_reducible show wpAny _ _ (exec (Stmt.For _ _ _ _ _) _) _ _ _)); (first | k_extra "M9" | walk1)) | (dsimp only; (first | k_extra "M9" | walk1)) | (leave1; walk_say "STEP leave1"; try dsimp only) | fail "no step")
  rename Fr _ _ _ _ => F1
  rename News _ _ _ _ => N1
  k_dflt (refine' For_turns F1 ?_)
  repeat' (first | ((fail_if_success (with_reducible show wpAny _ _ (pyIter _) _ _ _)); (first | k_extra "M9" | walk1)))
  rename Fr _ _ _ _ => F1
  rename News _ _ _ _ => N1
  rename ∀ p ∈ news, p.1 < _ => lc
  rename _ ∧ AllLt _ news => lg
  rename_i c _ _ g _ _
  obtain ⟨m0, A0, F0⟩ := named F1 [("held", .int 0 _), ("crossed", .int 0 _), ("comings", .ref c), ("goings", .ref g)] (by (repeat (refine allAt_cons (by with_unfolding_all rfl) ?_)); exact allAt_nil)
  k_dflt (refine' iter_listTurns rfl F0 N1 (List.mem_cons_of_mem _ (List.mem_cons_of_mem _ hl)) rfl rfl (fun I lI => items_inv (fun i => PairsJ c g news m0 (pairsOf (ss.take i))) ?turn ?done 0 _ _ (Nat.zero_le _) ?j0))
  case j0 => exact ⟨_, _, [], _, [], _, same_start A0, rfl, .nil, .nil⟩
  case turn =>
    rintro i x m' n' v h tk hx ⟨t1, t2, vc, kc, vg, kg, hS, rfl, hc, hg⟩ hv F2 o ho PP hPP N2
    simp only [List.getElem?_map, Option.map_eq_some_iff] at hx
    obtain ⟨x, hx, rfl⟩ := hx
    obtain rfl : v = x := hv
    replace lI := allLt_of lI
    simp only [AllLt] at lI
    have hil : i < ss.length := by have := (List.getElem?_eq_some_iff.mp hx).1; omega
    obtain ⟨p, u1, u2, u3, hp1, hp2⟩ := hi.2 i ss[i] (List.getElem?_eq_getElem hil)
    obtain rfl : v = .ref p := Option.some.inj (hx.symm.trans hp1)
    have F3 := same_fr hS F2
    simp only [List.cons_append, List.nil_append] at N2
    clear F2 F1 F0 N1
    have e1 := pairsOf_take ss i ss[i] (List.getElem?_eq_getElem hil)
    have e2 : (pairsOf (ss.take i)).com.length = i := by rw [pairsOf_clen]; simp; omega
    have e3 : (pairsOf (ss.take i)).goi.length = i := by rw [pairsOf_goi]; simp; omega
    have s1 : Srt (pairsOf (ss.take i)).com := srt_iff.mpr (pairsOf_com _ _ .nil)
    have s2 : Srt (pairsOf (ss.take i)).goi := srt_iff.mpr (by rw [pairsOf_goi]; exact hs.sublist ((List.take_sublist _ _).map _))
    dsimp only [envOf] at F3 N2
    (try k_fold)
    have hT := News.isTup N2 (.tail _ (.tail _ (.tail _ hp2)))
    k_dflt (refine' unpackN_ F3 N2 hT ?k1 ?k2 ?k3 ?_)
    case k1 => exact rfl
    case k2 => exact rfl
    case k3 => exact rfl
    intro h' F' N'
    clear F3 N2
    repeat' (first | (k_unfold; (try dsimp only)) | (k_end; wrow_close) | (first | k_extra "M9" | walk1) | (dsimp only; (first | k_extra "M9" | walk1)) | (leave1; walk_say "STEP leave1"; try dsimp only) | fail "no step")
    rename Fr _ _ _ _ => F9
    rename News _ _ _ _ => N9
    rename IntsAre _ (_ ++ _) => hc'
    refine hPP _ ?_
    rw [e1]
    refine' turn_end F9 N9 ((g, _) :: (c, _) :: news) (fun q hq => ?a1) (fun q hq => .tail _ hq) (fun q hq r hr => ?a2) ⟨⟨.tail _ (.tail _ hl), trivial⟩, _, _, _, _, _, _, same_of ?sm ?sr, rfl, hc', ?hgn⟩
    case hgn => rw [List.concat_eq_append]; exact hg.append (.cons _ _ .nil)
    case a1 => rw [List.mem_singleton.mp hq]; exact .head _
    case a2 =>
      rw [List.mem_singleton.mp hr]
      rcases List.mem_cons.mp hq with e | hq
      · rw [e]; exact Nat.ne_of_lt lI.1
      rcases List.mem_cons.mp hq with e | hq
      · rw [e]; exact Nat.ne_of_lt lI.2.1
      · exact off_lt lI.2.2 q hq
    case sm =>
      refine' allAt_int ?b1 ?b2 (allAt_int ?b3 ?b4 (allAt_cons ?b5 (allAt_cons ?b6 allAt_nil)))
      case b1 => with_unfolding_all rfl
      case b2 => simp only [pairStep, List.size_toArray, hc.length]
      case b3 => with_unfolding_all rfl
      case b4 => simp only [pairStep]
      case b5 => with_unfolding_all rfl
      case b6 => with_unfolding_all rfl
    case sr => (intro z h1 h2; simp only [List.map_cons, List.map_nil, List.mem_cons, List.not_mem_nil, or_false, not_or] at h1 h2; simp [ovr_ne, h1, h2])
  case done =>
    rintro m' n' h tk ⟨t1, t2, vc, kc, vg, kg, hS, rfl, hc, hg⟩ F2 N2
    have F3 := same_fr hS F2
    have e4 : (vs.map Itm.val).length = ss.length := by rw [List.length_map, hln]
    rw [e4, List.take_length] at F3
    clear F2 F1 F0 N1
    dsimp only [envOf] at F3 N2
    (try k_fold)
    repeat' (first | (k_unfold; (try dsimp only)) | (k_end; wrow_close) | (first | k_extra "M9" | walk1) | (dsimp only; (first | k_extra "M9" | walk1)) | (leave1; walk_say "STEP leave1"; try dsimp only) | fail "no step")
    rename Fr _ _ _ m => F9
    rename News h₀ _ _ _ => N9
    rename _ ∧ _ ∧ AllLt _ news => l3
    refine hret _ (news ++ [(_, tupO [.int (pairsOf ss).held t1, .int (pairsOf ss).crossed t2])]) _ _ F9 (fun q hq => ?_) ⟨_, _, _, _, rfl, rfl, ?_, .head _⟩
    · rcases List.mem_append.mp hq with hq | hq
      · exact N9 q (.tail _ (.tail _ (.tail _ hq)))
      · rw [List.mem_singleton.mp hq]; exact N9 _ (.head _)
    · intro q hq r hr
      rw [List.mem_singleton.mp hr]
      exact allLt_at l3.2.2 q hq
end Mine
namespace Mine
/-- as Tell; behind the call the count of tokens is not 0 -/
def Tell1 (w : World) (k : Nat) (f : Addr) (args : List Value) (news : Led) (Post : Value → Led → Prop) : Prop :=
  ∀ (nm : List (Str × NameKind)) (ig ic : Bool) (mr : List (Str × Const)) (gd : Option (List Code)) (cn : Str) (a : Addr) (ccd : Value) (cl : List (Str × Addr)) (outer : List Env) (A₀ : Around) (base h₀ : Heap) (L : Addr) (m : Str → Option Value) (s : Shared) (Q E : Value → Shared → Prop)
   (p : Program) (loose : List Str) (mean : ExcName → Option Value) (mg mb : Str → Option Value),
   Below A₀ base outer h₀ → Fr h₀ L s.heap m → (top0.heap_39 w.params).In h₀ → News h₀ L s.heap news → Top p loose mean mg mb h₀ →
   (∀ v news' h' tk', 1 ≤ tk' → Fr h₀ L h' m → News h₀ L h' news' → Post v news' → Q v { s with heap := h', toks := tk' }) →
   codeAny (model pr w) (Ar k gd (envX cn (Sc nm ig ic mr) L a ccd cl) outer) (.call (.ref f) ⟨args, []⟩) (Back Q E) s
theorem Tell1.use {w : World} {k : Nat} {f : Addr} {args : List Value} {news : Led} {Post : Value → Led → Prop} {A : Around} {nm : List (Str × NameKind)} {ig ic : Bool} {mr : List (Str × Const)} {cn : Str} {a : Addr} {ccd : Value} {cl : List (Str × Addr)} {outer : List Env} {A₀ : Around} {base h₀ : Heap} {L : Addr} {m : Str → Option Value} {s : Shared} {Q E : Value → Shared → Prop}
   {p : Program} {loose : List Str} {mean : ExcName → Option Value} {mg mb : Str → Option Value}
   (N : News h₀ L s.heap news) (B : Below A₀ base outer h₀) (F : Fr h₀ L s.heap m) (X : (top0.heap_39 w.params).In h₀) (T : Top p loose mean mg mb h₀)
   (hh : A.handled = none) (hf : A.frames = some (envX cn (Sc nm ig ic mr) L a ccd cl :: outer)) (hd : A.depth ≤ 900 - 100 * k) (hu : A.units ≤ 9000 - 1000 * k)
   (H : Tell1 w k f args news Post)
   (ret : ∀ v news' h' tk', 1 ≤ tk' → Fr h₀ L h' m → News h₀ L h' news' → Post v news' → Q v { s with heap := h', toks := tk' }) :
   wpAny (model pr w) A (call (.ref f) args) Q E s :=
  wpAny_call (room_code (A := Ar k A.guards (envX cn (Sc nm ig ic mr) L a ccd cl) outer) (H nm ig ic mr A.guards cn a ccd cl outer A₀ base h₀ L m s Q E p loose mean mg mb B F X N T ret) hh hf rfl hd hu)
theorem unm1_spec (w : World) (news : Led) (x : Str) (t : Tok) (n : Nat) (p q : Nat) (tp mo : Addr) (y : Str) (hm : (mo, matO x t n tp) ∈ news) (ht : (tp, tupO [.int p 0, .int q 0]) ∈ news) (hsz : x.cps.size ≤ 1000000)
   (hy : PySem.Txt.slice x none (some (p : Int)) ++ PySem.Txt.slice x (some (q : Int)) none = y) : Tell1 w 0 38 [.ref mo] news fun v n => ∃ t', v = .str y t' ∧ n = news := by
  subst hy
  w_top off; have hfill9 := (show top0.heap_39 = top0.heap_39 ∧ PySem.Challenge.rw_xe0021_01 = PySem.Challenge.rw_xe0021_01 by k_fill; exact ⟨rfl, rfl⟩); clear hfill9; k_with_none
  k_with "M9" => ((with_reducible show wpAny _ _ (binaryOp Operator.Add (Value.str _ _) (Value.str _ _)) _ _ _); (k_here; k_dflt (refine' PyProof.Rows.add_str ?_ ?hszq34; (case hszq34 => (rw [sizeLine_eq]; omega)); k_whole); intro _ _))
  k_with "M9" => (k_here; (with_reducible show wpAny _ _ (getMethod (Value.ref _) (PySem.Str.ofString "span") _) _ _ _); k_dflt (refine' getMethod_span ?Nq5964 ?mq5964 ?_; (case Nq5964 => k_asm); (case mq5964 => k_mem); k_whole))
  k_with "M9" => ((with_reducible show wpAny _ _ (call (Value.builtin "re.Match.span") _) _ _ _); (k_here; k_dflt (refine' span_ok ?Fq4665 ?Nq4665 ?mq4665 ?tq4665 ?_; (case Fq4665 => k_asm); (case Nq4665 => k_asm); (case mq4665 => k_mem); (case tq4665 => k_mem); k_whole); intro _ _ _ _ _ _ _ l1; (try k_lt l1); revert l1; intro _; (try k_sweep)))
  k_with "M9" => (k_here; (with_reducible show wpAny _ _ (getAttr (Value.ref _) (PySem.Str.ofString "string") _) _ _ _); k_dflt (refine' string_ok ?Fq7074 ?Nq7074 ?mq7074 ?_; (case Fq7074 => k_asm); (case Nq7074 => k_asm); (case mq7074 => k_mem); k_whole))
  intro nm ig ic mr gd cn a ccd cl outer A₀ base h₀ L m s Q E p loose mean mg mb B F X N T hret
  k_enter
  have hsl : x.length ≤ 1000000 := hsz
  repeat' (first | ((fail_if_success (with_reducible show wpAny _ _ (call (Value.builtin "re.Match.span") _) _ _ _)); (first | k_extra "M9" | walk1)))
  refine wpAny_with_toks (n := 1) (Nat.succ_le_succ (Nat.zero_le _)) ?_
  k_dflt (refine' span_ok ?F ?N ?m ?t ?_; (case F => k_asm); (case N => k_asm); (case m => k_mem); (case t => k_mem))
  intro r' t1' t2' h' tk' F' N' l1 hk1
  refine wpAny_with_toks (n := 1) hk1 ?_
  repeat' (first | ((fail_if_success (with_reducible show 1 ≤ _ → _)); (first | k_extra "M9" | walk1)))
  intro hk2
  refine wpAny_with_toks (n := 1) hk2 ?_
  repeat' (first | ((fail_if_success (with_reducible show 1 ≤ _ → _)); (first | k_extra "M9" | walk1)))
  intro hk3
  repeat' (first | (k_unfold; (try dsimp only)) | (k_end; wrow_close) | ((fail_if_success (with_reducible show wpAny _ _ (exec (Stmt.While _ _ _ _) _) _ _ _)); (fail_if_success (with_reducible show wpAny _ _ (exec (Stmt.For _ _ _ _ _) _) _ _ _)); (first | k_extra "M9" | walk1)) | (dsimp only; (first | k_extra "M9" | walk1)) | (leave1; walk_say "STEP leave1"; try dsimp only) | fail "no step")
  rename News h₀ _ _ _ => N9
  rename Fr h₀ _ _ m => F9
  exact hret _ news _ _ hk3 F9 (fun p hp => N9 p (.tail _ hp)) ⟨_, rfl, rfl⟩
end Mine
namespace Mine
open PySem.Calls PyProof.Rows.LCg
section
variable {prog : Program} {w : World} {A : Around} {E : Value → Shared → Prop} {s : Shared} {h₀ : Heap} {L : Addr} {m : Str → Option Value} {news : Led} {env : Env}
theorem ints_snoc {vs : List Value} {ns : List Int} {x : Int} {t : Tok} (h : IntsAre vs ns) : IntsAre (vs ++ [.int x t]) (ns ++ [x]) := h.append (.cons _ _ .nil)
/-- the comings of a list of stays -/
theorem comp_stays {iter : Expr} {x1 x2 x3 : Str} {pe p1 p2 p3 tp pos : Pos} {tk : Nat} {scope : Scope} {cl : List (Str × Addr)} {l : Addr} {vs : List Value} {ss : List Stay} {k : Nat} {Q : Value → Shared → Prop}
    (hh : A.handled = none) (F : Fr h₀ L s.heap m) (N : News h₀ L s.heap news) (hl : (l, listOf vs.toArray k) ∈ news) (hi : StaysAre news vs ss) (hz : vs.length ≤ 1000)
    (hclos : closureFor scope env = pure cl) (hcell : ∀ y ∈ scope.names, y.2 ≠ .cell) (hkind : scope.kind = .function)
    (hnames : ∀ y ∈ scope.names, y.2 = .local → scope.names.lookup y.1 = some .local)
    (k1 : scope.names.lookup x1 = some .local) (k2 : scope.names.lookup x2 = some .local) (k3 : scope.names.lookup x3 = some .local) (n12 : x1 ≠ x2) (n13 : x1 ≠ x3) (hd : (x1 == ("__debug__" : Str)) = false)
    (hs : ∀ x, foldedSetIterable iter env x = pure x)
    (hev : ∀ (Q' : Value → Shared → Prop), Q' (.ref l) s → wpAny (model prog w) A (eval iter env) Q' E s)
    (h : ∀ D ys h' tk', Fr h₀ L h' m → News h₀ L h' ((D, listOf (List.toArray ys) ys.length) :: news) → (∀ p ∈ news, p.1 < D) → IntsAre ys (ss.map (·.1)) → Q (.ref D) { s with heap := h', toks := tk' }) :
    wpAny (model prog w) A (eval (.ListComp (.Name x1 pe) [⟨.Tuple [.Name x1 p1, .Name x2 p2, .Name x3 p3] tk tp, iter, [], 0⟩] scope pos) env) Q E s := by
  rw [eval_ListComp]
  refine wpAny_comprehension_free (use := none) rfl hs hclos hkind hnames (hev _ ?_)
  have hL := News.isList N hl
  have hlt : l < s.heap.objs.size := Heap.lt_size (N _ hl).1
  refine wpAny_pyIter_list hL ?_
  generalize hs2 : ({ s with heap := s.heap.push { cls := .type "list_iterator", data := .fields #[.ref l, .int 0 0] } } : Shared) = s2
  have zs2 : s2.heap = s.heap.push { cls := .type "list_iterator", data := .fields #[.ref l, .int 0 0] } := by rw [← hs2]
  have up2 : ∀ b o, s.heap.get? b = some o → s2.heap.get? b = some o := fun b o e => by rw [zs2]; exact Heap.get?_push_of_some _ e
  have sz2 : s2.heap.objs.size = s.heap.objs.size + 1 := by rw [zs2, Heap.size_push]
  have it2 : s2.heap.IsListIter s.heap.objs.size l 0 := by rw [zs2]; exact ⟨_, Heap.get?_push_size _ rfl, rfl, rfl⟩
  refine wpAny_newObj_type (wpAny_newFunctionEnv hcell (by intro y hy; simp at hy) (fun h₁ hns₁ hsb₁ => ?_) hkind)
  dsimp only at hns₁ hsb₁ ⊢
  generalize hH3 : s2.heap.push { cls := .type "list", dict := none, data := .seq ([] : List Value).toArray } = H3 at hns₁ hsb₁ ⊢
  have sz3 : H3.objs.size = s.heap.objs.size + 2 := by rw [← hH3, Heap.size_push, sz2]
  have upC : ∀ b o, b ≠ H3.objs.size → H3.get? b = some o → h₁.get? b = some o := fun b o hb e => hsb₁.extBut b o hb (Heap.get?_push_of_some _ e)
  have up3 : ∀ b o, s2.heap.get? b = some o → H3.get? b = some o := fun b o e => by rw [← hH3]; exact Heap.get?_push_of_some _ e
  have oldne : ∀ b, b < s.heap.objs.size → b ≠ s.heap.objs.size ∧ b ≠ s2.heap.objs.size ∧ b ≠ H3.objs.size := fun b hb => by
    rw [sz2, sz3]
    exact ⟨Nat.ne_of_lt hb, Nat.ne_of_lt (Nat.lt_succ_of_lt hb), Nat.ne_of_lt (Nat.lt_succ_of_lt (Nat.lt_succ_of_lt hb))⟩
  have nID : s.heap.objs.size ≠ s2.heap.objs.size := by rw [sz2]; exact Nat.ne_of_lt (Nat.lt_succ_self _)
  have nIC : s.heap.objs.size ≠ H3.objs.size := by rw [sz3]; exact Nat.ne_of_lt (Nat.lt_succ_of_lt (Nat.lt_succ_self _))
  have nDC : s2.heap.objs.size ≠ H3.objs.size := by rw [sz2, sz3]; exact Nat.ne_of_lt (Nat.lt_succ_self _)
  have nld : l ≠ s2.heap.objs.size := (oldne l hlt).2.1
  have nlc : l ≠ H3.objs.size := (oldne l hlt).2.2
  have keep1 : ∀ b o, s.heap.get? b = some o → h₁.get? b = some o := fun b o e => upC b o (oldne b (Heap.lt_size e)).2.2 (up3 b o (up2 b o e))
  have it1 : h₁.IsListIter s.heap.objs.size l 0 := it2.at fun o e => upC _ o nIC (up3 _ o e)
  have acc1 : h₁.get? s2.heap.objs.size = some (lst []) := upC _ _ nDC (by rw [← hH3]; exact Heap.get?_push_size _ rfl)
  have W := Walks.list (prog := prog) (w := w) hh s.heap.objs.size l (Nat.ne_of_lt hlt) vs.toArray
  have hvl : vs.length = ss.length := hi.1
  have loop : ∀ s₃ : Shared, s₃ = { s2 with heap := h₁, toks := s2.toks + ([] : List (Str × Value)).length } →
      codeAny (model prog w) A (.compLoop (.ListComp (.Name x1 pe) [⟨.Tuple [.Name x1 p1, .Name x2 p2, .Name x3 p3] tk tp, iter, [], 0⟩] scope pos) 0 (.ref s.heap.objs.size) (.ref s2.heap.objs.size) (compEnvC scope cl H3.objs.size env))
        (compPost (model prog w) A E none Q (.ref s2.heap.objs.size) H3.objs.size) s₃ := by
    rintro s₃ rfl
    refine LCp.codeAny_compLoop_pair
      (fun j s' => ∃ h' tk' i ys m', s' = { s2 with heap := h', toks := tk' } ∧ i ≤ vs.length ∧ j = vs.length + 1 - i ∧ ys.length = i ∧ h'.IsListIter s.heap.objs.size l i ∧ (∀ b o, s.heap.get? b = some o → h'.get? b = some o) ∧ h'.Ns H3.objs.size m' ∧
        h'.get? s2.heap.objs.size = some (lst ys) ∧ IntsAre ys ((ss.take i).map (·.1))) ?_ (vs.length + 1) ⟨h₁, _, 0, [], _, rfl, Nat.zero_le _, rfl, rfl, it1, keep1, hns₁, acc1, .nil⟩
    rintro j s' ⟨h', tk', i, ys, m', rfl, hil, rfl, hyl, it, kp, hn, hD, hys⟩
    have hLs : h'.IsList l vs.toArray := hL.at fun o e => kp l o e
    rcases Nat.lt_or_eq_of_le hil with hlt' | rfl
    · refine W.item i _ _ _ (by rw [List.size_toArray]; exact hlt') ⟨it, hLs⟩ fun v h₂ tk₂ hPv st₂ hk₂ => ?_
      have hxs : ss[i]? = some ss[i] := List.getElem?_eq_getElem (by omega)
      obtain ⟨p, t1, t2, t3, q1, q2⟩ := hi.2 i _ hxs
      have hPv' : vs[i]? = some v := by simpa using hPv
      obtain rfl : v = .ref p := Option.some.inj (hPv'.symm.trans q1)
      have sub2 : ∀ b o, b ≠ s.heap.objs.size → h'.get? b = some o → h₂.get? b = some o := fun b o hb e => hk₂ b o (by simpa using hb) e
      have kp2 : ∀ b o, s.heap.get? b = some o → h₂.get? b = some o := fun b o e => sub2 b o (oldne b (Heap.lt_size e)).1 (kp b o e)
      have ht : IsTup h₂ p #[.int (ss[i]).1 t1, .int (ss[i]).2.1 t2, .str (ss[i]).2.2 t3] := ⟨_, kp2 _ _ (N _ q2).1, rfl, _, rfl⟩
      have hn2 : h₂.Ns H3.objs.size m' := hn.at' fun o e => sub2 _ o (Ne.symm nIC) e
      have hD2 : h₂.get? s2.heap.objs.size = some (lst ys) := sub2 _ _ (Ne.symm nID) hD
      refine wpAny_letOwnedTupleGo_listiter st₂.1 ?_
      refine assign_Tuple_tuple hh ht rfl rfl fun h₅ he => ?_
      have he' : ∀ b o, h₂.get? b = some o → h₅.get? b = some o := fun b o e => he b o (Nat.ne_of_lt (Heap.lt_size e)) e
      refine assignInOrder_cons (wpAny_assign_Name (wpAny_storeName_local (lookup_relabel_local k1) (hn2.at' fun o e => he' _ o e) (fun h₆ hn₆ hs₆ => ?_) (by simp [compEnvC, relabel, hkind])))
      refine assignInOrder_cons (wpAny_assign_Name (wpAny_storeName_local (lookup_relabel_local k2) hn₆ (fun h₇ hn₇ hs₇ => ?_) (by simp [compEnvC, relabel, hkind])))
      refine assignInOrder_cons (wpAny_assign_Name (wpAny_storeName_local (lookup_relabel_local k3) hn₇ (fun h₈ hn₈ hs₈ => ?_) (by simp [compEnvC, relabel, hkind])))
      refine assignInOrder_nil ?_
      have sub8 : ∀ b o, b ≠ H3.objs.size → h₂.get? b = some o → h₈.get? b = some o := fun b o hb e => hs₈.extBut b o hb (hs₇.extBut b o hb (hs₆.extBut b o hb (he' b o e)))
      refine ldVarK hn₈ (v := .int (ss[i]).1 t1) (by simp [n12, n13]) ?_ (by simp [compEnvC, relabel, hkind]) (lookup_relabel_local k1) hd
      refine append_at (hsz := by rw [List.size_toArray, hyl, sizeLine_eq]; omega) (sub8 _ _ nDC hD2) fun h₉ hs₉ hD₉ => ?_
      have sub9 : ∀ b o, b ≠ s2.heap.objs.size → h₈.get? b = some o → h₉.get? b = some o := fun b o hb e => hs₉.extBut b o hb e
      refine ⟨vs.length + 1 - (i + 1), by omega, h₉, _, i + 1, ys ++ [.int (ss[i]).1 t1], _, rfl, hlt', rfl, by rw [List.length_append, hyl]; rfl, ?_, ?_, hn₈.at' fun o e => sub9 _ o (Ne.symm nDC) e, ?_, ?_⟩
      · exact st₂.1.at fun o e => sub9 _ o nID (sub8 _ o nIC e)
      · exact fun b o e => sub9 b o (oldne b (Heap.lt_size e)).2.1 (sub8 b o (oldne b (Heap.lt_size e)).2.2 (kp2 b o e))
      · exact hD₉.trans (congrArg some (lst_snoc ys _))
      · rw [List.take_add_one, hxs, List.map_append]
        exact ints_snoc hys
    · refine W.done _ _ _ (by rw [List.size_toArray]; exact ⟨it, hLs⟩) fun h₂ tk₂ hk₂ => ?_
      have sub2 : ∀ b o, b ≠ s.heap.objs.size → h'.get? b = some o → h₂.get? b = some o := fun b o hb e => hk₂ b o (by simpa using hb) e
      refine ⟨m', hn.at' fun o e => sub2 _ o (Ne.symm nIC) e, fun h₃ hs₃ => ?_⟩
      have kp3 : ∀ b o, s.heap.get? b = some o → h₃.get? b = some o := fun b o e => hs₃.extBut b o (oldne b (Heap.lt_size e)).2.2 (sub2 b o (oldne b (Heap.lt_size e)).1 (kp b o e))
      have hLlt : L < s.heap.objs.size := F.ns.lt
      have e9 : ({ s2 with heap := h₃, toks := tk₂ } : Shared) = { s with heap := h₃, toks := tk₂ } := by rw [← hs2]
      show Q _ ({ s2 with heap := h₃, toks := tk₂ } : Shared)
      rw [e9]
      refine h _ ys h₃ tk₂ (F.keeps kp3) (fun p hp => ?_) (fun p hp => ?_) ?_
      · rcases List.mem_cons.mp hp with rfl | hp
        · refine ⟨hs₃.extBut _ _ nDC (sub2 _ _ (Ne.symm nID) hD), Ne.symm (oldne L hLlt).2.1, Heap.get?_none_of_le ?_⟩
          rw [sz2]
          exact Nat.le_trans F.above (Nat.le_of_lt (Nat.lt_succ_of_lt hLlt))
        · exact N.grown kp3 p hp
      · rw [sz2]; exact Nat.lt_succ_of_lt (Heap.lt_size (N p hp).1)
      · rw [hvl, List.take_length] at hys; exact hys
  exact codeAny_compStart_list (loop _ rfl) (W.self 0 _ _ _ (by exact ⟨it1, hL.at fun o e => keep1 l o e⟩) (loop _ rfl))
end
end Mine
namespace Mine
theorem news_of {h₀ h : Heap} {L : Addr} {l : Led} (N : News h₀ L h l) (l' : Led) (hs : ∀ p ∈ l', p ∈ l) : News h₀ L h l' := fun p hp => N p (hs p hp)
theorem bl_eq (w : World) (news : Led) (l : Addr) (vs : List Value) (ns : List Int) (k : Nat) (x : Int) (t : Tok) (c : Nat)
   (hl : (l, listOf vs.toArray k) ∈ news) (hi : IntsAre vs ns) (hsz : ns.length < 1000) (hs : Srt ns) (hc : ns.countP (· < x) = c) : Tell w 0 77 [.ref l, .int x t] news fun v news' => ∃ t, v = .int (c : Nat) t ∧ news' = news := by
  subst hc
  exact bl_spec w news l vs ns k x t hl hi hsz hs
theorem br_eq (w : World) (news : Led) (l : Addr) (vs : List Value) (ns : List Int) (k : Nat) (x : Int) (t : Tok) (c : Nat)
   (hl : (l, listOf vs.toArray k) ∈ news) (hi : IntsAre vs ns) (hsz : ns.length < 1000) (hs : Srt ns) (hc : ns.countP (· ≤ x) = c) : Tell w 0 59 [.ref l, .int x t] news fun v news' => ∃ t, v = .int (c : Nat) t ∧ news' = news := by
  subst hc
  exact br_spec w news l vs ns k x t hl hi hsz hs
theorem add_new {prog : Program} {w : World} {A : Around} {E : Value → Shared → Prop} {s : Shared} {x y : Str} {t u : Tok} {Q : Value → Shared → Prop} {n : Nat} (hn : n ≤ s.toks) (hx : 0 < x.length) (hy : 0 < y.length) (hsz : x.length + y.length ≤ 1000000)
    (h : ∀ t' tk, n ≤ t' → n ≤ tk → Q (.str (x ++ y) t') { s with toks := tk }) : wpAny (model prog w) A (binaryOp .Add (.str x t) (.str y u)) Q E s := by
  refine binaryOp_concat (typeIs_str s x t) (typeIs_str s y u) PyProof.Rows.noFill_str_add PyProof.Rows.seq_str_add ?_
  refine wpAny_call_entry slot_str_add (typeIs_str s x t) entry_str_add ?_ (args_str_add _ _)
  show wpAny _ _ (do
    if (true && x.length == 0) = true then (do rule "str.__add__.left-empty"; ret (.str y u)) else
    if (true && y.length == 0) = true then (do rule "str.__add__.right-empty"; ret (.str x t)) else
    retStr (x ++ y)) _ _ s
  have hx0 : (x.length == 0) = false := by rw [beq_eq_false_iff_ne]; omega
  have hy0 : (y.length == 0) = false := by rw [beq_eq_false_iff_ne]; omega
  rw [hx0, hy0]
  exact wpAny_bind (wpAny_mkStr (wpAny_pure ⟨_, rfl, h _ _ hn (Nat.le_succ_of_le hn)⟩) (by rw [Str.length_append, sizeLine_eq]; omega))
theorem dig_len : ∀ f ∈ [0, 1, 2, 3, 4], 0 < (Str.ofString (toString ((f : Nat) : Int))).length ∧ (Str.ofString (toString ((f : Nat) : Int))).length ≤ 10 := by decide +kernel
theorem toks_hide {M : Model} {A : Around} {α : Type} {c : Sem α} {Q : α → Shared → Prop} {E : Value → Shared → Prop} {s : Shared} (h : ∀ n, 1 ≤ n → wpAny M A c Q E { s with toks := n }) (hk : 1 ≤ s.toks) : wpAny M A c Q E s := h _ hk
theorem rev_slice {prog : Program} {w : World} {A : Around} {E : Value → Shared → Prop} {s : Shared} {h₀ : Heap} {L l : Addr} {m : Str → Option Value} {news : List (Addr × Obj)} {value slice : PySem.Expr} {vs : List Value} {vk : Value} {ops : List Value} {Q : Value → Shared → Prop} (F : Fr h₀ L s.heap m) (N : News h₀ L s.heap news) (hl : s.heap.IsList l vs.toArray) (pk : IsPart vk (some (-1)))
    (h : ∀ D h', Fr h₀ L h' m → News h₀ L h' ((D, listOf vs.reverse.toArray 0) :: news) → (∀ p ∈ news, p.1 < D) → Q (.ref D) { s with heap := h' })
    (hs : subscripted slice false (.ref l) (.ref s.heap.objs.size) = operate ops (getItem (.ref l) (.ref s.heap.objs.size))) (ht : ∀ r, letTemporaryGo value (.ref l) r = pure ()) (hz : vs.length ≤ 1000000) :
    wpAny (model prog w) A (subscriptTail value slice (.ref l) (.ref s.heap.objs.size)) Q E { s with heap := s.heap.push { cls := .type "slice", data := .fields #[.none, .none, vk] } } :=
  krv_lit (its := vs.toArray) (zs := vs.reverse) F N hl pk rfl h hs ht (by rw [sizeLine_eq]; simp; omega)
inductive BackJ (RW RV l : Addr) (vs : List Value) (news : Led) (m0 : Str → Option Value) (A B : Str) (row : List Int) (m' : Str → Option Value) (n' : Led) : Prop
  | mk (t1 t2 : Tok) (vr : List Value) (kr : Nat) (hS : Same ["came", "gone", "name", "ahead", "behind", "above", "beyond"] [("row", .ref RW), ("address", .str (A ++ Str.ofString "\n") t1), ("turned", .str B t2), ("stays", .ref l)] m0 m')
    (hn : n' = (RV, listOf (List.toArray vs.reverse) 0) :: (RW, listOf (List.toArray vr) kr) :: news) (hr : IntsAre vr row) : BackJ RW RV l vs news m0 A B row m' n'
theorem back_spec (w : World) (news : Led) (l : Addr) (vs : List Value) (ss : List Stay) (k : Nat) (fa fb : List Nat) (ta tb : Tok)
   (hl : (l, listOf vs.toArray k) ∈ news) (hi : StaysAre news vs ss) (h5 : ss.length = 5) (ha5 : fa.length = 5) (hb5 : fb.length = 5) (hfa : ∀ f ∈ fa, f < 5) (hfb : ∀ f ∈ fb, f < 5) (hB : BackOk ss fa fb) :
   Tell w 2 171 [.ref l, .str (adX fa) ta, .str (adX fb) tb] news fun v n => v = .bool true ∧ n = news := by
  w_top off; have hfill9 := (show top0.heap_39 = top0.heap_39 ∧ PySem.Challenge.rw_xe0021_01 = PySem.Challenge.rw_xe0021_01 by k_fill; exact ⟨rfl, rfl⟩); clear hfill9; k_with_none
  k_with "M9" => (k_here; (with_reducible show wpAny _ _ (subscriptTail _ (PySem.Expr.Slice none none (some _) _) (Value.ref _) (Value.ref _)) _ _ _); k_dflt (refine' rev_slice ?Fq5439 ?Nq5439 ?lq5439 ?kq5439 ?_ ?sq5439 ?tq5439 ?zq5439; (case Fq5439 => k_asm); (case Nq5439 => k_asm); (case lq5439 => exact News.isList (by k_asm) (by k_mem)); (case kq5439 => exact IsPart.int _ _); (case sq5439 => with_unfolding_all rfl); (case tq5439 => kmk_pure); (case zq5439 => omega)); intro _ _ _ _ l1; (try k_lt l1); revert l1; intro _; (try k_sweep))
  k_with "M9" => (k_here; (with_reducible show wpAny _ _ (call (Value.ref 77) [Value.ref _, Value.int _ _]) _ _ _); k_dflt (refine' Tell.use ?Nq1149 ?Bq1149 ?Fq1149 ?Xq1149 ?Tq1149 rfl rfl ?dq1149 ?uq1149 (bl_eq _ _ _ _ _ _ _ _ _ ?h1q1149 ?h2q1149 ?h3q1149 ?h4q1149 ?h5q1149) ?_; (case Nq1149 => k_asm); (case Bq1149 => k_asm); (case Fq1149 => k_asm); (case Xq1149 => k_asm); (case Tq1149 => k_asm); (case dq1149 => exact Nat.le_of_ble_eq_true rfl); (case uq1149 => exact Nat.le_of_ble_eq_true rfl); (case h1q1149 => first | assumption | k_mem); (case h2q1149 => assumption); (case h3q1149 => omega); (case h4q1149 => assumption); (case h5q1149 => assumption); k_whole); intro _ _ _ _ _ _ P'; obtain ⟨_, e1, e2⟩ := P'; subst e1; replace e2 := e2.symm; subst e2; (try k_sweep))
  k_with "M9" => (k_here; (with_reducible show wpAny _ _ (call (Value.ref 59) [Value.ref _, Value.int _ _]) _ _ _); k_dflt (refine' Tell.use ?Nq1155 ?Bq1155 ?Fq1155 ?Xq1155 ?Tq1155 rfl rfl ?dq1155 ?uq1155 (br_eq _ _ _ _ _ _ _ _ _ ?h1q1155 ?h2q1155 ?h3q1155 ?h4q1155 ?h5q1155) ?_; (case Nq1155 => k_asm); (case Bq1155 => k_asm); (case Fq1155 => k_asm); (case Xq1155 => k_asm); (case Tq1155 => k_asm); (case dq1155 => exact Nat.le_of_ble_eq_true rfl); (case uq1155 => exact Nat.le_of_ble_eq_true rfl); (case h1q1155 => first | assumption | k_mem); (case h2q1155 => assumption); (case h3q1155 => omega); (case h4q1155 => assumption); (case h5q1155 => assumption); k_whole); intro _ _ _ _ _ _ P'; obtain ⟨_, e1, e2⟩ := P'; subst e1; replace e2 := e2.symm; subst e2; (try k_sweep))
  k_with "M9" => (k_here; (with_reducible show wpAny _ _ (call (Value.ref 68) [Value.ref _, Value.int _ _]) _ _ _); k_dflt (refine' Tell.use ?Nq6105 ?Bq6105 ?Fq6105 ?Xq6105 ?Tq6105 rfl rfl ?dq6105 ?uq6105 (in_spec _ _ _ _ _ _ _ _ _ ?h1q6105 ?h2q6105 ?h3q6105 ?h4q6105) ?_; (case Nq6105 => k_asm); (case Bq6105 => k_asm); (case Fq6105 => k_asm); (case Xq6105 => k_asm); (case Tq6105 => k_asm); (case dq6105 => exact Nat.le_of_ble_eq_true rfl); (case uq6105 => exact Nat.le_of_ble_eq_true rfl); (case h1q6105 => intro _; k_upd); (case h2q6105 => assumption); (case h3q6105 => omega); (case h4q6105 => assumption); k_whole); intro _ _ _ _ _ _ P'; obtain ⟨e1, _, _, e2⟩ := P'; subst e1; subst e2; (try k_sweep))
  k_with "M9" => (k_here; (with_reducible show wpAny _ _ (call (Value.ref 50) [Value.str _ _]) _ _ _); k_dflt (refine' Tell.use ?Nq1917 ?Bq1917 ?Fq1917 ?Xq1917 ?Tq1917 rfl rfl ?dq1917 ?uq1917 (hdn_yes _ _ _ _ _ _ ?h1q1917 ?h2q1917) ?_; (case Nq1917 => k_asm); (case Bq1917 => k_asm); (case Fq1917 => k_asm); (case Xq1917 => k_asm); (case Tq1917 => k_asm); (case dq1917 => exact Nat.le_of_ble_eq_true rfl); (case uq1917 => exact Nat.le_of_ble_eq_true rfl); (case h1q1917 => assumption); (case h2q1917 => assumption); k_whole); intro _ _ _ _ _ _ P'; obtain ⟨e1, e2⟩ := P'; subst e1; replace e2 := e2.symm; subst e2; (try k_sweep))
  k_with "M9" => (k_here; (with_reducible show wpAny _ _ (call (Value.ref 38) [Value.ref _]) _ _ _); k_dflt (refine' Tell1.use ?Nq9272 ?Bq9272 ?Fq9272 ?Xq9272 ?Tq9272 rfl rfl ?dq9272 ?uq9272 (unm1_spec _ _ _ _ _ _ _ _ _ _ ?h1q9272 ?h2q9272 ?h3q9272 ?h4q9272) ?_; (case Nq9272 => k_asm); (case Bq9272 => k_asm); (case Fq9272 => k_asm); (case Xq9272 => k_asm); (case Tq9272 => k_asm); (case dq9272 => exact Nat.le_of_ble_eq_true rfl); (case uq9272 => exact Nat.le_of_ble_eq_true rfl); (case h1q9272 => k_mem); (case h2q9272 => k_mem); (case h3q9272 => with_reducible assumption); (case h4q9272 => with_reducible assumption); k_whole); intro _ _ _ _ _ _ _ P'; obtain ⟨_, e1, e2⟩ := P'; subst e1; replace e2 := e2.symm; subst e2; (try k_sweep))
  k_with "M9" => (k_here; (with_reducible show wpAny _ _ (getMethod (Value.ref 43) (PySem.Str.ofString "search") _) _ _ _); k_dflt (refine' getMethod_search ?Fq6308 ?Xq6308 ?_; (case Fq6308 => k_asm); (case Xq6308 => k_asm); k_whole))
  k_with "M9" => ((with_reducible show wpAny _ _ (call (Value.builtin "re.Pattern.search") _) _ _ _); (k_here; k_dflt (refine' search_some ?Fq7743 ?Nq7743 ?Xq7743 ?rq7743 ?zq7743 ?_; (case rq7743 => assumption); (case Fq7743 => k_asm); (case Nq7743 => k_asm); (case Xq7743 => k_asm); (case zq7743 => assumption); k_whole; intro _ _ _ _ _ l1 _; (try k_lt l1); revert l1; intro _; (try k_sweep))))
  k_with "M9" => ((with_reducible show wpAny _ _ (inplaceOp Operator.Add (Value.str _ _) (Value.str _ _)) _ _ _); (k_here; k_dflt (refine' PyProof.Rows.iadd_str ?_ ?hszq3815; (case hszq3815 => (rw [sizeLine_eq]; simp only [Str.length_append, lit_nl]; omega)); k_whole); intro _ _))
  k_with "M9" => ((with_reducible show wpAny _ _ (binaryOp Operator.Add (Value.str _ _) (Value.str _ _)) _ _ _); (k_here; k_dflt (refine' PyProof.Rows.add_str ?_ ?hszq3710; (case hszq3710 => (rw [sizeLine_eq]; simp only [Str.length_append, lit_nl]; omega)); k_whole); intro _ _))
  have hln : vs.length = 5 := hi.1.trans h5
  have hla : (adX fa).length ≤ 11 := by rw [adX_length hfa]; omega
  intro nm ig ic mr gd cn a ccd cl outer A₀ base h₀ L m s Q E p loose mean mg mb B F X N T hret
  k_enter
  repeat' (first | (k_unfold; (try dsimp only)) | (k_end; wrow_close) | ((fail_if_success (with_reducible show wpAny _ _ (exec (Stmt.While _ _ _ _) _) _ _ _)); (fail_if_success (with_reducible show wpAny _ _ (exec (Stmt.For _ _ _ _ _) _) _ _ _)); (first | k_extra "M9" | walk1)) | (dsimp only; (first | k_extra "M9" | walk1)) | (leave1; walk_say "STEP leave1"; try dsimp only) | fail "no step")
  rename Fr _ _ _ _ => F1
  k_dflt (refine' For_turns F1 ?_)
  repeat' (first | ((fail_if_success (with_reducible show wpAny _ _ (pyIter _) _ _ _)); (first | k_extra "M9" | walk1)))
  rename Fr _ _ _ _ => F1
  rename News _ _ _ _ => N1
  rename ∀ p ∈ news, p.1 < _ => lc
  rename _ ∧ AllLt _ news => lg
  rename_i RW _ _ _ _ _ RV _
  obtain ⟨m0, A0, F0⟩ := named F1 [("row", .ref RW), ("address", .str (adX fa ++ Str.ofString "\n") _), ("turned", .str (adX fb) _), ("stays", .ref l)] (by (repeat (refine allAt_cons (by with_unfolding_all rfl) ?_)); exact allAt_nil)
  k_dflt (refine' iter_listTurns rfl F0 N1 (.head _) rfl rfl (fun I lI => items_inv (fun i => BackJ RW RV l vs news m0 (adX (fa.drop i)) (adX (fb.drop i)) (backRow ss i)) ?turn ?done 0 _ _ (Nat.zero_le _) ?j0))
  case j0 => exact ⟨_, _, [], _, same_start A0, rfl, .nil⟩
  case turn =>
    rintro i x m' n' v h tk hx ⟨t1, t2, vr, kr, hS, rfl, hvr⟩ hv F2 o ho PP hPP N2
    simp only [List.getElem?_map, Option.map_eq_some_iff] at hx
    obtain ⟨x, hx, rfl⟩ := hx
    obtain rfl : v = x := hv
    have hil : i < 5 := by have := (List.getElem?_eq_some_iff.mp hx).1; simp at this; omega
    have hrl : ss.reverse.length = 5 := by rw [List.length_reverse, h5]
    have hxs : ss.reverse[i]? = some ss.reverse[i] := List.getElem?_eq_getElem (by omega)
    obtain ⟨b1, b2⟩ := hB i _ hxs
    have e1 := backRow_succ ss i _ hxs
    generalize ss.reverse[i] = y at *
    have hxr : ss[4 - i]? = some y := by rw [List.getElem?_reverse (by omega)] at hxs; rw [← hxs]; congr 1; omega
    have hvr' : vs[4 - i]? = some v := by rw [List.getElem?_reverse (by omega)] at hx; rw [← hx]; congr 1; omega
    obtain ⟨p, u1, u2, u3, hp1, hp2⟩ := hi.2 _ _ hxr
    obtain rfl : v = .ref p := Option.some.inj (hvr'.symm.trans hp1)
    replace lI := allLt_of lI
    simp only [AllLt] at lI
    have F3 := same_fr hS F2
    simp only [List.cons_append, List.nil_append] at N2
    clear F2 F1 F0 N1 hS
    have s1 : Srt (backRow ss i) := srt_iff.mpr (backRow_srt ss i)
    have hbl : (backRow ss i).length = i := backRow_len ss i (by omega)
    rw [drop_get (by omega : i < fa.length), drop_get (by omega : i < fb.length)] at F3
    have hfa' : ∀ f ∈ fa.getD i 0 :: fa.drop (i + 1), f < 5 := fun f hf => by
      rcases List.mem_cons.mp hf with rfl | hf
      · exact hfa _ (mem_getD (by omega))
      · exact hfa _ (List.mem_of_mem_drop hf)
    have hfb' : ∀ f ∈ fb.getD i 0 :: fb.drop (i + 1), f < 5 := fun f hf => by
      rcases List.mem_cons.mp hf with rfl | hf
      · exact hfb _ (mem_getD (by omega))
      · exact hfb _ (List.mem_of_mem_drop hf)
    have g1 := adX_length hfa'
    have g2 := adX_length hfb'
    have g3 := adX_length fun f hf => hfa' f (.tail _ hf)
    have g4 := adX_length fun f hf => hfb' f (.tail _ hf)
    simp only [List.length_cons, List.length_drop] at g1 g2 g3 g4
    have sa := sre_adr _ _ hfa' (adX (fa.getD i 0 :: fa.drop (i + 1)) ++ Str.ofString "\n").cps [10] (by rw [str_toList]; rfl) (.inr rfl)
    have sb := sre_adr _ _ hfb' (adX (fb.getD i 0 :: fb.drop (i + 1))).cps [] (by rw [List.append_nil]) (.inl rfl)
    have ua := unm_adr _ _ hfa' (Str.ofString "\n")
    have ub : PySem.Txt.slice (adX (fb.getD i 0 :: fb.drop (i + 1))) none (some ((1 + 2 * (fb.drop (i + 1)).length : Nat) : Int)) ++ PySem.Txt.slice (adX (fb.getD i 0 :: fb.drop (i + 1))) (some ((1 + 2 * (fb.drop (i + 1)).length + 2 : Nat) : Int)) none = adX (fb.drop (i + 1)) := by
      have := unm_adr _ _ hfb' (Str.ofString "")
      rwa [str_nil, str_nil] at this
    have ra : ∀ n : Nat, n = fa.getD i 0 → adX (fa.getD i 0 :: fa.drop (i + 1)) ++ Str.ofString "\n" = PySem.Txt.replace (adX (fa.drop (i + 1)) ++ Str.ofString "\n") (Str.ofString "\n") (dotW n ++ Str.ofString "\n") := by
      rintro n rfl
      rw [repl_end _ _ (adX_no10 _ fun f hf => hfa' f (.tail _ hf))]
      exact str_assoc _ _ _
    have rb : adX (fb.getD i 0 :: fb.drop (i + 1)) = adX (fb.drop (i + 1)) ++ dotW (fb.getD i 0) := rfl
    have f1 := hfa' _ (.head _)
    have f2 := hfb' _ (.head _)
    generalize fa.getD i 0 = f at *
    generalize fb.getD i 0 = g at *
    generalize hA1 : adX (f :: fa.drop (i + 1)) = A1 at *
    generalize hB1 : adX (g :: fb.drop (i + 1)) = B1 at *
    generalize hA2 : adX (fa.drop (i + 1)) = A2 at *
    generalize hB2 : adX (fb.drop (i + 1)) = B2 at *
    have za : (A1 ++ Str.ofString "\n").cps.size ≤ 1000000 := by
      have : (A1 ++ Str.ofString "\n").length = A1.length + 1 := by rw [Str.length_append, lit_nl.1]
      unfold Str.length at this g1
      omega
    have zb : B1.cps.size ≤ 1000000 := by unfold Str.length at g2; omega
    replace ra := Keep.mk ra
    replace rb := Keep.mk rb
    replace e1 := Keep.mk e1
    dsimp only [envOf] at F3 N2
    (try k_fold)
    have hT := News.isTup N2 (.tail _ (.tail _ (.tail _ hp2)))
    k_dflt (refine' unpackN_ F3 N2 hT ?k1 ?k2 ?k3 ?_)
    case k1 => exact rfl
    case k2 => exact rfl
    case k3 => exact rfl
    intro h' F' N'
    clear F3 N2
    repeat' (first | ((fail_if_success (with_reducible show wpAny _ _ (storeName _ (PySem.Str.ofString "beyond") _) _ _ _)); (first | k_extra "M9" | walk1)))
    rename 1 ≤ _ => hk1
    refine wpAny_with_toks (n := 1) hk1 ?_
    repeat' (first | ((fail_if_success (with_reducible show 1 ≤ _ → _)); (first | k_extra "M9" | walk1)))
    intro hk2
    refine toks_hide (fun tk9 hk9 => ?_) hk2
    clear hk2
    repeat' (first | ((fail_if_success (with_reducible show wpAny _ _ (call (Value.type "str") _) _ _ _)); (first | k_extra "M9" | walk1)))
    refine wpAny_with_toks (n := tk9 + 1) (Nat.le_succ _) ?_
    repeat' (first | ((fail_if_success (with_reducible show tk9 + 1 ≤ _ → _)); (first | k_extra "M9" | walk1)))
    intro hk3
    obtain ⟨dl1, dl2⟩ := dig_len f (five f1)
    have dl3 : (Str.ofString "." ++ Str.ofString (toString ((f : Nat) : Int))).length = 1 + (Str.ofString (toString ((f : Nat) : Int))).length := by rw [Str.length_append, lit_nl.2]
    refine add_new hk3 (by rw [lit_nl.2]; exact Nat.one_pos) dl1 (by rw [lit_nl.2]; omega) ?_
    intro t5 tk5 hk5 hk6
    repeat' (first | ((fail_if_success (with_reducible show wpAny _ _ (binaryOp _ _ _) _ _ _)); (first | k_extra "M9" | walk1)))
    refine add_new (n := tk9 + 1) (Nat.le_succ_of_le hk6) (by rw [dl3]; omega) (by rw [lit_nl.1]; exact Nat.one_pos) (by rw [lit_nl.1, dl3]; omega) ?_
    intro t6 tk6 hk7 hk8
    repeat' (first | ((fail_if_success (with_reducible show wpAny _ _ (call (Value.builtin "str.replace") _) _ _ _)); (first | k_extra "M9" | walk1)))
    refine SC.replaceW (Nat.pos_iff_ne_zero.mp hk9) (Nat.ne_of_gt (Nat.lt_of_lt_of_le (Nat.succ_pos _) hk7)) (Nat.ne_of_lt hk7) ?yz ?xl ?zl ?_
    case yz =>
      rw [beq_eq_false_iff_ne]
      intro e
      have := congrArg Str.length e
      rw [Str.length_append, dl3, lit_nl.1] at this
      omega
    case xl => rw [Str.length_append, lit_nl.1]; omega
    case zl => rw [Str.length_append, dl3, lit_nl.1]; omega
    intro t7 tk7
    clear hk3 hk5 hk6 hk7 hk8 hk9
    refine ne_str_known (ra.h f rfl) ?_
    repeat' (first | ((fail_if_success (with_reducible show wpAny _ _ (compareOp CmpOp.NotEq _ _) _ _ _)); (first | k_extra "M9" | walk1)))
    refine ne_str_known (by rw [show ((f + g : Nat) : Int) - (f : Int) = ((g : Nat) : Int) by omega]; exact rb.h.trans (str_assoc _ _ _).symm) ?_
    repeat' (first | ((fail_if_success (with_reducible show wpAny _ _ (call (Value.ref 68) _) _ _ _)); (first | k_extra "M9" | walk1)))
    rename News _ _ _ (_ :: _) => N8
    have N9 := news_of N8 ((I, o) :: (RV, listOf (List.toArray vs.reverse) 0) :: (RW, listOf (List.toArray vr) kr) :: news) (fun p hp => .tail _ (.tail _ (.tail _ (.tail _ hp))))
    clear N8
    repeat' (first | (k_unfold; (try dsimp only)) | (k_end; wrow_close) | (first | k_extra "M9" | walk1) | (dsimp only; (first | k_extra "M9" | walk1)) | (leave1; walk_say "STEP leave1"; try dsimp only) | fail "no step")
    rename News _ _ _ _ => N9
    rename Fr _ _ _ _ => F9
    rename IntsAre _ (_ ++ _) => hi9
    refine hPP _ ?_
    rw [e1.h]
    refine' turn_end F9 N9 ((RV, _) :: (RW, _) :: news) (fun q hq => ?a1) (fun q hq => .tail _ hq) (fun q hq r hr => ?a2) ⟨⟨.head _, trivial⟩, _, _, _, _, same_of ?sm ?sr, rfl, hi9⟩
    case a1 => rw [List.mem_singleton.mp hq]; exact .head _
    case a2 =>
      rw [List.mem_singleton.mp hr]
      rcases List.mem_cons.mp hq with e | hq
      · rw [e]; exact Nat.ne_of_lt lI.1
      rcases List.mem_cons.mp hq with e | hq
      · rw [e]; exact Nat.ne_of_lt lI.2.1
      · exact off_lt lI.2.2 q hq
    case sm => (repeat (refine allAt_cons (by with_unfolding_all rfl) ?_)); exact allAt_nil
    case sr => (intro z h1 h2; simp only [List.map_cons, List.map_nil, List.mem_cons, List.not_mem_nil, or_false, not_or] at h1 h2; simp [ovr_ne, h1, h2])
  case done =>
    rintro m' n' h tk ⟨t1, t2, vr, kr, hS, rfl, hvr⟩ F2 N2
    have F3 := same_fr hS F2
    clear F2 F1 F0 N1
    have e4 : (vs.reverse.map Itm.val).length = 5 := by rw [List.length_map, List.length_reverse, hln]
    rw [e4] at F3 hvr
    rw [List.drop_eq_nil_of_le (Nat.le_of_eq ha5), List.drop_eq_nil_of_le (Nat.le_of_eq hb5)] at F3
    dsimp only [adX] at F3
    dsimp only [envOf] at F3 N2
    (try k_fold)
    repeat' (first | ((fail_if_success (with_reducible show wpAny _ _ (call (Value.ref 50) _) _ _ _)); (first | k_extra "M9" | walk1)))
    (refine' Tell.use ?N ?B ?F ?X ?T rfl rfl ?d ?u (hdn_no _ _ _ _ sre_x ?h2) ?_; (case N => k_asm); (case B => k_asm); (case F => k_asm); (case X => k_asm); (case T => k_asm); (case d => exact Nat.le_of_ble_eq_true rfl); (case u => exact Nat.le_of_ble_eq_true rfl); (case h2 => decide +kernel); k_whole)
    intro v' news' h' tk' F' N' P'
    obtain ⟨e1, e2⟩ := P'
    subst e1
    replace e2 := e2.symm
    subst e2
    (try k_sweep)
    repeat' (first | ((fail_if_success (with_reducible show wpAny _ _ (eval (Expr.ListComp _ _ _ _) _) _ _ _)); (first | k_extra "M9" | walk1)))
    rename News _ _ _ _ => N5
    rename Fr _ _ _ _ => F5
    refine comp_stays rfl F5 N5 (.tail _ (.tail _ hl)) (hi.sub fun p hp => .tail _ (.tail _ hp)) (by omega) (by with_unfolding_all rfl) (by decide) (by with_unfolding_all rfl) (by decide) (by with_unfolding_all rfl) (by with_unfolding_all rfl) (by with_unfolding_all rfl) (by decide) (by decide) (by decide) (by intro _; with_unfolding_all rfl) ?ev ?_
    case ev => intro Q' hQ'; (first | k_extra "M9" | walk1); exact hQ'
    intro D ys h' tk' F' N' lD hys
    clear F5 N5
    repeat' (first | ((fail_if_success (with_reducible show wpAny _ _ (call (Value.builtin "sorted") _) _ _ _)); (first | k_extra "M9" | walk1)))
    refine kso_sorted (vs := ys) F' N' (News.isList N' (.head _)) hys (by rw [List.length_map, h5]; decide) ?_
    intro D2 vs2 ns2 c2 h2 F7 N7 l7 i7 _ p7 o7 _
    dsimp only
    refine eq_intsK (News.isList N7 (.tail _ (.tail _ (.tail _ (.head _))))) hvr (News.isList N7 (.head _)) i7 (by first | exact Nat.le_of_ble_eq_true rfl | decide) ?_
    rw [backRow_all ss h5 ns2 p7 o7, decide_eq_true rfl]
    clear F' N'
    repeat' (first | (k_unfold; (try dsimp only)) | (k_end; wrow_close) | ((fail_if_success (with_reducible show wpAny _ _ (exec (Stmt.While _ _ _ _) _) _ _ _)); (fail_if_success (with_reducible show wpAny _ _ (exec (Stmt.For _ _ _ _ _) _) _ _ _)); (first | k_extra "M9" | walk1)) | (dsimp only; (first | k_extra "M9" | walk1)) | (leave1; walk_say "STEP leave1"; try dsimp only) | fail "no step")
    rename News h₀ _ _ _ => N9
    rename Fr h₀ _ _ m => F9
    exact hret _ news _ _ F9 (fun p hp => N9 p (.tail _ (.tail _ (.tail _ (.tail _ hp))))) ⟨rfl, rfl⟩
end Mine
namespace Mine
open PyProof.V
def stayD (x : Stay) : PyData := .tuple [.int x.1, .int x.2.1, .str x.2.2]
theorem stay_depth : ∀ ss : List Stay, PyData.depthAll (ss.map stayD) ≤ 1
  | [] => Nat.zero_le _
  | x :: r => by
    have := stay_depth r
    simp only [List.map_cons, stayD, PyData.depthAll, PyData.depth]
    omega
theorem stay_lay : ∀ ss : List Stay, (∀ x ∈ ss, PyData.strOk x.2.2 = true) → PyData.canLayAll0 (ss.map stayD) = true
  | [], _ => rfl
  | x :: r, h => by
    have h1 := stay_lay r fun y hy => h y (.tail _ hy)
    have h2 := h x (.head _)
    simp only [List.map_cons, stayD, PyData.canLayAll0, PyData.canLay0, h2, Bool.and_true, Bool.true_and]
    exact h1
theorem stay_eqv : ∀ ss : List Stay, PyData.eqvAll (ss.map stayD) (ss.map stayD) = true
  | [] => rfl
  | x :: r => by
    have := stay_eqv r
    simp only [List.map_cons, stayD, PyData.eqvAll, PyData.eqv, beq_self_eq_true, Bool.and_true, Bool.true_and]
    exact this
theorem StaysAre.cons {T : Led} {v : Value} {vs : List Value} {x : Stay} {ss : List Stay} (h : StaysAre T (v :: vs) (x :: ss)) : (∃ p t1 t2 t3, v = .ref p ∧ (p, tupO [.int x.1 t1, .int x.2.1 t2, .str x.2.2 t3]) ∈ T) ∧ StaysAre T vs ss := by
  refine ⟨?_, by have := h.1; simpa using this, fun i y hy => ?_⟩
  · obtain ⟨p, t1, t2, t3, h1, h2⟩ := h.2 0 x rfl
    exact ⟨p, t1, t2, t3, by simpa using h1, h2⟩
  · obtain ⟨p, t1, t2, t3, h1, h2⟩ := h.2 (i + 1) y (by simpa using hy)
    exact ⟨p, t1, t2, t3, by simpa using h1, h2⟩
theorem stay_reads {h₀ h : Heap} {L : Addr} {T : Led} (N : News h₀ L h T) : ∀ (vs : List Value) (ss : List Stay), StaysAre T vs ss → ReadsAll h vs (ss.map stayD) []
  | [], [], _ => .nil
  | [], _ :: _, h => by have := h.1; simp at this
  | _ :: _, [], h => by have := h.1; simp at this
  | v :: vs, x :: ss, hs => by
    obtain ⟨⟨p, t1, t2, t3, rfl, hp⟩, hr⟩ := hs.cons
    exact .cons (reads_tuple_at (N _ hp).1 rfl rfl (.cons (.int _ _) (.cons (.int _ _) (.cons (.str _ _) .nil)))) (stay_reads N vs ss hr)
section
variable {prog : Program} {w : World} {A : Around} {E : Value → Shared → Prop} {s : Shared} {h₀ : Heap} {L : Addr} {m : Str → Option Value} {news : Led} {env : Env}
theorem ne_stays {a b : Addr} {xs ys : List Value} {ka kb : Nat} {ss : List Stay} {Q : Value → Shared → Prop} (N : News h₀ L s.heap news) (ha : (a, listOf xs.toArray ka) ∈ news) (hb : (b, listOf ys.toArray kb) ∈ news) (sa : StaysAre news xs ss) (sb : StaysAre news ys ss)
    (ho : ∀ x ∈ ss, PyData.strOk x.2.2 = true) (hu : A.units + 64 < cLine) (h : Q (.bool false) s) : wpAny (model prog w) A (compareOp .NotEq (.ref a) (.ref b)) Q E s := by
  have sh : SeqAt.shaped (.list (ss.map stayD)) = true := by
    have h1 := stay_depth ss
    have h2 := stay_lay ss ho
    unfold SeqAt.shaped
    rw [Bool.and_eq_true]
    refine ⟨by simp only [PyData.canLay0]; exact h2, decide_eq_true ?_⟩
    simp only [PyData.depth]
    exact Nat.le_trans (Nat.succ_le_succ h1) (by decide)
  refine ne_dataH (reads_list_at (N _ ha).1 rfl rfl (stay_reads N xs ss sa)) (reads_list_at (N _ hb).1 rfl rfl (stay_reads N ys ss sb)) sh sh hu ?_
  have e : PyData.eqv (.list (ss.map stayD)) (.list (ss.map stayD)) = true := by simp only [PyData.eqv]; exact stay_eqv ss
  rw [e]
  exact h
end
/-- all names of a run can be laid -/
theorem run_ok (nm : List Str) (hnm : ∀ x ∈ nm, PyData.strOk x = true) : ∀ (st : List (Option Nat)) (i : Nat) (q : PS), (∀ x ∈ q.row, PyData.strOk x.2 = true) → (∀ x ∈ q.stays, PyData.strOk x.2.2 = true) → ∀ x ∈ (pRun nm i q st).stays, PyData.strOk x.2.2 = true
  | [], _, _, _, h => h
  | none :: r, i, q, h1, h2 => by
    refine run_ok nm hnm r (i + 1) _ (fun x hx => ?_) h2
    rcases List.mem_append.mp hx with hx | hx
    · exact h1 x hx
    · rw [List.mem_singleton.mp hx]
      show PyData.strOk (nm.getD q.came Str.empty) = true
      rw [List.getD_eq_getElem?_getD]
      cases e : nm[q.came]? with
      | none => show PyData.strOk Str.empty = true; decide +kernel
      | some y => exact hnm y (List.mem_of_getElem? e)
  | some f :: r, i, q, h1, h2 => by
    refine run_ok nm hnm r (i + 1) _ ?_ ?_
    · cases hr : q.row[f]? with
      | none => simp only [pStep, hr]; exact h1
      | some y => simp only [pStep, hr]; exact fun x hx => h1 x (List.mem_of_mem_eraseIdx hx)
    · cases hr : q.row[f]? with
      | none => simp only [pStep, hr]; exact h2
      | some y =>
        simp only [pStep, hr]
        intro x hx
        rcases List.mem_append.mp hx with hx | hx
        · exact h2 x hx
        · rw [List.mem_singleton.mp hx]; exact h1 y (List.mem_of_getElem? hr)
theorem names_ok : ∀ x ∈ names0, PyData.strOk x = true := by decide +kernel
theorem stays_ok {nms : List Str} (hnm : ∀ x ∈ nms, x ∈ names0) (st : List (Option Nat)) : ∀ x ∈ (pOf nms st).stays, PyData.strOk x.2.2 = true :=
  run_ok nms (fun x hx => names_ok x (hnm x hx)) st 0 _ (fun x hx => by cases hx) fun x hx => by cases hx
section
open PySem.Calls PyProof.Rows.LCg
variable {prog : Program} {w : World} {A : Around} {E : Value → Shared → Prop} {s : Shared} {h₀ : Heap} {L : Addr} {m : Str → Option Value} {news : Led} {env : Env}
/-- a comprehension with a test over a list of items, by a word J over the turn's number and what is made -/
theorem comp_test {ct elt iter : Expr} {x : Str} {px pos : Pos} {scope : Scope} {cl : List (Str × Addr)} {Q : Value → Shared → Prop} {l : Addr} {vs : List Value} {k : Nat} (J : Nat → List Value → Prop)
    (hh : A.handled = none) (F : Fr h₀ L s.heap m) (N : News h₀ L s.heap news) (hm : (l, listOf vs.toArray k) ∈ news) (hz : vs.length ≤ 1000)
    (hclos : closureFor scope env = pure cl) (hcell : ∀ y ∈ scope.names, y.2 ≠ .cell) (hkind : scope.kind = .function)
    (hnames : ∀ y ∈ scope.names, y.2 = .local → scope.names.lookup y.1 = some .local) (hx : scope.names.lookup x = some .local) (hs : ∀ x, foldedSetIterable iter env x = pure x)
    (hev : ∀ (Q' : Value → Shared → Prop), Q' (.ref l) s → wpAny (model prog w) A (eval iter env) Q' E s)
    (h0 : J 0 [])
    (turn : ∀ i v ys I oI C oC D m₂ h tk (E' : Value → Shared → Prop), vs[i]? = some v → J i ys → NsObj oC m₂ → m₂ x = some v → Fr h₀ L h m → News h₀ L h ((I, oI) :: (C, oC) :: (D, lst ys) :: news) → Off3 I C D news →
      wpAny (model prog w) A (isTrue ct (compEnvC scope cl C env) (eval ct (compEnvC scope cl C env))) (fun ok s' => if ok = true then
        wpAny (model prog w) A (eval elt (compEnvC scope cl C env)) (CompEnd h₀ L m { s with heap := h, toks := tk } I oI C oC D (lst ys) (SrcAt h₀ l vs.toArray) (fun y news' => news' = news ∧ J (i + 1) (ys ++ [y]))) E' s'
        else CompEnd h₀ L m { s with heap := h, toks := tk } I oI C oC D (lst ys) (SrcAt h₀ l vs.toArray) (fun _ news' => news' = news ∧ J (i + 1) ys) Value.none s') E' { s with heap := h, toks := tk })
    (rest : ∀ D ys h tk, Fr h₀ L h m → News h₀ L h ((D, lst ys) :: news) → J vs.length ys → Q (.ref D) { s with heap := h, toks := tk }) :
    wpAny (model prog w) A (eval (.ListComp elt [⟨.Name x px, iter, [ct], 0⟩] scope pos) env) Q E s := by
  refine LCt.ListComp_T F hclos hcell hkind hnames hx (hev _ ?_) hs
  refine LCt.CompSrcT.ledger hh F N hm (by rw [List.size_toArray, sizeLine_eq]; omega) fun g => ?_
  have all : ∀ j i ys, j + i = vs.length → J i ys → LCt.CompRestT prog w A h₀ L m env ct elt x scope cl { s with heap := g } (SrcAt h₀ l vs.toArray) (fun i v => vs.toArray[i]? = some v) (FinE h₀ L m { s with heap := g } Q) j i ys news := by
    intro j
    induction j with
    | zero =>
      intro i ys hi hJ
      refine LCt.CompRestT.zero fun D h tk F' N' _ => ?_
      obtain rfl : i = vs.length := by omega
      exact rest D ys h tk F' N' hJ
    | succ j ih =>
      intro i ys hi hJ
      refine LCt.CompRestT.succ fun v I oI C oC D m₂ h tk E' hv hC hx' F' N' off _ => ?_
      refine wpAny_mono (turn i v ys I oI C oC D m₂ h tk E' (by simpa using hv) hJ hC hx' F' N' off) (fun ok s' h' => ?_) fun _ _ e => e
      cases ok with
      | true =>
        simp only [if_true] at h' ⊢
        refine wpAny_mono h' (fun y s₂ h₂ => ?_) fun _ _ e => e
        obtain ⟨h3, tk3, n3, e3, F3, N3, off3, hS3, rfl, hJ3⟩ := h₂
        exact ⟨h3, tk3, _, e3, F3, N3, off3, hS3, ih (i + 1) _ (by omega) hJ3⟩
      | false =>
        simp only [Bool.false_eq_true, if_false] at h' ⊢
        obtain ⟨h3, tk3, n3, e3, F3, N3, off3, hS3, rfl, hJ3⟩ := h'
        exact ⟨h3, tk3, _, e3, F3, N3, off3, hS3, ih (i + 1) _ (by omega) hJ3⟩
  rw [List.size_toArray]
  exact all vs.length 0 [] rfl h0
theorem empty_ok : PyData.strOk (Str.ofString "") = true := by decide +kernel
theorem ne_rest {a b : Addr} {ka kb : Nat} {i j : Int} {t1 t2 t3 u1 u2 u3 : Tok} {Q : Value → Shared → Prop} (N : News h₀ L s.heap news) (ha : (a, listOf #[.str (Str.ofString "") t1, .str (Str.ofString "") t2, .int i t3] ka) ∈ news) (hb : (b, listOf #[.str (Str.ofString "") u1, .str (Str.ofString "") u2, .int j u3] kb) ∈ news)
    (hij : i = j) (hu : A.units + 64 < cLine) (h : Q (.bool false) s) : wpAny (model prog w) A (compareOp .NotEq (.ref a) (.ref b)) Q E s := by
  subst hij
  have sh : SeqAt.shaped (.list [.str (Str.ofString ""), .str (Str.ofString ""), .int i]) = true := by
    unfold SeqAt.shaped
    rw [Bool.and_eq_true]
    refine ⟨by simp only [PyData.canLay0, PyData.canLayAll0, empty_ok, Bool.and_true], decide_eq_true ?_⟩
    simp only [PyData.depth, PyData.depthAll]
    decide
  refine ne_dataH (reads_list_at (N _ ha).1 rfl rfl (.cons (.str _ _) (.cons (.str _ _) (.cons (.int _ _) .nil)))) (reads_list_at (N _ hb).1 rfl rfl (.cons (.str _ _) (.cons (.str _ _) (.cons (.int _ _) .nil)))) sh sh hu ?_
  have e : PyData.eqv (.list [.str (Str.ofString ""), .str (Str.ofString ""), .int i]) (.list [.str (Str.ofString ""), .str (Str.ofString ""), .int i]) = true := by simp only [PyData.eqv, PyData.eqvAll, beq_self_eq_true, Bool.and_true]
  rw [e]
  exact h
end
end Mine
namespace Mine
/-- a day in plain numbers: comings of those inside, the stays -/
structure NS where
  row : List Nat
  stays : List (Nat × Nat)
def nStep (i : Nat) (q : NS) : Option Nat → NS
  | none => ⟨q.row ++ [i], q.stays⟩
  | some f => match q.row[f]? with
    | some c => ⟨q.row.eraseIdx f, q.stays ++ [(c, i)]⟩
    | none => q
def nRun : Nat → NS → List (Option Nat) → NS
  | _, q, [] => q
  | i, q, o :: r => nRun (i + 1) (nStep i q o) r
def castP (p : Nat × Nat) : Int × Int := ((p.1 : Int), (p.2 : Int))
def stayP (x : Stay) : Int × Int := (x.1, x.2.1)
def NRel (q : PS) (n : NS) : Prop := q.row.map (·.1) = n.row.map (fun c : Nat => (c : Int)) ∧ q.stays.map stayP = n.stays.map castP
theorem nRel_step (nm : List Str) (i : Nat) (q : PS) (n : NS) (o : Option Nat) (h : NRel q n) : NRel (pStep nm i q o) (nStep i n o) := by
  obtain ⟨h1, h2⟩ := h
  cases o with
  | none => exact ⟨by simp [pStep, nStep, h1], by simp [pStep, nStep, h2]⟩
  | some f =>
    have e := congrArg (fun l => l[f]?) h1
    simp only [List.getElem?_map] at e
    cases hr : q.row[f]? with
    | none =>
      rw [hr] at e
      have hn : n.row[f]? = none := by cases hn : n.row[f]? with
        | none => rfl
        | some c => rw [hn] at e; cases e
      simp only [pStep, nStep, hr, hn]
      exact ⟨h1, h2⟩
    | some y =>
      rw [hr] at e
      cases hn : n.row[f]? with
      | none => rw [hn] at e; cases e
      | some c =>
        rw [hn] at e
        have ey : y.1 = (c : Int) := Option.some.inj e
        simp only [pStep, nStep, hr, hn]
        refine ⟨?_, ?_⟩
        · simp only
          rw [map_erase, map_erase, h1]
        · simp only [List.map_append, h2, List.map_cons, List.map_nil]
          rw [show stayP (y.1, (i : Int), y.2) = castP (c, i) by simp [stayP, castP, ey]]
theorem nRel_run (nm : List Str) : ∀ (st : List (Option Nat)) (i : Nat) (q : PS) (n : NS), NRel q n → NRel (pRun nm i q st) (nRun i n st)
  | [], _, _, _, h => h
  | o :: r, i, q, n, h => nRel_run nm r (i + 1) _ _ (nRel_step nm i q n o h)
def nOf (st : List (Option Nat)) : NS := nRun 0 ⟨[], []⟩ st
theorem nRel_of (nm : List Str) (st : List (Option Nat)) : NRel (pOf nm st) (nOf st) := nRel_run nm st 0 _ _ ⟨rfl, rfl⟩
/-- the goings come in order -/
theorem goi_run (nm : List Str) : ∀ (st : List (Option Nat)) (i : Nat) (q : PS), (∀ x ∈ q.stays, x.2.1 < (i : Int)) → (q.stays.map (·.2.1)).Pairwise (· ≤ ·) → ((pRun nm i q st).stays.map (·.2.1)).Pairwise (· ≤ ·)
  | [], _, _, _, h => h
  | none :: r, i, q, h1, h2 => goi_run nm r (i + 1) _ (fun x hx => by have := h1 x hx; omega) h2
  | some f :: r, i, q, h1, h2 => by
    refine goi_run nm r (i + 1) _ ?_ ?_
    · intro x hx
      cases hr : q.row[f]? with
      | none => simp only [pStep, hr] at hx; have := h1 x hx; omega
      | some y =>
        simp only [pStep, hr] at hx
        rcases List.mem_append.mp hx with hx | hx
        · have := h1 x hx; omega
        · rw [List.mem_singleton.mp hx]; show (i : Int) < _; omega
    · cases hr : q.row[f]? with
      | none => simp only [pStep, hr]; exact h2
      | some y =>
        simp only [pStep, hr, List.map_append, List.map_cons, List.map_nil]
        refine List.pairwise_append.mpr ⟨h2, List.pairwise_singleton _ _, ?_⟩
        intro a ha b hb
        obtain ⟨x, hx, rfl⟩ := List.mem_map.mp ha
        rw [List.mem_singleton.mp hb]
        exact Int.le_of_lt (h1 x hx)
theorem goi_srt (nm : List Str) (st : List (Option Nat)) : ((pOf nm st).stays.map (·.2.1)).Pairwise (· ≤ ·) := goi_run nm st 0 _ (fun x hx => by cases hx) .nil
def castL (l : List Nat) : List Int := l.map (fun c : Nat => (c : Int))
def cLt (l : List Nat) (x : Nat) : Nat := l.countP fun y => Nat.blt y x
def cLe (l : List Nat) (x : Nat) : Nat := l.countP fun y => Nat.ble y x
theorem cLt_cast (l : List Nat) (x : Nat) : (castL l).countP (· < (x : Int)) = cLt l x := by
  unfold castL cLt
  rw [List.countP_map]
  congr 1
  funext y
  simp only [Function.comp]
  rw [Bool.eq_iff_iff, decide_eq_true_iff, Nat.blt_eq]; omega
theorem cLe_cast (l : List Nat) (x : Nat) : (castL l).countP (· ≤ (x : Int)) = cLe l x := by
  unfold castL cLe
  rw [List.countP_map]
  congr 1
  funext y
  simp only [Function.comp]
  rw [Bool.eq_iff_iff, decide_eq_true_iff, Nat.ble_eq]; omega
def insN (l : List Nat) (x : Nat) : List Nat := l.take (cLt l x) ++ x :: l.drop (cLt l x)
theorem insN_cast (l : List Nat) (x : Nat) : insI (castL l) (x : Int) = castL (insN l x) := by
  unfold insI insN
  rw [cLt_cast]
  simp [castL]
structure NQ where
  held : Int
  crossed : Int
  com : List Nat
  goi : List Nat
def nPair (q : NQ) (x : Nat × Nat) : NQ :=
  { held := q.held + ((q.com.length : Int) - (cLe q.com x.1 : Nat)), crossed := q.crossed + ((cLt q.com x.1 : Nat) - (cLt q.goi x.1 : Nat) : Int), com := insN q.com x.1, goi := q.goi ++ [x.2] }
theorem nPair_cast : ∀ (ss : List Stay) (ns : List (Nat × Nat)) (q : PQ) (n : NQ), ss.map stayP = ns.map castP → q = ⟨n.held, n.crossed, castL n.com, castL n.goi⟩ →
    ss.foldl pairStep q = ⟨(ns.foldl nPair n).held, (ns.foldl nPair n).crossed, castL (ns.foldl nPair n).com, castL (ns.foldl nPair n).goi⟩
  | [], [], q, n, _, h => h
  | [], _ :: _, _, _, h, _ => by cases h
  | _ :: _, [], _, _, h, _ => by cases h
  | x :: r, y :: t, q, n, h, hq => by
    simp only [List.map_cons, List.cons.injEq] at h
    obtain ⟨h1, h2⟩ := h
    have a1 : x.1 = (y.1 : Int) := congrArg Prod.fst h1
    have a2 : x.2.1 = (y.2 : Int) := congrArg Prod.snd h1
    refine nPair_cast r t _ _ h2 ?_
    subst hq
    simp only [pairStep, nPair, a1, a2, cLe_cast, cLt_cast, insN_cast]
    congr 1
    · simp [castL]
    · simp [castL]
def nPairs (ns : List (Nat × Nat)) : NQ := ns.foldl nPair ⟨0, 0, [], []⟩
theorem nPairs_of {ss : List Stay} {ns : List (Nat × Nat)} (h : ss.map stayP = ns.map castP) : (pairsOf ss).held = (nPairs ns).held ∧ (pairsOf ss).crossed = (nPairs ns).crossed := by
  have := nPair_cast ss ns ⟨0, 0, [], []⟩ ⟨0, 0, [], []⟩ h rfl
  unfold pairsOf nPairs
  rw [this]; exact ⟨rfl, rfl⟩
/-- back, in plain numbers -/
def nBack : List Nat → List (Nat × Nat) → List Nat → List Nat → Bool
  | _, [], [], [] => true
  | row, x :: r, a :: fa, b :: fb => Nat.beq (cLt row x.1) a && (Nat.beq (cLe row x.2) (a + b) && nBack (insN row x.1) r fa fb)
  | _, _, _, _ => false
theorem nBack_len : ∀ (l : List (Nat × Nat)) (row fa fb : List Nat), nBack row l fa fb = true → fa.length = l.length ∧ fb.length = l.length
  | [], _, [], [], _ => ⟨rfl, rfl⟩
  | x :: r, row, a :: fa, b :: fb, h => by
    simp only [nBack, Bool.and_eq_true] at h
    have := nBack_len r _ fa fb h.2.2
    simp [this.1, this.2]
  | [], _, _ :: _, _, h => by simp [nBack] at h
  | [], _, [], _ :: _, h => by simp [nBack] at h
  | _ :: _, _, [], _, h => by simp [nBack] at h
  | _ :: _, _, _ :: _, [], h => by simp [nBack] at h
theorem nBack_ok : ∀ (l : List (Nat × Nat)) (row fa fb : List Nat) (ls : List Stay), ls.map stayP = l.map castP → nBack row l fa fb = true →
    ∀ i x, ls[i]? = some x → ((ls.take i).foldl (fun r x => insI r x.1) (castL row)).countP (· < x.1) = fa.getD i 0 ∧ ((ls.take i).foldl (fun r x => insI r x.1) (castL row)).countP (· ≤ x.2.1) = fa.getD i 0 + fb.getD i 0
  | l, _, _, _, [], _, _, i, x, hx => by simp at hx
  | [], _, _, _, _ :: _, hl, _, _, _, _ => by cases hl
  | p :: r, row, [], fb, y :: ys, hl, h, i, x, hx => by simp [nBack] at h
  | p :: r, row, a :: fa, [], y :: ys, hl, h, i, x, hx => by simp [nBack] at h
  | p :: r, row, a :: fa, b :: fb, y :: ys, hl, h, i, x, hx => by
    simp only [List.map_cons, List.cons.injEq] at hl
    obtain ⟨h1, h2⟩ := hl
    have a1 : y.1 = (p.1 : Int) := congrArg Prod.fst h1
    have a2 : y.2.1 = (p.2 : Int) := congrArg Prod.snd h1
    simp only [nBack, Bool.and_eq_true] at h
    obtain ⟨c1, c2, c3⟩ := h
    cases i with
    | zero =>
      obtain rfl : y = x := by simpa using hx
      simp only [List.take_zero, List.foldl_nil, a1, a2, cLt_cast, cLe_cast]
      exact ⟨Nat.eq_of_beq_eq_true c1, Nat.eq_of_beq_eq_true c2⟩
    | succ i =>
      have := nBack_ok r (insN row p.1) fa fb ys h2 c3 i x (by simpa using hx)
      simp only [List.take_succ_cons, List.foldl_cons, a1, insN_cast]
      exact this
def chk (st : List (Option Nat)) : Bool :=
  (nOf st).row.isEmpty && ((nOf (turnOf 0 st)).row.isEmpty && (Nat.beq (nOf st).stays.length 5 && (Nat.beq (nOf (turnOf 0 st)).stays.length 5 &&
  (decide ((nPairs (nOf st).stays).held = ((figs st).sum : Nat)) && (decide ((nPairs (nOf (turnOf 0 st)).stays).held = (nPairs (nOf st).stays).crossed) && (decide ((nPairs (nOf (turnOf 0 st)).stays).crossed = (nPairs (nOf st).stays).held) &&
  (nBack [] (nOf st).stays.reverse (figs st).reverse (figs (turnOf 0 st)).reverse && nBack [] (nOf (turnOf 0 st)).stays.reverse (figs (turnOf 0 st)).reverse (figs st).reverse)))))))
def tree : Nat → Nat → Nat → List (Option Nat) → Bool
  | 0, _, _, acc => chk acc.reverse
  | k + 1, c, n, acc => (if Nat.blt c 5 then tree k (c + 1) (n + 1) (none :: acc) else true) && (List.range n).all fun f => tree k c (n - 1) (some f :: acc)
theorem tree_ok : ∀ (st : List (Option Nat)) (c n : Nat) (acc : List (Option Nat)), tree st.length c n acc = true → Good c n st → chk (acc.reverse ++ st) = true
  | [], _, _, _, h, _ => by rw [List.append_nil]; exact h
  | none :: r, c, n, acc, h, hg => by
    simp only [List.length_cons, tree, Bool.and_eq_true] at h
    obtain ⟨g1, g2⟩ := hg
    rw [if_pos (by rw [Nat.blt_eq]; exact g1)] at h
    have := tree_ok r _ _ _ h.1 g2
    simpa using this
  | some f :: r, c, n, acc, h, hg => by
    simp only [List.length_cons, tree, Bool.and_eq_true] at h
    obtain ⟨g1, g2⟩ := hg
    have h2 := List.all_eq_true.mp h.2 f (List.mem_range.mpr g1)
    have := tree_ok r _ _ _ h2 g2
    simpa using this
theorem tree_all : tree 10 0 0 [] = true := by decide +kernel
theorem chk_good {st : List (Option Nat)} (hl : st.length = 10) (hg : Good 0 0 st) : chk st = true := by
  have := tree_ok st 0 0 [] (by rw [hl]; exact tree_all) hg
  simpa using this
end Mine
namespace Mine
theorem good_snoc : ∀ (st : List (Option Nat)) (c n : Nat) (o : Option Nat), Good c n st → (o = none → c + comings st < 5) → (∀ f, o = some f → f < insOf n st) → Good c n (st ++ [o])
  | [], c, n, none, _, h1, _ => ⟨by have := h1 rfl; simpa [comings] using this, trivial⟩
  | [], c, n, some f, _, _, h2 => ⟨by have := h2 f rfl; simpa [insOf] using this, trivial⟩
  | none :: r, c, n, o, h, h1, h2 => by
    refine ⟨h.1, good_snoc r (c + 1) (n + 1) o h.2 (fun e => ?_) fun f e => ?_⟩
    · have := h1 e; simp [comings] at this ⊢; omega
    · have := h2 f e; simpa [insOf] using this
  | some g :: r, c, n, o, h, h1, h2 => by
    refine ⟨h.1, good_snoc r c (n - 1) o h.2 (fun e => ?_) fun f e => ?_⟩
    · have := h1 e; simpa [comings] using this
    · have := h2 f e; simpa [insOf] using this
theorem good_take (ts : List Int) (hl : ts.length = 10) : ∀ i, i ≤ 10 → Good 0 0 (wOf (ts.take i)).st
  | 0, _ => by simp [wOf, Good]
  | i + 1, h => by
    have hi : i < ts.length := by omega
    have ih := good_take ts hl i (by omega)
    obtain ⟨h1, h2, h3, h4, h5⟩ := wOf_ok ts hl i (by omega)
    rw [wOf_take ts i ts[i] (List.getElem?_eq_getElem hi)]
    generalize wOf (ts.take i) = q at *
    unfold wStep
    split
    · rename_i hc
      refine good_snoc _ _ _ _ ih (fun _ => ?_) (fun f e => by cases e)
      unfold comesAt at hc
      rcases hc with hc | hc <;> omega
    · rename_i hc
      refine good_snoc _ _ _ _ ih (fun e => by cases e) fun f e => ?_
      have e' := Option.some.inj e
      have h0 : 0 < q.ins := Nat.pos_of_ne_zero fun e => hc (.inl e)
      have h6 := Int.emod_nonneg (ts[i] / 2) (show (q.ins : Int) ≠ 0 by omega)
      have h7 := Int.emod_lt_of_pos (ts[i] / 2) (show 0 < (q.ins : Int) by omega)
      rw [← h4]; omega
theorem good_w (ts : List Int) (hl : ts.length = 10) : Good 0 0 (wOf ts).st ∧ (wOf ts).st.length = 10 := by
  have h := good_take ts hl 10 (Nat.le_refl _)
  have h' := wOf_ok ts hl 10 (Nat.le_refl _)
  rw [List.take_of_length_le (Nat.le_of_eq hl)] at h h'
  exact ⟨h, h'.2.2.2.2⟩
theorem good_turn : ∀ (st : List (Option Nat)) (c n : Nat), Good c n st → Good c n (turnOf n st)
  | [], _, _, _ => trivial
  | none :: r, c, n, h => ⟨h.1, good_turn r _ _ h.2⟩
  | some f :: r, c, n, h => ⟨by have := h.1; omega, good_turn r _ _ h.2⟩
/-- what a day's steps and the turned ones bear -/
structure DayF (nms : List Str) (st su : List (Option Nat)) : Prop where
  g : Good 0 0 st
  l : st.length = 10
  r : (pOf nms st).row = []
  n : (pOf nms st).stays.length = 5
  s : ((pOf nms st).stays.map (·.2.1)).Pairwise (· ≤ ·)
  b : BackOk (pOf nms st).stays (figs st).reverse (figs su).reverse
  f : (figs st).reverse.length = 5
  f5 : ∀ x ∈ (figs st).reverse, x < 5
theorem figs_five {nms : List Str} {st : List (Option Nat)} (hg : Good 0 0 st) : ∀ x ∈ (figs st).reverse, x < 5 := by
  intro x hx
  rw [List.mem_reverse] at hx
  unfold figs at hx
  obtain ⟨o, ho, e⟩ := List.mem_filterMap.mp hx
  obtain ⟨i, hi, e2⟩ := List.getElem_of_mem ho
  have e' : o = some x := e
  exact good_five (nms := nms) hg i x (by rw [List.getElem?_eq_getElem hi, e2, e'])
theorem backOk_of {nms : List Str} {st : List (Option Nat)} {fa fb : List Nat} (h : nBack [] (nOf st).stays.reverse fa fb = true) : BackOk (pOf nms st).stays fa fb := by
  intro i x hx
  have e := (nRel_of nms st).2
  have e2 : (pOf nms st).stays.reverse.map stayP = (nOf st).stays.reverse.map castP := by rw [List.map_reverse, List.map_reverse, e]
  exact nBack_ok _ [] fa fb _ e2 h i x hx
theorem day_facts (nms : List Str) {st : List (Option Nat)} (hl : st.length = 10) (hg : Good 0 0 st) :
   DayF nms st (turnOf 0 st) ∧ DayF nms (turnOf 0 st) st ∧ (pairsOf (pOf nms st).stays).held = ((figs st).sum : Nat) ∧
   (pairsOf (pOf nms (turnOf 0 st)).stays).held = (pairsOf (pOf nms st).stays).crossed ∧ (pairsOf (pOf nms (turnOf 0 st)).stays).crossed = (pairsOf (pOf nms st).stays).held := by
  have h := chk_good hl hg
  unfold chk at h
  simp only [Bool.and_eq_true, decide_eq_true_eq] at h
  obtain ⟨r1, r2, n1, n2, p1, p2, p3, b1, b2⟩ := h
  have gt := good_turn st 0 0 hg
  have ra := nRel_of nms st
  have rb := nRel_of nms (turnOf 0 st)
  have l1 : (pOf nms st).stays.length = 5 := by have := congrArg List.length ra.2; rw [List.length_map, List.length_map] at this; rw [this]; exact Nat.eq_of_beq_eq_true n1
  have l2 : (pOf nms (turnOf 0 st)).stays.length = 5 := by have := congrArg List.length rb.2; rw [List.length_map, List.length_map] at this; rw [this]; exact Nat.eq_of_beq_eq_true n2
  have k1 := nBack_len _ _ _ _ b1
  rw [show (nOf st).stays.reverse.length = 5 from (List.length_reverse ..).trans (Nat.eq_of_beq_eq_true n1)] at k1
  have q1 := nPairs_of ra.2
  have q2 := nPairs_of rb.2
  refine ⟨⟨hg, hl, ?_, l1, goi_srt _ _, backOk_of b1, k1.1, figs_five (nms := nms) hg⟩, ⟨gt, by rw [turnOf_length, hl], ?_, l2, goi_srt _ _, backOk_of b2, k1.2, figs_five (nms := nms) gt⟩, ?_, ?_, ?_⟩
  · have e := ra.1
    rw [List.isEmpty_iff.mp r1, List.map_nil] at e
    exact List.map_eq_nil_iff.mp e
  · have e := rb.1
    rw [List.isEmpty_iff.mp r2, List.map_nil] at e
    exact List.map_eq_nil_iff.mp e
  · rw [q1.1, p1]
  · rw [q2.1, q1.2, p2]
  · rw [q2.2, q1.1, p3]
end Mine
namespace Mine
def isDot (x : Str) : Bool := PySem.Txt.item x 0 == Str.ofString "."
theorem dot_is {f : Nat} (h : f < 5) : isDot (dotW f) = true := (dots_read f (five h)).1
theorem name_not {nm : List Str} (hnm : ∀ x ∈ nm, x ∈ names0) (k : Nat) : isDot (nm.getD k Str.empty) = false := by
  rw [List.getD_eq_getElem?_getD]
  cases e : nm[k]? with
  | none => show isDot Str.empty = false; decide +kernel
  | some y => exact names_nodot y (hnm y (List.mem_of_getElem? e))
theorem words_dots {nm : List Str} (hnm : ∀ x ∈ nm, x ∈ names0) : ∀ (st : List (Option Nat)) (c : Nat), (∀ f ∈ figs st, f < 5) → (wordsOf nm c st).filter isDot = (figs st).map dotW
  | [], _, _ => rfl
  | none :: r, c, h => by
    simp only [wordsOf]
    rw [List.filter_cons_of_neg (by rw [name_not hnm]; exact Bool.false_ne_true)]
    exact words_dots hnm r (c + 1) h
  | some f :: r, c, h => by
    have hf : f < 5 := h f (.head _)
    have e : figs (some f :: r) = f :: figs r := rfl
    rw [e] at h ⊢
    simp only [wordsOf, List.map_cons]
    rw [List.filter_cons_of_pos (dot_is hf), words_dots hnm r c fun g hg => h g (.tail _ hg)]
theorem txt_join (z : Str) (l : List Str) : PySem.Txt.join z l = Str.join z l := by simpa using PyProof.Rows.join_plain_closes z l
theorem join_flat (z : Str) (hz : z.cps.toList = []) : ∀ ps : List Str, (Str.join z ps).cps.toList = ps.flatMap (·.cps.toList)
  | [] => rfl
  | [p] => by show p.cps.toList = _; simp
  | p :: q :: r => by
    show (p ++ z ++ Str.join z (q :: r)).cps.toList = _
    rw [str_toList, str_toList, hz, join_flat z hz (q :: r)]
    simp
theorem adX_flat : ∀ r : List Nat, (adX r).cps.toList = (Str.ofString "x").cps.toList ++ (r.reverse.map dotW).flatMap (·.cps.toList)
  | [] => by simp [adX]
  | f :: r => by
    show (adX r ++ dotW f).cps.toList = _
    rw [str_toList, adX_flat r]
    simp
theorem addr_join {nm : List Str} (hnm : ∀ x ∈ nm, x ∈ names0) (st : List (Option Nat)) (h : ∀ f ∈ figs st, f < 5) :
    addrOf st = Str.ofString "x" ++ PySem.Txt.join (Str.ofString "") ((wordsOf nm 0 st).filter isDot) := by
  refine str_ext ?_
  have e := join_flat (Str.ofString "") (by decide +kernel) ((wordsOf nm 0 st).filter isDot)
  rw [addrOf_adX, adX_flat, List.reverse_reverse, str_toList]
  rw [txt_join, e, words_dots hnm st 0 h]
theorem join_len (xs : List Str) (h : ∀ x ∈ xs, x.length ≤ 10) (hl : xs.length ≤ 10) : (xs.map (·.length)).sum ≤ 100 ∧ (PySem.Txt.join (Str.ofString "") xs).length ≤ 100 := by
  have key : ∀ xs : List Str, (∀ x ∈ xs, x.length ≤ 10) → (xs.map (·.length)).sum ≤ 10 * xs.length ∧ (xs.flatMap (·.cps.toList)).length = (xs.map (·.length)).sum := by
    intro xs
    induction xs with
    | nil => intro _; exact ⟨Nat.le_refl _, rfl⟩
    | cons x r ih =>
      intro h
      obtain ⟨a, b⟩ := ih fun y hy => h y (.tail _ hy)
      have c := h x (.head _)
      simp only [List.map_cons, List.sum_cons, List.length_cons, List.flatMap_cons, List.length_append, b]
      refine ⟨by omega, ?_⟩
      rw [show x.cps.toList.length = x.length from rfl]
  obtain ⟨a, b⟩ := key xs h
  refine ⟨by omega, ?_⟩
  show (PySem.Txt.join (Str.ofString "") xs).cps.toList.length ≤ 100
  rw [txt_join, join_flat (Str.ofString "") (by decide +kernel) xs, b]
  omega
def figOf (x : Str) : Int := (PySem.intText? (PySem.Txt.slice x (some 1) none)).getD 0
theorem figOf_dot {f : Nat} (h : f < 5) : figOf (dotW f) = f := by
  unfold figOf
  rw [(dots_read f (five h)).2]; rfl
theorem words_figs {nm : List Str} (hnm : ∀ x ∈ nm, x ∈ names0) (st : List (Option Nat)) (h : ∀ f ∈ figs st, f < 5) : (((wordsOf nm 0 st).filter isDot).map figOf).sum = ((figs st).sum : Nat) := by
  rw [words_dots hnm st 0 h, List.map_map]
  have key : ∀ l : List Nat, (∀ f ∈ l, f < 5) → (l.map (figOf ∘ dotW)).sum = ((l.sum : Nat) : Int) := by
    intro l
    induction l with
    | nil => intro _; rfl
    | cons f r ih =>
      intro h
      simp only [List.map_cons, List.sum_cons, Function.comp, figOf_dot (h f (.head _)), ih fun g hg => h g (.tail _ hg)]
      omega
  exact key _ h
theorem dot_of : ∀ x ∈ allW, isDot x = true → ∃ f ∈ [0, 1, 2, 3, 4], x = dotW f := by decide +kernel
section
variable {prog : Program} {w : World} {A : Around} {E : Value → Shared → Prop} {s : Shared} {h₀ : Heap} {L : Addr} {m : Str → Option Value} {news : Led}
theorem ne_pair {a b : Addr} {i j i' j' : Int} {t1 t2 u1 u2 : Tok} {Q : Value → Shared → Prop} (N : News h₀ L s.heap news) (ha : (a, tupO [.int i t1, .int j t2]) ∈ news) (hb : (b, tupO [.int i' u1, .int j' u2]) ∈ news)
    (hi : i = i') (hj : j = j') (hu : A.units + 64 < cLine) (h : Q (.bool false) s) : wpAny (model prog w) A (compareOp .NotEq (.ref a) (.ref b)) Q E s := by
  subst hi
  subst hj
  have sh : SeqAt.shaped (.tuple [.int i, .int j]) = true := by
    unfold SeqAt.shaped
    rw [Bool.and_eq_true]
    refine ⟨by simp only [PyData.canLay0, PyData.canLayAll0, Bool.and_true], decide_eq_true ?_⟩
    simp only [PyData.depth, PyData.depthAll]
    decide
  refine ne_dataH (reads_tuple_at (N _ ha).1 rfl rfl (.cons (.int _ _) (.cons (.int _ _) .nil))) (reads_tuple_at (N _ hb).1 rfl rfl (.cons (.int _ _) (.cons (.int _ _) .nil))) sh sh hu ?_
  have e : PyData.eqv (.tuple [.int i, .int j]) (.tuple [.int i, .int j]) = true := by simp only [PyData.eqv, PyData.eqvAll, beq_self_eq_true, Bool.and_true]
  rw [e]
  exact h
end
end Mine
end
namespace Mine
inductive DayJ (w : World) (nms : List Str) (st : List (Option Nat)) (ts : List Int) (cs : List Nat) (lx ln dlx lf pb stA dln lfn pbn d S I : Addr) (oB oN oF : Obj) (t3A k1A k2A k3A k4A : Tok) (m0 : Str → Option Value) (T0 : Led) (adr : Str) (q : PS) (i : Nat) (m' : Str → Option Value) (n' : Led) : Prop
  | mk (n : Int) (t : Tok) (vs : List Value) (k : Nat) (vq : List Value) (kq : Nat) (o' : Obj) (kvs) (c : List (Str × Int)) (vst : List Value) (kst : Nat) (T Z : Led) (ta : Tok) (b : Bool)
    (hS : Same ["moment", "word", "ahead", "behind", "k", "name"] [("lexer", .ref lx), ("line", .ref ln), ("came", .ref d), ("stays", .ref S), ("address", .str adr ta)] m0 m')
    (hnn : n' = (dlx, lexD w n t t3A k1A k2A k3A k4A (.ref stA) (.ref pb)) :: (lf, listOf (List.toArray vs) k) :: (pbn, listOf (List.toArray vq) kq) :: (d, o') :: (S, listOf (List.toArray vst) kst) :: (140, oB) :: (dln, oN) :: (lfn, oF) :: T)
    (hTZ : T = Z ++ T0) (hZ : ∀ p ∈ Z, Nat.lt S p.1) (hoI : OwnOff T [I]) (hn : n = 1 + nls cs - nls (nlP b ++ (fileOf ((wordsOf nms 0 st).drop i) (ts.drop i)).cps.toList)) (hvs : StrsAre vs (sgn (nlP b ++ (fileOf ((wordsOf nms 0 st).drop i) (ts.drop i)).cps.toList)).reverse)
    (hvq : StrsAre vq (q.row.map (·.2))) (hsd : o'.IsDictOf (PySem.strKind pr w) kvs) (hfd : PyProof.V.FlatPairs PyData.str kvs (kdpD c)) (hdk : DictOk nms (q) c) (hst : StaysAre T vst q.stays) :
    DayJ w nms st ts cs lx ln dlx lf pb stA dln lfn pbn d S I oB oN oF t3A k1A k2A k3A k4A m0 T0 adr q i m' n'
theorem day_spec (w : World) (TT : Led) (nms : List Str) (st : List (Option Nat)) (ts : List Int) (cs : List Nat) (t0 : Tok) (o140 : Obj) (ho : TabOk o140 TT) (hO : OwnOff TT [140]) (hcs : cs = (fileOf (wordsOf nms 0 st) ts).cps.toList)
   (hnm : ∀ x ∈ nms, x ∈ names0) (hnd : nms.Nodup) (hnl : nms.length = 5) (hg : Good 0 0 st) (hsz : st.length = 10) (htl : ts.length = 10) (hclen : cs.length ≤ 1000) (hrow : (pOf nms st).row = []) :
   TellC w 3 152 [.str ⟨cs.toArray⟩ t0] ((140, o140) :: TT) (DayPost TT o140 nms st cs) := by
  w_top off; have hfill9 := (show top0.heap_39 = top0.heap_39 ∧ PySem.Challenge.rw_xe0021_01 = PySem.Challenge.rw_xe0021_01 by k_fill; exact ⟨rfl, rfl⟩); clear hfill9; k_with_none
  k_with "M9" => (k_here; (with_reducible show wpAny _ _ (call (Value.builtin "len") [Value.ref _]) _ _ _); k_dflt (refine' len_list ?k1q427 ?k2q427 ?_; (case k1q427 => exact News.isList (by k_asm) (by k_mem)); (case k2q427 => simp only [List.size_toArray]; omega); k_whole))
  k_with "M9" => ((with_reducible show wpAny _ _ (binaryOp Operator.Add (Value.str _ _) (Value.str _ _)) _ _ _); (k_here; k_dflt (refine' PyProof.Rows.add_str ?_ ?hszq34; (case hszq34 => (rw [sizeLine_eq]; omega)); k_whole); intro _ _))
  k_with "M9" => ((with_reducible show wpAny _ _ (inplaceOp Operator.Add (Value.str _ _) (Value.str _ _)) _ _ _); (k_here; k_dflt (refine' PyProof.Rows.iadd_str ?_ ?hszq139; (case hszq139 => (rw [sizeLine_eq]; omega)); k_whole); intro _ _))
  have hclen' : cs.length ≤ 100000 := by omega
  have hwA := words_allW hnm hnl hg
  have hg5 : ∀ (i f : Nat), st[i]? = some (some f) → f < 5 := fun i f h => good_five (nms := nms) hg i f h
  intro nm ig ic mr gd cn a ccd cl outer A₀ base h₀ L m s Q E p loose mean mg mb C B F X N T hret
  k_enter
  repeat' (first | ((fail_if_success (with_reducible show wpAny _ _ (call (Value.ref 145) [Value.str _ _]) _ _ _)); (first | k_extra "M9" | walk1)))
  (refine' TellC.use ?N ?B ?F ?X ?T ?C rfl rfl ?d ?u (lexer_any _ _ _ _ _ ?h1 ?h2 ?h3) ?_; (case N => k_asm); (case B => k_asm); (case F => k_asm); (case X => k_asm); (case T => k_asm); (case d => exact Nat.le_of_ble_eq_true rfl); (case u => exact Nat.le_of_ble_eq_true rfl); (case C => k_asm); (case h1 => assumption); (case h2 => assumption); (case h3 => assumption); k_whole)
  intro v' news' h' tk' F' N' P'
  obtain ⟨oA, newA, lx, dlx, lf, pb, stA, dstA, fA, cA, cellA, tA, t3A, k1A, k2A, k3A, k4A, vsA, kA, kpA, e1, e2, hRA, hTA, hvA, hdA, hdA', hoA, hlA, hXA⟩ := P'
  subst e1
  subst e2
  repeat' (first | ((fail_if_success (with_reducible show wpAny _ _ (call (Value.ref 145) [Value.str _ _]) _ _ _)); (first | k_extra "M9" | walk1)))
  (refine' TellC.use ?N ?B ?F ?X ?T ?C rfl rfl ?d ?u (lexer_empty _ _ _ _ ?h1 ?h2) ?_; (case N => k_asm); (case B => k_asm); (case F => k_asm); (case X => k_asm); (case T => k_asm); (case d => exact Nat.le_of_ble_eq_true rfl); (case u => exact Nat.le_of_ble_eq_true rfl); (case C => k_asm); (case h1 => exact tabOk_up hTA); (case h2 => exact ownOff_lex hoA hdA'); k_whole)
  intro v' news' h' tk' F' N' P'
  obtain ⟨oB, newB, ln, dln, lfn, pbn, stB, dstB, fB, cB, cellB, tB, t3B, k1B, k2B, k3B, k4B, vsB, kB, kpB, e1, e2, hRB, hTB, hvB, hdB, hdB', hoB, hlB, hXB⟩ := P'
  subst e1
  subst e2
  obtain ⟨T1, hT1, N1'⟩ : ∃ T1 : Led, _ = T1 ∧ News _ _ _ T1 := ⟨_, rfl, N'⟩
  clear N'
  repeat' (first | (k_unfold; (try dsimp only)) | (k_end; wrow_close) | ((fail_if_success (with_reducible show wpAny _ _ (exec (Stmt.While _ _ _ _) _) _ _ _)); (fail_if_success (with_reducible show wpAny _ _ (exec (Stmt.For _ _ _ _ _) _) _ _ _)); (first | k_extra "M9" | walk1)) | (dsimp only; (first | k_extra "M9" | walk1)) | (leave1; walk_say "STEP leave1"; try dsimp only) | fail "no step")
  rename Fr _ _ _ _ => F1
  k_dflt (refine' For_turns F1 ?_)
  repeat' (first | ((fail_if_success (with_reducible show wpAny _ _ (call (Value.type _) _) _ _ _)); (fail_if_success (with_reducible show wpAny _ _ (pyIter _) _ _ _)); (first | k_extra "M9" | walk1)))
  rename Fr _ _ _ _ => F1
  rename News _ _ _ _ => N1
  rename_i d _ o lDr hlo hsD hfD hiD hfI _ S _ lS _ _
  clear hiD hfI
  subst hT1
  have lD := allLt_of lDr
  clear lDr
  obtain rfl : vsB = [] := List.length_eq_zero_iff.mp hvB.length
  obtain ⟨T0, Y, hTe, hTY, rA, rB, hTab, hoff, hnod, hleS, hYl, hTS, hTTS⟩ := day_setup2 (oN := lexD w 1 tB t3B k1B k2B k3B k4B (.ref stB) (.ref pbn)) (oF := listOf #[] kB) (oQ := listOf #[] kpB) (o := o) hRA hdA hdA' hoA hlA hRB hTB hdB hdB' hoB hlB (notLex_dict _ _ _ _ _ _ _ _ _ _) (notLex_list _ _) lD lS (notLex_dict _ _ _ _ _ _ _ _ _ _) (notLex_list _ _)
  have N2 := day_perm N1 hTe
  have hYe : Y = (pb, listOf #[] kpA) :: (newB ++ newA) := List.append_cancel_right (show Y ++ TT = ((pb, listOf #[] kpA) :: (newB ++ newA)) ++ TT by rw [← hTY, hTe]; simp)
  have hXX : Keep (∀ X : Led, TabOk o140 X → TabOk oB (Y ++ X)) := ⟨fun X h => tabOk_sub (hXB _ (hXA _ h)) fun p hp => by rw [hYe, List.cons_append, List.append_assoc]; exact .tail _ hp⟩
  clear hXA hXB hYe
  have hpb : (pb, listOf #[] kpA) ∈ T0 := hTe ▸ .head _
  obtain ⟨m0, A0, F0⟩ := named F1 [("lexer", .ref lx), ("line", .ref ln), ("came", .ref d), ("stays", .ref S), ("address", .str (Str.ofString "x") _)] (by (repeat (refine allAt_cons (by with_unfolding_all rfl) ?_)); exact allAt_nil)
  clear F1 N1 hTe
  k_dflt (refine' range_turnsI (n := 10) (by decide) rfl F0 N2 (by decide) (fun I lI => items_inv (fun i => DayJ w nms st ts cs lx ln dlx lf pb stA dln lfn pbn d S I oB (lexD w 1 tB t3B k1B k2B k3B k4B (.ref stB) (.ref pbn)) (listOf #[] kB) t3A k1A k2A k3A k4A m0 T0 (addrOf (st.take i)) (pOf nms (st.take i)) i) ?turn ?done 0 _ _ (Nat.zero_le _) ?j0))
  case j0 =>
    refine ⟨1, _, vsA, _, [], _, o, [], [], [], _, T0, [], _, false, same_start A0, rfl, rfl, (fun p hp => by cases hp), ?_, ?_, ?_, .nil, hsD, hfD, ⟨rfl, (fun p hp => by cases hp), fun p hp => by cases hp⟩, ⟨rfl, fun i x h => by simp [pOf, pRun] at h⟩⟩
    · intro p hp q hq
      rw [List.mem_singleton.mp hq]
      exact Nat.ne_of_lt (lI p (.tail _ (.tail _ (.tail _ (.tail _ (.tail _ (.tail _ (.tail _ (.tail _ hp)))))))))
    · show (1 : Int) = 1 + nls cs - nls (fileOf (wordsOf nms 0 st) ts).cps.toList
      rw [← hcs]; omega
    · show StrsAre vsA (sgn (fileOf (wordsOf nms 0 st) ts).cps.toList).reverse
      rw [← hcs]; exact hvA
  case done =>
    rintro m' n' h tk ⟨n, t, vs, k, vq, kq, o', kvs, c, vst, kst, T, Z, ta, b, hS, rfl, hTZ, hZ, hoI, hn, hvs, hvq, hsd, hfd, hdk, hst⟩ F2 N3
    have F3 := same_fr hS F2
    simp only [List.length_map, List.length_range, List.take_of_length_le (Nat.le_of_eq hsz)] at F3 hvq hdk hst hn hvs
    have hwl : (wordsOf nms 0 st).drop 10 = [] := List.drop_eq_nil_of_le (Nat.le_of_eq ((wordsOf_length nms st 0).trans hsz))
    rw [hwl] at hn hvs
    replace hvs : StrsAre vs (sgn (nlP b)).reverse := by rw [show nlP b = nlP b ++ (fileOf [] (ts.drop 10)).cps.toList from (List.append_nil _).symm]; exact hvs
    replace hn : n = 1 + nls cs - nls (nlP b) := by rw [show nlP b = nlP b ++ (fileOf [] (ts.drop 10)).cps.toList from (List.append_nil _).symm]; exact hn
    rw [hrow] at hvq
    obtain rfl : vq = [] := List.length_eq_zero_iff.mp hvq.length
    clear F2 F0 N2 hS
    dsimp only [envOf] at F3 N3
    (try k_fold)
    have hoT : OwnOff T [dlx, lf, pbn, d, S, 140, dln, lfn] := by
      intro p hp b hb
      rw [hTZ] at hp
      rcases List.mem_append.mp hp with hp | hp
      · exact Nat.ne_of_gt (Nat.lt_of_le_of_lt (hleS b hb) (hZ p hp))
      · exact hoff p hp b hb
    have R := Keep.mk (dayR_mk (E := [(d, o'), (S, listOf (List.toArray vst) kst), (140, oB), (dln, lexD w 1 tB t3B k1B k2B k3B k4B (.ref stB) (.ref pbn)), (lfn, listOf #[] kB)]) (rA.sub fun p hp => hTZ ▸ List.mem_append_right _ hp) (hTZ ▸ List.mem_append_right _ rB.h1) (.tail _ (.tail _ (.tail _ (.head _)))) (hTZ ▸ List.mem_append_right _ hpb) (OwnOff.mono hoT (by simp)) (day_E3 hnod) (nd_facts hnod).2.2.1)
    have RB := Keep.mk (rB.sub (TT' := T) fun p hp => hTZ ▸ List.mem_append_right _ hp)
    have hlx : (lx, instObj 115 dlx) ∈ T := hTZ ▸ List.mem_append_right _ rA.h1
    have hln : (ln, instObj 115 dln) ∈ T := hTZ ▸ List.mem_append_right _ rB.h1
    have hbl : (nlP b).length ≤ 10000 := by cases b <;> decide
    have hdl : dln ≠ lfn := (nd_facts hnod).2.2.2.2.2.2.1
    replace hdl := Keep.mk hdl
    have hTf : Keep (OwnOff T [dln, lfn]) := Keep.mk (OwnOff.mono hoT (by simp))
    have hE := Keep.mk (fun oa ob oc od oe oj => day_E (oa := oa) (ob := ob) (oc := oc) (od := od) (oe := oe) (oj := oj) hnod)
    repeat' (first | ((fail_if_success (with_reducible show wpAny _ _ (call (Prod.fst _) _) _ _ _)); (first | k_extra "M9" | walk1)))
    dsimp only [List.cons_append, List.nil_append]
    (refine' TellC.use ?N ?B ?F ?X ?T ?C rfl rfl ?d ?u (day_get R.h (Str.ofString "") _ _ (lexTok_end b) _ _ _ _ _ _ _ _ _ _ _ hvs hbl) ?_; (case N => k_asm); (case B => k_asm); (case F => k_asm); (case X => k_asm); (case T => k_asm); (case d => exact Nat.le_of_ble_eq_true rfl); (case u => exact Nat.le_of_ble_eq_true rfl); (case C => k_asm); k_whole)
    intro v' news' h' tk' F' N' P'
    obtain ⟨t2, ts2, vs2, k2, e2, e3, hvs2⟩ := P'
    subst e2
    subst e3
    rw [show n + nls (nlP b) - nls [] = 1 + nls cs by rw [hn]; show 1 + nls cs - nls (nlP b) + nls (nlP b) - 0 = _; omega] at N'
    replace hpb := Keep.mk hpb
    replace N' : News _ _ _ ((dlx, lexD w (1 + nls cs) t2 t3A k1A k2A k3A k4A (.ref stA) (.ref pb)) :: (lf, listOf (List.toArray vs2) k2) :: (pbn, listOf #[] kq) :: (d, o') :: (S, listOf (List.toArray vst) kst) :: (140, oB) :: (dln, lexD w 1 tB t3B k1B k2B k3B k4B (.ref stB) (.ref pbn)) :: (lfn, listOf #[] kB) :: T) := N'
    repeat' (first | ((fail_if_success (with_reducible show wpAny _ _ (call (Prod.fst _) _) _ _ _)); (first | k_extra "M9" | walk1)))
    dsimp only [List.cons_append, List.nil_append]
    (refine' TellC.use ?N ?B ?F ?X ?T ?C rfl rfl ?d ?u (day_last RB.h hTf.h hdl.h _ _ _ _ _ _ (hE.h _ _ _ _ _ _) _ _ _ _ _ _ _) ?_; (case N => k_asm); (case B => k_asm); (case F => k_asm); (case X => k_asm); (case T => k_asm); (case d => exact Nat.le_of_ble_eq_true rfl); (case u => exact Nat.le_of_ble_eq_true rfl); (case C => k_asm); k_whole)
    intro v' news' h' tk' F' N' P'
    obtain ⟨t2', ts2', k2', e2, e3⟩ := P'
    subst e2
    subst e3
    repeat' (first | (k_unfold; (try dsimp only)) | (k_end; wrow_close) | ((fail_if_success (with_reducible show wpAny _ _ (exec (Stmt.While _ _ _ _) _) _ _ _)); (fail_if_success (with_reducible show wpAny _ _ (exec (Stmt.For _ _ _ _ _) _) _ _ _)); (first | k_extra "M9" | walk1)) | (dsimp only; (first | k_extra "M9" | walk1)) | (leave1; walk_say "STEP leave1"; try dsimp only) | fail "no step")
    rename News h₀ _ _ _ => N9
    rename Fr h₀ _ _ m => F9
    rename (_ < _) ∧ dlx < _ ∧ _ => lD9
    rename dlx < _ ∧ lf < _ ∧ _ => lR9
    rename_i RL _ D _ _ _ _ _
    obtain ⟨w0, w1, w2, w3, w4, w5, w6, w7, w8, w9⟩ := lD9
    obtain ⟨u1, u2, u3, u4, u5, u6, u7⟩ := lR9
    obtain ⟨new, hnew, NN, q1, q2, hoff9, hord9⟩ := day_end N9 hTZ hTY hnod hoT w6 u6 hYl (fun p hp q hq => Nat.lt_trans (hTTS p hp) (hZ q hq)) (fun p hp => ⟨(hlA p hp).1, (hlA p hp).2.1⟩) (fun p hp => ⟨(hlB p (.tail _ (.tail _ (.tail _ (List.mem_append_right _ hp))))).1, (hlB p (.tail _ (.tail _ (.tail _ (List.mem_append_right _ hp))))).2.1, (hlB p (.tail _ (.tail _ (.tail _ (List.mem_append_right _ hp))))).2.2.1⟩) lD.2.1 hTTS u5 w5
    exact hret _ _ _ _ F9 NN ⟨oB, D, S, RL, vst, kst, _, ta, _, _, _, _, rfl, rfl, tabOk_sub hTab q2, hoff9, hord9, mem_new hnew (.head _), mem_new hnew (.tail _ (.tail _ (.tail _ (.tail _ (.tail _ (.tail _ (.head _))))))), hst.sub q1, mem_new hnew (.tail _ (.head _)), fun X hX => tabOk_sub (hXX.h X hX) fun p hp => (List.mem_append.mp hp).elim (fun h => List.mem_append_left _ (mem_new hnew (.tail _ (.tail _ (.tail _ (.tail _ (.tail _ (.tail _ (.tail _ (.tail _ (.tail _ (List.mem_append_right _ h))))))))))) ) fun h => List.mem_append_right _ h⟩
  case turn =>
    rintro i x m' n' v h tk hx ⟨n, t, vs, k, vq, kq, o', kvs, c, vst, kst, T, Z, ta, b, hS, rfl, hTZ, hZ, hoI, hn, hvs, hvq, hsd, hfd, hdk, hst⟩ hv F2 o1 ho1 PP hPP N3
    have hi : i < 10 := by have := (List.getElem?_eq_some_iff.mp hx).1; exact Nat.lt_of_lt_of_eq this (rItems_length 10)
    replace hx := (rItems_get hi).symm.trans hx
    obtain rfl := Option.some.inj hx
    obtain ⟨ti, hvv⟩ := hv
    replace hvv : v = .int ((i : Nat) : Int) ti := hvv
    subst hvv
    clear hRA hTA hvA hdA hdA' hoA hlA hRB hTB hdB hdB' hoB hlB lD lS hsD hfD hvB hO ho hclen hclen' hTTS hYl
    replace N3 := news_in N3
    have F3 := same_fr hS F2
    clear F2 F0 N2
    dsimp only [envOf] at F3 N3
    (try k_fold)
    have hi' : i < st.length := by omega
    have e1 := pOf_take nms st i st[i] (List.getElem?_eq_getElem hi')
    have ea := addrOf_take st i st[i] (List.getElem?_eq_getElem hi')
    obtain ⟨g1, g2, g3⟩ := good_run nms st 0 0 0 ⟨[], [], 0⟩ hg rfl rfl i hi' st[i] (List.getElem?_eq_getElem hi')
    have hyi := wordsOf_get nms st 0 i st[i] (List.getElem?_eq_getElem hi')
    have hti : ts[i]? = some ts[i] := List.getElem?_eq_getElem (by omega)
    change (∀ f, st[i] = some f → f < (pOf nms (st.take i)).row.length) at g1
    change (st[i] = none → (pOf nms (st.take i)).came < 5) at g2
    change (pOf nms (st.take i)).came = 0 + comings (st.take i) at g3
    obtain ⟨b1, b2, b3⟩ := good_bound nms st 0 0 0 ⟨[], [], 0⟩ hg rfl rfl (Nat.le_refl _) (Nat.zero_le _) i (by omega)
    change (pOf nms (st.take i)).row.length ≤ (pOf nms (st.take i)).came at b1
    change (pOf nms (st.take i)).came ≤ 5 at b2
    change (pOf nms (st.take i)).stays.length + (pOf nms (st.take i)).row.length = 0 + (pOf nms (st.take i)).came + 0 - 0 at b3
    have hadl := addrOf_len hg5 i (by omega)
    generalize hadr : addrOf (st.take i) = adr at *
    generalize pOf nms (st.take i) = q at *
    have hvql : vq.length = q.row.length := by rw [hvq.length, List.length_map]
    have hvq5 : vq.length ≤ 5 := by omega
    have hvst : vst.length = q.stays.length := hst.1
    have hvst5 : vst.length ≤ 5 := by omega
    have hcl : c.length = q.came := hdk.1
    obtain ⟨⟨x1, x2, x3, x4, x5, x6, x7⟩, ⟨y1, y2, y3, y4, y5, y6⟩, z1, z2, z3, z4, z5⟩ := nd_facts hnod
    have lId := ltN (lI _ (.tail _ (.tail _ (.tail _ (.head _)))))
    have lIS := ltN (lI _ (.tail _ (.tail _ (.tail _ (.tail _ (.head _))))))
    have hoT : OwnOff T [dlx, lf, pbn, d, S, 140, dln, lfn] := by
      intro p hp b hb
      rw [hTZ] at hp
      rcases List.mem_append.mp hp with hp | hp
      · exact Nat.ne_of_gt (Nat.lt_of_le_of_lt (hleS b hb) (hZ p hp))
      · exact hoff p hp b hb
    have hTd : OwnOff T [d, S] := OwnOff.mono hoT (by simp)
    have hI8 : Keep (∀ b ∈ [dlx, lf, pbn, d, S, 140, dln, lfn], b < I) := by
      refine ⟨fun b hb => ?_⟩
      simp only [List.mem_cons, List.not_mem_nil, or_false] at hb
      rcases hb with rfl | rfl | rfl | rfl | rfl | rfl | rfl | rfl
      · exact lI _ (.head _)
      · exact lI _ (.tail _ (.head _))
      · exact lI _ (.tail _ (.tail _ (.head _)))
      · exact lI _ (.tail _ (.tail _ (.tail _ (.head _))))
      · exact lI _ (.tail _ (.tail _ (.tail _ (.tail _ (.head _)))))
      · exact lI _ (.tail _ (.tail _ (.tail _ (.tail _ (.tail _ (.head _))))))
      · exact lI _ (.tail _ (.tail _ (.tail _ (.tail _ (.tail _ (.tail _ (.head _)))))))
      · exact lI _ (.tail _ (.tail _ (.tail _ (.tail _ (.tail _ (.tail _ (.tail _ (.head _))))))))
    have R : ∀ od vs1 k1, DayR w ((I, o1) :: (d, od) :: (S, listOf vs1 k1) :: (140, oB) :: (dln, lexD w 1 tB t3B k1B k2B k3B k4B (.ref stB) (.ref pbn)) :: (lfn, listOf #[] kB) :: T) lx dlx lf pb stA ln dln pbn stB := by
      intro od vs1 k1
      refine dayR_mk (E := [(I, o1), (d, od), (S, listOf vs1 k1), (140, oB), (dln, lexD w 1 tB t3B k1B k2B k3B k4B (.ref stB) (.ref pbn)), (lfn, listOf #[] kB)]) (rA.sub fun p hp => hTZ ▸ List.mem_append_right _ hp) (hTZ ▸ List.mem_append_right _ rB.h1) (.tail _ (.tail _ (.tail _ (.tail _ (.head _))))) (hTZ ▸ List.mem_append_right _ hpb) (OwnOff.mono hoT (by simp)) ?_ z1
      have q1 := hI8.h dlx (by simp)
      have q2 := hI8.h lf (by simp)
      have q3 := hI8.h pbn (by simp)
      intro p hp b hb
      simp only [List.mem_cons, List.not_mem_nil, or_false] at hp hb
      rcases hp with rfl | rfl | rfl | rfl | rfl | rfl <;> rcases hb with rfl | rfl | rfl
      · exact Nat.ne_of_gt q1
      · exact Nat.ne_of_gt q2
      · exact Nat.ne_of_gt q3
      · exact Ne.symm x1
      · exact Ne.symm x2
      · exact Ne.symm x3
      · exact Ne.symm y1
      · exact Ne.symm y2
      · exact Ne.symm y3
      · exact z2.1
      · exact z2.2.1
      · exact z2.2.2
      · exact Ne.symm z3.1
      · exact Ne.symm z3.2.1
      · exact Ne.symm z3.2.2
      · exact Ne.symm z4.1
      · exact Ne.symm z4.2.1
      · exact Ne.symm z4.2.2
    have hlx : (lx, instObj 115 dlx) ∈ T := hTZ ▸ List.mem_append_right _ rA.h1
    have hln : (ln, instObj 115 dln) ∈ T := hTZ ▸ List.mem_append_right _ rB.h1
    have hTd2 : OwnOff ((140, oB) :: (dln, lexD w 1 tB t3B k1B k2B k3B k4B (.ref stB) (.ref pbn)) :: (lfn, listOf #[] kB) :: T) [d, S] :=
      List.forall_mem_cons.mpr ⟨List.forall_mem_cons.mpr ⟨x5, List.forall_mem_cons.mpr ⟨y4, List.forall_mem_nil _⟩⟩, List.forall_mem_cons.mpr ⟨List.forall_mem_cons.mpr ⟨x6, List.forall_mem_cons.mpr ⟨y5, List.forall_mem_nil _⟩⟩, List.forall_mem_cons.mpr ⟨List.forall_mem_cons.mpr ⟨x7, List.forall_mem_cons.mpr ⟨y6, List.forall_mem_nil _⟩⟩, hTd⟩⟩⟩
    obtain ⟨T2, hT2, hlx2, hln2, hdn2, hTd3, R2, N4⟩ : ∃ T2 : Led, (140, oB) :: (dln, lexD w 1 tB t3B k1B k2B k3B k4B (.ref stB) (.ref pbn)) :: (lfn, listOf #[] kB) :: T = T2 ∧ (lx, instObj 115 dlx) ∈ T2 ∧ (ln, instObj 115 dln) ∈ T2 ∧ (dln, lexD w 1 tB t3B k1B k2B k3B k4B (.ref stB) (.ref pbn)) ∈ T2 ∧ OwnOff T2 [d, S] ∧
        (∀ od vs1 k1, DayR w ((I, o1) :: (d, od) :: (S, listOf vs1 k1) :: T2) lx dlx lf pb stA ln dln pbn stB) ∧
        News _ _ _ ((dlx, lexD w n t t3A k1A k2A k3A k4A (.ref stA) (.ref pb)) :: (lf, listOf (List.toArray vs) k) :: (pbn, listOf (List.toArray vq) kq) :: (I, o1) :: (d, o') :: (S, listOf (List.toArray vst) kst) :: T2) :=
      ⟨_, rfl, .tail _ (.tail _ (.tail _ hlx)), .tail _ (.tail _ (.tail _ hln)), .tail _ (.head _), hTd2, R, N3⟩
    clear hTd hTd2 N3 R hlx hln x5 x6 x7 y4 y5 y6
    have R := R2
    clear R2
    have hxw : ∃ x, (wordsOf nms 0 st)[i]? = some x := ⟨_, hyi⟩
    obtain ⟨x, hx⟩ := hxw
    have hxe := Option.some.inj (hx.symm.trans hyi)
    have hxA : x ∈ allW := hwA x (List.mem_of_getElem? hx)
    have hlt := lexTok_word b x ts[i] (fileOf ((wordsOf nms 0 st).drop (i + 1)) (ts.drop (i + 1))).cps.toList hxA
    rw [fileOf_drop hx hti] at hvs hn
    have hcsl : (nlP b ++ ((encW x ts[i]).cps.toList ++ (fileOf ((wordsOf nms 0 st).drop (i + 1)) (ts.drop (i + 1))).cps.toList)).length ≤ 10000 := by
      rw [← fileOf_drop hx hti]
      have h1 := fileOf_len ((wordsOf nms 0 st).drop i) (ts.drop i) fun y hy => hwA y (List.mem_of_mem_drop hy)
      have h2 : (wordsOf nms 0 st).length = 10 := by rw [wordsOf_length, hsz]
      have h3 : (nlP b).length ≤ 1 := by cases b <;> decide
      have h4 : ((wordsOf nms 0 st).drop i).length ≤ 10 := by rw [List.length_drop, h2]; omega
      have h6 : (fileOf ((wordsOf nms 0 st).drop i) (ts.drop i)).cps.toList.length = (fileOf ((wordsOf nms 0 st).drop i) (ts.drop i)).cps.size := rfl
      rw [List.length_append]
      have h5 : (fileOf ((wordsOf nms 0 st).drop i) (ts.drop i)).cps.size ≤ 24 * ((wordsOf nms 0 st).drop i).length := h1
      omega
    generalize nlP b ++ ((encW x ts[i]).cps.toList ++ (fileOf ((wordsOf nms 0 st).drop (i + 1)) (ts.drop (i + 1))).cps.toList) = rem at *
    replace hcs := Keep.mk hcs
    replace hwA := Keep.mk hwA
    replace hg5 := Keep.mk hg5
    replace hoT := Keep.mk hoT
    replace hTZ := Keep.mk hTZ
    replace hnm := Keep.mk hnm
    replace hnd := Keep.mk hnd
    replace hg := Keep.mk hg
    replace hnod := Keep.mk hnod
    replace hleS := Keep.mk hleS
    replace hoff := Keep.mk hoff
    replace rA := Keep.mk rA
    replace rB := Keep.mk rB
    replace hTab := Keep.mk hTab
    replace hTS := Keep.mk hTS
    replace hpb := Keep.mk hpb
    replace hdk := Keep.mk hdk
    replace hst := Keep.mk hst
    replace hvq := Keep.mk hvq
    replace hS := Keep.mk hS
    replace hZ := Keep.mk hZ
    replace hoI := Keep.mk hoI
    replace hn := Keep.mk hn
    replace g1 := Keep.mk g1
    replace g2 := Keep.mk g2
    replace g3 := Keep.mk g3
    replace hyi := Keep.mk hyi
    replace hti := Keep.mk hti
    replace e1 := Keep.mk e1
    replace ea := Keep.mk ea
    replace hx := Keep.mk hx
    replace hxe := Keep.mk hxe
    replace hxA := Keep.mk hxA
    replace hlt := Keep.mk hlt
    replace hvs := Keep.mk hvs
    replace R := Keep.mk R
    replace hcsl := Keep.mk hcsl
    replace b1 := Keep.mk b1
    replace b3 := Keep.mk b3
    replace hadr := Keep.mk hadr
    replace hTY := Keep.mk hTY
    replace A0 := Keep.mk A0
    replace z1 := Keep.mk z1
    replace z2 := Keep.mk z2
    replace z3 := Keep.mk z3
    replace z4 := Keep.mk z4
    replace z5 := Keep.mk z5
    replace hsz := Keep.mk hsz
    replace htl := Keep.mk htl
    replace hnl := Keep.mk hnl
    repeat' (first | ((fail_if_success (with_reducible show wpAny _ _ (call (Prod.fst _) _) _ _ _)); (first | k_extra "M9" | walk1)))
    dsimp only [List.cons_append, List.nil_append]
    (refine' TellC.use ?N ?B ?F ?X ?T ?C rfl rfl ?d ?u (day_get (R.h _ _ _) x _ _ hlt.h _ _ _ _ _ _ _ _ _ _ _ hvs.h hcsl.h) ?_; (case N => k_asm); (case B => k_asm); (case F => k_asm); (case X => k_asm); (case T => k_asm); (case d => exact Nat.le_of_ble_eq_true rfl); (case u => exact Nat.le_of_ble_eq_true rfl); (case C => k_asm); k_whole)
    intro v' news' h' tk' F' N' P'
    obtain ⟨t2, ts2, vs2, k2, e2, e3, hvs2⟩ := P'
    subst e2
    subst e3
    replace hn : Keep (n + nls rem - nls (nlP (decide ((ts[i] / 120) % 2 = 0)) ++ (fileOf ((wordsOf nms 0 st).drop (i + 1)) (ts.drop (i + 1))).cps.toList) = 1 + nls cs - nls (nlP (decide ((ts[i] / 120) % 2 = 0)) ++ (fileOf ((wordsOf nms 0 st).drop (i + 1)) (ts.drop (i + 1))).cps.toList)) := Keep.mk (by rw [hn.h]; omega)
    obtain ⟨n2, hn2⟩ : ∃ n2, n2 = n + nls rem - nls (nlP (decide ((ts[i] / 120) % 2 = 0)) ++ (fileOf ((wordsOf nms 0 st).drop (i + 1)) (ts.drop (i + 1))).cps.toList) := ⟨_, rfl⟩
    rw [← hn2] at hn N'
    obtain ⟨oX, hoX, oL, hoL, N9⟩ : ∃ oX, lexD w n2 t2 t3A k1A k2A k3A k4A (.ref stA) (.ref pb) = oX ∧ ∃ oL, listOf (List.toArray vs2) k2 = oL ∧ News _ _ _ ((dlx, oX) :: (lf, oL) :: (pbn, listOf (List.toArray vq) kq) :: (I, o1) :: (d, o') :: (S, listOf (List.toArray vst) kst) :: T2) := ⟨_, rfl, _, rfl, N'⟩
    clear hn2 N'
    have N' := N9
    clear N9
    cases hoi : st[i] with
    | none =>
      replace hxe := hxe.h
      rw [hoi] at hxe
      dsimp only at hxe
      have hg3 := g3.h
      have hnl' := hnl.h
      rw [← hg3] at hxe
      have hc5 := g2.h hoi
      have hsre : Keep (SreIs x.cps none) := ⟨by rw [hxe]; exact name_hdn (name_in hnm.h (by omega))⟩
      have hxs : x.cps.size ≤ 1000000 := by have := (allW_len1 x hxA.h).2; unfold Str.length at this; omega
      replace hxe := Keep.mk hxe
      repeat' (first | ((fail_if_success (with_reducible show wpAny _ _ (call (Value.ref 50) _) _ _ _)); (first | k_extra "M9" | walk1)))
      (refine' Tell.use ?N ?B ?F ?X ?T rfl rfl ?d ?u (hdn_no _ _ _ _ hsre.h hxs) ?_; (case N => k_asm); (case B => k_asm); (case F => k_asm); (case X => k_asm); (case T => k_asm); (case d => exact Nat.le_of_ble_eq_true rfl); (case u => exact Nat.le_of_ble_eq_true rfl); k_whole)
      intro v' news' h' tk' F' N' P'
      obtain ⟨e1', e2'⟩ := P'
      subst e1'
      subst e2'
      repeat' (first | ((fail_if_success (with_reducible show wpAny _ _ (call (Value.ref 112) _) _ _ _)); (first | k_extra "M9" | walk1)))
      (refine' Tell.use ?N ?B ?F ?X ?T rfl rfl ?d ?u (day_push (R.h _ _ _) _ _ _ _ _ _ ?h2) ?_; (case N => k_asm); (case B => k_asm); (case F => k_asm); (case X => k_asm); (case T => k_asm); (case d => exact Nat.le_of_ble_eq_true rfl); (case u => exact Nat.le_of_ble_eq_true rfl); (case h2 => omega); k_whole)
      intro v' news' h' tk' F' N' P'
      obtain ⟨e1', e2'⟩ := P'
      subst e1'
      subst e2'
      repeat' (first | (k_unfold; (try dsimp only)) | (k_end; wrow_close) | ((fail_if_success (with_reducible show wpAny _ _ (exec (Stmt.While _ _ _ _) _) _ _ _)); (fail_if_success (with_reducible show wpAny _ _ (exec (Stmt.For _ _ _ _ _) _) _ _ _)); (first | k_extra "M9" | walk1)) | (dsimp only; (first | k_extra "M9" | walk1)) | (leave1; walk_say "STEP leave1"; try dsimp only) | fail "no step")
      rename_i _ o2 kvs2 _ _ hd2 hf2
      have e1' := e1.h
      have ea' := ea.h
      rw [hoi] at e1' ea'
      subst hT2 hoX hoL
      refine hPP _ ?_
      rw [e1', ea']
      refine' turn_end F' N' _ news_out day_sub (day_off hI8.h hoI.h) ⟨trivial, _, _, _, _, _, _, o2, kvs2, _, vst, _, T, Z, ta, _, same_of ?sm ?sr, rfl, hTZ.h, hZ.h, hoI.h, hn.h, hvs2, ?hvq, hd2, hf2, ?hdk, hst.h⟩
      case sm => (repeat (refine allAt_cons (by with_unfolding_all rfl) ?_)); exact allAt_nil
      case sr => (intro z h1 h2; simp only [List.map_cons, List.map_nil, List.mem_cons, List.not_mem_nil, or_false, not_or] at h1 h2; simp [ovr_ne, h1, h2])
      case hvq =>
        simp only [pStep, List.map_append, List.map_cons, List.map_nil]
        rw [← hxe.h]
        exact hvq.h.append' (.cons _ _ .nil)
      case hdk =>
        have := dictOk_come (i := i) hnd.h hdk.h (by rw [hnl']; omega)
        rw [← hxe.h] at this
        exact this
    | some f =>
      replace hxe := hxe.h
      rw [hoi] at hxe
      dsimp only at hxe
      have hf := g1.h f hoi
      have hb1 := b1.h
      have hb3 := b3.h
      have hsre : Keep (SreIs x.cps (some (0, 2))) := ⟨by rw [hxe]; exact dot_hdn (by omega)⟩
      obtain ⟨hxl1, hxl2⟩ := allW_len1 x hxA.h
      have hxs : x.cps.size ≤ 1000000 := by have := hxl2; unfold Str.length at this; omega
      have hnt : PySem.intText? (PySem.Txt.slice x (some 1) none) = some (f : Int) := by rw [hxe]; exact (dots_read f (five (by omega))).2
      replace hxe := Keep.mk hxe
      repeat' (first | ((fail_if_success (with_reducible show wpAny _ _ (call (Value.ref 50) _) _ _ _)); (first | k_extra "M9" | walk1)))
      (refine' Tell.use ?N ?B ?F ?X ?T rfl rfl ?d ?u (hdn_yes _ _ _ _ _ _ hsre.h hxs) ?_; (case N => k_asm); (case B => k_asm); (case F => k_asm); (case X => k_asm); (case T => k_asm); (case d => exact Nat.le_of_ble_eq_true rfl); (case u => exact Nat.le_of_ble_eq_true rfl); k_whole)
      intro v' news' h' tk' F' N' P'
      obtain ⟨e1', e2'⟩ := P'
      subst e1'
      subst e2'
      repeat' (first | (k_unfold; (try dsimp only)) | (k_end; wrow_close) | ((fail_if_success (with_reducible show wpAny _ _ (exec (Stmt.While _ _ _ _) _) _ _ _)); (fail_if_success (with_reducible show wpAny _ _ (exec (Stmt.For _ _ _ _ _) _) _ _ _)); (first | k_extra "M9" | walk1)) | (dsimp only; (first | k_extra "M9" | walk1)) | (leave1; walk_say "STEP leave1"; try dsimp only) | fail "no step")
      rename Fr _ _ _ _ => F1
      k_dflt (refine' For_turns F1 ?_)
      repeat' (first | ((fail_if_success (with_reducible show wpAny _ _ (call (Value.type _) _) _ _ _)); (fail_if_success (with_reducible show wpAny _ _ (pyIter _) _ _ _)); (first | k_extra "M9" | walk1)))
      rename Fr _ _ _ _ => F1
      rename News _ _ _ _ => N1
      obtain ⟨m1, tf, tb, A1, B1, F0⟩ : ∃ m1 tf tb, AllAt m1 [("lexer", .ref lx), ("line", .ref ln), ("came", .ref d), ("stays", .ref S), ("address", .str adr ta), ("word", .str x ts2), ("moment", .int (i : Nat) ti), ("ahead", .int f tf), ("behind", .int ((c.length : Nat) - (vst.length : Nat) - 1 - (f : Nat)) tb)] ∧ (∀ z, z ∉ (["moment", "word", "ahead", "behind", "k", "name"] : List Str) → z ∉ (["lexer", "line", "came", "stays", "address"] : List Str) → m1 z = m0 z) ∧ Fr _ _ _ m1 := ⟨_, _, _, by (repeat (refine allAt_cons (by with_unfolding_all rfl) ?_)); exact allAt_nil, by (intro z h1 h2; simp only [List.map_cons, List.map_nil, List.mem_cons, List.not_mem_nil, or_false, not_or] at h1 h2; simp [ovr_ne, h1, h2]), F1⟩
      replace B1 := Keep.mk B1
      replace A1 := Keep.mk A1
      clear F1
      k_dflt (refine' range_turnsI (n := f) rfl rfl F0 N1 (by omega) (fun I2 lI2 => items_inv (fun j m2 n2' => ∃ vq2 kq2, Same ["k"] [("lexer", .ref lx), ("line", .ref ln), ("came", .ref d), ("stays", .ref S), ("address", .str adr ta), ("word", .str x ts2), ("moment", .int (i : Nat) ti), ("ahead", .int f tf), ("behind", .int ((c.length : Nat) - (vst.length : Nat) - 1 - (f : Nat)) tb)] m1 m2 ∧
        n2' = (dlx, oX) :: (lf, oL) :: (pbn, listOf (List.toArray vq2) kq2) :: (I, o1) :: (d, o') :: (S, listOf (List.toArray vst) kst) :: T2 ∧
        StrsAre vq2 ((q.row.map (·.2)).drop j ++ (q.row.map (·.2)).take j)) ?turn1 ?done1 0 _ _ (Nat.zero_le _) ?j01))
      case j01 => exact ⟨vq, kq, same_start A1.h, rfl, by simpa using hvq.h⟩
      case turn1 =>
        rintro j a m2 n2' v2 h2 tk2 hx2 ⟨vq2, kq2, hS2, rfl, hq2⟩ hv2 F2 o3 ho3 PP2 hPP2 N3
        have hj : j < f := Nat.lt_of_lt_of_eq (List.getElem?_eq_some_iff.mp hx2).1 (rItems_length f)
        replace hx2 := (rItems_get hj).symm.trans hx2
        obtain rfl := Option.some.inj hx2
        obtain ⟨tj, hvv⟩ := hv2
        replace hvv : v2 = .int ((j : Nat) : Int) tj := hvv
        subst hvv
        replace N3 := news_in N3
        have F3 := same_fr hS2 F2
        clear F2 hS2 F0 N1
        dsimp only [envOf] at F3 N3
        (try k_fold)
        obtain ⟨y, hy⟩ : ∃ y, (q.row.map (·.2))[j]? = some y := ⟨_, List.getElem?_eq_getElem (by rw [List.length_map]; omega)⟩
        obtain ⟨r1, r2⟩ := rot_next _ j y hy
        rw [r1] at hq2
        obtain ⟨ty, rq, rfl, hrq⟩ := strs_cons hq2
        have hrq5 : rq.length ≤ 10 := by rw [hrq.length]; simp; omega
        have i1 := ltN (lI2 _ (.head _))
        have i2 := ltN (lI2 _ (.tail _ (.head _)))
        have i3 := ltN (lI2 _ (.tail _ (.tail _ (.head _))))
        have i4 := Keep.mk (fun p hp => lI2 p (.tail _ (.tail _ (.tail _ hp))))
        have R2 := Keep.mk ((R.h o' vst.toArray kst).cons (p := (I2, o3)) i1 i2 i3)
        replace hrq := Keep.mk hrq
        replace r2 := Keep.mk r2
        clear hq2 r1 hy hx2 lI2
        repeat' (first | ((fail_if_success (with_reducible show wpAny _ _ (call (Prod.fst _) _) _ _ _)); (first | k_extra "M9" | walk1)))
        dsimp only [List.cons_append, List.nil_append]
        (refine' Tell.use ?N ?B ?F ?X ?T rfl rfl ?d ?u (day_pop R2.h _ _ _ _ _ ?h2) ?_; (case N => k_asm); (case B => k_asm); (case F => k_asm); (case X => k_asm); (case T => k_asm); (case d => exact Nat.le_of_ble_eq_true rfl); (case u => exact Nat.le_of_ble_eq_true rfl); (case h2 => omega); k_whole)
        intro v' news' h' tk' F' N' P'
        obtain ⟨e1', e2'⟩ := P'
        subst e1'
        subst e2'
        repeat' (first | ((fail_if_success (with_reducible show wpAny _ _ (call (Value.ref 112) _) _ _ _)); (first | k_extra "M9" | walk1)))
        (refine' Tell.use ?N ?B ?F ?X ?T rfl rfl ?d ?u (day_push R2.h _ _ _ _ _ _ ?h2) ?_; (case N => k_asm); (case B => k_asm); (case F => k_asm); (case X => k_asm); (case T => k_asm); (case d => exact Nat.le_of_ble_eq_true rfl); (case u => exact Nat.le_of_ble_eq_true rfl); (case h2 => omega); k_whole)
        intro v' news' h' tk' F' N' P'
        obtain ⟨e1', e2'⟩ := P'
        subst e1'
        subst e2'
        repeat' (first | (k_unfold; (try dsimp only)) | (k_end; wrow_close) | ((fail_if_success (with_reducible show wpAny _ _ (exec (Stmt.While _ _ _ _) _) _ _ _)); (fail_if_success (with_reducible show wpAny _ _ (exec (Stmt.For _ _ _ _ _) _) _ _ _)); (first | k_extra "M9" | walk1)) | (dsimp only; (first | k_extra "M9" | walk1)) | (leave1; walk_say "STEP leave1"; try dsimp only) | fail "no step")
        refine hPP2 _ ?_
        refine' turn_end F' N' _ news_out day_sub3 (day_off3 i1 i2 i3 i4.h) ⟨trivial, _, _, same_of ?sm ?sr, rfl, ?q⟩
        case sm => (repeat (refine allAt_cons (by with_unfolding_all rfl) ?_)); exact allAt_nil
        case sr => (intro z h1 h2; simp only [List.map_cons, List.map_nil, List.mem_cons, List.not_mem_nil, or_false, not_or] at h1 h2; simp [ovr_ne, h1, h2])
        case q => rw [r2.h]; exact hrq.h.append' (.cons _ _ .nil)
      case done1 =>
        rintro m2 n2' h2 tk2 ⟨vq2, kq2, hS2, rfl, hq2⟩ F2 N3
        replace hq2 : StrsAre vq2 ((q.row.map (·.2)).drop f ++ (q.row.map (·.2)).take f) := (rItems_length f) ▸ hq2
        have F3 := same_fr hS2 F2
        clear F2 hS2 F0 N1
        dsimp only [envOf] at F3 N3
        (try k_fold)
        obtain ⟨y, hy⟩ : ∃ y, (q.row.map (·.2))[f]? = some y := ⟨_, List.getElem?_eq_getElem (by rw [List.length_map]; exact hf)⟩
        obtain ⟨r1, -⟩ := rot_next _ f y hy
        rw [r1] at hq2
        obtain ⟨ty, rq, rfl, hrq⟩ := strs_cons hq2
        have hrq5 : rq.length ≤ 10 := by rw [hrq.length]; simp; omega
        replace hrq := Keep.mk hrq
        replace hy := Keep.mk hy
        clear hq2 r1
        repeat' (first | ((fail_if_success (with_reducible show wpAny _ _ (call (Prod.fst _) _) _ _ _)); (first | k_extra "M9" | walk1)))
        dsimp only [List.cons_append, List.nil_append]
        (refine' Tell.use ?N ?B ?F ?X ?T rfl rfl ?d ?u (day_pop (R.h _ _ _) _ _ _ _ _ ?h2) ?_; (case N => k_asm); (case B => k_asm); (case F => k_asm); (case X => k_asm); (case T => k_asm); (case d => exact Nat.le_of_ble_eq_true rfl); (case u => exact Nat.le_of_ble_eq_true rfl); (case h2 => omega); k_whole)
        intro v' news' h' tk' F' N' P'
        obtain ⟨e1', e2'⟩ := P'
        subst e1'
        subst e2'
        repeat' (first | (k_unfold; (try dsimp only)) | (k_end; wrow_close) | ((fail_if_success (with_reducible show wpAny _ _ (exec (Stmt.While _ _ _ _) _) _ _ _)); (fail_if_success (with_reducible show wpAny _ _ (exec (Stmt.For _ _ _ _ _) _) _ _ _)); (first | k_extra "M9" | walk1)) | (dsimp only; (first | k_extra "M9" | walk1)) | (leave1; walk_say "STEP leave1"; try dsimp only) | fail "no step")
        rename Fr _ _ _ _ => F1
        k_dflt (refine' For_turns F1 ?_)
        repeat' (first | ((fail_if_success (with_reducible show wpAny _ _ (call (Value.type _) _) _ _ _)); (fail_if_success (with_reducible show wpAny _ _ (pyIter _) _ _ _)); (first | k_extra "M9" | walk1)))
        rename Fr _ _ _ _ => F1
        rename News _ _ _ _ => N1
        obtain ⟨qs2, hqs2⟩ : ∃ l, l = (q.row.map (·.2)).drop (f + 1) ++ (q.row.map (·.2)).take f := ⟨_, rfl⟩
        have hql : qs2.length = q.row.length - 1 := by rw [hqs2, List.length_append, List.length_drop, List.length_take, List.length_map]; omega
        replace hrq : Keep (StrsAre rq qs2) := Keep.mk (hqs2 ▸ hrq.h)
        replace hqs2 := Keep.mk hqs2
        obtain ⟨m3, A3, B3, F0⟩ : ∃ m3, AllAt m3 [("lexer", .ref lx), ("line", .ref ln), ("came", .ref d), ("stays", .ref S), ("address", .str adr ta), ("word", .str x ts2), ("moment", .int (i : Nat) ti), ("ahead", .int f tf), ("behind", .int ((c.length : Nat) - (vst.length : Nat) - 1 - (f : Nat)) tb), ("name", .str y ty)] ∧ (∀ z, z ∉ (["moment", "word", "ahead", "behind", "k", "name"] : List Str) → z ∉ (["lexer", "line", "came", "stays", "address"] : List Str) → m3 z = m0 z) ∧ Fr _ _ _ m3 := ⟨_, by (repeat (refine allAt_cons (by with_unfolding_all rfl) ?_)); exact allAt_nil, by (intro z h1 h2; have hb := B1.h z h1 h2; simp only [List.map_cons, List.map_nil, List.mem_cons, List.not_mem_nil, or_false, not_or] at h1 h2; simp [ovr_ne, h1, h2, hb]), F1⟩
        replace B3 := Keep.mk B3
        replace A3 := Keep.mk A3
        clear F1
        k_dflt (refine' range_turnsI (n := q.row.length - (f + 1)) (by omega) rfl F0 N1 (by omega) (fun I2 lI2 => items_inv (fun j m2 n2' => ∃ vq2 kq2, Same ["k"] [("lexer", .ref lx), ("line", .ref ln), ("came", .ref d), ("stays", .ref S), ("address", .str adr ta), ("word", .str x ts2), ("moment", .int (i : Nat) ti), ("ahead", .int f tf), ("behind", .int ((c.length : Nat) - (vst.length : Nat) - 1 - (f : Nat)) tb), ("name", .str y ty)] m3 m2 ∧
          n2' = (dlx, oX) :: (lf, oL) :: (pbn, listOf (List.toArray vq2) kq2) :: (I, o1) :: (d, o') :: (S, listOf (List.toArray vst) kst) :: T2 ∧
          StrsAre vq2 (qs2.drop j ++ qs2.take j)) ?turn2 ?done2 0 _ _ (Nat.zero_le _) ?j02))
        case j02 => exact ⟨rq, _, same_start A3.h, rfl, by simpa using hrq.h⟩
        case turn2 =>
          rintro j a m2 n2' v2 h2 tk2 hx2 ⟨vq2, kq2, hS2, rfl, hq2⟩ hv2 F2 o3 ho3 PP2 hPP2 N3
          have hj : j < q.row.length - (f + 1) := Nat.lt_of_lt_of_eq (List.getElem?_eq_some_iff.mp hx2).1 (rItems_length _)
          replace hx2 := (rItems_get hj).symm.trans hx2
          obtain rfl := Option.some.inj hx2
          obtain ⟨tj, hvv⟩ := hv2
          replace hvv : v2 = .int ((j : Nat) : Int) tj := hvv
          subst hvv
          replace N3 := news_in N3
          have F3 := same_fr hS2 F2
          clear F2 hS2 F0 N1
          dsimp only [envOf] at F3 N3
          (try k_fold)
          obtain ⟨y2, hy2⟩ : ∃ y2, qs2[j]? = some y2 := ⟨_, List.getElem?_eq_getElem (by omega)⟩
          obtain ⟨r1, r2⟩ := rot_next _ j y2 hy2
          rw [r1] at hq2
          obtain ⟨ty2, rq2, rfl, hrq2⟩ := strs_cons hq2
          have hrq6 : rq2.length ≤ 10 := by rw [hrq2.length, List.length_append, List.length_drop, List.length_take]; omega
          have i1 := ltN (lI2 _ (.head _))
          have i2 := ltN (lI2 _ (.tail _ (.head _)))
          have i3 := ltN (lI2 _ (.tail _ (.tail _ (.head _))))
          have i4 := Keep.mk (fun p hp => lI2 p (.tail _ (.tail _ (.tail _ hp))))
          have R2 := Keep.mk ((R.h o' vst.toArray kst).cons (p := (I2, o3)) i1 i2 i3)
          replace hrq2 := Keep.mk hrq2
          replace r2 := Keep.mk r2
          clear hq2 r1 hy2 hx2 lI2
          repeat' (first | ((fail_if_success (with_reducible show wpAny _ _ (call (Prod.fst _) _) _ _ _)); (first | k_extra "M9" | walk1)))
          dsimp only [List.cons_append, List.nil_append]
          (refine' Tell.use ?N ?B ?F ?X ?T rfl rfl ?d ?u (day_pop R2.h _ _ _ _ _ ?h2) ?_; (case N => k_asm); (case B => k_asm); (case F => k_asm); (case X => k_asm); (case T => k_asm); (case d => exact Nat.le_of_ble_eq_true rfl); (case u => exact Nat.le_of_ble_eq_true rfl); (case h2 => omega); k_whole)
          intro v' news' h' tk' F' N' P'
          obtain ⟨e1', e2'⟩ := P'
          subst e1'
          subst e2'
          repeat' (first | ((fail_if_success (with_reducible show wpAny _ _ (call (Value.ref 112) _) _ _ _)); (first | k_extra "M9" | walk1)))
          (refine' Tell.use ?N ?B ?F ?X ?T rfl rfl ?d ?u (day_push R2.h _ _ _ _ _ _ ?h2) ?_; (case N => k_asm); (case B => k_asm); (case F => k_asm); (case X => k_asm); (case T => k_asm); (case d => exact Nat.le_of_ble_eq_true rfl); (case u => exact Nat.le_of_ble_eq_true rfl); (case h2 => omega); k_whole)
          intro v' news' h' tk' F' N' P'
          obtain ⟨e1', e2'⟩ := P'
          subst e1'
          subst e2'
          repeat' (first | (k_unfold; (try dsimp only)) | (k_end; wrow_close) | ((fail_if_success (with_reducible show wpAny _ _ (exec (Stmt.While _ _ _ _) _) _ _ _)); (fail_if_success (with_reducible show wpAny _ _ (exec (Stmt.For _ _ _ _ _) _) _ _ _)); (first | k_extra "M9" | walk1)) | (dsimp only; (first | k_extra "M9" | walk1)) | (leave1; walk_say "STEP leave1"; try dsimp only) | fail "no step")
          refine hPP2 _ ?_
          refine' turn_end F' N' _ news_out day_sub3 (day_off3 i1 i2 i3 i4.h) ⟨trivial, _, _, same_of ?sm ?sr, rfl, ?q⟩
          case sm => (repeat (refine allAt_cons (by with_unfolding_all rfl) ?_)); exact allAt_nil
          case sr => (intro z h1 h2; simp only [List.map_cons, List.map_nil, List.mem_cons, List.not_mem_nil, or_false, not_or] at h1 h2; simp [ovr_ne, h1, h2])
          case q => rw [r2.h]; exact hrq2.h.append' (.cons _ _ .nil)
        case done2 =>
          rintro m2 n2' h2 tk2 ⟨vq2, kq2, hS2, rfl, hq2⟩ F2 N3
          replace hq2 : StrsAre vq2 (qs2.drop (q.row.length - (f + 1)) ++ qs2.take (q.row.length - (f + 1))) := (rItems_length (q.row.length - (f + 1))) ▸ hq2
          rw [hqs2.h, rot_end (q.row.map (·.2)) f (q.row.length - (f + 1)) (by rw [List.length_map]; exact hf) (by rw [List.length_map]), ← map_erase] at hq2
          have F3 := same_fr hS2 F2
          clear F2 hS2 F0 N1
          dsimp only [envOf] at F3 N3
          (try k_fold)
          obtain ⟨hkh, hkl⟩ := hdk.h.2.2 q.row[f] (List.getElem_mem hf)
          have hyr : q.row[f].2 = y := by
            have := hy.h
            rw [List.getElem?_map, List.getElem?_eq_getElem hf] at this
            exact Option.some.inj this
          rw [hyr] at hkh hkl
          replace hq2 := Keep.mk hq2
          replace hkl := Keep.mk hkl
          replace hyr := Keep.mk hyr
          have hvst6 : vst.toArray.size ≤ 5 := by rw [List.size_toArray]; exact hvst5
          repeat' (first | (k_unfold; (try dsimp only)) | (k_end; wrow_close) | ((fail_if_success (with_reducible show wpAny _ _ (exec (Stmt.While _ _ _ _) _) _ _ _)); (fail_if_success (with_reducible show wpAny _ _ (exec (Stmt.For _ _ _ _ _) _) _ _ _)); (first | k_extra "M9" | walk1)) | (dsimp only; (first | k_extra "M9" | walk1)) | (leave1; walk_say "STEP leave1"; try dsimp only) | fail "no step")
          rename Fr _ _ _ _ => F9
          rename News _ _ _ _ => N9
          rename dlx < _ ∧ _ => lD9
          rename_i D _ _ _ _ _
          subst hT2 hoX hoL
          rw [List.push_toArray, hkl.h] at N9
          obtain ⟨w1, w2, w3, w4, w5, w6, w7, w8, w9, w10⟩ := lD9
          have e1' := e1.h
          have ea' := ea.h
          rw [hoi] at e1' ea'
          rw [show addrStep adr (some f) = adr ++ x by rw [hxe.h]; rfl] at ea'
          have hps : pStep nms i q (some f) = ⟨q.row.eraseIdx f, q.stays ++ [(q.row[f].1, (i : Int), y)], q.came⟩ := by
            simp only [pStep, List.getElem?_eq_getElem hf]
            rw [← hyr.h]
          have hdg := dictOk_go (i := i) (f := f) hdk.h
          refine hPP _ ?_
          rw [e1', ea', hps]
          rw [hps] at hdg
          refine' turn_end F9 N9 ((dlx, _) :: (lf, _) :: (pbn, _) :: (d, _) :: (S, _) :: (140, _) :: (dln, _) :: (lfn, _) :: (D, _) :: T) ?m1 ?m2 ?off ⟨trivial, n2, t2, vs2, k2, vq2, _, o', kvs, c, vst ++ [.ref D], _, (D, _) :: T, (D, _) :: Z, _, _, same_of ?sm ?sr, rfl, cons_app hTZ.h, ?hZ, ownOff_one (Nat.ne_of_gt w4) hoI.h, hn.h, hvs2, hq2.h, hsd, hfd, hdg, StaysAre.snoc (hst.h.sub fun p hp => .tail _ hp) (.head _)⟩
          case m1 => exact fun p hp => by rw [List.mem_singleton.mp hp]; exact .tail _ (.tail _ (.tail _ (.tail _ (.head _))))
          case m2 => exact day_in
          case off => exact day_off hI8.h (ownOff_one (Nat.ne_of_gt w4) hoI.h)
          case hZ =>
            intro p hp
            rcases List.mem_cons.mp hp with rfl | hp
            · exact w6
            · exact hZ.h p hp
          case sm => (repeat (refine allAt_cons (by with_unfolding_all rfl) ?_)); exact allAt_nil
          case sr =>
            intro z h1 h2
            have hb := B3.h z h1 h2
            simp only [List.map_cons, List.map_nil, List.mem_cons, List.not_mem_nil, or_false, not_or] at h1 h2
            simp [ovr_ne, h1, h2, hb]
end Mine
namespace Mine
theorem TellL.use {w : World} {k : Nat} {f l : Addr} {vs : List Value} {news : Led} {Post : Value → Led → Prop} {A : Around} {nm : List (Str × NameKind)} {ig ic : Bool} {mr : List (Str × Const)} {cn : Str} {a : Addr} {ccd : Value} {cl : List (Str × Addr)} {outer : List Env} {A₀ : Around} {base h₀ : Heap} {L : Addr} {m : Str → Option Value} {s : Shared} {Q E : Value → Shared → Prop}
   {p : Program} {loose : List Str} {mean : ExcName → Option Value} {mg mb : Str → Option Value}
   (HL : h₀.IsList l vs.toArray) (N : News h₀ L s.heap news) (B : Below A₀ base outer h₀) (F : Fr h₀ L s.heap m) (X : (top0.heap_39 w.params).In h₀) (T : Top p loose mean mg mb h₀)
   (hh : A.handled = none) (hf : A.frames = some (envX cn (Sc nm ig ic mr) L a ccd cl :: outer)) (hd : A.depth ≤ 900 - 100 * k) (hu : A.units ≤ 9000 - 1000 * k)
   (H : TellL w k f l vs news Post)
   (ret : ∀ v news' h' tk', Fr h₀ L h' m → News h₀ L h' news' → Post v news' → Q v { s with heap := h', toks := tk' }) :
   wpAny (model pr w) A (call (.ref f) [.ref l]) Q E s :=
  wpAny_call (room_code (A := Ar k A.guards (envX cn (Sc nm ig ic mr) L a ccd cl) outer) (H nm ig ic mr A.guards cn a ccd cl outer A₀ base h₀ L m s Q E p loose mean mg mb HL B F X N T ret) hh hf rfl hd hu)
theorem ty_ne {a b : String} (h : a ≠ b) : Value.type a ≠ Value.type b := fun e => h (Value.type.inj e)
theorem stays_drop {new T : Led} {I D R : Addr} {o o1 o2 : Obj} {vs : List Value} {ss : List Stay} (h : StaysAre (new ++ (I, o) :: (D, o1) :: (R, o2) :: T) vs ss) (ho : o.cls ≠ .type "tuple") (h1 : o1.cls ≠ .type "tuple") (h2 : o2.cls ≠ .type "tuple") : StaysAre (new ++ T) vs ss := by
  refine ⟨h.1, fun i x hx => ?_⟩
  obtain ⟨p, t1, t2, t3, a, b⟩ := h.2 i x hx
  refine ⟨p, t1, t2, t3, a, ?_⟩
  have key : ∀ q : Addr × Obj, q.2.cls ≠ .type "tuple" → (p, tupO [.int x.1 t1, .int x.2.1 t2, .str x.2.2 t3]) ≠ q := fun q hq e => hq (by rw [← e])
  rcases List.mem_append.mp b with b | b
  · exact List.mem_append_left _ b
  rcases List.mem_cons.mp b with b | b
  · exact absurd b (key _ ho)
  rcases List.mem_cons.mp b with b | b
  · exact absurd b (key _ h1)
  rcases List.mem_cons.mp b with b | b
  · exact absurd b (key _ h2)
  · exact List.mem_append_right _ b
theorem back_eq (w : World) (news : Led) (l : Addr) (vs : List Value) (nms : List Str) (st su : List (Option Nat)) (k : Nat) (ta tb : Tok) (hl : (l, listOf vs.toArray k) ∈ news) (hi : StaysAre news vs (pOf nms st).stays) (d : DayF nms st su) (d' : DayF nms su st) {xa xb : Str} (ha : addrOf st = xa) (hb : addrOf su = xb) :
   Tell w 2 171 [.ref l, .str xa ta, .str xb tb] news fun v n => v = .bool true ∧ n = news := by
  rw [← ha, ← hb, addrOf_adX, addrOf_adX]
  exact back_spec w news l vs (pOf nms st).stays k _ _ ta tb hl hi d.n d.f d'.f d.f5 d'.f5 d.b
theorem ne_int_known {prog : Program} {w : World} {A : Around} {E : Value → Shared → Prop} {s : Shared} {x y : Int} {t u : Tok} {Q : Value → Shared → Prop} (e : x = y) (h : Q (.bool false) s) : wpAny (model prog w) A (compareOp .NotEq (.int x t) (.int y u)) Q E s := by
  subst e
  exact PyProof.Rows.ne_int (by rw [show (x != x) = false by simp]; exact h)
theorem rot_facts : ∀ k ∈ [0, 1, 2, 3, 4], (∀ x ∈ rotN k, x ∈ names0) ∧ (rotN k).Nodup ∧ (rotN k).length = 5 := by decide +kernel
/-- one of the days as the law keeps it -/
inductive DayIs (T : Led) (vd : List Value) (j : Nat) (nms : List Str) (st : List (Option Nat)) : Prop
  | mk (tp S : Addr) (vs : List Value) (ks : Nat) (ta : Tok) (h1 : vd[j]? = some (.ref tp)) (h2 : (tp, tupO [.ref S, .str (addrOf st) ta]) ∈ T) (h3 : (S, listOf vs.toArray ks) ∈ T) (h4 : StaysAre T vs (pOf nms st).stays) : DayIs T vd j nms st
theorem DayIs.sub {T T' : Led} {vd : List Value} {j : Nat} {nms : List Str} {st : List (Option Nat)} (h : DayIs T vd j nms st) (hs : ∀ p ∈ T, p ∈ T') (v : Value) : DayIs T' (vd ++ [v]) j nms st := by
  obtain ⟨tp, S, vs, ks, ta, h1, h2, h3, h4⟩ := h
  exact ⟨tp, S, vs, ks, ta, by rw [List.getElem?_append_left (List.getElem?_eq_some_iff.mp h1).1]; exact h1, hs _ h2, hs _ h3, h4.sub hs⟩
theorem file_eq (w : World) (news : Led) (l1 l2 : Addr) (vs1 vs2 : List Value) (xs : List Str) (ts : List Int) (k1 k2 : Nat) (x : Str) (hl1 : (l1, listOf vs1.toArray k1) ∈ news) (hl2 : (l2, listOf vs2.toArray k2) ∈ news) (hx : StrsAre vs1 xs) (hi : IntsAre vs2 ts)
   (hxl : xs.length = 10) (hsz : ts.length = 10) (hw : Within 40000000 ts) (hW : ∀ x ∈ xs, x ∈ allW) (he : fileOf xs ts = x) :
   Tell w 2 138 [.ref l1, .ref l2] news fun v n => ∃ t, v = .str x t ∧ n = news := by
  subst he
  exact file_spec w news l1 l2 vs1 vs2 xs ts k1 k2 hl1 hl2 hx hi hxl hsz hw hW
theorem day_eq (w : World) (TT : Led) (nms : List Str) (st : List (Option Nat)) (ts : List Int) (x : Str) (t0 : Tok) (o140 : Obj) (ho : TabOk o140 TT) (hO : OwnOff TT [140]) (hx : fileOf (wordsOf nms 0 st) ts = x)
   (hnm : ∀ x ∈ nms, x ∈ names0) (hnd : nms.Nodup) (hnl : nms.length = 5) (hg : Good 0 0 st) (hsz : st.length = 10) (htl : ts.length = 10) (hclen : x.length ≤ 1000) (hrow : (pOf nms st).row = []) :
   TellC w 3 152 [.str x t0] ((140, o140) :: TT) (DayPost TT o140 nms st x.cps.toList) := by
  have e : x = ⟨x.cps.toList.toArray⟩ := by cases x; rfl
  have h := day_spec w TT nms st ts x.cps.toList t0 o140 ho hO (by rw [hx]) hnm hnd hnl hg hsz htl hclen hrow
  rw [← e] at h
  exact h
inductive LawJ (RW wl ul rt Dd I : Addr) (T0 : Led) (nms : List Str) (st su : List (Option Nat)) (m0 : Str → Option Value) (i : Nat) (m' : Str → Option Value) (n' : Led) : Prop
  | mk (vd : List Value) (kd : Nat) (o' : Obj) (T : Led) (hS : Same ["row", "text", "stays", "address", "rest"] [("totals", .ref rt), ("words", .ref wl), ("turned", .ref ul), ("days", .ref Dd)] m0 m')
    (hn : n' = (RW, listOf #[.ref wl, .ref ul] 0) :: (Dd, listOf (List.toArray vd) kd) :: (140, o') :: T) (hTs : ∀ p ∈ T0, p ∈ T) (hTab : TabOk o' T) (hoff : OwnOff T [140, Dd, I]) (hvd : vd.length = i) (hds : ∀ j, j < i → DayIs T vd j nms (if j = 0 then st else su)) :
    LawJ RW wl ul rt Dd I T0 nms st su m0 i m' n'
theorem law_all : PySem.Challenge.rw_xe0021_01.Holds := top0 (by
  k_with_none
  k_with "M9" => ((with_reducible show wpAny _ _ (compareOp CmpOp.Eq (Value.str _ _) (Value.str _ _)) _ _ _); (k_here; k_dflt (refine' eq_str_known ?eq8292 ?_; (case eq8292 => with_reducible assumption); k_whole)))
  k_go0
  (all_goals try k_fold)
  rename (List Int) => ns
  rename IntsAre _ ns => hI
  rename ¬ _ => hns
  rename (Heap.IsList _ _ _) => hLl
  have hns' : ns.length ≤ 63 := by omega
  have tw := totalsOf_within ns
  have tl := totalsOf_length ns
  repeat' (first | ((fail_if_success (with_reducible show wpAny _ _ (call (Value.ref 126) _) _ _ _)); (first | k_extra "M9" | walk1)))
  rename Heap.IsList (ghostOf _ _) _ _ => HLl
  (refine' TellL.use HLl ?N ?B ?F ?X ?T rfl rfl ?d ?u (totals_spec _ _ _ _ _ hI hns') ?_; (case N => k_asm); (case B => k_asm); (case F => k_asm); (case X => k_asm); (case T => k_asm); (case d => exact Nat.le_of_ble_eq_true rfl); (case u => exact Nat.le_of_ble_eq_true rfl); k_whole)
  intro v' news' h' tk' F' N' P'
  obtain ⟨rt, tsv, kt, newT, e1, e2, hIt, hlt⟩ := P'
  subst e1
  subst e2
  repeat' (first | ((fail_if_success (with_reducible show wpAny _ _ (call (Value.ref 133) _) _ _ _)); (first | k_extra "M9" | walk1)))
  (refine' Tell.use ?N ?B ?F ?X ?T rfl rfl ?d ?u (words_spec _ _ _ _ _ _ (.head _) hIt tl tw) ?_; (case N => k_asm); (case B => k_asm); (case F => k_asm); (case X => k_asm); (case T => k_asm); (case d => exact Nat.le_of_ble_eq_true rfl); (case u => exact Nat.le_of_ble_eq_true rfl); k_whole)
  intro v' news' h' tk' F' N' P'
  obtain ⟨tp, wl, ul, wv, uv, kw, ku, newW, e1, e2, m1, m2, m3, hWv, hUv, hlW⟩ := P'
  subst e1
  subst e2
  obtain ⟨T0, hT0, N0, o0⟩ : ∃ T0, T0 = newW ++ (rt, listOf tsv.toArray kt) :: newT ∧ News _ _ _ ((140, tabObj #[]) :: T0) ∧ OwnOff T0 [140] := by
    refine ⟨_, rfl, fun p hp => N' p ?_, fun p hp b hb => ?_⟩
    · rcases List.mem_cons.mp hp with rfl | hp
      · exact List.mem_append_right _ (.tail _ (List.mem_append_right _ (.head _)))
      · rcases List.mem_append.mp hp with hp | hp
        · exact List.mem_append_left _ hp
        · exact List.mem_append_right _ (List.mem_append_left [(140, tabObj #[])] hp)
    · rw [List.mem_singleton.mp hb]
      obtain ⟨g1, g2⟩ := hlt _ (.head _)
      rcases List.mem_append.mp hp with hp | hp
      · exact Nat.ne_of_gt (hlW (140, tabObj #[]) (.tail _ (List.mem_append_right _ (.head _))) p hp)
      · rcases List.mem_cons.mp hp with rfl | hp
        · exact Nat.ne_of_gt g1
        · exact Nat.ne_of_gt (g2 p hp)
  have n1 : (wl, listOf wv.toArray kw) ∈ T0 := hT0 ▸ List.mem_append_left _ m2
  have n2 : (ul, listOf uv.toArray ku) ∈ T0 := hT0 ▸ List.mem_append_left _ m3
  have n3 : (rt, listOf tsv.toArray kt) ∈ T0 := hT0 ▸ List.mem_append_right _ (.head _)
  have hT := News.isTup N0 (.tail _ (hT0 ▸ List.mem_append_left _ m1))
  clear N' hT0 hlW hlt m1 m2 m3
  have hnm3 := rot_facts (turnT (totalsOf ns)) (five (by unfold turnT; omega))
  generalize hq1 : rotN (turnT (totalsOf ns)) = nms at *
  have hst := good_w _ tl
  have hdf := day_facts nms hst.2 hst.1
  obtain ⟨d1, d2, p1, p2, p3⟩ := hdf
  generalize wOf (totalsOf ns) = WW at *
  generalize WW.st = st at *
  generalize hq2 : turnOf 0 st = su at *
  generalize totalsOf ns = ts at *
  clear hq1 hq2 hst WW
  k_dflt (refine' unpackN_ F' N0 hT ?k1 ?k2 ?k3 ?_)
  case k1 => exact rfl
  case k2 => exact rfl
  case k3 => exact rfl
  intro h' F' N'
  clear N0
  repeat' (first | ((fail_if_success (with_reducible show wpAny _ _ (exec (Stmt.For _ _ _ _ _) _) _ _ _)); (first | k_extra "M9" | walk1)))
  rename Fr _ _ _ _ => F1
  k_dflt (refine' For_turns F1 ?_)
  repeat' (first | ((fail_if_success (with_reducible show wpAny _ _ (pyIter _) _ _ _)); (first | k_extra "M9" | walk1)))
  rename Fr _ _ _ _ => F1
  rename News _ _ _ _ => N1
  rename 140 < _ ∧ AllLt _ T0 => lD
  rename _ < _ ∧ 140 < _ ∧ AllLt _ T0 => lR
  rename_i Dd _ _ RW _
  obtain ⟨m0, A0, F0⟩ := named F1 [("totals", .ref rt), ("words", .ref wl), ("turned", .ref ul), ("days", .ref Dd)] (by (repeat (refine allAt_cons (by with_unfolding_all rfl) ?_)); exact allAt_nil)
  k_dflt (refine' iter_listTurns rfl F0 N1 (.head _) rfl rfl (fun I lI => items_inv (LawJ RW wl ul rt Dd I T0 nms st su m0) ?turn ?done 0 _ _ (Nat.zero_le _) ?j0))
  case j0 =>
    refine ⟨[], _, _, T0, same_start A0, rfl, fun p hp => hp, .inl rfl, ?_, rfl, fun j hj => absurd hj (Nat.not_lt_zero j)⟩
    intro p hp b hb
    simp only [List.mem_cons, List.not_mem_nil, or_false] at hb
    rcases hb with rfl | rfl | rfl
    · exact o0 p hp 140 (.head _)
    · exact Nat.ne_of_lt (allLt_at lD.2 p hp)
    · exact Nat.ne_of_lt (lI p (.tail _ (.tail _ (.tail _ hp))))
  case turn =>
    rintro i x m' n' v h tk hx ⟨vd, kd, o', T, hS, rfl, hTs, hTab, hoff, hvd, hds⟩ hv F2 o ho PP hPP N2
    obtain ⟨l, vs, k, sx, sy, rfl, hl, hs, hD, hsx⟩ : ∃ l vs k sx sy, v = .ref l ∧ (l, listOf vs.toArray k) ∈ T0 ∧ StrsAre vs (wordsOf nms 0 sx) ∧ DayF nms sx sy ∧ sx = (if i = 0 then st else su) := by
      have h2 : i < 2 := (List.getElem?_eq_some_iff.mp hx).1
      rcases (show i = 0 ∨ i = 1 by omega) with hi0 | hi0
      · rw [hi0] at hx; exact ⟨wl, wv, kw, st, su, by cases hx; exact hv, n1, hWv, d1, (if_pos hi0).symm⟩
      · rw [hi0] at hx; exact ⟨ul, uv, ku, su, st, by cases hx; exact hv, n2, hUv, d2, (if_neg (by omega)).symm⟩
    have hil : i < 2 := (List.getElem?_eq_some_iff.mp hx).1
    have lD1 := lI _ (.tail _ (.head _))
    have F3 := same_fr hS F2
    have N3 := news_of N2 ((140, o') :: (I, o) :: (Dd, listOf (List.toArray vd) kd) :: (RW, listOf #[.ref wl, .ref ul] 0) :: T) <| by
      intro p hp
      simp only [List.mem_cons, List.mem_append, List.not_mem_nil, or_false] at hp ⊢
      rcases hp with h | h | h | h | h <;> simp [h]
    have lT : OwnOff ((I, o) :: (Dd, listOf (List.toArray vd) kd) :: (RW, listOf #[.ref wl, .ref ul] 0) :: T) [140] := by
      intro p hp b hb
      rw [List.mem_singleton.mp hb]
      rcases List.mem_cons.mp hp with rfl | hp
      · exact Nat.ne_of_gt (lI (140, tabObj #[]) (.tail _ (.tail _ (.head _))))
      rcases List.mem_cons.mp hp with rfl | hp
      · exact Nat.ne_of_gt lD.1
      rcases List.mem_cons.mp hp with rfl | hp
      · exact Nat.ne_of_gt lR.2.1
      · exact hoff p hp 140 (.head _)
    have hTT : TabOk o' ((I, o) :: (Dd, listOf (List.toArray vd) kd) :: (RW, listOf #[.ref wl, .ref ul] 0) :: T) := tabOk_sub hTab fun p hp => .tail _ (.tail _ (.tail _ hp))
    have hlTT : (l, listOf vs.toArray k) ∈ (I, o) :: (Dd, listOf (List.toArray vd) kd) :: (RW, listOf #[.ref wl, .ref ul] 0) :: T := .tail _ (.tail _ (.tail _ (hTs _ hl)))
    have hlT : (l, listOf vs.toArray k) ∈ (140, o') :: (I, o) :: (Dd, listOf (List.toArray vd) kd) :: (RW, listOf #[.ref wl, .ref ul] 0) :: T := .tail _ (.tail _ (.tail _ (.tail _ (hTs _ hl))))
    have htT : (rt, listOf tsv.toArray kt) ∈ (140, o') :: (I, o) :: (Dd, listOf (List.toArray vd) kd) :: (RW, listOf #[.ref wl, .ref ul] 0) :: T := .tail _ (.tail _ (.tail _ (.tail _ (hTs _ n3))))
    have hwA := words_allW hnm3.1 hnm3.2.2 hD.g
    have hwl : (wordsOf nms 0 sx).length = 10 := (wordsOf_length nms sx 0).trans hD.l
    have hfl : (fileOf (wordsOf nms 0 sx) ts).length ≤ 1000 := Nat.le_trans (fileOf_len _ ts hwA) (by omega)
    generalize hTe : (I, o) :: (Dd, listOf (List.toArray vd) kd) :: (RW, listOf #[.ref wl, .ref ul] 0) :: T = TT at *
    generalize hx9 : fileOf (wordsOf nms 0 sx) ts = fx at *
    clear N2 F2 F0 N1
    dsimp only [envOf] at F3 N3
    (try k_fold)
    repeat' (first | ((fail_if_success (with_reducible show wpAny _ _ (call (Value.ref 138) _) _ _ _)); (first | k_extra "M9" | walk1)))
    (refine' Tell.use ?N ?B ?F ?X ?T rfl rfl ?d ?u (file_eq _ _ _ _ _ _ _ _ _ _ fx hlT htT hs hIt hwl tl tw hwA hx9) ?_; (case N => k_asm); (case B => k_asm); (case F => k_asm); (case X => k_asm); (case T => k_asm); (case d => exact Nat.le_of_ble_eq_true rfl); (case u => exact Nat.le_of_ble_eq_true rfl); k_whole)
    intro v' news' h' tk' F' N' P'
    obtain ⟨tf, e1, e2⟩ := P'
    subst e1
    subst e2
    (try k_sweep)
    repeat' (first | ((fail_if_success (with_reducible show wpAny _ _ (call (Value.ref 152) _) _ _ _)); (first | k_extra "M9" | walk1)))
    (refine' TellC.use ?N ?B ?F ?X ?T ?C rfl rfl ?d ?u (day_eq _ TT nms sx ts fx _ o' hTT lT hx9 hnm3.1 hnm3.2.1 hnm3.2.2 hD.g hD.l tl hfl hD.r) ?_; (case N => k_asm); (case B => k_asm); (case F => k_asm); (case X => k_asm); (case T => k_asm); (case d => exact Nat.le_of_ble_eq_true rfl); (case u => exact Nat.le_of_ble_eq_true rfl); (case C => k_asm); k_whole)
    intro v' news' h' tk' F' N' P'
    obtain ⟨o2, tp2, S, RL, vst, kst, kr, ta, u1, u2, u3, new, e1, e2, hTab2, hO2, hnew, q1, q2, q3, q4, q5⟩ := P'
    subst e1
    subst e2
    (try k_sweep)
    have hT2 := News.isTup N' (.tail _ (List.mem_append_left _ q1))
    k_dflt (refine' unpackN_ F' N' hT2 ?k1 ?k2 ?k3 ?_)
    case k1 => exact rfl
    case k2 => exact rfl
    case k3 => exact rfl
    intro h' F4 N4
    clear F' N' hT2
    repeat' (first | ((fail_if_success (with_reducible show wpAny _ _ (call (Value.ref 159) _) _ _ _)); (first | k_extra "M9" | walk1)))
    rename News _ _ _ _ => N5
    (refine' Tell.use ?N ?B ?F ?X ?T rfl rfl ?d ?u (plain_spec _ ((140, o2) :: (new ++ TT)) l vs nms sx k (.tail _ (List.mem_append_right _ hlTT)) hs hnm3.1 hnm3.2.2 hD.g hD.l) ?_; (case N => k_asm); (case B => k_asm); (case F => k_asm); (case X => k_asm); (case T => k_asm); (case d => exact Nat.le_of_ble_eq_true rfl); (case u => exact Nat.le_of_ble_eq_true rfl); k_whole)
    intro v' news' h' tk' F6 N6 P'
    obtain ⟨r, vr, kr2, newP, e1, e2, r1, r2, r3⟩ := P'
    subst e1
    subst e2
    clear N5
    refine ne_stays N6 (List.mem_append_right _ (.tail _ (List.mem_append_left _ q2))) (List.mem_append_left _ r1) (q3.sub fun p hp => List.mem_append_right _ (.tail _ hp)) r2 (stays_ok hnm3.1 sx) (by first | exact Nat.le_of_ble_eq_true rfl | decide) ?_
    (try k_sweep)
    repeat' (first | ((fail_if_success (with_reducible show wpAny _ _ (compareOp CmpOp.NotEq _ _) _ _ _)); (first | k_extra "M9" | walk1)))
    rename News _ _ _ _ => N7
    refine ne_rest N7 (.tail _ (List.mem_append_right _ (.tail _ (List.mem_append_left _ q4)))) (.head _) (by rw [count_nl fx.cps.toList fx rfl]) (by first | exact Nat.le_of_ble_eq_true rfl | decide) ?_
    have N8 := news_of N7 ((140, o2) :: (new ++ TT)) (fun p hp => .tail _ (List.mem_append_right _ hp))
    clear N7
    (try k_sweep)
    repeat' (first | ((fail_if_success (with_reducible show wpAny _ _ (eval (Expr.ListComp _ _ _ _) _) _ _ _)); (first | k_extra "M9" | walk1)))
    rename Fr _ _ _ _ => F8
    refine comp_test (J := fun i ys => StrsAre ys (((wordsOf nms 0 sx).take i).filter isDot)) rfl F8 N8 (.tail _ (List.mem_append_right _ hlTT)) (by rw [hs.length, hwl]; decide) (by with_unfolding_all rfl) (by decide) (by with_unfolding_all rfl) (by decide) (by with_unfolding_all rfl) (by intro _; with_unfolding_all rfl) ?ev .nil ?turn2 ?rest2
    case ev => intro Q' hQ'; (first | k_extra "M9" | walk1); exact hQ'
    case turn2 =>
      intro i9 v9 ys9 I9 oI9 C9 oC9 D9 m9 h9 tk9 E9 hv9 hJ9 hC9 hx9' F9 N9 off9
      obtain ⟨y, ty, rfl, hy⟩ := hs.item i9 v9 hv9
      have hyW := hwA y (List.mem_of_getElem? hy)
      obtain ⟨hy1, hy2⟩ := allW_len1 y hyW
      have hd : isDot y = true ∨ isDot y = false := by cases isDot y <;> simp
      rcases hd with hd | hd
      · have hd' : (PySem.Txt.item y 0 == Str.ofString ".") = true := hd
        repeat' (first | (k_unfold; (try dsimp only)) | (k_end; wrow_close) | (first | k_extra "M9" | walk1) | (dsimp only; (first | k_extra "M9" | walk1)) | (leave1; walk_say "STEP leave1"; try dsimp only) | fail "no step")
        refine LCg.CompEnd.intro F9 N9 _ (fun p hp => hp) off9 (.inr ⟨_, .tail _ (List.mem_append_right _ hlTT), rfl, _, rfl⟩) ⟨rfl, ?_⟩
        rw [List.take_add_one, hy, List.filter_append, show (some y).toList = [y] from rfl, List.filter_cons_of_pos hd]
        exact hJ9.append' (.cons _ _ .nil)
      · have hd' : (PySem.Txt.item y 0 == Str.ofString ".") = false := hd
        repeat' (first | (k_unfold; (try dsimp only)) | (k_end; wrow_close) | (first | k_extra "M9" | walk1) | (dsimp only; (first | k_extra "M9" | walk1)) | (leave1; walk_say "STEP leave1"; try dsimp only) | fail "no step")
        refine LCg.CompEnd.intro F9 N9 _ (fun p hp => hp) off9 (.inr ⟨_, .tail _ (List.mem_append_right _ hlTT), rfl, _, rfl⟩) ⟨rfl, ?_⟩
        rw [List.take_add_one, hy, List.filter_append, show (some y).toList = [y] from rfl, List.filter_cons_of_neg (by rw [hd]; exact Bool.false_ne_true), List.filter_nil, List.append_nil]
        exact hJ9
    case rest2 =>
      intro D9 ys9 h9 tk9 F9 N9 hJ9
      rw [hs.length, List.take_length] at hJ9
      have hsf : ∀ f ∈ figs sx, f < 5 := fun f hf => hD.f5 f (List.mem_reverse.mpr hf)
      have haj := addr_join hnm3.1 sx hsf
      have hfl : ∀ x ∈ (wordsOf nms 0 sx).filter isDot, x.length ≤ 10 := fun x hx => (allW_len1 x (hwA x ((List.mem_filter.mp hx).1))).2
      obtain ⟨jl1, jl2⟩ := join_len _ hfl (by have := List.length_filter_le isDot (wordsOf nms 0 sx); omega)
      have jl3 := List.length_filter_le isDot (wordsOf nms 0 sx)
      generalize hfw : (wordsOf nms 0 sx).filter isDot = fw at *
      clear F8 N8
      repeat' (first | ((fail_if_success (with_reducible show wpAny _ _ (call (Value.builtin "str.join") _) _ _ _)); (first | k_extra "M9" | walk1)))
      refine join_listW (News.isList N9 (.head _)) hJ9 (by decide +kernel) (by omega) ?_
      intro t11 tk11
      repeat' (first | ((fail_if_success (with_reducible show wpAny _ _ (binaryOp _ _ _) _ _ _)); (first | k_extra "M9" | walk1)))
      refine PyProof.Rows.add_str ?_ (by rw [sizeLine_eq]; have : (Str.ofString "x").length = 1 := by decide +kernel
                                         omega)
      intro t12 tk12
      repeat' (first | ((fail_if_success (with_reducible show wpAny _ _ (compareOp CmpOp.NotEq _ _) _ _ _)); (first | k_extra "M9" | walk1)))
      refine ne_str_known haj ?_
      subst hTe
      have NA := news_of N9 ((Dd, listOf (List.toArray vd) kd) :: (140, o2) :: (I, o) :: (RW, listOf #[.ref wl, .ref ul] 0) :: (new ++ T)) (by
        intro p hp
        simp only [List.mem_cons, List.mem_append] at hp ⊢
        rcases hp with h | h | h | h | h | h <;> simp [h])
      clear N9
      repeat' (first | ((fail_if_success (with_reducible show wpAny _ _ (call (Value.builtin "list.append") _) _ _ _)); (first | k_extra "M9" | walk1)))
      rename Fr _ _ _ _ => FA
      rename News _ _ _ _ => NB
      rename Dd < _ ∧ 140 < _ ∧ _ => lTP
      rename_i TP _
      obtain ⟨w1, w2, w3, w4, w5⟩ := lTP
      have hDn : ∀ p ∈ new, Dd < p.1 ∧ I < p.1 := fun p hp => ⟨hnew _ (.tail _ (.head _)) p hp, hnew _ (.head _) p hp⟩
      have hb : ∀ p ∈ (140, o2) :: (I, o) :: (RW, listOf #[.ref wl, .ref ul] 0) :: (new ++ T), p.1 ≠ Dd := by
        intro p hp
        rcases List.mem_cons.mp hp with rfl | hp
        · exact Nat.ne_of_lt lD.1
        rcases List.mem_cons.mp hp with rfl | hp
        · exact Nat.ne_of_gt lD1
        rcases List.mem_cons.mp hp with rfl | hp
        · exact Nat.ne_of_gt lR.1
        rcases List.mem_append.mp hp with hp | hp
        · exact Nat.ne_of_gt (hDn p hp).1
        · exact hoff p hp Dd (.tail _ (.head _))
      refine append_K FA NB (.tail (Nat.ne_of_gt w1) (.head hb)) ?_ (by rw [sizeLine_eq, List.size_toArray]; omega)
      intro h10 F10 N10
      clear FA NB
      repeat' (first | (first | k_extra "M9" | walk1))
      refine hPP _ ?_
      rename News _ _ _ _ => N11
      rename Fr _ _ _ _ => F11
      rw [List.push_toArray] at N11
      refine' turn_end F11 N11 ((RW, listOf #[.ref wl, .ref ul] 0) :: (Dd, listOf (List.toArray (vd ++ [Value.ref TP])) (kd + 1)) :: (140, o2) :: (TP, tupO [.ref S, .str (addrOf sx) ta]) :: (new ++ T)) ?m1 ?m2 ?m3 ⟨⟨.head _, trivial⟩, vd ++ [.ref TP], kd + 1, o2, (TP, _) :: (new ++ T), same_of ?sm ?sr, rfl, fun p hp => .tail _ (List.mem_append_right _ (hTs p hp)), tabOk_sub (q5 T hTab) (fun p hp => .tail _ hp), ?c3, by rw [List.length_append, hvd]; rfl, ?c5⟩
      case m1 => intro p hp; rw [List.mem_singleton.mp hp]; simp
      case m2 =>
        intro p hp
        rcases List.mem_cons.mp hp with rfl | hp
        · exact .tail _ (.tail _ (.tail _ (.tail _ (.head _))))
        rcases List.mem_cons.mp hp with rfl | hp
        · exact .tail _ (.head _)
        rcases List.mem_cons.mp hp with rfl | hp
        · exact .tail _ (.tail _ (.head _))
        rcases List.mem_cons.mp hp with rfl | hp
        · exact .head _
        · exact .tail _ (.tail _ (.tail _ (.tail _ (.tail _ hp))))
      case m3 =>
        intro p hp q hq
        rw [List.mem_singleton.mp hq]
        rcases List.mem_cons.mp hp with rfl | hp
        · exact Nat.ne_of_lt (lI _ (.head _))
        rcases List.mem_cons.mp hp with rfl | hp
        · exact Nat.ne_of_lt lD1
        rcases List.mem_cons.mp hp with rfl | hp
        · exact Nat.ne_of_lt (lI (140, tabObj #[]) (.tail _ (.tail _ (.head _))))
        rcases List.mem_cons.mp hp with rfl | hp
        · exact Nat.ne_of_gt w3
        rcases List.mem_append.mp hp with hp | hp
        · exact Nat.ne_of_gt (hDn p hp).2
        · exact hoff p hp I (.tail _ (.tail _ (.head _)))
      case sm => (repeat (refine allAt_cons (by with_unfolding_all rfl) ?_)); exact allAt_nil
      case sr => (intro z h1 h2; simp only [List.map_cons, List.map_nil, List.mem_cons, List.not_mem_nil, or_false, not_or] at h1 h2; simp [ovr_ne, h1, h2])
      case c3 =>
        refine ownOff_cons ?_ ?_
        · intro p hp b hb9
          rcases List.mem_append.mp hp with hp | hp
          · simp only [List.mem_cons, List.not_mem_nil, or_false] at hb9
            rcases hb9 with rfl | rfl | rfl
            · exact hO2 p (List.mem_append_left _ hp) 140 (.head _)
            · exact Nat.ne_of_gt (hDn p hp).1
            · exact Nat.ne_of_gt (hDn p hp).2
          · exact hoff p hp b hb9
        · intro b hb9
          simp only [List.mem_cons, List.not_mem_nil, or_false] at hb9
          rcases hb9 with rfl | rfl | rfl
          · exact Nat.ne_of_gt w2
          · exact Nat.ne_of_gt w1
          · exact Nat.ne_of_gt w3
      case c5 =>
        intro j hj
        rcases Nat.lt_or_eq_of_le (Nat.le_of_lt_succ hj) with h | rfl
        · exact (hds j h).sub (fun p hp => .tail _ (List.mem_append_right _ hp)) _
        · refine ⟨TP, S, vst, kst, ta, by rw [List.getElem?_append_right (by omega), hvd, Nat.sub_self]; rfl, ?_, .tail _ (List.mem_append_left _ q2), ?_⟩
          · rw [← hsx]; exact .head _
          · rw [← hsx]
            exact (stays_drop q3 (by rw [ho]; show Value.type "list_iterator" ≠ Value.type "tuple"; exact ty_ne (by decide)) (show Value.type "list" ≠ Value.type "tuple" from ty_ne (by decide)) (show Value.type "list" ≠ Value.type "tuple" from ty_ne (by decide))).sub fun p hp => .tail _ hp
  case done =>
    rintro m' n' h tk ⟨vd, kd, o', T, hS, rfl, hTs, hTab, hoff, hvd, hds⟩ F2 N2
    have hvd2 : vd.length = 2 := hvd
    obtain ⟨tpA, SA, vsA, kA, taA, a1, a2, a3, a4⟩ := hds 0 (by show 0 < 2; decide)
    obtain ⟨tpB, SB, vsB, kB, taB, b1, b2, b3, b4⟩ := hds 1 (by show 1 < 2; decide)
    rw [if_pos rfl] at a2 a4
    rw [if_neg (by decide)] at b2 b4
    generalize hgA : addrOf st = aA at a2
    generalize hgB : addrOf su = aB at b2
    replace hgA := Keep.mk hgA
    replace hgB := Keep.mk hgB
    have hvv : vd = [.ref tpA, .ref tpB] := by
      match vd, hvd2, a1, b1 with
      | [x, y], _, a1, b1 => rw [show x = Value.ref tpA from Option.some.inj a1, show y = Value.ref tpB from Option.some.inj b1]
    subst hvv
    obtain ⟨ps, rfl⟩ : ∃ ps, o' = tabObj ps := by
      rcases hTab with h | ⟨c', _, _, _, h, _⟩
      · exact ⟨_, h⟩
      · exact ⟨_, h⟩
    obtain ⟨T9, hT9⟩ : ∃ T9, T9 = (140, tabObj ps) :: T := ⟨_, rfl⟩
    have up : ∀ p ∈ T, p ∈ T9 := by rw [hT9]; exact fun p hp => .tail _ hp
    have h140 : (140, tabObj ps) ∈ T9 := by rw [hT9]; exact .head _
    have sA := a2
    have sB := b2
    replace a3 := up _ a3
    replace b3 := up _ b3
    replace a4 := a4.sub up
    replace b4 := b4.sub up
    have F3 := same_fr hS F2
    have N3 := news_of N2 ((Dd, listOf #[.ref tpA, .ref tpB] kd) :: (tpA, tupO [.ref SA, .str aA taA]) :: (tpB, tupO [.ref SB, .str aB taB]) :: T9) (by
      intro p hp
      rcases List.mem_cons.mp hp with rfl | hp
      · exact .tail _ (.head _)
      rcases List.mem_cons.mp hp with rfl | hp
      · exact .tail _ (.tail _ (.tail _ sA))
      rcases List.mem_cons.mp hp with rfl | hp
      · exact .tail _ (.tail _ (.tail _ sB))
      · rw [hT9] at hp
        rcases List.mem_cons.mp hp with rfl | hp
        · exact .tail _ (.tail _ (.head _))
        · exact .tail _ (.tail _ (.tail _ hp)))
    have n1' : (wl, listOf wv.toArray kw) ∈ T9 := up _ (hTs _ n1)
    clear N2 F2 F0 N1 hS hds a1 b1 hvd hvd2 hTab hoff up hT9 sA sB a2 b2 hTs
    dsimp only [envOf] at F3 N3
    (try k_fold)
    repeat' (first | ((fail_if_success (with_reducible show wpAny _ _ (call (Value.ref 166) _) _ _ _)); (first | k_extra "M9" | walk1)))
    rename News _ _ _ _ => N4
    have hlp : (SA, listOf vsA.toArray kA) ∈ (Dd, listOf #[.ref tpA, .ref tpB] kd) :: (tpA, tupO [.ref SA, .str aA taA]) :: (tpB, tupO [.ref SB, .str aB taB]) :: T9 := .tail _ (.tail _ (.tail _ a3))
    have hst9 : StaysAre ((Dd, listOf #[.ref tpA, .ref tpB] kd) :: (tpA, tupO [.ref SA, .str aA taA]) :: (tpB, tupO [.ref SB, .str aB taB]) :: T9) vsA (pOf nms st).stays := a4.sub fun p hp => .tail _ (.tail _ (.tail _ hp))
    (refine' Tell.use ?N ?B ?F ?X ?T rfl rfl ?d ?u (pairs_spec _ _ SA vsA (pOf nms st).stays kA hlp hst9 (by rw [d1.n]; decide) d1.s) ?_; (case N => k_asm); (case B => k_asm); (case F => k_asm); (case X => k_asm); (case T => k_asm); (case d => exact Nat.le_of_ble_eq_true rfl); (case u => exact Nat.le_of_ble_eq_true rfl); k_whole)
    intro v' news' h' tk' F' N' P'
    obtain ⟨r9, newR, t21, t22, e1, e2, e3, e4⟩ := P'
    subst e1
    subst e2
    have N5 := news_of N' ((Dd, listOf #[.ref tpA, .ref tpB] kd) :: (tpA, tupO [.ref SA, .str aA taA]) :: (tpB, tupO [.ref SB, .str aB taB]) :: (r9, tupO [.int (pairsOf (pOf nms st).stays).held t21, .int (pairsOf (pOf nms st).stays).crossed t22]) :: T9) (by
      intro p hp
      rcases List.mem_cons.mp hp with rfl | hp
      · exact .head _
      rcases List.mem_cons.mp hp with rfl | hp
      · exact .tail _ (.head _)
      rcases List.mem_cons.mp hp with rfl | hp
      · exact .tail _ (.tail _ (.head _))
      rcases List.mem_cons.mp hp with rfl | hp
      · exact List.mem_append_right _ e4
      · exact .tail _ (.tail _ (.tail _ (List.mem_append_left _ hp))))
    have hT9 := News.isTup N5 (.tail _ (.tail _ (.tail _ (.head _))))
    clear N4 N' e3 e4 hlp hst9
    k_dflt (refine' unpackN_ F' N5 hT9 ?k1 ?k2 ?k3 ?_)
    case k1 => exact rfl
    case k2 => exact rfl
    case k3 => exact rfl
    intro h' F4 N6
    clear F' N5 hT9
    (try k_sweep)
    repeat' (first | ((fail_if_success (with_reducible show wpAny _ _ (eval (Expr.ListComp _ _ _ _) _) _ _ _)); (first | k_extra "M9" | walk1)))
    rename Fr _ _ _ _ => F8
    rename News _ _ _ _ => N8
    have hwlA : (wordsOf nms 0 st).length = 10 := (wordsOf_length nms st 0).trans d1.l
    have hwA := words_allW hnm3.1 hnm3.2.2 d1.g
    refine comp_test (J := fun i ys => IntsAre ys ((((wordsOf nms 0 st).take i).filter isDot).map figOf)) rfl F8 N8 (.tail _ (.tail _ (.tail _ (.tail _ n1')))) (by rw [hWv.length, hwlA]; decide) (by with_unfolding_all rfl) (by decide) (by with_unfolding_all rfl) (by decide) (by with_unfolding_all rfl) (by intro _; with_unfolding_all rfl) ?ev9 .nil ?turn9 ?rest9
    case ev9 => intro Q' hQ'; (first | k_extra "M9" | walk1); exact hQ'
    case turn9 =>
      intro i9 v9 ys9 I9 oI9 C9 oC9 D9 m9 h9 tk9 E9 hv9 hJ9 hC9 hx9' F9 N9 off9
      obtain ⟨y, ty, rfl, hy⟩ := hWv.item i9 v9 hv9
      have hyW := hwA y (List.mem_of_getElem? hy)
      obtain ⟨hy1, hy2⟩ := allW_len1 y hyW
      have hd : isDot y = true ∨ isDot y = false := by cases isDot y <;> simp
      rcases hd with hd | hd
      · have hd' : (PySem.Txt.item y 0 == Str.ofString ".") = true := hd
        obtain ⟨f, hf, hyd⟩ := dot_of y hyW hd
        have hnt : PySem.intText? (PySem.Txt.slice y (some 1) none) = some (f : Int) := by rw [hyd]; exact (dots_read f hf).2
        have hfo : Keep (figOf y = f) := ⟨by unfold figOf; rw [hnt]; rfl⟩
        clear hyd hf
        repeat' (first | (k_unfold; (try dsimp only)) | (k_end; wrow_close) | (first | k_extra "M9" | walk1) | (dsimp only; (first | k_extra "M9" | walk1)) | (leave1; walk_say "STEP leave1"; try dsimp only) | fail "no step")
        rename News _ _ _ _ => N10
        rename Fr _ _ _ _ => F10
        refine LCg.CompEnd.intro F10 N10 _ (fun p hp => hp) off9 (.inr ⟨_, .tail _ (.tail _ (.tail _ (.tail _ n1'))), rfl, _, rfl⟩) ⟨rfl, ?_⟩
        rw [List.take_add_one, hy, List.filter_append, show (some y).toList = [y] from rfl, List.filter_cons_of_pos hd, List.map_append, List.filter_nil, List.map_cons, hfo.h, List.map_nil]
        exact hJ9.append (.cons _ _ .nil)
      · have hd' : (PySem.Txt.item y 0 == Str.ofString ".") = false := hd
        repeat' (first | (k_unfold; (try dsimp only)) | (k_end; wrow_close) | (first | k_extra "M9" | walk1) | (dsimp only; (first | k_extra "M9" | walk1)) | (leave1; walk_say "STEP leave1"; try dsimp only) | fail "no step")
        refine LCg.CompEnd.intro F9 N9 _ (fun p hp => hp) off9 (.inr ⟨_, .tail _ (.tail _ (.tail _ (.tail _ n1'))), rfl, _, rfl⟩) ⟨rfl, ?_⟩
        rw [List.take_add_one, hy, List.filter_append, show (some y).toList = [y] from rfl, List.filter_cons_of_neg (by rw [hd]; exact Bool.false_ne_true), List.filter_nil, List.append_nil]
        exact hJ9
    case rest9 =>
      intro D9 ys9 h9 tk9 F9 N9 hJ9
      rw [hWv.length, List.take_length] at hJ9
      have hsum := words_figs hnm3.1 st fun f hf => d1.f5 f (List.mem_reverse.mpr hf)
      generalize ((wordsOf nms 0 st).filter isDot).map figOf = fz at hJ9 hsum
      clear F8 N8
      have N10 := news_of N9 ((Dd, listOf #[.ref tpA, .ref tpB] kd) :: (tpA, tupO [.ref SA, .str aA taA]) :: (tpB, tupO [.ref SB, .str aB taB]) :: T9) (by
        intro p hp
        rcases List.mem_cons.mp hp with rfl | hp
        · exact .tail _ (.head _)
        rcases List.mem_cons.mp hp with rfl | hp
        · exact .tail _ (.tail _ (.head _))
        rcases List.mem_cons.mp hp with rfl | hp
        · exact .tail _ (.tail _ (.tail _ (.head _)))
        · exact .tail _ (.tail _ (.tail _ (.tail _ (.tail _ hp)))))
      repeat' (first | ((fail_if_success (with_reducible show wpAny _ _ (call (Value.builtin "sum") _) _ _ _)); (first | k_extra "M9" | walk1)))
      refine PyProof.Rows.LSm.sum_ints F9 N10 rfl (News.isList N9 (.head _)) hJ9 ?_
      intro h10 tk10 t10 F10 N11
      clear F9 N9 N10
      repeat' (first | ((fail_if_success (with_reducible show wpAny _ _ (compareOp CmpOp.NotEq _ _) _ _ _)); (first | k_extra "M9" | walk1)))
      refine ne_int_known (p1.trans hsum.symm) ?_
      repeat' (first | ((fail_if_success (with_reducible show wpAny _ _ (call (Value.ref 166) _) _ _ _)); (first | k_extra "M9" | walk1)))
      have hlA : (SA, listOf vsA.toArray kA) ∈ (Dd, listOf #[.ref tpA, .ref tpB] kd) :: (tpA, tupO [.ref SA, .str aA taA]) :: (tpB, tupO [.ref SB, .str aB taB]) :: T9 := .tail _ (.tail _ (.tail _ a3))
      have hsA : StaysAre ((Dd, listOf #[.ref tpA, .ref tpB] kd) :: (tpA, tupO [.ref SA, .str aA taA]) :: (tpB, tupO [.ref SB, .str aB taB]) :: T9) vsA (pOf nms st).stays := a4.sub fun p hp => .tail _ (.tail _ (.tail _ hp))
      have hlB : (SB, listOf vsB.toArray kB) ∈ (Dd, listOf #[.ref tpA, .ref tpB] kd) :: (tpA, tupO [.ref SA, .str aA taA]) :: (tpB, tupO [.ref SB, .str aB taB]) :: T9 := .tail _ (.tail _ (.tail _ b3))
      have hsB : StaysAre ((Dd, listOf #[.ref tpA, .ref tpB] kd) :: (tpA, tupO [.ref SA, .str aA taA]) :: (tpB, tupO [.ref SB, .str aB taB]) :: T9) vsB (pOf nms su).stays := b4.sub fun p hp => .tail _ (.tail _ (.tail _ hp))
      (refine' Tell.use ?N ?B ?F ?X ?T rfl rfl ?d ?u (pairs_spec _ _ SB vsB (pOf nms su).stays kB hlB hsB (by rw [d2.n]; decide) d2.s) ?_; (case N => k_asm); (case B => k_asm); (case F => k_asm); (case X => k_asm); (case T => k_asm); (case d => exact Nat.le_of_ble_eq_true rfl); (case u => exact Nat.le_of_ble_eq_true rfl); k_whole)
      intro v' news' h' tk' F' N' P'
      obtain ⟨r8, newR8, t23, t24, e1, e2, e3, e4⟩ := P'
      subst e1
      subst e2
      repeat' (first | ((fail_if_success (with_reducible show wpAny _ _ (compareOp CmpOp.NotEq _ _) _ _ _)); (first | k_extra "M9" | walk1)))
      rename News _ _ _ _ => N13
      refine ne_pair N13 (.tail _ (List.mem_append_right _ e4)) (.head _) p2 p3 (by first | exact Nat.le_of_ble_eq_true rfl | decide) ?_
      have N14 := news_of N13 ((Dd, listOf #[.ref tpA, .ref tpB] kd) :: (tpA, tupO [.ref SA, .str aA taA]) :: (tpB, tupO [.ref SB, .str aB taB]) :: T9) (fun p hp => .tail _ (List.mem_append_left _ hp))
      clear N13 e3 e4
      repeat' (first | ((fail_if_success (with_reducible show wpAny _ _ (call (Value.ref 171) _) _ _ _)); (first | k_extra "M9" | walk1)))
      (refine' Tell.use ?N ?B ?F ?X ?T rfl rfl ?d ?u (back_eq _ _ SA vsA nms st su kA _ _ hlA hsA d1 d2 hgA.h hgB.h) ?_; (case N => k_asm); (case B => k_asm); (case F => k_asm); (case X => k_asm); (case T => k_asm); (case d => exact Nat.le_of_ble_eq_true rfl); (case u => exact Nat.le_of_ble_eq_true rfl); k_whole)
      intro v' news' h' tk' F' N' P'
      obtain ⟨e1, e2⟩ := P'
      subst e1
      subst e2
      repeat' (first | ((fail_if_success (with_reducible show wpAny _ _ (call (Value.ref 171) _) _ _ _)); (first | k_extra "M9" | walk1)))
      (refine' Tell.use ?N ?B ?F ?X ?T rfl rfl ?d ?u (back_eq _ _ SB vsB nms su st kB _ _ hlB hsB d2 d1 hgB.h hgA.h) ?_; (case N => k_asm); (case B => k_asm); (case F => k_asm); (case X => k_asm); (case T => k_asm); (case d => exact Nat.le_of_ble_eq_true rfl); (case u => exact Nat.le_of_ble_eq_true rfl); k_whole)
      intro v' news' h' tk' F' N' P'
      obtain ⟨e1, e2⟩ := P'
      subst e1
      subst e2
      repeat' (first | ((fail_if_success (with_reducible show _ ∧ _)); (first | k_extra "M9" | walk1)))
      rename Fr _ _ _ _ => F9
      rename News _ _ _ _ => N9
      refine ⟨?good, GrownAt.of N9 (.tail _ (.tail _ (.tail _ h140))), trivial⟩
      try clear hlA
      try clear hsA
      try clear hlB
      try clear hsB
      try clear hsum
      try clear hJ9
      try clear hgA
      try clear hgB
      try clear a3
      try clear a4
      try clear b3
      try clear b4
      try clear n1'
      try clear hwA
      try clear hwlA
      try clear p1
      try clear p2
      try clear p3
      try clear d1
      try clear d2
      try clear hWv
      try clear hUv
      try clear n1
      try clear n2
      try clear n3
      try clear o0
      try clear hIt
      try clear tw
      try clear tl
      try clear lI
      try clear lD
      try clear lR
      try clear A0
      try clear hnm3
      try clear F1
      try clear hT
      try clear hns'
      refine goodW_bool F9 (by assumption) (raisesW_false ?_) ?_
      · wrow_none_raised
      · wrow_post)
end Mine
theorem PySem.Challenge.cw_xe0021_01_holds : PySem.Challenge.rw_xe0021_01.Holds :=
  Mine.law_all
end
