import PyProof.Rows.All
import Wide.All
import OpenK.AllK
import Wide.FinOn
import PySem.Challenge.RW_mq0311_01
open PySem PySem.W PyProof.Rows
set_option Elab.async false
set_option maxRecDepth 100000
set_option maxHeartbeats 8000000
namespace Mine
open PySem.Calls
open_top hd for PySem.Challenge.rw_mq0311_01


noncomputable abbrev PP : Program := PySem.Challenge.rw_mq0311_01.row.prog
noncomputable abbrev LL : List Str := looseW hd.view_39 [Str.ofString "_NodeInfo"]

/-- a goal put aside while facts are taken apart -/
theorem hid {G : Prop} (h : (G → False) → False) : G := Classical.byContradiction h
theorem fmc {α : Type} {p : α → Prop} {a : α} {l : List α} (h : p a) (t : ∀ x ∈ l, p x) : ∀ x ∈ a :: l, p x := List.forall_mem_cons.mpr ⟨h, t⟩
theorem orE {α : Type} {a : α} {R P : α → Prop} (h : P a) (t : ∀ b, R b → P b) : ∀ b, b = a ∨ R b → P b := fun b hb => hb.elim (fun e => e ▸ h) (t b)
theorem orB {α : Type} {a : α} {R P : α → Prop} (t : ∀ b, R b → P b) (h : P a) : ∀ b, R b ∨ b = a → P b := fun b hb => hb.elim (t b) (fun e => e ▸ h)
theorem orO {α : Type} {S R P : α → Prop} (h : ∀ b, S b → P b) (t : ∀ b, R b → P b) : ∀ b, S b ∨ R b → P b := fun b hb => hb.elim (h b) (t b)
theorem fma {α : Type} {p : α → Prop} {a b : List α} (h : ∀ x ∈ a, p x) (t : ∀ x ∈ b, p x) : ∀ x ∈ a ++ b, p x := fun x hx => (List.mem_append.mp hx).elim (h x) (t x)
theorem mat {α : Type} {l : List α} {a : α} (i : Nat) (h : l[i]? = some a) : a ∈ l := List.mem_of_getElem? h
theorem mdrop {α : Type} {l t : List α} (k : Nat) (h : l.drop k = t) : ∀ x ∈ t, x ∈ l := fun x hx => List.mem_of_mem_drop (h ▸ hx)
theorem pickN {h₀ h : Heap} {L : Addr} {l l' : List (Addr × Obj)} (N : News h₀ L h l) (is : List Nat) (k : Nat) (e : l' = is.filterMap (fun i => l[i]?) ++ l.drop k) : News h₀ L h l' := by
  subst e
  intro p hp
  refine N p ((List.mem_append.mp hp).elim (fun q => ?_) List.mem_of_mem_drop)
  focus (refine hid fun hGo => ?_; obtain ⟨i, _, e⟩ := List.mem_filterMap.mp q; all_goals (refine hGo ?_; clear hGo))
  exact List.mem_of_getElem? e
noncomputable def Kp (h h' : Heap) : Prop := ∀ b o, h.get? b = some o → h'.get? b = some o
theorem Kp.refl (h : Heap) : Kp h h := fun _ _ e => e
theorem Kp.trans {h₁ h₂ h₃ : Heap} (a : Kp h₁ h₂) (b : Kp h₂ h₃) : Kp h₁ h₃ := fun x o e => b x o (a x o e)

structure Gd (w : World) (h : Heap) : Prop where
  X : (hd.heap_39 w.params).In h
  T : ∃ mg mb, TopRead hd.view_39 LL mg mb h

theorem Gd.keeps {w h h'} (G : Gd w h) (k : Kp h h') : Gd w h' :=
  ⟨G.X.keeps k, let ⟨mg, mb, T⟩ := G.T; ⟨mg, mb, T.keeps k⟩⟩

theorem Fr.kp {h₀ h h' : Heap} {L : Addr} {m : Str → Option Value} (F : Fr h₀ L h m) (k : Kp h h') : Fr h₀ L h' m :=
  ⟨F.ns.keeps k, fun b o e => k b o (F.keep b o e), F.above⟩
theorem News.kp {h₀ h h' : Heap} {L : Addr} {news : List (Addr × Obj)} (N : News h₀ L h news) (k : Kp h h') : News h₀ L h' news :=
  fun p hp => ⟨k _ _ (N p hp).1, (N p hp).2⟩
theorem Fr.toKp {h₀ h : Heap} {L : Addr} {m : Str → Option Value} (F : Fr h₀ L h m) : Kp h₀ h := F.keep

/-- a wider surrounding -/
noncomputable def Le (A B : Around) : Prop := A.handled = B.handled ∧ A.depth ≤ B.depth ∧ A.units ≤ B.units ∧ B.frames = none ∧ B.guards = none
theorem wpAny_le {α : Type} {M : Model} {A B : Around} {t : Sem α} {Q : α → Shared → Prop} {E : Value → Shared → Prop} {s : Shared} (hA : Le A B) (h : wpAny M B t Q E s) : wpAny M A t Q E s :=
  by
  focus (refine hid fun hGo => ?_; obtain ⟨h1, h2, h3, h4, h5⟩ := hA; all_goals (refine hGo ?_; clear hGo))
  intro Γ p hΓ
  focus (refine hid fun hGo => ?_; obtain ⟨g1, g2, _, _, g5⟩ := hΓ; all_goals (refine hGo ?_; clear hGo))
  refine h Γ p ⟨g1.trans h1, Nat.le_trans g2 h2, ?_, ?_, Nat.le_trans g5 h3⟩
  · intro l hl; rw [h4] at hl; cases hl
  · intro l hl; rw [h5] at hl; cases hl
abbrev std (d u : Nat) : Around := { handled := none, depth := d, frames := none, guards := none, units := u }

theorem enter {w : World} {d u : Nat} {s : Shared} {f : Addr} {args : List Value} {kw : List (Str × Value)} {binds : List (Str × Value)} {oc : Value} {od : Option Addr} {osl : Array (Option Value)}
    {name qual : Str} {params : Arguments} {body : List Stmt} {scope : Scope} {dV kV doc pm cdv ct : Value} {an : Option Addr}
    {Q : Value → Shared → Prop} {E : Value → Shared → Prop}
    (G : Gd w s.heap) (hroom : d < recursionLimit)
    (ho : (hd.heap_39 w.params).lookup f = some ⟨oc, od, .func (fnOf name qual params body scope dV kV doc pm an cdv ct), osl⟩) (hcd : codeIn (hd.heap_39 w.params) cdv qual = true)
    (hbind : BindsTo s (fnOf name qual params body scope dV kV doc pm an cdv ct) ⟨args, kw⟩ binds) (hcell : ∀ x ∈ scope.names, x.2 ≠ .cell) (hloc : ∀ x ∈ binds, scope.names.lookup x.1 = some .local)
    (h : ∀ h₁ L tk, Fr s.heap L h₁ (fun x => binds.reverse.lookup x) → News s.heap L h₁ [] →
      wpAny (model PP w) (std (d + 1) (u + 3)) (execs body (envOf qual scope L f cdv)) (fun fl s' => Q (match fl with | .ret v => v | _ => .none) s') (fun _ _ => False) { s with heap := h₁, toks := tk })
    (hco : scope.isCoroutine = false := by rfl) (hgen : scope.isGenerator = false := by rfl) (hk : scope.kind = .function := by rfl) :
    wpAny (model PP w) (std d u) (call (.ref f) args kw) Q E s := by
  focus (refine hid fun hGo => ?_; obtain ⟨mg, mb, T⟩ := G.T; all_goals (refine hGo ?_; clear hGo))
  refine wpAny_call (codeAny_call_def hroom (G.X _ _ ho) rfl T.nolimit (codeRec_of G.X hcd) rfl hbind hcell hloc (fun h₁ hns hk₁ => ?_) hco hgen hk)
  exact wpAny_mono (h h₁ _ _ ⟨hns, hk₁, Nat.le_refl _⟩ News.nil) (fun _ _ q => q) (fun _ _ q => q.elim)


section
variable {w : World} {A : Around} {R : Result → Shared → Prop} {s : Shared} {env : Env} {hb : Heap} {m : Str → Option Value} {news : List (Addr × Obj)}

/-- a turn's end -/
noncomputable def TurnEnd (hb : Heap) (L I : Addr) (oI : Obj) (J : (Str → Option Value) → List (Addr × Obj) → Prop) (R : Result → Shared → Prop) (s : Shared) (f : Flow) (s₂ : Shared) : Prop :=
  match f with
  | .ret v => R (.ok (.ret v)) s₂
  | .brk => R (.ok .next) s₂
  | _ => ∃ h' tk' m' news', s₂ = { s with heap := h', toks := tk' } ∧ Fr hb L h' m' ∧ News hb L h' ((I, oI) :: news') ∧ J m' news'

theorem TurnEnd.go {hb : Heap} {L I : Addr} {oI : Obj} {J : (Str → Option Value) → List (Addr × Obj) → Prop} {R : Result → Shared → Prop} {s : Shared} {h' : Heap} {tk' : Nat} {m' : Str → Option Value} {news' : List (Addr × Obj)}
    (F : Fr hb L h' m') (N : News hb L h' ((I, oI) :: news')) (j : J m' news') : TurnEnd hb L I oI J R s .next { s with heap := h', toks := tk' } := ⟨_, _, _, _, rfl, F, N, j⟩
theorem TurnEnd.goC {hb : Heap} {L I : Addr} {oI : Obj} {J : (Str → Option Value) → List (Addr × Obj) → Prop} {R : Result → Shared → Prop} {s : Shared} {h' : Heap} {tk' : Nat} {m' : Str → Option Value} {news' : List (Addr × Obj)}
    (F : Fr hb L h' m') (N : News hb L h' ((I, oI) :: news')) (j : J m' news') : TurnEnd hb L I oI J R s .cont { s with heap := h', toks := tk' } := ⟨_, _, _, _, rfl, F, N, j⟩
theorem EI2 {α β : Sort _} {p : α → β → Prop} (a : α) (b : β) (h : p a b) : ∃ a b, p a b := ⟨a, b, h⟩
theorem EI6 {α β γ δ ε ζ : Sort _} {p : α → β → γ → δ → ε → ζ → Prop} (a : α) (b : β) (c : γ) (d : δ) (e : ε) (f : ζ) (h : p a b c d e f) : ∃ a b c d e f, p a b c d e f := ⟨a, b, c, d, e, f, h⟩
theorem EI4 {α β γ δ : Sort _} {p : α → β → γ → δ → Prop} (a : α) (b : β) (c : γ) (d : δ) (h : p a b c d) : ∃ a b c d, p a b c d := ⟨a, b, c, d, h⟩
theorem for_walk {target : Expr} {body : List Stmt} {I : Addr} {fp : List Addr} {n : Nat} {P : Nat → Value → Prop} {St : Nat → Heap → Prop}
    (W : Walks PP w A I fp [I] n P St) (J : Nat → (Str → Option Value) → List (Addr × Obj) → Prop)
    (hL : env.locals ≠ I) (hbI : hb.get? I = none)
    (hSt : ∀ i m₁ news₁ h h', J i m₁ news₁ → Fr hb env.locals h m₁ → News hb env.locals h news₁ → St i h' → h'.get? I = h.get? I → St i h)
    (hOb : ∀ i h, St i h → ∃ oI, h.get? I = some oI)
    (F : Fr hb env.locals s.heap m) (N : News hb env.locals s.heap news) (hI : ∀ i m₁ news₁, J i m₁ news₁ → ∀ p ∈ news₁, p.1 ≠ I) (hst : St 0 s.heap) (hj : J 0 m news)
    (turn : ∀ i v m₁ news₁ h tk oI, i < n → P i v → J i m₁ news₁ → Fr hb env.locals h m₁ → News hb env.locals h ((I, oI) :: news₁) →
      wpAny (model PP w) A (assign target env v) (fun _ s₂ => wpAny (model PP w) A (execs body env) (TurnEnd hb env.locals I oI (J (i + 1)) R s) (fun _ _ => False) s₂) (fun _ _ => False) { s with heap := h, toks := tk })
    (done : ∀ m₁ news₁ h tk, J n m₁ news₁ → Fr hb env.locals h m₁ → News hb env.locals h news₁ → R (.ok .next) { s with heap := h, toks := tk })
    (ht : (fun (I : Addr) v => letOwnedTupleGo target (.ref I) v) = (fun _ _ => pure ()) := by rfl) :
    codeAny (model PP w) A (.forLoop target (.ref I) body [] env) R s := by
  refine codeAny_forLoop (fun k s' => ∃ i h tk m₁ news₁, s' = { s with heap := h, toks := tk } ∧ k = n + 1 - i ∧ i ≤ n ∧ J i m₁ news₁ ∧ Fr hb env.locals h m₁ ∧ News hb env.locals h news₁ ∧ St i h) ?_ (n + 1)
    ⟨0, s.heap, s.toks, m, news, rfl, rfl, Nat.zero_le _, hj, F, N, hst⟩ (fun v => congrFun (congrFun ht I) v)
  focus (rintro k s' hP0; refine hid fun hGo => ?_; rcases hP0 with ⟨i, h, tk, m₁, news₁, rfl, rfl, hi, hJ, F₁, N₁, hst₁⟩; all_goals (refine hGo ?_; clear hGo))
  by_cases hlt : i < n
  · refine W.item i _ _ _ hlt hst₁ fun v h' tk' hP hst' hk => ?_
    have F₂ : Fr hb env.locals h' m₁ := ⟨F₁.ns.at' fun o e => hk _ o (by simpa using hL) e, fun b o e => hk b o (by simp only [List.mem_singleton]; rintro rfl; rw [hbI] at e; cases e) (F₁.keep b o e), F₁.above⟩
    have N₂ : News hb env.locals h' news₁ := fun p hp => ⟨hk _ _ (by simp only [List.mem_singleton]; exact hI _ _ _ hJ p hp) (N₁ p hp).1, (N₁ p hp).2⟩
    focus (refine hid fun hGo => ?_; obtain ⟨oI, hoI⟩ := hOb _ _ hst'; all_goals (refine hGo ?_; clear hGo))
    have N₃ : News hb env.locals h' ((I, oI) :: news₁) := fun p hp => by
      focus (refine hid fun hGo => ?_; rcases List.mem_cons.mp hp with rfl | hp; all_goals (refine hGo ?_; clear hGo))
      · exact ⟨hoI, Ne.symm hL, hbI⟩
      · exact N₂ p hp
    refine wpAny_mono (turn i v m₁ news₁ h' tk' oI hlt hP hJ F₂ N₃) (fun _ s₂ h₂ => wpAny_mono h₂ (fun f s₃ h₃ => ?_) fun _ _ e => e.elim) fun _ _ e => e.elim
    have fin : (∃ h' tk' m' news', s₃ = { s with heap := h', toks := tk' } ∧ Fr hb env.locals h' m' ∧ News hb env.locals h' ((I, oI) :: news') ∧ J (i + 1) m' news') →
        ∃ m, m < n + 1 - i ∧ ∃ i h tk m₁ news₁, s₃ = { s with heap := h, toks := tk } ∧ m = n + 1 - i ∧ i ≤ n ∧ J i m₁ news₁ ∧ Fr hb env.locals h m₁ ∧ News hb env.locals h news₁ ∧ St i h := by
      focus (rintro hP0; refine hid fun hGo => ?_; rcases hP0 with ⟨h'', tk'', m', news', rfl, F', N', hJ'⟩; all_goals (refine hGo ?_; clear hGo))
      have N'' : News hb env.locals h'' news' := fun p hp => N' p (.tail _ hp)
      refine ⟨n + 1 - (i + 1), by lia, i + 1, h'', tk'', m', news', rfl, rfl, hlt, hJ', F', N'', ?_⟩
      refine hSt (i + 1) m' news' h'' h' hJ' F' N'' hst' ?_
      rw [hoI, (N' (I, oI) (.head _)).1]
    cases f with
    | next => exact fin h₃
    | cont => exact fin h₃
    | brk => exact h₃
    | ret v => exact h₃
  · have hin : i = n := by lia
    subst hin
    refine W.done _ _ _ hst₁ fun h' tk' hk => ?_
    refine wpAny_execs_nil (done m₁ news₁ h' tk' hJ ⟨F₁.ns.at' fun o e => hk _ o (by simpa using hL) e, fun b o e => hk b o (by simp only [List.mem_singleton]; rintro rfl; rw [hbI] at e; cases e) (F₁.keep b o e), F₁.above⟩ fun p hp => ⟨hk _ _ (by simp only [List.mem_singleton]; exact hI _ _ _ hJ p hp) (N₁ p hp).1, (N₁ p hp).2⟩)

theorem for_list {target : Expr} {body : List Stmt} {l : Addr} {vs : List Value} {Q : Flow → Shared → Prop} {E : Value → Shared → Prop}
    (hh : A.handled = none) (hl : s.heap.IsList l vs.toArray)
    (F : Fr hb env.locals s.heap m) (N : News hb env.locals s.heap news) (J : Addr → Nat → (Str → Option Value) → List (Addr × Obj) → Prop)
    (hk : ∀ I i m₁ news₁ h, J I i m₁ news₁ → Fr hb env.locals h m₁ → News hb env.locals h news₁ → h.IsList l vs.toArray)
    (hI : ∀ I i m₁ news₁, J I i m₁ news₁ → ∀ p ∈ news₁, p.1 ≠ I)
    (hj : ∀ I, (∀ p ∈ news, p.1 < I) → l < I → env.locals < I → J I 0 m news)
    (turn : ∀ I i v m₁ news₁ h tk oI, (∀ p ∈ news, p.1 < I) → l < I → env.locals < I → vs[i]? = some v → J I i m₁ news₁ → Fr hb env.locals h m₁ → News hb env.locals h ((I, oI) :: news₁) →
      wpAny (model PP w) A (assign target env v) (fun _ s₂ => wpAny (model PP w) A (execs body env) (TurnEnd hb env.locals I oI (J I (i + 1)) (fun r s' => match r with | .ok f => Q f s' | .error e => cameBackBy (model PP w) A env E e s') s) (fun _ _ => False) s₂) (fun _ _ => False) { s with heap := h, toks := tk })
    (done : ∀ I m₁ news₁ h tk, J I vs.length m₁ news₁ → Fr hb env.locals h m₁ → News hb env.locals h news₁ → Q .next { s with heap := h, toks := tk })
    (ht : (fun (I : Addr) v => letOwnedTupleGo target (.ref I) v) = (fun _ _ => pure ()) := by rfl) :
    wpAny (model PP w) A (pyIter (.ref l)) (fun it s₂ => codeAny (model PP w) A (.forLoop target it body [] env) (fun r s' => match r with | .ok f => Q f s' | .error e => cameBackBy (model PP w) A env E e s') s₂) E s := by
  refine wpAny_pyIter_list hl ?_
  focus (refine hid fun hGo => ?_; obtain ⟨ol, hol, _⟩ := id hl; all_goals (refine hGo ?_; clear hGo))
  have hlt : l < s.heap.objs.size := Heap.lt_size hol
  have hLl : env.locals < s.heap.objs.size := F.ns.lt
  have hNl : ∀ p ∈ news, p.1 < s.heap.objs.size := fun p hp => Heap.lt_size (N p hp).1
  have hbn : hb.get? s.heap.objs.size = none := by
    cases q : hb.get? s.heap.objs.size with
    | none => rfl
    | some o => exact absurd (Heap.lt_size (F.keep _ _ q)) (Nat.lt_irrefl _)
  have W := Walks.list (prog := PP) (w := w) hh s.heap.objs.size l (Nat.ne_of_lt hlt) vs.toArray
  rw [List.size_toArray] at W
  refine for_walk (s := { s with heap := s.heap.push _ }) W (J s.heap.objs.size) (Nat.ne_of_lt hLl) hbn ?_ ?_ (F.push _) (fun p hp => ⟨Heap.get?_push_of_some _ (N p hp).1, (N p hp).2⟩) (hI _) ?_ (hj _ hNl hlt hLl) ?_ ?_ ht
  · focus (rintro i m₁ news₁ h h' hJ F₁ N₁ hP0 e; refine hid fun hGo => ?_; rcases hP0 with ⟨⟨o, ho, r⟩, _⟩; all_goals (refine hGo ?_; clear hGo))
    exact ⟨⟨o, e.symm.trans ho, r⟩, hk _ _ _ _ _ hJ F₁ N₁⟩
  · rintro i h ⟨⟨o, ho, _⟩, _⟩; exact ⟨o, ho⟩
  · exact ⟨⟨_, Heap.get?_push_size _ rfl, rfl, rfl⟩, hl.at fun o e => Heap.get?_push_of_some _ e⟩
  · intro i v m₁ news₁ h tk oI hi hP hJ F₁ N₁
    exact turn _ i v m₁ news₁ h tk oI hNl hlt hLl (by simpa using hP) hJ F₁ N₁
  · intro m₁ news₁ h tk hJ F₁ N₁
    exact done _ m₁ news₁ h tk hJ F₁ N₁

/-- a range by ones from a -/
theorem for_range {target : Expr} {body : List Stmt} {I : Addr} {a : Int} {n : Nat} {oI : Obj} {Q : Flow → Shared → Prop} {E : Value → Shared → Prop}
    (hh : A.handled = none) (hit : IsRangeIter s.heap I a n 1)
    (F : Fr hb env.locals s.heap m) (N : News hb env.locals s.heap ((I, oI) :: news)) (J : Nat → (Str → Option Value) → List (Addr × Obj) → Prop)
    (hI : ∀ i m₁ news₁, J i m₁ news₁ → ∀ p ∈ news₁, p.1 ≠ I)
    (hj : J 0 m news)
    (turn : ∀ i t m₁ news₁ h tk oI, i < n → J i m₁ news₁ → Fr hb env.locals h m₁ → News hb env.locals h ((I, oI) :: news₁) →
      wpAny (model PP w) A (assign target env (.int (a + (i : Int)) t)) (fun _ s₂ => wpAny (model PP w) A (execs body env) (TurnEnd hb env.locals I oI (J (i + 1)) (fun r s' => match r with | .ok f => Q f s' | .error e => cameBackBy (model PP w) A env E e s') s) (fun _ _ => False) s₂) (fun _ _ => False) { s with heap := h, toks := tk })
    (done : ∀ m₁ news₁ h tk, J n m₁ news₁ → Fr hb env.locals h m₁ → News hb env.locals h news₁ → Q .next { s with heap := h, toks := tk })
    (ht : (fun (I : Addr) v => letOwnedTupleGo target (.ref I) v) = (fun _ _ => pure ()) := by rfl) :
    codeAny (model PP w) A (.forLoop target (.ref I) body [] env) (fun r s' => match r with | .ok f => Q f s' | .error e => cameBackBy (model PP w) A env E e s') s := by
  have hIm := N (I, oI) (.head _)
  have W := Walks.range (prog := PP) (w := w) hh I a 1 n
  refine for_walk W J (Ne.symm hIm.2.1) hIm.2.2 ?_ ?_ F (fun p hp => N p (.tail _ hp)) hI ?_ hj ?_ ?_ ht
  · intro i m₁ news₁ h h' hJ F₁ N₁ st e
    exact e.symm.trans st
  · intro i h st; exact ⟨_, st⟩
  · simpa using hit
  · intro i v m₁ news₁ h tk oI hi hP hJ F₁ N₁
    focus (refine hid fun hGo => ?_; obtain ⟨t, rfl⟩ := hP; all_goals (refine hGo ?_; clear hGo))
    rw [Int.mul_one]
    exact turn i t m₁ news₁ h tk oI hi hJ F₁ N₁
  · exact done

noncomputable def WEnd (hb : Heap) (L : Addr) (k : Nat) (J : Nat → (Str → Option Value) → List (Addr × Obj) → Prop) (R : Result → Shared → Prop) (s : Shared) (f : Flow) (s₃ : Shared) : Prop :=
  match f with
  | .ret v => R (.ok (.ret v)) s₃
  | .brk => R (.ok .next) s₃
  | _ => ∃ k', k' < k ∧ ∃ h' tk' m' news', s₃ = { s with heap := h', toks := tk' } ∧ Fr hb L h' m' ∧ News hb L h' news' ∧ J k' m' news'
theorem WEnd.go {hb : Heap} {L : Addr} {k k' : Nat} {J : Nat → (Str → Option Value) → List (Addr × Obj) → Prop} {R : Result → Shared → Prop} {s : Shared} {h' : Heap} {tk' : Nat} {m' : Str → Option Value} {news' : List (Addr × Obj)}
    (hk : k' < k) (F : Fr hb L h' m') (N : News hb L h' news') (j : J k' m' news') : WEnd hb L k J R s .next { s with heap := h', toks := tk' } := ⟨_, hk, _, _, _, _, rfl, F, N, j⟩
theorem while_rule {test : Expr} {body : List Stmt} {orelse : List Stmt}
    (J : Nat → (Str → Option Value) → List (Addr × Obj) → Prop) {k : Nat}
    (F : Fr hb env.locals s.heap m) (N : News hb env.locals s.heap news) (hj : J k m news)
    (turn : ∀ k m₁ news₁ h tk, J k m₁ news₁ → Fr hb env.locals h m₁ → News hb env.locals h news₁ →
      wpAny (model PP w) A (isTrue test env (eval test env)) (fun b s₂ => if b then wpAny (model PP w) A (execs body env) (WEnd hb env.locals k J R s) (fun _ _ => False) s₂
        else wpAny (model PP w) A (execs orelse env) (fun f s₃ => R (.ok f) s₃) (fun _ _ => False) s₂) (fun _ _ => False) { s with heap := h, toks := tk }) :
    codeAny (model PP w) A (.whileLoop test body orelse env) R s := by
  refine codeAny_whileLoop (fun k s' => ∃ h tk m₁ news₁, s' = { s with heap := h, toks := tk } ∧ J k m₁ news₁ ∧ Fr hb env.locals h m₁ ∧ News hb env.locals h news₁) ?_ k ⟨s.heap, s.toks, m, news, rfl, hj, F, N⟩
  focus (rintro k s' hP0; refine hid fun hGo => ?_; rcases hP0 with ⟨h, tk, m₁, news₁, rfl, hJ, F₁, N₁⟩; all_goals (refine hGo ?_; clear hGo))
  refine wpAny_mono (turn k m₁ news₁ h tk hJ F₁ N₁) (fun b s₂ h₂ => ?_) fun _ _ e => e.elim
  cases b with
  | false =>
    simp only [Bool.false_eq_true, if_false] at h₂ ⊢
    exact wpAny_mono h₂ (fun _ _ x => x) fun _ _ e => e.elim
  | true =>
    simp only [if_true] at h₂ ⊢
    refine wpAny_mono h₂ (fun f s₃ h₃ => ?_) fun _ _ e => e.elim
    have fin : (∃ k', k' < k ∧ ∃ h' tk' m' news', s₃ = { s with heap := h', toks := tk' } ∧ Fr hb env.locals h' m' ∧ News hb env.locals h' news' ∧ J k' m' news') →
        ∃ m, m < k ∧ ∃ h tk m₁ news₁, s₃ = { s with heap := h, toks := tk } ∧ J m m₁ news₁ ∧ Fr hb env.locals h m₁ ∧ News hb env.locals h news₁ := by
      focus (rintro hP0; refine hid fun hGo => ?_; rcases hP0 with ⟨k', hk', h', tk', m', news', rfl, F', N', hJ'⟩; all_goals (refine hGo ?_; clear hGo))
      exact ⟨k', hk', h', tk', m', news', rfl, hJ', F', N'⟩
    cases f with
    | next => exact fin h₃
    | cont => exact fin h₃
    | brk => exact h₃
    | ret v => exact h₃
end

theorem execs_seq {M : Model} {A : Around} {env : Env} {E : Value → Shared → Prop} {s : Shared} {st : Stmt} {rest : List Stmt} {Q : Flow → Shared → Prop}
    (h : ∀ Q' : Flow → Shared → Prop, (∀ s', wpAny M A (execs rest env) Q E s' → Q' .next s') → (∀ v s', Q (.ret v) s' → Q' (.ret v) s') → (∀ s', Q .brk s' → Q' .brk s') → (∀ s', Q .cont s' → Q' .cont s') → wpAny M A (exec st env) Q' E s) :
    wpAny M A (execs (st :: rest) env) Q E s :=
  wpAny_execs_cons (h _ (fun _ x => x) (fun _ _ x => x) (fun _ x => x) (fun _ x => x))

section
variable {w : World} {A : Around} {s : Shared} {env : Env} {hb : Heap} {m : Str → Option Value} {news : List (Addr × Obj)}

theorem for_rangeI {target : Expr} {body : List Stmt} {a b : Int} {r : Addr} {t u v : Tok} {Q : Flow → Shared → Prop} {E : Value → Shared → Prop}
    (hr : IsRange s.heap r a b 1 t u v)
    (hh : A.handled = none) (ha : -(2 ^ 62) ≤ a) (ha' : a < 2 ^ 62) (hb' : -(2 ^ 62) ≤ b) (hb'' : b < 2 ^ 62)
    (F : Fr hb env.locals s.heap m) (N : News hb env.locals s.heap news) (J : Nat → Nat → (Str → Option Value) → List (Addr × Obj) → Prop)
    (hI : ∀ I i m₁ news₁, J I i m₁ news₁ → ∀ p ∈ news₁, p.1 ≠ I)
    (hj : ∀ I : Nat, (∀ p ∈ news, @LT.lt Nat _ p.1 I) → @LT.lt Nat _ env.locals I → J I 0 m news)
    (turn : ∀ (I : Nat) i t m₁ news₁ h tk oI, (∀ p ∈ news, @LT.lt Nat _ p.1 I) → @LT.lt Nat _ env.locals I → i < (b - a).toNat → J I i m₁ news₁ → Fr hb env.locals h m₁ → News hb env.locals h ((I, oI) :: news₁) →
      wpAny (model PP w) A (assign target env (.int (a + (i : Int)) t)) (fun _ s₂ => wpAny (model PP w) A (execs body env) (TurnEnd hb env.locals I oI (J I (i + 1)) (fun r s' => match r with | .ok f => Q f s' | .error e => cameBackBy (model PP w) A env E e s') s) (fun _ _ => False) s₂) (fun _ _ => False) { s with heap := h, toks := tk })
    (done : ∀ I m₁ news₁ h tk, J I (b - a).toNat m₁ news₁ → Fr hb env.locals h m₁ → News hb env.locals h news₁ → Q .next { s with heap := h, toks := tk })
    (ht : (fun (I : Addr) v => letOwnedTupleGo target (.ref I) v) = (fun _ _ => pure ()) := by rfl) :
    wpAny (model PP w) A (pyIter (.ref r)) (fun it s₂ => codeAny (model PP w) A (.forLoop target it body [] env) (fun r s' => match r with | .ok f => Q f s' | .error e => cameBackBy (model PP w) A env E e s') s₂) E s := by
  refine wpAny_pyIter_range hr (small_one ha ha' hb' hb'') ?_
  have hsz : Builtin.Range.rangeSize a b 1 = (((b - a).toNat : Nat) : Int) := by rw [rangeSize_one]; split <;> lia
  have hLl : @LT.lt Nat _ env.locals s.heap.objs.size := F.ns.lt
  have hNl : ∀ p ∈ news, @LT.lt Nat _ p.1 s.heap.objs.size := fun p hp => Heap.lt_size (N p hp).1
  refine for_range (s := { s with heap := s.heap.push _ }) (a := a) (n := (b - a).toNat) hh ?_ (F.push _) (N.push F _ rfl) (J s.heap.objs.size) (hI _) (hj _ hNl hLl) ?_ ?_ ht
  · have := Heap.get?_push_size s.heap (o := { cls := .type "range_iterator", data := .fields #[rawInt a, rawInt (Builtin.Range.rangeSize a b 1), rawInt 1] }) rfl
    rw [hsz] at this
    rw [hsz]
    exact this
  · intro i t m₁ news₁ h tk oI hi hJ F₁ N₁
    exact turn _ i t m₁ news₁ h tk oI hNl hLl hi hJ F₁ N₁
  · intro m₁ news₁ h tk hJ F₁ N₁
    exact done _ m₁ news₁ h tk hJ F₁ N₁


end
theorem opq {α : Type} {M : Model} {A : Around} {E : Value → Shared → Prop} {s : Shared} {t : Sem α} {Q : α → Shared → Prop} (h : ∀ Q' : α → Shared → Prop, (∀ a s', Q a s' → Q' a s') → wpAny M A t Q' E s) : wpAny M A t Q E s := h Q fun _ _ x => x
section
variable {w : World} {A : Around} {R : Result → Shared → Prop} {s : Shared} {env : Env} {hb : Heap} {m : Str → Option Value} {news : List (Addr × Obj)}
theorem for_tuple {target : Expr} {body : List Stmt} {l : Addr} {vs : List Value} {Q : Flow → Shared → Prop} {E : Value → Shared → Prop}
    (hh : A.handled = none) (hl : s.heap.IsTuple l vs.toArray)
    (F : Fr hb env.locals s.heap m) (N : News hb env.locals s.heap news) (J : Addr → Nat → (Str → Option Value) → List (Addr × Obj) → Prop)
    (hk : ∀ I i m₁ news₁ h, J I i m₁ news₁ → Fr hb env.locals h m₁ → News hb env.locals h news₁ → h.IsTuple l vs.toArray)
    (hI : ∀ I i m₁ news₁, J I i m₁ news₁ → ∀ p ∈ news₁, p.1 ≠ I)
    (hj : ∀ I, (∀ p ∈ news, p.1 < I) → l < I → env.locals < I → J I 0 m news)
    (turn : ∀ I i v m₁ news₁ h tk oI, (∀ p ∈ news, p.1 < I) → l < I → env.locals < I → vs[i]? = some v → J I i m₁ news₁ → Fr hb env.locals h m₁ → News hb env.locals h ((I, oI) :: news₁) →
      wpAny (model PP w) A (assign target env v) (fun _ s₂ => wpAny (model PP w) A (execs body env) (TurnEnd hb env.locals I oI (J I (i + 1)) (fun r s' => match r with | .ok f => Q f s' | .error e => cameBackBy (model PP w) A env E e s') s) (fun _ _ => False) s₂) (fun _ _ => False) { s with heap := h, toks := tk })
    (done : ∀ I m₁ news₁ h tk, J I vs.length m₁ news₁ → Fr hb env.locals h m₁ → News hb env.locals h news₁ → Q .next { s with heap := h, toks := tk })
    (ht : (fun (I : Addr) v => letOwnedTupleGo target (.ref I) v) = (fun _ _ => pure ()) := by rfl) :
    wpAny (model PP w) A (pyIter (.ref l)) (fun it s₂ => codeAny (model PP w) A (.forLoop target it body [] env) (fun r s' => match r with | .ok f => Q f s' | .error e => cameBackBy (model PP w) A env E e s') s₂) E s := by
  refine wpAny_pyIter_tuple hl ?_
  focus (refine hid fun hGo => ?_; obtain ⟨ol, hol, _⟩ := id hl; all_goals (refine hGo ?_; clear hGo))
  have hlt : l < s.heap.objs.size := Heap.lt_size hol
  have hLl : env.locals < s.heap.objs.size := F.ns.lt
  have hNl : ∀ p ∈ news, p.1 < s.heap.objs.size := fun p hp => Heap.lt_size (N p hp).1
  have hbn : hb.get? s.heap.objs.size = none := by
    cases q : hb.get? s.heap.objs.size with
    | none => rfl
    | some o => exact absurd (Heap.lt_size (F.keep _ _ q)) (Nat.lt_irrefl _)
  have W := Walks.tuple (prog := PP) (w := w) hh s.heap.objs.size l (Nat.ne_of_lt hlt) vs.toArray
  rw [List.size_toArray] at W
  refine for_walk (s := { s with heap := s.heap.push _ }) W (J s.heap.objs.size) (Nat.ne_of_lt hLl) hbn ?_ ?_ (F.push _) (fun p hp => ⟨Heap.get?_push_of_some _ (N p hp).1, (N p hp).2⟩) (hI _) ?_ (hj _ hNl hlt hLl) ?_ ?_ ht
  · focus (rintro i m₁ news₁ h h' hJ F₁ N₁ hP0 e; refine hid fun hGo => ?_; rcases hP0 with ⟨⟨o, ho, r⟩, _⟩; all_goals (refine hGo ?_; clear hGo))
    exact ⟨⟨o, e.symm.trans ho, r⟩, hk _ _ _ _ _ hJ F₁ N₁⟩
  · rintro i h ⟨⟨o, ho, _⟩, _⟩; exact ⟨o, ho⟩
  · exact ⟨⟨_, Heap.get?_push_size _ rfl, rfl, rfl⟩, hl.at fun o e => Heap.get?_push_of_some _ e⟩
  · intro i v m₁ news₁ h tk oI hi hP hJ F₁ N₁
    exact turn _ i v m₁ news₁ h tk oI hNl hlt hLl (by simpa using hP) hJ F₁ N₁
  · intro m₁ news₁ h tk hJ F₁ N₁
    exact done _ m₁ news₁ h tk hJ F₁ N₁

end
theorem for_tuple_nil {w : World} {A : Around} {s : Shared} {env : Env} {hb : Heap} {m : Str → Option Value} {news : List (Addr × Obj)} {target : Expr} {body : List Stmt} {q : Addr} {Q : Flow → Shared → Prop} {E : Value → Shared → Prop}
    (hh : A.handled = none) (F : Fr hb env.locals s.heap m) (N : News hb env.locals s.heap news) (hk : ∀ h, News hb env.locals h news → h.IsTuple q ([] : List Value).toArray)
    (done : ∀ h tk, Fr hb env.locals h m → News hb env.locals h news → Q .next { s with heap := h, toks := tk })
    (ht : (fun (I : Addr) v => letOwnedTupleGo target (.ref I) v) = (fun _ _ => pure ()) := by rfl) :
    wpAny (model PP w) A (pyIter (.ref q)) (fun it s₂ => codeAny (model PP w) A (.forLoop target it body [] env) (fun r s' => match r with | .ok f => Q f s' | .error e => cameBackBy (model PP w) A env E e s') s₂) E s := by
  refine for_tuple (vs := []) hh (hk _ N) F N (fun I i m₁ news₁ => (∀ p ∈ news, p.1 ≠ I) ∧ m₁ = m ∧ news₁ = news) ?_ ?_ ?_ ?_ ?_ ht
  · rintro I i m₁ news₁ h ⟨_, rfl, rfl⟩ _ N; exact hk _ N
  · rintro I i m₁ news₁ ⟨h, rfl, rfl⟩; exact h
  · intro I hI _ _; exact ⟨fun p hp => Nat.ne_of_lt (hI p hp), rfl, rfl⟩
  · intro I i v m₁ news₁ h tk oI _ _ _ hv; simp at hv
  · rintro I m₁ news₁ h tk ⟨_, rfl, rfl⟩ F₁ N₁; exact done _ _ F₁ N₁

noncomputable def NeH (a b : Nat) : Prop := a ≠ b
theorem NeH.out {a b : Nat} (h : NeH a b) : a ≠ b := h
theorem NeH.outs {a b : Nat} (h : NeH a b) : b ≠ a := fun e => h e.symm
theorem lt63 {n k : Nat} (h : n ≤ k) (hk : Nat.ble k 1000000 = true) : (n : Int) < 2 ^ 63 := by
  have := Nat.le_of_ble_eq_true hk
  lia
theorem leK {n k c : Nat} (h : n ≤ k) (hk : Nat.ble k c = true) : n ≤ c := Nat.le_trans h (Nat.le_of_ble_eq_true hk)
theorem ar_lo (n : Nat) : -(2 ^ 62 : Int) ≤ (n : Int) := by lia
theorem ar_hi {n : Nat} (h : n ≤ 100) : (n : Int) < 2 ^ 62 := by lia
theorem ar_lo1 (i : Nat) : -(2 ^ 62 : Int) ≤ 0 + (i : Int) + 1 := by lia
theorem ar_hi1 {i n : Nat} (h : i < n) (hn : n ≤ 100) : 0 + (i : Int) + 1 < 2 ^ 62 := by lia
theorem ar_n0 (i : Nat) : (0 + (i : Int)).toNat = i := by lia
theorem ar_n1 (i j : Nat) : (0 + (i : Int) + 1 + (j : Int)).toNat = i + 1 + j := by lia
theorem ar_ij {i j n : Nat} (h : j < ((n : Int) - (0 + (i : Int) + 1)).toNat) : i + 1 + j < n := by lia
theorem ar_0i (i : Nat) : 0 ≤ 0 + (i : Int) := by lia
theorem ar_0ij (i j : Nat) : 0 ≤ 0 + (i : Int) + 1 + (j : Int) := by lia
theorem ar_ni {i n : Nat} (h : i < n) : 0 + (i : Int) < (n : Int) := by lia
theorem ar_nij {i j n : Nat} (h : i + 1 + j < n) : 0 + (i : Int) + 1 + (j : Int) < (n : Int) := by lia
theorem ar_i63 {i n : Nat} (h : i < n) (hn : n ≤ 100) : 0 + (i : Int) < 2 ^ 63 := by lia
theorem ar_ij63 {i j n : Nat} (h : i + 1 + j < n) (hn : n ≤ 100) : 0 + (i : Int) + 1 + (j : Int) < 2 ^ 63 := by lia
theorem ar_row {s i n : Nat} (h : s ≤ 100 + 100 * i + ((n : Int) - (0 + (i : Int) + 1)).toNat) (hn : n ≤ 100) : s ≤ 100 + 100 * (i + 1) := by lia
theorem ar_sz {s i j n : Nat} (h : s ≤ 100 + 100 * i + j) (hj : i + 1 + j < n) (hn : n ≤ 100) : s ≤ 20000 := by lia
theorem ar_e (i n : Nat) : n - (i + 1) = ((n : Int) - (0 + (i : Int) + 1)).toNat := by lia
theorem ar_succ {n k l : Nat} (h : n + k = l) (h2 : n < l) : ∃ k', k = k' + 1 := by
  cases k with
  | zero => exact absurd h2 (by rw [← h]; exact Nat.lt_irrefl _)
  | succ k => exact ⟨k, rfl⟩
theorem ar_shift {n k l : Nat} (h : n + (k + 1) = l) : n + 1 + k = l := by rw [← h, Nat.add_assoc, Nat.add_comm 1 k]
theorem ar_wk {k d r : Nat} (h : k + d = r) (h2 : d + 1 ≤ r) : k - 1 < k ∧ k - 1 + (d + 1) = r := by lia
theorem leS {n k : Nat} (h : n ≤ k) (hk : Nat.ble k 16777216 = true) : n ≤ sizeLine := by rw [sizeLine_eq]; exact leK h hk
theorem ar_dep {n : Nat} (h : n ≤ 63) : 303 ≤ 900 - 3 * (n + 1) := by lia
theorem ar_unt {n : Nat} (h : n ≤ 63) : 10 ≤ 6000 - 20 * (n + 1) := by lia
theorem ar_pos {o : Int} (h : 1 ≤ o) : 0 ≤ o := Int.le_trans (by decide) h
theorem ar_64 {o : Int} (h : o ≤ 63) : o < 64 := Int.lt_of_le_of_lt h (by decide)
theorem ar_line {u k : Nat} (h : u ≤ k) (hk : Nat.ble k 9000 = true) : u + 64 < 9900 := by
  have := Nat.le_of_ble_eq_true hk
  lia
theorem ar_rec (n : Nat) : 900 - n < recursionLimit := Nat.lt_of_le_of_lt (Nat.sub_le _ _) (by decide)
theorem ar_d {f : Nat} (h : f + 1 ≤ 100) : 900 - 3 * (f + 1) + 1 ≤ 900 - 3 * f := by lia
theorem ar_u {f : Nat} (h : f + 1 ≤ 100) : 6000 - 20 * (f + 1) + 3 ≤ 6000 - 20 * f := by lia
theorem ar_63 {i r : Nat} (h : i < r) (hr : r ≤ 63) : i < 63 := Nat.lt_of_lt_of_le h hr
theorem ar_63i {i y r : Nat} (h : i < r) (hr : r ≤ 63) (hy : y ≤ 63) : 63 * i + y ≤ 63 * (i + 1) ∧ 63 * i ≤ 10000 := by lia
local macro_rules | `(tactic| k_ne) => `(tactic| with_reducible first | exact NeH.out ‹_› | exact NeH.outs ‹_› | assumption | exact Ne.symm ‹_› | exact Nat.ne_of_lt ‹_› | exact Nat.ne_of_gt ‹_›)
theorem ints_at {vs : List Value} {ns : List Int} (h : IntsAre vs ns) : ∀ {i : Nat} {v : Value}, vs[i]? = some v → ∃ k t, ns[i]? = some k ∧ v = .int k t := by
  induction h with
  | nil => intro i v e; simp at e
  | cons n t _ ih =>
    intro i v e
    cases i with
    | zero => simp at e; exact ⟨n, t, by simp, e.symm⟩
    | succ i => simp at e; simpa using ih e


theorem intsAre_push {us : Array Value} {ds : List Int} {k : Int} {t : Tok} (h : IntsAre us.toList ds) : IntsAre (us.push (.int k t)).toList (ds ++ [k]) := by
  obtain ⟨l⟩ := us
  rw [Array.toList_push]
  dsimp only at h ⊢
  induction h with
  | nil => exact .cons _ _ .nil
  | cons n t _ ih => exact .cons _ _ ih
theorem mem_any {ds : List Int} {y : Int} (h : (ds.any fun x => x == y) = true) : y ∈ ds := by
  obtain ⟨x, hx, e⟩ := List.any_eq_true.mp h
  exact (beq_iff_eq.mp e) ▸ hx
theorem not_mem_any {ds : List Int} {y : Int} (h : (ds.any fun x => x == y) = false) : y ∉ ds := fun hm => by
  have : (ds.any fun x => x == y) = true := List.any_eq_true.mpr ⟨y, hm, by simp⟩
  rw [h] at this; cases this
theorem mset {m : Str → Option Value} {x : Str} {u : Option Value} (h : m x = u) : m = fun y => if y = x then u else m y := by
  funext y
  by_cases e : y = x
  · subst e; simp [h]
  · simp [e]
theorem mset2 {m : Str → Option Value} {x : Str} {u v : Option Value} : (fun y => if y = x then v else if y = x then u else m y) = fun y => if y = x then v else m y := by
  funext y
  by_cases e : y = x <;> simp [e]


theorem high_bit_spec {w : World} {A : Around} {s : Shared} {v : Int} {t : Tok} {Q : Value → Shared → Prop} {E : Value → Shared → Prop}
    (G : Gd w s.heap) (hA : Le A (std 990 9000))
    (h : ∀ h' tk t', Kp s.heap h' → Q (.int ((Builtin.Int.intBits v : Int) - 1) t') { s with heap := h', toks := tk }) :
    wpAny (model PP w) A (call (.ref 148) [.int v t]) Q E s := by
  refine wpAny_le hA ?_
  have X := G.X
  focus (refine hid fun hGo => ?_; obtain ⟨mg, mb, T⟩ := G.T; all_goals (refine hGo ?_; clear hGo))
  refine enter (binds := [(Str.ofString "value", .int v t)]) G (by decide) (by k_is) (by k_is) (BindsTo.of_eq rfl) (by decide) (locs rfl) ?_
  intro h₁ L tk F N
  repeat' (first | ((with_reducible show wpAny _ _ (execs (_ :: _) _) _ _ _); refine execs_seq ?_; intro QZs hnZs hrZs hbZs hcZs) | (refine hnZs _ ?_; clear hnZs hrZs hbZs hcZs) | (refine hrZs _ _ ?_) | (refine hbZs _ ?_) | (refine hcZs _ ?_) | walk1 | (dsimp only; first | ((with_reducible show wpAny _ _ (execs (_ :: _) _) _ _ _); refine execs_seq ?_; intro QZs hnZs hrZs hbZs hcZs) | (refine hnZs _ ?_; clear hnZs hrZs hbZs hcZs) | (refine hrZs _ _ ?_) | (refine hbZs _ ?_) | (refine hcZs _ ?_) | walk1))
  exact h _ _ _ (Fr.toKp F)

noncomputable def hbI (v : Int) : Int := (Builtin.Int.intBits v : Int) - 1
noncomputable def shortI (a b : Int) : Int := if hbI b < hbI a then hbI b else hbI a
noncomputable def cutI (a b : Int) : Int := a.fdiv (2 ^ (hbI a - shortI a b).toNat)
noncomputable def cutJ (a b : Int) : Int := b.fdiv (2 ^ (hbI b - shortI a b).toNat)
noncomputable def topI (a b : Int) : Int := (cutI a b).fdiv (2 ^ (hbI (Builtin.bitXor (cutI a b) (cutJ a b)) + 1).toNat)

theorem top_spec {w : World} {A : Around} {s : Shared} {a b : Int} {ta tb : Tok} {Q : Value → Shared → Prop} {E : Value → Shared → Prop}
    (G : Gd w s.heap) (hA : Le A (std 980 8000))
    (hQ : ∀ h' tk t', Kp s.heap h' → Q (.int (topI a b) t') { s with heap := h', toks := tk }) :
    wpAny (model PP w) A (call (.ref 155) [.int a ta, .int b tb]) Q E s := by
  refine wpAny_le hA ?_
  have X := G.X
  focus (refine hid fun hGo => ?_; obtain ⟨mg, mb, T⟩ := G.T; all_goals (refine hGo ?_; clear hGo))
  refine enter (binds := [(Str.ofString "a", .int a ta), (Str.ofString "b", .int b tb)]) G (by decide) (by k_is) (by k_is) (BindsTo.of_eq rfl) (by decide) (locs rfl) ?_
  intro h₁ L tk F N
  repeat' (first | ((with_reducible show wpAny _ _ (execs (_ :: _) _) _ _ _); refine execs_seq ?_; intro QZs hnZs hrZs hbZs hcZs) | (refine hnZs _ ?_; clear hnZs hrZs hbZs hcZs) | (refine hrZs _ _ ?_) | (refine hbZs _ ?_) | (refine hcZs _ ?_) | ((with_reducible show wpAny _ _ (call (Value.ref 148) [Value.int _ _] _) _ _ _); (refine high_bit_spec (Gd.keeps (by assumption) (Fr.toKp (by assumption))) ⟨rfl, Nat.le_of_ble_eq_true rfl, Nat.le_of_ble_eq_true rfl, rfl, rfl⟩ ?_); intro hZq tkZq tZq kZq; (have FZq := Fr.kp (by assumption) kZq); (have NZq := News.kp (by assumption) kZq); (try k_sweep)) | walk1 | (dsimp only; first | ((with_reducible show wpAny _ _ (execs (_ :: _) _) _ _ _); refine execs_seq ?_; intro QZs hnZs hrZs hbZs hcZs) | (refine hnZs _ ?_; clear hnZs hrZs hbZs hcZs) | (refine hrZs _ _ ?_) | (refine hbZs _ ?_) | (refine hcZs _ ?_) | ((with_reducible show wpAny _ _ (call (Value.ref 148) [Value.int _ _] _) _ _ _); (refine high_bit_spec (Gd.keeps (by assumption) (Fr.toKp (by assumption))) ⟨rfl, Nat.le_of_ble_eq_true rfl, Nat.le_of_ble_eq_true rfl, rfl, rfl⟩ ?_); intro hZq tkZq tZq kZq; (have FZq := Fr.kp (by assumption) kZq); (have NZq := News.kp (by assumption) kZq); (try k_sweep)) | walk1))
  refine hQ _ _ _ (Fr.toKp (by assumption))

noncomputable def drawnStep (d : List Int) (x : Int) : List Int := if x.fmod 63 + 1 ∈ d then d else d ++ [x.fmod 63 + 1]
noncomputable def drawnL (ns : List Int) : List Int := ns.foldl drawnStep [21, 44, 38]

inductive DrJ (l' : Nat) (a : Nat) (ns : List Int) (I : Nat) (i : Nat) (m₁ : Str → Option Value) (news₁ : List (Addr × Obj)) : Prop
  | mk (e1 : @LT.lt Nat _ l' I) (u : Option Value) (us : Array Value) (n : Nat) (e2 : news₁ = [(l', W.listOf us n)]) (e3 : us.size ≤ 3 + i) (e4 : IntsAre us.toList ((ns.take i).foldl drawnStep [21, 44, 38])) (e5 : m₁ = fun y => if y = Str.ofString "x" then u else if y = Str.ofString "drawn" then some (.ref l') else List.lookup y [(Str.ofString "numbers", Value.ref a)].reverse) : DrJ l' a ns I i m₁ news₁
theorem drawn_spec {w : World} {A : Around} {s : Shared} {a : Addr} {vs : List Value} {ns : List Int} {Q : Value → Shared → Prop} {E : Value → Shared → Prop}
    (G : Gd w s.heap) (hA : Le A (std 980 8000)) (hl : s.heap.IsList a vs.toArray) (hi : IntsAre vs ns) (hn : vs.length ≤ 100)
    (hQ : ∀ h' tk D us n, Kp s.heap h' → s.heap.get? D = none → h'.get? D = some { cls := .type "list", data := .seq us n } → IntsAre us.toList (drawnL ns) → Q (.ref D) { s with heap := h', toks := tk }) :
    wpAny (model PP w) A (call (.ref 193) [.ref a]) Q E s := by
  refine wpAny_le hA ?_
  have X := G.X
  focus (refine hid fun hGo => ?_; obtain ⟨mg, mb, T⟩ := G.T; all_goals (refine hGo ?_; clear hGo))
  refine enter (binds := [(Str.ofString "numbers", .ref a)]) G (by decide) (by k_is) (by k_is) (BindsTo.of_eq rfl) (by decide) (locs rfl) ?_
  intro h₁ L tk F N
  refine execs_seq ?_
  intro Q₁ hn₁ hr₁ hb₁ hc₁
  repeat' (first | ((with_reducible show wpAny _ _ (execs (_ :: _) _) _ _ _); refine execs_seq ?_; intro QZs hnZs hrZs hbZs hcZs) | (refine hnZs _ ?_; clear hnZs hrZs hbZs hcZs) | (refine hrZs _ _ ?_) | (refine hbZs _ ?_) | (refine hcZs _ ?_) | ((with_reducible show wpAny _ _ (call (Value.builtin "list.append") [Value.ref _, _]) _ _ _); k_dflt (refine append_K (by k_asm) (by k_asm) (by k_upd) ?_ (by simp only [sizeLine_eq]; first | exact leK (by assumption) (by exact rfl) | omega)); intro hZq FZq NZq; (try k_sweep)) | walk1 | (dsimp only; first | ((with_reducible show wpAny _ _ (execs (_ :: _) _) _ _ _); refine execs_seq ?_; intro QZs hnZs hrZs hbZs hcZs) | (refine hnZs _ ?_; clear hnZs hrZs hbZs hcZs) | (refine hrZs _ _ ?_) | (refine hbZs _ ?_) | (refine hcZs _ ?_) | ((with_reducible show wpAny _ _ (call (Value.builtin "list.append") [Value.ref _, _]) _ _ _); k_dflt (refine append_K (by k_asm) (by k_asm) (by k_upd) ?_ (by simp only [sizeLine_eq]; first | exact leK (by assumption) (by exact rfl) | omega)); intro hZq FZq NZq; (try k_sweep)) | walk1))
  refine hn₁ _ ?_
  refine execs_seq ?_
  intro Q₂ hn₂ hr₂ hb₂ hc₂
  refine wpAny_For ?_ (by intro _; rfl)
  repeat' (first | ((with_reducible show wpAny _ _ (execs (_ :: _) _) _ _ _); refine execs_seq ?_; intro QZs hnZs hrZs hbZs hcZs) | (refine hnZs _ ?_; clear hnZs hrZs hbZs hcZs) | (refine hrZs _ _ ?_) | (refine hbZs _ ?_) | (refine hcZs _ ?_) | ((with_reducible show wpAny _ _ (call (Value.builtin "list.append") [Value.ref _, _]) _ _ _); k_dflt (refine append_K (by k_asm) (by k_asm) (by k_upd) ?_ (by simp only [sizeLine_eq]; first | exact leK (by assumption) (by exact rfl) | omega)); intro hZq FZq NZq; (try k_sweep)) | walk1 | (dsimp only; first | ((with_reducible show wpAny _ _ (execs (_ :: _) _) _ _ _); refine execs_seq ?_; intro QZs hnZs hrZs hbZs hcZs) | (refine hnZs _ ?_; clear hnZs hrZs hbZs hcZs) | (refine hrZs _ _ ?_) | (refine hbZs _ ?_) | (refine hcZs _ ?_) | ((with_reducible show wpAny _ _ (call (Value.builtin "list.append") [Value.ref _, _]) _ _ _); k_dflt (refine append_K (by k_asm) (by k_asm) (by k_upd) ?_ (by simp only [sizeLine_eq]; first | exact leK (by assumption) (by exact rfl) | omega)); intro hZq FZq NZq; (try k_sweep)) | walk1))
  rename Fr _ _ _ _ => F₁
  rename News _ _ _ _ => N₁
  rename_i l' _ _ _
  refine for_list rfl (hl.at fun o e => F₁.keep _ _ e) F₁ N₁ (DrJ l' a ns) ?_ ?_ ?_ ?_ ?_
  · intro I i m₁ news₁ h hJ F N
    exact hl.at fun o e => F.keep _ _ e
  · focus (rintro I i m₁ news₁ hP0 p hp; refine hid fun hGo => ?_; rcases hP0 with ⟨hlt, u, us, n, rfl, _⟩; all_goals (refine hGo ?_; clear hGo))
    rw [List.mem_singleton.mp hp]
    exact Nat.ne_of_lt hlt
  · intro I hI _ _
    refine ⟨hI _ (.head _), none, _, _, rfl, Nat.le_refl _, ?_, mset rfl⟩
    exact .cons _ _ (.cons _ _ (.cons _ _ .nil))
  · focus (rintro I i v m₁ news₁ h tk oI hI hlI hLI hv hP0 F₂ N₂; refine hid fun hGo => ?_; rcases hP0 with ⟨hlt, u, us, n, rfl, hsz, hus, rfl⟩; all_goals (refine hGo ?_; clear hGo))
    focus (refine hid fun hGo => ?_; obtain ⟨k, t, hk, rfl⟩ := ints_at hi hv; all_goals (refine hGo ?_; clear hGo))
    have hi' : i < vs.length := by
      focus (refine hid fun hGo => ?_; rcases Nat.lt_or_ge i vs.length with q | q; all_goals (refine hGo ?_; clear hGo))
      · exact q
      · rw [List.getElem?_eq_none q] at hv; cases hv
    have hst : (ns.take (i + 1)).foldl drawnStep [21, 44, 38] = drawnStep ((ns.take i).foldl drawnStep [21, 44, 38]) k := by
      rw [List.take_add_one, hk]; simp
    repeat' (first | ((with_reducible show wpAny _ _ (execs (_ :: _) _) _ _ _); refine execs_seq ?_; intro QZs hnZs hrZs hbZs hcZs) | (refine hnZs _ ?_; clear hnZs hrZs hbZs hcZs) | (refine hrZs _ _ ?_) | (refine hbZs _ ?_) | (refine hcZs _ ?_) | ((with_reducible show wpAny _ _ (call (Value.builtin "list.append") [Value.ref _, _]) _ _ _); k_dflt (refine append_K (by k_asm) (by k_asm) (by k_upd) ?_ (by simp only [sizeLine_eq]; first | exact leK (by assumption) (by exact rfl) | omega)); intro hZq FZq NZq; (try k_sweep)) | walk1 | (dsimp only; first | ((with_reducible show wpAny _ _ (execs (_ :: _) _) _ _ _); refine execs_seq ?_; intro QZs hnZs hrZs hbZs hcZs) | (refine hnZs _ ?_; clear hnZs hrZs hbZs hcZs) | (refine hrZs _ _ ?_) | (refine hbZs _ ?_) | (refine hcZs _ ?_) | ((with_reducible show wpAny _ _ (call (Value.builtin "list.append") [Value.ref _, _]) _ _ _); k_dflt (refine append_K (by k_asm) (by k_asm) (by k_upd) ?_ (by simp only [sizeLine_eq]; first | exact leK (by assumption) (by exact rfl) | omega)); intro hZq FZq NZq; (try k_sweep)) | walk1))
    all_goals dsimp only at *
    · refine TurnEnd.go (by assumption) (by assumption) ⟨hlt, _, us, n, rfl, by lia, ?_, mset2⟩
      rw [hst, drawnStep, if_pos]
      · exact hus
      · exact mem_any (by assumption)
    · refine TurnEnd.go (by assumption) (by assumption) ⟨hlt, _, _, _, rfl, ?_, ?_, mset2⟩
      · rw [Array.size_push]; lia
      · rw [hst, drawnStep, if_neg]
        · exact intsAre_push hus
        · exact not_mem_any (by assumption)
  · focus (rintro I m₁ news₁ h tk hP0 F₂ N₂; refine hid fun hGo => ?_; rcases hP0 with ⟨hlt, u, us, n, rfl, hsz, hus, rfl⟩; all_goals (refine hGo ?_; clear hGo))
    refine hn₂ _ ?_
    repeat' (first | ((with_reducible show wpAny _ _ (execs (_ :: _) _) _ _ _); refine execs_seq ?_; intro QZs hnZs hrZs hbZs hcZs) | (refine hnZs _ ?_; clear hnZs hrZs hbZs hcZs) | (refine hrZs _ _ ?_) | (refine hbZs _ ?_) | (refine hcZs _ ?_) | ((with_reducible show wpAny _ _ (call (Value.builtin "list.append") [Value.ref _, _]) _ _ _); k_dflt (refine append_K (by k_asm) (by k_asm) (by k_upd) ?_ (by simp only [sizeLine_eq]; first | exact leK (by assumption) (by exact rfl) | omega)); intro hZq FZq NZq; (try k_sweep)) | walk1 | (dsimp only; first | ((with_reducible show wpAny _ _ (execs (_ :: _) _) _ _ _); refine execs_seq ?_; intro QZs hnZs hrZs hbZs hcZs) | (refine hnZs _ ?_; clear hnZs hrZs hbZs hcZs) | (refine hrZs _ _ ?_) | (refine hbZs _ ?_) | (refine hcZs _ ?_) | ((with_reducible show wpAny _ _ (call (Value.builtin "list.append") [Value.ref _, _]) _ _ _); k_dflt (refine append_K (by k_asm) (by k_asm) (by k_upd) ?_ (by simp only [sizeLine_eq]; first | exact leK (by assumption) (by exact rfl) | omega)); intro hZq FZq NZq; (try k_sweep)) | walk1))
    have hm := N₂ _ (.head _)
    rw [hi.length, List.take_length] at hus
    exact hQ _ _ _ _ _ (Fr.toKp F₂) hm.2.2 hm.1 hus

noncomputable def addI (row : List Int) (t : Int) : List Int := if t ∈ row then row else row ++ [t]
noncomputable def closedRow (ds row : List Int) (k : Nat) : List Int := (List.range (ds.length - (k + 1))).foldl (fun r j => addI r (topI (ds.getD k 0) (ds.getD (k + 1 + j) 0))) row
noncomputable def closedL (ds : List Int) : List Int := (List.range ds.length).foldl (fun r k => closedRow ds r k) ds

inductive ClA (D : Nat) (a : Nat) (ds : List Int) (I : Nat) (i : Nat) (m₁ : Str → Option Value) (news₁ : List (Addr × Obj)) : Prop
  | mk (e1 : @LT.lt Nat _ D I) (ut : Option Value) (uj : Option Value) (uk : Option Value) (us : Array Value) (n : Nat) (e2 : news₁ = [(D, W.listOf us n)]) (e3 : us.size ≤ 100 + 100 * i) (e4 : IntsAre us.toList ((List.range i).foldl (fun r k => closedRow ds r k) ds)) (e5 : m₁ = fun y => if y = Str.ofString "top" then ut else if y = Str.ofString "j" then uj else if y = Str.ofString "k" then uk else if y = Str.ofString "row" then some (.ref D) else List.lookup y [(Str.ofString "drawn", Value.ref a)].reverse) : ClA D a ds I i m₁ news₁
inductive ClB (D : Nat) (I : Nat) (a : Nat) (i : Nat) (oI : Obj) (t : Tok) (ds : List Int) (I' : Nat) (j : Nat) (m₁ : Str → Option Value) (news₁ : List (Addr × Obj)) : Prop
  | mk (e1 : @LT.lt Nat _ D I') (e2 : @LT.lt Nat _ I I') (ut : Option Value) (uj : Option Value) (us : Array Value) (n : Nat) (e3 : news₁ = [(I, oI), (D, W.listOf us n)]) (e4 : us.size ≤ 100 + 100 * i + j) (e5 : IntsAre us.toList ((List.range j).foldl (fun r j => addI r (topI (ds.getD i 0) (ds.getD (i + 1 + j) 0))) ((List.range i).foldl (fun r k => closedRow ds r k) ds))) (e6 : m₁ = fun y => if y = Str.ofString "top" then ut else if y = Str.ofString "j" then uj else if y = Str.ofString "k" then some (.int (0 + (i : Int)) t) else if y = Str.ofString "row" then some (.ref D) else List.lookup y [(Str.ofString "drawn", Value.ref a)].reverse) : ClB D I a i oI t ds I' j m₁ news₁
theorem closed_spec {w : World} {A : Around} {s : Shared} {a : Addr} {vs : List Value} {ds : List Int} {Q : Value → Shared → Prop} {E : Value → Shared → Prop}
    (G : Gd w s.heap) (hA : Le A (std 970 7000)) (hl : s.heap.IsList a vs.toArray) (hi : IntsAre vs ds) (hn : vs.length ≤ 100)
    (hQ : ∀ h' tk D us n, Kp s.heap h' → s.heap.get? D = none → h'.get? D = some { cls := .type "list", data := .seq us n } → IntsAre us.toList (closedL ds) → Q (.ref D) { s with heap := h', toks := tk }) :
    wpAny (model PP w) A (call (.ref 162) [.ref a]) Q E s := by
  refine wpAny_le hA ?_
  have X := G.X
  focus (refine hid fun hGo => ?_; obtain ⟨mg, mb, T⟩ := G.T; all_goals (refine hGo ?_; clear hGo))
  refine enter (binds := [(Str.ofString "drawn", .ref a)]) G (by decide) (by k_is) (by k_is) (BindsTo.of_eq rfl) (by decide) (locs rfl) ?_
  intro h₁ L tk F N
  refine execs_seq ?_
  intro Q₁ hn₁ hr₁ hb₁ hc₁
  repeat' (first | ((with_reducible show wpAny _ _ (execs (_ :: _) _) _ _ _); refine execs_seq ?_; intro QZs hnZs hrZs hbZs hcZs) | (refine hnZs _ ?_; clear hnZs hrZs hbZs hcZs) | (refine hrZs _ _ ?_) | (refine hbZs _ ?_) | (refine hcZs _ ?_) | ((with_reducible show wpAny _ _ (subscriptTail _ _ (Value.ref _) (Value.int _ _)) _ _ _); (with_unfolding_all refine item_list_ints (by is_list) (by l_ints) (by first | with_reducible assumption | l_idx) (by first | with_reducible assumption | l_idx) (by first | with_reducible assumption | l_idx) ?_); intro tZq) | ((with_reducible show wpAny _ _ (call (Value.ref 155) [Value.int _ _, Value.int _ _] _) _ _ _); (refine top_spec (Gd.keeps (by assumption) (Fr.toKp (by assumption))) ⟨rfl, Nat.le_of_ble_eq_true rfl, Nat.le_of_ble_eq_true rfl, rfl, rfl⟩ ?_); intro hZq tkZq tZq kZq; (have FZq := Fr.kp (by assumption) kZq); (have NZq := News.kp (by assumption) kZq); (try k_sweep)) | ((with_reducible show wpAny _ _ (call (Value.builtin "len") [Value.ref _]) _ _ _); refine Calls.call_len_list (Heap.IsList.at (by assumption) fun o e => Fr.keep (by assumption) _ _ e) (by simp only [List.size_toArray]; first | exact lt63 (by assumption) (by exact rfl) | omega) ?_) | ((with_reducible show wpAny _ _ (call (Value.builtin "list.append") [Value.ref _, _]) _ _ _); k_dflt (refine append_K (by k_asm) (by k_asm) (by k_upd) ?_ (by simp only [sizeLine_eq]; first | exact leK (by assumption) (by exact rfl) | omega)); intro hZq FZq NZq; (try k_sweep)) | walk1 | (dsimp only; first | ((with_reducible show wpAny _ _ (execs (_ :: _) _) _ _ _); refine execs_seq ?_; intro QZs hnZs hrZs hbZs hcZs) | (refine hnZs _ ?_; clear hnZs hrZs hbZs hcZs) | (refine hrZs _ _ ?_) | (refine hbZs _ ?_) | (refine hcZs _ ?_) | ((with_reducible show wpAny _ _ (subscriptTail _ _ (Value.ref _) (Value.int _ _)) _ _ _); (with_unfolding_all refine item_list_ints (by is_list) (by l_ints) (by first | with_reducible assumption | l_idx) (by first | with_reducible assumption | l_idx) (by first | with_reducible assumption | l_idx) ?_); intro tZq) | ((with_reducible show wpAny _ _ (call (Value.ref 155) [Value.int _ _, Value.int _ _] _) _ _ _); (refine top_spec (Gd.keeps (by assumption) (Fr.toKp (by assumption))) ⟨rfl, Nat.le_of_ble_eq_true rfl, Nat.le_of_ble_eq_true rfl, rfl, rfl⟩ ?_); intro hZq tkZq tZq kZq; (have FZq := Fr.kp (by assumption) kZq); (have NZq := News.kp (by assumption) kZq); (try k_sweep)) | ((with_reducible show wpAny _ _ (call (Value.builtin "len") [Value.ref _]) _ _ _); refine Calls.call_len_list (Heap.IsList.at (by assumption) fun o e => Fr.keep (by assumption) _ _ e) (by simp only [List.size_toArray]; first | exact lt63 (by assumption) (by exact rfl) | omega) ?_) | ((with_reducible show wpAny _ _ (call (Value.builtin "list.append") [Value.ref _, _]) _ _ _); k_dflt (refine append_K (by k_asm) (by k_asm) (by k_upd) ?_ (by simp only [sizeLine_eq]; first | exact leK (by assumption) (by exact rfl) | omega)); intro hZq FZq NZq; (try k_sweep)) | walk1))
  refine hn₁ _ ?_
  clear hn₁ hr₁ hb₁ hc₁
  refine execs_seq ?_
  intro Q₂ hn₂ hr₂ hb₂ hc₂
  refine wpAny_For ?_ (by intro _; rfl)
  repeat' (first | ((with_reducible show wpAny _ _ (execs (_ :: _) _) _ _ _); refine execs_seq ?_; intro QZs hnZs hrZs hbZs hcZs) | (refine hnZs _ ?_; clear hnZs hrZs hbZs hcZs) | (refine hrZs _ _ ?_) | (refine hbZs _ ?_) | (refine hcZs _ ?_) | ((with_reducible show wpAny _ _ (subscriptTail _ _ (Value.ref _) (Value.int _ _)) _ _ _); (with_unfolding_all refine item_list_ints (by is_list) (by l_ints) (by first | with_reducible assumption | l_idx) (by first | with_reducible assumption | l_idx) (by first | with_reducible assumption | l_idx) ?_); intro tZq) | ((with_reducible show wpAny _ _ (call (Value.ref 155) [Value.int _ _, Value.int _ _] _) _ _ _); (refine top_spec (Gd.keeps (by assumption) (Fr.toKp (by assumption))) ⟨rfl, Nat.le_of_ble_eq_true rfl, Nat.le_of_ble_eq_true rfl, rfl, rfl⟩ ?_); intro hZq tkZq tZq kZq; (have FZq := Fr.kp (by assumption) kZq); (have NZq := News.kp (by assumption) kZq); (try k_sweep)) | ((with_reducible show wpAny _ _ (call (Value.builtin "len") [Value.ref _]) _ _ _); refine Calls.call_len_list (Heap.IsList.at (by assumption) fun o e => Fr.keep (by assumption) _ _ e) (by simp only [List.size_toArray]; first | exact lt63 (by assumption) (by exact rfl) | omega) ?_) | ((with_reducible show wpAny _ _ (call (Value.builtin "list.append") [Value.ref _, _]) _ _ _); k_dflt (refine append_K (by k_asm) (by k_asm) (by k_upd) ?_ (by simp only [sizeLine_eq]; first | exact leK (by assumption) (by exact rfl) | omega)); intro hZq FZq NZq; (try k_sweep)) | walk1 | (dsimp only; first | ((with_reducible show wpAny _ _ (execs (_ :: _) _) _ _ _); refine execs_seq ?_; intro QZs hnZs hrZs hbZs hcZs) | (refine hnZs _ ?_; clear hnZs hrZs hbZs hcZs) | (refine hrZs _ _ ?_) | (refine hbZs _ ?_) | (refine hcZs _ ?_) | ((with_reducible show wpAny _ _ (subscriptTail _ _ (Value.ref _) (Value.int _ _)) _ _ _); (with_unfolding_all refine item_list_ints (by is_list) (by l_ints) (by first | with_reducible assumption | l_idx) (by first | with_reducible assumption | l_idx) (by first | with_reducible assumption | l_idx) ?_); intro tZq) | ((with_reducible show wpAny _ _ (call (Value.ref 155) [Value.int _ _, Value.int _ _] _) _ _ _); (refine top_spec (Gd.keeps (by assumption) (Fr.toKp (by assumption))) ⟨rfl, Nat.le_of_ble_eq_true rfl, Nat.le_of_ble_eq_true rfl, rfl, rfl⟩ ?_); intro hZq tkZq tZq kZq; (have FZq := Fr.kp (by assumption) kZq); (have NZq := News.kp (by assumption) kZq); (try k_sweep)) | ((with_reducible show wpAny _ _ (call (Value.builtin "len") [Value.ref _]) _ _ _); refine Calls.call_len_list (Heap.IsList.at (by assumption) fun o e => Fr.keep (by assumption) _ _ e) (by simp only [List.size_toArray]; first | exact lt63 (by assumption) (by exact rfl) | omega) ?_) | ((with_reducible show wpAny _ _ (call (Value.builtin "list.append") [Value.ref _, _]) _ _ _); k_dflt (refine append_K (by k_asm) (by k_asm) (by k_upd) ?_ (by simp only [sizeLine_eq]; first | exact leK (by assumption) (by exact rfl) | omega)); intro hZq FZq NZq; (try k_sweep)) | walk1))
  all_goals dsimp only at *
  rename Fr _ _ _ _ => F₁
  rename News _ _ _ _ => N₁
  rename IsRange _ _ _ _ _ _ _ _ => hR
  rename_i D _ _ _ _ _ _ hlen _ _ _ _ _ _
  have hiL : IntsAre vs ds := by assumption
  have hdl : ds.length ≤ 100 := by rw [← hiL.length]; exact hn
  refine for_rangeI hR rfl (by decide) (by decide) (ar_lo _) (ar_hi hdl) F₁ N₁ (ClA D a ds) ?_ ?_ ?_ ?_
  · focus (rintro I i m₁ news₁ hP0 p hp; refine hid fun hGo => ?_; rcases hP0 with ⟨hlt, _, _, _, _, _, rfl, _⟩; all_goals (refine hGo ?_; clear hGo))
    rw [List.mem_singleton.mp hp]
    exact Nat.ne_of_lt hlt
  · intro I hI _
    exact ⟨hI _ (.head _), none, none, none, _, _, rfl, by simpa using hn, by simpa using hiL, (mset rfl).trans ((mset rfl).trans (mset rfl))⟩
  · focus (rintro I i t m₁ news₁ h tk oI hI hLI hi hP0 F₂ N₂; refine hid fun hGo => ?_; rcases hP0 with ⟨hlt, ut, uj, uk, us, n, rfl, hsz, hus, rfl⟩; all_goals (refine hGo ?_; clear hGo))
    have hi : i < ds.length := by simpa using hi
    have hiv : i < vs.length := by rw [hiL.length]; exact hi
    refine opq ?_
    intro Q₃ h₃
    repeat' (first | ((with_reducible show wpAny _ _ (execs (_ :: _) _) _ _ _); refine execs_seq ?_; intro QZs hnZs hrZs hbZs hcZs) | (refine hnZs _ ?_; clear hnZs hrZs hbZs hcZs) | (refine hrZs _ _ ?_) | (refine hbZs _ ?_) | (refine hcZs _ ?_) | ((with_reducible show wpAny _ _ (subscriptTail _ _ (Value.ref _) (Value.int _ _)) _ _ _); (with_unfolding_all refine item_list_ints (by is_list) (by l_ints) (by first | with_reducible assumption | l_idx) (by first | with_reducible assumption | l_idx) (by first | with_reducible assumption | l_idx) ?_); intro tZq) | ((with_reducible show wpAny _ _ (call (Value.ref 155) [Value.int _ _, Value.int _ _] _) _ _ _); (refine top_spec (Gd.keeps (by assumption) (Fr.toKp (by assumption))) ⟨rfl, Nat.le_of_ble_eq_true rfl, Nat.le_of_ble_eq_true rfl, rfl, rfl⟩ ?_); intro hZq tkZq tZq kZq; (have FZq := Fr.kp (by assumption) kZq); (have NZq := News.kp (by assumption) kZq); (try k_sweep)) | ((with_reducible show wpAny _ _ (call (Value.builtin "len") [Value.ref _]) _ _ _); refine Calls.call_len_list (Heap.IsList.at (by assumption) fun o e => Fr.keep (by assumption) _ _ e) (by simp only [List.size_toArray]; first | exact lt63 (by assumption) (by exact rfl) | omega) ?_) | ((with_reducible show wpAny _ _ (call (Value.builtin "list.append") [Value.ref _, _]) _ _ _); k_dflt (refine append_K (by k_asm) (by k_asm) (by k_upd) ?_ (by simp only [sizeLine_eq]; first | exact leK (by assumption) (by exact rfl) | omega)); intro hZq FZq NZq; (try k_sweep)) | walk1 | (dsimp only; first | ((with_reducible show wpAny _ _ (execs (_ :: _) _) _ _ _); refine execs_seq ?_; intro QZs hnZs hrZs hbZs hcZs) | (refine hnZs _ ?_; clear hnZs hrZs hbZs hcZs) | (refine hrZs _ _ ?_) | (refine hbZs _ ?_) | (refine hcZs _ ?_) | ((with_reducible show wpAny _ _ (subscriptTail _ _ (Value.ref _) (Value.int _ _)) _ _ _); (with_unfolding_all refine item_list_ints (by is_list) (by l_ints) (by first | with_reducible assumption | l_idx) (by first | with_reducible assumption | l_idx) (by first | with_reducible assumption | l_idx) ?_); intro tZq) | ((with_reducible show wpAny _ _ (call (Value.ref 155) [Value.int _ _, Value.int _ _] _) _ _ _); (refine top_spec (Gd.keeps (by assumption) (Fr.toKp (by assumption))) ⟨rfl, Nat.le_of_ble_eq_true rfl, Nat.le_of_ble_eq_true rfl, rfl, rfl⟩ ?_); intro hZq tkZq tZq kZq; (have FZq := Fr.kp (by assumption) kZq); (have NZq := News.kp (by assumption) kZq); (try k_sweep)) | ((with_reducible show wpAny _ _ (call (Value.builtin "len") [Value.ref _]) _ _ _); refine Calls.call_len_list (Heap.IsList.at (by assumption) fun o e => Fr.keep (by assumption) _ _ e) (by simp only [List.size_toArray]; first | exact lt63 (by assumption) (by exact rfl) | omega) ?_) | ((with_reducible show wpAny _ _ (call (Value.builtin "list.append") [Value.ref _, _]) _ _ _); k_dflt (refine append_K (by k_asm) (by k_asm) (by k_upd) ?_ (by simp only [sizeLine_eq]; first | exact leK (by assumption) (by exact rfl) | omega)); intro hZq FZq NZq; (try k_sweep)) | walk1))
    refine h₃ _ _ ?_
    clear h₃
    refine execs_seq ?_
    intro Q₃ hn₃ hr₃ hb₃ hc₃
    refine wpAny_For ?_ (by intro _; rfl)
    refine opq ?_
    intro Q₄ h₄
    repeat' (first | ((with_reducible show wpAny _ _ (execs (_ :: _) _) _ _ _); refine execs_seq ?_; intro QZs hnZs hrZs hbZs hcZs) | (refine hnZs _ ?_; clear hnZs hrZs hbZs hcZs) | (refine hrZs _ _ ?_) | (refine hbZs _ ?_) | (refine hcZs _ ?_) | ((with_reducible show wpAny _ _ (subscriptTail _ _ (Value.ref _) (Value.int _ _)) _ _ _); (with_unfolding_all refine item_list_ints (by is_list) (by l_ints) (by first | with_reducible assumption | l_idx) (by first | with_reducible assumption | l_idx) (by first | with_reducible assumption | l_idx) ?_); intro tZq) | ((with_reducible show wpAny _ _ (call (Value.ref 155) [Value.int _ _, Value.int _ _] _) _ _ _); (refine top_spec (Gd.keeps (by assumption) (Fr.toKp (by assumption))) ⟨rfl, Nat.le_of_ble_eq_true rfl, Nat.le_of_ble_eq_true rfl, rfl, rfl⟩ ?_); intro hZq tkZq tZq kZq; (have FZq := Fr.kp (by assumption) kZq); (have NZq := News.kp (by assumption) kZq); (try k_sweep)) | ((with_reducible show wpAny _ _ (call (Value.builtin "len") [Value.ref _]) _ _ _); refine Calls.call_len_list (Heap.IsList.at (by assumption) fun o e => Fr.keep (by assumption) _ _ e) (by simp only [List.size_toArray]; first | exact lt63 (by assumption) (by exact rfl) | omega) ?_) | ((with_reducible show wpAny _ _ (call (Value.builtin "list.append") [Value.ref _, _]) _ _ _); k_dflt (refine append_K (by k_asm) (by k_asm) (by k_upd) ?_ (by simp only [sizeLine_eq]; first | exact leK (by assumption) (by exact rfl) | omega)); intro hZq FZq NZq; (try k_sweep)) | walk1 | (dsimp only; first | ((with_reducible show wpAny _ _ (execs (_ :: _) _) _ _ _); refine execs_seq ?_; intro QZs hnZs hrZs hbZs hcZs) | (refine hnZs _ ?_; clear hnZs hrZs hbZs hcZs) | (refine hrZs _ _ ?_) | (refine hbZs _ ?_) | (refine hcZs _ ?_) | ((with_reducible show wpAny _ _ (subscriptTail _ _ (Value.ref _) (Value.int _ _)) _ _ _); (with_unfolding_all refine item_list_ints (by is_list) (by l_ints) (by first | with_reducible assumption | l_idx) (by first | with_reducible assumption | l_idx) (by first | with_reducible assumption | l_idx) ?_); intro tZq) | ((with_reducible show wpAny _ _ (call (Value.ref 155) [Value.int _ _, Value.int _ _] _) _ _ _); (refine top_spec (Gd.keeps (by assumption) (Fr.toKp (by assumption))) ⟨rfl, Nat.le_of_ble_eq_true rfl, Nat.le_of_ble_eq_true rfl, rfl, rfl⟩ ?_); intro hZq tkZq tZq kZq; (have FZq := Fr.kp (by assumption) kZq); (have NZq := News.kp (by assumption) kZq); (try k_sweep)) | ((with_reducible show wpAny _ _ (call (Value.builtin "len") [Value.ref _]) _ _ _); refine Calls.call_len_list (Heap.IsList.at (by assumption) fun o e => Fr.keep (by assumption) _ _ e) (by simp only [List.size_toArray]; first | exact lt63 (by assumption) (by exact rfl) | omega) ?_) | ((with_reducible show wpAny _ _ (call (Value.builtin "list.append") [Value.ref _, _]) _ _ _); k_dflt (refine append_K (by k_asm) (by k_asm) (by k_upd) ?_ (by simp only [sizeLine_eq]; first | exact leK (by assumption) (by exact rfl) | omega)); intro hZq FZq NZq; (try k_sweep)) | walk1))
    refine h₄ _ _ ?_
    clear h₄
    all_goals dsimp only at *
    rename Fr _ _ _ _ => F₃
    rename News _ _ _ _ => N₃
    rename IsRange _ _ _ _ _ _ _ _ => hR₃
    have hsum : ∀ j, (List.range (j + 1)).foldl (fun r j => addI r (topI (ds.getD i 0) (ds.getD (i + 1 + j) 0))) ((List.range i).foldl (fun r k => closedRow ds r k) ds) = addI ((List.range j).foldl (fun r j => addI r (topI (ds.getD i 0) (ds.getD (i + 1 + j) 0))) ((List.range i).foldl (fun r k => closedRow ds r k) ds)) (topI (ds.getD i 0) (ds.getD (i + 1 + j) 0)) := by
      intro j; rw [List.range_succ, List.foldl_append]; rfl
    refine for_rangeI hR₃ rfl (ar_lo1 _) (ar_hi1 hiv hn) (ar_lo _) (ar_hi hn) F₃ N₃ (ClB D I a i oI t ds) ?_ ?_ ?_ ?_
    · focus (rintro I' j m₁ news₁ hP0 p hp; refine hid fun hGo => ?_; rcases hP0 with ⟨hlt, hlt', _, _, _, _, rfl, _⟩; all_goals (refine hGo ?_; clear hGo))
      focus (refine hid fun hGo => ?_; rcases List.mem_cons.mp hp with rfl | hp; all_goals (refine hGo ?_; clear hGo))
      · exact Nat.ne_of_lt hlt'
      · rw [List.mem_singleton.mp hp]; exact Nat.ne_of_lt hlt
    · intro I' hI' _
      refine ⟨hI' _ (.tail _ (.head _)), hI' _ (.head _), ut, uj, us, n, rfl, hsz, by assumption, ?_⟩
      ((funext y; (repeat' split) <;> first | rfl | contradiction | (subst_vars; first | rfl | (exfalso; simp +decide at *; done) | (simp_all +decide; done))))
    · focus (rintro I' j t' m₁ news₁ h' tk' oI' hI' hLI' hj hP0 F₄ N₄; refine hid fun hGo => ?_; rcases hP0 with ⟨hlt₁, hlt₂, ut, uj, us, n, rfl, hsz, hus, rfl⟩; all_goals (refine hGo ?_; clear hGo))
      have hjv : i + 1 + j < vs.length := ar_ij hj
      have hj' : i + 1 + j < ds.length := by rw [← hiL.length]; exact hjv
      have e1 := ar_n0 i
      have e2 := ar_n1 i j
      have f1 := ar_0i i
      have f2 := ar_0ij i j
      have f3 := ar_ni hi
      have f4 := ar_nij hj'
      have f5 := ar_i63 hi hdl
      have f6 := ar_ij63 hj' hdl
      have hz := ar_sz hsz hj' hdl
      repeat' (first | ((with_reducible show wpAny _ _ (execs (_ :: _) _) _ _ _); refine execs_seq ?_; intro QZs hnZs hrZs hbZs hcZs) | (refine hnZs _ ?_; clear hnZs hrZs hbZs hcZs) | (refine hrZs _ _ ?_) | (refine hbZs _ ?_) | (refine hcZs _ ?_) | ((with_reducible show wpAny _ _ (subscriptTail _ _ (Value.ref _) (Value.int _ _)) _ _ _); (with_unfolding_all refine item_list_ints (by is_list) (by l_ints) (by first | with_reducible assumption | l_idx) (by first | with_reducible assumption | l_idx) (by first | with_reducible assumption | l_idx) ?_); intro tZq) | ((with_reducible show wpAny _ _ (call (Value.ref 155) [Value.int _ _, Value.int _ _] _) _ _ _); (refine top_spec (Gd.keeps (by assumption) (Fr.toKp (by assumption))) ⟨rfl, Nat.le_of_ble_eq_true rfl, Nat.le_of_ble_eq_true rfl, rfl, rfl⟩ ?_); intro hZq tkZq tZq kZq; (have FZq := Fr.kp (by assumption) kZq); (have NZq := News.kp (by assumption) kZq); (try k_sweep)) | ((with_reducible show wpAny _ _ (call (Value.builtin "len") [Value.ref _]) _ _ _); refine Calls.call_len_list (Heap.IsList.at (by assumption) fun o e => Fr.keep (by assumption) _ _ e) (by simp only [List.size_toArray]; first | exact lt63 (by assumption) (by exact rfl) | omega) ?_) | ((with_reducible show wpAny _ _ (call (Value.builtin "list.append") [Value.ref _, _]) _ _ _); k_dflt (refine append_K (by k_asm) (by k_asm) (by k_upd) ?_ (by simp only [sizeLine_eq]; first | exact leK (by assumption) (by exact rfl) | omega)); intro hZq FZq NZq; (try k_sweep)) | walk1 | (dsimp only; first | ((with_reducible show wpAny _ _ (execs (_ :: _) _) _ _ _); refine execs_seq ?_; intro QZs hnZs hrZs hbZs hcZs) | (refine hnZs _ ?_; clear hnZs hrZs hbZs hcZs) | (refine hrZs _ _ ?_) | (refine hbZs _ ?_) | (refine hcZs _ ?_) | ((with_reducible show wpAny _ _ (subscriptTail _ _ (Value.ref _) (Value.int _ _)) _ _ _); (with_unfolding_all refine item_list_ints (by is_list) (by l_ints) (by first | with_reducible assumption | l_idx) (by first | with_reducible assumption | l_idx) (by first | with_reducible assumption | l_idx) ?_); intro tZq) | ((with_reducible show wpAny _ _ (call (Value.ref 155) [Value.int _ _, Value.int _ _] _) _ _ _); (refine top_spec (Gd.keeps (by assumption) (Fr.toKp (by assumption))) ⟨rfl, Nat.le_of_ble_eq_true rfl, Nat.le_of_ble_eq_true rfl, rfl, rfl⟩ ?_); intro hZq tkZq tZq kZq; (have FZq := Fr.kp (by assumption) kZq); (have NZq := News.kp (by assumption) kZq); (try k_sweep)) | ((with_reducible show wpAny _ _ (call (Value.builtin "len") [Value.ref _]) _ _ _); refine Calls.call_len_list (Heap.IsList.at (by assumption) fun o e => Fr.keep (by assumption) _ _ e) (by simp only [List.size_toArray]; first | exact lt63 (by assumption) (by exact rfl) | omega) ?_) | ((with_reducible show wpAny _ _ (call (Value.builtin "list.append") [Value.ref _, _]) _ _ _); k_dflt (refine append_K (by k_asm) (by k_asm) (by k_upd) ?_ (by simp only [sizeLine_eq]; first | exact leK (by assumption) (by exact rfl) | omega)); intro hZq FZq NZq; (try k_sweep)) | walk1))
      all_goals clear f1 f2 f3 f4 f5 f6 hz hjv
      all_goals dsimp only at *
      · refine TurnEnd.go (by assumption) (by assumption) ⟨hlt₁, hlt₂, _, _, us, n, rfl, Nat.le_succ_of_le hsz, ?_, by ((funext y; (repeat' split) <;> first | rfl | contradiction | (subst_vars; first | rfl | (exfalso; simp +decide at *; done) | (simp_all +decide; done))))⟩
        rw [hsum, addI, if_pos]
        · exact hus
        · simp only [e1, e2] at *; exact mem_any (by assumption)
      · refine TurnEnd.go (by assumption) (by assumption) ⟨hlt₁, hlt₂, _, _, _, _, rfl, ?_, ?_, by ((funext y; (repeat' split) <;> first | rfl | contradiction | (subst_vars; first | rfl | (exfalso; simp +decide at *; done) | (simp_all +decide; done))))⟩
        · rw [Array.size_push]; exact Nat.succ_le_succ hsz
        · rw [hsum, addI, if_neg]
          · rw [e1, e2]; exact intsAre_push hus
          · simp only [e1, e2] at *; exact not_mem_any (by assumption)
    · focus (rintro I' m₁ news₁ h' tk' hP0 F₄ N₄; refine hid fun hGo => ?_; rcases hP0 with ⟨hlt₁, hlt₂, ut, uj, us, n, rfl, hsz, hus, rfl⟩; all_goals (refine hGo ?_; clear hGo))
      refine hn₃ _ ?_
      repeat' (first | ((with_reducible show wpAny _ _ (execs (_ :: _) _) _ _ _); refine execs_seq ?_; intro QZs hnZs hrZs hbZs hcZs) | (refine hnZs _ ?_; clear hnZs hrZs hbZs hcZs) | (refine hrZs _ _ ?_) | (refine hbZs _ ?_) | (refine hcZs _ ?_) | ((with_reducible show wpAny _ _ (subscriptTail _ _ (Value.ref _) (Value.int _ _)) _ _ _); (with_unfolding_all refine item_list_ints (by is_list) (by l_ints) (by first | with_reducible assumption | l_idx) (by first | with_reducible assumption | l_idx) (by first | with_reducible assumption | l_idx) ?_); intro tZq) | ((with_reducible show wpAny _ _ (call (Value.ref 155) [Value.int _ _, Value.int _ _] _) _ _ _); (refine top_spec (Gd.keeps (by assumption) (Fr.toKp (by assumption))) ⟨rfl, Nat.le_of_ble_eq_true rfl, Nat.le_of_ble_eq_true rfl, rfl, rfl⟩ ?_); intro hZq tkZq tZq kZq; (have FZq := Fr.kp (by assumption) kZq); (have NZq := News.kp (by assumption) kZq); (try k_sweep)) | ((with_reducible show wpAny _ _ (call (Value.builtin "len") [Value.ref _]) _ _ _); refine Calls.call_len_list (Heap.IsList.at (by assumption) fun o e => Fr.keep (by assumption) _ _ e) (by simp only [List.size_toArray]; first | exact lt63 (by assumption) (by exact rfl) | omega) ?_) | ((with_reducible show wpAny _ _ (call (Value.builtin "list.append") [Value.ref _, _]) _ _ _); k_dflt (refine append_K (by k_asm) (by k_asm) (by k_upd) ?_ (by simp only [sizeLine_eq]; first | exact leK (by assumption) (by exact rfl) | omega)); intro hZq FZq NZq; (try k_sweep)) | walk1 | (dsimp only; first | ((with_reducible show wpAny _ _ (execs (_ :: _) _) _ _ _); refine execs_seq ?_; intro QZs hnZs hrZs hbZs hcZs) | (refine hnZs _ ?_; clear hnZs hrZs hbZs hcZs) | (refine hrZs _ _ ?_) | (refine hbZs _ ?_) | (refine hcZs _ ?_) | ((with_reducible show wpAny _ _ (subscriptTail _ _ (Value.ref _) (Value.int _ _)) _ _ _); (with_unfolding_all refine item_list_ints (by is_list) (by l_ints) (by first | with_reducible assumption | l_idx) (by first | with_reducible assumption | l_idx) (by first | with_reducible assumption | l_idx) ?_); intro tZq) | ((with_reducible show wpAny _ _ (call (Value.ref 155) [Value.int _ _, Value.int _ _] _) _ _ _); (refine top_spec (Gd.keeps (by assumption) (Fr.toKp (by assumption))) ⟨rfl, Nat.le_of_ble_eq_true rfl, Nat.le_of_ble_eq_true rfl, rfl, rfl⟩ ?_); intro hZq tkZq tZq kZq; (have FZq := Fr.kp (by assumption) kZq); (have NZq := News.kp (by assumption) kZq); (try k_sweep)) | ((with_reducible show wpAny _ _ (call (Value.builtin "len") [Value.ref _]) _ _ _); refine Calls.call_len_list (Heap.IsList.at (by assumption) fun o e => Fr.keep (by assumption) _ _ e) (by simp only [List.size_toArray]; first | exact lt63 (by assumption) (by exact rfl) | omega) ?_) | ((with_reducible show wpAny _ _ (call (Value.builtin "list.append") [Value.ref _, _]) _ _ _); k_dflt (refine append_K (by k_asm) (by k_asm) (by k_upd) ?_ (by simp only [sizeLine_eq]; first | exact leK (by assumption) (by exact rfl) | omega)); intro hZq FZq NZq; (try k_sweep)) | walk1))
      refine TurnEnd.go F₄ N₄ ⟨hlt, ut, uj, (some (.int (0 + (i : Int)) t)), us, n, rfl, ar_row hsz hn, ?_, ?_⟩
      · rw [List.range_succ, List.foldl_append]
        simp only [List.foldl_cons, List.foldl_nil]
        rw [closedRow]
        rw [← hiL.length, ar_e]; exact hus
      · rfl
  · focus (rintro I m₁ news₁ h tk hP0 F₂ N₂; refine hid fun hGo => ?_; rcases hP0 with ⟨hlt, ut, uj, uk, us, n, rfl, hsz, hus, rfl⟩; all_goals (refine hGo ?_; clear hGo))
    refine hn₂ _ ?_
    repeat' (first | ((with_reducible show wpAny _ _ (execs (_ :: _) _) _ _ _); refine execs_seq ?_; intro QZs hnZs hrZs hbZs hcZs) | (refine hnZs _ ?_; clear hnZs hrZs hbZs hcZs) | (refine hrZs _ _ ?_) | (refine hbZs _ ?_) | (refine hcZs _ ?_) | ((with_reducible show wpAny _ _ (subscriptTail _ _ (Value.ref _) (Value.int _ _)) _ _ _); (with_unfolding_all refine item_list_ints (by is_list) (by l_ints) (by first | with_reducible assumption | l_idx) (by first | with_reducible assumption | l_idx) (by first | with_reducible assumption | l_idx) ?_); intro tZq) | ((with_reducible show wpAny _ _ (call (Value.ref 155) [Value.int _ _, Value.int _ _] _) _ _ _); (refine top_spec (Gd.keeps (by assumption) (Fr.toKp (by assumption))) ⟨rfl, Nat.le_of_ble_eq_true rfl, Nat.le_of_ble_eq_true rfl, rfl, rfl⟩ ?_); intro hZq tkZq tZq kZq; (have FZq := Fr.kp (by assumption) kZq); (have NZq := News.kp (by assumption) kZq); (try k_sweep)) | ((with_reducible show wpAny _ _ (call (Value.builtin "len") [Value.ref _]) _ _ _); refine Calls.call_len_list (Heap.IsList.at (by assumption) fun o e => Fr.keep (by assumption) _ _ e) (by simp only [List.size_toArray]; first | exact lt63 (by assumption) (by exact rfl) | omega) ?_) | ((with_reducible show wpAny _ _ (call (Value.builtin "list.append") [Value.ref _, _]) _ _ _); k_dflt (refine append_K (by k_asm) (by k_asm) (by k_upd) ?_ (by simp only [sizeLine_eq]; first | exact leK (by assumption) (by exact rfl) | omega)); intro hZq FZq NZq; (try k_sweep)) | walk1 | (dsimp only; first | ((with_reducible show wpAny _ _ (execs (_ :: _) _) _ _ _); refine execs_seq ?_; intro QZs hnZs hrZs hbZs hcZs) | (refine hnZs _ ?_; clear hnZs hrZs hbZs hcZs) | (refine hrZs _ _ ?_) | (refine hbZs _ ?_) | (refine hcZs _ ?_) | ((with_reducible show wpAny _ _ (subscriptTail _ _ (Value.ref _) (Value.int _ _)) _ _ _); (with_unfolding_all refine item_list_ints (by is_list) (by l_ints) (by first | with_reducible assumption | l_idx) (by first | with_reducible assumption | l_idx) (by first | with_reducible assumption | l_idx) ?_); intro tZq) | ((with_reducible show wpAny _ _ (call (Value.ref 155) [Value.int _ _, Value.int _ _] _) _ _ _); (refine top_spec (Gd.keeps (by assumption) (Fr.toKp (by assumption))) ⟨rfl, Nat.le_of_ble_eq_true rfl, Nat.le_of_ble_eq_true rfl, rfl, rfl⟩ ?_); intro hZq tkZq tZq kZq; (have FZq := Fr.kp (by assumption) kZq); (have NZq := News.kp (by assumption) kZq); (try k_sweep)) | ((with_reducible show wpAny _ _ (call (Value.builtin "len") [Value.ref _]) _ _ _); refine Calls.call_len_list (Heap.IsList.at (by assumption) fun o e => Fr.keep (by assumption) _ _ e) (by simp only [List.size_toArray]; first | exact lt63 (by assumption) (by exact rfl) | omega) ?_) | ((with_reducible show wpAny _ _ (call (Value.builtin "list.append") [Value.ref _, _]) _ _ _); k_dflt (refine append_K (by k_asm) (by k_asm) (by k_upd) ?_ (by simp only [sizeLine_eq]; first | exact leK (by assumption) (by exact rfl) | omega)); intro hZq FZq NZq; (try k_sweep)) | walk1))
    have hm := N₂ _ (.head _)
    refine hQ _ _ _ _ _ (Fr.toKp F₂) hm.2.2 hm.1 ?_
    simpa [closedL] using hus

noncomputable def digS (d : Nat) : Str := if d = 0 then ⟨#[48]⟩ else ⟨#[49]⟩
theorem dig_eq (n : Nat) : Str.ofString (toString ((n : Int).fmod 2)) = digS (n % 2) := by
  have h : (n : Int).fmod 2 = ((n % 2 : Nat) : Int) := by rw [Int.fmod_eq_emod_of_nonneg _ (by decide)]; lia
  rw [h]
  rcases Nat.mod_two_eq_zero_or_one n with e | e <;> rw [e] <;> decide +kernel
theorem digS_length (d : Nat) : (digS d).length = 1 := by unfold digS; split <;> rfl
theorem fit_word {n k : Nat} {x : Str} (hx : x.length + k ≤ 6) : (Str.ofString (toString ((n : Int).fmod 2))).length + x.length ≤ sizeLine := by
  rw [dig_eq, digS_length, sizeLine_eq]; lia
noncomputable def wordF : Nat → Nat → Str → Str
  | 0, _, x => x
  | f + 1, n, x => if n = 0 then x else wordF f (n / 2) (digS (n % 2) ++ x)
noncomputable def wordS (n : Int) : Str := wordF 6 n.toNat (Str.ofString "")

inductive WdJ (n : Int) (k : Nat) (m₁ : Str → Option Value) (news₁ : List (Addr × Obj)) : Prop
  | mk (e1 : news₁ = []) (n' : Nat) (x : Str) (t tx : Tok) (e2 : n' < 2 ^ k) (e3 : wordF k n' x = wordS n) (e4 : x.length + k ≤ 6) (e5 : m₁ = fun y => if y = Str.ofString "word" then some (.str x tx) else if y = Str.ofString "number" then some (.int (n' : Int) t) else none) : WdJ n k m₁ news₁
theorem word_spec {w : World} {A : Around} {s : Shared} {n : Int} {t : Tok} {Q : Value → Shared → Prop} {E : Value → Shared → Prop}
    (G : Gd w s.heap) (hA : Le A (std 980 8000)) (h0 : 0 ≤ n) (h1 : n < 64)
    (hQ : ∀ h' tk t', Kp s.heap h' → Q (.str (wordS n) t') { s with heap := h', toks := tk }) :
    wpAny (model PP w) A (call (.ref 174) [.int n t]) Q E s := by
  refine wpAny_le hA ?_
  have X := G.X
  focus (refine hid fun hGo => ?_; obtain ⟨mg, mb, T⟩ := G.T; all_goals (refine hGo ?_; clear hGo))
  refine enter (binds := [(Str.ofString "number", .int n t)]) G (by decide) (by k_is) (by k_is) (BindsTo.of_eq rfl) (by decide) (locs rfl) ?_
  intro h₁ L tk F N
  refine execs_seq ?_
  intro Q₁ hn₁ hr₁ hb₁ hc₁
  repeat' (first | ((with_reducible show wpAny _ _ (binaryOp Operator.Add (Value.str (Str.ofString (toString (Int.fmod _ 2))) _) (Value.str _ _)) _ _ _); (refine add_str ?_ (fit_word (by assumption))); intro tZq tkZq) | walk1 | (dsimp only; first | ((with_reducible show wpAny _ _ (binaryOp Operator.Add (Value.str (Str.ofString (toString (Int.fmod _ 2))) _) (Value.str _ _)) _ _ _); (refine add_str ?_ (fit_word (by assumption))); intro tZq tkZq) | walk1))
  refine hn₁ _ ?_
  clear hn₁ hr₁ hb₁ hc₁
  refine execs_seq ?_
  intro Q₂ hn₂ hr₂ hb₂ hc₂
  refine wpAny_While ?_
  rename Fr _ _ _ _ => F₁
  rename News _ _ _ _ => N₁
  refine while_rule (k := 6) (WdJ n) F₁ N₁ ?_ ?_
  · refine ⟨rfl, n.toNat, Str.ofString "", t, tk, by lia, rfl, Nat.le_refl _, ?_⟩
    rw [Int.toNat_of_nonneg h0]
    ((funext y; (repeat' split) <;> first | rfl | contradiction | (subst_vars; first | rfl | (exfalso; simp +decide at *; done) | (simp_all +decide; done))))
  · focus (rintro k m₁ news₁ h tk hP0 F₂ N₂; refine hid fun hGo => ?_; rcases hP0 with ⟨rfl, n', x, t, tx, hn', hw, hx, rfl⟩; all_goals (refine hGo ?_; clear hGo))
    refine opq ?_
    intro Q₃ h₃
    repeat' (first | ((with_reducible show wpAny _ _ (binaryOp Operator.Add (Value.str (Str.ofString (toString (Int.fmod _ 2))) _) (Value.str _ _)) _ _ _); (refine add_str ?_ (fit_word (by assumption))); intro tZq tkZq) | walk1 | (dsimp only; first | ((with_reducible show wpAny _ _ (binaryOp Operator.Add (Value.str (Str.ofString (toString (Int.fmod _ 2))) _) (Value.str _ _)) _ _ _); (refine add_str ?_ (fit_word (by assumption))); intro tZq tkZq) | walk1))
    refine h₃ _ _ ?_
    split
    · rename_i hpos
      have hpos : 0 < n' := by simpa using hpos
      repeat' (first | ((with_reducible show wpAny _ _ (binaryOp Operator.Add (Value.str (Str.ofString (toString (Int.fmod _ 2))) _) (Value.str _ _)) _ _ _); (refine add_str ?_ (fit_word (by assumption))); intro tZq tkZq) | walk1 | (dsimp only; first | ((with_reducible show wpAny _ _ (binaryOp Operator.Add (Value.str (Str.ofString (toString (Int.fmod _ 2))) _) (Value.str _ _)) _ _ _); (refine add_str ?_ (fit_word (by assumption))); intro tZq tkZq) | walk1))
      all_goals dsimp only at *
      obtain ⟨k, rfl⟩ : ∃ j, k = j + 1 := ⟨k - 1, by rcases k with _ | k <;> simp at hn' ⊢; lia⟩
      refine ⟨k, Nat.lt_succ_self k, _, _, _, _, rfl, by assumption, by assumption, rfl, n' / 2, digS (n' % 2) ++ x, tk + 1, tZq, ?_, ?_, ?_, ?hm⟩
      case hm =>
        have e : (n' : Int).fdiv 2 = ((n' / 2 : Nat) : Int) := by rw [Int.fdiv_eq_ediv_of_nonneg _ (by decide)]; lia
        rw [e, dig_eq]
        ((funext y; (repeat' split) <;> first | rfl | contradiction | (subst_vars; first | rfl | (exfalso; simp +decide at *; done) | (simp_all +decide; done))))
      · rw [Nat.pow_succ] at hn'; lia
      · rw [← hw, wordF, if_neg (by lia)]
      · rw [Str.length_append, digS_length]; lia
    · rename_i hpos
      have hpos : n' = 0 := by simpa using hpos
      subst hpos
      repeat' (first | ((with_reducible show wpAny _ _ (binaryOp Operator.Add (Value.str (Str.ofString (toString (Int.fmod _ 2))) _) (Value.str _ _)) _ _ _); (refine add_str ?_ (fit_word (by assumption))); intro tZq tkZq) | walk1 | (dsimp only; first | ((with_reducible show wpAny _ _ (binaryOp Operator.Add (Value.str (Str.ofString (toString (Int.fmod _ 2))) _) (Value.str _ _)) _ _ _); (refine add_str ?_ (fit_word (by assumption))); intro tZq tkZq) | walk1))
      all_goals dsimp only at *
      refine hn₂ _ ?_
      repeat' (first | ((with_reducible show wpAny _ _ (binaryOp Operator.Add (Value.str (Str.ofString (toString (Int.fmod _ 2))) _) (Value.str _ _)) _ _ _); (refine add_str ?_ (fit_word (by assumption))); intro tZq tkZq) | walk1 | (dsimp only; first | ((with_reducible show wpAny _ _ (binaryOp Operator.Add (Value.str (Str.ofString (toString (Int.fmod _ 2))) _) (Value.str _ _)) _ _ _); (refine add_str ?_ (fit_word (by assumption))); intro tZq tkZq) | walk1))
      have hx : x = wordS n := by rw [← hw]; cases k <;> rfl
      rw [← hx] at hQ
      exact hQ _ _ _ (Fr.toKp F₂)

/-- the object of a frame's names -/
noncomputable def NsO (o : Obj) (m : Str → Option Value) : Prop := ∀ h : Heap, ∀ a, h.get? a = some o → h.Ns a m

theorem Fr.obj {hb h : Heap} {L : Addr} {m : Str → Option Value} (F : Fr hb L h m) : ∃ o, h.get? L = some o ∧ ∀ (h' : Heap) (o' : Obj), h'.get? L = some o' → o'.data = o.data → h'.Ns L m := by
  focus (refine hid fun hGo => ?_; obtain ⟨o, es, ep, ho, hd, r⟩ := F.ns; all_goals (refine hGo ?_; clear hGo))
  exact ⟨o, ho, fun h' o' ho' hd' => ⟨o', es, ep, ho', hd'.trans hd, r⟩⟩
theorem News.sub {hb h : Heap} {L : Addr} {l l' : List (Addr × Obj)} (N : News hb L h l) (hs : ∀ p ∈ l', p ∈ l) : News hb L h l' := fun p hp => N p (hs p hp)

/-- what a caller's frame is when its callee has come back -/
noncomputable def BackTo (hb : Heap) (L : Addr) (m : Str → Option Value) (oL : Obj) : Prop :=
  ∀ (h' : Heap) (L' : Addr) (m' : Str → Option Value) (o' : Obj), Fr hb L' h' m' → h'.get? L = some o' → o'.data = oL.data → Fr hb L h' m

theorem Fr.backTo {hb h : Heap} {L : Addr} {m : Str → Option Value} (F : Fr hb L h m) : ∃ oL, h.get? L = some oL ∧ BackTo hb L m oL := by
  focus (refine hid fun hGo => ?_; obtain ⟨o, ho, k⟩ := Fr.obj F; all_goals (refine hGo ?_; clear hGo))
  exact ⟨o, ho, fun h' L' m' o' F' ho' hd' => ⟨k h' o' ho' hd', F'.keep, F.above⟩⟩

theorem codeAny_le {M : Model} {A B : Around} {c : Code} {R : Result → Shared → Prop} {s : Shared} (hA : Le A B) (h : codeAny M B c R s) : codeAny M A c R s := by
  focus (refine hid fun hGo => ?_; obtain ⟨h1, h2, h3, h4, h5⟩ := hA; all_goals (refine hGo ?_; clear hGo))
  intro Γ p hc hΓ
  focus (refine hid fun hGo => ?_; obtain ⟨g1, g2, _, _, g5⟩ := hΓ; all_goals (refine hGo ?_; clear hGo))
  refine h Γ p hc ⟨g1.trans h1, Nat.le_trans g2 h2, ?_, ?_, Nat.le_trans g5 h3⟩
  · intro l hl; rw [h4] at hl; cases hl
  · intro l hl; rw [h5] at hl; cases hl

theorem enterC {w : World} {d u : Nat} {fr : Option (List Env)} {s : Shared} {f : Addr} {args : Args} {binds : List (Str × Value)} {oc : Value} {od : Option Addr} {osl : Array (Option Value)}
    {name qual : Str} {params : Arguments} {body : List Stmt} {scope : Scope} {dV kV doc pm cdv ct : Value} {an : Option Addr} {hb : Heap} {L : Addr} {m : Str → Option Value} {news : List (Addr × Obj)}
    {R : Result → Shared → Prop}
    (G : Gd w hb) (F : Fr hb L s.heap m) (N : News hb L s.heap news) (hroom : d < recursionLimit)
    (ho : (hd.heap_39 w.params).lookup f = some ⟨oc, od, .func (fnOf name qual params body scope dV kV doc pm an cdv ct), osl⟩) (hcd : codeIn (hd.heap_39 w.params) cdv qual = true)
    (hbind : BindsTo s (fnOf name qual params body scope dV kV doc pm an cdv ct) args binds) (hcell : ∀ x ∈ scope.names, x.2 ≠ .cell) (hloc : ∀ x ∈ binds, scope.names.lookup x.1 = some .local)
    (h : ∀ h₁ (L' : Nat) tk oL, BackTo hb L m oL → @LT.lt Nat _ L L' → (∀ p ∈ news, @LT.lt Nat _ p.1 L') → Fr hb L' h₁ (fun x => binds.reverse.lookup x) → News hb L' h₁ ((L, oL) :: news) →
      wpAny (model PP w) { handled := none, depth := d + 1, frames := fr.map (envOf qual scope L' f cdv :: ·), guards := none, units := u + 3 } (execs body (envOf qual scope L' f cdv)) (fun fl s' => R (.ok (.ret (match fl with | .ret v => v | _ => .none))) s') (fun _ _ => False) { s with heap := h₁, toks := tk })
    (hco : scope.isCoroutine = false := by rfl) (hgen : scope.isGenerator = false := by rfl) (hk : scope.kind = .function := by rfl) :
    codeAny (model PP w) { handled := none, depth := d, frames := fr, guards := none, units := u } (.call (.ref f) args) R s := by
  have GX := G.keeps F.keep
  focus (refine hid fun hGo => ?_; obtain ⟨mg', mb', T'⟩ := GX.T; all_goals (refine hGo ?_; clear hGo))
  focus (refine hid fun hGo => ?_; obtain ⟨oL, hoL, bk⟩ := Fr.backTo F; all_goals (refine hGo ?_; clear hGo))
  have hLl : @LT.lt Nat _ L s.heap.objs.size := Heap.lt_size hoL
  have hNl : ∀ p ∈ news, @LT.lt Nat _ p.1 s.heap.objs.size := fun p hp => Heap.lt_size (N p hp).1
  have hbL : hb.get? L = none := by
    cases q : hb.get? L with
    | none => rfl
    | some o => exact absurd (Nat.lt_of_lt_of_le (Heap.lt_size q) F.above) (Nat.lt_irrefl _)
  refine codeAny_call_def hroom (GX.X _ _ ho) rfl T'.nolimit (codeRec_of GX.X hcd) rfl hbind hcell hloc (fun h₁ hns hk₁ => ?_) hco hgen hk
  refine wpAny_mono (h h₁ s.heap.objs.size _ oL bk hLl hNl ⟨hns, fun b o e => hk₁ b o (F.keep b o e), Nat.le_trans F.above (Nat.le_of_lt hLl)⟩ ?_) (fun _ _ q => q) (fun _ _ q => q.elim)
  intro p hp
  focus (refine hid fun hGo => ?_; rcases List.mem_cons.mp hp with rfl | hp; all_goals (refine hGo ?_; clear hGo))
  · exact ⟨hk₁ _ _ hoL, Nat.ne_of_lt hLl, hbL⟩
  · exact ⟨hk₁ _ _ (N p hp).1, Nat.ne_of_lt (hNl p hp), (N p hp).2.2⟩

theorem enterB {w : World} {d u : Nat} {fr : Option (List Env)} {s : Shared} {f : Addr} {args : List Value} {kw : List (Str × Value)} {binds : List (Str × Value)} {oc : Value} {od : Option Addr} {osl : Array (Option Value)}
    {name qual : Str} {params : Arguments} {body : List Stmt} {scope : Scope} {dV kV doc pm cdv ct : Value} {an : Option Addr} {hb : Heap} {L : Addr} {m : Str → Option Value} {news : List (Addr × Obj)}
    {Q : Value → Shared → Prop} {E : Value → Shared → Prop}
    (G : Gd w hb) (F : Fr hb L s.heap m) (N : News hb L s.heap news) (hroom : d < recursionLimit)
    (ho : (hd.heap_39 w.params).lookup f = some ⟨oc, od, .func (fnOf name qual params body scope dV kV doc pm an cdv ct), osl⟩) (hcd : codeIn (hd.heap_39 w.params) cdv qual = true)
    (hbind : BindsTo s (fnOf name qual params body scope dV kV doc pm an cdv ct) ⟨args, kw⟩ binds) (hcell : ∀ x ∈ scope.names, x.2 ≠ .cell) (hloc : ∀ x ∈ binds, scope.names.lookup x.1 = some .local)
    (h : ∀ h₁ (L' : Nat) tk oL, BackTo hb L m oL → @LT.lt Nat _ L L' → (∀ p ∈ news, @LT.lt Nat _ p.1 L') → Fr hb L' h₁ (fun x => binds.reverse.lookup x) → News hb L' h₁ ((L, oL) :: news) →
      wpAny (model PP w) { handled := none, depth := d + 1, frames := fr.map (envOf qual scope L' f cdv :: ·), guards := none, units := u + 3 } (execs body (envOf qual scope L' f cdv)) (fun fl s' => Q (match fl with | .ret v => v | _ => .none) s') (fun _ _ => False) { s with heap := h₁, toks := tk })
    (hco : scope.isCoroutine = false := by rfl) (hgen : scope.isGenerator = false := by rfl) (hk : scope.kind = .function := by rfl) :
    wpAny (model PP w) { handled := none, depth := d, frames := fr, guards := none, units := u } (call (.ref f) args kw) Q E s :=
  wpAny_call (enterC G F N hroom ho hcd hbind hcell hloc h hco hgen hk)

/-- back in the caller -/
theorem backN {hb h : Heap} {L L' : Addr} {m m' : Str → Option Value} {oL : Obj} {news : List (Addr × Obj)} (bk : BackTo hb L m oL) (F : Fr hb L' h m') (N : News hb L' h ((L, oL) :: news)) (hne : ∀ p ∈ news, p.1 ≠ L) :
    Fr hb L h m ∧ News hb L h news :=
  ⟨bk h L' m' oL F (N _ (.head _)).1 rfl, fun p hp => ⟨(N p (.tail _ hp)).1, hne p hp, (N p (.tail _ hp)).2.2⟩⟩

/-- a node of the sorter -/
structure Nd where
  k : Int
  kt : Tok
  nt : Tok
  a : Addr
  dx : Addr
  l : Addr
  np : Int
  npt : Tok
  sv : Array Value
  le : Nat
noncomputable def Nd.obj (n : Nd) : Obj := ⟨.ref 40, some n.dx, .plain, #[some (.int n.k n.nt), some (.int n.np n.npt), some (.ref n.l)]⟩
noncomputable def Nd.led (n : Nd) : List (Addr × Obj) := [(n.a, n.obj), (n.dx, dictOf [] 0), (n.l, W.listOf n.sv n.le)]
noncomputable def Nd.foot (n : Nd) : List Addr := [n.a, n.dx, n.l]
noncomputable def nodesLed (ns : List Nd) : List (Addr × Obj) := ns.flatMap Nd.led
noncomputable def nodesFoot (ns : List Nd) : List Addr := ns.flatMap Nd.foot

abbrev soDict (w : World) (t1 t2 t3 t4 : Tok) (d : Addr) (rn po nf : Value) : Obj :=
  dictOf [⟨PyData.keyHash w.params (Str.ofString "_node2info"), .str (Str.ofString "_node2info") t1, .ref d⟩, ⟨PyData.keyHash w.params (Str.ofString "_ready_nodes"), .str (Str.ofString "_ready_nodes") t2, rn⟩,
    ⟨PyData.keyHash w.params (Str.ofString "_npassedout"), .str (Str.ofString "_npassedout") t3, po⟩, ⟨PyData.keyHash w.params (Str.ofString "_nfinished"), .str (Str.ofString "_nfinished") t4, nf⟩] 4

noncomputable def nodesKvs (ns : List Nd) : List (Int × Value) := ns.map fun n => (n.k, Value.ref n.a)

theorem init_spec {w : World} {A : Around} {s : Shared} {hb : Heap} {L : Addr} {m : Str → Option Value} {news : List (Addr × Obj)} {Q : Value → Shared → Prop} {E : Value → Shared → Prop}
    (G : Gd w hb) (F : Fr hb L s.heap m) (N : News hb L s.heap news) (hA : Le A (std 950 5000))
    (hQ : ∀ h' tk (x dx d : Nat) od t1 t2 t3 t4 t5 t6, Fr hb L h' m → News hb L h' ((x, instObj 137 dx) :: (dx, soDict w t1 t2 t3 t4 d .none (.int 0 t5) (.int 0 t6)) :: (d, od) :: news) →
      od.IsDictOf (intKind PP w) [] → (d == sysModules) = false → (∀ p ∈ news, @LT.lt Nat _ p.1 dx) → dx < x → x < d → Q (.ref x) { s with heap := h', toks := tk }) :
    wpAny (model PP w) A (call (.ref 137) []) Q E s := by
  refine wpAny_le hA ?_
  have X := G.X
  focus (refine hid fun hGo => ?_; obtain ⟨mg, mb, T⟩ := G.T; all_goals (refine hGo ?_; clear hGo))
  refine call_cls F X N (by k_is) (by k_is) (by k_is) ?_
  intro x dx h' F' N' l1 l2
  refine codeAny_le (B := std 951 5100) ⟨rfl, Nat.le_of_ble_eq_true rfl, Nat.le_of_ble_eq_true rfl, rfl, rfl⟩ ?_
  refine enterC (binds := [(Str.ofString "self", .ref x), (Str.ofString "graph", .none)]) G F' N' (by decide) (by k_is) (by k_is) (binds_K (G.X.keeps F'.keep) rfl (by k_is) rfl rfl rfl) (by decide) (locs rfl) ?_
  intro h₁ L' tk oL bk hL hN F₁ N₁
  have l2 := ltN l2
  have l3 := hN _ (.head _)
  have l4 := hN _ (.tail _ (.head _))
  have l5 : @Ne Nat dx L := (N' _ (.tail _ (.head _))).2.1
  have l6 : @Ne Nat x L := (N' _ (.head _)).2.1
  repeat' (first | walk1 | (dsimp only; walk1))
  all_goals dsimp only at *
  rename Fr _ _ _ _ => F₂
  rename News _ _ _ _ => N₂
  rename_i d _ od hlo _ _ hod _ hlt _ _ _ _
  refine ⟨rfl, ?_⟩
  have N₃ := pickN (l' := (L, oL) :: (x, instObj 137 dx) :: (dx, _) :: (d, od) :: news) N₂ [1, 2, 3, 0] 4 rfl
  focus (refine hid fun hGo => ?_; obtain ⟨F₄, N₄⟩ := backN bk F₂ N₃ (fmc (N' _ (.head _)).2.1 (fmc (N' _ (.tail _ (.head _))).2.1 (fmc (Nat.ne_of_gt hlt.1) fun p h => (N _ h).2.1))); all_goals (refine hGo ?_; clear hGo))
  exact hQ _ _ x dx d od _ _ _ _ _ _ F₄ N₄ hod hlo l1 l2 hlt.2.1

section
variable {w : World} {A : Around} {s : Shared} {E : Value → Shared → Prop} {hb h : Heap} {L d : Addr} {m : Str → Option Value} {news : List (Addr × Obj)} {od : Obj} {kvs : List (Int × Value)}
theorem dictOf_N (N : News hb L h news) (hm : (d, od) ∈ news) (ho : od.IsDictOf (intKind PP w) kvs) : h.DictOf (intKind PP w) d kvs := Heap.dictOf_iff.mpr ⟨od, (N _ hm).1, ho⟩
theorem dictOf_B (F : Fr hb L h m) (hm : hb.get? d = some od) (ho : od.IsDictOf (intKind PP w) kvs) : h.DictOf (intKind PP w) d kvs := Heap.dictOf_iff.mpr ⟨od, F.keep _ _ hm, ho⟩
theorem dget_get {pl : Sem Bool} {Q : Value × List Value → Shared → Prop} (hD : s.heap.DictOf (intKind PP w) d kvs) (h : Q (.builtin "dict.get", [.ref d]) s) : wpAny (model PP w) A (getMethod (.ref d) "get" pl) Q E s :=
  getMethod_builtin hD.typeIs F.plainAttrs_dict F.slot_dict_get F.type_dict_get hD.mapOf.noDict h
theorem dget_call {k : Int} {t : Tok} {Q : Value → Shared → Prop} (hs : (d == sysModules) = false) (hD : s.heap.DictOf (intKind PP w) d kvs) (h : Q ((valueAt kvs k).getD .none) { s with toks := s.toks + 1 }) :
    wpAny (model PP w) A (call (.builtin "dict.get") [.ref d, .int k t]) Q E s :=
  call_meetsIn F.slot_dict_get hD.typeIs F.entry_dict_get (F.args_dict_get_2 _ _) (meets_dict_get (intKind PP w) d (intKind_is PP w k t) hs) ⟨_, hD.mapOf, h⟩
theorem dget_some {k : Int} {t : Tok} {v : Value} {Q : Value → Shared → Prop} (hs : (d == sysModules) = false) (hD : s.heap.DictOf (intKind PP w) d kvs) (hv : valueAt kvs k = some v) (h : Q v { s with toks := s.toks + 1 }) :
    wpAny (model PP w) A (call (.builtin "dict.get") [.ref d, .int k t]) Q E s := dget_call hs hD (by rw [hv]; exact h)
theorem dget_none {k : Int} {t : Tok} {Q : Value → Shared → Prop} (hs : (d == sysModules) = false) (hD : s.heap.DictOf (intKind PP w) d kvs) (hv : valueAt kvs k = none) (h : Q .none { s with toks := s.toks + 1 }) :
    wpAny (model PP w) A (call (.builtin "dict.get") [.ref d, .int k t]) Q E s := dget_call hs hD (by rw [hv]; exact h)
theorem ditem_tail {value slice : Expr} {k : Int} {t : Tok} {v : Value} {Q : Value → Shared → Prop} (hD : s.heap.DictOf (intKind PP w) d kvs) (hv : valueAt kvs k = some v) (h : Q v { s with toks := s.toks + 1 })
    (hs : subscripted slice false (.ref d) (.int k t) = operate [.ref d, .int k t] (getItem (.ref d) (.int k t)) := by rfl) :
    wpAny (model PP w) A (subscriptTail value slice (.ref d) (.int k t)) Q E s :=
  tail_any hD.mapOf.typeIs slot_dict_getitem.lookup (wpAny_getItem_of (intKind_is PP w k t) hD.mapOf hv h) hs
theorem instAt_B {x C dx : Addr} {o : Obj} {sl : Array (Option Value)} (F : Fr hb L h m) (h1 : hb.get? x = some ⟨.ref C, some dx, .plain, sl⟩) (h2 : hb.get? dx = some o) : InstAt h x ⟨.ref C, some dx, .plain, sl⟩ C (some o) :=
  ⟨F.keep _ _ h1, rfl, rfl, F.keep _ _ h2⟩
end
local macro_rules | `(tactic| k_all) => `(tactic| assumption)
local macro_rules | `(tactic| k_inst) => `(tactic| exact instAt_B ‹_› ‹_› ‹_›)

theorem gni_old {w : World} {A : Around} {s : Shared} {x dx d a : Addr} {od : Obj} {kvs : List (Int × Value)} {t1 t2 t3 t4 t : Tok} {rn po nf : Value} {k : Int} {Q : Value → Shared → Prop} {E : Value → Shared → Prop}
    (G : Gd w s.heap) (hA : Le A (std 980 8000)) (hx : s.heap.get? x = some (instObj 137 dx)) (hdx : s.heap.get? dx = some (soDict w t1 t2 t3 t4 d rn po nf))
    (hd : s.heap.get? d = some od) (hod : od.IsDictOf (intKind PP w) kvs) (hlo : (d == sysModules) = false) (hv : valueAt kvs k = some (.ref a))
    (hQ : ∀ h' tk, Kp s.heap h' → Q (.ref a) { s with heap := h', toks := tk }) :
    wpAny (model PP w) A (call (.ref 80) [.ref x, .int k t]) Q E s := by
  refine wpAny_le hA ?_
  have X := G.X
  focus (refine hid fun hGo => ?_; obtain ⟨mg, mb, T⟩ := G.T; all_goals (refine hGo ?_; clear hGo))
  refine enter (binds := [(Str.ofString "self", .ref x), (Str.ofString "node", .int k t)]) G (by decide) (by k_is) (by k_is) (BindsTo.of_eq rfl) (by decide) (locs rfl) ?_
  intro h₁ L tk F N
  repeat' (first | ((with_reducible show wpAny _ _ (execs (_ :: _) _) _ _ _); refine execs_seq ?_; intro QZs hnZs hrZs hbZs hcZs) | (refine hnZs _ ?_; clear hnZs hrZs hbZs hcZs) | (refine hrZs _ _ ?_) | (refine hbZs _ ?_) | (refine hcZs _ ?_) | ((with_reducible show wpAny _ _ (call (Value.builtin "dict.get") [Value.ref _, Value.int _ _]) _ _ _); first | refine dget_some (by assumption) (by first | exact dictOf_B (by assumption) (by assumption) (by assumption) | exact dictOf_N (by assumption) (by k_mem) (by assumption)) (by assumption) ?_ | refine dget_none (by assumption) (by first | exact dictOf_B (by assumption) (by assumption) (by assumption) | exact dictOf_N (by assumption) (by k_mem) (by assumption)) (by assumption) ?_) | ((with_reducible show wpAny _ _ (getMethod (Value.ref _) (Str.ofString "get") _) _ _ _); refine dget_get (by first | exact dictOf_B (by assumption) (by assumption) (by assumption) | exact dictOf_N (by assumption) (by k_mem) (by assumption)) ?_) | walk1 | (dsimp only; first | ((with_reducible show wpAny _ _ (execs (_ :: _) _) _ _ _); refine execs_seq ?_; intro QZs hnZs hrZs hbZs hcZs) | (refine hnZs _ ?_; clear hnZs hrZs hbZs hcZs) | (refine hrZs _ _ ?_) | (refine hbZs _ ?_) | (refine hcZs _ ?_) | ((with_reducible show wpAny _ _ (call (Value.builtin "dict.get") [Value.ref _, Value.int _ _]) _ _ _); first | refine dget_some (by assumption) (by first | exact dictOf_B (by assumption) (by assumption) (by assumption) | exact dictOf_N (by assumption) (by k_mem) (by assumption)) (by assumption) ?_ | refine dget_none (by assumption) (by first | exact dictOf_B (by assumption) (by assumption) (by assumption) | exact dictOf_N (by assumption) (by k_mem) (by assumption)) (by assumption) ?_) | ((with_reducible show wpAny _ _ (getMethod (Value.ref _) (Str.ofString "get") _) _ _ _); refine dget_get (by first | exact dictOf_B (by assumption) (by assumption) (by assumption) | exact dictOf_N (by assumption) (by k_mem) (by assumption)) ?_) | walk1))
  all_goals dsimp only at *
  exact hQ _ _ (Fr.toKp (by assumption))

theorem nodemake {w : World} {A : Around} {s : Shared} {hb : Heap} {L : Addr} {m : Str → Option Value} {news : List (Addr × Obj)} {k : Int} {t : Tok} {Q : Value → Shared → Prop} {E : Value → Shared → Prop}
    (G : Gd w hb) (F : Fr hb L s.heap m) (N : News hb L s.heap news) (hA : Le A (std 970 7000))
    (hQ : ∀ h' tk (a dx l : Nat) t0, Fr hb L h' m → News hb L h' ((a, (⟨.ref 40, some dx, .plain, #[some (.int k t), some (.int 0 t0), some (.ref l)]⟩ : Obj)) :: (dx, dictOf [] 0) :: (l, W.listOf #[] 0) :: news) →
      (∀ p ∈ news, @LT.lt Nat _ p.1 dx) → dx < a → a < l → Q (.ref a) { s with heap := h', toks := tk }) :
    wpAny (model PP w) A (call (.ref 40) [.int k t]) Q E s := by
  refine wpAny_le hA ?_
  have X := G.X
  focus (refine hid fun hGo => ?_; obtain ⟨mg, mb, T⟩ := G.T; all_goals (refine hGo ?_; clear hGo))
  refine call_cls F X N (by k_is) (by k_is) (by k_is) ?_
  intro x dx h' F' N' l1 l2
  refine codeAny_le (B := std 971 7100) ⟨rfl, Nat.le_of_ble_eq_true rfl, Nat.le_of_ble_eq_true rfl, rfl, rfl⟩ ?_
  refine enterC (binds := [(Str.ofString "self", .ref x), (Str.ofString "node", .int k t)]) G F' N' (by decide) (by k_is) (by k_is) (BindsTo.of_eq rfl) (by decide) (locs rfl) ?_
  intro h₁ L' tk oL bk hL hN F₁ N₁
  have l2 := ltN l2
  have l3 := hN _ (.head _)
  have l4 := hN _ (.tail _ (.head _))
  have l5 : @Ne Nat dx L := (N' _ (.tail _ (.head _))).2.1
  have l6 : @Ne Nat x L := (N' _ (.head _)).2.1
  have l7 : ∀ p ∈ news, p.1 ≠ x := fun p hp => Nat.ne_of_lt (Nat.lt_trans (l1 p hp) l2)
  repeat' (first | ((with_reducible show wpAny _ _ (execs (_ :: _) _) _ _ _); refine execs_seq ?_; intro QZs hnZs hrZs hbZs hcZs) | (refine hnZs _ ?_; clear hnZs hrZs hbZs hcZs) | (refine hrZs _ _ ?_) | (refine hbZs _ ?_) | (refine hcZs _ ?_) | ((with_reducible show wpAny _ _ (call (Value.builtin "dict.get") [Value.ref _, Value.int _ _]) _ _ _); first | refine dget_some (by assumption) (by first | exact dictOf_B (by assumption) (by assumption) (by assumption) | exact dictOf_N (by assumption) (by k_mem) (by assumption)) (by assumption) ?_ | refine dget_none (by assumption) (by first | exact dictOf_B (by assumption) (by assumption) (by assumption) | exact dictOf_N (by assumption) (by k_mem) (by assumption)) (by assumption) ?_) | ((with_reducible show wpAny _ _ (getMethod (Value.ref _) (Str.ofString "get") _) _ _ _); refine dget_get (by first | exact dictOf_B (by assumption) (by assumption) (by assumption) | exact dictOf_N (by assumption) (by k_mem) (by assumption)) ?_) | walk1 | (dsimp only; first | ((with_reducible show wpAny _ _ (execs (_ :: _) _) _ _ _); refine execs_seq ?_; intro QZs hnZs hrZs hbZs hcZs) | (refine hnZs _ ?_; clear hnZs hrZs hbZs hcZs) | (refine hrZs _ _ ?_) | (refine hbZs _ ?_) | (refine hcZs _ ?_) | ((with_reducible show wpAny _ _ (call (Value.builtin "dict.get") [Value.ref _, Value.int _ _]) _ _ _); first | refine dget_some (by assumption) (by first | exact dictOf_B (by assumption) (by assumption) (by assumption) | exact dictOf_N (by assumption) (by k_mem) (by assumption)) (by assumption) ?_ | refine dget_none (by assumption) (by first | exact dictOf_B (by assumption) (by assumption) (by assumption) | exact dictOf_N (by assumption) (by k_mem) (by assumption)) (by assumption) ?_) | ((with_reducible show wpAny _ _ (getMethod (Value.ref _) (Str.ofString "get") _) _ _ _); refine dget_get (by first | exact dictOf_B (by assumption) (by assumption) (by assumption) | exact dictOf_N (by assumption) (by k_mem) (by assumption)) ?_) | walk1))
  all_goals dsimp only at *
  rename Fr _ _ _ _ => F₂
  rename News _ _ _ _ => N₂
  rename_i l _ hlt _
  refine ⟨rfl, ?_⟩
  have N₃ := pickN (l' := (L, oL) :: (x, _) :: (dx, dictOf [] 0) :: (l, W.listOf #[] 0) :: news) N₂ [1, 2, 3, 0] 4 rfl
  focus (refine hid fun hGo => ?_; obtain ⟨F₄, N₄⟩ := backN bk F₂ N₃ (fmc l6 (fmc l5 (fmc (Nat.ne_of_gt hlt.1) fun p h => (N _ h).2.1))); all_goals (refine hGo ?_; clear hGo))
  exact hQ _ _ x dx l _ F₄ N₄ l1 l2 hlt.2.1

theorem dset_N {w : World} {A : Around} {s : Shared} {E : Value → Shared → Prop} {hb : Heap} {L d : Addr} {m : Str → Option Value} {news : List (Addr × Obj)} {od : Obj} {kvs : List (Int × Value)} {g : Obj → List (Addr × Obj)}
    {k : Int} {t : Tok} {v : Value} {Q : Unit → Shared → Prop} (F : Fr hb L s.heap m) (N : News hb L s.heap news) (U : UpdF d od news g) (ho : od.IsDictOf (intKind PP w) kvs) (hsz : kvs.length ≤ 1000)
    (h : ∀ h' od', Fr hb L h' m → News hb L h' (g od') → od'.IsDictOf (intKind PP w) (stored kvs k v) → Q () { s with heap := h', toks := s.toks + 1 }) :
    wpAny (model PP w) A (setItem (.ref d) (.int k t) v) Q E s := by
  focus (refine hid fun hGo => ?_; obtain ⟨pre, post, rfl, hg, h1, h2⟩ := U.split; all_goals (refine hGo ?_; clear hGo))
  have z := N (d, od) (List.mem_append_right _ (.head _))
  refine wpAny_setItem_pairs (intKind_is PP w k t) (Heap.dictOf_iff.mpr ⟨od, z.1, ho⟩) (fun h' hD hs => ?_) (by rw [sizeLine_eq]; omega)
  focus (refine hid fun hGo => ?_; obtain ⟨od', ho', hi⟩ := Heap.dictOf_iff.mp hD; all_goals (refine hGo ?_; clear hGo))
  refine h h' od' (F.change hs z.2.1 z.2.2) (by rw [hg]; exact N.setAt h1 h2 hs ho') hi

theorem stored_new {kvs : List (Int × Value)} {k : Int} {v : Value} (h : valueAt kvs k = none) : stored kvs k v = kvs ++ [(k, v)] := by
  unfold stored
  rw [if_neg]
  intro hc
  focus (refine hid fun hGo => ?_; obtain ⟨kv, hm, he⟩ := List.any_eq_true.mp hc; all_goals (refine hGo ?_; clear hGo))
  unfold valueAt at h
  have := List.find?_eq_none.mp (Option.map_eq_none_iff.mp h) kv hm
  exact this he

theorem allLt_mem {d : Nat} {l : List (Addr × Obj)} (h : AllLt d l) : ∀ p ∈ l, @LT.lt Nat _ p.1 d := by
  induction l with
  | nil => intro p hp; cases hp
  | cons q r ih =>
    intro p hp
    focus (refine hid fun hGo => ?_; rcases List.mem_cons.mp hp with rfl | hp; all_goals (refine hGo ?_; clear hGo))
    · exact h.1
    · exact ih h.2 p hp
theorem gni_new {w : World} {A : Around} {s : Shared} {hb : Heap} {L : Addr} {m : Str → Option Value} {rest : List (Addr × Obj)} {x dx d : Addr} {od : Obj} {kvs : List (Int × Value)} {t1 t2 t3 t4 t : Tok} {rn po nf : Value} {k : Int} {Q : Value → Shared → Prop} {E : Value → Shared → Prop}
    (G : Gd w hb) (hA : Le A (std 960 6000)) (F : Fr hb L s.heap m) (N : News hb L s.heap ((x, instObj 137 dx) :: (dx, soDict w t1 t2 t3 t4 d rn po nf) :: (d, od) :: rest))
    (hod : od.IsDictOf (intKind PP w) kvs) (hlo : (d == sysModules) = false) (hv : valueAt kvs k = none) (hsz : kvs.length ≤ 1000)
    (hxd : @Ne Nat x d) (hdd : @Ne Nat dx d) (hrd : ∀ p ∈ rest, p.1 ≠ d)
    (hQ : ∀ h' tk (a dxn l : Nat) t0 od', Fr hb L h' m → News hb L h' ((x, instObj 137 dx) :: (dx, soDict w t1 t2 t3 t4 d rn po nf) :: (d, od') ::
        (a, (⟨.ref 40, some dxn, .plain, #[some (.int k t), some (.int 0 t0), some (.ref l)]⟩ : Obj)) :: (dxn, dictOf [] 0) :: (l, W.listOf #[] 0) :: rest) →
      od'.IsDictOf (intKind PP w) (kvs ++ [(k, .ref a)]) → (∀ p ∈ rest, @LT.lt Nat _ p.1 dxn) → @LT.lt Nat _ x dxn → @LT.lt Nat _ dx dxn → @LT.lt Nat _ d dxn → @LT.lt Nat _ L dxn → dxn < a → a < l → Q (.ref a) { s with heap := h', toks := tk }) :
    wpAny (model PP w) A (call (.ref 80) [.ref x, .int k t]) Q E s := by
  refine wpAny_le hA ?_
  have X := G.X
  focus (refine hid fun hGo => ?_; obtain ⟨mg, mb, T⟩ := G.T; all_goals (refine hGo ?_; clear hGo))
  refine enterB (binds := [(Str.ofString "self", .ref x), (Str.ofString "node", .int k t)]) G F N (by decide) (by k_is) (by k_is) (BindsTo.of_eq rfl) (by decide) (locs rfl) ?_
  intro h₁ L' tk oL bk hL hN F₁ N₁
  have l3 := hN _ (.head _)
  have l4 := hN _ (.tail _ (.head _))
  have l4' := hN _ (.tail _ (.tail _ (.head _)))
  have l5 : @Ne Nat dx L := (N _ (.tail _ (.head _))).2.1
  have l6 : @Ne Nat x L := (N _ (.head _)).2.1
  have l7 : @Ne Nat d L := (N _ (.tail _ (.tail _ (.head _)))).2.1
  repeat' (first | ((with_reducible show wpAny _ _ (execs (_ :: _) _) _ _ _); refine execs_seq ?_; intro QZs hnZs hrZs hbZs hcZs) | (refine hnZs _ ?_; clear hnZs hrZs hbZs hcZs) | (refine hrZs _ _ ?_) | (refine hbZs _ ?_) | (refine hcZs _ ?_) | ((with_reducible show wpAny _ _ (call (Value.ref 40) [Value.int _ _] _) _ _ _); (refine nodemake (by assumption) (by assumption) (by assumption) ⟨rfl, Nat.le_of_ble_eq_true rfl, Nat.le_of_ble_eq_true rfl, rfl, rfl⟩ ?_); intro hZq tkZq aZq dxZq lZq t0Zq FZq NZq l1Zq l2Zq l3Zq; (try k_lt l1Zq); (try k_sweep)) | ((with_reducible show wpAny _ _ (setItem (Value.ref _) (Value.int _ _) _) _ _ _); refine dset_N (by k_asm) (by k_asm) (by k_updF) (by assumption) (by first | assumption | exact leK (by assumption) (by exact rfl) | omega) ?_; intro hZq odZq FZq NZq hodZq; (try dsimp only at NZq); (try k_sweep)) | ((with_reducible show wpAny _ _ (call (Value.builtin "dict.get") [Value.ref _, Value.int _ _]) _ _ _); first | refine dget_some (by assumption) (by first | exact dictOf_B (by assumption) (by assumption) (by assumption) | exact dictOf_N (by assumption) (by k_mem) (by assumption)) (by assumption) ?_ | refine dget_none (by assumption) (by first | exact dictOf_B (by assumption) (by assumption) (by assumption) | exact dictOf_N (by assumption) (by k_mem) (by assumption)) (by assumption) ?_) | ((with_reducible show wpAny _ _ (getMethod (Value.ref _) (Str.ofString "get") _) _ _ _); refine dget_get (by first | exact dictOf_B (by assumption) (by assumption) (by assumption) | exact dictOf_N (by assumption) (by k_mem) (by assumption)) ?_) | walk1 | (dsimp only; first | ((with_reducible show wpAny _ _ (execs (_ :: _) _) _ _ _); refine execs_seq ?_; intro QZs hnZs hrZs hbZs hcZs) | (refine hnZs _ ?_; clear hnZs hrZs hbZs hcZs) | (refine hrZs _ _ ?_) | (refine hbZs _ ?_) | (refine hcZs _ ?_) | ((with_reducible show wpAny _ _ (call (Value.ref 40) [Value.int _ _] _) _ _ _); (refine nodemake (by assumption) (by assumption) (by assumption) ⟨rfl, Nat.le_of_ble_eq_true rfl, Nat.le_of_ble_eq_true rfl, rfl, rfl⟩ ?_); intro hZq tkZq aZq dxZq lZq t0Zq FZq NZq l1Zq l2Zq l3Zq; (try k_lt l1Zq); (try k_sweep)) | ((with_reducible show wpAny _ _ (setItem (Value.ref _) (Value.int _ _) _) _ _ _); refine dset_N (by k_asm) (by k_asm) (by k_updF) (by assumption) (by first | assumption | exact leK (by assumption) (by exact rfl) | omega) ?_; intro hZq odZq FZq NZq hodZq; (try dsimp only at NZq); (try k_sweep)) | ((with_reducible show wpAny _ _ (call (Value.builtin "dict.get") [Value.ref _, Value.int _ _]) _ _ _); first | refine dget_some (by assumption) (by first | exact dictOf_B (by assumption) (by assumption) (by assumption) | exact dictOf_N (by assumption) (by k_mem) (by assumption)) (by assumption) ?_ | refine dget_none (by assumption) (by first | exact dictOf_B (by assumption) (by assumption) (by assumption) | exact dictOf_N (by assumption) (by k_mem) (by assumption)) (by assumption) ?_) | ((with_reducible show wpAny _ _ (getMethod (Value.ref _) (Str.ofString "get") _) _ _ _); refine dget_get (by first | exact dictOf_B (by assumption) (by assumption) (by assumption) | exact dictOf_N (by assumption) (by k_mem) (by assumption)) ?_) | walk1))
  all_goals dsimp only at *
  rename Fr _ _ _ _ => F₂
  rename News _ _ _ _ => N₂
  have N₃ := News.sub (l' := (L, oL) :: (x, instObj 137 dx) :: (dx, soDict w t1 t2 t3 t4 d rn po nf) :: (d, odZq) ::
        (aZq, (⟨.ref 40, some dxZq, .plain, #[some (.int k t), some (.int 0 t0Zq), some (.ref lZq)]⟩ : Obj)) :: (dxZq, dictOf [] 0) :: (lZq, W.listOf #[] 0) :: rest) N₂ (by ((repeat' (first | exact List.forall_mem_nil _ | (refine fmc (by k_memK) ?_) | (intro p hp; k_ownIn)))))
  focus (refine hid fun hGo => ?_; obtain ⟨F₄, N₄⟩ := backN bk F₂ N₃ (fmc l6 (fmc l5 (fmc l7 (fmc (Nat.ne_of_gt (Nat.lt_trans l1Zq.1 l2Zq)) (fmc (Nat.ne_of_gt l1Zq.1) (fmc (Nat.ne_of_gt (Nat.lt_trans (Nat.lt_trans l1Zq.1 l2Zq) l3Zq)) fun p h => (N _ (.tail _ (.tail _ (.tail _ h)))).2.1)))))); all_goals (refine hGo ?_; clear hGo))
  rw [stored_new hv] at hodZq
  exact hQ _ _ aZq dxZq lZq t0Zq odZq F₄ N₄ hodZq (allLt_mem l1Zq.2.2.2.2) l1Zq.2.1 l1Zq.2.2.1 l1Zq.2.2.2.1 l1Zq.1 l2Zq l3Zq

noncomputable def intOf : Value → Int
  | .int i _ => i
  | _ => 0
noncomputable def intsOf (sv : Array Value) : List Int := sv.toList.map intOf
noncomputable def AllInts (sv : Array Value) : Prop := ∀ v ∈ sv.toList, ∃ i t, v = .int i t
theorem allInts_are {sv : Array Value} (h : AllInts sv) : IntsAre sv.toList (intsOf sv) := by
  unfold AllInts at h; unfold intsOf
  generalize sv.toList = l at h
  induction l with
  | nil => exact .nil
  | cons v l ih =>
    obtain ⟨i, t, rfl⟩ := h v (.head _)
    exact .cons _ _ (ih fun u hu => h u (.tail _ hu))
theorem allInts_push {sv : Array Value} {i : Int} {t : Tok} (h : AllInts sv) : AllInts (sv.push (.int i t)) := by
  intro v hv
  rw [Array.toList_push, List.mem_append, List.mem_singleton] at hv
  rcases hv with hv | rfl
  · exact h v hv
  · exact ⟨i, t, rfl⟩
theorem intsOf_push {sv : Array Value} {i : Int} {t : Tok} : intsOf (sv.push (.int i t)) = intsOf sv ++ [i] := by
  unfold intsOf; rw [Array.toList_push, List.map_append]; rfl

abbrev GV := Int × Int × List Int
noncomputable def Nd.view (n : Nd) : GV := (n.k, n.np, intsOf n.sv)
noncomputable def gMod (g : List GV) (k : Int) (f : GV → GV) : List GV := g.map fun v => if v.1 = k then f v else v

/-- all is well with the nodes -/
structure NsOk (ns : List Nd) (B : Nat) : Prop where
  valsOk : ∀ n ∈ ns, AllInts n.sv ∧ n.sv.size ≤ B
  keysOk : (ns.map (·.k)).Nodup
  footOk : (nodesFoot ns).Nodup

theorem ns_split {ns : List Nd} {k : Int} (h : k ∈ ns.map (·.k)) : ∃ pre n post, ns = pre ++ n :: post ∧ n.k = k := by
  obtain ⟨n, hn, rfl⟩ := List.mem_map.mp h
  obtain ⟨pre, post, rfl⟩ := List.append_of_mem hn
  exact ⟨pre, n, post, rfl, rfl⟩

theorem key_off {pre post : List Nd} {n : Nd} (h : ((pre ++ n :: post).map (·.k)).Nodup) : (∀ q ∈ pre, q.k ≠ n.k) ∧ ∀ q ∈ post, q.k ≠ n.k := by
  rw [List.map_append, List.map_cons, List.nodup_append] at h
  obtain ⟨_, h2, h3⟩ := h
  rw [List.nodup_cons] at h2
  refine ⟨fun q hq e => h3 q.k (List.mem_map_of_mem hq) n.k (.head _) e, fun q hq e => h2.1 (e ▸ List.mem_map_of_mem hq)⟩

theorem gMod_view {pre post : List Nd} {n n' : Nd} {f : GV → GV} (h : ((pre ++ n :: post).map (·.k)).Nodup) (hf : f n.view = n'.view) :
    gMod ((pre ++ n :: post).map Nd.view) n.k f = (pre ++ n' :: post).map Nd.view := by
  obtain ⟨h1, h2⟩ := key_off h
  unfold gMod
  simp only [List.map_append, List.map_cons, List.map_map]
  congr 1
  · apply List.map_congr_left
    intro q hq
    have := h1 q hq
    simp [Nd.view, this]
  · congr 1
    · simp [Nd.view] at hf ⊢; exact hf
    · apply List.map_congr_left
      intro q hq
      have := h2 q hq
      simp [Nd.view, this]

theorem nodesLed_append (a b : List Nd) : nodesLed (a ++ b) = nodesLed a ++ nodesLed b := List.flatMap_append
theorem nodesLed_cons (n : Nd) (b : List Nd) : nodesLed (n :: b) = n.led ++ nodesLed b := List.flatMap_cons
theorem nodesFoot_append (a b : List Nd) : nodesFoot (a ++ b) = nodesFoot a ++ nodesFoot b := List.flatMap_append
theorem nodesFoot_cons (n : Nd) (b : List Nd) : nodesFoot (n :: b) = n.foot ++ nodesFoot b := List.flatMap_cons
theorem nodesFoot_eq (ns : List Nd) : nodesFoot ns = (nodesLed ns).map (·.1) := by
  induction ns with
  | nil => rfl
  | cons n ns ih => rw [nodesFoot_cons, nodesLed_cons, List.map_append, ih]; rfl

theorem led_out {H rest : List (Addr × Obj)} {pre post : List Nd} {n : Nd} : ∀ q ∈ n.led ++ (H ++ (nodesLed pre ++ (nodesLed post ++ rest))), q ∈ H ++ (nodesLed (pre ++ n :: post) ++ rest) := by
  rw [nodesLed_append, nodesLed_cons]
  have m : ∀ q ∈ nodesLed pre ++ (n.led ++ nodesLed post), q ∈ H ++ (nodesLed pre ++ (n.led ++ nodesLed post) ++ rest) := fun q h => List.mem_append_right _ (List.mem_append_left _ h)
  exact fma (fun q h => m q (List.mem_append_right _ (List.mem_append_left _ h))) (fma (fun q h => List.mem_append_left _ h) (fma (fun q h => m q (List.mem_append_left _ h)) (fma (fun q h => m q (List.mem_append_right _ (List.mem_append_right _ h))) fun q h => List.mem_append_right _ (List.mem_append_right _ h))))
theorem led_in {H rest : List (Addr × Obj)} {pre post : List Nd} {n : Nd} : ∀ q ∈ H ++ (nodesLed (pre ++ n :: post) ++ rest), q ∈ n.led ++ (H ++ (nodesLed pre ++ (nodesLed post ++ rest))) := by
  rw [nodesLed_append, nodesLed_cons]
  exact fma (fun q h => List.mem_append_right _ (List.mem_append_left _ h)) (fma (fma (fun q h => List.mem_append_right _ (List.mem_append_right _ (List.mem_append_left _ h))) (fma (fun q h => List.mem_append_left _ h) fun q h => List.mem_append_right _ (List.mem_append_right _ (List.mem_append_right _ (List.mem_append_left _ h))))) fun q h => List.mem_append_right _ (List.mem_append_right _ (List.mem_append_right _ (List.mem_append_right _ h))))

/-- nothing else lies where this node lies -/
theorem node_off {pre post : List Nd} {n : Nd} (h : (nodesFoot (pre ++ n :: post)).Nodup) :
    (∀ q ∈ nodesLed pre ++ nodesLed post, q.1 ≠ n.a ∧ q.1 ≠ n.dx ∧ q.1 ≠ n.l) ∧ @Ne Nat n.a n.dx ∧ @Ne Nat n.a n.l ∧ @Ne Nat n.dx n.l := by
  rw [nodesFoot_append, nodesFoot_cons, List.nodup_append] at h
  obtain ⟨_, h2, h3⟩ := h
  rw [List.nodup_append] at h2
  obtain ⟨h4, h5, h6⟩ := h2
  simp only [Nd.foot, List.nodup_cons, List.mem_cons, List.not_mem_nil, or_false, not_or] at h4
  have hn : ∀ b ∈ n.foot, ∀ q ∈ nodesLed pre ++ nodesLed post, q.1 ≠ b := by
    intro b hb q hq
    rcases List.mem_append.mp hq with hq | hq
    · exact h3 q.1 (by rw [nodesFoot_eq]; exact List.mem_map_of_mem hq) b (List.mem_append_left _ hb)
    · exact fun e => h6 b hb q.1 (by rw [nodesFoot_eq]; exact List.mem_map_of_mem hq) e.symm
  exact ⟨fun q hq => ⟨hn _ (.head _) q hq, hn _ (.tail _ (.head _)) q hq, hn _ (.tail _ (.tail _ (.head _))) q hq⟩, h4.1.1, h4.1.2, h4.2.1⟩

theorem kvs_value {ns : List Nd} {n : Nd} (h : (ns.map (·.k)).Nodup) (hn : n ∈ ns) : valueAt (nodesKvs ns) n.k = some (.ref n.a) := by
  obtain ⟨pre, post, rfl⟩ := List.append_of_mem hn
  obtain ⟨h1, _⟩ := key_off h
  unfold valueAt nodesKvs
  rw [List.map_append, List.find?_append, List.map_cons]
  have : List.find? (fun kv : Int × Value => decide (kv.1 = n.k)) (List.map (fun n => (n.k, Value.ref n.a)) pre) = none := by
    rw [List.find?_eq_none]
    intro kv hkv
    obtain ⟨q, hq, rfl⟩ := List.mem_map.mp hkv
    simpa using h1 q hq
  rw [this]
  simp

theorem nsOk_put {pre post : List Nd} {n n' : Nd} {B B' : Nat} (h : NsOk (pre ++ n :: post) B) (hB : B ≤ B') (hk : n'.k = n.k) (ha : n'.a = n.a) (hdx : n'.dx = n.dx) (hl : n'.l = n.l) (hi : AllInts n'.sv ∧ n'.sv.size ≤ B') :
    NsOk (pre ++ n' :: post) B' where
  valsOk := by
    intro q hq
    rcases List.mem_append.mp hq with hq | hq
    · have := h.valsOk q (List.mem_append_left _ hq); exact ⟨this.1, Nat.le_trans this.2 hB⟩
    · rcases List.mem_cons.mp hq with rfl | hq
      · exact hi
      · have := h.valsOk q (List.mem_append_right _ (.tail _ hq)); exact ⟨this.1, Nat.le_trans this.2 hB⟩
  keysOk := by have := h.keysOk; simp only [List.map_append, List.map_cons, hk] at this ⊢; exact this
  footOk := by have := h.footOk; simp only [nodesFoot_append, nodesFoot_cons, Nd.foot, ha, hdx, hl] at this ⊢; exact this
theorem foot_put {pre post : List Nd} {n n' : Nd} (ha : n'.a = n.a) (hdx : n'.dx = n.dx) (hl : n'.l = n.l) : nodesFoot (pre ++ n' :: post) = nodesFoot (pre ++ n :: post) := by
  simp only [nodesFoot_append, nodesFoot_cons, Nd.foot, ha, hdx, hl]
theorem kvs_put {pre post : List Nd} {n n' : Nd} (hk : n'.k = n.k) (ha : n'.a = n.a) : nodesKvs (pre ++ n' :: post) = nodesKvs (pre ++ n :: post) := by
  simp only [nodesKvs, List.map_append, List.map_cons, hk, ha]

abbrev tupOf (vs : Array Value) (n : Nat) : Obj := { cls := .type "tuple", data := .seq vs n }

theorem enterV {w : World} {d u : Nat} {fr : Option (List Env)} {s : Shared} {f : Addr} {args : List Value} {vs : List Value} {binds : Value → List (Str × Value)} {oc : Value} {od : Option Addr} {osl : Array (Option Value)}
    {name qual : Str} {params : Arguments} {body : List Stmt} {scope : Scope} {dV kV doc pm cdv ct : Value} {an : Option Addr} {hb : Heap} {L : Addr} {m : Str → Option Value} {news : List (Addr × Obj)}
    {Q : Value → Shared → Prop} {E : Value → Shared → Prop}
    (G : Gd w hb) (F : Fr hb L s.heap m) (N : News hb L s.heap news) (hroom : d < recursionLimit)
    (ho : (hd.heap_39 w.params).lookup f = some ⟨oc, od, .func (fnOf name qual params body scope dV kV doc pm an cdv ct), osl⟩) (hcd : codeIn (hd.heap_39 w.params) cdv qual = true)
    (hbind : bindArgs (fnOf name qual params body scope dV kV doc pm an cdv ct) ⟨args, []⟩ = (newTuple vs >>= fun t => pure (binds t))) (hvs : vs.length ≤ 1000)
    (hcell : ∀ x ∈ scope.names, x.2 ≠ .cell) (hloc : ∀ t, ∀ x ∈ binds t, scope.names.lookup x.1 = some .local)
    (h : ∀ h₁ (L' q : Nat) tk oL, BackTo hb L m oL → @LT.lt Nat _ L q → q < L' → (∀ p ∈ news, @LT.lt Nat _ p.1 q) → Fr hb L' h₁ (fun x => (binds (.ref q)).reverse.lookup x) → News hb L' h₁ ((L, oL) :: (q, tupOf vs.toArray 0) :: news) →
      wpAny (model PP w) { handled := none, depth := d + 1, frames := fr.map (envOf qual scope L' f cdv :: ·), guards := none, units := u + 3 } (execs body (envOf qual scope L' f cdv)) (fun fl s' => Q (match fl with | .ret v => v | _ => .none) s') (fun _ _ => False) { s with heap := h₁, toks := tk })
    (hco : scope.isCoroutine = false := by rfl) (hgen : scope.isGenerator = false := by rfl) (hk : scope.kind = .function := by rfl) :
    wpAny (model PP w) { handled := none, depth := d, frames := fr, guards := none, units := u } (call (.ref f) args) Q E s := by
  have GX := G.keeps F.keep
  focus (refine hid fun hGo => ?_; obtain ⟨mg', mb', T'⟩ := GX.T; all_goals (refine hGo ?_; clear hGo))
  focus (refine hid fun hGo => ?_; obtain ⟨oL, hoL, bk⟩ := Fr.backTo F; all_goals (refine hGo ?_; clear hGo))
  have hLl : @LT.lt Nat _ L s.heap.objs.size := Heap.lt_size hoL
  have hNl : ∀ p ∈ news, @LT.lt Nat _ p.1 s.heap.objs.size := fun p hp => Heap.lt_size (N p hp).1
  have hbL : hb.get? L = none := by
    cases q : hb.get? L with
    | none => rfl
    | some o => exact absurd (Nat.lt_of_lt_of_le (Heap.lt_size q) F.above) (Nat.lt_irrefl _)
  have hbq : hb.get? s.heap.objs.size = none := by
    cases q : hb.get? s.heap.objs.size with
    | none => rfl
    | some o => exact absurd (Heap.lt_size (F.keep _ _ q)) (Nat.lt_irrefl _)
  refine wpAny_call (codeAny_call_function hroom (GX.X _ _ ho) rfl hco hgen rfl (codeRec_of GX.X hcd) ?_)
  rw [hbind]
  refine wpAny_bind (wpAny_newObj_type ?_ (by show vs.toArray.size ≤ sizeLine; rw [List.size_toArray, sizeLine_eq]; omega))
  refine wpAny_pure (wpAny_newFunctionEnv hcell (hloc _) (fun h₁ hns hsb => ⟨?_, codeAny_func ?_⟩) hk)
  · exact (T'.nolimit.keeps fun b o e => Heap.get?_push_of_some _ e).fresh _ hsb
  · have up : ∀ b o, (s.heap.push (tupOf vs.toArray 0)).get? b = some o → h₁.get? b = some o := fun b o e => hsb.extBut b o (Nat.ne_of_lt (Heap.lt_size e)) (Heap.get?_push_of_some _ e)
    have hsz : (s.heap.push (tupOf vs.toArray 0)).objs.size = s.heap.objs.size + 1 := Heap.size_push _ _
    have up' : ∀ b o, s.heap.get? b = some o → h₁.get? b = some o := fun b o e => up b o (Heap.get?_push_of_some _ e)
    refine wpAny_mono (h h₁ _ s.heap.objs.size _ oL bk hLl (by rw [hsz]; exact Nat.lt_succ_self _) hNl ⟨hns, fun b o e => up' b o (F.keep b o e), Nat.le_trans F.above (Nat.le_of_lt (Nat.lt_trans hLl (by rw [hsz]; exact Nat.lt_succ_self _)))⟩ ?_) (fun _ _ q => q) (fun _ _ q => q.elim)
    intro p hp
    focus (refine hid fun hGo => ?_; rcases List.mem_cons.mp hp with rfl | hp; all_goals (refine hGo ?_; clear hGo))
    · exact ⟨up' _ _ hoL, Nat.ne_of_lt (Nat.lt_trans hLl (by rw [hsz]; exact Nat.lt_succ_self _)), hbL⟩
    · focus (refine hid fun hGo => ?_; rcases List.mem_cons.mp hp with rfl | hp; all_goals (refine hGo ?_; clear hGo))
      · exact ⟨up _ _ (Heap.get?_push_size _ rfl), Nat.ne_of_lt (by rw [hsz]; exact Nat.lt_succ_self _), hbq⟩
      · exact ⟨up' _ _ (N p hp).1, Nat.ne_of_lt (Nat.lt_trans (hNl p hp) (by rw [hsz]; exact Nat.lt_succ_self _)), (N p hp).2.2⟩

theorem gni_oldN {w : World} {A : Around} {s : Shared} {hb : Heap} {L : Addr} {m : Str → Option Value} {news : List (Addr × Obj)} {x dx d a : Addr} {od : Obj} {kvs : List (Int × Value)} {t1 t2 t3 t4 t : Tok} {rn po nf : Value} {k : Int} {Q : Value → Shared → Prop} {E : Value → Shared → Prop}
    (G : Gd w hb) (hA : Le A (std 980 8000)) (F : Fr hb L s.heap m) (N : News hb L s.heap news) (hx : (x, instObj 137 dx) ∈ news) (hdx : (dx, soDict w t1 t2 t3 t4 d rn po nf) ∈ news)
    (hd : (d, od) ∈ news) (hod : od.IsDictOf (intKind PP w) kvs) (hlo : (d == sysModules) = false) (hv : valueAt kvs k = some (.ref a))
    (hQ : ∀ h' tk, Fr hb L h' m → News hb L h' news → Q (.ref a) { s with heap := h', toks := tk }) :
    wpAny (model PP w) A (call (.ref 80) [.ref x, .int k t]) Q E s :=
  gni_old (G.keeps F.keep) hA (N _ hx).1 (N _ hdx).1 (N _ hd).1 hod hlo hv fun h' tk k => hQ h' tk (Fr.kp F k) (News.kp N k)
theorem add_new {w : World} {A : Around} {s : Shared} {hb : Heap} {L : Addr} {m : Str → Option Value} {rest : List (Addr × Obj)} {x dx d : Addr} {od : Obj} {kvs : List (Int × Value)} {t1 t2 t3 t4 t : Tok} {po nf : Value} {k : Int} {Q : Value → Shared → Prop} {E : Value → Shared → Prop}
    (G : Gd w hb) (hA : Le A (std 950 5000)) (F : Fr hb L s.heap m) (N : News hb L s.heap ((x, instObj 137 dx) :: (dx, soDict w t1 t2 t3 t4 d .none po nf) :: (d, od) :: rest))
    (hod : od.IsDictOf (intKind PP w) kvs) (hlo : (d == sysModules) = false) (hv : valueAt kvs k = none) (hsz : kvs.length ≤ 1000)
    (hxd : @Ne Nat x d) (hdd : @Ne Nat dx d) (hrd : ∀ p ∈ rest, p.1 ≠ d)
    (hQ : ∀ h' tk (a dxn l : Nat) t0 od', Fr hb L h' m → News hb L h' ((x, instObj 137 dx) :: (dx, soDict w t1 t2 t3 t4 d .none po nf) :: (d, od') ::
        (a, (⟨.ref 40, some dxn, .plain, #[some (.int k t), some (.int 0 t0), some (.ref l)]⟩ : Obj)) :: (dxn, dictOf [] 0) :: (l, W.listOf #[] 0) :: rest) →
      od'.IsDictOf (intKind PP w) (kvs ++ [(k, .ref a)]) → (∀ p ∈ rest, @LT.lt Nat _ p.1 dxn) → @LT.lt Nat _ x dxn → @LT.lt Nat _ dx dxn → @LT.lt Nat _ d dxn → @LT.lt Nat _ L dxn → dxn < a → a < l → Q .none { s with heap := h', toks := tk }) :
    wpAny (model PP w) A (call (.ref 87) [.ref x, .int k t]) Q E s := by
  refine wpAny_le hA ?_
  have X := G.X
  focus (refine hid fun hGo => ?_; obtain ⟨mg, mb, T⟩ := G.T; all_goals (refine hGo ?_; clear hGo))
  refine enterV (vs := []) (binds := fun q => [(Str.ofString "self", .ref x), (Str.ofString "node", .int k t), (Str.ofString "predecessors", q)]) G F N (by decide) (by k_is) (by k_is) (by kernel_rfl) (by decide) (by decide) (fun _ => locs rfl) ?_
  intro h₁ L' q tk oL bk hL hq hN F₁ N₁
  have l3 := hN _ (.head _)
  have l4 := hN _ (.tail _ (.head _))
  have l4' := hN _ (.tail _ (.tail _ (.head _)))
  have l5 : @Ne Nat dx L := (N _ (.tail _ (.head _))).2.1
  have l6 : @Ne Nat x L := (N _ (.head _)).2.1
  have l7 : @Ne Nat d L := (N _ (.tail _ (.tail _ (.head _)))).2.1
  change wpAny (model PP w) (std 951 5003) _ _ _ _
  refine execs_seq ?_
  intro Q₁ hn₁ hr₁ hb₁ hc₁
  repeat' (first | walk1 | (dsimp only; walk1))
  refine hn₁ _ ?_
  clear hn₁ hr₁ hb₁ hc₁
  refine execs_seq ?_
  intro Q₁ hn₁ hr₁ hb₁ hc₁
  repeat' (first | walk1 | (dsimp only; walk1))
  refine gni_new (rest := (L, oL) :: (q, tupOf #[] 0) :: rest) G ⟨rfl, Nat.le_of_ble_eq_true rfl, Nat.le_of_ble_eq_true rfl, rfl, rfl⟩ F₁ (News.sub N₁ (by ((repeat' (first | exact List.forall_mem_nil _ | (refine fmc (by k_memK) ?_) | (intro p hp; k_ownIn)))))) hod hlo hv hsz hxd hdd ?_ ?_
  · exact fmc (Ne.symm l7) (fmc (Nat.ne_of_gt l4') hrd)
  intro h₂ tk₂ a dxn l t0 od' F₂ N₂ hod' g1 g2 g3 g4 g5 g6 g7
  have g8 : @LT.lt Nat _ L dxn := g1 _ (.head _)
  have g9 : q < dxn := g1 _ (.tail _ (.head _))
  have g10 : ∀ p ∈ rest, @LT.lt Nat _ p.1 dxn := fun p hp => g1 p (.tail _ (.tail _ hp))
  have g11 : ∀ p ∈ rest, p.1 ≠ a := fun p hp => Nat.ne_of_lt (Nat.lt_trans (g10 p hp) g6)
  clear F₁ N₁
  repeat' (first | walk1 | (dsimp only; walk1))
  refine hn₁ _ ?_
  clear hn₁ hr₁ hb₁ hc₁
  refine execs_seq ?_
  intro Q₁ hn₁ hr₁ hb₁ hc₁
  repeat' (first | walk1 | (dsimp only; walk1))
  refine hn₁ _ ?_
  clear hn₁ hr₁ hb₁ hc₁
  rename Fr _ _ _ _ => F₃
  rename News _ _ _ _ => N₃
  refine wpAny_execs_cons (wpAny_For ?_ (by intro _; rfl))
  refine opq ?_
  intro Q₄ h₄
  repeat' (first | walk1 | (dsimp only; walk1))
  refine h₄ _ _ ?_
  clear h₄
  dsimp only at *
  refine for_tuple_nil rfl F₃ N₃ (fun h' N => ⟨_, (N (q, tupOf #[] 0) (by k_mem)).1, rfl, 0, rfl⟩) ?_
  · intro h tk F₄ N₄
    have N₅ := News.sub (l' := (L, oL) :: (x, instObj 137 dx) :: (dx, soDict w t1 t2 t3 t4 d .none po nf) :: (d, od') ::
        (a, (⟨.ref 40, some dxn, .plain, #[some (.int k t), some (.int (0 + 0) _), some (.ref l)]⟩ : Obj)) :: (dxn, dictOf [] 0) :: (l, W.listOf #[] 0) :: rest) N₄ (by ((repeat' (first | exact List.forall_mem_nil _ | (refine fmc (by k_memK) ?_) | (intro p hp; k_ownIn)))))
    focus (refine hid fun hGo => ?_; obtain ⟨F₆, N₆⟩ := backN bk F₄ N₅ (fmc l6 (fmc l5 (fmc l7 (fmc (Nat.ne_of_gt (Nat.lt_trans g8 g6)) (fmc (Nat.ne_of_gt g8) (fmc (Nat.ne_of_gt (Nat.lt_trans (Nat.lt_trans g8 g6) g7)) fun p h => (N _ (.tail _ (.tail _ (.tail _ h)))).2.1)))))); all_goals (refine hGo ?_; clear hGo))
    refine wpAny_execs_nil ?_
    exact hQ _ _ a dxn l _ od' F₆ N₆ hod' g10 g2 g3 g4 g8 g6 g7

noncomputable def gAddEdges (g : List GV) (k : Int) (ps : List Int) : List GV :=
  ps.foldl (fun g p => gMod g p fun v => (v.1, v.2.1, v.2.2 ++ [k])) (gMod g k fun v => (v.1, v.2.1 + ps.length, v.2.2))

theorem tail_off {pre post : List Nd} {n : Nd} {rest : List (Addr × Obj)} (h : (nodesFoot (pre ++ n :: post)).Nodup) (hrest : ∀ p ∈ rest, p.1 ∉ nodesFoot (pre ++ n :: post)) :
    (∀ p ∈ nodesLed pre ++ (nodesLed post ++ rest), p.1 ≠ n.a) ∧ (∀ p ∈ nodesLed pre ++ (nodesLed post ++ rest), p.1 ≠ n.dx) ∧ (∀ p ∈ nodesLed pre ++ (nodesLed post ++ rest), p.1 ≠ n.l) := by
  focus (refine hid fun hGo => ?_; obtain ⟨h1, _⟩ := node_off h; all_goals (refine hGo ?_; clear hGo))
  have hf : ∀ b ∈ n.foot, b ∈ nodesFoot (pre ++ n :: post) := fun b hb => by rw [nodesFoot_append, nodesFoot_cons]; exact List.mem_append_right _ (List.mem_append_left _ hb)
  have key : ∀ b ∈ n.foot, (∀ q ∈ nodesLed pre ++ nodesLed post, q.1 ≠ b) → ∀ p ∈ nodesLed pre ++ (nodesLed post ++ rest), p.1 ≠ b := by
    intro b hb hq p hp
    rw [← List.append_assoc] at hp
    focus (refine hid fun hGo => ?_; rcases List.mem_append.mp hp with hp | hp; all_goals (refine hGo ?_; clear hGo))
    · exact hq p hp
    · exact fun e => hrest p hp (e ▸ hf b hb)
  exact ⟨key _ (.head _) fun q hq => (h1 q hq).1, key _ (.tail _ (.head _)) fun q hq => (h1 q hq).2.1, key _ (.tail _ (.tail _ (.head _))) fun q hq => (h1 q hq).2.2⟩
theorem foot_mem {pre post : List Nd} {n : Nd} : n.a ∈ nodesFoot (pre ++ n :: post) ∧ n.dx ∈ nodesFoot (pre ++ n :: post) ∧ n.l ∈ nodesFoot (pre ++ n :: post) := by
  have hf : ∀ b ∈ n.foot, b ∈ nodesFoot (pre ++ n :: post) := fun b hb => by rw [nodesFoot_append, nodesFoot_cons]; exact List.mem_append_right _ (List.mem_append_left _ hb)
  exact ⟨hf _ (.head _), hf _ (.tail _ (.head _)), hf _ (.tail _ (.tail _ (.head _)))⟩
theorem led_addr {ns : List Nd} {rest : List (Addr × Obj)} {b : Addr} (hb : b ∈ nodesFoot ns) : ∃ p ∈ nodesLed ns ++ rest, p.1 = b := by
  rw [nodesFoot_eq] at hb
  focus (refine hid fun hGo => ?_; obtain ⟨p, hp, e⟩ := List.mem_map.mp hb; all_goals (refine hGo ?_; clear hGo))
  exact ⟨p, List.mem_append_left _ hp, e⟩
theorem led_off {ns : List Nd} {rest : List (Addr × Obj)} {b : Addr} (h : ∀ p ∈ nodesLed ns ++ rest, p.1 ≠ b) : b ∉ nodesFoot ns := fun hb => (led_addr (rest := rest) hb).elim fun p q => h p q.1 q.2


inductive AdJ (w : World) (L' : Nat) (L : Nat) (q : Nat) (x : Nat) (dx : Nat) (d : Nat) (oL : Obj) (od : Obj) (t : Tok) (t1 : Tok) (t2 : Tok) (t3 : Tok) (t4 : Tok) (po : Value) (nf : Value) (vs : List Value) (rest : List (Addr × Obj)) (ns : List Nd) (n : Nd) (k : Int) (B : Nat) (ps : List Int) (I : Nat) (i : Nat) (m₁ : Str → Option Value) (news₁ : List (Addr × Obj)) : Prop
  | mk (e1 : @LT.lt Nat _ L' I) (e2 : (∀ p ∈ nodesLed ns ++ rest, @LT.lt Nat _ p.1 I)) (up : Option Value) (ui : Option Value) (ns₂ : List Nd) (e3 : news₁ = [(L, oL), (q, tupOf vs.toArray 0), (x, instObj 137 dx), (dx, soDict w t1 t2 t3 t4 d .none po nf), (d, od)] ++ (nodesLed ns₂ ++ rest)) (e4 : NsOk ns₂ (B + i)) (e5 : nodesFoot ns₂ = nodesFoot ns) (e6 : nodesKvs ns₂ = nodesKvs ns) (e7 : ns₂.map Nd.view = (ps.take i).foldl (fun g p => gMod g p fun v => (v.1, v.2.1, v.2.2 ++ [k])) (gMod (ns.map Nd.view) k fun v => (v.1, v.2.1 + ps.length, v.2.2))) (e8 : m₁ = fun y => if y = Str.ofString "pred_info" then ui else if y = Str.ofString "pred" then up else if y = Str.ofString "nodeinfo" then some (.ref n.a) else List.lookup y [(Str.ofString "self", Value.ref x), (Str.ofString "node", Value.int k t), (Str.ofString "predecessors", Value.ref q)].reverse) : AdJ w L' L q x dx d oL od t t1 t2 t3 t4 po nf vs rest ns n k B ps I i m₁ news₁

noncomputable def gOut (g : List GV) (rs : List Int) : List GV := rs.foldl (fun g k => gMod g k fun v => (v.1, -1, v.2.2)) g

theorem clear_N {w : World} {A : Around} {s : Shared} {E : Value → Shared → Prop} {hb : Heap} {L D : Addr} {m : Str → Option Value} {news : List (Addr × Obj)} {g : Obj → List (Addr × Obj)} {its : Array Value} {n : Nat} {Q : Value → Shared → Prop}
    (F : Fr hb L s.heap m) (N : News hb L s.heap news) (U : UpdF D (W.listOf its n) news g) (hz : its.size ≤ 1000) (h : ∀ h' n', Fr hb L h' m → News hb L h' (g (W.listOf #[] n')) → Q .none { s with heap := h' }) :
    wpAny (model PP w) A (call (.builtin "list.clear") [.ref D]) Q E s := by
  focus (refine hid fun hGo => ?_; obtain ⟨pre, post, rfl, hg, h1, h2⟩ := U.split; all_goals (refine hGo ?_; clear hGo))
  have z := N (D, W.listOf its n) (List.mem_append_right _ (.head _))
  refine call_meets PySem.F.slot_list_clear ⟨_, z.1, rfl⟩ PySem.F.entry_list_clear (PySem.F.args_list_clear_1 _) (PySem.AutoSeq1.list_clear_list_0 D its n (by rw [sizeLine_eq]; omega)) ⟨z.1, ?_⟩
  refine h _ (if ((#[] : Array Value).size == its.size) = true then n else n + 1) (F.change (Heap.SameBut.update ..) z.2.1 z.2.2) ?_
  rw [hg]
  exact N.setAt h1 h2 (Heap.SameBut.update ..) (Heap.get?_update_self _ z.1 rfl)

inductive RdJ (w : World) (L : Nat) (q : Nat) (x : Nat) (dx : Nat) (d : Nat) (r : Nat) (oL : Obj) (od : Obj) (t1 : Tok) (t2 : Tok) (t3 : Tok) (t4 : Tok) (tpo : Tok) (po : Int) (nf : Value) (rv : Array Value) (re : Nat) (rest : List (Addr × Obj)) (ns : List Nd) (B : Nat) (rs : List Int) (I : Nat) (i : Nat) (m₁ : Str → Option Value) (news₁ : List (Addr × Obj)) : Prop
  | mk (e1 : @LT.lt Nat _ q I) (un : Option Value) (ns₂ : List Nd) (e2 : news₁ = [(q, tupOf rv 0), (L, oL), (x, instObj 137 dx), (dx, soDict w t1 t2 t3 t4 d (.ref r) (.int po tpo) nf), (d, od), (r, W.listOf rv re)] ++ (nodesLed ns₂ ++ rest)) (e3 : NsOk ns₂ B) (e4 : nodesFoot ns₂ = nodesFoot ns) (e5 : nodesKvs ns₂ = nodesKvs ns) (e6 : ns₂.map Nd.view = gOut (ns.map Nd.view) (rs.take i)) (e7 : m₁ = fun y => if y = Str.ofString "node" then un else if y = Str.ofString "n2i" then some (.ref d) else if y = Str.ofString "result" then some (.ref q) else List.lookup y [(Str.ofString "self", Value.ref x)].reverse) : RdJ w L q x dx d r oL od t1 t2 t3 t4 tpo po nf rv re rest ns B rs I i m₁ news₁
theorem ready_spec {w : World} {A : Around} {s : Shared} {hb : Heap} {L : Addr} {m : Str → Option Value} {rest : List (Addr × Obj)} {x dx d r : Addr} {od : Obj} {ns : List Nd} {B : Nat} {t1 t2 t3 t4 tpo : Tok} {po : Int} {nf : Value} {rv : Array Value} {re : Nat} {rs : List Int} {Q : Value → Shared → Prop} {E : Value → Shared → Prop}
    (G : Gd w hb) (hA : Le A (std 950 5000)) (F : Fr hb L s.heap m) (N : News hb L s.heap ((x, instObj 137 dx) :: (dx, soDict w t1 t2 t3 t4 d (.ref r) (.int po tpo) nf) :: (d, od) :: (r, W.listOf rv re) :: (nodesLed ns ++ rest)))
    (hod : od.IsDictOf (intKind PP w) (nodesKvs ns)) (hlo : (d == sysModules) = false) (hok : NsOk ns B)
    (hH : ∀ a ∈ nodesFoot ns, @Ne Nat a x ∧ @Ne Nat a dx ∧ @Ne Nat a d ∧ @Ne Nat a r) (hrest : ∀ p ∈ rest, p.1 ∉ nodesFoot ns) (hr1 : @Ne Nat r x ∧ @Ne Nat r dx ∧ @Ne Nat r d) (hr2 : @Ne Nat dx x ∧ @Ne Nat dx d) (hr3 : ∀ p ∈ rest, p.1 ≠ r ∧ p.1 ≠ dx)
    (hi : IntsAre rv.toList rs) (hps : ∀ p ∈ rs, p ∈ ns.map (·.k)) (hvs : rv.size ≤ 1000)
    (hQ : ∀ h' tk ns' q tpo' re', Fr hb L h' m → News hb L h' ((q, tupOf rv 0) :: (x, instObj 137 dx) :: (dx, soDict w t1 t2 t3 t4 d (.ref r) (.int (po + rs.length) tpo') nf) :: (d, od) :: (r, W.listOf #[] re') :: (nodesLed ns' ++ rest)) → NsOk ns' B →
      nodesFoot ns' = nodesFoot ns → nodesKvs ns' = nodesKvs ns → ns'.map Nd.view = gOut (ns.map Nd.view) rs → (∀ p ∈ rest, @LT.lt Nat _ p.1 q) → Q (.ref q) { s with heap := h', toks := tk }) :
    wpAny (model PP w) A (call (.ref 99) [.ref x]) Q E s := by
  refine wpAny_le hA ?_
  have X := G.X
  focus (refine hid fun hGo => ?_; obtain ⟨mg, mb, T⟩ := G.T; all_goals (refine hGo ?_; clear hGo))
  refine enterB (binds := [(Str.ofString "self", .ref x)]) G F N (by decide) (by k_is) (by k_is) (BindsTo.of_eq rfl) (by decide) (locs rfl) ?_
  intro h₁ L' tk oL bk hL hN F₁ N₁
  focus (refine hid fun hGo => ?_; obtain ⟨r1, r2, r3⟩ : NeH r x ∧ NeH r dx ∧ NeH r d := id hr1; all_goals (refine hGo ?_; clear hGo))
  focus (refine hid fun hGo => ?_; obtain ⟨r4, r5⟩ : NeH dx x ∧ NeH dx d := id hr2; all_goals (refine hGo ?_; clear hGo))
  have l3 := hN _ (.head _)
  have l4 := hN _ (.tail _ (.head _))
  have l4' := hN _ (.tail _ (.tail _ (.head _)))
  have l4'' := hN _ (.tail _ (.tail _ (.tail _ (.head _))))
  have l5 : @Ne Nat dx L := (N _ (.tail _ (.head _))).2.1
  have l6 : @Ne Nat x L := (N _ (.head _)).2.1
  have l7 : @Ne Nat d L := (N _ (.tail _ (.tail _ (.head _)))).2.1
  have l7' : @Ne Nat r L := (N _ (.tail _ (.tail _ (.tail _ (.head _))))).2.1
  have l8 : ∀ p ∈ nodesLed ns ++ rest, p.1 ≠ L := fun p hp => (N _ (.tail _ (.tail _ (.tail _ (.tail _ hp))))).2.1
  have l9 : ∀ p ∈ nodesLed ns ++ rest, @LT.lt Nat _ p.1 L' := fun p hp => hN _ (.tail _ (.tail _ (.tail _ (.tail _ hp))))
  change wpAny (model PP w) (std 951 5003) _ _ _ _
  refine execs_seq ?_
  intro Q₁ hn₁ hr₁ hb₁ hc₁
  repeat' (first | ((with_reducible show wpAny _ _ (execs (_ :: _) _) _ _ _); refine execs_seq ?_; intro QZs hnZs hrZs hbZs hcZs) | (refine hnZs _ ?_; clear hnZs hrZs hbZs hcZs) | (refine hrZs _ _ ?_) | (refine hbZs _ ?_) | (refine hcZs _ ?_) | ((with_reducible show wpAny _ _ (call (Value.type "tuple") [Value.ref _]) _ _ _); refine kde_tupleOf (by assumption) (by assumption) (News.isList (by assumption) (by k_mem)) (by first | exact leK (by assumption) (by exact rfl) | omega) rfl ?_; intro DZq hZq FZq NZq l1Zq; (try k_lt l1Zq); (try k_sweep)) | ((with_reducible show wpAny _ _ (call (Value.builtin "len") [Value.ref _]) _ _ _); refine len_tuple (News.isTup (by assumption) (by k_mem)) (by first | exact lt63 (by assumption) (by exact rfl) | omega) ?_) | ((with_reducible show wpAny _ _ (subscriptTail _ _ (Value.ref _) (Value.int _ _)) _ _ _); refine ditem_tail (by first | exact dictOf_N (by assumption) (by k_mem) (by assumption) | exact dictOf_B (by assumption) (by assumption) (by assumption)) (by assumption) ?_) | ((with_reducible show wpAny _ _ (call (Value.builtin "list.clear") [Value.ref _]) _ _ _); refine clear_N (by k_asm) (by k_asm) (by k_updF) (by first | assumption | exact leK (by assumption) (by exact rfl) | omega) ?_; intro hZq nZq FZq NZq; (try dsimp only at NZq); (try k_sweep)) | walk1 | (dsimp only; first | ((with_reducible show wpAny _ _ (execs (_ :: _) _) _ _ _); refine execs_seq ?_; intro QZs hnZs hrZs hbZs hcZs) | (refine hnZs _ ?_; clear hnZs hrZs hbZs hcZs) | (refine hrZs _ _ ?_) | (refine hbZs _ ?_) | (refine hcZs _ ?_) | ((with_reducible show wpAny _ _ (call (Value.type "tuple") [Value.ref _]) _ _ _); refine kde_tupleOf (by assumption) (by assumption) (News.isList (by assumption) (by k_mem)) (by first | exact leK (by assumption) (by exact rfl) | omega) rfl ?_; intro DZq hZq FZq NZq l1Zq; (try k_lt l1Zq); (try k_sweep)) | ((with_reducible show wpAny _ _ (call (Value.builtin "len") [Value.ref _]) _ _ _); refine len_tuple (News.isTup (by assumption) (by k_mem)) (by first | exact lt63 (by assumption) (by exact rfl) | omega) ?_) | ((with_reducible show wpAny _ _ (subscriptTail _ _ (Value.ref _) (Value.int _ _)) _ _ _); refine ditem_tail (by first | exact dictOf_N (by assumption) (by k_mem) (by assumption) | exact dictOf_B (by assumption) (by assumption) (by assumption)) (by assumption) ?_) | ((with_reducible show wpAny _ _ (call (Value.builtin "list.clear") [Value.ref _]) _ _ _); refine clear_N (by k_asm) (by k_asm) (by k_updF) (by first | assumption | exact leK (by assumption) (by exact rfl) | omega) ?_; intro hZq nZq FZq NZq; (try dsimp only at NZq); (try k_sweep)) | walk1))
  refine hn₁ _ ?_
  clear hn₁ hr₁ hb₁ hc₁
  refine execs_seq ?_
  intro Q₁ hn₁ hr₁ hb₁ hc₁
  repeat' (first | ((with_reducible show wpAny _ _ (execs (_ :: _) _) _ _ _); refine execs_seq ?_; intro QZs hnZs hrZs hbZs hcZs) | (refine hnZs _ ?_; clear hnZs hrZs hbZs hcZs) | (refine hrZs _ _ ?_) | (refine hbZs _ ?_) | (refine hcZs _ ?_) | ((with_reducible show wpAny _ _ (call (Value.type "tuple") [Value.ref _]) _ _ _); refine kde_tupleOf (by assumption) (by assumption) (News.isList (by assumption) (by k_mem)) (by first | exact leK (by assumption) (by exact rfl) | omega) rfl ?_; intro DZq hZq FZq NZq l1Zq; (try k_lt l1Zq); (try k_sweep)) | ((with_reducible show wpAny _ _ (call (Value.builtin "len") [Value.ref _]) _ _ _); refine len_tuple (News.isTup (by assumption) (by k_mem)) (by first | exact lt63 (by assumption) (by exact rfl) | omega) ?_) | ((with_reducible show wpAny _ _ (subscriptTail _ _ (Value.ref _) (Value.int _ _)) _ _ _); refine ditem_tail (by first | exact dictOf_N (by assumption) (by k_mem) (by assumption) | exact dictOf_B (by assumption) (by assumption) (by assumption)) (by assumption) ?_) | ((with_reducible show wpAny _ _ (call (Value.builtin "list.clear") [Value.ref _]) _ _ _); refine clear_N (by k_asm) (by k_asm) (by k_updF) (by first | assumption | exact leK (by assumption) (by exact rfl) | omega) ?_; intro hZq nZq FZq NZq; (try dsimp only at NZq); (try k_sweep)) | walk1 | (dsimp only; first | ((with_reducible show wpAny _ _ (execs (_ :: _) _) _ _ _); refine execs_seq ?_; intro QZs hnZs hrZs hbZs hcZs) | (refine hnZs _ ?_; clear hnZs hrZs hbZs hcZs) | (refine hrZs _ _ ?_) | (refine hbZs _ ?_) | (refine hcZs _ ?_) | ((with_reducible show wpAny _ _ (call (Value.type "tuple") [Value.ref _]) _ _ _); refine kde_tupleOf (by assumption) (by assumption) (News.isList (by assumption) (by k_mem)) (by first | exact leK (by assumption) (by exact rfl) | omega) rfl ?_; intro DZq hZq FZq NZq l1Zq; (try k_lt l1Zq); (try k_sweep)) | ((with_reducible show wpAny _ _ (call (Value.builtin "len") [Value.ref _]) _ _ _); refine len_tuple (News.isTup (by assumption) (by k_mem)) (by first | exact lt63 (by assumption) (by exact rfl) | omega) ?_) | ((with_reducible show wpAny _ _ (subscriptTail _ _ (Value.ref _) (Value.int _ _)) _ _ _); refine ditem_tail (by first | exact dictOf_N (by assumption) (by k_mem) (by assumption) | exact dictOf_B (by assumption) (by assumption) (by assumption)) (by assumption) ?_) | ((with_reducible show wpAny _ _ (call (Value.builtin "list.clear") [Value.ref _]) _ _ _); refine clear_N (by k_asm) (by k_asm) (by k_updF) (by first | assumption | exact leK (by assumption) (by exact rfl) | omega) ?_; intro hZq nZq FZq NZq; (try dsimp only at NZq); (try k_sweep)) | walk1))
  refine hn₁ _ ?_
  clear hn₁ hr₁ hb₁ hc₁
  refine execs_seq ?_
  intro Q₁ hn₁ hr₁ hb₁ hc₁
  repeat' (first | ((with_reducible show wpAny _ _ (execs (_ :: _) _) _ _ _); refine execs_seq ?_; intro QZs hnZs hrZs hbZs hcZs) | (refine hnZs _ ?_; clear hnZs hrZs hbZs hcZs) | (refine hrZs _ _ ?_) | (refine hbZs _ ?_) | (refine hcZs _ ?_) | ((with_reducible show wpAny _ _ (call (Value.type "tuple") [Value.ref _]) _ _ _); refine kde_tupleOf (by assumption) (by assumption) (News.isList (by assumption) (by k_mem)) (by first | exact leK (by assumption) (by exact rfl) | omega) rfl ?_; intro DZq hZq FZq NZq l1Zq; (try k_lt l1Zq); (try k_sweep)) | ((with_reducible show wpAny _ _ (call (Value.builtin "len") [Value.ref _]) _ _ _); refine len_tuple (News.isTup (by assumption) (by k_mem)) (by first | exact lt63 (by assumption) (by exact rfl) | omega) ?_) | ((with_reducible show wpAny _ _ (subscriptTail _ _ (Value.ref _) (Value.int _ _)) _ _ _); refine ditem_tail (by first | exact dictOf_N (by assumption) (by k_mem) (by assumption) | exact dictOf_B (by assumption) (by assumption) (by assumption)) (by assumption) ?_) | ((with_reducible show wpAny _ _ (call (Value.builtin "list.clear") [Value.ref _]) _ _ _); refine clear_N (by k_asm) (by k_asm) (by k_updF) (by first | assumption | exact leK (by assumption) (by exact rfl) | omega) ?_; intro hZq nZq FZq NZq; (try dsimp only at NZq); (try k_sweep)) | walk1 | (dsimp only; first | ((with_reducible show wpAny _ _ (execs (_ :: _) _) _ _ _); refine execs_seq ?_; intro QZs hnZs hrZs hbZs hcZs) | (refine hnZs _ ?_; clear hnZs hrZs hbZs hcZs) | (refine hrZs _ _ ?_) | (refine hbZs _ ?_) | (refine hcZs _ ?_) | ((with_reducible show wpAny _ _ (call (Value.type "tuple") [Value.ref _]) _ _ _); refine kde_tupleOf (by assumption) (by assumption) (News.isList (by assumption) (by k_mem)) (by first | exact leK (by assumption) (by exact rfl) | omega) rfl ?_; intro DZq hZq FZq NZq l1Zq; (try k_lt l1Zq); (try k_sweep)) | ((with_reducible show wpAny _ _ (call (Value.builtin "len") [Value.ref _]) _ _ _); refine len_tuple (News.isTup (by assumption) (by k_mem)) (by first | exact lt63 (by assumption) (by exact rfl) | omega) ?_) | ((with_reducible show wpAny _ _ (subscriptTail _ _ (Value.ref _) (Value.int _ _)) _ _ _); refine ditem_tail (by first | exact dictOf_N (by assumption) (by k_mem) (by assumption) | exact dictOf_B (by assumption) (by assumption) (by assumption)) (by assumption) ?_) | ((with_reducible show wpAny _ _ (call (Value.builtin "list.clear") [Value.ref _]) _ _ _); refine clear_N (by k_asm) (by k_asm) (by k_updF) (by first | assumption | exact leK (by assumption) (by exact rfl) | omega) ?_; intro hZq nZq FZq NZq; (try dsimp only at NZq); (try k_sweep)) | walk1))
  refine hn₁ _ ?_
  clear hn₁ hr₁ hb₁ hc₁
  dsimp only at *
  rename Fr _ _ _ _ => F₂
  rename News _ _ _ _ => N₂
  rename Addr => q
  rename _ ∧ _ => hq
  have q1 : NeH q r := Nat.ne_of_gt hq.2.2.2.2.1
  have q2 : NeH q dx := Nat.ne_of_gt hq.2.2.1
  have q3 : NeH q L := Nat.ne_of_gt hq.1
  have N₃ : News hb L' _ ([(q, tupOf rv 0), (L, oL), (x, instObj 137 dx), (dx, soDict w t1 t2 t3 t4 d (.ref r) (.int po tpo) nf), (d, od), (r, W.listOf rv re)] ++ (nodesLed ns ++ rest)) := N₂
  have htu : ∀ h ns₂, News hb L' h ([(q, tupOf rv 0), (L, oL), (x, instObj 137 dx), (dx, soDict w t1 t2 t3 t4 d (.ref r) (.int po tpo) nf), (d, od), (r, W.listOf rv re)] ++ (nodesLed ns₂ ++ rest)) → h.IsTuple q rv.toList.toArray := fun h ns₂ N => ⟨_, (N (q, tupOf rv 0) (.head _)).1, rfl, 0, rfl⟩
  clear N₂
  refine execs_seq ?_
  intro Q₁ hn₁ hr₁ hb₁ hc₁
  refine wpAny_For ?_ (by intro _; rfl)
  refine opq ?_
  intro Q₄ h₄
  repeat' (first | ((with_reducible show wpAny _ _ (execs (_ :: _) _) _ _ _); refine execs_seq ?_; intro QZs hnZs hrZs hbZs hcZs) | (refine hnZs _ ?_; clear hnZs hrZs hbZs hcZs) | (refine hrZs _ _ ?_) | (refine hbZs _ ?_) | (refine hcZs _ ?_) | ((with_reducible show wpAny _ _ (call (Value.type "tuple") [Value.ref _]) _ _ _); refine kde_tupleOf (by assumption) (by assumption) (News.isList (by assumption) (by k_mem)) (by first | exact leK (by assumption) (by exact rfl) | omega) rfl ?_; intro DZq hZq FZq NZq l1Zq; (try k_lt l1Zq); (try k_sweep)) | ((with_reducible show wpAny _ _ (call (Value.builtin "len") [Value.ref _]) _ _ _); refine len_tuple (News.isTup (by assumption) (by k_mem)) (by first | exact lt63 (by assumption) (by exact rfl) | omega) ?_) | ((with_reducible show wpAny _ _ (subscriptTail _ _ (Value.ref _) (Value.int _ _)) _ _ _); refine ditem_tail (by first | exact dictOf_N (by assumption) (by k_mem) (by assumption) | exact dictOf_B (by assumption) (by assumption) (by assumption)) (by assumption) ?_) | ((with_reducible show wpAny _ _ (call (Value.builtin "list.clear") [Value.ref _]) _ _ _); refine clear_N (by k_asm) (by k_asm) (by k_updF) (by first | assumption | exact leK (by assumption) (by exact rfl) | omega) ?_; intro hZq nZq FZq NZq; (try dsimp only at NZq); (try k_sweep)) | walk1 | (dsimp only; first | ((with_reducible show wpAny _ _ (execs (_ :: _) _) _ _ _); refine execs_seq ?_; intro QZs hnZs hrZs hbZs hcZs) | (refine hnZs _ ?_; clear hnZs hrZs hbZs hcZs) | (refine hrZs _ _ ?_) | (refine hbZs _ ?_) | (refine hcZs _ ?_) | ((with_reducible show wpAny _ _ (call (Value.type "tuple") [Value.ref _]) _ _ _); refine kde_tupleOf (by assumption) (by assumption) (News.isList (by assumption) (by k_mem)) (by first | exact leK (by assumption) (by exact rfl) | omega) rfl ?_; intro DZq hZq FZq NZq l1Zq; (try k_lt l1Zq); (try k_sweep)) | ((with_reducible show wpAny _ _ (call (Value.builtin "len") [Value.ref _]) _ _ _); refine len_tuple (News.isTup (by assumption) (by k_mem)) (by first | exact lt63 (by assumption) (by exact rfl) | omega) ?_) | ((with_reducible show wpAny _ _ (subscriptTail _ _ (Value.ref _) (Value.int _ _)) _ _ _); refine ditem_tail (by first | exact dictOf_N (by assumption) (by k_mem) (by assumption) | exact dictOf_B (by assumption) (by assumption) (by assumption)) (by assumption) ?_) | ((with_reducible show wpAny _ _ (call (Value.builtin "list.clear") [Value.ref _]) _ _ _); refine clear_N (by k_asm) (by k_asm) (by k_updF) (by first | assumption | exact leK (by assumption) (by exact rfl) | omega) ?_; intro hZq nZq FZq NZq; (try dsimp only at NZq); (try k_sweep)) | walk1))
  refine h₄ _ _ ?_
  clear h₄
  refine for_tuple rfl (htu _ _ N₃) F₂ N₃ (RdJ w L q x dx d r oL od t1 t2 t3 t4 tpo po nf rv re rest ns B rs) ?_ ?_ ?_ ?_ ?_
  · focus (rintro I i m₁ news₁ h hP0 _ N; refine hid fun hGo => ?_; rcases hP0 with ⟨_, _, _, rfl, _⟩; all_goals (refine hGo ?_; clear hGo))
    exact htu _ _ N
  · focus (rintro I i m₁ news₁ hP0; refine hid fun hGo => ?_; rcases hP0 with ⟨hI, _, ns₂, rfl, _, hft, _⟩; all_goals (refine hGo ?_; clear hGo))
    refine fmc (Nat.ne_of_lt hI) (fmc (Nat.ne_of_lt (Nat.lt_trans hq.1 hI)) (fmc (Nat.ne_of_lt (Nat.lt_trans hq.2.1 hI)) (fmc (Nat.ne_of_lt (Nat.lt_trans hq.2.2.1 hI)) (fmc (Nat.ne_of_lt (Nat.lt_trans hq.2.2.2.1 hI)) (fmc (Nat.ne_of_lt (Nat.lt_trans hq.2.2.2.2.1 hI)) ?_)))))
    intro p hp
    try simp only [List.nil_append, List.append] at hp
    focus (refine hid fun hGo => ?_; rcases List.mem_append.mp hp with hp | hp; all_goals (refine hGo ?_; clear hGo))
    · have : p.1 ∈ nodesFoot ns := by rw [← hft, nodesFoot_eq]; exact List.mem_map_of_mem hp
      focus (refine hid fun hGo => ?_; obtain ⟨p', hp', e⟩ := led_addr (rest := rest) this; all_goals (refine hGo ?_; clear hGo))
      exact e ▸ Nat.ne_of_lt (Nat.lt_trans (allLt_mem hq.2.2.2.2.2 p' hp') hI)
    · exact Nat.ne_of_lt (Nat.lt_trans (allLt_mem hq.2.2.2.2.2 p (List.mem_append_right _ hp)) hI)
  · intro I hI _ hLI
    exact ⟨hI _ (.head _), none, ns, rfl, hok, rfl, rfl, rfl, mset rfl⟩
  · focus (rintro I i v m₁ news₁ h tk oI _ _ _ hv hP0 F₅ N₆; refine hid fun hGo => ?_; rcases hP0 with ⟨hI, un, ns₂, rfl, hok₂, hft₂, hkv₂, hvw₂, rfl⟩; all_goals (refine hGo ?_; clear hGo))
    focus (refine hid fun hGo => ?_; obtain ⟨p, tp, hp, rfl⟩ := ints_at hi hv; all_goals (refine hGo ?_; clear hGo))
    have hkeys : ns₂.map (·.k) = ns.map (·.k) := by have := congrArg (List.map Prod.fst) hkv₂; simpa [nodesKvs, List.map_map, Function.comp_def] using this
    have hpk : p ∈ ns₂.map (·.k) := by rw [hkeys]; exact hps p (List.mem_of_getElem? hp)
    focus (refine hid fun hGo => ?_; obtain ⟨pre, n₂, post, hns₂, hnk₂⟩ := ns_split hpk; all_goals (refine hGo ?_; clear hGo))
    have hval : valueAt (nodesKvs ns) p = some (.ref n₂.a) := by rw [← hkv₂, ← hnk₂]; exact kvs_value hok₂.keysOk (by rw [hns₂]; simp)
    have hfa := foot_mem (pre := pre) (n := n₂) (post := post)
    rw [← hns₂, hft₂] at hfa
    have hrest₂ : ∀ p ∈ rest, p.1 ∉ nodesFoot ns₂ := by rw [hft₂]; exact hrest
    focus (refine hid fun hGo => ?_; obtain ⟨o1, o2, o3⟩ := tail_off (hns₂ ▸ hok₂.footOk) (hns₂ ▸ hrest₂); all_goals (refine hGo ?_; clear hGo))
    focus (refine hid fun hGo => ?_; obtain ⟨_, c1, c2, c3⟩ := node_off (hns₂ ▸ hok₂.footOk); all_goals (refine hGo ?_; clear hGo))
    focus (refine hid fun hGo => ?_; obtain ⟨e1, e2, e3, e4⟩ : NeH n₂.a x ∧ NeH n₂.a dx ∧ NeH n₂.a d ∧ NeH n₂.a r := hH _ hfa.1; all_goals (refine hGo ?_; clear hGo))
    have c5 : @LT.lt Nat _ n₂.a q := by obtain ⟨p, hp, e⟩ := led_addr (rest := rest) hfa.1; exact e ▸ allLt_mem hq.2.2.2.2.2 p hp
    have c6 : @Ne Nat n₂.a L := by obtain ⟨p, hp, e⟩ := led_addr (rest := rest) hfa.1; exact e ▸ l8 p hp
    have e5 : NeH n₂.a I := Nat.ne_of_lt (Nat.lt_trans c5 hI)
    have N₇ := News.sub (l' := n₂.led ++ ([(I, oI), (q, tupOf rv 0), (L, oL), (x, instObj 137 dx), (dx, soDict w t1 t2 t3 t4 d (.ref r) (.int po tpo) nf), (d, od), (r, W.listOf rv re)] ++ (nodesLed pre ++ (nodesLed post ++ rest)))) (News.sub N₆ (l' := [(I, oI), (q, tupOf rv 0), (L, oL), (x, instObj 137 dx), (dx, soDict w t1 t2 t3 t4 d (.ref r) (.int po tpo) nf), (d, od), (r, W.listOf rv re)] ++ (nodesLed ns₂ ++ rest)) (fun _ h => h)) (by rw [hns₂]; exact led_out)
    clear N₆
    simp only [Nd.led, Nd.obj, List.cons_append, List.nil_append] at N₇
    repeat' (first | ((with_reducible show wpAny _ _ (execs (_ :: _) _) _ _ _); refine execs_seq ?_; intro QZs hnZs hrZs hbZs hcZs) | (refine hnZs _ ?_; clear hnZs hrZs hbZs hcZs) | (refine hrZs _ _ ?_) | (refine hbZs _ ?_) | (refine hcZs _ ?_) | ((with_reducible show wpAny _ _ (call (Value.type "tuple") [Value.ref _]) _ _ _); refine kde_tupleOf (by assumption) (by assumption) (News.isList (by assumption) (by k_mem)) (by first | exact leK (by assumption) (by exact rfl) | omega) rfl ?_; intro DZq hZq FZq NZq l1Zq; (try k_lt l1Zq); (try k_sweep)) | ((with_reducible show wpAny _ _ (call (Value.builtin "len") [Value.ref _]) _ _ _); refine len_tuple (News.isTup (by assumption) (by k_mem)) (by first | exact lt63 (by assumption) (by exact rfl) | omega) ?_) | ((with_reducible show wpAny _ _ (subscriptTail _ _ (Value.ref _) (Value.int _ _)) _ _ _); refine ditem_tail (by first | exact dictOf_N (by assumption) (by k_mem) (by assumption) | exact dictOf_B (by assumption) (by assumption) (by assumption)) (by assumption) ?_) | ((with_reducible show wpAny _ _ (call (Value.builtin "list.clear") [Value.ref _]) _ _ _); refine clear_N (by k_asm) (by k_asm) (by k_updF) (by first | assumption | exact leK (by assumption) (by exact rfl) | omega) ?_; intro hZq nZq FZq NZq; (try dsimp only at NZq); (try k_sweep)) | walk1 | (dsimp only; first | ((with_reducible show wpAny _ _ (execs (_ :: _) _) _ _ _); refine execs_seq ?_; intro QZs hnZs hrZs hbZs hcZs) | (refine hnZs _ ?_; clear hnZs hrZs hbZs hcZs) | (refine hrZs _ _ ?_) | (refine hbZs _ ?_) | (refine hcZs _ ?_) | ((with_reducible show wpAny _ _ (call (Value.type "tuple") [Value.ref _]) _ _ _); refine kde_tupleOf (by assumption) (by assumption) (News.isList (by assumption) (by k_mem)) (by first | exact leK (by assumption) (by exact rfl) | omega) rfl ?_; intro DZq hZq FZq NZq l1Zq; (try k_lt l1Zq); (try k_sweep)) | ((with_reducible show wpAny _ _ (call (Value.builtin "len") [Value.ref _]) _ _ _); refine len_tuple (News.isTup (by assumption) (by k_mem)) (by first | exact lt63 (by assumption) (by exact rfl) | omega) ?_) | ((with_reducible show wpAny _ _ (subscriptTail _ _ (Value.ref _) (Value.int _ _)) _ _ _); refine ditem_tail (by first | exact dictOf_N (by assumption) (by k_mem) (by assumption) | exact dictOf_B (by assumption) (by assumption) (by assumption)) (by assumption) ?_) | ((with_reducible show wpAny _ _ (call (Value.builtin "list.clear") [Value.ref _]) _ _ _); refine clear_N (by k_asm) (by k_asm) (by k_updF) (by first | assumption | exact leK (by assumption) (by exact rfl) | omega) ?_; intro hZq nZq FZq NZq; (try dsimp only at NZq); (try k_sweep)) | walk1))
    all_goals dsimp only at *
    rename Fr _ _ _ _ => F₈
    rename News _ _ _ _ => N₈
    have hB' : NsOk (pre ++ { n₂ with np := -1, npt := 197 } :: post) B := nsOk_put (n := n₂) (B := B) (hns₂ ▸ hok₂) (Nat.le_refl _) rfl rfl rfl rfl (hok₂.valsOk n₂ (by rw [hns₂]; simp))
    refine TurnEnd.go F₈ ?_ ⟨hI, (some (.int p tp)), (pre ++ { n₂ with np := -1, npt := 197 } :: post), rfl, hB', ?_, ?_, ?_, mset2⟩
    · exact News.sub (l := ({ n₂ with np := -1, npt := 197 } : Nd).led ++ ([(I, oI), (q, tupOf rv 0), (L, oL), (x, instObj 137 dx), (dx, soDict w t1 t2 t3 t4 d (.ref r) (.int po tpo) nf), (d, od), (r, W.listOf rv re)] ++ (nodesLed pre ++ (nodesLed post ++ rest)))) N₈ (led_in (H := [(I, oI), (q, tupOf rv 0), (L, oL), (x, instObj 137 dx), (dx, soDict w t1 t2 t3 t4 d (.ref r) (.int po tpo) nf), (d, od), (r, W.listOf rv re)]))
    · rw [← hft₂, hns₂]; exact foot_put (n := n₂) rfl rfl rfl
    · rw [← hkv₂, hns₂]; exact kvs_put (n := n₂) rfl rfl
    · rw [gOut] at hvw₂
      rw [gOut, List.take_add_one, hp, List.foldl_append, ← hvw₂, hns₂]
      simp only [Option.toList_some, List.foldl_cons, List.foldl_nil]
      rw [← hnk₂]
      exact (gMod_view (hns₂ ▸ hok₂.keysOk) (by simp only [Nd.view])).symm
  · focus (rintro I m₁ news₁ h tk hP0 F₅ N₆; refine hid fun hGo => ?_; rcases hP0 with ⟨hI, un, ns₂, rfl, hok₂, hft₂, hkv₂, hvw₂, rfl⟩; all_goals (refine hGo ?_; clear hGo))
    refine hn₁ _ ?_
    simp only [List.cons_append, List.nil_append] at N₆
    have o0 : ∀ p ∈ nodesLed ns₂ ++ rest, p.1 ≠ r ∧ p.1 ≠ dx ∧ p.1 ≠ L := by
      intro p hp
      focus (refine hid fun hGo => ?_; rcases List.mem_append.mp hp with hp | hp; all_goals (refine hGo ?_; clear hGo))
      · have hm : p.1 ∈ nodesFoot ns := by rw [← hft₂, nodesFoot_eq]; exact List.mem_map_of_mem hp
        have := hH _ hm
        focus (refine hid fun hGo => ?_; obtain ⟨p', hp', e⟩ := led_addr (rest := rest) hm; all_goals (refine hGo ?_; clear hGo))
        exact ⟨this.2.2.2, this.2.1, e ▸ l8 p' hp'⟩
      · exact ⟨(hr3 p hp).1, (hr3 p hp).2, l8 p (List.mem_append_right _ hp)⟩
    have o1 : ∀ p ∈ nodesLed ns₂ ++ rest, p.1 ≠ r := fun p hp => (o0 p hp).1
    have o2 : ∀ p ∈ nodesLed ns₂ ++ rest, p.1 ≠ dx := fun p hp => (o0 p hp).2.1
    have q4 : NeH I r := Nat.ne_of_gt (Nat.lt_trans hq.2.2.2.2.1 hI)
    have q5 : NeH I dx := Nat.ne_of_gt (Nat.lt_trans hq.2.2.1 hI)
    repeat' (first | ((with_reducible show wpAny _ _ (execs (_ :: _) _) _ _ _); refine execs_seq ?_; intro QZs hnZs hrZs hbZs hcZs) | (refine hnZs _ ?_; clear hnZs hrZs hbZs hcZs) | (refine hrZs _ _ ?_) | (refine hbZs _ ?_) | (refine hcZs _ ?_) | ((with_reducible show wpAny _ _ (call (Value.type "tuple") [Value.ref _]) _ _ _); refine kde_tupleOf (by assumption) (by assumption) (News.isList (by assumption) (by k_mem)) (by first | exact leK (by assumption) (by exact rfl) | omega) rfl ?_; intro DZq hZq FZq NZq l1Zq; (try k_lt l1Zq); (try k_sweep)) | ((with_reducible show wpAny _ _ (call (Value.builtin "len") [Value.ref _]) _ _ _); refine len_tuple (News.isTup (by assumption) (by k_mem)) (by first | exact lt63 (by assumption) (by exact rfl) | omega) ?_) | ((with_reducible show wpAny _ _ (subscriptTail _ _ (Value.ref _) (Value.int _ _)) _ _ _); refine ditem_tail (by first | exact dictOf_N (by assumption) (by k_mem) (by assumption) | exact dictOf_B (by assumption) (by assumption) (by assumption)) (by assumption) ?_) | ((with_reducible show wpAny _ _ (call (Value.builtin "list.clear") [Value.ref _]) _ _ _); refine clear_N (by k_asm) (by k_asm) (by k_updF) (by first | assumption | exact leK (by assumption) (by exact rfl) | omega) ?_; intro hZq nZq FZq NZq; (try dsimp only at NZq); (try k_sweep)) | walk1 | (dsimp only; first | ((with_reducible show wpAny _ _ (execs (_ :: _) _) _ _ _); refine execs_seq ?_; intro QZs hnZs hrZs hbZs hcZs) | (refine hnZs _ ?_; clear hnZs hrZs hbZs hcZs) | (refine hrZs _ _ ?_) | (refine hbZs _ ?_) | (refine hcZs _ ?_) | ((with_reducible show wpAny _ _ (call (Value.type "tuple") [Value.ref _]) _ _ _); refine kde_tupleOf (by assumption) (by assumption) (News.isList (by assumption) (by k_mem)) (by first | exact leK (by assumption) (by exact rfl) | omega) rfl ?_; intro DZq hZq FZq NZq l1Zq; (try k_lt l1Zq); (try k_sweep)) | ((with_reducible show wpAny _ _ (call (Value.builtin "len") [Value.ref _]) _ _ _); refine len_tuple (News.isTup (by assumption) (by k_mem)) (by first | exact lt63 (by assumption) (by exact rfl) | omega) ?_) | ((with_reducible show wpAny _ _ (subscriptTail _ _ (Value.ref _) (Value.int _ _)) _ _ _); refine ditem_tail (by first | exact dictOf_N (by assumption) (by k_mem) (by assumption) | exact dictOf_B (by assumption) (by assumption) (by assumption)) (by assumption) ?_) | ((with_reducible show wpAny _ _ (call (Value.builtin "list.clear") [Value.ref _]) _ _ _); refine clear_N (by k_asm) (by k_asm) (by k_updF) (by first | assumption | exact leK (by assumption) (by exact rfl) | omega) ?_; intro hZq nZq FZq NZq; (try dsimp only at NZq); (try k_sweep)) | walk1))
    all_goals dsimp only at *
    rename Fr _ _ _ _ => F₈
    rename News _ _ _ _ => N₈
    have hsz : (rv.size : Int) = rs.length := by have := hi.length; simp only [Array.length_toList] at this; rw [this]
    rw [hsz] at N₈
    rw [hi.length, List.take_length] at hvw₂
    obtain ⟨F₉, N₉⟩ := backN bk F₈ (News.sub (l' := (L, oL) :: (q, tupOf rv 0) :: (x, instObj 137 dx) :: (dx, _) :: (d, od) :: (r, _) :: (nodesLed ns₂ ++ rest)) N₈ (by ((repeat' (first | exact List.forall_mem_nil _ | (refine fmc (by k_memK) ?_) | (intro p hp; k_ownIn)))))) (by
      refine fmc (Nat.ne_of_gt hq.1) (fmc l6 (fmc l5 (fmc l7 (fmc l7' ?_))))
      intro p hp
      try simp only [List.nil_append, List.append] at hp
      exact (o0 p hp).2.2)
    exact hQ _ _ ns₂ q _ _ F₉ N₉ hok₂ hft₂ hkv₂ hvw₂ (fun p hp => allLt_mem hq.2.2.2.2.2 p (List.mem_append_right _ hp))

noncomputable def Nd.shape (n : Nd) : Int × Addr × Addr × Addr × Array Value × Nat := (n.k, n.a, n.dx, n.l, n.sv, n.le)
theorem shape_foot {ns ns' : List Nd} (h : ns'.map Nd.shape = ns.map Nd.shape) : nodesFoot ns' = nodesFoot ns := by
  have e : ∀ l : List Nd, nodesFoot l = (l.map Nd.shape).flatMap fun s => [s.2.1, s.2.2.1, s.2.2.2.1] := fun l => by
    induction l with
    | nil => rfl
    | cons n l ih => rw [nodesFoot_cons, ih]; rfl
  rw [e, e, h]
theorem shape_kvs {ns ns' : List Nd} (h : ns'.map Nd.shape = ns.map Nd.shape) : nodesKvs ns' = nodesKvs ns := by
  have e : ∀ l : List Nd, nodesKvs l = (l.map Nd.shape).map fun s => (s.1, Value.ref s.2.1) := fun l => by
    rw [List.map_map]; rfl
  rw [e, e, h]
theorem shape_keys {ns ns' : List Nd} (h : ns'.map Nd.shape = ns.map Nd.shape) : ns'.map (·.k) = ns.map (·.k) := by
  have e : ∀ l : List Nd, l.map (·.k) = (l.map Nd.shape).map (·.1) := fun l => by rw [List.map_map]; rfl
  rw [e, e, h]
theorem shape_list {ns ns' : List Nd} (h : ns'.map Nd.shape = ns.map Nd.shape) {n : Nd} (hn : n ∈ ns) : (n.l, W.listOf n.sv n.le) ∈ nodesLed ns' := by
  have : n.shape ∈ ns'.map Nd.shape := by rw [h]; exact List.mem_map_of_mem hn
  focus (refine hid fun hGo => ?_; obtain ⟨n', hn', e⟩ := List.mem_map.mp this; all_goals (refine hGo ?_; clear hGo))
  simp only [Nd.shape, Prod.mk.injEq] at e
  focus (refine hid fun hGo => ?_; obtain ⟨_, _, _, e4, e5, e6⟩ := e; all_goals (refine hGo ?_; clear hGo))
  refine List.mem_flatMap.mpr ⟨n', hn', ?_⟩
  rw [← e4, ← e5, ← e6]
  exact .tail _ (.tail _ (.head _))
theorem shape_ok {ns ns' : List Nd} {B : Nat} (h : ns'.map Nd.shape = ns.map Nd.shape) (hok : NsOk ns B) : NsOk ns' B where
  valsOk := by
    intro n hn
    have : n.shape ∈ ns.map Nd.shape := by rw [← h]; exact List.mem_map_of_mem hn
    focus (refine hid fun hGo => ?_; obtain ⟨n', hn', e⟩ := List.mem_map.mp this; all_goals (refine hGo ?_; clear hGo))
    simp only [Nd.shape, Prod.mk.injEq] at e
    have := hok.valsOk n' hn'
    rwa [e.2.2.2.2.1] at this
  keysOk := by rw [shape_keys h]; exact hok.keysOk
  footOk := by rw [shape_foot h]; exact hok.footOk
theorem shape_put {pre post : List Nd} {n n' : Nd} (h : n'.shape = n.shape) : (pre ++ n' :: post).map Nd.shape = (pre ++ n :: post).map Nd.shape := by
  simp only [List.map_append, List.map_cons, h]

noncomputable def gNp (g : List GV) (k : Int) : Int := ((g.find? fun v => decide (v.1 = k)).map (·.2.1)).getD 0
noncomputable def gStep (gr : List GV × List Int) (s : Int) : List GV × List Int :=
  let g' := gMod gr.1 s fun v => (v.1, v.2.1 - 1, v.2.2)
  (g', if gNp g' s = 0 then gr.2 ++ [s] else gr.2)
noncomputable def gDone (g : List GV) (rs : List Int) (k : Int) (ss : List Int) : List GV × List Int := ss.foldl gStep (gMod g k (fun v => (v.1, -2, v.2.2)), rs)

theorem gNp_view {pre post : List Nd} {n : Nd} (h : ((pre ++ n :: post).map (·.k)).Nodup) : gNp ((pre ++ n :: post).map Nd.view) n.k = n.np := by
  focus (refine hid fun hGo => ?_; obtain ⟨h1, _⟩ := key_off h; all_goals (refine hGo ?_; clear hGo))
  unfold gNp
  rw [List.map_append, List.find?_append, List.map_cons]
  have : List.find? (fun v : GV => decide (v.1 = n.k)) (List.map Nd.view pre) = none := by
    rw [List.find?_eq_none]
    intro v hv
    focus (refine hid fun hGo => ?_; obtain ⟨q, hq, rfl⟩ := List.mem_map.mp hv; all_goals (refine hGo ?_; clear hGo))
    simp [Nd.view, h1 q hq]
  rw [this]
  simp [Nd.view]

theorem gStep_view {pre post : List Nd} {n n' : Nd} {rs : List Int} (h : ((pre ++ n :: post).map (·.k)).Nodup) (hk : n'.k = n.k) (hnp : n'.np = n.np - 1) (hsv : n'.sv = n.sv) :
    gStep ((pre ++ n :: post).map Nd.view, rs) n.k = ((pre ++ n' :: post).map Nd.view, if n'.np = 0 then rs ++ [n.k] else rs) := by
  have e : gMod ((pre ++ n :: post).map Nd.view) n.k (fun v => (v.1, v.2.1 - 1, v.2.2)) = (pre ++ n' :: post).map Nd.view := gMod_view h (by simp only [Nd.view, hk, hnp, hsv])
  have h' : ((pre ++ n' :: post).map (·.k)).Nodup := by simp only [List.map_append, List.map_cons, hk] at h ⊢; exact h
  have e2 := gNp_view h'
  rw [hk] at e2
  unfold gStep
  simp only [e, e2]
theorem led_ne {ns : List Nd} {rest : List (Addr × Obj)} {b : Addr} (h1 : ∀ a ∈ nodesFoot ns, a ≠ b) (h2 : ∀ p ∈ rest, p.1 ≠ b) : ∀ p ∈ nodesLed ns ++ rest, p.1 ≠ b := by
  intro p hp
  focus (refine hid fun hGo => ?_; rcases List.mem_append.mp hp with hp | hp; all_goals (refine hGo ?_; clear hGo))
  · exact h1 _ (by rw [nodesFoot_eq]; exact List.mem_map_of_mem hp)
  · exact h2 p hp
theorem allInts_of {sv : Array Value} {ns : List Int} (h : IntsAre sv.toList ns) : AllInts sv ∧ intsOf sv = ns := by
  unfold AllInts intsOf
  generalize sv.toList = l at h
  induction h with
  | nil => exact ⟨fun v hv => (nomatch hv), rfl⟩
  | cons n t _ ih =>
    refine ⟨fun v hv => ?_, by rw [List.map_cons, ih.2]; rfl⟩
    focus (refine hid fun hGo => ?_; rcases List.mem_cons.mp hv with rfl | hv; all_goals (refine hGo ?_; clear hGo))
    · exact ⟨n, t, rfl⟩
    · exact ih.1 v hv
inductive DnJ (w : World) (L : Nat) (q : Nat) (I : Nat) (x : Nat) (dx : Nat) (d : Nat) (r : Nat) (oI : Obj) (oL : Obj) (od : Obj) (t : Tok) (t1 : Tok) (t2 : Tok) (t3 : Tok) (t4 : Tok) (tnf : Tok) (po : Value) (nf : Int) (rest : List (Addr × Obj)) (ns : List Nd) (n : Nd) (k : Int) (rs : List Int) (ss : List Int) (I' : Nat) (i : Nat) (m₁ : Str → Option Value) (news₁ : List (Addr × Obj)) : Prop
  | mk (e1 : @LT.lt Nat _ I I') (us : Option Value) (ui : Option Value) (ns₂ : List Nd) (rv' : Array Value) (re' : Nat) (e2 : news₁ = [(I, oI), (L, oL), (q, tupOf #[.int k t] 0), (x, instObj 137 dx), (dx, soDict w t1 t2 t3 t4 d (.ref r) po (.int nf tnf)), (d, od), (r, W.listOf rv' re')] ++ (nodesLed ns₂ ++ rest)) (e3 : ns₂.map Nd.shape = ns.map Nd.shape) (e4 : rv'.size ≤ 1000 + i) (e5 : (ns₂.map Nd.view, intsOf rv') = (ss.take i).foldl gStep (gMod (ns.map Nd.view) k (fun v => (v.1, -2, v.2.2)), rs)) (e6 : AllInts rv') (e7 : m₁ = fun y => if y = Str.ofString "successor_info" then ui else if y = Str.ofString "successor" then us else if y = Str.ofString "stat" then some (.int (-1) n.npt) else if y = Str.ofString "nodeinfo" then some (.ref n.a) else if y = Str.ofString "node" then some (.int k t) else if y = Str.ofString "n2i" then some (.ref d) else List.lookup y [(Str.ofString "self", Value.ref x), (Str.ofString "nodes", Value.ref q)].reverse) : DnJ w L q I x dx d r oI oL od t t1 t2 t3 t4 tnf po nf rest ns n k rs ss I' i m₁ news₁
theorem done_spec {w : World} {A : Around} {s : Shared} {hb : Heap} {L : Addr} {m : Str → Option Value} {rest : List (Addr × Obj)} {x dx d r : Addr} {od : Obj} {ns : List Nd} {B : Nat} {t1 t2 t3 t4 tnf t : Tok} {nf : Int} {po : Value} {rv : Array Value} {re : Nat} {rs ss : List Int} {k : Int} {Q : Value → Shared → Prop} {E : Value → Shared → Prop}
    (G : Gd w hb) (hA : Le A (std 950 5000)) (F : Fr hb L s.heap m) (N : News hb L s.heap ((x, instObj 137 dx) :: (dx, soDict w t1 t2 t3 t4 d (.ref r) po (.int nf tnf)) :: (d, od) :: (r, W.listOf rv re) :: (nodesLed ns ++ rest)))
    (hod : od.IsDictOf (intKind PP w) (nodesKvs ns)) (hlo : (d == sysModules) = false) (hok : NsOk ns B) (hB : B ≤ 10000)
    (hH : ∀ a ∈ nodesFoot ns, @Ne Nat a x ∧ @Ne Nat a dx ∧ @Ne Nat a d ∧ @Ne Nat a r) (hrest : ∀ p ∈ rest, p.1 ∉ nodesFoot ns) (hr1 : @Ne Nat r x ∧ @Ne Nat r dx ∧ @Ne Nat r d) (hr2 : @Ne Nat dx x ∧ @Ne Nat dx d) (hr3 : ∀ p ∈ rest, p.1 ≠ r ∧ p.1 ≠ dx)
    (hi : IntsAre rv.toList rs) (hvs : rv.size ≤ 1000) (hnp : (k, -1, ss) ∈ ns.map Nd.view) (hss : ∀ p ∈ ss, p ∈ ns.map (·.k))
    (hQ : ∀ h' tk ns' rv' re' tnf', Fr hb L h' m → News hb L h' ((x, instObj 137 dx) :: (dx, soDict w t1 t2 t3 t4 d (.ref r) po (.int (nf + 1) tnf')) :: (d, od) :: (r, W.listOf rv' re') :: (nodesLed ns' ++ rest)) → ns'.map Nd.shape = ns.map Nd.shape →
      ns'.map Nd.view = (gDone (ns.map Nd.view) rs k ss).1 → IntsAre rv'.toList (gDone (ns.map Nd.view) rs k ss).2 → Q .none { s with heap := h', toks := tk }) :
    wpAny (model PP w) A (call (.ref 120) [.ref x, .int k t]) Q E s := by
  refine wpAny_le hA ?_
  have X := G.X
  focus (refine hid fun hGo => ?_; obtain ⟨mg, mb, T⟩ := G.T; all_goals (refine hGo ?_; clear hGo))
  refine enterV (vs := [.int k t]) (binds := fun q => [(Str.ofString "self", .ref x), (Str.ofString "nodes", q)]) G F N (by decide) (by k_is) (by k_is) (by kernel_rfl) (by simp) (by decide) (fun _ => locs rfl) ?_
  intro h₁ L' q tk oL bk hL hq hN F₁ N₁
  focus (refine hid fun hGo => ?_; obtain ⟨r1, r2, r3⟩ : NeH r x ∧ NeH r dx ∧ NeH r d := id hr1; all_goals (refine hGo ?_; clear hGo))
  focus (refine hid fun hGo => ?_; obtain ⟨r4, r5⟩ : NeH dx x ∧ NeH dx d := id hr2; all_goals (refine hGo ?_; clear hGo))
  have l3 := hN _ (.head _)
  have l4 := hN _ (.tail _ (.head _))
  have l4' := hN _ (.tail _ (.tail _ (.head _)))
  have l4'' := hN _ (.tail _ (.tail _ (.tail _ (.head _))))
  have l5 : @Ne Nat dx L := (N _ (.tail _ (.head _))).2.1
  have l6 : @Ne Nat x L := (N _ (.head _)).2.1
  have l7 : @Ne Nat d L := (N _ (.tail _ (.tail _ (.head _)))).2.1
  have l7' : @Ne Nat r L := (N _ (.tail _ (.tail _ (.tail _ (.head _))))).2.1
  have l8 : ∀ p ∈ nodesLed ns ++ rest, p.1 ≠ L := fun p hp => (N _ (.tail _ (.tail _ (.tail _ (.tail _ hp))))).2.1
  have l9 : ∀ p ∈ nodesLed ns ++ rest, @LT.lt Nat _ p.1 q := fun p hp => hN _ (.tail _ (.tail _ (.tail _ (.tail _ hp))))
  change wpAny (model PP w) (std 951 5003) _ _ _ _
  refine execs_seq ?_
  intro Q₁ hn₁ hr₁ hb₁ hc₁
  repeat' (first | ((with_reducible show wpAny _ _ (subscriptTail _ _ (Value.ref _) (Value.int _ _)) _ _ _); refine ditem_tail (by first | exact dictOf_N (by assumption) (by k_mem) (by assumption) | exact dictOf_B (by assumption) (by assumption) (by assumption)) (by assumption) ?_) | ((with_reducible show wpAny _ _ (call (Value.builtin "dict.get") [Value.ref _, Value.int _ _]) _ _ _); first | refine dget_some (by assumption) (by first | exact dictOf_B (by assumption) (by assumption) (by assumption) | exact dictOf_N (by assumption) (by k_mem) (by assumption)) (by assumption) ?_ | refine dget_none (by assumption) (by first | exact dictOf_B (by assumption) (by assumption) (by assumption) | exact dictOf_N (by assumption) (by k_mem) (by assumption)) (by assumption) ?_) | ((with_reducible show wpAny _ _ (getMethod (Value.ref _) (Str.ofString "get") _) _ _ _); refine dget_get (by first | exact dictOf_B (by assumption) (by assumption) (by assumption) | exact dictOf_N (by assumption) (by k_mem) (by assumption)) ?_) | ((with_reducible show wpAny _ _ (call (Value.builtin "list.append") [Value.ref _, _]) _ _ _); k_dflt (refine append_K (by k_asm) (by k_asm) (by k_upd) ?_ (by simp only [sizeLine_eq]; first | exact leK (by assumption) (by exact rfl) | omega)); intro hZq FZq NZq; (try k_sweep)) | walk1 | (dsimp only; first | ((with_reducible show wpAny _ _ (subscriptTail _ _ (Value.ref _) (Value.int _ _)) _ _ _); refine ditem_tail (by first | exact dictOf_N (by assumption) (by k_mem) (by assumption) | exact dictOf_B (by assumption) (by assumption) (by assumption)) (by assumption) ?_) | ((with_reducible show wpAny _ _ (call (Value.builtin "dict.get") [Value.ref _, Value.int _ _]) _ _ _); first | refine dget_some (by assumption) (by first | exact dictOf_B (by assumption) (by assumption) (by assumption) | exact dictOf_N (by assumption) (by k_mem) (by assumption)) (by assumption) ?_ | refine dget_none (by assumption) (by first | exact dictOf_B (by assumption) (by assumption) (by assumption) | exact dictOf_N (by assumption) (by k_mem) (by assumption)) (by assumption) ?_) | ((with_reducible show wpAny _ _ (getMethod (Value.ref _) (Str.ofString "get") _) _ _ _); refine dget_get (by first | exact dictOf_B (by assumption) (by assumption) (by assumption) | exact dictOf_N (by assumption) (by k_mem) (by assumption)) ?_) | ((with_reducible show wpAny _ _ (call (Value.builtin "list.append") [Value.ref _, _]) _ _ _); k_dflt (refine append_K (by k_asm) (by k_asm) (by k_upd) ?_ (by simp only [sizeLine_eq]; first | exact leK (by assumption) (by exact rfl) | omega)); intro hZq FZq NZq; (try k_sweep)) | walk1))
  refine hn₁ _ ?_
  clear hn₁ hr₁ hb₁ hc₁
  refine execs_seq ?_
  intro Q₁ hn₁ hr₁ hb₁ hc₁
  repeat' (first | ((with_reducible show wpAny _ _ (subscriptTail _ _ (Value.ref _) (Value.int _ _)) _ _ _); refine ditem_tail (by first | exact dictOf_N (by assumption) (by k_mem) (by assumption) | exact dictOf_B (by assumption) (by assumption) (by assumption)) (by assumption) ?_) | ((with_reducible show wpAny _ _ (call (Value.builtin "dict.get") [Value.ref _, Value.int _ _]) _ _ _); first | refine dget_some (by assumption) (by first | exact dictOf_B (by assumption) (by assumption) (by assumption) | exact dictOf_N (by assumption) (by k_mem) (by assumption)) (by assumption) ?_ | refine dget_none (by assumption) (by first | exact dictOf_B (by assumption) (by assumption) (by assumption) | exact dictOf_N (by assumption) (by k_mem) (by assumption)) (by assumption) ?_) | ((with_reducible show wpAny _ _ (getMethod (Value.ref _) (Str.ofString "get") _) _ _ _); refine dget_get (by first | exact dictOf_B (by assumption) (by assumption) (by assumption) | exact dictOf_N (by assumption) (by k_mem) (by assumption)) ?_) | ((with_reducible show wpAny _ _ (call (Value.builtin "list.append") [Value.ref _, _]) _ _ _); k_dflt (refine append_K (by k_asm) (by k_asm) (by k_upd) ?_ (by simp only [sizeLine_eq]; first | exact leK (by assumption) (by exact rfl) | omega)); intro hZq FZq NZq; (try k_sweep)) | walk1 | (dsimp only; first | ((with_reducible show wpAny _ _ (subscriptTail _ _ (Value.ref _) (Value.int _ _)) _ _ _); refine ditem_tail (by first | exact dictOf_N (by assumption) (by k_mem) (by assumption) | exact dictOf_B (by assumption) (by assumption) (by assumption)) (by assumption) ?_) | ((with_reducible show wpAny _ _ (call (Value.builtin "dict.get") [Value.ref _, Value.int _ _]) _ _ _); first | refine dget_some (by assumption) (by first | exact dictOf_B (by assumption) (by assumption) (by assumption) | exact dictOf_N (by assumption) (by k_mem) (by assumption)) (by assumption) ?_ | refine dget_none (by assumption) (by first | exact dictOf_B (by assumption) (by assumption) (by assumption) | exact dictOf_N (by assumption) (by k_mem) (by assumption)) (by assumption) ?_) | ((with_reducible show wpAny _ _ (getMethod (Value.ref _) (Str.ofString "get") _) _ _ _); refine dget_get (by first | exact dictOf_B (by assumption) (by assumption) (by assumption) | exact dictOf_N (by assumption) (by k_mem) (by assumption)) ?_) | ((with_reducible show wpAny _ _ (call (Value.builtin "list.append") [Value.ref _, _]) _ _ _); k_dflt (refine append_K (by k_asm) (by k_asm) (by k_upd) ?_ (by simp only [sizeLine_eq]; first | exact leK (by assumption) (by exact rfl) | omega)); intro hZq FZq NZq; (try k_sweep)) | walk1))
  refine hn₁ _ ?_
  clear hn₁ hr₁ hb₁ hc₁
  dsimp only at *
  rename Fr _ _ _ _ => F₂
  rename News _ _ _ _ => N₂
  have N₃ : News hb L' _ ([(L, oL), (q, tupOf #[.int k t] 0), (x, instObj 137 dx), (dx, soDict w t1 t2 t3 t4 d (.ref r) po (.int nf tnf)), (d, od), (r, W.listOf rv re)] ++ (nodesLed ns ++ rest)) := N₂
  clear N₂
  refine wpAny_execs_cons (wpAny_For ?_ (by intro _; rfl))
  refine opq ?_
  intro Q₄ h₄
  repeat' (first | ((with_reducible show wpAny _ _ (subscriptTail _ _ (Value.ref _) (Value.int _ _)) _ _ _); refine ditem_tail (by first | exact dictOf_N (by assumption) (by k_mem) (by assumption) | exact dictOf_B (by assumption) (by assumption) (by assumption)) (by assumption) ?_) | ((with_reducible show wpAny _ _ (call (Value.builtin "dict.get") [Value.ref _, Value.int _ _]) _ _ _); first | refine dget_some (by assumption) (by first | exact dictOf_B (by assumption) (by assumption) (by assumption) | exact dictOf_N (by assumption) (by k_mem) (by assumption)) (by assumption) ?_ | refine dget_none (by assumption) (by first | exact dictOf_B (by assumption) (by assumption) (by assumption) | exact dictOf_N (by assumption) (by k_mem) (by assumption)) (by assumption) ?_) | ((with_reducible show wpAny _ _ (getMethod (Value.ref _) (Str.ofString "get") _) _ _ _); refine dget_get (by first | exact dictOf_B (by assumption) (by assumption) (by assumption) | exact dictOf_N (by assumption) (by k_mem) (by assumption)) ?_) | ((with_reducible show wpAny _ _ (call (Value.builtin "list.append") [Value.ref _, _]) _ _ _); k_dflt (refine append_K (by k_asm) (by k_asm) (by k_upd) ?_ (by simp only [sizeLine_eq]; first | exact leK (by assumption) (by exact rfl) | omega)); intro hZq FZq NZq; (try k_sweep)) | walk1 | (dsimp only; first | ((with_reducible show wpAny _ _ (subscriptTail _ _ (Value.ref _) (Value.int _ _)) _ _ _); refine ditem_tail (by first | exact dictOf_N (by assumption) (by k_mem) (by assumption) | exact dictOf_B (by assumption) (by assumption) (by assumption)) (by assumption) ?_) | ((with_reducible show wpAny _ _ (call (Value.builtin "dict.get") [Value.ref _, Value.int _ _]) _ _ _); first | refine dget_some (by assumption) (by first | exact dictOf_B (by assumption) (by assumption) (by assumption) | exact dictOf_N (by assumption) (by k_mem) (by assumption)) (by assumption) ?_ | refine dget_none (by assumption) (by first | exact dictOf_B (by assumption) (by assumption) (by assumption) | exact dictOf_N (by assumption) (by k_mem) (by assumption)) (by assumption) ?_) | ((with_reducible show wpAny _ _ (getMethod (Value.ref _) (Str.ofString "get") _) _ _ _); refine dget_get (by first | exact dictOf_B (by assumption) (by assumption) (by assumption) | exact dictOf_N (by assumption) (by k_mem) (by assumption)) ?_) | ((with_reducible show wpAny _ _ (call (Value.builtin "list.append") [Value.ref _, _]) _ _ _); k_dflt (refine append_K (by k_asm) (by k_asm) (by k_upd) ?_ (by simp only [sizeLine_eq]; first | exact leK (by assumption) (by exact rfl) | omega)); intro hZq FZq NZq; (try k_sweep)) | walk1))
  refine h₄ _ _ ?_
  clear h₄
  refine for_tuple (vs := [.int k t]) rfl ⟨_, (N₃ (q, tupOf #[.int k t] 0) (.tail _ (.head _))).1, rfl, 0, rfl⟩ F₂ N₃ (fun I i m₁ news₁ => @LT.lt Nat _ q I ∧
      ((i = 0 ∧ news₁ = [(L, oL), (q, tupOf #[.int k t] 0), (x, instObj 137 dx), (dx, soDict w t1 t2 t3 t4 d (.ref r) po (.int nf tnf)), (d, od), (r, W.listOf rv re)] ++ (nodesLed ns ++ rest) ∧
          m₁ = fun y => if y = Str.ofString "n2i" then some (.ref d) else List.lookup y [(Str.ofString "self", Value.ref x), (Str.ofString "nodes", Value.ref q)].reverse) ∨
       (i = 1 ∧ ∃ ns₂ rv' re' tnf', news₁ = [(L, oL), (q, tupOf #[.int k t] 0), (x, instObj 137 dx), (dx, soDict w t1 t2 t3 t4 d (.ref r) po (.int (nf + 1) tnf')), (d, od), (r, W.listOf rv' re')] ++ (nodesLed ns₂ ++ rest) ∧
          ns₂.map Nd.shape = ns.map Nd.shape ∧ ns₂.map Nd.view = (gDone (ns.map Nd.view) rs k ss).1 ∧ IntsAre rv'.toList (gDone (ns.map Nd.view) rs k ss).2))) ?_ ?_ ?_ ?_ ?_
  · rintro I i m₁ news₁ h ⟨_, ⟨_, rfl, _⟩ | ⟨_, _, _, _, _, rfl, _⟩⟩ _ N <;> exact ⟨_, (N (q, tupOf #[.int k t] 0) (.tail _ (.head _))).1, rfl, 0, rfl⟩
  · have key : ∀ (I : Nat) rn o' (ns₂ : List Nd), q < I → nodesFoot ns₂ = nodesFoot ns → ∀ p ∈ [(L, oL), (q, tupOf #[.int k t] 0), (x, instObj 137 dx), (dx, o'), (d, od), (r, rn)] ++ (nodesLed ns₂ ++ rest), p.1 ≠ I := by
      intro I rn o' ns₂ hI hft
      refine fmc (Nat.ne_of_lt (Nat.lt_trans hL hI)) (fmc (Nat.ne_of_lt hI) (fmc (Nat.ne_of_lt (Nat.lt_trans l3 hI)) (fmc (Nat.ne_of_lt (Nat.lt_trans l4 hI)) (fmc (Nat.ne_of_lt (Nat.lt_trans l4' hI)) (fmc (Nat.ne_of_lt (Nat.lt_trans l4'' hI)) ?_)))))
      intro p hp
      try simp only [List.nil_append, List.append] at hp
      refine led_ne (fun a ha => ?_) (fun p hp => Nat.ne_of_lt (Nat.lt_trans (l9 p (List.mem_append_right _ hp)) hI)) p hp
      rw [hft] at ha
      focus (refine hid fun hGo => ?_; obtain ⟨p', hp', e⟩ := led_addr (rest := rest) ha; all_goals (refine hGo ?_; clear hGo))
      exact e ▸ Nat.ne_of_lt (Nat.lt_trans (l9 p' hp') hI)
    focus (rintro I i m₁ news₁ hP0; refine hid fun hGo => ?_; rcases hP0 with ⟨hI, ⟨_, rfl, _⟩ | ⟨_, ns₂, rv', re', tnf', rfl, hsh, _⟩⟩; all_goals (refine hGo ?_; clear hGo))
    · exact key I _ _ _ hI rfl
    · exact key I _ _ _ hI (shape_foot hsh)
  · intro I hI _ hLI
    exact ⟨hI (q, tupOf #[.int k t] 0) (.tail _ (.head _)), .inl ⟨rfl, rfl, rfl⟩⟩
  · focus (rintro I i v m₁ news₁ h tk oI _ _ _ hv hP0 F₅ N₆; refine hid fun hGo => ?_; rcases hP0 with ⟨hI, ⟨rfl, rfl, rfl⟩ | ⟨rfl, _⟩⟩; all_goals (refine hGo ?_; clear hGo))
    rotate_left
    · simp at hv
    obtain rfl : Value.int k t = v := by simpa using hv
    have hkm : k ∈ ns.map (·.k) := by obtain ⟨n, hn, e⟩ := List.mem_map.mp hnp; exact List.mem_map.mpr ⟨n, hn, by simpa [Nd.view] using congrArg Prod.fst e⟩
    focus (refine hid fun hGo => ?_; obtain ⟨pre, n, post, hns, hnk⟩ := ns_split hkm; all_goals (refine hGo ?_; clear hGo))
    have hvn : n.view = (k, -1, ss) := by
      focus (refine hid fun hGo => ?_; obtain ⟨n', hn', e⟩ := List.mem_map.mp hnp; all_goals (refine hGo ?_; clear hGo))
      have ek : n'.k = n.k := by rw [hnk]; simpa [Nd.view] using congrArg Prod.fst e
      rw [hns] at hn'
      focus (refine hid fun hGo => ?_; obtain ⟨u1, u2⟩ := key_off (hns ▸ hok.keysOk); all_goals (refine hGo ?_; clear hGo))
      focus (refine hid fun hGo => ?_; rcases List.mem_append.mp hn' with q | q; all_goals (refine hGo ?_; clear hGo))
      · exact absurd ek (u1 _ q)
      · focus (refine hid fun hGo => ?_; rcases List.mem_cons.mp q with rfl | q; all_goals (refine hGo ?_; clear hGo))
        · exact e
        · exact absurd ek (u2 _ q)
    have hnpn : n.np = -1 := congrArg (fun v => v.2.1) hvn
    have hssn : intsOf n.sv = ss := congrArg (fun v => v.2.2) hvn
    have hval : valueAt (nodesKvs ns) k = some (.ref n.a) := by rw [← hnk]; exact kvs_value hok.keysOk (by rw [hns]; simp)
    have hfa := foot_mem (pre := pre) (n := n) (post := post)
    rw [← hns] at hfa
    focus (refine hid fun hGo => ?_; obtain ⟨o1, o2, o3⟩ := tail_off (hns ▸ hok.footOk) (hns ▸ hrest); all_goals (refine hGo ?_; clear hGo))
    focus (refine hid fun hGo => ?_; obtain ⟨_, c1, c2, c3⟩ := node_off (hns ▸ hok.footOk); all_goals (refine hGo ?_; clear hGo))
    focus (refine hid fun hGo => ?_; obtain ⟨e1, e2, e3, e4⟩ : NeH n.a x ∧ NeH n.a dx ∧ NeH n.a d ∧ NeH n.a r := hH _ hfa.1; all_goals (refine hGo ?_; clear hGo))
    have c5 : @LT.lt Nat _ n.a q := by obtain ⟨p, hp, e⟩ := led_addr (rest := rest) hfa.1; exact e ▸ l9 p hp
    have c6 : @Ne Nat n.a L := by obtain ⟨p, hp, e⟩ := led_addr (rest := rest) hfa.1; exact e ▸ l8 p hp
    have e5 : NeH n.a I := Nat.ne_of_lt (Nat.lt_trans c5 hI)
    have N₇ := News.sub (l' := n.led ++ ([(I, oI), (L, oL), (q, tupOf #[.int k t] 0), (x, instObj 137 dx), (dx, soDict w t1 t2 t3 t4 d (.ref r) po (.int nf tnf)), (d, od), (r, W.listOf rv re)] ++ (nodesLed pre ++ (nodesLed post ++ rest)))) (News.sub N₆ (l' := [(I, oI), (L, oL), (q, tupOf #[.int k t] 0), (x, instObj 137 dx), (dx, soDict w t1 t2 t3 t4 d (.ref r) po (.int nf tnf)), (d, od), (r, W.listOf rv re)] ++ (nodesLed ns ++ rest)) (fun _ h => h)) (by rw [hns]; exact led_out)
    clear N₆
    simp only [Nd.led, Nd.obj, List.cons_append, List.nil_append, hnpn] at N₇
    refine opq ?_
    intro Q₄ h₄
    repeat' (first | ((with_reducible show wpAny _ _ (subscriptTail _ _ (Value.ref _) (Value.int _ _)) _ _ _); refine ditem_tail (by first | exact dictOf_N (by assumption) (by k_mem) (by assumption) | exact dictOf_B (by assumption) (by assumption) (by assumption)) (by assumption) ?_) | ((with_reducible show wpAny _ _ (call (Value.builtin "dict.get") [Value.ref _, Value.int _ _]) _ _ _); first | refine dget_some (by assumption) (by first | exact dictOf_B (by assumption) (by assumption) (by assumption) | exact dictOf_N (by assumption) (by k_mem) (by assumption)) (by assumption) ?_ | refine dget_none (by assumption) (by first | exact dictOf_B (by assumption) (by assumption) (by assumption) | exact dictOf_N (by assumption) (by k_mem) (by assumption)) (by assumption) ?_) | ((with_reducible show wpAny _ _ (getMethod (Value.ref _) (Str.ofString "get") _) _ _ _); refine dget_get (by first | exact dictOf_B (by assumption) (by assumption) (by assumption) | exact dictOf_N (by assumption) (by k_mem) (by assumption)) ?_) | ((with_reducible show wpAny _ _ (call (Value.builtin "list.append") [Value.ref _, _]) _ _ _); k_dflt (refine append_K (by k_asm) (by k_asm) (by k_upd) ?_ (by simp only [sizeLine_eq]; first | exact leK (by assumption) (by exact rfl) | omega)); intro hZq FZq NZq; (try k_sweep)) | walk1 | (dsimp only; first | ((with_reducible show wpAny _ _ (subscriptTail _ _ (Value.ref _) (Value.int _ _)) _ _ _); refine ditem_tail (by first | exact dictOf_N (by assumption) (by k_mem) (by assumption) | exact dictOf_B (by assumption) (by assumption) (by assumption)) (by assumption) ?_) | ((with_reducible show wpAny _ _ (call (Value.builtin "dict.get") [Value.ref _, Value.int _ _]) _ _ _); first | refine dget_some (by assumption) (by first | exact dictOf_B (by assumption) (by assumption) (by assumption) | exact dictOf_N (by assumption) (by k_mem) (by assumption)) (by assumption) ?_ | refine dget_none (by assumption) (by first | exact dictOf_B (by assumption) (by assumption) (by assumption) | exact dictOf_N (by assumption) (by k_mem) (by assumption)) (by assumption) ?_) | ((with_reducible show wpAny _ _ (getMethod (Value.ref _) (Str.ofString "get") _) _ _ _); refine dget_get (by first | exact dictOf_B (by assumption) (by assumption) (by assumption) | exact dictOf_N (by assumption) (by k_mem) (by assumption)) ?_) | ((with_reducible show wpAny _ _ (call (Value.builtin "list.append") [Value.ref _, _]) _ _ _); k_dflt (refine append_K (by k_asm) (by k_asm) (by k_upd) ?_ (by simp only [sizeLine_eq]; first | exact leK (by assumption) (by exact rfl) | omega)); intro hZq FZq NZq; (try k_sweep)) | walk1))
    refine h₄ _ _ ?_
    clear h₄
    refine execs_seq ?_
    intro Q₁ hn₁ hr₁ hb₁ hc₁
    repeat' (first | ((with_reducible show wpAny _ _ (subscriptTail _ _ (Value.ref _) (Value.int _ _)) _ _ _); refine ditem_tail (by first | exact dictOf_N (by assumption) (by k_mem) (by assumption) | exact dictOf_B (by assumption) (by assumption) (by assumption)) (by assumption) ?_) | ((with_reducible show wpAny _ _ (call (Value.builtin "dict.get") [Value.ref _, Value.int _ _]) _ _ _); first | refine dget_some (by assumption) (by first | exact dictOf_B (by assumption) (by assumption) (by assumption) | exact dictOf_N (by assumption) (by k_mem) (by assumption)) (by assumption) ?_ | refine dget_none (by assumption) (by first | exact dictOf_B (by assumption) (by assumption) (by assumption) | exact dictOf_N (by assumption) (by k_mem) (by assumption)) (by assumption) ?_) | ((with_reducible show wpAny _ _ (getMethod (Value.ref _) (Str.ofString "get") _) _ _ _); refine dget_get (by first | exact dictOf_B (by assumption) (by assumption) (by assumption) | exact dictOf_N (by assumption) (by k_mem) (by assumption)) ?_) | ((with_reducible show wpAny _ _ (call (Value.builtin "list.append") [Value.ref _, _]) _ _ _); k_dflt (refine append_K (by k_asm) (by k_asm) (by k_upd) ?_ (by simp only [sizeLine_eq]; first | exact leK (by assumption) (by exact rfl) | omega)); intro hZq FZq NZq; (try k_sweep)) | walk1 | (dsimp only; first | ((with_reducible show wpAny _ _ (subscriptTail _ _ (Value.ref _) (Value.int _ _)) _ _ _); refine ditem_tail (by first | exact dictOf_N (by assumption) (by k_mem) (by assumption) | exact dictOf_B (by assumption) (by assumption) (by assumption)) (by assumption) ?_) | ((with_reducible show wpAny _ _ (call (Value.builtin "dict.get") [Value.ref _, Value.int _ _]) _ _ _); first | refine dget_some (by assumption) (by first | exact dictOf_B (by assumption) (by assumption) (by assumption) | exact dictOf_N (by assumption) (by k_mem) (by assumption)) (by assumption) ?_ | refine dget_none (by assumption) (by first | exact dictOf_B (by assumption) (by assumption) (by assumption) | exact dictOf_N (by assumption) (by k_mem) (by assumption)) (by assumption) ?_) | ((with_reducible show wpAny _ _ (getMethod (Value.ref _) (Str.ofString "get") _) _ _ _); refine dget_get (by first | exact dictOf_B (by assumption) (by assumption) (by assumption) | exact dictOf_N (by assumption) (by k_mem) (by assumption)) ?_) | ((with_reducible show wpAny _ _ (call (Value.builtin "list.append") [Value.ref _, _]) _ _ _); k_dflt (refine append_K (by k_asm) (by k_asm) (by k_upd) ?_ (by simp only [sizeLine_eq]; first | exact leK (by assumption) (by exact rfl) | omega)); intro hZq FZq NZq; (try k_sweep)) | walk1))
    refine hn₁ _ ?_
    clear hn₁ hr₁ hb₁ hc₁
    refine execs_seq ?_
    intro Q₁ hn₁ hr₁ hb₁ hc₁
    repeat' (first | ((with_reducible show wpAny _ _ (subscriptTail _ _ (Value.ref _) (Value.int _ _)) _ _ _); refine ditem_tail (by first | exact dictOf_N (by assumption) (by k_mem) (by assumption) | exact dictOf_B (by assumption) (by assumption) (by assumption)) (by assumption) ?_) | ((with_reducible show wpAny _ _ (call (Value.builtin "dict.get") [Value.ref _, Value.int _ _]) _ _ _); first | refine dget_some (by assumption) (by first | exact dictOf_B (by assumption) (by assumption) (by assumption) | exact dictOf_N (by assumption) (by k_mem) (by assumption)) (by assumption) ?_ | refine dget_none (by assumption) (by first | exact dictOf_B (by assumption) (by assumption) (by assumption) | exact dictOf_N (by assumption) (by k_mem) (by assumption)) (by assumption) ?_) | ((with_reducible show wpAny _ _ (getMethod (Value.ref _) (Str.ofString "get") _) _ _ _); refine dget_get (by first | exact dictOf_B (by assumption) (by assumption) (by assumption) | exact dictOf_N (by assumption) (by k_mem) (by assumption)) ?_) | ((with_reducible show wpAny _ _ (call (Value.builtin "list.append") [Value.ref _, _]) _ _ _); k_dflt (refine append_K (by k_asm) (by k_asm) (by k_upd) ?_ (by simp only [sizeLine_eq]; first | exact leK (by assumption) (by exact rfl) | omega)); intro hZq FZq NZq; (try k_sweep)) | walk1 | (dsimp only; first | ((with_reducible show wpAny _ _ (subscriptTail _ _ (Value.ref _) (Value.int _ _)) _ _ _); refine ditem_tail (by first | exact dictOf_N (by assumption) (by k_mem) (by assumption) | exact dictOf_B (by assumption) (by assumption) (by assumption)) (by assumption) ?_) | ((with_reducible show wpAny _ _ (call (Value.builtin "dict.get") [Value.ref _, Value.int _ _]) _ _ _); first | refine dget_some (by assumption) (by first | exact dictOf_B (by assumption) (by assumption) (by assumption) | exact dictOf_N (by assumption) (by k_mem) (by assumption)) (by assumption) ?_ | refine dget_none (by assumption) (by first | exact dictOf_B (by assumption) (by assumption) (by assumption) | exact dictOf_N (by assumption) (by k_mem) (by assumption)) (by assumption) ?_) | ((with_reducible show wpAny _ _ (getMethod (Value.ref _) (Str.ofString "get") _) _ _ _); refine dget_get (by first | exact dictOf_B (by assumption) (by assumption) (by assumption) | exact dictOf_N (by assumption) (by k_mem) (by assumption)) ?_) | ((with_reducible show wpAny _ _ (call (Value.builtin "list.append") [Value.ref _, _]) _ _ _); k_dflt (refine append_K (by k_asm) (by k_asm) (by k_upd) ?_ (by simp only [sizeLine_eq]; first | exact leK (by assumption) (by exact rfl) | omega)); intro hZq FZq NZq; (try k_sweep)) | walk1))
    refine hn₁ _ ?_
    clear hn₁ hr₁ hb₁ hc₁
    refine execs_seq ?_
    intro Q₁ hn₁ hr₁ hb₁ hc₁
    repeat' (first | ((with_reducible show wpAny _ _ (subscriptTail _ _ (Value.ref _) (Value.int _ _)) _ _ _); refine ditem_tail (by first | exact dictOf_N (by assumption) (by k_mem) (by assumption) | exact dictOf_B (by assumption) (by assumption) (by assumption)) (by assumption) ?_) | ((with_reducible show wpAny _ _ (call (Value.builtin "dict.get") [Value.ref _, Value.int _ _]) _ _ _); first | refine dget_some (by assumption) (by first | exact dictOf_B (by assumption) (by assumption) (by assumption) | exact dictOf_N (by assumption) (by k_mem) (by assumption)) (by assumption) ?_ | refine dget_none (by assumption) (by first | exact dictOf_B (by assumption) (by assumption) (by assumption) | exact dictOf_N (by assumption) (by k_mem) (by assumption)) (by assumption) ?_) | ((with_reducible show wpAny _ _ (getMethod (Value.ref _) (Str.ofString "get") _) _ _ _); refine dget_get (by first | exact dictOf_B (by assumption) (by assumption) (by assumption) | exact dictOf_N (by assumption) (by k_mem) (by assumption)) ?_) | ((with_reducible show wpAny _ _ (call (Value.builtin "list.append") [Value.ref _, _]) _ _ _); k_dflt (refine append_K (by k_asm) (by k_asm) (by k_upd) ?_ (by simp only [sizeLine_eq]; first | exact leK (by assumption) (by exact rfl) | omega)); intro hZq FZq NZq; (try k_sweep)) | walk1 | (dsimp only; first | ((with_reducible show wpAny _ _ (subscriptTail _ _ (Value.ref _) (Value.int _ _)) _ _ _); refine ditem_tail (by first | exact dictOf_N (by assumption) (by k_mem) (by assumption) | exact dictOf_B (by assumption) (by assumption) (by assumption)) (by assumption) ?_) | ((with_reducible show wpAny _ _ (call (Value.builtin "dict.get") [Value.ref _, Value.int _ _]) _ _ _); first | refine dget_some (by assumption) (by first | exact dictOf_B (by assumption) (by assumption) (by assumption) | exact dictOf_N (by assumption) (by k_mem) (by assumption)) (by assumption) ?_ | refine dget_none (by assumption) (by first | exact dictOf_B (by assumption) (by assumption) (by assumption) | exact dictOf_N (by assumption) (by k_mem) (by assumption)) (by assumption) ?_) | ((with_reducible show wpAny _ _ (getMethod (Value.ref _) (Str.ofString "get") _) _ _ _); refine dget_get (by first | exact dictOf_B (by assumption) (by assumption) (by assumption) | exact dictOf_N (by assumption) (by k_mem) (by assumption)) ?_) | ((with_reducible show wpAny _ _ (call (Value.builtin "list.append") [Value.ref _, _]) _ _ _); k_dflt (refine append_K (by k_asm) (by k_asm) (by k_upd) ?_ (by simp only [sizeLine_eq]; first | exact leK (by assumption) (by exact rfl) | omega)); intro hZq FZq NZq; (try k_sweep)) | walk1))
    refine hn₁ _ ?_
    clear hn₁ hr₁ hb₁ hc₁
    refine execs_seq ?_
    intro Q₁ hn₁ hr₁ hb₁ hc₁
    repeat' (first | ((with_reducible show wpAny _ _ (subscriptTail _ _ (Value.ref _) (Value.int _ _)) _ _ _); refine ditem_tail (by first | exact dictOf_N (by assumption) (by k_mem) (by assumption) | exact dictOf_B (by assumption) (by assumption) (by assumption)) (by assumption) ?_) | ((with_reducible show wpAny _ _ (call (Value.builtin "dict.get") [Value.ref _, Value.int _ _]) _ _ _); first | refine dget_some (by assumption) (by first | exact dictOf_B (by assumption) (by assumption) (by assumption) | exact dictOf_N (by assumption) (by k_mem) (by assumption)) (by assumption) ?_ | refine dget_none (by assumption) (by first | exact dictOf_B (by assumption) (by assumption) (by assumption) | exact dictOf_N (by assumption) (by k_mem) (by assumption)) (by assumption) ?_) | ((with_reducible show wpAny _ _ (getMethod (Value.ref _) (Str.ofString "get") _) _ _ _); refine dget_get (by first | exact dictOf_B (by assumption) (by assumption) (by assumption) | exact dictOf_N (by assumption) (by k_mem) (by assumption)) ?_) | ((with_reducible show wpAny _ _ (call (Value.builtin "list.append") [Value.ref _, _]) _ _ _); k_dflt (refine append_K (by k_asm) (by k_asm) (by k_upd) ?_ (by simp only [sizeLine_eq]; first | exact leK (by assumption) (by exact rfl) | omega)); intro hZq FZq NZq; (try k_sweep)) | walk1 | (dsimp only; first | ((with_reducible show wpAny _ _ (subscriptTail _ _ (Value.ref _) (Value.int _ _)) _ _ _); refine ditem_tail (by first | exact dictOf_N (by assumption) (by k_mem) (by assumption) | exact dictOf_B (by assumption) (by assumption) (by assumption)) (by assumption) ?_) | ((with_reducible show wpAny _ _ (call (Value.builtin "dict.get") [Value.ref _, Value.int _ _]) _ _ _); first | refine dget_some (by assumption) (by first | exact dictOf_B (by assumption) (by assumption) (by assumption) | exact dictOf_N (by assumption) (by k_mem) (by assumption)) (by assumption) ?_ | refine dget_none (by assumption) (by first | exact dictOf_B (by assumption) (by assumption) (by assumption) | exact dictOf_N (by assumption) (by k_mem) (by assumption)) (by assumption) ?_) | ((with_reducible show wpAny _ _ (getMethod (Value.ref _) (Str.ofString "get") _) _ _ _); refine dget_get (by first | exact dictOf_B (by assumption) (by assumption) (by assumption) | exact dictOf_N (by assumption) (by k_mem) (by assumption)) ?_) | ((with_reducible show wpAny _ _ (call (Value.builtin "list.append") [Value.ref _, _]) _ _ _); k_dflt (refine append_K (by k_asm) (by k_asm) (by k_upd) ?_ (by simp only [sizeLine_eq]; first | exact leK (by assumption) (by exact rfl) | omega)); intro hZq FZq NZq; (try k_sweep)) | walk1))
    refine hn₁ _ ?_
    clear hn₁ hr₁ hb₁ hc₁
    dsimp only at *
    rename Fr _ _ _ _ => F₈
    rename News _ _ _ _ => N₈
    refine execs_seq ?_
    intro Q₁ hn₁ hr₁ hb₁ hc₁
    refine wpAny_For ?_ (by intro _; rfl)
    refine opq ?_
    intro Q₄ h₄
    repeat' (first | ((with_reducible show wpAny _ _ (subscriptTail _ _ (Value.ref _) (Value.int _ _)) _ _ _); refine ditem_tail (by first | exact dictOf_N (by assumption) (by k_mem) (by assumption) | exact dictOf_B (by assumption) (by assumption) (by assumption)) (by assumption) ?_) | ((with_reducible show wpAny _ _ (call (Value.builtin "dict.get") [Value.ref _, Value.int _ _]) _ _ _); first | refine dget_some (by assumption) (by first | exact dictOf_B (by assumption) (by assumption) (by assumption) | exact dictOf_N (by assumption) (by k_mem) (by assumption)) (by assumption) ?_ | refine dget_none (by assumption) (by first | exact dictOf_B (by assumption) (by assumption) (by assumption) | exact dictOf_N (by assumption) (by k_mem) (by assumption)) (by assumption) ?_) | ((with_reducible show wpAny _ _ (getMethod (Value.ref _) (Str.ofString "get") _) _ _ _); refine dget_get (by first | exact dictOf_B (by assumption) (by assumption) (by assumption) | exact dictOf_N (by assumption) (by k_mem) (by assumption)) ?_) | ((with_reducible show wpAny _ _ (call (Value.builtin "list.append") [Value.ref _, _]) _ _ _); k_dflt (refine append_K (by k_asm) (by k_asm) (by k_upd) ?_ (by simp only [sizeLine_eq]; first | exact leK (by assumption) (by exact rfl) | omega)); intro hZq FZq NZq; (try k_sweep)) | walk1 | (dsimp only; first | ((with_reducible show wpAny _ _ (subscriptTail _ _ (Value.ref _) (Value.int _ _)) _ _ _); refine ditem_tail (by first | exact dictOf_N (by assumption) (by k_mem) (by assumption) | exact dictOf_B (by assumption) (by assumption) (by assumption)) (by assumption) ?_) | ((with_reducible show wpAny _ _ (call (Value.builtin "dict.get") [Value.ref _, Value.int _ _]) _ _ _); first | refine dget_some (by assumption) (by first | exact dictOf_B (by assumption) (by assumption) (by assumption) | exact dictOf_N (by assumption) (by k_mem) (by assumption)) (by assumption) ?_ | refine dget_none (by assumption) (by first | exact dictOf_B (by assumption) (by assumption) (by assumption) | exact dictOf_N (by assumption) (by k_mem) (by assumption)) (by assumption) ?_) | ((with_reducible show wpAny _ _ (getMethod (Value.ref _) (Str.ofString "get") _) _ _ _); refine dget_get (by first | exact dictOf_B (by assumption) (by assumption) (by assumption) | exact dictOf_N (by assumption) (by k_mem) (by assumption)) ?_) | ((with_reducible show wpAny _ _ (call (Value.builtin "list.append") [Value.ref _, _]) _ _ _); k_dflt (refine append_K (by k_asm) (by k_asm) (by k_upd) ?_ (by simp only [sizeLine_eq]; first | exact leK (by assumption) (by exact rfl) | omega)); intro hZq FZq NZq; (try k_sweep)) | walk1))
    refine h₄ _ _ ?_
    clear h₄
    have hsh₁ : (pre ++ ({ n with np := -2, npt := 200 } : Nd) :: post).map Nd.shape = ns.map Nd.shape := by rw [hns]; exact shape_put rfl
    have hvw₁ : (pre ++ ({ n with np := -2, npt := 200 } : Nd) :: post).map Nd.view = gMod (ns.map Nd.view) k fun v => (v.1, -2, v.2.2) := by
      rw [hns, ← hnk]; exact (gMod_view (hns ▸ hok.keysOk) (by simp only [Nd.view])).symm
    have N₉ := News.sub (l := ({ n with np := -2, npt := 200 } : Nd).led ++ ([(I, oI), (L, oL), (q, tupOf #[.int k t] 0), (x, instObj 137 dx), (dx, soDict w t1 t2 t3 t4 d (.ref r) po (.int nf tnf)), (d, od), (r, W.listOf rv re)] ++ (nodesLed pre ++ (nodesLed post ++ rest)))) N₈ (led_in (H := [(I, oI), (L, oL), (q, tupOf #[.int k t] 0), (x, instObj 137 dx), (dx, soDict w t1 t2 t3 t4 d (.ref r) po (.int nf tnf)), (d, od), (r, W.listOf rv re)]))
    clear N₈
    generalize pre ++ ({ n with np := -2, npt := 200 } : Nd) :: post = ns₁ at N₉ hsh₁ hvw₁
    have hnm : n ∈ ns := by rw [hns]; simp
    have hlist : ∀ h ns₂ rv' re', ns₂.map Nd.shape = ns.map Nd.shape → News hb L' h ([(I, oI), (L, oL), (q, tupOf #[.int k t] 0), (x, instObj 137 dx), (dx, soDict w t1 t2 t3 t4 d (.ref r) po (.int nf tnf)), (d, od), (r, W.listOf rv' re')] ++ (nodesLed ns₂ ++ rest)) → h.IsList n.l n.sv.toList.toArray := by
      intro h ns₂ rv' re' hsh N
      exact ⟨_, (N _ (List.mem_append_right _ (List.mem_append_left _ (shape_list hsh hnm)))).1, rfl, n.le, rfl⟩
    have hin : IntsAre n.sv.toList ss := by rw [← hssn]; exact allInts_are (hok.valsOk n hnm).1
    have hnB : n.sv.size ≤ B := (hok.valsOk n hnm).2
    clear o1 o2 o3 c1 c2 c3 e1 e2 e3 e4 e5 c5 c6
    refine for_list rfl (hlist _ _ _ _ hsh₁ N₉) F₈ N₉ (DnJ w L q I x dx d r oI oL od t t1 t2 t3 t4 tnf po nf rest ns n k rs ss) ?_ ?_ ?_ ?_ ?_
    · focus (rintro I' i m₁ news₁ h hP0 _ N; refine hid fun hGo => ?_; rcases hP0 with ⟨_, _, _, ns₂, rv', re', rfl, hsh, _⟩; all_goals (refine hGo ?_; clear hGo))
      exact hlist _ _ _ _ hsh N
    · focus (rintro I' i m₁ news₁ hP0; refine hid fun hGo => ?_; rcases hP0 with ⟨hI', _, _, ns₂, rv', re', rfl, hsh, _⟩; all_goals (refine hGo ?_; clear hGo))
      have hqI : q < I' := Nat.lt_trans hI hI'
      refine fmc (Nat.ne_of_lt hI') (fmc (Nat.ne_of_lt (Nat.lt_trans hL hqI)) (fmc (Nat.ne_of_lt hqI) (fmc (Nat.ne_of_lt (Nat.lt_trans l3 hqI)) (fmc (Nat.ne_of_lt (Nat.lt_trans l4 hqI)) (fmc (Nat.ne_of_lt (Nat.lt_trans l4' hqI)) (fmc (Nat.ne_of_lt (Nat.lt_trans l4'' hqI)) fun p hp => ?_))))))
      · refine led_ne (fun a ha => ?_) (fun p hp => Nat.ne_of_lt (Nat.lt_trans (l9 p (List.mem_append_right _ hp)) hqI)) p hp
        rw [shape_foot hsh] at ha
        focus (refine hid fun hGo => ?_; obtain ⟨p', hp', e⟩ := led_addr (rest := rest) ha; all_goals (refine hGo ?_; clear hGo))
        exact e ▸ Nat.ne_of_lt (Nat.lt_trans (l9 p' hp') hqI)
    · intro I' hI' _ _
      refine ⟨hI' (I, oI) (.head _), none, none, ns₁, rv, re, rfl, hsh₁, hvs, ?_, (allInts_of hi).1, (mset rfl).trans (mset rfl)⟩
      rw [hvw₁, (allInts_of hi).2]; rfl
    · focus (rintro I' i v m₁ news₁ h' tk' oI' _ _ _ hv hP0 F₅ N₆; refine hid fun hGo => ?_; rcases hP0 with ⟨hI', us, ui, ns₂, rv', re', rfl, hsh₂, hrz, hfold, hai, rfl⟩; all_goals (refine hGo ?_; clear hGo))
      focus (refine hid fun hGo => ?_; obtain ⟨p, tp, hp, rfl⟩ := ints_at hin hv; all_goals (refine hGo ?_; clear hGo))
      have hi' : i < n.sv.size := by
        focus (refine hid fun hGo => ?_; rcases Nat.lt_or_ge i n.sv.toList.length with q | q; all_goals (refine hGo ?_; clear hGo))
        · simpa using q
        · rw [List.getElem?_eq_none q] at hv; cases hv
      have hok₂ := shape_ok hsh₂ hok
      have hkv₂ := shape_kvs hsh₂
      have hft₂ := shape_foot hsh₂
      have hpk : p ∈ ns₂.map (·.k) := by rw [shape_keys hsh₂]; exact hss p (List.mem_of_getElem? hp)
      focus (refine hid fun hGo => ?_; obtain ⟨pre, n₂, post, hns₂, hnk₂⟩ := ns_split hpk; all_goals (refine hGo ?_; clear hGo))
      have hval₂ : valueAt (nodesKvs ns) p = some (.ref n₂.a) := by rw [← hkv₂, ← hnk₂]; exact kvs_value hok₂.keysOk (by rw [hns₂]; simp)
      have hfa := foot_mem (pre := pre) (n := n₂) (post := post)
      rw [← hns₂, hft₂] at hfa
      have hrest₂ : ∀ p ∈ rest, p.1 ∉ nodesFoot ns₂ := by rw [hft₂]; exact hrest
      focus (refine hid fun hGo => ?_; obtain ⟨o1, o2, o3⟩ := tail_off (hns₂ ▸ hok₂.footOk) (hns₂ ▸ hrest₂); all_goals (refine hGo ?_; clear hGo))
      focus (refine hid fun hGo => ?_; obtain ⟨_, c1, c2, c3⟩ := node_off (hns₂ ▸ hok₂.footOk); all_goals (refine hGo ?_; clear hGo))
      focus (refine hid fun hGo => ?_; obtain ⟨e1, e2, e3, e4⟩ : NeH n₂.a x ∧ NeH n₂.a dx ∧ NeH n₂.a d ∧ NeH n₂.a r := hH _ hfa.1; all_goals (refine hGo ?_; clear hGo))
      have e5 : NeH r n₂.dx := Ne.symm (hH _ hfa.2.1).2.2.2
      have e6 : NeH r n₂.l := Ne.symm (hH _ hfa.2.2).2.2.2
      have e7 : NeH n₂.a n₂.dx := c1
      have e8 : NeH n₂.a n₂.l := c2
      focus (refine hid fun hGo => ?_; obtain ⟨e9, e10, e11⟩ : NeH r x ∧ NeH r dx ∧ NeH r d := hr1; all_goals (refine hGo ?_; clear hGo))
      have e12 : NeH r L := l7'
      have c5 : @LT.lt Nat _ n₂.a q := by obtain ⟨p, hp, e⟩ := led_addr (rest := rest) hfa.1; exact e ▸ l9 p hp
      have e13 : NeH n₂.a L := by obtain ⟨p, hp, e⟩ := led_addr (rest := rest) hfa.1; exact e ▸ l8 p hp
      have e14 : NeH n₂.a I := Nat.ne_of_lt (Nat.lt_trans c5 hI)
      have e15 : NeH n₂.a I' := Nat.ne_of_lt (Nat.lt_trans (Nat.lt_trans c5 hI) hI')
      have e16 : NeH r q := Nat.ne_of_lt l4''
      have e17 : NeH r I := Nat.ne_of_lt (Nat.lt_trans l4'' hI)
      have e18 : NeH r I' := Nat.ne_of_lt (Nat.lt_trans (Nat.lt_trans l4'' hI) hI')
      have hz : rv'.size ≤ 1000 + 10000 := Nat.le_trans hrz (Nat.add_le_add_left (Nat.le_of_lt (Nat.lt_of_lt_of_le hi' (Nat.le_trans hnB hB))) 1000)
      clear c1 c2 c3 l5 l6 l7 l7' hr2
      have or : ∀ p ∈ nodesLed pre ++ (nodesLed post ++ rest), p.1 ≠ r := by
        intro p hp
        rw [← List.append_assoc] at hp
        focus (refine hid fun hGo => ?_; rcases List.mem_append.mp hp with hp | hp; all_goals (refine hGo ?_; clear hGo))
        · refine (hH p.1 ?_).2.2.2
          rw [← hft₂, hns₂, nodesFoot_eq, nodesLed_append, nodesLed_cons]
          refine List.mem_map_of_mem ?_
          focus (refine hid fun hGo => ?_; rcases List.mem_append.mp hp with hp | hp; all_goals (refine hGo ?_; clear hGo))
          · exact List.mem_append_left _ hp
          · exact List.mem_append_right _ (List.mem_append_right _ hp)
        · exact (hr3 p hp).1
      have N₇ := News.sub (l' := n₂.led ++ ([(I', oI'), (I, oI), (L, oL), (q, tupOf #[.int k t] 0), (x, instObj 137 dx), (dx, soDict w t1 t2 t3 t4 d (.ref r) po (.int nf tnf)), (d, od), (r, W.listOf rv' re')] ++ (nodesLed pre ++ (nodesLed post ++ rest)))) (News.sub N₆ (l' := [(I', oI'), (I, oI), (L, oL), (q, tupOf #[.int k t] 0), (x, instObj 137 dx), (dx, soDict w t1 t2 t3 t4 d (.ref r) po (.int nf tnf)), (d, od), (r, W.listOf rv' re')] ++ (nodesLed ns₂ ++ rest)) (fun _ h => h)) (by rw [hns₂]; exact led_out)
      clear N₆
      simp only [Nd.led, Nd.obj, List.cons_append, List.nil_append] at N₇
      repeat' (first | ((with_reducible show wpAny _ _ (subscriptTail _ _ (Value.ref _) (Value.int _ _)) _ _ _); refine ditem_tail (by first | exact dictOf_N (by assumption) (by k_mem) (by assumption) | exact dictOf_B (by assumption) (by assumption) (by assumption)) (by assumption) ?_) | ((with_reducible show wpAny _ _ (call (Value.builtin "dict.get") [Value.ref _, Value.int _ _]) _ _ _); first | refine dget_some (by assumption) (by first | exact dictOf_B (by assumption) (by assumption) (by assumption) | exact dictOf_N (by assumption) (by k_mem) (by assumption)) (by assumption) ?_ | refine dget_none (by assumption) (by first | exact dictOf_B (by assumption) (by assumption) (by assumption) | exact dictOf_N (by assumption) (by k_mem) (by assumption)) (by assumption) ?_) | ((with_reducible show wpAny _ _ (getMethod (Value.ref _) (Str.ofString "get") _) _ _ _); refine dget_get (by first | exact dictOf_B (by assumption) (by assumption) (by assumption) | exact dictOf_N (by assumption) (by k_mem) (by assumption)) ?_) | ((with_reducible show wpAny _ _ (call (Value.builtin "list.append") [Value.ref _, _]) _ _ _); k_dflt (refine append_K (by k_asm) (by k_asm) (by k_upd) ?_ (by simp only [sizeLine_eq]; first | exact leK (by assumption) (by exact rfl) | omega)); intro hZq FZq NZq; (try k_sweep)) | walk1 | (dsimp only; first | ((with_reducible show wpAny _ _ (subscriptTail _ _ (Value.ref _) (Value.int _ _)) _ _ _); refine ditem_tail (by first | exact dictOf_N (by assumption) (by k_mem) (by assumption) | exact dictOf_B (by assumption) (by assumption) (by assumption)) (by assumption) ?_) | ((with_reducible show wpAny _ _ (call (Value.builtin "dict.get") [Value.ref _, Value.int _ _]) _ _ _); first | refine dget_some (by assumption) (by first | exact dictOf_B (by assumption) (by assumption) (by assumption) | exact dictOf_N (by assumption) (by k_mem) (by assumption)) (by assumption) ?_ | refine dget_none (by assumption) (by first | exact dictOf_B (by assumption) (by assumption) (by assumption) | exact dictOf_N (by assumption) (by k_mem) (by assumption)) (by assumption) ?_) | ((with_reducible show wpAny _ _ (getMethod (Value.ref _) (Str.ofString "get") _) _ _ _); refine dget_get (by first | exact dictOf_B (by assumption) (by assumption) (by assumption) | exact dictOf_N (by assumption) (by k_mem) (by assumption)) ?_) | ((with_reducible show wpAny _ _ (call (Value.builtin "list.append") [Value.ref _, _]) _ _ _); k_dflt (refine append_K (by k_asm) (by k_asm) (by k_upd) ?_ (by simp only [sizeLine_eq]; first | exact leK (by assumption) (by exact rfl) | omega)); intro hZq FZq NZq; (try k_sweep)) | walk1))
      all_goals dsimp only at *
      all_goals rename Fr _ _ _ _ => F₈
      all_goals rename News _ _ _ _ => N₈
      · focus (refine hid fun hGo => ?_; obtain ⟨npt', N₉⟩ : ∃ npt', News hb L' _ (({ n₂ with np := n₂.np - 1, npt := npt' } : Nd).led ++ ([(I', oI'), (I, oI), (L, oL), (q, tupOf #[.int k t] 0), (x, instObj 137 dx), (dx, soDict w t1 t2 t3 t4 d (.ref r) po (.int nf tnf)), (d, od), (r, W.listOf (rv'.push (.int p tp)) (re' + 1))] ++ (nodesLed pre ++ (nodesLed post ++ rest)))) := ⟨_, N₈⟩; all_goals (refine hGo ?_; clear hGo))
        refine TurnEnd.go F₈ (News.sub N₉ (led_in (H := [(I', oI'), (I, oI), (L, oL), (q, tupOf #[.int k t] 0), (x, instObj 137 dx), (dx, soDict w t1 t2 t3 t4 d (.ref r) po (.int nf tnf)), (d, od), (r, W.listOf (rv'.push (.int p tp)) (re' + 1))]))) ⟨hI', (some (.int p tp)), (some (.ref n₂.a)), _, _, _, rfl, ?_, ?_, ?_, allInts_push hai, by ((funext y; (repeat' split) <;> first | rfl | contradiction | (subst_vars; first | rfl | (exfalso; simp +decide at *; done) | (simp_all +decide; done))))⟩
        · rw [← hsh₂, hns₂]; exact shape_put rfl
        · rw [Array.size_push]; exact Nat.succ_le_succ hrz
        · rw [List.take_add_one, hp, List.foldl_append, ← hfold, hns₂, intsOf_push, ← hnk₂]
          simp only [Option.toList_some, List.foldl_cons, List.foldl_nil]
          rw [gStep_view (n := n₂) (n' := { n₂ with np := n₂.np - 1, npt := npt' }) (hns₂ ▸ hok₂.keysOk) rfl rfl rfl, if_pos (by assumption)]
      · focus (refine hid fun hGo => ?_; obtain ⟨npt', N₉⟩ : ∃ npt', News hb L' _ (({ n₂ with np := n₂.np - 1, npt := npt' } : Nd).led ++ ([(I', oI'), (I, oI), (L, oL), (q, tupOf #[.int k t] 0), (x, instObj 137 dx), (dx, soDict w t1 t2 t3 t4 d (.ref r) po (.int nf tnf)), (d, od), (r, W.listOf rv' re')] ++ (nodesLed pre ++ (nodesLed post ++ rest)))) := ⟨_, N₈⟩; all_goals (refine hGo ?_; clear hGo))
        refine TurnEnd.go F₈ (News.sub N₉ (led_in (H := [(I', oI'), (I, oI), (L, oL), (q, tupOf #[.int k t] 0), (x, instObj 137 dx), (dx, soDict w t1 t2 t3 t4 d (.ref r) po (.int nf tnf)), (d, od), (r, W.listOf rv' re')]))) ⟨hI', (some (.int p tp)), (some (.ref n₂.a)), _, _, _, rfl, ?_, ?_, ?_, hai, by ((funext y; (repeat' split) <;> first | rfl | contradiction | (subst_vars; first | rfl | (exfalso; simp +decide at *; done) | (simp_all +decide; done))))⟩
        · rw [← hsh₂, hns₂]; exact shape_put rfl
        · exact Nat.le_trans hrz (Nat.le_succ _)
        · rw [List.take_add_one, hp, List.foldl_append, ← hfold, hns₂, ← hnk₂]
          simp only [Option.toList_some, List.foldl_cons, List.foldl_nil]
          rw [gStep_view (n := n₂) (n' := { n₂ with np := n₂.np - 1, npt := npt' }) (hns₂ ▸ hok₂.keysOk) rfl rfl rfl, if_neg (by assumption)]
    · focus (rintro I' m₁ news₁ h' tk' hP0 F₅ N₆; refine hid fun hGo => ?_; rcases hP0 with ⟨hI', us, ui, ns₂, rv', re', rfl, hsh₂, hrz, hfold, hai, rfl⟩; all_goals (refine hGo ?_; clear hGo))
      refine hn₁ _ ?_
      simp only [List.cons_append, List.nil_append] at N₆
      have e14 : NeH dx q := Nat.ne_of_lt l4
      have e15 : NeH dx I := Nat.ne_of_lt (Nat.lt_trans l4 hI)
      have o2 : ∀ p ∈ nodesLed ns₂ ++ rest, p.1 ≠ dx := led_ne (fun a ha => (hH a (shape_foot hsh₂ ▸ ha)).2.1) (fun p hp => (hr3 p hp).2)
      repeat' (first | ((with_reducible show wpAny _ _ (subscriptTail _ _ (Value.ref _) (Value.int _ _)) _ _ _); refine ditem_tail (by first | exact dictOf_N (by assumption) (by k_mem) (by assumption) | exact dictOf_B (by assumption) (by assumption) (by assumption)) (by assumption) ?_) | ((with_reducible show wpAny _ _ (call (Value.builtin "dict.get") [Value.ref _, Value.int _ _]) _ _ _); first | refine dget_some (by assumption) (by first | exact dictOf_B (by assumption) (by assumption) (by assumption) | exact dictOf_N (by assumption) (by k_mem) (by assumption)) (by assumption) ?_ | refine dget_none (by assumption) (by first | exact dictOf_B (by assumption) (by assumption) (by assumption) | exact dictOf_N (by assumption) (by k_mem) (by assumption)) (by assumption) ?_) | ((with_reducible show wpAny _ _ (getMethod (Value.ref _) (Str.ofString "get") _) _ _ _); refine dget_get (by first | exact dictOf_B (by assumption) (by assumption) (by assumption) | exact dictOf_N (by assumption) (by k_mem) (by assumption)) ?_) | ((with_reducible show wpAny _ _ (call (Value.builtin "list.append") [Value.ref _, _]) _ _ _); k_dflt (refine append_K (by k_asm) (by k_asm) (by k_upd) ?_ (by simp only [sizeLine_eq]; first | exact leK (by assumption) (by exact rfl) | omega)); intro hZq FZq NZq; (try k_sweep)) | walk1 | (dsimp only; first | ((with_reducible show wpAny _ _ (subscriptTail _ _ (Value.ref _) (Value.int _ _)) _ _ _); refine ditem_tail (by first | exact dictOf_N (by assumption) (by k_mem) (by assumption) | exact dictOf_B (by assumption) (by assumption) (by assumption)) (by assumption) ?_) | ((with_reducible show wpAny _ _ (call (Value.builtin "dict.get") [Value.ref _, Value.int _ _]) _ _ _); first | refine dget_some (by assumption) (by first | exact dictOf_B (by assumption) (by assumption) (by assumption) | exact dictOf_N (by assumption) (by k_mem) (by assumption)) (by assumption) ?_ | refine dget_none (by assumption) (by first | exact dictOf_B (by assumption) (by assumption) (by assumption) | exact dictOf_N (by assumption) (by k_mem) (by assumption)) (by assumption) ?_) | ((with_reducible show wpAny _ _ (getMethod (Value.ref _) (Str.ofString "get") _) _ _ _); refine dget_get (by first | exact dictOf_B (by assumption) (by assumption) (by assumption) | exact dictOf_N (by assumption) (by k_mem) (by assumption)) ?_) | ((with_reducible show wpAny _ _ (call (Value.builtin "list.append") [Value.ref _, _]) _ _ _); k_dflt (refine append_K (by k_asm) (by k_asm) (by k_upd) ?_ (by simp only [sizeLine_eq]; first | exact leK (by assumption) (by exact rfl) | omega)); intro hZq FZq NZq; (try k_sweep)) | walk1))
      all_goals dsimp only at *
      rename Fr _ _ _ _ => F₈
      rename News _ _ _ _ => N₈
      have hln : n.sv.toList.length = ss.length := hin.length
      rw [hln, List.take_length] at hfold
      refine TurnEnd.go F₈ N₈ ⟨hI, .inr ⟨rfl, EI4 ns₂ rv' re' _ ⟨rfl, hsh₂, ?_, ?_⟩⟩⟩
      · exact congrArg Prod.fst hfold
      · have := allInts_are hai
        rw [show intsOf rv' = _ from congrArg Prod.snd hfold] at this
        exact this
  · focus (rintro I m₁ news₁ h tk hP0 F₅ N₆; refine hid fun hGo => ?_; rcases hP0 with ⟨hI, ⟨hc, _⟩ | ⟨_, ns₂, rv', re', tnf', rfl, hsh, hvw, hrs⟩⟩; all_goals (refine hGo ?_; clear hGo))
    · simp at hc
    · obtain ⟨F₇, N₇⟩ := backN bk F₅ (News.sub (l' := (L, oL) :: (x, instObj 137 dx) :: (dx, soDict w t1 t2 t3 t4 d (.ref r) po (.int (nf + 1) tnf')) :: (d, od) :: (r, W.listOf rv' re') :: (nodesLed ns₂ ++ rest)) N₆ (by simp only [List.cons_append, List.nil_append]; ((repeat' (first | exact List.forall_mem_nil _ | (refine fmc (by k_memK) ?_) | (intro p hp; k_ownIn)))))) (by
        refine fmc l6 (fmc l5 (fmc l7 (fmc l7' ?_)))
        intro p hp
        try simp only [List.nil_append, List.append] at hp
        refine led_ne (fun a ha => ?_) (fun p hp => l8 p (List.mem_append_right _ hp)) p hp
        rw [shape_foot hsh] at ha
        focus (refine hid fun hGo => ?_; obtain ⟨p', hp', e⟩ := led_addr (rest := rest) ha; all_goals (refine hGo ?_; clear hGo))
        exact e ▸ l8 p' hp')
      refine wpAny_execs_nil ?_
      exact hQ _ _ ns₂ rv' re' tnf' F₇ N₇ hsh hvw hrs

theorem getattr_next {w : World} {A : Around} {s : Shared} {E : Value → Shared → Prop} {it l : Addr} {i : Int} {expr : Bool} {Q : Value → Shared → Prop}
    (hit : s.heap.get? it = some { cls := .type "list_iterator", data := .fields #[.ref l, .int i 0] })
    (hQ : ∀ tk, Q (.ref s.heap.objs.size) { s with heap := s.heap.push { cls := .type "method-wrapper", data := .fields #[.builtin "list_iterator.__next__", .ref it] }, toks := tk }) :
    wpAny (model PP w) A (getAttr (.ref it) "__next__" expr) Q E s := by
  obtain ⟨hp, g, d, tk, os⟩ := s
  have hT : Shared.TypeIs ⟨hp, g, d, tk, os⟩ (.ref it) "list_iterator" := ⟨_, hit, rfl⟩
  unfold getAttr getAttrBy
  refine wpAny_bind (wpAny_mkText (wpAny_holding (wpAny_bind (wpAny_typeOf ⟨_, hit, rfl⟩ ?_))))
  have h1 : typeLookup (.type "list_iterator") "__getattribute__" = pure (some (.builtin "object.__getattribute__")) := by rw [typeLookup_type, builtinLookup_eq_fast]; kernel_rfl
  rw [h1]
  refine wpAny_bind (wpAny_pure ?_)
  dsimp only
  rw [if_neg (by decide)]
  unfold getAttrByItsOwn
  have b1 : bindSpecial (.builtin "object.__getattribute__") (.ref it) = pure (.builtin "object.__getattribute__", [.ref it]) := by kernel_rfl
  refine wpAny_bind (wpAny_pure ?_)
  refine wpAny_bind (wpAny_attempt (wpAny_holding ?_))
  unfold callGetattribute
  rw [if_neg (by cases expr <;> decide)]
  unfold boundAndCalled
  rw [b1]
  refine wpAny_bind (wpAny_pure ?_)
  dsimp only
  have sl : Slot "list_iterator" "__getattribute__" "object.__getattribute__" :=
    .of (owner := "object") (n := "__getattribute__") (by rw [typeLookup_type, builtinLookup_eq_fast]; kernel_rfl) (by decide +kernel) (by decide +kernel) (by decide +kernel)
      (by first | exact .inl (by decide +kernel) | exact .inr (by decide +kernel)) (by rw [isSubtype_type]; kernel_rfl)
  have en : entryFor table "object.__getattribute__" = some Builtin.«object.__getattribute__» := entryFor_of_tree (by kernel_rfl)
  have hT' : Shared.TypeIs ⟨hp, g, d, tk + 1, os⟩ (.ref it) "list_iterator" := ⟨_, hit, rfl⟩
  refine wpAny_call_entry sl hT' en ?_ (by unfold argsOk; kernel_rfl)
  unfold Builtin.«object.__getattribute__»
  have f1 : typeLookup (.type "list_iterator") "__next__" = pure (some (.builtin "list_iterator.__next__")) := slot_listiter_next.lookup
  have f2 : specialOf (.builtin "list_iterator.__next__") "__get__" = pure (some (.builtin "wrapper_descriptor.__get__")) := by kernel_rfl
  have f3 : Builtin.ObjectAttr.dataDescriptor? (some (.builtin "list_iterator.__next__")) (some (.builtin "wrapper_descriptor.__get__")) = pure none := by kernel_rfl
  refine wpAny_bind (wpAny_of_eq (a := (Value.ref it, [Value.str ("__next__" : Str) tk])) (by kernel_rfl) ?_)
  dsimp only
  refine wpAny_bind (wpAny_of_eq (a := ("__next__" : Str)) (by kernel_rfl) ?_)
  refine wpAny_bind (wpAny_typeOf hT' ?_)
  have hf : wpAny (model PP w) A.in1 (Builtin.ObjectAttr.find (.ref it) (.type "list_iterator") "__next__") (fun r s' => r = .bind (.builtin "wrapper_descriptor.__get__") (.builtin "list_iterator.__next__") ∧ s' = ⟨hp, g, d, tk + 1, os⟩) (fun _ _ => False) ⟨hp, g, d, tk + 1, os⟩ := by
    unfold Builtin.ObjectAttr.find
    refine wpAny_bind (wpAny_of_eq f1 ?_)
    refine wpAny_bind (wpAny_of_eq (show Builtin.ObjectAttr.getOf (some (.builtin "list_iterator.__next__")) = pure (some (.builtin "wrapper_descriptor.__get__")) from f2) ?_)
    refine wpAny_bind (wpAny_of_eq f3 ?_)
    dsimp only
    unfold Builtin.ObjectAttr.ownThenClass Builtin.ObjectAttr.inOwnDict
    dsimp only
    refine wpAny_bind (wpAny_bind ?_)
    unfold Builtin.ObjectAttr.ownDict
    refine wpAny_bind (wpAny_loadPart hit ?_)
    dsimp only
    unfold instanceDict
    refine wpAny_bind (wpAny_loadPart hit ?_)
    show wpAny _ _ (pure none) _ _ _
    refine wpAny_pure ?_
    show wpAny _ _ (pure none) _ _ _
    refine wpAny_pure ?_
    dsimp only
    refine wpAny_bind (wpAny_of_eq (a := ()) (by kernel_rfl) ?_)
    show wpAny _ _ (do rule "getattr.non-data-descriptor"; pure _) _ _ _
    exact wpAny_bind (wpAny_rule (wpAny_pure ⟨rfl, rfl⟩))
  refine wpAny_bind (wpAny_mono hf ?_ (fun _ _ h => h.elim))
  rintro r s' ⟨rfl, rfl⟩
  dsimp only
  unfold Builtin.ObjectAttr.bindTo
  show wpAny _ _ (do ret (← holding [.builtin "list_iterator.__next__"] (call (.builtin "wrapper_descriptor.__get__") [.builtin "list_iterator.__next__", .ref it, .type "list_iterator"]))) _ _ _
  have sl2 : Slot "wrapper_descriptor" "__get__" "wrapper_descriptor.__get__" :=
    .of (owner := "wrapper_descriptor") (n := "__get__") (by rw [typeLookup_type, builtinLookup_eq_fast]; kernel_rfl) (by decide +kernel) (by decide +kernel) (by decide +kernel)
      (by first | exact .inl (by decide +kernel) | exact .inr (by decide +kernel)) (by rw [isSubtype_type]; kernel_rfl)
  have en2 : entryFor table "wrapper_descriptor.__get__" = some Builtin.«wrapper_descriptor.__get__» := entryFor_of_tree (by kernel_rfl)
  have hT2 : Shared.TypeIs ⟨hp, g, d, tk + 1, os⟩ (.builtin "list_iterator.__next__") "wrapper_descriptor" := by
    show typeOf _ = _
    kernel_rfl
  refine wpAny_bind (wpAny_holding (wpAny_call_entry sl2 hT2 en2 ?_ (by unfold argsOk; kernel_rfl)))
  unfold Builtin.«wrapper_descriptor.__get__»
  refine wpAny_bind (wpAny_of_eq (a := (Value.builtin "list_iterator.__next__", some (Value.ref it), some (Value.type "list_iterator"))) (by kernel_rfl) ?_)
  dsimp only
  have hit' : hp.get? it = some { cls := .type "list_iterator", data := .fields #[.ref l, .int i 0] } := hit
  have hsub : isSubtype (.type "list_iterator") (.type "list_iterator") = pure true := by rw [isSubtype_type]; kernel_rfl
  have hL : Looks (model PP w) hp (isInstance (.ref it) (.type "list_iterator")) true := by
    unfold isInstance
    exact ((Looks.ld hit').andThen .now).andThen (Looks.of_pure hsub)
  repeat lk
  exact ⟨_, rfl, wpAny_pure ⟨_, rfl, wpAny_pure (hQ _)⟩⟩

theorem mw_call {w : World} {A : Around} {s : Shared} {E : Value → Shared → Prop} {mw it l : Addr} {i : Int} {Q : Value → Shared → Prop}
    (hmw : s.heap.get? mw = some { cls := .type "method-wrapper", data := .fields #[.builtin "list_iterator.__next__", .ref it] })
    (hit : s.heap.get? it = some { cls := .type "list_iterator", data := .fields #[.ref l, .int i 0] })
    (h : wpAny (model PP w) A.in1 (Builtin.«list_iterator.__next__» ⟨[.ref it], []⟩) (fun fin s' => ∃ v, fin = .done (.ret v) ∧ Q v s') E s) :
    wpAny (model PP w) A (call (.ref mw) []) Q E s := by
  obtain ⟨hp, g, d, tk, os⟩ := s
  have hmw' : hp.get? mw = some { cls := .type "method-wrapper", data := .fields #[.builtin "list_iterator.__next__", .ref it] } := hmw
  have hit' : hp.get? it = some { cls := .type "list_iterator", data := .fields #[.ref l, .int i 0] } := hit
  refine wpAny_call (codeAny_of_tree ?_)
  show wpAny _ _ (callAny (.ref mw) ⟨[], []⟩) _ _ _
  unfold callAny
  refine wpAny_bind (wpAny_load hmw' ?_)
  dsimp only
  show wpAny _ _ (do checkBoundCall "list_iterator.__next__" ⟨[.ref it], []⟩; again (.builtin "list_iterator.__next__" ⟨[.ref it], []⟩)) _ _ _
  have hc : checkBoundCall "list_iterator.__next__" ⟨[.ref it], []⟩ = pure () := by kernel_rfl
  have hpl : plainId "list_iterator.__next__" = true := by decide +kernel
  refine wpAny_bind (wpAny_of_eq hc (wpAny_pure ⟨plainId_quiet hpl _, codeAny_builtin entry_listiter_next ?_⟩))
  rw [Around.under_plainId hpl]
  refine wpAny_mono h (fun fin s' hf => ?_) fun _ _ e => e
  obtain ⟨v, rfl, hq⟩ := hf
  exact hq

theorem next_item {w : World} {A : Around} {s : Shared} {E : Value → Shared → Prop} {it l : Addr} {i : Nat} {items : Array Value} {x : Value} {Q : Value → Shared → Prop}
    (hit : s.heap.get? it = some { cls := .type "list_iterator", data := .fields #[.ref l, .int i 0] }) (hl : s.heap.IsList l items) (hx : items[i]? = some x)
    (hQ : ∀ h', h'.get? it = some { cls := .type "list_iterator", data := .fields #[.ref l, .int ((i + 1 : Nat) : Int) 0] } → Heap.SameBut it s.heap h' → Q x { s with heap := h' }) :
    wpAny (model PP w) A (Builtin.«list_iterator.__next__» ⟨[.ref it], []⟩) (fun fin s' => ∃ v, fin = .done (.ret v) ∧ Q v s') E s := by
  obtain ⟨ol, hol, _, nl, hdl⟩ := hl
  show wpAny _ _ (field (.ref it) 0 >>= _) _ _ s
  refine wpAny_bind (wpAny_field hit rfl (x := .ref l) rfl ?_)
  show wpAny _ _ (if (Value.ref l == Value.none) = true then _ else _) _ _ s
  rw [if_neg (show ¬ ((Value.ref l == Value.none) = true) from Bool.false_ne_true)]
  show wpAny _ _ (field (.ref it) 1 >>= _) _ _ s
  refine wpAny_bind (wpAny_field hit rfl (x := .int i 0) rfl ?_)
  show wpAny _ _ (seqItems? (.ref l) >>= _) _ _ s
  refine wpAny_bind (wpAny_seqItems hol hdl ?_)
  simp only [Int.toNat_natCast, hx]
  refine wpAny_bind (wpAny_setField hit rfl (by simp) (wpAny_pure ⟨x, rfl, hQ _ ?_ (Heap.SameBut.update ..)⟩))
  have := Heap.get?_update_self (h := s.heap) (a := it) (Obj.mapFields (·.setIfInBounds 1 (rawInt ((i : Int) + 1)))) hit rfl
  simpa [Obj.mapFields, rawInt] using this

theorem next_end {w : World} {A : Around} {s : Shared} {E : Value → Shared → Prop} {it l : Addr} {i : Nat} {items : Array Value} {Q : Fin → Shared → Prop}
    (hh : A.handled = none) (hit : s.heap.get? it = some { cls := .type "list_iterator", data := .fields #[.ref l, .int i 0] }) (hl : s.heap.IsList l items) (hx : items[i]? = none)
    (hE : ∀ h' (e t : Nat), h'.get? e = some { cls := .type "StopIteration", data := .fields #[.ref t, .none, .none, .none, .bool false, .none] } → s.heap.objs.size ≤ e → e + 1 = h'.objs.size → (∀ b o, b ≠ it → s.heap.get? b = some o → h'.get? b = some o) → E (.ref e) { s with heap := h' }) :
    wpAny (model PP w) A (Builtin.«list_iterator.__next__» ⟨[.ref it], []⟩) Q E s := by
  obtain ⟨ol, hol, _, nl, hdl⟩ := hl
  show wpAny _ _ (field (.ref it) 0 >>= _) _ _ s
  refine wpAny_bind (wpAny_field hit rfl (x := .ref l) rfl ?_)
  show wpAny _ _ (if (Value.ref l == Value.none) = true then _ else _) _ _ s
  rw [if_neg (show ¬ ((Value.ref l == Value.none) = true) from Bool.false_ne_true)]
  show wpAny _ _ (field (.ref it) 1 >>= _) _ _ s
  refine wpAny_bind (wpAny_field hit rfl (x := .int i 0) rfl ?_)
  show wpAny _ _ (seqItems? (.ref l) >>= _) _ _ s
  refine wpAny_bind (wpAny_seqItems hol hdl ?_)
  simp only [Int.toNat_natCast, hx]
  refine wpAny_bind (wpAny_rule (wpAny_bind (wpAny_setField hit rfl (by simp) ?_)))
  show wpAny _ _ (newExc (.type "StopIteration") [] >>= _) _ _ _
  refine wpAny_bind ?_
  simp only [newExc, newTuple]
  refine wpAny_bind (wpAny_newObj_type ?_ (by size_fits))
  refine wpAny_bind (m := firstArgMember _ _) (wpAny_of_eq (a := Value.none) (by first | rfl | (simp only [firstArgMember]; rfl)) ?_)
  refine wpAny_newObj_type ?_ (by size_fits)
  simp only [raiseNew]
  refine wpAny_bind (wpAny_handled ?_)
  rw [hh]
  refine wpAny_bind (wpAny_pure (wpAny_throw ?_))
  refine hE _ _ _ (Heap.get?_push_size _ rfl) ?_ ?_ ?_
  · simp
  · simp
  · intro b o hb ho
    exact Heap.get?_push_of_some _ (Heap.get?_push_of_some _ ((Heap.get?_update_other _ _ (Ne.symm hb)).trans ho))

/-- all stays but the slots of the frames -/
noncomputable def UpF (fs : List Addr) (h h' : Heap) : Prop := ∀ b o, h.get? b = some o → (b ∉ fs → h'.get? b = some o) ∧ ∃ sl, h'.get? b = some { o with slots := sl }

noncomputable def frAddrs (l : List Env) : List Addr := l.filterMap (·.frame)

theorem readyFrames_mine {M : Model} {A : Around} {E : Value → Shared → Prop} {Q : Unit → Shared → Prop} : ∀ (l : List Env) (s : Shared), (∀ env ∈ l, env.scope.kind = .function ∧ ∃ f o, env.frame = some f ∧ s.heap.get? f = some o) →
    (∀ h', h'.objs.size = s.heap.objs.size → UpF (frAddrs l) s.heap h' → Q () { s with heap := h' }) → wpAny M A (readyFrames l) Q E s
  | [], s, _, hQ => wpAny_pure (hQ s.heap rfl fun b o e => ⟨fun _ => e, o.slots, e⟩)
  | env :: outer, s, hl, hQ => by
    obtain ⟨hk, f, o, hf, ho⟩ := hl env (.head _)
    have hfa : frAddrs (env :: outer) = f :: frAddrs outer := by unfold frAddrs; rw [List.filterMap_cons, hf]
    simp only [readyFrames, hf]
    refine wpAny_bind (wpAny_load ho ?_)
    by_cases hr : ((o.slots.getD 3 none).isSome) = true
    · rw [if_pos hr]; exact wpAny_pure (hQ s.heap rfl fun b o e => ⟨fun _ => e, o.slots, e⟩)
    · rw [if_neg hr]
      have kind : env.scope.kind ≠ .module := by rw [hk]; decide
      refine wpAny_bind (wpAny_of_eq (a := false) (by simp [behindIsImport, kind]) ?_)
      have go : ∀ back : Value, wpAny M A (do
          update f fun o => { o with slots := #[some env.code, some (.ref env.globals), o.slots.getD 2 none, some back, o.slots.getD 4 none, env.func.map Value.ref, some (.ref env.builtins)] ++ (env.cells.map fun c => some (.ref c.2)).toArray }
          readyFrames outer) Q E s := by
        intro back
        refine wpAny_bind (wpAny_update ho ?_)
        have hnf : o.isFreed = false := (Heap.get?_some_iff.mp ho).2
        have up : ∀ b x, s.heap.get? b = some x → ∃ sl, (s.heap.update f fun o => { o with slots := #[some env.code, some (.ref env.globals), o.slots.getD 2 none, some back, o.slots.getD 4 none, env.func.map Value.ref, some (.ref env.builtins)] ++ (env.cells.map fun c => some (.ref c.2)).toArray }).get? b = some { x with slots := sl } := by
          intro b x hb
          by_cases e : b = f
          · subst e
            rw [ho] at hb; cases hb
            refine ⟨_, Heap.get?_update_self _ ho ?_⟩
            obtain ⟨c, d, dt, sl⟩ := o; cases dt <;> first | rfl | exact hnf
          · exact ⟨x.slots, (Heap.get?_update_other _ _ (Ne.symm e)).trans hb⟩
        refine readyFrames_mine outer _ ?_ ?_
        · intro env' he'
          obtain ⟨hk', f', o', hf', ho'⟩ := hl env' (.tail _ he')
          obtain ⟨sl, h⟩ := up f' o' ho'
          exact ⟨hk', f', _, hf', h⟩
        · intro h' hs hu
          refine hQ h' (hs.trans (Heap.size_after_update ..)) ?_
          intro b x hb
          obtain ⟨sl, h1⟩ := up b x hb
          obtain ⟨h2, sl2, h3⟩ := hu b _ h1
          refine ⟨fun hn => ?_, sl2, h3⟩
          rw [hfa, List.mem_cons, not_or] at hn
          have h4 : (s.heap.update f fun o => { o with slots := #[some env.code, some (.ref env.globals), o.slots.getD 2 none, some back, o.slots.getD 4 none, env.func.map Value.ref, some (.ref env.builtins)] ++ (env.cells.map fun c => some (.ref c.2)).toArray }).get? b = some x := (Heap.get?_update_other _ _ (Ne.symm hn.1)).trans hb
          exact (hu b x h4).1 hn.2
      cases outer with
      | nil => exact wpAny_bind (wpAny_keptBack_nil fun v => go v)
      | cons c r => exact wpAny_bind (wpAny_pure (go _))

theorem noteFrame_mine {M : Model} {A : Around} {E : Value → Shared → Prop} {s : Shared} {env : Env} {outer : List Env} {L e : Addr} {oe : Obj} {vs : Array Value} {Q : Unit → Shared → Prop}
    (hfr : A.frames = some (env :: outer)) (hf : env.frame = some L) (hl : ∀ x ∈ env :: outer, x.scope.kind = .function ∧ ∃ f o, x.frame = some f ∧ s.heap.get? f = some o)
    (he : s.heap.get? e = some oe) (hef : e ∉ frAddrs (env :: outer)) (hd : oe.data = .fields vs) (h1 : vs[1]? = some .none)
    (h : ∀ h' tb pl, IsPlace pl → (∀ b o, b ≠ e → s.heap.get? b = some o → (b ∉ frAddrs (env :: outer) → h'.get? b = some o) ∧ ∃ sl, h'.get? b = some { o with slots := sl }) → s.heap.get? tb = none → e ≠ tb →
      h'.get? e = some (oe.mapFields (·.setIfInBounds 1 (.ref tb))) → h'.get? tb = some { cls := .type "traceback", dict := none, data := .fields ([Value.none, .ref L, .none, rawInt L, .none] ++ (if pl.isEmpty then List.replicate 6 Value.none else pl)).toArray } →
      Q () { s with heap := h' }) :
    wpAny M A (noteFrame (.ref e) env) Q E s := by
  have hsz : 1 < vs.size := (Array.getElem?_eq_some_iff.mp h1).1
  unfold noteFrame
  simp only [hf]
  refine wpAny_bind (wpAny_field he hd h1 ?_)
  rw [if_neg (by decide)]
  unfold PySem.frameOf
  refine wpAny_bind (wpAny_bind (wpAny_frameEnvs hfr ?_))
  have hdw : ((env :: outer).dropWhile fun x => x.frame != env.frame) = env :: outer := by simp [List.dropWhile]
  rw [hdw]
  unfold frameObject
  refine wpAny_bind (wpAny_bind (readyFrames_mine _ _ hl fun h₁ hs₁ hu => wpAny_pure ?_))
  rw [hf]
  refine wpAny_pure ?_
  refine wpAny_bind (wpAny_entryPlaceOf fun pl hpl => ?_)
  unfold EntryCells.newEntry newFields
  refine wpAny_bind (wpAny_newObj_type ?_ (hpl.sizeOk5 _ _ _ _ _))
  have he₁ : h₁.get? e = some oe := (hu e oe he).1 hef
  have he₂ := Heap.get?_push_of_some (h := h₁) { cls := .type "traceback", dict := none, data := .fields ([Value.none, .ref L, .none, rawInt L, .none] ++ (if pl.isEmpty then List.replicate 6 Value.none else pl)).toArray } he₁
  refine wpAny_setField he₂ hd hsz ?_
  have hTe : h₁.objs.size ≠ e := Nat.ne_of_gt (Heap.lt_size he₁)
  have hd₃ := Obj.data_mapFields hd (·.setIfInBounds 1 (Value.ref h₁.objs.size))
  refine h _ h₁.objs.size pl hpl (fun b o hbe hb => ?_) (Heap.get?_none_of_le (by rw [hs₁]; exact Nat.le_refl _)) (Ne.symm hTe) (Heap.get?_update_self _ he₂ (Obj.isFreed_of_fields hd₃)) ?_
  · obtain ⟨u1, sl, u2⟩ := hu b o hb
    exact ⟨fun hn => by rw [Heap.get?_update_other _ _ (Ne.symm hbe)]; exact Heap.get?_push_of_some _ (u1 hn), sl, by rw [Heap.get?_update_other _ _ (Ne.symm hbe)]; exact Heap.get?_push_of_some _ u2⟩
  · rw [Heap.get?_update_other _ _ (Ne.symm hTe)]
    exact Heap.get?_push_size h₁ rfl

theorem caught_stop {w : World} {A : Around} {E : Value → Shared → Prop} {s : Shared} {env : Env} {outer : List Env} {L e t : Addr} {np pos : Pos} {b₀ : Stmt} {suite : List Stmt} {Q : Flow → Shared → Prop}
    (hfr : A.frames = some (env :: outer)) (hf : env.frame = some L) (hl : ∀ x ∈ env :: outer, x.scope.kind = .function ∧ ∃ f o, x.frame = some f ∧ s.heap.get? f = some o)
    (he : s.heap.get? e = some { cls := .type "StopIteration", data := .fields #[.ref t, .none, .none, .none, .bool false, .none] }) (hef : e ∉ frAddrs (env :: outer))
    (hname : ∀ (h' : Heap) (A' : Around) (Q' : Value → Shared → Prop) (E' : Value → Shared → Prop), (∀ b o, b ≠ e → s.heap.get? b = some o → (b ∉ frAddrs (env :: outer) → h'.get? b = some o) ∧ ∃ sl, h'.get? b = some { o with slots := sl }) →
      Q' (.type "StopIteration") { s with heap := h' } → wpAny (model PP w) A' (eval (.Name (Str.ofString "StopIteration") np) env) Q' E' { s with heap := h' })
    (k : ∀ h', (∀ b o, b ≠ e → s.heap.get? b = some o → (b ∉ frAddrs (env :: outer) → h'.get? b = some o) ∧ ∃ sl, h'.get? b = some { o with slots := sl }) →
      wpAny (model PP w) (A.mark (some (.ref e))) (execs (b₀ :: suite) env) Q (fun _ _ => False) { s with heap := h' }) :
    wpAny (model PP w) A (noteFrame (.ref e) env) (fun _ s₂ => wpAny (model PP w) A (setFlight (.ref e) none) (fun _ s₃ =>
      wpAny (model PP w) A (handleBy (.ref e) env [.ExceptHandler (some (.Name (Str.ofString "StopIteration") np)) none (b₀ :: suite) pos]) Q E s₃) E s₂) E s := by
  refine noteFrame_mine hfr hf hl he hef rfl rfl ?_
  intro h₁ tb pl hpl hk₁ htb hetb he₁ htb₁
  have hn3 : 3 < ([Value.none, .ref L, .none, rawInt L, .none] ++ (if pl.isEmpty then List.replicate 6 Value.none else pl)).toArray.size := by simp
  have step : ∀ (h h' : Heap), (∀ b o, b ≠ e → s.heap.get? b = some o → (b ∉ frAddrs (env :: outer) → h.get? b = some o) ∧ ∃ sl, h.get? b = some { o with slots := sl }) → Heap.SameBut tb h h' →
      ∀ b o, b ≠ e → s.heap.get? b = some o → (b ∉ frAddrs (env :: outer) → h'.get? b = some o) ∧ ∃ sl, h'.get? b = some { o with slots := sl } := by
    intro h h' hk hs b o hbe hb
    have hbt : b ≠ tb := by rintro rfl; rw [htb] at hb; cases hb
    obtain ⟨u1, sl, u2⟩ := hk b o hbe hb
    exact ⟨fun hn => (hs.2 b hbt).trans (u1 hn), sl, (hs.2 b hbt).trans u2⟩
  refine wpAny_setFlight_none he₁ rfl (by simp) htb₁ rfl hn3 ?_
  have s₂ := Heap.SameBut.update h₁ tb (Obj.mapFields (·.setIfInBounds 3 .none))
  have hk₂ := step _ _ hk₁ s₂
  have he₂ := (s₂.2 e hetb).trans he₁
  have htb₂ := Heap.get?_update_self (h := h₁) (Obj.mapFields (·.setIfInBounds 3 .none)) htb₁ rfl
  refine wpAny_handleBy_builtin (X := "StopIteration") (T := "StopIteration") (b := true) (by rw [isSubtype_type]; kernel_rfl) (by kernel_rfl) (by rw [isSubtype_type]; kernel_rfl) ?_
  refine hname _ _ _ _ hk₂ ⟨rfl, ⟨_, he₂, rfl⟩, ?_⟩
  simp only [if_true]
  refine wpAny_setFlight_none he₂ rfl (by simp) htb₂ rfl (by simp) ?_
  have s₃ := Heap.SameBut.update (h₁.update tb (Obj.mapFields (·.setIfInBounds 3 .none))) tb (Obj.mapFields (·.setIfInBounds 3 .none))
  exact wpAny_mono (k _ (step _ _ hk₂ s₃)) (fun _ _ q => q) (fun _ _ q => q.elim)

section
variable {w : World} {A : Around} {s : Shared} {E : Value → Shared → Prop} {hb : Heap} {L d : Addr} {m : Str → Option Value} {news : List (Addr × Obj)} {od : Obj} {kvs : List (Int × Value)} {g : Obj → List (Addr × Obj)} {its : Array Value} {n : Nat}
theorem din_N {k : Int} {t : Tok} {b : Bool} {Q : Value → Shared → Prop} (N : News hb L s.heap news) (hm : (d, od) ∈ news) (ho : od.IsDictOf (intKind PP w) kvs) (hs : (d == sysModules) = false) (hv : (valueAt kvs k).isSome = b)
    (h : Q (.bool b) { s with toks := s.toks + 1 }) : wpAny (model PP w) A (compareOp .In (.int k t) (.ref d)) Q E s :=
  wpAny_in_of (intKind_is PP w k t) hs (dictOf_N N hm ho).mapOf (by rw [hv]; exact h)
theorem ddel_N {k : Int} {t : Tok} {Q : Unit → Shared → Prop} (F : Fr hb L s.heap m) (N : News hb L s.heap news) (U : UpdF d od news g) (ho : od.IsDictOf (intKind PP w) kvs) (hsz : kvs.length ≤ 1000) (hv : (valueAt kvs k).isSome = true)
    (h : ∀ h' od', Fr hb L h' m → News hb L h' (g od') → od'.IsDictOf (intKind PP w) (without kvs k) → Q () { s with heap := h', toks := s.toks + 1 }) :
    wpAny (model PP w) A (delItem (.ref d) (.int k t)) Q E s := by
  obtain ⟨pre, post, rfl, hg, h1, h2⟩ := U.split
  have hm := N (d, od) (List.mem_append_right _ (.head _))
  have hD : s.heap.DictOf (intKind PP w) d kvs := Heap.dictOf_iff.mpr ⟨od, hm.1, ho⟩
  unfold delItem
  try with_reducible refine wpAny_holding ?_
  refine wpAny_bind (wpAny_sequenceKey hD.typeIs (by decide) ?_)
  refine wpAny_bind (wpAny_callSpecial?_slot (name := Str.ofString "__delitem__") hD.typeIs PySem.F.slot_dict_delitem
    (call_meetsIn PySem.F.slot_dict_delitem hD.typeIs PySem.F.entry_dict_delitem (PySem.F.args_dict_delitem_2 _ _) (meets_dict_delitem_pairs (intKind PP w) d (intKind_is PP w k t)) ⟨kvs, hD, (by rw [sizeLine_eq]; omega), hv, fun h' hmm hs => ?_⟩))
  obtain ⟨o', ho', hd'⟩ := Heap.dictOf_iff.mp hmm
  exact wpAny_pure (h h' o' (F.change hs hm.2.1 hm.2.2) (by rw [hg]; exact N.setAt h1 h2 hs ho') hd')
theorem iter_N {l : Addr} {Q : Value → Shared → Prop} (F : Fr hb L s.heap m) (N : News hb L s.heap news) (hl : (l, W.listOf its n) ∈ news)
    (h : ∀ (I : Addr) h', Fr hb L h' m → News hb L h' ((I, { cls := .type "list_iterator", data := .fields #[.ref l, .int 0 0] }) :: news) → (∀ p ∈ news, p.1 < I) → Q (.ref I) { s with heap := h' }) :
    wpAny (model PP w) A (call (.builtin "iter") [.ref l]) Q E s := by
  refine call_function_entry (by decide +kernel) (by decide +kernel) kdk_entry_iter (kdk_args_iter _) ?_
  unfold Builtin.«iter»
  refine wpAny_bind (m := someArgs "iter" 1 2 _) (wpAny_of_eq (a := [Value.ref l]) (by first | rfl | kernel_rfl!) ?_)
  show wpAny _ _ (pyIter (.ref l) >>= _) _ _ _
  refine wpAny_bind (wpAny_pyIter_list (News.isList N hl) ?_)
  exact wpAny_pure ⟨_, rfl, h _ _ (F.push _) (News.push F N _ rfl) (fun q hq => Heap.lt_size (N q hq).1)⟩
theorem nextattr_N {it l : Addr} {i : Int} {expr : Bool} {Q : Value → Shared → Prop} (F : Fr hb L s.heap m) (N : News hb L s.heap news) (hl : (it, ({ cls := .type "list_iterator", data := .fields #[.ref l, .int i 0] } : Obj)) ∈ news)
    (h : ∀ (I : Addr) h' tk, Fr hb L h' m → News hb L h' ((I, { cls := .type "method-wrapper", data := .fields #[.builtin "list_iterator.__next__", .ref it] }) :: news) → (∀ p ∈ news, p.1 < I) → Q (.ref I) { s with heap := h', toks := tk }) :
    wpAny (model PP w) A (getAttr (.ref it) (Str.ofString "__next__") expr) Q E s :=
  getattr_next (N _ hl).1 fun tk => h _ _ tk (F.push _) (News.push F N _ rfl) (fun q hq => Heap.lt_size (N q hq).1)
theorem last_N {value slice : Expr} {l : Addr} {t : Tok} {p : List Value} {y : Value} {Q : Value → Shared → Prop} (N : News hb L s.heap news) (hl : (l, W.listOf its n) ∈ news) (hy : its.toList = p ++ [y]) (h : Q y s)
    (hs : subscripted slice false (.ref l) (.int (-1) t) = operate [.ref l, .int (-1) t] (getItem (.ref l) (.int (-1) t)) := by rfl) :
    wpAny (model PP w) A (subscriptTail value slice (.ref l) (.int (-1) t)) Q E s := by
  have hL := News.isList N hl
  refine tail_any hL.typeIs slot_list_getitem.lookup (wpAny_getItem_list_neg hL (by decide) ?_ (by decide) ?_ h) hs
  · have : its.size = p.length + 1 := by rw [← Array.length_toList, hy]; simp
    omega
  · have : its.size = p.length + 1 := by rw [← Array.length_toList, hy]; simp
    rw [this, ← Array.getElem?_toList, hy]
    have : ((-1 : Int) + ((p.length + 1 : Nat) : Int)).toNat = p.length := by omega
    rw [this]; simp
theorem pop_N {D : Addr} {p : List Value} {y : Value} {Q : Value → Shared → Prop} (F : Fr hb L s.heap m) (N : News hb L s.heap news) (U : UpdF D (W.listOf its n) news g) (e : its.toList = p ++ [y]) (hz : its.size ≤ 10000)
    (h : ∀ h', Fr hb L h' m → News hb L h' (g (W.listOf p.toArray (n + 1))) → Q y { s with heap := h' }) : wpAny (model PP w) A (call (.builtin "list.pop") [.ref D]) Q E s := by
  obtain ⟨pre, post, rfl, hg, h1, h2⟩ := U.split
  have z := N (D, W.listOf its n) (List.mem_append.mpr (.inr (.head _)))
  have ei : its = (p ++ [y]).toArray := by rw [← e, Array.toArray_toList]
  subst ei
  have hk : (p ++ [y]).toArray.size - 1 = p.length := by rw [List.size_toArray, List.length_append]; rfl
  have hy : (p ++ [y]).toArray[(p ++ [y]).toArray.size - 1]? = some y := by rw [hk]; simp
  refine call_meets PySem.F.slot_list_pop ⟨_, z.1, rfl⟩ PySem.F.entry_list_pop (PySem.F.args_list_pop_1 _) (PySem.MeetsSeq.list_pop_last D _ n y hy (by rw [sizeLine_eq]; omega)) ⟨z.1, h _ (F.change (Heap.SameBut.update ..) z.2.1 z.2.2) ?_⟩
  rw [hg]
  refine kl_turn _ N h1 h2 ?_ ?_
  · show (p ++ [y]).toArray.eraseIdxIfInBounds ((p ++ [y]).toArray.size - 1) = p.toArray
    rw [hk, kl_erase, List.append_nil]
  · rw [List.size_toArray, List.size_toArray, List.length_append]
    simp
theorem truthy_N {l : Addr} {b : Bool} {Q : Bool → Shared → Prop} (N : News hb L s.heap news) (hl : (l, W.listOf its n) ∈ news) (hz : its.size ≤ 10000) (hb' : its.isEmpty = !b) (h : Q b { s with toks := s.toks + 1 + 1 }) :
    wpAny (model PP w) A (truthy (.ref l)) Q E s :=
  wpAny_truthy_list (News.isList N hl) (by omega) (by rw [hb', Bool.not_not]; exact h)
theorem len_N {l : Addr} {Q : Value → Shared → Prop} (N : News hb L s.heap news) (hl : (l, W.listOf its n) ∈ news) (hz : its.size ≤ 10000) (h : Q (.int its.size (s.toks + 1)) { s with toks := s.toks + 1 + 1 }) :
    wpAny (model PP w) A (call (.builtin "len") [.ref l]) Q E s := Calls.call_len_list (News.isList N hl) (by omega) h
end

/-- a wider surrounding with the same frames -/
noncomputable def LeF (A : Around) (outer : List Env) (d u : Nat) : Prop := A.handled = none ∧ A.depth ≤ d ∧ A.units ≤ u ∧ A.frames = some outer
theorem wpAny_leF {α : Type} {M : Model} {A : Around} {outer : List Env} {d u : Nat} {t : Sem α} {Q : α → Shared → Prop} {E : Value → Shared → Prop} {s : Shared} (hA : LeF A outer d u)
    (h : wpAny M { handled := none, depth := d, frames := some outer, guards := none, units := u } t Q E s) : wpAny M A t Q E s := by
  obtain ⟨h1, h2, h3, h4⟩ := hA
  intro Γ p hΓ
  obtain ⟨g1, g2, g3, _, g5⟩ := hΓ
  refine h Γ p ⟨g1.trans h1, Nat.le_trans g2 h2, ?_, ?_, Nat.le_trans g5 h3⟩
  · intro l hl; exact g3 l (h4.trans hl)
  · intro l hl; cases hl

/-- frames with other slots -/
noncomputable def upS (σ : Addr → Array (Option Value)) (fl : List (Addr × Obj)) : List (Addr × Obj) := fl.map fun p => (p.1, { p.2 with slots := σ p.1 })
theorem upS_upS (σ σ' : Addr → Array (Option Value)) (fl : List (Addr × Obj)) : upS σ' (upS σ fl) = upS σ' fl := by
  unfold upS; rw [List.map_map]; rfl
theorem upS_fst (σ : Addr → Array (Option Value)) (fl : List (Addr × Obj)) : (upS σ fl).map (·.1) = fl.map (·.1) := by
  unfold upS; rw [List.map_map]; rfl
theorem upS_self (fl : List (Addr × Obj)) (h : (fl.map (·.1)).Nodup) : ∃ σ, upS σ fl = fl := by
  induction fl with
  | nil => exact ⟨fun _ => #[], rfl⟩
  | cons p fl ih =>
    rw [List.map_cons, List.nodup_cons] at h
    obtain ⟨σ, e⟩ := ih h.2
    refine ⟨fun a => if a = p.1 then p.2.slots else σ a, ?_⟩
    unfold upS at e ⊢
    rw [List.map_cons]
    congr 1
    · simp
    · rw [← e, List.map_map]
      apply List.map_congr_left
      intro q hq
      have : q.1 ≠ p.1 := fun e' => h.1 (e' ▸ List.mem_map_of_mem hq)
      simp [this]
noncomputable def heapSl (h : Heap) (a : Addr) : Array (Option Value) := match h.get? a with | some o => o.slots | none => #[]
theorem upS_mem {h : Heap} {fl : List (Addr × Obj)} (hu : ∀ p ∈ fl, ∃ sl, h.get? p.1 = some { p.2 with slots := sl }) : ∀ q ∈ upS (heapSl h) fl, h.get? q.1 = some q.2 := by
  intro q hq
  obtain ⟨p, hp, rfl⟩ := List.mem_map.mp hq
  obtain ⟨sl, e⟩ := hu p hp
  simp only [heapSl, e]

/-- an entry of the stack -/
structure Sk where
  k : Int
  kt : Tok
  it : Addr
  mw : Addr
  n : Nd
  i : Nat
noncomputable def itObj (l : Addr) (i : Nat) : Obj := { cls := .type "list_iterator", data := .fields #[.ref l, .int i 0] }
noncomputable def mwObj (it : Addr) : Obj := { cls := .type "method-wrapper", data := .fields #[.builtin "list_iterator.__next__", .ref it] }
noncomputable def Sk.led (e : Sk) : List (Addr × Obj) := [(e.it, itObj e.n.l e.i), (e.mw, mwObj e.it)]
noncomputable def skLed (S : List Sk) : List (Addr × Obj) := S.flatMap Sk.led
noncomputable def skFoot (S : List Sk) : List Addr := S.flatMap fun e => [e.it, e.mw]
theorem skLed_append (a b : List Sk) : skLed (a ++ b) = skLed a ++ skLed b := List.flatMap_append
theorem skFoot_append (a b : List Sk) : skFoot (a ++ b) = skFoot a ++ skFoot b := List.flatMap_append
theorem skFoot_eq (S : List Sk) : skFoot S = (skLed S).map (·.1) := by
  induction S with
  | nil => rfl
  | cons e S ih => unfold skFoot skLed at ih ⊢; rw [List.flatMap_cons, List.flatMap_cons, List.map_append, ih]; rfl

noncomputable def skW (ns : List Nd) (seen : List Int) (S : List Sk) : Nat := ((ns.filter fun n => decide (n.k ∉ seen)).map fun n => n.sv.size + 1).sum + (S.map fun e => e.n.sv.size - e.i).sum

theorem sum_filter_le {ns : List Nd} {p q : Nd → Bool} (h : ∀ n ∈ ns, q n = true → p n = true) : ((ns.filter q).map fun n => n.sv.size + 1).sum ≤ ((ns.filter p).map fun n => n.sv.size + 1).sum := by
  induction ns with
  | nil => simp
  | cons a ns ih =>
    have ih := ih fun n hn => h n (.tail _ hn)
    have ha := h a (.head _)
    simp only [List.filter_cons]
    cases hq : q a <;> cases hp : p a <;> simp_all <;> lia
theorem skW_push {ns : List Nd} {seen : List Int} {S : List Sk} {e : Sk} (hn : e.n ∈ ns) (hk : e.n.k ∉ seen) (hi : e.i = 0) : skW ns (seen ++ [e.n.k]) (S ++ [e]) < skW ns seen S := by
  unfold skW
  rw [List.map_append, List.sum_append]
  simp only [List.map_cons, List.map_nil, List.sum_cons, List.sum_nil, hi, Nat.sub_zero, Nat.add_zero]
  have key : ((ns.filter fun n => decide (n.k ∉ seen ++ [e.n.k])).map fun n => n.sv.size + 1).sum + (e.n.sv.size + 1) ≤ ((ns.filter fun n => decide (n.k ∉ seen)).map fun n => n.sv.size + 1).sum := by
    obtain ⟨pre, post, rfl⟩ := List.append_of_mem hn
    simp only [List.filter_append, List.filter_cons, List.map_append, List.sum_append]
    have h1 := sum_filter_le (ns := pre) (p := fun n => decide (n.k ∉ seen)) (q := fun n => decide (n.k ∉ seen ++ [e.n.k])) (by intro n _; simp; intro h _; exact h)
    have h2 := sum_filter_le (ns := post) (p := fun n => decide (n.k ∉ seen)) (q := fun n => decide (n.k ∉ seen ++ [e.n.k])) (by intro n _; simp; intro h _; exact h)
    rw [if_neg (by simp), if_pos (by simpa using hk)]
    simp only [List.map_cons, List.sum_cons]
    lia
  lia
theorem skW_next {ns : List Nd} {seen : List Int} {S : List Sk} {e : Sk} (hi : e.i < e.n.sv.size) : skW ns seen (S ++ [{ e with i := e.i + 1 }]) < skW ns seen (S ++ [e]) := by
  unfold skW
  simp only [List.map_append, List.sum_append, List.map_cons, List.map_nil, List.sum_cons, List.sum_nil]
  lia
theorem skW_pop {ns : List Nd} {seen : List Int} {S : List Sk} {e : Sk} : skW ns seen S ≤ skW ns seen (S ++ [e]) := by
  unfold skW
  simp only [List.map_append, List.sum_append, List.map_cons, List.map_nil, List.sum_cons, List.sum_nil]
  lia
theorem without_last {kvs : List (Int × Value)} {k : Int} {v : Value} (h : ((kvs ++ [(k, v)]).map (·.1)).Nodup) : without (kvs ++ [(k, v)]) k = kvs := by
  unfold without
  rw [List.map_append, List.nodup_append] at h
  rw [List.filter_append]
  have : kvs.filter (fun kv => decide (kv.1 ≠ k)) = kvs := by
    rw [List.filter_eq_self]
    intro p hp
    simpa using h.2.2 p.1 (List.mem_map_of_mem hp) k (by simp)
  rw [this]; simp
theorem valueAt_keys {kvs : List (Int × Value)} {k : Int} : (valueAt kvs k).isSome = decide (k ∈ kvs.map (·.1)) := by
  unfold valueAt
  rw [Option.isSome_map, Bool.eq_iff_iff, List.find?_isSome]
  simp

/-- what stands between two turns -/
structure CS (w : World) (ns : List Nd) (rk : Int → Nat) (lo : Nat) (S : List Sk) (seen : List Int) (sv iv : Array Value) (os on : Obj) (kvs : List (Int × Value)) : Prop where
  hsv : sv.toList = S.map fun e => .int e.k e.kt
  hiv : iv.toList = S.map fun e => .ref e.mw
  hos : os.SetObjOf (intKind PP w) (fun k => decide (k ∈ seen)) seen.length
  hon : on.IsDictOf (intKind PP w) kvs
  hkv : kvs.map (·.1) = S.map (·.k)
  hS : ∀ e ∈ S, e.n ∈ ns ∧ e.n.k = e.k ∧ e.k ∈ seen ∧ e.i ≤ e.n.sv.size
  hinc : S.Pairwise fun a b => rk a.k < rk b.k
  hseen : seen.Nodup ∧ ∀ k ∈ seen, k ∈ ns.map (·.k)
  hfoot : (skFoot S).Pairwise (@LT.lt Nat _) ∧ ∀ a ∈ skFoot S, @LT.lt Nat _ lo a

section
variable {w : World} {A : Around} {R : Result → Shared → Prop} {s : Shared} {env : Env} {hb : Heap} {m : Str → Option Value} {news : List (Addr × Obj)}
theorem for_keys {target : Expr} {body : List Stmt} {d : Addr} {od : Obj} {kvs : List (Int × Value)} {Q : Flow → Shared → Prop} {E : Value → Shared → Prop}
    (hh : A.handled = none) (hlo : (d == sysModules) = false) (hod : od.IsDictOf (intKind PP w) kvs) (hm : (d, od) ∈ news)
    (F : Fr hb env.locals s.heap m) (N : News hb env.locals s.heap news) (J : Addr → Nat → (Str → Option Value) → List (Addr × Obj) → Prop)
    (hk : ∀ I i m₁ news₁, J I i m₁ news₁ → (d, od) ∈ news₁)
    (hI : ∀ I i m₁ news₁, J I i m₁ news₁ → ∀ p ∈ news₁, p.1 ≠ I)
    (hj : ∀ I, (∀ p ∈ news, p.1 < I) → env.locals < I → J I 0 m news)
    (turn : ∀ I i k t x m₁ news₁ h tk oI, (∀ p ∈ news, p.1 < I) → env.locals < I → kvs[i]? = some (k, x) → J I i m₁ news₁ → Fr hb env.locals h m₁ → News hb env.locals h ((I, oI) :: news₁) →
      wpAny (model PP w) A (assign target env (.int k t)) (fun _ s₂ => wpAny (model PP w) A (execs body env) (TurnEnd hb env.locals I oI (J I (i + 1)) (fun r s' => match r with | .ok f => Q f s' | .error e => cameBackBy (model PP w) A env E e s') s) (fun _ _ => False) s₂) (fun _ _ => False) { s with heap := h, toks := tk })
    (done : ∀ I m₁ news₁ h tk, J I kvs.length m₁ news₁ → Fr hb env.locals h m₁ → News hb env.locals h news₁ → Q .next { s with heap := h, toks := tk })
    (ht : (fun (I : Addr) v => letOwnedTupleGo target (.ref I) v) = (fun _ _ => pure ()) := by rfl) :
    wpAny (model PP w) A (pyIter (.ref d)) (fun it s₂ => codeAny (model PP w) A (.forLoop target it body [] env) (fun r s' => match r with | .ok f => Q f s' | .error e => cameBackBy (model PP w) A env E e s') s₂) E s := by
  obtain ⟨ep, ha⟩ := KdkAt.of hod
  refine wpAny_pyIter_dict hlo (ha.dictAt (N _ hm).1) ?_
  have hlt : d < s.heap.objs.size := Heap.lt_size (N _ hm).1
  have hLl : env.locals < s.heap.objs.size := F.ns.lt
  have hNl : ∀ p ∈ news, p.1 < s.heap.objs.size := fun p hp => Heap.lt_size (N p hp).1
  have hbn : hb.get? s.heap.objs.size = none := by
    cases q : hb.get? s.heap.objs.size with
    | none => rfl
    | some o => exact absurd (Heap.lt_size (F.keep _ _ q)) (Nat.lt_irrefl _)
  have W := Walks.dictKeys (prog := PP) (w := w) (knd := intKind PP w) hh s.heap.objs.size d (Nat.ne_of_lt hlt) kvs ep
  refine for_walk (s := { s with heap := s.heap.push _ }) W (J s.heap.objs.size) (Nat.ne_of_lt hLl) hbn ?_ ?_ (F.push _) (fun p hp => ⟨Heap.get?_push_of_some _ (N p hp).1, (N p hp).2⟩) (hI _) ?_ (hj _ hNl hLl) ?_ ?_ ht
  · rintro i m₁ news₁ h h' hJ F₁ N₁ ⟨⟨o, ho, r⟩, _⟩ e
    exact ⟨⟨o, e.symm.trans ho, r⟩, ha.dictAt (N₁ _ (hk _ _ _ _ hJ)).1⟩
  · rintro i h ⟨⟨o, ho, _⟩, _⟩; exact ⟨o, ho⟩
  · exact ⟨⟨_, Heap.get?_push_size _ rfl, rfl, rfl⟩, ha.dictAt (Heap.get?_push_of_some _ (N _ hm).1)⟩
  · intro i v m₁ news₁ h tk oI hi hP hJ F₁ N₁
    obtain ⟨k, x, hx, hk⟩ := hP
    obtain ⟨t, rfl⟩ := Value.isInt_shape hk
    exact turn _ i k t x m₁ news₁ h tk oI hNl hLl hx hJ F₁ N₁
  · intro m₁ news₁ h tk hJ F₁ N₁
    exact done _ m₁ news₁ h tk hJ F₁ N₁
end
theorem sin_N {w : World} {A : Around} {s : Shared} {E : Value → Shared → Prop} {hb : Heap} {L sa : Addr} {news : List (Addr × Obj)} {so : Obj} {S : Int → Bool} {n : Nat} {k : Int} {t : Tok} {b : Bool} {Q : Value → Shared → Prop}
    (N : News hb L s.heap news) (hm : (sa, so) ∈ news) (hso : so.SetObjOf (intKind PP w) S n) (hn : n ≤ 1000) (hS : S k = b) (h : Q (.bool b) { s with toks := s.toks + 1 }) : wpAny (model PP w) A (compareOp .In (.int k t) (.ref sa)) Q E s :=
  wpAny_inSet_of (intKind_is PP w k t) rfl (hso.setOf (N _ hm).1 (by unfold scanBound; lia)) (by rw [hS]; exact h)
noncomputable def UpH (frs : List Addr) (e : Addr) (h h' : Heap) : Prop := ∀ b o, b ≠ e → h.get? b = some o → (b ∉ frs → h'.get? b = some o) ∧ ∃ sl, h'.get? b = some { o with slots := sl }
theorem Fr.up {hb h h' : Heap} {L e : Addr} {m : Str → Option Value} {frs : List Addr} (F : Fr hb L h m) (hk : UpH frs e h h') (hf : ∀ f ∈ frs, hb.get? f = none) (he : hb.get? e = none) (hL : L ≠ e) : Fr hb L h' m := by
  obtain ⟨o, ho, k⟩ := Fr.obj F
  obtain ⟨_, sl, h1⟩ := hk L o hL ho
  refine ⟨k h' _ h1 rfl, fun b o e' => ?_, F.above⟩
  refine (hk b o ?_ (F.keep _ _ e')).1 fun hm => ?_
  · rintro rfl; rw [he] at e'; cases e'
  · rw [hf b hm] at e'; cases e'
theorem News.up {hb h h' : Heap} {L e : Addr} {frs : List Addr} {core fl : List (Addr × Obj)} (N : News hb L h (core ++ fl)) (hk : UpH frs e h h') (hc : ∀ p ∈ core, p.1 ∉ frs) (he : ∀ p ∈ core ++ fl, p.1 ≠ e) :
    News hb L h' (core ++ upS (heapSl h') fl) := by
  intro p hp
  rcases List.mem_append.mp hp with hp | hp
  · have := N p (List.mem_append_left _ hp)
    exact ⟨(hk _ _ (he p (List.mem_append_left _ hp)) this.1).1 (hc p hp), this.2⟩
  · have h1 := upS_mem (h := h') (fl := fl) (fun q hq => (hk _ _ (he q (List.mem_append_right _ hq)) (N q (List.mem_append_right _ hq)).1).2) p hp
    obtain ⟨q, hq, rfl⟩ := List.mem_map.mp hp
    exact ⟨h1, (N q (List.mem_append_right _ hq)).2⟩

abbrev cy3 (w : World) (t1 t2 t3 t4 : Tok) (x dx d : Addr) (od : Obj) (rn po nf : Value) : List (Addr × Obj) := [(x, instObj 137 dx), (dx, soDict w t1 t2 t3 t4 d rn po nf), (d, od)]
inductive CyN (w : World) (ns : List Nd) (rk : Int → Nat) (sa ia se na : Nat) (core tl fl : List (Addr × Obj)) (I : Nat) (S : List Sk) (seen : List Int) (news : List (Addr × Obj)) : Prop
  | mk (sv : Array Value) (sn : Nat) (iv : Array Value) (inn : Nat) (os on : Obj) (kvs : List (Int × Value)) (σ : Addr → Array (Option Value)) (C : CS w ns rk I S seen sv iv os on kvs)
      (e : news = (na, on) :: (se, os) :: (ia, W.listOf iv inn) :: (sa, W.listOf sv sn) :: (core ++ (skLed S ++ (tl ++ upS σ fl)))) : CyN w ns rk sa ia se na core tl fl I S seen news
theorem cy_off {tl fl : List (Addr × Obj)} {S : List Sk} {σ : Addr → Array (Option Value)} {sa I : Nat} (h1 : ∀ a ∈ skFoot S, @LT.lt Nat _ I a) (h2 : ∀ p ∈ tl ++ fl, @LT.lt Nat _ p.1 sa) : ∀ p ∈ skLed S ++ (tl ++ upS σ fl), @LT.lt Nat _ p.1 sa ∨ @LT.lt Nat _ I p.1 := by
  intro p hp
  rcases List.mem_append.mp hp with hp | hp
  · exact .inr (h1 _ (by rw [skFoot_eq]; exact List.mem_map_of_mem hp))
  rcases List.mem_append.mp hp with hp | hp
  · exact .inl (h2 p (List.mem_append_left _ hp))
  · obtain ⟨q, hq, rfl⟩ := List.mem_map.mp hp
    exact .inl (h2 q (List.mem_append_right _ hq))

theorem cyp1 {α : Type} {a b c e L x y z : α} {T F : List α} : ∀ p ∈ a :: b :: c :: e :: x :: y :: z :: (T ++ (L :: F)), p ∈ a :: b :: c :: e :: L :: x :: y :: z :: (T ++ F) := by
  intro p hp
  rcases List.mem_append.mp (show p ∈ [a, b, c, e] ++ ([x, y, z] ++ (T ++ (L :: F))) from hp) with h | h
  · exact List.mem_append_left _ h
  rcases List.mem_append.mp h with h | h
  · exact List.mem_append_right [a, b, c, e] (.tail _ (List.mem_append_left _ h))
  rcases List.mem_append.mp h with h | h
  · exact List.mem_append_right [a, b, c, e] (.tail _ (List.mem_append_right [x, y, z] (List.mem_append_left _ h)))
  rcases List.mem_cons.mp h with h | h
  · exact h ▸ List.mem_append_right [a, b, c, e] (.head _)
  · exact List.mem_append_right [a, b, c, e] (.tail _ (List.mem_append_right [x, y, z] (List.mem_append_right _ h)))
theorem cyp2 {α : Type} {H K S R : List α} {m i : α} : ∀ p ∈ H ++ ((S ++ [i, m]) ++ R), p ∈ m :: i :: (K ++ (H ++ (S ++ R))) := by
  intro p hp
  rcases List.mem_append.mp hp with h | h
  · exact .tail _ (.tail _ (List.mem_append_right _ (List.mem_append_left _ h)))
  rcases List.mem_append.mp h with h | h
  · rcases List.mem_append.mp h with h | h
    · exact .tail _ (.tail _ (List.mem_append_right _ (List.mem_append_right _ (List.mem_append_left _ h))))
    rcases List.mem_cons.mp h with h | h
    · exact h ▸ .tail _ (.head _)
    · rw [List.mem_singleton.mp h]; exact .head _
  · exact .tail _ (.tail _ (List.mem_append_right _ (List.mem_append_right _ (List.mem_append_right _ h))))
theorem cyp3 {α : Type} {a b c e L x y z : α} {T F : List α} : ∀ p ∈ L :: x :: y :: z :: (T ++ F), p ∈ a :: b :: c :: e :: x :: y :: z :: (T ++ (L :: F)) := by
  intro p hp
  refine List.mem_append_right [a, b, c, e] ?_
  rcases List.mem_cons.mp hp with h | h
  · exact List.mem_append_right [x, y, z] (List.mem_append_right _ (h ▸ .head _))
  rcases List.mem_append.mp (show p ∈ [x, y, z] ++ (T ++ F) from h) with h | h
  · exact List.mem_append_left _ h
  rcases List.mem_append.mp h with h | h
  · exact List.mem_append_right [x, y, z] (List.mem_append_left _ h)
  · exact List.mem_append_right [x, y, z] (List.mem_append_right _ (.tail _ h))
theorem off_ne {p sa I v : Nat} (h : p < sa ∨ I < p) (h1 : sa ≤ v) (h2 : v ≤ I) : p ≠ v := by
  rintro rfl
  rcases h with h | h
  · exact Nat.lt_irrefl _ (Nat.lt_of_lt_of_le h h1)
  · exact Nat.lt_irrefl _ (Nat.lt_of_le_of_lt h2 h)
theorem nodup_length_le {α : Type} [DecidableEq α] {a b : List α} (h : a.Nodup) (hs : ∀ x ∈ a, x ∈ b) : a.length ≤ b.length := by
  induction a generalizing b with
  | nil => simp
  | cons x a ih =>
    rw [List.nodup_cons] at h
    have h1 := ih (b := b.erase x) h.2 fun y hy => (List.mem_erase_of_ne (fun e => h.1 (by rw [← e]; exact hy))).mpr (hs y (.tail _ hy))
    have h2 := hs x (.head _)
    rw [List.length_erase_of_mem h2] at h1
    have := List.length_pos_of_mem h2
    simp only [List.length_cons]; lia
theorem snoc_cases {α : Type} (l : List α) : l = [] ∨ ∃ p e, l = p ++ [e] := by
  rcases List.eq_nil_or_concat l with h | ⟨p, e, h⟩
  · exact .inl h
  · exact .inr ⟨p, e, by simpa using h⟩
theorem CS.push {w : World} {ns : List Nd} {rk : Int → Nat} {lo : Nat} {S : List Sk} {seen : List Int} {sv iv : Array Value} {os on os' on' : Obj} {kvs : List (Int × Value)} {n : Nd} {ct : Tok} {it mw : Addr} {v : Value}
    (C : CS w ns rk lo S seen sv iv os on kvs) (hn : n ∈ ns) (hcs : n.k ∉ seen) (hcr : ∀ e ∈ S, rk e.k < rk n.k)
    (hos' : os'.SetObjOf (intKind PP w) (fun k' => decide (k' ∈ seen) || decide (k' = n.k)) (if decide (n.k ∈ seen) = true then seen.length else seen.length + 1)) (hon' : on'.IsDictOf (intKind PP w) (stored kvs n.k v))
    (hck : n.k ∉ kvs.map (·.1)) (hit : ∀ p ∈ skLed S, @LT.lt Nat _ p.1 it) (hlo : @LT.lt Nat _ lo it) (hmw : @LT.lt Nat _ it mw) :
    CS w ns rk lo (S ++ [⟨n.k, ct, it, mw, n, 0⟩]) (seen ++ [n.k]) (sv.push (.int n.k ct)) (iv.push (.ref mw)) os' on' (kvs ++ [(n.k, v)]) where
  hsv := by rw [Array.toList_push, C.hsv, List.map_append]; rfl
  hiv := by rw [Array.toList_push, C.hiv, List.map_append]; rfl
  hos := by
    have e1 : (if decide (n.k ∈ seen) = true then seen.length else seen.length + 1) = (seen ++ [n.k]).length := by simp [hcs]
    have e2 : (fun k' => decide (k' ∈ seen) || decide (k' = n.k)) = fun k => decide (k ∈ seen ++ [n.k]) := by funext k; simp
    rw [e1, e2] at hos'; exact hos'
  hon := by
    rw [stored_new] at hon'
    · exact hon'
    · have h1 := valueAt_keys (kvs := kvs) (k := n.k)
      rw [decide_eq_false hck] at h1
      cases h2 : valueAt kvs n.k with
      | none => rfl
      | some y => rw [h2] at h1; cases h1
  hkv := by rw [List.map_append, List.map_append, C.hkv]; rfl
  hS := by
    intro e he
    rcases List.mem_append.mp he with he | he
    · obtain ⟨a, b, c, d⟩ := C.hS e he
      exact ⟨a, b, List.mem_append_left _ c, d⟩
    · rw [List.mem_singleton.mp he]
      exact ⟨hn, rfl, List.mem_append_right _ (.head _), Nat.zero_le _⟩
  hinc := by
    rw [List.pairwise_append]
    refine ⟨C.hinc, List.pairwise_singleton _ _, fun a ha b hb => ?_⟩
    rw [List.mem_singleton.mp hb]; exact hcr a ha
  hseen := by
    refine ⟨?_, fun k hk => ?_⟩
    · rw [List.nodup_append]
      refine ⟨C.hseen.1, by simp, fun a ha b hb e => ?_⟩
      rw [List.mem_singleton.mp hb] at e
      exact hcs (e ▸ ha)
    · rcases List.mem_append.mp hk with hk | hk
      · exact C.hseen.2 k hk
      · rw [List.mem_singleton.mp hk]; exact List.mem_map_of_mem hn
  hfoot := by
    rw [skFoot_append]
    have hs : skFoot [(⟨n.k, ct, it, mw, n, 0⟩ : Sk)] = [it, mw] := rfl
    rw [hs]
    have hS : ∀ a ∈ skFoot S, @LT.lt Nat _ a it := by
      intro a ha
      rw [skFoot_eq] at ha
      obtain ⟨p, hp, rfl⟩ := List.mem_map.mp ha
      exact hit p hp
    refine ⟨?_, fun a ha => ?_⟩
    · rw [List.pairwise_append]
      refine ⟨C.hfoot.1, ?_, fun a ha b hb => ?_⟩
      · refine .cons (fun b hb => ?_) (List.pairwise_singleton _ _)
        rw [List.mem_singleton.mp hb]; exact hmw
      · rcases List.mem_cons.mp hb with rfl | hb
        · exact hS a ha
        · rw [List.mem_singleton.mp hb]; exact Nat.lt_trans (hS a ha) hmw
    · rcases List.mem_append.mp ha with ha | ha
      · exact C.hfoot.2 a ha
      · rcases List.mem_cons.mp ha with rfl | hb
        · exact hlo
        · rw [List.mem_singleton.mp hb]; exact Nat.lt_trans hlo hmw
theorem CS.next {w : World} {ns : List Nd} {rk : Int → Nat} {lo : Nat} {S : List Sk} {e : Sk} {seen : List Int} {sv iv : Array Value} {os on : Obj} {kvs : List (Int × Value)}
    (C : CS w ns rk lo (S ++ [e]) seen sv iv os on kvs) (hi : e.i < e.n.sv.size) : CS w ns rk lo (S ++ [{ e with i := e.i + 1 }]) seen sv iv os on kvs where
  hsv := by rw [C.hsv]; simp
  hiv := by rw [C.hiv]; simp
  hos := C.hos
  hon := C.hon
  hkv := by rw [C.hkv]; simp
  hS := by
    intro e' he
    rcases List.mem_append.mp he with he | he
    · exact C.hS e' (List.mem_append_left _ he)
    · rw [List.mem_singleton.mp he]
      obtain ⟨a, b, c, d⟩ := C.hS e (List.mem_append_right _ (.head _))
      exact ⟨a, b, c, hi⟩
  hinc := by
    have h := C.hinc
    rw [List.pairwise_append] at h ⊢
    refine ⟨h.1, List.pairwise_singleton _ _, fun a ha b hb => ?_⟩
    rw [List.mem_singleton.mp hb]; exact h.2.2 a ha e (.head _)
  hseen := C.hseen
  hfoot := by
    have h := C.hfoot
    rw [skFoot_append] at h ⊢
    exact h
theorem CS.pop {w : World} {ns : List Nd} {rk : Int → Nat} {lo : Nat} {S : List Sk} {e : Sk} {seen : List Int} {sv iv : Array Value} {os on on' : Obj} {kvs : List (Int × Value)}
    (C : CS w ns rk lo (S ++ [e]) seen sv iv os on kvs) (hon' : on'.IsDictOf (intKind PP w) (without kvs e.k)) :
    CS w ns rk lo S seen (S.map fun e => Value.int e.k e.kt).toArray (S.map fun e => Value.ref e.mw).toArray os on' (without kvs e.k) where
  hsv := by simp
  hiv := by simp
  hos := C.hos
  hon := hon'
  hkv := by
    have hk := C.hkv
    rcases snoc_cases kvs with rfl | ⟨p, ⟨k, v⟩, rfl⟩
    · simp at hk
    · rw [List.map_append, List.map_append] at hk
      obtain ⟨h1, h2⟩ := List.append_inj' hk rfl
      simp only [List.map_cons, List.map_nil, List.cons.injEq, and_true] at h2
      subst h2
      rw [without_last, h1]
      have := C.hinc
      rw [C.hkv, List.Nodup, List.pairwise_map]
      exact this.imp (fun {a b} hab e => by rw [e] at hab; exact Nat.lt_irrefl _ hab)
  hS := fun e' he => C.hS e' (List.mem_append_left _ he)
  hinc := (List.pairwise_append.mp C.hinc).1
  hseen := C.hseen
  hfoot := by
    have h := C.hfoot
    rw [skFoot_append] at h
    exact ⟨(List.pairwise_append.mp h.1).1, fun a ha => h.2 a (List.mem_append_left _ ha)⟩
theorem CS.len {w : World} {ns : List Nd} {rk : Int → Nat} {lo : Nat} {S : List Sk} {seen : List Int} {sv iv : Array Value} {os on : Obj} {kvs : List (Int × Value)}
    (C : CS w ns rk lo S seen sv iv os on kvs) (hnl : ns.length ≤ 1000) : seen.length ≤ 1000 ∧ S.length ≤ 1000 ∧ kvs.length ≤ 1000 ∧ sv.size ≤ 1000 ∧ iv.size ≤ 1000 := by
  have h0 : seen.length ≤ (ns.map (·.k)).length := nodup_length_le C.hseen.1 C.hseen.2
  rw [List.length_map] at h0
  have h1 : (kvs.map (·.1)).length ≤ seen.length := nodup_length_le (by
    rw [C.hkv, List.Nodup, List.pairwise_map]
    exact C.hinc.imp (fun {a b} hab e => by rw [e] at hab; exact Nat.lt_irrefl _ hab)) (by
    rw [C.hkv]; intro y hy
    obtain ⟨e, he, rfl⟩ := List.mem_map.mp hy
    exact (C.hS e he).2.2.1)
  have h2 := congrArg List.length C.hkv
  have h3 := congrArg List.length C.hsv
  have h4 := congrArg List.length C.hiv
  simp only [List.length_map, Array.length_toList] at h1 h2 h3 h4
  lia
theorem backN' {hb h : Heap} {L L' : Addr} {m m' : Str → Option Value} {oL oL' : Obj} {news : List (Addr × Obj)} (bk : BackTo hb L m oL) (F : Fr hb L' h m') (N : News hb L' h ((L, oL') :: news)) (hd : oL'.data = oL.data) (hne : ∀ p ∈ news, p.1 ≠ L) :
    Fr hb L h m ∧ News hb L h news :=
  ⟨bk h L' m' oL' F (N _ (.head _)).1 hd, fun p hp => ⟨(N p (.tail _ hp)).1, hne p hp, (N p (.tail _ hp)).2.2⟩⟩
theorem hideA {α : Type} {M : Model} {env : Env} {outer : List Env} {d u : Nat} {t : Sem α} {Q : α → Shared → Prop} {E : Value → Shared → Prop} {s : Shared} (h : ∀ BA : Around, BA.handled = none → BA.frames = some (env :: outer) → wpAny M BA t Q E s) :
    wpAny M { handled := none, depth := d, frames := some (env :: outer), guards := none, units := u } t Q E s := h _ rfl rfl
theorem News.setIn {hb h h' : Heap} {L a : Addr} {o' : Obj} {l l' : List (Addr × Obj)} (N : News hb L h l) (hs : Heap.SameBut a h h') (ho : h'.get? a = some o') (ha : a ≠ L ∧ hb.get? a = none) (hl : ∀ p ∈ l', p = (a, o') ∨ (p ∈ l ∧ p.1 ≠ a)) : News hb L h' l' := by
  intro p hp
  rcases hl p hp with rfl | ⟨h1, h2⟩
  · exact ⟨ho, ha.1, ha.2⟩
  · exact ⟨(hs.2 _ h2).trans (N p h1).1, (N p h1).2⟩
theorem opqE {α : Type} {M : Model} {A : Around} {E : Value → Shared → Prop} {s : Shared} {t : Sem α} {Q : α → Shared → Prop} (h : ∀ (Q' : α → Shared → Prop) (E' : Value → Shared → Prop), (∀ a s', Q a s' → Q' a s') → (∀ e s', E e s' → E' e s') → wpAny M A t Q' E' s) : wpAny M A t Q E s := h Q E (fun _ _ x => x) fun _ _ x => x
theorem callWith_mw {w : World} {A : Around} {s : Shared} {E : Value → Shared → Prop} {env : Env} {pos : Pos} {mw it : Addr} {Q : Value → Shared → Prop} (hmw : s.heap.get? mw = some (mwObj it)) (h : wpAny (model PP w) A (call (.ref mw) []) Q E s) :
    wpAny (model PP w) A (callWith pos (.ref mw) [] (backTo pos (starEach [] env)) []) Q E s := by
  unfold callWith
  refine wpAny_bind (wpAny_holding (PyProof.Rows.evalArgs_none (wpAny_bind (wpAny_standAt ?_))))
  show wpAny _ _ (keeperOf (.ref mw) >>= _) _ _ _
  refine wpAny_bind ?_
  unfold keeperOf
  refine wpAny_bind (wpAny_load hmw ?_)
  simp only [mwObj, show (Value.type "method-wrapper" != Value.type "method") = true by decide, show (Value.type "method-wrapper" == Value.type "builtin_function_or_method" || Value.type "method-wrapper" == Value.type "method-wrapper") = true by decide, if_true]
  refine wpAny_pure ?_
  exact wpAny_bind (wpAny_mono h (fun r s₂ hr => wpAny_bind (wpAny_holding (wpAny_point (wpAny_pure hr)))) fun _ _ x => x)
theorem nextItem_N {w : World} {A : Around} {s : Shared} {E : Value → Shared → Prop} {env : Env} {pos : Pos} {hb : Heap} {L : Addr} {news : List (Addr × Obj)} {mw it l : Addr} {i le : Nat} {sv : Array Value} {x : Value} {Q : Value → Shared → Prop}
    (N : News hb L s.heap news) (hmw : (mw, mwObj it) ∈ news) (hit : (it, itObj l i) ∈ news) (hl : (l, W.listOf sv le) ∈ news) (hx : sv[i]? = some x)
    (h : ∀ h', h'.get? it = some (itObj l (i + 1)) → Heap.SameBut it s.heap h' → Q x { s with heap := h' }) :
    wpAny (model PP w) A (callWith pos (.ref mw) [] (backTo pos (starEach [] env)) []) Q E s :=
  callWith_mw (N _ hmw).1 (mw_call (N _ hmw).1 (N _ hit).1 (next_item (N _ hit).1 (News.isList N hl) hx h))
theorem nextEnd_N {w : World} {A : Around} {s : Shared} {E : Value → Shared → Prop} {env : Env} {pos : Pos} {hb : Heap} {L : Addr} {news : List (Addr × Obj)} {mw it l : Addr} {i le : Nat} {sv : Array Value} {Q : Value → Shared → Prop}
    (hh : A.handled = none) (N : News hb L s.heap news) (hmw : (mw, mwObj it) ∈ news) (hit : (it, itObj l i) ∈ news) (hl : (l, W.listOf sv le) ∈ news) (hx : sv[i]? = none)
    (h : ∀ h' (e t : Nat), h'.get? e = some { cls := .type "StopIteration", data := .fields #[.ref t, .none, .none, .none, .bool false, .none] } → s.heap.objs.size ≤ e → (∀ b o, b ≠ it → s.heap.get? b = some o → h'.get? b = some o) → E (.ref e) { s with heap := h' }) :
    wpAny (model PP w) A (callWith pos (.ref mw) [] (backTo pos (starEach [] env)) []) Q E s :=
  callWith_mw (N _ hmw).1 (mw_call (N _ hmw).1 (N _ hit).1 (next_end hh (N _ hit).1 (News.isList N hl) hx fun h' e t h1 h2 _ h3 => h h' e t h1 h2 h3))
theorem frAddrs_mem {l : List Env} {f : Addr} (h : f ∈ frAddrs l) : ∃ x ∈ l, x.frame = some f := by
  unfold frAddrs at h
  obtain ⟨x, hx, e⟩ := List.mem_filterMap.mp h
  exact ⟨x, hx, e⟩
theorem upS_at {σ : Addr → Array (Option Value)} {fl : List (Addr × Obj)} {f : Addr} (h : f ∈ fl.map (·.1)) : ∃ p ∈ upS σ fl, p.1 = f := by
  rw [← upS_fst σ] at h
  obtain ⟨p, hp, e⟩ := List.mem_map.mp h
  exact ⟨p, hp, e⟩
theorem skLed_snoc {S : List Sk} {e : Sk} : skLed (S ++ [e]) = skLed S ++ [(e.it, itObj e.n.l e.i), (e.mw, mwObj e.it)] := by rw [skLed_append]; rfl
theorem News.stepIt {hb h h' : Heap} {L : Addr} {H rest : List (Addr × Obj)} {S : List Sk} {e : Sk} (N : News hb L h (H ++ (skLed (S ++ [e]) ++ rest))) (hs : Heap.SameBut e.it h h') (ho : h'.get? e.it = some (itObj e.n.l (e.i + 1)))
    (hH : ∀ p ∈ H, @LT.lt Nat _ p.1 e.it) (hS : ∀ a ∈ skFoot S, @LT.lt Nat _ a e.it) (hmi : @LT.lt Nat _ e.it e.mw) (hr : ∀ p ∈ rest, @LT.lt Nat _ p.1 e.it) : News hb L h' (H ++ (skLed (S ++ [{ e with i := e.i + 1 }]) ++ rest)) := by
  have m2 : (e.it, itObj e.n.l e.i) ∈ H ++ (skLed (S ++ [e]) ++ rest) := by rw [skLed_snoc]; simp
  refine News.setIn N hs ho (N _ m2).2 ?_
  rw [skLed_snoc, skLed_snoc]
  exact fma (fun p h => .inr ⟨List.mem_append_left _ h, Nat.ne_of_lt (hH p h)⟩) (fma (fma (fun p h => .inr ⟨List.mem_append_right _ (List.mem_append_left _ (List.mem_append_left _ h)), Nat.ne_of_lt (hS _ (by rw [skFoot_eq]; exact List.mem_map_of_mem h))⟩) (fmc (.inl rfl) (fmc (.inr ⟨List.mem_append_right _ (List.mem_append_left _ (List.mem_append_right _ (mat 1 rfl))), Nat.ne_of_gt hmi⟩) (List.forall_mem_nil _)))) fun p h => .inr ⟨List.mem_append_right _ (List.mem_append_right _ h), Nat.ne_of_lt (hr p h)⟩)
theorem Fr.kpB {hb h h' : Heap} {L a : Addr} {m : Str → Option Value} (F : Fr hb L h m) (k : ∀ b o, b ≠ a → h.get? b = some o → h'.get? b = some o) (h1 : a ≠ L) (h2 : hb.get? a = none) : Fr hb L h' m :=
  ⟨F.ns.at' fun o e => k _ o (Ne.symm h1) e, fun b o e => k b o (by rintro rfl; rw [h2] at e; cases e) (F.keep b o e), F.above⟩
theorem drop_mem {H tl fl : List (Addr × Obj)} {S : List Sk} {e : Sk} : ∀ p ∈ H ++ (skLed S ++ tl) ++ fl, p ∈ H ++ (skLed (S ++ [e]) ++ (tl ++ fl)) := by
  rw [skLed_append]
  exact fma (fma (fun p h => List.mem_append_left _ h) (fma (fun p h => List.mem_append_right _ (List.mem_append_left _ (List.mem_append_left _ h))) fun p h => List.mem_append_right _ (List.mem_append_right _ (List.mem_append_left _ h)))) fun p h => List.mem_append_right _ (List.mem_append_right _ (List.mem_append_right _ h))
theorem News.dropIt {hb h h' : Heap} {L : Addr} {H tl fl : List (Addr × Obj)} {S : List Sk} {e : Sk} (N : News hb L h (H ++ (skLed (S ++ [e]) ++ (tl ++ fl)))) (k : ∀ b o, b ≠ e.it → h.get? b = some o → h'.get? b = some o)
    (hH : ∀ p ∈ H, @LT.lt Nat _ p.1 e.it) (hS : ∀ a ∈ skFoot S, @LT.lt Nat _ a e.it) (hr : ∀ p ∈ tl ++ fl, @LT.lt Nat _ p.1 e.it) : News hb L h' (H ++ (skLed S ++ tl) ++ fl) := by
  intro p hp
  have m := N p (drop_mem p hp)
  refine ⟨k _ _ ?_ m.1, m.2⟩
  exact (fma (p := fun p : Addr × Obj => p.1 ≠ e.it) (fma (fun p h => Nat.ne_of_lt (hH p h)) (fma (fun p h => Nat.ne_of_lt (hS _ (by rw [skFoot_eq]; exact List.mem_map_of_mem h))) fun p h => Nat.ne_of_lt (hr p (List.mem_append_left _ h)))) fun p h => Nat.ne_of_lt (hr p (List.mem_append_right _ h))) p hp

inductive CyJ (w : World) (L : Nat) (x : Nat) (dx : Nat) (d : Nat) (oL : Obj) (od : Obj) (t1 : Tok) (t2 : Tok) (t3 : Tok) (t4 : Tok) (rn : Value) (po : Value) (nf : Value) (tl : List (Addr × Obj)) (fl : List (Addr × Obj)) (ns : List Nd) (rk : Int → Nat) (sa : Nat) (ia : Nat) (se : Nat) (na : Nat) (I : Nat) (i : Nat) (m₁ : Str → Option Value) (news₁ : List (Addr × Obj)) : Prop
  | mk (e1 : @LT.lt Nat _ na I) (seen : List Int) (u : Option Value) (e2 : CyN w ns rk sa ia se na (cy3 w t1 t2 t3 t4 x dx d od rn po nf) tl ((L, oL) :: fl) I [] seen news₁) (e3 : m₁ = fun y => if y = Str.ofString "node" then u else if y = Str.ofString "node2stacki" then some (.ref na) else if y = Str.ofString "seen" then some (.ref se) else if y = Str.ofString "itstack" then some (.ref ia) else if y = Str.ofString "stack" then some (.ref sa) else if y = Str.ofString "n2i" then some (.ref d) else List.lookup y [(Str.ofString "self", Value.ref x)].reverse) : CyJ w L x dx d oL od t1 t2 t3 t4 rn po nf tl fl ns rk sa ia se na I i m₁ news₁
inductive CyK (w : World) (L : Nat) (x : Nat) (dx : Nat) (d : Nat) (oL : Obj) (od : Obj) (t1 : Tok) (t2 : Tok) (t3 : Tok) (t4 : Tok) (rn : Value) (po : Value) (nf : Value) (tl : List (Addr × Obj)) (fl : List (Addr × Obj)) (ns : List Nd) (rk : Int → Nat) (sa : Nat) (ia : Nat) (se : Nat) (na : Nat) (I : Nat) (oI : Obj) (k : Nat) (m₁ : Str → Option Value) (news₁ : List (Addr × Obj)) : Prop
  | mk (S : List Sk) (seen : List Int) (c : Int) (ct : Tok) (news₂ : List (Addr × Obj)) (e1 : news₁ = (I, oI) :: news₂) (e2 : CyN w ns rk sa ia se na (cy3 w t1 t2 t3 t4 x dx d od rn po nf) tl ((L, oL) :: fl) I S seen news₂) (e3 : c ∈ ns.map (·.k)) (e4 : (∀ e ∈ S, rk e.k < rk c)) (e5 : skW ns seen S ≤ k) (e6 : m₁ = fun y => if y = Str.ofString "node" then some (.int c ct) else if y = Str.ofString "node2stacki" then some (.ref na) else if y = Str.ofString "seen" then some (.ref se) else if y = Str.ofString "itstack" then some (.ref ia) else if y = Str.ofString "stack" then some (.ref sa) else if y = Str.ofString "n2i" then some (.ref d) else List.lookup y [(Str.ofString "self", Value.ref x)].reverse) : CyK w L x dx d oL od t1 t2 t3 t4 rn po nf tl fl ns rk sa ia se na I oI k m₁ news₁
inductive CyM (w : World) (L : Nat) (x : Nat) (dx : Nat) (d : Nat) (oL : Obj) (od : Obj) (t1 : Tok) (t2 : Tok) (t3 : Tok) (t4 : Tok) (rn : Value) (po : Value) (nf : Value) (tl : List (Addr × Obj)) (fl : List (Addr × Obj)) (ns : List Nd) (rk : Int → Nat) (sa : Nat) (ia : Nat) (se : Nat) (na : Nat) (I : Nat) (oI : Obj) (seen' : List Int) (k : Nat) (j : Nat) (m₁ : Str → Option Value) (news₁ : List (Addr × Obj)) : Prop
  | mk (S₂ : List Sk) (c₂ : Int) (ct₂ : Tok) (news₂ : List (Addr × Obj)) (e1 : news₁ = (I, oI) :: news₂) (e2 : CyN w ns rk sa ia se na (cy3 w t1 t2 t3 t4 x dx d od rn po nf) tl ((L, oL) :: fl) I S₂ seen' news₂) (e3 : S₂.length = j) (e4 : skW ns seen' S₂ ≤ k) (e5 : m₁ = fun y => if y = Str.ofString "node" then some (.int c₂ ct₂) else if y = Str.ofString "node2stacki" then some (.ref na) else if y = Str.ofString "seen" then some (.ref se) else if y = Str.ofString "itstack" then some (.ref ia) else if y = Str.ofString "stack" then some (.ref sa) else if y = Str.ofString "n2i" then some (.ref d) else List.lookup y [(Str.ofString "self", Value.ref x)].reverse) : CyM w L x dx d oL od t1 t2 t3 t4 rn po nf tl fl ns rk sa ia se na I oI seen' k j m₁ news₁
theorem cyc_spec {w : World} {A : Around} {outer : List Env} {s : Shared} {hb : Heap} {L : Addr} {m : Str → Option Value} {tl fl : List (Addr × Obj)} {x dx d : Addr} {od : Obj} {ns : List Nd} {B : Nat} {t1 t2 t3 t4 : Tok} {rn po nf : Value} {rk : Int → Nat} {Q : Value → Shared → Prop} {E : Value → Shared → Prop}
    (G : Gd w hb) (hA : LeF A outer 960 6000) (F : Fr hb L s.heap m) (N : News hb L s.heap ((x, instObj 137 dx) :: (dx, soDict w t1 t2 t3 t4 d rn po nf) :: (d, od) :: (tl ++ fl)))
    (hod : od.IsDictOf (intKind PP w) (nodesKvs ns)) (hlo : (d == sysModules) = false) (hok : NsOk ns B) (hB : B ≤ 1000) (hnl : ns.length ≤ 1000)
    (hns : ∀ n ∈ ns, (n.a, n.obj) ∈ tl ∧ (n.dx, dictOf [] 0) ∈ tl ∧ (n.l, W.listOf n.sv n.le) ∈ tl)
    (hout : ∀ y ∈ outer, y.scope.kind = .function ∧ ∃ f, y.frame = some f ∧ (f = L ∨ f ∈ fl.map (·.1)))
    (hfl : ∀ p ∈ fl, NeH p.1 x ∧ NeH p.1 dx ∧ NeH p.1 d ∧ ∀ q ∈ tl, NeH p.1 q.1) (hfn : (fl.map (·.1)).Nodup)
    (hrk : ∀ n ∈ ns, ∀ p ∈ intsOf n.sv, p ∈ ns.map (·.k) ∧ rk n.k < rk p)
    (hQ : ∀ h' tk σ, Fr hb L h' m → News hb L h' ((x, instObj 137 dx) :: (dx, soDict w t1 t2 t3 t4 d rn po nf) :: (d, od) :: (tl ++ upS σ fl)) → Q .none { s with heap := h', toks := tk }) :
    wpAny (model PP w) A (call (.ref 127) [.ref x]) Q E s := by
  refine wpAny_leF hA ?_
  have X := G.X
  focus (refine hid fun hGo => ?_; obtain ⟨mg, mb, T⟩ := G.T; all_goals (refine hGo ?_; clear hGo))
  refine enterB (fr := some outer) (binds := [(Str.ofString "self", .ref x)]) G F N (by decide) (by k_is) (by k_is) (BindsTo.of_eq rfl) (by decide) (locs rfl) ?_
  intro h₁ L' tk oL bk hL hN F₁ N₁
  have l3 := hN _ (.head _)
  have l4 := hN _ (.tail _ (.head _))
  have l4' := hN _ (.tail _ (.tail _ (.head _)))
  have l5 : @Ne Nat dx L := (N _ (.tail _ (.head _))).2.1
  have l6 : @Ne Nat x L := (N _ (.head _)).2.1
  have l7 : @Ne Nat d L := (N _ (.tail _ (.tail _ (.head _)))).2.1
  have l8 : ∀ p ∈ tl ++ fl, p.1 ≠ L := fun p hp => (N _ (.tail _ (.tail _ (.tail _ hp)))).2.1
  have l9 : ∀ p ∈ tl ++ fl, @LT.lt Nat _ p.1 L' := fun p hp => hN _ (.tail _ (.tail _ (.tail _ hp)))
  rw [Option.map_some]
  refine hideA ?_
  intro BA hBh hBf
  have hfrs : ∀ fr, BA.frames = some fr → ∀ f ∈ frAddrs fr, @Eq Nat f L' ∨ f = L ∨ f ∈ fl.map (·.1) := by
    intro fr hfr f hf
    rw [hBf] at hfr
    cases hfr
    focus (refine hid fun hGo => ?_; obtain ⟨y, hy, e⟩ := frAddrs_mem hf; all_goals (refine hGo ?_; clear hGo))
    focus (refine hid fun hGo => ?_; rcases List.mem_cons.mp hy with rfl | hy; all_goals (refine hGo ?_; clear hGo))
    · cases e; exact .inl rfl
    · focus (refine hid fun hGo => ?_; obtain ⟨_, f', e', h⟩ := hout y hy; all_goals (refine hGo ?_; clear hGo))
      rw [e] at e'; cases e'
      exact .inr h
  have hfrk : ∀ fr, BA.frames = some fr → ∀ h : Heap, (∀ f, (@Eq Nat f L' ∨ f = L ∨ f ∈ fl.map (·.1)) → ∃ o, h.get? f = some o) → ∀ y ∈ fr, y.scope.kind = .function ∧ ∃ f o, y.frame = some f ∧ h.get? f = some o := by
    intro fr hfr h hh y hy
    rw [hBf] at hfr
    cases hfr
    focus (refine hid fun hGo => ?_; rcases List.mem_cons.mp hy with rfl | hy; all_goals (refine hGo ?_; clear hGo))
    · focus (refine hid fun hGo => ?_; obtain ⟨o, ho⟩ := hh L' (.inl rfl); all_goals (refine hGo ?_; clear hGo))
      exact ⟨rfl, L', o, rfl, ho⟩
    · focus (refine hid fun hGo => ?_; obtain ⟨hk, f', e', h'⟩ := hout y hy; all_goals (refine hGo ?_; clear hGo))
      focus (refine hid fun hGo => ?_; obtain ⟨o, ho⟩ := hh f' (.inr h'); all_goals (refine hGo ?_; clear hGo))
      exact ⟨hk, f', o, e', ho⟩
  refine execs_seq ?_
  intro Q₁ hn₁ hr₁ hb₁ hc₁
  repeat' (first | ((with_reducible show wpAny _ _ (call (Value.builtin "len") [Value.ref _]) _ _ _); refine len_N (by assumption) (by k_mem) (by first | exact leK (by assumption) (by exact rfl) | omega) ?_) | ((with_reducible show wpAny _ _ (subscriptTail _ _ (Value.ref _) (Value.int (-1) _)) _ _ _); refine last_N (by assumption) (by k_mem) (by assumption) ?_) | ((with_reducible show wpAny _ _ (compareOp CmpOp.In (Value.int _ _) (Value.ref _)) _ _ _); (refine sin_N (by assumption) (by k_mem) (by assumption) (by assumption) (by assumption) ?_)) | ((with_reducible show wpAny _ _ (delItem (Value.ref _) (Value.int _ _)) _ _ _); refine ddel_N (by k_asm) (by k_asm) (by k_updF) (by assumption) (by first | assumption | exact leK (by assumption) (by exact rfl) | omega) (by assumption) ?_; intro hZq odZq FZq NZq hodZq; (try dsimp only at NZq); (try k_sweep)) | ((with_reducible show wpAny _ _ (call (Value.builtin "list.pop") [Value.ref _]) _ _ _); refine pop_N (by k_asm) (by k_asm) (by k_updF) (by assumption) (by first | assumption | exact leK (by assumption) (by exact rfl) | omega) ?_; intro hZq FZq NZq; (try dsimp only at NZq); (try k_sweep)) | ((with_reducible show wpAny _ _ (getAttr (Value.ref _) (Str.ofString "__next__") _) _ _ _); refine nextattr_N (by assumption) (by assumption) (by k_mem) ?_; intro JZq hZq tkZq FZq NZq l2Zq; (try k_lt l2Zq); (try (have e4Zq := Nat.ne_of_gt l2Zq.2.2.2.2.2.1; have e5Zq := Nat.ne_of_gt l2Zq.2.2.2.2.2.2.2.1; have e6Zq := Nat.ne_of_gt l2Zq.2.2.2.2.2.2.2.2.1)); (try k_sweep)) | ((with_reducible show wpAny _ _ (call (Value.builtin "iter") [Value.ref _]) _ _ _); refine iter_N (by assumption) (by assumption) (by k_mem) ?_; intro IZq hZq FZq NZq l1Zq; (try k_lt l1Zq); (try (have e1Zq := Nat.ne_of_gt l1Zq.2.2.2.2.1; have e2Zq := Nat.ne_of_gt l1Zq.2.2.2.2.2.2.1; have e3Zq := Nat.ne_of_gt l1Zq.2.2.2.2.2.2.2.1)); (try k_sweep)) | ((with_reducible show wpAny _ _ (compareOp CmpOp.In (Value.int _ _) (Value.ref _)) _ _ _); (refine din_N (by assumption) (by k_mem) (by assumption) (by assumption) (by assumption) ?_)) | ((with_reducible show wpAny _ _ (subscriptTail _ _ (Value.ref _) (Value.int _ _)) _ _ _); refine ditem_tail (by first | exact dictOf_N (by assumption) (by k_mem) (by assumption) | exact dictOf_B (by assumption) (by assumption) (by assumption)) (by assumption) ?_) | ((with_reducible show wpAny _ _ (setItem (Value.ref _) (Value.int _ _) _) _ _ _); refine dset_N (by k_asm) (by k_asm) (by k_updF) (by assumption) (by first | assumption | exact leK (by assumption) (by exact rfl) | omega) ?_; intro hZq odZq FZq NZq hodZq; (try dsimp only at NZq); (try k_sweep)) | ((with_reducible show wpAny _ _ (call (Value.builtin "list.append") [Value.ref _, _]) _ _ _); k_dflt (refine append_K (by k_asm) (by k_asm) (by k_upd) ?_ (by simp only [sizeLine_eq]; first | exact leK (by assumption) (by exact rfl) | omega)); intro hZq FZq NZq; (try k_sweep)) | walk1 | (dsimp only; first | ((with_reducible show wpAny _ _ (call (Value.builtin "len") [Value.ref _]) _ _ _); refine len_N (by assumption) (by k_mem) (by first | exact leK (by assumption) (by exact rfl) | omega) ?_) | ((with_reducible show wpAny _ _ (subscriptTail _ _ (Value.ref _) (Value.int (-1) _)) _ _ _); refine last_N (by assumption) (by k_mem) (by assumption) ?_) | ((with_reducible show wpAny _ _ (compareOp CmpOp.In (Value.int _ _) (Value.ref _)) _ _ _); (refine sin_N (by assumption) (by k_mem) (by assumption) (by assumption) (by assumption) ?_)) | ((with_reducible show wpAny _ _ (delItem (Value.ref _) (Value.int _ _)) _ _ _); refine ddel_N (by k_asm) (by k_asm) (by k_updF) (by assumption) (by first | assumption | exact leK (by assumption) (by exact rfl) | omega) (by assumption) ?_; intro hZq odZq FZq NZq hodZq; (try dsimp only at NZq); (try k_sweep)) | ((with_reducible show wpAny _ _ (call (Value.builtin "list.pop") [Value.ref _]) _ _ _); refine pop_N (by k_asm) (by k_asm) (by k_updF) (by assumption) (by first | assumption | exact leK (by assumption) (by exact rfl) | omega) ?_; intro hZq FZq NZq; (try dsimp only at NZq); (try k_sweep)) | ((with_reducible show wpAny _ _ (getAttr (Value.ref _) (Str.ofString "__next__") _) _ _ _); refine nextattr_N (by assumption) (by assumption) (by k_mem) ?_; intro JZq hZq tkZq FZq NZq l2Zq; (try k_lt l2Zq); (try (have e4Zq := Nat.ne_of_gt l2Zq.2.2.2.2.2.1; have e5Zq := Nat.ne_of_gt l2Zq.2.2.2.2.2.2.2.1; have e6Zq := Nat.ne_of_gt l2Zq.2.2.2.2.2.2.2.2.1)); (try k_sweep)) | ((with_reducible show wpAny _ _ (call (Value.builtin "iter") [Value.ref _]) _ _ _); refine iter_N (by assumption) (by assumption) (by k_mem) ?_; intro IZq hZq FZq NZq l1Zq; (try k_lt l1Zq); (try (have e1Zq := Nat.ne_of_gt l1Zq.2.2.2.2.1; have e2Zq := Nat.ne_of_gt l1Zq.2.2.2.2.2.2.1; have e3Zq := Nat.ne_of_gt l1Zq.2.2.2.2.2.2.2.1)); (try k_sweep)) | ((with_reducible show wpAny _ _ (compareOp CmpOp.In (Value.int _ _) (Value.ref _)) _ _ _); (refine din_N (by assumption) (by k_mem) (by assumption) (by assumption) (by assumption) ?_)) | ((with_reducible show wpAny _ _ (subscriptTail _ _ (Value.ref _) (Value.int _ _)) _ _ _); refine ditem_tail (by first | exact dictOf_N (by assumption) (by k_mem) (by assumption) | exact dictOf_B (by assumption) (by assumption) (by assumption)) (by assumption) ?_) | ((with_reducible show wpAny _ _ (setItem (Value.ref _) (Value.int _ _) _) _ _ _); refine dset_N (by k_asm) (by k_asm) (by k_updF) (by assumption) (by first | assumption | exact leK (by assumption) (by exact rfl) | omega) ?_; intro hZq odZq FZq NZq hodZq; (try dsimp only at NZq); (try k_sweep)) | ((with_reducible show wpAny _ _ (call (Value.builtin "list.append") [Value.ref _, _]) _ _ _); k_dflt (refine append_K (by k_asm) (by k_asm) (by k_upd) ?_ (by simp only [sizeLine_eq]; first | exact leK (by assumption) (by exact rfl) | omega)); intro hZq FZq NZq; (try k_sweep)) | walk1))
  refine hn₁ _ ?_
  clear hn₁ hr₁ hb₁ hc₁
  refine execs_seq ?_
  intro Q₁ hn₁ hr₁ hb₁ hc₁
  repeat' (first | ((with_reducible show wpAny _ _ (call (Value.builtin "len") [Value.ref _]) _ _ _); refine len_N (by assumption) (by k_mem) (by first | exact leK (by assumption) (by exact rfl) | omega) ?_) | ((with_reducible show wpAny _ _ (subscriptTail _ _ (Value.ref _) (Value.int (-1) _)) _ _ _); refine last_N (by assumption) (by k_mem) (by assumption) ?_) | ((with_reducible show wpAny _ _ (compareOp CmpOp.In (Value.int _ _) (Value.ref _)) _ _ _); (refine sin_N (by assumption) (by k_mem) (by assumption) (by assumption) (by assumption) ?_)) | ((with_reducible show wpAny _ _ (delItem (Value.ref _) (Value.int _ _)) _ _ _); refine ddel_N (by k_asm) (by k_asm) (by k_updF) (by assumption) (by first | assumption | exact leK (by assumption) (by exact rfl) | omega) (by assumption) ?_; intro hZq odZq FZq NZq hodZq; (try dsimp only at NZq); (try k_sweep)) | ((with_reducible show wpAny _ _ (call (Value.builtin "list.pop") [Value.ref _]) _ _ _); refine pop_N (by k_asm) (by k_asm) (by k_updF) (by assumption) (by first | assumption | exact leK (by assumption) (by exact rfl) | omega) ?_; intro hZq FZq NZq; (try dsimp only at NZq); (try k_sweep)) | ((with_reducible show wpAny _ _ (getAttr (Value.ref _) (Str.ofString "__next__") _) _ _ _); refine nextattr_N (by assumption) (by assumption) (by k_mem) ?_; intro JZq hZq tkZq FZq NZq l2Zq; (try k_lt l2Zq); (try (have e4Zq := Nat.ne_of_gt l2Zq.2.2.2.2.2.1; have e5Zq := Nat.ne_of_gt l2Zq.2.2.2.2.2.2.2.1; have e6Zq := Nat.ne_of_gt l2Zq.2.2.2.2.2.2.2.2.1)); (try k_sweep)) | ((with_reducible show wpAny _ _ (call (Value.builtin "iter") [Value.ref _]) _ _ _); refine iter_N (by assumption) (by assumption) (by k_mem) ?_; intro IZq hZq FZq NZq l1Zq; (try k_lt l1Zq); (try (have e1Zq := Nat.ne_of_gt l1Zq.2.2.2.2.1; have e2Zq := Nat.ne_of_gt l1Zq.2.2.2.2.2.2.1; have e3Zq := Nat.ne_of_gt l1Zq.2.2.2.2.2.2.2.1)); (try k_sweep)) | ((with_reducible show wpAny _ _ (compareOp CmpOp.In (Value.int _ _) (Value.ref _)) _ _ _); (refine din_N (by assumption) (by k_mem) (by assumption) (by assumption) (by assumption) ?_)) | ((with_reducible show wpAny _ _ (subscriptTail _ _ (Value.ref _) (Value.int _ _)) _ _ _); refine ditem_tail (by first | exact dictOf_N (by assumption) (by k_mem) (by assumption) | exact dictOf_B (by assumption) (by assumption) (by assumption)) (by assumption) ?_) | ((with_reducible show wpAny _ _ (setItem (Value.ref _) (Value.int _ _) _) _ _ _); refine dset_N (by k_asm) (by k_asm) (by k_updF) (by assumption) (by first | assumption | exact leK (by assumption) (by exact rfl) | omega) ?_; intro hZq odZq FZq NZq hodZq; (try dsimp only at NZq); (try k_sweep)) | ((with_reducible show wpAny _ _ (call (Value.builtin "list.append") [Value.ref _, _]) _ _ _); k_dflt (refine append_K (by k_asm) (by k_asm) (by k_upd) ?_ (by simp only [sizeLine_eq]; first | exact leK (by assumption) (by exact rfl) | omega)); intro hZq FZq NZq; (try k_sweep)) | walk1 | (dsimp only; first | ((with_reducible show wpAny _ _ (call (Value.builtin "len") [Value.ref _]) _ _ _); refine len_N (by assumption) (by k_mem) (by first | exact leK (by assumption) (by exact rfl) | omega) ?_) | ((with_reducible show wpAny _ _ (subscriptTail _ _ (Value.ref _) (Value.int (-1) _)) _ _ _); refine last_N (by assumption) (by k_mem) (by assumption) ?_) | ((with_reducible show wpAny _ _ (compareOp CmpOp.In (Value.int _ _) (Value.ref _)) _ _ _); (refine sin_N (by assumption) (by k_mem) (by assumption) (by assumption) (by assumption) ?_)) | ((with_reducible show wpAny _ _ (delItem (Value.ref _) (Value.int _ _)) _ _ _); refine ddel_N (by k_asm) (by k_asm) (by k_updF) (by assumption) (by first | assumption | exact leK (by assumption) (by exact rfl) | omega) (by assumption) ?_; intro hZq odZq FZq NZq hodZq; (try dsimp only at NZq); (try k_sweep)) | ((with_reducible show wpAny _ _ (call (Value.builtin "list.pop") [Value.ref _]) _ _ _); refine pop_N (by k_asm) (by k_asm) (by k_updF) (by assumption) (by first | assumption | exact leK (by assumption) (by exact rfl) | omega) ?_; intro hZq FZq NZq; (try dsimp only at NZq); (try k_sweep)) | ((with_reducible show wpAny _ _ (getAttr (Value.ref _) (Str.ofString "__next__") _) _ _ _); refine nextattr_N (by assumption) (by assumption) (by k_mem) ?_; intro JZq hZq tkZq FZq NZq l2Zq; (try k_lt l2Zq); (try (have e4Zq := Nat.ne_of_gt l2Zq.2.2.2.2.2.1; have e5Zq := Nat.ne_of_gt l2Zq.2.2.2.2.2.2.2.1; have e6Zq := Nat.ne_of_gt l2Zq.2.2.2.2.2.2.2.2.1)); (try k_sweep)) | ((with_reducible show wpAny _ _ (call (Value.builtin "iter") [Value.ref _]) _ _ _); refine iter_N (by assumption) (by assumption) (by k_mem) ?_; intro IZq hZq FZq NZq l1Zq; (try k_lt l1Zq); (try (have e1Zq := Nat.ne_of_gt l1Zq.2.2.2.2.1; have e2Zq := Nat.ne_of_gt l1Zq.2.2.2.2.2.2.1; have e3Zq := Nat.ne_of_gt l1Zq.2.2.2.2.2.2.2.1)); (try k_sweep)) | ((with_reducible show wpAny _ _ (compareOp CmpOp.In (Value.int _ _) (Value.ref _)) _ _ _); (refine din_N (by assumption) (by k_mem) (by assumption) (by assumption) (by assumption) ?_)) | ((with_reducible show wpAny _ _ (subscriptTail _ _ (Value.ref _) (Value.int _ _)) _ _ _); refine ditem_tail (by first | exact dictOf_N (by assumption) (by k_mem) (by assumption) | exact dictOf_B (by assumption) (by assumption) (by assumption)) (by assumption) ?_) | ((with_reducible show wpAny _ _ (setItem (Value.ref _) (Value.int _ _) _) _ _ _); refine dset_N (by k_asm) (by k_asm) (by k_updF) (by assumption) (by first | assumption | exact leK (by assumption) (by exact rfl) | omega) ?_; intro hZq odZq FZq NZq hodZq; (try dsimp only at NZq); (try k_sweep)) | ((with_reducible show wpAny _ _ (call (Value.builtin "list.append") [Value.ref _, _]) _ _ _); k_dflt (refine append_K (by k_asm) (by k_asm) (by k_upd) ?_ (by simp only [sizeLine_eq]; first | exact leK (by assumption) (by exact rfl) | omega)); intro hZq FZq NZq; (try k_sweep)) | walk1))
  refine hn₁ _ ?_
  clear hn₁ hr₁ hb₁ hc₁
  refine execs_seq ?_
  intro Q₁ hn₁ hr₁ hb₁ hc₁
  repeat' (first | ((with_reducible show wpAny _ _ (call (Value.builtin "len") [Value.ref _]) _ _ _); refine len_N (by assumption) (by k_mem) (by first | exact leK (by assumption) (by exact rfl) | omega) ?_) | ((with_reducible show wpAny _ _ (subscriptTail _ _ (Value.ref _) (Value.int (-1) _)) _ _ _); refine last_N (by assumption) (by k_mem) (by assumption) ?_) | ((with_reducible show wpAny _ _ (compareOp CmpOp.In (Value.int _ _) (Value.ref _)) _ _ _); (refine sin_N (by assumption) (by k_mem) (by assumption) (by assumption) (by assumption) ?_)) | ((with_reducible show wpAny _ _ (delItem (Value.ref _) (Value.int _ _)) _ _ _); refine ddel_N (by k_asm) (by k_asm) (by k_updF) (by assumption) (by first | assumption | exact leK (by assumption) (by exact rfl) | omega) (by assumption) ?_; intro hZq odZq FZq NZq hodZq; (try dsimp only at NZq); (try k_sweep)) | ((with_reducible show wpAny _ _ (call (Value.builtin "list.pop") [Value.ref _]) _ _ _); refine pop_N (by k_asm) (by k_asm) (by k_updF) (by assumption) (by first | assumption | exact leK (by assumption) (by exact rfl) | omega) ?_; intro hZq FZq NZq; (try dsimp only at NZq); (try k_sweep)) | ((with_reducible show wpAny _ _ (getAttr (Value.ref _) (Str.ofString "__next__") _) _ _ _); refine nextattr_N (by assumption) (by assumption) (by k_mem) ?_; intro JZq hZq tkZq FZq NZq l2Zq; (try k_lt l2Zq); (try (have e4Zq := Nat.ne_of_gt l2Zq.2.2.2.2.2.1; have e5Zq := Nat.ne_of_gt l2Zq.2.2.2.2.2.2.2.1; have e6Zq := Nat.ne_of_gt l2Zq.2.2.2.2.2.2.2.2.1)); (try k_sweep)) | ((with_reducible show wpAny _ _ (call (Value.builtin "iter") [Value.ref _]) _ _ _); refine iter_N (by assumption) (by assumption) (by k_mem) ?_; intro IZq hZq FZq NZq l1Zq; (try k_lt l1Zq); (try (have e1Zq := Nat.ne_of_gt l1Zq.2.2.2.2.1; have e2Zq := Nat.ne_of_gt l1Zq.2.2.2.2.2.2.1; have e3Zq := Nat.ne_of_gt l1Zq.2.2.2.2.2.2.2.1)); (try k_sweep)) | ((with_reducible show wpAny _ _ (compareOp CmpOp.In (Value.int _ _) (Value.ref _)) _ _ _); (refine din_N (by assumption) (by k_mem) (by assumption) (by assumption) (by assumption) ?_)) | ((with_reducible show wpAny _ _ (subscriptTail _ _ (Value.ref _) (Value.int _ _)) _ _ _); refine ditem_tail (by first | exact dictOf_N (by assumption) (by k_mem) (by assumption) | exact dictOf_B (by assumption) (by assumption) (by assumption)) (by assumption) ?_) | ((with_reducible show wpAny _ _ (setItem (Value.ref _) (Value.int _ _) _) _ _ _); refine dset_N (by k_asm) (by k_asm) (by k_updF) (by assumption) (by first | assumption | exact leK (by assumption) (by exact rfl) | omega) ?_; intro hZq odZq FZq NZq hodZq; (try dsimp only at NZq); (try k_sweep)) | ((with_reducible show wpAny _ _ (call (Value.builtin "list.append") [Value.ref _, _]) _ _ _); k_dflt (refine append_K (by k_asm) (by k_asm) (by k_upd) ?_ (by simp only [sizeLine_eq]; first | exact leK (by assumption) (by exact rfl) | omega)); intro hZq FZq NZq; (try k_sweep)) | walk1 | (dsimp only; first | ((with_reducible show wpAny _ _ (call (Value.builtin "len") [Value.ref _]) _ _ _); refine len_N (by assumption) (by k_mem) (by first | exact leK (by assumption) (by exact rfl) | omega) ?_) | ((with_reducible show wpAny _ _ (subscriptTail _ _ (Value.ref _) (Value.int (-1) _)) _ _ _); refine last_N (by assumption) (by k_mem) (by assumption) ?_) | ((with_reducible show wpAny _ _ (compareOp CmpOp.In (Value.int _ _) (Value.ref _)) _ _ _); (refine sin_N (by assumption) (by k_mem) (by assumption) (by assumption) (by assumption) ?_)) | ((with_reducible show wpAny _ _ (delItem (Value.ref _) (Value.int _ _)) _ _ _); refine ddel_N (by k_asm) (by k_asm) (by k_updF) (by assumption) (by first | assumption | exact leK (by assumption) (by exact rfl) | omega) (by assumption) ?_; intro hZq odZq FZq NZq hodZq; (try dsimp only at NZq); (try k_sweep)) | ((with_reducible show wpAny _ _ (call (Value.builtin "list.pop") [Value.ref _]) _ _ _); refine pop_N (by k_asm) (by k_asm) (by k_updF) (by assumption) (by first | assumption | exact leK (by assumption) (by exact rfl) | omega) ?_; intro hZq FZq NZq; (try dsimp only at NZq); (try k_sweep)) | ((with_reducible show wpAny _ _ (getAttr (Value.ref _) (Str.ofString "__next__") _) _ _ _); refine nextattr_N (by assumption) (by assumption) (by k_mem) ?_; intro JZq hZq tkZq FZq NZq l2Zq; (try k_lt l2Zq); (try (have e4Zq := Nat.ne_of_gt l2Zq.2.2.2.2.2.1; have e5Zq := Nat.ne_of_gt l2Zq.2.2.2.2.2.2.2.1; have e6Zq := Nat.ne_of_gt l2Zq.2.2.2.2.2.2.2.2.1)); (try k_sweep)) | ((with_reducible show wpAny _ _ (call (Value.builtin "iter") [Value.ref _]) _ _ _); refine iter_N (by assumption) (by assumption) (by k_mem) ?_; intro IZq hZq FZq NZq l1Zq; (try k_lt l1Zq); (try (have e1Zq := Nat.ne_of_gt l1Zq.2.2.2.2.1; have e2Zq := Nat.ne_of_gt l1Zq.2.2.2.2.2.2.1; have e3Zq := Nat.ne_of_gt l1Zq.2.2.2.2.2.2.2.1)); (try k_sweep)) | ((with_reducible show wpAny _ _ (compareOp CmpOp.In (Value.int _ _) (Value.ref _)) _ _ _); (refine din_N (by assumption) (by k_mem) (by assumption) (by assumption) (by assumption) ?_)) | ((with_reducible show wpAny _ _ (subscriptTail _ _ (Value.ref _) (Value.int _ _)) _ _ _); refine ditem_tail (by first | exact dictOf_N (by assumption) (by k_mem) (by assumption) | exact dictOf_B (by assumption) (by assumption) (by assumption)) (by assumption) ?_) | ((with_reducible show wpAny _ _ (setItem (Value.ref _) (Value.int _ _) _) _ _ _); refine dset_N (by k_asm) (by k_asm) (by k_updF) (by assumption) (by first | assumption | exact leK (by assumption) (by exact rfl) | omega) ?_; intro hZq odZq FZq NZq hodZq; (try dsimp only at NZq); (try k_sweep)) | ((with_reducible show wpAny _ _ (call (Value.builtin "list.append") [Value.ref _, _]) _ _ _); k_dflt (refine append_K (by k_asm) (by k_asm) (by k_upd) ?_ (by simp only [sizeLine_eq]; first | exact leK (by assumption) (by exact rfl) | omega)); intro hZq FZq NZq; (try k_sweep)) | walk1))
  refine hn₁ _ ?_
  clear hn₁ hr₁ hb₁ hc₁
  refine execs_seq ?_
  intro Q₁ hn₁ hr₁ hb₁ hc₁
  repeat' (first | ((with_reducible show wpAny _ _ (call (Value.builtin "len") [Value.ref _]) _ _ _); refine len_N (by assumption) (by k_mem) (by first | exact leK (by assumption) (by exact rfl) | omega) ?_) | ((with_reducible show wpAny _ _ (subscriptTail _ _ (Value.ref _) (Value.int (-1) _)) _ _ _); refine last_N (by assumption) (by k_mem) (by assumption) ?_) | ((with_reducible show wpAny _ _ (compareOp CmpOp.In (Value.int _ _) (Value.ref _)) _ _ _); (refine sin_N (by assumption) (by k_mem) (by assumption) (by assumption) (by assumption) ?_)) | ((with_reducible show wpAny _ _ (delItem (Value.ref _) (Value.int _ _)) _ _ _); refine ddel_N (by k_asm) (by k_asm) (by k_updF) (by assumption) (by first | assumption | exact leK (by assumption) (by exact rfl) | omega) (by assumption) ?_; intro hZq odZq FZq NZq hodZq; (try dsimp only at NZq); (try k_sweep)) | ((with_reducible show wpAny _ _ (call (Value.builtin "list.pop") [Value.ref _]) _ _ _); refine pop_N (by k_asm) (by k_asm) (by k_updF) (by assumption) (by first | assumption | exact leK (by assumption) (by exact rfl) | omega) ?_; intro hZq FZq NZq; (try dsimp only at NZq); (try k_sweep)) | ((with_reducible show wpAny _ _ (getAttr (Value.ref _) (Str.ofString "__next__") _) _ _ _); refine nextattr_N (by assumption) (by assumption) (by k_mem) ?_; intro JZq hZq tkZq FZq NZq l2Zq; (try k_lt l2Zq); (try (have e4Zq := Nat.ne_of_gt l2Zq.2.2.2.2.2.1; have e5Zq := Nat.ne_of_gt l2Zq.2.2.2.2.2.2.2.1; have e6Zq := Nat.ne_of_gt l2Zq.2.2.2.2.2.2.2.2.1)); (try k_sweep)) | ((with_reducible show wpAny _ _ (call (Value.builtin "iter") [Value.ref _]) _ _ _); refine iter_N (by assumption) (by assumption) (by k_mem) ?_; intro IZq hZq FZq NZq l1Zq; (try k_lt l1Zq); (try (have e1Zq := Nat.ne_of_gt l1Zq.2.2.2.2.1; have e2Zq := Nat.ne_of_gt l1Zq.2.2.2.2.2.2.1; have e3Zq := Nat.ne_of_gt l1Zq.2.2.2.2.2.2.2.1)); (try k_sweep)) | ((with_reducible show wpAny _ _ (compareOp CmpOp.In (Value.int _ _) (Value.ref _)) _ _ _); (refine din_N (by assumption) (by k_mem) (by assumption) (by assumption) (by assumption) ?_)) | ((with_reducible show wpAny _ _ (subscriptTail _ _ (Value.ref _) (Value.int _ _)) _ _ _); refine ditem_tail (by first | exact dictOf_N (by assumption) (by k_mem) (by assumption) | exact dictOf_B (by assumption) (by assumption) (by assumption)) (by assumption) ?_) | ((with_reducible show wpAny _ _ (setItem (Value.ref _) (Value.int _ _) _) _ _ _); refine dset_N (by k_asm) (by k_asm) (by k_updF) (by assumption) (by first | assumption | exact leK (by assumption) (by exact rfl) | omega) ?_; intro hZq odZq FZq NZq hodZq; (try dsimp only at NZq); (try k_sweep)) | ((with_reducible show wpAny _ _ (call (Value.builtin "list.append") [Value.ref _, _]) _ _ _); k_dflt (refine append_K (by k_asm) (by k_asm) (by k_upd) ?_ (by simp only [sizeLine_eq]; first | exact leK (by assumption) (by exact rfl) | omega)); intro hZq FZq NZq; (try k_sweep)) | walk1 | (dsimp only; first | ((with_reducible show wpAny _ _ (call (Value.builtin "len") [Value.ref _]) _ _ _); refine len_N (by assumption) (by k_mem) (by first | exact leK (by assumption) (by exact rfl) | omega) ?_) | ((with_reducible show wpAny _ _ (subscriptTail _ _ (Value.ref _) (Value.int (-1) _)) _ _ _); refine last_N (by assumption) (by k_mem) (by assumption) ?_) | ((with_reducible show wpAny _ _ (compareOp CmpOp.In (Value.int _ _) (Value.ref _)) _ _ _); (refine sin_N (by assumption) (by k_mem) (by assumption) (by assumption) (by assumption) ?_)) | ((with_reducible show wpAny _ _ (delItem (Value.ref _) (Value.int _ _)) _ _ _); refine ddel_N (by k_asm) (by k_asm) (by k_updF) (by assumption) (by first | assumption | exact leK (by assumption) (by exact rfl) | omega) (by assumption) ?_; intro hZq odZq FZq NZq hodZq; (try dsimp only at NZq); (try k_sweep)) | ((with_reducible show wpAny _ _ (call (Value.builtin "list.pop") [Value.ref _]) _ _ _); refine pop_N (by k_asm) (by k_asm) (by k_updF) (by assumption) (by first | assumption | exact leK (by assumption) (by exact rfl) | omega) ?_; intro hZq FZq NZq; (try dsimp only at NZq); (try k_sweep)) | ((with_reducible show wpAny _ _ (getAttr (Value.ref _) (Str.ofString "__next__") _) _ _ _); refine nextattr_N (by assumption) (by assumption) (by k_mem) ?_; intro JZq hZq tkZq FZq NZq l2Zq; (try k_lt l2Zq); (try (have e4Zq := Nat.ne_of_gt l2Zq.2.2.2.2.2.1; have e5Zq := Nat.ne_of_gt l2Zq.2.2.2.2.2.2.2.1; have e6Zq := Nat.ne_of_gt l2Zq.2.2.2.2.2.2.2.2.1)); (try k_sweep)) | ((with_reducible show wpAny _ _ (call (Value.builtin "iter") [Value.ref _]) _ _ _); refine iter_N (by assumption) (by assumption) (by k_mem) ?_; intro IZq hZq FZq NZq l1Zq; (try k_lt l1Zq); (try (have e1Zq := Nat.ne_of_gt l1Zq.2.2.2.2.1; have e2Zq := Nat.ne_of_gt l1Zq.2.2.2.2.2.2.1; have e3Zq := Nat.ne_of_gt l1Zq.2.2.2.2.2.2.2.1)); (try k_sweep)) | ((with_reducible show wpAny _ _ (compareOp CmpOp.In (Value.int _ _) (Value.ref _)) _ _ _); (refine din_N (by assumption) (by k_mem) (by assumption) (by assumption) (by assumption) ?_)) | ((with_reducible show wpAny _ _ (subscriptTail _ _ (Value.ref _) (Value.int _ _)) _ _ _); refine ditem_tail (by first | exact dictOf_N (by assumption) (by k_mem) (by assumption) | exact dictOf_B (by assumption) (by assumption) (by assumption)) (by assumption) ?_) | ((with_reducible show wpAny _ _ (setItem (Value.ref _) (Value.int _ _) _) _ _ _); refine dset_N (by k_asm) (by k_asm) (by k_updF) (by assumption) (by first | assumption | exact leK (by assumption) (by exact rfl) | omega) ?_; intro hZq odZq FZq NZq hodZq; (try dsimp only at NZq); (try k_sweep)) | ((with_reducible show wpAny _ _ (call (Value.builtin "list.append") [Value.ref _, _]) _ _ _); k_dflt (refine append_K (by k_asm) (by k_asm) (by k_upd) ?_ (by simp only [sizeLine_eq]; first | exact leK (by assumption) (by exact rfl) | omega)); intro hZq FZq NZq; (try k_sweep)) | walk1))
  refine hn₁ _ ?_
  clear hn₁ hr₁ hb₁ hc₁
  refine execs_seq ?_
  intro Q₁ hn₁ hr₁ hb₁ hc₁
  repeat' (first | ((with_reducible show wpAny _ _ (call (Value.builtin "len") [Value.ref _]) _ _ _); refine len_N (by assumption) (by k_mem) (by first | exact leK (by assumption) (by exact rfl) | omega) ?_) | ((with_reducible show wpAny _ _ (subscriptTail _ _ (Value.ref _) (Value.int (-1) _)) _ _ _); refine last_N (by assumption) (by k_mem) (by assumption) ?_) | ((with_reducible show wpAny _ _ (compareOp CmpOp.In (Value.int _ _) (Value.ref _)) _ _ _); (refine sin_N (by assumption) (by k_mem) (by assumption) (by assumption) (by assumption) ?_)) | ((with_reducible show wpAny _ _ (delItem (Value.ref _) (Value.int _ _)) _ _ _); refine ddel_N (by k_asm) (by k_asm) (by k_updF) (by assumption) (by first | assumption | exact leK (by assumption) (by exact rfl) | omega) (by assumption) ?_; intro hZq odZq FZq NZq hodZq; (try dsimp only at NZq); (try k_sweep)) | ((with_reducible show wpAny _ _ (call (Value.builtin "list.pop") [Value.ref _]) _ _ _); refine pop_N (by k_asm) (by k_asm) (by k_updF) (by assumption) (by first | assumption | exact leK (by assumption) (by exact rfl) | omega) ?_; intro hZq FZq NZq; (try dsimp only at NZq); (try k_sweep)) | ((with_reducible show wpAny _ _ (getAttr (Value.ref _) (Str.ofString "__next__") _) _ _ _); refine nextattr_N (by assumption) (by assumption) (by k_mem) ?_; intro JZq hZq tkZq FZq NZq l2Zq; (try k_lt l2Zq); (try (have e4Zq := Nat.ne_of_gt l2Zq.2.2.2.2.2.1; have e5Zq := Nat.ne_of_gt l2Zq.2.2.2.2.2.2.2.1; have e6Zq := Nat.ne_of_gt l2Zq.2.2.2.2.2.2.2.2.1)); (try k_sweep)) | ((with_reducible show wpAny _ _ (call (Value.builtin "iter") [Value.ref _]) _ _ _); refine iter_N (by assumption) (by assumption) (by k_mem) ?_; intro IZq hZq FZq NZq l1Zq; (try k_lt l1Zq); (try (have e1Zq := Nat.ne_of_gt l1Zq.2.2.2.2.1; have e2Zq := Nat.ne_of_gt l1Zq.2.2.2.2.2.2.1; have e3Zq := Nat.ne_of_gt l1Zq.2.2.2.2.2.2.2.1)); (try k_sweep)) | ((with_reducible show wpAny _ _ (compareOp CmpOp.In (Value.int _ _) (Value.ref _)) _ _ _); (refine din_N (by assumption) (by k_mem) (by assumption) (by assumption) (by assumption) ?_)) | ((with_reducible show wpAny _ _ (subscriptTail _ _ (Value.ref _) (Value.int _ _)) _ _ _); refine ditem_tail (by first | exact dictOf_N (by assumption) (by k_mem) (by assumption) | exact dictOf_B (by assumption) (by assumption) (by assumption)) (by assumption) ?_) | ((with_reducible show wpAny _ _ (setItem (Value.ref _) (Value.int _ _) _) _ _ _); refine dset_N (by k_asm) (by k_asm) (by k_updF) (by assumption) (by first | assumption | exact leK (by assumption) (by exact rfl) | omega) ?_; intro hZq odZq FZq NZq hodZq; (try dsimp only at NZq); (try k_sweep)) | ((with_reducible show wpAny _ _ (call (Value.builtin "list.append") [Value.ref _, _]) _ _ _); k_dflt (refine append_K (by k_asm) (by k_asm) (by k_upd) ?_ (by simp only [sizeLine_eq]; first | exact leK (by assumption) (by exact rfl) | omega)); intro hZq FZq NZq; (try k_sweep)) | walk1 | (dsimp only; first | ((with_reducible show wpAny _ _ (call (Value.builtin "len") [Value.ref _]) _ _ _); refine len_N (by assumption) (by k_mem) (by first | exact leK (by assumption) (by exact rfl) | omega) ?_) | ((with_reducible show wpAny _ _ (subscriptTail _ _ (Value.ref _) (Value.int (-1) _)) _ _ _); refine last_N (by assumption) (by k_mem) (by assumption) ?_) | ((with_reducible show wpAny _ _ (compareOp CmpOp.In (Value.int _ _) (Value.ref _)) _ _ _); (refine sin_N (by assumption) (by k_mem) (by assumption) (by assumption) (by assumption) ?_)) | ((with_reducible show wpAny _ _ (delItem (Value.ref _) (Value.int _ _)) _ _ _); refine ddel_N (by k_asm) (by k_asm) (by k_updF) (by assumption) (by first | assumption | exact leK (by assumption) (by exact rfl) | omega) (by assumption) ?_; intro hZq odZq FZq NZq hodZq; (try dsimp only at NZq); (try k_sweep)) | ((with_reducible show wpAny _ _ (call (Value.builtin "list.pop") [Value.ref _]) _ _ _); refine pop_N (by k_asm) (by k_asm) (by k_updF) (by assumption) (by first | assumption | exact leK (by assumption) (by exact rfl) | omega) ?_; intro hZq FZq NZq; (try dsimp only at NZq); (try k_sweep)) | ((with_reducible show wpAny _ _ (getAttr (Value.ref _) (Str.ofString "__next__") _) _ _ _); refine nextattr_N (by assumption) (by assumption) (by k_mem) ?_; intro JZq hZq tkZq FZq NZq l2Zq; (try k_lt l2Zq); (try (have e4Zq := Nat.ne_of_gt l2Zq.2.2.2.2.2.1; have e5Zq := Nat.ne_of_gt l2Zq.2.2.2.2.2.2.2.1; have e6Zq := Nat.ne_of_gt l2Zq.2.2.2.2.2.2.2.2.1)); (try k_sweep)) | ((with_reducible show wpAny _ _ (call (Value.builtin "iter") [Value.ref _]) _ _ _); refine iter_N (by assumption) (by assumption) (by k_mem) ?_; intro IZq hZq FZq NZq l1Zq; (try k_lt l1Zq); (try (have e1Zq := Nat.ne_of_gt l1Zq.2.2.2.2.1; have e2Zq := Nat.ne_of_gt l1Zq.2.2.2.2.2.2.1; have e3Zq := Nat.ne_of_gt l1Zq.2.2.2.2.2.2.2.1)); (try k_sweep)) | ((with_reducible show wpAny _ _ (compareOp CmpOp.In (Value.int _ _) (Value.ref _)) _ _ _); (refine din_N (by assumption) (by k_mem) (by assumption) (by assumption) (by assumption) ?_)) | ((with_reducible show wpAny _ _ (subscriptTail _ _ (Value.ref _) (Value.int _ _)) _ _ _); refine ditem_tail (by first | exact dictOf_N (by assumption) (by k_mem) (by assumption) | exact dictOf_B (by assumption) (by assumption) (by assumption)) (by assumption) ?_) | ((with_reducible show wpAny _ _ (setItem (Value.ref _) (Value.int _ _) _) _ _ _); refine dset_N (by k_asm) (by k_asm) (by k_updF) (by assumption) (by first | assumption | exact leK (by assumption) (by exact rfl) | omega) ?_; intro hZq odZq FZq NZq hodZq; (try dsimp only at NZq); (try k_sweep)) | ((with_reducible show wpAny _ _ (call (Value.builtin "list.append") [Value.ref _, _]) _ _ _); k_dflt (refine append_K (by k_asm) (by k_asm) (by k_upd) ?_ (by simp only [sizeLine_eq]; first | exact leK (by assumption) (by exact rfl) | omega)); intro hZq FZq NZq; (try k_sweep)) | walk1))
  refine hn₁ _ ?_
  clear hn₁ hr₁ hb₁ hc₁
  dsimp only at *
  refine execs_seq ?_
  intro Q₁ hn₁ hr₁ hb₁ hc₁
  refine wpAny_For ?_ (by intro _; rfl)
  refine opq ?_
  intro Q₄ h₄
  repeat' (first | ((with_reducible show wpAny _ _ (call (Value.builtin "len") [Value.ref _]) _ _ _); refine len_N (by assumption) (by k_mem) (by first | exact leK (by assumption) (by exact rfl) | omega) ?_) | ((with_reducible show wpAny _ _ (subscriptTail _ _ (Value.ref _) (Value.int (-1) _)) _ _ _); refine last_N (by assumption) (by k_mem) (by assumption) ?_) | ((with_reducible show wpAny _ _ (compareOp CmpOp.In (Value.int _ _) (Value.ref _)) _ _ _); (refine sin_N (by assumption) (by k_mem) (by assumption) (by assumption) (by assumption) ?_)) | ((with_reducible show wpAny _ _ (delItem (Value.ref _) (Value.int _ _)) _ _ _); refine ddel_N (by k_asm) (by k_asm) (by k_updF) (by assumption) (by first | assumption | exact leK (by assumption) (by exact rfl) | omega) (by assumption) ?_; intro hZq odZq FZq NZq hodZq; (try dsimp only at NZq); (try k_sweep)) | ((with_reducible show wpAny _ _ (call (Value.builtin "list.pop") [Value.ref _]) _ _ _); refine pop_N (by k_asm) (by k_asm) (by k_updF) (by assumption) (by first | assumption | exact leK (by assumption) (by exact rfl) | omega) ?_; intro hZq FZq NZq; (try dsimp only at NZq); (try k_sweep)) | ((with_reducible show wpAny _ _ (getAttr (Value.ref _) (Str.ofString "__next__") _) _ _ _); refine nextattr_N (by assumption) (by assumption) (by k_mem) ?_; intro JZq hZq tkZq FZq NZq l2Zq; (try k_lt l2Zq); (try (have e4Zq := Nat.ne_of_gt l2Zq.2.2.2.2.2.1; have e5Zq := Nat.ne_of_gt l2Zq.2.2.2.2.2.2.2.1; have e6Zq := Nat.ne_of_gt l2Zq.2.2.2.2.2.2.2.2.1)); (try k_sweep)) | ((with_reducible show wpAny _ _ (call (Value.builtin "iter") [Value.ref _]) _ _ _); refine iter_N (by assumption) (by assumption) (by k_mem) ?_; intro IZq hZq FZq NZq l1Zq; (try k_lt l1Zq); (try (have e1Zq := Nat.ne_of_gt l1Zq.2.2.2.2.1; have e2Zq := Nat.ne_of_gt l1Zq.2.2.2.2.2.2.1; have e3Zq := Nat.ne_of_gt l1Zq.2.2.2.2.2.2.2.1)); (try k_sweep)) | ((with_reducible show wpAny _ _ (compareOp CmpOp.In (Value.int _ _) (Value.ref _)) _ _ _); (refine din_N (by assumption) (by k_mem) (by assumption) (by assumption) (by assumption) ?_)) | ((with_reducible show wpAny _ _ (subscriptTail _ _ (Value.ref _) (Value.int _ _)) _ _ _); refine ditem_tail (by first | exact dictOf_N (by assumption) (by k_mem) (by assumption) | exact dictOf_B (by assumption) (by assumption) (by assumption)) (by assumption) ?_) | ((with_reducible show wpAny _ _ (setItem (Value.ref _) (Value.int _ _) _) _ _ _); refine dset_N (by k_asm) (by k_asm) (by k_updF) (by assumption) (by first | assumption | exact leK (by assumption) (by exact rfl) | omega) ?_; intro hZq odZq FZq NZq hodZq; (try dsimp only at NZq); (try k_sweep)) | ((with_reducible show wpAny _ _ (call (Value.builtin "list.append") [Value.ref _, _]) _ _ _); k_dflt (refine append_K (by k_asm) (by k_asm) (by k_upd) ?_ (by simp only [sizeLine_eq]; first | exact leK (by assumption) (by exact rfl) | omega)); intro hZq FZq NZq; (try k_sweep)) | walk1 | (dsimp only; first | ((with_reducible show wpAny _ _ (call (Value.builtin "len") [Value.ref _]) _ _ _); refine len_N (by assumption) (by k_mem) (by first | exact leK (by assumption) (by exact rfl) | omega) ?_) | ((with_reducible show wpAny _ _ (subscriptTail _ _ (Value.ref _) (Value.int (-1) _)) _ _ _); refine last_N (by assumption) (by k_mem) (by assumption) ?_) | ((with_reducible show wpAny _ _ (compareOp CmpOp.In (Value.int _ _) (Value.ref _)) _ _ _); (refine sin_N (by assumption) (by k_mem) (by assumption) (by assumption) (by assumption) ?_)) | ((with_reducible show wpAny _ _ (delItem (Value.ref _) (Value.int _ _)) _ _ _); refine ddel_N (by k_asm) (by k_asm) (by k_updF) (by assumption) (by first | assumption | exact leK (by assumption) (by exact rfl) | omega) (by assumption) ?_; intro hZq odZq FZq NZq hodZq; (try dsimp only at NZq); (try k_sweep)) | ((with_reducible show wpAny _ _ (call (Value.builtin "list.pop") [Value.ref _]) _ _ _); refine pop_N (by k_asm) (by k_asm) (by k_updF) (by assumption) (by first | assumption | exact leK (by assumption) (by exact rfl) | omega) ?_; intro hZq FZq NZq; (try dsimp only at NZq); (try k_sweep)) | ((with_reducible show wpAny _ _ (getAttr (Value.ref _) (Str.ofString "__next__") _) _ _ _); refine nextattr_N (by assumption) (by assumption) (by k_mem) ?_; intro JZq hZq tkZq FZq NZq l2Zq; (try k_lt l2Zq); (try (have e4Zq := Nat.ne_of_gt l2Zq.2.2.2.2.2.1; have e5Zq := Nat.ne_of_gt l2Zq.2.2.2.2.2.2.2.1; have e6Zq := Nat.ne_of_gt l2Zq.2.2.2.2.2.2.2.2.1)); (try k_sweep)) | ((with_reducible show wpAny _ _ (call (Value.builtin "iter") [Value.ref _]) _ _ _); refine iter_N (by assumption) (by assumption) (by k_mem) ?_; intro IZq hZq FZq NZq l1Zq; (try k_lt l1Zq); (try (have e1Zq := Nat.ne_of_gt l1Zq.2.2.2.2.1; have e2Zq := Nat.ne_of_gt l1Zq.2.2.2.2.2.2.1; have e3Zq := Nat.ne_of_gt l1Zq.2.2.2.2.2.2.2.1)); (try k_sweep)) | ((with_reducible show wpAny _ _ (compareOp CmpOp.In (Value.int _ _) (Value.ref _)) _ _ _); (refine din_N (by assumption) (by k_mem) (by assumption) (by assumption) (by assumption) ?_)) | ((with_reducible show wpAny _ _ (subscriptTail _ _ (Value.ref _) (Value.int _ _)) _ _ _); refine ditem_tail (by first | exact dictOf_N (by assumption) (by k_mem) (by assumption) | exact dictOf_B (by assumption) (by assumption) (by assumption)) (by assumption) ?_) | ((with_reducible show wpAny _ _ (setItem (Value.ref _) (Value.int _ _) _) _ _ _); refine dset_N (by k_asm) (by k_asm) (by k_updF) (by assumption) (by first | assumption | exact leK (by assumption) (by exact rfl) | omega) ?_; intro hZq odZq FZq NZq hodZq; (try dsimp only at NZq); (try k_sweep)) | ((with_reducible show wpAny _ _ (call (Value.builtin "list.append") [Value.ref _, _]) _ _ _); k_dflt (refine append_K (by k_asm) (by k_asm) (by k_upd) ?_ (by simp only [sizeLine_eq]; first | exact leK (by assumption) (by exact rfl) | omega)); intro hZq FZq NZq; (try k_sweep)) | walk1))
  refine h₄ _ _ ?_
  clear h₄
  rename_i sa _ lsa _ _ ia _ lia _ _ se _ led hos0 _ lse _ _ na _ on0 hna _ _ hon0 _ lna _ F₂ N₂
  obtain ⟨σ₀, hσ₀⟩ := upS_self ((L, oL) :: fl) (by
    rw [List.map_cons, List.nodup_cons]
    refine ⟨fun hm => ?_, hfn⟩
    focus (refine hid fun hGo => ?_; obtain ⟨p, hp, e⟩ := List.mem_map.mp hm; all_goals (refine hGo ?_; clear hGo))
    exact l8 p (List.mem_append_right _ hp) e)
  have o1 : @LT.lt Nat _ x sa := lsa.2.1
  have o2 : @LT.lt Nat _ dx sa := lsa.2.2.1
  have o3 : @LT.lt Nat _ d sa := lsa.2.2.2.1
  have o4 : @LT.lt Nat _ sa ia := lia.1
  have o5 : @LT.lt Nat _ ia se := lse.1
  have o6 : @LT.lt Nat _ se na := lna.1
  have o7 : @LT.lt Nat _ sa se := Nat.lt_trans o4 o5
  have o8 : @LT.lt Nat _ sa na := Nat.lt_trans o7 o6
  have o9 : @LT.lt Nat _ ia na := Nat.lt_trans o5 o6
  have v0 : NeH x ia := Nat.ne_of_lt (Nat.lt_trans o1 o4)
  have v1 : NeH x se := Nat.ne_of_lt (Nat.lt_trans o1 o7)
  have v2 : NeH x na := Nat.ne_of_lt (Nat.lt_trans o1 o8)
  have v3 : NeH dx ia := Nat.ne_of_lt (Nat.lt_trans o2 o4)
  have v4 : NeH dx se := Nat.ne_of_lt (Nat.lt_trans o2 o7)
  have v5 : NeH dx na := Nat.ne_of_lt (Nat.lt_trans o2 o8)
  have v6 : NeH d ia := Nat.ne_of_lt (Nat.lt_trans o3 o4)
  have v7 : NeH d se := Nat.ne_of_lt (Nat.lt_trans o3 o7)
  have v8 : NeH d na := Nat.ne_of_lt (Nat.lt_trans o3 o8)
  have hlt : ∀ p ∈ tl ++ (L, oL) :: fl, @LT.lt Nat _ p.1 sa := by
    intro p hp
    focus (refine hid fun hGo => ?_; rcases List.mem_append.mp hp with hp | hp; all_goals (refine hGo ?_; clear hGo))
    · exact allLt_mem lsa.2.2.2.2 p (List.mem_append_left _ hp)
    · focus (refine hid fun hGo => ?_; rcases List.mem_cons.mp hp with rfl | hp; all_goals (refine hGo ?_; clear hGo))
      · exact lsa.1
      · exact allLt_mem lsa.2.2.2.2 p (List.mem_append_right _ hp)
  clear lsa lia lse lna
  have N₃ := News.sub (l' := (na, on0) :: (se, _) :: (ia, W.listOf #[] 0) :: (sa, W.listOf #[] 0) :: (cy3 w t1 t2 t3 t4 x dx d od rn po nf ++ (skLed [] ++ (tl ++ upS σ₀ ((L, oL) :: fl))))) N₂ (by
    rw [hσ₀]
    exact cyp1)
  clear N₂
  refine for_keys (kvs := nodesKvs ns) hBh hlo hod (by simp [cy3]) F₂ N₃ (CyJ w L x dx d oL od t1 t2 t3 t4 rn po nf tl fl ns rk sa ia se na) ?_ ?_ ?_ ?_ ?_
  · focus (rintro I i m₁ news₁ hP0; refine hid fun hGo => ?_; rcases hP0 with ⟨_, seen, u, ⟨sv, sn, iv, inn, os, on, kvs, σ, C, rfl⟩, rfl⟩; all_goals (refine hGo ?_; clear hGo))
    simp
  · focus (rintro I i m₁ news₁ hP0; refine hid fun hGo => ?_; rcases hP0 with ⟨hI, seen, u, ⟨sv, sn, iv, inn, os, on, kvs, σ, C, rfl⟩, rfl⟩; all_goals (refine hGo ?_; clear hGo))
    refine fmc (Nat.ne_of_lt hI) (fmc (Nat.ne_of_lt (Nat.lt_trans o6 hI)) (fmc (Nat.ne_of_lt (Nat.lt_trans o5 (Nat.lt_trans o6 hI))) (fmc (Nat.ne_of_lt (Nat.lt_trans o4 (Nat.lt_trans o5 (Nat.lt_trans o6 hI)))) (fmc (Nat.ne_of_lt (Nat.lt_trans o1 (Nat.lt_trans o8 hI))) (fmc (Nat.ne_of_lt (Nat.lt_trans o2 (Nat.lt_trans o8 hI))) (fmc (Nat.ne_of_lt (Nat.lt_trans o3 (Nat.lt_trans o8 hI))) ?_))))))
    intro p hp
    try simp only [List.nil_append, List.append] at hp
    exact off_ne (cy_off C.hfoot.2 hlt p hp) (Nat.le_of_lt (Nat.lt_trans o8 hI)) (Nat.le_refl _)
  · intro I hI _
    refine ⟨hI _ (.head _), [], none, ⟨#[], 0, #[], 0, _, on0, [], σ₀, ⟨rfl, rfl, hos0, hon0, rfl, ?_, .nil, ⟨.nil, ?_⟩, ⟨.nil, ?_⟩⟩, rfl⟩, ?_⟩
    · intro e he; cases he
    · intro e he; cases he
    · intro e he; cases he
    · exact mset rfl
  · focus (rintro I i c ct xv m₁ news₁ h tk oI _ _ hx hP0 F₅ N₆; refine hid fun hGo => ?_; rcases hP0 with ⟨hI, seen, u, ⟨sv, sn, iv, inn, os, on, kvs, σ, C, rfl⟩, rfl⟩; all_goals (refine hGo ?_; clear hGo))
    have hcn : c ∈ ns.map (·.k) := by
      have := List.mem_of_getElem? hx
      focus (refine hid fun hGo => ?_; obtain ⟨n, hn, e⟩ := List.mem_map.mp this; all_goals (refine hGo ?_; clear hGo))
      exact List.mem_map.mpr ⟨n, hn, congrArg Prod.fst e⟩
    simp only [cy3, List.cons_append, List.nil_append] at N₆
    have hos := C.hos
    have hsl : seen.length ≤ 1000 := by
      have h1 : seen.length ≤ (ns.map (·.k)).length := nodup_length_le C.hseen.1 C.hseen.2
      rw [List.length_map] at h1; exact Nat.le_trans h1 hnl
    have w1 : @LT.lt Nat _ sa I := Nat.lt_trans o8 hI
    have w2 : @LT.lt Nat _ ia I := Nat.lt_trans o9 hI
    have w3 : @LT.lt Nat _ se I := Nat.lt_trans o6 hI
    have ha : ∀ p, p < sa ∨ I < p → @Ne Nat p sa := fun p h => off_ne h (Nat.le_refl _) (Nat.le_of_lt w1)
    have hb2 : ∀ p, p < sa ∨ I < p → @Ne Nat p ia := fun p h => off_ne h (Nat.le_of_lt o4) (Nat.le_of_lt w2)
    have hb3 : ∀ p, p < sa ∨ I < p → @Ne Nat p se := fun p h => off_ne h (Nat.le_of_lt o7) (Nat.le_of_lt w3)
    have hb4 : ∀ p, p < sa ∨ I < p → @Ne Nat p na := fun p h => off_ne h (Nat.le_of_lt o8) (Nat.le_of_lt hI)
    refine opq ?_
    intro Q₄ h₄
    repeat' (first | ((with_reducible show wpAny _ _ (call (Value.builtin "len") [Value.ref _]) _ _ _); refine len_N (by assumption) (by k_mem) (by first | exact leK (by assumption) (by exact rfl) | omega) ?_) | ((with_reducible show wpAny _ _ (subscriptTail _ _ (Value.ref _) (Value.int (-1) _)) _ _ _); refine last_N (by assumption) (by k_mem) (by assumption) ?_) | ((with_reducible show wpAny _ _ (compareOp CmpOp.In (Value.int _ _) (Value.ref _)) _ _ _); (refine sin_N (by assumption) (by k_mem) (by assumption) (by assumption) (by assumption) ?_)) | ((with_reducible show wpAny _ _ (delItem (Value.ref _) (Value.int _ _)) _ _ _); refine ddel_N (by k_asm) (by k_asm) (by k_updF) (by assumption) (by first | assumption | exact leK (by assumption) (by exact rfl) | omega) (by assumption) ?_; intro hZq odZq FZq NZq hodZq; (try dsimp only at NZq); (try k_sweep)) | ((with_reducible show wpAny _ _ (call (Value.builtin "list.pop") [Value.ref _]) _ _ _); refine pop_N (by k_asm) (by k_asm) (by k_updF) (by assumption) (by first | assumption | exact leK (by assumption) (by exact rfl) | omega) ?_; intro hZq FZq NZq; (try dsimp only at NZq); (try k_sweep)) | ((with_reducible show wpAny _ _ (getAttr (Value.ref _) (Str.ofString "__next__") _) _ _ _); refine nextattr_N (by assumption) (by assumption) (by k_mem) ?_; intro JZq hZq tkZq FZq NZq l2Zq; (try k_lt l2Zq); (try (have e4Zq := Nat.ne_of_gt l2Zq.2.2.2.2.2.1; have e5Zq := Nat.ne_of_gt l2Zq.2.2.2.2.2.2.2.1; have e6Zq := Nat.ne_of_gt l2Zq.2.2.2.2.2.2.2.2.1)); (try k_sweep)) | ((with_reducible show wpAny _ _ (call (Value.builtin "iter") [Value.ref _]) _ _ _); refine iter_N (by assumption) (by assumption) (by k_mem) ?_; intro IZq hZq FZq NZq l1Zq; (try k_lt l1Zq); (try (have e1Zq := Nat.ne_of_gt l1Zq.2.2.2.2.1; have e2Zq := Nat.ne_of_gt l1Zq.2.2.2.2.2.2.1; have e3Zq := Nat.ne_of_gt l1Zq.2.2.2.2.2.2.2.1)); (try k_sweep)) | ((with_reducible show wpAny _ _ (compareOp CmpOp.In (Value.int _ _) (Value.ref _)) _ _ _); (refine din_N (by assumption) (by k_mem) (by assumption) (by assumption) (by assumption) ?_)) | ((with_reducible show wpAny _ _ (subscriptTail _ _ (Value.ref _) (Value.int _ _)) _ _ _); refine ditem_tail (by first | exact dictOf_N (by assumption) (by k_mem) (by assumption) | exact dictOf_B (by assumption) (by assumption) (by assumption)) (by assumption) ?_) | ((with_reducible show wpAny _ _ (setItem (Value.ref _) (Value.int _ _) _) _ _ _); refine dset_N (by k_asm) (by k_asm) (by k_updF) (by assumption) (by first | assumption | exact leK (by assumption) (by exact rfl) | omega) ?_; intro hZq odZq FZq NZq hodZq; (try dsimp only at NZq); (try k_sweep)) | ((with_reducible show wpAny _ _ (call (Value.builtin "list.append") [Value.ref _, _]) _ _ _); k_dflt (refine append_K (by k_asm) (by k_asm) (by k_upd) ?_ (by simp only [sizeLine_eq]; first | exact leK (by assumption) (by exact rfl) | omega)); intro hZq FZq NZq; (try k_sweep)) | walk1 | (dsimp only; first | ((with_reducible show wpAny _ _ (call (Value.builtin "len") [Value.ref _]) _ _ _); refine len_N (by assumption) (by k_mem) (by first | exact leK (by assumption) (by exact rfl) | omega) ?_) | ((with_reducible show wpAny _ _ (subscriptTail _ _ (Value.ref _) (Value.int (-1) _)) _ _ _); refine last_N (by assumption) (by k_mem) (by assumption) ?_) | ((with_reducible show wpAny _ _ (compareOp CmpOp.In (Value.int _ _) (Value.ref _)) _ _ _); (refine sin_N (by assumption) (by k_mem) (by assumption) (by assumption) (by assumption) ?_)) | ((with_reducible show wpAny _ _ (delItem (Value.ref _) (Value.int _ _)) _ _ _); refine ddel_N (by k_asm) (by k_asm) (by k_updF) (by assumption) (by first | assumption | exact leK (by assumption) (by exact rfl) | omega) (by assumption) ?_; intro hZq odZq FZq NZq hodZq; (try dsimp only at NZq); (try k_sweep)) | ((with_reducible show wpAny _ _ (call (Value.builtin "list.pop") [Value.ref _]) _ _ _); refine pop_N (by k_asm) (by k_asm) (by k_updF) (by assumption) (by first | assumption | exact leK (by assumption) (by exact rfl) | omega) ?_; intro hZq FZq NZq; (try dsimp only at NZq); (try k_sweep)) | ((with_reducible show wpAny _ _ (getAttr (Value.ref _) (Str.ofString "__next__") _) _ _ _); refine nextattr_N (by assumption) (by assumption) (by k_mem) ?_; intro JZq hZq tkZq FZq NZq l2Zq; (try k_lt l2Zq); (try (have e4Zq := Nat.ne_of_gt l2Zq.2.2.2.2.2.1; have e5Zq := Nat.ne_of_gt l2Zq.2.2.2.2.2.2.2.1; have e6Zq := Nat.ne_of_gt l2Zq.2.2.2.2.2.2.2.2.1)); (try k_sweep)) | ((with_reducible show wpAny _ _ (call (Value.builtin "iter") [Value.ref _]) _ _ _); refine iter_N (by assumption) (by assumption) (by k_mem) ?_; intro IZq hZq FZq NZq l1Zq; (try k_lt l1Zq); (try (have e1Zq := Nat.ne_of_gt l1Zq.2.2.2.2.1; have e2Zq := Nat.ne_of_gt l1Zq.2.2.2.2.2.2.1; have e3Zq := Nat.ne_of_gt l1Zq.2.2.2.2.2.2.2.1)); (try k_sweep)) | ((with_reducible show wpAny _ _ (compareOp CmpOp.In (Value.int _ _) (Value.ref _)) _ _ _); (refine din_N (by assumption) (by k_mem) (by assumption) (by assumption) (by assumption) ?_)) | ((with_reducible show wpAny _ _ (subscriptTail _ _ (Value.ref _) (Value.int _ _)) _ _ _); refine ditem_tail (by first | exact dictOf_N (by assumption) (by k_mem) (by assumption) | exact dictOf_B (by assumption) (by assumption) (by assumption)) (by assumption) ?_) | ((with_reducible show wpAny _ _ (setItem (Value.ref _) (Value.int _ _) _) _ _ _); refine dset_N (by k_asm) (by k_asm) (by k_updF) (by assumption) (by first | assumption | exact leK (by assumption) (by exact rfl) | omega) ?_; intro hZq odZq FZq NZq hodZq; (try dsimp only at NZq); (try k_sweep)) | ((with_reducible show wpAny _ _ (call (Value.builtin "list.append") [Value.ref _, _]) _ _ _); k_dflt (refine append_K (by k_asm) (by k_asm) (by k_upd) ?_ (by simp only [sizeLine_eq]; first | exact leK (by assumption) (by exact rfl) | omega)); intro hZq FZq NZq; (try k_sweep)) | walk1))
    refine h₄ _ _ ?_
    clear h₄
    refine execs_seq ?_
    intro Q₂ hn₂ hr₂ hb₂ hc₂
    rename Fr _ _ _ _ => F₆
    rename News _ _ _ _ => N₇
    by_cases hcs : c ∈ seen
    · have hcd : decide (c ∈ seen) = true := by simpa using hcs
      repeat' (first | ((with_reducible show wpAny _ _ (call (Value.builtin "len") [Value.ref _]) _ _ _); refine len_N (by assumption) (by k_mem) (by first | exact leK (by assumption) (by exact rfl) | omega) ?_) | ((with_reducible show wpAny _ _ (subscriptTail _ _ (Value.ref _) (Value.int (-1) _)) _ _ _); refine last_N (by assumption) (by k_mem) (by assumption) ?_) | ((with_reducible show wpAny _ _ (compareOp CmpOp.In (Value.int _ _) (Value.ref _)) _ _ _); (refine sin_N (by assumption) (by k_mem) (by assumption) (by assumption) (by assumption) ?_)) | ((with_reducible show wpAny _ _ (delItem (Value.ref _) (Value.int _ _)) _ _ _); refine ddel_N (by k_asm) (by k_asm) (by k_updF) (by assumption) (by first | assumption | exact leK (by assumption) (by exact rfl) | omega) (by assumption) ?_; intro hZq odZq FZq NZq hodZq; (try dsimp only at NZq); (try k_sweep)) | ((with_reducible show wpAny _ _ (call (Value.builtin "list.pop") [Value.ref _]) _ _ _); refine pop_N (by k_asm) (by k_asm) (by k_updF) (by assumption) (by first | assumption | exact leK (by assumption) (by exact rfl) | omega) ?_; intro hZq FZq NZq; (try dsimp only at NZq); (try k_sweep)) | ((with_reducible show wpAny _ _ (getAttr (Value.ref _) (Str.ofString "__next__") _) _ _ _); refine nextattr_N (by assumption) (by assumption) (by k_mem) ?_; intro JZq hZq tkZq FZq NZq l2Zq; (try k_lt l2Zq); (try (have e4Zq := Nat.ne_of_gt l2Zq.2.2.2.2.2.1; have e5Zq := Nat.ne_of_gt l2Zq.2.2.2.2.2.2.2.1; have e6Zq := Nat.ne_of_gt l2Zq.2.2.2.2.2.2.2.2.1)); (try k_sweep)) | ((with_reducible show wpAny _ _ (call (Value.builtin "iter") [Value.ref _]) _ _ _); refine iter_N (by assumption) (by assumption) (by k_mem) ?_; intro IZq hZq FZq NZq l1Zq; (try k_lt l1Zq); (try (have e1Zq := Nat.ne_of_gt l1Zq.2.2.2.2.1; have e2Zq := Nat.ne_of_gt l1Zq.2.2.2.2.2.2.1; have e3Zq := Nat.ne_of_gt l1Zq.2.2.2.2.2.2.2.1)); (try k_sweep)) | ((with_reducible show wpAny _ _ (compareOp CmpOp.In (Value.int _ _) (Value.ref _)) _ _ _); (refine din_N (by assumption) (by k_mem) (by assumption) (by assumption) (by assumption) ?_)) | ((with_reducible show wpAny _ _ (subscriptTail _ _ (Value.ref _) (Value.int _ _)) _ _ _); refine ditem_tail (by first | exact dictOf_N (by assumption) (by k_mem) (by assumption) | exact dictOf_B (by assumption) (by assumption) (by assumption)) (by assumption) ?_) | ((with_reducible show wpAny _ _ (setItem (Value.ref _) (Value.int _ _) _) _ _ _); refine dset_N (by k_asm) (by k_asm) (by k_updF) (by assumption) (by first | assumption | exact leK (by assumption) (by exact rfl) | omega) ?_; intro hZq odZq FZq NZq hodZq; (try dsimp only at NZq); (try k_sweep)) | ((with_reducible show wpAny _ _ (call (Value.builtin "list.append") [Value.ref _, _]) _ _ _); k_dflt (refine append_K (by k_asm) (by k_asm) (by k_upd) ?_ (by simp only [sizeLine_eq]; first | exact leK (by assumption) (by exact rfl) | omega)); intro hZq FZq NZq; (try k_sweep)) | walk1 | (dsimp only; first | ((with_reducible show wpAny _ _ (call (Value.builtin "len") [Value.ref _]) _ _ _); refine len_N (by assumption) (by k_mem) (by first | exact leK (by assumption) (by exact rfl) | omega) ?_) | ((with_reducible show wpAny _ _ (subscriptTail _ _ (Value.ref _) (Value.int (-1) _)) _ _ _); refine last_N (by assumption) (by k_mem) (by assumption) ?_) | ((with_reducible show wpAny _ _ (compareOp CmpOp.In (Value.int _ _) (Value.ref _)) _ _ _); (refine sin_N (by assumption) (by k_mem) (by assumption) (by assumption) (by assumption) ?_)) | ((with_reducible show wpAny _ _ (delItem (Value.ref _) (Value.int _ _)) _ _ _); refine ddel_N (by k_asm) (by k_asm) (by k_updF) (by assumption) (by first | assumption | exact leK (by assumption) (by exact rfl) | omega) (by assumption) ?_; intro hZq odZq FZq NZq hodZq; (try dsimp only at NZq); (try k_sweep)) | ((with_reducible show wpAny _ _ (call (Value.builtin "list.pop") [Value.ref _]) _ _ _); refine pop_N (by k_asm) (by k_asm) (by k_updF) (by assumption) (by first | assumption | exact leK (by assumption) (by exact rfl) | omega) ?_; intro hZq FZq NZq; (try dsimp only at NZq); (try k_sweep)) | ((with_reducible show wpAny _ _ (getAttr (Value.ref _) (Str.ofString "__next__") _) _ _ _); refine nextattr_N (by assumption) (by assumption) (by k_mem) ?_; intro JZq hZq tkZq FZq NZq l2Zq; (try k_lt l2Zq); (try (have e4Zq := Nat.ne_of_gt l2Zq.2.2.2.2.2.1; have e5Zq := Nat.ne_of_gt l2Zq.2.2.2.2.2.2.2.1; have e6Zq := Nat.ne_of_gt l2Zq.2.2.2.2.2.2.2.2.1)); (try k_sweep)) | ((with_reducible show wpAny _ _ (call (Value.builtin "iter") [Value.ref _]) _ _ _); refine iter_N (by assumption) (by assumption) (by k_mem) ?_; intro IZq hZq FZq NZq l1Zq; (try k_lt l1Zq); (try (have e1Zq := Nat.ne_of_gt l1Zq.2.2.2.2.1; have e2Zq := Nat.ne_of_gt l1Zq.2.2.2.2.2.2.1; have e3Zq := Nat.ne_of_gt l1Zq.2.2.2.2.2.2.2.1)); (try k_sweep)) | ((with_reducible show wpAny _ _ (compareOp CmpOp.In (Value.int _ _) (Value.ref _)) _ _ _); (refine din_N (by assumption) (by k_mem) (by assumption) (by assumption) (by assumption) ?_)) | ((with_reducible show wpAny _ _ (subscriptTail _ _ (Value.ref _) (Value.int _ _)) _ _ _); refine ditem_tail (by first | exact dictOf_N (by assumption) (by k_mem) (by assumption) | exact dictOf_B (by assumption) (by assumption) (by assumption)) (by assumption) ?_) | ((with_reducible show wpAny _ _ (setItem (Value.ref _) (Value.int _ _) _) _ _ _); refine dset_N (by k_asm) (by k_asm) (by k_updF) (by assumption) (by first | assumption | exact leK (by assumption) (by exact rfl) | omega) ?_; intro hZq odZq FZq NZq hodZq; (try dsimp only at NZq); (try k_sweep)) | ((with_reducible show wpAny _ _ (call (Value.builtin "list.append") [Value.ref _, _]) _ _ _); k_dflt (refine append_K (by k_asm) (by k_asm) (by k_upd) ?_ (by simp only [sizeLine_eq]; first | exact leK (by assumption) (by exact rfl) | omega)); intro hZq FZq NZq; (try k_sweep)) | walk1))
      all_goals dsimp only at *
      refine hc₂ _ ?_
      rename News _ _ _ _ => N₈
      refine TurnEnd.goC (by assumption) N₈ ⟨hI, seen, some (.int c ct), ⟨sv, sn, iv, inn, os, on, kvs, σ, C, rfl⟩, by ((funext y; (repeat' split) <;> first | rfl | contradiction | (subst_vars; first | rfl | (exfalso; simp +decide at *; done) | (simp_all +decide; done))))⟩
    · have hcd : decide (c ∈ seen) = false := by simpa using hcs
      repeat' (first | ((with_reducible show wpAny _ _ (call (Value.builtin "len") [Value.ref _]) _ _ _); refine len_N (by assumption) (by k_mem) (by first | exact leK (by assumption) (by exact rfl) | omega) ?_) | ((with_reducible show wpAny _ _ (subscriptTail _ _ (Value.ref _) (Value.int (-1) _)) _ _ _); refine last_N (by assumption) (by k_mem) (by assumption) ?_) | ((with_reducible show wpAny _ _ (compareOp CmpOp.In (Value.int _ _) (Value.ref _)) _ _ _); (refine sin_N (by assumption) (by k_mem) (by assumption) (by assumption) (by assumption) ?_)) | ((with_reducible show wpAny _ _ (delItem (Value.ref _) (Value.int _ _)) _ _ _); refine ddel_N (by k_asm) (by k_asm) (by k_updF) (by assumption) (by first | assumption | exact leK (by assumption) (by exact rfl) | omega) (by assumption) ?_; intro hZq odZq FZq NZq hodZq; (try dsimp only at NZq); (try k_sweep)) | ((with_reducible show wpAny _ _ (call (Value.builtin "list.pop") [Value.ref _]) _ _ _); refine pop_N (by k_asm) (by k_asm) (by k_updF) (by assumption) (by first | assumption | exact leK (by assumption) (by exact rfl) | omega) ?_; intro hZq FZq NZq; (try dsimp only at NZq); (try k_sweep)) | ((with_reducible show wpAny _ _ (getAttr (Value.ref _) (Str.ofString "__next__") _) _ _ _); refine nextattr_N (by assumption) (by assumption) (by k_mem) ?_; intro JZq hZq tkZq FZq NZq l2Zq; (try k_lt l2Zq); (try (have e4Zq := Nat.ne_of_gt l2Zq.2.2.2.2.2.1; have e5Zq := Nat.ne_of_gt l2Zq.2.2.2.2.2.2.2.1; have e6Zq := Nat.ne_of_gt l2Zq.2.2.2.2.2.2.2.2.1)); (try k_sweep)) | ((with_reducible show wpAny _ _ (call (Value.builtin "iter") [Value.ref _]) _ _ _); refine iter_N (by assumption) (by assumption) (by k_mem) ?_; intro IZq hZq FZq NZq l1Zq; (try k_lt l1Zq); (try (have e1Zq := Nat.ne_of_gt l1Zq.2.2.2.2.1; have e2Zq := Nat.ne_of_gt l1Zq.2.2.2.2.2.2.1; have e3Zq := Nat.ne_of_gt l1Zq.2.2.2.2.2.2.2.1)); (try k_sweep)) | ((with_reducible show wpAny _ _ (compareOp CmpOp.In (Value.int _ _) (Value.ref _)) _ _ _); (refine din_N (by assumption) (by k_mem) (by assumption) (by assumption) (by assumption) ?_)) | ((with_reducible show wpAny _ _ (subscriptTail _ _ (Value.ref _) (Value.int _ _)) _ _ _); refine ditem_tail (by first | exact dictOf_N (by assumption) (by k_mem) (by assumption) | exact dictOf_B (by assumption) (by assumption) (by assumption)) (by assumption) ?_) | ((with_reducible show wpAny _ _ (setItem (Value.ref _) (Value.int _ _) _) _ _ _); refine dset_N (by k_asm) (by k_asm) (by k_updF) (by assumption) (by first | assumption | exact leK (by assumption) (by exact rfl) | omega) ?_; intro hZq odZq FZq NZq hodZq; (try dsimp only at NZq); (try k_sweep)) | ((with_reducible show wpAny _ _ (call (Value.builtin "list.append") [Value.ref _, _]) _ _ _); k_dflt (refine append_K (by k_asm) (by k_asm) (by k_upd) ?_ (by simp only [sizeLine_eq]; first | exact leK (by assumption) (by exact rfl) | omega)); intro hZq FZq NZq; (try k_sweep)) | walk1 | (dsimp only; first | ((with_reducible show wpAny _ _ (call (Value.builtin "len") [Value.ref _]) _ _ _); refine len_N (by assumption) (by k_mem) (by first | exact leK (by assumption) (by exact rfl) | omega) ?_) | ((with_reducible show wpAny _ _ (subscriptTail _ _ (Value.ref _) (Value.int (-1) _)) _ _ _); refine last_N (by assumption) (by k_mem) (by assumption) ?_) | ((with_reducible show wpAny _ _ (compareOp CmpOp.In (Value.int _ _) (Value.ref _)) _ _ _); (refine sin_N (by assumption) (by k_mem) (by assumption) (by assumption) (by assumption) ?_)) | ((with_reducible show wpAny _ _ (delItem (Value.ref _) (Value.int _ _)) _ _ _); refine ddel_N (by k_asm) (by k_asm) (by k_updF) (by assumption) (by first | assumption | exact leK (by assumption) (by exact rfl) | omega) (by assumption) ?_; intro hZq odZq FZq NZq hodZq; (try dsimp only at NZq); (try k_sweep)) | ((with_reducible show wpAny _ _ (call (Value.builtin "list.pop") [Value.ref _]) _ _ _); refine pop_N (by k_asm) (by k_asm) (by k_updF) (by assumption) (by first | assumption | exact leK (by assumption) (by exact rfl) | omega) ?_; intro hZq FZq NZq; (try dsimp only at NZq); (try k_sweep)) | ((with_reducible show wpAny _ _ (getAttr (Value.ref _) (Str.ofString "__next__") _) _ _ _); refine nextattr_N (by assumption) (by assumption) (by k_mem) ?_; intro JZq hZq tkZq FZq NZq l2Zq; (try k_lt l2Zq); (try (have e4Zq := Nat.ne_of_gt l2Zq.2.2.2.2.2.1; have e5Zq := Nat.ne_of_gt l2Zq.2.2.2.2.2.2.2.1; have e6Zq := Nat.ne_of_gt l2Zq.2.2.2.2.2.2.2.2.1)); (try k_sweep)) | ((with_reducible show wpAny _ _ (call (Value.builtin "iter") [Value.ref _]) _ _ _); refine iter_N (by assumption) (by assumption) (by k_mem) ?_; intro IZq hZq FZq NZq l1Zq; (try k_lt l1Zq); (try (have e1Zq := Nat.ne_of_gt l1Zq.2.2.2.2.1; have e2Zq := Nat.ne_of_gt l1Zq.2.2.2.2.2.2.1; have e3Zq := Nat.ne_of_gt l1Zq.2.2.2.2.2.2.2.1)); (try k_sweep)) | ((with_reducible show wpAny _ _ (compareOp CmpOp.In (Value.int _ _) (Value.ref _)) _ _ _); (refine din_N (by assumption) (by k_mem) (by assumption) (by assumption) (by assumption) ?_)) | ((with_reducible show wpAny _ _ (subscriptTail _ _ (Value.ref _) (Value.int _ _)) _ _ _); refine ditem_tail (by first | exact dictOf_N (by assumption) (by k_mem) (by assumption) | exact dictOf_B (by assumption) (by assumption) (by assumption)) (by assumption) ?_) | ((with_reducible show wpAny _ _ (setItem (Value.ref _) (Value.int _ _) _) _ _ _); refine dset_N (by k_asm) (by k_asm) (by k_updF) (by assumption) (by first | assumption | exact leK (by assumption) (by exact rfl) | omega) ?_; intro hZq odZq FZq NZq hodZq; (try dsimp only at NZq); (try k_sweep)) | ((with_reducible show wpAny _ _ (call (Value.builtin "list.append") [Value.ref _, _]) _ _ _); k_dflt (refine append_K (by k_asm) (by k_asm) (by k_upd) ?_ (by simp only [sizeLine_eq]; first | exact leK (by assumption) (by exact rfl) | omega)); intro hZq FZq NZq; (try k_sweep)) | walk1))
      all_goals dsimp only at *
      refine hn₂ _ ?_
      clear hn₂ hc₂ hb₂ hr₂
      refine execs_seq ?_
      intro Q₂ hn₂ hr₂ hb₂ hc₂
      refine wpAny_While ?_
      rename Fr _ _ _ _ => F₇
      rename News _ _ _ _ => Np
      refine while_rule (k := skW ns seen []) (CyK w L x dx d oL od t1 t2 t3 t4 rn po nf tl fl ns rk sa ia se na I oI) F₇ Np ?_ ?_
      · exact ⟨[], seen, c, ct, _, rfl, ⟨sv, sn, iv, inn, os, on, kvs, σ, C, rfl⟩, hcn, fun e he => (nomatch he), Nat.le_refl _, by ((funext y; (repeat' split) <;> first | rfl | contradiction | (subst_vars; first | rfl | (exfalso; simp +decide at *; done) | (simp_all +decide; done))))⟩
      · clear F₇ Np
        focus (rintro k m₁ news₁ h₉ tk₉ hP0 F₈ N₈; refine hid fun hGo => ?_; rcases hP0 with ⟨S, seen, c, ct, _, rfl, ⟨sv, sn, iv, inn, os, on, kvs, σ, C, rfl⟩, hcn, hcr, hk, rfl⟩; all_goals (refine hGo ?_; clear hGo))
        simp only [cy3, List.cons_append, List.nil_append] at N₈
        have hos := C.hos
        have hon := C.hon
        have hsl : seen.length ≤ 1000 := by
          have h1 : seen.length ≤ (ns.map (·.k)).length := nodup_length_le C.hseen.1 C.hseen.2
          rw [List.length_map] at h1; exact Nat.le_trans h1 hnl
        refine opq ?_
        intro Q₃ h₃
        repeat' (first | ((with_reducible show wpAny _ _ (call (Value.builtin "len") [Value.ref _]) _ _ _); refine len_N (by assumption) (by k_mem) (by first | exact leK (by assumption) (by exact rfl) | omega) ?_) | ((with_reducible show wpAny _ _ (subscriptTail _ _ (Value.ref _) (Value.int (-1) _)) _ _ _); refine last_N (by assumption) (by k_mem) (by assumption) ?_) | ((with_reducible show wpAny _ _ (compareOp CmpOp.In (Value.int _ _) (Value.ref _)) _ _ _); (refine sin_N (by assumption) (by k_mem) (by assumption) (by assumption) (by assumption) ?_)) | ((with_reducible show wpAny _ _ (delItem (Value.ref _) (Value.int _ _)) _ _ _); refine ddel_N (by k_asm) (by k_asm) (by k_updF) (by assumption) (by first | assumption | exact leK (by assumption) (by exact rfl) | omega) (by assumption) ?_; intro hZq odZq FZq NZq hodZq; (try dsimp only at NZq); (try k_sweep)) | ((with_reducible show wpAny _ _ (call (Value.builtin "list.pop") [Value.ref _]) _ _ _); refine pop_N (by k_asm) (by k_asm) (by k_updF) (by assumption) (by first | assumption | exact leK (by assumption) (by exact rfl) | omega) ?_; intro hZq FZq NZq; (try dsimp only at NZq); (try k_sweep)) | ((with_reducible show wpAny _ _ (getAttr (Value.ref _) (Str.ofString "__next__") _) _ _ _); refine nextattr_N (by assumption) (by assumption) (by k_mem) ?_; intro JZq hZq tkZq FZq NZq l2Zq; (try k_lt l2Zq); (try (have e4Zq := Nat.ne_of_gt l2Zq.2.2.2.2.2.1; have e5Zq := Nat.ne_of_gt l2Zq.2.2.2.2.2.2.2.1; have e6Zq := Nat.ne_of_gt l2Zq.2.2.2.2.2.2.2.2.1)); (try k_sweep)) | ((with_reducible show wpAny _ _ (call (Value.builtin "iter") [Value.ref _]) _ _ _); refine iter_N (by assumption) (by assumption) (by k_mem) ?_; intro IZq hZq FZq NZq l1Zq; (try k_lt l1Zq); (try (have e1Zq := Nat.ne_of_gt l1Zq.2.2.2.2.1; have e2Zq := Nat.ne_of_gt l1Zq.2.2.2.2.2.2.1; have e3Zq := Nat.ne_of_gt l1Zq.2.2.2.2.2.2.2.1)); (try k_sweep)) | ((with_reducible show wpAny _ _ (compareOp CmpOp.In (Value.int _ _) (Value.ref _)) _ _ _); (refine din_N (by assumption) (by k_mem) (by assumption) (by assumption) (by assumption) ?_)) | ((with_reducible show wpAny _ _ (subscriptTail _ _ (Value.ref _) (Value.int _ _)) _ _ _); refine ditem_tail (by first | exact dictOf_N (by assumption) (by k_mem) (by assumption) | exact dictOf_B (by assumption) (by assumption) (by assumption)) (by assumption) ?_) | ((with_reducible show wpAny _ _ (setItem (Value.ref _) (Value.int _ _) _) _ _ _); refine dset_N (by k_asm) (by k_asm) (by k_updF) (by assumption) (by first | assumption | exact leK (by assumption) (by exact rfl) | omega) ?_; intro hZq odZq FZq NZq hodZq; (try dsimp only at NZq); (try k_sweep)) | ((with_reducible show wpAny _ _ (call (Value.builtin "list.append") [Value.ref _, _]) _ _ _); k_dflt (refine append_K (by k_asm) (by k_asm) (by k_upd) ?_ (by simp only [sizeLine_eq]; first | exact leK (by assumption) (by exact rfl) | omega)); intro hZq FZq NZq; (try k_sweep)) | walk1 | (dsimp only; first | ((with_reducible show wpAny _ _ (call (Value.builtin "len") [Value.ref _]) _ _ _); refine len_N (by assumption) (by k_mem) (by first | exact leK (by assumption) (by exact rfl) | omega) ?_) | ((with_reducible show wpAny _ _ (subscriptTail _ _ (Value.ref _) (Value.int (-1) _)) _ _ _); refine last_N (by assumption) (by k_mem) (by assumption) ?_) | ((with_reducible show wpAny _ _ (compareOp CmpOp.In (Value.int _ _) (Value.ref _)) _ _ _); (refine sin_N (by assumption) (by k_mem) (by assumption) (by assumption) (by assumption) ?_)) | ((with_reducible show wpAny _ _ (delItem (Value.ref _) (Value.int _ _)) _ _ _); refine ddel_N (by k_asm) (by k_asm) (by k_updF) (by assumption) (by first | assumption | exact leK (by assumption) (by exact rfl) | omega) (by assumption) ?_; intro hZq odZq FZq NZq hodZq; (try dsimp only at NZq); (try k_sweep)) | ((with_reducible show wpAny _ _ (call (Value.builtin "list.pop") [Value.ref _]) _ _ _); refine pop_N (by k_asm) (by k_asm) (by k_updF) (by assumption) (by first | assumption | exact leK (by assumption) (by exact rfl) | omega) ?_; intro hZq FZq NZq; (try dsimp only at NZq); (try k_sweep)) | ((with_reducible show wpAny _ _ (getAttr (Value.ref _) (Str.ofString "__next__") _) _ _ _); refine nextattr_N (by assumption) (by assumption) (by k_mem) ?_; intro JZq hZq tkZq FZq NZq l2Zq; (try k_lt l2Zq); (try (have e4Zq := Nat.ne_of_gt l2Zq.2.2.2.2.2.1; have e5Zq := Nat.ne_of_gt l2Zq.2.2.2.2.2.2.2.1; have e6Zq := Nat.ne_of_gt l2Zq.2.2.2.2.2.2.2.2.1)); (try k_sweep)) | ((with_reducible show wpAny _ _ (call (Value.builtin "iter") [Value.ref _]) _ _ _); refine iter_N (by assumption) (by assumption) (by k_mem) ?_; intro IZq hZq FZq NZq l1Zq; (try k_lt l1Zq); (try (have e1Zq := Nat.ne_of_gt l1Zq.2.2.2.2.1; have e2Zq := Nat.ne_of_gt l1Zq.2.2.2.2.2.2.1; have e3Zq := Nat.ne_of_gt l1Zq.2.2.2.2.2.2.2.1)); (try k_sweep)) | ((with_reducible show wpAny _ _ (compareOp CmpOp.In (Value.int _ _) (Value.ref _)) _ _ _); (refine din_N (by assumption) (by k_mem) (by assumption) (by assumption) (by assumption) ?_)) | ((with_reducible show wpAny _ _ (subscriptTail _ _ (Value.ref _) (Value.int _ _)) _ _ _); refine ditem_tail (by first | exact dictOf_N (by assumption) (by k_mem) (by assumption) | exact dictOf_B (by assumption) (by assumption) (by assumption)) (by assumption) ?_) | ((with_reducible show wpAny _ _ (setItem (Value.ref _) (Value.int _ _) _) _ _ _); refine dset_N (by k_asm) (by k_asm) (by k_updF) (by assumption) (by first | assumption | exact leK (by assumption) (by exact rfl) | omega) ?_; intro hZq odZq FZq NZq hodZq; (try dsimp only at NZq); (try k_sweep)) | ((with_reducible show wpAny _ _ (call (Value.builtin "list.append") [Value.ref _, _]) _ _ _); k_dflt (refine append_K (by k_asm) (by k_asm) (by k_upd) ?_ (by simp only [sizeLine_eq]; first | exact leK (by assumption) (by exact rfl) | omega)); intro hZq FZq NZq; (try k_sweep)) | walk1))
        refine h₃ _ _ ?_
        clear h₃
        simp only [if_true]
        refine execs_seq ?_
        intro Q₃ hn₃ hr₃ hb₃ hc₃
        have join : ∀ S' seen' c' ct' news' h' tk', CyN w ns rk sa ia se na (cy3 w t1 t2 t3 t4 x dx d od rn po nf) tl ((L, oL) :: fl) I S' seen' news' → skW ns seen' S' ≤ k → Fr hb L' h' (fun y => if y = Str.ofString "node" then some (.int c' ct') else if y = Str.ofString "node2stacki" then some (.ref na) else if y = Str.ofString "seen" then some (.ref se) else if y = Str.ofString "itstack" then some (.ref ia) else if y = Str.ofString "stack" then some (.ref sa) else if y = Str.ofString "n2i" then some (.ref d) else List.lookup y [(Str.ofString "self", Value.ref x)].reverse) → News hb L' h' ((I, oI) :: news') → Q₃ .next { s with heap := h', toks := tk' } := by
          intro S' seen' c' ct' news' h' tk' hC hk' F' N'
          refine hn₃ _ ?_
          clear hn₃ hr₃ hb₃ hc₃
          refine wpAny_execs_cons (wpAny_While ?_)
          refine while_rule (k := S'.length) (CyM w L x dx d oL od t1 t2 t3 t4 rn po nf tl fl ns rk sa ia se na I oI seen' k) F' N' ⟨S', c', ct', news', rfl, hC, rfl, hk', rfl⟩ ?_
          clear hC F' N' hk'
          focus (rintro j m₁ news₁ h₆ tk₆ hP0 F₉ N₉; refine hid fun hGo => ?_; rcases hP0 with ⟨S₂, c₂, ct₂, _, rfl, ⟨sv, sn, iv, inn, os, on, kvs, σ, C, rfl⟩, hj, hk₂, rfl⟩; all_goals (refine hGo ?_; clear hGo))
          focus (refine hid fun hGo => ?_; obtain ⟨_, hSl, hkl, hvl, hil⟩ := C.len hnl; all_goals (refine hGo ?_; clear hGo))
          simp only [cy3, List.cons_append, List.nil_append] at N₉
          have hoff := cy_off (σ := σ) C.hfoot.2 hlt
          have q1 : ∀ p ∈ skLed S₂ ++ (tl ++ upS σ ((L, oL) :: fl)), p.1 ≠ sa := fun p hp => ha _ (hoff p hp)
          have q2 : ∀ p ∈ skLed S₂ ++ (tl ++ upS σ ((L, oL) :: fl)), p.1 ≠ ia := fun p hp => hb2 _ (hoff p hp)
          have q4 : ∀ p ∈ skLed S₂ ++ (tl ++ upS σ ((L, oL) :: fl)), p.1 ≠ na := fun p hp => hb4 _ (hoff p hp)
          refine opq ?_
          intro Q₅ h₅
          focus (refine hid fun hGo => ?_; rcases snoc_cases S₂ with rfl | ⟨S₃, e, rfl⟩; all_goals (refine hGo ?_; clear hGo))
          · have hemp : sv.isEmpty = true := by have := congrArg List.length C.hsv; simp at this; simpa using this
            iterate 2 (first | ((with_reducible show wpAny _ _ (call (Value.builtin "len") [Value.ref _]) _ _ _); refine len_N (by assumption) (by k_mem) (by first | exact leK (by assumption) (by exact rfl) | omega) ?_) | ((with_reducible show wpAny _ _ (subscriptTail _ _ (Value.ref _) (Value.int (-1) _)) _ _ _); refine last_N (by assumption) (by k_mem) (by assumption) ?_) | ((with_reducible show wpAny _ _ (compareOp CmpOp.In (Value.int _ _) (Value.ref _)) _ _ _); (refine sin_N (by assumption) (by k_mem) (by assumption) (by assumption) (by assumption) ?_)) | ((with_reducible show wpAny _ _ (delItem (Value.ref _) (Value.int _ _)) _ _ _); refine ddel_N (by k_asm) (by k_asm) (by k_updF) (by assumption) (by first | assumption | exact leK (by assumption) (by exact rfl) | omega) (by assumption) ?_; intro hZq odZq FZq NZq hodZq; (try dsimp only at NZq); (try k_sweep)) | ((with_reducible show wpAny _ _ (call (Value.builtin "list.pop") [Value.ref _]) _ _ _); refine pop_N (by k_asm) (by k_asm) (by k_updF) (by assumption) (by first | assumption | exact leK (by assumption) (by exact rfl) | omega) ?_; intro hZq FZq NZq; (try dsimp only at NZq); (try k_sweep)) | ((with_reducible show wpAny _ _ (getAttr (Value.ref _) (Str.ofString "__next__") _) _ _ _); refine nextattr_N (by assumption) (by assumption) (by k_mem) ?_; intro JZq hZq tkZq FZq NZq l2Zq; (try k_lt l2Zq); (try (have e4Zq := Nat.ne_of_gt l2Zq.2.2.2.2.2.1; have e5Zq := Nat.ne_of_gt l2Zq.2.2.2.2.2.2.2.1; have e6Zq := Nat.ne_of_gt l2Zq.2.2.2.2.2.2.2.2.1)); (try k_sweep)) | ((with_reducible show wpAny _ _ (call (Value.builtin "iter") [Value.ref _]) _ _ _); refine iter_N (by assumption) (by assumption) (by k_mem) ?_; intro IZq hZq FZq NZq l1Zq; (try k_lt l1Zq); (try (have e1Zq := Nat.ne_of_gt l1Zq.2.2.2.2.1; have e2Zq := Nat.ne_of_gt l1Zq.2.2.2.2.2.2.1; have e3Zq := Nat.ne_of_gt l1Zq.2.2.2.2.2.2.2.1)); (try k_sweep)) | ((with_reducible show wpAny _ _ (compareOp CmpOp.In (Value.int _ _) (Value.ref _)) _ _ _); (refine din_N (by assumption) (by k_mem) (by assumption) (by assumption) (by assumption) ?_)) | ((with_reducible show wpAny _ _ (subscriptTail _ _ (Value.ref _) (Value.int _ _)) _ _ _); refine ditem_tail (by first | exact dictOf_N (by assumption) (by k_mem) (by assumption) | exact dictOf_B (by assumption) (by assumption) (by assumption)) (by assumption) ?_) | ((with_reducible show wpAny _ _ (setItem (Value.ref _) (Value.int _ _) _) _ _ _); refine dset_N (by k_asm) (by k_asm) (by k_updF) (by assumption) (by first | assumption | exact leK (by assumption) (by exact rfl) | omega) ?_; intro hZq odZq FZq NZq hodZq; (try dsimp only at NZq); (try k_sweep)) | ((with_reducible show wpAny _ _ (call (Value.builtin "list.append") [Value.ref _, _]) _ _ _); k_dflt (refine append_K (by k_asm) (by k_asm) (by k_upd) ?_ (by simp only [sizeLine_eq]; first | exact leK (by assumption) (by exact rfl) | omega)); intro hZq FZq NZq; (try k_sweep)) | walk1 | (dsimp only; first | ((with_reducible show wpAny _ _ (call (Value.builtin "len") [Value.ref _]) _ _ _); refine len_N (by assumption) (by k_mem) (by first | exact leK (by assumption) (by exact rfl) | omega) ?_) | ((with_reducible show wpAny _ _ (subscriptTail _ _ (Value.ref _) (Value.int (-1) _)) _ _ _); refine last_N (by assumption) (by k_mem) (by assumption) ?_) | ((with_reducible show wpAny _ _ (compareOp CmpOp.In (Value.int _ _) (Value.ref _)) _ _ _); (refine sin_N (by assumption) (by k_mem) (by assumption) (by assumption) (by assumption) ?_)) | ((with_reducible show wpAny _ _ (delItem (Value.ref _) (Value.int _ _)) _ _ _); refine ddel_N (by k_asm) (by k_asm) (by k_updF) (by assumption) (by first | assumption | exact leK (by assumption) (by exact rfl) | omega) (by assumption) ?_; intro hZq odZq FZq NZq hodZq; (try dsimp only at NZq); (try k_sweep)) | ((with_reducible show wpAny _ _ (call (Value.builtin "list.pop") [Value.ref _]) _ _ _); refine pop_N (by k_asm) (by k_asm) (by k_updF) (by assumption) (by first | assumption | exact leK (by assumption) (by exact rfl) | omega) ?_; intro hZq FZq NZq; (try dsimp only at NZq); (try k_sweep)) | ((with_reducible show wpAny _ _ (getAttr (Value.ref _) (Str.ofString "__next__") _) _ _ _); refine nextattr_N (by assumption) (by assumption) (by k_mem) ?_; intro JZq hZq tkZq FZq NZq l2Zq; (try k_lt l2Zq); (try (have e4Zq := Nat.ne_of_gt l2Zq.2.2.2.2.2.1; have e5Zq := Nat.ne_of_gt l2Zq.2.2.2.2.2.2.2.1; have e6Zq := Nat.ne_of_gt l2Zq.2.2.2.2.2.2.2.2.1)); (try k_sweep)) | ((with_reducible show wpAny _ _ (call (Value.builtin "iter") [Value.ref _]) _ _ _); refine iter_N (by assumption) (by assumption) (by k_mem) ?_; intro IZq hZq FZq NZq l1Zq; (try k_lt l1Zq); (try (have e1Zq := Nat.ne_of_gt l1Zq.2.2.2.2.1; have e2Zq := Nat.ne_of_gt l1Zq.2.2.2.2.2.2.1; have e3Zq := Nat.ne_of_gt l1Zq.2.2.2.2.2.2.2.1)); (try k_sweep)) | ((with_reducible show wpAny _ _ (compareOp CmpOp.In (Value.int _ _) (Value.ref _)) _ _ _); (refine din_N (by assumption) (by k_mem) (by assumption) (by assumption) (by assumption) ?_)) | ((with_reducible show wpAny _ _ (subscriptTail _ _ (Value.ref _) (Value.int _ _)) _ _ _); refine ditem_tail (by first | exact dictOf_N (by assumption) (by k_mem) (by assumption) | exact dictOf_B (by assumption) (by assumption) (by assumption)) (by assumption) ?_) | ((with_reducible show wpAny _ _ (setItem (Value.ref _) (Value.int _ _) _) _ _ _); refine dset_N (by k_asm) (by k_asm) (by k_updF) (by assumption) (by first | assumption | exact leK (by assumption) (by exact rfl) | omega) ?_; intro hZq odZq FZq NZq hodZq; (try dsimp only at NZq); (try k_sweep)) | ((with_reducible show wpAny _ _ (call (Value.builtin "list.append") [Value.ref _, _]) _ _ _); k_dflt (refine append_K (by k_asm) (by k_asm) (by k_upd) ?_ (by simp only [sizeLine_eq]; first | exact leK (by assumption) (by exact rfl) | omega)); intro hZq FZq NZq; (try k_sweep)) | walk1))
            refine truthy_N (b := false) N₉ (by k_mem) (leK hvl rfl) hemp ?_
            refine h₅ _ _ ?_
            clear h₅
            rw [if_neg (by decide)]
            repeat' (first | ((with_reducible show wpAny _ _ (call (Value.builtin "len") [Value.ref _]) _ _ _); refine len_N (by assumption) (by k_mem) (by first | exact leK (by assumption) (by exact rfl) | omega) ?_) | ((with_reducible show wpAny _ _ (subscriptTail _ _ (Value.ref _) (Value.int (-1) _)) _ _ _); refine last_N (by assumption) (by k_mem) (by assumption) ?_) | ((with_reducible show wpAny _ _ (compareOp CmpOp.In (Value.int _ _) (Value.ref _)) _ _ _); (refine sin_N (by assumption) (by k_mem) (by assumption) (by assumption) (by assumption) ?_)) | ((with_reducible show wpAny _ _ (delItem (Value.ref _) (Value.int _ _)) _ _ _); refine ddel_N (by k_asm) (by k_asm) (by k_updF) (by assumption) (by first | assumption | exact leK (by assumption) (by exact rfl) | omega) (by assumption) ?_; intro hZq odZq FZq NZq hodZq; (try dsimp only at NZq); (try k_sweep)) | ((with_reducible show wpAny _ _ (call (Value.builtin "list.pop") [Value.ref _]) _ _ _); refine pop_N (by k_asm) (by k_asm) (by k_updF) (by assumption) (by first | assumption | exact leK (by assumption) (by exact rfl) | omega) ?_; intro hZq FZq NZq; (try dsimp only at NZq); (try k_sweep)) | ((with_reducible show wpAny _ _ (getAttr (Value.ref _) (Str.ofString "__next__") _) _ _ _); refine nextattr_N (by assumption) (by assumption) (by k_mem) ?_; intro JZq hZq tkZq FZq NZq l2Zq; (try k_lt l2Zq); (try (have e4Zq := Nat.ne_of_gt l2Zq.2.2.2.2.2.1; have e5Zq := Nat.ne_of_gt l2Zq.2.2.2.2.2.2.2.1; have e6Zq := Nat.ne_of_gt l2Zq.2.2.2.2.2.2.2.2.1)); (try k_sweep)) | ((with_reducible show wpAny _ _ (call (Value.builtin "iter") [Value.ref _]) _ _ _); refine iter_N (by assumption) (by assumption) (by k_mem) ?_; intro IZq hZq FZq NZq l1Zq; (try k_lt l1Zq); (try (have e1Zq := Nat.ne_of_gt l1Zq.2.2.2.2.1; have e2Zq := Nat.ne_of_gt l1Zq.2.2.2.2.2.2.1; have e3Zq := Nat.ne_of_gt l1Zq.2.2.2.2.2.2.2.1)); (try k_sweep)) | ((with_reducible show wpAny _ _ (compareOp CmpOp.In (Value.int _ _) (Value.ref _)) _ _ _); (refine din_N (by assumption) (by k_mem) (by assumption) (by assumption) (by assumption) ?_)) | ((with_reducible show wpAny _ _ (subscriptTail _ _ (Value.ref _) (Value.int _ _)) _ _ _); refine ditem_tail (by first | exact dictOf_N (by assumption) (by k_mem) (by assumption) | exact dictOf_B (by assumption) (by assumption) (by assumption)) (by assumption) ?_) | ((with_reducible show wpAny _ _ (setItem (Value.ref _) (Value.int _ _) _) _ _ _); refine dset_N (by k_asm) (by k_asm) (by k_updF) (by assumption) (by first | assumption | exact leK (by assumption) (by exact rfl) | omega) ?_; intro hZq odZq FZq NZq hodZq; (try dsimp only at NZq); (try k_sweep)) | ((with_reducible show wpAny _ _ (call (Value.builtin "list.append") [Value.ref _, _]) _ _ _); k_dflt (refine append_K (by k_asm) (by k_asm) (by k_upd) ?_ (by simp only [sizeLine_eq]; first | exact leK (by assumption) (by exact rfl) | omega)); intro hZq FZq NZq; (try k_sweep)) | walk1 | (dsimp only; first | ((with_reducible show wpAny _ _ (call (Value.builtin "len") [Value.ref _]) _ _ _); refine len_N (by assumption) (by k_mem) (by first | exact leK (by assumption) (by exact rfl) | omega) ?_) | ((with_reducible show wpAny _ _ (subscriptTail _ _ (Value.ref _) (Value.int (-1) _)) _ _ _); refine last_N (by assumption) (by k_mem) (by assumption) ?_) | ((with_reducible show wpAny _ _ (compareOp CmpOp.In (Value.int _ _) (Value.ref _)) _ _ _); (refine sin_N (by assumption) (by k_mem) (by assumption) (by assumption) (by assumption) ?_)) | ((with_reducible show wpAny _ _ (delItem (Value.ref _) (Value.int _ _)) _ _ _); refine ddel_N (by k_asm) (by k_asm) (by k_updF) (by assumption) (by first | assumption | exact leK (by assumption) (by exact rfl) | omega) (by assumption) ?_; intro hZq odZq FZq NZq hodZq; (try dsimp only at NZq); (try k_sweep)) | ((with_reducible show wpAny _ _ (call (Value.builtin "list.pop") [Value.ref _]) _ _ _); refine pop_N (by k_asm) (by k_asm) (by k_updF) (by assumption) (by first | assumption | exact leK (by assumption) (by exact rfl) | omega) ?_; intro hZq FZq NZq; (try dsimp only at NZq); (try k_sweep)) | ((with_reducible show wpAny _ _ (getAttr (Value.ref _) (Str.ofString "__next__") _) _ _ _); refine nextattr_N (by assumption) (by assumption) (by k_mem) ?_; intro JZq hZq tkZq FZq NZq l2Zq; (try k_lt l2Zq); (try (have e4Zq := Nat.ne_of_gt l2Zq.2.2.2.2.2.1; have e5Zq := Nat.ne_of_gt l2Zq.2.2.2.2.2.2.2.1; have e6Zq := Nat.ne_of_gt l2Zq.2.2.2.2.2.2.2.2.1)); (try k_sweep)) | ((with_reducible show wpAny _ _ (call (Value.builtin "iter") [Value.ref _]) _ _ _); refine iter_N (by assumption) (by assumption) (by k_mem) ?_; intro IZq hZq FZq NZq l1Zq; (try k_lt l1Zq); (try (have e1Zq := Nat.ne_of_gt l1Zq.2.2.2.2.1; have e2Zq := Nat.ne_of_gt l1Zq.2.2.2.2.2.2.1; have e3Zq := Nat.ne_of_gt l1Zq.2.2.2.2.2.2.2.1)); (try k_sweep)) | ((with_reducible show wpAny _ _ (compareOp CmpOp.In (Value.int _ _) (Value.ref _)) _ _ _); (refine din_N (by assumption) (by k_mem) (by assumption) (by assumption) (by assumption) ?_)) | ((with_reducible show wpAny _ _ (subscriptTail _ _ (Value.ref _) (Value.int _ _)) _ _ _); refine ditem_tail (by first | exact dictOf_N (by assumption) (by k_mem) (by assumption) | exact dictOf_B (by assumption) (by assumption) (by assumption)) (by assumption) ?_) | ((with_reducible show wpAny _ _ (setItem (Value.ref _) (Value.int _ _) _) _ _ _); refine dset_N (by k_asm) (by k_asm) (by k_updF) (by assumption) (by first | assumption | exact leK (by assumption) (by exact rfl) | omega) ?_; intro hZq odZq FZq NZq hodZq; (try dsimp only at NZq); (try k_sweep)) | ((with_reducible show wpAny _ _ (call (Value.builtin "list.append") [Value.ref _, _]) _ _ _); k_dflt (refine append_K (by k_asm) (by k_asm) (by k_upd) ?_ (by simp only [sizeLine_eq]; first | exact leK (by assumption) (by exact rfl) | omega)); intro hZq FZq NZq; (try k_sweep)) | walk1))
            dsimp only [WEnd]
            refine hn₂ _ (wpAny_execs_nil ?_)
            rename Fr _ _ _ _ => F₁₀
            rename News _ _ _ _ => N₁₀
            exact TurnEnd.go F₁₀ N₁₀ ⟨hI, seen', some (.int c₂ ct₂), ⟨sv, sn, iv, inn, os, on, kvs, σ, C, rfl⟩, rfl⟩
          · have hemp : sv.isEmpty = false := by have := congrArg List.length C.hsv; simp at this; simp; intro h; simp [h] at this
            iterate 2 (first | ((with_reducible show wpAny _ _ (call (Value.builtin "len") [Value.ref _]) _ _ _); refine len_N (by assumption) (by k_mem) (by first | exact leK (by assumption) (by exact rfl) | omega) ?_) | ((with_reducible show wpAny _ _ (subscriptTail _ _ (Value.ref _) (Value.int (-1) _)) _ _ _); refine last_N (by assumption) (by k_mem) (by assumption) ?_) | ((with_reducible show wpAny _ _ (compareOp CmpOp.In (Value.int _ _) (Value.ref _)) _ _ _); (refine sin_N (by assumption) (by k_mem) (by assumption) (by assumption) (by assumption) ?_)) | ((with_reducible show wpAny _ _ (delItem (Value.ref _) (Value.int _ _)) _ _ _); refine ddel_N (by k_asm) (by k_asm) (by k_updF) (by assumption) (by first | assumption | exact leK (by assumption) (by exact rfl) | omega) (by assumption) ?_; intro hZq odZq FZq NZq hodZq; (try dsimp only at NZq); (try k_sweep)) | ((with_reducible show wpAny _ _ (call (Value.builtin "list.pop") [Value.ref _]) _ _ _); refine pop_N (by k_asm) (by k_asm) (by k_updF) (by assumption) (by first | assumption | exact leK (by assumption) (by exact rfl) | omega) ?_; intro hZq FZq NZq; (try dsimp only at NZq); (try k_sweep)) | ((with_reducible show wpAny _ _ (getAttr (Value.ref _) (Str.ofString "__next__") _) _ _ _); refine nextattr_N (by assumption) (by assumption) (by k_mem) ?_; intro JZq hZq tkZq FZq NZq l2Zq; (try k_lt l2Zq); (try (have e4Zq := Nat.ne_of_gt l2Zq.2.2.2.2.2.1; have e5Zq := Nat.ne_of_gt l2Zq.2.2.2.2.2.2.2.1; have e6Zq := Nat.ne_of_gt l2Zq.2.2.2.2.2.2.2.2.1)); (try k_sweep)) | ((with_reducible show wpAny _ _ (call (Value.builtin "iter") [Value.ref _]) _ _ _); refine iter_N (by assumption) (by assumption) (by k_mem) ?_; intro IZq hZq FZq NZq l1Zq; (try k_lt l1Zq); (try (have e1Zq := Nat.ne_of_gt l1Zq.2.2.2.2.1; have e2Zq := Nat.ne_of_gt l1Zq.2.2.2.2.2.2.1; have e3Zq := Nat.ne_of_gt l1Zq.2.2.2.2.2.2.2.1)); (try k_sweep)) | ((with_reducible show wpAny _ _ (compareOp CmpOp.In (Value.int _ _) (Value.ref _)) _ _ _); (refine din_N (by assumption) (by k_mem) (by assumption) (by assumption) (by assumption) ?_)) | ((with_reducible show wpAny _ _ (subscriptTail _ _ (Value.ref _) (Value.int _ _)) _ _ _); refine ditem_tail (by first | exact dictOf_N (by assumption) (by k_mem) (by assumption) | exact dictOf_B (by assumption) (by assumption) (by assumption)) (by assumption) ?_) | ((with_reducible show wpAny _ _ (setItem (Value.ref _) (Value.int _ _) _) _ _ _); refine dset_N (by k_asm) (by k_asm) (by k_updF) (by assumption) (by first | assumption | exact leK (by assumption) (by exact rfl) | omega) ?_; intro hZq odZq FZq NZq hodZq; (try dsimp only at NZq); (try k_sweep)) | ((with_reducible show wpAny _ _ (call (Value.builtin "list.append") [Value.ref _, _]) _ _ _); k_dflt (refine append_K (by k_asm) (by k_asm) (by k_upd) ?_ (by simp only [sizeLine_eq]; first | exact leK (by assumption) (by exact rfl) | omega)); intro hZq FZq NZq; (try k_sweep)) | walk1 | (dsimp only; first | ((with_reducible show wpAny _ _ (call (Value.builtin "len") [Value.ref _]) _ _ _); refine len_N (by assumption) (by k_mem) (by first | exact leK (by assumption) (by exact rfl) | omega) ?_) | ((with_reducible show wpAny _ _ (subscriptTail _ _ (Value.ref _) (Value.int (-1) _)) _ _ _); refine last_N (by assumption) (by k_mem) (by assumption) ?_) | ((with_reducible show wpAny _ _ (compareOp CmpOp.In (Value.int _ _) (Value.ref _)) _ _ _); (refine sin_N (by assumption) (by k_mem) (by assumption) (by assumption) (by assumption) ?_)) | ((with_reducible show wpAny _ _ (delItem (Value.ref _) (Value.int _ _)) _ _ _); refine ddel_N (by k_asm) (by k_asm) (by k_updF) (by assumption) (by first | assumption | exact leK (by assumption) (by exact rfl) | omega) (by assumption) ?_; intro hZq odZq FZq NZq hodZq; (try dsimp only at NZq); (try k_sweep)) | ((with_reducible show wpAny _ _ (call (Value.builtin "list.pop") [Value.ref _]) _ _ _); refine pop_N (by k_asm) (by k_asm) (by k_updF) (by assumption) (by first | assumption | exact leK (by assumption) (by exact rfl) | omega) ?_; intro hZq FZq NZq; (try dsimp only at NZq); (try k_sweep)) | ((with_reducible show wpAny _ _ (getAttr (Value.ref _) (Str.ofString "__next__") _) _ _ _); refine nextattr_N (by assumption) (by assumption) (by k_mem) ?_; intro JZq hZq tkZq FZq NZq l2Zq; (try k_lt l2Zq); (try (have e4Zq := Nat.ne_of_gt l2Zq.2.2.2.2.2.1; have e5Zq := Nat.ne_of_gt l2Zq.2.2.2.2.2.2.2.1; have e6Zq := Nat.ne_of_gt l2Zq.2.2.2.2.2.2.2.2.1)); (try k_sweep)) | ((with_reducible show wpAny _ _ (call (Value.builtin "iter") [Value.ref _]) _ _ _); refine iter_N (by assumption) (by assumption) (by k_mem) ?_; intro IZq hZq FZq NZq l1Zq; (try k_lt l1Zq); (try (have e1Zq := Nat.ne_of_gt l1Zq.2.2.2.2.1; have e2Zq := Nat.ne_of_gt l1Zq.2.2.2.2.2.2.1; have e3Zq := Nat.ne_of_gt l1Zq.2.2.2.2.2.2.2.1)); (try k_sweep)) | ((with_reducible show wpAny _ _ (compareOp CmpOp.In (Value.int _ _) (Value.ref _)) _ _ _); (refine din_N (by assumption) (by k_mem) (by assumption) (by assumption) (by assumption) ?_)) | ((with_reducible show wpAny _ _ (subscriptTail _ _ (Value.ref _) (Value.int _ _)) _ _ _); refine ditem_tail (by first | exact dictOf_N (by assumption) (by k_mem) (by assumption) | exact dictOf_B (by assumption) (by assumption) (by assumption)) (by assumption) ?_) | ((with_reducible show wpAny _ _ (setItem (Value.ref _) (Value.int _ _) _) _ _ _); refine dset_N (by k_asm) (by k_asm) (by k_updF) (by assumption) (by first | assumption | exact leK (by assumption) (by exact rfl) | omega) ?_; intro hZq odZq FZq NZq hodZq; (try dsimp only at NZq); (try k_sweep)) | ((with_reducible show wpAny _ _ (call (Value.builtin "list.append") [Value.ref _, _]) _ _ _); k_dflt (refine append_K (by k_asm) (by k_asm) (by k_upd) ?_ (by simp only [sizeLine_eq]; first | exact leK (by assumption) (by exact rfl) | omega)); intro hZq FZq NZq; (try k_sweep)) | walk1))
            refine truthy_N (b := true) N₉ (by k_mem) (leK hvl rfl) hemp ?_
            refine h₅ _ _ ?_
            clear h₅
            rw [if_pos rfl]
            refine wpAny_execs_cons (wpAny_Try_except ?_)
            have hlast : iv.toList = (S₃.map fun e => Value.ref e.mw) ++ [.ref e.mw] := by rw [C.hiv]; simp
            have hslast : sv.toList = (S₃.map fun e => Value.int e.k e.kt) ++ [.int e.k e.kt] := by rw [C.hsv]; simp
            refine opqE ?_
            intro Q₆ E₆ hQ₆ hE₆
            refine wpAny_execs_cons ?_
            refine opqE ?_
            intro Q₈ E₈ hQ₈ hE₈
            iterate 8 (first | ((with_reducible show wpAny _ _ (call (Value.builtin "len") [Value.ref _]) _ _ _); refine len_N (by assumption) (by k_mem) (by first | exact leK (by assumption) (by exact rfl) | omega) ?_) | ((with_reducible show wpAny _ _ (subscriptTail _ _ (Value.ref _) (Value.int (-1) _)) _ _ _); refine last_N (by assumption) (by k_mem) (by assumption) ?_) | ((with_reducible show wpAny _ _ (compareOp CmpOp.In (Value.int _ _) (Value.ref _)) _ _ _); (refine sin_N (by assumption) (by k_mem) (by assumption) (by assumption) (by assumption) ?_)) | ((with_reducible show wpAny _ _ (delItem (Value.ref _) (Value.int _ _)) _ _ _); refine ddel_N (by k_asm) (by k_asm) (by k_updF) (by assumption) (by first | assumption | exact leK (by assumption) (by exact rfl) | omega) (by assumption) ?_; intro hZq odZq FZq NZq hodZq; (try dsimp only at NZq); (try k_sweep)) | ((with_reducible show wpAny _ _ (call (Value.builtin "list.pop") [Value.ref _]) _ _ _); refine pop_N (by k_asm) (by k_asm) (by k_updF) (by assumption) (by first | assumption | exact leK (by assumption) (by exact rfl) | omega) ?_; intro hZq FZq NZq; (try dsimp only at NZq); (try k_sweep)) | ((with_reducible show wpAny _ _ (getAttr (Value.ref _) (Str.ofString "__next__") _) _ _ _); refine nextattr_N (by assumption) (by assumption) (by k_mem) ?_; intro JZq hZq tkZq FZq NZq l2Zq; (try k_lt l2Zq); (try (have e4Zq := Nat.ne_of_gt l2Zq.2.2.2.2.2.1; have e5Zq := Nat.ne_of_gt l2Zq.2.2.2.2.2.2.2.1; have e6Zq := Nat.ne_of_gt l2Zq.2.2.2.2.2.2.2.2.1)); (try k_sweep)) | ((with_reducible show wpAny _ _ (call (Value.builtin "iter") [Value.ref _]) _ _ _); refine iter_N (by assumption) (by assumption) (by k_mem) ?_; intro IZq hZq FZq NZq l1Zq; (try k_lt l1Zq); (try (have e1Zq := Nat.ne_of_gt l1Zq.2.2.2.2.1; have e2Zq := Nat.ne_of_gt l1Zq.2.2.2.2.2.2.1; have e3Zq := Nat.ne_of_gt l1Zq.2.2.2.2.2.2.2.1)); (try k_sweep)) | ((with_reducible show wpAny _ _ (compareOp CmpOp.In (Value.int _ _) (Value.ref _)) _ _ _); (refine din_N (by assumption) (by k_mem) (by assumption) (by assumption) (by assumption) ?_)) | ((with_reducible show wpAny _ _ (subscriptTail _ _ (Value.ref _) (Value.int _ _)) _ _ _); refine ditem_tail (by first | exact dictOf_N (by assumption) (by k_mem) (by assumption) | exact dictOf_B (by assumption) (by assumption) (by assumption)) (by assumption) ?_) | ((with_reducible show wpAny _ _ (setItem (Value.ref _) (Value.int _ _) _) _ _ _); refine dset_N (by k_asm) (by k_asm) (by k_updF) (by assumption) (by first | assumption | exact leK (by assumption) (by exact rfl) | omega) ?_; intro hZq odZq FZq NZq hodZq; (try dsimp only at NZq); (try k_sweep)) | ((with_reducible show wpAny _ _ (call (Value.builtin "list.append") [Value.ref _, _]) _ _ _); k_dflt (refine append_K (by k_asm) (by k_asm) (by k_upd) ?_ (by simp only [sizeLine_eq]; first | exact leK (by assumption) (by exact rfl) | omega)); intro hZq FZq NZq; (try k_sweep)) | walk1 | (dsimp only; first | ((with_reducible show wpAny _ _ (call (Value.builtin "len") [Value.ref _]) _ _ _); refine len_N (by assumption) (by k_mem) (by first | exact leK (by assumption) (by exact rfl) | omega) ?_) | ((with_reducible show wpAny _ _ (subscriptTail _ _ (Value.ref _) (Value.int (-1) _)) _ _ _); refine last_N (by assumption) (by k_mem) (by assumption) ?_) | ((with_reducible show wpAny _ _ (compareOp CmpOp.In (Value.int _ _) (Value.ref _)) _ _ _); (refine sin_N (by assumption) (by k_mem) (by assumption) (by assumption) (by assumption) ?_)) | ((with_reducible show wpAny _ _ (delItem (Value.ref _) (Value.int _ _)) _ _ _); refine ddel_N (by k_asm) (by k_asm) (by k_updF) (by assumption) (by first | assumption | exact leK (by assumption) (by exact rfl) | omega) (by assumption) ?_; intro hZq odZq FZq NZq hodZq; (try dsimp only at NZq); (try k_sweep)) | ((with_reducible show wpAny _ _ (call (Value.builtin "list.pop") [Value.ref _]) _ _ _); refine pop_N (by k_asm) (by k_asm) (by k_updF) (by assumption) (by first | assumption | exact leK (by assumption) (by exact rfl) | omega) ?_; intro hZq FZq NZq; (try dsimp only at NZq); (try k_sweep)) | ((with_reducible show wpAny _ _ (getAttr (Value.ref _) (Str.ofString "__next__") _) _ _ _); refine nextattr_N (by assumption) (by assumption) (by k_mem) ?_; intro JZq hZq tkZq FZq NZq l2Zq; (try k_lt l2Zq); (try (have e4Zq := Nat.ne_of_gt l2Zq.2.2.2.2.2.1; have e5Zq := Nat.ne_of_gt l2Zq.2.2.2.2.2.2.2.1; have e6Zq := Nat.ne_of_gt l2Zq.2.2.2.2.2.2.2.2.1)); (try k_sweep)) | ((with_reducible show wpAny _ _ (call (Value.builtin "iter") [Value.ref _]) _ _ _); refine iter_N (by assumption) (by assumption) (by k_mem) ?_; intro IZq hZq FZq NZq l1Zq; (try k_lt l1Zq); (try (have e1Zq := Nat.ne_of_gt l1Zq.2.2.2.2.1; have e2Zq := Nat.ne_of_gt l1Zq.2.2.2.2.2.2.1; have e3Zq := Nat.ne_of_gt l1Zq.2.2.2.2.2.2.2.1)); (try k_sweep)) | ((with_reducible show wpAny _ _ (compareOp CmpOp.In (Value.int _ _) (Value.ref _)) _ _ _); (refine din_N (by assumption) (by k_mem) (by assumption) (by assumption) (by assumption) ?_)) | ((with_reducible show wpAny _ _ (subscriptTail _ _ (Value.ref _) (Value.int _ _)) _ _ _); refine ditem_tail (by first | exact dictOf_N (by assumption) (by k_mem) (by assumption) | exact dictOf_B (by assumption) (by assumption) (by assumption)) (by assumption) ?_) | ((with_reducible show wpAny _ _ (setItem (Value.ref _) (Value.int _ _) _) _ _ _); refine dset_N (by k_asm) (by k_asm) (by k_updF) (by assumption) (by first | assumption | exact leK (by assumption) (by exact rfl) | omega) ?_; intro hZq odZq FZq NZq hodZq; (try dsimp only at NZq); (try k_sweep)) | ((with_reducible show wpAny _ _ (call (Value.builtin "list.append") [Value.ref _, _]) _ _ _); k_dflt (refine append_K (by k_asm) (by k_asm) (by k_upd) ?_ (by simp only [sizeLine_eq]; first | exact leK (by assumption) (by exact rfl) | omega)); intro hZq FZq NZq; (try k_sweep)) | walk1))
            dsimp only
            rename Fr _ _ _ _ => F₁₀
            rename News _ _ _ _ => N₁₀
            focus (refine hid fun hGo => ?_; obtain ⟨he1, he2, he3, he4⟩ := C.hS e (List.mem_append_right _ (.head _)); all_goals (refine hGo ?_; clear hGo))
            have hnn := hns e.n he1
            have m1 : (e.mw, mwObj e.it) ∈ (I, oI) :: (na, on) :: (se, os) :: (ia, W.listOf iv inn) :: (sa, W.listOf sv sn) :: (x, instObj 137 dx) :: (dx, soDict w t1 t2 t3 t4 d rn po nf) :: (d, od) :: (skLed (S₃ ++ [e]) ++ (tl ++ upS σ ((L, oL) :: fl))) := by
              rw [skLed_snoc]; simp
            have m2 : (e.it, itObj e.n.l e.i) ∈ (I, oI) :: (na, on) :: (se, os) :: (ia, W.listOf iv inn) :: (sa, W.listOf sv sn) :: (x, instObj 137 dx) :: (dx, soDict w t1 t2 t3 t4 d rn po nf) :: (d, od) :: (skLed (S₃ ++ [e]) ++ (tl ++ upS σ ((L, oL) :: fl))) := by
              rw [skLed_snoc]; simp
            have m3 : (e.n.l, W.listOf e.n.sv e.n.le) ∈ (I, oI) :: (na, on) :: (se, os) :: (ia, W.listOf iv inn) :: (sa, W.listOf sv sn) :: (x, instObj 137 dx) :: (dx, soDict w t1 t2 t3 t4 d rn po nf) :: (d, od) :: (skLed (S₃ ++ [e]) ++ (tl ++ upS σ ((L, oL) :: fl))) := by
              simp [hnn.2.2]
            have hitL : e.it ≠ L' ∧ hb.get? e.it = none := (N₁₀ _ m2).2
            have hfoot2 := C.hfoot
            rw [skFoot_append] at hfoot2
            have hfS : ∀ a ∈ skFoot S₃, @LT.lt Nat _ a e.it := fun a ha => (List.pairwise_append.mp hfoot2.1).2.2 a ha e.it (.head _)
            have hmi : @LT.lt Nat _ e.it e.mw := by
              have h1 := (List.pairwise_append.mp hfoot2.1).2.1
              cases h1 with
              | cons h2 _ => exact h2 _ (.head _)
            have hIi : @LT.lt Nat _ I e.it := hfoot2.2 _ (List.mem_append_right _ (.head _))
            have hsi : @LT.lt Nat _ sa e.it := Nat.lt_trans o4 (Nat.lt_trans o5 (Nat.lt_trans o6 (Nat.lt_trans hI hIi)))
            have hH8 : ∀ p ∈ [(I, oI), (na, on), (se, os), (ia, W.listOf iv inn), (sa, W.listOf sv sn), (x, instObj 137 dx), (dx, soDict w t1 t2 t3 t4 d rn po nf), (d, od)], @LT.lt Nat _ p.1 e.it := fmc hIi (fmc (Nat.lt_trans hI hIi) (fmc (Nat.lt_trans o6 (Nat.lt_trans hI hIi)) (fmc (Nat.lt_trans o5 (Nat.lt_trans o6 (Nat.lt_trans hI hIi))) (fmc hsi (fmc (Nat.lt_trans o1 hsi) (fmc (Nat.lt_trans o2 hsi) (fmc (Nat.lt_trans o3 hsi) (List.forall_mem_nil _))))))))
            have hr8 : ∀ p ∈ tl ++ upS σ ((L, oL) :: fl), @LT.lt Nat _ p.1 e.it := by
              intro p h
              have h5 : @LT.lt Nat _ p.1 sa := by
                focus (refine hid fun hGo => ?_; rcases List.mem_append.mp h with h | h; all_goals (refine hGo ?_; clear hGo))
                · exact hlt p (List.mem_append_left _ h)
                · focus (refine hid fun hGo => ?_; obtain ⟨q, hq, rfl⟩ := List.mem_map.mp h; all_goals (refine hGo ?_; clear hGo))
                  exact hlt q (List.mem_append_right _ hq)
              exact Nat.lt_trans h5 hsi
            by_cases hit : e.i < e.n.sv.size
            · obtain ⟨pv, tp, hx⟩ : ∃ p tp, e.n.sv[e.i]? = some (.int p tp) := by
                focus (refine hid fun hGo => ?_; obtain ⟨p, tp, h⟩ := (hok.valsOk e.n he1).1 e.n.sv[e.i] (by simp); all_goals (refine hGo ?_; clear hGo))
                exact ⟨p, tp, by rw [Array.getElem?_eq_getElem hit, h]⟩
              have hpv : pv ∈ intsOf e.n.sv := by
                unfold intsOf
                refine List.mem_map.mpr ⟨.int pv tp, ?_, rfl⟩
                exact List.mem_of_getElem? (by rw [Array.getElem?_toList]; exact hx)
              refine nextItem_N N₁₀ m1 m2 m3 hx ?_
              intro h₇ hit₇ hsb
              have F₁₁ := F₁₀.change hsb hitL.1 hitL.2
              have N₁₁ := News.stepIt (H := [(I, oI), (na, on), (se, os), (ia, W.listOf iv inn), (sa, W.listOf sv sn), (x, instObj 137 dx), (dx, soDict w t1 t2 t3 t4 d rn po nf), (d, od)]) N₁₀ hsb hit₇ hH8 hfS hmi hr8
              simp only [List.cons_append, List.nil_append] at N₁₁
              repeat' (first | ((with_reducible show wpAny _ _ (call (Value.builtin "len") [Value.ref _]) _ _ _); refine len_N (by assumption) (by k_mem) (by first | exact leK (by assumption) (by exact rfl) | omega) ?_) | ((with_reducible show wpAny _ _ (subscriptTail _ _ (Value.ref _) (Value.int (-1) _)) _ _ _); refine last_N (by assumption) (by k_mem) (by assumption) ?_) | ((with_reducible show wpAny _ _ (compareOp CmpOp.In (Value.int _ _) (Value.ref _)) _ _ _); (refine sin_N (by assumption) (by k_mem) (by assumption) (by assumption) (by assumption) ?_)) | ((with_reducible show wpAny _ _ (delItem (Value.ref _) (Value.int _ _)) _ _ _); refine ddel_N (by k_asm) (by k_asm) (by k_updF) (by assumption) (by first | assumption | exact leK (by assumption) (by exact rfl) | omega) (by assumption) ?_; intro hZq odZq FZq NZq hodZq; (try dsimp only at NZq); (try k_sweep)) | ((with_reducible show wpAny _ _ (call (Value.builtin "list.pop") [Value.ref _]) _ _ _); refine pop_N (by k_asm) (by k_asm) (by k_updF) (by assumption) (by first | assumption | exact leK (by assumption) (by exact rfl) | omega) ?_; intro hZq FZq NZq; (try dsimp only at NZq); (try k_sweep)) | ((with_reducible show wpAny _ _ (getAttr (Value.ref _) (Str.ofString "__next__") _) _ _ _); refine nextattr_N (by assumption) (by assumption) (by k_mem) ?_; intro JZq hZq tkZq FZq NZq l2Zq; (try k_lt l2Zq); (try (have e4Zq := Nat.ne_of_gt l2Zq.2.2.2.2.2.1; have e5Zq := Nat.ne_of_gt l2Zq.2.2.2.2.2.2.2.1; have e6Zq := Nat.ne_of_gt l2Zq.2.2.2.2.2.2.2.2.1)); (try k_sweep)) | ((with_reducible show wpAny _ _ (call (Value.builtin "iter") [Value.ref _]) _ _ _); refine iter_N (by assumption) (by assumption) (by k_mem) ?_; intro IZq hZq FZq NZq l1Zq; (try k_lt l1Zq); (try (have e1Zq := Nat.ne_of_gt l1Zq.2.2.2.2.1; have e2Zq := Nat.ne_of_gt l1Zq.2.2.2.2.2.2.1; have e3Zq := Nat.ne_of_gt l1Zq.2.2.2.2.2.2.2.1)); (try k_sweep)) | ((with_reducible show wpAny _ _ (compareOp CmpOp.In (Value.int _ _) (Value.ref _)) _ _ _); (refine din_N (by assumption) (by k_mem) (by assumption) (by assumption) (by assumption) ?_)) | ((with_reducible show wpAny _ _ (subscriptTail _ _ (Value.ref _) (Value.int _ _)) _ _ _); refine ditem_tail (by first | exact dictOf_N (by assumption) (by k_mem) (by assumption) | exact dictOf_B (by assumption) (by assumption) (by assumption)) (by assumption) ?_) | ((with_reducible show wpAny _ _ (setItem (Value.ref _) (Value.int _ _) _) _ _ _); refine dset_N (by k_asm) (by k_asm) (by k_updF) (by assumption) (by first | assumption | exact leK (by assumption) (by exact rfl) | omega) ?_; intro hZq odZq FZq NZq hodZq; (try dsimp only at NZq); (try k_sweep)) | ((with_reducible show wpAny _ _ (call (Value.builtin "list.append") [Value.ref _, _]) _ _ _); k_dflt (refine append_K (by k_asm) (by k_asm) (by k_upd) ?_ (by simp only [sizeLine_eq]; first | exact leK (by assumption) (by exact rfl) | omega)); intro hZq FZq NZq; (try k_sweep)) | walk1 | (dsimp only; first | ((with_reducible show wpAny _ _ (call (Value.builtin "len") [Value.ref _]) _ _ _); refine len_N (by assumption) (by k_mem) (by first | exact leK (by assumption) (by exact rfl) | omega) ?_) | ((with_reducible show wpAny _ _ (subscriptTail _ _ (Value.ref _) (Value.int (-1) _)) _ _ _); refine last_N (by assumption) (by k_mem) (by assumption) ?_) | ((with_reducible show wpAny _ _ (compareOp CmpOp.In (Value.int _ _) (Value.ref _)) _ _ _); (refine sin_N (by assumption) (by k_mem) (by assumption) (by assumption) (by assumption) ?_)) | ((with_reducible show wpAny _ _ (delItem (Value.ref _) (Value.int _ _)) _ _ _); refine ddel_N (by k_asm) (by k_asm) (by k_updF) (by assumption) (by first | assumption | exact leK (by assumption) (by exact rfl) | omega) (by assumption) ?_; intro hZq odZq FZq NZq hodZq; (try dsimp only at NZq); (try k_sweep)) | ((with_reducible show wpAny _ _ (call (Value.builtin "list.pop") [Value.ref _]) _ _ _); refine pop_N (by k_asm) (by k_asm) (by k_updF) (by assumption) (by first | assumption | exact leK (by assumption) (by exact rfl) | omega) ?_; intro hZq FZq NZq; (try dsimp only at NZq); (try k_sweep)) | ((with_reducible show wpAny _ _ (getAttr (Value.ref _) (Str.ofString "__next__") _) _ _ _); refine nextattr_N (by assumption) (by assumption) (by k_mem) ?_; intro JZq hZq tkZq FZq NZq l2Zq; (try k_lt l2Zq); (try (have e4Zq := Nat.ne_of_gt l2Zq.2.2.2.2.2.1; have e5Zq := Nat.ne_of_gt l2Zq.2.2.2.2.2.2.2.1; have e6Zq := Nat.ne_of_gt l2Zq.2.2.2.2.2.2.2.2.1)); (try k_sweep)) | ((with_reducible show wpAny _ _ (call (Value.builtin "iter") [Value.ref _]) _ _ _); refine iter_N (by assumption) (by assumption) (by k_mem) ?_; intro IZq hZq FZq NZq l1Zq; (try k_lt l1Zq); (try (have e1Zq := Nat.ne_of_gt l1Zq.2.2.2.2.1; have e2Zq := Nat.ne_of_gt l1Zq.2.2.2.2.2.2.1; have e3Zq := Nat.ne_of_gt l1Zq.2.2.2.2.2.2.2.1)); (try k_sweep)) | ((with_reducible show wpAny _ _ (compareOp CmpOp.In (Value.int _ _) (Value.ref _)) _ _ _); (refine din_N (by assumption) (by k_mem) (by assumption) (by assumption) (by assumption) ?_)) | ((with_reducible show wpAny _ _ (subscriptTail _ _ (Value.ref _) (Value.int _ _)) _ _ _); refine ditem_tail (by first | exact dictOf_N (by assumption) (by k_mem) (by assumption) | exact dictOf_B (by assumption) (by assumption) (by assumption)) (by assumption) ?_) | ((with_reducible show wpAny _ _ (setItem (Value.ref _) (Value.int _ _) _) _ _ _); refine dset_N (by k_asm) (by k_asm) (by k_updF) (by assumption) (by first | assumption | exact leK (by assumption) (by exact rfl) | omega) ?_; intro hZq odZq FZq NZq hodZq; (try dsimp only at NZq); (try k_sweep)) | ((with_reducible show wpAny _ _ (call (Value.builtin "list.append") [Value.ref _, _]) _ _ _); k_dflt (refine append_K (by k_asm) (by k_asm) (by k_upd) ?_ (by simp only [sizeLine_eq]; first | exact leK (by assumption) (by exact rfl) | omega)); intro hZq FZq NZq; (try k_sweep)) | walk1))
              refine hQ₈ _ _ ?_
              dsimp only
              clear hQ₈ hE₈ hE₆
              repeat' (first | ((with_reducible show wpAny _ _ (call (Value.builtin "len") [Value.ref _]) _ _ _); refine len_N (by assumption) (by k_mem) (by first | exact leK (by assumption) (by exact rfl) | omega) ?_) | ((with_reducible show wpAny _ _ (subscriptTail _ _ (Value.ref _) (Value.int (-1) _)) _ _ _); refine last_N (by assumption) (by k_mem) (by assumption) ?_) | ((with_reducible show wpAny _ _ (compareOp CmpOp.In (Value.int _ _) (Value.ref _)) _ _ _); (refine sin_N (by assumption) (by k_mem) (by assumption) (by assumption) (by assumption) ?_)) | ((with_reducible show wpAny _ _ (delItem (Value.ref _) (Value.int _ _)) _ _ _); refine ddel_N (by k_asm) (by k_asm) (by k_updF) (by assumption) (by first | assumption | exact leK (by assumption) (by exact rfl) | omega) (by assumption) ?_; intro hZq odZq FZq NZq hodZq; (try dsimp only at NZq); (try k_sweep)) | ((with_reducible show wpAny _ _ (call (Value.builtin "list.pop") [Value.ref _]) _ _ _); refine pop_N (by k_asm) (by k_asm) (by k_updF) (by assumption) (by first | assumption | exact leK (by assumption) (by exact rfl) | omega) ?_; intro hZq FZq NZq; (try dsimp only at NZq); (try k_sweep)) | ((with_reducible show wpAny _ _ (getAttr (Value.ref _) (Str.ofString "__next__") _) _ _ _); refine nextattr_N (by assumption) (by assumption) (by k_mem) ?_; intro JZq hZq tkZq FZq NZq l2Zq; (try k_lt l2Zq); (try (have e4Zq := Nat.ne_of_gt l2Zq.2.2.2.2.2.1; have e5Zq := Nat.ne_of_gt l2Zq.2.2.2.2.2.2.2.1; have e6Zq := Nat.ne_of_gt l2Zq.2.2.2.2.2.2.2.2.1)); (try k_sweep)) | ((with_reducible show wpAny _ _ (call (Value.builtin "iter") [Value.ref _]) _ _ _); refine iter_N (by assumption) (by assumption) (by k_mem) ?_; intro IZq hZq FZq NZq l1Zq; (try k_lt l1Zq); (try (have e1Zq := Nat.ne_of_gt l1Zq.2.2.2.2.1; have e2Zq := Nat.ne_of_gt l1Zq.2.2.2.2.2.2.1; have e3Zq := Nat.ne_of_gt l1Zq.2.2.2.2.2.2.2.1)); (try k_sweep)) | ((with_reducible show wpAny _ _ (compareOp CmpOp.In (Value.int _ _) (Value.ref _)) _ _ _); (refine din_N (by assumption) (by k_mem) (by assumption) (by assumption) (by assumption) ?_)) | ((with_reducible show wpAny _ _ (subscriptTail _ _ (Value.ref _) (Value.int _ _)) _ _ _); refine ditem_tail (by first | exact dictOf_N (by assumption) (by k_mem) (by assumption) | exact dictOf_B (by assumption) (by assumption) (by assumption)) (by assumption) ?_) | ((with_reducible show wpAny _ _ (setItem (Value.ref _) (Value.int _ _) _) _ _ _); refine dset_N (by k_asm) (by k_asm) (by k_updF) (by assumption) (by first | assumption | exact leK (by assumption) (by exact rfl) | omega) ?_; intro hZq odZq FZq NZq hodZq; (try dsimp only at NZq); (try k_sweep)) | ((with_reducible show wpAny _ _ (call (Value.builtin "list.append") [Value.ref _, _]) _ _ _); k_dflt (refine append_K (by k_asm) (by k_asm) (by k_upd) ?_ (by simp only [sizeLine_eq]; first | exact leK (by assumption) (by exact rfl) | omega)); intro hZq FZq NZq; (try k_sweep)) | walk1 | (dsimp only; first | ((with_reducible show wpAny _ _ (call (Value.builtin "len") [Value.ref _]) _ _ _); refine len_N (by assumption) (by k_mem) (by first | exact leK (by assumption) (by exact rfl) | omega) ?_) | ((with_reducible show wpAny _ _ (subscriptTail _ _ (Value.ref _) (Value.int (-1) _)) _ _ _); refine last_N (by assumption) (by k_mem) (by assumption) ?_) | ((with_reducible show wpAny _ _ (compareOp CmpOp.In (Value.int _ _) (Value.ref _)) _ _ _); (refine sin_N (by assumption) (by k_mem) (by assumption) (by assumption) (by assumption) ?_)) | ((with_reducible show wpAny _ _ (delItem (Value.ref _) (Value.int _ _)) _ _ _); refine ddel_N (by k_asm) (by k_asm) (by k_updF) (by assumption) (by first | assumption | exact leK (by assumption) (by exact rfl) | omega) (by assumption) ?_; intro hZq odZq FZq NZq hodZq; (try dsimp only at NZq); (try k_sweep)) | ((with_reducible show wpAny _ _ (call (Value.builtin "list.pop") [Value.ref _]) _ _ _); refine pop_N (by k_asm) (by k_asm) (by k_updF) (by assumption) (by first | assumption | exact leK (by assumption) (by exact rfl) | omega) ?_; intro hZq FZq NZq; (try dsimp only at NZq); (try k_sweep)) | ((with_reducible show wpAny _ _ (getAttr (Value.ref _) (Str.ofString "__next__") _) _ _ _); refine nextattr_N (by assumption) (by assumption) (by k_mem) ?_; intro JZq hZq tkZq FZq NZq l2Zq; (try k_lt l2Zq); (try (have e4Zq := Nat.ne_of_gt l2Zq.2.2.2.2.2.1; have e5Zq := Nat.ne_of_gt l2Zq.2.2.2.2.2.2.2.1; have e6Zq := Nat.ne_of_gt l2Zq.2.2.2.2.2.2.2.2.1)); (try k_sweep)) | ((with_reducible show wpAny _ _ (call (Value.builtin "iter") [Value.ref _]) _ _ _); refine iter_N (by assumption) (by assumption) (by k_mem) ?_; intro IZq hZq FZq NZq l1Zq; (try k_lt l1Zq); (try (have e1Zq := Nat.ne_of_gt l1Zq.2.2.2.2.1; have e2Zq := Nat.ne_of_gt l1Zq.2.2.2.2.2.2.1; have e3Zq := Nat.ne_of_gt l1Zq.2.2.2.2.2.2.2.1)); (try k_sweep)) | ((with_reducible show wpAny _ _ (compareOp CmpOp.In (Value.int _ _) (Value.ref _)) _ _ _); (refine din_N (by assumption) (by k_mem) (by assumption) (by assumption) (by assumption) ?_)) | ((with_reducible show wpAny _ _ (subscriptTail _ _ (Value.ref _) (Value.int _ _)) _ _ _); refine ditem_tail (by first | exact dictOf_N (by assumption) (by k_mem) (by assumption) | exact dictOf_B (by assumption) (by assumption) (by assumption)) (by assumption) ?_) | ((with_reducible show wpAny _ _ (setItem (Value.ref _) (Value.int _ _) _) _ _ _); refine dset_N (by k_asm) (by k_asm) (by k_updF) (by assumption) (by first | assumption | exact leK (by assumption) (by exact rfl) | omega) ?_; intro hZq odZq FZq NZq hodZq; (try dsimp only at NZq); (try k_sweep)) | ((with_reducible show wpAny _ _ (call (Value.builtin "list.append") [Value.ref _, _]) _ _ _); k_dflt (refine append_K (by k_asm) (by k_asm) (by k_upd) ?_ (by simp only [sizeLine_eq]; first | exact leK (by assumption) (by exact rfl) | omega)); intro hZq FZq NZq; (try k_sweep)) | walk1))
              refine hQ₆ _ _ ?_
              dsimp only [WEnd]
              refine wpAny_execs_nil ?_
              rename Fr _ _ _ _ => F₁₂
              rename News _ _ _ _ => N₁₂
              refine WEnd.go (k' := skW ns seen' (S₃ ++ [{ e with i := e.i + 1 }])) (Nat.lt_of_lt_of_le (skW_next hit) hk₂) F₁₂ N₁₂ ⟨S₃ ++ [{ e with i := e.i + 1 }], seen', pv, tp, _, rfl, ⟨sv, sn, iv, inn, os, on, kvs, σ, C.next hit, rfl⟩, (hrk e.n he1 pv hpv).1, ?_, Nat.le_refl _, ?_⟩
              · intro e' he'
                have h1 := (hrk e.n he1 pv hpv).2
                rw [he2] at h1
                focus (refine hid fun hGo => ?_; rcases List.mem_append.mp he' with he' | he'; all_goals (refine hGo ?_; clear hGo))
                · exact Nat.lt_trans ((List.pairwise_append.mp C.hinc).2.2 e' he' e (.head _)) h1
                · rw [List.mem_singleton.mp he']; exact h1
              · ((funext y; (repeat' split) <;> first | rfl | contradiction | (subst_vars; first | rfl | (exfalso; simp +decide at *; done) | (simp_all +decide; done))))
            · have hx : e.n.sv[e.i]? = none := Array.getElem?_eq_none (Nat.le_of_not_lt hit)
              refine nextEnd_N hBh N₁₀ m1 m2 m3 hx ?_
              intro h₇ ex et hex hsz hk₇
              refine hE₈ _ _ (hE₆ _ _ ?_)
              clear hE₈ hE₆ hQ₈ hQ₆
              have N₁₁ : News hb L' h₇ ([(I, oI), (na, on), (se, os), (ia, W.listOf iv inn), (sa, W.listOf sv sn), (x, instObj 137 dx), (dx, soDict w t1 t2 t3 t4 d rn po nf), (d, od)] ++ (skLed S₃ ++ tl) ++ upS σ ((L, oL) :: fl)) := News.dropIt (e := e) N₁₀ hk₇ hH8 hfS hr8
              have hexL : ∀ p ∈ [(I, oI), (na, on), (se, os), (ia, W.listOf iv inn), (sa, W.listOf sv sn), (x, instObj 137 dx), (dx, soDict w t1 t2 t3 t4 d rn po nf), (d, od)] ++ (skLed S₃ ++ tl) ++ upS σ ((L, oL) :: fl), p.1 ≠ ex := fun p hp => Nat.ne_of_lt (Nat.lt_of_lt_of_le (Heap.lt_size (N₁₀ p (drop_mem (e := e) p hp)).1) hsz)
              have F₁₁ : Fr hb L' h₇ _ := Fr.kpB F₁₀ hk₇ hitL.1 hitL.2
              have hLex : @Ne Nat L' ex := Nat.ne_of_lt (Nat.lt_of_lt_of_le F₁₀.ns.lt hsz)
              have hbex : hb.get? ex = none := by
                cases q : hb.get? ex with
                | none => rfl
                | some o => exact absurd (Nat.lt_of_lt_of_le (Heap.lt_size (F₁₀.keep _ _ q)) hsz) (Nat.lt_irrefl _)
              have hnof : ∀ f, (@Eq Nat f L' ∨ f = L ∨ f ∈ fl.map (·.1)) → hb.get? f = none ∧ (∃ o, h₇.get? f = some o) ∧ f ≠ ex := by
                intro f hf
                focus (refine hid fun hGo => ?_; rcases hf with rfl | hf; all_goals (refine hGo ?_; clear hGo))
                · focus (refine hid fun hGo => ?_; obtain ⟨o, ho, _⟩ := Fr.obj F₁₁; all_goals (refine hGo ?_; clear hGo))
                  refine ⟨?_, ⟨o, ho⟩, hLex⟩
                  cases q : hb.get? f with
                  | none => rfl
                  | some o => exact absurd (Nat.lt_of_lt_of_le (Heap.lt_size q) F₁₁.above) (Nat.lt_irrefl _)
                · have hf' : f ∈ ((L, oL) :: fl).map (·.1) := by
                    rw [List.map_cons]
                    focus (refine hid fun hGo => ?_; rcases hf with rfl | hf; all_goals (refine hGo ?_; clear hGo))
                    · exact .head _
                    · exact .tail _ hf
                  focus (refine hid fun hGo => ?_; obtain ⟨p, hp, rfl⟩ := upS_at (σ := σ) hf'; all_goals (refine hGo ?_; clear hGo))
                  have m := N₁₁ p (List.mem_append_right _ hp)
                  exact ⟨m.2.2, ⟨_, m.1⟩, hexL p (List.mem_append_right _ hp)⟩
              have hcore : ∀ fr, BA.frames = some fr → ∀ p ∈ [(I, oI), (na, on), (se, os), (ia, W.listOf iv inn), (sa, W.listOf sv sn), (x, instObj 137 dx), (dx, soDict w t1 t2 t3 t4 d rn po nf), (d, od)] ++ (skLed S₃ ++ tl), p.1 ∉ frAddrs fr := by
                intro fr hfr p hp hm
                have hnL := (N₁₁ p (List.mem_append_left _ hp)).2.1
                focus (refine hid fun hGo => ?_; rcases hfrs fr hfr _ hm with e1 | e1; all_goals (refine hGo ?_; clear hGo))
                · exact hnL e1
                · have hlow : @LT.lt Nat _ p.1 sa := by
                    focus (refine hid fun hGo => ?_; rcases e1 with e1 | e1; all_goals (refine hGo ?_; clear hGo))
                    · rw [e1]; exact hlt _ (List.mem_append_right _ (.head _))
                    · focus (refine hid fun hGo => ?_; obtain ⟨q, hq, e2⟩ := List.mem_map.mp e1; all_goals (refine hGo ?_; clear hGo))
                      rw [← e2]; exact hlt q (List.mem_append_right _ (.tail _ hq))
                  have hnx : ∀ y, @Eq Nat p.1 y → @Ne Nat y L → (∀ q ∈ fl, NeH q.1 y) → False := by
                    intro y ey h1 h2
                    focus (refine hid fun hGo => ?_; rcases e1 with e1 | e1; all_goals (refine hGo ?_; clear hGo))
                    · exact h1 (ey.symm.trans e1)
                    · focus (refine hid fun hGo => ?_; obtain ⟨q, hq, e2⟩ := List.mem_map.mp e1; all_goals (refine hGo ?_; clear hGo))
                      exact (h2 q hq).out (e2.trans ey)
                  exact fma (p := fun p : Addr × Obj => @LT.lt Nat _ p.1 sa → (∀ y, @Eq Nat p.1 y → @Ne Nat y L → (∀ q ∈ fl, NeH q.1 y) → False) → False)
                    (fmc (fun hlow _ => Nat.lt_irrefl _ (Nat.lt_trans (Nat.lt_trans hlow (Nat.lt_trans o4 (Nat.lt_trans o5 o6))) hI)) (fmc (fun hlow _ => Nat.lt_irrefl _ (Nat.lt_trans hlow (Nat.lt_trans o4 (Nat.lt_trans o5 o6)))) (fmc (fun hlow _ => Nat.lt_irrefl _ (Nat.lt_trans hlow (Nat.lt_trans o4 o5))) (fmc (fun hlow _ => Nat.lt_irrefl _ (Nat.lt_trans hlow o4)) (fmc (fun hlow _ => Nat.lt_irrefl _ hlow)
                      (fmc (fun _ z => z x rfl l6 fun q hq => (hfl q hq).1) (fmc (fun _ z => z dx rfl l5 fun q hq => (hfl q hq).2.1) (fmc (fun _ z => z d rfl l7 fun q hq => (hfl q hq).2.2.1) (List.forall_mem_nil _)))))))))
                    (fma (fun p h hlow _ => Nat.lt_irrefl _ (Nat.lt_trans (Nat.lt_trans hlow (Nat.lt_trans o4 (Nat.lt_trans o5 o6))) (Nat.lt_trans hI (hfoot2.2 p.1 (List.mem_append_left _ (by rw [skFoot_eq]; exact List.mem_map_of_mem h)))))) fun p h _ z => z p.1 rfl (l8 p (List.mem_append_left _ h)) fun q hq => (hfl q hq).2.2.2 p h) p hp hlow hnx
              refine caught_stop hBf rfl (hfrk _ hBf h₇ fun f hf => (hnof f hf).2.1) hex (fun hm => (hnof ex (hfrs _ hBf ex hm)).2.2 rfl) ?_ ?_
              · intro h₈ A' Q' E' hk₈ hq
                have F₁₂ := Fr.up F₁₁ hk₈ (fun f hf => (hnof f (hfrs _ hBf f hf)).1) hbex hLex
                repeat' (first | ((with_reducible show wpAny _ _ (call (Value.builtin "len") [Value.ref _]) _ _ _); refine len_N (by assumption) (by k_mem) (by first | exact leK (by assumption) (by exact rfl) | omega) ?_) | ((with_reducible show wpAny _ _ (subscriptTail _ _ (Value.ref _) (Value.int (-1) _)) _ _ _); refine last_N (by assumption) (by k_mem) (by assumption) ?_) | ((with_reducible show wpAny _ _ (compareOp CmpOp.In (Value.int _ _) (Value.ref _)) _ _ _); (refine sin_N (by assumption) (by k_mem) (by assumption) (by assumption) (by assumption) ?_)) | ((with_reducible show wpAny _ _ (delItem (Value.ref _) (Value.int _ _)) _ _ _); refine ddel_N (by k_asm) (by k_asm) (by k_updF) (by assumption) (by first | assumption | exact leK (by assumption) (by exact rfl) | omega) (by assumption) ?_; intro hZq odZq FZq NZq hodZq; (try dsimp only at NZq); (try k_sweep)) | ((with_reducible show wpAny _ _ (call (Value.builtin "list.pop") [Value.ref _]) _ _ _); refine pop_N (by k_asm) (by k_asm) (by k_updF) (by assumption) (by first | assumption | exact leK (by assumption) (by exact rfl) | omega) ?_; intro hZq FZq NZq; (try dsimp only at NZq); (try k_sweep)) | ((with_reducible show wpAny _ _ (getAttr (Value.ref _) (Str.ofString "__next__") _) _ _ _); refine nextattr_N (by assumption) (by assumption) (by k_mem) ?_; intro JZq hZq tkZq FZq NZq l2Zq; (try k_lt l2Zq); (try (have e4Zq := Nat.ne_of_gt l2Zq.2.2.2.2.2.1; have e5Zq := Nat.ne_of_gt l2Zq.2.2.2.2.2.2.2.1; have e6Zq := Nat.ne_of_gt l2Zq.2.2.2.2.2.2.2.2.1)); (try k_sweep)) | ((with_reducible show wpAny _ _ (call (Value.builtin "iter") [Value.ref _]) _ _ _); refine iter_N (by assumption) (by assumption) (by k_mem) ?_; intro IZq hZq FZq NZq l1Zq; (try k_lt l1Zq); (try (have e1Zq := Nat.ne_of_gt l1Zq.2.2.2.2.1; have e2Zq := Nat.ne_of_gt l1Zq.2.2.2.2.2.2.1; have e3Zq := Nat.ne_of_gt l1Zq.2.2.2.2.2.2.2.1)); (try k_sweep)) | ((with_reducible show wpAny _ _ (compareOp CmpOp.In (Value.int _ _) (Value.ref _)) _ _ _); (refine din_N (by assumption) (by k_mem) (by assumption) (by assumption) (by assumption) ?_)) | ((with_reducible show wpAny _ _ (subscriptTail _ _ (Value.ref _) (Value.int _ _)) _ _ _); refine ditem_tail (by first | exact dictOf_N (by assumption) (by k_mem) (by assumption) | exact dictOf_B (by assumption) (by assumption) (by assumption)) (by assumption) ?_) | ((with_reducible show wpAny _ _ (setItem (Value.ref _) (Value.int _ _) _) _ _ _); refine dset_N (by k_asm) (by k_asm) (by k_updF) (by assumption) (by first | assumption | exact leK (by assumption) (by exact rfl) | omega) ?_; intro hZq odZq FZq NZq hodZq; (try dsimp only at NZq); (try k_sweep)) | ((with_reducible show wpAny _ _ (call (Value.builtin "list.append") [Value.ref _, _]) _ _ _); k_dflt (refine append_K (by k_asm) (by k_asm) (by k_upd) ?_ (by simp only [sizeLine_eq]; first | exact leK (by assumption) (by exact rfl) | omega)); intro hZq FZq NZq; (try k_sweep)) | walk1 | (dsimp only; first | ((with_reducible show wpAny _ _ (call (Value.builtin "len") [Value.ref _]) _ _ _); refine len_N (by assumption) (by k_mem) (by first | exact leK (by assumption) (by exact rfl) | omega) ?_) | ((with_reducible show wpAny _ _ (subscriptTail _ _ (Value.ref _) (Value.int (-1) _)) _ _ _); refine last_N (by assumption) (by k_mem) (by assumption) ?_) | ((with_reducible show wpAny _ _ (compareOp CmpOp.In (Value.int _ _) (Value.ref _)) _ _ _); (refine sin_N (by assumption) (by k_mem) (by assumption) (by assumption) (by assumption) ?_)) | ((with_reducible show wpAny _ _ (delItem (Value.ref _) (Value.int _ _)) _ _ _); refine ddel_N (by k_asm) (by k_asm) (by k_updF) (by assumption) (by first | assumption | exact leK (by assumption) (by exact rfl) | omega) (by assumption) ?_; intro hZq odZq FZq NZq hodZq; (try dsimp only at NZq); (try k_sweep)) | ((with_reducible show wpAny _ _ (call (Value.builtin "list.pop") [Value.ref _]) _ _ _); refine pop_N (by k_asm) (by k_asm) (by k_updF) (by assumption) (by first | assumption | exact leK (by assumption) (by exact rfl) | omega) ?_; intro hZq FZq NZq; (try dsimp only at NZq); (try k_sweep)) | ((with_reducible show wpAny _ _ (getAttr (Value.ref _) (Str.ofString "__next__") _) _ _ _); refine nextattr_N (by assumption) (by assumption) (by k_mem) ?_; intro JZq hZq tkZq FZq NZq l2Zq; (try k_lt l2Zq); (try (have e4Zq := Nat.ne_of_gt l2Zq.2.2.2.2.2.1; have e5Zq := Nat.ne_of_gt l2Zq.2.2.2.2.2.2.2.1; have e6Zq := Nat.ne_of_gt l2Zq.2.2.2.2.2.2.2.2.1)); (try k_sweep)) | ((with_reducible show wpAny _ _ (call (Value.builtin "iter") [Value.ref _]) _ _ _); refine iter_N (by assumption) (by assumption) (by k_mem) ?_; intro IZq hZq FZq NZq l1Zq; (try k_lt l1Zq); (try (have e1Zq := Nat.ne_of_gt l1Zq.2.2.2.2.1; have e2Zq := Nat.ne_of_gt l1Zq.2.2.2.2.2.2.1; have e3Zq := Nat.ne_of_gt l1Zq.2.2.2.2.2.2.2.1)); (try k_sweep)) | ((with_reducible show wpAny _ _ (compareOp CmpOp.In (Value.int _ _) (Value.ref _)) _ _ _); (refine din_N (by assumption) (by k_mem) (by assumption) (by assumption) (by assumption) ?_)) | ((with_reducible show wpAny _ _ (subscriptTail _ _ (Value.ref _) (Value.int _ _)) _ _ _); refine ditem_tail (by first | exact dictOf_N (by assumption) (by k_mem) (by assumption) | exact dictOf_B (by assumption) (by assumption) (by assumption)) (by assumption) ?_) | ((with_reducible show wpAny _ _ (setItem (Value.ref _) (Value.int _ _) _) _ _ _); refine dset_N (by k_asm) (by k_asm) (by k_updF) (by assumption) (by first | assumption | exact leK (by assumption) (by exact rfl) | omega) ?_; intro hZq odZq FZq NZq hodZq; (try dsimp only at NZq); (try k_sweep)) | ((with_reducible show wpAny _ _ (call (Value.builtin "list.append") [Value.ref _, _]) _ _ _); k_dflt (refine append_K (by k_asm) (by k_asm) (by k_upd) ?_ (by simp only [sizeLine_eq]; first | exact leK (by assumption) (by exact rfl) | omega)); intro hZq FZq NZq; (try k_sweep)) | walk1))
                exact hq
              · intro h₈ hk₈
                have F₁₂ := Fr.up F₁₁ hk₈ (fun f hf => (hnof f (hfrs _ hBf f hf)).1) hbex hLex
                have N₁₂ := News.up N₁₁ hk₈ (hcore _ hBf) hexL
                rw [upS_upS] at N₁₂
                generalize heapSl h₈ = σ' at N₁₂
                simp only [List.cons_append, List.nil_append, List.append_assoc] at N₁₂
                have hvk : (valueAt kvs e.k).isSome = true := by rw [valueAt_keys, C.hkv]; simp
                have hon := C.hon
                have hoff := cy_off (σ := σ') (S := S₃) (fun a ha => hfoot2.2 a (List.mem_append_left _ ha)) hlt
                have q1 : ∀ p ∈ skLed S₃ ++ (tl ++ upS σ' ((L, oL) :: fl)), p.1 ≠ sa := fun p hp => ha _ (hoff p hp)
                have q2 : ∀ p ∈ skLed S₃ ++ (tl ++ upS σ' ((L, oL) :: fl)), p.1 ≠ ia := fun p hp => hb2 _ (hoff p hp)
                have q4 : ∀ p ∈ skLed S₃ ++ (tl ++ upS σ' ((L, oL) :: fl)), p.1 ≠ na := fun p hp => hb4 _ (hoff p hp)
                refine opq ?_
                intro Q₉ h₉
                repeat' (first | ((with_reducible show wpAny _ _ (call (Value.builtin "len") [Value.ref _]) _ _ _); refine len_N (by assumption) (by k_mem) (by first | exact leK (by assumption) (by exact rfl) | omega) ?_) | ((with_reducible show wpAny _ _ (subscriptTail _ _ (Value.ref _) (Value.int (-1) _)) _ _ _); refine last_N (by assumption) (by k_mem) (by assumption) ?_) | ((with_reducible show wpAny _ _ (compareOp CmpOp.In (Value.int _ _) (Value.ref _)) _ _ _); (refine sin_N (by assumption) (by k_mem) (by assumption) (by assumption) (by assumption) ?_)) | ((with_reducible show wpAny _ _ (delItem (Value.ref _) (Value.int _ _)) _ _ _); refine ddel_N (by k_asm) (by k_asm) (by k_updF) (by assumption) (by first | assumption | exact leK (by assumption) (by exact rfl) | omega) (by assumption) ?_; intro hZq odZq FZq NZq hodZq; (try dsimp only at NZq); (try k_sweep)) | ((with_reducible show wpAny _ _ (call (Value.builtin "list.pop") [Value.ref _]) _ _ _); refine pop_N (by k_asm) (by k_asm) (by k_updF) (by assumption) (by first | assumption | exact leK (by assumption) (by exact rfl) | omega) ?_; intro hZq FZq NZq; (try dsimp only at NZq); (try k_sweep)) | ((with_reducible show wpAny _ _ (getAttr (Value.ref _) (Str.ofString "__next__") _) _ _ _); refine nextattr_N (by assumption) (by assumption) (by k_mem) ?_; intro JZq hZq tkZq FZq NZq l2Zq; (try k_lt l2Zq); (try (have e4Zq := Nat.ne_of_gt l2Zq.2.2.2.2.2.1; have e5Zq := Nat.ne_of_gt l2Zq.2.2.2.2.2.2.2.1; have e6Zq := Nat.ne_of_gt l2Zq.2.2.2.2.2.2.2.2.1)); (try k_sweep)) | ((with_reducible show wpAny _ _ (call (Value.builtin "iter") [Value.ref _]) _ _ _); refine iter_N (by assumption) (by assumption) (by k_mem) ?_; intro IZq hZq FZq NZq l1Zq; (try k_lt l1Zq); (try (have e1Zq := Nat.ne_of_gt l1Zq.2.2.2.2.1; have e2Zq := Nat.ne_of_gt l1Zq.2.2.2.2.2.2.1; have e3Zq := Nat.ne_of_gt l1Zq.2.2.2.2.2.2.2.1)); (try k_sweep)) | ((with_reducible show wpAny _ _ (compareOp CmpOp.In (Value.int _ _) (Value.ref _)) _ _ _); (refine din_N (by assumption) (by k_mem) (by assumption) (by assumption) (by assumption) ?_)) | ((with_reducible show wpAny _ _ (subscriptTail _ _ (Value.ref _) (Value.int _ _)) _ _ _); refine ditem_tail (by first | exact dictOf_N (by assumption) (by k_mem) (by assumption) | exact dictOf_B (by assumption) (by assumption) (by assumption)) (by assumption) ?_) | ((with_reducible show wpAny _ _ (setItem (Value.ref _) (Value.int _ _) _) _ _ _); refine dset_N (by k_asm) (by k_asm) (by k_updF) (by assumption) (by first | assumption | exact leK (by assumption) (by exact rfl) | omega) ?_; intro hZq odZq FZq NZq hodZq; (try dsimp only at NZq); (try k_sweep)) | ((with_reducible show wpAny _ _ (call (Value.builtin "list.append") [Value.ref _, _]) _ _ _); k_dflt (refine append_K (by k_asm) (by k_asm) (by k_upd) ?_ (by simp only [sizeLine_eq]; first | exact leK (by assumption) (by exact rfl) | omega)); intro hZq FZq NZq; (try k_sweep)) | walk1 | (dsimp only; first | ((with_reducible show wpAny _ _ (call (Value.builtin "len") [Value.ref _]) _ _ _); refine len_N (by assumption) (by k_mem) (by first | exact leK (by assumption) (by exact rfl) | omega) ?_) | ((with_reducible show wpAny _ _ (subscriptTail _ _ (Value.ref _) (Value.int (-1) _)) _ _ _); refine last_N (by assumption) (by k_mem) (by assumption) ?_) | ((with_reducible show wpAny _ _ (compareOp CmpOp.In (Value.int _ _) (Value.ref _)) _ _ _); (refine sin_N (by assumption) (by k_mem) (by assumption) (by assumption) (by assumption) ?_)) | ((with_reducible show wpAny _ _ (delItem (Value.ref _) (Value.int _ _)) _ _ _); refine ddel_N (by k_asm) (by k_asm) (by k_updF) (by assumption) (by first | assumption | exact leK (by assumption) (by exact rfl) | omega) (by assumption) ?_; intro hZq odZq FZq NZq hodZq; (try dsimp only at NZq); (try k_sweep)) | ((with_reducible show wpAny _ _ (call (Value.builtin "list.pop") [Value.ref _]) _ _ _); refine pop_N (by k_asm) (by k_asm) (by k_updF) (by assumption) (by first | assumption | exact leK (by assumption) (by exact rfl) | omega) ?_; intro hZq FZq NZq; (try dsimp only at NZq); (try k_sweep)) | ((with_reducible show wpAny _ _ (getAttr (Value.ref _) (Str.ofString "__next__") _) _ _ _); refine nextattr_N (by assumption) (by assumption) (by k_mem) ?_; intro JZq hZq tkZq FZq NZq l2Zq; (try k_lt l2Zq); (try (have e4Zq := Nat.ne_of_gt l2Zq.2.2.2.2.2.1; have e5Zq := Nat.ne_of_gt l2Zq.2.2.2.2.2.2.2.1; have e6Zq := Nat.ne_of_gt l2Zq.2.2.2.2.2.2.2.2.1)); (try k_sweep)) | ((with_reducible show wpAny _ _ (call (Value.builtin "iter") [Value.ref _]) _ _ _); refine iter_N (by assumption) (by assumption) (by k_mem) ?_; intro IZq hZq FZq NZq l1Zq; (try k_lt l1Zq); (try (have e1Zq := Nat.ne_of_gt l1Zq.2.2.2.2.1; have e2Zq := Nat.ne_of_gt l1Zq.2.2.2.2.2.2.1; have e3Zq := Nat.ne_of_gt l1Zq.2.2.2.2.2.2.2.1)); (try k_sweep)) | ((with_reducible show wpAny _ _ (compareOp CmpOp.In (Value.int _ _) (Value.ref _)) _ _ _); (refine din_N (by assumption) (by k_mem) (by assumption) (by assumption) (by assumption) ?_)) | ((with_reducible show wpAny _ _ (subscriptTail _ _ (Value.ref _) (Value.int _ _)) _ _ _); refine ditem_tail (by first | exact dictOf_N (by assumption) (by k_mem) (by assumption) | exact dictOf_B (by assumption) (by assumption) (by assumption)) (by assumption) ?_) | ((with_reducible show wpAny _ _ (setItem (Value.ref _) (Value.int _ _) _) _ _ _); refine dset_N (by k_asm) (by k_asm) (by k_updF) (by assumption) (by first | assumption | exact leK (by assumption) (by exact rfl) | omega) ?_; intro hZq odZq FZq NZq hodZq; (try dsimp only at NZq); (try k_sweep)) | ((with_reducible show wpAny _ _ (call (Value.builtin "list.append") [Value.ref _, _]) _ _ _); k_dflt (refine append_K (by k_asm) (by k_asm) (by k_upd) ?_ (by simp only [sizeLine_eq]; first | exact leK (by assumption) (by exact rfl) | omega)); intro hZq FZq NZq; (try k_sweep)) | walk1))
                refine h₉ _ _ ?_
                dsimp only [WEnd]
                refine wpAny_execs_nil ?_
                refine WEnd.go (k' := S₃.length) (by rw [← hj]; simp) FZq NZq ⟨S₃, c₂, ct₂, _, rfl, ⟨_, _, _, _, os, odZq, _, σ', C.pop hodZq, rfl⟩, rfl, Nat.le_trans skW_pop hk₂, rfl⟩
        have hoff := cy_off (σ := σ) C.hfoot.2 hlt
        have q1 : ∀ p ∈ skLed S ++ (tl ++ upS σ ((L, oL) :: fl)), p.1 ≠ sa := fun p hp => ha _ (hoff p hp)
        have q2 : ∀ p ∈ skLed S ++ (tl ++ upS σ ((L, oL) :: fl)), p.1 ≠ ia := fun p hp => hb2 _ (hoff p hp)
        have q3 : ∀ p ∈ skLed S ++ (tl ++ upS σ ((L, oL) :: fl)), p.1 ≠ se := fun p hp => hb3 _ (hoff p hp)
        have q4 : ∀ p ∈ skLed S ++ (tl ++ upS σ ((L, oL) :: fl)), p.1 ≠ na := fun p hp => hb4 _ (hoff p hp)
        have hck : c ∉ kvs.map (·.1) := by
          rw [C.hkv]; intro hm
          focus (refine hid fun hGo => ?_; obtain ⟨e, he, rfl⟩ := List.mem_map.mp hm; all_goals (refine hGo ?_; clear hGo))
          exact Nat.lt_irrefl _ (hcr e he)
        have hkn : (valueAt kvs c).isSome = false := by rw [valueAt_keys]; simpa using hck
        by_cases hcs : c ∈ seen
        · have hcd : decide (c ∈ seen) = true := by simpa using hcs
          repeat' (first | ((with_reducible show wpAny _ _ (call (Value.builtin "len") [Value.ref _]) _ _ _); refine len_N (by assumption) (by k_mem) (by first | exact leK (by assumption) (by exact rfl) | omega) ?_) | ((with_reducible show wpAny _ _ (subscriptTail _ _ (Value.ref _) (Value.int (-1) _)) _ _ _); refine last_N (by assumption) (by k_mem) (by assumption) ?_) | ((with_reducible show wpAny _ _ (compareOp CmpOp.In (Value.int _ _) (Value.ref _)) _ _ _); (refine sin_N (by assumption) (by k_mem) (by assumption) (by assumption) (by assumption) ?_)) | ((with_reducible show wpAny _ _ (delItem (Value.ref _) (Value.int _ _)) _ _ _); refine ddel_N (by k_asm) (by k_asm) (by k_updF) (by assumption) (by first | assumption | exact leK (by assumption) (by exact rfl) | omega) (by assumption) ?_; intro hZq odZq FZq NZq hodZq; (try dsimp only at NZq); (try k_sweep)) | ((with_reducible show wpAny _ _ (call (Value.builtin "list.pop") [Value.ref _]) _ _ _); refine pop_N (by k_asm) (by k_asm) (by k_updF) (by assumption) (by first | assumption | exact leK (by assumption) (by exact rfl) | omega) ?_; intro hZq FZq NZq; (try dsimp only at NZq); (try k_sweep)) | ((with_reducible show wpAny _ _ (getAttr (Value.ref _) (Str.ofString "__next__") _) _ _ _); refine nextattr_N (by assumption) (by assumption) (by k_mem) ?_; intro JZq hZq tkZq FZq NZq l2Zq; (try k_lt l2Zq); (try (have e4Zq := Nat.ne_of_gt l2Zq.2.2.2.2.2.1; have e5Zq := Nat.ne_of_gt l2Zq.2.2.2.2.2.2.2.1; have e6Zq := Nat.ne_of_gt l2Zq.2.2.2.2.2.2.2.2.1)); (try k_sweep)) | ((with_reducible show wpAny _ _ (call (Value.builtin "iter") [Value.ref _]) _ _ _); refine iter_N (by assumption) (by assumption) (by k_mem) ?_; intro IZq hZq FZq NZq l1Zq; (try k_lt l1Zq); (try (have e1Zq := Nat.ne_of_gt l1Zq.2.2.2.2.1; have e2Zq := Nat.ne_of_gt l1Zq.2.2.2.2.2.2.1; have e3Zq := Nat.ne_of_gt l1Zq.2.2.2.2.2.2.2.1)); (try k_sweep)) | ((with_reducible show wpAny _ _ (compareOp CmpOp.In (Value.int _ _) (Value.ref _)) _ _ _); (refine din_N (by assumption) (by k_mem) (by assumption) (by assumption) (by assumption) ?_)) | ((with_reducible show wpAny _ _ (subscriptTail _ _ (Value.ref _) (Value.int _ _)) _ _ _); refine ditem_tail (by first | exact dictOf_N (by assumption) (by k_mem) (by assumption) | exact dictOf_B (by assumption) (by assumption) (by assumption)) (by assumption) ?_) | ((with_reducible show wpAny _ _ (setItem (Value.ref _) (Value.int _ _) _) _ _ _); refine dset_N (by k_asm) (by k_asm) (by k_updF) (by assumption) (by first | assumption | exact leK (by assumption) (by exact rfl) | omega) ?_; intro hZq odZq FZq NZq hodZq; (try dsimp only at NZq); (try k_sweep)) | ((with_reducible show wpAny _ _ (call (Value.builtin "list.append") [Value.ref _, _]) _ _ _); k_dflt (refine append_K (by k_asm) (by k_asm) (by k_upd) ?_ (by simp only [sizeLine_eq]; first | exact leK (by assumption) (by exact rfl) | omega)); intro hZq FZq NZq; (try k_sweep)) | walk1 | (dsimp only; first | ((with_reducible show wpAny _ _ (call (Value.builtin "len") [Value.ref _]) _ _ _); refine len_N (by assumption) (by k_mem) (by first | exact leK (by assumption) (by exact rfl) | omega) ?_) | ((with_reducible show wpAny _ _ (subscriptTail _ _ (Value.ref _) (Value.int (-1) _)) _ _ _); refine last_N (by assumption) (by k_mem) (by assumption) ?_) | ((with_reducible show wpAny _ _ (compareOp CmpOp.In (Value.int _ _) (Value.ref _)) _ _ _); (refine sin_N (by assumption) (by k_mem) (by assumption) (by assumption) (by assumption) ?_)) | ((with_reducible show wpAny _ _ (delItem (Value.ref _) (Value.int _ _)) _ _ _); refine ddel_N (by k_asm) (by k_asm) (by k_updF) (by assumption) (by first | assumption | exact leK (by assumption) (by exact rfl) | omega) (by assumption) ?_; intro hZq odZq FZq NZq hodZq; (try dsimp only at NZq); (try k_sweep)) | ((with_reducible show wpAny _ _ (call (Value.builtin "list.pop") [Value.ref _]) _ _ _); refine pop_N (by k_asm) (by k_asm) (by k_updF) (by assumption) (by first | assumption | exact leK (by assumption) (by exact rfl) | omega) ?_; intro hZq FZq NZq; (try dsimp only at NZq); (try k_sweep)) | ((with_reducible show wpAny _ _ (getAttr (Value.ref _) (Str.ofString "__next__") _) _ _ _); refine nextattr_N (by assumption) (by assumption) (by k_mem) ?_; intro JZq hZq tkZq FZq NZq l2Zq; (try k_lt l2Zq); (try (have e4Zq := Nat.ne_of_gt l2Zq.2.2.2.2.2.1; have e5Zq := Nat.ne_of_gt l2Zq.2.2.2.2.2.2.2.1; have e6Zq := Nat.ne_of_gt l2Zq.2.2.2.2.2.2.2.2.1)); (try k_sweep)) | ((with_reducible show wpAny _ _ (call (Value.builtin "iter") [Value.ref _]) _ _ _); refine iter_N (by assumption) (by assumption) (by k_mem) ?_; intro IZq hZq FZq NZq l1Zq; (try k_lt l1Zq); (try (have e1Zq := Nat.ne_of_gt l1Zq.2.2.2.2.1; have e2Zq := Nat.ne_of_gt l1Zq.2.2.2.2.2.2.1; have e3Zq := Nat.ne_of_gt l1Zq.2.2.2.2.2.2.2.1)); (try k_sweep)) | ((with_reducible show wpAny _ _ (compareOp CmpOp.In (Value.int _ _) (Value.ref _)) _ _ _); (refine din_N (by assumption) (by k_mem) (by assumption) (by assumption) (by assumption) ?_)) | ((with_reducible show wpAny _ _ (subscriptTail _ _ (Value.ref _) (Value.int _ _)) _ _ _); refine ditem_tail (by first | exact dictOf_N (by assumption) (by k_mem) (by assumption) | exact dictOf_B (by assumption) (by assumption) (by assumption)) (by assumption) ?_) | ((with_reducible show wpAny _ _ (setItem (Value.ref _) (Value.int _ _) _) _ _ _); refine dset_N (by k_asm) (by k_asm) (by k_updF) (by assumption) (by first | assumption | exact leK (by assumption) (by exact rfl) | omega) ?_; intro hZq odZq FZq NZq hodZq; (try dsimp only at NZq); (try k_sweep)) | ((with_reducible show wpAny _ _ (call (Value.builtin "list.append") [Value.ref _, _]) _ _ _); k_dflt (refine append_K (by k_asm) (by k_asm) (by k_upd) ?_ (by simp only [sizeLine_eq]; first | exact leK (by assumption) (by exact rfl) | omega)); intro hZq FZq NZq; (try k_sweep)) | walk1))
          all_goals dsimp only at *
          rename Fr _ _ _ _ => F₉
          rename News _ _ _ _ => N₉
          exact join S seen c ct _ _ _ ⟨sv, sn, iv, inn, os, on, kvs, σ, C, rfl⟩ hk F₉ N₉
        · have hcd : decide (c ∈ seen) = false := by simpa using hcs
          focus (refine hid fun hGo => ?_; obtain ⟨n, hn, rfl⟩ := List.mem_map.mp hcn; all_goals (refine hGo ?_; clear hGo))
          have hval : valueAt (nodesKvs ns) n.k = some (.ref n.a) := kvs_value hok.keysOk hn
          focus (refine hid fun hGo => ?_; obtain ⟨_, hSl, hkl, hvl, hil⟩ := C.len hnl; all_goals (refine hGo ?_; clear hGo))
          have hnn := hns n hn
          have g1 : @LT.lt Nat _ n.a sa := hlt _ (List.mem_append_left _ hnn.1)
          have g2 : @LT.lt Nat _ n.dx sa := hlt _ (List.mem_append_left _ hnn.2.1)
          have g3 : @LT.lt Nat _ n.l sa := hlt _ (List.mem_append_left _ hnn.2.2)
          have g10 : NeH n.a ia := Nat.ne_of_lt (Nat.lt_trans g1 o4)
          have g11 : NeH n.a se := Nat.ne_of_lt (Nat.lt_trans g1 o7)
          have g12 : NeH n.a na := Nat.ne_of_lt (Nat.lt_trans g1 o8)
          have g13 : NeH n.dx ia := Nat.ne_of_lt (Nat.lt_trans g2 o4)
          have g14 : NeH n.dx se := Nat.ne_of_lt (Nat.lt_trans g2 o7)
          have g15 : NeH n.dx na := Nat.ne_of_lt (Nat.lt_trans g2 o8)
          have g16 : NeH n.l ia := Nat.ne_of_lt (Nat.lt_trans g3 o4)
          have g17 : NeH n.l se := Nat.ne_of_lt (Nat.lt_trans g3 o7)
          have g18 : NeH n.l na := Nat.ne_of_lt (Nat.lt_trans g3 o8)
          have N₉ := News.sub (l' := (n.a, n.obj) :: (n.dx, dictOf [] 0) :: (n.l, W.listOf n.sv n.le) :: (I, oI) :: (na, on) :: (se, os) :: (ia, W.listOf iv inn) :: (sa, W.listOf sv sn) :: (x, instObj 137 dx) :: (dx, soDict w t1 t2 t3 t4 d rn po nf) :: (d, od) :: (skLed S ++ (tl ++ upS σ ((L, oL) :: fl)))) (by assumption) (by
            intro p hp
            focus (refine hid fun hGo => ?_; rcases List.mem_cons.mp hp with rfl | hp; all_goals (refine hGo ?_; clear hGo))
            · simp only [List.mem_cons, List.mem_append]; exact .inr (.inr (.inr (.inr (.inr (.inr (.inr (.inr (.inr (.inl hnn.1)))))))))
            focus (refine hid fun hGo => ?_; rcases List.mem_cons.mp hp with rfl | hp; all_goals (refine hGo ?_; clear hGo))
            · simp only [List.mem_cons, List.mem_append]; exact .inr (.inr (.inr (.inr (.inr (.inr (.inr (.inr (.inr (.inl hnn.2.1)))))))))
            focus (refine hid fun hGo => ?_; rcases List.mem_cons.mp hp with rfl | hp; all_goals (refine hGo ?_; clear hGo))
            · simp only [List.mem_cons, List.mem_append]; exact .inr (.inr (.inr (.inr (.inr (.inr (.inr (.inr (.inr (.inl hnn.2.2)))))))))
            exact hp)
          simp only [Nd.obj] at N₉
          repeat' (first | ((with_reducible show wpAny _ _ (call (Value.builtin "len") [Value.ref _]) _ _ _); refine len_N (by assumption) (by k_mem) (by first | exact leK (by assumption) (by exact rfl) | omega) ?_) | ((with_reducible show wpAny _ _ (subscriptTail _ _ (Value.ref _) (Value.int (-1) _)) _ _ _); refine last_N (by assumption) (by k_mem) (by assumption) ?_) | ((with_reducible show wpAny _ _ (compareOp CmpOp.In (Value.int _ _) (Value.ref _)) _ _ _); (refine sin_N (by assumption) (by k_mem) (by assumption) (by assumption) (by assumption) ?_)) | ((with_reducible show wpAny _ _ (delItem (Value.ref _) (Value.int _ _)) _ _ _); refine ddel_N (by k_asm) (by k_asm) (by k_updF) (by assumption) (by first | assumption | exact leK (by assumption) (by exact rfl) | omega) (by assumption) ?_; intro hZq odZq FZq NZq hodZq; (try dsimp only at NZq); (try k_sweep)) | ((with_reducible show wpAny _ _ (call (Value.builtin "list.pop") [Value.ref _]) _ _ _); refine pop_N (by k_asm) (by k_asm) (by k_updF) (by assumption) (by first | assumption | exact leK (by assumption) (by exact rfl) | omega) ?_; intro hZq FZq NZq; (try dsimp only at NZq); (try k_sweep)) | ((with_reducible show wpAny _ _ (getAttr (Value.ref _) (Str.ofString "__next__") _) _ _ _); refine nextattr_N (by assumption) (by assumption) (by k_mem) ?_; intro JZq hZq tkZq FZq NZq l2Zq; (try k_lt l2Zq); (try (have e4Zq := Nat.ne_of_gt l2Zq.2.2.2.2.2.1; have e5Zq := Nat.ne_of_gt l2Zq.2.2.2.2.2.2.2.1; have e6Zq := Nat.ne_of_gt l2Zq.2.2.2.2.2.2.2.2.1)); (try k_sweep)) | ((with_reducible show wpAny _ _ (call (Value.builtin "iter") [Value.ref _]) _ _ _); refine iter_N (by assumption) (by assumption) (by k_mem) ?_; intro IZq hZq FZq NZq l1Zq; (try k_lt l1Zq); (try (have e1Zq := Nat.ne_of_gt l1Zq.2.2.2.2.1; have e2Zq := Nat.ne_of_gt l1Zq.2.2.2.2.2.2.1; have e3Zq := Nat.ne_of_gt l1Zq.2.2.2.2.2.2.2.1)); (try k_sweep)) | ((with_reducible show wpAny _ _ (compareOp CmpOp.In (Value.int _ _) (Value.ref _)) _ _ _); (refine din_N (by assumption) (by k_mem) (by assumption) (by assumption) (by assumption) ?_)) | ((with_reducible show wpAny _ _ (subscriptTail _ _ (Value.ref _) (Value.int _ _)) _ _ _); refine ditem_tail (by first | exact dictOf_N (by assumption) (by k_mem) (by assumption) | exact dictOf_B (by assumption) (by assumption) (by assumption)) (by assumption) ?_) | ((with_reducible show wpAny _ _ (setItem (Value.ref _) (Value.int _ _) _) _ _ _); refine dset_N (by k_asm) (by k_asm) (by k_updF) (by assumption) (by first | assumption | exact leK (by assumption) (by exact rfl) | omega) ?_; intro hZq odZq FZq NZq hodZq; (try dsimp only at NZq); (try k_sweep)) | ((with_reducible show wpAny _ _ (call (Value.builtin "list.append") [Value.ref _, _]) _ _ _); k_dflt (refine append_K (by k_asm) (by k_asm) (by k_upd) ?_ (by simp only [sizeLine_eq]; first | exact leK (by assumption) (by exact rfl) | omega)); intro hZq FZq NZq; (try k_sweep)) | walk1 | (dsimp only; first | ((with_reducible show wpAny _ _ (call (Value.builtin "len") [Value.ref _]) _ _ _); refine len_N (by assumption) (by k_mem) (by first | exact leK (by assumption) (by exact rfl) | omega) ?_) | ((with_reducible show wpAny _ _ (subscriptTail _ _ (Value.ref _) (Value.int (-1) _)) _ _ _); refine last_N (by assumption) (by k_mem) (by assumption) ?_) | ((with_reducible show wpAny _ _ (compareOp CmpOp.In (Value.int _ _) (Value.ref _)) _ _ _); (refine sin_N (by assumption) (by k_mem) (by assumption) (by assumption) (by assumption) ?_)) | ((with_reducible show wpAny _ _ (delItem (Value.ref _) (Value.int _ _)) _ _ _); refine ddel_N (by k_asm) (by k_asm) (by k_updF) (by assumption) (by first | assumption | exact leK (by assumption) (by exact rfl) | omega) (by assumption) ?_; intro hZq odZq FZq NZq hodZq; (try dsimp only at NZq); (try k_sweep)) | ((with_reducible show wpAny _ _ (call (Value.builtin "list.pop") [Value.ref _]) _ _ _); refine pop_N (by k_asm) (by k_asm) (by k_updF) (by assumption) (by first | assumption | exact leK (by assumption) (by exact rfl) | omega) ?_; intro hZq FZq NZq; (try dsimp only at NZq); (try k_sweep)) | ((with_reducible show wpAny _ _ (getAttr (Value.ref _) (Str.ofString "__next__") _) _ _ _); refine nextattr_N (by assumption) (by assumption) (by k_mem) ?_; intro JZq hZq tkZq FZq NZq l2Zq; (try k_lt l2Zq); (try (have e4Zq := Nat.ne_of_gt l2Zq.2.2.2.2.2.1; have e5Zq := Nat.ne_of_gt l2Zq.2.2.2.2.2.2.2.1; have e6Zq := Nat.ne_of_gt l2Zq.2.2.2.2.2.2.2.2.1)); (try k_sweep)) | ((with_reducible show wpAny _ _ (call (Value.builtin "iter") [Value.ref _]) _ _ _); refine iter_N (by assumption) (by assumption) (by k_mem) ?_; intro IZq hZq FZq NZq l1Zq; (try k_lt l1Zq); (try (have e1Zq := Nat.ne_of_gt l1Zq.2.2.2.2.1; have e2Zq := Nat.ne_of_gt l1Zq.2.2.2.2.2.2.1; have e3Zq := Nat.ne_of_gt l1Zq.2.2.2.2.2.2.2.1)); (try k_sweep)) | ((with_reducible show wpAny _ _ (compareOp CmpOp.In (Value.int _ _) (Value.ref _)) _ _ _); (refine din_N (by assumption) (by k_mem) (by assumption) (by assumption) (by assumption) ?_)) | ((with_reducible show wpAny _ _ (subscriptTail _ _ (Value.ref _) (Value.int _ _)) _ _ _); refine ditem_tail (by first | exact dictOf_N (by assumption) (by k_mem) (by assumption) | exact dictOf_B (by assumption) (by assumption) (by assumption)) (by assumption) ?_) | ((with_reducible show wpAny _ _ (setItem (Value.ref _) (Value.int _ _) _) _ _ _); refine dset_N (by k_asm) (by k_asm) (by k_updF) (by assumption) (by first | assumption | exact leK (by assumption) (by exact rfl) | omega) ?_; intro hZq odZq FZq NZq hodZq; (try dsimp only at NZq); (try k_sweep)) | ((with_reducible show wpAny _ _ (call (Value.builtin "list.append") [Value.ref _, _]) _ _ _); k_dflt (refine append_K (by k_asm) (by k_asm) (by k_upd) ?_ (by simp only [sizeLine_eq]; first | exact leK (by assumption) (by exact rfl) | omega)); intro hZq FZq NZq; (try k_sweep)) | walk1))
          all_goals (try dsimp only at *)
          rename_i os' hos' _ _ _ _ _ _ _
          have hlo' : @LT.lt Nat _ I IZq := l1Zq.2.2.2.1
          have hit' : ∀ p ∈ skLed S, @LT.lt Nat _ p.1 IZq := fun p hp => allLt_mem l1Zq.2.2.2.2.2.2.2.2.2.2.2 p (List.mem_append_left _ hp)
          have hsub : ∀ p ∈ (I, oI) :: (na, odZq) :: (se, os') :: (ia, W.listOf (iv.push (.ref JZq)) (inn + 1)) :: (sa, W.listOf (sv.push (.int n.k ct)) (sn + 1)) :: (cy3 w t1 t2 t3 t4 x dx d od rn po nf ++ (skLed (S ++ [⟨n.k, ct, IZq, JZq, n, 0⟩]) ++ (tl ++ upS σ ((L, oL) :: fl)))),
              p ∈ (JZq, mwObj IZq) :: (IZq, itObj n.l 0) :: (n.a, n.obj) :: (n.dx, dictOf [] 0) :: (n.l, W.listOf n.sv n.le) :: (I, oI) :: (na, odZq) :: (se, os') :: (ia, W.listOf (iv.push (.ref JZq)) (inn + 1)) :: (sa, W.listOf (sv.push (.int n.k ct)) (sn + 1)) :: (x, instObj 137 dx) :: (dx, soDict w t1 t2 t3 t4 d rn po nf) :: (d, od) :: (skLed S ++ (tl ++ upS σ ((L, oL) :: fl))) := by
            intro p hp
            rw [skLed_append] at hp
            exact cyp2 (H := [(I, oI), (na, odZq), (se, os'), (ia, W.listOf (iv.push (.ref JZq)) (inn + 1)), (sa, W.listOf (sv.push (.int n.k ct)) (sn + 1)), (x, instObj 137 dx), (dx, soDict w t1 t2 t3 t4 d rn po nf), (d, od)]) (K := [(n.a, n.obj), (n.dx, dictOf [] 0), (n.l, W.listOf n.sv n.le)]) (S := skLed S) p hp
          exact join (S ++ [⟨n.k, ct, IZq, JZq, n, 0⟩]) (seen ++ [n.k]) n.k ct _ _ _ ⟨_, _, _, _, _, _, _, σ, C.push hn hcs hcr hos' hodZq hck hit' hlo' l2Zq.1, rfl⟩ (Nat.le_trans (Nat.le_of_lt (skW_push (e := ⟨n.k, ct, IZq, JZq, n, 0⟩) hn hcs rfl)) hk) FZq (News.sub NZq hsub)
  · focus (rintro I m₁ news₁ h tk hP0 F₅ N₆; refine hid fun hGo => ?_; rcases hP0 with ⟨hI, seen, u, ⟨sv, sn, iv, inn, os, on, kvs, σ, C, rfl⟩, rfl⟩; all_goals (refine hGo ?_; clear hGo))
    refine hn₁ _ ?_
    repeat' (first | ((with_reducible show wpAny _ _ (call (Value.builtin "len") [Value.ref _]) _ _ _); refine len_N (by assumption) (by k_mem) (by first | exact leK (by assumption) (by exact rfl) | omega) ?_) | ((with_reducible show wpAny _ _ (subscriptTail _ _ (Value.ref _) (Value.int (-1) _)) _ _ _); refine last_N (by assumption) (by k_mem) (by assumption) ?_) | ((with_reducible show wpAny _ _ (compareOp CmpOp.In (Value.int _ _) (Value.ref _)) _ _ _); (refine sin_N (by assumption) (by k_mem) (by assumption) (by assumption) (by assumption) ?_)) | ((with_reducible show wpAny _ _ (delItem (Value.ref _) (Value.int _ _)) _ _ _); refine ddel_N (by k_asm) (by k_asm) (by k_updF) (by assumption) (by first | assumption | exact leK (by assumption) (by exact rfl) | omega) (by assumption) ?_; intro hZq odZq FZq NZq hodZq; (try dsimp only at NZq); (try k_sweep)) | ((with_reducible show wpAny _ _ (call (Value.builtin "list.pop") [Value.ref _]) _ _ _); refine pop_N (by k_asm) (by k_asm) (by k_updF) (by assumption) (by first | assumption | exact leK (by assumption) (by exact rfl) | omega) ?_; intro hZq FZq NZq; (try dsimp only at NZq); (try k_sweep)) | ((with_reducible show wpAny _ _ (getAttr (Value.ref _) (Str.ofString "__next__") _) _ _ _); refine nextattr_N (by assumption) (by assumption) (by k_mem) ?_; intro JZq hZq tkZq FZq NZq l2Zq; (try k_lt l2Zq); (try (have e4Zq := Nat.ne_of_gt l2Zq.2.2.2.2.2.1; have e5Zq := Nat.ne_of_gt l2Zq.2.2.2.2.2.2.2.1; have e6Zq := Nat.ne_of_gt l2Zq.2.2.2.2.2.2.2.2.1)); (try k_sweep)) | ((with_reducible show wpAny _ _ (call (Value.builtin "iter") [Value.ref _]) _ _ _); refine iter_N (by assumption) (by assumption) (by k_mem) ?_; intro IZq hZq FZq NZq l1Zq; (try k_lt l1Zq); (try (have e1Zq := Nat.ne_of_gt l1Zq.2.2.2.2.1; have e2Zq := Nat.ne_of_gt l1Zq.2.2.2.2.2.2.1; have e3Zq := Nat.ne_of_gt l1Zq.2.2.2.2.2.2.2.1)); (try k_sweep)) | ((with_reducible show wpAny _ _ (compareOp CmpOp.In (Value.int _ _) (Value.ref _)) _ _ _); (refine din_N (by assumption) (by k_mem) (by assumption) (by assumption) (by assumption) ?_)) | ((with_reducible show wpAny _ _ (subscriptTail _ _ (Value.ref _) (Value.int _ _)) _ _ _); refine ditem_tail (by first | exact dictOf_N (by assumption) (by k_mem) (by assumption) | exact dictOf_B (by assumption) (by assumption) (by assumption)) (by assumption) ?_) | ((with_reducible show wpAny _ _ (setItem (Value.ref _) (Value.int _ _) _) _ _ _); refine dset_N (by k_asm) (by k_asm) (by k_updF) (by assumption) (by first | assumption | exact leK (by assumption) (by exact rfl) | omega) ?_; intro hZq odZq FZq NZq hodZq; (try dsimp only at NZq); (try k_sweep)) | ((with_reducible show wpAny _ _ (call (Value.builtin "list.append") [Value.ref _, _]) _ _ _); k_dflt (refine append_K (by k_asm) (by k_asm) (by k_upd) ?_ (by simp only [sizeLine_eq]; first | exact leK (by assumption) (by exact rfl) | omega)); intro hZq FZq NZq; (try k_sweep)) | walk1 | (dsimp only; first | ((with_reducible show wpAny _ _ (call (Value.builtin "len") [Value.ref _]) _ _ _); refine len_N (by assumption) (by k_mem) (by first | exact leK (by assumption) (by exact rfl) | omega) ?_) | ((with_reducible show wpAny _ _ (subscriptTail _ _ (Value.ref _) (Value.int (-1) _)) _ _ _); refine last_N (by assumption) (by k_mem) (by assumption) ?_) | ((with_reducible show wpAny _ _ (compareOp CmpOp.In (Value.int _ _) (Value.ref _)) _ _ _); (refine sin_N (by assumption) (by k_mem) (by assumption) (by assumption) (by assumption) ?_)) | ((with_reducible show wpAny _ _ (delItem (Value.ref _) (Value.int _ _)) _ _ _); refine ddel_N (by k_asm) (by k_asm) (by k_updF) (by assumption) (by first | assumption | exact leK (by assumption) (by exact rfl) | omega) (by assumption) ?_; intro hZq odZq FZq NZq hodZq; (try dsimp only at NZq); (try k_sweep)) | ((with_reducible show wpAny _ _ (call (Value.builtin "list.pop") [Value.ref _]) _ _ _); refine pop_N (by k_asm) (by k_asm) (by k_updF) (by assumption) (by first | assumption | exact leK (by assumption) (by exact rfl) | omega) ?_; intro hZq FZq NZq; (try dsimp only at NZq); (try k_sweep)) | ((with_reducible show wpAny _ _ (getAttr (Value.ref _) (Str.ofString "__next__") _) _ _ _); refine nextattr_N (by assumption) (by assumption) (by k_mem) ?_; intro JZq hZq tkZq FZq NZq l2Zq; (try k_lt l2Zq); (try (have e4Zq := Nat.ne_of_gt l2Zq.2.2.2.2.2.1; have e5Zq := Nat.ne_of_gt l2Zq.2.2.2.2.2.2.2.1; have e6Zq := Nat.ne_of_gt l2Zq.2.2.2.2.2.2.2.2.1)); (try k_sweep)) | ((with_reducible show wpAny _ _ (call (Value.builtin "iter") [Value.ref _]) _ _ _); refine iter_N (by assumption) (by assumption) (by k_mem) ?_; intro IZq hZq FZq NZq l1Zq; (try k_lt l1Zq); (try (have e1Zq := Nat.ne_of_gt l1Zq.2.2.2.2.1; have e2Zq := Nat.ne_of_gt l1Zq.2.2.2.2.2.2.1; have e3Zq := Nat.ne_of_gt l1Zq.2.2.2.2.2.2.2.1)); (try k_sweep)) | ((with_reducible show wpAny _ _ (compareOp CmpOp.In (Value.int _ _) (Value.ref _)) _ _ _); (refine din_N (by assumption) (by k_mem) (by assumption) (by assumption) (by assumption) ?_)) | ((with_reducible show wpAny _ _ (subscriptTail _ _ (Value.ref _) (Value.int _ _)) _ _ _); refine ditem_tail (by first | exact dictOf_N (by assumption) (by k_mem) (by assumption) | exact dictOf_B (by assumption) (by assumption) (by assumption)) (by assumption) ?_) | ((with_reducible show wpAny _ _ (setItem (Value.ref _) (Value.int _ _) _) _ _ _); refine dset_N (by k_asm) (by k_asm) (by k_updF) (by assumption) (by first | assumption | exact leK (by assumption) (by exact rfl) | omega) ?_; intro hZq odZq FZq NZq hodZq; (try dsimp only at NZq); (try k_sweep)) | ((with_reducible show wpAny _ _ (call (Value.builtin "list.append") [Value.ref _, _]) _ _ _); k_dflt (refine append_K (by k_asm) (by k_asm) (by k_upd) ?_ (by simp only [sizeLine_eq]; first | exact leK (by assumption) (by exact rfl) | omega)); intro hZq FZq NZq; (try k_sweep)) | walk1))
    all_goals dsimp only at *
    have hne : ∀ p ∈ (x, instObj 137 dx) :: (dx, soDict w t1 t2 t3 t4 d rn po nf) :: (d, od) :: (tl ++ upS σ fl), p.1 ≠ L := by
      refine fmc l6 (fmc l5 (fmc l7 ?_))
      intro p hp
      try simp only [List.nil_append, List.append] at hp
      focus (refine hid fun hGo => ?_; rcases List.mem_append.mp hp with hp | hp; all_goals (refine hGo ?_; clear hGo))
      · exact l8 p (List.mem_append_left _ hp)
      · focus (refine hid fun hGo => ?_; obtain ⟨q, hq, rfl⟩ := List.mem_map.mp hp; all_goals (refine hGo ?_; clear hGo))
        exact l8 q (List.mem_append_right _ hq)
    obtain ⟨F₇, N₇⟩ := backN' bk F₅ (News.sub (l' := (L, { oL with slots := σ L }) :: (x, instObj 137 dx) :: (dx, soDict w t1 t2 t3 t4 d rn po nf) :: (d, od) :: (tl ++ upS σ fl)) N₆ (by
      exact cyp3)) rfl hne
    exact hQ _ _ σ F₇ N₇

/-- the longest common beginning of two lists -/
noncomputable def lcpL : List Nat → List Nat → List Nat
  | a :: x, b :: y => if a = b then a :: lcpL x y else []
  | _, _ => []
noncomputable def lcpC (x y : Str) (n : Nat) : Bool := decide (Txt.slice x none (some ((n : Int) + 1)) = Txt.slice y none (some ((n : Int) + 1))) && decide (n < x.length) && decide (n < y.length)
noncomputable def lcpF (x y : Str) : Nat → Nat → Nat
  | 0, n => n
  | k + 1, n => if lcpC x y n then lcpF x y k (n + 1) else n
noncomputable def lcpS (x y : Str) : Str := Txt.slice x none (some (lcpF x y x.length 0 : Int))
/-- o is a proper beginning of w -/
noncomputable def begB (o w : Str) : Bool := decide (o ≠ w) && Txt.startswith w o
noncomputable def begL (o w : List Nat) : Bool := decide (o ≠ w) && o.isPrefixOf w
/-- t is a proper cut of n -/
noncomputable def preI (t n : Int) : Bool := decide (hbI t < hbI n) && decide (n.fdiv (2 ^ (hbI n - hbI t).toNat) = t)
noncomputable def addS (row : List Str) (t : Str) : List Str := if t ∈ row then row else row ++ [t]
noncomputable def begsRow (ws row : List Str) (k : Nat) : List Str := (List.range (ws.length - (k + 1))).foldl (fun r j => addS r (lcpS (ws.getD k Str.empty) (ws.getD (k + 1 + j) Str.empty))) row
noncomputable def begsL (ws : List Str) : List Str := (List.range ws.length).foldl (fun r k => begsRow ws r k) ws

theorem slice_take (x : Str) (n : Nat) : Txt.slice x none (some (n : Int)) = ⟨(x.cps.toList.take n).toArray⟩ := by
  rcases Nat.le_total n x.cps.toList.length with h | h
  · have := beq_iff_eq.mp (slice_closes_to (x := x) (j := (n : Int)) ⟨by lia, by lia⟩)
    simpa using this
  · have h' : x.length ≤ n := by simpa [Str.length] using h
    rw [slice_to_beyond (by lia)]
    have := beq_iff_eq.mp (slice_closes_to (x := x) (j := (x.length : Int)) ⟨by lia, by simp [Str.length]⟩)
    rw [this]
    simp only [Int.toNat_zero, List.drop_zero, Int.sub_zero, Int.toNat_natCast]
    rw [List.take_of_length_le (by simp [Str.length]), List.take_of_length_le h]
theorem slice_take1 (x : Str) (n : Nat) : Txt.slice x none (some ((n : Int) + 1)) = ⟨(x.cps.toList.take (n + 1)).toArray⟩ := slice_take x (n + 1)
theorem str_mk_inj {a b : List Nat} : ((⟨a.toArray⟩ : Str) = ⟨b.toArray⟩) ↔ a = b := by
  constructor
  · intro h; injection h with h; simpa using h
  · rintro rfl; rfl

theorem lcpL_self_take : ∀ (x y : List Nat), lcpL x y = x.take (lcpL x y).length
  | [], _ => by simp [lcpL]
  | _ :: _, [] => by simp [lcpL]
  | a :: x, b :: y => by
    unfold lcpL
    split
    · rw [List.length_cons, List.take_succ_cons, ← lcpL_self_take x y]
    · rfl
theorem lcpL_le : ∀ (x y : List Nat), (lcpL x y).length ≤ x.length ∧ (lcpL x y).length ≤ y.length
  | [], _ => by simp [lcpL]
  | _ :: _, [] => by simp [lcpL]
  | a :: x, b :: y => by
    unfold lcpL
    have := lcpL_le x y
    split
    · simp only [List.length_cons]; lia
    · simp
theorem lcpL_take : ∀ (x y : List Nat) (n : Nat), n ≤ (lcpL x y).length → x.take n = y.take n
  | _, _, 0, _ => by simp
  | [], _, n + 1, h => by simp [lcpL] at h
  | _ :: _, [], n + 1, h => by simp [lcpL] at h
  | a :: x, b :: y, n + 1, h => by
    unfold lcpL at h
    split at h
    · next e =>
      subst e
      rw [List.take_succ_cons, List.take_succ_cons, lcpL_take x y n (by simpa using h)]
    · simp at h
theorem lcpL_max : ∀ (x y : List Nat) (n : Nat), n ≤ x.length → n ≤ y.length → x.take n = y.take n → n ≤ (lcpL x y).length
  | _, _, 0, _, _, _ => Nat.zero_le _
  | [], _, n + 1, h, _, _ => by simp at h
  | _ :: _, [], n + 1, _, h, _ => by simp at h
  | a :: x, b :: y, n + 1, h1, h2, h => by
    rw [List.take_succ_cons, List.take_succ_cons] at h
    injection h with e h
    subst e
    unfold lcpL
    rw [if_pos rfl]
    have := lcpL_max x y n (by simpa using h1) (by simpa using h2) h
    simpa using this
theorem lcpC_iff {x y : Str} {n : Nat} : lcpC x y n = true ↔ n + 1 ≤ (lcpL x.cps.toList y.cps.toList).length := by
  unfold lcpC
  rw [slice_take1, slice_take1]
  simp only [Bool.and_eq_true, decide_eq_true_eq, str_mk_inj]
  have hl := lcpL_le x.cps.toList y.cps.toList
  have h1 : x.length = x.cps.toList.length := by simp [Str.length]
  have h2 : y.length = y.cps.toList.length := by simp [Str.length]
  rw [h1, h2]
  constructor
  · rintro ⟨⟨h, h3⟩, h4⟩; exact lcpL_max _ _ _ h3 h4 h
  · intro h; exact ⟨⟨lcpL_take _ _ _ h, by lia⟩, by lia⟩
theorem lcpF_eq {x y : Str} : ∀ (k n : Nat), n ≤ (lcpL x.cps.toList y.cps.toList).length → x.length ≤ k + n → lcpF x y k n = (lcpL x.cps.toList y.cps.toList).length
  | 0, n, h1, h2 => by
    have hl := (lcpL_le x.cps.toList y.cps.toList).1
    have h3 : x.cps.toList.length = x.length := by simp [Str.length]
    rw [h3] at hl
    unfold lcpF; lia
  | k + 1, n, h1, h2 => by
    unfold lcpF
    split
    · next h => exact lcpF_eq k (n + 1) (lcpC_iff.mp h) (by lia)
    · next h =>
      have : ¬ (n + 1 ≤ (lcpL x.cps.toList y.cps.toList).length) := fun q => h (lcpC_iff.mpr q)
      lia
theorem lcpS_eq (x y : Str) : lcpS x y = ⟨(lcpL x.cps.toList y.cps.toList).toArray⟩ := by
  unfold lcpS
  rw [lcpF_eq x.length 0 (Nat.zero_le _) (Nat.le_refl _), slice_take, str_mk_inj]
  exact (lcpL_self_take _ _).symm
theorem startswith_eq (w o : Str) : Txt.startswith w o = o.cps.toList.isPrefixOf w.cps.toList := by
  rw [Bool.eq_iff_iff, List.isPrefixOf_iff_prefix]
  unfold Txt.startswith PySem.Builtin.Str.subAt
  simp only [Bool.and_eq_true, decide_eq_true_eq, beq_iff_eq, Nat.zero_add]
  rw [List.prefix_iff_eq_take]
  have e : (w.cps.extract 0 o.length = o.cps) ↔ w.cps.toList.take o.cps.toList.length = o.cps.toList := by
    rw [← Array.toList_inj]
    simp [Str.length]
  rw [e]
  constructor
  · rintro ⟨_, h⟩; exact h.symm
  · intro h
    refine ⟨?_, h.symm⟩
    have := congrArg List.length h
    rw [List.length_take] at this
    simp only [Str.length, ← Array.length_toList] at *
    lia
theorem begB_eq (o w : Str) : begB o w = begL o.cps.toList w.cps.toList := by
  unfold begB begL
  rw [startswith_eq]
  congr 1
  have : o = w ↔ o.cps.toList = w.cps.toList := by
    constructor
    · rintro rfl; rfl
    · intro h; obtain ⟨⟨a⟩⟩ := o; obtain ⟨⟨b⟩⟩ := w; simpa using h
  simp [this]
/-- the words as lists -/
noncomputable def wordLF : Nat → Nat → List Nat → List Nat
  | 0, _, x => x
  | f + 1, n, x => if n = 0 then x else wordLF f (n / 2) ((if n % 2 = 0 then 48 else 49) :: x)
noncomputable def wordL (n : Nat) : List Nat := wordLF 6 n []
theorem wordF_eq : ∀ (f n : Nat) (x : List Nat), wordF f n ⟨x.toArray⟩ = ⟨(wordLF f n x).toArray⟩
  | 0, n, x => rfl
  | f + 1, n, x => by
    unfold wordF wordLF
    split
    · rfl
    · rw [← wordF_eq f (n / 2)]
      congr 1
      unfold digS
      split <;> (show Str.append _ _ = _; unfold Str.append; simp)
theorem wordS_eq (n : Nat) : wordS (n : Int) = ⟨(wordL n).toArray⟩ := by
  unfold wordS wordL
  rw [← wordF_eq]
  simp only [Int.toNat_natCast]
  rfl
/-- the same over the natural numbers -/
noncomputable def cutN (a s : Nat) : Nat := a / 2 ^ (a.log2 - s)
noncomputable def xorN (x y : Nat) : Nat := (x ||| y) - (x &&& y)
noncomputable def topN (a b : Nat) : Nat := cutN a (min a.log2 b.log2) / (if xorN (cutN a (min a.log2 b.log2)) (cutN b (min a.log2 b.log2)) = 0 then 1 else 2 * 2 ^ (xorN (cutN a (min a.log2 b.log2)) (cutN b (min a.log2 b.log2))).log2)
noncomputable def preN (t n : Nat) : Bool := decide (t.log2 < n.log2) && decide (n / 2 ^ (n.log2 - t.log2) = t)
theorem hbI_nat {a : Nat} (h : 0 < a) : hbI (a : Int) = (a.log2 : Int) := by
  unfold hbI Builtin.Int.intBits
  rw [if_neg (by simp; lia)]
  simp
theorem fdiv_nat (a b : Nat) : (a : Int).fdiv (2 ^ b) = ((a / 2 ^ b : Nat) : Int) := by
  rw [show ((2 : Int) ^ b) = ((2 ^ b : Nat) : Int) by push_cast; rfl, Int.fdiv_eq_ediv_of_nonneg _ (Int.natCast_nonneg _)]
  exact (Int.natCast_ediv _ _).symm
theorem bitXor_natN (x y : Nat) : Builtin.bitXor (x : Int) (y : Int) = ((x ||| y : Nat) : Int) - ((x &&& y : Nat) : Int) := by
  unfold Builtin.bitXor Builtin.bitOr Builtin.bitAnd Builtin.bitNot
  have h1 : ¬ (0 : Int) ≤ -(x : Int) - 1 := by lia
  have h2 : ¬ (0 : Int) ≤ -(y : Int) - 1 := by lia
  have h3 : (0 : Int) ≤ (x : Int) := by lia
  have h4 : (0 : Int) ≤ (y : Int) := by lia
  simp only [h1, h2, h3, h4, decide_true, decide_false]
  have e : ∀ z : Int, -(-z - 1) - 1 = z := by intro z; lia
  simp only [e, Int.toNat_natCast]
theorem and_le_or (x y : Nat) : x &&& y ≤ x ||| y := Nat.le_trans Nat.and_le_left Nat.left_le_or
theorem bitXor_xorN (x y : Nat) : Builtin.bitXor (x : Int) (y : Int) = (xorN x y : Int) := by
  rw [bitXor_natN]; unfold xorN; have := and_le_or x y; lia
theorem shortI_nat {a b : Nat} (ha : 0 < a) (hb : 0 < b) : shortI (a : Int) (b : Int) = (min a.log2 b.log2 : Nat) := by
  unfold shortI
  rw [hbI_nat ha, hbI_nat hb]
  split <;> lia
theorem topI_nat {a b : Nat} (ha : 0 < a) (hb : 0 < b) : topI (a : Int) (b : Int) = (topN a b : Int) := by
  unfold topI cutI cutJ
  rw [shortI_nat ha hb, hbI_nat ha, hbI_nat hb]
  have e1 : ((a.log2 : Int) - ((min a.log2 b.log2 : Nat) : Int)).toNat = a.log2 - min a.log2 b.log2 := Int.toNat_sub _ _
  have e2 : ((b.log2 : Int) - ((min a.log2 b.log2 : Nat) : Int)).toNat = b.log2 - min a.log2 b.log2 := Int.toNat_sub _ _
  rw [e1, e2, fdiv_nat a, fdiv_nat b]
  show Int.fdiv ((cutN a (min a.log2 b.log2) : Nat) : Int) (2 ^ (hbI (Builtin.bitXor ((cutN a (min a.log2 b.log2) : Nat) : Int) ((cutN b (min a.log2 b.log2) : Nat) : Int)) + 1).toNat) = _
  rw [bitXor_xorN, fdiv_nat]
  unfold topN
  by_cases h : xorN (cutN a (min a.log2 b.log2)) (cutN b (min a.log2 b.log2)) = 0
  · rw [h]; rfl
  · rw [hbI_nat (by lia), if_neg h]
    have e3 : (((xorN (cutN a (min a.log2 b.log2)) (cutN b (min a.log2 b.log2))).log2 : Int) + 1).toNat = (xorN (cutN a (min a.log2 b.log2)) (cutN b (min a.log2 b.log2))).log2 + 1 := rfl
    rw [e3, Nat.pow_succ, Nat.mul_comm]
theorem preI_nat {a b : Nat} (ha : 0 < a) (hb : 0 < b) : preI (a : Int) (b : Int) = preN a b := by
  unfold preI preN
  rw [hbI_nat ha, hbI_nat hb, fdiv_nat]
  have e : ((b.log2 : Int) - (a.log2 : Int)).toNat = b.log2 - a.log2 := Int.toNat_sub _ _
  rw [e, Bool.eq_iff_iff]
  simp only [Bool.and_eq_true, decide_eq_true_eq]
  lia

noncomputable def okPair (a b : Nat) : Bool := decide (wordL (topN a b) = lcpL (wordL a) (wordL b)) && (preN a b == begL (wordL a) (wordL b))
noncomputable def valL (w : List Nat) : Nat := w.foldl (fun v c => 2 * v + (c - 48)) 0
theorem okWords : ((List.range 63).all fun a => decide (valL (wordL (a + 1)) = a + 1) && decide ((wordL (a + 1)).head? = some 49)) = true := by decide +kernel
theorem okPairs : ((List.range 63).all fun a => (List.range 63).all fun b => okPair (a + 1) (b + 1)) = true := by decide +kernel

section
variable (pre : Int → Int → Bool)
/-- behind each number all those that begin with it -/
noncomputable def stretI : Nat → List Int → List Int
  | 0, _ => []
  | f + 1, ws => ws.reverse.flatMap fun w => if (ws.filter fun o => pre o w) = [] then w :: stretI f (ws.filter fun o => pre w o) else []
noncomputable def predsI (row : List Int) (n : Int) : List Int := row.filter fun t => pre t n
noncomputable def belowI (row : List Int) (p : Int) : List Int := row.filter fun y => pre p y
noncomputable def rootsI (row : List Int) : List Int := row.filter fun k => decide (predsI pre row k = [])
noncomputable def gStart (row : List Int) : List GV := row.map fun k => (k, 0, [])
noncomputable def gEdges (row : List Int) (i : Nat) : List GV := (row.take i).foldl (fun g k => gAddEdges g k (predsI pre row k)) (gStart row)
noncomputable def gFull (row : List Int) : List GV := row.map fun k => (k, ((predsI pre row k).length : Int), belowI pre row k)
noncomputable def statI (row D pile : List Int) (k : Int) : Int := if k ∈ D then -2 else if k ∈ pile then -1 else (((predsI pre row k).filter fun t => decide (t ∉ D)).length : Int)
noncomputable def gSt (row D pile : List Int) : List GV := row.map fun k => (k, statI pre row D pile k, belowI pre row k)
structure PreOk (row : List Int) : Prop where
  nd : row.Nodup
  tr : ∀ a ∈ row, ∀ b ∈ row, ∀ c ∈ row, pre a b = true → pre b c = true → pre a c = true
  irr : ∀ a ∈ row, pre a a = false
  ch : ∀ a ∈ row, ∀ b ∈ row, ∀ c ∈ row, pre a c = true → pre b c = true → a = b ∨ pre a b = true ∨ pre b a = true
structure PInv (row D pile : List Int) : Prop where
  dnd : D.Nodup
  dr : ∀ x ∈ D, x ∈ row
  pnd : pile.Nodup
  pr : ∀ x ∈ pile, x ∈ row
  dj : ∀ x ∈ pile, x ∉ D
  dcl : ∀ x ∈ D, ∀ y ∈ row, pre y x = true → y ∈ D
  pcl : ∀ x ∈ pile, ∀ y ∈ row, pre y x = true → y ∈ D
  opn : ∀ x ∈ row, x ∉ D → x ∉ pile → ∃ y ∈ row, pre y x = true ∧ y ∉ D
end

theorem stretI_succ {pre : Int → Int → Bool} {f : Nat} {ws : List Int} : stretI pre (f + 1) ws = ws.reverse.flatMap fun w => if (ws.filter fun o => pre o w) = [] then w :: stretI pre f (ws.filter fun o => pre w o) else [] := rfl
theorem stretI_fuel {pre : Int → Int → Bool} : ∀ (n : Nat) (ws : List Int) (f : Nat), (∀ w ∈ ws, pre w w = false) → ws.length ≤ n → ws.length ≤ f → stretI pre f ws = stretI pre ws.length ws
  | n, [], f, _, _, _ => by cases f <;> simp [stretI]
  | 0, a :: ws, f, _, h, _ => by simp at h
  | n + 1, a :: ws, 0, _, _, h => by simp at h
  | n + 1, a :: ws, f + 1, hi, h1, h2 => by
    have hlen : ∀ w ∈ a :: ws, ((a :: ws).filter fun o => pre w o).length ≤ ws.length := by
      intro w hw
      have : ((a :: ws).filter fun o => pre w o).length < (a :: ws).length := by
        rw [List.length_filter_lt_length_iff_exists]
        exact ⟨w, hw, by simp [hi w hw]⟩
      rw [List.length_cons] at this
      exact Nat.le_of_lt_succ this
    rw [List.length_cons, stretI_succ, stretI_succ]
    rw [List.flatMap_def, List.flatMap_def]
    congr 1
    apply List.map_congr_left
    intro w hw
    have hw : w ∈ a :: ws := List.mem_reverse.mp hw
    split
    · congr 1
      have hi' : ∀ o ∈ (a :: ws).filter fun o => pre w o, pre o o = false := fun o ho => hi o (List.mem_filter.mp ho).1
      have hl := hlen w hw
      simp only [List.length_cons] at h1 h2
      rw [stretI_fuel n _ f hi' (by lia) (by lia), stretI_fuel n _ ws.length hi' (by lia) hl]
    · rfl
theorem flatMap_filter {α β : Type} (l : List α) (p : α → Bool) (f : α → List β) : (l.flatMap fun w => if p w = true then f w else []) = (l.filter p).flatMap f := by
  induction l with
  | nil => rfl
  | cons a l ih =>
    rw [List.flatMap_cons, List.filter_cons, ih]
    split <;> simp_all
theorem stretI_step {pre : Int → Int → Bool} {ws : List Int} (hi : ∀ w ∈ ws, pre w w = false) :
    stretI pre ws.length ws = (rootsI pre ws).reverse.flatMap fun w => w :: stretI pre (belowI pre ws w).length (belowI pre ws w) := by
  have h := stretI_fuel (pre := pre) ws.length ws (ws.length + 1) hi (Nat.le_refl _) (by lia)
  rw [← h, stretI_succ]
  unfold rootsI
  rw [← List.filter_reverse, ← flatMap_filter]
  rw [List.flatMap_def, List.flatMap_def]
  congr 1
  apply List.map_congr_left
  intro w hw
  by_cases hr : (ws.filter fun o => pre o w) = []
  · rw [if_pos hr, if_pos (by simpa [predsI] using hr)]
    congr 1
    exact stretI_fuel ws.length _ _ (fun o ho => hi o (List.mem_filter.mp ho).1) (List.length_filter_le ..) (List.length_filter_le ..)
  · rw [if_neg hr, if_neg (by simpa [predsI] using hr)]

section
variable {pre : Int → Int → Bool} {row : List Int}
theorem belowI_below (P : PreOk pre row) {p w : Int} (hp : p ∈ row) (hw : w ∈ row) (h : pre p w = true) : belowI pre (belowI pre row p) w = belowI pre row w := by
  unfold belowI
  rw [List.filter_filter]
  apply List.filter_congr
  intro o ho
  cases h1 : pre w o with
  | false => rfl
  | true => rw [P.tr p hp w hw o ho h h1]; rfl
noncomputable def tree (pre : Int → Int → Bool) (row : List Int) (p : Int) : List Int := p :: stretI pre (belowI pre row p).length (belowI pre row p)
theorem tree_eq (P : PreOk pre row) {p : Int} (hp : p ∈ row) : tree pre row p = p :: (rootsI pre (belowI pre row p)).reverse.flatMap (tree pre row) := by
  unfold tree
  rw [stretI_step]
  · congr 1
    rw [List.flatMap_def, List.flatMap_def]
    congr 1
    apply List.map_congr_left
    intro w hw
    have hw : w ∈ belowI pre row p := (List.mem_filter.mp (List.mem_reverse.mp hw)).1
    obtain ⟨h1, h2⟩ := List.mem_filter.mp hw
    rw [belowI_below P hp h1 h2]
  · intro w hw
    exact P.irr w (List.mem_filter.mp hw).1
theorem strets_eq (P : PreOk pre row) : stretI pre row.length row = (rootsI pre row).reverse.flatMap (tree pre row) := stretI_step P.irr

/-- what is ready behind p -/
noncomputable def readyI (pre : Int → Int → Bool) (row D : List Int) (p : Int) : List Int := (belowI pre row p).filter fun y => decide (statI pre row D [] y - 1 = 0)

theorem gMod_map {row : List Int} {f : Int → Int} {b : Int → List Int} {s : Int} {h : GV → GV} {f' : Int → Int} {b' : Int → List Int} (hh : ∀ k ∈ row, k = s → h (k, f k, b k) = (k, f' k, b' k)) (hn : ∀ k ∈ row, k ≠ s → f' k = f k ∧ b' k = b k) :
    gMod (row.map fun k => (k, f k, b k)) s h = row.map fun k => (k, f' k, b' k) := by
  unfold gMod
  rw [List.map_map]
  apply List.map_congr_left
  intro k hk
  simp only [Function.comp]
  split
  · next e => exact hh k hk e
  · next e => obtain ⟨e1, e2⟩ := hn k hk e; rw [e1, e2]
theorem gNp_map {row : List Int} {f : Int → Int} {b : Int → List Int} {s : Int} (hs : s ∈ row) : gNp (row.map fun k => (k, f k, b k)) s = f s := by
  unfold gNp
  have : ((row.map fun k => (k, f k, b k)).find? fun v => decide (v.1 = s)) = some (s, f s, b s) := by
    induction row with
    | nil => cases hs
    | cons a row ih =>
      rw [List.map_cons, List.find?_cons]
      by_cases e : a = s
      · subst e; simp
      · simp only [e, decide_false]
        exact ih (by rcases List.mem_cons.mp hs with h | h; exact absurd h.symm e; exact h)
  rw [this]; rfl
theorem gSteps {row : List Int} {b : Int → List Int} : ∀ (ss : List Int) (f : Int → Int) (rs : List Int), ss.Nodup → (∀ s ∈ ss, s ∈ row) →
    ss.foldl gStep (row.map (fun k => (k, f k, b k)), rs) = (row.map (fun k => (k, if k ∈ ss then f k - 1 else f k, b k)), rs ++ ss.filter fun s => decide (f s - 1 = 0))
  | [], f, rs, _, _ => by simp
  | s :: ss, f, rs, hn, hr => by
    rw [List.nodup_cons] at hn
    have e1 : gMod (row.map fun k => (k, f k, b k)) s (fun v => (v.1, v.2.1 - 1, v.2.2)) = row.map fun k => (k, if k = s then f k - 1 else f k, b k) :=
      gMod_map (fun k _ e => by simp [e]) (fun k _ e => by simp [e])
    have e2 := gNp_map (f := fun k => if k = s then f k - 1 else f k) (b := b) (hr s (.head _))
    rw [List.foldl_cons]
    have e3 : gStep (row.map (fun k => (k, f k, b k)), rs) s = (row.map fun k => (k, if k = s then f k - 1 else f k, b k), if f s - 1 = 0 then rs ++ [s] else rs) := by
      unfold gStep
      simp only [e1]
      rw [e2]
      simp
    rw [e3, gSteps ss (fun k => if k = s then f k - 1 else f k) _ hn.2 fun s hs => hr s (.tail _ hs)]
    congr 1
    · apply List.map_congr_left
      intro k _
      by_cases h : k = s
      · subst h; simp [hn.1]
      · simp [h]
    · rw [List.filter_cons]
      have e4 : (ss.filter fun s' => decide ((if s' = s then f s' - 1 else f s') - 1 = 0)) = ss.filter fun s => decide (f s - 1 = 0) := by
        apply List.filter_congr
        intro k hk
        rw [if_neg (by rintro rfl; exact hn.1 hk)]
      rw [e4]
      by_cases h : f s - 1 = 0 <;> simp [h]
theorem gOut_map {row : List Int} {b : Int → List Int} : ∀ (rs : List Int) (f : Int → Int), gOut (row.map fun k => (k, f k, b k)) rs = row.map fun k => (k, if k ∈ rs then -1 else f k, b k)
  | [], f => by simp [gOut]
  | r :: rs, f => by
    have e1 : gMod (row.map fun k => (k, f k, b k)) r (fun v => (v.1, -1, v.2.2)) = row.map fun k => (k, if k = r then -1 else f k, b k) :=
      gMod_map (fun k _ e => by simp [e]) (fun k _ e => by simp [e])
    have ih := gOut_map (row := row) (b := b) rs fun k => if k = r then -1 else f k
    unfold gOut at ih ⊢
    rw [List.foldl_cons, e1, ih]
    apply List.map_congr_left
    intro k _
    by_cases h : k ∈ rs
    · simp [h]
    · by_cases h' : k = r <;> simp [h, h']
end

section
variable {pre : Int → Int → Bool} {row D rest : List Int} {p : Int}
theorem cnt_step (P : PreOk pre row) {k : Int} (hp : p ∈ row) (hk : pre p k = true) (hD : p ∉ D) :
    ((predsI pre row k).filter fun t => decide (t ∉ D)).length = ((predsI pre row k).filter fun t => decide (t ∉ p :: D)).length + 1 := by
  have hn : ((predsI pre row k).filter fun t => decide (t ∉ D)).Nodup := (P.nd.filter _).filter _
  have hm : p ∈ (predsI pre row k).filter fun t => decide (t ∉ D) := by
    rw [List.mem_filter]
    exact ⟨List.mem_filter.mpr ⟨hp, hk⟩, by simpa using hD⟩
  have e : ((predsI pre row k).filter fun t => decide (t ∉ p :: D)) = ((predsI pre row k).filter fun t => decide (t ∉ D)).erase p := by
    rw [hn.erase_eq_filter, List.filter_filter]
    apply List.filter_congr
    intro t _
    by_cases h : t = p <;> simp [h]
  rw [e, List.length_erase_of_mem hm]
  have := List.length_pos_of_mem hm
  lia
theorem cnt_same {k : Int} (hk : pre p k = false) :
    ((predsI pre row k).filter fun t => decide (t ∉ D)) = ((predsI pre row k).filter fun t => decide (t ∉ p :: D)) := by
  apply List.filter_congr
  intro t ht
  have ht := (List.mem_filter.mp ht).2
  have : t ≠ p := by rintro rfl; rw [hk] at ht; cases ht
  simp [this]
theorem cnt_zero {k : Int} : ((predsI pre row k).filter fun t => decide (t ∉ D)).length = 0 ↔ ∀ y ∈ row, pre y k = true → y ∈ D := by
  rw [List.length_eq_zero_iff, List.filter_eq_nil_iff]
  constructor
  · intro h y hy hp
    have := h y (List.mem_filter.mpr ⟨hy, hp⟩)
    simpa using this
  · intro h y hy
    obtain ⟨h1, h2⟩ := List.mem_filter.mp hy
    simpa using h y h1 h2
theorem mem_below {y : Int} : y ∈ belowI pre row p ↔ y ∈ row ∧ pre p y = true := List.mem_filter

theorem mem_ready (P : PreOk pre row) (I : PInv pre row D (rest ++ [p])) {y : Int} : y ∈ readyI pre row D p ↔ y ∈ row ∧ pre p y = true ∧ ∀ t ∈ row, pre t y = true → t ∈ p :: D := by
  have hp := I.pr p (by simp)
  have hpD := I.dj p (by simp)
  unfold readyI
  rw [List.mem_filter, mem_below]
  constructor
  · rintro ⟨⟨h1, h2⟩, h3⟩
    refine ⟨h1, h2, ?_⟩
    have hyD : y ∉ D := fun h => hpD (I.dcl y h p hp h2)
    rw [← cnt_zero]
    have := cnt_step P hp h2 hpD
    simp only [statI, hyD, if_false, List.not_mem_nil, decide_eq_true_eq] at h3
    lia
  · rintro ⟨h1, h2, h3⟩
    refine ⟨⟨h1, h2⟩, ?_⟩
    have hyD : y ∉ D := fun h => hpD (I.dcl y h p hp h2)
    rw [← cnt_zero] at h3
    have := cnt_step P hp h2 hpD
    simp only [statI, hyD, if_false, List.not_mem_nil, decide_eq_true_eq]
    lia
theorem PInv.rest_ne (I : PInv pre row D (rest ++ [p])) : ∀ x ∈ rest, x ≠ p := by
  intro x hx e
  have := I.pnd
  rw [List.nodup_append] at this
  exact this.2.2 x hx p (by simp) e
theorem PInv.step (P : PreOk pre row) (I : PInv pre row D (rest ++ [p])) : PInv pre row (p :: D) (rest ++ readyI pre row D p) := by
  have hp := I.pr p (by simp)
  have hpD := I.dj p (by simp)
  have hR : ∀ y, y ∈ readyI pre row D p ↔ y ∈ row ∧ pre p y = true ∧ ∀ t ∈ row, pre t y = true → t ∈ p :: D := fun y => mem_ready P I
  have hrne := I.rest_ne
  have hrest : ∀ x ∈ rest, pre p x = true → False := fun x hx h => hpD (I.pcl x (List.mem_append_left _ hx) p hp h)
  refine ⟨List.nodup_cons.mpr ⟨hpD, I.dnd⟩, ?_, ?_, ?_, ?_, ?_, ?_, ?_⟩
  · intro x hx
    rcases List.mem_cons.mp hx with rfl | hx
    · exact hp
    · exact I.dr x hx
  · rw [List.nodup_append]
    refine ⟨(List.nodup_append.mp I.pnd).1, (P.nd.filter _).filter _, ?_⟩
    rintro a ha b hb rfl
    exact hrest a ha ((hR a).mp hb).2.1
  · intro x hx
    rcases List.mem_append.mp hx with hx | hx
    · exact I.pr x (List.mem_append_left _ hx)
    · exact ((hR x).mp hx).1
  · intro x hx hm
    rcases List.mem_append.mp hx with hx | hx
    · rcases List.mem_cons.mp hm with e | hm
      · exact hrne x hx e
      · exact I.dj x (List.mem_append_left _ hx) hm
    · obtain ⟨h1, h2, h3⟩ := (hR x).mp hx
      rcases List.mem_cons.mp hm with rfl | hm
      · rw [P.irr _ h1] at h2; cases h2
      · exact hpD (I.dcl x hm p hp h2)
  · intro x hx y hy h
    rcases List.mem_cons.mp hx with rfl | hx
    · exact .tail _ (I.pcl _ (by simp) y hy h)
    · exact .tail _ (I.dcl x hx y hy h)
  · intro x hx y hy h
    rcases List.mem_append.mp hx with hx | hx
    · exact .tail _ (I.pcl x (List.mem_append_left _ hx) y hy h)
    · exact ((hR x).mp hx).2.2 y hy h
  · intro x hx h1 h2
    cases h : pre p x with
    | true =>
      have h3 : ¬ ∀ t ∈ row, pre t x = true → t ∈ p :: D := fun h3 => h2 (List.mem_append_right _ ((hR x).mpr ⟨hx, h, h3⟩))
      refine Classical.byContradiction fun h4 => h3 fun t ht hpt => Classical.byContradiction fun h5 => h4 ⟨t, ht, hpt, h5⟩
    | false =>
      obtain ⟨y, hy, h4, h5⟩ := I.opn x hx (fun h => h1 (.tail _ h)) (fun h => by
        rcases List.mem_append.mp h with h | h
        · exact h2 (List.mem_append_left _ h)
        · exact h1 (by rw [List.mem_singleton.mp h]; exact .head _))
      refine ⟨y, hy, h4, fun h6 => ?_⟩
      rcases List.mem_cons.mp h6 with rfl | h6
      · rw [h] at h4; cases h4
      · exact h5 h6
noncomputable def gMid (pre : Int → Int → Bool) (row D rest : List Int) (p : Int) : List GV :=
  row.map fun k => (k, if k ∈ belowI pre row p then (if k = p then -2 else statI pre row D (rest ++ [p]) k) - 1 else (if k = p then -2 else statI pre row D (rest ++ [p]) k), belowI pre row k)
theorem done_step (P : PreOk pre row) (I : PInv pre row D (rest ++ [p])) : gDone (gSt pre row D (rest ++ [p])) [] p (belowI pre row p) = (gMid pre row D rest p, readyI pre row D p) := by
  have hp := I.pr p (by simp)
  have hpD := I.dj p (by simp)
  unfold gDone gSt
  have e1 : gMod (row.map fun k => (k, statI pre row D (rest ++ [p]) k, belowI pre row k)) p (fun v => (v.1, -2, v.2.2)) = row.map fun k => (k, if k = p then -2 else statI pre row D (rest ++ [p]) k, belowI pre row k) :=
    gMod_map (fun k _ e => by simp [e]) (fun k _ e => by simp [e])
  rw [e1, gSteps (belowI pre row p) (fun k => if k = p then -2 else statI pre row D (rest ++ [p]) k) [] (P.nd.filter _) fun s hs => (mem_below.mp hs).1]
  unfold gMid readyI
  rw [List.nil_append]
  congr 1
  apply List.filter_congr
  intro y hy
  obtain ⟨h1, h2⟩ := mem_below.mp hy
  have hyp : y ≠ p := by rintro rfl; rw [P.irr _ h1] at h2; cases h2
  have hyr : y ∉ rest ++ [p] := fun h => hpD (I.pcl y h p hp h2)
  simp only [statI, hyr, if_false, hyp, List.not_mem_nil]
theorem out_step (P : PreOk pre row) (I : PInv pre row D (rest ++ [p])) : gOut (gMid pre row D rest p) (readyI pre row D p) = gSt pre row (p :: D) (rest ++ readyI pre row D p) := by
  have hp := I.pr p (by simp)
  have hpD := I.dj p (by simp)
  have hR : ∀ y, y ∈ readyI pre row D p ↔ y ∈ row ∧ pre p y = true ∧ ∀ t ∈ row, pre t y = true → t ∈ p :: D := fun y => mem_ready P I
  unfold gMid gSt
  rw [gOut_map]
  apply List.map_congr_left
  intro k hk
  congr 2
  by_cases hkp : k = p
  · subst hkp
    have h1 : k ∉ belowI pre row k := fun h => by have := (mem_below.mp h).2; rw [P.irr _ hk] at this; cases this
    have h2 : k ∉ readyI pre row D k := fun h => h1 (List.mem_filter.mp h).1
    simp [h1, h2, statI]
  by_cases hkD : k ∈ D
  · have h1 : k ∉ belowI pre row p := fun h => hpD (I.dcl k hkD p hp (mem_below.mp h).2)
    have h2 : k ∉ readyI pre row D p := fun h => h1 (List.mem_filter.mp h).1
    simp [h1, h2, statI, hkD, hkp]
  have hkD' : k ∉ p :: D := fun h => (List.mem_cons.mp h).elim hkp hkD
  by_cases hkr : k ∈ rest
  · have h1 : k ∉ belowI pre row p := fun h => hpD (I.pcl k (List.mem_append_left _ hkr) p hp (mem_below.mp h).2)
    have h2 : k ∉ readyI pre row D p := fun h => h1 (List.mem_filter.mp h).1
    simp only [h1, h2, if_false, hkp, statI, hkD, hkD', List.mem_append_left _ hkr, if_true]
  have hkr1 : k ∉ rest ++ [p] := fun h => (List.mem_append.mp h).elim hkr fun h => hkp (List.mem_singleton.mp h)
  by_cases hkR : k ∈ readyI pre row D p
  · simp only [hkR, if_true, statI, hkD', if_false, List.mem_append_right _ hkR]
  have hkr2 : k ∉ rest ++ readyI pre row D p := fun h => (List.mem_append.mp h).elim hkr hkR
  simp only [hkR, if_false, hkp, statI, hkD, hkr1, hkD', hkr2]
  by_cases hb : k ∈ belowI pre row p
  · rw [if_pos hb, cnt_step P hp (mem_below.mp hb).2 hpD]
    lia
  · have h : pre p k = false := by
      cases h : pre p k with
      | false => rfl
      | true => exact absurd (mem_below.mpr ⟨hk, h⟩) hb
    rw [if_neg hb, cnt_same h]
theorem ready_roots (P : PreOk pre row) (I : PInv pre row D (rest ++ [p])) : rootsI pre (belowI pre row p) = readyI pre row D p := by
  have hp := I.pr p (by simp)
  have hpD := I.dj p (by simp)
  have hR : ∀ y, y ∈ readyI pre row D p ↔ y ∈ row ∧ pre p y = true ∧ ∀ t ∈ row, pre t y = true → t ∈ p :: D := fun y => mem_ready P I
  have : readyI pre row D p = (belowI pre row p).filter fun y => decide (y ∈ readyI pre row D p) := by
    unfold readyI
    apply List.filter_congr
    intro y hy
    simp [hy]
  rw [this]
  unfold rootsI
  apply List.filter_congr
  intro y hy
  obtain ⟨h1, h2⟩ := mem_below.mp hy
  rw [Bool.eq_iff_iff, decide_eq_true_eq, decide_eq_true_eq, hR]
  unfold predsI
  rw [List.filter_eq_nil_iff]
  constructor
  · intro h
    refine ⟨h1, h2, fun t ht hty => ?_⟩
    rcases P.ch t ht p hp y h1 hty h2 with e | e | e
    · rw [e]; exact .head _
    · exact .tail _ (I.pcl p (by simp) t ht e)
    · exact absurd hty (h t (mem_below.mpr ⟨ht, e⟩))
  · rintro ⟨_, _, h⟩ o ho hoy
    obtain ⟨h3, h4⟩ := mem_below.mp ho
    rcases List.mem_cons.mp (h o h3 hoy) with rfl | h5
    · rw [P.irr _ h3] at h4; cases h4
    · exact hpD (I.dcl o h5 p hp h4)
theorem order_step (P : PreOk pre row) (I : PInv pre row D (rest ++ [p])) : (rest ++ [p]).reverse.flatMap (tree pre row) = p :: (rest ++ readyI pre row D p).reverse.flatMap (tree pre row) := by
  rw [List.reverse_append, List.reverse_append, List.flatMap_append, List.flatMap_append, ← ready_roots P I]
  simp only [List.reverse_cons, List.reverse_nil, List.nil_append, List.flatMap_cons, List.flatMap_nil, List.append_nil]
  rw [tree_eq P (I.pr p (by simp))]
  rfl
theorem PInv.start (P : PreOk pre row) : PInv pre row [] (rootsI pre row) := by
  refine ⟨.nil, fun x h => (nomatch h), P.nd.filter _, fun x h => (List.mem_filter.mp h).1, fun x _ h => (nomatch h), fun x h => (nomatch h), ?_, ?_⟩
  · intro x hx y hy h
    have := (List.mem_filter.mp hx).2
    rw [decide_eq_true_eq] at this
    have hm : y ∈ predsI pre row x := List.mem_filter.mpr ⟨hy, h⟩
    rw [this] at hm; cases hm
  · intro x hx _ h
    cases e : predsI pre row x with
    | nil => exact absurd (List.mem_filter.mpr ⟨hx, by simpa using e⟩) h
    | cons y l =>
      have hm : y ∈ predsI pre row x := by rw [e]; exact .head _
      obtain ⟨h1, h2⟩ := List.mem_filter.mp hm
      exact ⟨y, h1, h2, fun h => (nomatch h)⟩
theorem gOut_start : gOut (gFull pre row) (rootsI pre row) = gSt pre row [] (rootsI pre row) := by
  unfold gFull gSt
  rw [gOut_map]
  apply List.map_congr_left
  intro k hk
  have : ((predsI pre row k).filter fun t => decide (t ∉ ([] : List Int))) = predsI pre row k := by
    rw [List.filter_eq_self]; intro t _; simp
  simp only [statI, this]
  simp
theorem gFull_ready : ((gFull pre row).filter fun v => decide (v.2.1 = 0)).map (·.1) = rootsI pre row := by
  unfold gFull rootsI
  rw [List.filter_map, List.map_map]
  have : ((·.1) ∘ fun k => (k, ((predsI pre row k).length : Int), belowI pre row k) : Int → Int) = id := rfl
  rw [this, List.map_id]
  apply List.filter_congr
  intro k _
  simp only [Function.comp]
  rw [Bool.eq_iff_iff, decide_eq_true_eq, decide_eq_true_eq]
  rw [← List.length_eq_zero_iff]
  lia

theorem gAdds {row : List Int} {n : Int} : ∀ (ps : List Int) (f : Int → Int) (b : Int → List Int), ps.Nodup → ps.foldl (fun g p => gMod g p fun v => (v.1, v.2.1, v.2.2 ++ [n])) (row.map fun k => (k, f k, b k)) = row.map fun k => (k, f k, if k ∈ ps then b k ++ [n] else b k)
  | [], f, b, _ => by simp
  | p :: ps, f, b, hn => by
    rw [List.nodup_cons] at hn
    have e1 : gMod (row.map fun k => (k, f k, b k)) p (fun v => (v.1, v.2.1, v.2.2 ++ [n])) = row.map fun k => (k, f k, if k = p then b k ++ [n] else b k) :=
      gMod_map (fun k _ e => by simp [e]) (fun k _ e => by simp [e])
    rw [List.foldl_cons, e1, gAdds ps f _ hn.2]
    apply List.map_congr_left
    intro k _
    by_cases h : k = p
    · subst h; simp [hn.1]
    · simp [h]
theorem gAddEdges_map {row : List Int} {n : Int} {ps : List Int} {f : Int → Int} {b : Int → List Int} (hn : ps.Nodup) :
    gAddEdges (row.map fun k => (k, f k, b k)) n ps = row.map fun k => (k, if k = n then f k + ps.length else f k, if k ∈ ps then b k ++ [n] else b k) := by
  unfold gAddEdges
  have e1 : gMod (row.map fun k => (k, f k, b k)) n (fun v => (v.1, v.2.1 + ps.length, v.2.2)) = row.map fun k => (k, if k = n then f k + ps.length else f k, b k) :=
    gMod_map (fun k _ e => by simp [e]) (fun k _ e => by simp [e])
  rw [e1, gAdds ps _ _ hn]
theorem gEdges_eq (P : PreOk pre row) : ∀ i, i ≤ row.length → gEdges pre row i = row.map fun k => (k, if k ∈ row.take i then ((predsI pre row k).length : Int) else 0, (row.take i).filter fun y => pre k y)
  | 0, _ => by simp [gEdges, gStart]
  | i + 1, h => by
    have ih := gEdges_eq P i (by lia)
    have hi : i < row.length := by lia
    have e : row.take (i + 1) = row.take i ++ [row[i]] := by rw [List.take_add_one, List.getElem?_eq_getElem hi]; rfl
    have hn : row[i] ∉ row.take i := by
      have := P.nd
      rw [← List.take_append_drop (i + 1) row, List.nodup_append, e, List.nodup_append] at this
      intro hm
      exact this.1.2.2 _ hm row[i] (by simp) rfl
    have e2 : gEdges pre row (i + 1) = gAddEdges (gEdges pre row i) row[i] (predsI pre row row[i]) := by
      unfold gEdges
      rw [e, List.foldl_append]; rfl
    rw [e2, ih, gAddEdges_map (ps := predsI pre row row[i]) (P.nd.filter _), e]
    apply List.map_congr_left
    intro k hk
    have e3 : k ∈ row.take i ++ [row[i]] ↔ k ∈ row.take i ∨ k = row[i] := by rw [List.mem_append, List.mem_singleton]
    congr 2
    · simp only [e3]
      by_cases h : k = row[i]
      · subst h; simp [hn]
      · simp [h]
    · rw [List.filter_append]
      by_cases h : pre k row[i] = true
      · have hm : k ∈ predsI pre row row[i] := List.mem_filter.mpr ⟨hk, h⟩
        simp [hm, h]
      · have hm : k ∉ predsI pre row row[i] := fun q => h (List.mem_filter.mp q).2
        simp [hm, h]
theorem gEdges_all (P : PreOk pre row) : gEdges pre row row.length = gFull pre row := by
  rw [gEdges_eq P _ (Nat.le_refl _), List.take_length]
  unfold gFull
  apply List.map_congr_left
  intro k hk
  simp [hk, belowI]
end

noncomputable def InR (n : Int) : Prop := 1 ≤ n ∧ n ≤ 63
theorem okPair_of {a b : Nat} (ha : 1 ≤ a) (ha' : a ≤ 63) (hb : 1 ≤ b) (hb' : b ≤ 63) : wordL (topN a b) = lcpL (wordL a) (wordL b) ∧ preN a b = begL (wordL a) (wordL b) := by
  have h := List.all_eq_true.mp okPairs (a - 1) (List.mem_range.mpr (by lia))
  have h := List.all_eq_true.mp h (b - 1) (List.mem_range.mpr (by lia))
  rw [Nat.sub_add_cancel ha, Nat.sub_add_cancel hb] at h
  unfold okPair at h
  simp only [Bool.and_eq_true, decide_eq_true_eq, beq_iff_eq] at h
  exact h
theorem okWord_of {a : Nat} (ha : 1 ≤ a) (ha' : a ≤ 63) : valL (wordL a) = a ∧ (wordL a).head? = some 49 := by
  have h := List.all_eq_true.mp okWords (a - 1) (List.mem_range.mpr (by lia))
  rw [Nat.sub_add_cancel ha] at h
  simp only [Bool.and_eq_true, decide_eq_true_eq] at h
  exact h
theorem InR.nat {n : Int} (h : InR n) : ∃ k : Nat, n = (k : Int) ∧ 1 ≤ k ∧ k ≤ 63 := by
  obtain ⟨h1, h2⟩ := h
  exact ⟨n.toNat, by lia, by lia, by lia⟩
theorem topN_le (a b : Nat) : topN a b ≤ a := by
  unfold topN
  exact Nat.le_trans (Nat.div_le_self ..) (by unfold cutN; exact Nat.div_le_self ..)
theorem word_top {a b : Int} (ha : InR a) (hb : InR b) : InR (topI a b) ∧ wordS (topI a b) = lcpS (wordS a) (wordS b) := by
  obtain ⟨m, rfl, m1, m2⟩ := ha.nat
  obtain ⟨n, rfl, n1, n2⟩ := hb.nat
  obtain ⟨h, _⟩ := okPair_of m1 m2 n1 n2
  rw [topI_nat m1 n1, wordS_eq, wordS_eq, wordS_eq, lcpS_eq]
  refine ⟨?_, by rw [h]⟩
  have h1 := topN_le m n
  have h2 : topN m n ≠ 0 := by
    intro e
    rw [e] at h
    have e1 := (okWord_of m1 m2).2
    have e2 := (okWord_of n1 n2).2
    cases hm : wordL m with
    | nil => rw [hm] at e1; cases e1
    | cons x l =>
      cases hn : wordL n with
      | nil => rw [hn] at e2; cases e2
      | cons y l' =>
        rw [hm] at e1; rw [hn] at e2
        simp only [List.head?_cons, Option.some.injEq] at e1 e2
        rw [hm, hn, e1, e2] at h
        have : wordL 0 = [] := rfl
        rw [this] at h
        simp [lcpL] at h
  constructor <;> lia
theorem pre_beg {a b : Int} (ha : InR a) (hb : InR b) : preI a b = begB (wordS a) (wordS b) := by
  obtain ⟨m, rfl, m1, m2⟩ := ha.nat
  obtain ⟨n, rfl, n1, n2⟩ := hb.nat
  rw [preI_nat m1 n1, wordS_eq, wordS_eq, begB_eq]
  exact (okPair_of m1 m2 n1 n2).2
theorem word_inj {a b : Int} (ha : InR a) (hb : InR b) (h : wordS a = wordS b) : a = b := by
  obtain ⟨m, rfl, m1, m2⟩ := ha.nat
  obtain ⟨n, rfl, n1, n2⟩ := hb.nat
  rw [wordS_eq, wordS_eq, str_mk_inj] at h
  have := (okWord_of m1 m2).1
  rw [h, (okWord_of n1 n2).1] at this
  rw [this]
theorem begL_iff {o w : List Nat} : begL o w = true ↔ o ≠ w ∧ o <+: w := by
  unfold begL
  rw [Bool.and_eq_true, decide_eq_true_eq, List.isPrefixOf_iff_prefix]
theorem begB_irr (w : Str) : begB w w = false := by unfold begB; simp
theorem begB_iff {o w : Str} : begB o w = true ↔ o ≠ w ∧ o.cps.toList <+: w.cps.toList := by
  rw [begB_eq, begL_iff]
  have : o ≠ w ↔ o.cps.toList ≠ w.cps.toList := by
    constructor
    · intro h e; apply h; obtain ⟨⟨a⟩⟩ := o; obtain ⟨⟨b⟩⟩ := w; simpa using e
    · rintro h rfl; exact h rfl
  rw [this]
theorem pre_ok {row : List Int} (hn : row.Nodup) (hr : ∀ x ∈ row, InR x) : PreOk preI row where
  nd := hn
  tr := by
    intro a ha b hb c hc h1 h2
    rw [pre_beg (hr a ha) (hr b hb), begB_iff] at h1
    rw [pre_beg (hr b hb) (hr c hc), begB_iff] at h2
    rw [pre_beg (hr a ha) (hr c hc), begB_iff]
    refine ⟨?_, h1.2.trans h2.2⟩
    intro e
    rw [e] at h1
    have := h2.2.eq_of_length_le h1.2.length_le
    apply h1.1
    have ext : ∀ x y : Str, x.cps.toList = y.cps.toList → x = y := by
      rintro ⟨⟨x⟩⟩ ⟨⟨y⟩⟩ h; simpa using h
    exact (ext _ _ this).symm
  irr := by intro a ha; rw [pre_beg (hr a ha) (hr a ha)]; exact begB_irr _
  ch := by
    intro a ha b hb c hc h1 h2
    rw [pre_beg (hr a ha) (hr c hc), begB_iff] at h1
    rw [pre_beg (hr b hb) (hr c hc), begB_iff] at h2
    rw [pre_beg (hr a ha) (hr b hb), pre_beg (hr b hb) (hr a ha), begB_iff, begB_iff]
    by_cases e : a = b
    · exact .inl e
    · have ne : wordS a ≠ wordS b := fun q => e (word_inj (hr a ha) (hr b hb) q)
      rcases Nat.le_total (wordS a).cps.toList.length (wordS b).cps.toList.length with h | h
      · exact .inr (.inl ⟨ne, List.prefix_of_prefix_length_le h1.2 h2.2 h⟩)
      · exact .inr (.inr ⟨ne.symm, List.prefix_of_prefix_length_le h2.2 h1.2 h⟩)
/-- the rank of a number -/
theorem pre_rank {a b : Int} (h : preI a b = true) : (hbI a).toNat < (hbI b).toNat ∨ hbI a < 0 := by
  unfold preI at h
  simp only [Bool.and_eq_true, decide_eq_true_eq] at h
  lia
theorem hbI_pos {a : Int} (h : InR a) : 0 ≤ hbI a := by
  obtain ⟨m, rfl, m1, _⟩ := h.nat
  rw [hbI_nat m1]; lia

theorem mem_map_word {row : List Int} {t : Int} (hr : ∀ x ∈ row, InR x) (ht : InR t) : wordS t ∈ row.map wordS ↔ t ∈ row := by
  constructor
  · intro h
    obtain ⟨x, hx, e⟩ := List.mem_map.mp h
    rw [← word_inj (hr x hx) ht e]; exact hx
  · exact fun h => List.mem_map_of_mem h
theorem addI_word {row : List Int} {t : Int} (hr : ∀ x ∈ row, InR x) (ht : InR t) : (addI row t).map wordS = addS (row.map wordS) (wordS t) ∧ ∀ x ∈ addI row t, InR x := by
  unfold addI addS
  by_cases h : t ∈ row
  · rw [if_pos h, if_pos ((mem_map_word hr ht).mpr h)]; exact ⟨rfl, hr⟩
  · rw [if_neg h, if_neg (fun q => h ((mem_map_word hr ht).mp q)), List.map_append]
    refine ⟨rfl, fun x hx => ?_⟩
    rcases List.mem_append.mp hx with hx | hx
    · exact hr x hx
    · rw [List.mem_singleton.mp hx]; exact ht
theorem addI_nodup {row : List Int} {t : Int} (hn : row.Nodup) : (addI row t).Nodup := by
  unfold addI
  split
  · exact hn
  · next h =>
    rw [List.nodup_append]
    exact ⟨hn, by simp, fun a ha b hb e => by rw [List.mem_singleton.mp hb] at e; exact h (e ▸ ha)⟩
theorem getD_map_word {ds : List Int} {i : Nat} (hi : i < ds.length) : (ds.map wordS).getD i Str.empty = wordS (ds.getD i 0) := by
  rw [List.getD_eq_getElem?_getD, List.getD_eq_getElem?_getD, List.getElem?_map, List.getElem?_eq_getElem hi]; rfl
theorem getD_mem {ds : List Int} {i : Nat} (hi : i < ds.length) : ds.getD i 0 ∈ ds := by
  rw [List.getD_eq_getElem?_getD, List.getElem?_eq_getElem hi]; exact List.getElem_mem hi
theorem fold_word {γ : Type} {P : γ → Prop} {f : List Int → γ → List Int} {g : List Str → γ → List Str}
    (h : ∀ row x, P x → (∀ y ∈ row, InR y) → row.Nodup → (f row x).map wordS = g (row.map wordS) x ∧ (∀ y ∈ f row x, InR y) ∧ (f row x).Nodup) :
    ∀ (l : List γ) (row : List Int), (∀ x ∈ l, P x) → (∀ y ∈ row, InR y) → row.Nodup → (l.foldl f row).map wordS = l.foldl g (row.map wordS) ∧ (∀ y ∈ l.foldl f row, InR y) ∧ (l.foldl f row).Nodup
  | [], row, _, hr, hn => ⟨rfl, hr, hn⟩
  | x :: l, row, hl, hr, hn => by
    obtain ⟨h1, h2, h3⟩ := h row x (hl x (.head _)) hr hn
    rw [List.foldl_cons, List.foldl_cons, ← h1]
    exact fold_word h l _ (fun y hy => hl y (.tail _ hy)) h2 h3
theorem closed_words {ds : List Int} (hd : ∀ x ∈ ds, InR x) (hn : ds.Nodup) : (closedL ds).map wordS = begsL (ds.map wordS) ∧ (∀ y ∈ closedL ds, InR y) ∧ (closedL ds).Nodup := by
  unfold closedL begsL
  rw [List.length_map]
  refine fold_word (P := fun k => k < ds.length) ?_ _ _ (fun x hx => List.mem_range.mp hx) hd hn
  intro row k hk hr hn
  unfold closedRow begsRow
  rw [List.length_map]
  refine fold_word (P := fun j => k + 1 + j < ds.length) ?_ _ _ (fun j hj => by have := List.mem_range.mp hj; lia) hr hn
  intro row j hj hr hn
  rw [getD_map_word hk, getD_map_word hj]
  obtain ⟨h1, h2⟩ := word_top (hd _ (getD_mem hk)) (hd _ (getD_mem hj))
  rw [← h2]
  obtain ⟨h3, h4⟩ := addI_word hr h1
  exact ⟨h3, h4, addI_nodup hn⟩
theorem drawn_ok (ns : List Int) : (∀ x ∈ drawnL ns, InR x) ∧ (drawnL ns).Nodup ∧ (drawnL ns).length ≤ 3 + ns.length := by
  unfold drawnL
  have : ∀ (ns d : List Int), (∀ x ∈ d, InR x) → d.Nodup → (∀ x ∈ ns.foldl drawnStep d, InR x) ∧ (ns.foldl drawnStep d).Nodup ∧ (ns.foldl drawnStep d).length ≤ d.length + ns.length := by
    intro ns
    induction ns with
    | nil => intro d h1 h2; exact ⟨h1, h2, by simp⟩
    | cons n ns ih =>
      intro d h1 h2
      have hm : InR (n.fmod 63 + 1) := by
        have e : n.fmod 63 = n % 63 := Int.fmod_eq_emod_of_nonneg _ (by decide)
        have := Int.emod_nonneg n (show (63 : Int) ≠ 0 by decide)
        have := Int.emod_lt_of_pos n (show (0 : Int) < 63 by decide)
        rw [e]; constructor <;> lia
      have h3 : (∀ x ∈ drawnStep d n, InR x) ∧ (drawnStep d n).Nodup ∧ (drawnStep d n).length ≤ d.length + 1 := by
        unfold drawnStep
        split
        · exact ⟨h1, h2, by lia⟩
        · next h =>
          refine ⟨fun x hx => ?_, ?_, by simp⟩
          · rcases List.mem_append.mp hx with hx | hx
            · exact h1 x hx
            · rw [List.mem_singleton.mp hx]; exact hm
          · rw [List.nodup_append]
            exact ⟨h2, by simp, fun a ha b hb e => by rw [List.mem_singleton.mp hb] at e; exact h (e ▸ ha)⟩
      rw [List.foldl_cons]
      obtain ⟨a, b, c⟩ := ih _ h3.1 h3.2.1
      exact ⟨a, b, by rw [List.length_cons]; lia⟩
  refine this ns [21, 44, 38] ?_ (by decide)
  intro x hx
  simp only [List.mem_cons, List.not_mem_nil, or_false] at hx
  rcases hx with rfl | rfl | rfl <;> (constructor <;> decide)
theorem inR_length {row : List Int} (hn : row.Nodup) (hr : ∀ x ∈ row, InR x) : row.length ≤ 63 := by
  have h : row.length ≤ ((List.range 63).map fun k => ((k : Nat) : Int) + 1).length := nodup_length_le hn fun x hx => by
    obtain ⟨m, rfl, m1, m2⟩ := (hr x hx).nat
    refine List.mem_map.mpr ⟨m - 1, List.mem_range.mpr (by lia), by lia⟩
  simpa using h
/-- the law's own stretches -/
noncomputable def strF : Nat → List Str → List Str
  | 0, _ => []
  | f + 1, ws => ws.reverse.flatMap fun w => if (ws.filter fun o => begB o w) = [] then w :: strF f (ws.filter fun o => begB w o) else []
theorem strets_words : ∀ (f : Nat) (row : List Int), (∀ x ∈ row, InR x) → (stretI preI f row).map wordS = strF f (row.map wordS)
  | 0, _, _ => rfl
  | f + 1, row, hr => by
    rw [stretI_succ]
    show _ = (row.map wordS).reverse.flatMap _
    rw [List.map_flatMap, ← List.map_reverse, List.flatMap_map]
    rw [List.flatMap_def, List.flatMap_def]
    congr 1
    apply List.map_congr_left
    intro w hw
    have hw := hr w (List.mem_reverse.mp hw)
    have e1 : (row.map wordS).filter (fun o => begB o (wordS w)) = (row.filter fun o => preI o w).map wordS := by
      rw [List.filter_map]; congr 1
      apply List.filter_congr
      intro o ho
      exact (pre_beg (hr o ho) hw).symm
    have e2 : (row.map wordS).filter (fun o => begB (wordS w) o) = (row.filter fun o => preI w o).map wordS := by
      rw [List.filter_map]; congr 1
      apply List.filter_congr
      intro o ho
      exact (pre_beg hw (hr o ho)).symm
    rw [e1, e2]
    by_cases h : (row.filter fun o => preI o w) = []
    · rw [if_pos h, if_pos (by rw [h]; rfl), List.map_cons, strets_words f _ fun x hx => hr x (List.mem_filter.mp hx).1]
    · rw [if_neg h, if_neg (by rwa [List.map_eq_nil_iff])]; rfl

theorem strs_at {vs : List Value} {ns : List Str} (h : StrsAre vs ns) : ∀ {i : Nat} {v : Value}, vs[i]? = some v → ∃ k t, ns[i]? = some k ∧ v = .str k t := by
  induction h with
  | nil => intro i v e; simp at e
  | cons n t _ ih =>
    intro i v e
    cases i with
    | zero => simp at e; exact ⟨n, t, by simp, e.symm⟩
    | succ i => simp at e; simpa using ih e
theorem strs_get {vs : List Value} {ws : List Str} (h : StrsAre vs ws) {i : Nat} (hi : i < ws.length) : ∃ x t, ws.getD i Str.empty = x ∧ x ∈ ws ∧ vs[i]? = some (.str x t) := by
  have hl := h.length
  have hv : vs[i]? = some vs[i] := List.getElem?_eq_getElem (by omega)
  focus (refine hid fun hGo => ?_; obtain ⟨x, t, h1, h2⟩ := strs_at h hv; all_goals (refine hGo ?_; clear hGo))
  refine ⟨x, t, ?_, List.mem_of_getElem? h1, by rw [hv, h2]⟩
  rw [List.getD_eq_getElem?_getD, h1]; rfl
theorem item_at {w : World} {A : Around} {s : Shared} {E : Value → Shared → Prop} {value slice : Expr} {l : Addr} {vs : List Value} {k : Int} {u t : Tok} {x : Str} {Q : Value → Shared → Prop}
    (hl : s.heap.IsList l vs.toArray) (h0 : 0 ≤ k) (hhi : k < 2 ^ 63) (hx : vs[k.toNat]? = some (.str x t)) (h : Q (.str x t) s)
    (hs : subscripted slice false (.ref l) (.int k u) = operate [.ref l, .int k u] (getItem (.ref l) (.int k u)) := by rfl) :
    wpAny (model PP w) A (subscriptTail value slice (.ref l) (.int k u)) Q E s :=
  tail_any hl.typeIs slot_list_getitem.lookup (wpAny_getItem_list hl h0 hhi (by simpa using hx) h) hs
theorem lcpF_stop {x y : Str} {n : Nat} (h : lcpC x y n = false) (k : Nat) : lcpF x y k n = n := by
  cases k with
  | zero => rfl
  | succ k => unfold lcpF; rw [h]; rfl
theorem lcpF_go {x y : Str} {n : Nat} (h : lcpC x y n = true) (k : Nat) : lcpF x y (k + 1) n = lcpF x y k (n + 1) := by
  rw [lcpF, if_pos h]
theorem lcpC_t {x y : Str} {n : Nat} (h1 : (Txt.slice x none (some ((n : Int) + 1)) == Txt.slice y none (some ((n : Int) + 1))) = true) (h2 : (n : Int) < (x.length : Int)) (h3 : (n : Int) < (y.length : Int)) : lcpC x y n = true := by
  unfold lcpC
  rw [beq_iff_eq.mp h1, decide_eq_true (show n < x.length by omega), decide_eq_true (show n < y.length by omega)]
  simp
theorem lcpC_f1 {x y : Str} {n : Nat} (h1 : (Txt.slice x none (some ((n : Int) + 1)) == Txt.slice y none (some ((n : Int) + 1))) = false) : lcpC x y n = false := by
  unfold lcpC
  rw [decide_eq_false (by simpa using h1)]; rfl
theorem lcpC_f2 {x y : Str} {n : Nat} (h2 : ¬ (n : Int) < (x.length : Int)) : lcpC x y n = false := by
  unfold lcpC
  rw [decide_eq_false (show ¬ n < x.length by omega)]; simp
theorem lcpC_f3 {x y : Str} {n : Nat} (h2 : ¬ (n : Int) < (y.length : Int)) : lcpC x y n = false := by
  unfold lcpC
  rw [decide_eq_false (show ¬ n < y.length by omega)]; simp
theorem mem_anyS {ds : List Str} {y : Str} (h : (ds.any fun x => x == y) = true) : y ∈ ds := by
  focus (refine hid fun hGo => ?_; obtain ⟨x, hx, e⟩ := List.any_eq_true.mp h; all_goals (refine hGo ?_; clear hGo))
  exact (beq_iff_eq.mp e) ▸ hx
theorem not_mem_anyS {ds : List Str} {y : Str} (h : (ds.any fun x => x == y) = false) : y ∉ ds := fun hm => by
  have : (ds.any fun x => x == y) = true := List.any_eq_true.mpr ⟨y, hm, by simp⟩
  rw [h] at this; cases this
inductive BgA (D : Nat) (a : Nat) (ws : List Str) (I : Nat) (i : Nat) (m₁ : Str → Option Value) (news₁ : List (Addr × Obj)) : Prop
  | mk (e1 : @LT.lt Nat _ D I) (un : Option Value) (uj : Option Value) (uk : Option Value) (us : Array Value) (n : Nat) (e2 : news₁ = [(D, W.listOf us n)]) (e3 : us.size ≤ 100 + 100 * i) (e4 : StrsAre us.toList ((List.range i).foldl (fun r k => begsRow ws r k) ws)) (e5 : m₁ = fun y => if y = Str.ofString "n" then un else if y = Str.ofString "j" then uj else if y = Str.ofString "k" then uk else if y = Str.ofString "row" then some (.ref D) else List.lookup y [(Str.ofString "words", Value.ref a)].reverse) : BgA D a ws I i m₁ news₁
inductive BgB (D : Nat) (I : Nat) (a : Nat) (i : Nat) (oI : Obj) (t : Tok) (ws : List Str) (I' : Nat) (j : Nat) (m₁ : Str → Option Value) (news₁ : List (Addr × Obj)) : Prop
  | mk (e1 : @LT.lt Nat _ D I') (e2 : @LT.lt Nat _ I I') (un : Option Value) (uj : Option Value) (us : Array Value) (n : Nat) (e3 : news₁ = [(I, oI), (D, W.listOf us n)]) (e4 : us.size ≤ 100 + 100 * i + j) (e5 : StrsAre us.toList ((List.range j).foldl (fun r j => addS r (lcpS (ws.getD i Str.empty) (ws.getD (i + 1 + j) Str.empty))) ((List.range i).foldl (fun r k => begsRow ws r k) ws))) (e6 : m₁ = fun y => if y = Str.ofString "n" then un else if y = Str.ofString "j" then uj else if y = Str.ofString "k" then some (.int (0 + (i : Int)) t) else if y = Str.ofString "row" then some (.ref D) else List.lookup y [(Str.ofString "words", Value.ref a)].reverse) : BgB D I a i oI t ws I' j m₁ news₁
inductive BgC (D : Nat) (I : Nat) (I' : Nat) (a : Nat) (i : Nat) (j : Nat) (oI : Obj) (oI' : Obj) (t : Tok) (t' : Tok) (us : Array Value) (n : Nat) (x : Str) (y : Str) (k : Nat) (m₁ : Str → Option Value) (news₁ : List (Addr × Obj)) : Prop
  | mk (n₁ : Nat) (tn : Tok) (e1 : news₁ = [(I', oI'), (I, oI), (D, W.listOf us n)]) (e2 : n₁ + k = x.length) (e3 : n₁ ≤ y.length) (e4 : lcpF x y k n₁ = lcpF x y x.length 0) (e5 : m₁ = fun y => if y = Str.ofString "n" then some (.int (n₁ : Nat) tn) else if y = Str.ofString "j" then some (.int (0 + (i : Int) + 1 + (j : Int)) t') else if y = Str.ofString "k" then some (.int (0 + (i : Int)) t) else if y = Str.ofString "row" then some (.ref D) else List.lookup y [(Str.ofString "words", Value.ref a)].reverse) : BgC D I I' a i j oI oI' t t' us n x y k m₁ news₁
theorem begs_spec {w : World} {A : Around} {s : Shared} {a : Addr} {vs : List Value} {ws : List Str} {Q : Value → Shared → Prop} {E : Value → Shared → Prop}
    (G : Gd w s.heap) (hA : Le A (std 970 7000)) (hl : s.heap.IsList a vs.toArray) (hi : StrsAre vs ws) (hn : vs.length ≤ 100) (hlen : ∀ x ∈ ws, x.length ≤ 6)
    (hQ : ∀ h' tk D us n, Kp s.heap h' → s.heap.get? D = none → h'.get? D = some { cls := .type "list", data := .seq us n } → StrsAre us.toList (begsL ws) → Q (.ref D) { s with heap := h', toks := tk }) :
    wpAny (model PP w) A (call (.ref 181) [.ref a]) Q E s := by
  refine wpAny_le hA ?_
  have X := G.X
  focus (refine hid fun hGo => ?_; obtain ⟨mg, mb, T⟩ := G.T; all_goals (refine hGo ?_; clear hGo))
  refine enter (binds := [(Str.ofString "words", .ref a)]) G (by decide) (by k_is) (by k_is) (BindsTo.of_eq rfl) (by decide) (locs rfl) ?_
  intro h₁ L tk F N
  refine execs_seq ?_
  intro Q₁ hn₁ hr₁ hb₁ hc₁
  repeat' (first | ((with_reducible show wpAny _ _ (execs (_ :: _) _) _ _ _); refine execs_seq ?_; intro QZs hnZs hrZs hbZs hcZs) | (refine hnZs _ ?_; clear hnZs hrZs hbZs hcZs) | (refine hrZs _ _ ?_) | (refine hbZs _ ?_) | (refine hcZs _ ?_) | ((with_reducible show wpAny _ _ (subscriptTail _ (Expr.Slice none (some _) none _) (Value.str _ _) _) _ _ _); (refine slice_strN_ns (hsz := by exact Nat.le_trans (by assumption) (by rw [sizeLine_eq]; decide)) (s := ⟨_, _, _, _, _⟩) (by assumption) (by assumption) ?_); intro hZq tZq tkZq FZq NZq; (try dsimp only)) | ((with_reducible show wpAny _ _ (subscriptTail _ (Expr.Name _ _) (Value.ref _) (Value.int _ _)) _ _ _); (refine item_at (Heap.IsList.at (by assumption) fun o e => Fr.keep (by assumption) _ _ e) (by first | with_reducible assumption | omega) (by first | with_reducible assumption | omega) (by assumption) ?_)) | ((with_reducible show wpAny _ _ (call (Value.builtin "len") [Value.ref _]) _ _ _); refine Calls.call_len_list (Heap.IsList.at (by assumption) fun o e => Fr.keep (by assumption) _ _ e) (by simp only [List.size_toArray]; first | exact lt63 (by assumption) (by exact rfl) | omega) ?_) | ((with_reducible show wpAny _ _ (call (Value.builtin "list.append") [Value.ref _, _]) _ _ _); k_dflt (refine append_K (by k_asm) (by k_asm) (by k_upd) ?_ (by simp only [sizeLine_eq]; first | exact leK (by assumption) (by exact rfl) | omega)); intro hZq FZq NZq; (try k_sweep)) | walk1 | (dsimp only; first | ((with_reducible show wpAny _ _ (execs (_ :: _) _) _ _ _); refine execs_seq ?_; intro QZs hnZs hrZs hbZs hcZs) | (refine hnZs _ ?_; clear hnZs hrZs hbZs hcZs) | (refine hrZs _ _ ?_) | (refine hbZs _ ?_) | (refine hcZs _ ?_) | ((with_reducible show wpAny _ _ (subscriptTail _ (Expr.Slice none (some _) none _) (Value.str _ _) _) _ _ _); (refine slice_strN_ns (hsz := by exact Nat.le_trans (by assumption) (by rw [sizeLine_eq]; decide)) (s := ⟨_, _, _, _, _⟩) (by assumption) (by assumption) ?_); intro hZq tZq tkZq FZq NZq; (try dsimp only)) | ((with_reducible show wpAny _ _ (subscriptTail _ (Expr.Name _ _) (Value.ref _) (Value.int _ _)) _ _ _); (refine item_at (Heap.IsList.at (by assumption) fun o e => Fr.keep (by assumption) _ _ e) (by first | with_reducible assumption | omega) (by first | with_reducible assumption | omega) (by assumption) ?_)) | ((with_reducible show wpAny _ _ (call (Value.builtin "len") [Value.ref _]) _ _ _); refine Calls.call_len_list (Heap.IsList.at (by assumption) fun o e => Fr.keep (by assumption) _ _ e) (by simp only [List.size_toArray]; first | exact lt63 (by assumption) (by exact rfl) | omega) ?_) | ((with_reducible show wpAny _ _ (call (Value.builtin "list.append") [Value.ref _, _]) _ _ _); k_dflt (refine append_K (by k_asm) (by k_asm) (by k_upd) ?_ (by simp only [sizeLine_eq]; first | exact leK (by assumption) (by exact rfl) | omega)); intro hZq FZq NZq; (try k_sweep)) | walk1))
  refine hn₁ _ ?_
  clear hn₁ hr₁ hb₁ hc₁
  refine execs_seq ?_
  intro Q₂ hn₂ hr₂ hb₂ hc₂
  refine wpAny_For ?_ (by intro _; rfl)
  repeat' (first | ((with_reducible show wpAny _ _ (execs (_ :: _) _) _ _ _); refine execs_seq ?_; intro QZs hnZs hrZs hbZs hcZs) | (refine hnZs _ ?_; clear hnZs hrZs hbZs hcZs) | (refine hrZs _ _ ?_) | (refine hbZs _ ?_) | (refine hcZs _ ?_) | ((with_reducible show wpAny _ _ (subscriptTail _ (Expr.Slice none (some _) none _) (Value.str _ _) _) _ _ _); (refine slice_strN_ns (hsz := by exact Nat.le_trans (by assumption) (by rw [sizeLine_eq]; decide)) (s := ⟨_, _, _, _, _⟩) (by assumption) (by assumption) ?_); intro hZq tZq tkZq FZq NZq; (try dsimp only)) | ((with_reducible show wpAny _ _ (subscriptTail _ (Expr.Name _ _) (Value.ref _) (Value.int _ _)) _ _ _); (refine item_at (Heap.IsList.at (by assumption) fun o e => Fr.keep (by assumption) _ _ e) (by first | with_reducible assumption | omega) (by first | with_reducible assumption | omega) (by assumption) ?_)) | ((with_reducible show wpAny _ _ (call (Value.builtin "len") [Value.ref _]) _ _ _); refine Calls.call_len_list (Heap.IsList.at (by assumption) fun o e => Fr.keep (by assumption) _ _ e) (by simp only [List.size_toArray]; first | exact lt63 (by assumption) (by exact rfl) | omega) ?_) | ((with_reducible show wpAny _ _ (call (Value.builtin "list.append") [Value.ref _, _]) _ _ _); k_dflt (refine append_K (by k_asm) (by k_asm) (by k_upd) ?_ (by simp only [sizeLine_eq]; first | exact leK (by assumption) (by exact rfl) | omega)); intro hZq FZq NZq; (try k_sweep)) | walk1 | (dsimp only; first | ((with_reducible show wpAny _ _ (execs (_ :: _) _) _ _ _); refine execs_seq ?_; intro QZs hnZs hrZs hbZs hcZs) | (refine hnZs _ ?_; clear hnZs hrZs hbZs hcZs) | (refine hrZs _ _ ?_) | (refine hbZs _ ?_) | (refine hcZs _ ?_) | ((with_reducible show wpAny _ _ (subscriptTail _ (Expr.Slice none (some _) none _) (Value.str _ _) _) _ _ _); (refine slice_strN_ns (hsz := by exact Nat.le_trans (by assumption) (by rw [sizeLine_eq]; decide)) (s := ⟨_, _, _, _, _⟩) (by assumption) (by assumption) ?_); intro hZq tZq tkZq FZq NZq; (try dsimp only)) | ((with_reducible show wpAny _ _ (subscriptTail _ (Expr.Name _ _) (Value.ref _) (Value.int _ _)) _ _ _); (refine item_at (Heap.IsList.at (by assumption) fun o e => Fr.keep (by assumption) _ _ e) (by first | with_reducible assumption | omega) (by first | with_reducible assumption | omega) (by assumption) ?_)) | ((with_reducible show wpAny _ _ (call (Value.builtin "len") [Value.ref _]) _ _ _); refine Calls.call_len_list (Heap.IsList.at (by assumption) fun o e => Fr.keep (by assumption) _ _ e) (by simp only [List.size_toArray]; first | exact lt63 (by assumption) (by exact rfl) | omega) ?_) | ((with_reducible show wpAny _ _ (call (Value.builtin "list.append") [Value.ref _, _]) _ _ _); k_dflt (refine append_K (by k_asm) (by k_asm) (by k_upd) ?_ (by simp only [sizeLine_eq]; first | exact leK (by assumption) (by exact rfl) | omega)); intro hZq FZq NZq; (try k_sweep)) | walk1))
  all_goals dsimp only at *
  rename Fr _ _ _ _ => F₁
  rename News _ _ _ _ => N₁
  rename IsRange _ _ _ _ _ _ _ _ => hR
  rename_i D _ _ _ _ _ _ _ _ _ _ _ _
  have hszA : vs.toArray.size = vs.length := List.size_toArray
  have hlen' : ws.length = vs.length := hi.length.symm
  have hwn : ws.length ≤ 100 := by rw [hlen']; exact hn
  refine for_rangeI hR rfl (by decide) (by decide) (ar_lo _) (ar_hi (by rw [hszA]; exact hn)) F₁ N₁ (BgA D a ws) ?_ ?_ ?_ ?_
  · focus (rintro I i m₁ news₁ hP0 p hp; refine hid fun hGo => ?_; rcases hP0 with ⟨hlt, _, _, _, _, _, rfl, _⟩; all_goals (refine hGo ?_; clear hGo))
    rw [List.mem_singleton.mp hp]
    exact Nat.ne_of_lt hlt
  · intro I hI _
    exact ⟨hI _ (.head _), none, none, none, _, _, rfl, by simpa using hn, by simpa using hi, (mset rfl).trans ((mset rfl).trans (mset rfl))⟩
  · focus (rintro I i t m₁ news₁ h tk oI hI hLI hii hP0 F₂ N₂; refine hid fun hGo => ?_; rcases hP0 with ⟨hlt, un, uj, uk, us, n, rfl, hsz, hus, rfl⟩; all_goals (refine hGo ?_; clear hGo))
    have hii : i < ws.length := by simpa [hlen'] using hii
    have hiv : i < vs.length := by rw [← hlen']; exact hii
    refine opq ?_
    intro Q₃ h₃
    repeat' (first | ((with_reducible show wpAny _ _ (execs (_ :: _) _) _ _ _); refine execs_seq ?_; intro QZs hnZs hrZs hbZs hcZs) | (refine hnZs _ ?_; clear hnZs hrZs hbZs hcZs) | (refine hrZs _ _ ?_) | (refine hbZs _ ?_) | (refine hcZs _ ?_) | ((with_reducible show wpAny _ _ (subscriptTail _ (Expr.Slice none (some _) none _) (Value.str _ _) _) _ _ _); (refine slice_strN_ns (hsz := by exact Nat.le_trans (by assumption) (by rw [sizeLine_eq]; decide)) (s := ⟨_, _, _, _, _⟩) (by assumption) (by assumption) ?_); intro hZq tZq tkZq FZq NZq; (try dsimp only)) | ((with_reducible show wpAny _ _ (subscriptTail _ (Expr.Name _ _) (Value.ref _) (Value.int _ _)) _ _ _); (refine item_at (Heap.IsList.at (by assumption) fun o e => Fr.keep (by assumption) _ _ e) (by first | with_reducible assumption | omega) (by first | with_reducible assumption | omega) (by assumption) ?_)) | ((with_reducible show wpAny _ _ (call (Value.builtin "len") [Value.ref _]) _ _ _); refine Calls.call_len_list (Heap.IsList.at (by assumption) fun o e => Fr.keep (by assumption) _ _ e) (by simp only [List.size_toArray]; first | exact lt63 (by assumption) (by exact rfl) | omega) ?_) | ((with_reducible show wpAny _ _ (call (Value.builtin "list.append") [Value.ref _, _]) _ _ _); k_dflt (refine append_K (by k_asm) (by k_asm) (by k_upd) ?_ (by simp only [sizeLine_eq]; first | exact leK (by assumption) (by exact rfl) | omega)); intro hZq FZq NZq; (try k_sweep)) | walk1 | (dsimp only; first | ((with_reducible show wpAny _ _ (execs (_ :: _) _) _ _ _); refine execs_seq ?_; intro QZs hnZs hrZs hbZs hcZs) | (refine hnZs _ ?_; clear hnZs hrZs hbZs hcZs) | (refine hrZs _ _ ?_) | (refine hbZs _ ?_) | (refine hcZs _ ?_) | ((with_reducible show wpAny _ _ (subscriptTail _ (Expr.Slice none (some _) none _) (Value.str _ _) _) _ _ _); (refine slice_strN_ns (hsz := by exact Nat.le_trans (by assumption) (by rw [sizeLine_eq]; decide)) (s := ⟨_, _, _, _, _⟩) (by assumption) (by assumption) ?_); intro hZq tZq tkZq FZq NZq; (try dsimp only)) | ((with_reducible show wpAny _ _ (subscriptTail _ (Expr.Name _ _) (Value.ref _) (Value.int _ _)) _ _ _); (refine item_at (Heap.IsList.at (by assumption) fun o e => Fr.keep (by assumption) _ _ e) (by first | with_reducible assumption | omega) (by first | with_reducible assumption | omega) (by assumption) ?_)) | ((with_reducible show wpAny _ _ (call (Value.builtin "len") [Value.ref _]) _ _ _); refine Calls.call_len_list (Heap.IsList.at (by assumption) fun o e => Fr.keep (by assumption) _ _ e) (by simp only [List.size_toArray]; first | exact lt63 (by assumption) (by exact rfl) | omega) ?_) | ((with_reducible show wpAny _ _ (call (Value.builtin "list.append") [Value.ref _, _]) _ _ _); k_dflt (refine append_K (by k_asm) (by k_asm) (by k_upd) ?_ (by simp only [sizeLine_eq]; first | exact leK (by assumption) (by exact rfl) | omega)); intro hZq FZq NZq; (try k_sweep)) | walk1))
    refine h₃ _ _ ?_
    clear h₃
    refine execs_seq ?_
    intro Q₃ hn₃ hr₃ hb₃ hc₃
    refine wpAny_For ?_ (by intro _; rfl)
    refine opq ?_
    intro Q₄ h₄
    repeat' (first | ((with_reducible show wpAny _ _ (execs (_ :: _) _) _ _ _); refine execs_seq ?_; intro QZs hnZs hrZs hbZs hcZs) | (refine hnZs _ ?_; clear hnZs hrZs hbZs hcZs) | (refine hrZs _ _ ?_) | (refine hbZs _ ?_) | (refine hcZs _ ?_) | ((with_reducible show wpAny _ _ (subscriptTail _ (Expr.Slice none (some _) none _) (Value.str _ _) _) _ _ _); (refine slice_strN_ns (hsz := by exact Nat.le_trans (by assumption) (by rw [sizeLine_eq]; decide)) (s := ⟨_, _, _, _, _⟩) (by assumption) (by assumption) ?_); intro hZq tZq tkZq FZq NZq; (try dsimp only)) | ((with_reducible show wpAny _ _ (subscriptTail _ (Expr.Name _ _) (Value.ref _) (Value.int _ _)) _ _ _); (refine item_at (Heap.IsList.at (by assumption) fun o e => Fr.keep (by assumption) _ _ e) (by first | with_reducible assumption | omega) (by first | with_reducible assumption | omega) (by assumption) ?_)) | ((with_reducible show wpAny _ _ (call (Value.builtin "len") [Value.ref _]) _ _ _); refine Calls.call_len_list (Heap.IsList.at (by assumption) fun o e => Fr.keep (by assumption) _ _ e) (by simp only [List.size_toArray]; first | exact lt63 (by assumption) (by exact rfl) | omega) ?_) | ((with_reducible show wpAny _ _ (call (Value.builtin "list.append") [Value.ref _, _]) _ _ _); k_dflt (refine append_K (by k_asm) (by k_asm) (by k_upd) ?_ (by simp only [sizeLine_eq]; first | exact leK (by assumption) (by exact rfl) | omega)); intro hZq FZq NZq; (try k_sweep)) | walk1 | (dsimp only; first | ((with_reducible show wpAny _ _ (execs (_ :: _) _) _ _ _); refine execs_seq ?_; intro QZs hnZs hrZs hbZs hcZs) | (refine hnZs _ ?_; clear hnZs hrZs hbZs hcZs) | (refine hrZs _ _ ?_) | (refine hbZs _ ?_) | (refine hcZs _ ?_) | ((with_reducible show wpAny _ _ (subscriptTail _ (Expr.Slice none (some _) none _) (Value.str _ _) _) _ _ _); (refine slice_strN_ns (hsz := by exact Nat.le_trans (by assumption) (by rw [sizeLine_eq]; decide)) (s := ⟨_, _, _, _, _⟩) (by assumption) (by assumption) ?_); intro hZq tZq tkZq FZq NZq; (try dsimp only)) | ((with_reducible show wpAny _ _ (subscriptTail _ (Expr.Name _ _) (Value.ref _) (Value.int _ _)) _ _ _); (refine item_at (Heap.IsList.at (by assumption) fun o e => Fr.keep (by assumption) _ _ e) (by first | with_reducible assumption | omega) (by first | with_reducible assumption | omega) (by assumption) ?_)) | ((with_reducible show wpAny _ _ (call (Value.builtin "len") [Value.ref _]) _ _ _); refine Calls.call_len_list (Heap.IsList.at (by assumption) fun o e => Fr.keep (by assumption) _ _ e) (by simp only [List.size_toArray]; first | exact lt63 (by assumption) (by exact rfl) | omega) ?_) | ((with_reducible show wpAny _ _ (call (Value.builtin "list.append") [Value.ref _, _]) _ _ _); k_dflt (refine append_K (by k_asm) (by k_asm) (by k_upd) ?_ (by simp only [sizeLine_eq]; first | exact leK (by assumption) (by exact rfl) | omega)); intro hZq FZq NZq; (try k_sweep)) | walk1))
    refine h₄ _ _ ?_
    clear h₄
    all_goals dsimp only at *
    rename Fr _ _ _ _ => F₃
    rename News _ _ _ _ => N₃
    rename IsRange _ _ _ _ _ _ _ _ => hR₃
    have hsum : ∀ j, (List.range (j + 1)).foldl (fun r j => addS r (lcpS (ws.getD i Str.empty) (ws.getD (i + 1 + j) Str.empty))) ((List.range i).foldl (fun r k => begsRow ws r k) ws) = addS ((List.range j).foldl (fun r j => addS r (lcpS (ws.getD i Str.empty) (ws.getD (i + 1 + j) Str.empty))) ((List.range i).foldl (fun r k => begsRow ws r k) ws)) (lcpS (ws.getD i Str.empty) (ws.getD (i + 1 + j) Str.empty)) := by
      intro j; rw [List.range_succ, List.foldl_append]; rfl
    refine for_rangeI hR₃ rfl (ar_lo1 _) (ar_hi1 hiv hn) (ar_lo _) (ar_hi (by rw [hszA]; exact hn)) F₃ N₃ (BgB D I a i oI t ws) ?_ ?_ ?_ ?_
    · focus (rintro I' j m₁ news₁ hP0 p hp; refine hid fun hGo => ?_; rcases hP0 with ⟨hlt, hlt', _, _, _, _, rfl, _⟩; all_goals (refine hGo ?_; clear hGo))
      focus (refine hid fun hGo => ?_; rcases List.mem_cons.mp hp with rfl | hp; all_goals (refine hGo ?_; clear hGo))
      · exact Nat.ne_of_lt hlt'
      · rw [List.mem_singleton.mp hp]; exact Nat.ne_of_lt hlt
    · intro I' hI' _
      refine ⟨hI' _ (.tail _ (.head _)), hI' _ (.head _), un, uj, us, n, rfl, hsz, by assumption, ?_⟩
      ((funext y; (repeat' split) <;> first | rfl | contradiction | (subst_vars; first | rfl | (exfalso; simp +decide at *; done) | (simp_all +decide; done))))
    · focus (rintro I' j t' m₁ news₁ h' tk' oI' hI' hLI' hj hP0 F₄ N₄; refine hid fun hGo => ?_; rcases hP0 with ⟨hlt₁, hlt₂, un, uj, us, n, rfl, hsz, hus, rfl⟩; all_goals (refine hGo ?_; clear hGo))
      have hj' : i + 1 + j < ws.length := by rw [hlen', ← hszA]; exact ar_ij hj
      have e1 := ar_n0 i
      have e2 := ar_n1 i j
      have f1 := ar_0i i
      have f2 := ar_0ij i j
      have f5 := ar_i63 hii hwn
      have f6 := ar_ij63 hj' hwn
      have hz := ar_sz hsz hj' hwn
      focus (refine hid fun hGo => ?_; obtain ⟨x, tx, hgx, hmx, hvx⟩ := strs_get hi hii; all_goals (refine hGo ?_; clear hGo))
      focus (refine hid fun hGo => ?_; obtain ⟨y, ty, hgy, hmy, hvy⟩ := strs_get hi hj'; all_goals (refine hGo ?_; clear hGo))
      have hx6 := hlen x hmx
      have hy6 := hlen y hmy
      rw [← e1] at hvx
      rw [← e2] at hvy
      have hsj := hsum j
      generalize hRj : (List.range j).foldl (fun r j => addS r (lcpS (ws.getD i Str.empty) (ws.getD (i + 1 + j) Str.empty))) ((List.range i).foldl (fun r k => begsRow ws r k) ws) = R at hus hsj
      generalize hRj' : (List.range (j + 1)).foldl (fun r j => addS r (lcpS (ws.getD i Str.empty) (ws.getD (i + 1 + j) Str.empty))) ((List.range i).foldl (fun r k => begsRow ws r k) ws) = R' at hsj ⊢
      rw [hgx, hgy] at hsj
      refine opq ?_
      intro Q₅ h₅
      repeat' (first | ((with_reducible show wpAny _ _ (execs (_ :: _) _) _ _ _); refine execs_seq ?_; intro QZs hnZs hrZs hbZs hcZs) | (refine hnZs _ ?_; clear hnZs hrZs hbZs hcZs) | (refine hrZs _ _ ?_) | (refine hbZs _ ?_) | (refine hcZs _ ?_) | ((with_reducible show wpAny _ _ (subscriptTail _ (Expr.Slice none (some _) none _) (Value.str _ _) _) _ _ _); (refine slice_strN_ns (hsz := by exact Nat.le_trans (by assumption) (by rw [sizeLine_eq]; decide)) (s := ⟨_, _, _, _, _⟩) (by assumption) (by assumption) ?_); intro hZq tZq tkZq FZq NZq; (try dsimp only)) | ((with_reducible show wpAny _ _ (subscriptTail _ (Expr.Name _ _) (Value.ref _) (Value.int _ _)) _ _ _); (refine item_at (Heap.IsList.at (by assumption) fun o e => Fr.keep (by assumption) _ _ e) (by first | with_reducible assumption | omega) (by first | with_reducible assumption | omega) (by assumption) ?_)) | ((with_reducible show wpAny _ _ (call (Value.builtin "len") [Value.ref _]) _ _ _); refine Calls.call_len_list (Heap.IsList.at (by assumption) fun o e => Fr.keep (by assumption) _ _ e) (by simp only [List.size_toArray]; first | exact lt63 (by assumption) (by exact rfl) | omega) ?_) | ((with_reducible show wpAny _ _ (call (Value.builtin "list.append") [Value.ref _, _]) _ _ _); k_dflt (refine append_K (by k_asm) (by k_asm) (by k_upd) ?_ (by simp only [sizeLine_eq]; first | exact leK (by assumption) (by exact rfl) | omega)); intro hZq FZq NZq; (try k_sweep)) | walk1 | (dsimp only; first | ((with_reducible show wpAny _ _ (execs (_ :: _) _) _ _ _); refine execs_seq ?_; intro QZs hnZs hrZs hbZs hcZs) | (refine hnZs _ ?_; clear hnZs hrZs hbZs hcZs) | (refine hrZs _ _ ?_) | (refine hbZs _ ?_) | (refine hcZs _ ?_) | ((with_reducible show wpAny _ _ (subscriptTail _ (Expr.Slice none (some _) none _) (Value.str _ _) _) _ _ _); (refine slice_strN_ns (hsz := by exact Nat.le_trans (by assumption) (by rw [sizeLine_eq]; decide)) (s := ⟨_, _, _, _, _⟩) (by assumption) (by assumption) ?_); intro hZq tZq tkZq FZq NZq; (try dsimp only)) | ((with_reducible show wpAny _ _ (subscriptTail _ (Expr.Name _ _) (Value.ref _) (Value.int _ _)) _ _ _); (refine item_at (Heap.IsList.at (by assumption) fun o e => Fr.keep (by assumption) _ _ e) (by first | with_reducible assumption | omega) (by first | with_reducible assumption | omega) (by assumption) ?_)) | ((with_reducible show wpAny _ _ (call (Value.builtin "len") [Value.ref _]) _ _ _); refine Calls.call_len_list (Heap.IsList.at (by assumption) fun o e => Fr.keep (by assumption) _ _ e) (by simp only [List.size_toArray]; first | exact lt63 (by assumption) (by exact rfl) | omega) ?_) | ((with_reducible show wpAny _ _ (call (Value.builtin "list.append") [Value.ref _, _]) _ _ _); k_dflt (refine append_K (by k_asm) (by k_asm) (by k_upd) ?_ (by simp only [sizeLine_eq]; first | exact leK (by assumption) (by exact rfl) | omega)); intro hZq FZq NZq; (try k_sweep)) | walk1))
      refine h₅ _ _ ?_
      clear h₅
      refine execs_seq ?_
      intro Q₅ hn₅ hr₅ hb₅ hc₅
      repeat' (first | ((with_reducible show wpAny _ _ (execs (_ :: _) _) _ _ _); refine execs_seq ?_; intro QZs hnZs hrZs hbZs hcZs) | (refine hnZs _ ?_; clear hnZs hrZs hbZs hcZs) | (refine hrZs _ _ ?_) | (refine hbZs _ ?_) | (refine hcZs _ ?_) | ((with_reducible show wpAny _ _ (subscriptTail _ (Expr.Slice none (some _) none _) (Value.str _ _) _) _ _ _); (refine slice_strN_ns (hsz := by exact Nat.le_trans (by assumption) (by rw [sizeLine_eq]; decide)) (s := ⟨_, _, _, _, _⟩) (by assumption) (by assumption) ?_); intro hZq tZq tkZq FZq NZq; (try dsimp only)) | ((with_reducible show wpAny _ _ (subscriptTail _ (Expr.Name _ _) (Value.ref _) (Value.int _ _)) _ _ _); (refine item_at (Heap.IsList.at (by assumption) fun o e => Fr.keep (by assumption) _ _ e) (by first | with_reducible assumption | omega) (by first | with_reducible assumption | omega) (by assumption) ?_)) | ((with_reducible show wpAny _ _ (call (Value.builtin "len") [Value.ref _]) _ _ _); refine Calls.call_len_list (Heap.IsList.at (by assumption) fun o e => Fr.keep (by assumption) _ _ e) (by simp only [List.size_toArray]; first | exact lt63 (by assumption) (by exact rfl) | omega) ?_) | ((with_reducible show wpAny _ _ (call (Value.builtin "list.append") [Value.ref _, _]) _ _ _); k_dflt (refine append_K (by k_asm) (by k_asm) (by k_upd) ?_ (by simp only [sizeLine_eq]; first | exact leK (by assumption) (by exact rfl) | omega)); intro hZq FZq NZq; (try k_sweep)) | walk1 | (dsimp only; first | ((with_reducible show wpAny _ _ (execs (_ :: _) _) _ _ _); refine execs_seq ?_; intro QZs hnZs hrZs hbZs hcZs) | (refine hnZs _ ?_; clear hnZs hrZs hbZs hcZs) | (refine hrZs _ _ ?_) | (refine hbZs _ ?_) | (refine hcZs _ ?_) | ((with_reducible show wpAny _ _ (subscriptTail _ (Expr.Slice none (some _) none _) (Value.str _ _) _) _ _ _); (refine slice_strN_ns (hsz := by exact Nat.le_trans (by assumption) (by rw [sizeLine_eq]; decide)) (s := ⟨_, _, _, _, _⟩) (by assumption) (by assumption) ?_); intro hZq tZq tkZq FZq NZq; (try dsimp only)) | ((with_reducible show wpAny _ _ (subscriptTail _ (Expr.Name _ _) (Value.ref _) (Value.int _ _)) _ _ _); (refine item_at (Heap.IsList.at (by assumption) fun o e => Fr.keep (by assumption) _ _ e) (by first | with_reducible assumption | omega) (by first | with_reducible assumption | omega) (by assumption) ?_)) | ((with_reducible show wpAny _ _ (call (Value.builtin "len") [Value.ref _]) _ _ _); refine Calls.call_len_list (Heap.IsList.at (by assumption) fun o e => Fr.keep (by assumption) _ _ e) (by simp only [List.size_toArray]; first | exact lt63 (by assumption) (by exact rfl) | omega) ?_) | ((with_reducible show wpAny _ _ (call (Value.builtin "list.append") [Value.ref _, _]) _ _ _); k_dflt (refine append_K (by k_asm) (by k_asm) (by k_upd) ?_ (by simp only [sizeLine_eq]; first | exact leK (by assumption) (by exact rfl) | omega)); intro hZq FZq NZq; (try k_sweep)) | walk1))
      refine hn₅ _ ?_
      clear hn₅ hr₅ hb₅ hc₅
      refine execs_seq ?_
      intro Q₅ hn₅ hr₅ hb₅ hc₅
      refine wpAny_While ?_
      rename Fr _ _ _ _ => F₆
      rename News _ _ _ _ => N₆
      have join : ∀ h' tk (n₁ : Nat) tn, n₁ = lcpF x y x.length 0 → Fr s.heap L h' (fun y => if y = Str.ofString "n" then some (.int (n₁ : Nat) tn) else if y = Str.ofString "j" then some (.int (0 + (i : Int) + 1 + (j : Int)) t') else if y = Str.ofString "k" then some (.int (0 + (i : Int)) t) else if y = Str.ofString "row" then some (.ref D) else List.lookup y [(Str.ofString "words", Value.ref a)].reverse) → News s.heap L h' [(I', oI'), (I, oI), (D, W.listOf us n)] → Q₅ .next { s with heap := h', toks := tk } := by
        intro h' tk n₁ tn hn₁ F' N'
        refine hn₅ _ ?_
        repeat' (first | ((with_reducible show wpAny _ _ (execs (_ :: _) _) _ _ _); refine execs_seq ?_; intro QZs hnZs hrZs hbZs hcZs) | (refine hnZs _ ?_; clear hnZs hrZs hbZs hcZs) | (refine hrZs _ _ ?_) | (refine hbZs _ ?_) | (refine hcZs _ ?_) | ((with_reducible show wpAny _ _ (subscriptTail _ (Expr.Slice none (some _) none _) (Value.str _ _) _) _ _ _); (refine slice_strN_ns (hsz := by exact Nat.le_trans (by assumption) (by rw [sizeLine_eq]; decide)) (s := ⟨_, _, _, _, _⟩) (by assumption) (by assumption) ?_); intro hZq tZq tkZq FZq NZq; (try dsimp only)) | ((with_reducible show wpAny _ _ (subscriptTail _ (Expr.Name _ _) (Value.ref _) (Value.int _ _)) _ _ _); (refine item_at (Heap.IsList.at (by assumption) fun o e => Fr.keep (by assumption) _ _ e) (by first | with_reducible assumption | omega) (by first | with_reducible assumption | omega) (by assumption) ?_)) | ((with_reducible show wpAny _ _ (call (Value.builtin "len") [Value.ref _]) _ _ _); refine Calls.call_len_list (Heap.IsList.at (by assumption) fun o e => Fr.keep (by assumption) _ _ e) (by simp only [List.size_toArray]; first | exact lt63 (by assumption) (by exact rfl) | omega) ?_) | ((with_reducible show wpAny _ _ (call (Value.builtin "list.append") [Value.ref _, _]) _ _ _); k_dflt (refine append_K (by k_asm) (by k_asm) (by k_upd) ?_ (by simp only [sizeLine_eq]; first | exact leK (by assumption) (by exact rfl) | omega)); intro hZq FZq NZq; (try k_sweep)) | walk1 | (dsimp only; first | ((with_reducible show wpAny _ _ (execs (_ :: _) _) _ _ _); refine execs_seq ?_; intro QZs hnZs hrZs hbZs hcZs) | (refine hnZs _ ?_; clear hnZs hrZs hbZs hcZs) | (refine hrZs _ _ ?_) | (refine hbZs _ ?_) | (refine hcZs _ ?_) | ((with_reducible show wpAny _ _ (subscriptTail _ (Expr.Slice none (some _) none _) (Value.str _ _) _) _ _ _); (refine slice_strN_ns (hsz := by exact Nat.le_trans (by assumption) (by rw [sizeLine_eq]; decide)) (s := ⟨_, _, _, _, _⟩) (by assumption) (by assumption) ?_); intro hZq tZq tkZq FZq NZq; (try dsimp only)) | ((with_reducible show wpAny _ _ (subscriptTail _ (Expr.Name _ _) (Value.ref _) (Value.int _ _)) _ _ _); (refine item_at (Heap.IsList.at (by assumption) fun o e => Fr.keep (by assumption) _ _ e) (by first | with_reducible assumption | omega) (by first | with_reducible assumption | omega) (by assumption) ?_)) | ((with_reducible show wpAny _ _ (call (Value.builtin "len") [Value.ref _]) _ _ _); refine Calls.call_len_list (Heap.IsList.at (by assumption) fun o e => Fr.keep (by assumption) _ _ e) (by simp only [List.size_toArray]; first | exact lt63 (by assumption) (by exact rfl) | omega) ?_) | ((with_reducible show wpAny _ _ (call (Value.builtin "list.append") [Value.ref _, _]) _ _ _); k_dflt (refine append_K (by k_asm) (by k_asm) (by k_upd) ?_ (by simp only [sizeLine_eq]; first | exact leK (by assumption) (by exact rfl) | omega)); intro hZq FZq NZq; (try k_sweep)) | walk1))
        all_goals dsimp only at *
        · rename (List.any _ _) = true => g1
          refine TurnEnd.go (by assumption) (by assumption) ⟨hlt₁, hlt₂, _, _, us, n, rfl, Nat.le_succ_of_le hsz, ?_, by ((funext y; (repeat' split) <;> first | rfl | contradiction | (subst_vars; first | rfl | (exfalso; simp +decide at *; done) | (simp_all +decide; done))))⟩
          rw [hRj', hsj, addS, if_pos]
          · exact hus
          · rw [lcpS, ← hn₁]; exact mem_anyS g1
        · rename (List.any _ _) = false => g1
          refine TurnEnd.go (by assumption) (by assumption) ⟨hlt₁, hlt₂, _, _, _, _, rfl, ?_, ?_, by ((funext y; (repeat' split) <;> first | rfl | contradiction | (subst_vars; first | rfl | (exfalso; simp +decide at *; done) | (simp_all +decide; done))))⟩
          · rw [Array.size_push]; exact Nat.succ_le_succ hsz
          · rw [hRj', hsj, addS, if_neg]
            · rw [lcpS, ← hn₁]; exact strsAre_push hus
            · rw [lcpS, ← hn₁]; exact not_mem_anyS g1
      refine while_rule (k := x.length) (BgC D I I' a i j oI oI' t t' us n x y) F₆ N₆ ?_ ?_
      · exact ⟨0, _, rfl, Nat.zero_add _, Nat.zero_le _, rfl, by ((funext y; (repeat' split) <;> first | rfl | contradiction | (subst_vars; first | rfl | (exfalso; simp +decide at *; done) | (simp_all +decide; done))))⟩
      · focus (rintro k m₁ news₁ h₇ tk₇ hP0 F₇ N₇; refine hid fun hGo => ?_; rcases hP0 with ⟨n₁, tn, rfl, hk, hy, hlc, rfl⟩; all_goals (refine hGo ?_; clear hGo))
        refine opq ?_
        intro Q₇ h₇
        repeat' (first | ((with_reducible show wpAny _ _ (execs (_ :: _) _) _ _ _); refine execs_seq ?_; intro QZs hnZs hrZs hbZs hcZs) | (refine hnZs _ ?_; clear hnZs hrZs hbZs hcZs) | (refine hrZs _ _ ?_) | (refine hbZs _ ?_) | (refine hcZs _ ?_) | ((with_reducible show wpAny _ _ (subscriptTail _ (Expr.Slice none (some _) none _) (Value.str _ _) _) _ _ _); (refine slice_strN_ns (hsz := by exact Nat.le_trans (by assumption) (by rw [sizeLine_eq]; decide)) (s := ⟨_, _, _, _, _⟩) (by assumption) (by assumption) ?_); intro hZq tZq tkZq FZq NZq; (try dsimp only)) | ((with_reducible show wpAny _ _ (subscriptTail _ (Expr.Name _ _) (Value.ref _) (Value.int _ _)) _ _ _); (refine item_at (Heap.IsList.at (by assumption) fun o e => Fr.keep (by assumption) _ _ e) (by first | with_reducible assumption | omega) (by first | with_reducible assumption | omega) (by assumption) ?_)) | ((with_reducible show wpAny _ _ (call (Value.builtin "len") [Value.ref _]) _ _ _); refine Calls.call_len_list (Heap.IsList.at (by assumption) fun o e => Fr.keep (by assumption) _ _ e) (by simp only [List.size_toArray]; first | exact lt63 (by assumption) (by exact rfl) | omega) ?_) | ((with_reducible show wpAny _ _ (call (Value.builtin "list.append") [Value.ref _, _]) _ _ _); k_dflt (refine append_K (by k_asm) (by k_asm) (by k_upd) ?_ (by simp only [sizeLine_eq]; first | exact leK (by assumption) (by exact rfl) | omega)); intro hZq FZq NZq; (try k_sweep)) | walk1 | (dsimp only; first | ((with_reducible show wpAny _ _ (execs (_ :: _) _) _ _ _); refine execs_seq ?_; intro QZs hnZs hrZs hbZs hcZs) | (refine hnZs _ ?_; clear hnZs hrZs hbZs hcZs) | (refine hrZs _ _ ?_) | (refine hbZs _ ?_) | (refine hcZs _ ?_) | ((with_reducible show wpAny _ _ (subscriptTail _ (Expr.Slice none (some _) none _) (Value.str _ _) _) _ _ _); (refine slice_strN_ns (hsz := by exact Nat.le_trans (by assumption) (by rw [sizeLine_eq]; decide)) (s := ⟨_, _, _, _, _⟩) (by assumption) (by assumption) ?_); intro hZq tZq tkZq FZq NZq; (try dsimp only)) | ((with_reducible show wpAny _ _ (subscriptTail _ (Expr.Name _ _) (Value.ref _) (Value.int _ _)) _ _ _); (refine item_at (Heap.IsList.at (by assumption) fun o e => Fr.keep (by assumption) _ _ e) (by first | with_reducible assumption | omega) (by first | with_reducible assumption | omega) (by assumption) ?_)) | ((with_reducible show wpAny _ _ (call (Value.builtin "len") [Value.ref _]) _ _ _); refine Calls.call_len_list (Heap.IsList.at (by assumption) fun o e => Fr.keep (by assumption) _ _ e) (by simp only [List.size_toArray]; first | exact lt63 (by assumption) (by exact rfl) | omega) ?_) | ((with_reducible show wpAny _ _ (call (Value.builtin "list.append") [Value.ref _, _]) _ _ _); k_dflt (refine append_K (by k_asm) (by k_asm) (by k_upd) ?_ (by simp only [sizeLine_eq]; first | exact leK (by assumption) (by exact rfl) | omega)); intro hZq FZq NZq; (try k_sweep)) | walk1))
        · dsimp only
          rename (_ == _) = true => g1
          have g2 : lcpC x y n₁ = true := lcpC_t g1 (by assumption) (by assumption)
          have g3 : n₁ < x.length := Int.ofNat_lt.mp (by assumption)
          have g4 : n₁ < y.length := Int.ofNat_lt.mp (by assumption)
          focus (refine hid fun hGo => ?_; obtain ⟨k, rfl⟩ := ar_succ hk g3; all_goals (refine hGo ?_; clear hGo))
          rw [lcpF_go g2] at hlc
          refine h₇ _ _ ?_
          clear h₇
          simp only [if_true]
          repeat' (first | ((with_reducible show wpAny _ _ (execs (_ :: _) _) _ _ _); refine execs_seq ?_; intro QZs hnZs hrZs hbZs hcZs) | (refine hnZs _ ?_; clear hnZs hrZs hbZs hcZs) | (refine hrZs _ _ ?_) | (refine hbZs _ ?_) | (refine hcZs _ ?_) | ((with_reducible show wpAny _ _ (subscriptTail _ (Expr.Slice none (some _) none _) (Value.str _ _) _) _ _ _); (refine slice_strN_ns (hsz := by exact Nat.le_trans (by assumption) (by rw [sizeLine_eq]; decide)) (s := ⟨_, _, _, _, _⟩) (by assumption) (by assumption) ?_); intro hZq tZq tkZq FZq NZq; (try dsimp only)) | ((with_reducible show wpAny _ _ (subscriptTail _ (Expr.Name _ _) (Value.ref _) (Value.int _ _)) _ _ _); (refine item_at (Heap.IsList.at (by assumption) fun o e => Fr.keep (by assumption) _ _ e) (by first | with_reducible assumption | omega) (by first | with_reducible assumption | omega) (by assumption) ?_)) | ((with_reducible show wpAny _ _ (call (Value.builtin "len") [Value.ref _]) _ _ _); refine Calls.call_len_list (Heap.IsList.at (by assumption) fun o e => Fr.keep (by assumption) _ _ e) (by simp only [List.size_toArray]; first | exact lt63 (by assumption) (by exact rfl) | omega) ?_) | ((with_reducible show wpAny _ _ (call (Value.builtin "list.append") [Value.ref _, _]) _ _ _); k_dflt (refine append_K (by k_asm) (by k_asm) (by k_upd) ?_ (by simp only [sizeLine_eq]; first | exact leK (by assumption) (by exact rfl) | omega)); intro hZq FZq NZq; (try k_sweep)) | walk1 | (dsimp only; first | ((with_reducible show wpAny _ _ (execs (_ :: _) _) _ _ _); refine execs_seq ?_; intro QZs hnZs hrZs hbZs hcZs) | (refine hnZs _ ?_; clear hnZs hrZs hbZs hcZs) | (refine hrZs _ _ ?_) | (refine hbZs _ ?_) | (refine hcZs _ ?_) | ((with_reducible show wpAny _ _ (subscriptTail _ (Expr.Slice none (some _) none _) (Value.str _ _) _) _ _ _); (refine slice_strN_ns (hsz := by exact Nat.le_trans (by assumption) (by rw [sizeLine_eq]; decide)) (s := ⟨_, _, _, _, _⟩) (by assumption) (by assumption) ?_); intro hZq tZq tkZq FZq NZq; (try dsimp only)) | ((with_reducible show wpAny _ _ (subscriptTail _ (Expr.Name _ _) (Value.ref _) (Value.int _ _)) _ _ _); (refine item_at (Heap.IsList.at (by assumption) fun o e => Fr.keep (by assumption) _ _ e) (by first | with_reducible assumption | omega) (by first | with_reducible assumption | omega) (by assumption) ?_)) | ((with_reducible show wpAny _ _ (call (Value.builtin "len") [Value.ref _]) _ _ _); refine Calls.call_len_list (Heap.IsList.at (by assumption) fun o e => Fr.keep (by assumption) _ _ e) (by simp only [List.size_toArray]; first | exact lt63 (by assumption) (by exact rfl) | omega) ?_) | ((with_reducible show wpAny _ _ (call (Value.builtin "list.append") [Value.ref _, _]) _ _ _); k_dflt (refine append_K (by k_asm) (by k_asm) (by k_upd) ?_ (by simp only [sizeLine_eq]; first | exact leK (by assumption) (by exact rfl) | omega)); intro hZq FZq NZq; (try k_sweep)) | walk1))
          exact WEnd.go (Nat.lt_succ_self k) (by assumption) (by assumption) ⟨(n₁ + 1), _, rfl, ar_shift hk, g4, hlc, by ((funext y; (repeat' split) <;> first | rfl | contradiction | (subst_vars; first | rfl | (exfalso; simp +decide at *; done) | (simp_all +decide; done))))⟩
        · try dsimp only
          refine h₇ _ _ ?_
          simp only [Bool.false_eq_true, if_false]
          refine wpAny_execs_nil ?_
          exact join _ _ n₁ tn (by rw [← hlc]; exact (lcpF_stop (lcpC_f3 (by assumption)) k).symm) (by assumption) (by assumption)
        · try dsimp only
          refine h₇ _ _ ?_
          simp only [Bool.false_eq_true, if_false]
          refine wpAny_execs_nil ?_
          exact join _ _ n₁ tn (by rw [← hlc]; exact (lcpF_stop (lcpC_f2 (by assumption)) k).symm) (by assumption) (by assumption)
        · try dsimp only
          refine h₇ _ _ ?_
          simp only [Bool.false_eq_true, if_false]
          refine wpAny_execs_nil ?_
          exact join _ _ n₁ tn (by rw [← hlc]; exact (lcpF_stop (lcpC_f1 (by assumption)) k).symm) (by assumption) (by assumption)
    · focus (rintro I' m₁ news₁ h' tk' hP0 F₄ N₄; refine hid fun hGo => ?_; rcases hP0 with ⟨hlt₁, hlt₂, un, uj, us, n, rfl, hsz, hus, rfl⟩; all_goals (refine hGo ?_; clear hGo))
      refine hn₃ _ ?_
      repeat' (first | ((with_reducible show wpAny _ _ (execs (_ :: _) _) _ _ _); refine execs_seq ?_; intro QZs hnZs hrZs hbZs hcZs) | (refine hnZs _ ?_; clear hnZs hrZs hbZs hcZs) | (refine hrZs _ _ ?_) | (refine hbZs _ ?_) | (refine hcZs _ ?_) | ((with_reducible show wpAny _ _ (subscriptTail _ (Expr.Slice none (some _) none _) (Value.str _ _) _) _ _ _); (refine slice_strN_ns (hsz := by exact Nat.le_trans (by assumption) (by rw [sizeLine_eq]; decide)) (s := ⟨_, _, _, _, _⟩) (by assumption) (by assumption) ?_); intro hZq tZq tkZq FZq NZq; (try dsimp only)) | ((with_reducible show wpAny _ _ (subscriptTail _ (Expr.Name _ _) (Value.ref _) (Value.int _ _)) _ _ _); (refine item_at (Heap.IsList.at (by assumption) fun o e => Fr.keep (by assumption) _ _ e) (by first | with_reducible assumption | omega) (by first | with_reducible assumption | omega) (by assumption) ?_)) | ((with_reducible show wpAny _ _ (call (Value.builtin "len") [Value.ref _]) _ _ _); refine Calls.call_len_list (Heap.IsList.at (by assumption) fun o e => Fr.keep (by assumption) _ _ e) (by simp only [List.size_toArray]; first | exact lt63 (by assumption) (by exact rfl) | omega) ?_) | ((with_reducible show wpAny _ _ (call (Value.builtin "list.append") [Value.ref _, _]) _ _ _); k_dflt (refine append_K (by k_asm) (by k_asm) (by k_upd) ?_ (by simp only [sizeLine_eq]; first | exact leK (by assumption) (by exact rfl) | omega)); intro hZq FZq NZq; (try k_sweep)) | walk1 | (dsimp only; first | ((with_reducible show wpAny _ _ (execs (_ :: _) _) _ _ _); refine execs_seq ?_; intro QZs hnZs hrZs hbZs hcZs) | (refine hnZs _ ?_; clear hnZs hrZs hbZs hcZs) | (refine hrZs _ _ ?_) | (refine hbZs _ ?_) | (refine hcZs _ ?_) | ((with_reducible show wpAny _ _ (subscriptTail _ (Expr.Slice none (some _) none _) (Value.str _ _) _) _ _ _); (refine slice_strN_ns (hsz := by exact Nat.le_trans (by assumption) (by rw [sizeLine_eq]; decide)) (s := ⟨_, _, _, _, _⟩) (by assumption) (by assumption) ?_); intro hZq tZq tkZq FZq NZq; (try dsimp only)) | ((with_reducible show wpAny _ _ (subscriptTail _ (Expr.Name _ _) (Value.ref _) (Value.int _ _)) _ _ _); (refine item_at (Heap.IsList.at (by assumption) fun o e => Fr.keep (by assumption) _ _ e) (by first | with_reducible assumption | omega) (by first | with_reducible assumption | omega) (by assumption) ?_)) | ((with_reducible show wpAny _ _ (call (Value.builtin "len") [Value.ref _]) _ _ _); refine Calls.call_len_list (Heap.IsList.at (by assumption) fun o e => Fr.keep (by assumption) _ _ e) (by simp only [List.size_toArray]; first | exact lt63 (by assumption) (by exact rfl) | omega) ?_) | ((with_reducible show wpAny _ _ (call (Value.builtin "list.append") [Value.ref _, _]) _ _ _); k_dflt (refine append_K (by k_asm) (by k_asm) (by k_upd) ?_ (by simp only [sizeLine_eq]; first | exact leK (by assumption) (by exact rfl) | omega)); intro hZq FZq NZq; (try k_sweep)) | walk1))
      refine TurnEnd.go F₄ N₄ ⟨hlt, un, uj, (some (.int (0 + (i : Int)) t)), us, n, rfl, ar_row hsz (by rw [hszA]; exact hn), ?_, ?_⟩
      · rw [List.range_succ, List.foldl_append]
        simp only [List.foldl_cons, List.foldl_nil]
        rw [begsRow]
        rw [hlen', ← hszA, ar_e]; exact hus
      · rfl
  · focus (rintro I m₁ news₁ h tk hP0 F₂ N₂; refine hid fun hGo => ?_; rcases hP0 with ⟨hlt, un, uj, uk, us, n, rfl, hsz, hus, rfl⟩; all_goals (refine hGo ?_; clear hGo))
    refine hn₂ _ ?_
    repeat' (first | ((with_reducible show wpAny _ _ (execs (_ :: _) _) _ _ _); refine execs_seq ?_; intro QZs hnZs hrZs hbZs hcZs) | (refine hnZs _ ?_; clear hnZs hrZs hbZs hcZs) | (refine hrZs _ _ ?_) | (refine hbZs _ ?_) | (refine hcZs _ ?_) | ((with_reducible show wpAny _ _ (subscriptTail _ (Expr.Slice none (some _) none _) (Value.str _ _) _) _ _ _); (refine slice_strN_ns (hsz := by exact Nat.le_trans (by assumption) (by rw [sizeLine_eq]; decide)) (s := ⟨_, _, _, _, _⟩) (by assumption) (by assumption) ?_); intro hZq tZq tkZq FZq NZq; (try dsimp only)) | ((with_reducible show wpAny _ _ (subscriptTail _ (Expr.Name _ _) (Value.ref _) (Value.int _ _)) _ _ _); (refine item_at (Heap.IsList.at (by assumption) fun o e => Fr.keep (by assumption) _ _ e) (by first | with_reducible assumption | omega) (by first | with_reducible assumption | omega) (by assumption) ?_)) | ((with_reducible show wpAny _ _ (call (Value.builtin "len") [Value.ref _]) _ _ _); refine Calls.call_len_list (Heap.IsList.at (by assumption) fun o e => Fr.keep (by assumption) _ _ e) (by simp only [List.size_toArray]; first | exact lt63 (by assumption) (by exact rfl) | omega) ?_) | ((with_reducible show wpAny _ _ (call (Value.builtin "list.append") [Value.ref _, _]) _ _ _); k_dflt (refine append_K (by k_asm) (by k_asm) (by k_upd) ?_ (by simp only [sizeLine_eq]; first | exact leK (by assumption) (by exact rfl) | omega)); intro hZq FZq NZq; (try k_sweep)) | walk1 | (dsimp only; first | ((with_reducible show wpAny _ _ (execs (_ :: _) _) _ _ _); refine execs_seq ?_; intro QZs hnZs hrZs hbZs hcZs) | (refine hnZs _ ?_; clear hnZs hrZs hbZs hcZs) | (refine hrZs _ _ ?_) | (refine hbZs _ ?_) | (refine hcZs _ ?_) | ((with_reducible show wpAny _ _ (subscriptTail _ (Expr.Slice none (some _) none _) (Value.str _ _) _) _ _ _); (refine slice_strN_ns (hsz := by exact Nat.le_trans (by assumption) (by rw [sizeLine_eq]; decide)) (s := ⟨_, _, _, _, _⟩) (by assumption) (by assumption) ?_); intro hZq tZq tkZq FZq NZq; (try dsimp only)) | ((with_reducible show wpAny _ _ (subscriptTail _ (Expr.Name _ _) (Value.ref _) (Value.int _ _)) _ _ _); (refine item_at (Heap.IsList.at (by assumption) fun o e => Fr.keep (by assumption) _ _ e) (by first | with_reducible assumption | omega) (by first | with_reducible assumption | omega) (by assumption) ?_)) | ((with_reducible show wpAny _ _ (call (Value.builtin "len") [Value.ref _]) _ _ _); refine Calls.call_len_list (Heap.IsList.at (by assumption) fun o e => Fr.keep (by assumption) _ _ e) (by simp only [List.size_toArray]; first | exact lt63 (by assumption) (by exact rfl) | omega) ?_) | ((with_reducible show wpAny _ _ (call (Value.builtin "list.append") [Value.ref _, _]) _ _ _); k_dflt (refine append_K (by k_asm) (by k_asm) (by k_upd) ?_ (by simp only [sizeLine_eq]; first | exact leK (by assumption) (by exact rfl) | omega)); intro hZq FZq NZq; (try k_sweep)) | walk1))
    have hm := N₂ _ (.head _)
    refine hQ _ _ _ _ _ (Fr.toKp F₂) hm.2.2 hm.1 ?_
    simpa [begsL, hlen'] using hus

theorem strs_canLayAll0 : ∀ ns : List Str, (∀ x ∈ ns, (PyData.str x).canLay0 = true) → PyData.canLayAll0 (ns.map PyData.str) = true
  | [], _ => rfl
  | x :: r, h => by simp [PyData.canLayAll0, h x (.head _), strs_canLayAll0 r fun y hy => h y (.tail _ hy)]
theorem strs_depthAll : ∀ ns : List Str, PyData.depthAll (ns.map PyData.str) = 0
  | [] => rfl
  | _ :: r => by simp [PyData.depthAll, PyData.depth, strs_depthAll r]
theorem strs_shaped (ns : List Str) (h : ∀ x ∈ ns, (PyData.str x).canLay0 = true) : SeqAt.shaped (.list (ns.map PyData.str)) = true := by
  simp [SeqAt.shaped, PyData.canLay0, PyData.depth, strs_canLayAll0 ns h, strs_depthAll]
theorem strs_sameAll : ∀ ns ms : List Str, PySem.Spec.sameAll (ns.map PyData.str) (ms.map PyData.str) = decide (ns = ms)
  | [], [] => by simp [PySem.Spec.sameAll]
  | [], _ :: _ => by simp [PySem.Spec.sameAll]
  | _ :: _, [] => by simp [PySem.Spec.sameAll]
  | a :: r, b :: t => by
    simp only [List.map_cons, PySem.Spec.sameAll, PySem.Spec.same, strs_sameAll r t]
    by_cases h : a = b <;> by_cases h' : r = t <;> simp [h, h']
theorem strs_same (ns ms : List Str) : PySem.Spec.same (.list (ns.map PyData.str)) (.list (ms.map PyData.str)) = decide (ns = ms) := by
  simp only [PySem.Spec.same]; exact strs_sameAll ns ms
theorem strs_carried {vs : List Value} {ns : List Str} (h : StrsAre vs ns) : CarriedAll vs (ns.map PyData.str) := by
  induction h with
  | nil => exact .nil
  | cons n t _ ih => exact .cons (.str _ t) ih
section
variable {w : World} {A : Around} {E : Value → Shared → Prop} {s : Shared} {a b : Addr} {xs ys : List Value} {ns ms : List Str} {Q : Value → Shared → Prop}
theorem eq_strs (ha : s.heap.IsList a xs.toArray) (hb : s.heap.IsList b ys.toArray) (hi : StrsAre xs ns) (hj : StrsAre ys ms) (h1 : ∀ x ∈ ns, (PyData.str x).canLay0 = true) (h2 : ∀ x ∈ ms, (PyData.str x).canLay0 = true) (hu : A.units + 64 < cLine) (h : Q (.bool (decide (ns = ms))) s) :
    wpAny (model PP w) A (compareOp .Eq (.ref a) (.ref b)) Q E s :=
  eq_dataH_same (reads_newData ha (strs_carried hi)) (reads_newData hb (strs_carried hj)) (strs_shaped _ h1) (strs_shaped _ h2) hu (SeqAt.noMix_of_shape (.list .str) rfl _ _ (list_map_has fun _ => rfl) (list_map_has fun _ => rfl)) (by rw [strs_same]; exact h)
theorem ne_strs (ha : s.heap.IsList a xs.toArray) (hb : s.heap.IsList b ys.toArray) (hi : StrsAre xs ns) (hj : StrsAre ys ms) (h1 : ∀ x ∈ ns, (PyData.str x).canLay0 = true) (h2 : ∀ x ∈ ms, (PyData.str x).canLay0 = true) (hu : A.units + 64 < cLine) (h : Q (.bool (!decide (ns = ms))) s) :
    wpAny (model PP w) A (compareOp .NotEq (.ref a) (.ref b)) Q E s :=
  ne_dataH_same (reads_newData ha (strs_carried hi)) (reads_newData hb (strs_carried hj)) (strs_shaped _ h1) (strs_shaped _ h2) hu (SeqAt.noMix_of_shape (.list .str) rfl _ _ (list_map_has fun _ => rfl) (list_map_has fun _ => rfl)) (by rw [strs_same]; exact h)
end

theorem cells_of {s₀ s' : Shared} {L : Addr} {m : Str → Option Value} {names : List (Str × NameKind)} {cm : Str → Option Value} {n : Nat} (hL : s₀.heap.objs.size ≤ L) (x : InCallC s₀ L m (cellsFrom n names []) cm s')
    (hnd : ((cellsFrom 0 names []).map (·.1)).Nodup) : ∃ cells, News s₀.heap L s'.heap cells ∧ CellsAre cm (cellsFrom n names []) cells :=
  Cl.news hL fun k c hm => ⟨x.cell k c (lookup_of_mem_nodup (cellsFrom_names names 0 n [] [] rfl ▸ hnd) hm), x.above k c hm⟩

/-- a callee with cells; the base is the caller's heap -/
theorem enterK {w : World} {d u : Nat} {s : Shared} {f : Addr} {args : List Value} {kw : List (Str × Value)} {binds : List (Str × Value)} {oc : Value} {od : Option Addr} {osl : Array (Option Value)}
    {name qual : Str} {params : Arguments} {body : List Stmt} {scope : Scope} {dV kV doc pm cdv ct : Value} {an : Option Addr}
    {Q : Value → Shared → Prop} {E : Value → Shared → Prop}
    (G : Gd w s.heap) (hroom : d < recursionLimit)
    (ho : (hd.heap_39 w.params).lookup f = some ⟨oc, od, .func (fnOf name qual params body scope dV kV doc pm an cdv ct), osl⟩) (hcd : codeIn (hd.heap_39 w.params) cdv qual = true)
    (hbind : BindsTo s (fnOf name qual params body scope dV kV doc pm an cdv ct) ⟨args, kw⟩ binds)
    (hkind : ∀ n, ∀ x ∈ binds, scope.names.lookup x.1 = some .local ∨ (scope.names.lookup x.1 = some .cell ∧ ((cellsFrom n scope.names []).lookup x.1).isSome = true))
    (hnd : ((cellsFrom 0 scope.names []).map (·.1)).Nodup)
    (h : ∀ h₁ L tk cells, Fr s.heap L h₁ (bindL (envOfC qual scope L f cdv).kindOf binds fun _ => none) → News s.heap L h₁ cells →
      CellsAre (bindC (envOfC qual scope L f cdv).kindOf binds fun _ => none) (cellsFrom (L + 1) scope.names []) cells →
      wpAny (model PP w) (std (d + 1) (u + 3)) (execs body (envOfC qual scope L f cdv)) (fun fl s' => Q (match fl with | .ret v => v | _ => .none) s') (fun _ _ => False) { s with heap := h₁, toks := tk })
    (hco : scope.isCoroutine = false := by rfl) (hgen : scope.isGenerator = false := by rfl) (hk : scope.kind = .function := by rfl) :
    wpAny (model PP w) (std d u) (call (.ref f) args kw) Q E s := by
  obtain ⟨mg, mb, T⟩ := G.T
  refine wpAny_call (codeAny_call_function hroom (G.X _ _ ho) rfl hco hgen rfl (codeRec_of G.X hcd) (hbind _ _ _ _ ?_))
  refine wpAny_newFunctionEnv_cells hk (hkind _) fun env' he s' x => ?_
  subst he
  refine ⟨T.nolimit.keeps x.toInCall.keep, codeAny_func ?_⟩
  obtain ⟨h₁, tk, rfl, _⟩ := x.done
  obtain ⟨cells, NC, Y⟩ := cells_of (Nat.le_refl _) x hnd
  exact wpAny_mono (h h₁ _ tk cells ⟨x.toInCall.ns, x.toInCall.keep, Nat.le_refl _⟩ NC Y) (fun _ _ q => q) (fun _ _ q => q.elim)

/-- a callee with cells, the caller's frame on the ledger -/
theorem enterBC {w : World} {d u : Nat} {fr : Option (List Env)} {s : Shared} {f : Addr} {args : List Value} {kw : List (Str × Value)} {binds : List (Str × Value)} {oc : Value} {od : Option Addr} {osl : Array (Option Value)}
    {name qual : Str} {params : Arguments} {body : List Stmt} {scope : Scope} {dV kV doc pm cdv ct : Value} {an : Option Addr} {hb : Heap} {L : Addr} {m : Str → Option Value} {news : List (Addr × Obj)}
    {Q : Value → Shared → Prop} {E : Value → Shared → Prop}
    (G : Gd w hb) (F : Fr hb L s.heap m) (N : News hb L s.heap news) (hroom : d < recursionLimit)
    (ho : (hd.heap_39 w.params).lookup f = some ⟨oc, od, .func (fnOf name qual params body scope dV kV doc pm an cdv ct), osl⟩) (hcd : codeIn (hd.heap_39 w.params) cdv qual = true)
    (hbind : BindsTo s (fnOf name qual params body scope dV kV doc pm an cdv ct) ⟨args, kw⟩ binds)
    (hkind : ∀ n, ∀ x ∈ binds, scope.names.lookup x.1 = some .local ∨ (scope.names.lookup x.1 = some .cell ∧ ((cellsFrom n scope.names []).lookup x.1).isSome = true))
    (hnd : ((cellsFrom 0 scope.names []).map (·.1)).Nodup)
    (h : ∀ h₁ (L' : Nat) tk oL cells, BackTo hb L m oL → @LT.lt Nat _ L L' → (∀ p ∈ news, @LT.lt Nat _ p.1 L') → Fr hb L' h₁ (bindL (envOfC qual scope L' f cdv).kindOf binds fun _ => none) → News hb L' h₁ (cells ++ (L, oL) :: news) →
      CellsAre (bindC (envOfC qual scope L' f cdv).kindOf binds fun _ => none) (cellsFrom (L' + 1) scope.names []) cells →
      wpAny (model PP w) { handled := none, depth := d + 1, frames := fr.map (envOfC qual scope L' f cdv :: ·), guards := none, units := u + 3 } (execs body (envOfC qual scope L' f cdv)) (fun fl s' => Q (match fl with | .ret v => v | _ => .none) s') (fun _ _ => False) { s with heap := h₁, toks := tk })
    (hco : scope.isCoroutine = false := by rfl) (hgen : scope.isGenerator = false := by rfl) (hk : scope.kind = .function := by rfl) :
    wpAny (model PP w) { handled := none, depth := d, frames := fr, guards := none, units := u } (call (.ref f) args kw) Q E s := by
  have GX := G.keeps F.keep
  obtain ⟨mg', mb', T'⟩ := GX.T
  obtain ⟨oL, hoL, bk⟩ := Fr.backTo F
  have hLl : @LT.lt Nat _ L s.heap.objs.size := Heap.lt_size hoL
  have hNl : ∀ p ∈ news, @LT.lt Nat _ p.1 s.heap.objs.size := fun p hp => Heap.lt_size (N p hp).1
  have hbL : hb.get? L = none := by
    cases q : hb.get? L with
    | none => rfl
    | some o => exact absurd (Nat.lt_of_lt_of_le (Heap.lt_size q) F.above) (Nat.lt_irrefl _)
  refine wpAny_call (codeAny_call_function hroom (GX.X _ _ ho) rfl hco hgen rfl (codeRec_of GX.X hcd) (hbind _ _ _ _ ?_))
  refine wpAny_newFunctionEnv_cells hk (hkind _) fun env' he s' x => ?_
  subst he
  refine ⟨T'.nolimit.keeps x.toInCall.keep, codeAny_func ?_⟩
  obtain ⟨h₁, tk, rfl, _⟩ := x.done
  obtain ⟨cells, NC, Y⟩ := cells_of (Nat.le_refl _) x hnd
  have hk₁ := x.toInCall.keep
  refine wpAny_mono (h h₁ s.heap.objs.size tk oL cells bk hLl hNl ⟨x.toInCall.ns, fun b o e => hk₁ b o (F.keep b o e), Nat.le_trans F.above (Nat.le_of_lt hLl)⟩ ?_ Y) (fun _ _ q => q) (fun _ _ q => q.elim)
  intro p hp
  rcases List.mem_append.mp hp with hp | hp
  · refine ⟨(NC p hp).1, (NC p hp).2.1, ?_⟩
    cases q : hb.get? p.1 with
    | none => rfl
    | some o => have := F.keep _ _ q; rw [(NC p hp).2.2] at this; cases this
  · rcases List.mem_cons.mp hp with rfl | hp
    · exact ⟨hk₁ _ _ hoL, Nat.ne_of_lt hLl, hbL⟩
    · exact ⟨hk₁ _ _ (N p hp).1, Nat.ne_of_lt (hNl p hp), (N p hp).2.2⟩

theorem len_run {pre : Int → Int → Bool} {row : List Int} (P : PreOk pre row) : ∀ (n : Nat) (D pile : List Int), row.length - D.length ≤ n → PInv pre row D pile → (pile.reverse.flatMap (tree pre row)).length + D.length ≤ row.length
  | n, D, pile, hn, I => by
    have hD : D.length ≤ row.length := nodup_length_le I.dnd I.dr
    focus (refine hid fun hGo => ?_; rcases snoc_cases pile with rfl | ⟨rest, p, rfl⟩; all_goals (refine hGo ?_; clear hGo))
    · simpa using hD
    · have hD2 : (p :: D).length ≤ row.length := nodup_length_le (I.step P).dnd (I.step P).dr
      rw [List.length_cons] at hD2
      rw [order_step P I]
      cases n with
      | zero => omega
      | succ n =>
        have := len_run P n (p :: D) _ (by rw [List.length_cons]; omega) (I.step P)
        rw [List.length_cons] at this ⊢
        omega
theorem strets_len {row : List Int} (P : PreOk preI row) : (stretI preI row.length row).length ≤ row.length := by
  rw [strets_eq P]
  have := len_run P _ _ _ (Nat.le_refl _) (PInv.start P)
  simpa using this
section
variable {w : World} {A : Around} {R : Result → Shared → Prop} {s : Shared} {env : Env} {hb : Heap} {m : Str → Option Value} {news : List (Addr × Obj)}
theorem for_rev {target : Expr} {body : List Stmt} {I l : Addr} {vs : List Value} {Q : Flow → Shared → Prop} {E : Value → Shared → Prop}
    (hh : A.handled = none) (hl : hb.IsList l vs.toArray)
    (F : Fr hb env.locals s.heap m) (N : News hb env.locals s.heap ((I, revObj l ((vs.length : Int) - 1)) :: news)) (J : Nat → (Str → Option Value) → List (Addr × Obj) → Prop)
    (hI : ∀ i m₁ news₁, J i m₁ news₁ → ∀ p ∈ news₁, p.1 ≠ I)
    (hj : J 0 m news)
    (turn : ∀ i v m₁ news₁ h tk oI, vs.reverse[i]? = some v → J i m₁ news₁ → Fr hb env.locals h m₁ → News hb env.locals h ((I, oI) :: news₁) →
      wpAny (model PP w) A (assign target env v) (fun _ s₂ => wpAny (model PP w) A (execs body env) (TurnEnd hb env.locals I oI (J (i + 1)) (fun r s' => match r with | .ok f => Q f s' | .error e => cameBackBy (model PP w) A env E e s') s) (fun _ _ => False) s₂) (fun _ _ => False) { s with heap := h, toks := tk })
    (done : ∀ m₁ news₁ h tk, J vs.length m₁ news₁ → Fr hb env.locals h m₁ → News hb env.locals h news₁ → Q .next { s with heap := h, toks := tk })
    (ht : (fun (I : Addr) v => letOwnedTupleGo target (.ref I) v) = (fun _ _ => pure ()) := by rfl) :
    wpAny (model PP w) A (pyIter (.ref I)) (fun it s₂ => codeAny (model PP w) A (.forLoop target it body [] env) (fun r s' => match r with | .ok f => Q f s' | .error e => cameBackBy (model PP w) A env E e s') s₂) E s := by
  have hIm := N _ (.head _)
  have hit : s.heap.IsRevIter I l ((vs.length : Int) - 1) := ⟨_, hIm.1, rfl, rfl⟩
  focus (refine hid fun hGo => ?_; obtain ⟨ol, hol, _⟩ := id hl; all_goals (refine hGo ?_; clear hGo))
  have hne : l ≠ I := by rintro rfl; rw [hIm.2.2] at hol; cases hol
  refine wpAny_pyIter_revIter hit ?_
  have W := Walks.listRev (prog := PP) (w := w) hh I l hne vs.toArray
  have hlen : vs.toArray.size = vs.length := by simp
  rw [hlen] at W
  refine for_walk W J (Ne.symm hIm.2.1) hIm.2.2 ?_ ?_ F (fun p hp => N p (.tail _ hp)) hI ⟨Nat.zero_le _, by simpa using hit, hl.at fun o e => F.keep _ _ e⟩ hj ?_ done ht
  · focus (rintro i m₁ news₁ h h' hJ F₁ N₁ hP0 e; refine hid fun hGo => ?_; rcases hP0 with ⟨h1, ⟨o, ho, r⟩, _⟩; all_goals (refine hGo ?_; clear hGo))
    exact ⟨h1, ⟨o, e.symm.trans ho, r⟩, hl.at fun o e => F₁.keep _ _ e⟩
  · rintro i h ⟨_, ⟨o, ho, _⟩, _⟩; exact ⟨o, ho⟩
  · intro i v m₁ news₁ h tk oI hi hP hJ F₁ N₁
    refine turn i v m₁ news₁ h tk oI ?_ hJ F₁ N₁
    rw [List.getElem?_reverse hi]
    simpa using hP
end
noncomputable def strG (f : Nat) (ws : List Str) (w : Str) : List Str := if (ws.filter fun o => begB o w) = [] then w :: strF f (ws.filter fun o => begB w o) else []
theorem strF_succ {f : Nat} {ws : List Str} : strF (f + 1) ws = ws.reverse.flatMap (strG f ws) := rfl
theorem strG_le {f i : Nat} {ws : List Str} {x : Str} (h : ws.reverse[i]? = some x) : ((ws.reverse.take i).flatMap (strG f ws)).length + (strG f ws x).length ≤ (strF (f + 1) ws).length := by
  have hlt : i < ws.reverse.length := by
    focus (refine hid fun hGo => ?_; rcases Nat.lt_or_ge i ws.reverse.length with q | q; all_goals (refine hGo ?_; clear hGo))
    · exact q
    · rw [List.getElem?_eq_none q] at h; cases h
  have e : ws.reverse = ws.reverse.take i ++ x :: ws.reverse.drop (i + 1) := by
    conv => lhs; rw [← List.take_append_drop i ws.reverse]
    rw [List.drop_eq_getElem_cons hlt]
    rw [List.getElem?_eq_getElem hlt] at h
    rw [Option.some.inj h]
  rw [strF_succ]
  conv => rhs; rw [e]
  rw [List.flatMap_append, List.flatMap_cons, List.length_append, List.length_append]
  omega
/-- a cell that is read from within -/
noncomputable def CellOf (h : Heap) (c : Addr) (v : Value) : Prop := h.IsCell c (some v)
theorem CellOf.intro {h h' : Heap} {c : Addr} {o : Obj} {v : Value} (e : h.get? c = some o) (hd : o.data = .cell (some v)) (k : ∀ b o, h.get? b = some o → h'.get? b = some o) : CellOf h' c v := ⟨o, k _ _ e, hd⟩
theorem strs_areOf {vs : List Value} {ws : List Str} (h : StrsAre vs ws) : AreOf ItemKind.str vs ws := by
  induction h with
  | nil => exact .nil
  | cons n t _ ih => exact .cons ⟨t, rfl⟩ ih
noncomputable def WOk (x : Str) : Prop := x.length ≤ 6 ∧ PyData.strOk x = true
theorem str_can {x : Str} (h : WOk x) : (PyData.str x).canLay0 = true := by
  have e : (PyData.str x).canLay0 = PyData.strOk x := by simp [PyData.canLay0]
  rw [e]; exact h.2
theorem extend_N {w : World} {A : Around} {s : Shared} {E : Value → Shared → Prop} {hb : Heap} {L D b : Addr} {m : Str → Option Value} {news : List (Addr × Obj)} {g : Obj → List (Addr × Obj)} {its its2 : Array Value} {n n2 : Nat} {Q : Value → Shared → Prop}
    (F : Fr hb L s.heap m) (N : News hb L s.heap news) (U : UpdF D (W.listOf its n) news g) (hb2 : s.heap.get? b = some (W.listOf its2 n2)) (hz : its.size + its2.size ≤ 5000) (h : ∀ h' n', Fr hb L h' m → News hb L h' (g (W.listOf (its ++ its2) n')) → Q .none { s with heap := h' }) :
    wpAny (model PP w) A (call (.builtin "list.extend") [.ref D, .ref b]) Q E s := by
  focus (refine hid fun hGo => ?_; obtain ⟨pre, post, rfl, hg, h1, h2⟩ := U.split; all_goals (refine hGo ?_; clear hGo))
  have z := N (D, W.listOf its n) (List.mem_append_right _ (.head _))
  have hsz : its.size + its2.size ≤ sizeLine := by rw [sizeLine_eq]; omega
  refine call_meets PySem.F.slot_list_extend ⟨_, z.1, rfl⟩ PySem.F.entry_list_extend (PySem.F.args_list_extend_2 _ _) (AutoSeq1.list_extend_list_list_0 D its n b its2 n2 (extend_door hsz) (Nat.le_trans (Nat.le_add_right _ _) hsz)) ⟨z.1, hb2, ?_⟩
  refine h _ (if ((its ++ its2).size == its.size) = true then n else n + 1) (F.change (Heap.SameBut.update ..) z.2.1 z.2.2) ?_
  rw [hg]
  exact N.setAt h1 h2 (Heap.SameBut.update ..) (Heap.get?_update_self _ z.1 rfl)
theorem begB_t {o x : Str} (h1 : (o != x) = true) (h2 : Txt.startswith x o = true) : true = begB o x := by
  unfold begB; rw [h2, decide_eq_true (bne_iff_ne.mp h1)]; rfl
theorem begB_f1 {o x : Str} (h1 : (o != x) = false) : false = begB o x := by
  have e : o = x := bne_eq_false_iff_eq.mp h1
  subst e; exact (begB_irr _).symm
theorem begB_f2 {o x : Str} (h2 : Txt.startswith x o = false) : false = begB o x := by
  unfold begB; rw [h2]; simp
theorem bne_swap {o x : Str} {b : Bool} (h : (o != x) = b) : (x != o) = b := by
  rw [← h, Bool.eq_iff_iff, bne_iff_ne, bne_iff_ne]; exact ne_comm
theorem News.new {hb h : Heap} {L D : Addr} {m : Str → Option Value} {news : List (Addr × Obj)} {ys : List Value} (F : Fr hb L h m) (N : News hb L h news) (x : NewPlain h news D ys.toArray) (h0 : hb.get? D = none) :
    ∃ n, News hb L h ((D, W.listOf ys.toArray n) :: news) ∧ ∀ p ∈ news, @Ne Nat p.1 D := by
  have h1 := x.ne_locals F
  focus (refine hid fun hGo => ?_; obtain ⟨⟨n, e⟩, hne⟩ := x; all_goals (refine hGo ?_; clear hGo))
  refine ⟨n, fun p hp => ?_, hne⟩
  focus (refine hid fun hGo => ?_; rcases List.mem_cons.mp hp with rfl | hp; all_goals (refine hGo ?_; clear hGo))
  · exact ⟨e, h1, h0⟩
  · exact N p hp
theorem strs_of_carried : ∀ {ns : List Str} {vs : List Value}, CarriedAll vs (ns.map PyData.str) → StrsAre vs ns
  | [], _, h => by cases h; exact .nil
  | n :: ns, _, h => by
    cases h with
    | cons h1 h2 => cases h1; exact .cons _ _ (strs_of_carried h2)
inductive StJ (D : Nat) (L : Nat) (a : Nat) (f : Nat) (ws : List Str) (i : Nat) (m₁ : Str → Option Value) (news₁ : List (Addr × Obj)) : Prop
  | mk (oc' : Obj) (v₀ : Option Value) (us : Array Value) (n : Nat) (e1 : oc'.data = .cell v₀) (e2 : news₁ = [(D, W.listOf us n), (L + 1, oc')]) (e3 : StrsAre us.toList ((ws.reverse.take i).flatMap (strG f ws))) (e4 : m₁ = fun y => if y = Str.ofString "order" then some (.ref D) else if y = Str.ofString "words" then some (.ref a) else none) : StJ D L a f ws i m₁ news₁
theorem strets_spec {w : World} : ∀ (f : Nat) {A : Around} {s : Shared} {a : Addr} {vs : List Value} {ws : List Str} {Q : Value → Shared → Prop} {E : Value → Shared → Prop},
    f ≤ 100 → Gd w s.heap → Le A (std (900 - 3 * f) (6000 - 20 * f)) → s.heap.IsList a vs.toArray → StrsAre vs ws → ws.length < f → (∀ x ∈ ws, WOk x) → (strF f ws).length ≤ 1000 →
    (∀ h' tk D us n, Kp s.heap h' → s.heap.get? D = none → h'.get? D = some { cls := .type "list", data := .seq us n } → StrsAre us.toList (strF f ws) → Q (.ref D) { s with heap := h', toks := tk }) →
    wpAny (model PP w) A (call (.ref 186) [.ref a]) Q E s := by
  intro f
  induction f with
  | zero =>
    intro A s a vs ws Q E hf G hA hl hi hwf hlen hsz hQ
    exact absurd hwf (Nat.not_lt_zero _)
  | succ f ih =>
  intro A s a vs ws Q E hf G hA hl hi hwf hlen hsz hQ
  refine wpAny_le hA ?_
  have X := G.X
  focus (refine hid fun hGo => ?_; obtain ⟨mg, mb, T⟩ := G.T; all_goals (refine hGo ?_; clear hGo))
  have hd : 900 - 3 * (f + 1) < recursionLimit := ar_rec _
  refine enterK (binds := [(Str.ofString "words", .ref a)]) G hd (by k_is) (by k_is) (BindsTo.of_eq rfl) (fun n x hx => by rw [List.mem_singleton.mp hx]; exact .inl rfl) (by decide) ?_
  intro h₁ L tk cells F N Y
  focus (refine hid fun hGo => ?_; obtain ⟨oc, rfl, hoc⟩ := Y.one; all_goals (refine hGo ?_; clear hGo))
  have hoc : oc.data = .cell none := hoc
  have F : Fr s.heap L h₁ (fun y => if y = Str.ofString "words" then some (.ref a) else none) := F
  generalize hb : std (900 - 3 * (f + 1) + 1) (6000 - 20 * (f + 1) + 3) = B
  have hB : Le B (std (900 - 3 * f) (6000 - 20 * f)) := by subst hb; exact ⟨rfl, ar_d hf, ar_u hf, rfl, rfl⟩
  have hBh : B.handled = none := by subst hb; rfl
  clear hb
  refine execs_seq ?_
  intro Q₁ hn₁ hr₁ hb₁ hc₁
  repeat' (first | ((with_reducible show wpAny _ _ (eval _ (compEnvC _ _ _ _)) _ _ _); first | refine ldVarK (by assumption) (by assumption) ?_ | refine ldCellK rfl (show CellOf _ _ _ by assumption) ?_) | ((with_reducible show wpAny _ _ (call (Value.builtin "list.append") [Value.ref _, _]) _ _ _); k_dflt (refine append_K (by k_asm) (by k_asm) (by k_upd) ?_ (by simp only [sizeLine_eq]; first | exact leK (by assumption) (by exact rfl) | omega)); intro hZq FZq NZq; (try k_sweep)) | walk1 | (dsimp only; first | ((with_reducible show wpAny _ _ (eval _ (compEnvC _ _ _ _)) _ _ _); first | refine ldVarK (by assumption) (by assumption) ?_ | refine ldCellK rfl (show CellOf _ _ _ by assumption) ?_) | ((with_reducible show wpAny _ _ (call (Value.builtin "list.append") [Value.ref _, _]) _ _ _); k_dflt (refine append_K (by k_asm) (by k_asm) (by k_upd) ?_ (by simp only [sizeLine_eq]; first | exact leK (by assumption) (by exact rfl) | omega)); intro hZq FZq NZq; (try k_sweep)) | walk1))
  refine hn₁ _ ?_
  clear hn₁ hr₁ hb₁ hc₁
  refine execs_seq ?_
  intro Q₂ hn₂ hr₂ hb₂ hc₂
  refine wpAny_For ?_ (by intro _; rfl)
  dsimp only
  refine opq ?_
  intro Q₄ h₄
  repeat' (first | ((with_reducible show wpAny _ _ (eval _ (compEnvC _ _ _ _)) _ _ _); first | refine ldVarK (by assumption) (by assumption) ?_ | refine ldCellK rfl (show CellOf _ _ _ by assumption) ?_) | ((with_reducible show wpAny _ _ (call (Value.builtin "list.append") [Value.ref _, _]) _ _ _); k_dflt (refine append_K (by k_asm) (by k_asm) (by k_upd) ?_ (by simp only [sizeLine_eq]; first | exact leK (by assumption) (by exact rfl) | omega)); intro hZq FZq NZq; (try k_sweep)) | walk1 | (dsimp only; first | ((with_reducible show wpAny _ _ (eval _ (compEnvC _ _ _ _)) _ _ _); first | refine ldVarK (by assumption) (by assumption) ?_ | refine ldCellK rfl (show CellOf _ _ _ by assumption) ?_) | ((with_reducible show wpAny _ _ (call (Value.builtin "list.append") [Value.ref _, _]) _ _ _); k_dflt (refine append_K (by k_asm) (by k_asm) (by k_upd) ?_ (by simp only [sizeLine_eq]; first | exact leK (by assumption) (by exact rfl) | omega)); intro hZq FZq NZq; (try k_sweep)) | walk1))
  refine h₄ _ _ ?_
  clear h₄
  try dsimp only
  rename Fr _ _ _ _ => F₁
  rename News _ _ _ _ => N₁
  rename_i D _ _ _ I _ hlt
  refine for_rev hBh hl F₁ N₁ (StJ D L a f ws) ?_ ?_ ?_ ?_
  · focus (rintro i m₁ news₁ hP0 p hp; refine hid fun hGo => ?_; rcases hP0 with ⟨oc', v₀, us, n, _, rfl, _⟩; all_goals (refine hGo ?_; clear hGo))
    focus (refine hid fun hGo => ?_; rcases List.mem_cons.mp hp with rfl | hp; all_goals (refine hGo ?_; clear hGo))
    · exact Nat.ne_of_lt hlt.1
    · rw [List.mem_singleton.mp hp]; exact Nat.ne_of_lt hlt.2
  · exact ⟨oc, none, _, _, hoc, rfl, .nil, rfl⟩
  · focus (rintro i v m₁ news₁ h tk oI hv hP0 F₂ N₂; refine hid fun hGo => ?_; rcases hP0 with ⟨oc', v₀, us, n, hoc', rfl, hus, rfl⟩; all_goals (refine hGo ?_; clear hGo))
    obtain ⟨x, tx, hx, rfl⟩ : ∃ x t, ws.reverse[i]? = some x ∧ v = .str x t := by
      have hlt : i < vs.length := by
        focus (refine hid fun hGo => ?_; rcases Nat.lt_or_ge i vs.reverse.length with q | q; all_goals (refine hGo ?_; clear hGo))
        · simpa using q
        · rw [List.getElem?_eq_none q] at hv; cases hv
      rw [List.getElem?_reverse hlt] at hv
      focus (refine hid fun hGo => ?_; obtain ⟨x, t, h1, h2⟩ := strs_at hi hv; all_goals (refine hGo ?_; clear hGo))
      refine ⟨x, t, ?_, h2⟩
      rw [List.getElem?_reverse (by rw [← hi.length]; exact hlt), ← hi.length]
      exact h1
    have hbnd := strG_le (f := f) hx
    refine opq ?_
    intro Q₅ h₅
    repeat' (first | ((with_reducible show wpAny _ _ (eval _ (compEnvC _ _ _ _)) _ _ _); first | refine ldVarK (by assumption) (by assumption) ?_ | refine ldCellK rfl (show CellOf _ _ _ by assumption) ?_) | ((with_reducible show wpAny _ _ (call (Value.builtin "list.append") [Value.ref _, _]) _ _ _); k_dflt (refine append_K (by k_asm) (by k_asm) (by k_upd) ?_ (by simp only [sizeLine_eq]; first | exact leK (by assumption) (by exact rfl) | omega)); intro hZq FZq NZq; (try k_sweep)) | walk1 | (dsimp only; first | ((with_reducible show wpAny _ _ (eval _ (compEnvC _ _ _ _)) _ _ _); first | refine ldVarK (by assumption) (by assumption) ?_ | refine ldCellK rfl (show CellOf _ _ _ by assumption) ?_) | ((with_reducible show wpAny _ _ (call (Value.builtin "list.append") [Value.ref _, _]) _ _ _); k_dflt (refine append_K (by k_asm) (by k_asm) (by k_upd) ?_ (by simp only [sizeLine_eq]; first | exact leK (by assumption) (by exact rfl) | omega)); intro hZq FZq NZq; (try k_sweep)) | walk1))
    refine h₅ _ _ ?_
    clear h₅
    refine execs_seq ?_
    intro Q₅ hn₅ hr₅ hb₅ hc₅
    try dsimp only
    rename Fr _ _ _ _ => F₃
    rename News _ _ _ _ => N₃
    rename _ = Data.cell (some _) => hoc₃
    have hA : AreOf ItemKind.str vs ws := strs_areOf hi
    have hw6 : ws.length ≤ sizeLine := leS (Nat.le_of_lt (Nat.lt_of_lt_of_le hwf hf)) rfl
    have hcan : ∀ y ∈ ws, (PyData.str y).canLay0 = true := fun y hy => str_can (hlen y hy)
    refine opq ?_
    intro Q₆ h₆
    refine wpAny_If ?_
    refine opq ?_
    intro Q₇ h₇
    repeat' (first | ((with_reducible show wpAny _ _ (eval _ (compEnvC _ _ _ _)) _ _ _); first | refine ldVarK (by assumption) (by assumption) ?_ | refine ldCellK rfl (show CellOf _ _ _ by assumption) ?_) | ((with_reducible show wpAny _ _ (call (Value.builtin "list.append") [Value.ref _, _]) _ _ _); k_dflt (refine append_K (by k_asm) (by k_asm) (by k_upd) ?_ (by simp only [sizeLine_eq]; first | exact leK (by assumption) (by exact rfl) | omega)); intro hZq FZq NZq; (try k_sweep)) | walk1 | (dsimp only; first | ((with_reducible show wpAny _ _ (eval _ (compEnvC _ _ _ _)) _ _ _); first | refine ldVarK (by assumption) (by assumption) ?_ | refine ldCellK rfl (show CellOf _ _ _ by assumption) ?_) | ((with_reducible show wpAny _ _ (call (Value.builtin "list.append") [Value.ref _, _]) _ _ _); k_dflt (refine append_K (by k_asm) (by k_asm) (by k_upd) ?_ (by simp only [sizeLine_eq]; first | exact leK (by assumption) (by exact rfl) | omega)); intro hZq FZq NZq; (try k_sweep)) | walk1))
    refine ListComp_DCn (h₀ := s.heap) (L := L) (m := fun y => if y = Str.ofString "order" then some (.ref D) else if y = Str.ofString "words" then some (.ref a) else none) (K := ItemKind.str) (pz := fun o => begB o x) (d := PyData.str) hBh (by with_unfolding_all rfl) (by decide) (by with_unfolding_all rfl) (by decide) (by with_unfolding_all rfl) ?_ (by intro _; with_unfolding_all rfl)
    (first | ((with_reducible show wpAny _ _ (eval _ (compEnvC _ _ _ _)) _ _ _); first | refine ldVarK (by assumption) (by assumption) ?_ | refine ldCellK rfl (show CellOf _ _ _ by assumption) ?_) | ((with_reducible show wpAny _ _ (call (Value.builtin "list.append") [Value.ref _, _]) _ _ _); k_dflt (refine append_K (by k_asm) (by k_asm) (by k_upd) ?_ (by simp only [sizeLine_eq]; first | exact leK (by assumption) (by exact rfl) | omega)); intro hZq FZq NZq; (try k_sweep)) | walk1)
    refine EI4 _ a vs ws ⟨rfl, hl.at fun o e => F₃.keep _ _ e, hA, hw6, F₃, N₃, ?_, ?_, ?_⟩
    · focus (rintro C o v s₂ m₂ E' hC ho hP0 hn hm hk; refine hid fun hGo => ?_; rcases hP0 with ⟨t, rfl⟩; all_goals (refine hGo ?_; clear hGo))
      refine wpAny_tests_one ?_
      have hcell := CellOf.intro (N₃ _ (.tail _ (.tail _ (.head _)))).1 hoc₃ hk
      repeat' (first | ((with_reducible show wpAny _ _ (eval _ (compEnvC _ _ _ _)) _ _ _); first | refine ldVarK (by assumption) (by assumption) ?_ | refine ldCellK rfl (show CellOf _ _ _ by assumption) ?_) | ((with_reducible show wpAny _ _ (call (Value.builtin "list.append") [Value.ref _, _]) _ _ _); k_dflt (refine append_K (by k_asm) (by k_asm) (by k_upd) ?_ (by simp only [sizeLine_eq]; first | exact leK (by assumption) (by exact rfl) | omega)); intro hZq FZq NZq; (try k_sweep)) | walk1 | (dsimp only; first | ((with_reducible show wpAny _ _ (eval _ (compEnvC _ _ _ _)) _ _ _); first | refine ldVarK (by assumption) (by assumption) ?_ | refine ldCellK rfl (show CellOf _ _ _ by assumption) ?_) | ((with_reducible show wpAny _ _ (call (Value.builtin "list.append") [Value.ref _, _]) _ _ _); k_dflt (refine append_K (by k_asm) (by k_asm) (by k_upd) ?_ (by simp only [sizeLine_eq]; first | exact leK (by assumption) (by exact rfl) | omega)); intro hZq FZq NZq; (try k_sweep)) | walk1))
      all_goals first | exact ⟨_, _, rfl, fun _ _ e => e⟩ | exact begB_t (by assumption) (by assumption) | exact begB_f1 (by assumption) | exact begB_f2 (by assumption)
    · focus (rintro C o v s₂ m₂ E' hC ho hP0 hp hn hm hk; refine hid fun hGo => ?_; rcases hP0 with ⟨t, rfl⟩; all_goals (refine hGo ?_; clear hGo))
      refine ldVarK hn hm ?_
      exact ⟨.str _ _, _, _, rfl, fun _ _ e => e⟩
    · intro D₁ ys h₃ tk₃ F₄ N₄ hb₁ hl₁ hp₁ hc₁
      focus (refine hid fun hGo => ?_; obtain ⟨n₁, N₅, hne₁⟩ := News.new F₄ N₄ hp₁ hb₁; all_goals (refine hGo ?_; clear hGo))
      have hys := strs_of_carried hc₁
      clear N₄ hc₁ hp₁
      dsimp only
      iterate 3 (first | ((with_reducible show wpAny _ _ (eval _ (compEnvC _ _ _ _)) _ _ _); first | refine ldVarK (by assumption) (by assumption) ?_ | refine ldCellK rfl (show CellOf _ _ _ by assumption) ?_) | ((with_reducible show wpAny _ _ (call (Value.builtin "list.append") [Value.ref _, _]) _ _ _); k_dflt (refine append_K (by k_asm) (by k_asm) (by k_upd) ?_ (by simp only [sizeLine_eq]; first | exact leK (by assumption) (by exact rfl) | omega)); intro hZq FZq NZq; (try k_sweep)) | walk1 | (dsimp only; first | ((with_reducible show wpAny _ _ (eval _ (compEnvC _ _ _ _)) _ _ _); first | refine ldVarK (by assumption) (by assumption) ?_ | refine ldCellK rfl (show CellOf _ _ _ by assumption) ?_) | ((with_reducible show wpAny _ _ (call (Value.builtin "list.append") [Value.ref _, _]) _ _ _); k_dflt (refine append_K (by k_asm) (by k_asm) (by k_upd) ?_ (by simp only [sizeLine_eq]; first | exact leK (by assumption) (by exact rfl) | omega)); intro hZq FZq NZq; (try k_sweep)) | walk1))
      dsimp only
      rename Fr _ _ _ _ => F₅
      rename News _ _ _ _ => N₆
      refine eq_strs (ys := []) (News.isList N₆ (.tail _ (.head _))) (News.isList N₆ (.head _)) hys .nil (fun y hy => hcan y (List.mem_filter.mp hy).1) (fun y hy => nomatch hy) (ar_line (Nat.le_trans hB.2.2.1 (Nat.sub_le 6000 (20 * f))) rfl) ?_
      repeat' (first | ((with_reducible show wpAny _ _ (eval _ (compEnvC _ _ _ _)) _ _ _); first | refine ldVarK (by assumption) (by assumption) ?_ | refine ldCellK rfl (show CellOf _ _ _ by assumption) ?_) | ((with_reducible show wpAny _ _ (call (Value.builtin "list.append") [Value.ref _, _]) _ _ _); k_dflt (refine append_K (by k_asm) (by k_asm) (by k_upd) ?_ (by simp only [sizeLine_eq]; first | exact leK (by assumption) (by exact rfl) | omega)); intro hZq FZq NZq; (try k_sweep)) | walk1 | (dsimp only; first | ((with_reducible show wpAny _ _ (eval _ (compEnvC _ _ _ _)) _ _ _); first | refine ldVarK (by assumption) (by assumption) ?_ | refine ldCellK rfl (show CellOf _ _ _ by assumption) ?_) | ((with_reducible show wpAny _ _ (call (Value.builtin "list.append") [Value.ref _, _]) _ _ _); k_dflt (refine append_K (by k_asm) (by k_asm) (by k_upd) ?_ (by simp only [sizeLine_eq]; first | exact leK (by assumption) (by exact rfl) | omega)); intro hZq FZq NZq; (try k_sweep)) | walk1))
      refine h₇ _ _ ?_
      have z1 : @Ne Nat I D₁ := hne₁ (I, oI) (.head _)
      have z2 : @Ne Nat D D₁ := hne₁ (D, W.listOf us n) (.tail _ (.head _))
      have z3 : @Ne Nat (L + 1) D₁ := hne₁ (L + 1, _) (.tail _ (.tail _ (.head _)))
      clear h₇ hl₁ hne₁
      rename News _ _ _ _ => N₇
      rename Fr _ _ _ _ => F₇
      have husz : us.size ≤ 1000 := by
        have h1 := hus.length
        rw [Array.length_toList] at h1
        rw [h1]; exact Nat.le_trans (Nat.le_add_right _ _) (Nat.le_trans hbnd hsz)
      by_cases hroot : (ws.filter fun o => begB o x) = []
      · rw [if_pos (by simpa using hroot)]
        have hG : strG f ws x = x :: strF f (ws.filter fun o => begB x o) := by unfold strG; rw [if_pos hroot]
        have hbel : ∀ y ∈ ws.filter (fun o => begB x o), y ∈ ws := fun y hy => (List.mem_filter.mp hy).1
        have hsz1 : (strF f (ws.filter fun o => begB x o)).length ≤ 999 := by rw [hG, List.length_cons] at hbnd; exact Nat.le_of_succ_le_succ (Nat.le_trans (Nat.le_add_left _ _) (Nat.le_trans hbnd hsz))
        have hxm : x ∈ ws := List.mem_reverse.mp (List.mem_of_getElem? hx)
        have hshort : (ws.filter fun o => begB x o).length < f := by
          have : (ws.filter fun o => begB x o).length < ws.length := by
            rw [List.length_filter_lt_length_iff_exists]
            exact ⟨x, hxm, by rw [begB_irr]; exact Bool.false_ne_true⟩
          exact Nat.lt_of_lt_of_le this (Nat.le_of_lt_succ hwf)
        repeat' (first | ((with_reducible show wpAny _ _ (eval _ (compEnvC _ _ _ _)) _ _ _); first | refine ldVarK (by assumption) (by assumption) ?_ | refine ldCellK rfl (show CellOf _ _ _ by assumption) ?_) | ((with_reducible show wpAny _ _ (call (Value.builtin "list.append") [Value.ref _, _]) _ _ _); k_dflt (refine append_K (by k_asm) (by k_asm) (by k_upd) ?_ (by simp only [sizeLine_eq]; first | exact leK (by assumption) (by exact rfl) | omega)); intro hZq FZq NZq; (try k_sweep)) | walk1 | (dsimp only; first | ((with_reducible show wpAny _ _ (eval _ (compEnvC _ _ _ _)) _ _ _); first | refine ldVarK (by assumption) (by assumption) ?_ | refine ldCellK rfl (show CellOf _ _ _ by assumption) ?_) | ((with_reducible show wpAny _ _ (call (Value.builtin "list.append") [Value.ref _, _]) _ _ _); k_dflt (refine append_K (by k_asm) (by k_asm) (by k_upd) ?_ (by simp only [sizeLine_eq]; first | exact leK (by assumption) (by exact rfl) | omega)); intro hZq FZq NZq; (try k_sweep)) | walk1))
        try dsimp only
        rename Fr _ _ _ _ => F₈
        rename News _ _ _ _ => N₈
        refine ListComp_DCn (h₀ := s.heap) (L := L) (m := fun y => if y = Str.ofString "order" then some (.ref D) else if y = Str.ofString "words" then some (.ref a) else none) (K := ItemKind.str) (pz := fun o => begB x o) (d := PyData.str) hBh (by with_unfolding_all rfl) (by decide) (by with_unfolding_all rfl) (by decide) (by with_unfolding_all rfl) ?_ (by intro _; with_unfolding_all rfl)
        (first | ((with_reducible show wpAny _ _ (eval _ (compEnvC _ _ _ _)) _ _ _); first | refine ldVarK (by assumption) (by assumption) ?_ | refine ldCellK rfl (show CellOf _ _ _ by assumption) ?_) | ((with_reducible show wpAny _ _ (call (Value.builtin "list.append") [Value.ref _, _]) _ _ _); k_dflt (refine append_K (by k_asm) (by k_asm) (by k_upd) ?_ (by simp only [sizeLine_eq]; first | exact leK (by assumption) (by exact rfl) | omega)); intro hZq FZq NZq; (try k_sweep)) | walk1)
        refine EI4 _ a vs ws ⟨rfl, hl.at fun o e => F₈.keep _ _ e, hA, hw6, F₈, N₈, ?_, ?_, ?_⟩
        · focus (rintro C o v s₂ m₂ E' hC ho hP0 hn hm hk; refine hid fun hGo => ?_; rcases hP0 with ⟨t, rfl⟩; all_goals (refine hGo ?_; clear hGo))
          refine wpAny_tests_one ?_
          have hcell := CellOf.intro (N₈ (L + 1, _) (by k_mem)).1 hoc₃ hk
          repeat' (first | ((with_reducible show wpAny _ _ (eval _ (compEnvC _ _ _ _)) _ _ _); first | refine ldVarK (by assumption) (by assumption) ?_ | refine ldCellK rfl (show CellOf _ _ _ by assumption) ?_) | ((with_reducible show wpAny _ _ (call (Value.builtin "list.append") [Value.ref _, _]) _ _ _); k_dflt (refine append_K (by k_asm) (by k_asm) (by k_upd) ?_ (by simp only [sizeLine_eq]; first | exact leK (by assumption) (by exact rfl) | omega)); intro hZq FZq NZq; (try k_sweep)) | walk1 | (dsimp only; first | ((with_reducible show wpAny _ _ (eval _ (compEnvC _ _ _ _)) _ _ _); first | refine ldVarK (by assumption) (by assumption) ?_ | refine ldCellK rfl (show CellOf _ _ _ by assumption) ?_) | ((with_reducible show wpAny _ _ (call (Value.builtin "list.append") [Value.ref _, _]) _ _ _); k_dflt (refine append_K (by k_asm) (by k_asm) (by k_upd) ?_ (by simp only [sizeLine_eq]; first | exact leK (by assumption) (by exact rfl) | omega)); intro hZq FZq NZq; (try k_sweep)) | walk1))
          all_goals first | exact ⟨_, _, rfl, fun _ _ e => e⟩ | exact begB_t (bne_swap (by assumption)) (by assumption) | exact begB_f1 (bne_swap (by assumption)) | exact begB_f2 (by assumption)
        · focus (rintro C o v s₂ m₂ E' hC ho hP0 hp hn hm hk; refine hid fun hGo => ?_; rcases hP0 with ⟨t, rfl⟩; all_goals (refine hGo ?_; clear hGo))
          refine ldVarK hn hm ?_
          exact ⟨.str _ _, _, _, rfl, fun _ _ e => e⟩
        · intro D₃ ys₃ h₃ tk₃ F₉ N₉ hb₃ hl₃ hp₃ hc₃
          focus (refine hid fun hGo => ?_; obtain ⟨n₃, N₁₀, hne₃⟩ := News.new F₉ N₉ hp₃ hb₃; all_goals (refine hGo ?_; clear hGo))
          have hys₃ := strs_of_carried hc₃
          have z4 : @Ne Nat D D₃ := hne₃ (D, _) (by k_mem)
          clear N₉ hc₃ hp₃
          (first | ((with_reducible show wpAny _ _ (eval _ (compEnvC _ _ _ _)) _ _ _); first | refine ldVarK (by assumption) (by assumption) ?_ | refine ldCellK rfl (show CellOf _ _ _ by assumption) ?_) | ((with_reducible show wpAny _ _ (call (Value.builtin "list.append") [Value.ref _, _]) _ _ _); k_dflt (refine append_K (by k_asm) (by k_asm) (by k_upd) ?_ (by simp only [sizeLine_eq]; first | exact leK (by assumption) (by exact rfl) | omega)); intro hZq FZq NZq; (try k_sweep)) | walk1)
          refine ⟨X.keeps (Fr.toKp F₉), ?_⟩
          try dsimp only
          have hl3 : h₃.IsList D₃ ys₃.toArray := News.isList N₁₀ (.head _)
          refine ih (vs := ys₃) (Nat.le_of_succ_le hf) ?g hB ?l hys₃ hshort (fun y hy => hlen y (hbel y hy)) (leK hsz1 rfl) ?_
          case g => exact G.keeps (Fr.toKp F₉)
          case l => exact hl3
          intro h₄ tk₄ D₄ us₄ n₄ k₄ hn₄ ho₄ hus₄
          have F₁₁ := Fr.kp F₉ k₄
          have hL4 : D₄ ≠ L := by
            rintro rfl
            focus (refine hid fun hGo => ?_; obtain ⟨o, ho, _⟩ := Fr.obj F₉; all_goals (refine hGo ?_; clear hGo))
            rw [hn₄] at ho; cases ho
          have hb4 : s.heap.get? D₄ = none := by
            cases q : s.heap.get? D₄ with
            | none => rfl
            | some o => rw [F₉.keep _ _ q] at hn₄; cases hn₄
          have z6 : NeH D I := Nat.ne_of_lt hlt.1
          have z5 : NeH D D₄ := by
            intro e
            have := (N₁₀ (D, _) (by k_mem)).1
            rw [show D = D₄ from e, hn₄] at this; cases this
          have N₁₂ : News s.heap L h₄ [(D₄, W.listOf us₄ n₄), (I, oI), (D, W.listOf (us.push (Value.str x tx)) (n + 1)), (L + 1, _)] := fun p hp => by
            focus (refine hid fun hGo => ?_; rcases List.mem_cons.mp hp with rfl | hp; all_goals (refine hGo ?_; clear hGo))
            · exact ⟨ho₄, hL4, hb4⟩
            · exact (News.kp N₁₀ k₄) p (.tail _ (.tail _ (.tail _ hp)))
          have hs4 : us₄.size ≤ 999 := by
            have h1 := hus₄.length
            rw [Array.length_toList] at h1
            rw [h1]; exact hsz1
          (first | ((with_reducible show wpAny _ _ (eval _ (compEnvC _ _ _ _)) _ _ _); first | refine ldVarK (by assumption) (by assumption) ?_ | refine ldCellK rfl (show CellOf _ _ _ by assumption) ?_) | ((with_reducible show wpAny _ _ (call (Value.builtin "list.append") [Value.ref _, _]) _ _ _); k_dflt (refine append_K (by k_asm) (by k_asm) (by k_upd) ?_ (by simp only [sizeLine_eq]; first | exact leK (by assumption) (by exact rfl) | omega)); intro hZq FZq NZq; (try k_sweep)) | walk1)
          try dsimp only
          have ho4 := (N₁₂ _ (.head _)).1
          refine extend_N F₁₁ N₁₂ (by k_updF) ho₄ (leK (by rw [Array.size_push]; exact Nat.add_le_add (Nat.succ_le_succ husz) hs4 : _ ≤ 1001 + 999) rfl) ?_
          intro h₅ n₅ F₁₃ N₁₃
          repeat' (first | ((with_reducible show wpAny _ _ (eval _ (compEnvC _ _ _ _)) _ _ _); first | refine ldVarK (by assumption) (by assumption) ?_ | refine ldCellK rfl (show CellOf _ _ _ by assumption) ?_) | ((with_reducible show wpAny _ _ (call (Value.builtin "list.append") [Value.ref _, _]) _ _ _); k_dflt (refine append_K (by k_asm) (by k_asm) (by k_upd) ?_ (by simp only [sizeLine_eq]; first | exact leK (by assumption) (by exact rfl) | omega)); intro hZq FZq NZq; (try k_sweep)) | walk1 | (dsimp only; first | ((with_reducible show wpAny _ _ (eval _ (compEnvC _ _ _ _)) _ _ _); first | refine ldVarK (by assumption) (by assumption) ?_ | refine ldCellK rfl (show CellOf _ _ _ by assumption) ?_) | ((with_reducible show wpAny _ _ (call (Value.builtin "list.append") [Value.ref _, _]) _ _ _); k_dflt (refine append_K (by k_asm) (by k_asm) (by k_upd) ?_ (by simp only [sizeLine_eq]; first | exact leK (by assumption) (by exact rfl) | omega)); intro hZq FZq NZq; (try k_sweep)) | walk1))
          try dsimp only
          refine h₆ _ _ ?_
          refine hn₅ _ ?_
          refine wpAny_execs_nil ?_
          refine TurnEnd.go F₁₃ (News.sub (l' := [(I, oI), (D, W.listOf (us.push (Value.str x tx) ++ us₄) n₅), (L + 1, _)]) N₁₃ (by ((repeat' (first | exact List.forall_mem_nil _ | (refine fmc (by k_memK) ?_) | (intro p hp; k_ownIn)))))) ⟨_, _, _, n₅, hoc₃, rfl, ?_, rfl⟩
          rw [List.take_add_one, hx, List.flatMap_append, Array.toList_append]
          have := strsAre_append (strsAre_push (t := tx) (n := x) hus) hus₄
          simpa [hG] using this
      · rw [if_neg (by simpa using hroot)]
        have hG : strG f ws x = [] := by unfold strG; rw [if_neg hroot]
        refine wpAny_execs_nil ?_
        refine h₆ _ _ ?_
        refine hn₅ _ ?_
        refine wpAny_execs_nil ?_
        refine TurnEnd.go F₇ (News.sub (l' := [(I, oI), (D, W.listOf us n), (L + 1, _)]) N₇ (by ((repeat' (first | exact List.forall_mem_nil _ | (refine fmc (by k_memK) ?_) | (intro p hp; k_ownIn)))))) ⟨_, _, us, n, hoc₃, rfl, ?_, rfl⟩
        rw [List.take_add_one, hx, List.flatMap_append]
        simpa [hG] using hus
  · focus (rintro m₁ news₁ h tk hP0 F₂ N₂; refine hid fun hGo => ?_; rcases hP0 with ⟨oc', v₀, us, n, _, rfl, hus, rfl⟩; all_goals (refine hGo ?_; clear hGo))
    refine hn₂ _ ?_
    repeat' (first | ((with_reducible show wpAny _ _ (eval _ (compEnvC _ _ _ _)) _ _ _); first | refine ldVarK (by assumption) (by assumption) ?_ | refine ldCellK rfl (show CellOf _ _ _ by assumption) ?_) | ((with_reducible show wpAny _ _ (call (Value.builtin "list.append") [Value.ref _, _]) _ _ _); k_dflt (refine append_K (by k_asm) (by k_asm) (by k_upd) ?_ (by simp only [sizeLine_eq]; first | exact leK (by assumption) (by exact rfl) | omega)); intro hZq FZq NZq; (try k_sweep)) | walk1 | (dsimp only; first | ((with_reducible show wpAny _ _ (eval _ (compEnvC _ _ _ _)) _ _ _); first | refine ldVarK (by assumption) (by assumption) ?_ | refine ldCellK rfl (show CellOf _ _ _ by assumption) ?_) | ((with_reducible show wpAny _ _ (call (Value.builtin "list.append") [Value.ref _, _]) _ _ _); k_dflt (refine append_K (by k_asm) (by k_asm) (by k_upd) ?_ (by simp only [sizeLine_eq]; first | exact leK (by assumption) (by exact rfl) | omega)); intro hZq FZq NZq; (try k_sweep)) | walk1))
    have hm := N₂ _ (.head _)
    refine hQ _ _ _ _ _ (Fr.toKp F₂) hm.2.2 hm.1 ?_
    rw [hi.length, ← List.length_reverse, List.take_length] at hus
    exact hus

theorem node_inj {ns : List Nd} (h : (nodesFoot ns).Nodup) {n n' : Nd} (hn : n ∈ ns) (hn' : n' ∈ ns) (e : n'.a = n.a) : n' = n := by
  focus (refine hid fun hGo => ?_; obtain ⟨pre, post, rfl⟩ := List.append_of_mem hn; all_goals (refine hGo ?_; clear hGo))
  focus (refine hid fun hGo => ?_; obtain ⟨h1, _⟩ := node_off h; all_goals (refine hGo ?_; clear hGo))
  focus (refine hid fun hGo => ?_; rcases List.mem_append.mp hn' with q | q; all_goals (refine hGo ?_; clear hGo))
  · exact absurd e (h1 (n'.a, n'.obj) (List.mem_append_left _ (List.mem_flatMap.mpr ⟨n', q, .head _⟩))).1
  · focus (refine hid fun hGo => ?_; rcases List.mem_cons.mp q with rfl | q; all_goals (refine hGo ?_; clear hGo))
    · rfl
    · exact absurd e (h1 (n'.a, n'.obj) (List.mem_append_right _ (List.mem_flatMap.mpr ⟨n', q, .head _⟩))).1
noncomputable def isRoot (ns : List Nd) (v : Value) : Bool := match v with
  | .ref a => ns.any fun n => decide (n.a = a) && decide (n.np = 0)
  | _ => false
theorem isRoot_of {ns : List Nd} (h : (nodesFoot ns).Nodup) {n : Nd} (hn : n ∈ ns) : isRoot ns (.ref n.a) = decide (n.np = 0) := by
  unfold isRoot
  rw [Bool.eq_iff_iff, List.any_eq_true, decide_eq_true_eq]
  constructor
  · focus (rintro hP0; refine hid fun hGo => ?_; rcases hP0 with ⟨n', hn', h1⟩; all_goals (refine hGo ?_; clear hGo))
    simp only [Bool.and_eq_true, decide_eq_true_eq] at h1
    rw [← node_inj h hn hn' h1.1]; exact h1.2
  · intro h1; exact ⟨n, hn, by simp [h1]⟩
theorem roots_paired {ns : List Nd} (h : (nodesFoot ns).Nodup) : ∀ (l : List Nd) (ys : List Value), (∀ n ∈ l, n ∈ ns) → Paired (fun v y => ∀ n ∈ ns, v = Value.ref n.a → ∃ t, y = .int n.k t) ((l.map fun n => Value.ref n.a).filter (isRoot ns)) ys → IntsAre ys ((l.filter fun n => decide (n.np = 0)).map (·.k))
  | [], ys, _, hp => by cases hp; exact .nil
  | n :: l, ys, hl, hp => by
    rw [List.map_cons, List.filter_cons, isRoot_of h (hl n (.head _))] at hp
    rw [List.filter_cons]
    by_cases e : n.np = 0
    · rw [decide_eq_true e, if_pos rfl] at hp
      rw [decide_eq_true e, if_pos rfl]
      cases hp with
      | cons h1 h2 =>
        focus (refine hid fun hGo => ?_; obtain ⟨t, rfl⟩ := h1 n (hl n (.head _)) rfl; all_goals (refine hGo ?_; clear hGo))
        exact .cons _ _ (roots_paired h l _ (fun n hn => hl n (.tail _ hn)) h2)
    · rw [decide_eq_false e, if_neg Bool.false_ne_true] at hp
      rw [decide_eq_false e, if_neg Bool.false_ne_true]
      exact roots_paired h l _ (fun n hn => hl n (.tail _ hn)) hp
theorem values_get {w : World} {A : Around} {s : Shared} {E : Value → Shared → Prop} {hb : Heap} {L d : Addr} {news : List (Addr × Obj)} {od : Obj} {kvs : List (Int × Value)} {pl : Sem Bool} {Q : Value × List Value → Shared → Prop}
    (N : News hb L s.heap news) (hm : (d, od) ∈ news) (ho : od.IsDictOf (intKind PP w) kvs) (h : Q (.builtin "dict.values", [.ref d]) s) : wpAny (model PP w) A (getMethod (.ref d) "values" pl) Q E s :=
  have hD := dictOf_N N hm ho
  getMethod_builtin hD.typeIs F.plainAttrs_dict F.slot_dict_values F.type_dict_values hD.mapOf.noDict h
theorem hideB {α : Type} {M : Model} {env : Env} {outer : List Env} {d u : Nat} {t : Sem α} {Q : α → Shared → Prop} {E : Value → Shared → Prop} {s : Shared} (h : ∀ BA : Around, LeF BA (env :: outer) d u → wpAny M BA t Q E s) :
    wpAny M { handled := none, depth := d, frames := some (env :: outer), guards := none, units := u } t Q E s := h _ ⟨rfl, Nat.le_refl _, Nat.le_refl _, rfl⟩
theorem LeF.wide {A : Around} {outer : List Env} {d u d' u' : Nat} (h : LeF A outer d u) (h1 : d ≤ d') (h2 : u ≤ u') : LeF A outer d' u' := ⟨h.1, Nat.le_trans h.2.1 h1, Nat.le_trans h.2.2.1 h2, h.2.2.2⟩

theorem inComp_node {hV : Heap} {C : Nat} {oI : Obj} {h : Heap} {m : Str → Option Value} {n : Nd} (hC : @LE.le Nat _ (hV.push oI).objs.size C) (hk : ∀ b o, b ∉ [hV.objs.size] → (hV.push oI).get? b = some o → h.get? b = some o) (hn : h.Ns C m)
    (h1 : hV.get? n.a = some n.obj) (h2 : hV.get? n.dx = some (dictOf [] 0)) :
    Fr hV C h m ∧ hV.get? n.a = some ⟨.ref 40, some n.dx, .plain, #[some (.int n.k n.nt), some (.int n.np n.npt), some (.ref n.l)]⟩ ∧ hV.get? n.dx = some (dictOf [] 0) := by
  refine ⟨⟨hn, fun b o e => hk b o (fun q => ?_) (Heap.get?_push_of_some _ e), ?_⟩, h1, h2⟩
  · rw [List.mem_singleton.mp q] at e
    exact absurd (Heap.lt_size e) (Nat.lt_irrefl _)
  · rw [Heap.size_push] at hC; exact Nat.le_of_succ_le hC
theorem prep_spec {w : World} {A : Around} {outer : List Env} {s : Shared} {hb : Heap} {L : Addr} {m : Str → Option Value} {tl fl : List (Addr × Obj)} {x dx d : Addr} {od : Obj} {ns : List Nd} {B : Nat} {t1 t2 t3 t4 : Tok} {po nf : Value} {rk : Int → Nat} {Q : Value → Shared → Prop} {E : Value → Shared → Prop}
    (G : Gd w hb) (hA : LeF A outer 950 5000) (F : Fr hb L s.heap m) (N : News hb L s.heap ((x, instObj 137 dx) :: (dx, soDict w t1 t2 t3 t4 d .none po nf) :: (d, od) :: (tl ++ fl)))
    (hod : od.IsDictOf (intKind PP w) (nodesKvs ns)) (hlo : (d == sysModules) = false) (hok : NsOk ns B) (hB : B ≤ 1000) (hnl : ns.length ≤ 1000)
    (hns : ∀ n ∈ ns, (n.a, n.obj) ∈ tl ∧ (n.dx, dictOf [] 0) ∈ tl ∧ (n.l, W.listOf n.sv n.le) ∈ tl)
    (hout : ∀ y ∈ outer, y.scope.kind = .function ∧ ∃ f, y.frame = some f ∧ (f = L ∨ f ∈ fl.map (·.1)))
    (hfl : ∀ p ∈ fl, NeH p.1 x ∧ NeH p.1 dx ∧ NeH p.1 d ∧ ∀ q ∈ tl, NeH p.1 q.1) (hfn : (fl.map (·.1)).Nodup)
    (hdx : NeH x dx ∧ NeH d dx ∧ ∀ q ∈ tl, NeH q.1 dx)
    (hrk : ∀ n ∈ ns, ∀ p ∈ intsOf n.sv, p ∈ ns.map (·.k) ∧ rk n.k < rk p)
    (hQ : ∀ h' tk σ r rv re, Fr hb L h' m → News hb L h' ((x, instObj 137 dx) :: (dx, soDict w t1 t2 t3 t4 d (.ref r) po nf) :: (d, od) :: (r, W.listOf rv re) :: (tl ++ upS σ fl)) →
      IntsAre rv.toList ((ns.filter fun n => decide (n.np = 0)).map (·.k)) → (∀ p ∈ (x, instObj 137 dx) :: (dx, soDict w t1 t2 t3 t4 d .none po nf) :: (d, od) :: (tl ++ fl), NeH p.1 r) → Q .none { s with heap := h', toks := tk }) :
    wpAny (model PP w) A (call (.ref 92) [.ref x]) Q E s := by
  refine wpAny_leF hA ?_
  have X := G.X
  focus (refine hid fun hGo => ?_; obtain ⟨mg, mb, T⟩ := G.T; all_goals (refine hGo ?_; clear hGo))
  refine enterB (fr := some outer) (binds := [(Str.ofString "self", .ref x)]) G F N (by decide) (by k_is) (by k_is) (BindsTo.of_eq rfl) (by decide) (locs rfl) ?_
  intro h₁ L' tk oL bk hL hN F₁ N₁
  have l3 := hN _ (.head _)
  have l4 := hN _ (.tail _ (.head _))
  have l4' := hN _ (.tail _ (.tail _ (.head _)))
  have l5 : @Ne Nat dx L := (N _ (.tail _ (.head _))).2.1
  have l6 : @Ne Nat x L := (N _ (.head _)).2.1
  have l7 : @Ne Nat d L := (N _ (.tail _ (.tail _ (.head _)))).2.1
  have l8 : ∀ p ∈ tl ++ fl, p.1 ≠ L := fun p hp => (N _ (.tail _ (.tail _ (.tail _ hp)))).2.1
  have l9 : ∀ p ∈ tl ++ fl, @LT.lt Nat _ p.1 L' := fun p hp => hN _ (.tail _ (.tail _ (.tail _ hp)))
  rw [Option.map_some]
  refine hideB ?_
  intro BA hBf
  have hBh : BA.handled = none := hBf.1
  refine execs_seq ?_
  intro Q₁ hn₁ hr₁ hb₁ hc₁
  repeat' (first | ((with_reducible show wpAny _ _ (eval _ (compEnvC _ _ _ _)) _ _ _); refine ldVarK (by assumption) (by assumption) ?_) | ((with_reducible show wpAny _ _ (getMethod (Value.ref _) (Str.ofString "values") _) _ _ _); refine values_get (by assumption) (by k_mem) (by assumption) ?_) | walk1 | (dsimp only; first | ((with_reducible show wpAny _ _ (eval _ (compEnvC _ _ _ _)) _ _ _); refine ldVarK (by assumption) (by assumption) ?_) | ((with_reducible show wpAny _ _ (getMethod (Value.ref _) (Str.ofString "values") _) _ _ _); refine values_get (by assumption) (by k_mem) (by assumption) ?_) | walk1))
  refine hn₁ _ ?_
  clear hn₁ hr₁ hb₁ hc₁
  refine execs_seq ?_
  intro Q₁ hn₁ hr₁ hb₁ hc₁
  (first | ((with_reducible show wpAny _ _ (eval _ (compEnvC _ _ _ _)) _ _ _); refine ldVarK (by assumption) (by assumption) ?_) | ((with_reducible show wpAny _ _ (getMethod (Value.ref _) (Str.ofString "values") _) _ _ _); refine values_get (by assumption) (by k_mem) (by assumption) ?_) | walk1)
  refine wpAny_ListComp_free (cl := []) (isRoot ns) (fun v y => ∀ n ∈ ns, v = Value.ref n.a → ∃ t, y = .int n.k t) (by with_unfolding_all rfl) (by decide) (by with_unfolding_all rfl) (by decide) (by with_unfolding_all rfl) ?_ (by intro _; with_unfolding_all rfl)
  repeat' (first | ((with_reducible show wpAny _ _ (eval _ (compEnvC _ _ _ _)) _ _ _); refine ldVarK (by assumption) (by assumption) ?_) | ((with_reducible show wpAny _ _ (getMethod (Value.ref _) (Str.ofString "values") _) _ _ _); refine values_get (by assumption) (by k_mem) (by assumption) ?_) | walk1 | (dsimp only; first | ((with_reducible show wpAny _ _ (eval _ (compEnvC _ _ _ _)) _ _ _); refine ldVarK (by assumption) (by assumption) ?_) | ((with_reducible show wpAny _ _ (getMethod (Value.ref _) (Str.ofString "values") _) _ _ _); refine values_get (by assumption) (by k_mem) (by assumption) ?_) | walk1))
  rename Fr _ _ _ _ => F₂
  rename News _ _ _ _ => N₂
  rename_i V hV lV
  focus (refine hid fun hGo => ?_; obtain ⟨ep, ha⟩ := KdkAt.of hod; all_goals (refine hGo ?_; clear hGo))
  have hdm := N₂ (d, od) (.tail _ (.tail _ (.tail _ (.tail _ (.head _)))))
  have hat := ha.dictAt hdm.1
  have hlt : @LT.lt Nat _ d hV.objs.size := Heap.lt_size hdm.1
  refine wpAny_pyIter_values ⟨_, (N₂ _ (.head _)).1, rfl, rfl⟩ hat ?_
  refine EI6 hV.objs.size _ _ (nodesKvs ns).length _ _ ⟨rfl, Walks.dictValues hBh _ d (Nat.ne_of_lt hlt) (nodesKvs ns) ep, ?_, ⟨⟨_, Heap.get?_push_size _ rfl, rfl, rfl⟩, ha.dictAt (Heap.get?_push_of_some _ hdm.1)⟩, ?_, ⟨?_, ?_⟩, ?_⟩
  · rw [sizeLine_eq]; unfold nodesKvs; rw [List.length_map]; omega
  · intro b hb
    show @LT.lt Nat _ b (hV.push _).objs.size
    rw [Heap.size_push]
    focus (refine hid fun hGo => ?_; rcases List.mem_cons.mp hb with rfl | hb; all_goals (refine hGo ?_; clear hGo))
    · exact Nat.lt_succ_self _
    · rw [List.mem_singleton.mp hb]; exact Nat.lt_succ_of_lt hlt
  · focus (rintro C i v s₃ m₃ E' hC hP0 hn hm hk _; refine hid fun hGo => ?_; rcases hP0 with ⟨k, hP⟩; all_goals (refine hGo ?_; clear hGo))
    obtain ⟨n, hnm, e1, rfl⟩ : ∃ n ∈ ns, n.k = k ∧ Value.ref n.a = v := by
      focus (refine hid fun hGo => ?_; obtain ⟨n, hn, e⟩ := List.mem_map.mp (List.mem_of_getElem? hP); all_goals (refine hGo ?_; clear hGo))
      exact ⟨n, hn, congrArg Prod.fst e, congrArg Prod.snd e⟩
    focus (refine hid fun hGo => ?_; obtain ⟨F₃, e2, e3⟩ := inComp_node hC hk hn (N₂ (n.a, n.obj) (.tail _ (.tail _ (.tail _ (.tail _ (.tail _ (List.mem_append_left _ (hns n hnm).1))))))).1 (N₂ (n.dx, _) (.tail _ (.tail _ (.tail _ (.tail _ (.tail _ (List.mem_append_left _ (hns n hnm).2.1))))))).1; all_goals (refine hGo ?_; clear hGo))
    have X₃ := X.keeps F₂.keep
    refine wpAny_tests_one ?_
    clear F₂ N₂ F₁ N₁
    repeat' (first | ((with_reducible show wpAny _ _ (eval _ (compEnvC _ _ _ _)) _ _ _); refine ldVarK (by assumption) (by assumption) ?_) | ((with_reducible show wpAny _ _ (getMethod (Value.ref _) (Str.ofString "values") _) _ _ _); refine values_get (by assumption) (by k_mem) (by assumption) ?_) | walk1 | (dsimp only; first | ((with_reducible show wpAny _ _ (eval _ (compEnvC _ _ _ _)) _ _ _); refine ldVarK (by assumption) (by assumption) ?_) | ((with_reducible show wpAny _ _ (getMethod (Value.ref _) (Str.ofString "values") _) _ _ _); refine values_get (by assumption) (by k_mem) (by assumption) ?_) | walk1))
    all_goals first | exact ⟨_, _, rfl, fun _ _ e => e⟩ | (rw [isRoot_of hok.footOk hnm]; rfl)
  · focus (rintro C i v s₃ m₃ E' hC hP0 hp hn hm hk _; refine hid fun hGo => ?_; rcases hP0 with ⟨k, hP⟩; all_goals (refine hGo ?_; clear hGo))
    obtain ⟨n, hnm, e1, rfl⟩ : ∃ n ∈ ns, n.k = k ∧ Value.ref n.a = v := by
      focus (refine hid fun hGo => ?_; obtain ⟨n, hn, e⟩ := List.mem_map.mp (List.mem_of_getElem? hP); all_goals (refine hGo ?_; clear hGo))
      exact ⟨n, hn, congrArg Prod.fst e, congrArg Prod.snd e⟩
    focus (refine hid fun hGo => ?_; obtain ⟨F₃, e2, e3⟩ := inComp_node hC hk hn (N₂ (n.a, n.obj) (.tail _ (.tail _ (.tail _ (.tail _ (.tail _ (List.mem_append_left _ (hns n hnm).1))))))).1 (N₂ (n.dx, _) (.tail _ (.tail _ (.tail _ (.tail _ (.tail _ (List.mem_append_left _ (hns n hnm).2.1))))))).1; all_goals (refine hGo ?_; clear hGo))
    have X₃ := X.keeps F₂.keep
    clear F₂ N₂ F₁ N₁
    refine opq ?_
    intro Q₇ h₇
    repeat' (first | ((with_reducible show wpAny _ _ (eval _ (compEnvC _ _ _ _)) _ _ _); refine ldVarK (by assumption) (by assumption) ?_) | ((with_reducible show wpAny _ _ (getMethod (Value.ref _) (Str.ofString "values") _) _ _ _); refine values_get (by assumption) (by k_mem) (by assumption) ?_) | walk1 | (dsimp only; first | ((with_reducible show wpAny _ _ (eval _ (compEnvC _ _ _ _)) _ _ _); refine ldVarK (by assumption) (by assumption) ?_) | ((with_reducible show wpAny _ _ (getMethod (Value.ref _) (Str.ofString "values") _) _ _ _); refine values_get (by assumption) (by k_mem) (by assumption) ?_) | walk1))
    refine h₇ _ _ ⟨?_, _, _, rfl, fun _ _ e => e⟩
    intro n' hn' e
    rw [node_inj hok.footOk hnm hn' (Value.ref.inj e).symm]
    exact ⟨_, rfl⟩
  · intro D h' tk' ys vs' hnew hlD hplD hlen hP hF hk
    have e : vs' = ns.map fun n => Value.ref n.a := by
      apply List.ext_getElem?
      intro j
      cases hj : vs'[j]? with
      | none =>
        rw [List.getElem?_eq_none_iff] at hj
        rw [List.getElem?_eq_none (by rw [List.length_map]; simp only [nodesKvs, List.length_map] at hlen; omega)]
      | some v =>
        focus (refine hid fun hGo => ?_; obtain ⟨k, hk⟩ := hP j v hj; all_goals (refine hGo ?_; clear hGo))
        unfold nodesKvs at hk
        rw [List.getElem?_map] at hk
        rw [List.getElem?_map]
        cases hns : ns[j]? with
        | none => rw [hns] at hk; cases hk
        | some n => rw [hns] at hk; simp only [Option.map_some, Option.some.injEq, Prod.mk.injEq] at hk ⊢; exact hk.2.symm
    subst e
    have hrv := roots_paired hok.footOk ns ys.toList (fun n hn => hn) hF
    have up : ∀ b o, hV.get? b = some o → h'.get? b = some o := fun b o e => hk b o (fun hm => by
      rw [List.mem_singleton.mp hm] at e
      exact absurd (Heap.lt_size e) (Nat.lt_irrefl _)) (Heap.get?_push_of_some _ e)
    have F₄ := Fr.keeps F₂ up
    have N₄ := News.grown N₂ up
    focus (refine hid fun hGo => ?_; obtain ⟨nD, hD⟩ := hplD; all_goals (refine hGo ?_; clear hGo))
    have hDV : ∀ b o, hV.get? b = some o → b ≠ D := fun b o e => by
      rintro rfl
      rw [Heap.get?_push_of_some _ e] at hnew; cases hnew
    have z1 : ∀ p ∈ (L, oL) :: (x, instObj 137 dx) :: (dx, soDict w t1 t2 t3 t4 d .none po nf) :: (d, od) :: (tl ++ fl), @Ne Nat p.1 D := fun p hp => hDV _ _ (N₂ p (.tail _ hp)).1
    have N₅ : News hb L' h' ((D, W.listOf ys nD) :: (L, oL) :: (x, instObj 137 dx) :: (dx, soDict w t1 t2 t3 t4 d .none po nf) :: (d, od) :: (tl ++ fl)) := fun p hp => by
      focus (refine hid fun hGo => ?_; rcases List.mem_cons.mp hp with rfl | hp; all_goals (refine hGo ?_; clear hGo))
      · refine ⟨hD, ?_, ?_⟩
        · rintro rfl
          focus (refine hid fun hGo => ?_; obtain ⟨o, ho, _⟩ := Fr.obj F₂; all_goals (refine hGo ?_; clear hGo))
          exact hDV _ _ ho rfl
        · cases q : hb.get? D with
          | none => rfl
          | some o => exact absurd rfl (hDV _ _ (F₂.keep _ _ q))
      · exact N₄ p (.tail _ hp)
    clear F₂ N₂ F₁ N₁ N₄
    have y1 : NeH dx D := z1 (dx, _) (.tail _ (.tail _ (.head _)))
    have y2 : NeH dx L := l5
    have y3 : NeH dx x := Ne.symm hdx.1
    have y4 : NeH dx d := Ne.symm hdx.2.1
    have y5 : ∀ p ∈ tl ++ fl, p.1 ≠ dx := fma (fun p hp => hdx.2.2 p hp) fun p hp => (hfl p hp).2.1
    repeat' (first | ((with_reducible show wpAny _ _ (eval _ (compEnvC _ _ _ _)) _ _ _); refine ldVarK (by assumption) (by assumption) ?_) | ((with_reducible show wpAny _ _ (getMethod (Value.ref _) (Str.ofString "values") _) _ _ _); refine values_get (by assumption) (by k_mem) (by assumption) ?_) | walk1 | (dsimp only; first | ((with_reducible show wpAny _ _ (eval _ (compEnvC _ _ _ _)) _ _ _); refine ldVarK (by assumption) (by assumption) ?_) | ((with_reducible show wpAny _ _ (getMethod (Value.ref _) (Str.ofString "values") _) _ _ _); refine values_get (by assumption) (by k_mem) (by assumption) ?_) | walk1))
    refine hn₁ _ ?_
    clear hn₁ hr₁ hb₁ hc₁
    try dsimp only
    rename Fr _ _ _ _ => F₆
    rename News _ _ _ _ => N₆
    refine execs_seq ?_
    intro Q₁ hn₁ hr₁ hb₁ hc₁
    repeat' (first | ((with_reducible show wpAny _ _ (eval _ (compEnvC _ _ _ _)) _ _ _); refine ldVarK (by assumption) (by assumption) ?_) | ((with_reducible show wpAny _ _ (getMethod (Value.ref _) (Str.ofString "values") _) _ _ _); refine values_get (by assumption) (by k_mem) (by assumption) ?_) | walk1 | (dsimp only; first | ((with_reducible show wpAny _ _ (eval _ (compEnvC _ _ _ _)) _ _ _); refine ldVarK (by assumption) (by assumption) ?_) | ((with_reducible show wpAny _ _ (getMethod (Value.ref _) (Str.ofString "values") _) _ _ _); refine values_get (by assumption) (by k_mem) (by assumption) ?_) | walk1))
    try dsimp only
    have N₇ := News.sub (l' := (x, instObj 137 dx) :: (dx, soDict w t1 t2 t3 t4 d (.ref D) po nf) :: (d, od) :: (((D, W.listOf ys nD) :: tl) ++ ((L, oL) :: fl))) N₆ (fmc (mat 2 rfl) (fmc (mat 3 rfl) (fmc (mat 4 rfl) (fma (fmc (mat 0 rfl) fun p h => mdrop 5 rfl _ (List.mem_append_left _ h)) (fmc (mat 1 rfl) fun p h => mdrop 5 rfl _ (List.mem_append_right _ h))))))
    refine cyc_spec (outer := _ :: outer) (tl := (D, W.listOf ys nD) :: tl) (fl := (L, oL) :: fl) G (hBf.wide (Nat.le_of_ble_eq_true rfl) (Nat.le_of_ble_eq_true rfl)) F₆ N₇ hod hlo hok hB hnl ?_ ?_ ?_ ?_ hrk ?_
    · intro n hn; exact ⟨.tail _ (hns n hn).1, .tail _ (hns n hn).2.1, .tail _ (hns n hn).2.2⟩
    · intro y hy
      focus (refine hid fun hGo => ?_; rcases List.mem_cons.mp hy with rfl | hy; all_goals (refine hGo ?_; clear hGo))
      · exact ⟨rfl, L', rfl, .inl rfl⟩
      · focus (refine hid fun hGo => ?_; obtain ⟨h1, f, h2, h3⟩ := hout y hy; all_goals (refine hGo ?_; clear hGo))
        exact ⟨h1, f, h2, .inr (by rw [List.map_cons]; rcases h3 with rfl | h3; exact .head _; exact .tail _ h3)⟩
    · intro p hp
      focus (refine hid fun hGo => ?_; rcases List.mem_cons.mp hp with rfl | hp; all_goals (refine hGo ?_; clear hGo))
      · refine ⟨Ne.symm l6, Ne.symm l5, Ne.symm l7, fun q hq => ?_⟩
        focus (refine hid fun hGo => ?_; rcases List.mem_cons.mp hq with rfl | hq; all_goals (refine hGo ?_; clear hGo))
        · exact z1 (L, oL) (.head _)
        · exact Ne.symm (l8 q (List.mem_append_left _ hq))
      · focus (refine hid fun hGo => ?_; obtain ⟨h1, h2, h3, h4⟩ := hfl p hp; all_goals (refine hGo ?_; clear hGo))
        refine ⟨h1, h2, h3, fun q hq => ?_⟩
        focus (refine hid fun hGo => ?_; rcases List.mem_cons.mp hq with rfl | hq; all_goals (refine hGo ?_; clear hGo))
        · exact z1 p (.tail _ (.tail _ (.tail _ (.tail _ (List.mem_append_right _ hp)))))
        · exact h4 q hq
    · rw [List.map_cons, List.nodup_cons]
      refine ⟨fun hm => ?_, hfn⟩
      focus (refine hid fun hGo => ?_; obtain ⟨p, hp, e⟩ := List.mem_map.mp hm; all_goals (refine hGo ?_; clear hGo))
      exact l8 p (List.mem_append_right _ hp) e
    · intro h₇ tk₇ σ F₇ N₈
      repeat' (first | ((with_reducible show wpAny _ _ (eval _ (compEnvC _ _ _ _)) _ _ _); refine ldVarK (by assumption) (by assumption) ?_) | ((with_reducible show wpAny _ _ (getMethod (Value.ref _) (Str.ofString "values") _) _ _ _); refine values_get (by assumption) (by k_mem) (by assumption) ?_) | walk1 | (dsimp only; first | ((with_reducible show wpAny _ _ (eval _ (compEnvC _ _ _ _)) _ _ _); refine ldVarK (by assumption) (by assumption) ?_) | ((with_reducible show wpAny _ _ (getMethod (Value.ref _) (Str.ofString "values") _) _ _ _); refine values_get (by assumption) (by k_mem) (by assumption) ?_) | walk1))
      refine hn₁ _ ?_
      repeat' (first | ((with_reducible show wpAny _ _ (eval _ (compEnvC _ _ _ _)) _ _ _); refine ldVarK (by assumption) (by assumption) ?_) | ((with_reducible show wpAny _ _ (getMethod (Value.ref _) (Str.ofString "values") _) _ _ _); refine values_get (by assumption) (by k_mem) (by assumption) ?_) | walk1 | (dsimp only; first | ((with_reducible show wpAny _ _ (eval _ (compEnvC _ _ _ _)) _ _ _); refine ldVarK (by assumption) (by assumption) ?_) | ((with_reducible show wpAny _ _ (getMethod (Value.ref _) (Str.ofString "values") _) _ _ _); refine values_get (by assumption) (by k_mem) (by assumption) ?_) | walk1))
      rename Fr _ _ _ _ => F₈
      rename News _ _ _ _ => N₉
      have hne : ∀ p ∈ (x, instObj 137 dx) :: (dx, soDict w t1 t2 t3 t4 d (.ref D) po nf) :: (d, od) :: (D, W.listOf ys nD) :: (tl ++ upS σ fl), p.1 ≠ L := by
        refine fmc l6 (fmc l5 (fmc l7 (fmc (Ne.symm (z1 (L, oL) (.head _))) ?_)))
        intro p hp
        try simp only [List.nil_append, List.append] at hp
        focus (refine hid fun hGo => ?_; rcases List.mem_append.mp hp with hp | hp; all_goals (refine hGo ?_; clear hGo))
        · exact l8 p (List.mem_append_left _ hp)
        · focus (refine hid fun hGo => ?_; obtain ⟨q, hq, rfl⟩ := List.mem_map.mp hp; all_goals (refine hGo ?_; clear hGo))
          exact l8 q (List.mem_append_right _ hq)
      focus (refine hid fun hGo => ?_; obtain ⟨Fz, Nz⟩ := backN' bk F₈ (News.sub (l' := (L, { oL with slots := σ L }) :: (x, instObj 137 dx) :: (dx, soDict w t1 t2 t3 t4 d (.ref D) po nf) :: (d, od) :: (D, W.listOf ys nD) :: (tl ++ upS σ fl)) N₉ (fmc (mdrop 3 rfl _ (List.mem_append_right _ (.head _))) (fmc (mat 0 rfl) (fmc (mat 1 rfl) (fmc (mat 2 rfl) (fmc (mat 3 rfl) (fma (fun p h => mdrop 3 rfl _ (List.mem_append_left _ (.tail _ h))) fun p h => mdrop 3 rfl _ (List.mem_append_right _ (.tail _ h))))))))) rfl hne; all_goals (refine hGo ?_; clear hGo))
      exact hQ _ _ σ D ys nD Fz Nz hrv fun p hp => z1 p (.tail _ hp)

theorem nsOk_snoc {ns : List Nd} {B : Nat} {n : Nd} (h : NsOk ns B) (hk : n.k ∉ ns.map (·.k)) (hv : AllInts n.sv ∧ n.sv.size ≤ B) (hf : ∀ b ∈ nodesFoot ns, @LT.lt Nat _ b n.dx) (h1 : @LT.lt Nat _ n.dx n.a) (h2 : @LT.lt Nat _ n.a n.l) : NsOk (ns ++ [n]) B where
  valsOk := by
    intro q hq
    rcases List.mem_append.mp hq with hq | hq
    · exact h.valsOk q hq
    · rw [List.mem_singleton.mp hq]; exact hv
  keysOk := by
    rw [List.map_append, List.nodup_append]
    refine ⟨h.keysOk, by simp, fun a ha b hb e => hk ?_⟩
    rw [List.map_cons, List.map_nil, List.mem_singleton] at hb
    rw [← hb, ← e]; exact ha
  footOk := by
    rw [nodesFoot_append, List.nodup_append]
    have e : nodesFoot [n] = [n.a, n.dx, n.l] := rfl
    rw [e]
    refine ⟨h.footOk, ?_, fun a ha b hb => ?_⟩
    · refine List.nodup_cons.mpr ⟨?_, List.nodup_cons.mpr ⟨?_, by simp⟩⟩
      · simp only [List.mem_cons, List.not_mem_nil, or_false, not_or]; exact ⟨Nat.ne_of_gt h1, Nat.ne_of_lt h2⟩
      · simp only [List.mem_cons, List.not_mem_nil, or_false]; exact Nat.ne_of_lt (Nat.lt_trans h1 h2)
    · have h3 := hf a ha
      simp only [List.mem_cons, List.not_mem_nil, or_false] at hb
      rcases hb with rfl | rfl | rfl
      · exact Nat.ne_of_lt (Nat.lt_trans h3 h1)
      · exact Nat.ne_of_lt h3
      · exact Nat.ne_of_lt (Nat.lt_trans (Nat.lt_trans h3 h1) h2)
theorem nodesLed_snoc {ns : List Nd} {n : Nd} : nodesLed (ns ++ [n]) = nodesLed ns ++ n.led := by rw [nodesLed_append]; unfold nodesLed; simp
theorem view_keys {ns : List Nd} {g : List GV} (h : ns.map Nd.view = g) : ns.map (·.k) = g.map (·.1) := by
  rw [← h, List.map_map]; rfl
theorem valueAt_none {ns : List Nd} {k : Int} (h : k ∉ ns.map (·.k)) : valueAt (nodesKvs ns) k = none := by
  have h1 := valueAt_keys (kvs := nodesKvs ns) (k := k)
  have e : (nodesKvs ns).map (·.1) = ns.map (·.k) := by unfold nodesKvs; rw [List.map_map]; rfl
  rw [e, decide_eq_false h] at h1
  cases h2 : valueAt (nodesKvs ns) k with
  | none => rfl
  | some y => rw [h2] at h1; cases h1
/-- the sorter between two adds -/
structure PS (w : World) (ns : List Nd) (od : Obj) (g : List GV) (B lo : Nat) : Prop where
  hod : od.IsDictOf (intKind PP w) (nodesKvs ns)
  hok : NsOk ns B
  hvw : ns.map Nd.view = g
  hlo : ∀ a ∈ nodesFoot ns, @LT.lt Nat _ lo a
theorem PS.new {w : World} {ns : List Nd} {od od' : Obj} {row : List Int} {i lo : Nat} {k : Int} {t t0 : Tok} {a dxn l : Nat} (P : PS w ns od (gStart (row.take i)) 0 lo) (hn : row.Nodup) (hk : row[i]? = some k)
    (hod' : od'.IsDictOf (intKind PP w) (nodesKvs ns ++ [(k, .ref a)])) (h1 : ∀ p ∈ nodesLed ns, @LT.lt Nat _ p.1 dxn) (h2 : @LT.lt Nat _ lo dxn) (h3 : @LT.lt Nat _ dxn a) (h4 : @LT.lt Nat _ a l) :
    PS w (ns ++ [⟨k, t, t, a, dxn, l, 0, t0, #[], 0⟩]) od' (gStart (row.take (i + 1))) 0 lo := by
  have hki : k ∉ ns.map (·.k) := by
    rw [view_keys P.hvw]
    unfold gStart
    rw [List.map_map]
    have : (((·.1) : GV → Int) ∘ fun k => ((k, 0, []) : GV)) = id := rfl
    rw [this, List.map_id]
    intro hm
    obtain ⟨j, hj, e⟩ := List.mem_iff_getElem.mp hm
    rw [List.length_take] at hj
    rw [List.getElem_take] at e
    have hi : i < row.length := by
      rcases Nat.lt_or_ge i row.length with q | q
      · exact q
      · rw [List.getElem?_eq_none q] at hk; cases hk
    rw [List.getElem?_eq_getElem hi, Option.some.injEq] at hk
    have := (List.getElem_inj (h₀ := by omega) (h₁ := hi) hn).mp (e.trans hk.symm)
    omega
  refine ⟨?_, nsOk_snoc P.hok hki ⟨fun v hv => (by simp at hv), Nat.le_refl _⟩ (fun b hb => ?_) h3 h4, ?_, ?_⟩
  · unfold nodesKvs at hod' ⊢; rw [List.map_append]; exact hod'
  · rw [nodesFoot_eq] at hb
    obtain ⟨p, hp, rfl⟩ := List.mem_map.mp hb
    exact h1 p hp
  · rw [List.map_append, P.hvw, List.take_add_one, hk]
    unfold gStart
    rw [List.map_append]; rfl
  · intro b hb
    rw [nodesFoot_append] at hb
    rcases List.mem_append.mp hb with hb | hb
    · exact P.hlo b hb
    · have e : nodesFoot [(⟨k, t, t, a, dxn, l, 0, t0, #[], 0⟩ : Nd)] = [a, dxn, l] := rfl
      rw [e] at hb
      simp only [List.mem_cons, List.not_mem_nil, or_false] at hb
      rcases hb with rfl | rfl | rfl
      · exact Nat.lt_trans h2 h3
      · exact h2
      · exact Nat.lt_trans (Nat.lt_trans h2 h3) h4
theorem LeF.le {A : Around} {outer : List Env} {d u d' u' : Nat} (h : LeF A outer d u) (h1 : d ≤ d') (h2 : u ≤ u') : Le A (std d' u') := ⟨h.1, Nat.le_trans h.2.1 h1, Nat.le_trans h.2.2.1 h2, rfl, rfl⟩
theorem led_lo {ns : List Nd} {lo : Nat} (h : ∀ a ∈ nodesFoot ns, @LT.lt Nat _ lo a) : ∀ p ∈ nodesLed ns, @LT.lt Nat _ lo p.1 := fun p hp => h _ (by rw [nodesFoot_eq]; exact List.mem_map_of_mem hp)
theorem PS.fresh {w : World} {ns : List Nd} {od : Obj} {row : List Int} {i lo B : Nat} {k : Int} (P : PS w ns od (gStart (row.take i)) B lo) (hn : row.Nodup) (hk : row[i]? = some k) : valueAt (nodesKvs ns) k = none ∧ (nodesKvs ns).length ≤ row.length := by
  have hki : k ∉ ns.map (·.k) := by
    rw [view_keys P.hvw]
    unfold gStart
    rw [List.map_map]
    have : (((·.1) : GV → Int) ∘ fun k => ((k, 0, []) : GV)) = id := rfl
    rw [this, List.map_id]
    intro hm
    obtain ⟨j, hj, e⟩ := List.mem_iff_getElem.mp hm
    rw [List.length_take] at hj
    rw [List.getElem_take] at e
    have hi : i < row.length := by
      rcases Nat.lt_or_ge i row.length with q | q
      · exact q
      · rw [List.getElem?_eq_none q] at hk; cases hk
    rw [List.getElem?_eq_getElem hi, Option.some.injEq] at hk
    have := (List.getElem_inj (h₀ := by omega) (h₁ := hi) hn).mp (e.trans hk.symm)
    omega
  refine ⟨valueAt_none hki, ?_⟩
  have := congrArg List.length P.hvw
  unfold gStart at this
  rw [List.length_map, List.length_map, List.length_take] at this
  unfold nodesKvs
  rw [List.length_map]; omega
theorem snoc_ledger {I : Addr} {oI : Obj} {H news : List (Addr × Obj)} {xs : List (Addr × Obj)} {ns : List Nd} {n : Nd} : ∀ p ∈ (I, oI) :: (H ++ (xs ++ (nodesLed (ns ++ [n]) ++ news))), p ∈ xs ++ (n.led ++ ((I, oI) :: (H ++ (nodesLed ns ++ news)))) := by
  have up : ∀ p ∈ (I, oI) :: (H ++ (nodesLed ns ++ news)), p ∈ xs ++ (n.led ++ ((I, oI) :: (H ++ (nodesLed ns ++ news)))) := fun p h => List.mem_append_right _ (List.mem_append_right _ h)
  rw [nodesLed_snoc]
  exact fmc (up _ (.head _)) (fma (fun p h => up p (.tail _ (List.mem_append_left _ h))) (fma (fun p h => List.mem_append_left _ h) (fma (fma (fun p h => up p (.tail _ (List.mem_append_right _ (List.mem_append_left _ h)))) fun p h => List.mem_append_right _ (List.mem_append_left _ h)) fun p h => up p (.tail _ (List.mem_append_right _ (List.mem_append_right _ h))))))
theorem nameC_K {w : World} {A : Around} {E : Value → Shared → Prop} {s : Shared} {hV : Heap} {x : Str} {pos : Pos} {v : Value} {scope : Scope} {cl : List (Str × Addr)} {C : Addr} {env : Env} {mg mb : Str → Option Value} {Q : Value → Shared → Prop}
    (k : ∀ b o, hV.get? b = some o → s.heap.get? b = some o) (X : (hd.heap_39 w.params).In hV) (T : TopRead hd.view_39 LL mg mb hV) (e : nsIn (hd.heap_39 w.params) mainGlobals x = some (some v)) (h : Q v s)
    (hg : env.globals = mainGlobals := by rfl) (hk : (compEnvC scope cl C env).scope.kind = .function := by rfl) (hx : (compEnvC scope cl C env).kindOf x = some .globalImplicit := by rfl) (hd : (x == ("__debug__" : Str)) = false := by decide) :
    wpAny (model PP w) A (eval (.Name x pos) (compEnvC scope cl C env)) Q E s :=
  Name_function_global hk hx (loadGlobal_global (env := compEnvC scope cl C env) (show s.heap.Ns env.globals mg from hg ▸ T.g.keeps k) (mg_of X T.g e) h) hd
theorem valueAt_stored {k k' : Int} {y : Value} : ∀ {kvs : List (Int × Value)}, valueAt (stored kvs k y) k' = if k' = k then some y else valueAt kvs k'
  | [] => by
    by_cases h : k' = k
    · subst h; simp [stored, valueAt]
    · have h' : ¬ k = k' := fun e => h e.symm
      simp [stored, valueAt, h, h']
  | a :: kvs => by
    have ih := @valueAt_stored k k' y kvs
    by_cases h1 : a.1 = k
    · have e : stored (a :: kvs) k y = (a.1, y) :: kvs.map (fun kv => if kv.1 = k then (kv.1, y) else kv) := by
        unfold stored
        rw [if_pos (by simp [h1]), List.map_cons, if_pos h1]
      rw [e]
      by_cases h2 : k' = k
      · subst h2; simp [valueAt, h1]
      · have h3 : ¬ a.1 = k' := fun q => h2 (q.symm.trans h1)
        have h4 : ¬ k = k' := fun q => h2 q.symm
        have key : ∀ l : List (Int × Value), (l.map fun kv => if kv.1 = k then (kv.1, y) else kv).find? (fun kv => decide (kv.1 = k')) = l.find? (fun kv => decide (kv.1 = k')) := by
          intro l
          induction l with
          | nil => rfl
          | cons b l ih =>
            rw [List.map_cons, List.find?_cons, List.find?_cons, ih]
            by_cases h5 : b.1 = k
            · have h6 : ¬ b.1 = k' := fun q => h2 (q.symm.trans h5)
              simp [h5, h4]
            · simp [h5]
        unfold valueAt
        rw [List.find?_cons, List.find?_cons, key]
        simp [h2, h3]
    · have e : stored (a :: kvs) k y = a :: stored kvs k y := by
        unfold stored
        by_cases h5 : (kvs.any fun kv => decide (kv.1 = k)) = true
        · rw [if_pos h5, if_pos (by rw [List.any_cons, h5]; simp), List.map_cons, if_neg h1]
        · rw [if_neg h5, if_neg (by rw [List.any_cons]; simp only [h1, decide_false, Bool.false_or]; exact h5)]
          rfl
      rw [e]
      unfold valueAt at ih ⊢
      rw [List.find?_cons, List.find?_cons]
      by_cases h3 : a.1 = k'
      · have h2 : ¬ k' = k := fun q => h1 (h3.trans q)
        simp [h3, h2]
      · simp only [h3, decide_false]
        exact ih
theorem sizes_of {l : List Value} {kvs : List (Int × Value)} (h : StoredAll (fun v (k : Int) => ∃ t, v = Value.int k t) (fun v y => ∃ k t t', v = Value.int k t ∧ y = Value.int (hbI k) t') l kvs) : ∀ k t, Value.int k t ∈ l → ∃ t', valueAt kvs k = some (.int (hbI k) t') := by
  induction h with
  | nil => intro k t h; cases h
  | snoc h0 hk hy ih =>
    intro k t hm
    obtain ⟨t1, rfl⟩ := hk
    obtain ⟨k2, t2, t3, e, rfl⟩ := hy
    injection e with e1 e2
    subst e1
    rename_i k0
    rw [valueAt_stored]
    by_cases q : k = k0
    · rw [if_pos q, q]; exact ⟨t3, rfl⟩
    · rw [if_neg q]
      rcases List.mem_append.mp hm with hm | hm
      · exact ih k t hm
      · have := List.mem_singleton.mp hm
        injection this with e1 e2
        exact absurd e1 q
theorem star_call {M : Model} {A : Around} {E : Value → Shared → Prop} {s : Shared} {env : Env} {o : Expr} {name : Str} {apos pos : Pos} {args : List Expr} {Q : Value → Shared → Prop}
    (h : wpAny M A (eval o env) (fun ov s₁ => wpAny M A (getAttr ov name true) (fun f s₂ => wpAny M A (callWith pos f [] (backTo pos (starEach args env)) []) Q E s₂) E s₁) E s)
    (he : eval (.Call (.Attribute o name apos) args [] pos) env = (do
      let ov ← eval o env
      standAt apos.atName
      let (f, first) ← holding [ov] (do pure (← getAttr ov name true, []))
      let callPos ← pure pos
      callWith callPos f first (backTo pos (starEach args env)) []) := by rfl) :
    wpAny M A (eval (.Call (.Attribute o name apos) args [] pos) env) Q E s := by
  rw [he]
  refine wpAny_bind (wpAny_mono h (fun ov s₁ h₁ => wpAny_bind (wpAny_standAt (wpAny_bind (wpAny_holding (wpAny_bind (wpAny_mono h₁ (fun f s₂ h₂ => wpAny_pure ?_) fun _ _ x => x)))))) fun _ _ x => x)
  exact wpAny_bind (wpAny_pure h₂)

theorem enterVC {w : World} {d u : Nat} {fr : Option (List Env)} {s : Shared} {f : Addr} {args : List Value} {vs : List Value} {binds : Value → List (Str × Value)} {oc : Value} {od : Option Addr} {osl : Array (Option Value)}
    {name qual : Str} {params : Arguments} {body : List Stmt} {scope : Scope} {dV kV doc pm cdv ct : Value} {an : Option Addr} {hb : Heap} {L : Addr} {m : Str → Option Value} {news : List (Addr × Obj)}
    {Q : Value → Shared → Prop} {E : Value → Shared → Prop}
    (G : Gd w hb) (F : Fr hb L s.heap m) (N : News hb L s.heap news) (hroom : d < recursionLimit)
    (ho : (hd.heap_39 w.params).lookup f = some ⟨oc, od, .func (fnOf name qual params body scope dV kV doc pm an cdv ct), osl⟩) (hcd : codeIn (hd.heap_39 w.params) cdv qual = true)
    (hbind : bindArgs (fnOf name qual params body scope dV kV doc pm an cdv ct) ⟨args, []⟩ = (newTuple vs >>= fun t => pure (binds t))) (hvs : vs.length ≤ 1000)
    (hcell : ∀ x ∈ scope.names, x.2 ≠ .cell) (hloc : ∀ t, ∀ x ∈ binds t, scope.names.lookup x.1 = some .local)
    (h : ∀ h₁ (L' q : Nat) tk oL, BackTo hb L m oL → @LT.lt Nat _ L q → q < L' → (∀ p ∈ news, @LT.lt Nat _ p.1 q) → Fr hb L' h₁ (fun x => (binds (.ref q)).reverse.lookup x) → News hb L' h₁ ((L, oL) :: (q, tupOf vs.toArray 0) :: news) →
      wpAny (model PP w) { handled := none, depth := d + 1, frames := fr.map (envOf qual scope L' f cdv :: ·), guards := none, units := u + 3 } (execs body (envOf qual scope L' f cdv)) (fun fl s' => Q (match fl with | .ret v => v | _ => .none) s') (fun _ _ => False) { s with heap := h₁, toks := tk })
    (hco : scope.isCoroutine = false := by rfl) (hgen : scope.isGenerator = false := by rfl) (hk : scope.kind = .function := by rfl) :
    codeAny (model PP w) { handled := none, depth := d, frames := fr, guards := none, units := u } (.call (.ref f) ⟨args, []⟩) (fun r s' => match r with | .ok (.ret v) => Q v s' | .ok _ => False | .error e => E e s') s := by
  have GX := G.keeps F.keep
  focus (refine hid fun hGo => ?_; obtain ⟨mg', mb', T'⟩ := GX.T; all_goals (refine hGo ?_; clear hGo))
  focus (refine hid fun hGo => ?_; obtain ⟨oL, hoL, bk⟩ := Fr.backTo F; all_goals (refine hGo ?_; clear hGo))
  have hLl : @LT.lt Nat _ L s.heap.objs.size := Heap.lt_size hoL
  have hNl : ∀ p ∈ news, @LT.lt Nat _ p.1 s.heap.objs.size := fun p hp => Heap.lt_size (N p hp).1
  have hbL : hb.get? L = none := by
    cases q : hb.get? L with
    | none => rfl
    | some o => exact absurd (Nat.lt_of_lt_of_le (Heap.lt_size q) F.above) (Nat.lt_irrefl _)
  have hbq : hb.get? s.heap.objs.size = none := by
    cases q : hb.get? s.heap.objs.size with
    | none => rfl
    | some o => exact absurd (Heap.lt_size (F.keep _ _ q)) (Nat.lt_irrefl _)
  refine (codeAny_call_function hroom (GX.X _ _ ho) rfl hco hgen rfl (codeRec_of GX.X hcd) ?_)
  rw [hbind]
  refine wpAny_bind (wpAny_newObj_type ?_ (by show vs.toArray.size ≤ sizeLine; rw [List.size_toArray, sizeLine_eq]; omega))
  refine wpAny_pure (wpAny_newFunctionEnv hcell (hloc _) (fun h₁ hns hsb => ⟨?_, codeAny_func ?_⟩) hk)
  · exact (T'.nolimit.keeps fun b o e => Heap.get?_push_of_some _ e).fresh _ hsb
  · have up : ∀ b o, (s.heap.push (tupOf vs.toArray 0)).get? b = some o → h₁.get? b = some o := fun b o e => hsb.extBut b o (Nat.ne_of_lt (Heap.lt_size e)) (Heap.get?_push_of_some _ e)
    have hsz : (s.heap.push (tupOf vs.toArray 0)).objs.size = s.heap.objs.size + 1 := Heap.size_push _ _
    have up' : ∀ b o, s.heap.get? b = some o → h₁.get? b = some o := fun b o e => up b o (Heap.get?_push_of_some _ e)
    refine wpAny_mono (h h₁ _ s.heap.objs.size _ oL bk hLl (by rw [hsz]; exact Nat.lt_succ_self _) hNl ⟨hns, fun b o e => up' b o (F.keep b o e), Nat.le_trans F.above (Nat.le_of_lt (Nat.lt_trans hLl (by rw [hsz]; exact Nat.lt_succ_self _)))⟩ ?_) (fun _ _ q => q) (fun _ _ q => q.elim)
    intro p hp
    focus (refine hid fun hGo => ?_; rcases List.mem_cons.mp hp with rfl | hp; all_goals (refine hGo ?_; clear hGo))
    · exact ⟨up' _ _ hoL, Nat.ne_of_lt (Nat.lt_trans hLl (by rw [hsz]; exact Nat.lt_succ_self _)), hbL⟩
    · focus (refine hid fun hGo => ?_; rcases List.mem_cons.mp hp with rfl | hp; all_goals (refine hGo ?_; clear hGo))
      · exact ⟨up _ _ (Heap.get?_push_size _ rfl), Nat.ne_of_lt (by rw [hsz]; exact Nat.lt_succ_self _), hbq⟩
      · exact ⟨up' _ _ (N p hp).1, Nat.ne_of_lt (Nat.lt_trans (hNl p hp) (by rw [hsz]; exact Nat.lt_succ_self _)), (N p hp).2.2⟩

theorem bind_add {name qual : Str} {p1 p2 p3 : Pos} {body : List Stmt} {scope : Scope} {doc pm cdv ct : Value} {an : Option Addr} {a b : Value} {vs : List Value} :
    bindArgs (fnOf name qual { posonlyargs := [], args := [{ arg := Str.ofString "self", annotation := none, pos := p1 }, { arg := Str.ofString "node", annotation := none, pos := p2 }], vararg := some { arg := Str.ofString "predecessors", annotation := none, pos := p3 }, kwonlyargs := [], kw_defaults := [], kwarg := none, defaults := [] } body scope .none .none doc pm an cdv ct) ⟨a :: b :: vs, []⟩
      = (newTuple vs >>= fun t => pure [(Str.ofString "self", a), (Str.ofString "node", b), (Str.ofString "predecessors", t)]) := by
  cases vs <;> kernel_rfl
theorem add_oldC {w : World} {A : Around} {s : Shared} {hb : Heap} {L : Addr} {m : Str → Option Value} {rest : List (Addr × Obj)} {x dx d : Addr} {od : Obj} {ns : List Nd} {B : Nat} {t1 t2 t3 t4 t : Tok} {po nf : Value} {k : Int} {vs : List Value} {ps : List Int} {Q : Value → Shared → Prop} {E : Value → Shared → Prop}
    (G : Gd w hb) (hA : Le A (std 950 5000)) (F : Fr hb L s.heap m) (N : News hb L s.heap ((x, instObj 137 dx) :: (dx, soDict w t1 t2 t3 t4 d .none po nf) :: (d, od) :: (nodesLed ns ++ rest)))
    (hod : od.IsDictOf (intKind PP w) (nodesKvs ns)) (hlo : (d == sysModules) = false) (hok : NsOk ns B) (hB : B ≤ 10000)
    (hH : ∀ a ∈ nodesFoot ns, @Ne Nat a x ∧ @Ne Nat a dx ∧ @Ne Nat a d) (hrest : ∀ p ∈ rest, p.1 ∉ nodesFoot ns)
    (hk : k ∈ ns.map (·.k)) (hi : IntsAre vs ps) (hps : ∀ p ∈ ps, p ∈ ns.map (·.k)) (hvs : vs.length ≤ 100)
    (hQ : ∀ h' tk ns', Fr hb L h' m → News hb L h' ((x, instObj 137 dx) :: (dx, soDict w t1 t2 t3 t4 d .none po nf) :: (d, od) :: (nodesLed ns' ++ rest)) → NsOk ns' (B + vs.length) →
      nodesFoot ns' = nodesFoot ns → nodesKvs ns' = nodesKvs ns → ns'.map Nd.view = gAddEdges (ns.map Nd.view) k ps → Q .none { s with heap := h', toks := tk }) :
    codeAny (model PP w) A (.call (.ref 87) ⟨.ref x :: .int k t :: vs, []⟩) (fun r s' => match r with | .ok (.ret v) => Q v s' | .ok _ => False | .error e => E e s') s := by
  refine codeAny_le hA ?_
  have X := G.X
  focus (refine hid fun hGo => ?_; obtain ⟨mg, mb, T⟩ := G.T; all_goals (refine hGo ?_; clear hGo))
  refine enterVC (vs := vs) (binds := fun q => [(Str.ofString "self", .ref x), (Str.ofString "node", .int k t), (Str.ofString "predecessors", q)]) G F N (by decide) (by k_is) (by k_is) bind_add (leK hvs rfl) (by decide) (fun _ => locs rfl) ?_
  intro h₁ L' q tk oL bk hL hq hN F₁ N₁
  have l3 := hN _ (.head _)
  have l4 := hN _ (.tail _ (.head _))
  have l4' := hN _ (.tail _ (.tail _ (.head _)))
  have l5 : @Ne Nat dx L := (N _ (.tail _ (.head _))).2.1
  have l6 : @Ne Nat x L := (N _ (.head _)).2.1
  have l7 : @Ne Nat d L := (N _ (.tail _ (.tail _ (.head _)))).2.1
  have l8 : ∀ p ∈ nodesLed ns ++ rest, p.1 ≠ L := fun p hp => (N _ (.tail _ (.tail _ (.tail _ hp)))).2.1
  have l9 : ∀ p ∈ nodesLed ns ++ rest, @LT.lt Nat _ p.1 q := fun p hp => hN _ (.tail _ (.tail _ (.tail _ hp)))
  change wpAny (model PP w) (std 951 5003) _ _ _ _
  focus (refine hid fun hGo => ?_; obtain ⟨pre, n, post, hns, hnk⟩ := ns_split hk; all_goals (refine hGo ?_; clear hGo))
  have hval : valueAt (nodesKvs ns) k = some (.ref n.a) := by rw [← hnk]; exact kvs_value hok.keysOk (by rw [hns]; simp)
  refine execs_seq ?_
  intro Q₁ hn₁ hr₁ hb₁ hc₁
  repeat' (first | ((with_reducible show wpAny _ _ (execs (_ :: _) _) _ _ _); refine execs_seq ?_; intro QZs hnZs hrZs hbZs hcZs) | (refine hnZs _ ?_; clear hnZs hrZs hbZs hcZs) | (refine hrZs _ _ ?_) | (refine hbZs _ ?_) | (refine hcZs _ ?_) | ((with_reducible show wpAny _ _ (call (Value.builtin "len") [Value.ref _]) _ _ _); refine len_tuple (News.isTup (by assumption) (by k_mem)) (by simp only [List.size_toArray]; first | exact lt63 (by assumption) (by exact rfl) | omega) ?_) | ((with_reducible show wpAny _ _ (call (Value.ref 80) [Value.ref _, Value.int _ _] _) _ _ _); first | ((refine gni_oldN (by assumption) ⟨rfl, Nat.le_of_ble_eq_true rfl, Nat.le_of_ble_eq_true rfl, rfl, rfl⟩ (by assumption) (by assumption) (by k_mem) (by k_mem) (by k_mem) (by assumption) (by assumption) (by assumption) ?_); intro hZq tkZq FZq NZq; (try k_sweep))) | ((with_reducible show wpAny _ _ (call (Value.builtin "list.append") [Value.ref _, _]) _ _ _); k_dflt (refine append_K (by k_asm) (by k_asm) (by k_upd) ?_ (by simp only [sizeLine_eq]; first | exact leK (by assumption) (by exact rfl) | omega)); intro hZq FZq NZq; (try k_sweep)) | walk1 | (dsimp only; first | ((with_reducible show wpAny _ _ (execs (_ :: _) _) _ _ _); refine execs_seq ?_; intro QZs hnZs hrZs hbZs hcZs) | (refine hnZs _ ?_; clear hnZs hrZs hbZs hcZs) | (refine hrZs _ _ ?_) | (refine hbZs _ ?_) | (refine hcZs _ ?_) | ((with_reducible show wpAny _ _ (call (Value.builtin "len") [Value.ref _]) _ _ _); refine len_tuple (News.isTup (by assumption) (by k_mem)) (by simp only [List.size_toArray]; first | exact lt63 (by assumption) (by exact rfl) | omega) ?_) | ((with_reducible show wpAny _ _ (call (Value.ref 80) [Value.ref _, Value.int _ _] _) _ _ _); first | ((refine gni_oldN (by assumption) ⟨rfl, Nat.le_of_ble_eq_true rfl, Nat.le_of_ble_eq_true rfl, rfl, rfl⟩ (by assumption) (by assumption) (by k_mem) (by k_mem) (by k_mem) (by assumption) (by assumption) (by assumption) ?_); intro hZq tkZq FZq NZq; (try k_sweep))) | ((with_reducible show wpAny _ _ (call (Value.builtin "list.append") [Value.ref _, _]) _ _ _); k_dflt (refine append_K (by k_asm) (by k_asm) (by k_upd) ?_ (by simp only [sizeLine_eq]; first | exact leK (by assumption) (by exact rfl) | omega)); intro hZq FZq NZq; (try k_sweep)) | walk1))
  refine hn₁ _ ?_
  clear hn₁ hr₁ hb₁ hc₁
  refine execs_seq ?_
  intro Q₁ hn₁ hr₁ hb₁ hc₁
  repeat' (first | ((with_reducible show wpAny _ _ (execs (_ :: _) _) _ _ _); refine execs_seq ?_; intro QZs hnZs hrZs hbZs hcZs) | (refine hnZs _ ?_; clear hnZs hrZs hbZs hcZs) | (refine hrZs _ _ ?_) | (refine hbZs _ ?_) | (refine hcZs _ ?_) | ((with_reducible show wpAny _ _ (call (Value.builtin "len") [Value.ref _]) _ _ _); refine len_tuple (News.isTup (by assumption) (by k_mem)) (by simp only [List.size_toArray]; first | exact lt63 (by assumption) (by exact rfl) | omega) ?_) | ((with_reducible show wpAny _ _ (call (Value.ref 80) [Value.ref _, Value.int _ _] _) _ _ _); first | ((refine gni_oldN (by assumption) ⟨rfl, Nat.le_of_ble_eq_true rfl, Nat.le_of_ble_eq_true rfl, rfl, rfl⟩ (by assumption) (by assumption) (by k_mem) (by k_mem) (by k_mem) (by assumption) (by assumption) (by assumption) ?_); intro hZq tkZq FZq NZq; (try k_sweep))) | ((with_reducible show wpAny _ _ (call (Value.builtin "list.append") [Value.ref _, _]) _ _ _); k_dflt (refine append_K (by k_asm) (by k_asm) (by k_upd) ?_ (by simp only [sizeLine_eq]; first | exact leK (by assumption) (by exact rfl) | omega)); intro hZq FZq NZq; (try k_sweep)) | walk1 | (dsimp only; first | ((with_reducible show wpAny _ _ (execs (_ :: _) _) _ _ _); refine execs_seq ?_; intro QZs hnZs hrZs hbZs hcZs) | (refine hnZs _ ?_; clear hnZs hrZs hbZs hcZs) | (refine hrZs _ _ ?_) | (refine hbZs _ ?_) | (refine hcZs _ ?_) | ((with_reducible show wpAny _ _ (call (Value.builtin "len") [Value.ref _]) _ _ _); refine len_tuple (News.isTup (by assumption) (by k_mem)) (by simp only [List.size_toArray]; first | exact lt63 (by assumption) (by exact rfl) | omega) ?_) | ((with_reducible show wpAny _ _ (call (Value.ref 80) [Value.ref _, Value.int _ _] _) _ _ _); first | ((refine gni_oldN (by assumption) ⟨rfl, Nat.le_of_ble_eq_true rfl, Nat.le_of_ble_eq_true rfl, rfl, rfl⟩ (by assumption) (by assumption) (by k_mem) (by k_mem) (by k_mem) (by assumption) (by assumption) (by assumption) ?_); intro hZq tkZq FZq NZq; (try k_sweep))) | ((with_reducible show wpAny _ _ (call (Value.builtin "list.append") [Value.ref _, _]) _ _ _); k_dflt (refine append_K (by k_asm) (by k_asm) (by k_upd) ?_ (by simp only [sizeLine_eq]; first | exact leK (by assumption) (by exact rfl) | omega)); intro hZq FZq NZq; (try k_sweep)) | walk1))
  refine hn₁ _ ?_
  clear hn₁ hr₁ hb₁ hc₁
  refine execs_seq ?_
  intro Q₁ hn₁ hr₁ hb₁ hc₁
  rename Fr _ _ _ _ => F₂
  rename News _ _ _ _ => N₂
  have N₃ := News.sub (l' := n.led ++ ([(L, oL), (q, tupOf vs.toArray 0), (x, instObj 137 dx), (dx, soDict w t1 t2 t3 t4 d .none po nf), (d, od)] ++ (nodesLed pre ++ (nodesLed post ++ rest)))) (News.sub N₂ (l' := [(L, oL), (q, tupOf vs.toArray 0), (x, instObj 137 dx), (dx, soDict w t1 t2 t3 t4 d .none po nf), (d, od)] ++ (nodesLed ns ++ rest)) (fun _ h => h)) (by rw [hns]; exact led_out)
  clear N₂
  simp only [Nd.led, Nd.obj, List.cons_append, List.nil_append] at N₃
  have hfa := foot_mem (pre := pre) (n := n) (post := post)
  rw [← hns] at hfa
  focus (refine hid fun hGo => ?_; obtain ⟨o1, o2, o3⟩ := tail_off (hns ▸ hok.footOk) (hns ▸ hrest); all_goals (refine hGo ?_; clear hGo))
  focus (refine hid fun hGo => ?_; obtain ⟨_, c1, c2, c3⟩ := node_off (hns ▸ hok.footOk); all_goals (refine hGo ?_; clear hGo))
  focus (refine hid fun hGo => ?_; obtain ⟨e1, e2, e3⟩ : NeH n.a x ∧ NeH n.a dx ∧ NeH n.a d := hH _ hfa.1; all_goals (refine hGo ?_; clear hGo))
  have c5 : @LT.lt Nat _ n.a q := by obtain ⟨p, hp, e⟩ := led_addr (rest := rest) hfa.1; exact e ▸ l9 p hp
  have c6 : @Ne Nat n.a L := by obtain ⟨p, hp, e⟩ := led_addr (rest := rest) hfa.1; exact e ▸ l8 p hp
  repeat' (first | ((with_reducible show wpAny _ _ (execs (_ :: _) _) _ _ _); refine execs_seq ?_; intro QZs hnZs hrZs hbZs hcZs) | (refine hnZs _ ?_; clear hnZs hrZs hbZs hcZs) | (refine hrZs _ _ ?_) | (refine hbZs _ ?_) | (refine hcZs _ ?_) | ((with_reducible show wpAny _ _ (call (Value.builtin "len") [Value.ref _]) _ _ _); refine len_tuple (News.isTup (by assumption) (by k_mem)) (by simp only [List.size_toArray]; first | exact lt63 (by assumption) (by exact rfl) | omega) ?_) | ((with_reducible show wpAny _ _ (call (Value.ref 80) [Value.ref _, Value.int _ _] _) _ _ _); first | ((refine gni_oldN (by assumption) ⟨rfl, Nat.le_of_ble_eq_true rfl, Nat.le_of_ble_eq_true rfl, rfl, rfl⟩ (by assumption) (by assumption) (by k_mem) (by k_mem) (by k_mem) (by assumption) (by assumption) (by assumption) ?_); intro hZq tkZq FZq NZq; (try k_sweep))) | ((with_reducible show wpAny _ _ (call (Value.builtin "list.append") [Value.ref _, _]) _ _ _); k_dflt (refine append_K (by k_asm) (by k_asm) (by k_upd) ?_ (by simp only [sizeLine_eq]; first | exact leK (by assumption) (by exact rfl) | omega)); intro hZq FZq NZq; (try k_sweep)) | walk1 | (dsimp only; first | ((with_reducible show wpAny _ _ (execs (_ :: _) _) _ _ _); refine execs_seq ?_; intro QZs hnZs hrZs hbZs hcZs) | (refine hnZs _ ?_; clear hnZs hrZs hbZs hcZs) | (refine hrZs _ _ ?_) | (refine hbZs _ ?_) | (refine hcZs _ ?_) | ((with_reducible show wpAny _ _ (call (Value.builtin "len") [Value.ref _]) _ _ _); refine len_tuple (News.isTup (by assumption) (by k_mem)) (by simp only [List.size_toArray]; first | exact lt63 (by assumption) (by exact rfl) | omega) ?_) | ((with_reducible show wpAny _ _ (call (Value.ref 80) [Value.ref _, Value.int _ _] _) _ _ _); first | ((refine gni_oldN (by assumption) ⟨rfl, Nat.le_of_ble_eq_true rfl, Nat.le_of_ble_eq_true rfl, rfl, rfl⟩ (by assumption) (by assumption) (by k_mem) (by k_mem) (by k_mem) (by assumption) (by assumption) (by assumption) ?_); intro hZq tkZq FZq NZq; (try k_sweep))) | ((with_reducible show wpAny _ _ (call (Value.builtin "list.append") [Value.ref _, _]) _ _ _); k_dflt (refine append_K (by k_asm) (by k_asm) (by k_upd) ?_ (by simp only [sizeLine_eq]; first | exact leK (by assumption) (by exact rfl) | omega)); intro hZq FZq NZq; (try k_sweep)) | walk1))
  refine hn₁ _ ?_
  clear hn₁ hr₁ hb₁ hc₁
  dsimp only at *
  rename Fr _ _ _ _ => F₄
  rename News _ _ _ _ => N₄
  rw [List.size_toArray, hi.length] at N₄
  obtain ⟨n₁, hn₁, N₅⟩ : ∃ n₁ : Nd, (n₁.k = n.k ∧ n₁.a = n.a ∧ n₁.dx = n.dx ∧ n₁.l = n.l ∧ n₁.sv = n.sv ∧ n₁.np = n.np + ps.length) ∧
      News hb L' _ ([(L, oL), (q, tupOf vs.toArray 0), (x, instObj 137 dx), (dx, soDict w t1 t2 t3 t4 d .none po nf), (d, od)] ++ (nodesLed (pre ++ n₁ :: post) ++ rest)) :=
    ⟨{ n with np := n.np + ps.length, npt := _ }, ⟨rfl, rfl, rfl, rfl, rfl, rfl⟩, News.sub (l := ({ n with np := n.np + ps.length, npt := _ } : Nd).led ++ ([(L, oL), (q, tupOf vs.toArray 0), (x, instObj 137 dx), (dx, soDict w t1 t2 t3 t4 d .none po nf), (d, od)] ++ (nodesLed pre ++ (nodesLed post ++ rest)))) N₄ led_in⟩
  focus (refine hid fun hGo => ?_; obtain ⟨b1, b2, b3, b4, b5, b6⟩ := hn₁; all_goals (refine hGo ?_; clear hGo))
  have hok₁ : NsOk (pre ++ n₁ :: post) B := nsOk_put (hns ▸ hok) (Nat.le_refl _) b1 b2 b3 b4 (by rw [b5]; exact hok.valsOk n (by rw [hns]; simp))
  have hft₁ : nodesFoot (pre ++ n₁ :: post) = nodesFoot ns := by rw [hns]; exact foot_put b2 b3 b4
  have hkv₁ : nodesKvs (pre ++ n₁ :: post) = nodesKvs ns := by rw [hns]; exact kvs_put b1 b2
  have hvw₁ : (pre ++ n₁ :: post).map Nd.view = gMod (ns.map Nd.view) k fun v => (v.1, v.2.1 + ps.length, v.2.2) := by
    rw [hns, ← hnk]
    exact (gMod_view (hns ▸ hok.keysOk) (by simp only [Nd.view, b1, b5, b6])).symm
  generalize pre ++ n₁ :: post = ns₁ at N₅ hok₁ hft₁ hkv₁ hvw₁
  clear N₄ hns o1 o2 o3 c1 c2 c3 e1 e2 e3 c5 c6 hfa hval hnk b1 b2 b3 b4 b5 b6
  refine wpAny_execs_cons (wpAny_For ?_ (by intro _; rfl))
  refine opq ?_
  intro Q₄ h₄
  repeat' (first | ((with_reducible show wpAny _ _ (execs (_ :: _) _) _ _ _); refine execs_seq ?_; intro QZs hnZs hrZs hbZs hcZs) | (refine hnZs _ ?_; clear hnZs hrZs hbZs hcZs) | (refine hrZs _ _ ?_) | (refine hbZs _ ?_) | (refine hcZs _ ?_) | ((with_reducible show wpAny _ _ (call (Value.builtin "len") [Value.ref _]) _ _ _); refine len_tuple (News.isTup (by assumption) (by k_mem)) (by simp only [List.size_toArray]; first | exact lt63 (by assumption) (by exact rfl) | omega) ?_) | ((with_reducible show wpAny _ _ (call (Value.ref 80) [Value.ref _, Value.int _ _] _) _ _ _); first | ((refine gni_oldN (by assumption) ⟨rfl, Nat.le_of_ble_eq_true rfl, Nat.le_of_ble_eq_true rfl, rfl, rfl⟩ (by assumption) (by assumption) (by k_mem) (by k_mem) (by k_mem) (by assumption) (by assumption) (by assumption) ?_); intro hZq tkZq FZq NZq; (try k_sweep))) | ((with_reducible show wpAny _ _ (call (Value.builtin "list.append") [Value.ref _, _]) _ _ _); k_dflt (refine append_K (by k_asm) (by k_asm) (by k_upd) ?_ (by simp only [sizeLine_eq]; first | exact leK (by assumption) (by exact rfl) | omega)); intro hZq FZq NZq; (try k_sweep)) | walk1 | (dsimp only; first | ((with_reducible show wpAny _ _ (execs (_ :: _) _) _ _ _); refine execs_seq ?_; intro QZs hnZs hrZs hbZs hcZs) | (refine hnZs _ ?_; clear hnZs hrZs hbZs hcZs) | (refine hrZs _ _ ?_) | (refine hbZs _ ?_) | (refine hcZs _ ?_) | ((with_reducible show wpAny _ _ (call (Value.builtin "len") [Value.ref _]) _ _ _); refine len_tuple (News.isTup (by assumption) (by k_mem)) (by simp only [List.size_toArray]; first | exact lt63 (by assumption) (by exact rfl) | omega) ?_) | ((with_reducible show wpAny _ _ (call (Value.ref 80) [Value.ref _, Value.int _ _] _) _ _ _); first | ((refine gni_oldN (by assumption) ⟨rfl, Nat.le_of_ble_eq_true rfl, Nat.le_of_ble_eq_true rfl, rfl, rfl⟩ (by assumption) (by assumption) (by k_mem) (by k_mem) (by k_mem) (by assumption) (by assumption) (by assumption) ?_); intro hZq tkZq FZq NZq; (try k_sweep))) | ((with_reducible show wpAny _ _ (call (Value.builtin "list.append") [Value.ref _, _]) _ _ _); k_dflt (refine append_K (by k_asm) (by k_asm) (by k_upd) ?_ (by simp only [sizeLine_eq]; first | exact leK (by assumption) (by exact rfl) | omega)); intro hZq FZq NZq; (try k_sweep)) | walk1))
  refine h₄ _ _ ?_
  clear h₄
  refine for_tuple rfl (News.isTup N₅ (by k_mem)) F₄ N₅ (AdJ w L' L q x dx d oL od t t1 t2 t3 t4 po nf vs rest ns n k B ps) ?_ ?_ ?_ ?_ ?_
  · focus (rintro I i m₁ news₁ h hP0 _ N; refine hid fun hGo => ?_; rcases hP0 with ⟨_, _, _, _, _, rfl, _⟩; all_goals (refine hGo ?_; clear hGo))
    exact News.isTup N (by k_mem)
  · focus (rintro I i m₁ news₁ hP0; refine hid fun hGo => ?_; rcases hP0 with ⟨hI, hI2, _, _, ns₂, rfl, _, hft, _⟩; all_goals (refine hGo ?_; clear hGo))
    refine fmc (Nat.ne_of_lt (Nat.lt_trans (Nat.lt_trans hL hq) hI)) (fmc (Nat.ne_of_lt (Nat.lt_trans hq hI)) (fmc (Nat.ne_of_lt (Nat.lt_trans (Nat.lt_trans l3 hq) hI)) (fmc (Nat.ne_of_lt (Nat.lt_trans (Nat.lt_trans l4 hq) hI)) (fmc (Nat.ne_of_lt (Nat.lt_trans (Nat.lt_trans l4' hq) hI)) ?_))))
    intro p hp
    try simp only [List.nil_append, List.append] at hp
    focus (refine hid fun hGo => ?_; rcases List.mem_append.mp hp with hp | hp; all_goals (refine hGo ?_; clear hGo))
    · have : p.1 ∈ nodesFoot ns := by rw [← hft, nodesFoot_eq]; exact List.mem_map_of_mem hp
      focus (refine hid fun hGo => ?_; obtain ⟨p', hp', e⟩ := led_addr (rest := rest) this; all_goals (refine hGo ?_; clear hGo))
      exact e ▸ Nat.ne_of_lt (hI2 p' hp')
    · exact Nat.ne_of_lt (hI2 p (List.mem_append_right _ hp))
  · intro I hI _ hLI
    refine ⟨hLI, fun p hp => Nat.lt_trans (l9 p hp) (Nat.lt_trans hq hLI), none, none, ns₁, rfl, hok₁, hft₁, hkv₁, hvw₁, (mset rfl).trans (mset rfl)⟩
  · focus (rintro I i v m₁ news₁ h tk oI _ _ _ hv hP0 F₅ N₆; refine hid fun hGo => ?_; rcases hP0 with ⟨hI, hI2, up, ui, ns₂, rfl, hok₂, hft₂, hkv₂, hvw₂, rfl⟩; all_goals (refine hGo ?_; clear hGo))
    focus (refine hid fun hGo => ?_; obtain ⟨p, tp, hp, rfl⟩ := ints_at hi hv; all_goals (refine hGo ?_; clear hGo))
    have hi' : i < vs.length := by
      focus (refine hid fun hGo => ?_; rcases Nat.lt_or_ge i vs.length with q | q; all_goals (refine hGo ?_; clear hGo))
      · exact q
      · rw [List.getElem?_eq_none q] at hv; cases hv
    have hkeys : ns₂.map (·.k) = ns.map (·.k) := by have := congrArg (List.map Prod.fst) hkv₂; simpa [nodesKvs, List.map_map, Function.comp_def] using this
    have hpk : p ∈ ns₂.map (·.k) := by rw [hkeys]; exact hps p (List.mem_of_getElem? hp)
    focus (refine hid fun hGo => ?_; obtain ⟨pre, n₂, post, hns₂, hnk₂⟩ := ns_split hpk; all_goals (refine hGo ?_; clear hGo))
    have hval : valueAt (nodesKvs ns) p = some (.ref n₂.a) := by rw [← hkv₂, ← hnk₂]; exact kvs_value hok₂.keysOk (by rw [hns₂]; simp)
    have hfa := foot_mem (pre := pre) (n := n₂) (post := post)
    rw [← hns₂, hft₂] at hfa
    have hrest₂ : ∀ p ∈ rest, p.1 ∉ nodesFoot ns₂ := by rw [hft₂]; exact hrest
    focus (refine hid fun hGo => ?_; obtain ⟨o1, o2, o3⟩ := tail_off (hns₂ ▸ hok₂.footOk) (hns₂ ▸ hrest₂); all_goals (refine hGo ?_; clear hGo))
    focus (refine hid fun hGo => ?_; obtain ⟨_, c1, c2, c3⟩ := node_off (hns₂ ▸ hok₂.footOk); all_goals (refine hGo ?_; clear hGo))
    focus (refine hid fun hGo => ?_; obtain ⟨e1, e2, e3⟩ : NeH n₂.l x ∧ NeH n₂.l dx ∧ NeH n₂.l d := hH _ hfa.2.2; all_goals (refine hGo ?_; clear hGo))
    have c5 : @LT.lt Nat _ n₂.l q := by obtain ⟨p, hp, e⟩ := led_addr (rest := rest) hfa.2.2; exact e ▸ l9 p hp
    have c6 : @Ne Nat n₂.l L := by obtain ⟨p, hp, e⟩ := led_addr (rest := rest) hfa.2.2; exact e ▸ l8 p hp
    have e4 : NeH n₂.l I := Nat.ne_of_lt (Nat.lt_trans c5 (Nat.lt_trans hq hI))
    have c7 := (hok₂.valsOk n₂ (by rw [hns₂]; simp)).2
    have N₇ := News.sub (l' := n₂.led ++ ([(I, oI), (L, oL), (q, tupOf vs.toArray 0), (x, instObj 137 dx), (dx, soDict w t1 t2 t3 t4 d .none po nf), (d, od)] ++ (nodesLed pre ++ (nodesLed post ++ rest)))) (News.sub N₆ (l' := [(I, oI), (L, oL), (q, tupOf vs.toArray 0), (x, instObj 137 dx), (dx, soDict w t1 t2 t3 t4 d .none po nf), (d, od)] ++ (nodesLed ns₂ ++ rest)) (fun _ h => h)) (by rw [hns₂]; exact led_out)
    clear N₆
    simp only [Nd.led, Nd.obj, List.cons_append, List.nil_append] at N₇
    repeat' (first | ((with_reducible show wpAny _ _ (execs (_ :: _) _) _ _ _); refine execs_seq ?_; intro QZs hnZs hrZs hbZs hcZs) | (refine hnZs _ ?_; clear hnZs hrZs hbZs hcZs) | (refine hrZs _ _ ?_) | (refine hbZs _ ?_) | (refine hcZs _ ?_) | ((with_reducible show wpAny _ _ (call (Value.builtin "len") [Value.ref _]) _ _ _); refine len_tuple (News.isTup (by assumption) (by k_mem)) (by simp only [List.size_toArray]; first | exact lt63 (by assumption) (by exact rfl) | omega) ?_) | ((with_reducible show wpAny _ _ (call (Value.ref 80) [Value.ref _, Value.int _ _] _) _ _ _); first | ((refine gni_oldN (by assumption) ⟨rfl, Nat.le_of_ble_eq_true rfl, Nat.le_of_ble_eq_true rfl, rfl, rfl⟩ (by assumption) (by assumption) (by k_mem) (by k_mem) (by k_mem) (by assumption) (by assumption) (by assumption) ?_); intro hZq tkZq FZq NZq; (try k_sweep))) | ((with_reducible show wpAny _ _ (call (Value.builtin "list.append") [Value.ref _, _]) _ _ _); k_dflt (refine append_K (by k_asm) (by k_asm) (by k_upd) ?_ (by simp only [sizeLine_eq]; first | exact leK (by assumption) (by exact rfl) | omega)); intro hZq FZq NZq; (try k_sweep)) | walk1 | (dsimp only; first | ((with_reducible show wpAny _ _ (execs (_ :: _) _) _ _ _); refine execs_seq ?_; intro QZs hnZs hrZs hbZs hcZs) | (refine hnZs _ ?_; clear hnZs hrZs hbZs hcZs) | (refine hrZs _ _ ?_) | (refine hbZs _ ?_) | (refine hcZs _ ?_) | ((with_reducible show wpAny _ _ (call (Value.builtin "len") [Value.ref _]) _ _ _); refine len_tuple (News.isTup (by assumption) (by k_mem)) (by simp only [List.size_toArray]; first | exact lt63 (by assumption) (by exact rfl) | omega) ?_) | ((with_reducible show wpAny _ _ (call (Value.ref 80) [Value.ref _, Value.int _ _] _) _ _ _); first | ((refine gni_oldN (by assumption) ⟨rfl, Nat.le_of_ble_eq_true rfl, Nat.le_of_ble_eq_true rfl, rfl, rfl⟩ (by assumption) (by assumption) (by k_mem) (by k_mem) (by k_mem) (by assumption) (by assumption) (by assumption) ?_); intro hZq tkZq FZq NZq; (try k_sweep))) | ((with_reducible show wpAny _ _ (call (Value.builtin "list.append") [Value.ref _, _]) _ _ _); k_dflt (refine append_K (by k_asm) (by k_asm) (by k_upd) ?_ (by simp only [sizeLine_eq]; first | exact leK (by assumption) (by exact rfl) | omega)); intro hZq FZq NZq; (try k_sweep)) | walk1))
    all_goals dsimp only at *
    rename Fr _ _ _ _ => F₈
    rename News _ _ _ _ => N₈
    have hB' : NsOk (pre ++ { n₂ with sv := n₂.sv.push (.int k t), le := n₂.le + 1 } :: post) (B + (i + 1)) := nsOk_put (n := n₂) (B := B + i) (hns₂ ▸ hok₂) (Nat.le_succ _) rfl rfl rfl rfl ⟨allInts_push (hok₂.valsOk n₂ (by rw [hns₂]; simp)).1, by rw [Array.size_push]; exact Nat.succ_le_succ c7⟩
    refine TurnEnd.go F₈ ?_ ⟨hI, hI2, (some (.int p tp)), (some (.ref n₂.a)), (pre ++ { n₂ with sv := n₂.sv.push (.int k t), le := n₂.le + 1 } :: post), rfl, hB', ?_, ?_, ?_, ?_⟩
    · exact News.sub (l := ({ n₂ with sv := n₂.sv.push (.int k t), le := n₂.le + 1 } : Nd).led ++ ([(I, oI), (L, oL), (q, tupOf vs.toArray 0), (x, instObj 137 dx), (dx, soDict w t1 t2 t3 t4 d .none po nf), (d, od)] ++ (nodesLed pre ++ (nodesLed post ++ rest)))) N₈ (led_in (H := [(I, oI), (L, oL), (q, tupOf vs.toArray 0), (x, instObj 137 dx), (dx, soDict w t1 t2 t3 t4 d .none po nf), (d, od)]))
    · rw [← hft₂, hns₂]; exact foot_put (n := n₂) rfl rfl rfl
    · rw [← hkv₂, hns₂]; exact kvs_put (n := n₂) rfl rfl
    · rw [List.take_add_one, hp, List.foldl_append, ← hvw₂, hns₂]
      simp only [Option.toList_some, List.foldl_cons, List.foldl_nil]
      rw [← hnk₂]
      exact (gMod_view (hns₂ ▸ hok₂.keysOk) (by simp only [Nd.view, intsOf_push])).symm
    · ((funext y; (repeat' split) <;> first | rfl | contradiction | (subst_vars; first | rfl | (exfalso; simp +decide at *; done) | (simp_all +decide; done))))
  · focus (rintro I m₁ news₁ h tk hP0 F₅ N₆; refine hid fun hGo => ?_; rcases hP0 with ⟨hI, hI2, up, ui, ns₂, rfl, hok₂, hft₂, hkv₂, hvw₂, rfl⟩; all_goals (refine hGo ?_; clear hGo))
    obtain ⟨F₇, N₇⟩ := backN bk F₅ (News.sub (l' := (L, oL) :: (x, instObj 137 dx) :: (dx, soDict w t1 t2 t3 t4 d .none po nf) :: (d, od) :: (nodesLed ns₂ ++ rest)) N₆ (by simp only [List.cons_append, List.nil_append]; ((repeat' (first | exact List.forall_mem_nil _ | (refine fmc (by k_memK) ?_) | (intro p hp; k_ownIn)))))) (by
      refine fmc l6 (fmc l5 (fmc l7 ?_))
      intro p hp
      try simp only [List.nil_append, List.append] at hp
      focus (refine hid fun hGo => ?_; rcases List.mem_append.mp hp with hp | hp; all_goals (refine hGo ?_; clear hGo))
      · have : p.1 ∈ nodesFoot ns := by rw [← hft₂, nodesFoot_eq]; exact List.mem_map_of_mem hp
        focus (refine hid fun hGo => ?_; obtain ⟨p', hp', e⟩ := led_addr (rest := rest) this; all_goals (refine hGo ?_; clear hGo))
        exact e ▸ l8 p' hp'
      · exact l8 p (List.mem_append_right _ hp))
    refine wpAny_execs_nil ?_
    rw [hi.length, List.take_length] at hvw₂
    exact hQ _ _ ns₂ F₇ N₇ hok₂ hft₂ hkv₂ hvw₂
theorem callWith_MS {M : Model} {A : Around} {E : Value → Shared → Prop} {s : Shared} {K : Frag} {env : Env} {pos : Pos} {first : List Value} {q g : Addr} {self : Value} {e : Expr} {rest : List Expr} {Q : Value → Shared → Prop} (hf : fnIn K g = true)
    (h : wpAny M A (spliced (backTo pos (starEach (e :: rest) env))) (fun vs s₁ => MethP K q g self s₁.heap ∧ wpAny M A (call (.ref q) (first ++ vs)) Q E s₁) E s)
    (he : starEach (e :: rest) env = (false, eval e env) :: starEach rest env := by rfl) (hst : (backTo pos (starEach rest env)).any (·.1) = true := by rfl) :
    wpAny M A (callWith pos (.ref q) first (backTo pos (starEach (e :: rest) env)) []) Q E s := by
  rw [he] at h ⊢
  exact ks_call (by show (false || (backTo pos (starEach rest env)).any (·.1)) = true; rw [hst]; rfl) (keeps_M hf) (evalArgs_plain h)
theorem ints_areOf {vs : List Value} {ws : List Int} (h : IntsAre vs ws) : AreOf ItemKind.int vs ws := by
  induction h with
  | nil => exact .nil
  | cons n t _ ih => exact .cons ⟨t, rfl⟩ ih
theorem ints_of_carried : ∀ {ns : List Int} {vs : List Value}, CarriedAll vs (ns.map PyData.int) → IntsAre vs ns
  | [], _, h => by cases h; exact .nil
  | n :: ns, _, h => by
    cases h with
    | cons h1 h2 => cases h1; exact .cons _ _ (ints_of_carried h2)
theorem preI_t {o k : Int} (h1 : hbI o < hbI k) (h2 : k.fdiv (2 ^ (hbI k - hbI o).toNat) = o) : true = preI o k := by
  unfold preI; rw [decide_eq_true h1, decide_eq_true h2]; rfl
theorem preI_f1 {o k : Int} (h1 : ¬ hbI o < hbI k) : false = preI o k := by
  unfold preI; rw [decide_eq_false h1]; rfl
theorem preI_f2 {o k : Int} (h3 : k.fdiv (2 ^ (hbI k - hbI o).toNat) ≠ o) : false = preI o k := by
  unfold preI; rw [decide_eq_false h3, Bool.and_false]
theorem sizes_at {vs : List Value} {row : List Int} {kvs : List (Int × Value)} (hi : IntsAre vs row) (hsz : ∀ k t, Value.int k t ∈ vs → ∃ t', valueAt kvs k = some (.int (hbI k) t')) {o : Int} (ho : o ∈ row) : ∃ t', valueAt kvs o = some (.int (hbI o) t') := by
  induction hi with
  | nil => cases ho
  | cons n t _ ih =>
    focus (refine hid fun hGo => ?_; rcases List.mem_cons.mp ho with rfl | ho; all_goals (refine hGo ?_; clear hGo))
    · exact hsz _ t (.head _)
    · exact ih (fun k t hm => hsz k t (.tail _ hm)) ho
theorem NsOk.mono {ns : List Nd} {B B' : Nat} (h : NsOk ns B) (hB : B ≤ B') : NsOk ns B' := ⟨fun n hn => ⟨(h.valsOk n hn).1, Nat.le_trans (h.valsOk n hn).2 hB⟩, h.keysOk, h.footOk⟩
theorem gEdges_next {pre : Int → Int → Bool} {row : List Int} {i : Nat} {k : Int} (hk : row[i]? = some k) : gEdges pre row (i + 1) = gAddEdges (gEdges pre row i) k (predsI pre row k) := by
  unfold gEdges
  rw [List.take_add_one, hk, List.foldl_append]; rfl
theorem add_ledger {I : Addr} {oI : Obj} {c1 c2 l D x dx d : Addr × Obj} {Y q : Addr × Obj} {ns : List Nd} {news : List (Addr × Obj)} : ∀ p ∈ (I, oI) :: c1 :: c2 :: l :: D :: x :: dx :: d :: (nodesLed ns ++ news), p ∈ x :: dx :: d :: (nodesLed ns ++ (Y :: q :: (I, oI) :: c1 :: c2 :: l :: D :: news)) := by
  have up : ∀ p ∈ Y :: q :: (I, oI) :: c1 :: c2 :: l :: D :: news, p ∈ x :: dx :: d :: (nodesLed ns ++ (Y :: q :: (I, oI) :: c1 :: c2 :: l :: D :: news)) := fun p h => mdrop 3 rfl _ (List.mem_append_right _ h)
  exact fmc (up _ (mat 2 rfl)) (fmc (up _ (mat 3 rfl)) (fmc (up _ (mat 4 rfl)) (fmc (up _ (mat 5 rfl)) (fmc (up _ (mat 6 rfl)) (fmc (mat 0 rfl) (fmc (mat 1 rfl) (fmc (mat 2 rfl) (fma (fun p h => mdrop 3 rfl _ (List.mem_append_left _ h)) fun p h => up p (mdrop 7 rfl _ h)))))))))
theorem add_ledger' {I : Addr} {oI : Obj} {c1 c2 l D x dx d : Addr × Obj} {Y q : Addr × Obj} {ns : List Nd} {news : List (Addr × Obj)} : ∀ p ∈ x :: dx :: d :: (nodesLed ns ++ (Y :: q :: (I, oI) :: c1 :: c2 :: l :: D :: news)), p ∈ Y :: q :: (I, oI) :: c1 :: c2 :: l :: D :: x :: dx :: d :: (nodesLed ns ++ news) := by
  exact fmc (mat 7 rfl) (fmc (mat 8 rfl) (fmc (mat 9 rfl) (fma (fun p h => mdrop 10 rfl _ (List.mem_append_left _ h)) (fmc (mat 0 rfl) (fmc (mat 1 rfl) (fmc (mat 2 rfl) (fmc (mat 3 rfl) (fmc (mat 4 rfl) (fmc (mat 5 rfl) (fmc (mat 6 rfl) fun p h => mdrop 10 rfl _ (List.mem_append_right _ h)))))))))))
theorem nsOk_full {pre : Int → Int → Bool} {ns : List Nd} {B : Nat} {row : List Int} (h : NsOk ns B) (hv : ns.map Nd.view = gFull pre row) (hr : row.length ≤ 63) : NsOk ns 63 where
  valsOk := by
    intro n hn
    refine ⟨(h.valsOk n hn).1, ?_⟩
    have hm : n.view ∈ gFull pre row := by rw [← hv]; exact List.mem_map_of_mem hn
    focus (refine hid fun hGo => ?_; obtain ⟨k, _, e⟩ := List.mem_map.mp hm; all_goals (refine hGo ?_; clear hGo))
    have e := congrArg (fun v => v.2.2.length) e
    simp only [Nd.view, intsOf, List.length_map, Array.length_toList] at e
    rw [← e]
    exact Nat.le_trans (List.length_filter_le ..) hr
  keysOk := h.keysOk
  footOk := h.footOk
theorem full_rank {ns : List Nd} {row : List Int} (hv : ns.map Nd.view = gFull preI row) (hr : ∀ x ∈ row, InR x) : ∀ n ∈ ns, ∀ p ∈ intsOf n.sv, p ∈ ns.map (·.k) ∧ (fun k => (hbI k).toNat) n.k < (fun k => (hbI k).toNat) p := by
  intro n hn p hp
  have hm : n.view ∈ gFull preI row := by rw [← hv]; exact List.mem_map_of_mem hn
  focus (refine hid fun hGo => ?_; obtain ⟨k, hk, e⟩ := List.mem_map.mp hm; all_goals (refine hGo ?_; clear hGo))
  have e1 : k = n.k := congrArg Prod.fst e
  have e2 : belowI preI row k = intsOf n.sv := congrArg (fun v => v.2.2) e
  rw [← e2] at hp
  focus (refine hid fun hGo => ?_; obtain ⟨h1, h2⟩ := mem_below.mp hp; all_goals (refine hGo ?_; clear hGo))
  refine ⟨?_, ?_⟩
  · rw [view_keys hv]
    unfold gFull
    rw [List.map_map]
    exact List.mem_map.mpr ⟨p, h1, rfl⟩
  · rw [← e1]
    focus (refine hid fun hGo => ?_; rcases pre_rank h2 with h | h; all_goals (refine hGo ?_; clear hGo))
    · exact h
    · exact absurd (hbI_pos (hr k hk)) (by omega)
theorem full_roots {ns : List Nd} {row : List Int} {pre : Int → Int → Bool} (hv : ns.map Nd.view = gFull pre row) : (ns.filter fun n => decide (n.np = 0)).map (·.k) = rootsI pre row := by
  rw [← gFull_ready, ← hv, List.filter_map, List.map_map]
  rfl
theorem full_len {ns : List Nd} {row : List Int} {pre : Int → Int → Bool} (hv : ns.map Nd.view = gFull pre row) : ns.length = row.length := by
  have := congrArg List.length hv
  unfold gFull at this
  simpa using this
theorem nd_in {ns : List Nd} {n : Nd} {T : List (Addr × Obj)} (hn : n ∈ ns) : (n.a, n.obj) ∈ nodesLed ns ++ T ∧ (n.dx, dictOf [] 0) ∈ nodesLed ns ++ T ∧ (n.l, W.listOf n.sv n.le) ∈ nodesLed ns ++ T :=
  ⟨List.mem_append_left _ (List.mem_flatMap.mpr ⟨n, hn, .head _⟩), List.mem_append_left _ (List.mem_flatMap.mpr ⟨n, hn, .tail _ (.head _)⟩), List.mem_append_left _ (List.mem_flatMap.mpr ⟨n, hn, .tail _ (.tail _ (.head _))⟩)⟩
theorem prep_ledger {c1 c2 l D x dx d : Addr × Obj} {N news : List (Addr × Obj)} : ∀ p ∈ x :: dx :: d :: ((N ++ (c1 :: c2 :: D :: news)) ++ [l]), p ∈ c1 :: c2 :: l :: D :: x :: dx :: d :: (N ++ news) := by
  exact fmc (mat 4 rfl) (fmc (mat 5 rfl) (fmc (mat 6 rfl) (fma (fma (fun p h => mdrop 7 rfl _ (List.mem_append_left _ h)) (fmc (mat 0 rfl) (fmc (mat 1 rfl) (fmc (mat 3 rfl) fun p h => mdrop 7 rfl _ (List.mem_append_right _ h))))) (fmc (mat 2 rfl) (List.forall_mem_nil _)))))
/-- an address off the sorter -/
noncomputable def Off (foot : List Addr) (r dx b : Nat) : Prop := b ∉ foot ∧ @Ne Nat b r ∧ @Ne Nat b dx
theorem Off.rest {foot : List Addr} {r dx : Nat} {l : List (Addr × Obj)} (h : ∀ p ∈ l, Off foot r dx p.1) : (∀ p ∈ l, p.1 ∉ foot) ∧ ∀ p ∈ l, @Ne Nat p.1 r ∧ @Ne Nat p.1 dx := ⟨fun p hp => (h p hp).1, fun p hp => (h p hp).2⟩

section
variable {w : World} {A : Around} {s : Shared} {E : Value → Shared → Prop} {hb : Heap} {L D : Addr} {m : Str → Option Value} {R : List (Addr × Obj)} {its : Array Value} {n : Nat}
theorem ext_HT {b : Addr} {its2 : Array Value} {n2 : Nat} {Q : Value → Shared → Prop} (F : Fr hb L s.heap m) (N : News hb L s.heap ((D, W.listOf its n) :: R)) (hR : ∀ p ∈ R, p.1 ≠ D) (hb2 : s.heap.get? b = some (tupOf its2 n2)) (hz : its.size + its2.size ≤ 5000)
    (h : ∀ h' n', Fr hb L h' m → News hb L h' ((D, W.listOf (its ++ its2) n') :: R) → Q .none { s with heap := h' }) :
    wpAny (model PP w) A (call (.builtin "list.extend") [.ref D, .ref b]) Q E s := by
  have z := N _ (.head _)
  have hsz : its.size + its2.size ≤ sizeLine := by rw [sizeLine_eq]; lia
  refine call_meets PySem.F.slot_list_extend ⟨_, z.1, rfl⟩ PySem.F.entry_list_extend (PySem.F.args_list_extend_2 _ _) (AutoSeq1.list_extend_list_tuple_0 D its n b its2 n2 (extend_door hsz) (Nat.le_trans (Nat.le_add_right _ _) hsz)) ⟨z.1, hb2, ?_⟩
  refine h _ (if ((its ++ its2).size == its.size) = true then n else n + 1) (F.change (Heap.SameBut.update ..) z.2.1 z.2.2) ?_
  exact News.setAt (own := []) N (fun p hp => nomatch hp) hR (Heap.SameBut.update ..) (Heap.get?_update_self _ z.1 rfl)
end
theorem ints_snoc {vs : List Value} {l : List Int} {p : Int} (h : IntsAre vs (l ++ [p])) : ∃ ws t, vs = ws ++ [.int p t] ∧ IntsAre ws l := by
  induction l generalizing vs with
  | nil =>
    cases h with
    | cons n t h' => cases h'; exact ⟨[], t, rfl, .nil⟩
  | cons a l ih =>
    cases h with
    | cons n t h' =>
      obtain ⟨ws, t', rfl, h2⟩ := ih h'
      exact ⟨.int a t :: ws, t', rfl, .cons _ _ h2⟩
structure WI (row T : List Int) (ns₂ ns : List Nd) (Dn pile : List Int) (pv ov : Array Value) : Prop where
  inv : PInv preI row Dn pile
  hp : IntsAre pv.toList pile
  ho : IntsAre ov.toList Dn.reverse
  hT : Dn.reverse ++ pile.reverse.flatMap (tree preI row) = T
  hok : NsOk ns 63
  hft : nodesFoot ns = nodesFoot ns₂
  hkv : nodesKvs ns = nodesKvs ns₂
  hvw : ns.map Nd.view = gSt preI row Dn pile
theorem WI.size {row T : List Int} {ns₂ ns : List Nd} {Dn pile : List Int} {pv ov : Array Value} (W : WI row T ns₂ ns Dn pile pv ov) (hr : row.length ≤ 63) : pv.size ≤ 63 ∧ ov.size ≤ 63 ∧ Dn.length ≤ row.length ∧ pile.length ≤ 63 := by
  have h1 := W.hp.length
  have h2 := W.ho.length
  rw [Array.length_toList] at h1 h2
  rw [List.length_reverse] at h2
  have h3 := nodup_length_le W.inv.dnd W.inv.dr
  have h4 := nodup_length_le W.inv.pnd W.inv.pr
  lia
theorem WI.top {row T : List Int} {ns₂ ns : List Nd} {Dn rest : List Int} {p : Int} {pv ov : Array Value} (W : WI row T ns₂ ns Dn (rest ++ [p]) pv ov) : (p, -1, belowI preI row p) ∈ ns.map Nd.view := by
  rw [W.hvw]
  unfold gSt
  refine List.mem_map.mpr ⟨p, W.inv.pr p (by simp), ?_⟩
  have h1 := W.inv.dj p (by simp)
  unfold statI
  rw [if_neg h1, if_pos (by simp)]
theorem WI.next {row T : List Int} {ns₂ ns ns' ns'' : List Nd} {Dn rest : List Int} {p : Int} {pv ov rv : Array Value} {l : List Value} {t : Tok} (P : PreOk preI row) (W : WI row T ns₂ ns Dn (rest ++ [p]) pv ov) (hl : IntsAre l rest)
    (hs : ns'.map Nd.shape = ns.map Nd.shape) (hv : ns'.map Nd.view = (gDone (ns.map Nd.view) [] p (belowI preI row p)).1) (hrv : IntsAre rv.toList (gDone (ns.map Nd.view) [] p (belowI preI row p)).2)
    (hok : NsOk ns'' 63) (hft : nodesFoot ns'' = nodesFoot ns') (hkv : nodesKvs ns'' = nodesKvs ns') (hvw : ns''.map Nd.view = gOut (ns'.map Nd.view) (readyI preI row Dn p)) :
    WI row T ns₂ ns'' (p :: Dn) (rest ++ readyI preI row Dn p) (l.toArray ++ rv) (ov.push (.int p t)) where
  inv := W.inv.step P
  hp := by
    rw [W.hvw, done_step P W.inv] at hrv
    rw [Array.toList_append]
    exact hl.append hrv
  ho := by
    rw [List.reverse_cons]
    exact intsAre_push W.ho
  hT := by
    rw [← W.hT, order_step P W.inv, List.reverse_cons, List.append_assoc]; rfl
  hok := hok
  hft := hft.trans ((shape_foot hs).trans W.hft)
  hkv := hkv.trans ((shape_kvs hs).trans W.hkv)
  hvw := by
    rw [hvw, hv, W.hvw, done_step P W.inv, out_step P W.inv]
theorem WI.ready {row T : List Int} {ns₂ ns : List Nd} {Dn rest : List Int} {p : Int} {pv ov rv : Array Value} (P : PreOk preI row) (W : WI row T ns₂ ns Dn (rest ++ [p]) pv ov) (hrv : IntsAre rv.toList (gDone (ns.map Nd.view) [] p (belowI preI row p)).2) : IntsAre rv.toList (readyI preI row Dn p) := by
  rw [W.hvw, done_step P W.inv] at hrv; exact hrv
theorem WI.start {row : List Int} {ns₂ ns : List Nd} {rv : Array Value} (P : PreOk preI row) (hrv : IntsAre rv.toList (rootsI preI row)) (hok : NsOk ns 63) (hft : nodesFoot ns = nodesFoot ns₂) (hkv : nodesKvs ns = nodesKvs ns₂) (hvw : ns.map Nd.view = gSt preI row [] (rootsI preI row)) :
    WI row (stretI preI row.length row) ns₂ ns [] (rootsI preI row) rv #[] where
  inv := PInv.start P
  hp := hrv
  ho := .nil
  hT := by rw [strets_eq P]; rfl
  hok := hok
  hft := hft
  hkv := hkv
  hvw := hvw
theorem WI.done {row T : List Int} {ns₂ ns : List Nd} {Dn : List Int} {pv ov : Array Value} (W : WI row T ns₂ ns Dn [] pv ov) : IntsAre ov.toList T := by
  have := W.hT
  simp only [List.reverse_nil, List.flatMap_nil, List.append_nil] at this
  rw [← this]; exact W.ho
theorem app_N {w : World} {A : Around} {s : Shared} {E : Value → Shared → Prop} {hb : Heap} {L D : Addr} {m : Str → Option Value} {news : List (Addr × Obj)} {g : Obj → List (Addr × Obj)} {its : Array Value} {n : Nat} {x : Value} {Q : Value → Shared → Prop}
    (F : Fr hb L s.heap m) (N : News hb L s.heap news) (U : UpdF D (W.listOf its n) news g) (hz : its.size ≤ 10000) (h : ∀ h', Fr hb L h' m → News hb L h' (g (W.listOf (its.push x) (n + 1))) → Q .none { s with heap := h' }) :
    wpAny (model PP w) A (call (.builtin "list.append") [.ref D, x]) Q E s := by
  obtain ⟨pre, post, rfl, hg, h1, h2⟩ := U.split
  have z := N (D, W.listOf its n) (List.mem_append_right _ (.head _))
  refine append_at (hsz := by rw [sizeLine_eq]; lia) z.1 fun h' hs ho' => h h' (F.change hs z.2.1 z.2.2) ?_
  rw [hg]
  exact N.setAt h1 h2 hs ho'
/-- what stands still in the pile's while -/
noncomputable def FX (L' D x dx d r : Nat) (foot : List Addr) (ne : List Addr) (b : Nat) : Prop := b = L' + 1 + 1 ∨ b = D ∨ b = x ∨ b = dx ∨ b = d ∨ b = r ∨ b ∈ foot ∨ b ∈ ne
theorem fx_mem {L' D x dx d r : Nat} {ns : List Nd} {news : List (Addr × Obj)} {o1 o2 o3 o4 o5 o6 : Obj} : ∀ p ∈ (L' + 1 + 1, o1) :: (D, o2) :: (x, o3) :: (dx, o4) :: (d, o5) :: (r, o6) :: (nodesLed ns ++ news), FX L' D x dx d r (nodesFoot ns) (news.map (·.1)) p.1 := by
  exact fmc (.inl rfl) (fmc (.inr (.inl rfl)) (fmc (.inr (.inr (.inl rfl))) (fmc (.inr (.inr (.inr (.inl rfl)))) (fmc (.inr (.inr (.inr (.inr (.inl rfl))))) (fmc (.inr (.inr (.inr (.inr (.inr (.inl rfl)))))) (fma (fun p h => .inr (.inr (.inr (.inr (.inr (.inr (.inl (by rw [nodesFoot_eq]; exact List.mem_map_of_mem h)))))))) fun p h => .inr (.inr (.inr (.inr (.inr (.inr (.inr (List.mem_map_of_mem h)))))))))))))
theorem mem_mid {α : Type} {H1 H2 N M : List α} {p : α} (h : p ∈ H1 ++ (N ++ (H2 ++ M))) : p ∈ H2 ++ (H1 ++ (N ++ M)) := by
  rcases List.mem_append.mp h with h | h
  · exact List.mem_append_right _ (List.mem_append_left _ h)
  rcases List.mem_append.mp h with h | h
  · exact List.mem_append_right _ (List.mem_append_right _ (List.mem_append_left _ h))
  rcases List.mem_append.mp h with h | h
  · exact List.mem_append_left _ h
  · exact List.mem_append_right _ (List.mem_append_right _ (List.mem_append_right _ h))
theorem mem_dim {α : Type} {H1 H2 N M : List α} {p : α} (h : p ∈ H2 ++ (H1 ++ (N ++ M))) : p ∈ H1 ++ (N ++ (H2 ++ M)) := by
  rcases List.mem_append.mp h with h | h
  · exact List.mem_append_right _ (List.mem_append_right _ (List.mem_append_left _ h))
  rcases List.mem_append.mp h with h | h
  · exact List.mem_append_left _ h
  rcases List.mem_append.mp h with h | h
  · exact List.mem_append_right _ (List.mem_append_left _ h)
  · exact List.mem_append_right _ (List.mem_append_right _ (List.mem_append_right _ h))
theorem mem_swp {α : Type} {a b p : α} {l : List α} (h : p ∈ a :: b :: l) : p ∈ b :: a :: l := by
  rcases List.mem_cons.mp h with h | h
  · exact h ▸ .tail _ (.head _)
  rcases List.mem_cons.mp h with h | h
  · exact h ▸ .head _
  · exact .tail _ (.tail _ h)
theorem wl_in {c P O C D x dx d r : Addr × Obj} {N news : List (Addr × Obj)} : ∀ p ∈ x :: dx :: d :: r :: (N ++ (c :: P :: O :: C :: D :: news)), p ∈ c :: P :: O :: C :: D :: x :: dx :: d :: r :: (N ++ news) :=
  fun _ hp => mem_mid (H1 := [x, dx, d, r]) (H2 := [c, P, O, C, D]) hp
theorem wl_out {c P O C D x dx d r : Addr × Obj} {N news : List (Addr × Obj)} : ∀ p ∈ c :: P :: O :: C :: D :: x :: dx :: d :: r :: (N ++ news), p ∈ x :: dx :: d :: r :: (N ++ (c :: P :: O :: C :: D :: news)) :=
  fun _ hp => mem_dim (H1 := [x, dx, d, r]) (H2 := [c, P, O, C, D]) hp
theorem wl_st {c P O C D x dx d r q : Addr × Obj} {N news : List (Addr × Obj)} : ∀ p ∈ c :: P :: O :: C :: D :: x :: dx :: d :: r :: (N ++ news), p ∈ O :: P :: q :: x :: dx :: d :: r :: (N ++ (c :: C :: D :: news)) := by
  have up : ∀ p ∈ N ++ (c :: C :: D :: news), p ∈ O :: P :: q :: x :: dx :: d :: r :: (N ++ (c :: C :: D :: news)) := fun p h => List.mem_append_right [O, P, q, x, dx, d, r] h
  refine fmc (up _ (List.mem_append_right _ (.head _))) (fmc (.tail _ (.head _)) (fmc (.head _) (fmc (up _ (List.mem_append_right _ (.tail _ (.head _)))) (fmc (up _ (List.mem_append_right _ (.tail _ (.tail _ (.head _))))) (fun p hp => ?_)))))
  rcases List.mem_append.mp (show p ∈ [x, dx, d, r] ++ (N ++ news) from hp) with h | h
  · exact .tail _ (.tail _ (.tail _ (List.mem_append_left _ h)))
  rcases List.mem_append.mp h with h | h
  · exact up _ (List.mem_append_left _ h)
  · exact up _ (List.mem_append_right _ (.tail _ (.tail _ (.tail _ h))))
theorem gSt_keys {pre : Int → Int → Bool} {row D pile : List Int} {ns : List Nd} (h : ns.map Nd.view = gSt pre row D pile) : ns.map (·.k) = row := by
  rw [view_keys h]; unfold gSt; rw [List.map_map]; exact List.map_id _
theorem wl_ext {c P O C D x dx d r q : Addr × Obj} {N news : List (Addr × Obj)} : ∀ p ∈ P :: c :: O :: C :: D :: x :: dx :: d :: r :: (N ++ news), p ∈ q :: x :: dx :: d :: r :: (N ++ (c :: P :: O :: C :: D :: news)) :=
  fun _ hp => .tail _ (wl_out _ (mem_swp hp))
theorem wl_back {c P O C D x dx d r : Addr × Obj} {N news : List (Addr × Obj)} : ∀ p ∈ c :: P :: O :: C :: D :: x :: dx :: d :: r :: (N ++ news), p ∈ P :: c :: O :: C :: D :: x :: dx :: d :: r :: (N ++ news) :=
  fun _ hp => mem_swp hp

inductive PlA (w : World) (L' : Nat) (L : Nat) (a : Nat) (x : Nat) (dx : Nat) (d : Nat) (os : Obj) (oL : Obj) (t1 : Tok) (t2 : Tok) (t3 : Tok) (t4 : Tok) (t5 : Tok) (t6 : Tok) (news : List (Addr × Obj)) (row : List Int) (I : Nat) (i : Nat) (m₁ : Str → Option Value) (news₁ : List (Addr × Obj)) : Prop
  | mk (e1 : @LT.lt Nat _ d I) (ns : List Nd) (od : Obj) (on : Obj) (vn : Option Value) (e2 : PS w ns od (gStart (row.take i)) 0 I) (e3 : on.data = .cell vn) (e4 : news₁ = (L' + 1, on) :: (L' + 1 + 1, os) :: (L, oL) :: (x, instObj 137 dx) :: (dx, soDict w t1 t2 t3 t4 d .none (.int 0 t5) (.int 0 t6)) :: (d, od) :: (nodesLed ns ++ news)) (e5 : m₁ = fun y => if y = Str.ofString "sorter" then some (.ref x) else if y = Str.ofString "row" then some (.ref a) else none) : PlA w L' L a x dx d os oL t1 t2 t3 t4 t5 t6 news row I i m₁ news₁
inductive PlB (w : World) (L' : Nat) (L : Nat) (D : Nat) (a : Nat) (x : Nat) (dx : Nat) (d : Nat) (os' : Obj) (oL : Obj) (oD : Obj) (od : Obj) (t1 : Tok) (t2 : Tok) (t3 : Tok) (t4 : Tok) (t5 : Tok) (t6 : Tok) (news : List (Addr × Obj)) (row : List Int) (ns : List Nd) (I₂ : Nat) (i : Nat) (m₁ : Str → Option Value) (news₁ : List (Addr × Obj)) : Prop
  | mk (e1 : (∀ b : Nat, (b = L' + 1 + 1 ∨ b = L' + 1 ∨ b = L ∨ b = D ∨ b = x ∨ b = dx ∨ b = d ∨ b ∈ nodesFoot ns ∨ b ∈ news.map (·.1)) → @LT.lt Nat _ b I₂)) (ns₂ : List Nd) (on : Obj) (vn : Option Value) (e2 : NsOk ns₂ (63 * i)) (e3 : nodesFoot ns₂ = nodesFoot ns) (e4 : nodesKvs ns₂ = nodesKvs ns) (e5 : ns₂.map Nd.view = gEdges preI row i) (e6 : on.data = .cell vn) (e7 : news₁ = (L' + 1, on) :: (L' + 1 + 1, os') :: (L, oL) :: (D, oD) :: (x, instObj 137 dx) :: (dx, soDict w t1 t2 t3 t4 d .none (.int 0 t5) (.int 0 t6)) :: (d, od) :: (nodesLed ns₂ ++ news)) (e8 : m₁ = fun y => if y = Str.ofString "sorter" then some (.ref x) else if y = Str.ofString "row" then some (.ref a) else none) : PlB w L' L D a x dx d os' oL oD od t1 t2 t3 t4 t5 t6 news row ns I₂ i m₁ news₁
inductive PlC (w : World) (L' : Nat) (D : Nat) (a : Nat) (x : Nat) (dx : Nat) (d : Nat) (r : Nat) (pl : Nat) (ord : Nat) (os' : Obj) (oD : Obj) (od : Obj) (t1 : Tok) (t2 : Tok) (t3 : Tok) (t4 : Tok) (news' : List (Addr × Obj)) (row : List Int) (ns₂ : List Nd) (k : Nat) (m₁ : Str → Option Value) (news₁ : List (Addr × Obj)) : Prop
  | mk (ns₄ : List Nd) (Dn : List Int) (piL : List Int) (po : Int) (tpo : Tok) (nf : Int) (tnf : Tok) (re : Nat) (pv : Array Value) (pn : Nat) (ov : Array Value) (on₂ : Nat) (oc : Obj) (vc : Option Value) (e1 : WI row (stretI preI row.length row) ns₂ ns₄ Dn piL pv ov) (e2 : oc.data = .cell vc) (e3 : k + Dn.length = row.length) (e4 : news₁ = (L' + 1, oc) :: (pl, W.listOf pv pn) :: (ord, W.listOf ov on₂) :: (L' + 1 + 1, os') :: (D, oD) :: (x, instObj 137 dx) :: (dx, soDict w t1 t2 t3 t4 d (.ref r) (.int po tpo) (.int nf tnf)) :: (d, od) :: (r, W.listOf #[] re) :: (nodesLed ns₄ ++ news')) (e5 : m₁ = fun y => if y = Str.ofString "order" then some (.ref ord) else if y = Str.ofString "pile" then some (.ref pl) else if y = Str.ofString "sorter" then some (.ref x) else if y = Str.ofString "row" then some (.ref a) else none) : PlC w L' D a x dx d r pl ord os' oD od t1 t2 t3 t4 news' row ns₂ k m₁ news₁
theorem pile_spec {w : World} {A : Around} {outer : List Env} {s : Shared} {hb : Heap} {L a : Nat} {m : Str → Option Value} {news : List (Addr × Obj)} {vs : List Value} {row : List Int} {nr : Nat} {Q : Value → Shared → Prop} {E : Value → Shared → Prop}
    (G : Gd w hb) (hA : LeF A outer 900 4000) (F : Fr hb L s.heap m) (N : News hb L s.heap news)
    (hout : ∀ y ∈ outer, y.scope.kind = .function ∧ y.frame = some L)
    (hrow : (a, W.listOf vs.toArray nr) ∈ news) (hi : IntsAre vs row) (hnd : row.Nodup) (hr : ∀ x ∈ row, InR x)
    (hQ : ∀ h' tk D us n, Fr hb L h' m → News hb L h' ((D, W.listOf us n) :: news) → IntsAre us.toList (stretI preI row.length row) → (∀ p ∈ news, @LT.lt Nat _ p.1 D) → Q (.ref D) { s with heap := h', toks := tk }) :
    wpAny (model PP w) A (call (.ref 167) [.ref a]) Q E s := by
  refine wpAny_leF hA ?_
  have X := G.X
  focus (refine hid fun hGo => ?_; obtain ⟨mg, mb, T⟩ := G.T; all_goals (refine hGo ?_; clear hGo))
  have hr63 := inR_length hnd hr
  have hv63 : vs.length ≤ 63 := by rw [hi.length]; exact hr63
  refine enterBC (fr := some outer) (binds := [(Str.ofString "row", .ref a)]) G F N (by decide) (by k_is) (by k_is) (BindsTo.of_eq rfl) (fun n x hx => by rw [List.mem_singleton.mp hx]; exact .inl rfl) (by decide) ?_
  intro h₁ L' tk oL cells bk hL hN F₁ N₁ Y
  focus (refine hid fun hGo => ?_; obtain ⟨os, on, rfl, hos, hon⟩ := Y.two; all_goals (refine hGo ?_; clear hGo))
  have hon : on.data = .cell none := hon
  have hos : os.data = .cell none := hos
  have F₁ : Fr hb L' h₁ (fun y => if y = Str.ofString "row" then some (.ref a) else none) := F₁
  rw [Option.map_some]
  refine hideB ?_
  intro BA hBf
  have hBh : BA.handled = none := hBf.1
  have l8 : ∀ p ∈ news, p.1 ≠ L := fun p hp => (N p hp).2.1
  refine execs_seq ?_
  intro Q₁ hn₁ hr₁ hb₁ hc₁
  repeat' (first | ((first | (with_reducible show wpAny _ _ (storeName _ (Str.ofString "number") _) _ _ _) | (with_reducible show wpAny _ _ (storeName _ (Str.ofString "size") _) _ _ _)); (refine storeX_C (by k_asm) (by k_asm) (by exact rfl) (by k_updF) (by assumption) ?_); intro hZq oZq FZq NZq hdZq; (try dsimp only at NZq); (try k_sweep)) | ((with_reducible show wpAny _ _ (eval _ (compEnvC _ _ _ _)) _ _ _); first | refine ldVarK (by assumption) (by assumption) ?_ | refine ldCellK rfl (show CellOf _ _ _ by assumption) ?_ | refine nameC_K (show Kp _ _ by assumption) (by assumption) (by assumption) (by k_is) ?_) | ((with_reducible show wpAny _ _ (subscriptTail _ _ (Value.ref _) (Value.int _ _)) _ _ _); refine ditem_tail (by assumption) (by assumption) ?_) | ((with_reducible show wpAny _ _ (call (Value.builtin "list.append") [Value.ref _, _]) _ _ _); refine app_N (by k_asm) (by k_asm) (by k_updF) (by first | assumption | exact leK (by assumption) (by exact rfl) | omega) ?_; intro hZq FZq NZq; (try dsimp only at NZq); (try k_sweep)) | ((with_reducible show wpAny _ _ (call (Value.builtin "list.pop") [Value.ref _]) _ _ _); refine pop_N (by k_asm) (by k_asm) (by k_updF) (by assumption) (by first | assumption | exact leK (by assumption) (by exact rfl) | omega) ?_; intro hZq FZq NZq; (try dsimp only at NZq); (try k_sweep)) | walk1 | (dsimp only; first | ((first | (with_reducible show wpAny _ _ (storeName _ (Str.ofString "number") _) _ _ _) | (with_reducible show wpAny _ _ (storeName _ (Str.ofString "size") _) _ _ _)); (refine storeX_C (by k_asm) (by k_asm) (by exact rfl) (by k_updF) (by assumption) ?_); intro hZq oZq FZq NZq hdZq; (try dsimp only at NZq); (try k_sweep)) | ((with_reducible show wpAny _ _ (eval _ (compEnvC _ _ _ _)) _ _ _); first | refine ldVarK (by assumption) (by assumption) ?_ | refine ldCellK rfl (show CellOf _ _ _ by assumption) ?_ | refine nameC_K (show Kp _ _ by assumption) (by assumption) (by assumption) (by k_is) ?_) | ((with_reducible show wpAny _ _ (subscriptTail _ _ (Value.ref _) (Value.int _ _)) _ _ _); refine ditem_tail (by assumption) (by assumption) ?_) | ((with_reducible show wpAny _ _ (call (Value.builtin "list.append") [Value.ref _, _]) _ _ _); refine app_N (by k_asm) (by k_asm) (by k_updF) (by first | assumption | exact leK (by assumption) (by exact rfl) | omega) ?_; intro hZq FZq NZq; (try dsimp only at NZq); (try k_sweep)) | ((with_reducible show wpAny _ _ (call (Value.builtin "list.pop") [Value.ref _]) _ _ _); refine pop_N (by k_asm) (by k_asm) (by k_updF) (by assumption) (by first | assumption | exact leK (by assumption) (by exact rfl) | omega) ?_; intro hZq FZq NZq; (try dsimp only at NZq); (try k_sweep)) | walk1))
  refine init_spec G F₁ N₁ (hBf.le (Nat.le_of_ble_eq_true rfl) (Nat.le_of_ble_eq_true rfl)) ?_
  intro h₂ tk₂ x dx d od t1 t2 t3 t4 t5 t6 F₂ N₂ hod hlo lx1 lx2 lx3
  have lL1 : @LT.lt Nat _ (L' + 1 + 1) dx := lx1 _ (.head _)
  have lL2 : @LT.lt Nat _ (L' + 1) dx := lx1 _ (.tail _ (.head _))
  have lL : @LT.lt Nat _ L dx := lx1 _ (.tail _ (.tail _ (.head _)))
  have lnews : ∀ p ∈ news, @LT.lt Nat _ p.1 dx := fun p hp => lx1 p (.tail _ (.tail _ (.tail _ hp)))
  clear lx1
  repeat' (first | ((first | (with_reducible show wpAny _ _ (storeName _ (Str.ofString "number") _) _ _ _) | (with_reducible show wpAny _ _ (storeName _ (Str.ofString "size") _) _ _ _)); (refine storeX_C (by k_asm) (by k_asm) (by exact rfl) (by k_updF) (by assumption) ?_); intro hZq oZq FZq NZq hdZq; (try dsimp only at NZq); (try k_sweep)) | ((with_reducible show wpAny _ _ (eval _ (compEnvC _ _ _ _)) _ _ _); first | refine ldVarK (by assumption) (by assumption) ?_ | refine ldCellK rfl (show CellOf _ _ _ by assumption) ?_ | refine nameC_K (show Kp _ _ by assumption) (by assumption) (by assumption) (by k_is) ?_) | ((with_reducible show wpAny _ _ (subscriptTail _ _ (Value.ref _) (Value.int _ _)) _ _ _); refine ditem_tail (by assumption) (by assumption) ?_) | ((with_reducible show wpAny _ _ (call (Value.builtin "list.append") [Value.ref _, _]) _ _ _); refine app_N (by k_asm) (by k_asm) (by k_updF) (by first | assumption | exact leK (by assumption) (by exact rfl) | omega) ?_; intro hZq FZq NZq; (try dsimp only at NZq); (try k_sweep)) | ((with_reducible show wpAny _ _ (call (Value.builtin "list.pop") [Value.ref _]) _ _ _); refine pop_N (by k_asm) (by k_asm) (by k_updF) (by assumption) (by first | assumption | exact leK (by assumption) (by exact rfl) | omega) ?_; intro hZq FZq NZq; (try dsimp only at NZq); (try k_sweep)) | walk1 | (dsimp only; first | ((first | (with_reducible show wpAny _ _ (storeName _ (Str.ofString "number") _) _ _ _) | (with_reducible show wpAny _ _ (storeName _ (Str.ofString "size") _) _ _ _)); (refine storeX_C (by k_asm) (by k_asm) (by exact rfl) (by k_updF) (by assumption) ?_); intro hZq oZq FZq NZq hdZq; (try dsimp only at NZq); (try k_sweep)) | ((with_reducible show wpAny _ _ (eval _ (compEnvC _ _ _ _)) _ _ _); first | refine ldVarK (by assumption) (by assumption) ?_ | refine ldCellK rfl (show CellOf _ _ _ by assumption) ?_ | refine nameC_K (show Kp _ _ by assumption) (by assumption) (by assumption) (by k_is) ?_) | ((with_reducible show wpAny _ _ (subscriptTail _ _ (Value.ref _) (Value.int _ _)) _ _ _); refine ditem_tail (by assumption) (by assumption) ?_) | ((with_reducible show wpAny _ _ (call (Value.builtin "list.append") [Value.ref _, _]) _ _ _); refine app_N (by k_asm) (by k_asm) (by k_updF) (by first | assumption | exact leK (by assumption) (by exact rfl) | omega) ?_; intro hZq FZq NZq; (try dsimp only at NZq); (try k_sweep)) | ((with_reducible show wpAny _ _ (call (Value.builtin "list.pop") [Value.ref _]) _ _ _); refine pop_N (by k_asm) (by k_asm) (by k_updF) (by assumption) (by first | assumption | exact leK (by assumption) (by exact rfl) | omega) ?_; intro hZq FZq NZq; (try dsimp only at NZq); (try k_sweep)) | walk1))
  refine hn₁ _ ?_
  clear hn₁ hr₁ hb₁ hc₁
  try dsimp only
  rename Fr _ _ _ _ => F₃
  rename News _ _ _ _ => N₃
  have hl₃ : ∀ h n₁, News hb L' h n₁ → (a, W.listOf vs.toArray nr) ∈ n₁ → h.IsList a vs.toArray := fun h n₁ N hm => News.isList N hm
  refine execs_seq ?_
  intro Q₁ hn₁ hr₁ hb₁ hc₁
  refine wpAny_For ?_ (by intro _; rfl)
  refine opq ?_
  intro Q₄ h₄
  repeat' (first | ((first | (with_reducible show wpAny _ _ (storeName _ (Str.ofString "number") _) _ _ _) | (with_reducible show wpAny _ _ (storeName _ (Str.ofString "size") _) _ _ _)); (refine storeX_C (by k_asm) (by k_asm) (by exact rfl) (by k_updF) (by assumption) ?_); intro hZq oZq FZq NZq hdZq; (try dsimp only at NZq); (try k_sweep)) | ((with_reducible show wpAny _ _ (eval _ (compEnvC _ _ _ _)) _ _ _); first | refine ldVarK (by assumption) (by assumption) ?_ | refine ldCellK rfl (show CellOf _ _ _ by assumption) ?_ | refine nameC_K (show Kp _ _ by assumption) (by assumption) (by assumption) (by k_is) ?_) | ((with_reducible show wpAny _ _ (subscriptTail _ _ (Value.ref _) (Value.int _ _)) _ _ _); refine ditem_tail (by assumption) (by assumption) ?_) | ((with_reducible show wpAny _ _ (call (Value.builtin "list.append") [Value.ref _, _]) _ _ _); refine app_N (by k_asm) (by k_asm) (by k_updF) (by first | assumption | exact leK (by assumption) (by exact rfl) | omega) ?_; intro hZq FZq NZq; (try dsimp only at NZq); (try k_sweep)) | ((with_reducible show wpAny _ _ (call (Value.builtin "list.pop") [Value.ref _]) _ _ _); refine pop_N (by k_asm) (by k_asm) (by k_updF) (by assumption) (by first | assumption | exact leK (by assumption) (by exact rfl) | omega) ?_; intro hZq FZq NZq; (try dsimp only at NZq); (try k_sweep)) | walk1 | (dsimp only; first | ((first | (with_reducible show wpAny _ _ (storeName _ (Str.ofString "number") _) _ _ _) | (with_reducible show wpAny _ _ (storeName _ (Str.ofString "size") _) _ _ _)); (refine storeX_C (by k_asm) (by k_asm) (by exact rfl) (by k_updF) (by assumption) ?_); intro hZq oZq FZq NZq hdZq; (try dsimp only at NZq); (try k_sweep)) | ((with_reducible show wpAny _ _ (eval _ (compEnvC _ _ _ _)) _ _ _); first | refine ldVarK (by assumption) (by assumption) ?_ | refine ldCellK rfl (show CellOf _ _ _ by assumption) ?_ | refine nameC_K (show Kp _ _ by assumption) (by assumption) (by assumption) (by k_is) ?_) | ((with_reducible show wpAny _ _ (subscriptTail _ _ (Value.ref _) (Value.int _ _)) _ _ _); refine ditem_tail (by assumption) (by assumption) ?_) | ((with_reducible show wpAny _ _ (call (Value.builtin "list.append") [Value.ref _, _]) _ _ _); refine app_N (by k_asm) (by k_asm) (by k_updF) (by first | assumption | exact leK (by assumption) (by exact rfl) | omega) ?_; intro hZq FZq NZq; (try dsimp only at NZq); (try k_sweep)) | ((with_reducible show wpAny _ _ (call (Value.builtin "list.pop") [Value.ref _]) _ _ _); refine pop_N (by k_asm) (by k_asm) (by k_updF) (by assumption) (by first | assumption | exact leK (by assumption) (by exact rfl) | omega) ?_; intro hZq FZq NZq; (try dsimp only at NZq); (try k_sweep)) | walk1))
  refine h₄ _ _ ?_
  clear h₄
  have N₄ := News.sub (l' := (L' + 1, on) :: (L' + 1 + 1, os) :: (L, oL) :: (x, instObj 137 dx) :: (dx, soDict w t1 t2 t3 t4 d .none (.int 0 t5) (.int 0 t6)) :: (d, od) :: (nodesLed [] ++ news)) N₃ (by
    simp only [nodesLed, List.flatMap_nil, List.nil_append]; ((repeat' (first | exact List.forall_mem_nil _ | (refine fmc (by k_memK) ?_) | (intro p hp; k_ownIn)))))
  clear N₃
  refine for_list hBh (hl₃ _ _ N₄ (by simp [hrow])) F₃ N₄ (PlA w L' L a x dx d os oL t1 t2 t3 t4 t5 t6 news row) ?_ ?_ ?_ ?_ ?_
  · focus (rintro I i m₁ news₁ h hP0 _ N; refine hid fun hGo => ?_; rcases hP0 with ⟨_, ns, od, on, vn, _, _, rfl, _⟩; all_goals (refine hGo ?_; clear hGo))
    exact hl₃ _ _ N (by simp [hrow])
  · focus (rintro I i m₁ news₁ hP0; refine hid fun hGo => ?_; rcases hP0 with ⟨hdI, ns, od, on, vn, P, _, rfl, _⟩; all_goals (refine hGo ?_; clear hGo))
    have low : ∀ b : Nat, @LT.lt Nat _ b dx → @Ne Nat b I := fun b h => Nat.ne_of_lt (Nat.lt_trans h (Nat.lt_trans lx2 (Nat.lt_trans lx3 hdI)))
    exact fmc (low _ lL2) (fmc (low _ lL1) (fmc (low _ lL) (fmc (Nat.ne_of_lt (Nat.lt_trans lx3 hdI)) (fmc (Nat.ne_of_lt (Nat.lt_trans lx2 (Nat.lt_trans lx3 hdI))) (fmc (Nat.ne_of_lt hdI) (fma (fun p hp => Nat.ne_of_gt (led_lo P.hlo p hp)) fun p hp => low _ (lnews p hp)))))))
  · intro I hI _ _
    exact ⟨hI (d, od) (.tail _ (.tail _ (.tail _ (.tail _ (.tail _ (.head _)))))), [], od, on, none, ⟨hod, ⟨fun n h => (nomatch h), List.Pairwise.nil, List.Pairwise.nil⟩, rfl, fun a h => (nomatch h)⟩, hon, rfl, rfl⟩
  · focus (rintro I i v m₁ news₁ h tk oI _ _ _ hv hP0 F₅ N₆; refine hid fun hGo => ?_; rcases hP0 with ⟨hdI, ns, od, on, vn, P, hon, rfl, rfl⟩; all_goals (refine hGo ?_; clear hGo))
    focus (refine hid fun hGo => ?_; obtain ⟨k, t, hk, rfl⟩ := ints_at hi hv; all_goals (refine hGo ?_; clear hGo))
    have ldI : @LT.lt Nat _ dx I := Nat.lt_trans lx2 (Nat.lt_trans lx3 hdI)
    have hLn : @LT.lt Nat _ L (L' + 1) := Nat.lt_trans hL (Nat.lt_succ_self _)
    have e1 : NeH (L' + 1) I := Nat.ne_of_lt (Nat.lt_trans lL2 ldI)
    have e2 : NeH (L' + 1) (L' + 1 + 1) := Nat.ne_of_lt (Nat.lt_succ_self _)
    have e3 : NeH (L' + 1) L := Nat.ne_of_gt hLn
    have e4 : NeH (L' + 1) x := Nat.ne_of_lt (Nat.lt_trans lL2 lx2)
    have e5 : NeH (L' + 1) dx := Nat.ne_of_lt lL2
    have e6 : NeH (L' + 1) d := Nat.ne_of_lt (Nat.lt_trans lL2 (Nat.lt_trans lx2 lx3))
    have e7 : ∀ p ∈ nodesLed ns ++ news, p.1 ≠ L' + 1 := fma (fun p hp => Nat.ne_of_gt (Nat.lt_trans (Nat.lt_trans lL2 ldI) (led_lo P.hlo p hp))) fun p hp => Nat.ne_of_lt (Nat.lt_trans (hN p hp) (Nat.lt_succ_self _))
    refine opq ?_
    intro Q₅ h₅
    repeat' (first | ((first | (with_reducible show wpAny _ _ (storeName _ (Str.ofString "number") _) _ _ _) | (with_reducible show wpAny _ _ (storeName _ (Str.ofString "size") _) _ _ _)); (refine storeX_C (by k_asm) (by k_asm) (by exact rfl) (by k_updF) (by assumption) ?_); intro hZq oZq FZq NZq hdZq; (try dsimp only at NZq); (try k_sweep)) | ((with_reducible show wpAny _ _ (eval _ (compEnvC _ _ _ _)) _ _ _); first | refine ldVarK (by assumption) (by assumption) ?_ | refine ldCellK rfl (show CellOf _ _ _ by assumption) ?_ | refine nameC_K (show Kp _ _ by assumption) (by assumption) (by assumption) (by k_is) ?_) | ((with_reducible show wpAny _ _ (subscriptTail _ _ (Value.ref _) (Value.int _ _)) _ _ _); refine ditem_tail (by assumption) (by assumption) ?_) | ((with_reducible show wpAny _ _ (call (Value.builtin "list.append") [Value.ref _, _]) _ _ _); refine app_N (by k_asm) (by k_asm) (by k_updF) (by first | assumption | exact leK (by assumption) (by exact rfl) | omega) ?_; intro hZq FZq NZq; (try dsimp only at NZq); (try k_sweep)) | ((with_reducible show wpAny _ _ (call (Value.builtin "list.pop") [Value.ref _]) _ _ _); refine pop_N (by k_asm) (by k_asm) (by k_updF) (by assumption) (by first | assumption | exact leK (by assumption) (by exact rfl) | omega) ?_; intro hZq FZq NZq; (try dsimp only at NZq); (try k_sweep)) | walk1 | (dsimp only; first | ((first | (with_reducible show wpAny _ _ (storeName _ (Str.ofString "number") _) _ _ _) | (with_reducible show wpAny _ _ (storeName _ (Str.ofString "size") _) _ _ _)); (refine storeX_C (by k_asm) (by k_asm) (by exact rfl) (by k_updF) (by assumption) ?_); intro hZq oZq FZq NZq hdZq; (try dsimp only at NZq); (try k_sweep)) | ((with_reducible show wpAny _ _ (eval _ (compEnvC _ _ _ _)) _ _ _); first | refine ldVarK (by assumption) (by assumption) ?_ | refine ldCellK rfl (show CellOf _ _ _ by assumption) ?_ | refine nameC_K (show Kp _ _ by assumption) (by assumption) (by assumption) (by k_is) ?_) | ((with_reducible show wpAny _ _ (subscriptTail _ _ (Value.ref _) (Value.int _ _)) _ _ _); refine ditem_tail (by assumption) (by assumption) ?_) | ((with_reducible show wpAny _ _ (call (Value.builtin "list.append") [Value.ref _, _]) _ _ _); refine app_N (by k_asm) (by k_asm) (by k_updF) (by first | assumption | exact leK (by assumption) (by exact rfl) | omega) ?_; intro hZq FZq NZq; (try dsimp only at NZq); (try k_sweep)) | ((with_reducible show wpAny _ _ (call (Value.builtin "list.pop") [Value.ref _]) _ _ _); refine pop_N (by k_asm) (by k_asm) (by k_updF) (by assumption) (by first | assumption | exact leK (by assumption) (by exact rfl) | omega) ?_; intro hZq FZq NZq; (try dsimp only at NZq); (try k_sweep)) | walk1))
    refine h₅ _ _ ?_
    clear h₅
    refine execs_seq ?_
    intro Q₅ hn₅ hr₅ hb₅ hc₅
    try dsimp only
    rename Fr _ _ _ _ => F₇
    rename News _ _ _ _ => N₇
    rename _ = Data.cell (some _) => hon'
    have N₈ := News.sub (l' := (x, instObj 137 dx) :: (dx, soDict w t1 t2 t3 t4 d .none (.int 0 t5) (.int 0 t6)) :: (d, od) :: ((I, oI) :: (L' + 1, _) :: (L' + 1 + 1, os) :: (L, oL) :: (nodesLed ns ++ news))) N₇ (by ((repeat' (first | exact List.forall_mem_nil _ | (refine fmc (by k_memK) ?_) | (intro p hp; k_ownIn)))))
    repeat' (first | ((first | (with_reducible show wpAny _ _ (storeName _ (Str.ofString "number") _) _ _ _) | (with_reducible show wpAny _ _ (storeName _ (Str.ofString "size") _) _ _ _)); (refine storeX_C (by k_asm) (by k_asm) (by exact rfl) (by k_updF) (by assumption) ?_); intro hZq oZq FZq NZq hdZq; (try dsimp only at NZq); (try k_sweep)) | ((with_reducible show wpAny _ _ (eval _ (compEnvC _ _ _ _)) _ _ _); first | refine ldVarK (by assumption) (by assumption) ?_ | refine ldCellK rfl (show CellOf _ _ _ by assumption) ?_ | refine nameC_K (show Kp _ _ by assumption) (by assumption) (by assumption) (by k_is) ?_) | ((with_reducible show wpAny _ _ (subscriptTail _ _ (Value.ref _) (Value.int _ _)) _ _ _); refine ditem_tail (by assumption) (by assumption) ?_) | ((with_reducible show wpAny _ _ (call (Value.builtin "list.append") [Value.ref _, _]) _ _ _); refine app_N (by k_asm) (by k_asm) (by k_updF) (by first | assumption | exact leK (by assumption) (by exact rfl) | omega) ?_; intro hZq FZq NZq; (try dsimp only at NZq); (try k_sweep)) | ((with_reducible show wpAny _ _ (call (Value.builtin "list.pop") [Value.ref _]) _ _ _); refine pop_N (by k_asm) (by k_asm) (by k_updF) (by assumption) (by first | assumption | exact leK (by assumption) (by exact rfl) | omega) ?_; intro hZq FZq NZq; (try dsimp only at NZq); (try k_sweep)) | walk1 | (dsimp only; first | ((first | (with_reducible show wpAny _ _ (storeName _ (Str.ofString "number") _) _ _ _) | (with_reducible show wpAny _ _ (storeName _ (Str.ofString "size") _) _ _ _)); (refine storeX_C (by k_asm) (by k_asm) (by exact rfl) (by k_updF) (by assumption) ?_); intro hZq oZq FZq NZq hdZq; (try dsimp only at NZq); (try k_sweep)) | ((with_reducible show wpAny _ _ (eval _ (compEnvC _ _ _ _)) _ _ _); first | refine ldVarK (by assumption) (by assumption) ?_ | refine ldCellK rfl (show CellOf _ _ _ by assumption) ?_ | refine nameC_K (show Kp _ _ by assumption) (by assumption) (by assumption) (by k_is) ?_) | ((with_reducible show wpAny _ _ (subscriptTail _ _ (Value.ref _) (Value.int _ _)) _ _ _); refine ditem_tail (by assumption) (by assumption) ?_) | ((with_reducible show wpAny _ _ (call (Value.builtin "list.append") [Value.ref _, _]) _ _ _); refine app_N (by k_asm) (by k_asm) (by k_updF) (by first | assumption | exact leK (by assumption) (by exact rfl) | omega) ?_; intro hZq FZq NZq; (try dsimp only at NZq); (try k_sweep)) | ((with_reducible show wpAny _ _ (call (Value.builtin "list.pop") [Value.ref _]) _ _ _); refine pop_N (by k_asm) (by k_asm) (by k_updF) (by assumption) (by first | assumption | exact leK (by assumption) (by exact rfl) | omega) ?_; intro hZq FZq NZq; (try dsimp only at NZq); (try k_sweep)) | walk1))
    try dsimp only
    focus (refine hid fun hGo => ?_; obtain ⟨hvn, hkl⟩ := P.fresh hnd hk; all_goals (refine hGo ?_; clear hGo))
    have hd' : ∀ b : Nat, @LT.lt Nat _ b dx → @Ne Nat b d := fun b h => Nat.ne_of_lt (Nat.lt_trans h (Nat.lt_trans lx2 lx3))
    refine add_new G (hBf.le (Nat.le_of_ble_eq_true rfl) (Nat.le_of_ble_eq_true rfl)) F₇ N₈ P.hod hlo hvn (leK (Nat.le_trans hkl hr63) rfl) (Nat.ne_of_lt lx3) (Nat.ne_of_lt (Nat.lt_trans lx2 lx3)) ?_ ?_
    · refine fmc (Nat.ne_of_gt hdI) (fmc (hd' _ lL2) (fmc (hd' _ lL1) (fmc (hd' _ lL) ?_)))
      intro p hp
      try simp only [List.nil_append, List.append] at hp
      focus (refine hid fun hGo => ?_; rcases List.mem_append.mp hp with hp | hp; all_goals (refine hGo ?_; clear hGo))
      · exact Nat.ne_of_gt (Nat.lt_trans hdI (led_lo P.hlo p hp))
      · exact hd' _ (lnews p hp)
    · intro h₃ tk₃ a' dxn l t0 od' F₉ N₉ hod' g1 g2 g3 g4 g5 g6 g7
      refine hn₅ _ (wpAny_execs_nil ?_)
      refine TurnEnd.go F₉ (News.sub N₉ (snoc_ledger (H := [(L' + 1, _), (L' + 1 + 1, os), (L, oL)]) (xs := [(x, instObj 137 dx), (dx, soDict w t1 t2 t3 t4 d .none (.int 0 t5) (.int 0 t6)), (d, od')]) (n := ⟨k, t, t, a', dxn, l, 0, t0, #[], 0⟩))) ⟨hdI, _, od', _, _, PS.new (t := t) (t0 := t0) P hnd hk hod' (fun p hp => g1 p (by simp [hp])) (g1 (I, oI) (.head _)) g6 g7, hon', rfl, rfl⟩
  · focus (rintro I m₁ news₁ h tk hP0 F₅ N₆; refine hid fun hGo => ?_; rcases hP0 with ⟨hdI, ns, od, on, vn, P, hon, rfl, rfl⟩; all_goals (refine hGo ?_; clear hGo))
    refine hn₁ _ ?_
    clear hn₁ hr₁ hb₁ hc₁
    rw [hi.length, List.take_length] at P
    refine execs_seq ?_
    intro Q₁ hn₁ hr₁ hb₁ hc₁
    have hG5 := G.keeps F₅.keep
    (first | ((first | (with_reducible show wpAny _ _ (storeName _ (Str.ofString "number") _) _ _ _) | (with_reducible show wpAny _ _ (storeName _ (Str.ofString "size") _) _ _ _)); (refine storeX_C (by k_asm) (by k_asm) (by exact rfl) (by k_updF) (by assumption) ?_); intro hZq oZq FZq NZq hdZq; (try dsimp only at NZq); (try k_sweep)) | ((with_reducible show wpAny _ _ (eval _ (compEnvC _ _ _ _)) _ _ _); first | refine ldVarK (by assumption) (by assumption) ?_ | refine ldCellK rfl (show CellOf _ _ _ by assumption) ?_ | refine nameC_K (show Kp _ _ by assumption) (by assumption) (by assumption) (by k_is) ?_) | ((with_reducible show wpAny _ _ (subscriptTail _ _ (Value.ref _) (Value.int _ _)) _ _ _); refine ditem_tail (by assumption) (by assumption) ?_) | ((with_reducible show wpAny _ _ (call (Value.builtin "list.append") [Value.ref _, _]) _ _ _); refine app_N (by k_asm) (by k_asm) (by k_updF) (by first | assumption | exact leK (by assumption) (by exact rfl) | omega) ?_; intro hZq FZq NZq; (try dsimp only at NZq); (try k_sweep)) | ((with_reducible show wpAny _ _ (call (Value.builtin "list.pop") [Value.ref _]) _ _ _); refine pop_N (by k_asm) (by k_asm) (by k_updF) (by assumption) (by first | assumption | exact leK (by assumption) (by exact rfl) | omega) ?_; intro hZq FZq NZq; (try dsimp only at NZq); (try k_sweep)) | walk1)
    refine wpAny_DictComp_free (cl := []) (intKind PP w) (fun _ => true) (fun v (k : Int) => ∃ t, v = Value.int k t) (fun v y => ∃ k t t', v = Value.int k t ∧ y = Value.int (hbI k) t') (by with_unfolding_all rfl) (by decide) (by with_unfolding_all rfl) (by decide) (by with_unfolding_all rfl) ?_ (by intro _; with_unfolding_all rfl)
    (first | ((first | (with_reducible show wpAny _ _ (storeName _ (Str.ofString "number") _) _ _ _) | (with_reducible show wpAny _ _ (storeName _ (Str.ofString "size") _) _ _ _)); (refine storeX_C (by k_asm) (by k_asm) (by exact rfl) (by k_updF) (by assumption) ?_); intro hZq oZq FZq NZq hdZq; (try dsimp only at NZq); (try k_sweep)) | ((with_reducible show wpAny _ _ (eval _ (compEnvC _ _ _ _)) _ _ _); first | refine ldVarK (by assumption) (by assumption) ?_ | refine ldCellK rfl (show CellOf _ _ _ by assumption) ?_ | refine nameC_K (show Kp _ _ by assumption) (by assumption) (by assumption) (by k_is) ?_) | ((with_reducible show wpAny _ _ (subscriptTail _ _ (Value.ref _) (Value.int _ _)) _ _ _); refine ditem_tail (by assumption) (by assumption) ?_) | ((with_reducible show wpAny _ _ (call (Value.builtin "list.append") [Value.ref _, _]) _ _ _); refine app_N (by k_asm) (by k_asm) (by k_updF) (by first | assumption | exact leK (by assumption) (by exact rfl) | omega) ?_; intro hZq FZq NZq; (try dsimp only at NZq); (try k_sweep)) | ((with_reducible show wpAny _ _ (call (Value.builtin "list.pop") [Value.ref _]) _ _ _); refine pop_N (by k_asm) (by k_asm) (by k_updF) (by assumption) (by first | assumption | exact leK (by assumption) (by exact rfl) | omega) ?_; intro hZq FZq NZq; (try dsimp only at NZq); (try k_sweep)) | walk1)
    try dsimp only
    have hl5 : h.IsList a vs.toArray := hl₃ _ _ N₆ (by simp [hrow])
    have hlt5 : @LT.lt Nat _ a h.objs.size := by obtain ⟨_, e, _⟩ := hl5; exact Heap.lt_size e
    refine wpAny_pyIter_list hl5 (EI6 h.objs.size [h.objs.size, a] [h.objs.size] vs.toArray.size _ _ ⟨rfl, Walks.list hBh _ _ (Nat.ne_of_lt hlt5) vs.toArray, (by rw [sizeLine_eq, List.size_toArray]; first | exact leK (by assumption) (by exact rfl) | omega), ⟨⟨_, Heap.get?_push_size _ rfl, rfl, rfl⟩, hl5.push _⟩, ?_, ⟨?_, ?_, ?_⟩, ?_⟩)
    · intro b hb
      show @LT.lt Nat _ b (h.push _).objs.size
      rw [Heap.size_push]
      focus (refine hid fun hGo => ?_; rcases List.mem_cons.mp hb with rfl | hb; all_goals (refine hGo ?_; clear hGo))
      · exact Nat.lt_succ_self _
      · rw [List.mem_singleton.mp hb]; exact Nat.lt_succ_of_lt hlt5
    · rintro C i v s₃ m₃ E' hP hn hm hk
      exact wpAny_tests_nil ⟨rfl, _, _, rfl, fun _ _ e => e⟩
    · rintro C i v s₃ m₃ E' hP _ hn hm hk
      focus (refine hid fun hGo => ?_; obtain ⟨k, t, _, rfl⟩ := ints_at hi (show vs[i]? = some v by simpa using hP); all_goals (refine hGo ?_; clear hGo))
      refine ldVarK hn hm ?_
      exact ⟨⟨k, intKind_is PP w k t, t, rfl⟩, _, _, rfl, fun _ _ e => e⟩
    · rintro C i v s₃ m₃ E' hP _ hn hm hk
      focus (refine hid fun hGo => ?_; obtain ⟨k, t, _, rfl⟩ := ints_at hi (show vs[i]? = some v by simpa using hP); all_goals (refine hGo ?_; clear hGo))
      have up : Kp h s₃.heap := fun b o e => hk b o (fun q => by
        rw [List.mem_singleton.mp q] at e
        exact absurd (Heap.lt_size e) (Nat.lt_irrefl _)) (Heap.get?_push_of_some _ e)
      refine opq ?_
      intro Q₇ h₇
      have F₇ := Fr.keeps F₅ up
      have hG7 := G.keeps F₇.keep
      have N₇ := News.grown N₆ up
      have X₅ := hG5.X
      focus (refine hid fun hGo => ?_; obtain ⟨mg₅, mb₅, T₅⟩ := hG5.T; all_goals (refine hGo ?_; clear hGo))
      clear F₅ N₆
      repeat' (first | ((first | (with_reducible show wpAny _ _ (storeName _ (Str.ofString "number") _) _ _ _) | (with_reducible show wpAny _ _ (storeName _ (Str.ofString "size") _) _ _ _)); (refine storeX_C (by k_asm) (by k_asm) (by exact rfl) (by k_updF) (by assumption) ?_); intro hZq oZq FZq NZq hdZq; (try dsimp only at NZq); (try k_sweep)) | ((with_reducible show wpAny _ _ (eval _ (compEnvC _ _ _ _)) _ _ _); first | refine ldVarK (by assumption) (by assumption) ?_ | refine ldCellK rfl (show CellOf _ _ _ by assumption) ?_ | refine nameC_K (show Kp _ _ by assumption) (by assumption) (by assumption) (by k_is) ?_) | ((with_reducible show wpAny _ _ (subscriptTail _ _ (Value.ref _) (Value.int _ _)) _ _ _); refine ditem_tail (by assumption) (by assumption) ?_) | ((with_reducible show wpAny _ _ (call (Value.builtin "list.append") [Value.ref _, _]) _ _ _); refine app_N (by k_asm) (by k_asm) (by k_updF) (by first | assumption | exact leK (by assumption) (by exact rfl) | omega) ?_; intro hZq FZq NZq; (try dsimp only at NZq); (try k_sweep)) | ((with_reducible show wpAny _ _ (call (Value.builtin "list.pop") [Value.ref _]) _ _ _); refine pop_N (by k_asm) (by k_asm) (by k_updF) (by assumption) (by first | assumption | exact leK (by assumption) (by exact rfl) | omega) ?_; intro hZq FZq NZq; (try dsimp only at NZq); (try k_sweep)) | walk1 | (dsimp only; first | ((first | (with_reducible show wpAny _ _ (storeName _ (Str.ofString "number") _) _ _ _) | (with_reducible show wpAny _ _ (storeName _ (Str.ofString "size") _) _ _ _)); (refine storeX_C (by k_asm) (by k_asm) (by exact rfl) (by k_updF) (by assumption) ?_); intro hZq oZq FZq NZq hdZq; (try dsimp only at NZq); (try k_sweep)) | ((with_reducible show wpAny _ _ (eval _ (compEnvC _ _ _ _)) _ _ _); first | refine ldVarK (by assumption) (by assumption) ?_ | refine ldCellK rfl (show CellOf _ _ _ by assumption) ?_ | refine nameC_K (show Kp _ _ by assumption) (by assumption) (by assumption) (by k_is) ?_) | ((with_reducible show wpAny _ _ (subscriptTail _ _ (Value.ref _) (Value.int _ _)) _ _ _); refine ditem_tail (by assumption) (by assumption) ?_) | ((with_reducible show wpAny _ _ (call (Value.builtin "list.append") [Value.ref _, _]) _ _ _); refine app_N (by k_asm) (by k_asm) (by k_updF) (by first | assumption | exact leK (by assumption) (by exact rfl) | omega) ?_; intro hZq FZq NZq; (try dsimp only at NZq); (try k_sweep)) | ((with_reducible show wpAny _ _ (call (Value.builtin "list.pop") [Value.ref _]) _ _ _); refine pop_N (by k_asm) (by k_asm) (by k_updF) (by assumption) (by first | assumption | exact leK (by assumption) (by exact rfl) | omega) ?_; intro hZq FZq NZq; (try dsimp only at NZq); (try k_sweep)) | walk1))
      refine high_bit_spec (s := s₃) hG7 (hBf.le (Nat.le_of_ble_eq_true rfl) (Nat.le_of_ble_eq_true rfl)) ?_
      intro h' tk' t' k'
      exact h₇ _ _ ⟨⟨k, t, t', rfl, rfl⟩, h', tk', rfl, k'⟩
    · intro D h' tk' kvs vs' hnew hD hlen hP hF hk
      have e : vs' = vs := by simpa using list_of_places hlen hP
      subst e
      have hsz : ∀ k t, Value.int k t ∈ vs' → ∃ t', valueAt kvs k = some (.int (hbI k) t') := sizes_of ((List.filter_eq_self.mpr fun _ _ => rfl : vs'.filter (fun _ => true) = vs') ▸ hF)
      have up : Kp h h' := fun b o e => hk b o (fun q => by
        rw [List.mem_singleton.mp q] at e
        exact absurd (Heap.lt_size e) (Nat.lt_irrefl _)) (Heap.get?_push_of_some _ e)
      have hDn : ∀ b o, h.get? b = some o → b ≠ D := fun b o e => by
        rintro rfl
        rw [Heap.get?_push_of_some _ e] at hnew; cases hnew
      focus (refine hid fun hGo => ?_; obtain ⟨oD, hoD, hDD⟩ := Heap.dictOf_iff.mp hD; all_goals (refine hGo ?_; clear hGo))
      have F₇ := Fr.keeps F₅ up
      have z0 : ∀ p ∈ (L' + 1, on) :: (L' + 1 + 1, os) :: (L, oL) :: (x, instObj 137 dx) :: (dx, soDict w t1 t2 t3 t4 d .none (.int 0 t5) (.int 0 t6)) :: (d, od) :: (nodesLed ns ++ news), NeH p.1 D := fun p hp => hDn _ _ (N₆ p hp).1
      have N₇ : News hb L' h' ((L' + 1 + 1, os) :: (L' + 1, on) :: (L, oL) :: (D, oD) :: (x, instObj 137 dx) :: (dx, soDict w t1 t2 t3 t4 d .none (.int 0 t5) (.int 0 t6)) :: (d, od) :: (nodesLed ns ++ news)) := by
        have N' := News.grown N₆ up
        refine fmc (N' _ (mat 1 rfl)) (fmc (N' _ (mat 0 rfl)) (fmc (N' _ (mat 2 rfl)) (fmc ?_ fun p hp => N' p (mdrop 3 rfl _ hp))))
        · refine ⟨hoD, ?_, ?_⟩
          · rintro rfl
            focus (refine hid fun hGo => ?_; obtain ⟨o, ho, _⟩ := Fr.obj F₅; all_goals (refine hGo ?_; clear hGo))
            exact hDn _ _ ho rfl
          · cases q : hb.get? D with
            | none => rfl
            | some o => exact absurd rfl (hDn _ _ (F₅.keep _ _ q))
      have c1 : NeH (L' + 1 + 1) D := z0 (L' + 1 + 1, os) (.tail _ (.head _))
      have c2 : NeH (L' + 1) D := z0 (L' + 1, on) (.head _)
      have c3 : NeH L D := z0 (L, oL) (.tail _ (.tail _ (.head _)))
      have c4 : NeH x D := z0 (x, _) (.tail _ (.tail _ (.tail _ (.head _))))
      have c5 : NeH dx D := z0 (dx, _) (.tail _ (.tail _ (.tail _ (.tail _ (.head _)))))
      have c6 : NeH d D := z0 (d, od) (.tail _ (.tail _ (.tail _ (.tail _ (.tail _ (.head _))))))
      have c7 : ∀ p ∈ nodesLed ns ++ news, NeH p.1 D := fun p hp => z0 p (.tail _ (.tail _ (.tail _ (.tail _ (.tail _ (.tail _ hp))))))
      have hLn : @LT.lt Nat _ L (L' + 1) := Nat.lt_trans hL (Nat.lt_succ_self _)
      have ldI : @LT.lt Nat _ dx I := Nat.lt_trans lx2 (Nat.lt_trans lx3 hdI)
      have f1 : NeH (L' + 1 + 1) (L' + 1) := Nat.ne_of_gt (Nat.lt_succ_self _)
      have f2 : NeH (L' + 1 + 1) L := Nat.ne_of_gt (Nat.lt_trans hLn (Nat.lt_succ_self _))
      have f3 : NeH (L' + 1 + 1) x := Nat.ne_of_lt (Nat.lt_trans lL1 lx2)
      have f4 : NeH (L' + 1 + 1) dx := Nat.ne_of_lt lL1
      have f5 : NeH (L' + 1 + 1) d := Nat.ne_of_lt (Nat.lt_trans lL1 (Nat.lt_trans lx2 lx3))
      have f6 : ∀ p ∈ nodesLed ns ++ news, p.1 ≠ L' + 1 + 1 := fma (fun p hp => Nat.ne_of_gt (Nat.lt_trans (Nat.lt_trans lL1 ldI) (led_lo P.hlo p hp))) fun p hp => Nat.ne_of_lt (Nat.lt_trans (hN p hp) (Nat.lt_trans (Nat.lt_succ_self _) (Nat.lt_succ_self _)))
      clear F₅ N₆ z0 hk hnew hP hF up
      repeat' (first | ((first | (with_reducible show wpAny _ _ (storeName _ (Str.ofString "number") _) _ _ _) | (with_reducible show wpAny _ _ (storeName _ (Str.ofString "size") _) _ _ _)); (refine storeX_C (by k_asm) (by k_asm) (by exact rfl) (by k_updF) (by assumption) ?_); intro hZq oZq FZq NZq hdZq; (try dsimp only at NZq); (try k_sweep)) | ((with_reducible show wpAny _ _ (eval _ (compEnvC _ _ _ _)) _ _ _); first | refine ldVarK (by assumption) (by assumption) ?_ | refine ldCellK rfl (show CellOf _ _ _ by assumption) ?_ | refine nameC_K (show Kp _ _ by assumption) (by assumption) (by assumption) (by k_is) ?_) | ((with_reducible show wpAny _ _ (subscriptTail _ _ (Value.ref _) (Value.int _ _)) _ _ _); refine ditem_tail (by assumption) (by assumption) ?_) | ((with_reducible show wpAny _ _ (call (Value.builtin "list.append") [Value.ref _, _]) _ _ _); refine app_N (by k_asm) (by k_asm) (by k_updF) (by first | assumption | exact leK (by assumption) (by exact rfl) | omega) ?_; intro hZq FZq NZq; (try dsimp only at NZq); (try k_sweep)) | ((with_reducible show wpAny _ _ (call (Value.builtin "list.pop") [Value.ref _]) _ _ _); refine pop_N (by k_asm) (by k_asm) (by k_updF) (by assumption) (by first | assumption | exact leK (by assumption) (by exact rfl) | omega) ?_; intro hZq FZq NZq; (try dsimp only at NZq); (try k_sweep)) | walk1 | (dsimp only; first | ((first | (with_reducible show wpAny _ _ (storeName _ (Str.ofString "number") _) _ _ _) | (with_reducible show wpAny _ _ (storeName _ (Str.ofString "size") _) _ _ _)); (refine storeX_C (by k_asm) (by k_asm) (by exact rfl) (by k_updF) (by assumption) ?_); intro hZq oZq FZq NZq hdZq; (try dsimp only at NZq); (try k_sweep)) | ((with_reducible show wpAny _ _ (eval _ (compEnvC _ _ _ _)) _ _ _); first | refine ldVarK (by assumption) (by assumption) ?_ | refine ldCellK rfl (show CellOf _ _ _ by assumption) ?_ | refine nameC_K (show Kp _ _ by assumption) (by assumption) (by assumption) (by k_is) ?_) | ((with_reducible show wpAny _ _ (subscriptTail _ _ (Value.ref _) (Value.int _ _)) _ _ _); refine ditem_tail (by assumption) (by assumption) ?_) | ((with_reducible show wpAny _ _ (call (Value.builtin "list.append") [Value.ref _, _]) _ _ _); refine app_N (by k_asm) (by k_asm) (by k_updF) (by first | assumption | exact leK (by assumption) (by exact rfl) | omega) ?_; intro hZq FZq NZq; (try dsimp only at NZq); (try k_sweep)) | ((with_reducible show wpAny _ _ (call (Value.builtin "list.pop") [Value.ref _]) _ _ _); refine pop_N (by k_asm) (by k_asm) (by k_updF) (by assumption) (by first | assumption | exact leK (by assumption) (by exact rfl) | omega) ?_; intro hZq FZq NZq; (try dsimp only at NZq); (try k_sweep)) | walk1))
      refine hn₁ _ ?_
      clear hn₁ hr₁ hb₁ hc₁
      try dsimp only
      rename Fr _ _ _ _ => F₈
      rename News _ _ _ _ => N₈
      rename _ = Data.cell (some (Value.ref D)) => hos'
      rename Obj => os'
      clear hos
      refine execs_seq ?_
      intro Q₁ hn₁ hr₁ hb₁ hc₁
      refine wpAny_For ?_ (by intro _; rfl)
      refine opq ?_
      intro Q₄ h₄
      repeat' (first | ((first | (with_reducible show wpAny _ _ (storeName _ (Str.ofString "number") _) _ _ _) | (with_reducible show wpAny _ _ (storeName _ (Str.ofString "size") _) _ _ _)); (refine storeX_C (by k_asm) (by k_asm) (by exact rfl) (by k_updF) (by assumption) ?_); intro hZq oZq FZq NZq hdZq; (try dsimp only at NZq); (try k_sweep)) | ((with_reducible show wpAny _ _ (eval _ (compEnvC _ _ _ _)) _ _ _); first | refine ldVarK (by assumption) (by assumption) ?_ | refine ldCellK rfl (show CellOf _ _ _ by assumption) ?_ | refine nameC_K (show Kp _ _ by assumption) (by assumption) (by assumption) (by k_is) ?_) | ((with_reducible show wpAny _ _ (subscriptTail _ _ (Value.ref _) (Value.int _ _)) _ _ _); refine ditem_tail (by assumption) (by assumption) ?_) | ((with_reducible show wpAny _ _ (call (Value.builtin "list.append") [Value.ref _, _]) _ _ _); refine app_N (by k_asm) (by k_asm) (by k_updF) (by first | assumption | exact leK (by assumption) (by exact rfl) | omega) ?_; intro hZq FZq NZq; (try dsimp only at NZq); (try k_sweep)) | ((with_reducible show wpAny _ _ (call (Value.builtin "list.pop") [Value.ref _]) _ _ _); refine pop_N (by k_asm) (by k_asm) (by k_updF) (by assumption) (by first | assumption | exact leK (by assumption) (by exact rfl) | omega) ?_; intro hZq FZq NZq; (try dsimp only at NZq); (try k_sweep)) | walk1 | (dsimp only; first | ((first | (with_reducible show wpAny _ _ (storeName _ (Str.ofString "number") _) _ _ _) | (with_reducible show wpAny _ _ (storeName _ (Str.ofString "size") _) _ _ _)); (refine storeX_C (by k_asm) (by k_asm) (by exact rfl) (by k_updF) (by assumption) ?_); intro hZq oZq FZq NZq hdZq; (try dsimp only at NZq); (try k_sweep)) | ((with_reducible show wpAny _ _ (eval _ (compEnvC _ _ _ _)) _ _ _); first | refine ldVarK (by assumption) (by assumption) ?_ | refine ldCellK rfl (show CellOf _ _ _ by assumption) ?_ | refine nameC_K (show Kp _ _ by assumption) (by assumption) (by assumption) (by k_is) ?_) | ((with_reducible show wpAny _ _ (subscriptTail _ _ (Value.ref _) (Value.int _ _)) _ _ _); refine ditem_tail (by assumption) (by assumption) ?_) | ((with_reducible show wpAny _ _ (call (Value.builtin "list.append") [Value.ref _, _]) _ _ _); refine app_N (by k_asm) (by k_asm) (by k_updF) (by first | assumption | exact leK (by assumption) (by exact rfl) | omega) ?_; intro hZq FZq NZq; (try dsimp only at NZq); (try k_sweep)) | ((with_reducible show wpAny _ _ (call (Value.builtin "list.pop") [Value.ref _]) _ _ _); refine pop_N (by k_asm) (by k_asm) (by k_updF) (by assumption) (by first | assumption | exact leK (by assumption) (by exact rfl) | omega) ?_; intro hZq FZq NZq; (try dsimp only at NZq); (try k_sweep)) | walk1))
      refine h₄ _ _ ?_
      clear h₄
      have hPk : ∀ (g : List GV) (ns' : List Nd), nodesKvs ns' = nodesKvs ns → ns'.map (·.k) = row := by
        intro g ns' e
        have e1 : ns.map (·.k) = row := by
          rw [view_keys P.hvw]; unfold gStart; rw [List.map_map]
          exact List.map_id _
        have e2 : ∀ l : List Nd, (nodesKvs l).map (·.1) = l.map (·.k) := fun l => by unfold nodesKvs; rw [List.map_map]; rfl
        rw [← e2, e, e2, e1]
      have N₈' := News.sub (l' := (L' + 1, on) :: (L' + 1 + 1, os') :: (L, oL) :: (D, oD) :: (x, instObj 137 dx) :: (dx, soDict w t1 t2 t3 t4 d .none (.int 0 t5) (.int 0 t6)) :: (d, od) :: (nodesLed ns ++ news)) N₈ (by ((repeat' (first | exact List.forall_mem_nil _ | (refine fmc (by k_memK) ?_) | (intro p hp; k_ownIn)))))
      refine for_list hBh (hl₃ _ _ N₈' (by simp [hrow])) F₈ N₈' (PlB w L' L D a x dx d os' oL oD od t1 t2 t3 t4 t5 t6 news row ns) ?_ ?_ ?_ ?_ ?_
      · focus (rintro I₂ i m₁ news₁ h hP0 _ N; refine hid fun hGo => ?_; rcases hP0 with ⟨_, ns₂, on, vn, _, _, _, _, _, rfl, _⟩; all_goals (refine hGo ?_; clear hGo))
        exact hl₃ _ _ N (by simp [hrow])
      · focus (rintro I₂ i m₁ news₁ hP0; refine hid fun hGo => ?_; rcases hP0 with ⟨hI₂, ns₂, on, vn, _, hft, _, _, _, rfl, _⟩; all_goals (refine hGo ?_; clear hGo))
        refine fmc (Nat.ne_of_lt (hI₂ _ (.inr (.inl rfl)))) (fmc (Nat.ne_of_lt (hI₂ _ (.inl rfl))) (fmc (Nat.ne_of_lt (hI₂ _ (.inr (.inr (.inl rfl))))) (fmc (Nat.ne_of_lt (hI₂ _ (.inr (.inr (.inr (.inl rfl)))))) (fmc (Nat.ne_of_lt (hI₂ _ (.inr (.inr (.inr (.inr (.inl rfl))))))) (fmc (Nat.ne_of_lt (hI₂ _ (.inr (.inr (.inr (.inr (.inr (.inl rfl)))))))) (fmc (Nat.ne_of_lt (hI₂ _ (.inr (.inr (.inr (.inr (.inr (.inr (.inl rfl))))))))) ?_))))))
        intro p hp
        try simp only [List.nil_append, List.append] at hp
        focus (refine hid fun hGo => ?_; rcases List.mem_append.mp hp with hp | hp; all_goals (refine hGo ?_; clear hGo))
        · exact Nat.ne_of_lt (hI₂ _ (.inr (.inr (.inr (.inr (.inr (.inr (.inr (.inl (by rw [← hft, nodesFoot_eq]; exact List.mem_map_of_mem hp))))))))))
        · exact Nat.ne_of_lt (hI₂ _ (.inr (.inr (.inr (.inr (.inr (.inr (.inr (.inr (List.mem_map_of_mem hp))))))))))
      · intro I₂ hI₂ _ _
        refine ⟨orE (hI₂ _ (mat 1 rfl)) (orE (hI₂ _ (mat 0 rfl)) (orE (hI₂ _ (mat 2 rfl)) (orE (hI₂ _ (mat 3 rfl)) (orE (hI₂ _ (mat 4 rfl)) (orE (hI₂ _ (mat 5 rfl)) (orE (hI₂ _ (mat 6 rfl)) fun b hb => ?_)))))), ns, on, vn, P.hok, rfl, rfl, P.hvw, hon, rfl, rfl⟩
        · focus (refine hid fun hGo => ?_; rcases hb with hb | hb; all_goals (refine hGo ?_; clear hGo))
          · rw [nodesFoot_eq] at hb
            focus (refine hid fun hGo => ?_; obtain ⟨p, hp, rfl⟩ := List.mem_map.mp hb; all_goals (refine hGo ?_; clear hGo))
            exact hI₂ p (mdrop 7 rfl _ (List.mem_append_left _ hp))
          · focus (refine hid fun hGo => ?_; obtain ⟨p, hp, rfl⟩ := List.mem_map.mp hb; all_goals (refine hGo ?_; clear hGo))
            exact hI₂ p (mdrop 7 rfl _ (List.mem_append_right _ hp))
      · focus (rintro I₂ i v m₁ news₁ h tk oI _ _ _ hv hP0 F₉ N₉; refine hid fun hGo => ?_; rcases hP0 with ⟨hI₂, ns₂, on, vn, hok₂, hft₂, hkv₂, hvw₂, hon, rfl, rfl⟩; all_goals (refine hGo ?_; clear hGo))
        focus (refine hid fun hGo => ?_; obtain ⟨k, t, hk, rfl⟩ := ints_at hi hv; all_goals (refine hGo ?_; clear hGo))
        have e1 : NeH (L' + 1) I₂ := Nat.ne_of_lt (hI₂ _ (.inr (.inl rfl)))
        have e2 : NeH (L' + 1) (L' + 1 + 1) := Nat.ne_of_lt (Nat.lt_succ_self _)
        have e3 : NeH (L' + 1) L := Nat.ne_of_gt hLn
        have e4 : NeH (L' + 1) x := Nat.ne_of_lt (Nat.lt_trans lL2 lx2)
        have e5 : NeH (L' + 1) dx := Nat.ne_of_lt lL2
        have e6 : NeH (L' + 1) d := Nat.ne_of_lt (Nat.lt_trans lL2 (Nat.lt_trans lx2 lx3))
        have e7 : ∀ p ∈ nodesLed ns₂ ++ news, p.1 ≠ L' + 1 := fun p hp => by
          focus (refine hid fun hGo => ?_; rcases List.mem_append.mp hp with hp | hp; all_goals (refine hGo ?_; clear hGo))
          · refine Nat.ne_of_gt (Nat.lt_trans (Nat.lt_trans lL2 ldI) (P.hlo _ ?_))
            rw [← hft₂, nodesFoot_eq]; exact List.mem_map_of_mem hp
          · exact Nat.ne_of_lt (Nat.lt_trans (hN p hp) (Nat.lt_succ_self _))
        refine opq ?_
        intro Q₅ h₅
        repeat' (first | ((first | (with_reducible show wpAny _ _ (storeName _ (Str.ofString "number") _) _ _ _) | (with_reducible show wpAny _ _ (storeName _ (Str.ofString "size") _) _ _ _)); (refine storeX_C (by k_asm) (by k_asm) (by exact rfl) (by k_updF) (by assumption) ?_); intro hZq oZq FZq NZq hdZq; (try dsimp only at NZq); (try k_sweep)) | ((with_reducible show wpAny _ _ (eval _ (compEnvC _ _ _ _)) _ _ _); first | refine ldVarK (by assumption) (by assumption) ?_ | refine ldCellK rfl (show CellOf _ _ _ by assumption) ?_ | refine nameC_K (show Kp _ _ by assumption) (by assumption) (by assumption) (by k_is) ?_) | ((with_reducible show wpAny _ _ (subscriptTail _ _ (Value.ref _) (Value.int _ _)) _ _ _); refine ditem_tail (by assumption) (by assumption) ?_) | ((with_reducible show wpAny _ _ (call (Value.builtin "list.append") [Value.ref _, _]) _ _ _); refine app_N (by k_asm) (by k_asm) (by k_updF) (by first | assumption | exact leK (by assumption) (by exact rfl) | omega) ?_; intro hZq FZq NZq; (try dsimp only at NZq); (try k_sweep)) | ((with_reducible show wpAny _ _ (call (Value.builtin "list.pop") [Value.ref _]) _ _ _); refine pop_N (by k_asm) (by k_asm) (by k_updF) (by assumption) (by first | assumption | exact leK (by assumption) (by exact rfl) | omega) ?_; intro hZq FZq NZq; (try dsimp only at NZq); (try k_sweep)) | walk1 | (dsimp only; first | ((first | (with_reducible show wpAny _ _ (storeName _ (Str.ofString "number") _) _ _ _) | (with_reducible show wpAny _ _ (storeName _ (Str.ofString "size") _) _ _ _)); (refine storeX_C (by k_asm) (by k_asm) (by exact rfl) (by k_updF) (by assumption) ?_); intro hZq oZq FZq NZq hdZq; (try dsimp only at NZq); (try k_sweep)) | ((with_reducible show wpAny _ _ (eval _ (compEnvC _ _ _ _)) _ _ _); first | refine ldVarK (by assumption) (by assumption) ?_ | refine ldCellK rfl (show CellOf _ _ _ by assumption) ?_ | refine nameC_K (show Kp _ _ by assumption) (by assumption) (by assumption) (by k_is) ?_) | ((with_reducible show wpAny _ _ (subscriptTail _ _ (Value.ref _) (Value.int _ _)) _ _ _); refine ditem_tail (by assumption) (by assumption) ?_) | ((with_reducible show wpAny _ _ (call (Value.builtin "list.append") [Value.ref _, _]) _ _ _); refine app_N (by k_asm) (by k_asm) (by k_updF) (by first | assumption | exact leK (by assumption) (by exact rfl) | omega) ?_; intro hZq FZq NZq; (try dsimp only at NZq); (try k_sweep)) | ((with_reducible show wpAny _ _ (call (Value.builtin "list.pop") [Value.ref _]) _ _ _); refine pop_N (by k_asm) (by k_asm) (by k_updF) (by assumption) (by first | assumption | exact leK (by assumption) (by exact rfl) | omega) ?_; intro hZq FZq NZq; (try dsimp only at NZq); (try k_sweep)) | walk1))
        refine h₅ _ _ ?_
        clear h₅
        refine execs_seq ?_
        intro Q₅ hn₅ hr₅ hb₅ hc₅
        try dsimp only
        rename Fr _ _ _ _ => F₁₁
        rename News _ _ _ _ => N₁₁
        rename _ = Data.cell (some (Value.int k t)) => hon'
        repeat' (first | ((first | (with_reducible show wpAny _ _ (storeName _ (Str.ofString "number") _) _ _ _) | (with_reducible show wpAny _ _ (storeName _ (Str.ofString "size") _) _ _ _)); (refine storeX_C (by k_asm) (by k_asm) (by exact rfl) (by k_updF) (by assumption) ?_); intro hZq oZq FZq NZq hdZq; (try dsimp only at NZq); (try k_sweep)) | ((with_reducible show wpAny _ _ (eval _ (compEnvC _ _ _ _)) _ _ _); first | refine ldVarK (by assumption) (by assumption) ?_ | refine ldCellK rfl (show CellOf _ _ _ by assumption) ?_ | refine nameC_K (show Kp _ _ by assumption) (by assumption) (by assumption) (by k_is) ?_) | ((with_reducible show wpAny _ _ (subscriptTail _ _ (Value.ref _) (Value.int _ _)) _ _ _); refine ditem_tail (by assumption) (by assumption) ?_) | ((with_reducible show wpAny _ _ (call (Value.builtin "list.append") [Value.ref _, _]) _ _ _); refine app_N (by k_asm) (by k_asm) (by k_updF) (by first | assumption | exact leK (by assumption) (by exact rfl) | omega) ?_; intro hZq FZq NZq; (try dsimp only at NZq); (try k_sweep)) | ((with_reducible show wpAny _ _ (call (Value.builtin "list.pop") [Value.ref _]) _ _ _); refine pop_N (by k_asm) (by k_asm) (by k_updF) (by assumption) (by first | assumption | exact leK (by assumption) (by exact rfl) | omega) ?_; intro hZq FZq NZq; (try dsimp only at NZq); (try k_sweep)) | walk1 | (dsimp only; first | ((first | (with_reducible show wpAny _ _ (storeName _ (Str.ofString "number") _) _ _ _) | (with_reducible show wpAny _ _ (storeName _ (Str.ofString "size") _) _ _ _)); (refine storeX_C (by k_asm) (by k_asm) (by exact rfl) (by k_updF) (by assumption) ?_); intro hZq oZq FZq NZq hdZq; (try dsimp only at NZq); (try k_sweep)) | ((with_reducible show wpAny _ _ (eval _ (compEnvC _ _ _ _)) _ _ _); first | refine ldVarK (by assumption) (by assumption) ?_ | refine ldCellK rfl (show CellOf _ _ _ by assumption) ?_ | refine nameC_K (show Kp _ _ by assumption) (by assumption) (by assumption) (by k_is) ?_) | ((with_reducible show wpAny _ _ (subscriptTail _ _ (Value.ref _) (Value.int _ _)) _ _ _); refine ditem_tail (by assumption) (by assumption) ?_) | ((with_reducible show wpAny _ _ (call (Value.builtin "list.append") [Value.ref _, _]) _ _ _); refine app_N (by k_asm) (by k_asm) (by k_updF) (by first | assumption | exact leK (by assumption) (by exact rfl) | omega) ?_; intro hZq FZq NZq; (try dsimp only at NZq); (try k_sweep)) | ((with_reducible show wpAny _ _ (call (Value.builtin "list.pop") [Value.ref _]) _ _ _); refine pop_N (by k_asm) (by k_asm) (by k_updF) (by assumption) (by first | assumption | exact leK (by assumption) (by exact rfl) | omega) ?_; intro hZq FZq NZq; (try dsimp only at NZq); (try k_sweep)) | walk1))
        refine star_call ?_
        iterate 2 (first | ((first | (with_reducible show wpAny _ _ (storeName _ (Str.ofString "number") _) _ _ _) | (with_reducible show wpAny _ _ (storeName _ (Str.ofString "size") _) _ _ _)); (refine storeX_C (by k_asm) (by k_asm) (by exact rfl) (by k_updF) (by assumption) ?_); intro hZq oZq FZq NZq hdZq; (try dsimp only at NZq); (try k_sweep)) | ((with_reducible show wpAny _ _ (eval _ (compEnvC _ _ _ _)) _ _ _); first | refine ldVarK (by assumption) (by assumption) ?_ | refine ldCellK rfl (show CellOf _ _ _ by assumption) ?_ | refine nameC_K (show Kp _ _ by assumption) (by assumption) (by assumption) (by k_is) ?_) | ((with_reducible show wpAny _ _ (subscriptTail _ _ (Value.ref _) (Value.int _ _)) _ _ _); refine ditem_tail (by assumption) (by assumption) ?_) | ((with_reducible show wpAny _ _ (call (Value.builtin "list.append") [Value.ref _, _]) _ _ _); refine app_N (by k_asm) (by k_asm) (by k_updF) (by first | assumption | exact leK (by assumption) (by exact rfl) | omega) ?_; intro hZq FZq NZq; (try dsimp only at NZq); (try k_sweep)) | ((with_reducible show wpAny _ _ (call (Value.builtin "list.pop") [Value.ref _]) _ _ _); refine pop_N (by k_asm) (by k_asm) (by k_updF) (by assumption) (by first | assumption | exact leK (by assumption) (by exact rfl) | omega) ?_; intro hZq FZq NZq; (try dsimp only at NZq); (try k_sweep)) | walk1 | (dsimp only; first | ((first | (with_reducible show wpAny _ _ (storeName _ (Str.ofString "number") _) _ _ _) | (with_reducible show wpAny _ _ (storeName _ (Str.ofString "size") _) _ _ _)); (refine storeX_C (by k_asm) (by k_asm) (by exact rfl) (by k_updF) (by assumption) ?_); intro hZq oZq FZq NZq hdZq; (try dsimp only at NZq); (try k_sweep)) | ((with_reducible show wpAny _ _ (eval _ (compEnvC _ _ _ _)) _ _ _); first | refine ldVarK (by assumption) (by assumption) ?_ | refine ldCellK rfl (show CellOf _ _ _ by assumption) ?_ | refine nameC_K (show Kp _ _ by assumption) (by assumption) (by assumption) (by k_is) ?_) | ((with_reducible show wpAny _ _ (subscriptTail _ _ (Value.ref _) (Value.int _ _)) _ _ _); refine ditem_tail (by assumption) (by assumption) ?_) | ((with_reducible show wpAny _ _ (call (Value.builtin "list.append") [Value.ref _, _]) _ _ _); refine app_N (by k_asm) (by k_asm) (by k_updF) (by first | assumption | exact leK (by assumption) (by exact rfl) | omega) ?_; intro hZq FZq NZq; (try dsimp only at NZq); (try k_sweep)) | ((with_reducible show wpAny _ _ (call (Value.builtin "list.pop") [Value.ref _]) _ _ _); refine pop_N (by k_asm) (by k_asm) (by k_updF) (by assumption) (by first | assumption | exact leK (by assumption) (by exact rfl) | omega) ?_; intro hZq FZq NZq; (try dsimp only at NZq); (try k_sweep)) | walk1))
        try dsimp only
        rename Fr _ _ _ _ => F₁₂
        rename News _ _ _ _ => N₁₂
        refine callWith_MS (K := hd.heap_39 w.params) (g := 87) (self := .ref x) (by k_is) ?_
        iterate 2 (first | ((first | (with_reducible show wpAny _ _ (storeName _ (Str.ofString "number") _) _ _ _) | (with_reducible show wpAny _ _ (storeName _ (Str.ofString "size") _) _ _ _)); (refine storeX_C (by k_asm) (by k_asm) (by exact rfl) (by k_updF) (by assumption) ?_); intro hZq oZq FZq NZq hdZq; (try dsimp only at NZq); (try k_sweep)) | ((with_reducible show wpAny _ _ (eval _ (compEnvC _ _ _ _)) _ _ _); first | refine ldVarK (by assumption) (by assumption) ?_ | refine ldCellK rfl (show CellOf _ _ _ by assumption) ?_ | refine nameC_K (show Kp _ _ by assumption) (by assumption) (by assumption) (by k_is) ?_) | ((with_reducible show wpAny _ _ (subscriptTail _ _ (Value.ref _) (Value.int _ _)) _ _ _); refine ditem_tail (by assumption) (by assumption) ?_) | ((with_reducible show wpAny _ _ (call (Value.builtin "list.append") [Value.ref _, _]) _ _ _); refine app_N (by k_asm) (by k_asm) (by k_updF) (by first | assumption | exact leK (by assumption) (by exact rfl) | omega) ?_; intro hZq FZq NZq; (try dsimp only at NZq); (try k_sweep)) | ((with_reducible show wpAny _ _ (call (Value.builtin "list.pop") [Value.ref _]) _ _ _); refine pop_N (by k_asm) (by k_asm) (by k_updF) (by assumption) (by first | assumption | exact leK (by assumption) (by exact rfl) | omega) ?_; intro hZq FZq NZq; (try dsimp only at NZq); (try k_sweep)) | walk1 | (dsimp only; first | ((first | (with_reducible show wpAny _ _ (storeName _ (Str.ofString "number") _) _ _ _) | (with_reducible show wpAny _ _ (storeName _ (Str.ofString "size") _) _ _ _)); (refine storeX_C (by k_asm) (by k_asm) (by exact rfl) (by k_updF) (by assumption) ?_); intro hZq oZq FZq NZq hdZq; (try dsimp only at NZq); (try k_sweep)) | ((with_reducible show wpAny _ _ (eval _ (compEnvC _ _ _ _)) _ _ _); first | refine ldVarK (by assumption) (by assumption) ?_ | refine ldCellK rfl (show CellOf _ _ _ by assumption) ?_ | refine nameC_K (show Kp _ _ by assumption) (by assumption) (by assumption) (by k_is) ?_) | ((with_reducible show wpAny _ _ (subscriptTail _ _ (Value.ref _) (Value.int _ _)) _ _ _); refine ditem_tail (by assumption) (by assumption) ?_) | ((with_reducible show wpAny _ _ (call (Value.builtin "list.append") [Value.ref _, _]) _ _ _); refine app_N (by k_asm) (by k_asm) (by k_updF) (by first | assumption | exact leK (by assumption) (by exact rfl) | omega) ?_; intro hZq FZq NZq; (try dsimp only at NZq); (try k_sweep)) | ((with_reducible show wpAny _ _ (call (Value.builtin "list.pop") [Value.ref _]) _ _ _); refine pop_N (by k_asm) (by k_asm) (by k_updF) (by assumption) (by first | assumption | exact leK (by assumption) (by exact rfl) | omega) ?_; intro hZq FZq NZq; (try dsimp only at NZq); (try k_sweep)) | walk1))
        refine items_star ?_
        have hAre : AreOf ItemKind.int vs' row := ints_areOf hi
        have hlr : h.IsList a vs'.toArray := hl₃ _ _ N₉ (by simp [hrow])
        obtain ⟨tk1, hvk⟩ := hsz k t (by obtain ⟨j, hj⟩ := List.mem_iff_getElem?.mp (List.mem_of_getElem? hv); exact List.mem_of_getElem? hv)
        refine ListComp_DCn (h₀ := hb) (L := L') (m := fun y => if y = Str.ofString "sorter" then some (.ref x) else if y = Str.ofString "row" then some (.ref a) else none) (K := ItemKind.int) (pz := fun o => preI o k) (d := PyData.int) hBh (by with_unfolding_all rfl) (by decide) (by with_unfolding_all rfl) (by decide) (by with_unfolding_all rfl) ?_ (by intro _; with_unfolding_all rfl)
        (first | ((first | (with_reducible show wpAny _ _ (storeName _ (Str.ofString "number") _) _ _ _) | (with_reducible show wpAny _ _ (storeName _ (Str.ofString "size") _) _ _ _)); (refine storeX_C (by k_asm) (by k_asm) (by exact rfl) (by k_updF) (by assumption) ?_); intro hZq oZq FZq NZq hdZq; (try dsimp only at NZq); (try k_sweep)) | ((with_reducible show wpAny _ _ (eval _ (compEnvC _ _ _ _)) _ _ _); first | refine ldVarK (by assumption) (by assumption) ?_ | refine ldCellK rfl (show CellOf _ _ _ by assumption) ?_ | refine nameC_K (show Kp _ _ by assumption) (by assumption) (by assumption) (by k_is) ?_) | ((with_reducible show wpAny _ _ (subscriptTail _ _ (Value.ref _) (Value.int _ _)) _ _ _); refine ditem_tail (by assumption) (by assumption) ?_) | ((with_reducible show wpAny _ _ (call (Value.builtin "list.append") [Value.ref _, _]) _ _ _); refine app_N (by k_asm) (by k_asm) (by k_updF) (by first | assumption | exact leK (by assumption) (by exact rfl) | omega) ?_; intro hZq FZq NZq; (try dsimp only at NZq); (try k_sweep)) | ((with_reducible show wpAny _ _ (call (Value.builtin "list.pop") [Value.ref _]) _ _ _); refine pop_N (by k_asm) (by k_asm) (by k_updF) (by assumption) (by first | assumption | exact leK (by assumption) (by exact rfl) | omega) ?_; intro hZq FZq NZq; (try dsimp only at NZq); (try k_sweep)) | walk1)
        try dsimp only
        refine EI4 _ a vs' row ⟨rfl, hl₃ _ _ N₁₂ (by simp [hrow]), hAre, leS hr63 rfl, F₁₂, N₁₂, ?_, ?_, ?_⟩
        · focus (rintro C o v s₂ m₂ E' hC ho hP0 hn hm hk₂; refine hid fun hGo => ?_; rcases hP0 with ⟨to, rfl⟩; all_goals (refine hGo ?_; clear hGo))
          refine wpAny_tests_one ?_
          have hcell1 := CellOf.intro (N₁₂ (L' + 1, _) (by k_mem)).1 hon' hk₂
          have hcell2 := CellOf.intro (N₁₂ (L' + 1 + 1, os') (by k_mem)).1 hos' hk₂
          have hDc : s₂.heap.DictOf (intKind PP w) D kvs := Heap.dictOf_iff.mpr ⟨oD, hk₂ _ _ (N₁₂ (D, oD) (by k_mem)).1, hDD⟩
          focus (refine hid fun hGo => ?_; obtain ⟨to1, hvo⟩ := sizes_at hi hsz ho; all_goals (refine hGo ?_; clear hGo))
          refine opq ?_
          intro Q₇ h₇
          repeat' (first | ((first | (with_reducible show wpAny _ _ (storeName _ (Str.ofString "number") _) _ _ _) | (with_reducible show wpAny _ _ (storeName _ (Str.ofString "size") _) _ _ _)); (refine storeX_C (by k_asm) (by k_asm) (by exact rfl) (by k_updF) (by assumption) ?_); intro hZq oZq FZq NZq hdZq; (try dsimp only at NZq); (try k_sweep)) | ((with_reducible show wpAny _ _ (eval _ (compEnvC _ _ _ _)) _ _ _); first | refine ldVarK (by assumption) (by assumption) ?_ | refine ldCellK rfl (show CellOf _ _ _ by assumption) ?_ | refine nameC_K (show Kp _ _ by assumption) (by assumption) (by assumption) (by k_is) ?_) | ((with_reducible show wpAny _ _ (subscriptTail _ _ (Value.ref _) (Value.int _ _)) _ _ _); refine ditem_tail (by assumption) (by assumption) ?_) | ((with_reducible show wpAny _ _ (call (Value.builtin "list.append") [Value.ref _, _]) _ _ _); refine app_N (by k_asm) (by k_asm) (by k_updF) (by first | assumption | exact leK (by assumption) (by exact rfl) | omega) ?_; intro hZq FZq NZq; (try dsimp only at NZq); (try k_sweep)) | ((with_reducible show wpAny _ _ (call (Value.builtin "list.pop") [Value.ref _]) _ _ _); refine pop_N (by k_asm) (by k_asm) (by k_updF) (by assumption) (by first | assumption | exact leK (by assumption) (by exact rfl) | omega) ?_; intro hZq FZq NZq; (try dsimp only at NZq); (try k_sweep)) | walk1 | (dsimp only; first | ((first | (with_reducible show wpAny _ _ (storeName _ (Str.ofString "number") _) _ _ _) | (with_reducible show wpAny _ _ (storeName _ (Str.ofString "size") _) _ _ _)); (refine storeX_C (by k_asm) (by k_asm) (by exact rfl) (by k_updF) (by assumption) ?_); intro hZq oZq FZq NZq hdZq; (try dsimp only at NZq); (try k_sweep)) | ((with_reducible show wpAny _ _ (eval _ (compEnvC _ _ _ _)) _ _ _); first | refine ldVarK (by assumption) (by assumption) ?_ | refine ldCellK rfl (show CellOf _ _ _ by assumption) ?_ | refine nameC_K (show Kp _ _ by assumption) (by assumption) (by assumption) (by k_is) ?_) | ((with_reducible show wpAny _ _ (subscriptTail _ _ (Value.ref _) (Value.int _ _)) _ _ _); refine ditem_tail (by assumption) (by assumption) ?_) | ((with_reducible show wpAny _ _ (call (Value.builtin "list.append") [Value.ref _, _]) _ _ _); refine app_N (by k_asm) (by k_asm) (by k_updF) (by first | assumption | exact leK (by assumption) (by exact rfl) | omega) ?_; intro hZq FZq NZq; (try dsimp only at NZq); (try k_sweep)) | ((with_reducible show wpAny _ _ (call (Value.builtin "list.pop") [Value.ref _]) _ _ _); refine pop_N (by k_asm) (by k_asm) (by k_updF) (by assumption) (by first | assumption | exact leK (by assumption) (by exact rfl) | omega) ?_; intro hZq FZq NZq; (try dsimp only at NZq); (try k_sweep)) | walk1))
          all_goals refine h₇ _ _ ⟨?_, _, _, rfl, fun _ _ e => e⟩
          · exact preI_t (by assumption) (by assumption)
          · exact preI_f2 (by assumption)
          · exact preI_f1 (by assumption)
        · focus (rintro C o v s₂ m₂ E' hC ho hP0 hp hn hm hk₂; refine hid fun hGo => ?_; rcases hP0 with ⟨to, rfl⟩; all_goals (refine hGo ?_; clear hGo))
          refine ldVarK hn hm ?_
          exact ⟨.int _ _, _, _, rfl, fun _ _ e => e⟩
        · intro D₁ ys h₃ tk₃ F₁₃ N₁₃ hb₁ hl₁ hp₁ hc₁
          focus (refine hid fun hGo => ?_; obtain ⟨n₁, N₁₄, hne₁⟩ := News.new F₁₃ N₁₃ hp₁ hb₁; all_goals (refine hGo ?_; clear hGo))
          have hys : IntsAre ys (predsI preI row k) := ints_of_carried hc₁
          have hyl : ys.length ≤ 63 := by
            rw [hys.length]
            exact Nat.le_trans (List.length_filter_le ..) hr63
          have hi63 : i < 63 := by
            focus (refine hid fun hGo => ?_; rcases Nat.lt_or_ge i row.length with q | q; all_goals (refine hGo ?_; clear hGo))
            · exact ar_63 q hr63
            · rw [List.getElem?_eq_none q] at hk; cases hk
          have hy63 := ar_63i (y := ys.length) hi63 (Nat.le_refl 63) hyl
          rename @LT.lt Nat _ I₂ _ ∧ _ => hq
          rename_i q _
          rename Obj => onn
          have hqall : ∀ p ∈ nodesLed ns₂ ++ news, @LT.lt Nat _ p.1 q := allLt_mem hq.2.2.2.2.2.2.2.2
          refine star_seq F₁₃ N₁₄ (.head _) rfl rfl (.inl rfl) rfl (by rw [sizeLine_eq, List.size_toArray]; first | exact leK (by assumption) (by exact rfl) | omega) ?_
          intro h₄ F₁₄ N₁₅
          clear F₁₃ N₁₃ N₁₄ hc₁ hp₁
          (first | ((first | (with_reducible show wpAny _ _ (storeName _ (Str.ofString "number") _) _ _ _) | (with_reducible show wpAny _ _ (storeName _ (Str.ofString "size") _) _ _ _)); (refine storeX_C (by k_asm) (by k_asm) (by exact rfl) (by k_updF) (by assumption) ?_); intro hZq oZq FZq NZq hdZq; (try dsimp only at NZq); (try k_sweep)) | ((with_reducible show wpAny _ _ (eval _ (compEnvC _ _ _ _)) _ _ _); first | refine ldVarK (by assumption) (by assumption) ?_ | refine ldCellK rfl (show CellOf _ _ _ by assumption) ?_ | refine nameC_K (show Kp _ _ by assumption) (by assumption) (by assumption) (by k_is) ?_) | ((with_reducible show wpAny _ _ (subscriptTail _ _ (Value.ref _) (Value.int _ _)) _ _ _); refine ditem_tail (by assumption) (by assumption) ?_) | ((with_reducible show wpAny _ _ (call (Value.builtin "list.append") [Value.ref _, _]) _ _ _); refine app_N (by k_asm) (by k_asm) (by k_updF) (by first | assumption | exact leK (by assumption) (by exact rfl) | omega) ?_; intro hZq FZq NZq; (try dsimp only at NZq); (try k_sweep)) | ((with_reducible show wpAny _ _ (call (Value.builtin "list.pop") [Value.ref _]) _ _ _); refine pop_N (by k_asm) (by k_asm) (by k_updF) (by assumption) (by first | assumption | exact leK (by assumption) (by exact rfl) | omega) ?_; intro hZq FZq NZq; (try dsimp only at NZq); (try k_sweep)) | walk1)
          refine ⟨methP N₁₅ (.tail _ (.head _)) (X.keeps F₁₄.keep), ?_⟩
          simp only [List.nil_append, List.append_nil]
          refine call_meth N₁₅ (.tail _ (.head _)) ?_
          have hfoot : ∀ b ∈ nodesFoot ns₂, @LT.lt Nat _ I b := fun b hb => P.hlo b (by rw [← hft₂]; exact hb)
          have hkm : ∀ p ∈ row, p ∈ ns₂.map (·.k) := fun p hp => by rw [hPk [] ns₂ hkv₂]; exact hp
          refine add_oldC (ns := ns₂) (ps := predsI preI row k) (rest := (D₁, W.listOf ys.toArray n₁) :: (q, methodObj (.ref 87) (.ref x)) :: (I₂, oI) :: (L' + 1, onn) :: (L' + 1 + 1, os') :: (L, oL) :: (D, oD) :: news) G (hBf.le (Nat.le_of_ble_eq_true rfl) (Nat.le_of_ble_eq_true rfl)) F₁₄ (News.sub N₁₅ add_ledger') (hkv₂ ▸ P.hod) hlo hok₂ hy63.2 ?_ ?_ (hkm k (List.mem_of_getElem? hk)) (by simpa using hys) ?_ (by simpa using (show ys.length ≤ 100 from leK hyl rfl)) ?_
          · intro b hb
            have hb := hfoot b hb
            exact ⟨Nat.ne_of_gt (Nat.lt_trans (Nat.lt_trans lx3 hdI) hb), Nat.ne_of_gt (Nat.lt_trans ldI hb), Nat.ne_of_gt (Nat.lt_trans hdI hb)⟩
          · have hlow : ∀ b : Nat, @LT.lt Nat _ b dx → b ∉ nodesFoot ns₂ := fun b h hm => Nat.lt_irrefl _ (Nat.lt_trans (Nat.lt_trans h ldI) (hfoot _ hm))
            refine fmc (led_off (fun p' hp' => hne₁ p' (mdrop 9 rfl _ hp'))) (fmc (led_off fun p' hp' => Nat.ne_of_lt (hqall p' hp')) (fmc (fun hm => Nat.lt_irrefl _ (hI₂ _ (.inr (.inr (.inr (.inr (.inr (.inr (.inr (.inl (hft₂ ▸ hm)))))))))) ) (fmc (hlow _ lL2) (fmc (hlow _ lL1) (fmc (hlow _ lL) (fmc (hft₂ ▸ led_off c7) fun p hp => hlow _ (lnews p hp)))))))
          · intro p hp
            exact hkm p (List.mem_filter.mp hp).1
          · intro h₅ tk₅ ns₃ F₁₆ N₁₆ hok₃ hft₃ hkv₃ hvw₃
            refine hn₅ _ (wpAny_execs_nil ?_)
            refine TurnEnd.go F₁₆ (News.sub N₁₆ add_ledger) ⟨hI₂, ns₃, _, _, hok₃.mono ?_, hft₃.trans hft₂, hkv₃.trans hkv₂, ?_, hon', rfl, rfl⟩
            · exact hy63.1
            · rw [hvw₃, hvw₂, gEdges_next hk]
      · focus (rintro I₂ m₁ news₁ h tk hP0 F₉ N₉; refine hid fun hGo => ?_; rcases hP0 with ⟨hI₂, ns₂, on, vn, hok₂, hft₂, hkv₂, hvw₂, hon, rfl, rfl⟩; all_goals (refine hGo ?_; clear hGo))
        refine hn₁ _ ?_
        clear hn₁ hr₁ hb₁ hc₁
        have hPO := pre_ok hnd hr
        rw [hi.length, gEdges_all hPO] at hvw₂
        have hfoot : ∀ b ∈ nodesFoot ns₂, @LT.lt Nat _ I b := fun b hb => P.hlo b (by rw [← hft₂]; exact hb)
        have hc7 : ∀ p ∈ nodesLed ns₂ ++ news, NeH p.1 D := fun p hp => by
          focus (refine hid fun hGo => ?_; rcases List.mem_append.mp hp with hp | hp; all_goals (refine hGo ?_; clear hGo))
          · have hm : p.1 ∈ nodesFoot ns := by rw [← hft₂, nodesFoot_eq]; exact List.mem_map_of_mem hp
            focus (refine hid fun hGo => ?_; obtain ⟨p2, hp2, e2⟩ := led_addr (rest := news) hm; all_goals (refine hGo ?_; clear hGo))
            exact e2 ▸ c7 p2 hp2
          · exact c7 p (List.mem_append_right _ hp)
        have hod₂ : od.IsDictOf (intKind PP w) (nodesKvs ns₂) := hkv₂ ▸ P.hod
        have hok₃ : NsOk ns₂ 63 := nsOk_full hok₂ hvw₂ hr63
        have hks : ns₂.map (·.k) = row := hPk [] ns₂ hkv₂
        clear hI₂ hDn hok₂ hPk hsz hDD hD
        refine execs_seq ?_
        intro Q₁ hn₁ hr₁ hb₁ hc₁
        repeat' (first | ((first | (with_reducible show wpAny _ _ (storeName _ (Str.ofString "number") _) _ _ _) | (with_reducible show wpAny _ _ (storeName _ (Str.ofString "size") _) _ _ _)); (refine storeX_C (by k_asm) (by k_asm) (by exact rfl) (by k_updF) (by assumption) ?_); intro hZq oZq FZq NZq hdZq; (try dsimp only at NZq); (try k_sweep)) | ((with_reducible show wpAny _ _ (eval _ (compEnvC _ _ _ _)) _ _ _); first | refine ldVarK (by assumption) (by assumption) ?_ | refine ldCellK rfl (show CellOf _ _ _ by assumption) ?_ | refine nameC_K (show Kp _ _ by assumption) (by assumption) (by assumption) (by k_is) ?_) | ((with_reducible show wpAny _ _ (subscriptTail _ _ (Value.ref _) (Value.int _ _)) _ _ _); refine ditem_tail (by assumption) (by assumption) ?_) | ((with_reducible show wpAny _ _ (call (Value.builtin "list.append") [Value.ref _, _]) _ _ _); refine app_N (by k_asm) (by k_asm) (by k_updF) (by first | assumption | exact leK (by assumption) (by exact rfl) | omega) ?_; intro hZq FZq NZq; (try dsimp only at NZq); (try k_sweep)) | ((with_reducible show wpAny _ _ (call (Value.builtin "list.pop") [Value.ref _]) _ _ _); refine pop_N (by k_asm) (by k_asm) (by k_updF) (by assumption) (by first | assumption | exact leK (by assumption) (by exact rfl) | omega) ?_; intro hZq FZq NZq; (try dsimp only at NZq); (try k_sweep)) | walk1 | (dsimp only; first | ((first | (with_reducible show wpAny _ _ (storeName _ (Str.ofString "number") _) _ _ _) | (with_reducible show wpAny _ _ (storeName _ (Str.ofString "size") _) _ _ _)); (refine storeX_C (by k_asm) (by k_asm) (by exact rfl) (by k_updF) (by assumption) ?_); intro hZq oZq FZq NZq hdZq; (try dsimp only at NZq); (try k_sweep)) | ((with_reducible show wpAny _ _ (eval _ (compEnvC _ _ _ _)) _ _ _); first | refine ldVarK (by assumption) (by assumption) ?_ | refine ldCellK rfl (show CellOf _ _ _ by assumption) ?_ | refine nameC_K (show Kp _ _ by assumption) (by assumption) (by assumption) (by k_is) ?_) | ((with_reducible show wpAny _ _ (subscriptTail _ _ (Value.ref _) (Value.int _ _)) _ _ _); refine ditem_tail (by assumption) (by assumption) ?_) | ((with_reducible show wpAny _ _ (call (Value.builtin "list.append") [Value.ref _, _]) _ _ _); refine app_N (by k_asm) (by k_asm) (by k_updF) (by first | assumption | exact leK (by assumption) (by exact rfl) | omega) ?_; intro hZq FZq NZq; (try dsimp only at NZq); (try k_sweep)) | ((with_reducible show wpAny _ _ (call (Value.builtin "list.pop") [Value.ref _]) _ _ _); refine pop_N (by k_asm) (by k_asm) (by k_updF) (by assumption) (by first | assumption | exact leK (by assumption) (by exact rfl) | omega) ?_; intro hZq FZq NZq; (try dsimp only at NZq); (try k_sweep)) | walk1))
        dsimp only
        have hLx : @LT.lt Nat _ L x := Nat.lt_trans lL lx2
        refine prep_spec (outer := _ :: outer) (tl := nodesLed ns₂ ++ ((L' + 1, on) :: (L' + 1 + 1, os') :: (D, oD) :: news)) (fl := [(L, oL)]) (rk := fun k => (hbI k).toNat) G (hBf.wide (Nat.le_of_ble_eq_true rfl) (Nat.le_of_ble_eq_true rfl)) F₉ (News.sub N₉ prep_ledger) hod₂ hlo hok₃ (by decide) (by rw [full_len hvw₂]; exact leK hr63 rfl) (fun n hn => nd_in hn) ?_ ?_ (by simp) ?_ (full_rank hvw₂ hr) ?_
        · intro y hy
          focus (refine hid fun hGo => ?_; rcases List.mem_cons.mp hy with rfl | hy; all_goals (refine hGo ?_; clear hGo))
          · exact ⟨rfl, L', rfl, .inl rfl⟩
          · exact ⟨(hout y hy).1, L, (hout y hy).2, .inr (.head _)⟩
        · refine fmc ⟨Nat.ne_of_lt hLx, Nat.ne_of_lt lL, Nat.ne_of_lt (Nat.lt_trans hLx lx3), fma (fun q hq => Nat.ne_of_lt (Nat.lt_trans (Nat.lt_trans lL ldI) (led_lo hfoot q hq))) (fmc (Nat.ne_of_lt hLn) (fmc (Nat.ne_of_lt (Nat.lt_trans hLn (Nat.lt_succ_self _))) (fmc c3 fun q hq => Ne.symm (l8 q hq))))⟩ (List.forall_mem_nil _)
        · exact ⟨Nat.ne_of_gt lx2, Nat.ne_of_gt (Nat.lt_trans lx2 lx3), fma (fun q hq => Nat.ne_of_gt (Nat.lt_trans ldI (led_lo hfoot q hq))) (fmc (Nat.ne_of_lt lL2) (fmc (Nat.ne_of_lt lL1) (fmc (Ne.symm c5) fun q hq => Nat.ne_of_lt (lnews q hq))))⟩
        · intro h₅ tk₅ σ r rv re F₁₀ N₁₀ hrv hne
          rw [full_roots hvw₂] at hrv
          refine hn₁ _ ?_
          clear hn₁ hr₁ hb₁ hc₁
          refine execs_seq ?_
          intro Q₁ hn₁ hr₁ hb₁ hc₁
          repeat' (first | ((first | (with_reducible show wpAny _ _ (storeName _ (Str.ofString "number") _) _ _ _) | (with_reducible show wpAny _ _ (storeName _ (Str.ofString "size") _) _ _ _)); (refine storeX_C (by k_asm) (by k_asm) (by exact rfl) (by k_updF) (by assumption) ?_); intro hZq oZq FZq NZq hdZq; (try dsimp only at NZq); (try k_sweep)) | ((with_reducible show wpAny _ _ (eval _ (compEnvC _ _ _ _)) _ _ _); first | refine ldVarK (by assumption) (by assumption) ?_ | refine ldCellK rfl (show CellOf _ _ _ by assumption) ?_ | refine nameC_K (show Kp _ _ by assumption) (by assumption) (by assumption) (by k_is) ?_) | ((with_reducible show wpAny _ _ (subscriptTail _ _ (Value.ref _) (Value.int _ _)) _ _ _); refine ditem_tail (by assumption) (by assumption) ?_) | ((with_reducible show wpAny _ _ (call (Value.builtin "list.append") [Value.ref _, _]) _ _ _); refine app_N (by k_asm) (by k_asm) (by k_updF) (by first | assumption | exact leK (by assumption) (by exact rfl) | omega) ?_; intro hZq FZq NZq; (try dsimp only at NZq); (try k_sweep)) | ((with_reducible show wpAny _ _ (call (Value.builtin "list.pop") [Value.ref _]) _ _ _); refine pop_N (by k_asm) (by k_asm) (by k_updF) (by assumption) (by first | assumption | exact leK (by assumption) (by exact rfl) | omega) ?_; intro hZq FZq NZq; (try dsimp only at NZq); (try k_sweep)) | walk1 | (dsimp only; first | ((first | (with_reducible show wpAny _ _ (storeName _ (Str.ofString "number") _) _ _ _) | (with_reducible show wpAny _ _ (storeName _ (Str.ofString "size") _) _ _ _)); (refine storeX_C (by k_asm) (by k_asm) (by exact rfl) (by k_updF) (by assumption) ?_); intro hZq oZq FZq NZq hdZq; (try dsimp only at NZq); (try k_sweep)) | ((with_reducible show wpAny _ _ (eval _ (compEnvC _ _ _ _)) _ _ _); first | refine ldVarK (by assumption) (by assumption) ?_ | refine ldCellK rfl (show CellOf _ _ _ by assumption) ?_ | refine nameC_K (show Kp _ _ by assumption) (by assumption) (by assumption) (by k_is) ?_) | ((with_reducible show wpAny _ _ (subscriptTail _ _ (Value.ref _) (Value.int _ _)) _ _ _); refine ditem_tail (by assumption) (by assumption) ?_) | ((with_reducible show wpAny _ _ (call (Value.builtin "list.append") [Value.ref _, _]) _ _ _); refine app_N (by k_asm) (by k_asm) (by k_updF) (by first | assumption | exact leK (by assumption) (by exact rfl) | omega) ?_; intro hZq FZq NZq; (try dsimp only at NZq); (try k_sweep)) | ((with_reducible show wpAny _ _ (call (Value.builtin "list.pop") [Value.ref _]) _ _ _); refine pop_N (by k_asm) (by k_asm) (by k_updF) (by assumption) (by first | assumption | exact leK (by assumption) (by exact rfl) | omega) ?_; intro hZq FZq NZq; (try dsimp only at NZq); (try k_sweep)) | walk1))
          dsimp only
          have N₁₁ : News hb L' h₅ ((x, instObj 137 dx) :: (dx, soDict w t1 t2 t3 t4 d (.ref r) (.int 0 t5) (.int 0 t6)) :: (d, od) :: (r, W.listOf rv re) :: (nodesLed ns₂ ++ ((L' + 1, on) :: (L' + 1 + 1, os') :: (D, oD) :: (news ++ [(L, { oL with slots := σ L })])))) := News.sub N₁₀ (by
            intro p hp
            simp only [upS, List.map_cons, List.map_nil, List.append_assoc, List.cons_append] at hp ⊢
            exact hp)
          have hoff : ∀ (o₀ : Obj), ∀ p ∈ (L' + 1, o₀) :: (L' + 1 + 1, os') :: (D, oD) :: (news ++ [(L, ({ oL with slots := σ L } : Obj))]), Off (nodesFoot ns₂) r dx p.1 := by
            intro o₀
            have low : ∀ b : Nat, @LT.lt Nat _ b dx → b ∉ nodesFoot ns₂ ∧ @Ne Nat b dx := fun b h => ⟨fun hm => Nat.lt_irrefl _ (Nat.lt_trans (Nat.lt_trans h ldI) (hfoot b hm)), Nat.ne_of_lt h⟩
            have hrr := hne
            exact fmc ⟨(low _ lL2).1, hrr (L' + 1, on) (by simp), (low _ lL2).2⟩ (fmc ⟨(low _ lL1).1, hrr (L' + 1 + 1, os') (by simp), (low _ lL1).2⟩ (fmc ⟨led_off hc7, hrr (D, oD) (by simp), Ne.symm c5⟩ (fma (fun p hp => ⟨(low _ (lnews p hp)).1, hrr p (by simp [hp]), (low _ (lnews p hp)).2⟩) (fmc ⟨(low _ lL).1, hrr (L, oL) (by simp), (low _ lL).2⟩ (List.forall_mem_nil _)))))
          have hfr : ∀ b ∈ nodesFoot ns₂, @Ne Nat b x ∧ @Ne Nat b dx ∧ @Ne Nat b d ∧ @Ne Nat b r := fun b hm => by
            have hb := hfoot b hm
            refine ⟨Nat.ne_of_gt (Nat.lt_trans (Nat.lt_trans lx3 hdI) hb), Nat.ne_of_gt (Nat.lt_trans ldI hb), Nat.ne_of_gt (Nat.lt_trans hdI hb), ?_⟩
            focus (refine hid fun hGo => ?_; obtain ⟨p2, hp2, e2⟩ := led_addr (rest := []) hm; all_goals (refine hGo ?_; clear hGo))
            rw [List.append_nil] at hp2
            exact e2 ▸ hne p2 (by simp [hp2])
          have hr1 : @Ne Nat r x ∧ @Ne Nat r dx ∧ @Ne Nat r d := ⟨Ne.symm (hne (x, _) (.head _)), Ne.symm (hne (dx, _) (.tail _ (.head _))), Ne.symm (hne (d, od) (.tail _ (.tail _ (.head _))))⟩
          have hr2 : @Ne Nat dx x ∧ @Ne Nat dx d := ⟨Nat.ne_of_lt lx2, Nat.ne_of_lt (Nat.lt_trans lx2 lx3)⟩
          have hrl : rv.size ≤ 63 := by
            have := hrv.length
            rw [Array.length_toList] at this
            rw [this]
            exact Nat.le_trans (List.length_filter_le ..) hr63
          refine ready_spec (rs := rootsI preI row) G (hBf.le (Nat.le_of_ble_eq_true rfl) (Nat.le_of_ble_eq_true rfl)) F₁₀ N₁₁ hod₂ hlo hok₃ hfr (Off.rest (hoff on)).1 hr1 hr2 (Off.rest (hoff on)).2 hrv (fun p hp => by rw [hks]; exact (List.mem_filter.mp hp).1) (by first | exact leK (by assumption) (by exact rfl) | omega) ?_
          intro h₆ tk₆ ns₃ q tpo re' F₁₁ N₁₂ hok₄ hft₄ hkv₄ hvw₄ hq
          rw [hvw₂, gOut_start] at hvw₄
          clear N₉ N₁₀ N₁₁ F₁₀ hne
          repeat' (first | ((first | (with_reducible show wpAny _ _ (storeName _ (Str.ofString "number") _) _ _ _) | (with_reducible show wpAny _ _ (storeName _ (Str.ofString "size") _) _ _ _)); (refine storeX_C (by k_asm) (by k_asm) (by exact rfl) (by k_updF) (by assumption) ?_); intro hZq oZq FZq NZq hdZq; (try dsimp only at NZq); (try k_sweep)) | ((with_reducible show wpAny _ _ (eval _ (compEnvC _ _ _ _)) _ _ _); first | refine ldVarK (by assumption) (by assumption) ?_ | refine ldCellK rfl (show CellOf _ _ _ by assumption) ?_ | refine nameC_K (show Kp _ _ by assumption) (by assumption) (by assumption) (by k_is) ?_) | ((with_reducible show wpAny _ _ (subscriptTail _ _ (Value.ref _) (Value.int _ _)) _ _ _); refine ditem_tail (by assumption) (by assumption) ?_) | ((with_reducible show wpAny _ _ (call (Value.builtin "list.append") [Value.ref _, _]) _ _ _); refine app_N (by k_asm) (by k_asm) (by k_updF) (by first | assumption | exact leK (by assumption) (by exact rfl) | omega) ?_; intro hZq FZq NZq; (try dsimp only at NZq); (try k_sweep)) | ((with_reducible show wpAny _ _ (call (Value.builtin "list.pop") [Value.ref _]) _ _ _); refine pop_N (by k_asm) (by k_asm) (by k_updF) (by assumption) (by first | assumption | exact leK (by assumption) (by exact rfl) | omega) ?_; intro hZq FZq NZq; (try dsimp only at NZq); (try k_sweep)) | walk1 | (dsimp only; first | ((first | (with_reducible show wpAny _ _ (storeName _ (Str.ofString "number") _) _ _ _) | (with_reducible show wpAny _ _ (storeName _ (Str.ofString "size") _) _ _ _)); (refine storeX_C (by k_asm) (by k_asm) (by exact rfl) (by k_updF) (by assumption) ?_); intro hZq oZq FZq NZq hdZq; (try dsimp only at NZq); (try k_sweep)) | ((with_reducible show wpAny _ _ (eval _ (compEnvC _ _ _ _)) _ _ _); first | refine ldVarK (by assumption) (by assumption) ?_ | refine ldCellK rfl (show CellOf _ _ _ by assumption) ?_ | refine nameC_K (show Kp _ _ by assumption) (by assumption) (by assumption) (by k_is) ?_) | ((with_reducible show wpAny _ _ (subscriptTail _ _ (Value.ref _) (Value.int _ _)) _ _ _); refine ditem_tail (by assumption) (by assumption) ?_) | ((with_reducible show wpAny _ _ (call (Value.builtin "list.append") [Value.ref _, _]) _ _ _); refine app_N (by k_asm) (by k_asm) (by k_updF) (by first | assumption | exact leK (by assumption) (by exact rfl) | omega) ?_; intro hZq FZq NZq; (try dsimp only at NZq); (try k_sweep)) | ((with_reducible show wpAny _ _ (call (Value.builtin "list.pop") [Value.ref _]) _ _ _); refine pop_N (by k_asm) (by k_asm) (by k_updF) (by assumption) (by first | assumption | exact leK (by assumption) (by exact rfl) | omega) ?_; intro hZq FZq NZq; (try dsimp only at NZq); (try k_sweep)) | walk1))
          refine hn₁ _ ?_
          clear hn₁ hr₁ hb₁ hc₁
          try dsimp only
          rename Fr _ _ _ _ => F₁₂
          rename News _ _ _ _ => N₁₃
          refine execs_seq ?_
          intro Q₁ hn₁ hr₁ hb₁ hc₁
          repeat' (first | ((first | (with_reducible show wpAny _ _ (storeName _ (Str.ofString "number") _) _ _ _) | (with_reducible show wpAny _ _ (storeName _ (Str.ofString "size") _) _ _ _)); (refine storeX_C (by k_asm) (by k_asm) (by exact rfl) (by k_updF) (by assumption) ?_); intro hZq oZq FZq NZq hdZq; (try dsimp only at NZq); (try k_sweep)) | ((with_reducible show wpAny _ _ (eval _ (compEnvC _ _ _ _)) _ _ _); first | refine ldVarK (by assumption) (by assumption) ?_ | refine ldCellK rfl (show CellOf _ _ _ by assumption) ?_ | refine nameC_K (show Kp _ _ by assumption) (by assumption) (by assumption) (by k_is) ?_) | ((with_reducible show wpAny _ _ (subscriptTail _ _ (Value.ref _) (Value.int _ _)) _ _ _); refine ditem_tail (by assumption) (by assumption) ?_) | ((with_reducible show wpAny _ _ (call (Value.builtin "list.append") [Value.ref _, _]) _ _ _); refine app_N (by k_asm) (by k_asm) (by k_updF) (by first | assumption | exact leK (by assumption) (by exact rfl) | omega) ?_; intro hZq FZq NZq; (try dsimp only at NZq); (try k_sweep)) | ((with_reducible show wpAny _ _ (call (Value.builtin "list.pop") [Value.ref _]) _ _ _); refine pop_N (by k_asm) (by k_asm) (by k_updF) (by assumption) (by first | assumption | exact leK (by assumption) (by exact rfl) | omega) ?_; intro hZq FZq NZq; (try dsimp only at NZq); (try k_sweep)) | walk1 | (dsimp only; first | ((first | (with_reducible show wpAny _ _ (storeName _ (Str.ofString "number") _) _ _ _) | (with_reducible show wpAny _ _ (storeName _ (Str.ofString "size") _) _ _ _)); (refine storeX_C (by k_asm) (by k_asm) (by exact rfl) (by k_updF) (by assumption) ?_); intro hZq oZq FZq NZq hdZq; (try dsimp only at NZq); (try k_sweep)) | ((with_reducible show wpAny _ _ (eval _ (compEnvC _ _ _ _)) _ _ _); first | refine ldVarK (by assumption) (by assumption) ?_ | refine ldCellK rfl (show CellOf _ _ _ by assumption) ?_ | refine nameC_K (show Kp _ _ by assumption) (by assumption) (by assumption) (by k_is) ?_) | ((with_reducible show wpAny _ _ (subscriptTail _ _ (Value.ref _) (Value.int _ _)) _ _ _); refine ditem_tail (by assumption) (by assumption) ?_) | ((with_reducible show wpAny _ _ (call (Value.builtin "list.append") [Value.ref _, _]) _ _ _); refine app_N (by k_asm) (by k_asm) (by k_updF) (by first | assumption | exact leK (by assumption) (by exact rfl) | omega) ?_; intro hZq FZq NZq; (try dsimp only at NZq); (try k_sweep)) | ((with_reducible show wpAny _ _ (call (Value.builtin "list.pop") [Value.ref _]) _ _ _); refine pop_N (by k_asm) (by k_asm) (by k_updF) (by assumption) (by first | assumption | exact leK (by assumption) (by exact rfl) | omega) ?_; intro hZq FZq NZq; (try dsimp only at NZq); (try k_sweep)) | walk1))
          refine hn₁ _ ?_
          clear hn₁ hr₁ hb₁ hc₁
          try dsimp only
          rename Fr _ _ _ _ => F₁₃
          rename News _ _ _ _ => N₁₄
          refine execs_seq ?_
          intro Q₁ hn₁ hr₁ hb₁ hc₁
          rename_i pl cpl _ _ _ hpl _ _ ord _ hord _
          generalize hnw : news ++ [(L, ({ oL with slots := σ L } : Obj))] = news' at *
          have hPL : ∀ b : Nat, FX L' D x dx d r (nodesFoot ns₂) (news'.map (·.1)) b ∨ b = L' + 1 → @LT.lt Nat _ b pl := by
            have hall := allLt_mem hpl.2.2.2.2.2
            refine orB (orE (hall (_, os') (List.mem_append_right _ (.tail _ (.head _)))) (orE (hall (_, oD) (List.mem_append_right _ (.tail _ (.tail _ (.head _))))) (orE hpl.2.1 (orE hpl.2.2.1 (orE hpl.2.2.2.1 (orE hpl.2.2.2.2.1 (orO (fun b hb => ?_) fun b hb => ?_))))))) (hall (_, on) (List.mem_append_right _ (.head _)))
            · rw [← hft₄] at hb
              focus (refine hid fun hGo => ?_; obtain ⟨p2, hp2, e2⟩ := led_addr (rest := []) hb; all_goals (refine hGo ?_; clear hGo))
              rw [List.append_nil] at hp2
              exact e2 ▸ hall p2 (List.mem_append_left _ hp2)
            · focus (refine hid fun hGo => ?_; obtain ⟨p2, hp2, rfl⟩ := List.mem_map.mp hb; all_goals (refine hGo ?_; clear hGo))
              exact hall p2 (List.mem_append_right _ (.tail _ (.tail _ (.tail _ hp2))))
          have hORD : ∀ b : Nat, (FX L' D x dx d r (nodesFoot ns₂) (news'.map (·.1)) b ∨ b = L' + 1) ∨ b = pl → @LT.lt Nat _ b ord :=
            orB (fun b hb => Nat.lt_trans (hPL b hb) hord.1) hord.1
          have hC1 : ∀ b : Nat, FX L' D x dx d r (nodesFoot ns₂) (news'.map (·.1)) b → @Ne Nat b (L' + 1) := by
            refine orE (Nat.ne_of_gt (Nat.lt_succ_self _)) (orE (Ne.symm c2) (orE (Nat.ne_of_gt (Nat.lt_trans lL2 lx2)) (orE (Nat.ne_of_gt lL2) (orE (Nat.ne_of_gt (Nat.lt_trans lL2 (Nat.lt_trans lx2 lx3))) (orE (Ne.symm (hoff on (L' + 1, on) (.head _)).2.1) (orO (fun b hb => Nat.ne_of_gt (Nat.lt_trans (Nat.lt_trans lL2 ldI) (hfoot b hb))) fun b hb => ?_))))))
            · rw [← hnw] at hb
              focus (refine hid fun hGo => ?_; obtain ⟨p2, hp2, rfl⟩ := List.mem_map.mp hb; all_goals (refine hGo ?_; clear hGo))
              focus (refine hid fun hGo => ?_; rcases List.mem_append.mp hp2 with hp2 | hp2; all_goals (refine hGo ?_; clear hGo))
              · exact Nat.ne_of_lt (Nat.lt_trans (hN p2 hp2) (Nat.lt_succ_self _))
              · rw [List.mem_singleton.mp hp2]; exact Nat.ne_of_lt hLn
          have hPO := pre_ok hnd hr
          have hoff2 : ∀ (o1 o2 o3 : Obj), ∀ p ∈ (L' + 1, o1) :: (pl, o2) :: (ord, o3) :: (L' + 1 + 1, os') :: (D, oD) :: news', Off (nodesFoot ns₂) r dx p.1 := fun o1 o2 o3 =>
            fmc (hoff o1 (L' + 1, o1) (.head _)) (fmc ⟨fun hm => Nat.lt_irrefl _ (hPL _ (.inl (.inr (.inr (.inr (.inr (.inr (.inr (.inl hm))))))))), Nat.ne_of_gt (hPL _ (.inl (.inr (.inr (.inr (.inr (.inr (.inl rfl)))))))), Nat.ne_of_gt (hPL _ (.inl (.inr (.inr (.inr (.inl rfl))))))⟩
              (fmc ⟨fun hm => Nat.lt_irrefl _ (hORD _ (.inl (.inl (.inr (.inr (.inr (.inr (.inr (.inr (.inl hm)))))))))), Nat.ne_of_gt (hORD _ (.inl (.inl (.inr (.inr (.inr (.inr (.inr (.inl rfl))))))))), Nat.ne_of_gt (hORD _ (.inl (.inl (.inr (.inr (.inr (.inl rfl)))))))⟩ fun p hp => hoff o1 p (.tail _ hp)))
          have N₁₅ : News hb L' _ ((L' + 1, on) :: (pl, W.listOf rv cpl) :: (ord, W.listOf #[] 0) :: (L' + 1 + 1, os') :: (D, oD) :: (x, instObj 137 dx) :: (dx, soDict w t1 t2 t3 t4 d (.ref r) (.int (0 + (rootsI preI row).length) tpo) (.int 0 t6)) :: (d, od) :: (r, W.listOf #[] re') :: (nodesLed ns₃ ++ news')) := News.sub N₁₄ (by first | exact wl_st | (intro p hp; simp only [List.mem_cons, List.mem_append] at hp ⊢; rcases hp with h | h | h | h | h | h | h | h | h | h | h <;> simp only [h, true_or, or_true]))
          clear N₁₄
          refine wpAny_While ?_
          refine while_rule (k := row.length) (PlC w L' D a x dx d r pl ord os' oD od t1 t2 t3 t4 news' row ns₂) F₁₃ N₁₅ ?_ ?_
          · exact ⟨ns₃, [], rootsI preI row, _, tpo, 0, t6, re', rv, cpl, #[], 0, on, _, WI.start hPO hrv hok₄ hft₄ hkv₄ hvw₄, hon, rfl, rfl, rfl⟩
          · clear F₁₃ N₁₅
            focus (rintro k m₁ news₁ h₇ tk₇ hP0 F₁₄ N₁₅; refine hid fun hGo => ?_; rcases hP0 with ⟨ns₄, Dn, piL, po, tpo, nf, tnf, re, pv, pn, ov, on₂, oc, vc, WI₀, hoc, hk, rfl, rfl⟩; all_goals (refine hGo ?_; clear hGo))
            have hszs := WI₀.size hr63
            refine opq ?_
            intro Q₇ h₇
            iterate 5 (first | ((first | (with_reducible show wpAny _ _ (storeName _ (Str.ofString "number") _) _ _ _) | (with_reducible show wpAny _ _ (storeName _ (Str.ofString "size") _) _ _ _)); (refine storeX_C (by k_asm) (by k_asm) (by exact rfl) (by k_updF) (by assumption) ?_); intro hZq oZq FZq NZq hdZq; (try dsimp only at NZq); (try k_sweep)) | ((with_reducible show wpAny _ _ (eval _ (compEnvC _ _ _ _)) _ _ _); first | refine ldVarK (by assumption) (by assumption) ?_ | refine ldCellK rfl (show CellOf _ _ _ by assumption) ?_ | refine nameC_K (show Kp _ _ by assumption) (by assumption) (by assumption) (by k_is) ?_) | ((with_reducible show wpAny _ _ (subscriptTail _ _ (Value.ref _) (Value.int _ _)) _ _ _); refine ditem_tail (by assumption) (by assumption) ?_) | ((with_reducible show wpAny _ _ (call (Value.builtin "list.append") [Value.ref _, _]) _ _ _); refine app_N (by k_asm) (by k_asm) (by k_updF) (by first | assumption | exact leK (by assumption) (by exact rfl) | omega) ?_; intro hZq FZq NZq; (try dsimp only at NZq); (try k_sweep)) | ((with_reducible show wpAny _ _ (call (Value.builtin "list.pop") [Value.ref _]) _ _ _); refine pop_N (by k_asm) (by k_asm) (by k_updF) (by assumption) (by first | assumption | exact leK (by assumption) (by exact rfl) | omega) ?_; intro hZq FZq NZq; (try dsimp only at NZq); (try k_sweep)) | walk1 | (dsimp only; first | ((first | (with_reducible show wpAny _ _ (storeName _ (Str.ofString "number") _) _ _ _) | (with_reducible show wpAny _ _ (storeName _ (Str.ofString "size") _) _ _ _)); (refine storeX_C (by k_asm) (by k_asm) (by exact rfl) (by k_updF) (by assumption) ?_); intro hZq oZq FZq NZq hdZq; (try dsimp only at NZq); (try k_sweep)) | ((with_reducible show wpAny _ _ (eval _ (compEnvC _ _ _ _)) _ _ _); first | refine ldVarK (by assumption) (by assumption) ?_ | refine ldCellK rfl (show CellOf _ _ _ by assumption) ?_ | refine nameC_K (show Kp _ _ by assumption) (by assumption) (by assumption) (by k_is) ?_) | ((with_reducible show wpAny _ _ (subscriptTail _ _ (Value.ref _) (Value.int _ _)) _ _ _); refine ditem_tail (by assumption) (by assumption) ?_) | ((with_reducible show wpAny _ _ (call (Value.builtin "list.append") [Value.ref _, _]) _ _ _); refine app_N (by k_asm) (by k_asm) (by k_updF) (by first | assumption | exact leK (by assumption) (by exact rfl) | omega) ?_; intro hZq FZq NZq; (try dsimp only at NZq); (try k_sweep)) | ((with_reducible show wpAny _ _ (call (Value.builtin "list.pop") [Value.ref _]) _ _ _); refine pop_N (by k_asm) (by k_asm) (by k_updF) (by assumption) (by first | assumption | exact leK (by assumption) (by exact rfl) | omega) ?_; intro hZq FZq NZq; (try dsimp only at NZq); (try k_sweep)) | walk1))
            try dsimp only
            rename Fr _ _ _ _ => F₁₅
            rename News _ _ _ _ => N₁₆
            refine ke_ne_ints (xs := pv.toList) (ys := []) (ns := piL) (ms := []) (by rw [Array.toArray_toList]; exact News.isList N₁₆ (.tail _ (.tail _ (.head _)))) (News.isList N₁₆ (.head _)) WI₀.hp .nil (ar_line hBf.2.2.1 rfl) ?_
            repeat' (first | ((first | (with_reducible show wpAny _ _ (storeName _ (Str.ofString "number") _) _ _ _) | (with_reducible show wpAny _ _ (storeName _ (Str.ofString "size") _) _ _ _)); (refine storeX_C (by k_asm) (by k_asm) (by exact rfl) (by k_updF) (by assumption) ?_); intro hZq oZq FZq NZq hdZq; (try dsimp only at NZq); (try k_sweep)) | ((with_reducible show wpAny _ _ (eval _ (compEnvC _ _ _ _)) _ _ _); first | refine ldVarK (by assumption) (by assumption) ?_ | refine ldCellK rfl (show CellOf _ _ _ by assumption) ?_ | refine nameC_K (show Kp _ _ by assumption) (by assumption) (by assumption) (by k_is) ?_) | ((with_reducible show wpAny _ _ (subscriptTail _ _ (Value.ref _) (Value.int _ _)) _ _ _); refine ditem_tail (by assumption) (by assumption) ?_) | ((with_reducible show wpAny _ _ (call (Value.builtin "list.append") [Value.ref _, _]) _ _ _); refine app_N (by k_asm) (by k_asm) (by k_updF) (by first | assumption | exact leK (by assumption) (by exact rfl) | omega) ?_; intro hZq FZq NZq; (try dsimp only at NZq); (try k_sweep)) | ((with_reducible show wpAny _ _ (call (Value.builtin "list.pop") [Value.ref _]) _ _ _); refine pop_N (by k_asm) (by k_asm) (by k_updF) (by assumption) (by first | assumption | exact leK (by assumption) (by exact rfl) | omega) ?_; intro hZq FZq NZq; (try dsimp only at NZq); (try k_sweep)) | walk1 | (dsimp only; first | ((first | (with_reducible show wpAny _ _ (storeName _ (Str.ofString "number") _) _ _ _) | (with_reducible show wpAny _ _ (storeName _ (Str.ofString "size") _) _ _ _)); (refine storeX_C (by k_asm) (by k_asm) (by exact rfl) (by k_updF) (by assumption) ?_); intro hZq oZq FZq NZq hdZq; (try dsimp only at NZq); (try k_sweep)) | ((with_reducible show wpAny _ _ (eval _ (compEnvC _ _ _ _)) _ _ _); first | refine ldVarK (by assumption) (by assumption) ?_ | refine ldCellK rfl (show CellOf _ _ _ by assumption) ?_ | refine nameC_K (show Kp _ _ by assumption) (by assumption) (by assumption) (by k_is) ?_) | ((with_reducible show wpAny _ _ (subscriptTail _ _ (Value.ref _) (Value.int _ _)) _ _ _); refine ditem_tail (by assumption) (by assumption) ?_) | ((with_reducible show wpAny _ _ (call (Value.builtin "list.append") [Value.ref _, _]) _ _ _); refine app_N (by k_asm) (by k_asm) (by k_updF) (by first | assumption | exact leK (by assumption) (by exact rfl) | omega) ?_; intro hZq FZq NZq; (try dsimp only at NZq); (try k_sweep)) | ((with_reducible show wpAny _ _ (call (Value.builtin "list.pop") [Value.ref _]) _ _ _); refine pop_N (by k_asm) (by k_asm) (by k_updF) (by assumption) (by first | assumption | exact leK (by assumption) (by exact rfl) | omega) ?_; intro hZq FZq NZq; (try dsimp only at NZq); (try k_sweep)) | walk1))
            refine h₇ _ _ ?_
            clear h₇
            focus (refine hid fun hGo => ?_; rcases snoc_cases piL with rfl | ⟨rest, p, rfl⟩; all_goals (refine hGo ?_; clear hGo))
            · rw [if_neg (by decide)]
              refine wpAny_execs_nil ?_
              refine hn₁ _ ?_
              repeat' (first | ((first | (with_reducible show wpAny _ _ (storeName _ (Str.ofString "number") _) _ _ _) | (with_reducible show wpAny _ _ (storeName _ (Str.ofString "size") _) _ _ _)); (refine storeX_C (by k_asm) (by k_asm) (by exact rfl) (by k_updF) (by assumption) ?_); intro hZq oZq FZq NZq hdZq; (try dsimp only at NZq); (try k_sweep)) | ((with_reducible show wpAny _ _ (eval _ (compEnvC _ _ _ _)) _ _ _); first | refine ldVarK (by assumption) (by assumption) ?_ | refine ldCellK rfl (show CellOf _ _ _ by assumption) ?_ | refine nameC_K (show Kp _ _ by assumption) (by assumption) (by assumption) (by k_is) ?_) | ((with_reducible show wpAny _ _ (subscriptTail _ _ (Value.ref _) (Value.int _ _)) _ _ _); refine ditem_tail (by assumption) (by assumption) ?_) | ((with_reducible show wpAny _ _ (call (Value.builtin "list.append") [Value.ref _, _]) _ _ _); refine app_N (by k_asm) (by k_asm) (by k_updF) (by first | assumption | exact leK (by assumption) (by exact rfl) | omega) ?_; intro hZq FZq NZq; (try dsimp only at NZq); (try k_sweep)) | ((with_reducible show wpAny _ _ (call (Value.builtin "list.pop") [Value.ref _]) _ _ _); refine pop_N (by k_asm) (by k_asm) (by k_updF) (by assumption) (by first | assumption | exact leK (by assumption) (by exact rfl) | omega) ?_; intro hZq FZq NZq; (try dsimp only at NZq); (try k_sweep)) | walk1 | (dsimp only; first | ((first | (with_reducible show wpAny _ _ (storeName _ (Str.ofString "number") _) _ _ _) | (with_reducible show wpAny _ _ (storeName _ (Str.ofString "size") _) _ _ _)); (refine storeX_C (by k_asm) (by k_asm) (by exact rfl) (by k_updF) (by assumption) ?_); intro hZq oZq FZq NZq hdZq; (try dsimp only at NZq); (try k_sweep)) | ((with_reducible show wpAny _ _ (eval _ (compEnvC _ _ _ _)) _ _ _); first | refine ldVarK (by assumption) (by assumption) ?_ | refine ldCellK rfl (show CellOf _ _ _ by assumption) ?_ | refine nameC_K (show Kp _ _ by assumption) (by assumption) (by assumption) (by k_is) ?_) | ((with_reducible show wpAny _ _ (subscriptTail _ _ (Value.ref _) (Value.int _ _)) _ _ _); refine ditem_tail (by assumption) (by assumption) ?_) | ((with_reducible show wpAny _ _ (call (Value.builtin "list.append") [Value.ref _, _]) _ _ _); refine app_N (by k_asm) (by k_asm) (by k_updF) (by first | assumption | exact leK (by assumption) (by exact rfl) | omega) ?_; intro hZq FZq NZq; (try dsimp only at NZq); (try k_sweep)) | ((with_reducible show wpAny _ _ (call (Value.builtin "list.pop") [Value.ref _]) _ _ _); refine pop_N (by k_asm) (by k_asm) (by k_updF) (by assumption) (by first | assumption | exact leK (by assumption) (by exact rfl) | omega) ?_; intro hZq FZq NZq; (try dsimp only at NZq); (try k_sweep)) | walk1))
              try dsimp only
              subst hnw
              have hne : ∀ p ∈ (ord, W.listOf ov on₂) :: news, p.1 ≠ L := fmc (Nat.ne_of_gt (hORD L (.inl (.inl (.inr (.inr (.inr (.inr (.inr (.inr (.inr (by simp)))))))))))) l8
              obtain ⟨Fz, Nz⟩ := backN' bk F₁₅ (News.sub (l' := (L, { oL with slots := σ L }) :: (ord, W.listOf ov on₂) :: news) N₁₆ (by
                intro p hp
                simp only [List.mem_cons, List.mem_append, List.not_mem_nil, or_false] at hp ⊢
                rcases hp with h | h | h <;> simp only [h, true_or, or_true])) rfl hne
              exact hQ _ _ ord ov on₂ Fz Nz WI₀.done (fun p hp => hORD _ (.inl (.inl (.inr (.inr (.inr (.inr (.inr (.inr (.inr (List.mem_map_of_mem (List.mem_append_left _ hp))))))))))))
            · rw [if_pos (by simp)]
              focus (refine hid fun hGo => ?_; obtain ⟨l, tp, hl, hlI⟩ := ints_snoc WI₀.hp; all_goals (refine hGo ?_; clear hGo))
              have hF9 : ∀ p ∈ ((L' + 1 + 1, os') :: (D, oD) :: (x, instObj 137 dx) :: (dx, soDict w t1 t2 t3 t4 d (.ref r) (.int po tpo) (.int nf tnf)) :: (d, od) :: (r, W.listOf #[] re) :: (nodesLed ns₄ ++ news')), FX L' D x dx d r (nodesFoot ns₂) (news'.map (·.1)) p.1 := fun p hp => by
                have := fx_mem p hp
                rwa [WI₀.hft] at this
              have N₁₇ : News hb L' _ ((L' + 1, oc) :: (pl, W.listOf pv pn) :: (ord, W.listOf ov on₂) :: (((L' + 1 + 1, os') :: (D, oD) :: (x, instObj 137 dx) :: (dx, soDict w t1 t2 t3 t4 d (.ref r) (.int po tpo) (.int nf tnf)) :: (d, od) :: (r, W.listOf #[] re) :: (nodesLed ns₄ ++ news')))) := fun p hp => N₁₆ p (.tail _ hp)
              clear N₁₆
              generalize hR9 : ((L' + 1 + 1, os') :: (D, oD) :: (x, instObj 137 dx) :: (dx, soDict w t1 t2 t3 t4 d (.ref r) (.int po tpo) (.int nf tnf)) :: (d, od) :: (r, W.listOf #[] re) :: (nodesLed ns₄ ++ news')) = R9 at hF9 N₁₇
              have hA : ∀ p ∈ (ord, W.listOf ov on₂) :: R9, p.1 ≠ pl := fmc (Nat.ne_of_gt (hORD pl (.inr rfl))) fun p hp => Nat.ne_of_lt (hPL _ (.inl (hF9 p hp)))
              have hB : ∀ p ∈ (pl, W.listOf l.toArray (pn + 1)) :: (ord, W.listOf ov on₂) :: R9, p.1 ≠ L' + 1 := fmc (Nat.ne_of_gt (hPL _ (.inr rfl))) (fmc (Nat.ne_of_gt (hORD _ (.inl (.inr rfl)))) fun p hp => hC1 _ (hF9 p hp))
              have hCc : ∀ p ∈ R9, p.1 ≠ ord := fun p hp => Nat.ne_of_lt (hORD _ (.inl (.inl (hF9 p hp))))
              have g1 : NeH pl (L' + 1) := Nat.ne_of_gt (hPL _ (.inr rfl))
              have g2 : NeH ord (L' + 1) := Nat.ne_of_gt (hORD _ (.inl (.inr rfl)))
              have g3 : NeH ord pl := Nat.ne_of_gt (hORD _ (.inr rfl))
              have hz1 : pv.size ≤ 10000 := leK hszs.1 rfl
              have hz2 : ov.size ≤ 10000 := leK hszs.2.1 rfl
              refine execs_seq ?_
              intro Q₅ hn₅ hr₅ hb₅ hc₅
              repeat' (first | ((first | (with_reducible show wpAny _ _ (storeName _ (Str.ofString "number") _) _ _ _) | (with_reducible show wpAny _ _ (storeName _ (Str.ofString "size") _) _ _ _)); (refine storeX_C (by k_asm) (by k_asm) (by exact rfl) (by k_updF) (by assumption) ?_); intro hZq oZq FZq NZq hdZq; (try dsimp only at NZq); (try k_sweep)) | ((with_reducible show wpAny _ _ (eval _ (compEnvC _ _ _ _)) _ _ _); first | refine ldVarK (by assumption) (by assumption) ?_ | refine ldCellK rfl (show CellOf _ _ _ by assumption) ?_ | refine nameC_K (show Kp _ _ by assumption) (by assumption) (by assumption) (by k_is) ?_) | ((with_reducible show wpAny _ _ (subscriptTail _ _ (Value.ref _) (Value.int _ _)) _ _ _); refine ditem_tail (by assumption) (by assumption) ?_) | ((with_reducible show wpAny _ _ (call (Value.builtin "list.append") [Value.ref _, _]) _ _ _); refine app_N (by k_asm) (by k_asm) (by k_updF) (by first | assumption | exact leK (by assumption) (by exact rfl) | omega) ?_; intro hZq FZq NZq; (try dsimp only at NZq); (try k_sweep)) | ((with_reducible show wpAny _ _ (call (Value.builtin "list.pop") [Value.ref _]) _ _ _); refine pop_N (by k_asm) (by k_asm) (by k_updF) (by assumption) (by first | assumption | exact leK (by assumption) (by exact rfl) | omega) ?_; intro hZq FZq NZq; (try dsimp only at NZq); (try k_sweep)) | walk1 | (dsimp only; first | ((first | (with_reducible show wpAny _ _ (storeName _ (Str.ofString "number") _) _ _ _) | (with_reducible show wpAny _ _ (storeName _ (Str.ofString "size") _) _ _ _)); (refine storeX_C (by k_asm) (by k_asm) (by exact rfl) (by k_updF) (by assumption) ?_); intro hZq oZq FZq NZq hdZq; (try dsimp only at NZq); (try k_sweep)) | ((with_reducible show wpAny _ _ (eval _ (compEnvC _ _ _ _)) _ _ _); first | refine ldVarK (by assumption) (by assumption) ?_ | refine ldCellK rfl (show CellOf _ _ _ by assumption) ?_ | refine nameC_K (show Kp _ _ by assumption) (by assumption) (by assumption) (by k_is) ?_) | ((with_reducible show wpAny _ _ (subscriptTail _ _ (Value.ref _) (Value.int _ _)) _ _ _); refine ditem_tail (by assumption) (by assumption) ?_) | ((with_reducible show wpAny _ _ (call (Value.builtin "list.append") [Value.ref _, _]) _ _ _); refine app_N (by k_asm) (by k_asm) (by k_updF) (by first | assumption | exact leK (by assumption) (by exact rfl) | omega) ?_; intro hZq FZq NZq; (try dsimp only at NZq); (try k_sweep)) | ((with_reducible show wpAny _ _ (call (Value.builtin "list.pop") [Value.ref _]) _ _ _); refine pop_N (by k_asm) (by k_asm) (by k_updF) (by assumption) (by first | assumption | exact leK (by assumption) (by exact rfl) | omega) ?_; intro hZq FZq NZq; (try dsimp only at NZq); (try k_sweep)) | walk1))
              refine hn₅ _ ?_
              clear hn₅ hr₅ hb₅ hc₅
              try dsimp only
              rename _ = Data.cell (some (Value.int p tp)) => hoc'
              refine execs_seq ?_
              intro Q₅ hn₅ hr₅ hb₅ hc₅
              repeat' (first | ((first | (with_reducible show wpAny _ _ (storeName _ (Str.ofString "number") _) _ _ _) | (with_reducible show wpAny _ _ (storeName _ (Str.ofString "size") _) _ _ _)); (refine storeX_C (by k_asm) (by k_asm) (by exact rfl) (by k_updF) (by assumption) ?_); intro hZq oZq FZq NZq hdZq; (try dsimp only at NZq); (try k_sweep)) | ((with_reducible show wpAny _ _ (eval _ (compEnvC _ _ _ _)) _ _ _); first | refine ldVarK (by assumption) (by assumption) ?_ | refine ldCellK rfl (show CellOf _ _ _ by assumption) ?_ | refine nameC_K (show Kp _ _ by assumption) (by assumption) (by assumption) (by k_is) ?_) | ((with_reducible show wpAny _ _ (subscriptTail _ _ (Value.ref _) (Value.int _ _)) _ _ _); refine ditem_tail (by assumption) (by assumption) ?_) | ((with_reducible show wpAny _ _ (call (Value.builtin "list.append") [Value.ref _, _]) _ _ _); refine app_N (by k_asm) (by k_asm) (by k_updF) (by first | assumption | exact leK (by assumption) (by exact rfl) | omega) ?_; intro hZq FZq NZq; (try dsimp only at NZq); (try k_sweep)) | ((with_reducible show wpAny _ _ (call (Value.builtin "list.pop") [Value.ref _]) _ _ _); refine pop_N (by k_asm) (by k_asm) (by k_updF) (by assumption) (by first | assumption | exact leK (by assumption) (by exact rfl) | omega) ?_; intro hZq FZq NZq; (try dsimp only at NZq); (try k_sweep)) | walk1 | (dsimp only; first | ((first | (with_reducible show wpAny _ _ (storeName _ (Str.ofString "number") _) _ _ _) | (with_reducible show wpAny _ _ (storeName _ (Str.ofString "size") _) _ _ _)); (refine storeX_C (by k_asm) (by k_asm) (by exact rfl) (by k_updF) (by assumption) ?_); intro hZq oZq FZq NZq hdZq; (try dsimp only at NZq); (try k_sweep)) | ((with_reducible show wpAny _ _ (eval _ (compEnvC _ _ _ _)) _ _ _); first | refine ldVarK (by assumption) (by assumption) ?_ | refine ldCellK rfl (show CellOf _ _ _ by assumption) ?_ | refine nameC_K (show Kp _ _ by assumption) (by assumption) (by assumption) (by k_is) ?_) | ((with_reducible show wpAny _ _ (subscriptTail _ _ (Value.ref _) (Value.int _ _)) _ _ _); refine ditem_tail (by assumption) (by assumption) ?_) | ((with_reducible show wpAny _ _ (call (Value.builtin "list.append") [Value.ref _, _]) _ _ _); refine app_N (by k_asm) (by k_asm) (by k_updF) (by first | assumption | exact leK (by assumption) (by exact rfl) | omega) ?_; intro hZq FZq NZq; (try dsimp only at NZq); (try k_sweep)) | ((with_reducible show wpAny _ _ (call (Value.builtin "list.pop") [Value.ref _]) _ _ _); refine pop_N (by k_asm) (by k_asm) (by k_updF) (by assumption) (by first | assumption | exact leK (by assumption) (by exact rfl) | omega) ?_; intro hZq FZq NZq; (try dsimp only at NZq); (try k_sweep)) | walk1))
              refine hn₅ _ ?_
              clear hn₅ hr₅ hb₅ hc₅
              try dsimp only
              rename Fr _ _ _ _ => F₁₈
              rename News _ _ _ _ => N₁₈
              subst hR9
              refine execs_seq ?_
              intro Q₅ hn₅ hr₅ hb₅ hc₅
              repeat' (first | ((first | (with_reducible show wpAny _ _ (storeName _ (Str.ofString "number") _) _ _ _) | (with_reducible show wpAny _ _ (storeName _ (Str.ofString "size") _) _ _ _)); (refine storeX_C (by k_asm) (by k_asm) (by exact rfl) (by k_updF) (by assumption) ?_); intro hZq oZq FZq NZq hdZq; (try dsimp only at NZq); (try k_sweep)) | ((with_reducible show wpAny _ _ (eval _ (compEnvC _ _ _ _)) _ _ _); first | refine ldVarK (by assumption) (by assumption) ?_ | refine ldCellK rfl (show CellOf _ _ _ by assumption) ?_ | refine nameC_K (show Kp _ _ by assumption) (by assumption) (by assumption) (by k_is) ?_) | ((with_reducible show wpAny _ _ (subscriptTail _ _ (Value.ref _) (Value.int _ _)) _ _ _); refine ditem_tail (by assumption) (by assumption) ?_) | ((with_reducible show wpAny _ _ (call (Value.builtin "list.append") [Value.ref _, _]) _ _ _); refine app_N (by k_asm) (by k_asm) (by k_updF) (by first | assumption | exact leK (by assumption) (by exact rfl) | omega) ?_; intro hZq FZq NZq; (try dsimp only at NZq); (try k_sweep)) | ((with_reducible show wpAny _ _ (call (Value.builtin "list.pop") [Value.ref _]) _ _ _); refine pop_N (by k_asm) (by k_asm) (by k_updF) (by assumption) (by first | assumption | exact leK (by assumption) (by exact rfl) | omega) ?_; intro hZq FZq NZq; (try dsimp only at NZq); (try k_sweep)) | walk1 | (dsimp only; first | ((first | (with_reducible show wpAny _ _ (storeName _ (Str.ofString "number") _) _ _ _) | (with_reducible show wpAny _ _ (storeName _ (Str.ofString "size") _) _ _ _)); (refine storeX_C (by k_asm) (by k_asm) (by exact rfl) (by k_updF) (by assumption) ?_); intro hZq oZq FZq NZq hdZq; (try dsimp only at NZq); (try k_sweep)) | ((with_reducible show wpAny _ _ (eval _ (compEnvC _ _ _ _)) _ _ _); first | refine ldVarK (by assumption) (by assumption) ?_ | refine ldCellK rfl (show CellOf _ _ _ by assumption) ?_ | refine nameC_K (show Kp _ _ by assumption) (by assumption) (by assumption) (by k_is) ?_) | ((with_reducible show wpAny _ _ (subscriptTail _ _ (Value.ref _) (Value.int _ _)) _ _ _); refine ditem_tail (by assumption) (by assumption) ?_) | ((with_reducible show wpAny _ _ (call (Value.builtin "list.append") [Value.ref _, _]) _ _ _); refine app_N (by k_asm) (by k_asm) (by k_updF) (by first | assumption | exact leK (by assumption) (by exact rfl) | omega) ?_; intro hZq FZq NZq; (try dsimp only at NZq); (try k_sweep)) | ((with_reducible show wpAny _ _ (call (Value.builtin "list.pop") [Value.ref _]) _ _ _); refine pop_N (by k_asm) (by k_asm) (by k_updF) (by assumption) (by first | assumption | exact leK (by assumption) (by exact rfl) | omega) ?_; intro hZq FZq NZq; (try dsimp only at NZq); (try k_sweep)) | walk1))
              try dsimp only
              focus (refine hid fun hGo => ?_; obtain ⟨oc', hoc', N₁₈⟩ : ∃ oc', oc'.data = Data.cell (some (Value.int p tp)) ∧ News hb L' _ ((L' + 1, oc') :: (pl, W.listOf l.toArray (pn + 1)) :: (ord, W.listOf (ov.push (.int p tp)) (on₂ + 1)) :: (L' + 1 + 1, os') :: (D, oD) :: (x, instObj 137 dx) :: (dx, soDict w t1 t2 t3 t4 d (.ref r) (.int po tpo) (.int nf tnf)) :: (d, od) :: (r, W.listOf #[] re) :: (nodesLed ns₄ ++ news')) := ⟨_, hoc', N₁₈⟩; all_goals (refine hGo ?_; clear hGo))
              have hks₄ := gSt_keys WI₀.hvw
              refine done_spec (ns := ns₄) (rs := []) (ss := belowI preI row p) (B := 63) (rest := (L' + 1, oc') :: (pl, W.listOf l.toArray (pn + 1)) :: (ord, W.listOf (ov.push (.int p tp)) (on₂ + 1)) :: (L' + 1 + 1, os') :: (D, oD) :: news') G (hBf.le (Nat.le_of_ble_eq_true rfl) (Nat.le_of_ble_eq_true rfl)) F₁₈ (News.sub N₁₈ wl_in) (WI₀.hkv ▸ hod₂) hlo WI₀.hok (by decide) (by rw [WI₀.hft]; exact hfr) (by rw [WI₀.hft]; exact (Off.rest (hoff2 _ _ _)).1) hr1 hr2 (Off.rest (hoff2 _ _ _)).2 .nil (Nat.zero_le _) WI₀.top (fun s hs => by rw [hks₄]; exact (mem_below.mp hs).1) ?_
              intro h₈ tk₈ ns₅ rv₅ re₅ tnf₅ F₁₉ N₁₉ hs₅ hv₅ hrv₅
              refine hn₅ _ ?_
              clear hn₅ hr₅ hb₅ hc₅ F₁₈ N₁₈
              have N₁₉ := News.sub N₁₉ wl_out
              refine execs_seq ?_
              intro Q₅ hn₅ hr₅ hb₅ hc₅
              repeat' (first | ((first | (with_reducible show wpAny _ _ (storeName _ (Str.ofString "number") _) _ _ _) | (with_reducible show wpAny _ _ (storeName _ (Str.ofString "size") _) _ _ _)); (refine storeX_C (by k_asm) (by k_asm) (by exact rfl) (by k_updF) (by assumption) ?_); intro hZq oZq FZq NZq hdZq; (try dsimp only at NZq); (try k_sweep)) | ((with_reducible show wpAny _ _ (eval _ (compEnvC _ _ _ _)) _ _ _); first | refine ldVarK (by assumption) (by assumption) ?_ | refine ldCellK rfl (show CellOf _ _ _ by assumption) ?_ | refine nameC_K (show Kp _ _ by assumption) (by assumption) (by assumption) (by k_is) ?_) | ((with_reducible show wpAny _ _ (subscriptTail _ _ (Value.ref _) (Value.int _ _)) _ _ _); refine ditem_tail (by assumption) (by assumption) ?_) | ((with_reducible show wpAny _ _ (call (Value.builtin "list.append") [Value.ref _, _]) _ _ _); refine app_N (by k_asm) (by k_asm) (by k_updF) (by first | assumption | exact leK (by assumption) (by exact rfl) | omega) ?_; intro hZq FZq NZq; (try dsimp only at NZq); (try k_sweep)) | ((with_reducible show wpAny _ _ (call (Value.builtin "list.pop") [Value.ref _]) _ _ _); refine pop_N (by k_asm) (by k_asm) (by k_updF) (by assumption) (by first | assumption | exact leK (by assumption) (by exact rfl) | omega) ?_; intro hZq FZq NZq; (try dsimp only at NZq); (try k_sweep)) | walk1 | (dsimp only; first | ((first | (with_reducible show wpAny _ _ (storeName _ (Str.ofString "number") _) _ _ _) | (with_reducible show wpAny _ _ (storeName _ (Str.ofString "size") _) _ _ _)); (refine storeX_C (by k_asm) (by k_asm) (by exact rfl) (by k_updF) (by assumption) ?_); intro hZq oZq FZq NZq hdZq; (try dsimp only at NZq); (try k_sweep)) | ((with_reducible show wpAny _ _ (eval _ (compEnvC _ _ _ _)) _ _ _); first | refine ldVarK (by assumption) (by assumption) ?_ | refine ldCellK rfl (show CellOf _ _ _ by assumption) ?_ | refine nameC_K (show Kp _ _ by assumption) (by assumption) (by assumption) (by k_is) ?_) | ((with_reducible show wpAny _ _ (subscriptTail _ _ (Value.ref _) (Value.int _ _)) _ _ _); refine ditem_tail (by assumption) (by assumption) ?_) | ((with_reducible show wpAny _ _ (call (Value.builtin "list.append") [Value.ref _, _]) _ _ _); refine app_N (by k_asm) (by k_asm) (by k_updF) (by first | assumption | exact leK (by assumption) (by exact rfl) | omega) ?_; intro hZq FZq NZq; (try dsimp only at NZq); (try k_sweep)) | ((with_reducible show wpAny _ _ (call (Value.builtin "list.pop") [Value.ref _]) _ _ _); refine pop_N (by k_asm) (by k_asm) (by k_updF) (by assumption) (by first | assumption | exact leK (by assumption) (by exact rfl) | omega) ?_; intro hZq FZq NZq; (try dsimp only at NZq); (try k_sweep)) | walk1))
              try dsimp only
              have hok₅ := shape_ok hs₅ WI₀.hok
              have hft₅ := (shape_foot hs₅).trans WI₀.hft
              have hkv₅ := (shape_kvs hs₅).trans WI₀.hkv
              have hks₅ := (shape_keys hs₅).trans hks₄
              have hrd := WI₀.ready hPO hrv₅
              have hrsz : rv₅.size ≤ 63 := by
                have := hrd.length
                rw [Array.length_toList] at this
                rw [this]
                exact Nat.le_trans (List.length_filter_le ..) (Nat.le_trans (List.length_filter_le ..) hr63)
              refine ready_spec (ns := ns₅) (rs := readyI preI row Dn p) (B := 63) (rest := (L' + 1, oc') :: (pl, W.listOf l.toArray (pn + 1)) :: (ord, W.listOf (ov.push (.int p tp)) (on₂ + 1)) :: (L' + 1 + 1, os') :: (D, oD) :: news') G (hBf.le (Nat.le_of_ble_eq_true rfl) (Nat.le_of_ble_eq_true rfl)) F₁₉ (News.sub N₁₉ wl_in) (hkv₅ ▸ hod₂) hlo hok₅ (by rw [hft₅]; exact hfr) (by rw [hft₅]; exact (Off.rest (hoff2 _ _ _)).1) hr1 hr2 (Off.rest (hoff2 _ _ _)).2 hrd (fun s hs => by rw [hks₅]; exact (mem_below.mp (List.mem_filter.mp hs).1).1) (by first | exact leK (by assumption) (by exact rfl) | omega) ?_
              intro h₉ tk₉ ns₆ q₆ tpo₆ re₆ F₂₀ N₂₀ hok₆ hft₆ hkv₆ hvw₆ hq₆
              clear F₁₉ N₁₉
              (first | ((first | (with_reducible show wpAny _ _ (storeName _ (Str.ofString "number") _) _ _ _) | (with_reducible show wpAny _ _ (storeName _ (Str.ofString "size") _) _ _ _)); (refine storeX_C (by k_asm) (by k_asm) (by exact rfl) (by k_updF) (by assumption) ?_); intro hZq oZq FZq NZq hdZq; (try dsimp only at NZq); (try k_sweep)) | ((with_reducible show wpAny _ _ (eval _ (compEnvC _ _ _ _)) _ _ _); first | refine ldVarK (by assumption) (by assumption) ?_ | refine ldCellK rfl (show CellOf _ _ _ by assumption) ?_ | refine nameC_K (show Kp _ _ by assumption) (by assumption) (by assumption) (by k_is) ?_) | ((with_reducible show wpAny _ _ (subscriptTail _ _ (Value.ref _) (Value.int _ _)) _ _ _); refine ditem_tail (by assumption) (by assumption) ?_) | ((with_reducible show wpAny _ _ (call (Value.builtin "list.append") [Value.ref _, _]) _ _ _); refine app_N (by k_asm) (by k_asm) (by k_updF) (by first | assumption | exact leK (by assumption) (by exact rfl) | omega) ?_; intro hZq FZq NZq; (try dsimp only at NZq); (try k_sweep)) | ((with_reducible show wpAny _ _ (call (Value.builtin "list.pop") [Value.ref _]) _ _ _); refine pop_N (by k_asm) (by k_asm) (by k_updF) (by assumption) (by first | assumption | exact leK (by assumption) (by exact rfl) | omega) ?_; intro hZq FZq NZq; (try dsimp only at NZq); (try k_sweep)) | walk1)
              try dsimp only
              have hll : l.length ≤ 63 := by
                have := congrArg List.length hl
                rw [Array.length_toList, List.length_append, List.length_singleton] at this
                exact Nat.le_of_succ_le (show l.length + 1 ≤ 63 by rw [← this]; exact hszs.1)
              have hft₇ := hft₆.trans hft₅
              refine ext_HT F₂₀ (News.sub N₂₀ wl_ext) ?_ (N₂₀ _ (.head _)).1 (by rw [List.size_toArray]; first | exact leK (Nat.add_le_add hll (by assumption)) (by exact rfl) | omega) ?_
              · intro p hp
                focus (refine hid fun hGo => ?_; rcases List.mem_cons.mp hp with h | hp; all_goals (refine hGo ?_; clear hGo))
                · rw [h]; exact Nat.ne_of_lt (hPL _ (.inr rfl))
                focus (refine hid fun hGo => ?_; rcases List.mem_cons.mp hp with h | hp; all_goals (refine hGo ?_; clear hGo))
                · rw [h]; exact Nat.ne_of_gt (hORD _ (.inr rfl))
                · have := fx_mem p hp
                  rw [hft₇] at this
                  exact Nat.ne_of_lt (hPL _ (.inl this))
              · intro h₁₀ n₁₀ F₂₁ N₂₁
                refine hn₅ _ (wpAny_execs_nil ?_)
                have hD2 : (p :: Dn).length ≤ row.length := nodup_length_le (WI₀.inv.step hPO).dnd (WI₀.inv.step hPO).dr
                rw [List.length_cons] at hD2
                refine WEnd.go (k' := k - 1) (ar_wk hk hD2).1 F₂₁ (News.sub N₂₁ wl_back) ⟨ns₆, p :: Dn, rest ++ readyI preI row Dn p, _, tpo₆, _, tnf₅, re₆, _, n₁₀, _, _, oc', _, WI.next hPO WI₀ hlI hs₅ hv₅ hrv₅ hok₆ hft₆ hkv₆ hvw₆, hoc', ?_, rfl, rfl⟩
                rw [List.length_cons]; exact (ar_wk hk hD2).2

theorem stretI_mem {pre : Int → Int → Bool} : ∀ (f : Nat) (ws : List Int) (x : Int), x ∈ stretI pre f ws → x ∈ ws
  | 0, _, _, h => by cases h
  | f + 1, ws, x, h => by
    rw [stretI_succ] at h
    focus (refine hid fun hGo => ?_; obtain ⟨w, hw, hx⟩ := List.mem_flatMap.mp h; all_goals (refine hGo ?_; clear hGo))
    have hw := List.mem_reverse.mp hw
    by_cases hr : (ws.filter fun o => pre o w) = []
    · rw [if_pos hr] at hx
      focus (refine hid fun hGo => ?_; rcases List.mem_cons.mp hx with rfl | hx; all_goals (refine hGo ?_; clear hGo))
      · exact hw
      · exact (List.mem_filter.mp (stretI_mem f _ x hx)).1
    · rw [if_neg hr] at hx; cases hx
theorem wordLF_len : ∀ (f n : Nat) (x : List Nat), (wordLF f n x).length ≤ f + x.length
  | 0, _, x => by simp [wordLF]
  | f + 1, n, x => by
    unfold wordLF
    split
    · omega
    · have := wordLF_len f (n / 2) ((if n % 2 = 0 then 48 else 49) :: x)
      rw [List.length_cons] at this; omega
theorem wordLF_all : ∀ (f n : Nat) (x : List Nat), (∀ c ∈ x, c < 200) → ∀ c ∈ wordLF f n x, c < 200
  | 0, _, _, h => h
  | f + 1, n, x, h => by
    unfold wordLF
    split
    · exact h
    · refine wordLF_all f (n / 2) _ fun c hc => ?_
      focus (refine hid fun hGo => ?_; rcases List.mem_cons.mp hc with rfl | hc; all_goals (refine hGo ?_; clear hGo))
      · split <;> decide
      · exact h c hc
theorem word_ok {n : Int} (h : InR n) : WOk (wordS n) := by
  focus (refine hid fun hGo => ?_; obtain ⟨m, rfl, _, _⟩ := h.nat; all_goals (refine hGo ?_; clear hGo))
  rw [wordS_eq]
  refine ⟨?_, ?_⟩
  · have := wordLF_len 6 m []
    simpa [Str.length, wordL] using this
  · unfold PyData.strOk
    rw [List.all_toArray, List.all_eq_true]
    intro c hc
    have := wordLF_all 6 m [] (fun c h => nomatch h) c hc
    simp only [decide_eq_true_eq]; omega
theorem News.got {hb h h' : Heap} {L D : Addr} {m : Str → Option Value} {news : List (Addr × Obj)} {o : Obj} (F : Fr hb L h m) (N : News hb L h news) (k : Kp h h') (hn : h.get? D = none) (ho : h'.get? D = some o) :
    Fr hb L h' m ∧ News hb L h' ((D, o) :: news) ∧ ∀ p ∈ news, @Ne Nat p.1 D := by
  refine ⟨Fr.kp F k, fun p hp => ?_, fun p hp e => ?_⟩
  · focus (refine hid fun hGo => ?_; rcases List.mem_cons.mp hp with rfl | hp; all_goals (refine hGo ?_; clear hGo))
    · refine ⟨ho, ?_, ?_⟩
      · rintro rfl
        focus (refine hid fun hGo => ?_; obtain ⟨o, ho, _⟩ := Fr.obj F; all_goals (refine hGo ?_; clear hGo))
        rw [hn] at ho; cases ho
      · cases q : hb.get? D with
        | none => rfl
        | some o => rw [F.keep _ _ q] at hn; cases hn
    · exact (News.kp N k) p hp
  · have := (N p hp).1
    rw [show p.1 = D from e, hn] at this; cases this
theorem hideG {α : Type} {M : Model} {A : Around} {outer : List Env} {d u : Nat} {t : Sem α} {Q : α → Shared → Prop} {E : Value → Shared → Prop} {s : Shared} (hA : LeF A outer d u) (h : ∀ BA : Around, LeF BA outer d u → wpAny M BA t Q E s) : wpAny M A t Q E s := h A hA
theorem law_holds : PySem.Challenge.rw_mq0311_01.Holds := by
  refine hd ?_
  k_go0
  dsimp only
  rename Fr _ _ _ _ => F₁
  rename News _ _ _ _ => N₁
  rename Top _ _ _ _ _ _ => T
  rename Frag.In _ _ => X
  rename IntsAre _ _ => hi
  rename Heap.IsList _ _ _ => hl
  have G₀ : Gd _ _ := ⟨X, _, _, topRead_of T⟩
  have hlen := hi.length
  dsimp only [callerA, Around.deeper]
  rename World => w
  rename_i s₀ s₁ mg mb Gd0 Y0 fa of pm0 doc0 kV0 ho0 hg0 X0 V0 GL0 B0 TE0 TW0 a9 o8 M0 a7 a6 hcd0 ns hs0 hlay0 hL0 hr01 hl20 as4 as3 a vs as0 ra0 we0 r00 hr00 hcond hc00 K00 hD00 h₁
  clear hD00 K00 hc00 hr00 r00 we0 ra0 hl20 hr01 hL0 hlay0 hs0 hcd0 M0 TW0 TE0 B0 GL0 V0 X0 ho0 Y0
  have F₁ : Fr s₁.heap s₁.heap.objs.size h₁ (fun y => List.lookup y [(Str.ofString "script", Value.ref a)].reverse) := F₁
  have hn63 : ns.length ≤ 63 := by omega
  refine opqE ?_
  intro Q₀ E₀ h₀ hE₀
  refine hideG (outer := [_]) (d := 303) (u := 10) ⟨rfl, Nat.le_of_ble_eq_true rfl, Nat.le_of_ble_eq_true rfl, rfl⟩ ?_
  intro BA hBf
  have hBh : BA.handled = none := hBf.1
  refine execs_seq ?_
  intro Q₁ hn₁ hr₁ hb₁ hc₁
  iterate 5 (first | ((with_reducible show wpAny _ _ (eval _ (compEnvC _ _ _ _)) _ _ _); first | refine ldVarK (by assumption) (by assumption) ?_ | refine nameC_K (show Kp _ _ by assumption) (by assumption) (by assumption) (by k_is) ?_) | walk1 | (dsimp only; first | ((with_reducible show wpAny _ _ (eval _ (compEnvC _ _ _ _)) _ _ _); first | refine ldVarK (by assumption) (by assumption) ?_ | refine nameC_K (show Kp _ _ by assumption) (by assumption) (by assumption) (by k_is) ?_) | walk1))
  refine ListComp_DCn (h₀ := s₁.heap) (L := s₁.heap.objs.size) (m := fun y => List.lookup y [(Str.ofString "script", Value.ref a)].reverse) (K := ItemKind.int) (pz := fun _ => true) (d := fun x => PyData.int (x.fmod 1000000)) hBh (by with_unfolding_all rfl) (by decide) (by with_unfolding_all rfl) (by decide) (by with_unfolding_all rfl) ?_ (by intro _; with_unfolding_all rfl)
  refine opq ?_
  intro Q₂ h₂
  repeat' (first | ((with_reducible show wpAny _ _ (eval _ (compEnvC _ _ _ _)) _ _ _); first | refine ldVarK (by assumption) (by assumption) ?_ | refine nameC_K (show Kp _ _ by assumption) (by assumption) (by assumption) (by k_is) ?_) | walk1 | (dsimp only; first | ((with_reducible show wpAny _ _ (eval _ (compEnvC _ _ _ _)) _ _ _); first | refine ldVarK (by assumption) (by assumption) ?_ | refine nameC_K (show Kp _ _ by assumption) (by assumption) (by assumption) (by k_is) ?_) | walk1))
  rename Fr _ _ _ _ => F₂
  rename News _ _ _ _ => N₂
  rename IntsAre _ (List.take 4 ns) => hi₂
  refine h₂ _ _ ?_
  clear h₂
  try dsimp only
  have hlt4 : (ns.take 4).length ≤ 4 := by rw [List.length_take]; exact Nat.min_le_left _ _
  refine EI4 _ _ _ (ns.take 4) ⟨rfl, News.isList N₂ (.head _), ints_areOf hi₂, leS hlt4 rfl, F₂, N₂, ?_, ?_, ?_⟩
  · focus (rintro C o v s₂ m₂ E' hC ho hP0 hn hm hk₂; refine hid fun hGo => ?_; rcases hP0 with ⟨to, rfl⟩; all_goals (refine hGo ?_; clear hGo))
    exact wpAny_tests_nil ⟨rfl, _, _, rfl, fun _ _ e => e⟩
  · focus (rintro C o v s₂ m₂ E' hC ho hP0 hp hn hm hk₂; refine hid fun hGo => ?_; rcases hP0 with ⟨to, rfl⟩; all_goals (refine hGo ?_; clear hGo))
    refine opq ?_
    intro Q₇ h₇
    repeat' (first | ((with_reducible show wpAny _ _ (eval _ (compEnvC _ _ _ _)) _ _ _); first | refine ldVarK (by assumption) (by assumption) ?_ | refine nameC_K (show Kp _ _ by assumption) (by assumption) (by assumption) (by k_is) ?_) | walk1 | (dsimp only; first | ((with_reducible show wpAny _ _ (eval _ (compEnvC _ _ _ _)) _ _ _); first | refine ldVarK (by assumption) (by assumption) ?_ | refine nameC_K (show Kp _ _ by assumption) (by assumption) (by assumption) (by k_is) ?_) | walk1))
    refine h₇ _ _ ⟨.int _ _, _, _, rfl, fun _ _ e => e⟩
  · intro D₁ ys h₃ tk₃ F₃ N₃ hb₁ hl₁ hp₁ hc₁
    focus (refine hid fun hGo => ?_; obtain ⟨n₁, N₄, hne₁⟩ := News.new F₃ N₃ hp₁ hb₁; all_goals (refine hGo ?_; clear hGo))
    have hys : IntsAre ys ((ns.take 4).map fun x => x.fmod 1000000) := ints_of_carried (by
      have := hc₁
      rw [List.filter_eq_self.mpr (fun _ _ => rfl)] at this
      rw [List.map_map]; exact this)
    have hyl : ys.length ≤ 4 := by rw [hys.length, List.length_map]; exact hlt4
    (first | ((with_reducible show wpAny _ _ (eval _ (compEnvC _ _ _ _)) _ _ _); first | refine ldVarK (by assumption) (by assumption) ?_ | refine nameC_K (show Kp _ _ by assumption) (by assumption) (by assumption) (by k_is) ?_) | walk1)
    refine ⟨X.keeps F₃.keep, ?_⟩
    try dsimp only
    have hlD : h₃.IsList D₁ ys.toArray := News.isList N₄ (.head _)
    refine drawn_spec (vs := ys) ?g (hBf.le (Nat.le_of_ble_eq_true rfl) (Nat.le_of_ble_eq_true rfl)) ?l hys (leK hyl rfl) ?_
    case g => exact G₀.keeps F₃.keep
    case l => exact hlD
    intro h₄ tk₄ D₂ us₂ n₂ k₂ hn₂ ho₂ hus₂
    focus (refine hid fun hGo => ?_; obtain ⟨F₅, N₅, _⟩ := News.got F₃ N₄ k₂ hn₂ ho₂; all_goals (refine hGo ?_; clear hGo))
    have N₅ : News s₁.heap s₁.heap.objs.size h₄ [(D₂, W.listOf us₂ n₂)] := fun p hp => N₅ p (by rw [List.mem_singleton.mp hp]; exact .head _)
    focus (refine hid fun hGo => ?_; obtain ⟨hd1, hd2, hd3⟩ := drawn_ok ((ns.take 4).map fun x => x.fmod 1000000); all_goals (refine hGo ?_; clear hGo))
    rw [List.length_map] at hd3
    generalize hds : drawnL ((ns.take 4).map fun x => x.fmod 1000000) = ds at hus₂ hd1 hd2 hd3
    have hd7 : ds.length ≤ 7 := Nat.le_trans hd3 (Nat.add_le_add_left hlt4 3)
    have hul : us₂.toList.length ≤ 7 := by rw [hus₂.length]; exact hd7
    clear F₃ N₄ k₂ hn₂ ho₂ hlD hl₁ hp₁ hc₁ hne₁ F₂ N₂
    repeat' (first | ((with_reducible show wpAny _ _ (eval _ (compEnvC _ _ _ _)) _ _ _); first | refine ldVarK (by assumption) (by assumption) ?_ | refine nameC_K (show Kp _ _ by assumption) (by assumption) (by assumption) (by k_is) ?_) | walk1 | (dsimp only; first | ((with_reducible show wpAny _ _ (eval _ (compEnvC _ _ _ _)) _ _ _); first | refine ldVarK (by assumption) (by assumption) ?_ | refine nameC_K (show Kp _ _ by assumption) (by assumption) (by assumption) (by k_is) ?_) | walk1))
    refine hn₁ _ ?_
    clear hn₁ hr₁ hb₁ hc₁
    try dsimp only
    rename Fr _ _ _ _ => F₆
    rename News _ _ _ _ => N₆
    refine execs_seq ?_
    intro Q₁ hn₁ hr₁ hb₁ hc₁
    repeat' (first | ((with_reducible show wpAny _ _ (eval _ (compEnvC _ _ _ _)) _ _ _); first | refine ldVarK (by assumption) (by assumption) ?_ | refine nameC_K (show Kp _ _ by assumption) (by assumption) (by assumption) (by k_is) ?_) | walk1 | (dsimp only; first | ((with_reducible show wpAny _ _ (eval _ (compEnvC _ _ _ _)) _ _ _); first | refine ldVarK (by assumption) (by assumption) ?_ | refine nameC_K (show Kp _ _ by assumption) (by assumption) (by assumption) (by k_is) ?_) | walk1))
    try dsimp only
    refine closed_spec (vs := us₂.toList) (ds := ds) ?g (hBf.le (Nat.le_of_ble_eq_true rfl) (Nat.le_of_ble_eq_true rfl)) ?l hus₂ (leK hul rfl) ?_
    case g => exact G₀.keeps F₆.keep
    case l => rw [Array.toArray_toList]; exact News.isList N₆ (.head _)
    intro h₇ tk₇ D₃ us₃ n₃ k₃ hn₃ ho₃ hus₃
    focus (refine hid fun hGo => ?_; obtain ⟨F₈, N₈, _⟩ := News.got F₆ N₆ k₃ hn₃ ho₃; all_goals (refine hGo ?_; clear hGo))
    focus (refine hid fun hGo => ?_; obtain ⟨hw1, hw2, hw3⟩ := closed_words hd1 hd2; all_goals (refine hGo ?_; clear hGo))
    generalize hcl : closedL ds = row at hus₃ hw1 hw2 hw3
    have hr63 := inR_length hw3 hw2
    have hf100 : row.length + 1 ≤ 100 := leK (Nat.succ_le_succ hr63) rfl
    have hdep : 303 ≤ 900 - 3 * (row.length + 1) := ar_dep hr63
    have hunt : 10 ≤ 6000 - 20 * (row.length + 1) := ar_unt hr63
    have hwl : ∀ g : Int → Str, (row.map g).length < row.length + 1 := fun g => by rw [List.length_map]; exact Nat.lt_succ_self _
    clear k₃ hn₃ ho₃
    repeat' (first | ((with_reducible show wpAny _ _ (eval _ (compEnvC _ _ _ _)) _ _ _); first | refine ldVarK (by assumption) (by assumption) ?_ | refine nameC_K (show Kp _ _ by assumption) (by assumption) (by assumption) (by k_is) ?_) | walk1 | (dsimp only; first | ((with_reducible show wpAny _ _ (eval _ (compEnvC _ _ _ _)) _ _ _); first | refine ldVarK (by assumption) (by assumption) ?_ | refine nameC_K (show Kp _ _ by assumption) (by assumption) (by assumption) (by k_is) ?_) | walk1))
    refine hn₁ _ ?_
    clear hn₁ hr₁ hb₁ hc₁
    try dsimp only
    rename Fr _ _ _ _ => F₉
    rename News _ _ _ _ => N₉
    refine execs_seq ?_
    intro Q₁ hn₁ hr₁ hb₁ hc₁
    iterate 5 (first | ((with_reducible show wpAny _ _ (eval _ (compEnvC _ _ _ _)) _ _ _); first | refine ldVarK (by assumption) (by assumption) ?_ | refine nameC_K (show Kp _ _ by assumption) (by assumption) (by assumption) (by k_is) ?_) | walk1 | (dsimp only; first | ((with_reducible show wpAny _ _ (eval _ (compEnvC _ _ _ _)) _ _ _); first | refine ldVarK (by assumption) (by assumption) ?_ | refine nameC_K (show Kp _ _ by assumption) (by assumption) (by assumption) (by k_is) ?_) | walk1))
    refine ListComp_DCn (h₀ := s₁.heap) (L := s₁.heap.objs.size) (m := fun y => if y = Str.ofString "row" then some (.ref D₃) else if y = Str.ofString "drawn" then some (.ref D₂) else List.lookup y [(Str.ofString "script", Value.ref a)].reverse) (K := ItemKind.int) (pz := fun _ => true) (d := fun x => PyData.str (wordS x)) hBh (by with_unfolding_all rfl) (by decide) (by with_unfolding_all rfl) (by decide) (by with_unfolding_all rfl) ?_ (by intro _; with_unfolding_all rfl)
    (first | ((with_reducible show wpAny _ _ (eval _ (compEnvC _ _ _ _)) _ _ _); first | refine ldVarK (by assumption) (by assumption) ?_ | refine nameC_K (show Kp _ _ by assumption) (by assumption) (by assumption) (by k_is) ?_) | walk1)
    try dsimp only
    refine EI4 _ _ (us₂.toList) ds ⟨rfl, by rw [Array.toArray_toList]; exact News.isList N₉ (.tail _ (.head _)), ints_areOf hus₂, leS hd7 rfl, F₉, N₉, ?_, ?_, ?_⟩
    · focus (rintro C o v s₂ m₂ E' hC ho hP0 hn hm hk₂; refine hid fun hGo => ?_; rcases hP0 with ⟨to, rfl⟩; all_goals (refine hGo ?_; clear hGo))
      exact wpAny_tests_nil ⟨rfl, _, _, rfl, fun _ _ e => e⟩
    · focus (rintro C o v s₂ m₂ E' hC ho hP0 hp hn hm hk₂; refine hid fun hGo => ?_; rcases hP0 with ⟨to, rfl⟩; all_goals (refine hGo ?_; clear hGo))
      have up : Kp _ s₂.heap := hk₂
      have F₁₀ := Fr.keeps F₉ up
      have N₁₀ := News.grown N₉ up
      have hG9 := G₀.keeps F₉.keep
      have hG10 := hG9.keeps up
      have X₅ := hG9.X
      focus (refine hid fun hGo => ?_; obtain ⟨mg₅, mb₅, T₅⟩ := hG9.T; all_goals (refine hGo ?_; clear hGo))
      have ho1 := hd1 o ho
      refine opq ?_
      intro Q₇ h₇
      repeat' (first | ((with_reducible show wpAny _ _ (eval _ (compEnvC _ _ _ _)) _ _ _); first | refine ldVarK (by assumption) (by assumption) ?_ | refine nameC_K (show Kp _ _ by assumption) (by assumption) (by assumption) (by k_is) ?_) | walk1 | (dsimp only; first | ((with_reducible show wpAny _ _ (eval _ (compEnvC _ _ _ _)) _ _ _); first | refine ldVarK (by assumption) (by assumption) ?_ | refine nameC_K (show Kp _ _ by assumption) (by assumption) (by assumption) (by k_is) ?_) | walk1))
      refine word_spec (s := s₂) hG10 (hBf.le (Nat.le_of_ble_eq_true rfl) (Nat.le_of_ble_eq_true rfl)) (ar_pos ho1.1) (ar_64 ho1.2) ?_
      intro h' tk' t' k'
      exact h₇ _ _ ⟨.str _ _, h', tk', rfl, k'⟩
    · intro D₄ ys₄ h₁₀ tk₁₀ F₁₀ N₁₀ hb₄ hl₄ hp₄ hc₄
      focus (refine hid fun hGo => ?_; obtain ⟨n₄, N₁₁, _⟩ := News.new F₁₀ N₁₀ hp₄ hb₄; all_goals (refine hGo ?_; clear hGo))
      have hys₄ : StrsAre ys₄ (ds.map wordS) := strs_of_carried (by
        have := hc₄
        rw [List.filter_eq_self.mpr (fun _ _ => rfl)] at this
        rw [List.map_map]; exact this)
      clear hc₄ hp₄ hl₄
      (first | ((with_reducible show wpAny _ _ (eval _ (compEnvC _ _ _ _)) _ _ _); first | refine ldVarK (by assumption) (by assumption) ?_ | refine nameC_K (show Kp _ _ by assumption) (by assumption) (by assumption) (by k_is) ?_) | walk1)
      refine ⟨X.keeps F₁₀.keep, ?_⟩
      try dsimp only
      have hl4 : h₁₀.IsList D₄ ys₄.toArray := News.isList N₁₁ (.head _)
      have hwok : ∀ x ∈ ds.map wordS, WOk x := fun x hx => by
        focus (refine hid fun hGo => ?_; obtain ⟨o, ho, rfl⟩ := List.mem_map.mp hx; all_goals (refine hGo ?_; clear hGo))
        exact word_ok (hd1 o ho)
      refine begs_spec (vs := ys₄) (ws := ds.map wordS) ?g (hBf.le (Nat.le_of_ble_eq_true rfl) (Nat.le_of_ble_eq_true rfl)) ?l hys₄ (by rw [hys₄.length, List.length_map]; exact leK hd7 rfl) (fun x hx => (hwok x hx).1) ?_
      case g => exact G₀.keeps F₁₀.keep
      case l => exact hl4
      intro h₁₁ tk₁₁ D₅ us₅ n₅ k₅ hn₅ ho₅ hus₅
      focus (refine hid fun hGo => ?_; obtain ⟨F₁₂, N₁₂, _⟩ := News.got F₁₀ N₁₁ k₅ hn₅ ho₅; all_goals (refine hGo ?_; clear hGo))
      rw [← hw1] at hus₅
      have hrok : ∀ x ∈ row.map wordS, WOk x := fun x hx => by
        focus (refine hid fun hGo => ?_; obtain ⟨o, ho, rfl⟩ := List.mem_map.mp hx; all_goals (refine hGo ?_; clear hGo))
        exact word_ok (hw2 o ho)
      clear k₅ hn₅ ho₅ F₁₀ N₁₀ N₁₁ hl4
      repeat' (first | ((with_reducible show wpAny _ _ (eval _ (compEnvC _ _ _ _)) _ _ _); first | refine ldVarK (by assumption) (by assumption) ?_ | refine nameC_K (show Kp _ _ by assumption) (by assumption) (by assumption) (by k_is) ?_) | walk1 | (dsimp only; first | ((with_reducible show wpAny _ _ (eval _ (compEnvC _ _ _ _)) _ _ _); first | refine ldVarK (by assumption) (by assumption) ?_ | refine nameC_K (show Kp _ _ by assumption) (by assumption) (by assumption) (by k_is) ?_) | walk1))
      refine hn₁ _ ?_
      clear hn₁ hr₁ hb₁ hc₁
      try dsimp only
      rename Fr _ _ _ _ => F₁₃
      rename News _ _ _ _ => N₁₃
      refine execs_seq ?_
      intro Q₁ hn₁ hr₁ hb₁ hc₁
      refine wpAny_If ?_
      refine opq ?_
      intro Q₈ h₈
      (first | ((with_reducible show wpAny _ _ (eval _ (compEnvC _ _ _ _)) _ _ _); first | refine ldVarK (by assumption) (by assumption) ?_ | refine nameC_K (show Kp _ _ by assumption) (by assumption) (by assumption) (by k_is) ?_) | walk1)
      refine ListComp_DCn (h₀ := s₁.heap) (L := s₁.heap.objs.size) (m := fun y => if y = Str.ofString "due" then some (.ref D₅) else if y = Str.ofString "row" then some (.ref D₃) else if y = Str.ofString "drawn" then some (.ref D₂) else List.lookup y [(Str.ofString "script", Value.ref a)].reverse) (K := ItemKind.int) (pz := fun _ => true) (d := fun x => PyData.str (wordS x)) hBh (by with_unfolding_all rfl) (by decide) (by with_unfolding_all rfl) (by decide) (by with_unfolding_all rfl) ?_ (by intro _; with_unfolding_all rfl)
      (first | ((with_reducible show wpAny _ _ (eval _ (compEnvC _ _ _ _)) _ _ _); first | refine ldVarK (by assumption) (by assumption) ?_ | refine nameC_K (show Kp _ _ by assumption) (by assumption) (by assumption) (by k_is) ?_) | walk1)
      try dsimp only
      refine EI4 _ _ (us₃.toList) row ⟨rfl, by rw [Array.toArray_toList]; exact News.isList N₁₃ (.tail _ (.tail _ (.head _))), ints_areOf hus₃, leS hr63 rfl, F₁₃, N₁₃, ?_, ?_, ?_⟩
      · focus (rintro C o v s₂ m₂ E' hC ho hP0 hn hm hk₂; refine hid fun hGo => ?_; rcases hP0 with ⟨to, rfl⟩; all_goals (refine hGo ?_; clear hGo))
        exact wpAny_tests_nil ⟨rfl, _, _, rfl, fun _ _ e => e⟩
      · focus (rintro C o v s₂ m₂ E' hC ho hP0 hp hn hm hk₂; refine hid fun hGo => ?_; rcases hP0 with ⟨to, rfl⟩; all_goals (refine hGo ?_; clear hGo))
        have up : Kp _ s₂.heap := hk₂
        have F₁₀ := Fr.keeps F₁₃ up
        have N₁₀ := News.grown N₁₃ up
        have hG9 := G₀.keeps F₁₃.keep
        have hG10 := hG9.keeps up
        have X₅ := hG9.X
        focus (refine hid fun hGo => ?_; obtain ⟨mg₅, mb₅, T₅⟩ := hG9.T; all_goals (refine hGo ?_; clear hGo))
        have ho1 := hw2 o ho
        refine opq ?_
        intro Q₇ h₇
        repeat' (first | ((with_reducible show wpAny _ _ (eval _ (compEnvC _ _ _ _)) _ _ _); first | refine ldVarK (by assumption) (by assumption) ?_ | refine nameC_K (show Kp _ _ by assumption) (by assumption) (by assumption) (by k_is) ?_) | walk1 | (dsimp only; first | ((with_reducible show wpAny _ _ (eval _ (compEnvC _ _ _ _)) _ _ _); first | refine ldVarK (by assumption) (by assumption) ?_ | refine nameC_K (show Kp _ _ by assumption) (by assumption) (by assumption) (by k_is) ?_) | walk1))
        refine word_spec (s := s₂) hG10 (hBf.le (Nat.le_of_ble_eq_true rfl) (Nat.le_of_ble_eq_true rfl)) (ar_pos ho1.1) (ar_64 ho1.2) ?_
        intro h' tk' t' k'
        exact h₇ _ _ ⟨.str _ _, h', tk', rfl, k'⟩
      · intro D₆ ys₆ h₁₄ tk₁₄ F₁₄ N₁₄ hb₆ hl₆ hp₆ hc₆
        focus (refine hid fun hGo => ?_; obtain ⟨n₆, N₁₅, _⟩ := News.new F₁₄ N₁₄ hp₆ hb₆; all_goals (refine hGo ?_; clear hGo))
        have hys₆ : StrsAre ys₆ (row.map wordS) := strs_of_carried (by
          have := hc₆
          rw [List.filter_eq_self.mpr (fun _ _ => rfl)] at this
          rw [List.map_map]; exact this)
        clear hc₆ hp₆ hl₆ N₁₄
        iterate 1 (first | ((with_reducible show wpAny _ _ (eval _ (compEnvC _ _ _ _)) _ _ _); first | refine ldVarK (by assumption) (by assumption) ?_ | refine nameC_K (show Kp _ _ by assumption) (by assumption) (by assumption) (by k_is) ?_) | walk1 | (dsimp only; first | ((with_reducible show wpAny _ _ (eval _ (compEnvC _ _ _ _)) _ _ _); first | refine ldVarK (by assumption) (by assumption) ?_ | refine nameC_K (show Kp _ _ by assumption) (by assumption) (by assumption) (by k_is) ?_) | walk1))
        try dsimp only
        have hu : BA.units + 64 < cLine := ar_line hBf.2.2.1 rfl
        refine ne_strs (xs := ys₆) (ys := us₅.toList) (News.isList N₁₅ (.head _)) (by rw [Array.toArray_toList]; exact News.isList N₁₅ (.tail _ (.head _))) hys₆ hus₅ (fun y hy => str_can (hrok y hy)) (fun y hy => str_can (hrok y hy)) hu ?_
        repeat' (first | ((with_reducible show wpAny _ _ (eval _ (compEnvC _ _ _ _)) _ _ _); first | refine ldVarK (by assumption) (by assumption) ?_ | refine nameC_K (show Kp _ _ by assumption) (by assumption) (by assumption) (by k_is) ?_) | walk1 | (dsimp only; first | ((with_reducible show wpAny _ _ (eval _ (compEnvC _ _ _ _)) _ _ _); first | refine ldVarK (by assumption) (by assumption) ?_ | refine nameC_K (show Kp _ _ by assumption) (by assumption) (by assumption) (by k_is) ?_) | walk1))
        refine h₈ _ _ ?_
        clear h₈
        rw [if_neg (by simp)]
        refine wpAny_execs_nil ?_
        refine hn₁ _ ?_
        clear hn₁ hr₁ hb₁ hc₁
        try dsimp only
        refine wpAny_execs_cons ?_
        iterate 2 (first | ((with_reducible show wpAny _ _ (eval _ (compEnvC _ _ _ _)) _ _ _); first | refine ldVarK (by assumption) (by assumption) ?_ | refine nameC_K (show Kp _ _ by assumption) (by assumption) (by assumption) (by k_is) ?_) | walk1 | (dsimp only; first | ((with_reducible show wpAny _ _ (eval _ (compEnvC _ _ _ _)) _ _ _); first | refine ldVarK (by assumption) (by assumption) ?_ | refine nameC_K (show Kp _ _ by assumption) (by assumption) (by assumption) (by k_is) ?_) | walk1))
        refine ListComp_DCn (h₀ := s₁.heap) (L := s₁.heap.objs.size) (m := fun y => if y = Str.ofString "due" then some (.ref D₅) else if y = Str.ofString "row" then some (.ref D₃) else if y = Str.ofString "drawn" then some (.ref D₂) else List.lookup y [(Str.ofString "script", Value.ref a)].reverse) (K := ItemKind.int) (pz := fun _ => true) (d := fun x => PyData.str (wordS x)) hBh (by with_unfolding_all rfl) (by decide) (by with_unfolding_all rfl) (by decide) (by with_unfolding_all rfl) ?_ (by intro _; with_unfolding_all rfl)
        refine opq ?_
        intro Q₉ h₉
        repeat' (first | ((with_reducible show wpAny _ _ (eval _ (compEnvC _ _ _ _)) _ _ _); first | refine ldVarK (by assumption) (by assumption) ?_ | refine nameC_K (show Kp _ _ by assumption) (by assumption) (by assumption) (by k_is) ?_) | walk1 | (dsimp only; first | ((with_reducible show wpAny _ _ (eval _ (compEnvC _ _ _ _)) _ _ _); first | refine ldVarK (by assumption) (by assumption) ?_ | refine nameC_K (show Kp _ _ by assumption) (by assumption) (by assumption) (by k_is) ?_) | walk1))
        try dsimp only
        refine pile_spec (L := s₁.heap.objs.size) (vs := us₃.toList) (row := row) (nr := n₃) (outer := [_]) G₀ (hBf.wide (Nat.le_of_ble_eq_true rfl) (Nat.le_of_ble_eq_true rfl)) F₁₄ N₁₅ (fun y hy => by rw [List.mem_singleton.mp hy]; exact ⟨rfl, rfl⟩) (by rw [Array.toArray_toList]; exact .tail _ (.tail _ (.tail _ (.head _)))) hus₃ hw3 hw2 ?_
        intro h₁₆ tk₁₆ D₇ us₇ n₇ F₁₆ N₁₆ hus₇ hlt₇
        have hsl := strets_len (pre_ok hw3 hw2)
        have hsl1000 : (stretI preI row.length row).length ≤ 1000 := leK (Nat.le_trans hsl hr63) rfl
        have hsm : ∀ o ∈ stretI preI row.length row, InR o := fun o ho => hw2 o (stretI_mem _ _ o ho)
        generalize hst : stretI preI row.length row = st at hus₇ hsl hsl1000 hsm
        refine h₉ _ _ ?_
        clear h₉
        try dsimp only
        refine EI4 _ D₇ (us₇.toList) st ⟨rfl, by rw [Array.toArray_toList]; exact News.isList N₁₆ (.head _), ints_areOf hus₇, leS hsl1000 rfl, F₁₆, N₁₆, ?_, ?_, ?_⟩
        · focus (rintro C o v s₂ m₂ E' hC ho hP0 hn hm hk₂; refine hid fun hGo => ?_; rcases hP0 with ⟨to, rfl⟩; all_goals (refine hGo ?_; clear hGo))
          exact wpAny_tests_nil ⟨rfl, _, _, rfl, fun _ _ e => e⟩
        · focus (rintro C o v s₂ m₂ E' hC ho hP0 hp hn hm hk₂; refine hid fun hGo => ?_; rcases hP0 with ⟨to, rfl⟩; all_goals (refine hGo ?_; clear hGo))
          have up : Kp _ s₂.heap := hk₂
          have F₁₀ := Fr.keeps F₁₆ up
          have N₁₀ := News.grown N₁₆ up
          have hG9 := G₀.keeps F₁₆.keep
          have hG10 := hG9.keeps up
          have X₅ := hG9.X
          focus (refine hid fun hGo => ?_; obtain ⟨mg₅, mb₅, T₅⟩ := hG9.T; all_goals (refine hGo ?_; clear hGo))
          have ho1 := hsm o ho
          refine opq ?_
          intro Q₇ h₇
          repeat' (first | ((with_reducible show wpAny _ _ (eval _ (compEnvC _ _ _ _)) _ _ _); first | refine ldVarK (by assumption) (by assumption) ?_ | refine nameC_K (show Kp _ _ by assumption) (by assumption) (by assumption) (by k_is) ?_) | walk1 | (dsimp only; first | ((with_reducible show wpAny _ _ (eval _ (compEnvC _ _ _ _)) _ _ _); first | refine ldVarK (by assumption) (by assumption) ?_ | refine nameC_K (show Kp _ _ by assumption) (by assumption) (by assumption) (by k_is) ?_) | walk1))
          refine word_spec (s := s₂) hG10 (hBf.le (Nat.le_of_ble_eq_true rfl) (Nat.le_of_ble_eq_true rfl)) (ar_pos ho1.1) (ar_64 ho1.2) ?_
          intro h' tk' t' k'
          exact h₇ _ _ ⟨.str _ _, h', tk', rfl, k'⟩
        · intro D₈ ys₈ h₁₈ tk₁₈ F₁₈ N₁₈ hb₈ hl₈ hp₈ hc₈
          focus (refine hid fun hGo => ?_; obtain ⟨n₈, N₁₉, _⟩ := News.new F₁₈ N₁₈ hp₈ hb₈; all_goals (refine hGo ?_; clear hGo))
          have hys₈ : StrsAre ys₈ (st.map wordS) := strs_of_carried (by
            have := hc₈
            rw [List.filter_eq_self.mpr (fun _ _ => rfl)] at this
            rw [List.map_map]; exact this)
          clear hc₈ hp₈ hl₈ N₁₈
          repeat' (first | ((with_reducible show wpAny _ _ (eval _ (compEnvC _ _ _ _)) _ _ _); first | refine ldVarK (by assumption) (by assumption) ?_ | refine nameC_K (show Kp _ _ by assumption) (by assumption) (by assumption) (by k_is) ?_) | walk1 | (dsimp only; first | ((with_reducible show wpAny _ _ (eval _ (compEnvC _ _ _ _)) _ _ _); first | refine ldVarK (by assumption) (by assumption) ?_ | refine nameC_K (show Kp _ _ by assumption) (by assumption) (by assumption) (by k_is) ?_) | walk1))
          try dsimp only
          have hirr := (pre_ok hw3 hw2).irr
          have hsf : strF (row.length + 1) (row.map wordS) = st.map wordS := by
            rw [← strets_words _ _ hw2, stretI_fuel row.length row (row.length + 1) hirr (Nat.le_refl _) (Nat.le_succ _), hst]
          have hsz1000 : (strF (row.length + 1) (row.map wordS)).length ≤ 1000 := by rw [hsf, List.length_map]; exact hsl1000
          refine strets_spec (row.length + 1) (vs := us₅.toList) (ws := row.map wordS) hf100 ?g (hBf.le hdep hunt) ?l hus₅ (hwl _) hrok hsz1000 ?_
          case g => exact G₀.keeps F₁₈.keep
          case l => rw [Array.toArray_toList]; exact News.isList N₁₉ (.tail _ (.tail _ (.tail _ (.head _))))
          intro h₂₀ tk₂₀ D₉ us₉ n₉ k₉ hn₉ ho₉ hus₉
          focus (refine hid fun hGo => ?_; obtain ⟨F₂₁, N₂₁, _⟩ := News.got F₁₈ N₁₉ k₉ hn₉ ho₉; all_goals (refine hGo ?_; clear hGo))
          rw [hsf] at hus₉
          have hcan9 : ∀ y ∈ st.map wordS, (PyData.str y).canLay0 = true := fun y hy => by
            focus (refine hid fun hGo => ?_; obtain ⟨o, ho, rfl⟩ := List.mem_map.mp hy; all_goals (refine hGo ?_; clear hGo))
            exact str_can (word_ok (hsm o ho))
          clear k₉ hn₉ ho₉
          refine eq_strs (xs := ys₈) (ys := us₉.toList) (News.isList N₂₁ (.tail _ (.head _))) (by rw [Array.toArray_toList]; exact News.isList N₂₁ (.head _)) hys₈ hus₉ hcan9 hcan9 hu ?_
          refine h₀ _ _ ?_
          rw [decide_eq_true (rfl : st.map wordS = st.map wordS)]
          dsimp only
          first | (exact goodW_bool F₂₁ (by assumption) (raisesW_false (by wrow_none_raised)) rfl) | (wrow_close; trace "CLOSED wrow") | trace_state

end Mine
theorem PySem.Challenge.cw_mq0311_01_holds : PySem.Challenge.rw_mq0311_01.Holds :=
  Mine.law_holds
