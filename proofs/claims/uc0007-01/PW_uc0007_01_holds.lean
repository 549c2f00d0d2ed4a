import PyProof.Rows.All
import Wide.All
import OpenK.AllK
import Wide.FinOn
import PySem.Challenge.RW_uc0007_01
open PySem PySem.W PySem.Calls PyProof.Rows
set_option Elab.async false
set_option maxRecDepth 100000
set_option maxHeartbeats 0
set_option compiler.extract_closed false
namespace Mine
open_top hd for PySem.Challenge.rw_uc0007_01.row
theorem top_off : True := by
  w_top off
  trivial
section

noncomputable def NoE : Value → Shared → Prop := fun _ _ => False
theorem noE {α : Type} {M : Model} {A : Around} {t : Sem α} {Q : α → Shared → Prop} {E : Value → Shared → Prop} {s : Shared} (h : wpAny M A t Q NoE s) : wpAny M A t Q E s :=
  wpAny_mono h (fun _ _ x => x) (fun _ _ x => x.elim)

-- a list_iterator's object
noncomputable def IsIt (o : Obj) (l : Addr) (i : Nat) : Prop := o.cls = .type "list_iterator" ∧ o.data = .fields #[.ref l, .int i 0]

-- a frame's map with some names' values replaced
noncomputable def up (l : List (Str × Option Value)) (m : Str → Option Value) : Str → Option Value := fun z => match l.lookup z with
  | some v => v
  | none => m z
theorem up_self (m : Str → Option Value) : ∀ ys : List Str, up (ys.zip (ys.map m)) m = m := by
  intro ys
  funext z
  unfold up
  induction ys with
  | nil => rfl
  | cons y r ih =>
    simp only [List.map_cons, List.zip_cons_cons, List.lookup_cons]
    cases h : z == y with
    | true => have e : z = y := eq_of_beq h; subst e; rfl
    | false => exact ih

inductive EndLN (h₀ : Heap) (L : Addr) (I : Addr) (o : Obj) (J : (Str → Option Value) → List (Addr × Obj) → Prop) (s₁ : Shared) : Shared → Prop
  | mk (h' : Heap) (tk : Nat) (m' : Str → Option Value) (news' : List (Addr × Obj)) (F : Fr h₀ L h' m') (N : News h₀ L h' ((I, o) :: news')) (j : J m' news') : EndLN h₀ L I o J s₁ { s₁ with heap := h', toks := tk }
noncomputable def EndL (h₀ : Heap) (L : Addr) (I : Addr) (o : Obj) (J : (Str → Option Value) → List (Addr × Obj) → Prop) (s₁ : Shared) (Q : Flow → Shared → Prop) (f : Flow) (s' : Shared) : Prop :=
  match f with
  | .ret v => Q (.ret v) s'
  | .brk => Q .next s'
  | _ => EndLN h₀ L I o J s₁ s'
-- the names ys hold vals now, all others what they held
inductive UpJ (ys : List Str) (m : Str → Option Value) (K : List (Option Value) → List (Addr × Obj) → Prop) (m' : Str → Option Value) (n : List (Addr × Obj)) : Prop
  | mk (vals : List (Option Value)) (h : K vals n) (e : m' = up (ys.zip vals) m) : UpJ ys m K m' n
-- the same, with a measure that falls
inductive UpC (ys : List Str) (m : Str → Option Value) (K : Nat → List (Option Value) → List (Addr × Obj) → Prop) (k : Nat) (m' : Str → Option Value) (n : List (Addr × Obj)) : Prop
  | mk (k' : Nat) (lt : k' < k) (vals : List (Option Value)) (h : K k' vals n) (e : m' = up (ys.zip vals) m) : UpC ys m K k m' n

theorem EndL.next {h₀ : Heap} {L I : Addr} {o : Obj} {J : (Str → Option Value) → List (Addr × Obj) → Prop} {s₁ : Shared} {Q : Flow → Shared → Prop} {h' : Heap} {tk : Nat} {m' : Str → Option Value} {news' led : List (Addr × Obj)}
    (F : Fr h₀ L h' m') (N : News h₀ L h' led) (sub : ∀ p ∈ (I, o) :: news', p ∈ led) (j : J m' news') : EndL h₀ L I o J s₁ Q .next { s₁ with heap := h', toks := tk } :=
  .mk h' tk m' news' F (fun p hp => N p (sub p hp)) j
theorem EndL.cont {h₀ : Heap} {L I : Addr} {o : Obj} {J : (Str → Option Value) → List (Addr × Obj) → Prop} {s₁ : Shared} {Q : Flow → Shared → Prop} {h' : Heap} {tk : Nat} {m' : Str → Option Value} {news' led : List (Addr × Obj)}
    (F : Fr h₀ L h' m') (N : News h₀ L h' led) (sub : ∀ p ∈ (I, o) :: news', p ∈ led) (j : J m' news') : EndL h₀ L I o J s₁ Q .cont { s₁ with heap := h', toks := tk } :=
  .mk h' tk m' news' F (fun p hp => N p (sub p hp)) j

section
variable {prog : Program} {w : World} {A : Around} {s : Shared} {env : Env} {h₀ : Heap}

-- what must be shown of the iterator of a list that stands in the ledger
inductive LoopL (prog : Program) (w : World) (A : Around) (h₀ : Heap) (env : Env) (x : Str) (body : List Stmt) (Q : Flow → Shared → Prop) : Value → Shared → Prop
  | mk (I l : Addr) (vs : Array Value) (ep : Nat) (o : Obj) (m : Str → Option Value) (news : List (Addr × Obj)) (s₂ : Shared) (J : Nat → (Str → Option Value) → List (Addr × Obj) → Prop)
    (hit : IsIt o l 0) (F : Fr h₀ env.locals s₂.heap m) (N : News h₀ env.locals s₂.heap ((I, o) :: news)) (h0 : J 0 m news)
    (hJ : ∀ i m news, J i m news → (l, listOf vs ep) ∈ news ∧ ∀ p ∈ news, p.1 ≠ I)
    (step : ∀ i v m₁ news₁ o₁ h tk, vs[i]? = some v → J i m₁ news₁ → Fr h₀ env.locals h (fun y => if y = x then some v else m₁ y) → News h₀ env.locals h ((I, o₁) :: news₁) →
      wpAny (model prog w) A (execs body env) (EndL h₀ env.locals I o₁ (J (i + 1)) { s₂ with heap := h, toks := tk } Q) NoE { s₂ with heap := h, toks := tk })
    (done : ∀ m' news' h' tk, J vs.size m' news' → Fr h₀ env.locals h' m' → News h₀ env.locals h' news' → Q .next { s₂ with heap := h', toks := tk }) : LoopL prog w A h₀ env x body Q (.ref I) s₂
inductive ForLI (h₀ : Heap) (L I l : Addr) (vs : Array Value) (J : Nat → (Str → Option Value) → List (Addr × Obj) → Prop) (s₂ : Shared) : Nat → Shared → Prop
  | mk (h' : Heap) (tk : Nat) (m' : Str → Option Value) (news' : List (Addr × Obj)) (i : Nat) (o' : Obj) (hit : IsIt o' l i) (F : Fr h₀ L h' m') (N : News h₀ L h' ((I, o') :: news')) (j : J i m' news') (hi : i ≤ vs.size) : ForLI h₀ L I l vs J s₂ (vs.size + 1 - i) { s₂ with heap := h', toks := tk }
theorem forLI_next {L I l : Addr} {vs : Array Value} {J : Nat → (Str → Option Value) → List (Addr × Obj) → Prop} {s₁ s₂ s₃ : Shared} {i : Nat} {o₁ : Obj} (hit : IsIt o₁ l (i + 1)) (hlt : i < vs.size) (h : EndLN h₀ L I o₁ (J (i + 1)) s₁ s₃) (e : ∀ h tk, { s₁ with heap := h, toks := tk } = { s₂ with heap := h, toks := tk }) : ∃ j, j < vs.size + 1 - i ∧ ForLI h₀ L I l vs J s₂ j s₃ := by
  induction h with
  | mk h₄ tk₄ m₄ news₄ F₄ N₄ j₄ => rw [e]; exact ⟨_, by lia, .mk h₄ tk₄ m₄ news₄ (i + 1) o₁ hit F₄ N₄ j₄ hlt⟩

theorem for_L {x : Str} {px pos : Pos} {iter : Expr} {body : List Stmt} {Q : Flow → Shared → Prop} (h₀ : Heap) (hA : A.handled = none) (hx : env.kindOf x = some .local)
    (hp : (env.scope.kind == .class || (env.scope.kind == .module && env.locals != env.globals)) = false)
    (h : wpAny (model prog w) A (eval iter env) (fun xv s₁ => wpAny (model prog w) A (pyIter xv) (fun it s₂ => LoopL prog w A h₀ env x body Q it s₂) NoE s₁) NoE s)
    (hs : ∀ x, foldedSetIterable iter env x = pure x := by intro _; rfl) :
    wpAny (model prog w) A (exec (.For (.Name x px) iter body [] pos) env) Q NoE s := by
  refine wpAny_For (wpAny_mono h (fun xv s₁ h₁ => noE (wpAny_mono h₁ (fun it s₂ h₂ => ?_) fun _ _ e => e)) fun _ _ e => e) hs
  induction h₂ with
  | mk I l vs ep o m news s₂ J hit F N h0 hJ step done =>
  refine codeAny_forLoop (ForLI h₀ env.locals I l vs J s₂) ?_ (vs.size + 1) (.mk s₂.heap s₂.toks m news 0 o hit F N h0 (Nat.zero_le _))
  intro k s' hI
  induction hI with
  | mk h' tk m' news' i o' hit' F' N' hj hi =>
  obtain ⟨hl, hne⟩ := hJ i m' news' hj
  have hIt : h'.IsListIter I l i := ⟨o', (N' _ (List.mem_cons_self ..)).1, hit'.1, hit'.2⟩
  have hL : h'.IsList l vs := ⟨_, (N' _ (List.mem_cons_of_mem _ hl)).1, rfl, ep, rfl⟩
  have hIL := (N' _ (List.mem_cons_self ..)).2.1
  have hIn := (N' _ (List.mem_cons_self ..)).2.2
  by_cases hlt : i < vs.size
  · refine wpAny_pyNext_list_item hIt hL (Array.getElem?_eq_getElem hlt) fun h₁ hit₁ hs₁ => ?_
    obtain ⟨o₁, ho₁, hc₁, hd₁⟩ := hit₁
    have F₁ : Fr h₀ env.locals h₁ m' := F'.change hs₁ hIL hIn
    have N₁ : News h₀ env.locals h₁ ((I, o₁) :: news') := news_set (pre := []) N' (fun _ h => nomatch h) hne hs₁ ho₁
    refine wpAny_assign_Name (wpAny_storeName_local hx F₁.ns (fun h₂ hn₂ hs₂ => ?_) hp)
    refine noE (wpAny_mono (step i _ m' news' o₁ h₂ _ (Array.getElem?_eq_getElem hlt) hj (F₁.set hn₂ hs₂) (N₁.set hs₂)) (fun f s₃ h₃ => ?_) fun _ _ e => e)
    cases f with
    | ret v => exact h₃
    | brk => exact h₃
    | cont => change EndLN _ _ _ _ _ _ _ at h₃; exact forLI_next (s₂ := s₂) ⟨hc₁, hd₁⟩ hlt h₃ (fun _ _ => rfl)
    | next => change EndLN _ _ _ _ _ _ _ at h₃; exact forLI_next (s₂ := s₂) ⟨hc₁, hd₁⟩ hlt h₃ (fun _ _ => rfl)
  · have hin : i = vs.size := Nat.le_antisymm hi (Nat.le_of_not_lt hlt)
    subst hin
    refine wpAny_pyNext_list_end hA hIt hL (Array.getElem?_eq_none (Nat.le_refl _)) fun h₁ hk₁ => wpAny_execs_nil ?_
    refine done m' news' h₁ _ hj ⟨F'.ns.at' fun o e => hk₁ _ o (Ne.symm hIL) e, fun b o e => hk₁ b o (fun q => by rw [q, hIn] at e; cases e) (F'.keep b o e), F'.above⟩ fun p hp => ⟨hk₁ _ _ (hne p hp) (N' _ (List.mem_cons_of_mem _ hp)).1, (N' _ (List.mem_cons_of_mem _ hp)).2⟩
end

theorem strs_get {vs : List Value} {xs : List Str} (h : StrsAre vs xs) : ∀ {i : Nat} {v : Value}, vs[i]? = some v → ∃ x t, xs[i]? = some x ∧ v = .str x t := by
  induction h with
  | nil => intro i v e; simp at e
  | cons y t h ih =>
    intro i v e
    cases i with
    | zero => simp at e; subst e; exact ⟨_, _, rfl, rfl⟩
    | succ i => simp at e; simpa using ih e
theorem strs_append {vs us : List Value} {xs ys : List Str} (h : StrsAre vs xs) (h' : StrsAre us ys) : StrsAre (vs ++ us) (xs ++ ys) := by
  induction h with
  | nil => exact h'
  | cons y t h ih => exact .cons y t ih
theorem strs_one (x : Str) (t : Tok) : StrsAre [.str x t] [x] := .cons x t .nil
theorem fits_small {i : Int} (h1 : -1000000 ≤ i) (h2 : i ≤ 1000000) : fitsSsize i = true := by
  unfold fitsSsize; simp; lia

-- a contract of the def at f: from any frame, any ledger news; D: how deep it calls
noncomputable def Ct (w : World) (D : Nat) (f : Addr) (args : List Value) (news : List (Addr × Obj)) (Post : Value → List (Addr × Obj) → Prop) : Prop :=
  ∀ (p : Program) (loose : List Str) (mean : ExcName → Option Value) (mg mb : Str → Option Value) (dp un : Nat) (gd : Option (List Code)) (cn : Str) (cs : Scope) (a : Addr) (ccd : Value) (cl : List (Str × Addr)) (outer : List Env) (A₀ : Around) (base h₀ : Heap) (L : Addr) (m : Str → Option Value) (s : Shared) (Q : Value → Shared → Prop),
    Below A₀ base outer h₀ → Fr h₀ L s.heap m → (Mine.hd.heap_1 w.params).In h₀ → News h₀ L s.heap news → Top p loose mean mg mb h₀ → cs.kind = .function → dp + D < recursionLimit → un + 8 * D < cLine →
    (∀ v news' h' tk', Post v news' → Fr h₀ L h' m → News h₀ L h' news' → Q v { s with heap := h', toks := tk' }) →
    wpAny (model PySem.Challenge.rw_uc0007_01.row.prog w) (ktrTop dp un gd cn cs L a ccd cl outer) (call (.ref f) args) Q NoE s

theorem Ct.use {w : World} {D : Nat} {f : Addr} {args : List Value} {news : List (Addr × Obj)} {Post : Value → List (Addr × Obj) → Prop} (h : Ct w D f args news Post)
    {p : Program} {loose : List Str} {mean : ExcName → Option Value} {mg mb : Str → Option Value} {dp un : Nat} {gd : Option (List Code)} {cn : Str} {cs : Scope} {a : Addr} {ccd : Value} {cl : List (Str × Addr)} {outer : List Env} {A₀ : Around} {base h₀ : Heap} {L : Addr} {m : Str → Option Value} {s : Shared} {Q E : Value → Shared → Prop}
    (B : Below A₀ base outer h₀) (F : Fr h₀ L s.heap m) (X : (Mine.hd.heap_1 w.params).In h₀) (N : News h₀ L s.heap news) (T : Top p loose mean mg mb h₀) (hk : cs.kind = .function) (hd : dp + D < recursionLimit) (hu : un + 8 * D < cLine)
    (k : ∀ v news' h' tk', Post v news' → Fr h₀ L h' m → News h₀ L h' news' → Q v { s with heap := h', toks := tk' }) :
    wpAny (model PySem.Challenge.rw_uc0007_01.row.prog w) (ktrTop dp un gd cn cs L a ccd cl outer) (call (.ref f) args) Q E s :=
  noE (h p loose mean mg mb dp un gd cn cs a ccd cl outer A₀ base h₀ L m s Q B F X N T hk hd hu k)

theorem Ct.mono {w : World} {D : Nat} {f : Addr} {args : List Value} {news : List (Addr × Obj)} {P P' : Value → List (Addr × Obj) → Prop} (h : Ct w D f args news P) (e : ∀ u n, P u n → P' u n) : Ct w D f args news P' :=
  fun p loose mean mg mb dp un gd cn cs a ccd cl outer A₀ base h₀ L m s Q B F X N T hk hd hu k => h p loose mean mg mb dp un gd cn cs a ccd cl outer A₀ base h₀ L m s Q B F X N T hk hd hu fun v n h' tk' hp => k v n h' tk' (e v n hp)
-- where the answer and the ledger are known
theorem Ct.useV {w : World} {D : Nat} {f : Addr} {args : List Value} {news news' : List (Addr × Obj)} {v : Value} (h : Ct w D f args news (fun u n => u = v ∧ n = news'))
    {p : Program} {loose : List Str} {mean : ExcName → Option Value} {mg mb : Str → Option Value} {dp un : Nat} {gd : Option (List Code)} {cn : Str} {cs : Scope} {a : Addr} {ccd : Value} {cl : List (Str × Addr)} {outer : List Env} {A₀ : Around} {base h₀ : Heap} {L : Addr} {m : Str → Option Value} {s : Shared} {Q E : Value → Shared → Prop}
    (B : Below A₀ base outer h₀) (F : Fr h₀ L s.heap m) (X : (Mine.hd.heap_1 w.params).In h₀) (N : News h₀ L s.heap news) (T : Top p loose mean mg mb h₀) (hk : cs.kind = .function) (hd : dp + D < recursionLimit) (hu : un + 8 * D < cLine)
    (k : ∀ h' tk', Fr h₀ L h' m → News h₀ L h' news' → Q v { s with heap := h', toks := tk' }) :
    wpAny (model PySem.Challenge.rw_uc0007_01.row.prog w) (ktrTop dp un gd cn cs L a ccd cl outer) (call (.ref f) args) Q E s :=
  h.use B F X N T hk hd hu fun _ _ h' tk' hp F' N' => by rw [hp.1]; rw [hp.2] at N'; exact k h' tk' F' N'
-- where the answer is a str of a token, and the ledger is known
theorem Ct.useS {w : World} {D : Nat} {f : Addr} {args : List Value} {news news' : List (Addr × Obj)} {v : Tok → Value} (h : Ct w D f args news (fun u n => (∃ t, u = v t) ∧ n = news'))
    {p : Program} {loose : List Str} {mean : ExcName → Option Value} {mg mb : Str → Option Value} {dp un : Nat} {gd : Option (List Code)} {cn : Str} {cs : Scope} {a : Addr} {ccd : Value} {cl : List (Str × Addr)} {outer : List Env} {A₀ : Around} {base h₀ : Heap} {L : Addr} {m : Str → Option Value} {s : Shared} {Q E : Value → Shared → Prop}
    (B : Below A₀ base outer h₀) (F : Fr h₀ L s.heap m) (X : (Mine.hd.heap_1 w.params).In h₀) (N : News h₀ L s.heap news) (T : Top p loose mean mg mb h₀) (hk : cs.kind = .function) (hd : dp + D < recursionLimit) (hu : un + 8 * D < cLine)
    (k : ∀ t h' tk', Fr h₀ L h' m → News h₀ L h' news' → Q (v t) { s with heap := h', toks := tk' }) :
    wpAny (model PySem.Challenge.rw_uc0007_01.row.prog w) (ktrTop dp un gd cn cs L a ccd cl outer) (call (.ref f) args) Q E s :=
  h.use B F X N T hk hd hu fun _ _ h' tk' hp F' N' => by
    obtain ⟨⟨t, e⟩, e'⟩ := hp
    rw [e]; rw [e'] at N'; exact k t h' tk' F' N'
theorem storeX_let {M : Model} {A : Around} {E : Value → Shared → Prop} {s : Shared} {h₀ : Heap} {L a : Addr} {m : Str → Option Value} {cn : Str} {cs : Scope} {ccd : Value} {cl : List (Str × Addr)} {x : Str} {v : Value} {Q : Unit → Shared → Prop} {news : List (Addr × Obj)} (F : Fr h₀ L s.heap m) (N : News h₀ L s.heap news)
    (h : ∀ h', let m' := fun y => if y = x then some v else m y; Fr h₀ L h' m' → News h₀ L h' news → Q () { s with heap := h', toks := s.toks + 1 })
    (hk : cs.kind = .function) (hx : (envX cn cs L a ccd cl).kindOf x = some .local) : wpAny M A (storeName (envX cn cs L a ccd cl) x v) Q E s := storeX_L F N h hk hx
theorem room1 {a D k d : Nat} (h : a + D < recursionLimit) (e : Nat.ble (k + d) D = true) : a + k + d < recursionLimit := by
  have := Nat.le_of_ble_eq_true e
  lia
theorem room2 {a D k d : Nat} (h : a + 8 * D < cLine) (e : Nat.ble (k + 8 * d) (8 * D) = true) : a + k + 8 * d < cLine := by
  have := Nat.le_of_ble_eq_true e
  lia
theorem room3 {a D d : Nat} (h : a + D < recursionLimit) (e : Nat.ble d D = true) : a + d < recursionLimit := by
  have := Nat.le_of_ble_eq_true e
  lia
theorem room4 {a D : Nat} (h : a + D < recursionLimit) : a < recursionLimit := by lia
theorem room5 {a D k : Nat} (h : a + D < recursionLimit) (e : Nat.ble k D = true) : a + k < recursionLimit := by
  have := Nat.le_of_ble_eq_true e
  lia
theorem neA {a b : Addr} (h : @LT.lt Nat _ a b) : a ≠ b := Nat.ne_of_lt h
theorem neT {a b c : Addr} (h2 : @LT.lt Nat _ b c) (h1 : @LT.lt Nat _ a b) : a ≠ c := Nat.ne_of_lt (Nat.lt_trans h1 h2)
theorem neU {a b c : Addr} (h2 : @LT.lt Nat _ b c) (h1 : @LT.lt Nat _ a b) : c ≠ a := Nat.ne_of_gt (Nat.lt_trans h1 h2)
theorem pk0 {x r : Prop} (h : x ∧ r) : x := h.1
theorem pk1 {a x r : Prop} (h : a ∧ x ∧ r) : x := h.2.1
theorem pk2 {a b x r : Prop} (h : a ∧ b ∧ x ∧ r) : x := h.2.2.1
theorem pk3 {a b c x r : Prop} (h : a ∧ b ∧ c ∧ x ∧ r) : x := h.2.2.2.1
theorem pk4 {a b c d x r : Prop} (h : a ∧ b ∧ c ∧ d ∧ x ∧ r) : x := h.2.2.2.2.1
theorem pk5 {a b c d e x r : Prop} (h : a ∧ b ∧ c ∧ d ∧ e ∧ x ∧ r) : x := h.2.2.2.2.2.1
theorem pk6 {a b c d e f x r : Prop} (h : a ∧ b ∧ c ∧ d ∧ e ∧ f ∧ x ∧ r) : x := h.2.2.2.2.2.2.1
theorem pk7 {a b c d e f g x r : Prop} (h : a ∧ b ∧ c ∧ d ∧ e ∧ f ∧ g ∧ x ∧ r) : x := h.2.2.2.2.2.2.2.1
theorem pk8 {a b c d e f g h x r : Prop} (h : a ∧ b ∧ c ∧ d ∧ e ∧ f ∧ g ∧ h ∧ x ∧ r) : x := h.2.2.2.2.2.2.2.2.1
theorem pk9 {a b c d e f g h i x r : Prop} (h : a ∧ b ∧ c ∧ d ∧ e ∧ f ∧ g ∧ h ∧ i ∧ x ∧ r) : x := h.2.2.2.2.2.2.2.2.2.1
theorem pk10 {a b c d e f g h i j x r : Prop} (h : a ∧ b ∧ c ∧ d ∧ e ∧ f ∧ g ∧ h ∧ i ∧ j ∧ x ∧ r) : x := h.2.2.2.2.2.2.2.2.2.2.1
theorem pk11 {a b c d e f g h i j k x r : Prop} (h : a ∧ b ∧ c ∧ d ∧ e ∧ f ∧ g ∧ h ∧ i ∧ j ∧ k ∧ x ∧ r) : x := h.2.2.2.2.2.2.2.2.2.2.2.1
theorem pk12 {a b c d e f g h i j k l x r : Prop} (h : a ∧ b ∧ c ∧ d ∧ e ∧ f ∧ g ∧ h ∧ i ∧ j ∧ k ∧ l ∧ x ∧ r) : x := h.2.2.2.2.2.2.2.2.2.2.2.2.1
theorem sub_appL {l l' : List (Addr × Obj)} : ∀ p ∈ l, p ∈ l ++ l' := fun _ h => List.mem_append_left _ h
theorem sub_appR {l l' : List (Addr × Obj)} : ∀ p ∈ l', p ∈ l ++ l' := fun _ h => List.mem_append_right _ h
theorem ltT {a b c : Addr} (h2 : @LT.lt Nat _ b c) (h1 : @LT.lt Nat _ a b) : @LT.lt Nat _ a c := Nat.lt_trans h1 h2
theorem neV {a b : Addr} (h1 : @LT.lt Nat _ a b) : a ≠ b + 1 := Nat.ne_of_lt (Nat.lt_succ_of_lt h1)
theorem neW {a b : Addr} (h1 : @LT.lt Nat _ a b) : b + 1 ≠ a := Nat.ne_of_gt (Nat.lt_succ_of_lt h1)
theorem neB {a b : Addr} (h : @LT.lt Nat _ b a) : a ≠ b := Nat.ne_of_gt h
theorem add_len {prog : Program} {w : World} {A : Around} {E : Value → Shared → Prop} {s : Shared} {x y : Str} {t u : Tok} {Q : Value → Shared → Prop} {K L : Nat} (hx : x.length ≤ K) (hy : y.length ≤ L) (e : Nat.ble (K + L) 16777216 = true) (h : ∀ t' k, (x ++ y).length ≤ K + L → Q (.str (x ++ y) t') { s with toks := k }) : wpAny (model prog w) A (binaryOp .Add (.str x t) (.str y u)) Q E s :=
  SBL.add (fun t' k h2 => h t' k (Nat.le_trans h2.2 (Nat.add_le_add hx hy))) (Nat.le_trans (Nat.add_le_add hx hy) (Nat.le_of_ble_eq_true e))
theorem iadd_len {prog : Program} {w : World} {A : Around} {E : Value → Shared → Prop} {s : Shared} {x y : Str} {t u : Tok} {Q : Value → Shared → Prop} {K L : Nat} (hx : x.length ≤ K) (hy : y.length ≤ L) (e : Nat.ble (K + L) 16777216 = true) (h : ∀ t' k, (x ++ y).length ≤ K + L → Q (.str (x ++ y) t') { s with toks := k }) : wpAny (model prog w) A (inplaceOp .Add (.str x t) (.str y u)) Q E s :=
  SBL.iadd (fun t' k h2 => h t' k (Nat.le_trans h2.2 (Nat.add_le_add hx hy))) (Nat.le_trans (Nat.add_le_add hx hy) (Nat.le_of_ble_eq_true e))
-- the same of the call's code
noncomputable def CtC (w : World) (D : Nat) (f : Addr) (args : List Value) (news : List (Addr × Obj)) (Post : Value → List (Addr × Obj) → Prop) : Prop :=
  ∀ (p : Program) (loose : List Str) (mean : ExcName → Option Value) (mg mb : Str → Option Value) (dp un : Nat) (gd : Option (List Code)) (cn : Str) (cs : Scope) (a : Addr) (ccd : Value) (cl : List (Str × Addr)) (outer : List Env) (A₀ : Around) (base h₀ : Heap) (L : Addr) (m : Str → Option Value) (s : Shared) (Q : Value → Shared → Prop),
    Below A₀ base outer h₀ → Fr h₀ L s.heap m → (Mine.hd.heap_1 w.params).In h₀ → News h₀ L s.heap news → Top p loose mean mg mb h₀ → cs.kind = .function → dp + D < recursionLimit → un + 8 * D < cLine →
    (∀ v news' h' tk', Post v news' → Fr h₀ L h' m → News h₀ L h' news' → Q v { s with heap := h', toks := tk' }) →
    codeAny (model PySem.Challenge.rw_uc0007_01.row.prog w) (ktrTop dp un gd cn cs L a ccd cl outer) (.call (.ref f) ⟨args, []⟩) (fun r s' => match r with | .ok (.ret v) => Q v s' | .ok _ => False | .error e => NoE e s') s
theorem CtC.ct {w : World} {D : Nat} {f : Addr} {args : List Value} {news : List (Addr × Obj)} {Post : Value → List (Addr × Obj) → Prop} (h : CtC w D f args news Post) : Ct w D f args news Post :=
  fun p loose mean mg mb dp un gd cn cs a ccd cl outer A₀ base h₀ L m s Q B F X N T hk hd hu k => wpAny_call (h p loose mean mg mb dp un gd cn cs a ccd cl outer A₀ base h₀ L m s Q B F X N T hk hd hu k)

section
variable {prog : Program} {w : World} {A : Around} {s : Shared} {env : Env} {h₀ : Heap}
theorem for_LF {x : Str} {px pos : Pos} {iter : Expr} {body : List Stmt} {Q : Flow → Shared → Prop} {L : Addr} {h : Heap} {m : Str → Option Value} (_ : Fr h₀ L h m) (hA : A.handled = none) (hx : env.kindOf x = some .local)
    (hp : (env.scope.kind == .class || (env.scope.kind == .module && env.locals != env.globals)) = false)
    (h : wpAny (model prog w) A (eval iter env) (fun xv s₁ => wpAny (model prog w) A (pyIter xv) (fun it s₂ => LoopL prog w A h₀ env x body Q it s₂) NoE s₁) NoE s)
    (hs : ∀ x, foldedSetIterable iter env x = pure x := by intro _; rfl) :
    wpAny (model prog w) A (exec (.For (.Name x px) iter body [] pos) env) Q NoE s := for_L h₀ hA hx hp h hs

-- what must be shown of a loop over a list of the ledger: ys are the names that a turn changes (the loop's own among them)
structure IterUp (prog : Program) (w : World) (A : Around) (s : Shared) (env : Env) (h₀ : Heap) (x : Str) (body : List Stmt) (Q : Flow → Shared → Prop) (l : Addr) (vs : Array Value) (ep : Nat) (m : Str → Option Value) (ys : List Str) (K : Nat → List (Option Value) → List (Addr × Obj) → Prop) (I : Addr) : Prop where
  mem : ∀ i vals news, K i vals news → (l, listOf vs ep) ∈ news ∧ ∀ p ∈ news, p.1 ≠ I
  step : ∀ i v vals news₁ o₁ h tk, vs[i]? = some v → K i vals news₁ → Fr h₀ env.locals h (fun y => if y = x then some v else up (ys.zip vals) m y) → News h₀ env.locals h ((I, o₁) :: news₁) →
    let q := EndL h₀ env.locals I o₁ (UpJ ys m (K (i + 1))) { s with heap := h, toks := tk } Q
    wpAny (model prog w) A (execs body env) q NoE { s with heap := h, toks := tk }
  done : ∀ vals news' h' tk, K vs.size vals news' → Fr h₀ env.locals h' (up (ys.zip vals) m) → News h₀ env.locals h' news' → Q .next { s with heap := h', toks := tk }
theorem iter_up {x : Str} {body : List Stmt} {Q : Flow → Shared → Prop} {l : Addr} {vs : Array Value} {ep : Nat} {m : Str → Option Value} {news : List (Addr × Obj)} (ys : List Str) (K : Nat → List (Option Value) → List (Addr × Obj) → Prop)
    (F : Fr h₀ env.locals s.heap m) (N : News h₀ env.locals s.heap news) (hl : (l, listOf vs ep) ∈ news) (k0 : K 0 (ys.map m) news)
    (h : ∀ I, (∀ p ∈ news, p.1 < I) → IterUp prog w A s env h₀ x body Q l vs ep m ys K I) :
    wpAny (model prog w) A (pyIter (.ref l)) (fun it s₂ => LoopL prog w A h₀ env x body Q it s₂) NoE s := by
  have hL : s.heap.IsList l vs := ⟨_, (N _ hl).1, rfl, ep, rfl⟩
  refine wpAny_pyIter_list hL ?_
  have u := h s.heap.objs.size fun p hp => Heap.lt_size (N p hp).1
  refine .mk _ l vs ep _ m news _ (fun i => UpJ ys m (K i)) ⟨rfl, rfl⟩ (F.push _) (N.push F _) ⟨_, k0, (up_self m ys).symm⟩ ?_ ?_ ?_
  · intro i m' n' h
    cases h with | mk vals hK e => exact u.mem i vals n' hK
  · intro i v m₁ n₁ o₁ h₁ tk hv h F₁ N₁
    cases h with | mk vals hK e => subst e; exact u.step i v vals n₁ o₁ h₁ tk hv hK F₁ N₁
  · intro m' n' h' tk h F₁ N₁
    cases h with | mk vals hK e => subst e; exact u.done vals n' h' tk hK F₁ N₁
end

theorem up_ne {z y : Str} {v : Option Value} {l : List (Str × Option Value)} {m : Str → Option Value} (h : z ≠ y) : up ((y, v) :: l) m z = up l m z := by
  unfold up
  rw [List.lookup_cons, beq_false_of_ne h]
theorem up_nil {z : Str} {m : Str → Option Value} : up [] m z = m z := rfl
theorem up_hd {y : Str} {v : Option Value} {l : List (Str × Option Value)} {m : Str → Option Value} : up ((y, v) :: l) m y = v := by
  unfold up
  rw [List.lookup_cons, beq_self_eq_true]
-- m' differs from m at most at the names ys
noncomputable def Off (ys : List Str) (m' m : Str → Option Value) : Prop := ∀ z, ys.contains z = false → m' z = m z
theorem Off.refl {ys : List Str} {m : Str → Option Value} : Off ys m m := fun _ _ => rfl
theorem Off.set {ys : List Str} {m m₁ : Str → Option Value} {x : Str} {v : Option Value} (hx : ys.contains x = true) (h : Off ys m₁ m) : Off ys (fun y => if y = x then v else m₁ y) m := fun z hz => by
  rw [← h z hz]
  refine if_neg fun e => ?_
  rw [e, hx] at hz
  cases hz
theorem Off.up {ys zs : List Str} {vals : List (Option Value)} {m m₁ : Str → Option Value} (hs : (zs.all fun z => ys.contains z) = true) (h : Off ys m₁ m) : Off ys (up (zs.zip vals) m₁) m := fun z hz => by
  rw [← h z hz]
  unfold Mine.up
  have : (zs.zip vals).lookup z = none := by
    induction zs generalizing vals with
    | nil => rfl
    | cons a r ih =>
      cases vals with
      | nil => rfl
      | cons v vs =>
        rw [List.all_cons, Bool.and_eq_true] at hs
        rw [List.zip_cons_cons, List.lookup_cons]
        have hne : (z == a) = false := beq_false_of_ne fun e => by rw [e, hs.1] at hz; cases hz
        rw [hne]
        exact ih hs.2
  rw [this]
theorem Off.one {ys : List Str} {y : Str} {v : Option Value} {m m₁ : Str → Option Value} (hs : ys.contains y = true) (h : Off ys m₁ m) : Off ys (Mine.up [(y, v)] m₁) m :=
  Off.up (zs := [y]) (vals := [v]) (by rw [List.all_cons, List.all_nil, Bool.and_true]; exact hs) h
theorem up_off {ys : List Str} {vals : List (Option Value)} {m m' : Str → Option Value} (h : Off ys m' m) (e : ys.map m' = vals) : m' = up (ys.zip vals) m := by
  subst e
  have k := up_self m' ys
  funext z
  cases hz : ys.contains z with
  | false =>
    rw [h z hz, ← Off.up (vals := ys.map m') (List.all_eq_true.mpr fun x hx => List.elem_eq_true_of_mem hx) (Off.refl (m := m)) z hz]
  | true =>
    have key : ∀ (l : List Str), l.contains z = true → up (l.zip (l.map m')) m z = m' z := by
      intro l
      induction l with
      | nil => intro h; cases h
      | cons a r ih =>
        intro h
        unfold Mine.up
        rw [List.map_cons, List.zip_cons_cons, List.lookup_cons]
        cases hza : z == a with
        | true => rw [eq_of_beq hza]
        | false =>
          rw [List.contains_cons, hza, Bool.false_or] at h
          exact ih h
    exact (key ys hz).symm
theorem News.sub {h₀ : Heap} {L : Addr} {h : Heap} {l l' : List (Addr × Obj)} (N : News h₀ L h l) (s : ∀ p ∈ l', p ∈ l) : News h₀ L h l' := fun p hp => N p (s p hp)
-- the ledger is l, and P holds
inductive AtN (l : List (Addr × Obj)) (P : Prop) : List (Addr × Obj) → Prop
  | mk (h : P) : AtN l P l
theorem sub_refl {l : List (Addr × Obj)} : ∀ p ∈ l, p ∈ l := fun _ h => h
theorem sub_cons {x : Addr × Obj} {l l' : List (Addr × Obj)} (h : x ∈ l') (h' : ∀ p ∈ l, p ∈ l') : ∀ p ∈ x :: l, p ∈ l' := List.forall_mem_cons.mpr ⟨h, h'⟩
theorem sub_tail {x : Addr × Obj} {l l' : List (Addr × Obj)} (h : ∀ p ∈ l, p ∈ l') : ∀ p ∈ l, p ∈ x :: l' := fun p hp => List.mem_cons_of_mem _ (h p hp)
theorem ne_cons {a I : Addr} {o : Obj} {l : List (Addr × Obj)} (h : a ≠ I) (h' : ∀ p ∈ l, p.1 ≠ I) : ∀ p ∈ (a, o) :: l, p.1 ≠ I := List.forall_mem_cons.mpr ⟨h, h'⟩
theorem ne_of_lts {d : Addr} {l : List (Addr × Obj)} (h : ∀ p ∈ l, p.1 < d) : ∀ p ∈ l, p.1 ≠ d := fun p hp => Nat.ne_of_lt (h p hp)
theorem lts_trans {c d : Addr} {l : List (Addr × Obj)} (h : ∀ p ∈ l, p.1 < c) (hc : c < d) : ∀ p ∈ l, p.1 ≠ d := fun p hp => Nat.ne_of_lt (Nat.lt_trans (h p hp) hc)
theorem allLt_out {d : Addr} : ∀ {l : List (Addr × Obj)}, AllLt d l → ∀ p ∈ l, p.1 < d
  | [], _, _, h => nomatch h
  | _ :: _, x, p, h => by
    rcases List.mem_cons.mp h with rfl | h
    · exact x.1
    · exact allLt_out x.2 p h
section
variable {prog : Program} {w : World} {A : Around} {E : Value → Shared → Prop} {s : Shared} {h₀ : Heap} {L : Addr} {m : Str → Option Value} {Q : Value → Shared → Prop}
theorem strs_of_get : ∀ (ys : List Value) (xs : List Str), ys.length = xs.length → (∀ (j : Nat) (v : Value), ys[j]? = some v → ∃ x t, xs[j]? = some x ∧ v = Value.str x t) → StrsAre ys xs
  | [], [], _, _ => .nil
  | [], _ :: _, h, _ => by simp at h
  | _ :: _, [], h, _ => by simp at h
  | v :: ys, x :: xs, h, hv => by
    obtain ⟨x', t, e, rfl⟩ := hv 0 v rfl
    simp at e; subst e
    exact .cons _ t (strs_of_get ys xs (by simpa using h) fun j v e => by simpa using hv (j + 1) v (by simpa using e))
theorem list_str_K {x : Str} {t : Tok} {news : List (Addr × Obj)} (hh : A.handled = none) (F : Fr h₀ L s.heap m) (N : News h₀ L s.heap news)
    (h : ∀ l ys ep h' tk, Fr h₀ L h' m → News h₀ L h' ((l, listOf ys ep) :: news) → StrsAre ys.toList (signs x) → (∀ p ∈ news, p.1 < l) → Q (.ref l) { s with heap := h', toks := tk }) (hsz : x.length ≤ sizeLine := by size_fits) :
    wpAny (model prog w) A (call (.type "list") [.str x t]) Q E s := by
  refine PySem.call_list_str hh x t (hn := hsz) fun h' tk acc' c' hk hS' hacc => ?_
  have hLs : L < s.heap.objs.size := F.ns.lt
  refine h s.heap.objs.size acc' c' h' tk (F.keeps hk) (fun p hp => ?_) (strs_of_get _ _ (by simp [hacc.1, signs]) fun j v hv => ?_) fun p hp => Heap.lt_size (N p hp).1
  · rcases List.mem_cons.mp hp with rfl | hp
    · refine ⟨hS', Nat.ne_of_gt hLs, ?_⟩
      show h₀.get? s.heap.objs.size = none
      cases e : h₀.get? s.heap.objs.size with
      | none => rfl
      | some o => exact absurd (Heap.lt_size (F.keep _ _ e)) (Nat.lt_irrefl _)
    · exact ⟨hk _ _ (N p hp).1, (N p hp).2⟩
  · obtain ⟨c, u, hc, rfl⟩ := hacc.2 j v (by simpa using hv)
    exact ⟨⟨#[c]⟩, u, by simp [signs, hc], rfl⟩
end
noncomputable def HandC (p : Prop) : Prop := p
theorem handC {p : Prop} (h : HandC p) : p := h
end
local macro_rules | `(tactic| walk_at "mine stop") => `(tactic| (k_here; k_dflt (refine handC ?_)))
local macro_rules | `(tactic| walk_at "mine in") => `(tactic| (k_whole; intros; rename_i l1; (try k_lt l1)))
local macro_rules | `(tactic| walk_at "storeName") => `(tactic| (k_here; k_dflt (refine' storeX_let (by k_asm) (by k_asm) ?_ (by rfl) (by rfl); k_whole; intros; (try k_sweep))))
local macro_rules | `(tactic| walk_at "mine slen") => `(tactic| first | with_reducible assumption | with_reducible exact Nat.le_of_eq (by assumption) | with_reducible exact And.right (by assumption) | exact (Nat.le_refl (Str.length (Str.ofString _))))
local macro_rules | `(tactic| walk_at "binaryOp Add str str") => `(tactic| (k_here; k_dflt (refine' add_len (by walk_at "mine slen") (by walk_at "mine slen") (by exact rfl) ?_; intro _ _ _)))
local macro_rules | `(tactic| walk_at "inplaceOp Add str str") => `(tactic| (k_here; k_dflt (refine' iadd_len (by walk_at "mine slen") (by walk_at "mine slen") (by exact rfl) ?_; intro _ _ _)))
local macro_rules | `(tactic| walk_at "mine pick") => `(tactic| with_reducible first | assumption | exact pk0 (by assumption) | exact pk1 (by assumption) | exact pk2 (by assumption) | exact pk3 (by assumption) | exact pk4 (by assumption) | exact pk5 (by assumption) | exact pk6 (by assumption) | exact pk7 (by assumption) | exact pk8 (by assumption) | exact pk9 (by assumption) | exact pk10 (by assumption) | exact pk11 (by assumption) | exact pk12 (by assumption))
local macro_rules | `(tactic| walk_at "mine pick1") => `(tactic| first | walk_at "mine pick" | (refine ltT (by with_reducible assumption) ?_; walk_at "mine pick"))
local macro_rules | `(tactic| k_ne) => `(tactic| ((try dsimp only); first | with_reducible assumption | (refine neA ?_; walk_at "mine pick") | (refine neB ?_; walk_at "mine pick") | (with_reducible refine neV ?_; walk_at "mine pick") | (with_reducible refine neW ?_; walk_at "mine pick") | (refine neT (by with_reducible assumption) ?_; walk_at "mine pick") | (refine neU (by with_reducible assumption) ?_; walk_at "mine pick")))
local macro_rules | `(tactic| kd_adr) => `(tactic| first | exact List.forall_mem_nil _ | exact List.forall_mem_cons.mpr ⟨by k_ne, by kd_adr⟩)
local macro_rules | `(tactic| ktr_room) => `(tactic| first | exact room4 (by assumption) | exact room5 (k := 1) (by assumption) rfl)
local macro_rules | `(tactic| k_lt $h:ident) => `(tactic| (replace $h := allLt_of $h; dsimp only [AllLt] at $h:ident; (try (have hT9 : True := And.right $h; clear hT9; replace $h := And.left $h))))
local macro_rules | `(tactic| walk_at "call type:list") => `(tactic| (k_here; k_dflt (refine' list_str_K (by exact rfl) (by k_asm) (by k_asm) ?_ (by rw [sizeLine_eq]; lia); walk_at "mine in")))
local macro_rules | `(tactic| walk_at "callWith") => `(tactic| (k_here; (with_reducible show wpAny _ _ (callWith _ _ (Prod.snd (_, [_])) (backTo _ (starEach (_ :: _) _)) _) _ _ _); k_dflt (refine callWith_method1 ?_)))
local macro_rules | `(tactic| walk_at "mine for") => `(tactic| (k_here; (rename Fr _ _ _ _ => lF'); with_unfolding_all refine' for_LF lF' (by rfl) (by rfl) (by rfl) ?_))
local macro_rules | `(tactic| walk_at "exec For Name Name cons nil") => `(tactic| walk_at "mine for")
local macro_rules | `(tactic| walk_at "mine sub") => `(tactic| first | exact sub_refl | with_reducible exact sub_appL | with_reducible exact sub_appR | (refine sub_cons (by k_memK) ?_; walk_at "mine sub") | exact List.forall_mem_nil _ | (refine sub_tail ?_; walk_at "mine sub"))
local macro_rules | `(tactic| walk_at "mine off") => `(tactic| first | exact Off.refl | (refine Off.set rfl ?_; walk_at "mine off") | (refine Off.up rfl ?_; walk_at "mine off") | (refine Off.one rfl ?_; walk_at "mine off"))
local macro_rules | `(tactic| walk_at "mine lt") => `(tactic| first | assumption | exact ne_of_lts (by assumption) | exact lts_trans (by assumption) (by lia) | exact List.forall_mem_nil _ | (refine ne_cons (by k_ne) ?_; walk_at "mine lt"))
section
end
section
-- the end of a def that turns the objects muts alone and leaves rest as it was
inductive LeaveR (h₀ : Heap) (L : Addr) (m : Str → Option Value) (g : Heap) (rest : List (Addr × Obj)) (R : Result → Shared → Prop) (v : Value) (s' : Shared) : Prop
  | mk (L' : Addr) (m' : Str → Option Value) (news' : List (Addr × Obj)) (F : Fr g L' s'.heap m') (N : News g L' s'.heap news') (k : Fr h₀ L s'.heap m → News h₀ L s'.heap (news' ++ rest) → (∀ p ∈ news', ∀ q ∈ rest, p.1 ≠ q.1) → R (.ok (.ret v)) s') : LeaveR h₀ L m g rest R v s'
theorem leaveR_ {h₀ g : Heap} {L L' : Addr} {m m' : Str → Option Value} {news' all rest : List (Addr × Obj)} {R : Result → Shared → Prop} {v : Value} {s' : Shared} (F' : Fr g L' s'.heap m') (N' : News g L' s'.heap all) (sub : ∀ p ∈ news', p ∈ all)
    (k : Fr h₀ L s'.heap m → News h₀ L s'.heap (news' ++ rest) → (∀ p ∈ news', ∀ q ∈ rest, p.1 ≠ q.1) → R (.ok (.ret v)) s') : LeaveR h₀ L m g rest R v s' := ⟨L', m', news', F', fun p hp => N' p (sub p hp), k⟩

section
variable {prog : Program} {w : World} {A₀ A : Around} {s : Shared} {base h₀ : Heap} {outer : List Env} {L : Addr} {m : Str → Option Value} {env : Env} {muts rest : List (Addr × Obj)} {K : Frag}
  {p : Program} {loose : List Str} {mean : ExcName → Option Value} {mg mb : Str → Option Value}
  {R : Result → Shared → Prop} {name qual : Str} {params : Arguments} {body : List Stmt} {scope : Scope} {cl : List (Str × Addr)} {dV kV doc pm cdv ct oc : Value} {an od : Option Addr} {osl : Array (Option Value)} {fo : Obj} {f : Addr} {args : Args} {binds : List (Str × Value)}

theorem groundR (B : Below A₀ base outer h₀) (F : Fr h₀ L s.heap m) (N : News h₀ L s.heap (muts ++ rest)) (off : ∀ p ∈ muts, ∀ q ∈ rest, p.1 ≠ q.1) (hA : A.frames = some (env :: outer)) (hf : env.frame = some L) (hke : env.scope.kind = .function) :
    ∃ g, (∀ b o, g.get? b = some o → s.heap.get? b = some o) ∧ g.objs.size = s.heap.objs.size ∧ (∀ b ∈ muts.map (·.1), g.get? b = none) ∧ (∀ q ∈ rest, g.get? q.1 = some q.2) ∧ Fr h₀ L g m ∧ Below A base (env :: outer) g ∧ h₀.StaysIn g ∧
      ∀ v s', LeaveR h₀ L m g rest R v s' → R (.ok (.ret v)) s' := by
  have N₁ : News h₀ L s.heap muts := fun p hp => N p (List.mem_append_left _ hp)
  obtain ⟨FG, BG, st, lv⟩ := groundX (R := R) B F N₁ hA hf hke
  have hr : ∀ q ∈ rest, (hideAll s.heap (muts.map (·.1))).get? q.1 = some q.2 := fun q hq => hideAll_get _ (N q (List.mem_append_right _ hq)).1 fun hm => by
    obtain ⟨p, hp, e⟩ := List.mem_map.mp hm
    exact off p hp q hq e
  refine ⟨_, fun b o e => of_hideAll _ e, hideAll_size _ _, fun b hb => hideAll_none _ hb, hr, FG, BG, st, fun v s' hl => ?_⟩
  obtain ⟨L', m', news', F', N', k⟩ := hl
  have offN : ∀ p ∈ news', ∀ q ∈ rest, p.1 ≠ q.1 := fun p hp q hq e => by
    have h1 := (N' p hp).2.2
    rw [e, hr q hq] at h1; cases h1
  have hk : ∀ q ∈ rest, s'.heap.get? q.1 = some q.2 := fun q hq => F'.keep _ _ (hr q hq)
  exact lv v s' ⟨L', m', news', F', N', fun kF kN => k kF (fun q hq => by
    rcases List.mem_append.mp hq with h | h
    · exact kN q h
    · exact ⟨hk q h, (N q (List.mem_append_right _ h)).2⟩) offN⟩

theorem callX_R (B : Below A₀ base outer h₀) (F : Fr h₀ L s.heap m) (N : News h₀ L s.heap (muts ++ rest)) (off : ∀ p ∈ muts, ∀ q ∈ rest, p.1 ≠ q.1) (hlim : h₀.NoLimit) (hA : A.frames = some (env :: outer)) (hf : env.frame = some L) (hke : env.scope.kind = .function)
    (ho : s.heap.get? f = some fo) (hd : fo.data = .func (fnX name qual params body scope cl dV kV doc pm an cdv ct)) (hcd : s.heap.CodeRec cdv qual) (hroom : A.depth < recursionLimit)
    (hbind : BindsTo s (fnX name qual params body scope cl dV kV doc pm an cdv ct) args binds) (hloc : ∀ y ∈ binds, scope.names.lookup y.1 = some .local)
    (h : ∀ g L' h₁, Fr h₀ L g m → Fr g L' h₁ (fun y => binds.reverse.lookup y) → News g L' h₁ muts → Below A base (env :: outer) g → h₀.StaysIn g → (∀ q ∈ rest, g.get? q.1 = some q.2) → (∀ p ∈ muts, p.1 < L') → 
      wpAny (model prog w) (A.deeper (envX qual scope L' f cdv cl)) (execs body (envX qual scope L' f cdv cl))
        (fun fl s' => LeaveR h₀ L m g rest R (match fl with | .ret v => v | _ => .none) s') NoE
        { s with heap := h₁, toks := s.toks + binds.length })
    (hcell : ∀ x ∈ scope.names, x.2 ≠ .cell) (hco : scope.isCoroutine = false := by rfl) (hgen : scope.isGenerator = false := by rfl) (hk : scope.kind = .function := by rfl) : codeAny (model prog w) A (.call (.ref f) args) R s := by
  obtain ⟨g, hg1, hg2, hg3, hg4, FG, BG, st, lv⟩ := groundR (R := R) B F N off hA hf hke
  refine codeAny_call_def (fd := fnX name qual params body scope cl dV kV doc pm an cdv ct) (body := body) (binds := binds) hroom ho hd (hlim.keeps F.keep) hcd rfl hbind hcell hloc (fun h₁ hns hk₁ => ?_) hco hgen hk
  have N₁ : News h₀ L s.heap muts := fun p hp => N p (List.mem_append_left _ hp)
  exact noE (wpAny_mono (h g s.heap.objs.size h₁ FG ⟨hns, fun b o e => hk₁ b o (hg1 b o e), Nat.le_of_eq hg2⟩
    (fun p hp => ⟨hk₁ _ _ (N₁ p hp).1, Nat.ne_of_lt (Heap.lt_size (N₁ p hp).1), hg3 _ (List.mem_map_of_mem hp)⟩) BG st hg4 (fun p hp => Heap.lt_size (N₁ p hp).1)) (fun fl s' hl => lv _ _ hl) fun _ _ y => y)

theorem code_defR (B : Below A₀ base outer h₀) (F : Fr h₀ L s.heap m) (X₀ : K.In h₀) (N : News h₀ L s.heap (muts ++ rest)) (off : ∀ p ∈ muts, ∀ q ∈ rest, p.1 ≠ q.1) (T : Top p loose mean mg mb h₀) (hA : A.frames = some (env :: outer)) (hf : env.frame = some L) (hke : env.scope.kind = .function)
    (ho : K.lookup f = some ⟨oc, od, .func (fnOf name qual params body scope dV kV doc pm an cdv ct), osl⟩) (hcd : codeIn K cdv qual = true) (hroom : A.depth < recursionLimit)
    (hbind : BindsTo s (fnOf name qual params body scope dV kV doc pm an cdv ct) args binds) (hloc : ∀ y ∈ binds, scope.names.lookup y.1 = some .local)
    (h : ∀ g L' h₁, Fr h₀ L g m → Fr g L' h₁ (fun y => binds.reverse.lookup y) → News g L' h₁ muts → Below A base (env :: outer) g → K.In g → Top p loose mean mg mb g → (∀ q ∈ rest, g.get? q.1 = some q.2) → (∀ p ∈ muts, p.1 < L') →
      wpAny (model prog w) (A.deeper (envOf qual scope L' f cdv)) (execs body (envOf qual scope L' f cdv))
        (fun fl s' => LeaveR h₀ L m g rest R (match fl with | .ret v => v | _ => .none) s') NoE
        { s with heap := h₁, toks := s.toks + binds.length })
    (hco : scope.isCoroutine = false) (hgen : scope.isGenerator = false) (hk : scope.kind = .function)
    (hcell : ∀ x ∈ scope.names, x.2 ≠ .cell) : codeAny (model prog w) A (.call (.ref f) args) R s :=
  callX_R (cl := []) B F N off T.nolimit hA hf hke ((X₀.keeps F.keep) _ _ ho) rfl (codeRec_of (X₀.keeps F.keep) hcd) hroom hbind hloc (fun g L' h₁ FG F' N' B' st hr hl => h g L' h₁ FG F' N' B' (X₀.keeps st) (T.keeps st) hr hl) hcell hco hgen hk
end
theorem letX {prog : Program} {w : World} {A₀ : Around} {e : Env} {b : List Stmt} {Q : Flow → Shared → Prop} {E : Value → Shared → Prop} {s : Shared} (h : let M := model prog w; let e' := e; let A := A₀.deeper e'; wpAny M A (execs b e') Q E s) : wpAny (model prog w) (A₀.deeper e) (execs b e) Q E s := h
end
local macro_rules | `(tactic| walk_at "mine eR") => `(tactic| (walk_at "mine in"; (try dsimp only); (try k_fold); (try (refine letX ?_; intros))))
section
end
section
section
variable {prog : Program} {w : World} {A₀ A : Around} {s : Shared} {base h₀ : Heap} {outer : List Env} {L : Addr} {m : Str → Option Value} {env : Env} {muts rest : List (Addr × Obj)} {K : Frag}
  {p : Program} {loose : List Str} {mean : ExcName → Option Value} {mg mb : Str → Option Value}
  {R : Result → Shared → Prop} {name qual : Str} {params : Arguments} {body : List Stmt} {scope : Scope} {cl : List (Str × Addr)} {dV kV doc pm cdv ct oc : Value} {an od : Option Addr} {osl : Array (Option Value)} {fo : Obj} {f : Addr} {args : Args} {binds : List (Str × Value)}

theorem code_defRC (B : Below A₀ base outer h₀) (F : Fr h₀ L s.heap m) (X₀ : K.In h₀) (N : News h₀ L s.heap (muts ++ rest)) (off : ∀ p ∈ muts, ∀ q ∈ rest, p.1 ≠ q.1) (T : Top p loose mean mg mb h₀) (hA : A.frames = some (env :: outer)) (hf : env.frame = some L) (hke : env.scope.kind = .function)
    (ho : K.lookup f = some ⟨oc, od, .func (fnOf name qual params body scope dV kV doc pm an cdv ct), osl⟩) (hcd : codeIn K cdv qual = true) (hroom : A.depth < recursionLimit)
    (hbind : BindsTo s (fnOf name qual params body scope dV kV doc pm an cdv ct) args binds)
    (hkind : (binds.all fun y => scope.names.lookup y.1 == some .local || scope.names.lookup y.1 == some .cell) = true)
    (hnd : ((cellsFrom 0 scope.names []).map (·.1)).Nodup)
    (h : ∀ g L' h₁ tk cells, Fr h₀ L g m → Fr g L' h₁ (bindL (envOfC qual scope L' f cdv).kindOf binds fun _ => none) → News g L' h₁ (cells ++ muts) →
      CellsAre (bindC (envOfC qual scope L' f cdv).kindOf binds fun _ => none) (cellsFrom (L' + 1) scope.names []) cells → Below A base (env :: outer) g → K.In g → Top p loose mean mg mb g → (∀ q ∈ rest, g.get? q.1 = some q.2) → (∀ p ∈ muts, p.1 < L') →
      wpAny (model prog w) (A.deeper (envOfC qual scope L' f cdv)) (execs body (envOfC qual scope L' f cdv))
        (fun fl s' => LeaveR h₀ L m g rest R (match fl with | .ret v => v | _ => .none) s') NoE
        { s with heap := h₁, toks := tk })
    (hco : scope.isCoroutine = false := by rfl) (hgen : scope.isGenerator = false := by rfl) (hk : scope.kind = .function := by rfl) : codeAny (model prog w) A (.call (.ref f) args) R s := by
  obtain ⟨g, hg1, hg2, hg3, hg4, FG, BG, st, lv⟩ := groundR (R := R) B F N off hA hf hke
  have N₁ : News h₀ L s.heap muts := fun p hp => N p (List.mem_append_left _ hp)
  refine codeAny_call_function hroom ((X₀.keeps F.keep) _ _ ho) rfl hco hgen rfl (codeRec_of (X₀.keeps F.keep) hcd) (hbind _ _ _ _ ?_)
  refine wpAny_newFunctionEnv_cells hk (kindsX hkind _) fun env' he s' x => ?_
  subst he
  refine ⟨(T.nolimit.keeps F.keep).keeps x.toInCall.keep, codeAny_func ?_⟩
  obtain ⟨h₁, tk, rfl, _⟩ := x.done
  have hk₁ := x.toInCall.keep
  obtain ⟨cells, NC, Y⟩ := Cl.news (h₀ := s.heap) (Nat.le_refl _) fun n c hm => ⟨x.cell n c (lookup_of_mem_nodup (cellsFrom_names scope.names 0 (s.heap.objs.size + 1) [] [] rfl ▸ hnd) hm), x.above n c hm⟩
  refine noE (wpAny_mono (h g s.heap.objs.size h₁ tk cells FG ⟨x.toInCall.ns, fun b o e => hk₁ b o (hg1 b o e), Nat.le_of_eq hg2⟩ (fun p hp => ?_) Y BG (X₀.keeps st) (T.keeps st) hg4 (fun p hp => Heap.lt_size (N₁ p hp).1)) (fun fl s' hl => lv _ _ hl) fun _ _ y => y)
  rcases List.mem_append.mp hp with hp | hp
  · refine ⟨(NC p hp).1, (NC p hp).2.1, ?_⟩
    cases q : g.get? p.1 with
    | none => rfl
    | some o => have := hg1 _ _ q; rw [(NC p hp).2.2] at this; cases this
  · exact ⟨hk₁ _ _ (N₁ p hp).1, Nat.ne_of_lt (Heap.lt_size (N₁ p hp).1), hg3 _ (List.mem_map_of_mem hp)⟩
end
end
section
-- a dict's object that maps the names as m does
noncomputable def NsObj (o : Obj) (m : Str → Option Value) : Prop := ∃ es ep, o.data = .dict es ep ∧ StrKeys es ∧ ∀ name, nsFind es name = m name
noncomputable def fnObj (fd : FuncData) (d : Option Addr) : Obj := { cls := .type "function", dict := d, data := .func fd }

theorem sf_fn_look : typeLookup (.type "function") "__setattr__" = pure (some (.builtin "object.__setattr__")) := by rw [typeLookup_type, builtinLookup_eq_fast]; kernel_rfl
theorem sf_fn_read : typeLookup (.type "function") "read" = pure none := by rw [typeLookup_type, builtinLookup_eq_fast]; kernel_rfl
theorem sf_fn_get : typeLookup (.type "function") "__getattribute__" = pure (some (.builtin "object.__getattribute__")) := by rw [typeLookup_type, builtinLookup_eq_fast]; kernel_rfl
theorem sf_fn_slot : Slot "function" "__setattr__" "object.__setattr__" := Slot.of (T := "function") (name := "__setattr__") (owner := "object") (n := "__setattr__") sf_fn_look (by decide +kernel) (by decide +kernel) (by decide +kernel) (.inl (by decide +kernel)) (by rw [isSubtype_type]; kernel_rfl)
theorem sf_fn_slotg : Slot "function" "__getattribute__" "object.__getattribute__" := Slot.of (T := "function") (name := "__getattribute__") (owner := "object") (n := "__getattribute__") sf_fn_get (by decide +kernel) (by decide +kernel) (by decide +kernel) (.inl (by decide +kernel)) (by rw [isSubtype_type]; kernel_rfl)
theorem sf_fn_mro : mroOf (.type "function") = pure [.type "function", .type "object"] := by first | kernel_rfl | (simp only [mroOf]; kernel_rfl)
theorem sf_fn_pass (self : Value) : refuseLoop self "__setattr__" [.type "function", .type "object"] = pure () := by kernel_rfl
theorem sf_entry : entryFor table "object.__setattr__" = some Builtin.«object.__setattr__» := PySem.F.store_object.entry
theorem sg_entry : entryFor table "object.__getattribute__" = some Builtin.«object.__getattribute__» := entryFor_of_tree (by kernel_rfl)
theorem sf_args (a b c : Value) : argsOk "object.__setattr__" ⟨[a, b, c], []⟩ := PySem.F.store_object.args a b c
theorem sg_args (a b : Value) : argsOk "object.__getattribute__" ⟨[a, b], []⟩ := by unfold argsOk; kernel_rfl

section
open Builtin Builtin.ObjectAttr
variable {prog : Program} {w : World} {A : Around} {E : Value → Shared → Prop} {s : Shared} {h₀ : Heap} {L st lam : Addr} {m : Str → Option Value} {news : List (Addr × Obj)} {v : Value} {fd : FuncData}

theorem fn_store {Q : Unit → Shared → Prop} {g : Obj → List (Addr × Obj)} (F : Fr h₀ L s.heap m) (N : News h₀ L s.heap news) (U : UpdF st (fnObj fd none) news g)
    (h : ∀ d od h' tk, Fr h₀ L h' m → News h₀ L h' ((d, od) :: g (fnObj fd (some d))) → NsObj od (fun y => if y = "read" then some v else none) → (∀ p ∈ news, p.1 < d) → Q () { s with heap := h', toks := tk }) :
    wpAny (model prog w) A (setAttr (.ref st) "read" v) Q E s := by
  obtain ⟨pre, post, rfl, hg, h1, h2⟩ := U.split
  obtain ⟨hp, gg, dd, tk, os⟩ := s
  have hm := N (st, fnObj fd none) (List.mem_append_right _ (.head _))
  have hT : ∀ tk', (⟨hp, gg, dd, tk', os⟩ : Shared).TypeIs (.ref st) "function" := fun _ => ⟨_, hm.1, rfl⟩
  have f1 := sf_fn_read
  have hls : st < hp.objs.size := Heap.lt_size hm.1
  unfold setAttr
  refine wpAny_bind (wpAny_mkText (wpAny_bind (wpAny_callSpecial?_slot (name := "__setattr__") (hT _) sf_fn_slot (wpAny_call_entry sf_fn_slot (hT _) sf_entry ?_ (sf_args _ _ _)))))
  rw [osa_eq, refuse_eq]
  dsimp only at hm
  refine wpAny_bind (wpAny_bind (wpAny_bind (wpAny_loadPart hm.1 (wpAny_pure (wpAny_bind ?_)))))
  show wpAny _ _ (mroOf (.type "function")) _ _ _
  rw [sf_fn_mro]
  refine wpAny_pure ?_
  rw [sf_fn_pass]
  refine wpAny_pure (wpAny_bind (wpAny_bind (wpAny_loadPart hm.1 (wpAny_pure (wpAny_bind ?_)))))
  show wpAny _ _ (typeLookup (.type "function") "read") _ _ _
  rw [sf_fn_read]
  refine wpAny_pure (wpAny_bind (wpAny_pure ?_))
  show wpAny _ _ (storeInOwnDict (.ref st) (.type "function") _ _ _ _) _ _ _
  unfold storeInOwnDict
  refine wpAny_bind (wpAny_of_eq (a := ()) (by first | rfl | kernel_rfl) ?_)
  show wpAny _ _ (if (Value.type "function" == Value.type "module") = true then _ else _) _ _ _
  rw [if_neg (by decide +kernel)]
  refine wpAny_bind ?_
  unfold ownDictForStores instanceDict
  refine wpAny_bind (wpAny_loadPart hm.1 ?_)
  dsimp only [fnObj]
  rw [if_neg (by decide +kernel)]
  have hx₁ : (hp.push { cls := .type "dict", data := .dict #[] }).get? st = some (fnObj fd none) := Heap.get?_push_of_some _ hm.1
  have lsz : ∀ p ∈ pre ++ (st, fnObj fd none) :: post, p.1 < hp.objs.size := fun p hpp => Heap.lt_size (N p hpp).1
  have F1 := F.push { cls := .type "dict", data := .dict #[] }
  have N1 := N.push F { cls := .type "dict", data := .dict #[] }
  obtain ⟨F2, N2⟩ := news_upd (pre := (hp.objs.size, { cls := .type "dict", data := .dict #[] }) :: pre) (f := fun o => { cls := o.cls, dict := some hp.objs.size, data := o.data, slots := o.slots }) (o' := fnObj fd (some hp.objs.size)) F1 N1 (fun p hpp => by
    rcases List.mem_cons.mp hpp with rfl | hpp
    · exact (Nat.ne_of_lt hls).symm
    · exact h1 p hpp) h2 rfl rfl
  refine wpAny_bind (wpAny_alloc' (wpAny_bind (wpAny_update' hx₁ ?_)))
  show wpAny _ _ (pure (some hp.objs.size)) _ _ _
  refine wpAny_pure ?_
  show wpAny _ _ (storeInDict hp.objs.size _ _ _) _ _ _
  unfold storeInDict newKeyGuard
  have hgd := (N2 (hp.objs.size, { cls := .type "dict", data := .dict #[] }) (by simp)).1
  have hnd : ((hp.push { cls := .type "dict", data := .dict #[] }).update st fun o => { cls := o.cls, dict := some hp.objs.size, data := o.data, slots := o.slots }).Ns hp.objs.size (fun _ => none) :=
        ⟨_, #[], _, hgd, rfl, fun e he => absurd he (by simp), fun _ => rfl⟩
  refine wpAny_bind (wpAny_pure (wpAny_bind (wpAny_nsSet1 (Heap.Ns1.of_empty hnd) fun h' hn' hs => ?_)))
  obtain ⟨oD, esD, epD, hoD, hdD, hcD⟩ := hn'.count (Within.cons "read" v Within.nil)
  refine wpAny_bind (wpAny_lookBehind hoD (by rw [hdD]; exact pastItsLine_dict (Nat.le_trans hcD (by rw [List.length_cons, List.length_nil, sizeLine_eq]; lia))) ?_)
  obtain ⟨o', es, ep, e1, e2, e3, eu, e4⟩ := hn'
  have e : oD = o' := Option.some.inj (hoD.symm.trans e1)
  subst e
  have N3 := News.setAt (own := []) N2 (fun _ h => nomatch h) (fun p hpp q => by
    rcases List.mem_append.mp hpp with hpp | hpp
    · exact Nat.lt_irrefl _ (q ▸ lsz p (List.mem_append_left _ hpp))
    · rcases List.mem_cons.mp hpp with rfl | hpp
      · exact Nat.lt_irrefl _ (q ▸ hls)
      · exact Nat.lt_irrefl _ (q ▸ lsz p (List.mem_append_right _ (.tail _ hpp)))) hs hoD
  refine wpAny_pure ⟨_, rfl, wpAny_pure (h hp.objs.size oD h' _ ?_ (hg _ ▸ N3) ⟨es, ep, e2, e3, e4⟩ lsz)⟩
  have hd := N2 (hp.objs.size, { cls := .type "dict", data := .dict #[] }) (by simp)
  exact ⟨F2.ns.sameBut hs (Ne.symm hd.2.1), fun b ob e => (hs.2 b (fun q => by rw [q, hd.2.2] at e; cases e)).trans (F2.keep b ob e), F2.above⟩

theorem fn_load {Q : Value → Shared → Prop} {expr : Bool} {d lam : Addr} {od : Obj} {mm : Str → Option Value} (N : News h₀ L s.heap news) (hst : (st, fnObj fd (some d)) ∈ news) (hd : (d, od) ∈ news) (hn : NsObj od mm) (hv : mm "read" = some (.ref lam)) (h : Q (.ref lam) { s with toks := s.toks + 1 }) :
    wpAny (model prog w) A (getAttr (.ref st) "read" expr) Q E s := by
  obtain ⟨hp, gg, dd, tk, os⟩ := s
  have hm := (N _ hst).1
  have hdm := (N _ hd).1
  dsimp only at hm hdm
  have hT : ∀ tk', (⟨hp, gg, dd, tk', os⟩ : Shared).TypeIs (.ref st) "function" := fun _ => ⟨_, hm, rfl⟩
  have hns : hp.Ns d mm := by obtain ⟨es, ep, a, b, c⟩ := hn; exact ⟨_, es, ep, hdm, a, b, c⟩
  unfold getAttr getAttrBy
  refine wpAny_bind (wpAny_mkText (wpAny_holding (wpAny_bind (wpAny_bind (wpAny_loadPart hm (wpAny_pure ?_))))))
  show wpAny _ _ (typeLookup (.type "function") "__getattribute__" >>= _) _ _ _
  rw [sf_fn_get]
  refine wpAny_bind (wpAny_pure ?_)
  show wpAny _ _ (getAttrByItsOwn _ _ (.type "function") (.builtin "object.__getattribute__") _ _) _ _ _
  unfold getAttrByItsOwn
  refine wpAny_bind (wpAny_pure (wpAny_bind (wpAny_attempt (wpAny_holding ?_))))
  have hcg : ∀ (o nm : Value) (b : Bool), callGetattribute o nm (.builtin "object.__getattribute__") b = boundAndCalled (.builtin "object.__getattribute__") o nm := fun o nm b => by cases b <;> rfl
  rw [hcg]
  unfold boundAndCalled
  rw [sf_fn_slotg.bind]
  refine wpAny_bind (wpAny_pure ?_)
  show wpAny _ _ (call (.builtin "object.__getattribute__") [.ref st, .str "read" _]) _ _ _
  refine wpAny_call_entry sf_fn_slotg (hT _) sg_entry ?_ (sg_args _ _)
  unfold Builtin.«object.__getattribute__»
  refine wpAny_bind (wpAny_of_eq (a := (Value.ref st, [Value.str "read" tk])) rfl ?_)
  dsimp only
  refine wpAny_bind (wpAny_pure (wpAny_bind (wpAny_bind (wpAny_loadPart hm (wpAny_pure ?_)))))
  show wpAny _ _ (find (.ref st) (.type "function") "read" >>= _) _ _ _
  unfold find
  rw [sf_fn_read]
  refine wpAny_bind (wpAny_bind (wpAny_pure (wpAny_bind (wpAny_pure (wpAny_bind (wpAny_pure ?_))))))
  show wpAny _ _ (ownThenClass (.ref st) "read" none none) _ _ _
  unfold ownThenClass inOwnDict ObjectAttr.ownDict instanceDict
  refine wpAny_bind (wpAny_bind (wpAny_bind (wpAny_loadPart hm ?_)))
  show wpAny _ _ (loadPart st (some headPart) >>= _) _ _ _
  refine wpAny_bind (wpAny_loadPart hm ?_)
  show wpAny _ _ (pure (some d)) _ _ _
  refine wpAny_pure ?_
  show wpAny _ _ (nsGet d "read") _ _ _
  refine wpAny_nsGet hns ?_
  rw [hv]
  refine wpAny_bind (wpAny_rule (wpAny_pure ?_))
  show wpAny _ _ (ret (.ref lam)) _ _ _
  refine wpAny_pure ⟨_, rfl, ?_⟩
  show wpAny _ _ (handedOut (.ref lam)) _ _ _
  rw [handedOut_of (v := .ref lam) rfl]
  exact wpAny_pure h
theorem sf_fn_hook : typeLookup (.type "function") "__getattr__" = pure none := by rw [typeLookup_type, builtinLookup_eq_fast]; kernel_rfl
theorem fn_method {Q : Value × List Value → Shared → Prop} {pl : Sem Bool} {d lam : Addr} {od : Obj} {mm : Str → Option Value} (N : News h₀ L s.heap news) (hst : (st, fnObj fd (some d)) ∈ news) (hd : (d, od) ∈ news) (hn : NsObj od mm) (hv : mm "read" = some (.ref lam)) (h : Q (.ref lam, []) { s with toks := s.toks + 1 }) :
    wpAny (model prog w) A (getMethod (.ref st) "read" pl) Q E s := by
  have hm := (N _ hst).1
  have hga := fun (expr : Bool) => fn_load (prog := prog) (w := w) (A := A) (E := E) (Q := fun v s' => Q (v, []) s') (expr := expr) N hst hd hn hv h
  obtain ⟨hp, gg, dd, tk, os⟩ := s
  dsimp only at hm
  unfold getMethod specialOf
  refine wpAny_bind (wpAny_bind (wpAny_bind (wpAny_loadPart hm (wpAny_pure ?_))))
  show wpAny _ _ (typeLookup (.type "function") "__getattribute__") _ _ _
  rw [sf_fn_get]
  refine wpAny_pure ?_
  dsimp only
  rw [if_neg (by decide +kernel)]
  refine wpAny_bind (wpAny_bind (wpAny_bind (wpAny_loadPart hm (wpAny_pure ?_))))
  show wpAny _ _ (typeLookup (.type "function") "__getattr__") _ _ _
  rw [sf_fn_hook]
  refine wpAny_pure ?_
  rw [if_neg (by decide +kernel)]
  refine wpAny_bind (wpAny_bind (wpAny_bind (wpAny_loadPart hm (wpAny_pure ?_))))
  show wpAny _ _ (typeLookup (.type "function") "read") _ _ _
  rw [sf_fn_read]
  refine wpAny_pure ?_
  exact wpAny_bind (wpAny_mono (hga false) (fun _ _ z => wpAny_pure z) fun _ _ z => z)
theorem pop0 {D : Addr} {its : Array Value} {y : Value} {r : List Value} {n : Nat} {u : Tok} {news' : List (Addr × Obj)} {Q : Value → Shared → Prop} (F : Fr h₀ L s.heap m) (N : News h₀ L s.heap news) (e : its.toList = y :: r) (U : Upd D (listOf its n) (listOf ⟨r⟩ (n + 1)) news news')
    (hz : r.length ≤ 100000) (h : ∀ h', Fr h₀ L h' m → News h₀ L h' news' → Q y { s with heap := h' }) : wpAny (model prog w) A (call (.builtin "list.pop") [.ref D, .int 0 u]) Q E s := by
  obtain ⟨its⟩ := its
  have e' : its = y :: r := e
  subst e'
  exact kl_popAt (its := ⟨y :: r⟩) (k := 0) (p := []) (q := r) F N rfl (by simp [seqIndex?]) rfl U (by rw [sizeLine_eq]; simp; lia) h
end
end
local macro_rules | `(tactic| walk_at "mine eRC") => `(tactic| (k_whole; intro g' L' h' tk' cells' FG' F' N' Y' B' X' T' hR' l1; (try k_lt l1); k_cells Y'; (try simp only [List.cons_append, List.nil_append] at N'); (try dsimp only); (try k_lift B'); (try k_fold)))
local macro_rules | `(tactic| walk_at "setAttr ref") => `(tactic| (k_here; (with_reducible show wpAny _ _ (setAttr _ (Str.ofString "read") _) _ _ _); k_dflt (refine' fn_store (by k_asm) (by k_asm) (by k_updF) ?_; walk_at "mine in"; (rename News _ _ _ _ => N'); (try dsimp only [fnObj] at N'))))
local macro_rules | `(tactic| walk_at "mine eD") => `(tactic| (k_whole; intro g' L' h' FG' F' N' B' X' T'; (try dsimp only); (try k_lift B'); (try k_fold)))
local macro_rules | `(tactic| walk_at "mine eL") => `(tactic| (k_whole; intro x' d' h' F' N' l1 l2; (try k_lt l1); (try k_lt2 l2); (try k_sweep)))
local macro_rules | `(tactic| walk_at "getMethod ref") => `(tactic| (k_here; (with_reducible show wpAny _ _ (getMethod _ (Str.ofString "read") _) _ _ _); k_dflt (refine' fn_method (by k_asm) (by k_mem) (by k_mem) (by assumption) (by rfl) ?_)))
section
end
section
-- the body of _law_lexer, as it stands in the program's fragment
noncomputable def lexBody (P : Params) : List Stmt := match (Mine.hd.heap_1 P).lookup 125 with
  | some ⟨_, _, .func fd, _⟩ => (match fd.body with
    | .stmts b => b
    | _ => [])
  | _ => []
-- the object of its second lambda
noncomputable def lamO (P : Params) (cell c : Addr) (pm ctv : Value) : Obj := match lexBody P with
  | [_, _, .Assign _ (.Lambda ps b sc _) _, _] => kla_obj "<lambda>" "_law_lexer.<locals>.<lambda>" ps b sc [("signs", cell)] pm c ctv
  | _ => fnObj default none
structure LX where
  (pb lx dx dst lam st sg cell c : Addr)
  (k1 k2 k3 k4 tw : Tok)
  (od oc co : Obj)
  (fd : FuncData)
  (pm ctv : Value)
noncomputable def lxDict (P : Params) (a : LX) (line : Int) (tl : Tok) : Obj := dictOf [
  { hash := PyData.keyHash P "lineno", key := .str "lineno" a.k1, val := .int line tl },
  { hash := PyData.keyHash P "instream", key := .str "instream" a.k2, val := .ref a.st },
  { hash := PyData.keyHash P "whitespace", key := .str "whitespace" a.k3, val := .str "\n\t\r " a.tw },
  { hash := PyData.keyHash P "pushback", key := .str "pushback" a.k4, val := .ref a.pb }] 4
-- the ledger of a lexer: its pushed words, the signs that are left, the number of its line
noncomputable def LX.led (P : Params) (a : LX) (line : Int) (tl : Tok) (pbv : List Value) (pe : Nat) (sgv : List Value) (se : Nat) : List (Addr × Obj) :=
  [(a.pb, listOf ⟨pbv⟩ pe), (a.lx, instObj 97 a.dx), (a.dx, lxDict P a line tl), (a.dst, a.od), (a.lam, lamO P a.cell a.c a.pm a.ctv), (a.c, a.oc), (a.st, fnObj a.fd (some a.dst)), (a.sg, listOf ⟨sgv⟩ se), (a.cell, a.co)]
structure LX.Ok (a : LX) : Prop where
  od : NsObj a.od (fun y => if y = "read" then some (.ref a.lam) else none)
  co : a.co.data = .cell (some (.ref a.sg))
  oc : ∃ vs t, a.oc.data = .fields vs ∧ vs[1]? = some (.str "_law_lexer.<locals>.<lambda>" t)
  o1 : @LT.lt Nat _ a.cell a.sg
  o2 : @LT.lt Nat _ a.sg a.st
  o3 : @LT.lt Nat _ a.st a.lam
  o4 : @LT.lt Nat _ a.lam a.dst
  o5 : @LT.lt Nat _ a.dst a.dx
  o6 : @LT.lt Nat _ a.dx a.lx
  o7 : @LT.lt Nat _ a.lx a.pb
  c1 : @Ne Nat a.c a.sg
  c2 : @Ne Nat a.c a.dx
  c3 : @Ne Nat a.c a.pb
  c4 : @Ne Nat a.c a.cell
noncomputable def LX.addrs (a : LX) : List Addr := [a.pb, a.lx, a.dx, a.dst, a.lam, a.c, a.st, a.sg, a.cell]
theorem LX.mem {P : Params} {a : LX} {line : Int} {tl : Tok} {pbv : List Value} {pe : Nat} {sgv : List Value} {se : Nat} {p : Addr × Obj} (h : p ∈ a.led P line tl pbv pe sgv se) : p.1 ∈ a.addrs := by
  have e : a.addrs = (a.led P line tl pbv pe sgv se).map (·.1) := rfl
  rw [e]
  exact List.mem_map_of_mem h
theorem LX.off {P : Params} {a : LX} {line : Int} {tl : Tok} {pbv : List Value} {pe : Nat} {sgv : List Value} {se : Nat} {rest : List (Addr × Obj)} (h : ∀ b ∈ a.addrs, ∀ q ∈ rest, b ≠ q.1) : ∀ p ∈ a.led P line tl pbv pe sgv se, ∀ q ∈ rest, p.1 ≠ q.1 :=
  fun _ hp q hq => h _ (LX.mem hp) q hq
theorem LX.Ok.pbLt {a : LX} (ok : a.Ok) : @LT.lt Nat _ a.lx a.pb ∧ @LT.lt Nat _ a.dx a.pb ∧ @LT.lt Nat _ a.dst a.pb ∧ @LT.lt Nat _ a.lam a.pb ∧ @LT.lt Nat _ a.st a.pb ∧ @LT.lt Nat _ a.sg a.pb ∧ @LT.lt Nat _ a.cell a.pb :=
  have h1 := ok.o7
  have h2 := Nat.lt_trans ok.o6 h1
  have h3 := Nat.lt_trans ok.o5 h2
  have h4 := Nat.lt_trans ok.o4 h3
  have h5 := Nat.lt_trans ok.o3 h4
  have h6 := Nat.lt_trans ok.o2 h5
  ⟨h1, h2, h3, h4, h5, h6, Nat.lt_trans ok.o1 h6⟩
theorem LX.Ok.dxLt {a : LX} (ok : a.Ok) : @LT.lt Nat _ a.dst a.dx ∧ @LT.lt Nat _ a.lam a.dx ∧ @LT.lt Nat _ a.st a.dx ∧ @LT.lt Nat _ a.sg a.dx ∧ @LT.lt Nat _ a.cell a.dx ∧ @LT.lt Nat _ a.dx a.pb :=
  have h3 := ok.o5
  have h4 := Nat.lt_trans ok.o4 h3
  have h5 := Nat.lt_trans ok.o3 h4
  have h6 := Nat.lt_trans ok.o2 h5
  ⟨h3, h4, h5, h6, Nat.lt_trans ok.o1 h6, Nat.lt_trans ok.o6 ok.o7⟩
theorem LX.Ok.sgLt {a : LX} (ok : a.Ok) : @LT.lt Nat _ a.sg a.st ∧ @LT.lt Nat _ a.sg a.lam ∧ @LT.lt Nat _ a.sg a.dst ∧ @LT.lt Nat _ a.sg a.dx ∧ @LT.lt Nat _ a.sg a.lx ∧ @LT.lt Nat _ a.sg a.pb :=
  have h1 := ok.o2
  have h2 := Nat.lt_trans h1 ok.o3
  have h3 := Nat.lt_trans h2 ok.o4
  have h4 := Nat.lt_trans h3 ok.o5
  have h5 := Nat.lt_trans h4 ok.o6
  ⟨h1, h2, h3, h4, h5, Nat.lt_trans h5 ok.o7⟩
theorem ite_tt {c : Prop} [Decidable c] {a b : Prop} (h : c) (k : a) : if c then a else b := by rw [if_pos h]; exact k
theorem ite_ff {c : Prop} [Decidable c] {a b : Prop} (h : ¬ c) (k : b) : if c then a else b := by rw [if_neg h]; exact k
theorem sz_list {l : List Value} {v : Value} (h : l.length ≤ 100000) : (((Array.mk (v :: l)).size : Nat) : Int) < 2 ^ 63 := by
  show ((l.length + 1 : Nat) : Int) < 2 ^ 63
  lia
end
section
theorem runFor_some (n : Nat) (m : Sre.M) (h : m.outcome.isSome = true) : m.runFor n = m := by
  cases n with
  | zero => rfl
  | succ n => unfold Sre.M.runFor; rw [if_pos h]
theorem runFor_add (a b : Nat) : ∀ m : Sre.M, m.runFor (a + b) = (m.runFor a).runFor b := by
  induction a with
  | zero => intro m; rw [Nat.zero_add]; rfl
  | succ a ih =>
    intro m
    rw [Nat.succ_add]
    show Sre.M.runFor (a + b + 1) m = Sre.M.runFor b (Sre.M.runFor (a + 1) m)
    rw [Sre.M.runFor, Sre.M.runFor]
    by_cases h : m.outcome.isSome = true
    · rw [if_pos h, if_pos h, runFor_some _ _ h]
    · rw [if_neg h, if_neg h, ih]
theorem runFor_one {m : Sre.M} (h : m.outcome = none) : m.runFor 1 = m.step := by
  unfold Sre.M.runFor; rw [h]; rfl

-- m comes to one of P's in at most n steps
noncomputable def Goes (n : Nat) (m : Sre.M) (P : Sre.M → Prop) : Prop := ∃ k, k ≤ n ∧ P (m.runFor k)
theorem Goes.now {m : Sre.M} {P : Sre.M → Prop} (h : P m) : Goes 0 m P := ⟨0, Nat.le_refl _, h⟩
theorem Goes.step {n : Nat} {m : Sre.M} {P : Sre.M → Prop} (ho : m.outcome = none) (h : Goes n m.step P) : Goes (n + 1) m P := by
  obtain ⟨k, hk, hp⟩ := h
  refine ⟨1 + k, by lia, ?_⟩
  rw [runFor_add, runFor_one ho]; exact hp
theorem Goes.mono {n n' : Nat} {m : Sre.M} {P : Sre.M → Prop} (h : Goes n m P) (hn : n ≤ n') : Goes n' m P := let ⟨k, hk, hp⟩ := h; ⟨k, Nat.le_trans hk hn, hp⟩
theorem Goes.trans {a b : Nat} {m : Sre.M} {P Q : Sre.M → Prop} (h : Goes a m P) (h' : ∀ m', P m' → Goes b m' Q) : Goes (a + b) m Q := by
  obtain ⟨k, hk, hp⟩ := h
  obtain ⟨j, hj, hq⟩ := h' _ hp
  exact ⟨k + j, by lia, by rw [runFor_add]; exact hq⟩

noncomputable def c1 : Array Nat := #[14, 4, 0, 1, 1, 6, 1, 16, 46, 1]
noncomputable def c2 : Array Nat := #[14, 9, 4, 1, 2, 16, 10, 16, 13, 0, 7, 7, 16, 13, 16, 10, 15, 18, 5, 16, 10, 15, 13, 11, 16, 13, 5, 5, 0, 16, 10, 1, 15, 2, 0, 1]

noncomputable abbrev stF (pc s : Nat) (first : Bool) : Sre.Frame := { wait := .nextStart, pc := pc, pos := s, outermost := first }
noncomputable abbrev X (c text : Array Nat) (lim start ls pc pos handed : Nat) (out : Bool) (fr : List Sre.Frame) (wt : Nat) (ans : Option Bool) (sn : Sre.Seen) (oc : Option Sre.Outcome) : Sre.M :=
  { code := c, text, lim, start, lastStart := ls, pc, pos, handed, outermost := out, marks := #[], frames := fr, weight := wt, answer := ans, seen := sn, outcome := oc }
section
variable {text : Array Nat} {lim s ls pos handed : Nat} {first : Bool} {sn : Sre.Seen}
theorem a1_yes (h : (s == 0 || text.getD (s - 1) 0 == 10) = true) : (X c1 text lim s ls 5 s s first [stF 5 s first] 1 none sn none).step = X c1 text lim s ls 7 s s first [stF 5 s first] 1 none ((sn.add 6).add 44) none := by
  show (if (s == 0 || text.getD (s - 1) 0 == 10) = true then _ else _) = _
  rw [if_pos h]; rfl
theorem a1_no (h : (s == 0 || text.getD (s - 1) 0 == 10) = false) : (X c1 text lim s ls 5 s s first [stF 5 s first] 1 none sn none).step = X c1 text lim s ls 5 s s first [stF 5 s first] 1 (some false) ((sn.add 6).add 44) none := by
  show (if (s == 0 || text.getD (s - 1) 0 == 10) = true then _ else _) = _
  rw [if_neg (by rw [h]; exact Bool.false_ne_true)]; rfl
theorem l1_out (h : s ≥ lim) : (X c1 text lim s ls 7 s s first [stF 5 s first] 1 none sn none).step = X c1 text lim s ls 7 s s first [stF 5 s first] 1 (some false) (sn.add 16) none := by
  show (if s ≥ lim then _ else _) = _
  rw [if_pos h]; rfl
theorem l1_no (h : ¬ s ≥ lim) (h2 : (text.getD s 0 == 46) = false) : (X c1 text lim s ls 7 s s first [stF 5 s first] 1 none sn none).step = X c1 text lim s ls 7 s s first [stF 5 s first] 1 (some false) (sn.add 16) none := by
  show (if s ≥ lim then _ else (match (Except.ok ((text.getD s 0 == 46), sn.add 16) : Except String (Bool × Sre.Seen)) with | .error why => _ | .ok (false, seen) => _ | .ok (true, seen) => _)) = _
  rw [if_neg h, h2]; rfl
theorem l1_yes (h : ¬ s ≥ lim) (h2 : (text.getD s 0 == 46) = true) : (X c1 text lim s ls 7 s s first [stF 5 s first] 1 none sn none).step = X c1 text lim s ls 9 (s + 1) s first [stF 5 s first] 1 none (sn.add 16) none := by
  show (if s ≥ lim then _ else (match (Except.ok ((text.getD s 0 == 46), sn.add 16) : Except String (Bool × Sre.Seen)) with | .error why => _ | .ok (false, seen) => _ | .ok (true, seen) => _)) = _
  rw [if_neg h, h2]; rfl
theorem e1_ok : (X c1 text lim s ls 9 (s + 1) s first [stF 5 s first] 1 none sn none).step = X c1 text lim s ls 9 (s + 1) (s + 1) first [stF 5 s first] 1 (some true) (sn.add 1) none := by
  cases first <;> rfl
theorem r_yes {c : Array Nat} {pc p : Nat} : (X c text lim s ls pc pos handed first [stF p s first] 1 (some true) sn none).step = X c text lim s ls p s handed first [] 0 (some true) sn none := rfl
theorem f_yes {c : Array Nat} {pc : Nat} : (X c text lim s ls pc pos handed first [] 0 (some true) sn none).step = X c text lim s ls pc pos handed first [] 0 (some true) sn (some .matched) := rfl
theorem f_no {c : Array Nat} {pc : Nat} : (X c text lim s ls pc pos handed first [] 0 (some false) sn none).step = X c text lim s ls pc pos handed first [] 0 (some false) sn (some .failed) := rfl
theorem r_no {c : Array Nat} {pc p : Nat} (h : ¬ s < ls) : (X c text lim s ls pc pos handed first [stF p s first] 1 (some false) sn none).step = X c text lim s ls p s handed first [] 0 (some false) sn none := by
  show (if s < ls then _ else _) = _
  rw [if_neg h]; rfl
theorem r1_next {pc : Nat} (h : s < ls) : (X c1 text lim s ls pc pos handed first [stF 5 s first] 1 (some false) sn none).step = X c1 text lim (s + 1) ls 5 (s + 1) (s + 1) false [stF 5 (s + 1) false] 1 none sn none := by
  show (if s < ls then _ else _) = _
  rw [if_pos h]; rfl
end

-- what a search comes to: none from p on, or the first place
inductive Fnd (mt : Nat → Option Nat) (lim : Nat) : Nat → Sre.M → Prop
  | no {p : Nat} {m : Sre.M} : (∀ r, p ≤ r → r < lim → mt r = none) → m.outcome = some .failed → Fnd mt lim p m
  | hit {p s e : Nat} {m : Sre.M} : p ≤ s → s < lim → (∀ r, p ≤ r → r < s → mt r = none) → mt s = some e → m.outcome = some .matched → m.start = s → m.handed = e → Fnd mt lim p m
theorem Fnd.from {mt : Nat → Option Nat} {lim p : Nat} {m : Sre.M} (h0 : mt p = none) (h : Fnd mt lim (p + 1) m) : Fnd mt lim p m := by
  cases h with
  | no h o => exact .no (fun r h1 h2 => by rcases Nat.eq_or_lt_of_le h1 with e | e; exact e ▸ h0; exact h r e h2) o
  | hit h1 h2 h3 h4 o a b => exact .hit (Nat.le_of_succ_le h1) h2 (fun r k1 k2 => by rcases Nat.eq_or_lt_of_le k1 with e | e; exact e ▸ h0; exact h3 r e k2) h4 o a b

noncomputable def mt1 (text : Array Nat) (s : Nat) : Option Nat := if s < text.size ∧ (s == 0 || text.getD (s - 1) 0 == 10) = true ∧ (text.getD s 0 == 46) = true then some (s + 1) else none

theorem search1 (text : Array Nat) : ∀ (k s : Nat) (first : Bool) (sn : Sre.Seen), text.size - s ≤ k → s ≤ text.size →
    Goes (5 * k + 10) (X c1 text text.size s text.size 5 s s first [stF 5 s first] 1 none sn none) (Fnd (mt1 text) text.size s) := by
  intro k
  induction k with
  | zero =>
    intro s first sn hk hs
    have hse : s = text.size := by lia
    have hn : Fnd (mt1 text) text.size s = Fnd (mt1 text) text.size s := rfl
    have fin : ∀ pc pos handed sn', Goes 3 (X c1 text text.size s text.size pc pos handed first [stF 5 s first] 1 (some false) sn' none) (Fnd (mt1 text) text.size s) := fun pc pos handed sn' =>
      (Goes.step (n := 1) rfl (by rw [r_no (by lia)]; exact Goes.step rfl (by rw [f_no]; exact .now (.no (fun r h1 h2 => by lia) rfl)))).mono (by lia)
    cases h : (s == 0 || text.getD (s - 1) 0 == 10) with
    | false => exact (Goes.step rfl (by rw [a1_no h]; exact fin _ _ _ _)).mono (by lia)
    | true => exact (Goes.step rfl (by rw [a1_yes h]; exact Goes.step rfl (by rw [l1_out (by lia)]; exact fin _ _ _ _))).mono (by lia)
  | succ k ih =>
    intro s first sn hk hs
    by_cases hse : s = text.size
    · have fin : ∀ pc pos handed sn', Goes 3 (X c1 text text.size s text.size pc pos handed first [stF 5 s first] 1 (some false) sn' none) (Fnd (mt1 text) text.size s) := fun pc pos handed sn' =>
        (Goes.step (n := 1) rfl (by rw [r_no (by lia)]; exact Goes.step rfl (by rw [f_no]; exact .now (.no (fun r h1 h2 => by lia) rfl)))).mono (by lia)
      cases h : (s == 0 || text.getD (s - 1) 0 == 10) with
      | false => exact (Goes.step rfl (by rw [a1_no h]; exact fin _ _ _ _)).mono (by lia)
      | true => exact (Goes.step rfl (by rw [a1_yes h]; exact Goes.step rfl (by rw [l1_out (by lia)]; exact fin _ _ _ _))).mono (by lia)
    · have hlt : s < text.size := by lia
      have next : mt1 text s = none → ∀ pc pos handed sn', Goes (5 * k + 11) (X c1 text text.size s text.size pc pos handed first [stF 5 s first] 1 (some false) sn' none) (Fnd (mt1 text) text.size s) := fun h0 pc pos handed sn' =>
        Goes.step rfl (by
          rw [r1_next hlt]
          obtain ⟨j, hj, hp⟩ := ih (s + 1) false sn' (by lia) (by lia)
          exact ⟨j, hj, Fnd.from h0 hp⟩)
      cases h : (s == 0 || text.getD (s - 1) 0 == 10) with
      | false => exact (Goes.step rfl (by rw [a1_no h]; exact next (by unfold mt1; rw [if_neg (by rw [h]; simp)]) _ _ _ _)).mono (by lia)
      | true =>
        cases h2 : (text.getD s 0 == 46) with
        | false => exact (Goes.step rfl (by rw [a1_yes h]; exact Goes.step rfl (by rw [l1_no (by lia) h2]; exact next (by unfold mt1; rw [if_neg (by rw [h2]; simp)]) _ _ _ _))).mono (by lia)
        | true =>
          refine (Goes.step rfl (by
            rw [a1_yes h]
            exact Goes.step rfl (by
              rw [l1_yes (by lia) h2]
              exact Goes.step rfl (by
                rw [e1_ok]
                exact Goes.step rfl (by
                  rw [r_yes]
                  exact Goes.step rfl (by
                    rw [f_yes]
                    exact .now (.hit (e := s + 1) (Nat.le_refl _) hlt (fun r h1 h2 => by lia) (by unfold mt1; rw [if_pos ⟨hlt, h, h2⟩]) rfl rfl rfl)))))) : Goes 5 _ _).mono (by lia)
section
variable {text : Array Nat} {lim s ls pos handed : Nat} {first out : Bool} {sn : Sre.Seen} {fr : List Sre.Frame} {wt : Nat}
noncomputable abbrev brF (pc s : Nat) (out : Bool) : Sre.Frame := { wait := .nextBranch, pc := pc, pos := s, outermost := out }
noncomputable abbrev lnF (pc s : Nat) (out : Bool) : Sre.Frame := { wait := .lookNot, pc := pc, pos := s, outermost := out }
theorem l2_12_out (h : pos ≥ lim) : (X c2 text lim s ls 12 pos handed out fr wt none sn none).step = X c2 text lim s ls 12 pos handed out fr wt (some false) (sn.add 16) none := by
  show (if pos ≥ lim then _ else _) = _
  rw [if_pos h]; rfl
theorem l2_12_no (h : ¬ pos ≥ lim) (h2 : (text.getD pos 0 == 13) = false) : (X c2 text lim s ls 12 pos handed out fr wt none sn none).step = X c2 text lim s ls 12 pos handed out fr wt (some false) (sn.add 16) none := by
  show (if pos ≥ lim then _ else (match (Except.ok ((text.getD pos 0 == 13), sn.add 16) : Except String (Bool × Sre.Seen)) with | .error why => _ | .ok (false, seen) => _ | .ok (true, seen) => _)) = _
  rw [if_neg h, h2]; rfl
theorem l2_12_yes (h : ¬ pos ≥ lim) (h2 : (text.getD pos 0 == 13) = true) : (X c2 text lim s ls 12 pos handed out fr wt none sn none).step = X c2 text lim s ls 14 (pos + 1) handed out fr wt none (sn.add 16) none := by
  show (if pos ≥ lim then _ else (match (Except.ok ((text.getD pos 0 == 13), sn.add 16) : Except String (Bool × Sre.Seen)) with | .error why => _ | .ok (false, seen) => _ | .ok (true, seen) => _)) = _
  rw [if_neg h, h2]; rfl
theorem l2_14_out (h : pos ≥ lim) : (X c2 text lim s ls 14 pos handed out fr wt none sn none).step = X c2 text lim s ls 14 pos handed out fr wt (some false) (sn.add 16) none := by
  show (if pos ≥ lim then _ else _) = _
  rw [if_pos h]; rfl
theorem l2_14_no (h : ¬ pos ≥ lim) (h2 : (text.getD pos 0 == 10) = false) : (X c2 text lim s ls 14 pos handed out fr wt none sn none).step = X c2 text lim s ls 14 pos handed out fr wt (some false) (sn.add 16) none := by
  show (if pos ≥ lim then _ else (match (Except.ok ((text.getD pos 0 == 10), sn.add 16) : Except String (Bool × Sre.Seen)) with | .error why => _ | .ok (false, seen) => _ | .ok (true, seen) => _)) = _
  rw [if_neg h, h2]; rfl
theorem l2_14_yes (h : ¬ pos ≥ lim) (h2 : (text.getD pos 0 == 10) = true) : (X c2 text lim s ls 14 pos handed out fr wt none sn none).step = X c2 text lim s ls 16 (pos + 1) handed out fr wt none (sn.add 16) none := by
  show (if pos ≥ lim then _ else (match (Except.ok ((text.getD pos 0 == 10), sn.add 16) : Except String (Bool × Sre.Seen)) with | .error why => _ | .ok (false, seen) => _ | .ok (true, seen) => _)) = _
  rw [if_neg h, h2]; rfl
theorem l2_19_out (h : pos ≥ lim) : (X c2 text lim s ls 19 pos handed out fr wt none sn none).step = X c2 text lim s ls 19 pos handed out fr wt (some false) (sn.add 16) none := by
  show (if pos ≥ lim then _ else _) = _
  rw [if_pos h]; rfl
theorem l2_19_no (h : ¬ pos ≥ lim) (h2 : (text.getD pos 0 == 10) = false) : (X c2 text lim s ls 19 pos handed out fr wt none sn none).step = X c2 text lim s ls 19 pos handed out fr wt (some false) (sn.add 16) none := by
  show (if pos ≥ lim then _ else (match (Except.ok ((text.getD pos 0 == 10), sn.add 16) : Except String (Bool × Sre.Seen)) with | .error why => _ | .ok (false, seen) => _ | .ok (true, seen) => _)) = _
  rw [if_neg h, h2]; rfl
theorem l2_19_yes (h : ¬ pos ≥ lim) (h2 : (text.getD pos 0 == 10) = true) : (X c2 text lim s ls 19 pos handed out fr wt none sn none).step = X c2 text lim s ls 21 (pos + 1) handed out fr wt none (sn.add 16) none := by
  show (if pos ≥ lim then _ else (match (Except.ok ((text.getD pos 0 == 10), sn.add 16) : Except String (Bool × Sre.Seen)) with | .error why => _ | .ok (false, seen) => _ | .ok (true, seen) => _)) = _
  rw [if_neg h, h2]; rfl
theorem l2_24_out (h : pos ≥ lim) : (X c2 text lim s ls 24 pos handed out fr wt none sn none).step = X c2 text lim s ls 24 pos handed out fr wt (some false) (sn.add 16) none := by
  show (if pos ≥ lim then _ else _) = _
  rw [if_pos h]; rfl
theorem l2_24_no (h : ¬ pos ≥ lim) (h2 : (text.getD pos 0 == 13) = false) : (X c2 text lim s ls 24 pos handed out fr wt none sn none).step = X c2 text lim s ls 24 pos handed out fr wt (some false) (sn.add 16) none := by
  show (if pos ≥ lim then _ else (match (Except.ok ((text.getD pos 0 == 13), sn.add 16) : Except String (Bool × Sre.Seen)) with | .error why => _ | .ok (false, seen) => _ | .ok (true, seen) => _)) = _
  rw [if_neg h, h2]; rfl
theorem l2_24_yes (h : ¬ pos ≥ lim) (h2 : (text.getD pos 0 == 13) = true) : (X c2 text lim s ls 24 pos handed out fr wt none sn none).step = X c2 text lim s ls 26 (pos + 1) handed out fr wt none (sn.add 16) none := by
  show (if pos ≥ lim then _ else (match (Except.ok ((text.getD pos 0 == 13), sn.add 16) : Except String (Bool × Sre.Seen)) with | .error why => _ | .ok (false, seen) => _ | .ok (true, seen) => _)) = _
  rw [if_neg h, h2]; rfl
theorem l2_29_out (h : pos ≥ lim) : (X c2 text lim s ls 29 pos handed out fr wt none sn none).step = X c2 text lim s ls 29 pos handed out fr wt (some false) (sn.add 16) none := by
  show (if pos ≥ lim then _ else _) = _
  rw [if_pos h]; rfl
theorem l2_29_no (h : ¬ pos ≥ lim) (h2 : (text.getD pos 0 == 10) = false) : (X c2 text lim s ls 29 pos handed out fr wt none sn none).step = X c2 text lim s ls 29 pos handed out fr wt (some false) (sn.add 16) none := by
  show (if pos ≥ lim then _ else (match (Except.ok ((text.getD pos 0 == 10), sn.add 16) : Except String (Bool × Sre.Seen)) with | .error why => _ | .ok (false, seen) => _ | .ok (true, seen) => _)) = _
  rw [if_neg h, h2]; rfl
theorem l2_29_yes (h : ¬ pos ≥ lim) (h2 : (text.getD pos 0 == 10) = true) : (X c2 text lim s ls 29 pos handed out fr wt none sn none).step = X c2 text lim s ls 31 (pos + 1) handed out fr wt none (sn.add 16) none := by
  show (if pos ≥ lim then _ else (match (Except.ok ((text.getD pos 0 == 10), sn.add 16) : Except String (Bool × Sre.Seen)) with | .error why => _ | .ok (false, seen) => _ | .ok (true, seen) => _)) = _
  rw [if_neg h, h2]; rfl
theorem j2_16 : (X c2 text lim s ls 16 pos handed out fr wt none sn none).step = X c2 text lim s ls 35 pos handed out fr wt none (sn.add 15) none := rfl
theorem j2_21 : (X c2 text lim s ls 21 pos handed out fr wt none sn none).step = X c2 text lim s ls 35 pos handed out fr wt none (sn.add 15) none := rfl
theorem j2_32 : (X c2 text lim s ls 32 pos handed out fr wt none sn none).step = X c2 text lim s ls 35 pos handed out fr wt none (sn.add 15) none := rfl
theorem e2_ok : (X c2 text lim s ls 35 pos handed out fr wt none sn none).step = X c2 text lim s ls 35 pos pos out fr wt (some true) (sn.add 1) none := by
  cases out <;> rfl
theorem b2_10 : (X c2 text lim s ls 10 s s first [stF 10 s first] 1 none sn none).step = X c2 text lim s ls 12 s s first [brF 11 s first, stF 10 s first] 2 none (sn.add 7) none := rfl
theorem br_yes {pc p p2 : Nat} : (X c2 text lim s ls pc pos handed out [brF p s first, stF p2 s first] 2 (some true) sn none).step = X c2 text lim s ls p s handed first [stF p2 s first] 1 (some true) sn none := rfl
theorem br_11 {pc p2 : Nat} : (X c2 text lim s ls pc pos handed out [brF 11 s first, stF p2 s first] 2 (some false) sn none).step = X c2 text lim s ls 19 s s first [brF 18 s first, stF p2 s first] 2 none sn none := rfl
theorem br_18 {pc p2 : Nat} : (X c2 text lim s ls pc pos handed out [brF 18 s first, stF p2 s first] 2 (some false) sn none).step = X c2 text lim s ls 24 s s first [brF 23 s first, stF p2 s first] 2 none sn none := rfl
theorem an_26 {p p2 : Nat} : (X c2 text lim s ls 26 pos handed out [brF p s first, stF p2 s first] 2 none sn none).step = X c2 text lim s ls 29 pos pos false [lnF 26 pos out, brF p s first, stF p2 s first] 3 none (sn.add 5) none := rfl
theorem ln_no {pc p p2 q : Nat} {out2 : Bool} : (X c2 text lim s ls pc pos handed out [lnF 26 q out2, brF p s first, stF p2 s first] 3 (some false) sn none).step = X c2 text lim s ls 32 q handed out2 [brF p s first, stF p2 s first] 2 none sn none := rfl
end
theorem in2 (c : Nat) (sn : Sre.Seen) : ∃ sn', Sre.inSet c2 c c2.size 5 true sn = .ok ((c == 10 || c == 13), sn') := by
  have e : Sre.inSet c2 c c2.size 5 true sn = (if (c == 10) = true then .ok (true, sn.add 16) else if (c == 13) = true then .ok (true, (sn.add 16).add 16) else .ok (false, ((sn.add 16).add 16).add 0)) := rfl
  rw [e]
  cases h : (c == 10) with
  | true => exact ⟨_, rfl⟩
  | false => cases h2 : (c == 13) with
    | true => exact ⟨_, rfl⟩
    | false => exact ⟨_, rfl⟩
noncomputable def isNl (text : Array Nat) (r : Nat) : Bool := text.getD r 0 == 10 || text.getD r 0 == 13
theorem adm2 (m : Sre.M) (hc : m.code = c2) : ∀ (fuel s : Nat) (sn : Sre.Seen), m.lim + 1 - s ≤ fuel → ∃ sn',
    (∃ r, Sre.M.admitted m fuel s sn = .ok (some r, sn') ∧ s ≤ r ∧ r < m.lim ∧ isNl m.text r = true ∧ ∀ q, s ≤ q → q < r → isNl m.text q = false) ∨
    (Sre.M.admitted m fuel s sn = .ok (none, sn') ∧ ∀ q, s ≤ q → q < m.lim → isNl m.text q = false) := by
  intro fuel
  induction fuel with
  | zero => intro s sn h; exact ⟨sn, .inr ⟨rfl, fun q h1 h2 => by lia⟩⟩
  | succ fuel ih =>
    intro s sn h
    unfold Sre.M.admitted
    by_cases hs : s ≥ m.lim
    · rw [if_pos hs]; exact ⟨sn, .inr ⟨rfl, fun q h1 h2 => by lia⟩⟩
    · rw [if_neg hs, hc]
      obtain ⟨sn1, e⟩ := in2 (m.text.getD s 0) sn
      rw [e]
      cases hb : (m.text.getD s 0 == 10 || m.text.getD s 0 == 13) with
      | true => exact ⟨sn1, .inl ⟨s, rfl, Nat.le_refl _, by lia, hb, fun q h1 h2 => by lia⟩⟩
      | false =>
        obtain ⟨sn2, h2⟩ := ih (s + 1) sn1 (by lia)
        refine ⟨sn2, ?_⟩
        rcases h2 with ⟨r, e1, e2, e3, e4, e5⟩ | ⟨e1, e2⟩
        · exact .inl ⟨r, e1, by lia, e3, e4, fun q k1 k2 => by rcases Nat.eq_or_lt_of_le k1 with k | k; exact k ▸ hb; exact e5 q k k2⟩
        · exact .inr ⟨e1, fun q k1 k2 => by rcases Nat.eq_or_lt_of_le k1 with k | k; exact k ▸ hb; exact e2 q k k2⟩

noncomputable def mt2 (text : Array Nat) (s : Nat) : Option Nat :=
  if s < text.size then (if (text.getD s 0 == 13) = true then (if s + 1 < text.size ∧ (text.getD (s + 1) 0 == 10) = true then some (s + 2) else some (s + 1)) else if (text.getD s 0 == 10) = true then some (s + 1) else none) else none

noncomputable def Hit (s e : Nat) (m : Sre.M) : Prop := m.outcome = some .matched ∧ m.start = s ∧ m.handed = e
section
variable {text : Array Nat} {s ls : Nat} {first : Bool}
theorem end2 {pos handed p : Nat} {out : Bool} {sn : Sre.Seen} : Goes 5 (X c2 text text.size s ls 35 pos handed out [brF p s first, stF 10 s first] 2 none sn none) (Hit s pos) :=
  Goes.step rfl (by rw [e2_ok]; exact Goes.step rfl (by rw [br_yes]; exact Goes.step rfl (by rw [r_yes]; exact (Goes.step (n := 0) rfl (by rw [f_yes]; exact .now ⟨rfl, rfl, rfl⟩)).mono (by lia))))

theorem match2 {sn : Sre.Seen} {e : Nat} (hs : s < text.size) (he : mt2 text s = some e) : Goes 20 (X c2 text text.size s ls 10 s s first [stF 10 s first] 1 none sn none) (Hit s e) := by
  unfold mt2 at he
  rw [if_pos hs] at he
  refine (Goes.step (n := 17) rfl ?_).mono (by lia)
  rw [b2_10]
  cases h13 : (text.getD s 0 == 13) with
  | true =>
    rw [h13, if_pos rfl] at he
    refine Goes.step (n := 16) rfl ?_
    rw [l2_12_yes (by lia) h13]
    by_cases h10 : s + 1 < text.size ∧ (text.getD (s + 1) 0 == 10) = true
    · rw [if_pos h10] at he
      cases he
      exact (Goes.step (n := 6) rfl (by rw [l2_14_yes (by lia) h10.2]; exact Goes.step rfl (by rw [j2_16]; exact end2))).mono (by lia)
    · rw [if_neg h10] at he
      cases he
      have after : ∀ sn', Goes 15 (X c2 text text.size s ls 14 (s + 1) s first [brF 11 s first, stF 10 s first] 2 (some false) sn' none) (Hit s (s + 1)) := fun sn' => by
        refine Goes.step (n := 14) rfl ?_
        rw [br_11]
        refine Goes.step (n := 13) rfl ?_
        rw [l2_19_no (by lia) (by rw [beq_iff_eq] at h13; rw [h13]; rfl)]
        refine Goes.step (n := 12) rfl ?_
        rw [br_18]
        refine Goes.step (n := 11) rfl ?_
        rw [l2_24_yes (by lia) h13]
        refine Goes.step (n := 10) rfl ?_
        rw [an_26]
        have after2 : ∀ sn'', Goes 9 (X c2 text text.size s ls 29 (s + 1) (s + 1) false [lnF 26 (s + 1) first, brF 23 s first, stF 10 s first] 3 (some false) sn'' none) (Hit s (s + 1)) := fun sn'' =>
          (Goes.step (n := 6) rfl (by rw [ln_no]; exact Goes.step rfl (by rw [j2_32]; exact end2))).mono (by lia)
        by_cases hend : s + 1 ≥ text.size
        · refine Goes.step (n := 9) rfl ?_
          rw [l2_29_out hend]
          exact after2 _
        · refine Goes.step (n := 9) rfl ?_
          rw [l2_29_no hend (by
            cases q : (text.getD (s + 1) 0 == 10) with
            | false => rfl
            | true => exact absurd ⟨by lia, q⟩ h10)]
          exact after2 _
      by_cases hend : s + 1 ≥ text.size
      · refine Goes.step (n := 15) rfl ?_
        rw [l2_14_out hend]
        exact after _
      · refine Goes.step (n := 15) rfl ?_
        rw [l2_14_no hend (by
          cases q : (text.getD (s + 1) 0 == 10) with
          | false => rfl
          | true => exact absurd ⟨by lia, q⟩ h10)]
        exact after _
  | false =>
    rw [h13, if_neg Bool.false_ne_true] at he
    by_cases h10 : (text.getD s 0 == 10) = true
    · rw [if_pos h10] at he
      cases he
      refine Goes.step (n := 16) rfl ?_
      rw [l2_12_no (by lia) h13]
      refine Goes.step (n := 15) rfl ?_
      rw [br_11]
      refine Goes.step (n := 14) rfl ?_
      rw [l2_19_yes (by lia) h10]
      exact (Goes.step (n := 5) rfl (by rw [j2_21]; exact end2)).mono (by lia)
    · rw [if_neg h10] at he; cases he
end

theorem mt2_some {text : Array Nat} {r : Nat} (hr : r < text.size) (h : isNl text r = true) : ∃ e, mt2 text r = some e := by
  unfold mt2
  rw [if_pos hr]
  unfold isNl at h
  generalize text.getD r 0 = c at h ⊢
  by_cases h13 : (c == 13) = true
  · rw [if_pos h13]
    by_cases q : r + 1 < text.size ∧ (text.getD (r + 1) 0 == 10) = true
    · exact ⟨_, if_pos q⟩
    · exact ⟨_, if_neg q⟩
  · rw [if_neg h13]
    rw [Bool.or_eq_true] at h
    exact ⟨_, if_pos (h.resolve_right h13)⟩
theorem mt2_none {text : Array Nat} {r : Nat} (h : isNl text r = false) : mt2 text r = none := by
  unfold mt2
  unfold isNl at h
  generalize text.getD r 0 = c at h ⊢
  rw [Bool.or_eq_false_iff] at h
  by_cases hr : r < text.size
  · rw [if_pos hr, if_neg (by rw [h.2]; exact Bool.false_ne_true), if_neg (by rw [h.1]; exact Bool.false_ne_true)]
  · rw [if_neg hr]

theorem mt2_lt {text : Array Nat} {r e : Nat} (h : mt2 text r = some e) : r < text.size ∧ r < e ∧ e ≤ text.size := by
  unfold mt2 at h
  split at h
  · split at h
    · split at h
      · cases h; lia
      · cases h; lia
    · split at h
      · cases h; lia
      · cases h
  · cases h
theorem mt1_lt {text : Array Nat} {r e : Nat} (h : mt1 text r = some e) : r < text.size ∧ r < e ∧ e ≤ text.size := by
  unfold mt1 at h
  split at h
  · cases h; lia
  · cases h

theorem find1 (text : Array Nat) (p : Nat) (hp : p ≤ text.size) : Goes (5 * text.size + 20) (Sre.forSearch c1 text 0 p text.size false) (Fnd (mt1 text) text.size p) := by
  have e : Sre.forSearch c1 text 0 p text.size false = (if (decide (p > text.size) || decide (text.size - p < 1)) = true then X c1 text text.size p 0 5 p p true [] 0 (some false) (({} : Sre.Seen).add 14) none else X c1 text text.size p text.size 5 p p true [stF 5 p true] 1 none (({} : Sre.Seen).add 14) none) := rfl
  rw [e]
  by_cases h : text.size - p < 1
  · rw [if_pos (by simp [h])]
    exact (Goes.step (n := 0) rfl (by rw [f_no]; exact .now (.no (fun r h1 h2 => by lia) rfl))).mono (by lia)
  · rw [if_neg (by simp; lia)]
    exact (search1 text (text.size - p) p true _ (Nat.le_refl _) hp).mono (by lia)
theorem find2 (text : Array Nat) (p : Nat) (hp : p ≤ text.size) : Goes 30 (Sre.forSearch c2 text 0 p text.size false) (Fnd (mt2 text) text.size p) := by
  have e : Sre.forSearch c2 text 0 p text.size false = (if (decide (p > text.size) || decide (text.size - p < 1)) = true then X c2 text text.size p 0 10 p p true [] 0 (some false) (({} : Sre.Seen).add 14) none else
    Sre.M.attemptFrom (X c2 text text.size p text.size 10 p p true [] 0 none (({} : Sre.Seen).add 14) none) p true) := rfl
  rw [e]
  by_cases h : text.size - p < 1
  · rw [if_pos (by simp [h])]
    exact (Goes.step (n := 0) rfl (by rw [f_no]; exact .now (.no (fun r h1 h2 => by lia) rfl))).mono (by lia)
  · rw [if_neg (by simp; lia)]
    unfold Sre.M.attemptFrom
    rw [if_neg (show ¬ ((!(X c2 text text.size p text.size 10 p p true [] 0 none (({} : Sre.Seen).add 14) none).hasFirstSet) = true) from Bool.false_ne_true)]
    obtain ⟨sn', ha⟩ := adm2 (X c2 text text.size p text.size 10 p p true [] 0 none (({} : Sre.Seen).add 14) none) rfl (text.size + 1 - p) p (({} : Sre.Seen).add 14) (Nat.le_refl _)
    rcases ha with ⟨r, e1, h1, h2, h3, h4⟩ | ⟨e1, h1⟩
    · show Goes 30 (match Sre.M.admitted (X c2 text text.size p text.size 10 p p true [] 0 none (({} : Sre.Seen).add 14) none) (text.size + 1 - p) p (({} : Sre.Seen).add 14) with | .ok (some s, seen) => _ | .ok (none, seen) => _ | .error why => _) _
      rw [e1]
      obtain ⟨e', he'⟩ := mt2_some h2 h3
      have g := match2 (ls := text.size) (first := true) (sn := sn') h2 he'
      exact (g.trans (b := 0) fun m' hm => .now (.hit h1 h2 (fun q k1 k2 => mt2_none (h4 q k1 k2)) he' hm.1 hm.2.1 hm.2.2)).mono (by lia)
    · show Goes 30 (match Sre.M.admitted (X c2 text text.size p text.size 10 p p true [] 0 none (({} : Sre.Seen).add 14) none) (text.size + 1 - p) p (({} : Sre.Seen).add 14) with | .ok (some s, seen) => _ | .ok (none, seen) => _ | .error why => _) _
      rw [e1]
      exact (Goes.step (n := 0) rfl (.now (.no (fun q k1 k2 => mt2_none (h1 q k1 k2)) rfl))).mono (by lia)
end
section
noncomputable def citO (mth : Addr) (t : Tok) : Obj := { cls := .type "callable_iterator", data := .fields #[.ref mth, .str "" t, .bool false] }
noncomputable def citEnd : Obj := { cls := .type "callable_iterator", data := .fields #[.none, .none, .bool true] }
theorem ci_next_look : typeLookup (.type "callable_iterator") "__next__" = pure (some (.builtin "callable_iterator.__next__")) := by rw [typeLookup_type, builtinLookup_eq_fast]; kernel_rfl
theorem ci_iter_look : typeLookup (.type "callable_iterator") "__iter__" = pure (some (.builtin "callable_iterator.__iter__")) := by rw [typeLookup_type, builtinLookup_eq_fast]; kernel_rfl
theorem ci_next : Slot "callable_iterator" "__next__" "callable_iterator.__next__" := Slot.of (T := "callable_iterator") (name := "__next__") (owner := "callable_iterator") (n := "__next__") ci_next_look (by decide +kernel) (by decide +kernel) (by decide +kernel) (.inl (by decide +kernel)) (by rw [isSubtype_type]; kernel_rfl)
theorem ci_iter : Slot "callable_iterator" "__iter__" "callable_iterator.__iter__" := Slot.of (T := "callable_iterator") (name := "__iter__") (owner := "callable_iterator") (n := "__iter__") ci_iter_look (by decide +kernel) (by decide +kernel) (by decide +kernel) (.inl (by decide +kernel)) (by rw [isSubtype_type]; kernel_rfl)
theorem ci_entry_next : entryFor table "callable_iterator.__next__" = some Builtin.«callable_iterator.__next__» := entryFor_of_tree (by kernel_rfl)
theorem ci_args_next (a : Value) : argsOk "callable_iterator.__next__" ⟨[a], []⟩ := by unfold argsOk; kernel_rfl
theorem ci_args_iter (a : Value) : argsOk "callable_iterator.__iter__" ⟨[a], []⟩ := by unfold argsOk; kernel_rfl
theorem ci_stop : isSubtype (.type "StopIteration") (.type "StopIteration") = pure true := by rw [isSubtype_type]; kernel_rfl
section
variable {prog : Program} {w : World} {A : Around} {E : Value → Shared → Prop} {s : Shared} {it mth f : Addr} {self : Value} {t : Tok} {of : Obj} {fd : FuncData}
theorem wpAny_borrowed {M : Model} {g : Value} {pos : List Value} {Q : Value → Shared → Prop} (hc : codeAny M A (.call g ⟨pos, []⟩) (fun r s' => match r with | .ok (.ret v) => Q v s' | .ok _ => False | .error e => E e s') s) : wpAny M A (callBorrowed g pos) Q E s := fun Γ p hΓ =>
  wpCode_mono (fun r s' h => by rcases r with e | (v | _ | _ | _) <;> exact h) (hc _ p rfl (hΓ.enter (.call g ⟨pos, []⟩) none p (by intro x; cases x)))
theorem wpAny_borrows {M : Model} {Q : Bool → Shared → Prop} (hm : s.heap.get? mth = some (methodObj (.ref f) self)) (hf : s.heap.get? f = some of) (hfd : of.data = .func fd) (h : Q true s) : wpAny M A (borrowsExactly (.ref mth)) Q E s := by
  unfold borrowsExactly
  refine wpAny_bind (wpAny_load hm ?_)
  show wpAny _ _ (load f >>= _) _ _ _
  refine wpAny_bind (wpAny_load hf ?_)
  rw [hfd]
  exact wpAny_pure h
theorem pyNext_cit {Q : Option Value → Shared → Prop} (hh : A.handled = none) (hit : s.heap.get? it = some (citO mth t)) (hm : s.heap.get? mth = some (methodObj (.ref f) self)) (hf : s.heap.get? f = some of) (hfd : of.data = .func fd)
    (h : codeAny (model prog w) A.in1 (.call (.ref f) ⟨[self], []⟩) (fun r s₁ => match r with
      | .ok (.ret v) => s₁.heap.get? it = some (citO mth t) ∧ s₁.heap.get? mth = some (methodObj (.ref f) self) ∧ s₁.heap.get? f = some of ∧
        ∃ x u, v = .str x u ∧ ((x ≠ "" ∧ Q (some v) s₁) ∨ (x = "" ∧ ∀ h', Heap.ExtBut it s₁.heap h' → h'.get? it = some citEnd → Q none { s₁ with heap := h' }))
      | _ => False) s) : wpAny (model prog w) A (pyNext (.ref it)) Q E s := by
  have hT : s.TypeIs (.ref it) "callable_iterator" := ⟨_, hit, rfl⟩
  unfold pyNext
  refine wpAny_bind (wpAny_attempt (wpAny_callSpecial?_slot (name := Str.ofString "__next__") hT ci_next (wpAny_call_entry ci_next hT ci_entry_next ?_ (ci_args_next _))))
  unfold Builtin.«callable_iterator.__next__»
  refine wpAny_bind (wpAny_of_eq (a := (Value.ref it, [])) rfl ?_)
  try dsimp only
  refine wpAny_bind (wpAny_field hit rfl (x := .bool false) rfl ?_)
  rw [if_neg (by decide)]
  show wpAny _ _ (field (.ref it) 0 >>= _) _ _ _
  refine wpAny_bind (wpAny_field hit rfl (x := .ref mth) rfl ?_)
  refine wpAny_bind (wpAny_attempt ?_)
  unfold callOutOfASlot
  refine wpAny_bind (wpAny_borrows hm hf hfd ?_)
  rw [if_pos rfl]
  refine wpAny_borrowed (method_call hm ?_)
  refine codeAny_mono h fun r s₁ hr => ?_
  rcases r with e | (v | _ | _ | _) <;> try exact hr.elim
  obtain ⟨hit₁, hm₁, hf₁, x, u, rfl, hx⟩ := hr
  dsimp only
  refine wpAny_bind (wpAny_field hit₁ rfl (x := .bool false) rfl ?_)
  rw [if_neg (by decide)]
  show wpAny _ _ (field (.ref it) 1 >>= _) _ _ _
  refine wpAny_bind (wpAny_field hit₁ rfl (x := .str "" t) rfl ?_)
  refine wpAny_bind (wpAny_holding (PyProof.Rows.eqBool_str ?_))
  rcases hx with ⟨hne, hQ⟩ | ⟨rfl, hQ⟩
  · rw [show (("" : Str) == x) = false from beq_false_of_ne (fun e => hne e.symm)]
    exact wpAny_pure ⟨_, rfl, wpAny_pure hQ⟩
  · rw [if_neg (by decide)]
    refine wpAny_bind (wpAny_rule (wpAny_bind ?_))
    show wpAny _ _ (field (.ref it) 0 >>= _) _ _ _
    refine wpAny_bind (wpAny_field hit₁ rfl (x := .ref mth) rfl ?_)
    show wpAny _ _ (slotLetsGo _ (.ref mth) _ >>= _) _ _ _
    unfold slotLetsGo
    refine wpAny_bind (wpAny_bind (wpAny_borrows hm₁ hf₁ hfd ?_))
    rw [if_pos rfl]
    refine wpAny_pure ?_
    refine wpAny_bind (wpAny_setField_rec hit₁ (by simp) fun h1 e1 b1 => ?_)
    refine wpAny_bind (wpAny_setField_rec e1 (by simp) fun h2 e2 b2 => ?_)
    refine wpAny_setField_rec e2 (by simp) fun h3 e3 b3 => ?_
    show wpAny _ _ (newExc (.type "StopIteration") [] >>= _) _ _ _
    refine wpAny_bind ?_
    simp only [newExc, newTuple]
    refine wpAny_bind (wpAny_newObj_type ?_ (by size_fits))
    refine wpAny_bind (m := firstArgMember _ _) (wpAny_of_eq (a := Value.none) (by first | rfl | (simp only [firstArgMember]; rfl)) ?_)
    refine wpAny_newObj_type ?_ (by size_fits)
    simp only [raiseNew]
    refine wpAny_bind (wpAny_handled ?_)
    first | rw [show A.in1.handled = none from hh] | rw [hh]
    refine wpAny_bind (wpAny_pure (wpAny_throw ?_))
    refine wpAny_bind (wpAny_isInstance (T := "StopIteration") (b := true) ⟨_, Heap.get?_push_size _ rfl, rfl⟩ ci_stop ?_)
    have eb : Heap.ExtBut it s₁.heap h3 := fun b o hb e => (b3.2 b hb).trans ((b2.2 b hb).trans ((b1.2 b hb).trans e))
    exact wpAny_pure (hQ _ ((eb.push _).push _) (Heap.get?_push_of_some _ (Heap.get?_push_of_some _ e3)))
theorem pyNext_citEnd {Q : Option Value → Shared → Prop} (hh : A.handled = none) (hit : s.heap.get? it = some citEnd) (hQ : ∀ h', Heap.ExtBut it s.heap h' → h'.get? it = some citEnd → Q none { s with heap := h' }) : wpAny (model prog w) A (pyNext (.ref it)) Q E s := by
  have hT : s.TypeIs (.ref it) "callable_iterator" := ⟨_, hit, rfl⟩
  unfold pyNext
  refine wpAny_bind (wpAny_attempt (wpAny_callSpecial?_slot (name := Str.ofString "__next__") hT ci_next (wpAny_call_entry ci_next hT ci_entry_next ?_ (ci_args_next _))))
  unfold Builtin.«callable_iterator.__next__»
  refine wpAny_bind (wpAny_of_eq (a := (Value.ref it, [])) rfl ?_)
  try dsimp only
  refine wpAny_bind (wpAny_field hit rfl (x := .bool true) rfl ?_)
  rw [if_pos (by decide)]
  refine wpAny_bind (wpAny_rule ?_)
  first
  | show wpAny _ _ (newExc (.type "StopIteration") [] >>= _) _ _ _
  | (refine wpAny_bind ?_; show wpAny _ _ (newExc (.type "StopIteration") [] >>= _) _ _ _)
  refine wpAny_bind ?_
  simp only [newExc, newTuple]
  refine wpAny_bind (wpAny_newObj_type ?_ (by size_fits))
  refine wpAny_bind (m := firstArgMember _ _) (wpAny_of_eq (a := Value.none) (by first | rfl | (simp only [firstArgMember]; rfl)) ?_)
  refine wpAny_newObj_type ?_ (by size_fits)
  simp only [raiseNew]
  refine wpAny_bind (wpAny_handled ?_)
  first | rw [show A.in1.handled = none from hh] | rw [hh]
  refine wpAny_bind (wpAny_pure (wpAny_throw ?_))
  refine wpAny_bind (wpAny_isInstance (T := "StopIteration") (b := true) ⟨_, Heap.get?_push_size _ rfl, rfl⟩ ci_stop ?_)
  exact wpAny_pure (hQ _ (((Heap.ExtBut.refl _ _).push _).push _) (Heap.get?_push_of_some _ (Heap.get?_push_of_some _ hit)))
theorem ci_entry_iter : entryFor table "callable_iterator.__iter__" = some Builtin.«dict_keyiterator.__iter__» :=
  entryFor_alias (id' := "dict_keyiterator.__iter__") (by kernel_rfl) (by decide +kernel) (by decide +kernel) (by kernel_rfl)
theorem pyIter_cit {o : Obj} {Q : Value → Shared → Prop} (hit : s.heap.get? it = some o) (hc : o.cls = .type "callable_iterator") (h : Q (.ref it) s) : wpAny (model prog w) A (pyIter (.ref it)) Q E s := by
  have hT : s.TypeIs (.ref it) "callable_iterator" := ⟨_, hit, hc⟩
  refine wpAny_pyIter_slot hT ci_iter (wpAny_call_entry ci_iter hT ci_entry_iter ?_ (ci_args_iter _))
  show wpAny _ _ (ret (.ref it)) _ _ s
  exact wpAny_pure ⟨_, rfl, "callable_iterator", _, hT, ci_next.lookup, h⟩
theorem it_kind : builtinKind "iter" = none := by decide +kernel
theorem it_plain : plainId "iter" = true := by decide +kernel
theorem it_entry : entryFor table "iter" = some Builtin.«iter» := entryFor_of_tree (by kernel_rfl)
theorem it_args (a b : Value) : argsOk "iter" ⟨[a, b], []⟩ := by unfold argsOk; kernel_rfl
theorem it_meth : typeLookup (.type "method") "__call__" = pure (some (.builtin "method.__call__")) := by rw [typeLookup_type, builtinLookup_eq_fast]; kernel_rfl
theorem call_iter2 {g : Value} {Q : Value → Shared → Prop} (hm : s.heap.get? mth = some (methodObj g self)) (h : Q (.ref s.heap.objs.size) { s with heap := s.heap.push (citO mth t) }) :
    wpAny (model prog w) A (call (.builtin "iter") [.ref mth, .str "" t]) Q E s := by
  refine Calls.call_function_entry it_kind it_plain it_entry (it_args _ _) ?_
  unfold Builtin.«iter»
  refine wpAny_bind (wpAny_of_eq (a := [.ref mth, .str "" t]) (by first | rfl | kernel_rfl) ?_)
  dsimp only
  unfold specialOf
  refine wpAny_bind (wpAny_bind (wpAny_bind (wpAny_loadPart hm (wpAny_pure ?_))))
  show wpAny _ _ (typeLookup (.type "method") "__call__") _ _ _
  rw [it_meth]
  refine wpAny_pure ?_
  rw [if_neg (by simp)]
  refine wpAny_bind (wpAny_rule (wpAny_bind ?_))
  unfold newFields
  refine wpAny_newObj_type ?_ (by size_fits)
  exact wpAny_pure ⟨_, rfl, h⟩
end

section
variable {prog : Program} {w : World} {A : Around} {s : Shared} {env : Env} {h₀ : Heap}
inductive EndCN (h₀ : Heap) (L : Addr) (J : (Str → Option Value) → List (Addr × Obj) → Prop) (s₁ : Shared) : Shared → Prop
  | mk (h' : Heap) (tk : Nat) (m' : Str → Option Value) (news' : List (Addr × Obj)) (F : Fr h₀ L h' m') (N : News h₀ L h' news') (j : J m' news') : EndCN h₀ L J s₁ { s₁ with heap := h', toks := tk }
noncomputable def EndC (h₀ : Heap) (L : Addr) (J : (Str → Option Value) → List (Addr × Obj) → Prop) (s₁ : Shared) (Q : Flow → Shared → Prop) (f : Flow) (s' : Shared) : Prop :=
  match f with
  | .ret v => Q (.ret v) s'
  | .brk => Q .next s'
  | _ => EndCN h₀ L J s₁ s'
theorem EndC.next {L : Addr} {J : (Str → Option Value) → List (Addr × Obj) → Prop} {s₁ : Shared} {Q : Flow → Shared → Prop} {h' : Heap} {tk : Nat} {m' : Str → Option Value} {news' led : List (Addr × Obj)}
    (F : Fr h₀ L h' m') (N : News h₀ L h' led) (sub : ∀ p ∈ news', p ∈ led) (j : J m' news') : EndC h₀ L J s₁ Q .next { s₁ with heap := h', toks := tk } := .mk h' tk m' news' F (fun p hp => N p (sub p hp)) j
theorem EndC.cont {L : Addr} {J : (Str → Option Value) → List (Addr × Obj) → Prop} {s₁ : Shared} {Q : Flow → Shared → Prop} {h' : Heap} {tk : Nat} {m' : Str → Option Value} {news' led : List (Addr × Obj)}
    (F : Fr h₀ L h' m') (N : News h₀ L h' led) (sub : ∀ p ∈ news', p ∈ led) (j : J m' news') : EndC h₀ L J s₁ Q .cont { s₁ with heap := h', toks := tk } := .mk h' tk m' news' F (fun p hp => N p (sub p hp)) j
inductive NextCS (prog : Program) (w : World) (A : Around) (h₀ : Heap) (env : Env) (x : Str) (body : List Stmt) (Q : Flow → Shared → Prop) (s₂ : Shared) (J : (Str → Option Value) → List (Addr × Obj) → Prop) (v : Value) (s' : Shared) : Prop
  | mk (h' : Heap) (tk' : Nat) (m' : Str → Option Value) (news' : List (Addr × Obj)) (e : s' = { s₂ with heap := h', toks := tk' }) (F : Fr h₀ env.locals h' m') (N : News h₀ env.locals h' news')
    (k : ∀ h'' tk'', Fr h₀ env.locals h'' (fun y => if y = x then some v else m' y) → News h₀ env.locals h'' news' →
        let q := EndC h₀ env.locals J { s₂ with heap := h'', toks := tk'' } Q
        wpAny (model prog w) A (execs body env) q NoE { s₂ with heap := h'', toks := tk'' }) : NextCS prog w A h₀ env x body Q s₂ J v s'
-- what one turn's pyNext must show
noncomputable def NextC (prog : Program) (w : World) (A : Around) (h₀ : Heap) (env : Env) (x : Str) (body : List Stmt) (Q : Flow → Shared → Prop) (s₂ : Shared) (J : (Str → Option Value) → List (Addr × Obj) → Prop) (ov : Option Value) (s' : Shared) : Prop :=
  match ov with
  | none => Q .next s'
  | some v => NextCS prog w A h₀ env x body Q s₂ J v s'
-- J of some smaller measure
inductive Lt (J : Nat → (Str → Option Value) → List (Addr × Obj) → Prop) (k : Nat) (m' : Str → Option Value) (n' : List (Addr × Obj)) : Prop
  | mk (k' : Nat) (lt : k' < k) (j : J k' m' n') : Lt J k m' n'
inductive LoopC (prog : Program) (w : World) (A : Around) (h₀ : Heap) (env : Env) (x : Str) (body : List Stmt) (Q : Flow → Shared → Prop) (itv : Value) (s₂ : Shared) : Prop
  | ofJ (m : Str → Option Value) (news : List (Addr × Obj)) (n : Nat) (J : Nat → (Str → Option Value) → List (Addr × Obj) → Prop) (W : Nat → (Str → Option Value) → List (Addr × Obj) → Prop) (hW : ∀ k m' n', W k m' n' → Lt J k m' n') (F : Fr h₀ env.locals s₂.heap m) (N : News h₀ env.locals s₂.heap news) (h0 : J n m news)
    (step : ∀ k m news h tk, J k m news → Fr h₀ env.locals h m → News h₀ env.locals h news →
      wpAny (model prog w) A (pyNext itv) (NextC prog w A h₀ env x body Q { s₂ with heap := h, toks := tk } (W k)) NoE { s₂ with heap := h, toks := tk }) : LoopC prog w A h₀ env x body Q itv s₂
inductive ForCI (h₀ : Heap) (L : Addr) (J : Nat → (Str → Option Value) → List (Addr × Obj) → Prop) (s₂ : Shared) (k : Nat) : Shared → Prop
  | mk (h' : Heap) (tk : Nat) (m' : Str → Option Value) (news' : List (Addr × Obj)) (F : Fr h₀ L h' m') (N : News h₀ L h' news') (j : J k m' news') : ForCI h₀ L J s₂ k { s₂ with heap := h', toks := tk }
theorem forCI_next {L : Addr} {J W : Nat → (Str → Option Value) → List (Addr × Obj) → Prop} (hW : ∀ k m' n', W k m' n' → Lt J k m' n') {k : Nat} {s₁ s₂ s₃ : Shared} (h : EndCN h₀ L (W k) s₁ s₃) (e : ∀ h tk, { s₁ with heap := h, toks := tk } = { s₂ with heap := h, toks := tk }) : ∃ j, j < k ∧ ForCI h₀ L J s₂ j s₃ := by
  induction h with
  | mk h₄ tk₄ m₄ news₄ F₄ N₄ j₄ =>
    cases hW _ _ _ j₄ with
    | mk k' lt j => rw [e]; exact ⟨k', lt, .mk h₄ tk₄ m₄ news₄ F₄ N₄ j⟩
theorem for_C {x : Str} {px pos : Pos} {iter : Expr} {body : List Stmt} {Q : Flow → Shared → Prop} {L : Addr} {h : Heap} {m : Str → Option Value} (_ : Fr h₀ L h m) (hx : env.kindOf x = some .local)
    (hp : (env.scope.kind == .class || (env.scope.kind == .module && env.locals != env.globals)) = false)
    (h : wpAny (model prog w) A (eval iter env) (fun xv s₁ => wpAny (model prog w) A (pyIter xv) (fun it s₂ => LoopC prog w A h₀ env x body Q it s₂) NoE s₁) NoE s)
    (hs : ∀ x, foldedSetIterable iter env x = pure x := by intro _; rfl) :
    wpAny (model prog w) A (exec (.For (.Name x px) iter body [] pos) env) Q NoE s := by
  refine wpAny_For (wpAny_mono h (fun xv s₁ h₁ => noE (wpAny_mono h₁ (fun it s₂ h₂ => ?_) fun _ _ e => e)) fun _ _ e => e) hs
  induction h₂ with
  | ofJ m news n J W hW F N h0 step =>
  refine codeAny_forLoop (ForCI h₀ env.locals J s₂) ?_ n (.mk s₂.heap s₂.toks m news F N h0)
  intro k s' hI
  induction hI with
  | mk h' tk m' news' F' N' hj =>
  refine noE (wpAny_mono (step k m' news' h' tk hj F' N') (fun ov s₃ h₃ => ?_) fun _ _ e => e)
  cases ov with
  | none => exact wpAny_execs_nil h₃
  | some v =>
    change NextCS _ _ _ _ _ _ _ _ _ _ _ _ at h₃
    cases h₃ with
    | mk h₄ tk₄ m₄ news₄ e F₄ N₄ k₄ =>
    subst e
    refine wpAny_assign_Name (wpAny_storeName_local hx F₄.ns (fun h₅ hn₅ hs₅ => ?_) hp)
    refine noE (wpAny_mono (k₄ h₅ _ (F₄.set hn₅ hs₅) (N₄.set hs₅)) (fun f s₆ h₆ => ?_) fun _ _ e => e)
    cases f with
    | ret v => exact h₆
    | brk => exact h₆
    | cont => change EndCN _ _ _ _ _ at h₆; exact forCI_next hW h₆ (fun _ _ => rfl)
    | next => change EndCN _ _ _ _ _ at h₆; exact forCI_next hW h₆ (fun _ _ => rfl)
end
theorem LoopC.mk {prog : Program} {w : World} {A : Around} {s : Shared} {env : Env} {h₀ : Heap} {x : Str} {body : List Stmt} {Q : Flow → Shared → Prop} {itv : Value} {m : Str → Option Value} {news : List (Addr × Obj)} (ys : List Str) (K : Nat → List (Option Value) → List (Addr × Obj) → Prop) (n : Nat)
    (F : Fr h₀ env.locals s.heap m) (N : News h₀ env.locals s.heap news) (k0 : K n (ys.map m) news)
    (step : ∀ k vals news₁ h tk, K k vals news₁ → Fr h₀ env.locals h (up (ys.zip vals) m) → News h₀ env.locals h news₁ →
      wpAny (model prog w) A (pyNext itv) (NextC prog w A h₀ env x body Q { s with heap := h, toks := tk } (UpC ys m K k)) NoE { s with heap := h, toks := tk }) :
    LoopC prog w A h₀ env x body Q itv s := by
  refine .ofJ m news n (fun k => UpJ ys m (K k)) (UpC ys m K) ?_ F N ⟨_, k0, (up_self m ys).symm⟩ ?_
  · intro k m' n' h
    cases h with | mk k' lt vals h e => exact ⟨k', lt, vals, h, e⟩
  · intro k m₁ news₁ h tk hj F₁ N₁
    cases hj with | mk vals hK e => subst e; exact step k vals news₁ h tk hK F₁ N₁
theorem iter_K {prog : Program} {w : World} {A : Around} {E : Value → Shared → Prop} {s : Shared} {mth : Addr} {self g : Value} {t : Tok} {h₀ : Heap} {L : Addr} {m : Str → Option Value} {news : List (Addr × Obj)} {Q : Value → Shared → Prop} (F : Fr h₀ L s.heap m) (N : News h₀ L s.heap news) (hm : (mth, methodObj g self) ∈ news)
    (h : ∀ it h', Fr h₀ L h' m → News h₀ L h' ((it, citO mth t) :: news) → (∀ p ∈ news, p.1 < it) → Q (.ref it) { s with heap := h' }) : wpAny (model prog w) A (call (.builtin "iter") [.ref mth, .str "" t]) Q E s :=
  call_iter2 (N _ hm).1 (h _ _ (F.push _) (N.push F _) fun p hp => Heap.lt_size (N p hp).1)
end
section
noncomputable def WhileAt (prog : Program) (w : World) (A : Around) (env : Env) (s : Shared) (test : Expr) (body : List Stmt) (pos : Pos) (Q : Flow → Shared → Prop) : Prop := wpAny (model prog w) A (exec (.While test body [] pos) env) Q NoE s
theorem while_at {prog : Program} {w : World} {A : Around} {env : Env} {s : Shared} {test : Expr} {body : List Stmt} {pos : Pos} {Q : Flow → Shared → Prop} (h : WhileAt prog w A env s test body pos Q) : wpAny (model prog w) A (exec (.While test body [] pos) env) Q NoE s := h
theorem WhileAt.mk {prog : Program} {w : World} {A : Around} {s : Shared} {env : Env} {h₀ : Heap} {test : Expr} {body : List Stmt} {pos : Pos} {Q : Flow → Shared → Prop} {m : Str → Option Value} {news : List (Addr × Obj)} (ys : List Str) (K : Nat → List (Option Value) → List (Addr × Obj) → Prop) (n : Nat)
    (F : Fr h₀ env.locals s.heap m) (N : News h₀ env.locals s.heap news) (k0 : K n (ys.map m) news)
    (step : ∀ k vals news₁ h tk, K k vals news₁ → Fr h₀ env.locals h (up (ys.zip vals) m) → News h₀ env.locals h news₁ →
      let q := EndC h₀ env.locals (UpC ys m K k) s Q
      wpAny (model prog w) A (isTrue test env (eval test env)) (fun b s₂ => if b then wpAny (model prog w) A (execs body env) q NoE s₂ else Q .next s₂) NoE { s with heap := h, toks := tk }) :
    WhileAt prog w A env s test body pos Q := by
  refine noE (wpAny_While (codeAny_whileLoop (ForCI h₀ env.locals (fun k => UpJ ys m (K k)) s) ?_ n (.mk s.heap s.toks m news F N ⟨_, k0, (up_self m ys).symm⟩)))
  intro k s' hI
  induction hI with
  | mk h' tk m' news' F' N' hj =>
  cases hj with
  | mk vals hj e =>
  subst e
  refine noE (wpAny_mono (step k vals news' h' tk hj F' N') (fun b s₂ h₂ => ?_) fun _ _ e => e)
  have hW : ∀ k m' n', UpC ys m K k m' n' → Lt (fun k => UpJ ys m (K k)) k m' n' := fun k m' n' h => by
    cases h with | mk k' lt vals h e => exact ⟨k', lt, vals, h, e⟩
  cases b with
  | false => rw [if_neg (by decide)] at h₂ ⊢; exact wpAny_execs_nil h₂
  | true =>
    rw [if_pos rfl] at h₂ ⊢
    refine noE (wpAny_mono h₂ (fun f s₃ h₃ => ?_) fun _ _ e => e)
    cases f with
    | ret v => exact h₃
    | brk => exact h₃
    | cont => change EndCN _ _ _ _ _ at h₃; exact forCI_next hW h₃ (fun _ _ => rfl)
    | next => change EndCN _ _ _ _ _ at h₃; exact forCI_next hW h₃ (fun _ _ => rfl)
end
local macro_rules | `(tactic| walk_at "exec While") => `(tactic| (k_here; k_dflt (refine while_at ?_)))
section
end
section
noncomputable def ritO (x left : Int) : Obj := { cls := .type "range_iterator", dict := none, data := .fields #[rawInt x, rawInt left, rawInt 1], slots := #[] }
section
variable {prog : Program} {w : World} {A : Around} {s : Shared} {env : Env} {h₀ : Heap}
inductive RngJ (I : Addr) (n : Nat) (ys : List Str) (m : Str → Option Value) (K : Nat → List (Option Value) → List (Addr × Obj) → Prop) : Nat → (Str → Option Value) → List (Addr × Obj) → Prop
  | mk (i : Nat) (vals : List (Option Value)) (news : List (Addr × Obj)) (hi : i ≤ n) (h : K i vals news) : RngJ I n ys m K (n + 1 - i) (up (ys.zip vals) m) ((I, ritO i ((n - i : Nat) : Int)) :: news)
inductive RngW (I : Addr) (ys : List Str) (m : Str → Option Value) (K : Nat → List (Option Value) → List (Addr × Obj) → Prop) (n k : Nat) (m' : Str → Option Value) : List (Addr × Obj) → Prop
  | mk (i : Nat) (o : Obj) (ho : o = ritO ((i + 1 : Nat) : Int) ((n - (i + 1) : Nat) : Int)) (hk : k = n + 1 - i) (hi : i < n) (news : List (Addr × Obj)) (h : UpJ ys m (K (i + 1)) m' news) : RngW I ys m K n k m' ((I, o) :: news)
theorem endL_C {L I : Addr} {o : Obj} {J : (Str → Option Value) → List (Addr × Obj) → Prop} {W : (Str → Option Value) → List (Addr × Obj) → Prop} {s₁ s₂ : Shared} {Q : Flow → Shared → Prop} {f : Flow} {s' : Shared} (hW : ∀ m' n', J m' n' → W m' ((I, o) :: n')) (h : EndL h₀ L I o J s₁ Q f s') (e : ∀ h tk, { s₁ with heap := h, toks := tk } = { s₂ with heap := h, toks := tk }) : EndC h₀ L W s₂ Q f s' := by
  have key : EndLN h₀ L I o J s₁ s' → EndCN h₀ L W s₂ s' := fun h => by
    induction h with
    | mk h₄ tk₄ m₄ news₄ F₄ N₄ j₄ => rw [e]; exact .mk h₄ tk₄ m₄ _ F₄ N₄ (hW _ _ j₄)
  cases f with
  | ret v => exact h
  | brk => exact h
  | cont => exact key h
  | next => exact key h
theorem LoopC.range {x : Str} {body : List Stmt} {Q : Flow → Shared → Prop} {I : Addr} {m : Str → Option Value} {news : List (Addr × Obj)} (hA : A.handled = none) (ys : List Str) (K : Nat → List (Option Value) → List (Addr × Obj) → Prop) (n : Nat)
    (F : Fr h₀ env.locals s.heap m) (N : News h₀ env.locals s.heap ((I, ritO 0 n) :: news)) (k0 : K 0 (ys.map m) news)
    (hK : ∀ i vals news, K i vals news → ∀ p ∈ news, p.1 ≠ I)
    (step : ∀ i vals news₁ o h tk t, i < n → K i vals news₁ → Fr h₀ env.locals h (fun y => if y = x then some (.int (i : Int) t) else up (ys.zip vals) m y) → News h₀ env.locals h ((I, o) :: news₁) →
      let q := EndL h₀ env.locals I o (UpJ ys m (K (i + 1))) { s with heap := h, toks := tk } Q
      wpAny (model prog w) A (execs body env) q NoE { s with heap := h, toks := tk })
    (done : ∀ vals news' h' tk, K n vals news' → Fr h₀ env.locals h' (up (ys.zip vals) m) → News h₀ env.locals h' news' → Q .next { s with heap := h', toks := tk }) :
    LoopC prog w A h₀ env x body Q (.ref I) s := by
  have k1 : RngJ I n ys m K (n + 1 - 0) m ((I, ritO 0 n) :: news) := by
    have := RngJ.mk (I := I) (m := m) (ys := ys) 0 _ news (Nat.zero_le n) k0
    rw [up_self] at this
    exact this
  refine .ofJ m _ (n + 1) (RngJ I n ys m K) (RngW I ys m K n) ?_ F N k1 ?_
  · intro k m' n' h
    induction h with
    | mk i o ho hk hi news h =>
    induction h with
    | mk vals h e =>
    subst ho hk e
    exact ⟨_, by lia, .mk (i + 1) vals news hi h⟩
  intro k m₁ n₁ h tk hJ F₁ N₁
  induction hJ with
  | mk i vals news₁ hi hk =>
  have hit := N₁ _ (List.mem_cons_self ..)
  have hne := hK i vals news₁ hk
  by_cases hlt : i < n
  · refine wpAny_pyNext_range_item (it := I) (x := (i : Int)) (left := ((n - i : Nat) : Int)) (step := 1) hit.1 (by lia) fun h' hit' hs' => ?_
    have e2 : (((n - i : Nat) : Int) - 1) = ((n - (i + 1) : Nat) : Int) := by lia
    rw [e2] at hit'
    have N₂ : News h₀ env.locals h' ((I, ritO ((i + 1 : Nat) : Int) ((n - (i + 1) : Nat) : Int)) :: news₁) := news_set (pre := []) N₁ (fun _ h => nomatch h) hne hs' hit'
    refine .mk h' _ _ _ rfl (F₁.change hs' hit.2.1 hit.2.2) N₂ fun h'' tk'' F₃ N₃ => ?_
    exact wpAny_mono (step i vals news₁ _ h'' tk'' _ hlt hk F₃ N₃) (fun f s₃ h₃ => endL_C (fun m' n' h => .mk i _ rfl rfl hlt n' h) h₃ (fun _ _ => rfl)) fun _ _ e => e
  · have hin : i = n := Nat.le_antisymm hi (Nat.le_of_not_lt hlt)
    subst hin
    refine wpAny_pyNext_range_end (it := I) (x := (i : Int)) (left := ((i - i : Nat) : Int)) (step := 1) hA hit.1 (by lia) fun h₁ hk₁ => ?_
    exact done vals news₁ h₁ _ hk ⟨F₁.ns.at' fun o e => hk₁ _ o (Ne.symm hit.2.1) e, fun b o e => hk₁ b o (fun q => by rw [q, hit.2.2] at e; cases e) (F₁.keep b o e), F₁.above⟩ fun p hp => ⟨hk₁ _ _ (hne p hp) (N₁ _ (List.mem_cons_of_mem _ hp)).1, (N₁ _ (List.mem_cons_of_mem _ hp)).2⟩
end
section
variable {prog : Program} {w : World} {A : Around} {E : Value → Shared → Prop} {s : Shared} {h₀ : Heap} {L : Addr} {m : Str → Option Value} {news : List (Addr × Obj)}
noncomputable def rngO (n : Int) (t u v : Tok) : Obj := { cls := .type "range", dict := none, data := .fields #[.int 0 t, .int n u, .int 1 v], slots := #[] }
theorem range_K {n : Int} {t : Tok} {Q : Value → Shared → Prop} (F : Fr h₀ L s.heap m) (N : News h₀ L s.heap news)
    (h : ∀ r t u v h' tk, Fr h₀ L h' m → News h₀ L h' ((r, rngO n t u v) :: news) → (∀ p ∈ news, p.1 < r) → Q (.ref r) { s with heap := h', toks := tk }) : wpAny (model prog w) A (call (.type "range") [.int n t]) Q E s := by
  refine call_range_1 ?_
  exact h _ _ _ _ _ _ (F.push _) (N.push F _) fun p hp => Heap.lt_size (N p hp).1
theorem small_n {n : Int} (h0 : 0 ≤ n) (h1 : n ≤ 1000) : Builtin.Range.small 0 n 1 = true := by
  have e : Builtin.Range.rangeSize 0 n 1 = n := by
    rw [rangeSize_one]; split <;> lia
  unfold Builtin.Range.small
  rw [e]
  simp only [Builtin.Range.rangeFitsLong]
  simp
  lia
theorem pyIter_range_K {n : Int} {r : Addr} {t u v : Tok} {Q : Value → Shared → Prop} (F : Fr h₀ L s.heap m) (N : News h₀ L s.heap news) (hr : (r, rngO n t u v) ∈ news) (h0 : 0 ≤ n) (h1 : n ≤ 1000)
    (h : ∀ I h', Fr h₀ L h' m → News h₀ L h' ((I, ritO 0 n) :: news) → (∀ p ∈ news, p.1 < I) → Q (.ref I) { s with heap := h' }) : wpAny (model prog w) A (pyIter (.ref r)) Q E s := by
  have e : Builtin.Range.rangeSize 0 n 1 = n := by
    rw [rangeSize_one]; split <;> lia
  refine wpAny_pyIter_range (r := r) (a := 0) (b := n) (c := 1) (t := t) (u := u) (v := v) (N _ hr).1 (small_n h0 h1) ?_
  rw [e]
  exact h _ _ (F.push _) (N.push F _) fun p hp => Heap.lt_size (N p hp).1
end
end
local macro_rules | `(tactic| walk_at "call type:range") => `(tactic| (k_here; k_dflt (refine' range_K (by k_asm) (by k_asm) ?_; walk_at "mine in")))
local macro_rules | `(tactic| walk_at "mine forC") => `(tactic| (k_here; (rename Fr _ _ _ _ => lF'); with_unfolding_all refine' for_C lF' (by rfl) (by rfl) ?_))
local macro_rules | `(tactic| walk_at "exec For Name Call cons nil") => `(tactic| walk_at "mine forC")
local macro_rules | `(tactic| walk_at "pyIter ref") => `(tactic| (k_here; k_dflt (refine' pyIter_range_K (by k_asm) (by k_asm) (by k_mem) (by lia) (by lia) ?_; walk_at "mine in")))
section
end
section
-- a mark: where it stands in the context, an if is joined by hand
noncomputable def MarkJ : Prop := True
theorem markJ : MarkJ := True.intro
noncomputable def IfAt (prog : Program) (w : World) (A : Around) (env : Env) (s : Shared) (st : Stmt) (Q : Flow → Shared → Prop) : Prop := wpAny (model prog w) A (exec st env) Q NoE s
theorem if_at {prog : Program} {w : World} {A : Around} {env : Env} {s : Shared} {t : Expr} {b o : List Stmt} {pos : Pos} {Q : Flow → Shared → Prop} (h : IfAt prog w A env s (.If t b o pos) Q) : wpAny (model prog w) A (exec (.If t b o pos) env) Q NoE s := h
inductive IfEnd (h₀ : Heap) (L : Addr) (y : Str) (V : Option Value → Prop) (m : Str → Option Value) (news : List (Addr × Obj)) (s : Shared) (f : Flow) (s' : Shared) : Prop
  | of (hf : f = .next) (h' : Heap) (tk : Nat) (v : Option Value) (m' : Str → Option Value) (hs : s' = { s with heap := h', toks := tk }) (F : Fr h₀ L h' m') (N : News h₀ L h' news) (hv : V v) (e : m' = up [(y, v)] m) : IfEnd h₀ L y V m news s f s'
theorem IfAt.join {prog : Program} {w : World} {A : Around} {env : Env} {s : Shared} {st : Stmt} {Q : Flow → Shared → Prop} {h₀ : Heap} {L : Addr} {m : Str → Option Value} {news : List (Addr × Obj)} (y : Str) (V : Option Value → Prop)
    (F : Fr h₀ L s.heap m) (N : News h₀ L s.heap news) (b : let q := IfEnd h₀ L y V m news s; wpAny (model prog w) A (exec st env) q NoE s)
    (k : ∀ h' tk v, V v → Fr h₀ L h' (up [(y, v)] m) → News h₀ L h' news → Q .next { s with heap := h', toks := tk }) : IfAt prog w A env s st Q := by
  refine wpAny_mono b (fun f s' h => ?_) fun _ _ e => e
  obtain ⟨rfl, h', tk, v, m', rfl, F', N', hv, rfl⟩ := h
  exact k h' tk v hv F' N'
theorem IfEnd.mk {h₀ : Heap} {L : Addr} {y : Str} {V : Option Value → Prop} {m m' : Str → Option Value} {news led : List (Addr × Obj)} {s : Shared} {h' : Heap} {tk : Nat} {v : Option Value}
    (F : Fr h₀ L h' m') (N : News h₀ L h' led) (sub : ∀ p ∈ news, p ∈ led) (hv : V v) (e : m' = up (List.zip [y] [v]) m) : IfEnd h₀ L y V m news s .next { s with heap := h', toks := tk } :=
  .of rfl h' tk v m' rfl F (fun p hp => N p (sub p hp)) hv e
end
local macro_rules | `(tactic| walk_at "exec If") => `(tactic| (k_here; (with_reducible rename MarkJ => mJ9); k_dflt (refine if_at ?_)))
section
end
section
local macro_rules | `(tactic| walk_at "subscriptTail Constant str BinOp str int") => `(tactic| walk_at "mine stop")
noncomputable def patStep (gap : Str) (c : Int) (p w : Str) : Str := if w = gap then p ++ Str.ofString "..." else p ++ Txt.item (Str.ofString "abcde") (c + 1 - w.length)
noncomputable def patF (ws : List Str) (gap : Str) (c : Int) : Str := ws.foldl (patStep gap c) (Str.ofString "")
theorem patStep_len (gap : Str) (c : Int) (p w : Str) : (patStep gap c p w).length ≤ p.length + 3 := by
  unfold patStep
  split
  · rw [Str.length_append, show (Str.ofString "...").length = 3 from by decide +kernel]; exact Nat.le_refl _
  · rw [Str.length_append]; rw [len_item]; lia
theorem patLen (gap : Str) (c : Int) : ∀ (l : List Str) (p0 : Str), (l.foldl (patStep gap c) p0).length ≤ p0.length + 3 * l.length
  | [], p0 => Nat.le_refl _
  | w :: r, p0 => by
    have h1 := patLen gap c r (patStep gap c p0 w)
    have h2 := patStep_len gap c p0 w
    simp only [List.foldl_cons, List.length_cons]
    lia
theorem take_succ_foldl {α β : Type} (f : β → α → β) (b : β) {l : List α} {i : Nat} {x : α} (h : l[i]? = some x) : (l.take (i + 1)).foldl f b = f ((l.take i).foldl f b) x := by
  rw [List.take_add_one, h]; simp
inductive PatK (ws : List Str) (gap : Str) (c : Int) (news : List (Addr × Obj)) (i : Nat) : List (Option Value) → List (Addr × Obj) → Prop
  | mk (u : Option Value) (t : Tok) (x : Str) (hx : x = (ws.take i).foldl (patStep gap c) (Str.ofString "")) : PatK ws gap c news i [u, some (.str x t)] news
theorem pat_c {w : World} {news lw vs ep ws} (gap : Str) (c : Int) (t1 t2 : Tok) (hl : (lw, listOf vs ep) ∈ news) (hs : StrsAre vs.toList ws) (hc : ∀ x ∈ ws, x ≠ gap → 0 ≤ c + 1 - x.length ∧ c + 1 - x.length < 5) (hz : ws.length ≤ 100) (hcz : 0 ≤ c ∧ c < 10) (hlen : ∀ x ∈ ws, x.length ≤ 100) :
   Ct w 2 160 [.ref lw, .str gap t1, .int c t2] news (fun v n => (∃ t, v = .str (patF ws gap c) t) ∧ n = news) := by
  unfold Ct
  k_fill
  intros
  rename_i hret
  refine wpAny_call ?_
  k_dflt cell_enter
  refine noE ?_
  (k_steps; (repeat' (unfold HandC; ((with_reducible show wpAny _ _ (subscriptTail _ _ (Value.str _ _) _) _ _ _); k_dflt (refine' item_str (fits_small (by lia) (by lia)) (by first | lia | (simp only [ofString_length]; lia) | (rw [show ∀ x, Str.length (Str.ofString x) = _ from fun _ => rfl]; decide)) (by first | lia | decide) (fun _ => ?_))); k_steps)); (all_goals (try k_data)))
  refine iter_up [("word" : Str), ("pattern" : Str)] (PatK ws gap c news) (by assumption) (by assumption) hl ⟨_, _, _, rfl⟩ (fun I hI => ⟨?_, ?_, ?_⟩)
  · rintro i vals n hIK
    induction hIK with
    | mk _ _ _ _ =>
    exact ⟨hl, ne_of_lts hI⟩
  · rintro i v vals n o h tk hv hIK F₁ N₁
    induction hIK with
    | mk u t x hx =>
    intro qE
    obtain ⟨word, tw, hw, rfl⟩ := strs_get hs (by simpa using hv)
    have hcw := hc word (List.mem_of_getElem? hw)
    have h5 : (Str.ofString "abcde").length = 5 := by decide +kernel
    have hlw : word.length ≤ 100 := hlen word (List.mem_of_getElem? hw)
    have hlx : x.length ≤ 1000 := by
      have h1 := patLen gap c (ws.take i) (Str.ofString "")
      rw [← hx, show (Str.ofString "").length = 0 from by decide +kernel, List.length_take] at h1
      lia
    have hx' := take_succ_foldl (patStep gap c) (Str.ofString "") hw
    rw [← hx] at hx'
    (k_steps; (repeat' (unfold HandC; ((with_reducible show wpAny _ _ (subscriptTail _ _ (Value.str _ _) _) _ _ _); k_dflt (refine' item_str (fits_small (by lia) (by lia)) (by first | lia | (simp only [ofString_length]; lia) | (rw [show ∀ x, Str.length (Str.ofString x) = _ from fun _ => rfl]; decide)) (by first | lia | decide) (fun _ => ?_))); k_steps)); (all_goals (try k_data)))
    · refine EndL.next (by assumption) (by assumption) (by walk_at "mine sub") ⟨_, ⟨_, _, _, ?_⟩, (by (refine up_off ?mua ?mub; (case mub => exact rfl); (case mua => walk_at "mine off")))⟩
      rename (_ == _) = true => hb
      rw [hx', patStep, if_pos (eq_of_beq hb)]
    · rename (_ == _) = false => hb
      have hb' := ne_of_beq_false hb
      obtain ⟨hc1, hc2⟩ := hcw hb'
      (k_steps; (repeat' (unfold HandC; ((with_reducible show wpAny _ _ (subscriptTail _ _ (Value.str _ _) _) _ _ _); k_dflt (refine' item_str (fits_small (by lia) (by lia)) (by first | lia | (simp only [ofString_length]; lia) | (rw [show ∀ x, Str.length (Str.ofString x) = _ from fun _ => rfl]; decide)) (by first | lia | decide) (fun _ => ?_))); k_steps)); (all_goals (try k_data)))
      refine EndL.next (by assumption) (by assumption) (by walk_at "mine sub") ⟨_, ⟨_, _, _, ?_⟩, (by (refine up_off ?mua ?mub; (case mub => exact rfl); (case mua => walk_at "mine off")))⟩
      rw [hx', patStep, if_neg hb']
  · rintro vals n h' tk hIK F₁ N₁
    induction hIK with
    | mk u t x hx =>
    (k_steps; (repeat' (unfold HandC; ((with_reducible show wpAny _ _ (subscriptTail _ _ (Value.str _ _) _) _ _ _); k_dflt (refine' item_str (fits_small (by lia) (by lia)) (by first | lia | (simp only [ofString_length]; lia) | (rw [show ∀ x, Str.length (Str.ofString x) = _ from fun _ => rfl]; decide)) (by first | lia | decide) (fun _ => ?_))); k_steps)); (all_goals (try k_data)))
    refine hret _ _ _ _ ⟨⟨t, ?_⟩, rfl⟩ (by assumption) (by assumption)
    rw [hx, List.take_of_length_le (by rw [← hs.len_eq]; simp)]; rfl
end
section
end
local macro_rules | `(tactic| walk_at "call builtin:len") => `(tactic| (k_here; (with_reducible show wpAny _ _ (call _ [Value.ref _]) _ _ _); k_dflt (refine' KM.len_K (by k_asm) (by k_mem) (StrsAre.length (by assumption)) (by lia) ?_)))
section
end
section
inductive IfEndS (h₀ : Heap) (L : Addr) (ys : List Str) (K : List (Option Value) → List (Addr × Obj) → Prop) (m : Str → Option Value) (s : Shared) (s' : Shared) : Prop
  | mk (h' : Heap) (tk : Nat) (vals : List (Option Value)) (news : List (Addr × Obj)) (m' : Str → Option Value) (hs : s' = { s with heap := h', toks := tk }) (F : Fr h₀ L h' m') (N : News h₀ L h' news) (hv : K vals news) (e : m' = up (ys.zip vals) m) : IfEndS h₀ L ys K m s s'
noncomputable def IfEndN (h₀ : Heap) (L : Addr) (ys : List Str) (K : List (Option Value) → List (Addr × Obj) → Prop) (m : Str → Option Value) (s : Shared) (Q : Flow → Shared → Prop) (f : Flow) (s' : Shared) : Prop :=
  match f with
  | .next => IfEndS h₀ L ys K m s s'
  | f => Q f s'
theorem IfAt.joinN {prog : Program} {w : World} {A : Around} {env : Env} {s : Shared} {st : Stmt} {Q : Flow → Shared → Prop} {h₀ : Heap} {L : Addr} {m : Str → Option Value} (ys : List Str) (K : List (Option Value) → List (Addr × Obj) → Prop)
    (_F : Fr h₀ L s.heap m) (b : let q := IfEndN h₀ L ys K m s Q; wpAny (model prog w) A (exec st env) q NoE s)
    (k : ∀ h' tk vals news, K vals news → Fr h₀ L h' (up (ys.zip vals) m) → News h₀ L h' news → Q .next { s with heap := h', toks := tk }) : IfAt prog w A env s st Q := by
  refine wpAny_mono b (fun f s' h => ?_) fun _ _ e => e
  cases f with
  | next => obtain ⟨h', tk, vals, news, m', rfl, F', N', hv, rfl⟩ := h; exact k h' tk vals news hv F' N'
  | ret v => exact h
  | brk => exact h
  | cont => exact h
theorem IfEndN.mk {h₀ : Heap} {L : Addr} {ys : List Str} {K : List (Option Value) → List (Addr × Obj) → Prop} {m m' : Str → Option Value} {news led : List (Addr × Obj)} {s : Shared} {h' : Heap} {tk : Nat} {vals : List (Option Value)} {Q : Flow → Shared → Prop}
    (F : Fr h₀ L h' m') (N : News h₀ L h' led) (sub : ∀ p ∈ news, p ∈ led) (hv : K vals news) (e : m' = up (ys.zip vals) m) : IfEndN h₀ L ys K m s Q .next { s with heap := h', toks := tk } :=
  IfEndS.mk h' tk vals news m' rfl F (fun p hp => N p (sub p hp)) hv e
section
variable {prog : Program} {w : World} {A : Around} {E : Value → Shared → Prop} {s : Shared} {h₀ : Heap} {L l : Addr} {m : Str → Option Value} {news news' : List (Addr × Obj)} {vs : List Value} {xs : List Str} {n : Nat} {u : Tok} {value slice : Expr} {Q : Value → Shared → Prop}
theorem split_K {x y : Str} {t u : Tok} (F : Fr h₀ L s.heap m) (N : News h₀ L s.heap news) (hy : (y.length == 0) = false) (hsz : x.length + 2 ≤ sizeLine)
    (h : ∀ l vs h' k, StrsAre vs (Txt.split x y) → (∀ a ∈ Txt.split x y, a.length ≤ x.length) → Fr h₀ L h' m → News h₀ L h' ((l, listOf ⟨vs⟩ 0) :: news) → (∀ p ∈ news, p.1 < l) → Q (.ref l) { s with heap := h', toks := k }) :
    wpAny (model prog w) A (call (.builtin "str.split") [.str x t, .str y u]) Q E s :=
  splitN1A F N hy (fun l h' k e hs hle _ F' N' => h _ _ h' k (by rw [← e]; exact hs) (by rw [← e]; exact hle) F' N' fun p hp => Heap.lt_size (N p hp).1) hsz
theorem item0_K (N : News h₀ L s.heap news) (hm : (l, listOf ⟨vs⟩ n) ∈ news) (hi : StrsAre vs xs) (hz : 1 ≤ xs.length) (h : ∀ t, Q (.str (xs.getD 0 Str.empty) t) s)
    (hs : subscripted slice false (.ref l) (.int 0 u) = operate [.ref l, .int 0 u] (getItem (.ref l) (.int 0 u)) := by with_unfolding_all rfl) :
    wpAny (model prog w) A (subscriptTail value slice (.ref l) (.int 0 u)) Q E s := by
  have hl : s.heap.IsList l vs.toArray := ⟨_, (N _ hm).1, rfl, n, rfl⟩
  exact kba_turn (value' := .Name "x" default) (fun _ => by with_unfolding_all rfl) (item_strsA hl hi (by lia) (by lia) (by lia) h hs (fun _ => by with_unfolding_all rfl))
theorem itemL_K (N : News h₀ L s.heap news) (hm : (l, listOf ⟨vs⟩ n) ∈ news) (hi : StrsAre vs xs) (hz : 1 ≤ xs.length) (h : ∀ t, Q (.str (xs.getD (xs.length - 1) Str.empty) t) s)
    (hs : subscripted slice false (.ref l) (.int (-1) u) = operate [.ref l, .int (-1) u] (getItem (.ref l) (.int (-1) u)) := by with_unfolding_all rfl) :
    wpAny (model prog w) A (subscriptTail value slice (.ref l) (.int (-1) u)) Q E s := by
  have hl : s.heap.IsList l vs.toArray := ⟨_, (N _ hm).1, rfl, n, rfl⟩
  have hsz : vs.toArray.size = xs.length := by rw [List.size_toArray]; exact hi.len_eq
  have hj : ((-1 : Int) + (vs.toArray.size : Nat)).toNat = xs.length - 1 := by rw [hsz]; lia
  have e : xs[xs.length - 1]? = some (xs.getD (xs.length - 1) Str.empty) := by
    have : xs.length - 1 < xs.length := by lia
    simp [List.getD, this]
  obtain ⟨t, ht⟩ := hi.at e
  refine kba_turn (value' := .Name "x" default) (fun _ => by with_unfolding_all rfl) (subscriptTail_builtin hl.typeIs slot_list_getitem.lookup (wpAny_getItem_list_neg hl (by lia) (by lia) (by lia) (by rw [hj]; simpa using ht) (h t)) hs (fun _ => by with_unfolding_all rfl))
theorem strs_tail (hi : StrsAre vs xs) : StrsAre vs.tail xs.tail := by
  cases hi with
  | nil => exact .nil
  | cons x t h => exact h
theorem strs_dropLast {vs : List Value} {xs : List Str} (h : StrsAre vs xs) : StrsAre vs.dropLast xs.dropLast := by
  induction h with
  | nil => exact .nil
  | cons x t h ih =>
    cases h with
    | nil => exact .nil
    | cons y u h => exact .cons x t ih
theorem delL_tail : ∀ {l : List Value}, 1 ≤ l.length → ki_delL l 0 = some l.tail
  | [], h => by simp at h
  | _ :: _, _ => rfl
theorem delL_last : ∀ {l : List Value}, 1 ≤ l.length → ki_delL l (l.length - 1) = some l.dropLast
  | [], h => by simp at h
  | [_], _ => rfl
  | a :: b :: r, _ => by
    have ih := delL_last (l := b :: r) (by simp)
    simp only [List.length_cons, Nat.add_sub_cancel] at ih ⊢
    simp only [ki_delL, ih]
    rfl
theorem del0_K {Q : Unit → Shared → Prop} (F : Fr h₀ L s.heap m) (N : News h₀ L s.heap news) (hi : StrsAre vs xs) (h1 : 1 ≤ xs.length) (h2 : xs.length ≤ 100000) (U : Upd l (listOf ⟨vs⟩ n) (listOf ⟨vs.tail⟩ (n + 1)) news news')
    (h : ∀ h', Fr h₀ L h' m → News h₀ L h' news' → Q () { s with heap := h' }) : wpAny (model prog w) A (delItem (.ref l) (.int 0 u)) Q E s := by
  have hl := hi.len_eq
  exact ki_del (its := ⟨vs⟩) (k := 0) F N (by decide) (by show seqIndex? 0 vs.length = _; exact seqIndex_of (by decide) (by lia)) (delL_tail (by show 1 ≤ vs.length; lia)) U (by rw [sizeLine_eq]; show vs.length ≤ _; lia) h
theorem delLast_K {Q : Unit → Shared → Prop} (F : Fr h₀ L s.heap m) (N : News h₀ L s.heap news) (hi : StrsAre vs xs) (h1 : 1 ≤ xs.length) (h2 : xs.length ≤ 100000) (U : Upd l (listOf ⟨vs⟩ n) (listOf ⟨vs.dropLast⟩ (n + 1)) news news')
    (h : ∀ h', Fr h₀ L h' m → News h₀ L h' news' → Q () { s with heap := h' }) : wpAny (model prog w) A (delItem (.ref l) (.int (-1) u)) Q E s := by
  have hl := hi.len_eq
  exact ki_del (its := ⟨vs⟩) (k := vs.length - 1) F N (by decide) (by show seqIndex? (-1) vs.length = _; rw [PySem.seqIndex_neg (k := -1) (n := vs.length) (by decide) (by lia)]; exact congrArg some (by lia)) (delL_last (by show 1 ≤ vs.length; lia)) U (by rw [sizeLine_eq]; show vs.length ≤ _; lia) h
end
open Builtin Builtin.Str in
noncomputable def find4 (x y : Str) (i j : Int) : Int := match occurrences x y (fromIndex x.length i) (min (fromIndex x.length j) x.length) 1 with | k :: _ => (k : Int) | [] => -1
open Builtin Builtin.Str in
theorem gives_find4 (x y : Str) (i j : Int) (t u v z : Tok) : Gives («str.find» ⟨[.str x t, .str y u, .int i v, .int j z], []⟩) (.int (find4 x y i j)) := by
  show Gives (match occurrences x y (fromIndex x.length i) (min (fromIndex x.length j) x.length) 1 with | k :: _ => retInt k | [] => (do rule "str.find.not-found"; retInt (-1))) _
  unfold find4
  cases occurrences x y (fromIndex x.length i) (min (fromIndex x.length j) x.length) 1 with
  | nil => exact .rule (.of_eq rfl)
  | cons k _ => exact .of_eq rfl
theorem find4_K {prog : Program} {w : World} {A : Around} {E : Value → Shared → Prop} {s : Shared} {x y : Str} {i j : Int} {t u v z : Tok} {Q : Value → Shared → Prop} (hq : Q (.int (find4 x y i j) s.toks) { s with toks := s.toks + 1 }) :
    wpAny (model prog w) A (call (.builtin "str.find") [.str x t, .str y u, .int i v, .int j z]) Q E s :=
  call_gives F.slot_str_find (typeIs_str _ _ _) F.entry_str_find (F.args_str_find_4 _ _ _ _) (gives_find4 x y i j t u v z) hq
end
section
section
open LCg LCt
variable {prog : Program} {w : World} {A : Around} {E : Value → Shared → Prop} {s : Shared} {h₀ : Heap} {L : Addr} {m : Str → Option Value} {env : Env}
theorem compEnd_mono {s₁ : Shared} {I C D : Addr} {oI oC oD : Obj} {S : List (Addr × Obj) → Prop} {r r' : Value → List (Addr × Obj) → Prop} {y : Value} {s₂ : Shared} (h : CompEnd h₀ L m s₁ I oI C oC D oD S r y s₂) (hr : ∀ n, r y n → r' y n) : CompEnd h₀ L m s₁ I oI C oC D oD S r' y s₂ := by
  obtain ⟨h', tk, n, e, F, N, o, hS, k⟩ := h
  exact ⟨h', tk, n, e, F, N, o, hS, hr n k⟩
noncomputable def TurnT (prog : Program) (w : World) (A : Around) (h₀ : Heap) (L : Addr) (m : Str → Option Value) (env : Env) (ct elt : Expr) (x : Str) (scope : Scope) (cl : List (Str × Addr)) (s : Shared) (S : List (Addr × Obj) → Prop) (P : Nat → Value → Prop) (J : Nat → List Value → List (Addr × Obj) → Prop) (n : Nat) : Prop :=
  ∀ i ys news v I oI C oC D m₂ h tk (E' : Value → Shared → Prop), i < n → J i ys news → P i v → NsObj oC m₂ → m₂ x = some v → Fr h₀ L h m → News h₀ L h ((I, oI) :: (C, oC) :: (D, lst ys) :: news) → Off3 I C D news → ((@Ne Nat I C) ∧ (@Ne Nat I D) ∧ (@Ne Nat C D)) →
      wpAny (model prog w) A (isTrue ct (compEnvC scope cl C env) (eval ct (compEnvC scope cl C env))) (fun ok s' => if ok = true then
        wpAny (model prog w) A (eval elt (compEnvC scope cl C env)) (CompEnd h₀ L m { s with heap := h, toks := tk } I oI C oC D (lst ys) S (fun y news' => J (i + 1) (ys ++ [y]) news')) E' s'
        else CompEnd h₀ L m { s with heap := h, toks := tk } I oI C oC D (lst ys) S (fun _ news' => J (i + 1) ys news') Value.none s') E' { s with heap := h, toks := tk }
theorem restT_loop {ct elt : Expr} {x : Str} {scope : Scope} {cl : List (Str × Addr)} {S : List (Addr × Obj) → Prop} {P : Nat → Value → Prop} {Fin : List Value → List (Addr × Obj) → Prop} (J : Nat → List Value → List (Addr × Obj) → Prop) {n : Nat}
    (step : TurnT prog w A h₀ L m env ct elt x scope cl s S P J n) (fin : ∀ ys news, J n ys news → Fin ys news) :
    ∀ (k i : Nat) (ys : List Value) (news : List (Addr × Obj)), i + k = n → J i ys news → CompRestT prog w A h₀ L m env ct elt x scope cl s S P Fin k i ys news := by
  intro k
  induction k with
  | zero => intro i ys news hk j; exact fin _ _ (by rw [← hk]; exact j)
  | succ k ih =>
    intro i ys news hk j
    refine CompRestT.succ fun v I oI C oC D m₂ h tk E' hP hC hx F N off ne => ?_
    refine wpAny_mono (step i ys news v I oI C oC D m₂ h tk E' (by lia) j hP hC hx F N off ne) (fun ok s' h' => ?_) fun _ _ e => e
    cases ok with
    | true =>
      simp only [if_true] at h' ⊢
      exact wpAny_mono h' (fun y s'' h'' => compEnd_mono h'' fun n' j' => ih _ _ _ (by lia) j') fun _ _ e => e
    | false =>
      simp only [Bool.false_eq_true, if_false] at h' ⊢
      exact compEnd_mono h' fun n' j' => ih _ _ _ (by lia) j'
noncomputable def TurnU (prog : Program) (w : World) (A : Around) (h₀ : Heap) (L : Addr) (m : Str → Option Value) (env : Env) (elt : Expr) (x : Str) (scope : Scope) (cl : List (Str × Addr)) (s : Shared) (S : List (Addr × Obj) → Prop) (P : Nat → Value → Prop) (J : Nat → List Value → List (Addr × Obj) → Prop) (n : Nat) : Prop :=
  ∀ i ys news v I oI C oC D m₂ h tk (E' : Value → Shared → Prop), i < n → J i ys news → P i v → NsObj oC m₂ → m₂ x = some v → Fr h₀ L h m → News h₀ L h ((I, oI) :: (C, oC) :: (D, lst ys) :: news) → Off3 I C D news → ((@Ne Nat I C) ∧ (@Ne Nat I D) ∧ (@Ne Nat C D)) →
      wpAny (model prog w) A (eval elt (compEnvC scope cl C env)) (CompEnd h₀ L m { s with heap := h, toks := tk } I oI C oC D (lst ys) S (fun y news' => J (i + 1) (ys ++ [y]) news')) E' { s with heap := h, toks := tk }
theorem restU_loop {elt : Expr} {x : Str} {scope : Scope} {cl : List (Str × Addr)} {S : List (Addr × Obj) → Prop} {P : Nat → Value → Prop} {Fin : List Value → List (Addr × Obj) → Prop} (J : Nat → List Value → List (Addr × Obj) → Prop) {n : Nat}
    (step : TurnU prog w A h₀ L m env elt x scope cl s S P J n) (fin : ∀ ys news, J n ys news → Fin ys news) :
    ∀ (k i : Nat) (ys : List Value) (news : List (Addr × Obj)), i + k = n → J i ys news → CompRest prog w A h₀ L m env elt x scope cl s S P Fin k i ys news := by
  intro k
  induction k with
  | zero => intro i ys news hk j; exact fin _ _ (by rw [← hk]; exact j)
  | succ k ih =>
    intro i ys news hk j
    refine CompRest.succ fun v I oI C oC D m₂ h tk E' hP hC hx F N off ne => ?_
    exact wpAny_mono (step i ys news v I oI C oC D m₂ h tk E' (by lia) j hP hC hx F N off ne) (fun y s'' h'' => compEnd_mono h'' fun n' j' => ih _ _ _ (by lia) j') fun _ _ e => e

noncomputable def SrcST (prog : Program) (w : World) (A : Around) (h₀ : Heap) (L : Addr) (m : Str → Option Value) (env : Env) (ct elt : Expr) (x : Str) (scope : Scope) (cl : List (Str × Addr)) (Fin : Shared → List Value → List (Addr × Obj) → Prop) (xv : Value) (s₁ : Shared) : Prop :=
  ∃ z t news, xv = .str z t ∧ A.handled = none ∧ Fr h₀ L s₁.heap m ∧ News h₀ L s₁.heap news ∧ z.cps.all (· < 128) = true ∧ z.cps.size ≤ sizeLine ∧
    ∀ s₂ : Shared, (∃ h, s₂ = { s₁ with heap := h }) → CompRestT prog w A h₀ L m env ct elt x scope cl s₂ (fun _ => True) (SignAt z) (Fin s₂) z.cps.size 0 [] news
theorem Assign_ListComp_S {ct elt iter : Expr} {x y : Str} {px py : Pos} {scope : Scope} {cl : List (Str × Addr)} {pos spos : Pos} {Q : Flow → Shared → Prop} (F₀ : Fr h₀ L s.heap m) (hLe : env.locals = L)
    (hsw : swapsWith (.ListComp elt [⟨.Name x px, iter, [ct], 0⟩] scope pos) (some (.Name y py)) spos.line env = pure true)
    (hclos : closureFor scope env = pure cl) (hcell : ∀ z ∈ scope.names, z.2 ≠ .cell) (hkind : scope.kind = .function)
    (hnames : ∀ z ∈ scope.names, z.2 = .local → scope.names.lookup z.1 = some .local) (hx : scope.names.lookup x = some .local)
    (hy : env.kindOf y = some .local) (hp : (env.scope.kind == .class || (env.scope.kind == .module && env.locals != env.globals)) = false)
    (h : wpAny (model prog w) A (eval iter env) (SrcST prog w A h₀ L m env ct elt x scope cl (fun s₂ => FinA h₀ L m s₂ y Q)) E s)
    (hs : ∀ x, foldedSetIterable iter env x = pure x := by intro _; rfl) :
    wpAny (model prog w) A (exec (.Assign [.Name y py] (.ListComp elt [⟨.Name x px, iter, [ct], 0⟩] scope pos) spos) env) Q E s := by
  subst hLe
  rw [exec_Assign_Name_used _ _ _ _ hsw]
  refine wpAny_bind (wpAny_standAt (wpAny_bind ?_))
  show wpAny _ A (do let _ ← comprehension (.ListComp elt [⟨.Name x px, iter, [ct], 0⟩] scope pos) scope env _ (newList []) false (eval iter env) (some (assign (.Name y py) env))) _ _ s
  refine wpAny_bind (wpAny_mono (wpAny_comprehension_free (use := some (assign (.Name y py) env)) (Q := fun _ s' => Q .next s') rfl hs hclos hkind hnames
    (wpAny_mono h (fun xv s₁ h₁ => ?_) fun _ _ e => e)) (fun _ s' hq => wpAny_pure (wpAny_pure hq)) fun _ _ e => e)
  obtain ⟨z, t, news, rfl, hh, F, N, ha, hsz, R⟩ := h₁
  refine wpAny_pyIter_ascii ha ?_
  refine block_T (Walks.strAscii hh s₁.heap.objs.size z t) hsz (fun i h st => by obtain ⟨o, e, _⟩ := st; exact ⟨o, e⟩) (fun i h h' o nw st e e' _ _ _ => by obtain ⟨o', q, r⟩ := st; rw [e] at q; cases q; exact ⟨o, e', r⟩) hcell hkind hx ⟨_, Heap.get?_push_size _ rfl, rfl, rfl⟩ (fun b hb => ?_)
    (F.keeps fun _ _ e => Heap.get?_push_of_some _ e) (N.grown fun _ _ e => Heap.get?_push_of_some _ e) (Nat.ne_of_lt F.ns.lt) (next_is_new F) (fun p hp => Nat.ne_of_lt (Heap.lt_size (N p hp).1)) trivial (R _ ⟨_, rfl⟩) ?_
  · rw [List.mem_singleton.mp hb]
    show s₁.heap.objs.size < (s₁.heap.push _).objs.size
    rw [Heap.size_push]; exact Nat.lt_succ_self _
  · intro D C h' tk m' ys news' F' N' o1 hn hC₀ hD₀ hCL hDL hCD offC fin
    show wpAny _ A (assign (.Name y py) env (.ref D)) _ _ _
    refine wpAny_assign_Name (wpAny_storeName_local hy F'.ns (fun h₂ hn₂ hs₂ => ?_) hp)
    have hL₀ : h₀.get? env.locals = none := Heap.get?_none_of_le F'.above
    have F₂ : Fr h₀ env.locals h₂ (fun z => if z = y then some (.ref D) else m z) := ⟨hn₂, fun b o e => hs₂.extBut b o (fun q => by rw [q, hL₀] at e; cases e) (F'.keep b o e), F'.above⟩
    refine ⟨m', hn.sameBut hs₂ hCL, fun h'' hs'' => fin D h'' _ (F₂.change hs'' hCL hC₀) (fun p hp => ?_) o1⟩
    have z : h₂.get? p.1 = some p.2 := hs₂.extBut _ _ (N' p hp).2.1 (N' p hp).1
    refine ⟨hs''.extBut _ _ ?_ z, (N' p hp).2⟩
    rcases List.mem_cons.mp hp with rfl | hp
    · exact Ne.symm hCD
    · exact offC p hp
end
-- a mark: where it stands in the context, a comprehension is walked by hand
noncomputable def MarkC : Prop := 1 = 1
theorem markC : MarkC := rfl
end
local macro_rules | `(tactic| walk_at "mine trap") => `(tactic| ((with_reducible rename MarkC => mC9); walk_at "mine stop"))
local macro_rules | `(tactic| walk_at "exec Assign cons ListComp") => `(tactic| walk_at "mine trap")
local macro_rules | `(tactic| walk_at "eval ListComp") => `(tactic| walk_at "mine trap")
section
end
section
section
variable {prog : Program} {w : World} {A : Around} {s : Shared} {env : Env} {h₀ : Heap}
inductive LoopT (prog : Program) (w : World) (A : Around) (h₀ : Heap) (env : Env) (tgt : Expr) (body : List Stmt) (Q : Flow → Shared → Prop) : Value → Shared → Prop
  | mk (I l : Addr) (vs : Array Value) (ep : Nat) (o : Obj) (m : Str → Option Value) (news : List (Addr × Obj)) (s₂ : Shared) (J : Nat → (Str → Option Value) → List (Addr × Obj) → Prop)
    (hit : IsIt o l 0) (hrf : ∀ (i : Nat) (v : Value), vs[i]? = some v → ∃ T, v = Value.ref T) (F : Fr h₀ env.locals s₂.heap m) (N : News h₀ env.locals s₂.heap ((I, o) :: news)) (h0 : J 0 m news)
    (hJ : ∀ i m news, J i m news → (l, listOf vs ep) ∈ news ∧ ∀ p ∈ news, p.1 ≠ I)
    (step : ∀ i v m₁ news₁ o₁ h tk, vs[i]? = some v → J i m₁ news₁ → Fr h₀ env.locals h m₁ → News h₀ env.locals h ((I, o₁) :: news₁) →
      wpAny (model prog w) A (assign tgt env v) (fun _ s' => wpAny (model prog w) A (execs body env) (EndL h₀ env.locals I o₁ (J (i + 1)) { s₂ with heap := h, toks := tk } Q) NoE s') NoE { s₂ with heap := h, toks := tk })
    (done : ∀ m' news' h' tk, J vs.size m' news' → Fr h₀ env.locals h' m' → News h₀ env.locals h' news' → Q .next { s₂ with heap := h', toks := tk }) : LoopT prog w A h₀ env tgt body Q (.ref I) s₂
theorem for_T {elts : List Expr} {x1} {tpos : Pos} {pos : Pos} {iter : Expr} {body : List Stmt} {Q : Flow → Shared → Prop} {L : Addr} {h : Heap} {m : Str → Option Value} (_ : Fr h₀ L h m) (hA : A.handled = none)
    (h : wpAny (model prog w) A (eval iter env) (fun xv s₁ => wpAny (model prog w) A (pyIter xv) (fun it s₂ => LoopT prog w A h₀ env (.Tuple elts x1 tpos) body Q it s₂) NoE s₁) NoE s)
    (hs : ∀ x, foldedSetIterable iter env x = pure x := by intro _; rfl) :
    wpAny (model prog w) A (exec (.For (.Tuple elts x1 tpos) iter body [] pos) env) Q NoE s := by
  refine wpAny_For (wpAny_mono h (fun xv s₁ h₁ => noE (wpAny_mono h₁ (fun it s₂ h₂ => ?_) fun _ _ e => e)) fun _ _ e => e) hs
  induction h₂ with
  | mk I l vs ep o m news s₂ J hit hrf F N h0 hJ step done =>
  refine codeAny_forLoop_any (ForLI h₀ env.locals I l vs J s₂) ?_ (vs.size + 1) (.mk s₂.heap s₂.toks m news 0 o hit F N h0 (Nat.zero_le _))
  intro k s' hI
  induction hI with
  | mk h' tk m' news' i o' hit' F' N' hj hi =>
  obtain ⟨hl, hne⟩ := hJ i m' news' hj
  have hIt : h'.IsListIter I l i := ⟨o', (N' _ (List.mem_cons_self ..)).1, hit'.1, hit'.2⟩
  have hL : h'.IsList l vs := ⟨_, (N' _ (List.mem_cons_of_mem _ hl)).1, rfl, ep, rfl⟩
  have hIL := (N' _ (List.mem_cons_self ..)).2.1
  have hIn := (N' _ (List.mem_cons_self ..)).2.2
  by_cases hlt : i < vs.size
  · refine wpAny_pyNext_list_item hIt hL (Array.getElem?_eq_getElem hlt) fun h₁ hit₁ hs₁ => ?_
    obtain ⟨o₁, ho₁, hc₁, hd₁⟩ := hit₁
    have F₁ : Fr h₀ env.locals h₁ m' := F'.change hs₁ hIL hIn
    have N₁ : News h₀ env.locals h₁ ((I, o₁) :: news') := news_set (pre := []) N' (fun _ h => nomatch h) hne hs₁ ho₁
    obtain ⟨T, hT⟩ := hrf i _ (Array.getElem?_eq_getElem hlt)
    have st1 := step i _ m' news' o₁ h₁ tk (Array.getElem?_eq_getElem hlt) hj F₁ N₁
    rw [hT] at st1
    dsimp only
    rw [hT]
    refine wpAny_letOwnedTupleGo_listiter (i := i + 1) (l := l) ⟨o₁, ho₁, hc₁, hd₁⟩ ?_
    refine noE (wpAny_mono st1 (fun _ s₃ h₃ => noE (wpAny_mono h₃ (fun f s₃ h₃ => ?_) fun _ _ e => e)) fun _ _ e => e)
    cases f with
    | ret v => exact h₃
    | brk => exact h₃
    | cont => change EndLN _ _ _ _ _ _ _ at h₃; exact forLI_next (s₂ := s₂) ⟨hc₁, hd₁⟩ hlt h₃ (fun _ _ => rfl)
    | next => change EndLN _ _ _ _ _ _ _ at h₃; exact forLI_next (s₂ := s₂) ⟨hc₁, hd₁⟩ hlt h₃ (fun _ _ => rfl)
  · have hin : i = vs.size := Nat.le_antisymm hi (Nat.le_of_not_lt hlt)
    subst hin
    refine wpAny_pyNext_list_end hA hIt hL (Array.getElem?_eq_none (Nat.le_refl _)) fun h₁ hk₁ => wpAny_execs_nil ?_
    refine done m' news' h₁ _ hj ⟨F'.ns.at' fun o e => hk₁ _ o (Ne.symm hIL) e, fun b o e => hk₁ b o (fun q => by rw [q, hIn] at e; cases e) (F'.keep b o e), F'.above⟩ fun p hp => ⟨hk₁ _ _ (hne p hp) (N' _ (List.mem_cons_of_mem _ hp)).1, (N' _ (List.mem_cons_of_mem _ hp)).2⟩
structure IterT (prog : Program) (w : World) (A : Around) (s : Shared) (env : Env) (h₀ : Heap) (tgt : Expr) (body : List Stmt) (Q : Flow → Shared → Prop) (l : Addr) (vs : Array Value) (ep : Nat) (m : Str → Option Value) (ys : List Str) (K : Nat → List (Option Value) → List (Addr × Obj) → Prop) (I : Addr) : Prop where
  mem : ∀ i vals news, K i vals news → (l, listOf vs ep) ∈ news ∧ ∀ p ∈ news, p.1 ≠ I
  step : ∀ i v vals news₁ o₁ h tk, vs[i]? = some v → K i vals news₁ → Fr h₀ env.locals h (up (ys.zip vals) m) → News h₀ env.locals h ((I, o₁) :: news₁) →
    wpAny (model prog w) A (assign tgt env v) (fun _ s' => wpAny (model prog w) A (execs body env) (EndL h₀ env.locals I o₁ (UpJ ys m (K (i + 1))) { s with heap := h, toks := tk } Q) NoE s') NoE { s with heap := h, toks := tk }
  done : ∀ vals news' h' tk, K vs.size vals news' → Fr h₀ env.locals h' (up (ys.zip vals) m) → News h₀ env.locals h' news' → Q .next { s with heap := h', toks := tk }
theorem iter_T {tgt : Expr} {body : List Stmt} {Q : Flow → Shared → Prop} {l : Addr} {vs : Array Value} {ep : Nat} {m : Str → Option Value} {news : List (Addr × Obj)} (ys : List Str) (K : Nat → List (Option Value) → List (Addr × Obj) → Prop)
    (F : Fr h₀ env.locals s.heap m) (N : News h₀ env.locals s.heap news) (hl : (l, listOf vs ep) ∈ news) (hrf : ∀ (i : Nat) (v : Value), vs[i]? = some v → ∃ T, v = Value.ref T) (k0 : K 0 (ys.map m) news)
    (h : ∀ I, (∀ p ∈ news, p.1 < I) → IterT prog w A s env h₀ tgt body Q l vs ep m ys K I) :
    wpAny (model prog w) A (pyIter (.ref l)) (fun it s₂ => LoopT prog w A h₀ env tgt body Q it s₂) NoE s := by
  have hL : s.heap.IsList l vs := ⟨_, (N _ hl).1, rfl, ep, rfl⟩
  refine wpAny_pyIter_list hL ?_
  have u := h s.heap.objs.size fun p hp => Heap.lt_size (N p hp).1
  refine .mk _ l vs ep _ m news _ (fun i => UpJ ys m (K i)) ⟨rfl, rfl⟩ hrf (F.push _) (N.push F _) ⟨_, k0, (up_self m ys).symm⟩ ?_ ?_ ?_
  · intro i m' n' h
    cases h with | mk vals hK e => exact u.mem i vals n' hK
  · intro i v m₁ n₁ o₁ h₁ tk hv h F₁ N₁
    cases h with | mk vals hK e => subst e; exact u.step i v vals n₁ o₁ h₁ tk hv hK F₁ N₁
  · intro m' n' h' tk h F₁ N₁
    cases h with | mk vals hK e => subst e; exact u.done vals n' h' tk hK F₁ N₁
end
end
local macro_rules | `(tactic| walk_at "exec For Name BinOp cons nil") => `(tactic| walk_at "mine for")
section
section
variable {prog : Program} {w : World} {A : Around} {s : Shared} {env : Env} {h₀ : Heap}
-- of a loop over pairs: two names change, the ledger stays
inductive PairK (news : List (Addr × Obj)) (P : Nat → Prop) (i : Nat) : List (Option Value) → List (Addr × Obj) → Prop
  | mk (u1 u2 : Option Value) (h : P i) : PairK news P i [u1, u2] news
inductive PairAt (pairs : List (Str × Str)) (news : List (Addr × Obj)) (i : Nat) : Value → Prop
  | mk (T : Addr) (a : Str) (ta : Tok) (b : Str) (tb : Tok) (n : Nat) (hm : (T, ({ cls := .type "tuple", data := .seq #[.str a ta, .str b tb] n } : Obj)) ∈ news) (hpr : pairs[i]? = some (a, b)) : PairAt pairs news i (.ref T)
theorem iter_P {tgt : Expr} {body : List Stmt} {Q : Flow → Shared → Prop} {l : Addr} {vs : Array Value} {ep : Nat} {m : Str → Option Value} {news : List (Addr × Obj)} (y1 y2 : Str) (pairs : List (Str × Str)) (P : Nat → Prop)
    (F : Fr h₀ env.locals s.heap m) (N : News h₀ env.locals s.heap news) (hl : (l, listOf vs ep) ∈ news) (hz : vs.size = pairs.length)
    (hp : ∀ (i : Nat) (v : Value), vs[i]? = some v → PairAt pairs news i v) (p0 : P 0)
    (step : ∀ i T a ta b tb u1 u2 I o₁ h tk, P i → pairs[i]? = some (a, b) → IsTup h T #[.str a ta, .str b tb] → Fr h₀ env.locals h (up ([y1, y2].zip [u1, u2]) m) → News h₀ env.locals h ((I, o₁) :: news) → (∀ p ∈ news, p.1 < I) →
        let q := EndL h₀ env.locals I o₁ (UpJ [y1, y2] m (PairK news P (i + 1))) { s with heap := h, toks := tk } Q
        wpAny (model prog w) A (assign tgt env (.ref T)) (fun _ s' => wpAny (model prog w) A (execs body env) q NoE s') NoE { s with heap := h, toks := tk })
    (done : ∀ u1 u2 h' tk, P pairs.length → Fr h₀ env.locals h' (up ([y1, y2].zip [u1, u2]) m) → News h₀ env.locals h' news → Q .next { s with heap := h', toks := tk }) :
    wpAny (model prog w) A (pyIter (.ref l)) (fun it s₂ => LoopT prog w A h₀ env tgt body Q it s₂) NoE s := by
  refine iter_T [y1, y2] (PairK news P) F N hl (fun i v hv => by cases hp i v hv; exact ⟨_, rfl⟩) (.mk _ _ p0) fun I hI => ⟨?_, ?_, ?_⟩
  · intro i vals n h
    cases h
    exact ⟨hl, fun p hp => Nat.ne_of_lt (hI p hp)⟩
  · intro i v vals n o₁ h tk hv hK F1 N1
    cases hK with | mk u1 u2 hP =>
    cases hp i v hv with | mk T a ta b tb n hm hpr =>
    exact step i T a ta b tb u1 u2 I o₁ h tk hP hpr (News.isTup N1 (.tail _ hm)) F1 N1 hI
  · intro vals n h tk hK F1 N1
    cases hK with | mk u1 u2 hP => exact done u1 u2 h tk (by rw [← hz]; exact hP) F1 N1
end
end
section
theorem cat_K {prog : Program} {w : World} {A : Around} {E : Value → Shared → Prop} {s : Shared} {h₀ : Heap} {L a b : Addr} {m : Str → Option Value} {news : List (Addr × Obj)} {v1 v2 : Array Value} {n1 n2 : Nat} {Q : Value → Shared → Prop}
    (F : Fr h₀ L s.heap m) (N : News h₀ L s.heap news) (ha : (a, listOf v1 n1) ∈ news) (hb : (b, listOf v2 n2) ∈ news) (hz : v1.toList.length + v2.toList.length ≤ 1000)
    (h : ∀ D h', Fr h₀ L h' m → News h₀ L h' ((D, listOf ⟨v1.toList ++ v2.toList⟩ 0) :: news) → (∀ p ∈ news, p.1 < D) → Q (.ref D) { s with heap := h' }) : wpAny (model prog w) A (binaryOp .Add (.ref a) (.ref b)) Q E s :=
  kmk_add_lit (its := v1) (its2 := v2) F N ⟨_, (N _ ha).1, rfl, _, rfl⟩ ⟨_, (N _ hb).1, rfl, _, rfl⟩ rfl h (by rw [sizeLine_eq]; lia)
theorem compEnd_push {h₀ : Heap} {L I C D T : Addr} {m : Str → Option Value} {s₁ : Shared} {oI oC oD oT : Obj} {S : List (Addr × Obj) → Prop} {rest : Value → List (Addr × Obj) → Prop} {y : Value} {h' : Heap} {tk : Nat} {news : List (Addr × Obj)}
    (F : Fr h₀ L h' m) (N : News h₀ L h' ((T, oT) :: (I, oI) :: (C, oC) :: (D, oD) :: news)) (off : LCg.Off3 I C D news) (ne : (@Ne Nat T I) ∧ (@Ne Nat T C) ∧ (@Ne Nat T D)) (hS : S ((T, oT) :: news)) (r : rest y ((T, oT) :: news)) :
    LCg.CompEnd h₀ L m s₁ I oI C oC D oD S rest y { s₁ with heap := h', toks := tk } :=
  LCg.CompEnd.intro F N ((T, oT) :: news) (fun p hp => by
    rcases List.mem_cons.mp hp with rfl | hp
    · exact .tail _ (.head _)
    · rcases List.mem_cons.mp hp with rfl | hp
      · exact .tail _ (.tail _ (.head _))
      · rcases List.mem_cons.mp hp with rfl | hp
        · exact .tail _ (.tail _ (.tail _ (.head _)))
        · rcases List.mem_cons.mp hp with rfl | hp
          · exact .head _
          · exact .tail _ (.tail _ (.tail _ (.tail _ hp)))) ⟨ne, off⟩ hS r
end
local macro_rules | `(tactic| walk_at "call builtin:str.join") => `(tactic| walk_at "mine trap")
section
end
section
theorem slot_pat_sub : Slot "re.Pattern" "sub" "re.Pattern.sub" :=
  .of (owner := "re.Pattern") (n := "sub") (by rw [typeLookup_type, builtinLookup_eq_fast]; kernel_rfl) (by decide +kernel) (by decide +kernel) (by decide +kernel)
    (by first | exact .inl (by decide +kernel) | exact .inr (by decide +kernel)) (by rw [isSubtype_type]; kernel_rfl)
theorem type_pat_sub : typeOf (.builtin "re.Pattern.sub") = pure (.type "method_descriptor") := by show builtinType _ = _; rw [builtinType_eq_fast]; kernel_rfl
theorem plainAttrs_pat : PlainAttrs "re.Pattern" :=
  ⟨⟨"object.__getattribute__", by rw [typeLookup_type, builtinLookup_eq_fast]; kernel_rfl, by decide +kernel⟩, by rw [typeLookup_type, builtinLookup_eq_fast]; kernel_rfl⟩
theorem entry_pat_sub : entryFor table "re.Pattern.sub" = some Builtin.«re.Pattern.sub» := entryFor_of_tree (by kernel_rfl)
theorem entry_pat_loop : entryFor table "re.Pattern.sub.loop" = some Builtin.«re.Pattern.sub.loop» := entryFor_of_tree (by kernel_rfl)
theorem nocall_str : typeLookup (.type "str") "__call__" = pure none := by rw [typeLookup_type, builtinLookup_eq_fast]; kernel_rfl
theorem args_pat_sub (a b c : Value) : argsOk "re.Pattern.sub" ⟨[a, b, c], []⟩ := by
  unfold argsOk
  have h : Manifest.signature? "re.Pattern.sub" = none ∨ ∃ g, Manifest.signature? "re.Pattern.sub" = some g := by cases Manifest.signature? "re.Pattern.sub" <;> simp
  first
    | (rw [show Manifest.signature? "re.Pattern.sub" = none from by decide +kernel]; trivial)
    | trivial
open PySem.Builtin.Re in
theorem whole_t {M : Model} {A : Around} {E : Value → Shared → Prop} {s : Shared} {p q : Addr} {po qo : Obj} {fs ws : Array Value} {n : Nat} {x : Str} {t t6 t2 : Tok} {g : Int} {Q : ReTarget → Shared → Prop}
    (hp : s.heap.get? p = some po) (hpd : po.data = .fields fs) (h6 : fs.getD 6 .none = .int 0 t6) (h5 : fs.getD 5 .none = .ref q) (h2 : fs.getD 2 .none = .int g t2) (hq : s.heap.get? q = some qo) (hqd : qo.data = .seq ws n)
    (h : Q { pattern := .ref p, string := .str x t, code := (ws.map reRawOf).map (·.toNat), text := x.cps, kind := 0, groups := g.toNat, pos := 0, lim := x.cps.size } s) :
    wpAny M A (reWholeTarget (.ref p) (.str x t)) Q E s := by
  unfold reWholeTarget
  refine wpAny_bind (wpAny_fieldsOf hp hpd ?_)
  refine wpAny_bind (m := reTextOf (.str x t)) (wpAny_of_eq (a := (x.cps, 0)) rfl ?_)
  rw [h6, h5, h2]
  refine wpAny_bind (m := reNoCollectionInside _ _) (wpAny_of_eq (a := ()) rfl ?_)
  refine wpAny_bind (m := reRawItems _) ?_
  unfold reRawItems
  exact wpAny_bind (wpAny_seqItems hq hqd (wpAny_pure (wpAny_pure h)))

open PySem.Builtin.Re in
theorem drive_t {M : Model} {A : Around} {E : Value → Shared → Prop} {s : Shared} {Q : Sre.M → Shared → Prop} : ∀ (turns k : Nat) (m : Sre.M), k ≤ 4 * turns → (m.runFor k).outcome.isSome = true → Q (m.runFor k) s → 0 < turns → wpAny M A (reDrive turns m) Q E s
  | 0, k, m, _, _, _, h => absurd h (by lia)
  | turns + 1, k, m, hk, ho, hQ, _ => by
    unfold reDrive
    by_cases h4 : (m.runFor 4).outcome.isSome = true
    · show wpAny M A (if (m.runFor 4).outcome.isSome = true then pure (m.runFor 4) else _) Q E s
      rw [if_pos h4]
      have e : m.runFor 4 = m.runFor k := by
        by_cases hlt : k ≤ 4
        · have : m.runFor (k + (4 - k)) = m.runFor k := by rw [runFor_add, runFor_some _ _ ho]
          rwa [show k + (4 - k) = 4 by lia] at this
        · have : m.runFor (4 + (k - 4)) = m.runFor 4 := by rw [runFor_add, runFor_some _ _ h4]
          rw [show 4 + (k - 4) = k by lia] at this
          exact this.symm
      rw [e]; exact wpAny_pure hQ
    · show wpAny M A (if (m.runFor 4).outcome.isSome = true then pure (m.runFor 4) else _) Q E s
      rw [if_neg h4]
      have hgt : 4 < k := by
        refine Classical.byContradiction fun hc => h4 ?_
        have : m.runFor (k + (4 - k)) = m.runFor k := by rw [runFor_add, runFor_some _ _ ho]
        rw [show k + (4 - k) = 4 by lia] at this
        rw [this]; exact ho
      have e : (m.runFor 4).runFor (k - 4) = m.runFor k := by
        rw [← runFor_add, show 4 + (k - 4) = k by lia]
      refine wpAny_bind (wpAny_rule (drive_t turns (k - 4) _ (by lia) (by rw [show reTurnSteps = 4 from rfl, e]; exact ho) (by rw [show reTurnSteps = 4 from rfl, e]; exact hQ) (by lia)))

theorem forIn_rule {M : Model} {A : Around} {E : Value → Shared → Prop} {s : Shared} (f : Nat → Bool) (g : Nat → String) : ∀ (l : List Nat) {Q : PUnit → Shared → Prop}, Q ⟨⟩ s →
    wpAny M A (forIn l (⟨⟩ : PUnit) (fun i _ => (if f i = true then do rule (g i); pure (ForInStep.yield PUnit.unit) else pure (ForInStep.yield PUnit.unit) : Sem (ForInStep PUnit)))) Q E s
  | [], Q, h => by rw [List.forIn_nil]; exact wpAny_pure h
  | i :: l, Q, h => by
    rw [List.forIn_cons]
    refine wpAny_bind ?_
    by_cases hf : f i = true
    · rw [if_pos hf]; exact wpAny_bind (wpAny_rule (wpAny_pure (forIn_rule f g l h)))
    · rw [if_neg hf]; exact wpAny_pure (forIn_rule f g l h)

open PySem.Builtin.Re in
theorem toEnd_t {M : Model} {A : Around} {E : Value → Shared → Prop} {s : Shared} {Q : Option Sre.M → Shared → Prop} {m : Sre.M} {n : Nat} {P : Sre.M → Prop} (hg : Goes n m P) (hn : n ≤ 1000000)
    (hP : ∀ m', P m' → (m'.outcome = some .matched ∧ Q (some m') s) ∨ (m'.outcome = some .failed ∧ Q none s)) : wpAny M A (reRunToEnd m) Q E s := by
  obtain ⟨k, hk, hp⟩ := hg
  have hh := hP _ hp
  have ho : (m.runFor k).outcome.isSome = true := by rcases hh with ⟨h, _⟩ | ⟨h, _⟩ <;> rw [h] <;> rfl
  unfold reRunToEnd
  refine wpAny_bind (drive_t (2 ^ 64) k m (by lia) ho ?_ (by decide))
  refine wpAny_bind ?_
  refine wpAny_mono (Q := fun _ s' => s' = s) (forIn_rule (fun i => (m.runFor k).seen.has i) (fun i => Sre.names.getD i "") _ rfl) ?_ (fun _ _ h => h)
  rintro _ s' rfl
  rcases hh with ⟨h, q⟩ | ⟨h, q⟩
  · rw [h]; exact wpAny_pure q
  · rw [h]; exact wpAny_pure q

noncomputable def cat (ys : List Str) : List Nat := (ys.map fun y => y.cps.toList).flatten
theorem cat_append (ys zs : List Str) : cat (ys ++ zs) = cat ys ++ cat zs := by simp [cat]
theorem join_cat : ∀ ys : List Str, (Str.join ⟨#[]⟩ ys).cps.toList = cat ys
  | [] => rfl
  | [x] => by simp [Str.join, cat]
  | x :: y :: r => by
    have ih := join_cat (y :: r)
    show (x ++ (⟨#[]⟩ : Str) ++ Str.join ⟨#[]⟩ (y :: r)).cps.toList = _
    rw [Str.cps_append, Str.cps_append, Array.toList_append, ih]
    simp [cat]
theorem cat_len (ys : List Str) : (ys.map (·.length)).sum = (cat ys).length := by
  induction ys with
  | nil => rfl
  | cons y r ih => simp only [List.map_cons, List.sum_cons, ih, cat, List.flatten_cons, List.length_append]; simp [Str.length]

open PySem.Builtin.Re in
theorem push_t {M : Model} {A : Around} {E : Value → Shared → Prop} {s : Shared} {h₀ : Heap} {L pl : Addr} {m : Str → Option Value} {news : List (Addr × Obj)} {its : Array Value} {ep : Nat} {v : Value} {Q : Unit → Shared → Prop}
    (F : Fr h₀ L s.heap m) (N : News h₀ L s.heap ((pl, listOf its ep) :: news)) (hne : ∀ q ∈ news, q.1 ≠ pl) (hz : its.size ≤ 1000000)
    (h : ∀ h', Fr h₀ L h' m → News h₀ L h' ((pl, listOf (its.push v) (ep + 1)) :: news) → Q () { s with heap := h' }) : wpAny M A (updateSeq pl (·.push v)) Q E s := by
  have z := N _ (List.mem_cons_self ..)
  refine wpAny_updateSeq z.1 rfl (h _ (F.change (Heap.SameBut.update ..) z.2.1 z.2.2) ?_) (by rw [sizeLine_eq]; lia) (by rw [Array.size_push, sizeLine_eq]; lia)
  exact kl_turn (pre := []) (fun a => a.push v) N (fun _ h => nomatch h) hne rfl (by rw [Array.size_push]; lia)

theorem Fnd.out {mt : Nat → Option Nat} {lim p : Nat} {m : Sre.M} (h : Fnd mt lim p m) : ((∀ r, p ≤ r → r < lim → mt r = none) ∧ m.outcome = some .failed) ∨
    ∃ s e, p ≤ s ∧ s < lim ∧ (∀ r, p ≤ r → r < s → mt r = none) ∧ mt s = some e ∧ m.outcome = some .matched ∧ m.start = s ∧ m.handed = e := by
  cases h with
  | no a b => exact .inl ⟨a, b⟩
  | hit a b c d e f g => exact .inr ⟨_, _, a, b, c, d, e, f, g⟩
structure SubSpec (c : Array Nat) (T R : List Nat) (mt : Nat → Option Nat) (G : Nat → List Nat) : Prop where
  find : ∀ pos, pos ≤ T.length → Goes 900000 (Sre.forSearch c T.toArray 0 pos T.length false) (Fnd mt T.length pos)
  adv : ∀ s e, mt s = some e → s < T.length ∧ s < e ∧ e ≤ T.length
  stop : ∀ p, p ≤ T.length → (∀ r, p ≤ r → r < T.length → mt r = none) → G p = T.drop p
  hit : ∀ p s e, p ≤ s → mt s = some e → (∀ r, p ≤ r → r < s → mt r = none) → G p = (T.drop p).take (s - p) ++ R ++ G e

open PySem.Builtin.Re in
theorem sub_loop {prog : Program} {w : World} {A : Around} {h₀ : Heap} {L p q pl : Addr} {m : Str → Option Value} {news : List (Addr × Obj)} {po qo : Obj} {fs ws : Array Value} {n : Nat} {c : Array Nat} {x r : Str} {tx tr t6 t2 : Tok} {mt : Nat → Option Nat} {G : Nat → List Nat} {Rk : Result → Shared → Prop}
    (S : SubSpec c x.cps.toList r.cps.toList mt G) (hp : h₀.get? p = some po) (hpd : po.data = .fields fs) (h6 : fs.getD 6 .none = .int 0 t6) (h5 : fs.getD 5 .none = .ref q) (h2 : fs.getD 2 .none = .int 0 t2) (hq : h₀.get? q = some qo) (hqd : qo.data = .seq ws n)
    (hc : (ws.map reRawOf).map (·.toNat) = c) (hx : x.length ≤ 100000) (hG : (G 0).length ≤ 1000000) (hrn : (Value.str r tr != .none) = true) :
    ∀ (k pos : Nat) (cnt : Int) (s0 : Shared) (its : Array Value) (ep : Nat) (ys : List Str), x.length - pos < k → pos ≤ x.length → Fr h₀ L s0.heap m → News h₀ L s0.heap ((pl, listOf its ep) :: news) → (∀ z ∈ news, z.1 ≠ pl) → StrsAre its.toList ys → cat ys ++ G pos = G 0 → ys.length ≤ 2 * pos →
      (∀ t h' tk, Fr h₀ L h' m → News h₀ L h' news → Rk (.ok (.ret (.str ⟨(G 0).toArray⟩ t))) { s0 with heap := h', toks := tk }) →
      codeAny (model prog w) A (.builtin "re.Pattern.sub.loop" ⟨[.ref p, .str x tx, .str r tr, .int 0 0, .int 0 0, .int cnt 0, .int pos 0, .int pos 0, .bool false, .ref pl, .bool false], []⟩) Rk s0 := by
  intro k
  induction k with
  | zero => intro pos cnt s0 its ep ys hk; lia
  | succ k ih =>
    intro pos cnt s0 its ep ys hk hpos F N hne hs hcat hlen hret
    have hTl : x.cps.toList.length = x.length := by simp [Str.length]
    have hzl : its.size ≤ 300000 := by
      have := hs.len_eq
      have e : its.toList.length = its.size := by simp
      lia
    refine codeAny_builtin entry_pat_loop ?_
    unfold Builtin.«re.Pattern.sub.loop»
    dsimp only
    refine wpAny_bind (whole_t (F.keep _ _ hp) hpd h6 h5 h2 (F.keep _ _ hq) hqd ?_)
    rw [if_pos (show ((0 : Int) == 0) = true from rfl)]
    refine wpAny_bind (m := reLiteralCannotBeTurned _) (wpAny_of_eq (a := ()) rfl ?_)
    refine wpAny_bind ?_
    rw [if_neg (show ¬ (((0 : Int) != 0 && decide (cnt ≥ 0)) = true) from Bool.false_ne_true)]
    have hf : Goes 900000 (Sre.forSearch ((ws.map reRawOf).map (·.toNat)) x.cps (Int.toNat 0) ((pos : Int)).toNat x.cps.size false) (Fnd mt x.length pos) := by
      have h := S.find pos (by rw [hTl]; exact hpos)
      rw [hTl] at h
      rw [hc]
      simpa [Str.length] using h
    unfold reNextFound
    refine toEnd_t hf (by decide) (fun m' hm => ?_)
    rcases Fnd.out hm with ⟨hno, ho⟩ | ⟨s, e, h1, h2, h3, h4, ho, hst, hha⟩
    · refine .inr ⟨ho, ?_⟩
      have hG' : G pos = x.cps.toList.drop pos := S.stop pos (by rw [hTl]; exact hpos) (fun r h1 h2 => hno r h1 (by rw [hTl] at h2; exact h2))
      -- the last piece
      have fin : ∀ (s' : Shared) (its' : Array Value) (ep' : Nat) (ys' : List Str), Fr h₀ L s'.heap m → News h₀ L s'.heap ((pl, listOf its' ep') :: news) → StrsAre its'.toList ys' → cat ys' = G 0 → ys'.length ≤ 2 * pos + 1 → (∃ h tk, s' = { s0 with heap := h, toks := tk }) →
          wpAny (model prog w) (A.under (.builtin "re.Pattern.sub.loop" ⟨[.ref p, .str x tx, .str r tr, .int 0 0, .int 0 0, .int cnt 0, .int pos 0, .int pos 0, .bool false, .ref pl, .bool false], []⟩))
            (do
              let joiner ← reSlice x.cps 0 0 0
              let text ← if ((← seqItems? (.ref pl)).getD #[]).isEmpty then pure joiner
                else call (.builtin (if (0 : Nat) == 0 then "str.join" else "bytes.join")) [joiner, .ref pl]
              if false = true then ret (← holding [text] do newTuple [text, ← mkInt cnt]) else ret text)
            (fun fin s' => match fin with | .done f => Rk (.ok f) s' | .again c' => c'.quiet = true ∧ codeAny (model prog w) A c' Rk s') (fun e s' => Rk (.error e) s') s' := by
        rintro s' its' ep' ys' F' N' hs' hcat' hlen' ⟨h1, tk1, rfl⟩
        have z := N' _ (List.mem_cons_self ..)
        have e0 : (⟨x.cps.extract 0 0⟩ : Str) = ⟨#[]⟩ := by simp
        unfold reSlice
        rw [if_pos (show ((0 : Nat) == 0) = true from rfl), e0]
        refine wpAny_bind (wpAny_mkStr ?_ (by show (#[] : Array Nat).size ≤ sizeLine; decide))
        refine wpAny_bind (wpAny_seqItems z.1 rfl ?_)
        show wpAny _ _ (if its'.isEmpty = true then _ else _) _ _ _
        by_cases hemp : its'.isEmpty = true
        · rw [if_pos hemp]
          refine wpAny_bind (wpAny_pure ?_)
          show wpAny _ _ (if false = true then _ else _) _ _ _
          rw [if_neg Bool.false_ne_true]
          have hy : ys' = [] := by
            have h2 := hs'.len_eq
            rw [Array.isEmpty_iff_size_eq_zero] at hemp
            have : its'.toList.length = its'.size := by simp
            exact List.eq_nil_of_length_eq_zero (by lia)
          have e2 : (⟨#[]⟩ : Str) = ⟨(G 0).toArray⟩ := by rw [← hcat', hy]; rfl
          rw [e2]
          exact wpAny_pure (hret _ _ _ F' fun z hz => N' z (List.mem_cons_of_mem _ hz))
        · rw [if_neg hemp, if_pos (show ((0 : Nat) == 0) = true from rfl)]
          have hsum : (ys'.map (·.length)).sum + ys'.length * (⟨#[]⟩ : Str).length ≤ 16777216 := by
            rw [cat_len, hcat', show (⟨#[]⟩ : Str).length = 0 from rfl]
            lia
          refine wpAny_bind (join_list (ys := ys') ⟨_, z.1, rfl, _, rfl⟩ hs' hsum fun t' k' => ?_)
          show wpAny _ _ (if false = true then _ else _) _ _ _
          rw [if_neg Bool.false_ne_true]
          have e3 : Txt.join ⟨#[]⟩ ys' = ⟨(G 0).toArray⟩ := by
            have : (Txt.join ⟨#[]⟩ ys').cps.toList = G 0 := by
              rw [show Txt.join ⟨#[]⟩ ys' = Builtin.Str.glued ⟨#[]⟩ ys' from rfl, StrLaws.glued_eq_join, join_cat, hcat']
            apply Str.ext'
            rw [← this]
          rw [e3]
          exact wpAny_pure (hret _ _ _ F' fun z hz => N' z (List.mem_cons_of_mem _ hz))
      show wpAny _ _ (if ((pos : Int)).toNat < x.cps.size then _ else _) _ _ _
      have hpn : ((pos : Int)).toNat = pos := by simp
      by_cases hlt : pos < x.cps.size
      · rw [if_pos (by rw [hpn]; exact hlt)]
        unfold reSlice
        refine wpAny_bind (wpAny_mkStr ?_ ?_)
        · refine wpAny_bind (push_t (s := { s0 with toks := s0.toks + 1 }) F N hne (by lia) fun h' F' N' => ?_)
          refine fin _ _ _ (ys ++ [⟨x.cps.extract pos x.cps.size⟩]) F' N' ?_ ?_ (by simp; lia) ⟨_, _, rfl⟩
          · rw [Array.toList_push]
            exact strs_append hs (by rw [hpn]; exact strs_one _ _)
          · rw [cat_append, ← hcat, hG']
            congr 1
            simp only [cat, List.map_cons, List.map_nil, List.flatten_cons, List.flatten_nil, List.append_nil]
            simp only [Array.toList_extract, List.extract_eq_take_drop]
            exact List.take_of_length_le (by simp)
        · show (x.cps.extract _ _).size ≤ sizeLine
          rw [Array.size_extract, sizeLine_eq]
          simp only [Str.length] at hx
          lia
      · rw [if_neg (by rw [hpn]; exact hlt)]
        refine fin _ _ _ ys F N hs ?_ (by lia) ⟨_, _, rfl⟩
        rw [← hcat, hG', List.drop_of_length_le (by simp; lia), List.append_nil]
    · refine .inl ⟨ho, ?_⟩
      have hG' := S.hit pos s e h1 h4 h3
      obtain ⟨a1, a2, a3⟩ := S.adv _ _ h4
      rw [hTl] at a1 a3
      have hpn : ((pos : Int)).toNat = pos := by simp
      -- the piece between, then the replacement
      have fin : ∀ (s' : Shared) (its' : Array Value) (ep' : Nat) (ys' : List Str), Fr h₀ L s'.heap m → News h₀ L s'.heap ((pl, listOf its' ep') :: news) → StrsAre its'.toList ys' → cat ys' = cat ys ++ (x.cps.toList.drop pos).take (s - pos) → ys'.length ≤ 2 * pos + 1 → its'.size ≤ 400000 → (∃ h tk, s' = { s0 with heap := h, toks := tk }) →
          wpAny (model prog w) (A.under (.builtin "re.Pattern.sub.loop" ⟨[.ref p, .str x tx, .str r tr, .int 0 0, .int 0 0, .int cnt 0, .int pos 0, .int pos 0, .bool false, .ref pl, .bool false], []⟩))
            (do
              updateSeq pl (·.push (.str r tr))
              again (.builtin "re.Pattern.sub.loop" ⟨[.ref p, .str x tx, .str r tr, rawInt 0, rawInt 0, rawInt (cnt + 1), rawInt m'.handed, rawInt m'.handed, .bool (m'.handed == s), .ref pl, .bool false], []⟩))
            (fun fin s' => match fin with | .done f => Rk (.ok f) s' | .again c' => c'.quiet = true ∧ codeAny (model prog w) A c' Rk s') (fun e s' => Rk (.error e) s') s' := by
        rintro s' its' ep' ys' F' N' hs' hcat' hlen' hz' ⟨h1, tk1, rfl⟩
        refine wpAny_bind (push_t F' N' hne (by lia) fun h' F'' N'' => ?_)
        refine wpAny_pure ⟨plainId_quiet (by decide +kernel) _, ?_⟩
        rw [hha, show (e == s) = false from by simp; lia]
        refine ih e (cnt + 1) _ _ _ (ys' ++ [r]) (by lia) (by lia) F'' N'' hne ?_ ?_ (by simp; lia) ?_
        · rw [Array.toList_push]; exact strs_append hs' (strs_one _ _)
        · rw [cat_append, hcat', ← hcat, hG']
          simp [cat]
        · intro t h3 tk3 F3 N3
          exact hret t h3 tk3 F3 N3
      show wpAny _ _ (if ((pos : Int)).toNat < m'.start then _ else _) _ _ _
      rw [hst]
      by_cases hlt : pos < s
      · rw [if_pos (by rw [hpn]; exact hlt)]
        unfold reSlice
        refine wpAny_bind (wpAny_mkStr ?_ ?_)
        · refine wpAny_bind (push_t (s := { s0 with toks := s0.toks + 1 }) F N hne (by lia) fun h' F' N' => ?_)
          rw [if_pos (show ((0 : Int) == 0) = true from rfl)]
          refine wpAny_bind (wpAny_pure ?_)
          rw [if_pos hrn]
          refine fin _ _ _ (ys ++ [⟨x.cps.extract pos s⟩]) F' N' ?_ ?_ (by simp; lia) (by rw [Array.size_push]; lia) ⟨_, _, rfl⟩
          · rw [Array.toList_push]
            exact strs_append hs (by rw [hpn]; exact strs_one _ _)
          · rw [cat_append]
            congr 1
            simp only [cat, List.map_cons, List.map_nil, List.flatten_cons, List.flatten_nil, List.append_nil]
            simp only [Array.toList_extract, List.extract_eq_take_drop]
        · show (x.cps.extract _ _).size ≤ sizeLine
          rw [Array.size_extract, sizeLine_eq]
          simp only [Str.length] at hx
          lia
      · rw [if_neg (by rw [hpn]; exact hlt)]
        rw [if_pos (show ((0 : Int) == 0) = true from rfl)]
        refine wpAny_bind (wpAny_pure ?_)
        rw [if_pos hrn]
        refine fin _ _ _ ys F N hs ?_ (by lia) (by lia) ⟨_, _, rfl⟩
        rw [show s - pos = 0 by lia]; simp
theorem subSpec_of {c : Array Nat} {T R : List Nat} {mt : Nat → Option Nat} {G : Nat → List Nat} (find : ∀ pos, pos ≤ T.length → Goes 900000 (Sre.forSearch c T.toArray 0 pos T.length false) (Fnd mt T.length pos))
    (adv : ∀ s e, mt s = some e → s < T.length ∧ s < e ∧ e ≤ T.length) (hend : G T.length = []) (step : ∀ p (h : p < T.length), mt p = none → G p = T[p] :: G (p + 1)) (hit : ∀ s e, mt s = some e → G s = R ++ G e) : SubSpec c T R mt G where
  find := find
  adv := adv
  stop := by
    have : ∀ k p, T.length - p = k → p ≤ T.length → (∀ r, p ≤ r → r < T.length → mt r = none) → G p = T.drop p := by
      intro k
      induction k with
      | zero => intro p hk hp _; have : p = T.length := by lia
                subst this; rw [hend]; simp
      | succ k ih =>
        intro p hk hp hn
        have hlt : p < T.length := by lia
        rw [step p hlt (hn p (Nat.le_refl _) hlt), ih (p + 1) (by lia) (by lia) fun r h1 h2 => hn r (by lia) h2]
        exact (List.drop_eq_getElem_cons hlt).symm
    exact fun p hp hn => this _ p rfl hp hn
  hit := by
    have : ∀ k p s e, s - p = k → p ≤ s → mt s = some e → (∀ r, p ≤ r → r < s → mt r = none) → G p = (T.drop p).take (s - p) ++ R ++ G e := by
      intro k
      induction k with
      | zero =>
        intro p s e hk hp hs _
        have : p = s := by lia
        subst this
        rw [hit p e hs, Nat.sub_self]; simp
      | succ k ih =>
        intro p s e hk hp hs hn
        have hls := (adv s e hs).1
        have hlt : p < T.length := by lia
        rw [step p hlt (hn p (Nat.le_refl _) (by lia)), ih (p + 1) s e (by lia) (by lia) hs fun r h1 h2 => hn r (by lia) h2, List.drop_eq_getElem_cons hlt, show s - p = (s - (p + 1)) + 1 by lia, List.take_succ_cons]
        simp only [List.cons_append, List.append_assoc]
    exact fun p s e hp hs hn => this _ p s e rfl hp hs hn

noncomputable def crlfF : List Nat → List Nat
  | [] => []
  | [c] => if c = 13 then [13, 10] else if c = 10 then [13, 10] else [c]
  | c :: d :: r => if c = 13 then (if d = 10 then 13 :: 10 :: crlfF r else 13 :: 10 :: crlfF (d :: r)) else if c = 10 then 13 :: 10 :: crlfF (d :: r) else c :: crlfF (d :: r)
noncomputable def dotF : Bool → List Nat → List Nat
  | _, [] => []
  | b, c :: r => if b = true ∧ c = 46 then 46 :: 46 :: dotF false r else c :: dotF (c == 10) r

theorem getD_arr (T : List Nat) (p : Nat) (h : p < T.length) : T.toArray.getD p 0 = T[p] := by
  simp [Array.getD, h]
theorem crlf_plain {c : Nat} {r : List Nat} (h1 : c ≠ 13) (h2 : c ≠ 10) : crlfF (c :: r) = c :: crlfF r := by
  cases r with
  | nil => simp [crlfF, h1, h2]
  | cons d r => simp [crlfF, h1, h2]
theorem crlf_10 {r : List Nat} : crlfF (10 :: r) = 13 :: 10 :: crlfF r := by
  cases r with
  | nil => simp [crlfF]
  | cons d r => simp [crlfF]
theorem crlf_13 {r : List Nat} (h : ∀ d r', r = d :: r' → d ≠ 10) : crlfF (13 :: r) = 13 :: 10 :: crlfF r := by
  cases r with
  | nil => simp [crlfF]
  | cons d r => simp [crlfF, h d r rfl]
theorem crlf_1310 {r : List Nat} : crlfF (13 :: 10 :: r) = 13 :: 10 :: crlfF r := by simp [crlfF]

theorem spec2 (T : List Nat) (hT : T.length ≤ 100000) : SubSpec c2 T [13, 10] (mt2 T.toArray) (fun p => crlfF (T.drop p)) := by
  refine subSpec_of (fun pos hp => ?_) (fun s e h => by simpa using mt2_lt h) (by simp [crlfF]) (fun p hp hn => ?_) (fun s e h => ?_)
  · have := find2 T.toArray pos (by simpa using hp)
    simp only [List.size_toArray] at this
    exact this.mono (by lia)
  · rw [List.drop_eq_getElem_cons hp]
    have h1 : T[p] ≠ 13 := fun e => by
      unfold mt2 at hn
      rw [if_pos (by simpa using hp), getD_arr T p hp, if_pos (by rw [e]; rfl)] at hn
      split at hn <;> cases hn
    have h2 : T[p] ≠ 10 := fun e => by
      unfold mt2 at hn
      rw [if_pos (by simpa using hp), getD_arr T p hp, if_neg (by rw [e]; decide), if_pos (by rw [e]; rfl)] at hn
      cases hn
    exact crlf_plain h1 h2
  · have hs := (mt2_lt h).1
    simp only [List.size_toArray] at hs
    show crlfF (T.drop s) = [13, 10] ++ crlfF (T.drop e)
    unfold mt2 at h
    rw [if_pos (by simpa using hs), getD_arr T s hs] at h
    rw [List.drop_eq_getElem_cons hs]
    by_cases h13 : T[s] = 13
    · rw [if_pos (by rw [h13]; rfl)] at h
      rw [h13]
      by_cases hn : s + 1 < T.toArray.size ∧ (T.toArray.getD (s + 1) 0 == 10) = true
      · rw [if_pos hn] at h
        cases h
        have hs1 : s + 1 < T.length := by simpa using hn.1
        have h10 := hn.2
        rw [getD_arr T _ hs1, beq_iff_eq] at h10
        rw [List.drop_eq_getElem_cons hs1, h10, crlf_1310]; rfl
      · rw [if_neg hn] at h
        cases h
        rw [crlf_13]
        · rfl
        · intro d r' e' he
          have hs1 : s + 1 < T.length := by
            refine Classical.byContradiction fun hc => ?_
            rw [List.drop_of_length_le (by lia)] at e'
            cases e'
          rw [List.drop_eq_getElem_cons hs1] at e'
          injection e' with e1 e2
          exact hn ⟨by simpa using hs1, by rw [getD_arr T _ hs1, e1, he]; rfl⟩
    · rw [if_neg (by simpa using h13)] at h
      by_cases h10 : T[s] = 10
      · rw [if_pos (by rw [h10]; rfl)] at h
        cases h
        rw [h10, crlf_10]; rfl
      · rw [if_neg (by simpa using h10)] at h
        cases h

noncomputable def bol (T : List Nat) (p : Nat) : Bool := p == 0 || T.toArray.getD (p - 1) 0 == 10
theorem spec1 (T : List Nat) (hT : T.length ≤ 100000) : SubSpec c1 T [46, 46] (mt1 T.toArray) (fun p => dotF (bol T p) (T.drop p)) := by
  refine subSpec_of (fun pos hp => ?_) (fun s e h => by simpa using mt1_lt h) (by simp [dotF]) (fun p hp hn => ?_) (fun s e h => ?_)
  · have := find1 T.toArray pos (by simpa using hp)
    simp only [List.size_toArray] at this
    exact this.mono (by lia)
  · show dotF (bol T p) (T.drop p) = T[p] :: dotF (bol T (p + 1)) (T.drop (p + 1))
    have e1 : bol T (p + 1) = (T[p] == 10) := by
      unfold bol
      rw [show (p + 1 == 0) = false from by simp, Bool.false_or, Nat.add_sub_cancel, getD_arr T p hp]
    rw [List.drop_eq_getElem_cons hp, dotF, if_neg ?_, e1]
    rintro ⟨hb, hc⟩
    unfold mt1 at hn
    rw [if_pos ⟨by simpa using hp, hb, by rw [getD_arr T p hp, hc]; rfl⟩] at hn
    cases hn
  · show dotF (bol T s) (T.drop s) = [46, 46] ++ dotF (bol T e) (T.drop e)
    unfold mt1 at h
    by_cases hc : s < T.toArray.size ∧ (s == 0 || T.toArray.getD (s - 1) 0 == 10) = true ∧ (T.toArray.getD s 0 == 46) = true
    · rw [if_pos hc] at h
      cases h
      have hs : s < T.length := by simpa using hc.1
      have h46 := hc.2.2
      rw [getD_arr T s hs, beq_iff_eq] at h46
      have e1 : bol T (s + 1) = false := by
        unfold bol
        rw [show (s + 1 == 0) = false from by simp, Bool.false_or, Nat.add_sub_cancel, getD_arr T s hs, h46]; rfl
      rw [List.drop_eq_getElem_cons hs, dotF, if_pos ⟨hc.2.1, h46⟩, e1]; rfl
    · rw [if_neg hc] at h; cases h

section
variable {prog : Program} {w : World} {A : Around} {s : Shared} {h₀ : Heap} {L p q : Addr} {m : Str → Option Value} {news : List (Addr × Obj)} {po qo : Obj} {fs ws : Array Value} {n : Nat} {c : Array Nat} {x r : Str} {tx tr t6 t2 : Tok} {mt : Nat → Option Nat} {G : Nat → List Nat} {Q : Value → Shared → Prop}
open PySem.Builtin.Re in
theorem sub_call (S : SubSpec c x.cps.toList r.cps.toList mt G) (hr : (!r.cps.contains 92) = true) (hp : h₀.get? p = some po) (hpc : po.cls = .type "re.Pattern") (hpd : po.data = .fields fs) (h6 : fs.getD 6 .none = .int 0 t6) (h5 : fs.getD 5 .none = .ref q) (h2 : fs.getD 2 .none = .int 0 t2) (hq : h₀.get? q = some qo) (hqd : qo.data = .seq ws n)
    (hc : (ws.map reRawOf).map (·.toNat) = c) (hx : x.length ≤ 100000) (hG : (G 0).length ≤ 1000000) (F : Fr h₀ L s.heap m) (N : News h₀ L s.heap news)
    (h : ∀ t h' tk, Fr h₀ L h' m → News h₀ L h' news → Q (.str ⟨(G 0).toArray⟩ t) { s with heap := h', toks := tk }) :
    wpAny (model prog w) A (call (.builtin "re.Pattern.sub") [.ref p, .str r tr, .str x tx]) Q NoE s := by
  refine wpAny_call (codeAny_call_builtin slot_pat_sub.plain entry_pat_sub (slot_pat_sub.check _ _ _ _ _ _ _ _ ⟨po, F.keep _ _ hp, hpc⟩ (args_pat_sub _ _ _) ?_))
  show wpAny _ _ (reSubstitute "re.Pattern.sub" "sub" false ⟨[.ref p, .str r tr, .str x tx], []⟩) _ _ s
  unfold reSubstitute
  dsimp only
  refine wpAny_bind (m := reNamed _ _ _ _ _ _) (wpAny_of_eq (a := [some (.str r tr), some (.str x tx), none]) rfl ?_)
  dsimp only
  refine wpAny_bind (wpAny_pure ?_)
  refine wpAny_bind (wpAny_specialOf (T := "str") (r := none) rfl nocall_str ?_)
  have hno : ¬ ((none : Option Value).isSome = true) := Bool.false_ne_true
  rw [if_neg hno]
  refine wpAny_bind (m := asStr? _) (wpAny_of_eq (a := some r) rfl ?_)
  refine wpAny_bind (wpAny_pure ?_)
  rw [if_neg hno, if_pos hr]
  refine wpAny_bind (wpAny_pure ?_)
  refine wpAny_bind (wpAny_holding (whole_t (F.keep _ _ hp) hpd h6 h5 h2 (F.keep _ _ hq) hqd ?_))
  rw [if_neg (show ¬ (((0 : Int) == 1) = true) from Bool.false_ne_true)]
  refine wpAny_bind (newList_K F N (fun l h' F' N' hl => ?_) (by decide))
  refine wpAny_pure ⟨plainId_quiet (by decide +kernel) _, ?_⟩
  refine codeAny_mono (R := fun res s' => match res with | .ok (.ret v) => Q v s' | .ok _ => False | .error e => NoE e s') (sub_loop S hp hpd h6 h5 h2 hq hqd hc hx hG rfl (x.length + 1) 0 0 { s with heap := h' } _ _ [] (by lia) (Nat.zero_le _) F' N' (fun z hz => Nat.ne_of_lt (hl z hz)) .nil rfl (Nat.le_refl _) ?_) (fun _ _ h => h)
  intro t h'' tk F'' N''
  exact h t h'' tk F'' N''
end
theorem dotF_len : ∀ (l : List Nat) (b : Bool), (dotF b l).length ≤ 2 * l.length
  | [], _ => Nat.le_refl _
  | c :: r, b => by
    unfold dotF
    split
    · have := dotF_len r false; simp only [List.length_cons]; lia
    · have := dotF_len r (c == 10); simp only [List.length_cons]; lia
theorem crlfF_len : ∀ (n : Nat) (l : List Nat), l.length ≤ n → (crlfF l).length ≤ 2 * l.length := by
  intro n
  induction n with
  | zero => intro l h; have : l = [] := List.eq_nil_of_length_eq_zero (by lia); subst this; exact Nat.le_refl _
  | succ n ih =>
    intro l h
    cases l with
    | nil => exact Nat.le_refl _
    | cons c r =>
      cases r with
      | nil => unfold crlfF; split <;> (try split) <;> simp
      | cons d r =>
        simp only [List.length_cons] at h
        have h1 := ih r (by lia)
        have h2 := ih (d :: r) (by simp only [List.length_cons]; lia)
        simp only [List.length_cons] at h2
        unfold crlfF
        split
        · split <;> (simp only [List.length_cons]; lia)
        · split <;> (simp only [List.length_cons]; lia)
noncomputable def dotS (x : Str) : Str := ⟨(dotF true x.cps.toList).toArray⟩
noncomputable def crlfS (x : Str) : Str := ⟨(crlfF x.cps.toList).toArray⟩
noncomputable def quoteS (x : Str) : Str := dotS (crlfS x)
theorem dotS_len (x : Str) : (dotS x).length ≤ 2 * x.length := by
  have := dotF_len x.cps.toList true
  simpa [dotS, Str.length] using this
theorem crlfS_len (x : Str) : (crlfS x).length ≤ 2 * x.length := by
  have := crlfF_len _ x.cps.toList (Nat.le_refl _)
  simpa [crlfS, Str.length] using this
section
variable {w : World} {A : Around} {s : Shared} {h₀ : Heap} {L : Addr} {m : Str → Option Value} {news : List (Addr × Obj)} {x : Str} {tx tr : Tok} {Q : Value → Shared → Prop}
theorem sub1_K (F : Fr h₀ L s.heap m) (N : News h₀ L s.heap news) (X : (Mine.hd.heap_1 w.params).In h₀) (hx : x.length ≤ 40000)
    (h : ∀ t h' tk, Fr h₀ L h' m → News h₀ L h' news → Q (.str (dotS x) t) { s with heap := h', toks := tk }) :
    wpAny (model PySem.Challenge.rw_uc0007_01.row.prog w) A (call (.builtin "re.Pattern.sub") [.ref 106, .str (Str.ofString "..") tr, .str x tx]) Q NoE s := by
  revert X
  k_fill
  intro X
  have hxl : x.cps.toList.length = x.length := by simp [Str.length]
  have S := spec1 x.cps.toList (by lia)
  have e : (Str.ofString "..").cps.toList = [46, 46] := by decide +kernel
  rw [← e] at S
  refine sub_call S (by decide +kernel) (X _ _ (by k_is)) rfl rfl rfl rfl rfl (X _ _ (by k_is)) rfl (by decide +kernel) (by lia) ?_ F N h
  have := dotF_len x.cps.toList true
  show (dotF (bol x.cps.toList 0) (x.cps.toList.drop 0)).length ≤ 1000000
  rw [show bol x.cps.toList 0 = true from rfl, List.drop_zero]
  lia
theorem sub2_K (F : Fr h₀ L s.heap m) (N : News h₀ L s.heap news) (X : (Mine.hd.heap_1 w.params).In h₀) (hx : x.length ≤ 40000)
    (h : ∀ t h' tk, Fr h₀ L h' m → News h₀ L h' news → Q (.str (crlfS x) t) { s with heap := h', toks := tk }) :
    wpAny (model PySem.Challenge.rw_uc0007_01.row.prog w) A (call (.builtin "re.Pattern.sub") [.ref 111, .str (Str.ofString "\r\n") tr, .str x tx]) Q NoE s := by
  revert X
  k_fill
  intro X
  have hxl : x.cps.toList.length = x.length := by simp [Str.length]
  have S := spec2 x.cps.toList (by lia)
  have e : (Str.ofString "\r\n").cps.toList = [13, 10] := by decide +kernel
  rw [← e] at S
  refine sub_call S (by decide +kernel) (X _ _ (by k_is)) rfl rfl rfl rfl rfl (X _ _ (by k_is)) rfl (by decide +kernel) (by lia) ?_ F N h
  have := crlfF_len _ x.cps.toList (Nat.le_refl _)
  show (crlfF (x.cps.toList.drop 0)).length ≤ 1000000
  rw [List.drop_zero]
  lia
theorem pat_method {M : Model} {K : Frag} {p : Addr} {fs : Array Value} {sl : Array (Option Value)} {pl : Sem Bool} {Q : Value × List Value → Shared → Prop} {E : Value → Shared → Prop} (F : Fr h₀ L s.heap m) (X : K.In h₀) (hl : K.lookup p = some ⟨.type "re.Pattern", none, .fields fs, sl⟩)
    (h : Q (.builtin "re.Pattern.sub", [.ref p]) s) : wpAny M A (getMethod (.ref p) "sub" pl) Q E s :=
  getMethod_builtin ⟨_, F.keep _ _ (X _ _ hl), rfl⟩ plainAttrs_pat slot_pat_sub type_pat_sub (fun a e => by cases e; exact ⟨_, F.keep _ _ (X _ _ hl), rfl⟩) h
end
local macro_rules | `(tactic| walk_at "getMethod ref") => `(tactic| walk_at "mine stop")
local macro_rules | `(tactic| walk_at "call builtin:re.Pattern.sub") => `(tactic| walk_at "mine stop")
theorem quote_c {w : World} {news} (x : Str) (t1 : Tok) (hx : x.length ≤ 10000) :
   Ct w 2 118 [.str x t1] news (fun v n => (∃ t, v = .str (quoteS x) t) ∧ n = news) := by
  unfold Ct
  k_fill
  intros
  rename_i hret
  have hx2 : (crlfS x).length ≤ 40000 := by have := crlfS_len x; lia
  refine wpAny_call ?_
  k_dflt cell_enter
  refine noE ?_
  (k_steps; (repeat' (unfold HandC; (first | ((with_reducible show wpAny _ _ (getMethod _ _ _) _ _ _); k_dflt (refine' pat_method (by k_asm) (by k_asm) (by k_is) ?_)) | k_dflt ((first | refine sub1_K (by k_asm) (by k_asm) (by k_asm) (by first | assumption | lia) ?_ | refine sub2_K (by k_asm) (by k_asm) (by k_asm) (by first | assumption | lia) ?_); intros)); k_steps)); (all_goals (try k_data)))
  exact hret _ _ _ _ ⟨⟨_, rfl⟩, rfl⟩ (by assumption) (by assumption)
end
section
local macro_rules | `(tactic| walk_at "call builtin:list.pop") => `(tactic| walk_at "mine stop")
theorem read_c {w : World} (a : LX) (ok : a.Ok) (line : Int) (tl : Tok) (pbv : List Value) (pe : Nat) (v : Str) (t : Tok) (sgv : List Value) (se : Nat) (hs : sgv.length ≤ 100000) (rest : List (Addr × Obj)) (offA : ∀ b ∈ a.addrs, ∀ q ∈ rest, b ≠ q.1) :
   CtC w 4 80 [.ref a.lx] (a.led w.params line tl pbv pe (.str v t :: sgv) se ++ rest) (fun u n => u = .str v t ∧ ∃ tl' se', n = a.led w.params (if v == "\n" then line + 1 else line) tl' pbv pe sgv se' ++ rest) := by
  have off := LX.off (P := w.params) (line := line) (tl := tl) (pbv := pbv) (pe := pe) (sgv := .str v t :: sgv) (se := se) offA
  have hod := ok.od
  have hco := ok.co
  obtain ⟨ocv, oct, hoc, hoc1⟩ := ok.oc
  have hdx := ok.dxLt
  have hsg := ok.sgLt
  have o1 := ok.o1
  have o6 := ok.o6
  have c1 := ok.c1
  have c2 := ok.c2
  unfold CtC
  k_fill
  intros
  rename_i hret
  clear offA
  (k_dflt (refine' code_defR ?k1x226 ?k2x226 ?k3x226 ?k4x226 ?kOx226 ?k5x226 ?kAx226 ?kFx226 ?kKx226 ?k6x226 ?k7x226 ?k8x226 ?k9x226 ?kBx226 ?_ ?c2x226 ?c3x226 ?c4x226 ?c5x226; (case kAx226 => exact rfl); (case kFx226 => exact rfl); (case kKx226 => assumption); (case k1x226 => k_asm); (case k2x226 => k_asm); (case k3x226 => k_asm); (case k4x226 => k_asm); (case kOx226 => first | assumption | exact List.forall_mem_nil _); (case k5x226 => k_asm); (case k6x226 => k_is); (case k7x226 => k_is); (case k8x226 => ktr_room); (case k9x226 => first | exact BindsTo.of_eq (binds := [(_, _)]) rfl | exact BindsTo.of_eq (binds := [(_, _), (_, _)]) rfl | exact BindsTo.of_eq (binds := [(_, _), (_, _), (_, _)]) rfl | exact BindsTo.of_eq (binds := [(_, _), (_, _), (_, _), (_, _)]) rfl | exact BindsTo.of_eq rfl); (case c5x226 => decide); (case kBx226 => exact locs rfl); (case c2x226 => exact rfl); (case c3x226 => exact rfl); (case c4x226 => exact rfl); walk_at "mine eR"))
  have codeHd : CodeHd _ 124 120 := codeHd_of_K (c := 124) (P := 120) (by assumption) (by kernel_rfl)
  refine noE ?_
  (k_steps; (repeat' (unfold HandC; (k_dflt (refine' pop0 (by k_asm) (by k_asm) (by rfl) (by k_upd) (by first | assumption | lia) ?_; k_whole; intros)); k_steps)); (all_goals (try k_data)))
  (k_dflt (refine' wpAny_call (kla_code ?k1x264 ?k2x264 ?k3x264 ?k4x264 ?k5x264 ?kAx264 ?kFx264 ?kKx264 ?k6x264 ?k7x264 ?k8x264 ?k9x264 ?kBx264 ?_ ?c2x264 ?c3x264 ?c4x264 ?c5x264); (case kAx264 => exact rfl); (case kFx264 => exact rfl); (case kKx264 => first | assumption | exact rfl); (case k1x264 => k_asm); (case k2x264 => k_asm); (case k3x264 => k_asm); (case k4x264 => k_asm); (case k5x264 => k_asm); (case k6x264 => k_mem); (case k7x264 => exact codeRec_news (by k_asm) (by k_mem) (by assumption) (by assumption)); (case k8x264 => ktr_room); (case k9x264 => exact rfl); (case c5x264 => decide); (case kBx264 => exact locs rfl); (case c2x264 => exact rfl); (case c3x264 => exact rfl); (case c4x264 => exact rfl); walk_at "mine eD"))
  refine noE ?_
  (k_steps; (repeat' (unfold HandC; (k_dflt (refine' pop0 (by k_asm) (by k_asm) (by rfl) (by k_upd) (by first | assumption | lia) ?_; k_whole; intros)); k_steps)); (all_goals (try k_data)))
  refine wpAny_truthy_list (items := ⟨.str v t :: sgv⟩) (News.isList (by assumption) (by k_mem)) (sz_list hs) ?_
  refine ite_tt rfl ?_
  (k_steps; (repeat' (unfold HandC; (k_dflt (refine' pop0 (by k_asm) (by k_asm) (by rfl) (by k_upd) (by first | assumption | lia) ?_; k_whole; intros)); k_steps)); (all_goals (try k_data)))
  · rename (_ == _) = true => hb
    rw [if_pos hb] at hret
    exact leaveR_ (by assumption) (by assumption) (by walk_at "mine sub") fun kF kN _ => hret _ _ _ _ ⟨rfl, _, _, rfl⟩ kF kN
  · rename (_ == _) = false => hb
    rw [if_neg (by rw [hb]; decide)] at hret
    exact leaveR_ (by assumption) (by assumption) (by walk_at "mine sub") fun kF kN _ => hret _ _ _ _ ⟨rfl, _, _, rfl⟩ kF kN

theorem read_e {w : World} (a : LX) (ok : a.Ok) (line : Int) (tl : Tok) (pbv : List Value) (pe : Nat) (se : Nat) (rest : List (Addr × Obj)) (offA : ∀ b ∈ a.addrs, ∀ q ∈ rest, b ≠ q.1) :
   CtC w 4 80 [.ref a.lx] (a.led w.params line tl pbv pe [] se ++ rest) (fun u n => (∃ t, u = .str "" t) ∧ n = a.led w.params line tl pbv pe [] se ++ rest) := by
  have off := LX.off (P := w.params) (line := line) (tl := tl) (pbv := pbv) (pe := pe) (sgv := []) (se := se) offA
  have hod := ok.od
  have hco := ok.co
  obtain ⟨ocv, oct, hoc, hoc1⟩ := ok.oc
  have hdx := ok.dxLt
  have hsg := ok.sgLt
  have o1 := ok.o1
  have o6 := ok.o6
  have c1 := ok.c1
  have c2 := ok.c2
  unfold CtC
  k_fill
  intros
  rename_i hret
  clear offA
  (k_dflt (refine' code_defR ?k1x228 ?k2x228 ?k3x228 ?k4x228 ?kOx228 ?k5x228 ?kAx228 ?kFx228 ?kKx228 ?k6x228 ?k7x228 ?k8x228 ?k9x228 ?kBx228 ?_ ?c2x228 ?c3x228 ?c4x228 ?c5x228; (case kAx228 => exact rfl); (case kFx228 => exact rfl); (case kKx228 => assumption); (case k1x228 => k_asm); (case k2x228 => k_asm); (case k3x228 => k_asm); (case k4x228 => k_asm); (case kOx228 => first | assumption | exact List.forall_mem_nil _); (case k5x228 => k_asm); (case k6x228 => k_is); (case k7x228 => k_is); (case k8x228 => ktr_room); (case k9x228 => first | exact BindsTo.of_eq (binds := [(_, _)]) rfl | exact BindsTo.of_eq (binds := [(_, _), (_, _)]) rfl | exact BindsTo.of_eq (binds := [(_, _), (_, _), (_, _)]) rfl | exact BindsTo.of_eq (binds := [(_, _), (_, _), (_, _), (_, _)]) rfl | exact BindsTo.of_eq rfl); (case c5x228 => decide); (case kBx228 => exact locs rfl); (case c2x228 => exact rfl); (case c3x228 => exact rfl); (case c4x228 => exact rfl); walk_at "mine eR"))
  have codeHd : CodeHd _ 124 120 := codeHd_of_K (c := 124) (P := 120) (by assumption) (by kernel_rfl)
  refine noE ?_
  (k_steps; (repeat' (unfold HandC; (k_dflt (refine' pop0 (by k_asm) (by k_asm) (by rfl) (by k_upd) (by first | assumption | lia) ?_; k_whole; intros)); k_steps)); (all_goals (try k_data)))
  (k_dflt (refine' wpAny_call (kla_code ?k1x266 ?k2x266 ?k3x266 ?k4x266 ?k5x266 ?kAx266 ?kFx266 ?kKx266 ?k6x266 ?k7x266 ?k8x266 ?k9x266 ?kBx266 ?_ ?c2x266 ?c3x266 ?c4x266 ?c5x266); (case kAx266 => exact rfl); (case kFx266 => exact rfl); (case kKx266 => first | assumption | exact rfl); (case k1x266 => k_asm); (case k2x266 => k_asm); (case k3x266 => k_asm); (case k4x266 => k_asm); (case k5x266 => k_asm); (case k6x266 => k_mem); (case k7x266 => exact codeRec_news (by k_asm) (by k_mem) (by assumption) (by assumption)); (case k8x266 => ktr_room); (case k9x266 => exact rfl); (case c5x266 => decide); (case kBx266 => exact locs rfl); (case c2x266 => exact rfl); (case c3x266 => exact rfl); (case c4x266 => exact rfl); walk_at "mine eD"))
  refine noE ?_
  (k_steps; (repeat' (unfold HandC; (k_dflt (refine' pop0 (by k_asm) (by k_asm) (by rfl) (by k_upd) (by first | assumption | lia) ?_; k_whole; intros)); k_steps)); (all_goals (try k_data)))
  refine wpAny_truthy_list (items := ⟨[]⟩) (News.isList (by assumption) (by k_mem)) (by decide) ?_
  refine ite_ff (by decide) ?_
  (k_steps; (repeat' (unfold HandC; (k_dflt (refine' pop0 (by k_asm) (by k_asm) (by rfl) (by k_upd) (by first | assumption | lia) ?_; k_whole; intros)); k_steps)); (all_goals (try k_data)))
  exact leaveR_ (by assumption) (by assumption) (by walk_at "mine sub") fun kF kN _ => hret _ _ _ _ ⟨⟨_, rfl⟩, rfl⟩ kF kN
end
section
theorem fn80 (P : Params) : ∃ o fd, (Mine.hd.heap_1 P).lookup 80 = some o ∧ o.data = .func fd := ⟨_, _, rfl, rfl⟩
noncomputable def citLed (it mth lx : Addr) (io : Obj) : List (Addr × Obj) := [(it, io), (mth, methodObj (.ref 80) (.ref lx))]
section
variable {w : World} {p : Program} {loose : List Str} {mean : ExcName → Option Value} {mg mb : Str → Option Value} {dp un : Nat} {gd : Option (List Code)} {cn : Str} {cs : Scope} {fa : Addr} {ccd : Value} {cl : List (Str × Addr)} {outer : List Env} {A₀ : Around} {base h₀ : Heap} {L : Addr} {m : Str → Option Value} {s : Shared} {Q : Option Value → Shared → Prop}
theorem cit_cons {a : LX} (ok : a.Ok) {line : Int} {tl tt : Tok} {pbv : List Value} {pe : Nat} {v : Str} {t : Tok} {sgv : List Value} {se : Nat} {it mth : Addr} (hs : sgv.length ≤ 100000) (hv : v ≠ "") (ap : ∀ b ∈ a.addrs, b ≠ it ∧ b ≠ mth)
    (B : Below A₀ base outer h₀) (F : Fr h₀ L s.heap m) (X : (Mine.hd.heap_1 w.params).In h₀) (N : News h₀ L s.heap (a.led w.params line tl pbv pe (.str v t :: sgv) se ++ citLed it mth a.lx (citO mth tt))) (T : Top p loose mean mg mb h₀) (hk : cs.kind = .function) (hd : dp + 4 < recursionLimit) (hu : un + 40 < cLine)
    (k : ∀ tl' se' h' tk', Fr h₀ L h' m → News h₀ L h' (a.led w.params (if v == "\n" then line + 1 else line) tl' pbv pe sgv se' ++ citLed it mth a.lx (citO mth tt)) → Q (some (.str v t)) { s with heap := h', toks := tk' }) :
    wpAny (model PySem.Challenge.rw_uc0007_01.row.prog w) (ktrTop dp un gd cn cs L fa ccd cl outer) (pyNext (.ref it)) Q NoE s := by
  obtain ⟨o, fd, ho, hfd⟩ := fn80 w.params
  have hit := (N (it, citO mth tt) (by simp [citLed])).1
  have hm := (N (mth, methodObj (.ref 80) (.ref a.lx)) (by simp [citLed])).1
  refine pyNext_cit rfl hit hm ((X.keeps F.keep) _ _ ho) hfd ?_
  have c := read_c (w := w) a ok line tl pbv pe v t sgv se hs (citLed it mth a.lx (citO mth tt)) (fun b hb q hq => by
    have := ap b hb
    simp only [citLed, List.mem_cons, List.not_mem_nil, or_false] at hq
    rcases hq with rfl | rfl
    · exact this.1
    · exact this.2)
  refine codeAny_mono (c p loose mean mg mb dp (un + 1) gd cn cs fa ccd cl outer A₀ base h₀ L m s (fun u s' => ∃ h' tk' tl' se', s' = { s with heap := h', toks := tk' } ∧ u = .str v t ∧ Fr h₀ L h' m ∧ News h₀ L h' (a.led w.params (if v == "\n" then line + 1 else line) tl' pbv pe sgv se' ++ citLed it mth a.lx (citO mth tt))) B F X N T hk hd (by lia) ?_) ?_
  · rintro u n h' tk' ⟨rfl, tl', se', rfl⟩ F' N'
    exact ⟨h', tk', tl', se', rfl, rfl, F', N'⟩
  · intro r s' hr
    rcases r with e | (u | _ | _ | _) <;> try exact hr.elim
    obtain ⟨h', tk', tl', se', rfl, rfl, F', N'⟩ := hr
    exact ⟨(N' (it, citO mth tt) (by simp [citLed])).1, (N' (mth, methodObj (.ref 80) (.ref a.lx)) (by simp [citLed])).1, (X.keeps F'.keep) _ _ ho, _, _, rfl, .inl ⟨hv, k _ _ _ _ F' N'⟩⟩
theorem cit_nil {a : LX} (ok : a.Ok) {line : Int} {tl tt : Tok} {pbv : List Value} {pe : Nat} {se : Nat} {it mth : Addr} (ap : ∀ b ∈ a.addrs, b ≠ it ∧ b ≠ mth) (hne : mth ≠ it)
    (B : Below A₀ base outer h₀) (F : Fr h₀ L s.heap m) (X : (Mine.hd.heap_1 w.params).In h₀) (N : News h₀ L s.heap (a.led w.params line tl pbv pe [] se ++ citLed it mth a.lx (citO mth tt))) (T : Top p loose mean mg mb h₀) (hk : cs.kind = .function) (hd : dp + 4 < recursionLimit) (hu : un + 40 < cLine)
    (k : ∀ h' tk', Fr h₀ L h' m → News h₀ L h' (a.led w.params line tl pbv pe [] se ++ citLed it mth a.lx citEnd) → Q none { s with heap := h', toks := tk' }) :
    wpAny (model PySem.Challenge.rw_uc0007_01.row.prog w) (ktrTop dp un gd cn cs L fa ccd cl outer) (pyNext (.ref it)) Q NoE s := by
  obtain ⟨o, fd, ho, hfd⟩ := fn80 w.params
  have hit := N (it, citO mth tt) (by simp [citLed])
  have hm := (N (mth, methodObj (.ref 80) (.ref a.lx)) (by simp [citLed])).1
  refine pyNext_cit rfl hit.1 hm ((X.keeps F.keep) _ _ ho) hfd ?_
  have c := read_e (w := w) a ok line tl pbv pe se (citLed it mth a.lx (citO mth tt)) (fun b hb q hq => by
    have := ap b hb
    simp only [citLed, List.mem_cons, List.not_mem_nil, or_false] at hq
    rcases hq with rfl | rfl
    · exact this.1
    · exact this.2)
  refine codeAny_mono (c p loose mean mg mb dp (un + 1) gd cn cs fa ccd cl outer A₀ base h₀ L m s (fun u s' => ∃ h' tk', s' = { s with heap := h', toks := tk' } ∧ (∃ t, u = .str "" t) ∧ Fr h₀ L h' m ∧ News h₀ L h' (a.led w.params line tl pbv pe [] se ++ citLed it mth a.lx (citO mth tt))) B F X N T hk hd (by lia) ?_) ?_
  · rintro u n h' tk' ⟨ht, rfl⟩ F' N'
    exact ⟨h', tk', rfl, ht, F', N'⟩
  · intro r s' hr
    rcases r with e | (u | _ | _ | _) <;> try exact hr.elim
    obtain ⟨h', tk', rfl, ⟨t, rfl⟩, F', N'⟩ := hr
    refine ⟨(N' (it, citO mth tt) (by simp [citLed])).1, (N' (mth, methodObj (.ref 80) (.ref a.lx)) (by simp [citLed])).1, (X.keeps F'.keep) _ _ ho, _, _, rfl, .inr ⟨rfl, fun h₂ eb e => ?_⟩⟩
    refine k h₂ _ ⟨F'.ns.extBut eb (Ne.symm hit.2.1), fun b ob e' => eb b ob (fun q => by rw [q, hit.2.2] at e'; cases e') (F'.keep b ob e'), F'.above⟩ fun q hq => ?_
    rcases List.mem_append.mp hq with hq | hq
    · have n := N' q (List.mem_append_left _ hq)
      exact ⟨eb _ _ (ap _ (LX.mem hq)).1 n.1, n.2⟩
    · simp only [citLed, List.mem_cons, List.not_mem_nil, or_false] at hq
      rcases hq with rfl | rfl
      · exact ⟨e, hit.2⟩
      · have n := N' (mth, methodObj (.ref 80) (.ref a.lx)) (by simp [citLed])
        exact ⟨eb _ _ hne n.1, n.2⟩
theorem cit_end {a : LX} {line : Int} {tl : Tok} {pbv sgv : List Value} {pe : Nat} {se : Nat} {it mth : Addr} (ap : ∀ b ∈ a.addrs, b ≠ it ∧ b ≠ mth) (hne : mth ≠ it)
    (F : Fr h₀ L s.heap m) (N : News h₀ L s.heap (a.led w.params line tl pbv pe sgv se ++ citLed it mth a.lx citEnd))
    (k : ∀ h' tk', Fr h₀ L h' m → News h₀ L h' (a.led w.params line tl pbv pe sgv se ++ citLed it mth a.lx citEnd) → Q none { s with heap := h', toks := tk' }) :
    wpAny (model PySem.Challenge.rw_uc0007_01.row.prog w) (ktrTop dp un gd cn cs L fa ccd cl outer) (pyNext (.ref it)) Q NoE s := by
  have hit := N (it, citEnd) (by simp [citLed])
  refine pyNext_citEnd rfl hit.1 fun h₂ eb e => ?_
  refine k h₂ _ ⟨F.ns.extBut eb (Ne.symm hit.2.1), fun b ob e' => eb b ob (fun q => by rw [q, hit.2.2] at e'; cases e') (F.keep b ob e'), F.above⟩ fun q hq => ?_
  rcases List.mem_append.mp hq with hq | hq
  · have n := N q (List.mem_append_left _ hq)
    exact ⟨eb _ _ (ap _ (LX.mem hq)).1 n.1, n.2⟩
  · simp only [citLed, List.mem_cons, List.not_mem_nil, or_false] at hq
    rcases hq with rfl | rfl
    · exact ⟨e, hit.2⟩
    · have n := N (mth, methodObj (.ref 80) (.ref a.lx)) (by simp [citLed])
      exact ⟨eb _ _ hne n.1, n.2⟩
end
end
section
noncomputable def isIn (y x : Str) : Bool := !(Builtin.Str.occurrences x y 0 x.length 1).isEmpty
noncomputable def wsS : Str := "\n\t\r "
noncomputable def wordF : List Str → Str → Str × List Str
  | [], tok => (tok, [])
  | ch :: r, tok => if isIn ch wsS then (tok, r) else if ch == "\\" then (match r with
      | [] => (tok ++ "", [])
      | c2 :: r' => wordF r' (tok ++ c2)) else wordF r (tok ++ ch)
noncomputable def quoteF : List Str → Str → Str × List Str
  | [], tok => (tok, [])
  | ch :: r, tok => if ch == "\"" then (tok, r) else if ch == "\\" then (match r with
      | [] => (tok ++ "", [])
      | c2 :: r' => quoteF r' (tok ++ c2)) else quoteF r (tok ++ ch)
noncomputable def tokF : List Str → Str × List Str
  | [] => ("", [])
  | ch :: r => if isIn ch wsS then tokF r else if ch == "\"" then quoteF r "" else if ch == "\\" then (match r with
      | [] => ("" ++ "", [])
      | c2 :: r' => wordF r' ("" ++ c2)) else wordF r ("" ++ ch)
noncomputable def cntNl : List Str → Int
  | [] => 0
  | x :: r => (if x == "\n" then 1 else 0) + cntNl r
theorem cnt_step {l T : Int} {v : Str} {r : List Str} (h : l + cntNl (v :: r) = T) : (if v == "\n" then l + 1 else l) + cntNl r = T := by
  simp only [cntNl] at h
  split <;> rename_i e
  · rw [if_pos e] at h; lia
  · rw [if_neg e] at h; lia
theorem len_ne {v : Str} (h : v.length = 1) : v ≠ "" := by
  intro e; subst e; revert h; decide
theorem tok_ws {v : Str} {r : List Str} (h : isIn v "\n\t\r " = true) : tokF (v :: r) = tokF r := by
  rw [tokF.eq_def]; dsimp only; rw [if_pos (show isIn v wsS = true from h)]
theorem tok_q {v : Str} {r : List Str} (h : isIn v "\n\t\r " = false) (h2 : (v == "\"") = true) : tokF (v :: r) = quoteF r "" := by
  rw [tokF.eq_def]; dsimp only; rw [if_neg (show ¬ isIn v wsS = true from by rw [show isIn v wsS = false from h]; decide), if_pos h2]
theorem tok_w {v : Str} {r : List Str} (h : isIn v "\n\t\r " = false) (h2 : (v == "\"") = false) (h3 : (v == "\\") = false) : tokF (v :: r) = wordF r (("" : Str) ++ v) := by
  rw [tokF.eq_def]; dsimp only; rw [if_neg (show ¬ isIn v wsS = true from by rw [show isIn v wsS = false from h]; decide), if_neg (by rw [h2]; decide), if_neg (by rw [h3]; decide)]
theorem tok_b {v c2 : Str} {r : List Str} (h : isIn v "\n\t\r " = false) (h2 : (v == "\"") = false) (h3 : (v == "\\") = true) : tokF (v :: c2 :: r) = wordF r ("" ++ c2) := by
  rw [tokF.eq_def]; dsimp only; rw [if_neg (show ¬ isIn v wsS = true from by rw [show isIn v wsS = false from h]; decide), if_neg (by rw [h2]; decide), if_pos h3]
theorem tok_b0 {v : Str} (h : isIn v "\n\t\r " = false) (h2 : (v == "\"") = false) (h3 : (v == "\\") = true) : tokF [v] = (("" : Str) ++ "", []) := by
  rw [tokF.eq_def]; dsimp only; rw [if_neg (show ¬ isIn v wsS = true from by rw [show isIn v wsS = false from h]; decide), if_neg (by rw [h2]; decide), if_pos h3]
theorem word_ws {v tk : Str} {r : List Str} (h : isIn v "\n\t\r " = true) : wordF (v :: r) tk = (tk, r) := by
  rw [wordF.eq_def]; dsimp only; rw [if_pos (show isIn v wsS = true from h)]
theorem word_w {v tk : Str} {r : List Str} (h : isIn v "\n\t\r " = false) (h3 : (v == "\\") = false) : wordF (v :: r) tk = wordF r (tk ++ v) := by
  rw [wordF.eq_def]; dsimp only; rw [if_neg (show ¬ isIn v wsS = true from by rw [show isIn v wsS = false from h]; decide), if_neg (by rw [h3]; decide)]
theorem word_b {v c2 tk : Str} {r : List Str} (h : isIn v "\n\t\r " = false) (h3 : (v == "\\") = true) : wordF (v :: c2 :: r) tk = wordF r (tk ++ c2) := by
  rw [wordF.eq_def]; dsimp only; rw [if_neg (show ¬ isIn v wsS = true from by rw [show isIn v wsS = false from h]; decide), if_pos h3]
theorem word_b0 {v tk : Str} (h : isIn v "\n\t\r " = false) (h3 : (v == "\\") = true) : wordF [v] tk = (tk ++ "", []) := by
  rw [wordF.eq_def]; dsimp only; rw [if_neg (show ¬ isIn v wsS = true from by rw [show isIn v wsS = false from h]; decide), if_pos h3]
theorem quote_e {v tk : Str} {r : List Str} (h : (v == "\"") = true) : quoteF (v :: r) tk = (tk, r) := by
  rw [quoteF.eq_def]; dsimp only; rw [if_pos h]
theorem quote_w {v tk : Str} {r : List Str} (h : (v == "\"") = false) (h3 : (v == "\\") = false) : quoteF (v :: r) tk = quoteF r (tk ++ v) := by
  rw [quoteF.eq_def]; dsimp only; rw [if_neg (by rw [h]; decide), if_neg (by rw [h3]; decide)]
theorem quote_b {v c2 tk : Str} {r : List Str} (h : (v == "\"") = false) (h3 : (v == "\\") = true) : quoteF (v :: c2 :: r) tk = quoteF r (tk ++ c2) := by
  rw [quoteF.eq_def]; dsimp only; rw [if_neg (by rw [h]; decide), if_pos h3]
theorem quote_b0 {v tk : Str} (h : (v == "\"") = false) (h3 : (v == "\\") = true) : quoteF [v] tk = (tk ++ "", []) := by
  rw [quoteF.eq_def]; dsimp only; rw [if_neg (by rw [h]; decide), if_pos h3]
theorem tok_h {v : Str} {r : List Str} (h : isIn v "\n\t\r " = false) (h2 : (v == "\"") = false) (h3 : (v == "\\") = true) : tokF (v :: r) = wordF r.tail ("" ++ r.headD "") := by
  cases r with
  | nil => rw [tok_b0 h h2 h3]; rfl
  | cons c r => rw [tok_b h h2 h3]; rfl
theorem word_h {v tk : Str} {r : List Str} (h : isIn v "\n\t\r " = false) (h3 : (v == "\\") = true) : wordF (v :: r) tk = wordF r.tail (tk ++ r.headD "") := by
  cases r with
  | nil => rw [word_b0 h h3]; rfl
  | cons c r => rw [word_b h h3]; rfl
theorem quote_h {v tk : Str} {r : List Str} (h : (v == "\"") = false) (h3 : (v == "\\") = true) : quoteF (v :: r) tk = quoteF r.tail (tk ++ r.headD "") := by
  cases r with
  | nil => rw [quote_b0 h h3]; rfl
  | cons c r => rw [quote_b h h3]; rfl
theorem len_app (x y : Str) : (x ++ y).length = x.length + y.length := by
  show (x.cps ++ y.cps).size = x.cps.size + y.cps.size
  exact Array.size_append
theorem citOff {a : LX} {it mth : Addr} {io : Obj} (ap : ∀ b ∈ a.addrs, b ≠ it ∧ b ≠ mth) : ∀ b ∈ a.addrs, ∀ q ∈ citLed it mth a.lx io, b ≠ q.1 := fun b hb q hq => by
  have := ap b hb
  simp only [citLed, List.mem_cons, List.not_mem_nil, or_false] at hq
  rcases hq with rfl | rfl
  · exact this.1
  · exact this.2
theorem in_isIn {prog : Program} {w : World} {A : Around} {E : Value → Shared → Prop} {s : Shared} {x y : Str} {t u : Tok} {Q : Value → Shared → Prop} (h : Q (.bool (isIn y x)) s) : wpAny (model prog w) A (compareOp .In (.str y u) (.str x t)) Q E s := in_str h
theorem notIn_isIn {prog : Program} {w : World} {A : Around} {E : Value → Shared → Prop} {s : Shared} {x y : Str} {t u : Tok} {Q : Value → Shared → Prop} (h : Q (.bool (!(isIn y x))) s) : wpAny (model prog w) A (compareOp .NotIn (.str y u) (.str x t)) Q E s := notIn_str h
-- what reading one sign leaves
inductive ReadP (a : LX) (P : Params) (pe : Nat) (xs : List Str) (T : Int) (rest : List (Addr × Obj)) : Value → List (Addr × Obj) → Prop
  | mk (t : Tok) (line : Int) (tl : Tok) (sgv : List Value) (se : Nat) (hx : StrsAre sgv xs.tail) (hl : line + cntNl xs.tail = T) : ReadP a P pe xs T rest (.str (xs.headD "") t) (a.led P line tl [] pe sgv se ++ rest)
theorem read_x {w : World} (a : LX) (ok : a.Ok) {line : Int} {tl : Tok} {pe : Nat} {sgv : List Value} {se : Nat} {xs : List Str} {T : Int} (hx : StrsAre sgv xs) (hz : xs.length ≤ 100001) (hl : line + cntNl xs = T) {rest : List (Addr × Obj)} (offA : ∀ b ∈ a.addrs, ∀ q ∈ rest, b ≠ q.1) :
    Ct w 4 80 [.ref a.lx] (a.led w.params line tl [] pe sgv se ++ rest) (ReadP a w.params pe xs T rest) := by
  cases hx with
  | nil =>
    exact (CtC.ct (read_e a ok line tl [] pe se rest offA)).mono fun u n h => by
      obtain ⟨⟨t, rfl⟩, rfl⟩ := h
      exact .mk t line tl [] se .nil hl
  | @cons v tv sg xr h =>
    have := h.len_eq
    exact (CtC.ct (read_c a ok line tl [] pe v tv sg se (by simp at hz; lia) rest offA)).mono fun u n h' => by
      obtain ⟨rfl, tl', se', rfl⟩ := h'
      exact .mk tv _ tl' sg se' h (cnt_step hl)
end
local macro_rules | `(tactic| walk_at "compareOp NotIn str str") => `(tactic| (k_here; k_dflt (refine notIn_isIn ?_)))
local macro_rules | `(tactic| walk_at "compareOp In str str") => `(tactic| (k_here; k_dflt (refine in_isIn ?_)))
section
end
section
local macro_rules | `(tactic| walk_at "exec For Name Name cons nil") => `(tactic| walk_at "mine forC")
local macro_rules | `(tactic| walk_at "call builtin:iter") => `(tactic| walk_at "mine stop")
-- the outer loop of get_token: signs ys are left, or the word is read
inductive TokK (a : LX) (P : Params) (pe : Nat) (it mth : Addr) (xs : List Str) (T : Int) : Nat → List (Option Value) → List (Addr × Obj) → Prop
  | run (ov : Option Value) (t : Tok) (line : Int) (tl : Tok) (sgv : List Value) (se : Nat) (ys : List Str) (tt : Tok) (hz : ys.length ≤ 100000) (hx : StrsAre sgv ys) (h1 : ∀ x ∈ ys, x.length = 1) (htok : tokF ys = tokF xs) (hln : line + cntNl ys = T) : TokK a P pe it mth xs T (ys.length + 1) [ov, some (.str "" t)] (a.led P line tl [] pe sgv se ++ citLed it mth a.lx (citO mth tt))
  | stop (ov : Option Value) (tk : Str) (t : Tok) (line : Int) (tl : Tok) (se : Nat) (htok : tokF xs = (tk, [])) (hln : line = T) : TokK a P pe it mth xs T 0 [ov, some (.str tk t)] (a.led P line tl [] pe [] se ++ citLed it mth a.lx citEnd)
-- an inner loop, that reads on as G says
inductive RunK (G : List Str → Str → Str × List Str) (a : LX) (P : Params) (pe : Nat) (it mth : Addr) (xs : List Str) (T : Int) : Nat → List (Option Value) → List (Addr × Obj) → Prop
  | mk (ov : Option Value) (tk : Str) (t : Tok) (line : Int) (tl : Tok) (sgv : List Value) (se : Nat) (ys : List Str) (tt : Tok) (hz : tk.length + ys.length ≤ 100000) (hx : StrsAre sgv ys) (h1 : ∀ x ∈ ys, x.length = 1) (htok : G ys tk = tokF xs) (hln : line + cntNl ys = T) : RunK G a P pe it mth xs T (ys.length + 1) [ov, some (.str tk t)] (a.led P line tl [] pe sgv se ++ citLed it mth a.lx (citO mth tt))
-- a sign c is at hand, to be added to tk
inductive MidK (G : List Str → Str → Str × List Str) (a : LX) (P : Params) (pe : Nat) (it mth : Addr) (tt : Tok) (xs : List Str) (T : Int) (tk : Str) (n : Nat) : List (Option Value) → List (Addr × Obj) → Prop
  | mk (c : Str) (t : Tok) (line : Int) (tl : Tok) (sgv : List Value) (se : Nat) (ys : List Str) (hn : ys.length ≤ n) (hc : c.length ≤ 1) (hx : StrsAre sgv ys) (h1 : ∀ x ∈ ys, x.length = 1) (htok : G ys (tk ++ c) = tokF xs) (hln : line + cntNl ys = T) : MidK G a P pe it mth tt xs T tk n [some (.str c t)] (a.led P line tl [] pe sgv se ++ citLed it mth a.lx (citO mth tt))
inductive TokP (a : LX) (P : Params) (pe : Nat) (xs : List Str) (T : Int) (rest : List (Addr × Obj)) : Value → List (Addr × Obj) → Prop
  | mk (t : Tok) (line : Int) (tl : Tok) (sgv : List Value) (se : Nat) (hx : StrsAre sgv (tokF xs).2) (hl : line + cntNl (tokF xs).2 = T) : TokP a P pe xs T rest (.str (tokF xs).1 t) (a.led P line tl [] pe sgv se ++ rest)
theorem TokP.of {a : LX} {P : Params} {pe : Nat} {xs : List Str} {T : Int} {rest : List (Addr × Obj)} {tk : Str} {ys : List Str} (e : tokF xs = (tk, ys)) {t : Tok} {line : Int} {tl : Tok} {sgv : List Value} {se : Nat} (hx : StrsAre sgv ys) (hl : line + cntNl ys = T) : TokP a P pe xs T rest (.str tk t) (a.led P line tl [] pe sgv se ++ rest) := by
  have h := TokP.mk (a := a) (P := P) (pe := pe) (xs := xs) (T := T) (rest := rest) t line tl sgv se (by rw [e]; exact hx) (by rw [e]; exact hl)
  rw [e] at h
  exact h
theorem hd_len {ys : List Str} (h : ∀ x ∈ ys, x.length = 1) : (ys.headD "").length ≤ 1 := by
  cases ys with
  | nil => decide
  | cons c r => exact Nat.le_of_eq (h c (.head _))
theorem tl_one {ys : List Str} (h : ∀ x ∈ ys, x.length = 1) : ∀ x ∈ ys.tail, x.length = 1 := fun x hx => h x (List.mem_of_mem_tail hx)
theorem tl_len {ys : List Str} : ys.tail.length ≤ ys.length := by rw [List.length_tail]; exact Nat.sub_le ..
theorem sg_len {sgv : List Value} {ys : List Str} {n : Nat} (h : StrsAre sgv ys) (e : ys.length ≤ n) : sgv.length ≤ n := by rw [h.len_eq]; exact e
theorem tok_room {tk c : Str} {n m : Nat} (h : tk.length + (n + 1) ≤ 100000) (hc : c.length ≤ 1) (hm : m ≤ n) : (tk ++ c).length + m ≤ 100000 := by rw [len_app]; lia
theorem sub_back {x y : Addr × Obj} {A : List (Addr × Obj)} : ∀ p ∈ A ++ [x, y], p ∈ x :: y :: A := fun p h => by
  rcases List.mem_append.mp h with h | h
  · exact .tail _ (.tail _ h)
  · cases h with
    | head => exact .head _
    | tail _ h => cases h with
      | head => exact .tail _ (.head _)
      | tail _ h => cases h
theorem ln0 {line T : Int} (h : line + cntNl [] = T) : line = T := (Int.add_zero line).symm.trans h
theorem ln1 {line T : Int} (h : line = T) : line + cntNl [] = T := (Int.add_zero line).trans h
theorem len0 {n m : Nat} (h : n ≤ m) : (Str.ofString "").length + n ≤ m := by rw [show (Str.ofString "").length = 0 from rfl, Nat.zero_add]; exact h
theorem token_c {w : World} (a : LX) (ok : a.Ok) (line : Int) (tl : Tok) (pe : Nat) (xs : List Str) (sgv : List Value) (se : Nat) (hs : xs.length ≤ 100000) (hx : StrsAre sgv xs) (h1 : ∀ x ∈ xs, x.length = 1) (rest : List (Addr × Obj)) (offA : ∀ b ∈ a.addrs, ∀ q ∈ rest, b ≠ q.1) :
   Ct w 8 87 [.ref a.lx] (a.led w.params line tl [] pe sgv se ++ rest) (TokP a w.params pe xs (line + cntNl xs) rest) := by
  have off := LX.off (P := w.params) (line := line) (tl := tl) (pbv := []) (pe := pe) (sgv := sgv) (se := se) offA
  unfold Ct
  k_fill
  intros
  rename_i hret
  refine wpAny_call ?_
  (k_dflt (refine' code_defR ?k1x230 ?k2x230 ?k3x230 ?k4x230 ?kOx230 ?k5x230 ?kAx230 ?kFx230 ?kKx230 ?k6x230 ?k7x230 ?k8x230 ?k9x230 ?kBx230 ?_ ?c2x230 ?c3x230 ?c4x230 ?c5x230; (case kAx230 => exact rfl); (case kFx230 => exact rfl); (case kKx230 => assumption); (case k1x230 => k_asm); (case k2x230 => k_asm); (case k3x230 => k_asm); (case k4x230 => k_asm); (case kOx230 => first | assumption | exact List.forall_mem_nil _); (case k5x230 => k_asm); (case k6x230 => k_is); (case k7x230 => k_is); (case k8x230 => ktr_room); (case k9x230 => first | exact BindsTo.of_eq (binds := [(_, _)]) rfl | exact BindsTo.of_eq (binds := [(_, _), (_, _)]) rfl | exact BindsTo.of_eq (binds := [(_, _), (_, _), (_, _)]) rfl | exact BindsTo.of_eq (binds := [(_, _), (_, _), (_, _), (_, _)]) rfl | exact BindsTo.of_eq rfl); (case c5x230 => decide); (case kBx230 => exact locs rfl); (case c2x230 => exact rfl); (case c3x230 => exact rfl); (case c4x230 => exact rfl); walk_at "mine eR"))
  clear offA
  refine noE ?_
  (k_steps; (repeat' (unfold HandC; (k_dflt (refine' iter_K (by k_asm) (by k_asm) (by k_mem) ?_; walk_at "mine in")); k_steps)); (all_goals (try k_data)))
  refine pyIter_cit (News.get (by assumption) (.head _)) rfl ?_
  rename News _ _ _ _ => N1
  rename_i mth _ lm it _ hlt _ _ F1
  have hne : mth ≠ it := neA hlt.1
  have ap : ∀ b ∈ a.addrs, b ≠ it ∧ b ≠ mth := fun b hb => by
    obtain ⟨q, hq, rfl⟩ := List.mem_map.mp (show b ∈ (a.led w.params line tl [] pe sgv se).map (·.1) from hb)
    exact ⟨neA (Nat.lt_trans (lm q hq) hlt.1), neA (lm q hq)⟩
  clear hlt lm
  refine LoopC.mk ["ch", "token"] (TokK a w.params pe it mth xs (line + cntNl xs)) (xs.length + 1) F1 (News.sub N1 sub_back) (.run _ _ line tl sgv se xs _ hs hx h1 rfl rfl) ?_
  clear N1 F1
  obtain ⟨line0, e0⟩ : ∃ l, l = line := ⟨_, rfl⟩
  rw [← e0] at hret ⊢
  clear e0 hx h1
  intro k vals n h2 tk2 hK F2 N2
  induction hK with
  | stop ov tk t line tl se htok hln =>
    refine cit_end ap hne F2 N2 ?_
    clear N2
    intro h3 tk3 F3 N3
    change wpAny _ _ _ _ _ _
    (k_steps; (all_goals (try k_data)))
    exact leaveR_ (by assumption) (by assumption) (fun p hp => List.mem_append_left _ hp) fun kF kN _ => hret _ _ _ _ (TokP.of htok .nil (ln1 hln)) kF kN
  | run ov t line tl sgv se ys tt hz hx h1 htok hln =>
  cases hx with
  | nil =>
    refine cit_nil ok ap hne (by assumption) F2 (by assumption) N2 (by assumption) rfl (by (first | (show _ < _; decide) | exact room1 (k := 1) (by assumption) rfl | exact room2 (k := 3) (by assumption) rfl | exact room3 (by assumption) rfl | (simp only [recursionLimit, cLine] at *; lia))) (by (first | (show _ < _; decide) | exact room1 (k := 1) (by assumption) rfl | exact room2 (k := 3) (by assumption) rfl | exact room3 (by assumption) rfl | (simp only [recursionLimit, cLine] at *; lia))) ?_
    clear N2
    intro h3 tk3 F3 N3
    change wpAny _ _ _ _ _ _
    (k_steps; (all_goals (try k_data)))
    exact leaveR_ (by assumption) (by assumption) (fun p hp => List.mem_append_left _ hp) fun kF kN _ => hret _ _ _ _ (TokP.of htok.symm .nil hln) kF kN
  | @cons v tv sg ys hx =>
    have hv1 : v.length = 1 := h1 v (.head _)
    replace h1 : ∀ x ∈ ys, x.length = 1 := fun x hm => h1 x (.tail _ hm)
    refine cit_cons ok (sg_len hx (Nat.le_of_succ_le hz)) (len_ne hv1) ap (by assumption) F2 (by assumption) N2 (by assumption) rfl (by (first | (show _ < _; decide) | exact room1 (k := 1) (by assumption) rfl | exact room2 (k := 3) (by assumption) rfl | exact room3 (by assumption) rfl | (simp only [recursionLimit, cLine] at *; lia))) (by (first | (show _ < _; decide) | exact room1 (k := 1) (by assumption) rfl | exact room2 (k := 3) (by assumption) rfl | exact room3 (by assumption) rfl | (simp only [recursionLimit, cLine] at *; lia))) ?_
    intro tl3 se3 h3 tk3 F3 N3
    refine ⟨h3, tk3, _, _, rfl, F3, N3, fun h4 tk4 F4 N4 => ?_⟩
    intro qE
    clear N2 N3 F2 F3
    have mj := markJ
    (k_steps; (all_goals (try k_data)))
    unfold IfAt
    refine wpAny_If ?_
    (k_steps; (all_goals (try k_data)))
    · rename (isIn _ _) = true => hw
      exact EndC.cont (by assumption) (by assumption) sub_refl ⟨_, Nat.lt_succ_self _, _, .run _ _ _ _ _ _ ys tt (Nat.le_of_succ_le hz) hx h1 ((tok_ws hw).symm.trans htok) (cnt_step hln), by (refine up_off ?mua ?mub; (case mub => exact rfl); (case mua => walk_at "mine off"))⟩
    · have hw : (isIn v "\n\t\r ") = false := by assumption
      unfold IfAt
      refine wpAny_If ?_
      (k_steps; (all_goals (try k_data)))
      · rename (_ == _) = true => hq
        refine pyIter_cit (News.get (by assumption) (List.mem_append_right _ (.head _))) rfl ?_
        refine LoopC.mk ["ch", "token"] (RunK quoteF a w.params pe it mth xs (line0 + cntNl xs)) (ys.length + 1) (by assumption) (by assumption) (.mk _ _ _ _ _ _ _ ys tt (len0 (Nat.le_of_succ_le hz)) hx h1 ((tok_q hw hq).symm.trans htok) (cnt_step hln)) ?_
        rename MarkJ => mj
        clear mj N4 hx h1 htok hln
        try clear hz
        intro k vals n h2 tk2 hK F2 N2
        induction hK with
        | mk ov tk t line tl sgv se ys tt hz hx h1 htok hln =>
        cases hx with
        | nil =>
          refine cit_nil ok ap hne (by assumption) F2 (by assumption) N2 (by assumption) rfl (by (first | (show _ < _; decide) | exact room1 (k := 1) (by assumption) rfl | exact room2 (k := 3) (by assumption) rfl | exact room3 (by assumption) rfl | (simp only [recursionLimit, cLine] at *; lia))) (by (first | (show _ < _; decide) | exact room1 (k := 1) (by assumption) rfl | exact room2 (k := 3) (by assumption) rfl | exact room3 (by assumption) rfl | (simp only [recursionLimit, cLine] at *; lia))) ?_
          clear N2
          intro h3 tk3 F3 N3
          first | change EndC _ _ _ _ _ _ _ | (change wpAny _ _ _ _ _ _; (k_steps; (all_goals (try k_data))))
          exact EndC.next (by assumption) (by assumption) sub_refl ⟨0, Nat.succ_pos _, _, .stop _ _ _ _ _ _ htok.symm (ln0 hln), by (refine up_off ?mua ?mub; (case mub => exact rfl); (case mua => walk_at "mine off"))⟩
        | @cons v tv sg ys hx =>
          have hv1 : v.length = 1 := h1 v (.head _)
          replace h1 : ∀ x ∈ ys, x.length = 1 := fun x hm => h1 x (.tail _ hm)
          refine cit_cons ok (sg_len hx (by simp only [List.length_cons] at hz; lia)) (len_ne hv1) ap (by assumption) F2 (by assumption) N2 (by assumption) rfl (by (first | (show _ < _; decide) | exact room1 (k := 1) (by assumption) rfl | exact room2 (k := 3) (by assumption) rfl | exact room3 (by assumption) rfl | (simp only [recursionLimit, cLine] at *; lia))) (by (first | (show _ < _; decide) | exact room1 (k := 1) (by assumption) rfl | exact room2 (k := 3) (by assumption) rfl | exact room3 (by assumption) rfl | (simp only [recursionLimit, cLine] at *; lia))) ?_
          intro tl3 se3 h3 tk3 F3 N3
          refine ⟨h3, tk3, _, _, rfl, F3, N3, fun h4 tk4 F4 N4 => ?_⟩
          intro qE
          clear N2 N3 F2 F3
          have hzt : tk.length ≤ 99999 := by simp only [List.length_cons] at hz; lia
          have mj := markJ
          (k_steps; (all_goals (try k_data)))
          refine IfAt.joinN ["ch"] (MidK quoteF a w.params pe it mth tt xs (line0 + cntNl xs) tk ys.length) (by assumption) ?_ ?_
          · intro qJ
            rename MarkJ => mj
            clear mj
            (k_steps; (all_goals (try k_data)))
            · rename (_ == _) = true => hb
              exact leaveR_ (by assumption) (by assumption) (fun p hp => List.mem_append_left _ hp) fun kF kN _ => hret _ _ _ _ (TokP.of (htok.symm.trans (quote_e hb)) hx (cnt_step hln)) kF kN
            · have hb1 : (v == "\"") = false := by assumption
              have hb2 : (v == "\\") = true := by assumption
              refine Ct.use (read_x a ok hx (by simp only [List.length_cons] at hz; lia) (cnt_step hln) (citOff ap)) (by assumption) (by assumption) (by assumption) (by assumption) (by assumption) rfl (by (first | (show _ < _; decide) | exact room1 (k := 1) (by assumption) rfl | exact room2 (k := 3) (by assumption) rfl | exact room3 (by assumption) rfl | (simp only [recursionLimit, cLine] at *; lia))) (by (first | (show _ < _; decide) | exact room1 (k := 1) (by assumption) rfl | exact room2 (k := 3) (by assumption) rfl | exact room3 (by assumption) rfl | (simp only [recursionLimit, cLine] at *; lia))) ?_
              rintro _ _ h5 tk5 hIK F5 N5
              induction hIK with
              | mk t5 line5 tl5 sgv5 se5 hx5 hl5 =>
              (k_steps; (all_goals (try k_data)))
              exact IfEndN.mk (by assumption) (by assumption) sub_refl (.mk _ t5 line5 tl5 sgv5 se5 _ tl_len (hd_len h1) hx5 (tl_one h1) ((quote_h hb1 hb2).symm.trans htok) hl5) (by (refine up_off ?mua ?mub; (case mub => exact rfl); (case mua => walk_at "mine off")))
            · have hb1 : (v == "\"") = false := by assumption
              have hb2 : (v == "\\") = false := by assumption
              exact IfEndN.mk (by assumption) (by assumption) sub_refl (.mk v _ _ _ _ _ ys (Nat.le_refl _) (Nat.le_of_eq hv1) hx h1 ((quote_w hb1 hb2).symm.trans htok) (cnt_step hln)) (by (refine up_off ?mua ?mub; (case mub => exact rfl); (case mua => walk_at "mine off")))
          · clear N4
            rintro h6 tk6 _ _ hIK F6 N6
            induction hIK with
            | mk c t6 line6 tl6 sgv6 se6 ys6 hn hc hx6 h16 htok6 hln6 =>
            (k_steps; (all_goals (try k_data)))
            exact EndC.next (by assumption) (by assumption) sub_refl ⟨ys6.length + 1, Nat.succ_lt_succ (Nat.lt_succ_of_le hn), _, .mk _ _ _ _ _ _ _ ys6 tt (tok_room hz hc hn) hx6 h16 htok6 hln6, by (refine up_off ?mua ?mub; (case mub => exact rfl); (case mua => walk_at "mine off"))⟩
      · have hq : (v == "\"") = false := by assumption
        refine IfAt.joinN ["ch"] (MidK wordF a w.params pe it mth tt xs (line0 + cntNl xs) "" ys.length) (by assumption) ?_ ?_
        · intro qJ
          rename MarkJ => mj
          clear mj
          (k_steps; (all_goals (try k_data)))
          · rename (_ == _) = true => hb
            refine Ct.use (read_x a ok hx (Nat.le_of_succ_le (Nat.le_succ_of_le hz)) (cnt_step hln) (citOff ap)) (by assumption) (by assumption) (by assumption) (by assumption) (by assumption) rfl (by (first | (show _ < _; decide) | exact room1 (k := 1) (by assumption) rfl | exact room2 (k := 3) (by assumption) rfl | exact room3 (by assumption) rfl | (simp only [recursionLimit, cLine] at *; lia))) (by (first | (show _ < _; decide) | exact room1 (k := 1) (by assumption) rfl | exact room2 (k := 3) (by assumption) rfl | exact room3 (by assumption) rfl | (simp only [recursionLimit, cLine] at *; lia))) ?_
            rintro _ _ h5 tk5 hIK F5 N5
            induction hIK with
            | mk t5 line5 tl5 sgv5 se5 hx5 hl5 =>
            (k_steps; (all_goals (try k_data)))
            exact IfEndN.mk (by assumption) (by assumption) sub_refl (.mk _ t5 line5 tl5 sgv5 se5 _ tl_len (hd_len h1) hx5 (tl_one h1) ((tok_h hw hq hb).symm.trans htok) hl5) (by (refine up_off ?mua ?mub; (case mub => exact rfl); (case mua => walk_at "mine off")))
          · have hb : (v == "\\") = false := by assumption
            exact IfEndN.mk (by assumption) (by assumption) sub_refl (.mk v _ _ _ _ _ ys (Nat.le_refl _) (Nat.le_of_eq hv1) hx h1 ((tok_w hw hq hb).symm.trans htok) (cnt_step hln)) (by (refine up_off ?mua ?mub; (case mub => exact rfl); (case mua => walk_at "mine off")))
        · rename MarkJ => mj
          clear N4 hx h1 htok hln mj
          rintro h6 tk6 _ _ hIK F6 N6
          induction hIK with
          | mk c t6 line6 tl6 sgv6 se6 ys6 hn hc hx6 h16 htok6 hln6 =>
          (k_steps; (all_goals (try k_data)))
          refine pyIter_cit (News.get (by assumption) (List.mem_append_right _ (.head _))) rfl ?_
          refine LoopC.mk ["ch", "token"] (RunK wordF a w.params pe it mth xs (line0 + cntNl xs)) (ys6.length + 1) (by assumption) (by assumption) (.mk _ _ _ _ _ _ _ ys6 tt (tok_room (len0 hz) hc hn) hx6 h16 htok6 hln6) ?_
          clear F6 N6 hx6 h16 htok6 hln6
          try clear hz
          intro k vals n h2 tk2 hK F2 N2
          induction hK with
          | mk ov tk t line tl sgv se ys tt hz hx h1 htok hln =>
          cases hx with
          | nil =>
            refine cit_nil ok ap hne (by assumption) F2 (by assumption) N2 (by assumption) rfl (by (first | (show _ < _; decide) | exact room1 (k := 1) (by assumption) rfl | exact room2 (k := 3) (by assumption) rfl | exact room3 (by assumption) rfl | (simp only [recursionLimit, cLine] at *; lia))) (by (first | (show _ < _; decide) | exact room1 (k := 1) (by assumption) rfl | exact room2 (k := 3) (by assumption) rfl | exact room3 (by assumption) rfl | (simp only [recursionLimit, cLine] at *; lia))) ?_
            clear N2
            intro h3 tk3 F3 N3
            first | change EndC _ _ _ _ _ _ _ | (change wpAny _ _ _ _ _ _; (k_steps; (all_goals (try k_data))))
            exact EndC.next (by assumption) (by assumption) sub_refl ⟨0, Nat.succ_pos _, _, .stop _ _ _ _ _ _ htok.symm (ln0 hln), by (refine up_off ?mua ?mub; (case mub => exact rfl); (case mua => walk_at "mine off"))⟩
          | @cons v tv sg ys hx =>
            have hv1 : v.length = 1 := h1 v (.head _)
            replace h1 : ∀ x ∈ ys, x.length = 1 := fun x hm => h1 x (.tail _ hm)
            refine cit_cons ok (sg_len hx (by simp only [List.length_cons] at hz; lia)) (len_ne hv1) ap (by assumption) F2 (by assumption) N2 (by assumption) rfl (by (first | (show _ < _; decide) | exact room1 (k := 1) (by assumption) rfl | exact room2 (k := 3) (by assumption) rfl | exact room3 (by assumption) rfl | (simp only [recursionLimit, cLine] at *; lia))) (by (first | (show _ < _; decide) | exact room1 (k := 1) (by assumption) rfl | exact room2 (k := 3) (by assumption) rfl | exact room3 (by assumption) rfl | (simp only [recursionLimit, cLine] at *; lia))) ?_
            intro tl3 se3 h3 tk3 F3 N3
            refine ⟨h3, tk3, _, _, rfl, F3, N3, fun h4 tk4 F4 N4 => ?_⟩
            intro qE
            clear N2 N3 F2 F3
            have hzt : tk.length ≤ 99999 := by simp only [List.length_cons] at hz; lia
            have mj := markJ
            (k_steps; (all_goals (try k_data)))
            refine IfAt.joinN ["ch"] (MidK wordF a w.params pe it mth tt xs (line0 + cntNl xs) tk ys.length) (by assumption) ?_ ?_
            · intro qJ
              rename MarkJ => mj
              clear mj
              (k_steps; (all_goals (try k_data)))
              · rename (isIn _ _) = true => hb
                exact leaveR_ (by assumption) (by assumption) (fun p hp => List.mem_append_left _ hp) fun kF kN _ => hret _ _ _ _ (TokP.of (htok.symm.trans (word_ws hb)) hx (cnt_step hln)) kF kN
              · have hb1 : (isIn v "\n\t\r ") = false := by assumption
                have hb2 : (v == "\\") = true := by assumption
                refine Ct.use (read_x a ok hx (by simp only [List.length_cons] at hz; lia) (cnt_step hln) (citOff ap)) (by assumption) (by assumption) (by assumption) (by assumption) (by assumption) rfl (by (first | (show _ < _; decide) | exact room1 (k := 1) (by assumption) rfl | exact room2 (k := 3) (by assumption) rfl | exact room3 (by assumption) rfl | (simp only [recursionLimit, cLine] at *; lia))) (by (first | (show _ < _; decide) | exact room1 (k := 1) (by assumption) rfl | exact room2 (k := 3) (by assumption) rfl | exact room3 (by assumption) rfl | (simp only [recursionLimit, cLine] at *; lia))) ?_
                rintro _ _ h5 tk5 hIK F5 N5
                induction hIK with
                | mk t5 line5 tl5 sgv5 se5 hx5 hl5 =>
                (k_steps; (all_goals (try k_data)))
                exact IfEndN.mk (by assumption) (by assumption) sub_refl (.mk _ t5 line5 tl5 sgv5 se5 _ tl_len (hd_len h1) hx5 (tl_one h1) ((word_h hb1 hb2).symm.trans htok) hl5) (by (refine up_off ?mua ?mub; (case mub => exact rfl); (case mua => walk_at "mine off")))
              · have hb1 : (isIn v "\n\t\r ") = false := by assumption
                have hb2 : (v == "\\") = false := by assumption
                exact IfEndN.mk (by assumption) (by assumption) sub_refl (.mk v _ _ _ _ _ ys (Nat.le_refl _) (Nat.le_of_eq hv1) hx h1 ((word_w hb1 hb2).symm.trans htok) (cnt_step hln)) (by (refine up_off ?mua ?mub; (case mub => exact rfl); (case mua => walk_at "mine off")))
            · clear N4
              rintro h6 tk6 _ _ hIK F6 N6
              induction hIK with
              | mk c t6 line6 tl6 sgv6 se6 ys6 hn hc hx6 h16 htok6 hln6 =>
              (k_steps; (all_goals (try k_data)))
              exact EndC.next (by assumption) (by assumption) sub_refl ⟨ys6.length + 1, Nat.succ_lt_succ (Nat.lt_succ_of_le hn), _, .mk _ _ _ _ _ _ _ ys6 tt (tok_room hz hc hn) hx6 h16 htok6 hln6, by (refine up_off ?mua ?mub; (case mub => exact rfl); (case mua => walk_at "mine off"))⟩
end
section
local macro_rules | `(tactic| walk_at "call builtin:list.pop") => `(tactic| walk_at "mine stop")
theorem token_p {w : World} (a : LX) (ok : a.Ok) (line : Int) (tl : Tok) (x : Str) (t : Tok) (pbv : List Value) (pe : Nat) (sgv : List Value) (se : Nat) (hp : pbv.length ≤ 100000) (rest : List (Addr × Obj)) (offA : ∀ b ∈ a.addrs, ∀ q ∈ rest, b ≠ q.1) :
   Ct w 8 87 [.ref a.lx] (a.led w.params line tl (.str x t :: pbv) pe sgv se ++ rest) (fun u n => u = .str x t ∧ n = a.led w.params line tl pbv (pe + 1) sgv se ++ rest) := by
  have off := LX.off (P := w.params) (line := line) (tl := tl) (pbv := .str x t :: pbv) (pe := pe) (sgv := sgv) (se := se) offA
  have hpb := ok.pbLt
  have c3 := ok.c3
  unfold Ct
  k_fill
  intros
  rename_i hret
  refine wpAny_call ?_
  clear offA
  (k_dflt (refine' code_defR ?k1x232 ?k2x232 ?k3x232 ?k4x232 ?kOx232 ?k5x232 ?kAx232 ?kFx232 ?kKx232 ?k6x232 ?k7x232 ?k8x232 ?k9x232 ?kBx232 ?_ ?c2x232 ?c3x232 ?c4x232 ?c5x232; (case kAx232 => exact rfl); (case kFx232 => exact rfl); (case kKx232 => assumption); (case k1x232 => k_asm); (case k2x232 => k_asm); (case k3x232 => k_asm); (case k4x232 => k_asm); (case kOx232 => first | assumption | exact List.forall_mem_nil _); (case k5x232 => k_asm); (case k6x232 => k_is); (case k7x232 => k_is); (case k8x232 => ktr_room); (case k9x232 => first | exact BindsTo.of_eq (binds := [(_, _)]) rfl | exact BindsTo.of_eq (binds := [(_, _), (_, _)]) rfl | exact BindsTo.of_eq (binds := [(_, _), (_, _), (_, _)]) rfl | exact BindsTo.of_eq (binds := [(_, _), (_, _), (_, _), (_, _)]) rfl | exact BindsTo.of_eq rfl); (case c5x232 => decide); (case kBx232 => exact locs rfl); (case c2x232 => exact rfl); (case c3x232 => exact rfl); (case c4x232 => exact rfl); walk_at "mine eR"))
  refine noE ?_
  (k_steps; (repeat' (unfold HandC; (k_dflt (refine' pop0 (by k_asm) (by k_asm) (by rfl) (by k_upd) (by first | assumption | lia) ?_; k_whole; intros)); k_steps)); (all_goals (try k_data)))
  exact leaveR_ (by assumption) (by assumption) sub_refl fun kF kN _ => hret _ _ _ _ ⟨rfl, rfl⟩ kF kN
theorem push_c {w : World} (a : LX) (ok : a.Ok) (line : Int) (tl : Tok) (x : Str) (t : Tok) (pbv : List Value) (pe : Nat) (sgv : List Value) (se : Nat) (hp : pbv.length ≤ 100000) (rest : List (Addr × Obj)) (offA : ∀ b ∈ a.addrs, ∀ q ∈ rest, b ≠ q.1) :
   Ct w 8 94 [.ref a.lx, .str x t] (a.led w.params line tl pbv pe sgv se ++ rest) (fun u n => ∃ pe', n = a.led w.params line tl (pbv ++ [.str x t]) pe' sgv se ++ rest) := by
  have off := LX.off (P := w.params) (line := line) (tl := tl) (pbv := pbv) (pe := pe) (sgv := sgv) (se := se) offA
  have hpb := ok.pbLt
  have c3 := ok.c3
  unfold Ct
  k_fill
  intros
  rename_i hret
  refine wpAny_call ?_
  clear offA
  (k_dflt (refine' code_defR ?k1x234 ?k2x234 ?k3x234 ?k4x234 ?kOx234 ?k5x234 ?kAx234 ?kFx234 ?kKx234 ?k6x234 ?k7x234 ?k8x234 ?k9x234 ?kBx234 ?_ ?c2x234 ?c3x234 ?c4x234 ?c5x234; (case kAx234 => exact rfl); (case kFx234 => exact rfl); (case kKx234 => assumption); (case k1x234 => k_asm); (case k2x234 => k_asm); (case k3x234 => k_asm); (case k4x234 => k_asm); (case kOx234 => first | assumption | exact List.forall_mem_nil _); (case k5x234 => k_asm); (case k6x234 => k_is); (case k7x234 => k_is); (case k8x234 => ktr_room); (case k9x234 => first | exact BindsTo.of_eq (binds := [(_, _)]) rfl | exact BindsTo.of_eq (binds := [(_, _), (_, _)]) rfl | exact BindsTo.of_eq (binds := [(_, _), (_, _), (_, _)]) rfl | exact BindsTo.of_eq (binds := [(_, _), (_, _), (_, _), (_, _)]) rfl | exact BindsTo.of_eq rfl); (case c5x234 => decide); (case kBx234 => exact locs rfl); (case c2x234 => exact rfl); (case c3x234 => exact rfl); (case c4x234 => exact rfl); walk_at "mine eR"))
  refine noE ?_
  (k_steps; (all_goals (try k_data)))
  rename News _ _ _ _ => mN
  rw [show (Array.push ⟨pbv⟩ (.str x t) : Array Value) = ⟨pbv ++ [.str x t]⟩ from Array.toList_inj.mp (by simp)] at mN
  exact leaveR_ (by assumption) (by assumption) sub_refl fun kF kN _ => hret _ _ _ _ ⟨_, rfl⟩ kF kN
end
section
theorem wordF_suf : ∀ (n : Nat) (xs : List Str) (tk : Str), xs.length ≤ n → (wordF xs tk).2 <:+ xs := by
  intro n
  induction n with
  | zero => intro xs tk h; cases xs with
    | nil => exact List.suffix_refl _
    | cons v r => simp at h
  | succ n ih =>
    intro xs tk h
    cases xs with
    | nil => exact List.suffix_refl _
    | cons v r =>
      have hr : r.length ≤ n := by simpa using h
      cases e1 : isIn v "\n\t\r " with
      | true => rw [word_ws e1]; exact List.suffix_cons _ _
      | false =>
        cases e2 : (v == ("\\" : Str)) with
        | false => rw [word_w e1 e2]; exact (ih r _ hr).trans (List.suffix_cons _ _)
        | true =>
          cases r with
          | nil => rw [word_b0 e1 e2]; exact List.suffix_cons _ _
          | cons c2 r2 => rw [word_b e1 e2]; exact ((ih r2 _ (by simp at hr; lia)).trans (List.suffix_cons _ _)).trans (List.suffix_cons _ _)
theorem quoteF_suf : ∀ (n : Nat) (xs : List Str) (tk : Str), xs.length ≤ n → (quoteF xs tk).2 <:+ xs := by
  intro n
  induction n with
  | zero => intro xs tk h; cases xs with
    | nil => exact List.suffix_refl _
    | cons v r => simp at h
  | succ n ih =>
    intro xs tk h
    cases xs with
    | nil => exact List.suffix_refl _
    | cons v r =>
      have hr : r.length ≤ n := by simpa using h
      cases e1 : (v == ("\"" : Str)) with
      | true => rw [quote_e e1]; exact List.suffix_cons _ _
      | false =>
        cases e2 : (v == ("\\" : Str)) with
        | false => rw [quote_w e1 e2]; exact (ih r _ hr).trans (List.suffix_cons _ _)
        | true =>
          cases r with
          | nil => rw [quote_b0 e1 e2]; exact List.suffix_cons _ _
          | cons c2 r2 => rw [quote_b e1 e2]; exact ((ih r2 _ (by simp at hr; lia)).trans (List.suffix_cons _ _)).trans (List.suffix_cons _ _)
theorem tokF_suf : ∀ xs : List Str, (tokF xs).2 <:+ xs := by
  intro xs
  induction xs with
  | nil => exact List.suffix_refl _
  | cons v r ih =>
    cases e1 : isIn v "\n\t\r " with
    | true => rw [tok_ws e1]; exact ih.trans (List.suffix_cons _ _)
    | false =>
      cases e2 : (v == ("\"" : Str)) with
      | true => rw [tok_q e1 e2]; exact (quoteF_suf _ _ _ (Nat.le_refl _)).trans (List.suffix_cons _ _)
      | false =>
        cases e3 : (v == ("\\" : Str)) with
        | false => rw [tok_w e1 e2 e3]; exact (wordF_suf _ _ _ (Nat.le_refl _)).trans (List.suffix_cons _ _)
        | true =>
          cases r with
          | nil => rw [tok_b0 e1 e2 e3]; exact List.suffix_cons _ _
          | cons c2 r2 => rw [tok_b e1 e2 e3]; exact ((wordF_suf _ _ _ (Nat.le_refl _)).trans (List.suffix_cons _ _)).trans (List.suffix_cons _ _)
-- the words that the reader gets out of the pushed words ps and the signs xs; fin is what is left
inductive Words : List Str → List Str → List Str → List Str → Prop
  | done {xs r : List Str} : tokF xs = (("" : Str), r) → Words [] xs [] r
  | more {xs : List Str} {x : Str} {r ws fin : List Str} : tokF xs = (x, r) → x ≠ "" → Words [] r ws fin → Words [] xs (x :: ws) fin
  | push {ps : List Str} {x : Str} {xs ws fin : List Str} : x ≠ "" → Words ps xs ws fin → Words (x :: ps) xs (x :: ws) fin
-- what reading one word leaves: x, and then ps' and xs'
inductive WordP (a : LX) (P : Params) (all fin : List Str) (T : Int) (rest : List (Addr × Obj)) : Value → List (Addr × Obj) → Prop
  | stop (t : Tok) (pe : Nat) (sgv : List Value) (se : Nat) (line : Int) (tl : Tok) (hall : all = []) (hx : StrsAre sgv fin) (hl : line + cntNl fin = T) : WordP a P all fin T rest (.str "" t) (a.led P line tl [] pe sgv se ++ rest)
  | word (x : Str) (t : Tok) (ps xs ws : List Str) (pbv : List Value) (pe : Nat) (sgv : List Value) (se : Nat) (line : Int) (tl : Tok) (hall : all = x :: ws) (hne : x ≠ "") (hp : StrsAre pbv ps) (hx : StrsAre sgv xs) (hl : line + cntNl xs = T) (hxl : xs.length ≤ 10000) (hpl : ps.length ≤ 1000) (h1 : ∀ x ∈ xs, x.length = 1) (hw : Words ps xs ws fin) : WordP a P all fin T rest (.str x t) (a.led P line tl pbv pe sgv se ++ rest)
theorem word_c {w : World} (a : LX) (ok : a.Ok) (line : Int) (tl : Tok) (pbv : List Value) (ps : List Str) (pe : Nat) (xs all fin : List Str) (sgv : List Value) (se : Nat) (hp : StrsAre pbv ps) (hpl : ps.length ≤ 1000) (hx : StrsAre sgv xs) (hxl : xs.length ≤ 10000) (h1 : ∀ x ∈ xs, x.length = 1) (hw : Words ps xs all fin) (rest : List (Addr × Obj)) (offA : ∀ b ∈ a.addrs, ∀ q ∈ rest, b ≠ q.1) :
   Ct w 8 87 [.ref a.lx] (a.led w.params line tl pbv pe sgv se ++ rest) (WordP a w.params all fin (line + cntNl xs) rest) := by
  cases hw with
  | done e =>
    cases hp
    refine (token_c a ok line tl pe xs sgv se (Nat.le_trans hxl (by decide)) hx h1 rest offA).mono ?_
    rintro u n hIK
    induction hIK with
    | mk t line' tl' sgv' se' h2 h3 =>
    rw [e] at h2 h3 ⊢
    exact .stop t pe sgv' se' line' tl' rfl h2 h3
  | @more _ x r ws _ e hne hr =>
    cases hp
    have suf := tokF_suf xs
    rw [e] at suf
    refine (token_c a ok line tl pe xs sgv se (Nat.le_trans hxl (by decide)) hx h1 rest offA).mono ?_
    rintro u n hIK
    induction hIK with
    | mk t line' tl' sgv' se' h2 h3 =>
    rw [e] at h2 h3 ⊢
    exact .word x t [] r ws [] pe sgv' se' line' tl' rfl hne .nil h2 h3 (Nat.le_trans suf.length_le hxl) (Nat.zero_le _) (fun x hm => h1 x (suf.subset hm)) hr
  | @push ps x _ ws _ hne hr =>
    cases hp with
    | cons x t hp' =>
      have hpl' := Nat.le_of_succ_le hpl
      refine (token_p a ok line tl x t _ pe sgv se (sg_len hp' (Nat.le_trans hpl' (by decide))) rest offA).mono ?_
      rintro u n ⟨rfl, rfl⟩
      exact .word x t _ xs ws _ _ sgv se line tl rfl hne hp' hx rfl hxl hpl' h1 hr
end
section
-- what reading all words leaves
inductive LreadP (a : LX) (P : Params) (all fin : List Str) (T : Int) (rest : List (Addr × Obj)) : Value → List (Addr × Obj) → Prop
  | mk (l : Addr) (vs : List Value) (e : Nat) (line : Int) (tl : Tok) (pe : Nat) (sgv : List Value) (se : Nat) (hvs : StrsAre vs all) (hl : line + cntNl fin = T) (hx : StrsAre sgv fin) (off : ∀ q ∈ rest, l ≠ q.1) (offA : ∀ b ∈ a.addrs, b ≠ l) : LreadP a P all fin T rest (.ref l) ((l, listOf ⟨vs⟩ e) :: (a.led P line tl [] pe sgv se ++ rest))
inductive LreadK (a : LX) (P : Params) (all fin : List Str) (T : Int) (wl : Addr) : Nat → List (Option Value) → List (Addr × Obj) → Prop
  | stop (t : Tok) (pe : Nat) (sgv : List Value) (se : Nat) (line : Int) (tl : Tok) (dv : List Value) (e : Nat) (hdv : StrsAre dv all) (hx : StrsAre sgv fin) (hl : line + cntNl fin = T) : LreadK a P all fin T wl 0 [some (.str "" t)] (a.led P line tl [] pe sgv se ++ [(wl, listOf ⟨dv⟩ e)])
  | word (x : Str) (t : Tok) (ps xs ws done : List Str) (pbv : List Value) (pe : Nat) (sgv : List Value) (se : Nat) (line : Int) (tl : Tok) (dv : List Value) (e : Nat) (hall : done ++ x :: ws = all) (hne : x ≠ "") (hdv : StrsAre dv done) (hp : StrsAre pbv ps) (hx : StrsAre sgv xs) (hl : line + cntNl xs = T) (hxl : xs.length ≤ 10000) (hpl : ps.length ≤ 1000) (h1 : ∀ x ∈ xs, x.length = 1) (hw : Words ps xs ws fin) : LreadK a P all fin T wl (ws.length + 1) [some (.str x t)] (a.led P line tl pbv pe sgv se ++ [(wl, listOf ⟨dv⟩ e)])
theorem LreadK.of {a : LX} {P : Params} {all fin done rem : List Str} {T : Int} {wl : Addr} {u : Value} {n : List (Addr × Obj)} {dv : List Value} {e : Nat} (h : WordP a P rem fin T [(wl, listOf ⟨dv⟩ e)] u n) (hdv : StrsAre dv done) (hall : done ++ rem = all) : LreadK a P all fin T wl rem.length [some u] n := by
  induction h with
  | stop t pe sgv se line tl hr hx hl => subst hr; rw [List.append_nil] at hall; subst hall; exact .stop t pe sgv se line tl dv e hdv hx hl
  | word x t ps xs ws pbv pe sgv se line tl hr hne hp hx hl hxl hpl h1 hw => subst hr; exact .word x t ps xs ws done pbv pe sgv se line tl dv e hall hne hdv hp hx hl hxl hpl h1 hw
theorem push_one {dv : List Value} {v : Value} : (Array.push ⟨dv⟩ v : Array Value) = ⟨dv ++ [v]⟩ := Array.toList_inj.mp (by simp)
theorem sub_rot {x : Addr × Obj} {A : List (Addr × Obj)} : ∀ p ∈ x :: A, p ∈ A ++ [x] := fun p h => by
  cases h with
  | head => exact List.mem_append_right _ (.head _)
  | tail _ h => exact List.mem_append_left _ h
theorem sub_rot' {x : Addr × Obj} {A : List (Addr × Obj)} : ∀ p ∈ A ++ [x], p ∈ x :: A := fun p h => by
  rcases List.mem_append.mp h with h | h
  · exact .tail _ h
  · cases h with
    | head => exact .head _
    | tail _ h => cases h
theorem upd_back {l : Addr} {o o' : Obj} : ∀ {A : List (Addr × Obj)}, (∀ p ∈ A, p.1 ≠ l) → Upd l o o' (A ++ [(l, o)]) (A ++ [(l, o')])
  | [], _ => .head fun _ h => nomatch h
  | p :: _, h => .tail (h p (.head _)) (upd_back fun q hq => h q (.tail _ hq))
theorem lread_c {w : World} (a : LX) (ok : a.Ok) (line : Int) (tl : Tok) (pbv : List Value) (ps : List Str) (pe : Nat) (xs all fin : List Str) (sgv : List Value) (se : Nat) (hp : StrsAre pbv ps) (hpl : ps.length ≤ 1000) (hx : StrsAre sgv xs) (hxl : xs.length ≤ 10000) (h1 : ∀ x ∈ xs, x.length = 1) (hw : Words ps xs all fin) (hal : all.length ≤ 1000) (rest : List (Addr × Obj)) (offA : ∀ b ∈ a.addrs, ∀ q ∈ rest, b ≠ q.1) :
   Ct w 10 132 [.ref a.lx] (a.led w.params line tl pbv pe sgv se ++ rest) (LreadP a w.params all fin (line + cntNl xs) rest) := by
  have off := LX.off (P := w.params) (line := line) (tl := tl) (pbv := pbv) (pe := pe) (sgv := sgv) (se := se) offA
  unfold Ct
  k_fill
  intros
  rename_i hret
  refine wpAny_call ?_
  clear offA
  (k_dflt (refine' code_defR ?k1x236 ?k2x236 ?k3x236 ?k4x236 ?kOx236 ?k5x236 ?kAx236 ?kFx236 ?kKx236 ?k6x236 ?k7x236 ?k8x236 ?k9x236 ?kBx236 ?_ ?c2x236 ?c3x236 ?c4x236 ?c5x236; (case kAx236 => exact rfl); (case kFx236 => exact rfl); (case kKx236 => assumption); (case k1x236 => k_asm); (case k2x236 => k_asm); (case k3x236 => k_asm); (case k4x236 => k_asm); (case kOx236 => first | assumption | exact List.forall_mem_nil _); (case k5x236 => k_asm); (case k6x236 => k_is); (case k7x236 => k_is); (case k8x236 => ktr_room); (case k9x236 => first | exact BindsTo.of_eq (binds := [(_, _)]) rfl | exact BindsTo.of_eq (binds := [(_, _), (_, _)]) rfl | exact BindsTo.of_eq (binds := [(_, _), (_, _), (_, _)]) rfl | exact BindsTo.of_eq (binds := [(_, _), (_, _), (_, _), (_, _)]) rfl | exact BindsTo.of_eq rfl); (case c5x236 => decide); (case kBx236 => exact locs rfl); (case c2x236 => exact rfl); (case c3x236 => exact rfl); (case c4x236 => exact rfl); walk_at "mine eR"))
  refine noE ?_
  (k_steps; (all_goals (try k_data)))
  rename News _ _ _ _ => N1
  rename_i wl _ lw _ _ _
  have al : ∀ b ∈ a.addrs, b ≠ wl := fun b hb => by
    obtain ⟨q, hq, rfl⟩ := List.mem_map.mp (show b ∈ (a.led w.params line tl pbv pe sgv se).map (·.1) from hb)
    exact neA (lw q hq)
  clear lw
  have offW : ∀ {e : Nat} {vs : List Value}, ∀ b ∈ a.addrs, ∀ q ∈ [(wl, listOf ⟨vs⟩ e)], b ≠ q.1 := fun {e vs} b hb q hq => by
    cases hq with
    | head => exact al b hb
    | tail _ h => cases h
  refine Ct.use (word_c a ok _ _ _ ps _ xs all fin _ _ hp hpl hx hxl h1 hw [(wl, listOf ⟨[]⟩ 0)] offW) (by assumption) (by assumption) (by assumption) (News.sub N1 sub_rot') (by assumption) rfl (by (first | (show _ < _; decide) | exact room1 (k := 1) (by assumption) rfl | exact room2 (k := 3) (by assumption) rfl | exact room3 (by assumption) rfl | (simp only [recursionLimit, cLine] at *; lia))) (by (first | (show _ < _; decide) | exact room1 (k := 1) (by assumption) rfl | exact room2 (k := 3) (by assumption) rfl | exact room3 (by assumption) rfl | (simp only [recursionLimit, cLine] at *; lia))) ?_
  intro u n h5 tk5 hW F5 N5
  clear N1
  (k_steps; (all_goals (try k_data)))
  refine WhileAt.mk ["word"] (LreadK a w.params all fin (line + cntNl xs) wl) all.length (by assumption) (by assumption) (by exact LreadK.of (all := all) (done := []) hW .nil rfl) ?_
  rename News _ _ _ _ => N5
  clear hW N5 hp hx h1 hw
  obtain ⟨T, eT⟩ : ∃ T, T = line + cntNl xs := ⟨_, rfl⟩
  rw [← eT] at hret ⊢
  clear eT
  intro k vals n h2 tk2 hK F2 N2
  intro qE
  induction hK with
  | stop t pe sgv se line tl dv e hdv hx hl =>
    (k_steps; (all_goals (try k_data)))
    exact leaveR_ (by assumption) (by assumption) sub_rot fun kF kN ko => hret _ _ _ _ (.mk wl dv e line tl pe sgv se hdv hl hx (fun q hq => ko (wl, _) (.head _) q hq) al) kF kN
  | word x t ps xs ws done pbv pe sgv se line tl dv e hall hne hdv hp hx hl hxl hpl h1 hw =>
    have hdl : dv.length ≤ 1000 := by rw [hdv.len_eq]; rw [← hall, List.length_append] at hal; lia
    (k_steps; (all_goals (try k_data)))
    · refine append_K (by assumption) (by assumption) (upd_back fun p hp => al _ (LX.mem hp)) ?_ (Nat.le_trans hdl (Nat.le_of_ble_eq_true rfl))
      intro h3 F3 mN
      rw [push_one] at mN
      (k_steps; (all_goals (try k_data)))
      refine Ct.use (word_c a ok _ _ _ ps _ xs ws fin _ _ hp hpl hx hxl h1 hw [(wl, listOf ⟨dv ++ [.str x t]⟩ _)] offW) (by assumption) (by assumption) (by assumption) (by assumption) (by assumption) rfl (by (first | (show _ < _; decide) | exact room1 (k := 1) (by assumption) rfl | exact room2 (k := 3) (by assumption) rfl | exact room3 (by assumption) rfl | (simp only [recursionLimit, cLine] at *; lia))) (by (first | (show _ < _; decide) | exact room1 (k := 1) (by assumption) rfl | exact room2 (k := 3) (by assumption) rfl | exact room3 (by assumption) rfl | (simp only [recursionLimit, cLine] at *; lia))) ?_
      intro u2 n2 h5 tk5 hW F5 N5
      (k_steps; (all_goals (try k_data)))
      rw [hl] at hW
      exact EndC.next (by assumption) (by assumption) sub_refl ⟨ws.length, Nat.lt_succ_self _, _, .of hW (strs_append hdv (strs_one x t)) (by rw [← hall]; simp), by (refine up_off ?mua ?mub; (case mub => exact rfl); (case mua => walk_at "mine off"))⟩
    · rename (_ != _) = false => hb
      exact absurd (by simpa using hb) hne
end
section
-- the table of _law_lexer's code, once its two lambdas' codes stand in it
noncomputable def tabPs (c1 c : Addr) : Array Value := ((#[] : Array Value) ++ #[rawInt (128 : Nat), rawInt (13 : Nat), .ref c1]) ++ #[rawInt (129 : Nat), rawInt (18 : Nat), .ref c]
theorem led_off {a : LX} {P : Params} {line : Int} {tl : Tok} {pbv : List Value} {pe : Nat} {sgv : List Value} {se : Nat} {S rest : List (Addr × Obj)} (hS : ∀ p ∈ a.led P line tl pbv pe sgv se, p ∈ S) (ko : ∀ p ∈ S, ∀ q ∈ rest, p.1 ≠ q.1) : ∀ b ∈ a.addrs, ∀ q ∈ rest, b ≠ q.1 := fun b hb q hq => by
  obtain ⟨p, hp, rfl⟩ := List.mem_map.mp (show b ∈ (a.led P line tl pbv pe sgv se).map (·.1) from hb)
  exact ko p (hS p hp) q hq
-- the new lexer and what stands beside it, of the first call
inductive Lex0P (P : Params) (x : Str) (rest : List (Addr × Obj)) : Value → List (Addr × Obj) → Prop
  | mk (a : LX) (c1 : Addr) (oc1 : Obj) (tl : Tok) (sgv : List Value) (se : Nat) (ok : a.Ok) (hs : StrsAre sgv (signs x)) (offA : ∀ b ∈ a.addrs, ∀ q ∈ ((c1, oc1) :: (120, tabObj (tabPs c1 a.c)) :: rest), b ≠ q.1) (off1 : ∀ q ∈ (120, tabObj (tabPs c1 a.c)) :: rest, c1 ≠ q.1) :
    Lex0P P x rest (.ref a.lx) (a.led P 1 tl [] 0 sgv se ++ ((c1, oc1) :: (120, tabObj (tabPs c1 a.c)) :: rest))
-- of a later call
inductive LexNP (P : Params) (x : Str) (c c1 : Addr) (oc oc1 : Obj) (rest' : List (Addr × Obj)) : Value → List (Addr × Obj) → Prop
  | mk (a : LX) (tl : Tok) (sgv : List Value) (se : Nat) (ok : a.Ok) (ec : a.c = c) (eo : a.oc = oc) (hs : StrsAre sgv (signs x)) (offA : ∀ b ∈ a.addrs, ∀ q ∈ ((c1, oc1) :: (120, tabObj (tabPs c1 c)) :: rest'), b ≠ q.1) :
    LexNP P x c c1 oc oc1 rest' (.ref a.lx) (a.led P 1 tl [] 0 sgv se ++ ((c1, oc1) :: (120, tabObj (tabPs c1 c)) :: rest'))
theorem lex_fin {P : Params} {h₀ g : Heap} {L L' : Addr} {m m' : Str → Option Value} {rest : List (Addr × Obj)} {R : Result → Shared → Prop} {s' : Shared} {x : Str}
    {pb lx dx dst lam c st c1 sg cell : Addr} {k1 k2 k3 k4 tl tw t : Tok} {od oc oc1 co : Obj} {fd : FuncData} {pm ctv : Value} {ys : Array Value} {e : Nat} {vs : Array Value}
    (F' : Fr g L' s'.heap m')
    (N : News g L' s'.heap [(pb, listOf #[] 0), (lx, instObj 97 dx), (dx, dictOf [
        { hash := PyData.keyHash P "lineno", key := .str "lineno" k1, val := .int 1 tl },
        { hash := PyData.keyHash P "instream", key := .str "instream" k2, val := .ref st },
        { hash := PyData.keyHash P "whitespace", key := .str "whitespace" k3, val := .str "\n\t\r " tw },
        { hash := PyData.keyHash P "pushback", key := .str "pushback" k4, val := .ref pb }] 4),
      (dst, od), (lam, lamO P cell c pm ctv), (c, oc), (st, fnObj fd (some dst)), (c1, oc1), (sg, listOf ys e), (cell, co), (120, tabObj (tabPs c1 c))])
    (O : NsObj od fun y => if y = "read" then some (.ref lam) else none)
    (hco : co.data = .cell (some (.ref sg))) (hoc : oc.data = .fields vs) (hoc1 : vs[1]? = some (.str "_law_lexer.<locals>.<lambda>" t)) (hS : StrsAre ys.toList (signs x))
    (o1 : @LT.lt Nat _ cell sg) (o2 : @LT.lt Nat _ sg st) (o3 : @LT.lt Nat _ st lam) (o4 : @LT.lt Nat _ lam dst) (o5 : @LT.lt Nat _ dst dx) (o6 : @LT.lt Nat _ dx lx) (o7 : @LT.lt Nat _ lx pb)
    (n0 : ∀ b ∈ [sg, dx, pb, cell], b ≠ c) (n1 : ∀ b ∈ [pb, lx, dx, dst, lam, c, st, sg, cell], b ≠ c1) (n2 : ∀ b ∈ [pb, lx, dx, dst, lam, c, st, sg, cell], b ≠ 120) (n3 : c1 ≠ 120)
    (k : ∀ v n, Lex0P P x rest v n → Fr h₀ L s'.heap m → News h₀ L s'.heap n → R (.ok (.ret v)) s') : LeaveR h₀ L m g rest R (.ref lx) s' := by
  refine .mk L' m' _ F' N ?_
  intro kF kN ko
  have ok : LX.Ok ⟨pb, lx, dx, dst, lam, st, sg, cell, c, k1, k2, k3, k4, tw, od, oc, co, fd, pm, ctv⟩ := ⟨O, hco, ⟨vs, t, hoc, hoc1⟩, o1, o2, o3, o4, o5, o6, o7, Ne.symm (n0 _ (.head _)), Ne.symm (n0 _ (.tail _ (.head _))), Ne.symm (n0 _ (.tail _ (.tail _ (.head _)))), Ne.symm (n0 _ (.tail _ (.tail _ (.tail _ (.head _)))))⟩
  have offA := led_off (a := ⟨pb, lx, dx, dst, lam, st, sg, cell, c, k1, k2, k3, k4, tw, od, oc, co, fd, pm, ctv⟩) (P := P) (line := 1) (tl := tl) (pbv := []) (pe := 0) (sgv := ys.toList) (se := e) (by walk_at "mine sub") ko
  refine k _ _ (.mk ⟨pb, lx, dx, dst, lam, st, sg, cell, c, k1, k2, k3, k4, tw, od, oc, co, fd, pm, ctv⟩ c1 oc1 tl ys.toList e ok hS ?_ ?_) kF (News.sub kN (List.forall_mem_append.mpr ⟨fun p h => List.mem_append_left _ ?_, List.forall_mem_cons.mpr ⟨List.mem_append_left _ (by k_mem), List.forall_mem_cons.mpr ⟨List.mem_append_left _ (by k_mem), fun p h => List.mem_append_right _ h⟩⟩⟩))
  · exact fun b hb => List.forall_mem_cons.mpr ⟨n1 b hb, List.forall_mem_cons.mpr ⟨n2 b hb, offA b hb⟩⟩
  · exact List.forall_mem_cons.mpr ⟨n3, ko (c1, oc1) (by k_mem)⟩
  · revert p
    walk_at "mine sub"
theorem lex_finN {P : Params} {h₀ g : Heap} {L L' : Addr} {m m' : Str → Option Value} {rest' : List (Addr × Obj)} {R : Result → Shared → Prop} {s' : Shared} {x : Str}
    {pb lx dx dst lam st sg cell c c1 : Addr} {k1 k2 k3 k4 tl tw t : Tok} {od oc oc1 co : Obj} {fd : FuncData} {pm ctv : Value} {ys : Array Value} {e : Nat} {vs : Array Value}
    (F' : Fr g L' s'.heap m')
    (N : News g L' s'.heap [(pb, listOf #[] 0), (lx, instObj 97 dx), (dx, dictOf [
        { hash := PyData.keyHash P "lineno", key := .str "lineno" k1, val := .int 1 tl },
        { hash := PyData.keyHash P "instream", key := .str "instream" k2, val := .ref st },
        { hash := PyData.keyHash P "whitespace", key := .str "whitespace" k3, val := .str "\n\t\r " tw },
        { hash := PyData.keyHash P "pushback", key := .str "pushback" k4, val := .ref pb }] 4),
      (dst, od), (lam, lamO P cell c pm ctv), (st, fnObj fd (some dst)), (sg, listOf ys e), (cell, co), (120, tabObj (tabPs c1 c))])
    (O : NsObj od fun y => if y = "read" then some (.ref lam) else none)
    (hco : co.data = .cell (some (.ref sg))) (hoc : oc.data = .fields vs) (hoc1 : vs[1]? = some (.str "_law_lexer.<locals>.<lambda>" t)) (hS : StrsAre ys.toList (signs x))
    (o1 : @LT.lt Nat _ cell sg) (o2 : @LT.lt Nat _ sg st) (o3 : @LT.lt Nat _ st lam) (o4 : @LT.lt Nat _ lam dst) (o5 : @LT.lt Nat _ dst dx) (o6 : @LT.lt Nat _ dx lx) (o7 : @LT.lt Nat _ lx pb)
    (n2 : ∀ b ∈ [pb, lx, dx, dst, lam, st, sg, cell], b ≠ 120)
    (offc : ∀ q ∈ (c1, oc1) :: (120, tabObj (tabPs c1 c)) :: rest', c ≠ q.1)
    (k : ∀ v n, LexNP P x c c1 oc oc1 rest' v n → Fr h₀ L s'.heap m → News h₀ L s'.heap n → R (.ok (.ret v)) s') : LeaveR h₀ L m g ((c, oc) :: (c1, oc1) :: rest') R (.ref lx) s' := by
  refine .mk L' m' _ F' N ?_
  intro kF kN ko
  have kc : ∀ b o, (b, o) ∈ _ → c ≠ b := fun b o hb => Ne.symm (ko (b, o) hb (c, oc) (.head _))
  have ok : LX.Ok ⟨pb, lx, dx, dst, lam, st, sg, cell, c, k1, k2, k3, k4, tw, od, oc, co, fd, pm, ctv⟩ := ⟨O, hco, ⟨vs, t, hoc, hoc1⟩, o1, o2, o3, o4, o5, o6, o7, kc sg _ (by k_mem), kc dx _ (by k_mem), kc pb _ (by k_mem), kc cell _ (by k_mem)⟩
  have key : ∀ b ∈ [pb, lx, dx, dst, lam, st, sg, cell], ∀ q ∈ (c1, oc1) :: (120, tabObj (tabPs c1 c)) :: rest', b ≠ q.1 := by
    intro b hb
    have h : ∀ q ∈ (c, oc) :: (c1, oc1) :: rest', b ≠ q.1 := by
      obtain ⟨p, hp, e⟩ := List.mem_map.mp (show b ∈ List.map (·.1) [(pb, listOf #[] 0), (lx, instObj 97 dx), (dx, dictOf [
        { hash := PyData.keyHash P "lineno", key := .str "lineno" k1, val := .int 1 tl },
        { hash := PyData.keyHash P "instream", key := .str "instream" k2, val := .ref st },
        { hash := PyData.keyHash P "whitespace", key := .str "whitespace" k3, val := .str "\n\t\r " tw },
        { hash := PyData.keyHash P "pushback", key := .str "pushback" k4, val := .ref pb }] 4),
      (dst, od), (lam, lamO P cell c pm ctv), (st, fnObj fd (some dst)), (sg, listOf ys e), (cell, co)] from hb)
      rw [← e]
      exact ko p (List.mem_append_left [(120, tabObj (tabPs c1 c))] hp)
    exact List.forall_mem_cons.mpr ⟨h (c1, oc1) (.tail _ (.head _)), List.forall_mem_cons.mpr ⟨n2 b hb, fun q hq => h q (.tail _ (.tail _ hq))⟩⟩
  refine k _ _ (.mk ⟨pb, lx, dx, dst, lam, st, sg, cell, c, k1, k2, k3, k4, tw, od, oc, co, fd, pm, ctv⟩ tl ys.toList e ok rfl rfl hS ?_) kF (News.sub kN ?_)
  · refine List.forall_mem_cons.mpr ⟨key _ (.head _), List.forall_mem_cons.mpr ⟨key _ (.tail _ (.head _)), List.forall_mem_cons.mpr ⟨key _ (.tail _ (.tail _ (.head _))), List.forall_mem_cons.mpr ⟨key _ (.tail _ (.tail _ (.tail _ (.head _)))), List.forall_mem_cons.mpr ⟨key _ (.tail _ (.tail _ (.tail _ (.tail _ (.head _))))), List.forall_mem_cons.mpr ⟨offc, fun b hb => key b (.tail _ (.tail _ (.tail _ (.tail _ (.tail _ hb)))))⟩⟩⟩⟩⟩⟩
  · refine List.forall_mem_cons.mpr ⟨by k_mem, List.forall_mem_cons.mpr ⟨by k_mem, List.forall_mem_cons.mpr ⟨by k_mem, List.forall_mem_cons.mpr ⟨by k_mem, List.forall_mem_cons.mpr ⟨by k_mem, List.forall_mem_cons.mpr ⟨by k_mem, List.forall_mem_cons.mpr ⟨by k_mem, List.forall_mem_cons.mpr ⟨by k_mem, List.forall_mem_cons.mpr ⟨by k_mem, List.forall_mem_cons.mpr ⟨by k_mem, List.forall_mem_cons.mpr ⟨by k_mem, fun p h => List.mem_append_right [_, _, _, _, _, _, _, _, _, _, _] h⟩⟩⟩⟩⟩⟩⟩⟩⟩⟩⟩
end
section
theorem lexer0_c {w : World} {rest} (x : Str) (t1 : Tok) (hx : x.length ≤ 10000) (off : ∀ p ∈ [((120 : Addr), tabObj #[])], ∀ q ∈ rest, p.1 ≠ q.1) :
   Ct w 6 125 [.str x t1] ([(120, tabObj #[])] ++ rest) (Lex0P w.params x rest) := by
  unfold Ct
  k_fill
  intros
  rename_i hret
  refine wpAny_call ?_
  (k_dflt (refine' code_defRC ?k1x250 ?k2x250 ?k3x250 ?k4x250 ?kOx250 ?k5x250 ?kAx250 ?kFx250 ?kKx250 ?k6x250 ?k7x250 ?k8x250 ?k9x250 ?kBx250 ?kDx250 ?_ ?c2x250 ?c3x250 ?c4x250; (case kAx250 => exact rfl); (case kFx250 => exact rfl); (case kKx250 => assumption); (case k1x250 => k_asm); (case k2x250 => k_asm); (case k3x250 => k_asm); (case k4x250 => k_asm); (case kOx250 => first | assumption | exact List.forall_mem_nil _); (case k5x250 => k_asm); (case k6x250 => k_is); (case k7x250 => k_is); (case k8x250 => ktr_room); (case k9x250 => first | exact BindsTo.of_eq (binds := [(_, _)]) rfl | exact BindsTo.of_eq (binds := [(_, _), (_, _)]) rfl | exact BindsTo.of_eq (binds := [(_, _), (_, _), (_, _)]) rfl | exact BindsTo.of_eq (binds := [(_, _), (_, _), (_, _), (_, _)]) rfl | exact BindsTo.of_eq rfl); (case kBx250 => exact rfl); (case kDx250 => decide +kernel); (case c2x250 => exact rfl); (case c3x250 => exact rfl); (case c4x250 => exact rfl); walk_at "mine eRC"))
  have codeHd : CodeHd _ 124 120 := codeHd_of_K (c := 124) (P := 120) (by assumption) (by kernel_rfl)
  refine noE ?_
  (k_steps; (all_goals (try k_data)))
  (k_dflt (refine' call_cls ?k1x258 ?k2x258 ?k3x258 ?k4x258 ?k5x258 ?k6x258 ?_; (case k1x258 => k_asm); (case k2x258 => k_asm); (case k3x258 => k_asm); (case k4x258 => k_is); (case k5x258 => k_is); (case k6x258 => k_is); walk_at "mine eL"; (refine' code_def ?k1x259 ?k2x259 ?k3x259 ?k4x259 ?k5x259 ?kAx259 ?kFx259 ?kKx259 ?k6x259 ?k7x259 ?k8x259 ?k9x259 ?kBx259 ?_ ?c2x259 ?c3x259 ?c4x259 ?c5x259; (case kAx259 => exact rfl); (case kFx259 => exact rfl); (case kKx259 => first | assumption | exact rfl); (case k1x259 => k_asm); (case k2x259 => k_asm); (case k3x259 => k_asm); (case k4x259 => k_asm); (case k5x259 => k_asm); (case k6x259 => k_is); (case k7x259 => k_is); (case k8x259 => ktr_room); (case k9x259 => first | exact BindsTo.of_eq (binds := [(_, _)]) rfl | exact BindsTo.of_eq (binds := [(_, _), (_, _)]) rfl | exact BindsTo.of_eq (binds := [(_, _), (_, _), (_, _)]) rfl | exact BindsTo.of_eq (binds := [(_, _), (_, _), (_, _), (_, _)]) rfl | exact BindsTo.of_eq rfl); (case c5x259 => decide); (case kBx259 => exact locs rfl); (case c2x259 => exact rfl); (case c3x259 => exact rfl); (case c4x259 => exact rfl); walk_at "mine eD"); refine noE ?_))
  (k_steps; (all_goals (try k_data)))
  exact lex_fin (by assumption) (by assumption) (by assumption) (by assumption) (by assumption) (by assumption) (by assumption) (by walk_at "mine pick1") (by walk_at "mine pick1") (by walk_at "mine pick1") (by walk_at "mine pick1") (by walk_at "mine pick1") (by walk_at "mine pick1") (by walk_at "mine pick1") (by kd_adr) (by kd_adr) (by kd_adr) (by k_ne) fun v n hP kF kN => hret v n _ _ hP kF kN
theorem lexerN_c {w : World} {rest'} (x : Str) (t1 : Tok) (hx : x.length ≤ 10000) (c c1 : Addr) (oc oc1 : Obj) (vs : Array Value) (t : Tok) (hoc : oc.data = .fields vs) (hoc1 : vs[1]? = some (.str "_law_lexer.<locals>.<lambda>" t)) (off : ∀ p ∈ [((120 : Addr), tabObj (tabPs c1 c))], ∀ q ∈ (c, oc) :: (c1, oc1) :: rest', p.1 ≠ q.1)
   (offc : ∀ q ∈ (c1, oc1) :: (120, tabObj (tabPs c1 c)) :: rest', c ≠ q.1) :
   Ct w 6 125 [.str x t1] ([(120, tabObj (tabPs c1 c))] ++ ((c, oc) :: (c1, oc1) :: rest')) (LexNP w.params x c c1 oc oc1 rest') := by
  unfold Ct
  k_fill
  intros
  rename_i hret
  refine wpAny_call ?_
  unfold tabPs at *
  (k_dflt (refine' code_defRC ?k1x252 ?k2x252 ?k3x252 ?k4x252 ?kOx252 ?k5x252 ?kAx252 ?kFx252 ?kKx252 ?k6x252 ?k7x252 ?k8x252 ?k9x252 ?kBx252 ?kDx252 ?_ ?c2x252 ?c3x252 ?c4x252; (case kAx252 => exact rfl); (case kFx252 => exact rfl); (case kKx252 => assumption); (case k1x252 => k_asm); (case k2x252 => k_asm); (case k3x252 => k_asm); (case k4x252 => k_asm); (case kOx252 => first | assumption | exact List.forall_mem_nil _); (case k5x252 => k_asm); (case k6x252 => k_is); (case k7x252 => k_is); (case k8x252 => ktr_room); (case k9x252 => first | exact BindsTo.of_eq (binds := [(_, _)]) rfl | exact BindsTo.of_eq (binds := [(_, _), (_, _)]) rfl | exact BindsTo.of_eq (binds := [(_, _), (_, _), (_, _)]) rfl | exact BindsTo.of_eq (binds := [(_, _), (_, _), (_, _), (_, _)]) rfl | exact BindsTo.of_eq rfl); (case kBx252 => exact rfl); (case kDx252 => decide +kernel); (case c2x252 => exact rfl); (case c3x252 => exact rfl); (case c4x252 => exact rfl); walk_at "mine eRC"))
  have codeHd : CodeHd _ 124 120 := codeHd_of_K (c := 124) (P := 120) (by assumption) (by kernel_rfl)
  refine noE ?_
  (k_steps; (all_goals (try k_data)))
  (k_dflt (refine' call_cls ?k1x261 ?k2x261 ?k3x261 ?k4x261 ?k5x261 ?k6x261 ?_; (case k1x261 => k_asm); (case k2x261 => k_asm); (case k3x261 => k_asm); (case k4x261 => k_is); (case k5x261 => k_is); (case k6x261 => k_is); walk_at "mine eL"; (refine' code_def ?k1x262 ?k2x262 ?k3x262 ?k4x262 ?k5x262 ?kAx262 ?kFx262 ?kKx262 ?k6x262 ?k7x262 ?k8x262 ?k9x262 ?kBx262 ?_ ?c2x262 ?c3x262 ?c4x262 ?c5x262; (case kAx262 => exact rfl); (case kFx262 => exact rfl); (case kKx262 => first | assumption | exact rfl); (case k1x262 => k_asm); (case k2x262 => k_asm); (case k3x262 => k_asm); (case k4x262 => k_asm); (case k5x262 => k_asm); (case k6x262 => k_is); (case k7x262 => k_is); (case k8x262 => ktr_room); (case k9x262 => first | exact BindsTo.of_eq (binds := [(_, _)]) rfl | exact BindsTo.of_eq (binds := [(_, _), (_, _)]) rfl | exact BindsTo.of_eq (binds := [(_, _), (_, _), (_, _)]) rfl | exact BindsTo.of_eq (binds := [(_, _), (_, _), (_, _), (_, _)]) rfl | exact BindsTo.of_eq rfl); (case c5x262 => decide); (case kBx262 => exact locs rfl); (case c2x262 => exact rfl); (case c3x262 => exact rfl); (case c4x262 => exact rfl); walk_at "mine eD"); refine noE ?_))
  (k_steps; (all_goals (try k_data)))
  exact lex_finN (c := c) (oc := oc) (c1 := c1) (oc1 := oc1) (rest' := rest') (by assumption) (by assumption) (by assumption) (by assumption) hoc hoc1 (by assumption) (by walk_at "mine pick1") (by walk_at "mine pick1") (by walk_at "mine pick1") (by walk_at "mine pick1") (by walk_at "mine pick1") (by walk_at "mine pick1") (by walk_at "mine pick1") (by kd_adr) offc fun v n hP kF kN => hret v n _ _ hP kF kN
end
section
noncomputable def deedF (number gaps left : Int) : Int :=
  if gaps = left + 1 then 3 else if number.fmod 4 = 0 ∧ gaps = left then 1 else if number.fmod 4 = 3 ∧ gaps = 1 then 2 else number.fmod 4
theorem deed_c {w : World} (number gaps left : Int) (t1 t2 t3 : Tok) (news : List (Addr × Obj)) (h1 : 0 ≤ number) (h2 : number ≤ 1000000) (h3 : 0 ≤ gaps) (h4 : gaps ≤ 100) (h5 : 0 ≤ left) (h6 : left ≤ 100) :
   Ct w 2 139 [.int number t1, .int gaps t2, .int left t3] news (fun u n => (∃ t, u = .int (deedF number gaps left) t) ∧ n = news) := by
  unfold Ct
  k_fill
  intros
  rename_i hret
  refine wpAny_call ?_
  have off : ∀ p ∈ ([] : List (Addr × Obj)), ∀ q ∈ news, p.1 ≠ q.1 := fun _ h => nomatch h
  rename News _ _ _ _ => nN
  rw [← List.nil_append news] at nN
  (k_dflt (refine' code_defR ?k1x238 ?k2x238 ?k3x238 ?k4x238 ?kOx238 ?k5x238 ?kAx238 ?kFx238 ?kKx238 ?k6x238 ?k7x238 ?k8x238 ?k9x238 ?kBx238 ?_ ?c2x238 ?c3x238 ?c4x238 ?c5x238; (case kAx238 => exact rfl); (case kFx238 => exact rfl); (case kKx238 => assumption); (case k1x238 => k_asm); (case k2x238 => k_asm); (case k3x238 => k_asm); (case k4x238 => k_asm); (case kOx238 => first | assumption | exact List.forall_mem_nil _); (case k5x238 => k_asm); (case k6x238 => k_is); (case k7x238 => k_is); (case k8x238 => ktr_room); (case k9x238 => first | exact BindsTo.of_eq (binds := [(_, _)]) rfl | exact BindsTo.of_eq (binds := [(_, _), (_, _)]) rfl | exact BindsTo.of_eq (binds := [(_, _), (_, _), (_, _)]) rfl | exact BindsTo.of_eq (binds := [(_, _), (_, _), (_, _), (_, _)]) rfl | exact BindsTo.of_eq rfl); (case c5x238 => decide); (case kBx238 => exact locs rfl); (case c2x238 => exact rfl); (case c3x238 => exact rfl); (case c4x238 => exact rfl); walk_at "mine eR"))
  refine noE ?_
  (k_steps; (all_goals (try k_data)))
  all_goals (dsimp only; refine leaveR_ (news' := []) (by assumption) (by assumption) (fun _ h => h) fun kF kN _ => hret _ _ _ _ ⟨⟨_, congrArg (Value.int · _) ?_⟩, rfl⟩ kF kN; unfold deedF; (repeat' split) <;> lia)
end
section
noncomputable def plStep (gap : Str) (deed place : Int) (st : List Str × Int) (x : Str) : List Str × Int :=
  if (x != gap) = true then (st.1 ++ [x], st.2) else if st.2 ≠ place then (st.1 ++ [gap], st.2 + 1)
  else (st.1 ++ (if deed = 0 ∨ deed = 2 then [gap] else []) ++ [("." : Str)] ++ (if deed = 0 ∨ deed = 1 then [gap] else []), st.2 + 1)
noncomputable def placedF (ws : List Str) (gap : Str) (deed place : Int) : List Str := (ws.foldl (plStep gap deed place) ([], 0)).1
theorem push_mk (l : List Value) (v : Value) : (Array.push ⟨l⟩ v : Array Value) = ⟨l ++ [v]⟩ := Array.toList_inj.mp (by simp)
theorem plStep_len (gap : Str) (deed place : Int) (st : List Str × Int) (x : Str) : (plStep gap deed place st x).1.length ≤ st.1.length + 3 ∧ st.2 ≤ (plStep gap deed place st x).2 ∧ (plStep gap deed place st x).2 ≤ st.2 + 1 := by
  unfold plStep
  split
  · simp only [List.length_append, List.length_cons, List.length_nil]; lia
  · split
    · simp only [List.length_append, List.length_cons, List.length_nil]; lia
    · simp only [List.length_append, List.length_cons, List.length_nil]
      refine ⟨?_, by lia, by lia⟩
      split <;> split <;> simp only [List.length_cons, List.length_nil] <;> lia
theorem plLen (gap : Str) (deed place : Int) : ∀ (l : List Str) (st : List Str × Int), (l.foldl (plStep gap deed place) st).1.length ≤ st.1.length + 3 * l.length ∧ st.2 ≤ (l.foldl (plStep gap deed place) st).2 ∧ (l.foldl (plStep gap deed place) st).2 ≤ st.2 + l.length
  | [], st => ⟨Nat.le_refl _, Int.le_refl _, by simp⟩
  | x :: r, st => by
    have h1 := plLen gap deed place r (plStep gap deed place st x)
    have h2 := plStep_len gap deed place st x
    simp only [List.foldl_cons, List.length_cons]
    lia
inductive PlacedP (ws : List Str) (gap : Str) (deed place : Int) (rest : List (Addr × Obj)) : Value → List (Addr × Obj) → Prop
  | mk (l : Addr) (ys : List Value) (e : Nat) (hys : StrsAre ys (placedF ws gap deed place)) (off : ∀ q ∈ rest, l ≠ q.1) : PlacedP ws gap deed place rest (.ref l) ((l, listOf ⟨ys⟩ e) :: rest)
inductive PlacedK (ws : List Str) (gap : Str) (deed place : Int) (ll : Addr) (en : Addr × Obj) (i : Nat) : List (Option Value) → List (Addr × Obj) → Prop
  | mk (u : Option Value) (t : Tok) (xs : List Str) (met : Int) (ys : List Value) (e : Nat) (hys : StrsAre ys xs) (hst : (xs, met) = (ws.take i).foldl (plStep gap deed place) ([], 0)) : PlacedK ws gap deed place ll en i [u, some (.int met t)] [(ll, listOf ⟨ys⟩ e), en]
theorem placed_c {w : World} {rest} (lw : Addr) (vs : List Value) (ep : Nat) (ws : List Str) (gap : Str) (deed place : Int) (t1 t2 t3 : Tok) (hs : StrsAre vs ws) (hz : ws.length ≤ 100) (hd : 0 ≤ deed ∧ deed ≤ 3) (hp : 0 ≤ place ∧ place ≤ 100) (off : ∀ p ∈ [(lw, listOf ⟨vs⟩ ep)], ∀ q ∈ rest, p.1 ≠ q.1) :
   Ct w 2 146 [.ref lw, .str gap t1, .int deed t2, .int place t3] ([(lw, listOf ⟨vs⟩ ep)] ++ rest) (PlacedP ws gap deed place ((lw, listOf ⟨vs⟩ ep) :: rest)) := by
  unfold Ct
  k_fill
  intros
  rename_i hret
  refine wpAny_call ?_
  (k_dflt (refine' code_defR ?k1x240 ?k2x240 ?k3x240 ?k4x240 ?kOx240 ?k5x240 ?kAx240 ?kFx240 ?kKx240 ?k6x240 ?k7x240 ?k8x240 ?k9x240 ?kBx240 ?_ ?c2x240 ?c3x240 ?c4x240 ?c5x240; (case kAx240 => exact rfl); (case kFx240 => exact rfl); (case kKx240 => assumption); (case k1x240 => k_asm); (case k2x240 => k_asm); (case k3x240 => k_asm); (case k4x240 => k_asm); (case kOx240 => first | assumption | exact List.forall_mem_nil _); (case k5x240 => k_asm); (case k6x240 => k_is); (case k7x240 => k_is); (case k8x240 => ktr_room); (case k9x240 => first | exact BindsTo.of_eq (binds := [(_, _)]) rfl | exact BindsTo.of_eq (binds := [(_, _), (_, _)]) rfl | exact BindsTo.of_eq (binds := [(_, _), (_, _), (_, _)]) rfl | exact BindsTo.of_eq (binds := [(_, _), (_, _), (_, _), (_, _)]) rfl | exact BindsTo.of_eq rfl); (case c5x240 => decide); (case kBx240 => exact locs rfl); (case c2x240 => exact rfl); (case c3x240 => exact rfl); (case c4x240 => exact rfl); walk_at "mine eR"))
  refine noE ?_
  (k_steps; (all_goals (try k_data)))
  rename_i ll hpB ll1 hpA mA hpC mC F1 N1
  refine iter_up [("word" : Str), ("met" : Str)] (PlacedK ws gap deed place ll (lw, listOf ⟨vs⟩ ep)) (by assumption) (by assumption) (by k_mem) ⟨_, _, [], 0, [], 0, .nil, rfl⟩ (fun I hI => ?_)
  k_lt hI
  refine ⟨?_, ?_, ?_⟩
  · rintro i vals n hIK
    induction hIK with
    | mk u t xs met ys e _ _ =>
    exact ⟨by k_mem, by walk_at "mine lt"⟩
  · rintro i v vals n o h tk hv hIK F₁ N₁
    induction hIK with
    | mk u t xs met ys e hys hst =>
    intro qE
    obtain ⟨word, tw, hw, rfl⟩ := strs_get hs (by simpa using hv)
    have hi : i < ws.length := (List.getElem?_eq_some_iff.mp hw).1
    have hx' := take_succ_foldl (plStep gap deed place) ([], 0) hw
    rw [← hst] at hx'
    have hlen := plLen gap deed place (ws.take i) ([], 0)
    rw [← hst] at hlen
    simp only [List.length_nil, List.length_take] at hlen
    have hyl := hys.length
    (k_steps; (all_goals (try k_data)))
    all_goals (first
      | (exfalso; lia)
      | (rename News _ _ _ _ => mN; simp only [push_mk] at mN; (try dsimp only); first
        | (refine EndL.cont (by assumption) mN (by walk_at "mine sub") ⟨_, ⟨_, _, xs ++ [(word : Str)], met, _, _, (strs_append hys (strs_one word tw)), ?_⟩, (by (refine up_off ?mua ?mub; (case mub => exact rfl); (case mua => walk_at "mine off")))⟩; rw [hx']; clear hst hx' hlen hyl; unfold plStep; simp [*]; done)
        | (refine EndL.next (by assumption) mN (by walk_at "mine sub") ⟨_, ⟨_, _, xs ++ [(gap : Str)], met + 1, _, _, (strs_append hys (strs_one gap t1)), ?_⟩, (by (refine up_off ?mua ?mub; (case mub => exact rfl); (case mua => walk_at "mine off")))⟩; rw [hx']; clear hst hx' hlen hyl; unfold plStep; simp [*]; done)
        | (refine EndL.next (by assumption) mN (by walk_at "mine sub") ⟨_, ⟨_, _, xs ++ [(gap : Str)] ++ [("." : Str)] ++ [(gap : Str)], met + 1, _, _, (strs_append (strs_append (strs_append hys (strs_one gap t1)) (strs_one "." _)) (strs_one gap t1)), ?_⟩, (by (refine up_off ?mua ?mub; (case mub => exact rfl); (case mua => walk_at "mine off")))⟩; rw [hx']; clear hst hx' hlen hyl; unfold plStep; simp [*]; done)
        | (refine EndL.next (by assumption) mN (by walk_at "mine sub") ⟨_, ⟨_, _, xs ++ [(gap : Str)] ++ [("." : Str)], met + 1, _, _, (strs_append (strs_append hys (strs_one gap t1)) (strs_one "." _)), ?_⟩, (by (refine up_off ?mua ?mub; (case mub => exact rfl); (case mua => walk_at "mine off")))⟩; rw [hx']; clear hst hx' hlen hyl; unfold plStep; simp [*]; done)
        | (refine EndL.next (by assumption) mN (by walk_at "mine sub") ⟨_, ⟨_, _, xs ++ [("." : Str)] ++ [(gap : Str)], met + 1, _, _, (strs_append (strs_append hys (strs_one "." _)) (strs_one gap t1)), ?_⟩, (by (refine up_off ?mua ?mub; (case mub => exact rfl); (case mua => walk_at "mine off")))⟩; rw [hx']; clear hst hx' hlen hyl; unfold plStep; simp [*]; done)
        | (refine EndL.next (by assumption) mN (by walk_at "mine sub") ⟨_, ⟨_, _, xs ++ [("." : Str)], met + 1, _, _, (strs_append hys (strs_one "." _)), ?_⟩, (by (refine up_off ?mua ?mub; (case mub => exact rfl); (case mua => walk_at "mine off")))⟩; rw [hx']; clear hst hx' hlen hyl; unfold plStep; simp [*]; done)))
  · rintro vals n h' tk hIK F₁ N₁
    induction hIK with
    | mk u t xs met ys e hys hst =>
    (k_steps; (all_goals (try k_data)))
    dsimp only
    have hfin : xs = placedF ws gap deed place := by
      rw [List.take_of_length_le (by rw [← hs.length]; simp)] at hst; exact congrArg Prod.fst hst
    rw [hfin] at hys
    exact leaveR_ (by assumption) (by assumption) (by walk_at "mine sub") fun kF kN ko => hret _ _ _ _ ⟨ll, ys, e, hys, fun q hq => by
      rcases List.mem_cons.mp hq with rfl | hq
      · exact neN (by lia)
      · exact ko (ll, _) (.head _) q hq⟩ kF kN
end
section
noncomputable def pick3 (a b c : Str) (j : Int) : Str := if j = 0 then a else if j = 1 then b else c
theorem pick3_K {prog : Program} {w : World} {A : Around} {E : Value → Shared → Prop} {s : Shared} {h₀ : Heap} {L : Addr} {news : List (Addr × Obj)} {value slice : Expr} {l : Addr} {x y z : Str} {t1 t2 t3 : Tok} {n : Nat} {k : Int} {u : Tok} {Q : Value → Shared → Prop}
    (N : News h₀ L s.heap news) (hm : (l, listOf #[.str x t1, .str y t2, .str z t3] n) ∈ news) (h0 : 0 ≤ k) (h1 : k < 3) (h : ∀ t, Q (.str (pick3 x y z k) t) s)
    (hs : subscripted slice false (.ref l) (.int k u) = operate [.ref l, .int k u] (getItem (.ref l) (.int k u)) := by with_unfolding_all rfl) :
    wpAny (model prog w) A (subscriptTail value slice (.ref l) (.int k u)) Q E s := by
  have hl : s.heap.IsList l [Value.str x t1, .str y t2, .str z t3].toArray := ⟨_, (N _ hm).1, rfl, n, rfl⟩
  refine kba_turn (value' := .Name "x" default) (fun _ => by with_unfolding_all rfl) ?_
  refine item_strsA hl (.cons x t1 (.cons y t2 (.cons z t3 .nil))) h0 (by simp; lia) (by lia) ?_ hs (fun _ => by with_unfolding_all rfl)
  intro t
  have e : [x, y, z].getD k.toNat Str.empty = pick3 x y z k := by
    have : k = 0 ∨ k = 1 ∨ k = 2 := by lia
    rcases this with rfl | rfl | rfl <;> rfl
  rw [e]
  exact h t
end
section
local macro_rules | `(tactic| walk_at "subscriptTail List cons BinOp ref int") => `(tactic| walk_at "mine stop")
theorem gen_toks {M : Model} {A : Around} {t : Sem Flow} {Q : Flow → Shared → Prop} {E : Value → Shared → Prop} {h : Heap} {g : Array GenState} {d : Drawn} {k : Nat} {o : OsState} (p : ∀ tk, wpAny M A t Q E ⟨h, g, d, tk, o⟩) : wpAny M A t Q E ⟨h, g, d, k + 1, o⟩ := p _
local macro_rules | `(tactic| walk_at "mine toks") => `(tactic| (k_here; with_reducible refine gen_toks ?_; intro _))
local macro_rules | `(tactic| walk_at "execs nil") => `(tactic| walk_at "mine toks")
local macro_rules | `(tactic| walk_at "execs cons") => `(tactic| walk_at "mine toks")
noncomputable def tupO (vs : Array Value) : Obj := { cls := .type "tuple", data := .seq vs }
noncomputable def writtenF (gap : Str) (number : Int) : Str :=
  if (number.fdiv 1152).fmod 3 = 1 then (if isIn gap "\"\\" = true then ("\"\\" : Str) ++ gap ++ "\"" else ("\"" : Str) ++ gap ++ "\"")
  else if (number.fdiv 1152).fmod 3 = 2 ∧ isIn gap " \t\"\\" = false then gap else ("\\" : Str) ++ gap
noncomputable def rowG (x gap wr : Str) : Str := if (x == gap) = true then wr else x
noncomputable def mailRow (gap : Str) (number : Int) (k : Nat) (x : Str) : Str := rowG x gap (writtenF gap number) ++ pick3 "" " " "\t" ((number.fdiv 3456 + k).fmod 3)
noncomputable def mailEnd (number : Int) (n k : Nat) : Str := if (k : Int) + 1 = n ∧ (number.fdiv 576).fmod 2 = 1 then "" else pick3 "\n" "\r" "\r\n" ((number.fdiv 192 + k).fmod 3)
noncomputable def dotted (row due : Str) : Str := if (Txt.item row 0 == ".") = true then due ++ "." else due
noncomputable def mailAt (ws : List Str) (gap : Str) (number : Int) : Nat → Str × Str
  | 0 => ("", "")
  | k + 1 =>
    let st := mailAt ws gap number k
    let row := mailRow gap number k (ws.getD k Str.empty)
    let e := mailEnd number ws.length k
    (st.1 ++ (row ++ e), if (e != "") = true then dotted row st.2 ++ row ++ "\r\n" else dotted row st.2 ++ row)
theorem pick3_len (a b c : Str) (j : Int) (n : Nat) (ha : a.length ≤ n) (hb : b.length ≤ n) (hc : c.length ≤ n) : (pick3 a b c j).length ≤ n := by
  unfold pick3; split <;> try split
  all_goals assumption
theorem writtenF_len {gap : Str} {number : Int} (hg : gap.length = 1) : 1 ≤ (writtenF gap number).length ∧ (writtenF gap number).length ≤ 4 := by
  unfold writtenF
  split <;> split <;> (try simp only [Str.length_append]) <;> rw [hg] <;> decide
theorem rowG_len {x gap wr : Str} (h1 : 1 ≤ x.length ∧ x.length ≤ 6) (h2 : 1 ≤ wr.length ∧ wr.length ≤ 4) : 1 ≤ (rowG x gap wr).length ∧ (rowG x gap wr).length ≤ 6 := by
  unfold rowG; split <;> lia
inductive MailP (ws : List Str) (gap : Str) (number : Int) (rest : List (Addr × Obj)) : Value → List (Addr × Obj) → Prop
  | mk (D : Addr) (text due : Str) (tt td : Tok) (h : (text, due) = mailAt ws gap number ws.length) (h1 : text.length ≤ 100) (h2 : due.length ≤ 120) (off : ∀ q ∈ rest, D ≠ q.1) : MailP ws gap number rest (.ref D) ((D, tupO #[.str text tt, .str due td]) :: rest)
inductive MailK (ws : List Str) (gap : Str) (number : Int) (led : List (Addr × Obj)) (i : Nat) : List (Option Value) → List (Addr × Obj) → Prop
  | mk (uk ur ue : Option Value) (text due : Str) (tt td : Tok) (hst : (text, due) = mailAt ws gap number i) (h1 : text.length ≤ 10 * i) (h2 : due.length ≤ 12 * i) : MailK ws gap number led i [uk, ur, ue, some (.str text tt), some (.str due td)] led
-- a str of some token
inductive IsStr (x : Str) : Option Value → Prop
  | mk (t : Tok) : IsStr x (some (.str x t))
theorem IsStr.of {x y : Str} {t : Tok} (e : y = x) : IsStr x (some (.str y t)) := e ▸ .mk t
theorem rowG_t {x gap wr : Str} (h : (x == gap) = true) : wr = rowG x gap wr := (if_pos h).symm
theorem rowG_f {x gap wr : Str} (h : (x == gap) = false) : x = rowG x gap wr := (if_neg (Bool.not_eq_true _ ▸ h)).symm
theorem dotted_t {row due : Str} (h : (Txt.item row 0 == ".") = true) : due ++ "." = dotted row due := (if_pos h).symm
theorem dotted_f {row due : Str} (h : (Txt.item row 0 == ".") = false) : due = dotted row due := (if_neg (Bool.not_eq_true _ ▸ h)).symm
theorem mailEnd_t {number : Int} {n k : Nat} (h : (k : Int) + 1 = n) (h2 : (number.fdiv 576).fmod 2 = 1) : "" = mailEnd number n k := (if_pos ⟨h, h2⟩).symm
theorem mailEnd_f {number : Int} {n k : Nat} (h : (number.fdiv 576).fmod 2 ≠ 1) : pick3 "\n" "\r" "\r\n" ((number.fdiv 192 + k).fmod 3) = mailEnd number n k := (if_neg fun g => h g.2).symm
theorem mailEnd_g {number : Int} {n k : Nat} (h : (k : Int) + 1 ≠ n) : pick3 "\n" "\r" "\r\n" ((number.fdiv 192 + k).fmod 3) = mailEnd number n k := (if_neg fun g => h g.1).symm
theorem getD_mem {xs : List Str} {i : Nat} (h : i < xs.length) : xs.getD ((i : Int)).toNat Str.empty ∈ xs := by
  show xs.getD i Str.empty ∈ xs
  rw [List.getD_eq_getElem?_getD, List.getElem?_eq_getElem h]
  exact List.getElem_mem h
theorem mail_c {w : World} {rest} (lw : Addr) (vs : List Value) (ep : Nat) (ws : List Str) (gap : Str) (number : Int) (t1 t2 : Tok) (hs : StrsAre vs ws) (hz : ws.length ≤ 10) (hg : gap.length = 1) (hwl : ∀ x ∈ ws, 1 ≤ x.length ∧ x.length ≤ 6) (hn : 0 ≤ number ∧ number ≤ 1000000) (off : ∀ p ∈ [(lw, listOf ⟨vs⟩ ep)], ∀ q ∈ rest, p.1 ≠ q.1) :
   Ct w 2 153 [.ref lw, .str gap t1, .int number t2] ([(lw, listOf ⟨vs⟩ ep)] ++ rest) (MailP ws gap number ((lw, listOf ⟨vs⟩ ep) :: rest)) := by
  unfold Ct
  k_fill
  intros
  rename_i hret
  refine wpAny_call ?_
  (k_dflt (refine' code_defR ?k1x242 ?k2x242 ?k3x242 ?k4x242 ?kOx242 ?k5x242 ?kAx242 ?kFx242 ?kKx242 ?k6x242 ?k7x242 ?k8x242 ?k9x242 ?kBx242 ?_ ?c2x242 ?c3x242 ?c4x242 ?c5x242; (case kAx242 => exact rfl); (case kFx242 => exact rfl); (case kKx242 => assumption); (case k1x242 => k_asm); (case k2x242 => k_asm); (case k3x242 => k_asm); (case k4x242 => k_asm); (case kOx242 => first | assumption | exact List.forall_mem_nil _); (case k5x242 => k_asm); (case k6x242 => k_is); (case k7x242 => k_is); (case k8x242 => ktr_room); (case k9x242 => first | exact BindsTo.of_eq (binds := [(_, _)]) rfl | exact BindsTo.of_eq (binds := [(_, _), (_, _)]) rfl | exact BindsTo.of_eq (binds := [(_, _), (_, _), (_, _)]) rfl | exact BindsTo.of_eq (binds := [(_, _), (_, _), (_, _), (_, _)]) rfl | exact BindsTo.of_eq rfl); (case c5x242 => decide); (case kBx242 => exact locs rfl); (case c2x242 => exact rfl); (case c3x242 => exact rfl); (case c4x242 => exact rfl); walk_at "mine eR"))
  refine noE ?_
  have mj := markJ
  (k_steps; (repeat' (unfold HandC; (k_dflt (refine' pick3_K (by k_asm) (by k_mem) (Int.fmod_nonneg_of_pos _ (by decide)) (Int.fmod_lt_of_pos _ (by decide)) ?_; intro _)); k_steps)); (all_goals (try k_data)))
  refine IfAt.join "written" (IsStr (writtenF gap number)) (by assumption) (by assumption) ?_ ?_
  · intro qJ
    rename MarkJ => mj
    clear mj hret
    (k_steps; (repeat' (unfold HandC; (k_dflt (refine' pick3_K (by k_asm) (by k_mem) (Int.fmod_nonneg_of_pos _ (by decide)) (Int.fmod_lt_of_pos _ (by decide)) ?_; intro _)); k_steps)); (all_goals (try k_data)))
    all_goals first
      | (exfalso; lia)
      | (refine IfEnd.mk (by assumption) (by assumption) (by walk_at "mine sub") ?_ (by (refine up_off ?mua ?mub; (case mub => exact rfl); (case mua => walk_at "mine off"))); exact .of (by unfold writtenF; simp [*]))
  · rintro h2 tk2 v hIK F2 N2
    induction hIK with
    | mk t =>
    have hvl := hs.length
    (k_steps; (repeat' (unfold HandC; (k_dflt (refine' pick3_K (by k_asm) (by k_mem) (Int.fmod_nonneg_of_pos _ (by decide)) (Int.fmod_lt_of_pos _ (by decide)) ?_; intro _)); k_steps)); (all_goals (try k_data)))
    rename_i r' t' u' v' h3 tk3 F3 N3 l1 I' h4 F4 N4 l2
    refine LoopC.range rfl ["k", "row", "end", "text", "due"] (MailK ws gap number [(r', rngO (ws.length : Int) t' u' v'), (lw, listOf ⟨vs⟩ ep)]) ws.length (by assumption) (by assumption) ⟨_, _, _, _, _, _, _, rfl, Nat.le_refl _, Nat.le_refl _⟩ ?_ ?_ ?_
    · rintro i vals n hIK
      induction hIK with
      | mk _ _ _ _ _ _ _ _ _ _ =>
      walk_at "mine lt"
    · rintro i vals n o h tk tv hi hIK F5 N5
      induction hIK with
      | mk uk ur ue text due tt td hst hl1 hl2 =>
      intro qE
      have hxl := hwl (ws.getD ((i : Int)).toNat Str.empty) (getD_mem hi)
      have hWl := writtenF_len (number := number) hg
      have hi10 : i ≤ 9 := Nat.le_of_lt_succ (Nat.lt_of_lt_of_le hi hz)
      have hl1' : text.length ≤ 90 := Nat.le_trans hl1 (Nat.mul_le_mul_left 10 hi10)
      have hl2' : due.length ≤ 108 := Nat.le_trans hl2 (Nat.mul_le_mul_left 12 hi10)
      (k_steps; (repeat' (unfold HandC; (k_dflt (refine' pick3_K (by k_asm) (by k_mem) (Int.fmod_nonneg_of_pos _ (by decide)) (Int.fmod_lt_of_pos _ (by decide)) ?_; intro _)); k_steps)); (all_goals (try k_data)))
      refine IfAt.join "row" (IsStr (rowG (ws.getD ((i : Int)).toNat Str.empty) gap (writtenF gap number))) (by assumption) (by assumption) ?_ ?_
      · intro qJ
        rename MarkJ => mj
        clear mj hret
        (k_steps; (repeat' (unfold HandC; (k_dflt (refine' pick3_K (by k_asm) (by k_mem) (Int.fmod_nonneg_of_pos _ (by decide)) (Int.fmod_lt_of_pos _ (by decide)) ?_; intro _)); k_steps)); (all_goals (try k_data)))
        all_goals first
          | (refine IfEnd.mk (by assumption) (by assumption) (by walk_at "mine sub") ?_ (by (refine up_off ?mua ?mub; (case mub => exact rfl); (case mua => walk_at "mine off"))); first | exact .of (rowG_t (by assumption)) | exact .of (rowG_f (by assumption)))
      · rintro h6 tk6 v hIK F6 N6
        induction hIK with
        | mk t6 =>
        have hrl := rowG_len (gap := gap) hxl hWl
        have hp1 := pick3_len "" " " "\t" ((number.fdiv 3456 + i).fmod 3) 1 (by decide) (by decide) (by decide)
        have hp2 := pick3_len "\n" "\r" "\r\n" ((number.fdiv 192 + i).fmod 3) 2 (by decide) (by decide) (by decide)
        (k_steps; (repeat' (unfold HandC; (k_dflt (refine' pick3_K (by k_asm) (by k_mem) (Int.fmod_nonneg_of_pos _ (by decide)) (Int.fmod_lt_of_pos _ (by decide)) ?_; intro _)); k_steps)); (all_goals (try k_data)))
        refine IfAt.join "end" (IsStr (mailEnd number ws.length i)) (by assumption) (by assumption) ?_ ?_
        · intro qJ
          rename MarkJ => mj
          clear mj hret
          (k_steps; (repeat' (unfold HandC; (k_dflt (refine' pick3_K (by k_asm) (by k_mem) (Int.fmod_nonneg_of_pos _ (by decide)) (Int.fmod_lt_of_pos _ (by decide)) ?_; intro _)); k_steps)); (all_goals (try k_data)))
          all_goals first
            | (refine IfEnd.mk (by assumption) (by assumption) (by walk_at "mine sub") ?_ (by (refine up_off ?mua ?mub; (case mub => exact rfl); (case mua => walk_at "mine off"))); first | exact .of (mailEnd_t (by assumption) (by assumption)) | exact .of (mailEnd_f (by assumption)) | exact .of (mailEnd_g (by assumption)))
        · rintro h7 tk7 v hIK F7 N7
          induction hIK with
          | mk t7 =>
          have hel : (mailEnd number ws.length i).length ≤ 2 := by
            unfold mailEnd; split
            · decide
            · exact hp2
          (k_steps; (repeat' (unfold HandC; (k_dflt (refine' pick3_K (by k_asm) (by k_mem) (Int.fmod_nonneg_of_pos _ (by decide)) (Int.fmod_lt_of_pos _ (by decide)) ?_; intro _)); k_steps)); (all_goals (try k_data)))
          have hRL : (mailRow gap number i (ws.getD ((i : Int)).toNat Str.empty)).length ≤ 7 := by
            unfold mailRow; rw [Str.length_append]; lia
          refine IfAt.join "due" (IsStr (dotted (mailRow gap number i (ws.getD ((i : Int)).toNat Str.empty)) due)) (by assumption) (by assumption) ?_ ?_
          · intro qJ
            rename MarkJ => mj
            clear mj hret
            (k_steps; (repeat' (unfold HandC; (k_dflt (refine' pick3_K (by k_asm) (by k_mem) (Int.fmod_nonneg_of_pos _ (by decide)) (Int.fmod_lt_of_pos _ (by decide)) ?_; intro _)); k_steps)); (all_goals (try k_data)))
            all_goals (refine IfEnd.mk (by assumption) (by assumption) (by walk_at "mine sub") ?_ (by (refine up_off ?mua ?mub; (case mub => exact rfl); (case mua => walk_at "mine off"))); first | exact .of (dotted_t (by assumption)) | exact .of (dotted_f (by assumption)))
          · rintro h8 tk8 v hIK F8 N8
            induction hIK with
            | mk t8 =>
            have hDl : (dotted (mailRow gap number i (ws.getD ((i : Int)).toNat Str.empty)) due).length ≤ 12 * i + 1 := by
              unfold dotted; split
              · rw [Str.length_append]; exact Nat.add_le_add_right hl2 1
              · exact Nat.le_succ_of_le hl2
            have hDl' : (dotted (mailRow gap number i (ws.getD ((i : Int)).toNat Str.empty)) due).length ≤ 109 := Nat.le_trans hDl (Nat.succ_le_succ (Nat.mul_le_mul_left 12 hi10))
            have hstep : mailAt ws gap number (i + 1) = (text ++ (mailRow gap number i (ws.getD ((i : Int)).toNat Str.empty) ++ mailEnd number ws.length i), if (mailEnd number ws.length i != "") = true then dotted (mailRow gap number i (ws.getD ((i : Int)).toNat Str.empty)) due ++ mailRow gap number i (ws.getD ((i : Int)).toNat Str.empty) ++ "\r\n" else dotted (mailRow gap number i (ws.getD ((i : Int)).toNat Str.empty)) due ++ mailRow gap number i (ws.getD ((i : Int)).toNat Str.empty)) := by
              unfold mailAt; rw [← hst]; exact rfl
            rename MarkJ => mj
            clear mj hret
            (k_steps; (repeat' (unfold HandC; (k_dflt (refine' pick3_K (by k_asm) (by k_mem) (Int.fmod_nonneg_of_pos _ (by decide)) (Int.fmod_lt_of_pos _ (by decide)) ?_; intro _)); k_steps)); (all_goals (try k_data)))
            all_goals first
              | (refine EndL.next (by assumption) (by assumption) (by walk_at "mine sub") ⟨_, ⟨_, _, _, text ++ (mailRow gap number i (ws.getD ((i : Int)).toNat Str.empty) ++ mailEnd number ws.length i), dotted (mailRow gap number i (ws.getD ((i : Int)).toNat Str.empty)) due ++ mailRow gap number i (ws.getD ((i : Int)).toNat Str.empty) ++ "\r\n", _, _, ?_, ?_, ?_⟩, by (refine up_off ?mua ?mub; (case mub => exact rfl); (case mua => walk_at "mine off"))⟩
                 · rw [hstep]; simp [*]
                 · simp only [Str.length_append]; lia
                 · have : (Str.ofString "\r\n").length = 2 := by decide
                   simp only [Str.length_append]; lia)
              | (refine EndL.next (by assumption) (by assumption) (by walk_at "mine sub") ⟨_, ⟨_, _, _, text ++ (mailRow gap number i (ws.getD ((i : Int)).toNat Str.empty) ++ mailEnd number ws.length i), dotted (mailRow gap number i (ws.getD ((i : Int)).toNat Str.empty)) due ++ mailRow gap number i (ws.getD ((i : Int)).toNat Str.empty), _, _, ?_, ?_, ?_⟩, by (refine up_off ?mua ?mub; (case mub => exact rfl); (case mua => walk_at "mine off"))⟩
                 · rw [hstep]; simp [*]
                 · simp only [Str.length_append]; lia
                 · simp only [Str.length_append]; lia)
    · rintro vals n h tk hIK F5 N5
      induction hIK with
      | mk uk ur ue text due tt td hst hl1 hl2 =>
      rename MarkJ => mj
      clear mj
      (k_steps; (repeat' (unfold HandC; (k_dflt (refine' pick3_K (by k_asm) (by k_mem) (Int.fmod_nonneg_of_pos _ (by decide)) (Int.fmod_lt_of_pos _ (by decide)) ?_; intro _)); k_steps)); (all_goals (try k_data)))
      dsimp only
      exact leaveR_ (news' := [(_, tupO #[.str text tt, .str due td]), (lw, listOf ⟨vs⟩ ep)]) (by assumption) (by assumption) (by walk_at "mine sub") fun kF kN ko => hret _ _ _ _ ⟨_, _, _, _, _, hst, by lia, by lia, fun q hq => by
        rcases List.mem_cons.mp hq with rfl | hq
        · exact neN (by lia)
        · exact ko _ (.head _) q hq⟩ kF kN
end
section
local macro_rules | `(tactic| walk_at "call builtin:str.split") => `(tactic| walk_at "mine stop")
local macro_rules | `(tactic| walk_at "call builtin:str.find") => `(tactic| walk_at "mine stop")
local macro_rules | `(tactic| walk_at "subscriptTail Name Constant ref int") => `(tactic| walk_at "mine stop")
local macro_rules | `(tactic| walk_at "subscriptTail Name UnaryOp ref int") => `(tactic| walk_at "mine stop")
local macro_rules | `(tactic| walk_at "delItem ref int") => `(tactic| walk_at "mine stop")
local macro_rules | `(tactic| walk_at "truthy str") => `(tactic| walk_at "mine stop")
noncomputable def ell0 (ws : List Str) (got : Str) : Option (List Str × Int) :=
  if (((ws.getD 0 Str.empty).length : Int) ≠ 0) then (if Txt.startswith got (ws.getD 0 Str.empty) = true then some (ws.tail, ((ws.getD 0 Str.empty).length : Int)) else none) else some (ws, 0)
noncomputable def ell1 (ws : List Str) (got : Str) : Option (List Str × Int) :=
  if (((ws.getD (ws.length - 1) Str.empty).length : Int) ≠ 0) then (if Txt.endswith got (ws.getD (ws.length - 1) Str.empty) = true then some (ws.dropLast, (got.length : Int) - ((ws.getD (ws.length - 1) Str.empty).length : Int)) else none) else some (ws, (got.length : Int))
noncomputable def ellGo (got : Str) (ep : Int) : List Str → Int → Bool
  | [], _ => true
  | w :: r, sp => if find4 got w sp ep < 0 then false else ellGo got ep r (find4 got w sp ep + w.length)
noncomputable def ellF (want got : Str) : Bool :=
  if isIn "..." want = false then want == got else
  match ell0 (Txt.split want "...") got with
  | none => false
  | some (ws1, sp) => match ell1 ws1 got with
    | none => false
    | some (ws2, ep) => if sp > ep then false else ellGo got ep ws2 sp
theorem ellGo_cons (got : Str) (ep : Int) (w : Str) (r : List Str) (sp : Int) : ellGo got ep (w :: r) sp = if find4 got w sp ep < 0 then false else ellGo got ep r (find4 got w sp ep + w.length) := rfl
section
open Builtin Builtin.Str
theorem occ_empty (x y : Str) (n : Nat) : (occurrences x y 0 x.length 1).isEmpty = (occurrences x y 0 x.length (n + 1)).isEmpty := by
  rcases StrLaws.occ_head x y 1 (by lia) with ⟨h1, n1⟩ | ⟨i, r, h1, a1, _⟩ <;> rcases StrLaws.occ_head x y (n + 1) (by lia) with ⟨h2, n2⟩ | ⟨j, q, h2, a2, _⟩ <;> rw [h1, h2]
  · exact absurd a2 (n1 _)
  · exact absurd a1 (n2 _)
  · rfl
theorem parts_len (x : Str) (l : List Nat) (n : Nat) : (partsBetween x l n).length = l.length + 1 := by
  unfold partsBetween; simp
theorem split_max {want : Str} : (Txt.split want "...").length ≤ want.length + 2 := by
  unfold Txt.split
  split
  · simp
  · split
    · simp
    · rw [parts_len]; have := StrLaws.occ_length_le want "..." 0 want.length (want.length + 1); lia
theorem split_two {want : Str} (h : isIn "..." want = true) : 2 ≤ (Txt.split want "...").length := by
  unfold isIn at h
  obtain ⟨i, hi, _⟩ := (StrLaws.found_iff want "...").mp h
  rw [occ_empty want "..." want.length] at h
  have hk : Str.strKind (Str.ofString "...") = 1 := by decide +kernel
  have := PyProof.Rows.strKind_pos want
  unfold Txt.split
  rw [if_neg (by simp; lia), if_neg (by simpa using h), parts_len]
  have : (occurrences want "..." 0 want.length (want.length + 1)) ≠ [] := by simpa using h
  have := List.length_pos_iff.mpr this
  lia
end
inductive EllK0 (ws : List Str) (got : Str) (l : Addr) : List (Option Value) → List (Addr × Obj) → Prop
  | mk (D : Addr) (o : Obj) (ws1 : List Str) (vs1 : List Value) (e1 : Nat) (sp : Int) (t : Tok) (he : ell0 ws got = some (ws1, sp)) (hs : StrsAre vs1 ws1) (hD : @LT.lt Nat _ l D) : EllK0 ws got l [some (.int sp t)] [(D, o), (l, listOf ⟨vs1⟩ e1)]
inductive EllK1 (ws1 : List Str) (got : Str) (l D : Addr) : List (Option Value) → List (Addr × Obj) → Prop
  | mk (o : Obj) (ws2 : List Str) (vs2 : List Value) (e2 : Nat) (ep : Int) (t : Tok) (he : ell1 ws1 got = some (ws2, ep)) (hs : StrsAre vs2 ws2) : EllK1 ws1 got l D [some (.int ep t)] [(D, o), (l, listOf ⟨vs2⟩ e2)]
inductive EllK2 (ws2 : List Str) (got : Str) (ep sp : Int) (led : List (Addr × Obj)) (i : Nat) : List (Option Value) → List (Addr × Obj) → Prop
  | mk (u : Option Value) (t : Tok) (sp' : Int) (h : ellGo got ep ws2 sp = ellGo got ep (ws2.drop i) sp') : EllK2 ws2 got ep sp led i [u, some (.int sp' t)] led
theorem ell_c {w : World} {rest} (want got : Str) (t1 t2 : Tok) (hw : want.length ≤ 100) (hg : got.length ≤ 100) :
   Ct w 2 38 [.str want t1, .str got t2] rest (fun u n => u = .bool (ellF want got) ∧ n = rest) := by
  unfold Ct
  k_fill
  intros
  rename_i hret
  refine wpAny_call ?_
  have off : ∀ p ∈ ([] : List (Addr×Obj)), ∀ q ∈ rest, p.1 ≠ q.1 := fun _ h => nomatch h
  rename News _ _ _ _ => nN
  rw [← List.nil_append rest] at nN
  (k_dflt (refine' code_defR ?k1x244 ?k2x244 ?k3x244 ?k4x244 ?kOx244 ?k5x244 ?kAx244 ?kFx244 ?kKx244 ?k6x244 ?k7x244 ?k8x244 ?k9x244 ?kBx244 ?_ ?c2x244 ?c3x244 ?c4x244 ?c5x244; (case kAx244 => exact rfl); (case kFx244 => exact rfl); (case kKx244 => assumption); (case k1x244 => k_asm); (case k2x244 => k_asm); (case k3x244 => k_asm); (case k4x244 => k_asm); (case kOx244 => first | assumption | exact List.forall_mem_nil _); (case k5x244 => k_asm); (case k6x244 => k_is); (case k7x244 => k_is); (case k8x244 => ktr_room); (case k9x244 => first | exact BindsTo.of_eq (binds := [(_, _)]) rfl | exact BindsTo.of_eq (binds := [(_, _), (_, _)]) rfl | exact BindsTo.of_eq (binds := [(_, _), (_, _), (_, _)]) rfl | exact BindsTo.of_eq (binds := [(_, _), (_, _), (_, _), (_, _)]) rfl | exact BindsTo.of_eq rfl); (case c5x244 => decide); (case kBx244 => exact locs rfl); (case c2x244 => exact rfl); (case c3x244 => exact rfl); (case c4x244 => exact rfl); walk_at "mine eR"))
  refine noE ?_
  (k_steps; (repeat' (unfold HandC; (first | ((with_reducible show wpAny _ _ (PySem.truthy _) _ _ _); k_dflt (refine' SBL.truthy (by lia) ?_)) | ((with_reducible show wpAny _ _ (call _ [_, _]) _ _ _); k_dflt (refine' split_K (by k_asm) (by k_asm) (by decide +kernel) (by rw [sizeLine_eq]; lia) ?_; walk_at "mine in")) | ((with_reducible show wpAny _ _ (call _ [_, _, _, _]) _ _ _); refine find4_K ?_) | ((with_reducible show wpAny _ _ (subscriptTail _ _ _ (Value.int 0 _)) _ _ _); k_dflt (refine' item0_K (by k_asm) (by k_mem) (by assumption) (by first | assumption | lia) ?_; intro _)) | ((with_reducible show wpAny _ _ (subscriptTail _ _ _ (Value.int (-1) _)) _ _ _); k_dflt (refine' itemL_K (by k_asm) (by k_mem) (by assumption) (by first | assumption | lia) ?_; intro _)) | ((with_reducible show wpAny _ _ (delItem _ (Value.int 0 _)) _ _ _); k_dflt (refine' del0_K ?k1x290 ?k2x290 ?kix290 ?kzx290 ?kyx290 ?kUx290 ?_; (case k1x290 => k_asm); (case k2x290 => k_asm); (case kUx290 => k_upd); (case kix290 => assumption); (case kzx290 => first | assumption | lia); (case kyx290 => first | assumption | lia); k_whole; intros)) | ((with_reducible show wpAny _ _ (delItem _ (Value.int (-1) _)) _ _ _); k_dflt (refine' delLast_K ?k1x291 ?k2x291 ?kix291 ?kzx291 ?kyx291 ?kUx291 ?_; (case k1x291 => k_asm); (case k2x291 => k_asm); (case kUx291 => k_upd); (case kix291 => assumption); (case kzx291 => first | assumption | lia); (case kyx291 => first | assumption | lia); k_whole; intros))); k_steps)); (all_goals (try k_data)))
  · rename_i hin l vs h1 tk1 hsA hsL l1 h2 m2 F2 N2
    have hz2 := split_two hin
    have hzm := split_max (want := want)
    obtain ⟨ws, hws⟩ : ∃ ws, ws = Txt.split want "..." := ⟨_, rfl⟩
    rw [← hws] at hsA hsL hz2 hzm
    have hvl := hsA.length
    have hw0 : (ws.getD 0 Str.empty).length ≤ 100 := by
      refine Nat.le_trans (hsL _ ?_) hw
      rw [List.getD_eq_getElem?_getD, List.getElem?_eq_getElem (by lia)]
      exact List.getElem_mem _
    have mj := markJ
    (k_steps; (repeat' (unfold HandC; (first | ((with_reducible show wpAny _ _ (PySem.truthy _) _ _ _); k_dflt (refine' SBL.truthy (by lia) ?_)) | ((with_reducible show wpAny _ _ (call _ [_, _]) _ _ _); k_dflt (refine' split_K (by k_asm) (by k_asm) (by decide +kernel) (by rw [sizeLine_eq]; lia) ?_; walk_at "mine in")) | ((with_reducible show wpAny _ _ (call _ [_, _, _, _]) _ _ _); refine find4_K ?_) | ((with_reducible show wpAny _ _ (subscriptTail _ _ _ (Value.int 0 _)) _ _ _); k_dflt (refine' item0_K (by k_asm) (by k_mem) (by assumption) (by first | assumption | lia) ?_; intro _)) | ((with_reducible show wpAny _ _ (subscriptTail _ _ _ (Value.int (-1) _)) _ _ _); k_dflt (refine' itemL_K (by k_asm) (by k_mem) (by assumption) (by first | assumption | lia) ?_; intro _)) | ((with_reducible show wpAny _ _ (delItem _ (Value.int 0 _)) _ _ _); k_dflt (refine' del0_K ?k1x297 ?k2x297 ?kix297 ?kzx297 ?kyx297 ?kUx297 ?_; (case k1x297 => k_asm); (case k2x297 => k_asm); (case kUx297 => k_upd); (case kix297 => assumption); (case kzx297 => first | assumption | lia); (case kyx297 => first | assumption | lia); k_whole; intros)) | ((with_reducible show wpAny _ _ (delItem _ (Value.int (-1) _)) _ _ _); k_dflt (refine' delLast_K ?k1x298 ?k2x298 ?kix298 ?kzx298 ?kyx298 ?kUx298 ?_; (case k1x298 => k_asm); (case k2x298 => k_asm); (case kUx298 => k_upd); (case kix298 => assumption); (case kzx298 => first | assumption | lia); (case kyx298 => first | assumption | lia); k_whole; intros))); k_steps)); (all_goals (try k_data)))
    refine IfAt.joinN ["startpos"] (EllK0 ws got l) (by assumption) ?_ ?_
    · intro qJ
      rename MarkJ => mj
      clear mj
      (k_steps; (repeat' (unfold HandC; (first | ((with_reducible show wpAny _ _ (PySem.truthy _) _ _ _); k_dflt (refine' SBL.truthy (by lia) ?_)) | ((with_reducible show wpAny _ _ (call _ [_, _]) _ _ _); k_dflt (refine' split_K (by k_asm) (by k_asm) (by decide +kernel) (by rw [sizeLine_eq]; lia) ?_; walk_at "mine in")) | ((with_reducible show wpAny _ _ (call _ [_, _, _, _]) _ _ _); refine find4_K ?_) | ((with_reducible show wpAny _ _ (subscriptTail _ _ _ (Value.int 0 _)) _ _ _); k_dflt (refine' item0_K (by k_asm) (by k_mem) (by assumption) (by first | assumption | lia) ?_; intro _)) | ((with_reducible show wpAny _ _ (subscriptTail _ _ _ (Value.int (-1) _)) _ _ _); k_dflt (refine' itemL_K (by k_asm) (by k_mem) (by assumption) (by first | assumption | lia) ?_; intro _)) | ((with_reducible show wpAny _ _ (delItem _ (Value.int 0 _)) _ _ _); k_dflt (refine' del0_K ?k1x304 ?k2x304 ?kix304 ?kzx304 ?kyx304 ?kUx304 ?_; (case k1x304 => k_asm); (case k2x304 => k_asm); (case kUx304 => k_upd); (case kix304 => assumption); (case kzx304 => first | assumption | lia); (case kyx304 => first | assumption | lia); k_whole; intros)) | ((with_reducible show wpAny _ _ (delItem _ (Value.int (-1) _)) _ _ _); k_dflt (refine' delLast_K ?k1x305 ?k2x305 ?kix305 ?kzx305 ?kyx305 ?kUx305 ?_; (case k1x305 => k_asm); (case k2x305 => k_asm); (case kUx305 => k_upd); (case kix305 => assumption); (case kzx305 => first | assumption | lia); (case kyx305 => first | assumption | lia); k_whole; intros))); k_steps)); (all_goals (try k_data)))
      · rename StrsAre _ _ => hsA
        exact IfEndN.mk (by assumption) (by assumption) (by walk_at "mine sub") ⟨_, _, _, _, _, _, _, (by unfold ell0; rw [if_pos (by assumption), if_pos (by assumption)]), strs_tail hsA, by assumption⟩ (by (refine up_off ?mua ?mub; (case mub => exact rfl); (case mua => walk_at "mine off")))
      · skip
        have e : ellF want got = false := by
          unfold ellF; rw [if_neg (by rw [hin]; decide), ← hws, show ell0 ws got = none from by unfold ell0; rw [if_pos (by assumption), if_neg (by rw [‹Txt.startswith _ _ = false›]; decide)]]
        exact leaveR_ (news' := []) (by assumption) (by assumption) (by walk_at "mine sub") fun kF kN ko => hret _ _ _ _ ⟨congrArg Value.bool e.symm, rfl⟩ kF kN
      · rename StrsAre _ _ => hsA
        exact IfEndN.mk (by assumption) (by assumption) (by walk_at "mine sub") ⟨_, _, _, _, _, _, _, (by unfold ell0; rw [if_neg (not_not_intro (by assumption))]), hsA, by assumption⟩ (by (refine up_off ?mua ?mub; (case mub => exact rfl); (case mua => walk_at "mine off")))
    · rename StrsAre _ _ => hsA
      rintro h3 tk3 vals n hIK F3 N3
      induction hIK with
      | mk D o ws1 vs1 e1 sp t he0 hs1 hlD =>
      clear hsA
      have hvl1 := hs1.length
      have hb : 1 ≤ ws1.length ∧ ws1.length ≤ 102 ∧ (∀ a ∈ ws1, a.length ≤ 100) ∧ 0 ≤ sp ∧ sp ≤ 100 := by
        unfold ell0 at he0
        split at he0
        · split at he0
          · cases he0
            refine ⟨by simp; lia, by simp; lia, fun a ha => Nat.le_trans (hsL a (List.mem_of_mem_tail ha)) hw, by lia, by lia⟩
          · cases he0
        · cases he0
          exact ⟨by lia, by lia, fun a ha => Nat.le_trans (hsL a ha) hw, by lia, by lia⟩
      obtain ⟨hb1, hb2, hb3, hb4, hb5⟩ := hb
      have hw1 : (ws1.getD (ws1.length - 1) Str.empty).length ≤ 100 := by
        refine hb3 _ ?_
        rw [List.getD_eq_getElem?_getD, List.getElem?_eq_getElem (by lia)]
        exact List.getElem_mem _
      (k_steps; (repeat' (unfold HandC; (first | ((with_reducible show wpAny _ _ (PySem.truthy _) _ _ _); k_dflt (refine' SBL.truthy (by lia) ?_)) | ((with_reducible show wpAny _ _ (call _ [_, _]) _ _ _); k_dflt (refine' split_K (by k_asm) (by k_asm) (by decide +kernel) (by rw [sizeLine_eq]; lia) ?_; walk_at "mine in")) | ((with_reducible show wpAny _ _ (call _ [_, _, _, _]) _ _ _); refine find4_K ?_) | ((with_reducible show wpAny _ _ (subscriptTail _ _ _ (Value.int 0 _)) _ _ _); k_dflt (refine' item0_K (by k_asm) (by k_mem) (by assumption) (by first | assumption | lia) ?_; intro _)) | ((with_reducible show wpAny _ _ (subscriptTail _ _ _ (Value.int (-1) _)) _ _ _); k_dflt (refine' itemL_K (by k_asm) (by k_mem) (by assumption) (by first | assumption | lia) ?_; intro _)) | ((with_reducible show wpAny _ _ (delItem _ (Value.int 0 _)) _ _ _); k_dflt (refine' del0_K ?k1x311 ?k2x311 ?kix311 ?kzx311 ?kyx311 ?kUx311 ?_; (case k1x311 => k_asm); (case k2x311 => k_asm); (case kUx311 => k_upd); (case kix311 => assumption); (case kzx311 => first | assumption | lia); (case kyx311 => first | assumption | lia); k_whole; intros)) | ((with_reducible show wpAny _ _ (delItem _ (Value.int (-1) _)) _ _ _); k_dflt (refine' delLast_K ?k1x312 ?k2x312 ?kix312 ?kzx312 ?kyx312 ?kUx312 ?_; (case k1x312 => k_asm); (case k2x312 => k_asm); (case kUx312 => k_upd); (case kix312 => assumption); (case kzx312 => first | assumption | lia); (case kyx312 => first | assumption | lia); k_whole; intros))); k_steps)); (all_goals (try k_data)))
      refine IfAt.joinN ["endpos"] (EllK1 ws1 got l D) (by assumption) ?_ ?_
      · intro qJ
        rename MarkJ => mj
        clear mj
        (k_steps; (repeat' (unfold HandC; (first | ((with_reducible show wpAny _ _ (PySem.truthy _) _ _ _); k_dflt (refine' SBL.truthy (by lia) ?_)) | ((with_reducible show wpAny _ _ (call _ [_, _]) _ _ _); k_dflt (refine' split_K (by k_asm) (by k_asm) (by decide +kernel) (by rw [sizeLine_eq]; lia) ?_; walk_at "mine in")) | ((with_reducible show wpAny _ _ (call _ [_, _, _, _]) _ _ _); refine find4_K ?_) | ((with_reducible show wpAny _ _ (subscriptTail _ _ _ (Value.int 0 _)) _ _ _); k_dflt (refine' item0_K (by k_asm) (by k_mem) (by assumption) (by first | assumption | lia) ?_; intro _)) | ((with_reducible show wpAny _ _ (subscriptTail _ _ _ (Value.int (-1) _)) _ _ _); k_dflt (refine' itemL_K (by k_asm) (by k_mem) (by assumption) (by first | assumption | lia) ?_; intro _)) | ((with_reducible show wpAny _ _ (delItem _ (Value.int 0 _)) _ _ _); k_dflt (refine' del0_K ?k1x318 ?k2x318 ?kix318 ?kzx318 ?kyx318 ?kUx318 ?_; (case k1x318 => k_asm); (case k2x318 => k_asm); (case kUx318 => k_upd); (case kix318 => assumption); (case kzx318 => first | assumption | lia); (case kyx318 => first | assumption | lia); k_whole; intros)) | ((with_reducible show wpAny _ _ (delItem _ (Value.int (-1) _)) _ _ _); k_dflt (refine' delLast_K ?k1x319 ?k2x319 ?kix319 ?kzx319 ?kyx319 ?kUx319 ?_; (case k1x319 => k_asm); (case k2x319 => k_asm); (case kUx319 => k_upd); (case kix319 => assumption); (case kzx319 => first | assumption | lia); (case kyx319 => first | assumption | lia); k_whole; intros))); k_steps)); (all_goals (try k_data)))
        · rename StrsAre _ _ => hsA
          exact IfEndN.mk (by assumption) (by assumption) (by walk_at "mine sub") ⟨_, _, _, _, _, _, (by unfold ell1; rw [if_pos (by assumption), if_pos (by assumption)]), strs_dropLast hsA⟩ (by (refine up_off ?mua ?mub; (case mub => exact rfl); (case mua => walk_at "mine off")))
        · skip
          have e : ellF want got = false := by
            unfold ellF; rw [if_neg (by rw [hin]; decide), ← hws, he0]; dsimp only; rw [show ell1 ws1 got = none from by unfold ell1; rw [if_pos (by assumption), if_neg (by rw [‹Txt.endswith _ _ = false›]; decide)]]
          exact leaveR_ (news' := []) (by assumption) (by assumption) (by walk_at "mine sub") fun kF kN ko => hret _ _ _ _ ⟨congrArg Value.bool e.symm, rfl⟩ kF kN
        · rename StrsAre _ _ => hsA
          exact IfEndN.mk (by assumption) (by assumption) (by walk_at "mine sub") ⟨_, _, _, _, _, _, (by unfold ell1; rw [if_neg (not_not_intro (by assumption))]), hsA⟩ (by (refine up_off ?mua ?mub; (case mub => exact rfl); (case mua => walk_at "mine off")))
      · rename StrsAre _ _ => hsA
        rintro h4 tk4 vals n hIK F4 N4
        induction hIK with
        | mk o2 ws2 vs2 e2 ep t3 he1 hs2 =>
        clear hsA
        have hvl2 := hs2.length
        have hb : ws2.length ≤ 102 ∧ (∀ a ∈ ws2, a.length ≤ 100) ∧ ep ≤ 100 ∧ -100 ≤ ep := by
          unfold ell1 at he1
          split at he1
          · split at he1
            · cases he1
              refine ⟨by simp; lia, fun a ha => hb3 a (List.dropLast_subset _ ha), by lia, by lia⟩
            · cases he1
          · cases he1
            exact ⟨by lia, hb3, by lia, by lia⟩
        obtain ⟨hc1, hc2, hc3, hc4⟩ := hb
        have hE : ellF want got = if sp > ep then false else ellGo got ep ws2 sp := by
          unfold ellF; rw [if_neg (by rw [hin]; decide), ← hws, he0]; dsimp only; rw [he1]
        rename MarkJ => mj
        clear mj
        (k_steps; (repeat' (unfold HandC; (first | ((with_reducible show wpAny _ _ (PySem.truthy _) _ _ _); k_dflt (refine' SBL.truthy (by lia) ?_)) | ((with_reducible show wpAny _ _ (call _ [_, _]) _ _ _); k_dflt (refine' split_K (by k_asm) (by k_asm) (by decide +kernel) (by rw [sizeLine_eq]; lia) ?_; walk_at "mine in")) | ((with_reducible show wpAny _ _ (call _ [_, _, _, _]) _ _ _); refine find4_K ?_) | ((with_reducible show wpAny _ _ (subscriptTail _ _ _ (Value.int 0 _)) _ _ _); k_dflt (refine' item0_K (by k_asm) (by k_mem) (by assumption) (by first | assumption | lia) ?_; intro _)) | ((with_reducible show wpAny _ _ (subscriptTail _ _ _ (Value.int (-1) _)) _ _ _); k_dflt (refine' itemL_K (by k_asm) (by k_mem) (by assumption) (by first | assumption | lia) ?_; intro _)) | ((with_reducible show wpAny _ _ (delItem _ (Value.int 0 _)) _ _ _); k_dflt (refine' del0_K ?k1x325 ?k2x325 ?kix325 ?kzx325 ?kyx325 ?kUx325 ?_; (case k1x325 => k_asm); (case k2x325 => k_asm); (case kUx325 => k_upd); (case kix325 => assumption); (case kzx325 => first | assumption | lia); (case kyx325 => first | assumption | lia); k_whole; intros)) | ((with_reducible show wpAny _ _ (delItem _ (Value.int (-1) _)) _ _ _); k_dflt (refine' delLast_K ?k1x326 ?k2x326 ?kix326 ?kzx326 ?kyx326 ?kUx326 ?_; (case k1x326 => k_asm); (case k2x326 => k_asm); (case kUx326 => k_upd); (case kix326 => assumption); (case kzx326 => first | assumption | lia); (case kyx326 => first | assumption | lia); k_whole; intros))); k_steps)); (all_goals (try k_data)))
        · dsimp only
          exact leaveR_ (news' := []) (by assumption) (by assumption) (by walk_at "mine sub") fun kF kN ko => hret _ _ _ _ ⟨congrArg Value.bool (by rw [hE, if_pos (by assumption)]), rfl⟩ kF kN
        · rw [if_neg (show ¬ sp > ep by lia)] at hE
          refine iter_up [("w" : Str), ("startpos" : Str)] (EllK2 ws2 got ep sp [(D, o2), (l, listOf ⟨vs2⟩ e2)]) (by assumption) (by assumption) (by k_mem) ⟨_, _, _, rfl⟩ (fun I hI => ?_)
          k_lt hI
          refine ⟨?_, ?_, ?_⟩
          · rintro i vals n hIK
            induction hIK with
            | mk u t sp' _ =>
            exact ⟨by k_mem, by walk_at "mine lt"⟩
          · rintro i v vals n o h tk hv hIK F₁ N₁
            induction hIK with
            | mk u t sp' hg =>
            intro qE
            obtain ⟨word, tw, hw, rfl⟩ := strs_get hs2 (by simpa using hv)
            have hwl := hc2 word (List.mem_of_getElem? hw)
            have hd : ws2.drop i = word :: ws2.drop (i + 1) := (List.getElem?_eq_some_iff.mp hw).elim fun hi e => by rw [List.drop_eq_getElem_cons hi, e]
            rw [hd] at hg
            (k_steps; (repeat' (unfold HandC; (first | ((with_reducible show wpAny _ _ (PySem.truthy _) _ _ _); k_dflt (refine' SBL.truthy (by lia) ?_)) | ((with_reducible show wpAny _ _ (call _ [_, _]) _ _ _); k_dflt (refine' split_K (by k_asm) (by k_asm) (by decide +kernel) (by rw [sizeLine_eq]; lia) ?_; walk_at "mine in")) | ((with_reducible show wpAny _ _ (call _ [_, _, _, _]) _ _ _); refine find4_K ?_) | ((with_reducible show wpAny _ _ (subscriptTail _ _ _ (Value.int 0 _)) _ _ _); k_dflt (refine' item0_K (by k_asm) (by k_mem) (by assumption) (by first | assumption | lia) ?_; intro _)) | ((with_reducible show wpAny _ _ (subscriptTail _ _ _ (Value.int (-1) _)) _ _ _); k_dflt (refine' itemL_K (by k_asm) (by k_mem) (by assumption) (by first | assumption | lia) ?_; intro _)) | ((with_reducible show wpAny _ _ (delItem _ (Value.int 0 _)) _ _ _); k_dflt (refine' del0_K ?k1x332 ?k2x332 ?kix332 ?kzx332 ?kyx332 ?kUx332 ?_; (case k1x332 => k_asm); (case k2x332 => k_asm); (case kUx332 => k_upd); (case kix332 => assumption); (case kzx332 => first | assumption | lia); (case kyx332 => first | assumption | lia); k_whole; intros)) | ((with_reducible show wpAny _ _ (delItem _ (Value.int (-1) _)) _ _ _); k_dflt (refine' delLast_K ?k1x333 ?k2x333 ?kix333 ?kzx333 ?kyx333 ?kUx333 ?_; (case k1x333 => k_asm); (case k2x333 => k_asm); (case kUx333 => k_upd); (case kix333 => assumption); (case kzx333 => first | assumption | lia); (case kyx333 => first | assumption | lia); k_whole; intros))); k_steps)); (all_goals (try k_data)))
            · skip
              exact leaveR_ (news' := []) (by assumption) (by assumption) (by walk_at "mine sub") fun kF kN ko => hret _ _ _ _ ⟨congrArg Value.bool (by rw [hE, hg, ellGo_cons, if_pos (by assumption)]), rfl⟩ kF kN
            · refine EndL.next (by assumption) (by assumption) (by walk_at "mine sub") ⟨_, ⟨_, _, _, ?_⟩, by (refine up_off ?mua ?mub; (case mub => exact rfl); (case mua => walk_at "mine off"))⟩
              rw [hg, ellGo_cons, if_neg (by assumption)]
          · rintro vals n h' tk hIK F₁ N₁
            induction hIK with
            | mk u t sp' hg =>
            (k_steps; (repeat' (unfold HandC; (first | ((with_reducible show wpAny _ _ (PySem.truthy _) _ _ _); k_dflt (refine' SBL.truthy (by lia) ?_)) | ((with_reducible show wpAny _ _ (call _ [_, _]) _ _ _); k_dflt (refine' split_K (by k_asm) (by k_asm) (by decide +kernel) (by rw [sizeLine_eq]; lia) ?_; walk_at "mine in")) | ((with_reducible show wpAny _ _ (call _ [_, _, _, _]) _ _ _); refine find4_K ?_) | ((with_reducible show wpAny _ _ (subscriptTail _ _ _ (Value.int 0 _)) _ _ _); k_dflt (refine' item0_K (by k_asm) (by k_mem) (by assumption) (by first | assumption | lia) ?_; intro _)) | ((with_reducible show wpAny _ _ (subscriptTail _ _ _ (Value.int (-1) _)) _ _ _); k_dflt (refine' itemL_K (by k_asm) (by k_mem) (by assumption) (by first | assumption | lia) ?_; intro _)) | ((with_reducible show wpAny _ _ (delItem _ (Value.int 0 _)) _ _ _); k_dflt (refine' del0_K ?k1x339 ?k2x339 ?kix339 ?kzx339 ?kyx339 ?kUx339 ?_; (case k1x339 => k_asm); (case k2x339 => k_asm); (case kUx339 => k_upd); (case kix339 => assumption); (case kzx339 => first | assumption | lia); (case kyx339 => first | assumption | lia); k_whole; intros)) | ((with_reducible show wpAny _ _ (delItem _ (Value.int (-1) _)) _ _ _); k_dflt (refine' delLast_K ?k1x340 ?k2x340 ?kix340 ?kzx340 ?kyx340 ?kUx340 ?_; (case k1x340 => k_asm); (case k2x340 => k_asm); (case kUx340 => k_upd); (case kix340 => assumption); (case kzx340 => first | assumption | lia); (case kyx340 => first | assumption | lia); k_whole; intros))); k_steps)); (all_goals (try k_data)))
            dsimp only
            rw [List.drop_of_length_le (by simp; lia)] at hg
            exact leaveR_ (news' := []) (by assumption) (by assumption) (by walk_at "mine sub") fun kF kN ko => hret _ _ _ _ ⟨congrArg Value.bool (by rw [hE, hg]; rfl), rfl⟩ kF kN
  · dsimp only
    exact leaveR_ (news' := []) (by assumption) (by assumption) (by walk_at "mine sub") fun kF kN ko => hret _ _ _ _ ⟨congrArg Value.bool (by unfold ellF; rw [if_pos (by assumption)]), rfl⟩ kF kN
end
section
noncomputable def charsOf (x : Str) : List Str := x.cps.toList.map (fun c => ⟨#[c]⟩)
noncomputable def leS (x a : Str) : Bool := decide (¬ x.cps.toList < a.cps.toList)
theorem find_in {x row : Str} (h : isIn x row = true) : 0 ≤ Txt.find row x ∧ Txt.find row x + x.length ≤ row.length := by
  unfold isIn at h
  unfold Txt.find
  rcases StrLaws.occ_head row x 1 (by lia) with ⟨h1, n1⟩ | ⟨i, r, h1, a1, _⟩
  · rw [h1] at h; cases h
  · rw [h1]
    have := a1.1
    simp only
    lia
noncomputable def lessF (row x : Str) : List Str := (charsOf row).filter (leS x)
theorem lessF_len {row x a : Str} (h : a ∈ lessF row x) : a.length = 1 := by
  unfold lessF charsOf at h
  obtain ⟨h, _⟩ := List.mem_filter.mp h
  obtain ⟨c, _, rfl⟩ := List.mem_map.mp h
  rfl
noncomputable def toldStep (row x : Str) (st : Int × Int × Int) (i : Nat) : Int × Int × Int :=
  if x.cps.toList < (Txt.item row i).cps.toList then
    if (i : Int) < Txt.find row x then
      (st.1 + ((lessF row x).filter (fun a => ellF (Txt.item row i ++ a ++ "..." ++ x) (Txt.slice row (some i) (some (Txt.find row x + 1))))).length, st.2.1, if ellF (Txt.item row i ++ x) (Txt.slice row (some i) (some (Txt.find row x + 1))) = true then st.2.2 + 1 else st.2.2)
    else (st.1, st.2.1 + ((lessF row x).filter (fun a => ellF (x ++ "..." ++ a ++ Txt.item row i) (Txt.slice row (some (Txt.find row x)) (some ((i : Int) + 1))))).length, st.2.2)
  else st
noncomputable def toldAt (row x : Str) : Nat → Int × Int × Int
  | 0 => (0, 0, 0)
  | i + 1 => toldStep row x (toldAt row x i) i
theorem bt {b : Bool} (h : (b == true) = true) : b = true := by simpa using h
theorem bf {b : Bool} (h : (b == true) = false) : b = false := by simpa using h
theorem bn {b : Bool} (h : (b == true) = false) : ¬ b = true := by simpa using h
theorem filter_take {xs : List Str} {i : Nat} {a : Str} (p : Str → Bool) (h : xs[i]? = some a) : (xs.take (i + 1)).filter p = (xs.take i).filter p ++ if p a = true then [a] else [] := by
  rw [List.take_add_one, h, List.filter_append]
  simp only [Option.toList]
  cases hp : p a <;> simp [hp]
inductive ToldP (row x : Str) (rest : List (Addr × Obj)) : Value → List (Addr × Obj) → Prop
  | mk (T : Addr) (left right near : Int) (tl tr tn : Tok) (h : (left, right, near) = toldAt row x row.length) (off : ∀ q ∈ rest, T ≠ q.1) : ToldP row x rest (.ref T) ((T, tupO #[.int left tl, .int right tr, .int near tn]) :: rest)
inductive ToldK (row x : Str) (a1 a2 : Addr) (e1 e2 e3 : Addr × Obj) (i : Nat) : List (Option Value) → List (Addr × Obj) → Prop
  | mk (u : Option Value) (left right near : Int) (tl tr tn : Tok) (p1 p2 : Obj) (c1 c2 : Option Value) (h1 : p1.data = .cell c1) (h2 : p2.data = .cell c2) (hst : (left, right, near) = toldAt row x i) : ToldK row x a1 a2 e1 e2 e3 i [u, some (.int left tl), some (.int right tr), some (.int near tn)] [e1, e2, (a1, p1), (a2, p2), e3]
open LCg in
theorem told_c {w : World} {rest} (row x : Str) (t1 t2 : Tok) (hr : row.length ≤ 10) (ha : row.cps.all (· < 128) = true) (hx : x.length = 1) (hi : isIn x row = true) :
   Ct w 4 165 [.str row t1, .str x t2] rest (ToldP row x rest) := by
  unfold Ct
  k_fill
  intros
  rename_i hret
  refine wpAny_call ?_
  have off : ∀ p ∈ ([] : List (Addr×Obj)), ∀ q ∈ rest, p.1 ≠ q.1 := fun _ h => nomatch h
  rename News _ _ _ _ => nN
  rw [← List.nil_append rest] at nN
  (k_dflt (refine' code_defRC ?k1x254 ?k2x254 ?k3x254 ?k4x254 ?kOx254 ?k5x254 ?kAx254 ?kFx254 ?kKx254 ?k6x254 ?k7x254 ?k8x254 ?k9x254 ?kBx254 ?kDx254 ?_ ?c2x254 ?c3x254 ?c4x254; (case kAx254 => exact rfl); (case kFx254 => exact rfl); (case kKx254 => assumption); (case k1x254 => k_asm); (case k2x254 => k_asm); (case k3x254 => k_asm); (case k4x254 => k_asm); (case kOx254 => first | assumption | exact List.forall_mem_nil _); (case k5x254 => k_asm); (case k6x254 => k_is); (case k7x254 => k_is); (case k8x254 => ktr_room); (case k9x254 => first | exact BindsTo.of_eq (binds := [(_, _)]) rfl | exact BindsTo.of_eq (binds := [(_, _), (_, _)]) rfl | exact BindsTo.of_eq (binds := [(_, _), (_, _), (_, _)]) rfl | exact BindsTo.of_eq (binds := [(_, _), (_, _), (_, _), (_, _)]) rfl | exact BindsTo.of_eq rfl); (case kBx254 => exact rfl); (case kDx254 => decide +kernel); (case c2x254 => exact rfl); (case c3x254 => exact rfl); (case c4x254 => exact rfl); walk_at "mine eRC"))
  rename_i g1 L1 h1 tk1 FG F1 B1 X1 T1 hR l1 o1 o2 o3 d1 d2 d3 N1
  replace d1 : o1.data = .cell none := d1
  replace d2 : o2.data = .cell none := d2
  replace d3 : o3.data = .cell (some (.str x t2)) := d3
  refine noE ?_
  refine letX ?_
  intro M9 e9 A9
  have mj := markJ
  have mc := markC
  have hfx := find_in hi
  (k_steps; (all_goals (try k_data)))
  · exfalso; lia
  unfold HandC
  k_dflt (refine Assign_ListComp_S (F₀ := by assumption) (by rfl) (by with_unfolding_all rfl) (by with_unfolding_all rfl) (by decide) (by rfl) (by decide) (by rfl) (by rfl) (by rfl) ?_)
  (k_steps; (all_goals (try k_data)))
  refine ⟨_, _, _, rfl, rfl, by assumption, by assumption, ha, (by rw [sizeLine_eq]; show row.length ≤ _; lia), ?_⟩
  rintro s₂ ⟨g, rfl⟩
  refine restT_loop (fun i ys n => AtN [(L1 + 1 + 1 + 1, o1), (L1 + 1 + 1, o2), (L1 + 1, o3)] (StrsAre ys (((charsOf row).take i).filter (leS x))) n) ?_ ?_ _ _ _ _ (Nat.zero_add _) ⟨.nil⟩
  · rintro i ys news v I oI C oC D m2 h tk E' hi hIK hP hC hx F N off ne
    induction hIK with
    | mk hJ =>
    obtain ⟨c, u, hc, rfl⟩ := hP
    have hci : (charsOf row)[i]? = some ⟨#[c]⟩ := by
      unfold charsOf
      rw [List.getElem?_map, show row.cps.toList[i]? = some c by simpa using hc]; rfl
    have htk : (charsOf row).take (i + 1) = (charsOf row).take i ++ [⟨#[c]⟩] := by
      rw [List.take_add_one, hci]; rfl
    (k_steps; (all_goals (try k_data)))
    · refine CompEnd.intro (by assumption) (by assumption) [(L1 + 1 + 1 + 1, o1), (L1 + 1 + 1, o2), (L1 + 1, o3)] (by walk_at "mine sub") off trivial ⟨?_⟩
      rw [htk, List.filter_append, show List.filter (leS x) [⟨#[c]⟩] = [] by simp [leS]; assumption, List.append_nil]
      exact hJ
    · refine CompEnd.intro (by assumption) (by assumption) [(L1 + 1 + 1 + 1, o1), (L1 + 1 + 1, o2), (L1 + 1, o3)] (by walk_at "mine sub") off trivial ⟨?_⟩
      rw [htk, List.filter_append, show List.filter (leS x) [⟨#[c]⟩] = [⟨#[c]⟩] by simp [leS]; assumption]
      exact strs_append hJ (strs_one _ _)
  · rintro ys news hIK
    induction hIK with
    | mk hys =>
    have hcz : (charsOf row).length = row.length := by simp [charsOf, Str.length]
    rw [List.take_of_length_le (by rw [hcz]; exact Nat.le_refl _)] at hys
    intro D h tk F N o1D
    replace N : News _ _ _ [(D, listOf ⟨ys⟩ ys.length), (L1 + 1 + 1 + 1, o1), (L1 + 1 + 1, o2), (L1 + 1, o3)] := N
    have hyl := hys.length
    have hll : ((charsOf row).filter (leS x)).length ≤ 10 := Nat.le_trans (List.length_filter_le _ _) (by lia)
    simp only [LCg.Off1, and_true] at o1D
    obtain ⟨of1, of2, of3⟩ := o1D
    rename MarkJ => mj
    clear mj
    (k_steps; (all_goals (try k_data)))
    rename_i r' t' u' v' h3 tk3 F3 N3 l3 I' h4 F4 N4 l4
    refine LoopC.range rfl ["there", "left", "right", "near"] (ToldK row x (L1 + 1 + 1 + 1) (L1 + 1 + 1) (r', rngO (row.length : Int) t' u' v') (D, listOf ⟨ys⟩ ys.length) (L1 + 1, o3)) row.length (by assumption) (by assumption) ⟨_, _, _, _, _, _, _, _, _, _, _, d1, d2, rfl⟩ ?_ ?_ ?_
    · rintro i vals n hIK
      induction hIK with
      | mk _ _ _ _ _ _ _ _ _ _ _ _ _ _ =>
      walk_at "mine lt"
    · rintro i vals n o h tk tv hi hIK F5 N5
      induction hIK with
      | mk u left right near tl tr tn p1 p2 c1 c2 e1 e2 hst =>
      intro qE
      change StrsAre ys (lessF row x) at hys
      have hat : toldAt row x (i + 1) = toldStep row x (left, right, near) i := by rw [toldAt, hst]
      (k_steps; (all_goals (try k_data)))
      · rename_i hlen h6 oC dC hcx hlt h7 t7 k7 hsl h8 oS F8 N8 dS
        unfold HandC
        k_dflt (refine LCt.ListComp_T (F₀ := by k_asm) (by with_unfolding_all rfl) (by decide) (by rfl) (by decide) (by rfl) ?_)
        (k_steps; (all_goals (try k_data)))
        refine LCt.CompSrcT.ledger (by rfl) (by assumption) (by assumption) (by k_mem) (by rw [sizeLine_eq]; show ys.length ≤ _; lia) ?_
        intro g
        refine restT_loop (fun j zs n => AtN [(I', o), (r', rngO (row.length : Int) t' u' v'), (D, listOf ⟨ys⟩ ys.length), (L1 + 1 + 1 + 1, oS), (L1 + 1 + 1, oC), (L1 + 1, o3)] (StrsAre zs (((lessF row x).take j).filter (fun a => ellF (Txt.item row i ++ a ++ "..." ++ x) (Txt.slice row (some i) (some (Txt.find row x + 1)))))) n) ?_ ?_ _ _ _ _ (Nat.zero_add _) ⟨.nil⟩
        · rintro j zs news v J oJ C oC' D' m2 h9 tk9 E' hj hIK hP hC hx2 F9 N9 off9 ne9
          induction hIK with
          | mk hzs =>
          obtain ⟨a, ta, hla, rfl⟩ := strs_get hys (by simpa using hP)
          have hal := lessF_len (List.mem_of_getElem? hla)
          (k_steps; (all_goals (try k_data)))
          refine Ct.useV (ell_c _ _ _ _ (by simp only [Str.length_append]; rw [hx, hal]; have : (Str.ofString "...").length = 3 := by decide
                                            lia) (by lia)) (by assumption) (by assumption) (by assumption) (by assumption) (by assumption) rfl (by (first | (show _ < _; decide) | exact room1 (k := 1) (by assumption) rfl | exact room2 (k := 3) (by assumption) rfl | exact room3 (by assumption) rfl | (simp only [recursionLimit, cLine] at *; lia))) (by (first | (show _ < _; decide) | exact room1 (k := 1) (by assumption) rfl | exact room2 (k := 3) (by assumption) rfl | exact room3 (by assumption) rfl | (simp only [recursionLimit, cLine] at *; lia))) ?_
          intro h10 tk10 F10 N10
          (k_steps; (all_goals (try k_data)))
          · refine CompEnd.intro (by assumption) (by assumption) [(I', o), (r', rngO (row.length : Int) t' u' v'), (D, listOf ⟨ys⟩ ys.length), (L1 + 1 + 1 + 1, oS), (L1 + 1 + 1, oC), (L1 + 1, o3)] (by walk_at "mine sub") off9 (.inr ⟨_, by k_mem, rfl, _, rfl⟩) ⟨?_⟩
            rw [filter_take _ hla, if_pos (bt (by assumption))]
            exact strs_append hzs (strs_one _ _)
          · refine CompEnd.intro (by assumption) (by assumption) [(I', o), (r', rngO (row.length : Int) t' u' v'), (D, listOf ⟨ys⟩ ys.length), (L1 + 1 + 1 + 1, oS), (L1 + 1 + 1, oC), (L1 + 1, o3)] (by walk_at "mine sub") off9 (.inr ⟨_, by k_mem, rfl, _, rfl⟩) ⟨?_⟩
            rw [filter_take _ hla, if_neg (bn (by assumption)), List.append_nil]
            exact hzs
        · rintro zs news hIK
          induction hIK with
          | mk hzs =>
          rw [List.take_of_length_le (by show (lessF row x).length ≤ ys.length; rw [hyl]; exact Nat.le_refl _)] at hzs
          intro D2 h10 tk10 F10 N10 o1D2
          replace N10 : News _ _ _ [(D2, listOf ⟨zs⟩ zs.length), (I', o), (r', rngO (row.length : Int) t' u' v'), (D, listOf ⟨ys⟩ ys.length), (L1 + 1 + 1 + 1, oS), (L1 + 1 + 1, oC), (L1 + 1, o3)] := N10
          have hzl := hzs.length
          have hzz := List.length_filter_le (fun a => ellF (Txt.item row i ++ a ++ "..." ++ x) (Txt.slice row (some i) (some (Txt.find row x + 1)))) (lessF row x)
          have hll' : (lessF row x).length ≤ 10 := hll
          (k_steps; (all_goals (try k_data)))
          refine Ct.useV (ell_c _ _ _ _ (by simp only [Str.length_append]; lia) (by lia)) (by assumption) (by assumption) (by assumption) (by assumption) (by assumption) rfl (by (first | (show _ < _; decide) | exact room1 (k := 1) (by assumption) rfl | exact room2 (k := 3) (by assumption) rfl | exact room3 (by assumption) rfl | (simp only [recursionLimit, cLine] at *; lia))) (by (first | (show _ < _; decide) | exact room1 (k := 1) (by assumption) rfl | exact room2 (k := 3) (by assumption) rfl | exact room3 (by assumption) rfl | (simp only [recursionLimit, cLine] at *; lia))) ?_
          intro h11 tk11 F11 N11
          (k_steps; (all_goals (try k_data)))
          · refine EndL.next (by assumption) (by assumption) (by walk_at "mine sub") ⟨_, ⟨_, _, _, _, _, _, _, _, _, _, _, dS, dC, ?_⟩, by (refine up_off ?mua ?mub; (case mub => exact rfl); (case mua => walk_at "mine off"))⟩
            rw [hat]; unfold toldStep; rw [if_pos hcx, if_pos hlt, if_pos (bt (by assumption))]
          · refine EndL.next (by assumption) (by assumption) (by walk_at "mine sub") ⟨_, ⟨_, _, _, _, _, _, _, _, _, _, _, dS, dC, ?_⟩, by (refine up_off ?mua ?mub; (case mub => exact rfl); (case mua => walk_at "mine off"))⟩
            rw [hat]; unfold toldStep; rw [if_pos hcx, if_pos hlt, if_neg (bn (by assumption))]
      · rename_i hlen h6 oC dC hcx hlt h7 t7 k7 hsl h8 oS F8 N8 dS
        unfold HandC
        k_dflt (refine LCt.ListComp_T (F₀ := by k_asm) (by with_unfolding_all rfl) (by decide) (by rfl) (by decide) (by rfl) ?_)
        (k_steps; (all_goals (try k_data)))
        refine LCt.CompSrcT.ledger (by rfl) (by assumption) (by assumption) (by k_mem) (by rw [sizeLine_eq]; show ys.length ≤ _; lia) ?_
        intro g
        refine restT_loop (fun j zs n => AtN [(I', o), (r', rngO (row.length : Int) t' u' v'), (D, listOf ⟨ys⟩ ys.length), (L1 + 1 + 1 + 1, oS), (L1 + 1 + 1, oC), (L1 + 1, o3)] (StrsAre zs (((lessF row x).take j).filter (fun a => ellF (x ++ "..." ++ a ++ Txt.item row i) (Txt.slice row (some (Txt.find row x)) (some ((i : Int) + 1)))))) n) ?_ ?_ _ _ _ _ (Nat.zero_add _) ⟨.nil⟩
        · rintro j zs news v J oJ C oC' D' m2 h9 tk9 E' hj hIK hP hC hx2 F9 N9 off9 ne9
          induction hIK with
          | mk hzs =>
          obtain ⟨a, ta, hla, rfl⟩ := strs_get hys (by simpa using hP)
          have hal := lessF_len (List.mem_of_getElem? hla)
          (k_steps; (all_goals (try k_data)))
          refine Ct.useV (ell_c _ _ _ _ (by simp only [Str.length_append]; rw [hx, hal]; have : (Str.ofString "...").length = 3 := by decide
                                            lia) (by lia)) (by assumption) (by assumption) (by assumption) (by assumption) (by assumption) rfl (by (first | (show _ < _; decide) | exact room1 (k := 1) (by assumption) rfl | exact room2 (k := 3) (by assumption) rfl | exact room3 (by assumption) rfl | (simp only [recursionLimit, cLine] at *; lia))) (by (first | (show _ < _; decide) | exact room1 (k := 1) (by assumption) rfl | exact room2 (k := 3) (by assumption) rfl | exact room3 (by assumption) rfl | (simp only [recursionLimit, cLine] at *; lia))) ?_
          intro h10 tk10 F10 N10
          (k_steps; (all_goals (try k_data)))
          · refine CompEnd.intro (by assumption) (by assumption) [(I', o), (r', rngO (row.length : Int) t' u' v'), (D, listOf ⟨ys⟩ ys.length), (L1 + 1 + 1 + 1, oS), (L1 + 1 + 1, oC), (L1 + 1, o3)] (by walk_at "mine sub") off9 (.inr ⟨_, by k_mem, rfl, _, rfl⟩) ⟨?_⟩
            rw [filter_take _ hla, if_pos (bt (by assumption))]
            exact strs_append hzs (strs_one _ _)
          · refine CompEnd.intro (by assumption) (by assumption) [(I', o), (r', rngO (row.length : Int) t' u' v'), (D, listOf ⟨ys⟩ ys.length), (L1 + 1 + 1 + 1, oS), (L1 + 1 + 1, oC), (L1 + 1, o3)] (by walk_at "mine sub") off9 (.inr ⟨_, by k_mem, rfl, _, rfl⟩) ⟨?_⟩
            rw [filter_take _ hla, if_neg (bn (by assumption)), List.append_nil]
            exact hzs
        · rintro zs news hIK
          induction hIK with
          | mk hzs =>
          rw [List.take_of_length_le (by show (lessF row x).length ≤ ys.length; rw [hyl]; exact Nat.le_refl _)] at hzs
          intro D2 h10 tk10 F10 N10 o1D2
          replace N10 : News _ _ _ [(D2, listOf ⟨zs⟩ zs.length), (I', o), (r', rngO (row.length : Int) t' u' v'), (D, listOf ⟨ys⟩ ys.length), (L1 + 1 + 1 + 1, oS), (L1 + 1 + 1, oC), (L1 + 1, o3)] := N10
          have hzl := hzs.length
          have hzz := List.length_filter_le (fun a => ellF (x ++ "..." ++ a ++ Txt.item row i) (Txt.slice row (some (Txt.find row x)) (some ((i : Int) + 1)))) (lessF row x)
          have hll' : (lessF row x).length ≤ 10 := hll
          (k_steps; (all_goals (try k_data)))
          · refine EndL.next (by assumption) (by assumption) (by walk_at "mine sub") ⟨_, ⟨_, _, _, _, _, _, _, _, _, _, _, dS, dC, ?_⟩, by (refine up_off ?mua ?mub; (case mub => exact rfl); (case mua => walk_at "mine off"))⟩
            rw [hat]; unfold toldStep; rw [if_pos hcx, if_neg hlt]
      · refine EndL.next (by assumption) (by assumption) (by walk_at "mine sub") ⟨_, ⟨_, _, _, _, _, _, _, _, _, _, _, e1, by assumption, ?_⟩, by (refine up_off ?mua ?mub; (case mub => exact rfl); (case mua => walk_at "mine off"))⟩
        rw [hat]; unfold toldStep; rw [if_neg (by assumption)]
    · rintro vals n h tk hIK F5 N5
      induction hIK with
      | mk u left right near tl tr tn p1 p2 c1 c2 e1 e2 hst =>
      (k_steps; (all_goals (try k_data)))
      dsimp only
      exact leaveR_ (news' := [(_, tupO #[.int left tl, .int right tr, .int near tn])]) (by assumption) (by assumption) (by walk_at "mine sub") fun kF kN ko => hret _ _ _ _ ⟨_, _, _, _, _, _, _, hst, fun q hq => ko _ (.head _) q hq⟩ kF kN
end
section
noncomputable def okM (last want : Str) : Bool := !(ellF want last != true) && !(ellF want ("-" ++ last) != (Txt.slice want none (some 3) == "...")) && !(ellF want (last ++ "-") != (Txt.slice want (some (-3)) none == "..."))
noncomputable def joinedS (last : Str) : List Str := [("" : Str)] ++ signs last ++ [("" : Str)] ++ signs last ++ [("" : Str)]
theorem signs_sum (x : Str) : ((signs x).map (·.length)).sum = x.length := by
  unfold signs
  rw [List.map_map]
  show (x.cps.toList.map (fun _ => 1)).sum = _
  have h : ∀ l : List Nat, (l.map (fun _ => 1)).sum = l.length := fun l => by induction l with
    | nil => rfl
    | cons a r ih => rw [List.map_cons, List.sum_cons, ih, List.length_cons]; lia
  rw [h]; rfl
theorem joinedS_sum (x : Str) : ((joinedS x).map (·.length)).sum = 2 * x.length ∧ (joinedS x).length = 2 * x.length + 3 := by
  unfold joinedS
  simp only [List.map_append, List.sum_append, signs_sum, List.length_append, signs_length, List.length_cons, List.length_nil, List.map_cons, List.map_nil, List.sum_cons, List.sum_nil]
  have : (Str.ofString "").length = 0 := by decide
  lia
theorem joined_len (x : Str) : (Txt.join "..." (joinedS x)).length ≤ 8 * x.length + 9 := by
  show (Builtin.Str.glued "..." (joinedS x)).length ≤ _
  rw [StrLaws.glued_eq_join]
  have h := StrLaws.join_length_le "..." (joinedS x)
  have h2 := joinedS_sum x
  have : (Str.ofString "...").length = 3 := by decide
  rw [h2.1, h2.2, this] at h
  lia
noncomputable def revS (x : Str) : Str := Txt.sliceBy x none none (-1, 0)
noncomputable def pairsF (p2 p3 p4 last : Str) : List (Str × Str) := [(revS p2, last), (revS p3, last), (revS p4, last), (revS last, last), (last ++ last, last),
  ("..." ++ Txt.item last 0 ++ "..." ++ Txt.item last 0 ++ "...", last), ("..." ++ Txt.item last 0 ++ "..." ++ last, "-" ++ last), ("..." ++ last ++ "..." ++ Txt.item last (-1) ++ "...", "-" ++ last), (last ++ "..." ++ Txt.item last (-1) ++ "...", last ++ "-")]
theorem pairs_len {p2 p3 p4 last a b : Str} {i : Nat} (h2 : p2.length ≤ 30) (h3 : p3.length ≤ 30) (h4 : p4.length ≤ 30) (hl : 1 ≤ last.length ∧ last.length ≤ 5) (h : (pairsF p2 p3 p4 last)[i]? = some (a, b)) : a.length ≤ 30 ∧ b.length ≤ 30 := by
  have := List.mem_of_getElem? h
  have hd : (Str.ofString "...").length = 3 := by decide
  have hm : (Str.ofString "-").length = 1 := by decide
  have hr : ∀ x, (revS x).length = x.length := fun x => step_rev_len x _
  have hi : ∀ k, (Txt.item last k).length = 1 := fun k => rfl
  simp only [pairsF, List.mem_cons, List.not_mem_nil, or_false, Prod.mk.injEq] at this
  rcases this with ⟨rfl, rfl⟩ | ⟨rfl, rfl⟩ | ⟨rfl, rfl⟩ | ⟨rfl, rfl⟩ | ⟨rfl, rfl⟩ | ⟨rfl, rfl⟩ | ⟨rfl, rfl⟩ | ⟨rfl, rfl⟩ | ⟨rfl, rfl⟩ <;> simp only [Str.length_append, hr, hi, hd, hm] <;> lia
noncomputable def mistF (ps : List Str) (last : Str) : Bool := !((ps ++ [last]).all (okM last)) || (ellF (Txt.join "..." (joinedS last)) (last ++ last) != true) || !((pairsF (ps.getD 2 "") (ps.getD 3 "") (ps.getD 4 "") last).all (fun p => !(ellF p.1 p.2 != false)))
theorem mist1 {ps : List Str} {last w : Str} {i : Nat} (hw : (ps ++ [last])[i]? = some w) (h : okM last w = false) : mistF ps last = true := by
  unfold mistF
  have : (ps ++ [last]).all (okM last) = false := by
    rw [List.all_eq_false]
    exact ⟨w, List.mem_of_getElem? hw, by rw [h]; decide⟩
  rw [this]; rfl
theorem mist2 {ps : List Str} {last : Str} (h : (ellF (Txt.join "..." (joinedS last)) (last ++ last) != true) = true) : mistF ps last = true := by
  unfold mistF; rw [h, Bool.or_true, Bool.true_or]
theorem mist3 {p0 p1 p2 p3 p4 last a b : Str} {i : Nat} (hw : (pairsF p2 p3 p4 last)[i]? = some (a, b)) (h : (ellF a b != false) = true) : mistF [p0, p1, p2, p3, p4] last = true := by
  unfold mistF
  have : (pairsF p2 p3 p4 last).all (fun p => !(ellF p.1 p.2 != false)) = false := by
    rw [List.all_eq_false]
    exact ⟨_, List.mem_of_getElem? hw, by rw [h]; decide⟩
  show (_ || _ || !((pairsF p2 p3 p4 last).all _)) = _
  rw [this, Bool.not_false, Bool.or_true]
theorem mist4 {p0 p1 p2 p3 p4 last : Str} (h1 : (([p0, p1, p2, p3, p4] ++ [last]).all (okM last)) = true) (h2 : (ellF (Txt.join "..." (joinedS last)) (last ++ last) != true) = false) (h3 : ∀ p ∈ pairsF p2 p3 p4 last, (ellF p.1 p.2 != false) = false) : mistF [p0, p1, p2, p3, p4] last = false := by
  unfold mistF
  have : (pairsF p2 p3 p4 last).all (fun p => !(ellF p.1 p.2 != false)) = true := by
    rw [List.all_eq_true]
    exact fun p hp => by rw [h3 p hp]; rfl
  show (_ || _ || !((pairsF p2 p3 p4 last).all _)) = _
  rw [this, h1, h2]; rfl
theorem pick2 (a b c d e : Value) : (slicePick #[a, b, c, d, e] (some 2) none none).toList = [c, d, e] := by with_unfolding_all rfl
local macro_rules | `(tactic| walk_at "exec For Tuple Name cons nil") => `(tactic| walk_at "mine stop")
local macro_rules | `(tactic| walk_at "binaryOp Add ref ref") => `(tactic| walk_at "mine stop")
local macro_rules | `(tactic| walk_at "subscriptTail Name Slice ref ref") => `(tactic| walk_at "mine trap")
local macro_rules | `(tactic| walk_at "CompSrc") => `(tactic| walk_at "mine trap")
local macro_rules | `(tactic| walk_at "call builtin:list.append") => `(tactic| walk_at "mine trap")
-- the refs zs stand for tuples of the pairs ps, all in R
structure TupsAre (zs : List Value) (ps : List (Str × Str)) (R : List (Addr × Obj)) : Prop where
  len : zs.length = ps.length
  get : ∀ (i : Nat) (v : Value), zs[i]? = some v → PairAt ps R i v
theorem TupsAre.nil {R : List (Addr × Obj)} : TupsAre [] [] R := ⟨rfl, fun _ _ h => nomatch h⟩
theorem TupsAre.push {zs : List Value} {ps ps' : List (Str × Str)} {R : List (Addr × Obj)} {T : Addr} {a b : Str} {ta tb : Tok} {n : Nat} (h : TupsAre zs ps R) (e : ps' = ps ++ [(a, b)]) : TupsAre (zs ++ [.ref T]) ps' ((T, { cls := .type "tuple", data := .seq #[.str a ta, .str b tb] n }) :: R) := by
  subst e
  refine ⟨by rw [List.length_append, List.length_append, h.1]; rfl, fun i v hv => ?_⟩
  by_cases hi : i < zs.length
  · rw [List.getElem?_append_left hi] at hv
    cases h.2 i v hv with
    | mk T' a' ta' b' tb' n' hm hpr => exact ⟨T', a', ta', b', tb', n', .tail _ hm, by rw [List.getElem?_append_left (by rw [← h.1]; exact hi)]; exact hpr⟩
  · rw [List.getElem?_append_right (Nat.le_of_not_lt hi)] at hv
    cases hd : i - zs.length with
    | succ k => rw [hd] at hv; cases hv
    | zero =>
      rw [hd] at hv
      cases hv
      exact ⟨T, a, ta, b, tb, n, .head _, by rw [List.getElem?_append_right (by rw [← h.1]; exact Nat.le_of_not_lt hi), ← h.1, hd]; rfl⟩
theorem PairAt.mono {ps : List (Str × Str)} {R R' : List (Addr × Obj)} {i : Nat} {v : Value} (h : PairAt ps R i v) (s : ∀ p ∈ R, p ∈ R') : PairAt ps R' i v := by
  cases h with
  | mk T a ta b tb n hm hpr => exact ⟨T, a, ta, b, tb, n, s _ hm, hpr⟩
theorem take_map_succ {α β : Type} {l : List α} {i : Nat} {x : α} (f : α → β) (h : l[i]? = some x) : (l.take (i + 1)).map f = (l.take i).map f ++ [f x] := by
  rw [List.take_add_one, h, List.map_append]; rfl
inductive VainJ (last : Str) (words : List Str) (e1 e2 e3 : Addr × Obj) (i : Nat) (ys : List Value) : List (Addr × Obj) → Prop
  | mk (R : List (Addr × Obj)) (h : TupsAre ys ((words.take i).map fun w => (revS w, last)) R) (hlp : e3 ∈ R) : VainJ last words e1 e2 e3 i ys (e1 :: e2 :: R)
theorem compEnd_vain {h₀ : Heap} {L I C D T : Addr} {m : Str → Option Value} {s₁ : Shared} {oI oC oD oT : Obj} {S : List (Addr × Obj) → Prop} {rest : Value → List (Addr × Obj) → Prop} {y : Value} {h' : Heap} {tk : Nat} {e1 e2 : Addr × Obj} {R : List (Addr × Obj)}
    (F : Fr h₀ L h' m) (N : News h₀ L h' ((T, oT) :: (I, oI) :: (C, oC) :: (D, oD) :: e1 :: e2 :: R)) (off : LCg.Off3 I C D (e1 :: e2 :: R)) (ne : (@Ne Nat T I) ∧ (@Ne Nat T C) ∧ (@Ne Nat T D)) (hS : S (e1 :: e2 :: (T, oT) :: R)) (r : rest y (e1 :: e2 :: (T, oT) :: R)) :
    LCg.CompEnd h₀ L m s₁ I oI C oC D oD S rest y { s₁ with heap := h', toks := tk } :=
  LCg.CompEnd.intro F N (e1 :: e2 :: (T, oT) :: R) (List.forall_mem_cons.mpr ⟨.tail _ (.head _), List.forall_mem_cons.mpr ⟨.tail _ (.tail _ (.head _)), List.forall_mem_cons.mpr ⟨.tail _ (.tail _ (.tail _ (.head _))), List.forall_mem_cons.mpr ⟨.tail _ (.tail _ (.tail _ (.tail _ (.head _)))), List.forall_mem_cons.mpr ⟨.tail _ (.tail _ (.tail _ (.tail _ (.tail _ (.head _))))), List.forall_mem_cons.mpr ⟨.head _, fun p hp => .tail _ (.tail _ (.tail _ (.tail _ (.tail _ (.tail _ hp)))))⟩⟩⟩⟩⟩⟩) ⟨off.1, off.2.1, ne, off.2.2⟩ hS r
theorem off1_mem {D : Addr} : ∀ {R : List (Addr × Obj)}, LCg.Off1 D R → ∀ p ∈ R, p.1 ≠ D
  | [], _, _, h => nomatch h
  | _ :: _, h, p, hp => by
    cases hp with
    | head => exact fun e => h.1 e
    | tail _ hp => exact off1_mem h.2 p hp
section
variable {prog : Program} {w : World} {A : Around} {E : Value → Shared → Prop} {s : Shared} {h₀ : Heap} {L : Addr} {m : Str → Option Value}
theorem vain_push {D T : Addr} {zs : List Value} {e n : Nat} {a b : Str} {ta tb : Tok} {c : Addr × Obj} {ps : List (Str × Str)} {R : List (Addr × Obj)} {K : Nat} {Q : Value → Shared → Prop} (F : Fr h₀ L s.heap m) (N : News h₀ L s.heap ((T, { cls := .type "tuple", data := .seq #[.str a ta, .str b tb] n }) :: (D, listOf ⟨zs⟩ e) :: c :: R)) (hT : TupsAre zs ps R) (offR : ∀ p ∈ R, p.1 ≠ D) (hc : c.1 ≠ D) (hTD : T ≠ D) (hz : zs.length ≤ K) (hK : Nat.ble K 16777216 = true)
    (k : ∀ h' zs' R', Fr h₀ L h' m → News h₀ L h' ((D, listOf ⟨zs'⟩ (e + 1)) :: c :: R') → TupsAre zs' (ps ++ [(a, b)]) R' → (∀ p ∈ R', p.1 ≠ D) → zs'.length ≤ K + 1 → (∀ p ∈ R, p ∈ R') → Q .none { s with heap := h' }) : wpAny (model prog w) A (call (.builtin "list.append") [.ref D, .ref T]) Q E s := by
  refine append_K F (News.sub N (l' := (D, listOf ⟨zs⟩ e) :: c :: (T, { cls := .type "tuple", data := .seq #[.str a ta, .str b tb] n }) :: R) (List.forall_mem_cons.mpr ⟨.tail _ (.head _), List.forall_mem_cons.mpr ⟨.tail _ (.tail _ (.head _)), List.forall_mem_cons.mpr ⟨.head _, fun p hp => .tail _ (.tail _ (.tail _ hp))⟩⟩⟩)) (.head (List.forall_mem_cons.mpr ⟨hc, List.forall_mem_cons.mpr ⟨hTD, offR⟩⟩)) ?_ (Nat.le_trans hz (Nat.le_of_ble_eq_true hK))
  intro h' F' N'
  rw [show (Array.push ⟨zs⟩ (.ref T) : Array Value) = ⟨zs ++ [.ref T]⟩ from Array.toList_inj.mp (by simp)] at N'
  exact k h' _ _ F' N' (hT.push rfl) (List.forall_mem_cons.mpr ⟨hTD, offR⟩) (by rw [List.length_append]; exact Nat.succ_le_succ hz) fun p hp => .tail _ hp
end
inductive MisK (last : Str) (xs : List Str) (led : List (Addr × Obj)) (i : Nat) : List (Option Value) → List (Addr × Obj) → Prop
  | mk (u : Option Value) (h : ∀ x ∈ xs.take i, okM last x = true) : MisK last xs led i [u] led
theorem mis_c {w : World} {rest} (lp : Addr) (ep : Nat) (p0 p1 p2 p3 p4 last : Str) (u0 u1 u2 u3 u4 t2 : Tok) (h0 : p0.length ≤ 30) (h1 : p1.length ≤ 30) (h2 : p2.length ≤ 30) (h3 : p3.length ≤ 30) (h4 : p4.length ≤ 30) (hl : 1 ≤ last.length ∧ last.length ≤ 5) (ha : last.cps.all (· < 128) = true) (off : ∀ p ∈ [(lp, listOf #[.str p0 u0, .str p1 u1, .str p2 u2, .str p3 u3, .str p4 u4] ep)], ∀ q ∈ rest, p.1 ≠ q.1) :
   Ct w 4 170 [.ref lp, .str last t2] ([(lp, listOf #[.str p0 u0, .str p1 u1, .str p2 u2, .str p3 u3, .str p4 u4] ep)] ++ rest) (fun u n => u = .bool (mistF [p0, p1, p2, p3, p4] last) ∧ n = (lp, listOf #[.str p0 u0, .str p1 u1, .str p2 u2, .str p3 u3, .str p4 u4] ep) :: rest) := by
  unfold Ct
  k_fill
  intros
  rename_i hret
  refine wpAny_call ?_
  (k_dflt (refine' code_defRC ?k1x256 ?k2x256 ?k3x256 ?k4x256 ?kOx256 ?k5x256 ?kAx256 ?kFx256 ?kKx256 ?k6x256 ?k7x256 ?k8x256 ?k9x256 ?kBx256 ?kDx256 ?_ ?c2x256 ?c3x256 ?c4x256; (case kAx256 => exact rfl); (case kFx256 => exact rfl); (case kKx256 => assumption); (case k1x256 => k_asm); (case k2x256 => k_asm); (case k3x256 => k_asm); (case k4x256 => k_asm); (case kOx256 => first | assumption | exact List.forall_mem_nil _); (case k5x256 => k_asm); (case k6x256 => k_is); (case k7x256 => k_is); (case k8x256 => ktr_room); (case k9x256 => first | exact BindsTo.of_eq (binds := [(_, _)]) rfl | exact BindsTo.of_eq (binds := [(_, _), (_, _)]) rfl | exact BindsTo.of_eq (binds := [(_, _), (_, _), (_, _)]) rfl | exact BindsTo.of_eq (binds := [(_, _), (_, _), (_, _), (_, _)]) rfl | exact BindsTo.of_eq rfl); (case kBx256 => exact rfl); (case kDx256 => decide +kernel); (case c2x256 => exact rfl); (case c3x256 => exact rfl); (case c4x256 => exact rfl); walk_at "mine eRC"))
  rename_i g1 L1 h1' tk1 FG F1 B1 X1 T1 hR l1 o1 d1 N1
  replace d1 : o1.data = .cell (some (.str last t2)) := d1
  refine noE ?_
  refine letX ?_
  intro M9 e9 A9
  have mc := markC
  (k_steps; (repeat' (unfold HandC; (first | ((with_reducible show wpAny _ _ (binaryOp _ _ _) _ _ _); (try (have := StrsAre.length (by assumption))); k_dflt (refine' cat_K (by k_asm) (by k_asm) (by k_mem) (by k_mem) (by (try simp only [List.length_append, List.length_cons, List.length_nil]); lia) ?_; walk_at "mine in"; (try k_sweep))) | ((with_reducible show wpAny _ _ (exec _ _) _ _ _); with_unfolding_all refine' for_T (by assumption) (by rfl) ?_)); k_steps)); (all_goals (try k_data)))
  rename_i lA h5 l5 lB h6 F6 N6 l6
  change News _ _ _ [(lB, listOf #[.str p0 u0, .str p1 u1, .str p2 u2, .str p3 u3, .str p4 u4, .str last t2] 0), (lA, listOf #[.str last t2] 0), (L1 + 1, o1), (lp, listOf #[.str p0 u0, .str p1 u1, .str p2 u2, .str p3 u3, .str p4 u4] ep)] at N6
  have hxs : StrsAre (#[.str p0 u0, .str p1 u1, .str p2 u2, .str p3 u3, .str p4 u4, .str last t2] : Array Value).toList [p0, p1, p2, p3, p4, last] := .cons _ _ (.cons _ _ (.cons _ _ (.cons _ _ (.cons _ _ (.cons _ _ .nil)))))
  have hw30 : ∀ x ∈ [p0, p1, p2, p3, p4, last], x.length ≤ 30 := List.forall_mem_cons.mpr ⟨h0, List.forall_mem_cons.mpr ⟨h1, List.forall_mem_cons.mpr ⟨h2, List.forall_mem_cons.mpr ⟨h3, List.forall_mem_cons.mpr ⟨h4, List.forall_mem_cons.mpr ⟨Nat.le_trans hl.2 (by decide), List.forall_mem_nil _⟩⟩⟩⟩⟩⟩
  have hmist : ∀ (i : Nat) (w : Str), [p0, p1, p2, p3, p4, last][i]? = some w → okM last w = false → mistF [p0, p1, p2, p3, p4] last = true := fun i w h g => mist1 (ps := [p0, p1, p2, p3, p4]) h g
  generalize hwsE : [p0, p1, p2, p3, p4, last] = ws at hxs hw30 hmist
  generalize hva : (#[.str p0 u0, .str p1 u1, .str p2 u2, .str p3 u3, .str p4 u4, .str last t2] : Array Value) = va at N6 hxs
  generalize hoA : listOf #[.str last t2] 0 = oA at N6
  clear hoA
  generalize hoP : listOf #[.str p0 u0, .str p1 u1, .str p2 u2, .str p3 u3, .str p4 u4] ep = oP at N6 hret
  refine iter_up [("want" : Str)] (MisK last ws [(lB, listOf va 0), (lA, oA), (L1 + 1, o1), (lp, oP)]) (by assumption) (by assumption) (by k_mem) ⟨_, fun x h => nomatch h⟩ (fun I hI => ?_)
  k_lt hI
  refine ⟨?_, ?_, ?_⟩
  · rintro i vals n hIK
    induction hIK with
    | mk u _ =>
    exact ⟨by k_mem, by walk_at "mine lt"⟩
  · rintro i v vals n o h tk hv hIK F₁ N₁
    induction hIK with
    | mk u hok =>
    intro qE
    obtain ⟨word, tw, hw, rfl⟩ := strs_get hxs (by simpa using hv)
    have hwl : word.length ≤ 30 := hw30 _ (List.mem_of_getElem? hw)
    (k_steps; (repeat' (unfold HandC; (first | ((with_reducible show wpAny _ _ (binaryOp _ _ _) _ _ _); (try (have := StrsAre.length (by assumption))); k_dflt (refine' cat_K (by k_asm) (by k_asm) (by k_mem) (by k_mem) (by (try simp only [List.length_append, List.length_cons, List.length_nil]); lia) ?_; walk_at "mine in"; (try k_sweep))) | ((with_reducible show wpAny _ _ (exec _ _) _ _ _); with_unfolding_all refine' for_T (by assumption) (by rfl) ?_)); k_steps)); (all_goals (try k_data)))
    refine Ct.useV (ell_c _ _ _ _ (by lia) (by lia)) (by assumption) (by assumption) (by assumption) (by assumption) (by assumption) rfl (by (first | (show _ < _; decide) | exact room1 (k := 1) (by assumption) rfl | exact room2 (k := 3) (by assumption) rfl | exact room3 (by assumption) rfl | (simp only [recursionLimit, cLine] at *; lia))) (by (first | (show _ < _; decide) | exact room1 (k := 1) (by assumption) rfl | exact room2 (k := 3) (by assumption) rfl | exact room3 (by assumption) rfl | (simp only [recursionLimit, cLine] at *; lia))) ?_
    intro h10 tk10 F10 N10
    (k_steps; (repeat' (unfold HandC; (first | ((with_reducible show wpAny _ _ (binaryOp _ _ _) _ _ _); (try (have := StrsAre.length (by assumption))); k_dflt (refine' cat_K (by k_asm) (by k_asm) (by k_mem) (by k_mem) (by (try simp only [List.length_append, List.length_cons, List.length_nil]); lia) ?_; walk_at "mine in"; (try k_sweep))) | ((with_reducible show wpAny _ _ (exec _ _) _ _ _); with_unfolding_all refine' for_T (by assumption) (by rfl) ?_)); k_steps)); (all_goals (try k_data)))
    · skip
      exact leaveR_ (news' := [(lp, oP)]) (by assumption) (by assumption) (by walk_at "mine sub") fun kF kN ko => hret _ _ _ _ ⟨congrArg Value.bool (hmist _ _ hw (by unfold okM; simp only [*, Bool.not_true, Bool.and_false, Bool.false_and])).symm, rfl⟩ kF kN
    have hd1 : (Str.ofString "-").length = 1 := by decide
    refine Ct.useV (ell_c _ _ _ _ (by lia) (by lia)) (by assumption) (by assumption) (by assumption) (by assumption) (by assumption) rfl (by (first | (show _ < _; decide) | exact room1 (k := 1) (by assumption) rfl | exact room2 (k := 3) (by assumption) rfl | exact room3 (by assumption) rfl | (simp only [recursionLimit, cLine] at *; lia))) (by (first | (show _ < _; decide) | exact room1 (k := 1) (by assumption) rfl | exact room2 (k := 3) (by assumption) rfl | exact room3 (by assumption) rfl | (simp only [recursionLimit, cLine] at *; lia))) ?_
    intro h11 tk11 F11 N11
    (k_steps; (repeat' (unfold HandC; (first | ((with_reducible show wpAny _ _ (binaryOp _ _ _) _ _ _); (try (have := StrsAre.length (by assumption))); k_dflt (refine' cat_K (by k_asm) (by k_asm) (by k_mem) (by k_mem) (by (try simp only [List.length_append, List.length_cons, List.length_nil]); lia) ?_; walk_at "mine in"; (try k_sweep))) | ((with_reducible show wpAny _ _ (exec _ _) _ _ _); with_unfolding_all refine' for_T (by assumption) (by rfl) ?_)); k_steps)); (all_goals (try k_data)))
    · skip
      exact leaveR_ (news' := [(lp, oP)]) (by assumption) (by assumption) (by walk_at "mine sub") fun kF kN ko => hret _ _ _ _ ⟨congrArg Value.bool (hmist _ _ hw (by unfold okM; simp only [*, Bool.not_true, Bool.and_false, Bool.false_and])).symm, rfl⟩ kF kN
    refine Ct.useV (ell_c _ _ _ _ (by lia) (by lia)) (by assumption) (by assumption) (by assumption) (by assumption) (by assumption) rfl (by (first | (show _ < _; decide) | exact room1 (k := 1) (by assumption) rfl | exact room2 (k := 3) (by assumption) rfl | exact room3 (by assumption) rfl | (simp only [recursionLimit, cLine] at *; lia))) (by (first | (show _ < _; decide) | exact room1 (k := 1) (by assumption) rfl | exact room2 (k := 3) (by assumption) rfl | exact room3 (by assumption) rfl | (simp only [recursionLimit, cLine] at *; lia))) ?_
    intro h12 tk12 F12 N12
    (k_steps; (repeat' (unfold HandC; (first | ((with_reducible show wpAny _ _ (binaryOp _ _ _) _ _ _); (try (have := StrsAre.length (by assumption))); k_dflt (refine' cat_K (by k_asm) (by k_asm) (by k_mem) (by k_mem) (by (try simp only [List.length_append, List.length_cons, List.length_nil]); lia) ?_; walk_at "mine in"; (try k_sweep))) | ((with_reducible show wpAny _ _ (exec _ _) _ _ _); with_unfolding_all refine' for_T (by assumption) (by rfl) ?_)); k_steps)); (all_goals (try k_data)))
    · skip
      exact leaveR_ (news' := [(lp, oP)]) (by assumption) (by assumption) (by walk_at "mine sub") fun kF kN ko => hret _ _ _ _ ⟨congrArg Value.bool (hmist _ _ hw (by unfold okM; simp only [*, Bool.not_true, Bool.and_false, Bool.false_and])).symm, rfl⟩ kF kN
    · refine EndL.next (by assumption) (by assumption) (by walk_at "mine sub") ⟨_, ⟨_, ?_⟩, by (refine up_off ?mua ?mub; (case mub => exact rfl); (case mua => walk_at "mine off"))⟩
      intro x hx
      rw [List.take_add_one, hw] at hx
      rcases List.mem_append.mp hx with hx | hx
      · exact hok x hx
      · simp only [Option.toList, List.mem_singleton] at hx
        subst hx
        unfold okM; simp only [*, Bool.not_false, Bool.and_true]
  · rintro vals n h tk hIK F₁ N₁
    induction hIK with
    | mk u hok =>
    have hall : (([p0, p1, p2, p3, p4] ++ [last]).all (okM last)) = true := by
      rw [List.all_eq_true]; exact fun x hx => hok x (by rw [show va.size = 6 by rw [← hva]; rfl, ← hwsE]; exact hx)
    (k_steps; (repeat' (unfold HandC; (first | ((with_reducible show wpAny _ _ (binaryOp _ _ _) _ _ _); (try (have := StrsAre.length (by assumption))); k_dflt (refine' cat_K (by k_asm) (by k_asm) (by k_mem) (by k_mem) (by (try simp only [List.length_append, List.length_cons, List.length_nil]); lia) ?_; walk_at "mine in"; (try k_sweep))) | ((with_reducible show wpAny _ _ (exec _ _) _ _ _); with_unfolding_all refine' for_T (by assumption) (by rfl) ?_)); k_steps)); (all_goals (try k_data)))
    rename StrsAre _ (signs last) => hSa
    have hSl := hSa.length
    have hsg : (signs last).length = last.length := signs_length last
    (k_steps; (repeat' (unfold HandC; (first | ((with_reducible show wpAny _ _ (binaryOp _ _ _) _ _ _); (try (have := StrsAre.length (by assumption))); k_dflt (refine' cat_K (by k_asm) (by k_asm) (by k_mem) (by k_mem) (by (try simp only [List.length_append, List.length_cons, List.length_nil]); lia) ?_; walk_at "mine in"; (try k_sweep))) | ((with_reducible show wpAny _ _ (exec _ _) _ _ _); with_unfolding_all refine' for_T (by assumption) (by rfl) ?_)); k_steps)); (all_goals (try k_data)))
    rename StrsAre _ (signs last) => hSb
    have hSm := hSb.length
    (k_steps; (repeat' (unfold HandC; (first | ((with_reducible show wpAny _ _ (binaryOp _ _ _) _ _ _); (try (have := StrsAre.length (by assumption))); k_dflt (refine' cat_K (by k_asm) (by k_asm) (by k_mem) (by k_mem) (by (try simp only [List.length_append, List.length_cons, List.length_nil]); lia) ?_; walk_at "mine in"; (try k_sweep))) | ((with_reducible show wpAny _ _ (exec _ _) _ _ _); with_unfolding_all refine' for_T (by assumption) (by rfl) ?_)); k_steps)); (all_goals (try k_data)))
    unfold HandC
    have hjs := joinedS_sum last
    have hjl := joined_len last
    refine join_listC (ys := joinedS last) (News.isList (by assumption) (.head _)) (strs_append (strs_append (strs_append (strs_append (strs_one _ _) hSa) (strs_one _ _)) hSb) (strs_one _ _)) (by decide) (by rw [hjs.1, hjs.2]; lia) ?_
    intro tj kj
    rename News _ _ _ _ => Nj
    replace Nj : News _ _ _ [(lB, listOf va 0), (lA, oA), (L1 + 1, o1), (lp, oP)] := fun p hp => Nj p (by revert p; walk_at "mine sub")
    clear hSa hSb hSl hSm
    (k_steps; (repeat' (unfold HandC; (first | ((with_reducible show wpAny _ _ (binaryOp _ _ _) _ _ _); (try (have := StrsAre.length (by assumption))); k_dflt (refine' cat_K (by k_asm) (by k_asm) (by k_mem) (by k_mem) (by (try simp only [List.length_append, List.length_cons, List.length_nil]); lia) ?_; walk_at "mine in"; (try k_sweep))) | ((with_reducible show wpAny _ _ (exec _ _) _ _ _); with_unfolding_all refine' for_T (by assumption) (by rfl) ?_)); k_steps)); (all_goals (try k_data)))
    have htw : (last ++ last).length = last.length + last.length := Str.length_append _ _
    refine Ct.useV (ell_c _ _ _ _ (by lia) (by lia)) (by assumption) (by assumption) (by assumption) (by assumption) (by assumption) rfl (by (first | (show _ < _; decide) | exact room1 (k := 1) (by assumption) rfl | exact room2 (k := 3) (by assumption) rfl | exact room3 (by assumption) rfl | (simp only [recursionLimit, cLine] at *; lia))) (by (first | (show _ < _; decide) | exact room1 (k := 1) (by assumption) rfl | exact room2 (k := 3) (by assumption) rfl | exact room3 (by assumption) rfl | (simp only [recursionLimit, cLine] at *; lia))) ?_
    intro h11 tk11 F11 N11
    replace N11 : News _ _ _ [(L1 + 1, o1), (lp, oP)] := fun p hp => N11 p (.tail _ (.tail _ hp))
    (k_steps; (repeat' (unfold HandC; (first | ((with_reducible show wpAny _ _ (binaryOp _ _ _) _ _ _); (try (have := StrsAre.length (by assumption))); k_dflt (refine' cat_K (by k_asm) (by k_asm) (by k_mem) (by k_mem) (by (try simp only [List.length_append, List.length_cons, List.length_nil]); lia) ?_; walk_at "mine in"; (try k_sweep))) | ((with_reducible show wpAny _ _ (exec _ _) _ _ _); with_unfolding_all refine' for_T (by assumption) (by rfl) ?_)); k_steps)); (all_goals (try k_data)))
    · dsimp only
      exact leaveR_ (news' := [(lp, oP)]) (by assumption) (by assumption) (by walk_at "mine sub") fun kF kN ko => hret _ _ _ _ ⟨congrArg Value.bool (mist2 (by assumption)).symm, rfl⟩ kF kN
    · unfold HandC
      k_dflt (refine LCg.Assign_ListComp_U (F₀ := by k_asm) (by rfl) (by with_unfolding_all rfl) (by with_unfolding_all rfl) (by decide) (by rfl) (by decide) (by rfl) (by rfl) (by rfl) ?_)
      (k_steps; (repeat' (unfold HandC; (first | ((with_reducible show wpAny _ _ (binaryOp _ _ _) _ _ _); (try (have := StrsAre.length (by assumption))); k_dflt (refine' cat_K (by k_asm) (by k_asm) (by k_mem) (by k_mem) (by (try simp only [List.length_append, List.length_cons, List.length_nil]); lia) ?_; walk_at "mine in"; (try k_sweep))) | ((with_reducible show wpAny _ _ (exec _ _) _ _ _); with_unfolding_all refine' for_T (by assumption) (by rfl) ?_)); k_steps)); (all_goals (try k_data)))
      unfold HandC
      subst hoP
      k_dflt (refine' kmk_slice_lit (its := #[.str p0 u0, .str p1 u1, .str p2 u2, .str p3 u3, .str p4 u4]) (zs := [.str p2 u2, .str p3 u3, .str p4 u4]) ?F ?N ?l (IsPart.int _ _) IsPart.none (pick2 ..) ?_ ?s ?t ?z; (case F => k_asm); (case N => k_asm); (case l => exact News.isList (by k_asm) (by k_mem)); (case s => with_unfolding_all rfl); (case t => intro _; with_unfolding_all rfl); (case z => exact Nat.le_of_ble_eq_true rfl))
      intro DS hS FS NS l1
      clear l1
      (k_steps; (repeat' (unfold HandC; (first | ((with_reducible show wpAny _ _ (binaryOp _ _ _) _ _ _); (try (have := StrsAre.length (by assumption))); k_dflt (refine' cat_K (by k_asm) (by k_asm) (by k_mem) (by k_mem) (by (try simp only [List.length_append, List.length_cons, List.length_nil]); lia) ?_; walk_at "mine in"; (try k_sweep))) | ((with_reducible show wpAny _ _ (exec _ _) _ _ _); with_unfolding_all refine' for_T (by assumption) (by rfl) ?_)); k_steps)); (all_goals (try k_data)))
      unfold HandC
      rename_i lX hX lx1 DX hY FX NX lx2
      clear lx1 lx2
      replace NX : News _ _ _ [(DX, listOf #[.str p2 u2, .str p3 u3, .str p4 u4, .str last t2] 0), (L1 + 1, o1), (lp, listOf #[.str p0 u0, .str p1 u1, .str p2 u2, .str p3 u3, .str p4 u4] ep)] := fun p hp => NX p (by revert p; walk_at "mine sub")
      have hwz : StrsAre [.str p2 u2, .str p3 u3, .str p4 u4, .str last t2] [p2, p3, p4, last] := .cons _ _ (.cons _ _ (.cons _ _ (.cons _ _ .nil)))
      have hrlp : (lp, listOf #[.str p0 u0, .str p1 u1, .str p2 u2, .str p3 u3, .str p4 u4] ep) ∈ [(lp, listOf #[.str p0 u0, .str p1 u1, .str p2 u2, .str p3 u3, .str p4 u4] ep)] := .head _
      generalize hoP : listOf #[.str p0 u0, .str p1 u1, .str p2 u2, .str p3 u3, .str p4 u4] ep = oP at *
      refine LCg.CompSrc.ledger (by rfl) (by assumption) NX (.head _) (Nat.le_of_ble_eq_true rfl) ?_
      intro g
      clear FX NX
      refine restU_loop (VainJ last [p2, p3, p4, last] (DX, listOf #[.str p2 u2, .str p3 u3, .str p4 u4, .str last t2] 0) (L1 + 1, o1) (lp, oP)) ?_ ?_ 4 0 [] _ rfl ⟨_, .nil, hrlp⟩
      · rintro i ys news v I oI C oC D m2 h tk E' hi hJ hP hC hx F N off ne
        induction hJ with
        | mk R hT hlp =>
        obtain ⟨word, tw, hw, rfl⟩ := strs_get hwz (by simpa using hP)
        obtain ⟨n1, n2, offR⟩ := off
        have hwl : word.length ≤ 30 := (List.forall_mem_cons.mpr ⟨h2, List.forall_mem_cons.mpr ⟨h3, List.forall_mem_cons.mpr ⟨h4, List.forall_mem_cons.mpr ⟨Nat.le_trans hl.2 (by decide), List.forall_mem_nil _⟩⟩⟩⟩ : ∀ x ∈ [p2, p3, p4, last], x.length ≤ 30) word (List.mem_of_getElem? hw)
        (k_steps; (repeat' (unfold HandC; (first | ((with_reducible show wpAny _ _ (binaryOp _ _ _) _ _ _); (try (have := StrsAre.length (by assumption))); k_dflt (refine' cat_K (by k_asm) (by k_asm) (by k_mem) (by k_mem) (by (try simp only [List.length_append, List.length_cons, List.length_nil]); lia) ?_; walk_at "mine in"; (try k_sweep))) | ((with_reducible show wpAny _ _ (exec _ _) _ _ _); with_unfolding_all refine' for_T (by assumption) (by rfl) ?_)); k_steps)); (all_goals (try k_data)))
        rename_i T1 h8 F8 N8 l8
        exact compEnd_vain F8 N8 ⟨n1, n2, offR⟩ ⟨neB (by walk_at "mine pick"), neB (by walk_at "mine pick"), neB (by walk_at "mine pick")⟩ (.inr ⟨_, by k_mem, rfl, _, rfl⟩) ⟨_, TupsAre.push hT (take_map_succ (fun w => (revS w, last)) hw), .tail _ hlp⟩
      rintro ys news hJ
      induction hJ with
      | mk R hT hlp =>
      intro D h tk F N o1D
      obtain ⟨-, n2, offR⟩ := o1D
      replace offR := off1_mem offR
      have hzl : ys.length ≤ 4 := by rw [hT.1]; simp
      generalize hps0 : ([p2, p3, p4, last].take 4).map (fun w => (revS w, last)) = ps at hT
      replace N : News _ _ _ ((D, listOf ⟨ys⟩ ys.length) :: (L1 + 1, o1) :: R) := News.sub N (List.forall_mem_cons.mpr ⟨.head _, fun p hp => .tail _ (.tail _ hp)⟩)
      obtain ⟨yn, N'⟩ : ∃ yn, News _ _ _ ((D, listOf ⟨ys⟩ yn) :: (L1 + 1, o1) :: R) := ⟨_, N⟩
      clear N
      have hl5 : last.length ≤ 5 := hl.2
      clear hoP hrlp
      (k_steps; (repeat' (unfold HandC; (first | ((with_reducible show wpAny _ _ (binaryOp _ _ _) _ _ _); (try (have := StrsAre.length (by assumption))); k_dflt (refine' cat_K (by k_asm) (by k_asm) (by k_mem) (by k_mem) (by (try simp only [List.length_append, List.length_cons, List.length_nil]); lia) ?_; walk_at "mine in"; (try k_sweep))) | ((with_reducible show wpAny _ _ (exec _ _) _ _ _); with_unfolding_all refine' for_T (by assumption) (by rfl) ?_)); k_steps)); (all_goals (try k_data)))
      unfold HandC
      refine vain_push (by assumption) (by assumption) hT offR n2 (neB (by walk_at "mine pick")) hzl rfl ?_
      rename News _ _ _ _ => N9
      clear hT offR hzl N9
      intro h9 ys R9 F9 N9 hT offR hzl sub9
      replace hlp := sub9 _ hlp
      clear sub9
      (k_steps; (repeat' (unfold HandC; (first | ((with_reducible show wpAny _ _ (binaryOp _ _ _) _ _ _); (try (have := StrsAre.length (by assumption))); k_dflt (refine' cat_K (by k_asm) (by k_asm) (by k_mem) (by k_mem) (by (try simp only [List.length_append, List.length_cons, List.length_nil]); lia) ?_; walk_at "mine in"; (try k_sweep))) | ((with_reducible show wpAny _ _ (exec _ _) _ _ _); with_unfolding_all refine' for_T (by assumption) (by rfl) ?_)); k_steps)); (all_goals (try k_data)))
      unfold HandC
      refine vain_push (by assumption) (by assumption) hT offR n2 (neB (by walk_at "mine pick")) hzl rfl ?_
      rename News _ _ _ _ => N9
      clear hT offR hzl N9
      intro h9 ys R9 F9 N9 hT offR hzl sub9
      replace hlp := sub9 _ hlp
      clear sub9
      (k_steps; (repeat' (unfold HandC; (first | ((with_reducible show wpAny _ _ (binaryOp _ _ _) _ _ _); (try (have := StrsAre.length (by assumption))); k_dflt (refine' cat_K (by k_asm) (by k_asm) (by k_mem) (by k_mem) (by (try simp only [List.length_append, List.length_cons, List.length_nil]); lia) ?_; walk_at "mine in"; (try k_sweep))) | ((with_reducible show wpAny _ _ (exec _ _) _ _ _); with_unfolding_all refine' for_T (by assumption) (by rfl) ?_)); k_steps)); (all_goals (try k_data)))
      unfold HandC
      refine vain_push (by assumption) (by assumption) hT offR n2 (neB (by walk_at "mine pick")) hzl rfl ?_
      rename News _ _ _ _ => N9
      clear hT offR hzl N9
      intro h9 ys R9 F9 N9 hT offR hzl sub9
      replace hlp := sub9 _ hlp
      clear sub9
      (k_steps; (repeat' (unfold HandC; (first | ((with_reducible show wpAny _ _ (binaryOp _ _ _) _ _ _); (try (have := StrsAre.length (by assumption))); k_dflt (refine' cat_K (by k_asm) (by k_asm) (by k_mem) (by k_mem) (by (try simp only [List.length_append, List.length_cons, List.length_nil]); lia) ?_; walk_at "mine in"; (try k_sweep))) | ((with_reducible show wpAny _ _ (exec _ _) _ _ _); with_unfolding_all refine' for_T (by assumption) (by rfl) ?_)); k_steps)); (all_goals (try k_data)))
      unfold HandC
      refine vain_push (by assumption) (by assumption) hT offR n2 (neB (by walk_at "mine pick")) hzl rfl ?_
      rename News _ _ _ _ => N9
      clear hT offR hzl N9
      intro h9 ys R9 F9 N9 hT offR hzl sub9
      replace hlp := sub9 _ hlp
      clear sub9
      (k_steps; (repeat' (unfold HandC; (first | ((with_reducible show wpAny _ _ (binaryOp _ _ _) _ _ _); (try (have := StrsAre.length (by assumption))); k_dflt (refine' cat_K (by k_asm) (by k_asm) (by k_mem) (by k_mem) (by (try simp only [List.length_append, List.length_cons, List.length_nil]); lia) ?_; walk_at "mine in"; (try k_sweep))) | ((with_reducible show wpAny _ _ (exec _ _) _ _ _); with_unfolding_all refine' for_T (by assumption) (by rfl) ?_)); k_steps)); (all_goals (try k_data)))
      unfold HandC
      refine vain_push (by assumption) (by assumption) hT offR n2 (neB (by walk_at "mine pick")) hzl rfl ?_
      rename News _ _ _ _ => N9
      clear hT offR hzl N9
      intro h9 ys R9 F9 N9 hT offR hzl sub9
      replace hlp := sub9 _ hlp
      clear sub9
      (k_steps; (repeat' (unfold HandC; (first | ((with_reducible show wpAny _ _ (binaryOp _ _ _) _ _ _); (try (have := StrsAre.length (by assumption))); k_dflt (refine' cat_K (by k_asm) (by k_asm) (by k_mem) (by k_mem) (by (try simp only [List.length_append, List.length_cons, List.length_nil]); lia) ?_; walk_at "mine in"; (try k_sweep))) | ((with_reducible show wpAny _ _ (exec _ _) _ _ _); with_unfolding_all refine' for_T (by assumption) (by rfl) ?_)); k_steps)); (all_goals (try k_data)))
      replace hT : TupsAre ys (pairsF p2 p3 p4 last) R9 := by rw [← hps0] at hT; exact hT
      refine iter_P "want" "got" (pairsF p2 p3 p4 last) (fun i => ∀ p ∈ (pairsF p2 p3 p4 last).take i, (ellF p.1 p.2 != false) = false) (by assumption) (by assumption) (.head _) hT.len (fun i v hv => (hT.get i v (by simpa using hv)).mono fun p hp => .tail _ (.tail _ hp)) (fun p h => by simp at h) ?_ ?_
      · intro i T a ta b tb w1 w2 I oI h tk hP hpr hT F1 N1 hI
        intro qE
        have hlen := pairs_len h2 h3 h4 hl hpr
        obtain ⟨hla, hlb⟩ := hlen
        (k_steps; (repeat' (unfold HandC; (first | ((with_reducible show wpAny _ _ (binaryOp _ _ _) _ _ _); (try (have := StrsAre.length (by assumption))); k_dflt (refine' cat_K (by k_asm) (by k_asm) (by k_mem) (by k_mem) (by (try simp only [List.length_append, List.length_cons, List.length_nil]); lia) ?_; walk_at "mine in"; (try k_sweep))) | ((with_reducible show wpAny _ _ (exec _ _) _ _ _); with_unfolding_all refine' for_T (by assumption) (by rfl) ?_)); k_steps)); (all_goals (try k_data)))
        refine Ct.useV (ell_c _ _ _ _ (by lia) (by lia)) (by assumption) (by assumption) (by assumption) (by assumption) (by assumption) rfl (by (first | (show _ < _; decide) | exact room1 (k := 1) (by assumption) rfl | exact room2 (k := 3) (by assumption) rfl | exact room3 (by assumption) rfl | (simp only [recursionLimit, cLine] at *; lia))) (by (first | (show _ < _; decide) | exact room1 (k := 1) (by assumption) rfl | exact room2 (k := 3) (by assumption) rfl | exact room3 (by assumption) rfl | (simp only [recursionLimit, cLine] at *; lia))) ?_
        intro h13 tk13 F13 N13
        (k_steps; (repeat' (unfold HandC; (first | ((with_reducible show wpAny _ _ (binaryOp _ _ _) _ _ _); (try (have := StrsAre.length (by assumption))); k_dflt (refine' cat_K (by k_asm) (by k_asm) (by k_mem) (by k_mem) (by (try simp only [List.length_append, List.length_cons, List.length_nil]); lia) ?_; walk_at "mine in"; (try k_sweep))) | ((with_reducible show wpAny _ _ (exec _ _) _ _ _); with_unfolding_all refine' for_T (by assumption) (by rfl) ?_)); k_steps)); (all_goals (try k_data)))
        · skip
          exact leaveR_ (news' := [(lp, oP)]) (by assumption) (by assumption) (List.forall_mem_cons.mpr ⟨.tail _ (.tail _ (.tail _ hlp)), List.forall_mem_nil _⟩) fun kF kN ko => hret _ _ _ _ ⟨congrArg Value.bool (mist3 hpr (by assumption)).symm, rfl⟩ kF kN
        · refine EndL.next (by assumption) (by assumption) (by walk_at "mine sub") ⟨_, ⟨_, _, ?_⟩, by (refine up_off ?mua ?mub; (case mub => exact rfl); (case mua => walk_at "mine off"))⟩
          intro p hp
          rw [List.take_add_one, hpr] at hp
          rcases List.mem_append.mp hp with hp | hp
          · exact hP p hp
          · simp only [Option.toList, List.mem_singleton] at hp
            subst hp
            assumption
      · intro w1 w2 h tk hP F1 N1
        rw [List.take_of_length_le (Nat.le_refl _)] at hP
        (k_steps; (repeat' (unfold HandC; (first | ((with_reducible show wpAny _ _ (binaryOp _ _ _) _ _ _); (try (have := StrsAre.length (by assumption))); k_dflt (refine' cat_K (by k_asm) (by k_asm) (by k_mem) (by k_mem) (by (try simp only [List.length_append, List.length_cons, List.length_nil]); lia) ?_; walk_at "mine in"; (try k_sweep))) | ((with_reducible show wpAny _ _ (exec _ _) _ _ _); with_unfolding_all refine' for_T (by assumption) (by rfl) ?_)); k_steps)); (all_goals (try k_data)))
        dsimp only
        exact leaveR_ (news' := [(lp, oP)]) (by assumption) (by assumption) (List.forall_mem_cons.mpr ⟨.tail _ (.tail _ hlp), List.forall_mem_nil _⟩) fun kF kN ko => hret _ _ _ _ ⟨congrArg Value.bool (mist4 hall (by assumption) hP).symm, rfl⟩ kF kN
end
section
section
variable {M : Model} {A : Around} {R : GenEnd} {Y : Protocol} {n : Nat} {s₀ : Shared} {c : Code} {fs : List Frame} {s : Shared} {env : Env}
  {K : Flow → Sem Fin} {H : Value → Sem Fin} {gd : Bool → Bool} {lv : List Value → List Value}
-- a statement that does not yield
theorem seg_step {st : Stmt} {rest : List Stmt}
    (h : wpAny M (A.over c fs) (exec st env) (fun f s' => match f with | .next => Seg M A R Y n s₀ c ((execs rest env).wrap K H gd lv) fs s' | f => Seg M A R Y n s₀ c (K f) fs s') NoE s) :
    Seg M A R Y n s₀ c ((execs (st :: rest) env).wrap K H gd lv) fs s :=
  seg_execs_cons (seg_wrap (wpAny_mono h (fun f s' h' => by cases f <;> exact h') fun _ _ e => e.elim))
theorem seg_if {test : Expr} {body orelse : List Stmt} {pos : Pos}
    (h : wpAny M (A.over c fs) (isTrue test env (eval test env)) (fun b s' => Seg M A R Y n s₀ c ((execs (if b = true then body else orelse) env).wrap K H gd lv) fs s') NoE s) :
    Seg M A R Y n s₀ c ((exec (.If test body orelse pos) env).wrap K H gd lv) fs s := by
  rw [exec_If]
  show Seg M A R Y n s₀ c (.at pos fun _ => (isTrue test env (eval test env) >>= fun b => if b = true then execs body env else execs orelse env).wrap K H gd lv) fs s
  refine seg_at ?_
  rw [Sem.bind_eq_wrap', Sem.wrap_wrap]
  refine seg_wrap (wpAny_mono h (fun b s' h' => ?_) fun _ _ e => e.elim)
  cases b <;> exact h'
noncomputable def forK (env : Env) (K : Flow → Sem Fin) (H : Value → Sem Fin) (gd : Bool → Bool) (lv : List Value → List Value) : Result → Sem Fin :=
  fun r => ((match r with | .ok f => (.pure f : Sem Flow) | .error e => .raise e).onRaise fun (x : Value) => do
        if (← field x 1) == Value.none then unsupported "frame.own-activation:exception-without-traceback"
        setFlight x env.frame).wrap K H gd lv
theorem seg_For {target : Expr} {iter : Expr} {body orelse : List Stmt} {pos : Pos} (hs : ∀ x, foldedSetIterable iter env x = pure x)
    (h : wpAny M (A.over c fs) (eval iter env) (fun x s₁ => wpAny M (A.over c fs) (pyIter x) (fun it s₂ => ∀ p,
      Seg M A R Y n s₀ (.forLoop target it body orelse env) (M.den (.forLoop target it body orelse env)) (.ret (forK env K H gd lv) none (gd false) (lv []) c p [] :: fs) s₂) NoE s₁) NoE s) :
    Seg M A R Y n s₀ c ((exec (.For target iter body orelse pos) env).wrap K H gd lv) fs s := by
  rw [exec_For]
  show Seg M A R Y n s₀ c (.at pos fun _ => (eval iter env >>= fun x => (foldedSetIterable iter env x >>= fun x => (standAt iter.pos >>= fun _ => (holding [x] (pyIter x) >>= fun it => runOwn (.forLoop target it body orelse env) env)))).wrap K H gd lv) fs s
  refine seg_at ?_
  rw [Sem.bind_eq_wrap', Sem.wrap_wrap]
  refine seg_wrap (wpAny_mono h (fun x s₁ h₁ => ?_) fun _ _ e => e.elim)
  rw [hs x]
  show Seg M A R Y n s₀ c (.at iter.pos fun _ => (holding [x] (pyIter x) >>= fun it => runOwn (.forLoop target it body orelse env) env).wrap K H gd lv) fs s₁
  refine seg_at ?_
  rw [Sem.bind_eq_wrap', Sem.wrap_wrap]
  exact seg_wrap (wpAny_holding (wpAny_mono h₁ (fun it s₂ h₂ => seg_call h₂) fun _ _ e => e.elim))
end
section
variable {prog : Program} {w : World} {A : Around} {R : GenEnd} {Y : Protocol} {n : Nat} {s₀ : Shared} {fs : List Frame} {s : Shared} {env : Env}
noncomputable def noteH (env : Env) : Value → Sem Fin := fun e => (do noteFrame e env; theTreesLotGoes e : Sem Unit).wrap (fun _ => .raise e) .raise id id
noncomputable def forF (c : Code) : Flow → Sem Fin := fun f => match f with
  | .next | .cont => .pure (.again c)
  | .brk => .pure (.done .next)
  | .ret v => .pure (.done (.ret v))
theorem seg_forLoop {target : Expr} {it : Value} {body orelse : List Stmt}
    (h : wpAny (model prog w) (A.over (.forLoop target it body orelse env) fs) (pyNext it) (fun r s' => match r with
      | none => Seg (model prog w) A R Y n s₀ (.block orelse env) ((model prog w).den (.block orelse env)) fs s'
      | some v => wpAny (model prog w) (A.over (.forLoop target it body orelse env) fs) (letOwnedTupleGo target it v) (fun _ s₁ =>
          wpAny (model prog w) (A.over (.forLoop target it body orelse env) fs) (assign target env v) (fun _ s₂ =>
            Seg (model prog w) A R Y n s₀ (.forLoop target it body orelse env) ((execs body env).wrap (forF (.forLoop target it body orelse env)) (noteH env) id id) fs s₂) NoE s₁) NoE s') NoE s) :
    Seg (model prog w) A R Y n s₀ (.forLoop target it body orelse env) ((model prog w).den (.forLoop target it body orelse env)) fs s := by
  show Seg _ A R Y n s₀ _ ((forTurn target it body orelse env).onRaise (fun x => do noteFrame x env; theTreesLotGoes x)) fs s
  unfold forTurn
  rw [Sem.onRaise_eq_wrap]
  show Seg _ A R Y n s₀ _ (.at target.pos fun _ => ((pyNext it).onRaise (fun _ => standAt { target.pos with line := 0 }) >>= fun r => match r with
    | none => again (.block orelse env)
    | some v => letOwnedTupleGo target it v >>= fun _ => assign target env v >>= fun _ => execs body env >>= fun f => match f with
      | .next | .cont => again (.forLoop target it body orelse env)
      | .brk => pure (.done .next)
      | .ret v => pure (.done (.ret v))).wrap .pure _ id id) fs s
  refine seg_at ?_
  rw [Sem.bind_eq_wrap', Sem.wrap_wrap]
  refine seg_wrap (wpAny_onRaise (wpAny_mono h (fun r s' h' => ?_) fun _ _ e => e.elim))
  cases r with
  | none => exact seg_again rfl h'
  | some v =>
    dsimp only
    rw [Sem.bind_eq_wrap', Sem.wrap_wrap]
    refine seg_wrap (wpAny_mono h' (fun _ s₁ h₁ => ?_) fun _ _ e => e.elim)
    rw [Sem.bind_eq_wrap', Sem.wrap_wrap]
    refine seg_wrap (wpAny_mono h₁ (fun _ s₂ h₂ => ?_) fun _ _ e => e.elim)
    rw [Sem.bind_eq_wrap', Sem.wrap_wrap]
    rw [Sem.wrap_congr (execs body env) _ _ (K' := forF (.forLoop target it body orelse env)) (H' := noteH env) (fun f => by cases f <;> rfl) (fun e => by first | exact Sem.bind_eq_wrap _ _ | (show (do noteFrame e env; theTreesLotGoes e : Sem Unit).bind (fun _ => .raise e) = _; rw [Sem.bind_eq_wrap]; rfl))]
    exact h₂
theorem seg_block0 {k hh g l c₁ p₁ kp} (h : Seg (model prog w) A R Y n s₀ c₁ (k (.ok .next)) fs s) :
    Seg (model prog w) A R Y n s₀ (.block [] env) ((model prog w).den (.block [] env)) (.ret k hh g l c₁ p₁ kp :: fs) s := seg_leaf (.ok .next) h
end
-- the heap up to an address
noncomputable def cut (h : Heap) (n : Nat) : Heap := { h with objs := (h.objs.toList.take n).toArray }
theorem cut_at (h : Heap) (n : Nat) (b : Nat) : (cut h n).objs[b]? = if b < n then h.objs[b]? else none := by
  show (h.objs.toList.take n).toArray[b]? = _
  rw [List.getElem?_toArray, List.getElem?_take, Array.getElem?_toList]
theorem cut_get {h : Heap} {n : Nat} {b : Addr} {o : Obj} (e : (cut h n).get? b = some o) : @LT.lt Nat _ b n ∧ h.get? b = some o := by
  unfold Heap.get? at e ⊢
  rw [cut_at] at e
  by_cases hb : @LT.lt Nat _ b n
  · rw [if_pos hb] at e; exact ⟨hb, e⟩
  · rw [if_neg hb] at e; cases e
theorem get_cut {h : Heap} {n : Nat} {b : Addr} {o : Obj} (hb : @LT.lt Nat _ b n) (e : h.get? b = some o) : (cut h n).get? b = some o := by
  unfold Heap.get? at e ⊢
  rw [cut_at, if_pos hb]
  exact e
theorem cut_size (h : Heap) (n : Nat) : (cut h n).objs.size ≤ n := by
  show (h.objs.toList.take n).toArray.size ≤ n
  rw [List.size_toArray, List.length_take]; exact Nat.min_le_left _ _
end
section
noncomputable def genFd (P : Params) : FuncData := match (Mine.hd.heap_1 P).lookup 45 with
  | some ⟨_, _, .func fd, _⟩ => fd
  | _ => default
noncomputable def genB (P : Params) : List Stmt := match (genFd P).body with
  | .stmts b => b
  | _ => []
noncomputable def genFor (P : Params) : List Stmt := match genB P with
  | [_, _, .For _ _ b _ _, _] => b
  | _ => []
noncomputable def genTgt (P : Params) : Expr := match genB P with
  | [_, _, .For a _ _ _ _, _] => a
  | _ => default
noncomputable def genIf (P : Params) : List Stmt := match genB P with
  | [_, _, _, a] => [a]
  | _ => []
noncomputable def genSc : Scope := { kind := .function, names := [("addr", .local), ("pos", .local), ("escape", .local), ("ch", .local), ("enumerate", .globalImplicit)], isGenerator := true, isCoroutine := false }
theorem genSc_eq (P : Params) : (genFd P).scope = genSc := by with_unfolding_all rfl
noncomputable def genEnv (Lg : Addr) : Env := envOf "_iter_escaped_chars" genSc Lg 45 (.ref 44)
-- the pairs that are still to be given: the signs from place i on
noncomputable def escF : List Nat → Bool → Nat → Int → List (Int × Str)
  | [], esc, _, p => if esc = true then [(p, "\\")] else []
  | c :: r, esc, i, _ => if esc = true then ((i : Int), ("\\" : Str) ++ ⟨#[c]⟩) :: escF r false (i + 1) i else if ((⟨#[c]⟩ : Str) == "\\") = true then escF r true (i + 1) i else ((i : Int), ⟨#[c]⟩) :: escF r false (i + 1) i
noncomputable def genKE : Flow → Sem Fin := fun f => .pure (.done (.ret (match f with | .ret v => v | _ => .none)))
noncomputable def genK0 (P : Params) (Lg : Addr) (H0 : Value → Sem Fin) : Flow → Sem Fin := fun f => match f with
  | .next => (execs (genIf P) (genEnv Lg)).wrap genKE H0 id id
  | f => genKE f
noncomputable def genFs (P : Params) (Lg : Addr) (H0 : Value → Sem Fin) (c0 : Code) (p0 : Pos) : List Frame := [.ret (forK (genEnv Lg) (genK0 P Lg H0) H0 id id) none (id false) (id []) c0 p0 []]
inductive YG (ys : List (Int × Str)) (h₀ : Heap) (Lg aG : Addr) (oG : Obj) (m : Nat) (s₀ : Shared) : Value → Shared → (Resume → Shared → Prop) → Prop
  | mk (h' : Heap) (tk : Nat) (T : Addr) (ta tb : Tok) (a : Int) (b : Str) (n : Nat) (I E : Addr) (oL oI oE : Obj) {kap : Resume → Shared → Prop} (hab : ys.reverse[m]? = some (a, b)) (hT : h'.get? T = some { cls := .type "tuple", data := .seq #[.int a ta, .str b tb] n })
    (hlow : ∀ c o, @LT.lt Nat _ c Lg → s₀.heap.get? c = some o → h'.get? c = some o) (hA : h'.get? aG = some oG) (hL : h'.get? Lg = some oL) (hI : h'.get? I = some oI) (hE : h'.get? E = some oE)
    (o1 : @LT.lt Nat _ aG I) (o2 : @LT.lt Nat _ aG E) (o3 : @LT.lt Nat _ I T) (o4 : @LT.lt Nat _ E T)
    (hk : ∀ s'' : Shared, s''.heap.get? Lg = some oL → s''.heap.get? I = some oI → s''.heap.get? E = some oE → s''.heap.get? aG = some oG → (∀ c o, h₀.get? c = some o → s''.heap.get? c = some o) → kap (.send .none) s'') :
    YG ys h₀ Lg aG oG m s₀ (.ref T) { s₀ with heap := h', toks := tk } kap
inductive RG (Lg aG : Addr) (oG : Obj) : GenEnd
  | mk (s₀ : Shared) (h' : Heap) (tk : Nat) (hlow : ∀ c o, @LT.lt Nat _ c Lg → s₀.heap.get? c = some o → h'.get? c = some o) : RG Lg aG oG 0 s₀ (.ok (.ret .none)) { s₀ with heap := h', toks := tk }
theorem RG.inv {Lg aG : Addr} {oG : Obj} {n : Nat} {s₀ : Shared} {r : Result} {s₁ : Shared} (h : RG Lg aG oG n s₀ r s₁) : n = 0 ∧ ∃ h' tk, s₁ = { s₀ with heap := h', toks := tk } ∧ ∀ c o, @LT.lt Nat _ c Lg → s₀.heap.get? c = some o → h'.get? c = some o := by
  cases h with
  | mk _ h' tk hl => exact ⟨rfl, h', tk, rfl, hl⟩
theorem RG.ok {Lg aG : Addr} {oG : Obj} {n : Nat} {s₀ : Shared} {r : Result} {s₁ : Shared} (h : RG Lg aG oG n s₀ r s₁) : r = .ok (.ret .none) := by
  cases h with
  | mk _ h' tk hl => rfl
end
section
theorem fr_two {g h h' : Heap} {L I E : Addr} {m : Str → Option Value} (F : Fr g L h m) (hk : ∀ b o, b ≠ E → b ≠ I → h.get? b = some o → h'.get? b = some o) (h1 : L ≠ I) (h2 : L ≠ E) (g1 : g.get? I = none) (g2 : g.get? E = none) : Fr g L h' m :=
  ⟨F.ns.at' fun o e => hk _ o h2 h1 e, fun b o e => hk b o (fun q => by rw [q, g2] at e; cases e) (fun q => by rw [q, g1] at e; cases e) (F.keep b o e), F.above⟩
structure GInv (x : Str) (t : Tok) (h₀ : Heap) (Lg aG : Addr) (oG : Obj) (i : Nat) (esc : Bool) (p : Int) (I E : Addr) (s₀ s : Shared) (g : Heap) (m : Str → Option Value) (oI oE : Obj) : Prop where
  low : ∀ c o, @LT.lt Nat _ c Lg → s₀.heap.get? c = some o → g.get? c = some o
  F : Fr g Lg s.heap m
  N : News g Lg s.heap [(I, oI), (E, oE), (aG, oG)]
  esc : m "escape" = some (.bool esc)
  pos : ∃ tp, m "pos" = some (.int p tp)
  it : s.heap.IsStrIter I "str_ascii_iterator" x t i
  en : ∃ old, IsEnum s.heap E I i old
  o1 : @LT.lt Nat _ Lg aG
  o2 : @LT.lt Nat _ aG I
  o3 : @LT.lt Nat _ I E
theorem regen {x : Str} {t : Tok} {h₀ : Heap} {Lg aG : Addr} {oG : Obj} {i : Nat} {esc : Bool} {p : Int} {I E : Addr} {s₀ s : Shared} {g : Heap} {m : Str → Option Value} {oI oE : Obj} (G : GInv x t h₀ Lg aG oG i esc p I E s₀ s g m oI oE) {oL : Obj} (hL : LCg.NsObj oL m)
    {s'' : Shared} (a1 : s''.heap.get? Lg = some oL) (a2 : s''.heap.get? I = some oI) (a3 : s''.heap.get? E = some oE) (a4 : s''.heap.get? aG = some oG) : GInv x t h₀ Lg aG oG i esc p I E s'' s'' (cut s''.heap Lg) m oI oE := by
  have o1 := G.o1
  have o2 := G.o2
  have o3 := G.o3
  have hi := (G.N (I, oI) (.head _)).1
  have he := (G.N (E, oE) (.tail _ (.head _))).1
  have nc : ∀ b, @LT.lt Nat _ Lg b → (cut s''.heap Lg).get? b = none := fun b hb => by
    cases q : (cut s''.heap Lg).get? b with
    | none => rfl
    | some o => exact absurd hb (Nat.not_lt.mpr (Nat.le_of_lt (cut_get q).1))
  refine ⟨fun c o hc e => get_cut hc e, ⟨hL.ns a1, fun b o e => (cut_get e).2, cut_size _ _⟩, fun q hq => ?_, G.esc, G.pos, ?_, ?_, o1, o2, o3⟩
  · have hn : ∀ b : Addr, @LT.lt Nat _ Lg b → b ≠ Lg := fun b hb => Nat.ne_of_gt hb
    rcases List.mem_cons.mp hq with rfl | hq
    · exact ⟨a2, hn I (Nat.lt_trans o1 o2), nc I (Nat.lt_trans o1 o2)⟩
    · rcases List.mem_cons.mp hq with rfl | hq
      · exact ⟨a3, hn E (Nat.lt_trans o1 (Nat.lt_trans o2 o3)), nc E (Nat.lt_trans o1 (Nat.lt_trans o2 o3))⟩
      · rw [List.mem_singleton.mp hq]
        exact ⟨a4, hn aG o1, nc aG o1⟩
  · obtain ⟨o, ho, r⟩ := G.it
    rw [hi] at ho; cases ho
    exact ⟨_, a2, r⟩
  · obtain ⟨old, ho⟩ := G.en
    have ho' : s.heap.get? E = some _ := ho
    rw [he] at ho'
    cases ho'
    exact ⟨_, a3⟩
theorem mkG {x : Str} {t : Tok} {h₀ : Heap} {Lg aG T : Addr} {oG oT : Obj} {i : Nat} {esc : Bool} {p : Int} {tp : Tok} {I E : Addr} {s₀ s : Shared} {g : Heap} {m : Str → Option Value} {oI : Obj} {old : Value}
    (low : ∀ c o, @LT.lt Nat _ c Lg → s₀.heap.get? c = some o → g.get? c = some o) (F : Fr g Lg s.heap m) (N : News g Lg s.heap [(T, oT), (I, oI), (E, { cls := .type "enumerate", dict := none, data := .fields #[.none, .bool false, .ref I, rawInt i, .none, old], slots := #[] }), (aG, oG)])
    (he : m "escape" = some (.bool esc)) (hp : m "pos" = some (.int p tp)) (hI : oI.cls = .type "str_ascii_iterator" ∧ oI.data = .fields #[.str x t, .int i 0]) (o1 : @LT.lt Nat _ Lg aG) (o2 : @LT.lt Nat _ aG I) (o3 : @LT.lt Nat _ I E) :
    GInv x t h₀ Lg aG oG i esc p I E s₀ s g m oI { cls := .type "enumerate", dict := none, data := .fields #[.none, .bool false, .ref I, rawInt i, .none, old], slots := #[] } :=
  ⟨low, F, fun q hq => N q (.tail _ hq), he, ⟨tp, hp⟩, ⟨oI, (N _ (.tail _ (.head _))).1, hI⟩, ⟨old, (N _ (.tail _ (.tail _ (.head _)))).1⟩, o1, o2, o3⟩
theorem genTgt_eq (P : Params) : ∃ a b c d, genTgt P = .Tuple [.Name "pos" a, .Name "ch" b] c d := ⟨_, _, _, _, by with_unfolding_all rfl⟩
theorem up3 {m : Str → Option Value} {a b c : Option Value} (h1 : m "escape" = a) (h2 : m "pos" = b) (h3 : m "ch" = c) : up [("escape", a), ("pos", b), ("ch", c)] m = m := by
  subst h1 h2 h3; exact up_self m ["escape", "pos", "ch"]
theorem YG_mk {ys pre : List (Int × Str)} {rest : List (Int × Str)} {a : Int} {b : Str} (e : ys = pre ++ (a, b) :: rest) : ys.reverse[rest.length]? = some (a, b) := by
  subst e
  rw [List.reverse_append, List.reverse_cons, List.append_assoc, List.getElem?_append_right (by simp)]
  simp
theorem gen_loop {w : World} {A : Around} (hA : A.handled = none) {x : Str} {t : Tok} (ha : x.cps.all (· < 128) = true) {h₀ : Heap} {Lg aG : Addr} {oG : Obj} {H0 : Value → Sem Fin} {c0 : Code} {p0 : Pos} {ys : List (Int × Str)} {E I : Addr} :
    ∀ (cs : List Nat) (i : Nat) (esc : Bool) (p : Int) (pre : List (Int × Str)) (s₀ s : Shared) (g : Heap) (m : Str → Option Value) (oI oE : Obj), i ≤ x.cps.size → x.cps.toList.drop i = cs → (∃ hh tk, s = { s₀ with heap := hh, toks := tk }) → GInv x t h₀ Lg aG oG i esc p I E s₀ s g m oI oE → ys = pre ++ escF cs esc i p →
    Seg (model PySem.Challenge.rw_uc0007_01.row.prog w) A (RG Lg aG oG) (YG ys h₀ Lg aG oG) (escF cs esc i p).length s₀ (.forLoop (genTgt w.params) (.ref E) (genFor w.params) [] (genEnv Lg)) ((model PySem.Challenge.rw_uc0007_01.row.prog w).den (.forLoop (genTgt w.params) (.ref E) (genFor w.params) [] (genEnv Lg))) (genFs w.params Lg H0 c0 p0) s := by
  intro cs
  induction cs with
  | nil =>
    intro i esc p pre s₀ s g m oI oE hile hd hs G hys
    have hiz : x.cps.size ≤ i := by
      have := congrArg List.length hd
      simp at this; lia
    obtain rfl : i = x.cps.size := by lia
    obtain ⟨hh, tk0, rfl⟩ := hs
    obtain ⟨old, hen⟩ := G.en
    have o1 := G.o1
    have o2 := G.o2
    have o3 := G.o3
    have gI := (G.N (I, oI) (.head _))
    have gE := (G.N (E, oE) (.tail _ (.head _)))
    refine seg_forLoop ?_
    refine wpAny_pyNext_enum_endD (Draws.strAscii (by show (marksOver (genFs w.params Lg H0 c0 p0) (A.handled, A.handled)).1 = none; rw [hA]; rfl) I x t) hen G.it fun h1 he1 => ?_
    replace he1 : Heap.ExtBut I hh h1 := he1
    obtain ⟨tp, hpos⟩ := G.pos
    have F1 : Fr g Lg h1 m := fr_two G.F (fun b o _ b2 e => he1 b o b2 e) (Ne.symm gI.2.1) (Ne.symm gE.2.1) gI.2.2 gE.2.2
    have gA := G.N (aG, oG) (.tail _ (.tail _ (.head _)))
    have nA : h1.get? aG = some oG := he1 _ _ (Nat.ne_of_lt o2) gA.1
    have nE : h1.get? E = some oE := he1 _ _ (Nat.ne_of_gt o3) gE.1
    have N1 : News g Lg h1 [(E, oE), (aG, oG)] := fun q hq => by
      rcases List.mem_cons.mp hq with rfl | hq
      · exact ⟨nE, gE.2⟩
      · rw [List.mem_singleton.mp hq]; exact ⟨nA, gA.2⟩
    have m1 := G.esc
    dsimp only
    refine seg_block0 ?_
    show Seg _ _ _ _ _ _ c0 ((execs (genIf w.params) (genEnv Lg)).wrap genKE H0 id id) [] _
    have e3 : up [("escape", some (.bool esc)), ("pos", some (.int p tp)), ("ch", m "ch")] m = m := up3 m1 hpos rfl
    rw [← e3] at F1
    unfold genEnv genSc
    k_dflt (refine seg_execs_cons (st := Stmt.If _ _ _ _) (rest := []) ?_)
    refine seg_if ?_
    (k_steps; (all_goals (try k_data)))
    cases esc with
    | true =>
      rw [if_pos rfl]
      refine seg_execs_cons ?_
      refine seg_Expr_Yield rfl rfl rfl ?_ rfl rfl
      (k_steps; (all_goals (try k_data)))
      rename_i h6 F6 N6 kap hkap
      obtain ⟨oL, hoL, hL⟩ := LCg.ns_obj F6.ns
      refine ⟨h6, _, _, _, _, _, _, _, E, E, oL, oE, oE, YG_mk (rest := []) (pre := pre) hys, (N6 _ (.head _)).1, fun c o hc e => F6.keep c o (G.low c o hc e), (N6 (aG, oG) (.tail _ (.tail _ (.head _)))).1, hoL, (N6 (E, oE) (.tail _ (.head _))).1, (N6 (E, oE) (.tail _ (.head _))).1, Nat.lt_trans o2 o3, Nat.lt_trans o2 o3, Heap.lt_size nE, Heap.lt_size nE, fun s'' a1 a2 a3 a4 a5 => hkap .none s'' ?_⟩
      (try dsimp only)
      refine seg_execs_nil ?_
      show Seg _ _ _ _ _ _ _ ((execs [] _).wrap _ _ _ _) [] _
      refine seg_execs_nil ?_
      exact seg_end (.ok (.ret .none)) (.mk _ _ _ fun c o hc e => e)
    | false =>
      rw [if_neg (by decide)]
      refine seg_execs_nil (seg_execs_nil ?_)
      exact seg_end (.ok (.ret .none)) (.mk _ _ _ fun c o hc e => F1.keep c o (G.low c o hc e))
  | cons c r ih =>
    intro i esc p pre s₀ s g m oI oE hile hd hs G hys
    obtain ⟨hh, tk0, rfl⟩ := hs
    have hi : i < x.cps.size := by
      have := congrArg List.length hd
      simp at this; lia
    have hc : x.cps[i]? = some c := by
      have e := congrArg (·[0]?) hd
      simp only [List.getElem?_drop, Nat.add_zero, List.getElem?_cons_zero] at e
      simpa using e
    have hd' : x.cps.toList.drop (i + 1) = r := by
      rw [← List.drop_drop, hd]; rfl
    obtain ⟨old, hen⟩ := G.en
    have o1 := G.o1
    have o2 := G.o2
    have o3 := G.o3
    have gI := (G.N (I, oI) (.head _))
    have gE := (G.N (E, oE) (.tail _ (.head _)))
    refine seg_forLoop ?_
    refine wpAny_pyNext_enum_itemD (Draws.strAscii (by show (marksOver (genFs w.params Lg H0 c0 p0) (A.handled, A.handled)).1 = none; rw [hA]; rfl) I x t) hen G.it hi (Nat.ne_of_gt o3) (by simp; exact Nat.ne_of_gt o3) fun v h1 tk1 hP ho hst hT hsz hk => ?_
    obtain ⟨c', u, hc', rfl⟩ := hP
    rw [hc] at hc'; cases hc'
    (try dsimp only)
    k_dflt (refine wpAny_letOwnedTupleGo_enum ho ?_)
    intro h2 he2 hs2
    replace he2 : IsEnum h2 E I ((i + 1 : Nat) : Int) _ := he2
    replace hs2 : Heap.SameBut E h1 h2 := hs2
    generalize hTe : hh.objs.size = T at *
    have lE : @LT.lt Nat _ E T := by rw [← hTe]; exact Heap.lt_size gE.1
    have hk2 : ∀ b o, b ≠ E → b ≠ I → hh.get? b = some o → h2.get? b = some o := fun b o b1 b2 e => hs2.extBut b o b1 (hk b o b1 b2 e)
    have F2 : Fr g Lg h2 m := fr_two G.F hk2 (Ne.symm gI.2.1) (Ne.symm gE.2.1) gI.2.2 gE.2.2
    obtain ⟨oI', hoI', hIr⟩ : h2.IsStrIter I "str_ascii_iterator" x t (i + 1) := hst.extBut hs2.extBut (Nat.ne_of_lt o3)
    have hT2 : h2.get? T = some { cls := .type "tuple", data := .seq #[.int i tk1, .str ⟨#[c]⟩ u] } := hs2.extBut _ _ (Nat.ne_of_gt lE) hT
    have lT : @LT.lt Nat _ Lg T := Nat.lt_trans o1 (Nat.lt_trans o2 (Nat.lt_trans o3 lE))
    have gT : g.get? T = none := by
      cases q : g.get? T with
      | none => rfl
      | some o => exact absurd (Nat.le_trans (Nat.succ_le_of_lt (Heap.lt_size q)) G.F.above) (Nat.not_le.mpr (Nat.lt_succ_of_lt lT))
    have N2 : News g Lg h2 [(T, { cls := .type "tuple", data := .seq #[.int i tk1, .str ⟨#[c]⟩ u] }), (I, oI'), (E, _), (aG, oG)] := fun q hq => by
      rcases List.mem_cons.mp hq with rfl | hq
      · exact ⟨hT2, Nat.ne_of_gt lT, gT⟩
      · rcases List.mem_cons.mp hq with rfl | hq
        · exact ⟨hoI', gI.2⟩
        · rcases List.mem_cons.mp hq with rfl | hq
          · exact ⟨he2, gE.2⟩
          · rw [List.mem_singleton.mp hq]
            have gA := G.N (aG, oG) (.tail _ (.tail _ (.head _)))
            exact ⟨hk2 _ _ (Nat.ne_of_lt (Nat.lt_trans o2 o3)) (Nat.ne_of_lt o2) gA.1, gA.2⟩
    have m1 := G.esc
    clear hT hst hk hs2 ho
    obtain ⟨q1, q2, q3, q4, hTg⟩ := genTgt_eq w.params
    rw [show assign (genTgt w.params) = assign (.Tuple [.Name "pos" q1, .Name "ch" q2] q3 q4) by rw [hTg]]
    generalize hC : Code.forLoop (genTgt w.params) (Value.ref E) (genFor w.params) [] (genEnv Lg) = C at *
    generalize hfs : genFs w.params Lg H0 c0 p0 = fs at *
    have hqt : C.quiet = true := by rw [← hC]; rfl
    have hsp : splitAtGen fs = none := by rw [← hfs]; rfl
    have hgu : fs.any Frame.guarded = false := by rw [← hfs]; rfl
    have hAh : (A.over C fs).handled = none := by rw [← hfs]; show (marksOver _ (A.handled, A.handled)).1 = none; rw [hA]; rfl
    unfold genEnv genSc
    k_dflt (refine unpackN_ F2 N2 (News.isTup N2 (.head _)) hAh rfl rfl ?_)
    intro h3 F3 N3
    (k_steps; (all_goals (try k_data)))
    rename_i h4 F4x N4x h5 F5 N5
    clear F4x N4x
    rw [← up3 (m := fun y => if y = Str.ofString "ch" then _ else if y = Str.ofString "pos" then _ else m y) (a := some (.bool esc)) (b := some (.int i tk1)) (c := some (.str ⟨#[c]⟩ u)) (by show (if _ then _ else _) = _; rw [if_neg (by decide), if_neg (by decide)]; exact m1) rfl rfl] at F5
    k_dflt (refine seg_execs_cons (st := Stmt.If _ _ _ _) (rest := []) ?_)
    refine seg_if ?_
    (k_steps; (all_goals (try k_data)))
    cases esc with
    | true =>
      rw [if_pos rfl]
      have hE : escF (c :: r) true i p = ((i : Int), ("\\" : Str) ++ ⟨#[c]⟩) :: escF r false (i + 1) i := by rw [escF, if_pos rfl]
      rw [hE] at hys ⊢
      refine seg_execs_cons ?_
      refine seg_Expr_Yield hsp rfl hgu ?_ rfl rfl
      (k_steps; (all_goals (try k_data)))
      rename_i tb kb hlb h6 F6 N6 kap hkap
      have gTE := (N5 (E, _) (.tail _ (.tail _ (.head _)))).1
      obtain ⟨oL, hoL, hL⟩ := LCg.ns_obj F6.ns
      have G6 := mkG (x := x) (t := t) (h₀ := h₀) (esc := true) (p := i) (s := { s₀ with heap := h6, toks := kb }) G.low F6 (fun q hq => N6 q (.tail _ hq)) rfl rfl hIr o1 o2 o3
      refine ⟨h6, kb, _, _, _, _, _, _, I, E, oL, oI', _, YG_mk hys, (N6 _ (.head _)).1, fun c o hc e => F6.keep c o (G.low c o hc e), (N6 (aG, oG) (.tail _ (.tail _ (.tail _ (.tail _ (.head _)))))).1, hoL, (N6 (I, oI') (.tail _ (.tail _ (.head _)))).1, (N6 (E, _) (.tail _ (.tail _ (.tail _ (.head _))))).1, o2, Nat.lt_trans o2 o3, Nat.lt_trans o3 (Heap.lt_size gTE), Heap.lt_size gTE, fun s'' a1 a2 a3 a4 a5 => hkap .none s'' ?_⟩
      have G7 := regen G6 hL a1 a2 a3 a4
      have F7 := G7.F
      have N7 := G7.N
      refine seg_step ?_
      (k_steps; (all_goals (try k_data)))
      rename_i h8 F8 N8
      (try dsimp only)
      refine seg_execs_nil ?_
      show Seg _ _ _ _ _ _ _ ((execs [] _).wrap _ _ _ _) fs _
      refine seg_execs_nil ?_
      show Seg _ _ _ _ _ _ _ (.pure (.again C)) fs _
      refine seg_again hqt ?_
      exact ih (i + 1) false i (pre ++ [_]) s'' _ _ _ oI' _ hi hd' ⟨_, _, rfl⟩ ⟨G7.low, F8, N8, rfl, ⟨_, rfl⟩, ⟨oI', (N8 _ (.head _)).1, hIr⟩, ⟨_, (N8 _ (.tail _ (.head _))).1⟩, o1, o2, o3⟩ (by rw [hys, List.append_assoc]; rfl)
    | false =>
      rw [if_neg (by decide)]
      refine seg_execs_cons ?_
      refine seg_if ?_
      (k_steps; (all_goals (try k_data)))
      split
      · rename_i hb
        have hE : escF (c :: r) false i p = escF r true (i + 1) i := by rw [escF, if_neg (by decide), if_pos hb]
        rw [hE] at hys ⊢
        refine seg_step ?_
        (k_steps; (all_goals (try k_data)))
        rename_i h6 F6 N6
        (try dsimp only)
        refine seg_execs_nil ?_
        show Seg _ _ _ _ _ _ _ ((execs [] _).wrap _ _ _ _) fs _
        refine seg_execs_nil ?_
        show Seg _ _ _ _ _ _ _ ((execs [] _).wrap _ _ _ _) fs _
        refine seg_execs_nil ?_
        show Seg _ _ _ _ _ _ _ (.pure (.again C)) fs _
        refine seg_again hqt ?_
        exact ih (i + 1) true i pre s₀ _ g _ oI' _ hi hd' ⟨_, _, rfl⟩ (mkG G.low F6 N6 rfl rfl hIr o1 o2 o3) hys
      · rename_i hb
        have hE : escF (c :: r) false i p = ((i : Int), ⟨#[c]⟩) :: escF r false (i + 1) i := by rw [escF, if_neg (by decide), if_neg hb]
        rw [hE] at hys ⊢
        refine seg_execs_cons ?_
        refine seg_Expr_Yield hsp rfl hgu ?_ rfl rfl
        (k_steps; (all_goals (try k_data)))
        rename_i h6 F6 N6 kap hkap
        have gTE := (N5 (E, _) (.tail _ (.tail _ (.head _)))).1
        obtain ⟨oL, hoL, hL⟩ := LCg.ns_obj F6.ns
        have G6 := mkG (x := x) (t := t) (h₀ := h₀) (esc := false) (p := i) (s := { s₀ with heap := h6, toks := 0 }) G.low F6 (fun q hq => N6 q (.tail _ hq)) rfl rfl hIr o1 o2 o3
        refine ⟨h6, _, _, _, _, _, _, _, I, E, oL, oI', _, YG_mk hys, (N6 _ (.head _)).1, fun c o hc e => F6.keep c o (G.low c o hc e), (N6 (aG, oG) (.tail _ (.tail _ (.tail _ (.tail _ (.head _)))))).1, hoL, (N6 (I, oI') (.tail _ (.tail _ (.head _)))).1, (N6 (E, _) (.tail _ (.tail _ (.tail _ (.head _))))).1, o2, Nat.lt_trans o2 o3, Nat.lt_trans o3 (Heap.lt_size gTE), Heap.lt_size gTE, fun s'' a1 a2 a3 a4 a5 => hkap .none s'' ?_⟩
        have G7 := regen G6 hL a1 a2 a3 a4
        have F7 := G7.F
        have N7 := G7.N
        refine seg_execs_nil ?_
        show Seg _ _ _ _ _ _ _ ((execs [] _).wrap _ _ _ _) fs _
        refine seg_execs_nil ?_
        show Seg _ _ _ _ _ _ _ ((execs [] _).wrap _ _ _ _) fs _
        refine seg_execs_nil ?_
        show Seg _ _ _ _ _ _ _ (.pure (.again C)) fs _
        refine seg_again hqt ?_
        exact ih (i + 1) false i (pre ++ [_]) s'' s'' _ _ oI' _ hi hd' ⟨_, _, rfl⟩ G7 (by rw [hys, List.append_assoc]; rfl)
end
section
theorem gen_fresh {w : World} {A : Around} (hA : A.handled = none) {x : Str} {t : Tok} (ha : x.cps.all (· < 128) = true) {h₀ : Heap} {Lg aG : Addr} {oG oL : Obj}
    {p : Program} {loose : List Str} {mean : ExcName → Option Value} {mg mb : Str → Option Value}
    (X : (Mine.hd.heap_1 w.params).In h₀) (T : Top p loose mean mg mb h₀) (hLh : h₀.objs.size ≤ Lg) (hLa : @LT.lt Nat _ Lg aG) (hL : LCg.NsObj oL (fun y => if y = "addr" then some (.str x t) else none))
    {s'' : Shared} (a1 : s''.heap.get? Lg = some oL) (a2 : s''.heap.get? aG = some oG) (a3 : ∀ c o, h₀.get? c = some o → s''.heap.get? c = some o) :
    (GenState.fresh (.func (genB w.params) (genEnv Lg))).Goes (model PySem.Challenge.rw_uc0007_01.row.prog w) A (RG Lg aG oG) (YG (escF x.cps.toList false 0 0) h₀ Lg aG oG) (escF x.cps.toList false 0 0).length (.send .none) s'' := by
  revert X
  k_fill
  intro X
  refine ⟨rfl, seg_func ?_⟩
  have nc : ∀ b, @LT.lt Nat _ Lg b → (cut s''.heap Lg).get? b = none := fun b hb => by
    cases q : (cut s''.heap Lg).get? b with
    | none => rfl
    | some o => exact absurd hb (Nat.not_lt.mpr (Nat.le_of_lt (cut_get q).1))
  have F0 : Fr (cut s''.heap Lg) Lg s''.heap (fun y => if y = "addr" then some (.str x t) else none) := ⟨hL.ns a1, fun b o e => (cut_get e).2, cut_size _ _⟩
  have kc : ∀ c o, h₀.get? c = some o → (cut s''.heap Lg).get? c = some o := fun c o e => get_cut (Nat.lt_of_lt_of_le (Heap.lt_size e) hLh) (a3 c o e)
  have T0 := T.keeps kc
  have X0 := X.keeps kc
  have N0 : News (cut s''.heap Lg) Lg s''.heap [(aG, oG)] := fun q hq => by
    rw [List.mem_singleton.mp hq]
    exact ⟨a2, Nat.ne_of_gt hLa, nc aG hLa⟩
  unfold genEnv genSc
  k_dflt (refine seg_step (st := Stmt.Assign _ _ _) ?_)
  (k_steps; (all_goals (try k_data)))
  (try dsimp only)
  k_dflt (refine seg_step (st := Stmt.Assign _ _ _) ?_)
  (k_steps; (all_goals (try k_data)))
  (try dsimp only)
  k_dflt (refine seg_execs_cons (st := Stmt.For _ _ _ _ _) ?_)
  refine seg_For (by intro _; rfl) ?_
  (k_steps; (all_goals (try k_data)))
  rename Fr _ _ _ _ => F1
  rename News _ _ _ [(aG, oG)] => N1
  k_dflt (refine call_enumerate_str ?_)
  intro h' he hit hsz hk
  dsimp only at he hit hsz hk ⊢
  generalize hI : Array.size _ = I at he hit hsz ⊢
  rw [show strIterType x = "str_ascii_iterator" by unfold strIterType; rw [if_pos ha]] at hit
  have gA := N1 (aG, oG) (.head _)
  have lI : @LT.lt Nat _ aG I := by rw [← hI]; exact Heap.lt_size gA.1
  obtain ⟨oI, hoI, hIr⟩ := hit
  refine wpAny_pyIter_enum he fun p => ?_
  with_unfolding_all refine gen_loop hA ha _ 0 false 0 [] _ _ _ _ oI { cls := .type "enumerate", dict := none, data := .fields #[.none, .bool false, .ref I, rawInt 0, .none, .none], slots := #[] } (Nat.zero_le _) rfl ⟨_, _, rfl⟩ ⟨fun c o hc e => get_cut hc e, F1.keeps hk, fun q hq => ?_, rfl, ⟨_, rfl⟩, ⟨oI, hoI, hIr⟩, ⟨_, he⟩, hLa, lI, Nat.lt_succ_self _⟩ rfl
  rcases List.mem_cons.mp hq with rfl | hq
  · exact ⟨hoI, Nat.ne_of_gt (Nat.lt_trans hLa lI), nc _ (Nat.lt_trans hLa lI)⟩
  · rcases List.mem_cons.mp hq with rfl | hq
    · exact ⟨he, Nat.ne_of_gt (Nat.lt_succ_of_lt (Nat.lt_trans hLa lI)), nc _ (Nat.lt_succ_of_lt (Nat.lt_trans hLa lI))⟩
    · rw [List.mem_singleton.mp hq]
      exact ⟨hk _ _ gA.1, gA.2⟩
end
section
section
variable {prog : Program} {w : World} {A : Around} {E : Value → Shared → Prop} {s : Shared}
theorem pyNext_gen {a : Addr} {g n : Nat} {gs : GenState} {R : GenEnd} {Y : Protocol} {Q : Option Value → Shared → Prop} (hh : A.handled = none)
    (hl : s.heap.NoLimit) (hroom : A.depth < recursionLimit)
    (hg : s.heap.IsGen a g) (hgs : s.gens[g]? = some gs)
    (hgo : gs.Goes (model prog w) A.in1 R Y n (.send .none) (s.setGen g .running))
    (hR : ∀ r s₁, R n (s.setGen g .running) r s₁ → r = .ok (.ret .none))
    (hY : ∀ v s₁ gs', gs'.bare = true → Y (n - 1) (s.setGen g .running) v s₁ (fun r' s'' => match n with
        | 0 => False
        | m + 1 => gs'.Goes (model prog w) A.in1 R Y m r' s'') → Q (some v) (s₁.setGen g gs'))
    (hP : ∀ s₁, R n (s.setGen g .running) (.ok (.ret .none)) s₁ → ∀ h', (∀ b o, s₁.heap.get? b = some o → h'.get? b = some o) → Q none { s₁.setGen g .finished with heap := h' }) :
    wpAny (model prog w) A (pyNext (.ref a)) Q E s := by
  unfold pyNext
  refine wpAny_bind (wpAny_attempt (wpAny_callSpecial?_slot (name := Str.ofString "__next__") hg.typeIs slot_gen_next
    (wpAny_call_entry slot_gen_next hg.typeIs entry_gen_next ?_ (args_gen_next _))))
  show wpAny _ A.in1 (Builtin.Generator.genWake (.ref a) (.send .none)) _ _ s
  unfold Builtin.Generator.genWake
  refine wpAny_bind (wpAny_holding (wpAny_genNumber hg (wpAny_bind (wpAny_genState hgs ?_))))
  cases gs with
  | running => exact hgo.elim
  | finished => exact hgo.elim
  | _ =>
    refine wpAny_bind (wpAny_roomToWake hl hroom ?_)
    show wpAny _ A.in1 (.resume g (.send .none) [] _) _ _ s
    refine wpAny_resumeQ hgs hgo (fun x s₁ hx => ?_) (fun v s₁ gs' hb hv => ?_)
    · obtain rfl := hR _ _ hx
      show wpAny _ A.in1 (newExc (.type "StopIteration") [] >>= _) _ _ _
      refine wpAny_bind ?_
      simp only [newExc, newTuple]
      refine wpAny_bind (wpAny_newObj_type ?_ (by size_fits))
      refine wpAny_bind (m := firstArgMember _ _) (wpAny_of_eq (a := Value.none) (by first | rfl | (simp only [firstArgMember]; rfl)) ?_)
      refine wpAny_newObj_type ?_ (by size_fits)
      simp only [raiseNew]
      refine wpAny_bind (wpAny_bind (wpAny_handled ?_))
      first | rw [show A.in1.handled = none from hh] | rw [hh]
      refine wpAny_throw ?_
      refine wpAny_bind (wpAny_isInstance (T := "StopIteration") (b := true) ⟨_, Heap.get?_push_size _ rfl, rfl⟩ isSubtype_stop ?_)
      exact wpAny_pure (hP s₁ hx _ fun b o hb => Heap.get?_push_of_some _ (Heap.get?_push_of_some _ hb))
    · exact wpAny_pure ⟨v, rfl, wpAny_pure (hY v s₁ gs' hb hv)⟩
theorem letTup_gen {elts : List Expr} {x1} {pos : Pos} {a g T : Addr} {Q : Unit → Shared → Prop} (hg : s.heap.IsGen a g) (hQ : Q () s) :
    wpAny (model prog w) A (letOwnedTupleGo (.Tuple elts x1 pos) (.ref a) (.ref T)) Q E s := by
  obtain ⟨o, nm, qn, ho, hc, hd, _⟩ := hg
  unfold letOwnedTupleGo
  refine wpAny_bind (wpAny_load ho ?_)
  rw [hc, hd]
  show wpAny _ A (if (["enumerate", "zip", "dict_itemiterator", "dict_reverseitemiterator", "odict_iterator", "itertools.zip_longest", "itertools.pairwise"].contains "generator" &&
      (#[.int g 0, nm, qn] : Array Value)[0]? == some (rawInt T)) = true then _ else _) Q E s
  rw [if_neg (by
    intro h
    rw [show (["enumerate", "zip", "dict_itemiterator", "dict_reverseitemiterator", "odict_iterator", "itertools.zip_longest", "itertools.pairwise"].contains "generator") = false from by decide, Bool.false_and] at h
    cases h)]
  exact wpAny_pure hQ
end
noncomputable def mAddr (x : Str) (t : Tok) : Str → Option Value := fun y => if y = "addr" then some (.str x t) else none
noncomputable def genO (g : Nat) (nm qn : Value) : Obj := { cls := .type "generator", dict := none, data := .fields #[.int g 0, nm, qn], slots := #[] }
theorem bare_set {G : Array GenState} {g : Nat} {x : GenState} (h : AllBare G) (hx : x.bare = true) : AllBare (G.setIfInBounds g x) := by
  intro y hy
  obtain ⟨i, hi, rfl⟩ := Array.mem_iff_getElem.mp hy
  rw [Array.getElem_setIfInBounds (by simpa using hi)]
  split
  · exact hx
  · have := (by simpa using hi : i < G.size)
    exact h _ (Array.getElem_mem this)
theorem gen_obj (P : Params) : ∃ o : Obj, (Mine.hd.heap_1 P).lookup 45 = some o ∧ o.data = .func (genFd P) := ⟨_, by with_unfolding_all rfl, by with_unfolding_all rfl⟩
theorem gen_bind (P : Params) (x : Str) (t : Tok) : (bindArgs (genFd P) { pos := [Value.str x t] } : Sem _) = pure [(Str.ofString "addr", Value.str x t)] := by with_unfolding_all rfl
section
variable {w : World} {A : Around} {s : Shared} {h₀ : Heap} {L : Addr} {m : Str → Option Value} {E : Value → Shared → Prop}
theorem call_gen {news : List (Addr × Obj)} {x : Str} {t : Tok} {p : Program} {loose : List Str} {mean : ExcName → Option Value} {mg mb : Str → Option Value} {Q : Value → Shared → Prop}
    (hroom : A.depth < recursionLimit) (F : Fr h₀ L s.heap m) (X : (Mine.hd.heap_1 w.params).In h₀) (N : News h₀ L s.heap news) (T : Top p loose mean mg mb h₀)
    (h : ∀ (Lg aG : Addr) oL nm qn h' tk, Fr h₀ L h' m → News h₀ L h' ((aG, genO s.gens.size nm qn) :: (Lg, oL) :: news) → LCg.NsObj oL (mAddr x t) → @LT.lt Nat _ Lg aG → @LT.lt Nat _ L Lg → (∀ q ∈ news, q.1 < Lg) → h₀.objs.size ≤ Lg →
      Q (.ref aG) { s with heap := h', toks := tk, gens := s.gens.push (.fresh (.func (genB w.params) (genEnv Lg))) }) :
    wpAny (model PySem.Challenge.rw_uc0007_01.row.prog w) A (call (.ref 45) [.str x t]) Q E s := by
  revert X
  k_fill
  intro X
  obtain ⟨o, ho, hd⟩ := gen_obj w.params
  have ho := F.keep _ _ (X _ _ ho)
  have cr : s.heap.CodeRec (.ref 44) "_iter_escaped_chars" := codeRec_of (X.keeps F.keep) (by k_is)
  refine wpAny_call (codeAny_call_generator (fd := genFd w.params) (body := genB w.params) hroom ho hd (by with_unfolding_all rfl) (by with_unfolding_all rfl) (by with_unfolding_all rfl) (by with_unfolding_all exact cr) ?_)
  refine wpAny_of_eq (gen_bind w.params x t) ?_
  refine wpAny_newFunctionEnv (by rw [genSc_eq]; decide) (by rw [genSc_eq]; intro y hy; rw [List.mem_singleton.mp hy]; rfl) (fun h' hns hsb => ?_) (by rw [genSc_eq]; rfl)
  have e : (fun y => List.lookup y [((Str.ofString "addr"), Value.str x t)].reverse) = mAddr x t := by
    funext y
    unfold mAddr
    show List.lookup y [((Str.ofString "addr"), Value.str x t)] = _
    rw [List.lookup_cons]
    by_cases hy : y = Str.ofString "addr"
    · rw [if_pos hy, hy, beq_self_eq_true]
    · rw [if_neg hy, beq_false_of_ne hy]; rfl
  rw [e] at hns
  have hlim := T.nolimit.keeps F.keep
  refine ⟨hlim.fresh _ hsb, ?_⟩
  have k1 : ∀ b o, s.heap.get? b = some o → h'.get? b = some o := fun b o e => hsb.extBut b o (Nat.ne_of_lt (Heap.lt_size e)) (Heap.get?_push_of_some _ e)
  obtain ⟨oL, hoL, hL⟩ := LCg.ns_obj hns
  have hz : h'.objs.size = s.heap.objs.size + 1 := by rw [hsb.1, Heap.size_push]
  have lL : @LT.lt Nat _ L s.heap.objs.size := F.ns.lt
  have h0 : h₀.objs.size ≤ s.heap.objs.size := Nat.le_trans F.above (Nat.le_of_lt lL)
  have nn : ∀ b, s.heap.objs.size ≤ b → h₀.get? b = none := fun b hb => by
    cases q : h₀.get? b with
    | none => rfl
    | some o => exact absurd (Heap.lt_size q) (Nat.not_lt.mpr (Nat.le_trans h0 hb))
  have k2 : ∀ (o' : Obj) b o, s.heap.get? b = some o → (h'.push o').get? b = some o := fun o' b o e => Heap.get?_push_of_some _ (k1 b o e)
  have fin := h s.heap.objs.size h'.objs.size oL (.str (genFd w.params).name (s.toks + 1)) (.str (genFd w.params).qualname (s.toks + 1 + 1)) (h'.push (genO s.gens.size (.str (genFd w.params).name (s.toks + 1)) (.str (genFd w.params).qualname (s.toks + 1 + 1)))) (s.toks + 1 + 1 + 1) (F.keeps (k2 _)) (fun q hq => by
    rcases List.mem_cons.mp hq with rfl | hq
    · exact ⟨Heap.get?_push_size _ rfl, by rw [hz]; exact Nat.ne_of_gt (Nat.lt_succ_of_lt lL), nn _ (by rw [hz]; exact Nat.le_succ _)⟩
    · rcases List.mem_cons.mp hq with rfl | hq
      · exact ⟨Heap.get?_push_of_some _ hoL, Nat.ne_of_gt lL, nn _ (Nat.le_refl _)⟩
      · exact ⟨k2 _ _ _ (N q hq).1, (N q hq).2⟩) hL (by rw [hz]; exact Nat.lt_succ_self _) lL (fun q hq => Heap.lt_size (N q hq).1) h0
  with_unfolding_all exact fin
end
end
section
-- the end of a turn over a generator
inductive EndGN (h₀ : Heap) (L : Addr) (pre : List (Addr × Obj)) (J : (Str → Option Value) → List (Addr × Obj) → Prop) (s₁ : Shared) : Shared → Prop
  | mk (h' : Heap) (tk : Nat) (m' : Str → Option Value) (news' : List (Addr × Obj)) (F : Fr h₀ L h' m') (N : News h₀ L h' (pre ++ news')) (j : J m' news') : EndGN h₀ L pre J s₁ { s₁ with heap := h', toks := tk }
noncomputable def EndG (h₀ : Heap) (L : Addr) (gs : List (Addr × Obj)) (J : (Str → Option Value) → List (Addr × Obj) → Prop) (s₁ : Shared) (Q : Flow → Shared → Prop) (f : Flow) (s' : Shared) : Prop :=
  match f with
  | .ret v => Q (.ret v) s'
  | .brk => Q .next s'
  | _ => EndGN h₀ L gs J s₁ s'
theorem EndG.next {h₀ : Heap} {L : Addr} {gs : List (Addr × Obj)} {J : (Str → Option Value) → List (Addr × Obj) → Prop} {s₁ : Shared} {Q : Flow → Shared → Prop} {h' : Heap} {tk : Nat} {m' : Str → Option Value} {news' led : List (Addr × Obj)}
    (F : Fr h₀ L h' m') (N : News h₀ L h' led) (sub : ∀ p ∈ gs ++ news', p ∈ led) (j : J m' news') : EndG h₀ L gs J s₁ Q .next { s₁ with heap := h', toks := tk } :=
  EndGN.mk h' tk m' news' F (fun p hp => N p (sub p hp)) j
inductive LoopG (w : World) (A : Around) (h₀ : Heap) (env : Env) (tgt : Expr) (body : List Stmt) (Q : Flow → Shared → Prop) : Value → Shared → Prop
  | mk (x : Str) (t : Tok) (p : Program) (loose : List Str) (mean : ExcName → Option Value) (mg mb : Str → Option Value) (Lg aG : Addr) (oL : Obj) (nm qn : Value) (G : Array GenState) (m : Str → Option Value) (news : List (Addr × Obj)) (s₂ : Shared) (J : Nat → (Str → Option Value) → List (Addr × Obj) → Prop)
    (ha : x.cps.all (· < 128) = true) (X : (Mine.hd.heap_1 w.params).In h₀) (T : Top p loose mean mg mb h₀) (hLh : h₀.objs.size ≤ Lg) (hLL : @LT.lt Nat _ env.locals Lg) (hLa : @LT.lt Nat _ Lg aG) (hL : LCg.NsObj oL (mAddr x t))
    (hG : s₂.gens = G.push (.fresh (.func (genB w.params) (genEnv Lg)))) (hAB : AllBare G) (F : Fr h₀ env.locals s₂.heap m) (N : News h₀ env.locals s₂.heap ((aG, genO G.size nm qn) :: (Lg, oL) :: news)) (j0 : J 0 m news)
    (hJ : ∀ i m news, J i m news → ∀ p ∈ news, p.1 < Lg)
    (step : ∀ i a ta b tb n m₁ news₁ T I E oL oI oE h tk G', (escF x.cps.toList false 0 0)[i]? = some (a, b) → J i m₁ news₁ → AllBare G' → Fr h₀ env.locals h m₁ →
      News h₀ env.locals h ((T, { cls := .type "tuple", data := .seq #[.int a ta, .str b tb] n }) :: (aG, genO G.size nm qn) :: (Lg, oL) :: (I, oI) :: (E, oE) :: news₁) →
      @LT.lt Nat _ aG I → @LT.lt Nat _ aG E → @LT.lt Nat _ I T → @LT.lt Nat _ E T →
      wpAny (model PySem.Challenge.rw_uc0007_01.row.prog w) A (assign tgt env (.ref T)) (fun _ s' => wpAny (model PySem.Challenge.rw_uc0007_01.row.prog w) A (execs body env)
        (EndG h₀ env.locals [(aG, genO G.size nm qn), (Lg, oL), (I, oI), (E, oE)] (J (i + 1)) { s₂ with heap := h, toks := tk, gens := G' } Q) NoE s') NoE { s₂ with heap := h, toks := tk, gens := G' })
    (done : ∀ m' news' h' tk G', J (escF x.cps.toList false 0 0).length m' news' → AllBare G' → Fr h₀ env.locals h' m' → News h₀ env.locals h' news' → Q .next { s₂ with heap := h', toks := tk, gens := G' }) : LoopG w A h₀ env tgt body Q (.ref aG) s₂
-- how the generator goes on, once i of its pairs are given
noncomputable def GoesOn (w : World) (A : Around) (h₀ : Heap) (Lg aG : Addr) (oG : Obj) (ys : List (Int × Str)) (gs : GenState) (oL : Obj) (I : Addr) (oI : Obj) (E : Addr) (oE : Obj) (k : Nat) : Prop :=
  ∀ s'' : Shared, s''.heap.get? Lg = some oL → s''.heap.get? I = some oI → s''.heap.get? E = some oE → s''.heap.get? aG = some oG → (∀ c o, h₀.get? c = some o → s''.heap.get? c = some o) →
    gs.Goes (model PySem.Challenge.rw_uc0007_01.row.prog w) A.in1 (RG Lg aG oG) (YG ys h₀ Lg aG oG) k (.send .none) s''
inductive ForGI (w : World) (A : Around) (h₀ : Heap) (L Lg aG : Addr) (oG : Obj) (g : Nat) (ys : List (Int × Str)) (J : Nat → (Str → Option Value) → List (Addr × Obj) → Prop) (s₂ : Shared) : Nat → Shared → Prop
  | mk (i : Nat) (hi : i ≤ ys.length) (G' : Array GenState) (gs : GenState) (oL : Obj) (I : Addr) (oI : Obj) (E : Addr) (oE : Obj) (s' : Shared) (hAB : AllBare G') (hgs : G'[g]? = some gs) (go : GoesOn w A h₀ Lg aG oG ys gs oL I oI E oE (ys.length - i))
    (h : EndGN h₀ L [(aG, oG), (Lg, oL), (I, oI), (E, oE)] (J i) { s₂ with gens := G' } s') : ForGI w A h₀ L Lg aG oG g ys J s₂ (ys.length - i) s'
theorem below_none {h₀ : Heap} {Lg b : Addr} (hLh : h₀.objs.size ≤ Lg) (hb : @LT.lt Nat _ Lg b) : h₀.get? b = none := by
  cases q : h₀.get? b with
  | none => rfl
  | some o => exact absurd (Heap.lt_size q) (Nat.not_lt.mpr (Nat.le_trans hLh (Nat.le_of_lt hb)))
noncomputable def IsGenO (o : Obj) (g : Nat) (nm qn : Value) : Prop := o.cls = .type "generator" ∧ o.data = .fields #[.int g 0, nm, qn] ∧ o.slots = #[]
theorem set_set_get {G : Array GenState} {g : Nat} {a b c : GenState} (h : G[g]? = some c) : ((G.setIfInBounds g a).setIfInBounds g b)[g]? = some b := by
  have hg : g < G.size := by
    rcases Nat.lt_or_ge g G.size with h' | h'
    · exact h'
    · rw [Array.getElem?_eq_none h'] at h; cases h
  simp [hg]
theorem endG_re {h₀ : Heap} {L : Addr} {pre : List (Addr × Obj)} {J : (Str → Option Value) → List (Addr × Obj) → Prop} {s₂ : Shared} {h : Heap} {tk : Nat} {G : Array GenState} {s' : Shared} (e : EndGN h₀ L pre J { s₂ with heap := h, toks := tk, gens := G } s') : EndGN h₀ L pre J { s₂ with gens := G } s' := by
  cases e with
  | mk h' tk' m' news' F N j => exact EndGN.mk (s₁ := { s₂ with gens := G }) h' tk' m' news' F N j
theorem for_G {w : World} {A : Around} {s : Shared} {env : Env} {h₀ : Heap} {elts : List Expr} {x1} {tpos : Pos} {pos : Pos} {iter : Expr} {body : List Stmt} {Q : Flow → Shared → Prop} {L : Addr} {h : Heap} {m : Str → Option Value} (_ : Fr h₀ L h m) (hA : A.handled = none) (hroom : A.depth < recursionLimit)
    (h : wpAny (model PySem.Challenge.rw_uc0007_01.row.prog w) A (eval iter env) (fun xv s₁ => wpAny (model PySem.Challenge.rw_uc0007_01.row.prog w) A (pyIter xv) (fun it s₂ => LoopG w A h₀ env (.Tuple elts x1 tpos) body Q it s₂) NoE s₁) NoE s)
    (hs : ∀ x, foldedSetIterable iter env x = pure x := by intro _; rfl) :
    wpAny (model PySem.Challenge.rw_uc0007_01.row.prog w) A (exec (.For (.Tuple elts x1 tpos) iter body [] pos) env) Q NoE s := by
  refine wpAny_For (wpAny_mono h (fun xv s₁ h₁ => noE (wpAny_mono h₁ (fun it s₂ h₂ => ?_) fun _ _ e => e)) fun _ _ e => e) hs
  induction h₂ with
  | mk x t p loose mean mg mb Lg aG oL nm qn G m news s₂ J ha X T hLh hLL hLa hL hG hAB F N j0 hJ step done =>
  have lowE := fun (c : Addr) (o : Obj) (e : h₀.get? c = some o) => Nat.lt_of_lt_of_le (Heap.lt_size e) hLh
  have hI0 : ForGI w A h₀ env.locals Lg aG (genO G.size nm qn) G.size (escF x.cps.toList false 0 0) J s₂ ((escF x.cps.toList false 0 0).length - 0) s₂ := by
    refine .mk 0 (Nat.zero_le _) s₂.gens (.fresh (.func (genB w.params) (genEnv Lg))) oL aG (genO G.size nm qn) aG (genO G.size nm qn) s₂ ?_ ?_ (fun s'' b1 b2 b3 b4 b5 => gen_fresh (w := w) (A := A.in1) hA (x := x) (t := t) ha X T hLh hLa hL b1 b4 b5) (EndGN.mk (s₁ := { s₂ with gens := s₂.gens }) s₂.heap s₂.toks m news F (fun q hq => N q ?_) j0)
    · rw [hG]
      intro y hy
      rcases Array.mem_push.mp hy with h | h
      · exact hAB _ h
      · rw [h]; rfl
    · rw [hG]; exact Array.getElem?_push_size
    · revert q
      exact List.forall_mem_cons.mpr ⟨.head _, List.forall_mem_cons.mpr ⟨.tail _ (.head _), List.forall_mem_cons.mpr ⟨.head _, List.forall_mem_cons.mpr ⟨.head _, fun q hq => .tail _ (.tail _ hq)⟩⟩⟩⟩
  refine codeAny_forLoop_any (ForGI w A h₀ env.locals Lg aG (genO G.size nm qn) G.size (escF x.cps.toList false 0 0) J s₂) ?_ _ hI0
  clear hI0 N F j0 hG hAB
  generalize escF x.cps.toList false 0 0 = ys at *
  have hoG : IsGenO (genO G.size nm qn) G.size nm qn := ⟨rfl, rfl, rfl⟩
  generalize genO G.size nm qn = oG at *
  intro k s' hI
  induction hI with
  | mk i hi G' gs oL I oI E oE s' hAB' hgs go hE =>
  induction hE with
  | mk h' tk m' news' F' N' hj =>
  have gA := N' (aG, oG) (.head _)
  have gL := N' (Lg, oL) (.tail _ (.head _))
  have gI := N' (I, oI) (.tail _ (.tail _ (.head _)))
  have gE := N' (E, oE) (.tail _ (.tail _ (.tail _ (.head _))))
  refine pyNext_gen (R := RG Lg aG oG) (Y := YG ys h₀ Lg aG oG) (n := ys.length - i) hA (T.nolimit.keeps F'.keep) hroom ⟨oG, nm, qn, gA.1, hoG⟩ hgs (go _ gL.1 gI.1 gE.1 gA.1 F'.keep) (fun r s₁ h => h.ok) (fun v s₁ gs' hb hY => ?_) (fun s₁ hR h2 hk => ?_)
  · cases hY with
    | mk h1 tk1 Tt ta tb a b n I' E' oL' oI' oE' hab hT hlow hA1 hL1 hI1 hE1 o1 o2 o3 o4 hkap =>
    have h0k : ∀ c o, h₀.get? c = some o → h1.get? c = some o := fun c o e => hlow c o (lowE c o e) (F'.keep _ _ e)
    have hlt : i < ys.length := by
      refine Nat.lt_of_le_of_ne hi fun e => ?_
      subst e
      rw [Nat.sub_self] at hkap
      exact hkap { s₂ with heap := h1 } hL1 hI1 hE1 hA1 h0k
    have hab' : ys[i]? = some (a, b) := by
      rw [List.getElem?_reverse (by lia), show ys.length - 1 - (ys.length - i - 1) = i by lia] at hab
      exact hab
    have lI : @LT.lt Nat _ Lg I' := Nat.lt_trans hLa o1
    have lE : @LT.lt Nat _ Lg E' := Nat.lt_trans hLa o2
    have lT : @LT.lt Nat _ Lg Tt := Nat.lt_trans lI o3
    have nw : ∀ b : Addr, @LT.lt Nat _ Lg b → b ≠ env.locals ∧ h₀.get? b = none := fun b hb => ⟨Nat.ne_of_gt (Nat.lt_trans hLL hb), below_none hLh hb⟩
    have N1 : News h₀ env.locals h1 ((Tt, { cls := .type "tuple", data := .seq #[.int a ta, .str b tb] n }) :: (aG, oG) :: (Lg, oL') :: (I', oI') :: (E', oE') :: news') :=
      List.forall_mem_cons.mpr ⟨⟨hT, nw _ lT⟩, List.forall_mem_cons.mpr ⟨⟨hA1, gA.2⟩, List.forall_mem_cons.mpr ⟨⟨hL1, gL.2⟩, List.forall_mem_cons.mpr ⟨⟨hI1, nw _ lI⟩, List.forall_mem_cons.mpr ⟨⟨hE1, nw _ lE⟩, fun q hq =>
        have h := N' q (.tail _ (.tail _ (.tail _ (.tail _ hq))))
        ⟨hlow _ _ (hJ _ _ _ hj q hq) h.1, h.2⟩⟩⟩⟩⟩⟩
    refine letTup_gen (g := G.size) ⟨oG, nm, qn, hA1, hoG⟩ ?_
    refine noE (wpAny_mono (step i a ta b tb n m' news' Tt I' E' oL' oI' oE' h1 tk1 ((G'.setIfInBounds G.size .running).setIfInBounds G.size gs') hab' hj (bare_set (bare_set hAB' rfl) hb) ⟨F'.ns.at' fun o e => hlow _ _ hLL e, h0k, F'.above⟩ N1 o1 o2 o3 o4) (fun _ s₃ h₃ => noE (wpAny_mono h₃ (fun f s₃ h₃ => ?_) fun _ _ e => e)) fun _ _ e => e)
    have hg2 : ((G'.setIfInBounds G.size .running).setIfInBounds G.size gs')[G.size]? = some gs' := set_set_get hgs
    have key : EndGN h₀ env.locals [(aG, oG), (Lg, oL'), (I', oI'), (E', oE')] (J (i + 1)) { s₂ with gens := (G'.setIfInBounds G.size .running).setIfInBounds G.size gs' } s₃ → ∃ j, j < ys.length - i ∧ ForGI w A h₀ env.locals Lg aG oG G.size ys J s₂ j s₃ := fun h =>
      ⟨ys.length - (i + 1), by lia, .mk (i + 1) hlt _ gs' oL' I' oI' E' oE' s₃ (bare_set (bare_set hAB' rfl) hb) hg2 (by
        intro s'' b1 b2 b3 b4 b5
        have h := hkap s'' b1 b2 b3 b4 b5
        rw [show ys.length - i = (ys.length - (i + 1)) + 1 by lia] at h
        exact h) h⟩
    cases f with
    | ret v => exact h₃
    | brk => exact h₃
    | cont => exact key (endG_re h₃)
    | next => exact key (endG_re h₃)
  · obtain ⟨hz, h1, tk1, rfl, hlow⟩ := hR.inv
    obtain rfl : i = ys.length := Nat.le_antisymm hi (Nat.le_of_sub_eq_zero hz)
    refine wpAny_execs_nil ?_
    refine done m' news' h2 tk1 ((G'.setIfInBounds G.size .running).setIfInBounds G.size .finished) hj (bare_set (bare_set hAB' rfl) rfl) ⟨F'.ns.at' fun o e => hk _ _ (hlow _ _ hLL e), fun c o e => hk _ _ (hlow c o (lowE c o e) (F'.keep _ _ e)), F'.above⟩ fun q hq => ?_
    have h := N' q (.tail _ (.tail _ (.tail _ (.tail _ hq))))
    exact ⟨hk _ _ (hlow _ _ (hJ _ _ _ hj q hq) h.1), h.2⟩
theorem gen_for {w : World} {A : Around} {s : Shared} {env : Env} {h₀ : Heap} {tgt : Expr} {body : List Stmt} {Q : Flow → Shared → Prop} {m : Str → Option Value} {news : List (Addr × Obj)} {x : Str} {t : Tok} {p : Program} {loose : List Str} {mean : ExcName → Option Value} {mg mb : Str → Option Value}
    (ys : List Str) (K : Nat → List (Option Value) → List (Addr × Obj) → Prop) (hroom : A.depth < recursionLimit) (ha : x.cps.all (· < 128) = true) (F : Fr h₀ env.locals s.heap m) (X : (Mine.hd.heap_1 w.params).In h₀) (N : News h₀ env.locals s.heap news) (T : Top p loose mean mg mb h₀) (hB : AllBare s.gens)
    (k0 : K 0 (ys.map m) news) (hK : ∀ Lg : Addr, (∀ q ∈ news, q.1 < Lg) → ∀ i vals n, K i vals n → ∀ p ∈ n, p.1 < Lg)
    (step : ∀ i a ta b tb n vals news₁ Lg aG oG T I E oL oI oE h tk G', (escF x.cps.toList false 0 0)[i]? = some (a, b) → K i vals news₁ → AllBare G' → (∀ q ∈ news₁, q.1 < Lg) → @LT.lt Nat _ Lg aG → @LT.lt Nat _ aG I → @LT.lt Nat _ aG E → @LT.lt Nat _ I T → @LT.lt Nat _ E T → Fr h₀ env.locals h (up (ys.zip vals) m) →
      News h₀ env.locals h ((T, { cls := .type "tuple", data := .seq #[.int a ta, .str b tb] n }) :: (aG, oG) :: (Lg, oL) :: (I, oI) :: (E, oE) :: news₁) →
      let q := EndG h₀ env.locals [(aG, oG), (Lg, oL), (I, oI), (E, oE)] (UpJ ys m (K (i + 1))) { s with heap := h, toks := tk, gens := G' } Q
      wpAny (model PySem.Challenge.rw_uc0007_01.row.prog w) A (assign tgt env (.ref T)) (fun _ s' => wpAny (model PySem.Challenge.rw_uc0007_01.row.prog w) A (execs body env) q NoE s') NoE { s with heap := h, toks := tk, gens := G' })
    (done : ∀ vals news' h' tk G', K (escF x.cps.toList false 0 0).length vals news' → AllBare G' → Fr h₀ env.locals h' (up (ys.zip vals) m) → News h₀ env.locals h' news' → Q .next { s with heap := h', toks := tk, gens := G' }) :
    wpAny (model PySem.Challenge.rw_uc0007_01.row.prog w) A (call (.ref 45) [.str x t]) (fun xv s₁ => wpAny (model PySem.Challenge.rw_uc0007_01.row.prog w) A (pyIter xv) (fun it s₂ => LoopG w A h₀ env tgt body Q it s₂) NoE s₁) NoE s := by
  refine call_gen hroom F X N T fun Lg aG oL nm qn h' tk F' N' hL l1 l2 l3 l4 => ?_
  refine wpAny_pyIter_gen (g := s.gens.size) ⟨_, nm, qn, (N' _ (.head _)).1, rfl, rfl, rfl⟩ ?_
  refine .mk x t p loose mean mg mb Lg aG oL nm qn s.gens m news _ (fun i => UpJ ys m (K i)) ha X T l4 l2 l1 hL rfl hB F' N' ⟨_, k0, (up_self m ys).symm⟩ ?_ ?_ ?_
  · intro i m' n h
    cases h with | mk vals hk e => exact hK Lg l3 i vals n hk
  · intro i a ta b tb n m₁ news₁ T I E oL oI oE h tk G' hab hj hG F1 N1 o1 o2 o3 o4
    cases hj with | mk vals hk e => subst e; exact step i a ta b tb n vals news₁ Lg aG _ T I E oL oI oE h tk G' hab hk hG (hK Lg l3 i vals news₁ hk) l1 o1 o2 o3 o4 F1 N1
  · intro m' n' h' tk G' hj hG F1 N1
    cases hj with | mk vals hk e => subst e; exact done vals n' h' tk G' hk hG F1 N1
end
section
end
local macro_rules | `(tactic| walk_at "call ref") => `(tactic| walk_at "mine stop")
local macro_rules | `(tactic| walk_at "exec For Tuple Call cons nil") => `(tactic| walk_at "mine stop")
section
theorem escF_pos : ∀ (cs : List Nat) (esc : Bool) (i : Nat) (p : Int), 0 ≤ p ∧ p ≤ i → ∀ q ∈ escF cs esc i p, 0 ≤ q.1 ∧ q.1 ≤ i + cs.length ∧ q.2.length ≤ 2
  | [], esc, i, p, hp, q, hq => by
    unfold escF at hq
    split at hq
    · rw [List.mem_singleton.mp hq]; exact ⟨hp.1, by simp; lia, by show (Str.ofString "\\").length ≤ 2; decide⟩
    · cases hq
  | c :: r, esc, i, p, hp, q, hq => by
    have one : (⟨#[c]⟩ : Str).length = 1 := rfl
    have two : (("\\" : Str) ++ ⟨#[c]⟩).length = 2 := by rw [Str.length_append]; rfl
    unfold escF at hq
    split at hq
    · rcases List.mem_cons.mp hq with rfl | hq
      · refine ⟨by simp, by simp; lia, by rw [two]; exact Nat.le_refl _⟩
      · have := escF_pos r false (i + 1) i ⟨by lia, by lia⟩ q hq
        simp only [List.length_cons]; refine ⟨this.1, by lia, this.2.2⟩
    · split at hq
      · have := escF_pos r true (i + 1) i ⟨by lia, by lia⟩ q hq
        simp only [List.length_cons]; refine ⟨this.1, by lia, this.2.2⟩
      · rcases List.mem_cons.mp hq with rfl | hq
        · refine ⟨by simp, by simp; lia, by rw [one]; lia⟩
        · have := escF_pos r false (i + 1) i ⟨by lia, by lia⟩ q hq
          simp only [List.length_cons]; refine ⟨this.1, by lia, this.2.2⟩
theorem escF_len : ∀ (cs : List Nat) (esc : Bool) (i : Nat) (p : Int), (escF cs esc i p).length ≤ cs.length + 1
  | [], esc, i, p => by unfold escF; split <;> simp
  | c :: r, esc, i, p => by
    have h1 := escF_len r false (i + 1) i
    have h2 := escF_len r true (i + 1) i
    unfold escF
    split
    · simp only [List.length_cons]; lia
    · split
      · simp only [List.length_cons]; lia
      · simp only [List.length_cons]; lia
noncomputable def stripStep (x : Str) (st : Int × Option Int × List Str) (q : Int × Str) : Int × Option Int × List Str :=
  if (q.2 == "\"") = true then (match st.2.1 with
    | none => (st.1, some q.1, st.2.2)
    | some o => (q.1 + 1, none, if st.1 ≠ o then st.2.2 ++ [Txt.slice x (some st.1) (some o)] else st.2.2))
  else st
noncomputable def stripAll (x : Str) : Int × Option Int × List Str := (escF x.cps.toList false 0 0).foldl (stripStep x) (0, none, [])
noncomputable def stripF (x : Str) : Str := if isIn "\"" x = true then
    Txt.join "" (if (stripAll x).1 < x.length then (stripAll x).2.2 ++ [Txt.slice x (some (stripAll x).1) none] else (stripAll x).2.2)
  else x
theorem sum_le {n : Nat} : ∀ {l : List Str}, (∀ a ∈ l, a.length ≤ n) → (l.map (·.length)).sum ≤ l.length * n
  | [], _ => by simp
  | a :: r, h => by
    have h1 := sum_le (l := r) fun b hb => h b (.tail _ hb)
    have h2 := h a (.head _)
    simp only [List.map_cons, List.sum_cons, List.length_cons, Nat.add_mul, Nat.one_mul]
    lia
noncomputable def optV : Option Int → Tok → Value
  | none, _ => .none
  | some o, t => .int o t
inductive StrP (x : Str) : Value → Prop
  | mk (t : Tok) : StrP x (.str x t)
theorem StrP.of {x y : Str} {t : Tok} (e : y = x) : StrP x (.str y t) := e ▸ .mk t
-- a contract of a def that leaves finished generators
noncomputable def CtG (w : World) (D : Nat) (f : Addr) (args : List Value) (news : List (Addr × Obj)) (Post : Value → Prop) : Prop :=
  ∀ (p : Program) (loose : List Str) (mean : ExcName → Option Value) (mg mb : Str → Option Value) (dp un : Nat) (gd : Option (List Code)) (cn : Str) (cs : Scope) (a : Addr) (ccd : Value) (cl : List (Str × Addr)) (outer : List Env) (A₀ : Around) (base h₀ : Heap) (L : Addr) (m : Str → Option Value) (s : Shared) (Q : Value → Shared → Prop),
    Below A₀ base outer h₀ → Fr h₀ L s.heap m → (Mine.hd.heap_1 w.params).In h₀ → News h₀ L s.heap news → Top p loose mean mg mb h₀ → cs.kind = .function → dp + D < recursionLimit → un + 8 * D < cLine → AllBare s.gens →
    (∀ v h' tk' G', Post v → AllBare G' → Fr h₀ L h' m → News h₀ L h' news → Q v { s with heap := h', toks := tk', gens := G' }) →
    wpAny (model PySem.Challenge.rw_uc0007_01.row.prog w) (ktrTop dp un gd cn cs L a ccd cl outer) (call (.ref f) args) Q NoE s
theorem CtG.use {w : World} {D : Nat} {f : Addr} {args : List Value} {news : List (Addr × Obj)} {Post : Value → Prop} (h : CtG w D f args news Post)
    {p : Program} {loose : List Str} {mean : ExcName → Option Value} {mg mb : Str → Option Value} {dp un : Nat} {gd : Option (List Code)} {cn : Str} {cs : Scope} {a : Addr} {ccd : Value} {cl : List (Str × Addr)} {outer : List Env} {A₀ : Around} {base h₀ : Heap} {L : Addr} {m : Str → Option Value} {s : Shared} {Q E : Value → Shared → Prop}
    (B : Below A₀ base outer h₀) (F : Fr h₀ L s.heap m) (X : (Mine.hd.heap_1 w.params).In h₀) (N : News h₀ L s.heap news) (T : Top p loose mean mg mb h₀) (hk : cs.kind = .function) (hd : dp + D < recursionLimit) (hu : un + 8 * D < cLine) (hb : AllBare s.gens)
    (k : ∀ v h' tk' G', Post v → AllBare G' → Fr h₀ L h' m → News h₀ L h' news → Q v { s with heap := h', toks := tk', gens := G' }) :
    wpAny (model PySem.Challenge.rw_uc0007_01.row.prog w) (ktrTop dp un gd cn cs L a ccd cl outer) (call (.ref f) args) Q E s :=
  noE (h p loose mean mg mb dp un gd cn cs a ccd cl outer A₀ base h₀ L m s Q B F X N T hk hd hu hb k)
inductive StripK (x : Str) (l1 : Addr) (i : Nat) : List (Option Value) → List (Addr × Obj) → Prop
  | mk (u1 u2 : Option Value) (st : Int) (op : Option Int) (ps : List Str) (to ts : Tok) (vs : Array Value) (ep : Nat) (hst : (st, op, ps) = ((escF x.cps.toList false 0 0).take i).foldl (stripStep x) (0, none, [])) (hs : StrsAre vs.toList ps) (hsl : ps.length ≤ i) (hsa : ∀ a ∈ ps, a.length ≤ 100) (hs0 : 0 ≤ st) (hs1 : st ≤ 102) (hso : ∀ o, op = some o → 0 ≤ o ∧ o ≤ 101) :
    StripK x l1 i [u1, u2, some (optV op to), some (.int st ts)] [(l1, listOf vs ep)]
theorem strip_c {w : World} {rest} (x : Str) (t1 : Tok) (hx : x.length ≤ 100) (ha : x.cps.all (· < 128) = true) :
   CtG w 3 52 [.str x t1] rest (StrP (stripF x)) := by
  unfold CtG
  k_fill
  intros
  rename_i hB hret
  refine wpAny_call ?_
  have off : ∀ p ∈ ([] : List (Addr×Obj)), ∀ q ∈ rest, p.1 ≠ q.1 := fun _ h => nomatch h
  rename News _ _ _ _ => nN
  rw [← List.nil_append rest] at nN
  (k_dflt (refine' code_defR ?k1x246 ?k2x246 ?k3x246 ?k4x246 ?kOx246 ?k5x246 ?kAx246 ?kFx246 ?kKx246 ?k6x246 ?k7x246 ?k8x246 ?k9x246 ?kBx246 ?_ ?c2x246 ?c3x246 ?c4x246 ?c5x246; (case kAx246 => exact rfl); (case kFx246 => exact rfl); (case kKx246 => assumption); (case k1x246 => k_asm); (case k2x246 => k_asm); (case k3x246 => k_asm); (case k4x246 => k_asm); (case kOx246 => first | assumption | exact List.forall_mem_nil _); (case k5x246 => k_asm); (case k6x246 => k_is); (case k7x246 => k_is); (case k8x246 => ktr_room); (case k9x246 => first | exact BindsTo.of_eq (binds := [(_, _)]) rfl | exact BindsTo.of_eq (binds := [(_, _), (_, _)]) rfl | exact BindsTo.of_eq (binds := [(_, _), (_, _), (_, _)]) rfl | exact BindsTo.of_eq (binds := [(_, _), (_, _), (_, _), (_, _)]) rfl | exact BindsTo.of_eq rfl); (case c5x246 => decide); (case kBx246 => exact locs rfl); (case c2x246 => exact rfl); (case c3x246 => exact rfl); (case c4x246 => exact rfl); walk_at "mine eR"))
  refine noE ?_
  (k_steps; (repeat' (unfold HandC; (with_unfolding_all refine' for_G (by assumption) (by rfl) (by ktr_room) ?_); k_steps)); (all_goals (try k_data)))
  · rename_i l1 h1 F1 N1 l1x l1y _
    unfold HandC
    have mm : ∀ st : Int × Option Int × List Str, st = (escF x.cps.toList false 0 0).foldl (stripStep x) (0, none, []) → st = stripAll x := fun _ h => h
    have hpl := escF_len x.cps.toList false 0 0
    have hcl : x.cps.toList.length = x.length := by simp [Str.length]
    refine gen_for [("pos" : Str), ("ch" : Str), ("open_pos" : Str), ("start" : Str)] (StripK x l1)
      (by ktr_room) ha (by assumption) (by assumption) (by assumption) (by assumption) (by assumption) ⟨_, _, 0, none, [], 0, _, #[], _, rfl, .nil, Nat.le_refl _, (fun _ h => nomatch h), by decide, by decide, fun _ h => nomatch h⟩ ?_ ?_ ?_
    · rintro Lg hLg i vals n hIK q hq
      induction hIK with
      | mk _ _ _ _ _ _ _ _ _ _ =>
      rw [List.mem_singleton.mp hq]
      exact hLg (l1, listOf #[] 0) (.head _)
    · rintro i a ta b tb n vals news₁ Lg aG oG T I E oL oI oE h tk G' hab hIK hG hq o1 o2 o3 o4 o5 F2 N2
      induction hIK with
      | mk u1 u2 st op ps to ts vs ep hst hs hsl hsa hs0 hs1 hso =>
      intro qE
      have hps := escF_pos x.cps.toList false 0 0 ⟨Int.le_refl _, Int.le_refl _⟩ (a, b) (List.mem_of_getElem? hab)
      have hi : i < (escF x.cps.toList false 0 0).length := (List.getElem?_eq_some_iff.mp hab).elim fun h _ => h
      have hst' := take_succ_foldl (stripStep x) (0, none, []) hab
      rw [← hst] at hst'
      have l1L : @LT.lt Nat _ l1 Lg := hq (l1, _) (.head _)
      have hvl := hs.length
      have hsl' : ps.length ≤ i + 1 := Nat.le_succ_of_le hsl
      have ha0 : 0 ≤ a := hps.1
      have ha1 : a ≤ 101 := by have := hps.2.1; dsimp only at this; lia
      have ha2 : 0 ≤ a + 1 := by lia
      have ha3 : a + 1 ≤ 102 := by lia
      have hab2 : ∀ o : Int, some a = some o → 0 ≤ o ∧ o ≤ 101 := fun o e => by cases e; exact ⟨ha0, ha1⟩
      dsimp only at hps
      cases op with
      | none =>
        dsimp only [optV] at F2
        (k_steps; (repeat' (unfold HandC; (with_unfolding_all refine' for_G (by assumption) (by rfl) (by ktr_room) ?_); k_steps)); (all_goals (try k_data)))
        · refine EndG.next (by assumption) (by assumption) (by walk_at "mine sub") ⟨_, ⟨_, _, st, some a, ps, ta, ts, vs, ep, ?_, hs, hsl', hsa, hs0, hs1, hab2⟩, by (refine up_off ?mua ?mub; (case mub => exact rfl); (case mua => walk_at "mine off"))⟩
          rw [hst']; unfold stripStep; rw [if_pos (by assumption)]
        · refine EndG.next (by assumption) (by assumption) (by walk_at "mine sub") ⟨_, ⟨_, _, st, none, ps, 0, ts, vs, ep, ?_, hs, hsl', hsa, hs0, hs1, fun o e => nomatch e⟩, by (refine up_off ?mua ?mub; (case mub => exact rfl); (case mua => walk_at "mine off"))⟩
          rw [hst']; unfold stripStep; rw [if_neg (by rw [‹(_ == _) = false›]; decide)]
      | some o =>
        dsimp only [optV] at F2
        obtain ⟨ho0, ho1⟩ := hso o rfl
        (k_steps; (repeat' (unfold HandC; (with_unfolding_all refine' for_G (by assumption) (by rfl) (by ktr_room) ?_); k_steps)); (all_goals (try k_data)))
        · have hsc : (Txt.slice x (some st) (some o)).length ≤ 100 := Nat.le_trans (by assumption) hx
          refine EndG.next (by assumption) (by assumption) (by walk_at "mine sub") ⟨_, ⟨_, _, a + 1, none, ps ++ [Txt.slice x (some st) (some o)], 0, _, vs.push (Value.str (Txt.slice x (some st) (some o)) _), ep + 1, ?_, ?_, ?_, ?_, ha2, ha3, fun o e => nomatch e⟩, by (refine up_off ?mua ?mub; (case mub => exact rfl); (case mua => walk_at "mine off"))⟩
          · rw [hst']; unfold stripStep; rw [if_pos (by assumption)]; dsimp only; rw [if_pos (by assumption)]
          · rw [Array.toList_push]; exact strs_append hs (strs_one _ _)
          · show (ps ++ [Txt.slice x (some st) (some o)]).length ≤ i + 1
            rw [List.length_append]; simp only [List.length_cons, List.length_nil]; lia
          · intro q hq
            rcases List.mem_append.mp hq with h | h
            · exact hsa _ h
            · rw [List.mem_singleton.mp h]; exact hsc
        · refine EndG.next (by assumption) (by assumption) (by walk_at "mine sub") ⟨_, ⟨_, _, a + 1, none, ps, 0, _, vs, ep, ?_, hs, hsl', hsa, ha2, ha3, fun o e => nomatch e⟩, by (refine up_off ?mua ?mub; (case mub => exact rfl); (case mua => walk_at "mine off"))⟩
          rw [hst']; unfold stripStep; rw [if_pos (by assumption)]; dsimp only; rw [if_neg (not_not_intro (by assumption))]
        · refine EndG.next (by assumption) (by assumption) (by walk_at "mine sub") ⟨_, ⟨_, _, st, some o, ps, to, ts, vs, ep, ?_, hs, hsl', hsa, hs0, hs1, hso⟩, by (refine up_off ?mua ?mub; (case mub => exact rfl); (case mua => walk_at "mine off"))⟩
          rw [hst']; unfold stripStep; rw [if_neg (by rw [‹(_ == _) = false›]; decide)]
    · rintro vals news' h' tk G' hIK hG F2 N2
      induction hIK with
      | mk u1 u2 st op ps to ts vs ep hst hs hsl hsa hs0 hs1 hso =>
      rw [List.take_of_length_le (Nat.le_refl _)] at hst
      replace hst := mm _ hst
      have hvl := hs.length
      have hsm := sum_le hsa
      have mc := markC
      (k_steps; (repeat' (unfold HandC; (with_unfolding_all refine' for_G (by assumption) (by rfl) (by ktr_room) ?_); k_steps)); (all_goals (try k_data)))
      · unfold HandC
        have hsc : (Txt.slice x (some st) none).length ≤ 100 := Nat.le_trans (by assumption) hx
        refine join_listC (ys := ps ++ [Txt.slice x (some st) none]) (News.isList (by assumption) (.head _)) (by rw [Array.toList_push]; exact strs_append hs (strs_one _ _)) (by decide) (by
          rw [List.map_append, List.sum_append, List.length_append]; simp only [List.map_cons, List.map_nil, List.sum_cons, List.sum_nil, List.length_cons, List.length_nil]; lia) ?_
        intro tj kj
        (k_steps; (repeat' (unfold HandC; (with_unfolding_all refine' for_G (by assumption) (by rfl) (by ktr_room) ?_); k_steps)); (all_goals (try k_data)))
        dsimp only
        exact leaveR_ (news' := []) (by assumption) (by assumption) (by walk_at "mine sub") fun kF kN ko => hret _ _ _ _ (.of (by unfold stripF; rw [if_pos (by assumption), ← hst]; dsimp only; rw [if_pos (by assumption)])) hG kF kN
      · unfold HandC
        refine join_listC (ys := ps) (News.isList (by assumption) (.head _)) hs (by decide) (by lia) ?_
        intro tj kj
        (k_steps; (repeat' (unfold HandC; (with_unfolding_all refine' for_G (by assumption) (by rfl) (by ktr_room) ?_); k_steps)); (all_goals (try k_data)))
        dsimp only
        exact leaveR_ (news' := []) (by assumption) (by assumption) (by walk_at "mine sub") fun kF kN ko => hret _ _ _ _ (.of (by unfold stripF; rw [if_pos (by assumption), ← hst]; dsimp only; rw [if_neg (by assumption)])) hG kF kN
  · dsimp only
    exact leaveR_ (news' := []) (by assumption) (by assumption) (by walk_at "mine sub") fun kF kN ko => hret _ _ _ _ (.of (by unfold stripF; rw [if_neg (by rw [‹isIn _ x = false›]; decide)])) hB kF kN
end
section
noncomputable def parGo : List (Int × Str) → Int → Bool
  | [], o => o == 0
  | q :: r, o => if (q.2 == "(") = true then parGo r (o + 1) else if (q.2 == ")") = true then (if o - 1 < 0 then false else parGo r (o - 1)) else parGo r o
theorem parGo_cons (q : Int × Str) (r : List (Int × Str)) (o : Int) : parGo (q :: r) o = if (q.2 == "(") = true then parGo r (o + 1) else if (q.2 == ")") = true then (if o - 1 < 0 then false else parGo r (o - 1)) else parGo r o := rfl
noncomputable def checkF (x : Str) : Bool := parGo (escF (stripF x).cps.toList false 0 0) 0
inductive CheckK (y : Str) (i : Nat) : List (Option Value) → List (Addr × Obj) → Prop
  | mk (u1 u2 : Option Value) (o : Int) (to : Tok) (hgo : parGo (escF y.cps.toList false 0 0) 0 = parGo ((escF y.cps.toList false 0 0).drop i) o) (ho0 : 0 ≤ o) (ho1 : o ≤ i) : CheckK y i [u1, u2, some (.int o to)] []
inductive ValP (x : Value) : Value → Prop
  | mk : ValP x x
theorem ValP.of {x y : Value} (e : y = x) : ValP x y := e ▸ .mk
theorem check_c {w : World} {rest} (x : Str) (t1 : Tok) (hx : x.length ≤ 100) (ha : x.cps.all (· < 128) = true) (hx2 : (stripF x).length ≤ 100) (ha2 : (stripF x).cps.all (· < 128) = true) :
   CtG w 5 59 [.str x t1] rest (ValP (.bool (checkF x))) := by
  unfold CtG
  k_fill
  intros
  rename_i hB hret
  refine wpAny_call ?_
  have off : ∀ p ∈ ([] : List (Addr×Obj)), ∀ q ∈ rest, p.1 ≠ q.1 := fun _ h => nomatch h
  rename News _ _ _ _ => nN
  rw [← List.nil_append rest] at nN
  (k_dflt (refine' code_defR ?k1x248 ?k2x248 ?k3x248 ?k4x248 ?kOx248 ?k5x248 ?kAx248 ?kFx248 ?kKx248 ?k6x248 ?k7x248 ?k8x248 ?k9x248 ?kBx248 ?_ ?c2x248 ?c3x248 ?c4x248 ?c5x248; (case kAx248 => exact rfl); (case kFx248 => exact rfl); (case kKx248 => assumption); (case k1x248 => k_asm); (case k2x248 => k_asm); (case k3x248 => k_asm); (case k4x248 => k_asm); (case kOx248 => first | assumption | exact List.forall_mem_nil _); (case k5x248 => k_asm); (case k6x248 => k_is); (case k7x248 => k_is); (case k8x248 => ktr_room); (case k9x248 => first | exact BindsTo.of_eq (binds := [(_, _)]) rfl | exact BindsTo.of_eq (binds := [(_, _), (_, _)]) rfl | exact BindsTo.of_eq (binds := [(_, _), (_, _), (_, _)]) rfl | exact BindsTo.of_eq (binds := [(_, _), (_, _), (_, _), (_, _)]) rfl | exact BindsTo.of_eq rfl); (case c5x248 => decide); (case kBx248 => exact locs rfl); (case c2x248 => exact rfl); (case c3x248 => exact rfl); (case c4x248 => exact rfl); walk_at "mine eR"))
  refine noE ?_
  (k_steps; (repeat' (unfold HandC; (with_unfolding_all refine' for_G (by assumption) (by rfl) (by ktr_room) ?_); k_steps)); (all_goals (try k_data)))
  refine CtG.use (strip_c x _ hx ha) (by assumption) (by assumption) (by assumption) (by assumption) (by assumption) rfl (by (first | (show _ < _; decide) | exact room1 (k := 1) (by assumption) rfl | exact room2 (k := 3) (by assumption) rfl | exact room3 (by assumption) rfl | (simp only [recursionLimit, cLine] at *; lia))) (by (first | (show _ < _; decide) | exact room1 (k := 1) (by assumption) rfl | exact room2 (k := 3) (by assumption) rfl | exact room3 (by assumption) rfl | (simp only [recursionLimit, cLine] at *; lia))) hB ?_
  rintro v h1 tk1 G1 hIK hB1 F1 N1
  induction hIK with
  | mk t =>
  obtain ⟨y, hy⟩ : ∃ y, y = stripF x := ⟨_, rfl⟩
  rw [← hy] at hx2 ha2 ⊢
  have hcF : checkF x = parGo (escF y.cps.toList false 0 0) 0 := by rw [hy]; rfl
  clear hx ha hy
  (k_steps; (repeat' (unfold HandC; (with_unfolding_all refine' for_G (by assumption) (by rfl) (by ktr_room) ?_); k_steps)); (all_goals (try k_data)))
  unfold HandC
  have hpl := escF_len y.cps.toList false 0 0
  have hcl : y.cps.toList.length = y.length := by simp [Str.length]
  refine gen_for [("pos" : Str), ("ch" : Str), ("opens" : Str)] (CheckK y)
      (by ktr_room) ha2 (by assumption) (by assumption) (by assumption) (by assumption) hB1 ⟨_, _, 0, _, rfl, Int.le_refl _, Int.natCast_nonneg _⟩ ?_ ?_ ?_
  · rintro Lg hLg i vals n hIK q hq
    induction hIK with
    | mk _ _ _ _ _ _ _ =>
    exact nomatch hq
  · rintro i a ta b tb n vals news₁ Lg aG oG T I E oL oI oE h tk G' hab hIK hG hq o1 o2 o3 o4 o5 F2 N2
    induction hIK with
    | mk u1 u2 o to hgo ho0 ho1 =>
    intro qE
    have hps := escF_pos y.cps.toList false 0 0 ⟨Int.le_refl _, Int.le_refl _⟩ (a, b) (List.mem_of_getElem? hab)
    have hi : i < (escF y.cps.toList false 0 0).length := (List.getElem?_eq_some_iff.mp hab).elim fun h _ => h
    have hd : (escF y.cps.toList false 0 0).drop i = (a, b) :: (escF y.cps.toList false 0 0).drop (i + 1) := (List.getElem?_eq_some_iff.mp hab).elim fun hi e => by rw [List.drop_eq_getElem_cons hi, e]
    rw [hd, parGo_cons] at hgo
    dsimp only at hps hgo
    (k_steps; (repeat' (unfold HandC; (with_unfolding_all refine' for_G (by assumption) (by rfl) (by ktr_room) ?_); k_steps)); (all_goals (try k_data)))
    · refine EndG.next (by assumption) (by assumption) (by walk_at "mine sub") ⟨_, ⟨_, _, o + 1, _, ?_, by lia, by lia⟩, by (refine up_off ?mua ?mub; (case mub => exact rfl); (case mua => walk_at "mine off"))⟩
      rw [hgo, if_pos (by assumption)]
    · skip
      exact leaveR_ (news' := []) (by assumption) (by assumption) (by walk_at "mine sub") fun kF kN ko => hret _ _ _ _ (.of <| congrArg Value.bool (by rw [hcF, hgo, if_neg (by rw [‹(b == "(") = false›]; decide), if_pos (by assumption), if_pos (by assumption)])) hG kF kN
    · refine EndG.next (by assumption) (by assumption) (by walk_at "mine sub") ⟨_, ⟨_, _, o - 1, _, ?_, by lia, by lia⟩, by (refine up_off ?mua ?mub; (case mub => exact rfl); (case mua => walk_at "mine off"))⟩
      rw [hgo, if_neg (by rw [‹(b == "(") = false›]; decide), if_pos (by assumption), if_neg (by assumption)]
    · refine EndG.next (by assumption) (by assumption) (by walk_at "mine sub") ⟨_, ⟨_, _, o, _, ?_, by lia, by lia⟩, by (refine up_off ?mua ?mub; (case mub => exact rfl); (case mua => walk_at "mine off"))⟩
      rw [hgo, if_neg (by rw [‹(b == "(") = false›]; decide), if_neg (by rw [‹(b == ")") = false›]; decide)]
  · rintro vals news' h' tk G' hIK hG F2 N2
    induction hIK with
    | mk u1 u2 o to hgo ho0 ho1 =>
    rw [List.drop_of_length_le (Nat.le_refl _)] at hgo
    (k_steps; (repeat' (unfold HandC; (with_unfolding_all refine' for_G (by assumption) (by rfl) (by ktr_room) ?_); k_steps)); (all_goals (try k_data)))
    dsimp only
    exact leaveR_ (news' := []) (by assumption) (by assumption) (by walk_at "mine sub") fun kF kN ko => hret _ _ _ _ (.of <| congrArg Value.bool (by rw [hcF, hgo]; rfl)) hG kF kN
end
section
open PySem.Challenge in
noncomputable def lawS : Stmt := pw_uc0007_01.main.body.getLast?.getD default
noncomputable def lawB : List Stmt := match lawS with
  | .FunctionDef _ _ b _ _ _ _ _ _ _ => b
  | _ => []
noncomputable def loop1B : List Stmt := match lawB with
  | [_, _, _, _, _, _, _, _, _, _, .For _ _ b _ _, _, _, _, _, _] => b
  | _ => []
noncomputable def loop2B : List Stmt := match lawB with
  | [_, _, _, _, _, _, _, _, _, _, _, _, _, _, .For _ _ b _ _, _] => b
  | _ => []
noncomputable def lawSc : Scope := { kind := .function, names := (Str.ofString "script", NameKind.cell) :: (Str.ofString "own", NameKind.cell) :: (Str.ofString "k", NameKind.local) :: (Str.ofString "numbers", NameKind.local) :: (Str.ofString "gap", NameKind.local) :: (Str.ofString "dresses", NameKind.local) :: (Str.ofString "lexer", NameKind.local) :: (Str.ofString "ended", NameKind.local) :: (Str.ofString "front", NameKind.local) :: (Str.ofString "fronts", NameKind.local) :: (Str.ofString "drawn", NameKind.local) :: (Str.ofString "patterns", NameKind.local) :: (Str.ofString "number", NameKind.local) :: (Str.ofString "words", NameKind.local) :: (Str.ofString "gaps", NameKind.local) :: (Str.ofString "deed", NameKind.local) :: (Str.ofString "place", NameKind.local) :: (Str.ofString "laid", NameKind.local) :: (Str.ofString "word", NameKind.local) :: (Str.ofString "text", NameKind.local) :: (Str.ofString "due", NameKind.local) :: (Str.ofString "sent", NameKind.local) :: (Str.ofString "last", NameKind.local) :: (Str.ofString "left", NameKind.local) :: (Str.ofString "right", NameKind.local) :: (Str.ofString "near", NameKind.local) :: (Str.ofString "range", NameKind.globalImplicit) :: (Str.ofString "sum", NameKind.globalImplicit) :: (Str.ofString "_law_lexer", NameKind.globalImplicit) :: (Str.ofString "quotedata", NameKind.globalImplicit) :: (Str.ofString "_law_read", NameKind.globalImplicit) :: (Str.ofString "_law_pattern", NameKind.globalImplicit) :: (Str.ofString "_law_deed", NameKind.globalImplicit) :: (Str.ofString "_law_placed", NameKind.globalImplicit) :: (Str.ofString "_law_mail", NameKind.globalImplicit) :: (Str.ofString "sorted", NameKind.globalImplicit) :: (Str.ofString "_law_mistaken", NameKind.globalImplicit) :: (Str.ofString "_law_told", NameKind.globalImplicit) :: (Str.ofString "_check_parenthesis", NameKind.globalImplicit) :: [], isGenerator := false, isCoroutine := false, more := (Str.ofString "fast", Const.str (Str.ofString "script")) :: (Str.ofString "fast", Const.str (Str.ofString "own")) :: (Str.ofString "fast", Const.str (Str.ofString "k")) :: (Str.ofString "fast", Const.str (Str.ofString "numbers")) :: (Str.ofString "fast", Const.str (Str.ofString "gap")) :: (Str.ofString "fast", Const.str (Str.ofString "dresses")) :: (Str.ofString "fast", Const.str (Str.ofString "lexer")) :: (Str.ofString "fast", Const.str (Str.ofString "ended")) :: (Str.ofString "fast", Const.str (Str.ofString "front")) :: (Str.ofString "fast", Const.str (Str.ofString "fronts")) :: (Str.ofString "fast", Const.str (Str.ofString "drawn")) :: (Str.ofString "fast", Const.str (Str.ofString "patterns")) :: (Str.ofString "fast", Const.str (Str.ofString "number")) :: (Str.ofString "fast", Const.str (Str.ofString "words")) :: (Str.ofString "fast", Const.str (Str.ofString "gaps")) :: (Str.ofString "fast", Const.str (Str.ofString "deed")) :: (Str.ofString "fast", Const.str (Str.ofString "place")) :: (Str.ofString "fast", Const.str (Str.ofString "laid")) :: (Str.ofString "fast", Const.str (Str.ofString "word")) :: (Str.ofString "fast", Const.str (Str.ofString "text")) :: (Str.ofString "fast", Const.str (Str.ofString "due")) :: (Str.ofString "fast", Const.str (Str.ofString "sent")) :: (Str.ofString "fast", Const.str (Str.ofString "last")) :: (Str.ofString "fast", Const.str (Str.ofString "left")) :: (Str.ofString "fast", Const.str (Str.ofString "right")) :: (Str.ofString "fast", Const.str (Str.ofString "near")) :: [] }
noncomputable def lawEnv (cd : Value) (fa L : Addr) : Env := envOfC "law" lawSc L fa cd
noncomputable def gapsF (ws : List Str) (g : Str) : Int := Spec.countIn (.str g) (ws.map PyData.str)
noncomputable def laidF (n : Int) (k : Nat) (ws : List Str) (g : Str) : List Str := placedF ws g (deedF n (gapsF ws g) (4 - k)) ((n.fdiv 4).fmod (gapsF ws g))
noncomputable def aged (g : Str) (ws : List Str) : List Str := ws.map fun x => if (x == g) = true then g else "." ++ x
noncomputable def wsAt (n : Nat → Int) (g : Str) : Nat → List Str
  | 0 => [g]
  | k + 1 => aged g (laidF (n k) k (wsAt n g k) g)
noncomputable def dressS : List Str := ["", "\\(", "\\)", "\"(\"", "\")\"", "\"\\\"(\"", "\\\\", "\\\""]
noncomputable def brS : List Str := ["(", "", "", ")"]
noncomputable def drS : List Int := [1, 0, 1, 0]
noncomputable def deedAt (n : Nat → Int) (g : Str) (k : Nat) : Int := deedF (n k) (gapsF (wsAt n g k) g) (4 - k)
noncomputable def placeAt (n : Nat → Int) (g : Str) (k : Nat) : Int := ((n k).fdiv 4).fmod (gapsF (wsAt n g k) g)
noncomputable def frontStep (f : Str) (n deed : Int) : Str := f ++ (dressS.getD ((n.fdiv 24).fmod 8).toNat Str.empty ++ brS.getD deed.toNat Str.empty)
noncomputable def frontAt (n : Nat → Int) (g : Str) : Nat → Str
  | 0 => "("
  | k + 1 => frontStep (frontAt n g k) (n k) (deedAt n g k)
noncomputable def patAt (n : Nat → Int) (g : Str) (k : Nat) : Str := patF (wsAt n g k) g k
-- what one turn of law's first loop needs of its number and words
structure TurnOK (n : Int) (k : Nat) (g : Str) (ws : List Str) : Prop where
  len : ws.length ≤ 10
  wl : ∀ x ∈ ws, 1 ≤ x.length ∧ x.length ≤ 6
  pat : ∀ x ∈ ws, x ≠ g → 0 ≤ (k : Int) + 1 - x.length ∧ (k : Int) + 1 - x.length < 5
  gaps : 1 ≤ gapsF ws g ∧ gapsF ws g ≤ 10
  deed : 0 ≤ deedF n (gapsF ws g) (4 - k) ∧ deedF n (gapsF ws g) (4 - k) ≤ 3
  llen : (laidF n k ws g).length ≤ 10
  lwl : ∀ x ∈ laidF n k ws g, 1 ≤ x.length ∧ x.length ≤ 6
  lok : ∀ x ∈ laidF n k ws g, PyData.strOk x = true
  quote : quoteS (mailAt (laidF n k ws g) g n (laidF n k ws g).length).1 = (mailAt (laidF n k ws g) g n (laidF n k ws g).length).2
  words : Words [] (signs (mailAt (laidF n k ws g) g n (laidF n k ws g).length).2) (aged g (laidF n k ws g)) []
  nl : Txt.count (mailAt (laidF n k ws g) g n (laidF n k ws g).length).2 "\n" = cntNl (signs (mailAt (laidF n k ws g) g n (laidF n k ws g).length).2)
end
section
section
open PyProof.V PySem.Spec
theorem kst_canLayAll0 : ∀ ns : List Str, (∀ x ∈ ns, PyData.strOk x = true) → PyData.canLayAll0 (ns.map PyData.str) = true
  | [], _ => rfl
  | a :: r, h => by simp [PyData.canLayAll0, PyData.canLay0, kst_canLayAll0 r fun x hx => h x (.tail _ hx), h a (.head _)]
theorem kst_depthAll : ∀ ns : List Str, PyData.depthAll (ns.map PyData.str) = 0
  | [] => rfl
  | _ :: r => by simp [PyData.depthAll, PyData.depth, kst_depthAll r]
theorem kst_shaped (ns : List Str) (h : ∀ x ∈ ns, PyData.strOk x = true) : SeqAt.shaped (.list (ns.map PyData.str)) = true := by
  simp [SeqAt.shaped, PyData.canLay0, PyData.depth, kst_canLayAll0 ns h, kst_depthAll]
theorem kst_sameAll : ∀ ns ms : List Str, PySem.Spec.sameAll (ns.map PyData.str) (ms.map PyData.str) = decide (ns = ms)
  | [], [] => by simp [PySem.Spec.sameAll]
  | [], _ :: _ => by simp [PySem.Spec.sameAll]
  | _ :: _, [] => by simp [PySem.Spec.sameAll]
  | a :: r, b :: t => by
    simp only [List.map_cons, PySem.Spec.sameAll, PySem.Spec.same, kst_sameAll r t]
    by_cases h : a = b <;> by_cases h' : r = t <;> simp [h, h']
theorem kst_same (ns ms : List Str) : PySem.Spec.same (.list (ns.map PyData.str)) (.list (ms.map PyData.str)) = decide (ns = ms) := by
  simp only [PySem.Spec.same]; exact kst_sameAll ns ms
theorem kst_carried {vs : List Value} {ns : List Str} (h : StrsAre vs ns) : CarriedAll vs (ns.map PyData.str) := by
  induction h with
  | nil => exact .nil
  | cons x t h ih => exact .cons (.str x t) ih
theorem ne_strsK {prog : Program} {w : World} {A : Around} {E : Value → Shared → Prop} {s : Shared} {a b : Addr} {xs ys : List Value} {ns ms : List Str} {Q : Value → Shared → Prop}
    (ha : s.heap.IsList a xs.toArray) (hb : s.heap.IsList b ys.toArray) (hi : StrsAre xs ns) (hj : StrsAre ys ms) (hu : A.units + 64 < cLine) (h1 : ∀ x ∈ ns, PyData.strOk x = true) (h2 : ∀ x ∈ ms, PyData.strOk x = true) (h : Q (.bool (!decide (ns = ms))) s) :
    wpAny (model prog w) A (compareOp .NotEq (.ref a) (.ref b)) Q E s :=
  ne_dataH_same (reads_newData ha (kst_carried hi)) (reads_newData hb (kst_carried hj)) (kst_shaped _ h1) (kst_shaped _ h2) hu (SeqAt.noMix_of_shape (.list .str) rfl _ _ (list_map_has fun _ => rfl) (list_map_has fun _ => rfl)) (by rw [kst_same]; exact h)
end
end
section
theorem ledne {P : Params} {a : LX} {line : Int} {tl : Tok} {pbv : List Value} {pe : Nat} {sgv : List Value} {se : Nat} {d : Addr} (h : ∀ b ∈ a.addrs, b ≠ d) : ∀ p ∈ a.led P line tl pbv pe sgv se, p.1 ≠ d := fun _ hp => h _ (LX.mem hp)
theorem mem_move {x y z1 z2 z3 z4 z5 : Addr × Obj} {A R : List (Addr × Obj)} : ∀ p ∈ x :: y :: (A ++ z1 :: z2 :: z3 :: z4 :: z5 :: R), p ∈ y :: (A ++ z1 :: z2 :: z3 :: z4 :: z5 :: x :: R) := by
  intro p hp
  simp only [List.mem_cons, List.mem_append] at hp ⊢
  rcases hp with h | h | h | h | h | h | h | h | h <;> simp [h]
theorem mem_ins {z1 z2 z3 z4 z5 x : Addr × Obj} {R : List (Addr × Obj)} : ∀ p ∈ z1 :: z2 :: z3 :: z4 :: z5 :: R, p ∈ z1 :: z2 :: z3 :: z4 :: z5 :: x :: R := by
  intro p hp
  simp only [List.mem_cons] at hp ⊢
  rcases hp with h | h | h | h | h | h <;> simp [h]
theorem mem_swap {x y : Addr × Obj} {R : List (Addr × Obj)} : ∀ p ∈ y :: x :: R, p ∈ x :: y :: R := by
  intro p hp
  simp only [List.mem_cons] at hp ⊢
  rcases hp with h | h | h <;> simp [h]
theorem mem_ins4 {z2 z3 z4 z5 x : Addr × Obj} {R : List (Addr × Obj)} : ∀ p ∈ z2 :: z3 :: z4 :: z5 :: R, p ∈ z2 :: z3 :: z4 :: z5 :: x :: R := by
  intro p hp
  simp only [List.mem_cons] at hp ⊢
  rcases hp with h | h | h | h | h <;> simp [h]
theorem mem_front3 {x1 x2 x3 : Addr × Obj} {A R : List (Addr × Obj)} : ∀ p ∈ x1 :: x2 :: x3 :: (A ++ R), p ∈ A ++ x1 :: x2 :: x3 :: R := by
  intro p hp
  simp only [List.mem_cons, List.mem_append] at hp ⊢
  rcases hp with h | h | h | h | h <;> simp [h]
theorem mem_back3 {x1 x2 x3 : Addr × Obj} {A R : List (Addr × Obj)} : ∀ p ∈ A ++ x1 :: x2 :: x3 :: R, p ∈ x1 :: x2 :: x3 :: (A ++ R) := by
  intro p hp
  simp only [List.mem_cons, List.mem_append] at hp ⊢
  rcases hp with h | h | h | h | h <;> simp [h]
theorem mem_back2 {x1 x2 : Addr × Obj} {A R : List (Addr × Obj)} : ∀ p ∈ A ++ x1 :: x2 :: R, p ∈ x1 :: x2 :: (A ++ R) := by
  intro p hp
  simp only [List.mem_cons, List.mem_append] at hp ⊢
  rcases hp with h | h | h | h <;> simp [h]
theorem words_push : ∀ l : List Str, (∀ x ∈ l, x ≠ "") → Words l [] l []
  | [], _ => .done rfl
  | x :: l, h => .push (h x (.head _)) (words_push l fun y hy => h y (.tail _ hy))
theorem len_pos_ne {x : Str} (h : 1 ≤ x.length) : x ≠ "" := by
  intro e; subst e; revert h; decide
theorem mem_a4 {c t lf ld lp I : Addr × Obj} {A R : List (Addr × Obj)} : ∀ q ∈ lf :: c :: t :: ld :: lp :: I :: (R ++ A), q ∈ A ++ c :: t :: lf :: ld :: lp :: I :: R := by
  intro p hp
  simp only [List.mem_cons, List.mem_append] at hp ⊢
  rcases hp with h | h | h | h | h | h | h | h <;> simp [h]
theorem mem_a5 {c t lf ld lp I D x : Addr × Obj} {A R : List (Addr × Obj)} : ∀ q ∈ ld :: c :: t :: lf :: lp :: I :: ((D :: R) ++ A), q ∈ D :: x :: lf :: c :: t :: ld :: lp :: I :: (R ++ A) := by
  intro p hp
  simp only [List.mem_cons, List.mem_append] at hp ⊢
  rcases hp with h | h | h | h | h | h | (h | h) | h <;> simp [h]
theorem getD_len {m : Nat} : ∀ {l : List Str}, (∀ x ∈ l, x.length ≤ m) → ∀ i, (l.getD i Str.empty).length ≤ m
  | [], _, i => by simp [Str.empty, Str.length]
  | a :: r, h, 0 => h a (.head _)
  | a :: r, h, i + 1 => getD_len (l := r) (fun x hx => h x (.tail _ hx)) i
theorem mem_a6 {c t lf ld lp I x : Addr × Obj} {R : List (Addr × Obj)} : ∀ q ∈ c :: t :: lf :: ld :: lp :: I :: R, q ∈ x :: ld :: c :: t :: lf :: lp :: I :: R := by
  intro p hp
  simp only [List.mem_cons] at hp ⊢
  rcases hp with h | h | h | h | h | h | h <;> simp [h]
theorem mem_a7 {c t lf ld lp I : Addr × Obj} {R : List (Addr × Obj)} : ∀ q ∈ I :: c :: t :: lf :: ld :: lp :: R, q ∈ c :: t :: lf :: ld :: lp :: I :: R := by
  intro p hp
  simp only [List.mem_cons] at hp ⊢
  rcases hp with h | h | h | h | h | h | h <;> simp [h]
theorem cnt_le : ∀ l : List Str, 0 ≤ cntNl l ∧ cntNl l ≤ l.length
  | [] => by simp [cntNl]
  | a :: r => by
    have := cnt_le r
    unfold cntNl
    simp only [List.length_cons]
    split <;> lia
theorem mem_a1 {c lf ld lp I : Addr × Obj} {R : List (Addr × Obj)} : ∀ q ∈ c :: lf :: ld :: lp :: I :: R, q ∈ lp :: I :: c :: lf :: ld :: R := by
  intro p hp
  simp only [List.mem_cons] at hp ⊢
  rcases hp with h | h | h | h | h | h <;> simp [h]
theorem mem_a2 {c t lf ld lp I : Addr × Obj} {R : List (Addr × Obj)} : ∀ q ∈ c :: t :: lf :: ld :: lp :: I :: R, q ∈ lp :: I :: c :: t :: lf :: ld :: R := by
  intro p hp
  simp only [List.mem_cons] at hp ⊢
  rcases hp with h | h | h | h | h | h | h <;> simp [h]
theorem mem_a3 {c t lf ld lp I x y oc : Addr × Obj} {A R : List (Addr × Obj)} (h : oc ∈ A) : ∀ q ∈ [t] ++ (oc :: c :: lf :: ld :: lp :: I :: R), q ∈ x :: y :: lp :: (A ++ I :: c :: t :: lf :: ld :: R) := by
  intro p hp
  simp only [List.mem_cons, List.mem_append, List.cons_append, List.nil_append] at hp ⊢
  rcases hp with h | h | h | h | h | h | h | h <;> simp_all
theorem mem_led_c {P : Params} {a : LX} {line : Int} {tl : Tok} {pbv : List Value} {pe : Nat} {sgv : List Value} {se : Nat} : (a.c, a.oc) ∈ a.led P line tl pbv pe sgv se := .tail _ (.tail _ (.tail _ (.tail _ (.tail _ (.head _)))))
theorem signs_one (x : Str) : ∀ y ∈ signs x, y.length = 1 := by
  intro y hy
  unfold signs at hy
  obtain ⟨c, _, rfl⟩ := List.mem_map.mp hy
  rfl
end
local macro_rules | `(tactic| walk_at "call ref") => `(tactic| walk_at "mine trap")
local macro_rules | `(tactic| walk_at "call builtin:list.append") => `(tactic| walk_at "mine trap")
local macro_rules | `(tactic| walk_at "call builtin:list.count") => `(tactic| walk_at "mine trap")
local macro_rules | `(tactic| walk_at "compareOp NotEq ref ref") => `(tactic| walk_at "mine trap")
section
noncomputable def LN : List Str := [("k" : Str), "numbers", "gap", "dresses", "lexer", "ended", "front", "fronts", "drawn", "patterns", "number", "words", "gaps", "deed", "place", "laid", "word", "text", "due", "sent"]
inductive K1 (w : World) (n : Nat → Int) (g : Str) (I : Addr) (tg : Tok) (ln ldz lf ldr lpt c1 : Addr) (oc1 : Obj) (nv : List Value) (ne : Nat) (dz : Obj) (k : Nat) : List (Option Value) → List (Addr × Obj) → Prop
  | mk (a : LX) (tl : Tok) (pe : Nat) (sgv : List Value) (se : Nat) (x : Str) (en : Int) (te tf : Tok) (fv dv pv : List Value) (fe de pve : Nat) (R : List (Addr × Obj)) (u0 u1 u2 u3 u4 u5 u6 u7 u8 u9 u10 : Option Value)
    (ok : a.Ok) (hsg : StrsAre sgv (signs x)) (hxl : x.length ≤ 1000) (hw : Words [] (signs x) (wsAt n g k) []) (hen : en = cntNl (signs x)) (hen0 : 0 ≤ en) (hen1 : en ≤ 1000)
    (hfv : StrsAre fv ((List.range k).map (frontAt n g))) (hpv : StrsAre pv ((List.range k).map (patAt n g))) (hdl : dv.length = k)
    (hdv : ∀ i, i < k → ∃ T ta tb, dv[i]? = some (.ref T) ∧ (T, tupO #[.int (placeAt n g i) ta, .int (drS.getD (deedAt n g i).toNat 0) tb]) ∈ R)
    (hln : (ln, listOf ⟨nv⟩ ne) ∈ R) (hldz : (ldz, dz) ∈ R)
    (offA : ∀ b ∈ a.addrs, ∀ q ∈ (c1, oc1) :: (120, tabObj (tabPs c1 a.c)) :: (lf, listOf ⟨fv⟩ fe) :: (ldr, listOf ⟨dv⟩ de) :: (lpt, listOf ⟨pv⟩ pve) :: R, b ≠ q.1)
    (off120 : ∀ q ∈ (c1, oc1) :: (lf, listOf ⟨fv⟩ fe) :: (ldr, listOf ⟨dv⟩ de) :: (lpt, listOf ⟨pv⟩ pve) :: R, (120 : Addr) ≠ q.1)
    (offR : ∀ q ∈ R, q.1 ≠ lf ∧ q.1 ≠ ldr ∧ q.1 ≠ lpt)
    (offI : ∀ p ∈ (c1, oc1) :: (120, tabObj (tabPs c1 a.c)) :: (lf, listOf ⟨fv⟩ fe) :: (ldr, listOf ⟨dv⟩ de) :: (lpt, listOf ⟨pv⟩ pve) :: (R ++ a.led w.params 1 tl [] pe sgv se), p.1 ≠ I) :
    K1 w n g I tg ln ldz lf ldr lpt c1 oc1 nv ne dz k [u0, some (.ref ln), some (.str g tg), some (.ref ldz), some (.ref a.lx), some (.int en te), some (.str (frontAt n g k) tf), some (.ref lf), some (.ref ldr), some (.ref lpt), u1, u2, u3, u4, u5, u6, u7, u8, u9, u10]
      ((c1, oc1) :: (120, tabObj (tabPs c1 a.c)) :: (lf, listOf ⟨fv⟩ fe) :: (ldr, listOf ⟨dv⟩ de) :: (lpt, listOf ⟨pv⟩ pve) :: (R ++ a.led w.params 1 tl [] pe sgv se))
end
section
theorem sorted_strV {prog : Program} {w : World} {A : Around} {E : Value → Shared → Prop} {s : Shared} {h₀ : Heap} {L : Addr} {m : Str → Option Value} {news : List (Addr × Obj)} {x : Str} {t : Tok} {Q : Value → Shared → Prop}
    (hh : A.handled = none) (F : Fr h₀ L s.heap m) (N : News h₀ L s.heap news) (hx : x.length ≤ 63)
    (h : ∀ D h' tk vs' ss' e, Fr h₀ L h' m → News h₀ L h' ((D, seqObj "list" (List.toArray vs') e) :: news) → StrsAre vs' ss' → ss'.Perm (signs x) → sortedS ss' = true → Q (.ref D) { s with heap := h', toks := tk }) :
    wpAny (model prog w) A (call (.builtin "sorted") [.str x t]) Q E s := by
  refine Calls.call_function_entry kind_sorted plain_sorted entry_sorted (args_sorted1 _) ?_
  unfold Builtin.«sorted»
  refine wpAny_bind (m := checkCount "sorted" 1 1 _) (wpAny_pure ?_)
  refine wpAny_bind (wpAny_collect_str (A := A.in1) hh x t (fun s' acc hk e1 e2 e3 hacc => ?_) (by show x.length ≤ _; rw [sizeLine_eq]; lia))
  obtain ⟨hp, gg, dd, tk, oo⟩ := s'
  dsimp only at hk e1 e2 e3
  subst e1 e2 e3
  have hS : StrsAre acc.toList (signs x) := strs_of_get _ _ (by simp [hacc.1, signs]) fun j v hv => by
    obtain ⟨c, u, hc, rfl⟩ := hacc.2 j v (by simpa using hv)
    exact ⟨⟨#[c]⟩, u, by simp [signs, hc], rfl⟩
  have hal : acc.toList.length = x.length := by rw [hS.length, signs_length]
  refine wpAny_bind (wpAny_newList ?_)
  have hoL : (hp.push (seqObj "list" acc.toList.toArray 0)).get? hp.objs.size = some (seqObj "list" acc.toList.toArray 0) := Heap.get?_push_size _ rfl
  have lL : @LT.lt Nat _ L hp.objs.size := (F.ns.at' fun o e => hk _ _ e).lt
  refine wpAny_bind (wpAny_holding (wpAny_call_entry slot_list_sort ⟨_, hoL, rfl⟩ entry_list_sort (list_sort_treeK strKind_oneLt hoL hS.keysOf (fun v₁ v₂ rest e => keyKind_strs (by rw [← e]; exact hS)) (by lia) fun st' a1 a2 => ⟨_, rfl, ?_⟩) (args_list_sort _)))
  obtain ⟨ss', h1, h2, h3⟩ := sorted_out_str hS a1 a2
  obtain ⟨e, he⟩ := sortedHeap_at (out := (arrOf st').map (·.2)) hoL
  have old : ∀ b o, s.heap.get? b = some o → (sortedHeap (hp.push (seqObj "list" acc.toList.toArray 0)) hp.objs.size acc.toList ((arrOf st').map (·.2))).get? b = some o := fun b o eb => by
    have hb := Heap.lt_size (hk _ _ eb)
    rw [sortedHeap_old (Nat.ne_of_lt hb) (by rw [Heap.size_push]; exact Nat.lt_succ_of_lt hb)]
    exact Heap.get?_push_of_some _ (hk _ _ eb)
  refine wpAny_pure ⟨_, rfl, h hp.objs.size _ tk ((arrOf st').map (·.2)).toList ss' e (F.keeps old) (fun q hq => ?_) h1 h2 h3⟩
  rcases List.mem_cons.mp hq with rfl | hq
  · refine ⟨he, Nat.ne_of_gt lL, ?_⟩
    cases q : h₀.get? hp.objs.size with
    | none => rfl
    | some o => exact absurd (Heap.lt_size q) (Nat.not_lt.mpr (Nat.le_trans F.above (Nat.le_of_lt lL)))
  · exact ⟨old _ _ (N q hq).1, (N q hq).2⟩
noncomputable def abcS : List Str := [("a" : Str), "b", "c", "d", "e"]
theorem abc_all : (abcS.all fun a => abcS.all fun b => abcS.all fun c => abcS.all fun d => abcS.all fun e => !(sortedS [a, b, c, d, e]) || !([a, b, c, d, e].isPerm abcS) || decide ([a, b, c, d, e] = abcS)) = true := by decide +kernel
theorem len5 {α : Type} : ∀ {l : List α}, l.length = 5 → ∃ a b c d e, l = [a, b, c, d, e] := by
  intro l h
  obtain ⟨a, l, rfl⟩ := List.exists_cons_of_length_eq_add_one h
  obtain ⟨b, l, rfl⟩ := List.exists_cons_of_length_eq_add_one (Nat.succ.inj h)
  obtain ⟨c, l, rfl⟩ := List.exists_cons_of_length_eq_add_one (Nat.succ.inj (Nat.succ.inj h))
  obtain ⟨d, l, rfl⟩ := List.exists_cons_of_length_eq_add_one (Nat.succ.inj (Nat.succ.inj (Nat.succ.inj h)))
  obtain ⟨e, l, rfl⟩ := List.exists_cons_of_length_eq_add_one (Nat.succ.inj (Nat.succ.inj (Nat.succ.inj (Nat.succ.inj h))))
  cases l with
  | nil => exact ⟨_, _, _, _, _, rfl⟩
  | cons x l => cases h
theorem sorted_abc {ss x : List Str} (h : ss.Perm x) (hs : sortedS ss = true) (hx : x.Perm abcS) : ss = abcS := by
  have hp := h.trans hx
  have hl := hp.length_eq
  obtain ⟨a, b, c, d, e, rfl⟩ := len5 hl
  · have k := abc_all
    have ma : a ∈ abcS := hp.mem_iff.mp (by simp)
    have mb : b ∈ abcS := hp.mem_iff.mp (by simp)
    have mc : c ∈ abcS := hp.mem_iff.mp (by simp)
    have md : d ∈ abcS := hp.mem_iff.mp (by simp)
    have me : e ∈ abcS := hp.mem_iff.mp (by simp)
    have k1 := List.all_eq_true.mp (List.all_eq_true.mp (List.all_eq_true.mp (List.all_eq_true.mp (List.all_eq_true.mp k a ma) b mb) c mc) d md) e me
    rw [hs, List.isPerm_iff.mpr hp] at k1
    simpa using k1
end
section
local macro_rules | `(tactic| walk_at "subscriptTail Name Name ref int") => `(tactic| walk_at "mine stop")
local macro_rules | `(tactic| walk_at "subscriptTail Name BinOp ref int") => `(tactic| walk_at "mine stop")
theorem turn1b {w : World} {cd : Value} {fa L I : Addr} {h₀ h : Heap} {p : Program} {loose : List Str} {mean : ExcName → Option Value} {mg mb : Str → Option Value} {s : Shared} {tk : Nat} {Q : Flow → Shared → Prop} {o : Obj} {m : Str → Option Value}
    (B : Below callerA h₀ [] h₀) (X : (Mine.hd.heap_1 w.params).In h₀) (T : Top p loose mean mg mb h₀)
    (n : Nat → Int) (hn : ∀ k, 0 ≤ n k ∧ n k ≤ 999999) (g : Str) (hg : g.length = 1) (tg : Tok) (ln ldz lf ldr lpt c1 : Addr) (oc1 : Obj) (nv : List Value) (ne : Nat) (dv8 : List Value) (d8e : Nat) (hnv : IntsAre nv ((List.range 5).map n)) (hdz : StrsAre dv8 dressS)
    (f1 : lf ≠ ldr) (f2 : lf ≠ lpt) (f3 : ldr ≠ lpt) (f4 : c1 ≠ lf) (f5 : c1 ≠ ldr) (f6 : c1 ≠ lpt) (k : Nat) (hk : k < 5) (t : Tok) (TK : TurnOK (n k) k g (wsAt n g k))
    (a : LX) (ok : a.Ok) (line : Int) (tl : Tok) (pe : Nat) (se : Nat) (en : Int) (te tf t1 t8 t9 : Tok) (fv dv pv : List Value) (fe de pve : Nat) (R : List (Addr × Obj)) (u2 u3 u7 u8 u9 u10 : Option Value) (ll : Addr) (lv : List Value) (le : Nat)
    (hlv : StrsAre lv (laidF (n k) k (wsAt n g k) g)) (hdd0 : 0 ≤ deedAt n g k ∧ deedAt n g k ≤ 3)
    (hfv : StrsAre fv ((List.range k).map (frontAt n g))) (hfl : (frontAt n g k).length ≤ 1 + 10 * k) (hpv : StrsAre pv ((List.range (k + 1)).map (patAt n g))) (hdl : dv.length = k)
    (hdv : ∀ i, i < k → ∃ T ta tb, dv[i]? = some (.ref T) ∧ (T, tupO #[.int (placeAt n g i) ta, .int (drS.getD (deedAt n g i).toNat 0) tb]) ∈ R)
    (hln : (ln, listOf ⟨nv⟩ ne) ∈ R) (hldz : (ldz, listOf ⟨dv8⟩ d8e) ∈ R)
    (hAR : ∀ b ∈ a.addrs, ∀ q ∈ (ll, listOf ⟨lv⟩ le) :: (lpt, listOf ⟨pv⟩ pve) :: (I, o) :: (c1, oc1) :: (120, tabObj (tabPs c1 a.c)) :: (lf, listOf ⟨fv⟩ fe) :: (ldr, listOf ⟨dv⟩ de) :: R, b ≠ q.1)
    (offll : ∀ q ∈ (lpt, listOf ⟨pv⟩ pve) :: (a.led w.params line tl [] pe [] se ++ (I, o) :: (c1, oc1) :: (120, tabObj (tabPs c1 a.c)) :: (lf, listOf ⟨fv⟩ fe) :: (ldr, listOf ⟨dv⟩ de) :: R), ll ≠ q.1)
    (off120 : ∀ q ∈ (lpt, listOf ⟨pv⟩ pve) :: (I, o) :: (c1, oc1) :: (lf, listOf ⟨fv⟩ fe) :: (ldr, listOf ⟨dv⟩ de) :: R, (120 : Addr) ≠ q.1)
    (offR : ∀ q ∈ R, q.1 ≠ lf ∧ q.1 ≠ ldr ∧ q.1 ≠ lpt) (offI : ∀ q ∈ (lpt, listOf ⟨pv⟩ pve) :: (c1, oc1) :: (120, tabObj (tabPs c1 a.c)) :: (lf, listOf ⟨fv⟩ fe) :: (ldr, listOf ⟨dv⟩ de) :: R, q.1 ≠ I)
    (F : Fr h₀ L h (up (LN.zip [some (.int (k : Int) t), some (.ref ln), some (.str g tg), some (.ref ldz), some (.ref a.lx), some (.int en te), some (.str (frontAt n g k) tf), some (.ref lf), some (.ref ldr), some (.ref lpt), some (.int (n k) t1), u2, u3, some (.int (deedAt n g k) t8), some (.int (placeAt n g k) t9), some (.ref ll), u7, u8, u9, u10]) m))
    (N : News h₀ L h ((ll, listOf ⟨lv⟩ le) :: (lpt, listOf ⟨pv⟩ pve) :: (a.led w.params line tl [] pe [] se ++ (I, o) :: (c1, oc1) :: (120, tabObj (tabPs c1 a.c)) :: (lf, listOf ⟨fv⟩ fe) :: (ldr, listOf ⟨dv⟩ de) :: R))) :
    ∀ Q', Q' = EndL h₀ L I o (UpJ LN m (K1 w n g I tg ln ldz lf ldr lpt c1 oc1 nv ne (listOf ⟨dv8⟩ d8e) (k + 1))) s Q →
    wpAny (model PySem.Challenge.rw_uc0007_01.row.prog w) (callerA.deeper (lawEnv cd fa L)) (exec ((loop1B.drop 10).headD default) (lawEnv cd fa L))
      (fun f s' => match f with | .next => wpAny (model PySem.Challenge.rw_uc0007_01.row.prog w) (callerA.deeper (lawEnv cd fa L)) (execs (loop1B.drop 11) (lawEnv cd fa L)) Q' NoE s' | f => Q' f s') NoE { s with heap := h, toks := tk } := by
  intro Q' eQ'
  have mc := markC
  revert X
  k_fill
  intro X
  unfold lawEnv lawSc
  unfold LN at F
  obtain ⟨hn0, hn1⟩ := hn k
  obtain ⟨text, htext⟩ : ∃ text, text = (mailAt (laidF (n k) k (wsAt n g k) g) g (n k) (laidF (n k) k (wsAt n g k) g).length).1 := ⟨_, rfl⟩
  obtain ⟨due, hdue⟩ : ∃ due, due = (mailAt (laidF (n k) k (wsAt n g k) g) g (n k) (laidF (n k) k (wsAt n g k) g).length).2 := ⟨_, rfl⟩
  have hq : quoteS text = due := by rw [htext, hdue]; exact TK.quote
  have hw : Words [] (signs due) (wsAt n g (k + 1)) [] := by rw [hdue]; exact TK.words
  have hlz := hlv.length
  have hll := TK.llen
  have haf : ∀ b ∈ a.addrs, b ≠ lf := fun b hb => hAR b hb (lf, listOf ⟨fv⟩ fe) (.tail _ (.tail _ (.tail _ (.tail _ (.tail _ (.head _))))))
  have had : ∀ b ∈ a.addrs, b ≠ ldr := fun b hb => hAR b hb (ldr, listOf ⟨dv⟩ de) (.tail _ (.tail _ (.tail _ (.tail _ (.tail _ (.tail _ (.head _)))))))
  with_unfolding_all show wpAny _ _ (exec (Stmt.Assign _ _ _) _) (fun f s' => match f with | .next => wpAny _ _ (execs (_ :: _) _) _ _ s' | f => _) _ _
  (k_steps; (all_goals (try k_data)))
  unfold HandC
  rename Fr _ _ _ _ => F1
  rename News _ _ _ _ => N1
  refine Ct.use (mail_c ll lv le (laidF (n k) k (wsAt n g k) g) g (n k) _ _ hlv hll hg TK.lwl ⟨hn0, by lia⟩ (by intro q hq; rw [List.mem_singleton.mp hq]; exact offll)) B F1 X N1 T rfl (by (first | (show _ < _; decide) | exact room1 (k := 1) (by assumption) rfl | exact room2 (k := 3) (by assumption) rfl | exact room3 (by assumption) rfl | (simp only [recursionLimit, cLine] at *; lia))) (by (first | (show _ < _; decide) | exact room1 (k := 1) (by assumption) rfl | exact room2 (k := 3) (by assumption) rfl | exact room3 (by assumption) rfl | (simp only [recursionLimit, cLine] at *; lia))) ?_
  rintro _ _ h2 tk2 hIK F2 N2
  induction hIK with
  | mk D text2 due2 tt td htd htl hdl2 offD =>
  obtain ⟨rfl, rfl⟩ : text2 = text ∧ due2 = due := by
    have e1 := congrArg Prod.fst htd
    have e2 := congrArg Prod.snd htd
    exact ⟨e1.trans htext.symm, e2.trans hdue.symm⟩
  (k_steps; (all_goals (try k_data)))
  unfold HandC
  rename Fr _ _ _ _ => F3
  rename News _ _ _ _ => N3
  refine Ct.useS (quote_c text2 tt (by lia)) B F3 X N3 T rfl (by (first | (show _ < _; decide) | exact room1 (k := 1) (by assumption) rfl | exact room2 (k := 3) (by assumption) rfl | exact room3 (by assumption) rfl | (simp only [recursionLimit, cLine] at *; lia))) (by (first | (show _ < _; decide) | exact room1 (k := 1) (by assumption) rfl | exact room2 (k := 3) (by assumption) rfl | exact room3 (by assumption) rfl | (simp only [recursionLimit, cLine] at *; lia))) ?_
  intro t4 h4 tk4 F4 N4
  rw [hq]
  clear F3
  (k_steps; (all_goals (try k_data)))
  · exfalso
    rename_i hb
    revert hb
    simp
  unfold HandC
  rename Fr _ _ _ _ => F5
  rename News _ _ _ _ => N5
  have hca : a.c ∈ a.addrs := by simp [LX.addrs]
  obtain ⟨ocs, oct, hoc, hoc1⟩ := ok.oc
  have hdl3 : due2.length ≤ 1000 := by lia
  refine Ct.use (lexerN_c (rest' := (lf, listOf ⟨fv⟩ fe) :: (ldr, listOf ⟨dv⟩ de) :: (lpt, listOf ⟨pv⟩ pve) :: (I, o) :: R) due2 _ (by lia) a.c c1 a.oc oc1 ocs oct hoc hoc1 ?_ ?_) B F5 X (News.sub N5 ?_) T rfl (by (first | (show _ < _; decide) | exact room1 (k := 1) (by assumption) rfl | exact room2 (k := 3) (by assumption) rfl | exact room3 (by assumption) rfl | (simp only [recursionLimit, cLine] at *; lia))) (by (first | (show _ < _; decide) | exact room1 (k := 1) (by assumption) rfl | exact room2 (k := 3) (by assumption) rfl | exact room3 (by assumption) rfl | (simp only [recursionLimit, cLine] at *; lia))) ?_
  · intro p hp
    rw [List.mem_singleton.mp hp]
    refine List.forall_mem_cons.mpr ⟨Ne.symm (hAR a.c hca (120, tabObj (tabPs c1 a.c)) (.tail _ (.tail _ (.tail _ (.tail _ (.head _)))))), fun q hq => off120 q ?_⟩
    revert q
    exact mem_a1
  · refine fun q hq => hAR a.c hca q (.tail _ ?_)
    revert q
    exact mem_a2
  · exact mem_a3 mem_led_c
  rintro _ _ h6 tk6 hIK F6 N6
  induction hIK with
  | mk a2 tl2 sgv2 se2 ok2 hac2 haoc2 hsg2 offA2 =>
  clear F5 N5
  (k_steps; (all_goals (try k_data)))
  unfold HandC
  rename Fr _ _ _ _ => F7
  rename News _ _ _ _ => N7
  have hAf : ∀ b ∈ a2.addrs, b ≠ lf := fun b hb => offA2 b hb (lf, listOf ⟨fv⟩ fe) (.tail _ (.tail _ (.head _)))
  have hAd : ∀ b ∈ a2.addrs, b ≠ ldr := fun b hb => offA2 b hb (ldr, listOf ⟨dv⟩ de) (.tail _ (.tail _ (.tail _ (.head _))))
  have h120f : (120 : Addr) ≠ lf := off120 (lf, listOf ⟨fv⟩ fe) (.tail _ (.tail _ (.tail _ (.head _))))
  have h120d : (120 : Addr) ≠ ldr := off120 (ldr, listOf ⟨dv⟩ de) (.tail _ (.tail _ (.tail _ (.tail _ (.head _)))))
  have hIf : I ≠ lf := Ne.symm (offI (lf, listOf ⟨fv⟩ fe) (.tail _ (.tail _ (.tail _ (.head _)))))
  have hId : I ≠ ldr := Ne.symm (offI (ldr, listOf ⟨dv⟩ de) (.tail _ (.tail _ (.tail _ (.tail _ (.head _))))))
  refine append_K F7 (News.sub N7 (l' := (lf, listOf ⟨fv⟩ fe) :: (c1, oc1) :: (120, tabObj (tabPs c1 a.c)) :: (ldr, listOf ⟨dv⟩ de) :: (lpt, listOf ⟨pv⟩ pve) :: (I, o) :: (R ++ a2.led w.params 1 tl2 [] 0 sgv2 se2)) mem_a4) (Upd.head ?_) ?_ (by rw [sizeLine_eq]; have := hfv.length; simp at this ⊢; lia)
  · exact List.forall_mem_cons.mpr ⟨f4, List.forall_mem_cons.mpr ⟨h120f, List.forall_mem_cons.mpr ⟨Ne.symm f1, List.forall_mem_cons.mpr ⟨Ne.symm f2, List.forall_mem_cons.mpr ⟨hIf, List.forall_mem_append.mpr ⟨fun q hq => (offR q hq).1, ledne hAf⟩⟩⟩⟩⟩⟩
  rintro h8 F8 N8
  (k_steps; (all_goals (try k_data)))
  unfold HandC
  rename Fr _ _ _ _ => F9
  rename_i lX h9a l9a tB D9 h9 N9 l9b
  obtain ⟨q0, q1, q2, q3, q4, q5, q6, q7⟩ := l9b
  have q7' := allLt_out q7
  refine append_K F9 (News.sub N9 (l' := (ldr, listOf ⟨dv⟩ de) :: (c1, oc1) :: (120, tabObj (tabPs c1 a.c)) :: (lf, listOf (Array.push ⟨fv⟩ (Value.str (frontAt n g k) tf)) (fe + 1)) :: (lpt, listOf ⟨pv⟩ pve) :: (I, o) :: (((D9, tupO #[.int (placeAt n g k) t9, .int (drS.getD (deedAt n g k).toNat 0) tB]) :: R) ++ a2.led w.params 1 tl2 [] 0 sgv2 se2)) mem_a5) (Upd.head ?_) ?_ (by rw [sizeLine_eq]; simp; lia)
  · exact List.forall_mem_cons.mpr ⟨f5, List.forall_mem_cons.mpr ⟨h120d, List.forall_mem_cons.mpr ⟨f1, List.forall_mem_cons.mpr ⟨Ne.symm f3, List.forall_mem_cons.mpr ⟨hId, List.forall_mem_cons.mpr ⟨Nat.ne_of_gt q4, List.forall_mem_append.mpr ⟨fun q hq => (offR q hq).2.1, ledne hAd⟩⟩⟩⟩⟩⟩⟩
  rintro h10 F10 N10
  clear N9
  (k_steps; (all_goals (try k_data)))
  have hx0 : 0 ≤ ((n k).fdiv 24).fmod 8 := Int.fmod_nonneg_of_pos _ (by lia)
  have hx1 : ((n k).fdiv 24).fmod 8 < 8 := Int.fmod_lt_of_pos _ (by lia)
  k_dflt (refine KTb.item_list (News.isList N10 (.tail _ (.tail _ (.tail _ (.tail _ (.tail _ (.tail _ (List.mem_append_left _ (.tail _ hldz))))))))) hdz hx0 (by show _ < (8 : Int); lia) (by lia) (fun t11 h11 => ?_))
  have hdr8 : (dressS.getD ((n k).fdiv 24 |>.fmod 8).toNat Str.empty).length ≤ 6 := getD_len (by decide) _
  (k_steps; (all_goals (try k_data)))
  rename News _ _ _ _ => N11
  rename Fr _ _ _ _ => F11
  rename_i lZ hZ lZ2
  have hbr : (brS.getD (deedAt n g k).toNat Str.empty).length ≤ 1 := getD_len (by decide) _
  have hdd1 : deedAt n g k < 4 := by lia
  k_dflt (refine KTb.item_list (ws := brS) (News.isList N11 (.head _)) (.cons _ _ (.cons _ _ (.cons _ _ (.cons _ _ .nil)))) hdd0.1 hdd1 (by lia) (fun t12 h12 => ?_))
  replace N11 : News h₀ L hZ ((c1, oc1) :: (120, tabObj (tabPs c1 a2.c)) :: (lf, listOf ⟨fv ++ [Value.str (frontAt n g k) tf]⟩ (fe + 1)) :: (ldr, listOf ⟨dv ++ [Value.ref D9]⟩ (de + 1)) :: (lpt, listOf ⟨pv⟩ pve) :: (I, o) :: (((D9, tupO #[.int (placeAt n g k) t9, .int (drS.getD (deedAt n g k).toNat 0) tB]) :: R) ++ a2.led w.params 1 tl2 [] 0 sgv2 se2)) := by
    rw [hac2, ← push_mk, ← push_mk]
    exact News.sub N11 mem_a6
  (k_steps; (all_goals (try k_data)))
  have hcn := cnt_le (signs due2)
  rw [signs_length] at hcn
  have hnl : Txt.count due2 "\n" = cntNl (signs due2) := by rw [hdue]; exact TK.nl
  have hD : ∀ d : Addr, d ≠ D9 → d ≠ (D9, tupO #[.int (placeAt n g k) t9, .int (drS.getD (deedAt n g k).toNat 0) tB]).1 := fun _ h => h
  have hAD : ∀ b ∈ a2.addrs, b ≠ D9 := fun b hb => by
    have e : a2.addrs = (a2.led w.params 1 tl2 [] 0 sgv2 se2).map (·.1) := rfl
    rw [e] at hb
    obtain ⟨q, hq, rfl⟩ := List.mem_map.mp hb
    exact Nat.ne_of_lt (q7' q (List.mem_append_right _ hq))
  have hAI2 : ∀ b ∈ a2.addrs, b ≠ I := fun b hb => offA2 b hb (I, o) (.tail _ (.tail _ (.tail _ (.tail _ (.tail _ (.head _))))))
  rw [eQ']
  refine EndL.next (news' := (c1, oc1) :: (120, tabObj (tabPs c1 a2.c)) :: (lf, listOf ⟨fv ++ [Value.str (frontAt n g k) tf]⟩ (fe + 1)) :: (ldr, listOf ⟨dv ++ [Value.ref D9]⟩ (de + 1)) :: (lpt, listOf ⟨pv⟩ pve) :: (((D9, tupO #[.int (placeAt n g k) t9, .int (drS.getD (deedAt n g k).toNat 0) tB]) :: R) ++ a2.led w.params 1 tl2 [] 0 sgv2 se2)) (by assumption) (by assumption) mem_a7
    ⟨[some (.int (k : Int) t), some (.ref ln), some (.str g tg), some (.ref ldz), some (.ref a2.lx), some (.int (Txt.count due2 "\n") _), some (.str (frontAt n g (k + 1)) _), some (.ref lf), some (.ref ldr), some (.ref lpt), some (.int (n k) t1), u2, u3, some (.int (deedAt n g k) t8), some (.int (placeAt n g k) t9), some (.ref ll), u7, some (.str text2 tt), some (.str due2 td), some (.str due2 t4)],
      ⟨a2, tl2, 0, sgv2, se2, due2, Txt.count due2 "\n", _, _, fv ++ [Value.str (frontAt n g k) tf], dv ++ [Value.ref D9], pv, fe + 1, de + 1, pve, (D9, tupO #[.int (placeAt n g k) t9, .int (drS.getD (deedAt n g k).toNat 0) tB]) :: R, _, _, _, _, _, _, _, _, _, _, _, ok2, hsg2, hdl3, hw, hnl, by rw [hnl]; exact hcn.1, by rw [hnl]; lia, ?_, hpv, by rw [List.length_append, hdl]; rfl, ?_, .tail _ hln, .tail _ hldz, ?_, ?_, ?_, ?_⟩, by unfold LN; (refine up_off ?mua ?mub; (case mub => exact rfl); (case mua => walk_at "mine off"))⟩
  · rw [List.range_succ, List.map_append]; exact strs_append hfv (strs_one _ _)
  · intro i hi
    by_cases e : i = k
    · subst e
      exact ⟨D9, t9, tB, by rw [List.getElem?_append_right (by lia), hdl]; simp, .head _⟩
    · obtain ⟨T', ta, tb, e1, e2⟩ := hdv i (by lia)
      exact ⟨T', ta, tb, by rw [List.getElem?_append_left (by lia)]; exact e1, .tail _ e2⟩
  · intro b hb
    have z := offA2 b hb
    refine List.forall_mem_cons.mpr ⟨z _ (.head _), List.forall_mem_cons.mpr ⟨z (120, tabObj (tabPs c1 a.c)) (.tail _ (.head _)), List.forall_mem_cons.mpr ⟨hAf b hb, List.forall_mem_cons.mpr ⟨hAd b hb, List.forall_mem_cons.mpr ⟨z (lpt, listOf ⟨pv⟩ pve) (.tail _ (.tail _ (.tail _ (.tail _ (.head _))))), List.forall_mem_cons.mpr ⟨hAD b hb, fun q hq => z q (.tail _ (.tail _ (.tail _ (.tail _ (.tail _ (.tail _ hq))))))⟩⟩⟩⟩⟩⟩
  · refine List.forall_mem_cons.mpr ⟨off120 (c1, oc1) (.tail _ (.tail _ (.head _))), List.forall_mem_cons.mpr ⟨h120f, List.forall_mem_cons.mpr ⟨h120d, List.forall_mem_cons.mpr ⟨off120 (lpt, listOf ⟨pv⟩ pve) (.head _), List.forall_mem_cons.mpr ⟨Nat.ne_of_lt q3, fun q hq => off120 q (.tail _ (.tail _ (.tail _ (.tail _ (.tail _ hq)))))⟩⟩⟩⟩⟩
  · exact List.forall_mem_cons.mpr ⟨⟨Nat.ne_of_gt q1, Nat.ne_of_gt q4, Nat.ne_of_gt q5⟩, offR⟩
  · refine List.forall_mem_cons.mpr ⟨offI (c1, oc1) (.tail _ (.head _)), List.forall_mem_cons.mpr ⟨offI (120, tabObj (tabPs c1 a.c)) (.tail _ (.tail _ (.head _))), List.forall_mem_cons.mpr ⟨Ne.symm hIf, List.forall_mem_cons.mpr ⟨Ne.symm hId, List.forall_mem_cons.mpr ⟨offI (lpt, listOf ⟨pv⟩ pve) (.head _), List.forall_mem_append.mpr ⟨List.forall_mem_cons.mpr ⟨Nat.ne_of_gt q6, fun q hq => offI q (.tail _ (.tail _ (.tail _ (.tail _ (.tail _ hq)))))⟩, ledne hAI2⟩⟩⟩⟩⟩⟩
end
section
local macro_rules | `(tactic| walk_at "subscriptTail Name Name ref int") => `(tactic| walk_at "mine stop")
local macro_rules | `(tactic| walk_at "pyIter ref") => `(tactic| walk_at "mine stop")
local macro_rules | `(tactic| walk_at "exec Assign") => `(tactic| (k_here; (with_reducible rename MarkC => mC9); (with_reducible show wpAny _ _ (exec (Stmt.Assign [Expr.Tuple _ _ _] _ _) _) _ _ _); k_dflt (refine handC ?_)))
theorem fr_cast {h₀ h : Heap} {L : Addr} {m m' : Str → Option Value} (F : Fr h₀ L h m) (e : m = m') : Fr h₀ L h m' := e ▸ F
theorem mem_b1 {x y z : Addr × Obj} {A R : List (Addr × Obj)} : ∀ p ∈ y :: z :: (A ++ R), p ∈ x :: (A ++ y :: z :: R) := by
  intro p hp
  simp only [List.mem_cons, List.mem_append] at hp ⊢
  rcases hp with h | h | h | h <;> simp [h]
theorem mem_b2 {c f d p : Addr × Obj} {R : List (Addr × Obj)} : ∀ q ∈ c :: f :: d :: R, q ∈ c :: f :: d :: p :: R := by
  intro p hp
  simp only [List.mem_cons] at hp ⊢
  rcases hp with h | h | h | h <;> simp [h]
theorem mem_b3 {c t f d p : Addr × Obj} {A R : List (Addr × Obj)} : ∀ q ∈ c :: t :: f :: d :: R, q ∈ c :: t :: f :: d :: p :: (R ++ A) := by
  intro p hp
  simp only [List.mem_cons, List.mem_append] at hp ⊢
  rcases hp with h | h | h | h | h <;> simp [h]
theorem front_len (n : Nat → Int) (g : Str) : ∀ k, (frontAt n g k).length ≤ 1 + 10 * k
  | 0 => by show (Str.ofString "(").length ≤ _; decide
  | k + 1 => by
    have := front_len n g k
    have h1 : (dressS.getD (((n k).fdiv 24).fmod 8).toNat Str.empty).length ≤ 6 := getD_len (by decide) _
    have h2 : (brS.getD (deedAt n g k).toNat Str.empty).length ≤ 1 := getD_len (by decide) _
    show (frontStep (frontAt n g k) (n k) (deedAt n g k)).length ≤ _
    unfold frontStep
    rw [Str.length_append, Str.length_append]
    lia
inductive PushK (a : LX) (P : Params) (en : Int) (tl : Tok) (se : Nat) (lv : List Value) (e1 e2 : Addr × Obj) (RR : List (Addr × Obj)) (i : Nat) : List (Option Value) → List (Addr × Obj) → Prop
  | mk (u : Option Value) (pe : Nat) : PushK a P en tl se lv e1 e2 RR i [u] (e1 :: e2 :: (a.led P en tl (lv.take i) pe [] se ++ RR))
theorem turn1 {w : World} {cd : Value} {fa L I : Addr} {h₀ h : Heap} {p : Program} {loose : List Str} {mean : ExcName → Option Value} {mg mb : Str → Option Value} {s : Shared} {tk : Nat} {Q : Flow → Shared → Prop} {o : Obj} {m : Str → Option Value}
    (B : Below callerA h₀ [] h₀) (X : (Mine.hd.heap_1 w.params).In h₀) (T : Top p loose mean mg mb h₀)
    (n : Nat → Int) (hn : ∀ k, 0 ≤ n k ∧ n k ≤ 999999) (g : Str) (hg : g.length = 1) (tg : Tok) (ln ldz lf ldr lpt c1 : Addr) (oc1 : Obj) (nv : List Value) (ne : Nat) (dv8 : List Value) (d8e : Nat) (hnv : IntsAre nv ((List.range 5).map n)) (hdz : StrsAre dv8 dressS)
    (f1 : lf ≠ ldr) (f2 : lf ≠ lpt) (f3 : ldr ≠ lpt) (f4 : c1 ≠ lf) (f5 : c1 ≠ ldr) (f6 : c1 ≠ lpt) (k : Nat) (hk : k < 5) (t : Tok) (TK : TurnOK (n k) k g (wsAt n g k)) (vals : List (Option Value)) (news : List (Addr × Obj))
    (hK : K1 w n g I tg ln ldz lf ldr lpt c1 oc1 nv ne (listOf ⟨dv8⟩ d8e) k vals news)
    (F : Fr h₀ L h (fun y => if y = "k" then some (.int (k : Int) t) else up (LN.zip vals) m y)) (N : News h₀ L h ((I, o) :: news)) :
    ∀ Q', Q' = EndL h₀ L I o (UpJ LN m (K1 w n g I tg ln ldz lf ldr lpt c1 oc1 nv ne (listOf ⟨dv8⟩ d8e) (k + 1))) { s with heap := h, toks := tk } Q →
    wpAny (model PySem.Challenge.rw_uc0007_01.row.prog w) (callerA.deeper (lawEnv cd fa L)) (execs loop1B (lawEnv cd fa L)) Q' NoE { s with heap := h, toks := tk } := by
  intro Q' eQ'
  have mc := markC
  revert X
  k_fill
  intro X
  obtain ⟨a, tl, pe, sgv, se, x, en, te, tf, fv, dv, pv, fe, de, pve, R, u0, u1, u2, u3, u4, u5, u6, u7, u8, u9, u10, ok, hsg, hxl, hw, hen, hen0, hen1, hfv, hpv, hdl, hdv, hln, hldz, offA, off120, offR, offI⟩ := hK
  have hIa : ∀ b ∈ a.addrs, b ≠ I := fun b hb => by
    have e : a.addrs = (a.led w.params 1 tl [] pe sgv se).map (·.1) := rfl
    rw [e] at hb
    obtain ⟨q, hq, rfl⟩ := List.mem_map.mp hb
    exact offI q (.tail _ (.tail _ (.tail _ (.tail _ (.tail _ (List.mem_append_right _ hq))))))
  have haf : ∀ b ∈ a.addrs, b ≠ lf := fun b hb => offA b hb (lf, listOf ⟨fv⟩ fe) (.tail _ (.tail _ (.head _)))
  have had : ∀ b ∈ a.addrs, b ≠ ldr := fun b hb => offA b hb (ldr, listOf ⟨dv⟩ de) (.tail _ (.tail _ (.tail _ (.head _))))
  have hap : ∀ b ∈ a.addrs, b ≠ lpt := fun b hb => offA b hb (lpt, listOf ⟨pv⟩ pve) (.tail _ (.tail _ (.tail _ (.tail _ (.head _)))))
  have h120f : (120 : Addr) ≠ lf := off120 (lf, listOf ⟨fv⟩ fe) (.tail _ (.head _))
  have h120d : (120 : Addr) ≠ ldr := off120 (ldr, listOf ⟨dv⟩ de) (.tail _ (.tail _ (.head _)))
  have h120p : (120 : Addr) ≠ lpt := off120 (lpt, listOf ⟨pv⟩ pve) (.tail _ (.tail _ (.tail _ (.head _))))
  have hIf : I ≠ lf := Ne.symm (offI (lf, listOf ⟨fv⟩ fe) (.tail _ (.tail _ (.head _))))
  have hId : I ≠ ldr := Ne.symm (offI (ldr, listOf ⟨dv⟩ de) (.tail _ (.tail _ (.tail _ (.head _)))))
  have hIp : I ≠ lpt := Ne.symm (offI (lpt, listOf ⟨pv⟩ pve) (.tail _ (.tail _ (.tail _ (.tail _ (.head _))))))
  have h120I : (120 : Addr) ≠ I := offI (120, tabObj (tabPs c1 a.c)) (.tail _ (.head _))
  have off120' : ∀ q ∈ (c1, oc1) :: (lf, listOf ⟨fv⟩ fe) :: (ldr, listOf ⟨dv⟩ de) :: R, (120 : Addr) ≠ q.1 := fun q hq => off120 q (by revert q; exact mem_b2)
  have offI' : ∀ q ∈ (c1, oc1) :: (120, tabObj (tabPs c1 a.c)) :: (lf, listOf ⟨fv⟩ fe) :: (ldr, listOf ⟨dv⟩ de) :: R, q.1 ≠ I := fun q hq => offI q (by revert q; exact mem_b3)
  unfold lawEnv lawSc
  unfold LN at F
  refine letX ?_
  intro M9 e9 A9
  with_unfolding_all refine wpAny_execs_cons (st := Stmt.Assign _ _ _) ?_
  (k_steps; (all_goals (try k_data)))
  have hgn : ((List.range 5).map n).getD ((k : Int)).toNat 0 = n k := by
    rw [List.getD_eq_getElem?_getD, List.getElem?_map, Int.toNat_natCast, List.getElem?_range hk]; rfl
  k_dflt (refine ksa_sub (by assumption) (.tail _ (.tail _ (.tail _ (.tail _ (.tail _ (.tail _ (List.mem_append_left _ hln))))))) hnv (by lia) (by simp; lia) (by lia) (fun t1 => ?_))
  rw [hgn]
  obtain ⟨hn0, hn1⟩ := hn k
  (k_steps; (all_goals (try k_data)))
  unfold HandC
  rename Fr _ _ _ _ => F1
  rename News _ _ _ _ => N1
  refine Ct.use (lread_c a ok 1 tl [] [] pe (signs x) (wsAt n g k) [] sgv se .nil (by decide) hsg (by rw [signs_length]; lia) (signs_one x) hw (by have := TK.len; lia) ((I, o) :: (c1, oc1) :: (120, tabObj (tabPs c1 a.c)) :: (lf, listOf ⟨fv⟩ fe) :: (ldr, listOf ⟨dv⟩ de) :: (lpt, listOf ⟨pv⟩ pve) :: R) ?_) B F1 X ?_ T rfl (by (first | (show _ < _; decide) | exact room1 (k := 1) (by assumption) rfl | exact room2 (k := 3) (by assumption) rfl | exact room3 (by assumption) rfl | (simp only [recursionLimit, cLine] at *; lia))) (by (first | (show _ < _; decide) | exact room1 (k := 1) (by assumption) rfl | exact room2 (k := 3) (by assumption) rfl | exact room3 (by assumption) rfl | (simp only [recursionLimit, cLine] at *; lia))) ?_
  · intro b hb q hq
    rcases List.mem_cons.mp hq with rfl | hq
    · exact hIa b hb
    · exact offA b hb q hq
  · exact fun q hq => N1 q (by
      rcases List.mem_append.mp hq with h | h
      · exact .tail _ (.tail _ (.tail _ (.tail _ (.tail _ (.tail _ (List.mem_append_right _ h))))))
      · clear hq; revert q; walk_at "mine sub")
  rintro _ _ h2 tk2 hIK F2 N2
  induction hIK with
  | mk lw wv we line' tl' pe' sgv' se' hwv hline hs0 offw offAw =>
  have hwf : lw ≠ lf := offw (lf, listOf ⟨fv⟩ fe) (.tail _ (.tail _ (.tail _ (.head _))))
  have hwd : lw ≠ ldr := offw (ldr, listOf ⟨dv⟩ de) (.tail _ (.tail _ (.tail _ (.tail _ (.head _)))))
  have hwp : lw ≠ lpt := offw (lpt, listOf ⟨pv⟩ pve) (.tail _ (.tail _ (.tail _ (.tail _ (.tail _ (.head _))))))
  obtain rfl : sgv' = [] := by cases hs0; rfl
  obtain rfl : line' = 1 + en := by rw [hen]; simpa [cntNl] using hline
  (k_steps; (all_goals (try k_data)))
  · exfalso; lia
  unfold HandC
  rename Fr _ _ _ _ => F3
  rename News _ _ _ _ => N3
  refine Ct.useS (pat_c (vs := ⟨wv⟩) (ws := wsAt n g k) g k _ _ (.head _) hwv (fun y hy hne => TK.pat y hy hne) (by have := TK.len; lia) ⟨by lia, by lia⟩ (fun y hy => by have := (TK.wl y hy).2; lia)) B F3 X N3 T rfl (by (first | (show _ < _; decide) | exact room1 (k := 1) (by assumption) rfl | exact room2 (k := 3) (by assumption) rfl | exact room3 (by assumption) rfl | (simp only [recursionLimit, cLine] at *; lia))) (by (first | (show _ < _; decide) | exact room1 (k := 1) (by assumption) rfl | exact room2 (k := 3) (by assumption) rfl | exact room3 (by assumption) rfl | (simp only [recursionLimit, cLine] at *; lia))) ?_
  intro t4 h4 tk4 F4 N4
  clear F3 N3
  (k_steps; (all_goals (try k_data)))
  unfold HandC
  rename Fr _ _ _ _ => F5
  rename News _ _ _ _ => N5
  have nlpt : ∀ p ∈ (lw, listOf ⟨wv⟩ we) :: (a.led w.params (1 + en) tl' [] pe' [] se' ++ (I, o) :: (c1, oc1) :: (120, tabObj (tabPs c1 a.c)) :: (lf, listOf ⟨fv⟩ fe) :: (ldr, listOf ⟨dv⟩ de) :: R), p.1 ≠ lpt :=
    List.forall_mem_cons.mpr ⟨hwp, List.forall_mem_append.mpr ⟨ledne hap, List.forall_mem_cons.mpr ⟨hIp, List.forall_mem_cons.mpr ⟨f6, List.forall_mem_cons.mpr ⟨h120p, List.forall_mem_cons.mpr ⟨f2, List.forall_mem_cons.mpr ⟨f3, fun q hq => (offR q hq).2.2⟩⟩⟩⟩⟩⟩⟩
  refine append_K F5 (News.sub N5 (l' := (lpt, listOf ⟨pv⟩ pve) :: (lw, listOf ⟨wv⟩ we) :: (a.led w.params (1 + en) tl' [] pe' [] se' ++ (I, o) :: (c1, oc1) :: (120, tabObj (tabPs c1 a.c)) :: (lf, listOf ⟨fv⟩ fe) :: (ldr, listOf ⟨dv⟩ de) :: R)) ?_) (Upd.head nlpt) ?_ (by rw [sizeLine_eq]; have := hpv.length; simp at this ⊢; lia)
  · exact mem_move
  clear nlpt N5 F5
  rintro h6 F6 N6
  (k_steps; (all_goals (try k_data)))
  unfold HandC
  refine count_list_strs (News.isList N6 (.tail _ (.head _))) hwv ?_
  have hG : Spec.countIn (.str g) ((wsAt n g k).map PyData.str) = gapsF (wsAt n g k) g := rfl
  obtain ⟨gaps, hgp⟩ : ∃ gaps, gaps = gapsF (wsAt n g k) g := ⟨_, rfl⟩
  have TKg := TK.gaps
  have TKd := TK.deed
  have hlaid : laidF (n k) k (wsAt n g k) g = placedF (wsAt n g k) g (deedF (n k) gaps (4 - k)) (((n k).fdiv 4).fmod gaps) := by rw [hgp]; rfl
  have hdeed : deedAt n g k = deedF (n k) gaps (4 - k) := by rw [hgp]; rfl
  have hplace : placeAt n g k = ((n k).fdiv 4).fmod gaps := by rw [hgp]; rfl
  rw [hG, ← hgp]
  rw [← hgp] at TKg TKd
  clear hG
  obtain ⟨TKg0, TKg1⟩ := TKg
  obtain ⟨TKd0, TKd1⟩ := TKd
  (k_steps; (all_goals (try k_data)))
  unfold HandC
  rename Fr _ _ _ _ => F7
  rename News _ _ _ _ => N7
  refine Ct.useS (deed_c (n k) gaps (4 - k) _ _ _ _ hn0 (by lia) (by lia) (by lia) (by lia) (by lia)) B F7 X N7 T rfl (by (first | (show _ < _; decide) | exact room1 (k := 1) (by assumption) rfl | exact room2 (k := 3) (by assumption) rfl | exact room3 (by assumption) rfl | (simp only [recursionLimit, cLine] at *; lia))) (by (first | (show _ < _; decide) | exact room1 (k := 1) (by assumption) rfl | exact room2 (k := 3) (by assumption) rfl | exact room3 (by assumption) rfl | (simp only [recursionLimit, cLine] at *; lia))) ?_
  intro t8 h8 tk8 F8 N8
  clear F7 N7
  obtain ⟨deed, hdd⟩ : ∃ deed, deed = deedF (n k) gaps (4 - k) := ⟨_, rfl⟩
  rw [← hdd] at hlaid hdeed TKd0 TKd1 ⊢
  have hp0 : 0 ≤ ((n k).fdiv 4).fmod gaps := Int.fmod_nonneg_of_pos _ (by lia)
  have hp1 : ((n k).fdiv 4).fmod gaps < gaps := Int.fmod_lt_of_pos _ (by lia)
  (k_steps; (all_goals (try k_data)))
  unfold HandC
  rename Fr _ _ _ _ => F9
  rename News _ _ _ _ => N9
  have offl : ∀ p ∈ [(lw, listOf ⟨wv⟩ we)], ∀ q ∈ (lpt, listOf (Array.push ⟨pv⟩ (Value.str (patF (wsAt n g k) g k) t4)) (pve + 1)) :: (a.led w.params (1 + en) tl' [] pe' [] se' ++ (I, o) :: (c1, oc1) :: (120, tabObj (tabPs c1 a.c)) :: (lf, listOf ⟨fv⟩ fe) :: (ldr, listOf ⟨dv⟩ de) :: R), p.1 ≠ q.1 := by
    intro p hp
    rw [List.mem_singleton.mp hp]
    refine List.forall_mem_cons.mpr ⟨hwp, List.forall_mem_append.mpr ⟨fun q hq => Ne.symm (offAw _ (LX.mem hq)), fun q hq => ?_⟩⟩
    refine offw q ?_
    revert q
    exact mem_ins
  refine Ct.use (placed_c lw wv we (wsAt n g k) g deed (((n k).fdiv 4).fmod gaps) _ _ _ hwv (by have := TK.len; lia) ⟨TKd0, TKd1⟩ ⟨hp0, by lia⟩ offl) B F9 X (News.sub N9 mem_swap) T rfl (by (first | (show _ < _; decide) | exact room1 (k := 1) (by assumption) rfl | exact room2 (k := 3) (by assumption) rfl | exact room3 (by assumption) rfl | (simp only [recursionLimit, cLine] at *; lia))) (by (first | (show _ < _; decide) | exact room1 (k := 1) (by assumption) rfl | exact room2 (k := 3) (by assumption) rfl | exact room3 (by assumption) rfl | (simp only [recursionLimit, cLine] at *; lia))) ?_
  rintro _ _ h10 tk10 hIK F10 N10
  induction hIK with
  | mk ll lv le hlv offll =>
  rw [← hlaid] at hlv
  replace N10 : News h₀ L h10 ((ll, listOf ⟨lv⟩ le) :: (lpt, listOf (Array.push ⟨pv⟩ (Value.str (patF (wsAt n g k) g k) t4)) (pve + 1)) :: (a.led w.params (1 + en) tl' [] pe' [] se' ++ (I, o) :: (c1, oc1) :: (120, tabObj (tabPs c1 a.c)) :: (lf, listOf ⟨fv⟩ fe) :: (ldr, listOf ⟨dv⟩ de) :: R)) := News.sub N10 (sub_cons (.head _) fun q hq => .tail _ (.tail _ hq))
  clear F9 N9 offl
  have hll := hlv.length
  have hllz := TK.llen
  have hll0 := offll
  replace offll : ∀ q ∈ (lpt, listOf (Array.push ⟨pv⟩ (Value.str (patF (wsAt n g k) g k) t4)) (pve + 1)) :: (a.led w.params (1 + en) tl' [] pe' [] se' ++ (I, o) :: (c1, oc1) :: (120, tabObj (tabPs c1 a.c)) :: (lf, listOf ⟨fv⟩ fe) :: (ldr, listOf ⟨dv⟩ de) :: R), ll ≠ q.1 := fun q hq => offll q (.tail _ hq)
  clear hll0
  have hAR : ∀ b ∈ a.addrs, ∀ q ∈ (ll, listOf ⟨lv⟩ le) :: (lpt, listOf (Array.push ⟨pv⟩ (Value.str (patF (wsAt n g k) g k) t4)) (pve + 1)) :: (I, o) :: (c1, oc1) :: (120, tabObj (tabPs c1 a.c)) :: (lf, listOf ⟨fv⟩ fe) :: (ldr, listOf ⟨dv⟩ de) :: R, b ≠ q.1 := by
    intro b hb
    have hbl : b ≠ ll := by
      have e : a.addrs = (a.led w.params (1 + en) tl' [] pe' [] se').map (·.1) := rfl
      rw [e] at hb
      obtain ⟨q, hq, rfl⟩ := List.mem_map.mp hb
      exact Ne.symm (offll q (.tail _ (List.mem_append_left _ hq)))
    refine List.forall_mem_cons.mpr ⟨hbl, List.forall_mem_cons.mpr ⟨hap b hb, List.forall_mem_cons.mpr ⟨hIa b hb, fun q hq => offA b hb q ?_⟩⟩⟩
    revert q
    exact mem_ins4
  have hlI : ll ≠ I := offll (I, o) (.tail _ (List.mem_append_right _ (.head _)))
  generalize hPL : listOf (Array.push ⟨pv⟩ (Value.str (patF (wsAt n g k) g k) t4)) (pve + 1) = PL at N10 offll hAR
  generalize hRR : (I, o) :: (c1, oc1) :: (120, tabObj (tabPs c1 a.c)) :: (lf, listOf ⟨fv⟩ fe) :: (ldr, listOf ⟨dv⟩ de) :: R = RR at N10 offll hAR
  (k_steps; (all_goals (try k_data)))
  unfold HandC
  refine iter_up [("word" : Str)] (PushK a w.params (1 + en) tl' se' lv (ll, listOf ⟨lv⟩ le) (lpt, PL) RR) (by assumption) (by assumption) (.head _) ⟨_, _⟩ (fun I2 hI2 => ?_)
  have hAI : ∀ b ∈ a.addrs, @LT.lt Nat _ b I2 := fun b hb => by
    have e : a.addrs = (a.led w.params (1 + en) tl' [] pe' [] se').map (·.1) := rfl
    rw [e] at hb
    obtain ⟨q, hq, rfl⟩ := List.mem_map.mp hb
    exact hI2 q (.tail _ (.tail _ (List.mem_append_left _ hq)))
  have hlI2 : @LT.lt Nat _ ll I2 := hI2 (ll, listOf ⟨lv⟩ le) (.head _)
  have hpI2 : @LT.lt Nat _ lpt I2 := hI2 (lpt, PL) (.tail _ (.head _))
  have hRI2 : ∀ q ∈ RR, @LT.lt Nat _ q.1 I2 := fun q hq => hI2 q (.tail _ (.tail _ (List.mem_append_right _ hq)))
  clear hI2
  refine ⟨?_, ?_, ?_⟩
  · rintro i vals n' hIK
    induction hIK with
    | mk u pe2 =>
    refine ⟨.head _, List.forall_mem_cons.mpr ⟨Nat.ne_of_lt hlI2, List.forall_mem_cons.mpr ⟨Nat.ne_of_lt hpI2, List.forall_mem_append.mpr ⟨ledne fun b hb => Nat.ne_of_lt (hAI b hb), fun q hq => Nat.ne_of_lt (hRI2 q hq)⟩⟩⟩⟩
  · rintro i v vals n' o2 h11 tk11 hv hIK F11 N11
    induction hIK with
    | mk u pe2 =>
    intro qE
    have hi : i < lv.length := by
      have := (List.getElem?_eq_some_iff.mp (by simpa using hv : lv[i]? = some v)).elim fun h _ => h
      exact this
    obtain ⟨xw, tw, hxw, rfl⟩ := strs_get hlv (by simpa using hv)
    have htl : (lv.take i).length ≤ 10 := by rw [List.length_take]; lia
    have hlt : lv.take (i + 1) = lv.take i ++ [.str xw tw] := by rw [List.take_add_one, show lv[i]? = some (.str xw tw) by simpa using hv]; rfl
    (k_steps; (all_goals (try k_data)))
    unfold HandC
    rename Fr _ _ _ _ => F13
    rename News _ _ _ _ => N13
    refine Ct.use (push_c a ok (1 + en) tl' xw tw (lv.take i) pe2 [] se' (by lia) ((I2, o2) :: (ll, listOf ⟨lv⟩ le) :: (lpt, PL) :: RR) (fun b hb => List.forall_mem_cons.mpr ⟨Nat.ne_of_lt (hAI b hb), hAR b hb⟩)) B F13 X (News.sub N13 mem_back3) T rfl (by (first | (show _ < _; decide) | exact room1 (k := 1) (by assumption) rfl | exact room2 (k := 3) (by assumption) rfl | exact room3 (by assumption) rfl | (simp only [recursionLimit, cLine] at *; lia))) (by (first | (show _ < _; decide) | exact room1 (k := 1) (by assumption) rfl | exact room2 (k := 3) (by assumption) rfl | exact room3 (by assumption) rfl | (simp only [recursionLimit, cLine] at *; lia))) ?_
    rintro _ _ h14 tk14 ⟨pe3, rfl⟩ F14 N14
    rw [← hlt] at N14
    (k_steps; (all_goals (try k_data)))
    rename News _ _ _ _ => N15
    refine EndL.next (led := (I2, o2) :: (ll, listOf ⟨lv⟩ le) :: (lpt, PL) :: (a.led w.params (1 + en) tl' (lv.take (i + 1)) pe3 [] se' ++ RR)) (by assumption) (News.sub N15 mem_front3) sub_refl ⟨_, ⟨_, pe3⟩, by (refine up_off ?mua ?mub; (case mub => exact rfl); (case mua => walk_at "mine off"))⟩
  · rintro vals n' h12 tk12 hIK F12 N12
    induction hIK with
    | mk u pe2 =>
    rw [List.take_of_length_le (by simp)] at N12
    (k_steps; (all_goals (try k_data)))
    unfold HandC
    rename Fr _ _ _ _ => F13
    rename News _ _ _ _ => N13
    refine Ct.use (lread_c a ok (1 + en) tl' lv (laidF (n k) k (wsAt n g k) g) pe2 [] (laidF (n k) k (wsAt n g k) g) [] [] se' hlv (by lia) .nil (by decide) (fun _ h => nomatch h) (words_push _ fun y hy => len_pos_ne (TK.lwl y hy).1) (by lia) ((ll, listOf ⟨lv⟩ le) :: (lpt, PL) :: RR) hAR) B F13 X (News.sub N13 mem_back2) T rfl (by (first | (show _ < _; decide) | exact room1 (k := 1) (by assumption) rfl | exact room2 (k := 3) (by assumption) rfl | exact room3 (by assumption) rfl | (simp only [recursionLimit, cLine] at *; lia))) (by (first | (show _ < _; decide) | exact room1 (k := 1) (by assumption) rfl | exact room2 (k := 3) (by assumption) rfl | exact room3 (by assumption) rfl | (simp only [recursionLimit, cLine] at *; lia))) ?_
    rintro _ _ h14 tk14 hIK F14 N14
    induction hIK with
    | mk lw2 wv2 we2 line2 tl2 pe4 sgv2 se2 hwv2 hline2 hs2 offw2 offAw2 =>
    clear F13 N13
    have hz2 := hwv2.length
    (k_steps; (all_goals (try k_data)))
    unfold HandC
    rename News _ _ _ _ => N15
    refine ne_strsK (News.isList N15 (.head _)) (News.isList N15 (.tail _ (List.mem_append_right _ (.head _)))) hwv2 hlv (Nat.le_of_ble_eq_true rfl) TK.lok TK.lok ?_
    simp only [decide_true, Bool.not_true]
    (k_steps; (all_goals (try k_data)))
    unfold HandC
    obtain rfl : sgv2 = [] := by cases hs2; rfl
    have hfl := front_len n g k
    rename Fr _ _ _ _ => F16
    rename News _ _ _ _ => N16
    subst hRR
    have offll2 : ∀ q ∈ (lpt, PL) :: (a.led w.params line2 tl2 [] pe4 [] se2 ++ (I, o) :: (c1, oc1) :: (120, tabObj (tabPs c1 a.c)) :: (lf, listOf ⟨fv⟩ fe) :: (ldr, listOf ⟨dv⟩ de) :: R), ll ≠ q.1 :=
      List.forall_mem_cons.mpr ⟨offll (lpt, PL) (.head _), List.forall_mem_append.mpr ⟨fun q hq => Ne.symm (hAR _ (LX.mem hq) (ll, listOf ⟨lv⟩ le) (.head _)), fun q hq => offll q (.tail _ (List.mem_append_right _ hq))⟩⟩
    have hPL2 : PL = listOf ⟨pv ++ [Value.str (patF (wsAt n g k) g k) t4]⟩ (pve + 1) := by rw [← hPL, push_mk]
    subst hPL2
    replace N16 : News h₀ L h14 ((ll, listOf ⟨lv⟩ le) :: (lpt, listOf ⟨pv ++ [Value.str (patF (wsAt n g k) g k) t4]⟩ (pve + 1)) :: (a.led w.params line2 tl2 [] pe4 [] se2 ++ (I, o) :: (c1, oc1) :: (120, tabObj (tabPs c1 a.c)) :: (lf, listOf ⟨fv⟩ fe) :: (ldr, listOf ⟨dv⟩ de) :: R)) := News.sub N16 mem_b1
    obtain ⟨t9, u2, u3, u7, u8, u9, u10, F17⟩ : ∃ (t9 : Tok) (u2 u3 u7 u8 u9 u10 : Option Value), Fr h₀ L h14 (up (LN.zip [some (.int (k : Int) t), some (.ref ln), some (.str g tg), some (.ref ldz), some (.ref a.lx), some (.int en te), some (.str (frontAt n g k) tf), some (.ref lf), some (.ref ldr), some (.ref lpt), some (.int (n k) t1), u2, u3, some (.int (deedAt n g k) t8), some (.int (placeAt n g k) t9), some (.ref ll), u7, u8, u9, u10]) m) :=
      ⟨_, _, _, _, _, _, _, fr_cast F16 (by unfold LN; rw [hdeed, hplace]; (refine up_off ?mua ?mub; (case mub => exact rfl); (case mua => walk_at "mine off")))⟩
    with_unfolding_all refine turn1b (s := { s with heap := h, toks := _ }) B X T n hn g hg tg ln ldz lf ldr lpt c1 oc1 nv ne dv8 d8e hnv hdz f1 f2 f3 f4 f5 f6 k hk t TK a ok line2 tl2 pe4 se2 en te tf t1 t8 t9 fv dv (pv ++ [Value.str (patF (wsAt n g k) g k) t4]) fe de (pve + 1) R u2 u3 u7 u8 u9 u10 ll lv le hlv ⟨by lia, by lia⟩ hfv hfl ?gA hdl hdv hln hldz hAR offll2 ?gB offR ?gC F17 N16 _ eQ'
    case gA => rw [List.range_succ, List.map_append]; exact strs_append hpv (strs_one _ _)
    case gB => exact List.forall_mem_cons.mpr ⟨h120p, List.forall_mem_cons.mpr ⟨h120I, off120'⟩⟩
    case gC => exact List.forall_mem_cons.mpr ⟨Ne.symm hIp, offI'⟩
end
section
noncomputable def lawMid : List Stmt := lawB.drop 11
noncomputable def ownS : List Int := [1272, 6677, 7394, 1903, 5979]
noncomputable def numF (script : List Int) (k : Nat) : Int := (ownS.getD (0 + (k : Int)).toNat 0 + (pickNums script (some (0 + (k : Int))) none (some 5)).sum).fmod (10 ^ 6)
theorem quote_first {g : Str} (h : g.length = 1) : (quoteS (Str.ofString "\r\r\\" ++ g)).length ≤ 20 := by
  have h1 := dotS_len (crlfS (Str.ofString "\r\r\\" ++ g))
  have h2 := crlfS_len (Str.ofString "\r\r\\" ++ g)
  have h3 : (Str.ofString "\r\r\\" ++ g).length = 4 := by rw [Str.length_append, h]; rfl
  unfold quoteS
  lia
theorem mem_c1 {x y z u : Addr × Obj} {A : List (Addr × Obj)} : ∀ p ∈ x :: y :: z :: u :: A, p ∈ A ++ x :: y :: [z, u] := by
  intro p hp
  simp only [List.mem_cons, List.mem_append] at hp ⊢
  rcases hp with h | h | h | h | h <;> simp [h]
noncomputable def GapOK (g : Str) : Prop := ∃ j : Int, 0 ≤ j ∧ j < 8 ∧ g = Txt.item (Str.ofString "a \t\"\\#\x0b\xa0") j
theorem map_up : ∀ (ys : List Str) (vals : List (Option Value)) (m : Str → Option Value), ys.Nodup → vals.length = ys.length → ys.map (up (ys.zip vals) m) = vals
  | [], [], m, _, _ => rfl
  | y :: r, v :: t, m, hn, hl => by
    have h1 := List.nodup_cons.mp hn
    have ih := map_up r t m h1.2 (by simpa using hl)
    rw [List.zip_cons_cons, List.map_cons, up_hd]
    refine congrArg (v :: ·) (Eq.trans ?_ ih)
    apply List.map_congr_left
    intro z hz
    exact up_ne fun e => h1.1 (by rw [← e]; exact hz)
  | [], _ :: _, _, _, h => by simp at h
  | _ :: _, [], _, _, h => by simp at h
theorem map_LN (vals : List (Option Value)) (m : Str → Option Value) (h : vals.length = 20) : LN.map (up (LN.zip vals) m) = vals := map_up LN vals m (by decide +kernel) h
local macro_rules | `(tactic| walk_at "storeName") => `(tactic| (k_here; (with_reducible show wpAny _ _ (storeName _ _ (Value.str (Txt.item _ _) _)) _ _ _); k_dflt (refine handC ?_)))
theorem law_pro {w : World} {cd : Value} {fa L sl : Addr} {h₀ : Heap} {p : Program} {loose : List Str} {mean : ExcName → Option Value} {mg mb : Str → Option Value} {s : Shared} {Q : Flow → Shared → Prop} {m : Str → Option Value} {oA oB : Obj} {vs : List Value} {script : List Int}
    (B : Below callerA h₀ [] h₀) (X : (Mine.hd.heap_1 w.params).In h₀) (T : Top p loose mean mg mb h₀) (hl : h₀.IsList sl vs.toArray) (hi : IntsAre vs script) (h63 : script.length ≤ 63)
    (hA : oA.data = .cell none) (hB : oB.data = .cell (some (.ref sl))) (l0 : @LT.lt Nat _ 120 L)
    (F : Fr h₀ L s.heap m) (N : News h₀ L s.heap [(L + 1 + 1, oA), (L + 1, oB), (120, tabObj #[])])
    (PL : ∀ n : Nat → Int, (∀ k, 0 ≤ n k ∧ n k ≤ 999999) → ∀ g, GapOK g → (∀ k, k < 5 → TurnOK (n k) k g (wsAt n g k)) ∧ Words [] (signs (Str.ofString "\n" ++ quoteS (Str.ofString "\r\r\\" ++ g))) [g] [] ∧ cntNl (signs (Str.ofString "\n" ++ quoteS (Str.ofString "\r\r\\" ++ g))) = 3)
    (hmid : ∀ n g I tg ln ldz lf ldr lpt c1 oc1 nv ne dz vals news m h tk, (∀ k, 0 ≤ n k ∧ n k ≤ 999999) ∧ GapOK g ∧ g.length = 1 ∧ lf ≠ lpt ∧ ldr ≠ lpt → K1 w n g I tg ln ldz lf ldr lpt c1 oc1 nv ne dz 5 vals news → Fr h₀ L h (up (LN.zip vals) m) → News h₀ L h news →
      wpAny (model PySem.Challenge.rw_uc0007_01.row.prog w) (callerA.deeper (lawEnv cd fa L)) (execs (lawB.drop 11) (lawEnv cd fa L)) Q NoE { s with heap := h, toks := tk }) :
    wpAny (model PySem.Challenge.rw_uc0007_01.row.prog w) (callerA.deeper (lawEnv cd fa L)) (execs lawB (lawEnv cd fa L)) Q NoE s := by
  have mc := markC
  revert X
  k_fill
  intro X
  unfold lawEnv lawSc
  refine letX ?_
  intro M9 e9 A9
  with_unfolding_all refine wpAny_execs_cons (st := Stmt.Assign _ _ _) ?_
  (k_steps; (all_goals (try k_data)))
  unfold HandC
  k_dflt (refine LCg.Assign_ListComp_U (F₀ := by k_asm) (by rfl) (by with_unfolding_all rfl) (by with_unfolding_all rfl) (by decide) (by rfl) (by decide) (by rfl) (by rfl) (by rfl) ?_)
  (k_steps; (all_goals (try k_data)))
  rename_i lo hq1 l1q hq2 oC Fq Nq dC r t1 u1 v1 h1 tk1 F1 N1 l1
  refine LCg.CompSrc.range (n := 5) (by rfl) F1 N1 (N1 _ (.head _)).1 (by rfl) (by rfl) (by rw [sizeLine_eq]; lia) ?_
  intro g0
  refine restU_loop (fun i ys n' => n' = [(r, rngO 5 t1 u1 v1), (lo, _), (L + 1 + 1, oC), (L + 1, oB), (120, tabObj #[])] ∧ IntsAre ys ((List.range i).map (numF script))) ?_ ?_ _ _ _ _ (Nat.zero_add _) ⟨rfl, .nil⟩
  · rintro i ys news v I oI C oC' D m2 h tk E' hi5 ⟨rfl, hJ⟩ ⟨t, rfl⟩ hC hx F N off ne
    (k_steps; (all_goals (try k_data)))
    rename Fr _ _ _ _ => F2
    rename News _ _ _ _ => N2
    k_dflt (refine sumK (vs := (slicePick vs.toArray (some (0 + (i : Int))) none (some 5)).toList) rfl F2 N2 (News.isList N2 (.head _)) (IntsAre.pick hi _ _ _) ?_)
    intro h3 tk3 t3 F3 N3
    (k_steps; (all_goals (try k_data)))
    refine LCg.CompEnd.intro (by assumption) (by assumption) [(r, rngO 5 t1 u1 v1), (lo, _), (L + 1 + 1, oC), (L + 1, oB), (120, tabObj #[])] (by walk_at "mine sub") off trivial ⟨rfl, ?_⟩
    rw [List.range_succ, List.map_append]
    exact IntsAre.append hJ (.cons _ _ .nil)
  · rintro ys news ⟨rfl, hys⟩
    intro ln h5 tk5 F5 N5 off1
    replace N5 : News h₀ L h5 [(ln, listOf ⟨ys⟩ ys.length), (120, tabObj #[])] := fun q hq => N5 q (by revert q; walk_at "mine sub")
    have hfix := off1
    simp only [LCg.Off1, and_true] at off1
    have off120 : (120 : Addr) ≠ ln := off1.2.2.2.2
    clear off1 hfix
    have hx0 : 0 ≤ (((List.range 5).map (numF script)).sum).fmod 8 := Int.fmod_nonneg_of_pos _ (by lia)
    have hx1 : (((List.range 5).map (numF script)).sum).fmod 8 < 8 := Int.fmod_lt_of_pos _ (by lia)
    (k_steps; (all_goals (try k_data)))
    obtain ⟨g, hg⟩ : ∃ g, g = Txt.item (Str.ofString "a \t\"\\#\x0b\xa0") ((((List.range 5).map (numF script)).sum).fmod 8) := ⟨_, rfl⟩
    have hgl : g.length = 1 := by rw [hg]; assumption
    rw [← hg]
    unfold HandC
    dsimp only
    (k_steps; (all_goals (try k_data)))
    unfold HandC
    rename Fr _ _ _ _ => F7
    rename News _ _ _ _ => N7
    have hql : (Str.ofString "\r\r\\" ++ g).length = 4 := by rw [Str.length_append, hgl]; rfl
    refine Ct.useS (quote_c (Str.ofString "\r\r\\" ++ g) _ (by lia)) B F7 X N7 T rfl (by (first | (show _ < _; decide) | exact room1 (k := 1) (by assumption) rfl | exact room2 (k := 3) (by assumption) rfl | exact room3 (by assumption) rfl | (simp only [recursionLimit, cLine] at *; lia))) (by (first | (show _ < _; decide) | exact room1 (k := 1) (by assumption) rfl | exact room2 (k := 3) (by assumption) rfl | exact room3 (by assumption) rfl | (simp only [recursionLimit, cLine] at *; lia))) ?_
    intro t8 h8 tk8 F8 N8
    have hqs := quote_first hgl
    (k_steps; (all_goals (try k_data)))
    unfold HandC
    rename Fr _ _ _ _ => F9
    rename News _ _ _ _ => N9
    have hxl : (Str.ofString "\n" ++ quoteS (Str.ofString "\r\r\\" ++ g)).length ≤ 1000 := by
      have : (Str.ofString "\n").length = 1 := rfl
      rw [Str.length_append]; lia
    obtain ⟨x, hxe⟩ : ∃ x, x = Str.ofString "\n" ++ quoteS (Str.ofString "\r\r\\" ++ g) := ⟨_, rfl⟩
    rw [← hxe] at hxl ⊢
    rename_i ld _ l1d _ _ _ _ _ _ _ _
    obtain ⟨dv8, hdv8, hdz⟩ : ∃ dv8 : List Value, (∀ q ∈ [(ld, listOf ⟨dv8⟩ 0), (ln, listOf ⟨ys⟩ ys.length), ((120 : Addr), tabObj #[])], q ∈ _) ∧ StrsAre dv8 dressS := ⟨_, fun q hq => hq, .cons _ _ (.cons _ _ (.cons _ _ (.cons _ _ (.cons _ _ (.cons _ _ (.cons _ _ (.cons _ _ .nil)))))))⟩
    replace N9 := News.sub N9 hdv8
    obtain ⟨ld1, ld2, _⟩ := l1d
    refine Ct.use (lexer0_c (rest := [(ld, listOf ⟨dv8⟩ 0), (ln, listOf ⟨ys⟩ ys.length)]) x _ (by lia) ?_) B F9 X (News.sub N9 (by walk_at "mine sub")) T rfl (by (first | (show _ < _; decide) | exact room1 (k := 1) (by assumption) rfl | exact room2 (k := 3) (by assumption) rfl | exact room3 (by assumption) rfl | (simp only [recursionLimit, cLine] at *; lia))) (by (first | (show _ < _; decide) | exact room1 (k := 1) (by assumption) rfl | exact room2 (k := 3) (by assumption) rfl | exact room3 (by assumption) rfl | (simp only [recursionLimit, cLine] at *; lia))) ?_
    · intro p hp
      rw [List.mem_singleton.mp hp]
      exact List.forall_mem_cons.mpr ⟨Nat.ne_of_lt ld2, List.forall_mem_cons.mpr ⟨off120, List.forall_mem_nil _⟩⟩
    rintro _ _ h10 tk10 hIK F10 N10
    induction hIK with
    | mk a c1 oc1 tl sgv se ok hsg offA offc =>
    replace N10 : News h₀ L h10 ((c1, oc1) :: (120, tabObj (tabPs c1 a.c)) :: (ld, listOf ⟨dv8⟩ 0) :: (ln, listOf ⟨ys⟩ ys.length) :: a.led w.params 1 tl [] 0 sgv se) := News.sub N10 mem_c1
    clear F9 N9
    (k_steps; (all_goals (try k_data)))
    rename_i lf _ lf1 _ _ _ ldr _ ldr1 _ _ lpt _ lpt1 _ _ _ _ r2 ta tb tc _ _ _ _ r21 I _ F12 N12 I1
    obtain ⟨lf2, lf3, lf4, lf5, lf6⟩ := lf1
    obtain ⟨ldr2, ldr3, ldr4, ldr5, ldr6, ldr7⟩ := ldr1
    obtain ⟨lpt2, lpt3, lpt4, lpt5, lpt6, lpt7, lpt8⟩ := lpt1
    obtain ⟨r22, r23, r24, r25, r26, r27, r28, r29⟩ := r21
    obtain ⟨I2, I3, I4, I5, I6, I7, I8, I9, I10⟩ := I1
    have ledlt : ∀ d : Addr, AllLt d (a.led w.params 1 tl [] 0 sgv se) → ∀ b ∈ a.addrs, b ≠ d := fun d hd b hb => by
      have e : a.addrs = (a.led w.params 1 tl [] 0 sgv se).map (·.1) := rfl
      rw [e] at hb
      obtain ⟨q, hq, rfl⟩ := List.mem_map.mp hb
      exact Nat.ne_of_lt (allLt_out hd q hq)
    have hn : ∀ k, 0 ≤ numF script k ∧ numF script k ≤ 999999 := fun k => by
      unfold numF
      have h1 := Int.fmod_nonneg_of_pos (ownS.getD (0 + (k : Int)).toNat 0 + (pickNums script (some (0 + (k : Int))) none (some 5)).sum) (show (0 : Int) < 10 ^ 6 by decide)
      have h2 := Int.fmod_lt_of_pos (ownS.getD (0 + (k : Int)).toNat 0 + (pickNums script (some (0 + (k : Int))) none (some 5)).sum) (show (0 : Int) < 10 ^ 6 by decide)
      lia
    obtain ⟨hPT, hPW, hPN⟩ := PL (numF script) hn g ⟨_, hx0, hx1, hg⟩
    rw [← hxe] at hPW hPN
    obtain ⟨tg, te, tf, F13⟩ : ∃ (tg te tf : Tok), Fr h₀ L _ (up (LN.zip [m "k", some (.ref ln), some (.str g tg), some (.ref ld), some (.ref a.lx), some (.int 3 te), some (.str (Str.ofString "(") tf), some (.ref lf), some (.ref ldr), some (.ref lpt), m "number", m "words", m "gaps", m "deed", m "place", m "laid", m "word", m "text", m "due", m "sent"]) m) :=
      ⟨_, _, _, fr_cast F12 (by unfold LN; (refine up_off ?mua ?mub; (case mub => exact rfl); (case mua => walk_at "mine off")))⟩
    have hmap := map_LN [m "k", some (.ref ln), some (.str g tg), some (.ref ld), some (.ref a.lx), some (.int 3 te), some (.str (Str.ofString "(") tf), some (.ref lf), some (.ref ldr), some (.ref lpt), m "number", m "words", m "gaps", m "deed", m "place", m "laid", m "word", m "text", m "due", m "sent"] m rfl
    refine LoopC.range rfl LN (K1 w (numF script) g I tg ln ld lf ldr lpt c1 oc1 ys ys.length (listOf ⟨dv8⟩ 0)) 5 F13 (News.sub N12 (l' := (I, _) :: (c1, oc1) :: (120, tabObj (tabPs c1 a.c)) :: (lf, listOf ⟨[]⟩ 0) :: (ldr, listOf ⟨[]⟩ 0) :: (lpt, listOf ⟨[]⟩ 0) :: ([(r2, rngO 5 ta tb tc), (ld, listOf ⟨dv8⟩ 0), (ln, listOf ⟨ys⟩ ys.length)] ++ a.led w.params 1 tl [] 0 sgv se)) (by walk_at "mine sub")) ?k0 ?hK ?step ?done
    case k0 =>
      rw [hmap]
      refine ⟨a, tl, 0, sgv, se, x, 3, _, _, [], [], [], 0, 0, 0, [(r2, rngO 5 ta tb tc), (ld, listOf ⟨dv8⟩ 0), (ln, listOf ⟨ys⟩ ys.length)], _, _, _, _, _, _, _, _, _, _, _, ok, hsg, hxl, hPW, hPN.symm, by decide, by decide, .nil, .nil, rfl, fun i hi => absurd hi (Nat.not_lt_zero i), .tail _ (.tail _ (.head _)), .tail _ (.head _), ?_, ?_, ?_, ?_⟩
      · intro b hb
        refine List.forall_mem_cons.mpr ⟨offA b hb _ (.head _), List.forall_mem_cons.mpr ⟨offA b hb _ (.tail _ (.head _)), List.forall_mem_cons.mpr ⟨ledlt _ lf6 b hb, List.forall_mem_cons.mpr ⟨ledlt _ ldr7 b hb, List.forall_mem_cons.mpr ⟨ledlt _ lpt8 b hb, List.forall_mem_cons.mpr ⟨ledlt _ r29 b hb, fun q hq => offA b hb q (.tail _ (.tail _ hq))⟩⟩⟩⟩⟩⟩
      · refine List.forall_mem_cons.mpr ⟨Ne.symm (offc (120, tabObj (tabPs c1 a.c)) (.head _)), List.forall_mem_cons.mpr ⟨Nat.ne_of_lt lf3, List.forall_mem_cons.mpr ⟨Nat.ne_of_lt ldr4, List.forall_mem_cons.mpr ⟨Nat.ne_of_lt lpt5, List.forall_mem_cons.mpr ⟨Nat.ne_of_lt r26, List.forall_mem_cons.mpr ⟨Nat.ne_of_lt ld2, List.forall_mem_cons.mpr ⟨off120, List.forall_mem_nil _⟩⟩⟩⟩⟩⟩⟩
      · exact List.forall_mem_cons.mpr ⟨⟨Nat.ne_of_gt r24, Nat.ne_of_gt r23, Nat.ne_of_gt r22⟩, List.forall_mem_cons.mpr ⟨⟨Nat.ne_of_lt lf4, Nat.ne_of_lt ldr5, Nat.ne_of_lt lpt6⟩, List.forall_mem_cons.mpr ⟨⟨Nat.ne_of_lt lf5, Nat.ne_of_lt ldr6, Nat.ne_of_lt lpt7⟩, List.forall_mem_nil _⟩⟩⟩
      · exact List.forall_mem_cons.mpr ⟨Nat.ne_of_lt I6, List.forall_mem_cons.mpr ⟨Nat.ne_of_lt I7, List.forall_mem_cons.mpr ⟨Nat.ne_of_lt I5, List.forall_mem_cons.mpr ⟨Nat.ne_of_lt I4, List.forall_mem_cons.mpr ⟨Nat.ne_of_lt I3, List.forall_mem_append.mpr ⟨List.forall_mem_cons.mpr ⟨Nat.ne_of_lt I2, List.forall_mem_cons.mpr ⟨Nat.ne_of_lt I8, List.forall_mem_cons.mpr ⟨Nat.ne_of_lt I9, List.forall_mem_nil _⟩⟩⟩, ledne (ledlt _ I10)⟩⟩⟩⟩⟩⟩
    case hK =>
      rintro i vals n' hK
      cases hK with | mk _ _ _ _ _ _ _ _ _ _ _ _ _ _ _ _ _ _ _ _ _ _ _ _ _ _ _ _ _ _ _ _ _ _ _ _ _ _ _ _ _ _ _ h
      exact h
    case step =>
      intro i vals news₁ o h tk t hi5 hk F N qE
      with_unfolding_all exact turn1 B X T (numF script) hn g hgl tg ln ld lf ldr lpt c1 oc1 ys ys.length dv8 0 hys hdz (Nat.ne_of_lt ldr2) (Nat.ne_of_lt lpt3) (Nat.ne_of_lt lpt2) (Nat.ne_of_lt lf2) (Nat.ne_of_lt ldr3) (Nat.ne_of_lt lpt4) i hi5 t (hPT i hi5) vals news₁ hk F N _ rfl
    case done =>
      intro vals news' h' tk hk F N
      dsimp only
      with_unfolding_all exact hmid (numF script) g I tg ln ld lf ldr lpt c1 oc1 ys ys.length (listOf ⟨dv8⟩ 0) vals news' _ h' tk ⟨hn, ⟨_, hx0, hx1, hg⟩, hgl, Nat.ne_of_lt lpt3, Nat.ne_of_lt lpt2⟩ hk F N
end
section
section
variable {prog : Program} {w : World} {A : Around} {s : Shared} {env : Env} {h₀ : Heap}
inductive EndRN (h₀ : Heap) (L : Addr) (pre : List (Addr × Obj)) (J : (Str → Option Value) → List (Addr × Obj) → Prop) (s₁ : Shared) : Shared → Prop
  | mk (h' : Heap) (tk : Nat) (G' : Array GenState) (m' : Str → Option Value) (news' : List (Addr × Obj)) (hG : AllBare G') (F : Fr h₀ L h' m') (N : News h₀ L h' (pre ++ news')) (j : J m' news') : EndRN h₀ L pre J s₁ { s₁ with heap := h', toks := tk, gens := G' }
noncomputable def EndR (h₀ : Heap) (L : Addr) (I : Addr) (o : Obj) (J : (Str → Option Value) → List (Addr × Obj) → Prop) (s₁ : Shared) (Q : Flow → Shared → Prop) (f : Flow) (s' : Shared) : Prop :=
  match f with
  | .ret v => Q (.ret v) s'
  | .brk => Q .next s'
  | _ => EndRN h₀ L [(I, o)] J s₁ s'
theorem EndR.next {h₀ : Heap} {L I : Addr} {o : Obj} {J : (Str → Option Value) → List (Addr × Obj) → Prop} {s₁ : Shared} {Q : Flow → Shared → Prop} {h' : Heap} {tk : Nat} {G' : Array GenState} {m' : Str → Option Value} {news' led : List (Addr × Obj)}
    (hG : AllBare G') (F : Fr h₀ L h' m') (N : News h₀ L h' led) (sub : ∀ p ∈ (I, o) :: news', p ∈ led) (j : J m' news') : EndR h₀ L I o J s₁ Q .next { s₁ with heap := h', toks := tk, gens := G' } :=
  EndRN.mk h' tk G' m' news' hG F (fun p hp => N p (sub p hp)) j
inductive LoopR (prog : Program) (w : World) (A : Around) (h₀ : Heap) (env : Env) (x : Str) (body : List Stmt) (Q : Flow → Shared → Prop) : Value → Shared → Prop
  | mk (I : Addr) (n : Nat) (m : Str → Option Value) (news : List (Addr × Obj)) (s₂ : Shared) (J : Nat → (Str → Option Value) → List (Addr × Obj) → Prop)
    (hB : AllBare s₂.gens) (F : Fr h₀ env.locals s₂.heap m) (N : News h₀ env.locals s₂.heap ((I, ritO 0 n) :: news)) (h0 : J 0 m news) (hJ : ∀ i m news, J i m news → ∀ p ∈ news, p.1 ≠ I)
    (step : ∀ i m₁ news₁ o h tk t G', i < n → J i m₁ news₁ → AllBare G' → Fr h₀ env.locals h (fun y => if y = x then some (.int (i : Int) t) else m₁ y) → News h₀ env.locals h ((I, o) :: news₁) →
      wpAny (model prog w) A (execs body env) (EndR h₀ env.locals I o (J (i + 1)) { s₂ with heap := h, toks := tk, gens := G' } Q) NoE { s₂ with heap := h, toks := tk, gens := G' })
    (done : ∀ m' news' h' tk G', J n m' news' → AllBare G' → Fr h₀ env.locals h' m' → News h₀ env.locals h' news' → Q .next { s₂ with heap := h', toks := tk, gens := G' }) : LoopR prog w A h₀ env x body Q (.ref I) s₂
inductive ForRI (h₀ : Heap) (L I : Addr) (n : Nat) (J : Nat → (Str → Option Value) → List (Addr × Obj) → Prop) (s₂ : Shared) : Nat → Shared → Prop
  | mk (i : Nat) (hi : i ≤ n) (s' : Shared) (h : EndRN h₀ L [(I, ritO (i : Int) ((n - i : Nat) : Int))] (J i) s₂ s') : ForRI h₀ L I n J s₂ (n + 1 - i) s'
theorem forRI_next {L I : Addr} {n i : Nat} {J : Nat → (Str → Option Value) → List (Addr × Obj) → Prop} {s₁ s₂ s₃ : Shared} (hlt : i < n) (h : EndRN h₀ L [(I, ritO ((i + 1 : Nat) : Int) ((n - (i + 1) : Nat) : Int))] (J (i + 1)) s₁ s₃) (e : ∀ h tk G, { s₁ with heap := h, toks := tk, gens := G } = { s₂ with heap := h, toks := tk, gens := G }) : ∃ j, j < n + 1 - i ∧ ForRI h₀ L I n J s₂ j s₃ := by
  induction h with
  | mk h₄ tk₄ G₄ m₄ news₄ B₄ F₄ N₄ j₄ => rw [e]; exact ⟨_, by lia, .mk (i + 1) hlt _ (.mk h₄ tk₄ G₄ m₄ news₄ B₄ F₄ N₄ j₄)⟩
theorem for_R {x : Str} {px pos : Pos} {iter : Expr} {body : List Stmt} {Q : Flow → Shared → Prop} {L : Addr} {h : Heap} {m : Str → Option Value} (_ : Fr h₀ L h m) (hA : A.handled = none) (hx : env.kindOf x = some .local)
    (hp : (env.scope.kind == .class || (env.scope.kind == .module && env.locals != env.globals)) = false)
    (h : wpAny (model prog w) A (eval iter env) (fun xv s₁ => wpAny (model prog w) A (pyIter xv) (fun it s₂ => LoopR prog w A h₀ env x body Q it s₂) NoE s₁) NoE s)
    (hs : ∀ x, foldedSetIterable iter env x = pure x := by intro _; rfl) :
    wpAny (model prog w) A (exec (.For (.Name x px) iter body [] pos) env) Q NoE s := by
  refine wpAny_For (wpAny_mono h (fun xv s₁ h₁ => noE (wpAny_mono h₁ (fun it s₂ h₂ => ?_) fun _ _ e => e)) fun _ _ e => e) hs
  induction h₂ with
  | mk I n m news s₂ J hB F N h0 hJ step done =>
  refine codeAny_forLoop (ForRI h₀ env.locals I n J s₂) ?_ (n + 1) (.mk 0 (Nat.zero_le _) _ (.mk s₂.heap s₂.toks s₂.gens m news hB F N h0))
  intro k s' hI
  induction hI with
  | mk i hi s' hE =>
  induction hE with
  | mk h' tk G' m' news' hB' F' N' hj =>
  have hne := hJ i m' news' hj
  have hit := N' _ (List.mem_cons_self ..)
  by_cases hlt : i < n
  · refine wpAny_pyNext_range_item (it := I) (x := (i : Int)) (left := ((n - i : Nat) : Int)) (step := 1) hit.1 (by lia) fun h₁ hit' hs₁ => ?_
    have e2 : (((n - i : Nat) : Int) - 1) = ((n - (i + 1) : Nat) : Int) := by lia
    rw [e2] at hit'
    have N₁ : News h₀ env.locals h₁ ((I, ritO ((i + 1 : Nat) : Int) ((n - (i + 1) : Nat) : Int)) :: news') := news_set (pre := []) N' (fun _ h => nomatch h) hne hs₁ hit'
    refine wpAny_assign_Name (wpAny_storeName_local hx (F'.change hs₁ hit.2.1 hit.2.2).ns (fun h₂ hn₂ hs₂ => ?_) hp)
    refine noE (wpAny_mono (step i m' news' _ h₂ _ _ G' hlt hj hB' ((F'.change hs₁ hit.2.1 hit.2.2).set hn₂ hs₂) (N₁.set hs₂)) (fun f s₃ h₃ => ?_) fun _ _ e => e)
    cases f with
    | ret v => exact h₃
    | brk => exact h₃
    | cont => change EndRN _ _ _ _ _ _ at h₃; exact forRI_next hlt h₃ (fun _ _ _ => rfl)
    | next => change EndRN _ _ _ _ _ _ at h₃; exact forRI_next hlt h₃ (fun _ _ _ => rfl)
  · have hin : i = n := Nat.le_antisymm hi (Nat.le_of_not_lt hlt)
    subst hin
    refine wpAny_pyNext_range_end (it := I) (x := (i : Int)) (left := ((i - i : Nat) : Int)) (step := 1) hA hit.1 (by lia) fun h₁ hk₁ => wpAny_execs_nil ?_
    exact done m' news' h₁ _ G' hj hB' ⟨F'.ns.at' fun o e => hk₁ _ o (Ne.symm hit.2.1) e, fun b o e => hk₁ b o (fun q => by rw [q, hit.2.2] at e; cases e) (F'.keep b o e), F'.above⟩ fun p hp => ⟨hk₁ _ _ (hne p hp) (N' _ (List.mem_cons_of_mem _ hp)).1, (N' _ (List.mem_cons_of_mem _ hp)).2⟩
theorem LoopR.range {x : Str} {body : List Stmt} {Q : Flow → Shared → Prop} {I : Addr} {m : Str → Option Value} {news : List (Addr × Obj)} (ys : List Str) (K : Nat → List (Option Value) → List (Addr × Obj) → Prop) (n : Nat) (hB : AllBare s.gens)
    (F : Fr h₀ env.locals s.heap m) (N : News h₀ env.locals s.heap ((I, ritO 0 n) :: news)) (k0 : K 0 (ys.map m) news)
    (hK : ∀ i vals news, K i vals news → ∀ p ∈ news, p.1 ≠ I)
    (step : ∀ i vals news₁ o h tk t G', i < n → K i vals news₁ → AllBare G' → Fr h₀ env.locals h (fun y => if y = x then some (.int (i : Int) t) else up (ys.zip vals) m y) → News h₀ env.locals h ((I, o) :: news₁) →
      let q := EndR h₀ env.locals I o (UpJ ys m (K (i + 1))) { s with heap := h, toks := tk, gens := G' } Q
      wpAny (model prog w) A (execs body env) q NoE { s with heap := h, toks := tk, gens := G' })
    (done : ∀ vals news' h' tk G', K n vals news' → AllBare G' → Fr h₀ env.locals h' (up (ys.zip vals) m) → News h₀ env.locals h' news' → Q .next { s with heap := h', toks := tk, gens := G' }) :
    LoopR prog w A h₀ env x body Q (.ref I) s := by
  refine .mk I n m news s (fun i => UpJ ys m (K i)) hB F N ⟨_, k0, (up_self m ys).symm⟩ ?_ ?_ ?_
  · intro i m' n' h
    cases h with | mk vals hk e => exact hK i vals n' hk
  · intro i m' n' o h tk t G' hi hj hG F1 N1
    cases hj with | mk vals hk e => subst e; exact step i vals n' o h tk t G' hi hk hG F1 N1
  · intro m' n' h' tk G' hj hG F1 N1
    cases hj with | mk vals hk e => subst e; exact done vals n' h' tk G' hk hG F1 N1
end
end
section
theorem idx_nat {n a b : Nat} (h : a ≤ b) (hb : b ≤ n) : Builtin.Str.strSliceIndices (some (a : Int)) (some (b : Int)) 1 n = (List.range (b - a)).map (· + a) := by
  have e1 : max (0 : Int) (min (a : Int) (n : Int)) = a := by lia
  have e2 : max (0 : Int) (min (b : Int) (n : Int)) = b := by lia
  unfold Builtin.Str.strSliceIndices
  simp only [show (1 : Int) > 0 by decide, if_true, show ¬ ((a : Int) < 0) by lia, show ¬ ((b : Int) < 0) by lia, if_false, e1, e2]
  unfold sliceRange
  simp only [show (1 : Int) > 0 by decide, if_true, Int.ediv_one]
  have e3 : (if (a : Int) < b then (b : Int) - a + 1 - 1 else 0).toNat = b - a := by split <;> lia
  rw [e3]
  refine List.map_congr_left fun k _ => ?_
  lia
theorem idx_end {n a : Nat} (h : a ≤ n) : Builtin.Str.strSliceIndices (some (a : Int)) none 1 n = (List.range (n - a)).map (· + a) := by
  rw [← idx_nat h (Nat.le_refl n)]
  unfold Builtin.Str.strSliceIndices
  simp only [show (1 : Int) > 0 by decide, if_true, show ¬ ((n : Int) < 0) by lia, if_false, show max (0 : Int) (min (n : Int) (n : Int)) = n by lia]
theorem filt_range (X : List Nat) : ∀ (k a : Nat), a + k ≤ X.length → ((List.range k).map (· + a)).filterMap (X[·]?) = (X.drop a).take k
  | 0, a, _ => by simp
  | k + 1, a, h => by
    rw [List.range_succ, List.map_append, List.filterMap_append, filt_range X k a (by lia), List.take_add_one, List.getElem?_drop, Nat.add_comm a k]
    simp [List.getElem?_eq_getElem (show k + a < X.length by lia)]
theorem slice_of {x : Str} {l u : Option Int} {a b : Nat} (h : a ≤ b) (hb : b ≤ x.length) (e : Builtin.Str.strSliceIndices l u 1 x.length = (List.range (b - a)).map (· + a)) : (Txt.slice x l u).cps.toList = (x.cps.toList.drop a).take (b - a) := by
  have hl : x.cps.toList.length = x.length := by simp [Str.length]
  unfold Txt.slice
  rw [e]
  split
  · rename_i hc
    simp only [beq_self_eq_true, Bool.true_and, List.length_map, List.length_range, beq_iff_eq] at hc
    have ha : a = 0 := by lia
    subst ha
    rw [List.drop_zero, List.take_of_length_le (by lia)]
  · have := filt_range x.cps.toList (b - a) a (by lia)
    simpa using this
theorem slice_nat {x : Str} {a b : Nat} (h : a ≤ b) (hb : b ≤ x.length) : (Txt.slice x (some (a : Int)) (some (b : Int))).cps.toList = (x.cps.toList.drop a).take (b - a) := slice_of h hb (idx_nat h hb)
theorem slice_end {x : Str} {a : Nat} (h : a ≤ x.length) : (Txt.slice x (some (a : Int)) none).cps.toList = x.cps.toList.drop a := by
  rw [slice_of h (Nat.le_refl _) (idx_end h), List.take_of_length_le (by rw [List.length_drop]; simp [Str.length])]
-- what is left of a text once its quoted parts are struck
noncomputable def sm : Nat → List Nat → List Nat → List Nat
  | _, pd, [] => pd.reverse
  | 0, _, c :: r => if c = 92 then 92 :: sm 1 [] r else if c = 34 then sm 2 [34] r else c :: sm 0 [] r
  | 1, _, c :: r => c :: sm 0 [] r
  | 2, pd, c :: r => if c = 34 then sm 0 [] r else if c = 92 then sm 3 (92 :: pd) r else sm 2 (c :: pd) r
  | _, pd, c :: r => sm 2 (c :: pd) r
noncomputable def catS (ys : List Str) : List Nat := (ys.map fun y => y.cps.toList).flatten
theorem catS_append (a b : List Str) : catS (a ++ b) = catS a ++ catS b := by simp [catS]
theorem join_nil : ∀ ys : List Str, (Txt.join "" ys).cps.toList = catS ys := by
  intro ys
  show (Builtin.Str.glued "" ys).cps.toList = _
  rw [StrLaws.glued_eq_join]
  have key : ∀ ys : List Str, (Str.join ⟨#[]⟩ ys).cps.toList = catS ys := by
    intro ys
    match ys with
    | [] => rfl
    | [x] => simp [Str.join, catS]
    | x :: y :: r => exact join_cat (x :: y :: r)
  exact key ys
-- the text that the strip's end makes
noncomputable def endS (x : Str) (st : Int × Option Int × List Str) : List Nat := catS (if st.1 < x.length then st.2.2 ++ [Txt.slice x (some st.1) none] else st.2.2)
theorem sub_take {X : List Nat} {a i c : Nat} {r : List Nat} (h : a ≤ i) (hd : X.drop i = c :: r) : (X.drop a).take (i + 1 - a) = (X.drop a).take (i - a) ++ [c] := by
  have h0 : X[i]? = some c := by
    have := congrArg (·[0]?) hd
    simpa using this
  rw [show i + 1 - a = (i - a) + 1 by lia, List.take_add_one, List.getElem?_drop, show a + (i - a) = i by lia, h0]
  rfl
theorem one_ne {c : Nat} (h : c ≠ 34) : ((⟨#[c]⟩ : Str) == "\"") = false := by
  apply beq_false_of_ne
  intro e
  have := congrArg (fun z : Str => z.cps.toList) e
  simp at this
  exact h (by have h2 : (Str.ofString "\"").cps.toList = [34] := by decide
              rw [h2] at this; simpa using this)
theorem two_ne {c : Nat} : ((("\\" : Str) ++ ⟨#[c]⟩) == "\"") = false := by
  apply beq_false_of_ne
  intro e
  have := congrArg (fun z : Str => z.length) e
  rw [Str.length_append] at this
  have h1 : (Str.ofString "\\").length = 1 := by decide
  have h2 : (Str.ofString "\"").length = 1 := by decide
  simp only [h1, h2] at this
  change 1 + 1 = 1 at this
  lia
theorem esc_eq {c : Nat} : ((⟨#[c]⟩ : Str) == "\\") = (c == 92) := by
  by_cases h : c = 92
  · subst h; decide
  · rw [beq_false_of_ne h]
    apply beq_false_of_ne
    intro e
    have := congrArg (fun z : Str => z.cps.toList) e
    simp at this
    have h2 : (Str.ofString "\\").cps.toList = [92] := by decide
    rw [h2] at this
    exact h (by simpa using this)
theorem strip_go (x : Str) : ∀ (cs : List Nat) (i : Nat) (esc : Bool) (p : Int) (a : Nat) (op : Option Nat) (ps : List Str), x.cps.toList.drop i = cs → i ≤ x.length → (match op with | none => a ≤ i | some o => a ≤ o ∧ o ≤ i) →
    endS x ((escF cs esc i p).foldl (stripStep x) ((a : Int), op.map (fun o => (o : Int)), ps)) = catS ps ++ (match op with
      | none => (x.cps.toList.drop a).take (i - a) ++ sm (if esc then 1 else 0) [] cs
      | some o => (x.cps.toList.drop a).take (o - a) ++ sm (if esc then 3 else 2) ((x.cps.toList.drop o).take (i - o)).reverse cs) := by
  have hl : x.cps.toList.length = x.length := by simp [Str.length]
  intro cs
  induction cs with
  | nil =>
    intro i esc p a op ps hd hi hop
    have hil : i = x.length := by
      have := congrArg List.length hd
      simp at this
      have hsz : x.cps.size = x.length := rfl
      lia
    have hfold : (escF [] esc i p).foldl (stripStep x) ((a : Int), op.map (fun o => (o : Int)), ps) = ((a : Int), op.map (fun o => (o : Int)), ps) := by
      unfold escF
      split
      · simp only [List.foldl_cons, List.foldl_nil]
        unfold stripStep
        rw [if_neg (by show ¬ ((Str.ofString "\\" == Str.ofString "\"") = true); decide)]
      · rfl
    rw [hfold]
    have hend : ∀ a : Nat, a ≤ x.length → endS x ((a : Int), op.map (fun o => (o : Int)), ps) = catS ps ++ x.cps.toList.drop a := by
      intro a ha
      unfold endS
      dsimp only
      by_cases h : (a : Int) < x.length
      · rw [if_pos h, catS_append]
        congr 1
        simp [catS, slice_end ha]
      · rw [if_neg h, List.drop_of_length_le (by lia), List.append_nil]
    cases op with
    | none =>
      dsimp only at hop ⊢
      rw [hend a (by lia)]
      have e : ∀ md, sm md [] [] = [] := fun md => by unfold sm; rfl
      rw [e, List.append_nil, List.take_of_length_le (by rw [List.length_drop]; lia)]
    | some o =>
      dsimp only at hop ⊢
      rw [hend a (by lia)]
      have e : ∀ md pd, sm md pd [] = pd.reverse := fun md pd => by unfold sm; rfl
      rw [e, List.reverse_reverse, List.take_of_length_le (l := x.cps.toList.drop o) (by rw [List.length_drop]; lia)]
      congr 1
      have h1 := List.take_append_drop (o - a) (x.cps.toList.drop a)
      rw [List.drop_drop, show a + (o - a) = o by lia] at h1
      exact h1.symm
  | cons c r ih =>
    intro i esc p a op ps hd hi hop
    have hi1 : i + 1 ≤ x.length := by
      have := congrArg List.length hd
      simp at this
      have hsz : x.cps.size = x.length := rfl
      lia
    have hd' : x.cps.toList.drop (i + 1) = r := by
      rw [← List.drop_drop, hd]; rfl
    cases esc with
    | true =>
      rw [escF, if_pos rfl, List.foldl_cons]
      have hs : stripStep x ((a : Int), op.map (fun o => (o : Int)), ps) ((i : Int), ("\\" : Str) ++ ⟨#[c]⟩) = ((a : Int), op.map (fun o => (o : Int)), ps) := by
        unfold stripStep; rw [if_neg (by rw [two_ne]; decide)]
      rw [hs]
      cases op with
      | none =>
        dsimp only at hop
        have := ih (i + 1) false i a none ps hd' hi1 (by show a ≤ i + 1; lia)
        dsimp only [Option.map] at this ⊢
        rw [this, sub_take hop hd]
        simp [sm]
      | some o =>
        dsimp only at hop
        have := ih (i + 1) false i a (some o) ps hd' hi1 (by show a ≤ o ∧ o ≤ i + 1; lia)
        dsimp only [Option.map] at this ⊢
        rw [this, sub_take hop.2 hd]
        simp [sm]
    | false =>
      rw [escF, if_neg (by decide), esc_eq]
      by_cases h92 : c = 92
      · subst h92
        rw [if_pos (by decide)]
        cases op with
        | none =>
          dsimp only at hop
          have := ih (i + 1) true i a none ps hd' hi1 (by show a ≤ i + 1; lia)
          dsimp only [Option.map] at this ⊢
          rw [this, sub_take hop hd]
          simp [sm]
        | some o =>
          dsimp only at hop
          have := ih (i + 1) true i a (some o) ps hd' hi1 (by show a ≤ o ∧ o ≤ i + 1; lia)
          dsimp only [Option.map] at this ⊢
          rw [this, sub_take hop.2 hd]
          simp [sm]
      · rw [if_neg (by simpa using h92), List.foldl_cons]
        by_cases h34 : c = 34
        · subst h34
          cases op with
          | none =>
            dsimp only at hop
            have hs : stripStep x ((a : Int), (none : Option Nat).map (fun o => (o : Int)), ps) ((i : Int), ⟨#[34]⟩) = ((a : Int), (some i : Option Nat).map (fun o => (o : Int)), ps) := by
              unfold stripStep; rw [if_pos (by show ((⟨#[34]⟩ : Str) == "\"") = true; decide)]; rfl
            rw [hs]
            have := ih (i + 1) false i a (some i) ps hd' hi1 (by show a ≤ i ∧ i ≤ i + 1; lia)
            dsimp only at this ⊢
            rw [this, show i + 1 - i = 1 by lia, hd]
            simp [sm]
          | some o =>
            dsimp only at hop
            have hs : stripStep x ((a : Int), (some o : Option Nat).map (fun o => (o : Int)), ps) ((i : Int), ⟨#[34]⟩) = (((i + 1 : Nat) : Int), (none : Option Nat).map (fun o => (o : Int)), if (a : Int) ≠ (o : Int) then ps ++ [Txt.slice x (some (a : Int)) (some (o : Int))] else ps) := by
              unfold stripStep; rw [if_pos (by show ((⟨#[34]⟩ : Str) == "\"") = true; decide)]; rfl
            rw [hs]
            have := ih (i + 1) false i (i + 1) none (if (a : Int) ≠ (o : Int) then ps ++ [Txt.slice x (some (a : Int)) (some (o : Int))] else ps) hd' hi1 (Nat.le_refl _)
            dsimp only at this ⊢
            rw [this, Nat.sub_self, List.take_zero, List.nil_append]
            have hcat : catS (if (a : Int) ≠ (o : Int) then ps ++ [Txt.slice x (some (a : Int)) (some (o : Int))] else ps) = catS ps ++ (x.cps.toList.drop a).take (o - a) := by
              by_cases e : a = o
              · subst e; simp
              · rw [if_pos (by lia), catS_append]
                simp [catS, slice_nat hop.1 (show o ≤ x.length by lia)]
            rw [hcat, List.append_assoc]
            simp [sm]
        · have hs : stripStep x ((a : Int), op.map (fun o => (o : Int)), ps) ((i : Int), ⟨#[c]⟩) = ((a : Int), op.map (fun o => (o : Int)), ps) := by
            unfold stripStep; rw [if_neg (by rw [one_ne h34]; decide)]
          rw [hs]
          cases op with
          | none =>
            dsimp only at hop
            have := ih (i + 1) false i a none ps hd' hi1 (by show a ≤ i + 1; lia)
            dsimp only [Option.map] at this ⊢
            rw [this, sub_take hop hd]
            simp [sm, h92, h34]
          | some o =>
            dsimp only at hop
            have := ih (i + 1) false i a (some o) ps hd' hi1 (by show a ≤ o ∧ o ≤ i + 1; lia)
            dsimp only [Option.map] at this ⊢
            rw [this, sub_take hop.2 hd]
            simp [sm, h92, h34]
theorem sm_id : ∀ (l : List Nat), 34 ∉ l → sm 0 [] l = l ∧ sm 1 [] l = l
  | [], _ => by simp [sm]
  | c :: r, h => by
    have h1 : c ≠ 34 := fun e => h (by rw [e]; exact .head _)
    obtain ⟨i1, i2⟩ := sm_id r fun hm => h (.tail _ hm)
    by_cases e : c = 92
    · subst e; simp [sm, i1, i2]
    · simp [sm, e, h1, i1]
theorem strip_eq (x : Str) : (stripF x).cps.toList = sm 0 [] x.cps.toList := by
  unfold stripF
  split
  · have h := strip_go x x.cps.toList 0 false 0 0 none [] rfl (Nat.zero_le _) (Nat.le_refl _)
    rw [join_nil]
    have e : endS x (stripAll x) = catS (if (stripAll x).1 < x.length then (stripAll x).2.2 ++ [Txt.slice x (some (stripAll x).1) none] else (stripAll x).2.2) := rfl
    rw [← e]
    have h2 : endS x (stripAll x) = _ := h
    rw [h2]
    simp [catS]
  · rename_i hn
    refine ((sm_id _ fun hm => hn ?_).1).symm
    unfold isIn
    obtain ⟨i, hi, e⟩ := List.getElem_of_mem hm
    refine (StrLaws.found_iff x "\"").mpr ⟨i, by
      have h1 : (Str.ofString "\"").length = 1 := by decide
      have h2 : x.cps.toList.length = x.length := by simp [Str.length]
      lia, ?_⟩
    have h3 : (Str.ofString "\"").cps = #[34] := by decide
    have h4 : (Str.ofString "\"").length = 1 := by decide
    show (x.cps.extract i (i + (Str.ofString "\"").length) == (Str.ofString "\"").cps) = true
    rw [h3, h4, beq_iff_eq]
    apply Array.ext'
    rw [Array.toList_extract]
    show (x.cps.toList.drop i).take (i + 1 - i) = [34]
    rw [show i + 1 - i = 1 by lia, List.drop_eq_getElem_cons hi, e]
    rfl
-- the reading of a text's brackets
noncomputable def par1 : Bool → List Nat → Int → Bool
  | _, [], o => o == 0
  | true, _ :: r, o => par1 false r o
  | false, c :: r, o => if c = 92 then par1 true r o else if c = 40 then par1 false r (o + 1) else if c = 41 then (if o - 1 < 0 then false else par1 false r (o - 1)) else par1 false r o
theorem lone_ne {c d : Nat} (h : c ≠ d) : ((⟨#[c]⟩ : Str) == ⟨#[d]⟩) = false := by
  apply beq_false_of_ne
  intro e
  have := congrArg (fun z : Str => z.cps.toList) e
  simp at this
  exact h this
theorem par_go : ∀ (cs : List Nat) (esc : Bool) (i : Nat) (p : Int) (o : Int), parGo (escF cs esc i p) o = par1 esc cs o
  | [], esc, i, p, o => by
    unfold escF
    split
    · rename_i h
      rw [parGo_cons, if_neg (by show ¬ ((Str.ofString "\\" == Str.ofString "(") = true); decide), if_neg (by show ¬ ((Str.ofString "\\" == Str.ofString ")") = true); decide)]
      subst h
      rfl
    · cases esc <;> rfl
  | c :: r, true, i, p, o => by
    rw [escF, if_pos rfl, parGo_cons]
    have n2 : ∀ d : Nat, ((("\\" : Str) ++ ⟨#[c]⟩) == (⟨#[d]⟩ : Str)) = false := fun d => by
      apply beq_false_of_ne
      intro e
      have := congrArg (fun z : Str => z.length) e
      rw [Str.length_append] at this
      have h1 : (Str.ofString "\\").length = 1 := by decide
      simp only [h1] at this
      change 1 + 1 = 1 at this
      lia
    have e1 : (Str.ofString "(") = ⟨#[40]⟩ := by decide
    have e2 : (Str.ofString ")") = ⟨#[41]⟩ := by decide
    rw [e1, e2]
    dsimp only
    rw [if_neg (by rw [n2]; decide), if_neg (by rw [n2]; decide), par_go r false (i + 1) i o]
    rfl
  | c :: r, false, i, p, o => by
    rw [escF, if_neg (by decide), esc_eq]
    by_cases h92 : c = 92
    · subst h92
      rw [if_pos (by decide), par_go r true (i + 1) i o]
      simp [par1]
    · rw [if_neg (by simpa using h92), parGo_cons]
      have e1 : (Str.ofString "(") = ⟨#[40]⟩ := by decide
      have e2 : (Str.ofString ")") = ⟨#[41]⟩ := by decide
      rw [e1, e2]
      dsimp only
      by_cases h40 : c = 40
      · subst h40
        rw [if_pos (by decide), par_go r false (i + 1) i (o + 1)]
        simp [par1]
      · rw [if_neg (by rw [lone_ne h40]; decide)]
        by_cases h41 : c = 41
        · subst h41
          rw [if_pos (by decide), par_go r false (i + 1) i (o - 1)]
          simp [par1]
        · rw [if_neg (by rw [lone_ne h41]; decide), par_go r false (i + 1) i o]
          simp [par1, h92, h40, h41]
theorem check_eq (x : Str) : checkF x = par1 false (sm 0 [] x.cps.toList) 0 := by
  unfold checkF
  rw [par_go, strip_eq]
end
section
noncomputable def chk (l : List Nat) (o : Int) : Bool := par1 false (sm 0 [] l) o
noncomputable def dressN : List (List Nat) := [[], [92, 40], [92, 41], [34, 40, 34], [34, 41, 34], [34, 92, 34, 40, 34], [92, 92], [92, 34]]
noncomputable def brN : List (List Nat) := [[40], [], [], [41]]
noncomputable def brA : List Int := [1, 0, 0, -1]
theorem dress_cps : ∀ i, i < 8 → (dressS.getD i Str.empty).cps.toList = dressN.getD i [] := by decide
theorem br_cps : ∀ i, i < 4 → (brS.getD i Str.empty).cps.toList = brN.getD i [] := by decide
theorem piece (i j : Nat) (hi : i < 8) (hj : j < 4) (r : List Nat) (o : Int) (ho : 0 ≤ o + brA.getD j 0) : chk (dressN.getD i [] ++ (brN.getD j [] ++ r)) o = chk r (o + brA.getD j 0) := by
  have hi' : i = 0 ∨ i = 1 ∨ i = 2 ∨ i = 3 ∨ i = 4 ∨ i = 5 ∨ i = 6 ∨ i = 7 := by lia
  have hj' : j = 0 ∨ j = 1 ∨ j = 2 ∨ j = 3 := by lia
  rcases hi' with rfl | rfl | rfl | rfl | rfl | rfl | rfl | rfl <;> rcases hj' with rfl | rfl | rfl | rfl <;> simp [chk, sm, par1, dressN, brN, brA] <;> (simp [brA] at ho; rw [decide_eq_false (show ¬ (o - 1 < 0) by lia)]; rfl)
noncomputable def depthF (n : Nat → Int) (g : Str) : Nat → Int
  | 0 => 1
  | k + 1 => depthF n g k + brA.getD (deedAt n g k).toNat 0
theorem fd (n : Int) (d : Int) (h : 0 ≤ n.fmod d) : n.fmod d = ((n.fmod d).toNat : Int) := by lia
theorem chk_front (n : Nat → Int) (g : Str) (hd : ∀ k, k < 5 → 0 ≤ deedAt n g k ∧ deedAt n g k ≤ 3) : ∀ (k : Nat), k ≤ 5 → (∀ j, j ≤ k → 0 ≤ depthF n g j) → ∀ τ, chk ((frontAt n g k).cps.toList ++ τ) 0 = chk τ (depthF n g k)
  | 0, _, _, τ => by
    have e : (frontAt n g 0).cps.toList = [40] := by show (Str.ofString "(").cps.toList = _; decide
    rw [e]
    simp [chk, sm, par1, depthF]
  | k + 1, hk, hD, τ => by
    have h1 : (((n k).fdiv 24).fmod 8).toNat < 8 := by
      have := Int.fmod_lt_of_pos ((n k).fdiv 24) (show (0 : Int) < 8 by decide)
      have := Int.fmod_nonneg_of_pos ((n k).fdiv 24) (show (0 : Int) < 8 by decide)
      lia
    have h2 : (deedAt n g k).toNat < 4 := by have := hd k (by lia); lia
    have e : (frontAt n g (k + 1)).cps.toList ++ τ = (frontAt n g k).cps.toList ++ (dressN.getD (((n k).fdiv 24).fmod 8).toNat [] ++ (brN.getD (deedAt n g k).toNat [] ++ τ)) := by
      show (frontAt n g k ++ (dressS.getD (((n k).fdiv 24).fmod 8).toNat Str.empty ++ brS.getD (deedAt n g k).toNat Str.empty)).cps.toList ++ τ = _
      rw [Str.cps_append, Str.cps_append, Array.toList_append, Array.toList_append, dress_cps _ h1, br_cps _ h2, List.append_assoc, List.append_assoc]
    rw [e, chk_front n g hd k (by lia) (fun j hj => hD j (by lia)), piece _ _ h1 h2 _ _ (by have := hD (k + 1) (Nat.le_refl _); exact this)]
    rfl
theorem sm_pd : ∀ (l : List Nat) (pd : List Nat), 34 ∉ l → sm 2 pd l = pd.reverse ++ l ∧ sm 3 pd l = pd.reverse ++ l
  | [], pd, _ => by simp [sm]
  | c :: r, pd, h => by
    have h1 : c ≠ 34 := fun e => h (by rw [e]; exact .head _)
    have hr : 34 ∉ r := fun hm => h (.tail _ hm)
    obtain ⟨i1, i2⟩ := sm_pd r (c :: pd) hr
    obtain ⟨i3, i4⟩ := sm_pd r (92 :: pd) hr
    by_cases e : c = 92
    · subst e; simp [sm, i1, i4]
    · simp [sm, e, h1, i1]
theorem par_close : ∀ (N : Nat) (o : Int) (l : List Nat), par1 false (List.replicate N 41 ++ l) o = if (N : Int) ≤ o ∨ N = 0 then par1 false l (o - N) else false
  | 0, o, l => by simp
  | N + 1, o, l => by
    rw [List.replicate_succ, List.cons_append]
    have ih := par_close N (o - 1) l
    simp only [par1, show ¬ ((41 : Nat) = 92) by decide, show ¬ ((41 : Nat) = 40) by decide, if_false, if_true]
    rw [ih]
    by_cases h : o - 1 < 0
    · rw [if_pos h, if_neg (by lia)]
    · rw [if_neg h]
      by_cases h2 : (N : Int) ≤ o - 1 ∨ N = 0
      · rw [if_pos h2, if_pos (by lia), show o - 1 - (N : Int) = o - ((N + 1 : Nat) : Int) by lia]
      · rw [if_neg h2, if_neg (by lia)]
theorem tail1 (N : Nat) : chk (34 :: (List.replicate N 41 ++ [92])) N = true := by
  have h : 34 ∉ List.replicate N 41 ++ [92] := by
    intro hm
    rcases List.mem_append.mp hm with h | h
    · have := List.eq_of_mem_replicate h; lia
    · simp at h
  unfold chk
  rw [show sm 0 [] (34 :: (List.replicate N 41 ++ [92])) = sm 2 [34] (List.replicate N 41 ++ [92]) by simp [sm], (sm_pd _ [34] h).1]
  simp only [List.reverse_cons, List.reverse_nil, List.nil_append, List.cons_append]
  rw [show par1 false (34 :: (List.replicate N 41 ++ [92])) (N : Int) = par1 false (List.replicate N 41 ++ [92]) N by simp [par1], par_close, if_pos (by lia)]
  simp [par1]
theorem no34 {N : Nat} {l : List Nat} (h : 34 ∉ l) : 34 ∉ List.replicate N 41 ++ l := by
  intro hm
  rcases List.mem_append.mp hm with h' | h'
  · have := List.eq_of_mem_replicate h'; lia
  · exact h h'
theorem tail2 (N : Nat) (l : List Nat) (hl : 34 ∉ l) : chk (List.replicate (N + 1) 41 ++ l) N = false := by
  unfold chk
  rw [(sm_id _ (no34 hl)).1, par_close, if_neg (by lia)]
theorem tail3 (N : Nat) : chk (List.replicate N 41) ((N : Int) + 1) = false := by
  unfold chk
  rw [(sm_id _ (by have := no34 (N := N) (l := []) (by simp); simpa using this)).1]
  have := par_close N ((N : Int) + 1) []
  rw [List.append_nil] at this
  rw [this, if_pos (by lia)]
  simp only [par1]
  have e : (N : Int) + 1 - N = 1 := by lia
  rw [e]; rfl
theorem sm0 (pd : List Nat) (c : Nat) (r : List Nat) : sm 0 pd (c :: r) = if c = 92 then 92 :: sm 1 [] r else if c = 34 then sm 2 [34] r else c :: sm 0 [] r := rfl
theorem sm1 (pd : List Nat) (c : Nat) (r : List Nat) : sm 1 pd (c :: r) = c :: sm 0 [] r := rfl
theorem sm2 (pd : List Nat) (c : Nat) (r : List Nat) : sm 2 pd (c :: r) = if c = 34 then sm 0 [] r else if c = 92 then sm 3 (92 :: pd) r else sm 2 (c :: pd) r := rfl
theorem sm3 (md : Nat) (pd : List Nat) (c : Nat) (r : List Nat) : sm (md + 3) pd (c :: r) = sm 2 (c :: pd) r := rfl
theorem sm_mem : ∀ (l : List Nat) (md : Nat) (pd : List Nat), (∀ c ∈ sm md pd l, c ∈ pd ∨ c ∈ l) ∧ (sm md pd l).length ≤ pd.length + l.length
  | [], md, pd => by
    have : sm md pd [] = pd.reverse := by unfold sm; rfl
    rw [this]
    exact ⟨fun c hc => .inl (by simpa using hc), by simp⟩
  | c :: r, 0, pd => by
    have a := sm_mem r 1 []
    have b := sm_mem r 2 [34]
    have d := sm_mem r 0 []
    rw [sm0]
    split
    · rename_i h; subst h
      exact ⟨fun x hx => by
        rcases List.mem_cons.mp hx with rfl | hx
        · exact .inr (.head _)
        · rcases a.1 x hx with h | h
          · simp at h
          · exact .inr (.tail _ h), by have := a.2; simp at this ⊢; lia⟩
    · split
      · rename_i h; subst h
        exact ⟨fun x hx => by
          rcases b.1 x hx with h | h
          · simp at h; subst h; exact .inr (.head _)
          · exact .inr (.tail _ h), by have := b.2; simp at this ⊢; lia⟩
      · exact ⟨fun x hx => by
          rcases List.mem_cons.mp hx with rfl | hx
          · exact .inr (.head _)
          · rcases d.1 x hx with h | h
            · simp at h
            · exact .inr (.tail _ h), by have := d.2; simp at this ⊢; lia⟩
  | c :: r, 1, pd => by
    have d := sm_mem r 0 []
    rw [sm1]
    exact ⟨fun x hx => by
      rcases List.mem_cons.mp hx with rfl | hx
      · exact .inr (.head _)
      · rcases d.1 x hx with h | h
        · simp at h
        · exact .inr (.tail _ h), by have := d.2; simp at this ⊢; lia⟩
  | c :: r, 2, pd => by
    have a := sm_mem r 0 []
    have b := sm_mem r 3 (92 :: pd)
    have d := sm_mem r 2 (c :: pd)
    rw [sm2]
    split
    · exact ⟨fun x hx => by
        rcases a.1 x hx with h | h
        · simp at h
        · exact .inr (.tail _ h), by have := a.2; simp at this ⊢; lia⟩
    · split
      · rename_i h; subst h
        exact ⟨fun x hx => by
          rcases b.1 x hx with h | h
          · rcases List.mem_cons.mp h with rfl | h
            · exact .inr (.head _)
            · exact .inl h
          · exact .inr (.tail _ h), by have := b.2; simp at this ⊢; lia⟩
      · exact ⟨fun x hx => by
          rcases d.1 x hx with h | h
          · rcases List.mem_cons.mp h with rfl | h
            · exact .inr (.head _)
            · exact .inl h
          · exact .inr (.tail _ h), by have := d.2; simp at this ⊢; lia⟩
  | c :: r, md + 3, pd => by
    have d := sm_mem r 2 (c :: pd)
    rw [sm3]
    exact ⟨fun x hx => by
      rcases d.1 x hx with h | h
      · rcases List.mem_cons.mp h with rfl | h
        · exact .inr (.head _)
        · exact .inl h
      · exact .inr (.tail _ h), by have := d.2; simp at this ⊢; lia⟩
end
section
noncomputable def TextOK (x : Str) : Prop := x.length ≤ 100 ∧ x.cps.all (· < 128) = true ∧ (stripF x).length ≤ 100 ∧ (stripF x).cps.all (· < 128) = true
theorem textOK_of {x : Str} (h1 : x.length ≤ 100) (h2 : ∀ c ∈ x.cps.toList, c < 128) : TextOK x := by
  have hl : ∀ y : Str, y.cps.toList.length = y.length := fun y => by simp [Str.length]
  have hs := sm_mem x.cps.toList 0 []
  rw [← strip_eq] at hs
  refine ⟨h1, ?_, ?_, ?_⟩
  · rw [← Array.all_toList, List.all_eq_true]; intro c hc; exact decide_eq_true (h2 c hc)
  · have := hs.2
    rw [hl, hl] at this
    simp at this; lia
  · rw [← Array.all_toList, List.all_eq_true]
    intro c hc
    rcases hs.1 c hc with h | h
    · simp at h
    · exact decide_eq_true (h2 c h)
theorem mul_cps : ∀ N, N < 25 → (Txt.mul (Str.ofString ")") ((N : Nat) : Int)).cps.toList = List.replicate N 41 := by decide
theorem dress_asc : ∀ i, i < 8 → ∀ c ∈ dressN.getD i [], c < 128 := by decide
theorem br_asc : ∀ i, i < 4 → ∀ c ∈ brN.getD i [], c < 128 := by decide
theorem front_cps (n : Nat → Int) (g : Str) (k : Nat) (hd : 0 ≤ deedAt n g k ∧ deedAt n g k ≤ 3) : (frontAt n g (k + 1)).cps.toList = (frontAt n g k).cps.toList ++ (dressN.getD (((n k).fdiv 24).fmod 8).toNat [] ++ brN.getD (deedAt n g k).toNat []) ∧ (((n k).fdiv 24).fmod 8).toNat < 8 ∧ (deedAt n g k).toNat < 4 := by
  have h1 : (((n k).fdiv 24).fmod 8).toNat < 8 := by
    have := Int.fmod_lt_of_pos ((n k).fdiv 24) (show (0 : Int) < 8 by decide)
    have := Int.fmod_nonneg_of_pos ((n k).fdiv 24) (show (0 : Int) < 8 by decide)
    lia
  have h2 : (deedAt n g k).toNat < 4 := by lia
  refine ⟨?_, h1, h2⟩
  show (frontAt n g k ++ (dressS.getD (((n k).fdiv 24).fmod 8).toNat Str.empty ++ brS.getD (deedAt n g k).toNat Str.empty)).cps.toList = _
  rw [Str.cps_append, Str.cps_append, Array.toList_append, Array.toList_append, dress_cps _ h1, br_cps _ h2]
theorem front_asc (n : Nat → Int) (g : Str) (hd : ∀ k, k < 5 → 0 ≤ deedAt n g k ∧ deedAt n g k ≤ 3) : ∀ k, k ≤ 5 → ∀ c ∈ (frontAt n g k).cps.toList, c < 128
  | 0, _, c, hc => by
    have e : (frontAt n g 0).cps.toList = [40] := by show (Str.ofString "(").cps.toList = _; decide
    rw [e] at hc; simp at hc; lia
  | k + 1, hk, c, hc => by
    obtain ⟨e, h1, h2⟩ := front_cps n g k (hd k (by lia))
    rw [e] at hc
    rcases List.mem_append.mp hc with h | h
    · exact front_asc n g hd k (by lia) c h
    · rcases List.mem_append.mp h with h | h
      · exact dress_asc _ h1 c h
      · exact br_asc _ h2 c h
section
variable {n : Nat → Int} {g : Str} (hd : ∀ k, k < 5 → 0 ≤ deedAt n g k ∧ deedAt n g k ≤ 3) (hD : ∀ j, j ≤ 5 → 0 ≤ depthF n g j)
include hd hD
theorem checks {k : Nat} (hk : k ≤ 5) (τ : List Nat) (y : Str) (hy : y.cps.toList = τ) (hyl : y.length ≤ 40) (hya : ∀ c ∈ τ, c < 128) :
    TextOK (frontAt n g k ++ y) ∧ checkF (frontAt n g k ++ y) = chk τ (depthF n g k) := by
  have hl := front_len n g k
  have e : (frontAt n g k ++ y).cps.toList = (frontAt n g k).cps.toList ++ τ := by rw [Str.cps_append, Array.toList_append, hy]
  refine ⟨textOK_of (by rw [Str.length_append]; lia) ?_, ?_⟩
  · rw [e]
    intro c hc
    rcases List.mem_append.mp hc with h | h
    · exact front_asc n g hd k hk c h
    · exact hya c h
  · rw [check_eq, e]
    exact chk_front n g hd k hk (fun j hj => hD j (by lia)) τ
end
theorem app3 (a b c d : Str) : a ++ b ++ c ++ d = a ++ (b ++ c ++ d) := by rw [Str.append_assoc, Str.append_assoc, Str.append_assoc]
theorem mul_len {N : Nat} (h : N < 25) : (Txt.mul (Str.ofString ")") ((N : Nat) : Int)).length = N := by
  have := congrArg List.length (mul_cps N h)
  rw [List.length_replicate] at this
  have e : ∀ y : Str, y.cps.toList.length = y.length := fun y => by simp [Str.length]
  rw [e] at this
  exact this
theorem rep_asc {N : Nat} : ∀ c ∈ List.replicate N 41, c < 128 := fun c hc => by have := List.eq_of_mem_replicate hc; lia
section
variable {n : Nat → Int} {g : Str} (hd : ∀ k, k < 5 → 0 ≤ deedAt n g k ∧ deedAt n g k ≤ 3) (hD : ∀ j, j ≤ 5 → 0 ≤ depthF n g j)
include hd hD
theorem check1 {k N : Nat} (hk : k < 5) (hN : depthF n g k = N) (h22 : N ≤ 22) : TextOK (frontAt n g k ++ Str.ofString "\"" ++ Txt.mul (Str.ofString ")") (N : Int) ++ Str.ofString "\\") ∧ checkF (frontAt n g k ++ Str.ofString "\"" ++ Txt.mul (Str.ofString ")") (N : Int) ++ Str.ofString "\\") = true := by
  rw [app3]
  have h := checks hd hD (k := k) (by lia) (34 :: (List.replicate N 41 ++ [92])) (Str.ofString "\"" ++ Txt.mul (Str.ofString ")") (N : Int) ++ Str.ofString "\\") (by
    rw [Str.cps_append, Str.cps_append, Array.toList_append, Array.toList_append, mul_cps N (by lia), show (Str.ofString "\"").cps.toList = [34] by decide, show (Str.ofString "\\").cps.toList = [92] by decide]; rfl)
    (by rw [Str.length_append, Str.length_append, mul_len (by lia), show (Str.ofString "\"").length = 1 by decide, show (Str.ofString "\\").length = 1 by decide]; lia)
    (by intro c hc
        rcases List.mem_cons.mp hc with rfl | hc
        · lia
        · rcases List.mem_append.mp hc with h | h
          · exact rep_asc c h
          · simp at h; lia)
  rw [hN, tail1] at h
  exact h
theorem check2 {k N : Nat} (hk : k < 3) (hN : depthF n g k = N) (h22 : N ≤ 20) (h1 : 1 ≤ N) : TextOK (frontAt n g k ++ Txt.mul (Str.ofString ")") ((N : Int) - 1 + [2, 0, 2].getD k 0) ++ [Str.ofString "(", Str.ofString "", Str.ofString ""].getD k Str.empty) ∧ checkF (frontAt n g k ++ Txt.mul (Str.ofString ")") ((N : Int) - 1 + [2, 0, 2].getD k 0) ++ [Str.ofString "(", Str.ofString "", Str.ofString ""].getD k Str.empty) = false := by
  rw [Str.append_assoc]
  have e0 : (Str.ofString "").cps.toList = [] := by decide
  have l0 : (Str.ofString "").length = 0 := by decide
  obtain rfl | rfl | rfl : k = 0 ∨ k = 1 ∨ k = 2 := by clear hN; lia
  · rw [show (N : Int) - 1 + [2, 0, 2].getD 0 0 = ((N + 1 : Nat) : Int) by simp; lia]
    have h := checks hd hD (k := 0) (by lia) (List.replicate (N + 1) 41 ++ [40]) (Txt.mul (Str.ofString ")") ((N + 1 : Nat) : Int) ++ Str.ofString "(") (by
      rw [Str.cps_append, Array.toList_append, mul_cps (N + 1) (by lia), show (Str.ofString "(").cps.toList = [40] by decide])
      (by rw [Str.length_append, mul_len (by lia), show (Str.ofString "(").length = 1 by decide]; lia)
      (by intro c hc
          rcases List.mem_append.mp hc with h | h
          · exact rep_asc c h
          · simp at h; lia)
    rw [hN, tail2 N _ (by simp)] at h
    exact h
  · rw [show (N : Int) - 1 + [2, 0, 2].getD 1 0 = ((N - 1 : Nat) : Int) by simp; lia]
    have h := checks hd hD (k := 1) (by lia) (List.replicate (N - 1) 41) (Txt.mul (Str.ofString ")") ((N - 1 : Nat) : Int) ++ Str.ofString "") (by
      rw [Str.cps_append, Array.toList_append, mul_cps (N - 1) (by lia), e0, List.append_nil])
      (by rw [Str.length_append, mul_len (by lia), l0]; lia) rep_asc
    rw [hN, show (N : Int) = ((N - 1 : Nat) : Int) + 1 by lia, tail3] at h
    exact h
  · rw [show (N : Int) - 1 + [2, 0, 2].getD 2 0 = ((N + 1 : Nat) : Int) by simp; lia]
    have h := checks hd hD (k := 2) (by lia) (List.replicate (N + 1) 41) (Txt.mul (Str.ofString ")") ((N + 1 : Nat) : Int) ++ Str.ofString "") (by
      rw [Str.cps_append, Array.toList_append, mul_cps (N + 1) (by lia), e0, List.append_nil])
      (by rw [Str.length_append, mul_len (by lia), l0]; lia) rep_asc
    have t2 := tail2 N [] (by simp)
    rw [List.append_nil] at t2
    rw [hN, t2] at h
    exact h
theorem check3 (h0 : depthF n g 5 = 0) : TextOK (frontAt n g 5) ∧ checkF (frontAt n g 5) = true := by
  have h := checks hd hD (k := 5) (by lia) [] (Str.ofString "") (by decide) (by decide) (fun _ h => nomatch h)
  have e : frontAt n g 5 ++ Str.ofString "" = frontAt n g 5 := by
    have : (frontAt n g 5 ++ Str.ofString "").cps = (frontAt n g 5).cps := by rw [Str.cps_append, show (Str.ofString "").cps = #[] by decide, Array.append_empty]
    exact congrArg Str.mk this
  rw [e, h0] at h
  exact h
end
end
section
end
local macro_rules | `(tactic| walk_at "subscriptTail Name Name ref int") => `(tactic| walk_at "mine stop")
local macro_rules | `(tactic| walk_at "subscriptTail Constant str Name str int") => `(tactic| walk_at "mine stop")
section
noncomputable def LN3 : List Str := [("last" : Str), "fronts", "drawn", "front"]
noncomputable def LN4 : List Str := [("k" : Str), "left", "right", "near"]
theorem item_at {prog : Program} {w : World} {A : Around} {E : Value → Shared → Prop} {s : Shared} {value slice : PySem.Expr} {l : Addr} {vs : List Value} {i : Nat} {u : Tok} {v : Value} {Q : Value → Shared → Prop} (hl : s.heap.IsList l vs.toArray) (hv : vs[i]? = some v) (hi : i < 100) (h : Q v s)
    (hs : subscripted slice false (.ref l) (.int i u) = operate [.ref l, .int i u] (getItem (.ref l) (.int i u)) := by with_unfolding_all rfl) :
    wpAny (model prog w) A (subscriptTail value slice (.ref l) (.int (i : Int) u)) Q E s :=
  tail_any hl.typeIs slot_list_getitem.lookup (wpAny_getItem_list hl (by lia) (by lia) (x := v) (by simpa using hv) h) hs
theorem ne_tup2 {prog : Program} {w : World} {A : Around} {E : Value → Shared → Prop} {s : Shared} {a b : Addr} {x y z u : Int} {t1 t2 t3 t4 : Tok} {Q : Value → Shared → Prop}
    (ha : IsTup s.heap a #[.int x t1, .int y t2]) (hb : IsTup s.heap b #[.int z t3, .int u t4]) (hu : A.units + 64 < cLine) (hx : x = z) (hy : y = u) (h : Q (.bool false) s) :
    wpAny (model prog w) A (compareOp .NotEq (.ref a) (.ref b)) Q E s := by
  subst hx hy
  obtain ⟨o1, e1, c1, n1, d1⟩ := ha
  obtain ⟨o2, e2, c2, n2, d2⟩ := hb
  refine ne_dataH (reads_tuple_at e1 c1 d1 (.cons (.int _ _) (.cons (.int _ _) .nil))) (reads_tuple_at e2 c2 d2 (.cons (.int _ _) (.cons (.int _ _) .nil))) (by rfl) (by rfl) hu ?_
  simp only [PyData.eqv, PyData.eqvAll, beq_self_eq_true, Bool.and_true, Bool.not_true]
  exact h
theorem two_ok : ∀ k : Nat, k < 3 → 0 ≤ ([2, 0, 2] : List Int).getD ((k : Int)).toNat 0 ∧ ([2, 0, 2] : List Int).getD ((k : Int)).toNat 0 ≤ 2 := by decide
inductive K4 (l : List (Addr × Obj)) : List (Option Value) → List (Addr × Obj) → Prop
  | mk (u0 u1 u2 u3 : Option Value) : K4 l [u0, u1, u2, u3] l
theorem K4.of {l : List (Addr × Obj)} {vals : List (Option Value)} (h : ∃ u0 u1 u2 u3, vals = [u0, u1, u2, u3]) : K4 l vals l := by
  obtain ⟨u0, u1, u2, u3, rfl⟩ := h
  exact ⟨u0, u1, u2, u3⟩
theorem turn2 {w : World} {cd : Value} {fa L I : Addr} {h₀ h : Heap} {p : Program} {loose : List Str} {mean : ExcName → Option Value} {mg mb : Str → Option Value} {s : Shared} {tk : Nat} {Q : Flow → Shared → Prop} {m : Str → Option Value} {o : Obj} {G' : Array GenState}
    (B : Below callerA h₀ [] h₀) (X : (Mine.hd.heap_1 w.params).In h₀) (T : Top p loose mean mg mb h₀)
    (last : Str) (hl5 : last.length = 5) (hla : last.cps.all (· < 128) = true) (lf ldr : Addr) (fv dv : List Value) (fe de : Nat) (fs : List Str) (hfv : StrsAre fv fs) (R : List (Addr × Obj)) (k : Nat) (hk : k < 5) (t tl tfr : Tok) (fr fk : Str) (hfk : fs[k]? = some fk)
    (left right near : Int) (htold : toldAt last (Txt.item "abcde" k) 5 = (left, right, near)) (hin : isIn (Txt.item "abcde" k) last = true) (hle : 0 ≤ left ∧ left ≤ 10) (hri : 0 ≤ right ∧ right ≤ 10)
    (Tk : Addr) (ta tb : Tok) (hdk : dv[k]? = some (.ref Tk)) (hTk : (Tk, tupO #[.int left ta, .int near tb]) ∈ R)
    (hC1 : TextOK (fk ++ Str.ofString "\"" ++ Txt.mul (Str.ofString ")") (left + right + 1) ++ Str.ofString "\\") ∧ checkF (fk ++ Str.ofString "\"" ++ Txt.mul (Str.ofString ")") (left + right + 1) ++ Str.ofString "\\") = true)
    (hC2 : k < 3 → TextOK (fk ++ Txt.mul (Str.ofString ")") (left + right + [2, 0, 2].getD k 0) ++ [Str.ofString "(", Str.ofString "", Str.ofString ""].getD k Str.empty) ∧ checkF (fk ++ Txt.mul (Str.ofString ")") (left + right + [2, 0, 2].getD k 0) ++ [Str.ofString "(", Str.ofString "", Str.ofString ""].getD k Str.empty) = false)
    (hfl : fk.length ≤ 60)
    (u0 u1 u2 u3 : Option Value)
    (hG : AllBare G') (F : Fr h₀ L h (fun y => if y = "k" then some (.int (k : Int) t) else up (LN4.zip [u0, u1, u2, u3]) (up (LN3.zip [some (.str last tl), some (.ref lf), some (.ref ldr), some (.str fr tfr)]) m) y))
    (N : News h₀ L h ((I, o) :: (lf, listOf ⟨fv⟩ fe) :: (ldr, listOf ⟨dv⟩ de) :: R)) :
    wpAny (model PySem.Challenge.rw_uc0007_01.row.prog w) (callerA.deeper (lawEnv cd fa L)) (execs loop2B (lawEnv cd fa L))
      (EndR h₀ L I o (UpJ LN4 (up (LN3.zip [some (.str last tl), some (.ref lf), some (.ref ldr), some (.str fr tfr)]) m) (K4 ((lf, listOf ⟨fv⟩ fe) :: (ldr, listOf ⟨dv⟩ de) :: R))) { s with heap := h, toks := tk, gens := G' } Q) NoE { s with heap := h, toks := tk, gens := G' } := by
  have mc := markC
  revert X
  k_fill
  intro X
  unfold lawEnv lawSc
  unfold LN4 LN3 at F
  have h5 : (Str.ofString "abcde").length = 5 := by decide
  refine letX ?_
  intro M9 e9 A9
  with_unfolding_all refine wpAny_execs_cons (st := Stmt.Assign _ _ _) ?_
  (k_steps; (repeat' (unfold HandC; ((with_reducible show wpAny _ _ (subscriptTail _ _ (Value.str _ _) _) _ _ _); k_dflt (refine' item_str (fits_small (by lia) (by lia)) (by first | lia | (simp only [ofString_length]; lia) | (rw [show ∀ x, Str.length (Str.ofString x) = _ from fun _ => rfl]; decide)) (by first | lia | decide) (fun _ => ?_))); k_steps)); (all_goals (try k_data)))
  unfold HandC
  rename Fr _ _ _ _ => F1
  rename News _ _ _ _ => N1
  refine Ct.use (told_c last (Txt.item "abcde" k) _ _ (by lia) hla (len_item _ _) hin) B F1 X N1 T rfl (by (first | (show _ < _; decide) | exact room1 (k := 1) (by assumption) rfl | exact room2 (k := 3) (by assumption) rfl | exact room3 (by assumption) rfl | (simp only [recursionLimit, cLine] at *; lia))) (by (first | (show _ < _; decide) | exact room1 (k := 1) (by assumption) rfl | exact room2 (k := 3) (by assumption) rfl | exact room3 (by assumption) rfl | (simp only [recursionLimit, cLine] at *; lia))) ?_
  rintro _ _ h2 tk2 hIK F2 N2
  induction hIK with
  | mk D left' right' near' t1 t2 t3 hto offD =>
  rw [hl5, htold] at hto
  obtain ⟨rfl, rfl, rfl⟩ : left' = left ∧ right' = right ∧ near' = near := by
    have e1 := congrArg Prod.fst hto
    have e2 := congrArg (fun q => q.2.1) hto
    have e3 := congrArg (fun q => q.2.2) hto
    exact ⟨e1, e2, e3⟩
  (k_steps; (all_goals (try k_data)))
  rename Fr _ _ _ _ => F3
  rename News _ _ _ _ => N3
  k_dflt (refine item_at (vs := dv) (News.isList N3 (.tail _ (.tail _ (.tail _ (.tail _ (.head _)))))) hdk (by lia) ?_)
  (k_steps; (all_goals (try k_data)))
  unfold HandC
  refine ne_tup2 (News.isTup N3 (.head _)) (News.isTup N3 (.tail _ (.tail _ (.tail _ (.tail _ (.tail _ hTk)))))) (Nat.le_of_ble_eq_true rfl) rfl rfl ?_
  replace N3 : News h₀ L _ ((I, o) :: (lf, listOf ⟨fv⟩ fe) :: (ldr, listOf ⟨dv⟩ de) :: R) := fun q hq => N3 q (.tail _ (.tail _ hq))
  (k_steps; (all_goals (try k_data)))
  obtain ⟨tfk, hfvk⟩ := hfv.get k fk hfk
  k_dflt (refine item_at (vs := fv) (News.isList N3 (.tail _ (.head _))) hfvk (by lia) ?_)
  obtain ⟨hle0, hle1⟩ := hle
  obtain ⟨hri0, hri1⟩ := hri
  (k_steps; (all_goals (try k_data)))
  unfold HandC
  rename Fr _ _ _ _ => F5
  rename News _ _ _ _ => N5
  obtain ⟨⟨c1, c2, c3, c4⟩, c5⟩ := hC1
  refine CtG.use (check_c _ _ c1 c2 c3 c4) B F5 X N5 T rfl (by (first | (show _ < _; decide) | exact room1 (k := 1) (by assumption) rfl | exact room2 (k := 3) (by assumption) rfl | exact room3 (by assumption) rfl | (simp only [recursionLimit, cLine] at *; lia))) (by (first | (show _ < _; decide) | exact room1 (k := 1) (by assumption) rfl | exact room2 (k := 3) (by assumption) rfl | exact room3 (by assumption) rfl | (simp only [recursionLimit, cLine] at *; lia))) hG ?_
  rintro _ h6 tk6 G6 hIK hG6 F6 N6
  induction hIK with
  | mk =>
  rw [c5]
  rename_i _ _ z1 _ _ z2 z3 _ _ z4 _ _ z5
  clear z1 z2 z3 z4 z5 c1 c2 c3 c4 c5 F5 N5
  (k_steps; (all_goals (try k_data)))
  · k_dflt (refine item_at (vs := fv) (News.isList N6 (.tail _ (.head _))) hfvk (by lia) ?_)
    rename_i hk3 _
    have hk3' : k < 3 := by lia
    have e21 : 0 ≤ ([2, 0, 2] : List Int).getD ((k : Int)).toNat 0 ∧ ([2, 0, 2] : List Int).getD ((k : Int)).toNat 0 ≤ 2 := two_ok k hk3'
    obtain ⟨e22, e23⟩ := e21
    (k_steps; (all_goals (try k_data)))
    rename News _ _ _ _ => N7
    have e24 : ([Str.ofString "(", Str.ofString "", Str.ofString ""].getD ((k : Int)).toNat Str.empty).length ≤ 1 := getD_len (by decide) _
    k_dflt (refine KTb.item_list (ws := [Str.ofString "(", Str.ofString "", Str.ofString ""]) (News.isList N7 (.head _)) (.cons _ _ (.cons _ _ (.cons _ _ .nil))) (by lia) (by show _ < (3 : Int); lia) (by lia) (fun t12 h12 => ?_))
    replace N7 : News h₀ L _ ((I, o) :: (lf, listOf ⟨fv⟩ fe) :: (ldr, listOf ⟨dv⟩ de) :: R) := fun q hq => N7 q (.tail _ (.tail _ hq))
    (k_steps; (all_goals (try k_data)))
    unfold HandC
    rename Fr _ _ _ _ => F8
    rename News _ _ _ _ => N8
    obtain ⟨⟨d1, d2, d3, d4⟩, d5⟩ := hC2 hk3'
    refine CtG.use (check_c _ _ d1 d2 d3 d4) B F8 X N8 T rfl (by (first | (show _ < _; decide) | exact room1 (k := 1) (by assumption) rfl | exact room2 (k := 3) (by assumption) rfl | exact room3 (by assumption) rfl | (simp only [recursionLimit, cLine] at *; lia))) (by (first | (show _ < _; decide) | exact room1 (k := 1) (by assumption) rfl | exact room2 (k := 3) (by assumption) rfl | exact room3 (by assumption) rfl | (simp only [recursionLimit, cLine] at *; lia))) hG6 ?_
    rintro _ h9 tk9 G9 hIK hG9 F9 N9
    induction hIK with
    | mk =>
    rw [show checkF _ = false from d5]
    clear d1 d2 d3 d4 d5 F8 N8
    (k_steps; (all_goals (try k_data)))
    refine EndR.next hG9 (by assumption) (by assumption) (by walk_at "mine sub") ⟨_, ⟨_, _, _, _⟩, by unfold LN4 LN3; (refine up_off ?mua ?mub; (case mub => exact rfl); (case mua => walk_at "mine off"))⟩
  · refine EndR.next hG6 (by assumption) (by assumption) (by walk_at "mine sub") ⟨_, ⟨_, _, _, _⟩, by unfold LN4 LN3; (refine up_off ?mua ?mub; (case mub => exact rfl); (case mua => walk_at "mine off"))⟩
end
section
local macro_rules | `(tactic| walk_at "exec For Name Call cons nil") => `(tactic| walk_at "mine stop")
-- what the end of law needs
structure FinOK (n : Nat → Int) (g last : Str) : Prop where
  lasteq : last = patF (wsAt n g 5) g 5
  l5 : last.length = 5
  asc : last.cps.all (· < 128) = true
  perm : (signs last).Perm abcS
  pl : ∀ k, k < 5 → (patAt n g k).length ≤ 30
  mist : mistF [patAt n g 0, patAt n g 1, patAt n g 2, patAt n g 3, patAt n g 4] last = false
  w5 : (wsAt n g 5).length ≤ 10
  wp : ∀ x ∈ wsAt n g 5, x ≠ g → 0 ≤ (5 : Int) + 1 - x.length ∧ (5 : Int) + 1 - x.length < 5
  wl : ∀ x ∈ wsAt n g 5, x.length ≤ 100
  deed : ∀ k, k < 5 → 0 ≤ deedAt n g k ∧ deedAt n g k ≤ 3
  dep : ∀ j, j ≤ 5 → 0 ≤ depthF n g j
  dep5 : depthF n g 5 = 0
  told : ∀ k : Nat, k < 5 → ∃ left right near : Int, toldAt last (Txt.item "abcde" k) 5 = (left, right, near) ∧ isIn (Txt.item "abcde" k) last = true ∧ (0 ≤ left ∧ left ≤ 9) ∧ (0 ≤ right ∧ right ≤ 9) ∧ left = placeAt n g k ∧ near = drS.getD (deedAt n g k).toNat 0 ∧ depthF n g k = left + right + 1
theorem mem_d1 {c t lf ld lp : Addr × Obj} {A R : List (Addr × Obj)} : ∀ q ∈ A ++ c :: t :: lf :: ld :: lp :: R, q ∈ c :: t :: lf :: ld :: lp :: (R ++ A) := by
  intro p hp
  simp only [List.mem_cons, List.mem_append] at hp ⊢
  rcases hp with h | h | h | h | h | h | h <;> simp [h]
theorem strs5 {vs : List Value} {a b c d e : Str} (h : StrsAre vs [a, b, c, d, e]) : ∃ t0 t1 t2 t3 t4, vs = [.str a t0, .str b t1, .str c t2, .str d t3, .str e t4] := by
  cases h with
  | cons _ t0 h => cases h with
    | cons _ t1 h => cases h with
      | cons _ t2 h => cases h with
        | cons _ t3 h => cases h with
          | cons _ t4 h => cases h with
            | nil => exact ⟨t0, t1, t2, t3, t4, rfl⟩
theorem mem_d2 {c t lf ld lp x1 x2 x3 : Addr × Obj} {A R : List (Addr × Obj)} : ∀ q ∈ [lp] ++ (lf :: ld :: t :: R), q ∈ x1 :: x2 :: x3 :: (A ++ c :: t :: lf :: ld :: lp :: R) := by
  intro p hp
  simp only [List.mem_cons, List.mem_append, List.not_mem_nil, or_false] at hp ⊢
  rcases hp with h | h | h | h | h <;> simp [h]
theorem up_four {m : Str → Option Value} {a b c d : Option Value} (m' : Str → Option Value) (e : m' = m) (h1 : m "last" = a) (h2 : m "fronts" = b) (h3 : m "drawn" = c) (h4 : m "front" = d) : m = up (LN3.zip [a, b, c, d]) m' := by
  subst e h1 h2 h3 h4
  exact (up_self m' LN3).symm
theorem mem_d3 {i r p f d t : Addr × Obj} {R : List (Addr × Obj)} : ∀ q ∈ i :: f :: d :: t :: R, q ∈ i :: r :: p :: f :: d :: t :: R := by
  intro p hp
  simp only [List.mem_cons] at hp ⊢
  rcases hp with h | h | h | h | h <;> simp [h]
theorem map4 (f : Str → Option Value) : ∃ u0 u1 u2 u3, LN4.map f = [u0, u1, u2, u3] := ⟨f "k", f "left", f "right", f "near", rfl⟩
theorem law_mid {w : World} {cd : Value} {fa L I : Addr} {h₀ h : Heap} {p : Program} {loose : List Str} {mean : ExcName → Option Value} {mg mb : Str → Option Value} {s : Shared} {tk : Nat} {Q : Flow → Shared → Prop} {m : Str → Option Value}
    (B : Below callerA h₀ [] h₀) (X : (Mine.hd.heap_1 w.params).In h₀) (T : Top p loose mean mg mb h₀)
    (n : Nat → Int) (hn : ∀ k, 0 ≤ n k ∧ n k ≤ 999999) (g : Str) (hg : g.length = 1) (tg : Tok) (ln ldz lf ldr lpt c1 : Addr) (oc1 : Obj) (nv : List Value) (ne : Nat) (dz : Obj)
    (last : Str) (fo : FinOK n g last) (hlast : last = patF (wsAt n g 5) g 5) (hl5 : last.length = 5) (hla : last.cps.all (· < 128) = true) (f2 : lf ≠ lpt) (f3 : ldr ≠ lpt) (hB : AllBare s.gens) (hperm : (signs last).Perm abcS) (hpl : ∀ k, k < 5 → (patAt n g k).length ≤ 30) (hmist : mistF [patAt n g 0, patAt n g 1, patAt n g 2, patAt n g 3, patAt n g 4] last = false) (hw5 : (wsAt n g 5).length ≤ 10) (hwp : ∀ x ∈ wsAt n g 5, x ≠ g → 0 ≤ (5 : Int) + 1 - x.length ∧ (5 : Int) + 1 - x.length < 5) (hwl : ∀ x ∈ wsAt n g 5, x.length ≤ 100)
    (vals : List (Option Value)) (news : List (Addr × Obj))
    (hK : K1 w n g I tg ln ldz lf ldr lpt c1 oc1 nv ne dz 5 vals news)
    (hQ : ∀ (ps : Array Value) (h' : Heap) (tk' : Nat) (G' : Array GenState) (m' : Str → Option Value) (news' : List (Addr × Obj)), AllBare G' → Fr h₀ L h' m' → News h₀ L h' news' → ((120 : Addr), tabObj ps) ∈ news' → Q (.ret (.bool true)) { s with heap := h', toks := tk', gens := G' })
    (F : Fr h₀ L h (up (LN.zip vals) m)) (N : News h₀ L h news) :
    wpAny (model PySem.Challenge.rw_uc0007_01.row.prog w) (callerA.deeper (lawEnv cd fa L)) (execs (lawB.drop 11) (lawEnv cd fa L)) Q NoE { s with heap := h, toks := tk } := by
  have mc := markC
  revert X
  k_fill
  intro X
  obtain ⟨a, tl, pe, sgv, se, x, en, te, tf, fv, dv, pv, fe, de, pve, R, u0, u1, u2, u3, u4, u5, u6, u7, u8, u9, u10, ok, hsg, hxl, hw, hen, hen0, hen1, hfv, hpv, hdl, hdv, hln, hldz, offA, off120, offR, offI⟩ := hK
  obtain ⟨v0, v1, v2, v3, v4, rfl⟩ := strs5 (hpv : StrsAre pv [patAt n g 0, patAt n g 1, patAt n g 2, patAt n g 3, patAt n g 4])
  have h120p : (120 : Addr) ≠ lpt := off120 (lpt, listOf ⟨_⟩ pve) (.tail _ (.tail _ (.tail _ (.head _))))
  unfold lawEnv lawSc
  unfold LN at F
  refine letX ?_
  intro M9 e9 A9
  with_unfolding_all refine wpAny_execs_cons (st := Stmt.Assign _ _ _) ?_
  (k_steps; (repeat' (unfold HandC; (with_unfolding_all refine' for_R (by assumption) (by rfl) (by rfl) (by rfl) ?_); k_steps)); (all_goals (try k_data)))
  unfold HandC
  rename Fr _ _ _ _ => F1
  rename News _ _ _ _ => N1
  refine Ct.use (lread_c a ok 1 tl [] [] pe (signs x) (wsAt n g 5) [] sgv se .nil (by decide) hsg (by rw [signs_length]; lia) (signs_one x) hw (by lia) ((c1, oc1) :: (120, tabObj (tabPs c1 a.c)) :: (lf, listOf ⟨fv⟩ fe) :: (ldr, listOf ⟨dv⟩ de) :: (lpt, listOf ⟨[.str (patAt n g 0) v0, .str (patAt n g 1) v1, .str (patAt n g 2) v2, .str (patAt n g 3) v3, .str (patAt n g 4) v4]⟩ pve) :: R) offA) B F1 X (News.sub N1 mem_d1) T rfl (by (first | (show _ < _; decide) | exact room1 (k := 1) (by assumption) rfl | exact room2 (k := 3) (by assumption) rfl | exact room3 (by assumption) rfl | (simp only [recursionLimit, cLine] at *; lia))) (by (first | (show _ < _; decide) | exact room1 (k := 1) (by assumption) rfl | exact room2 (k := 3) (by assumption) rfl | exact room3 (by assumption) rfl | (simp only [recursionLimit, cLine] at *; lia))) ?_
  rintro _ _ h2 tk2 hIK F2 N2
  induction hIK with
  | mk lw wv we line' tl' pe' sgv' se' hwv hline hs0 offw offAw =>
  obtain rfl : sgv' = [] := by cases hs0; rfl
  obtain rfl : line' = 1 + en := by rw [hen]; simpa [cntNl] using hline
  (k_steps; (repeat' (unfold HandC; (with_unfolding_all refine' for_R (by assumption) (by rfl) (by rfl) (by rfl) ?_); k_steps)); (all_goals (try k_data)))
  unfold HandC
  rename Fr _ _ _ _ => F3
  rename News _ _ _ _ => N3
  refine Ct.useS (pat_c (vs := ⟨wv⟩) (ws := wsAt n g 5) g 5 _ _ (.head _) hwv (fun y hy hne => hwp y hy hne) (by lia) ⟨by lia, by lia⟩ hwl) B F3 X N3 T rfl (by (first | (show _ < _; decide) | exact room1 (k := 1) (by assumption) rfl | exact room2 (k := 3) (by assumption) rfl | exact room3 (by assumption) rfl | (simp only [recursionLimit, cLine] at *; lia))) (by (first | (show _ < _; decide) | exact room1 (k := 1) (by assumption) rfl | exact room2 (k := 3) (by assumption) rfl | exact room3 (by assumption) rfl | (simp only [recursionLimit, cLine] at *; lia))) ?_
  intro t4 h4 tk4 F4 N4
  clear F3
  rw [← hlast]
  (k_steps; (repeat' (unfold HandC; (with_unfolding_all refine' for_R (by assumption) (by rfl) (by rfl) (by rfl) ?_); k_steps)); (all_goals (try k_data)))
  · exfalso; lia
  rename Fr _ _ _ _ => F5
  rename News _ _ _ _ => N5
  refine sorted_strV rfl F5 N5 (by lia) ?_
  intro D h6 tk6 vs6 ss6 e6 F6 N6 hs6 hp6 ho6
  obtain rfl := sorted_abc hp6 ho6 hperm
  clear F5
  (k_steps; (repeat' (unfold HandC; (with_unfolding_all refine' for_R (by assumption) (by rfl) (by rfl) (by rfl) ?_); k_steps)); (all_goals (try k_data)))
  unfold HandC
  rename News _ _ _ _ => N7
  refine ne_strsK (News.isList N7 (.tail _ (.head _))) (News.isList N7 (.head _)) hs6 (ms := abcS) (.cons _ _ (.cons _ _ (.cons _ _ (.cons _ _ (.cons _ _ .nil))))) (Nat.le_of_ble_eq_true rfl) (by decide +kernel) (by decide +kernel) ?_
  simp only [decide_true, Bool.not_true]
  (k_steps; (repeat' (unfold HandC; (with_unfolding_all refine' for_R (by assumption) (by rfl) (by rfl) (by rfl) ?_); k_steps)); (all_goals (try k_data)))
  unfold HandC
  rename Fr _ _ _ _ => F8
  rename News _ _ _ _ => N8
  have offp : ∀ p ∈ [(lpt, listOf #[.str (patAt n g 0) v0, .str (patAt n g 1) v1, .str (patAt n g 2) v2, .str (patAt n g 3) v3, .str (patAt n g 4) v4] pve)], ∀ q ∈ (lf, listOf ⟨fv⟩ fe) :: (ldr, listOf ⟨dv⟩ de) :: (120, tabObj (tabPs c1 a.c)) :: R, p.1 ≠ q.1 := by
    intro q hq
    rw [List.mem_singleton.mp hq]
    exact List.forall_mem_cons.mpr ⟨Ne.symm f2, List.forall_mem_cons.mpr ⟨Ne.symm f3, List.forall_mem_cons.mpr ⟨Ne.symm h120p, fun q hq => Ne.symm (offR q hq).2.2⟩⟩⟩
  refine Ct.useV (mis_c lpt pve (patAt n g 0) (patAt n g 1) (patAt n g 2) (patAt n g 3) (patAt n g 4) last v0 v1 v2 v3 v4 _ (hpl 0 (by lia)) (hpl 1 (by lia)) (hpl 2 (by lia)) (hpl 3 (by lia)) (hpl 4 (by lia)) (by lia) hla offp) B F8 X (News.sub N8 mem_d2) T rfl (by (first | (show _ < _; decide) | exact room1 (k := 1) (by assumption) rfl | exact room2 (k := 3) (by assumption) rfl | exact room3 (by assumption) rfl | (simp only [recursionLimit, cLine] at *; lia))) (by (first | (show _ < _; decide) | exact room1 (k := 1) (by assumption) rfl | exact room2 (k := 3) (by assumption) rfl | exact room3 (by assumption) rfl | (simp only [recursionLimit, cLine] at *; lia))) ?_
  intro h9 tk9 F9 N9
  rw [hmist]
  (k_steps; (repeat' (unfold HandC; (with_unfolding_all refine' for_R (by assumption) (by rfl) (by rfl) (by rfl) ?_); k_steps)); (all_goals (try k_data)))
  rename_i r9 ra rb rc h10 tk10 Fx Nx r91 I9 h11 F11 N11 I91
  obtain ⟨I92, I93, I94, I95, I96, I97⟩ := I91
  have hnoI : ∀ q ∈ (lf, listOf ⟨fv⟩ fe) :: (ldr, listOf ⟨dv⟩ de) :: (120, tabObj (tabPs c1 a.c)) :: R, q.1 ≠ I9 := List.forall_mem_cons.mpr ⟨Nat.ne_of_lt I94, List.forall_mem_cons.mpr ⟨Nat.ne_of_lt I95, List.forall_mem_cons.mpr ⟨Nat.ne_of_lt I96, fun q hq => Nat.ne_of_lt (allLt_out I97 q hq)⟩⟩⟩
  obtain ⟨tl9, tf9, F13⟩ : ∃ (tl9 tf9 : Tok), Fr h₀ L h11 (up (LN3.zip [some (.str last tl9), some (.ref lf), some (.ref ldr), some (.str (frontAt n g 5) tf9)]) _) :=
    ⟨_, _, fr_cast F11 (up_four _ rfl rfl rfl rfl rfl)⟩
  refine LoopR.range LN4 (fun _ => K4 ((lf, listOf ⟨fv⟩ fe) :: (ldr, listOf ⟨dv⟩ de) :: (120, tabObj (tabPs c1 a.c)) :: R)) 5 hB F13 (News.sub N11 mem_d3) (K4.of (map4 _)) ?_ ?_ ?_
  · rintro i vals n' hIK
    induction hIK with
    | mk _ _ _ _ =>
    exact hnoI
  · rintro i vals n' o h12 tk12 t12 G12 hi hIK hG12 F12 N12
    induction hIK with
    | mk u0 u1 u2 u3 =>
    obtain ⟨left, right, near, h1, h2, ⟨h3, h3'⟩, ⟨h4, h4'⟩, h5, h6, h7⟩ := fo.told i hi
    obtain ⟨T', ta, tb, e1, e2⟩ := hdv i hi
    rw [← h5, ← h6] at e2
    have hN : depthF n g i = ((left + right + 1).toNat : Int) := by lia
    have hNe : (((left + right + 1).toNat : Nat) : Int) = left + right + 1 := by lia
    have hc1 := check1 fo.deed fo.dep hi hN (by lia)
    rw [hNe] at hc1
    have hfl := front_len n g i
    have hc2 : i < 3 → _ := fun hk3 => check2 fo.deed fo.dep hk3 hN (by lia) (by lia)
    rw [hNe, show left + right + 1 - 1 = left + right by lia] at hc2
    with_unfolding_all exact turn2 B X T last hl5 hla lf ldr fv dv fe de ((List.range 5).map (frontAt n g)) hfv ((120, tabObj (tabPs c1 a.c)) :: R) i hi t12 tl9 tf9 (frontAt n g 5) (frontAt n g i) (by rw [List.getElem?_map, List.getElem?_range hi]; rfl) left right near h1 h2 ⟨h3, by lia⟩ ⟨h4, by lia⟩ T' ta tb e1 (.tail _ e2) hc1 hc2 (by lia) u0 u1 u2 u3 hG12 F12 N12
  · rintro vals n' h12 tk12 G12 hIK hG12 F12 N12
    induction hIK with
    | mk u0 u1 u2 u3 =>
    unfold LN4 LN3 at F12
    (k_steps; (repeat' (unfold HandC; (with_unfolding_all refine' for_R (by assumption) (by rfl) (by rfl) (by rfl) ?_); k_steps)); (all_goals (try k_data)))
    unfold HandC
    rename Fr _ _ _ _ => F14
    rename News _ _ _ _ => N14
    obtain ⟨⟨d1, d2, d3, d4⟩, d5⟩ := check3 fo.deed fo.dep fo.dep5
    refine CtG.use (check_c _ _ d1 d2 d3 d4) B F14 X N14 T rfl (by (first | (show _ < _; decide) | exact room1 (k := 1) (by assumption) rfl | exact room2 (k := 3) (by assumption) rfl | exact room3 (by assumption) rfl | (simp only [recursionLimit, cLine] at *; lia))) (by (first | (show _ < _; decide) | exact room1 (k := 1) (by assumption) rfl | exact room2 (k := 3) (by assumption) rfl | exact room3 (by assumption) rfl | (simp only [recursionLimit, cLine] at *; lia))) hG12 ?_
    rintro _ h15 tk15 G15 hIK hG15 F15 N15
    induction hIK with
    | mk =>
    rw [d5]
    (k_steps; (repeat' (unfold HandC; (with_unfolding_all refine' for_R (by assumption) (by rfl) (by rfl) (by rfl) ?_); k_steps)); (all_goals (try k_data)))
    exact hQ _ _ _ _ _ _ hG15 F15 N15 (.tail _ (.tail _ (.head _)))
end
section
-- words without their signs: none is a gap, some j a letter of j dots
noncomputable abbrev AW := List (Option Nat)
noncomputable def dots (j : Nat) : Str := ⟨(List.replicate j 46).toArray⟩
noncomputable def conc (g : Str) : Option Nat → Str
  | none => g
  | some j => dots j
noncomputable def aGaps : AW → Nat
  | [] => 0
  | none :: r => aGaps r + 1
  | some _ :: r => aGaps r
noncomputable def aPut (deed : Nat) : AW := (if deed = 0 ∨ deed = 2 then [none] else []) ++ [some 1] ++ (if deed = 0 ∨ deed = 1 then [none] else [])
noncomputable def aPlace (deed : Nat) : Nat → AW → AW
  | _, [] => []
  | i, some j :: r => some j :: aPlace deed i r
  | 0, none :: r => aPut deed ++ r
  | i + 1, none :: r => none :: aPlace deed i r
noncomputable def aAge (ws : AW) : AW := ws.map fun | none => none | some j => some (j + 1)
noncomputable def aDeeds (gaps left : Nat) : List Nat := if gaps = left + 1 then [3] else if gaps = left then (if gaps = 1 then [1, 2] else [1, 2, 3]) else (if gaps = 1 then [0, 1, 2] else [0, 1, 2, 3])
-- the histories: for each turn its words, place and deed; and the last words
noncomputable def aHist : Nat → AW → List (List (AW × Nat × Nat) × AW)
  | 0, ws => [([], ws)]
  | k + 1, ws => (aDeeds (aGaps ws) k).flatMap fun d => (List.range (aGaps ws)).flatMap fun pl => (aHist k (aAge (aPlace d pl ws))).map fun h => ((ws, pl, d) :: h.1, h.2)
noncomputable def letA (c : Nat) (j : Nat) : Str := ⟨#[97 + (c + 1 - j)]⟩
noncomputable def patA (ws : AW) (c : Nat) : Str := ws.foldl (fun p w => match w with | none => p ++ "..." | some j => p ++ letA c j) ""
noncomputable def aDeed (n : Int) (ws : AW) (left : Int) : Int := deedF n (aGaps ws) left
noncomputable def aPl (n : Int) (ws : AW) : Int := (n.fdiv 4).fmod (aGaps ws)
noncomputable def absAt (n : Nat → Int) : Nat → AW
  | 0 => [none]
  | k + 1 => aAge (aPlace (aDeed (n k) (absAt n k) (4 - k)).toNat (aPl (n k) (absAt n k)).toNat (absAt n k))
-- each letter has a dot
noncomputable def LOK (ws : AW) : Prop := ∀ j, some j ∈ ws → 1 ≤ j
section
variable {g : Str} (hg : g.length = 1) (hd : g ≠ ".")
include hg hd
theorem dots_ne {j : Nat} : dots j ≠ g := by
  intro e
  have hl := congrArg Str.length e
  rw [hg] at hl
  have : j = 1 := by simpa [dots, Str.length] using hl
  subst this
  exact hd (by rw [← e]; decide)
theorem gaps_eq : ∀ ws : AW, gapsF (ws.map (conc g)) g = aGaps ws
  | [] => rfl
  | none :: r => by
    have ih := gaps_eq r
    unfold gapsF at ih ⊢
    have hs : Spec.same (PyData.str (conc g none)) (PyData.str g) = true := by simp [Spec.same, conc]
    show (if Spec.same (PyData.str (conc g none)) (PyData.str g) = true then (1 : Int) else 0) + Spec.countIn (.str g) ((r.map (conc g)).map PyData.str) = ((aGaps r + 1 : Nat) : Int)
    rw [if_pos hs, ih]; lia
  | some j :: r => by
    have ih := gaps_eq r
    unfold gapsF at ih ⊢
    have hs : ¬ Spec.same (PyData.str (conc g (some j))) (PyData.str g) = true := by
      show ¬ ((dots j == g) = true)
      simpa using dots_ne hg hd
    show (if Spec.same (PyData.str (conc g (some j))) (PyData.str g) = true then (1 : Int) else 0) + Spec.countIn (.str g) ((r.map (conc g)).map PyData.str) = ((aGaps r : Nat) : Int)
    rw [if_neg hs, ih]; lia
theorem pl_skip (deed place : Int) : ∀ (ws : AW) (acc : List Str) (met : Int), place < met → ((ws.map (conc g)).foldl (plStep g deed place) (acc, met)).1 = acc ++ ws.map (conc g)
  | [], acc, met, _ => by simp
  | none :: r, acc, met, h => by
    rw [List.map_cons, List.foldl_cons]
    have e : plStep g deed place (acc, met) (conc g none) = (acc ++ [g], met + 1) := by
      unfold plStep conc
      rw [if_neg (by simp), if_pos (by show met ≠ place; lia)]
    rw [e, pl_skip deed place r _ _ (by lia)]
    simp [conc]
  | some j :: r, acc, met, h => by
    rw [List.map_cons, List.foldl_cons]
    have e : plStep g deed place (acc, met) (conc g (some j)) = (acc ++ [dots j], met) := by
      unfold plStep conc
      rw [if_pos (by simpa using dots_ne hg hd)]
    rw [e, pl_skip deed place r _ _ h]
    simp [conc]
theorem pl_go (deed place : Nat) (h3 : deed ≤ 3) : ∀ (ws : AW) (acc : List Str) (met : Nat), met ≤ place → ((ws.map (conc g)).foldl (plStep g deed place) (acc, (met : Int))).1 = acc ++ (aPlace deed (place - met) ws).map (conc g)
  | [], acc, met, _ => by simp [aPlace]
  | some j :: r, acc, met, h => by
    rw [List.map_cons, List.foldl_cons]
    have e : plStep g deed place (acc, (met : Int)) (conc g (some j)) = (acc ++ [dots j], (met : Int)) := by
      unfold plStep conc
      rw [if_pos (by simpa using dots_ne hg hd)]
    rw [e, pl_go deed place h3 r _ _ h]
    have e2 : aPlace deed (place - met) (some j :: r) = some j :: aPlace deed (place - met) r := by cases (place - met) <;> rfl
    rw [e2]
    simp [conc]
  | none :: r, acc, met, h => by
    rw [List.map_cons, List.foldl_cons]
    by_cases hm : met = place
    · subst hm
      have e : plStep g deed met (acc, (met : Int)) (conc g none) = (acc ++ (aPut deed).map (conc g), (met : Int) + 1) := by
        unfold plStep conc
        rw [if_neg (by simp), if_neg (by simp)]
        have hdd : deed = 0 ∨ deed = 1 ∨ deed = 2 ∨ deed = 3 := by lia
        have d1 : dots 1 = "." := by decide
        rcases hdd with rfl | rfl | rfl | rfl <;> simp [aPut, conc, d1]
      rw [e, pl_skip hg hd _ _ r _ _ (by lia), Nat.sub_self]
      simp [aPlace]
    · have e : plStep g deed place (acc, (met : Int)) (conc g none) = (acc ++ [g], ((met + 1 : Nat) : Int)) := by
        unfold plStep conc
        rw [if_neg (by simp), if_pos (by show (met : Int) ≠ place; lia)]
        rfl
      rw [e, pl_go deed place h3 r _ _ (by lia), show place - met = (place - (met + 1)) + 1 by lia]
      simp [aPlace, conc]
theorem placed_eq (deed place : Int) (h0 : 0 ≤ deed) (h3 : deed ≤ 3) (hp : 0 ≤ place) (ws : AW) : placedF (ws.map (conc g)) g deed place = (aPlace deed.toNat place.toNat ws).map (conc g) := by
  unfold placedF
  have h := pl_go hg hd deed.toNat place.toNat (by lia) ws [] 0 (Nat.zero_le _)
  rw [show ((deed.toNat : Nat) : Int) = deed by lia, show ((place.toNat : Nat) : Int) = place by lia] at h
  simpa using h
theorem aged_eq (ws : AW) : aged g (ws.map (conc g)) = (aAge ws).map (conc g) := by
  unfold aged aAge
  rw [List.map_map, List.map_map]
  refine List.map_congr_left fun w _ => ?_
  cases w with
  | none => simp [conc]
  | some j =>
    show (if (dots j == g) = true then g else "." ++ dots j) = dots (j + 1)
    rw [if_neg (by simpa using dots_ne hg hd)]
    have : ((Str.ofString ".") ++ dots j).cps = (dots (j + 1)).cps := by
      rw [Str.cps_append, show (Str.ofString ".").cps = #[46] by decide]
      apply Array.ext'
      simp [dots, List.replicate_succ]
    exact congrArg Str.mk this
theorem pat_eq (c : Nat) : ∀ (ws : AW) (p : Str), (∀ j, some j ∈ ws → 1 ≤ j ∧ j ≤ c + 1 ∧ c + 1 - j < 5) → (ws.map (conc g)).foldl (patStep g c) p = ws.foldl (fun p w => match w with | none => p ++ "..." | some j => p ++ letA c j) p
  | [], p, _ => rfl
  | none :: r, p, h => by
    rw [List.map_cons, List.foldl_cons, List.foldl_cons, pat_eq c r _ fun j hj => h j (.tail _ hj)]
    congr 1
    unfold patStep conc
    rw [if_pos rfl]
  | some j :: r, p, h => by
    rw [List.map_cons, List.foldl_cons, List.foldl_cons, pat_eq c r _ fun j hj => h j (.tail _ hj)]
    congr 1
    have hj := h j (.head _)
    unfold patStep conc
    rw [if_neg (by show ¬ dots j = g; exact dots_ne hg hd)]
    have hl : (dots j).length = j := by simp [dots, Str.length]
    show p ++ Txt.item (Str.ofString "abcde") ((c : Int) + 1 - (dots j).length) = p ++ letA c j
    rw [hl, show (c : Int) + 1 - j = ((c + 1 - j : Nat) : Int) by lia]
    have key : ∀ i, i < 5 → Txt.item (Str.ofString "abcde") ((i : Nat) : Int) = (⟨#[97 + i]⟩ : Str) := by decide
    rw [key _ hj.2.2]
    rfl
end
theorem deed_mem (q : Int) (gaps left : Nat) (hq : 0 ≤ q) (h1 : 1 ≤ gaps) (h2 : gaps ≤ left + 1) : 0 ≤ deedF q gaps left ∧ deedF q gaps left ≤ 3 ∧ (deedF q gaps left).toNat ∈ aDeeds gaps left := by
  have m1 := Int.fmod_nonneg_of_pos q (show (0 : Int) < 4 by decide)
  have m2 := Int.fmod_lt_of_pos q (show (0 : Int) < 4 by decide)
  have hm : q.fmod 4 = 0 ∨ q.fmod 4 = 1 ∨ q.fmod 4 = 2 ∨ q.fmod 4 = 3 := by lia
  unfold deedF aDeeds
  by_cases a : gaps = left + 1
  · rw [if_pos (by lia), if_pos a]; simp
  · rw [if_neg (by lia), if_neg a]
    by_cases b : gaps = left
    · rw [if_pos b]
      by_cases c : gaps = 1
      · rw [if_pos c]
        rcases hm with h | h | h | h <;> rw [h] <;> simp <;> (repeat' split) <;> simp <;> lia
      · rw [if_neg c]
        rcases hm with h | h | h | h <;> rw [h] <;> simp <;> (repeat' split) <;> simp <;> lia
    · rw [if_neg b]
      by_cases c : gaps = 1
      · rw [if_pos c]
        rcases hm with h | h | h | h <;> rw [h] <;> simp <;> (repeat' split) <;> simp <;> lia
      · rw [if_neg c]
        rcases hm with h | h | h | h <;> rw [h] <;> simp <;> (repeat' split) <;> simp <;> lia
end
section
noncomputable def sg (l : List Nat) : List Str := l.map fun c => ⟨#[c]⟩
theorem sg_app (a b : List Nat) : sg (a ++ b) = sg a ++ sg b := List.map_append
theorem isIn_one (c : Nat) (x : Str) : isIn ⟨#[c]⟩ x = decide (c ∈ x.cps.toList) := StrLaws.found_one x c
noncomputable def White (c : Nat) : Prop := c = 10 ∨ c = 9 ∨ c = 13 ∨ c = 32
theorem ws_in {c : Nat} (h : White c) : isIn ⟨#[c]⟩ "\n\t\r " = true := by
  rw [isIn_one, show (Str.ofString "\n\t\r ").cps.toList = [10, 9, 13, 32] by decide]
  rcases h with rfl | rfl | rfl | rfl <;> decide
theorem ws_out {c : Nat} (h : ¬ White c) : isIn ⟨#[c]⟩ "\n\t\r " = false := by
  rw [isIn_one, show (Str.ofString "\n\t\r ").cps.toList = [10, 9, 13, 32] by decide]
  refine decide_eq_false fun hm => h ?_
  simpa [White] using hm
theorem q_eq (c : Nat) : ((⟨#[c]⟩ : Str) == "\"") = (c == 34) := by
  by_cases h : c = 34
  · subst h; decide
  · rw [one_ne h]; simp [h]
theorem tok_skip : ∀ (W : List Nat) (X : List Str), (∀ c ∈ W, White c) → tokF (sg W ++ X) = tokF X
  | [], X, _ => rfl
  | c :: r, X, h => by
    show tokF (⟨#[c]⟩ :: (sg r ++ X)) = _
    rw [tok_ws (ws_in (h c (.head _))), tok_skip r X fun d hd => h d (.tail _ hd)]
theorem words_skip {W : List Nat} {X : List Str} {ws fin : List Str} (hW : ∀ c ∈ W, White c) (h : Words [] X ws fin) : Words [] (sg W ++ X) ws fin := by
  cases h with
  | done h => exact .done (by rw [tok_skip W X hW]; exact h)
  | more h hx hr => exact .more (by rw [tok_skip W X hW]; exact h) hx hr
-- r reads as v: either as a bare word or as a shut one
noncomputable def RW (r : List Nat) (v : Str) : Prop := (∀ Z, tokF (sg r ++ Z) = wordF Z v) ∨ (∀ Z, tokF (sg r ++ Z) = (v, Z))
theorem str_app_empty (v : Str) : ("" : Str) ++ v = v := by
  have : (("" : Str) ++ v).cps = v.cps := by rw [Str.cps_append, show (Str.ofString "").cps = #[] by decide, Array.empty_append]
  exact congrArg Str.mk this
theorem word_dots : ∀ (m : Nat) (tk : Str) (Z : List Str), wordF (sg (List.replicate m 46) ++ Z) tk = wordF Z (tk ++ dots m)
  | 0, tk, Z => by
    have : tk ++ dots 0 = tk := by
      have : (tk ++ dots 0).cps = tk.cps := by rw [Str.cps_append]; simp [dots]
      exact congrArg Str.mk this
    rw [this]; rfl
  | m + 1, tk, Z => by
    show wordF (⟨#[46]⟩ :: (sg (List.replicate m 46) ++ Z)) tk = _
    rw [word_w (ws_out (by simp [White])) (by decide), word_dots m]
    congr 1
    have : (tk ++ (⟨#[46]⟩ : Str) ++ dots m).cps = (tk ++ dots (m + 1)).cps := by
      rw [Str.cps_append, Str.cps_append, Str.cps_append]
      apply Array.ext'
      simp [dots, List.replicate_succ]
    exact congrArg Str.mk this
theorem rw_dots (m : Nat) : RW (List.replicate (m + 1) 46) (dots (m + 1)) := by
  refine .inl fun Z => ?_
  show tokF (⟨#[46]⟩ :: (sg (List.replicate m 46) ++ Z)) = _
  rw [tok_w (ws_out (by simp [White])) (by decide) (by decide), word_dots]
  congr 1
  have : (("" : Str) ++ (⟨#[46]⟩ : Str) ++ dots m).cps = (dots (m + 1)).cps := by
    rw [Str.cps_append, Str.cps_append]
    apply Array.ext'
    rw [show (Str.ofString "").cps = #[] by decide]
    simp [dots, List.replicate_succ]
  exact congrArg Str.mk this
theorem rw_back (c : Nat) : RW [92, c] ⟨#[c]⟩ := by
  refine .inl fun Z => ?_
  show tokF (⟨#[92]⟩ :: ⟨#[c]⟩ :: Z) = _
  rw [tok_b (ws_out (by simp [White])) (by decide) (by decide), str_app_empty]
theorem rw_quote {c : Nat} (h1 : c ≠ 34) (h2 : c ≠ 92) : RW [34, c, 34] ⟨#[c]⟩ := by
  refine .inr fun Z => ?_
  show tokF (⟨#[34]⟩ :: ⟨#[c]⟩ :: ⟨#[34]⟩ :: Z) = _
  rw [tok_q (ws_out (by simp [White])) (by decide), quote_w (one_ne h1) (by rw [esc_eq]; simp [h2]), quote_e (by decide), str_app_empty]
theorem rw_quoteb (c : Nat) : RW [34, 92, c, 34] ⟨#[c]⟩ := by
  refine .inr fun Z => ?_
  show tokF (⟨#[34]⟩ :: ⟨#[92]⟩ :: ⟨#[c]⟩ :: ⟨#[34]⟩ :: Z) = _
  rw [tok_q (ws_out (by simp [White])) (by decide), quote_b (by decide) (by decide), quote_e (by decide), str_app_empty]
theorem rw_bare {c : Nat} (h0 : ¬ White c) (h1 : c ≠ 34) (h2 : c ≠ 92) : RW [c] ⟨#[c]⟩ := by
  refine .inl fun Z => ?_
  show tokF (⟨#[c]⟩ :: Z) = _
  rw [tok_w (ws_out h0) (one_ne h1) (by rw [esc_eq]; simp [h2]), str_app_empty]
-- a row of a mail: what it is, its blanks and what it reads as
structure Item where
  r : List Nat
  b : List Nat
  e : List Nat
  v : Str
structure Item.OK (t : Item) : Prop where
  rw : RW (if t.r.head? = some 46 then 46 :: t.r else t.r) t.v
  v0 : t.v ≠ ""
  r0 : t.r ≠ []
  plain : ∀ c ∈ t.r ++ t.b, c ≠ 10 ∧ c ≠ 13
  b1 : t.b = [] ∨ t.b = [32] ∨ t.b = [9]
noncomputable def dotD (l : List Nat) : List Nat := if l.head? = some 46 then 46 :: l else l
noncomputable def txtI : List Item → List Nat
  | [] => []
  | t :: r => t.r ++ t.b ++ t.e ++ txtI r
noncomputable def dueI : List Item → List Nat
  | [] => []
  | t :: r => dotD (t.r ++ t.b) ++ (if t.e = [] then [] else [13, 10]) ++ dueI r
-- the ends: one of three, and none at the last row alone
noncomputable def EndsOK : List Item → Prop
  | [] => True
  | [t] => t.e = [] ∨ t.e = [10] ∨ t.e = [13] ∨ t.e = [13, 10]
  | t :: u :: r => (t.e = [10] ∨ t.e = [13] ∨ t.e = [13, 10]) ∧ EndsOK (u :: r)
theorem crlf_pass : ∀ (l X : List Nat), (∀ c ∈ l, c ≠ 10 ∧ c ≠ 13) → crlfF (l ++ X) = l ++ crlfF X
  | [], X, _ => rfl
  | c :: r, X, h => by
    have hc := h c (.head _)
    rw [List.cons_append, crlf_plain hc.2 hc.1, crlf_pass r X fun d hd => h d (.tail _ hd), List.cons_append]
theorem crlf_end {e X : List Nat} (he : e = [10] ∨ e = [13] ∨ e = [13, 10]) (hX : X.head? ≠ some 10) : crlfF (e ++ X) = 13 :: 10 :: crlfF X := by
  rcases he with rfl | rfl | rfl
  · cases X with
    | nil => simp [crlfF]
    | cons d r => simp [crlfF]
  · cases X with
    | nil => simp [crlfF]
    | cons d r =>
      have : d ≠ 10 := fun h => hX (by rw [h]; rfl)
      simp [crlfF, this]
  · simp [crlfF]
theorem dot_pass : ∀ (l X : List Nat), (∀ c ∈ l, c ≠ 10) → dotF false (l ++ X) = l ++ dotF false X
  | [], X, _ => rfl
  | c :: r, X, h => by
    have hc := h c (.head _)
    rw [List.cons_append, dotF, if_neg (by simp), show (c == 10) = false by simp [hc], dot_pass r X fun d hd => h d (.tail _ hd), List.cons_append]
theorem dot_row {l X : List Nat} (h0 : l ≠ []) (h : ∀ c ∈ l, c ≠ 10) : dotF true (l ++ X) = dotD l ++ dotF false X := by
  cases l with
  | nil => exact absurd rfl h0
  | cons c r =>
    have hc := h c (.head _)
    have hr := dot_pass r X fun d hd => h d (.tail _ hd)
    rw [List.cons_append, dotF]
    unfold dotD
    by_cases h46 : c = 46
    · subst h46
      rw [if_pos ⟨rfl, rfl⟩, hr, if_pos (show (46 :: r).head? = some 46 from rfl)]; rfl
    · rw [if_neg (by simp [h46]), show (c == 10) = false by simp [hc], hr, if_neg (by simp [h46])]; rfl
theorem head_txt {t : Item} {r : List Item} (ht : t.OK) : (txtI (t :: r)).head? ≠ some 10 := by
  have h0 := ht.r0
  have hp := ht.plain
  cases hr : t.r with
  | nil => exact absurd hr h0
  | cons c l =>
    rw [hr] at hp
    have := (hp c (.head _)).1
    simp [txtI, hr, this]
theorem quote_items : ∀ (I : List Item), (∀ t ∈ I, t.OK) → EndsOK I → dotF true (crlfF (txtI I)) = dueI I
  | [], _, _ => rfl
  | [t], h, he => by
    have ht := h t (.head _)
    have hne : t.r ++ t.b ≠ [] := by have := ht.r0; simp [this]
    have hrow := fun X => dot_row (l := t.r ++ t.b) (X := X) hne fun c hc => (ht.plain c hc).1
    simp only [txtI, dueI, List.append_nil]
    rw [crlf_pass _ _ ht.plain]
    by_cases e0 : t.e = []
    · rw [e0, if_pos rfl, show crlfF [] = [] by simp [crlfF], hrow]
      simp [dotF]
    · have he' : t.e = [10] ∨ t.e = [13] ∨ t.e = [13, 10] := by
        rcases he with h | h
        · exact absurd h e0
        · exact h
      have := crlf_end (X := []) he' (by simp)
      rw [List.append_nil] at this
      rw [this, if_neg e0, hrow]
      simp [dotF, crlfF]
  | t :: u :: r, h, he => by
    have ht := h t (.head _)
    have hne : t.r ++ t.b ≠ [] := by have := ht.r0; simp [this]
    have ih := quote_items (u :: r) (fun x hx => h x (.tail _ hx)) he.2
    have e0 : t.e ≠ [] := by rcases he.1 with h | h | h <;> rw [h] <;> simp
    show dotF true (crlfF (t.r ++ t.b ++ t.e ++ txtI (u :: r))) = dotD (t.r ++ t.b) ++ (if t.e = [] then [] else [13, 10]) ++ dueI (u :: r)
    rw [List.append_assoc, crlf_pass _ _ ht.plain, crlf_end he.1 (head_txt (h u (.tail _ (.head _)))), dot_row hne (fun c hc => (ht.plain c hc).1), if_neg e0, ← ih]
    simp [dotF]
theorem words_items : ∀ (I : List Item), (∀ t ∈ I, t.OK) → EndsOK I → Words [] (sg (dueI I)) (I.map (·.v)) []
  | [], _, _ => .done rfl
  | t :: r, h, he => by
    have ht := h t (.head _)
    have ih := words_items r (fun x hx => h x (.tail _ hx)) (by
      cases r with
      | nil => trivial
      | cons u r => exact he.2)
    have hb : ∀ c ∈ t.b, White c := fun c hc => by
      rcases ht.b1 with h | h | h <;> rw [h] at hc <;> simp at hc <;> subst hc <;> simp [White]
    have hD : dotD (t.r ++ t.b) = dotD t.r ++ t.b := by
      unfold dotD
      have := ht.r0
      cases hr : t.r with
      | nil => exact absurd hr this
      | cons c l =>
        by_cases h46 : c = 46
        · simp [h46]
        · simp [h46]
    have hR : RW (dotD t.r) t.v := ht.rw
    show Words [] (sg (dotD (t.r ++ t.b) ++ (if t.e = [] then [] else [13, 10]) ++ dueI r)) (t.v :: r.map (·.v)) []
    rw [hD, sg_app, sg_app, sg_app, List.append_assoc, List.append_assoc]
    have hE : ∀ c ∈ (if t.e = [] then ([] : List Nat) else [13, 10]), White c := fun c hc => by
      split at hc
      · simp at hc
      · simp at hc; rcases hc with rfl | rfl <;> simp [White]
    have hall : ∀ c ∈ t.b ++ (if t.e = [] then ([] : List Nat) else [13, 10]), White c := fun c hc => by
      rcases List.mem_append.mp hc with h | h
      · exact hb c h
      · exact hE c h
    have hlast : t.e = [] → r = [] := fun e => by
      cases r with
      | nil => rfl
      | cons u r' => exfalso; rcases he.1 with h | h | h <;> rw [h] at e <;> simp at e
    rcases hR with hR | hR
    · -- a bare word: the next sign ends it
      generalize hW : t.b ++ (if t.e = [] then ([] : List Nat) else [13, 10]) = W at hall
      have e1 : sg (dotD t.r) ++ (sg t.b ++ (sg (if t.e = [] then [] else [13, 10]) ++ sg (dueI r))) = sg (dotD t.r) ++ (sg W ++ sg (dueI r)) := by
        rw [← hW, sg_app, List.append_assoc]
      rw [e1]
      cases W with
      | nil =>
        have e0 : t.e = [] := by
          by_cases e : t.e = []
          · exact e
          · rw [if_neg e] at hW; simp at hW
        have hr := hlast e0
        subst hr
        exact .more (by rw [hR]; rfl) ht.v0 ih
      | cons c W' =>
        refine .more (r := sg W' ++ sg (dueI r)) ?_ ht.v0 (words_skip (fun d hd => hall d (.tail _ hd)) ih)
        rw [hR]
        show wordF (⟨#[c]⟩ :: (sg W' ++ sg (dueI r))) t.v = _
        rw [word_ws (ws_in (hall c (.head _)))]
    · refine .more (hR _) ht.v0 ?_
      rw [← List.append_assoc, ← sg_app]
      exact words_skip hall ih
end
section
theorem txtI_app : ∀ (A : List Item) (t : Item), txtI (A ++ [t]) = txtI A ++ (t.r ++ t.b ++ t.e)
  | [], t => by simp [txtI]
  | a :: A, t => by
    have ih := txtI_app A t
    simp only [List.cons_append, txtI, ih, List.append_assoc]
theorem dueI_app : ∀ (A : List Item) (t : Item), dueI (A ++ [t]) = dueI A ++ (dotD (t.r ++ t.b) ++ (if t.e = [] then [] else [13, 10]))
  | [], t => by simp [dueI]
  | a :: A, t => by
    have ih := dueI_app A t
    simp only [List.cons_append, dueI, ih, List.append_assoc]
noncomputable def ageO : Option Nat → Option Nat
  | none => none
  | some j => some (j + 1)
noncomputable def mkI (g : Str) (num : Int) (len i : Nat) (w : Option Nat) : Item :=
  ⟨(rowG (conc g w) g (writtenF g num)).cps.toList, (pick3 "" " " "\t" ((num.fdiv 3456 + i).fmod 3)).cps.toList, (mailEnd num len i).cps.toList, conc g (ageO w)⟩
theorem toList_inj {a b : Str} (h : a.cps.toList = b.cps.toList) : a = b := congrArg Str.mk (Array.toList_inj.mp h)
theorem item0 {x : Str} {c : Nat} {l : List Nat} (h : x.cps.toList = c :: l) : Txt.item x 0 = ⟨#[c]⟩ := by
  have h0 : x.cps[0]? = some c := by rw [← Array.getElem?_toList, h]; rfl
  have hl : 0 < x.length := by
    show 0 < x.cps.size
    rw [← Array.length_toList, h]; simp
  unfold Txt.item Txt.charAt
  have : seqIndex? 0 x.length = some 0 := by
    unfold seqIndex?
    simp; lia
  rw [this]
  simp [h0]
theorem mail_flat {g : Str} {num : Int} {L : AW} (hne : ∀ w ∈ L, (mkI g num L.length 0 w).r ≠ []) : ∀ k, k ≤ L.length →
    (mailAt (L.map (conc g)) g num k).1.cps.toList = txtI ((List.range k).map fun i => mkI g num L.length i (L.getD i none)) ∧ (mailAt (L.map (conc g)) g num k).2.cps.toList = dueI ((List.range k).map fun i => mkI g num L.length i (L.getD i none))
  | 0, _ => by
    have : (Str.ofString "").cps.toList = [] := by decide
    exact ⟨this, this⟩
  | k + 1, hk => by
    obtain ⟨i1, i2⟩ := mail_flat hne k (by lia)
    have hget : (L.map (conc g)).getD k Str.empty = conc g (L.getD k none) := by
      simp [List.getD_eq_getElem?_getD, List.getElem?_map, List.getElem?_eq_getElem (show k < L.length by lia)]
    have hm : L.getD k none ∈ L := by
      rw [List.getD_eq_getElem?_getD, List.getElem?_eq_getElem (show k < L.length by lia)]
      exact List.getElem_mem _
    have hr0 : (rowG (conc g (L.getD k none)) g (writtenF g num)).cps.toList ≠ [] := hne _ hm
    unfold mailAt
    rw [hget, List.range_succ, List.map_append, List.map_cons, List.map_nil, txtI_app, dueI_app, ← i1, ← i2, List.length_map]
    have hrow : (mailRow g num k (conc g (L.getD k none))).cps.toList = (mkI g num L.length k (L.getD k none)).r ++ (mkI g num L.length k (L.getD k none)).b := by
      unfold mailRow mkI
      rw [Str.cps_append, Array.toList_append]
    generalize hR : mailRow g num k (conc g (L.getD k none)) = row at hrow ⊢
    dsimp only
    refine ⟨?_, ?_⟩
    · rw [Str.cps_append, Str.cps_append, Array.toList_append, Array.toList_append, hrow]
      simp [mkI]
    · have hdot : (dotted row (mailAt (L.map (conc g)) g num k).2).cps.toList ++ row.cps.toList = (mailAt (L.map (conc g)) g num k).2.cps.toList ++ dotD (row.cps.toList) := by
        have hne2 : row.cps.toList ≠ [] := by rw [hrow]; simp [mkI]; intro h; exact absurd h (by simpa using hr0)
        cases hc : row.cps.toList with
        | nil => exact absurd hc hne2
        | cons c l =>
          unfold dotted dotD
          rw [item0 hc]
          by_cases h46 : c = 46
          · subst h46
            rw [if_pos (by decide), Str.cps_append, Array.toList_append, show (Str.ofString ".").cps.toList = [46] by decide]
            simp
          · have : ((⟨#[c]⟩ : Str) == ".") = false := by
              have e : (Str.ofString ".") = ⟨#[46]⟩ := by decide
              rw [e]; exact lone_ne h46
            rw [if_neg (by rw [this]; decide)]
            simp [h46]
      rw [hrow] at hdot
      have he : (mailEnd num L.length k != "") = true ↔ (mkI g num L.length k (L.getD k none)).e ≠ [] := by
        unfold mkI
        dsimp only
        constructor
        · intro h e
          have : mailEnd num L.length k = "" := toList_inj (by rw [e]; decide)
          rw [this] at h
          revert h; decide
        · intro h
          by_cases e : mailEnd num L.length k = ""
          · exact absurd (by rw [e]; decide) h
          · simpa using e
      by_cases e0 : (mkI g num L.length k (L.getD k none)).e = []
      · rw [if_neg (fun h => he.mp h e0), if_pos e0, Str.cps_append, Array.toList_append, hrow, hdot, List.append_nil]
      · rw [if_pos (he.mpr e0), if_neg e0, Str.cps_append, Str.cps_append, Array.toList_append, Array.toList_append, hrow, hdot, show (Str.ofString "\r\n").cps.toList = [13, 10] by decide, List.append_assoc]
theorem ends_of : ∀ (I : List Item), (∀ i, i + 1 < I.length → ∀ t, I[i]? = some t → (t.e = [10] ∨ t.e = [13] ∨ t.e = [13, 10])) → (∀ t ∈ I, t.e = [] ∨ t.e = [10] ∨ t.e = [13] ∨ t.e = [13, 10]) → EndsOK I
  | [], _, _ => trivial
  | [t], _, h => h t (.head _)
  | t :: u :: r, h1, h2 => ⟨h1 0 (by simp) t rfl, ends_of (u :: r) (fun i hi x hx => h1 (i + 1) (by simp at hi ⊢; lia) x hx) fun x hx => h2 x (.tail _ hx)⟩
theorem pick_e (a b c : Str) (j : Int) : pick3 a b c j = a ∨ pick3 a b c j = b ∨ pick3 a b c j = c := by
  unfold pick3
  split
  · exact .inl rfl
  · split
    · exact .inr (.inl rfl)
    · exact .inr (.inr rfl)
theorem end_e (num : Int) (len i : Nat) : ((mailEnd num len i).cps.toList = [] ∧ i + 1 = len) ∨ (mailEnd num len i).cps.toList = [10] ∨ (mailEnd num len i).cps.toList = [13] ∨ (mailEnd num len i).cps.toList = [13, 10] := by
  unfold mailEnd
  split
  · rename_i h
    exact .inl ⟨by decide, by lia⟩
  · rcases pick_e "\n" "\r" "\r\n" ((num.fdiv 192 + i).fmod 3) with h | h | h <;> rw [h]
    · exact .inr (.inl (by decide))
    · exact .inr (.inr (.inl (by decide)))
    · exact .inr (.inr (.inr (by decide)))
end
section
noncomputable def G8 : List Nat := [97, 32, 9, 34, 92, 35, 11, 160]
theorem gap_c {g : Str} (h : GapOK g) : ∃ c ∈ G8, g = ⟨#[c]⟩ := by
  obtain ⟨j, h0, h1, rfl⟩ := h
  have hj : j = ((j.toNat : Nat) : Int) := by lia
  have key : ∀ i, i < 8 → Txt.item (Str.ofString "a \t\"\\#\x0b\xa0") ((i : Nat) : Int) = ⟨#[G8.getD i 0]⟩ := by decide
  refine ⟨G8.getD j.toNat 0, ?_, ?_⟩
  · have : ∀ i, i < 8 → G8.getD i 0 ∈ G8 := by decide
    exact this _ (by lia)
  · rw [hj, key _ (by lia)]
    congr 4
theorem g8_ne {c : Nat} (h : c ∈ G8) : c ≠ 46 ∧ c ≠ 10 ∧ c ≠ 13 ∧ c < 0x110000 := by
  have : ∀ c ∈ G8, c ≠ 46 ∧ c ≠ 10 ∧ c ≠ 13 ∧ c < 0x110000 := by decide
  exact this c h
theorem written_c {c : Nat} (h : c ∈ G8) (num : Int) : ∃ l, (writtenF ⟨#[c]⟩ num).cps.toList = l ∧ RW l ⟨#[c]⟩ ∧ l ≠ [] ∧ (∀ d ∈ l, d ≠ 10 ∧ d ≠ 13) ∧ l.head? ≠ some 46 := by
  obtain ⟨n46, n10, n13, _⟩ := g8_ne h
  have q : (Str.ofString "\"").cps = #[34] := by decide
  have qb : (Str.ofString "\"\\").cps = #[34, 92] := by decide
  have b : (Str.ofString "\\").cps = #[92] := by decide
  have e1 : isIn ⟨#[c]⟩ "\"\\" = decide (c ∈ [34, 92]) := by rw [isIn_one, show (Str.ofString "\"\\").cps.toList = [34, 92] by decide]
  have e2 : isIn ⟨#[c]⟩ " \t\"\\" = decide (c ∈ [32, 9, 34, 92]) := by rw [isIn_one, show (Str.ofString " \t\"\\").cps.toList = [32, 9, 34, 92] by decide]
  unfold writtenF
  split
  · split
    · refine ⟨[34, 92, c, 34], ?_, rw_quoteb c, by simp, ?_, by simp⟩
      · rw [Str.cps_append, Str.cps_append, qb, q]; rfl
      · intro d hd; simp at hd; lia
    · rename_i hn
      rw [e1] at hn
      have hn' : c ≠ 34 ∧ c ≠ 92 := by simpa using hn
      refine ⟨[34, c, 34], ?_, rw_quote hn'.1 hn'.2, by simp, ?_, by simp⟩
      · rw [Str.cps_append, Str.cps_append, q]; rfl
      · intro d hd; simp at hd; lia
  · split
    · rename_i hn
      have hn2 := hn.2
      rw [e2] at hn2
      have hn' : c ≠ 32 ∧ c ≠ 9 ∧ c ≠ 34 ∧ c ≠ 92 := by simpa using hn2
      refine ⟨[c], rfl, rw_bare (fun hw => ?_) hn'.2.2.1 hn'.2.2.2, by simp, ?_, by simpa using n46⟩
      · rcases hw with h | h | h | h <;> lia
      · intro d hd; simp at hd; lia
    · refine ⟨[92, c], ?_, rw_back c, by simp, ?_, by simp⟩
      · rw [Str.cps_append, b]; rfl
      · intro d hd; simp at hd; lia
theorem blank_c (j : Int) : (pick3 "" " " "\t" j).cps.toList = [] ∨ (pick3 "" " " "\t" j).cps.toList = [32] ∨ (pick3 "" " " "\t" j).cps.toList = [9] := by
  rcases pick_e "" " " "\t" j with h | h | h <;> rw [h]
  · exact .inl (by decide)
  · exact .inr (.inl (by decide))
  · exact .inr (.inr (by decide))
theorem dots_len (j : Nat) : (dots j).length = j := by simp [dots, Str.length]
theorem item_ok {c : Nat} (h : c ∈ G8) (num : Int) (len i : Nat) (w : Option Nat) (hw : ∀ j, w = some j → 1 ≤ j) : (mkI ⟨#[c]⟩ num len i w).OK := by
  have gl : (⟨#[c]⟩ : Str).length = 1 := rfl
  have gd : (⟨#[c]⟩ : Str) ≠ "." := by
    have e : (Str.ofString ".") = ⟨#[46]⟩ := by decide
    intro hc
    rw [e] at hc
    have := congrArg (fun z : Str => z.cps.toList) hc
    simp at this
    exact (g8_ne h).1 this
  have hb := blank_c ((num.fdiv 3456 + i).fmod 3)
  have hbp : ∀ d ∈ (pick3 "" " " "\t" ((num.fdiv 3456 + i).fmod 3)).cps.toList, d ≠ 10 ∧ d ≠ 13 := by
    intro d hd
    rcases hb with e | e | e <;> rw [e] at hd <;> simp at hd <;> lia
  cases w with
  | none =>
    obtain ⟨l, e, h1, h2, h3, h4⟩ := written_c h num
    have er : (rowG (conc ⟨#[c]⟩ none) ⟨#[c]⟩ (writtenF ⟨#[c]⟩ num)).cps.toList = l := by
      unfold rowG conc; rw [if_pos (by simp)]; exact e
    refine ⟨?_, ?_, ?_, ?_, hb⟩
    · show RW (if (rowG (conc ⟨#[c]⟩ none) ⟨#[c]⟩ (writtenF ⟨#[c]⟩ num)).cps.toList.head? = some 46 then _ else _) ⟨#[c]⟩
      rw [er, if_neg h4]
      show RW (rowG (conc ⟨#[c]⟩ none) ⟨#[c]⟩ (writtenF ⟨#[c]⟩ num)).cps.toList _
      rw [er]; exact h1
    · show (⟨#[c]⟩ : Str) ≠ ""
      exact len_pos_ne (by rw [gl]; exact Nat.le_refl _)
    · show (rowG (conc ⟨#[c]⟩ none) ⟨#[c]⟩ (writtenF ⟨#[c]⟩ num)).cps.toList ≠ []
      rw [er]; exact h2
    · show ∀ d ∈ (rowG (conc ⟨#[c]⟩ none) ⟨#[c]⟩ (writtenF ⟨#[c]⟩ num)).cps.toList ++ _, _
      rw [er]
      intro d hd
      rcases List.mem_append.mp hd with hd | hd
      · exact h3 d hd
      · exact hbp d hd
  | some j =>
    have hj := hw j rfl
    obtain ⟨j', rfl⟩ : ∃ j', j = j' + 1 := ⟨j - 1, by lia⟩
    have er : (rowG (conc ⟨#[c]⟩ (some (j' + 1))) ⟨#[c]⟩ (writtenF ⟨#[c]⟩ num)).cps.toList = List.replicate (j' + 1) 46 := by
      unfold rowG conc
      rw [if_neg (by simpa using dots_ne gl gd)]
      simp [dots]
    refine ⟨?_, ?_, ?_, ?_, hb⟩
    · show RW (if (rowG (conc ⟨#[c]⟩ (some (j' + 1))) ⟨#[c]⟩ (writtenF ⟨#[c]⟩ num)).cps.toList.head? = some 46 then 46 :: (rowG (conc ⟨#[c]⟩ (some (j' + 1))) ⟨#[c]⟩ (writtenF ⟨#[c]⟩ num)).cps.toList else _) (dots (j' + 1 + 1))
      rw [er, if_pos (by simp [List.replicate_succ])]
      exact rw_dots (j' + 1)
    · show dots (j' + 1 + 1) ≠ ""
      exact len_pos_ne (by rw [dots_len]; lia)
    · show (rowG (conc ⟨#[c]⟩ (some (j' + 1))) ⟨#[c]⟩ (writtenF ⟨#[c]⟩ num)).cps.toList ≠ []
      rw [er]; simp
    · show ∀ d ∈ (rowG (conc ⟨#[c]⟩ (some (j' + 1))) ⟨#[c]⟩ (writtenF ⟨#[c]⟩ num)).cps.toList ++ _, _
      rw [er]
      intro d hd
      rcases List.mem_append.mp hd with hd | hd
      · have := List.eq_of_mem_replicate hd; lia
      · exact hbp d hd
theorem str_of {x y : Str} (h : x.cps.toList = y.cps.toList) : x = y := toList_inj h
theorem signs_sg (x : Str) : signs x = sg x.cps.toList := rfl
theorem cnt_nl (x : Str) : Txt.count x "\n" = cntNl (signs x) := by
  have e : (Str.ofString "\n") = ⟨#[10]⟩ := by decide
  rw [e, PyProof.Rows.count_is, signs_sg]
  generalize x.cps.toList = l
  induction l with
  | nil => rfl
  | cons c r ih =>
    show Spec.countIn (.str ⟨#[10]⟩) (PyData.str ⟨#[c]⟩ :: r.map fun n => PyData.str ⟨#[n]⟩) = cntNl (⟨#[c]⟩ :: sg r)
    unfold cntNl
    rw [← ih, e]
    show (if Spec.same (PyData.str ⟨#[c]⟩) (PyData.str ⟨#[10]⟩) = true then (1 : Int) else 0) + _ = _
    congr 1
theorem mail_all {c : Nat} (h : c ∈ G8) (num : Int) (L : AW) (hL : ∀ j, some j ∈ L → 1 ≤ j) :
    quoteS (mailAt (L.map (conc ⟨#[c]⟩)) ⟨#[c]⟩ num (L.map (conc ⟨#[c]⟩)).length).1 = (mailAt (L.map (conc ⟨#[c]⟩)) ⟨#[c]⟩ num (L.map (conc ⟨#[c]⟩)).length).2 ∧
    Words [] (signs (mailAt (L.map (conc ⟨#[c]⟩)) ⟨#[c]⟩ num (L.map (conc ⟨#[c]⟩)).length).2) ((aAge L).map (conc ⟨#[c]⟩)) [] := by
  have hIok : ∀ t ∈ (List.range L.length).map (fun i => mkI ⟨#[c]⟩ num L.length i (L.getD i none)), t.OK := by
    intro t ht
    obtain ⟨i, hi, rfl⟩ := List.mem_map.mp ht
    refine item_ok h num L.length i _ fun j hj => hL j ?_
    rw [← hj, List.getD_eq_getElem?_getD, List.getElem?_eq_getElem (by simpa using hi)]
    exact List.getElem_mem _
  have hends : EndsOK ((List.range L.length).map (fun i => mkI ⟨#[c]⟩ num L.length i (L.getD i none))) := by
    refine ends_of _ (fun i hi t ht => ?_) fun t ht => ?_
    · simp only [List.length_map, List.length_range] at hi
      rw [List.getElem?_map, List.getElem?_range (by lia)] at ht
      obtain rfl := Option.some.inj ht
      rcases end_e num L.length i with ⟨_, e⟩ | e | e | e
      · lia
      · exact .inl e
      · exact .inr (.inl e)
      · exact .inr (.inr e)
    · obtain ⟨i, hi, rfl⟩ := List.mem_map.mp ht
      rcases end_e num L.length i with ⟨e, _⟩ | e | e | e
      · exact .inl e
      · exact .inr (.inl e)
      · exact .inr (.inr (.inl e))
      · exact .inr (.inr (.inr e))
  have hflat := mail_flat (g := ⟨#[c]⟩) (num := num) (L := L) (fun w hw => (item_ok h num L.length 0 w fun j hj => hL j (hj ▸ hw)).r0) L.length (Nat.le_refl _)
  rw [List.length_map]
  obtain ⟨i1, i2⟩ := hflat
  refine ⟨str_of ?_, ?_⟩
  · rw [i2, ← quote_items _ hIok hends, ← i1]
    simp [quoteS, dotS, crlfS]
  · rw [signs_sg, i2]
    have hw := words_items _ hIok hends
    rw [List.map_map] at hw
    have e : (List.range L.length).map ((fun t : Item => t.v) ∘ fun i => mkI ⟨#[c]⟩ num L.length i (L.getD i none)) = (aAge L).map (conc ⟨#[c]⟩) := by
      apply List.ext_getElem
      · simp [aAge]
      · intro i h1 h2
        simp only [List.length_map, List.length_range] at h1
        simp only [List.getElem_map, List.getElem_range, Function.comp]
        show conc ⟨#[c]⟩ (ageO (L.getD i none)) = conc ⟨#[c]⟩ ((aAge L)[i]'_)
        congr 1
        simp only [aAge, List.getElem_map, List.getD_eq_getElem?_getD, List.getElem?_eq_getElem h1]
        cases L[i] <;> rfl
    rw [e] at hw
    exact hw
end
section
noncomputable def level : Nat → List AW
  | 0 => [[none]]
  | k + 1 => (level k).flatMap fun ws => (aDeeds (aGaps ws) (4 - k)).flatMap fun d => (List.range (aGaps ws)).map fun pl => aAge (aPlace d pl ws)
noncomputable def lenOK (lo hi : Nat) (ws : AW) : Bool := decide (ws.length ≤ 10) && ws.all fun | none => true | some j => decide (lo ≤ j ∧ j ≤ hi)
noncomputable def lvOK (k : Nat) (ws : AW) : Bool := lenOK 1 6 ws && (ws.all fun | none => true | some j => decide (1 ≤ j ∧ j ≤ k + 1 ∧ k + 1 - j < 5)) && decide (1 ≤ aGaps ws ∧ aGaps ws ≤ 10 ∧ aGaps ws ≤ (4 - k) + 1) &&
  (aDeeds (aGaps ws) (4 - k)).all fun d => (List.range (aGaps ws)).all fun pl => lenOK 1 6 (aPlace d pl ws)
theorem lv_all : ((List.range 5).all fun k => (level k).all (lvOK k)) = true := by decide +kernel
theorem lv_ok {k : Nat} (hk : k < 5) {ws : AW} (h : ws ∈ level k) : lvOK k ws = true :=
  List.all_eq_true.mp (List.all_eq_true.mp lv_all k (List.mem_range.mpr hk)) ws h
theorem lv_gaps {k : Nat} (hk : k < 5) {ws : AW} (h : ws ∈ level k) : 1 ≤ aGaps ws ∧ aGaps ws ≤ 10 ∧ aGaps ws ≤ (4 - k) + 1 := by
  have := lv_ok hk h
  simp only [lvOK, Bool.and_eq_true, decide_eq_true_eq] at this
  exact this.1.2
section
variable {n : Nat → Int} (hn : ∀ k, 0 ≤ n k ∧ n k ≤ 999999)
include hn
theorem deed_of {k : Nat} (hk : k < 5) {ws : AW} (h : ws ∈ level k) : 0 ≤ aDeed (n k) ws (4 - k) ∧ aDeed (n k) ws (4 - k) ≤ 3 ∧ (aDeed (n k) ws (4 - k)).toNat ∈ aDeeds (aGaps ws) (4 - k) := by
  have g := lv_gaps hk h
  have := deed_mem (n k) (aGaps ws) (4 - k) (hn k).1 g.1 g.2.2
  rw [show ((4 - k : Nat) : Int) = 4 - (k : Int) by lia] at this
  exact this
theorem pl_of {k : Nat} (hk : k < 5) {ws : AW} (h : ws ∈ level k) : 0 ≤ aPl (n k) ws ∧ (aPl (n k) ws).toNat ∈ List.range (aGaps ws) := by
  have g := lv_gaps hk h
  have h1 := Int.fmod_nonneg_of_pos ((n k).fdiv 4) (show (0 : Int) < (aGaps ws : Int) by lia)
  have h2 := Int.fmod_lt_of_pos ((n k).fdiv 4) (show (0 : Int) < (aGaps ws : Int) by lia)
  unfold aPl
  exact ⟨h1, List.mem_range.mpr (by lia)⟩
theorem abs_level : ∀ k, k ≤ 5 → absAt n k ∈ level k
  | 0, _ => .head _
  | k + 1, hk => by
    have ih := abs_level k (by lia)
    refine List.mem_flatMap.mpr ⟨_, ih, List.mem_flatMap.mpr ⟨_, (deed_of hn (by lia) ih).2.2, List.mem_map.mpr ⟨_, (pl_of hn (by lia) ih).2, rfl⟩⟩⟩
-- the history from turn i on
noncomputable def recH (n : Nat → Int) : Nat → Nat → List (AW × Nat × Nat)
  | _, 0 => []
  | i, m + 1 => (absAt n i, (aPl (n i) (absAt n i)).toNat, (aDeed (n i) (absAt n i) (4 - i)).toNat) :: recH n (i + 1) m
theorem hist_mem : ∀ m i, i + m = 5 → (recH n i m, absAt n 5) ∈ aHist m (absAt n i)
  | 0, i, h => by
    obtain rfl : i = 5 := by lia
    exact .head _
  | m + 1, i, h => by
    have ih := hist_mem m (i + 1) (by lia)
    have lv := abs_level hn i (by lia)
    have hd := deed_of hn (k := i) (by lia) lv
    rw [show 4 - i = m by lia] at hd
    exact List.mem_flatMap.mpr ⟨_, hd.2.2, List.mem_flatMap.mpr ⟨_, (pl_of hn (k := i) (by lia) lv).2, List.mem_map.mpr ⟨_, ih, rfl⟩⟩⟩
end
theorem g_one {c : Nat} : (⟨#[c]⟩ : Str).length = 1 := rfl
theorem g_nodot {c : Nat} (h : c ∈ G8) : (⟨#[c]⟩ : Str) ≠ "." := by
  have e : (Str.ofString ".") = ⟨#[46]⟩ := by decide
  intro hc
  rw [e] at hc
  have := congrArg (fun z : Str => z.cps.toList) hc
  simp at this
  exact (g8_ne h).1 this
theorem ws_eq {n : Nat → Int} (hn : ∀ k, 0 ≤ n k ∧ n k ≤ 999999) {c : Nat} (h : c ∈ G8) : ∀ k, k ≤ 5 → wsAt n ⟨#[c]⟩ k = (absAt n k).map (conc ⟨#[c]⟩)
  | 0, _ => rfl
  | k + 1, hk => by
    have ih := ws_eq hn h k (by lia)
    have lv := abs_level hn k (by lia)
    have hd := deed_of hn (k := k) (by lia) lv
    have hp := pl_of hn (k := k) (by lia) lv
    show aged _ (laidF (n k) k (wsAt n ⟨#[c]⟩ k) ⟨#[c]⟩) = _
    rw [ih]
    unfold laidF
    rw [gaps_eq g_one (g_nodot h)]
    show aged _ (placedF _ _ (aDeed (n k) (absAt n k) (4 - k)) (aPl (n k) (absAt n k))) = _
    rw [placed_eq g_one (g_nodot h) _ _ hd.1 hd.2.1 hp.1, aged_eq g_one (g_nodot h)]
    rfl
theorem laid_eq {n : Nat → Int} (hn : ∀ k, 0 ≤ n k ∧ n k ≤ 999999) {c : Nat} (h : c ∈ G8) {k : Nat} (hk : k < 5) : laidF (n k) k (wsAt n ⟨#[c]⟩ k) ⟨#[c]⟩ = (aPlace (aDeed (n k) (absAt n k) (4 - k)).toNat (aPl (n k) (absAt n k)).toNat (absAt n k)).map (conc ⟨#[c]⟩) := by
  have lv := abs_level hn k (by lia)
  have hd := deed_of hn (k := k) hk lv
  have hp := pl_of hn (k := k) hk lv
  rw [ws_eq hn h k (by lia)]
  unfold laidF
  rw [gaps_eq g_one (g_nodot h)]
  show placedF _ _ (aDeed (n k) (absAt n k) (4 - k)) (aPl (n k) (absAt n k)) = _
  rw [placed_eq g_one (g_nodot h) _ _ hd.1 hd.2.1 hp.1]
theorem lens {lo hi : Nat} {ws : AW} (h : lenOK lo hi ws = true) : ws.length ≤ 10 ∧ ∀ j, some j ∈ ws → lo ≤ j ∧ j ≤ hi := by
  simp only [lenOK, Bool.and_eq_true, decide_eq_true_eq] at h
  refine ⟨h.1, fun j hj => ?_⟩
  have := List.all_eq_true.mp h.2 _ hj
  simpa using this
theorem conc_len {c : Nat} {ws : AW} {hi : Nat} (h : ∀ j, some j ∈ ws → 1 ≤ j ∧ j ≤ hi) (h1 : 1 ≤ hi) : ∀ x ∈ ws.map (conc ⟨#[c]⟩), 1 ≤ x.length ∧ x.length ≤ hi := by
  intro x hx
  obtain ⟨w, hw, rfl⟩ := List.mem_map.mp hx
  cases w with
  | none => exact ⟨Nat.le_refl _, h1⟩
  | some j => show 1 ≤ (dots j).length ∧ (dots j).length ≤ hi; rw [dots_len]; exact h j hw
theorem conc_ok {c : Nat} (hc : c ∈ G8) {ws : AW} : ∀ x ∈ ws.map (conc ⟨#[c]⟩), PyData.strOk x = true := by
  intro x hx
  obtain ⟨w, hw, rfl⟩ := List.mem_map.mp hx
  unfold PyData.strOk
  rw [← Array.all_toList, List.all_eq_true]
  intro d hd
  cases w with
  | none =>
    have : d = c := by simpa [conc] using hd
    subst this
    exact decide_eq_true (g8_ne hc).2.2.2
  | some j =>
    have hd' : d ∈ List.replicate j 46 := by simpa [conc, dots] using hd
    have := List.eq_of_mem_replicate hd'
    subst this
    decide
theorem turn_ok {n : Nat → Int} (hn : ∀ k, 0 ≤ n k ∧ n k ≤ 999999) {c : Nat} (h : c ∈ G8) {k : Nat} (hk : k < 5) : TurnOK (n k) k ⟨#[c]⟩ (wsAt n ⟨#[c]⟩ k) := by
  have lv := abs_level hn k (by lia)
  have ok := lv_ok hk lv
  have hd := deed_of hn (k := k) hk lv
  have hp := pl_of hn (k := k) hk lv
  simp only [lvOK, Bool.and_eq_true] at ok
  obtain ⟨⟨⟨o1, o2⟩, o3⟩, o4⟩ := ok
  have l1 := lens o1
  have l4 := lens (List.all_eq_true.mp (List.all_eq_true.mp o4 _ hd.2.2) _ hp.2)
  have hgaps := lv_gaps hk lv
  have hw := ws_eq hn h k (by lia)
  have hl := laid_eq hn h hk
  have hm := mail_all h (n k) (aPlace (aDeed (n k) (absAt n k) (4 - k)).toNat (aPl (n k) (absAt n k)).toNat (absAt n k)) (fun j hj => (l4.2 j hj).1)
  have hg : gapsF (wsAt n ⟨#[c]⟩ k) ⟨#[c]⟩ = aGaps (absAt n k) := by rw [hw, gaps_eq g_one (g_nodot h)]
  refine ⟨?_, ?_, ?_, ?_, ?_, ?_, ?_, ?_, ?_, ?_, cnt_nl _⟩
  · rw [hw, List.length_map]; exact l1.1
  · rw [hw]; exact conc_len l1.2 (by lia)
  · rw [hw]
    intro x hx hne
    obtain ⟨w, hwm, rfl⟩ := List.mem_map.mp hx
    cases w with
    | none => exact absurd rfl hne
    | some j =>
      have := List.all_eq_true.mp o2 _ hwm
      simp only [decide_eq_true_eq] at this
      show 0 ≤ (k : Int) + 1 - ((dots j).length : Nat) ∧ (k : Int) + 1 - ((dots j).length : Nat) < 5
      rw [dots_len]
      lia
  · rw [hg]; lia
  · rw [hg]; exact ⟨hd.1, hd.2.1⟩
  · rw [hl, List.length_map]; exact l4.1
  · rw [hl]; exact conc_len l4.2 (by lia)
  · rw [hl]; exact conc_ok h
  · rw [hl]; exact hm.1
  · rw [hl, aged_eq g_one (g_nodot h)]; exact hm.2
theorem first_ok {c : Nat} (h : c ∈ G8) : Words [] (signs (Str.ofString "\n" ++ quoteS (Str.ofString "\r\r\\" ++ ⟨#[c]⟩))) [⟨#[c]⟩] [] ∧ cntNl (signs (Str.ofString "\n" ++ quoteS (Str.ofString "\r\r\\" ++ ⟨#[c]⟩))) = 3 := by
  have key : ∀ c ∈ G8, (Str.ofString "\n" ++ quoteS (Str.ofString "\r\r\\" ++ ⟨#[c]⟩)).cps.toList = [10, 13, 10, 13, 10, 92, c] := by decide +kernel
  rw [signs_sg, key c h]
  have hr := rw_back c
  refine ⟨?_, ?_⟩
  · have w1 : Words [] (sg [92, c]) [⟨#[c]⟩] [] := by
      rcases hr with hr | hr
      · have := hr []
        rw [List.append_nil] at this
        exact .more (by rw [this]; rfl) (len_pos_ne (by rw [g_one]; exact Nat.le_refl _)) (.done rfl)
      · have := hr []
        rw [List.append_nil] at this
        exact .more this (len_pos_ne (by rw [g_one]; exact Nat.le_refl _)) (.done rfl)
    have := words_skip (W := [10, 13, 10, 13, 10]) (by intro d hd; simp at hd; rcases hd with rfl | rfl | rfl | rfl | rfl <;> simp [White]) w1
    exact this
  · have : ∀ c ∈ G8, cntNl (sg [10, 13, 10, 13, 10, 92, c]) = 3 := by decide +kernel
    exact this c h
end
section
noncomputable def xS (k : Nat) : Str := ⟨#[97 + k]⟩
noncomputable abbrev Hist := List (AW × Nat × Nat) × AW
noncomputable def qAt (h : Hist) (k : Nat) : AW × Nat × Nat := h.1.getD k ([], 0, 0)
noncomputable def depthB (h : Hist) : Nat → Int
  | 0 => 1
  | k + 1 => depthB h k + brA.getD (qAt h k).2.2 0
noncomputable def lastA (h : Hist) : Str := patA h.2 5
noncomputable def finA (h : Hist) : Bool := !(mistF [patA (qAt h 0).1 0, patA (qAt h 1).1 1, patA (qAt h 2).1 2, patA (qAt h 3).1 3, patA (qAt h 4).1 4] (lastA h))
noncomputable def toldOK (h : Hist) (k : Nat) (t : Int × Int × Int) : Bool :=
  decide (t.1 = (qAt h k).2.1) && decide (t.2.2 = drS.getD (qAt h k).2.2 0) && decide (depthB h k = t.1 + t.2.1 + 1) && decide (0 ≤ t.1 ∧ t.1 ≤ 9) && decide (0 ≤ t.2.1 ∧ t.2.1 ≤ 9)
noncomputable def finB (h : Hist) : Bool := (List.range 5).all fun k => toldOK h k (toldAt (lastA h) (xS k) 5)
noncomputable def finC (h : Hist) : Bool :=
  decide ((lastA h).length = 5) && (lastA h).cps.all (· < 128) && (signs (lastA h)).isPerm abcS && decide (h.2.length ≤ 10) && (h.2.all fun | none => true | some j => decide (1 ≤ j ∧ j ≤ 5 + 1 ∧ 5 + 1 - j < 5)) &&
  ((List.range 6).all fun j => decide (0 ≤ depthB h j)) && decide (depthB h 5 = 0) && ((List.range 5).all fun k => decide (97 + k ∈ (lastA h).cps.toList)) && ((List.range 5).all fun k => decide ((patA (qAt h k).1 k).length ≤ 30))
section
open Builtin Builtin.Str
noncomputable def preL : List Nat → List Nat → Bool
  | [], _ => true
  | _ :: _, [] => false
  | a :: r, b :: t => Nat.beq a b && preL r t
theorem preL_iff : ∀ (y l : List Nat), preL y l = true ↔ l.take y.length = y
  | [], l => by simp [preL]
  | a :: r, [] => by simp [preL]
  | a :: r, b :: t => by
    rw [preL, Bool.and_eq_true, preL_iff r t, Nat.beq_eq, List.length_cons, List.take_succ_cons, List.cons.injEq]
    exact ⟨fun h => ⟨h.1.symm, h.2⟩, fun h => ⟨h.1.symm, h.2⟩⟩
theorem sub_preL (x y : Str) (i : Nat) : subAt x y i = preL y.cps.toList (x.cps.toList.drop i) := by
  rw [Bool.eq_iff_iff, preL_iff]
  unfold subAt
  rw [beq_iff_eq, ← Array.toList_inj, Array.toList_extract]
  simp [List.extract, Str.length]
noncomputable def occL (y : List Nat) (m hi : Nat) : Nat → List Nat → Nat → Nat → Nat → List Nat
  | 0, _, _, _, _ => []
  | n + 1, l, i, free, left => match (Nat.ble 1 left && Nat.ble free i) && Nat.ble (i + m) hi && preL y l with
    | true => i :: occL y m hi n l.tail (i + 1) (i + m) (left - 1)
    | false => occL y m hi n l.tail (i + 1) free left
theorem occL_eq (x y : Str) (hi lim : Nat) : ∀ (n i free : Nat) (arr : Array Nat),
    (forIn (List.range' i n) (arr, free) (StrLaws.occBody x y hi lim)).run.fst.toList = arr.toList ++ occL y.cps.toList y.length hi n (x.cps.toList.drop i) i free (lim - arr.size)
  | 0, i, free, arr => by simp [occL]
  | n + 1, i, free, arr => by
    rw [List.range'_succ, List.forIn_cons]
    unfold StrLaws.occBody
    rw [occL, sub_preL]
    by_cases h : ((arr.size < lim ∧ free ≤ i) ∧ i + y.length ≤ hi) ∧ preL y.cps.toList (x.cps.toList.drop i) = true
    · have h1 : ((Nat.ble 1 (lim - arr.size) && Nat.ble free i) && Nat.ble (i + y.length) hi && preL y.cps.toList (x.cps.toList.drop i)) = true := by
        rw [Bool.and_eq_true, Bool.and_eq_true, Bool.and_eq_true, Nat.ble_eq, Nat.ble_eq, Nat.ble_eq]
        exact ⟨⟨⟨by have := h.1.1.1; lia, h.1.1.2⟩, h.1.2⟩, h.2⟩
      rw [if_pos h, h1]
      have e := occL_eq x y hi lim n (i + 1) (i + y.length) (arr.push i)
      rw [Array.toList_push, Array.size_push, ← List.tail_drop, ← Nat.sub_sub, List.append_assoc] at e
      exact e
    · have h1 : ((Nat.ble 1 (lim - arr.size) && Nat.ble free i) && Nat.ble (i + y.length) hi && preL y.cps.toList (x.cps.toList.drop i)) = false := by
        rw [← Bool.not_eq_true, Bool.and_eq_true, Bool.and_eq_true, Bool.and_eq_true, Nat.ble_eq, Nat.ble_eq, Nat.ble_eq]
        exact fun g => h ⟨⟨⟨by have := g.1.1.1; lia, g.1.1.2⟩, g.1.2⟩, g.2⟩
      rw [if_neg h, h1]
      have e := occL_eq x y hi lim n (i + 1) free arr
      rw [← List.tail_drop] at e
      exact e
noncomputable def occF (x y : Str) (lo hi lim : Nat) : List Nat := occL y.cps.toList y.length hi (hi + 1 - lo) (x.cps.toList.drop lo) lo lo lim
theorem occ_fast : occurrences = occF := by
  funext x y lo hi lim
  rw [StrLaws.occ_eq, occL_eq]
  simp [occF]
noncomputable def sliceF (s : Str) (i j : Nat) : Str := ⟨((s.cps.toList.drop i).take (j - i)).toArray⟩
theorem strSub_fast : strSub = sliceF := by
  funext s i j
  unfold strSub sliceF
  congr 1
  apply Array.toList_inj.mp
  simp [List.extract]
end
section
open Builtin Builtin.Str
noncomputable def appQ (a b : Str) : Str := ⟨(a.cps.toList ++ b.cps.toList).toArray⟩
theorem app_fast (a b : Str) : a ++ b = appQ a b := by
  show Str.mk (a.cps ++ b.cps) = _
  unfold appQ
  congr 1
  apply Array.toList_inj.mp
  simp
noncomputable def inQ (y x : Str) : Bool := !(occF x y 0 x.length 1).isEmpty
theorem in_fast (y x : Str) : isIn y x = inQ y x := by unfold isIn inQ; rw [occ_fast]
noncomputable def partsQ (s : Str) (cuts : List Nat) (width : Nat) : List Str := ((0 :: cuts.map (· + width)).zip (cuts ++ [s.length])).map fun p => sliceF s p.1 p.2
noncomputable def kindQ (s : Str) : Nat := if s.cps.toList.all (· < 256) then 1 else if s.cps.toList.all (· < 65536) then 2 else 4
theorem kind_fast (s : Str) : Builtin.Str.strKind s = kindQ s := by unfold Builtin.Str.strKind kindQ; rw [Array.all_toList, Array.all_toList]
noncomputable def splitP (x y : Str) (o : List Nat) : List Str := if o.isEmpty = true then [x] else partsQ x o y.length
noncomputable def splitQ (x y : Str) : List Str := if (decide (x.length < y.length) || decide (kindQ x < kindQ y)) = true then [x] else splitP x y (occF x y 0 x.length (x.length + 1))
theorem split_fast (x y : Str) : Txt.split x y = splitQ x y := by
  unfold Txt.split splitQ splitP partsBetween partsQ
  rw [occ_fast, strSub_fast, kind_fast, kind_fast]
noncomputable def find4Q (x y : Str) (i j : Int) : Int := match occF x y (fromIndex x.length i) (min (fromIndex x.length j) x.length) 1 with | k :: _ => (k : Int) | [] => -1
theorem find4_fast (x y : Str) (i j : Int) : find4 x y i j = find4Q x y i j := by
  unfold find4 find4Q
  rw [occ_fast]
  try rfl
noncomputable def startQ (x y : Str) : Bool := 0 + y.length ≤ x.length && preL y.cps.toList (x.cps.toList.drop 0)
theorem start_fast (x y : Str) : Txt.startswith x y = startQ x y := by unfold Txt.startswith startQ; rw [sub_preL]
noncomputable def endQ (x y : Str) : Bool := 0 + y.length ≤ x.length && preL y.cps.toList (x.cps.toList.drop (x.length - y.length))
theorem end_fast (x y : Str) : Txt.endswith x y = endQ x y := by unfold Txt.endswith endQ; rw [sub_preL]
noncomputable def ell0Q (ws : List Str) (got : Str) : Option (List Str × Int) :=
  if (((ws.getD 0 Str.empty).length : Int) ≠ 0) then (if startQ got (ws.getD 0 Str.empty) = true then some (ws.tail, ((ws.getD 0 Str.empty).length : Int)) else none) else some (ws, 0)
noncomputable def ell1Q (ws : List Str) (got : Str) : Option (List Str × Int) :=
  if (((ws.getD (ws.length - 1) Str.empty).length : Int) ≠ 0) then (if endQ got (ws.getD (ws.length - 1) Str.empty) = true then some (ws.dropLast, (got.length : Int) - ((ws.getD (ws.length - 1) Str.empty).length : Int)) else none) else some (ws, (got.length : Int))
noncomputable def ellGoQ (got : Str) (ep : Int) : List Str → Int → Bool
  | [], _ => true
  | w :: r, sp => if find4Q got w sp ep < 0 then false else ellGoQ got ep r (find4Q got w sp ep + w.length)
theorem ellGo_fast (got : Str) (ep : Int) : ∀ (ws : List Str) (sp : Int), ellGo got ep ws sp = ellGoQ got ep ws sp
  | [], _ => rfl
  | w :: r, sp => by rw [ellGo, ellGoQ, find4_fast, ellGo_fast got ep r]
noncomputable def ellQ (want got : Str) : Bool :=
  if inQ "..." want = false then want == got else
  match ell0Q (splitQ want "...") got with
  | none => false
  | some (ws1, sp) => match ell1Q ws1 got with
    | none => false
    | some (ws2, ep) => if sp > ep then false else ellGoQ got ep ws2 sp
theorem ell_fast : ellF = ellQ := by
  funext want got
  unfold ellF ellQ
  simp only [in_fast, split_fast, ellGo_fast, show ell0 = ell0Q from by funext a b; unfold ell0 ell0Q; simp only [start_fast], show ell1 = ell1Q from by funext a b; unfold ell1 ell1Q; simp only [end_fast]]
  try rfl
end
noncomputable def okQ (last want : Str) : Bool := !(ellQ want last != true) && !(ellQ want (appQ "-" last) != (Txt.slice want none (some 3) == "...")) && !(ellQ want (appQ last "-") != (Txt.slice want (some (-3)) none == "..."))
theorem ok_fast : okM = okQ := by
  funext last want
  unfold okM okQ
  rw [ell_fast, app_fast, app_fast]
noncomputable def pairsQ (p2 p3 p4 last : Str) : List (Str × Str) := [(revS p2, last), (revS p3, last), (revS p4, last), (revS last, last), (appQ last last, last),
  (appQ (appQ (appQ (appQ "..." (Txt.item last 0)) "...") (Txt.item last 0)) "...", last), (appQ (appQ (appQ "..." (Txt.item last 0)) "...") last, appQ "-" last), (appQ (appQ (appQ (appQ "..." last) "...") (Txt.item last (-1))) "...", appQ "-" last), (appQ (appQ (appQ last "...") (Txt.item last (-1))) "...", appQ last "-")]
noncomputable def mistQ (ps : List Str) (last : Str) : Bool := !((ps ++ [last]).all (okQ last)) || (ellQ (Txt.join "..." (joinedS last)) (appQ last last) != true) || !((pairsQ (ps.getD 2 "") (ps.getD 3 "") (ps.getD 4 "") last).all (fun p => !(ellQ p.1 p.2 != false)))
theorem mist_fast : mistF = mistQ := by
  funext ps last
  unfold mistF mistQ pairsF pairsQ
  simp only [ell_fast, ok_fast, app_fast]
noncomputable def toldStepQ (row x : Str) (st : Int × Int × Int) (i : Nat) : Int × Int × Int :=
  if x.cps.toList < (Txt.item row i).cps.toList then
    if (i : Int) < Txt.find row x then
      (st.1 + ((lessF row x).filter (fun a => ellQ (appQ (appQ (appQ (Txt.item row i) a) "...") x) (Txt.slice row (some i) (some (Txt.find row x + 1))))).length, st.2.1, if ellQ (appQ (Txt.item row i) x) (Txt.slice row (some i) (some (Txt.find row x + 1))) = true then st.2.2 + 1 else st.2.2)
    else (st.1, st.2.1 + ((lessF row x).filter (fun a => ellQ (appQ (appQ (appQ x "...") a) (Txt.item row i)) (Txt.slice row (some (Txt.find row x)) (some ((i : Int) + 1))))).length, st.2.2)
  else st
theorem step_fast : toldStep = toldStepQ := by
  funext row x st i
  unfold toldStep toldStepQ
  simp only [ell_fast, app_fast]
noncomputable def toldQ (row x : Str) : Nat → Int × Int × Int
  | 0 => (0, 0, 0)
  | i + 1 => toldStepQ row x (toldQ row x i) i
theorem told_fast (row x : Str) : ∀ n, toldAt row x n = toldQ row x n
  | 0 => rfl
  | i + 1 => by rw [toldAt, toldQ, step_fast, told_fast row x i]
noncomputable def finAQ (h : Hist) : Bool := !(mistQ [patA (qAt h 0).1 0, patA (qAt h 1).1 1, patA (qAt h 2).1 2, patA (qAt h 3).1 3, patA (qAt h 4).1 4] (lastA h))
theorem finA_fast : finA = finAQ := by funext h; unfold finA finAQ; rw [mist_fast]
noncomputable def finBQ (h : Hist) : Bool := (List.range 5).all fun k => toldOK h k (toldQ (lastA h) (xS k) 5)
theorem finB_fast : finB = finBQ := by funext h; unfold finB finBQ; simp only [told_fast]
set_option maxRecDepth 1000000 in
theorem fin_allC : (aHist 5 [none]).all finC = true := by decide +kernel
set_option maxRecDepth 1000000 in
theorem finA0 : (((aHist 5 [none]).drop 0).take 20).all finAQ = true := by decide +kernel
set_option maxRecDepth 1000000 in
theorem finA1 : (((aHist 5 [none]).drop 20).take 20).all finAQ = true := by decide +kernel
set_option maxRecDepth 1000000 in
theorem finA2 : (((aHist 5 [none]).drop 40).take 20).all finAQ = true := by decide +kernel
set_option maxRecDepth 1000000 in
theorem finA3 : (((aHist 5 [none]).drop 60).take 20).all finAQ = true := by decide +kernel
set_option maxRecDepth 1000000 in
theorem finA4 : (((aHist 5 [none]).drop 80).take 20).all finAQ = true := by decide +kernel
set_option maxRecDepth 1000000 in
theorem finA5 : (((aHist 5 [none]).drop 100).take 20).all finAQ = true := by decide +kernel
set_option maxRecDepth 1000000 in
theorem finB0 : (((aHist 5 [none]).drop 0).take 20).all finBQ = true := by decide +kernel
set_option maxRecDepth 1000000 in
theorem finB1 : (((aHist 5 [none]).drop 20).take 20).all finBQ = true := by decide +kernel
set_option maxRecDepth 1000000 in
theorem finB2 : (((aHist 5 [none]).drop 40).take 20).all finBQ = true := by decide +kernel
set_option maxRecDepth 1000000 in
theorem finB3 : (((aHist 5 [none]).drop 60).take 20).all finBQ = true := by decide +kernel
set_option maxRecDepth 1000000 in
theorem finB4 : (((aHist 5 [none]).drop 80).take 20).all finBQ = true := by decide +kernel
set_option maxRecDepth 1000000 in
theorem finB5 : (((aHist 5 [none]).drop 100).take 20).all finBQ = true := by decide +kernel
theorem hist_120 : (aHist 5 [none]).drop 120 = [] := by decide +kernel
theorem hist_end {p : Hist → Bool} : ((aHist 5 [none]).drop 120).all p = true := by rw [hist_120]; rfl
theorem all_cut {α : Type} {p : α → Bool} {l : List α} (i j : Nat) (h1 : ((l.drop i).take 20).all p = true) (h2 : (l.drop j).all p = true) (e : j = i + 20) : (l.drop i).all p = true := by
  rw [← List.take_append_drop 20 (l.drop i), List.all_append, h1, List.drop_drop, ← e, h2]; rfl
theorem fin_allA : (aHist 5 [none]).all finA = true := by
  rw [finA_fast]
  have h : ((aHist 5 [none]).drop 0).all finAQ = true := all_cut 0 20 finA0 (all_cut 20 40 finA1 (all_cut 40 60 finA2 (all_cut 60 80 finA3 (all_cut 80 100 finA4 (all_cut 100 120 finA5 hist_end rfl) rfl) rfl) rfl) rfl) rfl
  rw [List.drop_zero] at h
  exact h
theorem fin_allB : (aHist 5 [none]).all finB = true := by
  rw [finB_fast]
  have h : ((aHist 5 [none]).drop 0).all finBQ = true := all_cut 0 20 finB0 (all_cut 20 40 finB1 (all_cut 40 60 finB2 (all_cut 60 80 finB3 (all_cut 80 100 finB4 (all_cut 100 120 finB5 hist_end rfl) rfl) rfl) rfl) rfl) rfl
  rw [List.drop_zero] at h
  exact h
end
section
theorem recH_get (n : Nat → Int) : ∀ k, k < 5 → ((recH n 0 5).getD k ([], 0, 0)) = (absAt n k, (aPl (n k) (absAt n k)).toNat, (aDeed (n k) (absAt n k) (4 - k)).toNat) := by
  intro k hk
  rcases k with _ | _ | _ | _ | _ | k
  · rfl
  · rfl
  · rfl
  · rfl
  · rfl
  · exact absurd hk (by lia)
theorem item_x : ∀ k, k < 5 → Txt.item (Str.ofString "abcde") ((k : Nat) : Int) = xS k := by decide
theorem tup3 (t : Int × Int × Int) : t = (t.1, t.2.1, t.2.2) := rfl
theorem fin_ok {n : Nat → Int} (hn : ∀ k, 0 ≤ n k ∧ n k ≤ 999999) {c : Nat} (h : c ∈ G8) : FinOK n ⟨#[c]⟩ (lastA (recH n 0 5, absAt n 5)) := by
  have hm := hist_mem hn 5 0 rfl
  have hA := List.all_eq_true.mp fin_allA _ hm
  have hB := List.all_eq_true.mp fin_allB _ hm
  have hC := List.all_eq_true.mp fin_allC _ hm
  have g1 : (⟨#[c]⟩ : Str).length = 1 := g_one
  have g2 := g_nodot h
  have lv := fun k (hk : k < 5) => abs_level hn k (by lia)
  have hq : ∀ k, k < 5 → qAt (recH n 0 5, absAt n 5) k = (absAt n k, (aPl (n k) (absAt n k)).toNat, (aDeed (n k) (absAt n k) (4 - k)).toNat) := recH_get n
  have hdeed : ∀ k, k < 5 → deedAt n ⟨#[c]⟩ k = aDeed (n k) (absAt n k) (4 - k) := fun k hk => by
    unfold deedAt aDeed
    rw [ws_eq hn h k (by lia), gaps_eq g1 g2]
  have hplace : ∀ k, k < 5 → placeAt n ⟨#[c]⟩ k = aPl (n k) (absAt n k) := fun k hk => by
    unfold placeAt aPl
    rw [ws_eq hn h k (by lia), gaps_eq g1 g2]
  have hdep : ∀ k, k ≤ 5 → depthF n ⟨#[c]⟩ k = depthB (recH n 0 5, absAt n 5) k := by
    intro k
    induction k with
    | zero => intro _; rfl
    | succ k ih =>
      intro hk
      show depthF n ⟨#[c]⟩ k + brA.getD (deedAt n ⟨#[c]⟩ k).toNat 0 = depthB _ k + brA.getD (qAt _ k).2.2 0
      rw [ih (by lia), hq k (by lia), hdeed k (by lia)]
  have hpat : ∀ k, k < 5 → patAt n ⟨#[c]⟩ k = patA (absAt n k) k := fun k hk => by
    have ok := lv_ok hk (lv k hk)
    simp only [lvOK, Bool.and_eq_true] at ok
    unfold patAt patF patA
    rw [ws_eq hn h k (by lia)]
    refine pat_eq g1 g2 k _ _ fun j hj => ?_
    have := List.all_eq_true.mp ok.1.1.2 _ hj
    simpa using this
  simp only [finC, Bool.and_eq_true, decide_eq_true_eq] at hC
  obtain ⟨⟨⟨⟨⟨⟨⟨⟨c1, c2⟩, c3⟩, c4⟩, c5⟩, c6⟩, c7⟩, c8⟩, c9⟩ := hC
  have c5' : ∀ j, some j ∈ absAt n 5 → 1 ≤ j ∧ j ≤ 5 + 1 ∧ 5 + 1 - j < 5 := fun j hj => by
    have := List.all_eq_true.mp c5 _ hj
    simpa using this
  have w5 := ws_eq hn h 5 (Nat.le_refl _)
  refine ⟨?_, c1, c2, List.isPerm_iff.mp c3, ?_, ?_, ?_, ?_, ?_, ?_, ?_, ?_, ?_⟩
  · unfold lastA patA patF
    rw [w5]
    exact (pat_eq g1 g2 5 _ _ c5').symm
  · intro k hk
    have := List.all_eq_true.mp c9 k (List.mem_range.mpr hk)
    rw [hpat k hk]
    rw [hq k hk] at this
    simpa using this
  · have := hA
    unfold finA at this
    rw [hq 0 (by lia), hq 1 (by lia), hq 2 (by lia), hq 3 (by lia), hq 4 (by lia)] at this
    rw [hpat 0 (by lia), hpat 1 (by lia), hpat 2 (by lia), hpat 3 (by lia), hpat 4 (by lia)]
    simpa using this
  · rw [w5, List.length_map]; exact c4
  · rw [w5]
    intro x hx hne
    obtain ⟨w, hw, rfl⟩ := List.mem_map.mp hx
    cases w with
    | none => exact absurd rfl hne
    | some j =>
      have := c5' j hw
      show 0 ≤ (5 : Int) + 1 - ((dots j).length : Nat) ∧ (5 : Int) + 1 - ((dots j).length : Nat) < 5
      rw [dots_len]
      lia
  · rw [w5]
    intro x hx
    have := conc_len (c := c) (hi := 6) (ws := absAt n 5) (fun j hj => ⟨(c5' j hj).1, (c5' j hj).2.1⟩) (by lia) x hx
    lia
  · intro k hk
    rw [hdeed k hk]
    have := deed_of hn hk (lv k hk)
    exact ⟨this.1, this.2.1⟩
  · intro j hj
    rw [hdep j hj]
    have := List.all_eq_true.mp c6 j (List.mem_range.mpr (by lia))
    simpa using this
  · rw [hdep 5 (Nat.le_refl _)]; exact c7
  · intro k hk
    have hk' := List.all_eq_true.mp hB k (List.mem_range.mpr hk)
    simp only [toldOK, Bool.and_eq_true, decide_eq_true_eq] at hk'
    obtain ⟨⟨⟨⟨t1, t2⟩, t3⟩, t4⟩, t5⟩ := hk'
    rw [hq k hk] at t1 t2
    have hd := deed_of hn hk (lv k hk)
    have hp := pl_of hn hk (lv k hk)
    have c8k := List.all_eq_true.mp c8 k (List.mem_range.mpr hk)
    rw [item_x k hk]
    obtain ⟨tt, htt⟩ : ∃ tt, tt = toldAt (lastA (recH n 0 5, absAt n 5)) (xS k) 5 := ⟨_, rfl⟩
    rw [← htt] at t1 t2 t3 t4 t5 ⊢
    refine ⟨tt.1, tt.2.1, tt.2.2, tup3 tt, ?_, t4, t5, ?_, ?_, ?_⟩
    · unfold xS
      rw [isIn_one]; exact c8k
    · rw [hplace k hk, t1]
      have := hp.1
      show (((aPl (n k) (absAt n k)).toNat : Nat) : Int) = _
      lia
    · rw [hdeed k hk]; exact t2
    · rw [hdep k (by lia)]; exact t3
end
section
noncomputable def GoodWA (c : ClaimW) (cl : Str → Option Addr) (mean : ExcName → Option Value) (args : List WData) (s₁ : Shared) (res : Result) (s' : Shared) : Prop :=
  (∃ v d as, res = .ok (.ret v) ∧ (∀ cls, c.raises args cls = false) ∧ ReadsW c.records cl s'.heap v d as ∧ c.post args d args = true ∧
      (c.unshared = true → as.Nodup ∧ ∀ a ∈ as, s₁.heap.get? a = none)) ∧
  (∀ b o, s₁.heap.get? b = some o → s'.heap.get? b = some o) ∧ s'.os = s₁.os ∧ AllBare s'.gens
theorem kn_postA {M : Model} {A : Around} {cd : Code} {s s₁ : Shared} {cw : ClaimW} {cl : Str → Option Addr} {mean : ExcName → Option Value} {args : List WData} {tabs : List (Addr × Addr)} (hT : TabsAt tabs s₁.heap)
    (h : codeAny M A cd (fun r s' => GoodWA cw cl mean args { s₁ with heap := ghostOf s₁.heap tabs } r s' ∧ GrownAll tabs s'.heap) s) : codeAny M A cd (GoodWG cw cl mean args s₁) s :=
  codeAny_mono h fun r s' ⟨⟨hc, hk, hos, hg⟩, hgr⟩ => by
    have keep : ∀ b o, b ∉ tabs.map (·.2) → s₁.heap.get? b = some o → s'.heap.get? b = some o := fun b o hb e => hk b o (ghost_ne e hb)
    have grown : ∀ b o, b ∈ tabs.map (·.2) → s₁.heap.get? b = some o → isCodeTable s₁.heap b ∧ o = tabObj #[] ∧ ∃ ps, s'.heap.get? b = some (tabObj ps) := fun b o hb e => by
      obtain ⟨q, hq, rfl⟩ := List.mem_map.mp hb
      have e2 := (hT q hq).2
      rw [e] at e2
      exact ⟨((hT q hq).1.tab (hT q hq).2).isCodeTable, Option.some.inj e2, hgr.get q hq⟩
    refine ⟨?_, ⟨fun b o e => ?_, fun b o e => ?_⟩, hos, hg⟩
    · obtain ⟨v, d, as, r1, r2, r3, r4, r5⟩ := hc
      refine .inl ⟨v, d, as, r1, r2, r3, r4, fun q => ⟨(r5 q).1, fun a ha => ?_⟩⟩
      cases q1 : s₁.heap.get? a with
      | none => rfl
      | some o =>
        by_cases hb : a ∈ tabs.map (·.2)
        · obtain ⟨_, _, ps, hP⟩ := grown a o hb q1
          exact absurd ha (readsW_apart hP rfl r3)
        · have e3 := (r5 q).2 a ha
          rw [show (ghostOf s₁.heap tabs).get? a = some o from ghost_ne q1 hb] at e3
          cases e3
    · by_cases hb : b ∈ tabs.map (·.2)
      · obtain ⟨ht, rfl, ps, hP⟩ := grown b o hb e
        exact .inr (.inl ⟨ht, rfl, #[], ps, rfl, by rw [Array.empty_append]; exact hP⟩)
      · exact .inl (keep b o hb e)
    · by_cases hb : b ∈ tabs.map (·.2)
      · obtain ⟨_, _, ps, hP⟩ := grown b o hb e
        exact ⟨_, hP⟩
      · exact ⟨o, keep b o hb e⟩
theorem plain : ∀ n : Nat → Int, (∀ k, 0 ≤ n k ∧ n k ≤ 999999) → ∀ g, GapOK g → (∀ k, k < 5 → TurnOK (n k) k g (wsAt n g k)) ∧ Words [] (signs (Str.ofString "\n" ++ quoteS (Str.ofString "\r\r\\" ++ g))) [g] [] ∧ cntNl (signs (Str.ofString "\n" ++ quoteS (Str.ofString "\r\r\\" ++ g))) = 3 := by
  intro n hn g hg
  obtain ⟨c, hc, rfl⟩ := gap_c hg
  exact ⟨fun k hk => turn_ok hn hc hk, first_ok hc⟩
theorem said_ : PySem.Challenge.rw_uc0007_01.wellSaid = true := by decide +kernel
theorem law_holds : PySem.Challenge.rw_uc0007_01.Holds := by
  refine holds_law said_ fun _ => Mine.hd ?_
  k_fill
  intro w s₀ s₁ mg mb G Y fa o pm cd doc dV kV ho hd hcd hD hmg hg args vals as hpre hlay hrd hwl hlo
  have KX := km_in_of Y
  km_tabs Y
  have X := (Ground.X G).1
  have V := (Ground.X G).2
  refine Ground.open G ?_
  intro T B D TE TW
  try (refine guard_noD D (by decide +kernel) ?_; clear D)
  km_lay T hmg ho hd cd
  clear hmg
  wrow_args hpre hlay hrd hwl hlo
  all_goals (
    first | refine callC_kw (enter_call ?_) | refine enter_call ?_
    w_top on
    refine kn_postA hT9 ?_
    w_call any ho hd hcd hD T F
    clear hd
    kn_ghosts F T
    k_drop
    skip)
  rename_i script _ _ _ _ _ sl vs _ hL0 ra w1 r0 hI hr0 hc1 hc2 h1 tk1 o1 o2 e1 e2 X0 X' T' K' F' N' l0
  dsimp only
  refine noE ?_
  with_unfolding_all refine law_pro (s := { s₁ with heap := h1, toks := tk1 }) (m := _) K' X' T' lifted hI (by lia) e1 e2 l0 F' N' plain ?_
  rintro n g I tg ln ldz lf ldr lpt c1 oc1 nv ne dz vals news m h tk ⟨hn, hgap, hgl, f2, f3⟩ hK F N
  obtain ⟨c, hc, rfl⟩ := gap_c hgap
  have fo := fin_ok hn hc
  refine law_mid K' X' T' n hn _ hgl tg ln ldz lf ldr lpt c1 oc1 nv ne dz _ fo fo.lasteq fo.l5 fo.asc f2 f3 (by show AllBare s₁.gens; rw [hg]; exact AllBare.empty) fo.perm fo.pl fo.mist fo.w5 fo.wp fo.wl vals news hK ?_ F N
  intro ps h' tk' G' m' news' hG F2 N2 hm
  refine ⟨⟨⟨_, .bool true, [], rfl, fun _ => rfl, ?_, ?_, ?_⟩, F2.keep, rfl, hG⟩, GrownAt.of N2 hm, trivial⟩
  · exact .bool _
  · first | (with_unfolding_all rfl) | wrow_post | kernel_rfl
  · intro _
    exact ⟨List.nodup_nil, fun _ h => nomatch h⟩
end
end Mine
theorem PySem.Challenge.cw_uc0007_01_holds : PySem.Challenge.rw_uc0007_01.Holds := by
  exact Mine.law_holds
