import PyProof.Rows.All
import Wide.All
import OpenK.AllK
import Wide.FinOn
import Lean
import PySem.Challenge.RW_wo0063_01

set_option Elab.async false
set_option maxRecDepth 100000
set_option maxHeartbeats 8000000

-- HA
section
open PySem PySem.W PyProof.Rows
namespace Mine
/-- the head's own check, at once, by the library's quick twins (of the table, topRun, importEnds, start, fenceModules?, openSeen) -/
local macro_rules | `(tactic| refine $f:ident $as*) => do
  if f.getId == ``PySem.W.holds_open then
    let hl := Lean.mkIdent `hl
    `(tactic| (refine' $f:ident $as*; (case $hl:ident => (intro w; unfold PySem.W.openEnds PySem.W.fencedOpening; delta PySem.W.topFrom; rewrite [PySem.W.Fast.te14082659384304107361, PySem.W.Fast.te10274390034422433532, PySem.W.Fast.te1435165496053646825, PySem.W.Fast.te14289696077712309145, PySem.W.Fast.te4187177175401517315, PySem.W.Fast.te14364793385576792824]; kernel_rfl))))
  else Lean.Macro.throwUnsupported
open_top hd for PySem.Challenge.rw_wo0063_01
end Mine
end

-- MB
section
open PySem PySem.W PySem.Spec PySem.Calls PyProof.Rows PyProof.Rows.LCg
namespace Mine

/-- a stop for the walk -/
def Hold (P : Prop) : Prop := P
theorem Hold.out {P : Prop} (h : Hold P) : P := h
abbrev Led := List (Addr × Obj)
/-- a contract over the program's own top: nothing new is left -/
def Tell0 {D : Type} (k : Nat) (f : Addr) (Rel : Nat → Led → List Value → D → Prop) (Out : Value → D → Prop) : Prop :=
  ∀ (w : World) (loose : List PySem.Str) (mean : ExcName → Option Value) (mg mb : PySem.Str → Option Value) (d : D)
    (dp un : Nat) (gd : Option (List Code)) (cn : PySem.Str) (cs : Scope) (a : Addr) (ccd : Value) (cl : List (PySem.Str × Addr)) (outer : List Env) (A₀ : Around) (base h₀ : Heap) (L : Addr) (m : PySem.Str → Option Value) (news : Led) (s : Shared) (vs : List Value)
    (Q E : Value → Shared → Prop),
    Below A₀ base outer h₀ → Fr h₀ L s.heap m → (Mine.hd.heap_39 w.params).In h₀ → News h₀ L s.heap news → Top Mine.hd.view_39 loose mean mg mb h₀ → cs.kind = .function → Rel s.toks news vs d → dp + k < recursionLimit → un + 8 * k < cLine →
    (∀ r h' tk', Fr h₀ L h' m → News h₀ L h' news → Out r d → Q r { s with heap := h', toks := tk' }) →
    wpAny (model PySem.Challenge.rw_wo0063_01.row.prog w) (ktrTop dp un gd cn cs L a ccd cl outer) (call (.ref f) vs) Q E s
/-- a contract over the program's own top: new objects, above what stood -/
def Tell1 {D : Type} (k : Nat) (f : Addr) (Rel : Nat → Led → List Value → D → Prop) (Out : Nat → Led → Value → D → Prop) : Prop :=
  ∀ (w : World) (loose : List PySem.Str) (mean : ExcName → Option Value) (mg mb : PySem.Str → Option Value) (d : D)
    (dp un : Nat) (gd : Option (List Code)) (cn : PySem.Str) (cs : Scope) (a : Addr) (ccd : Value) (cl : List (PySem.Str × Addr)) (outer : List Env) (A₀ : Around) (base h₀ : Heap) (L : Addr) (m : PySem.Str → Option Value) (news : Led) (s : Shared) (vs : List Value)
    (Q E : Value → Shared → Prop),
    Below A₀ base outer h₀ → Fr h₀ L s.heap m → (Mine.hd.heap_39 w.params).In h₀ → News h₀ L s.heap news → Top Mine.hd.view_39 loose mean mg mb h₀ → cs.kind = .function → Rel s.toks news vs d → dp + k < recursionLimit → un + 8 * k < cLine →
    (∀ r tl h' tk', Fr h₀ L h' m → News h₀ L h' (news ++ tl) → (∀ q ∈ news, ∀ p ∈ tl, q.1 ≠ p.1) → Out tk' (news ++ tl) r d → Q r { s with heap := h', toks := tk' }) →
    wpAny (model PySem.Challenge.rw_wo0063_01.row.prog w) (ktrTop dp un gd cn cs L a ccd cl outer) (call (.ref f) vs) Q E s
section
variable {D : Type} {w : World} {loose : List PySem.Str} {mean : ExcName → Option Value} {mg mb : PySem.Str → Option Value} {d : D} {k : Nat} {f : Addr} {Rel : Nat → Led → List Value → D → Prop}
    {dp un : Nat} {gd : Option (List Code)} {cn : PySem.Str} {cs : Scope} {a : Addr} {ccd : Value} {cl : List (PySem.Str × Addr)} {outer : List Env} {A₀ : Around} {base h₀ : Heap} {L : Addr} {m : PySem.Str → Option Value} {news : Led} {s : Shared} {vs : List Value}
    {Q E : Value → Shared → Prop}
theorem use0 {Out : Value → D → Prop} (C : Tell0 k f Rel Out) (B : Below A₀ base outer h₀) (F : Fr h₀ L s.heap m) (X : (Mine.hd.heap_39 w.params).In h₀) (N : News h₀ L s.heap news) (T : Top Mine.hd.view_39 loose mean mg mb h₀) (hk : cs.kind = .function) (R : Rel s.toks news vs d)
    (hd : dp + k < recursionLimit) (hu : un + 8 * k < cLine)
    (ret : ∀ r h' tk', s.toks ≤ tk' → Fr h₀ L h' m → News h₀ L h' news → Out r d → Q r { s with heap := h', toks := tk' }) :
    wpAny (model PySem.Challenge.rw_wo0063_01.row.prog w) (ktrTop dp un gd cn cs L a ccd cl outer) (call (.ref f) vs) Q E s := by
  refine wpAny_mono (wpAny_toks (C w loose mean mg mb d dp un gd cn cs a ccd cl outer A₀ base h₀ L m news s vs (fun r s' => s.toks ≤ s'.toks → Q r s') E B F X N T hk R hd hu fun r h' tk' F' N' o hle => ret r h' tk' hle F' N' o)) (fun _ _ x => x.2 x.1) fun _ _ x => x.2
theorem use1 {Out : Nat → Led → Value → D → Prop} (C : Tell1 k f Rel Out) (B : Below A₀ base outer h₀) (F : Fr h₀ L s.heap m) (X : (Mine.hd.heap_39 w.params).In h₀) (N : News h₀ L s.heap news) (T : Top Mine.hd.view_39 loose mean mg mb h₀) (hk : cs.kind = .function) (R : Rel s.toks news vs d)
    (hd : dp + k < recursionLimit) (hu : un + 8 * k < cLine)
    (ret : ∀ r tl h' tk', s.toks ≤ tk' → Fr h₀ L h' m → News h₀ L h' (news ++ tl) → (∀ q ∈ news, ∀ p ∈ tl, q.1 ≠ p.1) → Out tk' (news ++ tl) r d → Q r { s with heap := h', toks := tk' }) :
    wpAny (model PySem.Challenge.rw_wo0063_01.row.prog w) (ktrTop dp un gd cn cs L a ccd cl outer) (call (.ref f) vs) Q E s := by
  refine wpAny_mono (wpAny_toks (C w loose mean mg mb d dp un gd cn cs a ccd cl outer A₀ base h₀ L m news s vs (fun r s' => s.toks ≤ s'.toks → Q r s') E B F X N T hk R hd hu fun r tl h' tk' F' N' ho o hle => ret r tl h' tk' hle F' N' ho o)) (fun _ _ x => x.2 x.1) fun _ _ x => x.2
end

theorem ints_get {vs : List Value} {xs : List Int} (h : IntsAre vs xs) : ∀ {i : Nat} {v : Value}, vs[i]? = some v → ∃ x t, v = .int x t ∧ xs[i]? = some x := by
  intro i v hv
  have hl := h.length
  have hi : i < xs.length := by rw [← hl]; exact (List.getElem?_eq_some_iff.mp hv).1
  obtain ⟨t, ht⟩ := h.get i xs[i] (by simp [hi])
  rw [hv] at ht
  exact ⟨xs[i], t, Option.some.inj ht, by simp [hi]⟩

theorem ints_snoc {vs : List Value} {xs : List Int} {x : Int} {t : Tok} (h : IntsAre vs xs) : IntsAre (vs ++ [.int x t]) (xs ++ [x]) := by
  induction h with
  | nil => exact .cons _ _ .nil
  | cons _ _ _ ih => exact .cons _ _ ih
theorem pin1 {h₀ h : Heap} {L : Addr} {m : PySem.Str → Option Value} {x : PySem.Str} {v : Option Value} (F : Fr h₀ L h m) (hx : m x = v) : Fr h₀ L h (fun y => if y = x then v else m y) := by
  have e : (fun y => if y = x then v else m y) = m := by
    funext y
    by_cases h : y = x
    · subst h; simp [hx]
    · simp [h]
  rw [e]; exact F
theorem pin2 {h₀ h : Heap} {L : Addr} {m : PySem.Str → Option Value} {x1 x2 : PySem.Str} {v1 v2 : Option Value} (F : Fr h₀ L h m) (h1 : m x1 = v1) (h2 : m x2 = v2) : Fr h₀ L h (fun y => if y = x1 then v1 else if y = x2 then v2 else m y) := by
  have e : (fun y => if y = x1 then v1 else if y = x2 then v2 else m y) = m := by
    funext y
    repeat' split
    all_goals (first | rfl | (subst_vars; rfl) | (rename_i q _; subst q; symm; assumption) | (rename_i q; subst q; symm; assumption))
  rw [e]; exact F
theorem pin3 {h₀ h : Heap} {L : Addr} {m : PySem.Str → Option Value} {x1 x2 x3 : PySem.Str} {v1 v2 v3 : Option Value} (F : Fr h₀ L h m) (h1 : m x1 = v1) (h2 : m x2 = v2) (h3 : m x3 = v3) : Fr h₀ L h (fun y => if y = x1 then v1 else if y = x2 then v2 else if y = x3 then v3 else m y) := by
  have e : (fun y => if y = x1 then v1 else if y = x2 then v2 else if y = x3 then v3 else m y) = m := by
    funext y
    repeat' split
    all_goals (first | rfl | (subst_vars; rfl) | (rename_i q _; subst q; symm; assumption) | (rename_i q; subst q; symm; assumption))
  rw [e]; exact F
theorem pin4 {h₀ h : Heap} {L : Addr} {m : PySem.Str → Option Value} {x1 x2 x3 x4 : PySem.Str} {v1 v2 v3 v4 : Option Value} (F : Fr h₀ L h m) (h1 : m x1 = v1) (h2 : m x2 = v2) (h3 : m x3 = v3) (h4 : m x4 = v4) : Fr h₀ L h (fun y => if y = x1 then v1 else if y = x2 then v2 else if y = x3 then v3 else if y = x4 then v4 else m y) := by
  have e : (fun y => if y = x1 then v1 else if y = x2 then v2 else if y = x3 then v3 else if y = x4 then v4 else m y) = m := by
    funext y
    repeat' split
    all_goals (first | rfl | (subst_vars; rfl) | (rename_i q _; subst q; symm; assumption) | (rename_i q; subst q; symm; assumption))
  rw [e]; exact F
theorem pin5 {h₀ h : Heap} {L : Addr} {m : PySem.Str → Option Value} {x1 x2 x3 x4 x5 : PySem.Str} {v1 v2 v3 v4 v5 : Option Value} (F : Fr h₀ L h m) (h1 : m x1 = v1) (h2 : m x2 = v2) (h3 : m x3 = v3) (h4 : m x4 = v4) (h5 : m x5 = v5) : Fr h₀ L h (fun y => if y = x1 then v1 else if y = x2 then v2 else if y = x3 then v3 else if y = x4 then v4 else if y = x5 then v5 else m y) := by
  have e : (fun y => if y = x1 then v1 else if y = x2 then v2 else if y = x3 then v3 else if y = x4 then v4 else if y = x5 then v5 else m y) = m := by
    funext y
    repeat' split
    all_goals (first | rfl | (subst_vars; rfl) | (rename_i q _; subst q; symm; assumption) | (rename_i q; subst q; symm; assumption))
  rw [e]; exact F
theorem pin6 {h₀ h : Heap} {L : Addr} {m : PySem.Str → Option Value} {x1 x2 x3 x4 x5 x6 : PySem.Str} {v1 v2 v3 v4 v5 v6 : Option Value} (F : Fr h₀ L h m) (h1 : m x1 = v1) (h2 : m x2 = v2) (h3 : m x3 = v3) (h4 : m x4 = v4) (h5 : m x5 = v5) (h6 : m x6 = v6) : Fr h₀ L h (fun y => if y = x1 then v1 else if y = x2 then v2 else if y = x3 then v3 else if y = x4 then v4 else if y = x5 then v5 else if y = x6 then v6 else m y) := by
  have e : (fun y => if y = x1 then v1 else if y = x2 then v2 else if y = x3 then v3 else if y = x4 then v4 else if y = x5 then v5 else if y = x6 then v6 else m y) = m := by
    funext y
    repeat' split
    all_goals (first | rfl | (subst_vars; rfl) | (rename_i q _; subst q; symm; assumption) | (rename_i q; subst q; symm; assumption))
  rw [e]; exact F
theorem pin7 {h₀ h : Heap} {L : Addr} {m : PySem.Str → Option Value} {x1 x2 x3 x4 x5 x6 x7 : PySem.Str} {v1 v2 v3 v4 v5 v6 v7 : Option Value} (F : Fr h₀ L h m) (h1 : m x1 = v1) (h2 : m x2 = v2) (h3 : m x3 = v3) (h4 : m x4 = v4) (h5 : m x5 = v5) (h6 : m x6 = v6) (h7 : m x7 = v7) : Fr h₀ L h (fun y => if y = x1 then v1 else if y = x2 then v2 else if y = x3 then v3 else if y = x4 then v4 else if y = x5 then v5 else if y = x6 then v6 else if y = x7 then v7 else m y) := by
  have e : (fun y => if y = x1 then v1 else if y = x2 then v2 else if y = x3 then v3 else if y = x4 then v4 else if y = x5 then v5 else if y = x6 then v6 else if y = x7 then v7 else m y) = m := by
    funext y
    repeat' split
    all_goals (first | rfl | (subst_vars; rfl) | (rename_i q _; subst q; symm; assumption) | (rename_i q; subst q; symm; assumption))
  rw [e]; exact F

section loops
variable {prog : Program} {w : World} {A : Around} {E : Value → Shared → Prop} {s : Shared} {env : Env} {h₀ : Heap} {target : PySem.Expr} {body : List Stmt} {Q : Flow → Shared → Prop}

/-- the end of a turn: the iterator `q` stands, the ledger is `q :: news'` -/
def TEnd (h₀ : Heap) (L : Addr) (s₁ : Shared) (q : Addr × Obj) (J : (PySem.Str → Option Value) → List (Addr × Obj) → Prop) (s₂ : Shared) : Prop :=
  ∃ h' tk m' news', s₂ = { s₁ with heap := h', toks := tk } ∧ Fr h₀ L h' m' ∧ News h₀ L h' (q :: news') ∧ (∀ p ∈ news', p.1 ≠ q.1) ∧ J m' news'
def TPost (h₀ : Heap) (L : Addr) (s₁ : Shared) (q : Addr × Obj) (J : (PySem.Str → Option Value) → List (Addr × Obj) → Prop) (Q : Flow → Shared → Prop) (f : Flow) (s₂ : Shared) : Prop :=
  match f with
  | .ret v => Q (.ret v) s₂
  | .brk => Q .next s₂
  | _ => TEnd h₀ L s₁ q J s₂

theorem TPost.next {L : Addr} {s₁ : Shared} {q : Addr × Obj} {J : (PySem.Str → Option Value) → List (Addr × Obj) → Prop} {h' : Heap} {tk : Nat} {m' : PySem.Str → Option Value} {all : List (Addr × Obj)} (F : Fr h₀ L h' m') (N : News h₀ L h' all) (news' : List (Addr × Obj))
    (sub : ∀ p ∈ q :: news', p ∈ all) (off : ∀ p ∈ news', p.1 ≠ q.1) (j : J m' news') : TPost h₀ L s₁ q J Q .next { s₁ with heap := h', toks := tk } := ⟨h', tk, m', news', rfl, F, fun p hp => N p (sub p hp), off, j⟩

theorem items_ind {ws : List (Addr × String)} {keep : List (Addr × Obj)} (J : List Itm → (PySem.Str → Option Value) → List (Addr × Obj) → Prop)
    (zero : ∀ m news, J [] m news → ∀ h tk, Fr h₀ env.locals h m → News h₀ env.locals h news → Q .next { s with heap := h, toks := tk })
    (step : ∀ a r m news, J (a :: r) m news → ∀ v h tk, a.Is v h → Fr h₀ env.locals h m → AllObj ws (fun its => News h₀ env.locals h (its ++ news) →
      wpAny (model prog w) A (assign target env v) (fun _ s₂ => wpAny (model prog w) A (execs body env) (UnrPostW h₀ env.locals { s with heap := h, toks := tk } its (fun m' n' => SubL keep n' ∧ J r m' n') Q) E s₂) E { s with heap := h, toks := tk }))
    (xs : List Itm) : ∀ m news, J xs m news → ItemsRest prog w A E h₀ env target body Q s ws keep xs m news := by
  induction xs with
  | nil => exact fun m news hj => zero m news hj
  | cons a r ih =>
    intro m news hj v h tk hv F
    have z := step a r m news hj v h tk hv F
    have mono : ∀ (ws : List (Addr × String)) {k k' : List (Addr × Obj) → Prop}, (∀ its, k its → k' its) → AllObj ws k → AllObj ws k' := by
      intro ws
      induction ws with
      | nil => exact fun h x => h _ x
      | cons w ws ih => exact fun h x o ho => ih (fun its hk => h _ hk) (x o ho)
    refine mono ws (fun its hk N => ?_) z
    refine wpAny_mono (hk N) (fun _ s₂ h₂ => wpAny_mono h₂ (fun f s₃ h₃ => ?_) fun _ _ e => e) fun _ _ e => e
    cases f with
    | ret v => exact h₃
    | brk => exact h₃
    | next => obtain ⟨h', tk', m', n', e, F', N', ho, hk', hj'⟩ := h₃; exact ⟨h', tk', m', n', e, F', N', ho, hk', ih _ _ hj'⟩
    | cont => obtain ⟨h', tk', m', n', e, F', N', ho, hk', hj'⟩ := h₃; exact ⟨h', tk', m', n', e, F', N', ho, hk', ih _ _ hj'⟩

/-- a for over a list of the ledger, any target, by an invariant over the turn's number, the frame and the ledger -/
theorem iterL {ax : Addr} {vs : List Value} {n : Nat} {m₀ : PySem.Str → Option Value} {news : List (Addr × Obj)} (J : Nat → (PySem.Str → Option Value) → List (Addr × Obj) → Prop)
    (hh : A.handled = none) (F : Fr h₀ env.locals s.heap m₀) (N : News h₀ env.locals s.heap news) (hm : (ax, listOf vs.toArray n) ∈ news) (hj : J 0 m₀ news)
    (turn : ∀ I, (∀ p ∈ news, p.1 < I) → ∀ i v m₁ news₁ oI h tk, vs[i]? = some v → (ax, listOf vs.toArray n) ∈ news₁ → (∀ p ∈ news₁, p.1 ≠ I) → J i m₁ news₁ → Fr h₀ env.locals h m₁ → News h₀ env.locals h ((I, oI) :: news₁) →
      wpAny (model prog w) A (assign target env v) (fun _ s₂ => wpAny (model prog w) A (execs body env) (TPost h₀ env.locals { s with heap := h, toks := tk } (I, oI) (fun m' n' => (ax, listOf vs.toArray n) ∈ n' ∧ J (i + 1) m' n') Q) E s₂) E { s with heap := h, toks := tk })
    (done : ∀ m₁ news₁ h tk, (ax, listOf vs.toArray n) ∈ news₁ → J vs.length m₁ news₁ → Fr h₀ env.locals h m₁ → News h₀ env.locals h news₁ → Q .next { s with heap := h, toks := tk }) :
    wpAny (model prog w) A (pyIter (.ref ax)) (fun it s₂ => TurnsAt prog w A h₀ env target body Q E it s₂) E s := by
  refine iter_listTurns (lo := listOf vs.toArray n) hh F N hm rfl rfl fun I hI => ?_
  refine items_ind (fun xs m nw => ∃ i, i ≤ vs.length ∧ xs = (vs.drop i).map .val ∧ (ax, listOf vs.toArray n) ∈ nw ∧ (∀ p ∈ nw, p.1 ≠ I) ∧ J i m nw) ?_ ?_ _ _ _ ⟨0, Nat.zero_le _, rfl, hm, fun p hp => Nat.ne_of_lt (hI p hp), hj⟩
  · rintro m nw ⟨i, hi, e, hmem, _, hj'⟩ h tk F' N'
    have : vs.drop i = [] := by simpa using e.symm
    have : i = vs.length := Nat.le_antisymm hi (by simpa using this)
    subst this
    exact done m nw h tk hmem hj' F' N'
  · rintro a r m nw ⟨i, hi, e, hmem, hoff, hj'⟩ v h tk hv F'
    refine AllObj.cons fun oI _ => AllObj.nil fun N' => ?_
    have hlt : i < vs.length := by
      refine Nat.lt_of_le_of_ne hi fun q => ?_
      subst q
      simp at e
    rw [List.drop_eq_getElem_cons hlt, List.map_cons] at e
    injection e with e1 e2
    subst e1 e2
    have ev : v = vs[i] := hv
    refine wpAny_mono (turn I hI i v m nw oI h tk (by rw [ev]; simp [hlt]) hmem hoff hj' F' N') (fun _ s₂ h₂ => wpAny_mono h₂ (fun f s₃ h₃ => ?_) fun _ _ e => e) fun _ _ e => e
    have fin : TEnd h₀ env.locals { s with heap := h, toks := tk } (I, oI) (fun m' n' => (ax, listOf vs.toArray n) ∈ n' ∧ J (i + 1) m' n') s₃ → UnrEndW h₀ env.locals { s with heap := h, toks := tk } [(I, oI)] (fun m' n' => SubL [(ax, listOf vs.toArray n)] n' ∧ ∃ j, j ≤ vs.length ∧ (vs.drop (i + 1)).map Itm.val = (vs.drop j).map .val ∧ (ax, listOf vs.toArray n) ∈ n' ∧ (∀ p ∈ n', p.1 ≠ I) ∧ J j m' n') s₃ := by
      rintro ⟨h', tk', m', n', e, F'', N'', ho, hk, hJ⟩
      exact ⟨h', tk', m', n', e, F'', N'', fun p hp q hq => by rw [List.mem_singleton.mp hq]; exact ho p hp, ⟨hk, trivial⟩, i + 1, hlt, rfl, hk, ho, hJ⟩
    cases f with
    | ret v => exact h₃
    | brk => exact h₃
    | next => exact fin h₃
    | cont => exact fin h₃

/-- a for over range(a, a + n), any name, by an invariant -/
theorem iterR {r : Addr} {a₀ b₀ : Int} {t₀ u₀ v₀ : Tok} {n : Nat} {x : PySem.Str} {px : Pos} {m₀ : PySem.Str → Option Value} {news : List (Addr × Obj)} (J : Nat → (PySem.Str → Option Value) → List (Addr × Obj) → Prop)
    (hh : A.handled = none) (hr : IsRange s.heap r a₀ b₀ 1 t₀ u₀ v₀) (hsmall : Builtin.Range.small a₀ b₀ 1 = true) (hsz : Builtin.Range.rangeSize a₀ b₀ 1 = (n : Int))
    (F : Fr h₀ env.locals s.heap m₀) (N : News h₀ env.locals s.heap news) (hj : J 0 m₀ news)
    (turn : ∀ I, (∀ p ∈ news, p.1 < I) → ∀ i t m₁ news₁ oI h tk, i < n → (∀ p ∈ news₁, p.1 ≠ I) → J i m₁ news₁ → Fr h₀ env.locals h m₁ → News h₀ env.locals h ((I, oI) :: news₁) →
      wpAny (model prog w) A (assign (.Name x px) env (.int (a₀ + (i : Int)) t)) (fun _ s₂ => wpAny (model prog w) A (execs body env) (TPost h₀ env.locals { s with heap := h, toks := tk } (I, oI) (fun m' n' => J (i + 1) m' n') Q) E s₂) E { s with heap := h, toks := tk })
    (done : ∀ m₁ news₁ h tk, J n m₁ news₁ → Fr h₀ env.locals h m₁ → News h₀ env.locals h news₁ → Q .next { s with heap := h, toks := tk }) :
    wpAny (model prog w) A (pyIter (.ref r)) (fun it s₂ => TurnsAt prog w A h₀ env (.Name x px) body Q E it s₂) E s := by
  refine wpAny_pyIter_range hr hsmall ?_
  have W : Walks prog w A s.heap.objs.size [s.heap.objs.size] [s.heap.objs.size] n (fun i v => i < n ∧ ∃ t, v = .int (a₀ + (i : Int)) t) (fun i h => IsRangeIter h s.heap.objs.size (a₀ + (i : Nat) * 1) ((n : Int) - (i : Nat)) 1) :=
    let W : Walks prog w A s.heap.objs.size [s.heap.objs.size] [s.heap.objs.size] n (fun i v => i < n ∧ ∃ t, v = .int (a₀ + i * 1) t) (fun i h => IsRangeIter h s.heap.objs.size (a₀ + (i : Nat) * 1) ((n : Int) - (i : Nat)) 1) := (Walks.range hh _ a₀ 1 n).bound
    { sub := W.sub, frame := W.frame, done := W.done, self := W.self,
      item := fun i s Q E hi st hQ => W.item i s Q E hi st fun v h' tk hP => hQ v h' tk (by obtain ⟨hlt, t, rfl⟩ := hP; exact ⟨hlt, t, by rw [Int.mul_one]⟩) }
  have hI : ∀ p ∈ news, p.1 < s.heap.objs.size := fun p hp => Heap.lt_size (N p hp).1
  refine ktu_core (tk0 := s.toks) (ws := [(s.heap.objs.size, "range_iterator")]) (keep := []) (xs := (List.range n).map fun (i : Nat) => Itm.tok (fun t => .int (a₀ + (i : Int)) t)) (KTurns.ofWalks W fun i v s Q E st q => wpAny_pure q) (by simp) (fun i v h hp => ?_) (fun i h st => ?_) (fun b hb => ?_) (fun b hb => by simpa using hb) (fun b hb => .inl (by simpa using hb)) (fun hL => ?_) (fun p hp hI' => ?_) ?_ (F.push _) (fun p hp => ⟨Heap.get?_push_of_some _ (N p hp).1, (N p hp).2⟩) trivial ?_
  · obtain ⟨hlt, t, rfl⟩ := hp
    exact ⟨Itm.tok (fun t => .int (a₀ + (i : Int)) t), by simp [hlt], t, rfl⟩
  · exact ⟨[(s.heap.objs.size, _)], ⟨⟨rfl, rfl⟩, trivial⟩, fun p hp => by rw [List.mem_singleton.mp hp]; exact st⟩
  · have hb' : b = s.heap.objs.size := by simpa using hb
    rw [hb']
    exact ⟨List.mem_cons_self .., next_is_new F⟩
  · exact absurd F.ns.lt ((List.mem_singleton.mp hL) ▸ Nat.lt_irrefl _)
  · exact absurd (hI p hp) ((List.mem_singleton.mp hI') ▸ Nat.lt_irrefl _)
  · show IsRangeIter _ _ _ _ _
    rw [hsz]; simpa using Heap.get?_push_size _ rfl
  · refine items_ind (fun xs m nw => ∃ i, i ≤ n ∧ xs = ((List.range n).drop i).map (fun (i : Nat) => Itm.tok (fun t => .int (a₀ + (i : Int)) t)) ∧ (∀ p ∈ nw, p.1 ≠ s.heap.objs.size) ∧ J i m nw) ?_ ?_ _ _ _ ⟨0, Nat.zero_le _, rfl, fun p hp => Nat.ne_of_lt (hI p hp), hj⟩
    · rintro m nw ⟨i, hi, e, _, hj'⟩ h tk F' N'
      have : (List.range n).drop i = [] := by simpa using e.symm
      have : i = n := Nat.le_antisymm hi (by simpa using this)
      subst this
      exact done m nw h tk hj' F' N'
    · rintro a r' m nw ⟨i, hi, e, hoff, hj'⟩ v h tk hv F'
      refine AllObj.cons fun oI _ => AllObj.nil fun N' => ?_
      have hlt : i < n := by
        refine Nat.lt_of_le_of_ne hi fun q => ?_
        subst q
        rw [List.drop_of_length_le (by simp)] at e
        simp at e
      rw [List.drop_eq_getElem_cons (by simpa using hlt), List.map_cons] at e
      injection e with e1 e2
      subst e1 e2
      obtain ⟨t, ev⟩ : ∃ t, v = .int (a₀ + (i : Int)) t := by
        obtain ⟨t, e⟩ := hv
        exact ⟨t, by simpa using e⟩
      subst ev
      refine wpAny_mono (turn _ hI i t m nw oI h tk hlt hoff hj' F' N') (fun _ s₂ h₂ => wpAny_mono h₂ (fun f s₃ h₃ => ?_) fun _ _ e => e) fun _ _ e => e
      have fin : TEnd h₀ env.locals { s with heap := h, toks := tk } (s.heap.objs.size, oI) (fun m' n' => J (i + 1) m' n') s₃ → UnrEndW h₀ env.locals { s with heap := h, toks := tk } [(s.heap.objs.size, oI)] (fun m' n' => SubL [] n' ∧ ∃ j, j ≤ n ∧ ((List.range n).drop (i + 1)).map (fun (i : Nat) => Itm.tok (fun t => .int (a₀ + (i : Int)) t)) = ((List.range n).drop j).map (fun (i : Nat) => Itm.tok (fun t => .int (a₀ + (i : Int)) t)) ∧ (∀ p ∈ n', p.1 ≠ s.heap.objs.size) ∧ J j m' n') s₃ := by
        rintro ⟨h', tk', m', n', e, F'', N'', ho, hJ⟩
        exact ⟨h', tk', m', n', e, F'', N'', fun p hp q hq => by rw [List.mem_singleton.mp hq]; exact ho p hp, trivial, i + 1, hlt, rfl, ho, hJ⟩
      cases f with
      | ret v => exact h₃
      | brk => exact h₃
      | next => exact fin h₃
      | cont => exact fin h₃
end loops

section comps
variable {prog : Program} {w : World} {A : Around} {E : Value → Shared → Prop} {s : Shared} {h₀ : Heap} {L : Addr} {m : PySem.Str → Option Value} {env : Env}

theorem CompEnd.mono {s₁ : Shared} {I : Addr} {oI : Obj} {C : Addr} {oC : Obj} {D : Addr} {oD : Obj} {S : List (Addr × Obj) → Prop} {rest rest' : Value → List (Addr × Obj) → Prop} {y : Value} {s₂ : Shared} (h : CompEnd h₀ L m s₁ I oI C oC D oD S rest y s₂) (k : ∀ y n, rest y n → rest' y n) :
    CompEnd h₀ L m s₁ I oI C oC D oD S rest' y s₂ := by
  obtain ⟨h', tk, n', e, F, N, o, hS, r⟩ := h
  exact ⟨h', tk, n', e, F, N, o, hS, k _ _ r⟩

theorem restU {elt : PySem.Expr} {x : PySem.Str} {scope : Scope} {cl : List (PySem.Str × Addr)} {S : List (Addr × Obj) → Prop} {P : Nat → Value → Prop} {Fin : List Value → List (Addr × Obj) → Prop} {n : Nat} (J : Nat → List Value → List (Addr × Obj) → Prop)
    (turn : ∀ i ys nw v I oI C oC D m₂ h tk (E' : Value → Shared → Prop), i < n → J i ys nw → P i v → NsObj oC m₂ → m₂ x = some v → Fr h₀ L h m → News h₀ L h ((I, oI) :: (C, oC) :: (D, lst ys) :: nw) → Off3 I C D nw → ((@Ne Nat I C) ∧ (@Ne Nat I D) ∧ (@Ne Nat C D)) →
      wpAny (model prog w) A (eval elt (compEnvC scope cl C env)) (CompEnd h₀ L m { s with heap := h, toks := tk } I oI C oC D (lst ys) S (fun y news' => J (i + 1) (ys ++ [y]) news')) E' { s with heap := h, toks := tk })
    (fin : ∀ ys nw, J n ys nw → Fin ys nw) : ∀ k i ys nw, i + k = n → J i ys nw → CompRest prog w A h₀ L m env elt x scope cl s S P Fin k i ys nw := by
  intro k
  induction k with
  | zero => intro i ys nw e hj; (obtain rfl : i = n := (by omega)); exact fin ys nw hj
  | succ k ih =>
    intro i ys nw e hj v I oI C oC D m₂ h tk E' hP hC hx F N o ne
    exact wpAny_mono (turn i ys nw v I oI C oC D m₂ h tk E' (by omega) hj hP hC hx F N o ne) (fun y s₂ h₂ => CompEnd.mono h₂ fun y n hj' => ih _ _ _ (by omega) hj') fun _ _ e => e

theorem restT {ct elt : PySem.Expr} {x : PySem.Str} {scope : Scope} {cl : List (PySem.Str × Addr)} {S : List (Addr × Obj) → Prop} {P : Nat → Value → Prop} {Fin : List Value → List (Addr × Obj) → Prop} {n : Nat} (J : Nat → List Value → List (Addr × Obj) → Prop)
    (turn : ∀ i ys nw v I oI C oC D m₂ h tk (E' : Value → Shared → Prop), i < n → J i ys nw → P i v → NsObj oC m₂ → m₂ x = some v → Fr h₀ L h m → News h₀ L h ((I, oI) :: (C, oC) :: (D, lst ys) :: nw) → Off3 I C D nw → ((@Ne Nat I C) ∧ (@Ne Nat I D) ∧ (@Ne Nat C D)) →
      wpAny (model prog w) A (isTrue ct (compEnvC scope cl C env) (eval ct (compEnvC scope cl C env))) (fun ok s' => if ok = true then
        wpAny (model prog w) A (eval elt (compEnvC scope cl C env)) (CompEnd h₀ L m { s with heap := h, toks := tk } I oI C oC D (lst ys) S (fun y news' => J (i + 1) (ys ++ [y]) news')) E' s'
        else CompEnd h₀ L m { s with heap := h, toks := tk } I oI C oC D (lst ys) S (fun _ news' => J (i + 1) ys news') Value.none s') E' { s with heap := h, toks := tk })
    (fin : ∀ ys nw, J n ys nw → Fin ys nw) : ∀ k i ys nw, i + k = n → J i ys nw → LCt.CompRestT prog w A h₀ L m env ct elt x scope cl s S P Fin k i ys nw := by
  intro k
  induction k with
  | zero => intro i ys nw e hj; (obtain rfl : i = n := (by omega)); exact fin ys nw hj
  | succ k ih =>
    intro i ys nw e hj v I oI C oC D m₂ h tk E' hP hC hx F N o ne
    refine wpAny_mono (turn i ys nw v I oI C oC D m₂ h tk E' (by omega) hj hP hC hx F N o ne) (fun ok s₂ h₂ => ?_) fun _ _ e => e
    cases ok with
    | true =>
      simp only [if_true] at h₂ ⊢
      exact wpAny_mono h₂ (fun y s₃ h₃ => CompEnd.mono h₃ fun y n hj' => ih _ _ _ (by omega) hj') fun _ _ e => e
    | false =>
      simp only [Bool.false_eq_true, if_false] at h₂ ⊢
      exact CompEnd.mono h₂ fun y n hj' => ih _ _ _ (by omega) hj'

theorem restP {elt : PySem.Expr} {x x₂ : PySem.Str} {scope : Scope} {cl : List (PySem.Str × Addr)} {S : List (Addr × Obj) → Prop} {P : Nat → Value → Prop} {Fin : List Value → List (Addr × Obj) → Prop} {n : Nat} (J : Nat → List Value → List (Addr × Obj) → Prop)
    (turn : ∀ i ys nw v, i < n → J i ys nw → P i v → ∃ (t : Addr) (ot : Obj) (v₁ v₂ : Value) (nt : Nat), v = .ref t ∧ (t, ot) ∈ nw ∧ ot.cls = .type "tuple" ∧ ot.data = .seq #[v₁, v₂] nt ∧
      ∀ I oI C oC D m₂ h tk (E' : Value → Shared → Prop), NsObj oC m₂ → m₂ x = some v₁ → m₂ x₂ = some v₂ → Fr h₀ L h m → News h₀ L h ((I, oI) :: (C, oC) :: (D, lst ys) :: nw) → Off3 I C D nw → ((@Ne Nat I C) ∧ (@Ne Nat I D) ∧ (@Ne Nat C D)) →
      wpAny (model prog w) A (eval elt (compEnvC scope cl C env)) (CompEnd h₀ L m { s with heap := h, toks := tk } I oI C oC D (lst ys) S (fun y news' => J (i + 1) (ys ++ [y]) news')) E' { s with heap := h, toks := tk })
    (fin : ∀ ys nw, J n ys nw → Fin ys nw) : ∀ k i ys nw, i + k = n → J i ys nw → LCp.CompRestP prog w A h₀ L m env elt x x₂ scope cl s S P Fin k i ys nw := by
  intro k
  induction k with
  | zero => intro i ys nw e hj; (obtain rfl : i = n := (by omega)); exact fin ys nw hj
  | succ k ih =>
    intro i ys nw e hj v hP
    obtain ⟨t, ot, v₁, v₂, nt, e1, e2, e3, e4, z⟩ := turn i ys nw v (by omega) hj hP
    refine ⟨t, ot, v₁, v₂, nt, e1, e2, e3, e4, fun I oI C oC D m₂ h tk E' hC hx hx₂ F N o ne => ?_⟩
    exact wpAny_mono (z I oI C oC D m₂ h tk E' hC hx hx₂ F N o ne) (fun y s₂ h₂ => CompEnd.mono h₂ fun y n hj' => ih _ _ _ (by omega) hj') fun _ _ e => e
end comps
end Mine
end

-- MB2
section
open PySem PySem.W PySem.Spec PySem.Calls PyProof.Rows PyProof.Rows.LCg
namespace Mine
/-- a bound on the tokens that the walk keeps in sight -/
def TkB (n tk : Nat) : Prop := n ≤ tk
theorem TkB.le {n tk : Nat} (h : TkB n tk) : n ≤ tk := h
section
variable {prog : Program} {w : World} {A : Around} {E : Value → Shared → Prop} {s : Shared} {env : Env} {h₀ : Heap} {body : List Stmt} {Q : Flow → Shared → Prop}
/-- a for whose turns will know how old their ints are -/
def LoopT (prog : Program) (w : World) (A : Around) (env : Env) (x : PySem.Str) (px : Pos) (body : List Stmt) (Q : Flow → Shared → Prop) (E : Value → Shared → Prop) (it : Value) (s₂ : Shared) : Prop :=
  PassesOwn (model prog w) A env E → codeAny (model prog w) A (.forLoop (.Name x px) it body [] env) (fun r s' => match r with | .ok f => Q f s' | .error e => cameBackBy (model prog w) A env E e s') s₂
theorem For_T {iter : PySem.Expr} {pos px : Pos} {x : PySem.Str} {m : PySem.Str → Option Value} (_F : Fr h₀ env.locals s.heap m)
    (h : wpAny (model prog w) A (eval iter env) (fun xv s₁ => wpAny (model prog w) A (pyIter xv) (fun it s₂ => LoopT prog w A env x px body Q E it s₂) E s₁) E s)
    (hs : ∀ x, foldedSetIterable iter env x = pure x := by intro _; rfl)
    (hE : PassesOwn (model prog w) A env E := by passes_own) :
    wpAny (model prog w) A (exec (.For (.Name x px) iter body [] pos) env) Q E s :=
  wpAny_For (wpAny_mono h (fun _ _ h₁ => wpAny_mono h₁ (fun _ _ h₂ => h₂ hE) fun _ _ e => e) fun _ _ e => e) hs

theorem For_TB {iter : PySem.Expr} {pos px : Pos} {x : PySem.Str} {m : PySem.Str → Option Value} {n₀ c : Nat} (_F : Fr h₀ env.locals s.heap m) (hB : n₀ ≤ c) (hle : c ≤ s.toks)
    (h : wpAny (model prog w) A (eval iter env) (fun xv s₁ => Hold (n₀ ≤ s₁.toks → wpAny (model prog w) A (pyIter xv) (fun it s₂ => LoopT prog w A env x px body Q E it s₂) E s₁)) E s)
    (hs : ∀ x, foldedSetIterable iter env x = pure x := by intro _; rfl)
    (hE : PassesOwn (model prog w) A env E := by passes_own) :
    wpAny (model prog w) A (exec (.For (.Name x px) iter body [] pos) env) Q E s :=
  wpAny_For (wpAny_mono (wpAny_toks_of (Nat.le_trans hB hle) h) (fun _ _ h₁ => wpAny_mono (h₁.2 h₁.1) (fun _ _ h₂ => h₂ hE) fun _ _ e => e) fun _ _ e => e.2) hs

theorem iterRT {r : Addr} {a₀ b₀ : Int} {t₀ u₀ v₀ : Tok} {n n₀ : Nat} {x : PySem.Str} {px : Pos} {m₀ : PySem.Str → Option Value} {news : List (Addr × Obj)} (J : Nat → (PySem.Str → Option Value) → List (Addr × Obj) → Prop)
    (hh : A.handled = none) (hr : IsRange s.heap r a₀ b₀ 1 t₀ u₀ v₀) (hsmall : Builtin.Range.small a₀ b₀ 1 = true) (hsz : Builtin.Range.rangeSize a₀ b₀ 1 = (n : Int)) (hn₀ : n₀ ≤ s.toks)
    (hx : env.kindOf x = some .local) (hp : (env.scope.kind == .class || (env.scope.kind == .module && env.locals != env.globals)) = false)
    (F : Fr h₀ env.locals s.heap m₀) (N : News h₀ env.locals s.heap news) (hj : J 0 m₀ news)
    (turn : ∀ I, (∀ p ∈ news, p.1 < I) → ∀ i t m₁ news₁ oI h tk, i < n → n₀ ≤ t → (∀ p ∈ news₁, p.1 ≠ I) → J i m₁ news₁ → Fr h₀ env.locals h (fun y => if y = x then some (.int (a₀ + (i : Int)) t) else m₁ y) → News h₀ env.locals h ((I, oI) :: news₁) →
      wpAny (model prog w) A (execs body env) (TPost h₀ env.locals { s with heap := h, toks := tk } (I, oI) (fun m' n' => J (i + 1) m' n') Q) E { s with heap := h, toks := tk })
    (done : ∀ m₁ news₁ h tk, J n m₁ news₁ → Fr h₀ env.locals h m₁ → News h₀ env.locals h news₁ → Q .next { s with heap := h, toks := tk }) :
    wpAny (model prog w) A (pyIter (.ref r)) (fun it s₂ => LoopT prog w A env x px body Q E it s₂) E s := by
  refine wpAny_pyIter_range hr hsmall fun hE => ?_
  have hI : ∀ p ∈ news, p.1 < s.heap.objs.size := fun p hp => Heap.lt_size (N p hp).1
  generalize hIe : s.heap.objs.size = I at *
  have hI0 : h₀.get? I = none := by rw [← hIe]; exact next_is_new F
  have hLI : env.locals ≠ I := by rw [← hIe]; exact Nat.ne_of_lt F.ns.lt
  refine codeAny_forLoop_any
    (fun k s' => ∃ (h' : Heap) (tk : Nat) (m' : PySem.Str → Option Value) (news' : List (Addr × Obj)) (i : Nat), s' = { s with heap := h', toks := tk } ∧ n₀ ≤ tk ∧ IsRangeIter h' I (a₀ + (i : Int)) ((n : Int) - (i : Int)) 1 ∧ Fr h₀ env.locals h' m' ∧ News h₀ env.locals h' news' ∧ (∀ p ∈ news', p.1 ≠ I) ∧ J i m' news' ∧ i ≤ n ∧ k = n + 1 - i) ?_ (n + 1)
    ⟨_, s.toks, m₀, news, 0, rfl, hn₀, ?_, F.push _, fun p hp => ⟨Heap.get?_push_of_some _ (N p hp).1, (N p hp).2⟩, fun p hp => Nat.ne_of_lt (hI p hp), hj, Nat.zero_le _, rfl⟩
  · rintro k s' ⟨h', tk, m', news', i, rfl, hle, hit, F', N', hoff, hJ, hi, rfl⟩
    by_cases hlt : i < n
    · refine wpAny_pyNext_range_item hit (by omega) fun h₁ hit₁ hs₁ => ?_
      refine wpAny_pure ?_
      have F₁ : Fr h₀ env.locals h₁ m' := ⟨F'.ns.sameBut hs₁ hLI, fun b o e => (hs₁.2 b (fun q => by rw [q, hI0] at e; cases e)).trans (F'.keep b o e), F'.above⟩
      refine wpAny_assign_Name (wpAny_storeName_local hx F₁.ns (fun h₂ hn₂ hs₂ => ?_) hp)
      have F₂ := F₁.set hn₂ hs₂
      have hit₂ : IsRangeIter h₂ I (a₀ + (i : Int) + 1) ((n : Int) - (i : Int) - 1) 1 := (hs₂.2 I (Ne.symm hLI)).trans hit₁
      have N₂ : News h₀ env.locals h₂ ((I, _) :: news') := fun p hp => by
        rcases List.mem_cons.mp hp with rfl | hp
        · exact ⟨hit₂, Ne.symm hLI, hI0⟩
        · exact ⟨(hs₂.2 p.1 (N' p hp).2.1).trans ((hs₁.2 p.1 (hoff p hp)).trans (N' p hp).1), (N' p hp).2⟩
      refine wpAny_passesOwn hE ?_
      refine wpAny_mono (wpAny_toks_of (n := n₀) (Nat.le_succ_of_le (Nat.le_succ_of_le hle)) (turn I hI i tk m' news' _ h₂ _ hlt hle hoff hJ F₂ N₂)) (fun f s₃ h₃ => ?_) fun _ _ e => e.2
      obtain ⟨hle₃, h₃⟩ := h₃
      have fin : TEnd h₀ env.locals { s with heap := h₂, toks := tk + 1 + 1 } (I, ({ cls := .type "range_iterator", data := .fields #[rawInt (a₀ + (i : Int) + 1), rawInt ((n : Int) - (i : Int) - 1), rawInt 1] } : Obj)) (fun m' n' => J (i + 1) m' n') s₃ → ∃ k, k < n + 1 - i ∧ ∃ (h' : Heap) (tk : Nat) (m' : PySem.Str → Option Value) (news' : List (Addr × Obj)) (i : Nat), s₃ = { s with heap := h', toks := tk } ∧ n₀ ≤ tk ∧ IsRangeIter h' I (a₀ + (i : Int)) ((n : Int) - (i : Int)) 1 ∧ Fr h₀ env.locals h' m' ∧ News h₀ env.locals h' news' ∧ (∀ p ∈ news', p.1 ≠ I) ∧ J i m' news' ∧ i ≤ n ∧ k = n + 1 - i := by
        rintro ⟨h₃', tk₃, m₂, news₂, rfl, F₃, N₃, ho₃, hJ₃⟩
        refine ⟨n + 1 - (i + 1), by omega, h₃', tk₃, m₂, news₂, i + 1, rfl, hle₃, ?_, F₃, fun p hp => N₃ p (.tail _ hp), ho₃, hJ₃, hlt, rfl⟩
        have e := (N₃ _ (.head _)).1
        have e1 : a₀ + ((i + 1 : Nat) : Int) = a₀ + (i : Int) + 1 := by omega
        have e2 : (n : Int) - ((i + 1 : Nat) : Int) = (n : Int) - (i : Int) - 1 := by omega
        rw [e1, e2]
        exact e
      cases f with
      | ret v => exact h₃
      | brk => exact h₃
      | next => exact fin h₃
      | cont => exact fin h₃
    · have hin : i = n := by omega
      subst hin
      refine wpAny_pyNext_range_end hh hit (by omega) fun h₁ he₁ => wpAny_execs_nil ?_
      refine done m' news' h₁ tk hJ ⟨F'.ns.at' fun o e => he₁ _ o hLI e, fun b o e => he₁ b o (fun q => by rw [q, hI0] at e; cases e) (F'.keep b o e), F'.above⟩ fun p hp => ⟨he₁ _ _ (hoff p hp) (N' p hp).1, (N' p hp).2⟩
  · show IsRangeIter _ _ _ _ _
    rw [hsz, ← hIe]; simpa using Heap.get?_push_size _ rfl
end
theorem gen_toks {α : Type} {M : Model} {A : Around} {t : Sem α} {Q : α → Shared → Prop} {E : Value → Shared → Prop} {h : Heap} {g : Array GenState} {d : Drawn} {os : OsState} {n c a b : Nat} (hB : TkB n c) (hle : c ≤ a + b)
    (k : ∀ tk, TkB n tk → wpAny M A t Q E ⟨h, g, d, tk, os⟩) : wpAny M A t Q E ⟨h, g, d, a + b, os⟩ := k _ (Nat.le_trans hB hle)
end Mine
end

-- MB3
section
open PySem PySem.W PySem.Spec PySem.Calls PyProof.Rows PyProof.Rows.LCg
namespace Mine
/-- a contract over the program's own top: the objects that it changes stand first in the ledger (`own`), the new ones come after -/
def Tell2 {D : Type} (k : Nat) (f : Addr) (Rel : Nat → Led → Led → List Value → D → Prop) (Out : Nat → Led → Led → Value → D → Prop) : Prop :=
  ∀ (w : World) (loose : List PySem.Str) (mean : ExcName → Option Value) (mg mb : PySem.Str → Option Value) (d : D)
    (dp un : Nat) (gd : Option (List Code)) (cn : PySem.Str) (cs : Scope) (a : Addr) (ccd : Value) (cl : List (PySem.Str × Addr)) (outer : List Env) (A₀ : Around) (base h₀ : Heap) (L : Addr) (m : PySem.Str → Option Value) (own news : Led) (s : Shared) (vs : List Value)
    (Q E : Value → Shared → Prop),
    Below A₀ base outer h₀ → Fr h₀ L s.heap m → (Mine.hd.heap_39 w.params).In h₀ → News h₀ L s.heap (own ++ news) → (∀ q ∈ own, ∀ p ∈ news, q.1 ≠ p.1) → Top Mine.hd.view_39 loose mean mg mb h₀ → cs.kind = .function → Rel s.toks own news vs d → dp + k < recursionLimit → un + 8 * k < cLine →
    (∀ r own' h' tk', Fr h₀ L h' m → News h₀ L h' (own' ++ news) → (∀ q ∈ own', ∀ p ∈ news, q.1 ≠ p.1) → Out tk' own' news r d → Q r { s with heap := h', toks := tk' }) →
    wpAny (model PySem.Challenge.rw_wo0063_01.row.prog w) (ktrTop dp un gd cn cs L a ccd cl outer) (call (.ref f) vs) Q E s
section
variable {D : Type} {w : World} {loose : List PySem.Str} {mean : ExcName → Option Value} {mg mb : PySem.Str → Option Value} {d : D} {k : Nat} {f : Addr} {Rel : Nat → Led → Led → List Value → D → Prop}
    {dp un : Nat} {gd : Option (List Code)} {cn : PySem.Str} {cs : Scope} {a : Addr} {ccd : Value} {cl : List (PySem.Str × Addr)} {outer : List Env} {A₀ : Around} {base h₀ : Heap} {L : Addr} {m : PySem.Str → Option Value} {own news : Led} {s : Shared} {vs : List Value}
    {Q E : Value → Shared → Prop}
theorem use2 {Out : Nat → Led → Led → Value → D → Prop} (C : Tell2 k f Rel Out) (B : Below A₀ base outer h₀) (F : Fr h₀ L s.heap m) (X : (Mine.hd.heap_39 w.params).In h₀) (N : News h₀ L s.heap (own ++ news)) (hon : ∀ q ∈ own, ∀ p ∈ news, q.1 ≠ p.1) (T : Top Mine.hd.view_39 loose mean mg mb h₀) (hk : cs.kind = .function) (R : Rel s.toks own news vs d)
    (hd : dp + k < recursionLimit) (hu : un + 8 * k < cLine)
    (ret : ∀ r own' h' tk', s.toks ≤ tk' → Fr h₀ L h' m → News h₀ L h' (own' ++ news) → (∀ q ∈ own', ∀ p ∈ news, q.1 ≠ p.1) → Out tk' own' news r d → Q r { s with heap := h', toks := tk' }) :
    wpAny (model PySem.Challenge.rw_wo0063_01.row.prog w) (ktrTop dp un gd cn cs L a ccd cl outer) (call (.ref f) vs) Q E s := by
  refine wpAny_mono (wpAny_toks (C w loose mean mg mb d dp un gd cn cs a ccd cl outer A₀ base h₀ L m own news s vs (fun r s' => s.toks ≤ s'.toks → Q r s') E B F X N hon T hk R hd hu fun r own' h' tk' F' N' ho o hle => ret r own' h' tk' hle F' N' ho o)) (fun _ _ x => x.2 x.1) fun _ _ x => x.2
end
end Mine
end

-- C0
section
open PySem PySem.W PySem.Spec PySem.Calls PyProof.Rows PyProof.Rows.LCg
namespace Mine
def RelII (P : Int → Int → Prop) : Nat → Led → List Value → Int × Int → Prop := fun _ _ vs d => (∃ (X Y : Int) (t u : Tok), vs = [Value.int X t, Value.int Y u] ∧ X = d.1 ∧ Y = d.2) ∧ P d.1 d.2
def OutI (f : Int → Int → Int) : Value → Int × Int → Prop := fun r d => ∃ t, r = Value.int (f d.1 d.2) t

theorem add_tells : Tell0 3 214 (RelII fun _ _ => True) (OutI fun x y => x + y) := by
  k_with_none
  w_top off
  unfold Tell0
  k_fill
  intro w loose mean mg mb d dp un gd cn cs a ccd cl outer A₀ base h₀ L m news s vs Q E B F X N T hk hR hd hu hret
  obtain ⟨x, y⟩ := d
  obtain ⟨⟨_, _, t, u, rfl, rfl, rfl⟩, hP⟩ := hR
  refine wpAny_call ?_
  k_dflt ktr_enter
  k_steps
  refine hret _ _ _ (by assumption) (by rename News h₀ L _ _ => N8; exact N8) ⟨_, rfl⟩
theorem sub_tells : Tell0 3 242 (RelII fun _ _ => True) (OutI fun x y => x - y) := by
  k_with_none
  w_top off
  unfold Tell0
  k_fill
  intro w loose mean mg mb d dp un gd cn cs a ccd cl outer A₀ base h₀ L m news s vs Q E B F X N T hk hR hd hu hret
  obtain ⟨x, y⟩ := d
  obtain ⟨⟨_, _, t, u, rfl, rfl, rfl⟩, hP⟩ := hR
  refine wpAny_call ?_
  k_dflt ktr_enter
  k_steps
  refine hret _ _ _ (by assumption) (by rename News h₀ L _ _ => N8; exact N8) ⟨_, rfl⟩
theorem mul_tells : Tell0 3 228 (RelII fun x y => 0 ≤ x ∧ x ≤ 2 ∧ 0 ≤ y ∧ y ≤ 5) (OutI fun x y => x * y) := by
  k_with_none
  w_top off
  unfold Tell0
  k_fill
  intro w loose mean mg mb d dp un gd cn cs a ccd cl outer A₀ base h₀ L m news s vs Q E B F X N T hk hR hd hu hret
  obtain ⟨x, y⟩ := d
  obtain ⟨⟨_, _, t, u, rfl, rfl, rfl⟩, hP1, hP2, hP3, hP4⟩ := hR
  dsimp only at hP1 hP2 hP3 hP4
  refine wpAny_call ?_
  k_dflt ktr_enter
  k_steps
  all_goals (first | exact hret _ _ _ (by assumption) (by rename News h₀ L _ _ => N8; exact N8) ⟨_, rfl⟩)
theorem bitAnd_nat (a b : Nat) : Builtin.bitAnd (a : Int) (b : Int) = ((a &&& b : Nat) : Int) := by
  unfold Builtin.bitAnd
  simp
theorem bitOr_nat (a b : Nat) : Builtin.bitOr (a : Int) (b : Int) = ((a ||| b : Nat) : Int) := by
  unfold Builtin.bitOr Builtin.bitAnd Builtin.bitNot
  have h1 : ¬ (0 : Int) ≤ -(a : Int) - 1 := by omega
  have h2 : ¬ (0 : Int) ≤ -(b : Int) - 1 := by omega
  simp only [h1, h2, decide_false]
  have e1 : (-(-(a : Int) - 1) - 1).toNat = a := by omega
  have e2 : (-(-(b : Int) - 1) - 1).toNat = b := by omega
  rw [e1, e2]
  omega
theorem bitXor_fin : ∀ a b : Fin 16, Builtin.bitXor (a.val : Int) (b.val : Int) = ((a.val ^^^ b.val : Nat) : Int) := by decide +kernel
theorem bitXor_nat {a b : Nat} (ha : a < 16) (hb : b < 16) : Builtin.bitXor (a : Int) (b : Int) = ((a ^^^ b : Nat) : Int) := bitXor_fin ⟨a, ha⟩ ⟨b, hb⟩
def RelNN (P : Nat → Nat → Prop) : Nat → Led → List Value → Nat × Nat → Prop := fun _ _ vs d => (∃ (X Y : Int) (t u : Tok), vs = [Value.int X t, Value.int Y u] ∧ X = (d.1 : Int) ∧ Y = (d.2 : Int)) ∧ P d.1 d.2
def OutN (f : Nat → Nat → Nat) : Value → Nat × Nat → Prop := fun r d => ∃ t, r = Value.int (f d.1 d.2 : Int) t
theorem lshift_tells : Tell0 3 221 (RelNN fun x y => x < 1048576 ∧ y ≤ 10) (OutN fun x y => x * 2 ^ y) := by
  k_with_none
  w_top off
  unfold Tell0
  k_fill
  intro w loose mean mg mb d dp un gd cn cs a ccd cl outer A₀ base h₀ L m news s vs Q E B F X N T hk hR hd hu hret
  obtain ⟨x, y⟩ := d
  obtain ⟨⟨_, _, t, u, rfl, rfl, rfl⟩, hP1, hP2⟩ := hR
  dsimp only at hP1 hP2
  refine wpAny_call ?_
  k_dflt ktr_enter
  (k_with "binaryOp LShift int int" => (refine lshift_int_small (by omega) (by omega) (by omega) ?_))
  k_steps
  have e : (x : Int) * 2 ^ ((y : Int)).toNat = ((x * 2 ^ y : Nat) : Int) := by simp
  rw [e]
  refine hret _ _ _ (by assumption) (by rename News h₀ L _ _ => N8; exact N8) ⟨_, rfl⟩
theorem or_tells : Tell0 3 235 (RelNN fun x y => True) (OutN fun x y => x ||| y) := by
  k_with_none
  w_top off
  unfold Tell0
  k_fill
  intro w loose mean mg mb d dp un gd cn cs a ccd cl outer A₀ base h₀ L m news s vs Q E B F X N T hk hR hd hu hret
  obtain ⟨x, y⟩ := d
  obtain ⟨⟨_, _, t, u, rfl, rfl, rfl⟩, _⟩ := hR
  refine wpAny_call ?_
  k_dflt ktr_enter
  k_steps
  rw [bitOr_nat]
  refine hret _ _ _ (by assumption) (by rename News h₀ L _ _ => N8; exact N8) ⟨_, rfl⟩
theorem xor_tells : Tell0 3 249 (RelNN fun x y => x < 16 ∧ y < 16) (OutN fun x y => x ^^^ y) := by
  k_with_none
  w_top off
  unfold Tell0
  k_fill
  intro w loose mean mg mb d dp un gd cn cs a ccd cl outer A₀ base h₀ L m news s vs Q E B F X N T hk hR hd hu hret
  obtain ⟨x, y⟩ := d
  obtain ⟨⟨_, _, t, u, rfl, rfl, rfl⟩, hP1, hP2⟩ := hR
  dsimp only at hP1 hP2
  refine wpAny_call ?_
  k_dflt ktr_enter
  k_steps
  rw [bitXor_nat hP1 hP2]
  refine hret _ _ _ (by assumption) (by rename News h₀ L _ _ => N8; exact N8) ⟨_, rfl⟩
def RelS : Nat → Led → List Value → PySem.Str → Prop := fun _ _ vs d => (∃ t : Tok, vs = [Value.str d t]) ∧ d.length ≤ 100
theorem truth_tells : Tell0 3 207 RelS (fun r d => r = Value.bool (decide (d.length ≠ 0))) := by
  k_with_none
  w_top off
  unfold Tell0
  k_fill
  intro w loose mean mg mb d dp un gd cn cs a ccd cl outer A₀ base h₀ L m news s vs Q E B F X N T hk hR hd hu hret
  obtain ⟨⟨t, rfl⟩, hP⟩ := hR
  have hsl : sizeLine = 16777216 := sizeLine_eq
  refine wpAny_call ?_
  k_dflt ktr_enter
  k_steps
  all_goals (
    refine hret _ _ _ (by assumption) (by rename News h₀ L _ _ => N8; exact N8) ?_
    by_cases h0 : d.length = 0
    · simp_all
    · simp_all)
end Mine
end

-- C1
section
open PySem PySem.W PySem.Spec PySem.Calls PyProof.Rows PyProof.Rows.LCg
namespace Mine
/-- the letters of a number to the base 16, A for 0 -/
def apL : Nat → Nat → List UInt8
  | 0, _ => []
  | f + 1, n => if n = 0 then [] else apL f (n / 16) ++ [(65 + n % 16).toUInt8]
theorem apL_fuel : ∀ f n, n < 16 ^ f → apL (f + 1) n = apL f n
  | 0, n, h => by
    have : n = 0 := by simpa using h
    subst this
    rfl
  | f + 1, n, h => by
    have h2 : n / 16 < 16 ^ f := by
      rw [Nat.pow_succ] at h
      omega
    show (if n = 0 then [] else apL (f + 1) (n / 16) ++ _) = (if n = 0 then [] else apL f (n / 16) ++ _)
    rw [apL_fuel f _ h2]
theorem apL_step {k : Nat} (h : k ≠ 0) (hk : k < 1048576) : apL 5 k = apL 5 (k / 16) ++ [(65 + k % 16).toUInt8] := by
  rw [show apL 5 (k / 16) = apL 4 (k / 16) from apL_fuel 4 _ (by omega)]
  show (if k = 0 then [] else apL 4 (k / 16) ++ _) = _
  rw [if_neg h]
theorem apL_length : ∀ f n, (apL f n).length ≤ f
  | 0, n => by simp [apL]
  | f + 1, n => by
    unfold apL
    split
    · simp
    · have := apL_length f (n / 16)
      simp only [List.length_append, List.length_cons, List.length_nil]
      omega
theorem ap_pick_fin : ∀ r : Fin 16, KBy.picked #[65, 66, 67, 68, 69, 70, 71, 72, 73, 74, 75, 76, 77, 78, 79, 80] (some ((r.val : Nat) : Int)) (some (((r.val : Nat) : Int) + 1)) = [(65 + r.val).toUInt8].toArray := by decide +kernel
theorem ap_pick (k : Nat) : KBy.picked #[65, 66, 67, 68, 69, 70, 71, 72, 73, 74, 75, 76, 77, 78, 79, 80] (some ((k : Int).fmod 16)) (some ((k : Int).fmod 16 + 1)) = [(65 + k % 16).toUInt8].toArray := by
  have h := ap_pick_fin ⟨k % 16, by omega⟩
  have e : (k : Int).fmod 16 = ((k % 16 : Nat) : Int) := by rw [Int.fmod_eq_emod_of_nonneg _ (by decide)]; omega
  rw [e]
  exact h
def RelAP : Nat → Led → List Value → Nat → Prop := fun _ _ vs n => (∃ t, vs = [Value.int (n : Int) t]) ∧ n < 1048576
def OutAP : Value → Nat → Prop := fun r n => ∃ t, r = Value.bytes (apL 5 n).toArray t

theorem ap_tells : Tell0 3 200 RelAP OutAP := by
  k_with_none
  w_top off
  unfold Tell0
  k_fill
  intro w loose mean mg mb n dp un gd cn cs a ccd cl outer A₀ base h₀ L m news s vs Q E B F X N T hk hR hd hu hret
  obtain ⟨⟨t, rfl⟩, hn⟩ := hR
  refine wpAny_call ?_
  k_dflt ktr_enter
  (k_with "exec While Name cons nil" => (refine Hold.out ?_))
  k_steps
  unfold Hold
  rename Fr _ _ _ _ => F1
  rename News _ _ _ _ => N1
  have e0 : (if (n : Int) < 0 then -(n : Int) else (n : Int)) = (n : Int) := by omega
  simp only [e0] at F1
  with_unfolding_all refine While_inv2 (n₀ := n) (fun k m nx => (∀ p ∈ news, p ∈ nx) ∧ k < 1048576 ∧ ∃ v tq tv ta, m (Str.ofString "num") = some (.int (k : Int) tq) ∧ m (Str.ofString "val") = some (.bytes (List.toArray v) tv) ∧ m (Str.ofString "AP") = some (.bytes #[65, 66, 67, 68, 69, 70, 71, 72, 73, 74, 75, 76, 77, 78, 79, 80] ta) ∧ apL 5 n = apL 5 k ++ v) F1 N1 ⟨fun _ h => h, hn, [], _, _, _, rfl, rfl, rfl, by simp⟩ ?_
  clear F1 N1
  rintro k m₁ nx h tk F' N' ⟨hsub, hlt, v, tq, tv, ta, h1, h2, h3, hv⟩
  have F9 := pin3 F' h1 h2 h3; clear F'
  have hvl : v.length ≤ 5 := by
    have h5 := congrArg List.length hv
    have h6 := apL_length 5 n
    simp only [List.length_append] at h5
    omega
  (k_with "subscriptTail" => ((rename Fr _ _ _ _ => F'); (rename News _ _ _ _ => N'); (refine KBc.slice_K (s := ⟨_, _, _, _, _⟩) F' N' (ks := [65, 66, 67, 68, 69, 70, 71, 72, 73, 74, 75, 76, 77, 78, 79, 80]) (by decide +kernel) (by constructor) (by constructor) (by decide) ?_); clear F' N'; intro h9 t9 k9 F9 N9 kb9; clear kb9; rw [ap_pick]))
  (k_with "binaryOp Add bytes bytes" => ((refine KBy.add_bytes (by simp; omega) ?_); intro t9 k9; (try rw [List.append_toArray])))
  have e16 : (k : Int).fdiv 16 = ((k / 16 : Nat) : Int) := by rw [Int.fdiv_eq_ediv_of_nonneg _ (by decide)]; omega
  k_steps
  · rename Fr _ _ _ _ => F8
    rename News _ _ _ _ => N8
    have hk0 : k ≠ 0 := by omega
    rw [e16] at F8
    refine ⟨_, _, _, _, k / 16, rfl, F8, N8, by omega, fun p hp => .tail _ (hsub p hp), by omega, (65 + k % 16).toUInt8 :: v, _, _, _, rfl, rfl, rfl, ?_⟩
    rw [hv, apL_step hk0 hlt, List.append_assoc]
    rfl
  · have hk0 : k = 0 := by omega
    subst hk0
    refine hret _ _ _ (by assumption) (fun p hp => by rename News _ _ _ _ => N8; exact N8 p (hsub p hp)) ⟨tv, ?_⟩
    rw [hv]
    rfl
end Mine
end

-- C8
section
open PySem PySem.W PySem.Spec PySem.Calls PyProof.Rows PyProof.Rows.LCg
namespace Mine

theorem is_int {M : Model} {A : Around} {E : Value → Shared → Prop} {s : Shared} {x k : Int} {t u : Tok} {Q : Value → Shared → Prop} (ht : t ≠ 0) (hu : u ≠ 0) (hs : smallInt x = true) (hne : x ≠ k → t ≠ u)
    (h : Q (.bool (decide (x = k))) s) : wpAny M A (compareOp .Is (.int x t) (.int k u)) Q E s := by
  show wpAny M A (do return .bool (← isSame (.int x t) (.int k u))) Q E s
  refine wpAny_bind ?_
  unfold isSame
  by_cases e : x = k
  · subst e
    simp only [beq_self_eq_true, hs, Bool.and_self, if_true]
    unfold isSame.cachedInt
    simp only [ht, hu, beq_iff_eq, Bool.or_eq_true, or_self, if_false, decide_false, Bool.false_eq_true]
    refine wpAny_bind (wpAny_rule (wpAny_pure (wpAny_pure ?_)))
    simpa using h
  · have e' : (x == k) = false := by simpa using e
    have e2 : (t == u) = false := by simpa using hne e
    simp only [e', Bool.false_and, Bool.false_eq_true, if_false]
    unfold isSame.created
    simp only [ht, hu, e2, beq_iff_eq, Bool.or_eq_true, or_self, if_false, Bool.not_false, if_true, Bool.false_eq_true]
    refine wpAny_pure (wpAny_pure ?_)
    simpa [e] using h

def RelCount : Nat → Led → List Value → List Int × Int → Prop := fun _ news vs d => ∃ (l : Addr) (n : Nat) (us : List Value) (K : Int) (t : Tok), vs = [Value.ref l, Value.int K t] ∧ K = d.2 ∧ (l, listOf us.toArray n) ∈ news ∧ IntsAre us d.1 ∧
    t ≠ 0 ∧ (∀ x u, Value.int x u ∈ us → smallInt x = true ∧ u ≠ 0 ∧ (x ≠ d.2 → u ≠ t))
def OutCount : Value → List Int × Int → Prop := fun r d => ∃ t, r = Value.int (d.1.count d.2 : Int) t

theorem count_tells : Tell0 3 256 RelCount OutCount := by
  k_with_none
  w_top off
  unfold Tell0
  k_fill
  intro w loose mean mg mb d dp un gd cn cs a ccd cl outer A₀ base h₀ L m news s vs Q E B F X N T hk hR hd hu hret
  obtain ⟨xs, k⟩ := d
  obtain ⟨l, n, us, K, t, rfl, hK, hl, hi, ht0, hus⟩ := hR
  dsimp only at hK
  replace hK := hK.symm
  subst hK
  dsimp only at hi hus
  refine wpAny_call ?_
  k_dflt ktr_enter
  (k_with "exec For Name Name cons nil" => ((rename Fr _ _ _ _ => lF'); (with_unfolding_all refine' For_turns lF' ?_; k_whole)))
  k_steps
  rename Fr _ _ _ _ => F1
  rename News _ _ _ _ => N1
  refine iterL (fun i m nx => (∀ p ∈ news, p ∈ nx) ∧ m (Str.ofString "b") = some (.int k t) ∧ ∃ t, m (Str.ofString "count") = some (.int ((xs.take i).count k : Int) t)) (by rfl) F1 N1 hl ⟨fun _ h => h, by rfl, _, by rfl⟩ ?_ ?_
  · clear F1 N1
    intro I hI i v m₁ nx oI h tk hv hmem hoff ⟨hsub, hb, tc, hc⟩ F' N'
    obtain ⟨x, tx, rfl, hx⟩ := ints_get hi hv
    obtain ⟨hx1, hx2, hx3⟩ := hus x tx (List.mem_of_getElem? hv)
    have F9 := pin2 F' hb hc; clear F'
    (k_with "compareOp Is" => (refine is_int (by assumption) (by assumption) (by assumption) (by assumption) ?_))
    have hcnt : ((xs.take (i + 1)).count k : Int) = ((xs.take i).count k : Int) + (if x = k then 1 else 0) := by
      rw [List.take_add_one, hx]
      by_cases e : x = k <;> simp [e]
    k_steps
    all_goals (
      rename Fr _ _ _ _ => F8
      rename News _ _ _ _ => N8
      refine TPost.next F8 N8 nx (fun p hp => hp) hoff ⟨hmem, hsub, by rfl, ?_⟩
      rw [hcnt])
    · rw [if_pos (by assumption)]; exact ⟨_, rfl⟩
    · contradiction
    · rw [if_neg (by assumption), Int.add_zero]; exact ⟨_, by with_unfolding_all rfl⟩
  · clear F1 N1
    intro m₁ nx h tk hmem ⟨hsub, hb, tc, hc⟩ F' N'
    have F9 := pin2 F' hb hc; clear F'
    k_steps
    refine hret _ _ _ (by assumption) (fun p hp => by rename News _ _ _ _ => N8; exact N8 p (hsub p hp)) ⟨tc, ?_⟩
    rw [hi.length, List.take_length]
end Mine
end

-- C6
section
open PySem PySem.W PySem.Spec PySem.Calls PyProof.Rows PyProof.Rows.LCg
namespace Mine

/-- c₁ c₂ .. stand scattered in w -/
def scat : List Nat → List Nat → Bool
  | [], _ => true
  | c :: r, w => match w.dropWhile (fun k => k != c) with
    | [] => false
    | _ :: w' => scat r w'
def pieces (cs : List Nat) : List PySem.Str := ⟨#[]⟩ :: (cs.map (fun c => (⟨#[c]⟩ : PySem.Str)) ++ [⟨#[]⟩])
def dots : PySem.Str := PySem.Str.ofString "..."
open PySem.Builtin PySem.Builtin.Str in
def fnd (x y : PySem.Str) (p : Nat) : Int := match occurrences x y p x.length 1 with | k :: _ => (k : Int) | [] => -1
open PySem.Builtin PySem.Builtin.Str in
theorem gives_find4 (x y : PySem.Str) (p : Nat) (t u v z : Tok) : Gives («str.find» ⟨[.str x t, .str y u, .int (p : Int) v, .int (x.length : Int) z], []⟩) (.int (fnd x y p)) := by
  have e1 : fromIndex x.length (p : Int) = p := by unfold fromIndex; rw [if_neg (by omega)]; omega
  have e2 : fromIndex x.length (x.length : Int) = x.length := by unfold fromIndex; rw [if_neg (by omega)]; omega
  show Gives (match occurrences x y (fromIndex x.length (p : Int)) (min (fromIndex x.length (x.length : Int)) x.length) 1 with | k :: _ => retInt k | [] => (do rule "str.find.not-found"; retInt (-1))) _
  rw [e1, e2, Nat.min_self]
  unfold fnd
  cases occurrences x y p x.length 1 with
  | nil => exact .rule (.of_eq rfl)
  | cons k _ => exact .of_eq rfl
theorem find4 {prog : Program} {w : World} {A : Around} {E : Value → Shared → Prop} {s : Shared} {x y : PySem.Str} {p : Nat} {j r : Int} {t u v z : Tok} {Q : Value → Shared → Prop} (hj : j = (x.length : Int)) (hr : fnd x y p = r) (hq : Q (.int r s.toks) { s with toks := s.toks + 1 }) :
    wpAny (model prog w) A (call (.builtin "str.find") [.str x t, .str y u, .int (p : Int) v, .int j z]) Q E s := by
  subst hj hr
  exact call_gives F.slot_str_find (typeIs_str _ _ _) F.entry_str_find (F.args_str_find_4 _ _ _ _) (gives_find4 x y p t u v z) hq

theorem fnd_empty (x : PySem.Str) (p : Nat) (hp : p ≤ x.length) : fnd x ⟨#[]⟩ p = p := by
  unfold fnd
  rcases StrLaws.occ_head_from x ⟨#[]⟩ p 1 (Nat.le_refl 1) with ⟨h0, hn⟩ | ⟨k, r, h0, hlo, hk, hn⟩
  · exact absurd ⟨by simpa [PySem.Str.length] using hp, by rw [StrLaws.subAt_eq]; simp [PySem.Str.length]⟩ (hn p (Nat.le_refl p))
  · rw [h0]
    have : k = p := by
      refine Nat.le_antisymm (Nat.not_lt.mp fun hlt => hn p (Nat.le_refl p) hlt ⟨by simpa [PySem.Str.length] using hp, by rw [StrLaws.subAt_eq]; simp [PySem.Str.length]⟩) hlo
    rw [this]

theorem drop_while {l : List Nat} {c : Nat} : ∀ {p k : Nat}, p ≤ k → l[k]? = some c → (∀ v, p ≤ v → v < k → l[v]? ≠ some c) → (l.drop p).dropWhile (fun z => z != c) = c :: l.drop (k + 1) := by
  intro p k hpk hk hn
  obtain ⟨d, rfl⟩ : ∃ d, k = p + d := ⟨k - p, by omega⟩
  induction d generalizing p with
  | zero =>
    have hlt : p < l.length := (List.getElem?_eq_some_iff.mp hk).1
    rw [List.drop_eq_getElem_cons hlt]
    have e : l[p] = c := by simpa [hlt] using hk
    simp [e]
  | succ d ih =>
    have hlt : p < l.length := by have := (List.getElem?_eq_some_iff.mp hk).1; omega
    rw [List.drop_eq_getElem_cons hlt]
    have ne : l[p] ≠ c := fun e => hn p (Nat.le_refl p) (by omega) (by simp [hlt, e])
    have e : p + (d + 1) = (p + 1) + d := by omega
    rw [List.dropWhile_cons, if_pos (by simpa using ne), e]
    exact ih (by omega) (by rw [← e]; exact hk) (fun v h1 h2 => hn v (by omega) (by omega))
theorem drop_while_none {l : List Nat} {c : Nat} {p : Nat} (hn : ∀ v, p ≤ v → v < l.length → l[v]? ≠ some c) : (l.drop p).dropWhile (fun z => z != c) = [] := by
  have dw : ∀ (l : List Nat), (∀ x ∈ l, x ≠ c) → l.dropWhile (fun z => z != c) = [] := by
    intro l
    induction l with
    | nil => intro _; rfl
    | cons a r ih =>
      intro h
      rw [List.dropWhile_cons, if_pos (by simpa using h a (.head _))]
      exact ih fun x hx => h x (.tail _ hx)
  refine dw _ fun x hx => ?_
  obtain ⟨i, hi⟩ := List.getElem?_of_mem hx
  rw [List.getElem?_drop] at hi
  have hlt : p + i < l.length := (List.getElem?_eq_some_iff.mp hi).1
  have := hn (p + i) (by omega) hlt
  rw [hi] at this
  simpa using this

theorem fnd_one (x : PySem.Str) (c p : Nat) : (fnd x ⟨#[c]⟩ p = -1 ∧ (x.cps.toList.drop p).dropWhile (fun z => z != c) = []) ∨
    ∃ k : Nat, fnd x ⟨#[c]⟩ p = (k : Int) ∧ p ≤ k ∧ k < x.length ∧ (x.cps.toList.drop p).dropWhile (fun z => z != c) = c :: x.cps.toList.drop (k + 1) := by
  have e1 : fromIndex x.length (p : Int) = p := by unfold fromIndex; rw [if_neg (by omega)]; omega
  have h := StrLaws.find3_spec x c (p : Int)
  rw [e1] at h
  have e : Txt.find3 x ⟨#[c]⟩ (p : Int) = fnd x ⟨#[c]⟩ p := by
    unfold Txt.find3 fnd
    rw [e1]
    cases Builtin.Str.occurrences x ⟨#[c]⟩ p x.length 1 <;> rfl
  rw [e] at h
  have hg : ∀ v, v < x.length → x.cps.toList[v]? = some (x.cps.getD v 0) := by
    intro v hv
    exact StrLaws.getElem?_of_getD hv rfl
  rcases h with ⟨h0, hn⟩ | ⟨k, h0, hlo, hk, hc, hn⟩
  · refine .inl ⟨h0, drop_while_none fun v h1 h2 e => hn v h1 (by simpa [PySem.Str.length] using h2) ?_⟩
    exact StrLaws.getD_of_getElem? e
  · refine .inr ⟨k, h0, hlo, hk, drop_while hlo (by rw [hg k hk, hc]) fun v h1 h2 e => hn v h1 h2 (StrLaws.getD_of_getElem? e)⟩

def RelEll : Nat → Led → List Value → List Nat × PySem.Str → Prop := fun _ _ vs d => ∃ (x : PySem.Str) (t t' : Tok), vs = [Value.str x t, Value.str d.2 t'] ∧
  (Builtin.Str.occurrences x dots 0 x.length 1).isEmpty = false ∧ Txt.split x dots = pieces d.1 ∧ x.length ≤ 100 ∧ d.2.length ≤ 100 ∧ d.1.length ≤ 100
def OutEll : Value → List Nat × PySem.Str → Prop := fun r d => r = Value.bool (scat d.1 d.2.cps.toList)

local macro_rules | `(tactic| walk_at "exec For Name Name cons nil") => `(tactic| ((rename Fr _ _ _ _ => lF'); (with_unfolding_all refine' For_turns lF' ?_; k_whole)))
local macro_rules | `(tactic| walk_at "pyIter ref") => `(tactic| (refine Hold.out ?_))
theorem ell_tells : Tell0 3 193 RelEll OutEll := by
  k_with_none
  w_top off
  unfold Tell0
  k_fill
  intro w loose mean mg mb d dp un gd cn cs a ccd cl outer A₀ base h₀ L m news s vs Q E B F X N T hk hR hd hu hret
  obtain ⟨cl', got⟩ := d
  obtain ⟨x, t, t', rfl, hocc, hspl, hxl, hgl, hcl⟩ := hR
  dsimp only at hspl hgl hcl
  refine wpAny_call ?_
  k_dflt ktr_enter
  have hsl : sizeLine = 16777216 := sizeLine_eq
  (k_with "call builtin:str.split" => ((refine KSpl.split1 (by k_asm) (by k_asm) (by decide) ?_ (by omega)); (refine Hold.out ?_)))
  k_steps
  · skip
    exact absurd (hocc.symm.trans (by rename (Builtin.Str.occurrences _ _ 0 _ 1).isEmpty = true => q; exact q)) (by decide)
  · unfold Hold
    intro D l h9 k9 el al F9 N9 l9
    replace el := el.trans hspl
    rw [el] at al
    have us0 : ∃ u, (strValues l)[0]? = some (.str ⟨#[]⟩ u) := by
      obtain ⟨u, e⟩ := StrsAre.get al 0 ⟨#[]⟩ rfl
      exact ⟨u, e⟩
    have us1 : ∃ u, (strValues l)[((strValues l).length - 1)]? = some (.str ⟨#[]⟩ u) := by
      obtain ⟨u, e⟩ := StrsAre.get al ((strValues l).length - 1) ⟨#[]⟩ (by rw [StrsAre.length al]; simp [pieces])
      exact ⟨u, e⟩
    have hlen : (strValues l).length = cl'.length + 2 := by rw [StrsAre.length al]; simp [pieces]
    have hpc : ∀ i y, (pieces cl')[i]? = some y → (y = ⟨#[]⟩ ∧ (i = 0 ∨ i = cl'.length + 1)) ∨ ∃ c, y = ⟨#[c]⟩ ∧ 1 ≤ i ∧ cl'[i - 1]? = some c := by
      intro i y hy
      cases i with
      | zero => left; simp [pieces] at hy; exact ⟨hy.symm, .inl rfl⟩
      | succ i =>
        simp only [pieces, List.getElem?_cons_succ] at hy
        rcases Nat.lt_or_ge i cl'.length with hlt | hge
        · rw [List.getElem?_append_left (by simpa using hlt)] at hy
          right
          simp [hlt] at hy
          exact ⟨cl'[i], hy.symm, by omega, by simp [hlt]⟩
        · rw [List.getElem?_append_right (by simpa using hge)] at hy
          left
          simp only [List.length_map] at hy
          have : i - cl'.length = 0 := by
            have := (List.getElem?_eq_some_iff.mp hy).1
            simpa using this
          rw [this] at hy
          simp at hy
          exact ⟨hy.symm, .inr (by omega)⟩
    generalize strValues l = us at *
    clear el
    obtain ⟨u0, us0⟩ := us0
    obtain ⟨u1, us1⟩ := us1
    (k_with "call builtin:len" => (refine len_list (News.isList (by k_asm) (by k_mem)) (by rw [List.size_toArray]; omega) ?_))
    (k_with "subscriptTail" => (first | (refine kim_list (by k_asm) (by k_mem) rfl rfl (by decide) (by decide) us0 ?_) | (refine kim_back (by k_asm) (by k_mem) rfl rfl (by decide) (by omega) (by decide) (by rw [show (-1 + (us.length : Int)).toNat = us.length - 1 by omega]; exact us1) ?_)))
    k_steps
    unfold Hold
    rename Fr _ _ _ _ => F1
    rename News _ _ _ _ => N1
    have hD : (D, listOf us.toArray 0) ∈ (D, listOf us.toArray 0) :: news := .head _
    refine iterL (vs := us) (n := 0) (fun i m nx => (∀ p ∈ news, p ∈ nx) ∧ ∃ (p : Nat) (P : Int) (tp te tg : Tok), P = (p : Int) ∧ p ≤ got.length ∧ m (Str.ofString "startpos") = some (.int P tp) ∧ m (Str.ofString "endpos") = some (.int (got.length : Int) te) ∧ m (Str.ofString "got") = some (.str got tg) ∧
      scat (cl'.drop (i - 1)) (got.cps.toList.drop p) = scat cl' got.cps.toList) ?hh F1 N1 ?hm ⟨fun p hp => ?hs, 0, _, _, _, _, ?hz, Nat.zero_le _, by rfl, by rfl, by rfl, by rfl⟩ ?_ ?_
    case hh => rfl
    case hm => k_mem
    case hs => exact .tail _ (.tail _ hp)
    case hz => rfl
    · clear F1 N1
      intro I hI i v m₁ nx oI h tk hv hmem hoff ⟨hsub, p, P, tp, te, tg, hP, hp, h1, h2, h3, hsc⟩ F' N'
      subst hP
      obtain ⟨y, ty, rfl, hy⟩ := StrsAre.item al i v hv
      have F9 := pin3 F' h1 h2 h3; clear F'
      rcases hpc i y hy with ⟨rfl, hi⟩ | ⟨c, rfl, hi, hc⟩
      · have hf := fnd_empty got p hp
        (k_with "call builtin:str.find" => (refine find4 rfl hf ?_))
        k_steps
        rename Fr _ _ _ _ => F8
        rename News _ _ _ _ => N8
        refine TPost.next F8 N8 nx (fun p hp => hp) hoff ⟨hmem, hsub, p, _, _, _, _, ?_, hp, by rfl, by rfl, by rfl, ?_⟩
        · simp [PySem.Str.length]
        · rcases hi with rfl | rfl
          · exact hsc
          · have e1 : cl'.drop (cl'.length + 1 + 1 - 1) = [] := List.drop_of_length_le (by omega)
            have e2 : cl'.drop (cl'.length + 1 - 1) = [] := List.drop_of_length_le (by omega)
            rw [e2] at hsc
            rw [e1, ← hsc]
      · have hdr : cl'.drop (i - 1) = c :: cl'.drop i := by
          have hlt : i - 1 < cl'.length := (List.getElem?_eq_some_iff.mp hc).1
          rw [List.drop_eq_getElem_cons hlt]
          have e : i - 1 + 1 = i := by omega
          rw [e]
          have e2 : cl'[i - 1] = c := by simpa [hlt] using hc
          rw [e2]
        rw [hdr] at hsc
        rcases fnd_one got c p with ⟨hf, hdw⟩ | ⟨k, hf, hpk, hk, hdw⟩
        · (k_with "call builtin:str.find" => (refine find4 rfl hf ?_))
          k_steps
          (try dsimp only [TPost])
          k_steps
          have hfin : scat cl' got.cps.toList = false := by
            rw [← hsc]
            unfold scat
            rw [hdw]
          refine hret _ _ _ (by assumption) (fun p hp => by rename News h₀ L _ _ => N8; exact N8 p (by first | exact hsub p hp | exact .tail _ (hsub p hp) | assumption)) ?_
          show _ = Value.bool (scat cl' got.cps.toList)
          rw [hfin]
        · (k_with "call builtin:str.find" => (refine find4 rfl hf ?_))
          k_steps
          rename Fr _ _ _ _ => F8
          rename News _ _ _ _ => N8
          refine TPost.next F8 N8 nx (fun p hp => hp) hoff ⟨hmem, hsub, k + 1, _, _, _, _, ?_, by omega, by rfl, by rfl, by rfl, ?_⟩
          · simp [PySem.Str.length]
          · rw [← hsc]
            conv => rhs; unfold scat
            rw [hdw]
            rfl
    · clear F1 N1
      intro m₁ nx h tk hmem ⟨hsub, p, P, tp, te, tg, hP, hp, h1, h2, h3, hsc⟩ F' N'
      subst hP
      have F9 := pin3 F' h1 h2 h3; clear F'
      k_steps
      have hfin : scat cl' got.cps.toList = true := by
        rw [← hsc, List.drop_of_length_le (by omega)]
        rfl
      refine hret _ _ _ (by assumption) (fun p hp => by rename News _ _ _ _ => N8; exact N8 p (hsub p hp)) ?_
      show _ = Value.bool (scat cl' got.cps.toList)
      rw [hfin]
end Mine
end

-- C5
section
open PySem PySem.W PySem.Spec PySem.Calls PyProof.Rows PyProof.Rows.LCg
namespace Mine
local macro_rules | `(tactic| walk_at "pad") => `(tactic| skip)
/-- the texts of broken rings: each its letters, told by what splitting gives -/
inductive BrokenAre : List Value → List (List Nat) → Prop
  | nil : BrokenAre [] []
  | cons {x : PySem.Str} {t : Tok} {c : List Nat} {vs : List Value} {cs : List (List Nat)} : (Builtin.Str.occurrences x dots 0 x.length 1).isEmpty = false → Txt.split x dots = pieces c → x.length ≤ 100 → c.length ≤ 100 → BrokenAre vs cs → BrokenAre (.str x t :: vs) (c :: cs)
theorem BrokenAre.length {vs : List Value} {cs : List (List Nat)} (h : BrokenAre vs cs) : vs.length = cs.length := by
  induction h with
  | nil => rfl
  | cons _ _ _ _ _ ih => simp [ih]
theorem BrokenAre.get {vs : List Value} {cs : List (List Nat)} (h : BrokenAre vs cs) : ∀ {i : Nat} {v : Value}, vs[i]? = some v → ∃ x t c, v = .str x t ∧ cs[i]? = some c ∧ (Builtin.Str.occurrences x dots 0 x.length 1).isEmpty = false ∧ Txt.split x dots = pieces c ∧ x.length ≤ 100 ∧ c.length ≤ 100 := by
  induction h with
  | nil => intro i v h; simp at h
  | cons h1 h2 h3 h4 _ ih =>
    intro i v h
    cases i with
    | zero => simp at h; exact ⟨_, _, _, h.symm, by simp, h1, h2, h3, h4⟩
    | succ i => simpa using ih (by simpa using h)
theorem BrokenAre.snoc {vs : List Value} {cs : List (List Nat)} {x : PySem.Str} {t : Tok} {c : List Nat} (h : BrokenAre vs cs) (h1 : (Builtin.Str.occurrences x dots 0 x.length 1).isEmpty = false) (h2 : Txt.split x dots = pieces c) (h3 : x.length ≤ 100) (h4 : c.length ≤ 100) : BrokenAre (vs ++ [.str x t]) (cs ++ [c]) := by
  induction h with
  | nil => exact .cons h1 h2 h3 h4 .nil
  | cons k1 k2 k3 k4 _ ih => exact .cons k1 k2 k3 k4 ih

def RelHolds : Nat → Led → List Value → List (List Nat) × PySem.Str → Prop := fun _ news vs d => ∃ (l : Addr) (n : Nat) (us : List Value) (t : Tok), vs = [Value.ref l, Value.str d.2 t] ∧ (l, listOf us.toArray n) ∈ news ∧ BrokenAre us d.1 ∧ d.2.length ≤ 100
def OutHolds : Value → List (List Nat) × PySem.Str → Prop := fun r d => r = Value.bool (d.1.any fun c => scat c d.2.cps.toList)

local macro_rules | `(tactic| walk_at "exec For Name Name cons nil") => `(tactic| ((rename Fr _ _ _ _ => lF'); (with_unfolding_all refine' For_turns lF' ?_; k_whole)))
local macro_rules | `(tactic| walk_at "pyIter ref") => `(tactic| (refine Hold.out ?_))
theorem holds_tells : Tell0 7 287 RelHolds OutHolds := by
  k_with_none
  w_top off
  unfold Tell0
  k_fill
  intro w loose mean mg mb d dp un gd cn cs a ccd cl outer A₀ base h₀ L m news s vs Q E B F X N T hk hR hd hu hret
  obtain ⟨bs, word⟩ := d
  obtain ⟨l, n, us, t, rfl, hl, hb, hwl⟩ := hR
  dsimp only at hb hwl
  refine wpAny_call ?_
  k_dflt ktr_enter
  k_steps
  unfold Hold
  rename Fr _ _ _ _ => F1
  rename News _ _ _ _ => N1
  refine iterL (vs := us) (n := n) (fun i m nx => (∀ p ∈ news, p ∈ nx) ∧ m (Str.ofString "word") = some (.str word t) ∧ (bs.take i).any (fun c => scat c word.cps.toList) = false) ?hh F1 N1 hl ⟨fun _ h => h, by rfl, by rfl⟩ ?_ ?_
  case hh => rfl
  · clear F1 N1
    intro I hI i v m₁ nx oI h tk hv hmem hoff ⟨hsub, h1, hany⟩ F' N'
    obtain ⟨x, tx, c, rfl, hc, e1, e2, e3, e4⟩ := hb.get hv
    have F9 := pin1 F' h1; clear F'
    (k_with "call ref" => ((refine' use0 ell_tells (d := (c, word)) ?k1 ?k2 ?k3 ?k4 ?k5 ?kK ?kR ?kd ?ku ?_); (case k1 => k_asm); (case k2 => k_asm); (case k3 => k_asm); (case k4 => k_asm); (case k5 => k_asm); (case kK => first | exact rfl | assumption); (case kR => exact ⟨x, _, _, rfl, e1, e2, e3, hwl, e4⟩); (case kd => ktr_room); (case ku => ktr_units); intro r9 h9 tk9 ht9 F9 N9 o9; (obtain rfl := o9); (try dsimp only)))
    have htake : (bs.take (i + 1)).any (fun c => scat c word.cps.toList) = scat c word.cps.toList := by
      rw [List.take_add_one, hc, List.any_append, hany]
      simp
    k_steps
    · (try dsimp only [TPost])
      k_steps
      refine hret _ _ _ (by assumption) (fun p hp => by rename News h₀ L _ _ => N8; exact N8 p (by first | exact hsub p hp | exact .tail _ (hsub p hp) | assumption)) ?_
      have hfin : (bs.any fun c => scat c word.cps.toList) = true := by
        rw [List.any_eq_true]
        exact ⟨c, List.mem_of_getElem? hc, by assumption⟩
      show _ = Value.bool (bs.any fun c => scat c word.cps.toList)
      rw [hfin]
    · rename Fr _ _ _ _ => F8
      rename News _ _ _ _ => N8
      refine TPost.next F8 N8 nx (fun p hp => hp) hoff ⟨hmem, hsub, by rfl, ?_⟩
      rw [htake]
      assumption
  · clear F1 N1
    intro m₁ nx h tk hmem ⟨hsub, h1, hany⟩ F' N'
    have F9 := pin1 F' h1; clear F'
    k_steps
    refine hret _ _ _ (by assumption) (fun p hp => by rename News h₀ L _ _ => N8; exact N8 p (hsub p hp)) ?_
    rw [hb.length, List.take_length] at hany
    show _ = Value.bool (bs.any fun c => scat c word.cps.toList)
    rw [hany]
end Mine
end

-- C7
section
open PySem PySem.W PySem.Spec PySem.Calls PyProof.Rows PyProof.Rows.LCg
namespace Mine
/-- the signed count, the first n sizes -/
def totalUpTo (xs : List Int) (k : Nat) : Nat → Int
  | 0 => 0
  | n + 1 => totalUpTo xs k n + (if n % 2 = 0 then 1 else -1) * ((xs.count (n : Int) * 2 ^ (k * (5 - n)) : Nat) : Int)
theorem totalUpTo_even (xs : List Int) (k i : Nat) (e : i % 2 = 0) : totalUpTo xs k i + ((xs.count (i : Int) * 2 ^ (k * (5 - i)) : Nat) : Int) = totalUpTo xs k (i + 1) := by
  show _ = totalUpTo xs k i + (if i % 2 = 0 then 1 else -1) * _
  rw [if_pos e, Int.one_mul]
theorem totalUpTo_odd (xs : List Int) (k i : Nat) (e : ¬ i % 2 = 0) : totalUpTo xs k i - ((xs.count (i : Int) * 2 ^ (k * (5 - i)) : Nat) : Int) = totalUpTo xs k (i + 1) := by
  show _ = totalUpTo xs k i + (if i % 2 = 0 then 1 else -1) * _
  rw [if_neg e, Int.neg_mul, Int.one_mul]
  exact Int.sub_eq_add_neg
def RelTotal : Nat → Led → List Value → List Int × Nat → Prop := fun tk news vs d => ∃ (l : Addr) (n : Nat) (us : List Value) (t : Tok), vs = [Value.ref l, Value.int (d.2 : Int) t] ∧ (l, listOf us.toArray n) ∈ news ∧ IntsAre us d.1 ∧
  (d.2 = 1 ∨ d.2 = 2) ∧ d.1.length ≤ 100 ∧ 1 ≤ tk ∧ ∀ (x : Int) (u : Nat), Value.int x u ∈ us → 0 ≤ x ∧ x ≤ 5 ∧ 1 ≤ u ∧ u < tk
def OutTotal : Value → List Int × Nat → Prop := fun r d => ∃ t, r = Value.int (totalUpTo d.1 d.2 6) t
local macro_rules | `(tactic| walk_at "exec For Name Call cons nil") => `(tactic| ((rename Fr _ _ _ _ => lF'); (rename TkB _ _ => hB'); (with_unfolding_all refine' For_TB lF' hB' ?hle ?_; (case hle => ((try dsimp only); omega)); k_whole)))
local macro_rules | `(tactic| walk_at "execs cons") => `(tactic| ((rename TkB _ _ => hB'); (with_reducible refine gen_toks hB' ?hle ?_); (case hle => ((try dsimp only); omega)); clear hB'; intro tk' hB'))
theorem total_tells : Tell0 10 294 RelTotal OutTotal := by
  k_with_none
  w_top off
  unfold Tell0
  k_fill
  intro w loose mean mg mb d dp un gd cn cs a ccd cl outer A₀ base h₀ L m news s vs Q E B F X N T hk hR hd hu hret
  obtain ⟨xs, k⟩ := d
  obtain ⟨l, n, us, t, rfl, hl, hi, hk12, hlen, htk1, htok⟩ := hR
  dsimp only at hi hk12 hlen
  refine wpAny_call ?_
  have hB : TkB s.toks s.toks := Nat.le_refl _
  k_dflt ktr_enter
  k_steps
  unfold Hold
  intro hle
  rename Fr _ _ _ _ => F1
  rename News _ _ _ _ => N1
  rename IsRange _ _ _ _ _ _ _ _ => R1
  refine iterRT (n := 6) (n₀ := s.toks) (fun i m nx => (∀ p ∈ news, p ∈ nx) ∧ m (Str.ofString "sizes") = some (.ref l) ∧ m (Str.ofString "k") = some (.int (k : Int) t) ∧ ∃ T tt, T = totalUpTo xs k i ∧ m (Str.ofString "total") = some (.int T tt)) ?hh R1 ?hsm ?hsz hle ?hx ?hp F1 N1 ⟨fun p hp => hp, by rfl, by rfl, 0, _, by rfl, by rfl⟩ ?_ ?_
  case hh => rfl
  case hsm => decide
  case hsz => decide
  case hx => rfl
  case hp => rfl
  · clear F1 N1 R1 hle
    intro I hI i ti m₁ nx oI h tk hlt hti hoff ⟨hsub, h1, h2, TT, tt, hT, h3⟩ F' N'
    subst hT
    have F9 := pin4 (x1 := Str.ofString "n") (v1 := some (.int (i : Int) ti)) (x2 := Str.ofString "sizes") (x3 := Str.ofString "k") (x4 := Str.ofString "total") F' (by show some (Value.int (0 + (i : Int)) ti) = _; rw [Int.zero_add]) (by exact h1) (by exact h2) (by exact h3)
    clear F'
    have hl' := hsub _ hl
    have hk5 : (k : Int) * (5 - (i : Int)) = ((k * (5 - i) : Nat) : Int) := by
      rw [Int.natCast_mul, Int.natCast_sub (by omega)]
      rfl
    have hc1 : xs.count (i : Int) < 1048576 := by
      have := List.count_le_length (a := (i : Int)) (l := xs)
      omega
    have hti0 : ti ≠ 0 := by intro e; subst e; omega
    have htoks : ∀ (x : Int) (u : Tok), Value.int x u ∈ us → smallInt x = true ∧ u ≠ 0 ∧ (x ≠ (i : Int) → u ≠ ti) := by
      intro x u hx
      obtain ⟨a1, a2, a3, a4⟩ := htok x u hx
      refine ⟨?_, ?_, ?_⟩
      · unfold smallInt
        rw [Bool.and_eq_true, decide_eq_true_eq, decide_eq_true_eq]
        omega
      · intro e
        subst e
        exact absurd a3 (by decide)
      · intro _ e
        subst e
        exact absurd (Nat.lt_of_lt_of_le a4 hti) (Nat.lt_irrefl _)
    have hc2 : k * (5 - i) ≤ 10 := by
      rcases hk12 with rfl | rfl <;> omega
    (k_with "call ref" => ((refine' use0 count_tells (d := (xs, (i : Int))) ?k1 ?k2 ?k3 ?k4 ?k5 ?kK ?kR ?kd ?ku ?_); (case k1 => k_asm); (case k2 => k_asm); (case k3 => k_asm); (case k4 => k_asm); (case k5 => k_asm); (case kK => first | exact rfl | assumption); (case kR => exact ⟨l, n, us, _, _, rfl, rfl, .tail _ hl', hi, hti0, fun x u hx => htoks x u hx⟩); (case kd => ktr_room); (case ku => ktr_units); intro r9 h9 tk9 ht9 F9 N9 o9; (obtain ⟨t9, rfl⟩ := o9); (try dsimp only)))
    (k_with "call ref" => ((refine' use0 lshift_tells (d := (xs.count (i : Int), k * (5 - i))) ?k1 ?k2 ?k3 ?k4 ?k5 ?kK ?kR ?kd ?ku ?_); (case k1 => k_asm); (case k2 => k_asm); (case k3 => k_asm); (case k4 => k_asm); (case k5 => k_asm); (case kK => first | exact rfl | assumption); (case kR => exact ⟨⟨_, _, _, _, rfl, rfl, hk5⟩, hc1, hc2⟩); (case kd => ktr_room); (case ku => ktr_units); intro r9 h9 tk9 ht9 F9 N9 o9; (obtain ⟨t9, rfl⟩ := o9); (try dsimp only)))
    (k_with "call ref" => ((refine' use0 mul_tells (d := ((k : Int), 5 - (i : Int))) ?k1 ?k2 ?k3 ?k4 ?k5 ?kK ?kR ?kd ?ku ?_); (case k1 => k_asm); (case k2 => k_asm); (case k3 => k_asm); (case k4 => k_asm); (case k5 => k_asm); (case kK => first | exact rfl | assumption); (case kR => exact ⟨⟨_, _, _, _, rfl, rfl, rfl⟩, by dsimp only; omega, by dsimp only; omega, by dsimp only; omega, by dsimp only; omega⟩); (case kd => ktr_room); (case ku => ktr_units); intro r9 h9 tk9 ht9 F9 N9 o9; (obtain ⟨t9, rfl⟩ := o9); (try dsimp only)))
    (k_with "call ref" => ((refine' use0 add_tells (d := (totalUpTo xs k i, ((xs.count (i : Int) * 2 ^ (k * (5 - i)) : Nat) : Int))) ?k1 ?k2 ?k3 ?k4 ?k5 ?kK ?kR ?kd ?ku ?_); (case k1 => k_asm); (case k2 => k_asm); (case k3 => k_asm); (case k4 => k_asm); (case k5 => k_asm); (case kK => first | exact rfl | assumption); (case kR => exact ⟨⟨_, _, _, _, rfl, rfl, rfl⟩, trivial⟩); (case kd => ktr_room); (case ku => ktr_units); intro r9 h9 tk9 ht9 F9 N9 o9; (obtain ⟨t9, rfl⟩ := o9); (try dsimp only)))
    (k_with "call ref" => ((refine' use0 sub_tells (d := (5, (i : Int))) ?k1 ?k2 ?k3 ?k4 ?k5 ?kK ?kR ?kd ?ku ?_); (case k1 => k_asm); (case k2 => k_asm); (case k3 => k_asm); (case k4 => k_asm); (case k5 => k_asm); (case kK => first | exact rfl | assumption); (case kR => exact ⟨⟨_, _, _, _, rfl, rfl, rfl⟩, trivial⟩); (case kd => ktr_room); (case ku => ktr_units); intro r9 h9 tk9 ht9 F9 N9 o9; (obtain ⟨t9, rfl⟩ := o9); (try dsimp only)))
    (k_with "call ref" => ((refine' use0 sub_tells (d := (totalUpTo xs k i, ((xs.count (i : Int) * 2 ^ (k * (5 - i)) : Nat) : Int))) ?k1 ?k2 ?k3 ?k4 ?k5 ?kK ?kR ?kd ?ku ?_); (case k1 => k_asm); (case k2 => k_asm); (case k3 => k_asm); (case k4 => k_asm); (case k5 => k_asm); (case kK => first | exact rfl | assumption); (case kR => exact ⟨⟨_, _, _, _, rfl, rfl, rfl⟩, trivial⟩); (case kd => ktr_room); (case ku => ktr_units); intro r9 h9 tk9 ht9 F9 N9 o9; (obtain ⟨t9, rfl⟩ := o9); (try dsimp only)))
    k_steps
    all_goals (
      rename Fr _ _ _ _ => F8
      rename News _ _ _ _ => N8
      refine TPost.next F8 N8 nx (fun p hp => hp) hoff ⟨hsub, by rfl, by rfl, _, _, ?_, by rfl⟩)
    · have e : i % 2 = 0 := by
        rename (_ = (0 : Int)) => q
        have q' : ((i : Int) % 2) = 0 := by rw [← Int.fmod_eq_emod_of_nonneg _ (by decide)]; exact q
        omega
      exact totalUpTo_even xs k i e
    · have e : ¬ i % 2 = 0 := by
        rename (_ ≠ (0 : Int)) => q
        have q' : ((i : Int) % 2) ≠ 0 := by rw [← Int.fmod_eq_emod_of_nonneg _ (by decide)]; exact q
        omega
      exact totalUpTo_odd xs k i e
  · intro m₁ nx h tk ⟨hsub, h1, h2, TT, tt, hT, h3⟩ F' N'
    subst hT
    have F9 := pin1 F' h3
    clear F'
    k_steps
    refine hret _ _ _ (by assumption) (fun p hp => by rename News h₀ L _ _ => N8; exact N8 p (hsub p hp)) ⟨_, rfl⟩
end Mine
end

-- C9
section
open PySem PySem.W PySem.Spec PySem.Calls PyProof.Rows PyProof.Rows.LCg
namespace Mine
/-- letters: ints from 1 to 15 -/
def LetAre (us : List Value) (xs : List Nat) : Prop := IntsAre us (xs.map fun (x : Nat) => (x : Int)) ∧ ∀ x ∈ xs, x < 16
def RelLet : Nat → Led → List Value → List Nat → Prop := fun _ news vs d => ∃ (l : Addr) (n : Nat) (us : List Value), vs = [Value.ref l] ∧ (l, listOf us.toArray n) ∈ news ∧ LetAre us d ∧ d.length ≤ 5
/-- the bits that a mask catches -/
def par (b : Nat) : Nat := (b + b / 2 + b / 4 + b / 8) % 2
def caughtBy (mask : Nat) (xs : List Nat) : Nat := xs.foldl (fun c x => c * 2 + par (mask &&& x)) 0
def shownOf (xs : List Nat) : List Nat := (List.range 16).map fun m => caughtBy m xs
def OutShown : Nat → Led → Value → List Nat → Prop := fun _ led r d => ∃ (l : Addr) (n : Nat) (us : List Value), r = Value.ref l ∧ (l, listOf us.toArray n) ∈ led ∧ IntsAre us ((shownOf d).map fun (x : Nat) => (x : Int))
theorem par_lt (b : Nat) : par b < 2 := Nat.mod_lt _ (by decide)
theorem caught_snoc (mask : Nat) (xs : List Nat) (x : Nat) : caughtBy mask (xs ++ [x]) = caughtBy mask xs * 2 + par (mask &&& x) := by
  unfold caughtBy
  rw [List.foldl_append]
  rfl
theorem caught_lt (mask : Nat) : ∀ (xs : List Nat), caughtBy mask xs < 2 ^ xs.length := by
  have h : ∀ (xs : List Nat) (c e : Nat), c < 2 ^ e → xs.foldl (fun c x => c * 2 + par (mask &&& x)) c < 2 ^ (e + xs.length) := by
    intro xs
    induction xs with
    | nil => intro c e h; exact h
    | cons x r ih =>
      intro c e h
      have := ih (c * 2 + par (mask &&& x)) (e + 1) (by have := par_lt (mask &&& x); rw [Nat.pow_succ]; omega)
      rw [List.length_cons, show e + (r.length + 1) = e + 1 + r.length by omega]
      exact this
  intro xs
  have := h xs 0 0 (by decide)
  rw [Nat.zero_add] at this
  exact this
theorem par_int (b : Nat) : (((b : Int) + (b : Int).fdiv 2 + (b : Int).fdiv 4 + (b : Int).fdiv 8).fmod 2) = ((par b : Nat) : Int) := by
  unfold par
  rw [Int.fdiv_eq_ediv_of_nonneg _ (by decide), Int.fdiv_eq_ediv_of_nonneg _ (by decide), Int.fdiv_eq_ediv_of_nonneg _ (by decide), Int.fmod_eq_emod_of_nonneg _ (by decide)]
  omega
local macro_rules | `(tactic| walk_at "exec For Name Call cons nil") => `(tactic| ((rename Fr _ _ _ _ => lF'); (with_unfolding_all refine' For_turns lF' ?_; k_whole)))
local macro_rules | `(tactic| walk_at "exec For Name Name cons nil") => `(tactic| ((rename Fr _ _ _ _ => lF'); (with_unfolding_all refine' For_turns lF' ?_; k_whole)))
local macro_rules | `(tactic| walk_at "pyIter ref") => `(tactic| (refine Hold.out ?_))
local macro_rules | `(tactic| walk_at "newList") => `(tactic| (k_here; k_dflt (refine' newList_K ?k1 ?k2 ?_; (case k1 => k_asm); (case k2 => k_asm); k_whole); refine Hold.out ?_))
theorem shown_tells : Tell1 10 301 RelLet OutShown := by
  k_with_none
  w_top off
  unfold Tell1
  k_fill
  intro w loose mean mg mb xs dp un gd cn cs a ccd cl outer A₀ base h₀ L m news s vs Q E B F X N T hk hR hd hu hret
  obtain ⟨l, n, us, rfl, hl, hi, hlen⟩ := hR
  refine wpAny_call ?_
  k_dflt ktr_enter
  k_steps
  unfold Hold
  intro l' h1 F1 N1 hlt1
  k_steps
  unfold Hold
  rename Fr _ _ _ _ => F1
  rename News _ _ _ _ => N1
  rename IsRange _ _ _ _ _ _ _ _ => R1
  refine iterR (n := 16) (fun i m nx => ∃ (vs' : List Value) (n' : Nat), nx = (l', listOf vs'.toArray n') :: news ∧ m (Str.ofString "letters") = some (.ref l) ∧ m (Str.ofString "shown") = some (.ref l') ∧ IntsAre vs' (((List.range i).map fun mk => caughtBy mk xs).map fun (x : Nat) => (x : Int))) ?hh R1 ?hsm ?hsz F1 N1 ⟨[], 0, rfl, by rfl, by rfl, .nil⟩ ?_ ?_
  case hh => rfl
  case hsm => decide
  case hsz => decide
  · clear F1 N1 R1
    rintro I hI i ti m₁ nx oI h tk hlti hoff ⟨vs', n', rfl, h1, h2, hvs⟩ F' N'
    have F9 := pin2 F' h1 h2
    clear F'
    have hne : @Ne Nat I l' := Ne.symm (hoff _ (.head _))
    rw [Int.zero_add]
    k_steps
    unfold Hold
    rename Fr _ _ _ _ => F1
    rename News _ _ _ _ => N1
    have hl0 : (l, listOf us.toArray n) ∈ (I, oI) :: (l', listOf vs'.toArray n') :: news := .tail _ (.tail _ hl)
    refine iterL (vs := us) (n := n) (fun j m nx => (∀ p ∈ (I, oI) :: (l', listOf vs'.toArray n') :: news, p ∈ nx) ∧ m (Str.ofString "letters") = some (.ref l) ∧ m (Str.ofString "shown") = some (.ref l') ∧ (∃ tm, m (Str.ofString "mask") = some (.int (i : Int) tm)) ∧ ∃ C tc, C = ((caughtBy i (xs.take j) : Nat) : Int) ∧ m (Str.ofString "caught") = some (.int C tc)) ?hh F1 N1 hl0 ⟨fun _ h => h, by rfl, by rfl, ⟨_, by rfl⟩, 0, _, by rfl, by rfl⟩ ?_ ?_
    case hh => rfl
    · clear F1 N1
      intro I2 hI2 j v m₂ nx oI2 h2' tk2 hv hmem hoff2 ⟨hsub, k1, k2, ⟨tm, k3⟩, C, tc, hC, k4⟩ F' N'
      subst hC
      obtain ⟨x', tx, rfl, hx'⟩ := ints_get hi.1 hv
      obtain ⟨x, hx, rfl⟩ : ∃ x : Nat, xs[j]? = some x ∧ (x : Int) = x' := by
        rw [List.getElem?_map] at hx'
        cases e : xs[j]? with
        | none => rw [e] at hx'; cases hx'
        | some x => rw [e] at hx'; exact ⟨x, rfl, Option.some.inj hx'⟩
      have hcl : caughtBy i (xs.take j) < 32 := by
        have h1 := caught_lt i (xs.take j)
        have h2 : (xs.take j).length ≤ 5 := by rw [List.length_take]; omega
        have h3 : 2 ^ (xs.take j).length ≤ 2 ^ 5 := Nat.pow_le_pow_right (by decide) h2
        omega
      have hstep : caughtBy i (xs.take (j + 1)) = caughtBy i (xs.take j) * 2 + par (i &&& x) := by
        rw [List.take_add_one, hx]
        exact caught_snoc i (xs.take j) x
      have F9 := pin4 F' k1 k2 k3 k4
      clear F'
      k_steps
      rename Fr _ _ _ _ => F8
      rename News _ _ _ _ => N8
      refine TPost.next F8 N8 nx (fun p hp => hp) hoff2 ⟨hmem, hsub, by rfl, by rfl, ⟨_, by rfl⟩, _, _, ?_, by rfl⟩
      rw [bitAnd_nat, par_int, hstep, Int.natCast_add, Int.natCast_mul]
      rfl
    · clear F1 N1
      intro m₂ nx h2' tk2 hmem ⟨hsub, k1, k2, ⟨tm, k3⟩, C, tc, hC, k4⟩ F' N'
      subst hC
      have F9 := pin4 F' k1 k2 k3 k4
      clear F'
      have N9 : News _ _ _ ((I, oI) :: (l', listOf vs'.toArray n') :: news) := fun p hp => N' p (hsub p hp)
      clear N'
      have hOff : OwnOff news [l'] := fun p hp b hb => by rw [List.mem_singleton.mp hb]; exact Nat.ne_of_lt (hlt1 p hp)
      have hvl : vs'.length = i := by rw [hvs.length]; simp
      (k_with "call builtin:list.append" => ((k_dflt (refine' append_K ?k1 ?k2 ?k3 ?_ ?z; (case k1 => k_asm); (case k2 => k_asm); (case k3 => k_upd); (case z => (first | (rw [List.size_toArray, sizeLine_eq]; omega) | (rw [sizeLine_eq]; omega))); k_whole)); intro h' F' N'; (try k_sweep)))
      k_steps
      rename Fr _ _ _ _ => F8
      rename News _ _ _ _ => N8
      rw [List.push_toArray] at N8
      refine TPost.next F8 N8 ((l', listOf (vs' ++ [Value.int (caughtBy i (xs.take us.length) : Nat) tc]).toArray (n' + 1)) :: news) (fun p hp => hp) (fun p hp => ?_) ⟨_, _, rfl, by rfl, by rfl, ?_⟩
      · rcases List.mem_cons.mp hp with rfl | hp
        · exact Ne.symm hne
        · exact hoff _ (.tail _ hp)
      · have hul : us.length = xs.length := by rw [hi.1.length]; simp
        rw [hul, List.take_length, List.range_succ, List.map_append, List.map_append]
        exact ints_snoc hvs
  · rintro m₁ nx h tk ⟨vs', n', rfl, h1, h2, hvs⟩ F' N'
    have F9 := pin2 F' h1 h2
    clear F'
    k_steps
    refine hret _ [(l', listOf vs'.toArray n')] _ _ (by assumption) (fun p hp => by rename News h₀ L _ _ => N8; exact N8 p (by rcases List.mem_append.mp hp with hp | hp; exact .tail _ hp; rw [List.mem_singleton.mp hp]; exact .head _)) (fun q hq p hp => by rw [List.mem_singleton.mp hp]; exact Nat.ne_of_lt (hlt1 q hq)) ⟨l', n', vs', rfl, List.mem_append.mpr (.inr (.head _)), hvs⟩
end Mine
end

-- W1
section
open PySem PySem.W PySem.Spec PySem.Calls PyProof.Rows PyProof.Rows.LCg
namespace Mine
/-- the text of a word: its letters from A = 0 -/
def txt (ws : List Nat) : PySem.Str := ⟨(ws.map fun x => 65 + x).toArray⟩
theorem txt_append (a b : List Nat) : txt a ++ txt b = txt (a ++ b) := by
  show PySem.Str.append _ _ = _
  unfold PySem.Str.append txt
  simp
theorem txt_len (a : List Nat) : (txt a).length = a.length := by simp [txt, PySem.Str.length]
/-- all words of some letters, each with what its letters give together by xor -/
def wordsOf (xs : List Nat) : List (List Nat × Nat) := xs.foldl (fun due x => due ++ due.map fun p => (p.1 ++ [x], p.2 ^^^ x)) [([], 0)]
theorem wordsOf_snoc (xs : List Nat) (x : Nat) : wordsOf (xs ++ [x]) = wordsOf xs ++ (wordsOf xs).map fun p => (p.1 ++ [x], p.2 ^^^ x) := by
  unfold wordsOf
  rw [List.foldl_append]
  rfl
theorem wordsOf_length (xs : List Nat) : (wordsOf xs).length = 2 ^ xs.length := by
  have h : ∀ (xs : List Nat) (d : List (List Nat × Nat)), (xs.foldl (fun due x => due ++ due.map fun p => (p.1 ++ [x], p.2 ^^^ x)) d).length = d.length * 2 ^ xs.length := by
    intro xs
    induction xs with
    | nil => intro d; simp
    | cons x r ih => intro d; rw [List.foldl_cons, ih, List.length_append, List.length_map, List.length_cons, Nat.pow_succ, ← Nat.two_mul, Nat.mul_comm 2, Nat.mul_assoc, Nat.mul_comm 2]
  unfold wordsOf
  rw [h]
  simp
/-- every word of letters below 16 has a total below 16 and is no longer than the letters -/
theorem wordsOf_fit (xs : List Nat) (hx : ∀ x ∈ xs, x < 16) : ∀ p ∈ wordsOf xs, p.2 < 16 ∧ p.1.length ≤ xs.length ∧ ∀ y ∈ p.1, y ∈ xs := by
  have h : ∀ (xs : List Nat) (d : List (List Nat × Nat)) (n : Nat) (ok : Nat → Prop), (∀ x ∈ xs, x < 16 ∧ ok x) → (∀ p ∈ d, p.2 < 16 ∧ p.1.length ≤ n ∧ ∀ y ∈ p.1, ok y) →
      ∀ p ∈ xs.foldl (fun due x => due ++ due.map fun p => (p.1 ++ [x], p.2 ^^^ x)) d, p.2 < 16 ∧ p.1.length ≤ n + xs.length ∧ ∀ y ∈ p.1, ok y := by
    intro xs
    induction xs with
    | nil => intro d n ok _ hd p hp; simpa using hd p hp
    | cons x r ih =>
      intro d n ok hx hd p hp
      have := ih (d ++ d.map fun p => (p.1 ++ [x], p.2 ^^^ x)) (n + 1) ok (fun y hy => hx y (.tail _ hy)) (fun q hq => ?_) p hp
      · rw [List.length_cons]
        exact ⟨this.1, by omega, this.2.2⟩
      · rcases List.mem_append.mp hq with hq | hq
        · have := hd q hq
          exact ⟨this.1, by omega, this.2.2⟩
        · obtain ⟨q', hq', rfl⟩ := List.mem_map.mp hq
          have := hd q' hq'
          refine ⟨Nat.xor_lt_two_pow (n := 4) this.1 (hx x (.head _)).1, by simp; omega, fun y hy => ?_⟩
          rcases List.mem_append.mp hy with hy | hy
          · exact this.2.2 y hy
          · rw [List.mem_singleton.mp hy]; exact (hx x (.head _)).2
  have := h xs [([], 0)] 0 (fun y => y ∈ xs) (fun x hx' => ⟨hx x hx', hx'⟩) (fun p hp => by rw [List.mem_singleton.mp hp]; simp)
  intro p hp
  have q := this p hp
  rw [Nat.zero_add] at q
  exact q

/-- a list of pairs: a word's text, its total -/
inductive WtAre (news : Led) : List Value → List (List Nat × Nat) → Prop
  | nil : WtAre news [] []
  | cons {a : Addr} {n : Nat} {t u : Tok} {p : List Nat × Nat} {vs : List Value} {ps : List (List Nat × Nat)} : (a, ({ cls := .type "tuple", data := .seq #[.str (txt p.1) t, .int (p.2 : Int) u] n } : Obj)) ∈ news → WtAre news vs ps → WtAre news (.ref a :: vs) (p :: ps)
theorem WtAre.length {news : Led} {vs : List Value} {ps : List (List Nat × Nat)} (h : WtAre news vs ps) : vs.length = ps.length := by
  induction h with
  | nil => rfl
  | cons _ _ ih => simp [ih]
theorem WtAre.mono {news news' : Led} (hs : ∀ p ∈ news, p ∈ news') {vs : List Value} {ps : List (List Nat × Nat)} (h : WtAre news vs ps) : WtAre news' vs ps := by
  induction h with
  | nil => exact .nil
  | cons h _ ih => exact .cons (hs _ h) ih
theorem WtAre.append {news : Led} {vs ws : List Value} {ps qs : List (List Nat × Nat)} (h : WtAre news vs ps) (k : WtAre news ws qs) : WtAre news (vs ++ ws) (ps ++ qs) := by
  induction h with
  | nil => exact k
  | cons h _ ih => exact .cons h ih
theorem WtAre.get {news : Led} {vs : List Value} {ps : List (List Nat × Nat)} (h : WtAre news vs ps) : ∀ {i : Nat} {v : Value}, vs[i]? = some v → ∃ a n t u p, v = .ref a ∧ ps[i]? = some p ∧ (a, ({ cls := .type "tuple", data := .seq #[.str (txt p.1) t, .int (p.2 : Int) u] n } : Obj)) ∈ news := by
  induction h with
  | nil => intro i v h; simp at h
  | cons h _ ih =>
    intro i v hv
    cases i with
    | zero => simp at hv; exact ⟨_, _, _, _, _, hv.symm, by simp, h⟩
    | succ i => simpa using ih (by simpa using hv)

theorem great_fin : ∀ k : Fin 16, (seqIndex? ((k.val : Nat) : Int) (PySem.Str.ofString "ABCDEFGHIJKLMNOP").length).bind ((PySem.Str.ofString "ABCDEFGHIJKLMNOP").cps[·]?) = some (65 + k.val) := by decide +kernel
theorem great_item {prog : Program} {w : World} {A : Around} {E : Value → Shared → Prop} {s : Shared} {value slice : PySem.Expr} {k : Nat} {t u : Tok} {Q : Value → Shared → Prop} (hk : k < 16) (h : Q (.str (txt [k]) s.toks) { s with toks := s.toks + 1 })
    (hs : subscripted slice false (.str (PySem.Str.ofString "ABCDEFGHIJKLMNOP") t) (.int (k : Int) u) = operate [.int (k : Int) u] (getItem (.str (PySem.Str.ofString "ABCDEFGHIJKLMNOP") t) (.int (k : Int) u)) := by with_unfolding_all rfl)
    (hg : ∀ r, letTemporaryGo value (.str (PySem.Str.ofString "ABCDEFGHIJKLMNOP") t) r = pure () := by intro _; with_unfolding_all rfl) :
    wpAny (model prog w) A (subscriptTail value slice (.str (PySem.Str.ofString "ABCDEFGHIJKLMNOP") t) (.int (k : Int) u)) Q E s :=
  subscriptTail_builtin (typeIs_str _ _ _) F.slot_str_getitem.lookup (P.getItem_str (by
    rw [Bool.or_eq_false_iff, decide_eq_false_iff_not, decide_eq_false_iff_not]
    omega) (great_fin ⟨k, hk⟩) h) hs hg
end Mine
end

-- W2
section
open PySem PySem.W PySem.Spec PySem.Calls PyProof.Rows PyProof.Rows.LCg
namespace Mine
/-- a list of pairs, told by what each one's two values are -/
inductive PairAre {α : Type} (K : α → Value → Value → Prop) (news : Led) : List Value → List α → Prop
  | nil : PairAre K news [] []
  | cons {a : Addr} {n : Nat} {v₁ v₂ : Value} {p : α} {vs : List Value} {ps : List α} : (a, ({ cls := .type "tuple", data := .seq #[v₁, v₂] n } : Obj)) ∈ news → K p v₁ v₂ → PairAre K news vs ps → PairAre K news (.ref a :: vs) (p :: ps)
section
variable {α : Type} {K : α → Value → Value → Prop}
theorem PairAre.length {news : Led} {vs : List Value} {ps : List α} (h : PairAre K news vs ps) : vs.length = ps.length := by
  induction h with
  | nil => rfl
  | cons _ _ _ ih => simp [ih]
theorem PairAre.mono {news news' : Led} (hs : ∀ p ∈ news, p ∈ news') {vs : List Value} {ps : List α} (h : PairAre K news vs ps) : PairAre K news' vs ps := by
  induction h with
  | nil => exact .nil
  | cons h k _ ih => exact .cons (hs _ h) k ih
theorem PairAre.append {news : Led} {vs ws : List Value} {ps qs : List α} (h : PairAre K news vs ps) (k : PairAre K news ws qs) : PairAre K news (vs ++ ws) (ps ++ qs) := by
  induction h with
  | nil => exact k
  | cons h k _ ih => exact .cons h k ih
theorem PairAre.get {news : Led} {vs : List Value} {ps : List α} (h : PairAre K news vs ps) : ∀ {i : Nat} {v : Value}, vs[i]? = some v → ∃ a n v₁ v₂ p, v = .ref a ∧ ps[i]? = some p ∧ K p v₁ v₂ ∧ (a, ({ cls := .type "tuple", data := .seq #[v₁, v₂] n } : Obj)) ∈ news := by
  induction h with
  | nil => intro i v h; simp at h
  | cons h k _ ih =>
    intro i v hv
    cases i with
    | zero => simp at hv; exact ⟨_, _, _, _, _, hv.symm, by simp, k, h⟩
    | succ i => simpa using ih (by simpa using hv)
end
theorem CompEnd.tup {α : Type} {K : α → Value → Value → Prop} {h₀ : Heap} {L I C D Dt : Addr} {m : PySem.Str → Option Value} {s₁ : Shared} {oI oC : Obj} {S : List (Addr × Obj) → Prop} {rest : Value → List (Addr × Obj) → Prop} {h' : Heap} {tk n : Nat} {base nn : Led} {ys : List Value} {ps : List α} {p : α} {v₁ v₂ : Value}
    (F : Fr h₀ L h' m) (N : News h₀ L h' ((Dt, ({ cls := .type "tuple", data := .seq #[v₁, v₂] n } : Obj)) :: (I, oI) :: (C, oC) :: (D, lst ys) :: (nn ++ base)))
    (lt : ∀ p ∈ (I, oI) :: (C, oC) :: (D, lst ys) :: (nn ++ base), p.1 < Dt) (hof : Off3 I C D (nn ++ base)) (hnn : ∀ p ∈ nn, ∀ q ∈ base, q.1 ≠ p.1) (hys : PairAre K nn ys ps) (k : K p v₁ v₂)
    (hS : ∀ nw : Led, (∀ q ∈ base, q ∈ nw) → S nw) (hr : ∀ nn' : Led, (∀ p ∈ nn', ∀ q ∈ base, q.1 ≠ p.1) → PairAre K nn' (ys ++ [.ref Dt]) (ps ++ [p]) → rest (.ref Dt) (nn' ++ base)) :
    CompEnd h₀ L m s₁ I oI C oC D (lst ys) S rest (.ref Dt) { s₁ with heap := h', toks := tk } := by
  refine CompEnd.intro F N ((Dt, ({ cls := .type "tuple", data := .seq #[v₁, v₂] n } : Obj)) :: (nn ++ base)) ?sub ?off (hS _ fun q hq => .tail _ (List.mem_append.mpr (.inr hq))) (hr ((Dt, ({ cls := .type "tuple", data := .seq #[v₁, v₂] n } : Obj)) :: nn) ?e1 ((hys.mono fun q hq => .tail _ hq).append (.cons (.head _) k .nil)))
  case sub =>
    intro q hq
    rcases List.mem_cons.mp hq with rfl | hq
    · exact .tail _ (.head _)
    rcases List.mem_cons.mp hq with rfl | hq
    · exact .tail _ (.tail _ (.head _))
    rcases List.mem_cons.mp hq with rfl | hq
    · exact .tail _ (.tail _ (.tail _ (.head _)))
    rcases List.mem_cons.mp hq with rfl | hq
    · exact .head _
    · exact .tail _ (.tail _ (.tail _ (.tail _ hq)))
  case off =>
    refine Off3.of fun q hq => ?_
    rcases List.mem_cons.mp hq with rfl | hq
    · exact ⟨Ne.symm (Nat.ne_of_lt (lt _ (.head _))), Ne.symm (Nat.ne_of_lt (lt _ (.tail _ (.head _)))), Ne.symm (Nat.ne_of_lt (lt _ (.tail _ (.tail _ (.head _)))))⟩
    · exact hof.mem q hq
  case e1 =>
    intro q hq r hr
    rcases List.mem_cons.mp hq with rfl | hq
    · exact Nat.ne_of_lt (lt r (.tail _ (.tail _ (.tail _ (List.mem_append.mpr (.inr hr))))))
    · exact hnn q hq r hr
theorem Off1.mem {D : Addr} : ∀ {l : Led}, Off1 D l → ∀ p ∈ l, @Ne Nat p.1 D
  | [], _, _, h => nomatch h
  | _ :: _, x, p, h => by
    rcases List.mem_cons.mp h with rfl | h
    · exact x.1
    · exact Off1.mem x.2 p h
/-- a header's name: great if the word has an even number of letters -/
def nameOf (p : List Nat × Nat) : PySem.Str := if p.1.length % 2 = 0 then ⟨#[65 + p.2]⟩ else ⟨#[97 + p.2]⟩
def IsHead (p : List Nat × Nat) (v₁ v₂ : Value) : Prop := ∃ t u, v₁ = .str (nameOf p) t ∧ v₂ = .str (txt p.1) u
theorem lower_fin : ∀ k : Fin 16, Txt.lower (txt [k.val]) = ⟨#[97 + k.val]⟩ := by decide +kernel
theorem lower_txt {k : Nat} (hk : k < 16) : Txt.lower (txt [k]) = ⟨#[97 + k]⟩ := lower_fin ⟨k, hk⟩
end Mine
end

-- C3
section
open PySem PySem.W PySem.Spec PySem.Calls PyProof.Rows PyProof.Rows.LCg
namespace Mine
def OutDue : Nat → Led → Value → List Nat → Prop := fun _ led r d => ∃ D vs n, r = .ref D ∧ (D, listOf vs.toArray n) ∈ led ∧ PairAre IsHead led vs (wordsOf d)
local macro_rules | `(tactic| walk_at "exec For Name Name cons nil") => `(tactic| ((rename Fr _ _ _ _ => lF'); (with_unfolding_all refine' For_turns lF' ?_; k_whole)))
local macro_rules | `(tactic| walk_at "pyIter ref") => `(tactic| (refine Hold.out ?_))
local macro_rules | `(tactic| walk_at "SrcLP") => `(tactic| (refine Hold.out ?_))
local macro_rules | `(tactic| walk_at "subscriptTail Name Name str int") => `(tactic| (refine great_item (by assumption) ?_))
local macro_rules | `(tactic| walk_at "binaryOp Add str str") => `(tactic| ((refine PySem.SB.add ?_ ?sz); (case sz => (rw [txt_len, txt_len, sizeLine_eq]; (simp only [List.length_cons, List.length_nil]); omega)); intro t' k'; (try rw [txt_append])))
local macro_rules | `(tactic| walk_at "eval Name") => `(tactic| k_extra "free name")
local macro_rules | `(tactic| walk_at "newTuple") => `(tactic| (k_here; k_dflt (refine' kup_newTuple ?F ?N ?_ ?z; (case F => k_asm); (case N => k_asm); (case z => kmk_size)); refine Hold.out ?_))
local macro_rules | `(tactic| walk_at "newList") => `(tactic| (k_here; k_dflt (refine' newList_K ?k1 ?k2 ?_; (case k1 => k_asm); (case k2 => k_asm); k_whole); refine Hold.out ?_))
local macro_rules | `(tactic| walk_at "binaryOp Add ref ref") => `(tactic| (refine Hold.out ?_))
theorem due_tells : Tell1 10 273 RelLet OutDue := by
  k_with_none
  w_top off
  unfold Tell1
  k_fill
  intro w loose mean mg mb xs dp un gd cn cs a ccd cl outer A₀ base h₀ L m news s vs Q E B F X N T hk hR hd hu hret
  obtain ⟨l, n, us, rfl, hl, hi, hlen⟩ := hR
  refine wpAny_call ?_
  (k_dflt (refine' code_defC ?k1 ?k2 ?k3 ?k4 ?k5 ?kA ?kF ?kK ?k6 ?k7 ?k8 ?k9 ?kB ?kD ?_ ?c2 ?c3 ?c4; (case kA => exact rfl); (case kF => exact rfl); (case kK => assumption); (case k1 => k_asm); (case k2 => k_asm); (case k3 => k_asm); (case k4 => k_asm); (case k5 => k_asm); (case k6 => k_is); (case k7 => k_is); (case k8 => ktr_room); (case k9 => exact BindsTo.of_eq rfl); (case kB => exact rfl); (case kD => decide +kernel); (case c2 => exact rfl); (case c3 => exact rfl); (case c4 => exact rfl); k_whole))
  intro g' L' h' tk' cells' FG' F' N' Y' B' X' T' l1
  k_cells Y'
  rename_i oL0 oG0 dL0 dG0
  replace dL0 : ∃ z, oL0.data = Data.cell z := ⟨_, dL0⟩
  replace dG0 : ∃ z, oG0.data = Data.cell z := ⟨_, dG0⟩
  obtain ⟨zL0, dL0⟩ := dL0
  obtain ⟨zG0, dG0⟩ := dG0
  (try simp only [List.cons_append, List.nil_append] at N')
  (try dsimp only)
  (try k_fold)
  have hOff : OwnOff news [L' + 1 + 1, L' + 1] := fun p hp b hb => by
    have hlt := l1 p hp
    rcases List.mem_cons.mp hb with rfl | hb
    · exact Nat.ne_of_lt (Nat.lt_of_lt_of_le hlt (Nat.le_succ_of_le (Nat.le_succ _)))
    · rw [List.mem_singleton.mp hb]
      exact Nat.ne_of_lt (Nat.lt_succ_of_lt hlt)
  k_steps
  unfold Hold
  intro D hD FD ND ltD
  k_steps
  unfold Hold
  intro lD hlD FlD NlD ltlD
  rename (Obj.data _ = Data.cell (some _)) => dG
  rename Obj => oG
  k_steps
  unfold Hold
  rename Fr _ _ _ _ => F0
  rename News _ _ _ _ => N1
  obtain ⟨mm, F1, hmD⟩ : ∃ mm, Fr g' L' _ mm ∧ mm (Str.ofString "due") = some (.ref lD) := ⟨_, F0, by rfl⟩
  clear F0
  have e0 : PySem.Str.ofString "" = txt [] := by rfl
  rw [e0] at N1
  replace N1 : News g' L' _ ((L' + 1 + 1, oL0) :: (L' + 1, oG) :: (lD, listOf #[Value.ref D] 0) :: (D, ({ cls := .type "tuple", data := .seq #[.str (txt []) (tk' + 1), .int ((0 : Nat) : Int) (tk' + 1 + 1)] } : Obj)) :: news) := fun p hp => N1 p (by
    simp only [List.mem_cons] at hp ⊢
    rcases hp with h | h | h | h | h
    · exact .inr (.inr (.inl h))
    · exact .inr (.inr (.inr (.inl h)))
    · exact .inl h
    · exact .inr (.inl h)
    · exact .inr (.inr (.inr (.inr h))))
  have hnl : ∀ p ∈ news, p.1 ≠ L' + 1 + 1 ∧ p.1 ≠ L' + 1 := fun p hp => ⟨hOff p hp _ (.head _), hOff p hp _ (.tail _ (.head _))⟩
  refine iterL (vs := us) (n := n) (fun i m nx => ∃ (tl : Led) (oL : Obj) (z : Option Value) (D : Addr) (vs' : List Value) (n' : Nat), nx = (L' + 1 + 1, oL) :: (L' + 1, oG) :: tl ∧ oL.data = .cell z ∧ (∀ p ∈ news, p ∈ tl) ∧ OwnOff tl [L' + 1 + 1, L' + 1] ∧
      (D, listOf vs'.toArray n') ∈ tl ∧ m (Str.ofString "due") = some (.ref D) ∧ WtAre tl vs' (wordsOf (xs.take i))) ?hh F1 N1 ?hm ?hj ?_ ?_
  case hh => rfl
  case hm => exact .tail _ (.tail _ (.tail _ (.tail _ hl)))
  case hj => exact ⟨_, oL0, zL0, lD, [.ref D], _, rfl, dL0, fun p hp => .tail _ (.tail _ hp), by
      intro p hp b hb
      rcases List.mem_cons.mp hp with rfl | hp
      · rcases List.mem_cons.mp hb with rfl | hb
        · exact Ne.symm (Nat.ne_of_lt (ltlD _ (.tail _ (.head _))))
        · rw [List.mem_singleton.mp hb]; exact Ne.symm (Nat.ne_of_lt (ltlD _ (.tail _ (.tail _ (.head _)))))
      rcases List.mem_cons.mp hp with rfl | hp
      · rcases List.mem_cons.mp hb with rfl | hb
        · exact Ne.symm (Nat.ne_of_lt (ltD _ (.head _)))
        · rw [List.mem_singleton.mp hb]; exact Ne.symm (Nat.ne_of_lt (ltD _ (.tail _ (.head _))))
      · exact hOff p hp b hb, .head _, hmD, .cons (.tail _ (.head _)) .nil⟩
  · clear F1 N1
    rintro I hI i v m₁ nx oI h tk hv hmem hoff ⟨tl, oL, z, D, vs', n', rfl, hz, hsub, hOt, hDm, h1, hw⟩ F' N'
    obtain ⟨x', tx, rfl, hx'⟩ := ints_get hi.1 hv
    obtain ⟨x, hxs, rfl⟩ : ∃ x : Nat, xs[i]? = some x ∧ (x : Int) = x' := by
      rw [List.getElem?_map] at hx'
      cases e : xs[i]? with
      | none => rw [e] at hx'; cases hx'
      | some x => rw [e] at hx'; exact ⟨x, rfl, Option.some.inj hx'⟩
    have hx16 : x < 16 := hi.2 x (List.mem_of_getElem? hxs)
    have F9 := pin1 F' h1
    clear F'
    have hI1 : @Ne Nat (L' + 1 + 1) I := hoff _ (.head _)
    have hI2 : @Ne Nat (L' + 1) I := hoff _ (.tail _ (.head _))
    k_steps
    unfold Hold
    rename Fr _ _ _ _ => F8
    rename News _ _ _ _ => N8
    rename Obj => oL2
    rename (Obj.data oL2 = _) => dL2
    have hlv : vs'.length ≤ 32 := by
      rw [hw.length, wordsOf_length]
      have h2 : (xs.take i).length ≤ 5 := by rw [List.length_take]; omega
      have h3 : 2 ^ (xs.take i).length ≤ 2 ^ 5 := Nat.pow_le_pow_right (by decide) h2
      omega
    have hfit := wordsOf_fit (xs.take i) (fun y hy => hi.2 y (List.mem_of_mem_take hy))
    refine LCp.SrcLP.ledger (its := vs'.toArray) (by rfl) F8 N8 (.tail _ (.tail _ (.tail _ hDm))) (by rw [List.size_toArray, sizeLine_eq]; omega) fun gg => ?_
    refine restP (n := vs'.toArray.size) (fun j ys nw => ∃ nn, nw = nn ++ ((I, oI) :: (L' + 1 + 1, oL2) :: (L' + 1, oG) :: tl) ∧ (∀ p ∈ nn, ∀ q ∈ (I, oI) :: (L' + 1 + 1, oL2) :: (L' + 1, oG) :: tl, q.1 ≠ p.1) ∧ WtAre nn ys (((wordsOf (xs.take i)).take j).map fun (p : List Nat × Nat) => (p.1 ++ [x], p.2 ^^^ x))) ?turn ?fin _ 0 [] _ (by rw [Nat.zero_add]) ⟨[], rfl, fun _ h => (nomatch h), .nil⟩
    case turn =>
      rintro j ys nw v hj ⟨nn, rfl, hnn, hys⟩ hP
      obtain ⟨ta, nt, tt, tu, p, rfl, hp, hpm⟩ := hw.get (i := j) (v := v) (by simpa using hP)
      refine ⟨ta, _, _, _, nt, rfl, List.mem_append.mpr (.inr (.tail _ (.tail _ (.tail _ hpm)))), rfl, rfl, ?_⟩
      intro I2 oI2 C oC D2 m₂ h2 tk2 E' hC hx1 hx2 F9 N9 hof hne
      obtain ⟨hpt, hpl, _⟩ := hfit p (List.mem_of_getElem? hp)
      have hpl5 : p.1.length ≤ 5 := by
        have h2 : (xs.take i).length ≤ 5 := by rw [List.length_take]; omega
        omega
      have hmG : (L' + 1, oG) ∈ (I2, oI2) :: (C, oC) :: (D2, lst ys) :: (nn ++ (I, oI) :: (L' + 1 + 1, oL2) :: (L' + 1, oG) :: tl) := .tail _ (.tail _ (.tail _ (List.mem_append.mpr (.inr (.tail _ (.tail _ (.head _)))))))
      have hmL : (L' + 1 + 1, oL2) ∈ (I2, oI2) :: (C, oC) :: (D2, lst ys) :: (nn ++ (I, oI) :: (L' + 1 + 1, oL2) :: (L' + 1, oG) :: tl) := .tail _ (.tail _ (.tail _ (List.mem_append.mpr (.inr (.tail _ (.head _))))))
      (k_with "free name" => (first | (with_unfolding_all refine' lcf_free (c := L' + 1) (o := oG) N9 ?c hmG dG ?_ ?a ?b; (case c => rfl); (case a => rfl); (case b => rfl)) | (with_unfolding_all refine' lcf_free (c := L' + 1 + 1) (o := oL2) N9 ?c hmL dL2 ?_ ?a ?b; (case c => rfl); (case a => rfl); (case b => rfl))))
      k_steps
      unfold Hold
      intro Dt hDt FDt NDt ltDt
      have hltD : ∀ q ∈ (I, oI) :: (L' + 1 + 1, oL2) :: (L' + 1, oG) :: tl, q.1 ≠ Dt := fun q hq => Nat.ne_of_lt (ltDt q (.tail _ (.tail _ (.tail _ (List.mem_append.mpr (.inr hq))))))
      rw [bitXor_nat hpt hx16] at NDt
      obtain ⟨oT, NT, hTd⟩ : ∃ oT, News g' L' hDt ((Dt, oT) :: (I2, oI2) :: (C, oC) :: (D2, lst ys) :: (nn ++ (I, oI) :: (L' + 1 + 1, oL2) :: (L' + 1, oG) :: tl)) ∧ ∃ t u n, oT = ({ cls := .type "tuple", data := .seq #[.str (txt (p.1 ++ [x])) t, .int ((p.2 ^^^ x : Nat) : Int) u] n } : Obj) := ⟨_, NDt, _, _, _, rfl⟩
      clear NDt
      refine CompEnd.intro FDt NT ((Dt, oT) :: (nn ++ ((I, oI) :: (L' + 1 + 1, oL2) :: (L' + 1, oG) :: tl))) ?sub ?off ?src ⟨(Dt, oT) :: nn, rfl, ?e1, ?e2⟩
      case sub =>
        intro q hq
        rcases List.mem_cons.mp hq with rfl | hq
        · exact .tail _ (.head _)
        rcases List.mem_cons.mp hq with rfl | hq
        · exact .tail _ (.tail _ (.head _))
        rcases List.mem_cons.mp hq with rfl | hq
        · exact .tail _ (.tail _ (.tail _ (.head _)))
        rcases List.mem_cons.mp hq with rfl | hq
        · exact .head _
        · exact .tail _ (.tail _ (.tail _ (.tail _ hq)))
      case off =>
        refine Off3.of fun q hq => ?_
        rcases List.mem_cons.mp hq with rfl | hq
        · exact ⟨Ne.symm (Nat.ne_of_lt (ltDt _ (.head _))), Ne.symm (Nat.ne_of_lt (ltDt _ (.tail _ (.head _)))), Ne.symm (Nat.ne_of_lt (ltDt _ (.tail _ (.tail _ (.head _)))))⟩
        · exact hof.mem q hq
      case src => exact .inr ⟨_, .tail _ (List.mem_append.mpr (.inr (.tail _ (.tail _ (.tail _ hDm))))), rfl, _, rfl⟩
      case e1 =>
        intro q hq r hr
        rcases List.mem_cons.mp hq with rfl | hq
        · exact hltD r hr
        · exact hnn q hq r hr
      case e2 =>
        rw [List.take_add_one, hp, List.map_append]
        obtain ⟨t, u, n, rfl⟩ := hTd
        exact (hys.mono fun q hq => .tail _ hq).append (.cons (.head _) .nil)
    case fin =>
      rintro ys nw ⟨nn, rfl, hnn, hys⟩
      intro D3 h3 tk3 F3 N3 o3
      refine kmk_add_lit F3 N3 (News.isList N3 (.tail _ (List.mem_append.mpr (.inr (.tail _ (.tail _ (.tail _ hDm))))))) (News.isList N3 (.head _)) rfl ?_ ?hz
      case hz =>
        have e1 : ys.length ≤ 32 := by
          rw [hys.length, List.length_map, List.length_take, List.size_toArray]
          omega
        show vs'.length + ys.length ≤ sizeLine
        rw [sizeLine_eq]
        omega
      intro D4 h4 F4 N4 lt4
      k_steps
      rename Fr _ _ _ _ => F5
      rename News _ _ _ _ => N5
      have mI : (I, oI) ∈ (D3, lst ys) :: (nn ++ (I, oI) :: (L' + 1 + 1, oL2) :: (L' + 1, oG) :: tl) := .tail _ (List.mem_append.mpr (.inr (.head _)))
      have mL : (L' + 1 + 1, oL2) ∈ (D3, lst ys) :: (nn ++ (I, oI) :: (L' + 1 + 1, oL2) :: (L' + 1, oG) :: tl) := .tail _ (List.mem_append.mpr (.inr (.tail _ (.head _))))
      have mG : (L' + 1, oG) ∈ (D3, lst ys) :: (nn ++ (I, oI) :: (L' + 1 + 1, oL2) :: (L' + 1, oG) :: tl) := .tail _ (List.mem_append.mpr (.inr (.tail _ (.tail _ (.head _)))))
      have mT : ∀ p ∈ tl, p ∈ (D3, lst ys) :: (nn ++ (I, oI) :: (L' + 1 + 1, oL2) :: (L' + 1, oG) :: tl) := fun p hp => .tail _ (List.mem_append.mpr (.inr (.tail _ (.tail _ (.tail _ hp)))))
      have mN : ∀ p ∈ nn, p ∈ (D3, lst ys) :: (nn ++ (I, oI) :: (L' + 1 + 1, oL2) :: (L' + 1, oG) :: tl) := fun p hp => .tail _ (List.mem_append.mpr (.inl hp))
      refine TPost.next F5 N5 ((L' + 1 + 1, oL2) :: (L' + 1, oG) :: (D4, listOf (vs' ++ ys).toArray 0) :: (nn ++ tl)) ?sub ?off ⟨?hl, _, oL2, _, D4, vs' ++ ys, 0, rfl, dL2, ?hs, ?ho, .head _, by rfl, ?hw⟩
      case sub =>
        intro p hp
        rcases List.mem_cons.mp hp with rfl | hp
        · exact .tail _ mI
        rcases List.mem_cons.mp hp with rfl | hp
        · exact .tail _ mL
        rcases List.mem_cons.mp hp with rfl | hp
        · exact .tail _ mG
        rcases List.mem_cons.mp hp with rfl | hp
        · exact .head _
        rcases List.mem_append.mp hp with hp | hp
        · exact .tail _ (mN p hp)
        · exact .tail _ (mT p hp)
      case off =>
        intro p hp
        rcases List.mem_cons.mp hp with rfl | hp
        · exact hI1
        rcases List.mem_cons.mp hp with rfl | hp
        · exact hI2
        rcases List.mem_cons.mp hp with rfl | hp
        · exact Ne.symm (Nat.ne_of_lt (lt4 _ mI))
        rcases List.mem_append.mp hp with hp | hp
        · exact Ne.symm (hnn p hp _ (.head _))
        · exact hoff p (.tail _ (.tail _ hp))
      case hl => exact .tail _ (.tail _ (.tail _ (List.mem_append.mpr (.inr (hsub _ hl)))))
      case hs => exact fun p hp => .tail _ (List.mem_append.mpr (.inr (hsub p hp)))
      case ho =>
        intro p hp b hb
        have hb' : b = L' + 1 + 1 ∨ b = L' + 1 := by
          rcases List.mem_cons.mp hb with rfl | hb
          · exact .inl rfl
          · exact .inr (List.mem_singleton.mp hb)
        rcases List.mem_cons.mp hp with rfl | hp
        · rcases hb' with rfl | rfl
          · exact Ne.symm (Nat.ne_of_lt (lt4 _ mL))
          · exact Ne.symm (Nat.ne_of_lt (lt4 _ mG))
        rcases List.mem_append.mp hp with hp | hp
        · rcases hb' with rfl | rfl
          · exact Ne.symm (hnn p hp _ (.tail _ (.head _)))
          · exact Ne.symm (hnn p hp _ (.tail _ (.tail _ (.head _))))
        · exact hOt p hp b hb
      case hw =>
        rw [List.take_add_one, hxs]
        show WtAre _ _ (wordsOf (xs.take i ++ [x]))
        rw [wordsOf_snoc]
        refine (hw.mono fun p hp => .tail _ (List.mem_append.mpr (.inr hp))).append ?_
        have := hys.mono (news' := (D4, listOf (vs' ++ ys).toArray 0) :: (nn ++ tl)) fun p hp => .tail _ (List.mem_append.mpr (.inl hp))
        rw [List.size_toArray, hw.length, List.take_length] at this
        exact this
  · clear F1 N1
    rintro m₁ nx h tk hmem ⟨tl, oL, z, D, vs', n', rfl, hz, hsub, hOt, hDm, h1, hw⟩ F' N'
    have F9 := pin1 F' h1
    clear F'
    k_steps
    unfold Hold
    rename Fr _ _ _ _ => F8
    rename News _ _ _ _ => N8
    have hlv : vs'.length ≤ 32 := by
      rw [hw.length, wordsOf_length]
      have h2 : (xs.take us.length).length ≤ 5 := by rw [List.length_take]; omega
      have h3 : 2 ^ (xs.take us.length).length ≤ 2 ^ 5 := Nat.pow_le_pow_right (by decide) h2
      omega
    have hfit := wordsOf_fit (xs.take us.length) (fun y hy => hi.2 y (List.mem_of_mem_take hy))
    refine LCp.SrcLP.ledger (its := vs'.toArray) (by rfl) F8 N8 (.tail _ (.tail _ hDm)) (by rw [List.size_toArray, sizeLine_eq]; omega) fun gg => ?_
    refine restP (n := vs'.toArray.size) (fun j ys nw => ∃ nn, nw = nn ++ ((L' + 1 + 1, oL) :: (L' + 1, oG) :: tl) ∧ (∀ p ∈ nn, ∀ q ∈ (L' + 1 + 1, oL) :: (L' + 1, oG) :: tl, q.1 ≠ p.1) ∧ PairAre IsHead nn ys ((wordsOf (xs.take us.length)).take j)) ?turn ?fin _ 0 [] _ (by rw [Nat.zero_add]) ⟨[], rfl, fun _ h => (nomatch h), .nil⟩
    case turn =>
      rintro j ys nw v hj ⟨nn, rfl, hnn, hys⟩ hP
      obtain ⟨ta, nt, tt, tu, p, rfl, hp, hpm⟩ := hw.get (i := j) (v := v) (by simpa using hP)
      refine ⟨ta, _, _, _, nt, rfl, List.mem_append.mpr (.inr (.tail _ (.tail _ hpm))), rfl, rfl, ?_⟩
      intro I2 oI2 C oC D2 m₂ h2 tk2 E' hC hx1 hx2 F9 N9 hof hne
      obtain ⟨hpt, hpl, _⟩ := hfit p (List.mem_of_getElem? hp)
      have hpl5 : p.1.length ≤ 5 := by
        have h2 : (xs.take us.length).length ≤ 5 := by rw [List.length_take]; omega
        omega
      have hmG : (L' + 1, oG) ∈ (I2, oI2) :: (C, oC) :: (D2, lst ys) :: (nn ++ (L' + 1 + 1, oL) :: (L' + 1, oG) :: tl) := .tail _ (.tail _ (.tail _ (List.mem_append.mpr (.inr (.tail _ (.head _))))))
      (k_with "free name" => (first | (with_unfolding_all refine' lcf_free (c := L' + 1) (o := oG) N9 ?c hmG dG ?_ ?a ?b; (case c => rfl); (case a => rfl); (case b => rfl))))
      (k_with "call builtin:len" => (refine P.len_str ?hl1 ?_; (case hl1 => (rw [txt_len]; omega)); (try dsimp only); rw [txt_len]))
      (k_with "call builtin:str.lower" => (refine PySem.W.KXw.lower (lower_txt hpt) ?hl2 ?_; (case hl2 => (rw [lower_txt hpt]; rfl)); intro t' k'; (try dsimp only)))
      k_steps
      · rename (Int.fmod _ 2 = 0) => hmod
        unfold Hold
        intro Dt hDt FDt NDt ltDt
        have he : p.1.length % 2 = 0 := by
          have e : Int.fmod (p.1.length : Int) 2 = ((p.1.length % 2 : Nat) : Int) := by rw [Int.fmod_eq_emod_of_nonneg _ (by decide)]; omega
          rw [e] at hmod
          omega
        refine CompEnd.tup (K := IsHead) (p := p) FDt NDt ltDt hof hnn hys ⟨_, _, by rw [nameOf, if_pos he]; rfl, rfl⟩ (fun nw hq => .inr ⟨_, hq _ (.tail _ (.tail _ hDm)), rfl, _, rfl⟩) fun nn' h1 h2 => ⟨nn', rfl, h1, ?_⟩
        rw [List.take_add_one, hp]
        exact h2
      · rename (Int.fmod _ 2 ≠ 0) => hmod
        unfold Hold
        intro Dt hDt FDt NDt ltDt
        have he : ¬ p.1.length % 2 = 0 := by
          have e : Int.fmod (p.1.length : Int) 2 = ((p.1.length % 2 : Nat) : Int) := by rw [Int.fmod_eq_emod_of_nonneg _ (by decide)]; omega
          rw [e] at hmod
          omega
        refine CompEnd.tup (K := IsHead) (p := p) FDt NDt ltDt hof hnn hys ⟨_, _, by rw [nameOf, if_neg he], rfl⟩ (fun nw hq => .inr ⟨_, hq _ (.tail _ (.tail _ hDm)), rfl, _, rfl⟩) fun nn' h1 h2 => ⟨nn', rfl, h1, ?_⟩
        rw [List.take_add_one, hp]
        exact h2
    case fin =>
      rintro ys nw ⟨nn, rfl, hnn, hys⟩
      intro D3 h3 tk3 F3 N3 o3
      k_steps
      have hul : us.length = xs.length := by have := hi.1.length; rwa [List.length_map] at this
      refine hret _ ((D3, lst ys) :: nn) _ _ (by assumption) (fun p hp => ?_) (fun q hq p hp => ?_) ⟨D3, ys, ys.length, rfl, List.mem_append.mpr (.inr (.head _)), ?_⟩
      · rename News h₀ L _ _ => N8
        refine N8 p ?_
        rcases List.mem_append.mp hp with hp | hp
        · exact .tail _ (List.mem_append.mpr (.inr (.tail _ (.tail _ (hsub p hp)))))
        rcases List.mem_cons.mp hp with rfl | hp
        · exact .head _
        · exact .tail _ (List.mem_append.mpr (.inl hp))
      · rcases List.mem_cons.mp hp with rfl | hp
        · exact Mine.Off1.mem o3 q (List.mem_append.mpr (.inr (.tail _ (.tail _ (hsub q hq)))))
        · exact hnn p hp q (.tail _ (.tail _ (hsub q hq)))
      · rw [List.size_toArray, hw.length, List.take_length, hul, List.take_length] at hys
        exact hys.mono fun p hp => List.mem_append.mpr (.inr (.tail _ hp))
end Mine
end

-- RX
section
open PySem PySem.W PySem.Spec PySem.Calls PyProof.Rows PyProof.Rows.LCg
namespace Mine
open Builtin Builtin.Re
theorem plainAttrs_pattern : PlainAttrs "re.Pattern" :=
  ⟨⟨"object.__getattribute__", by rw [typeLookup_type, builtinLookup_eq_fast]; kernel_rfl, by decide +kernel⟩, by rw [typeLookup_type, builtinLookup_eq_fast]; kernel_rfl⟩
theorem owner_pattern : Manifest.owners.lookup (String.ofList ['n', 'r', 'e', 't', 't', 'a', 'P', '.', 'e', 'r'].reverse) = some Manifest.sig_re_Pattern := by kernel_rfl
theorem slot_search : Slot "re.Pattern" "search" "re.Pattern.search" :=
  .of (owner := "re.Pattern") (n := "search") (by rw [typeLookup_type, builtinLookup_eq_fast]; kernel_rfl) (by decide +kernel) (by decide +kernel) (by decide +kernel)
    (by first | exact .inl (by decide +kernel) | exact .inr (by decide +kernel)) (by rw [isSubtype_type]; kernel_rfl)
theorem type_search : typeOf (.builtin "re.Pattern.search") = pure (.type "method_descriptor") := by show builtinType _ = _; rw [builtinType_eq_fast]; kernel_rfl
theorem entry_search : entryFor table "re.Pattern.search" = some Builtin.«re.Pattern.search» := entryFor_of_tree (by kernel_rfl)
end Mine
end

-- RY
section
open PySem PySem.W PySem.Spec PySem.Calls PyProof.Rows PyProof.Rows.LCg
namespace Mine
open Builtin Builtin.Re
theorem args_search (a b : Value) : argsOk "re.Pattern.search" ⟨[a, b], []⟩ := by
  unfold argsOk; rw [signature?_of (id := "re.Pattern.search") (n := ['h', 'c', 'r', 'a', 'e', 's']) (o := ['n', 'r', 'e', 't', 't', 'a', 'P', '.', 'e', 'r']) (by kernel_rfl) owner_pattern]; kernel_rfl
theorem named_search (v : Value) : reNamed "re.Pattern.search" "search" ["string", "pos", "endpos"] 1 [v] [] = pure [some v, none, none] := by rfl
theorem textOf_str (x : PySem.Str) (t : Tok) : reTextOf (.str x t) = pure (x.cps, 0) := by rfl
theorem noCol (v : Value) : reNoCollectionInside v 0 = pure () := by rfl

def codeN : Array Nat := #[14, 10, 4, 1, 1, 22, 0, 31, 16, 127, 0, 13, 7, 22, 0, 31, 16, 127, 0, 1]
def codeV : Array Nat := #[14, 14, 4, 1, 1, 9, 4294966783, 0, 0, 2147483648, 0, 0, 0, 0, 0, 13, 11, 9, 4294966783, 0, 0, 2147483648, 0, 0, 0, 0, 0, 1]
/-- the letters A to P and a to p -/
def lettered : List Nat := [65, 66, 67, 68, 69, 70, 71, 72, 73, 74, 75, 76, 77, 78, 79, 80, 97, 98, 99, 100, 101, 102, 103, 104, 105, 106, 107, 108, 109, 110, 111, 112]
theorem setN : ∀ c ∈ lettered, ∀ seen, ∃ seen', Sre.inSet codeN c codeN.size 5 true seen = .ok (false, seen') := by
  intro c hc seen
  simp only [lettered, List.mem_cons, List.not_mem_nil, or_false] at hc
  rcases hc with h | h | h | h | h | h | h | h | h | h | h | h | h | h | h | h | h | h | h | h | h | h | h | h | h | h | h | h | h | h | h | h <;> subst h <;> exact ⟨_, rfl⟩
theorem setV : ∀ c ∈ lettered, ∀ seen, ∃ seen', Sre.inSet codeV c codeV.size 5 true seen = .ok (false, seen') := by
  intro c hc seen
  simp only [lettered, List.mem_cons, List.not_mem_nil, or_false] at hc
  rcases hc with h | h | h | h | h | h | h | h | h | h | h | h | h | h | h | h | h | h | h | h | h | h | h | h | h | h | h | h | h | h | h | h <;> subst h <;> exact ⟨_, rfl⟩
theorem admitted_none (m : Sre.M) (hl : m.lim ≤ m.text.size) (hset : ∀ c ∈ m.text.toList, ∀ seen, ∃ seen', Sre.inSet m.code c m.code.size 5 true seen = .ok (false, seen')) :
    ∀ fuel s seen, ∃ seen', m.admitted fuel s seen = .ok (none, seen') := by
  intro fuel
  induction fuel with
  | zero => exact fun s seen => ⟨seen, rfl⟩
  | succ fuel ih =>
    intro s seen
    unfold Sre.M.admitted
    by_cases hs : s ≥ m.lim
    · exact ⟨seen, by rw [if_pos hs]⟩
    · rw [if_neg hs]
      have hlt : s < m.text.size := by omega
      have hmem : m.text.getD s 0 ∈ m.text.toList := by
        rw [Array.getD_eq_getD_getElem?, Array.getElem?_eq_getElem hlt]
        simp
      obtain ⟨seen', e⟩ := hset _ hmem seen
      rw [e]
      exact ih _ _
def mach (code text : Array Nat) (pc lim last : Nat) : Sre.M := { code, text, lim, start := 0, lastStart := last, pc, pos := 0, handed := 0, marks := Array.replicate (2 * 0) none, mustAdvance := false, seen := ({} : Sre.Seen).add 14 }
theorem fail_run (m : Sre.M) (ho : m.outcome = none) (hf : m.frames = []) : ((m.say false).runFor 4).outcome = some .failed := by
  cases m
  simp only at ho hf
  subst ho hf
  rfl
theorem searchN (text : Array Nat) (hx : ∀ c ∈ text.toList, c ∈ lettered) : ∃ m : Sre.M, m.outcome = none ∧ m.frames = [] ∧ Sre.forSearch codeN text 0 0 text.size false = m.say false := by
  have e : Sre.forSearch codeN text 0 0 text.size false = if (decide (0 > text.size) || decide (text.size - 0 < 1)) = true then (mach codeN text 11 text.size 0).say false else (mach codeN text 11 text.size text.size).attemptFrom 0 true := rfl
  rw [e]
  split
  · exact ⟨_, rfl, rfl, rfl⟩
  · obtain ⟨seen', e⟩ := admitted_none (mach codeN text 11 text.size text.size) (Nat.le_refl _) (fun c hc => setN c (hx c hc)) (text.size + 1 - 0) 0 (({} : Sre.Seen).add 14)
    refine ⟨{ mach codeN text 11 text.size text.size with seen := seen' }, rfl, rfl, ?_⟩
    unfold Sre.M.attemptFrom
    have h1 : (mach codeN text 11 text.size text.size).hasFirstSet = true := rfl
    rw [h1]
    have e' : Sre.M.admitted (mach codeN text 11 text.size text.size) ((mach codeN text 11 text.size text.size).lim + 1 - 0) 0 (mach codeN text 11 text.size text.size).seen = .ok (none, seen') := e
    rw [e']
    rfl
theorem searchV (text : Array Nat) (hx : ∀ c ∈ text.toList, c ∈ lettered) : ∃ m : Sre.M, m.outcome = none ∧ m.frames = [] ∧ Sre.forSearch codeV text 0 0 text.size false = m.say false := by
  have e : Sre.forSearch codeV text 0 0 text.size false = if (decide (0 > text.size) || decide (text.size - 0 < 1)) = true then (mach codeV text 15 text.size 0).say false else (mach codeV text 15 text.size text.size).attemptFrom 0 true := rfl
  rw [e]
  split
  · exact ⟨_, rfl, rfl, rfl⟩
  · obtain ⟨seen', e⟩ := admitted_none (mach codeV text 15 text.size text.size) (Nat.le_refl _) (fun c hc => setV c (hx c hc)) (text.size + 1 - 0) 0 (({} : Sre.Seen).add 14)
    refine ⟨{ mach codeV text 15 text.size text.size with seen := seen' }, rfl, rfl, ?_⟩
    unfold Sre.M.attemptFrom
    have h1 : (mach codeV text 15 text.size text.size).hasFirstSet = true := rfl
    rw [h1]
    have e' : Sre.M.admitted (mach codeV text 15 text.size text.size) ((mach codeV text 15 text.size text.size).lim + 1 - 0) 0 (mach codeV text 15 text.size text.size).seen = .ok (none, seen') := e
    rw [e']
    rfl
section
variable {M : Model} {A : Around} {E : Value → Shared → Prop} {s : Shared}
theorem answer_none {t : ReTarget} {m : Sre.M} {Q : Fin → Shared → Prop} (ho : m.outcome = none) (hf : m.frames = []) (h : Q (.done (.ret .none)) s) : wpAny M A (reAnswer t (m.say false)) Q E s := by
  unfold reAnswer reRunToEnd
  have hF := fail_run m ho hf
  have hd : reDrive (2 ^ 64) (m.say false) = pure ((m.say false).runFor 4) := by
    rw [show (2 ^ 64 : Nat) = 18446744073709551615 + 1 from rfl]
    unfold reDrive
    show (if ((m.say false).runFor 4).outcome.isSome = true then _ else _) = _
    rw [hF]
    rfl
  refine wpAny_bind (wpAny_bind ?_)
  rw [hd]
  refine wpAny_pure (wpAny_bind ?_)
  refine wpAny_forIn_list _ (fun _ _ s' => s' = s) _ (fun x rest b s' hs => ?_) (fun b s' hs => ?_) _ _ rfl
  · subst hs
    split
    · exact wpAny_bind (wpAny_rule (wpAny_pure rfl))
    · exact wpAny_pure rfl
  · subst hs
    rw [hF]
    exact wpAny_pure (wpAny_pure h)
end
section
variable {prog : Program} {w : World} {A : Around} {E : Value → Shared → Prop} {s : Shared}
theorem search_call {code : Array Nat} {a c : Addr} {oa oc : Obj} {p f : Value} {items : Array Value} {n : Nat} {x : PySem.Str} {t : Tok} {Q : Value → Shared → Prop}
    (ho : s.heap.get? a = some oa) (hcl : oa.cls = .type "re.Pattern") (hda : oa.data = .fields #[p, f, .int 0 0, .none, .none, .ref c, .int 0 0])
    (hc : s.heap.get? c = some oc) (hd : oc.data = .seq items n) (hcode : (items.map reRawOf).map (·.toNat) = code)
    (hlen : x.cps.size ≤ 100)
    (hs : ∃ m : Sre.M, m.outcome = none ∧ m.frames = [] ∧ Sre.forSearch code x.cps 0 0 x.cps.size false = m.say false) (h : Q .none s) :
    wpAny (model prog w) A (call (.builtin "re.Pattern.search") [.ref a, .str x t]) Q E s := by
  refine call_meets slot_search (s := s) (S := fun A R s' => s' = s ∧ R (.ok (.ret .none)) s) ⟨oa, ho, hcl⟩ entry_search (args_search _ _) (fun prog w A R s' hS => ?_) ⟨rfl, h⟩
  obtain ⟨rfl, hS⟩ := hS
  obtain ⟨m, h1, h2, h3⟩ := hs
  unfold Builtin.«re.Pattern.search»
  refine wpAny_bind ?_
  unfold reTarget
  dsimp only
  refine wpAny_bind (wpAny_of_eq (named_search _) ?_)
  dsimp only
  refine wpAny_bind (wpAny_pure (wpAny_bind (wpAny_pure (wpAny_bind (wpAny_fieldsOf ho hda (wpAny_bind (wpAny_of_eq (textOf_str _ _) ?_)))))))
  show wpAny _ _ (do
    reNoCollectionInside (Value.str x t) 0
    let d ← reRawItems (.ref c)
    pure ({ pattern := Value.ref a, string := Value.str x t, code := Array.map (fun x => x.toNat) d, text := x.cps, kind := 0, groups := 0, pos := Min.min (Int.toNat 0) x.cps.size, lim := Min.min (2 ^ 63 - 1 : Int).toNat x.cps.size } : ReTarget)) _ _ _
  refine wpAny_bind (wpAny_of_eq (noCol _) (wpAny_bind ?_))
  unfold reRawItems
  refine wpAny_bind (wpAny_seqItems hc hd (wpAny_pure (wpAny_pure ?_)))
  have e1 : Min.min (2 ^ 63 - 1 : Int).toNat x.cps.size = x.cps.size := Nat.min_eq_right (by omega)
  have e2 : Min.min (Int.toNat 0) x.cps.size = 0 := Nat.min_eq_left (Nat.zero_le _)
  rw [e1, e2]
  dsimp only [Option.getD_some]
  rw [hcode, h3]
  exact answer_none h1 h2 hS
theorem search_method {a : Addr} {oa : Obj} {pl : Sem Bool} {Q : Value × List Value → Shared → Prop} (ho : s.heap.get? a = some oa) (hcl : oa.cls = .type "re.Pattern") (hdi : oa.dict = none)
    (h : Q (.builtin "re.Pattern.search", [.ref a]) s) : wpAny (model prog w) A (getMethod (.ref a) "search" pl) Q E s :=
  getMethod_builtin ⟨oa, ho, hcl⟩ plainAttrs_pattern slot_search type_search (fun b e => by cases e; exact ⟨oa, ho, hdi⟩) h
end
end Mine
end

-- CH
section
open PySem PySem.W PySem.Spec PySem.Calls PyProof.Rows PyProof.Rows.LCg
namespace Mine
local macro_rules | `(tactic| walk_at "exec For Tuple Name cons nil") => `(tactic| ((rename Fr _ _ _ _ => lF'); (with_unfolding_all refine' For_turns lF' ?_; k_whole)))
local macro_rules | `(tactic| walk_at "pyIter ref") => `(tactic| (refine Hold.out ?_))
local macro_rules | `(tactic| walk_at "newList") => `(tactic| (k_here; k_dflt (refine' newList_K ?k1 ?k2 ?_; (case k1 => k_asm); (case k2 => k_asm); k_whole); refine Hold.out ?_))
/-- a Headers object, told by its list -/
def IsTable (own : Led) (x : Addr) (vs : List Value) : Prop := ∃ (dx lh : Addr) (n : Nat) (hh : Int) (t : Tok), own = [(lh, listOf vs.toArray n), (x, instObj 182 dx), (dx, dictOf [⟨hh, .str (PySem.Str.ofString "_headers") t, .ref lh⟩] 1)] ∧ @Ne Nat x lh ∧ @Ne Nat dx lh ∧ @Ne Nat dx x
def OutHdr : Nat → Led → Led → Value → Unit → Prop := fun _ own _ r _ => ∃ x, r = .ref x ∧ IsTable own x []
def RelNil : Nat → Led → Led → List Value → Unit → Prop := fun _ own _ vs _ => vs = [] ∧ own = []
theorem headers_tells : Tell2 10 182 RelNil OutHdr := by
  k_with_none
  w_top off
  unfold Tell2
  k_fill
  intro w loose mean mg mb d dp un gd cn cs a ccd cl outer A₀ base h₀ L m own news s vs Q E B F X N hon T hk hR hd hu hret
  obtain ⟨rfl, rfl⟩ := hR
  replace N : News h₀ L s.heap news := N
  k_dflt (refine' call_cls ?k1 ?k2 ?k3 ?k4 ?k5 ?k6 ?_; (case k1 => k_asm); (case k2 => k_asm); (case k3 => k_asm); (case k4 => k_is); (case k5 => k_is); (case k6 => k_is); k_whole)
  intro x' d' h' F' N' l1 l2
  (try k_lt2 l2); (try k_sweep)
  (refine' code_def ?k1 ?k2 ?k3 ?k4 ?k5 ?kA ?kF ?kK ?k6 ?k7 ?k8 ?k9 ?kB ?_ ?c2 ?c3 ?c4 ?c5; (case kA => exact rfl); (case kF => exact rfl); (case kK => first | exact rfl | assumption); (case k1 => k_asm); (case k2 => k_asm); (case k3 => k_asm); (case k4 => k_asm); (case k5 => k_asm); (case k6 => k_is); (case k7 => k_is); (case k8 => ktr_room); (case k9 => first | exact BindsTo.of_eq rfl | exact binds_K (by k_in) rfl (by k_is) rfl rfl rfl); (case c5 => decide); (case kB => exact locs rfl); (case c2 => exact rfl); (case c3 => exact rfl); (case c4 => exact rfl); k_whole; intro g' L' h' FG' F' N' B' X' T'; (try dsimp only); (try k_fold))
  k_steps
  unfold Hold
  intro lh hl Fl Nl lt3
  have hx3 : x' < lh := lt3 _ (.head _)
  have hd3 : d' < lh := lt3 _ (.tail _ (.head _))
  (try k_lt lt3); (try k_sweep)
  k_steps
  unfold Hold
  rename Fr _ _ _ _ => F8
  rename News _ _ _ _ => N8
  refine iterL (vs := []) (n := 0) (fun i m nx => nx = _) ?hh F8 N8 ?hm rfl ?_ ?_
  case hh => rfl
  case hm => exact .head _
  · rintro I hI i v m₁ nx oI h tk hv
    simp at hv
  · rintro m₁ nx h tk hmem rfl F9 N9
    k_steps
    refine hret _ [_, _, _] _ _ (by assumption) (by rename News h₀ L _ _ => N8; exact N8) ?_ ⟨x', rfl, d', lh, _, _, _, rfl, Nat.ne_of_lt hx3, Nat.ne_of_lt hd3, Nat.ne_of_lt l2⟩
    intro q hq p hp
    have h3 : p.1 < d' := l1 p hp
    have h4 : d' ≤ q.1 := by
      rcases List.mem_cons.mp hq with rfl | hq
      · exact Nat.le_of_lt hd3
      rcases List.mem_cons.mp hq with rfl | hq
      · exact Nat.le_of_lt l2
      · rw [List.mem_singleton.mp hq]; exact Nat.le_refl _
    exact Ne.symm (Nat.ne_of_lt (Nat.lt_of_lt_of_le h3 h4))
end Mine
end

-- CV
section
open PySem PySem.W PySem.Spec PySem.Calls PyProof.Rows PyProof.Rows.LCg
namespace Mine
def Lettered (x : PySem.Str) : Prop := x.cps.size ≤ 5 ∧ ∀ c ∈ x.cps.toList, c ∈ lettered
def patObj (c : Addr) (p f : Value) : Obj := { cls := .type "re.Pattern", data := .fields #[p, f, .int 0 0, .none, .none, .ref c, .int 0 0] }
theorem patN {w : World} {h : Heap} (X : (Mine.hd.heap_39 w.params).In h) : (∃ p f, h.get? 48 = some (patObj 47 p f)) ∧ ∃ items n, h.get? 47 = some { cls := .type "tuple", data := .seq items n } ∧ (items.map Builtin.Re.reRawOf).map (·.toNat) = codeN :=
  ⟨⟨_, _, X 48 _ rfl⟩, _, _, X 47 _ rfl, by rw [List.map_toArray, List.map_toArray]; rfl⟩
theorem patV {w : World} {h : Heap} (X : (Mine.hd.heap_39 w.params).In h) : (∃ p f, h.get? 53 = some (patObj 52 p f)) ∧ ∃ items n, h.get? 52 = some { cls := .type "tuple", data := .seq items n } ∧ (items.map Builtin.Re.reRawOf).map (·.toNat) = codeV :=
  ⟨⟨_, _, X 53 _ rfl⟩, _, _, X 52 _ rfl, by rw [List.map_toArray, List.map_toArray]; rfl⟩
section
variable {prog : Program} {w : World} {A : Around} {E : Value → Shared → Prop} {s : Shared}
theorem getN {pl : Sem Bool} {Q : Value × List Value → Shared → Prop} (X : (Mine.hd.heap_39 w.params).In s.heap) (h : Q (.builtin "re.Pattern.search", [.ref 48]) s) : wpAny (model prog w) A (getMethod (.ref 48) (PySem.Str.ofString "search") pl) Q E s := by
  obtain ⟨⟨p, f, e⟩, _⟩ := patN X
  exact search_method e rfl rfl h
theorem getV {pl : Sem Bool} {Q : Value × List Value → Shared → Prop} (X : (Mine.hd.heap_39 w.params).In s.heap) (h : Q (.builtin "re.Pattern.search", [.ref 53]) s) : wpAny (model prog w) A (getMethod (.ref 53) (PySem.Str.ofString "search") pl) Q E s := by
  obtain ⟨⟨p, f, e⟩, _⟩ := patV X
  exact search_method e rfl rfl h
theorem callN {x : PySem.Str} {t : Tok} {Q : Value → Shared → Prop} (X : (Mine.hd.heap_39 w.params).In s.heap) (hx : Lettered x) (h : Q .none s) : wpAny (model prog w) A (call (.builtin "re.Pattern.search") [.ref 48, .str x t]) Q E s := by
  obtain ⟨⟨p, f, e⟩, items, n, e2, hc⟩ := patN X
  exact search_call e rfl rfl e2 rfl hc (by have := hx.1; omega) (searchN _ hx.2) h
theorem callV {x : PySem.Str} {t : Tok} {Q : Value → Shared → Prop} (X : (Mine.hd.heap_39 w.params).In s.heap) (hx : Lettered x) (h : Q .none s) : wpAny (model prog w) A (call (.builtin "re.Pattern.search") [.ref 53, .str x t]) Q E s := by
  obtain ⟨⟨p, f, e⟩, items, n, e2, hc⟩ := patV X
  exact search_call e rfl rfl e2 rfl hc (by have := hx.1; omega) (searchV _ hx.2) h
end
theorem convert_tells : ∀ (w : World) (loose : List PySem.Str) (mean : ExcName → Option Value) (mg mb : PySem.Str → Option Value) (x : Addr) (y : PySem.Str) (t : Tok) (b : Bool)
    (dp un : Nat) (gd : Option (List Code)) (cn : PySem.Str) (cs : Scope) (a : Addr) (ccd : Value) (cl : List (PySem.Str × Addr)) (outer : List Env) (A₀ : Around) (base h₀ : Heap) (L : Addr) (m : PySem.Str → Option Value) (news : Led) (s : Shared)
    (Q E : Value → Shared → Prop),
    Below A₀ base outer h₀ → Fr h₀ L s.heap m → (Mine.hd.heap_39 w.params).In h₀ → News h₀ L s.heap news → Top Mine.hd.view_39 loose mean mg mb h₀ → cs.kind = .function → Lettered y → dp + 5 < recursionLimit → un + 8 * 5 < cLine →
    (∀ h' tk', Fr h₀ L h' m → News h₀ L h' news → Q (.str y t) { s with heap := h', toks := tk' }) →
    wpAny (model PySem.Challenge.rw_wo0063_01.row.prog w) (ktrTop dp un gd cn cs L a ccd cl outer) (call (.ref 83) [.ref x, .str y t] [(PySem.Str.ofString "name", .bool b)]) Q E s := by
  k_with_none
  w_top off
  k_fill
  intro w loose mean mg mb x y t b dp un gd cn cs a ccd cl outer A₀ base h₀ L m news s Q E B F X N T hk hy hd hu hret
  refine wpAny_call ?_
  (k_dflt (refine' code_def ?k1 ?k2 ?k3 ?k4 ?k5 ?kA ?kF ?kK ?k6 ?k7 ?k8 ?k9 ?kB ?_ ?c2 ?c3 ?c4 ?c5; (case kA => exact rfl); (case kF => exact rfl); (case kK => assumption); (case k1 => k_asm); (case k2 => k_asm); (case k3 => k_asm); (case k4 => k_asm); (case k5 => k_asm); (case k6 => k_is); (case k7 => k_is); (case k8 => ktr_room); (case k9 => (refine' kp_binds ?kx ?ke; (case kx => k_in); (case ke => exact fun _ => rfl))); (case c5 => decide); (case kB => exact locs rfl); (case c2 => exact rfl); (case c3 => exact rfl); (case c4 => exact rfl); k_whole; intro g' L' h' FG' F' N' B' X' T'; (try dsimp only); (try k_fold)))
  (k_with "getMethod ref" => (first | refine getN (by k_in) ?_ | refine getV (by k_in) ?_))
  (k_with "call builtin:re.Pattern.search" => (first | refine callN (by k_in) hy ?_ | refine callV (by k_in) hy ?_))
  cases b
  · k_steps
    exact hret _ _ (by assumption) (by rename News h₀ L _ _ => N8; exact N8)
  · k_steps
    exact hret _ _ (by assumption) (by rename News h₀ L _ _ => N8; exact N8)
section
variable {w : World} {loose : List PySem.Str} {mean : ExcName → Option Value} {mg mb : PySem.Str → Option Value} {x : Addr} {y : PySem.Str} {t : Tok} {b : Bool}
    {dp un : Nat} {gd : Option (List Code)} {cn : PySem.Str} {cs : Scope} {a : Addr} {ccd : Value} {cl : List (PySem.Str × Addr)} {outer : List Env} {A₀ : Around} {base h₀ : Heap} {L : Addr} {m : PySem.Str → Option Value} {news : Led} {s : Shared}
    {Q E : Value → Shared → Prop}
theorem useC (B : Below A₀ base outer h₀) (F : Fr h₀ L s.heap m) (X : (Mine.hd.heap_39 w.params).In h₀) (N : News h₀ L s.heap news) (T : Top Mine.hd.view_39 loose mean mg mb h₀) (hk : cs.kind = .function) (R : Lettered y)
    (hd : dp + 5 < recursionLimit) (hu : un + 8 * 5 < cLine) (ret : ∀ h' tk', Fr h₀ L h' m → News h₀ L h' news → Q (.str y t) { s with heap := h', toks := tk' }) :
    wpAny (model PySem.Challenge.rw_wo0063_01.row.prog w) (ktrTop dp un gd cn cs L a ccd cl outer) (call (.ref 83) [.ref x, .str y t] [(PySem.Str.ofString "name", .bool b)]) Q E s :=
  convert_tells w loose mean mg mb x y t b dp un gd cn cs a ccd cl outer A₀ base h₀ L m news s Q E B F X N T hk R hd hu ret
end
end Mine
end

-- CA
section
open PySem PySem.W PySem.Spec PySem.Calls PyProof.Rows PyProof.Rows.LCg
namespace Mine
/-- one header: its name and its word -/
structure HeadIn where
  x : Addr
  vs : List Value
  name : PySem.Str
  word : PySem.Str
def RelAdd : Nat → Led → Led → List Value → HeadIn → Prop := fun _ own _ vs d => (∃ t u, vs = [.ref d.x, .str d.name t, .str d.word u]) ∧ IsTable own d.x d.vs ∧ d.vs.length ≤ 100 ∧ Lettered d.name ∧ Lettered d.word
def OutAdd : Nat → Led → Led → Value → HeadIn → Prop := fun _ own' _ r d => r = .none ∧ ∃ own a n t u, own' = own ++ [(a, ({ cls := .type "tuple", data := .seq #[.str d.name t, .str d.word u] n } : Obj))] ∧ IsTable own d.x (d.vs ++ [.ref a]) ∧ ∀ q ∈ own, @Ne Nat q.1 a
local macro_rules | `(tactic| walk_at "newTuple") => `(tactic| (k_here; k_dflt (refine' kup_newTuple ?F ?N ?_ ?z; (case F => k_asm); (case N => k_asm); (case z => kmk_size)); refine Hold.out ?_))
theorem join_one (x y : PySem.Str) : Txt.join x [y] = y := by
  rfl
theorem add_header_tells : Tell2 10 179 RelAdd OutAdd := by
  k_with_none
  w_top off
  unfold Tell2
  k_fill
  intro w loose mean mg mb d dp un gd cn cs a ccd cl outer A₀ base h₀ L m own news s vs Q E B F X N hon T hk hR hd hu hret
  obtain ⟨x, vs0, name, word⟩ := d
  obtain ⟨⟨t, u, rfl⟩, ⟨dx, lh, n, hh, tt, rfl, hxl, hdl, hdx⟩, hvl, hname, hword⟩ := hR
  dsimp only at hvl hname hword hxl hdx ⊢
  replace N : News h₀ L s.heap ((lh, listOf vs0.toArray n) :: (x, instObj 182 dx) :: (dx, dictOf [⟨hh, .str (PySem.Str.ofString "_headers") tt, .ref lh⟩] 1) :: news) := N
  refine wpAny_call ?_
  (k_dflt (refine' kp_more ?k1 ?k2 ?k3 ?k4 ?k5 ?kA ?kF ?kK ?k6 ?k7 ?k8 ?kX ?kM ?kN ?kD ?kR ?kP ?kT ?kB ?_ ?c2 ?c3 ?c4 ?c5; (case kA => exact rfl); (case kF => exact rfl); (case kK => assumption); (case k1 => k_asm); (case k2 => k_asm); (case k3 => k_asm); (case k4 => k_asm); (case k5 => k_asm); (case k6 => k_is); (case k7 => k_is); (case k8 => ktr_room); (case kX => kp_lit); (case kM => exact rfl); (case kN => exact rfl); (case kD => kp_flats); (case kR => exact rfl); (case kP => exact rfl); (case kT => exact fun _ => rfl); (case kB => exact fun _ => locs rfl); (case c5 => decide); (case c2 => exact rfl); (case c3 => exact rfl); (case c4 => exact rfl); k_whole))
  intro D' o' g' L' h' tk' l1 lo' hs' fs' FG' F' N' B' X' T'
  (try k_lt l1); (try dsimp only); (try k_fold)
  (k_with "call ref" => ((refine' useC ?k1 ?k2 ?k3 ?k4 ?k5 ?kK ?kR ?kd ?ku ?_); (case k1 => k_asm); (case k2 => k_asm); (case k3 => k_asm); (case k4 => k_asm); (case k5 => k_asm); (case kK => first | exact rfl | assumption); (case kR => assumption); (case kd => ktr_room); (case ku => ktr_units); intro h9 tk9 F9 N9; (try dsimp only)))
  (k_with "call builtin:str.join" => (refine PyProof.Rows.join_list (ys := [word]) (News.isList (by k_asm) (by k_mem)) (.cons _ _ .nil) ?hj ?_; (case hj => (have h9' := hword.1; simp only [List.map_cons, List.map_nil, List.sum_cons, List.sum_nil, List.length_cons, List.length_nil, PySem.Str.length]; (have e9 : (PySem.Str.ofString "; ").cps.size = 2 := (by decide)); omega)); intro t9 k9; rw [join_one]; (try dsimp only)))
  k_steps
  unfold Hold
  intro tD htD FtD NtD ltD
  have hOff : OwnOff news [lh, x, dx] := fun p hp b hb => by
    rcases List.mem_cons.mp hb with rfl | hb
    · exact Ne.symm (hon _ (.head _) p hp)
    rcases List.mem_cons.mp hb with rfl | hb
    · exact Ne.symm (hon _ (.tail _ (.head _)) p hp)
    · rw [List.mem_singleton.mp hb]
      exact Ne.symm (hon _ (.tail _ (.tail _ (.head _))) p hp)
  have f1 : @Ne Nat tD lh := Ne.symm (Nat.ne_of_lt (ltD _ (.tail _ (.tail _ (.tail _ (.head _))))))
  have f2 : @Ne Nat tD x := Ne.symm (Nat.ne_of_lt (ltD _ (.tail _ (.tail _ (.tail _ (.tail _ (.head _)))))))
  have f3 : @Ne Nat tD dx := Ne.symm (Nat.ne_of_lt (ltD _ (.tail _ (.tail _ (.tail _ (.tail _ (.tail _ (.head _))))))))
  have f4 : ∀ p ∈ news, p.1 < tD := fun p hp => ltD p (.tail _ (.tail _ (.tail _ (.tail _ (.tail _ (.tail _ hp))))))
  obtain ⟨tw, NtE⟩ : ∃ tw, News g' L' htD ((tD, ({ cls := .type "tuple", data := .seq #[.str name t, .str word tw] 0 } : Obj)) :: (lh, listOf vs0.toArray n) :: (x, instObj 182 dx) :: (dx, dictOf [⟨hh, .str (PySem.Str.ofString "_headers") tt, .ref lh⟩] 1) :: news) := ⟨_, fun p hp => NtD p (by
    rcases List.mem_cons.mp hp with rfl | hp
    · exact .head _
    · exact .tail _ (.tail _ (.tail _ (.tail _ hp))))⟩
  clear ltD NtD
  (k_with "call builtin:list.append" => (refine' append_K ?k1 ?k2 ?k3 ?_ ?z; (case k1 => k_asm); (case k2 => k_asm); (case k3 => k_upd); (case z => (rw [sizeLine_eq, List.size_toArray]; omega)); k_whole; intro h' F' N'; (try k_sweep)))
  k_steps
  rename News h₀ L _ _ => N8
  refine hret _ [(lh, listOf (List.toArray (vs0 ++ [Value.ref tD])) (n + 1)), (x, instObj 182 dx), (dx, dictOf [⟨hh, .str (PySem.Str.ofString "_headers") tt, .ref lh⟩] 1), (tD, ({ cls := .type "tuple", data := .seq #[.str name t, .str word tw] 0 } : Obj))] _ _ (by assumption) (fun p hp => N8 p ?_) ?_ ⟨rfl, [_, _, _], tD, _, _, _, rfl, ⟨dx, lh, _, hh, tt, rfl, hxl, hdl, hdx⟩, ?_⟩
  · rcases List.mem_append.mp hp with hp | hp
    · rcases List.mem_cons.mp hp with rfl | hp
      · rw [← List.push_toArray]
        exact .tail _ (.head _)
      rcases List.mem_cons.mp hp with rfl | hp
      · exact .tail _ (.tail _ (.head _))
      rcases List.mem_cons.mp hp with rfl | hp
      · exact .tail _ (.tail _ (.tail _ (.head _)))
      · rw [List.mem_singleton.mp hp]
        exact .head _
    · exact .tail _ (.tail _ (.tail _ (.tail _ hp)))
  · intro q hq p hp
    rcases List.mem_cons.mp hq with rfl | hq
    · exact hon _ (.head _) p hp
    rcases List.mem_cons.mp hq with rfl | hq
    · exact hon _ (.tail _ (.head _)) p hp
    rcases List.mem_cons.mp hq with rfl | hq
    · exact hon _ (.tail _ (.tail _ (.head _))) p hp
    · rw [List.mem_singleton.mp hq]
      exact Ne.symm (Nat.ne_of_lt (f4 p hp))
  · intro q hq
    rcases List.mem_cons.mp hq with rfl | hq
    · exact Ne.symm f1
    rcases List.mem_cons.mp hq with rfl | hq
    · exact Ne.symm f2
    · rw [List.mem_singleton.mp hq]; exact Ne.symm f3
end Mine
end

-- LB
section
open PySem PySem.W PySem.Spec PySem.Calls PyProof.Rows PyProof.Rows.LCg
namespace Mine
section
variable {prog : Program} {w : World} {A : Around} {E : Value → Shared → Prop} {s : Shared} {h₀ : Heap} {L : Addr} {m : PySem.Str → Option Value} {env : Env}
/-- a comprehension's source: bytes -/
def SrcB (prog : Program) (w : World) (A : Around) (h₀ : Heap) (L : Addr) (m : PySem.Str → Option Value) (env : Env) (elt : PySem.Expr) (x : PySem.Str) (scope : Scope) (cl : List (PySem.Str × Addr)) (Fin : Shared → List Value → List (Addr × Obj) → Prop) (xv : Value) (s₁ : Shared) : Prop :=
  ∃ (b : Array UInt8) (t : Tok) (news : List (Addr × Obj)), xv = .bytes b t ∧ A.handled = none ∧ Fr h₀ L s₁.heap m ∧ News h₀ L s₁.heap news ∧ b.size ≤ sizeLine ∧
    ∀ s₂ : Shared, (∃ h, s₂ = { s₁ with heap := h }) → CompRest prog w A h₀ L m env elt x scope cl s₂ (fun _ => True) (fun i v => ∃ c u, b[i]? = some c ∧ v = .int (c.toNat : Int) u) (Fin s₂) b.size 0 [] news
theorem bytes_st {I : Addr} {b : Array UInt8} {t : Tok} : ∀ i (h h' : Heap) (o : Obj) (nw : List (Addr × Obj)), KBw.IsBytesIter h I b t i → h.get? I = some o → h'.get? I = some o → (∀ b o, h₀.get? b = some o → h'.get? b = some o) → News h₀ L h' nw → True → KBw.IsBytesIter h' I b t i :=
  fun i h h' o nw st e e' _ _ _ => by
    obtain ⟨o', q, r⟩ := st
    rw [e] at q; cases q
    exact ⟨o, e', r⟩
theorem ListComp_B {elt iter : PySem.Expr} {x : PySem.Str} {px : Pos} {scope : Scope} {cl : List (PySem.Str × Addr)} {pos : Pos} {Q : Value → Shared → Prop} (_F₀ : Fr h₀ L s.heap m)
    (hclos : closureFor scope env = pure cl) (hcell : ∀ y ∈ scope.names, y.2 ≠ .cell) (hkind : scope.kind = .function)
    (hnames : ∀ y ∈ scope.names, y.2 = .local → scope.names.lookup y.1 = some .local) (hx : scope.names.lookup x = some .local)
    (h : wpAny (model prog w) A (eval iter env) (SrcB prog w A h₀ L m env elt x scope cl (fun s₂ => FinE h₀ L m s₂ Q)) E s)
    (hs : ∀ x, foldedSetIterable iter env x = pure x := by intro _; rfl) :
    wpAny (model prog w) A (eval (.ListComp elt [⟨.Name x px, iter, [], 0⟩] scope pos) env) Q E s := by
  rw [eval_ListComp]
  refine wpAny_comprehension_free (use := none) rfl hs hclos hkind hnames (wpAny_mono h (fun xv s₁ h₁ => ?_) fun _ _ e => e)
  obtain ⟨b, t, news, rfl, hh, F, N, hsz, R⟩ := h₁
  refine KBw.pyIter_bytes ?_
  refine block_U (KBw.walks hh s₁.heap.objs.size b t) hsz (fun i h st => by obtain ⟨o, e, _⟩ := st; exact ⟨o, e⟩) bytes_st hcell hkind hx ⟨_, Heap.get?_push_size _ rfl, rfl, rfl⟩ (fun b hb => ?_)
    (F.keeps fun _ _ e => Heap.get?_push_of_some _ e) (N.grown fun _ _ e => Heap.get?_push_of_some _ e) (Nat.ne_of_lt F.ns.lt) (next_is_new F) (fun p hp => Nat.ne_of_lt (Heap.lt_size (N p hp).1)) trivial (R _ ⟨_, rfl⟩) ?_
  · rw [List.mem_singleton.mp hb]
    show s₁.heap.objs.size < (s₁.heap.push _).objs.size
    rw [Heap.size_push]; exact Nat.lt_succ_self _
  · intro D C h tk m' ys news' F' N' o1 hn hC₀ hD₀ hCL hDL hCD offC fin
    refine ⟨m', hn, fun h'' hs'' => fin D h'' tk (F'.change hs'' hCL hC₀) (fun p hp => ?_) o1⟩
    refine ⟨hs''.extBut _ _ ?_ (N' p hp).1, (N' p hp).2⟩
    rcases List.mem_cons.mp hp with rfl | hp
    · exact Ne.symm hCD
    · exact offC p hp
end
end Mine
end

-- W3
section
open PySem PySem.W PySem.Spec PySem.Calls PyProof.Rows PyProof.Rows.LCg
namespace Mine
def numOf (ws : List Nat) : Nat := ws.foldl (fun n x => n * 16 + x) 0
theorem numOf_snoc (ws : List Nat) (x : Nat) : numOf (ws ++ [x]) = numOf ws * 16 + x := by unfold numOf; rw [List.foldl_append]; rfl
theorem numOf_lt (ws : List Nat) (h : ∀ x ∈ ws, x < 16) : numOf ws < 16 ^ ws.length := by
  have g : ∀ (ws : List Nat) (n : Nat), (∀ x ∈ ws, x < 16) → ws.foldl (fun n x => n * 16 + x) n < (n + 1) * 16 ^ ws.length := by
    intro ws
    induction ws with
    | nil => intro n _; simp
    | cons x r ih =>
      intro n h
      have h1 := ih (n * 16 + x) fun y hy => h y (.tail _ hy)
      have h2 := h x (.head _)
      rw [List.foldl_cons, List.length_cons, Nat.pow_succ]
      refine Nat.lt_of_lt_of_le h1 ?_
      rw [Nat.mul_comm (16 ^ r.length) 16, ← Nat.mul_assoc]
      exact Nat.mul_le_mul_right _ (by omega)
  have := g ws 0 h
  rwa [Nat.zero_add, Nat.one_mul] at this
theorem numOf_room {ws : List Nat} (h : ∀ x ∈ ws, x < 16) (hl : ws.length ≤ 5) : numOf ws < 1048576 := by
  refine Nat.lt_of_lt_of_le (numOf_lt ws h) ?_
  exact Nat.le_trans (Nat.pow_le_pow_right (by decide) hl) (by decide)
theorem or_low (n x : Nat) (hx : x < 16) : n * 2 ^ 4 ||| x = n * 16 + x := by
  rw [← Nat.shiftLeft_eq, ← Nat.shiftLeft_add_eq_or_of_lt (by exact hx), Nat.shiftLeft_eq]
theorem snoc_ind {α : Type} {P : List α → Prop} (h0 : P []) (h1 : ∀ l x, P l → P (l ++ [x])) (l : List α) : P l := by
  have : ∀ r : List α, P r.reverse := by
    intro r
    induction r with
    | nil => exact h0
    | cons x r ih => rw [List.reverse_cons]; exact h1 _ _ ih
  have := this l.reverse
  rwa [List.reverse_reverse] at this
/-- the letters of a word's number are the word -/
theorem apL_num : ∀ ws : List Nat, (∀ x ∈ ws, x < 16) → (∀ x ∈ ws, 1 ≤ x) → ws.length ≤ 5 → apL 5 (numOf ws) = ws.map fun x => (65 + x).toUInt8 := by
  intro ws
  induction ws using snoc_ind with
  | h0 => intro _ _ _; rfl
  | h1 ws x ih =>
    intro h1 h2 h3
    have hx := h1 x (List.mem_append.mpr (.inr (.head _)))
    have hx1 := h2 x (List.mem_append.mpr (.inr (.head _)))
    rw [List.length_append, List.length_singleton] at h3
    have hr := numOf_room h1 (by rw [List.length_append, List.length_singleton]; exact h3)
    rw [numOf_snoc] at hr ⊢
    rw [apL_step (by omega) hr, show (numOf ws * 16 + x) / 16 = numOf ws by omega, show (numOf ws * 16 + x) % 16 = x by omega,
      ih (fun y hy => h1 y (List.mem_append.mpr (.inl hy))) (fun y hy => h2 y (List.mem_append.mpr (.inl hy))) (by omega), List.map_append]
    rfl
theorem byte_fin : ∀ k : Fin 16, ((65 + k.val).toUInt8).toNat = 65 + k.val := by decide +kernel
theorem byte_nat {k : Nat} (h : k < 16) : ((65 + k).toUInt8).toNat = 65 + k := byte_fin ⟨k, h⟩
theorem join_txt (ws : List Nat) : Txt.join (PySem.Str.ofString "") (ws.map fun x => (⟨#[65 + x]⟩ : PySem.Str)) = txt ws := by
  show Builtin.Str.glued _ _ = _
  rw [StrLaws.glued_eq_join]
  induction ws with
  | nil => rfl
  | cons x r ih =>
    cases r with
    | nil => rfl
    | cons y r =>
      show PySem.Str.append (PySem.Str.append _ _) (PySem.Str.join _ _) = _
      rw [show PySem.Str.join (PySem.Str.ofString "") (List.map (fun x => (⟨#[65 + x]⟩ : PySem.Str)) (y :: r)) = txt (y :: r) from ih]
      have e : PySem.Str.append (PySem.Str.append (⟨#[65 + x]⟩ : PySem.Str) (PySem.Str.ofString "")) (txt (y :: r)) = txt ([x] ++ (y :: r)) := by
        rw [show PySem.Str.ofString "" = (⟨#[]⟩ : PySem.Str) from rfl]
        unfold PySem.Str.append txt
        simp
      rw [e]
      rfl
theorem txt_lettered {ws : List Nat} (h : ∀ x ∈ ws, x < 16) (hl : ws.length ≤ 5) : Lettered (txt ws) := by
  refine ⟨by simpa [txt] using hl, fun c hc => ?_⟩
  have : c ∈ ws.map fun x => 65 + x := hc
  obtain ⟨x, hx, rfl⟩ := List.mem_map.mp this
  have := h x hx
  unfold lettered
  simp only [List.mem_cons, List.not_mem_nil, or_false]
  omega
theorem name_lettered {p : List Nat × Nat} (h : p.2 < 16) : Lettered (nameOf p) := by
  unfold nameOf
  split
  all_goals
    refine ⟨by simp, fun c hc => ?_⟩
    have hc' : c = _ := List.mem_singleton.mp hc
    rw [hc']
    unfold lettered
    simp only [List.mem_cons, List.not_mem_nil, or_false]
    omega
end Mine
end

-- C2
section
open PySem PySem.W PySem.Spec PySem.Calls PyProof.Rows PyProof.Rows.LCg
namespace Mine

def IsPart (p : List Nat × Nat) (v₁ v₂ : Value) : Prop := ∃ t u, v₁ = .int (numOf p.1 : Int) t ∧ v₂ = .int (p.2 : Int) u
def OutTable : Nat → Led → Value → List Nat → Prop := fun _ led r d => ∃ (x dx lh : Addr) (n : Nat) (hh : Int) (t : Tok) (vs : List Value), r = .ref x ∧ (lh, listOf vs.toArray n) ∈ led ∧ (x, instObj 182 dx) ∈ led ∧ (dx, dictOf [⟨hh, .str (PySem.Str.ofString "_headers") t, .ref lh⟩] 1) ∈ led ∧ PairAre IsHead led vs (wordsOf d)
def RelTab : Nat → Led → List Value → List Nat → Prop := fun tk led vs d => RelLet tk led vs d ∧ ∀ x ∈ d, 1 ≤ x
local macro_rules | `(tactic| walk_at "exec For Name Name cons nil") => `(tactic| ((rename Fr _ _ _ _ => lF'); (with_unfolding_all refine' For_turns lF' ?_; k_whole)))
local macro_rules | `(tactic| walk_at "pyIter ref") => `(tactic| (refine Hold.out ?_))
local macro_rules | `(tactic| walk_at "SrcLP") => `(tactic| (refine Hold.out ?_))
local macro_rules | `(tactic| walk_at "eval Name") => `(tactic| k_extra "free name")
local macro_rules | `(tactic| walk_at "newTuple") => `(tactic| (k_here; k_dflt (refine' kup_newTuple ?F ?N ?_ ?z; (case F => k_asm); (case N => k_asm); (case z => kmk_size)); refine Hold.out ?_))
local macro_rules | `(tactic| walk_at "newList") => `(tactic| (k_here; k_dflt (refine' newList_K ?k1 ?k2 ?_; (case k1 => k_asm); (case k2 => k_asm); k_whole); refine Hold.out ?_))
local macro_rules | `(tactic| walk_at "binaryOp Add ref ref") => `(tactic| (refine Hold.out ?_))
local macro_rules | `(tactic| walk_at "call builtin:chr") => `(tactic| k_extra "my chr")
local macro_rules | `(tactic| walk_at "exec For Tuple Name cons nil") => `(tactic| ((rename Fr _ _ _ _ => lF'); (with_unfolding_all refine' For_turns lF' ?_; k_whole)))
local macro_rules | `(tactic| walk_at "eval ListComp") => `(tactic| (k_here; (with_reducible show wpAny _ _ (eval (PySem.Expr.ListComp _ [⟨PySem.Expr.Name _ _, _, _, _⟩] _ _) _) _ _ _); k_dflt (refine ListComp_B (_F₀ := by k_asm) (by with_unfolding_all rfl) (by decide) (by rfl) (by decide) (by rfl) ?_)))
theorem table_tells : Tell1 20 268 RelTab OutTable := by
  k_with_none
  w_top off
  unfold Tell1
  k_fill
  intro w loose mean mg mb xs dp un gd cn cs a ccd cl outer A₀ base h₀ L m news s vs Q E B F X N T hk hR hd hu hret
  obtain ⟨⟨l, n, us, rfl, hl, hi, hlen⟩, hone⟩ := hR
  refine wpAny_call ?_
  (k_dflt (refine' code_defC ?k1 ?k2 ?k3 ?k4 ?k5 ?kA ?kF ?kK ?k6 ?k7 ?k8 ?k9 ?kB ?kD ?_ ?c2 ?c3 ?c4; (case kA => exact rfl); (case kF => exact rfl); (case kK => assumption); (case k1 => k_asm); (case k2 => k_asm); (case k3 => k_asm); (case k4 => k_asm); (case k5 => k_asm); (case k6 => k_is); (case k7 => k_is); (case k8 => ktr_room); (case k9 => exact BindsTo.of_eq rfl); (case kB => exact rfl); (case kD => decide +kernel); (case c2 => exact rfl); (case c3 => exact rfl); (case c4 => exact rfl); k_whole))
  intro g' L' h' tk' cells' FG' F' N' Y' B' X' T' l1
  k_cells Y'
  rename_i oL0 dL0
  replace dL0 : ∃ z, oL0.data = Data.cell z := ⟨_, dL0⟩
  obtain ⟨zL0, dL0⟩ := dL0
  (try simp only [List.cons_append, List.nil_append] at N')
  (try dsimp only)
  (try k_fold)
  have hOff : OwnOff news [L' + 1] := fun p hp b hb => by
    have hlt := l1 p hp
    rw [List.mem_singleton.mp hb]
    exact Nat.ne_of_lt (Nat.lt_succ_of_lt hlt)
  k_steps
  unfold Hold
  intro D hD FD ND ltD
  k_steps
  unfold Hold
  intro lD hlD FlD NlD ltlD
  k_steps
  unfold Hold
  rename Fr _ _ _ _ => F0
  rename News _ _ _ _ => N1
  obtain ⟨mm, F1, hmD⟩ : ∃ mm, Fr g' L' _ mm ∧ mm (Str.ofString "parts") = some (.ref lD) := ⟨_, F0, by rfl⟩
  clear F0
  replace N1 : News g' L' _ ((L' + 1, oL0) :: (lD, listOf #[Value.ref D] 0) :: (D, ({ cls := .type "tuple", data := .seq #[.int ((numOf [] : Nat) : Int) (tk'), .int ((0 : Nat) : Int) (tk' + 1)] } : Obj)) :: news) := fun p hp => N1 p (by
    simp only [List.mem_cons] at hp ⊢
    rcases hp with h | h | h | h
    · exact .inr (.inr (.inl h))
    · exact .inl h
    · exact .inr (.inl h)
    · exact .inr (.inr (.inr h)))
  refine iterL (vs := us) (n := n) (fun i m nx => ∃ (tl : Led) (oL : Obj) (z : Option Value) (D : Addr) (vs' : List Value) (n' : Nat), nx = (L' + 1, oL) :: tl ∧ oL.data = .cell z ∧ (∀ p ∈ news, p ∈ tl) ∧ OwnOff tl [L' + 1] ∧
      (D, listOf vs'.toArray n') ∈ tl ∧ m (Str.ofString "parts") = some (.ref D) ∧ PairAre IsPart tl vs' (wordsOf (xs.take i))) ?hh F1 N1 ?hm ?hj ?_ ?_
  case hh => rfl
  case hm => exact .tail _ (.tail _ (.tail _ hl))
  case hj => exact ⟨_, oL0, zL0, lD, [.ref D], _, rfl, dL0, fun p hp => .tail _ (.tail _ hp), by
      intro p hp b hb
      rw [List.mem_singleton.mp hb]
      rcases List.mem_cons.mp hp with rfl | hp
      · exact Ne.symm (Nat.ne_of_lt (ltlD _ (.tail _ (.head _))))
      rcases List.mem_cons.mp hp with rfl | hp
      · exact Ne.symm (Nat.ne_of_lt (ltD _ (.head _)))
      · exact hOff p hp _ (.head _), .head _, hmD, .cons (.tail _ (.head _)) ⟨_, _, rfl, rfl⟩ .nil⟩
  · clear F1 N1
    rintro I hI i v m₁ nx oI h tk hv hmem hoff ⟨tl, oL, z, D, vs', n', rfl, hz, hsub, hOt, hDm, h1, hw⟩ F' N'
    obtain ⟨x', tx, rfl, hx'⟩ := ints_get hi.1 hv
    obtain ⟨x, hxs, rfl⟩ : ∃ x : Nat, xs[i]? = some x ∧ (x : Int) = x' := by
      rw [List.getElem?_map] at hx'
      cases e : xs[i]? with
      | none => rw [e] at hx'; cases hx'
      | some x => rw [e] at hx'; exact ⟨x, rfl, Option.some.inj hx'⟩
    have hx16 : x < 16 := hi.2 x (List.mem_of_getElem? hxs)
    have F9 := pin1 F' h1
    clear F'
    have hI1 : @Ne Nat (L' + 1) I := hoff _ (.head _)
    k_steps
    unfold Hold
    rename Fr _ _ _ _ => F8
    rename News _ _ _ _ => N8
    rename Obj => oL2
    rename (Obj.data oL2 = _) => dL2
    have hlv : vs'.length ≤ 32 := by
      rw [hw.length, wordsOf_length]
      have h2 : (xs.take i).length ≤ 5 := by rw [List.length_take]; omega
      have h3 : 2 ^ (xs.take i).length ≤ 2 ^ 5 := Nat.pow_le_pow_right (by decide) h2
      omega
    have hfit := wordsOf_fit (xs.take i) (fun y hy => hi.2 y (List.mem_of_mem_take hy))
    refine LCp.SrcLP.ledger (its := vs'.toArray) (by rfl) F8 N8 (.tail _ (.tail _ hDm)) (by rw [List.size_toArray, sizeLine_eq]; omega) fun gg => ?_
    refine restP (n := vs'.toArray.size) (fun j ys nw => ∃ nn, nw = nn ++ ((I, oI) :: (L' + 1, oL2) :: tl) ∧ (∀ p ∈ nn, ∀ q ∈ (I, oI) :: (L' + 1, oL2) :: tl, q.1 ≠ p.1) ∧ PairAre IsPart nn ys (((wordsOf (xs.take i)).take j).map fun (p : List Nat × Nat) => (p.1 ++ [x], p.2 ^^^ x))) ?turn ?fin _ 0 [] _ (by rw [Nat.zero_add]) ⟨[], rfl, fun _ h => (nomatch h), .nil⟩
    case turn =>
      rintro j ys nw v hj ⟨nn, rfl, hnn, hys⟩ hP
      obtain ⟨ta, nt, _, _, p, rfl, hp, ⟨tt, tu, rfl, rfl⟩, hpm⟩ := hw.get (i := j) (v := v) (by simpa using hP)
      refine ⟨ta, _, _, _, nt, rfl, List.mem_append.mpr (.inr (.tail _ (.tail _ hpm))), rfl, rfl, ?_⟩
      intro I2 oI2 C oC D2 m₂ h2 tk2 E' hC hx1 hx2 F9 N9 hof hne
      obtain ⟨hpt, hpl, hpy⟩ := hfit p (List.mem_of_getElem? hp)
      have hpl5 : p.1.length ≤ 5 := by
        have h2 : (xs.take i).length ≤ 5 := by rw [List.length_take]; omega
        omega
      have hnum : numOf p.1 < 1048576 := numOf_room (fun y hy => hi.2 y (List.mem_of_mem_take (hpy y hy))) hpl5
      have hmL : (L' + 1, oL2) ∈ (I2, oI2) :: (C, oC) :: (D2, lst ys) :: (nn ++ (I, oI) :: (L' + 1, oL2) :: tl) := .tail _ (.tail _ (.tail _ (List.mem_append.mpr (.inr (.tail _ (.head _))))))
      (k_with "free name" => (with_unfolding_all refine' lcf_free (c := L' + 1) (o := oL2) N9 ?c hmL dL2 ?_ ?a ?b; (case c => rfl); (case a => rfl); (case b => rfl)))
      (k_with "call ref" => (first | ((refine' use0 lshift_tells (d := (numOf p.1, 4)) ?k1 ?k2 ?k3 ?k4 ?k5 ?kK ?kR ?kd ?ku ?_); (case k1 => k_asm); (case k2 => k_asm); (case k3 => k_asm); (case k4 => k_asm); (case k5 => k_asm); (case kK => first | exact rfl | assumption); (case kR => exact ⟨⟨_, _, _, _, rfl, rfl, rfl⟩, hnum, (by show 4 ≤ 10; decide)⟩); (case kd => ktr_room); (case ku => ktr_units); intro r9 h9 tk9 ht9 F9 N9 o9; (obtain ⟨t9, rfl⟩ := o9); (try dsimp only)) | ((refine' use0 or_tells (d := (numOf p.1 * 2 ^ 4, x)) ?k1 ?k2 ?k3 ?k4 ?k5 ?kK ?kR ?kd ?ku ?_); (case k1 => k_asm); (case k2 => k_asm); (case k3 => k_asm); (case k4 => k_asm); (case k5 => k_asm); (case kK => first | exact rfl | assumption); (case kR => exact ⟨⟨_, _, _, _, rfl, rfl, rfl⟩, trivial⟩); (case kd => ktr_room); (case ku => ktr_units); intro r9 h9 tk9 ht9 F9 N9 o9; (obtain ⟨t9, rfl⟩ := o9); (try dsimp only)) | ((refine' use0 xor_tells (d := (p.2, x)) ?k1 ?k2 ?k3 ?k4 ?k5 ?kK ?kR ?kd ?ku ?_); (case k1 => k_asm); (case k2 => k_asm); (case k3 => k_asm); (case k4 => k_asm); (case k5 => k_asm); (case kK => first | exact rfl | assumption); (case kR => exact ⟨⟨_, _, _, _, rfl, rfl, rfl⟩, hpt, hx16⟩); (case kd => ktr_room); (case ku => ktr_units); intro r9 h9 tk9 ht9 F9 N9 o9; (obtain ⟨t9, rfl⟩ := o9); (try dsimp only))))
      k_steps
      unfold Hold
      intro Dt hDt FDt NDt ltDt
      rw [or_low _ _ hx16] at NDt
      refine CompEnd.tup (K := IsPart) (p := (p.1 ++ [x], p.2 ^^^ x)) FDt NDt ltDt hof hnn hys ⟨_, _, by rw [numOf_snoc], rfl⟩ (fun nw hq => .inr ⟨_, hq _ (.tail _ (.tail _ hDm)), rfl, _, rfl⟩) fun nn' h1 h2 => ⟨nn', rfl, h1, ?_⟩
      rw [List.take_add_one, hp, List.map_append]
      exact h2
    case fin =>
      rintro ys nw ⟨nn, rfl, hnn, hys⟩
      intro D3 h3 tk3 F3 N3 o3
      refine kmk_add_lit F3 N3 (News.isList N3 (.tail _ (List.mem_append.mpr (.inr (.tail _ (.tail _ hDm)))))) (News.isList N3 (.head _)) rfl ?_ ?hz
      case hz =>
        have e1 : ys.length ≤ 32 := by
          rw [hys.length, List.length_map, List.length_take, List.size_toArray]
          omega
        show vs'.length + ys.length ≤ sizeLine
        rw [sizeLine_eq]
        omega
      intro D4 h4 F4 N4 lt4
      k_steps
      rename Fr _ _ _ _ => F5
      rename News _ _ _ _ => N5
      have mI : (I, oI) ∈ (D3, lst ys) :: (nn ++ (I, oI) :: (L' + 1, oL2) :: tl) := .tail _ (List.mem_append.mpr (.inr (.head _)))
      have mL : (L' + 1, oL2) ∈ (D3, lst ys) :: (nn ++ (I, oI) :: (L' + 1, oL2) :: tl) := .tail _ (List.mem_append.mpr (.inr (.tail _ (.head _))))
      have mT : ∀ p ∈ tl, p ∈ (D3, lst ys) :: (nn ++ (I, oI) :: (L' + 1, oL2) :: tl) := fun p hp => .tail _ (List.mem_append.mpr (.inr (.tail _ (.tail _ hp))))
      have mN : ∀ p ∈ nn, p ∈ (D3, lst ys) :: (nn ++ (I, oI) :: (L' + 1, oL2) :: tl) := fun p hp => .tail _ (List.mem_append.mpr (.inl hp))
      refine TPost.next F5 N5 ((L' + 1, oL2) :: (D4, listOf (vs' ++ ys).toArray 0) :: (nn ++ tl)) ?sub ?off ⟨?hl, _, oL2, _, D4, vs' ++ ys, 0, rfl, dL2, ?hs, ?ho, .head _, by rfl, ?hw⟩
      case sub =>
        intro p hp
        rcases List.mem_cons.mp hp with rfl | hp
        · exact .tail _ mI
        rcases List.mem_cons.mp hp with rfl | hp
        · exact .tail _ mL
        rcases List.mem_cons.mp hp with rfl | hp
        · exact .head _
        rcases List.mem_append.mp hp with hp | hp
        · exact .tail _ (mN p hp)
        · exact .tail _ (mT p hp)
      case off =>
        intro p hp
        rcases List.mem_cons.mp hp with rfl | hp
        · exact hI1
        rcases List.mem_cons.mp hp with rfl | hp
        · exact Ne.symm (Nat.ne_of_lt (lt4 _ mI))
        rcases List.mem_append.mp hp with hp | hp
        · exact Ne.symm (hnn p hp _ (.head _))
        · exact hoff p (.tail _ hp)
      case hl => exact .tail _ (.tail _ (List.mem_append.mpr (.inr (hsub _ hl))))
      case hs => exact fun p hp => .tail _ (List.mem_append.mpr (.inr (hsub p hp)))
      case ho =>
        intro p hp b hb
        rw [List.mem_singleton.mp hb]
        rcases List.mem_cons.mp hp with rfl | hp
        · exact Ne.symm (Nat.ne_of_lt (lt4 _ mL))
        rcases List.mem_append.mp hp with hp | hp
        · exact Ne.symm (hnn p hp _ (.tail _ (.head _)))
        · exact hOt p hp _ (.head _)
      case hw =>
        rw [List.take_add_one, hxs]
        show PairAre _ _ _ (wordsOf (xs.take i ++ [x]))
        rw [wordsOf_snoc]
        refine (hw.mono fun p hp => .tail _ (List.mem_append.mpr (.inr hp))).append ?_
        have := hys.mono (news' := (D4, listOf (vs' ++ ys).toArray 0) :: (nn ++ tl)) fun p hp => .tail _ (List.mem_append.mpr (.inl hp))
        rw [List.size_toArray, hw.length, List.take_length] at this
        exact this
  · clear F1 N1
    rintro m₁ nx h tk hmem ⟨tl, oL, z, D, vs', n', rfl, hz, hsub, hOt, hDm, h1, hw⟩ F' N'
    have F9 := pin1 F' h1
    clear F'
    have hlv : vs'.length ≤ 32 := by
      rw [hw.length, wordsOf_length]
      have h2 : (xs.take us.length).length ≤ 5 := by rw [List.length_take]; omega
      have h3 : 2 ^ (xs.take us.length).length ≤ 2 ^ 5 := Nat.pow_le_pow_right (by decide) h2
      omega
    have hul : us.length = xs.length := by have := hi.1.length; rwa [List.length_map] at this
    rw [hul, List.take_length] at hw
    have hfit := wordsOf_fit xs hi.2
    have hDb : (D, listOf vs'.toArray n') ∈ (L' + 1, oL) :: tl := .tail _ hDm
    have hwb : PairAre IsPart ((L' + 1, oL) :: tl) vs' (wordsOf xs) := hw.mono fun p hp => .tail _ hp
    have hsb : ∀ p ∈ news, p ∈ (L' + 1, oL) :: tl := fun p hp => .tail _ (hsub p hp)
    clear hw hDm hsub hOt hz
    generalize hbase : (L' + 1, oL) :: tl = bs at *
    (k_with "call ref" => ((refine' use2 headers_tells (own := []) (d := ()) ?k1 ?k2 ?k3 ?k4 ?kO ?k5 ?kK ?kR ?kd ?ku ?_); (case k1 => k_asm); (case k2 => k_asm); (case k3 => k_asm); (case k4 => k_asm); (case kO => exact fun _ h => (nomatch h)); (case k5 => k_asm); (case kK => first | exact rfl | assumption); (case kR => exact ⟨rfl, rfl⟩); (case kd => ktr_room); (case ku => ktr_units); intro r9 own9 h9 tk9 ht9 F9 N9 hO9 o9; (obtain ⟨x9, rfl, hx9⟩ := o9); (try dsimp only)))
    k_steps
    unfold Hold
    rename Fr _ _ _ _ => F8
    rename News _ _ _ _ => N8
    obtain ⟨m8, F8', hm8⟩ : ∃ z, Fr g' L' _ z ∧ z (Str.ofString "table") = some (.ref x9) := ⟨_, F8, by rfl⟩
    refine iterL (vs := vs') (n := n') (fun j m nx => ∃ (own nn : Led) (vsH : List Value), nx = own ++ (nn ++ bs) ∧ IsTable own x9 vsH ∧ (∀ q ∈ own, ∀ p ∈ nn ++ bs, q.1 ≠ p.1) ∧ (∀ q ∈ bs, ∀ p ∈ nn, q.1 ≠ p.1) ∧ PairAre IsHead nn vsH ((wordsOf xs).take j) ∧ m (Str.ofString "table") = some (.ref x9)) ?hh F8' N8 ?hm ?hj ?_ ?_
    case hh => rfl
    case hm => exact List.mem_append.mpr (.inr hDb)
    case hj => exact ⟨own9, [], [], rfl, hx9, hO9, fun _ _ _ h => (nomatch h), .nil, hm8⟩
    · clear F8 F8' N8 hx9 hO9 hm8
      rintro I hI j v m₁ nx oI h tk hv hmem2 hoff ⟨own, nn, vsH, rfl, ⟨dx, lh, nh, hh, tt, rfl, hxl, hdl, hdx⟩, hon, hnn, hH, h1⟩ F' N'
      obtain ⟨ta, nt, _, _, p, rfl, hp, ⟨tt1, tu1, rfl, rfl⟩, hpm⟩ := hwb.get hv
      have F9 := pin1 F' h1
      clear F'
      have hT2 : IsTup h ta #[.int (numOf p.1 : Int) tt1, .int (p.2 : Int) tu1] := News.isTup N' (.tail _ (List.mem_append.mpr (.inr (List.mem_append.mpr (.inr hpm)))))
      obtain ⟨hpt, hpl, hpy⟩ := hfit p (List.mem_of_getElem? hp)
      have hpl5 : p.1.length ≤ 5 := by omega
      have hnum : numOf p.1 < 1048576 := numOf_room (fun y hy => hi.2 y (hpy y hy)) hpl5
      have hjoin : ((p.1.map fun x => (⟨#[65 + x]⟩ : PySem.Str)).map (·.length)).sum + (p.1.map fun x => (⟨#[65 + x]⟩ : PySem.Str)).length * (PySem.Str.ofString "").length ≤ 16777216 := by
        rw [List.map_map, List.length_map, show (PySem.Str.ofString "").length = 0 from rfl, Nat.mul_zero, Nat.add_zero]
        have e : ∀ l : List Nat, (l.map (PySem.Str.length ∘ fun x => (⟨#[65 + x]⟩ : PySem.Str))).sum = l.length := by
          intro l
          induction l with
          | nil => rfl
          | cons a r ih => rw [List.map_cons, List.sum_cons, ih, List.length_cons]; show 1 + r.length = _; omega
        rw [e]
        omega
      (k_with "call ref" => (first | ((refine' use0 ap_tells (d := numOf p.1) ?k1 ?k2 ?k3 ?k4 ?k5 ?kK ?kR ?kd ?ku ?_); (case k1 => k_asm); (case k2 => k_asm); (case k3 => k_asm); (case k4 => k_asm); (case k5 => k_asm); (case kK => first | exact rfl | assumption); (case kR => exact ⟨⟨_, rfl⟩, hnum⟩); (case kd => ktr_room); (case ku => ktr_units); intro r9 h9 tk9 ht9 F9 N9 o9; (obtain ⟨t9, rfl⟩ := o9); (try dsimp only))))
      k_steps
      rename Fr _ _ _ _ => F10
      rename News _ _ _ _ => N10
      rw [apL_num p.1 (fun y hy => hi.2 y (hpy y hy)) (fun y hy => hone y (hpy y hy)) hpl5]
      refine ⟨_, _, _, rfl, rfl, F10, N10, by rw [List.size_toArray, List.length_map, sizeLine_eq]; omega, fun s₂ hs₂ => ?_⟩
      obtain ⟨gg, rfl⟩ := hs₂
      refine restU (n := (List.toArray (p.1.map fun x => (65 + x).toUInt8)).size) (fun j ys nw => nw = _ ∧ StrsAre ys ((p.1.take j).map fun x => (⟨#[65 + x]⟩ : PySem.Str))) ?turn ?fin _ 0 [] _ (by rw [Nat.zero_add]) ⟨rfl, .nil⟩
      case turn =>
        rintro j2 ys nw v I2 oI2 C oC D2 m₂ h2 tk2 E' hj2 ⟨rfl, hys⟩ ⟨c, u2, hc, rfl⟩ hC hx1 F11 N11 hof hne
        obtain ⟨x, hxs, rfl⟩ : ∃ x, p.1[j2]? = some x ∧ c = (65 + x).toUInt8 := by
          rw [List.getElem?_toArray, List.getElem?_map] at hc
          cases e : p.1[j2]? with
          | none => rw [e] at hc; cases hc
          | some x => rw [e] at hc; exact ⟨x, rfl, (Option.some.inj hc).symm⟩
        have hx16 : x < 16 := hi.2 x (hpy x (List.mem_of_getElem? hxs))
        rw [byte_nat hx16] at hx1
        (k_with "my chr" => (refine PyProof.Rows.chr_of_range (by omega) (by omega) ?_))
        k_steps
        refine CompEnd.intro F11 N11 _ (fun p hp => hp) hof trivial ⟨rfl, ?_⟩
        rw [List.take_add_one, hxs, Option.toList_some, List.map_append]
        exact PySem.W.kct_snoc hys
      case fin =>
        rintro ys nw ⟨rfl, hys⟩
        intro D3 h3 tk3 F3 N3 o3
        rw [List.size_toArray, List.length_map, List.take_length] at hys
        (k_with "call builtin:str.join" => (refine PyProof.Rows.join_list (ys := p.1.map fun x => (⟨#[65 + x]⟩ : PySem.Str)) (News.isList N3 (.head _)) hys ?hj ?_; (case hj => exact hjoin); intro t9 k9; rw [join_txt]; (try dsimp only)))
        (k_with "call builtin:len" => (refine P.len_str ?hl1 ?_; (case hl1 => (rw [txt_len]; omega)); (try dsimp only); rw [txt_len]))
        (k_with "call builtin:str.lower" => (refine PySem.W.KXw.lower (lower_txt hpt) ?hl2 ?_; (case hl2 => (rw [lower_txt hpt]; rfl)); intro t' k'; (try dsimp only)))
        (k_with "my chr" => (refine PyProof.Rows.chr_of_range (by omega) (by omega) ?_; rw [show ((p.2 : Int) + 65).toNat = 65 + p.2 by omega, show (⟨#[65 + p.2]⟩ : PySem.Str) = txt [p.2] from rfl]))
        (k_with "call ref" => (first | ((refine' use0 add_tells (d := ((p.2 : Int), 65)) ?k1 ?k2 ?k3 ?k4 ?k5 ?kK ?kR ?kd ?ku ?_); (case k1 => k_asm); (case k2 => k_asm); (case k3 => k_asm); (case k4 => k_asm); (case k5 => k_asm); (case kK => first | exact rfl | assumption); (case kR => exact ⟨⟨_, _, _, _, rfl, rfl, rfl⟩, trivial⟩); (case kd => ktr_room); (case ku => ktr_units); intro r9 h9 tk9 ht9 F9 N9 o9; (obtain ⟨t9, rfl⟩ := o9); (try dsimp only))))
        k_steps
        · rename (Int.fmod _ 2 = 1) => hmod
          have he : ¬ p.1.length % 2 = 0 := by
            have e : Int.fmod (p.1.length : Int) 2 = ((p.1.length % 2 : Nat) : Int) := by rw [Int.fmod_eq_emod_of_nonneg _ (by decide)]; omega
            rw [e] at hmod
            omega
          have hnm : nameOf p = ⟨#[97 + p.2]⟩ := by rw [nameOf, if_neg he]
          rename Fr _ _ _ _ => F12
          rename News _ _ _ _ => N12
          have N13 : News g' L' _ ([(lh, listOf vsH.toArray nh), (x9, instObj 182 dx), (dx, dictOf [⟨hh, .str (PySem.Str.ofString "_headers") tt, .ref lh⟩] 1)] ++ ((I, oI) :: (nn ++ bs))) := fun q hq => N12 q (by
            rcases List.mem_append.mp hq with hq | hq
            · exact .tail _ (.tail _ (List.mem_append.mpr (.inl hq)))
            rcases List.mem_cons.mp hq with rfl | hq
            · exact .tail _ (.head _)
            · exact .tail _ (.tail _ (List.mem_append.mpr (.inr hq))))
          have hO13 : ∀ q ∈ [(lh, listOf vsH.toArray nh), (x9, instObj 182 dx), (dx, dictOf [⟨hh, .str (PySem.Str.ofString "_headers") tt, .ref lh⟩] 1)], ∀ p ∈ (I, oI) :: (nn ++ bs), q.1 ≠ p.1 := fun q hq p hp => by
            rcases List.mem_cons.mp hp with rfl | hp
            · exact hoff q (List.mem_append.mpr (.inl hq))
            · exact hon q hq p hp
          have hvH : vsH.length ≤ 32 := by rw [hH.length, List.length_take]; rw [hwb.length] at hlv; omega
          refine' use2 add_header_tells (d := ⟨x9, vsH, nameOf p, txt p.1⟩) ?k1 ?k2 ?k3 N13 hO13 ?k5 ?kK ?kR ?kd ?ku ?_
          case k1 => k_asm
          case k2 => exact F12
          case k3 => k_asm
          case k5 => k_asm
          case kK => exact rfl
          case kR =>
            refine ⟨?e, ⟨dx, lh, nh, hh, tt, rfl, hxl, hdl, hdx⟩, ?l, name_lettered hpt, txt_lettered (fun y hy => hi.2 y (hpy y hy)) hpl5⟩
            case e =>
              dsimp only
              rw [hnm]
              exact ⟨_, _, rfl⟩
            case l => dsimp only; omega
          case kd => ktr_room
          case ku => ktr_units
          intro r9 own9 h9 tk9 ht9 F13 N14 hO14 o9
          obtain ⟨rfl, own0, a0, n0, t0, u0, rfl, hT0, hsep0⟩ := o9
          k_steps
          refine TPost.next F13 N14 (own0 ++ (((a0, ({ cls := .type "tuple", data := .seq #[.str (nameOf p) t0, .str (txt p.1) u0] n0 } : Obj)) :: nn) ++ bs)) ?sub ?off ⟨?mm, own0, _, vsH ++ [.ref a0], rfl, hT0, ?s1, ?s2, ?pp, by rfl⟩
          case sub =>
            intro q hq
            rcases List.mem_cons.mp hq with rfl | hq
            · exact List.mem_append.mpr (.inr (.head _))
            rcases List.mem_append.mp hq with hq | hq
            · exact List.mem_append.mpr (.inl (List.mem_append.mpr (.inl hq)))
            rcases List.mem_append.mp hq with hq | hq
            · rcases List.mem_cons.mp hq with rfl | hq
              · exact List.mem_append.mpr (.inl (List.mem_append.mpr (.inr (.head _))))
              · exact List.mem_append.mpr (.inr (.tail _ (List.mem_append.mpr (.inl hq))))
            · exact List.mem_append.mpr (.inr (.tail _ (List.mem_append.mpr (.inr hq))))
          case off =>
            intro q hq
            rcases List.mem_append.mp hq with hq | hq
            · exact hO14 q (List.mem_append.mpr (.inl hq)) (I, oI) (.head _)
            rcases List.mem_append.mp hq with hq | hq
            · rcases List.mem_cons.mp hq with rfl | hq
              · exact hO14 _ (List.mem_append.mpr (.inr (.head _))) (I, oI) (.head _)
              · exact hoff q (List.mem_append.mpr (.inr (List.mem_append.mpr (.inl hq))))
            · exact hoff q (List.mem_append.mpr (.inr (List.mem_append.mpr (.inr hq))))
          case mm => exact List.mem_append.mpr (.inr (List.mem_append.mpr (.inr hDb)))
          case s1 =>
            intro q hq r hr
            rcases List.mem_append.mp hr with hr | hr
            · rcases List.mem_cons.mp hr with rfl | hr
              · exact hsep0 q hq
              · exact hO14 q (List.mem_append.mpr (.inl hq)) r (.tail _ (List.mem_append.mpr (.inl hr)))
            · exact hO14 q (List.mem_append.mpr (.inl hq)) r (.tail _ (List.mem_append.mpr (.inr hr)))
          case s2 =>
            intro q hq r hr
            rcases List.mem_cons.mp hr with rfl | hr
            · exact Ne.symm (hO14 _ (List.mem_append.mpr (.inr (.head _))) q (.tail _ (List.mem_append.mpr (.inr hq))))
            · exact hnn q hq r hr
          case pp =>
            rw [List.take_add_one, hp]
            exact (hH.mono fun q hq => .tail _ hq).append (.cons (.head _) ⟨_, _, rfl, rfl⟩ .nil)
        · rename (Int.fmod _ 2 ≠ 1) => hmod
          have he : p.1.length % 2 = 0 := by
            have e : Int.fmod (p.1.length : Int) 2 = ((p.1.length % 2 : Nat) : Int) := by rw [Int.fmod_eq_emod_of_nonneg _ (by decide)]; omega
            rw [e] at hmod
            omega
          have hnm : nameOf p = txt [p.2] := by rw [nameOf, if_pos he]; rfl
          rename Fr _ _ _ _ => F12
          rename News _ _ _ _ => N12
          have N13 : News g' L' _ ([(lh, listOf vsH.toArray nh), (x9, instObj 182 dx), (dx, dictOf [⟨hh, .str (PySem.Str.ofString "_headers") tt, .ref lh⟩] 1)] ++ ((I, oI) :: (nn ++ bs))) := fun q hq => N12 q (by
            rcases List.mem_append.mp hq with hq | hq
            · exact .tail _ (.tail _ (List.mem_append.mpr (.inl hq)))
            rcases List.mem_cons.mp hq with rfl | hq
            · exact .tail _ (.head _)
            · exact .tail _ (.tail _ (List.mem_append.mpr (.inr hq))))
          have hO13 : ∀ q ∈ [(lh, listOf vsH.toArray nh), (x9, instObj 182 dx), (dx, dictOf [⟨hh, .str (PySem.Str.ofString "_headers") tt, .ref lh⟩] 1)], ∀ p ∈ (I, oI) :: (nn ++ bs), q.1 ≠ p.1 := fun q hq p hp => by
            rcases List.mem_cons.mp hp with rfl | hp
            · exact hoff q (List.mem_append.mpr (.inl hq))
            · exact hon q hq p hp
          have hvH : vsH.length ≤ 32 := by rw [hH.length, List.length_take]; rw [hwb.length] at hlv; omega
          refine' use2 add_header_tells (d := ⟨x9, vsH, nameOf p, txt p.1⟩) ?k1 ?k2 ?k3 N13 hO13 ?k5 ?kK ?kR ?kd ?ku ?_
          case k1 => k_asm
          case k2 => exact F12
          case k3 => k_asm
          case k5 => k_asm
          case kK => exact rfl
          case kR =>
            refine ⟨?eb, ⟨dx, lh, nh, hh, tt, rfl, hxl, hdl, hdx⟩, ?lb, name_lettered hpt, txt_lettered (fun y hy => hi.2 y (hpy y hy)) hpl5⟩
            case eb =>
              dsimp only
              rw [hnm]
              exact ⟨_, _, rfl⟩
            case lb => dsimp only; omega
          case kd => ktr_room
          case ku => ktr_units
          intro r9 own9 h9 tk9 ht9 F13 N14 hO14 o9
          obtain ⟨rfl, own0, a0, n0, t0, u0, rfl, hT0, hsep0⟩ := o9
          k_steps
          refine TPost.next F13 N14 (own0 ++ (((a0, ({ cls := .type "tuple", data := .seq #[.str (nameOf p) t0, .str (txt p.1) u0] n0 } : Obj)) :: nn) ++ bs)) ?subb ?offb ⟨?mmb, own0, _, vsH ++ [.ref a0], rfl, hT0, ?s1b, ?s2b, ?ppb, by rfl⟩
          case subb =>
            intro q hq
            rcases List.mem_cons.mp hq with rfl | hq
            · exact List.mem_append.mpr (.inr (.head _))
            rcases List.mem_append.mp hq with hq | hq
            · exact List.mem_append.mpr (.inl (List.mem_append.mpr (.inl hq)))
            rcases List.mem_append.mp hq with hq | hq
            · rcases List.mem_cons.mp hq with rfl | hq
              · exact List.mem_append.mpr (.inl (List.mem_append.mpr (.inr (.head _))))
              · exact List.mem_append.mpr (.inr (.tail _ (List.mem_append.mpr (.inl hq))))
            · exact List.mem_append.mpr (.inr (.tail _ (List.mem_append.mpr (.inr hq))))
          case offb =>
            intro q hq
            rcases List.mem_append.mp hq with hq | hq
            · exact hO14 q (List.mem_append.mpr (.inl hq)) (I, oI) (.head _)
            rcases List.mem_append.mp hq with hq | hq
            · rcases List.mem_cons.mp hq with rfl | hq
              · exact hO14 _ (List.mem_append.mpr (.inr (.head _))) (I, oI) (.head _)
              · exact hoff q (List.mem_append.mpr (.inr (List.mem_append.mpr (.inl hq))))
            · exact hoff q (List.mem_append.mpr (.inr (List.mem_append.mpr (.inr hq))))
          case mmb => exact List.mem_append.mpr (.inr (List.mem_append.mpr (.inr hDb)))
          case s1b =>
            intro q hq r hr
            rcases List.mem_append.mp hr with hr | hr
            · rcases List.mem_cons.mp hr with rfl | hr
              · exact hsep0 q hq
              · exact hO14 q (List.mem_append.mpr (.inl hq)) r (.tail _ (List.mem_append.mpr (.inl hr)))
            · exact hO14 q (List.mem_append.mpr (.inl hq)) r (.tail _ (List.mem_append.mpr (.inr hr)))
          case s2b =>
            intro q hq r hr
            rcases List.mem_cons.mp hr with rfl | hr
            · exact Ne.symm (hO14 _ (List.mem_append.mpr (.inr (.head _))) q (.tail _ (List.mem_append.mpr (.inr hq))))
            · exact hnn q hq r hr
          case ppb =>
            rw [List.take_add_one, hp]
            exact (hH.mono fun q hq => .tail _ hq).append (.cons (.head _) ⟨_, _, rfl, rfl⟩ .nil)
    · clear F8 F8' N8 hx9 hO9 hm8
      rintro m₂ nx h2 tk2 hmem2 ⟨own, nn, vsH, rfl, ⟨dx, lh, nh, hh, tt, rfl, hxl, hdl, hdx⟩, hon, hnn, hH, h1⟩ F' N'
      have F9 := pin1 F' h1
      clear F'
      k_steps
      rw [hwb.length, List.take_length] at hH
      refine hret _ ([(lh, listOf vsH.toArray nh), (x9, instObj 182 dx), (dx, dictOf [⟨hh, .str (PySem.Str.ofString "_headers") tt, .ref lh⟩] 1)] ++ nn) _ _ (by assumption) (fun p hp => ?_) (fun q hq p hp => ?_) ⟨x9, dx, lh, nh, hh, tt, vsH, rfl, List.mem_append.mpr (.inr (.head _)), List.mem_append.mpr (.inr (.tail _ (.head _))), List.mem_append.mpr (.inr (.tail _ (.tail _ (.head _)))), hH.mono fun p hp => List.mem_append.mpr (.inr (List.mem_append.mpr (.inr hp)))⟩
      · rename News h₀ L _ _ => N8
        refine N8 p ?_
        rcases List.mem_append.mp hp with hp | hp
        · exact List.mem_append.mpr (.inr (List.mem_append.mpr (.inr (hsb p hp))))
        rcases List.mem_append.mp hp with hp | hp
        · exact List.mem_append.mpr (.inl hp)
        · exact List.mem_append.mpr (.inr (List.mem_append.mpr (.inl hp)))
      · rcases List.mem_append.mp hp with hp | hp
        · exact Ne.symm (hon p hp q (List.mem_append.mpr (.inr (hsb q hq))))
        · exact hnn q (hsb q hq) p hp
end Mine
end

-- LZ
section
open PySem PySem.W PySem.Spec PySem.Calls PyProof.Rows PyProof.Rows.LCg
namespace Mine
section
variable {prog : Program} {w : World} {A : Around} {E : Value → Shared → Prop} {s : Shared} {env : Env} {h₀ : Heap} {body : List Stmt} {Q : Flow → Shared → Prop}
theorem zipItems_nil (xs ys : List Value) (i : Nat) (h : xs.length ≤ i) : (zipItems xs ys).drop i = [] := by
  rw [List.drop_eq_nil_iff, zipItems_length]
  omega
theorem ZPost.next {L : Addr} {s₁ : Shared} {its : Led} {rest : (PySem.Str → Option Value) → Led → Prop} {h' : Heap} {tk : Nat} {m' : PySem.Str → Option Value} {all : Led} (F : Fr h₀ L h' m') (N : News h₀ L h' all) (news' : Led)
    (sub : ∀ p ∈ its ++ news', p ∈ all) (off : ∀ p ∈ news', ∀ q ∈ its, p.1 ≠ q.1) (j : rest m' news') : UnrEndW h₀ L s₁ its rest { s₁ with heap := h', toks := tk } := ⟨h', tk, m', news', rfl, F, fun p hp => N p (sub p hp), off, j⟩
/-- a for over zip(a, b), the first no longer than the second, by an invariant -/
theorem iterZ {elts : List PySem.Expr} {k : Nat} {pos : Pos} {l1 l2 : Addr} {xs ys : List Value} {n1 n2 : Nat} {m₀ : PySem.Str → Option Value} {news : Led} (J : Nat → (PySem.Str → Option Value) → Led → Prop)
    (hh : A.handled = none) (F : Fr h₀ env.locals s.heap m₀) (N : News h₀ env.locals s.heap news) (hm1 : (l1, listOf xs.toArray n1) ∈ news) (hm2 : (l2, listOf ys.toArray n2) ∈ news) (hle : xs.length ≤ ys.length) (hj : J 0 m₀ news)
    (turn : ∀ I, (∀ p ∈ news, p.1 < I) → ∀ i x y T m₁ news₁ o1 o2 o3 o4 o5 h tk, xs[i]? = some x → ys[i]? = some y → IsTup h T #[x, y] →
      (∀ p ∈ news₁, ∀ q ∈ [(I + 4, o1), (I + 2, o2), (I + 3, o3), (I, o4), (I + 1, o5)], p.1 ≠ q.1) → J i m₁ news₁ → Fr h₀ env.locals h m₁ → News h₀ env.locals h ((I + 4, o1) :: (I + 2, o2) :: (I + 3, o3) :: (I, o4) :: (I + 1, o5) :: news₁) →
      wpAny (model prog w) A (assign (.Tuple elts k pos) env (.ref T)) (fun _ s₂ => wpAny (model prog w) A (execs body env) (UnrPostW h₀ env.locals { s with heap := h, toks := tk } [(I + 4, o1), (I + 2, o2), (I + 3, o3), (I, o4), (I + 1, o5)] (fun m' n' => (l1, listOf xs.toArray n1) ∈ n' ∧ (l2, listOf ys.toArray n2) ∈ n' ∧ J (i + 1) m' n') Q) E s₂) E { s with heap := h, toks := tk })
    (done : ∀ m₁ news₁ h tk, J xs.length m₁ news₁ → Fr h₀ env.locals h m₁ → News h₀ env.locals h news₁ → Q .next { s with heap := h, toks := tk }) :
    wpAny (model prog w) A (call (.type "zip") [.ref l1, .ref l2]) (fun xv s₁ => wpAny (model prog w) A (pyIter xv) (fun it s₂ => TurnsAt prog w A h₀ env (.Tuple elts k pos) body Q E it s₂) E s₁) E s := by
  refine ktu_zip (lo1 := listOf xs.toArray n1) (lo2 := listOf ys.toArray n2) hh F N hm1 rfl rfl hm2 rfl rfl fun I hI => ?_
  refine items_ind (fun zs m nw => ∃ i, i ≤ xs.length ∧ zs = (zipItems xs ys).drop i ∧ (∀ p ∈ nw, ∀ q ∈ [I + 4, I + 2, I + 3, I, I + 1], @Ne Nat p.1 q) ∧ J i m nw) ?_ ?_ _ _ _ ⟨0, Nat.zero_le _, rfl, fun p hp q hq => ?_, hj⟩
  · rintro m nw ⟨i, hi, e, _, hj'⟩ h tk F' N'
    have e2 : (zipItems xs ys).length ≤ i := List.drop_eq_nil_iff.mp e.symm
    rw [zipItems_length] at e2
    have : i = xs.length := by omega
    subst this
    exact done m nw h tk hj' F' N'
  · rintro a r m nw ⟨i, hi, e, hoff, hj'⟩ v h tk hv F'
    refine AllObj.cons fun o1 _ => AllObj.cons fun o2 _ => AllObj.cons fun o3 _ => AllObj.cons fun o4 _ => AllObj.cons fun o5 _ => AllObj.nil fun N' => ?_
    have hlt : i < xs.length := by
      refine Nat.lt_of_le_of_ne hi fun q => ?_
      rw [zipItems_nil xs ys i (by omega)] at e
      simp at e
    have hx : xs[i]? = some xs[i] := by simp [hlt]
    have hlt2 : i < ys.length := by omega
    have hy : ys[i]? = some ys[i] := by simp [hlt2]
    have hlz : i < (zipItems xs ys).length := by rw [zipItems_length]; omega
    have hz := zipItems_get xs ys i hx hy
    rw [List.drop_eq_getElem_cons hlz] at e
    injection e with e1 e2
    have e3 : a = .pair (fun _ => xs[i]) ys[i] := by
      rw [List.getElem?_eq_getElem hlz] at hz
      rw [e1]
      exact Option.some.inj hz
    subst e3
    obtain ⟨T, t, rfl, hT⟩ := hv
    refine wpAny_mono (turn I hI i _ _ T m nw o1 o2 o3 o4 o5 h tk hx hy hT (fun p hp q hq => ?_) hj' F' N') (fun _ s₂ h₂ => wpAny_mono h₂ (fun f s₃ h₃ => ?_) fun _ _ e => e) fun _ _ e => e
    · refine hoff p hp q.1 ?_
      have := List.mem_map_of_mem (f := Prod.fst) hq
      exact this
    have fin : UnrEndW h₀ env.locals { s with heap := h, toks := tk } [(I + 4, o1), (I + 2, o2), (I + 3, o3), (I, o4), (I + 1, o5)] (fun m' n' => (l1, listOf xs.toArray n1) ∈ n' ∧ (l2, listOf ys.toArray n2) ∈ n' ∧ J (i + 1) m' n') s₃ → UnrEndW h₀ env.locals { s with heap := h, toks := tk } [(I + 4, o1), (I + 2, o2), (I + 3, o3), (I, o4), (I + 1, o5)] (fun m' n' => SubL [(l1, listOf xs.toArray n1), (l2, listOf ys.toArray n2)] n' ∧ ∃ j, j ≤ xs.length ∧ r = (zipItems xs ys).drop j ∧ (∀ p ∈ n', ∀ q ∈ [I + 4, I + 2, I + 3, I, I + 1], @Ne Nat p.1 q) ∧ J j m' n') s₃ := by
      rintro ⟨h', tk', m', n', e, F'', N'', ho, hk1, hk2, hJ⟩
      refine ⟨h', tk', m', n', e, F'', N'', ho, ⟨hk1, hk2, trivial⟩, i + 1, hlt, e2, fun p hp q hq => ?_, hJ⟩
      simp only [List.mem_cons, List.not_mem_nil, or_false] at hq
      rcases hq with rfl | rfl | rfl | rfl | rfl
      · exact ho p hp (_, o1) (.head _)
      · exact ho p hp (_, o2) (.tail _ (.head _))
      · exact ho p hp (_, o3) (.tail _ (.tail _ (.head _)))
      · exact ho p hp (_, o4) (.tail _ (.tail _ (.tail _ (.head _))))
      · exact ho p hp (_, o5) (.tail _ (.tail _ (.tail _ (.tail _ (.head _)))))
    cases f with
    | ret v => exact h₃
    | brk => exact h₃
    | next => exact fin h₃
    | cont => exact fin h₃
  · have h1 : p.1 < I := hI p hp
    simp only [List.mem_cons, List.not_mem_nil, or_false] at hq
    rcases hq with rfl | rfl | rfl | rfl | rfl
    · exact Nat.ne_of_lt (Nat.lt_of_lt_of_le h1 (Nat.le_add_right _ _))
    · exact Nat.ne_of_lt (Nat.lt_of_lt_of_le h1 (Nat.le_add_right _ _))
    · exact Nat.ne_of_lt (Nat.lt_of_lt_of_le h1 (Nat.le_add_right _ _))
    · exact Nat.ne_of_lt h1
    · exact Nat.ne_of_lt (Nat.lt_of_lt_of_le h1 (Nat.le_add_right _ _))
end
theorem kl_cut_at : ∀ (l : List Value) (k : Nat) {y : Value}, l[k]? = some y → kl_cut l k = some (l.take k, y, l.drop (k + 1))
  | [], _, _, h => by simp at h
  | x :: r, 0, y, h => by
    have e : x = y := by simpa using h
    subst e
    rfl
  | x :: r, k + 1, y, h => by
    show (match kl_cut r k with | some (p, y, q) => some (x :: p, y, q) | none => none) = _
    rw [kl_cut_at r k (by simpa using h)]
    rfl
section
variable {prog : Program} {w : World} {A : Around} {E : Value → Shared → Prop} {s : Shared} {h₀ : Heap} {L D : Addr} {m : PySem.Str → Option Value} {news news' : Led}
theorem pop_nat {i : Int} {u : Tok} {k n : Nat} {R : List Nat} {vl : List Value} {Q : Value → Shared → Prop} (F : Fr h₀ L s.heap m) (N : News h₀ L s.heap news) (hi : IntsAre vl (R.map fun (x : Nat) => (x : Int))) (hk : i = (k : Int)) (hlt : k < R.length) (hR : R.length ≤ 100)
    (U : Upd D (listOf vl.toArray n) (listOf (vl.take k ++ vl.drop (k + 1)).toArray (n + 1)) news news')
    (h : ∀ h' y t, R[k]? = some y → IntsAre (vl.take k ++ vl.drop (k + 1)) ((R.take k ++ R.drop (k + 1)).map fun (x : Nat) => (x : Int)) → Fr h₀ L h' m → News h₀ L h' news' → Q (.int (y : Int) t) { s with heap := h' }) :
    wpAny (model prog w) A (call (.builtin "list.pop") [.ref D, .int i u]) Q E s := by
  subst hk
  have hl : vl.length = R.length := by rw [hi.length, List.length_map]
  obtain ⟨t, ht⟩ := hi.get k ((R[k] : Nat) : Int) (by simp [hlt])
  refine kl_popAt (k := k) (p := vl.take k) (q := vl.drop (k + 1)) (y := .int ((R[k] : Nat) : Int) t) F N ?_ ?_ ?_ U ?_ fun h' F' N' => h h' R[k] t (by simp [hlt]) ?_ F' N'
  · unfold Builtin.List.listFitsIndex
    simp only [Bool.and_eq_true, decide_eq_true_eq]
    omega
  · unfold seqIndex?
    have h1 : ¬ ((k : Nat) : Int) < 0 := by omega
    rw [if_neg h1, List.size_toArray, hl]
    have h2 : (decide (0 ≤ ((k : Nat) : Int)) && decide (((k : Nat) : Int) < ((R.length : Nat) : Int))) = true := by
      rw [Bool.and_eq_true, decide_eq_true_eq, decide_eq_true_eq]
      omega
    show (if (decide (0 ≤ ((k : Nat) : Int)) && decide (((k : Nat) : Int) < ((R.length : Nat) : Int))) = true then some ((k : Nat) : Int).toNat else none) = some k
    rw [if_pos h2]
    simp
  · exact kl_cut_at vl k ht
  · rw [sizeLine_eq]
    show vl.toArray.toList.length ≤ _
    rw [List.toList_toArray]
    omega
  · have e1 : (R.take k ++ R.drop (k + 1)).map (fun (x : Nat) => (x : Int)) = (R.map fun (x : Nat) => (x : Int)).take k ++ (R.map fun (x : Nat) => (x : Int)).drop (k + 1) := by
      rw [List.map_append, List.map_take, List.map_drop]
    rw [e1]
    exact IntsAre.append (IntsAre.take hi k) (IntsAre.drop hi (k + 1))
end
end Mine
end

-- CL
section
open PySem PySem.W PySem.Spec PySem.Calls PyProof.Rows PyProof.Rows.LCg
namespace Mine
/-- five letters, none twice, from 1 to 15 -/
def Five (xs : List Nat) : Prop := xs.length = 5 ∧ xs.Nodup ∧ ∀ x ∈ xs, 1 ≤ x ∧ x < 16
theorem five_of {C R : List Nat} (hp : (C ++ R).Perm (List.range' 1 15)) (hl : C.length = 5) : Five C := by
  have hn : (C ++ R).Nodup := hp.nodup_iff.mpr (List.nodup_range')
  refine ⟨hl, (List.nodup_append.mp hn).1, fun x hx => ?_⟩
  have : x ∈ List.range' 1 15 := hp.mem_iff.mp (List.mem_append.mpr (.inl hx))
  rw [List.mem_range'_1] at this
  omega
theorem pick_perm {C R : List Nat} {k y : Nat} {P : List Nat} (hp : (C ++ R).Perm P) (hy : R[k]? = some y) : ((C ++ [y]) ++ (R.take k ++ R.drop (k + 1))).Perm P := by
  have hlt : k < R.length := (List.getElem?_eq_some_iff.mp hy).1
  have e : R = R.take k ++ y :: R.drop (k + 1) := by
    have e2 : R[k] = y := by simpa [hlt] using hy
    rw [← e2, ← List.drop_eq_getElem_cons hlt, List.take_append_drop]
  refine List.Perm.trans ?_ hp
  conv => rhs; rw [e]
  rw [List.append_assoc]
  exact List.Perm.append_left C (by simpa using List.perm_middle.symm)
def OutLetters : Led → Value → Prop := fun led r => ∃ (xs : List Nat) (l : Addr) (n : Nat) (us : List Value), r = Value.ref l ∧ (l, listOf us.toArray n) ∈ led ∧ LetAre us xs ∧ Five xs
local macro_rules | `(tactic| walk_at "exec For Tuple Call cons nil") => `(tactic| ((rename Fr _ _ _ _ => lF'); (with_unfolding_all refine' For_turns lF' ?_; k_whole)))
local macro_rules | `(tactic| walk_at "call type:zip") => `(tactic| (refine Hold.out ?_))
local macro_rules | `(tactic| walk_at "binaryOp Mod int int") => `(tactic| (k_dflt (k_extra "my mod")))
local macro_rules | `(tactic| walk_at "call builtin:len") => `(tactic| (k_dflt (k_extra "my len")))
local macro_rules | `(tactic| walk_at "newList") => `(tactic| (k_here; k_dflt (refine' newList_K ?k1 ?k2 ?_; (case k1 => k_asm); (case k2 => k_asm); k_whole); refine Hold.out ?_))
theorem letters_tells : ∀ (w : World) (loose : List PySem.Str) (mean : ExcName → Option Value) (mg mb : PySem.Str → Option Value) (sa : Addr) (sv : List Value) (ns : List Int)
    (dp un : Nat) (gd : Option (List Code)) (cn : PySem.Str) (cs : Scope) (a : Addr) (ccd : Value) (cl : List (PySem.Str × Addr)) (outer : List Env) (A₀ : Around) (base h₀ : Heap) (L : Addr) (m : PySem.Str → Option Value) (news : Led) (s : Shared)
    (Q E : Value → Shared → Prop),
    Below A₀ base outer h₀ → Fr h₀ L s.heap m → (Mine.hd.heap_39 w.params).In h₀ → News h₀ L s.heap news → Top Mine.hd.view_39 loose mean mg mb h₀ → cs.kind = .function → h₀.IsList sa sv.toArray → IntsAre sv ns → sv.length ≤ 63 → dp + 5 < recursionLimit → un + 8 * 5 < cLine →
    (∀ r tl h' tk', Fr h₀ L h' m → News h₀ L h' (news ++ tl) → (∀ q ∈ news, ∀ p ∈ tl, q.1 ≠ p.1) → OutLetters (news ++ tl) r → Q r { s with heap := h', toks := tk' }) →
    wpAny (model PySem.Challenge.rw_wo0063_01.row.prog w) (ktrTop dp un gd cn cs L a ccd cl outer) (call (.ref 263) [.ref sa]) Q E s := by
  k_with_none
  w_top off
  k_fill
  intro w loose mean mg mb sa sv ns dp un gd cn cs a ccd cl outer A₀ base h₀ L m news s Q E B F X N T hk hL hI hsz hd hu hret
  refine wpAny_call ?_
  k_dflt ktr_enter
  rename_i g' L' h' FG' F' N' B' X' T'
  have hL' : g'.IsList sa sv.toArray := hL.at fun o e => FG'.keep sa o e
  (k_with "call type:list" => ((rename IsRange _ _ _ _ _ _ _ _ => rgX); (with_unfolding_all refine' kll_range (n := 15) ?k0 ?k1 ?k2 ?k3 ?k4 ?k5 ?k6 ?_; (case k0 => rfl); (case k1 => k_asm); (case k2 => k_asm); (case k3 => first | exact rgX | assumption); (case k4 => decide); (case k5 => decide); (case k6 => decide); k_whole); refine Hold.out ?_))
  k_steps
  unfold Hold
  intro ll vl0 nl0 hl0 tkl Fl Nl ltl hvl0
  k_steps
  unfold Hold
  intro lc hc Fc Nc ltc
  k_steps
  unfold Hold
  intro lb hb Fb Nb ltb
  k_steps
  unfold Hold
  intro lz hz Fz Nz ltz
  k_steps
  unfold Hold
  rename Fr _ _ _ _ => F1
  rename News _ _ _ _ => N1
  rename IntsAre _ (List.take 5 ns ++ _) => hS
  rename (_ ∧ _ ∧ _ ∧ _ ∧ _ ∧ AllLt _ news) => lt9
  obtain ⟨_, _, lt91, lt92, lt93, _⟩ := lt9
  obtain ⟨mm, F2, hm1, hm2⟩ : ∃ mm, Fr g' L' _ mm ∧ mm (Str.ofString "left") = some (.ref ll) ∧ mm (Str.ofString "chosen") = some (.ref lc) := ⟨_, F1, by rfl, by rfl⟩
  clear F1
  rename List Value => ws
  rename Addr => lS
  have hwl : 5 ≤ ws.length := by
    rw [hS.length, List.length_append]
    simp
  obtain ⟨bs, hbs, N2⟩ : ∃ bs : List Value, IntsAre bs [0, 6, 3, 9, 1] ∧ News g' L' _ ((lc, listOf (List.toArray []) 0) :: (ll, listOf vl0.toArray nl0) :: (lS, listOf ws.toArray 0) :: (lb, listOf bs.toArray 0) :: news) := ⟨[_, _, _, _, _], .cons _ _ (.cons _ _ (.cons _ _ (.cons _ _ (.cons _ _ .nil)))), fun p hp => N1 p (by
    simp only [List.mem_cons] at hp ⊢
    rcases hp with h | h | h | h | h
    · exact .inr (.inr (.inr (.inr (.inl h))))
    · exact .inr (.inr (.inr (.inr (.inr (.inl h)))))
    · exact .inl h
    · exact .inr (.inr (.inr (.inl h)))
    · exact .inr (.inr (.inr (.inr (.inr (.inr h))))))⟩
  clear N1
  have e1 : @Ne Nat lc ll := Ne.symm (Nat.ne_of_lt (ltc _ (.head _)))
  have e2 : @Ne Nat lS ll := Ne.symm (Nat.ne_of_lt lt93)
  have e3 : @Ne Nat lS lc := Ne.symm (Nat.ne_of_lt lt92)
  have e4 : @Ne Nat lb ll := Ne.symm (Nat.ne_of_lt (ltb _ (.tail _ (.head _))))
  have e5 : @Ne Nat lb lc := Ne.symm (Nat.ne_of_lt (ltb _ (.head _)))
  have hOff : OwnOff news [lc, ll] := fun p hp b hb => by
    rcases List.mem_cons.mp hb with rfl | hb
    · exact Nat.ne_of_lt (ltc p (.tail _ hp))
    · rw [List.mem_singleton.mp hb]
      exact Nat.ne_of_lt (ltl p hp)
  refine iterZ (l1 := lb) (l2 := lS) (xs := bs) (ys := ws) (n1 := 0) (n2 := 0) (fun i m nx => ∃ (vc vl : List Value) (nc nl : Nat) (C R : List Nat), nx = (lc, listOf vc.toArray nc) :: (ll, listOf vl.toArray nl) :: (lS, listOf ws.toArray 0) :: (lb, listOf bs.toArray 0) :: news ∧
      m (Str.ofString "left") = some (.ref ll) ∧ m (Str.ofString "chosen") = some (.ref lc) ∧ IntsAre vc (C.map fun (x : Nat) => (x : Int)) ∧ IntsAre vl (R.map fun (x : Nat) => (x : Int)) ∧ C.length = i ∧ (C ++ R).Perm (List.range' 1 15)) ?hh F2 N2 ?hb ?hS ?hle ?hj ?_ ?_
  case hh => rfl
  case hb => exact .tail _ (.tail _ (.tail _ (.head _)))
  case hS => exact .tail _ (.tail _ (.head _))
  case hle => rw [hbs.length]; exact hwl
  case hj => exact ⟨[], vl0, 0, nl0, [], List.range' 1 15, rfl, hm1, hm2, .nil, by exact hvl0, rfl, .refl _⟩
  · clear F2 N2 hm1 hm2
    rintro I hI i x y T m₁ nx o1 o2 o3 o4 o5 h tk hx hy hT hoff ⟨vc, vl, nc, nl, C, R, rfl, h1, h2, hvc, hvl, hC, hP⟩ F' N'
    obtain ⟨b, tb, rfl, hb⟩ := ints_get hbs hx
    obtain ⟨z, tz, rfl, hz⟩ := ints_get hS hy
    have F9 := pin2 F' h1 h2
    clear F'
    have hlen : C.length + R.length = 15 := by
      have := hP.length_eq
      rw [List.length_append] at this
      simpa using this
    have hi5 : i < 5 := by
      have := (List.getElem?_eq_some_iff.mp hb).1
      simpa using this
    have hvll : vl.length = R.length := by rw [hvl.length, List.length_map]
    have hvcl : vc.length = i := by rw [hvc.length, List.length_map, hC]
    have hRl : R.length = 15 - i := by omega
    have hpos : (0 : Int) < ((15 - i : Nat) : Int) := by omega
    have hk0 : 0 ≤ (b + z).fmod ((15 - i : Nat) : Int) := Int.fmod_nonneg_of_pos _ hpos
    have hk1 : (b + z).fmod ((15 - i : Nat) : Int) < ((15 - i : Nat) : Int) := Int.fmod_lt_of_pos _ hpos
    have g1 : ∀ q ∈ [(I + 4, o1), (I + 2, o2), (I + 3, o3), (I, o4), (I + 1, o5)], @Ne Nat q.1 lc := fun q hq => Ne.symm (hoff _ (.head _) q hq)
    have g2 : ∀ q ∈ [(I + 4, o1), (I + 2, o2), (I + 3, o3), (I, o4), (I + 1, o5)], @Ne Nat q.1 ll := fun q hq => Ne.symm (hoff _ (.tail _ (.head _)) q hq)
    have g11 : @Ne Nat (I + 4) lc := g1 _ (.head _)
    have g12 : @Ne Nat (I + 2) lc := g1 _ (.tail _ (.head _))
    have g13 : @Ne Nat (I + 3) lc := g1 _ (.tail _ (.tail _ (.head _)))
    have g14 : @Ne Nat I lc := g1 _ (.tail _ (.tail _ (.tail _ (.head _))))
    have g15 : @Ne Nat (I + 1) lc := g1 _ (.tail _ (.tail _ (.tail _ (.tail _ (.head _)))))
    have g21 : @Ne Nat (I + 4) ll := g2 _ (.head _)
    have g22 : @Ne Nat (I + 2) ll := g2 _ (.tail _ (.head _))
    have g23 : @Ne Nat (I + 3) ll := g2 _ (.tail _ (.tail _ (.head _)))
    have g24 : @Ne Nat I ll := g2 _ (.tail _ (.tail _ (.tail _ (.head _))))
    have g25 : @Ne Nat (I + 1) ll := g2 _ (.tail _ (.tail _ (.tail _ (.tail _ (.head _)))))
    (k_with "my len" => (refine PyProof.Rows.len_list (News.isList (by k_asm) (by k_mem)) (by rw [List.size_toArray]; omega) ?_; rw [show ((vl.toArray.size : Nat) : Int) = ((15 - i : Nat) : Int) by rw [List.size_toArray]; omega]))
    (k_with "my mod" => (refine PyProof.Rows.mod_int' (Int.ne_of_gt hpos) ?_))
    (k_with "call builtin:list.pop" => (refine' pop_nat (k := ((b + z).fmod ((15 - i : Nat) : Int)).toNat) (R := R) (vl := vl) ?F ?N hvl ?e ?lt ?le ?U ?_; (case F => k_asm); (case N => k_asm); (case e => omega); (case lt => omega); (case le => omega); (case U => k_upd); k_whole; refine Hold.out ?_))
    (k_with "call builtin:list.append" => (refine' append_K ?k1 ?k2 ?k3 ?_ ?z; (case k1 => k_asm); (case k2 => k_asm); (case k3 => k_upd); (case z => (rw [List.size_toArray, sizeLine_eq]; omega)); k_whole; intro h' F' N'; (try k_sweep)))
    k_steps
    unfold Hold
    intro h3 y ty hy hvl' F' N'
    k_steps
    rename Fr _ _ _ _ => F8
    rename News _ _ _ _ => N8
    rw [List.push_toArray] at N8
    refine ZPost.next F8 N8 ((lc, listOf (vc ++ [Value.int (y : Int) ty]).toArray (nc + 1)) :: (ll, listOf (vl.take ((b + z).fmod ((15 - i : Nat) : Int)).toNat ++ vl.drop (((b + z).fmod ((15 - i : Nat) : Int)).toNat + 1)).toArray (nl + 1)) :: (lS, listOf ws.toArray 0) :: (lb, listOf bs.toArray 0) :: news) (fun p hp => hp) ?off ⟨?m1, ?m2, vc ++ [Value.int (y : Int) ty], _, _, _, C ++ [y], R.take ((b + z).fmod ((15 - i : Nat) : Int)).toNat ++ R.drop (((b + z).fmod ((15 - i : Nat) : Int)).toNat + 1), rfl, by rfl, by rfl, ?i1, hvl', ?l1, pick_perm hP hy⟩
    case off =>
      intro p hp q hq
      rcases List.mem_cons.mp hp with rfl | hp
      · exact hoff _ (.head _) q hq
      rcases List.mem_cons.mp hp with rfl | hp
      · exact hoff _ (.tail _ (.head _)) q hq
      · exact hoff p (.tail _ (.tail _ hp)) q hq
    case m1 => exact .tail _ (.tail _ (.tail _ (.head _)))
    case m2 => exact .tail _ (.tail _ (.head _))
    case i1 =>
      rw [List.map_append]
      exact ints_snoc hvc
    case l1 => rw [List.length_append, hC]; rfl
  · clear F2 N2 hm1 hm2
    rintro m₁ nx h tk ⟨vc, vl, nc, nl, C, R, rfl, h1, h2, hvc, hvl, hC, hP⟩ F' N'
    have F9 := pin2 F' h1 h2
    clear F'
    k_steps
    have hC5 : C.length = 5 := by rw [hC, hbs.length]; rfl
    have h5 := five_of hP hC5
    refine hret _ [(lc, listOf vc.toArray nc)] _ _ (by assumption) (fun p hp => ?_) (fun q hq p hp => ?_) ⟨C, lc, nc, vc, rfl, List.mem_append.mpr (.inr (.head _)), ⟨hvc, fun x hx => (h5.2.2 x hx).2⟩, h5⟩
    · rename News h₀ L _ _ => N8
      refine N8 p ?_
      rcases List.mem_append.mp hp with hp | hp
      · exact .tail _ (.tail _ (.tail _ (.tail _ hp)))
      · rw [List.mem_singleton.mp hp]; exact .head _
    · rw [List.mem_singleton.mp hp]
      exact hOff q hq _ (.head _)
end Mine
end

-- CB0
section
open PySem PySem.W PySem.Spec PySem.Calls PyProof.Rows PyProof.Rows.LCg
namespace Mine
/-- the text of a broken ring: three dots about each letter -/
def dotted (c : List Nat) : PySem.Str := PySem.Str.append (PySem.Str.append dots (Txt.join dots (signs (txt c)))) dots
def DotsOk (c : List Nat) : Prop := (Builtin.Str.occurrences (dotted c) dots 0 (dotted c).length 1).isEmpty = false ∧ Txt.split (dotted c) dots = pieces (c.map fun x => 65 + x) ∧ (dotted c).length ≤ 100
theorem split_occ {x : PySem.Str} {l : List Nat} (h : Builtin.Str.occurrences x dots 0 x.length (x.length + 1) = l) (h0 : l.isEmpty = false) (hl : 3 ≤ x.length) : Txt.split x dots = Builtin.Str.partsBetween x l 3 := by
  unfold Txt.split
  rw [h, h0]
  have h1 : ¬ x.length < dots.length := by show ¬ x.length < 3; omega
  have h2 : ¬ Builtin.Str.strKind x < Builtin.Str.strKind dots := by
    have := strKind_pos x
    have e : Builtin.Str.strKind dots = 1 := by decide +kernel
    omega
  have h3 : (decide (x.length < dots.length) || decide (Builtin.Str.strKind x < Builtin.Str.strKind dots)) = false := by
    rw [Bool.or_eq_false_iff, decide_eq_false_iff_not, decide_eq_false_iff_not]
    exact ⟨h1, h2⟩
  rw [h3]
  rfl
theorem occA1 (a : Nat) : Builtin.Str.occurrences (⟨#[46, 46, 46, a + 65, 46, 46, 46]⟩ : PySem.Str) dots 0 7 8 = [0, 4] := by kernel_rfl
theorem occB1 (a : Nat) : (Builtin.Str.occurrences (⟨#[46, 46, 46, a + 65, 46, 46, 46]⟩ : PySem.Str) dots 0 7 1).isEmpty = false := by kernel_rfl
theorem parts1 (a : Nat) : Builtin.Str.partsBetween (⟨#[46, 46, 46, a + 65, 46, 46, 46]⟩ : PySem.Str) [0, 4] 3 = pieces [a + 65] := by kernel_rfl
theorem dotted1 (a : Nat) : dotted [a] = (⟨#[46, 46, 46, a + 65, 46, 46, 46]⟩ : PySem.Str) := by
  rw [Nat.add_comm a 65]
  kernel_rfl
theorem dotsOk1 (a : Nat) : DotsOk [a] := by
  unfold DotsOk
  rw [dotted1]
  refine ⟨occB1 a, ?_, by show 7 ≤ 100; decide⟩
  rw [split_occ (occA1 a) rfl (by show 3 ≤ 7; decide), parts1, Nat.add_comm a 65]
  rfl
theorem occA2 (a b : Nat) : Builtin.Str.occurrences (⟨#[46, 46, 46, a + 65, 46, 46, 46, b + 65, 46, 46, 46]⟩ : PySem.Str) dots 0 11 12 = [0, 4, 8] := by kernel_rfl
theorem occB2 (a b : Nat) : (Builtin.Str.occurrences (⟨#[46, 46, 46, a + 65, 46, 46, 46, b + 65, 46, 46, 46]⟩ : PySem.Str) dots 0 11 1).isEmpty = false := by kernel_rfl
theorem parts2 (a b : Nat) : Builtin.Str.partsBetween (⟨#[46, 46, 46, a + 65, 46, 46, 46, b + 65, 46, 46, 46]⟩ : PySem.Str) [0, 4, 8] 3 = pieces [a + 65, b + 65] := by kernel_rfl
theorem dotted2 (a b : Nat) : dotted [a, b] = (⟨#[46, 46, 46, a + 65, 46, 46, 46, b + 65, 46, 46, 46]⟩ : PySem.Str) := by
  rw [Nat.add_comm a 65, Nat.add_comm b 65]
  kernel_rfl
theorem dotsOk2 (a b : Nat) : DotsOk [a, b] := by
  unfold DotsOk
  rw [dotted2]
  refine ⟨occB2 a b, ?_, by show 11 ≤ 100; decide⟩
  rw [split_occ (occA2 a b) rfl (by show 3 ≤ 11; decide), parts2, Nat.add_comm a 65, Nat.add_comm b 65]
  rfl
theorem occA3 (a b c : Nat) : Builtin.Str.occurrences (⟨#[46, 46, 46, a + 65, 46, 46, 46, b + 65, 46, 46, 46, c + 65, 46, 46, 46]⟩ : PySem.Str) dots 0 15 16 = [0, 4, 8, 12] := by kernel_rfl
theorem occB3 (a b c : Nat) : (Builtin.Str.occurrences (⟨#[46, 46, 46, a + 65, 46, 46, 46, b + 65, 46, 46, 46, c + 65, 46, 46, 46]⟩ : PySem.Str) dots 0 15 1).isEmpty = false := by kernel_rfl
theorem parts3 (a b c : Nat) : Builtin.Str.partsBetween (⟨#[46, 46, 46, a + 65, 46, 46, 46, b + 65, 46, 46, 46, c + 65, 46, 46, 46]⟩ : PySem.Str) [0, 4, 8, 12] 3 = pieces [a + 65, b + 65, c + 65] := by kernel_rfl
theorem dotted3 (a b c : Nat) : dotted [a, b, c] = (⟨#[46, 46, 46, a + 65, 46, 46, 46, b + 65, 46, 46, 46, c + 65, 46, 46, 46]⟩ : PySem.Str) := by
  rw [Nat.add_comm a 65, Nat.add_comm b 65, Nat.add_comm c 65]
  kernel_rfl
theorem dotsOk3 (a b c : Nat) : DotsOk [a, b, c] := by
  unfold DotsOk
  rw [dotted3]
  refine ⟨occB3 a b c, ?_, by show 15 ≤ 100; decide⟩
  rw [split_occ (occA3 a b c) rfl (by show 3 ≤ 15; decide), parts3, Nat.add_comm a 65, Nat.add_comm b 65, Nat.add_comm c 65]
  rfl
theorem occA4 (a b c d : Nat) : Builtin.Str.occurrences (⟨#[46, 46, 46, a + 65, 46, 46, 46, b + 65, 46, 46, 46, c + 65, 46, 46, 46, d + 65, 46, 46, 46]⟩ : PySem.Str) dots 0 19 20 = [0, 4, 8, 12, 16] := by kernel_rfl
theorem occB4 (a b c d : Nat) : (Builtin.Str.occurrences (⟨#[46, 46, 46, a + 65, 46, 46, 46, b + 65, 46, 46, 46, c + 65, 46, 46, 46, d + 65, 46, 46, 46]⟩ : PySem.Str) dots 0 19 1).isEmpty = false := by kernel_rfl
theorem parts4 (a b c d : Nat) : Builtin.Str.partsBetween (⟨#[46, 46, 46, a + 65, 46, 46, 46, b + 65, 46, 46, 46, c + 65, 46, 46, 46, d + 65, 46, 46, 46]⟩ : PySem.Str) [0, 4, 8, 12, 16] 3 = pieces [a + 65, b + 65, c + 65, d + 65] := by kernel_rfl
theorem dotted4 (a b c d : Nat) : dotted [a, b, c, d] = (⟨#[46, 46, 46, a + 65, 46, 46, 46, b + 65, 46, 46, 46, c + 65, 46, 46, 46, d + 65, 46, 46, 46]⟩ : PySem.Str) := by
  rw [Nat.add_comm a 65, Nat.add_comm b 65, Nat.add_comm c 65, Nat.add_comm d 65]
  kernel_rfl
theorem dotsOk4 (a b c d : Nat) : DotsOk [a, b, c, d] := by
  unfold DotsOk
  rw [dotted4]
  refine ⟨occB4 a b c d, ?_, by show 19 ≤ 100; decide⟩
  rw [split_occ (occA4 a b c d) rfl (by show 3 ≤ 19; decide), parts4, Nat.add_comm a 65, Nat.add_comm b 65, Nat.add_comm c 65, Nat.add_comm d 65]
  rfl
theorem dotsOk {c : List Nat} (h1 : c ≠ []) (h2 : c.length ≤ 4) : DotsOk c := by
  match c with
  | [] => exact absurd rfl h1
  | [a] => exact dotsOk1 a
  | [a, b] => exact dotsOk2 a b
  | [a, b, c] => exact dotsOk3 a b c
  | [a, b, c, d] => exact dotsOk4 a b c d
  | _ :: _ :: _ :: _ :: _ :: _ => simp only [List.length_cons] at h2; omega
theorem join_len {c : List Nat} (h2 : c.length ≤ 4) : JoinOk dots (signs (txt c)) = true ∧ (Txt.join dots (signs (txt c))).length ≤ 20 := by
  match c with
  | [] => exact ⟨by kernel_rfl, by decide +kernel⟩
  | [a] => exact ⟨by kernel_rfl, by rw [show (Txt.join dots (signs (txt [a]))).length = 1 by kernel_rfl]; decide⟩
  | [a, b] => exact ⟨by kernel_rfl, by rw [show (Txt.join dots (signs (txt [a, b]))).length = 5 by kernel_rfl]; decide⟩
  | [a, b, c] => exact ⟨by kernel_rfl, by rw [show (Txt.join dots (signs (txt [a, b, c]))).length = 9 by kernel_rfl]; decide⟩
  | [a, b, c, d] => exact ⟨by kernel_rfl, by rw [show (Txt.join dots (signs (txt [a, b, c, d]))).length = 13 by kernel_rfl]; decide⟩
  | _ :: _ :: _ :: _ :: _ :: _ => simp only [List.length_cons] at h2; omega
theorem slice_last {w : List Nat} (h1 : w ≠ []) (h2 : w.length ≤ 5) : Txt.slice (txt w) none (some (-1)) = txt w.dropLast := by
  match w with
  | [] => exact absurd rfl h1
  | [a] => kernel_rfl
  | [a, b] => kernel_rfl
  | [a, b, c] => kernel_rfl
  | [a, b, c, d] => kernel_rfl
  | [a, b, c, d, e] => kernel_rfl
  | _ :: _ :: _ :: _ :: _ :: _ :: _ => simp only [List.length_cons] at h2; omega
theorem slice_first {w : List Nat} (h1 : w ≠ []) (h2 : w.length ≤ 5) : Txt.slice (txt w) (some 1) none = txt w.tail := by
  match w with
  | [] => exact absurd rfl h1
  | [a] => kernel_rfl
  | [a, b] => kernel_rfl
  | [a, b, c] => kernel_rfl
  | [a, b, c, d] => kernel_rfl
  | [a, b, c, d, e] => kernel_rfl
  | _ :: _ :: _ :: _ :: _ :: _ :: _ => simp only [List.length_cons] at h2; omega
end Mine
end

-- CB
section
open PySem PySem.W PySem.Spec PySem.Calls PyProof.Rows PyProof.Rows.LCg
namespace Mine
local macro_rules | `(tactic| walk_at "pad") => `(tactic| skip)
def brokenOf (last : Bool) (ws : List (List Nat)) : List (List Nat) := (ws.filter fun w => w.length != 0).map fun w => if last then w.dropLast else w.tail
theorem brokenOf_snoc (last : Bool) (ws : List (List Nat)) (w : List Nat) : brokenOf last (ws ++ [w]) = brokenOf last ws ++ (if w.length = 0 then [] else [if last then w.dropLast else w.tail]) := by
  unfold brokenOf
  rw [List.filter_append, List.map_append]
  by_cases h : w.length = 0
  · simp [h]
  · simp [h]
def codes (c : List Nat) : List Nat := c.map fun x => 65 + x
def RelBroken : Nat → Led → List Value → List (List Nat) × Bool → Prop := fun _ news vs d => ∃ (l : Addr) (n : Nat) (us : List Value), vs = [Value.ref l, Value.bool d.2] ∧ (l, listOf us.toArray n) ∈ news ∧ StrsAre us (d.1.map txt) ∧ d.1.length ≤ 32 ∧ ∀ w ∈ d.1, w.length ≤ 5 ∧ w.length ≠ 1
def OutBroken : Nat → Led → Value → List (List Nat) × Bool → Prop := fun _ led r d => ∃ (l : Addr) (n : Nat) (us : List Value), r = Value.ref l ∧ (l, listOf us.toArray n) ∈ led ∧ BrokenAre us ((brokenOf d.2 d.1).map codes)
local macro_rules | `(tactic| walk_at "exec For Name Name cons nil") => `(tactic| ((rename Fr _ _ _ _ => lF'); (with_unfolding_all refine' For_turns lF' ?_; k_whole)))
local macro_rules | `(tactic| walk_at "pyIter ref") => `(tactic| (refine Hold.out ?_))
local macro_rules | `(tactic| walk_at "call builtin:str.join") => `(tactic| (refine Hold.out ?_))
local macro_rules | `(tactic| walk_at "binaryOp Add str str") => `(tactic| (k_dflt (k_extra "my cat")))
local macro_rules | `(tactic| walk_at "newList") => `(tactic| (k_here; k_dflt (refine' newList_K ?k1 ?k2 ?_; (case k1 => k_asm); (case k2 => k_asm); k_whole); refine Hold.out ?_))
theorem broken_tells : Tell1 10 280 RelBroken OutBroken := by
  unfold Tell1
  k_with_none
  w_top off
  k_fill
  intro w loose mean mg mb d dp un gd cn cs a ccd cl outer A₀ base h₀ L m news s vs Q E B F X N T hk hR hd hu hret
  obtain ⟨ws, last⟩ := d
  obtain ⟨l, n, us, rfl, hl, hs, hws, hfit⟩ := hR
  dsimp only at hs hws hfit
  refine wpAny_call ?_
  k_dflt ktr_enter
  k_steps
  unfold Hold
  intro lc hc Fc Nc ltc
  k_steps
  unfold Hold
  rename Fr _ _ _ _ => F1
  rename News _ _ _ _ => N1
  have hOff : OwnOff news [lc] := fun p hp b hb => by rw [List.mem_singleton.mp hb]; exact Nat.ne_of_lt (ltc p hp)
  refine iterL (vs := us) (n := n) (fun i m nx => ∃ (vs' : List Value) (n' : Nat), nx = (lc, listOf vs'.toArray n') :: news ∧ m (Str.ofString "broken") = some (.ref lc) ∧ m (Str.ofString "last") = some (.bool last) ∧ BrokenAre vs' ((brokenOf last (ws.take i)).map codes) ∧ vs'.length ≤ i) ?hh F1 N1 ?hm ⟨[], 0, rfl, by rfl, by rfl, .nil, Nat.zero_le _⟩ ?_ ?_
  case hh => rfl
  case hm => exact .tail _ hl
  · clear F1 N1
    rintro I hI i v m₁ nx oI h tk hv hmem hoff ⟨vs', n', rfl, h1, h2, hvs, hln⟩ F' N'
    obtain ⟨x, tx, rfl, hx⟩ := hs.item i v hv
    obtain ⟨wd, hwd, rfl⟩ : ∃ wd, ws[i]? = some wd ∧ txt wd = x := by
      rw [List.getElem?_map] at hx
      cases e : ws[i]? with
      | none => rw [e] at hx; cases hx
      | some x => rw [e] at hx; exact ⟨x, rfl, Option.some.inj hx⟩
    have F9 := pin2 F' h1 h2
    clear F'
    obtain ⟨hw5, hw1⟩ := hfit wd (List.mem_of_getElem? hwd)
    have htl : (txt wd).length = wd.length := txt_len wd
    have htl5 : (txt wd).length ≤ 5 := by omega
    have hne : @Ne Nat I lc := Ne.symm (hoff _ (.head _))
    have hi32 : i < 32 := by
      have := (List.getElem?_eq_some_iff.mp hwd).1
      omega
    have hstep : brokenOf last (ws.take (i + 1)) = brokenOf last (ws.take i) ++ (if wd.length = 0 then [] else [if last then wd.dropLast else wd.tail]) := by
      rw [List.take_add_one, hwd]
      exact brokenOf_snoc last (ws.take i) wd
    (k_with "call ref" => ((refine' use0 truth_tells (d := txt wd) ?k1 ?k2 ?k3 ?k4 ?k5 ?kK ?kR ?kd ?ku ?_); (case k1 => k_asm); (case k2 => k_asm); (case k3 => k_asm); (case k4 => k_asm); (case k5 => k_asm); (case kK => first | exact rfl | assumption); (case kR => exact ⟨⟨_, rfl⟩, by omega⟩); (case kd => ktr_room); (case ku => ktr_units); intro r9 h9 tk9 ht9 F9 N9 o9; (obtain rfl := o9); (try dsimp only)))
    have hd3 : (PySem.Str.ofString "...").length = 3 := rfl
    (k_with "my cat" => ((refine PyProof.Rows.add_str (fun t8 tk8 => ?_) (by (try simp only [Str.length_append]); rw [sizeLine_eq]; (try rw [hd3]); omega)); (try dsimp only)))
    k_steps
    · unfold Hold
      rename (txt wd).length ≠ 0 => hq
      rename last = true => hlast
      have hne0 : wd ≠ [] := by
        rintro rfl
        exact hq rfl
      have hcl : wd.dropLast.length ≤ 4 := by simp; omega
      have hcn : wd.dropLast ≠ [] := by
        intro e
        have := congrArg List.length e
        simp at this
        omega
      rw [slice_last hne0 hw5]
      rename Fr _ _ _ _ => F8
      rename News _ _ _ _ => N8
      obtain ⟨hj1, hj2⟩ := join_len hcl
      obtain ⟨hd1, hd2, hd4⟩ := dotsOk hcn hcl
      unfold dotted at hd1 hd2 hd4
      refine join_strF rfl F8 N8 hj1 fun h' k8 t8 F9 N9 => ?_
      have hb : brokenOf last (ws.take (i + 1)) = brokenOf last (ws.take i) ++ [wd.dropLast] := by
        rw [hstep, if_neg (by omega), hlast]
        rfl
      generalize hJe : Txt.join dots (signs (txt wd.dropLast)) = J at hj2 hd1 hd2 hd4
      rw [show Txt.join (PySem.Str.ofString "...") (signs (txt wd.dropLast)) = J from hJe]
      have hj2' : J.length ≤ 20 := hj2
      (k_with "call builtin:list.append" => (refine' append_K ?k1 ?k2 ?k3 ?_ ?z; (case k1 => k_asm); (case k2 => k_asm); (case k3 => k_upd); (case z => (rw [List.size_toArray, sizeLine_eq]; omega)); k_whole; intro h' F' N'; (try k_sweep)))
      k_steps
      rename Fr _ _ _ _ => F8
      rename News _ _ _ _ => N8
      rw [List.push_toArray] at N8
      refine TPost.next F8 N8 ((lc, listOf (vs' ++ [_]).toArray (n' + 1)) :: news) (fun p hp => hp) (fun p hp => ?_) ⟨.tail _ hl, _, _, rfl, by rfl, by rfl, ?_, ?_⟩
      · rcases List.mem_cons.mp hp with rfl | hp
        · exact Ne.symm hne
        · exact hoff _ (.tail _ hp)
      · rw [hb, List.map_append]
        exact hvs.snoc hd1 hd2 hd4 (by simp only [codes, List.length_map]; omega)
      · simp only [List.length_append, List.length_cons, List.length_nil]
        omega
    · unfold Hold
      rename (txt wd).length ≠ 0 => hq
      rename last = false => hlast
      have hne0 : wd ≠ [] := by
        rintro rfl
        exact hq rfl
      have hcl : wd.tail.length ≤ 4 := by simp; omega
      have hcn : wd.tail ≠ [] := by
        intro e
        have := congrArg List.length e
        simp at this
        omega
      rw [slice_first hne0 hw5]
      rename Fr _ _ _ _ => F8
      rename News _ _ _ _ => N8
      obtain ⟨hj1, hj2⟩ := join_len hcl
      obtain ⟨hd1, hd2, hd4⟩ := dotsOk hcn hcl
      unfold dotted at hd1 hd2 hd4
      refine join_strF rfl F8 N8 hj1 fun h' k8 t8 F9 N9 => ?_
      have hb : brokenOf last (ws.take (i + 1)) = brokenOf last (ws.take i) ++ [wd.tail] := by
        rw [hstep, if_neg (by omega), hlast]
        rfl
      generalize hJe : Txt.join dots (signs (txt wd.tail)) = J at hj2 hd1 hd2 hd4
      rw [show Txt.join (PySem.Str.ofString "...") (signs (txt wd.tail)) = J from hJe]
      have hj2' : J.length ≤ 20 := hj2
      (k_with "call builtin:list.append" => (refine' append_K ?k1 ?k2 ?k3 ?_ ?z; (case k1 => k_asm); (case k2 => k_asm); (case k3 => k_upd); (case z => (rw [List.size_toArray, sizeLine_eq]; omega)); k_whole; intro h' F' N'; (try k_sweep)))
      k_steps
      rename Fr _ _ _ _ => F8
      rename News _ _ _ _ => N8
      rw [List.push_toArray] at N8
      refine TPost.next F8 N8 ((lc, listOf (vs' ++ [_]).toArray (n' + 1)) :: news) (fun p hp => hp) (fun p hp => ?_) ⟨.tail _ hl, _, _, rfl, by rfl, by rfl, ?_, ?_⟩
      · rcases List.mem_cons.mp hp with rfl | hp
        · exact Ne.symm hne
        · exact hoff _ (.tail _ hp)
      · rw [hb, List.map_append]
        exact hvs.snoc hd1 hd2 hd4 (by simp only [codes, List.length_map]; omega)
      · simp only [List.length_append, List.length_cons, List.length_nil]
        omega
    · rename (¬(txt wd).length ≠ 0) => hq
      have hw0 : wd.length = 0 := by omega
      rename Fr _ _ _ _ => F8
      rename News _ _ _ _ => N8
      refine TPost.next F8 N8 ((lc, listOf vs'.toArray n') :: news) (fun p hp => hp) hoff ⟨.tail _ hl, _, _, rfl, by rfl, by rfl, ?_, by omega⟩
      rw [hstep, if_pos hw0, List.append_nil]
      exact hvs
  · clear F1 N1
    rintro m₁ nx h tk hmem ⟨vs', n', rfl, h1, h2, hvs, hln⟩ F' N'
    have F9 := pin2 F' h1 h2
    clear F'
    k_steps
    have hul : us.length = ws.length := by have := hs.length; rwa [List.length_map] at this
    rw [hul, List.take_length] at hvs
    refine hret _ [(lc, listOf vs'.toArray n')] _ _ (by assumption) (fun p hp => ?_) (fun q hq p hp => ?_) ⟨lc, n', vs', rfl, List.mem_append.mpr (.inr (.head _)), hvs⟩
    · rename News h₀ L _ _ => N8
      refine N8 p ?_
      rcases List.mem_append.mp hp with hp | hp
      · exact .tail _ hp
      · rw [List.mem_singleton.mp hp]; exact .head _
    · rw [List.mem_singleton.mp hp]
      exact hOff q hq _ (.head _)
end Mine
end

-- CG
section
open PySem PySem.W PySem.Spec PySem.Calls PyProof.Rows PyProof.Rows.LCg
namespace Mine
/-- a Headers object of the ledger that tells these words -/
def IsTab (led : Led) (r : Value) (ws : List (List Nat × Nat)) : Prop := ∃ (x dx lh : Addr) (n : Nat) (hh : Int) (t : Tok) (vs : List Value), r = .ref x ∧ (lh, listOf vs.toArray n) ∈ led ∧ (x, instObj 182 dx) ∈ led ∧ (dx, dictOf [⟨hh, .str (PySem.Str.ofString "_headers") t, .ref lh⟩] 1) ∈ led ∧ PairAre IsHead led vs ws
def RelT : Nat → Led → List Value → List (List Nat × Nat) → Prop := fun _ led vs d => (∃ r, vs = [r] ∧ IsTab led r d) ∧ d.length ≤ 32 ∧ ∀ p ∈ d, p.2 < 16 ∧ p.1.length ≤ 5
def OutItems : Nat → Led → Value → List (List Nat × Nat) → Prop := fun _ led r d => ∃ (l : Addr) (n : Nat) (us : List Value), r = .ref l ∧ (l, listOf us.toArray n) ∈ led ∧ PairAre IsHead led us d
def OutWords : Nat → Led → Value → List (List Nat × Nat) → Prop := fun _ led r d => ∃ (l : Addr) (n : Nat) (us : List Value), r = .ref l ∧ (l, listOf us.toArray n) ∈ led ∧ StrsAre us (d.map fun p => txt p.1)
local macro_rules | `(tactic| walk_at "subscriptTail") => `(tactic| (refine Hold.out ?_))
local macro_rules | `(tactic| walk_at "subscriptTail Attribute Slice ref ref") => `(tactic| (refine Hold.out ?_))
theorem items_tells : Tell1 10 146 RelT OutItems := by
  unfold Tell1
  k_with_none
  w_top off
  k_fill
  intro w loose mean mg mb d dp un gd cn cs a ccd cl outer A₀ base h₀ L m news s vs Q E B F X N T hk hR hd hu hret
  obtain ⟨⟨r, rfl, x, dx, lh, n, hh, t, vsH, rfl, hl, hx, hdx, hP⟩, hlen, hfit⟩ := hR
  replace N : News h₀ L s.heap ((lh, listOf vsH.toArray n) :: (x, instObj 182 dx) :: (dx, dictOf [⟨hh, .str (PySem.Str.ofString "_headers") t, .ref lh⟩] 1) :: news) := fun p hp => N p (by
    rcases List.mem_cons.mp hp with rfl | hp
    · exact hl
    rcases List.mem_cons.mp hp with rfl | hp
    · exact hx
    rcases List.mem_cons.mp hp with rfl | hp
    · exact hdx
    · exact hp)
  refine wpAny_call ?_
  k_dflt ktr_enter
  k_steps
  unfold Hold
  have hl32 : vsH.length ≤ 32 := by rw [hP.length]; exact hlen
  refine kba_turn (value' := PySem.Expr.Name (PySem.Str.ofString "_") ⟨0, 0, 0, 0⟩) (fun _ => rfl) ?_
  refine' kmk_slice (its := vsH.toArray) (lo := none) (hi := none) ?e1 ?e2 ?e3 ?e4 ?e5 ?_ ?e6 ?e7 ?e8
  case e1 => k_asm
  case e2 => k_asm
  case e3 => exact News.isList (by k_asm) (.head _)
  case e4 => exact PySem.IsPart.none
  case e5 => exact PySem.IsPart.none
  case e6 => with_unfolding_all rfl
  case e7 => intro _; with_unfolding_all rfl
  case e8 => rw [sizeLine_eq, List.size_toArray]; omega
  intro D hD FD ND ltD
  rw [slicePick_all] at ND
  k_steps
  rename News h₀ L _ _ => N8
  refine hret _ [(D, listOf vsH.toArray 0)] _ _ (by assumption) (fun p hp => ?_) (fun q hq p hp => ?_) ⟨D, 0, vsH, rfl, List.mem_append.mpr (.inr (.head _)), hP.mono fun p hp => List.mem_append.mpr (.inl hp)⟩
  · refine N8 p ?_
    rcases List.mem_append.mp hp with hp | hp
    · exact .tail _ (.tail _ (.tail _ (.tail _ hp)))
    · rw [List.mem_singleton.mp hp]; exact .head _
  · rw [List.mem_singleton.mp hp]
    exact Nat.ne_of_lt (ltD q (.tail _ (.tail _ (.tail _ hq))))
local macro_rules | `(tactic| walk_at "SrcLP") => `(tactic| (refine Hold.out ?_))
theorem values_tells : Tell1 10 139 RelT OutWords := by
  unfold Tell1
  k_with_none
  w_top off
  k_fill
  intro w loose mean mg mb d dp un gd cn cs a ccd cl outer A₀ base h₀ L m news s vs Q E B F X N T hk hR hd hu hret
  obtain ⟨⟨r, rfl, x, dx, lh, n, hh, t, vsH, rfl, hl, hx, hdx, hP⟩, hlen, hfit⟩ := hR
  replace N : News h₀ L s.heap ((lh, listOf vsH.toArray n) :: (x, instObj 182 dx) :: (dx, dictOf [⟨hh, .str (PySem.Str.ofString "_headers") t, .ref lh⟩] 1) :: news) := fun p hp => N p (by
    rcases List.mem_cons.mp hp with rfl | hp
    · exact hl
    rcases List.mem_cons.mp hp with rfl | hp
    · exact hx
    rcases List.mem_cons.mp hp with rfl | hp
    · exact hdx
    · exact hp)
  refine wpAny_call ?_
  k_dflt ktr_enter
  have hl32 : vsH.length ≤ 32 := by rw [hP.length]; exact hlen
  k_steps
  unfold Hold
  rename Fr _ _ _ _ => F8
  rename News _ _ _ _ => N8
  refine LCp.SrcLP.ledger (its := vsH.toArray) (by rfl) F8 N8 (.head _) (by rw [List.size_toArray, sizeLine_eq]; omega) fun gg => ?_
  refine restP (n := vsH.toArray.size) (fun j ys nw => nw = (lh, listOf vsH.toArray n) :: (x, instObj 182 dx) :: (dx, dictOf [⟨hh, .str (PySem.Str.ofString "_headers") t, .ref lh⟩] 1) :: news ∧ StrsAre ys ((d.take j).map fun p => txt p.1)) ?turn ?fin _ 0 [] _ (by rw [Nat.zero_add]) ⟨rfl, .nil⟩
  case turn =>
    rintro j ys nw v hj ⟨rfl, hys⟩ hv
    obtain ⟨ta, nt, _, _, p, rfl, hp, ⟨tt, tu, rfl, rfl⟩, hpm⟩ := hP.get (i := j) (v := v) (by simpa using hv)
    refine ⟨ta, _, _, _, nt, rfl, .tail _ (.tail _ (.tail _ hpm)), rfl, rfl, ?_⟩
    intro I2 oI2 C oC D2 m₂ h2 tk2 E' hC hx1 hx2 F9 N9 hof hne
    k_steps
    refine CompEnd.intro F9 N9 _ (fun p hp => hp) hof (.inr ⟨_, .head _, rfl, _, rfl⟩) ⟨rfl, ?_⟩
    rw [List.take_add_one, hp, Option.toList_some, List.map_append]
    exact PySem.W.kct_snoc hys
  case fin =>
    rintro ys nw ⟨rfl, hys⟩
    intro D3 h3 tk3 F3 N3 o3
    k_steps
    rw [List.size_toArray, hP.length, List.take_length] at hys
    rename News h₀ L _ _ => N8
    refine hret _ [(D3, lst ys)] _ _ (by assumption) (fun p hp => ?_) (fun q hq p hp => ?_) ⟨D3, ys.length, ys, rfl, List.mem_append.mpr (.inr (.head _)), hys⟩
    · refine N8 p ?_
      rcases List.mem_append.mp hp with hp | hp
      · exact .tail _ (.tail _ (.tail _ (.tail _ hp)))
      · rw [List.mem_singleton.mp hp]; exact .head _
    · rw [List.mem_singleton.mp hp]
      exact Mine.Off1.mem o3 q (.tail _ (.tail _ (.tail _ hq)))
end Mine
end

-- CI
section
open PySem PySem.W PySem.Spec PySem.Calls PyProof.Rows PyProof.Rows.LCg
namespace Mine
def RelGet : Nat → Led → List Value → List (List Nat × Nat) → Prop := fun _ led vs d => (∃ r t, vs = [r, .str (PySem.Str.ofString "A") t] ∧ IsTab led r d) ∧ d.length ≤ 32 ∧ ∀ p ∈ d, p.2 < 16 ∧ p.1.length ≤ 5
def ringsOf (d : List (List Nat × Nat)) : List (List Nat) := (d.filter fun p => p.2 == 0).map (·.1)
def OutRings : Nat → Led → Value → List (List Nat × Nat) → Prop := fun _ led r d => ∃ (l : Addr) (n : Nat) (us : List Value), r = .ref l ∧ (l, listOf us.toArray n) ∈ led ∧ StrsAre us ((ringsOf d).map txt)
local macro_rules | `(tactic| walk_at "CompSrcT") => `(tactic| (refine Hold.out ?_))
local macro_rules | `(tactic| walk_at "eval Name") => `(tactic| k_extra "free name")
theorem lower_name_fin : ∀ k : Fin 16, Txt.lower (⟨#[97 + k.val]⟩ : PySem.Str) = ⟨#[97 + k.val]⟩ := by decide +kernel
theorem lower_name {p : List Nat × Nat} (h : p.2 < 16) : Txt.lower (nameOf p) = ⟨#[97 + p.2]⟩ := by
  unfold nameOf
  split
  · exact lower_txt h
  · exact lower_name_fin ⟨p.2, h⟩
theorem a_iff (k : Nat) : ((⟨#[97 + k]⟩ : PySem.Str) == Str.ofString "a") = decide (k = 0) := by
  by_cases h : k = 0
  · subst h
    decide +kernel
  · rw [decide_eq_false h]
    have e : Str.ofString "a" = (⟨#[97]⟩ : PySem.Str) := by decide +kernel
    rw [e, beq_eq_false_iff_ne]
    intro q
    injection q with q
    injection q with q
    injection q with q _
    omega
theorem ringsOf_snoc (d : List (List Nat × Nat)) (p : List Nat × Nat) : ringsOf (d ++ [p]) = ringsOf d ++ (if p.2 = 0 then [p.1] else []) := by
  unfold ringsOf
  rw [List.filter_append, List.map_append]
  by_cases h : p.2 = 0 <;> simp [h]
theorem get_all_tells : Tell1 15 121 RelGet OutRings := by
  unfold Tell1
  k_with_none
  w_top off
  k_fill
  intro w loose mean mg mb d dp un gd cn cs a ccd cl outer A₀ base h₀ L m news s vs Q E B F X N T hk hR hd hu hret
  obtain ⟨⟨r, tA, rfl, x, dx, lh, n, hh, t, vsH, rfl, hl, hx, hdx, hP⟩, hlen, hfit⟩ := hR
  replace N : News h₀ L s.heap ((lh, listOf vsH.toArray n) :: (x, instObj 182 dx) :: (dx, dictOf [⟨hh, .str (PySem.Str.ofString "_headers") t, .ref lh⟩] 1) :: news) := fun p hp => N p (by
    rcases List.mem_cons.mp hp with rfl | hp
    · exact hl
    rcases List.mem_cons.mp hp with rfl | hp
    · exact hx
    rcases List.mem_cons.mp hp with rfl | hp
    · exact hdx
    · exact hp)
  have hl32 : vsH.length ≤ 32 := by rw [hP.length]; exact hlen
  refine wpAny_call ?_
  (k_dflt (refine' code_defC ?k1 ?k2 ?k3 ?k4 ?k5 ?kA ?kF ?kK ?k6 ?k7 ?k8 ?k9 ?kB ?kD ?_ ?c2 ?c3 ?c4; (case kA => exact rfl); (case kF => exact rfl); (case kK => assumption); (case k1 => k_asm); (case k2 => k_asm); (case k3 => k_asm); (case k4 => k_asm); (case k5 => k_asm); (case k6 => k_is); (case k7 => k_is); (case k8 => ktr_room); (case k9 => exact BindsTo.of_eq rfl); (case kB => exact rfl); (case kD => decide +kernel); (case c2 => exact rfl); (case c3 => exact rfl); (case c4 => exact rfl); k_whole))
  intro g' L' h' tk' cells' FG' F' N' Y' B' X' T' l1
  k_cells Y'
  rename_i oL0 dL0
  (try simp only [List.cons_append, List.nil_append] at N')
  (try dsimp only)
  (try k_fold)
  have hOff : OwnOff news [L' + 1] := fun p hp b hb => by
    have hlt := l1 p (.tail _ (.tail _ (.tail _ hp)))
    rw [List.mem_singleton.mp hb]
    exact Nat.ne_of_lt (Nat.lt_succ_of_lt hlt)
  have q1 : @Ne Nat lh (L' + 1) := Nat.ne_of_lt (Nat.lt_succ_of_lt (l1 _ (.head _)))
  have q2 : @Ne Nat x (L' + 1) := Nat.ne_of_lt (Nat.lt_succ_of_lt (l1 _ (.tail _ (.head _))))
  have q3 : @Ne Nat dx (L' + 1) := Nat.ne_of_lt (Nat.lt_succ_of_lt (l1 _ (.tail _ (.tail _ (.head _)))))
  (k_with "call ref" => ((refine' useC ?k1 ?k2 ?k3 ?k4 ?k5 ?kK ?kR ?kd ?ku ?_); (case k1 => k_asm); (case k2 => k_asm); (case k3 => k_asm); (case k4 => k_asm); (case k5 => k_asm); (case kK => first | exact rfl | assumption); (case kR => exact ⟨by decide +kernel, by decide +kernel⟩); (case kd => ktr_room); (case ku => ktr_units); intro h9 tk9 F9 N9; (try dsimp only)))
  k_steps
  unfold Hold
  rename Fr _ _ _ _ => F8
  rename News _ _ _ _ => N8
  rename Obj => oL
  rename (Obj.data oL = _) => dL
  refine LCt.CompSrcT.ledger (its := vsH.toArray) (by rfl) F8 N8 (.tail _ (.head _)) (by rw [List.size_toArray, sizeLine_eq]; omega) fun gg => ?_
  refine restT (n := vsH.toArray.size) (fun j ys nw => nw = (L' + 1, oL) :: (lh, listOf vsH.toArray n) :: (x, instObj 182 dx) :: (dx, dictOf [⟨hh, .str (PySem.Str.ofString "_headers") t, .ref lh⟩] 1) :: news ∧ StrsAre ys ((ringsOf (d.take j)).map txt)) ?turn ?fin _ 0 [] _ (by rw [Nat.zero_add]) ⟨rfl, .nil⟩
  case turn =>
    rintro j ys nw v I2 oI2 C oC D2 m₂ h2 tk2 E' hj ⟨rfl, hys⟩ hv hC hx1 F9 N9 hof hne
    obtain ⟨ta, nt, _, _, p, rfl, hp, ⟨tt, tu, rfl, rfl⟩, hpm⟩ := hP.get (i := j) (v := v) (by simpa using hv)
    obtain ⟨hpt, hpl⟩ := hfit p (List.mem_of_getElem? hp)
    have hT2 : IsTup h2 ta #[.str (nameOf p) tt, .str (txt p.1) tu] := News.isTup N9 (.tail _ (.tail _ (.tail _ (.tail _ (.tail _ (.tail _ (.tail _ hpm)))))))
    have hmL : (L' + 1, oL) ∈ (I2, oI2) :: (C, oC) :: (D2, lst ys) :: (L' + 1, oL) :: (lh, listOf vsH.toArray n) :: (x, instObj 182 dx) :: (dx, dictOf [⟨hh, .str (PySem.Str.ofString "_headers") t, .ref lh⟩] 1) :: news := .tail _ (.tail _ (.tail _ (.head _)))
    (k_with "free name" => (with_unfolding_all refine' lcf_free (c := L' + 1) (o := oL) N9 ?c hmL dL ?_ ?a ?b; (case c => rfl); (case a => rfl); (case b => rfl)))
    (k_with "call builtin:str.lower" => (refine PySem.W.KXw.lower (lower_name hpt) ?hl2 ?_; (case hl2 => (rw [lower_name hpt]; rfl)); intro t' k'; (try dsimp only)))
    k_steps
    · rename ((_ == Str.ofString "a") = true) => hq
      rw [a_iff p.2] at hq
      have h0 : p.2 = 0 := of_decide_eq_true hq
      refine CompEnd.intro F9 N9 _ (fun p hp => hp) hof (.inr ⟨_, .tail _ (.head _), rfl, _, rfl⟩) ⟨rfl, ?_⟩
      rw [List.take_add_one, hp, Option.toList_some, ringsOf_snoc, if_pos h0, List.map_append]
      exact PySem.W.kct_snoc hys
    · rename ((_ == Str.ofString "a") = false) => hq
      rw [a_iff p.2] at hq
      have h0 : ¬ p.2 = 0 := of_decide_eq_false hq
      refine CompEnd.intro F9 N9 _ (fun p hp => hp) hof (.inr ⟨_, .tail _ (.head _), rfl, _, rfl⟩) ⟨rfl, ?_⟩
      rw [List.take_add_one, hp, Option.toList_some, ringsOf_snoc, if_neg h0, List.append_nil]
      exact hys
  case fin =>
    rintro ys nw ⟨rfl, hys⟩
    intro D3 h3 tk3 F3 N3 o3
    k_steps
    rw [List.size_toArray, hP.length, List.take_length] at hys
    rename News h₀ L _ _ => N8
    refine hret _ [(D3, lst ys)] _ _ (by assumption) (fun p hp => ?_) (fun q hq p hp => ?_) ⟨D3, ys.length, ys, rfl, List.mem_append.mpr (.inr (.head _)), hys⟩
    · refine N8 p ?_
      rcases List.mem_append.mp hp with hp | hp
      · exact .tail _ (.tail _ (.tail _ (.tail _ (.tail _ hp))))
      · rw [List.mem_singleton.mp hp]; exact .head _
    · rw [List.mem_singleton.mp hp]
      exact Mine.Off1.mem o3 q (.tail _ (.tail _ (.tail _ (.tail _ hq))))
end Mine
end

-- LG
section
open PySem PySem.W PySem.Spec PySem.Calls PyProof.Rows PyProof.Rows.LCg
namespace Mine
/-- a second stop for the walk -/
def Stop (P : Prop) : Prop := P
section
variable {prog : Program} {w : World} {A : Around} {E : Value → Shared → Prop} {s : Shared} {h₀ : Heap} {L : Addr} {m : PySem.Str → Option Value} {env : Env}
/-- what a comprehension's loop over the list `ax` owes: from its start to `Fin`, for every reader of its end -/
def CompLoopG (prog : Program) (w : World) (A : Around) (h₀ : Heap) (L : Addr) (m : PySem.Str → Option Value) (env : Env) (e : PySem.Expr) (scope : Scope) (cl : List (PySem.Str × Addr)) (s : Shared) (ax : Addr) (its : Array Value) (Fin : List Value → Led → Prop) (news : Led) : Prop :=
  ∀ (I : Addr) (oI : Obj) (C D : Addr) (h : Heap) (tk : Nat) (oC : Obj) (m₁ : PySem.Str → Option Value) (R : Result → Shared → Prop), NsObj oC m₁ → Fr h₀ L h m → h.IsListIter I ax 0 → h.IsList ax its → News h₀ L h ((I, oI) :: (C, oC) :: (D, lst []) :: news) → Off3 I C D news → ((@Ne Nat I C) ∧ (@Ne Nat I D) ∧ (@Ne Nat C D)) →
    (∀ h' tk' ys news' m', Fr h₀ L h' m → News h₀ L h' ((D, lst ys) :: news') → Off1 D news' → h'.Ns C m' → (∀ p ∈ news', p.1 ≠ C) → Fin ys news' → R (.ok .next) { s with heap := h', toks := tk' }) →
    codeAny (model prog w) A (.compLoop e 0 (.ref I) (.ref D) (compEnvC scope cl C env)) R { s with heap := h, toks := tk }

theorem comp_setup {elt target iter : PySem.Expr} {ifs : List PySem.Expr} {rest : List Comprehension} {scope : Scope} {cl : List (PySem.Str × Addr)} {pos : Pos} {I ax : Addr} {oI : Obj} {its : Array Value} {news : Led} {RR : Value → Addr → Result → Shared → Prop}
    (hcell : ∀ y ∈ scope.names, y.2 ≠ .cell) (hkind : scope.kind = .function) (F : Fr h₀ L s.heap m) (N : News h₀ L s.heap ((I, oI) :: news)) (hit : s.heap.IsListIter I ax 0) (hl : s.heap.IsList ax its) (off : ∀ p ∈ news, p.1 ≠ I)
    (loop : ∀ C D h₁ tk oC m₁, NsObj oC m₁ → Fr h₀ L h₁ m → h₁.IsListIter I ax 0 → h₁.IsList ax its → News h₀ L h₁ ((I, oI) :: (C, oC) :: (D, lst []) :: news) → Off3 I C D news → ((@Ne Nat I C) ∧ (@Ne Nat I D) ∧ (@Ne Nat C D)) →
      codeAny (model prog w) A (.compLoop (.ListComp elt (⟨target, iter, ifs, 0⟩ :: rest) scope pos) 0 (.ref I) (.ref D) (compEnvC scope cl C env)) (RR (.ref D) C) { s with heap := h₁, toks := tk }) :
    wpAny (model prog w) A (newList []) (fun acc s₃ => wpAny (model prog w) A (newFunctionEnv scope env.globals cl [] env.qual none .none (some env)) (fun cenv s₄ =>
      codeAny (model prog w) A (.compStart (.ListComp elt (⟨target, iter, ifs, 0⟩ :: rest) scope pos) 0 (.ref I) acc { cenv with scope := relabel scope env }) (RR acc cenv.locals) s₄) E s₃) E s := by
  refine wpAny_newObj_type (wpAny_newFunctionEnv hcell (by intro y hy; simp at hy) (fun h₁ hns hsb => ?_) hkind)
  dsimp only at hns hsb ⊢
  generalize hH : s.heap.push { cls := .type "list", dict := none, data := .seq ([] : List Value).toArray } = H at hns hsb ⊢
  have hC : H.objs.size = s.heap.objs.size + 1 := by rw [← hH, Heap.size_push]
  have far : ∀ b o, s.heap.get? b = some o → b ≠ H.objs.size ∧ b ≠ s.heap.objs.size := fun b o e => by
    have := Heap.lt_size e
    exact ⟨by rw [hC]; exact Nat.ne_of_lt (Nat.lt_succ_of_lt this), Nat.ne_of_lt this⟩
  have kept : ∀ b o, s.heap.get? b = some o → h₁.get? b = some o := fun b o e => hsb.extBut b o (far b o e).1 (Heap.get?_push_of_some _ (hH ▸ Heap.get?_push_of_some _ e))
  have hDC : s.heap.objs.size ≠ H.objs.size := by rw [hC]; exact Nat.ne_of_lt (Nat.lt_succ_self _)
  have hacc : h₁.get? s.heap.objs.size = some (lst []) := hsb.extBut _ _ hDC (Heap.get?_push_of_some _ (hH ▸ Heap.get?_push_size _ rfl))
  have new₀ : ∀ a, s.heap.objs.size ≤ a → h₀.get? a = none := fun a ha => by
    cases e : h₀.get? a with
    | none => rfl
    | some o => exact absurd (Heap.lt_size (F.keep a o e)) (Nat.not_lt.mpr ha)
  have hLl : L < s.heap.objs.size := F.ns.lt
  obtain ⟨oC, heC, hoC⟩ := ns_obj hns
  have hI := N (I, oI) (.head _)
  have farI := far I oI hI.1
  have N₁ : News h₀ L h₁ ((I, oI) :: (H.objs.size, oC) :: (s.heap.objs.size, lst []) :: news) := fun p hp => by
    rcases List.mem_cons.mp hp with rfl | hp
    · exact ⟨kept _ _ hI.1, hI.2⟩
    rcases List.mem_cons.mp hp with rfl | hp
    · exact ⟨heC, by show @Ne Nat H.objs.size L; rw [hC]; exact Nat.ne_of_gt (Nat.lt_succ_of_lt hLl), new₀ _ (by rw [hC]; exact Nat.le_succ _)⟩
    rcases List.mem_cons.mp hp with rfl | hp
    · exact ⟨hacc, Nat.ne_of_gt hLl, new₀ _ (Nat.le_refl _)⟩
    · have z := N p (.tail _ hp)
      exact ⟨kept _ _ z.1, z.2⟩
  have off₁ : Off3 I H.objs.size s.heap.objs.size news := Off3.of fun p hp => by
    have z := far _ _ (N p (.tail _ hp)).1
    exact ⟨off p hp, z.1, z.2⟩
  have hit₁ : h₁.IsListIter I ax 0 := hit.at fun o e => kept _ _ e
  have go := fun tk => loop H.objs.size s.heap.objs.size h₁ tk oC _ hoC (F.keeps kept) hit₁ (hl.at fun o e => kept _ _ e) N₁ off₁ ⟨farI.1, farI.2, Ne.symm hDC⟩
  exact codeAny_compStart_list (go _) (wpAny_pyIter_listiter hit₁ (go _))

theorem ListComp_G {elt target iter : PySem.Expr} {ifs : List PySem.Expr} {rest : List Comprehension} {scope : Scope} {cl : List (PySem.Str × Addr)} {pos : Pos} {Q : Value → Shared → Prop} (_F₀ : Fr h₀ L s.heap m)
    (hclos : closureFor scope env = pure cl) (hcell : ∀ y ∈ scope.names, y.2 ≠ .cell) (hkind : scope.kind = .function)
    (hnames : ∀ y ∈ scope.names, y.2 = .local → scope.names.lookup y.1 = some .local)
    (h : wpAny (model prog w) A (eval iter env) (fun xv s₁ => Stop (∃ ax its n news, xv = .ref ax ∧ Fr h₀ L s₁.heap m ∧ News h₀ L s₁.heap news ∧ (ax, listOf its n) ∈ news ∧
      ∀ g, CompLoopG prog w A h₀ L m env (.ListComp elt (⟨target, iter, ifs, 0⟩ :: rest) scope pos) scope cl { s₁ with heap := g } ax its (FinE h₀ L m { s₁ with heap := g } Q) news)) E s)
    (hs : ∀ x, foldedSetIterable iter env x = pure x := by intro _; rfl) :
    wpAny (model prog w) A (eval (.ListComp elt (⟨target, iter, ifs, 0⟩ :: rest) scope pos) env) Q E s := by
  rw [eval_ListComp]
  refine wpAny_comprehension_free (use := none) rfl hs hclos hkind hnames (wpAny_mono h (fun xv s₁ h₁ => ?_) fun _ _ e => e)
  obtain ⟨ax, its, n, news, rfl, F, N, hm, G⟩ := h₁
  have hl : s₁.heap.IsList ax its := ⟨_, (N _ hm).1, rfl, n, rfl⟩
  refine wpAny_pyIter_list hl ?_
  have up : ∀ b o, s₁.heap.get? b = some o → (s₁.heap.push { cls := .type "list_iterator", data := .fields #[.ref ax, .int 0 0] }).get? b = some o := fun b o e => Heap.get?_push_of_some _ e
  refine comp_setup (I := s₁.heap.objs.size) (oI := { cls := .type "list_iterator", data := .fields #[.ref ax, .int 0 0] }) (ax := ax) (its := its) (news := news) hcell hkind (F.keeps up) (fun p hp => ?_) ⟨_, Heap.get?_push_size _ rfl, rfl, rfl⟩ (hl.push _) (fun p hp => Nat.ne_of_lt (Heap.lt_size (N p hp).1)) fun C D h₁ tk oC m₁ hoC F₁ hit hl₁ N₁ off ne => ?_
  · rcases List.mem_cons.mp hp with rfl | hp
    · exact ⟨Heap.get?_push_size _ rfl, Nat.ne_of_gt F.ns.lt, next_is_new F⟩
    · exact ⟨up _ _ (N p hp).1, (N p hp).2⟩
  · refine G _ _ _ C D h₁ tk oC m₁ _ hoC F₁ hit hl₁ N₁ off ne fun h' tk' ys news' m' F' N' o1 hn hCn fin => ?_
    have hCD : C ≠ D := ne.2.2
    have hC := N₁ (C, oC) (.tail _ (.head _))
    refine ⟨m', hn, fun h'' hs'' => fin D h'' tk' (F'.change hs'' hC.2.1 hC.2.2) (fun p hp => ?_) o1⟩
    refine ⟨hs''.extBut _ _ ?_ (N' p hp).1, (N' p hp).2⟩
    rcases List.mem_cons.mp hp with rfl | hp
    · exact Ne.symm hCD
    · exact hCn p hp
end
end Mine
end

-- LP2
section
open PySem PySem.W PySem.Spec PySem.Calls PyProof.Rows PyProof.Rows.LCg
namespace Mine
section
variable {prog : Program} {w : World} {A : Around} {E : Value → Shared → Prop} {s : Shared} {h₀ : Heap} {L : Addr} {m : PySem.Str → Option Value} {env : Env}
/-- a comprehension over pairs of a list of the ledger, with one test, by an invariant -/
theorem pt_loop {ct elt iter : PySem.Expr} {x x₂ : PySem.Str} {px px₂ tp : Pos} {tk₀} {scope : Scope} {cl : List (PySem.Str × Addr)} {pos : Pos} {ax : Addr} {its : Array Value} {n : Nat} {news : Led} {Fin : List Value → Led → Prop} (J : Nat → List Value → Led → Prop)
    (hh : A.handled = none) (hkind : scope.kind = .function) (hx : scope.names.lookup x = some .local) (hx₂ : scope.names.lookup x₂ = some .local) (hxx : x ≠ x₂) (hm : (ax, listOf its n) ∈ news) (hsz : its.size ≤ sizeLine) (hj : J 0 [] news) (hsrc : ∀ i ys nw, J i ys nw → (ax, listOf its n) ∈ nw)
    (turn : ∀ i ys nw v, its[i]? = some v → J i ys nw → ∃ (t : Addr) (ot : Obj) (v₁ v₂ : Value) (nt : Nat), v = .ref t ∧ (t, ot) ∈ nw ∧ ot.cls = .type "tuple" ∧ ot.data = .seq #[v₁, v₂] nt ∧
      ∀ I oI C oC D m₂ h tk (E' : Value → Shared → Prop), NsObj oC m₂ → m₂ x = some v₁ → m₂ x₂ = some v₂ → Fr h₀ L h m → News h₀ L h ((I, oI) :: (C, oC) :: (D, lst ys) :: nw) → Off3 I C D nw → ((@Ne Nat I C) ∧ (@Ne Nat I D) ∧ (@Ne Nat C D)) →
      wpAny (model prog w) A (isTrue ct (compEnvC scope cl C env) (eval ct (compEnvC scope cl C env))) (fun ok s' => if ok = true then
        wpAny (model prog w) A (eval elt (compEnvC scope cl C env)) (CompEnd h₀ L m { s with heap := h, toks := tk } I oI C oC D (lst ys) (fun _ => True) (fun y nw' => J (i + 1) (ys ++ [y]) nw')) E' s'
        else CompEnd h₀ L m { s with heap := h, toks := tk } I oI C oC D (lst ys) (fun _ => True) (fun _ nw' => J (i + 1) ys nw') Value.none s') E' { s with heap := h, toks := tk })
    (fin : ∀ ys nw, J its.size ys nw → Fin ys nw) :
    CompLoopG prog w A h₀ L m env (.ListComp elt [⟨.Tuple [.Name x px, .Name x₂ px₂] tk₀ tp, iter, [ct], 0⟩] scope pos) scope cl s ax its Fin news := by
  intro I oI C D h tk oC m₁ R hoC F hit hl N off ne done
  have hIL := N (I, oI) (.head _)
  have hCL := N (C, oC) (.tail _ (.head _))
  have hDL := N (D, lst []) (.tail _ (.tail _ (.head _)))
  have hax : ax ≠ I := fun e => (off.mem _ hm).1 e
  have haC : ax ≠ C := fun e => (off.mem _ hm).2.1 e
  have haD : ax ≠ D := fun e => (off.mem _ hm).2.2 e
  refine kct_loop (fun k s' => ∃ h' tk' i ys m' nw, s' = { s with heap := h', toks := tk' } ∧ i ≤ its.size ∧ k = its.size + 1 - i ∧ ys.length ≤ i ∧ h'.IsListIter I ax i ∧ Fr h₀ L h' m ∧ h'.Ns C m' ∧ News h₀ L h' ((D, lst ys) :: nw) ∧ Off3 I C D nw ∧ J i ys nw) ?_ (its.size + 1)
    ⟨h, tk, 0, [], m₁, news, rfl, Nat.zero_le _, rfl, Nat.le_refl _, hit, F, hoC.ns hCL.1, fun p hp => N p (.tail _ (.tail _ hp)), off, hj⟩
  rintro k s' ⟨h', tk', i, ys, m', nw, rfl, hi, rfl, hyl, hit', F', hn', N', off', hJ⟩
  have W := Walks.list (prog := prog) (w := w) hh I ax hax its
  have hl' : h'.IsList ax its := ⟨_, (N' _ (.tail _ (hsrc _ _ _ hJ))).1, rfl, n, rfl⟩
  by_cases hlt : i < its.size
  · refine W.item i _ _ _ hlt ⟨hit', hl'⟩ fun v h₂ tk₂ hv st₂ hk₂ => ?_
    obtain ⟨t, ot, v₁, v₂, nt, rfl, hmt, hct, hdt, go⟩ := turn i ys nw v hv hJ
    have o3 := off'.mem
    have N₂ : News h₀ L h₂ ((D, lst ys) :: nw) := news_but N' hk₂ fun p hp => by
      rcases List.mem_cons.mp hp with rfl | hp
      · exact Ne.symm ne.2.1
      · exact (o3 p hp).1
    have ht : IsTup h₂ t #[v₁, v₂] := ⟨ot, (N₂ _ (.tail _ hmt)).1, hct, nt, hdt⟩
    refine wpAny_letOwnedTupleGo_listiter st₂.1 (assign_Tuple_tuple hh ht rfl rfl fun h₅ he => ?_)
    have he' : ∀ b o, h₂.get? b = some o → h₅.get? b = some o := fun b o e => he b o (Nat.ne_of_lt (Heap.lt_size e)) e
    have hnC : h₂.Ns C m' := hn'.at' fun o e => hk₂ _ o (by simpa using Ne.symm ne.1) e
    refine assignInOrder_cons (wpAny_assign_Name (wpAny_storeName_local (lookup_relabel_local hx) (hnC.at' fun o e => he' _ o e) (fun h₆ hn₆ hs₆ => ?_) (by simp [compEnvC, relabel, hkind])))
    refine assignInOrder_cons (wpAny_assign_Name (wpAny_storeName_local (lookup_relabel_local hx₂) hn₆ (fun h₃ hn₃ hs₃ => ?_) (by simp [compEnvC, relabel, hkind])))
    refine assignInOrder_nil ?_
    have keep : ∀ b o, b ≠ C → h₂.get? b = some o → h₃.get? b = some o := fun b o hb e => hs₃.extBut b o hb (hs₆.extBut b o hb (he' b o e))
    have hit₃ : h₃.IsListIter I ax (i + 1) := st₂.1.at fun o e => keep _ _ ne.1 e
    obtain ⟨oI', heI, hcI⟩ := hit₃
    obtain ⟨oC', heC, hoC'⟩ := ns_obj hn₃
    have F₃ : Fr h₀ L h₃ m := (((fr_but F' hk₂ (Ne.symm hIL.2.1) hIL.2.2).keeps he').change hs₆ hCL.2.1 hCL.2.2).change hs₃ hCL.2.1 hCL.2.2
    have N₃ : News h₀ L h₃ ((I, oI') :: (C, oC') :: (D, lst ys) :: nw) := fun p hp => by
      rcases List.mem_cons.mp hp with rfl | hp
      · exact ⟨heI, hIL.2⟩
      rcases List.mem_cons.mp hp with rfl | hp
      · exact ⟨heC, hCL.2⟩
      · have z := N₂ p hp
        refine ⟨keep _ _ ?_ z.1, z.2⟩
        rcases List.mem_cons.mp hp with rfl | hp
        · exact Ne.symm ne.2.2
        · exact (o3 p hp).2.1
    refine wpAny_mono (go I oI' C oC' D _ h₃ _ _ hoC' (by simp [hxx]) (by simp) F₃ N₃ off' ne) (fun ok s₄ h₄ => ?_) fun _ _ e => e
    cases ok with
    | true =>
      simp only [if_true] at h₄ ⊢
      refine wpAny_mono h₄ (fun y s₅ h₅ => ?_) fun _ _ e => e
      obtain ⟨g, tk₄, nw₄, rfl, F₄, N₄, off₄, _, J₄⟩ := h₅
      have zD := (N₄ (D, lst ys) (.tail _ (.tail _ (.head _)))).1
      have o4 := off₄.mem
      refine append_at (hsz := by show ys.toArray.size ≤ sizeLine; rw [List.size_toArray]; exact Nat.le_trans (Nat.le_trans hyl hi) hsz) zD fun h₅ hs₅ hD₅ => ?_
      refine ⟨its.size + 1 - (i + 1), by omega, h₅, tk₄, i + 1, ys ++ [y], _, nw₄, rfl, hlt, rfl, by rw [List.length_append, List.length_singleton]; exact Nat.succ_le_succ hyl, ?_, F₄.change hs₅ hDL.2.1 hDL.2.2, (hoC'.ns (N₄ (C, oC') (.tail _ (.head _))).1).sameBut hs₅ ne.2.2, fun p hp => ?_, off₄, J₄⟩
      · exact ⟨oI', hs₅.extBut _ _ ne.2.1 (N₄ (I, oI') (.head _)).1, hcI⟩
      · rcases List.mem_cons.mp hp with rfl | hp
        · exact ⟨hD₅.trans (congrArg some (lst_snoc ys y)), hDL.2⟩
        · have z := N₄ p (.tail _ (.tail _ (.tail _ hp)))
          exact ⟨hs₅.extBut _ _ (o4 p hp).2.2 z.1, z.2⟩
    | false =>
      simp only [Bool.false_eq_true, if_false] at h₄ ⊢
      obtain ⟨g, tk₄, nw₄, rfl, F₄, N₄, off₄, _, J₄⟩ := h₄
      exact ⟨its.size + 1 - (i + 1), by omega, g, tk₄, i + 1, ys, _, nw₄, rfl, hlt, rfl, Nat.le_succ_of_le hyl, ⟨oI', (N₄ (I, oI') (.head _)).1, hcI⟩, F₄, hoC'.ns (N₄ (C, oC') (.tail _ (.head _))).1, fun p hp => N₄ p (.tail _ (.tail _ hp)), off₄, J₄⟩
  · obtain rfl : i = its.size := Nat.le_antisymm hi (Nat.not_lt.mp hlt)
    refine W.done _ _ _ ⟨hit', hl'⟩ fun h₂ tk₂ hk₂ => ?_
    have o3 := off'.mem
    exact done h₂ tk₂ ys nw _ (fr_but F' hk₂ (Ne.symm hIL.2.1) hIL.2.2) (news_but N' hk₂ fun p hp => by
      rcases List.mem_cons.mp hp with rfl | hp
      · exact Ne.symm ne.2.1
      · exact (o3 p hp).1) off'.one (hn'.at' fun o e => hk₂ _ o (by simpa using Ne.symm ne.1) e) (fun p hp => (o3 p hp).2.1) (fin ys nw hJ)
end
end Mine
end

-- LN
section
open PySem PySem.W PySem.Spec PySem.Calls PyProof.Rows PyProof.Rows.LCg
namespace Mine
section
variable {prog : Program} {w : World} {A : Around} {E : Value → Shared → Prop} {s : Shared} {h₀ : Heap} {L : Addr} {m : PySem.Str → Option Value}
/-- a comprehension of two clauses, the second with one test -/
abbrev comp2 (elt : PySem.Expr) (x y : PySem.Str) (px py : Pos) (it1 it2 ct : PySem.Expr) (scope : Scope) (pos : Pos) : PySem.Expr := .ListComp elt [⟨.Name x px, it1, [], 0⟩, ⟨.Name y py, it2, [ct], 0⟩] scope pos
variable {elt it1 it2 ct : PySem.Expr} {x y : PySem.Str} {px py : Pos} {scope : Scope} {pos : Pos}
theorem turn0_eq (it acc : Value) (env : Env) : compTurn (comp2 elt x y px py it1 it2 ct scope pos) 0 it acc env = (standAt it1.pos >>= fun _ => pyNext it >>= fun r => match r with
    | none => pure (.done .next)
    | some v => letOwnedTupleGo (.Name x px) it v >>= fun _ => assign (.Name x px) env v >>= fun _ =>
      eval it2 env >>= fun xv => standAt it2.pos >>= fun _ => foldedSetIterable it2 env xv >>= fun xv => holding [xv] (pyIter xv) >>= fun it' => runOwn (.compStart (comp2 elt x y px py it1 it2 ct scope pos) 1 it' acc env) env >>= fun _ =>
        again (.compLoop (comp2 elt x y px py it1 it2 ct scope pos) 0 it acc env)) := by rfl
theorem turn1_eq (it acc : Value) (env : Env) : compTurn (comp2 elt x y px py it1 it2 ct scope pos) 1 it acc env = (do
    standAt it2.pos
    match ← pyNext it with
    | none => pure (.done .next)
    | some v =>
      letOwnedTupleGo (.Name y py) it v
      assign (.Name y py) env v
      let mut ok := true
      for c in [ct] do
        if ok then ok ← isTrue c env (eval c env)
      if ok then
        (do let _ ← call (.builtin "list.append") [acc, ← eval elt env])
      again (.compLoop (comp2 elt x y px py it1 it2 ct scope pos) 1 it acc env)) := by rfl
theorem start1 {it acc : Value} {env : Env} {R : Result → Shared → Prop} (h0 : codeAny (model prog w) A (.compLoop (comp2 elt x y px py it1 it2 ct scope pos) 1 it acc env) R s)
    (h : wpAny (model prog w) A (pyIter it) (fun it' s' => codeAny (model prog w) A (.compLoop (comp2 elt x y px py it1 it2 ct scope pos) 1 it' acc env) R s') (notedBy (model prog w) A env fun x s' => R (.error x) s') s) :
    codeAny (model prog w) A (.compStart (comp2 elt x y px py it1 it2 ct scope pos) 1 it acc env) R s := by
  refine codeAny_of_tree ?_
  show wpAny _ _ ((compStart (comp2 elt x y px py it1 it2 ct scope pos) 1 it acc env).onRaise (fun x => do noteFrame x env; standAt theWindowsPlace)) _ _ s
  refine wpAny_notedAt ?_
  unfold compStart
  show wpAny _ _ (ask >>= _) _ _ s
  refine wpAny_bind (wpAny_askSetting (wpAny_ite ?_))
  split
  · first
      | exact wpAny_bind (wpAny_pure (wpAny_pure (And.intro rfl h0)))
      | exact wpAny_pure (And.intro rfl h0)
  · refine wpAny_bind (wpAny_rule ?_)
    show wpAny _ _ (standAt it2.pos >>= _) _ _ s
    exact wpAny_bind (wpAny_standAt (wpAny_bind (wpAny_mono h (fun it' s' h' => wpAny_pure (And.intro rfl h')) fun _ _ x => x)))
theorem loop1 {it acc : Value} {env : Env} {R : Result → Shared → Prop} (I : Nat → Shared → Prop)
    (turn : ∀ n s, I n s → wpAny (model prog w) A (pyNext it) (fun r s₁ => match r with
      | none => R (.ok .next) s₁
      | some v => wpAny (model prog w) A (assign (.Name y py) env v) (fun _ s₂ =>
          wpAny (model prog w) A (isTrue ct env (eval ct env)) (fun ok s₃ => if ok = true then wpAny (model prog w) A (eval elt env) (fun xv s₄ =>
            wpAny (model prog w) A (call (.builtin "list.append") [acc, xv]) (fun _ s₅ => ∃ m, m < n ∧ I m s₅) (notedBy (model prog w) A env fun e s' => R (.error e) s') s₄) (notedBy (model prog w) A env fun e s' => R (.error e) s') s₃
            else ∃ m, m < n ∧ I m s₃) (notedBy (model prog w) A env fun e s' => R (.error e) s') s₂) (notedBy (model prog w) A env fun e s' => R (.error e) s') s₁) (notedBy (model prog w) A env fun e s' => R (.error e) s') s)
    (n : Nat) (h : I n s) : codeAny (model prog w) A (.compLoop (comp2 elt x y px py it1 it2 ct scope pos) 1 it acc env) R s := by
  refine codeAny_loop rfl I (fun n s hI => ?_) n h
  show wpAny _ A ((compTurn (comp2 elt x y px py it1 it2 ct scope pos) 1 it acc env).onRaise (fun x => do noteFrame x env; theTreesLotGoes x)) _ _ s
  refine wpAny_noted ?_
  rw [turn1_eq]
  refine wpAny_bind (wpAny_standAt (wpAny_bind (wpAny_mono (turn n s hI) (fun r s₁ h₁ => ?_) fun _ _ h' => h')))
  cases r with
  | none => exact wpAny_pure h₁
  | some v =>
    refine wpAny_bind (wpAny_pure ?_)
    refine wpAny_bind (wpAny_mono h₁ (fun _ s₂ h₂ => ?_) fun _ _ h' => h')
    refine wpAny_bind (wpAny_tests_one (wpAny_mono h₂ (fun okb s₃ h₃ => ?_) fun _ _ h' => h'))
    cases okb with
    | false => exact wpAny_pure ⟨rfl, h₃⟩
    | true => exact wpAny_bind (wpAny_bind (wpAny_mono h₃ (fun x s₄ h₄ => wpAny_bind (wpAny_mono h₄ (fun _ s₅ h₅ => wpAny_pure (wpAny_pure ⟨rfl, h₅⟩)) fun _ _ h' => h')) fun _ _ h' => h'))
theorem loop0 {it acc : Value} {env : Env} {R : Result → Shared → Prop} (I : Nat → Shared → Prop) (hs2 : ∀ xv, foldedSetIterable it2 env xv = pure xv)
    (turn : ∀ n s, I n s → wpAny (model prog w) A (pyNext it) (fun r s₁ => match r with
      | none => R (.ok .next) s₁
      | some v => wpAny (model prog w) A (assign (.Name x px) env v) (fun _ s₂ => wpAny (model prog w) A (eval it2 env) (fun xv s₃ => wpAny (model prog w) A (pyIter xv) (fun it' s₄ =>
          codeAny (model prog w) A (.compStart (comp2 elt x y px py it1 it2 ct scope pos) 1 it' acc env) (fun r s' => match r with | .ok _ => ∃ m, m < n ∧ I m s' | .error e => cameBackBy (model prog w) A env (notedBy (model prog w) A env fun e s' => R (.error e) s') e s') s₄)
            (notedBy (model prog w) A env fun e s' => R (.error e) s') s₃) (notedBy (model prog w) A env fun e s' => R (.error e) s') s₂) (notedBy (model prog w) A env fun e s' => R (.error e) s') s₁) (notedBy (model prog w) A env fun e s' => R (.error e) s') s)
    (n : Nat) (h : I n s) : codeAny (model prog w) A (.compLoop (comp2 elt x y px py it1 it2 ct scope pos) 0 it acc env) R s := by
  refine codeAny_loop rfl I (fun n s hI => ?_) n h
  show wpAny _ A ((compTurn (comp2 elt x y px py it1 it2 ct scope pos) 0 it acc env).onRaise (fun x => do noteFrame x env; theTreesLotGoes x)) _ _ s
  refine wpAny_noted ?_
  rw [turn0_eq]
  refine wpAny_bind (wpAny_standAt (wpAny_bind (wpAny_mono (turn n s hI) (fun r s₁ h₁ => ?_) fun _ _ h' => h')))
  cases r with
  | none => exact wpAny_pure h₁
  | some v =>
    refine wpAny_bind (wpAny_pure ?_)
    refine wpAny_bind (wpAny_mono h₁ (fun _ s₂ h₂ => ?_) fun _ _ h' => h')
    refine wpAny_bind (wpAny_mono h₂ (fun xv s₃ h₃ => ?_) fun _ _ h' => h')
    refine wpAny_bind (wpAny_standAt (wpAny_bind (wpAny_of_eq (hs2 xv) ?_)))
    refine wpAny_bind (wpAny_holding (wpAny_mono h₃ (fun it' s₄ h₄ => ?_) fun _ _ h' => h'))
    refine wpAny_bind (wpAny_runOwn (codeAny_mono h₄ fun r s' hr => ?_))
    cases r with
    | ok f => exact wpAny_pure ⟨rfl, hr⟩
    | error e => exact hr

def cntUpTo (test : Nat → Nat → Bool) (i j : Nat) : Nat := ((List.range j).filter (test i)).length
def cntAll (test : Nat → Nat → Bool) (n : Nat) : Nat → Nat
  | 0 => 0
  | i + 1 => cntAll test n i + cntUpTo test i n
theorem cntUpTo_succ (test : Nat → Nat → Bool) (i j : Nat) : cntUpTo test i (j + 1) = cntUpTo test i j + (if test i j = true then 1 else 0) := by
  unfold cntUpTo
  rw [List.range_succ, List.filter_append, List.length_append]
  by_cases h : test i j = true <;> simp [h]
theorem cntUpTo_le (test : Nat → Nat → Bool) (i j : Nat) : cntUpTo test i j ≤ j := by
  unfold cntUpTo
  exact Nat.le_trans (List.length_filter_le _ _) (by simp)
theorem cntAll_le (test : Nat → Nat → Bool) (n : Nat) : ∀ i, cntAll test n i ≤ i * n
  | 0 => Nat.zero_le _
  | i + 1 => by
    rw [Nat.succ_mul]
    exact Nat.add_le_add (cntAll_le test n i) (cntUpTo_le test i n)
variable {env : Env} {cl : List (PySem.Str × Addr)}
theorem nest_loop {ax ax2 : Addr} {its its2 : Array Value} {n n2 : Nat} {news : Led} {Fin : List Value → Led → Prop} {test : Nat → Nat → Bool}
    (hh : A.handled = none) (hkind : scope.kind = .function) (hx : scope.names.lookup x = some .local) (hy : scope.names.lookup y = some .local) (hxy : x ≠ y) (hm : (ax, listOf its n) ∈ news) (hm2 : (ax2, listOf its2 n2) ∈ news) (hsz : its.size * its2.size ≤ sizeLine)
    (hs2 : ∀ C xv, foldedSetIterable it2 (compEnvC scope cl C env) xv = pure xv)
    (src : ∀ I oI C oC D ys h tk (Q E' : Value → Shared → Prop), News h₀ L h ((I, oI) :: (C, oC) :: (D, lst ys) :: news) → Fr h₀ L h m → Q (.ref ax2) { s with heap := h, toks := tk } → wpAny (model prog w) A (eval it2 (compEnvC scope cl C env)) Q E' { s with heap := h, toks := tk })
    (tst : ∀ i j v u, its[i]? = some v → its2[j]? = some u → ∀ I oI C oC D ys m₂ h tk (E' : Value → Shared → Prop), NsObj oC m₂ → m₂ x = some v → m₂ y = some u → Fr h₀ L h m → News h₀ L h ((I, oI) :: (C, oC) :: (D, lst ys) :: news) →
      wpAny (model prog w) A (isTrue ct (compEnvC scope cl C env) (eval ct (compEnvC scope cl C env))) (fun ok s' => ∃ tk', s' = { s with heap := h, toks := tk' } ∧ ok = test i j) E' { s with heap := h, toks := tk })
    (el : ∀ v I oI C oC D ys m₂ h tk (E' : Value → Shared → Prop), NsObj oC m₂ → m₂ x = some v → Fr h₀ L h m → News h₀ L h ((I, oI) :: (C, oC) :: (D, lst ys) :: news) →
      wpAny (model prog w) A (eval elt (compEnvC scope cl C env)) (fun _ s' => ∃ tk', s' = { s with heap := h, toks := tk' }) E' { s with heap := h, toks := tk })
    (fin : ∀ ys : List Value, ys.length = cntAll test its2.size its.size → Fin ys news) :
    CompLoopG prog w A h₀ L m env (comp2 elt x y px py it1 it2 ct scope pos) scope cl s ax its Fin news := by
  intro I oI C D h tk oC m₁ R hoC F hit hl N off ne done
  have hIL := N (I, oI) (.head _)
  have hCL := N (C, oC) (.tail _ (.head _))
  have hDL := N (D, lst []) (.tail _ (.tail _ (.head _)))
  have om := off.mem
  have hax : ax ≠ I := fun e => (om _ hm).1 e
  refine loop0 (fun k s' => ∃ h' tk' i ys m', s' = { s with heap := h', toks := tk' } ∧ i ≤ its.size ∧ k = its.size + 1 - i ∧ ys.length = cntAll test its2.size i ∧ h'.IsListIter I ax i ∧ Fr h₀ L h' m ∧ h'.Ns C m' ∧ News h₀ L h' ((D, lst ys) :: news)) (hs2 C) ?_ (its.size + 1)
    ⟨h, tk, 0, [], m₁, rfl, Nat.zero_le _, rfl, rfl, hit, F, hoC.ns hCL.1, fun p hp => N p (.tail _ (.tail _ hp))⟩
  rintro k s' ⟨h', tk', i, ys, m', rfl, hi, rfl, hyl, hit', F', hn', N'⟩
  have W := Walks.list (prog := prog) (w := w) hh I ax hax its
  have hl' : h'.IsList ax its := ⟨_, (N' _ (.tail _ hm)).1, rfl, n, rfl⟩
  by_cases hlt : i < its.size
  · refine W.item i _ _ _ hlt ⟨hit', hl'⟩ fun v h₂ tk₂ hv st₂ hk₂ => ?_
    have N₂ : News h₀ L h₂ ((D, lst ys) :: news) := news_but N' hk₂ fun p hp => by
      rcases List.mem_cons.mp hp with rfl | hp
      · exact Ne.symm ne.2.1
      · exact (om p hp).1
    have hnC : h₂.Ns C m' := hn'.at' fun o e => hk₂ _ o (by simpa using Ne.symm ne.1) e
    refine wpAny_assign_Name (wpAny_storeName_local (lookup_relabel_local hx) hnC (fun h₃ hn₃ hs₃ => ?_) (by simp [compEnvC, relabel, hkind]))
    have hit₃ : h₃.IsListIter I ax (i + 1) := st₂.1.at fun o e => hs₃.extBut _ _ ne.1 e
    obtain ⟨oI', heI, hcI⟩ := id hit₃
    obtain ⟨oC', heC, hoC'⟩ := ns_obj hn₃
    have F₃ : Fr h₀ L h₃ m := (fr_but F' hk₂ (Ne.symm hIL.2.1) hIL.2.2).change hs₃ hCL.2.1 hCL.2.2
    have N₃ : News h₀ L h₃ ((I, oI') :: (C, oC') :: (D, lst ys) :: news) := fun p hp => by
      rcases List.mem_cons.mp hp with rfl | hp
      · exact ⟨heI, hIL.2⟩
      rcases List.mem_cons.mp hp with rfl | hp
      · exact ⟨heC, hCL.2⟩
      · have z := N₂ p hp
        refine ⟨hs₃.extBut _ _ ?_ z.1, z.2⟩
        rcases List.mem_cons.mp hp with rfl | hp
        · exact Ne.symm ne.2.2
        · exact (om p hp).2.1
    refine src I oI' C oC' D ys h₃ _ _ _ N₃ F₃ ?_
    have hl2 : h₃.IsList ax2 its2 := ⟨_, (N₃ _ (.tail _ (.tail _ (.tail _ hm2)))).1, rfl, n2, rfl⟩
    refine wpAny_pyIter_list hl2 ?_
    have up : ∀ b o, h₃.get? b = some o → (h₃.push { cls := .type "list_iterator", data := .fields #[.ref ax2, .int 0 0] }).get? b = some o := fun b o e => Heap.get?_push_of_some _ e
    have ltI2 : ∀ b o, h₃.get? b = some o → b ≠ h₃.objs.size := fun b o e => Nat.ne_of_lt (Heap.lt_size e)
    have hI2₀ : h₀.get? h₃.objs.size = none := next_is_new F₃
    have hI2L : @Ne Nat L h₃.objs.size := Nat.ne_of_lt F₃.ns.lt
    have hax2 : ax2 ≠ h₃.objs.size := by obtain ⟨o, e, _⟩ := hl2; exact ltI2 _ _ e
    have hCI2 : C ≠ h₃.objs.size := ltI2 _ _ heC
    have hII2 : I ≠ h₃.objs.size := ltI2 _ _ heI
    have hDI2 : D ≠ h₃.objs.size := ltI2 _ _ (N₃ (D, lst ys) (.tail _ (.tail _ (.head _)))).1
    have hnI2 : ∀ p ∈ news, p.1 ≠ h₃.objs.size := fun p hp => ltI2 _ _ (N₃ p (.tail _ (.tail _ (.tail _ hp)))).1
    generalize hI2 : h₃.objs.size = I2 at *
    have it₂ : (h₃.push { cls := .type "list_iterator", data := .fields #[.ref ax2, .int 0 0] }).IsListIter I2 ax2 0 := ⟨_, by rw [← hI2]; exact Heap.get?_push_size _ rfl, rfl, rfl⟩
    have W2 := Walks.list (prog := prog) (w := w) hh I2 ax2 hax2 its2
    have inner : ∀ tk₅, codeAny (model prog w) A (.compLoop (comp2 elt x y px py it1 it2 ct scope pos) 1 (.ref I2) (.ref D) (compEnvC scope cl C env)) (fun r s' => match r with
        | .ok _ => ∃ k', k' < its.size + 1 - i ∧ ∃ h' tk' i ys m', s' = { s with heap := h', toks := tk' } ∧ i ≤ its.size ∧ k' = its.size + 1 - i ∧ ys.length = cntAll test its2.size i ∧ h'.IsListIter I ax i ∧ Fr h₀ L h' m ∧ h'.Ns C m' ∧ News h₀ L h' ((D, lst ys) :: news)
        | .error e => cameBackBy (model prog w) A (compEnvC scope cl C env) (notedBy (model prog w) A (compEnvC scope cl C env) fun e s' => R (.error e) s') e s') { s with heap := h₃.push { cls := .type "list_iterator", data := .fields #[.ref ax2, .int 0 0] }, toks := tk₅ } := by
      intro tk₅
      refine loop1 (fun k s' => ∃ h' tk' j ys' m', s' = { s with heap := h', toks := tk' } ∧ j ≤ its2.size ∧ k = its2.size + 1 - j ∧ ys'.length = cntAll test its2.size i + cntUpTo test i j ∧ h'.IsListIter I2 ax2 j ∧ h'.IsListIter I ax (i + 1) ∧ Fr h₀ L h' m ∧ h'.Ns C m' ∧ m' x = some v ∧ News h₀ L h' ((D, lst ys') :: news)) ?_ (its2.size + 1)
        ⟨_, tk₅, 0, ys, _, rfl, Nat.zero_le _, rfl, by rw [hyl]; rfl, it₂, hit₃.at fun o e => up _ _ e, F₃.keeps up, hn₃.at' fun o e => up _ _ e, by simp, fun p hp => ⟨up _ _ (N₃ p (.tail _ (.tail _ hp))).1, (N₃ p (.tail _ (.tail _ hp))).2⟩⟩
      rintro k s' ⟨g, tk₆, j, ys', m₆, rfl, hj, rfl, hyl', it₆, itI₆, F₆, n₆, hx₆, N₆⟩
      have hl₆ : g.IsList ax2 its2 := ⟨_, (N₆ _ (.tail _ hm2)).1, rfl, n2, rfl⟩
      by_cases hlj : j < its2.size
      · refine W2.item j _ _ _ hlj ⟨it₆, hl₆⟩ fun u h₇ tk₇ hu st₇ hk₇ => ?_
        have N₇ : News h₀ L h₇ ((D, lst ys') :: news) := news_but N₆ hk₇ fun p hp => by
          rcases List.mem_cons.mp hp with rfl | hp
          · exact hDI2
          · exact hnI2 p hp
        have n₇ : h₇.Ns C m₆ := n₆.at' fun o e => hk₇ _ o (by simpa using hCI2) e
        refine wpAny_assign_Name (wpAny_storeName_local (lookup_relabel_local hy) n₇ (fun h₈ n₈ hs₈ => ?_) (by simp [compEnvC, relabel, hkind]))
        have itI₈ : h₈.IsListIter I ax (i + 1) := itI₆.at fun o e => hs₈.extBut _ _ ne.1 (hk₇ _ o (by simpa using hII2) e)
        have it₈ : h₈.IsListIter I2 ax2 (j + 1) := st₇.1.at fun o e => hs₈.extBut _ _ (Ne.symm hCI2) e
        obtain ⟨oI₈, eI₈, cI₈⟩ := id itI₈
        obtain ⟨o2₈, e2₈, c2₈⟩ := id it₈
        obtain ⟨oC₈, eC₈, hoC₈⟩ := ns_obj n₈
        have F₈ : Fr h₀ L h₈ m := (fr_but F₆ hk₇ hI2L hI2₀).change hs₈ hCL.2.1 hCL.2.2
        have N₈ : News h₀ L h₈ ((I, oI₈) :: (C, oC₈) :: (D, lst ys') :: news) := fun p hp => by
          rcases List.mem_cons.mp hp with rfl | hp
          · exact ⟨eI₈, hIL.2⟩
          rcases List.mem_cons.mp hp with rfl | hp
          · exact ⟨eC₈, hCL.2⟩
          · have z := N₇ p hp
            refine ⟨hs₈.extBut _ _ ?_ z.1, z.2⟩
            rcases List.mem_cons.mp hp with rfl | hp
            · exact Ne.symm ne.2.2
            · exact (om p hp).2.1
        have hx₈ : (fun z => if z = y then some u else m₆ z) x = some v := by simp [hxy, hx₆]
        refine wpAny_mono (tst i j v u hv hu I oI₈ C oC₈ D ys' _ h₈ _ _ hoC₈ hx₈ (by simp) F₈ N₈) (fun ok s₄ h₄ => ?_) fun _ _ e => e
        obtain ⟨tk₉, rfl, rfl⟩ := h₄
        have step := cntUpTo_succ test i j
        have hub : cntAll test its2.size i + cntUpTo test i j ≤ its.size * its2.size := by
          have h1 := cntAll_le test its2.size i
          have h2 := cntUpTo_le test i j
          have h3 : (i + 1) * its2.size ≤ its.size * its2.size := Nat.mul_le_mul_right _ hlt
          rw [Nat.succ_mul] at h3
          omega
        cases hb : test i j with
        | true =>
          rw [hb] at step
          simp only [if_true] at step ⊢
          refine wpAny_mono (el v I oI₈ C oC₈ D ys' _ h₈ _ _ hoC₈ hx₈ F₈ N₈) (fun yv s₅ h₅ => ?_) fun _ _ e => e
          obtain ⟨tk₁₀, rfl⟩ := h₅
          have zD := (N₈ (D, lst ys') (.tail _ (.tail _ (.head _)))).1
          refine append_at (hsz := by show ys'.toArray.size ≤ sizeLine; rw [List.size_toArray, hyl']; exact Nat.le_trans hub hsz) zD fun h₉ hs₉ hD₉ => ?_
          refine ⟨its2.size + 1 - (j + 1), by omega, h₉, tk₁₀, j + 1, ys' ++ [yv], _, rfl, hlj, rfl, by rw [List.length_append, List.length_singleton, hyl', step]; omega, ⟨o2₈, hs₉.extBut _ _ (Ne.symm hDI2) e2₈, c2₈⟩, ⟨oI₈, hs₉.extBut _ _ ne.2.1 eI₈, cI₈⟩, F₈.change hs₉ hDL.2.1 hDL.2.2, n₈.sameBut hs₉ ne.2.2, hx₈, fun p hp => ?_⟩
          rcases List.mem_cons.mp hp with rfl | hp
          · exact ⟨hD₉.trans (congrArg some (lst_snoc ys' yv)), hDL.2⟩
          · have z := N₈ p (.tail _ (.tail _ (.tail _ hp)))
            exact ⟨hs₉.extBut _ _ (om p hp).2.2 z.1, z.2⟩
        | false =>
          rw [hb] at step
          simp only [Bool.false_eq_true, if_false] at step ⊢
          exact ⟨its2.size + 1 - (j + 1), by omega, h₈, tk₉, j + 1, ys', _, rfl, hlj, rfl, by rw [hyl', step]; omega, it₈, itI₈, F₈, n₈, hx₈, fun p hp => N₈ p (.tail _ (.tail _ hp))⟩
      · obtain rfl : j = its2.size := Nat.le_antisymm hj (Nat.not_lt.mp hlj)
        refine W2.done _ _ _ ⟨it₆, hl₆⟩ fun h₇ tk₇ hk₇ => ?_
        refine ⟨its.size + 1 - (i + 1), by omega, h₇, tk₇, i + 1, ys', m₆, rfl, hlt, rfl, hyl', itI₆.at fun o e => hk₇ _ o (by simpa using hII2) e, fr_but F₆ hk₇ hI2L hI2₀, n₆.at' fun o e => hk₇ _ o (by simpa using hCI2) e, news_but N₆ hk₇ fun p hp => ?_⟩
        rcases List.mem_cons.mp hp with rfl | hp
        · exact hDI2
        · exact hnI2 p hp
    exact start1 (inner _) (wpAny_pyIter_listiter it₂ (inner _))
  · obtain rfl : i = its.size := Nat.le_antisymm hi (Nat.not_lt.mp hlt)
    refine W.done _ _ _ ⟨hit', hl'⟩ fun h₂ tk₂ hk₂ => ?_
    refine done h₂ tk₂ ys news _ (fr_but F' hk₂ (Ne.symm hIL.2.1) hIL.2.2) (news_but N' hk₂ fun p hp => by
      rcases List.mem_cons.mp hp with rfl | hp
      · exact Ne.symm ne.2.1
      · exact (om p hp).1) off.one (hn'.at' fun o e => hk₂ _ o (by simpa using Ne.symm ne.1) e) (fun p hp => (om p hp).2.1) (fin ys hyl)
end
end Mine
end

-- LK
section
open PySem PySem.W PySem.Spec PySem.Calls PyProof.Rows PyProof.Rows.LCg
namespace Mine
section
variable {prog : Program} {w : World} {A : Around} {E : Value → Shared → Prop} {s : Shared} {h₀ : Heap} {L : Addr} {m : PySem.Str → Option Value} {env : Env}
/-- a turn's end that tells the tokens, too -/
def CompEndK (h₀ : Heap) (L : Addr) (m : PySem.Str → Option Value) (s₁ : Shared) (I : Addr) (oI : Obj) (C : Addr) (oC : Obj) (D : Addr) (oD : Obj) (rest : Value → Led → Nat → Prop) (y : Value) (s₂ : Shared) : Prop :=
  ∃ h' tk news', s₂ = { s₁ with heap := h', toks := tk } ∧ Fr h₀ L h' m ∧ News h₀ L h' ((I, oI) :: (C, oC) :: (D, oD) :: news') ∧ Off3 I C D news' ∧ rest y news' tk
theorem CompEndK.intro {I C D : Addr} {s₁ : Shared} {oI oC oD : Obj} {rest : Value → Led → Nat → Prop} {y : Value} {h' : Heap} {tk : Nat} {all : Led} (F : Fr h₀ L h' m) (N : News h₀ L h' all) (news' : Led) (sub : ∀ p ∈ (I, oI) :: (C, oC) :: (D, oD) :: news', p ∈ all) (off : Off3 I C D news') (r : rest y news' tk) :
    CompEndK h₀ L m s₁ I oI C oC D oD rest y { s₁ with heap := h', toks := tk } := ⟨h', tk, news', rfl, F, fun p hp => N p (sub p hp), off, r⟩
def CompLoopK (prog : Program) (w : World) (A : Around) (h₀ : Heap) (L : Addr) (m : PySem.Str → Option Value) (env : Env) (e : PySem.Expr) (scope : Scope) (cl : List (PySem.Str × Addr)) (s : Shared) (ax : Addr) (its : Array Value) (Fin : List Value → Led → Nat → Prop) (news : Led) : Prop :=
  ∀ (I : Addr) (oI : Obj) (C D : Addr) (h : Heap) (tk : Nat) (oC : Obj) (m₁ : PySem.Str → Option Value) (R : Result → Shared → Prop), NsObj oC m₁ → Fr h₀ L h m → h.IsListIter I ax 0 → h.IsList ax its → News h₀ L h ((I, oI) :: (C, oC) :: (D, lst []) :: news) → Off3 I C D news → ((@Ne Nat I C) ∧ (@Ne Nat I D) ∧ (@Ne Nat C D)) →
    (∀ h' tk' ys news' m', Fr h₀ L h' m → News h₀ L h' ((D, lst ys) :: news') → Off1 D news' → h'.Ns C m' → (∀ p ∈ news', p.1 ≠ C) → Fin ys news' tk' → R (.ok .next) { s with heap := h', toks := tk' }) →
    codeAny (model prog w) A (.compLoop e 0 (.ref I) (.ref D) (compEnvC scope cl C env)) R { s with heap := h, toks := tk }
/-- y = [elt for x in xs if ct], the tokens told at the end -/
theorem Assign_ListComp_K {elt target iter : PySem.Expr} {ifs : List PySem.Expr} {rest : List Comprehension} {y : PySem.Str} {py : Pos} {scope : Scope} {cl : List (PySem.Str × Addr)} {pos spos : Pos} {Q : Flow → Shared → Prop} (_F₀ : Fr h₀ L s.heap m) (hLe : env.locals = L)
    (hsw : swapsWith (.ListComp elt (⟨target, iter, ifs, 0⟩ :: rest) scope pos) (some (.Name y py)) spos.line env = pure true)
    (hclos : closureFor scope env = pure cl) (hcell : ∀ z ∈ scope.names, z.2 ≠ .cell) (hkind : scope.kind = .function)
    (hnames : ∀ z ∈ scope.names, z.2 = .local → scope.names.lookup z.1 = some .local)
    (hy : env.kindOf y = some .local) (hp : (env.scope.kind == .class || (env.scope.kind == .module && env.locals != env.globals)) = false)
    (h : wpAny (model prog w) A (eval iter env) (fun xv s₁ => Stop (∃ ax its n news, xv = .ref ax ∧ Fr h₀ L s₁.heap m ∧ News h₀ L s₁.heap news ∧ (ax, listOf its n) ∈ news ∧
      ∀ g, CompLoopK prog w A h₀ L m env (.ListComp elt (⟨target, iter, ifs, 0⟩ :: rest) scope pos) scope cl { s₁ with heap := g } ax its
        (fun ys news' tk => ∀ D h tk₂, tk ≤ tk₂ → Fr h₀ L h (fun z => if z = y then some (.ref D) else m z) → News h₀ L h ((D, lst ys) :: news') → Off1 D news' → Q .next { s₁ with heap := h, toks := tk₂ }) news)) E s)
    (hs : ∀ x, foldedSetIterable iter env x = pure x := by intro _; rfl) :
    wpAny (model prog w) A (exec (.Assign [.Name y py] (.ListComp elt (⟨target, iter, ifs, 0⟩ :: rest) scope pos) spos) env) Q E s := by
  subst hLe
  rw [exec_Assign_Name_used _ _ _ _ hsw]
  refine wpAny_bind (wpAny_standAt (wpAny_bind ?_))
  show wpAny _ A (do let _ ← comprehension (.ListComp elt (⟨target, iter, ifs, 0⟩ :: rest) scope pos) scope env _ (newList []) false (eval iter env) (some (assign (.Name y py) env))) _ _ s
  refine wpAny_bind (wpAny_mono (wpAny_comprehension_free (use := some (assign (.Name y py) env)) (Q := fun _ s' => Q .next s') rfl hs hclos hkind hnames
    (wpAny_mono h (fun xv s₁ h₁ => ?_) fun _ _ e => e)) (fun _ s' hq => wpAny_pure (wpAny_pure hq)) fun _ _ e => e)
  obtain ⟨ax, its, n, news, rfl, F, N, hm, G⟩ := h₁
  have hl : s₁.heap.IsList ax its := ⟨_, (N _ hm).1, rfl, n, rfl⟩
  refine wpAny_pyIter_list hl ?_
  have up : ∀ b o, s₁.heap.get? b = some o → (s₁.heap.push { cls := .type "list_iterator", data := .fields #[.ref ax, .int 0 0] }).get? b = some o := fun b o e => Heap.get?_push_of_some _ e
  refine comp_setup (I := s₁.heap.objs.size) (oI := { cls := .type "list_iterator", data := .fields #[.ref ax, .int 0 0] }) (ax := ax) (its := its) (news := news) hcell hkind (F.keeps up) (fun p hp => ?_) ⟨_, Heap.get?_push_size _ rfl, rfl, rfl⟩ (hl.push _) (fun p hp => Nat.ne_of_lt (Heap.lt_size (N p hp).1)) fun C D h₁ tk oC m₁ hoC F₁ hit hl₁ N₁ off ne => ?_
  · rcases List.mem_cons.mp hp with rfl | hp
    · exact ⟨Heap.get?_push_size _ rfl, Nat.ne_of_gt F.ns.lt, next_is_new F⟩
    · exact ⟨up _ _ (N p hp).1, (N p hp).2⟩
  · refine G _ _ _ C D h₁ tk oC m₁ _ hoC F₁ hit hl₁ N₁ off ne fun h' tk' ys news' m' F' N' o1 hn hCn fin => ?_
    have hCD : C ≠ D := ne.2.2
    have hC := N₁ (C, oC) (.tail _ (.head _))
    have hL₀ : h₀.get? env.locals = none := Heap.get?_none_of_le F'.above
    show wpAny _ A (assign (.Name y py) env (.ref D)) _ _ _
    refine wpAny_assign_Name (wpAny_storeName_local hy F'.ns (fun h₂ hn₂ hs₂ => ?_) hp)
    have F₂ : Fr h₀ env.locals h₂ (fun z => if z = y then some (.ref D) else m z) := ⟨hn₂, fun b o e => hs₂.extBut b o (fun q => by rw [q, hL₀] at e; cases e) (F'.keep b o e), F'.above⟩
    refine ⟨m', hn.sameBut hs₂ hC.2.1, fun h'' hs'' => fin D h'' _ (Nat.le_succ tk') (F₂.change hs'' hC.2.1 hC.2.2) (fun p hp => ?_) o1⟩
    have z : h₂.get? p.1 = some p.2 := hs₂.extBut _ _ (N' p hp).2.1 (N' p hp).1
    refine ⟨hs''.extBut _ _ ?_ z, (N' p hp).2⟩
    rcases List.mem_cons.mp hp with rfl | hp
    · exact Ne.symm hCD
    · exact hCn p hp
/-- a comprehension over a list of the ledger, with one test, by an invariant that knows the tokens -/
theorem nt_loop {ct elt iter : PySem.Expr} {x : PySem.Str} {px : Pos} {scope : Scope} {cl : List (PySem.Str × Addr)} {pos : Pos} {ax : Addr} {its : Array Value} {n : Nat} {news : Led} {Fin : List Value → Led → Nat → Prop} (J : Nat → List Value → Led → Nat → Prop)
    (hh : A.handled = none) (hkind : scope.kind = .function) (hx : scope.names.lookup x = some .local) (hm : (ax, listOf its n) ∈ news) (hsz : its.size ≤ sizeLine) (hj : ∀ tk, J 0 [] news tk) (hsrc : ∀ i ys nw tk, J i ys nw tk → (ax, listOf its n) ∈ nw)
    (hmono : ∀ i ys nw tk tk', tk ≤ tk' → J i ys nw tk → J i ys nw tk')
    (turn : ∀ i ys nw v, its[i]? = some v → ∀ I oI C oC D m₂ h tk (E' : Value → Shared → Prop), J i ys nw tk → NsObj oC m₂ → m₂ x = some v → Fr h₀ L h m → News h₀ L h ((I, oI) :: (C, oC) :: (D, lst ys) :: nw) → Off3 I C D nw → ((@Ne Nat I C) ∧ (@Ne Nat I D) ∧ (@Ne Nat C D)) →
      wpAny (model prog w) A (isTrue ct (compEnvC scope cl C env) (eval ct (compEnvC scope cl C env))) (fun ok s' => if ok = true then
        wpAny (model prog w) A (eval elt (compEnvC scope cl C env)) (CompEndK h₀ L m { s with heap := h, toks := tk } I oI C oC D (lst ys) (fun y nw' tk' => J (i + 1) (ys ++ [y]) nw' tk')) E' s'
        else CompEndK h₀ L m { s with heap := h, toks := tk } I oI C oC D (lst ys) (fun _ nw' tk' => J (i + 1) ys nw' tk') Value.none s') E' { s with heap := h, toks := tk })
    (fin : ∀ ys nw tk, J its.size ys nw tk → Fin ys nw tk) :
    CompLoopK prog w A h₀ L m env (.ListComp elt [⟨.Name x px, iter, [ct], 0⟩] scope pos) scope cl s ax its Fin news := by
  intro I oI C D h tk oC m₁ R hoC F hit hl N off ne done
  have hIL := N (I, oI) (.head _)
  have hCL := N (C, oC) (.tail _ (.head _))
  have hDL := N (D, lst []) (.tail _ (.tail _ (.head _)))
  have hax : ax ≠ I := fun e => (off.mem _ hm).1 e
  refine kct_loop (fun k s' => ∃ h' tk' i ys m' nw, s' = { s with heap := h', toks := tk' } ∧ i ≤ its.size ∧ k = its.size + 1 - i ∧ ys.length ≤ i ∧ h'.IsListIter I ax i ∧ Fr h₀ L h' m ∧ h'.Ns C m' ∧ News h₀ L h' ((D, lst ys) :: nw) ∧ Off3 I C D nw ∧ J i ys nw tk') ?_ (its.size + 1)
    ⟨h, tk, 0, [], m₁, news, rfl, Nat.zero_le _, rfl, Nat.le_refl _, hit, F, hoC.ns hCL.1, fun p hp => N p (.tail _ (.tail _ hp)), off, hj tk⟩
  rintro k s' ⟨h', tk', i, ys, m', nw, rfl, hi, rfl, hyl, hit', F', hn', N', off', hJ⟩
  have W := Walks.list (prog := prog) (w := w) hh I ax hax its
  have hl' : h'.IsList ax its := ⟨_, (N' _ (.tail _ (hsrc _ _ _ _ hJ))).1, rfl, n, rfl⟩
  by_cases hlt : i < its.size
  · refine wpAny_mono (wpAny_toks (W.item i { s with heap := h', toks := tk' } (fun r s₁ => tk' ≤ s₁.toks → (match r with
      | none => R (.ok .next) s₁
      | some v => wpAny (model prog w) A (letOwnedTupleGo (.Name x px) (.ref I) v) (fun _ s₀ => wpAny (model prog w) A (assign (.Name x px) (compEnvC scope cl C env) v) (fun _ s₂ =>
          wpAny (model prog w) A (isTrue ct (compEnvC scope cl C env) (eval ct (compEnvC scope cl C env))) (fun ok s₃ => if ok = true then wpAny (model prog w) A (eval elt (compEnvC scope cl C env)) (fun x s₄ =>
            wpAny (model prog w) A (call (.builtin "list.append") [.ref D, x]) (fun _ s₅ => ∃ m_1, m_1 < its.size + 1 - i ∧ ∃ h' tk' i ys m' nw, s₅ = { s with heap := h', toks := tk' } ∧ i ≤ its.size ∧ m_1 = its.size + 1 - i ∧ ys.length ≤ i ∧ h'.IsListIter I ax i ∧ Fr h₀ L h' m ∧ h'.Ns C m' ∧ News h₀ L h' ((D, lst ys) :: nw) ∧ Off3 I C D nw ∧ J i ys nw tk') (notedBy (model prog w) A (compEnvC scope cl C env) fun e s' => R (.error e) s') s₄) (notedBy (model prog w) A (compEnvC scope cl C env) fun e s' => R (.error e) s') s₃
            else ∃ m_1, m_1 < its.size + 1 - i ∧ ∃ h' tk' i ys m' nw, s₃ = { s with heap := h', toks := tk' } ∧ i ≤ its.size ∧ m_1 = its.size + 1 - i ∧ ys.length ≤ i ∧ h'.IsListIter I ax i ∧ Fr h₀ L h' m ∧ h'.Ns C m' ∧ News h₀ L h' ((D, lst ys) :: nw) ∧ Off3 I C D nw ∧ J i ys nw tk') (notedBy (model prog w) A (compEnvC scope cl C env) fun e s' => R (.error e) s') s₂)
          (notedBy (model prog w) A (compEnvC scope cl C env) fun e s' => R (.error e) s') s₀) (notedBy (model prog w) A (compEnvC scope cl C env) fun e s' => R (.error e) s') s₁)) _ hlt ⟨hit', hl'⟩ fun v h₂ tk₂ hv st₂ hk₂ => ?_)) (fun _ _ q => q.2 q.1) fun _ _ q => q.2
    intro hle
    have o3 := off'.mem
    refine wpAny_pure ?_
    have hnC : h₂.Ns C m' := hn'.at' fun o e => hk₂ _ o (by simpa using Ne.symm ne.1) e
    have N₂ : News h₀ L h₂ ((D, lst ys) :: nw) := news_but N' hk₂ fun p hp => by
      rcases List.mem_cons.mp hp with rfl | hp
      · exact Ne.symm ne.2.1
      · exact (o3 p hp).1
    refine wpAny_assign_Name (wpAny_storeName_local (lookup_relabel_local hx) hnC (fun h₃ hn₃ hs₃ => ?_) (by simp [compEnvC, relabel, hkind]))
    have hit₃ : h₃.IsListIter I ax (i + 1) := st₂.1.at fun o e => hs₃.extBut _ _ ne.1 e
    obtain ⟨oI', heI, hcI⟩ := hit₃
    obtain ⟨oC', heC, hoC'⟩ := ns_obj hn₃
    have F₃ : Fr h₀ L h₃ m := (fr_but F' hk₂ (Ne.symm hIL.2.1) hIL.2.2).change hs₃ hCL.2.1 hCL.2.2
    have N₃ : News h₀ L h₃ ((I, oI') :: (C, oC') :: (D, lst ys) :: nw) := fun p hp => by
      rcases List.mem_cons.mp hp with rfl | hp
      · exact ⟨heI, hIL.2⟩
      rcases List.mem_cons.mp hp with rfl | hp
      · exact ⟨heC, hCL.2⟩
      · have z := N₂ p hp
        refine ⟨hs₃.extBut _ _ ?_ z.1, z.2⟩
        rcases List.mem_cons.mp hp with rfl | hp
        · exact Ne.symm ne.2.2
        · exact (o3 p hp).2.1
    have hle2 : tk' ≤ tk₂ := hle
    refine wpAny_mono (turn i ys nw v hv I oI' C oC' D _ h₃ _ _ (hmono _ _ _ _ _ (Nat.le_trans hle2 (by first | exact Nat.le_refl _ | exact Nat.le_succ _)) hJ) hoC' (by simp) F₃ N₃ off' ne) (fun ok s₄ h₄ => ?_) fun _ _ e => e
    cases ok with
    | true =>
      simp only [if_true] at h₄ ⊢
      refine wpAny_mono h₄ (fun y s₅ h₅ => ?_) fun _ _ e => e
      obtain ⟨g, tk₄, nw₄, rfl, F₄, N₄, off₄, J₄⟩ := h₅
      have zD := (N₄ (D, lst ys) (.tail _ (.tail _ (.head _)))).1
      have o4 := off₄.mem
      refine append_at (hsz := by show ys.toArray.size ≤ sizeLine; rw [List.size_toArray]; exact Nat.le_trans (Nat.le_trans hyl hi) hsz) zD fun h₅ hs₅ hD₅ => ?_
      refine ⟨its.size + 1 - (i + 1), by omega, h₅, tk₄, i + 1, ys ++ [y], _, nw₄, rfl, hlt, rfl, by rw [List.length_append, List.length_singleton]; exact Nat.succ_le_succ hyl, ?_, F₄.change hs₅ hDL.2.1 hDL.2.2, (hoC'.ns (N₄ (C, oC') (.tail _ (.head _))).1).sameBut hs₅ ne.2.2, fun p hp => ?_, off₄, J₄⟩
      · exact ⟨oI', hs₅.extBut _ _ ne.2.1 (N₄ (I, oI') (.head _)).1, hcI⟩
      · rcases List.mem_cons.mp hp with rfl | hp
        · exact ⟨hD₅.trans (congrArg some (lst_snoc ys y)), hDL.2⟩
        · have z := N₄ p (.tail _ (.tail _ (.tail _ hp)))
          exact ⟨hs₅.extBut _ _ (o4 p hp).2.2 z.1, z.2⟩
    | false =>
      simp only [Bool.false_eq_true, if_false] at h₄ ⊢
      obtain ⟨g, tk₄, nw₄, rfl, F₄, N₄, off₄, J₄⟩ := h₄
      exact ⟨its.size + 1 - (i + 1), by omega, g, tk₄, i + 1, ys, _, nw₄, rfl, hlt, rfl, Nat.le_succ_of_le hyl, ⟨oI', (N₄ (I, oI') (.head _)).1, hcI⟩, F₄, hoC'.ns (N₄ (C, oC') (.tail _ (.head _))).1, fun p hp => N₄ p (.tail _ (.tail _ hp)), off₄, J₄⟩
  · obtain rfl : i = its.size := Nat.le_antisymm hi (Nat.not_lt.mp hlt)
    refine wpAny_mono (wpAny_toks (W.done { s with heap := h', toks := tk' } (fun r s₁ => r = none ∧ (tk' ≤ s₁.toks → R (.ok .next) s₁)) (notedBy (model prog w) A (compEnvC scope cl C env) fun e s' => R (.error e) s') ⟨hit', hl'⟩ fun h₂ tk₂ hk₂ => ⟨rfl, fun hle => ?_⟩)) (fun r s₁ q => by obtain ⟨q1, rfl, q2⟩ := q; exact q2 q1) fun _ _ q => q.2
    have o3 := off'.mem
    exact done h₂ tk₂ ys nw _ (fr_but F' hk₂ (Ne.symm hIL.2.1) hIL.2.2) (news_but N' hk₂ fun p hp => by
      rcases List.mem_cons.mp hp with rfl | hp
      · exact Ne.symm ne.2.1
      · exact (o3 p hp).1) off'.one (hn'.at' fun o e => hk₂ _ o (by simpa using Ne.symm ne.1) e) (fun p hp => (o3 p hp).2.1) (fin ys nw _ (hmono _ _ _ _ _ hle hJ))
theorem CompLoopK.toG {e : PySem.Expr} {scope : Scope} {cl : List (PySem.Str × Addr)} {ax : Addr} {its : Array Value} {news : Led} {Fin : List Value → Led → Prop} (h : CompLoopK prog w A h₀ L m env e scope cl s ax its (fun ys nw _ => Fin ys nw) news) : CompLoopG prog w A h₀ L m env e scope cl s ax its Fin news := h
end
end Mine
end

-- LE
section
open PySem PySem.W PySem.Spec PySem.Calls PyProof.Rows PyProof.Rows.LCg PySem.SeqAt
namespace Mine
def headD (p : List Nat × Nat) : PyData := .tuple [.str (nameOf p), .str (txt p.1)]
def bothD (ws : List (List Nat × Nat)) (rs : List PySem.Str) : PyData := .tuple [.list (ws.map headD), .list (rs.map .str)]
def OkHeads (ws : List (List Nat × Nat)) : Prop := ∀ p ∈ ws, PyData.strOk (nameOf p) = true ∧ PyData.strOk (txt p.1) = true
def OkStrs (xs : List PySem.Str) : Prop := ∀ x ∈ xs, PyData.strOk x = true
theorem ok_txt {w : List Nat} (h : ∀ y ∈ w, y < 16) : PyData.strOk (txt w) = true := by
  unfold PyData.strOk txt
  rw [Array.all_eq_true_iff_forall_mem]
  intro x hx
  have : x ∈ w.map fun x => 65 + x := by simpa using hx
  obtain ⟨y, hy, rfl⟩ := List.mem_map.mp this
  have := h y hy
  exact decide_eq_true (by omega)
theorem ok_name {p : List Nat × Nat} (h : p.2 < 16) : PyData.strOk (nameOf p) = true := by
  have f : ∀ k : Fin 16, PyData.strOk (⟨#[65 + k.val]⟩ : PySem.Str) = true ∧ PyData.strOk (⟨#[97 + k.val]⟩ : PySem.Str) = true := by decide +kernel
  unfold nameOf
  split
  · exact (f ⟨p.2, h⟩).1
  · exact (f ⟨p.2, h⟩).2
theorem lay_heads : ∀ ws : List (List Nat × Nat), OkHeads ws → PyData.canLayAll0 (ws.map headD) = true
  | [], _ => by simp [PyData.canLayAll0]
  | p :: r, h => by
    have := h p (.head _)
    simp [PyData.canLayAll0, PyData.canLay0, headD, lay_heads r fun q hq => h q (.tail _ hq), this]
theorem lay_strs : ∀ rs : List PySem.Str, OkStrs rs → PyData.canLayAll0 (rs.map .str) = true
  | [], _ => by simp [PyData.canLayAll0]
  | p :: r, h => by
    have := h p (.head _)
    simp [PyData.canLayAll0, PyData.canLay0, lay_strs r fun q hq => h q (.tail _ hq), this]
theorem lay_both {ws : List (List Nat × Nat)} {rs : List PySem.Str} (hw : OkHeads ws) (hx : OkStrs rs) : PyData.canLay0 (bothD ws rs) = true := by
  simp [bothD, PyData.canLay0, PyData.canLayAll0, lay_heads ws hw, lay_strs rs hx]
theorem depth_heads : ∀ ws : List (List Nat × Nat), PyData.depthAll (ws.map headD) ≤ 4
  | [] => by simp [PyData.depthAll]
  | p :: r => by
    have := depth_heads r
    simp only [List.map_cons, PyData.depthAll, PyData.depth, headD]
    omega
theorem depth_strs : ∀ rs : List PySem.Str, PyData.depthAll (rs.map .str) ≤ 4
  | [] => by simp [PyData.depthAll]
  | p :: r => by
    have := depth_strs r
    simp only [List.map_cons, PyData.depthAll, PyData.depth]
    omega
theorem shaped_both {ws : List (List Nat × Nat)} {rs : List PySem.Str} (hw : OkHeads ws) (hx : OkStrs rs) : shaped (bothD ws rs) = true := by
  have h1 := depth_heads ws
  have h2 := depth_strs rs
  have h3 : PyData.depth (bothD ws rs) ≤ 64 := by simp only [bothD, PyData.depth, PyData.depthAll]; omega
  show (PyData.canLay0 (bothD ws rs) && decide (PyData.depth (bothD ws rs) ≤ 64)) = true
  rw [Bool.and_eq_true]
  exact ⟨lay_both hw hx, decide_eq_true h3⟩
theorem reads_heads {h₀ h : Heap} {L : Addr} {led : Led} (N : News h₀ L h led) {vs : List Value} {ws : List (List Nat × Nat)} (hp : PairAre IsHead led vs ws) : ReadsAll h vs (ws.map headD) [] := by
  induction hp with
  | nil => exact .nil
  | @cons a n v₁ v₂ p vs ps hm hk _ ih =>
    obtain ⟨t, u, rfl, rfl⟩ := hk
    have h1 : Reads h (.ref a) (headD p) [] := .tuple (N _ hm).1 rfl rfl (by
      have := ReadsAll.cons (Reads.str (h := h) (nameOf p) t) (ReadsAll.cons (Reads.str (h := h) (txt p.1) u) ReadsAll.nil)
      simpa using this)
    have := ReadsAll.cons h1 ih
    simpa using this
theorem reads_strs {h : Heap} {vs : List Value} {xs : List PySem.Str} (hs : StrsAre vs xs) : ReadsAll h vs (xs.map .str) [] := by
  induction hs with
  | nil => exact .nil
  | cons y t _ ih =>
    have := ReadsAll.cons (Reads.str (h := h) y t) ih
    simpa using this
theorem reads_both {h₀ h : Heap} {L t a b : Addr} {led : Led} {vs us : List Value} {ws : List (List Nat × Nat)} {xs : List PySem.Str} {nt na nb : Nat} (N : News h₀ L h led) (ht : (t, ({ cls := .type "tuple", data := .seq #[.ref a, .ref b] nt } : Obj)) ∈ led) (ha : (a, listOf vs.toArray na) ∈ led) (hb : (b, listOf us.toArray nb) ∈ led)
    (hp : PairAre IsHead led vs ws) (hs : StrsAre us xs) : ∃ as, Reads h (.ref t) (bothD ws xs) as := by
  have h1 : Reads h (.ref a) (.list (ws.map headD)) [a] := .list (N _ ha).1 rfl rfl (by rw [List.toList_toArray]; exact reads_heads N hp)
  have h2 : Reads h (.ref b) (.list (xs.map .str)) [b] := .list (N _ hb).1 rfl rfl (by rw [List.toList_toArray]; exact reads_strs hs)
  exact ⟨_, .tuple (N _ ht).1 rfl rfl (ReadsAll.cons h1 (ReadsAll.cons h2 .nil))⟩
section
variable {prog : Program} {w : World} {A : Around} {E : Value → Shared → Prop} {s : Shared} {h₀ : Heap} {L : Addr}
theorem ne_both {t t' a b a' b' : Addr} {led : Led} {vs us vs' us' : List Value} {ws : List (List Nat × Nat)} {xs : List PySem.Str} {nt na nb nt' na' nb' : Nat} {Q : Value → Shared → Prop} (N : News h₀ L s.heap led)
    (ht : (t, ({ cls := .type "tuple", data := .seq #[.ref a, .ref b] nt } : Obj)) ∈ led) (ha : (a, listOf vs.toArray na) ∈ led) (hb : (b, listOf us.toArray nb) ∈ led) (hp : PairAre IsHead led vs ws) (hs : StrsAre us xs)
    (ht' : (t', ({ cls := .type "tuple", data := .seq #[.ref a', .ref b'] nt' } : Obj)) ∈ led) (ha' : (a', listOf vs'.toArray na') ∈ led) (hb' : (b', listOf us'.toArray nb') ∈ led) (hp' : PairAre IsHead led vs' ws) (hs' : StrsAre us' xs)
    (hw : OkHeads ws) (hx : OkStrs xs) (hu : A.units + 64 < cLine) (h : Q (.bool false) s) : wpAny (model prog w) A (compareOp .NotEq (.ref t) (.ref t')) Q E s := by
  obtain ⟨as, r⟩ := reads_both N ht ha hb hp hs
  obtain ⟨as', r'⟩ := reads_both N ht' ha' hb' hp' hs'
  refine ne_dataH r r' (shaped_both hw hx) (shaped_both hw hx) hu ?_
  rw [eqv_refl _ (lay_both hw hx)]
  exact h
end
theorem name_in_fin : ∀ k : Fin 16, ([Str.ofString "A", Str.ofString "a"].any fun x => x == (⟨#[65 + k.val]⟩ : PySem.Str)) = decide (k.val = 0) ∧ ([Str.ofString "A", Str.ofString "a"].any fun x => x == (⟨#[97 + k.val]⟩ : PySem.Str)) = decide (k.val = 0) := by decide +kernel
theorem name_in {p : List Nat × Nat} (h : p.2 < 16) : ([Str.ofString "A", Str.ofString "a"].any fun x => x == nameOf p) = decide (p.2 = 0) := by
  unfold nameOf
  split
  · exact (name_in_fin ⟨p.2, h⟩).1
  · exact (name_in_fin ⟨p.2, h⟩).2
end Mine
end

-- PP
section
open PySem PySem.W PySem.Spec PySem.Calls PyProof.Rows PyProof.Rows.LCg
namespace Mine
/-! characters -/
def sg (m x : Nat) : Int := 1 - 2 * (par (m &&& x) : Int)
theorem sg_mul_fin : ∀ m x y : Fin 16, sg m.val (x.val ^^^ y.val) = sg m.val x.val * sg m.val y.val := by decide +kernel
theorem sg_mul {m x y : Nat} (hm : m < 16) (hx : x < 16) (hy : y < 16) : sg m (x ^^^ y) = sg m x * sg m y := sg_mul_fin ⟨m, hm⟩ ⟨x, hx⟩ ⟨y, hy⟩
theorem sg_sum_fin : ∀ y : Fin 16, ((List.range 16).map fun m => sg m y.val).sum = if y.val = 0 then 16 else 0 := by decide +kernel
theorem sum_congr {α : Type} {l : List α} {f g : α → Int} (h : ∀ a ∈ l, f a = g a) : (l.map f).sum = (l.map g).sum := by
  rw [List.map_congr_left h]
theorem sum_sub {α : Type} (l : List α) (f g : α → Int) : (l.map fun a => f a - g a).sum = (l.map f).sum - (l.map g).sum := by
  induction l with
  | nil => rfl
  | cons a r ih => simp only [List.map_cons, List.sum_cons, ih]; omega
theorem sum_mul (c : Int) {α : Type} (l : List α) (f : α → Int) : (l.map fun a => c * f a).sum = c * (l.map f).sum := by
  induction l with
  | nil => simp
  | cons a r ih => simp only [List.map_cons, List.sum_cons, ih, Int.mul_add]
/-- one list of masks -/
def G (l : List Nat) (y : Nat) : Int := ((List.range 16).map fun m => (l.map fun x => 1 - sg m x).prod * sg m y).sum
def G2 (l : List Nat) (y y' : Nat) : Int := ((List.range 16).map fun m => ((List.range 16).map fun m' => (l.map fun x => 3 - sg m x - sg m' x - sg m x * sg m' x).prod * sg m y * sg m' y').sum).sum
theorem G_nil {y : Nat} (hy : y < 16) : G [] y = if y = 0 then 16 else 0 := by
  have := sg_sum_fin ⟨y, hy⟩
  simpa [G] using this
theorem G_cons {x y : Nat} (l : List Nat) (hx : x < 16) (hy : y < 16) : G (x :: l) y = G l y - G l (y ^^^ x) := by
  unfold G
  rw [← sum_sub]
  refine sum_congr fun m hm => ?_
  rw [List.map_cons, List.prod_cons, sg_mul (List.mem_range.mp hm) hy hx]
  generalize (l.map fun x => 1 - sg m x).prod = P
  rw [Int.sub_mul, Int.sub_mul, Int.one_mul, Int.mul_comm (sg m x) P, Int.mul_assoc, Int.mul_comm (sg m y)]
theorem sum_zero {α : Type} (l : List α) : (l.map fun _ => (0 : Int)).sum = 0 := by
  induction l with
  | nil => rfl
  | cons a r ih => simp [ih]
theorem G2_nil {y y' : Nat} (hy : y < 16) (hy' : y' < 16) : G2 [] y y' = if y = 0 ∧ y' = 0 then 256 else 0 := by
  have h1 := sg_sum_fin ⟨y, hy⟩
  have h2 := sg_sum_fin ⟨y', hy'⟩
  dsimp only at h1 h2
  have e : G2 [] y y' = ((List.range 16).map fun m => (if y' = 0 then 16 else 0) * sg m y).sum := by
    unfold G2
    refine sum_congr fun m _ => ?_
    rw [show (fun m' => (([] : List Nat).map fun x => 3 - sg m x - sg m' x - sg m x * sg m' x).prod * sg m y * sg m' y') = fun m' => sg m y * sg m' y' by funext m'; simp, sum_mul, h2, Int.mul_comm]
  rw [e, sum_mul, h1]
  by_cases a : y = 0 <;> by_cases b : y' = 0 <;> simp [a, b]
theorem G2_cons {x y y' : Nat} (l : List Nat) (hx : x < 16) (hy : y < 16) (hy' : y' < 16) : G2 (x :: l) y y' = 3 * G2 l y y' - G2 l (y ^^^ x) y' - G2 l y (y' ^^^ x) - G2 l (y ^^^ x) (y' ^^^ x) := by
  unfold G2
  rw [← sum_mul, ← sum_sub, ← sum_sub, ← sum_sub]
  refine sum_congr fun m hm => ?_
  rw [← sum_mul, ← sum_sub, ← sum_sub, ← sum_sub]
  refine sum_congr fun m' hm' => ?_
  rw [List.map_cons, List.prod_cons, sg_mul (List.mem_range.mp hm) hy hx, sg_mul (List.mem_range.mp hm') hy' hx]
  generalize (l.map fun x => 3 - sg m x - sg m' x - sg m x * sg m' x).prod = P
  generalize sg m x = a
  generalize sg m' x = b
  generalize sg m y = c
  generalize sg m' y' = d
  simp only [Int.sub_mul, Int.mul_assoc]
  have e1 : a * (P * (c * d)) = P * (c * (a * d)) := by simp only [Int.mul_left_comm, Int.mul_comm]
  have e2 : b * (P * (c * d)) = P * (c * (d * b)) := by simp only [Int.mul_left_comm, Int.mul_comm]
  have e3 : a * (P * (c * (d * b))) = P * (c * (a * (d * b))) := by simp only [Int.mul_left_comm, Int.mul_comm]
  rw [e1, e2, e3]
/-! sums along the masks -/
def GP (z : Nat → Bool) : List Nat → Nat → Int
  | [], S => if z S then 16 else 0
  | i :: r, S => GP z r S - GP z r (S + 2 ^ i)
def HP (z : Nat → Bool) : List Nat → Nat → Nat → Int
  | [], S, S' => if z S && z S' then 256 else 0
  | i :: r, S, S' => 3 * HP z r S S' - HP z r (S + 2 ^ i) S' - HP z r S (S' + 2 ^ i) - HP z r (S + 2 ^ i) (S' + 2 ^ i)
/-- t tells the totals of the masks from S on -/
def Path (t : Nat → Nat) : List (Nat × Nat) → Nat → Prop
  | [], _ => True
  | (i, x) :: r, S => t (S + 2 ^ i) = t S ^^^ x ∧ Path t r S ∧ Path t r (S + 2 ^ i)
theorem G_path {t : Nat → Nat} (ht : ∀ S, t S < 16) : ∀ (l : List (Nat × Nat)) (S : Nat), (∀ p ∈ l, p.2 < 16) → Path t l S → G (l.map (·.2)) (t S) = GP (fun S => t S == 0) (l.map (·.1)) S
  | [], S, _, _ => by
    rw [List.map_nil, G_nil (ht S)]
    simp [GP]
  | (i, x) :: r, S, hl, ⟨h1, h2, h3⟩ => by
    have hr : ∀ p ∈ r, p.2 < 16 := fun p hp => hl p (.tail _ hp)
    rw [List.map_cons, G_cons _ (hl (i, x) (.head _)) (ht S), ← h1, G_path ht r S hr h2, G_path ht r _ hr h3]
    rfl
theorem G2_path {t : Nat → Nat} (ht : ∀ S, t S < 16) : ∀ (l : List (Nat × Nat)) (S S' : Nat), (∀ p ∈ l, p.2 < 16) → Path t l S → Path t l S' → G2 (l.map (·.2)) (t S) (t S') = HP (fun S => t S == 0) (l.map (·.1)) S S'
  | [], S, S', _, _, _ => by
    rw [List.map_nil, G2_nil (ht S) (ht S')]
    simp [HP]
  | (i, x) :: r, S, S', hl, ⟨h1, h2, h3⟩, ⟨k1, k2, k3⟩ => by
    have hr : ∀ p ∈ r, p.2 < 16 := fun p hp => hl p (.tail _ hp)
    rw [List.map_cons, G2_cons _ (hl (i, x) (.head _)) (ht S) (ht S'), ← h1, ← k1, G2_path ht r S S' hr h2 k2, G2_path ht r _ _ hr h3 k2, G2_path ht r _ _ hr h2 k3, G2_path ht r _ _ hr h3 k3]
    rfl
/-! the masks that tell nothing -/
def light : List Nat := [1, 2, 4, 8, 16, 3, 5, 6, 9, 10, 12, 17, 18, 20, 24]
def cands : List Nat → List Nat → List (List Nat)
  | [], K => [K]
  | S :: r, K => cands r K ++ (if K.all (fun T => !light.contains (S ^^^ T)) then cands r (K ++ [S]) else [])
theorem cands_mem {z : Nat → Bool} (hz : ∀ S T, S < 32 → T < 32 → z S = true → z T = true → z (S ^^^ T) = true) (hb : ∀ u ∈ light, z u = false) :
    ∀ (l K : List Nat), (∀ T ∈ K, T < 32 ∧ z T = true) → (∀ S ∈ l, S < 32) → K ++ l.filter z ∈ cands l K
  | [], K, _, _ => by simp [cands]
  | S :: r, K, hK, hl => by
    have hr : ∀ S ∈ r, S < 32 := fun S hS => hl S (.tail _ hS)
    unfold cands
    cases e : z S with
    | false =>
      rw [List.filter_cons, e]
      exact List.mem_append.mpr (.inl (cands_mem hz hb r K hK hr))
    | true =>
      rw [List.filter_cons, e]
      have ok : K.all (fun T => !light.contains (S ^^^ T)) = true := by
        rw [List.all_eq_true]
        intro T hT
        have h1 := hz S T (hl S (.head _)) (hK T hT).1 e (hK T hT).2
        cases q : light.contains (S ^^^ T) with
        | false => rfl
        | true =>
          have := hb _ (List.contains_iff_mem.mp q)
          rw [h1] at this
          cases this
      rw [if_pos ok]
      have := cands_mem hz hb r (K ++ [S]) (fun T hT => by
        rcases List.mem_append.mp hT with hT | hT
        · exact hK T hT
        · rw [List.mem_singleton.mp hT]; exact ⟨hl S (.head _), e⟩) hr
      rw [List.append_assoc] at this
      exact List.mem_append.mpr (.inr this)
/-! words by places -/
def posW : List (List Nat) := (wordsOf [0, 1, 2, 3, 4]).map (·.1)
def posWord (j : Nat) : List Nat := posW.getD j []
def sizesM (par : Bool) (K : List Nat) : List Nat := ((List.range 32).filter fun j => !((brokenOf par (K.map posWord)).any fun c => scat c (posWord j))).map fun j => (posWord j).length
def check (K : List Nat) (par : Bool) : Bool :=
  totalUpTo ((sizesM par K).map fun (k : Nat) => (k : Int)) 1 6 * 16 == GP (fun S => K.contains S) [0, 1, 2, 3, 4] 0 &&
  totalUpTo ((sizesM par K).map fun (k : Nat) => (k : Int)) 2 6 * 256 == HP (fun S => K.contains S) [0, 1, 2, 3, 4] 0 0
def closed (K : List Nat) : Bool := K.all fun S => K.all fun T => K.contains (S ^^^ T)
theorem all_checked : ((cands (List.range' 1 31) [0]).filter closed).all (fun K => check K false && check K true) = true := by decide +kernel
end Mine
end

-- PQ
section
open PySem PySem.W PySem.Spec PySem.Calls PyProof.Rows PyProof.Rows.LCg
namespace Mine
/-! from the letters to their places -/
def ltr (a b c d e : Nat) (i : Nat) : Nat := [a, b, c, d, e].getD i 0
def totL (a b c d e : Nat) : List Nat := (wordsOf [a, b, c, d, e]).map (·.2)
def tot (a b c d e : Nat) (j : Nat) : Nat := (totL a b c d e).getD j 1
theorem words_eq (a b c d e : Nat) : wordsOf [a, b, c, d, e] = (List.range 32).map fun j => ((posWord j).map (ltr a b c d e), tot a b c d e j) := by rfl
theorem tot_path (a b c d e : Nat) : Path (tot a b c d e) [(0, a), (1, b), (2, c), (3, d), (4, e)] 0 := by
  repeat' (first | exact trivial | refine And.intro (by rfl) (And.intro ?_ ?_))
theorem dropWhile_map {g : Nat → Nat} (c : Nat) : ∀ w : List Nat, (∀ x ∈ w, g x = g c → x = c) → (w.map g).dropWhile (fun k => k != g c) = (w.dropWhile fun k => k != c).map g
  | [], _ => rfl
  | x :: r, h => by
    rw [List.map_cons, List.dropWhile_cons, List.dropWhile_cons]
    by_cases e : x = c
    · subst e; simp
    · have e' : g x ≠ g c := fun q => e (h x (.head _) q)
      have h1 : (x != c) = true := by simpa using e
      have h2 : (g x != g c) = true := by simpa using e'
      rw [h1, h2]
      simp only [if_true]
      exact dropWhile_map c r fun y hy => h y (.tail _ hy)
theorem scat_map {g : Nat → Nat} : ∀ (c w : List Nat), (∀ x ∈ c, ∀ y ∈ w, g y = g x → y = x) → scat (c.map g) (w.map g) = scat c w
  | [], _, _ => rfl
  | x :: r, w, h => by
    show (match (w.map g).dropWhile (fun k => k != g x) with | [] => false | _ :: w' => scat (r.map g) w') = (match w.dropWhile (fun k => k != x) with | [] => false | _ :: w' => scat r w')
    rw [dropWhile_map x w fun y hy => h x (.head _) y hy]
    cases e : w.dropWhile (fun k => k != x) with
    | nil => rfl
    | cons y w' =>
      have hs : ∀ z ∈ w', z ∈ w := fun z hz => (List.dropWhile_suffix (fun k => k != x)).subset (by rw [e]; exact .tail _ hz)
      exact scat_map r w' fun u hu z hz => h u (.tail _ hu) z (hs z hz)
theorem brokenOf_map (par : Bool) (g : Nat → Nat) (ws : List (List Nat)) : brokenOf par (ws.map fun w => w.map g) = (brokenOf par ws).map fun w => w.map g := by
  unfold brokenOf
  rw [List.filter_map, List.map_map, List.map_map]
  have e : ((fun w : List Nat => w.length != 0) ∘ fun w : List Nat => w.map g) = fun w : List Nat => w.length != 0 := by funext w; simp
  rw [e]
  refine List.map_congr_left fun w _ => ?_
  cases par
  · simp
  · simp
theorem any_cong {α : Type} {l : List α} {p q : α → Bool} (h : ∀ x ∈ l, p x = q x) : l.any p = l.any q := by
  induction l with
  | nil => rfl
  | cons a r ih => rw [List.any_cons, List.any_cons, h a (.head _), ih fun x hx => h x (.tail _ hx)]
theorem posWord_lt : ∀ j < 32, ∀ x ∈ posWord j, x < 5 := by decide +kernel
theorem broken_lt {par : Bool} {ws : List (List Nat)} (h : ∀ w ∈ ws, ∀ x ∈ w, x < 5) : ∀ w ∈ brokenOf par ws, ∀ x ∈ w, x < 5 := by
  intro w hw x hx
  unfold brokenOf at hw
  obtain ⟨v, hv, rfl⟩ := List.mem_map.mp hw
  have hv' := h v (List.mem_filter.mp hv).1
  cases par
  · exact hv' x (List.mem_of_mem_tail hx)
  · exact hv' x ((List.dropLast_sublist v).subset hx)
section
variable {a b c d e : Nat}
def zz (a b c d e : Nat) (j : Nat) : Bool := tot a b c d e j == 0
def KK (a b c d e : Nat) : List Nat := (List.range 32).filter (zz a b c d e)
theorem rings_eq : ringsOf (wordsOf [a, b, c, d, e]) = ((KK a b c d e).map posWord).map fun w => w.map (ltr a b c d e) := by
  rw [words_eq]
  unfold ringsOf KK zz
  rw [List.filter_map, List.map_map, List.map_map]
  rfl
theorem ltr_inj (h : [a, b, c, d, e].Nodup) : ∀ i < 5, ∀ j < 5, ltr a b c d e i = ltr a b c d e j → i = j := by
  intro i hi j hj e'
  unfold ltr at e'
  have hi' : i < [a, b, c, d, e].length := hi
  have hj' : j < [a, b, c, d, e].length := hj
  rw [List.getD_eq_getElem?_getD, List.getD_eq_getElem?_getD, List.getElem?_eq_getElem hi', List.getElem?_eq_getElem hj', Option.getD_some, Option.getD_some] at e'
  exact (List.getElem_inj h).mp e'
theorem sizes_eq (h : [a, b, c, d, e].Nodup) (par : Bool) : ((wordsOf [a, b, c, d, e]).filter fun p => !(((brokenOf par (ringsOf (wordsOf [a, b, c, d, e]))).map codes).any fun v => scat v (txt p.1).cps.toList)).map (·.1.length) = sizesM par (KK a b c d e) := by
  rw [rings_eq, brokenOf_map, words_eq]
  unfold sizesM
  rw [List.filter_map, List.map_map]
  have e1 : ∀ j ∈ List.range 32, ((fun p : List Nat × Nat => !(((brokenOf par ((KK a b c d e).map posWord)).map fun w => w.map (ltr a b c d e)).map codes).any fun v => scat v (txt p.1).cps.toList) ∘ fun j => ((posWord j).map (ltr a b c d e), tot a b c d e j)) j = !((brokenOf par ((KK a b c d e).map posWord)).any fun v => scat v (posWord j)) := by
    intro j hj
    have hj' := List.mem_range.mp hj
    show (!(List.any _ fun v => scat v (txt ((posWord j).map (ltr a b c d e))).cps.toList)) = _
    congr 1
    rw [List.map_map, List.any_map]
    refine any_cong fun w hw => ?_
    have hK : ∀ w ∈ (KK a b c d e).map posWord, ∀ x ∈ w, x < 5 := by
      intro w hw x hx
      obtain ⟨i, hi, rfl⟩ := List.mem_map.mp hw
      exact posWord_lt i (List.mem_range.mp (List.mem_filter.mp hi).1) x hx
    show scat (codes (w.map (ltr a b c d e))) (((posWord j).map (ltr a b c d e)).map fun x => 65 + x) = scat w (posWord j)
    unfold codes
    rw [List.map_map, List.map_map]
    refine scat_map w (posWord j) fun x hx y hy q => ?_
    have q' : 65 + ltr a b c d e y = 65 + ltr a b c d e x := q
    exact ltr_inj h y (posWord_lt j hj' y hy) x (broken_lt hK w hw x hx) (by omega)
  rw [List.filter_congr e1]
  refine List.map_congr_left fun j _ => ?_
  show ((posWord j).map _).length = _
  rw [List.length_map]
end
end Mine
end

-- PR
section
open PySem PySem.W PySem.Spec PySem.Calls PyProof.Rows PyProof.Rows.LCg
namespace Mine
theorem xlc (a b c : Nat) : a ^^^ (b ^^^ c) = b ^^^ (a ^^^ c) := by rw [← Nat.xor_assoc, Nat.xor_comm a b, Nat.xor_assoc]
def sel (b : Bool) (x : Nat) : Nat := if b then x else 0
theorem sel_xor (s t : Bool) (x : Nat) : sel (s ^^ t) x = sel s x ^^^ sel t x := by
  cases s <;> cases t <;> simp [sel]
def bits (a b c d e j : Nat) : Nat := sel (j.testBit 0) a ^^^ sel (j.testBit 1) b ^^^ sel (j.testBit 2) c ^^^ sel (j.testBit 3) d ^^^ sel (j.testBit 4) e
theorem bits_xor (a b c d e S T : Nat) : bits a b c d e (S ^^^ T) = bits a b c d e S ^^^ bits a b c d e T := by
  unfold bits
  simp only [Nat.testBit_xor, sel_xor]
  simp only [Nat.xor_assoc, xlc, Nat.xor_comm]
theorem tb0 (a b c d e : Nat) : tot a b c d e 0 = bits a b c d e 0 := by
  show 0 = sel false a ^^^ sel false b ^^^ sel false c ^^^ sel false d ^^^ sel false e
  simp [sel]
theorem tb1 (a b c d e : Nat) : tot a b c d e 1 = bits a b c d e 1 := by
  show (0 ^^^ a) = sel true a ^^^ sel false b ^^^ sel false c ^^^ sel false d ^^^ sel false e
  simp [sel]
theorem tb2 (a b c d e : Nat) : tot a b c d e 2 = bits a b c d e 2 := by
  show (0 ^^^ b) = sel false a ^^^ sel true b ^^^ sel false c ^^^ sel false d ^^^ sel false e
  simp [sel]
theorem tb3 (a b c d e : Nat) : tot a b c d e 3 = bits a b c d e 3 := by
  show ((0 ^^^ a) ^^^ b) = sel true a ^^^ sel true b ^^^ sel false c ^^^ sel false d ^^^ sel false e
  simp [sel]
theorem tb4 (a b c d e : Nat) : tot a b c d e 4 = bits a b c d e 4 := by
  show (0 ^^^ c) = sel false a ^^^ sel false b ^^^ sel true c ^^^ sel false d ^^^ sel false e
  simp [sel]
theorem tb5 (a b c d e : Nat) : tot a b c d e 5 = bits a b c d e 5 := by
  show ((0 ^^^ a) ^^^ c) = sel true a ^^^ sel false b ^^^ sel true c ^^^ sel false d ^^^ sel false e
  simp [sel]
theorem tb6 (a b c d e : Nat) : tot a b c d e 6 = bits a b c d e 6 := by
  show ((0 ^^^ b) ^^^ c) = sel false a ^^^ sel true b ^^^ sel true c ^^^ sel false d ^^^ sel false e
  simp [sel]
theorem tb7 (a b c d e : Nat) : tot a b c d e 7 = bits a b c d e 7 := by
  show (((0 ^^^ a) ^^^ b) ^^^ c) = sel true a ^^^ sel true b ^^^ sel true c ^^^ sel false d ^^^ sel false e
  simp [sel]
theorem tb8 (a b c d e : Nat) : tot a b c d e 8 = bits a b c d e 8 := by
  show (0 ^^^ d) = sel false a ^^^ sel false b ^^^ sel false c ^^^ sel true d ^^^ sel false e
  simp [sel]
theorem tb9 (a b c d e : Nat) : tot a b c d e 9 = bits a b c d e 9 := by
  show ((0 ^^^ a) ^^^ d) = sel true a ^^^ sel false b ^^^ sel false c ^^^ sel true d ^^^ sel false e
  simp [sel]
theorem tb10 (a b c d e : Nat) : tot a b c d e 10 = bits a b c d e 10 := by
  show ((0 ^^^ b) ^^^ d) = sel false a ^^^ sel true b ^^^ sel false c ^^^ sel true d ^^^ sel false e
  simp [sel]
theorem tb11 (a b c d e : Nat) : tot a b c d e 11 = bits a b c d e 11 := by
  show (((0 ^^^ a) ^^^ b) ^^^ d) = sel true a ^^^ sel true b ^^^ sel false c ^^^ sel true d ^^^ sel false e
  simp [sel]
theorem tb12 (a b c d e : Nat) : tot a b c d e 12 = bits a b c d e 12 := by
  show ((0 ^^^ c) ^^^ d) = sel false a ^^^ sel false b ^^^ sel true c ^^^ sel true d ^^^ sel false e
  simp [sel]
theorem tb13 (a b c d e : Nat) : tot a b c d e 13 = bits a b c d e 13 := by
  show (((0 ^^^ a) ^^^ c) ^^^ d) = sel true a ^^^ sel false b ^^^ sel true c ^^^ sel true d ^^^ sel false e
  simp [sel]
theorem tb14 (a b c d e : Nat) : tot a b c d e 14 = bits a b c d e 14 := by
  show (((0 ^^^ b) ^^^ c) ^^^ d) = sel false a ^^^ sel true b ^^^ sel true c ^^^ sel true d ^^^ sel false e
  simp [sel]
theorem tb15 (a b c d e : Nat) : tot a b c d e 15 = bits a b c d e 15 := by
  show ((((0 ^^^ a) ^^^ b) ^^^ c) ^^^ d) = sel true a ^^^ sel true b ^^^ sel true c ^^^ sel true d ^^^ sel false e
  simp [sel]
theorem tb16 (a b c d e : Nat) : tot a b c d e 16 = bits a b c d e 16 := by
  show (0 ^^^ e) = sel false a ^^^ sel false b ^^^ sel false c ^^^ sel false d ^^^ sel true e
  simp [sel]
theorem tb17 (a b c d e : Nat) : tot a b c d e 17 = bits a b c d e 17 := by
  show ((0 ^^^ a) ^^^ e) = sel true a ^^^ sel false b ^^^ sel false c ^^^ sel false d ^^^ sel true e
  simp [sel]
theorem tb18 (a b c d e : Nat) : tot a b c d e 18 = bits a b c d e 18 := by
  show ((0 ^^^ b) ^^^ e) = sel false a ^^^ sel true b ^^^ sel false c ^^^ sel false d ^^^ sel true e
  simp [sel]
theorem tb19 (a b c d e : Nat) : tot a b c d e 19 = bits a b c d e 19 := by
  show (((0 ^^^ a) ^^^ b) ^^^ e) = sel true a ^^^ sel true b ^^^ sel false c ^^^ sel false d ^^^ sel true e
  simp [sel]
theorem tb20 (a b c d e : Nat) : tot a b c d e 20 = bits a b c d e 20 := by
  show ((0 ^^^ c) ^^^ e) = sel false a ^^^ sel false b ^^^ sel true c ^^^ sel false d ^^^ sel true e
  simp [sel]
theorem tb21 (a b c d e : Nat) : tot a b c d e 21 = bits a b c d e 21 := by
  show (((0 ^^^ a) ^^^ c) ^^^ e) = sel true a ^^^ sel false b ^^^ sel true c ^^^ sel false d ^^^ sel true e
  simp [sel]
theorem tb22 (a b c d e : Nat) : tot a b c d e 22 = bits a b c d e 22 := by
  show (((0 ^^^ b) ^^^ c) ^^^ e) = sel false a ^^^ sel true b ^^^ sel true c ^^^ sel false d ^^^ sel true e
  simp [sel]
theorem tb23 (a b c d e : Nat) : tot a b c d e 23 = bits a b c d e 23 := by
  show ((((0 ^^^ a) ^^^ b) ^^^ c) ^^^ e) = sel true a ^^^ sel true b ^^^ sel true c ^^^ sel false d ^^^ sel true e
  simp [sel]
theorem tb24 (a b c d e : Nat) : tot a b c d e 24 = bits a b c d e 24 := by
  show ((0 ^^^ d) ^^^ e) = sel false a ^^^ sel false b ^^^ sel false c ^^^ sel true d ^^^ sel true e
  simp [sel]
theorem tb25 (a b c d e : Nat) : tot a b c d e 25 = bits a b c d e 25 := by
  show (((0 ^^^ a) ^^^ d) ^^^ e) = sel true a ^^^ sel false b ^^^ sel false c ^^^ sel true d ^^^ sel true e
  simp [sel]
theorem tb26 (a b c d e : Nat) : tot a b c d e 26 = bits a b c d e 26 := by
  show (((0 ^^^ b) ^^^ d) ^^^ e) = sel false a ^^^ sel true b ^^^ sel false c ^^^ sel true d ^^^ sel true e
  simp [sel]
theorem tb27 (a b c d e : Nat) : tot a b c d e 27 = bits a b c d e 27 := by
  show ((((0 ^^^ a) ^^^ b) ^^^ d) ^^^ e) = sel true a ^^^ sel true b ^^^ sel false c ^^^ sel true d ^^^ sel true e
  simp [sel]
theorem tb28 (a b c d e : Nat) : tot a b c d e 28 = bits a b c d e 28 := by
  show (((0 ^^^ c) ^^^ d) ^^^ e) = sel false a ^^^ sel false b ^^^ sel true c ^^^ sel true d ^^^ sel true e
  simp [sel]
theorem tb29 (a b c d e : Nat) : tot a b c d e 29 = bits a b c d e 29 := by
  show ((((0 ^^^ a) ^^^ c) ^^^ d) ^^^ e) = sel true a ^^^ sel false b ^^^ sel true c ^^^ sel true d ^^^ sel true e
  simp [sel]
theorem tb30 (a b c d e : Nat) : tot a b c d e 30 = bits a b c d e 30 := by
  show ((((0 ^^^ b) ^^^ c) ^^^ d) ^^^ e) = sel false a ^^^ sel true b ^^^ sel true c ^^^ sel true d ^^^ sel true e
  simp [sel]
theorem tb31 (a b c d e : Nat) : tot a b c d e 31 = bits a b c d e 31 := by
  show (((((0 ^^^ a) ^^^ b) ^^^ c) ^^^ d) ^^^ e) = sel true a ^^^ sel true b ^^^ sel true c ^^^ sel true d ^^^ sel true e
  simp [sel]
theorem tot_bits (a b c d e : Nat) : ∀ j < 32, tot a b c d e j = bits a b c d e j := by
  intro j hj
  match j, hj with
  | 0, _ => exact tb0 a b c d e
  | 1, _ => exact tb1 a b c d e
  | 2, _ => exact tb2 a b c d e
  | 3, _ => exact tb3 a b c d e
  | 4, _ => exact tb4 a b c d e
  | 5, _ => exact tb5 a b c d e
  | 6, _ => exact tb6 a b c d e
  | 7, _ => exact tb7 a b c d e
  | 8, _ => exact tb8 a b c d e
  | 9, _ => exact tb9 a b c d e
  | 10, _ => exact tb10 a b c d e
  | 11, _ => exact tb11 a b c d e
  | 12, _ => exact tb12 a b c d e
  | 13, _ => exact tb13 a b c d e
  | 14, _ => exact tb14 a b c d e
  | 15, _ => exact tb15 a b c d e
  | 16, _ => exact tb16 a b c d e
  | 17, _ => exact tb17 a b c d e
  | 18, _ => exact tb18 a b c d e
  | 19, _ => exact tb19 a b c d e
  | 20, _ => exact tb20 a b c d e
  | 21, _ => exact tb21 a b c d e
  | 22, _ => exact tb22 a b c d e
  | 23, _ => exact tb23 a b c d e
  | 24, _ => exact tb24 a b c d e
  | 25, _ => exact tb25 a b c d e
  | 26, _ => exact tb26 a b c d e
  | 27, _ => exact tb27 a b c d e
  | 28, _ => exact tb28 a b c d e
  | 29, _ => exact tb29 a b c d e
  | 30, _ => exact tb30 a b c d e
  | 31, _ => exact tb31 a b c d e
  | n + 32, h => omega
theorem xor_fin : ∀ x y : Fin 16, x.val ^^^ y.val = 0 → x = y := by decide +kernel
theorem xor_ne {x y : Nat} (hx : x < 16) (hy : y < 16) (h : x ≠ y) : 0 ^^^ x ^^^ y ≠ 0 := by
  rw [Nat.zero_xor]
  intro e
  exact h (congrArg Fin.val (xor_fin ⟨x, hx⟩ ⟨y, hy⟩ e))
theorem xor_ne1 {x : Nat} (h : 1 ≤ x) : 0 ^^^ x ≠ 0 := by
  rw [Nat.zero_xor]
  omega
section
variable {a b c d e : Nat}
theorem tot_lt (h5 : Five [a, b, c, d, e]) (S : Nat) : tot a b c d e S < 16 := by
  unfold tot totL
  rw [List.getD_eq_getElem?_getD]
  cases h : ((wordsOf [a, b, c, d, e]).map (·.2))[S]? with
  | none => decide
  | some y =>
    have hm := List.mem_of_getElem? h
    obtain ⟨p, hp, rfl⟩ := List.mem_map.mp hm
    exact (wordsOf_fit _ (fun x hx => (h5.2.2 x hx).2) p hp).1
theorem light_zz (h5 : Five [a, b, c, d, e]) : ∀ u ∈ light, zz a b c d e u = false := by
  have ha := h5.2.2 a (by simp)
  have hb := h5.2.2 b (by simp)
  have hc := h5.2.2 c (by simp)
  have hd := h5.2.2 d (by simp)
  have he := h5.2.2 e (by simp)
  have hn := h5.2.1
  simp only [List.nodup_cons, List.mem_cons, List.not_mem_nil, or_false, not_or] at hn
  obtain ⟨⟨n1, n2, n3, n4⟩, ⟨n5, n6, n7⟩, ⟨n8, n9⟩, n10, _⟩ := hn
  intro u hu
  unfold zz
  rw [beq_eq_false_iff_ne]
  simp only [light, List.mem_cons, List.not_mem_nil, or_false] at hu
  rcases hu with rfl | rfl | rfl | rfl | rfl | rfl | rfl | rfl | rfl | rfl | rfl | rfl | rfl | rfl | rfl
  · exact xor_ne1 ha.1
  · exact xor_ne1 hb.1
  · exact xor_ne1 hc.1
  · exact xor_ne1 hd.1
  · exact xor_ne1 he.1
  · exact xor_ne ha.2 hb.2 (by assumption)
  · exact xor_ne ha.2 hc.2 (by assumption)
  · exact xor_ne hb.2 hc.2 (by assumption)
  · exact xor_ne ha.2 hd.2 (by assumption)
  · exact xor_ne hb.2 hd.2 (by assumption)
  · exact xor_ne hc.2 hd.2 (by assumption)
  · exact xor_ne ha.2 he.2 (by assumption)
  · exact xor_ne hb.2 he.2 (by assumption)
  · exact xor_ne hc.2 he.2 (by assumption)
  · exact xor_ne hd.2 he.2 (by assumption)
theorem closed_zz : ∀ S T, S < 32 → T < 32 → zz a b c d e S = true → zz a b c d e T = true → zz a b c d e (S ^^^ T) = true := by
  intro S T hS hT h1 h2
  unfold zz at *
  rw [beq_iff_eq] at *
  have hST : S ^^^ T < 32 := Nat.xor_lt_two_pow (n := 5) hS hT
  rw [tot_bits a b c d e _ hST, bits_xor, ← tot_bits a b c d e S hS, ← tot_bits a b c d e T hT, h1, h2]
  rfl
theorem KK_eq : KK a b c d e = [0] ++ (List.range' 1 31).filter (zz a b c d e) := by
  unfold KK
  rw [show List.range 32 = 0 :: List.range' 1 31 from by decide +kernel, List.filter_cons, if_pos (by rfl)]
  rfl
theorem KK_cand (h5 : Five [a, b, c, d, e]) : KK a b c d e ∈ cands (List.range' 1 31) [0] := by
  rw [KK_eq]
  refine cands_mem closed_zz (light_zz h5) _ _ (fun T hT => ?_) (fun S hS => ?_)
  · rw [List.mem_singleton.mp hT]
    exact ⟨by decide, by rfl⟩
  · rw [List.mem_range'_1] at hS
    omega
theorem KK_mem (S : Nat) : S ∈ KK a b c d e ↔ zz a b c d e S = true := by
  unfold KK
  rw [List.mem_filter, List.mem_range]
  refine ⟨fun h => h.2, fun h => ⟨?_, h⟩⟩
  refine Nat.lt_of_not_le fun hle => ?_
  unfold zz tot at h
  rw [List.getD_eq_getElem?_getD, List.getElem?_eq_none (by show (totL a b c d e).length ≤ S; exact hle)] at h
  cases h
theorem KK_contains : (fun S => (KK a b c d e).contains S) = fun S => tot a b c d e S == 0 := by
  funext S
  have h := KK_mem (a := a) (b := b) (c := c) (d := d) (e := e) S
  cases hz : zz a b c d e S with
  | true =>
    rw [hz] at h
    have h1 : (KK a b c d e).contains S = true := List.contains_iff_mem.mpr (h.mpr rfl)
    rw [h1]
    exact hz.symm
  | false =>
    rw [hz] at h
    have h1 : (KK a b c d e).contains S = false := by
      cases q : (KK a b c d e).contains S with
      | false => rfl
      | true => exact absurd (h.mp (List.contains_iff_mem.mp q)) (by decide)
    rw [h1]
    exact hz.symm
theorem KK_closed : closed (KK a b c d e) = true := by
  unfold closed
  rw [List.all_eq_true]
  intro S hS
  rw [List.all_eq_true]
  intro T hT
  have h1 := (KK_mem S).mp hS
  have h2 := (KK_mem T).mp hT
  have h3 : S < 32 := List.mem_range.mp (List.mem_filter.mp hS).1
  have h4 : T < 32 := List.mem_range.mp (List.mem_filter.mp hT).1
  exact List.contains_iff_mem.mpr ((KK_mem _).mpr (closed_zz S T h3 h4 h1 h2))
theorem KK_check (h5 : Five [a, b, c, d, e]) (par : Bool) : check (KK a b c d e) par = true := by
  have h := List.all_eq_true.mp all_checked _ (List.mem_filter.mpr ⟨KK_cand h5, KK_closed⟩)
  rw [Bool.and_eq_true] at h
  cases par
  · exact h.1
  · exact h.2
end
theorem one_fin : ∀ p1 p2 p3 p4 p5 : Fin 2, ((1 - (1 - 2 * (p1.val : Int))) * ((1 - (1 - 2 * (p2.val : Int))) * ((1 - (1 - 2 * (p3.val : Int))) * ((1 - (1 - 2 * (p4.val : Int))) * ((1 - (1 - 2 * (p5.val : Int))) * 1))))) =
    32 * (if ((((0 * 2 + p1.val) * 2 + p2.val) * 2 + p3.val) * 2 + p4.val) * 2 + p5.val = 31 then 1 else 0) := by decide +kernel
theorem two_fin : ∀ p1 p2 p3 p4 p5 q1 q2 q3 q4 q5 : Fin 2, ((3 - (1 - 2 * (p1.val : Int)) - (1 - 2 * (q1.val : Int)) - (1 - 2 * (p1.val : Int)) * (1 - 2 * (q1.val : Int))) * ((3 - (1 - 2 * (p2.val : Int)) - (1 - 2 * (q2.val : Int)) - (1 - 2 * (p2.val : Int)) * (1 - 2 * (q2.val : Int))) * ((3 - (1 - 2 * (p3.val : Int)) - (1 - 2 * (q3.val : Int)) - (1 - 2 * (p3.val : Int)) * (1 - 2 * (q3.val : Int))) * ((3 - (1 - 2 * (p4.val : Int)) - (1 - 2 * (q4.val : Int)) - (1 - 2 * (p4.val : Int)) * (1 - 2 * (q4.val : Int))) * ((3 - (1 - 2 * (p5.val : Int)) - (1 - 2 * (q5.val : Int)) - (1 - 2 * (p5.val : Int)) * (1 - 2 * (q5.val : Int))) * 1))))) =
    1024 * (if (((((0 * 2 + p1.val) * 2 + p2.val) * 2 + p3.val) * 2 + p4.val) * 2 + p5.val) ||| (((((0 * 2 + q1.val) * 2 + q2.val) * 2 + q3.val) * 2 + q4.val) * 2 + q5.val) = 31 then 1 else 0) := by decide +kernel
theorem count_sum (f : Nat → Nat) (l : List Nat) : (((l.map f).count 31 : Nat) : Int) = (l.map fun m => if f m = 31 then (1 : Int) else 0).sum := by
  induction l with
  | nil => rfl
  | cons m r ih =>
    rw [List.map_cons, List.count_cons, List.map_cons, List.sum_cons, ← ih]
    by_cases h : f m = 31
    · simp [h]; omega
    · simp [h]
theorem filter_sum (q : Nat → Bool) (l : List Nat) : (((l.filter q).length : Nat) : Int) = (l.map fun j => if q j = true then (1 : Int) else 0).sum := by
  induction l with
  | nil => rfl
  | cons m r ih =>
    rw [List.filter_cons, List.map_cons, List.sum_cons, ← ih]
    cases q m
    · simp
    · simp; omega
theorem cntAll_sum (test : Nat → Nat → Bool) (n : Nat) : ∀ i, ((cntAll test n i : Nat) : Int) = ((List.range i).map fun i => ((cntUpTo test i n : Nat) : Int)).sum
  | 0 => rfl
  | i + 1 => by
    rw [List.range_succ, List.map_append, List.sum_append, ← cntAll_sum test n i]
    show ((cntAll test n i + cntUpTo test i n : Nat) : Int) = _
    simp
section
variable {a b c d e : Nat}
theorem sg_zero (m : Nat) : sg m 0 = 1 := by
  unfold sg
  rw [Nat.and_zero]
  rfl
theorem G_one : G [a, b, c, d, e] 0 = 32 * ((shownOf [a, b, c, d, e]).count 31 : Int) := by
  unfold shownOf
  rw [count_sum, ← sum_mul]
  unfold G
  refine sum_congr fun m _ => ?_
  rw [sg_zero, Int.mul_one]
  exact one_fin ⟨par (m &&& a), par_lt _⟩ ⟨par (m &&& b), par_lt _⟩ ⟨par (m &&& c), par_lt _⟩ ⟨par (m &&& d), par_lt _⟩ ⟨par (m &&& e), par_lt _⟩
theorem shown_getD {xs : List Nat} {i : Nat} (h : i < 16) : (shownOf xs).getD i 0 = caughtBy i xs := by
  unfold shownOf
  rw [List.getD_eq_getElem?_getD, List.getElem?_map, List.getElem?_range h]
  rfl
theorem G_two : G2 [a, b, c, d, e] 0 0 = 1024 * (cntAll (fun i j => decide ((shownOf [a, b, c, d, e]).getD i 0 ||| (shownOf [a, b, c, d, e]).getD j 0 = 31)) 16 16 : Int) := by
  rw [cntAll_sum, ← sum_mul]
  unfold G2
  refine sum_congr fun m hm => ?_
  unfold cntUpTo
  rw [filter_sum, ← sum_mul]
  refine sum_congr fun m' hm' => ?_
  simp only [decide_eq_true_eq]
  rw [sg_zero, sg_zero, Int.mul_one, Int.mul_one, shown_getD (List.mem_range.mp hm), shown_getD (List.mem_range.mp hm')]
  exact two_fin ⟨par (m &&& a), par_lt _⟩ ⟨par (m &&& b), par_lt _⟩ ⟨par (m &&& c), par_lt _⟩ ⟨par (m &&& d), par_lt _⟩ ⟨par (m &&& e), par_lt _⟩ ⟨par (m' &&& a), par_lt _⟩ ⟨par (m' &&& b), par_lt _⟩ ⟨par (m' &&& c), par_lt _⟩ ⟨par (m' &&& d), par_lt _⟩ ⟨par (m' &&& e), par_lt _⟩
theorem plain5 (h5 : Five [a, b, c, d, e]) (par : Bool) : totalUpTo ((sizesM par (KK a b c d e)).map fun (k : Nat) => (k : Int)) 1 6 = 2 * ((shownOf [a, b, c, d, e]).count 31 : Int) ∧
    totalUpTo ((sizesM par (KK a b c d e)).map fun (k : Nat) => (k : Int)) 2 6 = 4 * (cntAll (fun i j => decide ((shownOf [a, b, c, d, e]).getD i 0 ||| (shownOf [a, b, c, d, e]).getD j 0 = 31)) 16 16 : Int) := by
  have hc := KK_check h5 par
  unfold check at hc
  rw [Bool.and_eq_true, beq_iff_eq, beq_iff_eq, KK_contains] at hc
  obtain ⟨h1, h2⟩ := hc
  have hl : ∀ p ∈ [(0, a), (1, b), (2, c), (3, d), (4, e)], p.2 < 16 := by
    intro p hp
    have : p.2 ∈ [a, b, c, d, e] := List.mem_map_of_mem (f := Prod.snd) hp
    exact (h5.2.2 _ this).2
  have g1 := G_path (tot_lt h5) [(0, a), (1, b), (2, c), (3, d), (4, e)] 0 hl (tot_path a b c d e)
  have g2 := G2_path (tot_lt h5) [(0, a), (1, b), (2, c), (3, d), (4, e)] 0 0 hl (tot_path a b c d e) (tot_path a b c d e)
  have g1' : G [a, b, c, d, e] 0 = GP (fun S => tot a b c d e S == 0) [0, 1, 2, 3, 4] 0 := g1
  have g2' : G2 [a, b, c, d, e] 0 0 = HP (fun S => tot a b c d e S == 0) [0, 1, 2, 3, 4] 0 0 := g2
  rw [← g1', G_one] at h1
  rw [← g2', G_two] at h2
  exact ⟨by omega, by omega⟩
theorem fit5 (h5 : Five [a, b, c, d, e]) : ∀ w ∈ ringsOf (wordsOf [a, b, c, d, e]), w.length ≤ 5 ∧ w.length ≠ 1 := by
  intro w hw
  have h1 : ∀ j < 32, (posWord j).length ≤ 5 ∧ ((posWord j).length = 1 → j ∈ light) := by decide +kernel
  rw [rings_eq] at hw
  obtain ⟨v, hv, rfl⟩ := List.mem_map.mp hw
  obtain ⟨j, hj, rfl⟩ := List.mem_map.mp hv
  have hj32 : j < 32 := List.mem_range.mp (List.mem_filter.mp hj).1
  rw [List.length_map]
  refine ⟨(h1 j hj32).1, fun e1 => ?_⟩
  have := light_zz h5 j ((h1 j hj32).2 e1)
  rw [(KK_mem j).mp hj] at this
  cases this
end
end Mine
end

-- PL0
section
open PySem PySem.W PySem.Spec PySem.Calls PyProof.Rows PyProof.Rows.LCg
namespace Mine
theorem ok_heads {xs : List Nat} (h5 : Five xs) : OkHeads (wordsOf xs) := fun p hp => by
  have := wordsOf_fit xs (fun x hx => (h5.2.2 x hx).2) p hp
  exact ⟨ok_name this.1, ok_txt fun y hy => (h5.2.2 y (this.2.2 y hy)).2⟩
theorem ok_strs {xs : List Nat} (h5 : Five xs) : OkStrs ((ringsOf (wordsOf xs)).map txt) := fun x hx => by
  obtain ⟨w, hw, rfl⟩ := List.mem_map.mp hx
  obtain ⟨p, hp, rfl⟩ := List.mem_map.mp hw
  exact (ok_heads h5 p (List.mem_filter.mp hp).1).2
theorem rings_len {ws : List (List Nat × Nat)} (h : ws.length ≤ 32) : (ringsOf ws).length ≤ 32 := by
  unfold ringsOf
  rw [List.length_map]
  exact Nat.le_trans (List.length_filter_le _ _) h
theorem five_cases {xs : List Nat} (h5 : Five xs) : ∃ a b c d e, xs = [a, b, c, d, e] := by
  match xs, h5.1 with
  | [a, b, c, d, e], _ => exact ⟨a, b, c, d, e, rfl⟩
theorem rings_fit {xs : List Nat} (h5 : Five xs) : ∀ w ∈ ringsOf (wordsOf xs), w.length ≤ 5 ∧ w.length ≠ 1 := by
  obtain ⟨a, b, c, d, e, rfl⟩ := five_cases h5
  exact fit5 h5
def sizesOf (bl : List (List Nat)) (ws : List (List Nat × Nat)) : List Nat := (ws.filter fun p => !(bl.any fun c => scat c (txt p.1).cps.toList)).map (·.1.length)
theorem plain_law {xs : List Nat} (h5 : Five xs) (par : Bool) : totalUpTo ((sizesOf ((brokenOf par (ringsOf (wordsOf xs))).map codes) (wordsOf xs)).map fun (k : Nat) => (k : Int)) 1 6 = 2 * ((shownOf xs).count 31 : Int) ∧
    totalUpTo ((sizesOf ((brokenOf par (ringsOf (wordsOf xs))).map codes) (wordsOf xs)).map fun (k : Nat) => (k : Int)) 2 6 = 4 * (cntAll (fun i j => decide ((shownOf xs).getD i 0 ||| (shownOf xs).getD j 0 = 31)) 16 16 : Int) := by
  obtain ⟨a, b, c, d, e, rfl⟩ := five_cases h5
  have := plain5 h5 par
  rw [← sizes_eq h5.2.1 par] at this
  exact this
end Mine
end

-- LW
section
open PySem PySem.W PySem.Spec PySem.Calls PyProof.Rows PyProof.Rows.LCg
namespace Mine
theorem off_tl {a b : Addr} {bs tl : Led} (h : OwnOff bs [a, b]) (ha : ∀ p ∈ tl, @Ne Nat a p.1) (hb : ∀ p ∈ tl, @Ne Nat b p.1) : OwnOff (bs ++ tl) [a, b] := by
  intro p hp c hc
  rcases List.mem_append.mp hp with hp | hp
  · exact h p hp c hc
  · rcases List.mem_cons.mp hc with rfl | hc
    · exact Ne.symm (ha p hp)
    · rw [List.mem_singleton.mp hc]
      exact Ne.symm (hb p hp)
theorem sizesOf_snoc (bl : List (List Nat)) (ws : List (List Nat × Nat)) (p : List Nat × Nat) : sizesOf bl (ws ++ [p]) = sizesOf bl ws ++ (if (bl.any fun c => scat c (txt p.1).cps.toList) = true then [] else [p.1.length]) := by
  unfold sizesOf
  rw [List.filter_append, List.map_append]
  by_cases h : (bl.any fun c => scat c (txt p.1).cps.toList) = true <;> simp_all
theorem front_in {p0 p1 p2 p3 p4 : Addr × Obj} {bs : Led} {h₀ h : Heap} {L : Addr} (N : News h₀ L h (p0 :: p1 :: p2 :: p3 :: p4 :: bs)) : News h₀ L h (p1 :: p2 :: p3 :: p4 :: (p0 :: bs)) := fun p hp => N p (by
  simp only [List.mem_cons] at hp ⊢
  rcases hp with h | h | h | h | h | h
  · exact .inr (.inl h)
  · exact .inr (.inr (.inl h))
  · exact .inr (.inr (.inr (.inl h)))
  · exact .inr (.inr (.inr (.inr (.inl h))))
  · exact .inl h
  · exact .inr (.inr (.inr (.inr (.inr h)))))
theorem off_new {a b D : Addr} {o : Obj} {bs : Led} (h : OwnOff bs [a, b]) (ha : @Ne Nat a D) (hb : @Ne Nat b D) : OwnOff ((D, o) :: bs) [a, b] := by
  intro p hp c hc
  rcases List.mem_cons.mp hp with rfl | hp
  · rcases List.mem_cons.mp hc with rfl | hc
    · exact Ne.symm ha
    · rw [List.mem_singleton.mp hc]; exact Ne.symm hb
  · exact h p hp c hc
theorem shown_at {xs : List Nat} {i : Nat} {v : Int} (h : ((shownOf xs).map fun (x : Nat) => (x : Int))[i]? = some v) : ∃ a : Nat, (shownOf xs)[i]? = some a ∧ (a : Int) = v := by
  rw [List.getElem?_map] at h
  cases e : (shownOf xs)[i]? with
  | none => rw [e] at h; cases h
  | some a => rw [e] at h; exact ⟨a, rfl, Option.some.inj h⟩
theorem tail1 {p : Addr × Obj} {bs : Led} {h₀ h : Heap} {L : Addr} (N : News h₀ L h (p :: bs)) : News h₀ L h bs := fun q hq => N q (.tail _ hq)
theorem or31 {l : List Nat} {i j a b : Nat} (ha : l[i]? = some a) (hb : l[j]? = some b) : (Builtin.bitOr (a : Int) (b : Int) == 31) = decide (l.getD i 0 ||| l.getD j 0 = 31) := by
  rw [bitOr_nat, List.getD_eq_getElem?_getD, List.getD_eq_getElem?_getD, ha, hb]
  show (((a ||| b : Nat) : Int) == 31) = decide (a ||| b = 31)
  by_cases h : a ||| b = 31
  · rw [h]; rfl
  · rw [decide_eq_false h, beq_eq_false_iff_ne]
    intro e
    exact h (by omega)
theorem sizes_len {bl : List (List Nat)} {ws : List (List Nat × Nat)} (h : ws.length ≤ 32) : ((sizesOf bl ws).map fun (k : Nat) => (k : Int)).length ≤ 100 := by
  unfold sizesOf
  rw [List.length_map, List.length_map]
  have := List.length_filter_le (fun p => !(bl.any fun c => scat c (txt p.1).cps.toList)) ws
  omega
theorem toks_keep {α : Type} {M : Model} {A : Around} {t : Sem α} {Q : α → Shared → Prop} {E : Value → Shared → Prop} {s : Shared} (h : wpAny M A t (fun v s' => s.toks ≤ s'.toks → Q v s') E s) : wpAny M A t Q E s :=
  wpAny_mono (wpAny_toks h) (fun _ _ x => x.2 x.1) fun _ _ x => x.2
theorem gen_all {α : Type} {M : Model} {A : Around} {t : Sem α} {Q : α → Shared → Prop} {E : Value → Shared → Prop} {h : Heap} {g : Array GenState} {d : Drawn} {os : OsState} {n c a : Nat} (hB : TkB n c) (hle : c ≤ a)
    (k : ∀ tk, TkB n tk → wpAny M A t Q E ⟨h, g, d, tk, os⟩) : wpAny M A t Q E ⟨h, g, d, a, os⟩ := k _ (Nat.le_trans hB hle)
theorem toks_keepB {α : Type} {M : Model} {A : Around} {t : Sem α} {Q : α → Shared → Prop} {E : Value → Shared → Prop} {s : Shared} (h : wpAny M A t (fun v s' => TkB s.toks s'.toks → Q v s') E s) : wpAny M A t Q E s :=
  wpAny_mono (wpAny_toks h) (fun _ _ x => x.2 x.1) fun _ _ x => x.2
def CellObj (o : Obj) : Prop := ∃ z, o.data = .cell z
theorem ic_of {p1 p2 : Addr × Obj} {tl : Led} {h₀ h' : Heap} {L : Addr} (_N : News h₀ L h' (p1 :: p2 :: tl)) (d1 : ∃ z, p1.2.data = .cell z) (d2 : ∃ z, p2.2.data = .cell z) : CellObj p1.2 ∧ CellObj p2.2 := ⟨d1, d2⟩
theorem ic_of4 {p1 p2 p3 p4 : Addr × Obj} {tl : Led} {h₀ h' : Heap} {L : Addr} (_N : News h₀ L h' (p3 :: p4 :: p1 :: p2 :: tl)) (d1 : ∃ z, p1.2.data = .cell z) (d2 : ∃ z, p2.2.data = .cell z) : CellObj p1.2 ∧ CellObj p2.2 := ⟨d1, d2⟩
theorem mem_off {p1 p2 p : Addr × Obj} {bs : Led} (c1 : CellObj p1.2) (c2 : CellObj p2.2) (h : p ∈ p1 :: p2 :: bs) (hp : ∀ z, p.2.data ≠ .cell z) : p ∈ bs := by
  rcases List.mem_cons.mp h with rfl | h
  · obtain ⟨z, e⟩ := c1; exact absurd e (hp z)
  rcases List.mem_cons.mp h with rfl | h
  · obtain ⟨z, e⟩ := c2; exact absurd e (hp z)
  · exact h
theorem pair_off {α : Type} {K : α → Value → Value → Prop} {p1 p2 : Addr × Obj} {bs : Led} (c1 : CellObj p1.2) (c2 : CellObj p2.2) {vs : List Value} {ps : List α} (h : PairAre K (p1 :: p2 :: bs) vs ps) : PairAre K bs vs ps := by
  induction h with
  | nil => exact .nil
  | cons h k _ ih => exact .cons (mem_off c1 c2 h nofun) k ih
theorem tab_mono {led led' : Led} {r : Value} {ws : List (List Nat × Nat)} (h : IsTab led r ws) (hs : ∀ p ∈ led, p ∈ led') : IsTab led' r ws := by
  obtain ⟨x, dx, lh, n, hh, t, vs, e, h1, h2, h3, hP⟩ := h
  exact ⟨x, dx, lh, n, hh, t, vs, e, hs _ h1, hs _ h2, hs _ h3, hP.mono hs⟩
theorem in7 {p1 p2 p3 p4 p5 p6 p7 : Addr × Obj} {bs : Led} {h₀ h : Heap} {L : Addr} (_N : News h₀ L h (p1 :: p2 :: p3 :: p4 :: p5 :: p6 :: p7 :: bs)) : ∀ p ∈ bs, p ∈ p1 :: p2 :: p3 :: p4 :: p5 :: p6 :: p7 :: bs := fun p hp => .tail _ (.tail _ (.tail _ (.tail _ (.tail _ (.tail _ (.tail _ hp))))))
theorem tails4 {p1 p2 p3 p4 : Addr × Obj} {bs : Led} {h₀ h : Heap} {L : Addr} (N : News h₀ L h (p1 :: p2 :: p3 :: p4 :: bs)) : News h₀ L h bs := fun p hp => N p (.tail _ (.tail _ (.tail _ (.tail _ hp))))
theorem front2 {p1 p2 p : Addr × Obj} {bs : Led} (h1 : p1 ∈ bs) (h2 : p2 ∈ bs) (h : p ∈ p1 :: p2 :: bs) : p ∈ bs := by
  rcases List.mem_cons.mp h with rfl | h
  · exact h1
  rcases List.mem_cons.mp h with rfl | h
  · exact h2
  · exact h
local macro_rules | `(tactic| walk_at "call ref") => `(tactic| (refine Hold.out ?_))
local macro_rules | `(tactic| walk_at "newTuple") => `(tactic| (k_here; k_dflt (refine' kup_newTuple ?F ?N ?_ ?z; (case F => k_asm); (case N => k_asm); (case z => kmk_size)); refine Hold.out ?_))
local macro_rules | `(tactic| walk_at "compareOp NotEq ref ref") => `(tactic| (refine Hold.out ?_))
local macro_rules | `(tactic| walk_at "eval ListComp") => `(tactic| (refine Hold.out ?_))
local macro_rules | `(tactic| walk_at "exec Assign cons ListComp") => `(tactic| (refine Hold.out ?_))
local macro_rules | `(tactic| walk_at "eval Name") => `(tactic| k_extra "free name")
local macro_rules | `(tactic| walk_at "call builtin:len") => `(tactic| (k_dflt (k_extra "my len")))
local macro_rules | `(tactic| walk_at "execs cons") => `(tactic| ((fail_if_success (fail_if_success (k_here; k_gentoks))); (rename TkB _ _ => hB'); (with_reducible refine gen_all hB' ?hle ?_); (case hle => ((try dsimp only); omega)); clear hB'; intro tk' hB'))
local macro_rules | `(tactic| walk_at "execs nil") => `(tactic| ((fail_if_success (fail_if_success (k_here; k_gentoks))); (rename TkB _ _ => hB'); (with_reducible refine gen_all hB' ?hle ?_); (case hle => ((try dsimp only); omega)); clear hB'; intro tk' hB'))
theorem law_walk : PySem.Challenge.rw_wo0063_01.Holds := Mine.hd (by
  k_with_none
  w_top off
  k_go0
  (all_goals try k_fold)
  k_steps
  unfold Hold
  rename Below _ _ _ _ => K0
  rename Heap.IsList _ _ _ => hL
  rename IntsAre _ _ => hI
  rename (¬ _ < _) => h63
  refine' letters_tells _ _ _ _ _ _ _ _ _ _ _ _ _ _ _ _ _ _ _ _ _ _ _ _ ?_ ?_ ?k1 ?k2 ?k3 ?k4 ?k5 ?kK hL hI ?k63 ?kd ?ku ?_
  case k2 => k_asm
  case k1 => k_asm
  case k3 => k_asm
  case k4 => k_asm
  case k5 => k_asm
  case kK => exact rfl
  case k63 => have := hI.length; omega
  case kd => ktr_room
  case ku => ktr_units
  intro r tl h' tk' F' N' ho ⟨xs, l, n, us, hr, hl, hlet, h5⟩
  subst hr
  have hOff : OwnOff tl [_, _] := fun p hp b hb => by
    rcases List.mem_cons.mp hb with rfl | hb
    · exact Ne.symm (ho _ (.head _) p hp)
    · rw [List.mem_singleton.mp hb]
      exact Ne.symm (ho _ (.tail _ (.head _)) p hp)
  dsimp only at hOff
  replace N' : News _ _ h' (_ :: _ :: tl) := N'
  obtain ⟨ic2, ic1⟩ := ic_of N' ⟨_, by assumption⟩ ⟨_, by assumption⟩
  replace hl : (l, listOf us.toArray n) ∈ tl := mem_off ic2 ic1 hl nofun
  have hone : ∀ x ∈ xs, 1 ≤ x := fun x hx => (h5.2.2 x hx).1
  have hwl : (wordsOf xs).length ≤ 32 := by rw [wordsOf_length, h5.1]; decide
  have hwf : ∀ p ∈ wordsOf xs, p.2 < 16 ∧ p.1.length ≤ 5 := fun p hp => by
    have := wordsOf_fit xs (fun x hx => (h5.2.2 x hx).2) p hp
    rw [h5.1] at this
    exact ⟨this.1, this.2.1⟩
  k_steps
  unfold Hold
  refine' use1 table_tells (d := xs) ?k1 ?k2 ?k3 ?k4 ?k5 ?kK ?kR ?kd ?ku ?_
  case k2 => k_asm
  case k1 => k_asm
  case k3 => k_asm
  case k4 => k_asm
  case k5 => k_asm
  case kK => exact rfl
  case kR => exact ⟨⟨l, n, us, rfl, .tail _ (.tail _ hl), hlet, by rw [h5.1]; decide⟩, hone⟩
  case kd => ktr_room
  case ku => ktr_units
  intro r tl2 h2 tk2 ht2 F2 N2 ho2 hT
  obtain ⟨x, dx, lh, nl, hh, tt, vsH, rfl, hlh, hx, hdx, hP⟩ := hT
  have hOff2 := off_tl hOff (fun p hp => ho2 _ (.head _) p hp) (fun p hp => ho2 _ (.tail _ (.head _)) p hp)
  replace hlh : (lh, listOf vsH.toArray nl) ∈ tl ++ tl2 := mem_off ic2 ic1 hlh nofun
  replace hx : (x, instObj 182 dx) ∈ tl ++ tl2 := mem_off ic2 ic1 hx nofun
  replace hdx : (dx, dictOf [⟨hh, .str (PySem.Str.ofString "_headers") tt, .ref lh⟩] 1) ∈ tl ++ tl2 := mem_off ic2 ic1 hdx nofun
  replace hP : PairAre IsHead (tl ++ tl2) vsH (wordsOf xs) := pair_off ic2 ic1 hP
  have hTab : IsTab (tl ++ tl2) (.ref x) (wordsOf xs) := ⟨x, dx, lh, nl, hh, tt, vsH, rfl, hlh, hx, hdx, hP⟩
  replace hl : (l, listOf us.toArray n) ∈ tl ++ tl2 := List.mem_append.mpr (.inl hl)
  clear hlh hP
  replace N2 : News _ _ h2 ((x, instObj 182 dx) :: (dx, dictOf [⟨hh, .str (PySem.Str.ofString "_headers") tt, .ref lh⟩] 1) :: _ :: _ :: (tl ++ tl2)) := fun p hp => N2 p (by
    rcases List.mem_cons.mp hp with rfl | hp
    · exact .tail _ (.tail _ hx)
    rcases List.mem_cons.mp hp with rfl | hp
    · exact .tail _ (.tail _ hdx)
    · exact hp)
  clear hOff ho ho2
  generalize tl ++ tl2 = bs1 at *
  k_steps
  unfold Hold
  refine' use1 due_tells (d := xs) ?k1 ?k2 ?k3 ?k4 ?k5 ?kK ?kR ?kd ?ku ?_
  case k2 => k_asm
  case k1 => k_asm
  case k3 => k_asm
  case k4 => k_asm
  case k5 => k_asm
  case kK => exact rfl
  case kR => exact ⟨l, n, us, rfl, .tail _ (.tail _ (.tail _ (.tail _ hl))), hlet, by rw [h5.1]; decide⟩
  case kd => ktr_room
  case ku => ktr_units
  intro r tl3 h3 tk3 ht3 F3 N3 ho3 ⟨ld, vsD, nd, hr, hld, hPD⟩
  subst hr
  have hs : ∀ p ∈ bs1, p ∈ bs1 ++ tl3 := fun p hp => List.mem_append.mpr (.inl hp)
  have hOff3 := off_tl hOff2 (fun p hp => ho3 _ (.tail _ (.tail _ (.head _))) p hp) (fun p hp => ho3 _ (.tail _ (.tail _ (.tail _ (.head _)))) p hp)
  replace hld : (ld, listOf vsD.toArray nd) ∈ bs1 ++ tl3 := mem_off ic2 ic1 (front2 (.tail _ (.tail _ (hs _ hx))) (.tail _ (.tail _ (hs _ hdx))) hld) nofun
  replace hPD : PairAre IsHead (bs1 ++ tl3) vsD (wordsOf xs) := pair_off ic2 ic1 (hPD.mono fun p hp => front2 (.tail _ (.tail _ (hs _ hx))) (.tail _ (.tail _ (hs _ hdx))) hp)
  replace hl := hs _ hl
  replace hx := hs _ hx
  replace hdx := hs _ hdx
  replace hTab := tab_mono hTab hs
  replace N3 : News _ _ h3 ((x, instObj 182 dx) :: (dx, dictOf [⟨hh, .str (PySem.Str.ofString "_headers") tt, .ref lh⟩] 1) :: _ :: _ :: (bs1 ++ tl3)) := N3
  clear hs hOff2 ho3
  generalize bs1 ++ tl3 = bs2 at *
  k_steps
  unfold Hold
  refine' use1 get_all_tells (d := wordsOf xs) ?k1 ?k2 ?k3 ?k4 ?k5 ?kK ?kR ?kd ?ku ?_
  case k2 => k_asm
  case k1 => k_asm
  case k3 => k_asm
  case k4 => k_asm
  case k5 => k_asm
  case kK => exact rfl
  case kR => exact ⟨⟨_, _, rfl, tab_mono hTab fun p hp => .tail _ (.tail _ (.tail _ (.tail _ hp)))⟩, hwl, hwf⟩
  case kd => ktr_room
  case ku => ktr_units
  intro r tl4 h4 tk4 ht4 F4 N4 ho4 ⟨lr, nr, usR, hr, hlr, hSR⟩
  subst hr
  have hs : ∀ p ∈ bs2, p ∈ bs2 ++ tl4 := fun p hp => List.mem_append.mpr (.inl hp)
  have hOff4 := off_tl hOff3 (fun p hp => ho4 _ (.tail _ (.tail _ (.head _))) p hp) (fun p hp => ho4 _ (.tail _ (.tail _ (.tail _ (.head _)))) p hp)
  replace hlr : (lr, listOf usR.toArray nr) ∈ bs2 ++ tl4 := mem_off ic2 ic1 (front2 (.tail _ (.tail _ (hs _ hx))) (.tail _ (.tail _ (hs _ hdx))) hlr) nofun
  replace hl := hs _ hl
  replace hx := hs _ hx
  replace hdx := hs _ hdx
  replace hld := hs _ hld
  replace hPD := hPD.mono hs
  replace hTab := tab_mono hTab hs
  replace N4 : News _ _ h4 ((x, instObj 182 dx) :: (dx, dictOf [⟨hh, .str (PySem.Str.ofString "_headers") tt, .ref lh⟩] 1) :: _ :: _ :: (bs2 ++ tl4)) := N4
  clear hs hOff3 ho4
  generalize bs2 ++ tl4 = bs3 at *
  k_steps
  unfold Hold
  refine' use1 items_tells (d := wordsOf xs) ?k1 ?k2 ?k3 ?k4 ?k5 ?kK ?kR ?kd ?ku ?_
  case k2 => k_asm
  case k1 => k_asm
  case k3 => k_asm
  case k4 => k_asm
  case k5 => k_asm
  case kK => exact rfl
  case kR => exact ⟨⟨_, rfl, tab_mono hTab fun p hp => .tail _ (.tail _ (.tail _ (.tail _ hp)))⟩, hwl, hwf⟩
  case kd => ktr_room
  case ku => ktr_units
  intro r tl5 h5' tk5 ht5 F5 N5 ho5 ⟨li, ni, usI, hr, hli, hPI⟩
  subst hr
  have hs : ∀ p ∈ bs3, p ∈ bs3 ++ tl5 := fun p hp => List.mem_append.mpr (.inl hp)
  have hOff5 := off_tl hOff4 (fun p hp => ho5 _ (.tail _ (.tail _ (.head _))) p hp) (fun p hp => ho5 _ (.tail _ (.tail _ (.tail _ (.head _)))) p hp)
  replace hli : (li, listOf usI.toArray ni) ∈ bs3 ++ tl5 := mem_off ic2 ic1 (front2 (.tail _ (.tail _ (hs _ hx))) (.tail _ (.tail _ (hs _ hdx))) hli) nofun
  replace hPI : PairAre IsHead (bs3 ++ tl5) usI (wordsOf xs) := pair_off ic2 ic1 (hPI.mono fun p hp => front2 (.tail _ (.tail _ (hs _ hx))) (.tail _ (.tail _ (hs _ hdx))) hp)
  replace hl := hs _ hl
  replace hx := hs _ hx
  replace hdx := hs _ hdx
  replace hld := hs _ hld
  replace hlr := hs _ hlr
  replace hPD := hPD.mono hs
  replace hTab := tab_mono hTab hs
  replace N5 : News _ _ h5' ((x, instObj 182 dx) :: (dx, dictOf [⟨hh, .str (PySem.Str.ofString "_headers") tt, .ref lh⟩] 1) :: _ :: _ :: (bs3 ++ tl5)) := N5
  clear hs hOff4 ho5
  generalize bs3 ++ tl5 = bs4 at *
  k_steps
  unfold Hold
  intro t1 hT1 FT1 NT1 ltT1
  k_steps
  unfold Hold
  refine ListComp_G (_F₀ := by k_asm) (by with_unfolding_all rfl) (by decide) (by rfl) (by decide) ?_
  k_steps
  unfold Stop
  rename Fr _ _ _ _ => F6
  rename News _ _ _ _ => N6
  refine ⟨ld, vsD.toArray, nd, _, rfl, F6, N6, .tail _ (.tail _ (.tail _ (.tail _ (.tail _ hld)))), fun gg => ?_⟩
  have hvD : vsD.length ≤ 32 := by rw [hPD.length]; exact hwl
  refine pt_loop (fun j ys nw => nw = _ ∧ StrsAre ys ((ringsOf ((wordsOf xs).take j)).map txt)) (by rfl) (by rfl) (by rfl) (by rfl) (by decide) (.tail _ (.tail _ (.tail _ (.tail _ (.tail _ hld))))) (by rw [List.size_toArray, sizeLine_eq]; omega) ⟨rfl, .nil⟩ (fun i ys nw h => by rw [h.1]; exact .tail _ (.tail _ (.tail _ (.tail _ (.tail _ hld))))) ?turn ?fin
  case turn =>
    rintro j ys nw v hv ⟨rfl, hys⟩
    obtain ⟨ta, nt, _, _, p, rfl, hp, ⟨tt1, tu1, rfl, rfl⟩, hpm⟩ := hPD.get (i := j) (v := v) (by simpa using hv)
    obtain ⟨hpt, hpl⟩ := hwf p (List.mem_of_getElem? hp)
    refine ⟨ta, _, _, _, nt, rfl, .tail _ (.tail _ (.tail _ (.tail _ (.tail _ hpm)))), rfl, rfl, ?_⟩
    intro I2 oI2 C oC D2 m₂ h2 tk2 E' hC hx1 hx2 F9 N9 hof hne
    k_steps
    · rename ((List.any _ _) = true) => hq
      rw [name_in hpt] at hq
      rename Fr _ _ _ _ => F10
      rename News _ _ _ _ => N10
      refine CompEnd.intro F10 N10 _ (fun p hp => .tail _ hp) hof trivial ⟨rfl, ?_⟩
      rw [List.take_add_one, hp, Option.toList_some, ringsOf_snoc, if_pos (of_decide_eq_true hq), List.map_append]
      exact PySem.W.kct_snoc hys
    · rename ((List.any _ _) = false) => hq
      rw [name_in hpt] at hq
      rename Fr _ _ _ _ => F10
      rename News _ _ _ _ => N10
      refine CompEnd.intro F10 N10 _ (fun p hp => .tail _ hp) hof trivial ⟨rfl, ?_⟩
      rw [List.take_add_one, hp, Option.toList_some, ringsOf_snoc, if_neg (of_decide_eq_false hq), List.append_nil]
      exact hys
  case fin =>
    rintro ys nw ⟨rfl, hys⟩
    intro D3 h3 tk3 F3 N3 o3
    rw [List.size_toArray, hPD.length, List.take_length] at hys
    k_steps
    unfold Hold
    intro t2 hT2 FT2 NT2 ltT2
    k_steps
    unfold Hold
    rename Fr _ _ _ _ => F7
    rename News _ _ _ _ => N7
    have hokH : OkHeads (wordsOf xs) := ok_heads h5
    have hokS : OkStrs ((ringsOf (wordsOf xs)).map txt) := ok_strs h5
    have hs7 := in7 N7
    refine ne_both N7 (.tail _ (.tail _ (.head _))) (hs7 _ hli) (hs7 _ hlr) (hPI.mono hs7) hSR (.head _) (hs7 _ hld) (.tail _ (.head _)) (hPD.mono hs7) hys hokH hokS (by ktr_units) ?_
    k_steps
    unfold Hold
    rename News _ _ _ _ => N8
    replace N8 := tails4 N8
    refine' use1 broken_tells (d := (ringsOf (wordsOf xs), _)) ?k1 ?k2 ?k3 ?k4 ?k5 ?kK ⟨lr, nr, usR, rfl, .tail _ (.tail _ (.tail _ (.tail _ hlr))), hSR, rings_len hwl, rings_fit h5⟩ ?kd ?ku ?_
    case k2 => k_asm
    case k1 => k_asm
    case k3 => k_asm
    case k4 => exact N8
    case k5 => k_asm
    case kK => exact rfl
    case kd => ktr_room
    case ku => ktr_units
    intro r tl6 h6 tk6 ht6 F10 N10 ho6 ⟨lB, nB, usB, hr, hlB, hBr⟩
    subst hr
    have hs : ∀ p ∈ bs4, p ∈ bs4 ++ tl6 := fun p hp => List.mem_append.mpr (.inl hp)
    have hOff6 := off_tl hOff5 (fun p hp => ho6 _ (.tail _ (.tail _ (.head _))) p hp) (fun p hp => ho6 _ (.tail _ (.tail _ (.tail _ (.head _)))) p hp)
    replace hlB : (lB, listOf usB.toArray nB) ∈ bs4 ++ tl6 := mem_off ic2 ic1 (front2 (.tail _ (.tail _ (hs _ hx))) (.tail _ (.tail _ (hs _ hdx))) hlB) nofun
    replace hl := hs _ hl
    replace hx := hs _ hx
    replace hdx := hs _ hdx
    replace hld := hs _ hld
    replace hlr := hs _ hlr
    replace hli := hs _ hli
    replace hPD := hPD.mono hs
    replace hPI := hPI.mono hs
    replace hTab := tab_mono hTab hs
    replace N10 : News _ _ h6 ((x, instObj 182 dx) :: (dx, dictOf [⟨hh, .str (PySem.Str.ofString "_headers") tt, .ref lh⟩] 1) :: _ :: _ :: (bs4 ++ tl6)) := N10
    clear hs hOff5 ho6
    generalize bs4 ++ tl6 = bs5 at *
    have nx1 := hOff6 _ hx _ (.head _)
    have nx2 := hOff6 _ hx _ (.tail _ (.head _))
    have nd1 := hOff6 _ hdx _ (.head _)
    have nd2 := hOff6 _ hdx _ (.tail _ (.head _))
    dsimp only at nx1 nx2 nd1 nd2
    k_steps
    unfold Hold
    clear ic1
    rename News _ _ _ _ => N11
    obtain ⟨ic2', ic1⟩ := ic_of4 N11 ⟨_, by assumption⟩ ⟨_, by assumption⟩
    clear ic2'
    rename Obj => oB
    rename (Obj.data oB = _) => dB
    refine Assign_ListComp_K (_F₀ := by k_asm) (by rfl) (by with_unfolding_all rfl) (by with_unfolding_all rfl) (by decide) (by rfl) (by decide) (by rfl) (by rfl) ?_
    k_steps
    unfold Hold
    refine' use1 values_tells (d := wordsOf xs) ?k1 ?k2 ?k3 ?k4 ?k5 ?kK ?kR ?kd ?ku ?_
    case k2 => k_asm
    case k1 => k_asm
    case k3 => k_asm
    case k4 => exact N11
    case k5 => k_asm
    case kK => exact rfl
    case kR => exact ⟨⟨_, rfl, tab_mono hTab fun p hp => .tail _ (.tail _ (.tail _ (.tail _ hp)))⟩, hwl, hwf⟩
    case kd => ktr_room
    case ku => ktr_units
    intro r tl7 h7 tk7 ht7 F12 N12 ho7 ⟨lV, nV, usV, hr, hlV, hSV⟩
    subst hr
    have hs : ∀ p ∈ bs5, p ∈ bs5 ++ tl7 := fun p hp => List.mem_append.mpr (.inl hp)
    have hOff7 := off_tl hOff6 (fun p hp => ho7 _ (.tail _ (.tail _ (.head _))) p hp) (fun p hp => ho7 _ (.tail _ (.tail _ (.tail _ (.head _)))) p hp)
    replace hlV : (lV, listOf usV.toArray nV) ∈ bs5 ++ tl7 := mem_off ic2 ic1 (front2 (.tail _ (.tail _ (hs _ hx))) (.tail _ (.tail _ (hs _ hdx))) hlV) nofun
    replace hl := hs _ hl
    replace hx := hs _ hx
    replace hdx := hs _ hdx
    replace hld := hs _ hld
    replace hlr := hs _ hlr
    replace hli := hs _ hli
    replace hlB := hs _ hlB
    replace hPD := hPD.mono hs
    replace hPI := hPI.mono hs
    replace hTab := tab_mono hTab hs
    replace N12 : News _ _ h7 ((x, instObj 182 dx) :: (dx, dictOf [⟨hh, .str (PySem.Str.ofString "_headers") tt, .ref lh⟩] 1) :: _ :: _ :: (bs5 ++ tl7)) := N12
    clear hs hOff6 ho7
    generalize bs5 ++ tl7 = bs6 at *
    k_steps
    unfold Stop
    rename Fr _ _ _ _ => F13
    rename News _ _ _ _ => N13
    generalize hpar : (_ == (1 : Int)) = par at hBr
    refine ⟨lV, usV.toArray, nV, _, rfl, F13, N13, .tail _ (.tail _ (.tail _ (.tail _ hlV))), fun gg => ?_⟩
    have hvV : usV.length = (wordsOf xs).length := by have := hSV.length; rwa [List.length_map] at this
    refine nt_loop (fun i ys nw tk => nw = _ ∧ IntsAre ys ((sizesOf ((brokenOf par (ringsOf (wordsOf xs))).map codes) ((wordsOf xs).take i)).map fun (k : Nat) => (k : Int)) ∧ ∀ (k : Int) (u : Nat), Value.int k u ∈ ys → 0 ≤ k ∧ k ≤ 5 ∧ 1 ≤ u ∧ u < tk) (by rfl) (by rfl) (by rfl) (.tail _ (.tail _ (.tail _ (.tail _ hlV)))) (by rw [List.size_toArray, sizeLine_eq]; omega) (fun tk => ⟨rfl, .nil, fun _ _ h => nomatch h⟩) (fun i ys nw tk h => by rw [h.1]; exact .tail _ (.tail _ (.tail _ (.tail _ hlV)))) (fun i ys nw tk tk' hle h => ⟨h.1, h.2.1, fun k u hk => by have := h.2.2 k u hk; exact ⟨this.1, this.2.1, this.2.2.1, Nat.lt_of_lt_of_le this.2.2.2 hle⟩⟩) ?turn ?fin
    case turn =>
      rintro j ys nw v hv I2 oI2 C oC D2 m₂ h2 tk2 E' ⟨rfl, hys, htk⟩ hC hx1 F14 N14 hof hne
      obtain ⟨y, ty, rfl, hy⟩ := hSV.item j v (by simpa using hv)
      obtain ⟨p, hp, rfl⟩ : ∃ p, (wordsOf xs)[j]? = some p ∧ txt p.1 = y := by
        rw [List.getElem?_map] at hy
        cases e : (wordsOf xs)[j]? with
        | none => rw [e] at hy; cases hy
        | some p => rw [e] at hy; exact ⟨p, rfl, Option.some.inj hy⟩
      obtain ⟨hpt, hpl⟩ := hwf p (List.mem_of_getElem? hp)
      (k_with "free name" => (with_unfolding_all refine' lcf_free (o := oB) N14 ?c (.tail _ (.tail _ (.tail _ (.tail _ (.tail _ (.tail _ (.head _))))))) dB ?_ ?a ?b; (case c => rfl); (case a => rfl); (case b => rfl)))
      k_steps
      unfold Hold
      refine' use0 holds_tells (d := ((brokenOf par (ringsOf (wordsOf xs))).map codes, txt p.1)) ?k1 ?k2 ?k3 ?k4 ?k5 ?kK ?kR ?kd ?ku ?_
      case k2 => k_asm
      case k1 => k_asm
      case k3 => k_asm
      case k4 => k_asm
      case k5 => k_asm
      case kK => exact rfl
      case kR => exact ⟨lB, nB, usB, _, rfl, .tail _ (.tail _ (.tail _ (.tail _ (.tail _ (.tail _ (.tail _ hlB)))))), hBr, by rw [txt_len]; omega⟩
      case kd => ktr_room
      case ku => ktr_units
      intro r9 h9 tk9 ht9 F15 N15 o9
      obtain rfl := o9
      (k_with "my len" => (refine P.len_str ?hl1 ?_; (case hl1 => (rw [txt_len]; omega)); (try dsimp only); rw [txt_len]))
      k_steps
      · rename ((List.any _ _) = true) => hq
        rename Fr _ _ _ _ => F16
        rename News _ _ _ _ => N16
        dsimp only at ht9
        refine CompEndK.intro F16 N16 _ (fun p hp => hp) hof ⟨rfl, ?_, fun k u hk => ?_⟩
        · rw [List.take_add_one, hp, Option.toList_some, sizesOf_snoc, hq]
          simpa using hys
        · have := htk k u hk
          exact ⟨this.1, this.2.1, this.2.2.1, by omega⟩
      · rename ((List.any _ _) = false) => hq
        rename Fr _ _ _ _ => F16
        rename News _ _ _ _ => N16
        dsimp only at ht9
        refine CompEndK.intro F16 N16 _ (fun p hp => hp) hof ⟨rfl, ?_, fun k u hk => ?_⟩
        · rw [List.take_add_one, hp, Option.toList_some, sizesOf_snoc, hq, List.map_append]
          exact ints_snoc hys
        · rcases List.mem_append.mp hk with hk | hk
          · have := htk k u hk
            exact ⟨this.1, this.2.1, this.2.2.1, by omega⟩
          · have e := List.mem_singleton.mp hk
            injection e with e1 e2
            subst e1 e2
            exact ⟨by omega, by omega, by omega, by omega⟩
    case fin =>
      rintro ys nw tkS ⟨rfl, hys, htk⟩
      intro D4 h4 tk4 hle4 F14 N14 o4
      rw [List.size_toArray, hvV, List.take_length] at hys
      replace N14 := front_in N14
      have hOff8 : OwnOff ((D4, lst ys) :: bs6) [_, _] := off_new hOff7 (Mine.Off1.mem o4 _ (.tail _ (.tail _ (.head _)))) (Mine.Off1.mem o4 _ (.tail _ (.tail _ (.tail _ (.head _)))))
      have hlZ : (D4, lst ys) ∈ (D4, lst ys) :: bs6 := .head _
      have hs : ∀ p ∈ bs6, p ∈ (D4, lst ys) :: bs6 := fun p hp => .tail _ hp
      replace hl := hs _ hl
      replace hx := hs _ hx
      replace hdx := hs _ hdx
      replace hld := hs _ hld
      replace hlr := hs _ hlr
      replace hli := hs _ hli
      replace hlB := hs _ hlB
      replace hlV := hs _ hlV
      replace hPD := hPD.mono hs
      replace hPI := hPI.mono hs
      replace hTab := tab_mono hTab hs
      clear hs hOff7 o4
      generalize (D4, lst ys) :: bs6 = bs7 at *
      have hB0 : TkB tkS tk4 := hle4
      k_steps
      unfold Hold
      rename TkB _ _ => hB1
      refine' use1 shown_tells (d := xs) ?k1 ?k2 ?k3 ?k4 ?k5 ?kK ?kR ?kd ?ku ?_
      case k2 => k_asm
      case k1 => k_asm
      case k3 => k_asm
      case k4 => exact N14
      case k5 => k_asm
      case kK => exact rfl
      case kR => exact ⟨l, n, us, rfl, .tail _ (.tail _ (.tail _ (.tail _ hl))), hlet, by rw [h5.1]; decide⟩
      case kd => ktr_room
      case ku => ktr_units
      intro r tl8 h8 tk8 ht8 F17 N17 ho8 ⟨lS, nS, usS, hr, hlS, hIS⟩
      subst hr
      have hs : ∀ p ∈ bs7, p ∈ bs7 ++ tl8 := fun p hp => List.mem_append.mpr (.inl hp)
      have hOff9 := off_tl hOff8 (fun p hp => ho8 _ (.tail _ (.tail _ (.head _))) p hp) (fun p hp => ho8 _ (.tail _ (.tail _ (.tail _ (.head _)))) p hp)
      replace hlS : (lS, listOf usS.toArray nS) ∈ bs7 ++ tl8 := mem_off ic2 ic1 (front2 (.tail _ (.tail _ (hs _ hx))) (.tail _ (.tail _ (hs _ hdx))) hlS) nofun
      replace hl := hs _ hl
      replace hx := hs _ hx
      replace hdx := hs _ hdx
      replace hld := hs _ hld
      replace hlr := hs _ hlr
      replace hli := hs _ hli
      replace hlB := hs _ hlB
      replace hlV := hs _ hlV
      replace hlZ := hs _ hlZ
      replace hPD := hPD.mono hs
      replace hPI := hPI.mono hs
      replace hTab := tab_mono hTab hs
      replace N17 : News _ _ h8 ((x, instObj 182 dx) :: (dx, dictOf [⟨hh, .str (PySem.Str.ofString "_headers") tt, .ref lh⟩] 1) :: _ :: _ :: (bs7 ++ tl8)) := N17
      clear hs hOff8 ho8
      generalize bs7 ++ tl8 = bs8 at *
      have hB2 : TkB tkS tk8 := by (try dsimp only at ht8); have := hB1.le; show _ ≤ _; omega
      clear hB1
      k_steps
      unfold Hold
      clear ic2
      rename News _ _ _ _ => N18
      obtain ⟨ic2, ic1'⟩ := ic_of4 N18 ⟨_, by assumption⟩ ⟨_, by assumption⟩
      clear ic1'
      rename Obj => oS
      rename (Obj.data oS = _) => dS
      have huS : usS.length = 16 := by rw [hIS.length]; simp [shownOf]
      rename TkB _ _ => hB3
      refine toks_keep ?_
      refine ListComp_G (_F₀ := by k_asm) (by with_unfolding_all rfl) (by decide) (by rfl) (by decide) ?_
      k_steps
      unfold Stop
      rename Fr _ _ _ _ => F19
      rename News _ _ _ _ => N19
      refine ⟨lS, usS.toArray, nS, _, rfl, F19, N19, .tail _ (.tail _ (.tail _ (.tail _ hlS))), fun gg => ?_⟩
      refine CompLoopK.toG (nt_loop (fun i ys nw tk => nw = _ ∧ ys.length = ((shownOf xs).take i).count 31) (by rfl) (by rfl) (by rfl) (.tail _ (.tail _ (.tail _ (.tail _ hlS)))) (by rw [List.size_toArray, huS, sizeLine_eq]; decide) (fun tk => ⟨rfl, rfl⟩) (fun i ys nw tk h => by rw [h.1]; exact .tail _ (.tail _ (.tail _ (.tail _ hlS)))) (fun i ys nw tk tk' hle h => h) ?turn ?fin)
      case turn =>
        rintro j zs nw v hv I2 oI2 C oC D2 m₂ h2 tk2 E' ⟨rfl, hzs⟩ hC hx1 F20 N20 hof hne
        obtain ⟨a', ta, rfl, ha⟩ := ints_get hIS (by simpa using hv)
        obtain ⟨a, ha2, rfl⟩ : ∃ a : Nat, (shownOf xs)[j]? = some a ∧ (a : Int) = a' := by
          rw [List.getElem?_map] at ha
          cases e : (shownOf xs)[j]? with
          | none => rw [e] at ha; cases ha
          | some a => rw [e] at ha; exact ⟨a, rfl, Option.some.inj ha⟩
        k_steps
        · rename ((a : Int) = 31) => hq
          rename Fr _ _ _ _ => F21
          rename News _ _ _ _ => N21
          refine CompEndK.intro F21 N21 _ (fun p hp => hp) hof ⟨rfl, ?_⟩
          have hq' : a = 31 := by omega
          subst hq'
          rw [List.take_add_one, ha2, Option.toList_some, List.count_append, List.length_append, hzs]
          rfl
        · rename ((a : Int) ≠ 31) => hq
          rename Fr _ _ _ _ => F21
          rename News _ _ _ _ => N21
          refine CompEndK.intro F21 N21 _ (fun p hp => hp) hof ⟨rfl, ?_⟩
          have hq' : ¬ a = 31 := by omega
          rw [List.take_add_one, ha2, Option.toList_some, List.count_append, hzs, List.count_singleton]
          simp [hq']
      case fin =>
        rintro zs nw tkz ⟨rfl, hzs⟩
        intro D5 h5a tk5 F20 N20 o5 hle5
        have hB4 : TkB tkS tk5 := by (try dsimp only at hle5); have := hB3.le; show _ ≤ _; omega
        clear hB3
        rw [List.size_toArray, huS, show (16 : Nat) = (shownOf xs).length by simp [shownOf], List.take_length] at hzs
        have hz16 : zs.length ≤ 16 := by rw [hzs]; exact Nat.le_trans List.count_le_length (by simp [shownOf])
        (k_with "my len" => (refine PyProof.Rows.len_list (News.isList N20 (.head _)) (by rw [List.size_toArray]; omega) ?_; rw [show ((List.toArray zs).size : Int) = ((zs.length : Nat) : Int) from rfl, hzs]))
        k_steps
        unfold Hold
        rename News _ _ _ _ => N20
        replace N20 := tail1 N20
        rename TkB _ _ => hB5
        refine toks_keep ?_
        refine ListComp_G (_F₀ := by k_asm) (by with_unfolding_all rfl) (by decide) (by rfl) (by decide) ?_
        k_steps
        unfold Stop
        rename Fr _ _ _ _ => F22
        rename News _ _ _ _ => N22
        refine ⟨lS, usS.toArray, nS, _, rfl, F22, N22, .tail _ (.tail _ (.tail _ (.tail _ hlS))), fun gg => ?_⟩
        refine nest_loop (test := fun i j => decide ((shownOf xs).getD i 0 ||| (shownOf xs).getD j 0 = 31)) (by rfl) (by rfl) (by rfl) (by rfl) (by decide) (.tail _ (.tail _ (.tail _ (.tail _ hlS)))) (.tail _ (.tail _ (.tail _ (.tail _ hlS)))) (by rw [List.size_toArray, huS, sizeLine_eq]; decide) (fun C xv => by rfl) ?src ?tst ?el ?fin
        case src =>
          intro I oI C oC D zs2 h tk Q E' N23 F23 hq
          (k_with "free name" => (with_unfolding_all refine' lcf_free (o := oS) N23 ?c (.tail _ (.tail _ (.tail _ (.tail _ (.tail _ (.head _)))))) dS ?_ ?a ?b; (case c => rfl); (case a => rfl); (case b => rfl)))
          k_steps
          exact hq
        case tst =>
          intro i j v u hv hu I oI C oC D zs2 m₂ h tk E' hC hx1 hx2 F23 N23
          obtain ⟨v1, t1, rfl, hv1⟩ := ints_get hIS (by simpa using hv)
          obtain ⟨v2, t2, rfl, hv2⟩ := ints_get hIS (by simpa using hu)
          obtain ⟨a1, ha1, rfl⟩ := shown_at hv1
          obtain ⟨a2, ha2, rfl⟩ := shown_at hv2
          k_steps
          exact or31 ha1 ha2
        case el =>
          intro v I oI C oC D zs2 m₂ h tk E' hC hx1 F23 N23
          k_steps
        case fin =>
          intro zs2 hz2
          intro D6 h6a tk6 F24 N24 o6 hle6
          have hB6 : TkB tkS tk6 := by (try dsimp only at hle6); have := hB5.le; show _ ≤ _; omega
          clear hB5
          rw [List.size_toArray, huS] at hz2
          have hz256 : zs2.length ≤ 256 := by rw [hz2]; exact cntAll_le _ 16 16
          (k_with "my len" => (refine PyProof.Rows.len_list (News.isList N24 (.head _)) (by rw [List.size_toArray]; omega) ?_; rw [show ((List.toArray zs2).size : Int) = ((zs2.length : Nat) : Int) from rfl, hz2]))
          obtain ⟨hlaw1, hlaw2⟩ := plain_law h5 par
          k_steps
          unfold Hold
          rename TkB _ _ => hB7
          have hB7' := hB7.le
          (try dsimp only at hB7')
          refine' use0 total_tells (d := ((sizesOf ((brokenOf par (ringsOf (wordsOf xs))).map codes) (wordsOf xs)).map (fun (k : Nat) => (k : Int)), 1)) ?k1 ?k2 ?k3 ?k4 ?k5 ?kK ?kR ?kd ?ku ?_
          case k2 => k_asm
          case k1 => k_asm
          case k3 => k_asm
          case k4 => k_asm
          case k5 => k_asm
          case kK => exact rfl
          case kR => exact ⟨D4, _, ys, _, rfl, .tail _ (.tail _ (.tail _ (.tail _ (.tail _ hlZ)))), hys, .inl rfl, sizes_len hwl, by (try dsimp only); omega, fun k u hk => by have := htk k u hk; exact ⟨this.1, this.2.1, this.2.2.1, by (try dsimp only); omega⟩⟩
          case kd => ktr_room
          case ku => ktr_units
          intro r1 h1t tk1t ht1t F1t N1t o1t
          obtain ⟨tt1, rfl⟩ := o1t
          dsimp only at ht1t
          (try dsimp only)
          rw [hlaw1]
          have hB8 : TkB tkS tk1t := by show _ ≤ _; omega
          k_steps
          unfold Hold
          rename TkB _ _ => hB9
          have hB9' := hB9.le
          (try dsimp only at hB9')
          refine' use0 total_tells (d := ((sizesOf ((brokenOf par (ringsOf (wordsOf xs))).map codes) (wordsOf xs)).map (fun (k : Nat) => (k : Int)), 2)) ?k1 ?k2 ?k3 ?k4 ?k5 ?kK ?kR ?kd ?ku ?_
          case k2 => k_asm
          case k1 => k_asm
          case k3 => k_asm
          case k4 => k_asm
          case k5 => k_asm
          case kK => exact rfl
          case kR => exact ⟨D4, _, ys, _, rfl, .tail _ (.tail _ (.tail _ (.tail _ (.tail _ hlZ)))), hys, .inr rfl, sizes_len hwl, by (try dsimp only); omega, fun k u hk => by have := htk k u hk; exact ⟨this.1, this.2.1, this.2.2.1, by (try dsimp only); omega⟩⟩
          case kd => ktr_room
          case ku => ktr_units
          intro r2 h2t tk2t ht2t F2t N2t o2t
          obtain ⟨tt2, rfl⟩ := o2t
          dsimp only at ht2t
          (try dsimp only)
          rw [hlaw2]
          k_steps)
end Mine
end

theorem PySem.Challenge.cw_wo0063_01_holds : PySem.Challenge.rw_wo0063_01.Holds := by
  exact Mine.law_walk
