import PyProof.Rows.All
import Wide.All
import OpenK.AllK
import Wide.FinOn
import Lean
import PySem.Challenge.RW_ph0055_01
set_option Elab.async false
set_option maxRecDepth 100000
set_option linter.unusedVariables false
section
open PySem PySem.W PyProof.Rows
namespace Mine
set_option maxRecDepth 100000
set_option maxHeartbeats 8000000

/-- the statements of the text that the head looks at: the marks say which -/
def pick : List Bool → List Stmt → List Stmt
  | true :: r, s :: l => s :: pick r l
  | false :: r, _ :: l => pick r l
  | _, _ => []
def vw : Program := { PySem.Challenge.pw_ph0055_01 with main := { PySem.Challenge.pw_ph0055_01.main with body := pick [false, true, false, true, true, true, true, false, true, true, true, true, true, true, true, true, true, true, true] PySem.Challenge.pw_ph0055_01.main.body } }

/-- the head's run at once, behind the library's boot: no cut, no state between is written out -/
theorem left_boot {p q : Program} {loose : List Str} {Xt : Shared → Bool} {α : Type} {Yf : Shared → α} {Ya : World → α} {N : Nat} {g0 : Bool}
    (e : opening p = plainProg p.main.scope.names) (hN : Nat.ble 600 N = true) (f : ∀ s, fenceModules? p s = some s)
    (h : ∀ (w : World) (os : OsState), (topFrom treeTable p w N ⟨boot_heap w.params, Array.mk [], boot_drawn, boot_toks, os⟩).map (fun s => (openSeen q loose (importedModules p.main.body) Xt g0 s, Yf s)) = some (openGood q loose, Ya w)) :
    LeftO p q loose Xt Yf Ya N g0 := fun w => by
  obtain ⟨⟨h', gs, d, k, os⟩, e1, e2⟩ := Option.map_eq_some_iff.mp (boot_open e hN f w)
  obtain ⟨rfl, rfl, rfl, rfl⟩ : h' = boot_heap w.params ∧ gs = Array.mk [] ∧ d = boot_drawn ∧ k = boot_toks := by simpa using e2
  unfold openEnds
  rw [e1]
  exact h w os

/-- the law's own looks at its text, each by itself -/
theorem law_said : PySem.Challenge.rw_ph0055_01.wellSaid = true := by
  unfold OpenLaw.wellSaid
  repeat' (first | with_reducible refine look_both ?_ ?_ | (unfold OpenRow.wellSaid) | (unfold OpenRow.partSaid) | (unfold looksOpen) | decide +kernel)
local macro_rules | `(tactic| o_law) => `(tactic| refine holds_law law_said fun said => ?_)
theorem head_of (H : Hook) (hl : LeftO PySem.Challenge.pw_ph0055_01 vw [] (fun s => xlAt vw [] s && recOk (RowW.records (OpenRow.toRowW PySem.Challenge.rw_ph0055_01.row)) s) H.obs H.val 1782) (k1 : PySem.Challenge.rw_ph0055_01.row.wellSaid = true) (hw : PySem.Challenge.rw_ph0055_01.row.toRowW.promised) {d : DefRec} {kwd : List (PySem.Str × PySem.Expr)}
    (hdef : defOf vw PySem.Challenge.rw_ph0055_01.row.name = some (d, kwd)) (hp : PySem.Challenge.pw_ph0055_01.theDef PySem.Challenge.rw_ph0055_01.row.name = some (d.params, d.body, d.scope)) (hk : kwWritten? d.params.kwonlyargs d.params.kw_defaults = some kwd)
    (hc : WalkO vw [] (XL vw []) H.says PySem.Challenge.rw_ph0055_01.row.toRowW d kwd fun f vs => PySem.call f vs) : PySem.Challenge.rw_ph0055_01.row.Holds :=
  holds_open (q := vw) hl H.of H.keeps (fun s e => xl_of s (Bool.and_eq_true_iff.mp e).1) XL.keeps hdef hp hk (fun s e => recFacts_of (Bool.and_eq_true_iff.mp e).2) (by rfl) k1 (by decide +kernel) ⟨rfl, rfl, rfl, rfl, rfl, by decide +kernel⟩ hw hc
local macro_rules | `(tactic| o_head $H) => `(tactic| refine head_of $H (left_boot (by kernel_rfl) (by kernel_rfl) (fun s => by kernel_rfl) (fun w os => by kernel_rfl)) (by assumption) ?hw (by rfl) (by rfl) (by rfl) ?hc)
open_top hd for PySem.Challenge.rw_ph0055_01
end Mine
end

section
local macro_rules | `(tactic| walk_at "no such key") => `(tactic| fail "no such key")
theorem Mine.startPhB : True := by
  w_top off
  trivial
open PySem PySem.W PyProof.Rows
set_option maxRecDepth 100000
namespace Mine

/-- the entries of a lexer's dict -/
def lexEs (w : World) (t : Tok × Tok × Tok × Tok) (ln fp ws pb : Value) : List DictEntry :=
  [⟨PyData.keyHash w.params (Str.ofString "lineno"), .str (Str.ofString "lineno") t.1, ln⟩,
   ⟨PyData.keyHash w.params (Str.ofString "instream"), .str (Str.ofString "instream") t.2.1, fp⟩,
   ⟨PyData.keyHash w.params (Str.ofString "whitespace"), .str (Str.ofString "whitespace") t.2.2.1, ws⟩,
   ⟨PyData.keyHash w.params (Str.ofString "pushback"), .str (Str.ofString "pushback") t.2.2.2, pb⟩]

/-- frame and ledger, the ledger's addresses apart -/
structure Led (h₀ : Heap) (L : Addr) (m : Str → Option Value) (h : Heap) (news : List (Addr × Obj)) : Prop where
  fr : Fr h₀ L h m
  nw : News h₀ L h news
  nd : (news.map (·.1)).Nodup

theorem News.sub {h₀ h : Heap} {L : Addr} {news news' : List (Addr × Obj)} (N : News h₀ L h news) (hs : ∀ p ∈ news', p ∈ news) : News h₀ L h news' := fun p hp => N p (hs p hp)

theorem Led.perm {h₀ h : Heap} {L : Addr} {m : Str → Option Value} {news news' : List (Addr × Obj)} (D : Led h₀ L m h news) (hp : news'.Perm news) : Led h₀ L m h news' :=
  ⟨D.fr, News.sub D.nw fun p q => hp.mem_iff.mp q, (hp.map _).nodup_iff.mpr D.nd⟩
theorem Led.sub {h₀ h : Heap} {L : Addr} {m : Str → Option Value} {news news' : List (Addr × Obj)} (D : Led h₀ L m h news) (hp : news'.Sublist news) : Led h₀ L m h news' :=
  ⟨D.fr, News.sub D.nw fun p q => hp.subset q, (hp.map _).nodup D.nd⟩

/-- what a call of the def at f gives back, wherever it is made -/
def Con (w : World) (f : Addr) (args : List Value) (need : List (Addr × Obj)) (dpn unn : Nat) (Out : Value → List (Addr × Obj) → Prop) : Prop :=
  ∀ {p : Program} {loose : List Str} {mean : ExcName → Option Value} {mg mb : Str → Option Value}
   {dp un : Nat} {gd : Option (List Code)} {cn : Str} {cs : Scope} {a : Addr} {ccd : Value} {cl : List (Str × Addr)} {outer : List Env} {A₀ : Around} {base h₀ : Heap} {L : Addr} {m : Str → Option Value} {s : Shared}
   {rest : List (Addr × Obj)} {Q E : Value → Shared → Prop},
   Below A₀ base outer h₀ → (hd.heap_1 w.params).In h₀ → Top p loose mean mg mb h₀ → cs.kind = .function →
   Led h₀ L m s.heap (need ++ rest) → dp + dpn < recursionLimit → un + unn < cLine →
   (∀ r made h' tk', Out r made → Led h₀ L m h' (made ++ rest) → Q r { s with heap := h', toks := tk' }) →
   wpAny (model PySem.Challenge.rw_ph0055_01.row.prog w) (ktrTop dp un gd cn cs L a ccd cl outer) (call (.ref f) args) Q E s

theorem Led.of {h₀ h : Heap} {L : Addr} {m : Str → Option Value} {news : List (Addr × Obj)} (F : Fr h₀ L h m) (N : News h₀ L h news) (nd : (news.map (·.1)).Nodup) : Led h₀ L m h news := ⟨F, N, nd⟩

theorem hide {G : Prop} (h : ∀ P : Prop, (G → P) → P) : G := h G id
theorem wp_q {α : Type} {M : Model} {A : Around} {x : Sem α} {Q : α → Shared → Prop} {E : Value → Shared → Prop} {s : Shared} (h : ∀ q : α → Shared → Prop, (∀ v s, Q v s → q v s) → wpAny M A x q E s) : wpAny M A x Q E s := h Q fun _ _ x => x
theorem wp_fold {α : Type} {M : Model} {A A' : Around} {x : Sem α} {env : Env} {Q : α → Shared → Prop} {R₁ R₂ : Value → Shared → Prop} {s : Shared}
    (h : ∀ (q : α → Shared → Prop) (r₁ r₂ : Value → Shared → Prop), (∀ v s, Q v s → q v s) → wpAny M A x q (fun e s' => wpAny M A' (leaving env e) (fun _ s'' => r₁ e s'') r₂ s') s) :
    wpAny M A x Q (fun e s' => wpAny M A' (leaving env e) (fun _ s'' => R₁ e s'') R₂ s') s := h Q R₁ R₂ fun _ _ x => x
/-- what an if leaves behind: a ledger and a frame that P knows -/
def IfEnd (h₀ : Heap) (L : Addr) (P : (Str → Option Value) → List (Addr × Obj) → Prop) (s s' : Shared) : Prop := ∃ h' tk m' X, s' = { s with heap := h', toks := tk } ∧ Led h₀ L m' h' X ∧ P m' X
theorem IfEnd.intro {h₀ h' : Heap} {L : Addr} {P : (Str → Option Value) → List (Addr × Obj) → Prop} {s : Shared} {tk : Nat} {m' : Str → Option Value} {X : List (Addr × Obj)} (D : Led h₀ L m' h' X) (hP : P m' X) : IfEnd h₀ L P s { s with heap := h', toks := tk } := ⟨h', tk, m', X, rfl, D, hP⟩
/-- an if without else: both ways meet -/
theorem If_join {M : Model} {A : Around} {env : Env} {test : PySem.Expr} {body : List Stmt} {pos : Pos} {Q : Flow → Shared → Prop} {E : Value → Shared → Prop} {s : Shared} {h₀ : Heap} {L : Addr} {m : Str → Option Value} {X : List (Addr × Obj)}
    (_D : Led h₀ L m s.heap X) (P : (Str → Option Value) → List (Addr × Obj) → Prop)
    (hi : ∀ (q : Shared → Prop) (r : Flow → Shared → Prop), (∀ h' tk m' X', Led h₀ L m' h' X' → P m' X' → q { s with heap := h', toks := tk }) → (∀ h' tk m' X', Led h₀ L m' h' X' → P m' X' → r .next { s with heap := h', toks := tk }) →
      wpAny M A (isTrue test env (eval test env)) (fun b s' => if b = true then wpAny M A (execs body env) r E s' else q s') E s)
    (hc : ∀ h' tk m' X', Led h₀ L m' h' X' → P m' X' → Q .next { s with heap := h', toks := tk }) : wpAny M A (exec (.If test body [] pos) env) Q E s := by
  have hc' : ∀ s', IfEnd h₀ L P s s' → Q .next s' := fun s' h => by
    obtain ⟨h', tk, m', X', rfl, D, hP⟩ := h
    exact hc h' tk m' X' D hP
  refine wpAny_If (wpAny_mono (hi (IfEnd h₀ L P s) (fun f s' => f = .next ∧ IfEnd h₀ L P s s') (fun h' tk m' X' D hP => IfEnd.intro D hP) (fun h' tk m' X' D hP => ⟨rfl, IfEnd.intro D hP⟩)) (fun b s' h => ?_) fun _ _ e => e)
  cases b with
  | true =>
    simp only [if_true] at h ⊢
    exact wpAny_mono h (fun fl s'' hj => by rw [hj.1]; exact hc' s'' hj.2) fun _ _ e => e
  | false =>
    simp only [Bool.false_eq_true, if_false] at h ⊢
    exact wpAny_execs_nil (hc' s' h)
theorem nd_head {a : Addr} {o : Obj} {r : List (Addr × Obj)} (h : (((a, o) :: r).map (·.1)).Nodup) : ∀ p ∈ r, p.1 ≠ a := by
  intro p hp e
  rw [List.map_cons, List.nodup_cons] at h
  exact h.1 (List.mem_map.mpr ⟨p, hp, e⟩)

/-- a lexer's objects -/
def lexOs (w : World) (x dx l : Addr) (t : Tok × Tok × Tok × Tok) (ln fp ws : Value) (q : List Value) (n : Nat) : List (Addr × Obj) :=
  [(l, listOf q.toArray n), (x, instObj 52 dx), (dx, dictOf (lexEs w t ln fp ws (.ref l)) 4)]

set_option maxHeartbeats 4000000 in
theorem push_con (w : World) (x dx l : Addr) (t : Tok × Tok × Tok × Tok) (ln fp ws v : Value) (q : List Value) (n : Nat) (hq : q.length ≤ 100) :
    Con w 49 [.ref x, v] (lexOs w x dx l t ln fp ws q n) 1 8 (fun r made => r = .none ∧ made = lexOs w x dx l t ln fp ws (q ++ [v]) (n + 1)) := by
  intro p loose mean mg mb dp un gd cn cs a ccd cl outer A₀ base h₀ L m s rest Q E B X T hk D hd hu hret
  have F := D.fr
  have N := D.nw
  have nd := D.nd
  simp only [lexOs, List.cons_append, List.nil_append] at N nd
  revert X; k_fill; intro X
  refine wpAny_call ?_
  k_dflt ktr_enter
  k_steps
  refine append_K (by k_asm) (by k_asm) (Upd.head (nd_head nd)) ?_ (by rw [List.size_toArray, sizeLine_eq]; omega)
  intro h' F' N'
  k_steps
  rename Fr _ _ _ _ => F9
  rename News _ _ _ _ => N9
  simp only [List.push_toArray] at N9
  exact hret _ _ _ _ ⟨rfl, rfl⟩ (Led.of F9 N9 nd)

set_option maxHeartbeats 4000000 in
theorem pop_con (w : World) (x dx l : Addr) (t : Tok × Tok × Tok × Tok) (ln fp ws v : Value) (q : List Value) (n : Nat) (hq : q.length ≤ 100) :
    Con w 42 [.ref x] (lexOs w x dx l t ln fp ws (v :: q) n) 1 8 (fun r made => r = v ∧ made = lexOs w x dx l t ln fp ws q (n + 1)) := by
  intro p loose mean mg mb dp un gd cn cs a ccd cl outer A₀ base h₀ L m s rest Q E B X T hk D hd hu hret
  have F := D.fr
  have N := D.nw
  have nd := D.nd
  simp only [lexOs, List.cons_append, List.nil_append] at N nd
  revert X; k_fill; intro X
  refine wpAny_call ?_
  k_dflt ktr_enter
  k_steps
  refine kl_popAt (k := 0) (p := []) (q := q) (y := v) (by k_asm) (by k_asm) (by decide) (by simp [seqIndex?]) (by rfl) (Upd.head (nd_head nd)) (by rw [sizeLine_eq]; simp; omega) ?_
  intro h' F' N'
  k_steps
  rename Fr _ _ _ _ => F9
  rename News _ _ _ _ => N9
  exact hret _ _ _ _ ⟨rfl, rfl⟩ (Led.of F9 N9 nd)
end Mine
end

section
local macro_rules | `(tactic| walk_at "no such key") => `(tactic| fail "no such key")
local macro_rules | `(tactic| walk_at "no such key") => `(tactic| fail "no such key")
theorem Mine.startPhL : True := by
  w_top off
  trivial
open PySem PySem.W PyProof.Rows
set_option maxRecDepth 100000
set_option linter.unusedVariables false
namespace Mine

/-- how a loop's turn ends -/
def Turn (h₀ : Heap) (L : Addr) (J : (Str → Option Value) → List (Addr × Obj) → Prop) (rest : List (Addr × Obj)) (s₁ : Shared) (Q : Flow → Shared → Prop) (f : Flow) (s' : Shared) : Prop :=
  match f with
  | .ret v => Q (.ret v) s'
  | .brk => Q .next s'
  | _ => ∃ h' tk m₂ X₂, s' = { s₁ with heap := h', toks := tk } ∧ J m₂ X₂ ∧ Led h₀ L m₂ h' (X₂ ++ rest)

theorem Turn.next {h₀ h' : Heap} {L : Addr} {J : (Str → Option Value) → List (Addr × Obj) → Prop} {rest X₂ : List (Addr × Obj)} {s₁ : Shared} {Q : Flow → Shared → Prop} {m₂ : Str → Option Value} {tk : Nat} (hJ : J m₂ X₂) (D : Led h₀ L m₂ h' (X₂ ++ rest)) :
    Turn h₀ L J rest s₁ Q .next { s₁ with heap := h', toks := tk } := ⟨h', tk, m₂, X₂, rfl, hJ, D⟩
theorem Turn.cont {h₀ h' : Heap} {L : Addr} {J : (Str → Option Value) → List (Addr × Obj) → Prop} {rest X₂ : List (Addr × Obj)} {s₁ : Shared} {Q : Flow → Shared → Prop} {m₂ : Str → Option Value} {tk : Nat} (hJ : J m₂ X₂) (D : Led h₀ L m₂ h' (X₂ ++ rest)) :
    Turn h₀ L J rest s₁ Q .cont { s₁ with heap := h', toks := tk } := ⟨h', tk, m₂, X₂, rfl, hJ, D⟩

section
variable {prog : Program} {w : World} {A : Around} {h₀ : Heap} {env : Env} {x : Str} {body : List Stmt} {Q : Flow → Shared → Prop} {E : Value → Shared → Prop} {s₂ : Shared}

theorem loop_led {I : Addr} {fp : List Addr} {n : Nat} {P : Nat → Value → Prop} {St : Nat → Heap → Prop} {m : Str → Option Value} {X rest : List (Addr × Obj)}
    (W : Walks prog w A I fp [I] n P St) (hI : h₀.get? I = none) (hlive : ∀ i h, St i h → ∃ o, h.get? I = some o) (hLf : env.locals ∉ fp)
    (hfp : ∀ b ∈ fp, b = I ∨ (∃ o, (b, o) ∈ rest) ∨ (∃ o, h₀.get? b = some o)) (hst : St 0 s₂.heap) (D : Led h₀ env.locals m s₂.heap (X ++ rest)) (hIX : ∀ p ∈ X ++ rest, p.1 ≠ I)
    (Inv : Nat → (Str → Option Value) → List (Addr × Obj) → Prop) (h0 : Inv 0 m X)
    (step : ∀ i v m₁ X₁ h tk o, i < n → P i v → Inv i m₁ X₁ → Led h₀ env.locals (fun y => if y = x then some v else m₁ y) h (X₁ ++ (I, o) :: rest) →
      wpAny (model prog w) A (execs body env) (Turn h₀ env.locals (Inv (i + 1)) ((I, o) :: rest) { s₂ with heap := h, toks := tk } Q) E { s₂ with heap := h, toks := tk })
    (done : ∀ h' tk m' X', Inv n m' X' → Led h₀ env.locals m' h' (X' ++ rest) → Q .next { s₂ with heap := h', toks := tk }) :
    LoopAtV prog w A h₀ env x body Q E (.ref I) s₂ := by
  let J : Nat → (Str → Option Value) → List (Addr × Obj) → Prop := fun i m' news' => ∃ X', news' = X' ++ rest ∧ (news'.map (·.1)).Nodup ∧ Inv i m' X'
  refine ⟨I, fp, [I], n, P, St, m, X ++ rest, J, rfl, W, hLf, ?_, ?_, hst, D.fr, D.nw, ⟨X, rfl, D.nd, h0⟩, ?_, ?_⟩
  · intro b hb; rw [List.mem_singleton.mp hb]; exact hI
  · intro p hp hb; exact hIX p hp (List.mem_singleton.mp hb)
  · rintro i v m₁ news₁ s₁ own ⟨h, tk, rfl⟩ hi hP ⟨X₁, rfl, nd, hJ⟩ hoff hsub hget hall hst₁ F₁ N₁
    obtain ⟨o, ho⟩ := hlive _ _ hst₁
    have hIfp : I ∈ fp := W.sub I (List.mem_singleton.mpr rfl)
    have hIo : (I, o) ∈ own := hall I hIfp hI o ho
    have hne : ∀ p ∈ X₁ ++ rest, p.1 ≠ I := fun p hp e => hoff p hp (List.mem_singleton.mpr e)
    have N₂ : News h₀ env.locals h (X₁ ++ (I, o) :: rest) := by
      intro p hp
      rcases List.mem_append.mp hp with q | q
      · exact N₁ p (List.mem_append_right _ (List.mem_append_left _ q))
      · rcases List.mem_cons.mp q with q | q
        · subst q; exact N₁ _ (List.mem_append_left _ hIo)
        · exact N₁ p (List.mem_append_right _ (List.mem_append_right _ q))
    have nd₂ : ((X₁ ++ (I, o) :: rest).map (·.1)).Nodup := by
      have hp : ((I, o) :: (X₁ ++ rest)).Perm (X₁ ++ (I, o) :: rest) := List.perm_middle.symm
      refine (hp.map _).nodup_iff.mp ?_
      rw [List.map_cons, List.nodup_cons]
      refine ⟨fun hm => ?_, nd⟩
      obtain ⟨p, hp, e⟩ := List.mem_map.mp hm
      exact hne p hp e
    refine wpAny_mono (step i v m₁ X₁ h tk o hi hP hJ ⟨F₁, N₂, nd₂⟩) (fun f s' h' => ?_) fun _ _ e => e
    have key : (∃ h' tk' m₂ X₂, s' = { ({ s₂ with heap := h, toks := tk } : Shared) with heap := h', toks := tk' } ∧ Inv (i + 1) m₂ X₂ ∧ Led h₀ env.locals m₂ h' (X₂ ++ (I, o) :: rest)) →
        LoopStepU h₀ env.locals [I] own (J (i + 1)) { s₂ with heap := h, toks := tk } .next s' := by
      rintro ⟨h₃, tk₃, m₃, X₃, rfl, hJ₃, D₃⟩
      refine ⟨rfl, h₃, tk₃, m₃, X₃ ++ rest, rfl, D₃.fr, ?_, ?_, X₃, rfl, ?_, hJ₃⟩
      · intro p hp
        rcases List.mem_append.mp hp with q | q
        · rcases hfp p.1 (hsub p q) with e | ⟨o', ho'⟩ | ⟨o', ho'⟩
          · have : p = (I, o) := by
              have e1 := hget p q
              rw [e, ho] at e1
              cases e1
              exact Prod.ext e rfl
            subst this
            exact D₃.nw _ (List.mem_append_right _ (.head _))
          · have : p = (p.1, o') := by
              have e1 := hget p q
              have e2 := (N₂ (p.1, o') (List.mem_append_right _ (.tail _ ho'))).1
              rw [e2] at e1
              cases e1
              rfl
            rw [this]
            exact D₃.nw _ (List.mem_append_right _ (.tail _ ho'))
          · have := (N₁ p (List.mem_append_left _ q)).2.2
            rw [ho'] at this; cases this
        · rcases List.mem_append.mp q with q | q
          · exact D₃.nw _ (List.mem_append_left _ q)
          · exact D₃.nw _ (List.mem_append_right _ (.tail _ q))
      · intro p hp hb
        have e := List.mem_singleton.mp hb
        have nd₃ := D₃.nd
        have hp : ((X₃ ++ (I, o) :: rest)).Perm ((I, o) :: (X₃ ++ rest)) := List.perm_middle
        have nd₄ := (hp.map (·.1)).nodup_iff.mp nd₃
        rw [List.map_cons, List.nodup_cons] at nd₄
        exact nd₄.1 (List.mem_map.mpr ⟨p, by assumption, e⟩)
      · have hp : ((X₃ ++ (I, o) :: rest)).Perm ((I, o) :: (X₃ ++ rest)) := List.perm_middle
        have nd₄ := (hp.map (·.1)).nodup_iff.mp D₃.nd
        rw [List.map_cons, List.nodup_cons] at nd₄
        exact nd₄.2
    cases f with
    | ret v => exact .ret h'
    | brk => exact .brk h'
    | next => exact .next (key h')
    | cont => exact .cont (key h')
  · rintro h' tk m' news' F' N' hoff ⟨X', rfl, nd, hJ⟩
    exact done h' tk m' X' hJ ⟨F', N', nd⟩

/-- the head of a for: what is walked is told, then it is turned -/
def ForSrc (prog : Program) (w : World) (A : Around) (h₀ : Heap) (env : Env) (x : Str) (body : List Stmt) (Q : Flow → Shared → Prop) (E : Value → Shared → Prop) (xv : Value) (s₁ : Shared) : Prop :=
  wpAny (model prog w) A (pyIter xv) (fun it s₂ => LoopAtV prog w A h₀ env x body Q E it s₂) E s₁
theorem for_src {s : Shared} {px pos : Pos} {iter : Expr} {m : Str → Option Value} (_F : Fr h₀ env.locals s.heap m) (hx : env.kindOf x = some .local)
    (hp : (env.scope.kind == .class || (env.scope.kind == .module && env.locals != env.globals)) = false)
    (h : wpAny (model prog w) A (eval iter env) (fun xv s₁ => ForSrc prog w A h₀ env x body Q E xv s₁) E s)
    (hs : ∀ x, foldedSetIterable iter env x = pure x := by intro _; rfl)
    (hE : PassesOwn (model prog w) A env E := by passes_own) :
    wpAny (model prog w) A (exec (.For (.Name x px) iter body [] pos) env) Q E s := For_invV h₀ hx hp h hs hE

theorem Led.fresh {h : Heap} {L : Addr} {m : Str → Option Value} {news : List (Addr × Obj)} (D : Led h₀ L m h news) : ∀ p ∈ news, p.1 ≠ h.objs.size := fun p hp => Nat.ne_of_lt (Heap.lt_size (D.nw p hp).1)
theorem Fr.fresh {h : Heap} {L : Addr} {m : Str → Option Value} (F : Fr h₀ L h m) : h₀.get? h.objs.size = none := by
  cases e : h₀.get? h.objs.size with
  | none => rfl
  | some o => exact absurd (Heap.lt_size (F.keep _ _ e)) (Nat.lt_irrefl _)
theorem Led.push {h : Heap} {L : Addr} {m : Str → Option Value} {news : List (Addr × Obj)} (D : Led h₀ L m h news) (o : Obj) : Led h₀ L m (h.push o) news :=
  ⟨D.fr.push o, fun p hp => ⟨Heap.get?_push_of_some _ (D.nw p hp).1, (D.nw p hp).2⟩, D.nd⟩

/-- for over a list of the ledger -/
theorem for_list {l : Addr} {q : List Value} {n : Nat} {s₁ : Shared} {m : Str → Option Value} {X rest : List (Addr × Obj)} (hh : A.handled = none) (D : Led h₀ env.locals m s₁.heap (X ++ rest)) (hl : (l, listOf q.toArray n) ∈ rest)
    (Inv : Nat → (Str → Option Value) → List (Addr × Obj) → Prop) (h0 : Inv 0 m X)
    (step : ∀ i v m₁ X₁ h tk I o, ∀ qT : Flow → Shared → Prop, (∀ f s', Turn h₀ env.locals (Inv (i + 1)) ((I, o) :: rest) { s₁ with heap := h, toks := tk } Q f s' → qT f s') → q[i]? = some v → Inv i m₁ X₁ → Led h₀ env.locals (fun y => if y = x then some v else m₁ y) h (X₁ ++ (I, o) :: rest) →
      wpAny (model prog w) A (execs body env) qT E { s₁ with heap := h, toks := tk })
    (done : ∀ h' tk m' X', Inv q.length m' X' → Led h₀ env.locals m' h' (X' ++ rest) → Q .next { s₁ with heap := h', toks := tk }) :
    ForSrc prog w A h₀ env x body Q E (.ref l) s₁ := by
  have hm := D.nw (l, listOf q.toArray n) (List.mem_append_right _ hl)
  have hls : s₁.heap.IsList l q.toArray := ⟨_, hm.1, rfl, n, rfl⟩
  have hlt := Heap.lt_size hm.1
  have hne : l ≠ s₁.heap.objs.size := Nat.ne_of_lt hlt
  refine wpAny_pyIter_list hls ?_
  refine loop_led (Walks.list hh s₁.heap.objs.size l hne q.toArray) (Fr.fresh D.fr) (fun i h st => ?_) ?_ ?_ ⟨⟨_, Heap.get?_push_size _ rfl, rfl, rfl⟩, hls.at fun o e => Heap.get?_push_of_some _ e⟩ (D.push _) D.fresh Inv h0 ?_ ?_
  · obtain ⟨⟨o, ho, _⟩, _⟩ := st; exact ⟨o, ho⟩
  · intro hb
    rcases List.mem_cons.mp hb with e | hb
    · exact absurd D.fr.ns.lt (e ▸ Nat.lt_irrefl _)
    · exact hm.2.1 (List.mem_singleton.mp hb).symm
  · intro b hb
    rcases List.mem_cons.mp hb with e | hb
    · exact .inl e
    · exact .inr (.inl ⟨_, (List.mem_singleton.mp hb) ▸ hl⟩)
  · intro i v m₁ X₁ h tk o hi hP hJ D₁
    exact step i v m₁ X₁ h tk _ o _ (fun _ _ x => x) (by simpa using hP) hJ D₁
  · intro h' tk m' X' hJ D'
    exact done h' tk m' X' (by simpa using hJ) D'

/-- for over range(n) -/
theorem for_range {r : Addr} {k : Nat} {t u v : Tok} {s₁ : Shared} {m : Str → Option Value} {X rest : List (Addr × Obj)} (hh : A.handled = none) (hr : IsRange s₁.heap r 0 (k : Nat) 1 t u v) (hk : k < 2 ^ 62) (D : Led h₀ env.locals m s₁.heap (X ++ rest))
    (Inv : Nat → (Str → Option Value) → List (Addr × Obj) → Prop) (h0 : Inv 0 m X)
    (step : ∀ (i : Nat) t m₁ X₁ h tk I o, ∀ qT : Flow → Shared → Prop, (∀ f s', Turn h₀ env.locals (Inv (i + 1)) ((I, o) :: rest) { s₁ with heap := h, toks := tk } Q f s' → qT f s') → i < k → Inv i m₁ X₁ → Led h₀ env.locals (fun y => if y = x then some (.int i t) else m₁ y) h (X₁ ++ (I, o) :: rest) →
      wpAny (model prog w) A (execs body env) qT E { s₁ with heap := h, toks := tk })
    (done : ∀ h' tk m' X', Inv k m' X' → Led h₀ env.locals m' h' (X' ++ rest) → Q .next { s₁ with heap := h', toks := tk }) :
    ForSrc prog w A h₀ env x body Q E (.ref r) s₁ := by
  have hsz : Builtin.Range.rangeSize 0 (k : Int) 1 = (k : Int) := by rw [rangeSize_one]; split <;> omega
  refine wpAny_pyIter_range hr (small_one (by omega) (by omega) (by omega) (by omega)) ?_
  rw [hsz]
  refine loop_led (Walks.range hh s₁.heap.objs.size 0 1 k) (Fr.fresh D.fr) (fun i h st => ⟨_, st⟩) ?_ ?_ ?_ (D.push _) D.fresh Inv h0 ?_ ?_
  · intro hb
    exact absurd D.fr.ns.lt ((List.mem_singleton.mp hb) ▸ Nat.lt_irrefl _)
  · intro b hb; exact .inl (List.mem_singleton.mp hb)
  · have := Heap.get?_push_size s₁.heap (o := ({ cls := .type "range_iterator", data := .fields #[rawInt 0, rawInt (k : Int), rawInt 1] } : Obj)) rfl
    simpa using this
  · intro i v m₁ X₁ h tk o hi hP hJ D₁
    obtain ⟨t, rfl⟩ := hP
    have e : (0 : Int) + (i : Int) * 1 = (i : Int) := by omega
    rw [e] at D₁
    exact step i t m₁ X₁ h tk _ o _ (fun _ _ x => x) hi hJ D₁
  · intro h' tk m' X' hJ D'
    exact done h' tk m' X' hJ D'

/-- for over the keys of a dict of the ledger -/
theorem for_dict {d : Addr} {o : Obj} {kvs : List (Str × Value)} {s₁ : Shared} {m : Str → Option Value} {X rest : List (Addr × Obj)} (hh : A.handled = none) (D : Led h₀ env.locals m s₁.heap (X ++ rest)) (hl : (d, o) ∈ rest)
    (hd : o.IsDictOf (PySem.strKind prog w) kvs) (lo : (d == sysModules) = false)
    (Inv : Nat → (Str → Option Value) → List (Addr × Obj) → Prop) (h0 : Inv 0 m X)
    (step : ∀ i k u t m₁ X₁ h tk I o, ∀ qT : Flow → Shared → Prop, (∀ f s', Turn h₀ env.locals (Inv (i + 1)) ((I, o) :: rest) { s₁ with heap := h, toks := tk } Q f s' → qT f s') → kvs[i]? = some (k, u) → Inv i m₁ X₁ → Led h₀ env.locals (fun y => if y = x then some (.str k t) else m₁ y) h (X₁ ++ (I, o) :: rest) →
      wpAny (model prog w) A (execs body env) qT E { s₁ with heap := h, toks := tk })
    (done : ∀ h' tk m' X', Inv kvs.length m' X' → Led h₀ env.locals m' h' (X' ++ rest) → Q .next { s₁ with heap := h', toks := tk }) :
    ForSrc prog w A h₀ env x body Q E (.ref d) s₁ := by
  have hm := D.nw (d, o) (List.mem_append_right _ hl)
  obtain ⟨ep, hdA⟩ := Heap.DictOf.dictAt (Heap.dictOf_iff.mpr ⟨o, hm.1, hd⟩)
  have hlt := Heap.lt_size hm.1
  have hne : d ≠ s₁.heap.objs.size := Nat.ne_of_lt hlt
  refine wpAny_pyIter_dict lo hdA ?_
  refine loop_led (Walks.dictKeys hh s₁.heap.objs.size d hne kvs ep) (Fr.fresh D.fr) (fun i h st => ?_) ?_ ?_ ⟨⟨_, Heap.get?_push_size _ rfl, rfl, rfl⟩, hdA.push _⟩ (D.push _) D.fresh Inv h0 ?_ ?_
  · obtain ⟨⟨o, ho, _⟩, _⟩ := st; exact ⟨o, ho⟩
  · intro hb
    rcases List.mem_cons.mp hb with e | hb
    · exact absurd D.fr.ns.lt (e ▸ Nat.lt_irrefl _)
    · exact hm.2.1 (List.mem_singleton.mp hb).symm
  · intro b hb
    rcases List.mem_cons.mp hb with e | hb
    · exact .inl e
    · exact .inr (.inl ⟨_, (List.mem_singleton.mp hb) ▸ hl⟩)
  · intro i v m₁ X₁ h tk o hi hP hJ D₁
    obtain ⟨k, u, hk, hv⟩ := hP
    obtain ⟨t, rfl⟩ := Value.isStrOf_shape hv
    exact step i k u t m₁ X₁ h tk _ o _ (fun _ _ x => x) hk hJ D₁
  · intro h' tk m' X' hJ D'
    exact done h' tk m' X' hJ D'
end

theorem nd_new {d : Addr} {o : Obj} {X : List (Addr × Obj)} (h : AllLt d X) (nd : (X.map (·.1)).Nodup) : (((d, o) :: X).map (·.1)).Nodup := by
  rw [List.map_cons, List.nodup_cons]
  refine ⟨fun hm => ?_, nd⟩
  obtain ⟨p, hp, e⟩ := List.mem_map.mp hm
  have : ∀ X : List (Addr × Obj), AllLt d X → ∀ p ∈ X, p.1 < d := by
    intro X
    induction X with
    | nil => intro _ p hp; cases hp
    | cons q r ih =>
      intro h p hp
      rcases List.mem_cons.mp hp with e | hp
      · subst e; exact h.1
      · exact ih h.2 p hp
  have := this X h p hp
  exact Nat.lt_irrefl _ (e ▸ this)

theorem mp1 {m : Str → Option Value} {a : Str} {u : Value} (h : m a = some u) : m = fun y => if y = a then some u else m y := by
  funext y; by_cases e : y = a
  · subst e; simp [h]
  · simp [e]
theorem mp2 {m : Str → Option Value} {a b : Str} {u v : Value} (h : m a = some u) (h2 : m b = some v) : m = fun y => if y = a then some u else if y = b then some v else m y := by
  have e := mp1 h2
  funext y; by_cases e1 : y = a
  · subst e1; simp [h]
  · simp only [if_neg e1]; exact congrFun e y
theorem mp3 {m : Str → Option Value} {a b c : Str} {u v x : Value} (h : m a = some u) (h2 : m b = some v) (h3 : m c = some x) : m = fun y => if y = a then some u else if y = b then some v else if y = c then some x else m y := by
  have e := mp2 h2 h3
  funext y; by_cases e1 : y = a
  · subst e1; simp [h]
  · simp only [if_neg e1]; exact congrFun e y
theorem mp4 {m : Str → Option Value} {a b c d : Str} {u v x z : Value} (h : m a = some u) (h2 : m b = some v) (h3 : m c = some x) (h4 : m d = some z) : m = fun y => if y = a then some u else if y = b then some v else if y = c then some x else if y = d then some z else m y := by
  have e := mp3 h2 h3 h4
  funext y; by_cases e1 : y = a
  · subst e1; simp [h]
  · simp only [if_neg e1]; exact congrFun e y
theorem mp5 {m : Str → Option Value} {a b c d k : Str} {u v x z l : Value} (h : m a = some u) (h2 : m b = some v) (h3 : m c = some x) (h4 : m d = some z) (h5 : m k = some l) : m = fun y => if y = a then some u else if y = b then some v else if y = c then some x else if y = d then some z else if y = k then some l else m y := by
  have e := mp4 h2 h3 h4 h5
  funext y; by_cases e1 : y = a
  · subst e1; simp [h]
  · simp only [if_neg e1]; exact congrFun e y

theorem valueAt_stored {kvs : List (Str × Value)} {k j : Str} {v : Value} : valueAt (stored kvs k v) j = if j = k then some v else valueAt kvs j := by
  unfold stored valueAt
  split
  · rename_i h
    have hmap : ∀ l : List (Str × Value), (List.find? (fun kv => decide (kv.1 = j)) (l.map fun kv => if kv.1 = k then (kv.1, v) else kv)).map (·.2) = if j = k then (if l.any (fun kv => decide (kv.1 = k)) then some v else none) else (l.find? fun kv => decide (kv.1 = j)).map (·.2) := by
      intro l
      induction l with
      | nil => simp
      | cons p r ih =>
        rw [List.map_cons, List.find?_cons, List.find?_cons, List.any_cons]
        by_cases e1 : p.1 = k
        · by_cases e2 : j = k
          · subst e2; simp [e1]
          · have : ¬ (k = j) := fun q => e2 q.symm
            have h3 : ¬ (p.1 = j) := by rw [e1]; exact this
            simp only [e1, if_true, this, decide_false, e2, if_false]
            rw [ih]; simp [e2]
        · by_cases e2 : p.1 = j
          · have : ¬ (j = k) := fun q => e1 (e2.trans q)
            simp [e1, e2, this]
          · simp only [e1, if_false, e2, decide_false, Bool.false_or]
            exact ih
    rw [hmap]
    by_cases e : j = k
    · simp only [e, if_true]; rw [h]; simp
    · simp [e]
  · rename_i h
    rw [List.find?_append]
    by_cases e : j = k
    · subst e
      have : List.find? (fun kv => decide (kv.1 = j)) kvs = none := by
        rw [List.find?_eq_none]
        intro p hp q
        exact h (List.any_eq_true.mpr ⟨p, hp, q⟩)
      simp [this]
    · have : ¬ (k = j) := fun q => e q.symm
      cases List.find? (fun kv => decide (kv.1 = j)) kvs <;> simp [e, this]

theorem allLt_iff {d : Addr} {X : List (Addr × Obj)} : AllLt d X ↔ ∀ p ∈ X, p.1 < d := by
  induction X with
  | nil => exact ⟨fun _ p hp => (nomatch hp), fun _ => trivial⟩
  | cons q r ih =>
    constructor
    · intro h p hp
      rcases List.mem_cons.mp hp with e | hp
      · subst e; exact h.1
      · exact ih.mp h.2 p hp
    · intro h
      exact ⟨h q (.head _), ih.mpr fun p hp => h p (.tail _ hp)⟩
theorem rest_ne {a b : Nat} {X : List (Addr × Obj)} (h : AllLt a X) (hl : a ≤ b) : ∀ p ∈ X, p.1 ≠ b := fun p hp e => by
  have := allLt_iff.mp h p hp
  rw [e] at this
  exact absurd this (Nat.not_lt.mpr hl)
end Mine
end

section
local macro_rules | `(tactic| walk_at "no such key") => `(tactic| fail "no such key")
local macro_rules | `(tactic| walk_at "no such key") => `(tactic| fail "no such key")
local macro_rules | `(tactic| walk_at "no such key") => `(tactic| fail "no such key")
theorem Mine.startPhX : True := by
  w_top off
  trivial
open PySem PySem.W PyProof.Rows
set_option maxRecDepth 100000
set_option linter.unusedVariables false
namespace Mine
section
variable {prog : Program} {w : World} {A : Around} {E : Value → Shared → Prop} {s : Shared} {h₀ : Heap} {L : Addr} {m : Str → Option Value} {news : List (Addr × Obj)}
theorem applied_two {sl : Addr} {u : Tok} {Q : Int × Int × Nat → Shared → Prop} (hs : s.heap.IsSliceOf sl .none (.int 2 u) .none) (h : Q (0, 1, 2) s) :
    wpAny (model prog w) A (Builtin.Slice.sliceApplied (.ref sl) (pure 3)) Q E s := by
  obtain ⟨os, hos, hcs, hds⟩ := id hs
  unfold Builtin.Slice.sliceApplied Builtin.Slice.sliceFields
  refine wpAny_bind (wpAny_bind (wpAny_field hos hds (x := .none) rfl (wpAny_bind (wpAny_field hos hds (x := .int 2 u) rfl (wpAny_bind (wpAny_field hos hds (x := .none) rfl (wpAny_pure ?_)))))))
  refine wpAny_bind (slicePart_none ?_)
  show wpAny _ _ (if ((1 : Int) == 0) = true then _ else _) _ _ s
  rw [if_neg (by decide)]
  refine wpAny_bind (slicePart_none (wpAny_bind (slicePart_int (wpAny_bind (wpAny_pure ?_)))))
  exact wpAny_pure h
theorem getItem_two {t sl : Addr} {a b c : Value} {u : Tok} {Q : Value → Shared → Prop} (ht : IsTup s.heap t #[a, b, c]) (hs : s.heap.IsSliceOf sl .none (.int 2 u) .none)
    (h : Q (.ref s.heap.objs.size) { s with heap := s.heap.push { cls := .type "tuple", data := .seq #[a, b] } }) :
    wpAny (model prog w) A (getItem (.ref t) (.ref sl)) Q E s := by
  obtain ⟨os, hos, hcs, hds⟩ := id hs
  have hTs : s.TypeIs (.ref sl) "slice" := ⟨os, hos, hcs⟩
  unfold getItem
  try with_reducible refine wpAny_holding ?_
  first | refine wpAny_bind (wpAny_pure ?_) | skip
  refine wpAny_bind (wpAny_sequenceKey ht.typeIs (by decide) ?_)
  refine wpAny_bind (wpAny_callSpecial?_slot (name := Str.ofString "__getitem__") ht.typeIs slot_tuple_getitem
    (wpAny_call_entry slot_tuple_getitem ht.typeIs entry_tuple_getitem ?_ (args_tuple_getitem _ _)))
  show wpAny _ _ (Builtin.Tuple.tupleItemsOf (.ref t) >>= _) _ _ s
  refine wpAny_bind (tupleItemsOf_ ht ?_)
  refine wpAny_bind (wpAny_typeOf hTs ?_)
  rw [if_pos (by decide)]
  refine wpAny_bind (applied_two hs ?_)
  exact wpAny_bind (m := Builtin.Tuple.tupleExact _) (wpAny_newObj_type (wpAny_pure ⟨_, rfl, wpAny_pure h⟩) (by show (2 : Nat) ≤ sizeLine; rw [sizeLine_eq]; omega))
theorem slice_two {value slice : Expr} {t : Addr} {a b c : Value} {u : Tok} {Q : Value → Shared → Prop}
    (F : Fr h₀ L s.heap m) (N : News h₀ L s.heap news) (ht : IsTup s.heap t #[a, b, c])
    (h : ∀ D h', Fr h₀ L h' m → News h₀ L h' ((D, { cls := .type "tuple", data := .seq #[a, b] }) :: news) → (∀ p ∈ news, p.1 < D) → Q (.ref D) { s with heap := h' })
    (hs : subscripted slice false (.ref t) (.ref s.heap.objs.size) = operate [.ref s.heap.objs.size, .ref t] (getItem (.ref t) (.ref s.heap.objs.size)) := by with_unfolding_all rfl)
    (hg : ∀ r, letTemporaryGo value (.ref t) r = pure () := by intro _; with_unfolding_all rfl) :
    wpAny (model prog w) A (subscriptTail value slice (.ref t) (.ref s.heap.objs.size)) Q E { s with heap := s.heap.push { cls := .type "slice", data := .fields #[.none, .int 2 u, .none] } } := by
  have ht' : IsTup (s.heap.push { cls := .type "slice", data := .fields #[.none, .int 2 u, .none] }) t #[a, b, c] := ht.keeps fun _ _ e => Heap.get?_push_of_some _ e
  refine subscriptTail_ops (s := { s with heap := s.heap.push { cls := .type "slice", data := .fields #[.none, .int 2 u, .none] } }) ht'.typeIs slot_tuple_getitem.lookup
    (getItem_two ht' (Heap.IsSliceOf.new ..) ?_) hs hg
  have N1 := News.push (F.push { cls := .type "slice", data := .fields #[.none, .int 2 u, .none] }) (N.grown fun _ _ e => Heap.get?_push_of_some _ e) { cls := .type "tuple", data := .seq #[a, b] }
  exact h _ _ ((F.push _).push _) N1 (fun p hp => by rw [Heap.size_push]; exact Nat.lt_succ_of_lt (Heap.lt_size (N p hp).1))

theorem item_any {value slice : PySem.Expr} {l : Addr} {q : List Value} {n : Nat} {k : Int} {u : Tok} {v : Value} {Q : Value → Shared → Prop} (N : News h₀ L s.heap news := by k_asm) (hm : (l, listOf q.toArray n) ∈ news := by k_mem) (h0 : 0 ≤ k := by omega) (hhi : k < 2 ^ 63 := by omega) (hx : q[k.toNat]? = some v := by with_reducible assumption) (h : Q v s)
    (hs : subscripted slice false (.ref l) (.int k u) = operate [.ref l, .int k u] (getItem (.ref l) (.int k u)) := by with_unfolding_all rfl) :
    wpAny (model prog w) A (subscriptTail value slice (.ref l) (.int k u)) Q E s := item_litK ⟨_, (N _ hm).1, rfl, n, rfl⟩ h0 hhi hx h hs
end
end Mine
end

section
local macro_rules | `(tactic| walk_at "no such key") => `(tactic| fail "no such key")
local macro_rules | `(tactic| walk_at "no such key") => `(tactic| fail "no such key")
local macro_rules | `(tactic| walk_at "no such key") => `(tactic| fail "no such key")
local macro_rules | `(tactic| walk_at "no such key") => `(tactic| fail "no such key")
theorem Mine.startPhS : True := by
  w_top off
  trivial
open PySem PySem.W PyProof.Rows
set_option maxRecDepth 100000
set_option linter.unusedVariables false
namespace Mine
local macro_rules | `(tactic| k_room) => `(tactic| ktr_room)
local macro_rules | `(tactic| ke_room) => `(tactic| (have hcL9 := cLine_is; (try dsimp only [ktrTop, Around.deeper, Around.in1]); omega))

/-- a place's name, as func_std_string writes it -/
def stdS (pl : Nat) (word : Str) : Str :=
  if pl = 0 then (if word = Str.ofString "<a>" then Str.ofString "{a}" else word)
  else Str.ofString "~:" ++ Str.ofString (toString (pl : Int)) ++ Str.ofString "(" ++ word ++ Str.ofString ")"

/-- the five names -/
def names5 : List Str := [Str.ofString "<a>", Str.ofString "b c", Str.ofString "\"", Str.ofString "\\d", Str.ofString "#"]
theorem nm_cases {word : Str} (h : word ∈ names5) : word = Str.ofString "<a>" ∨ word = Str.ofString "b c" ∨ word = Str.ofString "\"" ∨ word = Str.ofString "\\d" ∨ word = Str.ofString "#" := by
  simpa [names5] using h
theorem nm_len {word : Str} (h : word ∈ names5) : word.length ≤ 3 := by
  rcases nm_cases h with rfl | rfl | rfl | rfl | rfl <;> decide
theorem nm_yes {word : Str} (h : word ∈ names5) (hs : Txt.startswith word (Str.ofString "<") = true) : word = Str.ofString "<a>" := by
  rcases nm_cases h with rfl | rfl | rfl | rfl | rfl <;> first | rfl | (revert hs; decide +kernel)
theorem nm_no {word : Str} (hs : Txt.startswith word (Str.ofString "<") = false) : word ≠ Str.ofString "<a>" := by
  rintro rfl; revert hs; decide +kernel
theorem nm_end {word : Str} (h : word ∈ names5) (hs : Txt.startswith word (Str.ofString "<") = true) (he : Txt.endswith word (Str.ofString ">") = false) : False := by
  rw [nm_yes h hs] at he; revert he; decide +kernel
theorem nm_brace : Str.ofString "{" ++ Txt.slice (Str.ofString "<a>") (some 1) (some (-1)) ++ Str.ofString "}" = Str.ofString "{a}" := by decide +kernel
theorem nm_colon : Str.ofString "~" ++ Str.ofString ":" = Str.ofString "~:" := by decide +kernel

set_option maxHeartbeats 4000000 in
theorem standard_con (w : World) (word : Str) (pl : Nat) (t u : Tok) (hp : pl < 10) (hw : word.length ≤ 100) :
    Con w 110 [.int pl t, .str word u] [] 10 200 (fun r made => (∃ t, r = .str (stdS pl word) t) ∧ made = []) := by
  intro p loose mean mg mb dp un gd cn cs a ccd cl outer A₀ base h₀ L m s rest Q E B X T hk D hd hu hret
  have F := D.fr
  have N := D.nw
  have nd := D.nd
  simp only [List.nil_append] at N nd
  revert X; k_fill; intro X
  refine wpAny_call ?_
  k_dflt ktr_enter
  k_steps
  all_goals (rename Fr _ _ _ _ => F9; rename News _ _ _ _ => N9)
  · have h1 : pl = 0 := by omega
    have h2 : word = Str.ofString "<a>" := by simpa using (by assumption : (word == Str.ofString "<a>") = true)
    exact hret _ _ _ _ ⟨⟨_, by rw [stdS, if_pos h1, if_pos h2]⟩, rfl⟩ (Led.of F9 N9 nd)
  · have h1 : pl = 0 := by omega
    have h2 : word ≠ Str.ofString "<a>" := by simpa using (by assumption : (word == Str.ofString "<a>") = false)
    exact hret _ _ _ _ ⟨⟨_, by rw [stdS, if_pos h1, if_neg h2]⟩, rfl⟩ (Led.of F9 N9 nd)
  · have h1 : pl ≠ 0 := by omega
    exact hret _ _ _ _ ⟨⟨_, by rw [stdS, if_neg h1]⟩, rfl⟩ (Led.of F9 N9 nd)

set_option maxHeartbeats 4000000 in
theorem fstd_con (w : World) (word : Str) (pl : Nat) (tu : Addr) (t0 t u : Tok) (hp : pl < 10) (hn : word ∈ names5) :
    Con w 63 [.ref tu] [(tu, { cls := .type "tuple", data := .seq #[.str (Str.ofString "~") t0, .int pl t, .str word u] })] 10 200 (fun r made => (∃ t, r = .str (stdS pl word) t) ∧ made = []) := by
  intro p loose mean mg mb dp un gd cn cs a ccd cl outer A₀ base h₀ L m s rest Q E B X T hk D hd hu hret
  have F := D.fr
  have N := D.nw
  have nd := D.nd
  simp only [List.cons_append, List.nil_append] at N nd
  have hw := nm_len hn
  revert X; k_fill; intro X
  refine wpAny_call ?_
  k_dflt ktr_enter
  k_steps
  k_dflt (refine' slice_two ?F ?N ?t ?_; (case F => k_asm); (case N => k_asm); (case t => exact ⟨_, (News.get (by k_asm) (List.Mem.head _)), rfl, _, rfl⟩); intro D' h' F' N' l1)
  k_steps
  all_goals (rename Fr _ _ _ _ => F9; rename News _ _ _ _ => N9)
  · have h1 : pl = 0 := by omega
    have h2 := nm_yes hn (by assumption)
    subst h2
    exact hret _ _ _ _ ⟨⟨_, by rw [stdS, if_pos h1, if_pos rfl, nm_brace]⟩, rfl⟩ (Led.of F9 (News.sub N9 fun _ q => .tail _ (.tail _ (.tail _ q))) (List.nodup_cons.mp nd).2)
  · exact (nm_end hn (by assumption) (by assumption)).elim
  · have h1 : pl = 0 := by omega
    have h2 := nm_no (by assumption)
    exact hret _ _ _ _ ⟨⟨_, by rw [stdS, if_pos h1, if_neg h2]⟩, rfl⟩ (Led.of F9 (News.sub N9 fun _ q => .tail _ (.tail _ (.tail _ q))) (List.nodup_cons.mp nd).2)
  · have h1 : pl ≠ 0 := by omega
    exact hret _ _ _ _ ⟨⟨_, by rw [stdS, if_neg h1, nm_colon]⟩, rfl⟩ (Led.of F9 (News.sub N9 fun _ q => .tail _ (.tail _ (.tail _ q))) (List.nodup_cons.mp nd).2)
end Mine
end

section
local macro_rules | `(tactic| walk_at "no such key") => `(tactic| fail "no such key")
local macro_rules | `(tactic| walk_at "no such key") => `(tactic| fail "no such key")
local macro_rules | `(tactic| walk_at "no such key") => `(tactic| fail "no such key")
local macro_rules | `(tactic| walk_at "no such key") => `(tactic| fail "no such key")
local macro_rules | `(tactic| walk_at "no such key") => `(tactic| fail "no such key")
theorem Mine.startPhF : True := by
  w_top off
  trivial
open PySem PySem.W PyProof.Rows PySem.Calls Builtin Builtin.ObjectAttr
set_option maxRecDepth 100000
set_option linter.unusedVariables false
namespace Mine
theorem slot_fn_setattr : Slot "function" "__setattr__" "object.__setattr__" := .of (owner := "object") (n := "__setattr__") (by rw [typeLookup_type, builtinLookup_eq_fast]; kernel_rfl) (by decide +kernel) (by decide +kernel) (by decide +kernel)
  (by first | exact .inl (by decide +kernel) | exact .inr (by decide +kernel)) (by rw [isSubtype_type]; kernel_rfl)
theorem fn_mro : mroOf (.type "function") = pure [.type "function", .type "object"] := by rw [mroOf_type]; kernel_rfl
theorem fn_read : typeLookup (.type "function") (Str.ofString "read") = pure none := by rw [typeLookup_type, builtinLookup_eq_fast]; kernel_rfl
theorem fn_hasDict : typeHasDict (.type "function") = true := by decide +kernel
theorem fn_notFin : finalisedInACycleAlone "function" = false := by decide +kernel
theorem fn_refuse (self : Value) : refuseLoop self "__setattr__" [.type "function", .type "object"] = pure () := by kernel_rfl
section
variable {prog : Program} {w : World} {A : Around} {E : Value → Shared → Prop} {s : Shared} {h₀ : Heap} {L : Addr} {m : Str → Option Value} {pre post : List (Addr × Obj)}
theorem setAttr_fn {f : Addr} {fd : FuncData} {sl : Array (Option Value)} {v : Value} {Q : Unit → Shared → Prop} (F : Fr h₀ L s.heap m) (N : News h₀ L s.heap (pre ++ (f, ⟨.type "function", none, .func fd, sl⟩) :: post))
    (a : ∀ p ∈ pre, p.1 ≠ f) (b : ∀ p ∈ post, p.1 ≠ f)
    (h : ∀ d h' tk t, Fr h₀ L h' m → News h₀ L h' ((d, dictOf [⟨PyData.keyHash w.params (Str.ofString "read"), .str (Str.ofString "read") t, v⟩] 1) :: (pre ++ (f, ⟨.type "function", some d, .func fd, sl⟩) :: post)) → (∀ p ∈ pre ++ (f, (⟨.type "function", none, .func fd, sl⟩ : Obj)) :: post, p.1 < d) → Q () { s with heap := h', toks := tk }) :
    wpAny (model prog w) A (setAttr (.ref f) (Str.ofString "read") v) Q E s := by
  have hm := N (f, ⟨.type "function", none, .func fd, sl⟩) (List.mem_append_right _ (.head _))
  have hT : ∀ tk, ({ s with toks := tk } : Shared).TypeIs (.ref f) "function" := fun _ => ⟨_, hm.1, rfl⟩
  unfold setAttr
  refine wpAny_bind (wpAny_mkText (wpAny_bind (wpAny_callSpecial?_slot (hT _) slot_fn_setattr (wpAny_call ?_))))
  refine codeAny_call_builtin slot_fn_setattr.plain PySem.F.store_object.entry (slot_fn_setattr.check _ _ _ _ _ _ _ _ (hT _) (PySem.F.store_object.args _ _ _) ?_)
  rw [osa_eq, refuse_eq]
  refine wpAny_bind (wpAny_bind (wpAny_typeOf (hT _) ?_))
  rw [fn_mro]
  refine wpAny_bind (wpAny_pure ?_)
  rw [fn_refuse]
  refine wpAny_pure (wpAny_bind (wpAny_typeOf (hT _) ?_))
  rw [fn_read]
  refine wpAny_bind (wpAny_pure (wpAny_bind (wpAny_pure ?_)))
  show wpAny _ _ (storeInOwnDict (.ref f) (.type "function") (.str (Str.ofString "read") s.toks) (Str.ofString "read") v false) _ _ _
  unfold storeInOwnDict
  refine wpAny_bind (wpAny_pure ?_)
  rw [if_neg (by decide)]
  refine wpAny_bind ?_
  show wpAny _ _ (instanceDict f true) _ _ _
  unfold instanceDict
  refine wpAny_bind (wpAny_loadPart hm.1 ?_)
  dsimp only
  rw [fn_hasDict]
  simp only [Bool.not_true, Bool.or_false, Bool.false_eq_true, if_false]
  refine wpAny_bind (wpAny_alloc ?_)
  have hm1 : (s.heap.push { cls := .type "dict", data := .dict #[] }).get? f = some ⟨.type "function", none, .func fd, sl⟩ := Heap.get?_push_of_some _ hm.1
  refine wpAny_bind (wpAny_update hm1 ?_)
  unfold dictMade
  simp only [fn_notFin, Bool.false_eq_true, if_false]
  refine wpAny_pure ?_
  have F1 := F.push { cls := .type "dict", data := .dict #[] }
  have N1 := News.push F N { cls := .type "dict", data := .dict #[] }
  have lt : ∀ p ∈ pre ++ (f, (⟨.type "function", none, .func fd, sl⟩ : Obj)) :: post, p.1 < s.heap.objs.size := fun p hp => Heap.lt_size (N p hp).1
  have hfd : f < s.heap.objs.size := Heap.lt_size hm.1
  obtain ⟨F2, N2⟩ := news_upd (pre := (s.heap.objs.size, { cls := .type "dict", data := .dict #[] }) :: pre) (f := fun o => { cls := o.cls, dict := some s.heap.objs.size, data := o.data, slots := o.slots }) (o' := ⟨.type "function", some s.heap.objs.size, .func fd, sl⟩) F1 N1
    (fun p hp => by rcases List.mem_cons.mp hp with e | hp; · subst e; exact Nat.ne_of_gt hfd
                    · exact a p hp) b rfl rfl
  have D2 := (N2 (s.heap.objs.size, { cls := .type "dict", data := .dict #[] }) (.head _)).1
  obtain ⟨F3, N3⟩ := news_upd (pre := []) (f := Obj.putName (Str.ofString "read") (PyData.keyHash w.params (Str.ofString "read")) (.str (Str.ofString "read") (s.toks + 1)) v) (o := dictOf [] 0) (o' := dictOf [⟨PyData.keyHash w.params (Str.ofString "read"), .str (Str.ofString "read") (s.toks + 1), v⟩] 1) F2 N2
    (fun p hp => nomatch hp) (fun p hp => by
      rcases List.mem_append.mp hp with hp | hp
      · exact Nat.ne_of_lt (lt p (List.mem_append_left _ hp))
      · rcases List.mem_cons.mp hp with e | hp
        · subst e; exact Nat.ne_of_lt hfd
        · exact Nat.ne_of_lt (lt p (List.mem_append_right _ (.tail _ hp)))) (by rw [putName_dict]; rfl) rfl
  have D3 := (N3 (s.heap.objs.size, dictOf [⟨PyData.keyHash w.params (Str.ofString "read"), .str (Str.ofString "read") (s.toks + 1), v⟩] 1) (.head _)).1
  show wpAny _ _ (storeInDict s.heap.objs.size (.str (Str.ofString "read") s.toks) (Str.ofString "read") v) _ _ _
  unfold storeInDict
  refine wpAny_bind (wpAny_pure (wpAny_bind ?_))
  unfold nsSet
  refine wpAny_bind (wpAny_bind (wpAny_askSetting (wpAny_pure (wpAny_bind (wpAny_mkText (wpAny_bind (wpAny_loadPart D2 ?_)))))))
  dsimp only
  have c : (!(#[] : Array DictEntry).any (·.key.isStr (Str.ofString "read")) && (#[] : Array DictEntry).any (·.refKey)) = false := by simp
  rw [aRefKeyMayBeTheName_at, c]
  refine wpAny_updatePart D2 ?_
  refine wpAny_bind (wpAny_lookBehind D3 (by exact pastItsLine_dict (by rw [List.size_toArray, sizeLine_eq]; simp)) ?_)
  exact wpAny_pure (wpAny_pure (h _ _ _ _ F3 N3 lt))

theorem slot_fn_ga : Slot "function" "__getattribute__" "object.__getattribute__" := .of (owner := "object") (n := "__getattribute__") (by rw [typeLookup_type, builtinLookup_eq_fast]; kernel_rfl) (by decide +kernel) (by decide +kernel) (by decide +kernel)
  (by first | exact .inl (by decide +kernel) | exact .inr (by decide +kernel)) (by rw [isSubtype_type]; kernel_rfl)
theorem fn_canon : (Manifest.canonical "object.__getattribute__" != "object.__getattribute__") = false := by decide +kernel
theorem fn_noGetattr : typeLookup (.type "function") "__getattr__" = pure none := by rw [typeLookup_type, builtinLookup_eq_fast]; kernel_rfl
theorem fn_entry_ga : entryFor table "object.__getattribute__" = some Builtin.«object.__getattribute__» := entryFor_of_tree (by kernel_rfl)
theorem fn_gaArgs (o a : Value) : argsOk "object.__getattribute__" ⟨[o, a], []⟩ := by unfold argsOk; kernel_rfl

theorem getMethod_fn {f d : Addr} {fd : FuncData} {sl : Array (Option Value)} {v : Value} {t : Tok} {hsh : Int} {pl : Sem Bool} {Q : Value × List Value → Shared → Prop}
    (hf : s.heap.get? f = some ⟨.type "function", some d, .func fd, sl⟩) (hd : s.heap.get? d = some (dictOf [⟨hsh, .str (Str.ofString "read") t, v⟩] 1)) (hv : handedIn v = true)
    (h : ∀ tk, Q (v, []) { s with toks := tk }) : wpAny (model prog w) A (getMethod (.ref f) (Str.ofString "read") pl) Q E s := by
  have hT : ∀ tk, ({ s with toks := tk } : Shared).TypeIs (.ref f) "function" := fun _ => ⟨_, hf, rfl⟩
  unfold getMethod
  refine wpAny_bind (wpAny_specialOf (hT _) slot_fn_ga.lookup ?_)
  show wpAny _ _ (if (Manifest.canonical "object.__getattribute__" != "object.__getattribute__") = true then _ else _) _ _ _
  rw [fn_canon, if_neg Bool.false_ne_true]
  refine wpAny_bind (wpAny_specialOf (hT _) fn_noGetattr ?_)
  refine wpAny_bind (wpAny_specialOf (hT _) fn_read ?_)
  refine wpAny_bind ?_
  unfold getAttr getAttrBy
  refine wpAny_bind (wpAny_mkText (wpAny_holding (wpAny_bind (wpAny_typeOf (hT _) ?_))))
  rw [slot_fn_ga.lookup]
  refine wpAny_bind (wpAny_pure ?_)
  show wpAny _ _ (getAttrByItsOwn (.ref f) (.str (Str.ofString "read") s.toks) (.type "function") (.builtin "object.__getattribute__") true false) _ _ _
  unfold getAttrByItsOwn
  refine wpAny_bind (wpAny_pure ?_)
  refine wpAny_bind (wpAny_attempt (wpAny_holding ?_))
  show wpAny _ _ (boundAndCalled (.builtin "object.__getattribute__") (.ref f) (.str (Str.ofString "read") s.toks)) _ _ _
  unfold boundAndCalled
  rw [slot_fn_ga.bind]
  refine wpAny_bind (wpAny_pure (wpAny_call ?_))
  refine codeAny_call_builtin slot_fn_ga.plain fn_entry_ga (slot_fn_ga.check _ _ _ _ _ _ _ _ (hT _) (fn_gaArgs _ _) ?_)
  unfold Builtin.«object.__getattribute__»
  refine wpAny_bind (wpAny_pure (wpAny_bind (wpAny_pure (wpAny_bind (wpAny_typeOf (hT _) ?_)))))
  refine wpAny_bind ?_
  unfold find
  rw [fn_read]
  refine wpAny_bind (wpAny_pure (wpAny_bind (wpAny_pure (wpAny_bind (wpAny_pure ?_)))))
  show wpAny _ _ (ownThenClass (.ref f) (Str.ofString "read") none none) _ _ _
  unfold ownThenClass
  refine wpAny_bind ?_
  show wpAny _ _ (ObjectAttr.ownDict f >>= inDict (Str.ofString "read")) _ _ _
  refine wpAny_bind ?_
  unfold ObjectAttr.ownDict
  refine wpAny_bind (wpAny_loadPart hf ?_)
  show wpAny _ _ (instanceDict f false) _ _ _
  unfold instanceDict
  refine wpAny_bind (wpAny_loadPart hf ?_)
  refine wpAny_pure ?_
  show wpAny _ _ (nsGet d (Str.ofString "read")) _ _ _
  have hl : lookIn (Str.ofString "read") (dictOf [⟨hsh, .str (Str.ofString "read") t, v⟩] 1) = some (some v) := by
    rw [lookIn_dict]; simp [getL, Value.isStr]
  refine wpAny_bind (wpAny_loadPart hd ?_)
  show wpAny _ _ (nsLook (Str.ofString "read") _) _ _ _
  rw [nsLook_of hl]
  refine wpAny_pure (wpAny_bind (wpAny_rule (wpAny_pure (wpAny_pure ?_))))
  show wpAny _ _ (handedOut v) _ _ _
  rw [handedOut_of hv]
  exact wpAny_pure (wpAny_pure (h _))
end
end Mine
end

section
local macro_rules | `(tactic| walk_at "no such key") => `(tactic| fail "no such key")
local macro_rules | `(tactic| walk_at "no such key") => `(tactic| fail "no such key")
local macro_rules | `(tactic| walk_at "no such key") => `(tactic| fail "no such key")
theorem Mine.startPhP : True := by
  w_top off
  trivial
open PySem PySem.W PyProof.Rows
set_option maxRecDepth 100000
set_option linter.unusedVariables false
namespace Mine
local macro_rules | `(tactic| k_room) => `(tactic| ktr_room)
local macro_rules | `(tactic| ke_room) => `(tactic| (have hcL9 := cLine_is; (try dsimp only [ktrTop, Around.deeper, Around.in1]); omega))
local macro_rules | `(tactic| walk_at "exec For Name Call cons nil") => `(tactic| ((rename Fr _ _ _ _ => lF'); k_dflt (refine for_src lF' (by rfl) (by rfl) ?_)))
local macro_rules | `(tactic| tb_start) => `(tactic| first | assumption | exact nd_new (by assumption) (by tb_start))
local macro_rules | `(tactic| walk_at "subscriptTail") => `(tactic| k_dflt (refine' item_any (hx := by assumption) (h := ?_)))
local macro_rules | `(tactic| walk_at "call ref") => `(tactic| ((with_reducible show wpAny _ _ (call (Value.ref 110) _) _ _ _); k_dflt (refine' standard_con _ _ _ _ _ ?p1 ?p2 ?B ?X ?T ?K ?D ?d ?u ?_; (case B => k_asm); (case X => k_asm); (case T => k_asm); (case K => exact rfl); (case D => exact Led.of (by k_asm) (by k_asm) (by tb_start)); (case p1 => first | assumption | omega); (case p2 => first | assumption | omega); (case d => ktr_room); (case u => (have hcL9 := cLine_is; (try dsimp only [ktrTop, Around.deeper, Around.in1]); omega))); intro r' made' h' tk' hout' D'; obtain ⟨⟨t', e1'⟩, e2'⟩ := hout'; subst e1'; subst e2'; (have F' := Led.fr D'); (have N' := Led.nw D'); (have nd' := Led.nd D'); clear D'; (simp only [List.nil_append] at N' nd'); (try k_sweep)))

def StrsAre (ws : List Value) (W : Nat → Str) : Prop := ws.length = 10 ∧ ∀ i, i < 10 → ∃ t, ws[i]? = some (.str (W i) t)
abbrev SK (w : World) := PySem.strKind PySem.Challenge.rw_ph0055_01.row.prog w

/-- the dict of the places -/
def PlacesAre (w : World) (o : Obj) (W : Nat → Str) (n : Nat) : Prop :=
  ∃ kvs : List (Str × Value), o.IsDictOf (PySem.strKind PySem.Challenge.rw_ph0055_01.row.prog w) kvs ∧ kvs.length ≤ n ∧ ∀ j, j < n → ∃ t, valueAt kvs (stdS j (W j)) = some (.int j t)

theorem std_pos {i : Nat} (h0 : i ≠ 0) (h : i < 10) (x : Str) : (stdS i x).cps.toList[0]? = some 126 ∧ (stdS i x).cps.toList[2]? = some (48 + i) := by
  have key : ∀ d : Nat, (Str.ofString "~:" ++ Str.ofString (toString ((i : Nat) : Int))).cps.toList = [126, 58, d] → ((Str.ofString "~:" ++ Str.ofString (toString ((i : Nat) : Int)) ++ Str.ofString "(" ++ x ++ Str.ofString ")").cps.toList[0]? = some 126 ∧ (Str.ofString "~:" ++ Str.ofString (toString ((i : Nat) : Int)) ++ Str.ofString "(" ++ x ++ Str.ofString ")").cps.toList[2]? = some d) := by
    intro d hd
    have e : (Str.ofString "~:" ++ Str.ofString (toString ((i : Nat) : Int)) ++ Str.ofString "(" ++ x ++ Str.ofString ")").cps.toList = [126, 58, d] ++ ((Str.ofString "(").cps.toList ++ (x.cps.toList ++ (Str.ofString ")").cps.toList)) := by
      rw [Str.cps_append, Array.toList_append, Str.cps_append, Array.toList_append, Str.cps_append, Array.toList_append, hd]
      simp
    rw [e]; simp
  rw [stdS, if_neg h0]
  refine key (48 + i) ?_
  have : i = 1 ∨ i = 2 ∨ i = 3 ∨ i = 4 ∨ i = 5 ∨ i = 6 ∨ i = 7 ∨ i = 8 ∨ i = 9 := by omega
  rcases this with rfl | rfl | rfl | rfl | rfl | rfl | rfl | rfl | rfl <;> decide +kernel
theorem std_zero {x : Str} (h : x ∈ names5) : (stdS 0 x).cps.toList[0]? ≠ some 126 := by
  rcases nm_cases h with rfl | rfl | rfl | rfl | rfl <;> decide +kernel
theorem std_inj {i j : Nat} (hi : i < 10) (hj : j < 10) (hne : i ≠ j) {x y : Str} (hx : x ∈ names5) (hy : y ∈ names5) : stdS i x ≠ stdS j y := by
  intro e
  by_cases h0 : i = 0
  · subst h0
    have := (std_pos (Ne.symm hne) hj y).1
    rw [← e] at this
    exact std_zero hx this
  · by_cases h1 : j = 0
    · subst h1
      have := (std_pos h0 hi x).1
      rw [e] at this
      exact std_zero hy this
    · have a := (std_pos h0 hi x).2
      have b := (std_pos h1 hj y).2
      rw [e, b] at a
      have := Option.some.inj a
      omega

set_option maxHeartbeats 4000000 in
theorem places_con (w : World) (l : Addr) (ws : List Value) (n : Nat) (W : Nat → Str) (hW : StrsAre ws W) (hn : ∀ i, i < 10 → W i ∈ names5) :
    Con w 117 [.ref l] [(l, listOf ws.toArray n)] 15 300 (fun r made => ∃ d o, r = .ref d ∧ (d == sysModules) = false ∧ PlacesAre w o W 10 ∧ made = [(d, o), (l, listOf ws.toArray n)]) := by
  intro p loose mean mg mb dp un gd cn cs a ccd cl outer A₀ base h₀ L m s rest Q E B X T hk D hd hu hret
  have F := D.fr
  have N := D.nw
  have nd := D.nd
  simp only [List.cons_append, List.nil_append] at N nd
  revert X; k_fill; intro X
  refine wpAny_call ?_
  k_dflt ktr_enter
  k_steps
  rename_i d _ o hlo hd0 _ _ _ l1 _ _ _ _ _ _ _ _ hr F9 N9 _
  refine for_range (k := 10) (X := [(d, o)]) (rest := (l, listOf ws.toArray n) :: rest) rfl hr (by decide) (Led.of F9 N9 (by tb_start))
    (fun i m X => m (Str.ofString "places") = some (.ref d) ∧ m (Str.ofString "words") = some (.ref l) ∧ ∃ o, X = [(d, o)] ∧ PlacesAre w o W i) ⟨rfl, rfl, _, rfl, [], hd0, Nat.le_refl _, fun j hj => absurd hj (Nat.not_lt_zero _)⟩ ?_ ?_
  · rintro i t m₁ X₁ h tk I oI qT1 hT1 hi ⟨hm1, hm2, od, rfl, kvs, hkv, hkl, hka⟩ D₁
    obtain ⟨tw, hw⟩ := hW.2 i hi
    have F' := D₁.fr
    have N' := D₁.nw
    have nd' := D₁.nd
    rw [mp2 hm1 hm2] at F'
    simp only [List.cons_append, List.nil_append] at N' nd'
    clear F9 N9 D₁
    have hwl : (W i).length ≤ 100 := Nat.le_trans (nm_len (hn i hi)) (by decide)
    k_steps
    rename Fr _ _ _ _ => F9
    rename News _ _ _ _ => N9
    refine kda_set (knd := PySem.strKind _ _) F9 N9 (UpdF.head (nd_head nd')) hkv (strKind_is _ _ _ _) (by rw [sizeLine_eq]; omega) ?_
    intro h' o' F' N' hd'
    k_steps
    rename Fr _ _ _ _ => F9
    rename News _ _ _ _ => N9
    refine hT1 _ _ (Turn.next (X₂ := [(d, o')]) ⟨rfl, rfl, o', rfl, _, hd', ?_, ?_⟩ (Led.of F9 N9 nd'))
    · exact Nat.le_trans (stored_length_le _ _ _) (Nat.succ_le_succ hkl)
    · intro j hj
      rw [valueAt_stored]
      by_cases e : j = i
      · subst e; rw [if_pos rfl]; exact ⟨_, rfl⟩
      · rw [if_neg (std_inj (by omega) hi e (hn j (by omega)) (hn i hi))]
        exact hka j (by omega)
  · rintro h' tk m' X' ⟨hm1, hm2, od, rfl, hpl⟩ D₁
    have F' := D₁.fr
    have N' := D₁.nw
    have nd' := D₁.nd
    rw [mp2 hm1 hm2] at F'
    simp only [List.cons_append, List.nil_append] at N' nd'
    clear F9 N9 D₁
    k_steps
    rename Fr _ _ _ _ => F9
    rename News _ _ _ _ => N9
    exact hret _ _ _ _ ⟨d, od, rfl, hlo, hpl, rfl⟩ (Led.of F9 N9 nd')
end Mine
end

section
local macro_rules | `(tactic| walk_at "no such key") => `(tactic| fail "no such key")
local macro_rules | `(tactic| walk_at "no such key") => `(tactic| fail "no such key")
local macro_rules | `(tactic| walk_at "no such key") => `(tactic| fail "no such key")
local macro_rules | `(tactic| walk_at "no such key") => `(tactic| fail "no such key")
theorem Mine.startPhC : True := by
  w_top off
  trivial
open PySem PySem.W PyProof.Rows
set_option maxRecDepth 100000
set_option linter.unusedVariables false
namespace Mine
theorem allLt_cons {a d : Nat} {o : Obj} {r : List (Addr × Obj)} (h : a < d) (h2 : AllLt d r) : AllLt d ((a, o) :: r) := ⟨h, h2⟩
theorem allLt_mono {a d : Nat} {r : List (Addr × Obj)} (h : AllLt a r) (h2 : a ≤ d) : AllLt d r := allLt_iff.mpr fun p hp => Nat.lt_of_lt_of_le (allLt_iff.mp h p hp) h2
local macro_rules | `(tactic| k_room) => `(tactic| ktr_room)
local macro_rules | `(tactic| ke_room) => `(tactic| (have hcL9 := cLine_is; (try dsimp only [ktrTop, Around.deeper, Around.in1]); omega))
local macro_rules | `(tactic| walk_at "exec For Name Call cons nil") => `(tactic| ((rename Fr _ _ _ _ => lF'); k_dflt (refine for_src lF' (by rfl) (by rfl) ?_)))
local macro_rules | `(tactic| tb_rel) => `(tactic| first | assumption | (refine allLt_cons ?_ ?_; (case refine_1 => omega); (case refine_2 => tb_rel)) | exact allLt_mono (by assumption) (by omega) | fail "tb_rel")
local macro_rules | `(tactic| tb_start) => `(tactic| first | assumption | (refine nd_new ?_ ?_; (case refine_1 => tb_rel); (case refine_2 => tb_start)) | fail "tb_start")
local macro_rules | `(tactic| walk_at "subscriptTail") => `(tactic| k_dflt (refine' item_any (hx := by assumption) (h := ?_)))
local macro_rules | `(tactic| walk_at "call ref") => `(tactic| ((with_reducible show wpAny _ _ (call (Value.ref 110) _) _ _ _); k_dflt (refine' standard_con _ _ _ _ _ ?p1 ?p2 ?B ?X ?T ?K ?D ?d ?u ?_; (case B => k_asm); (case X => k_asm); (case T => k_asm); (case K => exact rfl); (case D => exact Led.of (by k_asm) (by k_asm) (by tb_start)); (case p1 => first | assumption | omega); (case p2 => first | assumption | omega); (case d => ktr_room); (case u => (have hcL9 := cLine_is; (try dsimp only [ktrTop, Around.deeper, Around.in1]); omega))); intro r' made' h' tk' hout' D'; obtain ⟨⟨t', e1'⟩, e2'⟩ := hout'; subst e1'; subst e2'; (have F' := Led.fr D'); (have N' := Led.nw D'); (have nd' := Led.nd D'); clear D'; (simp only [List.nil_append] at N' nd'); (try k_sweep)))
local macro_rules | `(tactic| k_all) => `(tactic| assumption)
local macro_rules | `(tactic| k_all) => `(tactic| first | exact rest_ne (by assumption) (by omega) | fail "no")
theorem cHd (w : World) {h : Heap} (X : (hd.heap_1 w.params).In h) : CodeHd h 102 98 := codeHd_of_K X (by kernel_rfl)
local macro_rules | `(tactic| ktr_enter) => `(tactic| (refine' code_defC ?k1 ?k2 ?k3 ?k4 ?k5 ?kA ?kF ?kK ?k6 ?k7 ?k8 ?k9 ?kB ?kD ?_ ?c2 ?c3 ?c4; (case kA => exact rfl); (case kF => exact rfl); (case kK => assumption); (case k1 => k_asm); (case k2 => k_asm); (case k3 => k_asm); (case k4 => k_asm); (case k5 => k_asm); (case k6 => k_is); (case k7 => k_is); (case k8 => ktr_room); (case k9 => exact BindsTo.of_eq rfl); (case kB => exact rfl); (case kD => decide +kernel); (case c2 => exact rfl); (case c3 => exact rfl); (case c4 => exact rfl); k_whole; intro g' L' h' tk' cells' FG' F' N' Y' B' X' T' l1; (try k_lt l1); k_cells Y'; (try simp only [List.cons_append, List.nil_append] at N'); (try dsimp only); (try k_fold)))

/-- the sign at a place, as a text (nothing behind the end) -/
def pieceAt (text : Str) (pos : Nat) : Str := ⟨((text.cps.toList.drop pos).take 1).toArray⟩

theorem slice_one (text : Str) (pos : Nat) (h : pos ≤ text.length) : Txt.slice text (some (pos : Int)) (some ((pos : Int) + 1)) = pieceAt text pos := by
  show StrLaws.sliceText text (some (pos : Int)) (some ((pos : Int) + 1)) = _
  by_cases hlt : pos < text.length
  · have := StrLaws.sliceText_nat text (a := pos) (b := pos + 1) (by omega) (by omega)
    rw [show ((pos : Int) + 1) = ((pos + 1 : Nat) : Int) by omega, this, pieceAt]
    rw [show pos + 1 - pos = 1 by omega]
  · have e : pos = text.length := by omega
    have e2 : StrLaws.sliceText text (some (pos : Int)) (some ((pos : Int) + 1)) = StrLaws.sliceText text (some (pos : Int)) (some (pos : Int)) := by
      have : Builtin.Str.strSliceIndices (some (pos : Int)) (some ((pos : Int) + 1)) 1 text.length = Builtin.Str.strSliceIndices (some (pos : Int)) (some (pos : Int)) 1 text.length := by
        subst e
        have a1 : ¬ ((text.length : Int) + 1 < 0) := by omega
        have a2 : ¬ ((text.length : Int) < 0) := by omega
        have a3 : min ((text.length : Int) + 1) (text.length : Int) = text.length := by omega
        simp [Builtin.Str.strSliceIndices, a1, a2, a3]
      unfold StrLaws.sliceText
      rw [this]
    rw [e2, StrLaws.sliceText_nat text (Nat.le_refl pos) h, pieceAt]
    have hl : (text.cps.toList.drop pos) = [] := by
      apply List.drop_eq_nil_of_le
      rw [e, Array.length_toList]; exact Nat.le_refl _
    rw [hl]; simp

/-- what a call of the stream's reader gives -/
def GiveCon (w : World) (gv : Addr) (SB : List (Addr × Obj)) (text : Str) (la : Addr) : Prop :=
  ∀ (pos : Nat) (ta t1 : Tok) (n : Nat), pos ≤ text.length → Con w gv [.int 1 t1] (SB ++ [(la, listOf #[.int pos ta] n)]) 5 100
    (fun r made => (∃ t, r = .str (pieceAt text pos) t) ∧ ∃ ta', made = SB ++ [(la, listOf #[.int ((pos + (pieceAt text pos).length : Nat) : Int) ta'] n)])
def GiveCon0 (w : World) (gv : Addr) (SB : List (Addr × Obj)) (text : Str) (la : Addr) : Prop :=
  ∀ (pos : Nat) (ta t1 : Tok) (n : Nat), pos ≤ text.length → Con w gv [.int 1 t1] (SB ++ [(la, listOf #[.int pos ta] n)]) 5 100
    (fun r made => (∃ t, r = .str (Txt.slice text (some (pos : Int)) (some ((pos : Int) + 1))) t) ∧ ∃ ta', made = SB ++ [(la, listOf #[.int ((pos : Int) + ((Txt.slice text (some (pos : Int)) (some ((pos : Int) + 1))).length : Int)) ta'] n)])
theorem Con.mono {w : World} {f : Addr} {args : List Value} {need : List (Addr × Obj)} {dpn unn : Nat} {Out Out' : Value → List (Addr × Obj) → Prop} (C : Con w f args need dpn unn Out) (h : ∀ r made, Out r made → Out' r made) : Con w f args need dpn unn Out' := by
  intro p loose mean mg mb dp un gd cn cs a ccd cl outer A₀ base h₀ L m s rest Q E B X T hk D hd hu hret
  exact C B X T hk D hd hu fun r made h' tk' ho D' => hret r made h' tk' (h r made ho) D'
theorem GiveCon0.to {w : World} {gv : Addr} {SB : List (Addr × Obj)} {text : Str} {la : Addr} (G : GiveCon0 w gv SB text la) : GiveCon w gv SB text la := by
  intro pos ta t1 n hp
  refine Con.mono (G pos ta t1 n hp) ?_
  rintro r made ⟨⟨t, rfl⟩, ta', rfl⟩
  rw [slice_one text pos hp]
  exact ⟨⟨_, rfl⟩, _, rfl⟩

/-- the table of the code objects, once the lambda and the def have been met -/
def tab2 (c1 c2 : Addr) : Obj := tabObj (#[] ++ #[rawInt ↑(89 : Nat), rawInt ↑(13 : Nat), .ref c1] ++ #[rawInt ↑(91 : Nat), rawInt ↑(4 : Nat), .ref c2])

def wsS : Str := Str.ofString "\n\t\u000d "
/-- what a lexer's making leaves -/
inductive LexOut (w : World) (la : Addr) (text : Str) (ta : Tok) (n : Nat) (r : Value) (made : List (Addr × Obj)) : Prop
  | mk : ∀ x dx l tks tl tw st dr gv fd sl hsh t c1 c2 fg SB, (r = .ref x) → (made = lexOs w x dx l tks (.int 1 tl) (.ref st) (.str wsS tw) [] 0 ++ (SB ++ [(la, listOf #[.int 0 ta] n)])) → ((98, tab2 c1 c2) ∈ SB) → ((st, (⟨.type "function", some dr, .func fd, sl⟩ : Obj)) ∈ SB) → ((dr, dictOf [⟨hsh, .str (Str.ofString "read") t, .ref gv⟩] 1) ∈ SB) → ((gv, (⟨.type "function", none, .func fg, #[]⟩ : Obj)) ∈ SB) → (GiveCon0 w gv SB text la) → LexOut w la text ta n r made
set_option maxHeartbeats 4000000 in
theorem lexer_con (w : World) (la : Addr) (text : Str) (tt ta : Tok) (n : Nat) (htx : text.length ≤ 1000) :
    Con w 103 [.str text tt, .ref la] [(98, tabObj #[]), (la, listOf #[.int 0 ta] n)] 10 200 (LexOut w la text ta n) := by
  intro p loose mean mg mb dp un gd cn cs a ccd cl outer A₀ base h₀ L m s rest Q E B X T hk D hd hu hret
  have F := D.fr
  have N := D.nw
  have nd := D.nd
  simp only [List.cons_append, List.nil_append] at N nd
  have hn98 := nd_head nd
  have hla : @Ne Nat la 98 := hn98 _ (.head _)
  have hr98 : ∀ p ∈ rest, p.1 ≠ 98 := fun p hp => hn98 p (.tail _ hp)
  revert X; k_fill; intro X
  refine wpAny_call ?_
  k_dflt ktr_enter
  rename Frag.In _ _ => X9
  have cH := cHd w X9
  rename 98 < _ ∧ _ => lL
  have lrest := lL.2.2
  k_steps
  rename Fr _ _ _ _ => F9
  rename News _ _ _ _ => N9
  k_dflt (refine' setAttr_fn (pre := [_, _]) F9 N9 ?a ?b ?_; (case a => k_all); (case b => k_all))
  intro d' h' tk' t' F' N' l1
  (try dsimp only [List.cons_append, List.nil_append] at N' l1)
  k_lt l1
  clear F9 N9
  k_steps
  rename Fr _ _ _ _ => F9
  rename News _ _ _ _ => N9
  refine hret _ _ _ _ ⟨_, _, _, ⟨_, _, _, _⟩, _, _, _, _, _, _, _, _, _, _, _, _, [_, _, _, _, _, _, _, _], rfl, rfl, .tail _ (.tail _ (.tail _ (.tail _ (.tail _ (.tail _ (.tail _ (.head _))))))), .tail _ (.tail _ (.tail _ (.head _))), .head _, .tail _ (.head _), ?giv⟩ (Led.of F9 N9 ?nd)
  case nd => tb_start
  case giv =>
    clear F9 N9
    intro pos tp t1 n' hpos p loose mean mg mb dp un gd cn cs a ccd cl outer A₀ base h₀ L m s rest Q E B X T hk D hd hu hret
    have F := D.fr
    have N := D.nw
    have nd := D.nd
    simp only [List.cons_append, List.nil_append] at N nd
    refine wpAny_call ?_
    k_dflt (refine' code_nest ?k1 ?k2 ?k3 ?k4 ?k5 ?kA ?kF ?kK ?k6 ?k7 ?k8 ?k9 ?kB ?_ ?c2 ?c3 ?c4 ?c5; (case kA => exact rfl); (case kF => exact rfl); (case kK => assumption); (case k1 => k_asm); (case k2 => k_asm); (case k3 => k_asm); (case k4 => k_asm); (case k5 => k_asm); (case k6 => k_mem); (case k7 => exact codeRec_news (by k_asm) (by k_mem) (by assumption) (by assumption)); (case k8 => ktr_room); (case k9 => exact BindsTo.of_eq rfl); (case c5 => decide); (case kB => exact locs rfl); (case c2 => exact rfl); (case c3 => exact rfl); (case c4 => exact rfl); k_whole; intro g' L' h' FG' F' N' B' X' T'; (try dsimp only); (try k_fold))
    have hrla : ∀ p ∈ rest, p.1 ≠ la := nd_head (List.nodup_cons.mp (List.nodup_cons.mp (List.nodup_cons.mp (List.nodup_cons.mp (List.nodup_cons.mp (List.nodup_cons.mp (List.nodup_cons.mp (List.nodup_cons.mp nd).2).2).2).2).2).2).2).2
    k_steps
    rename Fr _ _ _ _ => F9
    rename News _ _ _ _ => N9
    exact hret _ _ _ _ ⟨⟨_, rfl⟩, _, rfl⟩ (Led.of F9 N9 nd)
set_option maxHeartbeats 4000000 in
theorem lexer2_con (w : World) (la : Addr) (text : Str) (tt ta : Tok) (n : Nat) (c1 c2 : Addr) :
    Con w 103 [.str text tt, .ref la] [(98, tab2 c1 c2), (la, listOf #[.int 0 ta] n)] 10 200 (fun r made => ∃ x dx l tks tl tw st, r = .ref x ∧ made = lexOs w x dx l tks (.int 1 tl) (.ref st) (.str wsS tw) [] 0 ++ [(98, tab2 c1 c2)]) := by
  intro p loose mean mg mb dp un gd cn cs a ccd cl outer A₀ base h₀ L m s rest Q E B X T hk D hd hu hret
  have F := D.fr
  have N := D.nw
  have nd := D.nd
  simp only [List.cons_append, List.nil_append, tab2] at N nd
  have hn98 := nd_head nd
  have hla : @Ne Nat la 98 := hn98 _ (.head _)
  have hr98 : ∀ p ∈ rest, p.1 ≠ 98 := fun p hp => hn98 p (.tail _ hp)
  revert X; k_fill; intro X
  refine wpAny_call ?_
  k_dflt ktr_enter
  rename Frag.In _ _ => X9
  have cH := cHd w X9
  rename 98 < _ ∧ _ => lL
  have lrest := lL.2.2
  k_steps
  rename Fr _ _ _ _ => F9
  rename News _ _ _ _ => N9
  k_dflt (refine' setAttr_fn (pre := [_]) F9 N9 ?a ?b ?_; (case a => k_all); (case b => k_all))
  intro d' h' tk' t' F' N' l1
  (try dsimp only [List.cons_append, List.nil_append] at N' l1)
  k_lt l1
  clear F9 N9
  k_steps
  rename Fr _ _ _ _ => F9
  rename News _ _ _ _ => N9
  have D9 := Led.of F9 N9 (by tb_start)
  exact hret _ _ _ _ ⟨_, _, _, ⟨_, _, _, _⟩, _, _, _, rfl, rfl⟩ (Led.sub D9 (.cons_cons _ (.cons_cons _ (.cons_cons _ (.cons _ (.cons _ (.cons _ (.cons _ (.cons _ (.cons_cons _ (.cons _ (.refl _))))))))))))
end Mine
end

section
local macro_rules | `(tactic| walk_at "no such key") => `(tactic| fail "no such key")
local macro_rules | `(tactic| walk_at "no such key") => `(tactic| fail "no such key")
local macro_rules | `(tactic| walk_at "no such key") => `(tactic| fail "no such key")
local macro_rules | `(tactic| walk_at "no such key") => `(tactic| fail "no such key")
local macro_rules | `(tactic| walk_at "no such key") => `(tactic| fail "no such key")
theorem Mine.startPhE : True := by
  w_top off
  trivial
open PySem PySem.W PyProof.Rows
set_option maxRecDepth 100000
set_option linter.unusedVariables false
namespace Mine
local macro_rules | `(tactic| k_room) => `(tactic| ktr_room)
local macro_rules | `(tactic| ke_room) => `(tactic| (have hcL9 := cLine_is; (try dsimp only [ktrTop, Around.deeper, Around.in1]); omega))
local macro_rules | `(tactic| walk_at "exec For Name Call cons nil") => `(tactic| ((rename Fr _ _ _ _ => lF'); k_dflt (refine for_src lF' (by rfl) (by rfl) ?_)))
local macro_rules | `(tactic| tb_rel) => `(tactic| first | assumption | (refine allLt_cons ?_ ?_; (case refine_1 => omega); (case refine_2 => tb_rel)) | exact allLt_mono (by assumption) (by omega) | fail "tb_rel")
local macro_rules | `(tactic| tb_start) => `(tactic| first | assumption | (refine nd_new ?_ ?_; (case refine_1 => tb_rel); (case refine_2 => tb_start)) | fail "tb_start")
local macro_rules | `(tactic| walk_at "subscriptTail") => `(tactic| k_dflt (refine' item_any (hx := by assumption) (h := ?_)))
local macro_rules | `(tactic| walk_at "call ref") => `(tactic| ((with_reducible show wpAny _ _ (call (Value.ref 110) _) _ _ _); k_dflt (refine' standard_con _ _ _ _ _ ?p1 ?p2 ?B ?X ?T ?K ?D ?d ?u ?_; (case B => k_asm); (case X => k_asm); (case T => k_asm); (case K => exact rfl); (case D => exact Led.of (by k_asm) (by k_asm) (by tb_start)); (case p1 => first | assumption | omega); (case p2 => first | assumption | omega); (case d => ktr_room); (case u => (have hcL9 := cLine_is; (try dsimp only [ktrTop, Around.deeper, Around.in1]); omega))); intro r' made' h' tk' hout' D'; obtain ⟨⟨t', e1'⟩, e2'⟩ := hout'; subst e1'; subst e2'; (have F' := Led.fr D'); (have N' := Led.nw D'); (have nd' := Led.nd D'); clear D'; (simp only [List.nil_append] at N' nd'); (try k_sweep)))
local macro_rules | `(tactic| k_all) => `(tactic| assumption)
theorem Led.swap {h₀ h : Heap} {L : Addr} {m : Str → Option Value} {P S R : List (Addr × Obj)} (D : Led h₀ L m h (P ++ (S ++ R))) : Led h₀ L m h (S ++ (P ++ R)) :=
  D.perm (List.perm_append_comm_assoc S P R)

/-- the text's line feeds in one piece -/
def nlOf (p : Str) : Nat := if p = Str.ofString "\n" then 1 else 0

/-- the lexer over a text: where it stands -/
structure Strm where
  w : World
  x : Addr
  dx : Addr
  l : Addr
  tks : Tok × Tok × Tok × Tok
  st : Addr
  tw : Tok
  dr : Addr
  gv : Addr
  fd : FuncData
  fg : FuncData
  sl : Array (Option Value)
  hsh : Int
  t : Tok
  SB : List (Addr × Obj)
  la : Addr
  text : Str
structure Strm.Ok (S : Strm) : Prop where
  len : S.text.length ≤ 1000
  mst : (S.st, (⟨.type "function", some S.dr, .func S.fd, S.sl⟩ : Obj)) ∈ S.SB
  mdr : (S.dr, dictOf [⟨S.hsh, .str (Str.ofString "read") S.t, .ref S.gv⟩] 1) ∈ S.SB
  mgv : (S.gv, (⟨.type "function", none, .func S.fg, #[]⟩ : Obj)) ∈ S.SB
  give : GiveCon S.w S.gv S.SB S.text S.la
/-- its objects: lineno ln, the place pos, the pushed back q -/
def Strm.os (S : Strm) (ln : Nat) (tl : Tok) (q : List Value) (n : Nat) (pos : Nat) (tp : Tok) (n' : Nat) : List (Addr × Obj) :=
  lexOs S.w S.x S.dx S.l S.tks (.int ln tl) (.ref S.st) (.str wsS S.tw) q n ++ (S.SB ++ [(S.la, listOf #[.int pos tp] n')])

theorem os_led {h₀ h : Heap} {L : Addr} {m : Str → Option Value} {w : World} {x dx l : Addr} {tks : Tok × Tok × Tok × Tok} {ln fp ws : Value} {q : List Value} {n : Nat} {SB rest : List (Addr × Obj)} {la : Addr} {o : Obj}
    (D : Led h₀ L m h ((l, listOf q.toArray n) :: (x, instObj 52 dx) :: (dx, dictOf (lexEs w tks ln fp ws (.ref l)) 4) :: (SB ++ (la, o) :: rest))) :
    Led h₀ L m h ((lexOs w x dx l tks ln fp ws q n ++ (SB ++ [(la, o)])) ++ rest) := by
  simpa only [lexOs, List.cons_append, List.nil_append, List.append_assoc] using D
theorem os_led' {h₀ h : Heap} {L : Addr} {m : Str → Option Value} {w : World} {x dx l : Addr} {tks : Tok × Tok × Tok × Tok} {ln fp ws : Value} {q : List Value} {n : Nat} {SB rest : List (Addr × Obj)} {la : Addr} {o : Obj}
    (D : Led h₀ L m h ((lexOs w x dx l tks ln fp ws q n ++ (SB ++ [(la, o)])) ++ rest)) :
    Led h₀ L m h ((l, listOf q.toArray n) :: (x, instObj 52 dx) :: (dx, dictOf (lexEs w tks ln fp ws (.ref l)) 4) :: (SB ++ (la, o) :: rest)) := by
  simpa only [lexOs, List.cons_append, List.nil_append, List.append_assoc] using D

/-- a contract of the code itself -/
def ConC (w : World) (f : Addr) (args : List Value) (need : List (Addr × Obj)) (dpn unn : Nat) (Out : Value → List (Addr × Obj) → Prop) : Prop :=
  ∀ {p : Program} {loose : List Str} {mean : ExcName → Option Value} {mg mb : Str → Option Value}
   {dp un : Nat} {gd : Option (List Code)} {cn : Str} {cs : Scope} {a : Addr} {ccd : Value} {cl : List (Str × Addr)} {outer : List Env} {A₀ : Around} {base h₀ : Heap} {L : Addr} {m : Str → Option Value} {s : Shared}
   {rest : List (Addr × Obj)} {R : Result → Shared → Prop},
   Below A₀ base outer h₀ → (hd.heap_1 w.params).In h₀ → Top p loose mean mg mb h₀ → cs.kind = .function →
   Led h₀ L m s.heap (need ++ rest) → dp + dpn < recursionLimit → un + unn < cLine →
   (∀ r made h' tk', Out r made → Led h₀ L m h' (made ++ rest) → R (.ok (.ret r)) { s with heap := h', toks := tk' }) →
   codeAny (model PySem.Challenge.rw_ph0055_01.row.prog w) (ktrTop dp un gd cn cs L a ccd cl outer) (.call (.ref f) ⟨args, []⟩) R s
theorem ConC.con {w : World} {f : Addr} {args : List Value} {need : List (Addr × Obj)} {dpn unn : Nat} {Out : Value → List (Addr × Obj) → Prop} (C : ConC w f args need dpn unn Out) : Con w f args need dpn unn Out := by
  intro p loose mean mg mb dp un gd cn cs a ccd cl outer A₀ base h₀ L m s rest Q E B X T hk D hd hu hret
  exact wpAny_call (C B X T hk D hd hu hret)
set_option maxHeartbeats 4000000 in
theorem readc_conC (S : Strm) (ok : S.Ok) (ln : Nat) (tl : Tok) (q : List Value) (n pos : Nat) (tp : Tok) (n' : Nat) (hp : pos ≤ S.text.length) :
    ConC S.w 35 [.ref S.x] (S.os ln tl q n pos tp n') 15 200 (fun r made => (∃ t, r = .str (pieceAt S.text pos) t) ∧ ∃ tl' tp', made = S.os (ln + nlOf (pieceAt S.text pos)) tl' q n (pos + (pieceAt S.text pos).length) tp' n') := by
  intro p loose mean mg mb dp un gd cn cs a ccd cl outer A₀ base h₀ L m s rest R B X T hk D hd hu hret
  obtain ⟨w, x, dx, l, tks, st, tw, dr, gv, fd, fg, sl, hsh, t, SB, la, text⟩ := S
  obtain ⟨hlen, mst, mdr, mgv, give⟩ := ok
  simp only [Strm.os] at *
  have F := D.fr
  have N := D.nw
  have nd := D.nd
  simp only [lexOs, List.cons_append, List.nil_append, List.append_assoc] at N nd
  revert X; k_fill; intro X
  k_dflt ktr_enter
  k_steps
  rename News _ _ _ _ => N9
  have inS : ∀ q, q ∈ SB → q ∈ SB ++ (la, listOf #[.int (pos : Int) tp] n') :: rest := fun q hq => List.mem_append_left _ hq
  refine getMethod_fn (News.get N9 (.tail _ (.tail _ (.tail _ (inS _ mst))))) (News.get N9 (.tail _ (.tail _ (.tail _ (inS _ mdr))))) (by rfl) ?_
  intro tk9
  k_dflt (refine' callWith_F (first := []) ?k1 ?_; (case k1 => exact FnAt.of N9 (.tail _ (.tail _ (.tail _ (inS _ mgv))))))
  k_steps
  · exact FnAt.of N9 (.tail _ (.tail _ (.tail _ (inS _ mgv))))
  rename Fr _ _ _ _ => F9
  rename Below _ _ _ _ => B9
  rename Frag.In _ _ => X9
  rename Top _ _ _ _ _ _ => T9
  have D9 := Led.of F9 N9 nd
  rw [show (l, listOf q.toArray n) :: (x, instObj 52 dx) :: (dx, dictOf (lexEs w tks (.int (ln : Int) tl) (.ref st) (.str wsS tw) (.ref l)) 4) :: (SB ++ (la, listOf #[.int (pos : Int) tp] n') :: rest)
      = [(l, listOf q.toArray n), (x, instObj 52 dx), (dx, dictOf (lexEs w tks (.int (ln : Int) tl) (.ref st) (.str wsS tw) (.ref l)) 4)] ++ ((SB ++ [(la, listOf #[.int (pos : Int) tp] n')]) ++ rest) by simp] at D9
  k_dflt (refine' give pos tp tk9 n' hp B9 X9 T9 ?K (Led.swap D9) ?d ?u ?_; (case K => exact rfl); (case d => ktr_room); (case u => (have hcL9 := cLine_is; (try dsimp only [ktrTop, Around.deeper, Around.in1]); omega)))
  rintro r made h' tk' ⟨⟨tr, rfl⟩, tp', rfl⟩ D'
  have D2 := Led.swap D'
  clear D' D9 F9 N9
  have F' := D2.fr
  have N' := D2.nw
  have nd' := D2.nd
  simp only [List.cons_append, List.nil_append, List.append_assoc] at N' nd'
  have nl := nd_head nd'
  have nx := nd_head (List.nodup_cons.mp nd').2
  have ndx := nd_head (List.nodup_cons.mp (List.nodup_cons.mp nd').2).2
  have e1 : @Ne Nat l dx := (nl _ (.tail _ (.head _))).symm
  have e2 : @Ne Nat x dx := (nx _ (.head _)).symm
  k_steps
  all_goals (rename Fr _ _ _ _ => F9; rename News _ _ _ _ => N9)
  · have hc : pieceAt text pos = Str.ofString "\n" := by simpa using (by assumption : (pieceAt text pos == Str.ofString "\n") = true)
    have D9 : Led h₀ L m _ ((lexOs w x dx l tks _ _ _ q n ++ (SB ++ [(la, _)])) ++ rest) := os_led (Led.of F9 N9 nd')
    rw [show nlOf (pieceAt text pos) = 1 by rw [nlOf, if_pos hc]] at hret
    exact hret _ _ _ _ ⟨⟨_, rfl⟩, _, _, rfl⟩ D9
  · have hc : pieceAt text pos ≠ Str.ofString "\n" := by simpa using (by assumption : (pieceAt text pos == Str.ofString "\n") = false)
    have D9 : Led h₀ L m _ ((lexOs w x dx l tks _ _ _ q n ++ (SB ++ [(la, _)])) ++ rest) := os_led (Led.of F9 N9 nd')
    rw [show nlOf (pieceAt text pos) = 0 by rw [nlOf, if_neg hc]] at hret
    exact hret _ _ _ _ ⟨⟨_, rfl⟩, _, _, rfl⟩ D9
theorem readc_con (S : Strm) (ok : S.Ok) (ln : Nat) (tl : Tok) (q : List Value) (n pos : Nat) (tp : Tok) (n' : Nat) (hp : pos ≤ S.text.length) :
    Con S.w 35 [.ref S.x] (S.os ln tl q n pos tp n') 15 200 (fun r made => (∃ t, r = .str (pieceAt S.text pos) t) ∧ ∃ tl' tp', made = S.os (ln + nlOf (pieceAt S.text pos)) tl' q n (pos + (pieceAt S.text pos).length) tp' n') := by
  intro p loose mean mg mb dp un gd cn cs a ccd cl outer A₀ base h₀ L m s rest Q E B X T hk D hd hu hret
  exact wpAny_call (readc_conC S ok ln tl q n pos tp n' hp B X T hk D hd hu hret)
end Mine
end

section
theorem Mine.startPhI : True := by
  w_top off
  trivial
open PySem PySem.W PyProof.Rows PySem.Calls
set_option maxRecDepth 100000
set_option linter.unusedVariables false
namespace Mine
/-- iter(f, '') -/
abbrev citObj (f s b : Value) : Obj := { cls := .type "callable_iterator", data := .fields #[f, s, b] }
theorem slot_cit_next : Slot "callable_iterator" "__next__" "callable_iterator.__next__" :=
  .of (owner := "callable_iterator") (n := "__next__") (by rw [typeLookup_type, builtinLookup_eq_fast]; kernel_rfl) (by decide +kernel) (by decide +kernel) (by decide +kernel)
    (by first | exact .inl (by decide +kernel) | exact .inr (by decide +kernel)) (by rw [isSubtype_type]; kernel_rfl)
theorem slot_cit_iter : Slot "callable_iterator" "__iter__" "callable_iterator.__iter__" :=
  .of (owner := "callable_iterator") (n := "__iter__") (by rw [typeLookup_type, builtinLookup_eq_fast]; kernel_rfl) (by decide +kernel) (by decide +kernel) (by decide +kernel)
    (by first | exact .inl (by decide +kernel) | exact .inr (by decide +kernel)) (by rw [isSubtype_type]; kernel_rfl)
theorem entry_cit_next : entryFor table "callable_iterator.__next__" = some Builtin.«callable_iterator.__next__» := entryFor_of_fast (by kernel_rfl)
theorem entry_cit_iter : entryFor table "callable_iterator.__iter__" = some Builtin.«dict_keyiterator.__iter__» :=
  entryFor_alias (id' := "dict_keyiterator.__iter__") (by kernel_rfl) rfl (by decide +kernel) (by kernel_rfl)
theorem args_cit_next (a : Value) : argsOk "callable_iterator.__next__" ⟨[a], []⟩ := by unfold argsOk; kernel_rfl
theorem args_cit_iter (a : Value) : argsOk "callable_iterator.__iter__" ⟨[a], []⟩ := by unfold argsOk; kernel_rfl
theorem args_iter2 (a b : Value) : argsOk "iter" ⟨[a, b], []⟩ := by unfold argsOk; kernel_rfl
theorem meth_call : typeLookup (.type "method") (Str.ofString "__call__") = pure (some (.builtin "method.__call__")) := by
  rw [typeLookup_type, builtinLookup_eq_fast]; kernel_rfl
section
variable {prog : Program} {w : World} {A : Around} {E : Value → Shared → Prop} {s : Shared} {h₀ : Heap} {L : Addr} {m : Str → Option Value} {news : List (Addr × Obj)}
theorem wpAny_callBorrowed {f : Value} {pos : List Value} {Q : Value → Shared → Prop}
    (hc : codeAny (model prog w) A (.call f ⟨pos, []⟩) (fun r s' => match r with | .ok (.ret v) => Q v s' | .ok _ => False | .error e => E e s') s) : wpAny (model prog w) A (callBorrowed f pos) Q E s :=
  fun Γ p hΓ => by
    unfold callBorrowed
    rw [Sem.wp_call]
    have h2 := hc _ p rfl (hΓ.enter (.call f ⟨pos, []⟩) none p (by intro x; cases x))
    refine cast ?_ h2
    congr 1; funext r s'
    cases r with
    | error e => rfl
    | ok f => cases f <;> rfl
theorem iter_two {q : Addr} {f self sent : Value} {Q : Value → Shared → Prop} (F : Fr h₀ L s.heap m := by k_asm) (N : News h₀ L s.heap news := by k_asm) (hq : (q, methodObj f self) ∈ news := by k_mem)
    (h : ∀ I h', Fr h₀ L h' m → News h₀ L h' ((I, citObj (.ref q) sent (.bool false)) :: news) → (∀ p ∈ news, p.1 < I) → Q (.ref I) { s with heap := h' }) :
    wpAny (model prog w) A (call (.builtin "iter") [.ref q, sent]) Q E s := by
  have hT : s.TypeIs (.ref q) "method" := ⟨_, (N _ hq).1, rfl⟩
  refine call_function_entry (by decide +kernel) (by decide +kernel) kdk_entry_iter (args_iter2 _ _) ?_
  unfold Builtin.«iter»
  refine wpAny_bind (m := someArgs "iter" 1 2 _) (wpAny_of_eq (a := [Value.ref q, sent]) (by first | rfl | kernel_rfl!) ?_)
  dsimp only
  refine wpAny_bind (wpAny_specialOf (name := Str.ofString "__call__") hT meth_call ?_)
  refine wpAny_ite_split (fun hab => absurd hab (by simp)) (fun _ => ?_)
  refine wpAny_bind (wpAny_rule (wpAny_bind (m := newFields _ _) (wpAny_newObj_type ?_ (by size_fits))))
  exact wpAny_pure ⟨_, rfl, h _ _ (F.push _) (News.push F N _ rfl) (fun q hq => Heap.lt_size (N q hq).1)⟩
theorem pyIter_cit {I : Addr} {a b c : Value} {Q : Value → Shared → Prop} (ho : s.heap.get? I = some (citObj a b c)) (h : Q (.ref I) s) : wpAny (model prog w) A (pyIter (.ref I)) Q E s := by
  have hT : s.TypeIs (.ref I) "callable_iterator" := ⟨_, ho, rfl⟩
  refine wpAny_pyIter_slot hT slot_cit_iter (wpAny_call_entry slot_cit_iter hT entry_cit_iter ?_ (args_cit_iter _))
  show wpAny _ _ (ret (.ref I)) _ _ s
  exact wpAny_pure ⟨_, rfl, "callable_iterator", _, hT, slot_cit_next.lookup, h⟩
theorem borrows_meth {q g : Addr} {self : Value} {fo : Obj} {fd : FuncData} {Q : Bool → Shared → Prop} (ho : s.heap.get? q = some (methodObj (.ref g) self)) (hg : s.heap.get? g = some fo) (hf : fo.data = .func fd) (h : Q true s) :
    wpAny (model prog w) A (borrowsExactly (.ref q)) Q E s := by
  unfold borrowsExactly
  refine wpAny_bind (wpAny_load ho ?_)
  dsimp only
  rw [if_pos (by decide)]
  show wpAny _ _ (load g >>= _) _ _ _
  refine wpAny_bind (wpAny_load hg ?_)
  rw [hf]
  exact wpAny_pure h
end
end Mine
end

section
theorem Mine.startPhJ : True := by
  w_top off
  trivial
open PySem PySem.W PyProof.Rows PySem.Calls
set_option maxRecDepth 100000
set_option linter.unusedVariables false
namespace Mine
/-- the lines up to a place -/
def lnAt (text : Str) (pos : Nat) : Nat := 1 + (text.cps.toList.take pos).count 10
def chS (c : Nat) : Str := ⟨#[c]⟩
def emS : Str := ⟨#[]⟩
def Strm.cs (S : Strm) : List Nat := S.text.cps.toList
theorem Strm.cs_len (S : Strm) : S.cs.length = S.text.length := by simp [Strm.cs, Str.length]
def Strm.at (S : Strm) (tl : Tok) (q : List Value) (n pos : Nat) (tp : Tok) (n' : Nat) : List (Addr × Obj) := S.os (lnAt S.text pos) tl q n pos tp n'

theorem piece_lt {text : Str} {pos c : Nat} (h : text.cps.toList[pos]? = some c) : pieceAt text pos = chS c ∧ lnAt text (pos + 1) = lnAt text pos + nlOf (chS c) := by
  have hlt : pos < text.cps.toList.length := (List.getElem?_eq_some_iff.mp h).1
  have hd : text.cps.toList.drop pos = c :: text.cps.toList.drop (pos + 1) := by
    rw [List.drop_eq_getElem_cons hlt]
    congr 1
    exact (List.getElem?_eq_some_iff.mp h).2
  constructor
  · rw [pieceAt, hd]; rfl
  · rw [lnAt, lnAt, List.take_add_one, h]
    simp only [Option.toList, List.count_append, List.count_singleton, nlOf]
    have : chS c = Str.ofString "\n" ↔ c = 10 := by
      constructor
      · intro e
        have e2 : (chS c).cps = (Str.ofString "\n").cps := congrArg _ e
        have e3 : (Str.ofString "\n").cps = #[10] := by decide +kernel
        rw [e3] at e2
        simpa [chS] using e2
      · rintro rfl; decide +kernel
    by_cases e : c = 10
    · rw [if_pos (this.mpr e)]; subst e; simp; omega
    · rw [if_neg fun x => e (this.mp x)]; simp [e]
theorem piece_end {text : Str} : pieceAt text text.length = emS := by
  rw [pieceAt, List.drop_eq_nil_of_le (by simp [Str.length])]; rfl
theorem em_is : Str.ofString "" = emS := by decide +kernel
theorem ch_ne (c : Nat) : (Str.ofString "" == chS c) = false := by
  rw [em_is]
  have : emS ≠ chS c := fun e => by have := congrArg (fun x => x.cps.size) e; simp [emS, chS] at this
  simpa using this

section
variable {A₀ : Around} {E : Value → Shared → Prop} {s : Shared} {h₀ base : Heap} {L : Addr} {m : Str → Option Value} {p : Program} {loose : List Str} {mean : ExcName → Option Value} {mg mb : Str → Option Value}
   {dp un : Nat} {gd : Option (List Code)} {cn : Str} {cs : Scope} {a : Addr} {ccd : Value} {cl : List (Str × Addr)} {outer : List Env} {rest : List (Addr × Obj)}
/-- the reader itself -/
theorem readAt (S : Strm) (ok : S.Ok) (tl : Tok) (q : List Value) (n pos : Nat) (tp : Tok) (n' : Nat) {c : Nat} (hc : S.cs[pos]? = some c) :
    ConC S.w 35 [.ref S.x] (S.at tl q n pos tp n') 15 200 (fun r made => (∃ t, r = .str (chS c) t) ∧ ∃ tl' tp', made = S.at tl' q n (pos + 1) tp' n') := by
  intro p loose mean mg mb dp un gd cn cs a ccd cl outer A₀ base h₀ L m s rest R B X T hk D hd hu hret
  obtain ⟨e1, e2⟩ := piece_lt hc
  have hlt : pos < S.text.length := by rw [← S.cs_len]; exact (List.getElem?_eq_some_iff.mp hc).1
  refine readc_conC S ok _ tl q n pos tp n' (Nat.le_of_lt hlt) B X T hk D hd hu ?_
  rintro r made h' tk' ⟨⟨t, rfl⟩, tl', tp', rfl⟩ D'
  rw [e1] at D' ⊢
  refine hret _ _ _ _ ⟨⟨t, rfl⟩, tl', tp', rfl⟩ ?_
  rw [Strm.at, e2]
  exact D'
theorem readEnd (S : Strm) (ok : S.Ok) (tl : Tok) (q : List Value) (n : Nat) (tp : Tok) (n' : Nat) :
    ConC S.w 35 [.ref S.x] (S.at tl q n S.text.length tp n') 15 200 (fun r made => (∃ t, r = .str (Str.ofString "") t) ∧ ∃ tl' tp', made = S.at tl' q n S.text.length tp' n') := by
  intro p loose mean mg mb dp un gd cn cs a ccd cl outer A₀ base h₀ L m s rest R B X T hk D hd hu hret
  refine readc_conC S ok _ tl q n S.text.length tp n' (Nat.le_refl _) B X T hk D hd hu ?_
  rintro r made h' tk' ⟨⟨t, rfl⟩, tl', tp', rfl⟩ D'
  rw [piece_end] at D' ⊢
  refine hret _ _ _ _ ⟨⟨t, by rw [em_is]⟩, tl', tp', rfl⟩ ?_
  have : nlOf emS = 0 := by decide +kernel
  rw [this] at D'
  exact D'

theorem fn35 {w : World} {h : Heap} (X : (hd.heap_1 w.params).In h) : ∃ fo fd, h.get? 35 = some fo ∧ fo.data = .func fd := by
  have hf : fnIn (hd.heap_1 w.params) 35 = true := by kernel_rfl
  unfold fnIn at hf
  split at hf
  · rename_i e; exact ⟨_, _, X _ _ e, rfl⟩
  · cases hf
end
end Mine
end

section
theorem Mine.startPhK : True := by
  w_top off
  trivial
open PySem PySem.W PyProof.Rows PySem.Calls
set_option maxRecDepth 100000
set_option linter.unusedVariables false
namespace Mine
section
variable {A₀ : Around} {E : Value → Shared → Prop} {s : Shared} {h₀ base : Heap} {L : Addr} {m : Str → Option Value} {p : Program} {loose : List Str} {mean : ExcName → Option Value} {mg mb : Str → Option Value}
   {dp un : Nat} {gd : Option (List Code)} {cn : Str} {cs : Scope} {a : Addr} {ccd : Value} {cl : List (Str × Addr)} {outer : List Env} {rest : List (Addr × Obj)}

theorem cit_next (S : Strm) (ok : S.Ok) {tl : Tok} {q : List Value} {n pos : Nat} {tp : Tok} {n' : Nat} {c : Nat} {I mq : Addr} {sent : Tok} {Q : Option Value → Shared → Prop} (hc : S.cs[pos]? = some c)
    (B : Below A₀ base outer h₀) (X : (hd.heap_1 S.w.params).In h₀) (T : Top p loose mean mg mb h₀) (hk : cs.kind = .function) (D : Led h₀ L m s.heap (S.at tl q n pos tp n' ++ rest))
    (hI : (I, citObj (.ref mq) (.str (Str.ofString "") sent) (.bool false)) ∈ rest) (hm : (mq, methodObj (.ref 35) (.ref S.x)) ∈ rest) (hd : dp + 15 < recursionLimit) (hu : un + 201 < cLine)
    (hQ : ∀ t tl' tp' h' tk, Led h₀ L m h' (S.at tl' q n (pos + 1) tp' n' ++ rest) → Q (some (.str (chS c) t)) { s with heap := h', toks := tk }) :
    wpAny (model PySem.Challenge.rw_ph0055_01.row.prog S.w) (ktrTop dp un gd cn cs L a ccd cl outer) (pyNext (.ref I)) Q E s := by
  have inR : ∀ {X : List (Addr × Obj)} {q : Addr × Obj}, q ∈ rest → q ∈ X ++ rest := fun h => List.mem_append_right _ h
  have ho := (D.nw _ (inR hI)).1
  have hmo := (D.nw _ (inR hm)).1
  have hT : s.TypeIs (.ref I) "callable_iterator" := ⟨_, ho, rfl⟩
  obtain ⟨fo, fd, hfo, hfd⟩ := fn35 (X.keeps D.fr.keep)
  unfold pyNext
  refine wpAny_bind (wpAny_attempt (wpAny_callSpecial?_slot (name := Str.ofString "__next__") hT slot_cit_next (wpAny_call_entry slot_cit_next hT entry_cit_next ?_ (args_cit_next _))))
  unfold Builtin.«callable_iterator.__next__»
  refine wpAny_bind (wpAny_pure ?_)
  refine wpAny_bind (wpAny_field ho rfl (x := .bool false) rfl ?_)
  rw [if_neg (by decide)]
  refine wpAny_bind (wpAny_field ho rfl (x := .ref mq) rfl ?_)
  refine wpAny_bind (wpAny_attempt ?_)
  unfold callOutOfASlot
  refine wpAny_bind (borrows_meth hmo hfo hfd ?_)
  rw [if_pos rfl]
  refine wpAny_callBorrowed (method_call hmo ?_)
  refine readAt S ok tl q n pos tp n' hc (dp := dp) (un := un + 1) B X T hk D (by omega) (by omega) ?_
  rintro r made h' tk' ⟨⟨t, rfl⟩, tl', tp', rfl⟩ D'
  have ho' := (D'.nw _ (inR hI)).1
  refine wpAny_bind (wpAny_field ho' rfl (x := .bool false) rfl ?_)
  rw [if_neg (by decide)]
  refine wpAny_bind (wpAny_field ho' rfl (x := .str (Str.ofString "") sent) rfl ?_)
  refine wpAny_bind (wpAny_holding (eqBool_str ?_))
  rw [ch_ne, if_pos (by rfl)]
  exact wpAny_pure ⟨_, rfl, wpAny_pure (hQ t tl' tp' _ _ D')⟩

theorem Led.keep1 {h₀ h h' : Heap} {L : Addr} {m : Str → Option Value} {news : List (Addr × Obj)} {I : Addr} (D : Led h₀ L m h news) (hL : I ≠ L) (h0 : h₀.get? I = none) (hn : ∀ p ∈ news, p.1 ≠ I) (he : Heap.ExtBut I h h') : Led h₀ L m h' news :=
  ⟨⟨D.fr.ns.at' fun o e => he _ o (fun x => hL x.symm) e, fun b o e => he b o (fun x => by subst x; rw [h0] at e; cases e) (D.fr.keep b o e), D.fr.above⟩, fun p hp => ⟨he _ _ (hn p hp) (D.nw p hp).1, (D.nw p hp).2⟩, D.nd⟩

theorem cit_end (S : Strm) (ok : S.Ok) {tl : Tok} {q : List Value} {n : Nat} {tp : Tok} {n' : Nat} {I mq : Addr} {sent : Tok} {Q : Option Value → Shared → Prop}
    (B : Below A₀ base outer h₀) (X : (hd.heap_1 S.w.params).In h₀) (T : Top p loose mean mg mb h₀) (hk : cs.kind = .function) (D : Led h₀ L m s.heap (S.at tl q n S.text.length tp n' ++ (I, citObj (.ref mq) (.str (Str.ofString "") sent) (.bool false)) :: rest))
    (hm : (mq, methodObj (.ref 35) (.ref S.x)) ∈ rest) (hd : dp + 15 < recursionLimit) (hu : un + 201 < cLine)
    (hQ : ∀ tl' tp' h' tk, Led h₀ L m h' (S.at tl' q n S.text.length tp' n' ++ rest) → Q none { s with heap := h', toks := tk }) :
    wpAny (model PySem.Challenge.rw_ph0055_01.row.prog S.w) (ktrTop dp un gd cn cs L a ccd cl outer) (pyNext (.ref I)) Q E s := by
  have inR : ∀ {X : List (Addr × Obj)} {q y : Addr × Obj}, q ∈ rest → q ∈ X ++ y :: rest := fun h => List.mem_append_right _ (.tail _ h)
  have inI : ∀ {X : List (Addr × Obj)} {y : Addr × Obj}, y ∈ X ++ y :: rest := List.mem_append_right _ (.head _)
  have ho := (D.nw _ inI).1
  have hmo := (D.nw _ (inR hm)).1
  have hT : s.TypeIs (.ref I) "callable_iterator" := ⟨_, ho, rfl⟩
  obtain ⟨fo, fd, hfo, hfd⟩ := fn35 (X.keeps D.fr.keep)
  unfold pyNext
  refine wpAny_bind (wpAny_attempt (wpAny_callSpecial?_slot (name := Str.ofString "__next__") hT slot_cit_next (wpAny_call_entry slot_cit_next hT entry_cit_next ?_ (args_cit_next _))))
  unfold Builtin.«callable_iterator.__next__»
  refine wpAny_bind (wpAny_pure ?_)
  refine wpAny_bind (wpAny_field ho rfl (x := .bool false) rfl ?_)
  rw [if_neg (by decide)]
  refine wpAny_bind (wpAny_field ho rfl (x := .ref mq) rfl ?_)
  refine wpAny_bind (wpAny_attempt ?_)
  unfold callOutOfASlot
  refine wpAny_bind (borrows_meth hmo hfo hfd ?_)
  rw [if_pos rfl]
  refine wpAny_callBorrowed (method_call hmo ?_)
  refine readEnd S ok tl q n tp n' (dp := dp) (un := un + 1) B X T hk D (by omega) (by omega) ?_
  rintro r made h' tk' ⟨⟨t, rfl⟩, tl', tp', rfl⟩ D'
  have ho' := (D'.nw _ inI).1
  have hmo' := (D'.nw _ (inR hm)).1
  obtain ⟨fo', fd', hfo', hfd'⟩ := fn35 (X.keeps D'.fr.keep)
  refine wpAny_bind (wpAny_field ho' rfl (x := .bool false) rfl ?_)
  rw [if_neg (by decide)]
  refine wpAny_bind (wpAny_field ho' rfl (x := .str (Str.ofString "") sent) rfl ?_)
  refine wpAny_bind (wpAny_holding (eqBool_str ?_))
  rw [if_neg (by simp)]
  refine wpAny_bind (wpAny_rule ?_)
  refine wpAny_bind ?_
  show wpAny _ _ (field (.ref I) 0 >>= _) _ _ _
  refine wpAny_bind (wpAny_field ho' rfl (x := .ref mq) rfl ?_)
  refine wpAny_bind ?_
  unfold slotLetsGo
  refine wpAny_bind (borrows_meth hmo' hfo' hfd' ?_)
  rw [if_pos rfl]
  refine wpAny_pure ?_
  refine wpAny_bind (wpAny_setField_rec ho' (by simp) fun h1 g1 s1 => ?_)
  refine wpAny_bind (wpAny_setField_rec g1 (by simp) fun h2 g2 s2 => ?_)
  refine wpAny_setField_rec g2 (by simp) fun h3 g3 s3 => ?_
  show wpAny _ _ (newExc (.type "StopIteration") [] >>= _) _ _ _
  refine wpAny_bind ?_
  simp only [newExc, newTuple]
  refine wpAny_bind (wpAny_newObj_type ?_ (by size_fits))
  refine wpAny_bind (m := firstArgMember _ _) (wpAny_of_eq (a := Value.none) (by first | rfl | (simp only [firstArgMember]; rfl)) ?_)
  refine wpAny_newObj_type ?_ (by size_fits)
  simp only [raiseNew]
  refine wpAny_bind (wpAny_handled ?_)
  refine wpAny_bind (wpAny_pure (wpAny_throw ?_))
  refine wpAny_bind (wpAny_isInstance (T := "StopIteration") (b := true) ⟨_, Heap.get?_push_size _ rfl, rfl⟩ isSubtype_stop ?_)
  refine wpAny_pure (hQ tl' tp' _ _ ?_)
  have nd' : ((I, citObj (.ref mq) (.str (Str.ofString "") sent) (.bool false)) :: (S.at tl' q n S.text.length tp' n' ++ rest)).Perm (S.at tl' q n S.text.length tp' n' ++ (I, citObj (.ref mq) (.str (Str.ofString "") sent) (.bool false)) :: rest) := List.perm_middle.symm
  have D2 := D'.perm nd'
  have hne := nd_head D2.nd
  have hI := D2.nw _ (.head _)
  have D3 : Led h₀ L m h' (S.at tl' q n S.text.length tp' n' ++ rest) := D2.sub (List.sublist_cons_self _ _)
  have D4 := D3.keep1 hI.2.1 hI.2.2 hne s1.extBut
  have D5 := D4.keep1 hI.2.1 hI.2.2 hne s2.extBut
  have D6 := D5.keep1 hI.2.1 hI.2.2 hne s3.extBut
  exact (D6.push _).push _
end
end Mine
end

section
theorem Mine.startPhM : True := by
  w_top off
  trivial
open PySem PySem.W PyProof.Rows PySem.Calls
set_option maxRecDepth 100000
set_option linter.unusedVariables false
namespace Mine
/-- the head of a for over iter(f, sentinel) -/
def ForSrcC (prog : Program) (w : World) (A : Around) (env : Env) (x : Str) (px : Pos) (body : List Stmt) (Q : Flow → Shared → Prop) (E : Value → Shared → Prop) (xv : Value) (s₁ : Shared) : Prop :=
  wpAny (model prog w) A (pyIter xv) (fun it s₂ => codeAny (model prog w) A (.forLoop (.Name x px) it body [] env) (fun r s' => match r with | .ok f => Q f s' | .error e => cameBackBy (model prog w) A env E e s') s₂) E s₁
theorem for_srcC {prog : Program} {w : World} {A : Around} {env : Env} {x : Str} {body : List Stmt} {Q : Flow → Shared → Prop} {E : Value → Shared → Prop} {h₀ : Heap} {s : Shared} {px pos : Pos} {iter : Expr} {m : Str → Option Value} (_F : Fr h₀ env.locals s.heap m)
    (h : wpAny (model prog w) A (eval iter env) (fun xv s₁ => ForSrcC prog w A env x px body Q E xv s₁) E s)
    (hs : ∀ x, foldedSetIterable iter env x = pure x := by intro _; rfl) :
    wpAny (model prog w) A (exec (.For (.Name x px) iter body [] pos) env) Q E s := wpAny_For h hs

/-- how a turn ends -/
def TurnC (S : Strm) (h₀ : Heap) (L : Addr) (P : Nat → (Str → Option Value) → Prop) (rest : List (Addr × Obj)) (q : List Value) (n n' pos : Nat) (s₁ : Shared) (Q : Flow → Shared → Prop) (f : Flow) (s' : Shared) : Prop :=
  match f with
  | .ret v => Q (.ret v) s'
  | .brk => Q .next s'
  | _ => ∃ pos' m₂ h' tk' tl' tp', s' = { s₁ with heap := h', toks := tk' } ∧ pos < pos' ∧ P pos' m₂ ∧ Led h₀ L m₂ h' (S.at tl' q n pos' tp' n' ++ rest)

section
variable {A₀ : Around} {E : Value → Shared → Prop} {s : Shared} {h₀ base : Heap} {m : Str → Option Value} {p : Program} {loose : List Str} {mean : ExcName → Option Value} {mg mb : Str → Option Value}
   {dp un : Nat} {gd : Option (List Code)} {cn : Str} {cs : Scope} {L a : Addr} {ccd : Value} {cl : List (Str × Addr)} {outer : List Env} {rest : List (Addr × Obj)}
theorem for_cit (S : Strm) (ok : S.Ok) {tl : Tok} {q : List Value} {n pos : Nat} {tp : Tok} {n' : Nat} {I mq : Addr} {sent : Tok} {Q : Flow → Shared → Prop} {x : Str} {px : Pos} {body : List Stmt} {env : Env} (hL : env.locals = L) (hx : env.kindOf x = some .local)
    (hp : (env.scope.kind == .class || (env.scope.kind == .module && env.locals != env.globals)) = false)
    (B : Below A₀ base outer h₀) (X : (hd.heap_1 S.w.params).In h₀) (T : Top p loose mean mg mb h₀) (hk : cs.kind = .function) (D : Led h₀ L m s.heap (S.at tl q n pos tp n' ++ (I, citObj (.ref mq) (.str (Str.ofString "") sent) (.bool false)) :: rest))
    (hm : (mq, methodObj (.ref 35) (.ref S.x)) ∈ rest) (hd : dp + 15 < recursionLimit) (hu : un + 201 < cLine)
    (P : Nat → (Str → Option Value) → Prop) (hP : ∀ pos m, P pos m → pos ≤ S.text.length) (h0 : P pos m)
    (step : ∀ pos c m₁ t tl tp h tk, ∀ qT : Flow → Shared → Prop, (∀ f s', TurnC S h₀ L P ((I, citObj (.ref mq) (.str (Str.ofString "") sent) (.bool false)) :: rest) q n n' pos s Q f s' → qT f s') → P pos m₁ → S.cs[pos]? = some c → Led h₀ L (fun y => if y = x then some (.str (chS c) t) else m₁ y) h (S.at tl q n (pos + 1) tp n' ++ (I, citObj (.ref mq) (.str (Str.ofString "") sent) (.bool false)) :: rest) →
      wpAny (model PySem.Challenge.rw_ph0055_01.row.prog S.w) (ktrTop dp un gd cn cs L a ccd cl outer) (execs body env)
        qT E { s with heap := h, toks := tk })
    (done : ∀ m₁ h tk tl tp, P S.text.length m₁ → Led h₀ L m₁ h (S.at tl q n S.text.length tp n' ++ rest) → Q .next { s with heap := h, toks := tk })
    (hE : PassesOwn (model PySem.Challenge.rw_ph0055_01.row.prog S.w) (ktrTop dp un gd cn cs L a ccd cl outer) env E := by passes_own) :
    ForSrcC PySem.Challenge.rw_ph0055_01.row.prog S.w (ktrTop dp un gd cn cs L a ccd cl outer) env x px body Q E (.ref I) s := by
  subst hL
  refine pyIter_cit (D.nw _ (List.mem_append_right _ (.head _))).1 ?_
  refine codeAny_forLoop (fun k s' => ∃ pos m₁ h tk tl tp, s' = { s with heap := h, toks := tk } ∧ P pos m₁ ∧ k = S.text.length + 1 - pos ∧ Led h₀ env.locals m₁ h (S.at tl q n pos tp n' ++ (I, citObj (.ref mq) (.str (Str.ofString "") sent) (.bool false)) :: rest)) ?_ (S.text.length + 1 - pos) ⟨pos, m, s.heap, s.toks, tl, tp, rfl, h0, rfl, D⟩
  rintro k s' ⟨pos, m₁, h, tk, tl, tp, rfl, hPp, rfl, D₁⟩
  have hle := hP _ _ hPp
  cases hc : S.cs[pos]? with
  | none =>
    have e : pos = S.text.length := by
      have := List.getElem?_eq_none_iff.mp hc
      rw [S.cs_len] at this
      omega
    subst e
    refine cit_end S ok B X T hk D₁ hm hd hu ?_
    intro tl' tp' h' tk' D'
    exact wpAny_execs_nil (done _ _ _ _ _ hPp D')
  | some c =>
    have hlt : pos < S.text.length := by rw [← S.cs_len]; exact (List.getElem?_eq_some_iff.mp hc).1
    refine cit_next S ok hc B X T hk D₁ (.head _) (.tail _ hm) hd hu ?_
    intro t tl' tp' h' tk' D'
    refine wpAny_assign_Name (wpAny_storeName_local hx D'.fr.ns (fun h₂ hn₂ hs₂ => ?_) hp)
    have D₂ : Led h₀ env.locals (fun y => if y = x then some (.str (chS c) t) else m₁ y) h₂ _ := ⟨D'.fr.set hn₂ hs₂, D'.nw.set hs₂, D'.nd⟩
    refine wpAny_passesOwn hE (wpAny_mono (step pos c m₁ t tl' tp' h₂ _ _ (fun _ _ x => x) hPp hc D₂) (fun f s₃ h₃ => ?_) fun _ _ e => e)
    cases f with
    | ret v => exact h₃
    | brk => exact h₃
    | cont =>
      obtain ⟨pos', m₂, h', tk', tl', tp', rfl, hlt', hP', D₃⟩ := h₃
      exact ⟨_, by omega, pos', m₂, h', tk', tl', tp', rfl, hP', rfl, D₃⟩
    | next =>
      obtain ⟨pos', m₂, h', tk', tl', tp', rfl, hlt', hP', D₃⟩ := h₃
      exact ⟨_, by omega, pos', m₂, h', tk', tl', tp', rfl, hP', rfl, D₃⟩
end
end Mine
end

section
theorem Mine.startPhN : True := by
  w_top off
  trivial
open PySem PySem.W PyProof.Rows
set_option maxRecDepth 100000
set_option linter.unusedVariables false
namespace Mine
local macro_rules | `(tactic| k_room) => `(tactic| ktr_room)
local macro_rules | `(tactic| ke_room) => `(tactic| (have hcL9 := cLine_is; (try dsimp only [ktrTop, Around.deeper, Around.in1]); omega))
local macro_rules | `(tactic| tb_start) => `(tactic| first | assumption | exact nd_new (by assumption) (by tb_start))
local macro_rules | `(tactic| ktr_units) => `(tactic| (have hcL9 := cLine_is; (try dsimp only [ktrTop, Around.deeper, Around.in1]); omega))
local macro_rules | `(tactic| walk_at "exec For Name Name cons nil") => `(tactic| ((rename Fr _ _ _ _ => lF'); k_dflt (refine for_srcC lF' ?_)))
local macro_rules | `(tactic| walk_at "call builtin:iter") => `(tactic| (k_dflt (refine' iter_two (h := ?_)); intro I' h' F' N' l1; k_lt l1))

def Wait (P : Prop) : Prop := P
theorem wait {P : Prop} (h : Wait P) : P := h
local macro_rules | `(tactic| walk_at "call ref") => `(tactic| refine wait ?_)
structure IfMark : Prop
local macro_rules | `(tactic| walk_at "exec If Compare") => `(tactic| ((rename IfMark => hMk9); (with_reducible show wpAny _ _ (exec (Stmt.If _ [Stmt.Assign _ _ _] [] _) _) _ _ _); refine wait ?_))
/-- the reader in plain words: blanks, quotes, backslashes -/
def isB (c : Nat) : Bool := c = 10 || c = 9 || c = 13 || c = 32
def qtok : List Nat → Option (List Nat × List Nat)
  | [] => none
  | c :: r => if c = 34 then some ([], r) else if c = 92 then (match r with | [] => none | d :: r' => (qtok r').map fun x => (d :: x.1, x.2)) else (qtok r).map fun x => (c :: x.1, x.2)
def btok : List Nat → Option (List Nat × List Nat)
  | [] => none
  | c :: r => if isB c then some ([], r) else if c = 92 then (match r with | [] => none | d :: r' => (btok r').map fun x => (d :: x.1, x.2)) else (btok r).map fun x => (c :: x.1, x.2)
def tok : List Nat → Option (List Nat × List Nat)
  | [] => some ([], [])
  | c :: r => if isB c then tok r else if c = 34 then qtok r else btok (c :: r)
def strL (l : List Nat) : Str := ⟨l.toArray⟩

theorem at_flat (S : Strm) (tl : Tok) (q : List Value) (n pos : Nat) (tp : Tok) (n' : Nat) (R : List (Addr × Obj)) :
    S.at tl q n pos tp n' ++ R = (S.l, listOf q.toArray n) :: (S.x, instObj 52 S.dx) :: (S.dx, dictOf (lexEs S.w S.tks (.int (lnAt S.text pos : Nat) tl) (.ref S.st) (.str wsS S.tw) (.ref S.l)) 4) :: (S.SB ++ (S.la, listOf #[.int (pos : Nat) tp] n') :: R) := by
  simp only [Strm.at, Strm.os, lexOs, List.cons_append, List.nil_append, List.append_assoc]
theorem TurnC.cont {S : Strm} {h₀ h' : Heap} {L : Addr} {P : Nat → (Str → Option Value) → Prop} {rest : List (Addr × Obj)} {q : List Value} {n n' pos pos' : Nat} {s₁ : Shared} {Q : Flow → Shared → Prop} {m₂ : Str → Option Value} {tk' : Nat} {tl' tp' : Tok}
    (hlt : pos < pos') (hP : P pos' m₂) (D : Led h₀ L m₂ h' (S.at tl' q n pos' tp' n' ++ rest)) : TurnC S h₀ L P rest q n n' pos s₁ Q .cont { s₁ with heap := h', toks := tk' } :=
  ⟨pos', m₂, h', tk', tl', tp', rfl, hlt, hP, D⟩
theorem TurnC.next {S : Strm} {h₀ h' : Heap} {L : Addr} {P : Nat → (Str → Option Value) → Prop} {rest : List (Addr × Obj)} {q : List Value} {n n' pos pos' : Nat} {s₁ : Shared} {Q : Flow → Shared → Prop} {m₂ : Str → Option Value} {tk' : Nat} {tl' tp' : Tok}
    (hlt : pos < pos') (hP : P pos' m₂) (D : Led h₀ L m₂ h' (S.at tl' q n pos' tp' n' ++ rest)) : TurnC S h₀ L P rest q n n' pos s₁ Q .next { s₁ with heap := h', toks := tk' } :=
  ⟨pos', m₂, h', tk', tl', tp', rfl, hlt, hP, D⟩
theorem isB_iff (c : Nat) : (Builtin.Str.occurrences wsS (chS c) 0 wsS.length 1).isEmpty = !isB c := by
  have h := StrLaws.found_one wsS c
  have e : wsS.cps.toList = [10, 9, 13, 32] := by decide +kernel
  rw [e] at h
  have h2 : (Builtin.Str.occurrences wsS (chS c) 0 wsS.length 1).isEmpty = !decide (c ∈ [10, 9, 13, 32]) := by rw [← h, Bool.not_not]; rfl
  rw [h2, isB]
  simp [Bool.or_assoc]
theorem ch_eq {c d : Nat} {x : Str} (hx : x = chS d) : (chS c == x) = decide (c = d) := by
  subst hx
  by_cases e : c = d
  · subst e; simp
  · have : chS c ≠ chS d := fun h => e (by have := congrArg (fun x => x.cps) h; simpa [chS] using this)
    simp [e, this]
theorem q_is : Str.ofString "\"" = chS 34 := by decide +kernel
theorem b_is : Str.ofString "\\" = chS 92 := by decide +kernel
theorem strL_snoc (a : List Nat) (c : Nat) : strL a ++ chS c = strL (a ++ [c]) := Str.ext' (by simp [strL, chS, Str.cps_append])
theorem strL_len (a : List Nat) : (strL a).length = a.length := by simp [strL, Str.length]
theorem drop_cons {l : List Nat} {pos c : Nat} (h : l[pos]? = some c) : l.drop pos = c :: l.drop (pos + 1) := by
  rw [List.drop_eq_getElem_cons (List.getElem?_eq_some_iff.mp h).1, (List.getElem?_eq_some_iff.mp h).2]

theorem qtok_q (r : List Nat) : qtok (34 :: r) = some ([], r) := by rw [qtok.eq_def]; rfl
theorem qtok_b (d : Nat) (r : List Nat) : qtok (92 :: d :: r) = (qtok r).map fun x => (d :: x.1, x.2) := by rw [qtok.eq_def]; rfl
theorem qtok_b0 : qtok [92] = none := by rw [qtok.eq_def]; rfl
theorem qtok_c {c : Nat} (h1 : c ≠ 34) (h2 : c ≠ 92) (r : List Nat) : qtok (c :: r) = (qtok r).map fun x => (c :: x.1, x.2) := by rw [qtok.eq_def]; simp only [if_neg h1, if_neg h2]
theorem btok_w {c : Nat} (h : isB c = true) (r : List Nat) : btok (c :: r) = some ([], r) := by rw [btok.eq_def]; simp only [if_pos h]
theorem btok_b (d : Nat) (r : List Nat) : btok (92 :: d :: r) = (btok r).map fun x => (d :: x.1, x.2) := by rw [btok.eq_def]; rfl
theorem btok_b0 : btok [92] = none := by rw [btok.eq_def]; rfl
theorem btok_c {c : Nat} (h1 : isB c = false) (h2 : c ≠ 92) (r : List Nat) : btok (c :: r) = (btok r).map fun x => (c :: x.1, x.2) := by rw [btok.eq_def]; simp only [h1, if_neg h2, Bool.false_eq_true, if_false]
theorem map_some {o : Option (List Nat × List Nat)} {c : Nat} {v x : List Nat} (h : (o.map fun y => (c :: y.1, y.2)) = some (v, x)) : ∃ v', o = some (v', x) ∧ v = c :: v' := by
  obtain ⟨⟨a, b⟩, h1, h2⟩ := Option.map_eq_some_iff.mp h
  simp only [Prod.mk.injEq] at h2
  exact ⟨a, by rw [h1, h2.2], h2.1.symm⟩
theorem drop_eq_le {l : List Nat} {i j : Nat} (hi : i ≤ l.length) (hj : j ≤ l.length) (h : l.drop i = l.drop j) : i = j := by
  have := congrArg List.length h
  simp only [List.length_drop] at this
  omega
theorem is_q {c : Nat} (h : (chS c == Str.ofString "\"") = true) : c = 34 := by rw [ch_eq q_is] at h; exact of_decide_eq_true h
theorem not_q {c : Nat} (h : (chS c == Str.ofString "\"") = false) : c ≠ 34 := by rw [ch_eq q_is] at h; exact of_decide_eq_false h
theorem is_b {c : Nat} (h : (chS c == Str.ofString "\\") = true) : c = 92 := by rw [ch_eq b_is] at h; exact of_decide_eq_true h
theorem not_b {c : Nat} (h : (chS c == Str.ofString "\\") = false) : c ≠ 92 := by rw [ch_eq b_is] at h; exact of_decide_eq_false h
theorem is_w {c : Nat} (h : (Builtin.Str.occurrences wsS (chS c) 0 wsS.length 1).isEmpty = false) : isB c = true := by rw [isB_iff] at h; simpa using h
theorem not_w {c : Nat} (h : (Builtin.Str.occurrences wsS (chS c) 0 wsS.length 1).isEmpty = true) : isB c = false := by rw [isB_iff] at h; simpa using h
set_option maxHeartbeats 4000000 in
theorem tok_con (S : Strm) (ok : S.Ok) (tl : Tok) (n pos : Nat) (tp : Tok) (n' : Nat) (e : Nat) (v : List Nat) (hpos : pos ≤ S.text.length) (he : e ≤ S.text.length) (ht : tok (S.cs.drop pos) = some (v, S.cs.drop e)) :
    Con S.w 42 [.ref S.x] (S.at tl [] n pos tp n') 30 400 (fun r made => (∃ t, r = .str (strL v) t) ∧ ∃ tl' tp', made = S.at tl' [] n e tp' n') := by
  intro p loose mean mg mb dp un gd cn cs a ccd cl outer A₀ base h₀ L m s rest Q E B X T hk D hd hu hret
  have F := D.fr
  have N := D.nw
  have nd := D.nd
  have hlen := ok.len
  rw [at_flat] at N nd
  revert X; k_fill; intro X
  refine wpAny_call ?_
  k_dflt ktr_enter
  k_steps
  rename Fr _ _ _ _ => F9
  rename News _ _ _ _ => N9
  rename Below _ _ _ _ => B9
  rename Frag.In _ _ => X9
  rename Top _ _ _ _ _ _ => T9
  rename_i q9 h8 l8 I9 h9 l9 h7
  have D9 := Led.of F9 N9 (by tb_start)
  rw [← at_flat] at D9
  have D8 : Led _ _ _ _ (S.at tl [] n pos tp n' ++ ((I9, citObj (.ref q9) (.str (Str.ofString "") _) (.bool false)) :: (q9, methodObj (.ref 35) (.ref S.x)) :: rest)) := Led.swap (P := [_, _]) (S := S.at tl [] n pos tp n') (R := rest) D9
  clear F9 N9 D9
  k_dflt (refine' for_cit S ok ?eL ?ex ?ep B9 X9 T9 ?eK D8 ?em ?ed ?eu (fun pos m => pos ≤ S.text.length ∧ m (Str.ofString "self") = some (.ref S.x) ∧ m (Str.ofString "fiter") = some (.ref I9) ∧ (∃ t, m (Str.ofString "token") = some (.str (Str.ofString "") t)) ∧ tok (S.cs.drop pos) = some (v, S.cs.drop e)) ?eP ?e0 ?step ?done)
  case eL => rfl
  case ex => rfl
  case ep => rfl
  case eK => rfl
  case em => exact List.Mem.head _
  case ed => ktr_room
  case eu => ktr_units
  case eP => exact fun pos m h => h.1
  case e0 => exact ⟨hpos, rfl, rfl, ⟨_, rfl⟩, ht⟩
  case done =>
    rintro m₁ h tk tl tp ⟨hp1, hm1, hm2, ⟨t2, hm3⟩, htk⟩ D₁
    rw [List.drop_eq_nil_of_le (by rw [S.cs_len]; exact Nat.le_refl _), tok] at htk
    have hv : v = [] := by simp only [Option.some.injEq, Prod.mk.injEq] at htk; exact htk.1.symm
    have hee : e = S.text.length := by
      have := congrArg (fun x => (x.map (·.2.length))) htk
      simp only [Option.map_some, List.length_nil, List.length_drop, S.cs_len, Option.some.injEq] at this
      omega
    have F' := D₁.fr
    have N' := D₁.nw
    have nd' := D₁.nd
    rw [mp3 hm1 hm2 hm3] at F'
    rw [at_flat] at N' nd'
    clear D₁ D8
    k_steps
    rename Fr _ _ _ _ => F9
    rename News _ _ _ _ => N9
    have D9 := Led.of F9 N9 nd'
    rw [← at_flat] at D9
    refine hret _ _ _ _ ⟨⟨t2, by rw [hv]; rfl⟩, tl, tp, rfl⟩ ?_
    rw [hee]
    exact Led.sub D9 (List.Sublist.append_left (List.sublist_cons_self _ _) _)
  case step =>
    rintro pos c m₁ t₁ tl tp h tk qT1 hT1 ⟨hp1, hm1, hm2, ⟨t2, hm3⟩, htk⟩ hc D₁
    have hclt : pos < S.text.length := by rw [← S.cs_len]; exact (List.getElem?_eq_some_iff.mp hc).1
    have hcl : (chS c).length ≤ 1 := Nat.le_refl _
    have F' := D₁.fr
    have N' := D₁.nw
    have nd' := D₁.nd
    rw [drop_cons hc, tok] at htk
    rw [mp3 hm1 hm2 hm3] at F'
    rw [at_flat] at N' nd'
    clear D₁ D8
    have hMk : IfMark := ⟨⟩
    k_steps
    · clear hMk
      have hc34 : c = 34 := is_q (by assumption)
      subst hc34
      rw [if_neg (by decide), if_pos rfl] at htk
      rename Fr _ _ _ _ => F'
      rename News _ _ _ _ => N'
      have D9 := Led.of F' N' nd'
      rw [← at_flat] at D9
      have D8 : Led _ _ _ _ (S.at tl [] n (pos + 1) tp n' ++ ((I9, citObj (.ref q9) (.str (Str.ofString "") _) (.bool false)) :: (q9, methodObj (.ref 35) (.ref S.x)) :: rest)) := D9
      clear D9
      k_dflt (refine' for_cit S ok ?eL ?ex ?ep B9 X9 T9 ?eK D8 ?em ?ed ?eu (fun pos m => pos ≤ S.text.length ∧ m (Str.ofString "self") = some (.ref S.x) ∧ m (Str.ofString "fiter") = some (.ref I9) ∧ ∃ a v', (∃ t, m (Str.ofString "token") = some (.str (strL a) t)) ∧ a.length ≤ pos ∧ qtok (S.cs.drop pos) = some (v', S.cs.drop e) ∧ a ++ v' = v) ?eP ?e0 ?step ?done)
      case eL => rfl
      case ex => rfl
      case ep => rfl
      case eK => rfl
      case em => exact List.Mem.head _
      case ed => ktr_room
      case eu => ktr_units
      case eP => exact fun pos m h => h.1
      case e0 => exact ⟨hclt, rfl, rfl, [], v, ⟨_, rfl⟩, Nat.zero_le _, htk, rfl⟩
      case done =>
        rintro m₁ h tk tl tp ⟨hp1, hm1, hm2, a, v', _, _, htk, _⟩ D₁
        rw [List.drop_eq_nil_of_le (by rw [S.cs_len]; exact Nat.le_refl _), show qtok [] = none from rfl] at htk
        cases htk
      case step =>
        clear hm1 hm2 hm3 htk F' N' nd' hc D8 hclt hcl
        rintro pos c m₁ t₁ tl tp h tk qT2 hT2 ⟨hp1, hm1, hm2, al, v', ⟨t2, hm3⟩, hal, htk, hav⟩ hc D₁
        have hclt : pos < S.text.length := by rw [← S.cs_len]; exact (List.getElem?_eq_some_iff.mp hc).1
        have hcl : (chS c).length ≤ 1 := Nat.le_refl _
        have hall : (strL al).length ≤ 1000 := by rw [strL_len]; omega
        have F' := D₁.fr
        have N' := D₁.nw
        have nd' := D₁.nd
        rw [drop_cons hc] at htk
        rw [mp3 hm1 hm2 hm3] at F'
        rw [at_flat] at N' nd'
        clear D₁
        k_steps
        all_goals (rename Fr _ _ _ _ => F9; rename News _ _ _ _ => N9)
        · have hc34 : c = 34 := is_q (by assumption)
          subst hc34
          rw [qtok_q] at htk
          simp only [Option.some.injEq, Prod.mk.injEq] at htk
          have hee : pos + 1 = e := drop_eq_le (by rw [S.cs_len]; omega) (by rw [S.cs_len]; omega) htk.2
          have hvv : al = v := by rw [← hav, ← htk.1, List.append_nil]
          subst hvv
          refine hT2 _ _ ?_
          unfold TurnC
          dsimp only
          refine hT1 _ _ ?_
          unfold TurnC
          dsimp only
          k_steps
          rename Fr _ _ _ _ => F9
          rename News _ _ _ _ => N9
          have D9 := Led.of F9 N9 nd'
          rw [← at_flat] at D9
          refine hret _ _ _ _ ⟨⟨_, rfl⟩, tl, tp, rfl⟩ ?_
          rw [← hee]
          exact Led.sub D9 (List.Sublist.append_left (.cons _ (List.sublist_cons_self _ _)) _)
        · have hc92 : c = 92 := is_b (by assumption)
          subst hc92
          cases hd' : S.cs[pos + 1]? with
          | none =>
            rw [List.drop_eq_nil_of_le (List.getElem?_eq_none_iff.mp hd'), qtok_b0] at htk
            cases htk
          | some d =>
            have hdlt : pos + 1 < S.text.length := by rw [← S.cs_len]; exact (List.getElem?_eq_some_iff.mp hd').1
            have hdl : (chS d).length ≤ 1 := Nat.le_refl _
            rw [drop_cons hd'] at htk
            obtain ⟨v₂, h1, h2⟩ := map_some (htk.symm.trans (qtok_b d _)).symm
            have D9 := Led.of F9 N9 nd'
            rw [← at_flat] at D9
            unfold Wait
            k_dflt (refine' ConC.con (readAt S ok _ [] n (pos + 1) _ n' hd') B9 X9 T9 ?rK D9 ?rd ?ru ?_)
            case rK => rfl
            case rd => ktr_room
            case ru => ktr_units
            clear F9 N9 nd' D9
            rintro r made h' tk' ⟨⟨t, rfl⟩, tl', tp', rfl⟩ D'
            have F' := D'.fr
            have N' := D'.nw
            have nd' := D'.nd
            rw [at_flat] at N' nd'
            clear D'
            k_steps
            rename Fr _ _ _ _ => F9
            rename News _ _ _ _ => N9
            have D9 := Led.of F9 N9 nd'
            rw [← at_flat] at D9
            exact hT2 _ _ (TurnC.next (Nat.lt_succ_of_lt (Nat.lt_succ_self _)) ⟨hdlt, rfl, rfl, al ++ [d], v₂, ⟨_, by rw [← strL_snoc]; rfl⟩, by simp; omega, h1, by rw [← hav, h2]; simp⟩ D9)
        · obtain ⟨v₂, h1, h2⟩ := map_some (htk.symm.trans (qtok_c (not_q (by assumption)) (not_b (by assumption)) _)).symm
          have D9 := Led.of F9 N9 nd'
          rw [← at_flat] at D9
          exact hT2 _ _ (TurnC.next (Nat.lt_succ_self _) ⟨hclt, rfl, rfl, al ++ [c], v₂, ⟨_, by rw [← strL_snoc]; rfl⟩, by simp; omega, h1, by rw [← hav, h2]; simp⟩ D9)
    · have hq34 : c ≠ 34 := not_q (by assumption)
      have hw : isB c = false := by simpa using not_w (c := c) (by assumption)
      rw [if_neg (by rw [hw]; decide), if_neg hq34] at htk
      rename Fr _ _ _ _ => F9
      rename News _ _ _ _ => N9
      rename IfMark => hMk
      clear hMk
      have D9 := Led.of F9 N9 nd'
      rw [← at_flat] at D9
      unfold Wait
      obtain ⟨U9, hU9, D9⟩ : ∃ U9, U9 = ((I9, citObj (.ref q9) (.str (Str.ofString "") _) (.bool false)) :: (q9, methodObj (.ref 35) (.ref S.x)) :: rest) ∧ Led _ _ _ _ (S.at tl [] n (pos + 1) tp n' ++ U9) := ⟨_, rfl, D9⟩
      refine If_join D9 (fun m' X => ∃ d pos' tl' tp' v₂, X = S.at tl' [] n pos' tp' n' ++ U9 ∧ pos' ≤ S.text.length ∧ 1 ≤ pos' ∧ m' (Str.ofString "self") = some (.ref S.x) ∧ m' (Str.ofString "fiter") = some (.ref I9) ∧ (∃ t, m' (Str.ofString "token") = some (.str (Str.ofString "") t)) ∧
        (∃ t, m' (Str.ofString "ch") = some (.str (chS d) t)) ∧ btok (S.cs.drop pos') = some (v₂, S.cs.drop e) ∧ v = d :: v₂) ?tst ?cont
      case tst =>
        intro q7 r7 hq7 hr7
        k_steps
        · have hc92 : c = 92 := is_b (by assumption)
          subst hc92
          cases hd' : S.cs[pos + 1]? with
          | none =>
            rw [List.drop_eq_nil_of_le (List.getElem?_eq_none_iff.mp hd'), btok_b0] at htk
            cases htk
          | some d =>
          have hdlt : pos + 1 < S.text.length := by rw [← S.cs_len]; exact (List.getElem?_eq_some_iff.mp hd').1
          have hdl : (chS d).length ≤ 1 := Nat.le_refl _
          rw [drop_cons hd'] at htk
          obtain ⟨v₂, h1, h2⟩ := map_some (htk.symm.trans (btok_b d _)).symm
          rename Fr _ _ _ _ => F9
          rename News _ _ _ _ => N9
          have D9 := Led.of F9 N9 nd'
          rw [← at_flat] at D9
          unfold Wait
          k_dflt (refine' ConC.con (readAt S ok _ [] n (pos + 1) _ n' hd') B9 X9 T9 ?rK D9 ?rd ?ru ?_)
          case rK => rfl
          case rd => ktr_room
          case ru => ktr_units
          clear F9 N9 nd' D9
          rintro r made h' tk' ⟨⟨t, rfl⟩, tl', tp', rfl⟩ D'
          have F' := D'.fr
          have N' := D'.nw
          have nd' := D'.nd
          rw [at_flat] at N' nd'
          clear D'
          k_steps
          rename Fr _ _ _ _ => F9
          rename News _ _ _ _ => N9
          have D9 := Led.of F9 N9 nd'
          rw [← at_flat] at D9
          exact hr7 _ _ _ _ D9 ⟨d, _, tl', tp', v₂, by rw [hU9], hdlt, Nat.succ_pos _, rfl, rfl, ⟨_, rfl⟩, ⟨_, rfl⟩, h1, h2⟩
        · obtain ⟨v₂, h1, h2⟩ := map_some (htk.symm.trans (btok_c (by simp [hw]) (not_b (by assumption)) _)).symm
          exact hq7 _ _ _ _ D9 ⟨c, _, tl, tp, v₂, rfl, hclt, Nat.succ_pos _, rfl, rfl, ⟨_, rfl⟩, ⟨_, rfl⟩, h1, h2⟩
      clear hc hclt hcl htk hm1 hm2 hm3 F9 N9 nd' D9
      rintro h' tk' m' X D9 ⟨d, pos', tl', tp', v₂, rfl, hp2, hp3, hm1, hm2, ⟨t2, hm3⟩, ⟨t3, hm4⟩, h1, h2⟩
      subst hU9
      have hdl : (chS d).length ≤ 1 := Nat.le_refl _
      have F' := D9.fr
      have N' := D9.nw
      have nd' := D9.nd
      rw [mp4 hm1 hm2 hm3 hm4] at F'
      rw [at_flat] at N' nd'
      clear D9
      k_steps
      rename Fr _ _ _ _ => F9
      rename News _ _ _ _ => N9
      have D9 := Led.of F9 N9 nd'
      rw [← at_flat] at D9
      have D8 : Led _ _ _ _ (S.at tl' [] n pos' tp' n' ++ ((I9, citObj (.ref q9) (.str (Str.ofString "") _) (.bool false)) :: (q9, methodObj (.ref 35) (.ref S.x)) :: rest)) := D9
      clear D9 F9 N9
      k_dflt (refine' for_cit S ok ?eL ?ex ?ep B9 X9 T9 ?eK D8 ?em ?ed ?eu (fun pos m => pos ≤ S.text.length ∧ m (Str.ofString "self") = some (.ref S.x) ∧ m (Str.ofString "fiter") = some (.ref I9) ∧ ∃ a v', (∃ t, m (Str.ofString "token") = some (.str (strL a) t)) ∧ a.length ≤ pos ∧ btok (S.cs.drop pos) = some (v', S.cs.drop e) ∧ a ++ v' = v) ?eP ?e0 ?step ?done)
      case eL => rfl
      case ex => rfl
      case ep => rfl
      case eK => rfl
      case em => exact List.Mem.head _
      case ed => ktr_room
      case eu => ktr_units
      case eP => exact fun pos m h => h.1
      case e0 => exact ⟨hp2, rfl, rfl, [d], v₂, ⟨_, rfl⟩, hp3, h1, h2.symm⟩
      case done =>
        rintro m₁ h tk tl tp ⟨hp1, hm1, hm2, a, v', _, _, htk, _⟩ D₁
        rw [List.drop_eq_nil_of_le (by rw [S.cs_len]; exact Nat.le_refl _), show btok [] = none from rfl] at htk
        cases htk
      case step =>
        clear hm1 hm2 hm3 hm4 nd' D8 hp2 hdl
        rintro pos c m₁ t₁ tl tp h tk qT4 hT4 ⟨hp1, hm1, hm2, al, v', ⟨t2, hm3⟩, hal, htk, hav⟩ hc D₁
        have hclt : pos < S.text.length := by rw [← S.cs_len]; exact (List.getElem?_eq_some_iff.mp hc).1
        have hcl : (chS c).length ≤ 1 := Nat.le_refl _
        have hall : (strL al).length ≤ 1000 := by rw [strL_len]; omega
        have F' := D₁.fr
        have N' := D₁.nw
        have nd' := D₁.nd
        rw [drop_cons hc] at htk
        rw [mp3 hm1 hm2 hm3] at F'
        rw [at_flat] at N' nd'
        clear D₁
        k_steps
        all_goals (rename Fr _ _ _ _ => F9; rename News _ _ _ _ => N9)
        · have hc92 : c = 92 := is_b (by assumption)
          subst hc92
          cases hd' : S.cs[pos + 1]? with
          | none =>
            rw [List.drop_eq_nil_of_le (List.getElem?_eq_none_iff.mp hd'), btok_b0] at htk
            cases htk
          | some d =>
            have hdlt : pos + 1 < S.text.length := by rw [← S.cs_len]; exact (List.getElem?_eq_some_iff.mp hd').1
            have hdl : (chS d).length ≤ 1 := Nat.le_refl _
            rw [drop_cons hd'] at htk
            obtain ⟨v₂, h1, h2⟩ := map_some (htk.symm.trans (btok_b d _)).symm
            have D9 := Led.of F9 N9 nd'
            rw [← at_flat] at D9
            unfold Wait
            k_dflt (refine' ConC.con (readAt S ok _ [] n (pos + 1) _ n' hd') B9 X9 T9 ?rK D9 ?rd ?ru ?_)
            case rK => rfl
            case rd => ktr_room
            case ru => ktr_units
            clear F9 N9 nd' D9
            rintro r made h' tk' ⟨⟨t, rfl⟩, tl', tp', rfl⟩ D'
            have F' := D'.fr
            have N' := D'.nw
            have nd' := D'.nd
            rw [at_flat] at N' nd'
            clear D'
            k_steps
            rename Fr _ _ _ _ => F9
            rename News _ _ _ _ => N9
            have D9 := Led.of F9 N9 nd'
            rw [← at_flat] at D9
            exact hT4 _ _ (TurnC.next (Nat.lt_succ_of_lt (Nat.lt_succ_self _)) ⟨hdlt, rfl, rfl, al ++ [d], v₂, ⟨_, by rw [← strL_snoc]; rfl⟩, by simp; omega, h1, by rw [← hav, h2]; simp⟩ D9)
        · obtain ⟨v₂, h1, h2⟩ := map_some (htk.symm.trans (btok_c (not_w (by assumption)) (not_b (by assumption)) _)).symm
          have D9 := Led.of F9 N9 nd'
          rw [← at_flat] at D9
          exact hT4 _ _ (TurnC.next (Nat.lt_succ_self _) ⟨hclt, rfl, rfl, al ++ [c], v₂, ⟨_, by rw [← strL_snoc]; rfl⟩, by simp; omega, h1, by rw [← hav, h2]; simp⟩ D9)
        · rw [btok_w (is_w (by assumption))] at htk
          simp only [Option.some.injEq, Prod.mk.injEq] at htk
          have hee : pos + 1 = e := drop_eq_le (by rw [S.cs_len]; omega) (by rw [S.cs_len]; omega) htk.2
          have hvv : al = v := by rw [← hav, ← htk.1, List.append_nil]
          subst hvv
          refine hT4 _ _ ?_
          unfold TurnC
          dsimp only
          refine hT1 _ _ ?_
          unfold TurnC
          dsimp only
          k_steps
          rename Fr _ _ _ _ => F9
          rename News _ _ _ _ => N9
          have D9 := Led.of F9 N9 nd'
          rw [← at_flat] at D9
          refine hret _ _ _ _ ⟨⟨_, rfl⟩, tl, tp, rfl⟩ ?_
          rw [← hee]
          exact Led.sub D9 (List.Sublist.append_left (.cons _ (List.sublist_cons_self _ _)) _)
    · have hb : isB c = true := is_w (by assumption)
      rw [if_pos hb] at htk
      have D9 := Led.of F' N' nd'
      rw [← at_flat] at D9
      exact hT1 _ _ (TurnC.cont (Nat.lt_succ_self _) ⟨hclt, rfl, rfl, ⟨_, rfl⟩, htk⟩ D9)
end Mine
end

section
theorem Mine.startPhQ : True := by
  w_top off
  trivial
open PySem PySem.W PyProof.Rows
set_option maxRecDepth 100000
set_option linter.unusedVariables false
namespace Mine
/-- a name's lexer -/
structure Lx where
  name : Str
  x : Addr
  dx : Addr
  l : Addr
  tks : Tok × Tok × Tok × Tok
  ln : Value
  fp : Value
  ws : Value
def Lx.os (w : World) (K : Lx) (q : List Value) (c : Nat) : List (Addr × Obj) := lexOs w K.x K.dx K.l K.tks K.ln K.fp K.ws q c
/-- the lexers of the names, the lines in them -/
def lns (w : World) (Ls : List Lx) (qv : Str → List Value) (cap : Str → Nat) : List (Addr × Obj) := Ls.flatMap fun K => K.os w (qv K.name) (cap K.name)
def lkv (Ls : List Lx) : List (Str × Value) := Ls.map fun K => (K.name, .ref K.x)
def upd {β : Type} (f : Str → β) (k : Str) (v : β) : Str → β := fun y => if y = k then v else f y
theorem upd_self {β : Type} {f : Str → β} {k : Str} {v : β} : upd f k v k = v := by simp [upd]
theorem upd_ne {β : Type} {f : Str → β} {k y : Str} {v : β} (h : y ≠ k) : upd f k v y = f y := by simp [upd, h]

theorem lns_off {w : World} {Ls : List Lx} {qv : Str → List Value} {cap : Str → Nat} {k : Str} {v : List Value} {c : Nat} (h : ∀ K ∈ Ls, K.name ≠ k) : lns w Ls (upd qv k v) (upd cap k c) = lns w Ls qv cap := by
  unfold lns
  induction Ls with
  | nil => rfl
  | cons K r ih =>
    rw [List.flatMap_cons, List.flatMap_cons, ih fun M hM => h M (.tail _ hM), upd_ne (h K (.head _)), upd_ne (h K (.head _))]
theorem lns_cons {w : World} {K : Lx} {Ls : List Lx} {qv : Str → List Value} {cap : Str → Nat} : lns w (K :: Ls) qv cap = K.os w (qv K.name) (cap K.name) ++ lns w Ls qv cap := List.flatMap_cons
theorem lns_append {w : World} {As Bs : List Lx} {qv : Str → List Value} {cap : Str → Nat} : lns w (As ++ Bs) qv cap = lns w As qv cap ++ lns w Bs qv cap := List.flatMap_append

/-- one line taken out of the ledger; put back with another content -/
theorem lns_out {w : World} {Ls : List Lx} {K : Lx} (hK : K ∈ Ls) (nd : (Ls.map (·.name)).Nodup) : ∃ R : (Str → List Value) → (Str → Nat) → List (Addr × Obj),
    (∀ qv cap, (lns w Ls qv cap).Perm (K.os w (qv K.name) (cap K.name) ++ R qv cap)) ∧ (∀ qv cap v c, R (upd qv K.name v) (upd cap K.name c) = R qv cap) := by
  obtain ⟨As, Bs, rfl⟩ := List.append_of_mem hK
  rw [List.map_append, List.map_cons, List.nodup_append, List.nodup_cons] at nd
  have ha : ∀ M ∈ As, M.name ≠ K.name := fun M hM e => nd.2.2 _ (List.mem_map.mpr ⟨M, hM, rfl⟩) _ (.head _) e
  have hb : ∀ M ∈ Bs, M.name ≠ K.name := fun M hM e => nd.2.1.1 (List.mem_map.mpr ⟨M, hM, e⟩)
  refine ⟨fun qv cap => lns w As qv cap ++ lns w Bs qv cap, fun qv cap => ?_, fun qv cap v c => ?_⟩
  · rw [lns_append, lns_cons]
    exact List.perm_append_comm_assoc _ _ _
  · show lns w As _ _ ++ lns w Bs _ _ = _
    rw [lns_off ha, lns_off hb]

theorem lkv_at {Ls : List Lx} {K : Lx} (hK : K ∈ Ls) (nd : (Ls.map (·.name)).Nodup) : valueAt (lkv Ls) K.name = some (.ref K.x) := by
  unfold valueAt lkv
  induction Ls with
  | nil => cases hK
  | cons M r ih =>
    rw [List.map_cons, List.nodup_cons] at nd
    rw [List.map_cons, List.find?_cons]
    rcases List.mem_cons.mp hK with e | hK
    · subst e; simp
    · have : M.name ≠ K.name := fun e => nd.1 (List.mem_map.mpr ⟨K, hK, e.symm⟩)
      simp only [this, decide_false]
      exact ih hK nd.2
theorem lkv_none {Ls : List Lx} {k : Str} (h : ∀ K ∈ Ls, K.name ≠ k) : valueAt (lkv Ls) k = none := by
  unfold valueAt lkv
  rw [List.find?_eq_none.mpr]; · rfl
  intro p hp
  obtain ⟨K, hK, rfl⟩ := List.mem_map.mp hp
  simpa using h K hK
theorem lkv_new {Ls : List Lx} {K : Lx} (h : ∀ M ∈ Ls, M.name ≠ K.name) : stored (lkv Ls) K.name (.ref K.x) = lkv (Ls ++ [K]) := by
  unfold stored
  rw [if_neg]
  · simp [lkv]
  · intro ha
    obtain ⟨p, hp, e⟩ := List.any_eq_true.mp ha
    obtain ⟨M, hM, rfl⟩ := List.mem_map.mp hp
    exact h M hM (by simpa using e)

/-- the values of a line: the places' names -/
def VLine (W : Nat → Str) : List Value → List Nat → Prop
  | [], [] => True
  | v :: vs, p :: ps => (∃ t, v = .str (stdS p (W p)) t) ∧ VLine W vs ps
  | _, _ => False
theorem VLine.len {W : Nat → Str} : ∀ {vs : List Value} {ps : List Nat}, VLine W vs ps → vs.length = ps.length
  | [], [], _ => rfl
  | _ :: _, _ :: _, h => congrArg (· + 1) (VLine.len h.2)
  | [], _ :: _, h => h.elim
  | _ :: _, [], h => h.elim
theorem VLine.app {W : Nat → Str} {v : Value} {p : Nat} (hv : ∃ t, v = .str (stdS p (W p)) t) : ∀ {vs : List Value} {ps : List Nat}, VLine W vs ps → VLine W (vs ++ [v]) (ps ++ [p])
  | [], [], _ => ⟨hv, trivial⟩
  | _ :: _, _ :: _, h => ⟨h.1, VLine.app hv h.2⟩
  | [], _ :: _, h => h.elim
  | _ :: _, [], h => h.elim
theorem VLine.last {W : Nat → Str} : ∀ {vs : List Value} {ps : List Nat}, VLine W vs ps → ∀ p, ps.getLast? = some p → ∃ t, vs.getLast? = some (.str (stdS p (W p)) t)
  | [], [], _, p, h => by cases h
  | [v], [p'], h, p, e => by
    obtain ⟨t, rfl⟩ := h.1
    simp only [List.getLast?_singleton, Option.some.injEq] at e
    subst e
    exact ⟨t, rfl⟩
  | v :: v' :: vs, p' :: p'' :: ps, h, p, e => by
    rw [List.getLast?_cons_cons] at e ⊢
    exact VLine.last h.2 p e
  | [], _ :: _, h, _, _ => h.elim
  | _ :: _, [], h, _, _ => h.elim
  | [_], _ :: _ :: _, h, _, _ => h.2.elim
  | _ :: _ :: _, [_], h, _, _ => h.2.elim
theorem VLine.cons {W : Nat → Str} {vs : List Value} {p : Nat} {ps : List Nat} (h : VLine W vs (p :: ps)) : ∃ v r, vs = v :: r ∧ (∃ t, v = .str (stdS p (W p)) t) ∧ VLine W r ps := by
  cases vs with
  | nil => exact h.elim
  | cons v r => exact ⟨v, r, rfl, h.1, h.2⟩
end Mine
end

section
local macro_rules | `(tactic| walk_at "no such key") => `(tactic| fail "no such key")
theorem Mine.startPlainLaw : True := by
  w_top off
  trivial
set_option linter.unusedVariables false
namespace Mine
section plain
variable {α : Type} [DecidableEq α] (W : Nat → α)

/-- the name ahead of a place -/
def src (p : Nat) : α := W ((p + 9) % 10)
def outE (v : α) : List Nat := (List.range 10).filter (fun p => decide (src W p = v))
def inE (v : α) : List Nat := (List.range 10).filter (fun p => decide (W p = v))
theorem in_out (v : α) : (inE W v).length = (outE W v).length := by
  have key : ∀ f : α → Bool, List.countP (fun p => f (W p)) (List.range 10) = List.countP (fun p => f (W ((p + 9) % 10))) (List.range 10) := by
    intro f
    have : List.range 10 = [0, 1, 2, 3, 4, 5, 6, 7, 8, 9] := by decide
    rw [this]
    simp only [List.countP_cons, List.countP_nil, Nat.reduceAdd, Nat.reduceMod]
    omega
  unfold inE outE
  rw [← List.countP_eq_length_filter, ← List.countP_eq_length_filter]
  exact key fun x => decide (x = v)

def rot : List Nat → List Nat
  | [] => []
  | p :: r => r ++ [p]
def turnQ (q : α → List Nat) (v : α) : α → List Nat := fun u => if u = v then rot (q u) else q u
def rgo (start : α) : Nat → (α → List Nat) → α → Nat → List Nat → (α → List Nat) × List Nat
  | 0, q, _, _, told => (q, told)
  | f + 1, q, here, left, told =>
    if told.length ≤ 10 ∧ (here ≠ start ∨ 0 < left) then
      rgo start f (turnQ q here) (W ((q here).headD 0)) (if here = start then left - 1 else left) (told ++ [(q here).headD 0])
    else (q, told)
def round (q : α → List Nat) : (α → List Nat) × List Nat := rgo W (W 0) 11 q (W 0) (inE W (W 0)).length []

def Good (q : α → List Nat) : Prop := ∀ v, (q v).Perm (outE W v)
inductive Lead (q : α → List Nat) (root : α) : α → Prop where
  | base : Lead q root root
  | step {v : α} {p : Nat} : (q v).getLast? = some p → Lead q root (W p) → Lead q root v

variable {W}
theorem mem_out {v : α} {p : Nat} : p ∈ outE W v ↔ p < 10 ∧ src W p = v := by simp [outE]
theorem mem_in {v : α} {p : Nat} : p ∈ inE W v ↔ p < 10 ∧ W p = v := by simp [inE]
theorem out_nd (v : α) : (outE W v).Nodup := List.Nodup.sublist List.filter_sublist List.nodup_range
theorem in_nd (v : α) : (inE W v).Nodup := List.Nodup.sublist List.filter_sublist List.nodup_range

abbrev fs (W : Nat → α) (told : List Nat) (v : α) : List Nat := told.filter (fun p => decide (src W p = v))
abbrev fd (W : Nat → α) (told : List Nat) (v : α) : List Nat := told.filter (fun p => decide (W p = v))

theorem fs_app (told : List Nat) (p : Nat) (v : α) : fs W (told ++ [p]) v = fs W told v ++ (if v = src W p then [p] else []) := by
  rw [fs, List.filter_append]
  by_cases e : src W p = v
  · simp [e]
  · have : ¬ (v = src W p) := fun x => e x.symm
    simp [e, this]
theorem fd_app (told : List Nat) (p : Nat) (v : α) : fd W (told ++ [p]) v = fd W told v ++ (if v = W p then [p] else []) := by
  rw [fd, List.filter_append]
  by_cases e : W p = v
  · simp [e]
  · have : ¬ (v = W p) := fun x => e x.symm
    simp [e, this]

structure Inv (W : Nat → α) (q0 q : α → List Nat) (here : α) (left : Nat) (told : List Nat) : Prop where
  split : ∀ v, ∃ rest, q0 v = fs W told v ++ rest ∧ q v = rest ++ fs W told v
  bal : ∀ v, (fd W told v).length + (if v = W 0 then 1 else 0) = (fs W told v).length + (if v = here then 1 else 0)
  left : left + (fs W told (W 0)).length = (inE W (W 0)).length
  lead : ∀ p ∈ told, Lead W q here (src W p)
  lead0 : Lead W q here (W 0)

theorem Inv.start {q : α → List Nat} : Inv W q q (W 0) (inE W (W 0)).length [] :=
  ⟨fun v => ⟨q v, by simp, by simp⟩, fun v => by simp, by simp, fun p hp => (nomatch hp), .base⟩

theorem Inv.nodup {q0 q : α → List Nat} {here : α} {left : Nat} {told : List Nat} (I : Inv W q0 q here left told) (G : Good W q0) : told.Nodup ∧ ∀ p ∈ told, p < 10 := by
  constructor
  · rw [List.nodup_iff_count]
    intro p
    by_cases hp : p ∈ told
    · obtain ⟨rest, e, _⟩ := I.split (src W p)
      have h1 : List.count p (fs W told (src W p)) = List.count p told := List.count_filter (by simp)
      have h2 := List.nodup_iff_count.mp ((G (src W p)).nodup_iff.mpr (out_nd _)) p
      rw [e, List.count_append, h1] at h2
      omega
    · rw [List.count_eq_zero.mpr hp]; omega
  · intro p hp
    obtain ⟨rest, e, _⟩ := I.split (src W p)
    have : p ∈ q0 (src W p) := by rw [e]; exact List.mem_append_left _ (List.mem_filter.mpr ⟨hp, by simp⟩)
    exact (mem_out.mp ((G _).mem_iff.mp this)).1
theorem Inv.le {q0 q : α → List Nat} {here : α} {left : Nat} {told : List Nat} (I : Inv W q0 q here left told) (G : Good W q0) : told.length ≤ 10 := by
  obtain ⟨nd, lt⟩ := I.nodup G
  have := List.Nodup.length_le_of_subset nd (l₂ := List.range 10) (fun p hp => List.mem_range.mpr (lt p hp))
  simpa using this
theorem sub_in {told : List Nat} (nd : told.Nodup) (lt : ∀ p ∈ told, p < 10) (v : α) : (fd W told v).length ≤ (inE W v).length := by
  refine List.Nodup.length_le_of_subset (List.Nodup.sublist List.filter_sublist nd) ?_
  intro p hp
  obtain ⟨a, b⟩ := List.mem_filter.mp hp
  exact mem_in.mpr ⟨lt p a, of_decide_eq_true b⟩

/-- where the walker must go on, its line holds a place that is not told yet -/
theorem Inv.more {q0 q : α → List Nat} {here : α} {left : Nat} {told : List Nat} (I : Inv W q0 q here left told) (G : Good W q0) (h : here ≠ W 0 ∨ 0 < left) :
    ∃ p rest, q0 here = fs W told here ++ p :: rest ∧ q here = p :: rest ++ fs W told here := by
  obtain ⟨nd, lt⟩ := I.nodup G
  obtain ⟨rest, e1, e2⟩ := I.split here
  have hl : (q0 here).length = (inE W here).length := by rw [(G here).length_eq, in_out]
  have hlt : (fs W told here).length < (inE W here).length := by
    by_cases hs : here = W 0
    · have hl := I.left
      rw [hs]
      rcases h with h | h
      · exact absurd hs h
      · omega
    · have hb := I.bal here
      have := sub_in (W := W) nd lt here
      rw [if_neg hs, if_pos rfl] at hb
      omega
  cases rest with
  | nil => rw [e1] at hl; simp at hl; omega
  | cons p rest => exact ⟨p, rest, e1, e2⟩

theorem turn_self {q : α → List Nat} {v : α} : turnQ q v v = rot (q v) := by simp [turnQ]
theorem turn_ne {q : α → List Nat} {v u : α} (h : u ≠ v) : turnQ q v u = q u := by simp [turnQ, h]

theorem lead_turn {q : α → List Nat} {a v : α} {p : Nat} {r : List Nat} (hq : q a = p :: r) (h : Lead W q a v) : Lead W (turnQ q a) (W p) v := by
  have ha : Lead W (turnQ q a) (W p) a := .step (p := p) (by rw [turn_self, hq]; simp [rot]) .base
  induction h with
  | base => exact ha
  | @step v p' hl _ ih =>
    by_cases e : v = a
    · subst e; exact ha
    · exact .step (by rw [turn_ne e]; exact hl) ih

theorem Inv.go {q0 q : α → List Nat} {here : α} {left : Nat} {told : List Nat} (I : Inv W q0 q here left told) (G : Good W q0) (h : here ≠ W 0 ∨ 0 < left) :
    Inv W q0 (turnQ q here) (W ((q here).headD 0)) (if here = W 0 then left - 1 else left) (told ++ [(q here).headD 0]) := by
  obtain ⟨p, rest, e1, e2⟩ := I.more G h
  have hp : (q here).headD 0 = p := by rw [e2]; rfl
  have hs : src W p = here := by
    have : p ∈ q0 here := by rw [e1]; simp
    exact (mem_out.mp ((G _).mem_iff.mp this)).2
  rw [hp]
  refine ⟨?_, ?_, ?_, ?_, ?_⟩
  · intro v
    rw [fs_app, hs]
    by_cases e : v = here
    · subst e
      refine ⟨rest, ?_, ?_⟩
      · rw [e1]; simp
      · rw [turn_self, e2]; simp [rot]
    · obtain ⟨r, a, b⟩ := I.split v
      refine ⟨r, ?_, ?_⟩
      · rw [a]; simp [e]
      · rw [turn_ne e, b]; simp [e]
  · intro v
    have hb := I.bal v
    rw [fs_app, fd_app, hs, List.length_append, List.length_append]
    have c1 : (if v = W p then [p] else []).length = if v = W p then 1 else 0 := by split <;> rfl
    have c2 : (if v = here then [p] else []).length = if v = here then 1 else 0 := by split <;> rfl
    rw [c1, c2]
    omega
  · have hl := I.left
    rw [fs_app, hs, List.length_append]
    by_cases e : here = W 0
    · rw [if_pos e, if_pos e.symm]
      simp only [List.length_cons, List.length_nil]
      rcases h with h | h
      · exact absurd e h
      · omega
    · have : ¬ (W 0 = here) := fun x => e x.symm
      rw [if_neg e, if_neg this]
      simp only [List.length_nil]
      omega
  · intro p' hp'
    rcases List.mem_append.mp hp' with h' | h'
    · exact lead_turn e2 (I.lead p' h')
    · rw [List.mem_singleton.mp h', hs]
      exact lead_turn e2 .base
  · exact lead_turn e2 I.lead0

/-- a round ends at the first word, all its places asked -/
theorem rgo_end {q0 : α → List Nat} (G : Good W q0) : ∀ f q here left told, Inv W q0 q here left told → f + told.length = 11 →
    ∃ here' left', Inv W q0 (rgo W (W 0) f q here left told).1 here' left' (rgo W (W 0) f q here left told).2 ∧ here' = W 0 ∧ left' = 0 := by
  intro f
  induction f with
  | zero =>
    intro q here left told I hf
    have := I.le G
    omega
  | succ f ih =>
    intro q here left told I hf
    have hstep : rgo W (W 0) (f + 1) q here left told = if told.length ≤ 10 ∧ (here ≠ W 0 ∨ 0 < left) then
      rgo W (W 0) f (turnQ q here) (W ((q here).headD 0)) (if here = W 0 then left - 1 else left) (told ++ [(q here).headD 0])
    else (q, told) := rfl
    rw [hstep]
    by_cases hc : told.length ≤ 10 ∧ (here ≠ W 0 ∨ 0 < left)
    · rw [if_pos hc]
      obtain ⟨h2, l2, I2, e⟩ := ih _ _ _ _ (I.go G hc.2) (by simp; omega)
      exact ⟨h2, l2, I2, e⟩
    · rw [if_neg hc]
      have := I.le G
      have hn : ¬ (here ≠ W 0 ∨ 0 < left) := fun x => hc ⟨this, x⟩
      refine ⟨here, left, I, ?_, ?_⟩
      · exact Decidable.byContradiction fun x => hn (.inl x)
      · exact Nat.eq_zero_of_not_pos fun x => hn (.inr x)
end plain

section rounds
variable {α : Type} [DecidableEq α] {W : Nat → α}
theorem round_inv {q : α → List Nat} (G : Good W q) : ∃ left, Inv W q (round W q).1 (W 0) left (round W q).2 ∧ left = 0 := by
  obtain ⟨h, l, I, e1, e2⟩ := rgo_end G 11 q (W 0) (inE W (W 0)).length [] .start rfl
  subst e1
  exact ⟨l, I, e2⟩

theorem round_nd {q : α → List Nat} (G : Good W q) : (round W q).2.Nodup ∧ ∀ p ∈ (round W q).2, p < 10 := by
  obtain ⟨l, I, _⟩ := round_inv G
  exact I.nodup G
theorem round_good {q : α → List Nat} (G : Good W q) : Good W (round W q).1 := by
  obtain ⟨l, I, _⟩ := round_inv G
  intro v
  obtain ⟨r, a, b⟩ := I.split v
  rw [b]
  refine List.Perm.trans List.perm_append_comm ?_
  rw [← a]
  exact G v
theorem round_bal {q : α → List Nat} (G : Good W q) (v : α) : (fd W (round W q).2 v).length = (fs W (round W q).2 v).length := by
  obtain ⟨l, I, _⟩ := round_inv G
  have := I.bal v
  omega
theorem full_of_len {told : List Nat} (nd : told.Nodup) (lt : ∀ p ∈ told, p < 10) {v : α} (h : (fd W told v).length = (inE W v).length) : (fd W told v).Perm (inE W v) := by
  have nd1 : (fd W told v).Nodup := List.Nodup.sublist List.filter_sublist nd
  have sub : fd W told v ⊆ inE W v := fun p hp => mem_in.mpr ⟨lt p (List.mem_filter.mp hp).1, of_decide_eq_true (List.mem_filter.mp hp).2⟩
  rw [List.perm_ext_iff_of_nodup nd1 (in_nd v)]
  intro p
  refine ⟨fun h => sub h, fun hp => ?_⟩
  refine Decidable.byContradiction fun hn => ?_
  have nd2 : (p :: fd W told v).Nodup := List.nodup_cons.mpr ⟨hn, nd1⟩
  have := List.Nodup.length_le_of_subset nd2 (l₂ := inE W v) (fun x hx => by
    rcases List.mem_cons.mp hx with e | hx
    · subst e; exact hp
    · exact sub hx)
  simp only [List.length_cons] at this
  omega
/-- of each name that is led, every place is told -/
theorem round_led {q : α → List Nat} (G : Good W q) {v : α} (h : Lead W q (W 0) v) : (fd W (round W q).2 v).Perm (inE W v) := by
  obtain ⟨nd, lt⟩ := round_nd G
  obtain ⟨l, I, hl⟩ := round_inv G
  have hb := round_bal G
  induction h with
  | base =>
    refine full_of_len nd lt ?_
    have := I.left
    rw [hb]; omega
  | @step v p hp _ ih =>
    refine full_of_len nd lt ?_
    have hpv : p ∈ q v := List.mem_of_getLast? hp
    have hpo := mem_out.mp ((G v).mem_iff.mp hpv)
    have hpt : p ∈ (round W q).2 := (List.mem_filter.mp (ih.mem_iff.mpr (mem_in.mpr ⟨hpo.1, rfl⟩))).1
    obtain ⟨rest, e1, e2⟩ := I.split v
    have hpf : p ∈ fs W (round W q).2 v := List.mem_filter.mpr ⟨hpt, by simp [hpo.2]⟩
    have ndq : (q v).Nodup := (G v).nodup_iff.mpr (out_nd v)
    have hr : rest = [] := by
      cases rest with
      | nil => rfl
      | cons a r =>
        exfalso
        rw [e1] at hp ndq
        rw [List.getLast?_append, List.getLast?_eq_some_getLast (l := a :: r) (by simp), Option.some_or] at hp
        rw [← List.getLast?_eq_some_getLast (l := a :: r) (by simp)] at hp
        have : p ∈ a :: r := List.mem_of_getLast? hp
        exact (List.nodup_append.mp ndq).2.2 p hpf p this rfl
    rw [hr, List.append_nil] at e1
    rw [hb, ← e1, (G v).length_eq, in_out]

theorem round_told {q : α → List Nat} (G : Good W q) : ∀ p ∈ (round W q).2, Lead W (round W q).1 (W 0) (W p) ∧ Lead W (round W q).1 (W 0) (src W p) := by
  obtain ⟨l, I, hl⟩ := round_inv G
  intro p hp
  refine ⟨?_, I.lead p hp⟩
  have hb := round_bal G (W p)
  have : p ∈ fd W (round W q).2 (W p) := List.mem_filter.mpr ⟨hp, by simp⟩
  have h1 : 0 < (fd W (round W q).2 (W p)).length := List.length_pos_of_mem this
  rw [hb] at h1
  obtain ⟨x, hx⟩ := List.exists_mem_of_length_pos h1
  obtain ⟨a, b⟩ := List.mem_filter.mp hx
  have := I.lead x a
  rwa [of_decide_eq_true b] at this

theorem mem_of_full {told : List Nat} (nd : told.Nodup) (lt : ∀ p ∈ told, p < 10) (h : told.length = 10) : ∀ p, p < 10 → p ∈ told := by
  intro p hp
  refine Decidable.byContradiction fun hn => ?_
  have nd2 : (p :: told).Nodup := List.nodup_cons.mpr ⟨hn, nd⟩
  have := List.Nodup.length_le_of_subset nd2 (l₂ := List.range 10) (fun x hx => by
    rcases List.mem_cons.mp hx with e | hx
    · subst e; exact List.mem_range.mpr hp
    · exact List.mem_range.mpr (lt x hx))
  simp only [List.length_cons, List.length_range] at this
  omega
/-- a full round leaves the lines as they were -/
theorem round_full {q : α → List Nat} (G : Good W q) (h : (round W q).2.length = 10) : (round W q).1 = q := by
  obtain ⟨nd, lt⟩ := round_nd G
  obtain ⟨l, I, hl⟩ := round_inv G
  have all := mem_of_full nd lt h
  funext v
  obtain ⟨rest, e1, e2⟩ := I.split v
  have hr : rest = [] := by
    cases rest with
    | nil => rfl
    | cons a r =>
      exfalso
      have ndq : (q v).Nodup := (G v).nodup_iff.mpr (out_nd v)
      have ha : a ∈ q v := by rw [e1]; simp
      have hao := mem_out.mp ((G v).mem_iff.mp ha)
      rw [e1] at ndq
      exact (List.nodup_append.mp ndq).2.2 a (List.mem_filter.mpr ⟨all a hao.1, by simp [hao.2]⟩) a (.head _) rfl
  rw [e2, e1, hr]; simp
theorem round_all {q : α → List Nat} (G : Good W q) (h : ∀ j, j < 10 → Lead W q (W 0) (W j)) : (round W q).2.length = 10 := by
  obtain ⟨nd, lt⟩ := round_nd G
  have : ∀ j, j < 10 → j ∈ (round W q).2 := fun j hj => (List.mem_filter.mp ((round_led G (h j hj)).mem_iff.mpr (mem_in.mpr ⟨hj, rfl⟩))).1
  have h1 := List.Nodup.length_le_of_subset List.nodup_range (l₁ := List.range 10) (l₂ := (round W q).2) (fun x hx => this x (List.mem_range.mp hx))
  have h2 := List.Nodup.length_le_of_subset nd (l₂ := List.range 10) (fun p hp => List.mem_range.mpr (lt p hp))
  simp only [List.length_range] at h1 h2
  omega
theorem round_iff {q : α → List Nat} (G : Good W q) : (round W q).2.length = 10 ↔ ∀ j, j < 10 → Lead W q (W 0) (W j) := by
  refine ⟨fun h j hj => ?_, round_all G⟩
  obtain ⟨nd, lt⟩ := round_nd G
  have := (round_told G j (mem_of_full nd lt h j hj)).1
  rwa [round_full G h] at this

/-- led names are led behind the round too; who has a place into them is led then -/
theorem led_keeps {q : α → List Nat} (G : Good W q) {j : Nat} (hj : j < 10) (h : Lead W q (W 0) (W j)) : Lead W (round W q).1 (W 0) (W j) ∧ Lead W (round W q).1 (W 0) (src W j) :=
  round_told G j (List.mem_filter.mp ((round_led G h).mem_iff.mpr (mem_in.mpr ⟨hj, rfl⟩))).1
end rounds
end Mine
end

section
local macro_rules | `(tactic| walk_at "no such key") => `(tactic| fail "no such key")
local macro_rules | `(tactic| walk_at "no such key") => `(tactic| fail "no such key")
theorem Mine.startPlainLed : True := by
  w_top off
  trivial
set_option linter.unusedVariables false
namespace Mine
section led
variable {α : Type} [DecidableEq α] (W : Nat → α)
def lastW (q : α → List Nat) (v : α) : α := W ((q v).getLast?.getD 0)
def ledStep (q : α → List Nat) (led : List α) (v : α) : List α := if v ∉ led ∧ lastW W q v ∈ led then led ++ [v] else led
def ledPass (q : α → List Nat) (names led : List α) : List α := names.foldl (ledStep W q) led
def ledN (q : α → List Nat) (names : List α) : Nat → List α
  | 0 => [W 0]
  | k + 1 => ledPass W q names (ledN q names k)
structure Names (names : List α) : Prop where
  nd : names.Nodup
  len : names.length ≤ 5
  mem : ∀ v, v ∈ names ↔ ∃ j, j < 10 ∧ W j = v
def qAt (q : α → List Nat) : Nat → (α → List Nat)
  | 0 => q
  | k + 1 => (round W (qAt q k)).1
variable {W}

structure LedOk (W : Nat → α) (q : α → List Nat) (names led : List α) : Prop where
  nd : led.Nodup
  sub : led ⊆ names
  zero : W 0 ∈ led
  lead : ∀ v ∈ led, Lead W q (W 0) v

theorem last_of {q : α → List Nat} (G : Good W q) {v : α} {j : Nat} (hj : j < 10) (hv : W j = v) : ∃ p, (q v).getLast? = some p ∧ p < 10 ∧ lastW W q v = W p := by
  have hne : q v ≠ [] := by
    intro e
    have h1 := (G v).length_eq
    rw [e, ← in_out] at h1
    have : j ∈ inE W v := mem_in.mpr ⟨hj, hv⟩
    have := List.length_pos_of_mem this
    simp at h1; omega
  obtain ⟨p, hp⟩ : ∃ p, (q v).getLast? = some p := ⟨_, List.getLast?_eq_some_getLast hne⟩
  refine ⟨p, hp, (mem_out.mp ((G v).mem_iff.mp (List.mem_of_getLast? hp))).1, ?_⟩
  rw [lastW, hp]; rfl

theorem ledOk_step {q : α → List Nat} (G : Good W q) {names led : List α} (N : Names W names) (K : LedOk W q names led) {v : α} (hv : v ∈ names) : LedOk W q names (ledStep W q led v) := by
  unfold ledStep
  by_cases h : v ∉ led ∧ lastW W q v ∈ led
  · rw [if_pos h]
    obtain ⟨j, hj, ej⟩ := (N.mem v).mp hv
    obtain ⟨p, hp, _, e⟩ := last_of G hj ej
    refine ⟨?_, ?_, List.mem_append_left _ K.zero, ?_⟩
    · rw [List.nodup_append]
      refine ⟨K.nd, by simp, ?_⟩
      intro a ha b hb e
      rw [List.mem_singleton.mp hb] at e
      exact h.1 (e ▸ ha)
    · intro x hx
      rcases List.mem_append.mp hx with hx | hx
      · exact K.sub hx
      · rw [List.mem_singleton.mp hx]; exact hv
    · intro x hx
      rcases List.mem_append.mp hx with hx | hx
      · exact K.lead x hx
      · rw [List.mem_singleton.mp hx]
        exact .step hp (e ▸ K.lead _ h.2)
  · rw [if_neg h]; exact K

theorem ledStep_sub {q : α → List Nat} {led : List α} {v : α} : led ⊆ ledStep W q led v := by
  unfold ledStep; split
  · exact fun x hx => List.mem_append_left _ hx
  · exact fun x hx => hx
theorem ledStep_len {q : α → List Nat} {led : List α} {v : α} : led.length ≤ (ledStep W q led v).length := by
  unfold ledStep; split <;> simp

theorem pass_ok {q : α → List Nat} (G : Good W q) {names : List α} (N : Names W names) : ∀ (l led : List α), l ⊆ names → LedOk W q names led → LedOk W q names (l.foldl (ledStep W q) led) := by
  intro l
  induction l with
  | nil => intro led _ K; exact K
  | cons v r ih => intro led hs K; exact ih _ (fun x hx => hs (.tail _ hx)) (ledOk_step G N K (hs (.head _)))
theorem pass_len {q : α → List Nat} : ∀ (l led : List α), led.length ≤ (l.foldl (ledStep W q) led).length := by
  intro l
  induction l with
  | nil => intro led; exact Nat.le_refl _
  | cons v r ih => intro led; exact Nat.le_trans ledStep_len (ih _)
/-- a pass that adds nothing: nothing was to be added -/
theorem pass_same {q : α → List Nat} : ∀ (l led : List α), (l.foldl (ledStep W q) led).length = led.length → l.foldl (ledStep W q) led = led ∧ ∀ v ∈ l, lastW W q v ∈ led → v ∈ led := by
  intro l
  induction l with
  | nil => intro led _; exact ⟨rfl, fun v hv => (nomatch hv)⟩
  | cons v r ih =>
    intro led h
    rw [List.foldl_cons] at h ⊢
    have h1 : led.length ≤ (ledStep W q led v).length := ledStep_len
    have h2 := pass_len (W := W) (q := q) r (ledStep W q led v)
    have h3 : (ledStep W q led v).length = led.length := by omega
    by_cases c : v ∉ led ∧ lastW W q v ∈ led
    · exfalso; unfold ledStep at h3; rw [if_pos c] at h3; simp at h3
    · have e : ledStep W q led v = led := by unfold ledStep; rw [if_neg c]
      rw [e] at h ⊢
      obtain ⟨a, b⟩ := ih led h
      refine ⟨a, fun u hu hl => ?_⟩
      rcases List.mem_cons.mp hu with x | x
      · subst x
        exact Decidable.byContradiction fun n => c ⟨n, hl⟩
      · exact b u x hl

def Closed (W : Nat → α) (q : α → List Nat) (names led : List α) : Prop := ∀ v ∈ names, lastW W q v ∈ led → v ∈ led
theorem ledN_ok {q : α → List Nat} (G : Good W q) {names : List α} (N : Names W names) : ∀ k, LedOk W q names (ledN W q names k) := by
  intro k
  induction k with
  | zero => exact ⟨by simp [ledN], fun x hx => by rw [ledN] at hx; rw [List.mem_singleton.mp hx]; exact (N.mem _).mpr ⟨0, by decide, rfl⟩, by simp [ledN], fun v hv => by rw [ledN] at hv; rw [List.mem_singleton.mp hv]; exact .base⟩
  | succ k ih => exact pass_ok G N names _ (fun x hx => hx) ih
theorem all_of_len {names led : List α} (nd : led.Nodup) (ndn : names.Nodup) (sub : led ⊆ names) (h : names.length ≤ led.length) : names ⊆ led := by
  intro v hv
  refine Decidable.byContradiction fun hn => ?_
  have nd2 : (v :: led).Nodup := List.nodup_cons.mpr ⟨hn, nd⟩
  have := List.Nodup.length_le_of_subset nd2 (l₂ := names) (fun x hx => by
    rcases List.mem_cons.mp hx with e | hx
    · subst e; exact hv
    · exact sub hx)
  simp only [List.length_cons] at this
  omega
theorem ledN_grow {q : α → List Nat} (G : Good W q) {names : List α} (N : Names W names) : ∀ k, Closed W q names (ledN W q names k) ∨ k + 1 ≤ (ledN W q names k).length := by
  intro k
  induction k with
  | zero => exact .inr (by simp [ledN])
  | succ k ih =>
    have hl := pass_len (W := W) (q := q) names (ledN W q names k)
    by_cases e : (ledPass W q names (ledN W q names k)).length = (ledN W q names k).length
    · obtain ⟨a, b⟩ := pass_same (W := W) (q := q) names _ e
      left
      intro v hv h
      have a' : ledN W q names (k + 1) = ledN W q names k := a
      rw [a'] at h ⊢
      exact b v hv h
    · rcases ih with ih | ih
      · exfalso
        apply e
        have : ∀ l led : List α, (∀ v ∈ l, lastW W q v ∈ led → v ∈ led) → l.foldl (ledStep W q) led = led := by
          intro l
          induction l with
          | nil => intro led _; rfl
          | cons v r ih2 =>
            intro led h
            have c : ¬ (v ∉ led ∧ lastW W q v ∈ led) := fun x => x.1 (h v (.head _) x.2)
            rw [List.foldl_cons]
            have e : ledStep W q led v = led := by unfold ledStep; rw [if_neg c]
            rw [e]
            exact ih2 led fun u hu => h u (.tail _ hu)
        show (names.foldl (ledStep W q) _).length = _
        rw [this _ _ ih]
      · right
        show k + 1 + 1 ≤ (ledPass W q names (ledN W q names k)).length
        have : (ledN W q names k).length ≤ (ledPass W q names (ledN W q names k)).length := hl
        omega
theorem ledN_closed {q : α → List Nat} (G : Good W q) {names : List α} (N : Names W names) : Closed W q names (ledN W q names 4) := by
  rcases ledN_grow G N 4 with h | h
  · exact h
  · have K := ledN_ok G N 4
    have := all_of_len K.nd N.nd K.sub (by have := N.len; omega)
    exact fun v hv _ => this hv

/-- who is led -/
theorem led_iff {q : α → List Nat} (G : Good W q) {names : List α} (N : Names W names) (v : α) : v ∈ ledN W q names 4 ↔ Lead W q (W 0) v := by
  have K := ledN_ok G N 4
  refine ⟨K.lead v, fun h => ?_⟩
  induction h with
  | base => exact K.zero
  | @step v p hp _ ih =>
    refine ledN_closed G N v ?_ ?_
    · have := mem_out.mp ((G v).mem_iff.mp (List.mem_of_getLast? hp))
      exact (N.mem v).mpr ⟨(p + 9) % 10, Nat.mod_lt _ (by decide), this.2⟩
    · rw [lastW, hp]; exact ih

theorem good_at {q : α → List Nat} (G : Good W q) : ∀ k, Good W (qAt W q k)
  | 0 => G
  | k + 1 => round_good (good_at G k)

theorem cyc {P : α → Prop} (h0 : P (W 0)) (h : ∀ p, p < 10 → P (W p) → P (src W p)) : ∀ j, j < 10 → P (W j) := by
  have h9 : P (W 9) := h 0 (by decide) h0
  have h8 : P (W 8) := h 9 (by decide) h9
  have h7 : P (W 7) := h 8 (by decide) h8
  have h6 : P (W 6) := h 7 (by decide) h7
  have h5 : P (W 5) := h 6 (by decide) h6
  have h4 : P (W 4) := h 5 (by decide) h5
  have h3 : P (W 3) := h 4 (by decide) h4
  have h2 : P (W 2) := h 3 (by decide) h3
  have h1 : P (W 1) := h 2 (by decide) h2
  intro j hj
  have : j = 0 ∨ j = 1 ∨ j = 2 ∨ j = 3 ∨ j = 4 ∨ j = 5 ∨ j = 6 ∨ j = 7 ∨ j = 8 ∨ j = 9 := by omega
  rcases this with rfl | rfl | rfl | rfl | rfl | rfl | rfl | rfl | rfl | rfl <;> assumption

abbrev ledAt (W : Nat → α) (q : α → List Nat) (names : List α) (k : Nat) : List α := ledN W (qAt W q k) names 4
abbrev toldAt (W : Nat → α) (q : α → List Nat) (k : Nat) : List Nat := (round W (qAt W q k)).2

theorem led_sub {q : α → List Nat} (G : Good W q) {names : List α} (N : Names W names) (k : Nat) : ledAt W q names k ⊆ ledAt W q names (k + 1) := by
  intro v hv
  have Gk := good_at G k
  have K := ledN_ok Gk N 4
  obtain ⟨j, hj, e⟩ := (N.mem v).mp (K.sub hv)
  have h := (led_iff Gk N v).mp hv
  subst e
  exact (led_iff (good_at G (k + 1)) N _).mpr (led_keeps Gk hj h).1

theorem led_more {q : α → List Nat} (G : Good W q) {names : List α} (N : Names W names) (k : Nat) (h : (ledAt W q names k).length < names.length) : (ledAt W q names k).length < (ledAt W q names (k + 1)).length := by
  have Gk := good_at G k
  have K := ledN_ok Gk N 4
  have K1 := ledN_ok (good_at G (k + 1)) N 4
  have hex : ∃ p, p < 10 ∧ W p ∈ ledAt W q names k ∧ src W p ∉ ledAt W q names k := by
    refine Decidable.byContradiction fun hn => ?_
    have all := cyc (W := W) (P := fun v => v ∈ ledAt W q names k) K.zero (fun p hp h1 => Decidable.byContradiction fun h2 => hn ⟨p, hp, h1, h2⟩)
    have hsub : names ⊆ ledAt W q names k := fun v hv => by
      obtain ⟨j, hj, e⟩ := (N.mem v).mp hv
      exact e ▸ all j hj
    have := List.Nodup.length_le_of_subset N.nd hsub
    omega
  obtain ⟨p, hp, h1, h2⟩ := hex
  have hin := (led_iff (good_at G (k + 1)) N _).mpr (led_keeps Gk hp ((led_iff Gk N _).mp h1)).2
  have nd2 : (src W p :: ledAt W q names k).Nodup := List.nodup_cons.mpr ⟨h2, K.nd⟩
  have := List.Nodup.length_le_of_subset nd2 (l₂ := ledAt W q names (k + 1)) (fun x hx => by
    rcases List.mem_cons.mp hx with e | hx
    · subst e; exact hin
    · exact led_sub G N k hx)
  simp only [List.length_cons] at this
  omega
theorem led_len {q : α → List Nat} (G : Good W q) {names : List α} (N : Names W names) : ∀ k, k + 1 ≤ names.length → k + 1 ≤ (ledAt W q names k).length := by
  intro k
  induction k with
  | zero =>
    intro _
    exact List.length_pos_of_mem (ledN_ok G N 4).zero
  | succ k ih =>
    intro h
    have h1 := ih (by omega)
    by_cases e : (ledAt W q names k).length < names.length
    · have := led_more G N k e; omega
    · have := List.Nodup.length_le_of_subset (ledN_ok (good_at G k) N 4).nd (led_sub G N k)
      have : (ledAt W q names k).length ≤ (ledAt W q names (k + 1)).length := this
      omega

theorem led_full {q : α → List Nat} (G : Good W q) {names : List α} (N : Names W names) (k : Nat) : (toldAt W q k).length = 10 ↔ (ledAt W q names k).length = names.length := by
  have Gk := good_at G k
  have K := ledN_ok Gk N 4
  have hle := List.Nodup.length_le_of_subset K.nd K.sub
  rw [round_iff Gk]
  constructor
  · intro h
    have hsub : names ⊆ ledAt W q names k := fun v hv => by
      obtain ⟨j, hj, e⟩ := (N.mem v).mp hv
      exact e ▸ (led_iff Gk N _).mpr (h j hj)
    have := List.Nodup.length_le_of_subset N.nd hsub
    show (ledN W (qAt W q k) names 4).length = names.length
    have : names.length ≤ (ledN W (qAt W q k) names 4).length := this
    omega
  · intro h j hj
    have := all_of_len K.nd N.nd K.sub (Nat.le_of_eq h.symm)
    exact (led_iff Gk N _).mp (this ((N.mem _).mpr ⟨j, hj, rfl⟩))

/-- the last two rounds -/
theorem last_two {q : α → List Nat} (G : Good W q) {names : List α} (N : Names W names) : (toldAt W q names.length).length = 10 ∧ toldAt W q names.length = toldAt W q (names.length - 1) := by
  have h1 : 1 ≤ names.length := List.length_pos_of_mem ((N.mem (W 0)).mpr ⟨0, by decide, rfl⟩)
  obtain ⟨n, hn⟩ : ∃ n, names.length = n + 1 := ⟨names.length - 1, by omega⟩
  have K := ledN_ok (good_at G n) N 4
  have h2 := led_len G N n (by omega)
  have h3 := List.Nodup.length_le_of_subset K.nd K.sub
  have hfull : (toldAt W q n).length = 10 := (led_full G N n).mpr (by
    have h2' : n + 1 ≤ (ledN W (qAt W q n) names 4).length := h2
    show (ledN W (qAt W q n) names 4).length = names.length
    omega)
  have hq : qAt W q (n + 1) = qAt W q n := round_full (good_at G n) hfull
  rw [hn]
  simp only [Nat.add_sub_cancel]
  have : toldAt W q (n + 1) = toldAt W q n := by
    show (round W (qAt W q (n + 1))).2 = (round W (qAt W q n)).2
    rw [hq]
  exact ⟨this ▸ hfull, this⟩

/-- what the round before has told is led -/
theorem told_led {q : α → List Nat} (G : Good W q) {names : List α} (N : Names W names) (k : Nat) : ∀ p ∈ toldAt W q k, W p ∈ ledAt W q names (k + 1) :=
  fun p hp => (led_iff (good_at G (k + 1)) N _).mpr (round_told (good_at G k) p hp).1
/-- of each led name the round tells the whole -/
theorem led_told {q : α → List Nat} (G : Good W q) {names : List α} (N : Names W names) (k : Nat) {v : α} (hv : v ∈ ledAt W q names k) : (fd W (toldAt W q k) v).Perm (inE W v) :=
  round_led (good_at G k) ((led_iff (good_at G k) N v).mp hv)
end led
end Mine
end

section
local macro_rules | `(tactic| walk_at "no such key") => `(tactic| fail "no such key")
local macro_rules | `(tactic| walk_at "no such key") => `(tactic| fail "no such key")
local macro_rules | `(tactic| walk_at "no such key") => `(tactic| fail "no such key")
theorem Mine.startPhR : True := by
  w_top off
  trivial
open PySem PySem.W PyProof.Rows
set_option maxRecDepth 100000
set_option linter.unusedVariables false
namespace Mine
section
variable {prog : Program} {w : World} {A : Around} {E : Value → Shared → Prop} {s : Shared} {h₀ : Heap} {L : Addr} {m : Str → Option Value} {news : List (Addr × Obj)}
theorem item_neg {value slice : PySem.Expr} {l : Addr} {q : List Value} {n : Nat} {k : Int} {u : Tok} {v : Value} {Q : Value → Shared → Prop} (N : News h₀ L s.heap news := by k_asm) (hm : (l, listOf q.toArray n) ∈ news := by k_mem) (h0 : k < 0 := by omega) (h1 : -(q.length : Int) ≤ k := by omega) (hhi : -(2 ^ 63) ≤ k := by omega) (hx : q[(k + q.length).toNat]? = some v := by with_reducible assumption) (h : Q v s)
    (hs : subscripted slice false (.ref l) (.int k u) = operate [.ref l, .int k u] (getItem (.ref l) (.int k u)) := by with_unfolding_all rfl) :
    wpAny (model prog w) A (subscriptTail value slice (.ref l) (.int k u)) Q E s :=
  tail_any (Heap.IsList.typeIs ⟨_, (N _ hm).1, rfl, n, rfl⟩) slot_list_getitem.lookup (wpAny_getItem_list_neg (items := q.toArray) ⟨_, (N _ hm).1, rfl, n, rfl⟩ h0 (by simpa using h1) hhi (by simpa using hx) h) hs
theorem len_led {l : Addr} {q : List Value} {n : Nat} {Q : Value → Shared → Prop} (N : News h₀ L s.heap news := by k_asm) (hm : (l, listOf q.toArray n) ∈ news := by k_mem) (hq : q.length ≤ 1000 := by omega) (h : ∀ t tk, Q (.int (q.length : Nat) t) { s with toks := tk }) :
    wpAny (model prog w) A (call (.builtin "len") [.ref l]) Q E s :=
  PyProof.Rows.len_list (items := q.toArray) ⟨_, (N _ hm).1, rfl, n, rfl⟩ (by rw [List.size_toArray]; omega) (by rw [List.size_toArray]; exact h _ _)
theorem app_led {l : Addr} {q : List Value} {n : Nat} {x : Value} {news' : List (Addr × Obj)} {Q : Value → Shared → Prop} (F : Fr h₀ L s.heap m := by k_asm) (N : News h₀ L s.heap news := by k_asm) (U : Upd l (listOf q.toArray n) (listOf (q ++ [x]).toArray (n + 1)) news news' := by k_upd) (hq : q.length ≤ 1000 := by omega)
    (h : ∀ h', Fr h₀ L h' m → News h₀ L h' news' → Q .none { s with heap := h' }) : wpAny (model prog w) A (call (.builtin "list.append") [.ref l, x]) Q E s :=
  append_K F N (by rw [List.push_toArray]; exact U) h (by rw [List.size_toArray, sizeLine_eq]; omega)
end
local macro_rules | `(tactic| k_room) => `(tactic| ktr_room)
local macro_rules | `(tactic| ke_room) => `(tactic| (have hcL9 := cLine_is; (try dsimp only [ktrTop, Around.deeper, Around.in1]); omega))
local macro_rules | `(tactic| ktr_units) => `(tactic| (have hcL9 := cLine_is; (try dsimp only [ktrTop, Around.deeper, Around.in1]); omega))
local macro_rules | `(tactic| tb_rel) => `(tactic| first | assumption | (refine allLt_cons ?_ ?_; (case refine_1 => omega); (case refine_2 => tb_rel)) | exact allLt_mono (by assumption) (by omega) | fail "tb_rel")
local macro_rules | `(tactic| tb_start) => `(tactic| first | assumption | (refine nd_new ?_ ?_; (case refine_1 => tb_rel); (case refine_2 => tb_start)) | fail "tb_start")
local macro_rules | `(tactic| walk_at "exec For Name Call cons nil") => `(tactic| ((rename Fr _ _ _ _ => lF'); k_dflt (refine for_src lF' (by rfl) (by rfl) ?_)))
local macro_rules | `(tactic| walk_at "getMethod ref") => `(tactic| ((with_reducible show wpAny _ _ (getMethod _ (PySem.Str.ofString "count") _) _ _ _); k_dflt (refine' listMethod_K (by k_asm) (by k_mem) PySem.F.slot_list_count PySem.F.type_list_count ?_)))
local macro_rules | `(tactic| walk_at "subscriptTail Name UnaryOp ref int") => `(tactic| k_dflt (refine' item_neg (h := ?_)))
local macro_rules | `(tactic| walk_at "subscriptTail Name Subscript ref int") => `(tactic| k_dflt (refine' item_any (h := ?_)))
local macro_rules | `(tactic| walk_at "subscriptTail Name Constant ref int") => `(tactic| k_dflt (refine' item_any (h := ?_)))
local macro_rules | `(tactic| walk_at "subscriptTail Name Name ref str") => `(tactic| k_dflt (refine' kda_item (knd := PySem.strKind _ _) (by k_asm) (by k_mem) (by with_reducible assumption) (strKind_is _ _ _ _) (by with_reducible assumption) ?_))
local macro_rules | `(tactic| k_all) => `(tactic| assumption)
local macro_rules | `(tactic| walk_at "exec While BoolOp cons nil") => `(tactic| refine wait ?_)
local macro_rules | `(tactic| walk_at "exec If Compare") => `(tactic| refine wait ?_)
local macro_rules | `(tactic| walk_at "call ref") => `(tactic| refine wait ?_)

local macro_rules | `(tactic| walk_at "call builtin:list.append") => `(tactic| (k_dflt (refine' app_led (h := ?_)); intro h' F' N'))
local macro_rules | `(tactic| walk_at "call builtin:len") => `(tactic| (k_dflt (refine' len_led (h := ?_)); intro _ _))
/-- the dict of the lines, what waits in them -/
structure LinesOk (w : World) (W : Nat → Str) (od : Obj) (ld : Addr) (Ls : List Lx) (qv : Str → List Value) (q : Str → List Nat) : Prop where
  dict : od.IsDictOf (PySem.strKind PySem.Challenge.rw_ph0055_01.row.prog w) (lkv Ls)
  low : (ld == sysModules) = false
  names : Names W (Ls.map (·.name))
  line : ∀ K ∈ Ls, VLine W (qv K.name) (q K.name)
theorem LinesOk.has {w : World} {W : Nat → Str} {od : Obj} {ld : Addr} {Ls : List Lx} {qv : Str → List Value} {q : Str → List Nat} (h : LinesOk w W od ld Ls qv q) {j : Nat} (hj : j < 10) : ∃ K ∈ Ls, K.name = W j := by
  have := (h.names.mem (W j)).mpr ⟨j, hj, rfl⟩
  obtain ⟨K, hK, e⟩ := List.mem_map.mp this
  exact ⟨K, hK, e⟩

/-- how a while's turn ends -/
def WEnd (h₀ : Heap) (L : Addr) (J : Nat → (Str → Option Value) → List (Addr × Obj) → Prop) (rest : List (Addr × Obj)) (s : Shared) (n : Nat) (f : Flow) (s₃ : Shared) : Prop :=
  f = .next ∧ ∃ h' tk m₂ X₂ n', s₃ = { s with heap := h', toks := tk } ∧ Led h₀ L m₂ h' (X₂ ++ rest) ∧ n' < n ∧ J n' m₂ X₂
theorem WEnd.intro {h₀ h' : Heap} {L : Addr} {J : Nat → (Str → Option Value) → List (Addr × Obj) → Prop} {X₂ rest : List (Addr × Obj)} {s : Shared} {n n' tk : Nat} {m₂ : Str → Option Value} (D : Led h₀ L m₂ h' (X₂ ++ rest)) (hn : n' < n) (hJ : J n' m₂ X₂) :
    WEnd h₀ L J rest s n .next { s with heap := h', toks := tk } := ⟨rfl, h', tk, m₂, X₂, n', rfl, D, hn, hJ⟩
/-- while, over the ledger -/
theorem while_led {prog : Program} {w : World} {A : Around} {E : Value → Shared → Prop} {Q : Flow → Shared → Prop} {s : Shared} {env : Env} {h₀ : Heap} {L : Addr} {test : Expr} {body : List Stmt} {pos : Pos} {m : Str → Option Value} {X rest : List (Addr × Obj)} (J : Nat → (Str → Option Value) → List (Addr × Obj) → Prop) {n₀ : Nat}
    (D : Led h₀ L m s.heap (X ++ rest)) (hJ : J n₀ m X)
    (turn : ∀ n m₁ X₁ h₁ tk₁, ∀ qT : Flow → Shared → Prop, (∀ f s', WEnd h₀ L J rest s n f s' → qT f s') → Led h₀ L m₁ h₁ (X₁ ++ rest) → J n m₁ X₁ →
      wpAny (model prog w) A (isTrue test env (eval test env)) (fun b s₂ =>
        if b = true then wpAny (model prog w) A (execs body env) qT E s₂ else Q .next s₂) E { s with heap := h₁, toks := tk₁ })
    (hE : PassesOwn (model prog w) A env E := by passes_own) :
    wpAny (model prog w) A (exec (.While test body [] pos) env) Q E s := by
  refine While_inv (fun n m news => ∃ X, news = X ++ rest ∧ (news.map (·.1)).Nodup ∧ J n m X) D.fr D.nw ⟨X, rfl, D.nd, hJ⟩ ?_ hE
  rintro n m₁ news₁ h₁ tk₁ F₁ N₁ ⟨X₁, rfl, nd, J₁⟩
  refine wpAny_mono (turn n m₁ X₁ h₁ tk₁ _ (fun _ _ x => x) ⟨F₁, N₁, nd⟩ J₁) (fun b s₂ h₂ => ?_) fun _ _ e => e
  cases b with
  | false => simpa using h₂
  | true =>
    simp only [if_true] at h₂ ⊢
    refine wpAny_mono h₂ (fun f s₃ h₃ => ?_) fun _ _ e => e
    obtain ⟨rfl, h', tk, m₂, X₂, n', rfl, D₂, hn, J₂⟩ := h₃
    exact ⟨rfl, h', tk, m₂, X₂ ++ rest, n', rfl, D₂.fr, D₂.nw, hn, X₂, rfl, D₂.nd, J₂⟩

theorem strs_ten {ws : List Value} {W : Nat → Str} (h : StrsAre ws W) : ∃ t : Nat → Tok, ws = (List.range 10).map fun i => Value.str (W i) (t i) := by
  have key : ∀ i, ∃ t, i < 10 → ws[i]? = some (.str (W i) t) := fun i => by
    by_cases hi : i < 10
    · obtain ⟨t, ht⟩ := h.2 i hi; exact ⟨t, fun _ => ht⟩
    · exact ⟨0, fun x => absurd x hi⟩
  refine ⟨fun i => (key i).choose, List.ext_getElem? fun i => ?_⟩
  rw [List.getElem?_map]
  by_cases hi : i < 10
  · rw [(key i).choose_spec hi, List.getElem?_range hi]; rfl
  · rw [List.getElem?_eq_none_iff.mpr (by rw [h.1]; omega), List.getElem?_eq_none_iff.mpr (by simp; omega)]; rfl
theorem strs_rows {t : Nat → Tok} {W : Nat → Str} : ∀ l : List Nat, PyProof.Rows.StrsAre (l.map fun i => Value.str (W i) (t i)) (l.map W)
  | [] => .nil
  | i :: l => .cons _ _ (strs_rows l)
theorem countP_words {W : Nat → Str} {t : Nat → Tok} (k : Str) (l : List Nat) : (l.map fun i => Value.str (W i) (t i)).countP (isStrOf k) = (l.filter fun p => decide (W p = k)).length := by
  rw [List.countP_map, ← List.countP_eq_length_filter]
  congr 1
theorem count_words {prog : Program} {w : World} {A : Around} {E : Value → Shared → Prop} {s : Shared} {h₀ : Heap} {L : Addr} {news : List (Addr × Obj)} {wl : Addr} {ws : List Value} {n : Nat} {W : Nat → Str} {k : Str} {t : Tok} {Q : Value → Shared → Prop}
    (hw : StrsAre ws W := by assumption) (N : News h₀ L s.heap news := by k_asm) (hm : (wl, listOf ws.toArray n) ∈ news := by k_mem) (h : Q (.int ((inE W k).length : Nat) s.toks) { s with toks := s.toks + 1 }) :
    wpAny (model prog w) A (call (.builtin "list.count") [.ref wl, .str k t]) Q E s := by
  obtain ⟨tt, rfl⟩ := strs_ten hw
  refine count_list_strs (ys := (List.range 10).map W) ⟨_, (N _ hm).1, rfl, n, rfl⟩ (strs_rows _) ?_
  rw [← countP_isStrOf_map k (strs_rows (t := tt) _), countP_words]
  exact h
local macro_rules | `(tactic| walk_at "call builtin:list.count") => `(tactic| k_dflt (refine' count_words (h := ?_)))

def TVals (vs : List Value) (ps : List Nat) : Prop := ∃ ts : List Tok, ts.length = ps.length ∧ vs = List.zipWith (fun (p : Nat) t => Value.int p t) ps ts

theorem mp6 {m : Str → Option Value} {a b c d k l : Str} {u v x z e f : Value} (h : m a = some u) (h2 : m b = some v) (h3 : m c = some x) (h4 : m d = some z) (h5 : m k = some e) (h6 : m l = some f) : m = fun y => if y = a then some u else if y = b then some v else if y = c then some x else if y = d then some z else if y = k then some e else if y = l then some f else m y := by
  have e := mp5 h2 h3 h4 h5 h6
  funext y; by_cases e1 : y = a
  · subst e1; simp [h]
  · simp only [if_neg e1]; exact congrFun e y
theorem mp7 {m : Str → Option Value} {a b c d k l o : Str} {u v x z e f g : Value} (h : m a = some u) (h2 : m b = some v) (h3 : m c = some x) (h4 : m d = some z) (h5 : m k = some e) (h6 : m l = some f) (h7 : m o = some g) : m = fun y => if y = a then some u else if y = b then some v else if y = c then some x else if y = d then some z else if y = k then some e else if y = l then some f else if y = o then some g else m y := by
  have e := mp6 h2 h3 h4 h5 h6 h7
  funext y; by_cases e1 : y = a
  · subst e1; simp [h]
  · simp only [if_neg e1]; exact congrFun e y

theorem TVals.len {vs : List Value} {ps : List Nat} (h : TVals vs ps) : vs.length = ps.length := by
  obtain ⟨ts, h1, rfl⟩ := h
  rw [List.length_zipWith, h1, Nat.min_self]
theorem TVals.app {vs : List Value} {ps : List Nat} (h : TVals vs ps) (p : Nat) (t : Tok) : TVals (vs ++ [.int p t]) (ps ++ [p]) := by
  obtain ⟨ts, h1, rfl⟩ := h
  exact ⟨ts ++ [t], by simp [h1], by rw [List.zipWith_append h1.symm]; rfl⟩
theorem TVals.at {vs : List Value} {ps : List Nat} (h : TVals vs ps) {i p : Nat} (hp : ps[i]? = some p) : ∃ t, vs[i]? = some (.int p t) := by
  obtain ⟨ts, h1, rfl⟩ := h
  have hlt := (List.getElem?_eq_some_iff.mp hp).1
  refine ⟨ts[i]'(h1 ▸ hlt), ?_⟩
  rw [List.getElem?_zipWith, hp, List.getElem?_eq_getElem (h1 ▸ hlt)]
theorem perm_line {K3 R X M rest : List (Addr × Obj)} (h : X.Perm (K3 ++ R)) : (X ++ (M ++ rest)).Perm (K3 ++ (M ++ (R ++ rest))) := by
  refine (h.append_right _).trans ?_
  rw [List.append_assoc]
  exact (List.perm_append_comm_assoc R M rest).append_left _
theorem LinesOk.turn {w : World} {W : Nat → Str} {od : Obj} {ld : Addr} {Ls : List Lx} {qv : Str → List Value} {q : Str → List Nat} (ok : LinesOk w W od ld Ls qv q) {k : Str} {p : Nat} {r : List Nat} {v : Value} {rv : List Value} (hq : q k = p :: r)
    (hr : VLine W rv r) (hv : ∃ t, v = .str (stdS p (W p)) t) : LinesOk w W od ld Ls (upd qv k (rv ++ [v])) (turnQ q k) := by
  refine ⟨ok.dict, ok.low, ok.names, fun M hM => ?_⟩
  by_cases e : M.name = k
  · rw [e, upd_self, turn_self, hq]
    exact VLine.app hv hr
  · rw [upd_ne e, turn_ne e]
    exact ok.line M hM
theorem rgo_step {W : Nat → Str} {start : Str} {f : Nat} {q : Str → List Nat} {here : Str} {left : Nat} {told : List Nat} : rgo W start (f + 1) q here left told = if told.length ≤ 10 ∧ (here ≠ start ∨ 0 < left) then
      rgo W start f (turnQ q here) (W ((q here).headD 0)) (if here = start then left - 1 else left) (told ++ [(q here).headD 0])
    else (q, told) := rfl
theorem outE_le (W : Nat → Str) (v : Str) : (outE W v).length ≤ 10 := by
  have := List.length_filter_le (fun p => decide (src W p = v)) (List.range 10)
  simpa [outE] using this
theorem line_le {W : Nat → Str} {q : Str → List Nat} (G : Good W q) {v : Str} {a r : List Nat} {p : Nat} {vs : List Value} (h : q v = a ++ p :: r) (hv : VLine W vs (r ++ a)) : vs.length ≤ 100 := by
  have h1 := hv.len
  have h2 := (G v).length_eq
  have h3 := outE_le W v
  rw [h] at h2
  simp only [List.length_append, List.length_cons] at h1 h2
  omega
theorem last_at (vs : List Value) (v : Value) : (vs ++ [v])[((-1 : Int) + (vs ++ [v]).length).toNat]? = some v := by
  have : ((-1 : Int) + (vs ++ [v]).length).toNat = vs.length := by rw [List.length_append]; simp; omega
  rw [this]; simp
theorem Led.line_back {h₀ h : Heap} {L : Addr} {m : Str → Option Value} {w : World} {Ls : List Lx} {K : Lx} {k : Str} {R : (Str → List Value) → (Str → Nat) → List (Addr × Obj)} {qv : Str → List Value} {cap : Str → Nat} {v : List Value} {c : Nat} {p a b d : Addr × Obj} {rest : List (Addr × Obj)} (hKn : K.name = k)
    (r1 : ∀ qv cap, (lns w Ls qv cap).Perm (K.os w (qv K.name) (cap K.name) ++ R qv cap)) (r2 : ∀ qv cap v c, R (upd qv K.name v) (upd cap K.name c) = R qv cap)
    (D : Led h₀ L m h (p :: (K.os w v c ++ (a :: b :: d :: (R qv cap ++ rest))))) : Led h₀ L m h ((p :: lns w Ls (upd qv k v) (upd cap k c)) ++ (a :: b :: d :: rest)) := by
  subst hKn
  have h1 := r1 (upd qv K.name v) (upd cap K.name c)
  rw [upd_self, upd_self, r2] at h1
  exact Led.perm D (List.Perm.cons _ (perm_line (M := [a, b, d]) h1))
theorem left_same {left : Nat} {x y : Str} {m : Option Value} {t : Tok} (hb : x ≠ y) (hm : m = some (.int (left : Nat) t)) : ∃ t, m = some (.int ((if x = y then left - 1 else left : Nat) : Nat) t) := ⟨t, by rw [if_neg hb]; exact hm⟩
theorem left_less {left : Nat} {x y : Str} {m : Option Value} {t : Tok} (hb : x = y) (hl : 0 < left) (hm : m = some (.int ((left : Nat) - 1 : Int) t)) : ∃ t, m = some (.int ((if x = y then left - 1 else left : Nat) : Nat) t) := ⟨t, by rw [if_pos hb, hm]; congr 2; omega⟩
theorem bne_contra {a b : Str} (h1 : (a != b) = true) (h2 : (a == b) = true) : False := by rw [bne, h2] at h1; cases h1
theorem bne_contra' {a b : Str} (h1 : (a != b) = false) (h2 : (a == b) = false) : False := by rw [bne, h2] at h1; cases h1
theorem ne_of_bne' {a b : Str} (h1 : (a != b) = true) : a ≠ b := by simpa using h1
theorem eq_of_bne {a b : Str} (h1 : (a != b) = false) : a = b := by simpa using h1
/-- between two steps of a round -/
inductive RInv (w : World) (W : Nat → Str) (od : Obj) (ld pd wl l9 : Addr) (Ls : List Lx) (q : Str → List Nat) (f : Nat) (m : Str → Option Value) (X : List (Addr × Obj)) : Prop
  | mk : ∀ q' here left told vs n' qv' cap', (X = (l9, listOf vs.toArray n') :: lns w Ls qv' cap') → (TVals vs told) → (Inv W q q' here left told) → ((∃ j, j < 10 ∧ here = W j)) → (LinesOk w W od ld Ls qv' q') → (f + told.length = 11) → (rgo W (W 0) f q' here left told = round W q) → (m (Str.ofString "lines") = some (.ref ld)) → (m (Str.ofString "places") = some (.ref pd)) → (m (Str.ofString "words") = some (.ref wl)) → (m (Str.ofString "told") = some (.ref l9)) → ((∃ t, m (Str.ofString "start") = some (.str (W 0) t))) → ((∃ t, m (Str.ofString "here") = some (.str here t))) → ((∃ t, m (Str.ofString "left") = some (.int (left : Nat) t))) → RInv w W od ld pd wl l9 Ls q f m X
set_option maxHeartbeats 4000000 in
theorem round_con (w : World) (W : Nat → Str) (od op : Obj) (ld pd wl : Addr) (ws : List Value) (n : Nat) (Ls : List Lx) (qv : Str → List Value) (cap : Str → Nat) (q : Str → List Nat)
    (ok : LinesOk w W od ld Ls qv q) (pok : PlacesAre w op W 10) (pl : (pd == sysModules) = false) (wok : StrsAre ws W) (wn : ∀ i, i < 10 → W i ∈ names5) (G : Good W q) :
    Con w 138 [.ref ld, .ref pd, .ref wl] ((ld, od) :: (pd, op) :: (wl, listOf ws.toArray n) :: lns w Ls qv cap) 15 300
      (fun r made => ∃ t vs n' qv' cap', r = .ref t ∧ TVals vs (round W q).2 ∧ made = (t, listOf vs.toArray n') :: (ld, od) :: (pd, op) :: (wl, listOf ws.toArray n) :: lns w Ls qv' cap' ∧ LinesOk w W od ld Ls qv' (round W q).1) := by
  intro p loose mean mg mb dp un gd cn cs a ccd cl outer A₀ base h₀ L m s rest Q E B X T hk D hd hu hret
  have F := D.fr
  have N := D.nw
  have nd := D.nd
  simp only [List.cons_append] at N nd
  obtain ⟨t0, hw00⟩ := wok.2 0 (by decide)
  have hw0 : ws[(0 : Int).toNat]? = some (.str (W 0) t0) := hw00
  have hl0 : (W 0).length ≤ 100 := Nat.le_trans (nm_len (wn 0 (by decide))) (by decide)
  revert X; k_fill; intro X
  refine wpAny_call ?_
  k_dflt ktr_enter
  k_steps
  rename Fr _ _ _ _ => F9
  rename News _ _ _ _ => N9
  rename_i l9 h9 l19 h8 tk8 h7 h6 h5
  have D9 := Led.of F9 N9 (by tb_start)
  have D8 := Led.perm D9 (news' := ((l9, listOf #[] 0) :: lns w Ls qv cap) ++ ((ld, od) :: (pd, op) :: (wl, listOf ws.toArray n) :: rest)) (List.Perm.cons _ (List.perm_append_comm_assoc (lns w Ls qv cap) [(ld, od), (pd, op), (wl, listOf ws.toArray n)] rest))
  clear F9 N9 D9
  unfold Wait
  rename Below _ _ _ _ => B9
  rename Frag.In _ _ => X9
  rename Top _ _ _ _ _ _ => T9
  k_dflt (refine' while_led (RInv w W od ld pd wl l9 Ls q) D8 (n₀ := 11) ?_ ?_)
  · exact ⟨q, W 0, _, [], [], 0, qv, cap, rfl, ⟨[], rfl, rfl⟩, .start, ⟨0, by decide, rfl⟩, ok, rfl, rfl, rfl, rfl, rfl, rfl, ⟨_, rfl⟩, ⟨_, rfl⟩, ⟨_, rfl⟩⟩
  · rintro f m₁ X₁ h₁ tk₁ qT1 hT1 D₁ ⟨q', here, left, told, vs, n', qv', cap', rfl, hT, I, ⟨j, hj, rfl⟩, ok', hf, hr, hm1, hm2, hm3, hm4, ⟨t5, hm5⟩, ⟨t6, hm6⟩, ⟨t7, hm7⟩⟩
    obtain ⟨K, hK, hKn⟩ := ok'.has hj
    obtain ⟨R, r1, r2⟩ := lns_out (w := w) hK ok'.names.nd
    have hl1 : valueAt (lkv Ls) (W j) = some (.ref K.x) := by rw [← hKn]; exact lkv_at hK ok'.names.nd
    have hod := ok'.dict
    obtain ⟨kvs, hpd, -, hpv⟩ := id pok
    have D₂ : Led _ _ _ _ ((l9, listOf vs.toArray n') :: (K.os w (qv' K.name) (cap' K.name) ++ ((ld, od) :: (pd, op) :: (wl, listOf ws.toArray n) :: (R qv' cap' ++ rest)))) :=
      Led.perm D₁ (List.Perm.cons _ (perm_line (M := [(ld, od), (pd, op), (wl, listOf ws.toArray n)]) (r1 qv' cap')).symm)
    have hTl := hT.len
    have hle := I.le G
    have F' := D₂.fr
    have N' := D₂.nw
    have nd' := D₂.nd
    rw [mp7 hm1 hm2 hm3 hm4 hm5 hm6 hm7] at F'
    simp only [Lx.os, lexOs, List.cons_append, List.nil_append] at N' nd'
    have hlj : (W j).length ≤ 100 := Nat.le_trans (nm_len (wn j hj)) (by decide)
    clear D₁ D₂ D8
    refine wpAny_mono (Q := fun b s₂ => (∃ tk, s₂ = { s with heap := h₁, toks := tk }) ∧ (b = true ↔ (W j ≠ W 0 ∨ 0 < left))) ?tst (fun b s₂ h₂ => ?_) fun _ _ e => e
    case tst =>
      k_steps
      · exact ⟨fun _ => .inl (ne_of_bne' (by with_reducible assumption)), fun _ => rfl⟩
      · exact ⟨fun _ => .inr (by omega), fun _ => rfl⟩
      · exact ⟨nofun, fun h => h.elim (fun h => absurd (eq_of_bne (by with_reducible assumption)) h) fun h => absurd h (by omega)⟩
    obtain ⟨⟨tk₂, rfl⟩, hb⟩ := h₂
    cases b with
    | false =>
      have hcond : ¬ (told.length ≤ 10 ∧ (W j ≠ W 0 ∨ 0 < left)) := fun h => Bool.noConfusion (hb.mpr h.2)
      rw [if_neg Bool.false_ne_true]
      k_steps
      obtain ⟨f', rfl⟩ : ∃ f', f = f' + 1 := ⟨f - 1, by omega⟩
      rw [rgo_step, if_neg hcond] at hr
      rename Fr _ _ _ _ => F9
      rename News _ _ _ _ => N9
      have D9 := Led.of F9 N9 nd'
      refine hret _ _ _ _ ⟨l9, vs, n', qv', cap', rfl, by rw [← hr]; exact hT, rfl, by rw [← hr]; exact ok'⟩ ?_
      refine Led.perm D9 (List.Perm.cons _ ?_)
      refine List.Perm.trans ?_ (perm_line (M := [(ld, od), (pd, op), (wl, listOf ws.toArray n)]) (r1 qv' cap'))
      exact (List.perm_append_comm_assoc [(ld, od), (pd, op), (wl, listOf ws.toArray n)] (lns w Ls qv' cap') rest)
    | true =>
    have hcond : W j ≠ W 0 ∨ 0 < left := hb.mp rfl
    rw [if_pos rfl]
    clear hb
    k_steps
    rename Fr _ _ _ _ => F9
    rename News _ _ _ _ => N9
    unfold Wait
    refine If_join (Led.of F9 N9 nd') (fun m' X => X = (l9, listOf vs.toArray n') :: (K.l, listOf (qv' K.name).toArray (cap' K.name)) :: (K.x, instObj 52 K.dx) :: (K.dx, dictOf (lexEs w K.tks K.ln K.fp K.ws (.ref K.l)) 4) :: (ld, od) :: (pd, op) :: (wl, listOf ws.toArray n) :: (R qv' cap' ++ rest) ∧ m' (Str.ofString "lines") = some (.ref ld) ∧ m' (Str.ofString "places") = some (.ref pd) ∧ m' (Str.ofString "words") = some (.ref wl) ∧ m' (Str.ofString "told") = some (.ref l9) ∧
      (∃ t, m' (Str.ofString "start") = some (.str (W 0) t)) ∧ (∃ t, m' (Str.ofString "here") = some (.str (W j) t)) ∧ (∃ t, m' (Str.ofString "left") = some (.int ((if W j = W 0 then left - 1 else left : Nat) : Nat) t))) ?tst2 ?cont2
    case tst2 =>
      intro q8 r8 hq8 hr8
      k_steps
      · have hb : W j = W 0 := by simpa using (show (W j == W 0) = true by with_reducible assumption)
        rename Fr _ _ _ _ => F8
        rename News _ _ _ _ => N8
        exact hr8 _ _ _ _ (Led.of F8 N8 nd') ⟨rfl, rfl, rfl, rfl, rfl, ⟨_, rfl⟩, ⟨_, rfl⟩, left_less hb (hcond.elim (fun h => absurd hb h) id) rfl⟩
      · have hb : W j ≠ W 0 := by simpa using (show (W j == W 0) = false by with_reducible assumption)
        exact hq8 _ _ _ _ (Led.of F9 N9 nd') ⟨rfl, rfl, rfl, rfl, rfl, ⟨_, rfl⟩, ⟨_, rfl⟩, left_same hb rfl⟩
    clear F9 N9
    rintro h' tk' m' X D9 ⟨rfl, hm1, hm2, hm3, hm4, ⟨t5, hm5⟩, ⟨t6, hm6⟩, ⟨t7, hm7⟩⟩
    have F' := D9.fr
    have N' := D9.nw
    rw [mp7 hm1 hm2 hm3 hm4 hm5 hm6 hm7] at F'
    clear D9
    k_steps
    rename Fr _ _ _ _ => F9
    rename News _ _ _ _ => N9
    have D9 := Led.of F9 N9 nd'
    obtain ⟨p, r, e1, e2⟩ := I.more G hcond
    have hline := ok'.line K hK
    rw [hKn, e2, List.cons_append] at hline
    obtain ⟨v, rv, hv, ⟨tv, rfl⟩, hrest⟩ := hline.cons
    rw [hKn, hv] at D9
    have hp10 : p < 10 := (mem_out.mp ((G _).mem_iff.mp (show p ∈ q (W j) by rw [e1]; simp))).1
    have hrl : rv.length ≤ 100 := line_le G e1 hrest
    have D8 : Led _ _ _ _ (lexOs w K.x K.dx K.l K.tks K.ln K.fp K.ws (.str (stdS p (W p)) tv :: rv) (cap' (W j)) ++ ((l9, listOf vs.toArray n') :: (ld, od) :: (pd, op) :: (wl, listOf ws.toArray n) :: (R qv' cap' ++ rest))) := Led.swap (P := [(l9, listOf vs.toArray n')]) (S := lexOs w K.x K.dx K.l K.tks K.ln K.fp K.ws (.str (stdS p (W p)) tv :: rv) (cap' (W j))) (R := (ld, od) :: (pd, op) :: (wl, listOf ws.toArray n) :: (R qv' cap' ++ rest)) D9
    (clear F9 N9 D9 nd'; unfold Wait)
    (k_dflt (refine' pop_con w K.x K.dx K.l K.tks K.ln K.fp K.ws _ rv (cap' (W j)) hrl B9 X9 T9 ?rK D8 ?rd ?ru ?_); (case rK => rfl); (case rd => ktr_room); (case ru => ktr_units))
    rintro r9 made h' tk' ⟨rfl, rfl⟩ D'
    have D7 : Led _ _ _ _ ((l9, listOf vs.toArray n') :: (lexOs w K.x K.dx K.l K.tks K.ln K.fp K.ws rv (cap' (W j) + 1) ++ ((ld, od) :: (pd, op) :: (wl, listOf ws.toArray n) :: (R qv' cap' ++ rest)))) := Led.swap (P := lexOs w K.x K.dx K.l K.tks K.ln K.fp K.ws rv (cap' (W j) + 1)) (S := [(l9, listOf vs.toArray n')]) D'
    (clear D' D8; have F' := D7.fr; have N' := D7.nw; have nd' := D7.nd; simp only [lexOs, List.cons_append, List.nil_append] at N' nd'; clear D7)
    k_steps
    (rename Fr _ _ _ _ => F9; rename News _ _ _ _ => N9; have D9 := Led.of F9 N9 nd')
    have D8 : Led _ _ _ _ (lexOs w K.x K.dx K.l K.tks K.ln K.fp K.ws rv (cap' (W j) + 1) ++ ((l9, listOf vs.toArray n') :: (ld, od) :: (pd, op) :: (wl, listOf ws.toArray n) :: (R qv' cap' ++ rest))) := Led.swap (P := [(l9, listOf vs.toArray n')]) (S := lexOs w K.x K.dx K.l K.tks K.ln K.fp K.ws rv (cap' (W j) + 1)) (R := (ld, od) :: (pd, op) :: (wl, listOf ws.toArray n) :: (R qv' cap' ++ rest)) D9
    (clear F9 N9 D9 nd'; unfold Wait)
    (k_dflt (refine' push_con w K.x K.dx K.l K.tks K.ln K.fp K.ws _ rv (cap' (W j) + 1) hrl B9 X9 T9 ?rK D8 ?rd ?ru ?_); (case rK => rfl); (case rd => ktr_room); (case ru => ktr_units))
    rintro r9 made h' tk' ⟨rfl, rfl⟩ D'
    have D7 : Led _ _ _ _ ((l9, listOf vs.toArray n') :: (lexOs w K.x K.dx K.l K.tks K.ln K.fp K.ws (rv ++ [.str (stdS p (W p)) tv]) (cap' (W j) + 1 + 1) ++ ((ld, od) :: (pd, op) :: (wl, listOf ws.toArray n) :: (R qv' cap' ++ rest)))) := Led.swap (P := lexOs w K.x K.dx K.l K.tks K.ln K.fp K.ws (rv ++ [.str (stdS p (W p)) tv]) (cap' (W j) + 1 + 1)) (S := [(l9, listOf vs.toArray n')]) D'
    (clear D' D8; have F' := D7.fr; have N' := D7.nw; have nd' := D7.nd; simp only [lexOs, List.cons_append, List.nil_append] at N' nd'; clear D7)
    have hpe := hpv p hp10
    obtain ⟨tp, hpe⟩ := hpe
    obtain ⟨twp, hwp0⟩ := wok.2 p hp10
    have hwp : ws[((p : Nat) : Int).toNat]? = some (.str (W p) twp) := hwp0
    have hne := nd_head nd'
    have hll : (vs ++ [Value.int (p : Nat) tp]).length = told.length + 1 := by rw [List.length_append, hTl]; rfl
    have hlast : (vs ++ [Value.int (p : Nat) tp])[((-1 : Int) + (vs ++ [Value.int (p : Nat) tp]).length).toNat]? = some (.int (p : Nat) tp) := last_at _ _
    k_steps
    (rename Fr _ _ _ _ => F9; rename News _ _ _ _ => N9; have D9 := Led.of F9 N9 nd')
    obtain ⟨f', rfl⟩ : ∃ f', f = f' + 1 := ⟨f - 1, by omega⟩
    (rw [rgo_step, if_pos ⟨hle, hcond⟩] at hr)
    have hgo := I.go G hcond
    have hhd : (q' (W j)).headD 0 = p := by rw [e2]; rfl
    (rw [hhd] at hr hgo)
    have ok9 : LinesOk w W od ld Ls (upd qv' (W j) (rv ++ [.str (stdS p (W p)) tv])) (turnQ q' (W j)) := ok'.turn (by rw [e2]; rfl) hrest ⟨_, rfl⟩
    have D10 : Led _ _ _ _ (((l9, listOf (vs ++ [Value.int (p : Nat) tp]).toArray (n' + 1)) :: lns w Ls (upd qv' (W j) (rv ++ [Value.str (stdS p (W p)) tv])) (upd cap' (W j) (cap' (W j) + 1 + 1))) ++ ((ld, od) :: (pd, op) :: (wl, listOf ws.toArray n) :: rest)) := Led.line_back hKn r1 r2 D9
    refine hT1 _ _ (WEnd.intro D10 (Nat.lt_succ_self f') ⟨turnQ q' (W j), W p, _, told ++ [p], _, _, _, _, rfl, hT.app p tp, hgo, ⟨p, hp10, rfl⟩, ok9, by rw [List.length_append, List.length_singleton]; omega, hr, rfl, rfl, rfl, rfl, ⟨_, rfl⟩, ⟨_, rfl⟩, ⟨_, rfl⟩⟩)
end Mine
end

section
local macro_rules | `(tactic| walk_at "no such key") => `(tactic| fail "no such key")
theorem Mine.startPhLd : True := by
  w_top off
  trivial
open PySem PySem.W PyProof.Rows
set_option maxRecDepth 100000
set_option linter.unusedVariables false
namespace Mine
local macro_rules | `(tactic| k_room) => `(tactic| ktr_room)
local macro_rules | `(tactic| ke_room) => `(tactic| (have hcL9 := cLine_is; (try dsimp only [ktrTop, Around.deeper, Around.in1]); omega))
local macro_rules | `(tactic| ktr_units) => `(tactic| (have hcL9 := cLine_is; (try dsimp only [ktrTop, Around.deeper, Around.in1]); omega))
local macro_rules | `(tactic| tb_rel) => `(tactic| first | assumption | (refine allLt_cons ?_ ?_; (case refine_1 => omega); (case refine_2 => tb_rel)) | exact allLt_mono (by assumption) (by omega) | fail "tb_rel")
local macro_rules | `(tactic| tb_start) => `(tactic| first | assumption | (refine nd_new ?_ ?_; (case refine_1 => tb_rel); (case refine_2 => tb_start)) | fail "tb_start")
local macro_rules | `(tactic| k_all) => `(tactic| assumption)
local macro_rules | `(tactic| walk_at "exec For Name Call cons nil") => `(tactic| ((rename Fr _ _ _ _ => lF'); k_dflt (refine for_src lF' (by rfl) (by rfl) ?_)))
local macro_rules | `(tactic| walk_at "exec For Name Name cons nil") => `(tactic| ((rename Fr _ _ _ _ => lF'); k_dflt (refine for_src lF' (by rfl) (by rfl) ?_)))
local macro_rules | `(tactic| walk_at "call builtin:len") => `(tactic| (k_dflt (refine' len_led (h := ?_)); intro _ _))
local macro_rules | `(tactic| walk_at "call builtin:list.append") => `(tactic| (k_dflt (refine' app_led (h := ?_)); intro h' F' N'))
local macro_rules | `(tactic| walk_at "call builtin:list.count") => `(tactic| k_dflt (refine' count_words (h := ?_)))
local macro_rules | `(tactic| walk_at "getMethod ref") => `(tactic| ((with_reducible show wpAny _ _ (getMethod _ (PySem.Str.ofString "count") _) _ _ _); k_dflt (refine' listMethod_K (by k_asm) (by k_mem) PySem.F.slot_list_count PySem.F.type_list_count ?_)))
local macro_rules | `(tactic| walk_at "subscriptTail Name UnaryOp ref int") => `(tactic| k_dflt (refine' item_neg (h := ?_)))
local macro_rules | `(tactic| walk_at "subscriptTail Name Subscript ref int") => `(tactic| k_dflt (refine' item_any (h := ?_)))
local macro_rules | `(tactic| walk_at "subscriptTail Name Constant ref int") => `(tactic| k_dflt (refine' item_any (h := ?_)))
local macro_rules | `(tactic| walk_at "subscriptTail Name Name ref int") => `(tactic| k_dflt (refine' item_any (h := ?_)))
local macro_rules | `(tactic| walk_at "subscriptTail Name Name ref str") => `(tactic| k_dflt (refine' kda_item (knd := PySem.strKind _ _) (by k_asm) (by k_mem) (by with_reducible assumption) (strKind_is _ _ _ _) (by with_reducible assumption) ?_))
local macro_rules | `(tactic| walk_at "subscriptTail Name Subscript ref str") => `(tactic| k_dflt (refine' kda_item (knd := PySem.strKind _ _) (by k_asm) (by k_mem) (by with_reducible assumption) (strKind_is _ _ _ _) (by with_reducible assumption) ?_))
local macro_rules | `(tactic| walk_at "subscriptTail Attribute Subscript UnaryOp ref int") => `(tactic| k_dflt (refine' item_neg (h := ?_)))
local macro_rules | `(tactic| walk_at "compareOp In str ref") => `(tactic| k_dflt (refine' in_strs (h := ?_)))
local macro_rules | `(tactic| walk_at "compareOp NotIn str ref") => `(tactic| k_dflt (refine' notin_strs (h := ?_)))
section
variable {prog : Program} {w : World} {A : Around} {E : Value → Shared → Prop} {s : Shared} {h₀ : Heap} {L : Addr} {m : Str → Option Value} {news : List (Addr × Obj)}
theorem in_strs {l : Addr} {vs : List Value} {n : Nat} {ys : List Str} {k : Str} {t : Tok} {Q : Value → Shared → Prop} (N : News h₀ L s.heap news := by k_asm) (hm : (l, listOf vs.toArray n) ∈ news := by k_mem) (hi : PyProof.Rows.StrsAre vs ys := by with_reducible assumption) (h : Q (.bool (ys.any (· == k))) s) :
    wpAny (model prog w) A (compareOp .In (.str k t) (.ref l)) Q E s := in_list_strs ⟨_, (N _ hm).1, rfl, n, rfl⟩ hi h
theorem notin_strs {l : Addr} {vs : List Value} {n : Nat} {ys : List Str} {k : Str} {t : Tok} {Q : Value → Shared → Prop} (N : News h₀ L s.heap news := by k_asm) (hm : (l, listOf vs.toArray n) ∈ news := by k_mem) (hi : PyProof.Rows.StrsAre vs ys := by with_reducible assumption) (h : Q (.bool (!(ys.any (· == k)))) s) :
    wpAny (model prog w) A (compareOp .NotIn (.str k t) (.ref l)) Q E s := notin_list_strs ⟨_, (N _ hm).1, rfl, n, rfl⟩ hi h
end
theorem rows_app {x : Str} {t : Tok} : ∀ {vs : List Value} {ys : List Str}, PyProof.Rows.StrsAre vs ys → PyProof.Rows.StrsAre (vs ++ [.str x t]) (ys ++ [x])
  | _, _, .nil => .cons _ _ .nil
  | _, _, .cons _ _ h => .cons _ _ (rows_app h)
theorem rows_len : ∀ {vs : List Value} {ys : List Str}, PyProof.Rows.StrsAre vs ys → vs.length = ys.length
  | _, _, .nil => rfl
  | _, _, .cons _ _ h => congrArg (· + 1) (rows_len h)
abbrev nms (Ls : List Lx) : List Str := Ls.map fun K => K.name
theorem step_led {W : Nat → Str} {q : Str → List Nat} {Ls : List Lx} {K : Lx} {i : Nat} (h : Ls[i]? = some K) (l0 : List Str) : ((nms Ls).take (i + 1)).foldl (ledStep W q) l0 = ledStep W q (((nms Ls).take i).foldl (ledStep W q) l0) K.name := by
  have e : (nms Ls)[i]? = some K.name := by rw [nms, List.getElem?_map, h]; rfl
  rw [List.take_add_one, e, List.foldl_append]; rfl
theorem any_mem {ys : List Str} {k : Str} : ys.any (· == k) = true ↔ k ∈ ys := by simp
theorem any_no {ys : List Str} {k : Str} : ys.any (· == k) = false ↔ k ∉ ys := by rw [← any_mem, Bool.not_eq_true]
theorem step_yes {W : Nat → Str} {q : Str → List Nat} {l : List Str} {v x : Str} (h1 : l.any (· == v) = false) (hl : lastW W q v = x) (h2 : l.any (· == x) = true) : ledStep W q l v = l ++ [v] := by
  unfold ledStep; rw [if_pos ⟨any_no.mp h1, by rw [hl]; exact any_mem.mp h2⟩]
theorem step_no1 {W : Nat → Str} {q : Str → List Nat} {l : List Str} {v : Str} (h1 : l.any (· == v) = true) : ledStep W q l v = l := by
  unfold ledStep; rw [if_neg fun h => h.1 (any_mem.mp h1)]
theorem step_no2 {W : Nat → Str} {q : Str → List Nat} {l : List Str} {v x : Str} (hl : lastW W q v = x) (h2 : l.any (· == x) = false) : ledStep W q l v = l := by
  unfold ledStep; rw [if_neg fun h => any_no.mp h2 (by rw [← hl]; exact h.2)]
theorem led_le {W : Nat → Str} {q : Str → List Nat} (G : Good W q) {Ls : List Lx} (N : Names W (nms Ls)) (k i : Nat) : (((nms Ls).take i).foldl (ledStep W q) (ledN W q (nms Ls) k)).length ≤ 5 := by
  have K := pass_ok G N ((nms Ls).take i) _ (fun x hx => List.mem_of_mem_take hx) (ledN_ok G N k)
  exact Nat.le_trans (List.Nodup.length_le_of_subset K.nd K.sub) N.len
theorem last_at' {vs : List Value} {v : Value} (h : vs.getLast? = some v) : vs[((-1 : Int) + vs.length).toNat]? = some v := by
  have : ((-1 : Int) + vs.length).toNat = vs.length - 1 := by omega
  rw [this, ← List.getLast?_eq_getElem?]; exact h
/-- the ledger of the lines -/
inductive LInv (w : World) (W : Nat → Str) (ld pd wl l9 : Addr) (Y : List Str) (m : Str → Option Value) (X : List (Addr × Obj)) : Prop
  | mk : ∀ vs n', (X = [(l9, listOf vs.toArray n')]) → (PyProof.Rows.StrsAre vs Y) → (m (Str.ofString "lines") = some (.ref ld)) → (m (Str.ofString "places") = some (.ref pd)) → (m (Str.ofString "words") = some (.ref wl)) → (m (Str.ofString "led") = some (.ref l9)) → LInv w W ld pd wl l9 Y m X
set_option maxHeartbeats 4000000 in
theorem led_con (w : World) (W : Nat → Str) (od op : Obj) (ld pd wl : Addr) (ws : List Value) (n : Nat) (Ls : List Lx) (qv : Str → List Value) (cap : Str → Nat) (q : Str → List Nat)
    (ok : LinesOk w W od ld Ls qv q) (pok : PlacesAre w op W 10) (wok : StrsAre ws W) (wn : ∀ i, i < 10 → W i ∈ names5) (G : Good W q) :
    Con w 131 [.ref ld, .ref pd, .ref wl] ((ld, od) :: (pd, op) :: (wl, listOf ws.toArray n) :: lns w Ls qv cap) 15 300
      (fun r made => ∃ t vs n', r = .ref t ∧ PyProof.Rows.StrsAre vs (ledN W q (nms Ls) 4) ∧ made = (t, listOf vs.toArray n') :: (ld, od) :: (pd, op) :: (wl, listOf ws.toArray n) :: lns w Ls qv cap) := by
  intro p loose mean mg mb dp un gd cn cs a ccd cl outer A₀ base h₀ L m s rest Q E B X T hk D hd hu hret
  have F := D.fr
  have N := D.nw
  have nd := D.nd
  simp only [List.cons_append] at N nd
  obtain ⟨t0, hw00⟩ := wok.2 0 (by decide)
  have hw0 : ws[(0 : Int).toNat]? = some (.str (W 0) t0) := hw00
  revert X; k_fill; intro X
  refine wpAny_call ?_
  k_dflt ktr_enter
  k_steps
  rename Fr _ _ _ _ => F9
  rename News _ _ _ _ => N9
  rename IsRange _ _ _ _ _ _ _ _ => hr
  rename_i l9 h9 l19 h8 h88 tk8 h7 tk7 t1 u1 v1 a9
  refine for_range (k := 4) (X := [(l9, listOf #[.str (W 0) t0] 0)]) (rest := (ld, od) :: (pd, op) :: (wl, listOf ws.toArray n) :: (lns w Ls qv cap ++ rest)) rfl hr (by decide) (Led.of F9 N9 (by tb_start)) (fun k m X => LInv w W ld pd wl l9 (ledN W q (nms Ls) k) m X) ⟨_, _, rfl, .cons _ _ .nil, rfl, rfl, rfl, rfl⟩ ?_ ?_
  · rintro k tq m₁ X₁ h tk I o qT1 hT1 hk ⟨vs, n', rfl, hV, hm1, hm2, hm3, hm4⟩ D₁
    have F' := D₁.fr
    have N' := D₁.nw
    have nd' := D₁.nd
    rw [mp4 hm1 hm2 hm3 hm4] at F'
    simp only [List.cons_append, List.nil_append] at N' nd'
    clear F9 N9 D₁
    k_steps
    rename Fr _ _ _ _ => F9
    rename News _ _ _ _ => N9
    have hV0 : PyProof.Rows.StrsAre vs (((nms Ls).take 0).foldl (ledStep W q) (ledN W q (nms Ls) k)) := hV
    refine for_dict (kvs := lkv Ls) (X := [(l9, listOf vs.toArray n')]) (rest := (I, o) :: (ld, od) :: (pd, op) :: (wl, listOf ws.toArray n) :: (lns w Ls qv cap ++ rest)) rfl (Led.of F9 N9 nd') (.tail _ (.head _)) ok.dict ok.low (fun i m X => LInv w W ld pd wl l9 (((nms Ls).take i).foldl (ledStep W q) (ledN W q (nms Ls) k)) m X) ⟨_, _, rfl, hV0, rfl, rfl, rfl, rfl⟩ ?_ ?_
    · rintro i k' u tn m₂ X₂ h2 tk2 I2 o2 qT2 hT2 hkv ⟨vs2, n2, rfl, hV2, hm1, hm2, hm3, hm4⟩ D₂
      obtain ⟨K, hKi, hKe⟩ : ∃ K, Ls[i]? = some K ∧ k' = K.name := by
        rw [lkv, List.getElem?_map] at hkv
        obtain ⟨K, h1, h2⟩ := Option.map_eq_some_iff.mp hkv
        exact ⟨K, h1, by cases h2; rfl⟩
      subst hKe
      have hK : K ∈ Ls := List.mem_of_getElem? hKi
      obtain ⟨j, hj, hKj⟩ := (ok.names.mem K.name).mp (List.mem_map.mpr ⟨K, hK, rfl⟩)
      obtain ⟨p, hp, hp10, hlw⟩ := last_of G hj hKj
      obtain ⟨tv, hvl⟩ := (ok.line K hK).last p hp
      have hlast := last_at' hvl
      have hl1 : valueAt (lkv Ls) K.name = some (.ref K.x) := lkv_at hK ok.names.nd
      have hod := ok.dict
      obtain ⟨kvs, hpd, -, hpv⟩ := id pok
      obtain ⟨tp, hpe⟩ := hpv p hp10
      obtain ⟨twp, hwp0⟩ := wok.2 p hp10
      have hwp : ws[((p : Nat) : Int).toNat]? = some (.str (W p) twp) := hwp0
      have hlen1 : 1 ≤ (qv K.name).length := List.length_pos_of_mem (List.mem_of_getLast? hvl)
      have hV2l := rows_len hV2
      have hlj : K.name.length ≤ 100 := by rw [← hKj]; exact Nat.le_trans (nm_len (wn j hj)) (by decide)
      obtain ⟨R, r1, r2⟩ := lns_out (w := w) hK ok.names.nd
      have hperm : (lns w Ls qv cap ++ rest).Perm (K.os w (qv K.name) (cap K.name) ++ (R qv cap ++ rest)) := by rw [← List.append_assoc]; exact (r1 qv cap).append_right _
      have D₃ : Led _ _ _ _ ((l9, listOf vs2.toArray n2) :: (I2, o2) :: (I, o) :: (ld, od) :: (pd, op) :: (wl, listOf ws.toArray n) :: (K.os w (qv K.name) (cap K.name) ++ (R qv cap ++ rest))) :=
        Led.perm D₂ (((((((hperm.symm).cons _).cons _).cons _).cons _).cons _).cons _)
      have F' := D₃.fr
      have N' := D₃.nw
      have nd3 := D₃.nd
      rw [mp4 hm1 hm2 hm3 hm4] at F'
      simp only [Lx.os, lexOs, List.cons_append, List.nil_append] at N' nd3
      clear F9 N9 D₂ D₃
      have hne := nd_head nd3
      have hle5 := led_le G ok.names k i
      k_steps
      · rename Fr _ _ _ _ => F9
        rename News _ _ _ _ => N9
        have D9 := Led.of F9 N9 nd3
        refine hT2 _ _ (Turn.next (X₂ := [(l9, listOf vs2.toArray n2)]) ⟨_, _, rfl, by rw [step_led hKi, step_no1 (by with_reducible assumption)]; exact hV2, rfl, rfl, rfl, rfl⟩ (Led.perm D9 ((((((hperm.cons _).cons _).cons _).cons _).cons _).cons _)))
      · rename Fr _ _ _ _ => F9
        rename News _ _ _ _ => N9
        have D9 := Led.of F9 N9 nd3
        refine hT2 _ _ (Turn.next (X₂ := [(l9, listOf (vs2 ++ [Value.str K.name tn]).toArray (n2 + 1))]) ⟨_, _, rfl, by rw [step_led hKi, step_yes (by with_reducible assumption) hlw (by with_reducible assumption)]; exact rows_app hV2, rfl, rfl, rfl, rfl⟩ (Led.perm D9 ((((((hperm.cons _).cons _).cons _).cons _).cons _).cons _)))
      · rename Fr _ _ _ _ => F9
        rename News _ _ _ _ => N9
        have D9 := Led.of F9 N9 nd3
        refine hT2 _ _ (Turn.next (X₂ := [(l9, listOf vs2.toArray n2)]) ⟨_, _, rfl, by rw [step_led hKi, step_no2 hlw (by with_reducible assumption)]; exact hV2, rfl, rfl, rfl, rfl⟩ (Led.perm D9 ((((((hperm.cons _).cons _).cons _).cons _).cons _).cons _)))
    · rintro h' tk' m' X' ⟨vs2, n2, rfl, hV2, hm1, hm2, hm3, hm4⟩ D₂
      have F' := D₂.fr
      have N' := D₂.nw
      have nd2 := D₂.nd
      rw [mp4 hm1 hm2 hm3 hm4] at F'
      simp only [List.cons_append, List.nil_append] at N' nd2
      clear F9 N9 D₂
      k_steps
      rename Fr _ _ _ _ => F9
      rename News _ _ _ _ => N9
      have D9 := Led.of F9 N9 nd2
      refine hT1 _ _ (Turn.next (X₂ := [(l9, listOf vs2.toArray n2)]) ⟨_, _, rfl, ?_, rfl, rfl, rfl, rfl⟩ D9)
      have e : (lkv Ls).length = (nms Ls).length := by simp [lkv, nms]
      rw [e, List.take_length] at hV2
      exact hV2
  · rintro h' tk' m' X' ⟨vs2, n2, rfl, hV2, hm1, hm2, hm3, hm4⟩ D₂
    have F' := D₂.fr
    have N' := D₂.nw
    have nd2 := D₂.nd
    rw [mp4 hm1 hm2 hm3 hm4] at F'
    simp only [List.cons_append, List.nil_append] at N' nd2
    clear F9 N9 D₂
    k_steps
    rename Fr _ _ _ _ => F9
    rename News _ _ _ _ => N9
    exact hret _ _ _ _ ⟨l9, vs2, n2, rfl, hV2, rfl⟩ (Led.of F9 N9 nd2)
end Mine
end

section
theorem Mine.startPhLn : True := by
  w_top off
  trivial
open PySem PySem.W PyProof.Rows
set_option maxRecDepth 100000
set_option linter.unusedVariables false
namespace Mine
local macro_rules | `(tactic| k_room) => `(tactic| ktr_room)
local macro_rules | `(tactic| ke_room) => `(tactic| (have hcL9 := cLine_is; (try dsimp only [ktrTop, Around.deeper, Around.in1]); omega))
local macro_rules | `(tactic| ktr_units) => `(tactic| (have hcL9 := cLine_is; (try dsimp only [ktrTop, Around.deeper, Around.in1]); omega))
local macro_rules | `(tactic| tb_rel) => `(tactic| first | assumption | (refine allLt_cons ?_ ?_; (case refine_1 => omega); (case refine_2 => tb_rel)) | exact allLt_mono (by assumption) (by omega) | fail "tb_rel")
local macro_rules | `(tactic| tb_start) => `(tactic| first | assumption | (refine nd_new ?_ ?_; (case refine_1 => tb_rel); (case refine_2 => tb_start)) | fail "tb_start")
local macro_rules | `(tactic| k_all) => `(tactic| assumption)
local macro_rules | `(tactic| walk_at "exec For Name Call cons nil") => `(tactic| ((rename Fr _ _ _ _ => lF'); k_dflt (refine for_src lF' (by rfl) (by rfl) ?_)))
local macro_rules | `(tactic| walk_at "exec For Name Name cons nil") => `(tactic| ((rename Fr _ _ _ _ => lF'); k_dflt (refine for_src lF' (by rfl) (by rfl) ?_)))
local macro_rules | `(tactic| walk_at "call builtin:len") => `(tactic| (k_dflt (refine' len_led (h := ?_)); intro _ _))
local macro_rules | `(tactic| walk_at "call builtin:list.append") => `(tactic| (k_dflt (refine' app_led (h := ?_)); intro h' F' N'))
local macro_rules | `(tactic| walk_at "call builtin:list.count") => `(tactic| k_dflt (refine' count_words (h := ?_)))
local macro_rules | `(tactic| walk_at "getMethod ref") => `(tactic| ((with_reducible show wpAny _ _ (getMethod _ (PySem.Str.ofString "count") _) _ _ _); k_dflt (refine' listMethod_K (by k_asm) (by k_mem) PySem.F.slot_list_count PySem.F.type_list_count ?_)))
local macro_rules | `(tactic| walk_at "subscriptTail Name UnaryOp ref int") => `(tactic| k_dflt (refine' item_neg (h := ?_)))
local macro_rules | `(tactic| walk_at "subscriptTail Name Subscript ref int") => `(tactic| k_dflt (refine' item_any (h := ?_)))
local macro_rules | `(tactic| walk_at "subscriptTail Name Constant ref int") => `(tactic| k_dflt (refine' item_any (h := ?_)))
local macro_rules | `(tactic| walk_at "subscriptTail Name Name ref int") => `(tactic| k_dflt (refine' item_any (h := ?_)))
local macro_rules | `(tactic| walk_at "subscriptTail Name Name ref str") => `(tactic| k_dflt (refine' kda_item (knd := PySem.strKind _ _) (by k_asm) (by k_mem) (by with_reducible assumption) (strKind_is _ _ _ _) (by with_reducible assumption) ?_))
/-- the places behind a name, up to a place -/
def upto (W : Nat → Str) (i : Nat) (v : Str) : List Nat := (List.range i).filter fun p => decide (src W p = v)
theorem upto_succ {W : Nat → Str} {i : Nat} {v : Str} : upto W (i + 1) v = if src W i = v then upto W i v ++ [i] else upto W i v := by
  unfold upto
  rw [List.range_succ, List.filter_append]
  by_cases h : src W i = v
  · simp [h]
  · simp [h]
structure L1 (w : World) (W : Nat → Str) (od : Obj) (Ls : List Lx) (qv : Str → List Value) (i : Nat) : Prop where
  dict : od.IsDictOf (PySem.strKind PySem.Challenge.rw_ph0055_01.row.prog w) (lkv Ls)
  nd : (nms Ls).Nodup
  mem : ∀ v, v ∈ nms Ls ↔ ∃ j, j < i ∧ src W j = v
  line : ∀ K ∈ Ls, VLine W (qv K.name) (upto W i K.name)
theorem upto_le {W : Nat → Str} {i : Nat} {v : Str} (h : i ≤ 100) : (upto W i v).length ≤ 100 := by
  have := List.length_filter_le (fun p => decide (src W p = v)) (List.range i)
  rw [List.length_range] at this
  exact Nat.le_trans this h
theorem L1.push {w : World} {W : Nat → Str} {od : Obj} {Ls : List Lx} {qv : Str → List Value} {i : Nat} {K : Lx} (h : L1 w W od Ls qv i) (hKn : K.name = W ((i + 9) % 10)) (hK : K ∈ Ls) (t : Tok) :
    L1 w W od Ls (upd qv (W ((i + 9) % 10)) (qv K.name ++ [Value.str (stdS i (W i)) t])) (i + 1) := by
  refine ⟨h.dict, h.nd, fun v => ?_, fun M hM => ?_⟩
  · rw [h.mem]
    constructor
    · rintro ⟨j, hj, e⟩; exact ⟨j, by omega, e⟩
    · rintro ⟨j, hj, e⟩
      by_cases hji : j < i
      · exact ⟨j, hji, e⟩
      · have : j = i := by omega
        subst this
        have := (h.mem K.name).mp (List.mem_map.mpr ⟨K, hK, rfl⟩)
        rw [hKn] at this
        exact e ▸ this
  · rw [upto_succ]
    by_cases e : M.name = W ((i + 9) % 10)
    · rw [e, upd_self, if_pos (show src W i = W ((i + 9) % 10) from rfl)]
      have := h.line K hK
      rw [hKn] at this ⊢
      exact VLine.app ⟨t, rfl⟩ this
    · rw [upd_ne e, if_neg (fun x : src W i = M.name => e x.symm)]
      exact h.line M hM
theorem L1.fresh0 {w : World} {W : Nat → Str} {od od' : Obj} {Ls : List Lx} {qv : Str → List Value} {i : Nat} {K : Lx} (h : L1 w W od Ls qv i) (hin : ∀ M ∈ Ls, M.name ≠ W ((i + 9) % 10)) (hKn : K.name = W ((i + 9) % 10))
    (hd : od'.IsDictOf (PySem.strKind PySem.Challenge.rw_ph0055_01.row.prog w) (lkv (Ls ++ [K]))) : (nms (Ls ++ [K])).Nodup := by
  rw [nms, List.map_append, List.nodup_append]
  refine ⟨h.nd, by simp, ?_⟩
  intro a ha b hb e
  obtain ⟨M, hM, rfl⟩ := List.mem_map.mp ha
  simp only [List.map_cons, List.map_nil, List.mem_singleton] at hb
  exact hin M hM (e.trans (hb.trans hKn))
theorem L1.fresh {w : World} {W : Nat → Str} {od od' : Obj} {Ls : List Lx} {qv : Str → List Value} {i : Nat} {K : Lx} (h : L1 w W od Ls qv i) (hin : ∀ M ∈ Ls, M.name ≠ W ((i + 9) % 10)) (hKn : K.name = W ((i + 9) % 10))
    (hd : od'.IsDictOf (PySem.strKind PySem.Challenge.rw_ph0055_01.row.prog w) (lkv (Ls ++ [K]))) (t : Tok) :
    L1 w W od' (Ls ++ [K]) (upd qv (W ((i + 9) % 10)) ([] ++ [Value.str (stdS i (W i)) t])) (i + 1) := by
  refine ⟨hd, h.fresh0 hin hKn hd, fun v => ?_, fun M hM => ?_⟩
  · rw [nms, List.map_append, List.mem_append]
    constructor
    · rintro (hv | hv)
      · obtain ⟨j, hj, e⟩ := (h.mem v).mp hv; exact ⟨j, by omega, e⟩
      · simp only [List.map_cons, List.map_nil, List.mem_singleton] at hv
        exact ⟨i, by omega, by rw [hv, hKn]; rfl⟩
    · rintro ⟨j, hj, e⟩
      by_cases hji : j < i
      · exact .inl ((h.mem v).mpr ⟨j, hji, e⟩)
      · have : j = i := by omega
        subst this
        right
        simp only [List.map_cons, List.map_nil, List.mem_singleton]
        rw [hKn, ← e]; rfl
  · rw [upto_succ]
    rcases List.mem_append.mp hM with hM | hM
    · have e := hin M hM
      rw [upd_ne e, if_neg (fun x : src W i = M.name => e x.symm)]
      exact h.line M hM
    · rw [List.mem_singleton.mp hM, hKn, upd_self, if_pos (show src W i = W ((i + 9) % 10) from rfl)]
      have : upto W i (W ((i + 9) % 10)) = [] := by
        rw [upto, List.filter_eq_nil_iff]
        intro j hj hx
        have hji := List.mem_range.mp hj
        have := (h.mem (W ((i + 9) % 10))).mpr ⟨j, hji, of_decide_eq_true hx⟩
        obtain ⟨M', hM', e'⟩ := List.mem_map.mp this
        exact hin M' hM' e'
      rw [this]
      exact VLine.app (vs := []) (ps := []) ⟨t, rfl⟩ trivial
theorem perm_b {A M : List (Addr × Obj)} {p q : Addr × Obj} : (q :: p :: (A ++ M)).Perm ((A ++ [p]) ++ (q :: M)) := by
  rw [List.append_assoc]
  exact (List.Perm.swap _ _ _).trans (List.perm_append_comm_assoc [p, q] A M)
theorem lexer2_K (w : World) (la : Addr) (text : Str) (tt ta : Tok) (n : Nat) (c1 c2 : Addr) (name : Str) :
    Con w 103 [.str text tt, .ref la] [(98, tab2 c1 c2), (la, listOf #[.int 0 ta] n)] 10 200 (fun r made => ∃ K : Lx, K.name = name ∧ r = .ref K.x ∧ made = K.os w [] 0 ++ [(98, tab2 c1 c2)]) := by
  refine Con.mono (lexer2_con w la text tt ta n c1 c2) ?_
  rintro r made ⟨x, dx, l, tks, tl, tw, st, rfl, rfl⟩
  exact ⟨⟨name, x, dx, l, tks, .int 1 tl, .ref st, .str wsS tw⟩, rfl, rfl, rfl⟩
theorem L1.le {w : World} {W : Nat → Str} {od : Obj} {Ls : List Lx} {qv : Str → List Value} {i : Nat} (h : L1 w W od Ls qv i) (hi : i ≤ 10) (wn : ∀ i, i < 10 → W i ∈ names5) : Ls.length ≤ 5 := by
  have := List.Nodup.length_le_of_subset h.nd (l₂ := names5) (fun v hv => by
    obtain ⟨j, hj, rfl⟩ := (h.mem v).mp hv
    exact wn _ (Nat.mod_lt _ (by decide)))
  simpa [nms, names5] using this
section
variable {prog : Program} {w : World} {A : Around} {E : Value → Shared → Prop} {s : Shared} {h₀ : Heap} {L : Addr} {m : Str → Option Value} {news : List (Addr × Obj)}
theorem item_src {value slice : PySem.Expr} {l : Addr} {q : List Value} {n : Nat} {p : Nat} {u : Tok} {v : Value} {Q : Value → Shared → Prop} (N : News h₀ L s.heap news := by k_asm) (hm : (l, listOf q.toArray n) ∈ news := by k_mem) (hp : p < 10 := by omega) (hq : q.length = 10 := by with_reducible assumption) (hx : q[(p + 9) % 10]? = some v := by with_reducible assumption) (h : Q v s)
    (hs : ∀ k : Int, subscripted slice false (.ref l) (.int k u) = operate [.ref l, .int k u] (getItem (.ref l) (.int k u)) := by intro _; with_unfolding_all rfl) :
    wpAny (model prog w) A (subscriptTail value slice (.ref l) (.int ((p : Int) - 1) u)) Q E s := by
  cases p with
  | zero => exact item_neg N hm (by omega) (by omega) (by omega) (by rw [hq]; exact hx) h (hs _)
  | succ p => exact item_any N hm (by omega) (by omega) (by rw [show (((p + 1 : Nat) : Int) - 1).toNat = p by omega]; rw [show (p + 1 + 9) % 10 = p by omega] at hx; exact hx) h (hs _)
end
local macro_rules | `(tactic| walk_at "subscriptTail Name BinOp ref int") => `(tactic| k_dflt (refine' item_src (h := ?_)))
local macro_rules | `(tactic| walk_at "subscriptTail Name Subscript ref str") => `(tactic| k_dflt (refine' kda_item (knd := PySem.strKind _ _) (by k_asm) (by k_mem) (by with_reducible assumption) (strKind_is _ _ _ _) (by with_reducible assumption) ?_))
local macro_rules | `(tactic| walk_at "compareOp NotIn str ref") => `(tactic| k_dflt (refine' kdg_notin (knd := PySem.strKind _ _) (by k_asm) (by k_mem) (by with_reducible assumption) (by with_reducible assumption) (strKind_is _ _ _ _) _ (by with_reducible assumption) ?_))
local macro_rules | `(tactic| walk_at "call ref") => `(tactic| refine wait ?_)
local macro_rules | `(tactic| walk_at "setItem ref str") => `(tactic| refine wait ?_)
def NumsAre (ns : List Value) (Z : Nat → Int) : Prop := ns.length = 10 ∧ ∀ i, i < 10 → ∃ t, ns[i]? = some (.int (Z i) t)

inductive N1 (w : World) (W : Nat → Str) (c1 c2 ld wl nl : Addr) (i : Nat) (m : Str → Option Value) (X : List (Addr × Obj)) : Prop
  | mk : ∀ od Ls qv cap, (X = (ld, od) :: (98, tab2 c1 c2) :: lns w Ls qv cap) → (L1 w W od Ls qv i) → (m (Str.ofString "lines") = some (.ref ld)) → (m (Str.ofString "words") = some (.ref wl)) → (m (Str.ofString "numbers") = some (.ref nl)) → N1 w W c1 c2 ld wl nl i m X
inductive N2 (w : World) (W : Nat → Str) (od : Obj) (ld wl nl : Addr) (Ls : List Lx) (m : Str → Option Value) (X : List (Addr × Obj)) : Prop
  | mk : ∀ qv cap q, (X = lns w Ls qv cap) → (LinesOk w W od ld Ls qv q) → (Good W q) → (m (Str.ofString "lines") = some (.ref ld)) → (m (Str.ofString "words") = some (.ref wl)) → (m (Str.ofString "numbers") = some (.ref nl)) → N2 w W od ld wl nl Ls m X
theorem L1.ok {w : World} {W : Nat → Str} {od : Obj} {ld : Addr} {Ls : List Lx} {qv : Str → List Value} (h : L1 w W od Ls qv 10) (lo : (ld == sysModules) = false) (wn : ∀ i, i < 10 → W i ∈ names5) : LinesOk w W od ld Ls qv (outE W) := by
  refine ⟨h.dict, lo, ⟨h.nd, by rw [List.length_map]; exact h.le (Nat.le_refl _) wn, fun v => ?_⟩, h.line⟩
  rw [show v ∈ List.map (fun x => x.name) Ls ↔ _ from h.mem v]
  constructor
  · rintro ⟨j, hj, e⟩; exact ⟨(j + 9) % 10, Nat.mod_lt _ (by decide), e⟩
  · rintro ⟨j, hj, e⟩
    refine ⟨(j + 1) % 10, Nat.mod_lt _ (by decide), ?_⟩
    rw [src, show ((j + 1) % 10 + 9) % 10 = j by omega]; exact e
inductive N3 (w : World) (W : Nat → Str) (ld wl nl : Addr) (K : Lx) (x : Str) (m : Str → Option Value) (X : List (Addr × Obj)) : Prop
  | mk : ∀ vs c ps, (X = K.os w vs c) → (VLine W vs ps) → (ps.Perm (outE W x)) → (m (Str.ofString "lines") = some (.ref ld)) → (m (Str.ofString "words") = some (.ref wl)) → (m (Str.ofString "numbers") = some (.ref nl)) → (m (Str.ofString "line") = some (.ref K.x)) → N3 w W ld wl nl K x m X
theorem outE_pos {W : Nat → Str} {i : Nat} (hi : i < 10) : 0 < (outE W (W i)).length :=
  List.length_pos_of_mem (a := (i + 1) % 10) (mem_out.mpr ⟨Nat.mod_lt _ (by decide), by rw [src, show ((i + 1) % 10 + 9) % 10 = i by omega]⟩)
theorem line_in {w : World} {Ls : List Lx} {K : Lx} {k : Str} {R : (Str → List Value) → (Str → Nat) → List (Addr × Obj)} {qv : Str → List Value} {cap : Str → Nat} {v : List Value} {c : Nat} (hKn : K.name = k)
    (r1 : ∀ qv cap, (lns w Ls qv cap).Perm (K.os w (qv K.name) (cap K.name) ++ R qv cap)) (r2 : ∀ qv cap v c, R (upd qv K.name v) (upd cap K.name c) = R qv cap) :
    (lns w Ls (upd qv k v) (upd cap k c)).Perm (K.os w v c ++ R qv cap) := by
  subst hKn
  have h1 := r1 (upd qv K.name v) (upd cap K.name c)
  rw [upd_self, upd_self, r2] at h1
  exact h1
theorem LinesOk.setq {w : World} {W : Nat → Str} {od : Obj} {ld : Addr} {Ls : List Lx} {qv : Str → List Value} {q : Str → List Nat} (ok : LinesOk w W od ld Ls qv q) {k : Str} {vs : List Value} {ps : List Nat} (hv : VLine W vs ps) :
    LinesOk w W od ld Ls (upd qv k vs) (upd q k ps) := by
  refine ⟨ok.dict, ok.low, ok.names, fun M hM => ?_⟩
  by_cases e : M.name = k
  · rw [e, upd_self, upd_self]; exact hv
  · rw [upd_ne e, upd_ne e]; exact ok.line M hM
theorem good_set {W : Nat → Str} {q : Str → List Nat} (G : Good W q) {k : Str} {ps : List Nat} (hp : ps.Perm (outE W k)) : Good W (upd q k ps) := by
  intro v
  by_cases e : v = k
  · rw [e, upd_self]; exact hp
  · rw [upd_ne e]; exact G v
local macro_rules | `(tactic| walk_at "exec If Compare") => `(tactic| ((rename IfMark => hMk9); refine wait ?_))
/-- behind the if of a line's name: the name has its lexer -/
inductive NJ (w : World) (W : Nat → Str) (c1 c2 ld wl nl I : Addr) (oI wo no : Obj) (rest : List (Addr × Obj)) (i : Nat) (m : Str → Option Value) (X : List (Addr × Obj)) : Prop
  | mk : ∀ (od : Obj) (Ls : List Lx) (qv : Str → List Value) (cap : Str → Nat) (K : Lx) (R : List (Addr × Obj)) (qs : List Value) (c : Nat), X = (ld, od) :: (98, tab2 c1 c2) :: (K.os w qs c ++ ((I, oI) :: (wl, wo) :: (nl, no) :: (R ++ rest))) →
      od.IsDictOf (PySem.strKind PySem.Challenge.rw_ph0055_01.row.prog w) (lkv Ls) → valueAt (lkv Ls) (W ((i + 9) % 10)) = some (.ref K.x) → qs.length ≤ 100 → (∀ v c, (lns w Ls (upd qv (W ((i + 9) % 10)) v) (upd cap (W ((i + 9) % 10)) c)).Perm (K.os w v c ++ R)) →
      (∀ tr, L1 w W od Ls (upd qv (W ((i + 9) % 10)) (qs ++ [Value.str (stdS i (W i)) tr])) (i + 1)) → m (Str.ofString "lines") = some (.ref ld) → m (Str.ofString "words") = some (.ref wl) → m (Str.ofString "numbers") = some (.ref nl) → (∃ t, m (Str.ofString "ahead") = some (.str (W ((i + 9) % 10)) t)) →
      (∃ t, m (Str.ofString "place") = some (.int (i : Nat) t)) → NJ w W c1 c2 ld wl nl I oI wo no rest i m X
set_option maxHeartbeats 4000000 in
theorem lines_con (w : World) (W : Nat → Str) (Z : Nat → Int) (c1 c2 wl nl : Addr) (ws ns : List Value) (n n2 : Nat) 
    (wok : StrsAre ws W) (zok : NumsAre ns Z) (wn : ∀ i, i < 10 → W i ∈ names5) :
    Con w 124 [.ref wl, .ref nl] [(98, tab2 c1 c2), (wl, listOf ws.toArray n), (nl, listOf ns.toArray n2)] 25 500
      (fun r made => ∃ ld od Ls qv cap q, r = .ref ld ∧ made = (ld, od) :: (98, tab2 c1 c2) :: (lns w Ls qv cap ++ [(wl, listOf ws.toArray n), (nl, listOf ns.toArray n2)]) ∧ LinesOk w W od ld Ls qv q ∧ Good W q) := by
  intro p loose mean mg mb dp un gd cn cs a ccd cl outer A₀ base h₀ L m s rest Q E B X T hk D hd hu hret
  have F := D.fr
  have N := D.nw
  have nd := D.nd
  simp only [List.cons_append, List.nil_append] at N nd
  revert X; k_fill; intro X
  refine wpAny_call ?_
  k_dflt ktr_enter
  k_steps
  rename_i ld _ o hlo hd0 _ _ _ l1 _ _ _ _ _ _ _ _ hr F9 N9 _
  rename Below _ _ _ _ => B9
  rename Frag.In _ _ => X9
  rename Top _ _ _ _ _ _ => T9
  refine for_range (k := 10) (X := [(ld, o), (98, tab2 c1 c2)]) (rest := (wl, listOf ws.toArray n) :: (nl, listOf ns.toArray n2) :: rest) rfl hr (by decide) (Led.of F9 N9 (by tb_start)) (fun i m X => N1 w W c1 c2 ld wl nl i m X)
    ⟨o, [], fun _ => [], fun _ => 0, rfl, ⟨hd0, List.nodup_nil, fun v => by simp [nms], fun K hK => nomatch hK⟩, rfl, rfl, rfl⟩ ?_ ?_
  · rintro i t m₁ X₁ h tk I oI qT1 hT1 hi ⟨od, Ls, qv, cap, rfl, ok, hm1, hm2, hm3⟩ D₁
    have hsz : (lkv Ls).length ≤ 16777216 := by have := ok.le (by omega) wn; simp [lkv]; omega
    obtain ⟨tw, hw⟩ := wok.2 i hi
    have hwi : ws[((i : Nat) : Int).toNat]? = some (.str (W i) tw) := hw
    obtain ⟨ta, hwa⟩ := wok.2 ((i + 9) % 10) (Nat.mod_lt _ (by decide))
    have hwl := wok.1
    have hlj : (W ((i + 9) % 10)).length ≤ 100 := Nat.le_trans (nm_len (wn _ (Nat.mod_lt _ (by decide)))) (by decide)
    have hod := ok.dict
    have D₂ : Led _ _ _ _ ((ld, od) :: (98, tab2 c1 c2) :: (I, oI) :: (wl, listOf ws.toArray n) :: (nl, listOf ns.toArray n2) :: (lns w Ls qv cap ++ rest)) :=
      Led.perm D₁ (((List.perm_append_comm_assoc (lns w Ls qv cap) [(I, oI), (wl, listOf ws.toArray n), (nl, listOf ns.toArray n2)] rest).symm.cons _).cons _)
    have F' := D₂.fr
    have N' := D₂.nw
    have nd' := D₂.nd
    rw [mp3 hm1 hm2 hm3] at F'
    clear F9 N9 D₁ D₂
    have hMk : IfMark := ⟨⟩
    k_steps
    rename IfMark => hMk
    clear hMk
    rename Fr _ _ _ _ => F9
    rename News _ _ _ _ => N9
    unfold Wait
    refine If_join (Led.of F9 N9 nd') (fun m' X => NJ w W c1 c2 ld wl nl I oI (listOf ws.toArray n) (listOf ns.toArray n2) rest i m' X) ?tst ?cont
    case tst =>
      intro q7 r7 hq7 hr7
      by_cases hin : src W i ∈ nms Ls
      · obtain ⟨K, hK, hKn⟩ := List.mem_map.mp hin
        have hKn : K.name = W ((i + 9) % 10) := hKn
        have hl1 : valueAt (lkv Ls) (W ((i + 9) % 10)) = some (.ref K.x) := by rw [← hKn]; exact lkv_at hK ok.nd
        have hsome : (valueAt (lkv Ls) (W ((i + 9) % 10))).isSome = true := by rw [hl1]; rfl
        obtain ⟨R, r1, r2⟩ := lns_out (w := w) hK ok.nd
        k_steps
        have hRR : ∀ v c, (lns w Ls (upd qv (W ((i + 9) % 10)) v) (upd cap (W ((i + 9) % 10)) c)).Perm (K.os w v c ++ R qv cap) := fun v c => by
          have h1 := r1 (upd qv K.name v) (upd cap K.name c)
          rw [upd_self, upd_self, r2, hKn] at h1
          exact h1
        refine hq7 _ _ _ _ (Led.perm (Led.of F9 N9 nd') ((((perm_line (M := [(I, oI), (wl, listOf ws.toArray n), (nl, listOf ns.toArray n2)]) (r1 qv cap)).symm.trans (List.perm_append_comm_assoc (lns w Ls qv cap) [(I, oI), (wl, listOf ws.toArray n), (nl, listOf ns.toArray n2)] rest)).cons _).cons _))
          ⟨od, Ls, qv, cap, K, R qv cap, qv K.name, cap K.name, rfl, hod, hl1, by rw [(ok.line K hK).len]; exact upto_le (by omega), hRR, fun tr => ok.push hKn hK tr, rfl, rfl, rfl, ⟨_, rfl⟩, ⟨_, rfl⟩⟩
      · have hin' : ∀ M ∈ Ls, M.name ≠ W ((i + 9) % 10) := fun M hM e => hin (List.mem_map.mpr ⟨M, hM, e⟩)
        have hsome : (valueAt (lkv Ls) (W ((i + 9) % 10))).isSome = false := by rw [lkv_none hin']; rfl
        k_steps
        rename Fr _ _ _ _ => F9
        rename News _ _ _ _ => N9
        have D9 := Led.of F9 N9 (by tb_start)
        have D8 := Led.perm D9 (List.perm_middle (l₁ := [_, _]) (a := (98, tab2 c1 c2))).symm
        clear F9 N9 D9
        unfold Wait
        k_dflt (refine' lexer2_K w _ _ _ _ _ c1 c2 (W ((i + 9) % 10)) B9 X9 T9 ?rK D8 ?rd ?ru ?_)
        case rK => rfl
        case rd => ktr_room
        case ru => ktr_units
        rintro r9 made h' tk' ⟨K, hKn, rfl, rfl⟩ D'
        have D7 : Led _ _ _ _ ((ld, od) :: (98, tab2 c1 c2) :: (K.os w [] 0 ++ ((I, oI) :: (wl, listOf ws.toArray n) :: (nl, listOf ns.toArray n2) :: (lns w Ls qv cap ++ rest)))) := Led.perm D' perm_b
        have F' := D7.fr
        have N' := D7.nw
        have nd9 := D7.nd
        simp only [Lx.os, lexOs, List.cons_append, List.nil_append] at N' nd9
        clear D' D8 D7 nd'
        k_steps
        rename Fr _ _ _ _ => F9
        rename News _ _ _ _ => N9
        unfold Wait
        refine kda_set (knd := PySem.strKind _ _) F9 N9 (UpdF.head (nd_head nd9)) hod (strKind_is _ _ _ _) (by rw [sizeLine_eq]; omega) ?_
        intro h' od' F' N' hd'
        rw [← hKn, lkv_new (by rw [hKn]; exact hin')] at hd'
        have ok2 := ok.fresh0 hin' hKn hd'
        have hl1 : valueAt (lkv (Ls ++ [K])) (W ((i + 9) % 10)) = some (.ref K.x) := by rw [← hKn]; exact lkv_at (List.mem_append_right _ (.head _)) ok2
        have hRR : ∀ v c, (lns w (Ls ++ [K]) (upd qv (W ((i + 9) % 10)) v) (upd cap (W ((i + 9) % 10)) c)).Perm (K.os w v c ++ lns w Ls qv cap) := fun v c => by
          rw [lns_append, lns_off hin', lns_cons, hKn, upd_self, upd_self]
          simp only [lns, List.flatMap_nil, List.append_nil]
          exact List.perm_append_comm
        have hq : ([] : List Value).length ≤ 100 := by decide
        k_steps
        rename Fr _ _ _ _ => F9
        rename News _ _ _ _ => N9
        exact hr7 _ _ _ _ (Led.of F9 N9 nd9) ⟨od', Ls ++ [K], qv, cap, K, lns w Ls qv cap, [], 0, rfl, hd', hl1, hq, hRR, fun tr => ok.fresh hin' hKn hd' tr, rfl, rfl, rfl, ⟨_, rfl⟩, ⟨_, rfl⟩⟩
    clear F9 N9 nd' hod ok hm1 hm2 hm3 hsz
    rintro h' tk' m' X D₂ ⟨od, Ls, qv, cap, K, R, qs, c0, rfl, hod, hl1, hq, hRR, hL1, hm1, hm2, hm3, ⟨ta2, hm4⟩, ⟨tp, hm5⟩⟩
    have F' := D₂.fr
    have N' := D₂.nw
    have nd' := D₂.nd
    rw [mp5 hm1 hm2 hm3 hm4 hm5] at F'
    simp only [Lx.os, lexOs, List.cons_append, List.nil_append] at N' nd'
    clear D₂
    k_steps
    rename Fr _ _ _ _ => F9
    rename News _ _ _ _ => N9
    have D9 := Led.of F9 N9 (by tb_start)
    clear F9 N9
    unfold Wait
    k_dflt (refine' fstd_con w (W i) i _ _ _ _ hi (wn i hi) B9 X9 T9 ?rK D9 ?rd ?ru ?_)
    case rK => rfl
    case rd => ktr_room
    case ru => ktr_units
    rintro r9 made h' tk' ⟨⟨tr, rfl⟩, rfl⟩ D'
    have F' := D'.fr
    have N' := D'.nw
    have nd9 := D'.nd
    simp only [List.nil_append] at N' nd9
    clear D' D9
    k_steps
    rename Fr _ _ _ _ => F9
    rename News _ _ _ _ => N9
    have D9 := Led.of F9 N9 nd9
    have D8 : Led _ _ _ _ (lexOs w K.x K.dx K.l K.tks K.ln K.fp K.ws qs c0 ++ ((ld, od) :: (98, tab2 c1 c2) :: (I, oI) :: (wl, listOf ws.toArray n) :: (nl, listOf ns.toArray n2) :: (R ++ rest))) := Led.swap (P := [(ld, od), (98, tab2 c1 c2)]) (S := lexOs w K.x K.dx K.l K.tks K.ln K.fp K.ws qs c0) (R := (I, oI) :: (wl, listOf ws.toArray n) :: (nl, listOf ns.toArray n2) :: (R ++ rest)) D9
    clear F9 N9 D9 nd9
    unfold Wait
    k_dflt (refine' push_con w K.x K.dx K.l K.tks K.ln K.fp K.ws _ qs c0 hq B9 X9 T9 ?rK D8 ?rd ?ru ?_)
    case rK => rfl
    case rd => ktr_room
    case ru => ktr_units
    rintro r9 made h' tk' ⟨rfl, rfl⟩ D'
    have D7 : Led _ _ _ _ ((ld, od) :: (98, tab2 c1 c2) :: (lexOs w K.x K.dx K.l K.tks K.ln K.fp K.ws (qs ++ [Value.str (stdS i (W i)) tr]) (c0 + 1) ++ ((I, oI) :: (wl, listOf ws.toArray n) :: (nl, listOf ns.toArray n2) :: (R ++ rest)))) := Led.swap (P := lexOs w K.x K.dx K.l K.tks K.ln K.fp K.ws (qs ++ [Value.str (stdS i (W i)) tr]) (c0 + 1)) (S := [(ld, od), (98, tab2 c1 c2)]) D'
    have F' := D7.fr
    have N' := D7.nw
    have nd9 := D7.nd
    simp only [lexOs, List.cons_append, List.nil_append] at N' nd9
    clear D' D8 D7
    k_steps
    rename Fr _ _ _ _ => F9
    rename News _ _ _ _ => N9
    have D9 := Led.of F9 N9 nd9
    have h1 := hRR (qs ++ [Value.str (stdS i (W i)) tr]) (c0 + 1)
    have D10 : Led _ _ _ _ (((ld, od) :: (98, tab2 c1 c2) :: lns w Ls (upd qv (W ((i + 9) % 10)) (qs ++ [Value.str (stdS i (W i)) tr])) (upd cap (W ((i + 9) % 10)) (c0 + 1))) ++ ((I, oI) :: (wl, listOf ws.toArray n) :: (nl, listOf ns.toArray n2) :: rest)) := Led.perm D9 (((perm_line (M := [(I, oI), (wl, listOf ws.toArray n), (nl, listOf ns.toArray n2)]) h1).cons _).cons _)
    exact hT1 _ _ (Turn.next ⟨od, Ls, _, _, rfl, hL1 tr, rfl, rfl, rfl⟩ D10)
  · rintro h' tk' m' X' ⟨od, Ls, qv, cap, rfl, ok1, hm1, hm2, hm3⟩ D₁
    have F' := D₁.fr
    have N' := D₁.nw
    have nd' := D₁.nd
    rw [mp3 hm1 hm2 hm3] at F'
    simp only [List.cons_append] at N' nd'
    clear F9 N9 D₁ hr
    k_steps
    rename Fr _ _ _ _ => F9
    rename News _ _ _ _ => N9
    rename IsRange _ _ _ _ _ _ _ _ => hr
    have ok0 := ok1.ok hlo wn
    have D9 := Led.of F9 N9 nd'
    have D8 : Led _ _ _ _ (lns w Ls qv cap ++ ((ld, od) :: (98, tab2 c1 c2) :: (wl, listOf ws.toArray n) :: (nl, listOf ns.toArray n2) :: rest)) := Led.perm D9 (List.perm_append_comm_assoc (lns w Ls qv cap) [(ld, od), (98, tab2 c1 c2)] _)
    refine for_range (k := 10) (X := lns w Ls qv cap) (rest := (ld, od) :: (98, tab2 c1 c2) :: (wl, listOf ws.toArray n) :: (nl, listOf ns.toArray n2) :: rest) rfl hr (by decide) D8 (fun i m X => N2 w W od ld wl nl Ls m X)
      ⟨qv, cap, _, rfl, ok0, fun _ => .refl _, rfl, rfl, rfl⟩ ?_ ?_
    · clear ok0 ok1 D8 D9 F9 N9 nd' hm1 hm2 hm3
      rintro i t m₁ X₁ h tk I oI qT2 hT2 hi ⟨qv, cap, q, rfl, ok, G, hm1, hm2, hm3⟩ D₁
      obtain ⟨tw, hw⟩ := wok.2 i hi
      have hwi : ws[((i : Nat) : Int).toNat]? = some (.str (W i) tw) := hw
      obtain ⟨tz, hz⟩ := zok.2 i hi
      have hzi : ns[((i : Nat) : Int).toNat]? = some (.int (Z i) tz) := hz
      obtain ⟨K, hK, hKn⟩ := ok.has hi
      have hl1 : valueAt (lkv Ls) (W i) = some (.ref K.x) := by rw [← hKn]; exact lkv_at hK ok.names.nd
      have hod := ok.dict
      obtain ⟨R, r1, r2⟩ := lns_out (w := w) hK ok.names.nd
      have D₂ : Led _ _ _ _ (K.os w (qv K.name) (cap K.name) ++ ((I, oI) :: (ld, od) :: (98, tab2 c1 c2) :: (wl, listOf ws.toArray n) :: (nl, listOf ns.toArray n2) :: (R qv cap ++ rest))) :=
        Led.perm D₁ (perm_line (M := [(I, oI), (ld, od), (98, tab2 c1 c2), (wl, listOf ws.toArray n), (nl, listOf ns.toArray n2)]) (r1 qv cap)).symm
      have F' := D₂.fr
      have N' := D₂.nw
      have nd' := D₂.nd
      rw [mp3 hm1 hm2 hm3] at F'
      simp only [Lx.os, lexOs, List.cons_append, List.nil_append] at N' nd'
      clear D₁ D₂
      k_steps
      rename Fr _ _ _ _ => F9
      rename News _ _ _ _ => N9
      rename IsRange _ _ _ _ _ _ _ _ => hr
      obtain ⟨kk, hkk, hk3⟩ : ∃ kk : Nat, ((Z i).fdiv 60).fmod 3 = (kk : Nat) ∧ kk < 3 := by
        have h1 : 0 ≤ ((Z i).fdiv 60).fmod 3 := fmod_lo _ (by decide)
        have h2 : ((Z i).fdiv 60).fmod 3 < 3 := fmod_hi _ (by decide)
        exact ⟨_, (Int.toNat_of_nonneg h1).symm, by omega⟩
      rw [hkk] at hr
      have hvq : VLine W (qv K.name) (q (W i)) := hKn ▸ ok.line K hK
      have D9 : Led _ _ _ _ (K.os w (qv K.name) (cap K.name) ++ ((I, oI) :: (ld, od) :: (98, tab2 c1 c2) :: (wl, listOf ws.toArray n) :: (nl, listOf ns.toArray n2) :: (R qv cap ++ rest))) := Led.of F9 N9 nd'
      refine for_range (k := kk) (X := K.os w (qv K.name) (cap K.name)) (rest := (I, oI) :: (ld, od) :: (98, tab2 c1 c2) :: (wl, listOf ws.toArray n) :: (nl, listOf ns.toArray n2) :: (R qv cap ++ rest)) rfl hr (by omega) D9
        (fun _ m X => N3 w W ld wl nl K (W i) m X) ⟨_, _, _, rfl, hvq, G _, rfl, rfl, rfl, rfl⟩ ?_ ?_
      · clear D9 F9 N9 nd' hvq
        rintro j u m₂ X₂ h tk I2 o2 qT3 hT3 hj ⟨vs, c, ps, rfl, hv, hp, hm1, hm2, hm3, hm4⟩ D₂
        obtain ⟨p, pr, rfl⟩ : ∃ p pr, ps = p :: pr := by
          cases ps with
          | nil => have := hp.length_eq; have := outE_pos (W := W) hi; simp at *; omega
          | cons p pr => exact ⟨p, pr, rfl⟩
        obtain ⟨v, rv, rfl, hv0, hvr⟩ := hv.cons
        have hrl : rv.length ≤ 100 := by
          have h1 := hp.length_eq; have h2 := hvr.len; have h3 := outE_le W (W i)
          simp only [List.length_cons] at h1; omega
        have F' := D₂.fr
        have N' := D₂.nw
        have nd2 := D₂.nd
        rw [mp4 hm1 hm2 hm3 hm4] at F'
        simp only [Lx.os, lexOs, List.cons_append, List.nil_append] at N' nd2
        clear D₂
        k_steps
        rename Fr _ _ _ _ => F9
        rename News _ _ _ _ => N9
        have D9 : Led _ _ _ _ (lexOs w K.x K.dx K.l K.tks K.ln K.fp K.ws (v :: rv) c ++ ((I2, o2) :: (I, oI) :: (ld, od) :: (98, tab2 c1 c2) :: (wl, listOf ws.toArray n) :: (nl, listOf ns.toArray n2) :: (R qv cap ++ rest))) := Led.of F9 N9 nd2
        clear F9 N9 nd2
        unfold Wait
        k_dflt (refine' pop_con w K.x K.dx K.l K.tks K.ln K.fp K.ws v rv c hrl B9 X9 T9 ?rK D9 ?rd ?ru ?_)
        case rK => rfl
        case rd => ktr_room
        case ru => ktr_units
        rintro r9 made h' tk' ⟨rfl, rfl⟩ D'
        have F' := D'.fr
        have N' := D'.nw
        have nd2 := D'.nd
        simp only [lexOs, List.cons_append, List.nil_append] at N' nd2
        clear D' D9
        k_steps
        rename Fr _ _ _ _ => F9
        rename News _ _ _ _ => N9
        have D9 : Led _ _ _ _ (lexOs w K.x K.dx K.l K.tks K.ln K.fp K.ws rv (c + 1) ++ ((I2, o2) :: (I, oI) :: (ld, od) :: (98, tab2 c1 c2) :: (wl, listOf ws.toArray n) :: (nl, listOf ns.toArray n2) :: (R qv cap ++ rest))) := Led.of F9 N9 nd2
        clear F9 N9 nd2
        unfold Wait
        k_dflt (refine' push_con w K.x K.dx K.l K.tks K.ln K.fp K.ws _ rv (c + 1) hrl B9 X9 T9 ?rK D9 ?rd ?ru ?_)
        case rK => rfl
        case rd => ktr_room
        case ru => ktr_units
        rintro r9 made h' tk' ⟨rfl, rfl⟩ D'
        have F' := D'.fr
        have N' := D'.nw
        have nd2 := D'.nd
        simp only [lexOs, List.cons_append, List.nil_append] at N' nd2
        clear D' D9
        k_steps
        rename Fr _ _ _ _ => F9
        rename News _ _ _ _ => N9
        have D9 : Led _ _ _ _ (K.os w (rv ++ [r9]) (c + 1 + 1) ++ ((I2, o2) :: (I, oI) :: (ld, od) :: (98, tab2 c1 c2) :: (wl, listOf ws.toArray n) :: (nl, listOf ns.toArray n2) :: (R qv cap ++ rest))) := Led.of F9 N9 nd2
        exact hT3 _ _ (Turn.next ⟨_, _, _, rfl, VLine.app hv0 hvr, (List.perm_append_comm.trans hp : (pr ++ [p]).Perm _), rfl, rfl, rfl, rfl⟩ D9)
      · rintro h' tk' m' X' ⟨vs, c, ps, rfl, hv, hp, hm1, hm2, hm3, hm4⟩ D₂
        have D₃ := D₂.perm (perm_line (M := [(I, oI), (ld, od), (98, tab2 c1 c2), (wl, listOf ws.toArray n), (nl, listOf ns.toArray n2)]) (line_in hKn r1 r2))
        have F' := D₃.fr
        have N' := D₃.nw
        have nd2 := D₃.nd
        rw [mp4 hm1 hm2 hm3 hm4] at F'
        clear D₂ D₃ D9 F9 N9
        k_steps
        rename Fr _ _ _ _ => F9
        rename News _ _ _ _ => N9
        exact hT2 _ _ (Turn.next ⟨_, _, _, rfl, ok.setq hv, good_set G hp, rfl, rfl, rfl⟩ (Led.of F9 N9 nd2))
    · rintro h' tk' m' X' ⟨qv, cap, q, rfl, ok, G, hm1, hm2, hm3⟩ D₂
      have F' := D₂.fr
      have N' := D₂.nw
      have nd2 := D₂.nd
      rw [mp3 hm1 hm2 hm3] at F'
      clear F9 N9 D₂ D8 D9
      k_steps
      rename Fr _ _ _ _ => F9
      rename News _ _ _ _ => N9
      refine hret _ _ _ _ ⟨ld, od, Ls, qv, cap, q, rfl, rfl, ok, G⟩ (Led.perm (Led.of F9 N9 nd2) ?_)
      simp only [List.cons_append, List.nil_append, List.append_assoc]
      exact (List.perm_append_comm_assoc [(ld, od), (98, tab2 c1 c2)] (lns w Ls qv cap) _)
end Mine
end

section
local macro_rules | `(tactic| walk_at "no such key") => `(tactic| fail "no such key")
theorem Mine.startPhNu : True := by
  w_top off
  trivial
open PySem PySem.W PyProof.Rows
set_option maxRecDepth 100000
set_option linter.unusedVariables false
namespace Mine
local macro_rules | `(tactic| k_room) => `(tactic| ktr_room)
local macro_rules | `(tactic| ke_room) => `(tactic| (have hcL9 := cLine_is; (try dsimp only [ktrTop, Around.deeper, Around.in1]); omega))
local macro_rules | `(tactic| ktr_units) => `(tactic| (have hcL9 := cLine_is; (try dsimp only [ktrTop, Around.deeper, Around.in1]); omega))
local macro_rules | `(tactic| tb_rel) => `(tactic| first | assumption | (refine allLt_cons ?_ ?_; (case refine_1 => omega); (case refine_2 => tb_rel)) | exact allLt_mono (by assumption) (by omega) | fail "tb_rel")
local macro_rules | `(tactic| tb_start) => `(tactic| first | assumption | (refine nd_new ?_ ?_; (case refine_1 => tb_rel); (case refine_2 => tb_start)) | fail "tb_start")
local macro_rules | `(tactic| k_all) => `(tactic| assumption)
local macro_rules | `(tactic| walk_at "exec For Name Call cons nil") => `(tactic| ((rename Fr _ _ _ _ => lF'); k_dflt (refine for_src lF' (by rfl) (by rfl) ?_)))
local macro_rules | `(tactic| walk_at "exec For Name Name cons nil") => `(tactic| ((rename Fr _ _ _ _ => lF'); k_dflt (refine for_src lF' (by rfl) (by rfl) ?_)))
local macro_rules | `(tactic| walk_at "call builtin:len") => `(tactic| (k_dflt (refine' len_led (h := ?_)); intro _ _))
local macro_rules | `(tactic| walk_at "call builtin:list.append") => `(tactic| (k_dflt (refine' app_led (h := ?_)); intro h' F' N'))
local macro_rules | `(tactic| walk_at "call builtin:list.count") => `(tactic| k_dflt (refine' count_words (h := ?_)))
local macro_rules | `(tactic| walk_at "getMethod ref") => `(tactic| ((with_reducible show wpAny _ _ (getMethod _ (PySem.Str.ofString "count") _) _ _ _); k_dflt (refine' listMethod_K (by k_asm) (by k_mem) PySem.F.slot_list_count PySem.F.type_list_count ?_)))
local macro_rules | `(tactic| walk_at "subscriptTail Name UnaryOp ref int") => `(tactic| k_dflt (refine' item_neg (h := ?_)))
local macro_rules | `(tactic| walk_at "subscriptTail Name Subscript ref int") => `(tactic| k_dflt (refine' item_any (h := ?_)))
local macro_rules | `(tactic| walk_at "subscriptTail Name Constant ref int") => `(tactic| k_dflt (refine' item_any (h := ?_)))
local macro_rules | `(tactic| walk_at "subscriptTail Name Name ref int") => `(tactic| k_dflt (refine' item_any (h := ?_)))
local macro_rules | `(tactic| walk_at "subscriptTail Name Name ref str") => `(tactic| k_dflt (refine' kda_item (knd := PySem.strKind _ _) (by k_asm) (by k_mem) (by with_reducible assumption) (strKind_is _ _ _ _) (by with_reducible assumption) ?_))
/-- a contract beside a list of ints below -/
def ConS (w : World) (f : Addr) (sc : Addr) (sv : List Value) (args : List Value) (need : List (Addr × Obj)) (dpn unn : Nat) (Out : Value → List (Addr × Obj) → Prop) : Prop :=
  ∀ {p : Program} {loose : List Str} {mean : ExcName → Option Value} {mg mb : Str → Option Value}
   {dp un : Nat} {gd : Option (List Code)} {cn : Str} {cs : Scope} {a : Addr} {ccd : Value} {cl : List (Str × Addr)} {outer : List Env} {A₀ : Around} {base h₀ : Heap} {L : Addr} {m : Str → Option Value} {s : Shared}
   {rest : List (Addr × Obj)} {Q E : Value → Shared → Prop},
   Below A₀ base outer h₀ → (hd.heap_1 w.params).In h₀ → Top p loose mean mg mb h₀ → cs.kind = .function → h₀.IsList sc sv.toArray →
   Led h₀ L m s.heap (need ++ rest) → dp + dpn < recursionLimit → un + unn < cLine →
   (∀ r made h' tk', Out r made → Led h₀ L m h' (made ++ rest) → Q r { s with heap := h', toks := tk' }) →
   wpAny (model PySem.Challenge.rw_ph0055_01.row.prog w) (ktrTop dp un gd cn cs L a ccd cl outer) (call (.ref f) args) Q E s
theorem ints_at : ∀ {vs : List Value} {ns : List Int}, IntsAre vs ns → ∀ {i : Nat}, i < ns.length → ∃ t, vs[i]? = some (.int (ns.getD i 0) t)
  | _, _, .nil, i, h => absurd h (Nat.not_lt_zero _)
  | _, _, .cons n t h, 0, _ => ⟨t, rfl⟩
  | _, _, .cons n t h, i + 1, hi => by
    obtain ⟨u, e⟩ := ints_at h (i := i) (by simpa using hi)
    exact ⟨u, by simpa using e⟩
set_option maxHeartbeats 4000000 in
theorem numbers_con (w : World) (sc : Addr) (sv : List Value) (zs : List Int) (hz : IntsAre sv zs) (hl : zs.length ≤ 63) :
    ConS w 91 sc sv [.ref sc] [] 10 200 (fun r made => ∃ nl ns n Z, r = .ref nl ∧ made = [(nl, listOf ns.toArray n)] ∧ NumsAre ns Z) := by
  intro p loose mean mg mb dp un gd cn cs a ccd cl outer A₀ base h₀ L m s rest Q E B X T hk hsc D hd hu hret
  have F := D.fr
  have N := D.nw
  have nd := D.nd
  simp only [List.nil_append] at N nd
  revert X; k_fill; intro X
  refine wpAny_call ?_
  k_dflt ktr_enter
  rename Fr h₀ _ _ _ => FG
  have hsc2 := FG.lst hsc
  k_steps
  rename Fr _ _ _ _ => F9
  rename News _ _ _ _ => N9
  rename IsRange _ _ _ _ _ _ _ _ => hr
  rename_i l9 h9 l19 h8 h88 tk8 h7 tk7 t1 u1 v1 a9
  have D9 : Led _ _ _ _ ([(l9, _)] ++ rest) := Led.of F9 N9 (nd_new (allLt_iff.mpr l19) nd)
  refine for_range (k := zs.length) rfl hr (by omega) D9 (fun i m X => ∃ ns n zs', X = [(l9, listOf ns.toArray n)] ∧ IntsAre ns zs' ∧ zs'.length = 10 ∧ m (Str.ofString "numbers") = some (.ref l9) ∧ m (Str.ofString "script") = some (.ref sc))
    ⟨_, _, _, rfl, .cons _ _ (.cons _ _ (.cons _ _ (.cons _ _ (.cons _ _ (.cons _ _ (.cons _ _ (.cons _ _ (.cons _ _ (.cons _ _ .nil))))))))), rfl, rfl, rfl⟩ ?_ ?_
  · clear D9 F9 N9 l19 nd hr
    rintro k tq m₁ X₁ h tk I o qT1 hT1 hk ⟨vs, n, zs', rfl, hi, hz10, hm1, hm2⟩ D₁
    have F' := D₁.fr
    have N' := D₁.nw
    have nd' := D₁.nd
    rw [mp2 hm1 hm2] at F'
    simp only [List.cons_append, List.nil_append] at N' nd'
    clear D₁
    have hne := nd_head nd'
    k_steps
    rename Fr _ _ _ _ => F9
    rename News _ _ _ _ => N9
    have D9 := Led.of F9 N9 nd'
    exact hT1 _ _ (Turn.next (X₂ := [(l9, _)]) ⟨_, _, _, rfl, by with_reducible assumption, by rw [List.length_set]; exact hz10, rfl, rfl⟩ D9)
  · rintro h' tk' m' X' ⟨vs, n, zs', rfl, hi, hz10, hm1, hm2⟩ D₁
    have F' := D₁.fr
    have N' := D₁.nw
    have nd' := D₁.nd
    rw [mp2 hm1 hm2] at F'
    simp only [List.cons_append, List.nil_append] at N' nd'
    clear D₁ D9 F9 N9
    k_steps
    rename Fr _ _ _ _ => F9
    rename News _ _ _ _ => N9
    refine hret _ _ _ _ ⟨l9, vs, n, fun i => zs'.getD i 0, rfl, rfl, ?_, fun i hi10 => ?_⟩ (Led.of F9 N9 nd')
    · have := hi.length; omega
    · exact ints_at hi (by omega)
end Mine
end

section
theorem Mine.startPhG : True := by
  w_top off
  trivial
open PySem PySem.W PyProof.Rows
set_option maxRecDepth 100000
set_option linter.unusedVariables false
namespace Mine
theorem runs_toks {M : Model} {Γ : Ctx} {p : Pos} {t : Sem Fin} {fs : List Frame} {s s' : Shared} {e : End} (h : Runs M Γ p t fs s e s') : s.toks ≤ s'.toks := by
  induction h with
  | done => exact Nat.le_refl _
  | raise => exact Nat.le_refl _
  | yield => exact Nat.le_refl _
  | fresh _ ih => exact Nat.le_trans (Nat.le_succ _) ih
  | call _ _ ih1 ih2 => exact Nat.le_trans ih1 ih2
  | resumeFresh _ _ _ _ ih1 ih2 => exact Nat.le_trans ih1 ih2
  | resumeSuspended _ _ _ _ ih1 ih2 => exact Nat.le_trans ih1 ih2
  | segRet _ _ ih1 ih2 => exact Nat.le_trans ih1 ih2
  | segGen _ _ ih1 ih2 => exact Nat.le_trans ih1 ih2
  | segSuspGen _ _ _ _ ih1 ih2 => exact Nat.le_trans ih1 ih2
  | _ => assumption
theorem wakes_toks {M : Model} {Γ : Ctx} {p : Pos} {g : Nat} {r : Resume} {s s' : Shared} {res : GenResult} (h : Wakes M Γ p g r s res s') : s.toks ≤ s'.toks := by
  unfold Wakes at h
  split at h
  · exact h.elim
  · split at h
    · obtain ⟨e₁, s₁, h1, _, _, rfl⟩ := h; have := runs_toks h1; exact this
    · rw [h.2]; exact Nat.le_refl _
    · rw [h.2]; exact Nat.le_refl _
  · obtain ⟨e₁, s₁, h1, _, _, rfl⟩ := h; have := runs_toks h1; exact this
  · rw [h.2]; exact Nat.le_refl _
  · rw [h.2]; exact Nat.le_refl _
theorem wp_toks {α : Type} {M : Model} {Γ : Ctx} (t : Sem α) : ∀ (Q : α → Pos → Shared → Prop) (E : Value → Pos → Shared → Prop) (p : Pos) (s : Shared), Sem.wp M Γ t Q E p s →
    Sem.wp M Γ t (fun a p' s' => s.toks ≤ s'.toks ∧ Q a p' s') (fun e p' s' => s.toks ≤ s'.toks ∧ E e p' s') p s := by
  induction t with
  | pure a => intro Q E p s h; rw [Sem.wp] at h ⊢; exact ⟨Nat.le_refl _, h⟩
  | raise e => intro Q E p s h; rw [Sem.wp] at h ⊢; exact ⟨Nat.le_refl _, h⟩
  | fresh k ih =>
    intro Q E p s h; rw [Sem.wp] at h ⊢
    exact Sem.wp_mono M Γ _ (fun _ _ _ x => ⟨Nat.le_trans (Nat.le_succ _) x.1, x.2⟩) (fun _ _ _ x => ⟨Nat.le_trans (Nat.le_succ _) x.1, x.2⟩) _ _ (ih _ _ _ _ _ h)
  | call c hd g l k ih =>
    intro Q E p s h; rw [Sem.wp] at h ⊢
    obtain ⟨r, s₁, h1, h2⟩ := h
    exact ⟨r, s₁, h1, Sem.wp_mono M Γ _ (fun _ _ _ x => ⟨Nat.le_trans (runs_toks h1) x.1, x.2⟩) (fun _ _ _ x => ⟨Nat.le_trans (runs_toks h1) x.1, x.2⟩) _ _ (ih _ _ _ _ _ h2)⟩
  | resume g r l k ih =>
    intro Q E p s h; rw [Sem.wp] at h ⊢
    obtain ⟨r, s₁, h1, h2⟩ := h
    exact ⟨r, s₁, h1, Sem.wp_mono M Γ _ (fun _ _ _ x => ⟨Nat.le_trans (wakes_toks h1) x.1, x.2⟩) (fun _ _ _ x => ⟨Nat.le_trans (wakes_toks h1) x.1, x.2⟩) _ _ (ih _ _ _ _ _ h2)⟩
  | load a part k ih =>
    intro Q E p s h; rw [Sem.wp] at h ⊢
    obtain ⟨o, h1, h2⟩ := h
    exact ⟨o, h1, ih _ _ _ _ _ h2⟩
  | genState g k ih =>
    intro Q E p s h; rw [Sem.wp] at h ⊢
    obtain ⟨o, h1, h2⟩ := h
    exact ⟨o, h1, ih _ _ _ _ _ h2⟩
  | update a part f k ih => intro Q E p s h; rw [Sem.wp] at h ⊢; exact ⟨h.1, ih _ _ _ _ _ h.2⟩
  | choose src n k ih => intro Q E p s h; rw [Sem.wp] at h ⊢; exact ⟨h.1, ih _ _ _ _ _ h.2⟩
  | rule tag k ih => intro Q E p s h; rw [Sem.wp] at h ⊢; exact ih _ _ _ _ _ h
  | «at» pos k ih => intro Q E p s h; rw [Sem.wp] at h ⊢; exact ih _ _ _ _ _ h
  | alloc o k ih => intro Q E p s h; rw [Sem.wp] at h ⊢; exact ih _ _ _ _ _ h
  | loadIfAlive a k ih => intro Q E p s h; rw [Sem.wp] at h ⊢; exact ih _ _ _ _ _ h
  | point l k ih => intro Q E p s h; rw [Sem.wp] at h ⊢; exact ih _ _ _ _ _ h
  | ask k ih => intro Q E p s h; rw [Sem.wp] at h ⊢; exact ih _ _ _ _ _ h
  | os req l k ih => intro Q E p s h; rw [Sem.wp] at h ⊢; exact ih _ _ _ _ _ h
  | handled own k ih => intro Q E p s h; rw [Sem.wp] at h ⊢; exact ih _ _ _ _ _ h
  | newGen c k ih => intro Q E p s h; rw [Sem.wp] at h ⊢; exact ih _ _ _ _ _ h
  | stack k ih => intro Q E p s h; rw [Sem.wp] at h ⊢; exact ih _ _ _ _ _ h
  | thread k ih => intro Q E p s h; rw [Sem.wp] at h ⊢; exact ih _ _ _ _ _ h
  | _ => intro Q E p s h; rw [Sem.wp] at h; exact h.elim
/-- the counter of the marks never falls -/
theorem wpAny_grow {α : Type} {M : Model} {A : Around} {t : Sem α} {Q : α → Shared → Prop} {E : Value → Shared → Prop} {s : Shared} (h : wpAny M A t (fun a s' => s.toks ≤ s'.toks → Q a s') E s) : wpAny M A t Q E s :=
  fun Γ p hΓ => Sem.wp_mono M Γ _ (fun _ _ _ x => x.2 x.1) (fun _ _ _ x => x.2) _ _ (wp_toks t _ _ _ _ (h Γ p hΓ))
end Mine
end

section
local macro_rules | `(tactic| walk_at "no such key") => `(tactic| fail "no such key")
local macro_rules | `(tactic| walk_at "no such key") => `(tactic| fail "no such key")
local macro_rules | `(tactic| walk_at "no such key") => `(tactic| fail "no such key")
local macro_rules | `(tactic| walk_at "no such key") => `(tactic| fail "no such key")
local macro_rules | `(tactic| walk_at "no such key") => `(tactic| fail "no such key")
local macro_rules | `(tactic| walk_at "no such key") => `(tactic| fail "no such key")
local macro_rules | `(tactic| walk_at "no such key") => `(tactic| fail "no such key")
theorem Mine.startPhWr : True := by
  w_top off
  trivial
open PySem PySem.W PyProof.Rows
set_option maxRecDepth 100000
set_option linter.unusedVariables false
namespace Mine
open LCg
local macro_rules | `(tactic| k_room) => `(tactic| ktr_room)
local macro_rules | `(tactic| ke_room) => `(tactic| (have hcL9 := cLine_is; (try dsimp only [ktrTop, Around.deeper, Around.in1]); omega))
local macro_rules | `(tactic| ktr_units) => `(tactic| (have hcL9 := cLine_is; (try dsimp only [ktrTop, Around.deeper, Around.in1]); omega))
local macro_rules | `(tactic| tb_rel) => `(tactic| first | assumption | (refine allLt_cons ?_ ?_; (case refine_1 => omega); (case refine_2 => tb_rel)) | exact allLt_mono (by assumption) (by omega) | fail "tb_rel")
local macro_rules | `(tactic| tb_start) => `(tactic| first | assumption | (refine nd_new ?_ ?_; (case refine_1 => tb_rel); (case refine_2 => tb_start)) | fail "tb_start")
local macro_rules | `(tactic| k_all) => `(tactic| assumption)
local macro_rules | `(tactic| walk_at "exec For Name Call cons nil") => `(tactic| ((rename Fr _ _ _ _ => lF'); k_dflt (refine for_src lF' (by rfl) (by rfl) ?_)))
local macro_rules | `(tactic| walk_at "exec For Name Name cons nil") => `(tactic| ((rename Fr _ _ _ _ => lF'); k_dflt (refine for_src lF' (by rfl) (by rfl) ?_)))
local macro_rules | `(tactic| walk_at "call builtin:len") => `(tactic| (k_dflt (refine' len_led (h := ?_)); intro _ _))
local macro_rules | `(tactic| walk_at "call builtin:list.append") => `(tactic| (k_dflt (refine' app_led (h := ?_)); intro h' F' N'))
local macro_rules | `(tactic| walk_at "call builtin:list.count") => `(tactic| k_dflt (refine' count_words (h := ?_)))
local macro_rules | `(tactic| walk_at "getMethod ref") => `(tactic| ((with_reducible show wpAny _ _ (getMethod _ (PySem.Str.ofString "count") _) _ _ _); k_dflt (refine' listMethod_K (by k_asm) (by k_mem) PySem.F.slot_list_count PySem.F.type_list_count ?_)))
local macro_rules | `(tactic| walk_at "subscriptTail Name UnaryOp ref int") => `(tactic| k_dflt (refine' item_neg (h := ?_)))
local macro_rules | `(tactic| walk_at "subscriptTail Name Subscript ref int") => `(tactic| k_dflt (refine' item_any (h := ?_)))
local macro_rules | `(tactic| walk_at "subscriptTail Name Constant ref int") => `(tactic| k_dflt (refine' item_any (h := ?_)))
local macro_rules | `(tactic| walk_at "subscriptTail Name Name ref int") => `(tactic| k_dflt (refine' item_any (h := ?_)))
local macro_rules | `(tactic| walk_at "subscriptTail Name Name ref str") => `(tactic| k_dflt (refine' kda_item (knd := PySem.strKind _ _) (by k_asm) (by k_mem) (by with_reducible assumption) (strKind_is _ _ _ _) (by with_reducible assumption) ?_))
section
variable {prog : Program} {w : World} {A : Around} {E : Value → Shared → Prop} {s : Shared} {h₀ : Heap} {L : Addr} {m : Str → Option Value} {env : Env}
/-- what a list comprehension runs over: a text of plain signs -/
inductive SrcS (prog : Program) (w : World) (A : Around) (h₀ : Heap) (L : Addr) (m : Str → Option Value) (env : Env) (elt : Expr) (x : Str) (scope : Scope) (cl : List (Str × Addr)) (Fin : Shared → List Value → List (Addr × Obj) → Prop) (xv : Value) (s₁ : Shared) : Prop
  | mk : ∀ y t news, (xv = .str y t) → (A.handled = none) → (Fr h₀ L s₁.heap m) → (News h₀ L s₁.heap news) → (y.cps.all (· < 128) = true) → (y.cps.size ≤ sizeLine) → (∀ s₂ : Shared, (∃ h, s₂ = { s₁ with heap := h }) → CompRest prog w A h₀ L m env elt x scope cl s₂ (fun _ => True) (SignAt y) (Fin s₂) y.cps.size 0 [] news) → SrcS prog w A h₀ L m env elt x scope cl Fin xv s₁
theorem ListComp_S {elt iter : Expr} {x : Str} {px : Pos} {scope : Scope} {cl : List (Str × Addr)} {pos : Pos} {Q : Value → Shared → Prop} (F₀ : Fr h₀ L s.heap m)
    (hclos : closureFor scope env = pure cl) (hcell : ∀ y ∈ scope.names, y.2 ≠ .cell) (hkind : scope.kind = .function)
    (hnames : ∀ y ∈ scope.names, y.2 = .local → scope.names.lookup y.1 = some .local) (hx : scope.names.lookup x = some .local)
    (h : wpAny (model prog w) A (eval iter env) (SrcS prog w A h₀ L m env elt x scope cl (fun s₂ => FinE h₀ L m s₂ Q)) E s)
    (hs : ∀ x, foldedSetIterable iter env x = pure x := by intro _; rfl) :
    wpAny (model prog w) A (eval (.ListComp elt [⟨.Name x px, iter, [], 0⟩] scope pos) env) Q E s := by
  rw [eval_ListComp]
  refine wpAny_comprehension_free (use := none) rfl hs hclos hkind hnames (wpAny_mono h (fun xv s₁ h₁ => ?_) fun _ _ e => e)
  obtain ⟨y, t, news, rfl, hh, F, N, ha, hsz, R⟩ := h₁
  have up : ∀ b o, s₁.heap.get? b = some o → (s₁.heap.push { cls := .type "str_ascii_iterator", data := .fields #[.str y t, .int 0 0] }).get? b = some o := fun b o e => Heap.get?_push_of_some _ e
  refine wpAny_pyIter_ascii ha (block_U (Walks.strAscii hh s₁.heap.objs.size y t) hsz (fun i h st => ?_) ?_ hcell hkind hx ⟨_, Heap.get?_push_size _ rfl, rfl, rfl⟩ (fun b hb => ?_)
    (F.keeps up) (N.grown up) (Nat.ne_of_lt F.ns.lt) (next_is_new F) (fun p hp => Nat.ne_of_lt (Heap.lt_size (N p hp).1)) trivial (R _ ⟨_, rfl⟩) ?_)
  · obtain ⟨o, e, _⟩ := st; exact ⟨o, e⟩
  · intro i h1 h2 o nw st e1 e2 _ _ _
    obtain ⟨o', q, r⟩ := st
    rw [e1] at q; cases q
    exact ⟨o, e2, r⟩
  · rw [List.mem_singleton.mp hb]
    show s₁.heap.objs.size < (s₁.heap.push _).objs.size
    rw [Heap.size_push]; exact Nat.lt_succ_self _
  · intro D C h tk m' ys news' F' N' o1 hn hC₀ hD₀ hCL hDL hCD offC fin
    refine ⟨m', hn, fun h'' hs'' => fin D h'' tk (F'.change hs'' hCL hC₀) (fun p hp => ?_) o1⟩
    refine ⟨hs''.extBut _ _ ?_ (N' p hp).1, (N' p hp).2⟩
    rcases List.mem_cons.mp hp with rfl | hp
    · exact Ne.symm hCD
    · exact offC p hp
end
/-- a list comprehension by an invariant -/
theorem CompEnd.mono {h₀ : Heap} {L : Addr} {m : Str → Option Value} {s₁ : Shared} {I : Addr} {oI : Obj} {C : Addr} {oC : Obj} {D : Addr} {oD : Obj} {S : List (Addr × Obj) → Prop} {R R' : Value → List (Addr × Obj) → Prop} {y : Value} {s₂ : Shared}
    (h : CompEnd h₀ L m s₁ I oI C oC D oD S R y s₂) (hR : ∀ news, R y news → R' y news) : CompEnd h₀ L m s₁ I oI C oC D oD S R' y s₂ := by
  obtain ⟨h', tk, news', e, F, N, o, hS, r⟩ := h
  exact ⟨h', tk, news', e, F, N, o, hS, hR _ r⟩
section
variable {prog : Program} {w : World} {A : Around} {s : Shared} {h₀ : Heap} {L : Addr} {m : Str → Option Value} {env : Env}
theorem comp_ind {elt : Expr} {x : Str} {scope : Scope} {cl : List (Str × Addr)} {S : List (Addr × Obj) → Prop} {P : Nat → Value → Prop} {Fin : List Value → List (Addr × Obj) → Prop} {n : Nat} {news : List (Addr × Obj)}
    (Inv : Nat → List Value → List (Addr × Obj) → Prop) (h0 : Inv 0 [] news) (fin : ∀ ys news, Inv n ys news → Fin ys news)
    (step : ∀ i ys news v I oI C oC D m₂ h tk (E' : Value → Shared → Prop), ∀ qT : Value → Shared → Prop, (∀ y s', CompEnd h₀ L m { s with heap := h, toks := tk } I oI C oC D (lst ys) S (fun y news' => Inv (i + 1) (ys ++ [y]) news') y s' → qT y s') → i < n → Inv i ys news → P i v → NsObj oC m₂ → m₂ x = some v → Fr h₀ L h m → News h₀ L h ((I, oI) :: (C, oC) :: (D, lst ys) :: news) → Off3 I C D news → ((@Ne Nat I C) ∧ (@Ne Nat I D) ∧ (@Ne Nat C D)) →
      wpAny (model prog w) A (eval elt (compEnvC scope cl C env)) qT E' { s with heap := h, toks := tk }) :
    CompRest prog w A h₀ L m env elt x scope cl s S P Fin n 0 [] news := by
  have key : ∀ k i ys news, i + k = n → Inv i ys news → CompRest prog w A h₀ L m env elt x scope cl s S P Fin k i ys news := by
    intro k
    induction k with
    | zero => intro i ys news hi hI; exact CompRest.zero (fin _ _ (by rw [← hi]; exact hI))
    | succ k ih =>
      intro i ys news hi hI
      refine CompRest.succ fun v I oI C oC D m₂ h tk E' hP hC hx F N off ne => ?_
      refine wpAny_mono (step i ys news v I oI C oC D m₂ h tk E' _ (fun _ _ x => x) (by omega) hI hP hC hx F N off ne) (fun y s₂ h₂ => ?_) fun _ _ e => e
      exact CompEnd.mono h₂ fun news' hI' => ih (i + 1) _ _ (by omega) hI'
  exact key n 0 [] news (by omega) h0
end
theorem gen_pos {α : Type} {M : Model} {A : Around} {t : Sem α} {Q : α → Shared → Prop} {E : Value → Shared → Prop} {h : Heap} {g : Array GenState} {d : Drawn} {X : Nat} {o : OsState} (hh : ∀ tk, 0 < tk → wpAny M A t Q E ⟨h, g, d, tk, o⟩) : wpAny M A t Q E ⟨h, g, d, X + 1, o⟩ := hh _ (Nat.succ_pos _)
local macro_rules | `(tactic| walk_at "execs cons") => `(tactic| (with_reducible refine gen_pos ?_; intro tk' htk'))
local macro_rules | `(tactic| walk_at "execs nil") => `(tactic| (with_reducible refine gen_pos ?_; intro tk' htk'))
local macro_rules | `(tactic| walk_at "call builtin:str.replace cons nil") => `(tactic| (refine wpAny_grow ?_; k_dflt (refine' SC.replaceW (Nat.pos_iff_ne_zero.mp (by with_reducible assumption)) (Nat.succ_ne_zero _) (Nat.ne_of_lt (Nat.lt_succ_self _)) (by decide +kernel) (by omega) (by decide +kernel) ?_); intro t' k' hgrow'; (have hpos' := Nat.lt_of_lt_of_le (Nat.succ_pos _) hgrow'); clear hgrow'))
local macro_rules | `(tactic| walk_at "eval ListComp IfExp cons") => `(tactic| (k_dflt (refine ListComp_S (F₀ := by k_asm) (by with_unfolding_all rfl) (by decide) (by rfl) (by decide) (by rfl) ?_)))
local macro_rules | `(tactic| ktr_enter) => `(tactic| (refine' code_defC ?k1 ?k2 ?k3 ?k4 ?k5 ?kA ?kF ?kK ?k6 ?k7 ?k8 ?k9 ?kB ?kD ?_ ?c2 ?c3 ?c4; (case kA => exact rfl); (case kF => exact rfl); (case kK => assumption); (case k1 => k_asm); (case k2 => k_asm); (case k3 => k_asm); (case k4 => k_asm); (case k5 => k_asm); (case k6 => k_is); (case k7 => k_is); (case k8 => ktr_room); (case k9 => exact BindsTo.of_eq rfl); (case kB => exact rfl); (case kD => decide +kernel); (case c2 => exact rfl); (case c3 => exact rfl); (case c4 => exact rfl); k_whole; intro g' L' h' tk' cells' FG' F' N' Y' B' X' T' l1; (try k_lt l1); k_cells Y'; (try simp only [List.cons_append, List.nil_append] at N'); (try dsimp only); (try k_fold)))
/-- a word, as it is written -/
def escL (word : List Nat) (all : Bool) : List Nat := word.flatMap fun c => if all = true ∨ c ∈ [34, 92, 32] then [92, c] else [c]
/-- a sign of a bare word -/
def barePc (man : Nat) (c : Nat) : Str := if man < 6 ∨ c ∈ [34, 92, 32] then Str.ofString "\\" ++ chS c else chS c
theorem man_cases {man : Nat} (h : man < 12) : man = 0 ∨ man = 1 ∨ man = 2 ∨ man = 3 ∨ man = 4 ∨ man = 5 ∨ man = 6 ∨ man = 7 ∨ man = 8 ∨ man = 9 ∨ man = 10 ∨ man = 11 := by omega
theorem idx3 {man : Nat} (h : man < 12) : ((((man : Nat) : Int).fdiv 2).fmod 3 = 0 ∧ man / 2 % 3 = 0) ∨ ((((man : Nat) : Int).fdiv 2).fmod 3 = 1 ∧ man / 2 % 3 = 1) ∨ ((((man : Nat) : Int).fdiv 2).fmod 3 = 2 ∧ man / 2 % 3 = 2) := by
  rcases man_cases h with rfl | rfl | rfl | rfl | rfl | rfl | rfl | rfl | rfl | rfl | rfl | rfl <;> decide
theorem idx4 {man : Nat} (h : man < 12) : ((((man : Nat) : Int).fdiv 2).fmod 4 = 0 ∧ man / 2 % 4 = 0) ∨ ((((man : Nat) : Int).fdiv 2).fmod 4 = 1 ∧ man / 2 % 4 = 1) ∨ ((((man : Nat) : Int).fdiv 2).fmod 4 = 2 ∧ man / 2 % 4 = 2) ∨ ((((man : Nat) : Int).fdiv 2).fmod 4 = 3 ∧ man / 2 % 4 = 3) := by
  rcases man_cases h with rfl | rfl | rfl | rfl | rfl | rfl | rfl | rfl | rfl | rfl | rfl | rfl <;> decide
theorem nm_ascii {word : Str} (h : word ∈ names5) : word.cps.all (· < 128) = true := by
  rcases nm_cases h with rfl | rfl | rfl | rfl | rfl <;> decide +kernel
/-- a word as it is written -/
def wrS (word : Str) (man : Nat) : Str :=
  if man % 2 = 1 then Str.ofString "\"" ++ Txt.replace (Txt.replace word (Str.ofString "\\") (Str.ofString "\\\\")) (Str.ofString "\"") (Str.ofString "\\\"") ++ Str.ofString "\"" ++
    (if man / 2 % 3 = 0 then Str.ofString "" else if man / 2 % 3 = 1 then Str.ofString " " else Str.ofString "\n")
  else Txt.join (Str.ofString "") (word.cps.toList.map (barePc man)) ++
    Txt.item (Str.ofString " \t\n\u000d") ((((man : Nat) : Int).fdiv 2).fmod 4)
theorem odd_yes {man : Nat} (h : man < 12) : ((man : Nat) : Int).fmod 2 = 1 → man % 2 = 1 := by
  rcases man_cases h with rfl | rfl | rfl | rfl | rfl | rfl | rfl | rfl | rfl | rfl | rfl | rfl <;> decide
theorem odd_no {man : Nat} (h : man < 12) : ¬ ((man : Nat) : Int).fmod 2 = 1 → ¬ man % 2 = 1 := by
  rcases man_cases h with rfl | rfl | rfl | rfl | rfl | rfl | rfl | rfl | rfl | rfl | rfl | rfl <;> decide
theorem bare_man (man : Nat) : barePc man = barePc (if man < 6 then 0 else 6) := by
  funext c
  by_cases h : man < 6
  · simp [barePc, h]
  · simp [barePc, h]
theorem bare_sum {word : Str} (hw : word ∈ names5) (man : Nat) : ((word.cps.toList.map (barePc man)).map (·.length)).sum + (word.cps.toList.map (barePc man)).length ≤ 1048576 := by
  rw [bare_man]
  by_cases h : man < 6
  · rw [if_pos h]; rcases nm_cases hw with rfl | rfl | rfl | rfl | rfl <;> decide +kernel
  · rw [if_neg h]; rcases nm_cases hw with rfl | rfl | rfl | rfl | rfl <;> decide +kernel
theorem bare_len {word : Str} (hw : word ∈ names5) (man : Nat) : (Txt.join (Str.ofString "") (word.cps.toList.map (barePc man))).length ≤ 12 := by
  rw [bare_man]
  by_cases h : man < 6
  · rw [if_pos h]; rcases nm_cases hw with rfl | rfl | rfl | rfl | rfl <;> decide +kernel
  · rw [if_neg h]; rcases nm_cases hw with rfl | rfl | rfl | rfl | rfl <;> decide +kernel
theorem bare_step {word : Str} {man i c : Nat} {ys : List Value} {x : Str} {t : Tok} (hc : word.cps.toList[i]? = some c) (hys : PyProof.Rows.StrsAre ys ((word.cps.toList.take i).map (barePc man))) (hx : barePc man c = x) :
    PyProof.Rows.StrsAre (ys ++ [.str x t]) ((word.cps.toList.take (i + 1)).map (barePc man)) := by
  rw [List.take_add_one, hc, List.map_append]
  subst hx
  exact rows_app hys
theorem bad_is (c : Nat) : (!(Builtin.Str.occurrences (Str.ofString "\"\\ ") ⟨#[c]⟩ 0 (Str.ofString "\"\\ ").length 1).isEmpty) = decide (c ∈ [34, 92, 32]) := by
  rw [StrLaws.found_one, show (Str.ofString "\"\\ ").cps.toList = [34, 92, 32] from by decide +kernel]
theorem in_bad {c : Nat} (h : (Builtin.Str.occurrences (Str.ofString "\"\\ ") ⟨#[c]⟩ 0 (Str.ofString "\"\\ ").length 1).isEmpty = false) : c ∈ [34, 92, 32] := by
  have := bad_is c
  rw [h] at this
  exact of_decide_eq_true this.symm
theorem not_bad {c : Nat} (h : (Builtin.Str.occurrences (Str.ofString "\"\\ ") ⟨#[c]⟩ 0 (Str.ofString "\"\\ ").length 1).isEmpty = true) : c ∉ [34, 92, 32] := by
  have := bad_is c
  rw [h] at this
  exact of_decide_eq_false this.symm
set_option maxHeartbeats 4000000 in
theorem written_con (w : World) (word : Str) (man : Nat) (t u : Tok) (hm : man < 12) (hw : word ∈ names5) :
    Con w 96 [.str word t, .int man u] [] 10 200 (fun r made => (∃ t, r = .str (wrS word man) t) ∧ made = []) := by
  intro p loose mean mg mb dp un gd cn cs a ccd cl outer A₀ base h₀ L m s rest Q E B X T hk D hd hu hret
  have F := D.fr
  have N := D.nw
  have nd := D.nd
  have hwl := nm_len hw
  have hr1 : (Txt.replace word (Str.ofString "\\") (Str.ofString "\\\\")).length ≤ 12 := by rcases nm_cases hw with rfl | rfl | rfl | rfl | rfl <;> decide +kernel
  have hr2 : (Txt.replace (Txt.replace word (Str.ofString "\\") (Str.ofString "\\\\")) (Str.ofString "\"") (Str.ofString "\\\"")).length ≤ 12 := by rcases nm_cases hw with rfl | rfl | rfl | rfl | rfl <;> decide +kernel
  simp only [List.nil_append] at N nd
  revert X; k_fill; intro X
  refine wpAny_call ?_
  k_dflt ktr_enter
  k_steps
  · rcases idx3 hm with ⟨hk, hk'⟩ | ⟨hk, hk'⟩ | ⟨hk, hk'⟩
    all_goals rw [hk]
    all_goals k_steps
    all_goals (rename Fr _ _ _ _ => F9; rename News _ _ _ _ => N9)
    all_goals have hodd := odd_yes hm (by with_reducible assumption)
    · exact hret _ _ _ _ ⟨⟨_, by rw [wrS, if_pos hodd, if_pos hk']⟩, rfl⟩ (Led.of F9 (News.sub N9 fun _ q => .tail _ (.tail _ q)) nd)
    · exact hret _ _ _ _ ⟨⟨_, by rw [wrS, if_pos hodd, if_neg (by omega), if_pos hk']⟩, rfl⟩ (Led.of F9 (News.sub N9 fun _ q => .tail _ (.tail _ q)) nd)
    · exact hret _ _ _ _ ⟨⟨_, by rw [wrS, if_pos hodd, if_neg (by omega), if_neg (by omega)]⟩, rfl⟩ (Led.of F9 (News.sub N9 fun _ q => .tail _ (.tail _ q)) nd)
  · rename Fr _ _ _ _ => F9
    rename News _ _ _ _ => N9
    refine ⟨word, _, _, rfl, rfl, F9, N9, nm_ascii hw, by rw [sizeLine_eq]; exact Nat.le_trans hwl (by decide), ?_⟩
    rintro s₂ ⟨g, rfl⟩
    refine comp_ind (fun i ys news => news = _ ∧ PyProof.Rows.StrsAre ys ((word.cps.toList.take i).map (barePc man))) ⟨rfl, .nil⟩ ?_ ?_
    · rintro ys news ⟨rfl, hys⟩
      unfold FinE
      intro D h' tk' F' N' o1'
      rw [List.take_of_length_le (by simp)] at hys
      have hsum := bare_sum hw man
      clear F9 N9
      dsimp only
      k_steps
      rename Fr _ _ _ _ => F9
      rename News _ _ _ _ => N9
      refine join_listW (items := ys.toArray) (ys := word.cps.toList.map (barePc man)) ⟨_, (N9 _ (.head _)).1, rfl, _, rfl⟩ hys (by decide +kernel) hsum ?_
      intro tj kj
      have hjl := bare_len hw man
      k_steps
      rename Fr _ _ _ _ => F9
      rename News _ _ _ _ => N9
      have hodd := odd_no hm (by with_reducible assumption)
      exact hret _ _ _ _ ⟨⟨_, by rw [wrS, if_neg hodd]⟩, rfl⟩ (Led.of F9 (News.sub N9 fun _ q => .tail _ (.tail _ q)) nd)
    · rintro i ys news v I oI C oC D m₂ h tk E' qT1 hT1 hi ⟨rfl, hys⟩ ⟨c, u, hc, rfl⟩ hC hx F N off ne
      have hcl : (chS c).length ≤ 1 := Nat.le_refl _
      have hc' : word.cps.toList[i]? = some c := by rw [Array.getElem?_toList]; exact hc
      clear F9 N9
      k_steps
      all_goals (rename Fr _ _ _ _ => F9; rename News _ _ _ _ => N9)
      all_goals refine hT1 _ _ (CompEnd.intro F9 N9 _ (fun p hp => hp) off trivial ⟨rfl, ?_⟩)
      · exact bare_step hc' hys (by rw [barePc, if_pos (.inl (by omega))]; rfl)
      · exact bare_step hc' hys (by rw [barePc, if_neg (by rintro (h1 | h1); · omega
                                                           · exact not_bad (by with_reducible assumption) h1)]; rfl)
      · exact bare_step hc' hys (by rw [barePc, if_pos (.inr (in_bad (by with_reducible assumption)))]; rfl)
end Mine
end

section
theorem Mine.startPhTk : True := by
  w_top off
  trivial
open PySem PySem.W PyProof.Rows
set_option maxRecDepth 100000
set_option linter.unusedVariables false
namespace Mine
/-- what a written word leaves behind its reading -/
def leftL (man : Nat) : List Nat := if man % 2 = 1 then (if man / 2 % 3 = 0 then [] else if man / 2 % 3 = 1 then [32] else [10]) else []
def wrL (p : Str × Nat) : List Nat := (wrS p.1 p.2).cps.toList
theorem qtok_app : ∀ (l r v t : List Nat), qtok l = some (v, t) → qtok (l ++ r) = some (v, t ++ r) := by
  intro l r
  induction hn : l.length using Nat.strongRecOn generalizing l with
  | _ n ih =>
    intro v t h
    match l, hn with
    | [], _ => cases h
    | c :: l, hn =>
      by_cases h1 : c = 34
      · subst h1
        rw [qtok_q] at h
        simp only [Option.some.injEq, Prod.mk.injEq] at h
        rw [List.cons_append, qtok_q, h.1, h.2]
      · by_cases h2 : c = 92
        · subst h2
          match l with
          | [] => rw [qtok_b0] at h; cases h
          | d :: l =>
            rw [qtok_b] at h
            obtain ⟨v', h3, rfl⟩ := map_some h
            rw [List.cons_append, List.cons_append, qtok_b, ih l.length (by simp at hn; omega) l rfl v' t h3]
            rfl
        · rw [qtok_c h1 h2] at h
          obtain ⟨v', h3, rfl⟩ := map_some h
          rw [List.cons_append, qtok_c h1 h2, ih l.length (by simp at hn; omega) l rfl v' t h3]
          rfl
theorem btok_app : ∀ (l r v t : List Nat), btok l = some (v, t) → btok (l ++ r) = some (v, t ++ r) := by
  intro l r
  induction hn : l.length using Nat.strongRecOn generalizing l with
  | _ n ih =>
    intro v t h
    match l, hn with
    | [], _ => cases h
    | c :: l, hn =>
      cases h1 : isB c with
      | true =>
        rw [btok_w h1] at h
        simp only [Option.some.injEq, Prod.mk.injEq] at h
        rw [List.cons_append, btok_w h1, h.1, h.2]
      | false =>
        by_cases h2 : c = 92
        · subst h2
          match l with
          | [] => rw [btok_b0] at h; cases h
          | d :: l =>
            rw [btok_b] at h
            obtain ⟨v', h3, rfl⟩ := map_some h
            rw [List.cons_append, List.cons_append, btok_b, ih l.length (by simp at hn; omega) l rfl v' t h3]
            rfl
        · rw [btok_c h1 h2] at h
          obtain ⟨v', h3, rfl⟩ := map_some h
          rw [List.cons_append, btok_c h1 h2, ih l.length (by simp at hn; omega) l rfl v' t h3]
          rfl
theorem tok_app : ∀ (l r v t : List Nat), (l.any fun c => !isB c) = true → tok l = some (v, t) → tok (l ++ r) = some (v, t ++ r)
  | [], _, _, _, h, _ => by cases h
  | c :: l, r, v, t, h, ht => by
    rw [tok] at ht
    rw [List.cons_append, tok]
    cases hb : isB c with
    | true =>
      simp only [hb, if_true] at ht ⊢
      exact tok_app l r v t (by simpa [hb] using h) ht
    | false =>
      simp only [hb, Bool.false_eq_true, if_false] at ht ⊢
      by_cases h1 : c = 34
      · rw [if_pos h1] at ht ⊢; exact qtok_app l r v t ht
      · rw [if_neg h1] at ht ⊢
        have := btok_app (c :: l) r v t ht
        rwa [List.cons_append] at this
theorem tok_blank : ∀ (b l : List Nat), (b.all isB) = true → tok (b ++ l) = tok l
  | [], _, _ => rfl
  | c :: b, l, h => by
    simp only [List.all_cons, Bool.and_eq_true] at h
    rw [List.cons_append, tok, if_pos h.1]
    exact tok_blank b l h.2
theorem left_blank (man : Nat) : ((leftL man).all isB) = true := by
  unfold leftL
  split
  · split
    · rfl
    · split <;> decide
  · rfl
theorem one_word {word : Str} {man : Nat} (hw : word ∈ names5) (hm : man < 12) : tok (wrL (word, man)) = some (word.cps.toList, leftL man) ∧ ((wrL (word, man)).any fun c => !isB c) = true ∧ leftL man <:+ wrL (word, man) ∧ (wrL (word, man)).length ≤ 20 := by
  rcases nm_cases hw with rfl | rfl | rfl | rfl | rfl <;>
  rcases man_cases hm with rfl | rfl | rfl | rfl | rfl | rfl | rfl | rfl | rfl | rfl | rfl | rfl <;> decide +kernel
/-- the text behind the first k words -/
def remL (ps : List (Str × Nat)) (k : Nat) : List Nat := (match k with | 0 => [] | k + 1 => leftL ((ps.getD k (Str.empty, 0)).2)) ++ (ps.drop k).flatMap wrL
def PsOk (ps : List (Str × Nat)) : Prop := ∀ p ∈ ps, p.1 ∈ names5 ∧ p.2 < 12
theorem rem_tok {ps : List (Str × Nat)} (h : PsOk ps) {k : Nat} {p : Str × Nat} (hp : ps[k]? = some p) : tok (remL ps k) = some (p.1.cps.toList, remL ps (k + 1)) := by
  have hpm := h p (List.mem_of_getElem? hp)
  obtain ⟨h1, h2, h3⟩ := one_word hpm.1 hpm.2
  have hd : ps.drop k = p :: ps.drop (k + 1) := by
    rw [List.drop_eq_getElem_cons (List.getElem?_eq_some_iff.mp hp).1, (List.getElem?_eq_some_iff.mp hp).2]
  have hg : ps.getD k (Str.empty, 0) = p := by rw [List.getD_eq_getElem?_getD, hp]; rfl
  have hb : tok (remL ps k) = tok ((ps.drop k).flatMap wrL) := by
    cases k with
    | zero => rfl
    | succ k => exact tok_blank _ _ (left_blank _)
  rw [hb, hd, List.flatMap_cons, tok_app _ _ _ _ h2 h1]
  show _ = some (_, leftL (ps.getD k _).2 ++ _)
  rw [hg]
theorem rem_end {ps : List (Str × Nat)} : tok (remL ps ps.length) = some ([], []) := by
  have : remL ps ps.length = (match ps.length with | 0 => [] | k + 1 => leftL ((ps.getD k (Str.empty, 0)).2)) ++ [] := by
    unfold remL; rw [List.drop_length]; rfl
  rw [this, List.append_nil]
  cases ps.length with
  | zero => rfl
  | succ k => have := tok_blank (leftL (ps.getD k (Str.empty, 0)).2) [] (left_blank _); rw [List.append_nil] at this; exact this
theorem rem_suffix {ps : List (Str × Nat)} (h : PsOk ps) : ∀ k, k ≤ ps.length → remL ps k <:+ ps.flatMap wrL := by
  intro k hk
  have drop_suf : ∀ j, (ps.drop j).flatMap wrL <:+ ps.flatMap wrL := fun j => by
    refine ⟨(ps.take j).flatMap wrL, ?_⟩
    rw [← List.flatMap_append, List.take_append_drop]
  cases k with
  | zero => exact drop_suf 0
  | succ k =>
    have hp : ps[k]? = some (ps[k]'hk) := List.getElem?_eq_getElem hk
    have hpm := h _ (List.mem_of_getElem? hp)
    obtain ⟨h1, h2, ⟨x, h3⟩, _⟩ := one_word hpm.1 hpm.2
    have hd : ps.drop k = ps[k]'hk :: ps.drop (k + 1) := List.drop_eq_getElem_cons hk
    have hg : ps.getD k (Str.empty, 0) = ps[k]'hk := by rw [List.getD_eq_getElem?_getD, hp]; rfl
    refine List.IsSuffix.trans ?_ (drop_suf k)
    rw [hd, List.flatMap_cons]
    refine ⟨x, ?_⟩
    show x ++ (leftL (ps.getD k _).2 ++ _) = _
    rw [hg, ← List.append_assoc, h3]
theorem txt_len {ps : List (Str × Nat)} (h : PsOk ps) : (ps.flatMap wrL).length ≤ 20 * ps.length := by
  induction ps with
  | nil => simp
  | cons p r ih =>
    have hpm := h p (.head _)
    have := (one_word hpm.1 hpm.2).2.2.2
    have ih := ih fun q hq => h q (.tail _ hq)
    rw [List.flatMap_cons, List.length_append, List.length_cons]
    have e : wrL p = wrL (p.1, p.2) := rfl
    rw [e]
    omega
end Mine
end

section
theorem Mine.startPhIt : True := by
  w_top off
  trivial
open PySem PySem.W PyProof.Rows
set_option maxRecDepth 100000
set_option linter.unusedVariables false
namespace Mine
section
variable {prog : Program} {w : World} {A : Around} {h₀ : Heap} {env : Env} {body : List Stmt} {Q : Flow → Shared → Prop} {E : Value → Shared → Prop} {s s₁ : Shared}
/-- the head of a for over pairs -/
def PairSrc (prog : Program) (w : World) (A : Around) (h₀ : Heap) (env : Env) (xk xv : Str) (body : List Stmt) (Q : Flow → Shared → Prop) (E : Value → Shared → Prop) (v : Value) (s₁ : Shared) : Prop :=
  wpAny (model prog w) A (pyIter v) (fun it s₂ => PairLoopAt prog w A h₀ env xk xv body Q E it s₂) E s₁
theorem for_pair {xk xv : Str} {pk pv pt pos : Pos} {x1 : Nat} {iter : Expr} {m : Str → Option Value} (_F : Fr h₀ env.locals s.heap m)
    (h : wpAny (model prog w) A (eval iter env) (fun v s₁ => PairSrc prog w A h₀ env xk xv body Q E v s₁) E s)
    (hs : ∀ x, foldedSetIterable iter env x = pure x := by intro _; rfl) :
    wpAny (model prog w) A (exec (.For (.Tuple [.Name xk pk, .Name xv pv] x1 pt) iter body [] pos) env) Q E s := For_pair_inv h₀ h hs

theorem for_items {K : Type} [DecidableEq K] {knd : KeyKind prog w K} {xk xv : Str} {d vw : Addr} {od : Obj} {kvs : List (K × Value)} {m : Str → Option Value} {X rest : List (Addr × Obj)} (hh : A.handled = none)
    (hxk : env.kindOf xk = some .local) (hxv : env.kindOf xv = some .local) (hp : (env.scope.kind == .class || (env.scope.kind == .module && env.locals != env.globals)) = false)
    (D : Led h₀ env.locals m s₁.heap (X ++ rest)) (hvw : ∃ ov, s₁.heap.get? vw = some ov ∧ ov.cls = .type "dict_items" ∧ ov.data = .fields #[.ref d]) (hl : (d, od) ∈ rest) (hd : od.IsDictOf knd kvs)
    (J : Nat → (Str → Option Value) → List (Addr × Obj) → Prop) (h0 : J 0 m X)
    (step : ∀ i k v key m₁ X₁ h tk I o, ∀ qT : Flow → Shared → Prop, (∀ f s', Turn h₀ env.locals (J (i + 1)) ((I, o) :: rest) { s₁ with heap := h, toks := tk } Q f s' → qT f s') → kvs[i]? = some (k, v) → knd.is k key = true → J i m₁ X₁ → Led h₀ env.locals (fun y => if y = xv then some v else if y = xk then some key else m₁ y) h (X₁ ++ (I, o) :: rest) →
      wpAny (model prog w) A (execs body env) qT E { s₁ with heap := h, toks := tk })
    (done : ∀ h' tk m' X', J kvs.length m' X' → Led h₀ env.locals m' h' (X' ++ rest) → Q .next { s₁ with heap := h', toks := tk })
    (hE : PassesOwn (model prog w) A env E := by passes_own) :
    PairSrc prog w A h₀ env xk xv body Q E (.ref vw) s₁ := by
  have hm := D.nw (d, od) (List.mem_append_right _ hl)
  obtain ⟨ep, hat⟩ := Heap.DictOf.dictAt (Heap.dictOf_iff.mpr ⟨od, hm.1, hd⟩)
  have hdl := Heap.lt_size hm.1
  refine wpAny_pyIter_items hvw hat ?_
  intro pk pv pt x1
  have hI0 : h₀.get? s₁.heap.objs.size = none := Fr.fresh D.fr
  have hIL : s₁.heap.objs.size ≠ env.locals := fun e => absurd D.fr.ns.lt (e ▸ Nat.lt_irrefl _)
  have hdI : d ≠ s₁.heap.objs.size := Nat.ne_of_lt hdl
  generalize hI : s₁.heap.objs.size = I at hI0 hIL hdI ⊢
  refine codeAny_forLoop_any (fun k s' => ∃ i m₁ X₁ h tk ok ov, s' = { s₁ with heap := h, toks := tk } ∧ IsItemIter h I d i kvs.length ep ok ov ∧ Led h₀ env.locals m₁ h (X₁ ++ rest) ∧ h.DictAt knd d kvs ep ∧ (∀ p ∈ X₁ ++ rest, p.1 ≠ I) ∧ J i m₁ X₁ ∧ i ≤ kvs.length ∧ k = kvs.length + 1 - i) ?_ (kvs.length + 1)
    ⟨0, m, X, _, s₁.toks, .none, .none, rfl, by rw [← hI]; exact Heap.get?_push_size _ rfl, D.push _, hat.push _, by rw [← hI]; exact D.fresh, h0, Nat.zero_le _, rfl⟩
  rintro n s' ⟨i, m₁, X₁, H, tk, ok, ov, rfl, hit, D₁, hat₁, hne, hJ, hi, rfl⟩
  cases hv : kvs[i]? with
  | none =>
    have hsz : i = kvs.length := Nat.le_antisymm hi (by simpa using hv)
    refine wpAny_pyNext_items_end hh hit hat₁ hv fun h₁ he₁ => wpAny_execs_nil ?_
    exact done h₁ tk m₁ X₁ (hsz ▸ hJ) (D₁.keep1 hIL hI0 hne he₁)
  | some kv =>
    obtain ⟨k, v⟩ := kv
    have hlt : i < kvs.length := (List.getElem?_eq_some_iff.mp hv).1
    have hIH : I < H.objs.size := Heap.lt_size hit
    refine wpAny_pyNext_items_item hit hat₁ hv fun key h₁ hkey heo ht₁ hz₁ hk₁ => ?_
    refine wpAny_letOwnedTupleGo_items heo fun h₂ he₂ hs₂ => ?_
    replace hs₂ : Heap.SameBut I h₁ h₂ := hs₂
    have ht₂ : h₂.IsTuple H.objs.size #[key, v] := ⟨_, (hs₂.2 _ (Nat.ne_of_gt hIH)).trans ht₁, rfl, _, rfl⟩
    have hz₂ : h₂.objs.size = H.objs.size + 1 := hs₂.1.trans hz₁
    refine wpAny_assign_Tuple hh ht₂ rfl rfl fun h₃ hx₃ => ?_
    replace hx₃ : Heap.ExtBut h₂.objs.size h₂ h₃ := hx₃
    have old₃ : ∀ b o, b < H.objs.size → h₂.get? b = some o → h₃.get? b = some o := fun b o hb x => hx₃ b o (by rw [hz₂]; exact Nat.ne_of_lt (Nat.lt_succ_of_lt hb)) x
    have up₃ : Heap.ExtBut I H h₃ := fun b o hb x => old₃ b o (Heap.lt_size x) (hs₂.extBut b o hb (hk₁ b o hb x))
    have D₃ := D₁.keep1 hIL hI0 hne up₃
    have hat₃ : h₃.DictAt knd d kvs ep := hat₁.at fun o x => up₃ d o hdI x
    have hit₃ := old₃ I _ hIH he₂
    show wpAny _ _ (do holding [v] (assign (.Name xk pk) env key); do holding [] (assign (.Name xv pv) env v); pure ()) _ _ _
    refine wpAny_bind (wpAny_holding (wpAny_assign_Name (wpAny_storeName_local hxk D₃.fr.ns (fun h₄ hn₄ hs₄ => ?_) hp)))
    have D₄ : Led h₀ env.locals (fun y => if y = xk then some key else m₁ y) h₄ (X₁ ++ rest) := ⟨D₃.fr.set hn₄ hs₄, D₃.nw.set hs₄, D₃.nd⟩
    refine wpAny_bind (wpAny_holding (wpAny_assign_Name (wpAny_storeName_local hxv D₄.fr.ns (fun h₅ hn₅ hs₅ => wpAny_pure ?_) hp)))
    have D₅ : Led h₀ env.locals (fun y => if y = xv then some v else if y = xk then some key else m₁ y) h₅ (X₁ ++ rest) := ⟨D₄.fr.set hn₅ hs₅, D₄.nw.set hs₅, D₄.nd⟩
    have up₅ : ∀ b o, b ≠ env.locals → h₃.get? b = some o → h₅.get? b = some o := fun b o hbL x => Heap.SameBut.extBut hs₅ b o hbL (Heap.SameBut.extBut hs₄ b o hbL x)
    have hdL : d ≠ env.locals := hm.2.1
    have hat₅ : h₅.DictAt knd d kvs ep := hat₃.at fun o x => up₅ d o hdL x
    have hit₅ := up₅ I _ hIL hit₃
    obtain ⟨oI, hoI⟩ : ∃ oI, h₅.get? I = some oI := ⟨_, hit₅⟩
    have D₆ : Led h₀ env.locals (fun y => if y = xv then some v else if y = xk then some key else m₁ y) h₅ (X₁ ++ (I, oI) :: rest) := by
      refine Led.perm (news := (I, oI) :: (X₁ ++ rest)) ⟨D₅.fr, fun p hp => ?_, ?_⟩ List.perm_middle
      · rcases List.mem_cons.mp hp with e | hp
        · subst e; exact ⟨hoI, hIL, hI0⟩
        · exact D₅.nw p hp
      · rw [List.map_cons, List.nodup_cons]
        refine ⟨fun hm => ?_, D₅.nd⟩
        obtain ⟨p, hp, e⟩ := List.mem_map.mp hm
        exact hne p hp e
    refine wpAny_passesOwn hE (wpAny_mono (step i k v key m₁ X₁ h₅ _ I oI _ (fun _ _ x => x) hv hkey hJ D₆) (fun f s₃ h₃ => ?_) fun _ _ e => e)
    have key2 : (∃ h' tk' m₂ X₂, s₃ = { ({ s₁ with heap := h₅, toks := tk } : Shared) with heap := h', toks := tk' } ∧ J (i + 1) m₂ X₂ ∧ Led h₀ env.locals m₂ h' (X₂ ++ (I, oI) :: rest)) →
        ∃ m_1, m_1 < kvs.length + 1 - i ∧ ∃ i m₁ X₁ h tk ok ov, s₃ = { s₁ with heap := h, toks := tk } ∧ IsItemIter h I d i kvs.length ep ok ov ∧ Led h₀ env.locals m₁ h (X₁ ++ rest) ∧ h.DictAt knd d kvs ep ∧ (∀ p ∈ X₁ ++ rest, p.1 ≠ I) ∧ J i m₁ X₁ ∧ i ≤ kvs.length ∧ m_1 = kvs.length + 1 - i := by
      rintro ⟨h₇, tk₇, m₂, X₂, rfl, hJ₂, D₇⟩
      have D₈ := D₇.perm (List.perm_middle (a := (I, oI)) (l₁ := X₂) (l₂ := rest)).symm
      refine ⟨kvs.length + 1 - (i + 1), by omega, i + 1, m₂, X₂, h₇, tk₇, key, v, rfl, ?_, D₈.sub (List.sublist_cons_self _ _), hat₅.at fun o x => ?_, nd_head D₈.nd, hJ₂, hlt, rfl⟩
      · have e1 := (D₈.nw _ (.head _)).1
        have e2 : some oI = some _ := hoI.symm.trans hit₅
        show h₇.get? I = _
        rw [e1, e2]
      · have e1 := D₈.nw (d, od) (.tail _ (List.mem_append_right _ hl))
        have e2 := (D₅.nw (d, od) (List.mem_append_right _ hl)).1
        rw [e2] at x
        rw [← x]; exact e1.1
    cases f with
    | ret v => exact h₃
    | brk => exact h₃
    | cont => exact key2 h₃
    | next => exact key2 h₃
end
end Mine
end

section
local macro_rules | `(tactic| walk_at "no such key") => `(tactic| fail "no such key")
local macro_rules | `(tactic| walk_at "no such key") => `(tactic| fail "no such key")
local macro_rules | `(tactic| walk_at "no such key") => `(tactic| fail "no such key")
theorem Mine.startPhAd : True := by
  w_top off
  trivial
open PySem PySem.W PyProof.Rows
set_option maxRecDepth 100000
set_option linter.unusedVariables false
namespace Mine
local macro_rules | `(tactic| k_room) => `(tactic| ktr_room)
local macro_rules | `(tactic| ke_room) => `(tactic| (have hcL9 := cLine_is; (try dsimp only [ktrTop, Around.deeper, Around.in1]); omega))
local macro_rules | `(tactic| ktr_units) => `(tactic| (have hcL9 := cLine_is; (try dsimp only [ktrTop, Around.deeper, Around.in1]); omega))
local macro_rules | `(tactic| tb_rel) => `(tactic| first | assumption | (refine allLt_cons ?_ ?_; (case refine_1 => omega); (case refine_2 => tb_rel)) | exact allLt_mono (by assumption) (by omega) | fail "tb_rel")
local macro_rules | `(tactic| tb_start) => `(tactic| first | assumption | (refine nd_new ?_ ?_; (case refine_1 => tb_rel); (case refine_2 => tb_start)) | fail "tb_start")
local macro_rules | `(tactic| k_all) => `(tactic| assumption)
local macro_rules | `(tactic| walk_at "exec For Name Call cons nil") => `(tactic| ((rename Fr _ _ _ _ => lF'); k_dflt (refine for_src lF' (by rfl) (by rfl) ?_)))
local macro_rules | `(tactic| walk_at "exec For Name Name cons nil") => `(tactic| ((rename Fr _ _ _ _ => lF'); k_dflt (refine for_src lF' (by rfl) (by rfl) ?_)))
local macro_rules | `(tactic| walk_at "call builtin:len") => `(tactic| (k_dflt (refine' len_led (h := ?_)); intro _ _))
local macro_rules | `(tactic| walk_at "call builtin:list.append") => `(tactic| (k_dflt (refine' app_led (h := ?_)); intro h' F' N'))
local macro_rules | `(tactic| walk_at "call builtin:list.count") => `(tactic| k_dflt (refine' count_words (h := ?_)))
local macro_rules | `(tactic| walk_at "getMethod ref") => `(tactic| ((with_reducible show wpAny _ _ (getMethod _ (PySem.Str.ofString "count") _) _ _ _); k_dflt (refine' listMethod_K (by k_asm) (by k_mem) PySem.F.slot_list_count PySem.F.type_list_count ?_)))
local macro_rules | `(tactic| walk_at "subscriptTail Name UnaryOp ref int") => `(tactic| k_dflt (refine' item_neg (h := ?_)))
local macro_rules | `(tactic| walk_at "subscriptTail Name Subscript ref int") => `(tactic| k_dflt (refine' item_any (h := ?_)))
local macro_rules | `(tactic| walk_at "subscriptTail Name Constant ref int") => `(tactic| k_dflt (refine' item_any (h := ?_)))
local macro_rules | `(tactic| walk_at "subscriptTail Name Name ref int") => `(tactic| k_dflt (refine' item_any (h := ?_)))
local macro_rules | `(tactic| walk_at "subscriptTail Name Name ref str") => `(tactic| k_dflt (refine' kda_item (knd := PySem.strKind _ _) (by k_asm) (by k_mem) (by with_reducible assumption) (strKind_is _ _ _ _) (by with_reducible assumption) ?_))
local macro_rules | `(tactic| walk_at "setItem ref str int") => `(tactic| refine wait ?_)
local macro_rules | `(tactic| walk_at "setItem ref str") => `(tactic| refine wait ?_)
local macro_rules | `(tactic| walk_at "compareOp In str ref") => `(tactic| k_dflt (refine' kda_in (knd := PySem.strKind _ _) (by k_asm) (by k_mem) (by with_reducible assumption) (by with_reducible assumption) (strKind_is _ _ _ _) _ (by with_reducible assumption) ?_))
local macro_rules | `(tactic| walk_at "getItem ref str") => `(tactic| k_dflt (refine' kdt_getItem (knd := PySem.strKind _ _) (by k_asm) (by k_mem) (by with_reducible assumption) (strKind_is _ _ _ _) (by with_reducible assumption) ?_))
local macro_rules | `(tactic| walk_at "exec For Tuple Call cons nil") => `(tactic| ((rename Fr _ _ _ _ => lF'); k_dflt (refine for_pair lF' ?_)))
/-- a dict of counts -/
def CVals : List (Str × Value) → List (Str × Nat) → Prop
  | [], [] => True
  | (k, v) :: r, (k', n) :: r' => k = k' ∧ (∃ t, v = .int (n : Nat) t) ∧ CVals r r'
  | _, _ => False
def incr : List (Str × Nat) → Str → List (Str × Nat)
  | [], a => [(a, 1)]
  | (k, n) :: r, a => if k = a then (k, n + 1) :: r else (k, n) :: incr r a
theorem CVals.keys : ∀ {kvs : List (Str × Value)} {cs : List (Str × Nat)}, CVals kvs cs → kvs.map (·.1) = cs.map (·.1)
  | [], [], _ => rfl
  | (k, v) :: r, (k', n) :: r', h => by obtain ⟨rfl, _, h2⟩ := h; simp [CVals.keys h2]
  | [], _ :: _, h => h.elim
  | _ :: _, [], h => h.elim
theorem CVals.len {kvs : List (Str × Value)} {cs : List (Str × Nat)} (h : CVals kvs cs) : kvs.length = cs.length := by
  have := congrArg List.length h.keys
  simpa using this
theorem CVals.snoc {k : Str} {n : Nat} {t : Tok} : ∀ {kvs : List (Str × Value)} {cs : List (Str × Nat)}, CVals kvs cs → CVals (kvs ++ [(k, .int (n : Nat) t)]) (cs ++ [(k, n)])
  | [], [], _ => ⟨rfl, ⟨t, rfl⟩, trivial⟩
  | (_, _) :: _, (_, _) :: _, h => ⟨h.1, h.2.1, CVals.snoc h.2.2⟩
  | [], _ :: _, h => h.elim
  | _ :: _, [], h => h.elim
theorem CVals.at : ∀ {kvs : List (Str × Value)} {cs : List (Str × Nat)}, CVals kvs cs → ∀ {i : Nat} {k : Str} {v : Value}, kvs[i]? = some (k, v) → ∃ n t, cs[i]? = some (k, n) ∧ v = .int (n : Nat) t
  | [], [], _, i, k, v, h => by simp at h
  | (k', v') :: r, (k'', n) :: r', h, 0, k, v, e => by
    obtain ⟨rfl, ⟨t, rfl⟩, _⟩ := h
    simp only [List.getElem?_cons_zero, Option.some.injEq, Prod.mk.injEq] at e
    obtain ⟨rfl, rfl⟩ := e
    exact ⟨n, t, rfl, rfl⟩
  | (k', v') :: r, (k'', n) :: r', h, i + 1, k, v, e => by
    obtain ⟨n, t, h1, h2⟩ := CVals.at h.2.2 (i := i) (by simpa using e)
    exact ⟨n, t, by simpa using h1, h2⟩
  | [], _ :: _, h, _, _, _, _ => h.elim
  | _ :: _, [], h, _, _, _, _ => h.elim
theorem stored_new {kvs : List (Str × Value)} {k : Str} {v : Value} (h : k ∉ kvs.map (·.1)) : stored kvs k v = kvs ++ [(k, v)] := by
  unfold stored
  rw [if_neg]
  intro ha
  obtain ⟨p, hp, e⟩ := List.any_eq_true.mp ha
  exact h (List.mem_map.mpr ⟨p, hp, by simpa using e⟩)
theorem incr_new : ∀ {cs : List (Str × Nat)} {a : Str}, a ∉ cs.map (·.1) → incr cs a = cs ++ [(a, 1)]
  | [], _, _ => rfl
  | (k, n) :: r, a, h => by
    simp only [List.map_cons, List.mem_cons, not_or] at h
    rw [incr, if_neg (fun e => h.1 e.symm), incr_new h.2]; rfl
theorem stored_ne {k a : Str} {v v' : Value} {r : List (Str × Value)} (h : k ≠ a) : stored ((k, v) :: r) a v' = (k, v) :: stored r a v' := by
  unfold stored
  rw [List.any_cons]
  simp only [h, decide_false, Bool.false_or]
  by_cases e : (r.any fun kv => decide (kv.1 = a)) = true
  · rw [if_pos e, if_pos e, List.map_cons, if_neg h]
  · rw [if_neg e, if_neg e]; rfl
theorem stored_eq {k : Str} {v v' : Value} {r : List (Str × Value)} (h : k ∉ r.map (·.1)) : stored ((k, v) :: r) k v' = (k, v') :: r := by
  unfold stored
  rw [if_pos (by simp), List.map_cons, if_pos rfl]
  congr 1
  refine (List.map_congr_left (g := id) fun p hp => ?_).trans (List.map_id _)
  rw [if_neg fun e => h (List.mem_map.mpr ⟨p, hp, e⟩)]; rfl
theorem CVals.look : ∀ {kvs : List (Str × Value)} {cs : List (Str × Nat)}, CVals kvs cs → ∀ {a : Str}, a ∈ cs.map (·.1) → (cs.map (·.1)).Nodup → ∃ n t, valueAt kvs a = some (.int (n : Nat) t) ∧ ∀ u, CVals (stored kvs a (.int (((n : Nat) : Int) + 1) u)) (incr cs a)
  | [], [], _, a, h, _ => by simp at h
  | (k, v) :: r, (k', n) :: r', h, a, ha, nd => by
    obtain ⟨rfl, ⟨t, rfl⟩, hr⟩ := h
    rw [List.map_cons, List.nodup_cons] at nd
    by_cases e : k = a
    · subst e
      refine ⟨n, t, by simp [valueAt], fun u => ?_⟩
      rw [stored_eq (by rw [hr.keys]; exact nd.1), incr, if_pos rfl]
      exact ⟨rfl, ⟨u, rfl⟩, hr⟩
    · have ha' : a ∈ r'.map (·.1) := by
        rcases List.mem_cons.mp ha with x | x
        · exact absurd x.symm e
        · exact x
      obtain ⟨n', t', h1, h2⟩ := CVals.look hr ha' nd.2
      refine ⟨n', t', by rw [← h1]; simp [valueAt, e], fun u => ?_⟩
      rw [stored_ne e, incr, if_neg e]
      exact ⟨rfl, ⟨t, rfl⟩, h2 u⟩
  | [], _ :: _, h, _, _, _ => h.elim
  | _ :: _, [], h, _, _, _ => h.elim
theorem CVals.none {kvs : List (Str × Value)} {cs : List (Str × Nat)} (h : CVals kvs cs) {a : Str} (ha : a ∉ cs.map (·.1)) : valueAt kvs a = none := by
  rw [← h.keys] at ha
  unfold valueAt
  rw [List.find?_eq_none.mpr]; · rfl
  intro p hp e
  exact ha (List.mem_map.mpr ⟨p, hp, by simpa using e⟩)
theorem take_new {cs : List (Str × Nat)} {i : Nat} {p : Str × Nat} (nd : (cs.map (·.1)).Nodup) (h : cs[i]? = some p) : p.1 ∉ (cs.take i).map (·.1) := by
  intro hm
  have hlt := (List.getElem?_eq_some_iff.mp h).1
  have e : cs = cs.take i ++ cs.drop i := (List.take_append_drop i cs).symm
  rw [e, List.map_append, List.nodup_append] at nd
  refine nd.2.2 _ hm p.1 ?_ rfl
  rw [List.drop_eq_getElem_cons hlt, (List.getElem?_eq_some_iff.mp h).2]
  exact .head _
abbrev AK (w : World) := PySem.strKind PySem.Challenge.rw_ph0055_01.row.prog w
inductive AInv (w : World) (td sd nd : Addr) (cs : List (Str × Nat)) (m : Str → Option Value) (X : List (Addr × Obj)) : Prop
  | mk : ∀ on kvn, (X = [(nd, on)]) → (on.IsDictOf (PySem.strKind PySem.Challenge.rw_ph0055_01.row.prog w) kvn) → (CVals kvn cs) → (m (Str.ofString "target") = some (.ref td)) → (m (Str.ofString "source") = some (.ref sd)) → (m (Str.ofString "new_callers") = some (.ref nd)) → AInv w td sd nd cs m X
set_option maxHeartbeats 4000000 in
theorem addc_con (w : World) (td sd : Addr) (ot os : Obj) (kvt : List (Str × Value)) (cs : List (Str × Nat)) (a0 : Str) (t0 : Tok) (ht : ot.IsDictOf (PySem.strKind PySem.Challenge.rw_ph0055_01.row.prog w) kvt) (hc : CVals kvt cs) (hnd : (cs.map (·.1)).Nodup) (hcl : cs.length ≤ 100)
    (hs : os.IsDictOf (PySem.strKind PySem.Challenge.rw_ph0055_01.row.prog w) [(a0, .int 1 t0)]) (lt : (td == sysModules) = false) (ls : (sd == sysModules) = false) :
    Con w 77 [.ref td, .ref sd] [(td, ot), (sd, os)] 10 200 (fun r made => ∃ n on kvn, r = .ref n ∧ made = [(n, on), (td, ot), (sd, os)] ∧ (n == sysModules) = false ∧ on.IsDictOf (PySem.strKind PySem.Challenge.rw_ph0055_01.row.prog w) kvn ∧ CVals kvn (incr cs a0)) := by
  intro p loose mean mg mb dp un gd cn cs' a ccd cl outer A₀ base h₀ L m s rest Q E B X T hk D hd hu hret
  have F := D.fr
  have N := D.nw
  have nd := D.nd
  simp only [List.cons_append, List.nil_append] at N nd
  revert X; k_fill; intro X
  refine wpAny_call ?_
  k_dflt ktr_enter
  k_steps
  rename Fr _ _ _ _ => F9
  rename News _ _ _ _ => N9
  rename_i nd9 hX9 on9 lo9 hs9 fs9 hi9 fi9 l19 h9 hF9 hN9 vw9 h7 l79
  have D9 := Led.of F9 N9 (by tb_start)
  have D8 : Led _ _ _ _ ([(nd9, on9)] ++ ((vw9, ({ cls := .type "dict_items", data := .fields #[.ref td] } : Obj)) :: (td, ot) :: (sd, os) :: rest)) := Led.perm D9 (List.Perm.swap _ _ _)
  clear F9 N9 hF9 hN9 D9
  refine for_items (knd := PySem.strKind _ _) (X := [(nd9, on9)]) rfl rfl rfl rfl D8 ⟨_, (D8.nw _ (.tail _ (.head _))).1, rfl, rfl⟩ (.tail _ (.head _)) ht (fun i m X => AInv w td sd nd9 (cs.take i) m X) ⟨on9, [], rfl, hs9, trivial, rfl, rfl, rfl⟩ ?_ ?_
  · rintro i k v key m₁ X₁ h tk I o qT1 hT1 hkv hkey ⟨on, kvn, rfl, hon, hcv, hm1, hm2, hm3⟩ D₁
    obtain ⟨n, t, hci, rfl⟩ := hc.at hkv
    obtain ⟨tk', rfl⟩ := Value.isStrOf_shape hkey
    have hnew := take_new hnd hci
    have hlen : (cs.take i).length ≤ 1000 := by rw [List.length_take]; omega
    have F' := D₁.fr
    have N' := D₁.nw
    have nd' := D₁.nd
    rw [mp3 hm1 hm2 hm3] at F'
    simp only [List.cons_append, List.nil_append] at N' nd'
    clear D₁ D8
    k_steps
    rename Fr _ _ _ _ => F9
    rename News _ _ _ _ => N9
    unfold Wait
    refine kda_set (knd := PySem.strKind _ _) F9 N9 (UpdF.head (nd_head nd')) hon (strKind_is _ _ _ _) (by rw [hcv.len, sizeLine_eq]; omega) ?_
    intro h' o' F' N' hd'
    rw [stored_new (by rw [hcv.keys]; exact hnew)] at hd'
    clear F9 N9
    k_steps
    rename Fr _ _ _ _ => F9
    rename News _ _ _ _ => N9
    refine hT1 _ _ (Turn.next (X₂ := [(nd9, o')]) ⟨o', _, rfl, hd', ?_, rfl, rfl, rfl⟩ (Led.of F9 N9 nd'))
    rw [List.take_add_one, hci]
    exact CVals.snoc hcv
  · rintro h' tk' m' X' ⟨on, kvn, rfl, hon, hcv, hm1, hm2, hm3⟩ D₁
    have F' := D₁.fr
    have N' := D₁.nw
    have nd' := D₁.nd
    rw [hc.len, List.take_length] at hcv
    rw [mp3 hm1 hm2 hm3] at F'
    simp only [List.cons_append, List.nil_append] at N' nd'
    clear D₁ D8
    k_steps
    rename Fr _ _ _ _ => F9
    rename News _ _ _ _ => N9
    rename_i vw8 h8 l8
    have D9 := Led.of F9 N9 (by tb_start)
    have D8 : Led _ _ _ _ ([(nd9, on)] ++ ((vw8, ({ cls := .type "dict_items", data := .fields #[.ref sd] } : Obj)) :: (vw9, ({ cls := .type "dict_items", data := .fields #[.ref td] } : Obj)) :: (td, ot) :: (sd, os) :: rest)) := Led.perm D9 (List.Perm.swap _ _ _)
    clear F9 N9 D9
    refine for_items (knd := PySem.strKind _ _) (X := [(nd9, on)]) rfl rfl rfl rfl D8 ⟨_, (D8.nw _ (.tail _ (.head _))).1, rfl, rfl⟩ (.tail _ (.tail _ (.tail _ (.head _)))) hs (fun i m X => AInv w td sd nd9 (if i = 0 then cs else incr cs a0) m X) ⟨on, kvn, rfl, hon, hcv, rfl, rfl, rfl⟩ ?_ ?_
    · clear hon hcv
      rintro i k v key m₁ X₁ h tk I o qT2 hT2 hkv hkey ⟨on, kvn, rfl, hon, hcv, hm1, hm2, hm3⟩ D₁
      obtain ⟨rfl, rfl, rfl⟩ : i = 0 ∧ k = a0 ∧ v = .int 1 t0 := by
        cases i with
        | zero => simp only [List.getElem?_cons_zero, Option.some.injEq, Prod.mk.injEq] at hkv; exact ⟨rfl, hkv.1.symm, hkv.2.symm⟩
        | succ i => simp at hkv
      rw [if_pos rfl] at hcv
      obtain ⟨tk', rfl⟩ := Value.isStrOf_shape hkey
      have F' := D₁.fr
      have N' := D₁.nw
      have nd' := D₁.nd
      rw [mp3 hm1 hm2 hm3] at F'
      simp only [List.cons_append, List.nil_append] at N' nd'
      clear D₁ D8
      have hlv := hcv.len
      by_cases hin : k ∈ cs.map (·.1)
      · obtain ⟨n, tn, hl1, hst⟩ := hcv.look hin hnd
        have hsome : (valueAt kvn k).isSome = true := by rw [hl1]; rfl
        k_steps
        rename Fr _ _ _ _ => F9
        rename News _ _ _ _ => N9
        unfold Wait
        refine kda_set (knd := PySem.strKind _ _) F9 N9 (UpdF.head (nd_head nd')) hon (strKind_is _ _ _ _) (by rw [hlv, sizeLine_eq]; omega) ?_
        intro h' o' F' N' hd'
        clear F9 N9
        k_steps
        rename Fr _ _ _ _ => F9
        rename News _ _ _ _ => N9
        refine hT2 _ _ (Turn.next (X₂ := [(nd9, o')]) ⟨o', _, rfl, hd', ?_, rfl, rfl, rfl⟩ (Led.of F9 N9 nd'))
        rw [if_neg (Nat.succ_ne_zero _)]
        exact hst _
      · have hsome : (valueAt kvn k).isSome = false := by rw [hcv.none hin]; rfl
        k_steps
        rename Fr _ _ _ _ => F9
        rename News _ _ _ _ => N9
        unfold Wait
        refine kda_set (knd := PySem.strKind _ _) F9 N9 (UpdF.head (nd_head nd')) hon (strKind_is _ _ _ _) (by rw [hlv, sizeLine_eq]; omega) ?_
        intro h' o' F' N' hd'
        clear F9 N9
        k_steps
        rename Fr _ _ _ _ => F9
        rename News _ _ _ _ => N9
        refine hT2 _ _ (Turn.next (X₂ := [(nd9, o')]) ⟨o', _, rfl, hd', ?_, rfl, rfl, rfl⟩ (Led.of F9 N9 nd'))
        rw [if_neg (Nat.succ_ne_zero _)]
        rw [stored_new (by rw [hcv.keys]; exact hin), incr_new hin]
        exact CVals.snoc hcv
    · rintro h' tk' m' X' ⟨on, kvn, rfl, hon, hcv, hm1, hm2, hm3⟩ D₁
      have F' := D₁.fr
      have N' := D₁.nw
      have nd' := D₁.nd
      rw [mp3 hm1 hm2 hm3] at F'
      simp only [List.cons_append, List.nil_append] at N' nd'
      clear D₁ D8
      k_steps
      rename Fr _ _ _ _ => F9
      rename News _ _ _ _ => N9
      have D9 := Led.of F9 N9 nd'
      exact hret _ _ _ _ ⟨nd9, on, kvn, rfl, rfl, lo9, hon, hcv⟩ (Led.sub D9 (.cons_cons _ (.cons _ (.cons _ (.refl _)))))
end Mine
end

section
local macro_rules | `(tactic| walk_at "no such key") => `(tactic| fail "no such key")
theorem Mine.startPhAf : True := by
  w_top off
  trivial
open PySem PySem.W PyProof.Rows
set_option maxRecDepth 100000
set_option linter.unusedVariables false
namespace Mine
local macro_rules | `(tactic| k_room) => `(tactic| ktr_room)
local macro_rules | `(tactic| ke_room) => `(tactic| (have hcL9 := cLine_is; (try dsimp only [ktrTop, Around.deeper, Around.in1]); omega))
local macro_rules | `(tactic| ktr_units) => `(tactic| (have hcL9 := cLine_is; (try dsimp only [ktrTop, Around.deeper, Around.in1]); omega))
local macro_rules | `(tactic| tb_rel) => `(tactic| first | assumption | (refine allLt_cons ?_ ?_; (case refine_1 => omega); (case refine_2 => tb_rel)) | exact allLt_mono (by assumption) (by omega) | fail "tb_rel")
local macro_rules | `(tactic| tb_start) => `(tactic| first | assumption | (refine nd_new ?_ ?_; (case refine_1 => tb_rel); (case refine_2 => tb_start)) | fail "tb_start")
local macro_rules | `(tactic| k_all) => `(tactic| assumption)
local macro_rules | `(tactic| walk_at "exec For Name Call cons nil") => `(tactic| ((rename Fr _ _ _ _ => lF'); k_dflt (refine for_src lF' (by rfl) (by rfl) ?_)))
local macro_rules | `(tactic| walk_at "exec For Name Name cons nil") => `(tactic| ((rename Fr _ _ _ _ => lF'); k_dflt (refine for_src lF' (by rfl) (by rfl) ?_)))
local macro_rules | `(tactic| walk_at "call builtin:len") => `(tactic| (k_dflt (refine' len_led (h := ?_)); intro _ _))
local macro_rules | `(tactic| walk_at "call builtin:list.append") => `(tactic| (k_dflt (refine' app_led (h := ?_)); intro h' F' N'))
local macro_rules | `(tactic| walk_at "call builtin:list.count") => `(tactic| k_dflt (refine' count_words (h := ?_)))
local macro_rules | `(tactic| walk_at "getMethod ref") => `(tactic| ((with_reducible show wpAny _ _ (getMethod _ (PySem.Str.ofString "count") _) _ _ _); k_dflt (refine' listMethod_K (by k_asm) (by k_mem) PySem.F.slot_list_count PySem.F.type_list_count ?_)))
local macro_rules | `(tactic| walk_at "subscriptTail Name UnaryOp ref int") => `(tactic| k_dflt (refine' item_neg (h := ?_)))
local macro_rules | `(tactic| walk_at "subscriptTail Name Subscript ref int") => `(tactic| k_dflt (refine' item_any (h := ?_)))
local macro_rules | `(tactic| walk_at "subscriptTail Name Constant ref int") => `(tactic| k_dflt (refine' item_any (h := ?_)))
local macro_rules | `(tactic| walk_at "subscriptTail Name Name ref int") => `(tactic| k_dflt (refine' item_any (h := ?_)))
local macro_rules | `(tactic| walk_at "subscriptTail Name Name ref str") => `(tactic| k_dflt (refine' kda_item (knd := PySem.strKind _ _) (by k_asm) (by k_mem) (by with_reducible assumption) (strKind_is _ _ _ _) (by with_reducible assumption) ?_))
local macro_rules | `(tactic| walk_at "call ref") => `(tactic| refine wait ?_)
abbrev tupO (vs : Array Value) : Obj := { cls := .type "tuple", data := .seq vs }
/-- a row of figures: four ints and the callers -/
def rowO (z : Int × Int × Int × Int) (t : Tok × Tok × Tok × Tok) (d : Addr) : Obj := tupO #[.int z.1 t.1, .int z.2.1 t.2.1, .int z.2.2.1 t.2.2.1, .int z.2.2.2 t.2.2.2, .ref d]
set_option maxHeartbeats 4000000 in
theorem afs_con (w : World) (ta sa td sd : Addr) (z y : Int × Int × Int × Int) (tz ty : Tok × Tok × Tok × Tok) (ot os : Obj) (kvt : List (Str × Value)) (cs : List (Str × Nat)) (a0 : Str) (t0 : Tok) (ht : ot.IsDictOf (PySem.strKind PySem.Challenge.rw_ph0055_01.row.prog w) kvt) (hc : CVals kvt cs) (hnd : (cs.map (·.1)).Nodup) (hcl : cs.length ≤ 100)
    (hs : os.IsDictOf (PySem.strKind PySem.Challenge.rw_ph0055_01.row.prog w) [(a0, .int 1 t0)]) (lt : (td == sysModules) = false) (ls : (sd == sysModules) = false) :
    Con w 70 [.ref ta, .ref sa] [(ta, rowO z tz td), (sa, rowO y ty sd), (td, ot), (sd, os)] 20 300
      (fun r made => ∃ ra n on kvn tr, r = .ref ra ∧ made = [(ra, rowO (y.1 + z.1, y.2.1 + z.2.1, y.2.2.1 + z.2.2.1, y.2.2.2 + z.2.2.2) tr n), (n, on)] ∧ (n == sysModules) = false ∧ on.IsDictOf (PySem.strKind PySem.Challenge.rw_ph0055_01.row.prog w) kvn ∧ CVals kvn (incr cs a0)) := by
  intro p loose mean mg mb dp un gd cn cs' a ccd cl outer A₀ base h₀ L m s rest Q E B X T hk D hd hu hret
  have F := D.fr
  have N := D.nw
  have nd := D.nd
  simp only [List.cons_append, List.nil_append, rowO] at N nd
  revert X; k_fill; intro X
  refine wpAny_call ?_
  k_dflt ktr_enter
  k_steps
  rename Fr _ _ _ _ => F9
  rename News _ _ _ _ => N9
  rename Below _ _ _ _ => B9
  rename Frag.In _ _ => X9
  rename Top _ _ _ _ _ _ => T9
  have D9 := Led.of F9 N9 nd
  have D8 : Led _ _ _ _ ([(td, ot), (sd, os)] ++ ([(ta, _), (sa, _)] ++ rest)) := Led.swap (P := [(ta, _), (sa, _)]) (S := [(td, ot), (sd, os)]) (R := rest) D9
  clear F9 N9 D9
  unfold Wait
  k_dflt (refine' addc_con w td sd ot os kvt cs a0 t0 ht hc hnd hcl hs lt ls B9 X9 T9 ?rK D8 ?rd ?ru ?_)
  case rK => rfl
  case rd => ktr_room
  case ru => ktr_units
  rintro r9 made h' tk' ⟨n, on, kvn, rfl, rfl, lo, hon, hcv⟩ D'
  have F' := D'.fr
  have N' := D'.nw
  have nd9 := D'.nd
  simp only [List.cons_append, List.nil_append] at N' nd9
  clear D' D8
  k_steps
  rename Fr _ _ _ _ => F9
  rename News _ _ _ _ => N9
  have D9 := Led.of F9 N9 (by tb_start)
  exact hret _ _ _ _ ⟨_, n, on, kvn, ⟨_, _, _, _⟩, rfl, rfl, lo, hon, hcv⟩ (Led.sub D9 (.cons_cons _ (.cons_cons _ (.cons _ (.cons _ (.cons _ (.cons _ (.refl _))))))))
end Mine
end

section
theorem Mine.startPhEn : True := by
  w_top off
  trivial
open PySem PySem.W PyProof.Rows
set_option maxRecDepth 100000
set_option linter.unusedVariables false
namespace Mine
local macro_rules | `(tactic| k_room) => `(tactic| ktr_room)
local macro_rules | `(tactic| ke_room) => `(tactic| (have hcL9 := cLine_is; (try dsimp only [ktrTop, Around.deeper, Around.in1]); omega))
local macro_rules | `(tactic| ktr_units) => `(tactic| (have hcL9 := cLine_is; (try dsimp only [ktrTop, Around.deeper, Around.in1]); omega))
local macro_rules | `(tactic| tb_rel) => `(tactic| first | assumption | (refine allLt_cons ?_ ?_; (case refine_1 => omega); (case refine_2 => tb_rel)) | exact allLt_mono (by assumption) (by omega) | fail "tb_rel")
local macro_rules | `(tactic| tb_start) => `(tactic| first | assumption | (refine nd_new ?_ ?_; (case refine_1 => tb_rel); (case refine_2 => tb_start)) | fail "tb_start")
local macro_rules | `(tactic| k_all) => `(tactic| assumption)
local macro_rules | `(tactic| walk_at "exec For Name Call cons nil") => `(tactic| ((rename Fr _ _ _ _ => lF'); k_dflt (refine for_src lF' (by rfl) (by rfl) ?_)))
local macro_rules | `(tactic| walk_at "exec For Name Name cons nil") => `(tactic| ((rename Fr _ _ _ _ => lF'); k_dflt (refine for_src lF' (by rfl) (by rfl) ?_)))
local macro_rules | `(tactic| walk_at "call builtin:len") => `(tactic| (k_dflt (refine' len_led (h := ?_)); intro _ _))
local macro_rules | `(tactic| walk_at "call builtin:list.append") => `(tactic| (k_dflt (refine' app_led (h := ?_)); intro h' F' N'))
local macro_rules | `(tactic| walk_at "call builtin:list.count") => `(tactic| k_dflt (refine' count_words (h := ?_)))
local macro_rules | `(tactic| walk_at "getMethod ref") => `(tactic| ((with_reducible show wpAny _ _ (getMethod _ (PySem.Str.ofString "count") _) _ _ _); k_dflt (refine' listMethod_K (by k_asm) (by k_mem) PySem.F.slot_list_count PySem.F.type_list_count ?_)))
local macro_rules | `(tactic| walk_at "subscriptTail Name UnaryOp ref int") => `(tactic| k_dflt (refine' item_neg (h := ?_)))
local macro_rules | `(tactic| walk_at "subscriptTail Name Subscript ref int") => `(tactic| k_dflt (refine' item_any (h := ?_)))
local macro_rules | `(tactic| walk_at "subscriptTail Name Constant ref int") => `(tactic| k_dflt (refine' item_any (h := ?_)))
local macro_rules | `(tactic| walk_at "subscriptTail Name Name ref int") => `(tactic| k_dflt (refine' item_any (h := ?_)))
local macro_rules | `(tactic| walk_at "subscriptTail Name Name ref str") => `(tactic| k_dflt (refine' kda_item (knd := PySem.strKind _ _) (by k_asm) (by k_mem) (by with_reducible assumption) (strKind_is _ _ _ _) (by with_reducible assumption) ?_))
local macro_rules | `(tactic| walk_at "call ref") => `(tactic| refine wait ?_)
local macro_rules | `(tactic| walk_at "subscriptTail Name BinOp ref int") => `(tactic| k_dflt (refine' item_src (h := ?_)))
local macro_rules | `(tactic| walk_at "eval Dict cons cons") => `(tactic| (k_dflt (refine' kdn_eval (knd := PySem.strKind _ _) (by k_asm) (by k_asm) (Top.nolimit (by k_asm)) rfl rfl (List.cons_ne_nil _ _) (Nat.le_of_ble_eq_true rfl) ?_); intro d' h' o' F' N' l1 lo' hd'; (try k_lt l1)))
def stepZ (W : Nat → Str) (Z : Nat → Int) (v : Str) (z : Int × Int × Int × Int) (p : Nat) : Int × Int × Int × Int :=
  if W p = v then ((if src W p = v then 0 else 1) + z.1, 1 + z.2.1, Z p + z.2.2.1, (p : Int) + z.2.2.2) else z
def entryZ (W : Nat → Str) (Z : Nat → Int) (v : Str) (ps : List Nat) : Int × Int × Int × Int := ps.foldl (stepZ W Z v) (0, 0, 0, 0)
def stepC (W : Nat → Str) (v : Str) (cs : List (Str × Nat)) (p : Nat) : List (Str × Nat) := if W p = v then incr cs (src W p) else cs
def entryC (W : Nat → Str) (v : Str) (ps : List Nat) : List (Str × Nat) := ps.foldl (stepC W v) []
theorem perm4 {α : Type} {a b c d : α} {r : List α} : (c :: a :: d :: b :: r).Perm (a :: b :: c :: d :: r) := (List.Perm.swap a c _).trans (List.Perm.cons _ (List.perm_middle (l₁ := [c, d])))
theorem entryZ_succ {W : Nat → Str} {Z : Nat → Int} {v : Str} {ps : List Nat} {i p : Nat} (h : ps[i]? = some p) : entryZ W Z v (ps.take (i + 1)) = stepZ W Z v (entryZ W Z v (ps.take i)) p := by
  rw [List.take_add_one, h, entryZ, List.foldl_append]; rfl
theorem entryC_succ {W : Nat → Str} {v : Str} {ps : List Nat} {i p : Nat} (h : ps[i]? = some p) : entryC W v (ps.take (i + 1)) = stepC W v (entryC W v (ps.take i)) p := by
  rw [List.take_add_one, h, entryC, List.foldl_append]; rfl
theorem ne_of_beq_false {a b : Str} (h : (a == b) = false) : a ≠ b := by simpa using h
theorem incr_keys : ∀ {cs : List (Str × Nat)} {a x : Str}, x ∈ (incr cs a).map (·.1) ↔ x ∈ cs.map (·.1) ∨ x = a
  | [], a, x => by simp [incr]
  | (k, n) :: r, a, x => by
    rw [incr]
    by_cases e : k = a
    · subst e; simp; intro h; exact .inl h
    · rw [if_neg e]
      simp only [List.map_cons, List.mem_cons, incr_keys (cs := r), or_assoc]
theorem incr_nodup : ∀ {cs : List (Str × Nat)} {a : Str}, (cs.map (·.1)).Nodup → ((incr cs a).map (·.1)).Nodup
  | [], a, _ => by simp [incr]
  | (k, n) :: r, a, h => by
    rw [incr]
    rw [List.map_cons, List.nodup_cons] at h
    by_cases e : k = a
    · rw [if_pos e]; exact List.nodup_cons.mpr h
    · rw [if_neg e, List.map_cons, List.nodup_cons]
      refine ⟨fun hm => ?_, incr_nodup h.2⟩
      rcases incr_keys.mp hm with x | x
      · exact h.1 x
      · exact e x
theorem entryC_ok {W : Nat → Str} (wn : ∀ i, i < 10 → W i ∈ names5) (v : Str) (ps : List Nat) : ((entryC W v ps).map (·.1)).Nodup ∧ ∀ x ∈ (entryC W v ps).map (·.1), x ∈ names5 := by
  unfold entryC
  have key : ∀ (ps : List Nat) (cs : List (Str × Nat)), ((cs.map (·.1)).Nodup ∧ ∀ x ∈ cs.map (·.1), x ∈ names5) → (((ps.foldl (stepC W v) cs).map (·.1)).Nodup ∧ ∀ x ∈ (ps.foldl (stepC W v) cs).map (·.1), x ∈ names5) := by
    intro ps
    induction ps with
    | nil => intro cs h; exact h
    | cons p r ih =>
      intro cs h
      refine ih _ ?_
      unfold stepC
      split
      · refine ⟨incr_nodup h.1, fun x hx => ?_⟩
        rcases incr_keys.mp hx with y | y
        · exact h.2 x y
        · rw [y]; exact wn _ (Nat.mod_lt _ (by decide))
      · exact h
  exact key ps [] ⟨by simp, by simp⟩
theorem entryC_len {W : Nat → Str} (wn : ∀ i, i < 10 → W i ∈ names5) (v : Str) (ps : List Nat) : (entryC W v ps).length ≤ 100 := by
  obtain ⟨a, b⟩ := entryC_ok wn v ps
  have := List.Nodup.length_le_of_subset a (l₂ := names5) b
  rw [List.length_map] at this
  exact Nat.le_trans this (by decide)
theorem eval_keep {M : Model} {A : Around} {t : Sem Value} {Q : Value → Shared → Prop} {E : Value → Shared → Prop} {s : Shared} (P : Value → Prop)
    (hi : ∀ q : Value → Shared → Prop, (∀ u tk, P u → q u { s with toks := tk }) → wpAny M A t q E s) (hc : ∀ u tk, P u → Q u { s with toks := tk }) : wpAny M A t Q E s := hi Q hc
local macro_rules | `(tactic| walk_at "eval IfExp") => `(tactic| refine wait ?_)
inductive EInv (w : World) (W : Nat → Str) (Z : Nat → Int) (v : Str) (wl nl : Addr) (ps : List Nat) (m : Str → Option Value) (X : List (Addr × Obj)) : Prop
  | mk : ∀ e tz cd oc kvc, (X = [(e, rowO (entryZ W Z v ps) tz cd), (cd, oc)]) → ((cd == sysModules) = false) → (oc.IsDictOf (PySem.strKind PySem.Challenge.rw_ph0055_01.row.prog w) kvc) → (CVals kvc (entryC W v ps)) → (m (Str.ofString "words") = some (.ref wl)) → (m (Str.ofString "numbers") = some (.ref nl)) → ((∃ t, m (Str.ofString "name") = some (.str v t))) → (m (Str.ofString "entry") = some (.ref e)) → EInv w W Z v wl nl ps m X
set_option maxHeartbeats 4000000 in
theorem entry_con (w : World) (W : Nat → Str) (Z : Nat → Int) (tl wl nl : Addr) (vs ws ns : List Value) (n1 n2 n3 : Nat) (ps : List Nat) (v : Str) (tv : Tok)
    (tok : TVals vs ps) (hps : ∀ p ∈ ps, p < 10) (wok : StrsAre ws W) (zok : NumsAre ns Z) (wn : ∀ i, i < 10 → W i ∈ names5) (hv : v.length ≤ 100) :
    Con w 145 [.ref tl, .ref wl, .ref nl, .str v tv] [(tl, listOf vs.toArray n1), (wl, listOf ws.toArray n2), (nl, listOf ns.toArray n3)] 30 400
      (fun r made => ∃ e tz cd oc kvc, r = .ref e ∧ made = [(e, rowO (entryZ W Z v ps) tz cd), (cd, oc), (tl, listOf vs.toArray n1), (wl, listOf ws.toArray n2), (nl, listOf ns.toArray n3)] ∧ (cd == sysModules) = false ∧
        oc.IsDictOf (PySem.strKind PySem.Challenge.rw_ph0055_01.row.prog w) kvc ∧ CVals kvc (entryC W v ps)) := by
  intro p loose mean mg mb dp un gd cn cs' a ccd cl outer A₀ base h₀ L m s rest Q E B X T hk D hd hu hret
  have F := D.fr
  have N := D.nw
  have nd := D.nd
  simp only [List.cons_append, List.nil_append] at N nd
  revert X; k_fill; intro X
  refine wpAny_call ?_
  k_dflt ktr_enter
  k_steps
  rename Fr _ _ _ _ => F9
  rename News _ _ _ _ => N9
  rename Below _ _ _ _ => B9
  rename Frag.In _ _ => X9
  rename Top _ _ _ _ _ _ => T9
  rename_i cd9 hX9 oc9 lo9 hs9 fs9 hi9 fi9 l19 e9 hY9 l29 hZ9
  have D9 : Led _ _ _ _ ([(e9, rowO (0, 0, 0, 0) (_, _, _, _) cd9), (cd9, oc9)] ++ ((tl, listOf vs.toArray n1) :: (wl, listOf ws.toArray n2) :: (nl, listOf ns.toArray n3) :: rest)) := Led.of F9 N9 (by tb_start)
  clear F9 N9
  refine for_list rfl D9 (.head _) (fun i m X => EInv w W Z v wl nl (ps.take i) m X) ⟨e9, _, cd9, oc9, [], rfl, lo9, hs9, trivial, rfl, rfl, ⟨_, rfl⟩, rfl⟩ ?_ ?_
  · clear D9
    rintro i v' m₁ X₁ h tk I o qT1 hT1 hiv ⟨e, tz, cd, oc, kvc, rfl, lo, hoc, hcv, hm1, hm2, ⟨tn, hm3⟩, hm4⟩ D₁
    obtain ⟨p', tp, hp', rfl⟩ : ∃ p' tp, ps[i]? = some p' ∧ v' = .int (p' : Nat) tp := by
      have hlt := (List.getElem?_eq_some_iff.mp hiv).1
      rw [tok.len] at hlt
      obtain ⟨tp, ht⟩ := tok.at (List.getElem?_eq_getElem hlt)
      rw [hiv] at ht
      exact ⟨_, tp, List.getElem?_eq_getElem hlt, by cases ht; rfl⟩
    have hp10 := hps p' (List.mem_of_getElem? hp')
    obtain ⟨tw, hw⟩ := wok.2 p' hp10
    have hwi : ws[((p' : Nat) : Int).toNat]? = some (.str (W p') tw) := hw
    obtain ⟨ta, hwa⟩ := wok.2 ((p' + 9) % 10) (Nat.mod_lt _ (by decide))
    have hwl := wok.1
    obtain ⟨tzz, hz⟩ := zok.2 p' hp10
    have hzi : ns[((p' : Nat) : Int).toNat]? = some (.int (Z p') tzz) := hz
    have hl1 : (W p').length ≤ 100 := Nat.le_trans (nm_len (wn p' hp10)) (by decide)
    have hl2 : (W ((p' + 9) % 10)).length ≤ 100 := Nat.le_trans (nm_len (wn _ (Nat.mod_lt _ (by decide)))) (by decide)
    have F' := D₁.fr
    have N' := D₁.nw
    have nd' := D₁.nd
    rw [mp4 hm1 hm2 hm3 hm4] at F'
    simp only [List.cons_append, List.nil_append] at N' nd'
    clear D₁
    k_steps
    · unfold Wait
      refine eval_keep (fun u => ∃ b t, u = .int b t ∧ b = (if src W p' = v then 0 else 1 : Int)) ?tst (fun u tk2 hu2 => ?_)
      case tst =>
        intro q7 hq7
        refine IfExp_ ?_
        k_steps
        · exact hq7 _ _ ⟨0, _, rfl, (if_pos (show src W p' = v from (eq_of_beq (by with_reducible assumption) : W ((p' + 9) % 10) = v))).symm⟩
        · exact hq7 _ _ ⟨1, _, rfl, (if_neg (show ¬ src W p' = v from (ne_of_beq_false (by with_reducible assumption) : W ((p' + 9) % 10) ≠ v))).symm⟩
      obtain ⟨b, tb, rfl, hb⟩ := hu2
      k_steps
      rename Fr _ _ _ _ => F9
      rename News _ _ _ _ => N9
      rename_i d9 hA9 oA9 loA9 hdA9 l49 hB9 oB9 hdB9 hfB9 t9 hC9 l59
      have hWv : W p' = v := eq_of_beq (by with_reducible assumption)
      have D9 := Led.of F9 N9 (by tb_start)
      have D8 : Led _ _ _ _ ([(e, rowO (entryZ W Z v (ps.take i)) tz cd), (t9, rowO (b, 1, Z p', (p' : Nat)) (_, _, _, _) d9), (cd, oc), (d9, oB9)] ++ ((I, o) :: (tl, listOf vs.toArray n1) :: (wl, listOf ws.toArray n2) :: (nl, listOf ns.toArray n3) :: rest)) := Led.perm D9 perm4
      clear F9 N9 D9
      obtain ⟨hcn, -⟩ := entryC_ok wn v (ps.take i)
      have hcl := entryC_len wn v (ps.take i)
      unfold Wait
      k_dflt (refine' afs_con w e t9 cd d9 (entryZ W Z v (ps.take i)) (b, 1, Z p', (p' : Nat)) tz _ oc oB9 kvc (entryC W v (ps.take i)) (W ((p' + 9) % 10)) _ hoc hcv hcn hcl hdB9 lo loA9 B9 X9 T9 ?rK D8 ?rd ?ru ?_)
      case rK => rfl
      case rd => ktr_room
      case ru => ktr_units
      rintro r9 made h' tk' ⟨ra, n9, on, kvn, tr, rfl, rfl, lo', hon, hcv'⟩ D'
      have F' := D'.fr
      have N' := D'.nw
      have nd9 := D'.nd
      simp only [List.cons_append, List.nil_append] at N' nd9
      clear D' D8
      k_steps
      rename Fr _ _ _ _ => F9
      rename News _ _ _ _ => N9
      have D9 := Led.of F9 N9 nd9
      refine hT1 _ _ (Turn.next (X₂ := [(ra, _), (n9, on)]) ⟨ra, tr, n9, on, kvn, ?_, lo', hon, ?_, rfl, rfl, ⟨_, rfl⟩, rfl⟩ D9)
      · rw [entryZ_succ hp', stepZ, if_pos hWv, hb]
      · rw [entryC_succ hp', stepC, if_pos hWv]; exact hcv'
    · rename Fr _ _ _ _ => F9
      rename News _ _ _ _ => N9
      have hWv : ¬ W p' = v := ne_of_beq_false (by with_reducible assumption)
      refine hT1 _ _ (Turn.next (X₂ := [(e, _), (cd, oc)]) ⟨e, tz, cd, oc, kvc, ?_, lo, hoc, ?_, rfl, rfl, ⟨_, rfl⟩, rfl⟩ (Led.of F9 N9 nd'))
      · rw [entryZ_succ hp', stepZ, if_neg hWv]
      · rw [entryC_succ hp', stepC, if_neg hWv]; exact hcv
  · rintro h' tk' m' X' ⟨e, tz, cd, oc, kvc, rfl, lo, hoc, hcv, hm1, hm2, ⟨tn, hm3⟩, hm4⟩ D₁
    have hlen : vs.length = ps.length := tok.len
    rw [hlen, List.take_length] at hcv
    have F' := D₁.fr
    have N' := D₁.nw
    have nd' := D₁.nd
    rw [mp4 hm1 hm2 hm3 hm4] at F'
    simp only [List.cons_append, List.nil_append] at N' nd'
    rw [hlen, List.take_length] at N'
    clear D₁ D9
    k_steps
    rename Fr _ _ _ _ => F9
    rename News _ _ _ _ => N9
    exact hret _ _ _ _ ⟨e, tz, cd, oc, kvc, rfl, rfl, lo, hoc, hcv⟩ (Led.of F9 N9 nd')
end Mine
end

section
theorem Mine.startPhPe : True := by
  w_top off
  trivial
open PySem PySem.W PyProof.Rows
set_option maxRecDepth 100000
set_option linter.unusedVariables false
namespace Mine
local macro_rules | `(tactic| k_room) => `(tactic| ktr_room)
def ownP (W : Nat → Str) (v : Str) (i : Nat) : List Nat := (List.range i).filter fun p => decide (W p = v)
def ownC (W : Nat → Str) (ps : List Nat) : List (Str × Nat) := ps.foldl (fun cs p => incr cs (src W p)) []
/-- how often a name stands in a dict of counts -/
def cnt : List (Str × Nat) → Str → Nat
  | [], _ => 0
  | (k, n) :: r, a => if k = a then n else cnt r a
theorem cnt_incr : ∀ (cs : List (Str × Nat)) (a x : Str), cnt (incr cs a) x = cnt cs x + if x = a then 1 else 0
  | [], a, x => by
    rw [incr, cnt, cnt, cnt]
    by_cases e : a = x
    · rw [if_pos e, if_pos e.symm]
    · rw [if_neg e, if_neg fun h => e h.symm]
  | (k, n) :: r, a, x => by
    rw [incr]
    by_cases e : k = a
    · rw [if_pos e, cnt, cnt]
      subst e
      by_cases h : k = x
      · rw [if_pos h, if_pos h, if_pos h.symm]
      · rw [if_neg h, if_neg h, if_neg fun y => h y.symm]; rfl
    · rw [if_neg e, cnt, cnt]
      by_cases h : k = x
      · rw [if_pos h, if_pos h, if_neg fun y => e (h.trans y)]; rfl
      · rw [if_neg h, if_neg h, cnt_incr r a x]
theorem cnt_zero : ∀ {cs : List (Str × Nat)} {x : Str}, x ∉ cs.map (·.1) → cnt cs x = 0
  | [], _, _ => rfl
  | (k, n) :: r, x, h => by
    simp only [List.map_cons, List.mem_cons, not_or] at h
    rw [cnt, if_neg fun e => h.1 e.symm, cnt_zero h.2]
def Pos' (cs : List (Str × Nat)) : Prop := ∀ x, x ∈ cs.map (·.1) → 0 < cnt cs x
theorem pos_incr {cs : List (Str × Nat)} {a : Str} (h : Pos' cs) : Pos' (incr cs a) := by
  intro x hx
  rw [cnt_incr]
  rcases incr_keys.mp hx with y | y
  · have := h x y; omega
  · rw [if_pos y]; omega
theorem sum_incr : ∀ (cs : List (Str × Nat)) (a : Str), ((incr cs a).map (·.2)).sum = (cs.map (·.2)).sum + 1
  | [], a => by simp [incr]
  | (k, n) :: r, a => by
    rw [incr]
    by_cases e : k = a
    · rw [if_pos e]; simp only [List.map_cons, List.sum_cons]; omega
    · rw [if_neg e]; simp only [List.map_cons, List.sum_cons, sum_incr r a]; omega
theorem own_key (W : Nat → Str) : ∀ (ps : List Nat) (cs : List (Str × Nat)), Pos' cs →
    Pos' (ps.foldl (fun cs p => incr cs (src W p)) cs) ∧ (∀ x, cnt (ps.foldl (fun cs p => incr cs (src W p)) cs) x = cnt cs x + (fs W ps x).length) ∧ ((ps.foldl (fun cs p => incr cs (src W p)) cs).map (·.2)).sum = (cs.map (·.2)).sum + ps.length
  | [], cs, h => ⟨h, fun x => rfl, rfl⟩
  | p :: r, cs, h => by
    obtain ⟨h1, h2, h3⟩ := own_key W r (incr cs (src W p)) (pos_incr h)
    refine ⟨h1, fun x => ?_, ?_⟩
    · rw [List.foldl_cons, h2, cnt_incr, fs, fs, List.filter_cons]
      by_cases e : src W p = x
      · simp only [e, decide_true, if_true, List.length_cons]; omega
      · have : ¬ (x = src W p) := fun y => e y.symm
        simp only [e, this, decide_false, if_false, Bool.false_eq_true]; omega
    · rw [List.foldl_cons, h3, sum_incr, List.length_cons]; omega
theorem own_pos (W : Nat → Str) (ps : List Nat) : Pos' (ownC W ps) := (own_key W ps [] fun x hx => (nomatch hx)).1
theorem own_cnt (W : Nat → Str) (ps : List Nat) (x : Str) : cnt (ownC W ps) x = (fs W ps x).length := by
  have := (own_key W ps [] fun x hx => (nomatch hx)).2.1 x
  rw [ownC, this]; simp [cnt]
theorem own_sum (W : Nat → Str) (ps : List Nat) : ((ownC W ps).map (·.2)).sum = ps.length := by
  have := (own_key W ps [] fun x hx => (nomatch hx)).2.2
  rw [ownC, this]; simp
theorem entryC_own (W : Nat → Str) (v : Str) (ps : List Nat) : entryC W v ps = ownC W (fd W ps v) := by
  rw [entryC, ownC, fd, List.foldl_filter]
  congr 1
  funext cs p
  by_cases h : W p = v
  · rw [stepC, if_pos h, if_pos (by simpa using h)]
  · rw [stepC, if_neg h, if_neg (by simpa using h)]
theorem own_perm {W : Nat → Str} {ps qs : List Nat} (h : ps.Perm qs) (x : Str) : cnt (ownC W ps) x = cnt (ownC W qs) x := by
  rw [own_cnt, own_cnt]; exact (h.filter _).length_eq
theorem own_mem {W : Nat → Str} {ps : List Nat} {x : Str} : x ∈ (ownC W ps).map (·.1) ↔ 0 < cnt (ownC W ps) x := by
  refine ⟨own_pos W ps x, fun h => ?_⟩
  refine Decidable.byContradiction fun hn => ?_
  rw [cnt_zero hn] at h; omega
theorem own_keys {W : Nat → Str} {ps qs : List Nat} (h : ps.Perm qs) (x : Str) : x ∈ (ownC W ps).map (·.1) ↔ x ∈ (ownC W qs).map (·.1) := by
  rw [own_mem, own_mem, own_perm h]
theorem sum_perm {ps qs : List Int} (h : ps.Perm qs) : ps.sum = qs.sum := by
  induction h with
  | nil => rfl
  | cons x _ ih => rw [List.sum_cons, List.sum_cons, ih]
  | swap x y l => simp only [List.sum_cons]; omega
  | trans _ _ ih1 ih2 => exact ih1.trans ih2
/-- what _law_ledger reckons -/
def rowZ (W : Nat → Str) (Z : Nat → Int) (v : Str) (ps : List Nat) : Int × Int × Int × Int :=
  ((ps.length : Int) - (cnt (ownC W ps) v : Int), (ps.length : Int), (ps.map Z).sum, (ps.map fun p => ((p : Nat) : Int)).sum)
theorem entryZ_key (W : Nat → Str) (Z : Nat → Int) (v : Str) : ∀ (ps : List Nat) (z : Int × Int × Int × Int),
    ps.foldl (stepZ W Z v) z = (z.1 + (((fd W ps v).length : Int) - ((fs W (fd W ps v) v).length : Int)), z.2.1 + ((fd W ps v).length : Int), z.2.2.1 + ((fd W ps v).map Z).sum, z.2.2.2 + ((fd W ps v).map fun p => ((p : Nat) : Int)).sum)
  | [], z => by simp [fd, fs]
  | p :: r, z => by
    rw [List.foldl_cons, entryZ_key W Z v r, stepZ]
    by_cases h : W p = v
    · have e : fd W (p :: r) v = p :: fd W r v := by rw [fd, List.filter_cons, if_pos (by simpa using h)]
      rw [if_pos h, e]
      by_cases h2 : src W p = v
      · have e2 : fs W (p :: fd W r v) v = p :: fs W (fd W r v) v := by rw [fs, List.filter_cons, if_pos (by simpa using h2)]
        rw [if_pos h2, e2]
        simp only [List.length_cons, List.map_cons, List.sum_cons, Prod.mk.injEq]
        refine ⟨?_, ?_, ?_, ?_⟩ <;> omega
      · have e2 : fs W (p :: fd W r v) v = fs W (fd W r v) v := by rw [fs, List.filter_cons, if_neg (by simpa using h2)]
        rw [if_neg h2, e2]
        simp only [List.length_cons, List.map_cons, List.sum_cons, Prod.mk.injEq]
        refine ⟨?_, ?_, ?_, ?_⟩ <;> omega
    · have e : fd W (p :: r) v = fd W r v := by rw [fd, List.filter_cons, if_neg (by simpa using h)]
      rw [if_neg h, e]
theorem entryZ_row (W : Nat → Str) (Z : Nat → Int) (v : Str) (ps : List Nat) : entryZ W Z v ps = rowZ W Z v (fd W ps v) := by
  rw [entryZ, entryZ_key, rowZ, own_cnt]
  simp only [Int.zero_add]
theorem rowZ_perm {W : Nat → Str} {Z : Nat → Int} {v : Str} {ps qs : List Nat} (h : ps.Perm qs) : rowZ W Z v ps = rowZ W Z v qs := by
  rw [rowZ, rowZ, own_perm h, h.length_eq, sum_perm (h.map Z), sum_perm (h.map fun p => ((p : Nat) : Int))]
theorem CVals.cnt : ∀ {kvs : List (Str × Value)} {cs : List (Str × Nat)}, CVals kvs cs → ∀ {a : Str}, a ∈ cs.map (·.1) → ∃ t, valueAt kvs a = some (.int (cnt cs a : Nat) t)
  | [], [], _, a, h => by simp at h
  | (k, v) :: r, (k', n) :: r', h, a, ha => by
    obtain ⟨rfl, ⟨t, rfl⟩, hr⟩ := h
    by_cases e : k = a
    · subst e
      exact ⟨t, by simp [valueAt, Mine.cnt]⟩
    · have ha' : a ∈ r'.map (·.1) := by
        rcases List.mem_cons.mp ha with x | x
        · exact absurd x.symm e
        · exact x
      obtain ⟨t', h1⟩ := CVals.cnt hr ha'
      refine ⟨t', ?_⟩
      rw [Mine.cnt, if_neg e, ← h1]
      simp [valueAt, e]
  | [], _ :: _, h, _, _ => h.elim
  | _ :: _, [], h, _, _ => h.elim
end Mine
end

section
theorem Mine.startPhCo : True := by
  w_top off
  trivial
open PySem PySem.W PyProof.Rows LCg LCt
set_option maxRecDepth 100000
set_option linter.unusedVariables false
namespace Mine
section
variable {prog : Program} {w : World} {A : Around} {s : Shared} {h₀ : Heap} {L : Addr} {m : Str → Option Value} {env : Env}
/-- a comprehension with a test, by an invariant -/
theorem comp_indT {ct elt : Expr} {x : Str} {scope : Scope} {cl : List (Str × Addr)} {S : List (Addr × Obj) → Prop} {P : Nat → Value → Prop} {Fin : List Value → List (Addr × Obj) → Prop} {n : Nat} {news : List (Addr × Obj)}
    (Inv : Nat → List Value → List (Addr × Obj) → Prop) (h0 : Inv 0 [] news) (fin : ∀ ys news, Inv n ys news → Fin ys news)
    (step : ∀ i ys news v I oI C oC D m₂ h tk (E' : Value → Shared → Prop), ∀ (qT : Value → Shared → Prop) (qF : Shared → Prop), (∀ y s', CompEnd h₀ L m { s with heap := h, toks := tk } I oI C oC D (lst ys) S (fun y news' => Inv (i + 1) (ys ++ [y]) news') y s' → qT y s') → (∀ s', CompEnd h₀ L m { s with heap := h, toks := tk } I oI C oC D (lst ys) S (fun _ news' => Inv (i + 1) ys news') Value.none s' → qF s') → i < n → Inv i ys news → P i v → NsObj oC m₂ → m₂ x = some v → Fr h₀ L h m → News h₀ L h ((I, oI) :: (C, oC) :: (D, lst ys) :: news) → Off3 I C D news → ((@Ne Nat I C) ∧ (@Ne Nat I D) ∧ (@Ne Nat C D)) →
      wpAny (model prog w) A (isTrue ct (compEnvC scope cl C env) (eval ct (compEnvC scope cl C env))) (fun ok s' => if ok = true then wpAny (model prog w) A (eval elt (compEnvC scope cl C env)) qT E' s' else qF s') E' { s with heap := h, toks := tk }) :
    CompRestT prog w A h₀ L m env ct elt x scope cl s S P Fin n 0 [] news := by
  have key : ∀ k i ys news, i + k = n → Inv i ys news → CompRestT prog w A h₀ L m env ct elt x scope cl s S P Fin k i ys news := by
    intro k
    induction k with
    | zero => intro i ys news hi hI; exact CompRestT.zero (fin _ _ (by rw [← hi]; exact hI))
    | succ k ih =>
      intro i ys news hi hI
      refine CompRestT.succ fun v I oI C oC D m₂ h tk E' hP hC hx F N off ne => ?_
      refine wpAny_mono (step i ys news v I oI C oC D m₂ h tk E' _ _ (fun _ _ x => x) (fun _ x => x) (by omega) hI hP hC hx F N off ne) (fun ok s' h' => ?_) fun _ _ e => e
      cases ok with
      | true =>
        simp only [if_true] at h' ⊢
        refine wpAny_mono h' (fun y s₂ h₂ => ?_) fun _ _ e => e
        exact CompEnd.mono h₂ fun news' hI' => ih (i + 1) _ _ (by omega) hI'
      | false =>
        simp only [Bool.false_eq_true, if_false] at h' ⊢
        exact CompEnd.mono h' fun news' hI' => ih (i + 1) _ _ (by omega) hI'
  exact key n 0 [] news (by omega) h0
end
end Mine
end

section
theorem Mine.startPhLg : True := by
  w_top off
  trivial
open PySem PySem.W PyProof.Rows
set_option maxRecDepth 100000
set_option linter.unusedVariables false
namespace Mine
open LCg LCt
local macro_rules | `(tactic| k_room) => `(tactic| ktr_room)
local macro_rules | `(tactic| ke_room) => `(tactic| (have hcL9 := cLine_is; (try dsimp only [ktrTop, Around.deeper, Around.in1]); omega))
local macro_rules | `(tactic| ktr_units) => `(tactic| (have hcL9 := cLine_is; (try dsimp only [ktrTop, Around.deeper, Around.in1]); omega))
local macro_rules | `(tactic| tb_rel) => `(tactic| first | assumption | (refine allLt_cons ?_ ?_; (case refine_1 => omega); (case refine_2 => tb_rel)) | exact allLt_mono (by assumption) (by omega) | fail "tb_rel")
local macro_rules | `(tactic| tb_start) => `(tactic| first | assumption | (refine nd_new ?_ ?_; (case refine_1 => tb_rel); (case refine_2 => tb_start)) | fail "tb_start")
local macro_rules | `(tactic| k_all) => `(tactic| assumption)
local macro_rules | `(tactic| walk_at "exec For Name Call cons nil") => `(tactic| ((rename Fr _ _ _ _ => lF'); k_dflt (refine for_src lF' (by rfl) (by rfl) ?_)))
local macro_rules | `(tactic| walk_at "exec For Name Name cons nil") => `(tactic| ((rename Fr _ _ _ _ => lF'); k_dflt (refine for_src lF' (by rfl) (by rfl) ?_)))
local macro_rules | `(tactic| walk_at "call builtin:len") => `(tactic| (k_dflt (refine' len_led (h := ?_)); intro _ _))
local macro_rules | `(tactic| walk_at "call builtin:list.append") => `(tactic| (k_dflt (refine' app_led (h := ?_)); intro h' F' N'))
local macro_rules | `(tactic| walk_at "call builtin:list.count") => `(tactic| k_dflt (refine' count_words (h := ?_)))
local macro_rules | `(tactic| walk_at "getMethod ref") => `(tactic| ((with_reducible show wpAny _ _ (getMethod _ (PySem.Str.ofString "count") _) _ _ _); k_dflt (refine' listMethod_K (by k_asm) (by k_mem) PySem.F.slot_list_count PySem.F.type_list_count ?_)))
local macro_rules | `(tactic| walk_at "subscriptTail Name UnaryOp ref int") => `(tactic| k_dflt (refine' item_neg (h := ?_)))
local macro_rules | `(tactic| walk_at "subscriptTail Name Subscript ref int") => `(tactic| k_dflt (refine' item_any (h := ?_)))
local macro_rules | `(tactic| walk_at "subscriptTail Name Constant ref int") => `(tactic| k_dflt (refine' item_any (h := ?_)))
local macro_rules | `(tactic| walk_at "subscriptTail Name Name ref int") => `(tactic| k_dflt (refine' item_any (h := ?_)))
local macro_rules | `(tactic| walk_at "subscriptTail Name Name ref str") => `(tactic| k_dflt (refine' kda_item (knd := PySem.strKind _ _) (by k_asm) (by k_mem) (by with_reducible assumption) (strKind_is _ _ _ _) (by with_reducible assumption) ?_))
local macro_rules | `(tactic| ktr_enter) => `(tactic| (refine' code_defC ?k1 ?k2 ?k3 ?k4 ?k5 ?kA ?kF ?kK ?k6 ?k7 ?k8 ?k9 ?kB ?kD ?_ ?c2 ?c3 ?c4; (case kA => exact rfl); (case kF => exact rfl); (case kK => assumption); (case k1 => k_asm); (case k2 => k_asm); (case k3 => k_asm); (case k4 => k_asm); (case k5 => k_asm); (case k6 => k_is); (case k7 => k_is); (case k8 => ktr_room); (case k9 => exact BindsTo.of_eq rfl); (case kB => exact rfl); (case kD => decide +kernel); (case c2 => exact rfl); (case c3 => exact rfl); (case c4 => exact rfl); k_whole; intro g' L' h' tk' cells' FG' F' N' Y' B' X' T' l1; (try k_lt l1); k_cells Y'; (try simp only [List.cons_append, List.nil_append] at N'); (try dsimp only); (try k_fold)))
local macro_rules | `(tactic| walk_at "setItem ref str int") => `(tactic| refine wait ?_)
local macro_rules | `(tactic| walk_at "subscriptTail Name BinOp ref int") => `(tactic| k_dflt (refine' item_src (h := ?_)))
local macro_rules | `(tactic| walk_at "call builtin:dict.get cons nil") => `(tactic| (k_dflt (refine' kdg_get2 (knd := PySem.strKind _ _) (by k_asm) (by k_mem) (by with_reducible assumption) (by with_reducible assumption) (strKind_is _ _ _ _) _ (by with_reducible assumption) ?_); (try dsimp only [Option.getD_some, Option.getD_none])))
local macro_rules | `(tactic| walk_at "exec Assign cons ListComp") => `(tactic| (k_dflt (refine LCt.Assign_ListComp_T (F₀ := by k_asm) (by rfl) (by with_unfolding_all rfl) (by with_unfolding_all rfl) (by decide) (by rfl) (by decide) (by rfl) (by rfl) (by rfl) ?_)))
local macro_rules | `(tactic| walk_at "CompSrcT") => `(tactic| refine wait ?_)
local macro_rules | `(tactic| walk_at "CompSrc") => `(tactic| refine wait ?_)
theorem ints_app {x : Int} {t : Tok} : ∀ {vs : List Value} {ns : List Int}, IntsAre vs ns → IntsAre (vs ++ [.int x t]) (ns ++ [x])
  | _, _, .nil => .cons _ _ .nil
  | _, _, .cons _ _ h => .cons _ _ (ints_app h)
theorem TVals.ints {vs : List Value} {ps : List Nat} (h : TVals vs ps) : IntsAre vs (ps.map fun p => ((p : Nat) : Int)) := by
  obtain ⟨ts, h1, rfl⟩ := h
  induction ps generalizing ts with
  | nil => exact .nil
  | cons p r ih =>
    cases ts with
    | nil => cases h1
    | cons t ts => exact .cons _ _ (ih ts (by simpa using h1))
theorem ownC_ok {W : Nat → Str} (wn : ∀ i, i < 10 → W i ∈ names5) (ps : List Nat) : ((ownC W ps).map (·.1)).Nodup ∧ ∀ x ∈ (ownC W ps).map (·.1), x ∈ names5 := by
  unfold ownC
  have key : ∀ (ps : List Nat) (cs : List (Str × Nat)), ((cs.map (·.1)).Nodup ∧ ∀ x ∈ cs.map (·.1), x ∈ names5) → (((ps.foldl (fun cs p => incr cs (src W p)) cs).map (·.1)).Nodup ∧ ∀ x ∈ (ps.foldl (fun cs p => incr cs (src W p)) cs).map (·.1), x ∈ names5) := by
    intro ps
    induction ps with
    | nil => intro cs h; exact h
    | cons p r ih =>
      intro cs h
      refine ih _ ⟨incr_nodup h.1, fun x hx => ?_⟩
      rcases incr_keys.mp hx with y | y
      · exact h.2 x y
      · rw [y]; exact wn _ (Nat.mod_lt _ (by decide))
  exact key ps [] ⟨by simp, by simp⟩
theorem ownC_len {W : Nat → Str} (wn : ∀ i, i < 10 → W i ∈ names5) (ps : List Nat) : (ownC W ps).length ≤ 100 := by
  obtain ⟨a, b⟩ := ownC_ok wn ps
  have := List.Nodup.length_le_of_subset a (l₂ := names5) b
  rw [List.length_map] at this
  exact Nat.le_trans this (by decide)
theorem ownC_succ {W : Nat → Str} {ps : List Nat} {i p : Nat} (h : ps[i]? = some p) : ownC W (ps.take (i + 1)) = incr (ownC W (ps.take i)) (W ((p + 9) % 10)) := by
  rw [List.take_add_one, h, ownC, List.foldl_append]; rfl
theorem nd_off {D : Addr} {o : Obj} {X : List (Addr × Obj)} (h : Off1 D X) (nd : (X.map (·.1)).Nodup) : (((D, o) :: X).map (·.1)).Nodup := by
  rw [List.map_cons, List.nodup_cons]
  refine ⟨fun hm => ?_, nd⟩
  obtain ⟨p, hp, e⟩ := List.mem_map.mp hm
  have : ∀ X : List (Addr × Obj), Off1 D X → ∀ p ∈ X, p.1 ≠ D := by
    intro X
    induction X with
    | nil => intro _ p hp; cases hp
    | cons q r ih =>
      intro h p hp
      rcases List.mem_cons.mp hp with e | hp
      · subst e; exact h.1
      · exact ih h.2 p hp
  exact this X h p hp e
theorem inE_le (W : Nat → Str) (v : Str) : (inE W v).length ≤ 10 := by
  have := List.length_filter_le (fun p => decide (W p = v)) (List.range 10)
  simpa [inE] using this
theorem ownP_succ {W : Nat → Str} {v : Str} {i : Nat} : ownP W v (i + 1) = if W i = v then ownP W v i ++ [i] else ownP W v i := by
  unfold ownP
  rw [List.range_succ, List.filter_append]
  by_cases h : W i = v
  · simp [h]
  · simp [h]
local macro_rules | `(tactic| tb_start) => `(tactic| first | assumption | (refine nd_new ?_ ?_; (case refine_1 => tb_rel); (case refine_2 => tb_start)) | (refine nd_off ?_ ?_; (case refine_1 => assumption); (case refine_2 => tb_start)) | fail "tb_start")
set_option maxHeartbeats 4000000 in
theorem ledger_con (w : World) (W : Nat → Str) (Z : Nat → Int) (wl nl : Addr) (ws ns : List Value) (n2 n3 : Nat) (v : Str) (tv : Tok)
    (wok : StrsAre ws W) (zok : NumsAre ns Z) (wn : ∀ i, i < 10 → W i ∈ names5) (hv : v.length ≤ 100) :
    Con w 150 [.ref wl, .ref nl, .str v tv] [(wl, listOf ws.toArray n2), (nl, listOf ns.toArray n3)] 30 400
      (fun r made => ∃ e tz cd oc kvc, r = .ref e ∧ made = [(e, rowO (rowZ W Z v (inE W v)) tz cd), (cd, oc), (wl, listOf ws.toArray n2), (nl, listOf ns.toArray n3)] ∧ (cd == sysModules) = false ∧ oc.IsDictOf (PySem.strKind PySem.Challenge.rw_ph0055_01.row.prog w) kvc ∧ CVals kvc (ownC W (inE W v))) := by
  intro p loose mean mg mb dp un gd cn cs' a ccd cl outer A₀ base h₀ L m s rest Q E B X T hk D hd hu hret
  have F := D.fr
  have N := D.nw
  have nd := D.nd
  simp only [List.cons_append, List.nil_append] at N nd
  revert X; k_fill; intro X
  refine wpAny_call ?_
  k_dflt ktr_enter
  k_steps
  rename Fr _ _ _ _ => F9
  rename News _ _ _ _ => N9
  rename IsRange _ _ _ _ _ _ _ _ => hr
  unfold Wait
  refine LCt.CompSrcT.range (n := 10) rfl F9 N9 hr (by decide) (by decide) (by rw [sizeLine_eq]; omega) ?_
  intro g9
  refine comp_indT (fun i ys news => news = _ ∧ TVals ys (ownP W v i)) ⟨rfl, [], rfl, rfl⟩ ?_ ?_
  · rintro ys news ⟨rfl, hys⟩
    unfold FinA
    intro D h' tk' F' N' o1'
    have hown : ownP W v 10 = inE W v := rfl
    rw [hown] at hys
    have hyl := hys.len
    have hin10 := inE_le W v
    clear F9 N9
    k_steps
    rename Fr _ _ _ _ => F9
    rename News _ _ _ _ => N9
    rename_i cd9 hX9 oc9 lo9 hs9 fs9 hi9 fi9 l19 hY9
    have D9 : Led _ _ _ _ ([(cd9, oc9)] ++ ((D, listOf ys.toArray ys.length) :: _)) := Led.of F9 N9 (by tb_start)
    refine for_list rfl D9 (.head _) (fun i m X => ∃ oc kvc, X = [(cd9, oc)] ∧ oc.IsDictOf (PySem.strKind PySem.Challenge.rw_ph0055_01.row.prog w) kvc ∧ CVals kvc (ownC W ((inE W v).take i)) ∧ m (Str.ofString "callers") = some (.ref cd9) ∧ m (Str.ofString "own") = some (.ref D)) ⟨oc9, [], rfl, hs9, trivial, rfl, rfl⟩ ?_ ?_
    · rintro i v' m₁ X₁ h tk I o qT1 hT1 hiv ⟨oc, kvc, rfl, hoc, hcv, hm1, hm2⟩ D₁
      obtain ⟨p', tp, hp', rfl⟩ : ∃ p' tp, (inE W v)[i]? = some p' ∧ v' = .int (p' : Nat) tp := by
        have hlt := (List.getElem?_eq_some_iff.mp hiv).1
        rw [hyl] at hlt
        obtain ⟨tp, ht⟩ := hys.at (List.getElem?_eq_getElem hlt)
        rw [hiv] at ht
        exact ⟨_, tp, List.getElem?_eq_getElem hlt, by cases ht; rfl⟩
      have hp10 := (mem_in.mp (List.mem_of_getElem? hp')).1
      obtain ⟨ta, hwa⟩ := wok.2 ((p' + 9) % 10) (Nat.mod_lt _ (by decide))
      have hwl := wok.1
      have hl2 : (W ((p' + 9) % 10)).length ≤ 100 := Nat.le_trans (nm_len (wn _ (Nat.mod_lt _ (by decide)))) (by decide)
      have F' := D₁.fr
      have N' := D₁.nw
      have nd' := D₁.nd
      rw [mp2 hm1 hm2] at F'
      simp only [List.cons_append, List.nil_append] at N' nd'
      clear D₁ F9 N9 D9
      obtain ⟨hcn, hcm⟩ := ownC_ok wn ((inE W v).take i)
      have hcl := ownC_len wn ((inE W v).take i)
      by_cases hin : W ((p' + 9) % 10) ∈ (ownC W ((inE W v).take i)).map (·.1)
      · obtain ⟨nn, tn, hl1, hst⟩ := hcv.look hin hcn
        k_steps
        rename Fr _ _ _ _ => F9
        rename News _ _ _ _ => N9
        unfold Wait
        refine kda_set (knd := PySem.strKind _ _) F9 N9 (UpdF.head (nd_head nd')) hoc (strKind_is _ _ _ _) (by rw [hcv.len, sizeLine_eq]; omega) ?_
        intro h' o' F' N' hd'
        clear F9 N9
        k_steps
        rename Fr _ _ _ _ => F9
        rename News _ _ _ _ => N9
        refine hT1 _ _ (Turn.next (X₂ := [(cd9, o')]) ⟨o', _, rfl, hd', ?_, rfl, rfl⟩ (Led.of F9 N9 nd'))
        rw [ownC_succ hp']
        exact hst _
      · have hl1 := hcv.none hin
        k_steps
        rename Fr _ _ _ _ => F9
        rename News _ _ _ _ => N9
        unfold Wait
        refine kda_set (knd := PySem.strKind _ _) F9 N9 (UpdF.head (nd_head nd')) hoc (strKind_is _ _ _ _) (by rw [hcv.len, sizeLine_eq]; omega) ?_
        intro h' o' F' N' hd'
        clear F9 N9
        k_steps
        rename Fr _ _ _ _ => F9
        rename News _ _ _ _ => N9
        refine hT1 _ _ (Turn.next (X₂ := [(cd9, o')]) ⟨o', _, rfl, hd', ?_, rfl, rfl⟩ (Led.of F9 N9 nd'))
        rw [ownC_succ hp', stored_new (by rw [hcv.keys]; exact hin), incr_new hin]
        exact CVals.snoc hcv
    · rintro h' tk' m' X' ⟨oc, kvc, rfl, hoc, hcv, hm1, hm2⟩ D₁
      rw [hyl, List.take_length] at hcv
      have F' := D₁.fr
      have N' := D₁.nw
      have nd' := D₁.nd
      rw [mp2 hm1 hm2] at F'
      simp only [List.cons_append, List.nil_append] at N' nd'
      clear D₁ F9 N9 D9
      k_steps
      rename Fr _ _ _ _ => F9
      rename News _ _ _ _ => N9
      unfold Wait
      refine CompSrc.ledger (its := ys.toArray) (k := ys.length) rfl F9 N9 (.tail _ (.head _)) (by rw [List.size_toArray, sizeLine_eq]; omega) ?_
      intro g9
      refine comp_ind (fun i ys2 news => news = _ ∧ IntsAre ys2 (((inE W v).take i).map Z)) ⟨rfl, .nil⟩ ?_ ?_
      · rintro ys2 news ⟨rfl, hi2⟩
        unfold FinE
        intro D2 h' tk' F' N' o2'
        rw [List.size_toArray, hyl, List.take_length] at hi2
        clear F9 N9
        have hoi : IntsAre ys ((inE W v).map fun p => ((p : Nat) : Int)) := hys.ints
        obtain ⟨hcn, -⟩ := ownC_ok wn (inE W v)
        by_cases hin : v ∈ (ownC W (inE W v)).map (·.1)
        · obtain ⟨tn, hl1⟩ := hcv.cnt hin
          k_steps
          rename Fr _ _ _ _ => F9
          rename News _ _ _ _ => N9
          rename News _ _ _ ((_, lst _) :: _) => N8
          have D9 := Led.of F9 N9 (nd_new (allLt_iff.mpr fun p hp => Heap.lt_size (N8 p hp).1) (by tb_start))
          rw [hyl] at D9
          exact hret _ _ _ _ ⟨_, ⟨_, _, _, _⟩, cd9, oc, kvc, rfl, rfl, lo9, hoc, hcv⟩ (Led.sub D9 (.cons_cons _ (.cons _ (.cons_cons _ (.cons _ (.cons _ (.cons _ (.cons _ (.refl _)))))))))
        · have hl1 := hcv.none hin
          k_steps
          rename Fr _ _ _ _ => F9
          rename News _ _ _ _ => N9
          rename News _ _ _ ((_, lst _) :: _) => N8
          have D9 := Led.of F9 N9 (nd_new (allLt_iff.mpr fun p hp => Heap.lt_size (N8 p hp).1) (by tb_start))
          have hz : ((inE W v).length : Int) - 0 = ((inE W v).length : Int) - (cnt (ownC W (inE W v)) v : Int) := by rw [cnt_zero hin]; rfl
          rw [hyl, hz] at D9
          exact hret _ _ _ _ ⟨_, ⟨_, _, _, _⟩, cd9, oc, kvc, rfl, rfl, lo9, hoc, hcv⟩ (Led.sub D9 (.cons_cons _ (.cons _ (.cons_cons _ (.cons _ (.cons _ (.cons _ (.cons _ (.refl _)))))))))
      · rintro i ys2 news x I oI C oC D' m₂ h tk E' qT2 hT2 hi ⟨rfl, hi2⟩ hiv hC hx F N off ne
        have hiv : ys[i]? = some x := by simpa using hiv
        obtain ⟨p', tp, hp', rfl⟩ : ∃ p' tp, (inE W v)[i]? = some p' ∧ x = .int (p' : Nat) tp := by
          have hlt := (List.getElem?_eq_some_iff.mp hiv).1
          rw [hyl] at hlt
          obtain ⟨tp, ht⟩ := hys.at (List.getElem?_eq_getElem hlt)
          rw [hiv] at ht
          exact ⟨_, tp, List.getElem?_eq_getElem hlt, by cases ht; rfl⟩
        have hp10 := (mem_in.mp (List.mem_of_getElem? hp')).1
        obtain ⟨tz, hz⟩ := zok.2 p' hp10
        have hzi : ns[((p' : Nat) : Int).toNat]? = some (.int (Z p') tz) := hz
        clear F9 N9
        k_steps
        rename Fr _ _ _ _ => F9
        rename News _ _ _ _ => N9
        refine hT2 _ _ (CompEnd.intro F9 N9 _ (fun p hp => hp) off (.inr ⟨_, .tail _ (.head _), rfl, _, rfl⟩) ⟨rfl, ?_⟩)
        rw [List.take_add_one, hp', List.map_append]
        exact ints_app hi2
  · rintro i ys news x I oI C oC D' m₂ h tk E' qT3 qF3 hT3 hF3 hi ⟨rfl, hys⟩ ⟨t, rfl⟩ hC hx F N off ne
    rw [Int.zero_add] at hx
    obtain ⟨tw, hw⟩ := wok.2 i hi
    have hwi : ws[((i : Nat) : Int).toNat]? = some (.str (W i) tw) := hw
    have hl1 : (W i).length ≤ 100 := Nat.le_trans (nm_len (wn i hi)) (by decide)
    clear F9 N9 hr
    k_steps
    all_goals (rename Fr _ _ _ _ => F9; rename News _ _ _ _ => N9)
    · refine hT3 _ _ (CompEnd.intro F9 N9 _ (fun p hp => hp) off trivial ⟨rfl, ?_⟩)
      rw [ownP_succ, if_pos (eq_of_beq (by with_reducible assumption))]
      exact hys.app i t
    · refine hF3 _ (CompEnd.intro F9 N9 _ (fun p hp => hp) off trivial ⟨rfl, ?_⟩)
      rw [ownP_succ, if_neg (ne_of_beq_false (by with_reducible assumption))]
      exact hys
end Mine
end

section
theorem Mine.startPhCc : True := by
  w_top off
  trivial
open PySem PySem.W PyProof.Rows
set_option maxRecDepth 100000
set_option linter.unusedVariables false
namespace Mine
local macro_rules | `(tactic| k_room) => `(tactic| ktr_room)
local macro_rules | `(tactic| ke_room) => `(tactic| (have hcL9 := cLine_is; (try dsimp only [ktrTop, Around.deeper, Around.in1]); omega))
local macro_rules | `(tactic| ktr_units) => `(tactic| (have hcL9 := cLine_is; (try dsimp only [ktrTop, Around.deeper, Around.in1]); omega))
local macro_rules | `(tactic| tb_rel) => `(tactic| first | assumption | (refine allLt_cons ?_ ?_; (case refine_1 => omega); (case refine_2 => tb_rel)) | exact allLt_mono (by assumption) (by omega) | fail "tb_rel")
local macro_rules | `(tactic| tb_start) => `(tactic| first | assumption | (refine nd_new ?_ ?_; (case refine_1 => tb_rel); (case refine_2 => tb_start)) | fail "tb_start")
local macro_rules | `(tactic| k_all) => `(tactic| assumption)
local macro_rules | `(tactic| walk_at "exec For Name Call cons nil") => `(tactic| ((rename Fr _ _ _ _ => lF'); k_dflt (refine for_src lF' (by rfl) (by rfl) ?_)))
local macro_rules | `(tactic| walk_at "exec For Name Name cons nil") => `(tactic| ((rename Fr _ _ _ _ => lF'); k_dflt (refine for_src lF' (by rfl) (by rfl) ?_)))
local macro_rules | `(tactic| walk_at "call builtin:len") => `(tactic| (k_dflt (refine' len_led (h := ?_)); intro _ _))
local macro_rules | `(tactic| walk_at "call builtin:list.append") => `(tactic| (k_dflt (refine' app_led (h := ?_)); intro h' F' N'))
local macro_rules | `(tactic| walk_at "call builtin:list.count") => `(tactic| k_dflt (refine' count_words (h := ?_)))
local macro_rules | `(tactic| walk_at "getMethod ref") => `(tactic| ((with_reducible show wpAny _ _ (getMethod _ (PySem.Str.ofString "count") _) _ _ _); k_dflt (refine' listMethod_K (by k_asm) (by k_mem) PySem.F.slot_list_count PySem.F.type_list_count ?_)))
local macro_rules | `(tactic| walk_at "subscriptTail Name UnaryOp ref int") => `(tactic| k_dflt (refine' item_neg (h := ?_)))
local macro_rules | `(tactic| walk_at "subscriptTail Name Subscript ref int") => `(tactic| k_dflt (refine' item_any (h := ?_)))
local macro_rules | `(tactic| walk_at "subscriptTail Name Constant ref int") => `(tactic| k_dflt (refine' item_any (h := ?_)))
local macro_rules | `(tactic| walk_at "subscriptTail Name Name ref int") => `(tactic| k_dflt (refine' item_any (h := ?_)))
local macro_rules | `(tactic| walk_at "subscriptTail Name Name ref str") => `(tactic| k_dflt (refine' kda_item (knd := PySem.strKind _ _) (by k_asm) (by k_mem) (by with_reducible assumption) (strKind_is _ _ _ _) (by with_reducible assumption) ?_))
section
variable {prog : Program} {w : World} {A : Around} {h₀ : Heap} {env : Env} {x : Str} {body : List Stmt} {Q : Flow → Shared → Prop} {E : Value → Shared → Prop}
/-- for over the values of a dict of the ledger -/
theorem for_values {K : Type} [DecidableEq K] {knd : KeyKind prog w K} {d vw : Addr} {o : Obj} {kvs : List (K × Value)} {s₁ : Shared} {m : Str → Option Value} {X rest : List (Addr × Obj)} (hh : A.handled = none) (D : Led h₀ env.locals m s₁.heap (X ++ rest)) (hvw : s₁.heap.IsValuesView vw d) (hl : (d, o) ∈ rest)
    (hd : o.IsDictOf knd kvs)
    (Inv : Nat → (Str → Option Value) → List (Addr × Obj) → Prop) (h0 : Inv 0 m X)
    (step : ∀ i k u m₁ X₁ h tk I o, ∀ qT : Flow → Shared → Prop, (∀ f s', Turn h₀ env.locals (Inv (i + 1)) ((I, o) :: rest) { s₁ with heap := h, toks := tk } Q f s' → qT f s') → kvs[i]? = some (k, u) → Inv i m₁ X₁ → Led h₀ env.locals (fun y => if y = x then some u else m₁ y) h (X₁ ++ (I, o) :: rest) →
      wpAny (model prog w) A (execs body env) qT E { s₁ with heap := h, toks := tk })
    (done : ∀ h' tk m' X', Inv kvs.length m' X' → Led h₀ env.locals m' h' (X' ++ rest) → Q .next { s₁ with heap := h', toks := tk }) :
    ForSrc prog w A h₀ env x body Q E (.ref vw) s₁ := by
  have hm := D.nw (d, o) (List.mem_append_right _ hl)
  obtain ⟨ep, hdA⟩ := Heap.DictOf.dictAt (Heap.dictOf_iff.mpr ⟨o, hm.1, hd⟩)
  have hlt := Heap.lt_size hm.1
  have hne : d ≠ s₁.heap.objs.size := Nat.ne_of_lt hlt
  refine wpAny_pyIter_values hvw hdA ?_
  refine loop_led (Walks.dictValues hh s₁.heap.objs.size d hne kvs ep) (Fr.fresh D.fr) (fun i h st => ?_) ?_ ?_ ⟨⟨_, Heap.get?_push_size _ rfl, rfl, rfl⟩, hdA.push _⟩ (D.push _) D.fresh Inv h0 ?_ ?_
  · obtain ⟨⟨o, ho, _⟩, _⟩ := st; exact ⟨o, ho⟩
  · intro hb
    rcases List.mem_cons.mp hb with e | hb
    · exact absurd D.fr.ns.lt (e ▸ Nat.lt_irrefl _)
    · exact hm.2.1 (List.mem_singleton.mp hb).symm
  · intro b hb
    rcases List.mem_cons.mp hb with e | hb
    · exact .inl e
    · exact .inr (.inl ⟨_, (List.mem_singleton.mp hb) ▸ hl⟩)
  · intro i v m₁ X₁ h tk o hi hP hJ D₁
    obtain ⟨k, hk⟩ := hP
    exact step i k v m₁ X₁ h tk _ o _ (fun _ _ x => x) hk hJ D₁
  · intro h' tk m' X' hJ D'
    exact done h' tk m' X' hJ D'
end
theorem take_sum {cs : List (Str × Nat)} {i n : Nat} {k : Str} (h : cs[i]? = some (k, n)) : ((cs.take (i + 1)).map (·.2)).sum = ((cs.take i).map (·.2)).sum + n := by
  rw [List.take_add_one, h, List.map_append, List.sum_append]; simp
set_option maxHeartbeats 4000000 in
theorem count_con (w : World) (cd : Addr) (oc : Obj) (kvc : List (Str × Value)) (cs : List (Str × Nat)) (hoc : oc.IsDictOf (PySem.strKind PySem.Challenge.rw_ph0055_01.row.prog w) kvc) (hcv : CVals kvc cs) (lo : (cd == sysModules) = false) :
    Con w 84 [.ref cd] [(cd, oc)] 10 200 (fun r made => (∃ t, r = .int (((cs.map (·.2)).sum : Nat) : Int) t) ∧ made = [(cd, oc)]) := by
  intro p loose mean mg mb dp un gd cn cs' a ccd cl outer A₀ base h₀ L m s rest Q E B X T hk D hd hu hret
  have F := D.fr
  have N := D.nw
  have nd := D.nd
  simp only [List.cons_append, List.nil_append] at N nd
  revert X; k_fill; intro X
  refine wpAny_call ?_
  k_dflt ktr_enter
  k_steps
  rename Fr _ _ _ _ => F9
  rename News _ _ _ _ => N9
  rename_i vw9 h8 l8
  have D9 := Led.of F9 N9 (by tb_start)
  clear F9 N9
  refine for_values (X := []) rfl D9 ⟨_, (D9.nw _ (.head _)).1, rfl, rfl⟩ (.tail _ (.head _)) hoc (fun i m X => X = [] ∧ m (Str.ofString "callers") = some (.ref cd) ∧ ∃ t, m (Str.ofString "nc") = some (.int ((((cs.take i).map (·.2)).sum : Nat) : Int) t)) ⟨rfl, rfl, _, rfl⟩ ?_ ?_
  · clear D9
    rintro i k v m₁ X₁ h tk I o qT1 hT1 hkv ⟨rfl, hm1, tn, hm2⟩ D₁
    obtain ⟨n, t, hci, rfl⟩ := hcv.at hkv
    have F' := D₁.fr
    have N' := D₁.nw
    have nd' := D₁.nd
    rw [mp2 hm1 hm2] at F'
    simp only [List.cons_append, List.nil_append] at N' nd'
    clear D₁
    k_steps
    rename Fr _ _ _ _ => F9
    rename News _ _ _ _ => N9
    refine hT1 _ _ (Turn.next (X₂ := []) ⟨rfl, rfl, ?_⟩ (Led.of F9 N9 nd'))
    rw [take_sum hci, Int.natCast_add]; exact ⟨_, rfl⟩
  · rintro h' tk' m' X' ⟨rfl, hm1, tn, hm2⟩ D₁
    have F' := D₁.fr
    have N' := D₁.nw
    have nd' := D₁.nd
    rw [hcv.len, List.take_length] at hm2
    rw [mp2 hm1 hm2] at F'
    simp only [List.cons_append, List.nil_append] at N' nd'
    clear D₁ D9
    k_steps
    rename Fr _ _ _ _ => F9
    rename News _ _ _ _ => N9
    have D9 := Led.of F9 N9 nd'
    exact hret _ _ _ _ ⟨⟨_, rfl⟩, rfl⟩ (Led.sub D9 (.cons _ (.refl _)))
end Mine
end

section
theorem Mine.startPhRw : True := by
  w_top off
  trivial
open PySem PySem.W PyProof.Rows
set_option maxRecDepth 100000
set_option linter.unusedVariables false
namespace Mine
section
variable {prog : Program} {w : World} {A : Around} {E : Value → Shared → Prop} {s : Shared}
/-- two values hold for equal, in this program -/
def EqW (prog : Program) (w : World) (A : Around) (s : Shared) (y x : Value) : Prop :=
  ∀ (E : Value → Shared → Prop) (Q : Bool → Shared → Prop), Q true s → wpAny (model prog w) A (eqBool y x) Q E s
open SeqAt AutoSeq1 MeetsSeq MeetsSeq2 MeetsSeq3 in
theorem tuple_ne_all {l b : Addr} {items items2 : Array Value} {Q : Value → Shared → Prop} (hl : s.heap.get? l = some { cls := .type "tuple", data := .seq items }) (hb : s.heap.get? b = some { cls := .type "tuple", data := .seq items2 })
    (hsz : items.size = items2.size) (hu : A.units < cLine)
    (he : ∀ j (h1 : j < items.size) (h2 : j < items2.size), EqW prog w A.in1 s items[j] items2[j]) (h : Q (.bool false) s) :
    wpAny (model prog w) A (compareOp .NotEq (.ref l) (.ref b)) Q E s := by
  have tl : s.TypeIs (.ref l) "tuple" := ⟨_, hl, rfl⟩
  have tb : s.TypeIs (.ref b) "tuple" := ⟨_, hb, rfl⟩
  refine wpAny_richCompare_same_room (op := .NotEq) tl tb PySem.F.slot_tuple_ne (wpAny_call_entry PySem.F.slot_tuple_ne tl PySem.F.entry_tuple_ne ?_ (PySem.F.args_tuple_ne_2 _ _)) hu
  clear tl tb
  obtain ⟨hp, g, d, tk, os⟩ := s
  have f2 := AutoSeq1.sub_tuple_tuple
  have hZ : (items.toList.zip items2.toList).length = min items.size items2.size := by simp
  wp_walk using wpAny_loadPart' hl, wpAny_loadPart' hb, wpAny_forIn_list _ (fun rest b s' => b.1 = none ∧ s' = ⟨hp, g, d, tk, os⟩ ∧ ∃ i, rest = (items.toList.zip items2.toList).drop i) _
  case turn =>
    rintro ⟨y, x⟩ rest b s' ⟨hb', rfl, i, hz⟩
    have hlt : i < (items.toList.zip items2.toList).length := by
      rcases Nat.lt_or_ge i (items.toList.zip items2.toList).length with h' | h'
      · exact h'
      · rw [List.drop_of_length_le h'] at hz; cases hz
    have hm : i < min items.size items2.size := hZ ▸ hlt
    have h1 : i < items.size := Nat.lt_of_lt_of_le hm (Nat.min_le_left _ _)
    have h2 : i < items2.size := Nat.lt_of_lt_of_le hm (Nat.min_le_right _ _)
    rw [List.drop_eq_getElem_cons hlt] at hz
    injection hz with hyx hrest
    have hy : y = items[i] := by have := congrArg Prod.fst hyx; simpa using this
    have hx : x = items2[i] := by have := congrArg Prod.snd hyx; simpa using this
    subst hy hx
    refine wpAny_bind (he i h1 h2 _ _ ?_)
    wp_walk
    exact ⟨rfl, rfl, i + 1, hrest⟩
  case fin =>
    rintro ⟨b1, b2⟩ s' ⟨hb', rfl, i, hz⟩
    simp only at hb'
    subst hb'
    wp_walk
    exact ⟨_, rfl, by simp [Builtin.Tuple.tupleCompareSizes, hsz], by simpa [Builtin.Tuple.tupleCompareSizes, hsz] using h⟩
  case h =>
    exact ⟨rfl, rfl, 0, rfl⟩
theorem eqW_int (n : Int) (t u : Tok) : EqW prog w A s (.int n t) (.int n u) := fun E Q h => by
  refine SeqAt.EqAt.int_int n t n u prog w E Q ?_
  simpa using h
theorem eqW_str (n : Str) (t u : Tok) : EqW prog w A s (.str n t) (.str n u) := fun E Q h => by
  refine SeqAt.EqAt.str_str n t n u prog w E Q ?_
  simpa using h
theorem ne_strs {l b : Addr} {vs us : List Value} {ys : List Str} {Q : Value → Shared → Prop} (hl : s.heap.IsList l vs.toArray) (hb : s.heap.IsList b us.toArray) (hv : PyProof.Rows.StrsAre vs ys) (hu : PyProof.Rows.StrsAre us ys) (hn : A.units < cLine) (h : Q (.bool false) s) :
    wpAny (model prog w) A (compareOp .NotEq (.ref l) (.ref b)) Q E s := by
  have hlen : ∀ {vs : List Value} {ys : List Str}, PyProof.Rows.StrsAre vs ys → vs.length = ys.length := by
    intro vs ys h
    induction h with
    | nil => rfl
    | cons _ _ _ ih => rw [List.length_cons, List.length_cons, ih]
  have hat : ∀ {vs : List Value} {ys : List Str}, PyProof.Rows.StrsAre vs ys → ∀ j (h1 : j < vs.length) (h2 : j < ys.length), ∃ t, vs[j] = .str ys[j] t := by
    intro vs ys h
    induction h with
    | nil => intro j h1; exact absurd h1 (Nat.not_lt_zero _)
    | cons _ t _ ih =>
      intro j h1 h2
      cases j with
      | zero => exact ⟨t, rfl⟩
      | succ j => exact ih j (by simpa using h1) (by simpa using h2)
  refine SeqAt.RcNeAt.lists (e := fun _ => true) hl hb (by simp [hlen hv, hlen hu]) hn (fun j h1 h2 => ?_) prog w E Q ?_
  · have h1' : j < vs.length := by simpa using h1
    have h2' : j < us.length := by simpa using h2
    have h3 : j < ys.length := by rw [← hlen hv]; exact h1'
    obtain ⟨t, e1⟩ := hat hv j h1' h3
    obtain ⟨u, e2⟩ := hat hu j h2' h3
    simp only [List.getElem_toArray]
    rw [e1, e2]
    intro prog w E Q h
    exact eqW_str _ _ _ E Q h
  · have e : ((List.range vs.toArray.size).all fun _ => true) = true := List.all_eq_true.mpr fun _ _ => rfl
    rw [e]; exact h
end
end Mine
end

section
theorem Mine.startPhRx : True := by
  w_top off
  trivial
open PySem PySem.W PyProof.Rows
set_option maxRecDepth 100000
set_option linter.unusedVariables false
namespace Mine
theorem cnt_at : ∀ {cs : List (Str × Nat)} {k : Str} {n : Nat}, (cs.map (·.1)).Nodup → (k, n) ∈ cs → cnt cs k = n
  | [], _, _, _, h => nomatch h
  | (k', n') :: r, k, n, nd, h => by
    rw [List.map_cons, List.nodup_cons] at nd
    rcases List.mem_cons.mp h with e | h
    · cases e; rw [cnt, if_pos rfl]
    · rw [cnt, if_neg fun e => nd.1 (List.mem_map.mpr ⟨_, h, e.symm⟩)]
      exact cnt_at nd.2 h
section
variable {prog : Program} {w : World} {A : Around} {E : Value → Shared → Prop} {s : Shared} {h₀ : Heap} {L : Addr} {news : List (Addr × Obj)}
theorem hits_of {kb : List (Str × Value)} {c2 : List (Str × Nat)} (h2 : CVals kb c2) : ∀ {ka : List (Str × Value)} {cs : List (Str × Nat)}, CVals ka cs → (∀ k n, (k, n) ∈ cs → k ∈ c2.map (·.1) ∧ cnt c2 k = n) → KeqHits A s kb ka true
  | [], [], _, _ => .nil
  | (k, v) :: r, (k', n) :: r', h, all => by
    obtain ⟨rfl, ⟨t, rfl⟩, hr⟩ := h
    obtain ⟨hk, hn⟩ := all k n (.head _)
    obtain ⟨u, hu⟩ := h2.cnt hk
    rw [hn] at hu
    have := KeqHits.hit (A := A) (s := s) hu (e := true) (fun prog w E Q h => eqW_int (n : Int) t u E Q h) (hits_of h2 hr fun k n hkn => all k n (.tail _ hkn))
    exact this
  | [], _ :: _, h, _ => h.elim
  | _ :: _, [], h, _ => h.elim
theorem eqW_dict {a b : Addr} {oa ob : Obj} {ka kb : List (Str × Value)} {c1 c2 : List (Str × Nat)} (ga : s.heap.get? a = some oa) (gb : s.heap.get? b = some ob) (da : oa.IsDictOf (PySem.strKind prog w) ka) (db : ob.IsDictOf (PySem.strKind prog w) kb)
    (la : (a == sysModules) = false) (lb : (b == sysModules) = false) (h1 : CVals ka c1) (h2 : CVals kb c2) (hlen : c1.length = c2.length) (all : ∀ k n, (k, n) ∈ c1 → k ∈ c2.map (·.1) ∧ cnt c2 k = n) (hu : A.units < cLine) : EqW prog w A s (.ref a) (.ref b) := fun E Q h => by
  unfold eqBool
  refine wpAny_holding ?_
  refine wpAny_ite_split (fun _ => wpAny_bind (wpAny_rule (wpAny_pure h))) (fun _ => ?_)
  refine wpAny_bind (keq_eq (knd := PySem.strKind prog w) la lb (Heap.dictOf_iff.mpr ⟨oa, ga, da⟩) (Heap.dictOf_iff.mpr ⟨ob, gb, db⟩) hu (fun _ => hits_of h2 h1 all) ?_)
  have e : (ka.length == kb.length && true) = true := by rw [h1.len, h2.len, hlen]; simp
  rw [e]
  exact wpAny_truthy_bool h
end
theorem own_len {W : Nat → Str} (wn : ∀ i, i < 10 → W i ∈ names5) {ps qs : List Nat} (h : ps.Perm qs) : (ownC W ps).length = (ownC W qs).length := by
  have h1 := List.Nodup.length_le_of_subset (ownC_ok wn ps).1 (l₂ := (ownC W qs).map (·.1)) fun x hx => (own_keys h x).mp hx
  have h2 := List.Nodup.length_le_of_subset (ownC_ok wn qs).1 (l₂ := (ownC W ps).map (·.1)) fun x hx => (own_keys h x).mpr hx
  simp only [List.length_map] at h1 h2
  omega
theorem own_all {W : Nat → Str} (wn : ∀ i, i < 10 → W i ∈ names5) {ps qs : List Nat} (h : ps.Perm qs) (k : Str) (n : Nat) (hk : (k, n) ∈ ownC W ps) : k ∈ (ownC W qs).map (·.1) ∧ cnt (ownC W qs) k = n := by
  refine ⟨(own_keys h k).mp (List.mem_map.mpr ⟨_, hk, rfl⟩), ?_⟩
  rw [← own_perm h, cnt_at (ownC_ok wn ps).1 hk]
/-- two rows that hold the same -/
theorem ne_row {prog : Program} {w : World} {A : Around} {E : Value → Shared → Prop} {s : Shared} {h₀ : Heap} {L : Addr} {news : List (Addr × Obj)} {W : Nat → Str} (wn : ∀ i, i < 10 → W i ∈ names5) {ps qs : List Nat} (hp : ps.Perm qs) {a b d1 d2 : Addr} {z : Int × Int × Int × Int} {tz ty : Tok × Tok × Tok × Tok} {o1 o2 : Obj} {ka kb : List (Str × Value)} {Q : Value → Shared → Prop}
    (N : News h₀ L s.heap news) (ha : (a, rowO z tz d1) ∈ news) (hb : (b, rowO z ty d2) ∈ news) (h1 : (d1, o1) ∈ news) (h2 : (d2, o2) ∈ news)
    (da : o1.IsDictOf (PySem.strKind prog w) ka) (db : o2.IsDictOf (PySem.strKind prog w) kb) (la : (d1 == sysModules) = false) (lb : (d2 == sysModules) = false) (v1 : CVals ka (ownC W ps)) (v2 : CVals kb (ownC W qs))
    (hu : A.units < cLine) (hu2 : A.in1.units < cLine) (h : Q (.bool false) s) : wpAny (model prog w) A (compareOp .NotEq (.ref a) (.ref b)) Q E s := by
  refine tuple_ne_all (N _ ha).1 (N _ hb).1 rfl hu (fun j h1' h2' => ?_) h
  have hj : j = 0 ∨ j = 1 ∨ j = 2 ∨ j = 3 ∨ j = 4 := by have : j < 5 := h1'; omega
  rcases hj with rfl | rfl | rfl | rfl | rfl
  · exact eqW_int _ _ _
  · exact eqW_int _ _ _
  · exact eqW_int _ _ _
  · exact eqW_int _ _ _
  · exact eqW_dict (N _ h1).1 (N _ h2).1 da db la lb v1 v2 (own_len wn hp) (own_all wn hp) hu2
end Mine
end

section
local macro_rules | `(tactic| walk_at "no such key") => `(tactic| fail "no such key")
theorem Mine.startPhLw : True := by
  w_top off
  trivial
open PySem PySem.W PyProof.Rows
set_option maxRecDepth 100000
set_option linter.unusedVariables false
namespace Mine
/-- addresses that differ, each from each -/
structure Apart (as : List Addr) : Prop where
  nd : as.Nodup
inductive PosF (c : Addr) (o : Obj) : List (Addr × Obj) → (Obj → List (Addr × Obj)) → Prop
  | head {r} : PosF c o ((c, o) :: r) (fun o' => (c, o') :: r)
  | tail {q r g} : PosF c o r g → PosF c o (q :: r) (fun o' => q :: g o')
theorem PosF.mem {c : Addr} {o : Obj} {l : List (Addr × Obj)} {g : Obj → List (Addr × Obj)} (h : PosF c o l g) : (c, o) ∈ l := by
  induction h with
  | head => exact .head _
  | tail _ ih => exact .tail _ ih
theorem PosF.upd {c : Addr} {o : Obj} {l : List (Addr × Obj)} {g : Obj → List (Addr × Obj)} (h : PosF c o l g) : (l.map (·.1)).Nodup → UpdF c o l g := by
  induction h with
  | head =>
    intro nd
    exact .head (nd_head nd)
  | @tail q r g h ih =>
    intro nd
    rw [List.map_cons, List.nodup_cons] at nd
    exact .tail (fun e => nd.1 (List.mem_map.mpr ⟨_, h.mem, e.symm⟩)) (ih nd.2)
theorem updF_apart {c : Addr} {o : Obj} {l : List (Addr × Obj)} {g : Obj → List (Addr × Obj)} {as : List Addr} (A : Apart as) (e : l.map (·.1) = as) (h : PosF c o l g) : UpdF c o l g := h.upd (by rw [e]; exact A.nd)
inductive PosU (c : Addr) (o o' : Obj) : List (Addr × Obj) → List (Addr × Obj) → Prop
  | head {r} : PosU c o o' ((c, o) :: r) ((c, o') :: r)
  | tail {q r r'} : PosU c o o' r r' → PosU c o o' (q :: r) (q :: r')
theorem PosU.mem {c : Addr} {o o' : Obj} {l l' : List (Addr × Obj)} (h : PosU c o o' l l') : (c, o) ∈ l := by
  induction h with
  | head => exact .head _
  | tail _ ih => exact .tail _ ih
theorem PosU.upd {c : Addr} {o o' : Obj} {l l' : List (Addr × Obj)} (h : PosU c o o' l l') : (l.map (·.1)).Nodup → Upd c o o' l l' := by
  induction h with
  | head =>
    intro nd
    exact .head (nd_head nd)
  | tail h ih =>
    intro nd
    rw [List.map_cons, List.nodup_cons] at nd
    exact .tail (fun e => nd.1 (List.mem_map.mpr ⟨_, h.mem, e.symm⟩)) (ih nd.2)
theorem upd_apart {c : Addr} {o o' : Obj} {l l' : List (Addr × Obj)} {as : List Addr} (A : Apart as) (e : l.map (·.1) = as) (h : PosU c o o' l l') : Upd c o o' l l' := h.upd (by rw [e]; exact A.nd)
theorem nd7 (n : Nat) (h : 98 < n) : ([n + 1 + 1 + 1 + 1 + 1 + 1, n + 1 + 1 + 1 + 1 + 1, n + 1 + 1 + 1 + 1, n + 1 + 1 + 1, n + 1 + 1, n + 1, 98] : List Nat).Nodup := by
  simp only [List.nodup_cons, List.mem_cons, List.not_mem_nil, or_false, not_or, List.nodup_nil]
  repeat' apply And.intro
  all_goals first | trivial | omega
theorem allLt_nil {d : Addr} : AllLt d [] := trivial
def dW (Z : Nat → Int) (i : Nat) : Str := names5.getD ((Z i).fmod 5).toNat Str.empty
theorem dW_is {Z : Nat → Int} {i : Nat} {k : Int} (h : (Z i).fmod 5 = k) : dW Z i = names5.getD k.toNat Str.empty := by rw [dW, h]
theorem dW_mem (Z : Nat → Int) (i : Nat) : dW Z i ∈ names5 := by
  have h1 : 0 ≤ (Z i).fmod 5 := fmod_lo _ (by decide)
  have h2 : (Z i).fmod 5 < 5 := fmod_hi _ (by decide)
  have h3 : (Z i).fmod 5 = 0 ∨ (Z i).fmod 5 = 1 ∨ (Z i).fmod 5 = 2 ∨ (Z i).fmod 5 = 3 ∨ (Z i).fmod 5 = 4 := by omega
  rcases h3 with h | h | h | h | h <;> rw [dW_is h] <;> simp [names5]
theorem range_snoc {f : Nat → Str} {i : Nat} {ys : List Value} {x : Str} {t : Tok} (h : PyProof.Rows.StrsAre ys ((List.range i).map f)) (hx : f i = x) : PyProof.Rows.StrsAre (ys ++ [.str x t]) ((List.range (i + 1)).map f) := by
  rw [List.range_succ, List.map_append]
  subst hx
  exact rows_app h
theorem rows_at : ∀ {vs : List Value} {ys : List Str}, PyProof.Rows.StrsAre vs ys → ∀ {i : Nat} {x : Str}, ys[i]? = some x → ∃ t, vs[i]? = some (.str x t)
  | _, _, .nil, i, x, h => by simp at h
  | _, _, .cons y t h, 0, x, e => by simp only [List.getElem?_cons_zero, Option.some.injEq] at e; subst e; exact ⟨t, rfl⟩
  | _, _, .cons y t h, i + 1, x, e => by
    obtain ⟨u, hu⟩ := rows_at h (i := i) (by simpa using e)
    exact ⟨u, by simpa using hu⟩
theorem range_strs {f : Nat → Str} {ys : List Value} (h : PyProof.Rows.StrsAre ys ((List.range 10).map f)) : StrsAre ys f := by
  refine ⟨by rw [rows_len h]; simp, fun i hi => rows_at h (by rw [List.getElem?_map, List.getElem?_range hi]; rfl)⟩
def mW (Z : Nat → Int) (i : Nat) : Nat := (((Z i).fdiv 5).fmod 12).toNat
theorem mW_is (Z : Nat → Int) (i : Nat) : ((Z i).fdiv 5).fmod 12 = ((mW Z i : Nat) : Int) ∧ mW Z i < 12 := by
  have h1 : 0 ≤ ((Z i).fdiv 5).fmod 12 := fmod_lo _ (by decide)
  have h2 : ((Z i).fdiv 5).fmod 12 < 12 := fmod_hi _ (by decide)
  unfold mW
  omega
def pZ (Z : Nat → Int) : List (Str × Nat) := (List.range 10).map fun k => (dW Z k, mW Z k)
def wZ (Z : Nat → Int) (k : Nat) : Str := wrS (dW Z k) (mW Z k)
def textZ (Z : Nat → Int) : Str := Txt.join (Str.ofString "") ((List.range 10).map (wZ Z))
theorem join_cps (ys : List Str) : (Txt.join (Str.ofString "") ys).cps.toList = ys.flatMap (·.cps.toList) := by
  have e : Str.ofString "" = (⟨#[]⟩ : Str) := by decide +kernel
  rw [e, show Txt.join ⟨#[]⟩ ys = Str.join ⟨#[]⟩ ys from StrLaws.glued_eq_join _ _]
  induction ys with
  | nil => rfl
  | cons y r ih => rw [join_nil_cons, Str.cps_append, Array.toList_append, ih, List.flatMap_cons]
theorem textZ_cps (Z : Nat → Int) : (textZ Z).cps.toList = (pZ Z).flatMap wrL := by
  rw [textZ, join_cps, pZ, List.flatMap_map, List.flatMap_map]; rfl
theorem pZ_ok (Z : Nat → Int) : PsOk (pZ Z) := by
  intro p hp
  obtain ⟨k, _, rfl⟩ := List.mem_map.mp hp
  exact ⟨dW_mem Z k, (mW_is Z k).2⟩
theorem pZ_len (Z : Nat → Int) : (pZ Z).length = 10 := by simp [pZ]
theorem textZ_len (Z : Nat → Int) : (textZ Z).length ≤ 200 := by
  have h := txt_len (pZ_ok Z)
  rw [← textZ_cps, pZ_len] at h
  simpa [Str.length] using h
def posZ (Z : Nat → Int) (k : Nat) : Nat := (textZ Z).length - (remL (pZ Z) k).length
theorem pos_drop (Z : Nat → Int) {k : Nat} (hk : k ≤ 10) : (textZ Z).cps.toList.drop (posZ Z k) = remL (pZ Z) k := by
  have h := rem_suffix (pZ_ok Z) k (by rw [pZ_len]; exact hk)
  rw [← textZ_cps] at h
  have h2 := List.suffix_iff_eq_drop.mp h
  rw [posZ]
  have e : (textZ Z).length = (textZ Z).cps.toList.length := by simp [Str.length]
  rw [e]
  exact h2.symm
theorem pos_le (Z : Nat → Int) (k : Nat) : posZ Z k ≤ (textZ Z).length := Nat.sub_le _ _
theorem pos_zero (Z : Nat → Int) : posZ Z 0 = 0 := by
  rw [posZ]
  have e : remL (pZ Z) 0 = (textZ Z).cps.toList := by rw [textZ_cps]; rfl
  rw [e]; simp [Str.length]
theorem tok_at (Z : Nat → Int) {k : Nat} (hk : k < 10) : tok ((textZ Z).cps.toList.drop (posZ Z k)) = some ((dW Z k).cps.toList, (textZ Z).cps.toList.drop (posZ Z (k + 1))) := by
  rw [pos_drop Z (by omega), pos_drop Z hk]
  exact rem_tok (pZ_ok Z) (p := (dW Z k, mW Z k)) (by rw [pZ, List.getElem?_map, List.getElem?_range hk]; rfl)
theorem tok_last (Z : Nat → Int) : tok ((textZ Z).cps.toList.drop (posZ Z 10)) = some ([], (textZ Z).cps.toList.drop (textZ Z).length) := by
  have h := rem_end (ps := pZ Z)
  rw [pZ_len] at h
  rw [pos_drop Z (Nat.le_refl _), h]
  simp [Str.length]
theorem strL_cps (x : Str) : strL x.cps.toList = x := Str.ext' (by simp [strL])
theorem nl_is : Str.ofString "\n" = (⟨#[10]⟩ : Str) := by decide +kernel
theorem Led.comp {h₀ h : Heap} {L I C D : Addr} {m : Str → Option Value} {oI oC oD : Obj} {news : List (Addr × Obj)} (F : Fr h₀ L h m) (N : News h₀ L h ((I, oI) :: (C, oC) :: (D, oD) :: news)) (off : LCg.Off3 I C D news) (ne : (@Ne Nat I C) ∧ (@Ne Nat I D) ∧ (@Ne Nat C D)) (nd : (news.map (·.1)).Nodup) :
    Led h₀ L m h ((I, oI) :: (C, oC) :: (D, oD) :: news) := by
  have o3 := off.mem
  refine ⟨F, N, ?_⟩
  simp only [List.map_cons, List.nodup_cons, List.mem_cons, not_or]
  have key : ∀ a, (∀ p ∈ news, p.1 ≠ a) → a ∉ news.map (·.1) := fun a h hm => by
    obtain ⟨p, hp, e⟩ := List.mem_map.mp hm
    exact h p hp e
  exact ⟨⟨ne.1, ne.2.1, key I fun p hp => (o3 p hp).1⟩, ⟨ne.2.2, key C fun p hp => (o3 p hp).2.1⟩, key D fun p hp => (o3 p hp).2.2, nd⟩
theorem CompEnd.led {h₀ h' : Heap} {L I C D : Addr} {m : Str → Option Value} {s₁ : Shared} {oI oC oD : Obj} {S : List (Addr × Obj) → Prop} {rest : Value → List (Addr × Obj) → Prop} {y : Value} {tk : Nat} {news' : List (Addr × Obj)}
    (E : Led h₀ L m h' ((I, oI) :: (C, oC) :: (D, oD) :: news')) (hS : S news') (r : rest y news') : LCg.CompEnd h₀ L m s₁ I oI C oC D oD S rest y { s₁ with heap := h', toks := tk } := by
  have nd := E.nd
  simp only [List.map_cons, List.nodup_cons, List.mem_cons, not_or] at nd
  refine LCg.CompEnd.intro E.fr E.nw news' (fun p hp => hp) (LCg.Off3.of fun p hp => ⟨fun e => nd.1.2.2 (List.mem_map.mpr ⟨p, hp, e⟩), fun e => nd.2.1.2 (List.mem_map.mpr ⟨p, hp, e⟩), fun e => nd.2.2.1 (List.mem_map.mpr ⟨p, hp, e⟩)⟩) hS r
theorem Led.fin {h₀ h : Heap} {L D : Addr} {m : Str → Option Value} {o : Obj} {news : List (Addr × Obj)} (F : Fr h₀ L h m) (N : News h₀ L h ((D, o) :: news)) (off : LCg.Off1 D news) (nd : (news.map (·.1)).Nodup) : Led h₀ L m h ((D, o) :: news) := ⟨F, N, nd_off off nd⟩
theorem Led.ndT {h₀ h : Heap} {L : Addr} {m : Str → Option Value} {p : Addr × Obj} {news : List (Addr × Obj)} (D : Led h₀ L m h (p :: news)) : (news.map (·.1)).Nodup := by
  have := D.nd
  rw [List.map_cons, List.nodup_cons] at this
  exact this.2
theorem textZ_sum (Z : Nat → Int) : (((List.range 10).map (wZ Z)).map (·.length)).sum + ((List.range 10).map (wZ Z)).length ≤ 1048576 := by
  have h1 := len_join_ge_sum (Str.ofString "") ((List.range 10).map (wZ Z))
  have h2 := textZ_len Z
  rw [textZ] at h2
  rw [List.length_map, List.length_range]
  omega
theorem join_textZ {prog : Program} {w : World} {A : Around} {E : Value → Shared → Prop} {s : Shared} {h₀ : Heap} {L D : Addr} {xs : List Value} {n : Nat} {Z : Nat → Int} {t : Tok} {news : List (Addr × Obj)} {Q : Value → Shared → Prop} (N : News h₀ L s.heap news) (hm : (D, listOf xs.toArray n) ∈ news) (hi : PyProof.Rows.StrsAre xs ((List.range 10).map (wZ Z)))
    (h : ∀ t' k, Q (.str (textZ Z) t') { s with toks := k }) : wpAny (model prog w) A (call (.builtin "str.join") [.str (Str.ofString "") t, .ref D]) Q E s :=
  join_listW (items := xs.toArray) (ys := (List.range 10).map (wZ Z)) ⟨_, (N _ hm).1, rfl, _, rfl⟩ hi (by decide +kernel) (textZ_sum Z) h
theorem count_nl (x : Str) : Txt.count x (Str.ofString "\n") = ((x.cps.toList.count 10 : Nat) : Int) := by
  rw [nl_is, count_cnt]
  induction x.cps.toList with
  | nil => rfl
  | cons a r ih =>
    rw [PyProof.Rows.cnt_cons, ih, List.count_cons]
    by_cases h : a = 10
    · simp [h]; omega
    · simp [h]
theorem ln_last (x : Str) : (((lnAt x x.length : Nat) : Nat) : Int) = 1 + Txt.count x (Str.ofString "\n") := by
  rw [count_nl, lnAt]
  have e : x.cps.toList.take x.length = x.cps.toList := List.take_of_length_le (by simp [Str.length])
  rw [e]; omega
theorem Led.comm {h₀ h : Heap} {L : Addr} {m : Str → Option Value} {P S : List (Addr × Obj)} (D : Led h₀ L m h (P ++ S)) : Led h₀ L m h (S ++ P) := D.perm List.perm_append_comm
theorem at_zero (S : Strm) (tl tp : Tok) (n n' : Nat) : S.at tl [] n 0 tp n' = lexOs S.w S.x S.dx S.l S.tks (.int 1 tl) (.ref S.st) (.str wsS S.tw) [] n ++ (S.SB ++ [(S.la, listOf #[.int 0 tp] n')]) := by
  simp [Strm.at, Strm.os, lnAt]
theorem at_flat0 (S : Strm) (tl : Tok) (q : List Value) (n pos : Nat) (tp : Tok) (n' : Nat) :
    S.at tl q n pos tp n' = (S.l, listOf q.toArray n) :: (S.x, instObj 52 S.dx) :: (S.dx, dictOf (lexEs S.w S.tks (.int (lnAt S.text pos : Nat) tl) (.ref S.st) (.str wsS S.tw) (.ref S.l)) 4) :: (S.SB ++ [(S.la, listOf #[.int (pos : Nat) tp] n')]) := by
  have := at_flat S tl q n pos tp n' []
  rwa [List.append_nil] at this
/-- the stream of the text, fresh -/
structure StrmFor (w : World) (text : Str) (la : Addr) (S : Strm) : Prop where
  w : S.w = w
  text : S.text = text
  la : S.la = la
  ok : S.Ok
  tab : ∃ c1 c2, (98, tab2 c1 c2) ∈ S.SB
theorem lexer_S (w : World) (la : Addr) (text : Str) (tt ta : Tok) (n : Nat) (htx : text.length ≤ 1000) :
    Con w 103 [.str text tt, .ref la] [(98, tabObj #[]), (la, listOf #[.int 0 ta] n)] 10 200 (fun r made => ∃ S tl, StrmFor w text la S ∧ r = .ref S.x ∧ made = S.at tl [] 0 0 ta n) := by
  refine Con.mono (lexer_con w la text tt ta n htx) ?_
  rintro r made ⟨x, dx, l, tks, tl, tw, st, dr, gv, fd, sl, hsh, t, c1, c2, fg, SB, rfl, rfl, h98, hst, hdr, hgv, give⟩
  refine ⟨⟨w, x, dx, l, tks, st, tw, dr, gv, fd, fg, sl, hsh, t, SB, la, text⟩, tl, ⟨rfl, rfl, rfl, ⟨htx, hst, hdr, hgv, give.to⟩, c1, c2, h98⟩, rfl, ?_⟩
  rw [at_zero]
theorem Con.frame {w : World} {f : Addr} {args : List Value} {need X : List (Addr × Obj)} {dpn unn : Nat} {Out : Value → List (Addr × Obj) → Prop} (C : Con w f args need dpn unn Out) : Con w f args (need ++ X) dpn unn (fun r made => ∃ made0, made = made0 ++ X ∧ Out r made0) := by
  intro p loose mean mg mb dp un gd cn cs a ccd cl outer A₀ base h₀ L m s rest Q E B X T hk D hd hu hret
  refine C B X T hk (by rw [← List.append_assoc]; exact D) hd hu fun r made h' tk' ho D' => hret r _ h' tk' ⟨made, rfl, ho⟩ (by rw [List.append_assoc]; exact D')
theorem push_S {w : World} {text : Str} {la : Addr} {S : Strm} (h : StrmFor w text la S) (v : Value) (tl : Tok) (q : List Value) (n pos : Nat) (tp : Tok) (n' : Nat) (hq : q.length ≤ 100) :
    Con w 49 [.ref S.x, v] (S.at tl q n pos tp n') 1 8 (fun r made => r = .none ∧ made = S.at tl (q ++ [v]) (n + 1) pos tp n') := by
  obtain ⟨hw, -, -, -, -⟩ := h
  subst hw
  refine Con.mono (Con.frame (X := S.SB ++ [(S.la, listOf #[.int pos tp] n')]) (push_con S.w S.x S.dx S.l S.tks (.int (lnAt S.text pos : Nat) tl) (.ref S.st) (.str wsS S.tw) v q n hq)) ?_
  rintro r made ⟨made0, rfl, rfl, rfl⟩
  exact ⟨rfl, rfl⟩
theorem pop_S {w : World} {text : Str} {la : Addr} {S : Strm} (h : StrmFor w text la S) (v : Value) (tl : Tok) (q : List Value) (n pos : Nat) (tp : Tok) (n' : Nat) (hq : q.length ≤ 100) :
    Con w 42 [.ref S.x] (S.at tl (v :: q) n pos tp n') 1 8 (fun r made => r = v ∧ made = S.at tl q (n + 1) pos tp n') := by
  obtain ⟨hw, -, -, -, -⟩ := h
  subst hw
  refine Con.mono (Con.frame (X := S.SB ++ [(S.la, listOf #[.int pos tp] n')]) (pop_con S.w S.x S.dx S.l S.tks (.int (lnAt S.text pos : Nat) tl) (.ref S.st) (.str wsS S.tw) v q n hq)) ?_
  rintro r made ⟨made0, rfl, rfl, rfl⟩
  exact ⟨rfl, rfl⟩
theorem tok_S {w : World} {Z : Nat → Int} {la : Addr} {S : Strm} (h : StrmFor w (textZ Z) la S) {k : Nat} (hk : k < 10) (tl : Tok) (n : Nat) (tp : Tok) (n' : Nat) :
    Con w 42 [.ref S.x] (S.at tl [] n (posZ Z k) tp n') 30 400 (fun r made => (∃ t, r = .str (dW Z k) t) ∧ ∃ tl' tp', made = S.at tl' [] n (posZ Z (k + 1)) tp' n') := by
  obtain ⟨hw, ht, -, ok, -⟩ := h
  subst hw
  refine Con.mono (tok_con S ok tl n (posZ Z k) tp n' (posZ Z (k + 1)) (dW Z k).cps.toList (by rw [ht]; exact pos_le Z k) (by rw [ht]; exact pos_le Z _) (by rw [Strm.cs, ht]; exact tok_at Z hk)) ?_
  rintro r made ⟨⟨t, rfl⟩, h2⟩
  exact ⟨⟨t, by rw [strL_cps]⟩, h2⟩
theorem tok_Z {w : World} {Z : Nat → Int} {la : Addr} {S : Strm} (h : StrmFor w (textZ Z) la S) (tl : Tok) (n : Nat) (tp : Tok) (n' : Nat) :
    Con w 42 [.ref S.x] (S.at tl [] n (posZ Z 10) tp n') 30 400 (fun r made => (∃ t, r = .str (Str.ofString "") t) ∧ ∃ tl' tp', made = S.at tl' [] n (textZ Z).length tp' n') := by
  obtain ⟨hw, ht, -, ok, -⟩ := h
  subst hw
  refine Con.mono (tok_con S ok tl n (posZ Z 10) tp n' (textZ Z).length [] (by rw [ht]; exact pos_le Z 10) (by rw [ht]; exact Nat.le_refl _) (by rw [Strm.cs, ht]; exact tok_last Z)) ?_
  rintro r made ⟨⟨t, rfl⟩, h2⟩
  exact ⟨⟨t, congrArg (fun x => Value.str x t) (by decide +kernel : strL [] = Str.ofString "")⟩, h2⟩
theorem Led.nd3 {h₀ h : Heap} {L : Addr} {m : Str → Option Value} {p q r : Addr × Obj} {news : List (Addr × Obj)} (D : Led h₀ L m h (p :: q :: r :: news)) : (news.map (·.1)).Nodup := by
  have := D.nd
  simp only [List.map_cons, List.nodup_cons] at this
  exact this.2.2.2
/-- what is still wanted of the stream -/
theorem at_out {h₀ h : Heap} {L : Addr} {m : Str → Option Value} {w : World} {text : Str} {la : Addr} {S : Strm} (hS : StrmFor w text la S) {tl tp : Tok} {q : List Value} {n pos n' : Nat} {R : List (Addr × Obj)} (D : Led h₀ L m h (S.at tl q n pos tp n' ++ R)) :
    ∃ c1 c2, Led h₀ L m h ((S.x, instObj 52 S.dx) :: (S.dx, dictOf (lexEs w S.tks (.int (lnAt text pos : Nat) tl) (.ref S.st) (.str wsS S.tw) (.ref S.l)) 4) :: (98, tab2 c1 c2) :: (la, listOf #[.int (pos : Nat) tp] n') :: R) := by
  obtain ⟨hw, ht, hla, ok, c1, c2, h98⟩ := hS
  subst hw ht hla
  obtain ⟨s1, s2, e⟩ := List.append_of_mem h98
  rw [at_flat, e] at D
  refine ⟨c1, c2, Led.sub D (.cons _ (.cons_cons _ (.cons_cons _ ?_)))⟩
  rw [List.append_assoc, List.cons_append]
  exact (List.Sublist.cons_cons _ (List.sublist_append_right s2 _)).trans (List.sublist_append_right s1 _)
theorem lines_out {h₀ h : Heap} {L : Addr} {m : Str → Option Value} {o x a b p d : Addr × Obj} {ln R : List (Addr × Obj)} (D : Led h₀ L m h ((o :: x :: (ln ++ [a, b])) ++ (p :: d :: R))) : Led h₀ L m h (o :: a :: b :: p :: (R ++ (x :: ln))) := by
  have D1 : Led h₀ L m h (d :: (o :: a :: b :: p :: (R ++ (x :: ln)))) := by
    refine D.perm ?_
    classical
    refine List.perm_iff_count.mpr fun y => ?_
    simp only [List.count_append, List.count_cons, List.count_nil]
    ac_rfl
  exact Led.sub D1 (.cons _ (.refl _))
end Mine
end

section
theorem Mine.startPhDc : True := by
  w_top off
  trivial
open PySem PySem.W PyProof.Rows
set_option maxRecDepth 100000
set_option linter.unusedVariables false
namespace Mine
open LCg
section
variable {prog : Program} {w : World} {A : Around} {E : Value → Shared → Prop} {s : Shared} {h₀ : Heap} {L : Addr} {m : Str → Option Value} {env : Env}
theorem Led.iter {h h₂ h₃ : Heap} {I C : Addr} {oI oC oI' oC' : Obj} {R : List (Addr × Obj)} (D : Led h₀ L m h ((I, oI) :: (C, oC) :: R)) (hk : ∀ b o, b ∉ [I] → h.get? b = some o → h₂.get? b = some o) (hs : Heap.SameBut C h₂ h₃)
    (hI : h₃.get? I = some oI') (hC : h₃.get? C = some oC') : Led h₀ L m h₃ ((I, oI') :: (C, oC') :: R) := by
  have nI := D.nw _ (.head _)
  have nC := D.nw _ (.tail _ (.head _))
  have nd := D.nd
  simp only [List.map_cons, List.nodup_cons, List.mem_cons, not_or] at nd
  refine ⟨(fr_but D.fr hk (Ne.symm nI.2.1) nI.2.2).change hs nC.2.1 nC.2.2, ?_, D.nd⟩
  intro p hp
  rcases List.mem_cons.mp hp with rfl | hp
  · exact ⟨hI, nI.2⟩
  · rcases List.mem_cons.mp hp with rfl | hp
    · exact ⟨hC, nC.2⟩
    · have z := D.nw p (.tail _ (.tail _ hp))
      refine ⟨hs.extBut _ _ (fun e => nd.2.1 (List.mem_map.mpr ⟨p, hp, e⟩)) (hk _ _ (fun hm => ?_) z.1), z.2⟩
      have e := List.mem_singleton.mp hm
      exact nd.1.2 (List.mem_map.mpr ⟨p, hp, e⟩)
theorem Led.put3 {h h₆ : Heap} {D : Addr} {oD oD' : Obj} {p q : Addr × Obj} {R : List (Addr × Obj)} (Z : Led h₀ L m h (p :: q :: (D, oD) :: R)) (hs : Heap.SameBut D h h₆) (hD : h₆.get? D = some oD') : Led h₀ L m h₆ (p :: q :: (D, oD') :: R) := by
  have nD := Z.nw _ (.tail _ (.tail _ (.head _)))
  have nd := Z.nd
  simp only [List.map_cons, List.nodup_cons, List.mem_cons, not_or] at nd
  refine ⟨Z.fr.change hs nD.2.1 nD.2.2, ?_, Z.nd⟩
  intro r hr
  rcases List.mem_cons.mp hr with rfl | hr
  · have z := Z.nw _ (.head _)
    exact ⟨hs.extBut _ _ nd.1.2.1 z.1, z.2⟩
  · rcases List.mem_cons.mp hr with rfl | hr
    · have z := Z.nw _ (.tail _ (.head _))
      exact ⟨hs.extBut _ _ nd.2.1.1 z.1, z.2⟩
    · rcases List.mem_cons.mp hr with rfl | hr
      · exact ⟨hD, nD.2⟩
      · have z := Z.nw r (.tail _ (.tail _ (.tail _ hr)))
        exact ⟨hs.extBut _ _ (fun e => nd.2.2.1 (List.mem_map.mpr ⟨r, hr, e⟩)) z.1, z.2⟩

/-- between two turns of a dict comprehension -/
inductive DLoop (prog : Program) (w : World) (h₀ : Heap) (L : Addr) (m : Str → Option Value) (s₁ : Shared) (kvs : List (Str × Value)) (rest : List (Addr × Obj)) (I C D d : Addr) (ep : Nat) (Inv : Nat → List (Str × Value) → List (Addr × Obj) → Prop) (k : Nat) (s' : Shared) : Prop
  | mk : ∀ (h' : Heap) (tk i : Nat) (ks : List (Str × Value)) (X' : List (Addr × Obj)) (oI oC oD : Obj) (mC : Str → Option Value), s' = { s₁ with heap := h', toks := tk } → i ≤ kvs.length → k = kvs.length + 1 - i → (h'.IsKeyIter I d i kvs.length ep ∧ h'.DictAt (PySem.strKind prog w) d kvs ep) →
      Led h₀ L m h' ((I, oI) :: (C, oC) :: (D, oD) :: (X' ++ rest)) → NsObj oC mC → oD.IsDictOf (PySem.strKind prog w) ks → Inv i ks X' → DLoop prog w h₀ L m s₁ kvs rest I C D d ep Inv k s'
/-- what a dict comprehension runs over: the keys of a dict of the ledger -/
inductive DSrc (prog : Program) (w : World) (A : Around) (h₀ : Heap) (L : Addr) (m : Str → Option Value) (env : Env) (kx vx : Expr) (x y : Str) (scope : Scope) (cl : List (Str × Addr)) (Q : Flow → Shared → Prop) (xv : Value) (s₁ : Shared) : Prop
  | mk : ∀ (d : Addr) (o : Obj) (kvs : List (Str × Value)) (X rest : List (Addr × Obj)) (Inv : Nat → List (Str × Value) → List (Addr × Obj) → Prop), (xv = .ref d) → (A.handled = none) → ((d == sysModules) = false) → (o.IsDictOf (PySem.strKind prog w) kvs) → ((d, o) ∈ rest) → (kvs.length ≤ 1000) → (h₀.NoLimit) → (Led h₀ L m s₁.heap (X ++ rest)) → (Inv 0 [] X) → ((∀ i ks X, Inv i ks X → ks.length ≤ i)) → ((∀ i k u t ks X₁ h tk I oI C oC D oD m₂ (E' : Value → Shared → Prop), ∀ qT : Value → Value → Shared → Prop, (∀ kv vv s₅, (∃ h' tk' X₂ k' t', kv = .str k' t' ∧ s₅ = { s₁ with heap := h', toks := tk' } ∧ Led h₀ L m h' ((I, oI) :: (C, oC) :: (D, oD) :: (X₂ ++ rest)) ∧ Inv (i + 1) (stored ks k' vv) X₂) → qT kv vv s₅) → kvs[i]? = some (k, u) → Inv i ks X₁ → NsObj oC m₂ → m₂ x = some (.str k t) → Led h₀ L m h ((I, oI) :: (C, oC) :: (D, oD) :: (X₁ ++ rest)) → wpAny (model prog w) A (eval kx (compEnvC scope cl C env)) (fun kv s₄ => wpAny (model prog w) A (eval vx (compEnvC scope cl C env)) (fun vv s₅ => qT kv vv s₅) E' s₄) E' { s₁ with heap := h, toks := tk })) → ((∀ D oD ks X' h tk, Inv kvs.length ks X' → oD.IsDictOf (PySem.strKind prog w) ks → (D == sysModules) = false → Led h₀ L (fun z => if z = y then some (.ref D) else m z) h ((D, oD) :: (X' ++ rest)) → Q .next { s₁ with heap := h, toks := tk })) → DSrc prog w A h₀ L m env kx vx x y scope cl Q xv s₁
theorem Assign_DictComp_led {kx vx iter : Expr} {x y : Str} {px py : Pos} {scope : Scope} {cl : List (Str × Addr)} {pos spos : Pos} {Q : Flow → Shared → Prop} (F₀ : Fr h₀ L s.heap m) (hLe : env.locals = L)
    (hsw : swapsWith (.DictComp kx vx [⟨.Name x px, iter, [], 0⟩] scope pos) (some (.Name y py)) spos.line env = pure true)
    (hclos : closureFor scope env = pure cl) (hcell : ∀ z ∈ scope.names, z.2 ≠ .cell) (hkind : scope.kind = .function)
    (hnames : ∀ z ∈ scope.names, z.2 = .local → scope.names.lookup z.1 = some .local) (hx : scope.names.lookup x = some .local)
    (hy : env.kindOf y = some .local) (hp : (env.scope.kind == .class || (env.scope.kind == .module && env.locals != env.globals)) = false)
    (h : wpAny (model prog w) A (eval iter env) (DSrc prog w A h₀ L m env kx vx x y scope cl Q) E s)
    (hs : ∀ x, foldedSetIterable iter env x = pure x := by intro _; rfl) :
    wpAny (model prog w) A (exec (.Assign [.Name y py] (.DictComp kx vx [⟨.Name x px, iter, [], 0⟩] scope pos) spos) env) Q E s := by
  subst hLe
  rw [exec_Assign_Name_used _ _ _ _ hsw]
  refine wpAny_bind (wpAny_standAt (wpAny_bind ?_))
  show wpAny _ A (do let _ ← comprehension (.DictComp kx vx [⟨.Name x px, iter, [], 0⟩] scope pos) scope env _ newDict false (eval iter env) (some (assign (.Name y py) env))) _ _ s
  refine wpAny_bind (wpAny_mono (wpAny_comprehension_free (use := some (assign (.Name y py) env)) (Q := fun _ s' => Q .next s') rfl hs hclos hkind hnames
    (wpAny_mono h (fun xv s₁ h₁ => ?_) fun _ _ e => e)) (fun _ s' hq => wpAny_pure (wpAny_pure hq)) fun _ _ e => e)
  obtain ⟨d, o, kvs, X, rest, Inv, rfl, hh, lo, hd, hdr, hlen, hbig, Z, hI0, hIl, step, fin⟩ := h₁
  have hm := Z.nw (d, o) (List.mem_append_right _ hdr)
  obtain ⟨ep, hdA⟩ := Heap.DictOf.dictAt (Heap.dictOf_iff.mpr ⟨o, hm.1, hd⟩)
  have hlt := Heap.lt_size hm.1
  have hne : d ≠ s₁.heap.objs.size := Nat.ne_of_lt hlt
  refine wpAny_pyIter_dict lo hdA ?_
  have Z1 : Led h₀ env.locals m (s₁.heap.push { cls := .type "dict_keyiterator", data := .fields #[.ref d, .int 0 0, .int kvs.length 0, .int ep 0] }) (X ++ rest) := Z.push _
  have hfresh := Z.fresh
  have hI₀ := Fr.fresh Z.fr
  have hIg := Heap.get?_push_size s₁.heap (o := ({ cls := .type "dict_keyiterator", data := .fields #[.ref d, .int 0 0, .int kvs.length 0, .int ep 0] } : Obj)) rfl
  have hIL : s₁.heap.objs.size ≠ env.locals := fun e => absurd Z.fr.ns.lt (e ▸ Nat.lt_irrefl _)
  have W := Walks.dictKeys (knd := PySem.strKind prog w) (A := A) hh s₁.heap.objs.size d hne kvs ep
  have hst : (fun (i : Nat) (h : Heap) => h.IsKeyIter s₁.heap.objs.size d i kvs.length ep ∧ h.DictAt (PySem.strKind prog w) d kvs ep) 0 (s₁.heap.push { cls := .type "dict_keyiterator", data := .fields #[.ref d, .int 0 0, .int kvs.length 0, .int ep 0] }) := ⟨⟨_, hIg, rfl, rfl⟩, hdA.push _⟩
  clear hdA
  generalize hIe : s₁.heap.objs.size = I at *
  generalize hH1 : s₁.heap.push { cls := .type "dict_keyiterator", data := .fields #[.ref d, .int 0 0, .int kvs.length 0, .int ep 0] } = H1 at *
  obtain ⟨oI0, hIg⟩ : ∃ oI, H1.get? I = some oI := ⟨_, hIg⟩
  have ZD : Led h₀ env.locals m H1 ((I, oI0) :: (X ++ rest)) := by
    refine ⟨Z1.fr, ?_, ?_⟩
    · intro p hp
      rcases List.mem_cons.mp hp with rfl | hp
      · exact ⟨hIg, hIL, hI₀⟩
      · exact Z1.nw p hp
    · rw [List.map_cons, List.nodup_cons]
      refine ⟨fun hm => ?_, Z1.nd⟩
      obtain ⟨p, hp, e⟩ := List.mem_map.mp hm
      exact hfresh p hp e
  have hD0 : (H1.objs.size == sysModules) = false := Fr.notModules ZD.fr (modules_low hbig)
  refine wpAny_newObj_type (wpAny_newFunctionEnv hcell (by intro y hy; simp at hy) (fun h₁ hns₁ hsb₁ => ?_) hkind)
  dsimp only at hns₁ hsb₁ ⊢
  have hnew : (H1.push { cls := .type "dict", dict := none, data := .dict #[] }).DictOf (PySem.strKind prog w) H1.objs.size [] := Heap.DictOf.new H1
  have hfD := ZD.fresh
  have hD₀ := Fr.fresh ZD.fr
  have ZE := ZD.push { cls := .type "dict", dict := none, data := .dict #[] }
  have hDL : H1.objs.size ≠ env.locals := fun e => absurd ZD.fr.ns.lt (e ▸ Nat.lt_irrefl _)
  generalize hDe : H1.objs.size = D at *
  generalize hH2 : H1.push { cls := .type "dict", dict := none, data := .dict #[] } = H2 at *
  obtain ⟨oD, hoD, hoDd⟩ := Heap.dictOf_iff.mp hnew
  have ZF : Led h₀ env.locals m H2 ((D, oD) :: (I, oI0) :: (X ++ rest)) := by
    refine ⟨ZE.fr, ?_, ?_⟩
    · intro p hp
      rcases List.mem_cons.mp hp with rfl | hp
      · exact ⟨hoD, hDL, hD₀⟩
      · exact ZE.nw p hp
    · rw [List.map_cons, List.nodup_cons]
      refine ⟨fun hm => ?_, ZE.nd⟩
      obtain ⟨p, hp, e⟩ := List.mem_map.mp hm
      exact hfD p hp e
  have hfC := ZF.fresh
  have hC₀ := Fr.fresh ZF.fr
  have ZF2 := ZF.push { cls := .type (if (some env).isSome = true then "dict" else "frame"), data := .dict #[] }
  have hCL : H2.objs.size ≠ env.locals := fun e => absurd ZF.fr.ns.lt (e ▸ Nat.lt_irrefl _)
  generalize hCe : H2.objs.size = C at *
  obtain ⟨oC, heC, hoC⟩ := ns_obj hns₁
  have ZG : Led h₀ env.locals m h₁ ((C, oC) :: (D, oD) :: (I, oI0) :: (X ++ rest)) := by
    refine ⟨ZF2.fr.change hsb₁ hCL hC₀, ?_, ?_⟩
    · intro p hp
      rcases List.mem_cons.mp hp with rfl | hp
      · exact ⟨heC, hCL, hC₀⟩
      · exact ⟨hsb₁.extBut _ _ (hfC p hp) (ZF2.nw p hp).1, (ZF2.nw p hp).2⟩
    · rw [List.map_cons, List.nodup_cons]
      refine ⟨fun hm => ?_, ZF.nd⟩
      obtain ⟨p, hp, e⟩ := List.mem_map.mp hm
      exact hfC p hp e
  have ZH : Led h₀ env.locals m h₁ ((I, oI0) :: (C, oC) :: (D, oD) :: (X ++ rest)) := ZG.perm (by
    refine List.Perm.trans (List.Perm.swap _ _ _) (List.Perm.cons _ ?_)
    exact (List.Perm.swap _ _ _))
  have hst1 := W.frame 0 H1 h₁ hst (fun b hb o' e => by
    rcases List.mem_cons.mp hb with rfl | hb
    · have := (ZH.nw _ (.head _)).1
      rw [hIg] at e; cases e; exact this
    · rw [List.mem_singleton.mp hb] at e ⊢
      have e1 := (Z1.nw (d, o) (List.mem_append_right _ hdr)).1
      rw [e1] at e; cases e
      exact (ZH.nw (d, o) (.tail _ (.tail _ (.tail _ (List.mem_append_right _ hdr))))).1)
  clear ZG ZF2 ZF ZE ZD Z1 hst hsb₁ hfC hfD hfresh hIg hoD heC hns₁ hnew
  have loop : ∀ s₃ : Shared, s₃ = { s₁ with heap := h₁, toks := s₁.toks + ([] : List (Str × Value)).length } →
      codeAny (model prog w) A (.compLoop (.DictComp kx vx [⟨.Name x px, iter, [], 0⟩] scope pos) 0 (.ref I) (.ref D) (compEnvC scope cl C env))
        (compPost (model prog w) A E (some (assign (.Name y py) env)) (fun _ s' => Q .next s') (.ref D) C) s₃ := by
    rintro s₃ rfl
    refine codeAny_compLoop_testsD
      (fun k s' => DLoop prog w h₀ env.locals m s₁ kvs rest I C D d ep Inv k s') ?_ (kvs.length + 1)
      ⟨h₁, _, 0, [], X, oI0, oC, oD, _, rfl, Nat.zero_le _, rfl, hst1, ZH, hoC, hoDd, hI0⟩
    rintro k s' ⟨h', tk, i, ks, X', oI, oC', oD', mC, rfl, hi, rfl, hst', Z', hoC', hoD', hI'⟩
    have nC := Z'.nw _ (.tail _ (.head _))
    have ndZ := Z'.nd
    simp only [List.map_cons, List.nodup_cons, List.mem_cons, not_or] at ndZ
    have hIC : I ≠ C := ndZ.1.1
    by_cases hlt : i < kvs.length
    · refine W.item i _ _ _ hlt hst' fun v h₂ tk₂ hPv hst₂ hk₂ => ?_
      obtain ⟨kk, uu, hkv, hkey⟩ := hPv
      obtain ⟨tt, rfl⟩ := Value.isStrOf_shape hkey
      refine wpAny_assign_Name (wpAny_storeName_local (lookup_relabel_local hx) ((hoC'.ns nC.1).at' fun o e => hk₂ _ o (by simpa using Ne.symm hIC) e) (fun h₃ hn₃ hs₃ => ?_) (by simp [compEnvC, relabel, hkind]))
      refine wpAny_tests_nil ?_
      simp only [if_true]
      have hst₃ := W.frame _ h₂ h₃ hst₂ fun b hb o' e => hs₃.extBut b o' (fun q => by
        rcases List.mem_cons.mp hb with e1 | hb
        · exact hIC (e1.symm.trans q)
        · have e1 := List.mem_singleton.mp hb
          exact ndZ.2.1.2 (List.mem_map.mpr ⟨(d, o), List.mem_append_right _ hdr, e1.symm.trans q⟩)) e
      obtain ⟨oI₃, heI, _⟩ := id hst₃.1
      obtain ⟨oC₃, heC, hoC₃⟩ := ns_obj hn₃
      have Z₃ := Z'.iter hk₂ hs₃ heI heC
      refine wpAny_mono (step i kk uu tt ks X' h₃ _ I oI₃ C oC₃ D oD' _ _ _ (fun _ _ _ x => x) hkv hI' hoC₃ (by simp) Z₃) (fun kv s₄ h₄ => wpAny_mono h₄ (fun vv s₅ h₅ => ?_) fun _ _ e => e) fun _ _ e => e
      obtain ⟨h₅, tk₅, X₂, k', t', rfl, rfl, Z₅, hI₅⟩ := h₅
      have hkl := hIl _ _ _ hI'
      refine wpAny_dictSet_pairs (knd := PySem.strKind prog w) (hsz := by rw [sizeLine_eq]; omega) (strKind_is _ _ k' t') (Heap.dictOf_iff.mpr ⟨oD', (Z₅.nw _ (.tail _ (.tail _ (.head _)))).1, hoD'⟩) fun h₆ hl₆ hs₆ => ?_
      obtain ⟨oD₆, hg₆, hd₆⟩ := Heap.dictOf_iff.mp hl₆
      have Z₆ := Z₅.put3 hs₆ hg₆
      refine ⟨kvs.length + 1 - (i + 1), by omega, h₆, _, i + 1, _, X₂, oI₃, oC₃, oD₆, _, rfl, hlt, rfl, ?_, Z₆, hoC₃, hd₆, hI₅⟩
      refine W.frame _ h₃ h₆ hst₃ fun b hb o' e => ?_
      rcases List.mem_cons.mp hb with rfl | hb
      · rw [heI] at e; cases e
        exact (Z₆.nw _ (.head _)).1
      · rw [List.mem_singleton.mp hb] at e ⊢
        have e1 := (Z₃.nw (d, o) (.tail _ (.tail _ (.tail _ (List.mem_append_right _ hdr))))).1
        rw [e1] at e; cases e
        exact (Z₆.nw (d, o) (.tail _ (.tail _ (.tail _ (List.mem_append_right _ hdr))))).1
    · obtain rfl : i = kvs.length := Nat.le_antisymm hi (Nat.not_lt.mp hlt)
      refine W.done _ _ _ hst' fun h₂ tk₂ hk₂ => ?_
      have Zc : Led h₀ env.locals m h₂ ((C, oC') :: (D, oD') :: (X' ++ rest)) := by
        refine ⟨fr_but Z'.fr hk₂ (Ne.symm hIL) hI₀, news_but (fun p hp => Z'.nw p (.tail _ hp)) hk₂ (fun p hp e => ?_), (Led.ndT Z')⟩
        have := Z'.nd
        rw [List.map_cons, List.nodup_cons] at this
        exact this.1 (List.mem_map.mpr ⟨p, hp, e⟩)
      show wpAny _ A (assign (.Name y py) env (.ref D)) _ _ _
      refine wpAny_assign_Name (wpAny_storeName_local hy Zc.fr.ns (fun h₃ hn₃ hs₃ => ?_) hp)
      have Zs : Led h₀ env.locals (fun z => if z = y then some (.ref D) else m z) h₃ ((C, oC') :: (D, oD') :: (X' ++ rest)) := ⟨Zc.fr.set hn₃ hs₃, Zc.nw.set hs₃, Zc.nd⟩
      refine ⟨mC, hoC'.ns (Zs.nw _ (.head _)).1, fun h'' hs'' => fin D oD' ks X' h'' _ hI' hoD' hD0 ⟨Zs.fr.change hs'' hCL hC₀, fun p hp => ?_, Led.ndT Zs⟩⟩
      have z := Zs.nw p (.tail _ hp)
      refine ⟨hs''.extBut _ _ (fun e => ?_) z.1, z.2⟩
      have := Zs.nd
      rw [List.map_cons, List.nodup_cons] at this
      exact this.1 (List.mem_map.mpr ⟨p, hp, e⟩)
  exact codeAny_compStart_dict (loop _ rfl) (W.self 0 _ _ _ hst1 (loop _ rfl))
end
end Mine
end

section
theorem Mine.startPhRo : True := by
  w_top off
  trivial
open PySem PySem.W PyProof.Rows
set_option maxRecDepth 100000
set_option linter.unusedVariables false
namespace Mine
/-- a name's row of plain sums -/
structure Rw where
  name : Str
  e : Addr
  cd : Addr
  oc : Obj
  tz : Tok × Tok × Tok × Tok
  kv : List (Str × Value)
def Rw.os (W : Nat → Str) (Z : Nat → Int) (R : Rw) : List (Addr × Obj) := [(R.e, rowO (rowZ W Z R.name (inE W R.name)) R.tz R.cd), (R.cd, R.oc)]
def rws (W : Nat → Str) (Z : Nat → Int) (Rs : List Rw) : List (Addr × Obj) := Rs.flatMap fun R => R.os W Z
def rkv (Rs : List Rw) : List (Str × Value) := Rs.map fun R => (R.name, .ref R.e)
structure Rw.Ok (w : World) (W : Nat → Str) (R : Rw) : Prop where
  lo : (R.cd == sysModules) = false
  dict : R.oc.IsDictOf (PySem.strKind PySem.Challenge.rw_ph0055_01.row.prog w) R.kv
  cv : CVals R.kv (ownC W (inE W R.name))
theorem rkv_new {Rs : List Rw} {R : Rw} (h : ∀ M ∈ Rs, M.name ≠ R.name) : stored (rkv Rs) R.name (.ref R.e) = rkv (Rs ++ [R]) := by
  rw [stored_new]
  · simp [rkv]
  · intro hm
    obtain ⟨p, hp, e⟩ := List.mem_map.mp hm
    obtain ⟨M, hM, rfl⟩ := List.mem_map.mp hp
    exact h M hM e
theorem rkv_at {Rs : List Rw} {R : Rw} (hR : R ∈ Rs) (nd : (Rs.map (·.name)).Nodup) : valueAt (rkv Rs) R.name = some (.ref R.e) := by
  unfold valueAt rkv
  induction Rs with
  | nil => cases hR
  | cons M r ih =>
    rw [List.map_cons, List.nodup_cons] at nd
    rw [List.map_cons, List.find?_cons]
    rcases List.mem_cons.mp hR with e | hR
    · subst e; simp
    · have : M.name ≠ R.name := fun e => nd.1 (List.mem_map.mpr ⟨R, hR, e.symm⟩)
      simp only [this, decide_false]
      exact ih hR nd.2
theorem rws_out {W : Nat → Str} {Z : Nat → Int} {Rs : List Rw} {R : Rw} (hR : R ∈ Rs) : ∃ Y, (rws W Z Rs).Perm (R.os W Z ++ Y) := by
  obtain ⟨As, Bs, rfl⟩ := List.append_of_mem hR
  refine ⟨rws W Z As ++ rws W Z Bs, ?_⟩
  simp only [rws, List.flatMap_append, List.flatMap_cons]
  exact List.perm_append_comm_assoc _ _ _
/-- the rows made so far -/
inductive DInv (w : World) (W : Nat → Str) (Z : Nat → Int) (Ls : List Lx) (i : Nat) (ks : List (Str × Value)) (X : List (Addr × Obj)) : Prop
  | mk : ∀ Rs : List Rw, (ks = rkv Rs) → (X = rws W Z Rs) → (Rs.map (·.name) = (nms Ls).take i) → (∀ R ∈ Rs, R.Ok w W) → DInv w W Z Ls i ks X
theorem DInv.le {w : World} {W : Nat → Str} {Z : Nat → Int} {Ls : List Lx} {i : Nat} {ks : List (Str × Value)} {X : List (Addr × Obj)} (h : DInv w W Z Ls i ks X) : ks.length ≤ i := by
  obtain ⟨Rs, rfl, _, h, _⟩ := h
  have := congrArg List.length h
  simp only [List.length_map, List.length_take] at this
  rw [rkv, List.length_map, this]
  exact Nat.min_le_left _ _
theorem DInv.more {w : World} {W : Nat → Str} {Z : Nat → Int} {Ls : List Lx} {i : Nat} {Rs : List Rw} {K : Lx} (hKi : Ls[i]? = some K) (nd : (nms Ls).Nodup) (h : Rs.map (·.name) = (nms Ls).take i) (ok : ∀ R ∈ Rs, R.Ok w W) {R : Rw} (hn : R.name = K.name) (hR : R.Ok w W) :
    DInv w W Z Ls (i + 1) (stored (rkv Rs) K.name (.ref R.e)) (rws W Z (Rs ++ [R])) := by
  have e : (nms Ls)[i]? = some K.name := by rw [nms, List.getElem?_map, hKi]; rfl
  have hlt := (List.getElem?_eq_some_iff.mp e).1
  refine ⟨Rs ++ [R], ?_, rfl, ?_, ?_⟩
  · rw [← hn]
    refine rkv_new fun M hM he => ?_
    have hm : K.name ∈ (nms Ls).take i := by
      rw [← h, ← hn, ← he]; exact List.mem_map.mpr ⟨M, hM, rfl⟩
    have e2 : nms Ls = (nms Ls).take i ++ (nms Ls).drop i := (List.take_append_drop i _).symm
    rw [e2, List.nodup_append] at nd
    refine nd.2.2 _ hm K.name ?_ rfl
    rw [List.drop_eq_getElem_cons hlt, (List.getElem?_eq_some_iff.mp e).2]
    exact .head _
  · rw [List.map_append, h, List.take_add_one, e, ← hn]; rfl
  · intro M hM
    rcases List.mem_append.mp hM with hM | hM
    · exact ok M hM
    · rw [List.mem_singleton.mp hM]; exact hR
theorem perm_row {e c a b i1 i2 i3 l : Addr × Obj} {T X : List (Addr × Obj)} : ([e, c, a, b] ++ ([i1, i2, i3, l] ++ (T ++ X))).Perm (i1 :: i2 :: i3 :: ((X ++ [e, c]) ++ (l :: a :: b :: T))) := by
  classical
  refine List.perm_iff_count.mpr fun x => ?_
  simp only [List.count_append, List.count_cons, List.count_nil]
  ac_rfl
theorem rws_snoc {W : Nat → Str} {Z : Nat → Int} {Rs : List Rw} {R : Rw} : rws W Z (Rs ++ [R]) = rws W Z Rs ++ [(R.e, rowO (rowZ W Z R.name (inE W R.name)) R.tz R.cd), (R.cd, R.oc)] := by
  simp [rws, Rw.os]
end Mine
end

section
local macro_rules | `(tactic| walk_at "no such key") => `(tactic| fail "no such key")
local macro_rules | `(tactic| walk_at "no such key") => `(tactic| fail "no such key")
theorem Mine.startPhLp : True := by
  w_top off
  trivial
open PySem PySem.W PyProof.Rows
set_option maxRecDepth 100000
set_option linter.unusedVariables false
namespace Mine
theorem TVals.intsL {vs : List Value} {ps : List Nat} (h : TVals vs ps) : IntsAre vs (ps.map fun p => ((p : Nat) : Int)) := h.ints
theorem told_sorted {ps : List Nat} {ns : List Int} (nd : ps.Nodup) (lt : ∀ p ∈ ps, p < 10) (hp : ns.Perm (ps.map fun p => ((p : Nat) : Int))) (hs : ns.Pairwise (· ≤ ·)) : ns = ((List.range 10).filter fun p => decide (p ∈ ps)).map fun p => ((p : Nat) : Int) := by
  have h1 : ((List.range 10).filter fun p => decide (p ∈ ps)).Perm ps := by
    rw [List.perm_ext_iff_of_nodup (List.Nodup.sublist List.filter_sublist List.nodup_range) nd]
    intro a
    rw [List.mem_filter, List.mem_range]
    exact ⟨fun h => of_decide_eq_true h.2, fun h => ⟨lt a h, decide_eq_true h⟩⟩
  refine List.Perm.eq_of_pairwise (fun a b _ _ h1 h2 => Int.le_antisymm h1 h2) hs ?_ (hp.trans (h1.symm.map _))
  rw [List.pairwise_map]
  refine List.Pairwise.imp ?_ (List.Pairwise.sublist List.filter_sublist List.pairwise_lt_range)
  intro a b h
  omega
section
variable {prog : Program} {w : World} {A : Around} {E : Value → Shared → Prop} {s : Shared} {h₀ : Heap} {L : Addr} {m : Str → Option Value} {news : List (Addr × Obj)}
theorem sorted_told {l : Addr} {vs : List Value} {n : Nat} {ps : List Nat} {Q : Value → Shared → Prop} (F : Fr h₀ L s.heap m) (N : News h₀ L s.heap news) (hm : (l, listOf vs.toArray n) ∈ news) (ht : TVals vs ps) (nd : ps.Nodup) (lt : ∀ p ∈ ps, p < 10) (hl : ps.length ≤ 10)
    (h : ∀ D vs' c h', Fr h₀ L h' m → News h₀ L h' ((D, listOf vs'.toArray c) :: news) → AllLt D news → IntsAre vs' (((List.range 10).filter fun p => decide (p ∈ ps)).map fun p => ((p : Nat) : Int)) → Q (.ref D) { s with heap := h' }) :
    wpAny (model prog w) A (call (.builtin "sorted") [.ref l]) Q E s := by
  refine kso_sorted F N ⟨_, (N _ hm).1, rfl, n, rfl⟩ ht.intsL (by rw [List.length_map]; omega) ?_
  intro D vs' ns' c h' F' N' hlt hi _ hp hs _
  rw [told_sorted nd lt hp hs] at hi
  exact h D vs' c h' F' N' (allLt_iff.mpr hlt) hi
theorem in_told {l : Addr} {vs : List Value} {n : Nat} {ps : List Nat} {i : Nat} {t : Tok} {Q : Value → Shared → Prop} (N : News h₀ L s.heap news := by k_asm) (hm : (l, listOf vs.toArray n) ∈ news := by k_mem) (ht : TVals vs ps := by with_reducible assumption) (h : Q (.bool (decide (i ∈ ps))) s) :
    wpAny (model prog w) A (compareOp .In (.int (i : Nat) t) (.ref l)) Q E s := by
  refine in_list_ints ⟨_, (N _ hm).1, rfl, n, rfl⟩ ht.intsL ?_
  have e : ((ps.map fun p => ((p : Nat) : Int)).any (· == ((i : Nat) : Int))) = decide (i ∈ ps) := by
    rw [Bool.eq_iff_iff, List.any_eq_true, decide_eq_true_eq]
    constructor
    · rintro ⟨x, hx, e⟩
      obtain ⟨p, hp, rfl⟩ := List.mem_map.mp hx
      have : (p : Int) = (i : Int) := by simpa using e
      have : p = i := by omega
      exact this ▸ hp
    · intro hi
      exact ⟨_, List.mem_map.mpr ⟨i, hi, rfl⟩, by simp⟩
  rw [e]; exact h
theorem notin_yes {l : Addr} {vs : List Value} {n : Nat} {ys : List Str} {k : Str} {t : Tok} {Q : Value → Shared → Prop} (N : News h₀ L s.heap news := by k_asm) (hm : (l, listOf vs.toArray n) ∈ news := by k_mem) (hi : PyProof.Rows.StrsAre vs ys := by with_reducible assumption) (hk : k ∈ ys := by with_reducible assumption) (h : Q (.bool false) s) :
    wpAny (model prog w) A (compareOp .NotIn (.str k t) (.ref l)) Q E s := by
  refine notin_strs N hm hi ?_
  rw [any_mem.mpr hk]; exact h
theorem ne_same {a b : Addr} {vs us : List Value} {ns : List Int} {Q : Value → Shared → Prop} (hl : s.heap.IsList a vs.toArray) (hi : IntsAre vs ns) (hl' : s.heap.IsList b us.toArray) (hi' : IntsAre us ns) (hu : A.units + 64 < cLine)
    (h : Q (.bool false) s) : wpAny (model prog w) A (compareOp .NotEq (.ref a) (.ref b)) Q E s := by
  refine ne_intsK hl hi hl' hi' hu ?_
  rw [decide_eq_true rfl]; exact h
theorem eq_same {a b : Addr} {vs us : List Value} {ns : List Int} {Q : Value → Shared → Prop} (hl : s.heap.IsList a vs.toArray) (hi : IntsAre vs ns) (hl' : s.heap.IsList b us.toArray) (hi' : IntsAre us ns) (hu : A.units + 64 < cLine)
    (h : Q (.bool true) s) : wpAny (model prog w) A (compareOp .Eq (.ref a) (.ref b)) Q E s := by
  refine eq_intsK hl hi hl' hi' hu ?_
  rw [decide_eq_true rfl]; exact h
end
/-- a round's list -/
def TOk (W : Nat → Str) (q : Str → List Nat) (j : Nat) (o : Obj) : Prop := ∃ vs n, o = listOf vs.toArray n ∧ TVals vs (toldAt W q j)
/-- the rounds so far: the last two are known -/
def RdOk (W : Nat → Str) (q : Str → List Nat) (i : Nat) (rvs : List Value) (T : List (Addr × Obj)) : Prop :=
  rvs.length = i ∧ (i = 0 → rvs = [] ∧ T = []) ∧
  (∀ j, i = j + 1 → ∃ pre t o T', rvs = pre ++ [.ref t] ∧ T = (t, o) :: T' ∧ TOk W q j o ∧ (∀ k, j = k + 1 → ∃ pre2 t2 o2, pre = pre2 ++ [.ref t2] ∧ T' = [(t2, o2)] ∧ TOk W q k o2) ∧ (j = 0 → T' = []))
theorem RdOk.zero {W : Nat → Str} {q : Str → List Nat} : RdOk W q 0 [] [] := ⟨rfl, fun _ => ⟨rfl, rfl⟩, fun j h => nomatch h⟩
/-- one round more; an elder list goes out of sight -/
theorem RdOk.more {W : Nat → Str} {q : Str → List Nat} {i : Nat} {rvs : List Value} {T : List (Addr × Obj)} (h : RdOk W q i rvs T) {t : Addr} {o : Obj} (ho : TOk W q i o) : ∃ T', RdOk W q (i + 1) (rvs ++ [.ref t]) ((t, o) :: T') ∧ T'.Sublist T := by
  obtain ⟨h1, h2, h3⟩ := h
  cases i with
  | zero =>
    obtain ⟨rfl, rfl⟩ := h2 rfl
    refine ⟨[], ⟨rfl, (fun h => nomatch h), fun j hj => ?_⟩, .refl _⟩
    obtain rfl : j = 0 := by omega
    exact ⟨[], t, o, [], rfl, rfl, ho, (fun k hk => nomatch hk), fun _ => rfl⟩
  | succ j =>
    obtain ⟨pre, t1, o1, T', rfl, rfl, ho1, _, _⟩ := h3 j rfl
    refine ⟨[(t1, o1)], ⟨by rw [List.length_append, h1]; rfl, (fun h => nomatch h), fun k hk => ?_⟩, .cons_cons _ (List.nil_sublist _)⟩
    obtain rfl : k = j + 1 := by omega
    refine ⟨_, t, o, [(t1, o1)], rfl, rfl, ho, fun k hk => ?_, (fun h => nomatch h)⟩
    obtain rfl : k = j := by omega
    exact ⟨pre, t1, o1, rfl, rfl, ho1⟩
theorem qAt_succ {W : Nat → Str} {q : Str → List Nat} {i : Nat} : qAt W q (i + 1) = (round W (qAt W q i)).1 := rfl
theorem pl0 {rl c6 c5 I gd ld wl nl pd c4 c3 c2 c1 : Addr × Obj} {P T N Y : List (Addr × Obj)} : (rl :: c6 :: c5 :: I :: gd :: ld :: wl :: nl :: pd :: c4 :: c3 :: c2 :: c1 :: (T ++ (N ++ Y))).Perm ((rl :: c6 :: c5 :: (T ++ N)) ++ (I :: gd :: ld :: wl :: nl :: pd :: c4 :: c3 :: c2 :: c1 :: Y)) := by
  classical
  refine List.perm_iff_count.mpr fun x => ?_
  simp only [List.count_append, List.count_cons, List.count_nil]
  ac_rfl

theorem pl1 {rl c6 c5 I gd ld wl nl pd c4 c3 c2 c1 : Addr × Obj} {P T N Y : List (Addr × Obj)} : ((ld :: pd :: wl :: N) ++ (P ++ (rl :: c6 :: c5 :: I :: gd :: nl :: c4 :: c3 :: c2 :: c1 :: (T ++ Y)))).Perm (P ++ (rl :: c6 :: c5 :: I :: gd :: ld :: wl :: nl :: pd :: c4 :: c3 :: c2 :: c1 :: (T ++ (N ++ Y)))) := by
  classical
  refine List.perm_iff_count.mpr fun x => ?_
  simp only [List.count_append, List.count_cons, List.count_nil]
  ac_rfl

theorem pl2 {t : Addr × Obj} {rl c6 c5 I gd ld wl nl pd c4 c3 c2 c1 : Addr × Obj} {P T N Y : List (Addr × Obj)} : ((t :: P) ++ (rl :: c6 :: c5 :: I :: gd :: ld :: wl :: nl :: pd :: c4 :: c3 :: c2 :: c1 :: (T ++ (N ++ Y)))).Perm ((t :: ld :: pd :: wl :: N) ++ (P ++ (rl :: c6 :: c5 :: I :: gd :: nl :: c4 :: c3 :: c2 :: c1 :: (T ++ Y)))) := by
  classical
  refine List.perm_iff_count.mpr fun x => ?_
  simp only [List.count_append, List.count_cons, List.count_nil]
  ac_rfl

theorem pe1 {i t : Addr × Obj} {rl c6 c5 I gd ld wl nl pd c4 c3 c2 c1 : Addr × Obj} {P T N Y : List (Addr × Obj)} : ([t, wl, nl] ++ ((i :: P) ++ (rl :: c6 :: c5 :: I :: gd :: ld :: pd :: c4 :: c3 :: c2 :: c1 :: (T ++ (N ++ Y))))).Perm ((i :: t :: P) ++ (rl :: c6 :: c5 :: I :: gd :: ld :: wl :: nl :: pd :: c4 :: c3 :: c2 :: c1 :: (T ++ (N ++ Y)))) := by
  classical
  refine List.perm_iff_count.mpr fun x => ?_
  simp only [List.count_append, List.count_cons, List.count_nil]
  ac_rfl

theorem pe2 {e d i t : Addr × Obj} {rl c6 c5 I gd ld wl nl pd c4 c3 c2 c1 : Addr × Obj} {P T N Y : List (Addr × Obj)} : ((e :: d :: i :: t :: P) ++ (rl :: c6 :: c5 :: I :: gd :: ld :: wl :: nl :: pd :: c4 :: c3 :: c2 :: c1 :: (T ++ (N ++ Y)))).Perm ([e, d, t, wl, nl] ++ ((i :: P) ++ (rl :: c6 :: c5 :: I :: gd :: ld :: pd :: c4 :: c3 :: c2 :: c1 :: (T ++ (N ++ Y))))) := by
  classical
  refine List.perm_iff_count.mpr fun x => ?_
  simp only [List.count_append, List.count_cons, List.count_nil]
  ac_rfl

theorem pl9 {t : Addr × Obj} {rl c6 c5 I gd ld wl nl pd c4 c3 c2 c1 : Addr × Obj} {P T N Y : List (Addr × Obj)} : ((rl :: c6 :: c5 :: ((t :: T) ++ N)) ++ (I :: gd :: ld :: wl :: nl :: pd :: c4 :: c3 :: c2 :: c1 :: Y)).Perm (t :: rl :: c6 :: c5 :: I :: gd :: ld :: wl :: nl :: pd :: c4 :: c3 :: c2 :: c1 :: (T ++ (N ++ Y))) := by
  classical
  refine List.perm_iff_count.mpr fun x => ?_
  simp only [List.count_append, List.count_cons, List.count_nil]
  ac_rfl

theorem mem_core {x : Addr × Obj} {rl c6 c5 I gd ld wl nl pd c4 c3 c2 c1 : Addr × Obj} {P T N Y : List (Addr × Obj)} (h : x ∈ Y) : x ∈ P ++ (rl :: c6 :: c5 :: I :: gd :: ld :: wl :: nl :: pd :: c4 :: c3 :: c2 :: c1 :: (T ++ (N ++ Y))) := by
  simp only [List.mem_append, List.mem_cons, h, or_true]
theorem sub_core {t u : Addr × Obj} {T' : List (Addr × Obj)} {rl c6 c5 I gd ld wl nl pd c4 c3 c2 c1 : Addr × Obj} {P T N Y : List (Addr × Obj)} (h : T'.Sublist T) : (t :: rl :: c6 :: c5 :: I :: gd :: ld :: wl :: nl :: pd :: c4 :: c3 :: c2 :: c1 :: (T' ++ (N ++ Y))).Sublist (t :: u :: rl :: c6 :: c5 :: I :: gd :: ld :: wl :: nl :: pd :: c4 :: c3 :: c2 :: c1 :: (T ++ (N ++ Y))) := by
  refine .cons_cons _ (.cons _ ?_)
  iterate 13 refine .cons_cons _ ?_
  exact h.append_right _
theorem pl00 {r gd ld wl nl pd c6 c5 c4 c3 c2 c1 x : Addr × Obj} {N Y : List (Addr × Obj)} : ((r :: c6 :: c5 :: ([] ++ N)) ++ (gd :: ld :: wl :: nl :: pd :: c4 :: c3 :: c2 :: c1 :: (x :: Y))).Perm (r :: gd :: ld :: wl :: nl :: pd :: c6 :: c5 :: c4 :: c3 :: c2 :: c1 :: x :: (N ++ Y)) := by
  classical
  refine List.perm_iff_count.mpr fun x => ?_
  simp only [List.count_append, List.count_cons, List.count_nil]
  ac_rfl
/-- an if whose test is false -/
theorem If_no {M : Model} {A : Around} {env : Env} {test : Expr} {body : List Stmt} {pos : Pos} {Q : Flow → Shared → Prop} {E : Value → Shared → Prop} {s : Shared} {h₀ : Heap} {L : Addr} {m : Str → Option Value} {news : List (Addr × Obj)}
    (_D : Led h₀ L m s.heap news) (ht : wpAny M A (isTrue test env (eval test env)) (fun b s' => b = false ∧ ∃ h' tk, s' = { s with heap := h', toks := tk } ∧ Led h₀ L m h' news) E s)
    (hc : ∀ h' tk, Led h₀ L m h' news → Q .next { s with heap := h', toks := tk }) : wpAny M A (exec (.If test body [] pos) env) Q E s := by
  refine wpAny_If (wpAny_mono ht (fun b s' h => ?_) fun _ _ e => e)
  obtain ⟨rfl, h', tk, rfl, D⟩ := h
  simp only [Bool.false_eq_true, if_false]
  exact wpAny_execs_nil (hc h' tk D)
theorem RdOk.prev {W : Nat → Str} {q : Str → List Nat} {j : Nat} {rvs : List Value} {T : List (Addr × Obj)} (h : RdOk W q (j + 1) rvs T) : ∃ pre t tvs tn T', rvs = pre ++ [.ref t] ∧ pre.length = j ∧ T = (t, listOf tvs.toArray tn) :: T' ∧ TVals tvs (toldAt W q j) := by
  obtain ⟨h1, _, h3⟩ := h
  obtain ⟨pre, t, o, T', rfl, rfl, ⟨tvs, tn, rfl, htv⟩, _⟩ := h3 j rfl
  refine ⟨pre, t, tvs, tn, T', rfl, ?_, rfl, htv⟩
  rw [List.length_append, List.length_singleton] at h1
  omega
theorem told_at {vs : List Value} {ps : List Nat} (h : TVals vs ps) {i : Nat} {x : Value} (hx : vs[i]? = some x) : ∃ p t, ps[i]? = some p ∧ x = .int (p : Nat) t := by
  have hlt := (List.getElem?_eq_some_iff.mp hx).1
  rw [h.len] at hlt
  obtain ⟨t, ht⟩ := h.at (List.getElem?_eq_getElem hlt)
  rw [hx] at ht
  exact ⟨_, t, List.getElem?_eq_getElem hlt, by cases ht; rfl⟩
theorem told_le {W : Nat → Str} {q : Str → List Nat} (G : Good W q) (k : Nat) : (toldAt W q k).length ≤ 10 := by
  obtain ⟨nd, lt⟩ := round_nd (good_at G k)
  have := List.Nodup.length_le_of_subset nd (l₂ := List.range 10) (fun p hp => List.mem_range.mpr (lt p hp))
  simpa using this
theorem filt_yes {ps : List Nat} {i : Nat} {ys : List Value} {t : Tok} (h : TVals ys ((List.range i).filter fun p => decide (p ∈ ps))) (hi : decide (i ∈ ps) = true) : TVals (ys ++ [.int (i : Nat) t]) ((List.range (i + 1)).filter fun p => decide (p ∈ ps)) := by
  rw [List.range_succ, List.filter_append, List.filter_cons, if_pos hi]
  exact h.app i t
theorem filt_no {ps : List Nat} {i : Nat} {ys : List Value} (h : TVals ys ((List.range i).filter fun p => decide (p ∈ ps))) (hi : decide (i ∈ ps) = false) : TVals ys ((List.range (i + 1)).filter fun p => decide (p ∈ ps)) := by
  rw [List.range_succ, List.filter_append, List.filter_cons, if_neg (by rw [hi]; decide), List.filter_nil, List.append_nil]
  exact h
theorem led_le5 {W : Nat → Str} {q : Str → List Nat} (G : Good W q) {names : List Str} (N : Names W names) : (ledN W q names 4).length ≤ 5 := by
  have K := ledN_ok G N 4
  exact Nat.le_trans (List.Nodup.length_le_of_subset K.nd K.sub) N.len
theorem full_test {a b c : Nat} (h : a = 10 ↔ b = c) : (((a : Int) == 10) != ((b : Int) == (c : Int))) = false := by
  by_cases h1 : a = 10
  · have h2 := h.mp h1
    subst h1 h2
    simp
  · have h2 : ¬ b = c := fun x => h1 (h.mpr x)
    have e1 : ((a : Int) == 10) = false := by rw [beq_eq_false_iff_ne]; omega
    have e2 : ((b : Int) == (c : Int)) = false := by rw [beq_eq_false_iff_ne]; omega
    rw [e1, e2]; rfl
theorem rows_of : ∀ {vs : List Value} {ys : List Str}, PyProof.Rows.StrsAre vs ys → ∀ {i : Nat} {v : Value}, vs[i]? = some v → ∃ x t, ys[i]? = some x ∧ v = .str x t
  | _, _, .nil, i, v, h => by simp at h
  | _, _, .cons y t h, 0, v, e => by simp only [List.getElem?_cons_zero, Option.some.injEq] at e; exact ⟨y, t, rfl, e.symm⟩
  | _, _, .cons y t h, i + 1, v, e => by
    obtain ⟨x, u, h1, h2⟩ := rows_of h (i := i) (by simpa using e)
    exact ⟨x, u, by simpa using h1, h2⟩
theorem mem_rw1 {W : Nat → Str} {Z : Nat → Int} {Rs : List Rw} {R : Rw} (h : R ∈ Rs) : (R.e, rowO (rowZ W Z R.name (inE W R.name)) R.tz R.cd) ∈ rws W Z Rs := List.mem_flatMap.mpr ⟨R, h, .head _⟩
theorem mem_rw2 {W : Nat → Str} {Z : Nat → Int} {Rs : List Rw} {R : Rw} (h : R ∈ Rs) : (R.cd, R.oc) ∈ rws W Z Rs := List.mem_flatMap.mpr ⟨R, h, .tail _ (.head _)⟩
structure OrMark : Prop where
theorem ne_nat {a b : Nat} (h : a = b) : (((a : Nat) : Int) != ((b : Nat) : Int)) = false := by rw [h]; simp
theorem last_at2 (vs : List Value) (u v : Value) : (vs ++ [u] ++ [v])[((-2 : Int) + (vs ++ [u] ++ [v]).length).toNat]? = some u := by
  have : ((-2 : Int) + (vs ++ [u] ++ [v]).length).toNat = vs.length := by simp only [List.length_append, List.length_singleton]; omega
  rw [this, List.append_assoc]; simp
theorem pl0e {rl c6 c5 : Addr × Obj} {T N Y : List (Addr × Obj)} : (rl :: c6 :: c5 :: (T ++ (Y ++ N))).Perm ((rl :: c6 :: c5 :: (T ++ N)) ++ Y) := by
  classical
  refine List.perm_iff_count.mpr fun x => ?_
  simp only [List.count_append, List.count_cons, List.count_nil]
  ac_rfl
theorem law_end {cl : Str → Option Addr} {mean : ExcName → Option Value} {a : WData} {s₁ s' : Shared} {L : Addr} {m : Str → Option Value} (F : Fr s₁.heap L s'.heap m) (hg : s'.gens = #[]) (hos : s'.os = s₁.os) : GoodW PySem.Challenge.rw_ph0055_01.row.claim cl mean [a] s₁ (.ok (.ret (.bool true))) s' := by
  refine goodW_bool F hg (raisesW_false ?_) ?_ hos
  · wrow_none_raised
  · wrow_post
end Mine
end

section
theorem Mine.startLawJ : True := by
  w_top off
  trivial
open PySem PySem.W PyProof.Rows
set_option maxRecDepth 100000
set_option linter.unusedVariables false
namespace Mine
open LCg LCt
theorem If_noQ {M : Model} {A : Around} {env : Env} {test : PySem.Expr} {body : List Stmt} {pos : Pos} {Q : Flow → Shared → Prop} {E : Value → Shared → Prop} {s : Shared} {h₀ : Heap} {L : Addr} {m : Str → Option Value} {news : List (Addr × Obj)}
    (D : Led h₀ L m s.heap news) (ht : ∀ q : Bool → Shared → Prop, (∀ b h' tk, b = false → Led h₀ L m h' news → q b { s with heap := h', toks := tk }) → wpAny M A (isTrue test env (eval test env)) q E s)
    (hc : ∀ h' tk, Led h₀ L m h' news → Q .next { s with heap := h', toks := tk }) : wpAny M A (exec (.If test body [] pos) env) Q E s :=
  If_no D (ht _ fun _ h' tk e D' => ⟨e, h', tk, rfl, D'⟩) hc
local macro_rules | `(tactic| k_qdec) => `(tactic| decide +kernel)
local macro_rules | `(tactic| k_room) => `(tactic| ktr_room)
local macro_rules | `(tactic| ke_room) => `(tactic| (have hcL9 := cLine_is; (try dsimp only [ktrTop, Around.deeper, Around.in1]); omega))
local macro_rules | `(tactic| ktr_units) => `(tactic| (have hcL9 := cLine_is; (try dsimp only [ktrTop, Around.deeper, Around.in1]); omega))
local macro_rules | `(tactic| tb_rel) => `(tactic| first | assumption | (refine allLt_cons ?_ ?_; (case refine_1 => omega); (case refine_2 => tb_rel)) | exact allLt_mono (by assumption) (by omega) | fail "tb_rel")
local macro_rules | `(tactic| tb_start) => `(tactic| first | assumption | (refine nd_new ?_ ?_; (case refine_1 => tb_rel); (case refine_2 => tb_start)) | fail "tb_start")
local macro_rules | `(tactic| k_all) => `(tactic| assumption)
local macro_rules | `(tactic| walk_at "exec For Name Call cons nil") => `(tactic| ((rename Fr _ _ _ _ => lF'); k_dflt (refine for_src lF' (by rfl) (by rfl) ?_)))
local macro_rules | `(tactic| walk_at "exec For Name Name cons nil") => `(tactic| ((rename Fr _ _ _ _ => lF'); k_dflt (refine for_src lF' (by rfl) (by rfl) ?_)))
local macro_rules | `(tactic| walk_at "call builtin:len") => `(tactic| (k_dflt (refine' len_led (h := ?_)); intro _ _))
local macro_rules | `(tactic| walk_at "call builtin:list.append") => `(tactic| (k_dflt (refine' app_led (h := ?_)); intro h' F' N'))
local macro_rules | `(tactic| walk_at "call builtin:list.count") => `(tactic| k_dflt (refine' count_words (h := ?_)))
local macro_rules | `(tactic| walk_at "getMethod ref") => `(tactic| ((with_reducible show wpAny _ _ (getMethod _ (PySem.Str.ofString "count") _) _ _ _); k_dflt (refine' listMethod_K (by k_asm) (by k_mem) PySem.F.slot_list_count PySem.F.type_list_count ?_)))
local macro_rules | `(tactic| walk_at "subscriptTail Name UnaryOp ref int") => `(tactic| k_dflt (refine' item_neg (h := ?_)))
local macro_rules | `(tactic| walk_at "subscriptTail Name Subscript ref int") => `(tactic| k_dflt (refine' item_any (h := ?_)))
local macro_rules | `(tactic| walk_at "subscriptTail Name Constant ref int") => `(tactic| k_dflt (refine' item_any (h := ?_)))
local macro_rules | `(tactic| walk_at "subscriptTail Name Name ref int") => `(tactic| k_dflt (refine' item_any (h := ?_)))
local macro_rules | `(tactic| walk_at "subscriptTail Name Name ref str") => `(tactic| k_dflt (refine' kda_item (knd := PySem.strKind _ _) (by k_asm) (by k_mem) (by with_reducible assumption) (strKind_is _ _ _ _) (by with_reducible assumption) ?_))
local macro_rules | `(tactic| walk_at "call ref") => `(tactic| refine wait ?_)
local macro_rules | `(tactic| k_updF) => `(tactic| first | exact PosF.head | (refine' PosF.tail ?p; (case p => k_updF)) | ((rename Apart _ => hAp9); refine' updF_apart hAp9 ?e ?p; (case e => rfl); (case p => k_updF)) | (refine' UpdF.tail ?a ?b; (case a => k_ne); (case b => k_updF)))
local macro_rules | `(tactic| k_upd) => `(tactic| first | exact PosU.head | (refine' PosU.tail ?p; (case p => k_upd)) | ((rename Apart _ => hAp9); refine' upd_apart hAp9 ?e ?p; (case e => rfl); (case p => k_upd)) | (refine' Upd.tail ?a ?b; (case a => k_ne); (case b => k_upd)))
local macro_rules | `(tactic| tb_rel) => `(tactic| first | assumption | exact allLt_nil | (refine allLt_cons ?_ ?_; (case refine_1 => omega); (case refine_2 => tb_rel)) | exact allLt_mono (by assumption) (by omega) | fail "tb_rel")
local macro_rules | `(tactic| tb_start) => `(tactic| first | assumption | (refine nd_new ?_ ?_; (case refine_1 => tb_rel); (case refine_2 => tb_start)) | fail "tb_start")
local macro_rules | `(tactic| walk_at "eval ListComp") => `(tactic| (k_dflt (refine LCg.ListComp_U (F₀ := by k_asm) (by rfl) (by decide) (by rfl) (by decide) (by rfl) ?_)))
local macro_rules | `(tactic| walk_at "CompSrc") => `(tactic| refine wait ?_)
local macro_rules | `(tactic| walk_at "CompSrcT") => `(tactic| refine wait ?_)
local macro_rules | `(tactic| walk_at "exec Assign cons ListComp") => `(tactic| (k_dflt (refine LCg.Assign_ListComp_U (F₀ := by k_asm) (by rfl) (by with_unfolding_all rfl) (by rfl) (by decide) (by rfl) (by decide) (by rfl) (by rfl) (by rfl) ?_)))
local macro_rules | `(tactic| walk_at "compareOp NotEq ref ref") => `(tactic| refine wait ?_)
local macro_rules | `(tactic| walk_at "exec Assign cons DictComp") => `(tactic| (k_dflt (refine Assign_DictComp_led (F₀ := by k_asm) (by rfl) (by with_unfolding_all rfl) (by rfl) (by decide) (by rfl) (by decide) (by rfl) (by rfl) (by rfl) ?_)))
local macro_rules | `(tactic| walk_at "call builtin:len") => `(tactic| k_dflt (refine' kda_len (knd := PySem.strKind _ _) (by k_asm) (by k_mem) (by with_reducible assumption) (by with_reducible assumption) (by omega) ?_))
local macro_rules | `(tactic| walk_at "eval ListComp") => `(tactic| ((with_reducible show wpAny _ _ (eval (Expr.ListComp _ [⟨_, _, [_], _⟩] _ _) _) _ _ _); k_dflt (refine LCt.ListComp_T (F₀ := by k_asm) (by rfl) (by decide) (by rfl) (by decide) (by rfl) ?_)))
local macro_rules | `(tactic| walk_at "compareOp NotIn str ref") => `(tactic| k_dflt (refine' notin_yes (h := ?_)))
local macro_rules | `(tactic| walk_at "compareOp In int ref") => `(tactic| k_dflt (refine' in_told (h := ?_)))
local macro_rules | `(tactic| walk_at "call builtin:sorted") => `(tactic| refine wait ?_)
local macro_rules | `(tactic| walk_at "execs cons Assign cons") => `(tactic| ((with_reducible show wpAny _ _ (execs (Stmt.Assign _ (Expr.List [] _) _ :: Stmt.For _ _ _ _ _ :: _) _) _ _ _); (with_reducible refine wpAny_execs_cons ?_); (try dsimp only)))
local macro_rules | `(tactic| walk_at "exec If BoolOp") => `(tactic| ((with_reducible show wpAny _ _ (exec (Stmt.If (Expr.BoolOp PySem.BoolOp.And _ _) _ _ _) _) _ _ _); refine wait ?_))
local macro_rules | `(tactic| walk_at "exec If Compare") => `(tactic| refine wait ?_)
local macro_rules | `(tactic| walk_at "exec If BoolOp") => `(tactic| ((rename OrMark => hMk9); refine wait ?_))
local macro_rules | `(tactic| walk_at "compareOp Eq ref ref") => `(tactic| refine wait ?_)
local macro_rules | `(tactic| walk_at "compareOp Eq int int") => `(tactic| ((rename OrMark => hMk9); refine wait ?_))
/-- between two turns of the law's loop -/
inductive MInv (w : World) (W : Nat → Str) (q : Str → List Nat) (od : Obj) (Ls : List Lx) (a6 a5 ld pd gd : Addr) (i : Nat) (m : Str → Option Value) (X : List (Addr × Obj)) : Prop
  | mk : ∀ (rl : Addr) (rvs : List Value) (rn : Nat) (o5 o6 : Obj) (T : List (Addr × Obj)) (qv : Str → List Value) (cap : Str → Nat), X = (rl, listOf rvs.toArray rn) :: (a6, o6) :: (a5, o5) :: (T ++ lns w Ls qv cap) → (∃ v, o5.data = .cell v) → (∃ v, o6.data = .cell v) → RdOk W q i rvs T →
      LinesOk w W od ld Ls qv (qAt W q i) → m (Str.ofString "lines") = some (.ref ld) → m (Str.ofString "places") = some (.ref pd) → m (Str.ofString "ledgers") = some (.ref gd) → m (Str.ofString "rounds") = some (.ref rl) → MInv w W q od Ls a6 a5 ld pd gd i m X
/-- a frame that is known by four names alone -/
theorem fr4 {G : Prop} {h₀ h : Heap} {L : Addr} {m : Str → Option Value} {X : List (Addr × Obj)} {a b c d : Str} {u v x y : Value} (D : Led h₀ L m h X) (h1 : m a = some u) (h2 : m b = some v) (h3 : m c = some x) (h4 : m d = some y)
    (H : ∀ m2 : Str → Option Value, m2 a = some u → m2 b = some v → m2 c = some x → m2 d = some y → Led h₀ L m2 h X → G) : G := H m h1 h2 h3 h4 D
theorem fr3 {G : Prop} {h₀ h : Heap} {L : Addr} {m : Str → Option Value} {a b c : Str} {u v x : Value} (D : Fr h₀ L h m) (h1 : m a = some u) (h2 : m b = some v) (h3 : m c = some x)
    (H : ∀ m2 : Str → Option Value, m2 a = some u → m2 b = some v → m2 c = some x → Fr h₀ L h m2 → G) : G := H m h1 h2 h3 D
set_option maxHeartbeats 40000000
theorem main : PySem.Challenge.rw_ph0055_01.Holds := hd (by
  k_go0
  refine wp_fold ?_
  intro q9 r8 r9 hq9
  k_steps
  rename Fr _ _ _ _ => F9
  rename News _ _ _ _ => N9
  rename Below _ _ _ _ => B9
  rename Frag.In _ _ => X9
  rename Top _ _ _ _ _ _ => T9
  rename IntsAre _ _ => hI
  rename ¬ _ < _ => hlen
  rename Heap.IsList _ _ _ => hsc
  rename 98 < _ => l98
  rename World => w
  rename Shared => s1
  have hgens : s1.gens = #[] := by assumption
  have hm0 : ∃ m0 : Str → Option Value, m0 (Str.ofString "script") = some (.ref _) ∧ Fr (ghostOf _ _) _ _ m0 := ⟨_, rfl, F9⟩
  obtain ⟨m0, hm0, F0⟩ := hm0
  rw [mp1 hm0] at F0
  (try clear F9)
  have F9 := F0
  (try clear F0)
  have D9 := Led.of F9 N9 (nd7 _ l98)
  unfold Wait
  refine wp_q ?_; intro qc1 hqc1
  k_dflt (refine' numbers_con _ _ _ _ hI (by omega) B9 X9 T9 ?rK hsc (Led.perm D9 ?rp) ?rd ?ru ?_)
  case rK => rfl
  case rp => exact .refl _
  case rd => k_room
  case ru => k_room
  rintro r9 made h' tk' ⟨nl, ns, nn, Z, rfl, rfl, zok⟩ D'
  (repeat (rename News _ _ _ _ => hx9; clear hx9)); (repeat (rename Fr _ _ _ _ => hx9; clear hx9)); (repeat (rename IsRange _ _ _ _ _ _ _ _ => hx9; clear hx9))
  have F' := D'.fr
  have N' := D'.nw
  have hAp := Apart.mk D'.nd
  simp only [List.cons_append, List.nil_append] at N' hAp
  (try clear N9); (try clear F9); (try clear D9); (try clear D')
  refine hqc1 _ _ ?_; clear hqc1 qc1
  k_steps
  rename Fr _ _ _ _ => F9
  rename News _ _ _ _ => N9
  unfold Wait
  have hn10 := zok.1
  refine CompSrc.ledger (its := ns.toArray) (k := nn) rfl F9 N9 (by k_mem) (by rw [List.size_toArray, sizeLine_eq]; omega) ?_
  intro g9
  refine comp_ind (fun i ys news => news = _ ∧ PyProof.Rows.StrsAre ys ((List.range i).map (dW Z))) ⟨rfl, .nil⟩ ?fin ?step
  case step =>
    rintro i ys news x I oI C oC D m₂ h tk E' qT1 hT1 hi ⟨rfl, hys⟩ hiv hC hx F N off ne
    have hi : i < 10 := by rw [List.size_toArray, hn10] at hi; exact hi
    obtain ⟨tz, hz⟩ := zok.2 i hi
    have hiv : ns[i]? = some x := by simpa using hiv
    rw [hz] at hiv
    obtain rfl : Value.int (Z i) tz = x := Option.some.inj hiv
    (try clear N9); (try clear F9)
    k_steps
    all_goals (rename Fr _ _ _ _ => F9; rename News _ _ _ _ => N9)
    all_goals exact hT1 _ _ (CompEnd.intro F9 N9 _ (fun p hp => .tail _ hp) off (.inr ⟨_, by k_mem, rfl, _, rfl⟩) ⟨rfl, range_snoc hys (by rw [dW_is (by with_reducible assumption)]; rfl)⟩)
  rintro ds news ⟨rfl, hds⟩
  unfold FinE
  intro dl h' tk' F' N' o1'
  rw [List.size_toArray, hn10] at hds
  have hAp2 := Apart.mk (Led.fin F' N' o1' hAp.nd).nd
  (try clear o1'); (try clear N9); (try clear F9); (try clear hAp)
  have hAp := hAp2
  (try clear hAp2)
  have dok := range_strs hds
  have hdl := dok.1
  k_steps
  rename Fr _ _ _ _ => F9
  rename News _ _ _ _ => N9
  rename IsRange _ _ _ _ _ _ _ _ => hr
  unfold Wait
  refine CompSrc.range (n := 10) rfl F9 N9 hr (by decide) (by decide) (by rw [sizeLine_eq]; omega) ?_
  intro g9
  refine comp_ind (fun i ys news => news = _ ∧ PyProof.Rows.StrsAre ys ((List.range i).map (wZ Z))) ⟨rfl, .nil⟩ ?fin2 ?step2
  case step2 =>
    rintro i ys news x I oI C oC D m₂ h tk E' qT2 hT2 hi ⟨rfl, hys⟩ ⟨ti, rfl⟩ hC hx F N off ne
    rw [Int.zero_add] at hx
    obtain ⟨td, hd⟩ := dok.2 i hi
    have hdi : ds[((i : Nat) : Int).toNat]? = some (.str (dW Z i) td) := hd
    obtain ⟨tz, hz⟩ := zok.2 i hi
    have hzi : ns[((i : Nat) : Int).toNat]? = some (.int (Z i) tz) := hz
    (try clear hr); (try clear N9); (try clear F9)
    k_steps
    rename Fr _ _ _ _ => F9
    rename News _ _ _ _ => N9
    have D1 := Led.comp F9 N9 off ne hAp.nd
    (try clear N9); (try clear F9)
    unfold Wait
    rw [(mW_is Z i).1]
    refine wp_q ?_; intro qc2 hqc2
    k_dflt (refine' written_con _ (dW Z i) (mW Z i) _ _ (mW_is Z i).2 (dW_mem Z i) B9 X9 T9 ?sK2 D1 ?sd2 ?su2 ?_)
    case sK2 => rfl
    case sd2 => k_room
    case su2 => k_room
    rintro r9 made h' tk' ⟨⟨tr, rfl⟩, rfl⟩ D'
    (repeat (rename News _ _ _ _ => hx9; clear hx9)); (repeat (rename Fr _ _ _ _ => hx9; clear hx9)); (repeat (rename IsRange _ _ _ _ _ _ _ _ => hx9; clear hx9))
    have F' := D'.fr
    have N' := D'.nw
    simp only [List.nil_append] at N'
    (try clear D1); (try clear D')
    refine hqc2 _ _ ?_; clear hqc2 qc2
    k_steps
    rename Fr _ _ _ _ => F9
    rename News _ _ _ _ => N9
    exact hT2 _ _ (CompEnd.intro F9 N9 _ (fun p hp => hp) off trivial ⟨rfl, range_snoc hys rfl⟩)
  rintro xs news ⟨rfl, hxs⟩
  unfold FinE
  intro xl h' tk' F' N' o1'
  (try clear hr); (try clear N9); (try clear F9)
  k_steps
  rename Fr _ _ _ _ => F9
  rename News _ _ _ _ => N9
  refine join_textZ N9 (.head _) hxs ?_
  intro tj kj
  have htl := textZ_len Z
  k_steps
  rename Fr _ _ _ _ => F9
  rename News _ _ _ _ => N9
  have D1 := Led.sub (Led.of F9 N9 (nd_new (by tb_rel) (nd_off o1' hAp.nd))) (.cons_cons _ (.cons _ (.refl _)))
  (try clear hAp); (try clear N9); (try clear F9); (try clear o1')
  have D2 : Led _ _ _ _ ([(98, _), _] ++ [_, _, _, _, _, _, _, _]) := Led.swap (P := [_, _, _, _, _, _, _, _, _]) (S := [(98, _)]) (R := []) D1
  (try clear D1)
  unfold Wait
  refine wp_q ?_; intro qc3 hqc3
  k_dflt (refine' lexer_S _ _ (textZ Z) _ _ _ (Nat.le_trans htl (by decide)) B9 X9 T9 ?sK3 D2 ?sd3 ?su3 ?_)
  case sK3 => rfl
  case sd3 => k_room
  case su3 => k_room
  rintro r9 made h' tk' ⟨S, tl, hS, rfl, rfl⟩ D'
  have hla := hS.la
  subst hla
  (try clear D2)
  have D1 := Led.comm D'
  (try clear D')
  (repeat (rename News _ _ _ _ => hx9; clear hx9)); (repeat (rename Fr _ _ _ _ => hx9; clear hx9)); (repeat (rename IsRange _ _ _ _ _ _ _ _ => hx9; clear hx9))
  have F' := D1.fr
  have N' := D1.nw
  have hAp := Apart.mk D1.nd
  simp only [List.cons_append, List.nil_append] at N' hAp
  (try clear D1)
  refine hqc3 _ _ ?_; clear hqc3 qc3
  k_steps
  rename Fr _ _ _ _ => F9
  rename News _ _ _ _ => N9
  rename IsRange _ _ _ _ _ _ _ _ => hr
  unfold Wait
  refine CompSrc.range (n := 10) rfl F9 N9 hr (by decide) (by decide) (by rw [sizeLine_eq]; omega) ?_
  intro g9
  refine comp_ind (fun i ys news => ∃ tl n tp n', news = _ :: _ :: _ :: _ :: _ :: _ :: _ :: _ :: S.at tl [] n (posZ Z i) tp n' ∧ PyProof.Rows.StrsAre ys ((List.range i).map (dW Z)) ∧ (news.map (·.1)).Nodup) ⟨_, _, _, _, by rw [pos_zero], .nil, hAp.nd⟩ ?fin3 ?step3
  case step3 =>
    (try clear hAp); (try clear hr); (try clear N9); (try clear F9)
    rintro i ys news x I oI C oC D m₂ h tk E' qT3 hT3 hi ⟨tl, n, tp, n', rfl, hys, hnd⟩ ⟨ti, rfl⟩ hC hx F N off ne
    have D1 := Led.comp F N off ne hnd
    rw [at_flat0] at N
    k_steps
    rename Fr _ _ _ _ => F9
    rename News _ _ _ _ => N9
    unfold Wait
    have D2 : Led _ _ _ _ (S.at tl [] n (posZ Z i) tp n' ++ [_, _, _, _, _, _, _, _, _, _, _]) := Led.comm (P := [_, _, _, _, _, _, _, _, _, _, _]) D1
    (try clear D1)
    refine wp_q ?_; intro qc4 hqc4
    k_dflt (refine' tok_S hS hi tl n tp n' B9 X9 T9 ?sK4 D2 ?sd4 ?su4 ?_)
    case sK4 => rfl
    case sd4 => k_room
    case su4 => k_room
    rintro r9 made h' tk' ⟨⟨tr, rfl⟩, tl2, tp2, rfl⟩ D'
    have D1 := Led.comm D'
    (repeat (rename News _ _ _ _ => hx9; clear hx9)); (repeat (rename Fr _ _ _ _ => hx9; clear hx9)); (repeat (rename IsRange _ _ _ _ _ _ _ _ => hx9; clear hx9))
    have F' := D1.fr
    have N' := D1.nw
    (try clear N9); (try clear F9); (try clear D2); (try clear D')
    refine hqc4 _ _ ?_; clear hqc4 qc4
    k_steps
    exact hT3 _ _ (CompEnd.led D1 trivial ⟨tl2, n, tp2, n', rfl, range_snoc hys rfl, Led.nd3 D1⟩)
  (try clear hAp); (try clear hr); (try clear N9); (try clear F9)
  rintro vs news ⟨tl, n, tp, n', rfl, hvs, hnd⟩
  unfold FinE
  intro wl h' tk' F' N' o1'
  have hAp := Apart.mk (Led.fin F' N' o1' hnd).nd
  (try clear o1'); (try clear hnd)
  have wok := range_strs hvs
  have hwl := wok.1
  k_steps
  rename Fr _ _ _ _ => F9
  rename News _ _ _ _ => N9
  have D1 := Led.of F9 N9 hAp.nd
  have D2 : Led _ _ _ _ (S.at _ [] _ _ _ _ ++ [_, _, _, _, _, _, _, _, _]) := Led.comm (P := [_, _, _, _, _, _, _, _, _]) D1
  (try clear hAp); (try clear N9); (try clear F9); (try clear D1)
  refine for_list (l := wl) (q := vs) rfl D2 (.head _) (fun i m X => ∃ tl n tp n', X = S.at tl (vs.take i) n (posZ Z 10) tp n' ∧ m (Str.ofString "at") = some (.ref S.la) ∧ m (Str.ofString "text") = some (.str (textZ Z) tj)) ⟨tl, n, tp, n', rfl, rfl, rfl⟩ ?step4 ?fin4
  case step4 =>
    (try clear D2)
    rintro i v m₁ X₁ h tk I o qT4 hT4 hiv ⟨tl, n, tp, n', rfl, hm1, hm2⟩ D1
    have D2 := Led.comm D1
    (repeat (rename News _ _ _ _ => hx9; clear hx9)); (repeat (rename Fr _ _ _ _ => hx9; clear hx9)); (repeat (rename IsRange _ _ _ _ _ _ _ _ => hx9; clear hx9))
    have F' := D2.fr
    have N' := D2.nw
    rw [mp2 hm1 hm2] at F'
    rw [at_flat0] at N'
    simp only [List.cons_append, List.nil_append] at N'
    (try clear D2)
    k_steps
    rename Fr _ _ _ _ => F9
    rename News _ _ _ _ => N9
    have hvl : (vs.take i).length ≤ 100 := by rw [List.length_take, hwl]; omega
    have D3 := Led.of F9 D1.nw D1.nd
    unfold Wait
    refine wp_q ?_; intro qc5 hqc5
    k_dflt (refine' push_S hS v tl (vs.take i) n (posZ Z 10) tp n' hvl B9 X9 T9 ?sK5 D3 ?sd5 ?su5 ?_)
    case sK5 => rfl
    case sd5 => k_room
    case su5 => k_room
    rintro r9 made h' tk' ⟨rfl, rfl⟩ D'
    (repeat (rename News _ _ _ _ => hx9; clear hx9)); (repeat (rename Fr _ _ _ _ => hx9; clear hx9)); (repeat (rename IsRange _ _ _ _ _ _ _ _ => hx9; clear hx9))
    have F' := D'.fr
    have N' := D'.nw
    (try clear D3); (try clear N9); (try clear F9); (try clear D1)
    refine hqc5 _ _ ?_; clear hqc5 qc5
    k_steps
    rename Fr _ _ _ _ => F9
    have e1 : vs.take (i + 1) = vs.take i ++ [v] := by rw [List.take_add_one, hiv]; rfl
    exact hT4 _ _ (Turn.next (X₂ := S.at tl (vs.take i ++ [v]) (n + 1) (posZ Z 10) tp n') ⟨tl, n + 1, tp, n', by rw [e1], rfl, rfl⟩ (Led.of F9 D'.nw D'.nd))
  (try clear D2)
  (intro h' tk' m' X' hp9; refine hide fun P9 hP9 => ?_; obtain ⟨tl, n, tp, n', rfl, hm1, hm2⟩ := hp9; refine hP9 ?_; clear hP9 P9; intro D1)
  rw [List.take_length] at D1
  have D2 := Led.comm D1
  (repeat (rename News _ _ _ _ => hx9; clear hx9)); (repeat (rename Fr _ _ _ _ => hx9; clear hx9)); (repeat (rename IsRange _ _ _ _ _ _ _ _ => hx9; clear hx9))
  have F' := D2.fr
  have N' := D2.nw
  have hAp := Apart.mk D2.nd
  rw [mp2 hm1 hm2] at F'
  simp only [List.cons_append, List.nil_append] at N' hAp
  (try clear D2); (try clear D1)
  k_steps
  rename Fr _ _ _ _ => F9
  rename News _ _ _ _ => N9
  rename IsRange _ _ _ _ _ _ _ _ => hr
  unfold Wait
  refine CompSrc.range (n := 10) rfl F9 N9 hr (by decide) (by decide) (by rw [sizeLine_eq]; omega) ?_
  intro g9
  refine comp_ind (fun i ys news => ∃ tl n tp n', news = _ :: _ :: _ :: _ :: _ :: _ :: _ :: _ :: _ :: S.at tl (vs.drop i) n (posZ Z 10) tp n' ∧ PyProof.Rows.StrsAre ys ((List.range i).map (dW Z)) ∧ (news.map (·.1)).Nodup) ⟨tl, n, tp, n', rfl, .nil, hAp.nd⟩ ?fin6 ?step6
  case step6 =>
    (try clear hAp); (try clear hr); (try clear N9); (try clear F9)
    rintro i ys news x I oI C oC D m₂ h tk E' qT5 hT5 hi ⟨tl, n, tp, n', rfl, hys, hnd⟩ ⟨ti, rfl⟩ hC hx F N off ne
    have D1 := Led.comp F N off ne hnd
    obtain ⟨t2, hvi⟩ := wok.2 i hi
    have hlt : i < vs.length := by rw [hwl]; exact hi
    have hdr : vs.drop i = .str (dW Z i) t2 :: vs.drop (i + 1) := by
      rw [List.drop_eq_getElem_cons hlt]
      congr 1
      exact Option.some.inj ((List.getElem?_eq_getElem hlt).symm.trans hvi)
    have hdl : (vs.drop (i + 1)).length ≤ 100 := by rw [List.length_drop, hwl]; omega
    rw [hdr] at D1
    rw [at_flat0] at N
    k_steps
    rename Fr _ _ _ _ => F9
    rename News _ _ _ _ => N9
    unfold Wait
    have D2 : Led _ _ _ _ (S.at _ _ _ _ _ _ ++ [_, _, _, _, _, _, _, _, _, _, _, _]) := Led.comm (P := [_, _, _, _, _, _, _, _, _, _, _, _]) D1
    (try clear D1)
    refine wp_q ?_; intro qc6 hqc6
    k_dflt (refine' pop_S hS _ tl (vs.drop (i + 1)) n (posZ Z 10) tp n' hdl B9 X9 T9 ?sK6 D2 ?sd6 ?su6 ?_)
    case sK6 => rfl
    case sd6 => k_room
    case su6 => k_room
    rintro r9 made h' tk' ⟨rfl, rfl⟩ D'
    have D1 := Led.comm D'
    (repeat (rename News _ _ _ _ => hx9; clear hx9)); (repeat (rename Fr _ _ _ _ => hx9; clear hx9)); (repeat (rename IsRange _ _ _ _ _ _ _ _ => hx9; clear hx9))
    have F' := D1.fr
    have N' := D1.nw
    (try clear N9); (try clear F9); (try clear D2); (try clear D')
    refine hqc6 _ _ ?_; clear hqc6 qc6
    k_steps
    exact hT5 _ _ (CompEnd.led D1 trivial ⟨tl, n + 1, tp, n', rfl, range_snoc hys rfl, Led.nd3 D1⟩)
  (try clear hAp); (try clear hr); (try clear N9); (try clear F9)
  rintro us news ⟨tl, n, tp, n', rfl, hus, hnd⟩
  unfold FinA
  intro al h' tk' F' N' o1'
  have hAp := Apart.mk (Led.fin F' N' o1' hnd).nd
  (try clear o1'); (try clear hnd)
  have aok := range_strs hus
  have hal := aok.1
  have hd0 : vs.drop 10 = [] := List.drop_eq_nil_of_le (by rw [hwl]; exact Nat.le_refl _)
  rw [hd0] at N' hAp
  k_steps
  rename Fr _ _ _ _ => F9
  rename News _ _ _ _ => N9
  unfold Wait
  refine ne_strs (ys := (List.range 10).map (dW Z)) ⟨_, (N9 (wl, _) (by k_mem)).1, rfl, _, rfl⟩ ⟨_, (N9 (dl, _) (by k_mem)).1, rfl, _, rfl⟩ hvs hds (by ke_room) ?_
  k_steps
  unfold Wait
  refine ne_strs (ys := (List.range 10).map (dW Z)) ⟨_, (N9 (al, _) (by k_mem)).1, rfl, _, rfl⟩ ⟨_, (N9 (dl, _) (by k_mem)).1, rfl, _, rfl⟩ hus hds (by ke_room) ?_
  have D1 := Led.of F9 N9 hAp.nd
  rw [at_flat0] at N9
  k_steps
  unfold Wait
  have D2 : Led _ _ _ _ (S.at _ _ _ _ _ _ ++ [_, _, _, _, _, _, _, _, _, _]) := Led.comm (P := [_, _, _, _, _, _, _, _, _, _]) D1
  (try clear hAp); (try clear N9); (try clear F9); (try clear D1)
  refine wp_q ?_; intro qc7 hqc7
  k_dflt (refine' tok_Z hS tl n tp n' B9 X9 T9 ?sK7 D2 ?sd7 ?su7 ?_)
  case sK7 => rfl
  case sd7 => k_room
  case su7 => k_room
  rintro r9 made h' tk' ⟨⟨tr, rfl⟩, tl2, tp2, rfl⟩ D'
  obtain ⟨c98a, c98b, D1⟩ := at_out hS D'
  (repeat (rename News _ _ _ _ => hx9; clear hx9)); (repeat (rename Fr _ _ _ _ => hx9; clear hx9)); (repeat (rename IsRange _ _ _ _ _ _ _ _ => hx9; clear hx9))
  have F' := D1.fr
  have N' := D1.nw
  have hAp := Apart.mk D1.nd
  (try clear D'); (try clear D2); (try clear D1)
  refine hqc7 _ _ ?_; clear hqc7 qc7
  k_steps
  rename Fr _ _ _ _ => F9
  rename News _ _ _ _ => N9
  unfold Wait
  refine tuple_ne_all (N9 _ (.tail _ (.head _))).1 (N9 _ (.head _)).1 rfl (by ke_room) (fun j h1 h2 => ?_) ?_
  · have hj : j = 0 ∨ j = 1 ∨ j = 2 := by have : j < 3 := h1; omega
    rcases hj with rfl | rfl | rfl
    · exact eqW_str _ _ _
    · exact eqW_int _ _ _
    · show EqW _ _ _ _ (.int ((lnAt (textZ Z) (textZ Z).length : Nat) : Int) _) (.int (1 + Txt.count (textZ Z) (Str.ofString "\n")) _)
      rw [ln_last]
      exact eqW_int _ _ _
  have D1 := Led.of F9 (News.sub N9 fun p hp => .tail _ (.tail _ hp)) hAp.nd
  have D2 := Led.sub D1 (.cons _ (.cons _ (.cons_cons _ (.cons _ (.cons _ (.refl _))))))
  (try clear hAp); (try clear N9); (try clear D1)
  have N9 := D2.nw
  k_steps
  unfold Wait
  have D3 : Led _ _ _ _ ([(dl, _)] ++ ([(98, _), (wl, _)] ++ _)) := Led.swap (P := [(98, _), (wl, _)]) (S := [(dl, _)]) (R := (nl, _) :: _) D2
  (try clear D2)
  have wn : ∀ i, i < 10 → dW Z i ∈ names5 := fun i _ => dW_mem Z i
  refine wp_q ?_; intro qc8 hqc8
  k_dflt (refine' places_con w dl ds _ (dW Z) dok wn B9 X9 T9 ?sK8 D3 ?sd8 ?su8 ?_)
  case sK8 => rfl
  case sd8 => k_room
  case su8 => k_room
  rintro r9 made h' tk' ⟨pd, po, rfl, plo, pok, rfl⟩ D'
  (repeat (rename News _ _ _ _ => hx9; clear hx9)); (repeat (rename Fr _ _ _ _ => hx9; clear hx9)); (repeat (rename IsRange _ _ _ _ _ _ _ _ => hx9; clear hx9))
  have F' := D'.fr
  have N' := D'.nw
  (try clear N9); (try clear F9); (try clear D3)
  refine hqc8 _ _ ?_; clear hqc8 qc8
  k_steps
  rename Fr _ _ _ _ => F9
  rename News _ _ _ _ => N9
  unfold Wait
  have D3 : Led _ _ _ _ ([(98, _), (wl, _), (nl, _)] ++ ([(pd, _), (dl, _)] ++ [_, _, _, _, _, _])) := Led.swap (P := [(pd, _), (dl, _)]) (S := [(98, _), (wl, _), (nl, _)]) (R := [_, _, _, _, _, _]) (Led.of F9 N9 D'.nd)
  (try clear N9); (try clear F9); (try clear D')
  refine wp_q ?_; intro qc9 hqc9
  k_dflt (refine' lines_con w (dW Z) Z c98a c98b wl nl vs ns _ _ wok zok wn B9 X9 T9 ?sK9 D3 ?sd9 ?su9 ?_)
  case sK9 => rfl
  case sd9 => k_room
  case su9 => k_room
  rintro r9 made h' tk' ⟨ld, od, Ls, qv, cap, q, rfl, rfl, lok, G⟩ D'
  have D1 : Led _ _ _ _ (_ :: _ :: _ :: _ :: ([_, _, _, _, _, _] ++ ((98, _) :: lns w Ls qv cap))) := lines_out D'
  (repeat (rename News _ _ _ _ => hx9; clear hx9)); (repeat (rename Fr _ _ _ _ => hx9; clear hx9)); (repeat (rename IsRange _ _ _ _ _ _ _ _ => hx9; clear hx9))
  have F' := D1.fr
  have N' := D1.nw
  have hAp := Apart.mk D1.nd
  simp only [List.cons_append, List.nil_append] at N' hAp
  (try clear D3); (try clear D'); (try clear D1)
  refine hqc9 _ _ ?_; clear hqc9 qc9
  k_steps
  rename Fr _ _ _ _ => F9
  rename News _ _ _ _ => N9
  have hodk := lok.dict
  have hlk : (lkv Ls).length ≤ 1000 := by have := lok.names.len; simp only [lkv, List.length_map] at this ⊢; omega
  have Z9 := Led.of F9 N9 hAp.nd
  refine ⟨ld, od, lkv Ls, [], _, DInv w (dW Z) Z Ls, rfl, rfl, lok.low, hodk, .head _, hlk, Top.nolimit T9, Z9, ⟨[], rfl, rfl, rfl, fun R hR => nomatch hR⟩, fun _ _ _ h => h.le, ?step7, ?fin7⟩
  case step7 =>
    rintro i k' u t ks X₁ h tk I oI C oC D oD m₂ E' qT6 hT6 hkv ⟨Rs, rfl, rfl, hRn, hRok⟩ hC hx D1
    obtain ⟨K, hKi, hKe⟩ : ∃ K, Ls[i]? = some K ∧ k' = K.name := by
      rw [lkv, List.getElem?_map] at hkv
      obtain ⟨K, h1, h2⟩ := Option.map_eq_some_iff.mp hkv
      exact ⟨K, h1, by cases h2; rfl⟩
    subst hKe
    have hK : K ∈ Ls := List.mem_of_getElem? hKi
    obtain ⟨j, hj, hKj⟩ := (lok.names.mem K.name).mp (List.mem_map.mpr ⟨K, hK, rfl⟩)
    have hlj : K.name.length ≤ 100 := by rw [← hKj]; exact Nat.le_trans (nm_len (wn j hj)) (by decide)
    have D2 := D1.perm ((((List.perm_append_comm).cons _).cons _).cons _)
    (repeat (rename News _ _ _ _ => hx9; clear hx9)); (repeat (rename Fr _ _ _ _ => hx9; clear hx9)); (repeat (rename IsRange _ _ _ _ _ _ _ _ => hx9; clear hx9))
    have F' := D2.fr
    have N' := D2.nw
    simp only [List.cons_append] at N'
    (try clear D1); (try clear Z9); (try clear hAp); (try clear N9); (try clear F9)
    k_steps
    rename Fr _ _ _ _ => F9
    rename News _ _ _ _ => N9
    unfold Wait
    have D3 : Led _ _ _ _ ([(wl, _), (nl, _)] ++ ([(I, _), (C, _), (D, _), (ld, _)] ++ _)) := Led.swap (P := [(I, _), (C, _), (D, _), (ld, _)]) (S := [(wl, _), (nl, _)]) (R := (pd, _) :: _) D2
    (try clear D2)
    k_dflt (refine' ledger_con w (dW Z) Z wl nl vs ns _ _ K.name t wok zok wn hlj B9 X9 T9 ?sKa D3 ?sda ?sua ?_)
    case sKa => rfl
    case sda => k_room
    case sua => k_room
    rintro r9 made h' tk' ⟨e, tz, cd, oc, kvc, rfl, rfl, clo, hoc, hcv⟩ D'
    (try clear D3)
    exact hT6 _ _ _ (⟨_, _, _, K.name, t, rfl, rfl, by rw [rws_snoc]; exact D'.perm (perm_row (T := (pd, po) :: _ :: _ :: _ :: _ :: _ :: _ :: _ :: lns w Ls qv cap) (X := rws (dW Z) Z Rs)).symm, DInv.more hKi lok.names.nd hRn hRok (R := ⟨K.name, e, cd, oc, tz, kvc⟩) rfl ⟨clo, hoc, hcv⟩⟩)
  (try clear Z9); (try clear hAp); (try clear N9); (try clear F9)
  rintro gd og ks X' h tk ⟨Rs, rfl, rfl, hRn, hRok⟩ hog glo D1
  have hlkl : (lkv Ls).length = (nms Ls).length := by simp [lkv, nms]
  rw [hlkl, List.take_length] at hRn
  have D2 := D1.perm ((List.perm_append_comm).cons _)
  (repeat (rename News _ _ _ _ => hx9; clear hx9)); (repeat (rename Fr _ _ _ _ => hx9; clear hx9)); (repeat (rename IsRange _ _ _ _ _ _ _ _ => hx9; clear hx9))
  have F' := D2.fr
  have N' := D2.nw
  have hAp := Apart.mk D2.nd
  simp only [List.cons_append] at N' hAp
  (try clear D2); (try clear D1)
  refine fr3 (a := Str.ofString "lines") (b := Str.ofString "places") (c := Str.ofString "ledgers") (u := .ref ld) (v := .ref pd) (x := .ref gd) F' rfl rfl rfl ?_
  intro m9 hm1 hm2 hm3 F9
  (try clear F')
  (try clear hds); (try clear hus); (try clear dok); (try clear aok)
  rw [mp3 hm1 hm2 hm3] at F9
  have lodk := lok.dict
  have lolo := lok.low
  have hlk : (lkv Ls).length ≤ 1000 := by have := lok.names.len; simp only [lkv, List.length_map] at this ⊢; omega
  k_steps
  rename Fr _ _ _ _ => F9
  rename News _ _ _ _ => N9
  rename IsRange _ _ _ _ _ _ _ _ => hr
  have hr2 : IsRange _ _ 0 (((lkv Ls).length + 1 : Nat) : Int) 1 _ _ _ := hr
  have D1 := Led.of F9 N9 (nd_new (by tb_rel) hAp.nd)
  have D2 : Led _ _ _ _ ((_ :: _ :: _ :: ([] ++ lns w Ls qv cap)) ++ (_ :: _ :: _ :: _ :: _ :: _ :: _ :: _ :: _ :: (98, _) :: rws (dW Z) Z Rs)) := D1.perm pl00
  (try clear hAp); (try clear hr); (try clear N9); (try clear F9); (try clear D1)
  refine for_range (k := (lkv Ls).length + 1) rfl hr2 (by omega) D2
    (fun i m X => MInv w (dW Z) q od Ls (s1.heap.objs.size + 1 + 1 + 1 + 1 + 1 + 1) (s1.heap.objs.size + 1 + 1 + 1 + 1 + 1) ld pd gd i m X)
    ⟨_, [], 0, _, _, [], qv, cap, rfl, ⟨?v5, ?z5⟩, ⟨?v6, ?z6⟩, RdOk.zero, lok, rfl, rfl, rfl, rfl⟩ ?step8 ?fin8
  case z5 => assumption
  case z6 => assumption
  case step8 =>
    (try clear D2)
    rintro i ti m₁ X₁ h tk I oI qT7 hT7 hi ⟨rl, rvs, rn, o5, o6, T, qv, cap, rfl, ⟨_, c5⟩, ⟨_, c6⟩, hrd, lok, hm1, hm2, hm3, hm4⟩ D₁
    have Gk := good_at G i
    have D2 : Led _ s1.heap.objs.size _ _ _ := D₁.perm (pl0 (P := []))
    (repeat (rename News _ _ _ _ => hx9; clear hx9)); (repeat (rename Fr _ _ _ _ => hx9; clear hx9)); (repeat (rename IsRange _ _ _ _ _ _ _ _ => hx9; clear hx9))
    have F' := D2.fr
    rw [mp4 hm1 hm2 hm3 hm4] at F'
    have N' := D2.nw
    have D2r := Led.of F' N' D2.nd
    clear D₁ D2
    k_steps
    unfold Wait
    have D3 := D2r.perm (pl1 (P := []))
    (try clear D2r)
    refine wp_q ?_; intro qc10 hqc10
    k_dflt (refine' led_con w (dW Z) od po ld pd wl vs _ Ls qv cap (qAt (dW Z) q i) lok pok wok wn Gk B9 X9 T9 ?sKb D3 ?sdb ?sub ?_)
    case sKb => rfl
    case sdb => k_room
    case sub => k_room
    rintro r9 made h' tk' ⟨t5, lvs, ln, rfl, hlv, rfl⟩ D'
    have D4 := D'.perm (pl2 (P := []))
    (try clear N'); (try clear F'); (try clear D3); (try clear D')
    (repeat (rename News _ _ _ _ => hx9; clear hx9)); (repeat (rename Fr _ _ _ _ => hx9; clear hx9)); (repeat (rename IsRange _ _ _ _ _ _ _ _ => hx9; clear hx9))
    have F' := D4.fr
    have N' := D4.nw
    have hAp := Apart.mk D4.nd
    simp only [List.cons_append, List.nil_append] at N' hAp
    (try clear D4)
    refine hqc10 _ _ ?_; clear hqc10 qc10
    k_steps
    rename Fr _ _ _ _ => F9
    rename News _ _ _ _ => N9
    unfold Wait
    have D5 := Led.of F9 N9 hAp.nd
    refine If_noQ D5 ?test9 ?cont9
    case test9 =>
      intro q9 hq9
      rcases Nat.eq_zero_or_pos i with rfl | hpos
      · k_steps
        exact hq9 _ _ _ rfl D5
      · obtain ⟨j, rfl⟩ : ∃ j, i = j + 1 := ⟨i - 1, by omega⟩
        obtain ⟨pre, t, tvs, tn, T', rfl, hpl, rfl, htv⟩ := hrd.prev
        have hlast := last_at pre (.ref t)
        have hrl : (pre ++ [Value.ref t]).length = j + 1 := by rw [List.length_append, hpl]; rfl
        have htl2 : tvs.length ≤ 10 := by rw [htv.len]; exact told_le G j
        simp only [List.cons_append] at N9
        k_steps
        rename Fr _ _ _ _ => F9
        rename News _ _ _ _ => N9
        unfold Wait
        refine LCt.CompSrcT.ledger (its := tvs.toArray) (k := tn) rfl F9 N9 (by k_mem) (by rw [List.size_toArray, sizeLine_eq]; omega) ?_
        intro g9
        refine comp_indT (fun i ys news => ys = [] ∧ news = _) ⟨rfl, rfl⟩ ?fina ?stepa
        case stepa =>
          rintro i2 ys news x I2 oI2 C oC D m₂ h tk E' qT8 qF8 hT8 hF8 hi2 ⟨rfl, rfl⟩ hiv hC hx F N off ne
          have hiv : tvs[i2]? = some x := by simpa using hiv
          obtain ⟨p, tp, hp, rfl⟩ := told_at htv hiv
          have hpm := List.mem_of_getElem? hp
          have hp10 := (round_nd (good_at G j)).2 p hpm
          obtain ⟨twp, hwp⟩ := wok.2 p hp10
          have hwpi : vs[((p : Nat) : Int).toNat]? = some (.str (dW Z p) twp) := hwp
          have hin : dW Z p ∈ ledN (dW Z) (qAt (dW Z) q (j + 1)) (nms Ls) 4 := told_led G lok.names j p hpm
          (try clear N9); (try clear F9)
          k_steps
          rename Fr _ _ _ _ => F9
          rename News _ _ _ _ => N9
          exact hF8 _ (CompEnd.intro F9 N9 _ (fun p hp => hp) off (.inr ⟨_, by k_mem, rfl, _, rfl⟩) ⟨rfl, rfl⟩)
        rintro ys news ⟨rfl, rfl⟩
        unfold FinE
        intro D h tk F' N' o1'
        (try clear N9); (try clear F9)
        k_steps
        rename Fr _ _ _ _ => F9
        rename News _ _ _ _ => N9
        unfold Wait
        refine ne_same (ns := []) ⟨_, (N9 _ (.tail _ (.head _))).1, rfl, _, rfl⟩ .nil ⟨_, (N9 _ (.head _)).1, rfl, _, rfl⟩ .nil (by ke_room) ?_
        k_steps
        exact hq9 _ _ _ rfl (Led.of F9 (News.sub N9 fun p hp => .tail _ (.tail _ hp)) D5.nd)
    intro h' tk' D6
    (try clear hAp); (try clear N9); (try clear F9); (try clear D5)
    refine fr4 (a := Str.ofString "lines") (b := Str.ofString "places") (c := Str.ofString "ledgers") (d := Str.ofString "rounds") (u := .ref ld) (v := .ref pd) (x := .ref gd) (y := .ref rl) D6 rfl rfl rfl rfl ?_
    (try clear hm4); (try clear hm3); (try clear hm2); (try clear hm1); (try clear D6)
    intro m2 hm1 hm2 hm3 hm4 D6
    rw [mp4 hm1 hm2 hm3 hm4] at D6
    (repeat (rename News _ _ _ _ => hx9; clear hx9)); (repeat (rename Fr _ _ _ _ => hx9; clear hx9)); (repeat (rename IsRange _ _ _ _ _ _ _ _ => hx9; clear hx9))
    have F' := D6.fr
    have N' := D6.nw
    k_steps
    unfold Wait
    have D3 := D6.perm (pl1 (P := [(t5, _)]))
    (try clear D6)
    refine wp_q ?_; intro qc11 hqc11
    k_dflt (refine' round_con w (dW Z) od po ld pd wl vs _ Ls qv cap (qAt (dW Z) q i) lok pok plo wok wn Gk B9 X9 T9 ?sKc D3 ?sdc ?suc ?_)
    case sKc => rfl
    case sdc => k_room
    case suc => k_room
    rintro r9 made h' tk' ⟨t6, tvs, tn, qv, cap, rfl, htv, rfl, lok2⟩ D'
    have D4 := D'.perm (pl2 (P := [(t5, _)]))
    (try clear N'); (try clear F'); (try clear D3); (try clear D')
    (repeat (rename News _ _ _ _ => hx9; clear hx9)); (repeat (rename Fr _ _ _ _ => hx9; clear hx9)); (repeat (rename IsRange _ _ _ _ _ _ _ _ => hx9; clear hx9))
    have F' := D4.fr
    have N' := D4.nw
    have hAp := Apart.mk D4.nd
    simp only [List.cons_append, List.nil_append] at N' hAp
    (try clear D4)
    have hnd := round_nd Gk
    have htle := told_le G i
    have htl6 : tvs.length ≤ 10 := by rw [htv.len]; exact htle
    refine hqc11 _ _ ?_; clear hqc11 qc11
    k_steps
    rename Fr _ _ _ _ => F9
    rename News _ _ _ _ => N9
    unfold Wait
    have D5 := Led.of F9 N9 hAp.nd
    refine If_noQ D5 ?test10 ?cont10
    case test10 =>
      intro q10 hq10
      k_steps
      unfold Wait
      refine sorted_told F9 N9 (by k_mem) htv hnd.1 hnd.2 htle ?_
      intro sl svs sn h' F' N' l1 hsv
      k_steps
      rename IsRange _ _ _ _ _ _ _ _ => hr
      rename Fr _ _ _ _ => F9
      rename News _ _ _ _ => N9
      unfold Wait
      refine LCt.CompSrcT.range (n := 10) rfl F9 N9 hr (by decide) (by decide) (by rw [sizeLine_eq]; omega) ?_
      intro g9
      refine comp_indT (fun i2 ys news => news = _ ∧ TVals ys ((List.range i2).filter fun p => decide (p ∈ (round (dW Z) (qAt (dW Z) q i)).2))) ⟨rfl, [], rfl, rfl⟩ ?finb ?stepb
      case stepb =>
        rintro i2 ys news x I2 oI2 C oC D m₂ h tk E' qT9 qF9 hT9 hF9 hi2 ⟨rfl, hys⟩ ⟨t2, rfl⟩ hC hx F N off ne
        rw [Int.zero_add] at hx
        (try clear hr); (try clear N9); (try clear F9)
        k_steps
        all_goals (rename Fr _ _ _ _ => F9; rename News _ _ _ _ => N9)
        · exact hT9 _ _ (CompEnd.intro F9 N9 _ (fun p hp => hp) off trivial ⟨rfl, filt_yes hys (by first | with_reducible assumption | exact decide_eq_true (by with_reducible assumption))⟩)
        · exact hF9 _ (CompEnd.intro F9 N9 _ (fun p hp => hp) off trivial ⟨rfl, filt_no hys (by first | with_reducible assumption | exact decide_eq_false (by with_reducible assumption))⟩)
      rintro ys news ⟨rfl, hys⟩
      unfold FinE
      intro D h tk F' N' o1'
      (try clear hr); (try clear N9); (try clear F9)
      k_steps
      rename Fr _ _ _ _ => F9
      rename News _ _ _ _ => N9
      unfold Wait
      refine ne_same ⟨_, (N9 _ (.tail _ (.head _))).1, rfl, _, rfl⟩ hsv ⟨_, (N9 _ (.head _)).1, rfl, _, rfl⟩ hys.intsL (by ke_room) ?_
      k_steps
      exact hq10 _ _ _ rfl (Led.of F9 (News.sub N9 fun p hp => .tail _ (.tail _ hp)) D5.nd)
    intro h' tk' D6
    (try clear hAp); (try clear N9); (try clear F9); (try clear D5)
    (repeat (rename News _ _ _ _ => hx9; clear hx9)); (repeat (rename Fr _ _ _ _ => hx9; clear hx9)); (repeat (rename IsRange _ _ _ _ _ _ _ _ => hx9; clear hx9))
    have F' := D6.fr
    have N' := D6.nw
    have hfull := led_full G lok.names i
    have hlvl : lvs.length ≤ 5 := by rw [rows_len hlv]; exact led_le5 Gk lok.names
    have htl7 := htv.len
    k_steps
    unfold Wait
    refine If_noQ D6 ?test11 ?cont11
    case test11 =>
      intro q11 hq11
      k_steps
      exact hq11 _ _ _ (full_test (by rw [htl7, rows_len hlv, show (lkv Ls).length = (nms Ls).length by simp [lkv, nms]]; exact hfull)) D6
    intro h' tk' D5
    (try clear N'); (try clear F'); (try clear D6)
    (repeat (rename News _ _ _ _ => hx9; clear hx9)); (repeat (rename Fr _ _ _ _ => hx9; clear hx9)); (repeat (rename IsRange _ _ _ _ _ _ _ _ => hx9; clear hx9))
    have F' := D5.fr
    have N' := D5.nw
    k_steps
    rename Fr _ _ _ _ => F9
    rename News _ _ _ _ => N9
    have D7 : Led _ _ _ _ ([] ++ _) := Led.of F9 N9 D5.nd
    (try clear N9); (try clear F9); (try clear D5)
    refine for_list (l := t5) (q := lvs) rfl D7 (.tail _ (.head _)) (fun i m X => X = [] ∧ m (Str.ofString "lines") = some (.ref ld) ∧ m (Str.ofString "places") = some (.ref pd) ∧ m (Str.ofString "ledgers") = some (.ref gd) ∧ m (Str.ofString "rounds") = some (.ref rl)) ⟨rfl, rfl, rfl, rfl, rfl⟩ ?step12 ?fin12
    case step12 =>
      (try clear hm4); (try clear hm3); (try clear hm2); (try clear hm1); (try clear D7)
      rintro i2 v m₁ X₁ h tk I2 o2 qT10 hT10 hiv ⟨rfl, hm1, hm2, hm3, hm4⟩ D1
      obtain ⟨nm, tv, hnm, rfl⟩ := rows_of hlv hiv
      have hmem : nm ∈ ledAt (dW Z) q (nms Ls) i := List.mem_of_getElem? hnm
      have hperm := led_told G lok.names i hmem
      have hnms : nm ∈ nms Ls := (ledN_ok Gk lok.names 4).sub hmem
      obtain ⟨jn, hjn, hjw⟩ := (lok.names.mem nm).mp hnms
      have hnml : nm.length ≤ 100 := by rw [← hjw]; exact Nat.le_trans (nm_len (wn jn hjn)) (by decide)
      obtain ⟨R, hR, hRe⟩ : ∃ R ∈ Rs, R.name = nm := by
        rw [← show List.map (fun x => x.name) Rs = nms Ls from hRn] at hnms
        obtain ⟨R, hR, e⟩ := List.mem_map.mp hnms
        exact ⟨R, hR, e⟩
      subst hRe
      have hRnd : (Rs.map (·.name)).Nodup := by rw [show List.map (fun x => x.name) Rs = nms Ls from hRn]; exact lok.names.nd
      have hrk : valueAt (rkv Rs) R.name = some (.ref R.e) := rkv_at hR hRnd
      have hRo := hRok R hR
      (repeat (rename News _ _ _ _ => hx9; clear hx9)); (repeat (rename Fr _ _ _ _ => hx9; clear hx9)); (repeat (rename IsRange _ _ _ _ _ _ _ _ => hx9; clear hx9))
      have F' := D1.fr
      rw [mp4 hm1 hm2 hm3 hm4] at F'
      have D2 : Led _ s1.heap.objs.size _ _ _ := Led.of F' D1.nw D1.nd
      have N' := D2.nw
      (try clear D1)
      simp only [List.nil_append] at N'
      k_steps
      unfold Wait
      have D3 := D2.perm (pe1 (P := [(t5, _)]))
      (try clear D2)
      refine wp_q ?_; intro qc12 hqc12
      k_dflt (refine' entry_con w (dW Z) Z t6 wl nl tvs vs ns _ _ _ _ R.name tv htv hnd.2 wok zok wn hnml B9 X9 T9 ?sKd D3 ?sdd ?sud ?_)
      case sKd => rfl
      case sdd => k_room
      case sud => k_room
      rintro r9 made h' tk' ⟨e, tz, cd, oc, kvc, rfl, rfl, clo, hoc, hcv⟩ D'
      have D4 := D'.perm (pe2 (P := [(t5, _)]))
      rw [entryZ_row, rowZ_perm hperm] at D4
      rw [entryC_own] at hcv
      (try clear N'); (try clear F'); (try clear D3); (try clear D')
      (repeat (rename News _ _ _ _ => hx9; clear hx9)); (repeat (rename Fr _ _ _ _ => hx9; clear hx9)); (repeat (rename IsRange _ _ _ _ _ _ _ _ => hx9; clear hx9))
      have F' := D4.fr
      have N' := D4.nw
      have hAp := Apart.mk D4.nd
      simp only [List.cons_append, List.nil_append] at N' hAp
      (try clear D4)
      have hMk : OrMark := ⟨⟩
      refine hqc12 _ _ ?_; clear hqc12 qc12
      k_steps
      rename OrMark => hMk
      (try clear hMk)
      rename Fr _ _ _ _ => F9
      rename News _ _ _ _ => N9
      unfold Wait
      have D5 := Led.of F9 N9 hAp.nd
      refine If_noQ D5 ?test13 ?cont13
      case test13 =>
        intro q13 hq13
        k_steps
        rename Fr _ _ _ _ => F9
        rename News _ _ _ _ => N9
        unfold Wait
        have hR1 := mem_rw1 (W := dW Z) (Z := Z) hR
        have hR2 := mem_rw2 (W := dW Z) (Z := Z) hR
        refine ne_row wn hperm N9 (.head _) (by repeat (first | exact List.mem_append_right _ (List.mem_append_right _ (.tail _ hR1)) | apply List.Mem.tail)) (.tail _ (.head _)) (by repeat (first | exact List.mem_append_right _ (List.mem_append_right _ (.tail _ hR2)) | apply List.Mem.tail)) hoc hRo.dict clo hRo.lo hcv hRo.cv (by ke_room) (by ke_room) ?_
        simp only [rowO] at N9
        k_steps
        unfold Wait
        have D6 : Led _ _ _ _ ([(cd, _)] ++ ([(e, _)] ++ _)) := Led.swap (P := [(e, _)]) (S := [(cd, _)]) (Led.of F9 N9 D5.nd)
        (try clear N9); (try clear F9)
        refine wp_q ?_; intro qc13 hqc13
        k_dflt (refine' count_con w cd oc kvc _ hoc hcv clo B9 X9 T9 ?sKe D6 ?sde ?sue ?_)
        case sKe => rfl
        case sde => k_room
        case sue => k_room
        rintro r9 made h' tk' ⟨⟨tr, rfl⟩, rfl⟩ D'
        have D7 := Led.swap (P := [(cd, _)]) (S := [(e, _)]) D'
        (try clear D6); (try clear D')
        (repeat (rename News _ _ _ _ => hx9; clear hx9)); (repeat (rename Fr _ _ _ _ => hx9; clear hx9)); (repeat (rename IsRange _ _ _ _ _ _ _ _ => hx9; clear hx9))
        have F' := D7.fr
        have N' := D7.nw
        simp only [List.cons_append, List.nil_append] at N'
        rw [own_sum, hperm.length_eq]
        refine hqc13 _ _ ?_; clear hqc13 qc13
        k_steps
        all_goals first | exact hq13 _ _ _ rfl D7 | exact hq13 _ _ _ (ne_nat rfl) D7 | (rename @Ne Int _ _ => hb9; exact absurd rfl hb9)
      intro h' tk' D6
      k_steps
      exact hT10 _ _ (Turn.next (X₂ := []) ⟨rfl, rfl, rfl, rfl, rfl⟩ (Led.sub D6 (.cons _ (.cons _ (.refl _)))))
    rintro h' tk' m' X' ⟨rfl, hm1, hm2, hm3, hm4⟩ D1
    (repeat (rename News _ _ _ _ => hx9; clear hx9)); (repeat (rename Fr _ _ _ _ => hx9; clear hx9)); (repeat (rename IsRange _ _ _ _ _ _ _ _ => hx9; clear hx9))
    have F' := D1.fr
    rw [mp4 hm1 hm2 hm3 hm4] at F'
    have D2 : Led _ s1.heap.objs.size _ _ _ := Led.of F' D1.nw D1.nd
    have N' := D2.nw
    have hAp := Apart.mk D2.nd
    simp only [List.nil_append] at N' hAp
    (try clear D7); (try clear D2); (try clear D1)
    have hrdl := hrd.1
    have hrl9 : rvs.length ≤ 1000 := by omega
    k_steps
    rename Fr _ _ _ _ => F9
    rename News _ _ _ _ => N9
    obtain ⟨T', hrd2, hsub⟩ := hrd.more (t := t6) (o := listOf tvs.toArray tn) ⟨tvs, tn, rfl, htv⟩
    have D8 := Led.of F9 N9 hAp.nd
    have D9 := (Led.sub D8 (sub_core (P := []) hsub)).perm (pl9 (P := []))
    refine hT7 _ _ (Turn.next ⟨rl, _, _, _, _, (t6, _) :: T', qv, cap, rfl, ⟨?va5, ?a5⟩, ⟨?va6, ?a6⟩, hrd2, lok2, rfl, rfl, rfl, rfl⟩ D9)
    case a5 => assumption
    case a6 => assumption
  (try clear D2)
  (intro h' tk' m' X' hp9; refine hide fun P9 hP9 => ?_; obtain ⟨rl, rvs, rn, o5, o6, T, qv, cap, rfl, _, _, hrd, lok, hm1, hm2, hm3, hm4⟩ := hp9; refine hP9 ?_; clear hP9 P9; intro D1)
  have hn : (lkv Ls).length = (nms Ls).length := by simp [lkv, nms]
  rw [hn] at hrd
  obtain ⟨hl10, hsame⟩ := last_two G lok.names
  have hn1 : 1 ≤ (nms Ls).length := List.length_pos_of_mem ((lok.names.mem (dW Z 0)).mpr ⟨0, by decide, rfl⟩)
  obtain ⟨k, hk⟩ : ∃ k, (nms Ls).length = k + 1 := ⟨(nms Ls).length - 1, by omega⟩
  obtain ⟨hrl, _, hr3⟩ := hrd
  obtain ⟨pre, t1, o1, T', rfl, rfl, ⟨tv1, tn1, rfl, htv1⟩, hr4, _⟩ := hr3 _ rfl
  obtain ⟨pre2, t2, o2, rfl, rfl, ⟨tv2, tn2, rfl, htv2⟩⟩ := hr4 k hk
  have e1 : toldAt (dW Z) q (nms Ls).length = toldAt (dW Z) q k := by
    have := hsame
    rw [show (List.map (fun x => x.name) Ls).length = (nms Ls).length from rfl, hk] at this
    rw [hk]
    exact this
  rw [e1] at htv1
  have hlast := last_at (pre2 ++ [.ref t2]) (.ref t1)
  have hlast2 := last_at2 pre2 (.ref t2) (.ref t1)
  have hlen1 : tv1.length = 10 := by rw [htv1.len, ← e1]; exact hl10
  have hrl2 : (pre2 ++ [Value.ref t2] ++ [Value.ref t1]).length = pre2.length + 2 := by simp
  have hrl3 : (pre2 ++ [Value.ref t2] ++ [Value.ref t1]).length ≤ 1000 := by rw [hrl]; have hnl : (nms Ls).length ≤ 5 := lok.names.len; omega
  have hlen2 : ((tv1.length : Nat) : Int) = 10 := by rw [hlen1]; rfl
  have D2 := D1.perm (pl0e (T := [(t1, _), (t2, _)]))
  (repeat (rename News _ _ _ _ => hx9; clear hx9)); (repeat (rename Fr _ _ _ _ => hx9; clear hx9)); (repeat (rename IsRange _ _ _ _ _ _ _ _ => hx9; clear hx9))
  have F' := D2.fr
  rw [mp4 hm1 hm2 hm3 hm4] at F'
  have N' := D2.nw
  (try clear D2); (try clear D1)
  simp only [List.cons_append, List.nil_append] at N'
  have hMk : OrMark := ⟨⟩
  k_steps
  unfold Wait
  rw [hlen2]
  rename OrMark => hMk
  (try clear hMk)
  k_steps
  rename Fr _ _ _ _ => F9
  rename News _ _ _ _ => N9
  unfold Wait
  refine eq_same ⟨_, (N9 (t1, _) (by k_mem)).1, rfl, _, rfl⟩ htv1.intsL ⟨_, (N9 (t2, _) (by k_mem)).1, rfl, _, rfl⟩ htv2.intsL (by ke_room) ?_
  refine hq9 _ _ ?_
  refine ⟨?_, ⟨_, (N9 (98, _) (by k_mem)).1⟩, trivial⟩
  exact law_end F9 hgens rfl)

end Mine
end

set_option maxHeartbeats 8000000 in
theorem PySem.Challenge.cw_ph0055_01_holds : PySem.Challenge.rw_ph0055_01.Holds := by
  exact Mine.main
