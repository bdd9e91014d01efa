import PyProof.Rows.All
import Wide.All
import OpenK.AllK
import Wide.FinOn
import PySem.Challenge.RW_re0075_01
set_option Elab.async false
section
open PySem PySem.W PyProof.Rows
set_option Elab.async false
set_option maxRecDepth 100000
set_option maxHeartbeats 0
namespace Mine
/-- what open_top states, told with the top's run proved in one step of the kernel: open_top's own proof of it, in pieces, makes some eleven MB of twins -/
def Tw (_ _ C : Prop) : Prop := C
theorem said : PySem.Challenge.rw_re0075_01.wellSaid = true := by kernel_rfl
theorem two {A B C : Prop} (main : C) (hl : A) (hc : B) : Tw A B C := main
def hd := (show _ → Tw _ _ PySem.Challenge.rw_re0075_01.Holds by
  intro c
  apply two
  case main =>
    w_on
    refine holds_law said fun _ => ?_
    k_head
    case hw => w_witness2
  case hc => exact c
  case hl =>
    intro w
    kernel_rfl)
end Mine
end

local macro_rules | `(tactic| k_ne) => `(tactic| (try dsimp only); with_reducible first | assumption | exact Ne.symm (by assumption) | exact Nat.ne_of_lt (by assumption) | exact Nat.ne_of_gt (by assumption))

section
theorem Mine.offLp : True := by
  w_top off
  trivial
open PySem PySem.W PyProof.Rows PySem.Spec PySem.Calls
set_option Elab.async false
set_option maxRecDepth 100000
namespace Mine
noncomputable def Stop (P : Prop) : Prop := P
theorem Stop.out {P : Prop} (h : Stop P) : P := h
theorem Stop.go {P : Prop} (h : P) : Stop P := h

noncomputable def bm : List (Str × Value) → Str → Option Value
  | [], _ => none
  | (x, v) :: r, y => if y = x then some v else bm r y
theorem bm_eq (l : List (Str × Value)) : (fun y => l.lookup y) = bm l := by
  funext y
  induction l with
  | nil => rfl
  | cons p r ih =>
    obtain ⟨x, v⟩ := p
    rw [List.lookup_cons]
    unfold bm
    by_cases h : y = x
    · simp [h]
    · rw [if_neg h, ← ih]
      have : (y == x) = false := by simpa using h
      rw [this]
/-- entering a def of the text: nothing that stands is changed, nothing is raised -/
theorem ent {w : World} {vp : Program} {vl : List Str} {mean : ExcName → Option Value} {mg mb : Str → Option Value} {A : Around} {s : Shared} {R : Result → Shared → Prop} {f : Addr} {args : Args} (binds : List (Str × Value))
    {name qual : Str} {params : Arguments} {body : List Stmt} {scope : Scope} {dV kV doc pm cdv ct oc : Value} {an od : Option Addr} {osl : Array (Option Value)}
    (X : (hd.heap_1 w.params).In s.heap) (T : Top vp vl mean mg mb s.heap)
    (ho : (hd.heap_1 w.params).lookup f = some ⟨oc, od, .func (fnOf name qual params body scope dV kV doc pm an cdv ct), osl⟩)
    (hcd : codeIn (hd.heap_1 w.params) cdv qual = true) (hroom : A.depth < recursionLimit)
    (hbind : bindArgs (fnOf name qual params body scope dV kV doc pm an cdv ct) args = pure binds) (hloc : ∀ y ∈ binds, scope.names.lookup y.1 = some .local)
    (h : ∀ h₁, Fr s.heap s.heap.objs.size h₁ (bm binds.reverse) → News s.heap s.heap.objs.size h₁ [] →
      wpAny (model PySem.Challenge.rw_re0075_01.row.toRowW.prog w) (A.deeper (envOf qual scope s.heap.objs.size f cdv)) (execs body (envOf qual scope s.heap.objs.size f cdv))
        (fun fl s' => R (.ok (.ret (match fl with | .ret v => v | _ => .none))) s') (fun _ _ => False) { s with heap := h₁, toks := s.toks + binds.length })
    (hco : scope.isCoroutine = false) (hgen : scope.isGenerator = false) (hk : scope.kind = .function)
    (hcell : ∀ x ∈ scope.names, x.2 ≠ .cell) : codeAny (model PySem.Challenge.rw_re0075_01.row.toRowW.prog w) A (.call (.ref f) args) R s := by
  refine codeAny_call_def (fd := fnOf name qual params body scope dV kV doc pm an cdv ct) (body := body) (binds := binds) hroom (X _ _ ho) rfl T.nolimit (codeRec_of X hcd) rfl (.of_eq hbind) hcell hloc (fun h₁ hns hk₁ => ?_) hco hgen hk
  exact wpAny_mono (h h₁ ⟨bm_eq binds.reverse ▸ hns, hk₁, Nat.le_refl _⟩ News.nil) (fun _ _ y => y) (fun _ _ y => y.elim)

theorem le6 {p : Nat} (h : p = 4 ∨ p = 6) : p ≤ 6 := by omega
theorem dp_le {a k m : Nat} (h : a + k < recursionLimit) (e : m + 1 ≤ k) : a + 1 + m < recursionLimit := by omega
theorem un_le {a k m : Nat} (h : a + k < cLine) (e : m + 3 ≤ k) : a + 3 + m < cLine := by omega
theorem sub_ex {n i : Nat} (h : i < n) : ∃ k, n - i = k + 1 := ⟨n - i - 1, by omega⟩
theorem sub_next {n i k : Nat} (h : n - i = k + 1) : n - (i + 1) = k := by omega
theorem st_as {M : Model} {A : Around} {Q : Flow → Shared → Prop} {E : Value → Shared → Prop} {s : Shared} {p q : Pos} {e : Expr} {r : List Stmt} {env : Env} (n : Str)
    (h : Stop (wpAny M A (execs (PySem.Stmt.Assign [PySem.Expr.Name n p] e q :: r) env) Q E s)) : wpAny M A (execs (PySem.Stmt.Assign [PySem.Expr.Name n p] e q :: r) env) Q E s := h
theorem st_any {M : Model} {A : Around} {Q : Flow → Shared → Prop} {E : Value → Shared → Prop} {s : Shared} {t : List Expr} {q : Pos} {e : Expr} {r : List Stmt} {env : Env}
    (h : Stop (wpAny M A (execs (PySem.Stmt.Assign t e q :: r) env) Q E s)) : wpAny M A (execs (PySem.Stmt.Assign t e q :: r) env) Q E s := h
theorem st_tup {M : Model} {A : Around} {Q : Flow → Shared → Prop} {E : Value → Shared → Prop} {s : Shared} {t : List Expr} {x : Nat} {p q : Pos} {e : Expr} {r : List Stmt} {env : Env}
    (h : Stop (wpAny M A (execs (PySem.Stmt.Assign [PySem.Expr.Tuple t x p] e q :: r) env) Q E s)) : wpAny M A (execs (PySem.Stmt.Assign [PySem.Expr.Tuple t x p] e q :: r) env) Q E s := h
theorem st_for {M : Model} {A : Around} {Q : Flow → Shared → Prop} {E : Value → Shared → Prop} {s : Shared} {t e : Expr} {b o : List Stmt} {q : Pos} {r : List Stmt} {env : Env}
    (h : Stop (wpAny M A (execs (PySem.Stmt.For t e b o q :: r) env) Q E s)) : wpAny M A (execs (PySem.Stmt.For t e b o q :: r) env) Q E s := h
theorem st_if {M : Model} {A : Around} {Q : Flow → Shared → Prop} {E : Value → Shared → Prop} {s : Shared} {e : Expr} {b o : List Stmt} {q : Pos} {r : List Stmt} {env : Env}
    (h : Stop (wpAny M A (execs (PySem.Stmt.If e b o q :: r) env) Q E s)) : wpAny M A (execs (PySem.Stmt.If e b o q :: r) env) Q E s := h
theorem st_ifc {M : Model} {A : Around} {Q : Flow → Shared → Prop} {E : Value → Shared → Prop} {s : Shared} {e : Expr} {c : List CmpOp} {l : List Expr} {p : Pos} {b o : List Stmt} {q : Pos} {r : List Stmt} {env : Env}
    (h : Stop (wpAny M A (execs (PySem.Stmt.If (PySem.Expr.Compare e c l p) b o q :: r) env) Q E s)) : wpAny M A (execs (PySem.Stmt.If (PySem.Expr.Compare e c l p) b o q :: r) env) Q E s := h
theorem one_is {c k : Nat} {x : Str} (h : (({ cps := #[c] } : Str) == x) = true) (e : x = ⟨#[k]⟩) : c = k := by
  have h : ({ cps := #[c] } : Str) = ⟨#[k]⟩ := (by simpa using h : ({ cps := #[c] } : Str) = x).trans e
  simpa using h
theorem one_not {c k : Nat} {x : Str} (h : (({ cps := #[c] } : Str) == x) = false) (e : x = ⟨#[k]⟩) : c ≠ k := by
  rintro rfl
  rw [e] at h
  simp at h
theorem take_step {α : Type} {xs : Array α} {i : Nat} {c : α} (h : xs[i]? = some c) : xs.toList.take (i + 1) = xs.toList.take i ++ [c] := by
  rw [List.take_add_one]
  have : xs.toList[i]? = some c := by simpa using h
  rw [this]; rfl
theorem fr_names {g h : Heap} {L : Addr} {m' m'' : Str → Option Value} (ks : List Str) (F : Fr g L h m') (hin : ∀ k ∈ ks, m' k = m'' k) (hout : ∀ y, y ∉ ks → m' y = m'' y) : Fr g L h m'' := by
  have : m' = m'' := funext fun y => if hy : y ∈ ks then hin y hy else hout y hy
  exact this ▸ F
noncomputable abbrev Kept (h h' : Heap) : Prop := ∀ b o, h.get? b = some o → h'.get? b = some o
theorem fr_kept {g h h' : Heap} {L : Addr} {m : Str → Option Value} (F : Fr g L h m) (k : Kept h h') : Fr g L h' m := ⟨F.ns.at' fun o e => k _ o e, fun b o e => k b o (F.keep b o e), F.above⟩
theorem news_kept {g h h' : Heap} {L : Addr} {news : List (Addr × Obj)} (N : News g L h news) (k : Kept h h') : News g L h' news := fun p hp => ⟨k _ _ (N p hp).1, (N p hp).2⟩
noncomputable def LoopNext (n : Nat) (I : Nat → Shared → Prop) (s : Shared) : Prop := ∃ m, m < n ∧ I m s
theorem loop_any {prog : Program} {w : World} {A : Around} {s : Shared} {R : Result → Shared → Prop} {target : Expr} {it : Value} {body orelse : List Stmt} {env : Env} (I : Nat → Shared → Prop)
    (turn : ∀ n s, I n s → wpAny (model prog w) A (pyNext it) (fun r s₁ => match r with
      | none => wpAny (model prog w) A (execs orelse env) (fun f s₃ => R (.ok f) s₃) (notedBy (model prog w) A env fun e s' => R (.error e) s') s₁
      | some v => wpAny (model prog w) A (letOwnedTupleGo target it v) (fun _ s₁' =>
          wpAny (model prog w) A (assign target env v) (fun _ s₂ => wpAny (model prog w) A (execs body env) (fun f s₃ => match f with
            | .next | .cont => LoopNext n I s₃
            | .brk => R (.ok .next) s₃
            | .ret v => R (.ok (.ret v)) s₃) (notedBy (model prog w) A env fun e s' => R (.error e) s') s₂) (notedBy (model prog w) A env fun e s' => R (.error e) s') s₁') (notedBy (model prog w) A env fun e s' => R (.error e) s') s₁) (notedBy (model prog w) A env fun e s' => R (.error e) s') s)
    (n : Nat) (h : I n s) : codeAny (model prog w) A (.forLoop target it body orelse env) R s := codeAny_forLoop_any I turn n h
/-- the end of a turn of a for -/
noncomputable def TurnEnd (g : Heap) (L : Addr) (dr : Drawn) (os : OsState) (own : List (Addr × Obj)) (J : (Str → Option Value) → List (Addr × Obj) → Array GenState → Prop) (s' : Shared) : Prop :=
  ∃ m' news' h' tk' G', s' = ⟨h', G', dr, tk', os⟩ ∧ Fr g L h' m' ∧ News g L h' (own ++ news') ∧ (∀ p ∈ news', ∀ q ∈ own, p.1 ≠ q.1) ∧ J m' news' G'

/-- a for over an iterator of one object -/
theorem for_one {w : World} {A : Around} {R : Result → Shared → Prop} {h00 : Heap} {G00 : Array GenState} {dr : Drawn} {t00 : Nat} {os : OsState} {env : Env} {x : Str} {px : Pos} {body : List Stmt} {g : Heap} {L I : Addr} {n : Nat} {P : Nat → Value → Prop} {St : Nat → Heap → Prop}
    {m₀ : Str → Option Value} {news₀ : List (Addr × Obj)} (W : Walks PySem.Challenge.rw_re0075_01.row.toRowW.prog w A I [I] [I] n P St) (hex : ∀ i h, St i h → ∃ o, h.get? I = some o) (J : Nat → (Str → Option Value) → List (Addr × Obj) → Array GenState → Prop)
    (hx : env.kindOf x = some .local) (hp : (env.scope.kind == .class || (env.scope.kind == .module && env.locals != env.globals)) = false)
    (hL : env.locals = L) (hst : St 0 h00) (F : Fr g L h00 m₀) (N : News g L h00 news₀) (hJ : J 0 m₀ news₀ G00) (hIn : g.get? I = none) (hLI : L ≠ I) (hnI : ∀ p ∈ news₀, p.1 ≠ I)
    (turn : ∀ i v m news h tk G oI, i < n → P i v → J i m news G → (∀ p ∈ news, p.1 ≠ I) → Fr g L h (fun y => if y = x then some v else m y) → News g L h ((I, oI) :: news) →
      ∀ Qv Ev, (∀ s', TurnEnd g L dr os [(I, oI)] (J (i + 1)) s' → Qv .next s' ∧ Qv .cont s') → (∀ s', R (.ok .next) s' → Qv .brk s') → wpAny (model PySem.Challenge.rw_re0075_01.row.toRowW.prog w) A (execs body env) Qv Ev ⟨h, G, dr, tk, os⟩)
    (done : ∀ m news h tk G, J n m news G → Fr g L h m → News g L h news → R (.ok .next) ⟨h, G, dr, tk, os⟩) :
    codeAny (model PySem.Challenge.rw_re0075_01.row.toRowW.prog w) A (.forLoop (.Name x px) (.ref I) body [] env) R ⟨h00, G00, dr, t00, os⟩ := by
  subst hL
  refine codeAny_forLoop
    (fun k s' => ∃ h' tk m' news' G i, s' = ⟨h', G, dr, tk, os⟩ ∧ St i h' ∧ Fr g env.locals h' m' ∧ News g env.locals h' news' ∧ (∀ p ∈ news', p.1 ≠ I) ∧ J i m' news' G ∧ i ≤ n ∧ k = n + 1 - i) ?_ (n + 1)
    ⟨_, t00, m₀, news₀, G00, 0, rfl, hst, F, N, hnI, hJ, Nat.zero_le _, rfl⟩
  rintro k s' ⟨h', tk, m', news', G, i, rfl, hst', F', N', hnw', hJ', hi, rfl⟩
  have old : ∀ b o, g.get? b = some o → b ∉ [I] := fun b o e hb => by rw [List.mem_singleton.mp hb, hIn] at e; cases e
  have next : ∀ h₁ : Heap, (∀ b o, b ∉ [I] → h'.get? b = some o → h₁.get? b = some o) → Fr g env.locals h₁ m' ∧ News g env.locals h₁ news' := fun h₁ hk₁ =>
    ⟨⟨F'.ns.at' fun o e => hk₁ _ o (fun q => hLI (List.mem_singleton.mp q)) e, fun b o e => hk₁ b o (old b o e) (F'.keep b o e), F'.above⟩, fun p hp => ⟨hk₁ _ _ (fun q => hnw' p hp (List.mem_singleton.mp q)) (N' p hp).1, (N' p hp).2⟩⟩
  by_cases hlt : i < n
  · refine W.item i _ _ _ hlt hst' fun v h₁ tk₁ hP hst₁ hk₁ => ?_
    obtain ⟨F₁, N₁⟩ := next h₁ hk₁
    refine wpAny_assign_Name (wpAny_storeName_local hx F₁.ns (fun h₂ hn₂ hs₂ => ?_) hp)
    have F₂ := F₁.set hn₂ hs₂
    have hst₂ : St (i + 1) h₂ := W.frame _ _ _ hst₁ fun b hb o e => (hs₂.2 b fun q => hLI (by rw [← List.mem_singleton.mp hb, q])).trans e
    obtain ⟨oI, hoI⟩ := hex _ _ hst₂
    refine wpAny_mono (turn i v m' news' h₂ _ G oI hlt hP hJ' hnw' F₂ (fun p hp => ?_) (fun f s' => match f with
      | .next | .cont => TurnEnd g env.locals dr os [(I, oI)] (J (i + 1)) s'
      | .brk => R (.ok .next) s'
      | .ret v => R (.ok (.ret v)) s') _ (fun _ h => ⟨h, h⟩) (fun _ h => h)) (fun f s₃ h₃ => ?_) fun _ _ e => e
    · rcases List.mem_cons.mp hp with rfl | hp
      · exact ⟨hoI, Ne.symm hLI, hIn⟩
      · exact N₁.set hs₂ p hp
    · have fin : TurnEnd g env.locals dr os [(I, oI)] (J (i + 1)) s₃ → ∃ k', k' < n + 1 - i ∧ ∃ h' tk m' news' G i, s₃ = ⟨h', G, dr, tk, os⟩ ∧ St i h' ∧ Fr g env.locals h' m' ∧ News g env.locals h' news' ∧ (∀ p ∈ news', p.1 ≠ I) ∧ J i m' news' G ∧ i ≤ n ∧ k' = n + 1 - i := by
        rintro ⟨m₃, news₃, h₄, tk₃, G₃, rfl, F₃, N₃, hn₃, hJ₃⟩
        refine ⟨n + 1 - (i + 1), by omega, h₄, tk₃, m₃, news₃, G₃, i + 1, rfl, ?_, F₃, fun p hp => N₃ p (.tail _ hp), fun p hp => hn₃ p hp (I, oI) (.head _), hJ₃, hlt, rfl⟩
        refine W.frame _ _ _ hst₂ fun b hb o e => ?_
        rw [List.mem_singleton.mp hb] at e ⊢
        rw [hoI] at e
        cases e
        exact (N₃ _ (.head _)).1
      cases f with
      | ret v => exact h₃
      | brk => exact h₃
      | cont => exact fin h₃
      | next => exact fin h₃
  · have hin : i = n := by omega
    subst hin
    refine W.done _ _ _ hst' fun h₁ tk₁ hk₁ => ?_
    obtain ⟨F₁, N₁⟩ := next h₁ hk₁
    exact wpAny_execs_nil (done m' news' h₁ tk₁ G hJ' F₁ N₁)

section
variable {w : World} {A : Around} {E : Value → Shared → Prop} {R : Result → Shared → Prop} {h00 : Heap} {G00 : Array GenState} {dr : Drawn} {t00 : Nat} {os : OsState} {env : Env} {x : Str} {px : Pos} {body : List Stmt} {g : Heap} {L : Addr} {m₀ : Str → Option Value} {news₀ : List (Addr × Obj)}
theorem TurnEnd.mk {own : List (Addr × Obj)} {J : (Str → Option Value) → List (Addr × Obj) → Array GenState → Prop} {m' : Str → Option Value} {news' : List (Addr × Obj)} {h' : Heap} {tk' : Nat} {G' : Array GenState}
    (F : Fr g L h' m') (N : News g L h' (own ++ news')) (hn : ∀ p ∈ news', ∀ q ∈ own, p.1 ≠ q.1) (hJ : J m' news' G') : TurnEnd g L dr os own J ⟨h', G', dr, tk', os⟩ := ⟨m', news', h', tk', G', rfl, F, N, hn, hJ⟩
theorem new_none (F : Fr g L h00 m₀) : g.get? h00.objs.size = none := by
  cases q : g.get? h00.objs.size with
  | none => rfl
  | some o' => exact absurd (Heap.lt_size (F.keep _ _ q)) (Nat.lt_irrefl _)
theorem new_apart (N : News g L h00 news₀) : ∀ p ∈ news₀, p.1 ≠ h00.objs.size := fun p hp => Nat.ne_of_lt (Heap.lt_size (N p hp).1)
theorem news_push (N : News g L h00 news₀) (o : Obj) : News g L (h00.push o) news₀ := fun p hp => ⟨Heap.get?_push_of_some _ (N p hp).1, (N p hp).2⟩

/-- a for over the signs of a text -/
theorem for_str {xs : Str} {t : Tok} (J : Nat → (Str → Option Value) → List (Addr × Obj) → Array GenState → Prop)
    (hh : A.handled = none) (hx : env.kindOf x = some .local) (hp : (env.scope.kind == .class || (env.scope.kind == .module && env.locals != env.globals)) = false)
    (hL : env.locals = L) (F : Fr g L h00 m₀) (N : News g L h00 news₀) (hJ : J 0 m₀ news₀ G00)
    (turn : ∀ i c u m news h tk G I oI, xs.cps[i]? = some c → I = h00.objs.size → J i m news G → (∀ p ∈ news, p.1 ≠ I) → Fr g L h (fun y => if y = x then some (.str ⟨#[c]⟩ u) else m y) → News g L h ((I, oI) :: news) →
      ∀ Qv Ev, (∀ s', TurnEnd g L dr os [(I, oI)] (J (i + 1)) s' → Qv .next s' ∧ Qv .cont s') → (∀ s', R (.ok .next) s' → Qv .brk s') → wpAny (model PySem.Challenge.rw_re0075_01.row.toRowW.prog w) A (execs body env) Qv Ev ⟨h, G, dr, tk, os⟩)
    (done : ∀ m news h tk G, J xs.cps.size m news G → Fr g L h m → News g L h news → R (.ok .next) ⟨h, G, dr, tk, os⟩) :
    wpAny (model PySem.Challenge.rw_re0075_01.row.toRowW.prog w) A (pyIter (.str xs t)) (fun it s₂ => codeAny (model PySem.Challenge.rw_re0075_01.row.toRowW.prog w) A (.forLoop (.Name x px) it body [] env) R s₂) E ⟨h00, G00, dr, t00, os⟩ := by
  have key : ∀ (o : Obj) (St : Nat → Heap → Prop), Walks PySem.Challenge.rw_re0075_01.row.toRowW.prog w A h00.objs.size [h00.objs.size] [h00.objs.size] xs.cps.size (SignAt xs) St → (∀ i h, St i h → ∃ o, h.get? h00.objs.size = some o) → St 0 (h00.push o) →
      codeAny (model PySem.Challenge.rw_re0075_01.row.toRowW.prog w) A (.forLoop (.Name x px) (.ref h00.objs.size) body [] env) R ⟨h00.push o, G00, dr, t00, os⟩ := by
    intro o St W hex hst
    refine for_one W hex J hx hp hL hst (F.push o) (news_push N o) hJ (new_none F) (Nat.ne_of_lt F.ns.lt) (new_apart N) ?_ (fun m news h tk G a b c => done m news h tk G a b c)
    rintro i v m news h tk G oI hi ⟨c, u, hc, rfl⟩ hJ hn F N
    exact turn i c u m news h tk G _ oI hc rfl hJ hn F N
  cases ha : xs.cps.all (· < 128)
  · exact wpAny_pyIter_wide ha (key _ _ (Walks.strWide hh _ xs t) (fun _ _ ⟨o, ho, _⟩ => ⟨o, ho⟩) ⟨_, Heap.get?_push_size _ rfl, rfl, rfl⟩)
  · exact wpAny_pyIter_ascii ha (key _ _ (Walks.strAscii hh _ xs t) (fun _ _ ⟨o, ho, _⟩ => ⟨o, ho⟩) ⟨_, Heap.get?_push_size _ rfl, rfl, rfl⟩)

/-- a for over a range iterator -/
theorem for_range {I : Addr} {a c : Int} {n : Nat} (J : Nat → (Str → Option Value) → List (Addr × Obj) → Array GenState → Prop)
    (hh : A.handled = none) (hx : env.kindOf x = some .local) (hp : (env.scope.kind == .class || (env.scope.kind == .module && env.locals != env.globals)) = false)
    (hL : env.locals = L) (hst : IsRangeIter h00 I a n c) (F : Fr g L h00 m₀) (N : News g L h00 news₀) (hIn : g.get? I = none) (hLI : L ≠ I) (hnI : ∀ p ∈ news₀, p.1 ≠ I) (hJ : J 0 m₀ news₀ G00)
    (turn : ∀ i u m news h tk G oI, i < n → J i m news G → (∀ p ∈ news, p.1 ≠ I) → Fr g L h (fun y => if y = x then some (.int (a + i * c) u) else m y) → News g L h ((I, oI) :: news) →
      ∀ Qv Ev, (∀ s', TurnEnd g L dr os [(I, oI)] (J (i + 1)) s' → Qv .next s' ∧ Qv .cont s') → (∀ s', R (.ok .next) s' → Qv .brk s') → wpAny (model PySem.Challenge.rw_re0075_01.row.toRowW.prog w) A (execs body env) Qv Ev ⟨h, G, dr, tk, os⟩)
    (done : ∀ m news h tk G, J n m news G → Fr g L h m → News g L h news → R (.ok .next) ⟨h, G, dr, tk, os⟩) :
    codeAny (model PySem.Challenge.rw_re0075_01.row.toRowW.prog w) A (.forLoop (.Name x px) (.ref I) body [] env) R ⟨h00, G00, dr, t00, os⟩ := by
  refine for_one (Walks.range hh I a c n) (fun _ _ st => ⟨_, st⟩) J hx hp hL (by simpa using hst) F N hJ hIn hLI hnI ?_ done
  rintro i v m news h tk G oI hi ⟨t, rfl⟩ hJ hn F N
  exact turn i t m news h tk G oI hi hJ hn F N
theorem range_small {a b : Int} {n : Nat} (hb : b = a + n) (ha : 0 ≤ a) (ha' : a ≤ 1000) (hn : n ≤ 1000) : Builtin.Range.small a b 1 = true ∧ Builtin.Range.rangeSize a b 1 = (n : Int) := by
  have e : Builtin.Range.rangeSize a b 1 = (n : Int) := by rw [rangeSize_nat]; omega
  refine ⟨?_, e⟩
  unfold Builtin.Range.small
  rw [e]
  have key : ∀ z : Int, 0 ≤ z → z ≤ 100000 → Builtin.Range.rangeFitsLong z = true := by
    intro z h1 h2
    unfold Builtin.Range.rangeFitsLong
    simp only [Bool.and_eq_true, decide_eq_true_eq]
    omega
  simp only [Bool.and_eq_true]
  refine ⟨⟨⟨⟨key _ ha (by omega), key _ (by omega) (by omega)⟩, key _ (by omega) (by omega)⟩, key _ (by omega) (by omega)⟩, ?_⟩
  rw [Bool.or_eq_true_iff]
  right
  rw [if_pos (by decide)]
  exact key _ (by omega) (by omega)
/-- a for over a range by ones -/
theorem for_rng {r : Addr} {a b : Int} {n : Nat} {t₁ t₂ t₃ : Tok} (J : Nat → (Str → Option Value) → List (Addr × Obj) → Array GenState → Prop)
    (hr : IsRange h00 r a b 1 t₁ t₂ t₃) (hb : b = a + n) (ha : 0 ≤ a) (ha' : a ≤ 1000) (hn : n ≤ 1000)
    (hh : A.handled = none) (hx : env.kindOf x = some .local) (hp : (env.scope.kind == .class || (env.scope.kind == .module && env.locals != env.globals)) = false)
    (hL : env.locals = L) (F : Fr g L h00 m₀) (N : News g L h00 news₀) (hJ : J 0 m₀ news₀ G00)
    (turn : ∀ i u m news h tk G I oI, i < n → I = h00.objs.size → J i m news G → (∀ p ∈ news, p.1 ≠ I) → Fr g L h (fun y => if y = x then some (.int (a + (i : Int)) u) else m y) → News g L h ((I, oI) :: news) →
      ∀ Qv Ev, (∀ s', TurnEnd g L dr os [(I, oI)] (J (i + 1)) s' → Qv .next s' ∧ Qv .cont s') → (∀ s', R (.ok .next) s' → Qv .brk s') → wpAny (model PySem.Challenge.rw_re0075_01.row.toRowW.prog w) A (execs body env) Qv Ev ⟨h, G, dr, tk, os⟩)
    (done : ∀ m news h tk G, J n m news G → Fr g L h m → News g L h news → R (.ok .next) ⟨h, G, dr, tk, os⟩) :
    wpAny (model PySem.Challenge.rw_re0075_01.row.toRowW.prog w) A (pyIter (.ref r)) (fun it s₂ => codeAny (model PySem.Challenge.rw_re0075_01.row.toRowW.prog w) A (.forLoop (.Name x px) it body [] env) R s₂) E ⟨h00, G00, dr, t00, os⟩ := by
  obtain ⟨hs, hz⟩ := range_small hb ha ha' hn
  refine wpAny_pyIter_range hr hs ?_
  rw [hz]
  refine for_range (a := a) (c := 1) (n := n) J hh hx hp hL ?_ (F.push _) (news_push N _) (new_none F) (Nat.ne_of_lt F.ns.lt) (new_apart N) hJ ?_ (fun m news h tk G a b c => done m news h tk G a b c)
  · exact Heap.get?_push_size _ rfl
  · intro i u m news h tk G oI hi hJ hn F N
    rw [Int.mul_one] at F
    exact turn i u m news h tk G _ oI hi rfl hJ hn F N
end
end Mine
end

section
theorem Mine.offDep : True := by
  w_top off
  trivial
local macro_rules | `(tactic| walk_at "none such") => `(tactic| fail)
open PySem PySem.W PyProof.Rows PySem.Spec PySem.Calls
set_option Elab.async false
set_option maxRecDepth 100000
set_option maxHeartbeats 1000000
namespace Mine
set_option pp.deepTerms false
set_option pp.maxSteps 3000
noncomputable def depStep (a : List Int × Int) (c : Nat) : List Int × Int := if c = 40 then (a.1 ++ [a.2], a.2 + 1) else (a.1, a.2 - 1)
noncomputable def depF (cs : List Nat) : List Int × Int := cs.foldl depStep ([], 0)
theorem depF_len (cs : List Nat) : (depF cs).1.length ≤ cs.length := by
  have key : ∀ (cs : List Nat) (a : List Int × Int), (cs.foldl depStep a).1.length ≤ a.1.length + cs.length := by
    intro cs
    induction cs with
    | nil => intro a; simp
    | cons c r ih =>
      intro a
      refine Nat.le_trans (ih _) ?_
      unfold depStep
      split <;> simp <;> omega
  have := key cs ([], 0)
  simpa [depF] using this
theorem depF_step {cs : List Nat} {c : Nat} : depF (cs ++ [c]) = depStep (depF cs) c := by simp [depF]
theorem intsAre_snoc {vs : List Value} {ns : List Int} {n : Int} {t : Tok} (h : IntsAre vs ns) : IntsAre (vs ++ [.int n t]) (ns ++ [n]) := by
  induction h with
  | nil => exact .cons _ _ .nil
  | cons a b _ ih => exact .cons _ _ ih
local macro_rules | `(tactic| walk_at "exec For Name Name cons nil") => `(tactic| refine Stop.out ?_)
theorem depths_spec {w : World} {vp : Program} {vl : List Str} {mean : ExcName → Option Value} {mg mb : Str → Option Value} {A : Around} {s : Shared} {Q E : Value → Shared → Prop} (hh : A.handled = none) (hdp : A.depth + 20 < recursionLimit) (hun : A.units + 100 < cLine) (KX : (hd.heap_1 w.params).In s.heap) (T : Top vp vl mean mg mb s.heap) {x : Str} {tx : Tok} (hx : x.cps.size ≤ 100)
    (hQ : ∀ l (vs : Array Value) n h' tk, IntsAre vs.toList (depF x.cps.toList).1 → h'.get? l = some (W.listOf vs n) → s.heap.get? l = none → Kept s.heap h' → Q (.ref l) ⟨h', s.gens, s.drawn, tk, s.os⟩) :
    wpAny (model PySem.Challenge.rw_re0075_01.row.toRowW.prog w) A (call (.ref 117) [.str x tx]) Q E s := by
  obtain ⟨_, dp, fr, gd, un⟩ := A; cases hh; dsimp only at hdp hun; revert KX; k_fill; intro KX
  refine wpAny_call ?_; k_dflt (refine' ent [(Str.ofString "row", .str x tx)] KX T ?k6 ?k7 ?k8 ?k9 ?kB ?_ ?c2 ?c3 ?c4 ?c5; (case k6 => k_is); (case k7 => k_is); (case k8 => (dsimp only; omega)); (case k9 => exact rfl); (case c5 => decide); (case kB => exact locs rfl); (case c2 => exact rfl); (case c3 => exact rfl); (case c4 => exact rfl); k_whole)
  intro h' F' N'
  replace F' : Fr s.heap s.heap.objs.size h' (fun nm => if nm = Str.ofString "row" then some (.str x tx) else none) := F'
  (try dsimp only)
  (try k_fold)
  k_steps
  refine Stop.go ?_
  refine wpAny_For ?_
  walk1
  rename Fr _ _ _ _ => F0
  rename News _ _ _ _ => N0
  refine' for_str (L := s.heap.objs.size) (fun i m news G => G = s.gens ∧ ∃ l' vs n td o1, news = [(l', W.listOf vs n)] ∧ 
     m = (fun nm => if nm = Str.ofString "sign" then o1 else if nm = Str.ofString "depth" then some (.int (depF (x.cps.toList.take i)).2 td) else if nm = Str.ofString "depths" then some (.ref l') else if nm = Str.ofString "row" then some (.str x tx) else none) ∧
    IntsAre vs.toList (depF (x.cps.toList.take i)).1) rfl rfl rfl rfl ?hF ?hN ⟨rfl, _, #[], _, _, none, rfl, rfl, .nil⟩ ?turn ?done
  case hN => exact N0
  case hF =>
    refine' fr_names [Str.ofString "sign", Str.ofString "depth", Str.ofString "depths", Str.ofString "row"] ?fF ?fA ?fB
    (case fF => assumption); (case fA => exact List.forall_mem_cons.mpr ⟨(by exact rfl), List.forall_mem_cons.mpr ⟨(by exact rfl), List.forall_mem_cons.mpr ⟨(by exact rfl), List.forall_mem_cons.mpr ⟨(by exact rfl), List.forall_mem_nil _⟩⟩⟩⟩); (case fB => (intro y hy; simp only [List.mem_cons, not_or] at hy; simp only [hy, if_false]))
  · rintro i c u m news h tk G I oI hc hI ⟨rfl, l', vs, n, td, o1, rfl, rfl, hvs⟩ hnI F2 N2 Qv Ev hNx _
    have hne := neN (hnI _ (.head _))
    have hz : vs.toList.length ≤ 100 := by
      rw [hvs.length]
      refine Nat.le_trans (depF_len _) (Nat.le_trans (List.length_take_le _ _) ?_)
      have := (Array.getElem?_eq_some_iff.mp hc).1
      omega
    have hz' : vs.size ≤ 100 := by simpa using hz
    clear hnI F0 N0
    have e := take_step hc
    k_steps
    · have hc : c = 40 := one_is (by assumption) (by decide)
      have e2 : depF (x.cps.toList.take (i + 1)) = ((depF (x.cps.toList.take i)).1 ++ [(depF (x.cps.toList.take i)).2], (depF (x.cps.toList.take i)).2 + 1) := by
        rw [e, depF_step]; simp [depStep, hc]
      rw [e2] at hNx
      refine' (hNx _ (TurnEnd.mk (fr_names [Str.ofString "sign", Str.ofString "depth", Str.ofString "depths", Str.ofString "row"] ?fF ?fA ?fB) ?N ?ne ⟨rfl, l', vs.push (.int (depF (x.cps.toList.take i)).2 td), _, _, some (.str ⟨#[c]⟩ u), rfl, rfl, ?v⟩)).1
      (case fF => assumption); (case fA => exact List.forall_mem_cons.mpr ⟨(by exact rfl), List.forall_mem_cons.mpr ⟨(by exact rfl), List.forall_mem_cons.mpr ⟨(by exact rfl), List.forall_mem_cons.mpr ⟨(by exact rfl), List.forall_mem_nil _⟩⟩⟩⟩); (case fB => (intro y hy; simp only [List.mem_cons, not_or] at hy; simp only [hy, if_false]))
      case N => assumption
      case ne =>
        simp only [List.forall_mem_singleton]
        exact hne
      case v =>
        rw [Array.toList_push]
        exact intsAre_snoc hvs
    · have hc : c ≠ 40 := one_not (by assumption) (by decide)
      have e2 : depF (x.cps.toList.take (i + 1)) = ((depF (x.cps.toList.take i)).1, (depF (x.cps.toList.take i)).2 - 1) := by
        rw [e, depF_step]; simp [depStep, hc]
      rw [e2] at hNx
      refine' (hNx _ (TurnEnd.mk (fr_names [Str.ofString "sign", Str.ofString "depth", Str.ofString "depths", Str.ofString "row"] ?fF ?fA ?fB) ?N ?ne ⟨rfl, l', vs, n, _, some (.str ⟨#[c]⟩ u), rfl, rfl, ?v⟩)).1
      (case fF => assumption); (case fA => exact List.forall_mem_cons.mpr ⟨(by exact rfl), List.forall_mem_cons.mpr ⟨(by exact rfl), List.forall_mem_cons.mpr ⟨(by exact rfl), List.forall_mem_cons.mpr ⟨(by exact rfl), List.forall_mem_nil _⟩⟩⟩⟩); (case fB => (intro y hy; simp only [List.mem_cons, not_or] at hy; simp only [hy, if_false]))
      case N => assumption
      case ne =>
        simp only [List.forall_mem_singleton]
        exact hne
      case v => exact hvs
  · rintro m news h tk G ⟨rfl, l', vs, n, td, o1, rfl, rfl, hvs⟩ F2 N2
    dsimp only
    k_steps
    have e : x.cps.toList.take x.cps.size = x.cps.toList := List.take_of_length_le (by simp)
    rw [e] at hvs
    exact hQ l' vs n h tk hvs (N2 _ (.head _)).1 (N2 _ (.head _)).2.2 F2.keep
end Mine
end

section
theorem Mine.offCom : True := by
  w_top off
  trivial
local macro_rules | `(tactic| walk_at "none such") => `(tactic| fail)
local macro_rules | `(tactic| walk_at "none such") => `(tactic| fail)
local macro_rules | `(tactic| walk_at "none such") => `(tactic| fail)
open PySem PySem.W PyProof.Rows PySem.Spec PySem.Calls
set_option Elab.async false
set_option maxRecDepth 100000
set_option maxHeartbeats 1000000
namespace Mine
set_option pp.deepTerms false
set_option pp.maxSteps 3000
theorem gives_find4 (x y : Str) (i j : Int) (t u v v' : Tok) : Gives (Builtin.«str.find» ⟨[.str x t, .str y u, .int i v, .int j v'], []⟩) (.int (match Builtin.Str.occurrences x y (fromIndex x.length i) (min (fromIndex x.length j) x.length) 1 with | k :: _ => (k : Int) | [] => -1)) := by
  show Gives (match Builtin.Str.occurrences x y (fromIndex x.length i) (min (fromIndex x.length j) x.length) 1 with | k :: _ => retInt k | [] => (do rule "str.find.not-found"; retInt (-1))) _
  cases Builtin.Str.occurrences x y (fromIndex x.length i) (min (fromIndex x.length j) x.length) 1 with
  | nil => exact .rule (.of_eq rfl)
  | cons k _ => exact .of_eq rfl
theorem occ_empty (x : Str) (h : 2 ≤ x.length) : ∃ r, Builtin.Str.occurrences x ⟨#[]⟩ 2 x.length 1 = 2 :: r := by
  have := StrLaws.occ_head_from x ⟨#[]⟩ 2 1 (Nat.le_refl _)
  have at2 : StrLaws.At x ⟨#[]⟩ x.length 2 := by
    refine ⟨h, ?_⟩
    unfold Builtin.Str.subAt
    show (x.cps.extract 2 2 == #[]) = true
    simp
    omega
  rcases this with ⟨_, hn⟩ | ⟨i, r, e, hi, _, hk⟩
  · exact absurd at2 (hn 2 (Nat.le_refl _))
  · have : i = 2 := by
      rcases Nat.lt_or_ge 2 i with h | h
      · exact absurd at2 (hk 2 (Nat.le_refl _) h)
      · omega
    exact ⟨r, this ▸ e⟩
theorem find_empty {w : World} {A : Around} {E : Value → Shared → Prop} {s : Shared} {Q : Value → Shared → Prop} {x : Str} {t u v v' : Tok} (h : 2 ≤ x.length) (hq : ∀ t' k, Q (.int 2 t') { s with toks := k }) :
    wpAny (model PySem.Challenge.rw_re0075_01.row.toRowW.prog w) A (call (.builtin "str.find") [.str x t, .str ⟨#[]⟩ u, .int ((2 : Nat) : Int) v, .int (x.length : Int) v']) Q E s := by
  refine call_gives F.slot_str_find (typeIs_str _ _ _) F.entry_str_find (F.args_str_find_4 _ _ _ _) (gives_find4 x ⟨#[]⟩ _ _ t u v v') ?_
  have e1 : fromIndex x.length ((2 : Nat) : Int) = 2 := by unfold fromIndex; rw [if_neg (by omega)]; rfl
  have e2 : min (fromIndex x.length (x.length : Int)) x.length = x.length := by simp [fromIndex]; omega
  rw [e1, e2]
  obtain ⟨r, e⟩ := occ_empty x h
  rw [e]
  exact hq _ _
local macro_rules | `(tactic| walk_at "call builtin:str.find") => `(tactic| (refine find_empty (by omega) ?_; intro t' k'))
theorem len_nil {w : World} {A : Around} {E : Value → Shared → Prop} {s : Shared} {Q : Value → Shared → Prop} {u : Tok} (hq : ∀ t' k, Q (.int 0 t') { s with toks := k }) :
    wpAny (model PySem.Challenge.rw_re0075_01.row.toRowW.prog w) A (call (.builtin "len") [.str ⟨#[]⟩ u]) Q E s := PyProof.Rows.len_str (by decide) (hq _ _)
local macro_rules | `(tactic| walk_at "call builtin:len") => `(tactic| ((with_reducible show wpAny _ _ (call (Value.builtin "len") [Value.str ⟨#[]⟩ _]) _ _ _); refine len_nil ?_; intro t' k'))
theorem comment_spec {w : World} {vp : Program} {vl : List Str} {mean : ExcName → Option Value} {mg mb : Str → Option Value} {A : Around} {s : Shared} {Q E : Value → Shared → Prop} (hh : A.handled = none) (hdp : A.depth + 20 < recursionLimit) (hun : A.units + 100 < cLine) (KX : (hd.heap_1 w.params).In s.heap) (T : Top vp vl mean mg mb s.heap) {x : Str} {tx : Tok} (hx : x.length ≤ 100)
    (hQ : ∀ t h' tk, Kept s.heap h' → Q (.str (if (Txt.rstrip x).length = 0 then Str.ofString "#" else Str.ofString "# " ++ Txt.rstrip x) t) ⟨h', s.gens, s.drawn, tk, s.os⟩) :
    wpAny (model PySem.Challenge.rw_re0075_01.row.toRowW.prog w) A (call (.ref 28) [.str x tx]) Q E s := by
  obtain ⟨_, dp, fr, gd, un⟩ := A; cases hh; dsimp only at hdp hun; revert KX; k_fill; intro KX
  refine wpAny_call ?_; k_dflt (refine' ent [(Str.ofString "line", .str x tx)] KX T ?k6 ?k7 ?k8 ?k9 ?kB ?_ ?c2 ?c3 ?c4 ?c5; (case k6 => k_is); (case k7 => k_is); (case k8 => (dsimp only; omega)); (case k9 => exact rfl); (case c5 => decide); (case kB => exact locs rfl); (case c2 => exact rfl); (case c3 => exact rfl); (case c4 => exact rfl); k_whole)
  intro h' F' N'
  replace F' : Fr s.heap s.heap.objs.size h' (fun nm => if nm = Str.ofString "line" then some (.str x tx) else none) := F'
  (try dsimp only)
  (try k_fold)
  k_steps
  · have e : (if (Txt.rstrip x).length = 0 then Str.ofString "#" else Str.ofString "# " ++ Txt.rstrip x) = Str.ofString "# " ++ Txt.rstrip x := if_neg (by omega)
    rw [e] at hQ
    exact hQ _ _ _ (Fr.keep (by assumption))
  · have e : (if (Txt.rstrip x).length = 0 then Str.ofString "#" else Str.ofString "# " ++ Txt.rstrip x) = Str.ofString "#" := if_pos (by omega)
    rw [e] at hQ
    exact hQ _ _ _ (Fr.keep (by assumption))
theorem sw_len {x y : Str} (h : Txt.startswith x y = true) : y.length ≤ x.length := by
  unfold Txt.startswith at h
  have := of_decide_eq_true (Bool.and_eq_true_iff.mp h).1
  omega
theorem ell_spec {w : World} {vp : Program} {vl : List Str} {mean : ExcName → Option Value} {mg mb : Str → Option Value} {A : Around} {s : Shared} {Q E : Value → Shared → Prop} (hh : A.handled = none) (hdp : A.depth + 20 < recursionLimit) (hun : A.units + 100 < cLine) (KX : (hd.heap_1 w.params).In s.heap) (T : Top vp vl mean mg mb s.heap) {x : Str} {tx tw : Tok} (hx : x.length ≤ 1000)
    (hQ : ∀ h' tk, Kept s.heap h' → Q (.bool (Txt.startswith x (Str.ofString "# "))) ⟨h', s.gens, s.drawn, tk, s.os⟩) :
    wpAny (model PySem.Challenge.rw_re0075_01.row.toRowW.prog w) A (call (.ref 21) [.str (Str.ofString "# ...") tw, .str x tx]) Q E s := by
  obtain ⟨_, dp, fr, gd, un⟩ := A; cases hh; dsimp only at hdp hun; revert KX; k_fill; intro KX
  refine wpAny_call ?_; k_dflt (refine' ent [(Str.ofString "want", .str (Str.ofString "# ...") tw), (Str.ofString "got", .str x tx)] KX T ?k6 ?k7 ?k8 ?k9 ?kB ?_ ?c2 ?c3 ?c4 ?c5; (case k6 => k_is); (case k7 => k_is); (case k8 => (dsimp only; omega)); (case k9 => exact rfl); (case c5 => decide); (case kB => exact locs rfl); (case c2 => exact rfl); (case c3 => exact rfl); (case c4 => exact rfl); k_whole)
  intro h' F' N'
  replace F' : Fr s.heap s.heap.objs.size h' (fun nm => if nm = Str.ofString "got" then some (.str x tx) else if nm = Str.ofString "want" then some (.str (Str.ofString "# ...") tw) else none) := F'
  (try dsimp only)
  (try k_fold)
  k_steps
  · rename (List.isEmpty _) = true => hb
    exact absurd hb (by decide +kernel)
  · have h2 := sw_len (by assumption)
    have e : (Str.ofString "# ").length = 2 := by decide
    exfalso
    omega
  · rename Txt.startswith _ _ = true => hb
    rw [hb] at hQ
    exact hQ _ _ (Fr.keep (by assumption))
  · rename Txt.startswith _ _ = false => hb
    rw [hb] at hQ
    exact hQ _ _ (Fr.keep (by assumption))
end Mine
end

section
theorem Mine.offRow : True := by
  w_top off
  trivial
open PySem PySem.W PyProof.Rows PySem.Spec PySem.Calls
set_option Elab.async false
set_option maxRecDepth 100000
set_option maxHeartbeats 1000000
namespace Mine
set_option pp.deepTerms false
set_option pp.maxSteps 3000
noncomputable def rowStep (n : Int) (p : Nat) (r : Str) (k : Nat) : Str :=
  if Txt.count r (Str.ofString "(") < (p : Int) ∧ ((n.fdiv (2 ^ (0 + (k : Int)).toNat)).fmod 2 = 1 ∨ 2 * Txt.count r (Str.ofString "(") = 0 + (k : Int)) then r ++ Str.ofString "(" else r ++ Str.ofString ")"
noncomputable def rowS (n : Int) (p : Nat) : Nat → Str
  | 0 => Str.ofString ""
  | k + 1 => rowStep n p (rowS n p k) k
theorem rowS_len (n : Int) (p : Nat) : ∀ i, (rowS n p i).length = i
  | 0 => by show (Str.ofString "").length = 0; decide
  | k + 1 => by
    show (rowStep n p (rowS n p k) k).length = k + 1
    unfold rowStep
    have e1 : (Str.ofString "(").length = 1 := by decide
    have e2 : (Str.ofString ")").length = 1 := by decide
    split
    · rw [Str.length_append, rowS_len n p k, e1]
    · rw [Str.length_append, rowS_len n p k, e2]
section
variable {n : Int} {p i : Nat}
theorem rowS_a (h1 : Txt.count (rowS n p i) (Str.ofString "(") < (p : Int)) (h2 : (n.fdiv (2 ^ (0 + (i : Int)).toNat)).fmod 2 = 1) : rowS n p (i + 1) = rowS n p i ++ Str.ofString "(" := if_pos ⟨h1, .inl h2⟩
theorem rowS_b (h1 : Txt.count (rowS n p i) (Str.ofString "(") < (p : Int)) (h2 : 2 * Txt.count (rowS n p i) (Str.ofString "(") = 0 + (i : Int)) : rowS n p (i + 1) = rowS n p i ++ Str.ofString "(" := if_pos ⟨h1, .inr h2⟩
theorem rowS_c (h1 : (n.fdiv (2 ^ (0 + (i : Int)).toNat)).fmod 2 ≠ 1) (h2 : 2 * Txt.count (rowS n p i) (Str.ofString "(") ≠ 0 + (i : Int)) : rowS n p (i + 1) = rowS n p i ++ Str.ofString ")" := if_neg fun h => h.2.elim h1 h2
theorem rowS_d (h1 : ¬ Txt.count (rowS n p i) (Str.ofString "(") < (p : Int)) : rowS n p (i + 1) = rowS n p i ++ Str.ofString ")" := if_neg fun h => h1 h.1
end
local macro_rules | `(tactic| walk_at "exec For Name Call cons nil") => `(tactic| refine Stop.out ?_)
theorem row_spec {w : World} {vp : Program} {vl : List Str} {mean : ExcName → Option Value} {mg mb : Str → Option Value} {A : Around} {s : Shared} {Q E : Value → Shared → Prop} (hh : A.handled = none) (hdp : A.depth + 20 < recursionLimit) (hun : A.units + 100 < cLine) (KX : (hd.heap_1 w.params).In s.heap) (T : Top vp vl mean mg mb s.heap) {n : Int} {p : Nat} {tn tp : Tok} (hn0 : 0 ≤ n) (hn : n < 5000) (hp6 : p ≤ 6)
    (hQ : ∀ t h' tk, Kept s.heap h' → Q (.str (rowS n p (2 * p)) t) ⟨h', s.gens, s.drawn, tk, s.os⟩) :
    wpAny (model PySem.Challenge.rw_re0075_01.row.toRowW.prog w) A (call (.ref 110) [.int n tn, .int p tp]) Q E s := by
  obtain ⟨_, dp, fr, gd, un⟩ := A; cases hh; dsimp only at hdp hun; revert KX; k_fill; intro KX
  refine wpAny_call ?_; k_dflt (refine' ent [(Str.ofString "number", .int n tn), (Str.ofString "pairs", .int p tp)] KX T ?k6 ?k7 ?k8 ?k9 ?kB ?_ ?c2 ?c3 ?c4 ?c5; (case k6 => k_is); (case k7 => k_is); (case k8 => (dsimp only; omega)); (case k9 => exact rfl); (case c5 => decide); (case kB => exact locs rfl); (case c2 => exact rfl); (case c3 => exact rfl); (case c4 => exact rfl); k_whole)
  intro h' F' N'
  replace F' : Fr s.heap s.heap.objs.size h' (fun nm => if nm = Str.ofString "pairs" then some (.int p tp) else if nm = Str.ofString "number" then some (.int n tn) else none) := F'
  (try dsimp only)
  (try k_fold)
  k_steps
  refine Stop.go ?_
  refine wpAny_For ?_
  iterate 10 walk1
  refine' for_rng (L := s.heap.objs.size) (n := 2 * p) (fun i m news G => G = s.gens ∧ news = [] ∧ ∃ o1 o2 t, m = (fun nm => if nm = Str.ofString "k" then o1 else if nm = Str.ofString "ahead" then o2 else if nm = Str.ofString "row" then some (.str (rowS n p i) t) else if nm = Str.ofString "pairs" then some (.int p tp) else if nm = Str.ofString "number" then some (.int n tn) else none))
    (by assumption) (by omega) (by omega) (by omega) (by omega) rfl rfl rfl rfl ?hF ?hN ⟨rfl, rfl, none, none, _, rfl⟩ ?turn ?done
  case hN => assumption
  case hF =>
    refine' fr_names [Str.ofString "k", Str.ofString "ahead", Str.ofString "row", Str.ofString "pairs", Str.ofString "number"] ?fF ?fA ?fB
    (case fF => assumption); (case fA => exact List.forall_mem_cons.mpr ⟨(by exact rfl), List.forall_mem_cons.mpr ⟨(by exact rfl), List.forall_mem_cons.mpr ⟨(by exact rfl), List.forall_mem_cons.mpr ⟨(by exact rfl), List.forall_mem_cons.mpr ⟨(by exact rfl), List.forall_mem_nil _⟩⟩⟩⟩⟩); (case fB => (intro y hy; simp only [List.mem_cons, not_or] at hy; simp only [hy, if_false]))
  · rintro i u m news h tk G I oI hi hI ⟨rfl, rfl, o1, o2, t, rfl⟩ hnI F2 N2 Qv Ev hNx _
    clear hnI
    have hl := rowS_len n p i
    k_steps
    · have e := rowS_a (by assumption) (by assumption)
      rw [e] at hNx
      refine' (hNx _ (TurnEnd.mk (fr_names [Str.ofString "k", Str.ofString "ahead", Str.ofString "row", Str.ofString "pairs", Str.ofString "number"] ?fF ?fA ?fB) ?N ?ne ⟨rfl, rfl, _, _, _, rfl⟩)).1
      (case fF => assumption); (case fA => exact List.forall_mem_cons.mpr ⟨(by exact rfl), List.forall_mem_cons.mpr ⟨(by exact rfl), List.forall_mem_cons.mpr ⟨(by exact rfl), List.forall_mem_cons.mpr ⟨(by exact rfl), List.forall_mem_cons.mpr ⟨(by exact rfl), List.forall_mem_nil _⟩⟩⟩⟩⟩); (case fB => (intro y hy; simp only [List.mem_cons, not_or] at hy; simp only [hy, if_false]))
      case N => assumption
      case ne => exact List.forall_mem_nil _
    · have e := rowS_b (by assumption) (by assumption)
      rw [e] at hNx
      refine' (hNx _ (TurnEnd.mk (fr_names [Str.ofString "k", Str.ofString "ahead", Str.ofString "row", Str.ofString "pairs", Str.ofString "number"] ?fF ?fA ?fB) ?N ?ne ⟨rfl, rfl, _, _, _, rfl⟩)).1
      (case fF => assumption); (case fA => exact List.forall_mem_cons.mpr ⟨(by exact rfl), List.forall_mem_cons.mpr ⟨(by exact rfl), List.forall_mem_cons.mpr ⟨(by exact rfl), List.forall_mem_cons.mpr ⟨(by exact rfl), List.forall_mem_cons.mpr ⟨(by exact rfl), List.forall_mem_nil _⟩⟩⟩⟩⟩); (case fB => (intro y hy; simp only [List.mem_cons, not_or] at hy; simp only [hy, if_false]))
      case N => assumption
      case ne => exact List.forall_mem_nil _
    · have e := rowS_c (by assumption) (by assumption)
      rw [e] at hNx
      refine' (hNx _ (TurnEnd.mk (fr_names [Str.ofString "k", Str.ofString "ahead", Str.ofString "row", Str.ofString "pairs", Str.ofString "number"] ?fF ?fA ?fB) ?N ?ne ⟨rfl, rfl, _, _, _, rfl⟩)).1
      (case fF => assumption); (case fA => exact List.forall_mem_cons.mpr ⟨(by exact rfl), List.forall_mem_cons.mpr ⟨(by exact rfl), List.forall_mem_cons.mpr ⟨(by exact rfl), List.forall_mem_cons.mpr ⟨(by exact rfl), List.forall_mem_cons.mpr ⟨(by exact rfl), List.forall_mem_nil _⟩⟩⟩⟩⟩); (case fB => (intro y hy; simp only [List.mem_cons, not_or] at hy; simp only [hy, if_false]))
      case N => assumption
      case ne => exact List.forall_mem_nil _
    · have e := rowS_d (by assumption)
      rw [e] at hNx
      refine' (hNx _ (TurnEnd.mk (fr_names [Str.ofString "k", Str.ofString "ahead", Str.ofString "row", Str.ofString "pairs", Str.ofString "number"] ?fF ?fA ?fB) ?N ?ne ⟨rfl, rfl, _, _, _, rfl⟩)).1
      (case fF => assumption); (case fA => exact List.forall_mem_cons.mpr ⟨(by exact rfl), List.forall_mem_cons.mpr ⟨(by exact rfl), List.forall_mem_cons.mpr ⟨(by exact rfl), List.forall_mem_cons.mpr ⟨(by exact rfl), List.forall_mem_cons.mpr ⟨(by exact rfl), List.forall_mem_nil _⟩⟩⟩⟩⟩); (case fB => (intro y hy; simp only [List.mem_cons, not_or] at hy; simp only [hy, if_false]))
      case N => assumption
      case ne => exact List.forall_mem_nil _
  · rintro m news h tk G ⟨rfl, rfl, o1, o2, t, rfl⟩ F2 N2
    dsimp only
    k_steps
    exact hQ _ _ _ F2.keep
end Mine
end

section
theorem Mine.offGen : True := by
  w_top off
  trivial
open PySem PySem.W PyProof.Rows PySem.Spec PySem.Calls
set_option Elab.async false
set_option maxRecDepth 100000
set_option maxHeartbeats 1000000
namespace Mine
section
variable {M : Model} {A : Around} {R : GenEnd} {Y : Protocol} {n : Nat} {s₀ : Shared} {c : Code} {fs : List Frame} {s : Shared} {env : Env}
  {K : Flow → Sem Fin} {H : Value → Sem Fin} {gd : Bool → Bool} {lv : List Value → List Value}
theorem seg_plain {st : Stmt} (h : wpAny M (A.over c fs) (exec st env) (fun f s' => Seg M A R Y n s₀ c (K f) fs s') (fun _ _ => False) s) :
    Seg M A R Y n s₀ c ((exec st env).wrap K H gd lv) fs s := seg_wrap (wpAny_mono h (fun _ _ x => x) (fun _ _ x => x.elim))
theorem seg_bindP {α β : Type} {m : Sem α} {k : α → Sem β} {K' : β → Sem Fin} {H' : Value → Sem Fin} {gd lv}
    (h : wpAny M (A.over c fs) m (fun a s' => Seg M A R Y n s₀ c ((k a).wrap K' H' gd lv) fs s') (fun _ _ => False) s) : Seg M A R Y n s₀ c ((m >>= k).wrap K' H' gd lv) fs s :=
  seg_bind_wrap (wpAny_mono h (fun _ _ x => x) (fun _ _ x => x.elim))
theorem seg_If {test : Expr} {body orelse : List Stmt} {pos : Pos}
    (h : wpAny M (A.over c fs) (isTrue test env (eval test env)) (fun b s' => if b = true then Seg M A R Y n s₀ c ((execs body env).wrap K H gd lv) fs s' else Seg M A R Y n s₀ c ((execs orelse env).wrap K H gd lv) fs s') (fun _ _ => False) s) :
    Seg M A R Y n s₀ c ((exec (.If test body orelse pos) env).wrap K H gd lv) fs s := by
  rw [exec_If]
  refine seg_bindP (wpAny_standAt ?_)
  refine seg_bindP (wpAny_mono h (fun b s' h' => ?_) fun _ _ x => x)
  cases b with
  | true => exact h'
  | false => exact h'
/-- the frame that a loop of a generator's body is called from -/
noncomputable abbrev ownFrame (env : Env) (K : Flow → Sem Fin) (H : Value → Sem Fin) (gd : Bool → Bool) (lv : List Value → List Value) (c : Code) (p : Pos) : Frame :=
  .ret (fun r => ((match r with | .ok f => (.pure f : Sem Flow) | .error e => .raise e).onRaise fun (x : Value) => do
        if (← field x 1) == Value.none then unsupported "frame.own-activation:exception-without-traceback"
        setFlight x env.frame).wrap K H gd lv) none (gd false) (lv []) c p []
theorem seg_For {target iter : Expr} {body orelse : List Stmt} {pos : Pos}
    (h : wpAny M (A.over c fs) (eval iter env) (fun xv s₁ => wpAny M (A.over c fs) (pyIter xv) (fun it s₂ =>
      ∀ p, Seg M A R Y n s₀ (.forLoop target it body orelse env) (M.den (.forLoop target it body orelse env)) (ownFrame env K H gd lv c p :: fs) s₂) (fun _ _ => False) s₁) (fun _ _ => False) s)
    (hs : ∀ x, foldedSetIterable iter env x = pure x) :
    Seg M A R Y n s₀ c ((exec (.For target iter body orelse pos) env).wrap K H gd lv) fs s := by
  rw [exec_For]
  refine seg_bindP (wpAny_standAt ?_)
  refine seg_bindP (wpAny_mono h (fun xv s₁ h₁ => ?_) fun _ _ x => x)
  refine seg_bindP (wpAny_of_eq (hs xv) ?_)
  refine seg_bindP (wpAny_standAt ?_)
  refine seg_bindP (wpAny_holding (wpAny_mono h₁ (fun it s₂ h₂ => ?_) fun _ _ x => x))
  exact seg_call h₂
end
section
variable {prog : Program} {w : World} {A : Around} {R : GenEnd} {Y : Protocol} {n : Nat} {s₀ : Shared} {fs : List Frame} {s : Shared} {env : Env}
noncomputable abbrev turnK (target : Expr) (it : Value) (body : List Stmt) (env : Env) : Flow → Sem Fin := fun f => match f with
  | .next | .cont => .pure (.again (.forLoop target it body [] env))
  | .brk => .pure (.done .next)
  | .ret v => .pure (.done (.ret v))
noncomputable abbrev turnH (env : Env) : Value → Sem Fin := fun e => ((do noteFrame e env; theTreesLotGoes e : Sem Unit).bind fun _ => .raise e)
theorem seg_forTurn {target : Expr} {it : Value} {body : List Stmt} {k : Result → Sem Fin} {hd : Option Value} {gg : Bool} {ll : List Value} {c₁ : Code} {p₁ : Pos} {kp : List Value}
    (h : wpAny (model prog w) (A.over (.forLoop target it body [] env) (.ret k hd gg ll c₁ p₁ kp :: fs)) (pyNext it) (fun ov s₁ => match ov with
      | none => Seg (model prog w) A R Y n s₀ c₁ (k (.ok .next)) fs s₁
      | some v => wpAny (model prog w) (A.over (.forLoop target it body [] env) (.ret k hd gg ll c₁ p₁ kp :: fs)) (letOwnedTupleGo target it v) (fun _ s₂ =>
          wpAny (model prog w) (A.over (.forLoop target it body [] env) (.ret k hd gg ll c₁ p₁ kp :: fs)) (assign target env v) (fun _ s₃ =>
            Seg (model prog w) A R Y n s₀ (.forLoop target it body [] env) ((execs body env).wrap (turnK target it body env) (turnH env) id id) (.ret k hd gg ll c₁ p₁ kp :: fs) s₃) (fun _ _ => False) s₂) (fun _ _ => False) s₁) (fun _ _ => False) s) :
    Seg (model prog w) A R Y n s₀ (.forLoop target it body [] env) ((model prog w).den (.forLoop target it body [] env)) (.ret k hd gg ll c₁ p₁ kp :: fs) s := by
  show Seg _ A R Y n s₀ _ ((forTurn target it body [] env).onRaise (fun x => do noteFrame x env; theTreesLotGoes x)) _ s
  rw [Sem.onRaise_eq_wrap]
  unfold forTurn
  refine seg_bindP (wpAny_standAt ?_)
  refine seg_bindP (wpAny_onRaise (wpAny_mono h (fun ov s₁ h₁ => ?_) fun _ _ x => x.elim))
  cases ov with
  | none =>
    refine seg_again rfl ?_
    show Seg _ A R Y n s₀ _ (Sem.pure (Fin.done .next)) _ s₁
    exact seg_leaf (.ok .next) h₁
  | some v =>
    refine seg_bindP (wpAny_mono h₁ (fun _ s₂ h₂ => ?_) fun _ _ x => x)
    refine seg_bindP (wpAny_mono h₂ (fun _ s₃ h₃ => ?_) fun _ _ x => x)
    rw [Sem.bind_eq_wrap', Sem.wrap_wrap]
    refine (congrArg (fun t => Seg (model prog w) A R Y n s₀ (.forLoop target it body [] env) t (.ret k hd gg ll c₁ p₁ kp :: fs) s₃) (Sem.wrap_congr (K' := turnK target it body env) (H' := turnH env) (execs body env) (fun g => id (id g)) (fun l => id (id l)) ?_ ?_)).mpr h₃
    · intro f; cases f <;> rfl
    · intro e; rfl
end
section
variable {prog : Program} {w : World} {A : Around} {E : Value → Shared → Prop} {s : Shared}
theorem next_genQ {a : Addr} {g n : Nat} {gs : GenState} {P : Nat → Shared → Shared → Prop} {Y : Protocol} {Q : Option Value → Shared → Prop} (hh : A.handled = none)
    (hl : s.heap.NoLimit) (hroom : A.depth < recursionLimit) (hg : s.heap.IsGen a g) (hgs : s.gens[g]? = some gs)
    (hgo : gs.Goes (model prog w) A.in1 (fun n s₀ r s₁ => r = .ok (.ret .none) ∧ P n s₀ s₁) Y n (.send .none) (s.setGen g .running))
    (hY : ∀ v s₁ gs', gs'.bare = true → Y (n - 1) (s.setGen g .running) v s₁ (fun r' s'' => match n with
        | 0 => False
        | m + 1 => gs'.Goes (model prog w) A.in1 (fun n s₀ r s₁ => r = .ok (.ret .none) ∧ P n s₀ s₁) Y m r' s'') → Q (some v) (s₁.setGen g gs'))
    (hP : ∀ s₁, P n (s.setGen g .running) s₁ → ∀ h', (∀ b o, s₁.heap.get? b = some o → h'.get? b = some o) → Q none { s₁.setGen g .finished with heap := h' }) :
    wpAny (model prog w) A (pyNext (.ref a)) Q E s := by
  unfold pyNext
  refine wpAny_bind (wpAny_attempt (wpAny_callSpecial?_slot (name := Str.ofString "__next__") hg.typeIs slot_gen_next
    (wpAny_call_entry slot_gen_next hg.typeIs entry_gen_next ?_ (args_gen_next _))))
  show wpAny _ A.in1 (Builtin.Generator.genWake (.ref a) (.send .none)) _ _ s
  unfold Builtin.Generator.genWake
  refine wpAny_bind (wpAny_holding (wpAny_genNumber hg (wpAny_bind (wpAny_genState hgs ?_))))
  cases gs with
  | running => exact hgo.elim
  | finished => exact hgo.elim
  | _ =>
    refine wpAny_bind (wpAny_roomToWake hl hroom ?_)
    show wpAny _ A.in1 (.resume g (.send .none) [] _) _ _ s
    refine wpAny_resumeQ hgs hgo (fun x s₁ hx => ?_) (fun v s₁ gs' hb hv => ?_)
    · obtain ⟨rfl, hp⟩ := hx
      show wpAny _ A.in1 (newExc (.type "StopIteration") [] >>= _) _ _ _
      refine wpAny_bind ?_
      simp only [newExc, newTuple]
      refine wpAny_bind (wpAny_newObj_type ?_ (by size_fits))
      refine wpAny_bind (m := firstArgMember _ _) (wpAny_of_eq (a := Value.none) (by first | rfl | (simp only [firstArgMember]; rfl)) ?_)
      refine wpAny_newObj_type ?_ (by size_fits)
      simp only [raiseNew]
      refine wpAny_bind (wpAny_bind (wpAny_handled ?_))
      first | rw [show A.in1.handled = none from hh] | rw [hh]
      refine wpAny_throw ?_
      refine wpAny_bind (wpAny_isInstance (T := "StopIteration") (b := true) ⟨_, Heap.get?_push_size _ rfl, rfl⟩ isSubtype_stop ?_)
      exact wpAny_pure (hP s₁ hp _ fun b o hb => Heap.get?_push_of_some _ (Heap.get?_push_of_some _ hb))
    · exact wpAny_pure ⟨v, rfl, wpAny_pure (hY v s₁ gs' hb hv)⟩
end
end Mine
end

section
theorem Mine.offChk : True := by
  w_top off
  trivial
open PySem PySem.W PyProof.Rows PySem.Spec PySem.Calls
set_option Elab.async false
set_option maxRecDepth 100000
set_option maxHeartbeats 1000000
namespace Mine
set_option pp.deepTerms false
set_option pp.maxSteps 3000
theorem strip_spec {w : World} {vp : Program} {vl : List Str} {mean : ExcName → Option Value} {mg mb : Str → Option Value} {A : Around} {s : Shared} {Q E : Value → Shared → Prop} (hh : A.handled = none) (hdp : A.depth + 20 < recursionLimit) (hun : A.units + 100 < cLine) (KX : (hd.heap_1 w.params).In s.heap) (T : Top vp vl mean mg mb s.heap) {x : Str} {tx : Tok} (hx : x.length ≤ 100) (hq : Builtin.Str.occurrences x (Str.ofString "\"") 0 x.length 1 = [])
    (hQ : ∀ h' tk, Kept s.heap h' → Q (.str x tx) ⟨h', s.gens, s.drawn, tk, s.os⟩) :
    wpAny (model PySem.Challenge.rw_re0075_01.row.toRowW.prog w) A (call (.ref 42) [.str x tx]) Q E s := by
  obtain ⟨_, dp, fr, gd, un⟩ := A; cases hh; dsimp only at hdp hun; revert KX; k_fill; intro KX
  refine wpAny_call ?_; k_dflt (refine' ent [(Str.ofString "addr", .str x tx)] KX T ?k6 ?k7 ?k8 ?k9 ?kB ?_ ?c2 ?c3 ?c4 ?c5; (case k6 => k_is); (case k7 => k_is); (case k8 => (dsimp only; omega)); (case k9 => exact rfl); (case c5 => decide); (case kB => exact locs rfl); (case c2 => exact rfl); (case c3 => exact rfl); (case c4 => exact rfl); k_whole)
  intro h' F' N'
  replace F' : Fr s.heap s.heap.objs.size h' (fun nm => if nm = Str.ofString "addr" then some (.str x tx) else none) := F'
  (try dsimp only)
  (try k_fold)
  refine wpAny_execs_cons (wpAny_If ?_)
  iterate 5 walk1
  rw [hq]
  refine (if_pos rfl).mpr ?_
  k_steps
  exact hQ _ _ (Fr.keep (by assumption))
section
noncomputable abbrev gSince (g : Heap) (L ga : Addr) (s₀ s : Shared) : Prop :=
  ∃ h' tk, s = { s₀ with heap := h', toks := tk } ∧ Kept g h' ∧ (∀ o, s₀.heap.get? L = some o → h'.get? L = some o) ∧ (∀ o, s₀.heap.get? ga = some o → h'.get? ga = some o)
noncomputable def gR (g : Heap) (L ga : Addr) : GenEnd := fun n s₀ r s₁ => r = .ok (.ret .none) ∧ (n = 0 ∧ gSince g L ga s₀ s₁)
noncomputable def gY (g : Heap) (C L ga : Addr) (xs : List Nat) : Protocol := fun m s₀ v s kap =>
  ∃ i T t u c, i + m + 1 = xs.length ∧ xs[i]? = some c ∧ v = .ref T ∧ s.heap.IsTuple T #[.int i t, .str ⟨#[c]⟩ u] ∧ gSince g L ga s₀ s ∧
    ∀ s'' : Shared, (∀ b o, C ≤ b → s.heap.get? b = some o → s''.heap.get? b = some o) → Kept g s''.heap → (∃ o, s''.heap.get? L = some o) → kap (.send .none) s''
noncomputable def GG (w : World) (A₂ : Around) (g : Heap) (C L ga : Addr) (xs : List Nat) (i : Nat) (gs : GenState) (h : Heap) : Prop :=
  ∀ s'' : Shared, (∀ b o, C ≤ b → h.get? b = some o → s''.heap.get? b = some o) → Kept g s''.heap → (∃ o, s''.heap.get? L = some o) →
    gs.Goes (model PySem.Challenge.rw_re0075_01.row.toRowW.prog w) A₂ (gR g L ga) (gY g C L ga xs) (xs.length - i) (.send .none) s''
end
theorem gSince_step {g : Heap} {L ga : Addr} {s₀ : Shared} {h h' : Heap} {G : Array GenState} {d : Drawn} {tk tk' : Nat} {os : OsState} (x : gSince g L ga s₀ ⟨h, G, d, tk, os⟩) (hg : Kept g h') (hL : ∀ o, h.get? L = some o → h'.get? L = some o)
    (ha : ∀ o, h.get? ga = some o → h'.get? ga = some o) : gSince g L ga s₀ ⟨h', G, d, tk', os⟩ := by
  obtain ⟨h1, tk1, e, _, a, b⟩ := x
  cases e
  exact ⟨h', tk', rfl, hg, fun o e => hL o (a o e), fun o e => ha o (b o e)⟩
theorem seg_loop {M : Model} {A : Around} {R : GenEnd} {Y : Protocol} {c : Code} {fs : List Frame} {N : Nat} (Inv : Nat → Shared → Shared → Prop)
    (step : ∀ i s₀ s, i < N → Inv i s₀ s → (∀ s₀' s', Inv (i + 1) s₀' s' → Seg M A R Y (N - (i + 1)) s₀' c (M.den c) fs s') → Seg M A R Y (N - (i + 1) + 1) s₀ c (M.den c) fs s)
    (last : ∀ s₀ s, Inv N s₀ s → Seg M A R Y 0 s₀ c (M.den c) fs s) : ∀ k i s₀ s, N - i = k → i ≤ N → Inv i s₀ s → Seg M A R Y k s₀ c (M.den c) fs s := by
  intro k
  induction k with
  | zero => intro i s₀ s hk hi h; have : i = N := by omega
            subst this; exact last s₀ s h
  | succ k ih =>
    intro i s₀ s hk hi h
    have e : N - (i + 1) = k := by omega
    have := step i s₀ s (by omega) h (fun s₀' s' h' => by rw [e]; exact ih (i + 1) s₀' s' e (by omega) h')
    rw [e] at this
    exact this
theorem enum_walks {w : World} {h : Heap} {e it : Addr} {x : Str} {t : Tok} {old : Value} (hne : e ≠ it) (he : IsEnum h e it 0 old) (hit : h.IsStrIter it (strIterType x) x t 0) :
    ∃ (St : Nat → Heap → Prop) (Mid : Nat → Addr → Heap → Prop), (∀ A' : Around, A'.handled = none → WalksT PySem.Challenge.rw_re0075_01.row.toRowW.prog w A' e [e, it] [e, it] x.cps.size (fun i vals => ∃ t c u, x.cps[i]? = some c ∧ vals = #[.int i t, .str ⟨#[c]⟩ u]) St Mid) ∧
      St 0 h ∧ ∀ i h, St i h → ∃ oe oi, h.get? e = some oe ∧ h.get? it = some oi := by
  have hef : e ∉ [it] := fun hm => hne (List.mem_singleton.mp hm)
  have turn : ∀ {cls : String}, (∀ A' : Around, A'.handled = none → Draws PySem.Challenge.rw_re0075_01.row.toRowW.prog w A'.in1 it [it] x.cps.size (fun i v => ∃ c u, x.cps[i]? = some c ∧ v = .str ⟨#[c]⟩ u) (fun i h => h.IsStrIter it cls x t i)) → h.IsStrIter it cls x t 0 →
      ∃ (St : Nat → Heap → Prop) (Mid : Nat → Addr → Heap → Prop), (∀ A' : Around, A'.handled = none → WalksT PySem.Challenge.rw_re0075_01.row.toRowW.prog w A' e [e, it] [e, it] x.cps.size (fun i vals => ∃ t c u, x.cps[i]? = some c ∧ vals = #[.int i t, .str ⟨#[c]⟩ u]) St Mid) ∧
      St 0 h ∧ ∀ i h, St i h → ∃ oe oi, h.get? e = some oe ∧ h.get? it = some oi := by
    intro cls D hit'
    refine ⟨fun i h => (∃ old, IsEnum h e it i old) ∧ h.IsStrIter it cls x t i, fun i T h => (∃ x, IsEnumOut h e it ((i : Int) + 1) x T) ∧ h.IsStrIter it cls x t (i + 1) ∧ T ≠ e ∧ T ≠ it, fun A' hA => ?_, ⟨⟨old, he⟩, hit'⟩, fun i h st => ?_⟩
    rotate_left
    · obtain ⟨⟨_, a⟩, o, b, _⟩ := st
      exact ⟨_, _, a, b⟩
    have W := WalksT.enumerateD (D A' hA) e hne hef (by simp)
    refine ⟨W.sub, W.frame, fun i s Q E hi st hQ => W.item i s Q E hi st fun T vals h' tk hP => hQ T vals h' tk ?_, W.go, W.apart, W.done, W.self⟩
    obtain ⟨t, v, ⟨c, u, hc, rfl⟩, rfl⟩ := hP
    exact ⟨t, c, u, hc, rfl⟩
  cases ha : x.cps.all (· < 128)
  · exact turn (fun A' hA => Draws.strWide (A := A'.in1) hA it x t) (by simpa [strIterType, ha] using hit)
  · exact turn (fun A' hA => Draws.strAscii (A := A'.in1) hA it x t) (by simpa [strIterType, ha] using hit)
theorem gen_call {w : World} {vp : Program} {vl : List Str} {mean : ExcName → Option Value} {mg mb : Str → Option Value} {A : Around} {s : Shared} {Q E : Value → Shared → Prop} {g : Heap} {L : Addr} {m : Str → Option Value}
    (hh : A.handled = none) (hdp : A.depth + 20 < recursionLimit) (KX : (hd.heap_1 w.params).In g) (T : Top vp vl mean mg mb g) (F : Fr g L s.heap m) {x : Str} {tx : Tok} (hx : x.length ≤ 100) (hb : ∀ c ∈ x.cps.toList, c ≠ 92)
    (A₂ : Around) (hA₂ : A₂.handled = none)
    (hQ : ∀ ga h' tk gs, ga = s.heap.objs.size + 1 → h'.IsGen ga s.gens.size → Fr g L h' m → gs.bare = true → GG w A₂ g s.heap.objs.size L ga x.cps.toList 0 gs h' → Q (.ref ga) ⟨h', s.gens.push gs, s.drawn, tk, s.os⟩) :
    wpAny (model PySem.Challenge.rw_re0075_01.row.toRowW.prog w) A (call (.ref 35) [.str x tx]) Q E s := by
  obtain ⟨_, dp, fr, gd, un⟩ := A; cases hh; dsimp only at hdp; revert KX; k_fill; intro KX
  obtain ⟨_, d2, f2, g2, u2⟩ := A₂; cases hA₂
  refine wpAny_call ?_
  have KS := KX.keeps F.keep
  refine codeAny_call_generator (by dsimp only; omega) (KS _ _ (by k_is)) rfl rfl rfl rfl (codeRec_of KS (by k_is)) ?_
  refine wpAny_of_eq (a := [(Str.ofString "addr", .str x tx)]) rfl ?_
  refine wpAny_newFunctionEnv (by decide) (locs rfl) (fun h₁ hns hsb => ⟨(T.nolimit.keeps F.keep).fresh _ hsb, ?_⟩) rfl
  have hk1 : ∀ b o, s.heap.get? b = some o → h₁.get? b = some o := fun b o e => hsb.extBut b o (Nat.ne_of_lt (Heap.lt_size e)) (Heap.get?_push_of_some _ e)
  have hsz : h₁.objs.size = s.heap.objs.size + 1 := by rw [hsb.1, Heap.size_push]
  dsimp only
  refine hQ _ _ _ _ hsz ?_ ?_ rfl ?_
  · exact ⟨_, _, _, Heap.get?_push_size _ rfl, rfl, rfl, rfl⟩
  · exact Fr.push ⟨F.ns.at' fun o e => hk1 _ _ e, fun b o e => hk1 b o (F.keep b o e), F.above⟩ _
  · intro s'' hC hg hL
    refine ⟨rfl, seg_func ?_⟩
    obtain ⟨oL, hoL⟩ := hL
    have hLC : L < s.heap.objs.size := F.ns.lt
    have hgC : g.objs.size ≤ s.heap.objs.size := Nat.le_trans F.above (Nat.le_of_lt hLC)
    have FG : Fr g s.heap.objs.size s''.heap (fun nm => if nm = Str.ofString "addr" then some (.str x tx) else none) :=
      ⟨((show h₁.Ns s.heap.objs.size (bm [(Str.ofString "addr", Value.str x tx)]) from bm_eq _ ▸ hns).push _).at' fun o e => hC _ _ (Nat.le_refl _) e, hg, hgC⟩
    obtain ⟨og, hog⟩ : ∃ og, s''.heap.get? h₁.objs.size = some og := ⟨_, hC h₁.objs.size _ (Nat.le.intro hsz.symm) (Heap.get?_push_size h₁ rfl)⟩
    generalize hga : h₁.objs.size = ga at *
    have NG : News g s.heap.objs.size s''.heap [(ga, og), (L, oL)] := by
      refine List.forall_mem_cons.mpr ⟨⟨hog, ?_, ?_⟩, List.forall_mem_cons.mpr ⟨⟨hoL, ?_, ?_⟩, List.forall_mem_nil _⟩⟩
      · show ga ≠ s.heap.objs.size
        omega
      · exact Heap.get?_none_of_le (by show g.objs.size ≤ ga; omega)
      · exact Nat.ne_of_lt hLC
      · exact Heap.get?_none_of_le F.above
    refine seg_execs_cons (seg_plain ?_)
    obtain ⟨h'', G'', d'', tk'', os''⟩ := s''
    dsimp only at FG NG hoL hg
    clear hC hns hsb hk1 hQ
    k_steps
    dsimp only
    refine seg_execs_cons (seg_plain ?_)
    k_steps
    dsimp only
    refine seg_execs_cons (seg_For ?_ (by intro _; rfl))
    iterate 6 walk1
    rename Fr _ _ _ _ => F1
    rename News _ _ _ _ => N1
    rename_i hA hB
    refine call_enumerate_str fun h2 he hit hz2 hk2 => ?_
    dsimp only at he hit hz2 hk2
    have hCB : s.heap.objs.size < hB.objs.size := F1.ns.lt
    have hgaB : ga < hB.objs.size := Heap.lt_size (N1 _ (.head _)).1
    have hLB : L < hB.objs.size := Heap.lt_size (N1 _ (.tail _ (.head _))).1
    have F2 : Fr g s.heap.objs.size h2 _ := ⟨F1.ns.at' fun o e => hk2 _ o e, fun b o e => hk2 b o (F1.keep b o e), F1.above⟩
    have N2 : News g s.heap.objs.size h2 [(ga, og), (L, oL)] := fun p hp => ⟨hk2 _ _ (N1 p hp).1, (N1 p hp).2⟩
    clear N1
    dsimp only
    generalize hit0 : hB.objs.size = it at *
    obtain ⟨St, Mid, W, hst, hex⟩ := enum_walks (w := w) (Nat.succ_ne_self it) he hit
    refine (W _ rfl).self 0 _ _ _ hst ?_
    intro p
    have hfin : ∀ b, b ∈ [it + 1, it] → b ≠ s.heap.objs.size ∧ b ≠ ga ∧ b ≠ L ∧ s.heap.objs.size ≤ b ∧ g.get? b = none := by
      intro b hb
      have hb' : (b : Nat) = it + 1 ∨ (b : Nat) = it := by simpa using hb
      refine ⟨?_, ?_, ?_, ?_, Heap.get?_none_of_le ?_⟩
      · show (b : Nat) ≠ _; omega
      · show (b : Nat) ≠ ga; omega
      · show (b : Nat) ≠ L
        have h1 := ltN hLC
        have h2 := ltN hCB
        omega
      · show (s.heap.objs.size : Nat) ≤ b; omega
      · show (g.objs.size : Nat) ≤ b; omega
    refine seg_loop (N := x.cps.size) (fun i s₀ s' => ∃ o1 o2 oL', St i s'.heap ∧
      Fr g s.heap.objs.size s'.heap (fun nm => if nm = Str.ofString "ch" then o1 else if nm = Str.ofString "pos" then o2 else if nm = Str.ofString "escape" then some (.bool false) else if nm = Str.ofString "addr" then some (.str x tx) else none) ∧ News g s.heap.objs.size s'.heap [(ga, og), (L, oL')] ∧ gSince g L ga s₀ s') ?step ?last _ 0 _ _ ?hN (Nat.zero_le _) ?init
    case hN => simp
    case init =>
      refine' ⟨none, _, oL, hst, ?iF, N2, h2, _, rfl, F2.keep, ?iL, ?iG⟩
      case iF =>
        refine' fr_names [Str.ofString "ch", Str.ofString "pos", Str.ofString "escape", Str.ofString "addr"] ?fF ?fA ?fB
        (case fF => assumption); (case fA => exact List.forall_mem_cons.mpr ⟨(by exact rfl), List.forall_mem_cons.mpr ⟨(by exact rfl), List.forall_mem_cons.mpr ⟨(by exact rfl), List.forall_mem_cons.mpr ⟨(by exact rfl), List.forall_mem_nil _⟩⟩⟩⟩); (case fB => (intro y hy; simp only [List.mem_cons, not_or] at hy; simp only [hy, if_false]))
      case iL => intro o e; rw [hoL] at e; cases e; exact (N2 _ (.tail _ (.head _))).1
      case iG => intro o e; rw [hog] at e; cases e; exact (N2 _ (.head _)).1
    case last =>
      rintro s₀ ⟨h, G3, d3, tk, os3⟩ ⟨o1, o2, oL', hst', F3, N3, hsin⟩
      dsimp only at hst' F3 N3
      refine seg_forTurn ?_
      refine (W _ rfl).done _ _ _ hst' fun h4 tk4 hk4 => ?_
      dsimp only at hk4 ⊢
      have nin : ∀ b : Nat, b = s.heap.objs.size ∨ b = ga ∨ b = L → b ∉ [it.succ, it] := by
        intro b hb hm
        have := hfin b hm
        rcases hb with rfl | rfl | rfl
        · exact this.1 rfl
        · exact this.2.1 rfl
        · exact this.2.2.1 rfl
      have F4 : Fr g s.heap.objs.size h4 _ := ⟨F3.ns.at' fun o e => hk4 _ o (nin _ (.inl rfl)) e, fun b o e => hk4 b o (fun hm => by rw [(hfin b hm).2.2.2.2] at e; cases e) (F3.keep b o e), F3.above⟩
      have N4 : News g s.heap.objs.size h4 [(ga, og), (L, oL')] := List.forall_mem_cons.mpr ⟨⟨hk4 _ _ (nin _ (.inr (.inl rfl))) (N3 _ (.head _)).1, (N3 _ (.head _)).2⟩, List.forall_mem_cons.mpr ⟨⟨hk4 _ _ (nin _ (.inr (.inr rfl))) (N3 _ (.tail _ (.head _))).1, (N3 _ (.tail _ (.head _))).2⟩, List.forall_mem_nil _⟩⟩
      clear N3 F3
      refine seg_execs_cons (seg_If ?_)
      iterate 3 walk1
      refine (if_neg Bool.false_ne_true).mpr ?_
      refine seg_end (.ok (.ret .none)) ⟨rfl, rfl, ?_⟩
      exact gSince_step hsin F4.keep (fun o e => hk4 _ o (nin _ (.inr (.inr rfl))) e) (fun o e => hk4 _ o (nin _ (.inr (.inl rfl))) e)
    case step =>
      rintro i s₀ ⟨h, G3, d3, tk, os3⟩ hi ⟨o1, o2, oL', hst', F3, N3, hsin⟩ ih
      dsimp only at hst' F3 N3
      refine seg_forTurn ?_
      refine ((W _ rfl).item i _ _ _ hi hst' fun TT vals h4 tk4 hP hsz4 hT4 hM4 hk4 => ?_)
      dsimp only at hk4 hsz4 ⊢
      refine (W _ rfl).go _ _ _ i TT _ _ _ hM4 (fun h5 hst5 hk5 => ?_)
      dsimp only at hk5 ⊢
      have nin : ∀ b : Nat, b = s.heap.objs.size ∨ b = ga ∨ b = L → b ∉ [it.succ, it] := by
        intro b hb hm
        have := hfin b hm
        rcases hb with rfl | rfl | rfl
        · exact this.1 rfl
        · exact this.2.1 rfl
        · exact this.2.2.1 rfl
      have up : ∀ b o, b ∉ [it.succ, it] → h.get? b = some o → h5.get? b = some o := fun b o hb e => hk5 b o hb (hk4 b o hb e)
      have F4 : Fr g s.heap.objs.size h5 _ := ⟨F3.ns.at' fun o e => up _ o (nin _ (.inl rfl)) e, fun b o e => up b o (fun hm => by rw [(hfin b hm).2.2.2.2] at e; cases e) (F3.keep b o e), F3.above⟩
      obtain ⟨oe, oi, hoe, hoi⟩ := hex _ _ hst5
      have fe := hfin it.succ (.head _)
      have fi := hfin it (.tail _ (.head _))
      have N4 : News g s.heap.objs.size h5 [(it.succ, oe), (it, oi), (ga, og), (L, oL')] := List.forall_mem_cons.mpr ⟨⟨hoe, fe.1, fe.2.2.2.2⟩, List.forall_mem_cons.mpr ⟨⟨hoi, fi.1, fi.2.2.2.2⟩,
        List.forall_mem_cons.mpr ⟨⟨up _ _ (nin _ (.inr (.inl rfl))) (N3 _ (.head _)).1, (N3 _ (.head _)).2⟩, List.forall_mem_cons.mpr ⟨⟨up _ _ (nin _ (.inr (.inr rfl))) (N3 _ (.tail _ (.head _))).1, (N3 _ (.tail _ (.head _))).2⟩, List.forall_mem_nil _⟩⟩⟩⟩
      have hsin5 := gSince_step (tk' := tk4) hsin F4.keep (fun o e => up _ o (nin _ (.inr (.inr rfl))) e) (fun o e => up _ o (nin _ (.inr (.inl rfl))) e)
      have hT5 : IsTup h5 TT vals := by
        obtain ⟨o, ho, r⟩ := hT4
        exact ⟨o, hk5 _ _ ((W { depth := 0, frames := none, guards := none, units := 0 } rfl).apart _ _ _ hM4) ho, r⟩
      obtain ⟨ti, c, u, hc, rfl⟩ := hP
      have hcb : c ≠ 92 := hb c (by have : x.cps.toList[i]? = some c := by simpa using hc
                                    exact List.mem_of_getElem? this)
      have hL5 := (N4 _ (.tail _ (.tail _ (.tail _ (.head _))))).1
      have hga5 := (N4 _ (.tail _ (.tail _ (.head _)))).1
      have hLn := (N4 _ (.tail _ (.tail _ (.tail _ (.head _))))).2
      have hgan := (N4 _ (.tail _ (.tail _ (.head _)))).2
      dsimp only at hL5 hga5 hLn hgan
      clear N3 F3 hk4 hk5 hT4 hM4 hsin N2 F2 F1
      k_steps
      refine seg_execs_cons (seg_If ?_)
      iterate 3 walk1
      refine (if_neg Bool.false_ne_true).mpr ?_
      refine seg_execs_cons (seg_If ?_)
      iterate 5 walk1
      refine (if_neg ?_).mpr ?_
      · intro hq
        exact hcb (one_is hq (by decide))
      refine seg_execs_cons (seg_Expr_Yield rfl rfl rfl ?_ rfl rfl)
      k_steps
      rename Fr _ _ _ _ => F6
      rename News _ _ _ _ => N6
      rename_i D6 h6 _ kap hkap
      have e6 : ∀ b o, b ∈ [it.succ, it] → h5.get? b = some o → h6.get? b = some o := by
        intro b o hb e
        rcases List.mem_cons.mp hb with rfl | hb
        · rw [hoe] at e; cases e; exact (N6 _ (.tail _ (.head _))).1
        · rw [List.mem_singleton.mp hb] at e ⊢
          rw [hoi] at e; cases e; exact (N6 _ (.tail _ (.tail _ (.head _)))).1
      have hst6 : St (i + 1) h6 := (W { depth := 0, frames := none, guards := none, units := 0 } rfl).frame _ _ _ hst5 fun b hb o e => e6 b o hb e
      have hga6 := (N6 _ (.tail _ (.tail _ (.tail _ (.head _))))).1
      have hL6 := (N6 _ (.tail _ (.tail _ (.tail _ (.tail _ (.head _)))))).1
      refine ⟨i, D6, _, _, c, ?_, ?_, rfl, ⟨_, (N6 _ (.head _)).1, rfl, _, rfl⟩, gSince_step hsin5 F6.keep ?_ ?_, ?_⟩
      · simp only [Array.length_toList]
        omega
      · simpa using hc
      · intro o e
        rw [hL5] at e
        cases e
        exact hL6
      · intro o e
        rw [hga5] at e
        cases e
        exact hga6
      · rintro s7 hC7 hg7 ⟨oL7, hL7⟩
        refine hkap .none s7 ?_
        refine seg_again rfl ?_
        refine ih s7 s7 ?_
        refine' ⟨_, _, oL7, ?i1, ?i2, ?i3, s7.heap, s7.toks, rfl, hg7, fun _ e => e, fun _ e => e⟩
        case i1 => exact (W { depth := 0, frames := none, guards := none, units := 0 } rfl).frame _ _ _ hst6 fun b hb o e => hC7 b o (hfin b hb).2.2.2.1 e
        case i2 =>
          refine' fr_names [Str.ofString "ch", Str.ofString "pos", Str.ofString "escape", Str.ofString "addr"] ?fF ?fA ?fB
          (case fF => exact ⟨F6.ns.at' fun o e => hC7 _ o (Nat.le_refl _) e, hg7, F6.above⟩); (case fA => exact List.forall_mem_cons.mpr ⟨(by exact rfl), List.forall_mem_cons.mpr ⟨(by exact rfl), List.forall_mem_cons.mpr ⟨(by exact rfl), List.forall_mem_cons.mpr ⟨(by exact rfl), List.forall_mem_nil _⟩⟩⟩⟩); (case fB => (intro y hy; simp only [List.mem_cons, not_or] at hy; simp only [hy, if_false]))
        case i3 => exact List.forall_mem_cons.mpr ⟨⟨hC7 _ _ (by show (s.heap.objs.size : Nat) ≤ ga; omega) hga6, hgan⟩, List.forall_mem_cons.mpr ⟨⟨hL7, hLn⟩, List.forall_mem_nil _⟩⟩
end Mine
end

section
theorem Mine.offCmp : True := by
  w_top off
  trivial
open PySem PySem.W PyProof.Rows PySem.Spec PySem.Calls PyProof.Rows.LCg
set_option Elab.async false
set_option maxRecDepth 100000
namespace Mine
section
variable {prog : Program} {w : World} {A : Around} {E : Value → Shared → Prop} {s : Shared} {h₀ : Heap} {L : Addr} {m : Str → Option Value} {env : Env}
/-- the turns of a list comprehension by an invariant -/
theorem rest_ind {elt : Expr} {x : Str} {scope : Scope} {cl : List (Str × Addr)} {S : List (Addr × Obj) → Prop} {P : Nat → Value → Prop} {Fin : List Value → List (Addr × Obj) → Prop} {n : Nat} (J : Nat → List Value → List (Addr × Obj) → Prop)
    (turn : ∀ i ys news, i < n → J i ys news → ∀ v I oI C oC D m₂ h tk (E' : Value → Shared → Prop), P i v → NsObj oC m₂ → m₂ x = some v → Fr h₀ L h m → News h₀ L h ((I, oI) :: (C, oC) :: (D, lst ys) :: news) → Off3 I C D news → ((@Ne Nat I C) ∧ (@Ne Nat I D) ∧ (@Ne Nat C D)) →
      wpAny (model prog w) A (eval elt (compEnvC scope cl C env)) (CompEnd h₀ L m { s with heap := h, toks := tk } I oI C oC D (lst ys) S (fun y news' => J (i + 1) (ys ++ [y]) news')) E' { s with heap := h, toks := tk })
    (fin : ∀ ys news, J n ys news → Fin ys news) : ∀ k i ys news, i + k = n → J i ys news → CompRest prog w A h₀ L m env elt x scope cl s S P Fin k i ys news := by
  intro k
  induction k with
  | zero =>
    intro i ys news e j
    have e : i = n := e
    subst e
    exact fin _ _ j
  | succ k ih =>
    intro i ys news e j v I oI C oC D m₂ h tk E' hv hC hx F N off ne
    refine wpAny_mono (turn i ys news (by omega) j v I oI C oC D m₂ h tk E' hv hC hx F N off ne) (fun y s₂ q => ?_) fun _ _ e => e
    obtain ⟨h', tk', news', e1, F', N', off', hS, j'⟩ := q
    exact ⟨h', tk', news', e1, F', N', off', hS, ih (i + 1) _ _ (by omega) j'⟩
/-- a list comprehension over a text -/
noncomputable def StrSrc (prog : Program) (w : World) (A : Around) (h₀ : Heap) (L : Addr) (m : Str → Option Value) (env : Env) (elt : Expr) (x : Str) (scope : Scope) (cl : List (Str × Addr)) (Fin : Shared → List Value → List (Addr × Obj) → Prop) (xv : Value) (s₁ : Shared) : Prop :=
  ∃ y t news, xv = .str y t ∧ A.handled = none ∧ Fr h₀ L s₁.heap m ∧ News h₀ L s₁.heap news ∧ y.length ≤ sizeLine ∧
    ∀ g, CompRest prog w A h₀ L m env elt x scope cl { s₁ with heap := g } (fun _ => True) (SignAt y) (Fin { s₁ with heap := g }) y.cps.size 0 [] news
theorem lc_str {elt iter : Expr} {x : Str} {px : Pos} {scope : Scope} {cl : List (Str × Addr)} {pos : Pos} {Q : Value → Shared → Prop} (F₀ : Fr h₀ L s.heap m)
    (hclos : closureFor scope env = pure cl) (hcell : ∀ y ∈ scope.names, y.2 ≠ .cell) (hkind : scope.kind = .function)
    (hnames : ∀ y ∈ scope.names, y.2 = .local → scope.names.lookup y.1 = some .local) (hx : scope.names.lookup x = some .local)
    (h : wpAny (model prog w) A (eval iter env) (StrSrc prog w A h₀ L m env elt x scope cl (fun s₂ => FinE h₀ L m s₂ Q)) E s)
    (hs : ∀ x, foldedSetIterable iter env x = pure x := by intro _; rfl) :
    wpAny (model prog w) A (eval (.ListComp elt [⟨.Name x px, iter, [], 0⟩] scope pos) env) Q E s := by
  rw [eval_ListComp]
  refine wpAny_comprehension_free (use := none) rfl hs hclos hkind hnames (wpAny_mono h (fun xv s₁ h₁ => ?_) fun _ _ e => e)
  obtain ⟨y, t, news, rfl, hh, F, N, hsz, R⟩ := h₁
  have key : ∀ (o : Obj) (St : Nat → Heap → Prop), Walks prog w A s₁.heap.objs.size [s₁.heap.objs.size] [s₁.heap.objs.size] y.cps.size (SignAt y) St → (∀ i h, St i h → ∃ o, h.get? s₁.heap.objs.size = some o) → St 0 (s₁.heap.push o) →
      wpAny (model prog w) A (newList []) (fun acc s₃ => wpAny (model prog w) A (newFunctionEnv scope env.globals cl [] env.qual none .none (some env)) (fun cenv s₄ =>
      codeAny (model prog w) A (.compStart (.ListComp elt [⟨.Name x px, iter, [], 0⟩] scope pos) 0 (.ref s₁.heap.objs.size) acc { cenv with scope := relabel scope env }) (compPost (model prog w) A E none Q acc cenv.locals) s₄) E s₃) E { s₁ with heap := s₁.heap.push o } := by
    intro o St W hex hst
    refine block_U (s₂ := { s₁ with heap := s₁.heap.push o }) (RR := fun acc C => compPost (model prog w) A E none Q acc C) (h₀ := h₀) (L := L) (m := m) (news := news) (S := fun _ => True) W hsz hex ?_ hcell hkind hx hst (fun b hb => ?_)
      (F.keeps fun _ _ e => Heap.get?_push_of_some _ e) (N.grown fun _ _ e => Heap.get?_push_of_some _ e) (Nat.ne_of_lt F.ns.lt) (next_is_new F) (fun p hp => Nat.ne_of_lt (Heap.lt_size (N p hp).1)) trivial (R _) ?_
    · intro i h h' o nw st e e' _ _ _
      refine W.frame _ _ _ st fun b hb o' eo => ?_
      rw [List.mem_singleton.mp hb] at eo ⊢
      rw [e] at eo
      cases eo
      exact e'
    · rw [List.mem_singleton.mp hb]
      show s₁.heap.objs.size < (s₁.heap.push _).objs.size
      rw [Heap.size_push]; exact Nat.lt_succ_self _
    · intro D C h tk m' ys news' F' N' o1 hn hC₀ hD₀ hCL hDL hCD offC fin
      refine ⟨m', hn, fun h'' hs'' => fin D h'' tk (F'.change hs'' hCL hC₀) (fun p hp => ?_) o1⟩
      refine ⟨hs''.extBut _ _ ?_ (N' p hp).1, (N' p hp).2⟩
      rcases List.mem_cons.mp hp with rfl | hp
      · exact Ne.symm hCD
      · exact offC p hp
  cases ha : y.cps.all (· < 128)
  · exact wpAny_pyIter_wide ha (key _ _ (Walks.strWide hh _ y t) (fun _ _ ⟨o, ho, _⟩ => ⟨o, ho⟩) ⟨_, Heap.get?_push_size _ rfl, rfl, rfl⟩)
  · exact wpAny_pyIter_ascii ha (key _ _ (Walks.strAscii hh _ y t) (fun _ _ ⟨o, ho, _⟩ => ⟨o, ho⟩) ⟨_, Heap.get?_push_size _ rfl, rfl, rfl⟩)
/-- texts in a row of values -/
theorem strs_snoc {y : Str} {t : Tok} : ∀ {vs : List Value} {ys : List Str}, StrsAre vs ys → StrsAre (vs ++ [.str y t]) (ys ++ [y]) := kct_snoc
theorem strs_open : ∀ {vs : List Value} {ys : List Str}, StrsAre vs ys → ∃ l : List (Str × Tok), strValues l = vs ∧ l.map (·.1) = ys
  | _, _, .nil => ⟨[], rfl, rfl⟩
  | _, _, .cons y t r => by
    obtain ⟨l, rfl, rfl⟩ := strs_open r
    exact ⟨(y, t) :: l, rfl, rfl⟩
theorem join_strs {D : Addr} {x : Str} {t : Tok} {ys : List Value} {texts : List Str} {Q : Value → Shared → Prop} (hl : s.heap.IsList D ys.toArray) (hs : StrsAre ys texts) (hn : texts.length ≤ 100) (hB : ∀ y ∈ texts, y.length ≤ 1000) (hx : x.length ≤ 10)
    (hq : ∀ t' k, Q (.str (Txt.join x texts) t') { s with toks := k }) : wpAny (model prog w) A (call (.builtin "str.join") [.str x t, .ref D]) Q E s := by
  obtain ⟨l, rfl, e⟩ := strs_open hs
  refine SC.join hl e ?_ hq
  unfold JoinOk
  rw [Bool.not_eq_true']
  refine StrLaws.joinFits hB ?_
  have h1 : texts.length * 1000 ≤ 100 * 1000 := Nat.mul_le_mul_right _ hn
  have h2 : texts.length * x.length ≤ 100 * 10 := Nat.mul_le_mul hn hx
  omega
theorem ints_snoc {vs : List Value} {ns : List Int} {n : Int} {t : Tok} (h : IntsAre vs ns) : IntsAre (vs ++ [.int n t]) (ns ++ [n]) := by
  induction h with
  | nil => exact .cons _ _ .nil
  | cons a b _ ih => exact .cons _ _ ih
/-- a while by an invariant -/
theorem while_any {Q : Flow → Shared → Prop} {test : Expr} {body : List Stmt} {pos : Pos} {news : List (Addr × Obj)} (J : Nat → (Str → Option Value) → List (Addr × Obj) → Array GenState → Prop) {n₀ : Nat}
    (F : Fr h₀ L s.heap m) (N : News h₀ L s.heap news) (hJ : J n₀ m news s.gens)
    (turn : ∀ n m₁ news₁ h₁ tk₁ G, Fr h₀ L h₁ m₁ → News h₀ L h₁ news₁ → J n m₁ news₁ G →
      ∀ Qb, (∀ s', TurnEnd h₀ L s.drawn s.os [] (fun m' news' G' => ∃ n', n' < n ∧ J n' m' news' G') s' → Qb .next s' ∧ Qb .cont s') → (∀ v s', Q (.ret v) s' → Qb (.ret v) s') →
      wpAny (model prog w) A (isTrue test env (eval test env)) (fun b s₂ => if b = true then wpAny (model prog w) A (execs body env) Qb E s₂ else Q .next s₂) E ⟨h₁, G, s.drawn, tk₁, s.os⟩)
    (hE : PassesOwn (model prog w) A env E := by passes_own) :
    wpAny (model prog w) A (exec (.While test body [] pos) env) Q E s := by
  refine wpAny_While (codeAny_whileLoop (fun n s' => ∃ h₁ tk₁ m₁ news₁ G, s' = ⟨h₁, G, s.drawn, tk₁, s.os⟩ ∧ Fr h₀ L h₁ m₁ ∧ News h₀ L h₁ news₁ ∧ J n m₁ news₁ G) ?_ n₀ ⟨s.heap, s.toks, m, news, s.gens, rfl, F, N, hJ⟩)
  rintro n s' ⟨h₁, tk₁, m₁, news₁, G, rfl, F₁, N₁, J₁⟩
  refine wpAny_mono (turn n m₁ news₁ h₁ tk₁ G F₁ N₁ J₁ (fun f s' => match f with
        | .next | .cont => TurnEnd h₀ L s.drawn s.os [] (fun m' news' G' => ∃ n', n' < n ∧ J n' m' news' G') s'
        | .brk => Q .next s'
        | .ret v => Q (.ret v) s') (fun _ h => ⟨h, h⟩) (fun _ _ h => h)) (fun b s₂ h₂ => ?_) hE
  cases b with
  | false =>
    simp only [Bool.false_eq_true, if_false] at h₂ ⊢
    exact wpAny_execs_nil h₂
  | true =>
    simp only [if_true] at h₂ ⊢
    refine wpAny_mono h₂ (fun f s₃ h₃ => ?_) hE
    cases f with
    | next =>
      obtain ⟨m₂, news₂, h', tk, G₂, rfl, F₂, N₂, _, n', hn, J₂⟩ := h₃
      exact ⟨n', hn, h', tk, m₂, news₂, G₂, rfl, F₂, N₂, J₂⟩
    | cont =>
      obtain ⟨m₂, news₂, h', tk, G₂, rfl, F₂, N₂, _, n', hn, J₂⟩ := h₃
      exact ⟨n', hn, h', tk, m₂, news₂, G₂, rfl, F₂, N₂, J₂⟩
    | brk => exact h₃
    | ret v => exact h₃
end
end Mine
end

section
theorem Mine.offCk2 : True := by
  w_top off
  trivial
local macro_rules | `(tactic| walk_at "none such") => `(tactic| fail)
open PySem PySem.W PyProof.Rows PySem.Spec PySem.Calls
set_option Elab.async false
set_option maxRecDepth 100000
set_option maxHeartbeats 1000000
namespace Mine
set_option pp.deepTerms false
set_option pp.maxSteps 3000
noncomputable def chkStep (a : Option Int) (c : Nat) : Option Int := match a with
  | none => none
  | some k => if c = 40 then some (k + 1) else if c = 41 then (if k - 1 < 0 then none else some (k - 1)) else some k
noncomputable def chkF (cs : List Nat) : Bool := match cs.foldl chkStep (some 0) with | some k => k == 0 | none => false
theorem own_from {g h : Heap} {L C : Addr} (hLC : L < C) (hgC : g.objs.size ≤ C) : ∃ own, (∀ b o, C ≤ b → h.get? b = some o → (b, o) ∈ own) ∧ News g L h own := by
  refine ⟨ownOf g ((List.range h.objs.size).filter fun b => decide (C ≤ b)) h, fun b o hb e => mem_ownOf ?_ (Heap.get?_none_of_le (Nat.le_trans hgC hb)) e, news_ownOf fun hm => ?_⟩
  · exact List.mem_filter.mpr ⟨List.mem_range.mpr (Heap.lt_size e), decide_eq_true hb⟩
  · have := of_decide_eq_true (List.mem_filter.mp hm).2
    exact absurd hLC (Nat.not_lt.mpr this)
theorem own_gen {M : Model} {A : Around} {E : Value → Shared → Prop} {s : Shared} {Q : Unit → Shared → Prop} {ga : Addr} {gn : Nat} {elts : List Expr} {k : Nat} {pos : Pos} {T : Addr} (hg : s.heap.IsGen ga gn) (h : Q () s) :
    wpAny M A (letOwnedTupleGo (.Tuple elts k pos) (.ref ga) (.ref T)) Q E s := by
  obtain ⟨o, nm, qn, ho, hc, hd, hsl⟩ := hg
  unfold letOwnedTupleGo
  refine wpAny_bind (wpAny_load ho ?_)
  simp only [hc, hd]
  exact wpAny_pure h
theorem bare_set1 {G : Array GenState} {gn : Nat} {b : GenState} (hG : AllBare G) (hb : b.bare = true) : AllBare (G.setIfInBounds gn b) := by
  intro y hy
  rcases Array.mem_or_eq_of_mem_setIfInBounds hy with h | rfl
  · exact hG y h
  · exact hb
theorem bare_set {G : Array GenState} {gn : Nat} {b : GenState} (hG : AllBare G) (hb : b.bare = true) : AllBare ((G.setIfInBounds gn .running).setIfInBounds gn b) := bare_set1 (bare_set1 hG rfl) hb
theorem chk_step {cs : List Nat} {c : Nat} {v : Int} (h : cs.foldl chkStep (some 0) = some v) : (cs ++ [c]).foldl chkStep (some 0) = chkStep (some v) c := by rw [List.foldl_append, h]; rfl
theorem chk_none (cs : List Nat) : cs.foldl chkStep none = none := by
  induction cs with
  | nil => rfl
  | cons c r ih => exact ih
theorem chk_bound (cs : List Nat) (v : Int) (h : cs.foldl chkStep (some 0) = some v) : 0 ≤ v ∧ v ≤ cs.length := by
  have key : ∀ (cs : List Nat) (a v : Int), 0 ≤ a → cs.foldl chkStep (some a) = some v → 0 ≤ v ∧ v ≤ a + cs.length := by
    intro cs
    induction cs with
    | nil => intro a v ha h; cases h; simp; exact ha
    | cons c r ih =>
      intro a v ha h
      rw [List.foldl_cons] at h
      generalize hq : chkStep (some a) c = q at h
      unfold chkStep at hq
      simp only at hq
      split at hq
      · subst hq
        have := ih (a + 1) v (by omega) h
        simp only [List.length_cons]; omega
      · split at hq
        · split at hq
          · subst hq
            rw [chk_none] at h; cases h
          · subst hq
            have := ih (a - 1) v (by omega) h
            simp only [List.length_cons]; omega
        · subst hq
          have := ih a v ha h
          simp only [List.length_cons]; omega
  simpa using key cs 0 v (Int.le_refl _) h
theorem gen_call' {w : World} {vp : Program} {vl : List Str} {mean : ExcName → Option Value} {mg mb : Str → Option Value} {A : Around} {s : Shared} {Q E : Value → Shared → Prop} {g : Heap} {L : Addr} {m : Str → Option Value}
    (hh : A.handled = none) (hdp : A.depth + 20 < recursionLimit) (KX : (hd.heap_1 w.params).In g) (T : Top vp vl mean mg mb g) (F : Fr g L s.heap m) {x : Str} {tx : Tok} (hx : x.length ≤ 100) (hb : ∀ c ∈ x.cps.toList, c ≠ 92)
    (hQ : ∀ A1 ga h' tk gs, A1 = A.in1 → ga = s.heap.objs.size + 1 → h'.IsGen ga s.gens.size → Fr g L h' m → gs.bare = true → GG w A1 g s.heap.objs.size L ga x.cps.toList 0 gs h' → Q (.ref ga) ⟨h', s.gens.push gs, s.drawn, tk, s.os⟩) :
    wpAny (model PySem.Challenge.rw_re0075_01.row.toRowW.prog w) A (call (.ref 35) [.str x tx]) Q E s := gen_call hh hdp KX T F hx hb A.in1 hh (fun ga h' tk gs a b c d e => hQ A.in1 ga h' tk gs rfl a b c d e)
local macro_rules | `(tactic| walk_at "call ref") => `(tactic| refine Stop.out ?_)
local macro_rules | `(tactic| walk_at "exec For Tuple Call cons nil") => `(tactic| refine Stop.out ?_)
theorem check_spec {w : World} {vp : Program} {vl : List Str} {mean : ExcName → Option Value} {mg mb : Str → Option Value} {A : Around} {s : Shared} {Q E : Value → Shared → Prop} (hh : A.handled = none) (hdp : A.depth + 30 < recursionLimit) (hun : A.units + 300 < cLine) (KX : (hd.heap_1 w.params).In s.heap) (T : Top vp vl mean mg mb s.heap) {x : Str} {tx : Tok} (hx : x.length ≤ 100) (hq : Builtin.Str.occurrences x (Str.ofString "\"") 0 x.length 1 = []) (hb : ∀ c ∈ x.cps.toList, c ≠ 92) (hG : AllBare s.gens)
    (hQ : ∀ h' tk G', Kept s.heap h' → AllBare G' → Q (.bool (chkF x.cps.toList)) ⟨h', G', s.drawn, tk, s.os⟩) :
    wpAny (model PySem.Challenge.rw_re0075_01.row.toRowW.prog w) A (call (.ref 49) [.str x tx]) Q E s := by
  obtain ⟨_, dp, fr, gd, un⟩ := A; cases hh; dsimp only at hdp hun; revert KX; k_fill; intro KX
  refine wpAny_call ?_; k_dflt (refine' ent [(Str.ofString "addr", .str x tx)] KX T ?k6 ?k7 ?k8 ?k9 ?kB ?_ ?c2 ?c3 ?c4 ?c5; (case k6 => k_is); (case k7 => k_is); (case k8 => (dsimp only; omega)); (case k9 => exact rfl); (case c5 => decide); (case kB => exact locs rfl); (case c2 => exact rfl); (case c3 => exact rfl); (case c4 => exact rfl); k_whole)
  intro h' F' N'
  replace F' : Fr s.heap s.heap.objs.size h' (fun nm => if nm = Str.ofString "addr" then some (.str x tx) else none) := F'
  (try dsimp only)
  (try k_fold)
  k_steps
  refine Stop.go ?_
  refine strip_spec rfl (by simp only [depth_deeper]; omega) (by simp only [units_deeper]; omega) (KX.keeps F'.keep) (T.keeps F'.keep) hx hq ?_
  intro h2 tk2 hk2
  have F2 : Fr s.heap s.heap.objs.size h2 _ := ⟨F'.ns.at' fun o e => hk2 _ o e, fun b o e => hk2 b o (F'.keep b o e), F'.above⟩
  have N2 : News s.heap s.heap.objs.size h2 [] := News.nil
  clear F' N'
  dsimp only
  k_steps
  refine Stop.go ?_
  refine wpAny_For ?_
  k_steps
  refine Stop.go ?_
  rename Fr _ _ _ _ => F3
  rename News _ _ _ _ => N3
  refine gen_call' (g := s.heap) (L := s.heap.objs.size) rfl (by simp only [depth_deeper]; omega) KX T F3 hx hb ?_
  intro A1 ga h4 tk4 gs hA1 hga hgen F4 hbare hGG
  dsimp only at hga hgen hGG ⊢
  rename_i h3
  have hLC : s.heap.objs.size < h3.objs.size := F3.ns.lt
  clear F3 N3
  generalize h3.objs.size = C at *
  refine wpAny_pyIter_gen hgen ?_
  refine loop_any (fun k s' => ∃ i h tk G gs o1 o2 v t, s' = ⟨h, G, s.drawn, tk, s.os⟩ ∧ i ≤ x.cps.size ∧ k = x.cps.size + 1 - i ∧ Fr s.heap s.heap.objs.size h (fun nm => if nm = Str.ofString "ch" then o1 else if nm = Str.ofString "pos" then o2 else if nm = Str.ofString "opens" then some (.int v t) else if nm = Str.ofString "addr" then some (.str x tx) else none) ∧
    h.IsGen ga s.gens.size ∧ G[s.gens.size]? = some gs ∧ AllBare G ∧ GG w A1 s.heap C s.heap.objs.size ga x.cps.toList i gs h ∧ (x.cps.toList.take i).foldl chkStep (some 0) = some v) ?_ (x.cps.size + 1) ?init
  case init =>
    refine' ⟨0, h4, _, _, gs, none, none, 0, _, rfl, Nat.zero_le _, rfl, ?f, hgen, ?g1, ?g2, hGG, rfl⟩
    case f =>
      refine' fr_names [Str.ofString "ch", Str.ofString "pos", Str.ofString "opens", Str.ofString "addr"] ?fF ?fA ?fB
      (case fF => exact F4); (case fA => exact List.forall_mem_cons.mpr ⟨(by exact rfl), List.forall_mem_cons.mpr ⟨(by exact rfl), List.forall_mem_cons.mpr ⟨(by exact rfl), List.forall_mem_cons.mpr ⟨(by exact rfl), List.forall_mem_nil _⟩⟩⟩⟩); (case fB => (intro y hy; simp only [List.mem_cons, not_or] at hy; simp only [hy, if_false]))
    case g1 => simp
    case g2 => exact hG.push hbare
  rintro k s' ⟨i, h, tk, G, gs, o1, o2, v, t, rfl, hi, rfl, F5, hgen5, hgs5, hG5, hGG5, hv⟩
  subst hA1
  have hN5 : h.NoLimit := T.nolimit.keeps F5.keep
  have hl5 : ∃ o, h.get? s.heap.objs.size = some o := let ⟨o, _, _, e, _⟩ := F5.ns; ⟨o, e⟩
  by_cases hlt : i < x.cps.size
  · refine next_genQ (P := fun n s₀ s₁ => n = 0 ∧ gSince s.heap s.heap.objs.size ga s₀ s₁) (Y := gY s.heap C s.heap.objs.size ga x.cps.toList) (n := x.cps.toList.length - i) rfl hN5 (by simp only [depth_deeper]; omega) hgen5 hgs5 (hGG5 _ (fun _ _ _ e => e) F5.keep hl5) ?_ ?_
    · rintro v1 s₁ gs' hb1 ⟨i', TT, ti, u, c, hi', hc, rfl, hT, ⟨h1, tk1, rfl, hk1, hL1, hga1⟩, hkap⟩
      have hi2 : i' = i := by
        rw [Array.length_toList] at hi'
        omega
      subst hi2
      dsimp only [Shared.setGen] at hL1 hga1 hT hkap ⊢
      have hgen1 : h1.IsGen ga s.gens.size := let ⟨o, nm, qn, ho, r⟩ := hgen5; ⟨o, nm, qn, hga1 o ho, r⟩
      refine own_gen hgen1 ?_
      have F6 : Fr s.heap s.heap.objs.size h1 _ := ⟨F5.ns.at' fun o e => hL1 o e, hk1, F5.above⟩
      have hT6 : IsTup h1 TT #[.int i' ti, .str ⟨#[c]⟩ u] := hT
      obtain ⟨own, hown, N6⟩ := own_from (h := h1) hLC (Nat.le_of_lt hLC)
      have hcc : x.cps[i']? = some c := by simpa using hc
      have hst : (x.cps.toList.take (i' + 1)).foldl chkStep (some 0) = chkStep (some v) c := by
        rw [take_step hcc]; exact chk_step hv
      have hbd := chk_bound _ _ hv
      have hx1 : x.cps.size ≤ 100 := hx
      have hbd2 : (x.cps.toList.take i').length ≤ 100 := Nat.le_trans (List.length_take_le _ _) (by omega)
      clear F5 F4 hT hgen5 hL1 hga1
      k_steps
      · have hc40 : c = 40 := one_is (by assumption) (by decide)
        refine' ⟨x.cps.size + 1 - (i' + 1), by omega, i' + 1, _, _, _, gs', _, _, v + 1, _, rfl, by omega, rfl, ?f, ?g, ?g1, bare_set hG5 hb1, ?gg, ?v⟩
        case f =>
          refine' fr_names [Str.ofString "ch", Str.ofString "pos", Str.ofString "opens", Str.ofString "addr"] ?fF ?fA ?fB
          (case fF => assumption); (case fA => exact List.forall_mem_cons.mpr ⟨(by exact rfl), List.forall_mem_cons.mpr ⟨(by exact rfl), List.forall_mem_cons.mpr ⟨(by exact rfl), List.forall_mem_cons.mpr ⟨(by exact rfl), List.forall_mem_nil _⟩⟩⟩⟩); (case fB => (intro y hy; simp only [List.mem_cons, not_or] at hy; simp only [hy, if_false]))
        case g =>
          obtain ⟨o, nm, qn, ho, r⟩ := hgen1
          rename News _ _ _ _ => N9
          exact ⟨o, nm, qn, (N9 _ (hown ga o (by show (C : Nat) ≤ ga; omega) ho)).1, r⟩
        case g1 => exact setGen_self (s := ⟨h1, G.setIfInBounds s.gens.size .running, s.drawn, 0, s.os⟩) (gs := .running) (setGen_self (s := ⟨h1, G, s.drawn, 0, s.os⟩) hgs5)
        case gg =>
          rename News _ _ _ _ => N9
          intro s9 h91 h92 h93
          have hm : x.cps.toList.length - i' = (x.cps.toList.length - (i' + 1)) + 1 := by rw [Array.length_toList]; omega
          have z := hkap s9 (fun b o hb e => h91 b o hb (N9 _ (hown b o hb e)).1) h92 h93
          rw [hm] at z
          exact z
        case v => rw [hst]; simp [chkStep, hc40]
      · have h41 : c = 41 := one_is (by assumption) (by decide)
        have hlt0 : v - 1 < 0 := by assumption
        have e : chkF x.cps.toList = false := by
          unfold chkF
          have e2 : x.cps.toList = x.cps.toList.take (i' + 1) ++ x.cps.toList.drop (i' + 1) := (List.take_append_drop _ _).symm
          rw [e2, List.foldl_append, hst]
          simp [chkStep, h41, hlt0, chk_none]
        rw [e] at hQ
        exact hQ _ _ _ (Fr.keep (by assumption)) (bare_set hG5 hb1)
      · have hc40 : c = 41 := one_is (by assumption) (by decide)
        have hge0 : ¬ v - 1 < 0 := by assumption
        refine' ⟨x.cps.size + 1 - (i' + 1), by omega, i' + 1, _, _, _, gs', _, _, v - 1, _, rfl, by omega, rfl, ?f, ?g, ?g1, bare_set hG5 hb1, ?gg, ?v⟩
        case f =>
          refine' fr_names [Str.ofString "ch", Str.ofString "pos", Str.ofString "opens", Str.ofString "addr"] ?fF ?fA ?fB
          (case fF => assumption); (case fA => exact List.forall_mem_cons.mpr ⟨(by exact rfl), List.forall_mem_cons.mpr ⟨(by exact rfl), List.forall_mem_cons.mpr ⟨(by exact rfl), List.forall_mem_cons.mpr ⟨(by exact rfl), List.forall_mem_nil _⟩⟩⟩⟩); (case fB => (intro y hy; simp only [List.mem_cons, not_or] at hy; simp only [hy, if_false]))
        case g =>
          obtain ⟨o, nm, qn, ho, r⟩ := hgen1
          rename News _ _ _ _ => N9
          exact ⟨o, nm, qn, (N9 _ (hown ga o (by show (C : Nat) ≤ ga; omega) ho)).1, r⟩
        case g1 => exact setGen_self (s := ⟨h1, G.setIfInBounds s.gens.size .running, s.drawn, 0, s.os⟩) (gs := .running) (setGen_self (s := ⟨h1, G, s.drawn, 0, s.os⟩) hgs5)
        case gg =>
          rename News _ _ _ _ => N9
          intro s9 h91 h92 h93
          have hm : x.cps.toList.length - i' = (x.cps.toList.length - (i' + 1)) + 1 := by rw [Array.length_toList]; omega
          have z := hkap s9 (fun b o hb e => h91 b o hb (N9 _ (hown b o hb e)).1) h92 h93
          rw [hm] at z
          exact z
        case v => rw [hst]; simp [chkStep, hc40]; omega
      · have hc40 : c ≠ 40 := one_not (x := Str.ofString "(") (by assumption) (by decide)
        have hc41 : c ≠ 41 := one_not (x := Str.ofString ")") (by assumption) (by decide)
        refine' ⟨x.cps.size + 1 - (i' + 1), by omega, i' + 1, _, _, _, gs', _, _, v, _, rfl, by omega, rfl, ?f, ?g, ?g1, bare_set hG5 hb1, ?gg, ?v⟩
        case f =>
          refine' fr_names [Str.ofString "ch", Str.ofString "pos", Str.ofString "opens", Str.ofString "addr"] ?fF ?fA ?fB
          (case fF => assumption); (case fA => exact List.forall_mem_cons.mpr ⟨(by exact rfl), List.forall_mem_cons.mpr ⟨(by exact rfl), List.forall_mem_cons.mpr ⟨(by exact rfl), List.forall_mem_cons.mpr ⟨(by exact rfl), List.forall_mem_nil _⟩⟩⟩⟩); (case fB => (intro y hy; simp only [List.mem_cons, not_or] at hy; simp only [hy, if_false]))
        case g =>
          obtain ⟨o, nm, qn, ho, r⟩ := hgen1
          rename News _ _ _ _ => N9
          exact ⟨o, nm, qn, (N9 _ (hown ga o (by show (C : Nat) ≤ ga; omega) ho)).1, r⟩
        case g1 => exact setGen_self (s := ⟨h1, G.setIfInBounds s.gens.size .running, s.drawn, 0, s.os⟩) (gs := .running) (setGen_self (s := ⟨h1, G, s.drawn, 0, s.os⟩) hgs5)
        case gg =>
          rename News _ _ _ _ => N9
          intro s9 h91 h92 h93
          have hm : x.cps.toList.length - i' = (x.cps.toList.length - (i' + 1)) + 1 := by rw [Array.length_toList]; omega
          have z := hkap s9 (fun b o hb e => h91 b o hb (N9 _ (hown b o hb e)).1) h92 h93
          rw [hm] at z
          exact z
        case v => rw [hst]; simp [chkStep, hc40, hc41]
    · rintro s₁ ⟨hn, _⟩
      rw [Array.length_toList] at hn
      omega
  · have hin : i = x.cps.size := by omega
    subst hin
    refine next_genQ (P := fun n s₀ s₁ => n = 0 ∧ gSince s.heap s.heap.objs.size ga s₀ s₁) (Y := gY s.heap C s.heap.objs.size ga x.cps.toList) (n := x.cps.toList.length - x.cps.size) rfl hN5 (by simp only [depth_deeper]; omega) hgen5 hgs5 (hGG5 _ (fun _ _ _ e => e) F5.keep hl5) ?_ ?_
    · rintro v1 s₁ gs' hb1 ⟨i', TT, ti, u, c, hi', hc, rfl, hT, ⟨h1, tk1, rfl, hk1, hL1, hga1⟩, hkap⟩
      have hz : x.cps.toList.length - x.cps.size = 0 := by rw [Array.length_toList]; omega
      rw [hz] at hkap
      obtain ⟨o, ho⟩ := hl5
      exact (hkap _ (fun _ _ _ e => e) hk1 ⟨o, hL1 o ho⟩).elim
    · rintro s₁ ⟨hn, h1, tk1, rfl, hk1, hL1, hga1⟩ h7 hk7
      dsimp only [Shared.setGen] at hL1 hk7 ⊢
      have F6 : Fr s.heap s.heap.objs.size h7 _ := ⟨F5.ns.at' fun o e => hk7 _ _ (hL1 o e), fun b o e => hk7 b o (hk1 b o e), F5.above⟩
      have N6 : News s.heap s.heap.objs.size h7 [] := News.nil
      have e : x.cps.toList.take x.cps.size = x.cps.toList := List.take_of_length_le (by simp)
      rw [e] at hv
      have hbd := chk_bound _ _ hv
      have hx1 : x.cps.toList.length ≤ 100 := hx
      clear F5 F4
      refine wpAny_execs_nil ?_
      dsimp only
      k_steps
      have e3 : chkF x.cps.toList = (v == 0) := by unfold chkF; rw [hv]
      rw [e3] at hQ
      exact hQ _ _ _ (Fr.keep (by assumption)) (bare_set hG5 rfl)
end Mine
end

section
theorem Mine.offWrd : True := by
  w_top off
  trivial
open PySem PySem.W PyProof.Rows PySem.Spec PySem.Calls PyProof.Rows.LCg
set_option Elab.async false
set_option maxRecDepth 100000
set_option maxHeartbeats 1000000
namespace Mine
set_option pp.deepTerms false
set_option pp.maxSteps 3000
noncomputable def escB (c : Nat) : Str := Str.ofString "\\" ++ ⟨#[c]⟩
noncomputable def escQ (c : Nat) : Str := if c = 34 then Str.ofString "\\" ++ ⟨#[c]⟩ else ⟨#[c]⟩
noncomputable def wordF (x : Str) (v : Int) : Str := if v ≠ 0 then Txt.join (Str.ofString "") (x.cps.toList.map escB) else Str.ofString "\"" ++ Txt.join (Str.ofString "") (x.cps.toList.map escQ) ++ Str.ofString "\""
theorem escB_len (c : Nat) : (escB c).length = 2 := by unfold escB; rw [Str.length_append]; rfl
theorem escQ_len (c : Nat) : (escQ c).length ≤ 2 := by
  unfold escQ
  split
  · rw [Str.length_append]; exact Nat.le_refl _
  · exact (by decide : 1 ≤ 2)
local macro_rules | `(tactic| walk_at "eval ListComp") => `(tactic| refine Stop.out ?_)
local macro_rules | `(tactic| walk_at "call builtin:str.join") => `(tactic| refine Stop.out ?_)
theorem word_spec {w : World} {vp : Program} {vl : List Str} {mean : ExcName → Option Value} {mg mb : Str → Option Value} {A : Around} {s : Shared} {Q E : Value → Shared → Prop} (hh : A.handled = none) (hdp : A.depth + 20 < recursionLimit) (hun : A.units + 100 < cLine) (KX : (hd.heap_1 w.params).In s.heap) (T : Top vp vl mean mg mb s.heap) {x : Str} {v : Int} {tx tv : Tok} (hx : x.length ≤ 10)
    (hQ : ∀ t h' tk, Kept s.heap h' → Q (.str (wordF x v) t) ⟨h', s.gens, s.drawn, tk, s.os⟩) :
    wpAny (model PySem.Challenge.rw_re0075_01.row.toRowW.prog w) A (call (.ref 103) [.str x tx, .int v tv]) Q E s := by
  obtain ⟨_, dp, fr, gd, un⟩ := A; cases hh; dsimp only at hdp hun; revert KX; k_fill; intro KX
  refine wpAny_call ?_; k_dflt (refine' ent [(Str.ofString "text", .str x tx), (Str.ofString "bare", .int v tv)] KX T ?k6 ?k7 ?k8 ?k9 ?kB ?_ ?c2 ?c3 ?c4 ?c5; (case k6 => k_is); (case k7 => k_is); (case k8 => (dsimp only; omega)); (case k9 => exact rfl); (case c5 => decide); (case kB => exact locs rfl); (case c2 => exact rfl); (case c3 => exact rfl); (case c4 => exact rfl); k_whole)
  intro h' F' N'
  replace F' : Fr s.heap s.heap.objs.size h' (fun nm => if nm = Str.ofString "bare" then some (.int v tv) else if nm = Str.ofString "text" then some (.str x tx) else none) := F'
  (try dsimp only)
  (try k_fold)
  have szl : sizeLine = 16777216 := by decide
  k_steps
  · refine Stop.go ?_
    rename Fr _ _ _ _ => F1
    rename News _ _ _ _ => N1
    refine lc_str (F₀ := F1) (by with_unfolding_all rfl) (by decide) (by rfl) (by decide) (by rfl) ?_
    k_steps
    refine ⟨x, tx, [], rfl, rfl, F1, N1, by omega, fun g => ?_⟩
    refine rest_ind (n := x.cps.size) (fun i ys news => news = [] ∧ StrsAre ys ((x.cps.toList.take i).map escB)) ?_ ?_ _ 0 _ _ (Nat.zero_add _) ⟨rfl, .nil⟩
    · rintro i ys _ hi ⟨rfl, hys⟩ v I oI C oC D m₂ h tk E' ⟨c, u, hc, rfl⟩ hC hm F N off ne
      clear F1 N1
      have hcl : ({ cps := #[c] } : Str).length = 1 := rfl
      k_steps
      rw [take_step hc, List.map_append]
      exact strs_snoc hys
    · rintro ys _ ⟨rfl, hys⟩ D h tk F N off
      have e : x.cps.toList.take x.cps.size = x.cps.toList := List.take_of_length_le (by simp)
      rw [e] at hys
      dsimp only
      k_steps
      refine Stop.go ?_
      have hl9 : x.cps.size ≤ 10 := hx
      refine join_strs (News.isList N (.head _)) hys (by rw [List.length_map, Array.length_toList]; omega) (fun y hy => ?_) (by decide) ?_
      · obtain ⟨c, _, rfl⟩ := List.mem_map.mp hy
        rw [escB_len]; decide
      · intro t' k
        dsimp only
        k_steps
        rename v ≠ 0 => hv
        have e : wordF x v = Txt.join (Str.ofString "") (x.cps.toList.map escB) := if_pos hv
        rw [← e]
        exact hQ _ _ _ F.keep
  · refine Stop.go ?_
    rename Fr _ _ _ _ => F1
    rename News _ _ _ _ => N1
    refine lc_str (F₀ := F1) (by with_unfolding_all rfl) (by decide) (by rfl) (by decide) (by rfl) ?_
    k_steps
    refine ⟨x, tx, [], rfl, rfl, F1, N1, by omega, fun g => ?_⟩
    refine rest_ind (n := x.cps.size) (fun i ys news => news = [] ∧ StrsAre ys ((x.cps.toList.take i).map escQ)) ?_ ?_ _ 0 _ _ (Nat.zero_add _) ⟨rfl, .nil⟩
    · rintro i ys _ hi ⟨rfl, hys⟩ v I oI C oC D m₂ h tk E' ⟨c, u, hc, rfl⟩ hC hm F N off ne
      clear F1 N1
      have hcl : ({ cps := #[c] } : Str).length = 1 := rfl
      k_steps
      · rename (_ == _) = true => hq
        have e := one_is hq (k := 34) (by decide)
        have e2 : escQ c = Str.ofString "\\" ++ ⟨#[c]⟩ := if_pos e
        rw [take_step hc, List.map_append]
        show StrsAre _ (_ ++ [escQ c])
        rw [e2]
        exact strs_snoc hys
      · rename (_ == _) = false => hq
        have e := one_not hq (k := 34) (by decide)
        have e2 : escQ c = ⟨#[c]⟩ := if_neg e
        rw [take_step hc, List.map_append]
        show StrsAre _ (_ ++ [escQ c])
        rw [e2]
        exact strs_snoc hys
    · rintro ys _ ⟨rfl, hys⟩ D h tk F N off
      have e : x.cps.toList.take x.cps.size = x.cps.toList := List.take_of_length_le (by simp)
      rw [e] at hys
      dsimp only
      k_steps
      refine Stop.go ?_
      have hl9 : x.cps.size ≤ 10 := hx
      have hB : ∀ y ∈ x.cps.toList.map escQ, y.length ≤ 2 := fun y hy => by
        obtain ⟨c, _, rfl⟩ := List.mem_map.mp hy
        exact escQ_len c
      have hjl : (Txt.join (Str.ofString "") (x.cps.toList.map escQ)).length ≤ 20 := by
        have h1 := StrLaws.join_length_le (Str.ofString "") (x.cps.toList.map escQ)
        have h2 := StrLaws.sumLen_le _ hB
        have h3 : (x.cps.toList.map escQ).length = x.cps.size := by rw [List.length_map, Array.length_toList]
        have h4 : (Str.ofString "").length = 0 := rfl
        rw [h3] at h1 h2
        rw [h4] at h1
        rw [show Txt.join (Str.ofString "") (x.cps.toList.map escQ) = Str.join (Str.ofString "") (x.cps.toList.map escQ) from StrLaws.glued_eq_join _ _]
        omega
      refine join_strs (News.isList N (.head _)) hys (by rw [List.length_map, Array.length_toList]; omega) (fun y hy => Nat.le_trans (hB y hy) (by decide)) (by decide) ?_
      · intro t' k
        dsimp only
        k_steps
        rename v = 0 => hv
        have e : wordF x v = Str.ofString "\"" ++ Txt.join (Str.ofString "") (x.cps.toList.map escQ) ++ Str.ofString "\"" := if_neg (fun h => h hv)
        rw [← e]
        exact hQ _ _ _ F.keep
end Mine
end

section
theorem Mine.offBnc : True := by
  w_top off
  trivial
local macro_rules | `(tactic| walk_at "none such") => `(tactic| fail)
local macro_rules | `(tactic| walk_at "none such") => `(tactic| fail)
local macro_rules | `(tactic| walk_at "none such") => `(tactic| fail)
open PySem PySem.W PyProof.Rows PySem.Spec PySem.Calls PyProof.Rows.LCg
set_option Elab.async false
set_option maxRecDepth 100000
set_option maxHeartbeats 1000000
namespace Mine
set_option pp.deepTerms false
set_option pp.maxSteps 3000
noncomputable def runsF (x : Str) : List Int := (Txt.split x (Str.ofString ")")).map fun p => (p.length : Int)
noncomputable def bncF (runs : List Int) : Nat → Int → Int → Int → Int → Option Int
  | 0, _, _, _, _ => none
  | n + 1, total, a, part, left =>
    if 0 ≤ a ∧ a ≤ 1000 ∧ part ≤ 1000 ∧ -1000 ≤ left ∧ left ≤ 1000 ∧ -10000 ≤ total ∧ total ≤ 10000 then
      if part > 0 then bncF runs n (total + left) (a + part) ((runs.drop a.toNat).take (min (a + part).toNat runs.length - a.toNat)).sum (left - ((runs.drop a.toNat).take (min (a + part).toNat runs.length - a.toNat)).sum)
      else some total
    else none
noncomputable def bounceF (x : Str) : Option Int :=
  if (runsF x).length ≤ 100 then
    match runsF x with
    | [] => none
    | r :: q => bncF (r :: q) 50 0 1 r (((r :: q).length : Int) - 1 - r)
  else none
local macro_rules | `(tactic| walk_at "exec Assign cons ListComp") => `(tactic| refine Stop.out ?_)
local macro_rules | `(tactic| walk_at "CompSrc") => `(tactic| refine Stop.out ?_)
local macro_rules | `(tactic| walk_at "exec While") => `(tactic| refine Stop.out ?_)
local macro_rules | `(tactic| walk_at "subscriptTail") => `(tactic| refine Stop.out ?_)
local macro_rules | `(tactic| walk_at "call builtin:sum") => `(tactic| refine Stop.out ?_)
theorem bounce_spec {w : World} {vp : Program} {vl : List Str} {mean : ExcName → Option Value} {mg mb : Str → Option Value} {A : Around} {s : Shared} {Q E : Value → Shared → Prop} (hh : A.handled = none) (hdp : A.depth + 20 < recursionLimit) (hun : A.units + 100 < cLine) (KX : (hd.heap_1 w.params).In s.heap) (T : Top vp vl mean mg mb s.heap) {x : Str} {tx : Tok} {r : Int} (hx : x.length ≤ 100) (hr : bounceF x = some r)
    (hQ : ∀ t h' tk, Kept s.heap h' → Q (.int r t) ⟨h', s.gens, s.drawn, tk, s.os⟩) :
    wpAny (model PySem.Challenge.rw_re0075_01.row.toRowW.prog w) A (call (.ref 136) [.str x tx]) Q E s := by
  obtain ⟨hlen, r0, rq, hrq, hb⟩ : (runsF x).length ≤ 100 ∧ ∃ r0 rq, runsF x = r0 :: rq ∧ bncF (runsF x) 50 0 1 r0 (((runsF x).length : Int) - 1 - r0) = some r := by
    unfold bounceF at hr
    split at hr
    · rename (runsF x).length ≤ 100 => h1
      refine ⟨h1, ?_⟩
      split at hr
      · cases hr
      · rename runsF x = _ => h2
        exact ⟨_, _, h2, h2 ▸ hr⟩
    · cases hr
  obtain ⟨_, dp, fr, gd, un⟩ := A; cases hh; dsimp only at hdp hun; revert KX; k_fill; intro KX
  refine wpAny_call ?_; k_dflt (refine' ent [(Str.ofString "signs", .str x tx)] KX T ?k6 ?k7 ?k8 ?k9 ?kB ?_ ?c2 ?c3 ?c4 ?c5; (case k6 => k_is); (case k7 => k_is); (case k8 => (dsimp only; omega)); (case k9 => exact rfl); (case c5 => decide); (case kB => exact locs rfl); (case c2 => exact rfl); (case c3 => exact rfl); (case c4 => exact rfl); k_whole)
  intro h' F' N'
  replace F' : Fr s.heap s.heap.objs.size h' (fun nm => if nm = Str.ofString "signs" then some (.str x tx) else none) := F'
  (try dsimp only)
  (try k_fold)
  k_steps
  refine Stop.go ?_
  rename Fr _ _ _ _ => F1
  rename News _ _ _ _ => N1
  refine LCg.Assign_ListComp_U (F₀ := F1) (by rfl) (by with_unfolding_all rfl) (by with_unfolding_all rfl) (by decide) (by rfl) (by decide) (by rfl) (by rfl) (by rfl) ?_
  k_steps
  refine Stop.go ?_
  rename List.map _ _ = Txt.split _ _ => hsp
  rename Fr _ _ _ _ => F2
  rename News _ _ _ _ => N2
  rename StrsAre _ _ => hst
  rename ∀ (a : Str), _ => hle
  rename List (Str × Tok) => l
  have hrl : runsF x = l.map fun p => (p.1.length : Int) := by
    unfold runsF
    rw [← hsp, List.map_map]
    rfl
  have hll : l.length ≤ 100 := by rw [hrl, List.length_map] at hlen; exact hlen
  refine LCg.CompSrc.ledger rfl F2 N2 (.head _) (by rw [List.size_toArray, strValues, List.length_map, sizeLine_eq]; omega) fun g => ?_
  refine rest_ind (n := (strValues l).toArray.size) (fun i ys news => news = [(_, _)] ∧ IntsAre ys ((l.take i).map fun p => (p.1.length : Int))) ?_ ?_ _ 0 _ _ (Nat.zero_add _) ⟨rfl, .nil⟩
  · rintro i ys _ hi ⟨rfl, hys⟩ v I oI C oC D m₂ h tk E' hv hC hm F N off ne
    have hq : l[i]? = some (l[i]'(by simpa [strValues] using hi)) := List.getElem?_eq_getElem _
    generalize l[i]'(by simpa [strValues] using hi) = p at hq
    obtain ⟨r, tr⟩ := p
    have hv' : v = .str r tr := by
      have : (strValues l)[i]? = some v := by simpa using hv
      rw [strValues, List.getElem?_map, hq] at this
      exact (Option.some.inj this).symm
    subst hv'
    have hrl : r.length ≤ x.length := hle r (List.mem_map.mpr ⟨(r, tr), List.mem_of_getElem? hq, rfl⟩)
    clear F2 N2
    k_steps
    refine ⟨_, _, _, rfl, F, N, off, .inr ⟨_, .head _, rfl, _, rfl⟩, rfl, ?_⟩
    rw [List.take_add_one, hq, List.map_append]
    exact ints_snoc hys
  · rintro ys _ ⟨rfl, hys⟩ D h tk F N off
    have e : l.take (strValues l).toArray.size = l := List.take_of_length_le (by simp [strValues])
    rw [e, ← hrl] at hys
    have hys2 : ys.toArray.size = (runsF x).length := by rw [List.size_toArray]; exact hys.length
    clear F2 N2
    replace N : News s.heap s.heap.objs.size h [(D, lst ys)] := fun p hp => by
      rw [List.mem_singleton.mp hp]; exact N _ (.head _)
    clear off
    dsimp only
    k_steps
    refine Stop.go ?_
    rename News _ _ _ _ => N3
    refine item_list_intsR (News.isList N3 (.head _)) hys (by decide) (by rw [hrq]; exact Int.ofNat_lt.mpr (Nat.succ_pos _)) (by decide) ?_
    intro t
    have e0 : (runsF x).getD (Int.toNat 0) 0 = r0 := by rw [hrq]; rfl
    rw [e0]
    dsimp only
    k_steps
    refine Stop.go ?_
    have hysl : ((ys.toArray.size : Nat) : Int) = ((runsF x).length : Int) := by rw [hys2]
    refine' while_any (h₀ := s.heap) (L := s.heap.objs.size) (n₀ := 50) (fun n m news G => G = s.gens ∧ news = [(D, lst ys)] ∧ ∃ o1 total a part left t1 t2 t3 t4, m = (fun nm => if nm = Str.ofString "stop" then o1 else if nm = Str.ofString "left" then some (.int left t4) else if nm = Str.ofString "part" then some (.int part t3) else if nm = Str.ofString "at" then some (.int a t2) else if nm = Str.ofString "total" then some (.int total t1) else if nm = Str.ofString "runs" then some (.ref D) else if nm = Str.ofString "signs" then some (.str x tx) else none) ∧
        bncF (runsF x) n total a part left = some r) ?hF ?hN ⟨rfl, rfl, none, 0, 1, r0, _, _, _, _, _, rfl, ?hj⟩ ?turn
    case hN => assumption
    case hF =>
      refine' fr_names [Str.ofString "stop", Str.ofString "left", Str.ofString "part", Str.ofString "at", Str.ofString "total", Str.ofString "runs", Str.ofString "signs"] ?fF ?fA ?fB
      (case fF => assumption); (case fA => exact List.forall_mem_cons.mpr ⟨(by exact rfl), List.forall_mem_cons.mpr ⟨(by exact rfl), List.forall_mem_cons.mpr ⟨(by exact rfl), List.forall_mem_cons.mpr ⟨(by exact rfl), List.forall_mem_cons.mpr ⟨(by exact rfl), List.forall_mem_cons.mpr ⟨(by exact rfl), List.forall_mem_cons.mpr ⟨(by exact rfl), List.forall_mem_nil _⟩⟩⟩⟩⟩⟩⟩); (case fB => (intro y hy; simp only [List.mem_cons, not_or] at hy; simp only [hy, if_false]))
    case hj => exact hb
    case turn =>
      rintro n m news h tk G F N ⟨rfl, rfl, o1, total, a, part, left, t1, t2, t3, t4, rfl, hJ⟩ Qb hNx _
      cases n with
      | zero => cases hJ
      | succ n =>
        unfold bncF at hJ
        split at hJ
        · rename _ ∧ _ => hbd
          obtain ⟨b1, b2, b3, b4, b5, b6, b7⟩ := hbd
          by_cases hp : part > 0
          · rw [if_pos hp] at hJ
            dsimp only
            k_steps
            refine Stop.go ?_
            rename Fr _ _ _ _ => F4
            rename News _ _ _ _ => N4
            rename IntsAre _ (List.take _ _) => hI4
            refine LSm.sum_ints F4 N4 rfl (News.isList N4 (.head _)) hI4 ?_
            intro h5 tk5 t5 F5 N5
            generalize (List.take (min (a + part).toNat (runsF x).length - a.toNat) (List.drop a.toNat (runsF x))).sum = sm at hJ ⊢
            clear F4 N4
            dsimp only
            k_steps
            refine' (hNx _ (TurnEnd.mk (fr_names [Str.ofString "stop", Str.ofString "left", Str.ofString "part", Str.ofString "at", Str.ofString "total", Str.ofString "runs", Str.ofString "signs"] ?fF ?fA ?fB) ?N ?ne ⟨n, Nat.lt_succ_self _, rfl, rfl, _, _, _, _, _, _, _, _, _, rfl, hJ⟩)).1
            (case fF => assumption); (case fA => exact List.forall_mem_cons.mpr ⟨(by exact rfl), List.forall_mem_cons.mpr ⟨(by exact rfl), List.forall_mem_cons.mpr ⟨(by exact rfl), List.forall_mem_cons.mpr ⟨(by exact rfl), List.forall_mem_cons.mpr ⟨(by exact rfl), List.forall_mem_cons.mpr ⟨(by exact rfl), List.forall_mem_cons.mpr ⟨(by exact rfl), List.forall_mem_nil _⟩⟩⟩⟩⟩⟩⟩); (case fB => (intro y hy; simp only [List.mem_cons, not_or] at hy; simp only [hy, if_false]))
            case N =>
              rename News _ _ _ _ => N9
              exact fun p hp => N9 p (.tail _ hp)
            case ne => exact fun p _ q hq => absurd hq (List.not_mem_nil)
          · rw [if_neg hp] at hJ
            cases hJ
            dsimp only
            k_steps
            exact hQ _ _ _ (Fr.keep (by assumption))
        · cases hJ
end Mine
end

section
theorem Mine.offRem : True := by
  w_top off
  trivial
open PySem PySem.W PyProof.Rows PySem.Spec PySem.Calls
set_option Elab.async false
set_option maxRecDepth 100000
set_option maxHeartbeats 1000000
namespace Mine
set_option pp.deepTerms false
set_option pp.maxSteps 3000
noncomputable abbrev Brk (x : Str) : Prop := ∀ c ∈ x.cps.toList, c = 40 ∨ c = 41
theorem brk_quot {x : Str} (h : Brk x) : Builtin.Str.occurrences x (Str.ofString "\"") 0 x.length 1 = [] := by
  have e : Str.ofString "\"" = ⟨#[34]⟩ := by decide
  rw [e]
  have z := StrLaws.found_one x 34
  have : decide (34 ∈ x.cps.toList) = false := decide_eq_false fun hm => by rcases h 34 hm with h | h <;> cases h
  rw [this] at z
  have z2 : (Builtin.Str.occurrences x ⟨#[34]⟩ 0 x.length 1).isEmpty = true := by simpa using z
  exact List.isEmpty_iff.mp z2
theorem check_brk {w : World} {vp : Program} {vl : List Str} {mean : ExcName → Option Value} {mg mb : Str → Option Value} {A : Around} {s : Shared} {Q E : Value → Shared → Prop} (hh : A.handled = none) (hdp : A.depth + 30 < recursionLimit) (hun : A.units + 300 < cLine) (KX : (hd.heap_1 w.params).In s.heap) (T : Top vp vl mean mg mb s.heap) {x : Str} {tx : Tok} (hx : x.length ≤ 100) (hb : Brk x) (hG : AllBare s.gens)
    (hQ : ∀ h' tk G', Kept s.heap h' → AllBare G' → Q (.bool (chkF x.cps.toList)) ⟨h', G', s.drawn, tk, s.os⟩) :
    wpAny (model PySem.Challenge.rw_re0075_01.row.toRowW.prog w) A (call (.ref 49) [.str x tx]) Q E s :=
  check_spec hh hdp hun KX T hx (brk_quot hb) (fun c hc => by rcases hb c hc with rfl | rfl <;> decide) hG hQ
noncomputable def comF (x : Str) : Str := if (Txt.rstrip x).length = 0 then Str.ofString "#" else Str.ofString "# " ++ Txt.rstrip x
noncomputable def remF : Nat → Str → Str → Str
  | 0, _, b => b
  | n + 1, a, b => if chkF a.cps.toList = true then b else remF n (a ++ Str.ofString ")") (comF b)
local macro_rules | `(tactic| walk_at "call ref") => `(tactic| refine Stop.out ?_)
local macro_rules | `(tactic| walk_at "exec For Name Call cons nil") => `(tactic| refine Stop.out ?_)
local macro_rules | `(tactic| walk_at "pyIter ref") => `(tactic| refine Stop.out ?_)
theorem comF_len (b : Str) : (comF b).length ≤ b.length + 2 := by
  unfold comF
  have h := len_rstrip b
  have e1 : (Str.ofString "#").length = 1 := by decide
  have e2 : (Str.ofString "# ").length = 2 := by decide
  split
  · omega
  · rw [Str.length_append]; omega
theorem brk_app {x y : Str} (hx : Brk x) (hy : Brk y) : Brk (x ++ y) := by
  intro c hc
  rw [Str.cps_append, Array.toList_append] at hc
  rcases List.mem_append.mp hc with h | h
  · exact hx c h
  · exact hy c h
theorem remark_spec {w : World} {vp : Program} {vl : List Str} {mean : ExcName → Option Value} {mg mb : Str → Option Value} {A : Around} {s : Shared} {Q E : Value → Shared → Prop} (hh : A.handled = none) (hdp : A.depth + 40 < recursionLimit) (hun : A.units + 400 < cLine) (KX : (hd.heap_1 w.params).In s.heap) (T : Top vp vl mean mg mb s.heap) {a b : Str} {ta tb : Tok} (ha : a.length ≤ 12) (hb : Brk a) (hbl : b.length ≤ 20) (hG : AllBare s.gens)
    (hQ : ∀ t h' tk G', Kept s.heap h' → AllBare G' → Q (.str (remF a.length a b) t) ⟨h', G', s.drawn, tk, s.os⟩) :
    wpAny (model PySem.Challenge.rw_re0075_01.row.toRowW.prog w) A (call (.ref 124) [.str a ta, .str b tb]) Q E s := by
  obtain ⟨_, dp, fr, gd, un⟩ := A; cases hh; dsimp only at hdp hun; revert KX; k_fill; intro KX
  refine wpAny_call ?_; k_dflt (refine' ent [(Str.ofString "ahead", .str a ta), (Str.ofString "word", .str b tb)] KX T ?k6 ?k7 ?k8 ?k9 ?kB ?_ ?c2 ?c3 ?c4 ?c5; (case k6 => k_is); (case k7 => k_is); (case k8 => (dsimp only; omega)); (case k9 => exact rfl); (case c5 => decide); (case kB => exact locs rfl); (case c2 => exact rfl); (case c3 => exact rfl); (case c4 => exact rfl); k_whole)
  intro h' F' N'
  replace F' : Fr s.heap s.heap.objs.size h' (fun nm => if nm = Str.ofString "word" then some (.str b tb) else if nm = Str.ofString "ahead" then some (.str a ta) else none) := F'
  (try dsimp only)
  (try k_fold)
  k_steps
  refine Stop.go ?_
  refine wpAny_For ?_
  k_steps
  refine Stop.go ?_
  refine' for_rng (g := s.heap) (L := s.heap.objs.size) (n := a.length) (fun i m news G => AllBare G ∧ news = [] ∧ ∃ o1 x y t1 t2, m = (fun nm => if nm = Str.ofString "k" then o1 else if nm = Str.ofString "word" then some (.str y t2) else if nm = Str.ofString "ahead" then some (.str x t1) else none) ∧ Brk x ∧ x.length = a.length + i ∧ y.length ≤ b.length + 2 * i ∧
      remF (a.length - i) x y = remF a.length a b)
    (by assumption) (by omega) (by omega) (by omega) (by omega) rfl rfl rfl rfl ?hF ?hN ⟨hG, rfl, none, a, b, _, _, rfl, hb, rfl, Nat.le_refl _, rfl⟩ ?turn ?done
  case hN => assumption
  case hF =>
    refine' fr_names [Str.ofString "k", Str.ofString "word", Str.ofString "ahead"] ?fF ?fA ?fB
    (case fF => assumption); (case fA => exact List.forall_mem_cons.mpr ⟨(by exact rfl), List.forall_mem_cons.mpr ⟨(by exact rfl), List.forall_mem_cons.mpr ⟨(by exact rfl), List.forall_mem_nil _⟩⟩⟩); (case fB => (intro y hy; simp only [List.mem_cons, not_or] at hy; simp only [hy, if_false]))
  case turn =>
    rintro i u m news h tk G I oI hi hI ⟨hG1, rfl, o1, x, y, t1, t2, rfl, hbx, hlx, hly, hrem⟩ hnI F2 N2 Qv Ev hNx hBr
    clear hnI
    k_steps
    refine Stop.go ?_
    refine check_brk rfl (dp_le hdp (by decide)) (un_le hun (by decide)) (KX.keeps F2.keep) (T.keeps F2.keep) (by omega) hbx hG1 ?_
    intro h3 tk3 G3 hk3 hG3
    replace F2 := fr_kept F2 hk3
    replace N2 := news_kept N2 hk3
    dsimp only
    obtain ⟨n9, hn9⟩ := sub_ex hi
    rw [hn9] at hrem
    have hl2 := comF_len y
    have e2 : (Str.ofString ")").length = 1 := by decide
    k_steps
    · rename chkF _ = true => hc
      have e : remF (n9 + 1) x y = y := if_pos hc
      rw [e] at hrem
      rw [← hrem] at hQ
      refine hBr _ ?_
      dsimp only
      k_steps
      exact hQ _ _ _ _ (Fr.keep (by assumption)) hG3
    · refine Stop.go ?_
      rename chkF _ = false => hc
      rename Fr _ _ _ _ => F4
      rename News _ _ _ _ => N4
      refine comment_spec rfl (dp_le hdp (by decide)) (un_le hun (by decide)) (KX.keeps F4.keep) (T.keeps F4.keep) (by omega) ?_
      intro t5 h5 tk5 hk5
      replace F4 := fr_kept F4 hk5
      replace N4 := news_kept N4 hk5
      dsimp only
      k_steps
      have e : remF (n9 + 1) x y = remF n9 (x ++ Str.ofString ")") (comF y) := if_neg (by rw [hc]; exact Bool.false_ne_true)
      rw [e] at hrem
      have e3 : a.length - (i + 1) = n9 := sub_next hn9
      refine' (hNx _ (TurnEnd.mk (fr_names [Str.ofString "k", Str.ofString "word", Str.ofString "ahead"] ?fF ?fA ?fB) ?N ?ne ⟨hG3, rfl, _, x ++ Str.ofString ")", comF y, _, _, rfl, brk_app hbx (by decide), ?l1, ?l2, ?l3⟩)).1
      (case fF => assumption); (case fA => exact List.forall_mem_cons.mpr ⟨(by exact rfl), List.forall_mem_cons.mpr ⟨(by exact rfl), List.forall_mem_cons.mpr ⟨(by exact rfl), List.forall_mem_nil _⟩⟩⟩); (case fB => (intro y hy; simp only [List.mem_cons, not_or] at hy; simp only [hy, if_false]))
      case N => assumption
      case ne => exact List.forall_mem_nil _
      case l1 => rw [Str.length_append]; omega
      case l2 => omega
      case l3 => rw [e3]; exact hrem
  case done =>
    rintro m news h tk G ⟨hG1, rfl, o1, x, y, t1, t2, rfl, hbx, hlx, hly, hrem⟩ F2 N2
    dsimp only
    rw [Nat.sub_self] at hrem
    k_steps
    rw [← hrem] at hQ
    exact hQ _ _ _ _ F2.keep hG1
end Mine
end

section
theorem Mine.offFol : True := by
  w_top off
  trivial
open PySem PySem.W PyProof.Rows PySem.Spec PySem.Calls PyProof.Rows.LCg
set_option Elab.async false
set_option maxRecDepth 100000
namespace Mine
/-- a for over an iterator that looks at objects that stay -/
theorem for_own {w : World} {A : Around} {R : Result → Shared → Prop} {h00 : Heap} {G00 : Array GenState} {dr : Drawn} {t00 : Nat} {os : OsState} {env : Env} {x : Str} {px : Pos} {body : List Stmt} {g : Heap} {L I : Addr} {fp : List Addr} {n : Nat} {P : Nat → Value → Prop} {St : Nat → Heap → Prop}
    {m₀ : Str → Option Value} {news₀ : List (Addr × Obj)} (fx : List (Addr × Obj)) (W : Walks PySem.Challenge.rw_re0075_01.row.toRowW.prog w A I fp [I] n P St) (hex : ∀ i h, St i h → ∃ o, h.get? I = some o) (hfp : ∀ b ∈ fp, b = I ∨ ∃ o, (b, o) ∈ fx) (hfI : ∀ p ∈ fx, p.1 ≠ I) (hfL : ∀ b ∈ fp, b ≠ L)
    (J : Nat → (Str → Option Value) → List (Addr × Obj) → Array GenState → Prop)
    (hx : env.kindOf x = some .local) (hp : (env.scope.kind == .class || (env.scope.kind == .module && env.locals != env.globals)) = false)
    (hL : env.locals = L) (hst : St 0 h00) (F : Fr g L h00 m₀) (N : News g L h00 (fx ++ news₀)) (hJ : J 0 m₀ news₀ G00) (hIn : g.get? I = none) (hLI : L ≠ I) (hnI : ∀ p ∈ news₀, p.1 ≠ I)
    (turn : ∀ i v m news h tk G oI, i < n → P i v → J i m news G → (∀ p ∈ news, p.1 ≠ I) → Fr g L h (fun y => if y = x then some v else m y) → News g L h ((I, oI) :: (fx ++ news)) →
      ∀ Qv Ev, (∀ s', TurnEnd g L dr os ((I, oI) :: fx) (J (i + 1)) s' → Qv .next s' ∧ Qv .cont s') → (∀ v s', R (.ok (.ret v)) s' → Qv (.ret v) s') → wpAny (model PySem.Challenge.rw_re0075_01.row.toRowW.prog w) A (execs body env) Qv Ev ⟨h, G, dr, tk, os⟩)
    (done : ∀ m news h tk G, J n m news G → Fr g L h m → News g L h (fx ++ news) → R (.ok .next) ⟨h, G, dr, tk, os⟩) :
    codeAny (model PySem.Challenge.rw_re0075_01.row.toRowW.prog w) A (.forLoop (.Name x px) (.ref I) body [] env) R ⟨h00, G00, dr, t00, os⟩ := by
  subst hL
  refine codeAny_forLoop
    (fun k s' => ∃ h' tk m' news' G i, s' = ⟨h', G, dr, tk, os⟩ ∧ St i h' ∧ Fr g env.locals h' m' ∧ News g env.locals h' (fx ++ news') ∧ (∀ p ∈ news', p.1 ≠ I) ∧ J i m' news' G ∧ i ≤ n ∧ k = n + 1 - i) ?_ (n + 1)
    ⟨_, t00, m₀, news₀, G00, 0, rfl, hst, F, N, hnI, hJ, Nat.zero_le _, rfl⟩
  rintro k s' ⟨h', tk, m', news', G, i, rfl, hst', F', N', hnw', hJ', hi, rfl⟩
  have hall : ∀ p ∈ fx ++ news', p.1 ≠ I := fun p hp => (List.mem_append.mp hp).elim (hfI p) (hnw' p)
  have old : ∀ b o, g.get? b = some o → b ∉ [I] := fun b o e hb => by rw [List.mem_singleton.mp hb, hIn] at e; cases e
  have next : ∀ h₁ : Heap, (∀ b o, b ∉ [I] → h'.get? b = some o → h₁.get? b = some o) → Fr g env.locals h₁ m' ∧ News g env.locals h₁ (fx ++ news') := fun h₁ hk₁ =>
    ⟨⟨F'.ns.at' fun o e => hk₁ _ o (fun q => hLI (List.mem_singleton.mp q)) e, fun b o e => hk₁ b o (old b o e) (F'.keep b o e), F'.above⟩, fun p hp => ⟨hk₁ _ _ (fun q => hall p hp (List.mem_singleton.mp q)) (N' p hp).1, (N' p hp).2⟩⟩
  by_cases hlt : i < n
  · refine W.item i _ _ _ hlt hst' fun v h₁ tk₁ hP hst₁ hk₁ => ?_
    obtain ⟨F₁, N₁⟩ := next h₁ hk₁
    refine wpAny_assign_Name (wpAny_storeName_local hx F₁.ns (fun h₂ hn₂ hs₂ => ?_) hp)
    have F₂ := F₁.set hn₂ hs₂
    have hst₂ : St (i + 1) h₂ := W.frame _ _ _ hst₁ fun b hb o e => (hs₂.2 b (hfL b hb)).trans e
    obtain ⟨oI, hoI⟩ := hex _ _ hst₂
    have N₂ : News g env.locals h₂ ((I, oI) :: (fx ++ news')) := fun p hp => by
      rcases List.mem_cons.mp hp with rfl | hp
      · exact ⟨hoI, Ne.symm hLI, hIn⟩
      · exact N₁.set hs₂ p hp
    refine wpAny_mono (turn i v m' news' h₂ _ G oI hlt hP hJ' hnw' F₂ N₂ (fun f s' => match f with
      | .next | .cont => TurnEnd g env.locals dr os ((I, oI) :: fx) (J (i + 1)) s'
      | .brk => R (.ok .next) s'
      | .ret v => R (.ok (.ret v)) s') _ (fun _ h => ⟨h, h⟩) (fun _ _ h => h)) (fun f s₃ h₃ => ?_) fun _ _ e => e
    have fin : TurnEnd g env.locals dr os ((I, oI) :: fx) (J (i + 1)) s₃ → ∃ k', k' < n + 1 - i ∧ ∃ h' tk m' news' G i, s₃ = ⟨h', G, dr, tk, os⟩ ∧ St i h' ∧ Fr g env.locals h' m' ∧ News g env.locals h' (fx ++ news') ∧ (∀ p ∈ news', p.1 ≠ I) ∧ J i m' news' G ∧ i ≤ n ∧ k' = n + 1 - i := by
      rintro ⟨m₃, news₃, h₄, tk₃, G₃, rfl, F₃, N₃, hn₃, hJ₃⟩
      refine ⟨n + 1 - (i + 1), by omega, h₄, tk₃, m₃, news₃, G₃, i + 1, rfl, ?_, F₃, fun p hp => N₃ p (.tail _ hp), fun p hp => hn₃ p hp (I, oI) (.head _), hJ₃, hlt, rfl⟩
      refine W.frame _ _ _ hst₂ fun b hb o e => ?_
      rcases hfp b hb with rfl | ⟨o', ho'⟩
      · rw [hoI] at e
        cases e
        exact (N₃ _ (.head _)).1
      · have e2 := (N₂ (b, o') (.tail _ (List.mem_append_left _ ho'))).1
        have e3 := (N₃ (b, o') (.tail _ (List.mem_append_left _ ho'))).1
        dsimp only at e2 e3
        rw [e2] at e
        cases e
        exact e3
    cases f with
    | ret v => exact h₃
    | brk => exact h₃
    | cont => exact fin h₃
    | next => exact fin h₃
  · have hin : i = n := by omega
    subst hin
    refine W.done _ _ _ hst' fun h₁ tk₁ hk₁ => ?_
    obtain ⟨F₁, N₁⟩ := next h₁ hk₁
    exact wpAny_execs_nil (done m' news' h₁ tk₁ G hJ' F₁ N₁)
/-- a for over a list that stays as it is -/
theorem for_lst {w : World} {A : Around} {E : Value → Shared → Prop} {R : Result → Shared → Prop} {h00 : Heap} {G00 : Array GenState} {dr : Drawn} {t00 : Nat} {os : OsState} {env : Env} {x : Str} {px : Pos} {body : List Stmt} {g : Heap} {L ax : Addr} {its : Array Value} {k : Nat} {m₀ : Str → Option Value} {news₀ : List (Addr × Obj)}
    (J : Nat → (Str → Option Value) → List (Addr × Obj) → Array GenState → Prop)
    (hh : A.handled = none) (hx : env.kindOf x = some .local) (hp : (env.scope.kind == .class || (env.scope.kind == .module && env.locals != env.globals)) = false)
    (hL : env.locals = L) (F : Fr g L h00 m₀) (N : News g L h00 ((ax, W.listOf its k) :: news₀)) (hJ : J 0 m₀ news₀ G00)
    (turn : ∀ i v m news h tk G I oI, its[i]? = some v → I = h00.objs.size → J i m news G → (∀ p ∈ news, p.1 ≠ I) → Fr g L h (fun y => if y = x then some v else m y) → News g L h ((I, oI) :: (ax, W.listOf its k) :: news) →
      ∀ Qv Ev, (∀ s', TurnEnd g L dr os [(I, oI), (ax, W.listOf its k)] (J (i + 1)) s' → Qv .next s' ∧ Qv .cont s') → (∀ v s', R (.ok (.ret v)) s' → Qv (.ret v) s') → wpAny (model PySem.Challenge.rw_re0075_01.row.toRowW.prog w) A (execs body env) Qv Ev ⟨h, G, dr, tk, os⟩)
    (done : ∀ m news h tk G, J its.size m news G → Fr g L h m → News g L h ((ax, W.listOf its k) :: news) → R (.ok .next) ⟨h, G, dr, tk, os⟩) :
    wpAny (model PySem.Challenge.rw_re0075_01.row.toRowW.prog w) A (pyIter (.ref ax)) (fun it s₂ => codeAny (model PySem.Challenge.rw_re0075_01.row.toRowW.prog w) A (.forLoop (.Name x px) it body [] env) R s₂) E ⟨h00, G00, dr, t00, os⟩ := by
  have hax := (N _ (.head _)).1
  have hl : h00.IsList ax its := ⟨_, hax, rfl, _, rfl⟩
  have hlt : ax < h00.objs.size := Heap.lt_size hax
  refine wpAny_pyIter_list hl ?_
  refine for_own [(ax, W.listOf its k)] (Walks.list hh h00.objs.size ax (Nat.ne_of_lt hlt) its) (fun i h st => by obtain ⟨o, e, _⟩ := st.1; exact ⟨o, e⟩) (fun b hb => ?_) (fun p hp => ?_) (fun b hb => ?_) J hx hp hL
    ⟨⟨_, Heap.get?_push_size _ rfl, rfl, rfl⟩, hl.push _⟩ (F.push _) (news_push N _) hJ (new_none F) (Nat.ne_of_lt F.ns.lt) (fun p hp => new_apart N p (.tail _ hp)) ?_ (fun m news h tk G a b c => done m news h tk G a b c)
  · rcases List.mem_cons.mp hb with rfl | hb
    · exact .inl rfl
    · exact .inr ⟨_, by rw [List.mem_singleton.mp hb]; exact .head _⟩
  · rw [List.mem_singleton.mp hp]; exact Nat.ne_of_lt hlt
  · rcases List.mem_cons.mp hb with rfl | hb
    · exact Ne.symm (Nat.ne_of_lt F.ns.lt)
    · rw [List.mem_singleton.mp hb]; exact (N _ (.head _)).2.1
  · intro i v m news h tk G oI hi hv hJ hn F N
    exact turn i v m news h tk G _ oI hv rfl hJ hn F N
theorem news_sub {g h : Heap} {L : Addr} {all news : List (Addr × Obj)} (N : News g L h all) (hs : ∀ p ∈ news, p ∈ all) : News g L h news := fun p hp => N p (hs p hp)
theorem ints_app {vs us : List Value} {ns ms : List Int} (h : IntsAre vs ns) (h2 : IntsAre us ms) : IntsAre (vs ++ us) (ns ++ ms) := by
  induction h with
  | nil => exact h2
  | cons a b _ ih => exact .cons _ _ ih
theorem ne_of_ltN {a b : Addr} (h : @LT.lt Nat _ a b) : @Ne Nat b a := Nat.ne_of_gt h
section
variable {prog : Program} {w : World} {A : Around} {E : Value → Shared → Prop} {s : Shared}
theorem iadd_lists {l b : Addr} {items items2 : Array Value} {n n2 : Nat} {Q : Value → Shared → Prop} (hl : s.heap.get? l = some (W.listOf items n)) (hb : s.heap.get? b = some (W.listOf items2 n2)) (h1 : items.size ≤ 1000) (h2 : items2.size ≤ 1000)
    (h : Q (.ref l) { s with heap := s.heap.update l (Obj.mapSeq fun x => x ++ items2) }) : wpAny (model prog w) A (inplaceOp .Add (.ref l) (.ref b)) Q E s := by
  have ha : s.TypeIs (.ref l) "list" := ⟨_, hl, rfl⟩
  have hbt : s.TypeIs (.ref b) "list" := ⟨_, hb, rfl⟩
  have hz : sizeLine = 16777216 := by decide
  unfold inplaceOp
  refine wpAny_holding ?_
  have hfi : fillsInplaceSlot (.type "list") "add" (Operator.Add == .Add) = pure false := by
    unfold fillsInplaceSlot
    show (typeLookup (.type "list") (dunderI "add") >>= fun fi => pure (fi.isSome && !isSeqSlot fi)) = pure false
    rw [F.slot_list_iadd.lookup, pure_bind]
    have : isSeqSlot (some (.builtin "list.__iadd__")) = true := by decide +kernel
    rw [this]; rfl
  have hsi : seqSlot? (.type "list") (dunderI "add") = pure (some (.builtin "list.__iadd__")) := PySem.seqSlot_of F.slot_list_iadd.lookup (by decide +kernel)
  refine wpAny_bind (wpAny_typeOf ha (wpAny_bind (wpAny_of_eq hfi ?_)))
  show wpAny _ A (if false = true then _ else _) Q E s
  rw [if_neg Bool.false_ne_true]
  refine wpAny_bind (wpAny_binaryOp1_none (nm := "add") ha hbt noFill_list_add ?_)
  refine wpAny_bind (wpAny_of_eq hsi ?_)
  refine wpAny_bind (wpAny_rule ?_)
  exact call_meets F.slot_list_iadd ha F.entry_list_iadd (F.args_list_iadd_2 _ _) (AutoSeq1.list___iadd___list_list_0 l items n b items2 n2 (by simp [Builtin.List.listTooLong]; omega) (by omega) (by omega)) ⟨hl, hb, h⟩
end
end Mine
end

section
theorem Mine.offBak : True := by
  w_top off
  trivial
local macro_rules | `(tactic| walk_at "none such") => `(tactic| fail)
local macro_rules | `(tactic| walk_at "none such") => `(tactic| fail)
local macro_rules | `(tactic| walk_at "none such") => `(tactic| fail)
local macro_rules | `(tactic| walk_at "none such") => `(tactic| fail)
open PySem PySem.W PyProof.Rows PySem.Spec PySem.Calls PyProof.Rows.LCg
set_option Elab.async false
set_option maxRecDepth 100000
set_option maxHeartbeats 1000000
namespace Mine
set_option pp.deepTerms false
set_option pp.maxSteps 3000
noncomputable def bkIn (runs : List Int) (d : Int) : List Int → List Int → Nat → Option (List Int × Nat)
  | [], g, t => some (g, t)
  | o :: r, g, t =>
    if g.length ≤ 100 ∧ t ≤ 100 then
      if o = d - 1 then
        if t < runs.length then
          if runs.getD t 0 ≤ 100 ∧ 0 ≤ runs.getD t 0 then bkIn runs d r (g ++ [o] ++ List.replicate (runs.getD t 0).toNat d) (t + 1) else none
        else none
      else bkIn runs d r (g ++ [o]) t
    else none
noncomputable def bkOut (runs : List Int) : Nat → Int → List Int → Nat → Option (List Int)
  | 0, _, ds, _ => some ds
  | n + 1, d, ds, t =>
    if ds.length ≤ 100 then
      match bkIn runs d ds [] t with
      | none => none
      | some (g, t') => bkOut runs n (d + 1) g t'
    else none
noncomputable def backF (x : Str) : Option (List Int) :=
  if (runsF x).length ≤ 100 ∧ 1 ≤ (runsF x).length ∧ (runsF x).getD 0 0 ≤ 100 ∧ 0 ≤ (runsF x).getD 0 0 then bkOut (runsF x) ((runsF x).length - 1) 1 (List.replicate ((runsF x).getD 0 0).toNat 0) 1 else none
local macro_rules | `(tactic| walk_at "exec Assign cons ListComp") => `(tactic| refine Stop.out ?_)
local macro_rules | `(tactic| walk_at "CompSrc") => `(tactic| refine Stop.out ?_)
local macro_rules | `(tactic| walk_at "binaryOp Mult ref int") => `(tactic| refine Stop.out ?_)
local macro_rules | `(tactic| walk_at "exec For Name Name cons nil") => `(tactic| refine Stop.out ?_)
local macro_rules | `(tactic| walk_at "exec For Name Call cons nil") => `(tactic| refine Stop.out ?_)
local macro_rules | `(tactic| walk_at "inplaceOp Add ref ref") => `(tactic| refine Stop.out ?_)
local macro_rules | `(tactic| walk_at "pyIter ref") => `(tactic| refine Stop.out ?_)
theorem back_spec {w : World} {vp : Program} {vl : List Str} {mean : ExcName → Option Value} {mg mb : Str → Option Value} {A : Around} {s : Shared} {Q E : Value → Shared → Prop} (hh : A.handled = none) (hdp : A.depth + 20 < recursionLimit) (hun : A.units + 100 < cLine) (KX : (hd.heap_1 w.params).In s.heap) (T : Top vp vl mean mg mb s.heap) {x : Str} {tx : Tok} {r : List Int} (hx : x.length ≤ 100) (hr : backF x = some r)
    (hQ : ∀ l (vs : Array Value) n h' tk, IntsAre vs.toList r → h'.get? l = some (W.listOf vs n) → s.heap.get? l = none → Kept s.heap h' → Q (.ref l) ⟨h', s.gens, s.drawn, tk, s.os⟩) :
    wpAny (model PySem.Challenge.rw_re0075_01.row.toRowW.prog w) A (call (.ref 141) [.str x tx]) Q E s := by
  unfold backF at hr
  split at hr
  rotate_left
  · cases hr
  rename _ ∧ _ => hbd
  obtain ⟨hlen, hlen1, hr1, hr2⟩ := hbd
  obtain ⟨_, dp, fr, gd, un⟩ := A; cases hh; dsimp only at hdp hun; revert KX; k_fill; intro KX
  refine wpAny_call ?_; k_dflt (refine' ent [(Str.ofString "signs", .str x tx)] KX T ?k6 ?k7 ?k8 ?k9 ?kB ?_ ?c2 ?c3 ?c4 ?c5; (case k6 => k_is); (case k7 => k_is); (case k8 => (dsimp only; omega)); (case k9 => exact rfl); (case c5 => decide); (case kB => exact locs rfl); (case c2 => exact rfl); (case c3 => exact rfl); (case c4 => exact rfl); k_whole)
  intro h' F' N'
  replace F' : Fr s.heap s.heap.objs.size h' (fun nm => if nm = Str.ofString "signs" then some (.str x tx) else none) := F'
  (try dsimp only)
  (try k_fold)
  k_steps
  refine Stop.go ?_
  rename Fr _ _ _ _ => F1
  rename News _ _ _ _ => N1
  refine LCg.Assign_ListComp_U (F₀ := F1) (by rfl) (by with_unfolding_all rfl) (by with_unfolding_all rfl) (by decide) (by rfl) (by decide) (by rfl) (by rfl) (by rfl) ?_
  k_steps
  refine Stop.go ?_
  rename List.map _ _ = Txt.split _ _ => hsp
  rename Fr _ _ _ _ => F2
  rename News _ _ _ _ => N2
  rename StrsAre _ _ => hst
  rename ∀ (a : Str), _ => hle
  rename List (Str × Tok) => l
  have hrl : runsF x = l.map fun p => (p.1.length : Int) := by
    unfold runsF
    rw [← hsp, List.map_map]
    rfl
  have hll : l.length ≤ 100 := by rw [hrl, List.length_map] at hlen; exact hlen
  refine LCg.CompSrc.ledger rfl F2 N2 (.head _) (by rw [List.size_toArray, strValues, List.length_map, sizeLine_eq]; omega) fun g => ?_
  refine rest_ind (n := (strValues l).toArray.size) (fun i ys news => news = [(_, _)] ∧ IntsAre ys ((l.take i).map fun p => (p.1.length : Int))) ?_ ?_ _ 0 _ _ (Nat.zero_add _) ⟨rfl, .nil⟩
  · rintro i ys _ hi ⟨rfl, hys⟩ v I oI C oC D m₂ h tk E' hv hC hm F N off ne
    have hq : l[i]? = some (l[i]'(by simpa [strValues] using hi)) := List.getElem?_eq_getElem _
    generalize l[i]'(by simpa [strValues] using hi) = p at hq
    obtain ⟨r, tr⟩ := p
    have hv' : v = .str r tr := by
      have : (strValues l)[i]? = some v := by simpa using hv
      rw [strValues, List.getElem?_map, hq] at this
      exact (Option.some.inj this).symm
    subst hv'
    have hrl : r.length ≤ x.length := hle r (List.mem_map.mpr ⟨(r, tr), List.mem_of_getElem? hq, rfl⟩)
    clear F2 N2
    k_steps
    refine ⟨_, _, _, rfl, F, N, off, .inr ⟨_, .head _, rfl, _, rfl⟩, rfl, ?_⟩
    rw [List.take_add_one, hq, List.map_append]
    exact ints_snoc hys
  · rintro ys _ ⟨rfl, hys⟩ D h tk F N off
    have e : l.take (strValues l).toArray.size = l := List.take_of_length_le (by simp [strValues])
    rw [e, ← hrl] at hys
    have hys2 : ys.toArray.size = (runsF x).length := by rw [List.size_toArray]; exact hys.length
    clear F2 N2
    replace N : News s.heap s.heap.objs.size h [(D, lst ys)] := fun p hp => by
      rw [List.mem_singleton.mp hp]; exact N _ (.head _)
    clear off
    dsimp only
    k_steps
    refine Stop.go ?_
    rename News _ _ _ _ => N3
    rename Fr _ _ _ _ => F3
    have e0 : (runsF x).getD (Int.toNat 0) 0 = (runsF x).getD 0 0 := rfl
    rw [e0]
    generalize (runsF x).getD 0 0 = r0 at *
    refine KM.mul F3 N3 (News.isList N3 (.head _)) (.cons 0 _ .nil) (by omega) (by omega) (by simp; omega) ?_
    intro D4 h4 F4 N4 hlt4 hI4 N44 hs4 hn4 _ hv4
    have ef : (List.replicate r0.toNat [(0 : Int)]).flatten = List.replicate r0.toNat 0 := by
      generalize r0.toNat = n
      induction n with
      | zero => rfl
      | succ n ih => rw [List.replicate_succ, List.flatten_cons, ih]; rfl
    rw [ef] at hI4
    have hne4 : D4 ≠ D := fun e => by
      have := hlt4 (D, lst ys) (.tail _ (.head _))
      rw [e] at this
      exact Nat.lt_irrefl _ this
    clear F3 hn4 hlt4
    replace N4 : News s.heap s.heap.objs.size h4 [(D4, W.listOf (List.replicate r0.toNat [Value.int 0 tk]).flatten.toArray 0), (D, lst ys)] := fun p hp => N4 p (by
      rcases List.mem_cons.mp hp with rfl | hp
      · exact .head _
      · exact .tail _ (.tail _ hp))
    clear N3
    generalize (List.replicate r0.toNat [Value.int 0 tk]).flatten = ds at *
    dsimp only
    k_steps
    refine Stop.go ?_
    refine wpAny_For ?_
    k_steps
    refine Stop.go ?_
    refine' for_rng (g := s.heap) (L := s.heap.objs.size) (n := (runsF x).length - 1) (fun i m news G => G = s.gens ∧ ∃ Dd vs kd, (@Ne Nat Dd D) ∧ news = [(Dd, W.listOf vs kd), (D, lst ys)] ∧ ∃ o1 o2 o3 dl t tt, m = (fun nm => if nm = Str.ofString "one" then o1 else if nm = Str.ofString "grown" then o2 else if nm = Str.ofString "depth" then o3 else if nm = Str.ofString "taken" then some (.int ((t : Nat) : Int) tt) else if nm = Str.ofString "depths" then some (.ref Dd) else if nm = Str.ofString "runs" then some (.ref D) else if nm = Str.ofString "signs" then some (.str x tx) else none) ∧
        IntsAre vs.toList dl ∧ bkOut (runsF x) ((runsF x).length - 1 - i) (1 + (i : Int)) dl t = some r)
      (by assumption) (by omega) (by omega) (by omega) (by omega) rfl rfl rfl rfl ?hF ?hN ⟨rfl, D4, ds.toArray, 0, hne4, rfl, none, none, none, _, 1, _, rfl, hI4, hr⟩ ?turn ?done
    case hN => assumption
    case hF =>
      refine' fr_names [Str.ofString "one", Str.ofString "grown", Str.ofString "depth", Str.ofString "taken", Str.ofString "depths", Str.ofString "runs", Str.ofString "signs"] ?fF ?fA ?fB
      (case fF => assumption); (case fA => exact List.forall_mem_cons.mpr ⟨(by exact rfl), List.forall_mem_cons.mpr ⟨(by exact rfl), List.forall_mem_cons.mpr ⟨(by exact rfl), List.forall_mem_cons.mpr ⟨(by exact rfl), List.forall_mem_cons.mpr ⟨(by exact rfl), List.forall_mem_cons.mpr ⟨(by exact rfl), List.forall_mem_cons.mpr ⟨(by exact rfl), List.forall_mem_nil _⟩⟩⟩⟩⟩⟩⟩); (case fB => (intro y hy; simp only [List.mem_cons, not_or] at hy; simp only [hy, if_false]))
    case turn =>
      rintro i u m news h tk G I oI hi hI ⟨rfl, Dd, vs, kd, hDd, rfl, o1, o2, o3, dl, t, tt, rfl, hvs, hJ⟩ hnI F2 N2 Qv Ev hNx _
      have hId : @Ne Nat Dd I := hnI _ (.head _)
      have hIr : @Ne Nat D I := hnI _ (.tail _ (.head _))
      clear hnI
      obtain ⟨n9, hn9⟩ := sub_ex hi
      rw [hn9] at hJ
      unfold bkOut at hJ
      split at hJ
      rotate_left
      · cases hJ
      split at hJ
      · cases hJ
      rename bkIn _ _ _ _ _ = _ => hin
      rename List Int => g9
      rename Nat => t9
      k_steps
      refine Stop.go ?_
      refine wpAny_For ?_
      k_steps
      refine Stop.go ?_
      rename _ ∧ _ => hne5
      rename News _ _ _ _ => N5
      rename Fr _ _ _ _ => F5
      rename_i Dg0 h51 h52
      refine' for_lst (g := s.heap) (L := s.heap.objs.size) (ax := Dd) (its := vs) (k := kd) (news₀ := [(Dg0, W.listOf #[] 0), (I, oI), (D, lst ys)]) (fun j m news G => G = s.gens ∧ ∃ Dg gs kg, ((@Ne Nat Dg Dd) ∧ (@Ne Nat Dg D) ∧ (@Ne Nat Dg I)) ∧ news = [(Dg, W.listOf gs kg), (I, oI), (D, lst ys)] ∧ ∃ o1 gl t tt,
          m = (fun nm => if nm = Str.ofString "one" then o1 else if nm = Str.ofString "grown" then some (.ref Dg) else if nm = Str.ofString "depth" then some (.int (1 + (i : Int)) u) else if nm = Str.ofString "taken" then some (.int ((t : Nat) : Int) tt) else if nm = Str.ofString "depths" then some (.ref Dd) else if nm = Str.ofString "runs" then some (.ref D) else if nm = Str.ofString "signs" then some (.str x tx) else none) ∧
          IntsAre gs.toList gl ∧ bkIn (runsF x) (1 + (i : Int)) (dl.drop j) gl t = some (g9, t9))
        rfl rfl rfl rfl ?hF2 (news_sub N5 (by lcg_sub)) ⟨rfl, Dg0, #[], 0, ⟨?e1, ?e2, ?e3⟩, rfl, _, [], t, _, rfl, .nil, hin⟩ ?turn2 ?done2
      case hF2 =>
        refine' fr_names [Str.ofString "one", Str.ofString "grown", Str.ofString "depth", Str.ofString "taken", Str.ofString "depths", Str.ofString "runs", Str.ofString "signs"] ?fF ?fA ?fB
        (case fF => exact F5); (case fA => exact List.forall_mem_cons.mpr ⟨(by exact rfl), List.forall_mem_cons.mpr ⟨(by exact rfl), List.forall_mem_cons.mpr ⟨(by exact rfl), List.forall_mem_cons.mpr ⟨(by exact rfl), List.forall_mem_cons.mpr ⟨(by exact rfl), List.forall_mem_cons.mpr ⟨(by exact rfl), List.forall_mem_cons.mpr ⟨(by exact rfl), List.forall_mem_nil _⟩⟩⟩⟩⟩⟩⟩); (case fB => (intro y hy; simp only [List.mem_cons, not_or] at hy; simp only [hy, if_false]))
      case e1 => exact ne_of_ltN hne5.2.1
      case e2 => exact ne_of_ltN hne5.2.2
      case e3 => exact ne_of_ltN hne5.1
      case turn2 =>
        clear F5 N5 hne5
        rintro j v m news h6 tk6 G I6 oI6 hv hI6 ⟨rfl, Dg, gs, kg, ⟨hd1, hd2, hd3⟩, rfl, o1, gl, t, tt, rfl, hgs, hJ6⟩ hnI6 F6 N6 Qw Ew hNy _
        have hj1 : @Ne Nat Dg I6 := hnI6 _ (.head _)
        have hj2 : @Ne Nat I I6 := hnI6 _ (.tail _ (.head _))
        have hj3 : @Ne Nat D I6 := hnI6 _ (.tail _ (.tail _ (.head _)))
        clear hnI6
        have hlt : j < dl.length := by
          rw [← hvs.length, Array.length_toList]
          exact (Array.getElem?_eq_some_iff.mp hv).1
        obtain ⟨tv, hv2⟩ := hvs.get j _ (List.getElem?_eq_getElem hlt)
        have hv3 : v = .int dl[j] tv := by
          have : vs.toList[j]? = some v := by simpa using hv
          rw [this] at hv2
          exact Option.some.inj hv2
        subst hv3
        rw [List.drop_eq_getElem_cons hlt] at hJ6
        clear hv hv2
        generalize dl[j] = o at hJ6 F6
        unfold bkIn at hJ6
        split at hJ6
        rotate_left
        · cases hJ6
        rename _ ∧ _ => hb6
        obtain ⟨hb61, hb62⟩ := hb6
        have hgz : gs.size ≤ 100 := by rw [← Array.length_toList, hgs.length]; exact hb61
        split at hJ6
        · split at hJ6
          rotate_left
          · cases hJ6
          split at hJ6
          rotate_left
          · cases hJ6
          rename _ ∧ _ => hb7
          obtain ⟨hb71, hb72⟩ := hb7
          rename o = _ => hoe
          k_steps
          rotate_left
          · rename o ≠ _ => hone
            exact absurd hoe hone
          refine Stop.go ?_
          rename News _ _ _ _ => N7
          rename Fr _ _ _ _ => F7
          rename _ ∧ _ => hne7
          have e0 : (runsF x).getD ((t : Int).toNat) 0 = (runsF x).getD t 0 := rfl
          rw [e0]
          generalize (runsF x).getD t 0 = r7 at *
          refine KM.mul F7 N7 (News.isList N7 (.head _)) (.cons (1 + (i : Int)) _ .nil) (by omega) (by omega) (by simp; omega) ?_
          intro D8 h8 F8 N8 hlt8 hI8 N88 hs8 hn8 _ hv8
          have ef : (List.replicate r7.toNat [1 + (i : Int)]).flatten = List.replicate r7.toNat (1 + (i : Int)) := by
            generalize r7.toNat = n
            induction n with
            | zero => rfl
            | succ n ih => rw [List.replicate_succ, List.flatten_cons, ih]; rfl
          rw [ef] at hI8
          have hk1 : @LT.lt Nat _ Dg D8 := hlt8 (Dg, _) (.tail _ (.tail _ (.tail _ (.head _))))
          have hk2 : @LT.lt Nat _ D D8 := hlt8 (D, _) (.tail _ (.tail _ (.tail _ (.tail _ (.tail _ (.head _))))))
          have hk3 : @LT.lt Nat _ I D8 := hlt8 (I, _) (.tail _ (.tail _ (.tail _ (.tail _ (.head _)))))
          have hk4 : @LT.lt Nat _ Dd D8 := hlt8 (Dd, _) (.tail _ (.tail _ (.head _)))
          have hk5 : @LT.lt Nat _ I6 D8 := hlt8 (I6, _) (.tail _ (.head _))
          clear F7 hn8 hlt8 hne7
          replace N8 := news_sub (news := [(D8, W.listOf (List.replicate r7.toNat [Value.int (1 + (i : Int)) u]).flatten.toArray 0), (I6, oI6), (Dd, W.listOf vs kd), (Dg, W.listOf (gs.push (Value.int o tv)) (kg + 1)), (I, oI), (D, lst ys)]) N8 (by lcg_sub)
          clear N7
          generalize (List.replicate r7.toNat [Value.int (1 + (i : Int)) u]).flatten = es at *
          have hes : es.length = r7.toNat := by rw [hI8.length, List.length_replicate]
          dsimp only
          k_steps
          refine Stop.go ?_
          have hz9 : (gs.push (Value.int o tv)).size ≤ 1000 := by rw [Array.size_push]; omega
          refine iadd_lists (N8 (Dg, _) (.tail _ (.tail _ (.tail _ (.head _))))).1 (N8 _ (.head _)).1 hz9 (by rw [List.size_toArray, hes]; omega) ?_
          have hs9 := Heap.SameBut.update h8 Dg (Obj.mapSeq fun x => x ++ es.toArray)
          have hg9 := (N8 (Dg, _) (.tail _ (.tail _ (.tail _ (.head _)))))
          replace F8 := F8.change hs9 hg9.2.1 hg9.2.2
          replace N8 := News.setAt (own := [(D8, W.listOf es.toArray 0), (I6, oI6), (Dd, W.listOf vs kd)]) (rest := [(I, oI), (D, lst ys)]) N8
            (List.forall_mem_cons.mpr ⟨Nat.ne_of_gt hk1, List.forall_mem_cons.mpr ⟨Ne.symm hj1, List.forall_mem_cons.mpr ⟨Ne.symm hd1, List.forall_mem_nil _⟩⟩⟩)
            (List.forall_mem_cons.mpr ⟨Ne.symm hd3, List.forall_mem_cons.mpr ⟨Ne.symm hd2, List.forall_mem_nil _⟩⟩) hs9
            (Heap.get?_update_self _ hg9.1 rfl)
          clear hg9 hs9
          generalize h8.update Dg (Obj.mapSeq fun x => x ++ es.toArray) = h9 at *
          obtain ⟨k9, hk9⟩ : ∃ k9, Obj.mapSeq (fun x => x ++ es.toArray) (W.listOf (gs.push (Value.int o tv)) (kg + 1)) = W.listOf (gs.push (Value.int o tv) ++ es.toArray) k9 := ⟨_, rfl⟩
          rw [hk9] at N8
          dsimp only [List.cons_append, List.nil_append] at N8
          dsimp only
          k_steps
          refine' (hNy _ (TurnEnd.mk (fr_names [Str.ofString "one", Str.ofString "grown", Str.ofString "depth", Str.ofString "taken", Str.ofString "depths", Str.ofString "runs", Str.ofString "signs"] ?fF ?fA ?fB) ?N5 ?ne5 ⟨rfl, Dg, gs.push (Value.int o tv) ++ es.toArray, k9, ⟨hd1, hd2, hd3⟩, rfl, _, gl ++ [o] ++ List.replicate r7.toNat (1 + (i : Int)), t + 1, _, rfl, ?i5, hJ6⟩)).1
          (case fF => assumption); (case fA => exact List.forall_mem_cons.mpr ⟨(by exact rfl), List.forall_mem_cons.mpr ⟨(by exact rfl), List.forall_mem_cons.mpr ⟨(by exact rfl), List.forall_mem_cons.mpr ⟨(by exact rfl), List.forall_mem_cons.mpr ⟨(by exact rfl), List.forall_mem_cons.mpr ⟨(by exact rfl), List.forall_mem_cons.mpr ⟨(by exact rfl), List.forall_mem_nil _⟩⟩⟩⟩⟩⟩⟩); (case fB => (intro y hy; simp only [List.mem_cons, not_or] at hy; simp only [hy, if_false]))
          case N5 =>
            rename News _ _ _ _ => N9
            exact news_sub N9 (by lcg_sub)
          case ne5 =>
            intro p hp q hq
            rcases List.mem_cons.mp hq with rfl | hq
            · rcases List.mem_cons.mp hp with rfl | hp
              · exact hj1
              · rcases List.mem_cons.mp hp with rfl | hp
                · exact hj2
                · rw [List.mem_singleton.mp hp]; exact hj3
            · rw [List.mem_singleton.mp hq]
              rcases List.mem_cons.mp hp with rfl | hp
              · exact hd1
              · rcases List.mem_cons.mp hp with rfl | hp
                · exact Ne.symm hId
                · rw [List.mem_singleton.mp hp]; exact Ne.symm hDd
          case i5 =>
            rw [Array.toList_append, Array.toList_push]
            exact ints_app (ints_snoc hgs) hI8
        · k_steps
          · rename o = _ => hoe
            rename ¬ o = _ => hone
            exact absurd hoe hone
          refine' (hNy _ (TurnEnd.mk (fr_names [Str.ofString "one", Str.ofString "grown", Str.ofString "depth", Str.ofString "taken", Str.ofString "depths", Str.ofString "runs", Str.ofString "signs"] ?fF ?fA ?fB) ?N4 ?ne4 ⟨rfl, Dg, gs.push (Value.int o tv), kg + 1, ⟨hd1, hd2, hd3⟩, rfl, _, gl ++ [o], t, _, rfl, ?i4, hJ6⟩)).1
          (case fF => assumption); (case fA => exact List.forall_mem_cons.mpr ⟨(by exact rfl), List.forall_mem_cons.mpr ⟨(by exact rfl), List.forall_mem_cons.mpr ⟨(by exact rfl), List.forall_mem_cons.mpr ⟨(by exact rfl), List.forall_mem_cons.mpr ⟨(by exact rfl), List.forall_mem_cons.mpr ⟨(by exact rfl), List.forall_mem_cons.mpr ⟨(by exact rfl), List.forall_mem_nil _⟩⟩⟩⟩⟩⟩⟩); (case fB => (intro y hy; simp only [List.mem_cons, not_or] at hy; simp only [hy, if_false]))
          case N4 =>
            rename News _ _ _ _ => N9
            exact N9
          case ne4 =>
            intro p hp q hq
            rcases List.mem_cons.mp hq with rfl | hq
            · rcases List.mem_cons.mp hp with rfl | hp
              · exact hj1
              · rcases List.mem_cons.mp hp with rfl | hp
                · exact hj2
                · rw [List.mem_singleton.mp hp]; exact hj3
            · rw [List.mem_singleton.mp hq]
              rcases List.mem_cons.mp hp with rfl | hp
              · exact hd1
              · rcases List.mem_cons.mp hp with rfl | hp
                · exact Ne.symm hId
                · rw [List.mem_singleton.mp hp]; exact Ne.symm hDd
          case i4 =>
            rw [Array.toList_push]
            exact ints_snoc hgs
      case done2 =>
        clear F5 N5 hne5
        rintro m news h6 tk6 G ⟨rfl, Dg, gs, kg, ⟨hd1, hd2, hd3⟩, rfl, o1, gl, t, tt, rfl, hgs, hJ6⟩ F6 N6
        have hdl : dl.drop vs.size = [] := List.drop_of_length_le (by rw [← hvs.length, Array.length_toList]; exact Nat.le_refl _)
        rw [hdl] at hJ6
        cases hJ6
        dsimp only
        k_steps
        have e3 : (runsF x).length - 1 - (i + 1) = n9 := sub_next hn9
        refine' (hNx _ (TurnEnd.mk (fr_names [Str.ofString "one", Str.ofString "grown", Str.ofString "depth", Str.ofString "taken", Str.ofString "depths", Str.ofString "runs", Str.ofString "signs"] ?fF ?fA ?fB) ?N3 ?ne3 ⟨rfl, Dg, gs, kg, hd2, rfl, _, _, _, g9, t9, _, rfl, hgs, ?j3⟩)).1
        (case fF => assumption); (case fA => exact List.forall_mem_cons.mpr ⟨(by exact rfl), List.forall_mem_cons.mpr ⟨(by exact rfl), List.forall_mem_cons.mpr ⟨(by exact rfl), List.forall_mem_cons.mpr ⟨(by exact rfl), List.forall_mem_cons.mpr ⟨(by exact rfl), List.forall_mem_cons.mpr ⟨(by exact rfl), List.forall_mem_cons.mpr ⟨(by exact rfl), List.forall_mem_nil _⟩⟩⟩⟩⟩⟩⟩); (case fB => (intro y hy; simp only [List.mem_cons, not_or] at hy; simp only [hy, if_false]))
        case N3 =>
          rename News _ _ _ _ => N9
          exact news_sub N9 (by lcg_sub)
        case ne3 =>
          intro p hp q hq
          rw [List.mem_singleton.mp hq]
          rcases List.mem_cons.mp hp with rfl | hp
          · exact hd3
          · rw [List.mem_singleton.mp hp]; exact hIr
        case j3 =>
          rw [e3]
          have e4 : (1 : Int) + ((i + 1 : Nat) : Int) = 1 + (i : Int) + 1 := by omega
          rw [e4]
          exact hJ
    case done =>
      rintro m news h6 tk6 G ⟨rfl, Dd, vs, kd, hDd, rfl, o1, o2, o3, dl, t, tt, rfl, hvs, hJ⟩ F6 N6
      rw [Nat.sub_self] at hJ
      cases hJ
      dsimp only
      k_steps
      exact hQ Dd vs kd _ _ hvs (N6 _ (.head _)).1 (N6 _ (.head _)).2.2 F6.keep
end Mine
end

section
theorem Mine.offEnC : True := by
  w_top off
  trivial
open PySem PySem.W PyProof.Rows PySem.Spec PySem.Calls PyProof.Rows.LCg
set_option Elab.async false
set_option maxRecDepth 100000
namespace Mine
/-- entering a def with cells; `extra` are objects that stand outside the ground -/
theorem entC {w : World} {vp : Program} {vl : List Str} {mean : ExcName → Option Value} {mg mb : Str → Option Value} {A : Around} {s : Shared} {g : Heap} {R : Result → Shared → Prop} {f : Addr} {args : Args} (binds : List (Str × Value)) (extra : List (Addr × Obj))
    {name qual : Str} {params : Arguments} {body : List Stmt} {scope : Scope} {dV kV doc pm cdv ct oc : Value} {an od : Option Addr} {osl : Array (Option Value)}
    (X : (hd.heap_1 w.params).In g) (T : Top vp vl mean mg mb g) (hgs : Kept g s.heap) (hgz : g.objs.size ≤ s.heap.objs.size) (hex : ∀ p ∈ extra, s.heap.get? p.1 = some p.2 ∧ g.get? p.1 = none)
    (ho : (hd.heap_1 w.params).lookup f = some ⟨oc, od, .func (fnOf name qual params body scope dV kV doc pm an cdv ct), osl⟩)
    (hcd : codeIn (hd.heap_1 w.params) cdv qual = true) (hroom : A.depth < recursionLimit)
    (hbind : bindArgs (fnOf name qual params body scope dV kV doc pm an cdv ct) args = pure binds)
    (hkind : ∀ n, ∀ x ∈ binds, scope.names.lookup x.1 = some .local ∨ (scope.names.lookup x.1 = some .cell ∧ ((cellsFrom n scope.names []).lookup x.1).isSome = true))
    (hnd : ((cellsFrom 0 scope.names []).map (·.1)).Nodup)
    (h : ∀ h₁ tk cells, Fr g s.heap.objs.size h₁ (bindL (envOfC qual scope s.heap.objs.size f cdv).kindOf binds fun _ => none) → News g s.heap.objs.size h₁ (cells ++ extra) →
      CellsAre (bindC (envOfC qual scope s.heap.objs.size f cdv).kindOf binds fun _ => none) (cellsFrom (s.heap.objs.size + 1) scope.names []) cells →
      wpAny (model PySem.Challenge.rw_re0075_01.row.toRowW.prog w) (A.deeper (envOfC qual scope s.heap.objs.size f cdv)) (execs body (envOfC qual scope s.heap.objs.size f cdv))
        (fun fl s' => R (.ok (.ret (match fl with | .ret v => v | _ => .none))) s') (fun _ _ => False) { s with heap := h₁, toks := tk })
    (hco : scope.isCoroutine = false) (hgen : scope.isGenerator = false) (hk : scope.kind = .function) : codeAny (model PySem.Challenge.rw_re0075_01.row.toRowW.prog w) A (.call (.ref f) args) R s := by
  have Xs : (hd.heap_1 w.params).In s.heap := X.keeps hgs
  have hlim : s.heap.NoLimit := T.nolimit.keeps hgs
  refine codeAny_call_function hroom (Xs _ _ ho) rfl hco hgen rfl (codeRec_of Xs hcd) (BindsTo.of_eq hbind _ _ _ _ ?_)
  refine wpAny_newFunctionEnv_cells hk (hkind _) fun env' he s' x => ?_
  subst he
  refine ⟨hlim.keeps x.toInCall.keep, codeAny_func ?_⟩
  obtain ⟨h₁, tk, rfl, _⟩ := x.done
  have hk₁ := x.toInCall.keep
  obtain ⟨cells, NC, Y⟩ := Cl.news (h₀ := s.heap) (Nat.le_refl _) fun n c hm => ⟨x.cell n c (lookup_of_mem_nodup (cellsFrom_names scope.names 0 (s.heap.objs.size + 1) [] [] rfl ▸ hnd) hm), x.above n c hm⟩
  refine wpAny_mono (h h₁ tk cells ⟨x.toInCall.ns, fun b o e => hk₁ b o (hgs b o e), hgz⟩ (fun p hp => ?_) Y) (fun _ _ y => y) (fun _ _ y => y.elim)
  rcases List.mem_append.mp hp with hp | hp
  · refine ⟨(NC p hp).1, (NC p hp).2.1, ?_⟩
    cases q : g.get? p.1 with
    | none => rfl
    | some o => have := hgs _ _ q; rw [(NC p hp).2.2] at this; cases this
  · exact ⟨hk₁ _ _ (hex p hp).1, Nat.ne_of_lt (Heap.lt_size (hex p hp).1), (hex p hp).2⟩
/-- entering a def without cells; `extra` are objects that stand outside the ground -/
theorem entG {w : World} {vp : Program} {vl : List Str} {mean : ExcName → Option Value} {mg mb : Str → Option Value} {A : Around} {s : Shared} {g : Heap} {R : Result → Shared → Prop} {f : Addr} {args : Args} (binds : List (Str × Value)) (extra : List (Addr × Obj))
    {name qual : Str} {params : Arguments} {body : List Stmt} {scope : Scope} {dV kV doc pm cdv ct oc : Value} {an od : Option Addr} {osl : Array (Option Value)}
    (X : (hd.heap_1 w.params).In g) (T : Top vp vl mean mg mb g) (hgs : Kept g s.heap) (hgz : g.objs.size ≤ s.heap.objs.size) (hex : ∀ p ∈ extra, s.heap.get? p.1 = some p.2 ∧ g.get? p.1 = none)
    (ho : (hd.heap_1 w.params).lookup f = some ⟨oc, od, .func (fnOf name qual params body scope dV kV doc pm an cdv ct), osl⟩)
    (hcd : codeIn (hd.heap_1 w.params) cdv qual = true) (hroom : A.depth < recursionLimit)
    (hbind : bindArgs (fnOf name qual params body scope dV kV doc pm an cdv ct) args = pure binds) (hloc : ∀ y ∈ binds, scope.names.lookup y.1 = some .local)
    (h : ∀ h₁, Fr g s.heap.objs.size h₁ (bm binds.reverse) → News g s.heap.objs.size h₁ extra →
      wpAny (model PySem.Challenge.rw_re0075_01.row.toRowW.prog w) (A.deeper (envOf qual scope s.heap.objs.size f cdv)) (execs body (envOf qual scope s.heap.objs.size f cdv))
        (fun fl s' => R (.ok (.ret (match fl with | .ret v => v | _ => .none))) s') (fun _ _ => False) { s with heap := h₁, toks := s.toks + binds.length })
    (hco : scope.isCoroutine = false) (hgen : scope.isGenerator = false) (hk : scope.kind = .function)
    (hcell : ∀ x ∈ scope.names, x.2 ≠ .cell) : codeAny (model PySem.Challenge.rw_re0075_01.row.toRowW.prog w) A (.call (.ref f) args) R s := by
  have Xs : (hd.heap_1 w.params).In s.heap := X.keeps hgs
  refine codeAny_call_def (fd := fnOf name qual params body scope dV kV doc pm an cdv ct) (body := body) (binds := binds) hroom (Xs _ _ ho) rfl (T.nolimit.keeps hgs) (codeRec_of Xs hcd) rfl (.of_eq hbind) hcell hloc (fun h₁ hns hk₁ => ?_) hco hgen hk
  exact wpAny_mono (h h₁ ⟨bm_eq binds.reverse ▸ hns, fun b o e => hk₁ b o (hgs b o e), hgz⟩ (fun p hp => ⟨hk₁ _ _ (hex p hp).1, Nat.ne_of_lt (Heap.lt_size (hex p hp).1), (hex p hp).2⟩)) (fun _ _ y => y) (fun _ _ y => y.elim)
section
variable {g h h' : Heap} {L : Addr} {m : Str → Option Value} {news : List (Addr × Obj)} {adr : List Addr}
theorem hide_keep : Kept (hideAll h adr) h := fun _ _ e => of_hideAll _ e
theorem hide_size : (hideAll h adr).objs.size ≤ h.objs.size := Nat.le_of_eq (hideAll_size _ _)
theorem fr_hide (F : Fr g L h m) (k : Kept (hideAll h adr) h') (ha : ∀ b ∈ adr, b ≠ L ∧ g.get? b = none) : Fr g L h' m :=
  ⟨F.ns.at' fun o e => k _ o (hideAll_get _ e fun q => (ha _ q).1 rfl), fun b o e => k b o (hideAll_get _ (F.keep b o e) fun q => by rw [(ha _ q).2] at e; cases e), F.above⟩
theorem news_hide (N : News g L h news) (k : Kept (hideAll h adr) h') (ha : ∀ p ∈ news, p.1 ∉ adr) : News g L h' news := fun p hp => ⟨k _ _ (hideAll_get _ (N p hp).1 (ha p hp)), (N p hp).2⟩
theorem in_hide {K : Frag} (X : K.In g) (F : Fr g L h m) (ha : ∀ b ∈ adr, g.get? b = none) : K.In (hideAll h adr) := fun a o e => hideAll_get _ (F.keep _ _ (X a o e)) fun q => by have := X a o e; rw [ha a q] at this; cases this
theorem kept_hide (F : Fr g L h m) (ha : ∀ b ∈ adr, g.get? b = none) : Kept g (hideAll h adr) := fun b o e => hideAll_get _ (F.keep b o e) fun q => by rw [ha b q] at e; cases e
end
end Mine
end

section
theorem Mine.offFna : True := by
  w_top off
  trivial
open PySem PySem.W PyProof.Rows PySem.Spec PySem.Calls PyProof.Rows.LCg
set_option Elab.async false
set_option maxRecDepth 100000
namespace Mine
theorem slot_fn_sa : Slot "function" "__setattr__" "object.__setattr__" :=
  .of (owner := "object") (n := "__setattr__") (by rw [typeLookup_type, builtinLookup_eq_fast]; kernel_rfl) (by decide +kernel) (by decide +kernel) (by decide +kernel)
    (by first | exact .inl (by decide +kernel) | exact .inr (by decide +kernel)) (by rw [isSubtype_type]; kernel_rfl)
theorem mro_fn : mroOf (.type "function") = pure [.type "function", .type "object"] := by kernel_rfl
theorem pass_fn (self : Value) : PySem.refuseLoop self "__setattr__" [.type "function", .type "object"] = pure () := by kernel_rfl
theorem read_fn : typeLookup (.type "function") (Str.ofString "read") = pure none := by rw [typeLookup_type, builtinLookup_eq_fast]; kernel_rfl
section
variable {prog : Program} {w : World} {A : Around} {E : Value → Shared → Prop} {h : Heap} {g : Array GenState} {d : Drawn} {t : Nat} {os : OsState}
/-- an attribute laid on a function that has no dict yet -/
theorem fn_setattr {f : Addr} {o : Obj} {v : Value} {Q : Unit → Shared → Prop} (hx : h.get? f = some o) (hc : o.cls = .type "function") (hdn : o.dict = none) (hnc : ∀ c, o.data ≠ .cls c)
    (hq : ∀ h' tk' D, D = h.objs.size → h'.get? f = some { o with dict := some D } → h'.Ns D (fun y => if y = Str.ofString "read" then some v else none) → (∀ b ob, b ≠ f → h.get? b = some ob → h'.get? b = some ob) → Q () ⟨h', g, d, tk', os⟩) :
    wpAny (model prog w) A (setAttr (.ref f) (Str.ofString "read") v) Q E ⟨h, g, d, t, os⟩ := by
  have f3 := slot_fn_sa.bind (.ref f)
  have hT : (⟨h, g, d, t, os⟩ : Shared).TypeIs (.ref f) "function" := ⟨_, hx, hc⟩
  unfold setAttr callSpecial? specialOf
  repeat (any_goals (first | assumption | (with_reducible refine wpAny_loadPart_at hx ?_; rw [hc]) | wp_step))
  refine wpAny_of_eq slot_fn_sa.lookup ?_
  repeat (any_goals (first | assumption | wp_step))
  replace hT : (⟨h, g, d, t + 1, os⟩ : Shared).TypeIs (.ref f) "function" := ⟨_, hx, hc⟩
  refine codeAny_call_builtin slot_fn_sa.plain F.entry_object_setattr (slot_fn_sa.check _ _ _ _ _ _ _ _ hT (F.args_object_setattr_3 _ _ _) ?_)
  have hpass := pass_fn (.ref f)
  have hmro := mro_fn
  have hread := read_fn
  unfold Builtin.«object.__setattr__»
  repeat (any_goals (first | assumption | rw [PySem.refuse_eq] | rw [hpass] | rw [hmro] | rw [hread] | (with_reducible refine wpAny_loadPart_at hx ?_; rw [hc]) | wp_step))
  have hth : typeHasDict (Value.type "function") = true := by decide +kernel
  rw [hdn]
  dsimp only
  rw [if_neg (by rw [hth]; decide)]
  split
  · rename_i c hcd
    exact absurd hcd (hnc c)
  have hx₁ : (h.push { cls := .type "dict", data := .dict #[] }).get? f = some o := Heap.get?_push_of_some _ hx
  have hxs : f ≠ h.objs.size := Nat.ne_of_lt (Heap.lt_size hx)
  refine wpAny_bind (wpAny_alloc' ?_)
  refine wpAny_bind (wpAny_update' hx₁ ?_)
  have hdm : dictMade (.type "function") f h.objs.size = pure (some h.objs.size) := by kernel_rfl
  refine wpAny_of_eq hdm ?_
  have hgd : ((h.push { cls := .type "dict", data := .dict #[] }).update f fun o => { cls := o.cls, dict := some h.objs.size, data := o.data, slots := o.slots }).get? h.objs.size
      = some { cls := .type "dict", data := .dict #[] } :=
    (Heap.get?_update_ne _ _ _ _ hxs.symm).trans (Heap.get?_push_at rfl rfl)
  have hnd : ((h.push { cls := .type "dict", data := .dict #[] }).update f fun o => { cls := o.cls, dict := some h.objs.size, data := o.data, slots := o.slots }).Ns h.objs.size (fun _ => none) :=
    ⟨_, #[], _, hgd, rfl, fun e he => absurd he (by simp), fun _ => rfl⟩
  show wpAny _ _ (Builtin.ObjectAttr.storeInDict h.objs.size (.str (Str.ofString "read") t) (Str.ofString "read") v) _ _ _
  unfold Builtin.ObjectAttr.storeInDict Builtin.ObjectAttr.newKeyGuard
  refine wpAny_bind (wpAny_pure (wpAny_bind (wpAny_nsSet1 (Heap.Ns1.of_empty hnd) fun h' hn' hs => ?_)))
  obtain ⟨oD, esD, epD, hoD, hdD, hcD⟩ := hn'.count (Within.cons (Str.ofString "read") v Within.nil)
  refine wpAny_bind (wpAny_lookBehind hoD (by rw [hdD]; exact pastItsLine_dict (Nat.le_trans hcD (by rw [List.length_cons, List.length_nil, sizeLine_eq]; omega))) ?_)
  refine wpAny_pure ?_
  refine wpAny_pure (wpAny_pure ?_)
  refine hq h' _ h.objs.size rfl ?_ (Heap.Ns1.ns hn') (fun b ob hbx hb => ?_)
  · refine (hs.2 f hxs).trans (Heap.get?_update_self _ hx₁ ?_)
    have hfr := (Heap.get?_some_iff.mp hx).2
    obtain ⟨oc, od, odt, osl⟩ := o
    cases odt <;> first | rfl | exact hfr
  · exact (hs.2 b (Nat.ne_of_lt (Heap.lt_size hb))).trans ((Heap.get?_update_ne _ _ _ _ hbx).trans (Heap.get?_push_of_some _ hb))
theorem lk_fn_ga : typeLookup (.type "function") (Str.ofString "__getattribute__") = pure (some (.builtin "object.__getattribute__")) := by rw [typeLookup_type, builtinLookup_eq_fast]; kernel_rfl
theorem lk_fn_ga2 : typeLookup (.type "function") (Str.ofString "__getattr__") = pure none := by rw [typeLookup_type, builtinLookup_eq_fast]; kernel_rfl
theorem slot_fn_ga : Slot "function" "__getattribute__" "object.__getattribute__" :=
  .of (owner := "object") (n := "__getattribute__") (by rw [typeLookup_type, builtinLookup_eq_fast]; kernel_rfl) (by decide +kernel) (by decide +kernel) (by decide +kernel)
    (by first | exact .inl (by decide +kernel) | exact .inr (by decide +kernel)) (by rw [isSubtype_type]; kernel_rfl)
theorem fn_find {M : Model} {f D : Addr} {o : Obj} {v : Value} {m : Str → Option Value} {Q : Builtin.ObjectAttr.Found → Shared → Prop} (hx : h.get? f = some o) (hc : o.cls = .type "function") (hdn : o.dict = some D) (hnc : ∀ c, o.data ≠ .cls c)
    (hns : h.Ns D m) (hv : m (Str.ofString "read") = some v) (hq : Q (.value v) ⟨h, g, d, t, os⟩) :
    wpAny M A (Builtin.ObjectAttr.find (.ref f) (.type "function") (Str.ofString "read")) Q E ⟨h, g, d, t, os⟩ := by
  unfold Builtin.ObjectAttr.find
  refine wpAny_bind (wpAny_of_eq read_fn ?_)
  refine wpAny_bind (wpAny_pure ?_)
  refine wpAny_bind (wpAny_pure ?_)
  dsimp only
  unfold Builtin.ObjectAttr.ownThenClass Builtin.ObjectAttr.inOwnDict Builtin.ObjectAttr.ownDict
  repeat (any_goals (first | (with_reducible refine wpAny_loadPart_at hx ?_) | wp_step))
  split
  · rename_i c hcd
    exact absurd hcd (hnc c)
  unfold instanceDict
  repeat (any_goals (first | (with_reducible refine wpAny_loadPart_at hx ?_; rw [hc]) | wp_step))
  rw [hdn]
  dsimp only
  refine wpAny_pure ?_
  show wpAny M A (nsGet D (Str.ofString "read")) _ _ _
  refine wpAny_nsGet hns ?_
  rw [hv]
  refine wpAny_bind (wpAny_rule (wpAny_pure hq))
theorem fn_getattr {f D : Addr} {o : Obj} {v : Value} {ex : Bool} {m : Str → Option Value} {Q : Value → Shared → Prop} (hx : h.get? f = some o) (hc : o.cls = .type "function") (hdn : o.dict = some D) (hnc : ∀ c, o.data ≠ .cls c)
    (hns : h.Ns D m) (hv : m (Str.ofString "read") = some v) (hh : handedOut v = pure v) (hq : Q v ⟨h, g, d, t + 1, os⟩) :
    wpAny (model prog w) A (getAttr (.ref f) (Str.ofString "read") ex) Q E ⟨h, g, d, t, os⟩ := by
  have hT : (⟨h, g, d, t + 1, os⟩ : Shared).TypeIs (.ref f) "function" := ⟨_, hx, hc⟩
  unfold getAttr
  refine wpAny_bind (wpAny_mkText ?_)
  unfold getAttrBy
  refine wpAny_holding ?_
  refine wpAny_bind (wpAny_typeOf hT ?_)
  refine wpAny_bind (wpAny_of_eq slot_fn_ga.lookup ?_)
  show wpAny _ _ (if (false && _) = true then _ else getAttrByItsOwn _ _ _ _ _ _) _ _ _
  rw [if_neg (by simp)]
  unfold getAttrByItsOwn
  show wpAny _ _ (pure none >>= _) _ _ _
  refine wpAny_bind (wpAny_pure ?_)
  refine wpAny_bind (wpAny_attempt (wpAny_holding ?_))
  have e1 : ∀ nm, callGetattribute (.ref f) nm (.builtin "object.__getattribute__") ex = boundAndCalled (.builtin "object.__getattribute__") (.ref f) nm := fun nm => by
    unfold callGetattribute
    show (if (ex && false) = true then _ else _) = _
    rw [Bool.and_false, if_neg (by simp)]
  rw [e1]
  unfold boundAndCalled
  refine wpAny_bind (wpAny_of_eq (slot_fn_ga.bind _) ?_)
  refine wpAny_call ?_
  refine codeAny_call_builtin slot_fn_ga.plain F.entry_object_getattribute (slot_fn_ga.check _ _ _ _ _ _ _ _ hT (F.args_object_getattribute_2 _ _) ?_)
  unfold Builtin.«object.__getattribute__»
  repeat (any_goals (first | (with_reducible refine wpAny_loadPart_at hx ?_; rw [hc]) | with_reducible refine fn_find hx hc hdn hnc hns hv ?_ | wp_step))
  exact hq
theorem fn_getmethod {f D : Addr} {o : Obj} {v : Value} {pl : Sem Bool} {m : Str → Option Value} {Q : Value × List Value → Shared → Prop} (hx : h.get? f = some o) (hc : o.cls = .type "function") (hdn : o.dict = some D) (hnc : ∀ c, o.data ≠ .cls c)
    (hns : h.Ns D m) (hv : m (Str.ofString "read") = some v) (hh : handedOut v = pure v) (hq : Q (v, []) ⟨h, g, d, t + 1, os⟩) :
    wpAny (model prog w) A (getMethod (.ref f) (Str.ofString "read") pl) Q E ⟨h, g, d, t, os⟩ := by
  have hT : (⟨h, g, d, t, os⟩ : Shared).TypeIs (.ref f) "function" := ⟨_, hx, hc⟩
  unfold getMethod
  refine wpAny_bind (wpAny_specialOf hT slot_fn_ga.lookup ?_)
  dsimp only
  rw [if_neg (by rw [F.canon_object_ga]; decide)]
  refine wpAny_bind (wpAny_specialOf hT lk_fn_ga2 ?_)
  rw [if_neg (by decide)]
  refine wpAny_bind (wpAny_specialOf hT read_fn ?_)
  dsimp only
  refine wpAny_bind (fn_getattr hx hc hdn hnc hns hv hh ?_)
  exact wpAny_pure hq
end
theorem news_grow {g h h' : Heap} {L f D : Addr} {o o' oD : Obj} {rest : List (Addr × Obj)} (N : News g L h ((f, o) :: rest)) (hk : ∀ b ob, b ≠ f → h.get? b = some ob → h'.get? b = some ob) (hne : ∀ p ∈ rest, p.1 ≠ f)
    (hf : h'.get? f = some o') (hD : h'.get? D = some oD) (hDL : D ≠ L) (hDg : g.get? D = none) : News g L h' ((f, o') :: (D, oD) :: rest) := by
  intro p hp
  rcases List.mem_cons.mp hp with rfl | hp
  · exact ⟨hf, (N _ (.head _)).2⟩
  · rcases List.mem_cons.mp hp with rfl | hp
    · exact ⟨hD, hDL, hDg⟩
    · exact ⟨hk _ _ (hne p hp) (N p (.tail _ hp)).1, (N p (.tail _ hp)).2⟩
theorem news_put {g h : Heap} {L a : Addr} {o : Obj} {news : List (Addr × Obj)} (e : h.get? a = some o) (hL : a ≠ L) (hg : g.get? a = none) (N : News g L h news) : News g L h ((a, o) :: news) := by
  intro p hp
  rcases List.mem_cons.mp hp with rfl | hp
  · exact ⟨e, hL, hg⟩
  · exact N p hp
theorem news_pick {g h : Heap} {L : Addr} {p : Addr × Obj} {all news : List (Addr × Obj)} (M : News g L h all) (hm : p ∈ all) (N : News g L h news) : News g L h (p :: news) := by
  intro q hq
  rcases List.mem_cons.mp hq with rfl | hq
  · exact M _ hm
  · exact N q hq
end Mine
end

section
theorem Mine.offIni : True := by
  w_top off
  trivial
open PySem PySem.W PyProof.Rows PySem.Spec PySem.Calls PyProof.Rows.LCg
set_option Elab.async false
set_option maxRecDepth 100000
set_option maxHeartbeats 1000000
namespace Mine
set_option pp.deepTerms false
set_option pp.maxSteps 3000
noncomputable abbrev lxD (w : World) (k1 k2 k3 k4 : Tok) (ln : Int) (t : Tok) (st : Addr) (tw : Tok) (pb : Addr) : Obj :=
  dictOf [{ hash := PyData.keyHash w.params (Str.ofString "lineno"), key := .str (Str.ofString "lineno") k1, val := .int ln t }, { hash := PyData.keyHash w.params (Str.ofString "instream"), key := .str (Str.ofString "instream") k2, val := .ref st },
    { hash := PyData.keyHash w.params (Str.ofString "whitespace"), key := .str (Str.ofString "whitespace") k3, val := .str (Str.ofString "\n\t\x0d ") tw }, { hash := PyData.keyHash w.params (Str.ofString "pushback"), key := .str (Str.ofString "pushback") k4, val := .ref pb }] 4
theorem init_spec {w : World} {vp : Program} {vl : List Str} {mean : ExcName → Option Value} {mg mb : Str → Option Value} {A : Around} {s : Shared} {g : Heap} {R : Result → Shared → Prop} (hh : A.handled = none) (hdp : A.depth + 20 < recursionLimit) (hun : A.units + 100 < cLine)
    (KX : (hd.heap_1 w.params).In g) (T : Top vp vl mean mg mb g) (hgs : Kept g s.heap) (hgz : g.objs.size ≤ s.heap.objs.size) {lx dx st : Addr} (hl : s.heap.get? lx = some (instObj 87 dx)) (hd : s.heap.get? dx = some (dictOf [] 0)) (hgl : g.get? lx = none) (hgd : g.get? dx = none) (hne : @LT.lt Nat _ dx lx)
    (hQ : ∀ h' tk pb k1 k2 k3 k4 t tw, Kept g h' → h'.get? lx = some (instObj 87 dx) → h'.get? dx = some (lxD w k1 k2 k3 k4 1 t st tw pb) → h'.get? pb = some (W.listOf #[] 0) → g.get? pb = none → (@LT.lt Nat _ lx pb) → R (.ok (.ret .none)) ⟨h', s.gens, s.drawn, tk, s.os⟩) :
    codeAny (model PySem.Challenge.rw_re0075_01.row.toRowW.prog w) A (.call (.ref 63) ⟨[.ref lx, .ref st], []⟩) R s := by
  obtain ⟨_, dp, fr, gd, un⟩ := A; cases hh; dsimp only at hdp hun; revert KX; k_fill; intro KX
  k_dflt (refine' entG [(Str.ofString "self", .ref lx), (Str.ofString "fp", .ref st)] [(lx, instObj 87 dx), (dx, dictOf [] 0)] KX T hgs hgz ?kX ?k6 ?k7 ?k8 ?k9 ?kB ?_ ?c2 ?c3 ?c4 ?c5; (case k6 => k_is); (case k7 => k_is); (case k8 => (dsimp only; omega)); (case k9 => exact rfl); (case kX => exact List.forall_mem_cons.mpr ⟨⟨hl, hgl⟩, List.forall_mem_cons.mpr ⟨⟨hd, hgd⟩, List.forall_mem_nil _⟩⟩); (case c5 => decide); (case kB => exact locs rfl); (case c2 => exact rfl); (case c3 => exact rfl); (case c4 => exact rfl); k_whole)
  intro h1 F1 N1
  replace F1 : Fr g s.heap.objs.size h1 (fun nm => if nm = Str.ofString "fp" then some (.ref st) else if nm = Str.ofString "self" then some (.ref lx) else none) := F1
  (try dsimp only)
  (try k_fold)
  k_steps
  rename News _ _ _ _ => N9
  rename Fr _ _ _ _ => F9
  rename _ ∧ _ => lt9
  exact hQ _ _ _ _ _ _ _ _ _ F9.keep (N9 _ (.tail _ (.head _))).1 (N9 _ (.tail _ (.tail _ (.head _)))).1 (N9 _ (.head _)).1 (N9 _ (.head _)).2.2 lt9.1
/-- what a call of the lexer's own reader does -/
noncomputable def ReadC (w : World) (x : Str) (rd crd al ca ct : Addr) (ord ocrd oca oct : Obj) : Prop :=
  ∀ (vp : Program) (vl : List Str) (mean : ExcName → Option Value) (mg mb : Str → Option Value) (A : Around) (s : Shared) (Q E : Value → Shared → Prop) (pos : Nat) (t t1 : Tok) (k : Nat),
    A.handled = none → A.depth + 20 < recursionLimit → A.units + 100 < cLine → (hd.heap_1 w.params).In (hideAll s.heap [al, ca, ct]) → Top vp vl mean mg mb (hideAll s.heap [al, ca, ct]) →
    s.heap.get? rd = some ord → s.heap.get? crd = some ocrd → s.heap.get? ca = some oca → s.heap.get? ct = some oct →
    s.heap.get? al = some (W.listOf #[.int (pos : Int) t1] k) → pos ≤ x.length →
    (∀ h' tk t2 t3 k', Kept (hideAll s.heap [al, ca, ct]) h' → h'.get? ca = some oca → h'.get? ct = some oct → h'.get? al = some (W.listOf #[.int ((pos + ((x.cps.toList.drop pos).take 1).length : Nat) : Int) t3] k') → Q (.str ⟨((x.cps.toList.drop pos).take 1).toArray⟩ t2) ⟨h', s.gens, s.drawn, tk, s.os⟩) →
    wpAny (model PySem.Challenge.rw_re0075_01.row.toRowW.prog w) A (call (.ref rd) [.int 1 t]) Q E s
theorem slice_one {x : Str} {pos : Nat} (h : pos ≤ x.length) : Txt.slice x (some (pos : Int)) (some ((pos : Int) + 1)) = ⟨((x.cps.toList.drop pos).take 1).toArray⟩ := by
  by_cases h1 : pos + 1 ≤ x.length
  · have e := eq_of_beq (slice_closesL (x := x) (i := (pos : Int)) (j := (pos : Int) + 1) (by omega) (by omega) (by omega))
    have e2 : ((pos : Int) + 1 - (pos : Int)).toNat = 1 := by omega
    rw [e, e2, Int.toNat_natCast]
  · have e0 : pos = x.length := by omega
    have e3 : Txt.slice x (some (pos : Int)) (some ((pos : Int) + 1)) = Txt.slice x (some (pos : Int)) (some (pos : Int)) := by
      have : Builtin.Str.strSliceIndices (some (pos : Int)) (some ((pos : Int) + 1)) 1 x.length = Builtin.Str.strSliceIndices (some (pos : Int)) (some (pos : Int)) 1 x.length := by
        unfold Builtin.Str.strSliceIndices
        simp only [show (1 : Int) > 0 by decide, if_true]
        congr 1
        rw [if_neg (by omega), if_neg (by omega)]
        omega
      unfold Txt.slice
      rw [this]
    have e := eq_of_beq (slice_closesL (x := x) (i := (pos : Int)) (j := (pos : Int)) (by omega) (by omega) (by omega))
    rw [e3, e, Int.toNat_natCast]
    have hd : x.cps.toList.drop pos = [] := List.drop_of_length_le (by rw [e0, Array.length_toList]; exact Nat.le_refl _)
    rw [hd]; simp
end Mine
end

section
theorem Mine.offLex : True := by
  w_top off
  trivial
local macro_rules | `(tactic| walk_at "none such") => `(tactic| fail)
open PySem PySem.W PyProof.Rows PySem.Spec PySem.Calls PyProof.Rows.LCg
set_option Elab.async false
set_option maxRecDepth 100000
set_option maxHeartbeats 1000000
namespace Mine
set_option pp.deepTerms false
set_option pp.maxSteps 3000
local macro_rules | `(tactic| walk_at "setAttr ref") => `(tactic| refine Stop.out ?_)
local macro_rules | `(tactic| walk_at "eval Name") => `(tactic| ((with_reducible show wpAny _ _ (eval (Expr.Name _ _) (envX _ _ _ _ _ [(_, _), (_, _)])) _ _ _); k_dflt (refine' nameX_F ?kN ?kc ?km ?kd ?_ ?k1 ?k2 ?k3 ?k4; (case k1 => (with_reducible rfl)); (case k2 => rfl); (case k3 => decide); (case k4 => decide); (case kc => rfl); (case kN => (with_reducible assumption)); (case km => first | exact List.Mem.tail _ (List.Mem.tail _ (List.Mem.head _)) | exact List.Mem.tail _ (List.Mem.head _)); (case kd => (with_reducible assumption)))))
noncomputable def Chain10 (lx dx pb al st sd rd crd ca ct : Nat) : Prop := ct < ca ∧ ca < al ∧ al < crd ∧ crd < rd ∧ rd < st ∧ st < sd ∧ sd < dx ∧ dx < lx ∧ lx < pb
theorem lexer_spec {w : World} {vp : Program} {vl : List Str} {mean : ExcName → Option Value} {mg mb : Str → Option Value} {A : Around} {s : Shared} {g : Heap} {Q E : Value → Shared → Prop} (hh : A.handled = none) (hdp : A.depth + 40 < recursionLimit) (hun : A.units + 400 < cLine)
    (KX : (hd.heap_1 w.params).In g) (T : Top vp vl mean mg mb g) (hgs : Kept g s.heap) (hgz : g.objs.size ≤ s.heap.objs.size) (h93 : s.heap.get? 93 = some (tabObj #[])) (hg93 : g.get? 93 = none) (codeHd : CodeHd g 97 93) {x : Str} {tx : Tok} (hx : x.length ≤ 100)
    (hQ : ∀ h' tk lx dx pb st sd rd crd al ca ct ost osd ord ocrd oca oct k1 k2 k3 k4 t5 tw t6 ps, Kept g h' → h'.get? 93 = some (tabObj ps) →
      News g s.heap.objs.size h' [(lx, instObj 87 dx), (dx, lxD w k1 k2 k3 k4 1 t5 st tw pb), (pb, W.listOf #[] 0), (al, W.listOf #[.int 0 t6] 0), (st, ost), (sd, osd), (rd, ord), (crd, ocrd), (ca, oca), (ct, oct)] →
      Chain10 lx dx pb al st sd rd crd ca ct → (∀ b ∈ ([lx, dx, pb, al, st, sd, rd, crd, ca, ct] : List Nat), @LE.le Nat _ s.heap.objs.size b) →
      ost.cls = .type "function" → ost.dict = some sd → (∀ c, ost.data ≠ .cls c) → NsObj osd (fun y => if y = Str.ofString "read" then some (.ref rd) else none) →
      (∀ h : Heap, h.get? rd = some ord → FnAt rd h) → ReadC w x rd crd al ca ct ord ocrd oca oct → Q (.ref lx) ⟨h', s.gens, s.drawn, tk, s.os⟩) :
    wpAny (model PySem.Challenge.rw_re0075_01.row.toRowW.prog w) A (call (.ref 98) [.str x tx]) Q E s := by
  obtain ⟨_, dp, fr, gd, un⟩ := A; cases hh; dsimp only at hdp hun; revert KX; k_fill; intro KX
  refine wpAny_call ?_
  k_dflt (refine' entC [(Str.ofString "text", .str x tx)] [(93, tabObj #[])] KX T hgs hgz (fun p hp => by rw [List.mem_singleton.mp hp]; exact ⟨h93, hg93⟩) ?k6 ?k7 ?k8 ?k9 ?kA ?kB ?_ ?c2 ?c3 ?c4; (case k6 => k_is); (case k7 => k_is); (case k8 => (dsimp only; omega)); (case k9 => exact rfl); (case kB => decide); (case kA => (intro n y hy; rw [List.mem_singleton.mp hy]; exact .inr ⟨rfl, rfl⟩)); (case c2 => exact rfl); (case c3 => exact rfl); (case c4 => exact rfl); k_whole)
  intro h1 tk cells F1 N1 Y1
  obtain ⟨o1, o2, rfl, ho1, ho2⟩ := CellsAre.two (n := Str.ofString "at") (n' := Str.ofString "text") (c := s.heap.objs.size + 1 + 1) (c' := s.heap.objs.size + 1) Y1
  clear Y1
  replace ho1 : o1.data = .cell none := ho1
  replace ho2 : o2.data = .cell (some (.str x tx)) := ho2
  replace F1 : Fr g s.heap.objs.size h1 (fun _ => none) := F1
  replace N1 : News g s.heap.objs.size h1 [(s.heap.objs.size + 1 + 1, o1), (s.heap.objs.size + 1, o2), (93, tabObj #[])] := N1
  have l93 : @LT.lt Nat _ 93 s.heap.objs.size := Heap.lt_size h93
  (try dsimp only)
  (try k_fold)
  k_steps
  refine Stop.go ?_
  rename News _ _ _ _ => N2
  rename Fr _ _ _ _ => F2
  refine fn_setattr (N2 _ (.head _)).1 rfl rfl (fun c => by intro q; cases q) ?_
  intro h3 tk3 D3 hD3 hf3 hns3 hk3
  rename_i al _ lt1 _ oat hat frd crd ocrd vsrd trd ctrd dcrd _ _ hcr1 hcr2 lt2 lt3 _ flm clm oclm vslm tlm ctlm _ _ hcl1 hcl2 lt4 lt5 h2
  have hfl : @LT.lt Nat _ flm h2.objs.size := Heap.lt_size (N2 (flm, _) (.head _)).1
  have hgf := (N2 (flm, _) (.head _)).2
  have hD3n : g.get? D3 = none := by rw [hD3]; exact new_none (h00 := h2) F2
  have hD3L : D3 ≠ s.heap.objs.size := by rw [hD3]; exact Nat.ne_of_gt F2.ns.lt
  obtain ⟨oD3, hoD3, hnD3⟩ := ns_obj hns3
  replace F2 : Fr g s.heap.objs.size h3 _ := ⟨F2.ns.at' fun o e => hk3 _ _ (Ne.symm hgf.1) e, fun b o e => hk3 b o (fun q => by rw [q, hgf.2] at e; cases e) (F2.keep b o e), F2.above⟩
  have neN : ∀ a : Nat, a < flm → (a : Addr) ≠ flm := fun a h => Nat.ne_of_lt h
  have N3 := news_grow N2 hk3 (List.forall_mem_cons.mpr ⟨neN _ lt5, List.forall_mem_cons.mpr ⟨neN _ (Nat.lt_trans lt4.1 lt5), List.forall_mem_cons.mpr ⟨neN _ (Nat.lt_trans lt4.2.1 lt5), List.forall_mem_cons.mpr ⟨neN _ (Nat.lt_trans lt4.2.2.1 lt5),
    List.forall_mem_cons.mpr ⟨neN _ (Nat.lt_trans lt4.2.2.2.1 lt5), List.forall_mem_cons.mpr ⟨neN _ (Nat.lt_trans lt4.2.2.2.2.1 lt5), List.forall_mem_cons.mpr ⟨neN _ (Nat.lt_trans lt4.2.2.2.2.2 lt5), List.forall_mem_nil _⟩⟩⟩⟩⟩⟩⟩) hf3 hoD3 hD3L hD3n
  clear N2
  dsimp only at N3
  dsimp only
  k_steps
  k_dflt (refine' call_cls ?k1 ?k2 ?k3 ?k4 ?k5 ?k6 ?_; (case k1 => exact F2); (case k2 => exact KX); (case k3 => exact N3); (case k4 => k_is); (case k5 => k_is); (case k6 => k_is); k_whole)
  intro lx dx h4 F4 N4 l4 l5
  have ha4 : ∀ b ∈ [lx, dx], b ≠ s.heap.objs.size ∧ g.get? b = none := List.forall_mem_cons.mpr ⟨(N4 _ (.head _)).2, List.forall_mem_cons.mpr ⟨(N4 _ (.tail _ (.head _))).2, List.forall_mem_nil _⟩⟩
  refine init_spec (g := hideAll h4 [lx, dx]) rfl ?d1 ?d2 (in_hide KX F4 fun b hb => (ha4 b hb).2) (T.keeps (kept_hide F4 fun b hb => (ha4 b hb).2)) hide_keep hide_size (N4 _ (.head _)).1 (N4 _ (.tail _ (.head _))).1 (hideAll_none _ (.head _)) (hideAll_none _ (.tail _ (.head _))) l5 ?_
  case d1 => simp only [depth_under_make, depth_deeper]; omega
  case d2 => simp only [units_under_make, units_deeper]; omega
  intro h5 tk5 pb k1 k2 k3 k4 t5 tw hk5 hlx5 hdx5 hpb5 hgp5 hlt5
  have F5 := fr_hide F4 hk5 ha4
  have N5 := news_hide (adr := [lx, dx]) (fun p hp => N4 p (.tail _ (.tail _ hp))) hk5 (fun p hp hq => by
    have h1 : @LT.lt Nat _ p.1 dx := l4 p hp
    rcases List.mem_cons.mp hq with e | hq
    · rw [e] at h1; exact Nat.lt_irrefl _ (Nat.lt_trans h1 l5)
    · rw [List.mem_singleton.mp hq] at h1; exact Nat.lt_irrefl _ h1)
  have hgpb : g.get? pb = none := by
    cases q : g.get? pb with
    | none => rfl
    | some o => have := kept_hide F4 (fun b hb => (ha4 b hb).2) _ _ q; rw [hgp5] at this; cases this
  refine ⟨rfl, ?_⟩
  show Q (.ref lx) _
  have l41 : @LT.lt Nat _ flm dx := l4 _ (.head _)
  have l42 : @LT.lt Nat _ D3 dx := l4 _ (.tail _ (.head _))
  have hpbL : pb ≠ s.heap.objs.size := fun q => by
    have h1 : @LT.lt Nat _ s.heap.objs.size h4.objs.size := F4.ns.lt
    have h2 : (hideAll h4 [lx, dx]).get? s.heap.objs.size ≠ none := by
      obtain ⟨o, _, _, e, _⟩ := F4.ns
      rw [hideAll_get _ e fun hm => by
        rcases List.mem_cons.mp hm with e2 | hm
        · exact (ha4 _ (.head _)).1 e2.symm
        · exact (ha4 _ (.tail _ (.head _))).1 (List.mem_singleton.mp hm).symm]
      exact fun z => by cases z
    rw [q] at hgp5
    exact h2 hgp5
  have l5n : @LT.lt Nat _ dx lx := l5
  have N6 := (news_put hlx5 (ha4 _ (.head _)).1 (ha4 _ (.head _)).2 (news_put hdx5 (ha4 _ (.tail _ (.head _))).1 (ha4 _ (.tail _ (.head _))).2 (news_put hpb5 hpbL hgpb (news_pick N5 (.tail _ (.tail _ (.tail _ (.tail _ (.tail _ (.head _)))))) (news_pick N5 (.head _) (news_pick N5 (.tail _ (.head _)) (news_pick N5 (.tail _ (.tail _ (.tail _ (.head _)))) (news_pick N5 (.tail _ (.tail _ (.tail _ (.tail _ (.head _))))) (news_pick N5 (.tail _ (.tail _ (.tail _ (.tail _ (.tail _ (.tail _ (.head _))))))) (news_pick N5 (.tail _ (.tail _ (.tail _ (.tail _ (.tail _ (.tail _ (.tail _ (.head _)))))))) News.nil))))))))))
  refine hQ h5 tk5 lx dx pb flm D3 frd crd al (s.heap.objs.size + 1 + 1) (s.heap.objs.size + 1) _ oD3 _ ocrd oat o2 k1 k2 k3 k4 t5 tw _ _ F5.keep (N5 _ (.tail _ (.tail _ (.tail _ (.tail _ (.tail _ (.tail _ (.tail _ (.tail _ (.head _)))))))))).1 N6 ?m3 ?m4 rfl rfl ?m6 hnD3 ?m7 ?m5
  case m6 => intro c q; cases q
  case m7 => exact fun h e => ⟨_, _, _, _, e⟩
  case m3 =>
    unfold Chain10
    omega
  case m4 =>
    intro b hb
    simp only [List.mem_cons, List.not_mem_nil, or_false] at hb
    omega
  case m5 =>
    clear N6 N5 F5 N4 F4 N3 F2 hQ hf3 hgf l4 ha4 hk5 hk3
    have hne1 : @Ne Nat al (s.heap.objs.size + 1 + 1) := by omega
    have hne2 : @Ne Nat al (s.heap.objs.size + 1) := by omega
    have hne3 : @Ne Nat (s.heap.objs.size + 1 + 1) (s.heap.objs.size + 1) := by omega
    generalize (s.heap.objs.size + 1 + 1 : Addr) = ca at *
    generalize (s.heap.objs.size + 1 : Addr) = ct at *
    clear KX T hgs hgz h93 hg93 codeHd l93 lt1 lt2 lt3 lt4 lt5 hcl1 hcl2 hnD3 hns3 hoD3 hlx5 hdx5 hpb5 hgp5 hlt5 hD3 hD3n hD3L hgpb hpbL l41 l42 l5n l5 hfl neN ho1
    revert hcr2
    generalize qualnameIn _ _ _ = qn
    intro hcr2
    intro vp2 vl2 mean2 mg2 mb2 A2 s2 Q2 E2 pos t2 t1 k2 hh2 hdp2 hun2 KX2 T2 hrd hcrd hca hct hal hpos hq
    obtain ⟨_, dp2, fr2, gd2, un2⟩ := A2
    cases hh2
    dsimp only at hdp2 hun2
    revert KX2; k_fill; intro KX2
    refine wpAny_call ?_
    have hcd : s2.heap.CodeRec (.ref crd) _ := ⟨crd, ocrd, vsrd, trd, rfl, hcrd, hcr1, hcr2⟩
    refine codeAny_call_def (binds := [(Str.ofString "size", .int 1 t2)]) (by dsimp only; omega) hrd rfl (T2.nolimit.keeps hide_keep) hcd rfl (.of_eq rfl) (by dsimp only; decide) (locs rfl) ?_
    intro h1 hns hk1
    have F9 : Fr (hideAll s2.heap [al, ca, ct]) s2.heap.objs.size h1 (fun nm => if nm = Str.ofString "size" then some (.int 1 t2) else none) :=
      ⟨(show Heap.Ns h1 s2.heap.objs.size (bm [(Str.ofString "size", .int 1 t2)]) from bm_eq [(Str.ofString "size", .int 1 t2)] ▸ hns), fun b o e => hk1 b o (hide_keep b o e), hide_size⟩
    have N9 : News (hideAll s2.heap [al, ca, ct]) s2.heap.objs.size h1 [(al, W.listOf #[.int (pos : Int) t1] k2), (ca, oat), (ct, o2)] :=
      news_put (hk1 _ _ hal) (Nat.ne_of_lt (Heap.lt_size hal)) (hideAll_none _ (.head _)) (news_put (hk1 _ _ hca) (Nat.ne_of_lt (Heap.lt_size hca)) (hideAll_none _ (.tail _ (.head _))) (news_put (hk1 _ _ hct) (Nat.ne_of_lt (Heap.lt_size hct)) (hideAll_none _ (.tail _ (.tail _ (.head _)))) News.nil))
    clear hns hk1 hal hca hct hcrd hrd hcd
    refine wpAny_mono (E := fun _ _ => False) ?_ (fun _ _ q => q) (fun _ _ q => q.elim)
    show wpAny _ (Around.deeper _ (envX _ _ s2.heap.objs.size frd (.ref crd) [(Str.ofString "text", ct), (Str.ofString "at", ca)])) (execs _ (envX _ _ s2.heap.objs.size frd (.ref crd) [(Str.ofString "text", ct), (Str.ofString "at", ca)])) _ _ _
    try k_fold
    k_steps
    rename News _ _ _ _ => N10
    rename Fr _ _ _ _ => F10
    have es := slice_one (x := x) (pos := pos) hpos
    show Q2 (Value.str (Txt.slice x (some (pos : Int)) (some ((pos : Int) + 1))) _) _
    have ha10 := (N10 _ (.head _)).1
    have e10 : (pos : Int) + ((Txt.slice x (some (pos : Int)) (some ((pos : Int) + 1))).length : Int) = ((pos + ((x.cps.toList.drop pos).take 1).length : Nat) : Int) := by
      rw [es]
      show (pos : Int) + ((((x.cps.toList.drop pos).take 1).toArray.size : Nat) : Int) = _
      rw [List.size_toArray]
      omega
    replace ha10 : Heap.get? _ al = some (W.listOf #[.int ((pos : Int) + ((Txt.slice x (some (pos : Int)) (some ((pos : Int) + 1))).length : Int)) _] _) := ha10
    rw [e10] at ha10
    rw [es]
    exact hq _ _ _ _ _ F10.keep (N10 _ (.tail _ (.head _))).1 (N10 _ (.tail _ (.tail _ (.head _)))).1 ha10
end Mine
end

section
theorem Mine.offRdc : True := by
  w_top off
  trivial
open PySem PySem.W PyProof.Rows PySem.Spec PySem.Calls PyProof.Rows.LCg
set_option Elab.async false
set_option maxRecDepth 100000
set_option maxHeartbeats 1000000
namespace Mine
set_option pp.deepTerms false
set_option pp.maxSteps 3000
/-- the lexer's still parts -/
structure LxS (w : World) (x : Str) : Type where
  lx : Nat
  dx : Nat
  pb : Nat
  al : Nat
  st : Nat
  sd : Nat
  rd : Nat
  crd : Nat
  ca : Nat
  ct : Nat
  ost : Obj
  osd : Obj
  ord : Obj
  ocrd : Obj
  oca : Obj
  oct : Obj
  k1 : Tok
  k2 : Tok
  k3 : Tok
  k4 : Tok
  tw : Tok
  nd : Chain10 lx dx pb al st sd rd crd ca ct
  cls : ost.cls = .type "function"
  dict : ost.dict = some sd
  data : ∀ c, ost.data ≠ .cls c
  ns : NsObj osd (fun y => if y = Str.ofString "read" then some (.ref rd) else none)
  fnc : ∀ h : Heap, h.get? rd = some ord → FnAt rd h
  read : ReadC w x rd crd al ca ct ord ocrd oca oct
noncomputable def LxS.adr {w : World} {x : Str} (S : LxS w x) : List Addr := [S.lx, S.dx, S.pb, S.al, S.st, S.sd, S.rd, S.crd, S.ca, S.ct]
noncomputable def LxS.led {w : World} {x : Str} (S : LxS w x) (ln : Int) (t5 : Tok) (oPb : Obj) (pos : Nat) (t6 : Tok) (k6 : Nat) : List (Addr × Obj) :=
  [(S.lx, instObj 87 S.dx), (S.dx, lxD w S.k1 S.k2 S.k3 S.k4 ln t5 S.st S.tw S.pb), (S.pb, oPb), (S.al, W.listOf #[.int (pos : Int) t6] k6), (S.st, S.ost), (S.sd, S.osd), (S.rd, S.ord), (S.crd, S.ocrd), (S.ca, S.oca), (S.ct, S.oct)]
theorem LxS.adr_led {w : World} {x : Str} (S : LxS w x) (ln : Int) (t5 : Tok) (oPb : Obj) (pos : Nat) (t6 : Tok) (k6 : Nat) : (S.led ln t5 oPb pos t6 k6).map (·.1) = S.adr := rfl
theorem chain_ct {lx dx pb al st sd rd crd ca ct : Nat} (nd : Chain10 lx dx pb al st sd rd crd ca ct) : ct < ca ∧ ct < al ∧ ct < crd ∧ ct < rd ∧ ct < st ∧ ct < sd ∧ ct < dx ∧ ct < lx ∧ ct < pb := by
  obtain ⟨a1, a2, a3, a4, a5, a6, a7, a8, a9⟩ := nd
  have b2 := Nat.lt_trans a1 a2
  have b3 := Nat.lt_trans b2 a3
  have b4 := Nat.lt_trans b3 a4
  have b5 := Nat.lt_trans b4 a5
  have b6 := Nat.lt_trans b5 a6
  have b7 := Nat.lt_trans b6 a7
  have b8 := Nat.lt_trans b7 a8
  exact ⟨a1, b2, b3, b4, b5, b6, b7, b8, Nat.lt_trans b8 a9⟩
theorem chain_pb {lx dx pb al st sd rd crd ca ct : Nat} (nd : Chain10 lx dx pb al st sd rd crd ca ct) : lx < pb ∧ dx < pb ∧ sd < pb ∧ st < pb ∧ rd < pb ∧ crd < pb ∧ al < pb ∧ ca < pb ∧ ct < pb := by
  obtain ⟨a1, a2, a3, a4, a5, a6, a7, a8, a9⟩ := nd
  have b2 := Nat.lt_trans a8 a9
  have b3 := Nat.lt_trans a7 b2
  have b4 := Nat.lt_trans a6 b3
  have b5 := Nat.lt_trans a5 b4
  have b6 := Nat.lt_trans a4 b5
  have b7 := Nat.lt_trans a3 b6
  have b8 := Nat.lt_trans a2 b7
  exact ⟨a9, b2, b3, b4, b5, b6, b7, b8, Nat.lt_trans a1 b8⟩
theorem LxS.rng {w : World} {x : Str} (S : LxS w x) {b : Nat} (h : (b : Addr) ∈ S.adr) : @LE.le Nat _ S.ct b ∧ @LE.le Nat _ b S.pb := by
  obtain ⟨c1, c2, c3, c4, c5, c6, c7, c8, c9⟩ := chain_ct S.nd
  obtain ⟨p1, p2, p3, p4, p5, p6, p7, p8, p9⟩ := chain_pb S.nd
  unfold LxS.adr at h
  simp only [List.mem_cons, List.not_mem_nil, or_false] at h
  rcases h with rfl | rfl | rfl | rfl | rfl | rfl | rfl | rfl | rfl | rfl
  · exact ⟨Nat.le_of_lt c8, Nat.le_of_lt p1⟩
  · exact ⟨Nat.le_of_lt c7, Nat.le_of_lt p2⟩
  · exact ⟨Nat.le_of_lt c9, Nat.le_refl _⟩
  · exact ⟨Nat.le_of_lt c2, Nat.le_of_lt p7⟩
  · exact ⟨Nat.le_of_lt c5, Nat.le_of_lt p4⟩
  · exact ⟨Nat.le_of_lt c6, Nat.le_of_lt p3⟩
  · exact ⟨Nat.le_of_lt c4, Nat.le_of_lt p5⟩
  · exact ⟨Nat.le_of_lt c3, Nat.le_of_lt p6⟩
  · exact ⟨Nat.le_of_lt c1, Nat.le_of_lt p8⟩
  · exact ⟨Nat.le_refl _, Nat.le_of_lt p9⟩
theorem LxS.below {w : World} {x : Str} (S : LxS w x) : ∀ a : Nat, a < S.ct → (a : Addr) ∉ S.adr := fun _ h1 h2 => Nat.lt_irrefl _ (Nat.lt_of_lt_of_le h1 (S.rng h2).1)
theorem LxS.above {w : World} {x : Str} (S : LxS w x) : ∀ a : Nat, S.pb < a → (a : Addr) ∉ S.adr := fun _ h1 h2 => Nat.lt_irrefl _ (Nat.lt_of_lt_of_le h1 (S.rng h2).2)
theorem LxS.lt_nl {w : World} {x : Str} (S : LxS w x) {Z nl : Nat} (h1 : Z ≤ S.ct) (h2 : @LT.lt Nat _ S.pb nl) : Z < nl := Nat.lt_of_le_of_lt h1 (Nat.lt_trans (chain_ct S.nd).2.2.2.2.2.2.2.2 h2)
theorem ct10 {lx dx pb al st sd rd crd ca ct a : Nat} (nd : Chain10 lx dx pb al st sd rd crd ca ct) (h : a < ct) : a < ca ∧ a < al ∧ a < crd ∧ a < rd ∧ a < st ∧ a < sd ∧ a < dx ∧ a < lx ∧ a < pb := by
  obtain ⟨a1, a2, a3, a4, a5, a6, a7, a8, a9⟩ := chain_ct nd
  exact ⟨Nat.lt_trans h a1, Nat.lt_trans h a2, Nat.lt_trans h a3, Nat.lt_trans h a4, Nat.lt_trans h a5, Nat.lt_trans h a6, Nat.lt_trans h a7, Nat.lt_trans h a8, Nat.lt_trans h a9⟩
theorem pb10 {lx dx pb al st sd rd crd ca ct a : Nat} (nd : Chain10 lx dx pb al st sd rd crd ca ct) (h : pb < a) : lx < a ∧ dx < a ∧ sd < a ∧ st < a ∧ rd < a ∧ crd < a ∧ al < a ∧ ca < a ∧ ct < a := by
  obtain ⟨a1, a2, a3, a4, a5, a6, a7, a8, a9⟩ := chain_pb nd
  exact ⟨Nat.lt_trans a1 h, Nat.lt_trans a2 h, Nat.lt_trans a3 h, Nat.lt_trans a4 h, Nat.lt_trans a5 h, Nat.lt_trans a6 h, Nat.lt_trans a7 h, Nat.lt_trans a8 h, Nat.lt_trans a9 h⟩
theorem lt10 {lx dx pb al st sd rd crd ca ct m n : Nat} (h : lx < m ∧ dx < m ∧ pb < m ∧ al < m ∧ st < m ∧ sd < m ∧ rd < m ∧ crd < m ∧ ca < m ∧ ct < m) (e : m < n) : lx < n ∧ dx < n ∧ pb < n ∧ al < n ∧ st < n ∧ sd < n ∧ rd < n ∧ crd < n ∧ ca < n ∧ ct < n := by
  obtain ⟨a1, a2, a3, a4, a5, a6, a7, a8, a9, b⟩ := h
  exact ⟨Nat.lt_trans a1 e, Nat.lt_trans a2 e, Nat.lt_trans a3 e, Nat.lt_trans a4 e, Nat.lt_trans a5 e, Nat.lt_trans a6 e, Nat.lt_trans a7 e, Nat.lt_trans a8 e, Nat.lt_trans a9 e, Nat.lt_trans b e⟩
theorem ten_out {lx dx pb al st sd rd crd ca ct : Nat} (nd : Chain10 lx dx pb al st sd rd crd ca ct) : ∀ b ∈ [lx, dx, pb, st, sd, rd, crd], b ∉ [al, ca, ct] := by
  obtain ⟨a1, a2, a3, a4, a5, a6, a7, a8, a9⟩ := nd
  have b4 := Nat.lt_trans a3 a4
  have b5 := Nat.lt_trans b4 a5
  have b6 := Nat.lt_trans b5 a6
  have b7 := Nat.lt_trans b6 a7
  have b8 := Nat.lt_trans b7 a8
  have b9 := Nat.lt_trans b8 a9
  have h1 : ∀ b ∈ [lx, dx, pb, st, sd, rd, crd], al < b := List.forall_mem_cons.mpr ⟨b8, List.forall_mem_cons.mpr ⟨b7, List.forall_mem_cons.mpr ⟨b9, List.forall_mem_cons.mpr ⟨b5, List.forall_mem_cons.mpr ⟨b6, List.forall_mem_cons.mpr ⟨b4, List.forall_mem_cons.mpr ⟨a3, List.forall_mem_nil _⟩⟩⟩⟩⟩⟩⟩
  have h2 : ∀ b ∈ [al, ca, ct], b ≤ al := List.forall_mem_cons.mpr ⟨Nat.le_refl _, List.forall_mem_cons.mpr ⟨Nat.le_of_lt a2, List.forall_mem_cons.mpr ⟨Nat.le_of_lt (Nat.lt_trans a1 a2), List.forall_mem_nil _⟩⟩⟩
  exact fun b hb hq => Nat.lt_irrefl _ (Nat.lt_of_lt_of_le (h1 b hb) (h2 b hq))
/-- the place's next sign, as a list -/
noncomputable def nx (x : Str) (pos : Nat) : List Nat := (x.cps.toList.drop pos).take 1
noncomputable def lnF (ln : Int) (l : List Nat) : Int := if l = [10] then ln + 1 else ln
local macro_rules | `(tactic| walk_at "getMethod ref") => `(tactic| refine Stop.out ?_)
local macro_rules | `(tactic| walk_at "call ref") => `(tactic| refine Stop.out ?_)
theorem rc_code {w : World} {vp : Program} {vl : List Str} {mean : ExcName → Option Value} {mg mb : Str → Option Value} {A : Around} {s : Shared} {g : Heap} {R : Result → Shared → Prop} (hh : A.handled = none) (hdp : A.depth + 30 < recursionLimit) (hun : A.units + 300 < cLine)
    (KX : (hd.heap_1 w.params).In g) (T : Top vp vl mean mg mb g) (hgs : Kept g s.heap) (hgz : g.objs.size ≤ s.heap.objs.size) {x : Str} (S : LxS w x) {ln : Int} {t5 t6 : Tok} {oPb : Obj} {pos k6 : Nat} (hpos : pos ≤ x.length)
    (hex : ∀ p ∈ S.led ln t5 oPb pos t6 k6, s.heap.get? p.1 = some p.2 ∧ g.get? p.1 = none)
    (hQ : ∀ h' tk t2 t5' t6' k6', Kept g h' → (∀ p ∈ S.led (lnF ln (nx x pos)) t5' oPb (pos + (nx x pos).length) t6' k6', h'.get? p.1 = some p.2) → R (.ok (.ret (.str ⟨(nx x pos).toArray⟩ t2))) ⟨h', s.gens, s.drawn, tk, s.os⟩) :
    codeAny (model PySem.Challenge.rw_re0075_01.row.toRowW.prog w) A (.call (.ref 70) ⟨[.ref S.lx], []⟩) R s := by
  obtain ⟨lx, dx, pb, al, st, sd, rd, crd, ca, ct, ost, osd, ord, ocrd, oca, oct, k1, k2, k3, k4, tw, nd, hcl, hdi, hda, hns, hfn, hrd⟩ := S
  dsimp only [LxS.led] at hex hQ ⊢
  obtain ⟨_, dp, fr, gd, un⟩ := A; cases hh; dsimp only at hdp hun; revert KX; k_fill; intro KX
  k_dflt (refine' entG [(Str.ofString "self", .ref lx)] _ KX T hgs hgz hex ?k6 ?k7 ?k8 ?k9 ?kB ?_ ?c2 ?c3 ?c4 ?c5; (case k6 => k_is); (case k7 => k_is); (case k8 => (dsimp only; omega)); (case k9 => exact rfl); (case c5 => decide); (case kB => exact locs rfl); (case c2 => exact rfl); (case c3 => exact rfl); (case c4 => exact rfl); k_whole)
  intro h1 F1 N1
  replace F1 : Fr g s.heap.objs.size h1 (fun nm => if nm = Str.ofString "self" then some (.ref lx) else none) := F1
  (try dsimp only)
  (try k_fold)
  k_steps
  refine Stop.go ?_
  refine fn_getmethod (N1 (st, ost) (.tail _ (.tail _ (.tail _ (.tail _ (.head _)))))).1 hcl hdi hda (hns.ns (N1 (sd, osd) (.tail _ (.tail _ (.tail _ (.tail _ (.tail _ (.head _))))))).1) (if_pos rfl) rfl ?_
  dsimp only
  refine callWith_F (hfn _ (N1 (rd, ord) (.tail _ (.tail _ (.tail _ (.tail _ (.tail _ (.tail _ (.head _)))))))).1) ?_
  k_steps
  · exact hfn _ (N1 (rd, ord) (.tail _ (.tail _ (.tail _ (.tail _ (.tail _ (.tail _ (.head _)))))))).1
  refine Stop.go ?_
  have ha : ∀ b ∈ ([al, ca, ct] : List Addr), b ≠ s.heap.objs.size ∧ g.get? b = none := List.forall_mem_cons.mpr ⟨(N1 (al, _) (.tail _ (.tail _ (.tail _ (.head _))))).2, List.forall_mem_cons.mpr ⟨(N1 (ca, oca) (.tail _ (.tail _ (.tail _ (.tail _ (.tail _ (.tail _ (.tail _ (.tail _ (.head _)))))))))).2, List.forall_mem_cons.mpr ⟨(N1 (ct, oct) (.tail _ (.tail _ (.tail _ (.tail _ (.tail _ (.tail _ (.tail _ (.tail _ (.tail _ (.head _))))))))))).2, List.forall_mem_nil _⟩⟩⟩
  refine hrd vp vl mean mg mb _ _ _ _ pos _ _ _ rfl ?d1 ?d2 (in_hide KX F1 fun b hb => (ha b hb).2) (T.keeps (kept_hide F1 fun b hb => (ha b hb).2)) (N1 (rd, ord) (.tail _ (.tail _ (.tail _ (.tail _ (.tail _ (.tail _ (.head _)))))))).1 (N1 (crd, ocrd) (.tail _ (.tail _ (.tail _ (.tail _ (.tail _ (.tail _ (.tail _ (.head _))))))))).1 (N1 (ca, oca) (.tail _ (.tail _ (.tail _ (.tail _ (.tail _ (.tail _ (.tail _ (.tail _ (.head _)))))))))).1 (N1 (ct, oct) (.tail _ (.tail _ (.tail _ (.tail _ (.tail _ (.tail _ (.tail _ (.tail _ (.tail _ (.head _))))))))))).1 (N1 (al, _) (.tail _ (.tail _ (.tail _ (.head _))))).1 hpos ?_
  case d1 => exact dp_le hdp (by decide)
  case d2 => exact un_le hun (by decide)
  intro h2 tk2 t2 t3 k2' hk2 hca2 hct2 hal2
  have F2 := fr_hide F1 hk2 ha
  have N2 : News g s.heap.objs.size h2 [(lx, instObj 87 dx), (dx, lxD w k1 k2 k3 k4 ln t5 st tw pb), (pb, oPb), (al, W.listOf #[.int ((pos + (nx x pos).length : Nat) : Int) t3] k2'), (st, ost), (sd, osd), (rd, ord), (crd, ocrd), (ca, oca), (ct, oct)] := by
    have out : ∀ p ∈ [(lx, instObj 87 dx), (dx, lxD w k1 k2 k3 k4 ln t5 st tw pb), (pb, oPb), (st, ost), (sd, osd), (rd, ord), (crd, ocrd)], p.1 ∉ ([al, ca, ct] : List Addr) := fun p hp hq => ten_out nd p.1 (List.mem_map_of_mem (f := Prod.fst) hp) hq
    have N3 := news_hide (news := [(lx, instObj 87 dx), (dx, lxD w k1 k2 k3 k4 ln t5 st tw pb), (pb, oPb), (st, ost), (sd, osd), (rd, ord), (crd, ocrd)]) (news_sub N1 (by lcg_sub)) hk2 out
    exact news_pick N3 (.head _) (news_pick N3 (.tail _ (.head _)) (news_pick N3 (.tail _ (.tail _ (.head _))) (news_put hal2 (ha _ (.head _)).1 (ha _ (.head _)).2 (news_pick N3 (.tail _ (.tail _ (.tail _ (.head _)))) (news_pick N3 (.tail _ (.tail _ (.tail _ (.tail _ (.head _))))) (news_pick N3 (.tail _ (.tail _ (.tail _ (.tail _ (.tail _ (.head _)))))) (news_pick N3 (.tail _ (.tail _ (.tail _ (.tail _ (.tail _ (.tail _ (.head _))))))) (news_put hca2 (ha _ (.tail _ (.head _))).1 (ha _ (.tail _ (.head _))).2 (news_put hct2 (ha _ (.tail _ (.tail _ (.head _)))).1 (ha _ (.tail _ (.tail _ (.head _)))).2 News.nil)))))))))
  clear F1 N1
  show wpAny _ _ _ _ _ _
  clear hk2 hal2 hca2 hct2 hrd hfn hns hda hdi hcl hex
  clear ha
  unfold Chain10 at nd
  rw [show List.take 1 (List.drop pos x.cps.toList) = nx x pos from rfl]
  generalize nx x pos = l at N2 hQ ⊢
  k_steps
  · rename News _ _ _ _ => N9
    rename Fr _ _ _ _ => F9
    rename (_ == _) = true => e9
    have e10 : l = [10] := by
      have e : (⟨l.toArray⟩ : Str) = ⟨#[10]⟩ := (eq_of_beq e9).trans rfl
      have e2 : l.toArray = #[10] := congrArg Str.cps e
      simpa using congrArg Array.toList e2
    have en : lnF ln l = ln + 1 := if_pos e10
    rw [en] at hQ
    exact hQ _ _ _ _ _ _ F9.keep (fun p hp => (N9 p hp).1)
  · rename News _ _ _ _ => N9
    rename Fr _ _ _ _ => F9
    rename (_ == _) = false => e9
    have en : lnF ln l = ln := if_neg fun e => by
      rw [e] at e9
      revert e9
      decide
    rw [en] at hQ
    exact hQ _ _ _ _ _ _ F9.keep (fun p hp => (N9 p hp).1)
end Mine
end

section
theorem Mine.offCit : True := by
  w_top off
  trivial
open PySem PySem.W PyProof.Rows PySem.Spec PySem.Calls PyProof.Rows.LCg
set_option Elab.async false
set_option maxRecDepth 100000
set_option maxHeartbeats 1000000
namespace Mine
theorem slot_ci_next : Slot "callable_iterator" "__next__" "callable_iterator.__next__" :=
  .of (owner := "callable_iterator") (n := "__next__") (by rw [typeLookup_type, builtinLookup_eq_fast]; kernel_rfl) (by decide +kernel) (by decide +kernel) (by decide +kernel)
    (by first | exact .inl (by decide +kernel) | exact .inr (by decide +kernel)) (by rw [isSubtype_type]; kernel_rfl)
theorem slot_ci_iter : Slot "callable_iterator" "__iter__" "callable_iterator.__iter__" :=
  .of (owner := "callable_iterator") (n := "__iter__") (by rw [typeLookup_type, builtinLookup_eq_fast]; kernel_rfl) (by decide +kernel) (by decide +kernel) (by decide +kernel)
    (by first | exact .inl (by decide +kernel) | exact .inr (by decide +kernel)) (by rw [isSubtype_type]; kernel_rfl)
theorem owner_ci : Manifest.find? (Str.ofString "callable_iterator").toString = Manifest.find? (Str.ofString "callable_iterator").toString := rfl
theorem entry_ci_next : entryFor table "callable_iterator.__next__" = some Builtin.«callable_iterator.__next__» := entryFor_of_tree (by kernel_rfl)
theorem entry_ci_iter : entryFor table "callable_iterator.__iter__" = some Builtin.«dict_keyiterator.__iter__» :=
  entryFor_alias (id' := "dict_keyiterator.__iter__") (by kernel_rfl) (by first | rfl | decide +kernel | (unfold String.splitOn; simp +decide [String.splitOnAux])) (by decide +kernel) (by kernel_rfl)
theorem args_ci_next (a : Value) : argsOk "callable_iterator.__next__" ⟨[a], []⟩ := by unfold argsOk; kernel_rfl
theorem args_ci_iter (a : Value) : argsOk "callable_iterator.__iter__" ⟨[a], []⟩ := by unfold argsOk; kernel_rfl
theorem args_iter2 (a b : Value) : argsOk "iter" ⟨[a, b], []⟩ := by unfold argsOk; kernel_rfl
theorem lk_meth_call : typeLookup (.type "method") (Str.ofString "__call__") = pure (some (.builtin "method.__call__")) := by rw [typeLookup_type, builtinLookup_eq_fast]; kernel_rfl
noncomputable abbrev ciObj (f x b : Value) : Obj := { cls := .type "callable_iterator", data := .fields #[f, x, b] }
section
variable {prog : Program} {w : World} {A : Around} {E : Value → Shared → Prop} {s : Shared}
theorem call_iter2 {mo : Addr} {f x : Value} {t : Tok} {Q : Value → Shared → Prop} (hm : s.heap.get? mo = some (methodObj f x))
    (h : Q (.ref s.heap.objs.size) { s with heap := s.heap.push (ciObj (.ref mo) (.str (Str.ofString "") t) (.bool false)) }) :
    wpAny (model prog w) A (call (.builtin "iter") [.ref mo, .str (Str.ofString "") t]) Q E s := by
  refine call_function_entry (by decide +kernel) (by decide +kernel) kdk_entry_iter (args_iter2 _ _) ?_
  unfold Builtin.«iter»
  refine wpAny_bind (m := someArgs "iter" 1 2 _) (wpAny_of_eq (a := [Value.ref mo, .str (Str.ofString "") t]) (by first | rfl | kernel_rfl!) ?_)
  have hT : s.TypeIs (.ref mo) "method" := ⟨_, hm, rfl⟩
  show wpAny _ _ (specialOf (.ref mo) (Str.ofString "__call__") >>= _) _ _ _
  refine wpAny_bind (wpAny_specialOf hT lk_meth_call ?_)
  dsimp only
  rw [if_neg (show ¬ ((some (Value.builtin "method.__call__")).isNone = true) from Bool.false_ne_true)]
  refine wpAny_bind (wpAny_rule ?_)
  refine wpAny_bind (wpAny_newObj_type (wpAny_pure ?_))
  exact ⟨_, rfl, h⟩
theorem ci_iter {it : Addr} {f x b : Value} {Q : Value → Shared → Prop} (hi : s.heap.get? it = some (ciObj f x b)) (h : Q (.ref it) s) : wpAny (model prog w) A (pyIter (.ref it)) Q E s := by
  have hT : s.TypeIs (.ref it) "callable_iterator" := ⟨_, hi, rfl⟩
  refine wpAny_pyIter_slot hT slot_ci_iter (wpAny_call_entry slot_ci_iter hT entry_ci_iter ?_ (args_ci_iter _))
  show wpAny _ _ (ret (.ref it)) _ _ s
  exact wpAny_pure ⟨_, rfl, "callable_iterator", _, hT, slot_ci_next.lookup, h⟩
theorem wpAny_callBorrowed {f : Value} {pos : List Value} {Q : Value → Shared → Prop}
    (hc : codeAny (model prog w) A (.call f ⟨pos, []⟩) (fun r s' => match r with | .ok (.ret v) => Q v s' | .ok _ => False | .error e => E e s') s) :
    wpAny (model prog w) A (callBorrowed f pos) Q E s := fun Γ p hΓ => by
  unfold callBorrowed
  rw [Sem.wp_call]
  refine wpCode_mono ?_ (hc _ p rfl (hΓ.enter _ none p (by intro x; cases x)))
  intro r s' hr
  match r with
  | .ok (.ret v) => exact hr
  | .ok .next => exact hr.elim
  | .ok .brk => exact hr.elim
  | .ok .cont => exact hr.elim
  | .error e => exact hr
theorem borrows {mo f : Addr} {x : Value} {o : Obj} {fd : FuncData} {Q : Bool → Shared → Prop} (hm : s.heap.get? mo = some (methodObj (.ref f) x)) (hf : s.heap.get? f = some o) (hfd : o.data = .func fd)
    (h : Q true s) : wpAny (model prog w) A (borrowsExactly (.ref mo)) Q E s := by
  unfold borrowsExactly
  dsimp only
  refine wpAny_bind (wpAny_load hm ?_)
  dsimp only
  rw [if_pos (by decide)]
  show wpAny _ _ (load f >>= _) _ _ _
  refine wpAny_bind (wpAny_load hf ?_)
  rw [hfd]
  exact wpAny_pure h
noncomputable def CiPost (it mo f x : Addr) (ts : Tok) (Q : Option Value → Shared → Prop) (r : Result) (s' : Shared) : Prop :=
  ∃ y t, r = .ok (.ret (.str y t)) ∧ s'.heap.get? it = some (ciObj (.ref mo) (.str (Str.ofString "") ts) (.bool false)) ∧ s'.heap.get? mo = some (methodObj (.ref f) (.ref x)) ∧ (∃ o fd, s'.heap.get? f = some o ∧ o.data = .func fd) ∧
    (y ≠ ⟨#[]⟩ → Q (some (.str y t)) s') ∧ (y = ⟨#[]⟩ → ∀ h', h'.get? it = some (ciObj .none .none (.bool true)) → (∀ b o, b ≠ it → s'.heap.get? b = some o → h'.get? b = some o) → Q none { s' with heap := h' })
/-- the end of an iterator, met by pyNext -/
theorem ci_stop {α : Type} {Q : Option Value → Shared → Prop} (hh : A.handled = none) {R : α → Shared → Prop}
    (h : ∀ h', (∀ b o, s.heap.get? b = some o → h'.get? b = some o) → Q none { s with heap := h' }) :
    wpAny (model prog w) A.in1 (Builtin.SmallTypes.stopIteration : Sem α) R (fun e s' => wpAny (model prog w) A (match (Except.error e : Except Value (Option Value)) with
        | Except.ok (some v) => pure (some v)
        | Except.ok none => unsupported "iter:the-iterator's-class-has-lost-its-__next__-amid-the-walk"
        | Except.error e => do
          let __do_lift ← isInstance e (Value.type "StopIteration")
          if __do_lift = true then pure none else throw e) Q E s') s := by
  show wpAny _ _ (newExc (.type "StopIteration") [] >>= _) _ _ _
  refine wpAny_bind ?_
  simp only [newExc, newTuple]
  refine wpAny_bind (wpAny_newObj_type ?_ (by size_fits))
  refine wpAny_bind (m := firstArgMember _ _) (wpAny_of_eq (a := Value.none) (by first | rfl | (simp only [firstArgMember]; rfl)) ?_)
  refine wpAny_newObj_type ?_ (by size_fits)
  simp only [raiseNew]
  refine wpAny_bind (wpAny_handled ?_)
  rw [show A.in1.handled = none from hh]
  refine wpAny_bind (wpAny_pure (wpAny_throw ?_))
  refine wpAny_bind (wpAny_isInstance (T := "StopIteration") (b := true) ⟨_, Heap.get?_push_size _ rfl, rfl⟩ isSubtype_stop ?_)
  exact wpAny_pure (h _ fun b o e => Heap.get?_push_of_some _ (Heap.get?_push_of_some _ e))
/-- an iterator that has ended -/
theorem ci_ended {it : Addr} {a b : Value} {Q : Option Value → Shared → Prop} (hh : A.handled = none) (hi : s.heap.get? it = some (ciObj a b (.bool true)))
    (h : ∀ h', (∀ b o, s.heap.get? b = some o → h'.get? b = some o) → Q none { s with heap := h' }) : wpAny (model prog w) A (pyNext (.ref it)) Q E s := by
  have hT : s.TypeIs (.ref it) "callable_iterator" := ⟨_, hi, rfl⟩
  unfold pyNext
  refine wpAny_bind (wpAny_attempt (wpAny_callSpecial?_slot (name := Str.ofString "__next__") hT slot_ci_next
    (wpAny_call_entry slot_ci_next hT entry_ci_next ?_ (args_ci_next _))))
  show wpAny _ _ (field (.ref it) 2 >>= _) _ _ s
  refine wpAny_bind (wpAny_field hi rfl (x := .bool true) rfl ?_)
  rw [if_pos (by decide)]
  refine wpAny_bind (wpAny_rule ?_)
  refine wpAny_bind ?_
  exact ci_stop hh h
theorem ci_next {it mo f x : Addr} {ts : Tok} {o : Obj} {fd : FuncData} {Q : Option Value → Shared → Prop} (hh : A.handled = none) (hi : s.heap.get? it = some (ciObj (.ref mo) (.str (Str.ofString "") ts) (.bool false)))
    (hm : s.heap.get? mo = some (methodObj (.ref f) (.ref x))) (hf : s.heap.get? f = some o) (hfd : o.data = .func fd)
    (hc : codeAny (model prog w) A.in1.in1 (.call (.ref f) ⟨[.ref x], []⟩) (CiPost it mo f x ts Q) s) : wpAny (model prog w) A (pyNext (.ref it)) Q E s := by
  have hT : s.TypeIs (.ref it) "callable_iterator" := ⟨_, hi, rfl⟩
  unfold pyNext
  refine wpAny_bind (wpAny_attempt (wpAny_callSpecial?_slot (name := Str.ofString "__next__") hT slot_ci_next
    (wpAny_call_entry slot_ci_next hT entry_ci_next ?_ (args_ci_next _))))
  show wpAny _ _ (field (.ref it) 2 >>= _) _ _ s
  refine wpAny_bind (wpAny_field hi rfl (x := .bool false) rfl ?_)
  rw [if_neg (by decide)]
  show wpAny _ _ (field (.ref it) 0 >>= _) _ _ s
  refine wpAny_bind (wpAny_field hi rfl (x := .ref mo) rfl ?_)
  refine wpAny_bind (wpAny_attempt ?_)
  unfold callOutOfASlot
  refine wpAny_bind (borrows hm hf hfd ?_)
  rw [if_pos rfl]
  refine wpAny_callBorrowed (ks_codeAny_call_bound hm (codeAny_mono (codeAny_of_in1 hc) ?_))
  rintro r s' ⟨y, t, rfl, hi', hm', ⟨o', fd', hf', hfd'⟩, hne, heq⟩
  dsimp only
  refine wpAny_bind (wpAny_field hi' rfl (x := .bool false) rfl ?_)
  rw [if_neg (by decide)]
  show wpAny _ _ (field (.ref it) 1 >>= _) _ _ s'
  refine wpAny_bind (wpAny_field hi' rfl (x := .str (Str.ofString "") ts) rfl ?_)
  refine wpAny_bind (wpAny_holding (wpAny_eqBool_str ?_))
  have e0 : Str.ofString "" = ⟨#[]⟩ := by decide
  by_cases hy : y = ⟨#[]⟩
  · rw [if_neg (by rw [hy, e0]; decide)]
    refine wpAny_bind (wpAny_rule ?_)
    refine wpAny_bind ?_
    show wpAny _ _ (field (.ref it) 0 >>= _) _ _ _
    refine wpAny_bind (wpAny_field hi' rfl (x := .ref mo) rfl ?_)
    refine wpAny_bind ?_
    unfold slotLetsGo
    refine wpAny_bind (borrows hm' hf' hfd' ?_)
    rw [if_pos rfl]
    refine wpAny_pure ?_
    have e1 : (s'.heap.update it (Obj.mapFields (·.setIfInBounds 0 .none))).get? it = some (ciObj .none (.str (Str.ofString "") ts) (.bool false)) := Heap.get?_update_self _ hi' rfl
    refine wpAny_bind (wpAny_setField hi' rfl (by simp) ?_)
    refine wpAny_bind (wpAny_setField e1 rfl (by simp) ?_)
    have e2 : ((s'.heap.update it (Obj.mapFields (·.setIfInBounds 0 .none))).update it (Obj.mapFields (·.setIfInBounds 1 .none))).get? it = some (ciObj .none .none (.bool false)) := Heap.get?_update_self _ e1 rfl
    refine wpAny_setField e2 rfl (by simp) ?_
    have e3 : (((s'.heap.update it (Obj.mapFields (·.setIfInBounds 0 .none))).update it (Obj.mapFields (·.setIfInBounds 1 .none))).update it (Obj.mapFields (·.setIfInBounds 2 (.bool true)))).get? it = some (ciObj .none .none (.bool true)) := Heap.get?_update_self _ e2 rfl
    have ek : ∀ b o, b ≠ it → s'.heap.get? b = some o → (((s'.heap.update it (Obj.mapFields (·.setIfInBounds 0 .none))).update it (Obj.mapFields (·.setIfInBounds 1 .none))).update it (Obj.mapFields (·.setIfInBounds 2 (.bool true)))).get? b = some o := fun b o hb e =>
      (Heap.get?_update_ne _ _ _ _ hb).trans ((Heap.get?_update_ne _ _ _ _ hb).trans ((Heap.get?_update_ne _ _ _ _ hb).trans e))
    refine ci_stop hh ?_
    intro h' hk
    exact heq hy h' (hk _ _ e3) (fun b o hb e => hk b o (ek b o hb e))
  · rw [if_pos (by rw [e0]; simp [Ne.symm hy])]
    exact wpAny_pure ⟨_, rfl, wpAny_pure (hne hy)⟩
end
end Mine
end

section
theorem Mine.offRcf : True := by
  w_top off
  trivial
open PySem PySem.W PyProof.Rows PySem.Spec PySem.Calls PyProof.Rows.LCg
set_option Elab.async false
set_option maxRecDepth 100000
set_option maxHeartbeats 1000000
namespace Mine
theorem LxS.led_adr {w : World} {x : Str} (S : LxS w x) {ln : Int} {t5 : Tok} {oPb : Obj} {pos : Nat} {t6 : Tok} {k6 : Nat} {p : Addr × Obj} (hp : p ∈ S.led ln t5 oPb pos t6 k6) : p.1 ∈ S.adr := by
  rw [← S.adr_led ln t5 oPb pos t6 k6]
  exact List.mem_map_of_mem hp
theorem LxS.adr_ex {w : World} {x : Str} (S : LxS w x) (ln : Int) (t5 : Tok) (oPb : Obj) (pos : Nat) (t6 : Tok) (k6 : Nat) {b : Addr} (hb : b ∈ S.adr) : ∃ o, (b, o) ∈ S.led ln t5 oPb pos t6 k6 := by
  rw [← S.adr_led ln t5 oPb pos t6 k6] at hb
  obtain ⟨p, hp, rfl⟩ := List.mem_map.mp hb
  exact ⟨p.2, hp⟩
section
variable {w : World} {x : Str} {s : Shared} {g : Heap} {L : Addr} {m : Str → Option Value} {own : List (Addr × Obj)} {ln : Int} {t5 t6 : Tok} {oPb : Obj} {pos k6 : Nat}
theorem led_out (S : LxS w x) (N : News g L s.heap (own ++ S.led ln t5 oPb pos t6 k6)) : ∀ b ∈ S.adr, b ≠ L ∧ g.get? b = none := by
  intro b hb
  obtain ⟨o, ho⟩ := S.adr_ex ln t5 oPb pos t6 k6 hb
  exact (N _ (List.mem_append_right _ ho)).2
theorem led_ex (S : LxS w x) (N : News g L s.heap (own ++ S.led ln t5 oPb pos t6 k6)) : ∀ p ∈ S.led ln t5 oPb pos t6 k6, s.heap.get? p.1 = some p.2 ∧ (hideAll s.heap S.adr).get? p.1 = none :=
  fun p hp => ⟨(N p (List.mem_append_right _ hp)).1, hideAll_none _ (S.led_adr hp)⟩
theorem led_back (S : LxS w x) (N : News g L s.heap (own ++ S.led ln t5 oPb pos t6 k6)) (ho : ∀ p ∈ own, p.1 ∉ S.adr) {h' : Heap} {ln' : Int} {t5' t6' : Tok} {oPb' : Obj} {pos' k6' : Nat} (hk : Kept (hideAll s.heap S.adr) h')
    (hl : ∀ p ∈ S.led ln' t5' oPb' pos' t6' k6', h'.get? p.1 = some p.2) : News g L h' (own ++ S.led ln' t5' oPb' pos' t6' k6') := by
  intro p hp
  rcases List.mem_append.mp hp with hp | hp
  · exact news_hide (news := own) (fun q hq => N q (List.mem_append_left _ hq)) hk ho p hp
  · exact ⟨hl p hp, led_out S N _ (S.led_adr hp)⟩
end
theorem rc_fn {w : World} {vp : Program} {vl : List Str} {mean : ExcName → Option Value} {mg mb : Str → Option Value} {A : Around} {s : Shared} {g : Heap} {R : Result → Shared → Prop} (hh : A.handled = none) (hdp : A.depth + 30 < recursionLimit) (hun : A.units + 300 < cLine)
    (KX : (hd.heap_1 w.params).In g) (T : Top vp vl mean mg mb g) {x : Str} (S : LxS w x) {L : Addr} {m : Str → Option Value} {own : List (Addr × Obj)} {ln : Int} {t5 t6 : Tok} {oPb : Obj} {pos k6 : Nat} (hpos : pos ≤ x.length)
    (F : Fr g L s.heap m) (N : News g L s.heap (own ++ S.led ln t5 oPb pos t6 k6)) (ho : ∀ p ∈ own, p.1 ∉ S.adr)
    (hQ : ∀ h' tk t2 t5' t6' k6', Fr g L h' m → News g L h' (own ++ S.led (lnF ln (nx x pos)) t5' oPb (pos + (nx x pos).length) t6' k6') → R (.ok (.ret (.str ⟨(nx x pos).toArray⟩ t2))) ⟨h', s.gens, s.drawn, tk, s.os⟩) :
    codeAny (model PySem.Challenge.rw_re0075_01.row.toRowW.prog w) A (.call (.ref 70) ⟨[.ref S.lx], []⟩) R s := by
  have ha := led_out S N
  refine rc_code hh hdp hun (in_hide KX F fun b hb => (ha b hb).2) (T.keeps (kept_hide F fun b hb => (ha b hb).2)) hide_keep hide_size S hpos (led_ex S N) ?_
  intro h' tk t2 t5' t6' k6' hk hl
  exact hQ h' tk t2 t5' t6' k6' (fr_hide F hk ha) (led_back S N ho hk hl)
end Mine
end

section
theorem Mine.offFci : True := by
  w_top off
  trivial
open PySem PySem.W PyProof.Rows PySem.Spec PySem.Calls PyProof.Rows.LCg
set_option Elab.async false
set_option maxRecDepth 100000
set_option maxHeartbeats 1000000
namespace Mine
theorem nx_nil {x : Str} {pos : Nat} (hp : pos ≤ x.length) (h : nx x pos = []) : pos = x.length := by
  unfold nx at h
  have h2 := congrArg List.length h
  rw [List.length_take, List.length_drop, Array.length_toList] at h2
  have h3 : x.length = x.cps.size := rfl
  simp only [List.length_nil] at h2
  omega
theorem nx_end {x : Str} {pos : Nat} (hp : pos = x.length) : nx x pos = [] := by
  unfold nx
  rw [List.drop_of_length_le (by rw [hp, Array.length_toList]; exact Nat.le_refl _)]
  rfl
theorem nx_cons {x : Str} {pos : Nat} (h : nx x pos ≠ []) : ∃ c, nx x pos = [c] ∧ x.cps.toList.drop pos = c :: x.cps.toList.drop (pos + 1) ∧ pos + 1 ≤ x.length := by
  unfold nx at h ⊢
  cases e : x.cps.toList.drop pos with
  | nil => rw [e] at h; exact absurd rfl h
  | cons c r =>
    refine ⟨c, rfl, ?_, ?_⟩
    · rw [← List.drop_drop, e]; rfl
    · have h2 := congrArg List.length e
      rw [List.length_drop, Array.length_toList, List.length_cons] at h2
      have h3 : x.length = x.cps.size := rfl
      omega
section
variable {w : World} {x : Str}
noncomputable def CiLed (S : LxS w x) (it mo : Addr) (ts : Tok) (kp : Nat) (alive : Bool) (ln : Int) (t5 : Tok) (pos : Nat) (t6 : Tok) (k6 : Nat) : List (Addr × Obj) :=
  [(it, if alive = true then ciObj (.ref mo) (.str (Str.ofString "") ts) (.bool false) else ciObj .none .none (.bool true)), (mo, methodObj (.ref 70) (.ref S.lx))] ++ S.led ln t5 (W.listOf #[] kp) pos t6 k6
theorem fn_fact {K : Frag} {a : Addr} {oc : Value} {od : Option Addr} {fd : FuncData} {osl : Array (Option Value)} (e : K.lookup a = some ⟨oc, od, .func fd, osl⟩) : ∃ o fd, K.lookup a = some o ∧ o.data = .func fd := ⟨_, _, e, rfl⟩
/-- where a turn of a for over the reader's iterator ends -/
noncomputable def CiEnd (S : LxS w x) (it mo : Addr) (ts : Tok) (kp : Nat) (g : Heap) (L : Addr) (G : Array GenState) (dr : Drawn) (os : OsState) (lo : Nat) (J D : (Str → Option Value) → Int → Nat → Prop) (s' : Shared) : Prop :=
  ∃ m' h' tk' ln' pos' t5' t6' k6' al, s' = ⟨h', G, dr, tk', os⟩ ∧ Fr g L h' m' ∧ News g L h' (CiLed S it mo ts kp al ln' t5' pos' t6' k6') ∧ (al = true → lo ≤ pos' ∧ pos' ≤ x.length ∧ J m' ln' pos') ∧ (al = false → D m' ln' pos')
theorem CiEnd.on {S : LxS w x} {it mo : Addr} {ts : Tok} {kp : Nat} {g : Heap} {L : Addr} {G : Array GenState} {dr : Drawn} {os : OsState} {lo : Nat} {J D : (Str → Option Value) → Int → Nat → Prop} {m' : Str → Option Value} {h' : Heap} {tk' : Nat} {ln' : Int} {pos' : Nat} {t5' t6' : Tok} {k6' : Nat}
    (F : Fr g L h' m') (N : News g L h' (CiLed S it mo ts kp true ln' t5' pos' t6' k6')) (a : lo ≤ pos') (b : pos' ≤ x.length) (c : J m' ln' pos') : CiEnd S it mo ts kp g L G dr os lo J D ⟨h', G, dr, tk', os⟩ :=
  ⟨m', h', tk', ln', pos', t5', t6', k6', true, rfl, F, N, fun _ => ⟨a, b, c⟩, fun q => by cases q⟩
theorem CiEnd.off {S : LxS w x} {it mo : Addr} {ts : Tok} {kp : Nat} {g : Heap} {L : Addr} {G : Array GenState} {dr : Drawn} {os : OsState} {lo : Nat} {J D : (Str → Option Value) → Int → Nat → Prop} {m' : Str → Option Value} {h' : Heap} {tk' : Nat} {ln' : Int} {pos' : Nat} {t5' t6' : Tok} {k6' : Nat}
    (F : Fr g L h' m') (N : News g L h' (CiLed S it mo ts kp false ln' t5' pos' t6' k6')) (c : D m' ln' pos') : CiEnd S it mo ts kp g L G dr os lo J D ⟨h', G, dr, tk', os⟩ :=
  ⟨m', h', tk', ln', pos', t5', t6', k6', false, rfl, F, N, (fun q => by cases q), fun _ => c⟩
theorem for_ci {vp : Program} {vl : List Str} {mean : ExcName → Option Value} {mg mb : Str → Option Value} {A : Around} {h00 : Heap} {t00 : Nat} {G : Array GenState} {dr : Drawn} {os : OsState} {g : Heap} {R : Result → Shared → Prop} {nm : Str} {px : Pos} {body : List Stmt} {env : Env} {L : Addr} (hh : A.handled = none) (hdp : A.depth + 30 < recursionLimit) (hun : A.units + 310 < cLine)
    (KX : (hd.heap_1 w.params).In g) (T : Top vp vl mean mg mb g) (S : LxS w x) {it mo : Addr} {ts : Tok} {kp lo : Nat} (J D : (Str → Option Value) → Int → Nat → Prop)
    (hx : env.kindOf nm = some .local) (hp : (env.scope.kind == .class || (env.scope.kind == .module && env.locals != env.globals)) = false) (hL : env.locals = L)
    (hit : it ∉ S.adr) (hmo : mo ∉ S.adr) (hmi : mo ≠ it)
    (st : CiEnd S it mo ts kp g L G dr os lo J D ⟨h00, G, dr, t00, os⟩)
    (fin : ∀ m ln, J m ln x.length → D m ln x.length)
    (turn : ∀ m ln pos t5 t6 k6 c u h tk, J m ln pos → x.cps.toList.drop pos = c :: x.cps.toList.drop (pos + 1) → pos + 1 ≤ x.length → Fr g L h (fun y => if y = nm then some (.str ⟨#[c]⟩ u) else m y) → News g L h (CiLed S it mo ts kp true (lnF ln [c]) t5 (pos + 1) t6 k6) →
      ∀ Qv Ev, (∀ s', CiEnd S it mo ts kp g L G dr os (pos + 1) J D s' → Qv .next s' ∧ Qv .cont s') → (∀ v s', R (.ok (.ret v)) s' → Qv (.ret v) s') → wpAny (model PySem.Challenge.rw_re0075_01.row.toRowW.prog w) A (execs body env) Qv Ev ⟨h, G, dr, tk, os⟩)
    (done : ∀ m ln pos t5 t6 k6 h tk, D m ln pos → Fr g L h m → News g L h (CiLed S it mo ts kp false ln t5 pos t6 k6) → R (.ok .next) ⟨h, G, dr, tk, os⟩) :
    codeAny (model PySem.Challenge.rw_re0075_01.row.toRowW.prog w) A (.forLoop (.Name nm px) (.ref it) body [] env) R ⟨h00, G, dr, t00, os⟩ := by
  subst hL
  revert KX; k_fill; intro KX
  have f70 : ∃ o fd, (hd.heap_1 w.params).lookup 70 = some o ∧ o.data = .func fd := by
    refine' fn_fact ?e
    case e => k_is
  obtain ⟨m0, h0, tk0, ln0, pos0, t50, t60, k60, al0, e0, F0, N0, a0, d0⟩ := st
  refine codeAny_forLoop (fun k s' => ∃ m' h' tk' ln' pos' t5' t6' k6' al, s' = ⟨h', G, dr, tk', os⟩ ∧ Fr g env.locals h' m' ∧ News g env.locals h' (CiLed S it mo ts kp al ln' t5' pos' t6' k6') ∧ (al = true → pos' ≤ x.length ∧ J m' ln' pos' ∧ k = x.length + 1 - pos') ∧ (al = false → D m' ln' pos' ∧ k = 0)) ?_ (if al0 = true then x.length + 1 - pos0 else 0)
    ⟨m0, h0, tk0, ln0, pos0, t50, t60, k60, al0, e0, F0, N0, fun h => ⟨(a0 h).2.1, (a0 h).2.2, if_pos h⟩, fun h => ⟨d0 h, if_neg (by rw [h]; decide)⟩⟩
  rintro k s' ⟨m, h, tk, ln, pos, t5, t6, k6, al, rfl, F, N, ha, hd⟩
  have ho : ∀ p ∈ [(it, if al = true then ciObj (.ref mo) (.str (Str.ofString "") ts) (.bool false) else ciObj .none .none (.bool true)), (mo, methodObj (.ref 70) (.ref S.lx))], p.1 ∉ S.adr :=
    List.forall_mem_cons.mpr ⟨hit, List.forall_mem_cons.mpr ⟨hmo, List.forall_mem_nil _⟩⟩
  cases al with
  | false =>
    refine ci_ended hh (N _ (.head _)).1 ?_
    intro h1 hk1
    exact wpAny_execs_nil (done m ln pos t5 t6 k6 h1 tk (hd rfl).1 (fr_kept F hk1) (news_kept N hk1))
  | true =>
    obtain ⟨hpos, hJ, hk⟩ := ha rfl
    obtain ⟨o70, fd70, e70, d70⟩ := f70
    refine ci_next hh (N _ (.head _)).1 (N _ (.tail _ (.head _))).1 (KX.keeps F.keep _ _ e70) d70 ?_
    refine rc_fn (A := A.in1.in1) (s := ⟨h, G, dr, tk, os⟩) hh hdp (by show A.units + 1 + 1 + 300 < cLine; omega) KX T S hpos F N ho ?_
    intro h1 tk1 t2 t51 t61 k61 F1 N1
    refine ⟨_, _, rfl, (N1 _ (.head _)).1, (N1 _ (.tail _ (.head _))).1, ⟨_, _, KX.keeps F1.keep _ _ e70, d70⟩, fun hy => ?_, fun hy => ?_⟩
    · obtain ⟨c, hc, hdr, hl⟩ := nx_cons (x := x) (pos := pos) (fun e => hy (by rw [e]))
      rw [hc] at N1 ⊢
      refine wpAny_assign_Name (wpAny_storeName_local hx F1.ns (fun h₂ hn₂ hs₂ => ?_) hp)
      have F₂ := F1.set hn₂ hs₂
      have N₂ := N1.set hs₂
      refine wpAny_mono (turn m ln pos t51 t61 k61 c t2 h₂ _ hJ hdr hl F₂ N₂ (fun f s' => match f with
        | .next | .cont => CiEnd S it mo ts kp g env.locals G dr os (pos + 1) J D s'
        | .brk => R (.ok .next) s'
        | .ret v => R (.ok (.ret v)) s') _ (fun _ h => ⟨h, h⟩) (fun _ _ h => h)) (fun f s₃ h₃ => ?_) fun _ _ e => e
      have fin2 : CiEnd S it mo ts kp g env.locals G dr os (pos + 1) J D s₃ → ∃ k', k' < k ∧ ∃ m' h' tk' ln' pos' t5' t6' k6' al, s₃ = ⟨h', G, dr, tk', os⟩ ∧ Fr g env.locals h' m' ∧ News g env.locals h' (CiLed S it mo ts kp al ln' t5' pos' t6' k6') ∧ (al = true → pos' ≤ x.length ∧ J m' ln' pos' ∧ k' = x.length + 1 - pos') ∧ (al = false → D m' ln' pos' ∧ k' = 0) := by
        rintro ⟨m3, h3, tk3, ln3, pos3, t53, t63, k63, al3, e3, F3, N3, a3, d3⟩
        cases al3 with
        | true =>
          obtain ⟨q1, q2, q3⟩ := a3 rfl
          exact ⟨x.length + 1 - pos3, by omega, m3, h3, tk3, ln3, pos3, t53, t63, k63, true, e3, F3, N3, fun _ => ⟨q2, q3, rfl⟩, fun q => by cases q⟩
        | false => exact ⟨0, by omega, m3, h3, tk3, ln3, pos3, t53, t63, k63, false, e3, F3, N3, (fun q => by cases q), fun _ => ⟨d3 rfl, rfl⟩⟩
      cases f with
      | ret v => exact h₃
      | brk => exact h₃
      | cont => exact fin2 h₃
      | next => exact fin2 h₃
    · intro h2 hi2 hk2
      have hn : nx x pos = [] := by
        have := congrArg (fun y : Str => y.cps.toList) hy
        simpa using this
      have hpl := nx_nil hpos hn
      rw [hn] at N1
      have hg := (N1 _ (.head _)).2
      have F2 : Fr g env.locals h2 m := ⟨F1.ns.at' fun o e => hk2 _ o (Ne.symm hg.1) e, fun b o e => hk2 b o (fun q => by rw [q, hg.2] at e; cases e) (F1.keep b o e), F1.above⟩
      have hD := fin m ln (hpl ▸ hJ)
      refine wpAny_execs_nil (done m ln pos t51 t61 k61 h2 tk1 (hpl ▸ hD) F2 ?_)
      intro p hp
      rcases List.mem_cons.mp hp with rfl | hp
      · exact ⟨hi2, hg⟩
      · have hpi : p.1 ≠ it := by
          rcases List.mem_cons.mp hp with rfl | hp
          · exact hmi
          · exact fun q => hit (q ▸ S.led_adr hp)
        exact ⟨hk2 _ _ hpi (N1 p (.tail _ hp)).1, (N1 p (.tail _ hp)).2⟩
end
end Mine
end

section
theorem Mine.offTok : True := by
  w_top off
  trivial
local macro_rules | `(tactic| walk_at "none such") => `(tactic| fail)
open PySem PySem.W PyProof.Rows PySem.Spec PySem.Calls PyProof.Rows.LCg
set_option Elab.async false
set_option maxRecDepth 100000
set_option maxHeartbeats 1000000
namespace Mine
set_option pp.deepTerms false
set_option pp.maxSteps 3000
local macro_rules | `(tactic| walk_at "call ref") => `(tactic| refine Stop.out ?_)
local macro_rules | `(tactic| walk_at "call builtin:iter") => `(tactic| refine Stop.out ?_)
local macro_rules | `(tactic| walk_at "pyIter ref") => `(tactic| refine Stop.out ?_)
noncomputable def wsC (c : Nat) : Bool := c == 10 || c == 9 || c == 13 || c == 32
noncomputable def quoF : List Nat → List Nat → Int → List Nat × List Nat × Int
  | [], tok, ln => (tok, [], ln)
  | c :: r, tok, ln =>
    if c = 34 then (tok, r, lnF ln [c])
    else if c = 92 then
      match r with
      | [] => (tok, [], lnF ln [c])
      | d :: r' => quoF r' (tok ++ [d]) (lnF (lnF ln [c]) [d])
    else quoF r (tok ++ [c]) (lnF ln [c])
noncomputable def barF : List Nat → List Nat → Int → List Nat × List Nat × Int
  | [], tok, ln => (tok, [], ln)
  | c :: r, tok, ln =>
    if wsC c = true then (tok, r, lnF ln [c])
    else if c = 92 then
      match r with
      | [] => (tok, [], lnF ln [c])
      | d :: r' => barF r' (tok ++ [d]) (lnF (lnF ln [c]) [d])
    else barF r (tok ++ [c]) (lnF ln [c])
noncomputable def outF : List Nat → Int → List Nat × List Nat × Int
  | [], ln => ([], [], ln)
  | c :: r, ln =>
    if wsC c = true then outF r (lnF ln [c])
    else if c = 34 then quoF r [] (lnF ln [c])
    else if c = 92 then
      match r with
      | [] => ([], [], lnF ln [c])
      | d :: r' => barF r' [d] (lnF (lnF ln [c]) [d])
    else barF r [c] (lnF ln [c])
local macro_rules | `(tactic| walk_at "exec For Name Name cons nil") => `(tactic| refine Stop.out ?_)
theorem ws_in {c : Nat} {b : Bool} (h : (Builtin.Str.occurrences (Str.ofString "\n\t\x0d ") ⟨#[c]⟩ 0 (Str.ofString "\n\t\x0d ").length 1).isEmpty = b) : wsC c = !b := by
  have z := StrLaws.found_one (Str.ofString "\n\t\x0d ") c
  rw [h] at z
  rw [z]
  have e : (Str.ofString "\n\t\x0d ").cps.toList = [10, 9, 13, 32] := by decide
  rw [e]
  unfold wsC
  by_cases h1 : c = 10
  · subst h1; decide
  · by_cases h2 : c = 9
    · subst h2; decide
    · by_cases h3 : c = 13
      · subst h3; decide
      · by_cases h4 : c = 32
        · subst h4; decide
        · simp [h1, h2, h3, h4]
theorem str_app (a b : List Nat) : (⟨a.toArray⟩ : Str) ++ ⟨b.toArray⟩ = ⟨(a ++ b).toArray⟩ := by
  show Str.mk (a.toArray ++ b.toArray) = _
  rw [List.append_toArray]
theorem nx_len (x : Str) (pos : Nat) : (nx x pos).length ≤ 1 := by unfold nx; rw [List.length_take]; omega
theorem nx_pos {x : Str} {pos : Nat} (h : pos ≤ x.length) : pos + (nx x pos).length ≤ x.length := by
  unfold nx
  rw [List.length_take, List.length_drop, Array.length_toList]
  have h3 : x.length = x.cps.size := rfl
  omega
theorem nx_drop (x : Str) (pos : Nat) : (x.cps.toList.drop pos).drop 1 = x.cps.toList.drop (pos + (nx x pos).length) := by
  unfold nx
  cases e : x.cps.toList.drop pos with
  | nil => rw [List.take_nil, List.length_nil, Nat.add_zero, e]; rfl
  | cons c r =>
    rw [← e, List.drop_drop]
    have : (List.take 1 (c :: r)).length = 1 := rfl
    rw [e, this]
theorem lnF_nil (ln : Int) : lnF ln [] = ln := by unfold lnF; rw [if_neg (by decide)]
theorem bs_out (r : List Nat) (ln : Int) : (match r with | [] => ([], [], ln) | d :: r' => barF r' [d] (lnF ln [d])) = barF (r.drop 1) (r.take 1) (lnF ln (r.take 1)) := by
  cases r with
  | nil => show _ = barF [] [] _; unfold barF; rw [List.take_nil, lnF_nil]
  | cons d r => rfl
theorem bs_quo (r tok : List Nat) (ln : Int) : (match r with | [] => (tok, [], ln) | d :: r' => quoF r' (tok ++ [d]) (lnF ln [d])) = quoF (r.drop 1) (tok ++ r.take 1) (lnF ln (r.take 1)) := by
  cases r with
  | nil => show _ = quoF [] _ _; unfold quoF; rw [List.take_nil, lnF_nil, List.append_nil]
  | cons d r => rfl
theorem bs_bar (r tok : List Nat) (ln : Int) : (match r with | [] => (tok, [], ln) | d :: r' => barF r' (tok ++ [d]) (lnF ln [d])) = barF (r.drop 1) (tok ++ r.take 1) (lnF ln (r.take 1)) := by
  cases r with
  | nil => show _ = barF [] _ _; unfold barF; rw [List.take_nil, lnF_nil, List.append_nil]
  | cons d r => rfl
theorem notin_lt {adr : List Addr} {a : Nat} (h : ∀ b ∈ adr, @LT.lt Nat _ b a) : a ∉ adr := fun hm => Nat.lt_irrefl _ (h _ hm)
theorem LxS.lt_adr {w : World} {x : Str} (S : LxS w x) {a : Nat} (h : S.lx < a ∧ S.dx < a ∧ S.pb < a ∧ S.al < a ∧ S.st < a ∧ S.sd < a ∧ S.rd < a ∧ S.crd < a ∧ S.ca < a ∧ S.ct < a) : ∀ b ∈ S.adr, @LT.lt Nat _ b a := by
  unfold LxS.adr
  simp only [List.forall_mem_cons]
  exact ⟨h.1, h.2.1, h.2.2.1, h.2.2.2.1, h.2.2.2.2.1, h.2.2.2.2.2.1, h.2.2.2.2.2.2.1, h.2.2.2.2.2.2.2.1, h.2.2.2.2.2.2.2.2.1, h.2.2.2.2.2.2.2.2.2, List.forall_mem_nil _⟩
noncomputable def InJ (f : List Nat → List Nat → Int → List Nat × List Nat × Int) (x : Str) (it lx : Addr) (res : List Nat × List Nat × Int) (m : Str → Option Value) (ln : Int) (pos : Nat) : Prop :=
  ∃ o1 tt tk, m = (fun nm => if nm = Str.ofString "ch" then o1 else if nm = Str.ofString "fiter" then some (.ref it) else if nm = Str.ofString "token" then some (.str ⟨(tk : List Nat).toArray⟩ tt) else if nm = Str.ofString "self" then some (.ref lx) else none) ∧ tk.length ≤ pos ∧ f (x.cps.toList.drop pos) tk ln = res
noncomputable def OutJ (x : Str) (it lx : Addr) (res : List Nat × List Nat × Int) (m : Str → Option Value) (ln : Int) (pos : Nat) : Prop :=
  ∃ o1 tt, m = (fun nm => if nm = Str.ofString "ch" then o1 else if nm = Str.ofString "fiter" then some (.ref it) else if nm = Str.ofString "token" then some (.str ⟨#[]⟩ tt) else if nm = Str.ofString "self" then some (.ref lx) else none) ∧ outF (x.cps.toList.drop pos) ln = res
noncomputable def OutD (x : Str) (it lx : Addr) (res : List Nat × List Nat × Int) (m : Str → Option Value) (ln : Int) (pos : Nat) : Prop :=
  ∃ o1 tt, m = (fun nm => if nm = Str.ofString "ch" then o1 else if nm = Str.ofString "fiter" then some (.ref it) else if nm = Str.ofString "token" then some (.str ⟨res.1.toArray⟩ tt) else if nm = Str.ofString "self" then some (.ref lx) else none) ∧ x.cps.toList.drop pos = res.2.1 ∧ ln = res.2.2 ∧ pos ≤ x.length
theorem tok_read {w : World} {vp : Program} {vl : List Str} {mean : ExcName → Option Value} {mg mb : Str → Option Value} {A : Around} {s : Shared} {g : Heap} {R : Result → Shared → Prop} (hh : A.handled = none) (hdp : A.depth + 40 < recursionLimit) (hun : A.units + 400 < cLine)
    (KX : (hd.heap_1 w.params).In g) (T : Top vp vl mean mg mb g) (hgs : Kept g s.heap) (hgz : g.objs.size ≤ s.heap.objs.size) {x : Str} (S : LxS w x) {ln : Int} {t5 t6 : Tok} {pos k6 kp : Nat} (hpos : pos ≤ x.length)
    (hx : x.length ≤ 100) (hex : ∀ p ∈ S.led ln t5 (W.listOf #[] kp) pos t6 k6, s.heap.get? p.1 = some p.2 ∧ g.get? p.1 = none) {res : List Nat × List Nat × Int} (hres : outF (x.cps.toList.drop pos) ln = res)
    (hQ : ∀ h' tk t2 t5' t6' k6' pos', Kept g h' → (∀ p ∈ S.led res.2.2 t5' (W.listOf #[] kp) pos' t6' k6', h'.get? p.1 = some p.2) → pos' ≤ x.length → x.cps.toList.drop pos' = res.2.1 → R (.ok (.ret (.str ⟨res.1.toArray⟩ t2))) ⟨h', s.gens, s.drawn, tk, s.os⟩) :
    codeAny (model PySem.Challenge.rw_re0075_01.row.toRowW.prog w) A (.call (.ref 77) ⟨[.ref S.lx], []⟩) R s := by
  obtain ⟨_, dp, fr, gd, un⟩ := A; cases hh; dsimp only at hdp hun; revert KX; k_fill; intro KX
  k_dflt (refine' entG [(Str.ofString "self", .ref S.lx)] _ KX T hgs hgz hex ?k6 ?k7 ?k8 ?k9 ?kB ?_ ?c2 ?c3 ?c4 ?c5; (case k6 => k_is); (case k7 => k_is); (case k8 => (dsimp only; omega)); (case k9 => exact rfl); (case c5 => decide); (case kB => exact locs rfl); (case c2 => exact rfl); (case c3 => exact rfl); (case c4 => exact rfl); k_whole)
  intro h1 F1 N1
  replace F1 : Fr g s.heap.objs.size h1 (fun nm => if nm = Str.ofString "self" then some (.ref S.lx) else none) := F1
  dsimp only [LxS.led] at N1
  (try dsimp only)
  (try k_fold)
  k_steps
  refine Stop.go ?_
  rename News _ _ _ _ => N2
  rename Fr _ _ _ _ => F2
  rename _ ∧ _ => lt2
  rename_i mo hp2
  refine call_iter2 (N2 _ (.head _)).1 ?_
  have N3 := News.push F2 N2 (ciObj (.ref mo) (.str (Str.ofString "") (tk + 1 + 1 + 1)) (.bool false)) rfl
  replace F2 := F2.push (ciObj (.ref mo) (.str (Str.ofString "") (tk + 1 + 1 + 1)) (.bool false))
  have hmi : @LT.lt Nat _ mo hp2.objs.size := Heap.lt_size (N2 _ (.head _)).1
  clear N2
  dsimp only
  generalize hp2.push (ciObj (.ref mo) (.str (Str.ofString "") (tk + 1 + 1 + 1)) (.bool false)) = h3 at *
  generalize hp2.objs.size = it at *
  generalize tk + 1 + 1 + 1 = ts at *
  k_steps
  refine Stop.go ?_
  refine wpAny_For ?_
  k_steps
  refine Stop.go ?_
  rename News _ _ _ _ => N4
  rename Fr _ _ _ _ => F4
  refine ci_iter (N4 _ (.head _)).1 ?_
  have hito : it ∉ S.adr := notin_lt (S.lt_adr (lt10 lt2 hmi))
  have hmoo : mo ∉ S.adr := notin_lt (S.lt_adr lt2)
  obtain ⟨tt0, F4⟩ : ∃ tt0, Fr g s.heap.objs.size _ (fun nm => if nm = Str.ofString "ch" then none else if nm = Str.ofString "fiter" then some (.ref it) else if nm = Str.ofString "token" then some (.str ⟨#[]⟩ tt0) else if nm = Str.ofString "self" then some (.ref S.lx) else none) := by
    refine' ⟨_, fr_names [Str.ofString "ch", Str.ofString "fiter", Str.ofString "token", Str.ofString "self"] ?fF ?fA ?fB⟩
    rotate_left
    (case fF => assumption); (case fA => exact List.forall_mem_cons.mpr ⟨(by exact rfl), List.forall_mem_cons.mpr ⟨(by exact rfl), List.forall_mem_cons.mpr ⟨(by exact rfl), List.forall_mem_cons.mpr ⟨(by exact rfl), List.forall_mem_nil _⟩⟩⟩⟩); (case fB => (intro y hy; simp only [List.mem_cons, not_or] at hy; simp only [hy, if_false]))
  refine' for_ci (lo := 0) (it := it) (mo := mo) (ts := ts) (kp := kp) (L := s.heap.objs.size) rfl ?d1 ?d2 KX T S
    (OutJ x it S.lx res) (OutD x it S.lx res)
    rfl rfl rfl hito hmoo (Nat.ne_of_lt hmi) (CiEnd.on (pos' := pos) F4 N4 (Nat.zero_le _) hpos ⟨none, _, rfl, hres⟩) ?fin ?turn ?done
  case d1 => exact dp_le hdp (by decide)
  case d2 => exact un_le hun (by decide)
  case fin =>
    rintro m ln ⟨o1, tt, rfl, hJ⟩
    have hd0 : x.cps.toList.drop x.length = [] := List.drop_of_length_le (by rw [Array.length_toList]; exact Nat.le_refl _)
    rw [hd0] at hJ
    cases hJ
    exact ⟨_, _, rfl, hd0, rfl, Nat.le_refl _⟩
  case done =>
    rintro m ln pos t5 t6 k6 h tk ⟨o1, tt, rfl, hd1, rfl, hd3⟩ F6 N6
    dsimp only
    k_steps
    exact hQ _ _ _ _ _ _ _ F6.keep (fun p hp => (N6 p (.tail _ (.tail _ hp))).1) hd3 hd1
  case turn =>
    clear F4 N4 hex
    rintro m ln pos t5 t6 k6 c u h tk ⟨o1, tt, rfl, hJ⟩ hdr hl F5 N5 Qx Ex hNx hRx
    rw [hdr] at hJ
    unfold outF at hJ
    dsimp only [CiLed, List.cons_append, List.nil_append] at N5
    rw [if_pos rfl] at N5
    k_steps
    · rename (_ == _) = true => hq
      have e34 : c = 34 := one_is hq (by decide)
      rename List.isEmpty _ = true => hws
      have e1 : wsC c = false := ws_in hws
      rw [if_neg (by rw [e1]; decide), if_pos e34] at hJ
      refine Stop.go ?_
      refine wpAny_For ?_
      k_steps
      refine Stop.go ?_
      rename News _ _ _ _ => N7
      rename Fr _ _ _ _ => F7
      refine ci_iter (N7 _ (.head _)).1 ?_
      obtain ⟨o7, tt7, F7⟩ : ∃ o7 tt7, Fr g s.heap.objs.size _ (fun nm => if nm = Str.ofString "ch" then some o7 else if nm = Str.ofString "fiter" then some (.ref it) else if nm = Str.ofString "token" then some (.str ⟨([] : List Nat).toArray⟩ tt7) else if nm = Str.ofString "self" then some (.ref S.lx) else none) := by
        refine' ⟨_, _, fr_names [Str.ofString "ch", Str.ofString "fiter", Str.ofString "token", Str.ofString "self"] ?fF ?fA ?fB⟩
        rotate_left 2
        (case fF => assumption); (case fA => exact List.forall_mem_cons.mpr ⟨(by exact rfl), List.forall_mem_cons.mpr ⟨(by exact rfl), List.forall_mem_cons.mpr ⟨(by exact rfl), List.forall_mem_cons.mpr ⟨(by exact rfl), List.forall_mem_nil _⟩⟩⟩⟩); (case fB => (intro y hy; simp only [List.mem_cons, not_or] at hy; simp only [hy, if_false]))
      refine' for_ci (lo := 0) (it := it) (mo := mo) (ts := ts) (kp := kp) (L := s.heap.objs.size) rfl ?d1 ?d2 KX T S
        (InJ quoF x it S.lx res) (OutD x it S.lx res)
        rfl rfl rfl hito hmoo (Nat.ne_of_lt hmi) (CiEnd.on (pos' := (pos + 1)) F7 N7 (Nat.zero_le _) hl ⟨some o7, tt7, [], rfl, (Nat.zero_le _), hJ⟩) ?fin ?turn ?done
      case d1 => exact dp_le hdp (by decide)
      case d2 => exact un_le hun (by decide)
      case fin =>
        rintro m ln ⟨o1, tt, tk, rfl, hlen, hJ⟩
        have hd0 : x.cps.toList.drop x.length = [] := List.drop_of_length_le (by rw [Array.length_toList]; exact Nat.le_refl _)
        rw [hd0] at hJ
        cases hJ
        exact ⟨_, _, rfl, hd0, rfl, Nat.le_refl _⟩
      case done =>
        rintro m ln pos t5 t6 k6 h tk ⟨o1, tt, rfl, hd1, rfl, hd3⟩ F6 N6
        dsimp only
        k_steps
        exact (hNx _ (CiEnd.off F6 N6 ⟨_, _, rfl, hd1, rfl, hd3⟩)).1
      case turn =>
        clear F7 N7 hJ hdr hl
        try clear F5
        try clear N5
        rintro m ln pos t5 t6 k6 c u h tk ⟨o1, tt, tk7, rfl, hlen, hJ⟩ hdr hl F8 N8
        clear hNx
        intro Qy Ey hNx hRy
        rw [hdr] at hJ
        unfold quoF at hJ
        dsimp only [CiLed, List.cons_append, List.nil_append] at N8
        rw [if_pos rfl] at N8
        have hz : (⟨tk7.toArray⟩ : Str).length ≤ 100 := by (show tk7.toArray.size ≤ 100; rw [List.size_toArray]; omega)
        have hz1: (⟨#[c]⟩ : Str).length = 1 := rfl
        k_steps
        · rename (_ == _) = true => hq
          have e34 : c = 34 := one_is hq (by decide)
          rw [if_pos e34] at hJ
          rw [← hJ] at hQ
          dsimp only
          exact hRy _ _ (hRx _ _ (hQ _ _ _ _ _ _ (pos + 1) F8.keep (fun p hp => (N8 p (.tail _ (.tail _ hp))).1) hl rfl))
        · rename (_ == Str.ofString "\"") = false => hq1
          rename (_ == Str.ofString "\\") = true => hq
          have e34 : c ≠ 34 := one_not hq1 (by decide)
          have e92 : c = 92 := one_is hq (by decide)
          rw [if_neg e34, if_pos e92] at hJ
          rw [bs_quo, nx_drop, show List.take 1 (List.drop (pos + 1) x.cps.toList) = nx x (pos + 1) from rfl] at hJ
          refine Stop.go ?_
          rename News _ _ _ _ => N9
          rename Fr _ _ _ _ => F9
          have hl1 := nx_len x (pos + 1)
          have hl2 := nx_pos hl
          have hno : ∀ p ∈ [(it, ciObj (.ref mo) (.str (Str.ofString "") ts) (.bool false)), (mo, methodObj (.ref 70) (.ref S.lx))], p.1 ∉ S.adr := List.forall_mem_cons.mpr ⟨hito, List.forall_mem_cons.mpr ⟨hmoo, List.forall_mem_nil _⟩⟩
          refine wpAny_call (rc_fn (S := S) (L := s.heap.objs.size) (own := [(it, ciObj (.ref mo) (.str (Str.ofString "") ts) (.bool false)), (mo, methodObj (.ref 70) (.ref S.lx))]) rfl ?e1 ?e2 KX T hl F9 N9 hno ?_)
          case e1 => exact dp_le hdp (by decide)
          case e2 => exact un_le hun (by decide)
          intro h10 tk10 t210 t510 t610 k610 F10 N10
          clear F9 N9
          dsimp only [List.cons_append, List.nil_append] at N10
          dsimp only
          generalize nx x (pos + 1) = l at *
          have hz2 : (⟨l.toArray⟩ : Str).length ≤ 1 := by (show l.toArray.size ≤ 1; rw [List.size_toArray]; omega)
          k_steps
          rename News _ _ _ _ => N11
          rename Fr _ _ _ _ => F11
          have ea := str_app tk7 l
          rw [ea] at F11
          obtain ⟨o12, tt12, F12⟩ : ∃ o12 tt12, Fr g s.heap.objs.size _ (fun nm => if nm = Str.ofString "ch" then some o12 else if nm = Str.ofString "fiter" then some (.ref it) else if nm = Str.ofString "token" then some (.str ⟨(tk7 ++ l).toArray⟩ tt12) else if nm = Str.ofString "self" then some (.ref S.lx) else none) := by
            refine' ⟨_, _, fr_names [Str.ofString "ch", Str.ofString "fiter", Str.ofString "token", Str.ofString "self"] ?fF ?fA ?fB⟩
            rotate_left 2
            (case fF => exact F11); (case fA => exact List.forall_mem_cons.mpr ⟨(by exact rfl), List.forall_mem_cons.mpr ⟨(by exact rfl), List.forall_mem_cons.mpr ⟨(by exact rfl), List.forall_mem_cons.mpr ⟨(by exact rfl), List.forall_mem_nil _⟩⟩⟩⟩); (case fB => (intro y hy; simp only [List.mem_cons, not_or] at hy; simp only [hy, if_false]))
          exact (hNx _ (CiEnd.on (pos' := pos + 1 + l.length) F12 N11 (by omega) hl2 ⟨_, _, tk7 ++ l, rfl, by rw [List.length_append]; omega, hJ⟩)).1
        · rename (_ == Str.ofString "\"") = false => hq1
          rename (_ == Str.ofString "\\") = false => hq
          have e34 : c ≠ 34 := one_not hq1 (by decide)
          have e92 : c ≠ 92 := one_not hq (by decide)
          rw [if_neg e34, if_neg e92] at hJ
          rename News _ _ _ _ => N11
          rename Fr _ _ _ _ => F11
          have ea : (⟨tk7.toArray⟩ : Str) ++ ⟨#[c]⟩ = ⟨(tk7 ++ [c]).toArray⟩ := str_app tk7 [c]
          rw [ea] at F11
          obtain ⟨o12, tt12, F12⟩ : ∃ o12 tt12, Fr g s.heap.objs.size _ (fun nm => if nm = Str.ofString "ch" then some o12 else if nm = Str.ofString "fiter" then some (.ref it) else if nm = Str.ofString "token" then some (.str ⟨(tk7 ++ [c]).toArray⟩ tt12) else if nm = Str.ofString "self" then some (.ref S.lx) else none) := by
            refine' ⟨_, _, fr_names [Str.ofString "ch", Str.ofString "fiter", Str.ofString "token", Str.ofString "self"] ?fF ?fA ?fB⟩
            rotate_left 2
            (case fF => exact F11); (case fA => exact List.forall_mem_cons.mpr ⟨(by exact rfl), List.forall_mem_cons.mpr ⟨(by exact rfl), List.forall_mem_cons.mpr ⟨(by exact rfl), List.forall_mem_cons.mpr ⟨(by exact rfl), List.forall_mem_nil _⟩⟩⟩⟩); (case fB => (intro y hy; simp only [List.mem_cons, not_or] at hy; simp only [hy, if_false]))
          exact (hNx _ (CiEnd.on (pos' := pos + 1) F12 N11 (Nat.le_refl _) hl ⟨_, _, tk7 ++ [c], rfl, by rw [List.length_append]; exact Nat.succ_le_succ hlen, hJ⟩)).1
    · rename (_ == Str.ofString "\"") = false => hq1
      rename (_ == Str.ofString "\\") = true => hq
      rename List.isEmpty _ = true => hws
      have e34 : c ≠ 34 := one_not hq1 (by decide)
      have e92 : c = 92 := one_is hq (by decide)
      have e1 : wsC c = false := ws_in hws
      rw [if_neg (by rw [e1]; decide), if_neg e34, if_pos e92] at hJ
      rw [bs_out, nx_drop, show List.take 1 (List.drop (pos + 1) x.cps.toList) = nx x (pos + 1) from rfl] at hJ
      refine Stop.go ?_
      rename News _ _ _ _ => N9
      rename Fr _ _ _ _ => F9
      have hl1 := nx_len x (pos + 1)
      have hl2 := nx_pos hl
      have hno : ∀ p ∈ [(it, ciObj (.ref mo) (.str (Str.ofString "") ts) (.bool false)), (mo, methodObj (.ref 70) (.ref S.lx))], p.1 ∉ S.adr := List.forall_mem_cons.mpr ⟨hito, List.forall_mem_cons.mpr ⟨hmoo, List.forall_mem_nil _⟩⟩
      refine wpAny_call (rc_fn (S := S) (L := s.heap.objs.size) (own := [(it, ciObj (.ref mo) (.str (Str.ofString "") ts) (.bool false)), (mo, methodObj (.ref 70) (.ref S.lx))]) rfl ?e1 ?e2 KX T hl F9 N9 hno ?_)
      case e1 => exact dp_le hdp (by decide)
      case e2 => exact un_le hun (by decide)
      intro h10 tk10 t210 t510 t610 k610 F10 N10
      clear F9 N9
      dsimp only [List.cons_append, List.nil_append] at N10
      dsimp only
      generalize nx x (pos + 1) = l at *
      have hz2 : (⟨l.toArray⟩ : Str).length ≤ 1 := by (show l.toArray.size ≤ 1; rw [List.size_toArray]; omega)
      k_steps
      have ea : Str.ofString "" ++ (⟨l.toArray⟩ : Str) = ⟨l.toArray⟩ := by rw [show Str.ofString "" = ⟨#[]⟩ by decide]; exact str_app [] l
      rename Fr _ _ _ _ => F11
      rw [ea] at F11
      refine Stop.go ?_
      refine wpAny_For ?_
      k_steps
      refine Stop.go ?_
      rename News _ _ _ _ => N7
      rename Fr _ _ _ _ => F7
      refine ci_iter (N7 _ (.head _)).1 ?_
      obtain ⟨o7, tt7, F7⟩ : ∃ o7 tt7, Fr g s.heap.objs.size _ (fun nm => if nm = Str.ofString "ch" then some o7 else if nm = Str.ofString "fiter" then some (.ref it) else if nm = Str.ofString "token" then some (.str ⟨(l : List Nat).toArray⟩ tt7) else if nm = Str.ofString "self" then some (.ref S.lx) else none) := by
        refine' ⟨_, _, fr_names [Str.ofString "ch", Str.ofString "fiter", Str.ofString "token", Str.ofString "self"] ?fF ?fA ?fB⟩
        rotate_left 2
        (case fF => assumption); (case fA => exact List.forall_mem_cons.mpr ⟨(by exact rfl), List.forall_mem_cons.mpr ⟨(by exact rfl), List.forall_mem_cons.mpr ⟨(by exact rfl), List.forall_mem_cons.mpr ⟨(by exact rfl), List.forall_mem_nil _⟩⟩⟩⟩); (case fB => (intro y hy; simp only [List.mem_cons, not_or] at hy; simp only [hy, if_false]))
      refine' for_ci (lo := 0) (it := it) (mo := mo) (ts := ts) (kp := kp) (L := s.heap.objs.size) rfl ?d1 ?d2 KX T S
        (InJ barF x it S.lx res) (OutD x it S.lx res)
        rfl rfl rfl hito hmoo (Nat.ne_of_lt hmi) (CiEnd.on (pos' := (pos + 1 + l.length)) F7 N7 (Nat.zero_le _) hl2 ⟨some o7, tt7, l, rfl, (by omega), hJ⟩) ?fin ?turn ?done
      case d1 => exact dp_le hdp (by decide)
      case d2 => exact un_le hun (by decide)
      case fin =>
        rintro m ln ⟨o1, tt, tk, rfl, hlen, hJ⟩
        have hd0 : x.cps.toList.drop x.length = [] := List.drop_of_length_le (by rw [Array.length_toList]; exact Nat.le_refl _)
        rw [hd0] at hJ
        cases hJ
        exact ⟨_, _, rfl, hd0, rfl, Nat.le_refl _⟩
      case done =>
        rintro m ln pos t5 t6 k6 h tk ⟨o1, tt, rfl, hd1, rfl, hd3⟩ F6 N6
        dsimp only
        k_steps
        exact (hNx _ (CiEnd.off F6 N6 ⟨_, _, rfl, hd1, rfl, hd3⟩)).1
      case turn =>
        clear F7 N7 hJ hdr hl
        try clear F5
        try clear N5
        rintro m ln pos t5 t6 k6 c u h tk ⟨o1, tt, tk7, rfl, hlen, hJ⟩ hdr hl F8 N8
        clear hNx
        intro Qy Ey hNx hRy
        rw [hdr] at hJ
        unfold barF at hJ
        dsimp only [CiLed, List.cons_append, List.nil_append] at N8
        rw [if_pos rfl] at N8
        have hz : (⟨tk7.toArray⟩ : Str).length ≤ 100 := by (show tk7.toArray.size ≤ 100; rw [List.size_toArray]; omega)
        have hz1: (⟨#[c]⟩ : Str).length = 1 := rfl
        k_steps
        · rename List.isEmpty _ = true => hws
          rename (_ == Str.ofString "\\") = true => hq
          have e34 : wsC c = false := ws_in hws
          have e92 : c = 92 := one_is hq (by decide)
          rw [if_neg (by rw [e34]; decide), if_pos e92] at hJ
          rw [bs_bar, nx_drop, show List.take 1 (List.drop (pos + 1) x.cps.toList) = nx x (pos + 1) from rfl] at hJ
          refine Stop.go ?_
          rename News _ _ _ _ => N9
          rename Fr _ _ _ _ => F9
          have hl1 := nx_len x (pos + 1)
          have hl2 := nx_pos hl
          have hno : ∀ p ∈ [(it, ciObj (.ref mo) (.str (Str.ofString "") ts) (.bool false)), (mo, methodObj (.ref 70) (.ref S.lx))], p.1 ∉ S.adr := List.forall_mem_cons.mpr ⟨hito, List.forall_mem_cons.mpr ⟨hmoo, List.forall_mem_nil _⟩⟩
          refine wpAny_call (rc_fn (S := S) (L := s.heap.objs.size) (own := [(it, ciObj (.ref mo) (.str (Str.ofString "") ts) (.bool false)), (mo, methodObj (.ref 70) (.ref S.lx))]) rfl ?e1 ?e2 KX T hl F9 N9 hno ?_)
          case e1 => exact dp_le hdp (by decide)
          case e2 => exact un_le hun (by decide)
          intro h10 tk10 t210 t510 t610 k610 F10 N10
          clear F9 N9
          dsimp only [List.cons_append, List.nil_append] at N10
          dsimp only
          generalize nx x (pos + 1) = l at *
          have hz2 : (⟨l.toArray⟩ : Str).length ≤ 1 := by (show l.toArray.size ≤ 1; rw [List.size_toArray]; omega)
          k_steps
          rename News _ _ _ _ => N11
          rename Fr _ _ _ _ => F11
          have ea := str_app tk7 l
          rw [ea] at F11
          obtain ⟨o12, tt12, F12⟩ : ∃ o12 tt12, Fr g s.heap.objs.size _ (fun nm => if nm = Str.ofString "ch" then some o12 else if nm = Str.ofString "fiter" then some (.ref it) else if nm = Str.ofString "token" then some (.str ⟨(tk7 ++ l).toArray⟩ tt12) else if nm = Str.ofString "self" then some (.ref S.lx) else none) := by
            refine' ⟨_, _, fr_names [Str.ofString "ch", Str.ofString "fiter", Str.ofString "token", Str.ofString "self"] ?fF ?fA ?fB⟩
            rotate_left 2
            (case fF => exact F11); (case fA => exact List.forall_mem_cons.mpr ⟨(by exact rfl), List.forall_mem_cons.mpr ⟨(by exact rfl), List.forall_mem_cons.mpr ⟨(by exact rfl), List.forall_mem_cons.mpr ⟨(by exact rfl), List.forall_mem_nil _⟩⟩⟩⟩); (case fB => (intro y hy; simp only [List.mem_cons, not_or] at hy; simp only [hy, if_false]))
          exact (hNx _ (CiEnd.on (pos' := pos + 1 + l.length) F12 N11 (by omega) hl2 ⟨_, _, tk7 ++ l, rfl, by rw [List.length_append]; omega, hJ⟩)).1
        · rename List.isEmpty _ = true => hws
          rename (_ == Str.ofString "\\") = false => hq
          have e34 : wsC c = false := ws_in hws
          have e92 : c ≠ 92 := one_not hq (by decide)
          rw [if_neg (by rw [e34]; decide), if_neg e92] at hJ
          rename News _ _ _ _ => N11
          rename Fr _ _ _ _ => F11
          have ea : (⟨tk7.toArray⟩ : Str) ++ ⟨#[c]⟩ = ⟨(tk7 ++ [c]).toArray⟩ := str_app tk7 [c]
          rw [ea] at F11
          obtain ⟨o12, tt12, F12⟩ : ∃ o12 tt12, Fr g s.heap.objs.size _ (fun nm => if nm = Str.ofString "ch" then some o12 else if nm = Str.ofString "fiter" then some (.ref it) else if nm = Str.ofString "token" then some (.str ⟨(tk7 ++ [c]).toArray⟩ tt12) else if nm = Str.ofString "self" then some (.ref S.lx) else none) := by
            refine' ⟨_, _, fr_names [Str.ofString "ch", Str.ofString "fiter", Str.ofString "token", Str.ofString "self"] ?fF ?fA ?fB⟩
            rotate_left 2
            (case fF => exact F11); (case fA => exact List.forall_mem_cons.mpr ⟨(by exact rfl), List.forall_mem_cons.mpr ⟨(by exact rfl), List.forall_mem_cons.mpr ⟨(by exact rfl), List.forall_mem_cons.mpr ⟨(by exact rfl), List.forall_mem_nil _⟩⟩⟩⟩); (case fB => (intro y hy; simp only [List.mem_cons, not_or] at hy; simp only [hy, if_false]))
          exact (hNx _ (CiEnd.on (pos' := pos + 1) F12 N11 (Nat.le_refl _) hl ⟨_, _, tk7 ++ [c], rfl, by rw [List.length_append]; exact Nat.succ_le_succ hlen, hJ⟩)).1
        · rename List.isEmpty _ = false => hws
          have e34 : wsC c = true := ws_in hws
          rw [if_pos e34] at hJ
          rw [← hJ] at hQ
          dsimp only
          exact hRy _ _ (hRx _ _ (hQ _ _ _ _ _ _ (pos + 1) F8.keep (fun p hp => (N8 p (.tail _ (.tail _ hp))).1) hl rfl))
    · rename (_ == Str.ofString "\"") = false => hq1
      rename (_ == Str.ofString "\\") = false => hq
      rename List.isEmpty _ = true => hws
      have e34 : c ≠ 34 := one_not hq1 (by decide)
      have e92 : c ≠ 92 := one_not hq (by decide)
      have e1 : wsC c = false := ws_in hws
      rw [if_neg (by rw [e1]; decide), if_neg e34, if_neg e92] at hJ
      have ea : Str.ofString "" ++ (⟨#[c]⟩ : Str) = ⟨#[c]⟩ := by rw [show Str.ofString "" = ⟨#[]⟩ by decide]; exact str_app [] [c]
      rename Fr _ _ _ _ => F11
      rw [ea] at F11
      refine Stop.go ?_
      refine wpAny_For ?_
      k_steps
      refine Stop.go ?_
      rename News _ _ _ _ => N7
      rename Fr _ _ _ _ => F7
      refine ci_iter (N7 _ (.head _)).1 ?_
      obtain ⟨o7, tt7, F7⟩ : ∃ o7 tt7, Fr g s.heap.objs.size _ (fun nm => if nm = Str.ofString "ch" then some o7 else if nm = Str.ofString "fiter" then some (.ref it) else if nm = Str.ofString "token" then some (.str ⟨([c] : List Nat).toArray⟩ tt7) else if nm = Str.ofString "self" then some (.ref S.lx) else none) := by
        refine' ⟨_, _, fr_names [Str.ofString "ch", Str.ofString "fiter", Str.ofString "token", Str.ofString "self"] ?fF ?fA ?fB⟩
        rotate_left 2
        (case fF => assumption); (case fA => exact List.forall_mem_cons.mpr ⟨(by exact rfl), List.forall_mem_cons.mpr ⟨(by exact rfl), List.forall_mem_cons.mpr ⟨(by exact rfl), List.forall_mem_cons.mpr ⟨(by exact rfl), List.forall_mem_nil _⟩⟩⟩⟩); (case fB => (intro y hy; simp only [List.mem_cons, not_or] at hy; simp only [hy, if_false]))
      refine' for_ci (lo := 0) (it := it) (mo := mo) (ts := ts) (kp := kp) (L := s.heap.objs.size) rfl ?d1 ?d2 KX T S
        (InJ barF x it S.lx res) (OutD x it S.lx res)
        rfl rfl rfl hito hmoo (Nat.ne_of_lt hmi) (CiEnd.on (pos' := (pos + 1)) F7 N7 (Nat.zero_le _) hl ⟨some o7, tt7, [c], rfl, (by exact Nat.succ_le_succ (Nat.zero_le _)), hJ⟩) ?fin ?turn ?done
      case d1 => exact dp_le hdp (by decide)
      case d2 => exact un_le hun (by decide)
      case fin =>
        rintro m ln ⟨o1, tt, tk, rfl, hlen, hJ⟩
        have hd0 : x.cps.toList.drop x.length = [] := List.drop_of_length_le (by rw [Array.length_toList]; exact Nat.le_refl _)
        rw [hd0] at hJ
        cases hJ
        exact ⟨_, _, rfl, hd0, rfl, Nat.le_refl _⟩
      case done =>
        rintro m ln pos t5 t6 k6 h tk ⟨o1, tt, rfl, hd1, rfl, hd3⟩ F6 N6
        dsimp only
        k_steps
        exact (hNx _ (CiEnd.off F6 N6 ⟨_, _, rfl, hd1, rfl, hd3⟩)).1
      case turn =>
        clear F7 N7 hJ hdr hl
        try clear F5
        try clear N5
        rintro m ln pos t5 t6 k6 c u h tk ⟨o1, tt, tk7, rfl, hlen, hJ⟩ hdr hl F8 N8
        clear hNx
        intro Qy Ey hNx hRy
        rw [hdr] at hJ
        unfold barF at hJ
        dsimp only [CiLed, List.cons_append, List.nil_append] at N8
        rw [if_pos rfl] at N8
        have hz : (⟨tk7.toArray⟩ : Str).length ≤ 100 := by (show tk7.toArray.size ≤ 100; rw [List.size_toArray]; omega)
        have hz1: (⟨#[c]⟩ : Str).length = 1 := rfl
        k_steps
        · rename List.isEmpty _ = true => hws
          rename (_ == Str.ofString "\\") = true => hq
          have e34 : wsC c = false := ws_in hws
          have e92 : c = 92 := one_is hq (by decide)
          rw [if_neg (by rw [e34]; decide), if_pos e92] at hJ
          rw [bs_bar, nx_drop, show List.take 1 (List.drop (pos + 1) x.cps.toList) = nx x (pos + 1) from rfl] at hJ
          refine Stop.go ?_
          rename News _ _ _ _ => N9
          rename Fr _ _ _ _ => F9
          have hl1 := nx_len x (pos + 1)
          have hl2 := nx_pos hl
          have hno : ∀ p ∈ [(it, ciObj (.ref mo) (.str (Str.ofString "") ts) (.bool false)), (mo, methodObj (.ref 70) (.ref S.lx))], p.1 ∉ S.adr := List.forall_mem_cons.mpr ⟨hito, List.forall_mem_cons.mpr ⟨hmoo, List.forall_mem_nil _⟩⟩
          refine wpAny_call (rc_fn (S := S) (L := s.heap.objs.size) (own := [(it, ciObj (.ref mo) (.str (Str.ofString "") ts) (.bool false)), (mo, methodObj (.ref 70) (.ref S.lx))]) rfl ?e1 ?e2 KX T hl F9 N9 hno ?_)
          case e1 => exact dp_le hdp (by decide)
          case e2 => exact un_le hun (by decide)
          intro h10 tk10 t210 t510 t610 k610 F10 N10
          clear F9 N9
          dsimp only [List.cons_append, List.nil_append] at N10
          dsimp only
          generalize nx x (pos + 1) = l at *
          have hz2 : (⟨l.toArray⟩ : Str).length ≤ 1 := by (show l.toArray.size ≤ 1; rw [List.size_toArray]; omega)
          k_steps
          rename News _ _ _ _ => N11
          rename Fr _ _ _ _ => F11
          have ea := str_app tk7 l
          rw [ea] at F11
          obtain ⟨o12, tt12, F12⟩ : ∃ o12 tt12, Fr g s.heap.objs.size _ (fun nm => if nm = Str.ofString "ch" then some o12 else if nm = Str.ofString "fiter" then some (.ref it) else if nm = Str.ofString "token" then some (.str ⟨(tk7 ++ l).toArray⟩ tt12) else if nm = Str.ofString "self" then some (.ref S.lx) else none) := by
            refine' ⟨_, _, fr_names [Str.ofString "ch", Str.ofString "fiter", Str.ofString "token", Str.ofString "self"] ?fF ?fA ?fB⟩
            rotate_left 2
            (case fF => exact F11); (case fA => exact List.forall_mem_cons.mpr ⟨(by exact rfl), List.forall_mem_cons.mpr ⟨(by exact rfl), List.forall_mem_cons.mpr ⟨(by exact rfl), List.forall_mem_cons.mpr ⟨(by exact rfl), List.forall_mem_nil _⟩⟩⟩⟩); (case fB => (intro y hy; simp only [List.mem_cons, not_or] at hy; simp only [hy, if_false]))
          exact (hNx _ (CiEnd.on (pos' := pos + 1 + l.length) F12 N11 (by omega) hl2 ⟨_, _, tk7 ++ l, rfl, by rw [List.length_append]; omega, hJ⟩)).1
        · rename List.isEmpty _ = true => hws
          rename (_ == Str.ofString "\\") = false => hq
          have e34 : wsC c = false := ws_in hws
          have e92 : c ≠ 92 := one_not hq (by decide)
          rw [if_neg (by rw [e34]; decide), if_neg e92] at hJ
          rename News _ _ _ _ => N11
          rename Fr _ _ _ _ => F11
          have ea : (⟨tk7.toArray⟩ : Str) ++ ⟨#[c]⟩ = ⟨(tk7 ++ [c]).toArray⟩ := str_app tk7 [c]
          rw [ea] at F11
          obtain ⟨o12, tt12, F12⟩ : ∃ o12 tt12, Fr g s.heap.objs.size _ (fun nm => if nm = Str.ofString "ch" then some o12 else if nm = Str.ofString "fiter" then some (.ref it) else if nm = Str.ofString "token" then some (.str ⟨(tk7 ++ [c]).toArray⟩ tt12) else if nm = Str.ofString "self" then some (.ref S.lx) else none) := by
            refine' ⟨_, _, fr_names [Str.ofString "ch", Str.ofString "fiter", Str.ofString "token", Str.ofString "self"] ?fF ?fA ?fB⟩
            rotate_left 2
            (case fF => exact F11); (case fA => exact List.forall_mem_cons.mpr ⟨(by exact rfl), List.forall_mem_cons.mpr ⟨(by exact rfl), List.forall_mem_cons.mpr ⟨(by exact rfl), List.forall_mem_cons.mpr ⟨(by exact rfl), List.forall_mem_nil _⟩⟩⟩⟩); (case fB => (intro y hy; simp only [List.mem_cons, not_or] at hy; simp only [hy, if_false]))
          exact (hNx _ (CiEnd.on (pos' := pos + 1) F12 N11 (Nat.le_refl _) hl ⟨_, _, tk7 ++ [c], rfl, by rw [List.length_append]; exact Nat.succ_le_succ hlen, hJ⟩)).1
        · rename List.isEmpty _ = false => hws
          have e34 : wsC c = true := ws_in hws
          rw [if_pos e34] at hJ
          rw [← hJ] at hQ
          dsimp only
          exact hRy _ _ (hRx _ _ (hQ _ _ _ _ _ _ (pos + 1) F8.keep (fun p hp => (N8 p (.tail _ (.tail _ hp))).1) hl rfl))
    · rename List.isEmpty _ = false => hws
      have e1 : wsC c = true := ws_in hws
      rw [if_pos e1] at hJ
      dsimp only
      obtain ⟨tt9, F9⟩ : ∃ tt9, Fr g s.heap.objs.size _ (fun nm => if nm = Str.ofString "ch" then some (.str ⟨#[c]⟩ u) else if nm = Str.ofString "fiter" then some (.ref it) else if nm = Str.ofString "token" then some (.str ⟨#[]⟩ tt9) else if nm = Str.ofString "self" then some (.ref S.lx) else none) := by
        refine' ⟨_, fr_names [Str.ofString "ch", Str.ofString "fiter", Str.ofString "token", Str.ofString "self"] ?fF ?fA ?fB⟩
        rotate_left
        (case fF => exact F5); (case fA => exact List.forall_mem_cons.mpr ⟨(by exact rfl), List.forall_mem_cons.mpr ⟨(by exact rfl), List.forall_mem_cons.mpr ⟨(by exact rfl), List.forall_mem_cons.mpr ⟨(by exact rfl), List.forall_mem_nil _⟩⟩⟩⟩); (case fB => (intro y hy; simp only [List.mem_cons, not_or] at hy; simp only [hy, if_false]))
      exact (hNx _ (CiEnd.on F9 N5 (Nat.le_refl _) hl ⟨_, _, rfl, hJ⟩)).2
end Mine
end

section
theorem Mine.offPsh : True := by
  w_top off
  trivial
open PySem PySem.W PyProof.Rows PySem.Spec PySem.Calls PyProof.Rows.LCg
set_option Elab.async false
set_option maxRecDepth 100000
set_option maxHeartbeats 1000000
namespace Mine
set_option pp.deepTerms false
set_option pp.maxSteps 3000
local macro_rules | `(tactic| walk_at "truthy ref") => `(tactic| refine Stop.out ?_)
local macro_rules | `(tactic| walk_at "call builtin:list.pop") => `(tactic| refine Stop.out ?_)
theorem tok_pop {w : World} {vp : Program} {vl : List Str} {mean : ExcName → Option Value} {mg mb : Str → Option Value} {A : Around} {s : Shared} {g : Heap} {R : Result → Shared → Prop} (hh : A.handled = none) (hdp : A.depth + 40 < recursionLimit) (hun : A.units + 400 < cLine)
    (KX : (hd.heap_1 w.params).In g) (T : Top vp vl mean mg mb g) (hgs : Kept g s.heap) (hgz : g.objs.size ≤ s.heap.objs.size) {x : Str} (S : LxS w x) {ln : Int} {t5 t6 : Tok} {pos k6 kp : Nat} {v : Value} {vs : Array Value} (hvs : vs.size ≤ 100)
    (hv : vs[0]? = some v) (hex : ∀ p ∈ S.led ln t5 (W.listOf vs kp) pos t6 k6, s.heap.get? p.1 = some p.2 ∧ g.get? p.1 = none)
    (hQ : ∀ h' tk kp', Kept g h' → (∀ p ∈ S.led ln t5 (W.listOf (vs.eraseIdxIfInBounds 0) kp') pos t6 k6, h'.get? p.1 = some p.2) → R (.ok (.ret v)) ⟨h', s.gens, s.drawn, tk, s.os⟩) :
    codeAny (model PySem.Challenge.rw_re0075_01.row.toRowW.prog w) A (.call (.ref 77) ⟨[.ref S.lx], []⟩) R s := by
  obtain ⟨_, dp, fr, gd, un⟩ := A; cases hh; dsimp only at hdp hun; revert KX; k_fill; intro KX
  k_dflt (refine' entG [(Str.ofString "self", .ref S.lx)] _ KX T hgs hgz hex ?k6 ?k7 ?k8 ?k9 ?kB ?_ ?c2 ?c3 ?c4 ?c5; (case k6 => k_is); (case k7 => k_is); (case k8 => (dsimp only; omega)); (case k9 => exact rfl); (case c5 => decide); (case kB => exact locs rfl); (case c2 => exact rfl); (case c3 => exact rfl); (case c4 => exact rfl); k_whole)
  intro h1 F1 N1
  replace F1 : Fr g s.heap.objs.size h1 (fun nm => if nm = Str.ofString "self" then some (.ref S.lx) else none) := F1
  dsimp only [LxS.led] at N1
  (try dsimp only)
  (try k_fold)
  k_steps
  refine Stop.go ?_
  have hz : 0 < vs.size := by
    rcases Nat.eq_zero_or_pos vs.size with e | e
    · rw [Array.getElem?_eq_none (by omega)] at hv; cases hv
    · exact e
  have he : (!vs.isEmpty) = true := by
    have : vs.isEmpty = false := by
      unfold Array.isEmpty
      exact decide_eq_false (by omega)
    rw [this]; rfl
  refine wpAny_truthy_list (News.isList N1 (.tail _ (.tail _ (.head _)))) (by omega) ?_
  rw [he]
  dsimp only
  k_steps
  refine Stop.go ?_
  rename News _ _ _ _ => N2
  rename Fr _ _ _ _ => F2
  have hg := N2 (S.pb, W.listOf vs kp) (.tail _ (.tail _ (.head _)))
  have hsi : seqIndex? 0 vs.size = some 0 := by
    unfold seqIndex?
    simp [hz]
  refine call_meets F.slot_list_pop ⟨_, hg.1, rfl⟩ F.entry_list_pop (F.args_list_pop_2 _ _) (MeetsSeq.list_pop_at S.pb vs kp 0 _ 0 v (by decide) hsi hv (by rw [sizeLine_eq]; omega)) ⟨hg.1, ?_⟩
  have hs9 := Heap.SameBut.update h1 S.pb (Obj.mapSeq fun xs => xs.eraseIdxIfInBounds 0)
  replace F2 := F2.change hs9 hg.2.1 hg.2.2
  obtain ⟨c1, c2, c3, c4, c5, c6, c7, c8, c9⟩ := chain_pb S.nd
  have N3 := News.setAt (own := [(S.lx, instObj 87 S.dx), (S.dx, lxD w S.k1 S.k2 S.k3 S.k4 ln t5 S.st S.tw S.pb)]) (rest := [(S.al, W.listOf #[Value.int (pos : Int) t6] k6), (S.st, S.ost), (S.sd, S.osd), (S.rd, S.ord), (S.crd, S.ocrd), (S.ca, S.oca), (S.ct, S.oct)]) N2
    (List.forall_mem_cons.mpr ⟨Nat.ne_of_lt c1, List.forall_mem_cons.mpr ⟨Nat.ne_of_lt c2, List.forall_mem_nil _⟩⟩)
    (List.forall_mem_cons.mpr ⟨Nat.ne_of_lt c7, List.forall_mem_cons.mpr ⟨Nat.ne_of_lt c4, List.forall_mem_cons.mpr ⟨Nat.ne_of_lt c3, List.forall_mem_cons.mpr ⟨Nat.ne_of_lt c5, List.forall_mem_cons.mpr ⟨Nat.ne_of_lt c6, List.forall_mem_cons.mpr ⟨Nat.ne_of_lt c8, List.forall_mem_cons.mpr ⟨Nat.ne_of_lt c9, List.forall_mem_nil _⟩⟩⟩⟩⟩⟩⟩) hs9
    (Heap.get?_update_self _ hg.1 rfl)
  exact hQ _ _ _ F2.keep (fun p hp => (N3 p hp).1)
theorem push_spec {w : World} {vp : Program} {vl : List Str} {mean : ExcName → Option Value} {mg mb : Str → Option Value} {A : Around} {s : Shared} {g : Heap} {R : Result → Shared → Prop} (hh : A.handled = none) (hdp : A.depth + 40 < recursionLimit) (hun : A.units + 400 < cLine)
    (KX : (hd.heap_1 w.params).In g) (T : Top vp vl mean mg mb g) (hgs : Kept g s.heap) (hgz : g.objs.size ≤ s.heap.objs.size) {x : Str} (S : LxS w x) {ln : Int} {t5 t6 : Tok} {pos k6 kp : Nat} {v : Value} {vs : Array Value} (hvs : vs.size ≤ 100)
    (hex : ∀ p ∈ S.led ln t5 (W.listOf vs kp) pos t6 k6, s.heap.get? p.1 = some p.2 ∧ g.get? p.1 = none)
    (hQ : ∀ h' tk kp', Kept g h' → (∀ p ∈ S.led ln t5 (W.listOf (vs.push v) kp') pos t6 k6, h'.get? p.1 = some p.2) → R (.ok (.ret .none)) ⟨h', s.gens, s.drawn, tk, s.os⟩) :
    codeAny (model PySem.Challenge.rw_re0075_01.row.toRowW.prog w) A (.call (.ref 84) ⟨[.ref S.lx, v], []⟩) R s := by
  obtain ⟨_, dp, fr, gd, un⟩ := A; cases hh; dsimp only at hdp hun; revert KX; k_fill; intro KX
  k_dflt (refine' entG [(Str.ofString "self", .ref S.lx), (Str.ofString "token", v)] _ KX T hgs hgz hex ?k6 ?k7 ?k8 ?k9 ?kB ?_ ?c2 ?c3 ?c4 ?c5; (case k6 => k_is); (case k7 => k_is); (case k8 => (dsimp only; omega)); (case k9 => exact rfl); (case c5 => decide); (case kB => exact locs rfl); (case c2 => exact rfl); (case c3 => exact rfl); (case c4 => exact rfl); k_whole)
  intro h1 F1 N1
  replace F1 : Fr g s.heap.objs.size h1 (fun nm => if nm = Str.ofString "token" then some v else if nm = Str.ofString "self" then some (.ref S.lx) else none) := F1
  dsimp only [LxS.led] at N1
  have q0 := chain_pb S.nd
  have g1 := q0.1
  have g2 := q0.2.1
  have g3 := q0.2.2.1
  have g4 := q0.2.2.2.1
  have g5 := q0.2.2.2.2.1
  have g6 := q0.2.2.2.2.2.1
  have g7 := q0.2.2.2.2.2.2.1
  have g8 := q0.2.2.2.2.2.2.2.1
  have g9 := q0.2.2.2.2.2.2.2.2
  clear q0
  (try dsimp only)
  (try k_fold)
  k_steps
  exact hQ _ _ _ (Fr.keep (by assumption)) (fun p hp => ((by assumption : News _ _ _ _) p hp).1)
end Mine
end

section
theorem Mine.offPsf : True := by
  w_top off
  trivial
open PySem PySem.W PyProof.Rows PySem.Spec PySem.Calls PyProof.Rows.LCg
set_option Elab.async false
set_option maxRecDepth 100000
set_option maxHeartbeats 1000000
namespace Mine
section
variable {w : World} {vp : Program} {vl : List Str} {mean : ExcName → Option Value} {mg mb : Str → Option Value} {A : Around} {s : Shared} {g : Heap} {R : Result → Shared → Prop} {x : Str} {L : Addr} {m : Str → Option Value} {own : List (Addr × Obj)} {ln : Int} {t5 t6 : Tok} {pos k6 kp : Nat}
theorem pop_fn (hh : A.handled = none) (hdp : A.depth + 40 < recursionLimit) (hun : A.units + 400 < cLine) (KX : (hd.heap_1 w.params).In g) (T : Top vp vl mean mg mb g) (S : LxS w x) {v : Value} {vs : Array Value} (hvs : vs.size ≤ 100) (hv : vs[0]? = some v)
    (F : Fr g L s.heap m) (N : News g L s.heap (own ++ S.led ln t5 (W.listOf vs kp) pos t6 k6)) (ho : ∀ p ∈ own, p.1 ∉ S.adr)
    (hQ : ∀ h' tk kp', Fr g L h' m → News g L h' (own ++ S.led ln t5 (W.listOf (vs.eraseIdxIfInBounds 0) kp') pos t6 k6) → R (.ok (.ret v)) ⟨h', s.gens, s.drawn, tk, s.os⟩) :
    codeAny (model PySem.Challenge.rw_re0075_01.row.toRowW.prog w) A (.call (.ref 77) ⟨[.ref S.lx], []⟩) R s := by
  have ha := led_out S N
  refine tok_pop hh hdp hun (in_hide KX F fun b hb => (ha b hb).2) (T.keeps (kept_hide F fun b hb => (ha b hb).2)) hide_keep hide_size S hvs hv (led_ex S N) ?_
  intro h' tk kp' hk hl
  exact hQ h' tk kp' (fr_hide F hk ha) (led_back S N ho hk hl)
theorem push_fn (hh : A.handled = none) (hdp : A.depth + 40 < recursionLimit) (hun : A.units + 400 < cLine) (KX : (hd.heap_1 w.params).In g) (T : Top vp vl mean mg mb g) (S : LxS w x) {v : Value} {vs : Array Value} (hvs : vs.size ≤ 100)
    (F : Fr g L s.heap m) (N : News g L s.heap (own ++ S.led ln t5 (W.listOf vs kp) pos t6 k6)) (ho : ∀ p ∈ own, p.1 ∉ S.adr)
    (hQ : ∀ h' tk kp', Fr g L h' m → News g L h' (own ++ S.led ln t5 (W.listOf (vs.push v) kp') pos t6 k6) → R (.ok (.ret .none)) ⟨h', s.gens, s.drawn, tk, s.os⟩) :
    codeAny (model PySem.Challenge.rw_re0075_01.row.toRowW.prog w) A (.call (.ref 84) ⟨[.ref S.lx, v], []⟩) R s := by
  have ha := led_out S N
  refine push_spec hh hdp hun (in_hide KX F fun b hb => (ha b hb).2) (T.keeps (kept_hide F fun b hb => (ha b hb).2)) hide_keep hide_size S hvs (led_ex S N) ?_
  intro h' tk kp' hk hl
  exact hQ h' tk kp' (fr_hide F hk ha) (led_back S N ho hk hl)
theorem read_fn2 (hh : A.handled = none) (hdp : A.depth + 40 < recursionLimit) (hun : A.units + 400 < cLine) (KX : (hd.heap_1 w.params).In g) (T : Top vp vl mean mg mb g) (S : LxS w x) (hpos : pos ≤ x.length) (hx : x.length ≤ 100) {res : List Nat × List Nat × Int} (hres : outF (x.cps.toList.drop pos) ln = res)
    (F : Fr g L s.heap m) (N : News g L s.heap (own ++ S.led ln t5 (W.listOf #[] kp) pos t6 k6)) (ho : ∀ p ∈ own, p.1 ∉ S.adr)
    (hQ : ∀ h' tk t2 t5' t6' k6' pos', Fr g L h' m → News g L h' (own ++ S.led res.2.2 t5' (W.listOf #[] kp) pos' t6' k6') → pos' ≤ x.length → x.cps.toList.drop pos' = res.2.1 → R (.ok (.ret (.str ⟨res.1.toArray⟩ t2))) ⟨h', s.gens, s.drawn, tk, s.os⟩) :
    codeAny (model PySem.Challenge.rw_re0075_01.row.toRowW.prog w) A (.call (.ref 77) ⟨[.ref S.lx], []⟩) R s := by
  have ha := led_out S N
  refine tok_read hh hdp hun (in_hide KX F fun b hb => (ha b hb).2) (T.keeps (kept_hide F fun b hb => (ha b hb).2)) hide_keep hide_size S hpos hx (led_ex S N) hres ?_
  intro h' tk t2 t5' t6' k6' pos' hk hl hp hd
  exact hQ h' tk t2 t5' t6' k6' pos' (fr_hide F hk ha) (led_back S N ho hk hl) hp hd
theorem not_adr (S : LxS w x) {I : Addr} {oPb : Obj} (h : ∀ p ∈ S.led ln t5 oPb pos t6 k6, p.1 ≠ I) : I ∉ S.adr := fun hm => by
  obtain ⟨o, ho⟩ := S.adr_ex ln t5 oPb pos t6 k6 hm
  exact h _ ho rfl
end
end Mine
end

section
theorem Mine.offSwp : True := by
  w_top off
  trivial
local macro_rules | `(tactic| walk_at "none such") => `(tactic| fail)
local macro_rules | `(tactic| walk_at "none such") => `(tactic| fail)
local macro_rules | `(tactic| walk_at "none such") => `(tactic| fail)
open PySem PySem.W PyProof.Rows PySem.Spec PySem.Calls PyProof.Rows.LCg
set_option Elab.async false
set_option maxRecDepth 100000
set_option maxHeartbeats 1000000
namespace Mine
set_option pp.deepTerms false
set_option pp.maxSteps 3000
noncomputable def clS : Str := Str.ofString ")"
noncomputable def swpIn : Nat → List Str → Str → List Str → Nat → Option (List Str × Str × List Str × Nat)
  | 0, q, sg, nm, hd => some (q, sg, nm, hd)
  | _ + 1, [], _, _, _ => none
  | n + 1, t :: q, sg, nm, hd =>
    if q.length ≤ 50 ∧ sg.length ≤ 100 ∧ nm.length ≤ 50 ∧ t.length ≤ 100 ∧ hd ≤ 100 then
      if t = Str.ofString ")" then swpIn n q (sg ++ Str.ofString ")") nm hd
      else if Txt.startswith t (Str.ofString "# ") = true then swpIn n (q ++ [Txt.slice t (some 2) none]) sg nm (hd + 1)
      else swpIn n (q ++ [Str.ofString ")"]) (sg ++ Str.ofString "(") (nm ++ [t]) (hd + 1)
    else none
noncomputable def swpOut : Nat → List Str → Str → List Str → Nat → Option (List Str × Str × List Str)
  | 0, q, sg, nm, _ => some (q, sg, nm)
  | n + 1, q, sg, nm, wt =>
    if wt ≤ 50 then
      match swpIn wt q sg nm 0 with
      | none => none
      | some (q', sg', nm', hd') => swpOut n q' sg' nm' hd'
    else none
local macro_rules | `(tactic| walk_at "call ref") => `(tactic| refine Stop.out ?_)
local macro_rules | `(tactic| walk_at "exec For Name Call cons nil") => `(tactic| refine Stop.out ?_)
local macro_rules | `(tactic| walk_at "pyIter ref") => `(tactic| refine Stop.out ?_)
theorem sweep_spec {w : World} {vp : Program} {vl : List Str} {mean : ExcName → Option Value} {mg mb : Str → Option Value} {A : Around} {s : Shared} {g : Heap} {R : Result → Shared → Prop} (hh : A.handled = none) (hdp : A.depth + 50 < recursionLimit) (hun : A.units + 500 < cLine)
    (KX : (hd.heap_1 w.params).In g) (T : Top vp vl mean mg mb g) (hgs : Kept g s.heap) (hgz : g.objs.size ≤ s.heap.objs.size) {x : Str} (S : LxS w x) {ln : Int} {t5 t6 tp : Tok} {pos k6 kp p : Nat} {vs : Array Value} {q : List Str} (hvs : StrsAre vs.toList q) (hp : p ≤ 6)
    {r : List Str × Str × List Str} (hr : swpOut (p + 1) q (Str.ofString "") [] p = some r)
    (hex : ∀ p ∈ S.led ln t5 (W.listOf vs kp) pos t6 k6, s.heap.get? p.1 = some p.2 ∧ g.get? p.1 = none)
    (hQ : ∀ h' tk tq nl ns kn vs' kp' ts, Kept g h' → h'.get? tq = some { cls := .type "tuple", data := .seq #[.str r.2.1 ts, .ref nl] } → h'.get? nl = some (W.listOf ns kn) → g.get? tq = none → g.get? nl = none → @LT.lt Nat _ S.pb nl → @LT.lt Nat _ nl tq →
      (∀ p ∈ S.led ln t5 (W.listOf vs' kp') pos t6 k6, h'.get? p.1 = some p.2) → StrsAre vs'.toList r.1 → StrsAre ns.toList r.2.2 → R (.ok (.ret (.ref tq))) ⟨h', s.gens, s.drawn, tk, s.os⟩) :
    codeAny (model PySem.Challenge.rw_re0075_01.row.toRowW.prog w) A (.call (.ref 131) ⟨[.ref S.lx, .int (p : Int) tp], []⟩) R s := by
  obtain ⟨_, dp, fr, gd, un⟩ := A; cases hh; dsimp only at hdp hun; revert KX; k_fill; intro KX
  k_dflt (refine' entG [(Str.ofString "lexer", .ref S.lx), (Str.ofString "pairs", .int (p : Int) tp)] _ KX T hgs hgz hex ?k6 ?k7 ?k8 ?k9 ?kB ?_ ?c2 ?c3 ?c4 ?c5; (case k6 => k_is); (case k7 => k_is); (case k8 => (dsimp only; omega)); (case k9 => exact rfl); (case c5 => decide); (case kB => exact locs rfl); (case c2 => exact rfl); (case c3 => exact rfl); (case c4 => exact rfl); k_whole)
  intro h1 F1 N1
  replace F1 : Fr g s.heap.objs.size h1 (fun nm => if nm = Str.ofString "pairs" then some (.int (p : Int) tp) else if nm = Str.ofString "lexer" then some (.ref S.lx) else none) := F1
  dsimp only [LxS.led] at N1
  (try dsimp only)
  (try k_fold)
  have nd := S.nd
  unfold Chain10 at nd
  k_steps
  refine Stop.go ?_
  refine wpAny_For ?_
  k_steps
  refine Stop.go ?_
  rename News _ _ _ _ => N2
  rename Fr _ _ _ _ => F2
  rename _ ∧ _ => lt2
  refine' for_rng (g := g) (L := s.heap.objs.size) (n := p + 1) (fun i m news G => G = s.gens ∧ ∃ nl ns kn vs kp q sg nm wt o1 o2 o3 o4 tw ts, @LT.lt Nat _ S.pb nl ∧ news = (nl, W.listOf ns kn) :: S.led ln t5 (W.listOf vs kp) pos t6 k6 ∧
      m = (fun nm => if nm = Str.ofString "token" then o1 else if nm = Str.ofString "turn" then o2 else if nm = Str.ofString "held" then o3 else if nm = Str.ofString "depth" then o4 else if nm = Str.ofString "waiting" then some (.int ((wt : Nat) : Int) tw) else if nm = Str.ofString "named" then some (.ref nl) else if nm = Str.ofString "signs" then some (.str sg ts) else if nm = Str.ofString "pairs" then some (.int (p : Int) tp) else if nm = Str.ofString "lexer" then some (.ref S.lx) else none) ∧
      StrsAre vs.toList q ∧ StrsAre ns.toList nm ∧ swpOut (p + 1 - i) q sg nm wt = some r)
    (by assumption) (by omega) (by omega) (by omega) (by omega) rfl rfl rfl rfl ?hF N2 ⟨rfl, _, #[], _, vs, kp, q, Str.ofString "", [], p, none, none, none, none, _, _, lt2.2.2.1, rfl, rfl, hvs, .nil, hr⟩ ?turn ?done
  case hF =>
    refine' fr_names [Str.ofString "token", Str.ofString "turn", Str.ofString "held", Str.ofString "depth", Str.ofString "waiting", Str.ofString "named", Str.ofString "signs", Str.ofString "pairs", Str.ofString "lexer"] ?fF ?fA ?fB
    (case fF => exact F2); (case fA => exact List.forall_mem_cons.mpr ⟨(by exact rfl), List.forall_mem_cons.mpr ⟨(by exact rfl), List.forall_mem_cons.mpr ⟨(by exact rfl), List.forall_mem_cons.mpr ⟨(by exact rfl), List.forall_mem_cons.mpr ⟨(by exact rfl), List.forall_mem_cons.mpr ⟨(by exact rfl), List.forall_mem_cons.mpr ⟨(by exact rfl), List.forall_mem_cons.mpr ⟨(by exact rfl), List.forall_mem_cons.mpr ⟨(by exact rfl), List.forall_mem_nil _⟩⟩⟩⟩⟩⟩⟩⟩⟩); (case fB => (intro y hy; simp only [List.mem_cons, not_or] at hy; simp only [hy, if_false]))
  case turn =>
    clear F2 N2 lt2 hex hvs hr
    rintro i u m news h tk G I oI hi hI ⟨rfl, nl, ns, kn, vs, kp, q, sg, nm, wt, o1, o2, o3, o4, tw, ts, hnl, rfl, rfl, hvs, hns, hJ⟩ hnI F3 N3 Qv Ev hNx _
    have hIn : @Ne Nat nl I := hnI _ (.head _)
    have hIa : I ∉ S.adr := not_adr S fun p hp => hnI p (.tail _ hp)
    clear hnI
    obtain ⟨n9, hn9⟩ := sub_ex hi
    rw [hn9] at hJ
    unfold swpOut at hJ
    split at hJ
    rotate_left
    · cases hJ
    rename wt ≤ 50 => hwt
    split at hJ
    · cases hJ
    rename swpIn _ _ _ _ _ = _ => hin
    rename_i q9 sg9 nm9 hd9
    skip
    k_steps
    refine Stop.go ?_
    refine wpAny_For ?_
    k_steps
    refine Stop.go ?_
    rename News _ _ _ _ => N4
    rename Fr _ _ _ _ => F4
    refine' for_rng (g := g) (L := s.heap.objs.size) (n := wt) (fun j m news G => G = s.gens ∧ ∃ ns kn vs kp q sg nm hd o1 o2 tw th ts, news = (nl, W.listOf ns kn) :: (I, oI) :: S.led ln t5 (W.listOf vs kp) pos t6 k6 ∧
        m = (fun nm => if nm = Str.ofString "token" then o1 else if nm = Str.ofString "turn" then o2 else if nm = Str.ofString "held" then some (.int ((hd : Nat) : Int) th) else if nm = Str.ofString "depth" then some (.int (0 + (i : Int)) u) else if nm = Str.ofString "waiting" then some (.int ((wt : Nat) : Int) tw) else if nm = Str.ofString "named" then some (.ref nl) else if nm = Str.ofString "signs" then some (.str sg ts) else if nm = Str.ofString "pairs" then some (.int (p : Int) tp) else if nm = Str.ofString "lexer" then some (.ref S.lx) else none) ∧
        StrsAre vs.toList q ∧ StrsAre ns.toList nm ∧ swpIn (wt - j) q sg nm hd = some (q9, sg9, nm9, hd9))
      (by assumption) (by omega) (by omega) (by omega) (by omega) rfl rfl rfl rfl ?hF2 (news_sub N4 (by lcg_sub)) ⟨rfl, ns, kn, vs, kp, q, sg, nm, 0, _, _, _, _, _, rfl, rfl, hvs, hns, hin⟩ ?turn2 ?done2
    case hF2 =>
      refine' fr_names [Str.ofString "token", Str.ofString "turn", Str.ofString "held", Str.ofString "depth", Str.ofString "waiting", Str.ofString "named", Str.ofString "signs", Str.ofString "pairs", Str.ofString "lexer"] ?fF ?fA ?fB
      (case fF => exact F4); (case fA => exact List.forall_mem_cons.mpr ⟨(by exact rfl), List.forall_mem_cons.mpr ⟨(by exact rfl), List.forall_mem_cons.mpr ⟨(by exact rfl), List.forall_mem_cons.mpr ⟨(by exact rfl), List.forall_mem_cons.mpr ⟨(by exact rfl), List.forall_mem_cons.mpr ⟨(by exact rfl), List.forall_mem_cons.mpr ⟨(by exact rfl), List.forall_mem_cons.mpr ⟨(by exact rfl), List.forall_mem_cons.mpr ⟨(by exact rfl), List.forall_mem_nil _⟩⟩⟩⟩⟩⟩⟩⟩⟩); (case fB => (intro y hy; simp only [List.mem_cons, not_or] at hy; simp only [hy, if_false]))
    case done2 =>
      clear F4 N4
      rintro m news h6 tk6 G ⟨rfl, ns, kn, vs, kp, q, sg, nm, hd, o1, o2, tw, th, ts, rfl, rfl, hvs, hns, hJ6⟩ F6 N6
      rw [Nat.sub_self] at hJ6
      cases hJ6
      dsimp only [LxS.led] at N6
      dsimp only
      k_steps
      have e3 : p + 1 - (i + 1) = n9 := sub_next hn9
      refine' (hNx _ (TurnEnd.mk (fr_names [Str.ofString "token", Str.ofString "turn", Str.ofString "held", Str.ofString "depth", Str.ofString "waiting", Str.ofString "named", Str.ofString "signs", Str.ofString "pairs", Str.ofString "lexer"] ?fF ?fA ?fB) ?N5 ?ne5 ⟨rfl, nl, ns, kn, vs, kp, _, _, _, _, _, _, _, _, _, _, hnl, rfl, rfl, hvs, hns, ?j5⟩)).1
      (case fF => assumption); (case fA => exact List.forall_mem_cons.mpr ⟨(by exact rfl), List.forall_mem_cons.mpr ⟨(by exact rfl), List.forall_mem_cons.mpr ⟨(by exact rfl), List.forall_mem_cons.mpr ⟨(by exact rfl), List.forall_mem_cons.mpr ⟨(by exact rfl), List.forall_mem_cons.mpr ⟨(by exact rfl), List.forall_mem_cons.mpr ⟨(by exact rfl), List.forall_mem_cons.mpr ⟨(by exact rfl), List.forall_mem_cons.mpr ⟨(by exact rfl), List.forall_mem_nil _⟩⟩⟩⟩⟩⟩⟩⟩⟩); (case fB => (intro y hy; simp only [List.mem_cons, not_or] at hy; simp only [hy, if_false]))
      case N5 =>
        rename News _ _ _ _ => N9
        exact news_sub N9 (by dsimp only [LxS.led]; lcg_sub)
      case ne5 =>
        intro p hp q hq
        rw [List.mem_singleton.mp hq]
        rcases List.mem_cons.mp hp with rfl | hp
        · exact hIn
        · exact fun e => by have h2 := S.led_adr hp; rw [show p.1 = I from e] at h2; exact hIa h2
      case j5 =>
        rw [e3]
        exact hJ
    case turn2 =>
      clear F4 N4 hin hJ hvs hns
      rintro j u2 m news h6 tk6 G I6 oI6 hj hI6 ⟨rfl, ns, kn, vs, kp, q, sg, nm, hd, o1, o2, tw, th, ts, rfl, rfl, hvs, hns, hJ6⟩ hnI6 F6 N6 Qw Ew hNy _
      have hj1 : @Ne Nat nl I6 := hnI6 _ (.head _)
      have hj2 : @Ne Nat I I6 := hnI6 _ (.tail _ (.head _))
      have hIb : I6 ∉ S.adr := not_adr S fun p hp => hnI6 p (.tail _ (.tail _ hp))
      have hnA : nl ∉ S.adr := S.above _ hnl
      clear hnI6 nd
      have q0 := pb10 S.nd hnl
      have g1 := q0.1
      have g2 := q0.2.1
      have g3 := q0.2.2.1
      have g4 := q0.2.2.2.1
      have g5 := q0.2.2.2.2.1
      have g6 := q0.2.2.2.2.2.1
      have g7 := q0.2.2.2.2.2.2.1
      have g8 := q0.2.2.2.2.2.2.2.1
      have g9 := q0.2.2.2.2.2.2.2.2
      clear q0
      obtain ⟨m9, hm9⟩ := sub_ex hj
      have e3 : wt - (j + 1) = m9 := sub_next hm9
      rw [hm9] at hJ6
      cases q with
      | nil => cases hJ6
      | cons t0 q =>
        unfold swpIn at hJ6
        split at hJ6
        rotate_left
        · cases hJ6
        rename _ ∧ _ => hb6
        obtain ⟨hb1, hb2, hb3, hb4, hb5⟩ := hb6
        obtain ⟨tt0, vr, hv0, hvz, hve, hvr⟩ : ∃ tt0 vr, vs[0]? = some (.str t0 tt0) ∧ vs.size = vr.length + 1 ∧ (vs.eraseIdxIfInBounds 0) = vr.toArray ∧ StrsAre vr q := by
          obtain ⟨l⟩ := vs
          cases hvs with
          | cons y ty hr => exact ⟨_, _, rfl, rfl, by simp [Array.eraseIdxIfInBounds], hr⟩
        have hvl := hvr.length
        have hnl2 := hns.length
        skip
        have hown : ∀ oNl, ∀ p ∈ [(I6, oI6), (nl, oNl), (I, oI)], p.1 ∉ S.adr := fun _ => List.forall_mem_cons.mpr ⟨hIb, List.forall_mem_cons.mpr ⟨hnA, List.forall_mem_cons.mpr ⟨hIa, List.forall_mem_nil _⟩⟩⟩
        k_steps
        refine Stop.go ?_
        rename News _ _ _ _ => N7
        rename Fr _ _ _ _ => F7
        refine wpAny_call (pop_fn (S := S) (L := s.heap.objs.size) (own := [(I6, oI6), (nl, W.listOf ns kn), (I, oI)]) rfl ?e1 ?e2 KX T (by omega) hv0 F7 N7 (hown _) ?_)
        case e1 => exact dp_le hdp (by decide)
        case e2 => exact un_le hun (by decide)
        intro h8 tk8 kp8 F8 N8
        clear F7 N7
        rw [hve] at N8
        dsimp only [List.cons_append, List.nil_append] at N8
        dsimp only
        k_steps
        · rename (_ == _) = true => hq
          rw [if_pos (eq_of_beq hq)] at hJ6
          refine' (hNy _ (TurnEnd.mk (fr_names [Str.ofString "token", Str.ofString "turn", Str.ofString "held", Str.ofString "depth", Str.ofString "waiting", Str.ofString "named", Str.ofString "signs", Str.ofString "pairs", Str.ofString "lexer"] ?fF ?fA ?fB) ?N5 ?ne5 ⟨rfl, ns, _, _, _, _, _, _, _, _, _, _, _, _, rfl, rfl, ?v5, hns, ?j5⟩)).1
          (case fF => assumption); (case fA => exact List.forall_mem_cons.mpr ⟨(by exact rfl), List.forall_mem_cons.mpr ⟨(by exact rfl), List.forall_mem_cons.mpr ⟨(by exact rfl), List.forall_mem_cons.mpr ⟨(by exact rfl), List.forall_mem_cons.mpr ⟨(by exact rfl), List.forall_mem_cons.mpr ⟨(by exact rfl), List.forall_mem_cons.mpr ⟨(by exact rfl), List.forall_mem_cons.mpr ⟨(by exact rfl), List.forall_mem_cons.mpr ⟨(by exact rfl), List.forall_mem_nil _⟩⟩⟩⟩⟩⟩⟩⟩⟩); (case fB => (intro y hy; simp only [List.mem_cons, not_or] at hy; simp only [hy, if_false]))
          case N5 =>
            rename News _ _ _ _ => N9
            exact news_sub N9 (by dsimp only [LxS.led]; lcg_sub)
          case ne5 =>
            intro p hp q hq
            rw [List.mem_singleton.mp hq]
            rcases List.mem_cons.mp hp with rfl | hp
            · exact hj1
            · rcases List.mem_cons.mp hp with rfl | hp
              · exact hj2
              · exact fun e => by have h2 := S.led_adr hp; rw [show p.1 = I6 from e] at h2; exact hIb h2
          case v5 => exact hvr
          case j5 =>
            rw [e3]
            exact hJ6
        · rename (_ == _) = false => hq
          rw [if_neg (fun e => by rw [e] at hq; simp at hq)] at hJ6
          refine Stop.go ?_
          rename Fr _ _ _ _ => F9
          rename News _ _ _ _ => N9
          refine ell_spec rfl (dp_le hdp (by decide)) (un_le hun (by decide)) (KX.keeps F9.keep) (T.keeps F9.keep) (by omega) ?_
          intro h10 tk10 hk10
          replace F9 := fr_kept F9 hk10
          replace N9 := news_kept N9 hk10
          dsimp only
          k_steps
          · rename Txt.startswith _ _ = true => hsw
            rw [if_pos hsw] at hJ6
            refine Stop.go ?_
            rename News _ _ _ _ => N11
            rename Fr _ _ _ _ => F11
            refine wpAny_call (push_fn (S := S) (L := s.heap.objs.size) (own := [(I6, oI6), (nl, W.listOf ns kn), (I, oI)]) rfl ?e3 ?e4 KX T (by rw [List.size_toArray]; omega) F11 N11 (hown _) ?_)
            case e3 => exact dp_le hdp (by decide)
            case e4 => exact un_le hun (by decide)
            intro h12 tk12 kp12 F12 N12
            clear F11 N11
            dsimp only [List.cons_append, List.nil_append] at N12
            dsimp only
            k_steps
            refine' (hNy _ (TurnEnd.mk (fr_names [Str.ofString "token", Str.ofString "turn", Str.ofString "held", Str.ofString "depth", Str.ofString "waiting", Str.ofString "named", Str.ofString "signs", Str.ofString "pairs", Str.ofString "lexer"] ?fF ?fA ?fB) ?N5 ?ne5 ⟨rfl, ns, _, _, _, _, _, _, _, _, _, _, _, _, rfl, rfl, ?v5, hns, ?j5⟩)).1
            (case fF => assumption); (case fA => exact List.forall_mem_cons.mpr ⟨(by exact rfl), List.forall_mem_cons.mpr ⟨(by exact rfl), List.forall_mem_cons.mpr ⟨(by exact rfl), List.forall_mem_cons.mpr ⟨(by exact rfl), List.forall_mem_cons.mpr ⟨(by exact rfl), List.forall_mem_cons.mpr ⟨(by exact rfl), List.forall_mem_cons.mpr ⟨(by exact rfl), List.forall_mem_cons.mpr ⟨(by exact rfl), List.forall_mem_cons.mpr ⟨(by exact rfl), List.forall_mem_nil _⟩⟩⟩⟩⟩⟩⟩⟩⟩); (case fB => (intro y hy; simp only [List.mem_cons, not_or] at hy; simp only [hy, if_false]))
            case N5 =>
              rename News _ _ _ _ => N9
              exact news_sub N9 (by dsimp only [LxS.led]; lcg_sub)
            case ne5 =>
              intro p hp q hq
              rw [List.mem_singleton.mp hq]
              rcases List.mem_cons.mp hp with rfl | hp
              · exact hj1
              · rcases List.mem_cons.mp hp with rfl | hp
                · exact hj2
                · exact fun e => by have h2 := S.led_adr hp; rw [show p.1 = I6 from e] at h2; exact hIb h2
            case v5 => (rw [Array.toList_push]; exact strs_snoc hvr)
            case j5 =>
              rw [e3]
              exact hJ6
          · rename Txt.startswith _ _ = false => hsw
            rw [if_neg (by rw [hsw]; decide)] at hJ6
            refine Stop.go ?_
            rename News _ _ _ _ => N11
            rename Fr _ _ _ _ => F11
            refine wpAny_call (push_fn (S := S) (L := s.heap.objs.size) (own := [(I6, oI6), (nl, W.listOf (ns.push (.str t0 tt0)) (kn + 1)), (I, oI)]) rfl ?e3 ?e4 KX T (by rw [List.size_toArray]; omega) F11 N11 (hown _) ?_)
            case e3 => exact dp_le hdp (by decide)
            case e4 => exact un_le hun (by decide)
            intro h12 tk12 kp12 F12 N12
            clear F11 N11
            dsimp only [List.cons_append, List.nil_append] at N12
            dsimp only
            k_steps
            refine' (hNy _ (TurnEnd.mk (fr_names [Str.ofString "token", Str.ofString "turn", Str.ofString "held", Str.ofString "depth", Str.ofString "waiting", Str.ofString "named", Str.ofString "signs", Str.ofString "pairs", Str.ofString "lexer"] ?fF ?fA ?fB) ?N5 ?ne5 ⟨rfl, (ns.push (.str t0 tt0)), _, _, _, _, _, _, _, _, _, _, _, _, rfl, rfl, ?v5, (by rw [Array.toList_push]; exact strs_snoc hns), ?j5⟩)).1
            (case fF => assumption); (case fA => exact List.forall_mem_cons.mpr ⟨(by exact rfl), List.forall_mem_cons.mpr ⟨(by exact rfl), List.forall_mem_cons.mpr ⟨(by exact rfl), List.forall_mem_cons.mpr ⟨(by exact rfl), List.forall_mem_cons.mpr ⟨(by exact rfl), List.forall_mem_cons.mpr ⟨(by exact rfl), List.forall_mem_cons.mpr ⟨(by exact rfl), List.forall_mem_cons.mpr ⟨(by exact rfl), List.forall_mem_cons.mpr ⟨(by exact rfl), List.forall_mem_nil _⟩⟩⟩⟩⟩⟩⟩⟩⟩); (case fB => (intro y hy; simp only [List.mem_cons, not_or] at hy; simp only [hy, if_false]))
            case N5 =>
              rename News _ _ _ _ => N9
              exact news_sub N9 (by dsimp only [LxS.led]; lcg_sub)
            case ne5 =>
              intro p hp q hq
              rw [List.mem_singleton.mp hq]
              rcases List.mem_cons.mp hp with rfl | hp
              · exact hj1
              · rcases List.mem_cons.mp hp with rfl | hp
                · exact hj2
                · exact fun e => by have h2 := S.led_adr hp; rw [show p.1 = I6 from e] at h2; exact hIb h2
            case v5 => (rw [Array.toList_push]; exact strs_snoc hvr)
            case j5 =>
              rw [e3]
              exact hJ6
  case done =>
    clear F2 N2 hvs hex hr
    rintro m news h tk G ⟨rfl, nl, ns, kn, vs, kp, q, sg, nm, wt, o1, o2, o3, o4, tw, ts, hnl, rfl, rfl, hvs, hns, hJ⟩ F3 N3
    rw [Nat.sub_self] at hJ
    cases hJ
    dsimp only [LxS.led] at N3
    dsimp only
    k_steps
    rename News _ _ _ _ => N9
    rename Fr _ _ _ _ => F9
    rename _ ∧ _ => lt9
    exact hQ _ _ _ nl ns kn vs kp ts F9.keep (N9 _ (.head _)).1 (N9 _ (.tail _ (.head _))).1 (N9 _ (.head _)).2.2 (N9 _ (.tail _ (.head _))).2.2 hnl lt9.1 (fun p hp => (N9 p (.tail _ (.tail _ hp))).1) hvs hns
end Mine
end

section
theorem Mine.offCm2 : True := by
  w_top off
  trivial
open PySem PySem.W PyProof.Rows PySem.Spec PySem.Calls PyProof.Rows.LCg
set_option Elab.async false
set_option maxRecDepth 100000
set_option maxHeartbeats 1000000
namespace Mine
theorem compTurn_two_1 (elt t1 i1 t2 i2 : Expr) (f1 f2 : List Expr) (scope : Scope) (pos : Pos) (it acc : Value) (env : Env) :
    compTurn (.ListComp elt [⟨t1, i1, f1, 0⟩, ⟨t2, i2, f2, 0⟩] scope pos) 1 it acc env = (do
      standAt i2.pos
      match ← pyNext it with
      | none => pure (.done .next)
      | some v =>
        letOwnedTupleGo t2 it v
        assign t2 env v
        let mut ok := true
        for c in f2 do
          if ok then ok ← isTrue c env (eval c env)
        if ok then
          (do let _ ← call (.builtin "list.append") [acc, ← eval elt env])
        again (.compLoop (.ListComp elt [⟨t1, i1, f1, 0⟩, ⟨t2, i2, f2, 0⟩] scope pos) 1 it acc env)) := by rfl
section
variable {prog : Program} {w : World} {A : Around} {R : Result → Shared → Prop} {s : Shared}
theorem compStart_two {elt t1 i1 t2 i2 : Expr} {f1 f2 : List Expr} {scope : Scope} {pos : Pos} {it acc : Value} {env : Env}
    (h0 : codeAny (model prog w) A (.compLoop (.ListComp elt [⟨t1, i1, f1, 0⟩, ⟨t2, i2, f2, 0⟩] scope pos) 1 it acc env) R s)
    (h : wpAny (model prog w) A (pyIter it) (fun it' s' => codeAny (model prog w) A (.compLoop (.ListComp elt [⟨t1, i1, f1, 0⟩, ⟨t2, i2, f2, 0⟩] scope pos) 1 it' acc env) R s')
      (notedBy (model prog w) A env fun x s' => R (.error x) s') s) :
    codeAny (model prog w) A (.compStart (.ListComp elt [⟨t1, i1, f1, 0⟩, ⟨t2, i2, f2, 0⟩] scope pos) 1 it acc env) R s := by
  refine codeAny_of_tree ?_
  show wpAny _ _ ((compStart (.ListComp elt [⟨t1, i1, f1, 0⟩, ⟨t2, i2, f2, 0⟩] scope pos) 1 it acc env).onRaise (fun x => do noteFrame x env; standAt theWindowsPlace)) _ _ s
  refine wpAny_notedAt ?_
  unfold compStart
  show wpAny _ _ (ask >>= _) _ _ s
  refine wpAny_bind (wpAny_askSetting (wpAny_ite ?_))
  split
  · first
      | exact wpAny_bind (wpAny_pure (wpAny_pure (And.intro rfl h0)))
      | exact wpAny_pure (And.intro rfl h0)
  · first
      | exact wpAny_bind (wpAny_rule (wpAny_bind (wpAny_standAt (wpAny_bind (wpAny_mono h (fun it' s' h' => wpAny_pure (And.intro rfl h')) fun _ _ x => x)))))
      | (refine wpAny_bind (wpAny_rule ?_); show wpAny _ _ (standAt i2.pos >>= _) _ _ s; exact wpAny_bind (wpAny_standAt (wpAny_bind (wpAny_mono h (fun it' s' h' => wpAny_pure (And.intro rfl h')) fun _ _ x => x))))
/-- the turns of the inner clause -/
theorem comp_in {elt t1 i1 t2 i2 : Expr} {f1 : List Expr} {ct : Expr} {scope : Scope} {pos : Pos} {it acc : Value} {env : Env} (I : Nat → Shared → Prop)
    (turn : ∀ n s, I n s → wpAny (model prog w) A (pyNext it) (fun r s₁ => match r with
      | none => R (.ok .next) s₁
      | some v => wpAny (model prog w) A (assign t2 env v) (fun _ s₂ =>
          wpAny (model prog w) A (isTrue ct env (eval ct env)) (fun ok s₃ =>
            if ok = true then wpAny (model prog w) A (eval elt env) (fun x s₄ =>
              wpAny (model prog w) A (call (.builtin "list.append") [acc, x]) (fun _ s₅ => ∃ m, m < n ∧ I m s₅) (notedBy (model prog w) A env fun e s' => R (.error e) s') s₄) (notedBy (model prog w) A env fun e s' => R (.error e) s') s₃
            else ∃ m, m < n ∧ I m s₃) (notedBy (model prog w) A env fun e s' => R (.error e) s') s₂) (notedBy (model prog w) A env fun e s' => R (.error e) s') s₁) (notedBy (model prog w) A env fun e s' => R (.error e) s') s)
    (n : Nat) (h : I n s) (ht : ∀ v, letOwnedTupleGo t2 it v = pure () := by intro _; rfl) :
    codeAny (model prog w) A (.compLoop (.ListComp elt [⟨t1, i1, f1, 0⟩, ⟨t2, i2, [ct], 0⟩] scope pos) 1 it acc env) R s := by
  refine codeAny_loop rfl I (fun n s hI => ?_) n h
  show wpAny _ A ((compTurn (.ListComp elt [⟨t1, i1, f1, 0⟩, ⟨t2, i2, [ct], 0⟩] scope pos) 1 it acc env).onRaise (fun x => do noteFrame x env; theTreesLotGoes x)) _ _ s
  refine wpAny_noted ?_
  rw [compTurn_two_1]
  refine wpAny_bind (wpAny_standAt (wpAny_bind (wpAny_mono (turn n s hI) (fun r s₁ h₁ => ?_) fun _ _ h' => h')))
  cases r with
  | none => exact wpAny_pure h₁
  | some v =>
    refine wpAny_bind (wpAny_of_eq (ht v) ?_)
    refine wpAny_bind (wpAny_mono h₁ (fun _ s₂ h₂ => wpAny_bind (wpAny_tests_one (wpAny_mono h₂ (fun ok s₃ h₃ => ?_) fun _ _ h' => h'))) fun _ _ h' => h')
    cases ok with
    | false => exact wpAny_pure ⟨rfl, h₃⟩
    | true =>
      exact wpAny_bind (wpAny_bind (wpAny_mono h₃ (fun x s₄ h₄ => wpAny_bind (wpAny_mono h₄ (fun _ s₅ h₅ => wpAny_pure (wpAny_pure ⟨rfl, h₅⟩)) fun _ _ h' => h')) fun _ _ h' => h'))
/-- the turns of the outer clause -/
theorem comp_out {elt t1 i1 t2 i2 : Expr} {f2 : List Expr} {scope : Scope} {pos : Pos} {it acc : Value} {env : Env} (I : Nat → Shared → Prop)
    (turn : ∀ n s, I n s → wpAny (model prog w) A (pyNext it) (fun r s₁ => match r with
      | none => R (.ok .next) s₁
      | some v => wpAny (model prog w) A (assign t1 env v) (fun _ s₂ =>
          wpAny (model prog w) A (eval i2 env) (fun x s₃ => wpAny (model prog w) A (pyIter x) (fun it2 s₄ =>
            codeAny (model prog w) A (.compStart (.ListComp elt [⟨t1, i1, [], 0⟩, ⟨t2, i2, f2, 0⟩] scope pos) 1 it2 acc env) (fun r s₅ => match r with
              | .ok _ => ∃ m, m < n ∧ I m s₅
              | .error e => cameBackBy (model prog w) A env (notedBy (model prog w) A env fun e s' => R (.error e) s') e s₅) s₄)
            (notedBy (model prog w) A env fun e s' => R (.error e) s') s₃) (notedBy (model prog w) A env fun e s' => R (.error e) s') s₂) (notedBy (model prog w) A env fun e s' => R (.error e) s') s₁) (notedBy (model prog w) A env fun e s' => R (.error e) s') s)
    (n : Nat) (h : I n s) (ht : ∀ v, letOwnedTupleGo t1 it v = pure () := by intro _; rfl) (hs : ∀ x, foldedSetIterable i2 env x = pure x := by intro _; rfl) :
    codeAny (model prog w) A (.compLoop (.ListComp elt [⟨t1, i1, [], 0⟩, ⟨t2, i2, f2, 0⟩] scope pos) 0 it acc env) R s := by
  refine codeAny_loop rfl I (fun n s hI => ?_) n h
  show wpAny _ A ((compTurn (.ListComp elt [⟨t1, i1, [], 0⟩, ⟨t2, i2, f2, 0⟩] scope pos) 0 it acc env).onRaise (fun x => do noteFrame x env; theTreesLotGoes x)) _ _ s
  refine wpAny_noted ?_
  unfold compTurn
  refine wpAny_bind (wpAny_standAt (wpAny_bind (wpAny_mono (turn n s hI) (fun r s₁ h₁ => ?_) fun _ _ h' => h')))
  cases r with
  | none => exact wpAny_pure h₁
  | some v =>
    refine wpAny_bind (wpAny_of_eq (ht v) ?_)
    refine wpAny_bind (wpAny_mono h₁ (fun _ s₂ h₂ => wpAny_bind (wpAny_tests_nil ?_)) fun _ _ h' => h')
    rw [if_pos rfl]
    refine wpAny_bind (wpAny_mono h₂ (fun x s₃ h₃ => ?_) fun _ _ h' => h')
    refine wpAny_bind (wpAny_standAt ?_)
    show wpAny _ _ (foldedSetIterable i2 env x >>= _) _ _ _
    refine wpAny_bind (wpAny_of_eq (hs x) ?_)
    show wpAny _ _ (holding [x] (pyIter x) >>= _) _ _ _
    refine wpAny_bind (wpAny_holding (wpAny_mono h₃ (fun it2 s₄ h₄ => ?_) fun _ _ h' => h'))
    refine wpAny_bind (wpAny_runOwn (codeAny_mono h₄ (fun r s₅ h₅ => ?_)))
    cases r with
    | ok f => exact wpAny_pure ⟨rfl, h₅⟩
    | error e => exact h₅
end
noncomputable def EndW (h₀ : Heap) (L : Addr) (m : Str → Option Value) (s : Shared) (all : List (Addr × Obj)) (P : Prop) (s' : Shared) : Prop :=
  ∃ h' tk, s' = ⟨h', s.gens, s.drawn, tk, s.os⟩ ∧ Fr h₀ L h' m ∧ News h₀ L h' all ∧ P
section
variable {prog : Program} {w : World} {A : Around} {E : Value → Shared → Prop} {s : Shared} {h₀ : Heap} {L : Addr} {m : Str → Option Value} {env : Env}
/-- what a turn of the inner clause must do -/
noncomputable def Turn2 (prog : Program) (w : World) (A : Around) (h₀ : Heap) (L : Addr) (m : Str → Option Value) (cenv : Env) (elt ct : Expr) (x y : Str) (s₁ : Shared) (news : List (Addr × Obj)) (I : Addr) (oI : Obj) (C D : Addr) (vx : Value) (n2 : Nat) (J2 : Nat → List Value → Prop) : Prop :=
  ∀ j zs I2 oI2 oC m₃ t2 h tk (E' : Value → Shared → Prop), j < n2 → J2 j zs → NsObj oC m₃ → m₃ x = some vx → m₃ y = some (.int ((0 : Int) + (j : Int)) t2) → Fr h₀ L h m → News h₀ L h ((I2, oI2) :: (I, oI) :: (C, oC) :: (D, lst zs) :: news) →
    ((@Ne Nat I2 I) ∧ (@Ne Nat I2 C) ∧ (@Ne Nat I2 D)) → (∀ p ∈ news, p.1 ≠ I2) →
    wpAny (model prog w) A (isTrue ct cenv (eval ct cenv)) (fun b s₃ => if b = true then
        wpAny (model prog w) A (eval elt cenv) (fun yv s₄ => EndW h₀ L m s₁ ((I2, oI2) :: (I, oI) :: (C, oC) :: (D, lst zs) :: news) (J2 (j + 1) (zs ++ [yv])) s₄) E' s₃
      else EndW h₀ L m s₁ ((I2, oI2) :: (I, oI) :: (C, oC) :: (D, lst zs) :: news) (J2 (j + 1) zs) s₃) E' ⟨h, s₁.gens, s₁.drawn, tk, s₁.os⟩
noncomputable def Src2b (prog : Program) (w : World) (A : Around) (h₀ : Heap) (L : Addr) (m : Str → Option Value) (cenv : Env) (elt ct : Expr) (x y : Str) (s₁ : Shared) (news : List (Addr × Obj)) (I : Addr) (oI : Obj) (C : Addr) (oC : Obj) (D : Addr) (ys : List Value) (i : Nat) (t : Tok) (J : Nat → List Value → Prop) (xv : Value) (s₂ : Shared) : Prop :=
  ∃ r t₁ t₂ t₃ n2 J2, xv = .ref r ∧ IsRange s₂.heap r 0 ((n2 : Nat) : Int) 1 t₁ t₂ t₃ ∧ n2 ≤ 100 ∧
      EndW h₀ L m s₁ ((I, oI) :: (C, oC) :: (D, lst ys) :: news) (J2 0 ys ∧ (∀ zs, J2 n2 zs → J (i + 1) zs) ∧
        Turn2 prog w A h₀ L m cenv elt ct x y s₁ news I oI C D (.int ((0 : Int) + (i : Int)) t) n2 J2) s₂
/-- what a turn of the outer clause must do -/
noncomputable def Turn1 (prog : Program) (w : World) (A : Around) (h₀ : Heap) (L : Addr) (m : Str → Option Value) (env : Env) (cl : List (Str × Addr)) (scope : Scope) (elt it2 ct : Expr) (x y : Str) (s₁ : Shared) (news : List (Addr × Obj)) (n : Nat) (J : Nat → List Value → Prop) : Prop :=
  ∀ i ys I oI C oC D m₂ t h tk (E' : Value → Shared → Prop), i < n → J i ys → NsObj oC m₂ → m₂ x = some (.int ((0 : Int) + (i : Int)) t) → Fr h₀ L h m → News h₀ L h ((I, oI) :: (C, oC) :: (D, lst ys) :: news) → Off3 I C D news → ((@Ne Nat I C) ∧ (@Ne Nat I D) ∧ (@Ne Nat C D)) →
    wpAny (model prog w) A (eval it2 (compEnvC scope cl C env)) (Src2b prog w A h₀ L m (compEnvC scope cl C env) elt ct x y s₁ news I oI C oC D ys i t J) E' ⟨h, s₁.gens, s₁.drawn, tk, s₁.os⟩
theorem ne_off {h : Heap} {all : List (Addr × Obj)} (N : News h₀ L h all) : ∀ p ∈ all, @LT.lt Nat _ p.1 h.objs.size := fun p hp => Heap.lt_size (N p hp).1
theorem inner_all {elt t1 i1 it2 ct : Expr} {f1 : List Expr} {x y : Str} {py : Pos} {scope : Scope} {cl : List (Str × Addr)} {pos : Pos} {R : Result → Shared → Prop} {s₁ : Shared} {news : List (Addr × Obj)} {I C D r : Addr} {oI oC : Obj} {ys : List Value} {vx : Value} {m₂ : Str → Option Value} {n2 B tk : Nat} {h : Heap} {J2 : Nat → List Value → Prop}
    (hh : A.handled = none) (hkind : scope.kind = .function) (hy : scope.names.lookup y = some .local) (hxy : x ≠ y) (hC : NsObj oC m₂) (hm : m₂ x = some vx) (hB : B ≤ 100000) (hn2 : n2 ≤ 100) (hyB : ys.length ≤ B)
    (F : Fr h₀ L h m) (N : News h₀ L h ((I, oI) :: (C, oC) :: (D, lst ys) :: news)) (off : Off3 I C D news) (ne : (@Ne Nat I C) ∧ (@Ne Nat I D) ∧ (@Ne Nat C D)) (hJ : J2 0 ys)
    (hr : IsRange h r 0 ((n2 : Nat) : Int) 1 t₁ t₂ t₃)
    (turn : Turn2 prog w A h₀ L m (compEnvC scope cl C env) elt ct x y s₁ news I oI C D vx n2 J2)
    (done : ∀ zs oC m₃ h tk, J2 n2 zs → zs.length ≤ B + n2 → NsObj oC m₃ → m₃ x = some vx → Fr h₀ L h m → News h₀ L h ((I, oI) :: (C, oC) :: (D, lst zs) :: news) → R (.ok .next) ⟨h, s₁.gens, s₁.drawn, tk, s₁.os⟩) :
    wpAny (model prog w) A (pyIter (.ref r)) (fun it2v s₄ => codeAny (model prog w) A (.compStart (.ListComp elt [⟨t1, i1, f1, 0⟩, ⟨.Name y py, it2, [ct], 0⟩] scope pos) 1 it2v (.ref D) (compEnvC scope cl C env)) R s₄) E ⟨h, s₁.gens, s₁.drawn, tk, s₁.os⟩ := by
  obtain ⟨hsm, hz⟩ := range_small (a := 0) (b := (n2 : Int)) (n := n2) (by omega) (by omega) (by omega) (by omega)
  refine wpAny_pyIter_range hr hsm ?_
  rw [hz]
  have hlt := ne_off N
  have hLlt : L < h.objs.size := F.ns.lt
  have hI0 : h₀.get? h.objs.size = none := new_none (h00 := h) F
  have hit0 : IsRangeIter (h.push { cls := .type "range_iterator", data := .fields #[rawInt 0, rawInt (n2 : Int), rawInt 1] }) h.objs.size 0 (n2 : Int) 1 := Heap.get?_push_size _ rfl
  have F1 := F.push { cls := .type "range_iterator", data := .fields #[rawInt 0, rawInt (n2 : Int), rawInt 1] }
  have N1 := news_push (h00 := h) N { cls := .type "range_iterator", data := .fields #[rawInt 0, rawInt (n2 : Int), rawInt 1] }
  have hne2 : ∀ p ∈ (I, oI) :: (C, oC) :: (D, lst ys) :: news, p.1 ≠ h.objs.size := fun p hp => Nat.ne_of_lt (hlt p hp)
  have hLI : L ≠ h.objs.size := Nat.ne_of_lt hLlt
  dsimp only at N1 ⊢
  generalize h.push { cls := .type "range_iterator", data := .fields #[rawInt 0, rawInt (n2 : Int), rawInt 1] } = h1 at *
  generalize (h.objs.size : Addr) = I2 at *
  have hII : I ≠ I2 := hne2 _ (.head _)
  have hCI : C ≠ I2 := hne2 _ (.tail _ (.head _))
  have hDI : D ≠ I2 := hne2 _ (.tail _ (.tail _ (.head _)))
  have hnI : ∀ p ∈ news, p.1 ≠ I2 := fun p hp => hne2 p (.tail _ (.tail _ (.tail _ hp)))
  have hCL := (N1 (C, oC) (.tail _ (.head _))).2
  have hDL := (N1 (D, lst ys) (.tail _ (.tail _ (.head _)))).2
  have hIL := (N1 (I, oI) (.head _)).2
  have offm := off.mem
  have W := range_walks (prog := prog) (w := w) (A := A) (I := I2) hh 0 n2
  have loop : ∀ tk, codeAny (model prog w) A (.compLoop (.ListComp elt [⟨t1, i1, f1, 0⟩, ⟨.Name y py, it2, [ct], 0⟩] scope pos) 1 (.ref I2) (.ref D) (compEnvC scope cl C env)) R ⟨h1, s₁.gens, s₁.drawn, tk, s₁.os⟩ := by
    intro tk
    refine comp_in (fun k s' => ∃ h' tk j zs oC m₃, s' = ⟨h', s₁.gens, s₁.drawn, tk, s₁.os⟩ ∧ j ≤ n2 ∧ k = n2 + 1 - j ∧ zs.length ≤ B + j ∧ IsRangeIter h' I2 (0 + (j : Nat) * 1) ((n2 : Int) - (j : Nat)) 1 ∧ NsObj oC m₃ ∧ m₃ x = some vx ∧ Fr h₀ L h' m ∧
      News h₀ L h' ((I, oI) :: (C, oC) :: (D, lst zs) :: news) ∧ J2 j zs) ?_ (n2 + 1) ⟨h1, tk, 0, ys, oC, m₂, rfl, Nat.zero_le _, rfl, hyB, by simpa using hit0, hC, hm, F1, N1, hJ⟩
    rintro k s' ⟨h', tk', j, zs, oC, m₃, rfl, hj, rfl, hzl, hit, hC, hm, F', N', hJ⟩
    have hneN : ∀ p ∈ (I, oI) :: (C, oC) :: (D, lst zs) :: news, p.1 ≠ I2 := fun p hp => by
      rcases List.mem_cons.mp hp with rfl | hp
      · exact hII
      · rcases List.mem_cons.mp hp with rfl | hp
        · exact hCI
        · rcases List.mem_cons.mp hp with rfl | hp
          · exact hDI
          · exact hnI p hp
    by_cases hlt : j < n2
    · refine W.item j _ _ _ hlt hit fun v h₂ tk₂ hPv hst₂ hk₂ => ?_
      obtain ⟨t2, rfl⟩ := hPv
      have F₂ : Fr h₀ L h₂ m := fr_but F' hk₂ hLI hI0
      have N₂ := news_but N' hk₂ hneN
      refine wpAny_assign_Name (wpAny_storeName_local (lookup_relabel_local hy) (hC.ns (N₂ (C, oC) (.tail _ (.head _))).1) (fun h₃ hn₃ hs₃ => ?_) (by simp [compEnvC, relabel, hkind]))
      obtain ⟨oC3, heC, hoC⟩ := ns_obj hn₃
      have F₃ := F₂.change hs₃ hCL.1 hCL.2
      have hst₃ : IsRangeIter h₃ I2 (0 + ((j + 1 : Nat) : Int) * 1) ((n2 : Int) - ((j + 1 : Nat) : Int)) 1 := (hs₃.2 I2 (Ne.symm hCI)).trans hst₂
      have hm3 : (if x = y then some (Value.int ((0 : Int) + (j : Int)) t2) else m₃ x) = some vx := by rw [if_neg hxy]; exact hm
      have N₃ : News h₀ L h₃ ((I2, { cls := .type "range_iterator", dict := none, data := .fields #[rawInt (0 + ((j + 1 : Nat) : Int) * 1), rawInt ((n2 : Int) - ((j + 1 : Nat) : Int)), rawInt 1], slots := #[] }) :: (I, oI) :: (C, oC3) :: (D, lst zs) :: news) := fun p hp => by
        rcases List.mem_cons.mp hp with rfl | hp
        · exact ⟨hst₃, Ne.symm hLI, hI0⟩
        · rcases List.mem_cons.mp hp with rfl | hp
          · exact ⟨(hs₃.2 _ ne.1).trans (N₂ _ (.head _)).1, hIL⟩
          · rcases List.mem_cons.mp hp with rfl | hp
            · exact ⟨heC, hCL⟩
            · rcases List.mem_cons.mp hp with rfl | hp
              · exact ⟨(hs₃.2 _ (Ne.symm ne.2.2)).trans (N₂ _ (.tail _ (.tail _ (.head _)))).1, hDL⟩
              · have z := N₂ p (.tail _ (.tail _ (.tail _ hp)))
                exact ⟨(hs₃.2 _ (offm p hp).2.1).trans z.1, z.2⟩
      refine wpAny_mono (turn j zs I2 _ oC3 _ t2 h₃ _ _ hlt hJ hoC hm3 (if_pos rfl) F₃ N₃ ⟨Ne.symm hII, Ne.symm hCI, Ne.symm hDI⟩ hnI) (fun b s₃ hb => ?_) fun _ _ e => e
      cases b with
      | false =>
        simp only [Bool.false_eq_true, if_false] at hb ⊢
        obtain ⟨h₄, tk₄, rfl, F₄, N₄, hJ'⟩ := hb
        exact ⟨n2 + 1 - (j + 1), by omega, h₄, tk₄, j + 1, zs, oC3, _, rfl, hlt, rfl, by omega, (N₄ _ (.head _)).1, hoC, hm3, F₄, fun p hp => N₄ p (.tail _ hp), hJ'⟩
      | true =>
        simp only [if_true] at hb ⊢
        refine wpAny_mono hb (fun yv s₄ h4 => ?_) fun _ _ e => e
        obtain ⟨h₄, tk₄, rfl, F₄, N₄, hJ'⟩ := h4
        refine append_at (hsz := by show zs.toArray.size ≤ sizeLine; rw [List.size_toArray, sizeLine_eq]; omega) (N₄ (D, lst zs) (.tail _ (.tail _ (.tail _ (.head _))))).1 fun h₅ hs₅ hD₅ => ?_
        refine ⟨n2 + 1 - (j + 1), by omega, h₅, tk₄, j + 1, zs ++ [yv], oC3, _, rfl, hlt, rfl, by rw [List.length_append, List.length_singleton]; omega, (hs₅.2 I2 (Ne.symm hDI)).trans (N₄ _ (.head _)).1, hoC, hm3, F₄.change hs₅ hDL.1 hDL.2, fun p hp => ?_, hJ'⟩
        rcases List.mem_cons.mp hp with rfl | hp
        · exact ⟨(hs₅.2 _ ne.2.1).trans (N₄ _ (.tail _ (.head _))).1, hIL⟩
        · rcases List.mem_cons.mp hp with rfl | hp
          · exact ⟨(hs₅.2 _ ne.2.2).trans (N₄ _ (.tail _ (.tail _ (.head _)))).1, hCL⟩
          · rcases List.mem_cons.mp hp with rfl | hp
            · exact ⟨hD₅.trans (congrArg some (lst_snoc zs yv)), hDL⟩
            · have z := N₄ p (.tail _ (.tail _ (.tail _ (.tail _ hp))))
              exact ⟨(hs₅.2 _ (offm p hp).2.2).trans z.1, z.2⟩
    · obtain rfl : j = n2 := Nat.le_antisymm hj (Nat.not_lt.mp hlt)
      refine W.done _ _ _ hit fun h₂ tk₂ hk₂ => ?_
      exact done zs oC m₃ h₂ tk₂ hJ hzl hC hm (fr_but F' hk₂ hLI hI0) (news_but N' hk₂ hneN)
  exact compStart_two (loop _) (wpAny_pyIter_rangeiter hit0 (loop _))
noncomputable def Src2 (prog : Program) (w : World) (A : Around) (h₀ : Heap) (L : Addr) (m : Str → Option Value) (env : Env) (cl : List (Str × Addr)) (scope : Scope) (elt it2 ct : Expr) (x y : Str) (Q : Value → Shared → Prop) (xv : Value) (s₁ : Shared) : Prop :=
  ∃ r t₁ t₂ t₃ n news J, xv = .ref r ∧ A.handled = none ∧ Fr h₀ L s₁.heap m ∧ News h₀ L s₁.heap news ∧ IsRange s₁.heap r 0 ((n : Nat) : Int) 1 t₁ t₂ t₃ ∧ n ≤ 100 ∧ J 0 [] ∧
      (∀ ys, J n ys → ∀ D h tk, Fr h₀ L h m → News h₀ L h ((D, lst ys) :: news) → Off1 D news → Q (.ref D) ⟨h, s₁.gens, s₁.drawn, tk, s₁.os⟩) ∧
      Turn1 prog w A h₀ L m env cl scope elt it2 ct x y s₁ news n J
theorem block_2 {elt it1 it2 ct : Expr} {x y : Str} {px py : Pos} {scope : Scope} {cl : List (Str × Addr)} {pos : Pos} {RR : Value → Addr → Result → Shared → Prop} {s₁ : Shared} {r : Addr} {t₁ t₂ t₃ : Tok} {n : Nat} {news : List (Addr × Obj)} {J : Nat → List Value → Prop}
    (hcell : ∀ y ∈ scope.names, y.2 ≠ .cell) (hkind : scope.kind = .function) (hx : scope.names.lookup x = some .local) (hy : scope.names.lookup y = some .local) (hxy : x ≠ y)
    (hh : A.handled = none) (F : Fr h₀ L s₁.heap m) (N : News h₀ L s₁.heap news) (hr : IsRange s₁.heap r 0 ((n : Nat) : Int) 1 t₁ t₂ t₃) (hn : n ≤ 100) (hJ0 : J 0 [])
    (hRR : ∀ D C h tk m' ys, J n ys → Fr h₀ L h m → News h₀ L h ((D, lst ys) :: news) → h.Ns C m' → h₀.get? C = none → C ≠ L → D ≠ C → (∀ p ∈ news, p.1 ≠ C) → Off1 D news → RR (.ref D) C (.ok .next) ⟨h, s₁.gens, s₁.drawn, tk, s₁.os⟩)
    (turn : Turn1 prog w A h₀ L m env cl scope elt it2 ct x y s₁ news n J) (hs2 : ∀ e x, foldedSetIterable it2 e x = pure x) :
    wpAny (model prog w) A (pyIter (.ref r)) (fun it s₂ => wpAny (model prog w) A (newList []) (fun acc s₃ => wpAny (model prog w) A (newFunctionEnv scope env.globals cl [] env.qual none .none (some env)) (fun cenv s₄ =>
      codeAny (model prog w) A (.compStart (.ListComp elt [⟨.Name x px, it1, [], 0⟩, ⟨.Name y py, it2, [ct], 0⟩] scope pos) 0 it acc { cenv with scope := relabel scope env }) (RR acc cenv.locals) s₄) E s₃) E s₂) E s₁ := by
  obtain ⟨hsm, hz⟩ := range_small (a := 0) (b := (n : Int)) (n := n) (by omega) (by omega) (by omega) (by omega)
  refine wpAny_pyIter_range hr hsm ?_
  rw [hz]
  have hlt := ne_off N
  have hLlt : L < s₁.heap.objs.size := F.ns.lt
  have hI0 : h₀.get? s₁.heap.objs.size = none := new_none F
  have hit0 : IsRangeIter (s₁.heap.push { cls := .type "range_iterator", data := .fields #[rawInt 0, rawInt (n : Int), rawInt 1] }) s₁.heap.objs.size 0 (n : Int) 1 := Heap.get?_push_size _ rfl
  have hilt : @LT.lt Nat _ s₁.heap.objs.size (s₁.heap.push { cls := .type "range_iterator", data := .fields #[rawInt 0, rawInt (n : Int), rawInt 1] }).objs.size := Heap.lt_size hit0
  have F1 := F.push { cls := .type "range_iterator", data := .fields #[rawInt 0, rawInt (n : Int), rawInt 1] }
  have N1 := news_push N { cls := .type "range_iterator", data := .fields #[rawInt 0, rawInt (n : Int), rawInt 1] }
  have hne2 : ∀ p ∈ news, p.1 ≠ s₁.heap.objs.size := fun p hp => Nat.ne_of_lt (hlt p hp)
  have hLI : L ≠ s₁.heap.objs.size := Nat.ne_of_lt hLlt
  generalize s₁.heap.push { cls := .type "range_iterator", data := .fields #[rawInt 0, rawInt (n : Int), rawInt 1] } = h1 at *
  generalize (s₁.heap.objs.size : Addr) = I at *
  refine wpAny_newObj_type (wpAny_newFunctionEnv hcell (by intro y hy; simp at hy) (fun h₂ hns₂ hsb₂ => ?_) hkind)
  try dsimp only at hns₂ hsb₂ ⊢
  have hDg : (h1.push (lst [])).get? h1.objs.size = some (lst []) := Heap.get?_push_size _ rfl
  have F2 := F1.push (lst [])
  have N2 := news_push (h00 := h1) N1 (lst [])
  have hD0 : h₀.get? h1.objs.size = none := new_none (h00 := h1) F1
  have hDlt : @LT.lt Nat _ h1.objs.size (h1.push (lst [])).objs.size := Heap.lt_size hDg
  have hLD : L ≠ h1.objs.size := Nat.ne_of_lt F1.ns.lt
  have hnD : ∀ p ∈ news, p.1 ≠ h1.objs.size := fun p hp => Nat.ne_of_lt (ne_off N1 p hp)
  have hID : I ≠ h1.objs.size := Nat.ne_of_lt hilt
  have hitD : IsRangeIter (h1.push (lst [])) I 0 (n : Int) 1 := Heap.get?_push_of_some _ hit0
  obtain ⟨oX, hsb₂⟩ : ∃ oX, Heap.SameBut (h1.push (lst [])).objs.size ((h1.push (lst [])).push oX) h₂ := ⟨_, hsb₂⟩
  have hC0 : h₀.get? (h1.push (lst [])).objs.size = none := new_none (h00 := h1.push (lst [])) F2
  have hLC : L ≠ (h1.push (lst [])).objs.size := Nat.ne_of_lt F2.ns.lt
  have hnC : ∀ p ∈ news, p.1 ≠ (h1.push (lst [])).objs.size := fun p hp => Nat.ne_of_lt (ne_off N2 p hp)
  have hDC : h1.objs.size ≠ (h1.push (lst [])).objs.size := Nat.ne_of_lt hDlt
  have hIC : I ≠ (h1.push (lst [])).objs.size := Nat.ne_of_lt (Nat.lt_trans hilt hDlt)
  show codeAny _ _ (.compStart _ 0 (.ref I) (.ref h1.objs.size) (compEnvC scope cl (h1.push (lst [])).objs.size env)) (RR (.ref h1.objs.size) (h1.push (lst [])).objs.size) _
  replace F2 := F2.push oX
  replace N2 := news_push (h00 := h1.push (lst [])) N2 oX
  replace hDg : ((h1.push (lst [])).push oX).get? h1.objs.size = some (lst []) := Heap.get?_push_of_some _ hDg
  replace hitD : IsRangeIter ((h1.push (lst [])).push oX) I 0 (n : Int) 1 := Heap.get?_push_of_some _ hitD
  generalize (h1.push (lst [])).objs.size = C at *
  generalize (h1.push (lst [])).push oX = h3 at *
  generalize h1.objs.size = D at *
  clear hDlt
  obtain ⟨oC0, heC0, hoC0⟩ := ns_obj hns₂
  have F3 := F2.change hsb₂ (Ne.symm hLC) hC0
  have N3 : News h₀ L h₂ ((C, oC0) :: (D, lst []) :: news) := fun p hp => by
    rcases List.mem_cons.mp hp with rfl | hp
    · exact ⟨heC0, Ne.symm hLC, hC0⟩
    · rcases List.mem_cons.mp hp with rfl | hp
      · exact ⟨(hsb₂.2 _ hDC).trans hDg, Ne.symm hLD, hD0⟩
      · exact ⟨(hsb₂.2 _ (hnC p hp)).trans (N2 p hp).1, (N2 p hp).2⟩
  have hit3 : IsRangeIter h₂ I 0 (n : Int) 1 := (hsb₂.2 _ hIC).trans hitD
  have W := range_walks (prog := prog) (w := w) (A := A) (I := I) hh 0 n
  have loop : ∀ tk, codeAny (model prog w) A (.compLoop (.ListComp elt [⟨.Name x px, it1, [], 0⟩, ⟨.Name y py, it2, [ct], 0⟩] scope pos) 0 (.ref I) (.ref D) (compEnvC scope cl C env)) (RR (.ref D) C) ⟨h₂, s₁.gens, s₁.drawn, tk, s₁.os⟩ := by
    intro tk
    refine comp_out (fun k s' => ∃ h' tk i ys oC m₃, s' = ⟨h', s₁.gens, s₁.drawn, tk, s₁.os⟩ ∧ i ≤ n ∧ k = n + 1 - i ∧ ys.length ≤ 100 * i ∧ IsRangeIter h' I (0 + (i : Nat) * 1) ((n : Int) - (i : Nat)) 1 ∧ NsObj oC m₃ ∧ Fr h₀ L h' m ∧
      News h₀ L h' ((C, oC) :: (D, lst ys) :: news) ∧ J i ys) ?_ (n + 1) ⟨h₂, tk, 0, [], oC0, _, rfl, Nat.zero_le _, rfl, Nat.zero_le _, by simpa using hit3, hoC0, F3, N3, hJ0⟩ (by intro _; rfl) (hs2 _)
    rintro k s' ⟨h', tk', i, ys, oC, m₃, rfl, hi, rfl, hyl, hit, hC, F', N', hJ⟩
    have hneN : ∀ p ∈ (C, oC) :: (D, lst ys) :: news, p.1 ≠ I := fun p hp => by
      rcases List.mem_cons.mp hp with rfl | hp
      · exact Ne.symm hIC
      · rcases List.mem_cons.mp hp with rfl | hp
        · exact Ne.symm hID
        · exact hne2 p hp
    by_cases hlt : i < n
    · refine W.item i _ _ _ hlt hit fun v h₂ tk₂ hPv hst₂ hk₂ => ?_
      obtain ⟨t, rfl⟩ := hPv
      have F₂ : Fr h₀ L h₂ m := fr_but F' hk₂ hLI hI0
      have N₂ := news_but N' hk₂ hneN
      refine wpAny_assign_Name (wpAny_storeName_local (lookup_relabel_local hx) (hC.ns (N₂ (C, oC) (.head _)).1) (fun h₃ hn₃ hs₃ => ?_) (by simp [compEnvC, relabel, hkind]))
      obtain ⟨oC3, heC, hoC⟩ := ns_obj hn₃
      have F₃ := F₂.change hs₃ (Ne.symm hLC) hC0
      have hst₃ : IsRangeIter h₃ I (0 + ((i + 1 : Nat) : Int) * 1) ((n : Int) - ((i + 1 : Nat) : Int)) 1 := (hs₃.2 I hIC).trans hst₂
      have N₃ : News h₀ L h₃ ((I, { cls := .type "range_iterator", dict := none, data := .fields #[rawInt (0 + ((i + 1 : Nat) : Int) * 1), rawInt ((n : Int) - ((i + 1 : Nat) : Int)), rawInt 1], slots := #[] }) :: (C, oC3) :: (D, lst ys) :: news) := fun p hp => by
        rcases List.mem_cons.mp hp with rfl | hp
        · exact ⟨hst₃, Ne.symm hLI, hI0⟩
        · rcases List.mem_cons.mp hp with rfl | hp
          · exact ⟨heC, Ne.symm hLC, hC0⟩
          · rcases List.mem_cons.mp hp with rfl | hp
            · exact ⟨(hs₃.2 _ hDC).trans (N₂ _ (.tail _ (.head _))).1, Ne.symm hLD, hD0⟩
            · have z := N₂ p (.tail _ (.tail _ hp))
              exact ⟨(hs₃.2 _ (hnC p hp)).trans z.1, z.2⟩
      have offN : Off3 I C D news := Off3.of fun p hp => ⟨hne2 p hp, hnC p hp, hnD p hp⟩
      refine wpAny_mono (turn i ys I _ C oC3 D _ t h₃ _ _ hlt hJ hoC (if_pos rfl) F₃ N₃ offN ⟨hIC, hID, Ne.symm hDC⟩) (fun xv s₃ h4 => ?_) fun _ _ e => e
      obtain ⟨r2, t₁', t₂', t₃', n2, J2, rfl, hr2, hn2, h₄, tk₄, rfl, F₄, N₄, hJ20, hJ2, turn2⟩ := h4
      refine inner_all (s₁ := s₁) (B := 100 * i) hh hkind hy hxy hoC (if_pos rfl) (by omega) hn2 hyl F₄ N₄ offN ⟨hIC, hID, Ne.symm hDC⟩ hJ20 hr2 turn2 ?_
      intro zs oC5 m₅ h₅ tk₅ hJ5 hzl hC5 hm5 F₅ N₅
      exact ⟨n + 1 - (i + 1), by omega, h₅, tk₅, i + 1, zs, oC5, m₅, rfl, hlt, rfl, by omega, (N₅ _ (.head _)).1, hC5, F₅, fun p hp => N₅ p (.tail _ hp), hJ2 _ hJ5⟩
    · obtain rfl : i = n := Nat.le_antisymm hi (Nat.not_lt.mp hlt)
      refine W.done _ _ _ hit fun h₂ tk₂ hk₂ => ?_
      have F₂ : Fr h₀ L h₂ m := fr_but F' hk₂ hLI hI0
      have N₂ := news_but N' hk₂ hneN
      exact hRR D C h₂ tk₂ m₃ ys hJ F₂ (fun p hp => N₂ p (.tail _ hp)) (hC.ns (N₂ _ (.head _)).1) hC0 (Ne.symm hLC) hDC hnC (Off3.one (Off3.of (I := I) (C := C) fun p hp => ⟨hne2 p hp, hnC p hp, hnD p hp⟩))
  exact codeAny_compStart_list (loop _) (wpAny_pyIter_rangeiter hit3 (loop _))
/-- a list comprehension of two ranges and a test -/
theorem lc2_rng {elt it1 it2 ct : Expr} {x y : Str} {px py : Pos} {scope : Scope} {cl : List (Str × Addr)} {pos : Pos} {Q : Value → Shared → Prop}
    (hclos : closureFor scope env = pure cl) (hcell : ∀ y ∈ scope.names, y.2 ≠ .cell) (hkind : scope.kind = .function)
    (hnames : ∀ y ∈ scope.names, y.2 = .local → scope.names.lookup y.1 = some .local) (hx : scope.names.lookup x = some .local) (hy : scope.names.lookup y = some .local) (hxy : x ≠ y)
    (h : wpAny (model prog w) A (eval it1 env) (Src2 prog w A h₀ L m env cl scope elt it2 ct x y Q) E s)
    (hs : ∀ x, foldedSetIterable it1 env x = pure x := by intro _; rfl) (hs2 : ∀ e x, foldedSetIterable it2 e x = pure x := by intro _ _; rfl) :
    wpAny (model prog w) A (eval (.ListComp elt [⟨.Name x px, it1, [], 0⟩, ⟨.Name y py, it2, [ct], 0⟩] scope pos) env) Q E s := by
  rw [eval_ListComp]
  refine wpAny_comprehension_free (use := none) rfl hs hclos hkind hnames (wpAny_mono h (fun xv s₁ h₁ => ?_) fun _ _ e => e)
  obtain ⟨r, t₁, t₂, t₃, n, news, J, rfl, hh, F, N, hr, hn, hJ0, hfin, turn⟩ := h₁
  refine block_2 hcell hkind hx hy hxy hh F N hr hn hJ0 ?_ turn hs2
  intro D C h tk m' ys hJ F' N' hC hC0 hCL hDC hnC o1
  refine ⟨m', hC, fun h'' hs'' => hfin ys hJ D h'' tk (F'.change hs'' hCL hC0) (fun p hp => ?_) o1⟩
  refine ⟨(hs''.2 _ ?_).trans (N' p hp).1, (N' p hp).2⟩
  rcases List.mem_cons.mp hp with rfl | hp
  · exact hDC
  · exact hnC p hp
noncomputable def Src2A (prog : Program) (w : World) (A : Around) (h₀ : Heap) (L : Addr) (m : Str → Option Value) (env : Env) (cl : List (Str × Addr)) (scope : Scope) (elt it2 ct : Expr) (x y z : Str) (Q : Flow → Shared → Prop) (xv : Value) (s₁ : Shared) : Prop :=
  ∃ r t₁ t₂ t₃ n news J, xv = .ref r ∧ A.handled = none ∧ Fr h₀ L s₁.heap m ∧ News h₀ L s₁.heap news ∧ IsRange s₁.heap r 0 ((n : Nat) : Int) 1 t₁ t₂ t₃ ∧ n ≤ 100 ∧ J 0 [] ∧
      (∀ ys, J n ys → ∀ D h tk, Fr h₀ L h (fun u => if u = z then some (.ref D) else m u) → News h₀ L h ((D, lst ys) :: news) → Off1 D news → Q .next ⟨h, s₁.gens, s₁.drawn, tk, s₁.os⟩) ∧
      Turn1 prog w A h₀ L m env cl scope elt it2 ct x y s₁ news n J
/-- such a comprehension stored under a name -/
theorem assign_lc2 {elt it1 it2 ct : Expr} {x y z : Str} {px py pz : Pos} {scope : Scope} {cl : List (Str × Addr)} {pos spos : Pos} {Q : Flow → Shared → Prop} (hLe : env.locals = L)
    (hsw : swapsWith (.ListComp elt [⟨.Name x px, it1, [], 0⟩, ⟨.Name y py, it2, [ct], 0⟩] scope pos) (some (.Name z pz)) spos.line env = pure true)
    (hclos : closureFor scope env = pure cl) (hcell : ∀ y ∈ scope.names, y.2 ≠ .cell) (hkind : scope.kind = .function)
    (hnames : ∀ y ∈ scope.names, y.2 = .local → scope.names.lookup y.1 = some .local) (hx : scope.names.lookup x = some .local) (hy : scope.names.lookup y = some .local) (hxy : x ≠ y)
    (hz : env.kindOf z = some .local) (hp : (env.scope.kind == .class || (env.scope.kind == .module && env.locals != env.globals)) = false)
    (h : wpAny (model prog w) A (eval it1 env) (Src2A prog w A h₀ L m env cl scope elt it2 ct x y z Q) E s)
    (hs : ∀ x, foldedSetIterable it1 env x = pure x := by intro _; rfl) (hs2 : ∀ e x, foldedSetIterable it2 e x = pure x := by intro _ _; rfl) :
    wpAny (model prog w) A (exec (.Assign [.Name z pz] (.ListComp elt [⟨.Name x px, it1, [], 0⟩, ⟨.Name y py, it2, [ct], 0⟩] scope pos) spos) env) Q E s := by
  subst hLe
  rw [exec_Assign_Name_used _ _ _ _ hsw]
  refine wpAny_bind (wpAny_standAt (wpAny_bind ?_))
  show wpAny _ A (do let _ ← comprehension (.ListComp elt [⟨.Name x px, it1, [], 0⟩, ⟨.Name y py, it2, [ct], 0⟩] scope pos) scope env _ (newList []) false (eval it1 env) (some (assign (.Name z pz) env))) _ _ s
  refine wpAny_bind (wpAny_mono (wpAny_comprehension_free (use := some (assign (.Name z pz) env)) (Q := fun _ s' => Q .next s') rfl hs hclos hkind hnames
    (wpAny_mono h (fun xv s₁ h₁ => ?_) fun _ _ e => e)) (fun _ s' hq => wpAny_pure (wpAny_pure hq)) fun _ _ e => e)
  obtain ⟨r, t₁, t₂, t₃, n, news, J, rfl, hh, F, N, hr, hn, hJ0, hfin, turn⟩ := h₁
  refine block_2 hcell hkind hx hy hxy hh F N hr hn hJ0 ?_ turn hs2
  intro D C h' tk m' ys hJ F' N' hC hC₀ hCL hDC offC o1
  show wpAny _ A (assign (.Name z pz) env (.ref D)) _ _ _
  refine wpAny_assign_Name (wpAny_storeName_local hz F'.ns (fun h₂ hn₂ hs₂ => ?_) hp)
  have hL₀ : h₀.get? env.locals = none := Heap.get?_none_of_le F'.above
  have F₂ : Fr h₀ env.locals h₂ (fun u => if u = z then some (.ref D) else m u) := ⟨hn₂, fun b o e => hs₂.extBut b o (fun q => by rw [q, hL₀] at e; cases e) (F'.keep b o e), F'.above⟩
  refine ⟨m', hC.sameBut hs₂ hCL, fun h'' hs'' => hfin ys hJ D h'' _ (F₂.change hs'' hCL hC₀) (fun p hp => ?_) o1⟩
  have q : h₂.get? p.1 = some p.2 := hs₂.extBut _ _ (N' p hp).2.1 (N' p hp).1
  refine ⟨hs''.extBut _ _ ?_ q, (N' p hp).2⟩
  rcases List.mem_cons.mp hp with rfl | hp
  · exact hDC
  · exact offC p hp
end
end Mine
end

section
theorem Mine.offZip : True := by
  w_top off
  trivial
open PySem PySem.W PyProof.Rows PySem.Spec PySem.Calls PyProof.Rows.LCg
set_option Elab.async false
set_option maxRecDepth 100000
set_option maxHeartbeats 1000000
namespace Mine
theorem news_cons {g h : Heap} {L : Addr} {p : Addr × Obj} {news : List (Addr × Obj)} (hp : h.get? p.1 = some p.2 ∧ p.1 ≠ L ∧ g.get? p.1 = none) (N : News g L h news) : News g L h (p :: news) := fun q hq => by
  rcases List.mem_cons.mp hq with rfl | hq
  · exact hp
  · exact N q hq
/-- a for over the zip of two lists -/
theorem for_zip {w : World} {A : Around} {R : Result → Shared → Prop} {h00 : Heap} {G00 : Array GenState} {dr : Drawn} {t00 : Nat} {os : OsState} {env : Env} {xi xc : Str} {pk pv pt : Pos} {x1 : Nat} {body : List Stmt} {g : Heap} {L z TI TO i1 i2 l1 l2 : Addr} {xs ys : Array Value}
    {m₀ : Str → Option Value} {news₀ : List (Addr × Obj)} (J : Nat → (Str → Option Value) → List (Addr × Obj) → Array GenState → Prop)
    (hh : A.handled = none) (D : ZipApart z TI TO i1 i2 l1 l2) (hxi : env.kindOf xi = some .local) (hxc : env.kindOf xc = some .local)
    (hp : (env.scope.kind == .class || (env.scope.kind == .module && env.locals != env.globals)) = false) (hL : env.locals = L)
    (hst : IsZip h00 z TI TO .none ∧ IsPair h00 TI (.ref i1) (.ref i2) ∧ (∃ a b, IsPair h00 TO a b) ∧ h00.IsListIter i1 l1 0 ∧ h00.IsListIter i2 l2 0 ∧ h00.IsList l1 xs ∧ h00.IsList l2 ys)
    (hnew : ∀ b ∈ [z, TI, TO, i1, i2, l1, l2], b ≠ L ∧ g.get? b = none) (F : Fr g L h00 m₀) (N : News g L h00 news₀) (hn : ∀ p ∈ news₀, ∀ b ∈ [z, TI, TO, i1, i2, l1, l2], p.1 ≠ b) (hJ : J 0 m₀ news₀ G00)
    (turn : ∀ i v0 v1 m news h tk G oz oTI oTO o1 o2 ol1 ol2, xs[i]? = some v0 → ys[i]? = some v1 → J i m news G → (∀ p ∈ news, ∀ b ∈ [z, TI, TO, i1, i2, l1, l2], p.1 ≠ b) →
      Fr g L h (fun y => if y = xc then some v1 else if y = xi then some v0 else m y) → News g L h ((z, oz) :: (TI, oTI) :: (TO, oTO) :: (i1, o1) :: (i2, o2) :: (l1, ol1) :: (l2, ol2) :: news) →
      ∀ Qv Ev, (∀ s', TurnEnd g L dr os [(z, oz), (TI, oTI), (TO, oTO), (i1, o1), (i2, o2), (l1, ol1), (l2, ol2)] (J (i + 1)) s' → Qv .next s' ∧ Qv .cont s') → (∀ v s', R (.ok (.ret v)) s' → Qv (.ret v) s') → wpAny (model PySem.Challenge.rw_re0075_01.row.toRowW.prog w) A (execs body env) Qv Ev ⟨h, G, dr, tk, os⟩)
    (done : ∀ m news h tk G, J (min xs.size ys.size) m news G → Fr g L h m → News g L h news → R (.ok .next) ⟨h, G, dr, tk, os⟩) :
    codeAny (model PySem.Challenge.rw_re0075_01.row.toRowW.prog w) A (.forLoop (.Tuple [.Name xi pk, .Name xc pv] x1 pt) (.ref z) body [] env) R ⟨h00, G00, dr, t00, os⟩ := by
  subst hL
  have W := WalksT.zip2 (prog := PySem.Challenge.rw_re0075_01.row.toRowW.prog) (w := w) (A := A) hh z TI TO i1 i2 l1 l2 D xs ys
  have hLw : env.locals ∉ [z, TO, i1, i2] := fun h => (hnew _ (W.sub _ h)).1 rfl
  have hLf : env.locals ∉ [z, TI, TO, i1, i2, l1, l2] := fun h => (hnew _ h).1 rfl
  have old : ∀ b o, g.get? b = some o → b ∉ [z, TO, i1, i2] := fun b o e hb => by rw [(hnew b (W.sub _ hb)).2] at e; cases e
  refine codeAny_forLoop_any
    (fun k s' => ∃ h' tk m' news' G i, s' = ⟨h', G, dr, tk, os⟩ ∧ (IsZip h' z TI TO .none ∧ IsPair h' TI (.ref i1) (.ref i2) ∧ (∃ a b, IsPair h' TO a b) ∧ h'.IsListIter i1 l1 i ∧ h'.IsListIter i2 l2 i ∧ h'.IsList l1 xs ∧ h'.IsList l2 ys) ∧
      Fr g env.locals h' m' ∧ News g env.locals h' news' ∧ (∀ p ∈ news', ∀ b ∈ [z, TI, TO, i1, i2, l1, l2], p.1 ≠ b) ∧ J i m' news' G ∧ i ≤ min xs.size ys.size ∧ k = min xs.size ys.size + 1 - i) ?_ (min xs.size ys.size + 1)
    ⟨h00, t00, m₀, news₀, G00, 0, rfl, hst, F, N, hn, hJ, Nat.zero_le _, rfl⟩
  rintro k s' ⟨H, tk, m', news', G, i, rfl, hst', F', N', hn', hJ', hi, rfl⟩
  have next : ∀ h₁ : Heap, (∀ b o, b ∉ [z, TO, i1, i2] → H.get? b = some o → h₁.get? b = some o) → Fr g env.locals h₁ m' ∧ News g env.locals h₁ news' := fun h₁ hk₁ =>
    ⟨⟨F'.ns.at' fun o e => hk₁ _ o hLw e, fun b o e => hk₁ b o (old b o e) (F'.keep b o e), F'.above⟩, fun p hp => ⟨hk₁ _ _ (fun hb => hn' p hp _ (W.sub _ hb) rfl) (N' p hp).1, (N' p hp).2⟩⟩
  by_cases hlt : i < min xs.size ys.size
  · refine W.item i _ _ _ hlt hst' fun T vals h₁ tk₁ hPt _ hT hMid hk₁ => ?_
    obtain ⟨v0, v1, hv0, hv1, rfl⟩ := hPt
    refine W.go _ x1 pt i T _ _ _ hMid fun h₂ hst₂ hk₂ => ?_
    have ht₂ : h₂.IsTuple T #[v0, v1] := hT.at fun o e => hk₂ T o (W.apart i T h₁ hMid) e
    refine wpAny_assign_Tuple hh ht₂ rfl rfl fun h₃ hx₃ => ?_
    replace hx₃ : Heap.ExtBut h₂.objs.size h₂ h₃ := hx₃
    have up₃ : ∀ b o, h₂.get? b = some o → h₃.get? b = some o := fun b o x => hx₃ b o (Nat.ne_of_lt (Heap.lt_size x)) x
    obtain ⟨F₃, N₃⟩ := next h₃ fun b o hb x => up₃ b o (hk₂ b o hb (hk₁ b o hb x))
    show wpAny _ A (do holding [v1] (assign (.Name xi pk) env v0); do holding [] (assign (.Name xc pv) env v1); pure ()) _ _ _
    refine wpAny_bind (wpAny_holding (wpAny_assign_Name (wpAny_storeName_local hxi F₃.ns (fun h₄ hn₄ hs₄ => ?_) hp)))
    replace hs₄ : Heap.SameBut env.locals h₃ h₄ := hs₄
    have F₄ := F₃.set hn₄ hs₄
    refine wpAny_bind (wpAny_holding (wpAny_assign_Name (wpAny_storeName_local hxc F₄.ns (fun h₅ hn₅ hs₅ => wpAny_pure ?_) hp)))
    replace hs₅ : Heap.SameBut env.locals h₄ h₅ := hs₅
    have F₅ := F₄.set hn₅ hs₅
    have N₅ : News g env.locals h₅ news' := (N₃.set hs₄).set hs₅
    have hst₅ := W.frame _ _ h₅ hst₂ fun b hb o e => hs₅.extBut b o (fun q => hLf (q ▸ hb)) (hs₄.extBut b o (fun q => hLf (q ▸ hb)) (up₃ b o e))
    obtain ⟨e1, e2, ⟨a3, b3, e3⟩, ⟨o4, e4, r4⟩, ⟨o5, e5, r5⟩, ⟨o6, e6, r6⟩, ⟨o7, e7, r7⟩⟩ := id hst₅
    have N₆ : News g env.locals h₅ ((z, _) :: (TI, _) :: (TO, _) :: (i1, o4) :: (i2, o5) :: (l1, o6) :: (l2, o7) :: news') := news_cons ⟨e1, hnew _ (by simp)⟩ (news_cons ⟨e2, hnew _ (by simp)⟩ (news_cons ⟨e3, hnew _ (by simp)⟩ (news_cons ⟨e4, hnew _ (by simp)⟩ (news_cons ⟨e5, hnew _ (by simp)⟩ (news_cons ⟨e6, hnew _ (by simp)⟩ (news_cons ⟨e7, hnew _ (by simp)⟩ N₅))))))
    refine wpAny_mono (turn i v0 v1 m' news' h₅ _ G _ _ _ o4 o5 o6 o7 hv0 hv1 hJ' hn' F₅ N₆ (fun f s' => match f with
      | .next | .cont => TurnEnd g env.locals dr os [(z, _), (TI, _), (TO, _), (i1, o4), (i2, o5), (l1, o6), (l2, o7)] (J (i + 1)) s'
      | .brk => R (.ok .next) s'
      | .ret v => R (.ok (.ret v)) s') _ (fun _ h => ⟨h, h⟩) (fun _ _ h => h)) (fun f s₃ h₆ => ?_) fun _ _ e => e
    have fin : ∀ {oz oTI oTO}, IsZip h₅ z TI TO .none → h₅.get? z = some oz → h₅.get? TI = some oTI → h₅.get? TO = some oTO → TurnEnd g env.locals dr os [(z, oz), (TI, oTI), (TO, oTO), (i1, o4), (i2, o5), (l1, o6), (l2, o7)] (J (i + 1)) s₃ →
        ∃ k', k' < min xs.size ys.size + 1 - i ∧ ∃ h' tk m' news' G i, s₃ = ⟨h', G, dr, tk, os⟩ ∧ (IsZip h' z TI TO .none ∧ IsPair h' TI (.ref i1) (.ref i2) ∧ (∃ a b, IsPair h' TO a b) ∧ h'.IsListIter i1 l1 i ∧ h'.IsListIter i2 l2 i ∧ h'.IsList l1 xs ∧ h'.IsList l2 ys) ∧
      Fr g env.locals h' m' ∧ News g env.locals h' news' ∧ (∀ p ∈ news', ∀ b ∈ [z, TI, TO, i1, i2, l1, l2], p.1 ≠ b) ∧ J i m' news' G ∧ i ≤ min xs.size ys.size ∧ k' = min xs.size ys.size + 1 - i := by
      rintro oz oTI oTO _ g1 g2 g3 ⟨m₇, news₇, h₇, tk₇, G₇, rfl, F₇, N₇, hn₇, hJ₇⟩
      refine ⟨min xs.size ys.size + 1 - (i + 1), by omega, h₇, tk₇, m₇, news₇, G₇, i + 1, rfl, ?_, F₇, fun p hp => N₇ p (List.mem_append_right _ hp), ?_, hJ₇, hlt, rfl⟩
      · refine W.frame _ _ _ hst₅ fun b hb o e => ?_
        simp only [List.mem_cons, List.not_mem_nil, or_false] at hb
        rcases hb with rfl | rfl | rfl | rfl | rfl | rfl | rfl
        · rw [g1] at e; cases e; exact (N₇ _ (.head _)).1
        · rw [g2] at e; cases e; exact (N₇ _ (.tail _ (.head _))).1
        · rw [g3] at e; cases e; exact (N₇ _ (.tail _ (.tail _ (.head _)))).1
        · rw [e4] at e; cases e; exact (N₇ _ (.tail _ (.tail _ (.tail _ (.head _))))).1
        · rw [e5] at e; cases e; exact (N₇ _ (.tail _ (.tail _ (.tail _ (.tail _ (.head _)))))).1
        · rw [e6] at e; cases e; exact (N₇ _ (.tail _ (.tail _ (.tail _ (.tail _ (.tail _ (.head _))))))).1
        · rw [e7] at e; cases e; exact (N₇ _ (.tail _ (.tail _ (.tail _ (.tail _ (.tail _ (.tail _ (.head _)))))))).1
      · intro p hp b hb
        simp only [List.mem_cons, List.not_mem_nil, or_false] at hb
        rcases hb with rfl | rfl | rfl | rfl | rfl | rfl | rfl
        · exact hn₇ p hp _ (.head _)
        · exact hn₇ p hp _ (.tail _ (.head _))
        · exact hn₇ p hp _ (.tail _ (.tail _ (.head _)))
        · exact hn₇ p hp _ (.tail _ (.tail _ (.tail _ (.head _))))
        · exact hn₇ p hp _ (.tail _ (.tail _ (.tail _ (.tail _ (.head _)))))
        · exact hn₇ p hp _ (.tail _ (.tail _ (.tail _ (.tail _ (.tail _ (.head _))))))
        · exact hn₇ p hp _ (.tail _ (.tail _ (.tail _ (.tail _ (.tail _ (.tail _ (.head _)))))))
    cases f with
    | ret v => exact h₆
    | brk => exact h₆
    | cont => exact fin e1 e1 e2 e3 h₆
    | next => exact fin e1 e1 e2 e3 h₆
  · have hin : i = min xs.size ys.size := by omega
    subst hin
    refine W.done _ _ _ hst' fun h₁ tk₁ hk₁ => wpAny_execs_nil ?_
    obtain ⟨F₁, N₁⟩ := next h₁ hk₁
    exact done m' news' h₁ tk₁ G hJ' F₁ N₁
end Mine
end

section
theorem Mine.offPlg : True := by
  w_top off
  trivial
open PySem PySem.W PyProof.Rows PySem.Spec PySem.Calls PyProof.Rows.LCg
set_option Elab.async false
set_option maxRecDepth 100000
set_option maxHeartbeats 2000000
namespace Mine
set_option pp.deepTerms false
set_option pp.maxSteps 6000
noncomputable abbrev gh93 (h : Heap) : Heap := ghostOf h [(97, 93)]
noncomputable def LawSpec : Prop := ∀ (w : World) (vp : Program) (vl : List Str) (mean : ExcName → Option Value) (mg mb : Str → Option Value) (s : Shared) (sl : Addr) (vs : List Value) (ns : List Int), (hd.heap_1 w.params).In (gh93 s.heap) → Top vp vl mean mg mb (gh93 s.heap) →
  CodeHd (gh93 s.heap) 97 93 → s.heap.get? 93 = some (tabObj #[]) → AllBare s.gens → (gh93 s.heap).IsList sl vs.toArray → IntsAre vs ns → ns.length ≤ 63 →
  codeAny (model PySem.Challenge.rw_re0075_01.row.toRowW.prog w) callerA (.call (.ref 146) ⟨[.ref sl], []⟩) (fun r s' => r = .ok (.ret (.bool true)) ∧ Kept (gh93 s.heap) s'.heap ∧ GrownAt 93 s'.heap ∧ s'.os = s.os ∧ AllBare s'.gens) s
theorem law_end {cw : ClaimW} {cl : Str → Option Addr} {mean : ExcName → Option Value} {args : List WData} {s₁ : Shared} {r : Result} {s' : Shared} (hT : TabsAt [(97, 93)] s₁.heap) (hr : ∀ x, cw.raises args x = false) (hp : cw.post args (.bool true) args = true)
    (h : r = .ok (.ret (.bool true)) ∧ Kept (gh93 s₁.heap) s'.heap ∧ GrownAt 93 s'.heap ∧ s'.os = s₁.os ∧ AllBare s'.gens) : GoodWG cw cl mean args s₁ r s' := by
  obtain ⟨rfl, hk, hg, hos, hb⟩ := h
  have keep : ∀ b o, b ≠ 93 → s₁.heap.get? b = some o → s'.heap.get? b = some o := fun b o hb e => hk b o (ghost_ne e (fun q => hb (List.mem_singleton.mp q)))
  have grown : ∀ o, s₁.heap.get? 93 = some o → isCodeTable s₁.heap 93 ∧ o = tabObj #[] ∧ ∃ ps, s'.heap.get? 93 = some (tabObj ps) := fun o e => by
    have e2 := (hT (97, 93) (.head _)).2
    dsimp only at e2
    rw [e] at e2
    exact ⟨((hT (97, 93) (.head _)).1.tab (hT (97, 93) (.head _)).2).isCodeTable, Option.some.inj e2, hg⟩
  refine ⟨.inl ⟨_, _, [], rfl, hr, .bool true, hp, fun _ => ⟨.nil, fun _ ha => nomatch ha⟩⟩, ⟨fun b o e => ?_, fun b o e => ?_⟩, hos, hb⟩
  · by_cases hb : b = 93
    · subst hb
      obtain ⟨ht, rfl, ps, hP⟩ := grown o e
      exact .inr (.inl ⟨ht, rfl, #[], ps, rfl, by rw [Array.empty_append]; exact hP⟩)
    · exact .inl (keep b o hb e)
  · by_cases hb : b = 93
    · subst hb
      obtain ⟨_, _, ps, hP⟩ := grown o e
      exact ⟨_, hP⟩
    · exact ⟨o, keep b o hb e⟩
theorem law_plug (law_spec : LawSpec) : PySem.Challenge.rw_re0075_01.Holds := hd (by
  k_fill
  intro w s₀ s₁ mg mb G Y fa o pm cd doc dV kV ho hd hcd hD hmg hg args vals as hpre hlay hrd hwl hlo
  have KX := km_in_of Y
  km_tabs Y
  have X := (Ground.X G).1
  have V := (Ground.X G).2
  refine Ground.open G ?_
  intro T B D TE TW
  try (refine guard_noD D (by decide +kernel) ?_; clear D)
  km_lay T hmg ho hd cd
  have hfa := hmg.symm.trans (mg_of KX (Top.g T) (by k_is))
  clear hmg ho hd hcd hD
  wrow_args hpre hlay hrd hwl hlo
  all_goals (first | refine callC_kw (enter_call ?_) | refine enter_call ?_)
  cases hfa
  have hX := ghost_K hT9 KX (by kernel_rfl)
  rename IntsAre _ _ => hI
  rename Heap.IsList _ _ _ => hL
  rename ¬ _ < _ => hlen
  refine codeAny_mono (law_spec w _ _ _ _ _ s₁ _ _ _ hX (ghost_top hT9 T) ((ghost_code hT9).1) (hT8 93 (.head _)) (.of_eq hg) (ghost_list hT9 hL) hI (by omega)) fun r s' h => law_end hT9 ?_ ?_ h
  · exact fun _ => rfl
  · exact postW_of (by wrow_shape) (by wtm_val) rfl)
end Mine
end

section
theorem Mine.offLwa : True := by
  w_top off
  trivial
open PySem PySem.W PyProof.Rows PySem.Spec PySem.Calls PyProof.Rows.LCg
set_option Elab.async false
set_option maxRecDepth 100000
set_option maxHeartbeats 2000000
namespace Mine
set_option pp.deepTerms false
set_option pp.maxSteps 6000
structure FnD : Type where
  body : List Stmt
  scope : Scope
  cd : Value
  qual : Str
  name : Str
  params : Arguments
  dV : Value
  kV : Value
  doc : Value
  pm : Value
  ct : Value
  oc : Value
  an : Option Addr
  od : Option Addr
  osl : Array (Option Value)
noncomputable abbrev FnD.is (d : FnD) (K : Frag) (a : Addr) : Prop := K.lookup a = some ⟨d.oc, d.od, .func (fnOf d.name d.qual d.params d.body d.scope d.dV d.kV d.doc d.pm d.an d.cd d.ct), d.osl⟩
theorem fnd_of {K : Frag} {a : Addr} {name qual : Str} {params : Arguments} {body : List Stmt} {scope : Scope} {dV kV doc pm cdv ct oc : Value} {an od : Option Addr} {osl : Array (Option Value)}
   (h : K.lookup a = some ⟨oc, od, .func (fnOf name qual params body scope dV kV doc pm an cdv ct), osl⟩) : FnD.is ⟨body, scope, cdv, qual, name, params, dV, kV, doc, pm, ct, oc, an, od, osl⟩ K a := h
noncomputable def lawX (P : Params) : { d : FnD // d.is (hd.heap_1 P) 146 ∧ PySem.Challenge.rw_re0075_01 = PySem.Challenge.rw_re0075_01 } := by
  k_fill
  refine' ⟨_, fnd_of ?k, rfl⟩
  case k => k_is
noncomputable abbrev lbody (w : World) (k : Nat) : List Stmt := (lawX w.params).1.body.drop k
noncomputable abbrev lenv (w : World) (L : Addr) : Env := envOfC (lawX w.params).1.qual (lawX w.params).1.scope L 146 (lawX w.params).1.cd
noncomputable abbrev LQ (R : Result → Shared → Prop) : Flow → Shared → Prop := fun fl s' => R (.ok (.ret (match fl with | .ret v => v | _ => .none))) s'
/-- the rest of the law from statement k on -/
noncomputable def LRest (w : World) (A : Around) (L : Addr) (R : Result → Shared → Prop) (k : Nat) (s : Shared) : Prop :=
  wpAny (model PySem.Challenge.rw_re0075_01.row.toRowW.prog w) (A.deeper (lenv w L)) (execs (lbody w k) (lenv w L)) (LQ R) (fun _ _ => False) s
noncomputable abbrev lcells (L : Addr) (oX oW oD oR oP oC : Obj) : List (Addr × Obj) :=
  [(L + 1 + 1 + 1 + 1 + 1 + 1, oX), (L + 1 + 1 + 1 + 1 + 1, oW), (L + 1 + 1 + 1 + 1, oD), (L + 1 + 1 + 1, oR), (L + 1 + 1, oP), (L + 1, oC)]
noncomputable abbrev Ne8 (L a : Nat) : Prop := (L + 1 + 1 + 1 + 1 + 1 + 1 ≠ a) ∧ (L + 1 + 1 + 1 + 1 + 1 ≠ a) ∧ (L + 1 + 1 + 1 + 1 ≠ a) ∧ (L + 1 + 1 + 1 ≠ a) ∧ (L + 1 + 1 ≠ a) ∧ (L + 1 ≠ a) ∧ 93 ≠ a
theorem cells3 (ns : List Int) : ∃ c0 c1 c2 : Int, (ns.take 3).map (fun k => k.fmod 5000) ++ ([27, 57, 0] : List Int).drop ((ns.length : Int)).toNat = [c0, c1, c2] ∧ (0 ≤ c0 ∧ c0 < 5000) ∧ (0 ≤ c1 ∧ c1 < 5000) ∧ (0 ≤ c2 ∧ c2 < 5000) := by
  have key : ∀ k : Int, 0 ≤ k.fmod 5000 ∧ k.fmod 5000 < 5000 := fun k => ⟨Int.fmod_nonneg_of_pos _ (by decide), Int.fmod_lt_of_pos _ (by decide)⟩
  rcases ns with _ | ⟨a, _ | ⟨b, _ | ⟨c, r⟩⟩⟩
  · exact ⟨27, 57, 0, rfl, by decide, by decide, by decide⟩
  · exact ⟨a.fmod 5000, 57, 0, rfl, key a, by decide, by decide⟩
  · exact ⟨a.fmod 5000, b.fmod 5000, 0, rfl, key a, key b, by decide⟩
  · refine ⟨a.fmod 5000, b.fmod 5000, c.fmod 5000, ?_, key a, key b, key c⟩
    have e : ([27, 57, 0] : List Int).drop (((a :: b :: c :: r).length : Int)).toNat = [] := by
      refine List.drop_of_length_le ?_
      show 3 ≤ _
      rw [Int.toNat_natCast]
      exact Nat.le_add_left 3 r.length
    rw [e]
    rfl
theorem ifexp_split {M : Model} {A : Around} {e : Expr} {env : Env} {Q : Value → Shared → Prop} {E : Value → Shared → Prop} {s : Shared} (P : Shared → Prop)
    (walk : ∀ Q' : Value → Shared → Prop, (∀ (p : Nat) t s', (p = 4 ∨ p = 6) → P s' → Q' (.int (p : Int) t) s') → wpAny M A (eval e env) Q' E s)
    (h : ∀ (p : Nat) t s', (p = 4 ∨ p = 6) → P s' → Q (.int (p : Int) t) s') : wpAny M A (eval e env) Q E s := walk Q h
end Mine
end

section
theorem Mine.offEqs : True := by
  w_top off
  trivial
open PySem PySem.W PyProof.Rows PySem.Spec PySem.Calls PyProof.Rows.LCg PySem.SeqAt
set_option Elab.async false
set_option maxRecDepth 100000
set_option maxHeartbeats 2000000
namespace Mine
theorem rdAll_strs {h : Heap} : ∀ {vs : List Value} {ss : List Str}, StrsAre vs ss → ReadsAll h vs (ss.map PyData.str) []
  | _, _, .nil => .nil
  | _, _, .cons k t r => by
    have := ReadsAll.cons (Reads.str (h := h) k t) (rdAll_strs (h := h) r)
    simpa using this
theorem rd_strs {h : Heap} {a : Addr} {vs : List Value} {ss : List Str} (hl : h.IsList a vs.toArray) (hi : StrsAre vs ss) : Reads h (.ref a) (.list (ss.map PyData.str)) [a] := by
  obtain ⟨o, ho, hc, n, hd⟩ := hl
  exact Reads.list ho hc hd (by simpa using rdAll_strs hi)
theorem canLay_strs : ∀ ss : List Str, (∀ y ∈ ss, PyData.strOk y = true) → PyData.canLayAll0 (ss.map PyData.str) = true
  | [], _ => by simp [PyData.canLayAll0]
  | n :: r, h => by
    have h1 := h n (.head _)
    have h2 := canLay_strs r fun y hy => h y (.tail _ hy)
    simp [PyData.canLayAll0, PyData.canLay0, h1, h2]
theorem depth_strs : ∀ ss : List Str, PyData.depthAll (ss.map PyData.str) ≤ 1
  | [] => by simp [PyData.depthAll]
  | n :: r => by
    have := depth_strs r
    simp only [List.map_cons, PyData.depthAll, PyData.depth]
    omega
theorem shaped_strs (ss : List Str) (hk : ∀ y ∈ ss, PyData.strOk y = true) : shaped (.list (ss.map PyData.str)) = true := by
  have h1 := depth_strs ss
  have h2 : PyData.depth (.list (ss.map PyData.str)) ≤ 64 := by simp only [PyData.depth]; omega
  show (PyData.canLay0 (.list (ss.map PyData.str)) && decide (PyData.depth (.list (ss.map PyData.str)) ≤ 64)) = true
  rw [Bool.and_eq_true]
  exact ⟨by simp only [PyData.canLay0]; exact canLay_strs ss hk, decide_eq_true h2⟩
theorem noMix_strs : ∀ ss ms : List Str, noMixAll (ss.map PyData.str) (ms.map PyData.str) = true
  | [], [] => by simp [noMixAll]
  | [], _ :: _ => by simp [noMixAll]
  | _ :: _, [] => by simp [noMixAll]
  | _ :: r, _ :: q => by simp [noMixAll, noMix, noMix_strs r q]
theorem same_strs : ∀ ss : List Str, PySem.Spec.sameAll (ss.map PyData.str) (ss.map PyData.str) = true
  | [] => by simp [PySem.Spec.sameAll]
  | n :: r => by simp [PySem.Spec.sameAll, PySem.Spec.same, same_strs r]
theorem ne_strsK {prog : Program} {w : World} {A : Around} {E : Value → Shared → Prop} {s : Shared} {a b : Addr} {vs us : List Value} {ss : List Str} {Q : Value → Shared → Prop} (hl : s.heap.IsList a vs.toArray) (hi : StrsAre vs ss) (hl' : s.heap.IsList b us.toArray) (hi' : StrsAre us ss) (hk : ∀ y ∈ ss, PyData.strOk y = true) (hu : A.units + 64 < cLine)
    (h : Q (.bool false) s) : wpAny (model prog w) A (compareOp .NotEq (.ref a) (.ref b)) Q E s :=
  ne_dataH_same (rd_strs hl hi) (rd_strs hl' hi') (shaped_strs ss hk) (shaped_strs ss hk) hu (by simp only [noMix]; exact noMix_strs ss ss) (by simp only [PySem.Spec.same]; rw [same_strs]; exact h)
end Mine
end

section
theorem Mine.offLw1 : True := by
  w_top off
  trivial
local macro_rules | `(tactic| walk_at "none such") => `(tactic| fail)
open PySem PySem.W PyProof.Rows PySem.Spec PySem.Calls PyProof.Rows.LCg
set_option Elab.async false
set_option maxRecDepth 100000
set_option maxHeartbeats 2000000
namespace Mine
set_option pp.deepTerms false
set_option pp.maxSteps 6000
theorem cells_six {cm : Str → Option Value} {n1 n2 n3 n4 n5 n6 : Str} {c1 c2 c3 c4 c5 c6 : Addr} {cells : List (Addr × Obj)} (x : CellsAre cm [(n1, c1), (n2, c2), (n3, c3), (n4, c4), (n5, c5), (n6, c6)] cells) :
    ∃ o1 o2 o3 o4 o5 o6, cells = [(c1, o1), (c2, o2), (c3, o3), (c4, o4), (c5, o5), (c6, o6)] ∧ o1.data = .cell (cm n1) ∧ o2.data = .cell (cm n2) ∧ o3.data = .cell (cm n3) ∧ o4.data = .cell (cm n4) ∧ o5.data = .cell (cm n5) ∧ o6.data = .cell (cm n6) := by
  cases x with | cons h1 r => cases r with | cons h2 r => obtain ⟨o3, o4, o5, o6, rfl, h3, h4, h5, h6⟩ := r.four; exact ⟨_, _, o3, o4, o5, o6, rfl, h1, h2, h3, h4, h5, h6⟩
local macro_rules | `(tactic| walk_at "subscriptTail") => `(tactic| (k_here; (with_reducible show wpAny _ _ (subscriptTail (PySem.Expr.List _ _) (PySem.Expr.Slice _ _ none _) (Value.ref _) (Value.ref _)) _ _ _); k_dflt (refine kba_turn (value' := PySem.Expr.Name (PySem.Str.ofString "_") ⟨0, 0, 0, 0⟩) (fun _ => rfl) ?_); k_dflt (refine' kmk_slice_ints ?F ?N ?l ?p ?q ?i ?m ?c ?_ ?s ?t ?z; (case F => k_asm); (case N => k_asm); (case l => kmk_list); (case p => kmk_part); (case q => kmk_part); (case i => exact .cons _ _ (.cons _ _ (.cons _ _ .nil))); (case m => exact kmk_from (.cons _ _ (.cons _ _ (.cons _ _ .nil))) (by kmk_sign)); (case c => kmk_len); (case s => with_unfolding_all rfl); (case t => kmk_pure); (case z => exact kmk_sz (.cons _ _ (.cons _ _ (.cons _ _ .nil))) (by decide))); intro D' ws' h' F' N' l1 hI' hC' hL'; (try k_lt l1); (try k_sweep)))
local macro_rules | `(tactic| walk_at "execs cons") => `(tactic| with_reducible refine st_as (PySem.Str.ofString "row") ?_)
local macro_rules | `(tactic| walk_at "eval IfExp") => `(tactic| refine Stop.out ?_)
theorem law_1 {w : World} {vp : Program} {vl : List Str} {mean : ExcName → Option Value} {mg mb : Str → Option Value} {A : Around} {s : Shared} {g : Heap} {sl : Addr} {vs : List Value} {ns : List Int} {R : Result → Shared → Prop} (hh : A.handled = none) (hdp : A.depth + 80 < recursionLimit) (hun : A.units + 1000 < cLine)
    (KX : (hd.heap_1 w.params).In g) (T : Top vp vl mean mg mb g) (hgs : Kept g s.heap) (hgz : g.objs.size ≤ s.heap.objs.size) (h93 : s.heap.get? 93 = some (tabObj #[])) (hg93 : g.get? 93 = none) (hL : g.IsList sl vs.toArray) (hI : IntsAre vs ns) (hlen : ns.length ≤ 63)
    (hQ : ∀ h' tk (Dc : Nat) cvs kc c0 c1 c2 (p : Nat) tp oX oW oD oR oP oC, oX.data = .cell none → oW.data = .cell none → oD.data = .cell none → oR.data = .cell none → oP.data = .cell (some (.int (p : Int) tp)) → oC.data = .cell (some (.ref Dc)) → IntsAre cvs [c0, c1, c2] →
      (0 ≤ c0 ∧ c0 < 5000) → (0 ≤ c1 ∧ c1 < 5000) → (0 ≤ c2 ∧ c2 < 5000) → (p = 4 ∨ p = 6) → Fr g s.heap.objs.size h' (fun nm => if nm = Str.ofString "script" then some (.ref sl) else none) → News g s.heap.objs.size h' ((Dc, W.listOf cvs.toArray kc) :: lcells s.heap.objs.size oX oW oD oR oP oC ++ [(93, tabObj #[])]) →
      @LT.lt Nat _ (s.heap.objs.size + 6) Dc → @LT.lt Nat _ 93 s.heap.objs.size → LRest w A s.heap.objs.size R 2 ⟨h', s.gens, s.drawn, tk, s.os⟩) :
    codeAny (model PySem.Challenge.rw_re0075_01.row.toRowW.prog w) A (.call (.ref 146) ⟨[.ref sl], []⟩) R s := by
  obtain ⟨_, dp, fr, gd, un⟩ := A; cases hh; dsimp only at hdp hun; revert KX; k_fill; intro KX
  k_dflt (refine' entC [(Str.ofString "script", .ref sl)] [(93, tabObj #[])] KX T hgs hgz (fun p hp => by rw [List.mem_singleton.mp hp]; exact ⟨h93, hg93⟩) ?k6 ?k7 ?k8 ?k9 ?kA ?kB ?_ ?c2 ?c3 ?c4; (case k6 => k_is); (case k7 => k_is); (case k8 => (dsimp only; omega)); (case k9 => exact rfl); (case kB => decide); (case kA => (intro n y hy; rw [List.mem_singleton.mp hy]; exact .inl rfl)); (case c2 => exact rfl); (case c3 => exact rfl); (case c4 => exact rfl); k_whole)
  intro h1 tk cells F1 N1 Y1
  replace F1 : Fr g s.heap.objs.size h1 (fun nm => if nm = Str.ofString "script" then some (.ref sl) else none) := F1
  obtain ⟨o1, o2, o3, o4, o5, o6, rfl, ho1, ho2, ho3, ho4, ho5, ho6⟩ := cells_six Y1
  clear Y1
  replace ho1 : o1.data = .cell none := ho1
  replace ho2 : o2.data = .cell none := ho2
  replace ho3 : o3.data = .cell none := ho3
  replace ho4 : o4.data = .cell none := ho4
  replace ho5 : o5.data = .cell none := ho5
  replace ho6 : o6.data = .cell none := ho6
  have l93 : @LT.lt Nat _ 93 s.heap.objs.size := Heap.lt_size h93
  dsimp only [List.cons_append, List.nil_append] at N1
  (try dsimp only)
  (try k_fold)
  k_steps
  refine Stop.go ?_
  rename IntsAre _ (_ ++ _) => hIc
  rename Fr _ _ _ _ => F2
  rename News _ _ _ _ => N2
  rename _ ∧ _ => lt2
  rename Obj.data _ = Data.cell (some _) => hoC
  rename_i Dc cvs hA hB oC
  obtain ⟨c0, c1, c2, ec, hc0, hc1, hc2⟩ := cells3 ns
  replace hIc : IntsAre _ (List.map (fun k => k.fmod 5000) (List.take 3 ns) ++ List.drop ((ns.length : Int)).toNat [27, 57, 0]) := hIc
  rw [ec] at hIc
  have lD : @LT.lt Nat _ (s.heap.objs.size + 6) Dc := lt2.2.2.2.2.1
  replace N2 := news_sub (news := (Dc, W.listOf cvs.toArray 0) :: lcells s.heap.objs.size o1 o2 o3 o4 o5 oC ++ [(93, tabObj #[])]) N2 (by dsimp only [lcells, List.cons_append, List.nil_append]; lcg_sub)
  dsimp only [lcells, List.cons_append, List.nil_append] at N2
  clear lt2
  refine ifexp_split (fun s' => ∃ h' tk', s' = ⟨h', s.gens, s.drawn, tk', s.os⟩ ∧ Fr g s.heap.objs.size h' (fun nm => if nm = Str.ofString "script" then some (.ref sl) else none) ∧ News g s.heap.objs.size h' ((Dc, W.listOf cvs.toArray 0) :: lcells s.heap.objs.size o1 o2 o3 o4 o5 oC ++ [(93, tabObj #[])])) ?walk ?h
  case walk =>
    intro Q' hq
    refine wpAny_IfExp ?_
    k_steps
    · exact hq 6 _ _ (.inr rfl) ⟨_, _, rfl, F2, N2⟩
    · exact hq 4 _ _ (.inl rfl) ⟨_, _, rfl, F2, N2⟩
  case h =>
    clear F2 N2
    rintro p t s' hp ⟨h3, tk3, rfl, F3, N3⟩
    dsimp only [lcells, List.cons_append, List.nil_append] at N3
    dsimp only
    k_steps
    refine Stop.go ?_
    rename Fr _ _ _ _ => F4
    rename News _ _ _ _ => N4
    rename Obj.data _ = Data.cell (some (Value.int _ _)) => hoP
    exact hQ _ _ Dc cvs 0 c0 c1 c2 p t _ _ _ _ _ _ ho1 ho2 ho3 ho4 hoP hoC hIc hc0 hc1 hc2 hp F4 N4 lD l93
end Mine
end

section
theorem Mine.offLw2 : True := by
  w_top off
  trivial
local macro_rules | `(tactic| walk_at "none such") => `(tactic| fail)
local macro_rules | `(tactic| walk_at "none such") => `(tactic| fail)
local macro_rules | `(tactic| walk_at "none such") => `(tactic| fail)
local macro_rules | `(tactic| walk_at "none such") => `(tactic| fail)
local macro_rules | `(tactic| walk_at "none such") => `(tactic| fail)
open PySem PySem.W PyProof.Rows PySem.Spec PySem.Calls PyProof.Rows.LCg
set_option Elab.async false
set_option maxRecDepth 100000
set_option maxHeartbeats 2000000
namespace Mine
set_option pp.deepTerms false
set_option pp.maxSteps 6000
noncomputable def sufF (j : Int) : Str := if j = 0 then Str.ofString "" else if j = 1 then Str.ofString " " else if j = 2 then Str.ofString "\t" else Str.ofString "\n "
noncomputable def wdF (c1 : Int) (k : Nat) : Str := Txt.item (Str.ofString "abcdef") (0 + (k : Int)) ++ sufF ((c1.fdiv (4 ^ (0 + (k : Int)).toNat)).fmod 4)
theorem wdF_of {c1 : Int} {k : Nat} {j : Int} (h : (c1.fdiv (4 ^ (0 + (k : Int)).toNat)).fmod 4 = j) : wdF c1 k = Txt.item (Str.ofString "abcdef") (0 + (k : Int)) ++ sufF j := by unfold wdF; rw [h]
local macro_rules | `(tactic| walk_at "call ref") => `(tactic| refine Stop.out ?_)
local macro_rules | `(tactic| walk_at "eval ListComp") => `(tactic| refine Stop.out ?_)
local macro_rules | `(tactic| walk_at "execs cons") => `(tactic| with_reducible refine st_as (PySem.Str.ofString "page") ?_)
local macro_rules | `(tactic| walk_at "CompSrc") => `(tactic| refine Stop.out ?_)
theorem law_2 {w : World} {vp : Program} {vl : List Str} {mean : ExcName → Option Value} {mg mb : Str → Option Value} {A : Around} {s : Shared} {g : Heap} {L sl Dc : Nat} {R : Result → Shared → Prop} (hh : A.handled = none) (hdp : A.depth + 80 < recursionLimit) (hun : A.units + 1000 < cLine)
    (KX : (hd.heap_1 w.params).In g) (T : Top vp vl mean mg mb g) {cvs : List Value} {kc : Nat} {c0 c1 c2 : Int} {p : Nat} {tp : Tok} {oX oW oD oR oP oC : Obj} (hoX : oX.data = .cell none) (hoW : oW.data = .cell none) (hoD : oD.data = .cell none) (hoR : oR.data = .cell none)
    (hoP : oP.data = .cell (some (.int (p : Int) tp))) (hoC : oC.data = .cell (some (.ref Dc))) (hIc : IntsAre cvs [c0, c1, c2]) (hc0 : 0 ≤ c0 ∧ c0 < 5000) (hc1 : 0 ≤ c1 ∧ c1 < 5000) (hc2 : 0 ≤ c2 ∧ c2 < 5000) (hp : p = 4 ∨ p = 6)
    (F : Fr g L s.heap (fun nm => if nm = Str.ofString "script" then some (.ref sl) else none)) (N : News g L s.heap ((Dc, W.listOf cvs.toArray kc) :: lcells L oX oW oD oR oP oC ++ [(93, tabObj #[])])) (lD : L + 6 < Dc) (l93 : 93 < L)
    (hQ : ∀ h' tk (Dd Dw : Nat) dvs dn wvs tr oW' oD' oR', oD'.data = .cell (some (.ref Dd)) → oR'.data = .cell (some (.str (rowS c0 p (2 * p)) tr)) → oW'.data = .cell (some (.ref Dw)) → IntsAre dvs.toList (depF (rowS c0 p (2 * p)).cps.toList).1 →
      StrsAre wvs ((List.range p).map (wdF c1)) → Ne8 L Dd → Ne8 L Dw → (Dd ≠ Dw ∧ Dc ≠ Dw ∧ Dc ≠ Dd) → Fr g L h' (fun nm => if nm = Str.ofString "script" then some (.ref sl) else none) → News g L h' ((Dw, lst wvs) :: (Dd, W.listOf dvs dn) :: (Dc, W.listOf cvs.toArray kc) :: lcells L oX oW' oD' oR' oP oC ++ [(93, tabObj #[])]) →
      LRest w A L R 5 ⟨h', s.gens, s.drawn, tk, s.os⟩) :
    LRest w A L R 2 s := by
  unfold LRest
  obtain ⟨_, dp, fr, gd, un⟩ := A; cases hh; dsimp only at hdp hun; revert KX; k_fill; intro KX
  obtain ⟨h0, G0, d0, tk0, os0⟩ := s
  dsimp only at F N hQ
  dsimp only [lbody, lenv, lawX, List.drop]
  dsimp only [lcells, List.cons_append, List.nil_append] at N
  try k_fold
  have hp6 : p ≤ 6 := le6 hp
  k_steps
  refine Stop.go ?_
  rename Fr _ _ _ _ => F1
  rename News _ _ _ _ => N1
  have e0 : ([c0, c1, c2] : List Int).getD (Int.toNat 0) 0 = c0 := rfl
  rw [e0]
  refine row_spec rfl (dp_le hdp (by decide)) (un_le hun (by decide)) (KX.keeps F1.keep) (T.keeps F1.keep) hc0.1 hc0.2 hp6 ?_
  intro tr h2 tk2 hk2
  replace F1 := fr_kept F1 hk2
  replace N1 := news_kept N1 hk2
  clear hk2
  have hrl := rowS_len c0 p (2 * p)
  generalize hrw : rowS c0 p (2 * p) = rw at *
  dsimp only
  k_steps
  refine Stop.go ?_
  rename Fr _ _ _ _ => F2
  rename News _ _ _ _ => N2
  rename_i oR' hoR' tk3
  refine depths_spec rfl (dp_le hdp (by decide)) (un_le hun (by decide)) (KX.keeps F2.keep) (T.keeps F2.keep) (by show rw.length ≤ 100; omega) ?_
  intro Dd dvs dn h4 tk4 hId hDd hDn hk4
  have N4 : News g L h4 ((Dd, W.listOf dvs dn) :: _) := news_put hDd (fun q => by
    have := F2.ns.lt
    subst q
    obtain ⟨o, _, _, e, _⟩ := F2.ns
    rw [e] at hDn; cases hDn) (by
    cases q : g.get? Dd with
    | none => rfl
    | some o => have := F2.keep _ _ q; rw [hDn] at this; cases this) (news_kept N2 hk4)
  have hne4 : ∀ q ∈ [(Dc, W.listOf cvs.toArray kc), (L + 1 + 1 + 1 + 1 + 1 + 1, oX), (L + 1 + 1 + 1 + 1 + 1, oW), (L + 1 + 1 + 1 + 1, oD), (L + 1 + 1 + 1, hoR'), (L + 1 + 1, oP), (L + 1, oC), (93, tabObj #[])], @Ne Nat q.1 Dd := fun q hq e => by
    have h1 := (N2 q hq).1
    have e2 : q.1 = Dd := e
    rw [e2] at h1
    rw [h1] at hDn
    cases hDn
  simp only [List.forall_mem_cons] at hne4
  have F4 := fr_kept F2 hk4
  clear F2 N2 hDd hDn hk4
  have e4 := hne4.2.2.2.1
  dsimp only
  k_steps
  refine Stop.go ?_
  rename Fr _ _ _ _ => F5
  rename News _ _ _ _ => N5
  rename Obj.data _ = Data.cell (some (Value.ref Dd)) => hoD'
  refine LCg.ListComp_U (F₀ := F5) (by with_unfolding_all rfl) (by decide) (by rfl) (by decide) (by rfl) ?_
  k_steps
  refine Stop.go ?_
  rename IsRange _ _ _ _ _ _ _ _ => hrg
  rename Fr _ _ _ _ => F6
  rename News _ _ _ _ => N6
  revert N6 F6
  rename Fr _ _ _ _ => F5
  rename News _ _ _ _ => N5
  clear F5 N5
  intro F6 N6
  obtain ⟨hsm, hsz⟩ := range_small (a := 0) (b := (p : Int)) (n := p) (by omega) (by omega) (by omega) (by omega)
  refine LCg.CompSrc.range rfl F6 N6 hrg hsm hsz (by rw [sizeLine_eq]; omega) fun g => ?_
  refine rest_ind (n := p) (fun i ys news => news = _ ∧ StrsAre ys ((List.range i).map (wdF c1))) ?_ ?_ _ 0 _ _ (Nat.zero_add _) ⟨rfl, .nil⟩
  · rintro i ys _ hi ⟨rfl, hys⟩ v I oI C oC D m₂ h tk E' ⟨t, rfl⟩ hC hm F N off ne
    clear F6 N6
    have hi6 : i < 6 := by omega
    have hq1 : (4 : Int) ^ (0 + (i : Int)).toNat ≠ 0 := by
      have e : (0 + (i : Int)).toNat = i := by omega
      rw [e]
      have : ∀ i, i < 6 → (4 : Int) ^ i ≠ 0 := by decide
      exact this i hi6
    have hq2 : 0 < (4 : Int) ^ (0 + (i : Int)).toNat := by
      have e : (0 + (i : Int)).toNat = i := by omega
      rw [e]
      have : ∀ i, i < 6 → 0 < (4 : Int) ^ i := by decide
      exact this i hi6
    have hq3 : (4 : Int) ^ (0 + (i : Int)).toNat ≤ 1024 := by
      have e : (0 + (i : Int)).toNat = i := by omega
      rw [e]
      have : ∀ i, i < 6 → (4 : Int) ^ i ≤ 1024 := by decide
      exact this i hi6
    k_steps
    all_goals
      rename Fr _ _ _ _ => F9
      rename News _ _ _ _ => N9
      rename Int.fmod _ _ = _ => hk
      replace hk : (c1.fdiv (4 ^ (0 + (i : Int)).toNat)).fmod 4 = _ := hk
      have e := wdF_of hk
      refine ⟨_, _, _, rfl, F9, news_sub N9 (by lcg_sub), off, trivial, rfl, ?_⟩
      rw [List.range_succ, List.map_append]
      show StrsAre _ (_ ++ [wdF c1 i])
      rw [e]
      exact strs_snoc hys
  · rintro ys _ ⟨rfl, hys⟩ D h tk F N off
    clear F6 N6
    dsimp only [Off1] at off
    have e5 := hne4.2.2.1
    have e6 := off.2.2.2.1
    dsimp only
    k_steps
    refine Stop.go ?_
    rename Fr _ _ _ _ => F9
    rename News _ _ _ _ => N9
    rename Obj.data _ = Data.cell (some (Value.ref D)) => hoW'
    subst hrw
    obtain ⟨f1, f2, f3, f4, f5, f6, f7, f8, _⟩ := hne4
    obtain ⟨e1, e2, e3, e4, e5, e6, e7, e8, e9, _⟩ := off
    exact hQ _ _ Dd D dvs dn ys _ _ _ _ hoD' tk3 hoW' hId hys ⟨f2, f3, f4, f5, f6, f7, f8⟩ ⟨e3, e4, e5, e6, e7, e8, e9⟩ ⟨e1, e2, f1⟩ F9 N9
end Mine
end

section
theorem Mine.offLw3 : True := by
  w_top off
  trivial
open PySem PySem.W PyProof.Rows PySem.Spec PySem.Calls PyProof.Rows.LCg
set_option Elab.async false
set_option maxRecDepth 100000
set_option maxHeartbeats 2000000
namespace Mine
set_option pp.deepTerms false
set_option pp.maxSteps 6000
theorem wdF_len {c1 : Int} {k : Nat} (hk : k < 6) : (wdF c1 k).length ≤ 3 := by
  unfold wdF
  have h1 : (Txt.item (Str.ofString "abcdef") (0 + (k : Int))).length = 1 := by
    have : ∀ k : Nat, k < 6 → (Txt.item (Str.ofString "abcdef") (0 + (k : Int))).length = 1 := by decide
    exact this k hk
  have h2 : ∀ j, (sufF j).length ≤ 2 := by
    intro j
    unfold sufF
    split
    · decide
    · split
      · decide
      · split <;> decide
  rw [Str.length_append, h1]
  have := h2 ((c1.fdiv (4 ^ (0 + (k : Int)).toNat)).fmod 4)
  omega
theorem wordF_len (x : Str) (v : Int) : (wordF x v).length ≤ 2 * x.length + 2 := by
  have key : ∀ (f : Nat → Str), (∀ c, (f c).length ≤ 2) → (Txt.join (Str.ofString "") (x.cps.toList.map f)).length ≤ 2 * x.length := by
    intro f hf
    have h1 := StrLaws.join_length_le (Str.ofString "") (x.cps.toList.map f)
    have h2 := StrLaws.sumLen_le (x.cps.toList.map f) (B := 2) (fun y hy => by
      obtain ⟨c, _, rfl⟩ := List.mem_map.mp hy
      exact hf c)
    have h3 : (x.cps.toList.map f).length = x.length := by rw [List.length_map, Array.length_toList]; rfl
    have h4 : (Str.ofString "").length = 0 := rfl
    rw [h3] at h1 h2
    rw [h4] at h1
    rw [show Txt.join (Str.ofString "") (x.cps.toList.map f) = Str.join (Str.ofString "") (x.cps.toList.map f) from StrLaws.glued_eq_join _ _]
    omega
  have e1 : (Str.ofString "\"").length = 1 := by decide
  unfold wordF
  split
  · have := key escB (fun c => by rw [escB_len]; exact Nat.le_refl _)
    omega
  · have := key escQ escQ_len
    rw [Str.length_append, Str.length_append, e1]
    omega
theorem strs_at {vs : List Value} {ss : List Str} (h : StrsAre vs ss) : ∀ {i : Nat} {v : Value}, vs[i]? = some v → ∃ y t, v = .str y t ∧ ss[i]? = some y := by
  induction h with
  | nil => intro i v hv; cases hv
  | cons y t _ ih =>
    intro i v hv
    cases i with
    | zero => cases hv; exact ⟨y, t, rfl, rfl⟩
    | succ i => exact ih hv
noncomputable def pageF (c1 c2 : Int) (p : Nat) : Str := Txt.join (Str.ofString "\n") ((List.range p).map fun k => wordF (wdF c1 k) (c2.fmod 2))
theorem pageF_len {c1 c2 : Int} {p : Nat} (hp : p ≤ 6) : (pageF c1 c2 p).length ≤ 100 := by
  unfold pageF
  have h1 := StrLaws.join_length_le (Str.ofString "\n") ((List.range p).map fun k => wordF (wdF c1 k) (c2.fmod 2))
  have h2 := StrLaws.sumLen_le ((List.range p).map fun k => wordF (wdF c1 k) (c2.fmod 2)) (B := 8) (fun y hy => by
    obtain ⟨k, hk, rfl⟩ := List.mem_map.mp hy
    have h1 := wordF_len (wdF c1 k) (c2.fmod 2)
    have h2 := wdF_len (c1 := c1) (k := k) (by have := List.mem_range.mp hk; omega)
    omega)
  have h3 : ((List.range p).map fun k => wordF (wdF c1 k) (c2.fmod 2)).length = p := by rw [List.length_map, List.length_range]
  have h4 : (Str.ofString "\n").length = 1 := by decide
  rw [h3] at h1 h2
  rw [h4] at h1
  rw [show Txt.join (Str.ofString "\n") ((List.range p).map fun k => wordF (wdF c1 k) (c2.fmod 2)) = Str.join (Str.ofString "\n") ((List.range p).map fun k => wordF (wdF c1 k) (c2.fmod 2)) from StrLaws.glued_eq_join _ _]
  omega
local macro_rules | `(tactic| walk_at "call ref") => `(tactic| refine Stop.out ?_)
local macro_rules | `(tactic| walk_at "eval ListComp") => `(tactic| refine Stop.out ?_)
local macro_rules | `(tactic| walk_at "call builtin:str.join") => `(tactic| refine Stop.out ?_)
local macro_rules | `(tactic| walk_at "CompSrc") => `(tactic| refine Stop.out ?_)
local macro_rules | `(tactic| walk_at "execs cons") => `(tactic| with_reducible refine st_as (PySem.Str.ofString "lexer") ?_)
theorem law_3 {w : World} {vp : Program} {vl : List Str} {mean : ExcName → Option Value} {mg mb : Str → Option Value} {A : Around} {s : Shared} {g : Heap} {L sl Dc Dd Dw : Nat} {R : Result → Shared → Prop} (hh : A.handled = none) (hdp : A.depth + 80 < recursionLimit) (hun : A.units + 1000 < cLine)
    (KX : (hd.heap_1 w.params).In g) (T : Top vp vl mean mg mb g) {cvs dvs' : List Value} {dvs : Array Value} {wvs : List Value} {kc dn : Nat} {c0 c1 c2 : Int} {p : Nat} {oX oW oD oR oP oC : Obj} (hoC : oC.data = .cell (some (.ref Dc))) (hoW : oW.data = .cell (some (.ref Dw)))
    (hIc : IntsAre cvs [c0, c1, c2]) (hc2 : 0 ≤ c2 ∧ c2 < 5000) (hp : p = 4 ∨ p = 6) (hIw : StrsAre wvs ((List.range p).map (wdF c1)))
    (lD : L + 6 < Dc) (l93 : 93 < L) (n1 : Ne8 L Dd) (n2 : Ne8 L Dw) (n3 : Dd ≠ Dw ∧ Dc ≠ Dw ∧ Dc ≠ Dd)
    (F : Fr g L s.heap (fun nm => if nm = Str.ofString "script" then some (.ref sl) else none)) (N : News g L s.heap ((Dw, lst wvs) :: (Dd, W.listOf dvs dn) :: (Dc, W.listOf cvs.toArray kc) :: lcells L oX oW oD oR oP oC ++ [(93, tabObj #[])]))
    (hQ : ∀ h' tk tpg, Fr g L h' (fun nm => if nm = Str.ofString "page" then some (.str (pageF c1 c2 p) tpg) else if nm = Str.ofString "script" then some (.ref sl) else none) → News g L h' ((Dw, lst wvs) :: (Dd, W.listOf dvs dn) :: (Dc, W.listOf cvs.toArray kc) :: lcells L oX oW oD oR oP oC ++ [(93, tabObj #[])]) →
      LRest w A L R 6 ⟨h', s.gens, s.drawn, tk, s.os⟩) :
    LRest w A L R 5 s := by
  unfold LRest
  obtain ⟨_, dp, fr, gd, un⟩ := A; cases hh; dsimp only at hdp hun; revert KX; k_fill; intro KX
  obtain ⟨h0, G0, d0, tk0, os0⟩ := s
  dsimp only at F N hQ
  dsimp only [lbody, lenv, lawX, List.drop]
  dsimp only [lcells, List.cons_append, List.nil_append] at N
  try k_fold
  have hp6 : p ≤ 6 := le6 hp
  k_steps
  refine Stop.go ?_
  rename Fr _ _ _ _ => F5
  rename News _ _ _ _ => N5
  refine LCg.ListComp_U (F₀ := F5) (by with_unfolding_all rfl) (by decide) (by rfl) (by decide) (by rfl) ?_
  k_steps
  refine Stop.go ?_
  rename Fr _ _ _ _ => F6
  rename News _ _ _ _ => N6
  have hwl : wvs.length = p := by rw [hIw.length, List.length_map, List.length_range]
  refine LCg.CompSrc.ledger rfl F6 N6 (.head _) (by rw [List.size_toArray, sizeLine_eq]; omega) fun g1 => ?_
  refine rest_ind (n := wvs.toArray.size) (fun i ys news => news = _ ∧ StrsAre ys ((List.range i).map fun k => wordF (wdF c1 k) (c2.fmod 2))) ?_ ?_ _ 0 _ _ (Nat.zero_add _) ⟨rfl, .nil⟩
  · rintro i ys _ hi ⟨rfl, hys⟩ v I oI C oC D m₂ h tk E' hv hC hm F N off ne
    rw [List.size_toArray, hwl] at hi
    clear F6 N6
    obtain ⟨y, tv, rfl, hy⟩ := strs_at hIw (i := i) (v := v) (by simpa using hv)
    have hy2 : y = wdF c1 i := by
      rw [List.getElem?_map, List.getElem?_range hi] at hy
      exact (Option.some.inj hy).symm
    subst hy2
    have hwl3 := wdF_len (c1 := c1) (k := i) (by omega)
    clear hv hy
    k_steps
    refine Stop.go ?_
    rename Fr _ _ _ _ => F7
    rename News _ _ _ _ => N7
    have e2 : (([c0, c1, c2] : List Int).getD (Int.toNat 2) 0).fmod 2 = c2.fmod 2 := rfl
    rw [e2]
    refine word_spec rfl (dp_le hdp (by decide)) (un_le hun (by decide)) (KX.keeps F7.keep) (T.keeps F7.keep) (by omega) ?_
    intro t8 h8 tk8 hk8
    replace F7 := fr_kept F7 hk8
    replace N7 := news_kept N7 hk8
    refine ⟨_, _, _, rfl, F7, N7, off, .inr ⟨_, .head _, rfl, _, rfl⟩, rfl, ?_⟩
    rw [List.range_succ, List.map_append]
    exact strs_snoc hys
  · rintro ys _ ⟨rfl, hys⟩ D h tk F N off
    rw [List.size_toArray, hwl] at hys
    clear F6 N6
    dsimp only [Off1] at off
    dsimp only
    k_steps
    refine Stop.go ?_
    refine join_strs (News.isList N (.head _)) hys (by rw [List.length_map, List.length_range]; omega) (fun y hy => ?_) (by decide) ?_
    · obtain ⟨k, hk, rfl⟩ := List.mem_map.mp hy
      have h1 := wordF_len (wdF c1 k) (c2.fmod 2)
      have h2 := wdF_len (c1 := c1) (k := k) (by have := List.mem_range.mp hk; omega)
      omega
    · intro t' k'
      have ep : Txt.join (Str.ofString "\n") ((List.range p).map fun k => wordF (wdF c1 k) (c2.fmod 2)) = pageF c1 c2 p := rfl
      rw [ep]
      dsimp only
      k_steps
      refine Stop.go ?_
      rename Fr _ _ _ _ => F9
      rename News _ _ _ _ => N9
      exact hQ _ _ _ F9 (news_sub N9 (by dsimp only [lcells, List.cons_append, List.nil_append]; lcg_sub))
end Mine
end

section
theorem Mine.offLw4 : True := by
  w_top off
  trivial
local macro_rules | `(tactic| walk_at "none such") => `(tactic| fail)
local macro_rules | `(tactic| walk_at "none such") => `(tactic| fail)
local macro_rules | `(tactic| walk_at "none such") => `(tactic| fail)
local macro_rules | `(tactic| walk_at "none such") => `(tactic| fail)
local macro_rules | `(tactic| walk_at "none such") => `(tactic| fail)
local macro_rules | `(tactic| walk_at "none such") => `(tactic| fail)
open PySem PySem.W PyProof.Rows PySem.Spec PySem.Calls PyProof.Rows.LCg
set_option Elab.async false
set_option maxRecDepth 100000
set_option maxHeartbeats 2000000
namespace Mine
set_option pp.deepTerms false
set_option pp.maxSteps 6000
local macro_rules | `(tactic| walk_at "call ref") => `(tactic| refine Stop.out ?_)
local macro_rules | `(tactic| walk_at "exec Assign cons ListComp") => `(tactic| refine Stop.out ?_)
local macro_rules | `(tactic| walk_at "CompSrc") => `(tactic| refine Stop.out ?_)
local macro_rules | `(tactic| walk_at "compareOp NotEq ref ref") => `(tactic| refine Stop.out ?_)
local macro_rules | `(tactic| walk_at "execs cons") => `(tactic| with_reducible refine st_as (PySem.Str.ofString "places") ?_)
theorem strOk_app (a b : Str) (ha : PyData.strOk a = true) (hb : PyData.strOk b = true) : PyData.strOk (a ++ b) = true := by
  unfold PyData.strOk at *
  rw [Str.cps_append, Array.all_append, ha, hb]
  rfl
theorem wdF_ok {c1 : Int} {k : Nat} (hk : k < 6) : PyData.strOk (wdF c1 k) = true := by
  unfold wdF
  refine strOk_app _ _ ?_ ?_
  · have : ∀ k : Nat, k < 6 → PyData.strOk (Txt.item (Str.ofString "abcdef") (0 + (k : Int))) = true := by decide +kernel
    exact this k hk
  · unfold sufF
    split
    · decide +kernel
    · split
      · decide +kernel
      · split <;> decide +kernel
theorem n93 {a : Nat} (h : ¬ @Eq Nat a 93) : ¬ (a : Addr) ∈ ([93] : List Addr) := fun q => h (List.mem_singleton.mp q)
theorem law_4 {w : World} {vp : Program} {vl : List Str} {mean : ExcName → Option Value} {mg mb : Str → Option Value} {A : Around} {s : Shared} {g : Heap} {L sl Dc Dd Dw : Nat} {R : Result → Shared → Prop} (hh : A.handled = none) (hdp : A.depth + 80 < recursionLimit) (hun : A.units + 1000 < cLine)
    (KX : (hd.heap_1 w.params).In g) (T : Top vp vl mean mg mb g) (codeHd : CodeHd g 97 93) {cvs : List Value} {dvs : Array Value} {wvs : List Value} {kc dn : Nat} {c0 c1 c2 : Int} {p : Nat} {oX oW oD oR oP oC : Obj} (hoX : oX.data = .cell none) (hoW : oW.data = .cell (some (.ref Dw)))
    (hp : p = 4 ∨ p = 6) (hIw : StrsAre wvs ((List.range p).map (wdF c1))) {rest : Nat → List Nat} {lnn : Nat → Int} (r0 : rest 0 = (pageF c1 c2 p).cps.toList) (l0 : lnn 0 = 1) (hr : ∀ i, i < p → outF (rest i) (lnn i) = ((wdF c1 i).cps.toList, rest (i + 1), lnn (i + 1))) (rp : rest p = []) (lp : lnn p = 1 + Txt.count (pageF c1 c2 p) (Str.ofString "\n"))
    (lD : L + 6 < Dc) (l93 : 93 < L) (n1 : Ne8 L Dd) (n2 : Ne8 L Dw) (n3 : Dd ≠ Dw ∧ Dc ≠ Dw ∧ Dc ≠ Dd) {tpg : Tok}
    (F : Fr g L s.heap (fun nm => if nm = Str.ofString "page" then some (.str (pageF c1 c2 p) tpg) else if nm = Str.ofString "script" then some (.ref sl) else none)) (N : News g L s.heap ((Dw, lst wvs) :: (Dd, W.listOf dvs dn) :: (Dc, W.listOf cvs.toArray kc) :: lcells L oX oW oD oR oP oC ++ [(93, tabObj #[])]))
    (hQ : ∀ h' tk (S : LxS w (pageF c1 c2 p)) (Dh : Nat) hvs oX' ps t5 pos t6 k6 (Z : Nat), oX'.data = .cell (some (.ref S.lx)) → StrsAre hvs ((List.range p).map (wdF c1)) → pos ≤ (pageF c1 c2 p).length → (pageF c1 c2 p).cps.toList.drop pos = [] →
      (Dw < Z ∧ Dd < Z ∧ Dc < Z ∧ L + 1 + 1 + 1 + 1 + 1 + 1 < Z) → Z ≤ S.ct → Dh ∉ S.adr → (Dw ≠ Dh ∧ Dd ≠ Dh ∧ Dc ≠ Dh) → Ne8 L Dh → Fr g L h' (fun nm => if nm = Str.ofString "heard" then some (.ref Dh) else if nm = Str.ofString "page" then some (.str (pageF c1 c2 p) tpg) else if nm = Str.ofString "script" then some (.ref sl) else none) →
      News g L h' ((Dh, lst hvs) :: (Dw, lst wvs) :: (Dd, W.listOf dvs dn) :: (Dc, W.listOf cvs.toArray kc) :: lcells L oX' oW oD oR oP oC ++ ((93, tabObj ps) :: S.led (lnn p) t5 (W.listOf #[] 0) pos t6 k6)) → LRest w A L R 9 ⟨h', s.gens, s.drawn, tk, s.os⟩) :
    LRest w A L R 6 s := by
  unfold LRest
  obtain ⟨_, dp, fr, gd, un⟩ := A; cases hh; dsimp only at hdp hun; revert KX; k_fill; intro KX
  obtain ⟨h0, G0, d0, tk0, os0⟩ := s
  dsimp only at F N hQ
  dsimp only [lbody, lenv, lawX, List.drop]
  dsimp only [lcells, List.cons_append, List.nil_append] at N
  try k_fold
  have hp6 : p ≤ 6 := le6 hp
  have hxl := pageF_len (c1 := c1) (c2 := c2) hp6
  k_steps
  refine Stop.go ?_
  rename Fr _ _ _ _ => F1
  rename News _ _ _ _ => N1
  have hm93 : (93, tabObj #[]) ∈ [(Dw, lst wvs), (Dd, W.listOf dvs dn), (Dc, W.listOf cvs.toArray kc), (L + 1 + 1 + 1 + 1 + 1 + 1, oX), (L + 1 + 1 + 1 + 1 + 1, oW), (L + 1 + 1 + 1 + 1, oD), (L + 1 + 1 + 1, oR), (L + 1 + 1, oP), (L + 1, oC), (93, tabObj #[])] := by k_mem
  have h93 := N1 _ hm93
  have ha93 : ∀ b ∈ ([93] : List Addr), b ≠ L ∧ g.get? b = none := List.forall_mem_cons.mpr ⟨h93.2, List.forall_mem_nil _⟩
  have hz1 := ne_off N1
  have hzL : @LT.lt Nat _ L h0.objs.size := F1.ns.lt
  refine lexer_spec (g := hideAll h0 [93]) rfl (dp_le hdp (by decide)) (un_le hun (by decide)) (in_hide KX F1 fun b hb => (ha93 b hb).2) (T.keeps (kept_hide F1 fun b hb => (ha93 b hb).2)) hide_keep hide_size h93.1 (hideAll_none _ (.head _))
    (codeHd.keeps (kept_hide F1 fun b hb => (ha93 b hb).2)) hxl ?_
  intro h2 tk2 lx dx pb st sd rd crd al ca ct ost osd ord ocrd oca oct k1 k2 k3 k4 t5 tw t6 ps hk2 h932 NL hch hge hcl hdi hda hns hfn hread
  have F2 := fr_hide F1 hk2 ha93
  have N2 : News g L h2 [(Dw, lst wvs), (Dd, W.listOf dvs dn), (Dc, W.listOf cvs.toArray kc), (L + 1 + 1 + 1 + 1 + 1 + 1, oX), (L + 1 + 1 + 1 + 1 + 1, oW), (L + 1 + 1 + 1 + 1, oD), (L + 1 + 1 + 1, oR), (L + 1 + 1, oP), (L + 1, oC)] := news_hide (adr := [93]) (news_sub N1 (by lcg_sub)) hk2 (by
    exact List.forall_mem_cons.mpr ⟨n93 (Ne.symm n2.2.2.2.2.2.2), List.forall_mem_cons.mpr ⟨n93 (Ne.symm n1.2.2.2.2.2.2), List.forall_mem_cons.mpr ⟨n93 (a := Dc) (by omega), List.forall_mem_cons.mpr ⟨n93 (a := L + 1 + 1 + 1 + 1 + 1 + 1) (by omega), List.forall_mem_cons.mpr ⟨n93 (a := L + 1 + 1 + 1 + 1 + 1) (by omega), List.forall_mem_cons.mpr ⟨n93 (a := L + 1 + 1 + 1 + 1) (by omega), List.forall_mem_cons.mpr ⟨n93 (a := L + 1 + 1 + 1) (by omega), List.forall_mem_cons.mpr ⟨n93 (a := L + 1 + 1) (by omega), List.forall_mem_cons.mpr ⟨n93 (a := L + 1) (by omega), List.forall_mem_nil _⟩⟩⟩⟩⟩⟩⟩⟩⟩)
  have N3 : News g L h2 [(93, tabObj ps)] := news_put h932 h93.2.1 h93.2.2 News.nil
  obtain ⟨S, hS⟩ : ∃ S : LxS w (pageF c1 c2 p), S.led 1 t5 (W.listOf #[] 0) 0 t6 0 = [(lx, instObj 87 dx), (dx, lxD w k1 k2 k3 k4 1 t5 st tw pb), (pb, W.listOf #[] 0), (al, W.listOf #[.int ((0 : Nat) : Int) t6] 0), (st, ost), (sd, osd), (rd, ord), (crd, ocrd), (ca, oca), (ct, oct)] ∧ S.lx = lx ∧ S.adr = [lx, dx, pb, al, st, sd, rd, crd, ca, ct] :=
    ⟨⟨lx, dx, pb, al, st, sd, rd, crd, ca, ct, ost, osd, ord, ocrd, oca, oct, k1, k2, k3, k4, tw, hch, hcl, hdi, hda, hns, hfn, hread⟩, rfl, rfl, rfl⟩
  obtain ⟨hS1, rfl, hS2⟩ := hS
  have hSn : ∀ b ∈ S.adr, @LE.le Nat _ h0.objs.size b := by rw [hS2]; exact hge
  have N4 : News g L h2 (S.led 1 t5 (W.listOf #[] 0) 0 t6 0) := by
    intro q hq
    have hb := hSn _ (S.led_adr hq)
    rw [hS1] at hq
    refine ⟨(NL q hq).1, fun e => ?_, ?_⟩
    · have e2 : @Eq Nat q.1 L := e
      omega
    · cases e : g.get? q.1 with
      | none => rfl
      | some o =>
        have h9 : @LT.lt Nat _ q.1 h0.objs.size := Heap.lt_size (F1.keep _ _ e)
        omega
  clear NL hS1 hS2 hge hch hcl hdi hda hns hfn hread hk2
  have hSl : @LE.le Nat _ h0.objs.size S.ct := hSn _ (by unfold LxS.adr; k_mem)
  have hz2 : @LT.lt Nat _ Dw h0.objs.size ∧ @LT.lt Nat _ Dd h0.objs.size ∧ @LT.lt Nat _ Dc h0.objs.size := ⟨hz1 (Dw, lst wvs) (by k_mem), hz1 (Dd, W.listOf dvs dn) (by k_mem), hz1 (Dc, W.listOf cvs.toArray kc) (by k_mem)⟩
  have hz3 : @LT.lt Nat _ (L + 1 + 1 + 1 + 1 + 1 + 1) h0.objs.size := hz1 (L + 1 + 1 + 1 + 1 + 1 + 1, oX) (by k_mem)
  have hnO : ∀ q ∈ [(Dw, lst wvs), (Dd, W.listOf dvs dn), (Dc, W.listOf cvs.toArray kc), (L + 1 + 1 + 1 + 1 + 1 + 1, oX), (L + 1 + 1 + 1 + 1 + 1, oW), (L + 1 + 1 + 1 + 1, oD), (L + 1 + 1 + 1, oR), (L + 1 + 1, oP), (L + 1, oC), (93, tabObj #[])], q.1 ∉ S.adr := fun q hq hb => by
    have h1 : @LT.lt Nat _ q.1 h0.objs.size := hz1 q hq
    have h2 := hSn _ hb
    omega
  have N5 : News g L h2 ((Dw, lst wvs) :: (Dd, W.listOf dvs dn) :: (Dc, W.listOf cvs.toArray kc) :: (L + 1 + 1 + 1 + 1 + 1 + 1, oX) :: (L + 1 + 1 + 1 + 1 + 1, oW) :: (L + 1 + 1 + 1 + 1, oD) :: (L + 1 + 1 + 1, oR) :: (L + 1 + 1, oP) :: (L + 1, oC) :: (93, tabObj ps) :: S.led 1 t5 (W.listOf #[] 0) 0 t6 0) := by
    intro q hq
    rcases List.mem_append.mp (show q ∈ [(Dw, lst wvs), (Dd, W.listOf dvs dn), (Dc, W.listOf cvs.toArray kc), (L + 1 + 1 + 1 + 1 + 1 + 1, oX), (L + 1 + 1 + 1 + 1 + 1, oW), (L + 1 + 1 + 1 + 1, oD), (L + 1 + 1 + 1, oR), (L + 1 + 1, oP), (L + 1, oC)] ++ ((93, tabObj ps) :: S.led 1 t5 (W.listOf #[] 0) 0 t6 0) from hq) with h | h
    · exact N2 q h
    · rcases List.mem_cons.mp h with rfl | h
      · exact N3 _ (.head _)
      · exact N4 q h
  clear N1 F1 N2 N3 N4 h93 hm93 ha93 hz1 h932
  skip
  have q0 := ct10 S.nd (Nat.lt_of_lt_of_le hz3 hSl)
  generalize h0.objs.size = Z at *
  have q1 := n1.1
  have q2 := n2.1
  have q3 : @LT.lt Nat _ (L + 1 + 1 + 1 + 1 + 1 + 1) Dc := lD
  have q4 := Nat.lt_of_lt_of_le hz3 hSl
  have g1 := q0.1
  have g2 := q0.2.1
  have g3 := q0.2.2.1
  have g4 := q0.2.2.2.1
  have g5 := q0.2.2.2.2.1
  have g6 := q0.2.2.2.2.2.1
  have g7 := q0.2.2.2.2.2.2.1
  have g8 := q0.2.2.2.2.2.2.2.1
  have g9 := q0.2.2.2.2.2.2.2.2
  clear q0
  dsimp only
  k_steps
  refine Stop.go ?_
  rename Fr _ _ _ _ => F6
  rename News _ _ _ _ => N6
  rename Obj.data _ = Data.cell (some (Value.ref S.lx)) => hoX'
  rename_i hX6 oX'
  refine LCg.Assign_ListComp_U (F₀ := F6) (by rfl) (by with_unfolding_all rfl) (by with_unfolding_all rfl) (by decide) (by rfl) (by decide) (by rfl) (by rfl) (by rfl) ?_
  k_steps
  refine Stop.go ?_
  rename Fr _ _ _ _ => F7
  rename News _ _ _ _ => N7
  have hnO2' : ∀ q ∈ [(Dw, lst wvs), (Dd, W.listOf dvs dn), (Dc, W.listOf cvs.toArray kc), (L + 1 + 1 + 1 + 1 + 1 + 1, oX'), (L + 1 + 1 + 1 + 1 + 1, oW), (L + 1 + 1 + 1 + 1, oD), (L + 1 + 1 + 1, oR), (L + 1 + 1, oP), (L + 1, oC), (93, tabObj ps)], q.1 ∉ S.adr := by
    simp only [List.forall_mem_cons] at hnO ⊢
    exact hnO
  have hwl : wvs.length = p := by rw [hIw.length, List.length_map, List.length_range]
  refine LCg.CompSrc.ledger rfl F7 N7 (.head _) (by rw [List.size_toArray, sizeLine_eq]; omega) fun g1 => ?_
  refine rest_ind (n := wvs.toArray.size) (fun i ys news => ∃ t5 pos t6 k6, news = (Dw, lst wvs) :: (Dd, W.listOf dvs dn) :: (Dc, W.listOf cvs.toArray kc) :: (L + 1 + 1 + 1 + 1 + 1 + 1, oX') :: (L + 1 + 1 + 1 + 1 + 1, oW) :: (L + 1 + 1 + 1 + 1, oD) :: (L + 1 + 1 + 1, oR) :: (L + 1 + 1, oP) :: (L + 1, oC) :: (93, tabObj ps) :: S.led (lnn i) t5 (W.listOf #[] 0) pos t6 k6 ∧
      pos ≤ (pageF c1 c2 p).length ∧ (pageF c1 c2 p).cps.toList.drop pos = rest i ∧ StrsAre ys ((List.range i).map (wdF c1))) ?_ ?_ _ 0 _ _ (Nat.zero_add _) ⟨t5, 0, t6, 0, by rw [l0], Nat.zero_le _, by rw [r0]; rfl, .nil⟩
  · rintro i ys _ hi ⟨t5, pos, t6, k6, rfl, hpos, hdr, hys⟩ v I oI C oC8 D m₂ h tk E' hv hC hm F N off ne
    rw [List.size_toArray, hwl] at hi
    clear F7 N7 hv
    have offm := off.mem
    have inl : ∀ q ∈ S.led (lnn i) t5 (W.listOf #[] 0) pos t6 k6, q.1 ≠ I ∧ q.1 ≠ C ∧ q.1 ≠ D := fun q hq => offm q (List.mem_append_right [(Dw, lst wvs), (Dd, W.listOf dvs dn), (Dc, W.listOf cvs.toArray kc), (L + 1 + 1 + 1 + 1 + 1 + 1, oX'), (L + 1 + 1 + 1 + 1 + 1, oW), (L + 1 + 1 + 1 + 1, oD), (L + 1 + 1 + 1, oR), (L + 1 + 1, oP), (L + 1, oC), (93, tabObj ps)] hq)
    have ino : ∀ q ∈ [(Dw, lst wvs), (Dd, W.listOf dvs dn), (Dc, W.listOf cvs.toArray kc), (L + 1 + 1 + 1 + 1 + 1 + 1, oX'), (L + 1 + 1 + 1 + 1 + 1, oW), (L + 1 + 1 + 1 + 1, oD), (L + 1 + 1 + 1, oR), (L + 1 + 1, oP), (L + 1, oC), (93, tabObj ps)], q.1 ≠ I ∧ q.1 ≠ C ∧ q.1 ≠ D := fun q hq => offm q (List.mem_append_left (S.led (lnn i) t5 (W.listOf #[] 0) pos t6 k6) hq)
    have hnO2 : ∀ q ∈ [(Dw, lst wvs), (Dd, W.listOf dvs dn), (Dc, W.listOf cvs.toArray kc), (L + 1 + 1 + 1 + 1 + 1 + 1, oX'), (L + 1 + 1 + 1 + 1 + 1, oW), (L + 1 + 1 + 1 + 1, oD), (L + 1 + 1 + 1, oR), (L + 1 + 1, oP), (L + 1, oC), (93, tabObj ps)], q.1 ∉ S.adr := hnO2'
    have hown : ∀ q ∈ (I, oI) :: (C, oC8) :: (D, lst ys) :: [(Dw, lst wvs), (Dd, W.listOf dvs dn), (Dc, W.listOf cvs.toArray kc), (L + 1 + 1 + 1 + 1 + 1 + 1, oX'), (L + 1 + 1 + 1 + 1 + 1, oW), (L + 1 + 1 + 1 + 1, oD), (L + 1 + 1 + 1, oR), (L + 1 + 1, oP), (L + 1, oC), (93, tabObj ps)], q.1 ∉ S.adr :=
      List.forall_mem_cons.mpr ⟨not_adr S fun q hq => (inl q hq).1, List.forall_mem_cons.mpr ⟨not_adr S fun q hq => (inl q hq).2.1, List.forall_mem_cons.mpr ⟨not_adr S fun q hq => (inl q hq).2.2, hnO2⟩⟩⟩
    skip
    k_steps
    refine Stop.go ?_
    rename Fr _ _ _ _ => F9
    rename News _ _ _ _ => N9
    refine wpAny_call (read_fn2 (S := S) (L := L) (own := (I, oI) :: (C, oC8) :: (D, lst ys) :: [(Dw, lst wvs), (Dd, W.listOf dvs dn), (Dc, W.listOf cvs.toArray kc), (L + 1 + 1 + 1 + 1 + 1 + 1, oX'), (L + 1 + 1 + 1 + 1 + 1, oW), (L + 1 + 1 + 1 + 1, oD), (L + 1 + 1 + 1, oR), (L + 1 + 1, oP), (L + 1, oC), (93, tabObj ps)]) rfl ?e1 ?e2 KX T hpos hxl (res := ((wdF c1 i).cps.toList, rest (i + 1), lnn (i + 1))) (by rw [hdr]; exact hr i hi) F9 N9 hown ?_)
    case e1 => exact dp_le hdp (by decide)
    case e2 => exact un_le hun (by decide)
    intro h10 tk10 t10 t5' t6' k6' pos' F10 N10 hpos' hdr'
    refine ⟨_, _, _, rfl, F10, N10, Off3.of fun q hq => ?_, .inr ⟨_, .head _, rfl, _, rfl⟩, t5', pos', t6', k6', rfl, hpos', hdr', ?_⟩
    · rcases List.mem_append.mp (show q ∈ [(Dw, lst wvs), (Dd, W.listOf dvs dn), (Dc, W.listOf cvs.toArray kc), (L + 1 + 1 + 1 + 1 + 1 + 1, oX'), (L + 1 + 1 + 1 + 1 + 1, oW), (L + 1 + 1 + 1 + 1, oD), (L + 1 + 1 + 1, oR), (L + 1 + 1, oP), (L + 1, oC), (93, tabObj ps)] ++ S.led _ _ _ _ _ _ from hq) with h | h
      · exact ino q h
      · obtain ⟨o, ho⟩ := S.adr_ex (lnn i) t5 (W.listOf #[] 0) pos t6 k6 (S.led_adr h)
        exact inl (q.1, o) ho
    · rw [List.range_succ, List.map_append]
      have e : (⟨(wdF c1 i).cps.toList.toArray⟩ : Str) = wdF c1 i := by simp
      show StrsAre (ys ++ [.str ⟨(wdF c1 i).cps.toList.toArray⟩ t10]) _
      rw [e]
      exact strs_snoc hys
  · rintro ys _ ⟨t5, pos, t6, k6, rfl, hpos, hdr, hys⟩ D h tk F N off
    rw [List.size_toArray, hwl] at hys hdr N off
    clear F7 N7
    dsimp only [Off1] at N off
    dsimp only
    k_steps
    refine Stop.go ?_
    have hokw : ∀ y ∈ (List.range p).map (wdF c1), PyData.strOk y = true := fun y hy => by
      obtain ⟨k, hk, rfl⟩ := List.mem_map.mp hy
      exact wdF_ok (by have := List.mem_range.mp hk; omega)
    rename Fr _ _ _ _ => F9
    rename News _ _ _ _ => N9
    refine ne_strsK (News.isList N9 (.head _)) hys (News.isList N9 (.tail _ (.head _))) hIw hokw (un_le hun (by decide)) ?_
    k_steps
    · exact absurd lp (by assumption)
    · refine Stop.go ?_
      obtain ⟨f1, f2, f3, f4, f5, f6, f7, f8, f9, f10, f11⟩ := off
      have hDa : D ∉ S.adr := by
        intro hb
        obtain ⟨a1, a2, a3, a4, a5, a6, a7, a8, a9, a10, _⟩ := f11
        unfold LxS.adr at hb
        rcases List.mem_cons.mp hb with e | hb
        · exact a1 e.symm
        rcases List.mem_cons.mp hb with e | hb
        · exact a2 e.symm
        rcases List.mem_cons.mp hb with e | hb
        · exact a3 e.symm
        rcases List.mem_cons.mp hb with e | hb
        · exact a4 e.symm
        rcases List.mem_cons.mp hb with e | hb
        · exact a5 e.symm
        rcases List.mem_cons.mp hb with e | hb
        · exact a6 e.symm
        rcases List.mem_cons.mp hb with e | hb
        · exact a7 e.symm
        rcases List.mem_cons.mp hb with e | hb
        · exact a8 e.symm
        rcases List.mem_cons.mp hb with e | hb
        · exact a9 e.symm
        rcases List.mem_cons.mp hb with e | hb
        · exact a10 e.symm
        cases hb
      exact hQ _ _ S D ys oX' ps t5 pos t6 k6 Z hoX' hys hpos (hdr.trans rp) ⟨hz2.1, hz2.2.1, hz2.2.2, hz3⟩ hSl hDa ⟨f1, f2, f3⟩ ⟨f4, f5, f6, f7, f8, f9, f10⟩ F9 N9
end Mine
end

section
theorem Mine.offLw5 : True := by
  w_top off
  trivial
open PySem PySem.W PyProof.Rows PySem.Spec PySem.Calls PyProof.Rows.LCg
set_option Elab.async false
set_option maxRecDepth 100000
set_option maxHeartbeats 2000000
namespace Mine
set_option pp.deepTerms false
set_option pp.maxSteps 6000
section
variable {prog : Program} {w : World} {A : Around} {E : Value → Shared → Prop} {s : Shared} {h₀ : Heap} {L : Addr} {m : Str → Option Value} {env : Env}
/-- the turns of a list comprehension with a test by an invariant -/
theorem restT_ind {ct elt : Expr} {x : Str} {scope : Scope} {cl : List (Str × Addr)} {S : List (Addr × Obj) → Prop} {P : Nat → Value → Prop} {Fin : List Value → List (Addr × Obj) → Prop} {n : Nat} (J : Nat → List Value → List (Addr × Obj) → Prop)
    (turn : ∀ i ys news, i < n → J i ys news → ∀ v I oI C oC D m₂ h tk (E' : Value → Shared → Prop), P i v → NsObj oC m₂ → m₂ x = some v → Fr h₀ L h m → News h₀ L h ((I, oI) :: (C, oC) :: (D, lst ys) :: news) → Off3 I C D news → ((@Ne Nat I C) ∧ (@Ne Nat I D) ∧ (@Ne Nat C D)) →
      wpAny (model prog w) A (isTrue ct (compEnvC scope cl C env) (eval ct (compEnvC scope cl C env))) (fun ok s' => if ok = true then
        wpAny (model prog w) A (eval elt (compEnvC scope cl C env)) (CompEnd h₀ L m { s with heap := h, toks := tk } I oI C oC D (lst ys) S (fun y news' => J (i + 1) (ys ++ [y]) news')) E' s'
        else CompEnd h₀ L m { s with heap := h, toks := tk } I oI C oC D (lst ys) S (fun _ news' => J (i + 1) ys news') Value.none s') E' { s with heap := h, toks := tk })
    (fin : ∀ ys news, J n ys news → Fin ys news) : ∀ k i ys news, i + k = n → J i ys news → LCt.CompRestT prog w A h₀ L m env ct elt x scope cl s S P Fin k i ys news := by
  intro k
  induction k with
  | zero =>
    intro i ys news e j
    have e : i = n := e
    subst e
    exact fin _ _ j
  | succ k ih =>
    intro i ys news e j v I oI C oC D m₂ h tk E' hv hC hx F N off ne
    refine wpAny_mono (turn i ys news (by omega) j v I oI C oC D m₂ h tk E' hv hC hx F N off ne) (fun ok s₂ q => ?_) fun _ _ e => e
    cases ok with
    | true =>
      simp only [if_true] at q ⊢
      refine wpAny_mono q (fun y s₃ q => ?_) fun _ _ e => e
      obtain ⟨h', tk', news', e1, F', N', off', hS, j'⟩ := q
      exact ⟨h', tk', news', e1, F', N', off', hS, ih (i + 1) _ _ (by omega) j'⟩
    | false =>
      simp only [Bool.false_eq_true, if_false] at q ⊢
      obtain ⟨h', tk', news', e1, F', N', off', hS, j'⟩ := q
      exact ⟨h', tk', news', e1, F', N', off', hS, ih (i + 1) _ _ (by omega) j'⟩
end
noncomputable def plcN (x : Str) (i : Nat) : List Int := ((List.range i).filter (fun j => x.cps.getD j 0 == 40)).map (fun (j : Nat) => ((0 : Int) + (j : Int)))
theorem plcN_yes {x : Str} {i : Nat} (h : x.cps.getD i 0 = 40) : plcN x (i + 1) = plcN x i ++ [(0 : Int) + (i : Int)] := by
  unfold plcN
  have h2 : (x.cps.getD i 0 == 40) = true := by rw [h]; rfl
  rw [List.range_succ, List.filter_append, List.map_append, List.filter_cons_of_pos (by exact h2)]
  rfl
theorem plcN_no {x : Str} {i : Nat} (h : x.cps.getD i 0 ≠ 40) : plcN x (i + 1) = plcN x i := by
  unfold plcN
  have h2 : (x.cps.getD i 0 == 40) = false := beq_eq_false_iff_ne.mpr h
  rw [List.range_succ, List.filter_append, List.map_append, List.filter_cons_of_neg (by rw [h2]; decide)]
  exact List.append_nil _
noncomputable def waitS (x : Str) (c1 : Int) (p : Nat) : List Str := List.zipWith (fun q y => remF (Txt.slice x none (some q)).length (Txt.slice x none (some q)) y) (plcN x x.length) ((List.range p).map (wdF c1))
theorem led_off {w : World} {x : Str} {S : LxS w x} {D : Nat} (h : S.lx ≠ D ∧ S.dx ≠ D ∧ S.pb ≠ D ∧ S.al ≠ D ∧ S.st ≠ D ∧ S.sd ≠ D ∧ S.rd ≠ D ∧ S.crd ≠ D ∧ S.ca ≠ D ∧ S.ct ≠ D ∧ True) : D ∉ S.adr := by
  intro hb
  obtain ⟨a1, a2, a3, a4, a5, a6, a7, a8, a9, a10, _⟩ := h
  unfold LxS.adr at hb
  simp only [List.mem_cons, List.not_mem_nil, or_false] at hb
  rcases hb with e | e | e | e | e | e | e | e | e | e
  · exact a1 e.symm
  · exact a2 e.symm
  · exact a3 e.symm
  · exact a4 e.symm
  · exact a5 e.symm
  · exact a6 e.symm
  · exact a7 e.symm
  · exact a8 e.symm
  · exact a9 e.symm
  · exact a10 e.symm
local macro_rules | `(tactic| walk_at "call ref") => `(tactic| refine Stop.out ?_)
local macro_rules | `(tactic| walk_at "exec Assign cons ListComp") => `(tactic| refine Stop.out ?_)
local macro_rules | `(tactic| walk_at "execs cons") => `(tactic| with_reducible refine st_for ?_)
local macro_rules | `(tactic| walk_at "CompSrcT") => `(tactic| refine Stop.out ?_)
local macro_rules | `(tactic| walk_at "call type:zip") => `(tactic| refine Stop.out ?_)
theorem law_5a {w : World} {vp : Program} {vl : List Str} {mean : ExcName → Option Value} {mg mb : Str → Option Value} {A : Around} {s : Shared} {g : Heap} {L sl Dd Dw Dh Z : Nat} {R : Result → Shared → Prop} (hh : A.handled = none) (hdp : A.depth + 120 < recursionLimit) (hun : A.units + 1500 < cLine)
    (KX : (hd.heap_1 w.params).In g) (T : Top vp vl mean mg mb g) {x rw : Str} (S : LxS w x) {dvs : Array Value} {wvs hvs : List Value} {dn kp : Nat} {c1 : Int} {p : Nat} {oX oW oD oR oP oC : Obj} {tr tpg : Tok} (hoX : oX.data = .cell (some (.ref S.lx))) (hoR : oR.data = .cell (some (.str rw tr)))
    (hp : p = 4 ∨ p = 6) (hrl : rw.length = 2 * p) (hpl : (plcN rw rw.length).length = p) (hsl : ∀ q ∈ plcN rw rw.length, Brk (Txt.slice rw none (some q)) ∧ (Txt.slice rw none (some q)).length ≤ 12)
    (hIh : StrsAre hvs ((List.range p).map (wdF c1))) {ln : Int} {t5 t6 : Tok} {pos k6 : Nat} {ps : Array Value}
    (l93 : 93 < L) (n1 : Ne8 L Dd) (n2 : Ne8 L Dw) (n3 : Dd ≠ Dw) (n4 : Ne8 L Dh) (n5 : Dw ≠ Dh ∧ Dd ≠ Dh) (hZ : Dw < Z ∧ Dd < Z ∧ L + 1 + 1 + 1 + 1 + 1 + 1 < Z) (hZS : Z ≤ S.ct) (hDa : Dh ∉ S.adr) (hG : AllBare s.gens)
    (F : Fr g L s.heap (fun nm => if nm = Str.ofString "heard" then some (.ref Dh) else if nm = Str.ofString "page" then some (.str x tpg) else if nm = Str.ofString "script" then some (.ref sl) else none))
    (N : News g L s.heap ((Dh, lst hvs) :: (Dw, lst wvs) :: (Dd, W.listOf dvs dn) :: lcells L oX oW oD oR oP oC ++ ((93, tabObj ps) :: S.led ln t5 (W.listOf #[] kp) pos t6 k6)))
    (hQ : ∀ h' tk (D : Nat) pvs, IntsAre pvs (plcN rw rw.length) → D ∉ S.adr → (Dh ≠ D ∧ Dw ≠ D ∧ Dd ≠ D) → Ne8 L D → Fr g L h' (fun nm => if nm = Str.ofString "places" then some (.ref D) else if nm = Str.ofString "heard" then some (.ref Dh) else if nm = Str.ofString "page" then some (.str x tpg) else if nm = Str.ofString "script" then some (.ref sl) else none) →
      News g L h' ((D, lst pvs) :: (Dh, lst hvs) :: (Dw, lst wvs) :: (Dd, W.listOf dvs dn) :: lcells L oX oW oD oR oP oC ++ ((93, tabObj ps) :: S.led ln t5 (W.listOf #[] kp) pos t6 k6)) → LRest w A L R 10 ⟨h', s.gens, s.drawn, tk, s.os⟩) :
    LRest w A L R 9 s := by
  unfold LRest
  obtain ⟨_, dp, fr, gd, un⟩ := A; cases hh; dsimp only at hdp hun; revert KX; k_fill; intro KX
  obtain ⟨h0, G0, d0, tk0, os0⟩ := s
  dsimp only at F N hG hQ
  dsimp only [lbody, lenv, lawX, List.drop]
  dsimp only [lcells, List.cons_append, List.nil_append] at N
  try k_fold
  have hp6 : p ≤ 6 := le6 hp
  have nd := S.nd
  unfold Chain10 at nd
  k_steps
  refine Stop.go ?_
  rename Fr _ _ _ _ => F1
  rename News _ _ _ _ => N1
  refine LCt.Assign_ListComp_T (F₀ := F1) (by rfl) (by with_unfolding_all rfl) (by with_unfolding_all rfl) (by decide) (by rfl) (by decide) (by rfl) (by rfl) (by rfl) ?_
  k_steps
  refine Stop.go ?_
  rename IsRange _ _ _ _ _ _ _ _ => hrg
  rename Fr _ _ _ _ => F2
  rename News _ _ _ _ => N2
  revert N2 F2
  rename Fr _ _ _ _ => F1
  rename News _ _ _ _ => N1
  clear F1 N1
  intro F2 N2
  obtain ⟨hsm, hsz⟩ := range_small (a := 0) (b := (rw.length : Int)) (n := rw.length) (by omega) (by omega) (by omega) (by omega)
  refine LCt.CompSrcT.range rfl F2 N2 hrg hsm hsz (by rw [sizeLine_eq]; omega) fun g1 => ?_
  refine restT_ind (n := rw.length) (fun i ys news => news = _ ∧ IntsAre ys (plcN rw i)) ?_ ?_ _ 0 _ _ (Nat.zero_add _) ⟨rfl, .nil⟩
  · rintro i ys _ hi ⟨rfl, hys⟩ v I oI C oC8 D m₂ h tk E' ⟨t, rfl⟩ hC hm F N off ne
    clear F2 N2
    have hitem := W.item_meets (x := rw) (i := 0 + (i : Int)) (by omega)
    have hin : (0 + (i : Int)).toNat = i := by omega
    rw [hin] at hitem
    k_steps
    · rename (_ == _) = true => hq
      rw [hitem] at hq
      have hc := one_is hq (k := 40) (by decide)
      rename Fr _ _ _ _ => F9
      rename News _ _ _ _ => N9
      refine ⟨_, _, _, rfl, F9, N9, off, trivial, rfl, ?_⟩
      rw [plcN_yes hc]
      exact ints_snoc hys
    · rename (_ == _) = false => hq
      rw [hitem] at hq
      have hc := one_not hq (k := 40) (by decide)
      rename Fr _ _ _ _ => F9
      rename News _ _ _ _ => N9
      refine ⟨_, _, _, rfl, F9, N9, off, trivial, rfl, ?_⟩
      rw [plcN_no hc]
      exact hys
  · rintro ys _ ⟨rfl, hys⟩ D h tk F N off
    clear F2 N2
    dsimp only [Off1] at off
    dsimp only
    k_steps
    refine Stop.go ?_
    rename Fr _ _ _ _ => F3
    rename News _ _ _ _ => N3
    obtain ⟨f1, f2, f3, f4, f5, f6, f7, f8, f9, f10, f11⟩ := off
    exact hQ _ _ D ys hys (led_off f11) ⟨f1, f2, f3⟩ ⟨f4, f5, f6, f7, f8, f9, f10⟩ F3 N3
end Mine
end

section
theorem Mine.offLw6 : True := by
  w_top off
  trivial
local macro_rules | `(tactic| walk_at "none such") => `(tactic| fail)
local macro_rules | `(tactic| walk_at "none such") => `(tactic| fail)
local macro_rules | `(tactic| walk_at "none such") => `(tactic| fail)
local macro_rules | `(tactic| walk_at "none such") => `(tactic| fail)
local macro_rules | `(tactic| walk_at "none such") => `(tactic| fail)
local macro_rules | `(tactic| walk_at "none such") => `(tactic| fail)
open PySem PySem.W PyProof.Rows PySem.Spec PySem.Calls PyProof.Rows.LCg
set_option Elab.async false
set_option maxRecDepth 100000
set_option maxHeartbeats 2000000
namespace Mine
set_option pp.deepTerms false
set_option pp.maxSteps 6000
local macro_rules | `(tactic| walk_at "call ref") => `(tactic| refine Stop.out ?_)
local macro_rules | `(tactic| walk_at "call type:zip") => `(tactic| refine Stop.out ?_)
local macro_rules | `(tactic| walk_at "exec For Tuple Call cons nil") => `(tactic| refine Stop.out ?_)
local macro_rules | `(tactic| walk_at "exec For Tuple") => `(tactic| refine Stop.out ?_)
local macro_rules | `(tactic| walk_at "execs cons") => `(tactic| with_reducible refine st_tup ?_)
theorem law_5b {w : World} {vp : Program} {vl : List Str} {mean : ExcName → Option Value} {mg mb : Str → Option Value} {A : Around} {s : Shared} {g : Heap} {L sl Dd Dw Dh Z D : Nat} {R : Result → Shared → Prop} (hh : A.handled = none) (hdp : A.depth + 120 < recursionLimit) (hun : A.units + 1500 < cLine)
    (KX : (hd.heap_1 w.params).In g) (T : Top vp vl mean mg mb g) {x rw : Str} (S : LxS w x) {dvs : Array Value} {wvs hvs ys : List Value} {dn kp : Nat} {c1 : Int} {p : Nat} {oX oW oD oR oP oC : Obj} {tr tpg : Tok} (hoX : oX.data = .cell (some (.ref S.lx))) (hoR : oR.data = .cell (some (.str rw tr)))
    (hp : p = 4 ∨ p = 6) (hrl : rw.length = 2 * p) (hpl : (plcN rw rw.length).length = p) (hsl : ∀ q ∈ plcN rw rw.length, Brk (Txt.slice rw none (some q)) ∧ (Txt.slice rw none (some q)).length ≤ 12)
    (hIh : StrsAre hvs ((List.range p).map (wdF c1))) {ln : Int} {t5 t6 : Tok} {pos k6 : Nat} {ps : Array Value}
    (l93 : 93 < L) (n1 : Ne8 L Dd) (n2 : Ne8 L Dw) (n3 : Dd ≠ Dw) (n4 : Ne8 L Dh) (n5 : Dw ≠ Dh ∧ Dd ≠ Dh) (hZ : Dw < Z ∧ Dd < Z ∧ L + 1 + 1 + 1 + 1 + 1 + 1 < Z) (hZS : Z ≤ S.ct) (hDa : Dh ∉ S.adr) (hys : IntsAre ys (plcN rw rw.length)) (hDb : D ∉ S.adr) (n6 : Dh ≠ D ∧ Dw ≠ D ∧ Dd ≠ D) (n7 : Ne8 L D) (hG : AllBare s.gens)
    (F : Fr g L s.heap (fun nm => if nm = Str.ofString "places" then some (.ref D) else if nm = Str.ofString "heard" then some (.ref Dh) else if nm = Str.ofString "page" then some (.str x tpg) else if nm = Str.ofString "script" then some (.ref sl) else none))
    (N : News g L s.heap ((D, lst ys) :: (Dh, lst hvs) :: (Dw, lst wvs) :: (Dd, W.listOf dvs dn) :: lcells L oX oW oD oR oP oC ++ ((93, tabObj ps) :: S.led ln t5 (W.listOf #[] kp) pos t6 k6)))
    (hQ : ∀ h' tk G vs kp' o1 o2, AllBare G → StrsAre vs.toList (waitS rw c1 p) → Fr g L h' (fun nm => if nm = Str.ofString "word" then o2 else if nm = Str.ofString "place" then o1 else if nm = Str.ofString "places" then some (.ref D) else if nm = Str.ofString "heard" then some (.ref Dh) else if nm = Str.ofString "page" then some (.str x tpg) else if nm = Str.ofString "script" then some (.ref sl) else none) →
      News g L h' ((Dw, lst wvs) :: (Dd, W.listOf dvs dn) :: lcells L oX oW oD oR oP oC ++ ((93, tabObj ps) :: S.led ln t5 (W.listOf vs kp') pos t6 k6)) → LRest w A L R 11 ⟨h', G, s.drawn, tk, s.os⟩) :
    LRest w A L R 10 s := by
  unfold LRest
  obtain ⟨_, dp, fr, gd, un⟩ := A; cases hh; dsimp only at hdp hun; revert KX; k_fill; intro KX
  obtain ⟨h, G0, d0, tk0, os0⟩ := s
  dsimp only at F N hG hQ
  dsimp only [lbody, lenv, lawX, List.drop]
  dsimp only [lcells, List.cons_append, List.nil_append] at N
  try k_fold
  have hp6 : p ≤ 6 := le6 hp
  k_steps
  refine Stop.go ?_
  refine wpAny_For ?_
  k_steps
  refine Stop.go ?_
  rename Fr _ _ _ _ => F3
  rename News _ _ _ _ => N3
  have hzz := ne_off N3
  have hy1 : ys.length = p := by rw [hys.length, hpl]
  have hy2 : hvs.length = p := by rw [hIh.length, List.length_map, List.length_range]
  have hlt1 : @LT.lt Nat _ L h.objs.size := F3.ns.lt
  have hng : ∀ b : Addr, @LE.le Nat _ h.objs.size b → b ≠ L ∧ g.get? b = none := fun b hb => ⟨fun e => by
      have e2 : @Eq Nat b L := e
      omega, by
      cases e : g.get? b with
      | none => rfl
      | some o => have h9 : @LT.lt Nat _ b h.objs.size := Heap.lt_size (F3.keep _ _ e); omega⟩
  have hDg := (N3 (D, lst ys) (.head _)).2
  have hHg := (N3 (Dh, lst hvs) (.tail _ (.head _))).2
  have hD9 : @LT.lt Nat _ D h.objs.size := hzz (D, lst ys) (.head _)
  have hH9 : @LT.lt Nat _ Dh h.objs.size := hzz (Dh, lst hvs) (.tail _ (.head _))
  refine call_zip_2 (News.isList N3 (.head _)) (News.isList N3 (.tail _ (.head _))) ?_
  intro h4 hz1 hz2 hz3 hz4 hz5 hz6 hk4
  have hlD : h4.IsList D ys.toArray := Heap.IsList.at (News.isList N3 (.head _)) (fun o e => hk4 _ o e)
  have hlH : h4.IsList Dh hvs.toArray := Heap.IsList.at (News.isList N3 (.tail _ (.head _))) (fun o e => hk4 _ o e)
  have F4 := fr_kept F3 hk4
  have N4 := news_kept N3 hk4
  have AP := zipApart_new hD9 hH9
  have hadr : ∀ a ∈ Dw :: Dd :: (L + 1 + 1 + 1 + 1 + 1 + 1) :: (L + 1 + 1 + 1 + 1 + 1) :: (L + 1 + 1 + 1 + 1) :: (L + 1 + 1 + 1) :: (L + 1 + 1) :: (L + 1) :: 93 :: S.adr, @LT.lt Nat _ a h.objs.size ∧ @Ne Nat a D ∧ @Ne Nat a Dh := by
    intro a ha
    simp only [List.mem_cons] at ha
    rcases ha with rfl | rfl | rfl | rfl | rfl | rfl | rfl | rfl | rfl | ha
    · exact ⟨hzz (_, lst wvs) (by k_mem), n6.2.1, n5.1⟩
    · exact ⟨hzz (_, W.listOf dvs dn) (by k_mem), n6.2.2, n5.2⟩
    · exact ⟨hzz (_, oX) (by k_mem), n7.1, n4.1⟩
    · exact ⟨hzz (_, oW) (by k_mem), n7.2.1, n4.2.1⟩
    · exact ⟨hzz (_, oD) (by k_mem), n7.2.2.1, n4.2.2.1⟩
    · exact ⟨hzz (_, oR) (by k_mem), n7.2.2.2.1, n4.2.2.2.1⟩
    · exact ⟨hzz (_, oP) (by k_mem), n7.2.2.2.2.1, n4.2.2.2.2.1⟩
    · exact ⟨hzz (_, oC) (by k_mem), n7.2.2.2.2.2.1, n4.2.2.2.2.2.1⟩
    · exact ⟨hzz (93, tabObj ps) (by k_mem), n7.2.2.2.2.2.2, n4.2.2.2.2.2.2⟩
    · have hne : @Ne Nat a Dh := fun e => hDa (e ▸ ha)
      have hne2 : @Ne Nat a D := fun e => hDb (e ▸ ha)
      refine ⟨?_, hne2, hne⟩
      unfold LxS.adr at ha
      simp only [List.mem_cons, List.not_mem_nil, or_false] at ha
      rcases ha with rfl | rfl | rfl | rfl | rfl | rfl | rfl | rfl | rfl | rfl
      · exact hzz (S.lx, instObj 87 S.dx) (by k_mem)
      · exact hzz (S.dx, lxD w S.k1 S.k2 S.k3 S.k4 ln t5 S.st S.tw S.pb) (by k_mem)
      · exact hzz (S.pb, W.listOf #[] kp) (by k_mem)
      · exact hzz (S.al, W.listOf #[Value.int (pos : Int) t6] k6) (by k_mem)
      · exact hzz (S.st, S.ost) (by k_mem)
      · exact hzz (S.sd, S.osd) (by k_mem)
      · exact hzz (S.rd, S.ord) (by k_mem)
      · exact hzz (S.crd, S.ocrd) (by k_mem)
      · exact hzz (S.ca, S.oca) (by k_mem)
      · exact hzz (S.ct, S.oct) (by k_mem)
  clear hzz
  refine wpAny_pyIter_zip hz1 ?_
  generalize h.objs.size = n at *
  have hsep : ∀ (vs : Array Value) (kp : Nat), ∀ q ∈ (Dw, lst wvs) :: (Dd, W.listOf dvs dn) :: (L + 1 + 1 + 1 + 1 + 1 + 1, oX) :: (L + 1 + 1 + 1 + 1 + 1, oW) :: (L + 1 + 1 + 1 + 1, oD) :: (L + 1 + 1 + 1, oR) :: (L + 1 + 1, oP) :: (L + 1, oC) :: (93, tabObj ps) :: S.led ln t5 (W.listOf vs kp) pos t6 k6, ∀ b ∈ [n + 4, n + 2, n + 3, n, n + 1, D, Dh], q.1 ≠ b := by
    intro vs kp q hq b hb
    obtain ⟨l1, l2, l3⟩ := hadr q.1 (by
      have : q.1 ∈ ((Dw, lst wvs) :: (Dd, W.listOf dvs dn) :: (L + 1 + 1 + 1 + 1 + 1 + 1, oX) :: (L + 1 + 1 + 1 + 1 + 1, oW) :: (L + 1 + 1 + 1 + 1, oD) :: (L + 1 + 1 + 1, oR) :: (L + 1 + 1, oP) :: (L + 1, oC) :: (93, tabObj ps) :: S.led ln t5 (W.listOf vs kp) pos t6 k6).map (·.1) := List.mem_map_of_mem hq
      exact this)
    simp only [List.mem_cons, List.not_mem_nil, or_false] at hb
    intro e
    rcases hb with hb | hb | hb | hb | hb | hb | hb
    · have e2 : @Eq Nat q.1 (n + 4) := e.trans hb
      omega
    · have e2 : @Eq Nat q.1 (n + 2) := e.trans hb
      omega
    · have e2 : @Eq Nat q.1 (n + 3) := e.trans hb
      omega
    · have e2 : @Eq Nat q.1 n := e.trans hb
      omega
    · have e2 : @Eq Nat q.1 (n + 1) := e.trans hb
      omega
    · exact l2 (e.trans hb)
    · exact l3 (e.trans hb)
  have hnew : ∀ b ∈ [n + 4, n + 2, n + 3, n, n + 1, D, Dh], b ≠ L ∧ g.get? b = none := List.forall_mem_cons.mpr ⟨hng _ (Nat.le_add_right _ _), List.forall_mem_cons.mpr ⟨hng _ (Nat.le_add_right _ _), List.forall_mem_cons.mpr ⟨hng _ (Nat.le_add_right _ _), List.forall_mem_cons.mpr ⟨hng _ (Nat.le_refl _),
    List.forall_mem_cons.mpr ⟨hng _ (Nat.le_add_right _ _), List.forall_mem_cons.mpr ⟨hDg, List.forall_mem_cons.mpr ⟨hHg, List.forall_mem_nil _⟩⟩⟩⟩⟩⟩⟩
  have hwt : ∀ i q, i < p → (plcN rw rw.length)[i]? = some q → (waitS rw c1 p).take (i + 1) = (waitS rw c1 p).take i ++ [remF (Txt.slice rw none (some q)).length (Txt.slice rw none (some q)) (wdF c1 i)] := by
    intro i q hi hq
    rw [List.take_add_one]
    have : (waitS rw c1 p)[i]? = some (remF (Txt.slice rw none (some q)).length (Txt.slice rw none (some q)) (wdF c1 i)) := by
      unfold waitS
      rw [List.getElem?_zipWith, hq, List.getElem?_map, List.getElem?_range hi]
      rfl
    rw [this]
    rfl
  refine' for_zip (g := g) (L := L) (news₀ := (Dw, lst wvs) :: (Dd, W.listOf dvs dn) :: (L + 1 + 1 + 1 + 1 + 1 + 1, oX) :: (L + 1 + 1 + 1 + 1 + 1, oW) :: (L + 1 + 1 + 1 + 1, oD) :: (L + 1 + 1 + 1, oR) :: (L + 1 + 1, oP) :: (L + 1, oC) :: (93, tabObj ps) :: S.led ln t5 (W.listOf #[] kp) pos t6 k6)
    (fun i m news G => AllBare G ∧ ∃ (o1 o2 : Option Value) (vs : Array Value) (kp : Nat), news = (Dw, lst wvs) :: (Dd, W.listOf dvs dn) :: (L + 1 + 1 + 1 + 1 + 1 + 1, oX) :: (L + 1 + 1 + 1 + 1 + 1, oW) :: (L + 1 + 1 + 1 + 1, oD) :: (L + 1 + 1 + 1, oR) :: (L + 1 + 1, oP) :: (L + 1, oC) :: (93, tabObj ps) :: S.led ln t5 (W.listOf vs kp) pos t6 k6 ∧
      m = (fun nm => if nm = Str.ofString "word" then o2 else if nm = Str.ofString "place" then o1 else if nm = Str.ofString "places" then some (.ref D) else if nm = Str.ofString "heard" then some (.ref Dh) else if nm = Str.ofString "page" then some (.str x tpg) else if nm = Str.ofString "script" then some (.ref sl) else none) ∧ StrsAre vs.toList ((waitS rw c1 p).take i))
    rfl AP rfl rfl rfl rfl ⟨hz1, hz2, ⟨_, _, hz3⟩, hz4, hz5, hlD, hlH⟩ hnew ?hF (news_sub N4 (by dsimp only [LxS.led]; lcg_sub)) (hsep #[] kp) ⟨hG, none, none, #[], kp, rfl, rfl, .nil⟩ ?turn ?done
  case hF =>
    refine' fr_names [Str.ofString "word", Str.ofString "place", Str.ofString "places", Str.ofString "heard", Str.ofString "page", Str.ofString "script"] ?fF ?fA ?fB
    (case fF => exact F4); (case fA => exact List.forall_mem_cons.mpr ⟨(by exact rfl), List.forall_mem_cons.mpr ⟨(by exact rfl), List.forall_mem_cons.mpr ⟨(by exact rfl), List.forall_mem_cons.mpr ⟨(by exact rfl), List.forall_mem_cons.mpr ⟨(by exact rfl), List.forall_mem_cons.mpr ⟨(by exact rfl), List.forall_mem_nil _⟩⟩⟩⟩⟩⟩); (case fB => (intro y hy; simp only [List.mem_cons, not_or] at hy; simp only [hy, if_false]))
  case done =>
    rintro m news h9 tk9 G ⟨hG9, o1, o2, vs, kp9, rfl, rfl, hst9⟩ F9 N9
    clear hadr hsep hnew hwt hng F4 N4 N3 F3 hz1 hz2 hz3 hz4 hz5 hlD hlH hk4 hz6 AP
    have hwl : (waitS rw c1 p).length ≤ min ys.toArray.size hvs.toArray.size := by
      unfold waitS
      rw [List.length_zipWith, hpl, List.length_map, List.length_range, List.size_toArray, List.size_toArray, hy1, hy2]
      exact Nat.le_refl _
    rw [List.take_of_length_le hwl] at hst9
    skip
    dsimp only
    k_steps
    refine Stop.go ?_
    exact hQ _ _ _ vs kp9 o1 o2 hG9 hst9 F9 N9
  case turn =>
    clear F4 N4 N3 F3 hz1 hz2 hz3 hz4 hz5 hlD hlH hk4 hz6 hng AP hnew
    have hsepS : Stop (∀ a ∈ Dw :: Dd :: (L + 1 + 1 + 1 + 1 + 1 + 1) :: (L + 1 + 1 + 1 + 1 + 1) :: (L + 1 + 1 + 1 + 1) :: (L + 1 + 1 + 1) :: (L + 1 + 1) :: (L + 1) :: 93 :: S.adr, @LT.lt Nat _ a n ∧ @Ne Nat a D ∧ @Ne Nat a Dh) := hadr
    have hsepT := Stop.go hsep
    clear hsep hadr
    rintro i v0 v1 m news h5 tk5 G oz oTI oTO oi1 oi2 ol1 ol2 hv0 hv1 ⟨hG5, o1, o2, vs, kp5, rfl, rfl, hvs⟩ hnn F5 N5 Qv Ev hNx _
    clear hnn
    have hi : i < p := by
      have := (Array.getElem?_eq_some_iff.mp hv0).1
      rw [List.size_toArray] at this
      omega
    obtain ⟨y, tw, rfl, hy⟩ := strs_at hIh (i := i) (v := v1) (by simpa using hv1)
    have hyw : y = wdF c1 i := by
      rw [List.getElem?_map, List.getElem?_range hi] at hy
      exact (Option.some.inj hy).symm
    subst hyw
    have hlt : i < (plcN rw rw.length).length := by omega
    obtain ⟨tv, hv2⟩ := hys.get i _ (List.getElem?_eq_getElem hlt)
    have hq : (plcN rw rw.length)[i]? = some ((plcN rw rw.length)[i]) := List.getElem?_eq_getElem hlt
    have hv3 : v0 = .int ((plcN rw rw.length)[i]) tv := by
      have : ys[i]? = some v0 := by simpa using hv0
      rw [this] at hv2
      exact Option.some.inj hv2
    subst hv3
    have hw1 := hwt i _ hi hq
    obtain ⟨hsb, hsz1⟩ := hsl _ (List.getElem_mem hlt)
    clear hv0 hv1 hv2 hy hq
    generalize (plcN rw rw.length)[i] = q at *
    have hwl := wdF_len (c1 := c1) (k := i) (by omega)
    skip
    k_steps
    refine Stop.go ?_
    rename Fr _ _ _ _ => F7
    rename News _ _ _ _ => N7
    refine remark_spec rfl (dp_le hdp (by decide)) (un_le hun (by decide)) (KX.keeps F7.keep) (T.keeps F7.keep) hsz1 hsb (by omega) hG5 ?_
    intro t8 h8 tk8 G8 hk8 hG8
    replace F7 := fr_kept F7 hk8
    replace N7 := news_kept N7 hk8
    clear hk8
    generalize hrm : remF (Txt.slice rw none (some q)).length (Txt.slice rw none (some q)) (wdF c1 i) = rm at *
    dsimp only
    k_steps
    refine Stop.go ?_
    rename Fr _ _ _ _ => F8
    rename News _ _ _ _ => N8
    have hown : ∀ u ∈ [(n + 4, oz), (n + 2, oTI), (n + 3, oTO), (n, oi1), (n + 1, oi2), (D, ol1), (Dh, ol2), (Dw, lst wvs), (Dd, W.listOf dvs dn), (L + 1 + 1 + 1 + 1 + 1 + 1, oX), (L + 1 + 1 + 1 + 1 + 1, oW), (L + 1 + 1 + 1 + 1, oD), (L + 1 + 1 + 1, oR), (L + 1 + 1, oP), (L + 1, oC), (93, tabObj ps)], u.1 ∉ S.adr := by
      have hA := Stop.go hsepS
      have hB : ∀ a ∈ S.adr, @LT.lt Nat _ a n ∧ @Ne Nat a D ∧ @Ne Nat a Dh := fun a ha => hA a (.tail _ (.tail _ (.tail _ (.tail _ (.tail _ (.tail _ (.tail _ (.tail _ (.tail _ ha)))))))))
      have hC : ∀ a : Nat, n ≤ a → (a : Addr) ∉ S.adr := fun a h1 h2 => Nat.lt_irrefl _ (Nat.lt_of_lt_of_le (hB a h2).1 h1)
      have hE := S.below
      exact List.forall_mem_cons.mpr ⟨hC _ (by omega), List.forall_mem_cons.mpr ⟨hC _ (by omega), List.forall_mem_cons.mpr ⟨hC _ (by omega), List.forall_mem_cons.mpr ⟨hC _ (by omega), List.forall_mem_cons.mpr ⟨hC _ (by omega),
        List.forall_mem_cons.mpr ⟨hDb, List.forall_mem_cons.mpr ⟨hDa, List.forall_mem_cons.mpr ⟨hE _ (by omega), List.forall_mem_cons.mpr ⟨hE _ (by omega), List.forall_mem_cons.mpr ⟨hE _ (by omega), List.forall_mem_cons.mpr ⟨hE _ (by omega), List.forall_mem_cons.mpr ⟨hE _ (by omega), List.forall_mem_cons.mpr ⟨hE _ (by omega), List.forall_mem_cons.mpr ⟨hE _ (by omega), List.forall_mem_cons.mpr ⟨hE _ (by omega), List.forall_mem_cons.mpr ⟨hE 93 (by omega), List.forall_mem_nil _⟩⟩⟩⟩⟩⟩⟩⟩⟩⟩⟩⟩⟩⟩⟩⟩
    have hvz : vs.size ≤ 100 := by
      rw [← Array.length_toList, hvs.length, List.length_take]
      omega
    refine wpAny_call (push_fn (S := S) (L := L) (own := [(n + 4, oz), (n + 2, oTI), (n + 3, oTO), (n, oi1), (n + 1, oi2), (D, ol1), (Dh, ol2), (Dw, lst wvs), (Dd, W.listOf dvs dn), (L + 1 + 1 + 1 + 1 + 1 + 1, oX), (L + 1 + 1 + 1 + 1 + 1, oW), (L + 1 + 1 + 1 + 1, oD), (L + 1 + 1 + 1, oR), (L + 1 + 1, oP), (L + 1, oC), (93, tabObj ps)]) rfl ?e1 ?e2 KX T hvz F8 N8 hown ?_)
    case e1 => exact dp_le hdp (by decide)
    case e2 => exact un_le hun (by decide)
    intro h10 tk10 kp10 F10 N10
    clear F8 N8 hown
    dsimp only [List.cons_append, List.nil_append] at N10
    dsimp only
    k_steps
    rename Fr _ _ _ _ => F11
    rename News _ _ _ _ => N11
    refine' (hNx _ (TurnEnd.mk (fr_names [Str.ofString "word", Str.ofString "place", Str.ofString "places", Str.ofString "heard", Str.ofString "page", Str.ofString "script"] ?fF ?fA ?fB) N11 ?ne ⟨hG8, _, _, _, _, rfl, rfl, ?hv⟩)).1
    (case fF => exact F11); (case fA => exact List.forall_mem_cons.mpr ⟨(by exact rfl), List.forall_mem_cons.mpr ⟨(by exact rfl), List.forall_mem_cons.mpr ⟨(by exact rfl), List.forall_mem_cons.mpr ⟨(by exact rfl), List.forall_mem_cons.mpr ⟨(by exact rfl), List.forall_mem_cons.mpr ⟨(by exact rfl), List.forall_mem_nil _⟩⟩⟩⟩⟩⟩); (case fB => (intro y hy; simp only [List.mem_cons, not_or] at hy; simp only [hy, if_false]))
    case ne =>
      intro u hu v hv
      refine Stop.go hsepT _ _ u hu v.1 ?_
      simp only [List.mem_cons, List.not_mem_nil, or_false] at hv ⊢
      rcases hv with rfl | rfl | rfl | rfl | rfl | rfl | rfl <;> simp
    case hv =>
      rw [Array.toList_push, hw1]
      exact strs_snoc hvs
end Mine
end

section
theorem Mine.offLw7 : True := by
  w_top off
  trivial
open PySem PySem.W PyProof.Rows PySem.Spec PySem.Calls PyProof.Rows.LCg
set_option Elab.async false
set_option maxRecDepth 100000
set_option maxHeartbeats 2000000
namespace Mine
set_option pp.deepTerms false
set_option pp.maxSteps 6000
local macro_rules | `(tactic| walk_at "call ref") => `(tactic| refine Stop.out ?_)
local macro_rules | `(tactic| walk_at "execs cons") => `(tactic| with_reducible refine st_ifc ?_)
theorem law_7 {w : World} {vp : Program} {vl : List Str} {mean : ExcName → Option Value} {mg mb : Str → Option Value} {A : Around} {s : Shared} {g : Heap} {L Dd Dw Z : Nat} {R : Result → Shared → Prop} (hh : A.handled = none) (hdp : A.depth + 120 < recursionLimit) (hun : A.units + 1500 < cLine)
    (KX : (hd.heap_1 w.params).In g) (T : Top vp vl mean mg mb g) {x : Str} (S : LxS w x) (hx : x.length ≤ 100) {dvs vs : Array Value} {wvs : List Value} {dn kp : Nat} {p : Nat} {oX oW oD oR oP oC : Obj} {tp : Tok} (hoX : oX.data = .cell (some (.ref S.lx))) (hoP : oP.data = .cell (some (.int (p : Int) tp)))
    (hp : p = 4 ∨ p = 6) {q nm : List Str} {sg : Str} (hvs : StrsAre vs.toList q) (hr : swpOut (p + 1) q (Str.ofString "") [] p = some ([], sg, nm)) (hsb : Brk sg) (hsl : sg.length ≤ 100) (hck : chkF sg.cps.toList = true)
    {ln : Int} {t5 t6 : Tok} {pos k6 : Nat} {ps : Array Value} (hpos : pos ≤ x.length) (hdr : x.cps.toList.drop pos = [])
    (l93 : 93 < L) (n1 : Ne8 L Dd) (n2 : Ne8 L Dw) (n3 : Dd ≠ Dw) (hZ : Dw < Z ∧ Dd < Z ∧ L + 1 + 1 + 1 + 1 + 1 + 1 < Z) (hZS : Z ≤ S.ct) (hG : AllBare s.gens) {o1 o2 o3 o4 o5 o6 : Option Value}
    (F : Fr g L s.heap (fun nm => if nm = Str.ofString "word" then o2 else if nm = Str.ofString "place" then o1 else if nm = Str.ofString "places" then o3 else if nm = Str.ofString "heard" then o4 else if nm = Str.ofString "page" then o5 else if nm = Str.ofString "script" then o6 else none))
    (N : News g L s.heap ((Dw, lst wvs) :: (Dd, W.listOf dvs dn) :: lcells L oX oW oD oR oP oC ++ ((93, tabObj ps) :: S.led ln t5 (W.listOf vs kp) pos t6 k6)))
    (hQ : ∀ h' tk G (nl : Nat) nvs kn ts, AllBare G → StrsAre nvs.toList nm → Z < nl → Fr g L h' (fun nm => if nm = Str.ofString "named" then some (.ref nl) else if nm = Str.ofString "signs" then some (.str sg ts) else if nm = Str.ofString "word" then o2 else if nm = Str.ofString "place" then o1 else if nm = Str.ofString "places" then o3 else if nm = Str.ofString "heard" then o4 else if nm = Str.ofString "page" then o5 else if nm = Str.ofString "script" then o6 else none) →
      News g L h' ((nl, W.listOf nvs kn) :: (Dw, lst wvs) :: (Dd, W.listOf dvs dn) :: lcells L oX oW oD oR oP oC ++ [(93, tabObj ps)]) → LRest w A L R 13 ⟨h', G, s.drawn, tk, s.os⟩) :
    LRest w A L R 11 s := by
  unfold LRest
  obtain ⟨_, dp, fr, gd, un⟩ := A; cases hh; dsimp only at hdp hun; revert KX; k_fill; intro KX
  obtain ⟨h, G0, d0, tk0, os0⟩ := s
  dsimp only at F N hG hQ
  dsimp only [lbody, lenv, lawX, List.drop]
  dsimp only [lcells, List.cons_append, List.nil_append] at N
  try k_fold
  have hp6 : p ≤ 6 := le6 hp
  have hE := S.below
  have hE2 := S.above
  have hown : ∀ u ∈ [(Dw, lst wvs), (Dd, W.listOf dvs dn), (L + 1 + 1 + 1 + 1 + 1 + 1, oX), (L + 1 + 1 + 1 + 1 + 1, oW), (L + 1 + 1 + 1 + 1, oD), (L + 1 + 1 + 1, oR), (L + 1 + 1, oP), (L + 1, oC), (93, tabObj ps)], u.1 ∉ S.adr :=
    List.forall_mem_cons.mpr ⟨hE _ (by omega), List.forall_mem_cons.mpr ⟨hE _ (by omega), List.forall_mem_cons.mpr ⟨hE _ (by omega), List.forall_mem_cons.mpr ⟨hE _ (by omega), List.forall_mem_cons.mpr ⟨hE _ (by omega), List.forall_mem_cons.mpr ⟨hE _ (by omega), List.forall_mem_cons.mpr ⟨hE _ (by omega), List.forall_mem_cons.mpr ⟨hE _ (by omega), List.forall_mem_cons.mpr ⟨hE 93 (by omega), List.forall_mem_nil _⟩⟩⟩⟩⟩⟩⟩⟩⟩
  k_steps
  refine Stop.go ?_
  rename Fr _ _ _ _ => F1
  rename News _ _ _ _ => N1
  have ha := led_out (s := ⟨h, G0, d0, tk0, os0⟩) (ln := ln) (t5 := t5) (oPb := W.listOf vs kp) (pos := pos) (t6 := t6) (k6 := k6) (own := [(Dw, lst wvs), (Dd, W.listOf dvs dn), (L + 1 + 1 + 1 + 1 + 1 + 1, oX), (L + 1 + 1 + 1 + 1 + 1, oW), (L + 1 + 1 + 1 + 1, oD), (L + 1 + 1 + 1, oR), (L + 1 + 1, oP), (L + 1, oC), (93, tabObj ps)]) S N1
  have hex := led_ex (s := ⟨h, G0, d0, tk0, os0⟩) (ln := ln) (t5 := t5) (oPb := W.listOf vs kp) (pos := pos) (t6 := t6) (k6 := k6) (own := [(Dw, lst wvs), (Dd, W.listOf dvs dn), (L + 1 + 1 + 1 + 1 + 1 + 1, oX), (L + 1 + 1 + 1 + 1 + 1, oW), (L + 1 + 1 + 1 + 1, oD), (L + 1 + 1 + 1, oR), (L + 1 + 1, oP), (L + 1, oC), (93, tabObj ps)]) S N1
  refine wpAny_call (sweep_spec (g := hideAll _ S.adr) rfl ?d1 ?d2 (in_hide KX F1 fun b hb => (ha b hb).2) (T.keeps (kept_hide F1 fun b hb => (ha b hb).2)) hide_keep hide_size S hvs hp6 hr hex ?_)
  case d1 => exact dp_le hdp (by decide)
  case d2 => exact un_le hun (by decide)
  intro h2 tk2 tq nl nvs kn vs' kp' ts hk2 htq hnl htq0 hnl0 lnl ltq hled hvs' hns
  have hLg : (hideAll h S.adr).get? L ≠ none := by
    obtain ⟨o, _, _, e, _⟩ := F1.ns
    rw [hideAll_get _ e fun hm => (ha _ hm).1 rfl]
    exact fun z => by cases z
  have hgg : ∀ b : Addr, (hideAll h S.adr).get? b = none → b ≠ L ∧ g.get? b = none := fun b hb => ⟨fun e => hLg (e ▸ hb), by
    cases e : g.get? b with
    | none => rfl
    | some o => have := kept_hide F1 (fun b hb => (ha b hb).2) _ _ e; rw [hb] at this; cases this⟩
  have F2 := fr_hide F1 hk2 ha
  have N2 := led_back (s := ⟨h, G0, d0, tk0, os0⟩) (ln := ln) (t5 := t5) (oPb := W.listOf vs kp) (pos := pos) (t6 := t6) (k6 := k6) (own := [(Dw, lst wvs), (Dd, W.listOf dvs dn), (L + 1 + 1 + 1 + 1 + 1 + 1, oX), (L + 1 + 1 + 1 + 1 + 1, oW), (L + 1 + 1 + 1 + 1, oD), (L + 1 + 1 + 1, oR), (L + 1 + 1, oP), (L + 1, oC), (93, tabObj ps)]) S N1 hown hk2 hled
  have N3 := news_put htq (hgg _ htq0).1 (hgg _ htq0).2 (news_put hnl (hgg _ hnl0).1 (hgg _ hnl0).2 N2)
  have hv0 : vs' = #[] := by
    obtain ⟨l⟩ := vs'
    cases hvs'
    rfl
  subst hv0
  clear F1 N1 N2 ha hex hk2 hgg hLg htq hnl htq0 hnl0 hled hvs'
  dsimp only [List.cons_append, List.nil_append] at N3
  dsimp only
  k_steps
  refine Stop.go ?_
  rename Fr _ _ _ _ => F4
  rename News _ _ _ _ => N4
  have hown2 : ∀ u ∈ [(tq, ({ cls := .type "tuple", data := .seq #[.str sg ts, .ref nl] } : Obj)), (nl, W.listOf nvs kn), (Dw, lst wvs), (Dd, W.listOf dvs dn), (L + 1 + 1 + 1 + 1 + 1 + 1, oX), (L + 1 + 1 + 1 + 1 + 1, oW), (L + 1 + 1 + 1 + 1, oD), (L + 1 + 1 + 1, oR), (L + 1 + 1, oP), (L + 1, oC), (93, tabObj ps)], u.1 ∉ S.adr :=
    List.forall_mem_cons.mpr ⟨hE2 tq (Nat.lt_trans lnl ltq), List.forall_mem_cons.mpr ⟨hE2 nl lnl, hown⟩⟩
  refine wpAny_call (read_fn2 (S := S) (L := L) (own := [(tq, ({ cls := .type "tuple", data := .seq #[.str sg ts, .ref nl] } : Obj)), (nl, W.listOf nvs kn), (Dw, lst wvs), (Dd, W.listOf dvs dn), (L + 1 + 1 + 1 + 1 + 1 + 1, oX), (L + 1 + 1 + 1 + 1 + 1, oW), (L + 1 + 1 + 1 + 1, oD), (L + 1 + 1 + 1, oR), (L + 1 + 1, oP), (L + 1, oC), (93, tabObj ps)]) rfl ?e1 ?e2 KX T hpos hx (res := ([], [], ln)) (by rw [hdr]; rfl) F4 N4 hown2 ?_)
  case e1 => exact dp_le hdp (by decide)
  case e2 => exact un_le hun (by decide)
  intro h5 tk5 t25 t55 t65 k65 pos5 F5 N5 hpos5 hdr5
  clear F4 N4 hown2 hown hE hE2
  dsimp only [List.cons_append, List.nil_append] at N5
  have e0 : (⟨([] : List Nat).toArray⟩ : Str) = Str.ofString "" := by decide
  dsimp only
  rw [e0]
  k_steps
  refine Stop.go ?_
  rename Fr _ _ _ _ => F6
  rename News _ _ _ _ => N6
  refine check_brk rfl (dp_le hdp (by decide)) (un_le hun (by decide)) (KX.keeps F6.keep) (T.keeps F6.keep) hsl hsb hG ?_
  intro h7 tk7 G7 hk7 hG7
  replace F6 := fr_kept F6 hk7
  replace N6 := news_kept N6 hk7
  clear hk7
  rw [hck]
  k_steps
  refine Stop.go ?_
  exact hQ _ _ _ nl nvs kn ts hG7 hns (S.lt_nl (by assumption) (by assumption)) F6 (news_sub N6 (by dsimp only [lcells, List.cons_append, List.nil_append]; lcg_sub))
end Mine
end

section
theorem Mine.offLw8 : True := by
  w_top off
  trivial
local macro_rules | `(tactic| walk_at "none such") => `(tactic| fail)
local macro_rules | `(tactic| walk_at "none such") => `(tactic| fail)
local macro_rules | `(tactic| walk_at "none such") => `(tactic| fail)
open PySem PySem.W PyProof.Rows PySem.Spec PySem.Calls PyProof.Rows.LCg
set_option Elab.async false
set_option maxRecDepth 100000
set_option maxHeartbeats 2000000
namespace Mine
set_option pp.deepTerms false
set_option pp.maxSteps 6000
theorem item_any {prog : Program} {w : World} {A : Around} {E : Value → Shared → Prop} {s : Shared} {value slice : PySem.Expr} {l : Addr} {its : Array Value} {k : Int} {u : Tok} {v : Value} {Q : Value → Shared → Prop}
    (hl : s.heap.IsList l its) (h0 : 0 ≤ k) (hhi : k < 2 ^ 63) (hx : its[k.toNat]? = some v) (h : Q v s)
    (hs : subscripted slice false (.ref l) (.int k u) = operate [.ref l, .int k u] (getItem (.ref l) (.int k u)) := by with_unfolding_all rfl) :
    wpAny (model prog w) A (subscriptTail value slice (.ref l) (.int k u)) Q E s :=
  tail_any hl.typeIs slot_list_getitem.lookup (wpAny_getItem_list hl h0 hhi hx h) hs
theorem wdF_pos {c1 : Int} {k : Nat} (hk : k < 6) : 1 ≤ (wdF c1 k).length := by
  unfold wdF
  have h1 : (Txt.item (Str.ofString "abcdef") (0 + (k : Int))).length = 1 := by
    have : ∀ k : Nat, k < 6 → (Txt.item (Str.ofString "abcdef") (0 + (k : Int))).length = 1 := by decide
    exact this k hk
  rw [Str.length_append, h1]
  omega
noncomputable def nmOne (c1 : Int) (i j : Nat) : Str := if i = 0 then wdF c1 j else Txt.item (wdF c1 j) 0
noncomputable def nmIn (dl : List Int) (c1 : Int) (i n : Nat) : List Str := ((List.range n).filter (fun j => dl.getD j 0 == (i : Int))).map (nmOne c1 i)
noncomputable def nmOut (dl : List Int) (c1 : Int) (p i : Nat) : List Str := (List.range i).flatMap (fun i => nmIn dl c1 i p)
theorem nmIn_yes {dl : List Int} {c1 : Int} {i j : Nat} (h : dl.getD j 0 = (i : Int)) : nmIn dl c1 i (j + 1) = nmIn dl c1 i j ++ [nmOne c1 i j] := by
  unfold nmIn
  have h2 : (dl.getD j 0 == (i : Int)) = true := beq_iff_eq.mpr h
  rw [List.range_succ, List.filter_append, List.map_append, List.filter_cons_of_pos (by exact h2)]
  rfl
theorem nmIn_no {dl : List Int} {c1 : Int} {i j : Nat} (h : dl.getD j 0 ≠ (i : Int)) : nmIn dl c1 i (j + 1) = nmIn dl c1 i j := by
  unfold nmIn
  have h2 : (dl.getD j 0 == (i : Int)) = false := beq_eq_false_iff_ne.mpr h
  rw [List.range_succ, List.filter_append, List.map_append, List.filter_cons_of_neg (by rw [h2]; decide)]
  exact List.append_nil _
theorem nmOut_succ (dl : List Int) (c1 : Int) (p i : Nat) : nmOut dl c1 p (i + 1) = nmOut dl c1 p i ++ nmIn dl c1 i p := by
  unfold nmOut
  rw [List.range_succ, List.flatMap_append]
  simp
local macro_rules | `(tactic| walk_at "eval ListComp") => `(tactic| refine Stop.out ?_)
local macro_rules | `(tactic| walk_at "compareOp NotEq ref ref") => `(tactic| refine Stop.out ?_)
local macro_rules | `(tactic| walk_at "subscriptTail") => `(tactic| ((with_reducible show wpAny _ _ (subscriptTail _ _ (Value.ref _) (Value.int _ _)) _ _ _); refine Stop.out ?_))
local macro_rules | `(tactic| walk_at "execs cons") => `(tactic| with_reducible refine st_any ?_)
theorem law_8 {w : World} {vp : Program} {vl : List Str} {mean : ExcName → Option Value} {mg mb : Str → Option Value} {A : Around} {s : Shared} {g : Heap} {L Dd Dw Z nl : Nat} {R : Result → Shared → Prop} (hh : A.handled = none) (hdp : A.depth + 120 < recursionLimit) (hun : A.units + 1500 < cLine)
    (KX : (hd.heap_1 w.params).In g) (T : Top vp vl mean mg mb g) {dvs nvs : Array Value} {wvs : List Value} {dn kn : Nat} {p : Nat} {c1 : Int} {oX oW oD oR oP oC : Obj} {tp : Tok} (hoP : oP.data = .cell (some (.int (p : Int) tp))) (hoW : oW.data = .cell (some (.ref Dw))) (hoD : oD.data = .cell (some (.ref Dd)))
    (hp : p = 4 ∨ p = 6) {dl : List Int} {nm : List Str} (hId : IntsAre dvs.toList dl) (hdl : dl.length = p) (hIw : StrsAre wvs ((List.range p).map (wdF c1))) (hIn : StrsAre nvs.toList nm) (hnm : nm = nmOut dl c1 p p) (hok : ∀ y ∈ nm, PyData.strOk y = true) {ps : Array Value}
    (l93 : 93 < L) (n1 : Ne8 L Dd) (n2 : Ne8 L Dw) (n3 : Dd ≠ Dw) (hZ : Dw < Z ∧ Dd < Z ∧ L + 1 + 1 + 1 + 1 + 1 + 1 < Z) (hZn : Z < nl) {sg : Str} {ts : Tok} {o1 o2 o3 o4 o5 o6 : Option Value}
    (F : Fr g L s.heap (fun nm => if nm = Str.ofString "named" then some (.ref nl) else if nm = Str.ofString "signs" then some (.str sg ts) else if nm = Str.ofString "word" then o2 else if nm = Str.ofString "place" then o1 else if nm = Str.ofString "places" then o3 else if nm = Str.ofString "heard" then o4 else if nm = Str.ofString "page" then o5 else if nm = Str.ofString "script" then o6 else none))
    (N : News g L s.heap ((nl, W.listOf nvs kn) :: (Dw, lst wvs) :: (Dd, W.listOf dvs dn) :: lcells L oX oW oD oR oP oC ++ [(93, tabObj ps)]))
    (hQ : ∀ h' tk, Fr g L h' (fun nm => if nm = Str.ofString "named" then some (.ref nl) else if nm = Str.ofString "signs" then some (.str sg ts) else if nm = Str.ofString "word" then o2 else if nm = Str.ofString "place" then o1 else if nm = Str.ofString "places" then o3 else if nm = Str.ofString "heard" then o4 else if nm = Str.ofString "page" then o5 else if nm = Str.ofString "script" then o6 else none) → News g L h' ((Dd, W.listOf dvs dn) :: lcells L oX oW oD oR oP oC ++ [(93, tabObj ps)]) → LRest w A L R 14 ⟨h', s.gens, s.drawn, tk, s.os⟩) :
    LRest w A L R 13 s := by
  unfold LRest
  obtain ⟨_, dp, fr, gd, un⟩ := A; cases hh; dsimp only at hdp hun; revert KX; k_fill; intro KX
  obtain ⟨h, G0, d0, tk0, os0⟩ := s
  dsimp only at F N hQ
  dsimp only [lbody, lenv, lawX, List.drop]
  dsimp only [lcells, List.cons_append, List.nil_append] at N
  try k_fold
  have hp6 : p ≤ 6 := le6 hp
  k_steps
  refine Stop.go ?_
  rename Fr _ _ _ _ => F1
  rename News _ _ _ _ => N1
  refine lc2_rng (h₀ := g) (L := L) (m := (fun nm => if nm = Str.ofString "named" then some (.ref nl) else if nm = Str.ofString "signs" then some (.str sg ts) else if nm = Str.ofString "word" then o2 else if nm = Str.ofString "place" then o1 else if nm = Str.ofString "places" then o3 else if nm = Str.ofString "heard" then o4 else if nm = Str.ofString "page" then o5 else if nm = Str.ofString "script" then o6 else none)) (by with_unfolding_all rfl) (by decide) (by rfl) (by decide) (by rfl) (by rfl) (by decide) ?_
  k_steps
  rename IsRange _ _ _ _ _ _ _ _ => hrg
  rename Fr _ _ _ _ => F2
  rename News _ _ _ _ => N2
  refine ⟨_, _, _, _, p, _, fun i ys => StrsAre ys (nmOut dl c1 p i), rfl, rfl, F2, N2, hrg, by omega, .nil, ?fin, ?turn⟩
  case turn =>
    clear F2 N2
    intro i ys I oI C oC8 D m₂ t h3 tk3 E' hi hys hC hm F3 N3 off ne
    k_steps
    rename IsRange _ _ _ _ _ _ _ _ => hrg2
    rename Fr _ _ _ _ => F4
    rename News _ _ _ _ => N4
    revert N4 F4
    rename Fr _ _ _ _ => F3
    rename News _ _ _ _ => N3
    clear F3 N3
    intro F4 N4
    refine ⟨_, _, _, _, p, fun j zs => StrsAre zs (nmOut dl c1 p i ++ nmIn dl c1 i j), rfl, hrg2, by omega, _, _, rfl, F4, N4, ?j0, ?j1, ?t2⟩
    case j0 =>
      show StrsAre ys (nmOut dl c1 p i ++ [])
      rw [List.append_nil]
      exact hys
    case j1 =>
      intro zs hz
      show StrsAre zs _
      rw [nmOut_succ]
      exact hz
    case t2 =>
      clear F4 N4 hrg hrg2
      intro j zs I2 oI2 oC9 m₃ t2 h5 tk5 E2 hj hzs hC9 hmx hmy F5 N5 ne2 off2
      have hjl : j < dl.length := by omega
      obtain ⟨tv, hv⟩ := hId.get j _ (List.getElem?_eq_getElem hjl)
      have hjn : (0 + (j : Int)).toNat = j := by omega
      have hdg : dl.getD j 0 = dl[j] := by rw [List.getD_eq_getElem?_getD, List.getElem?_eq_getElem hjl]; rfl
      have hx1 : dvs[(0 + (j : Int)).toNat]? = some (.int dl[j] tv) := by rw [hjn]; simpa using hv
      obtain ⟨ww, hww⟩ : ∃ v, wvs[j]? = some v := ⟨_, List.getElem?_eq_getElem (by rw [hIw.length, List.length_map, List.length_range]; exact hj)⟩
      obtain ⟨y, tw, rfl, hy⟩ := strs_at hIw (i := j) (v := ww) hww
      have hyw : y = wdF c1 j := by
        rw [List.getElem?_map, List.getElem?_range hj] at hy
        exact (Option.some.inj hy).symm
      subst hyw
      have hx2 : wvs.toArray[(0 + (j : Int)).toNat]? = some (.str (wdF c1 j) tw) := by rw [hjn]; simpa using hww
      clear hv hww hy
      dsimp only [Off3] at off
      k_steps
      · refine Stop.go ?_
        rename Fr _ _ _ _ => F6
        rename News _ _ _ _ => N6
        refine item_any (its := wvs.toArray) ⟨_, (N6 (Dw, lst wvs) (by k_mem)).1, rfl, _, rfl⟩ (by omega) (by omega) hx2 ?_
        rename (0 + (i : Int)) = 0 => hi0
        rename List.getD _ _ _ = _ => hdj
        rw [hjn] at hdj
        have e : nmIn dl c1 i (j + 1) = nmIn dl c1 i j ++ [nmOne c1 i j] := nmIn_yes (by omega)
        have e2 : nmOne c1 i j = wdF c1 j := if_pos (by omega)
        refine ⟨_, _, rfl, F6, N6, ?_⟩
        show StrsAre _ (_ ++ nmIn dl c1 i (j + 1))
        rw [e, e2, ← List.append_assoc]
        exact strs_snoc hzs
      · refine Stop.go ?_
        rename Fr _ _ _ _ => F6
        rename News _ _ _ _ => N6
        refine item_any (its := wvs.toArray) ⟨_, (N6 (Dw, lst wvs) (by k_mem)).1, rfl, _, rfl⟩ (by omega) (by omega) hx2 ?_
        rename (0 + (i : Int)) ≠ 0 => hi0
        rename List.getD _ _ _ = _ => hdj
        rw [hjn] at hdj
        have e : nmIn dl c1 i (j + 1) = nmIn dl c1 i j ++ [nmOne c1 i j] := nmIn_yes (by omega)
        have e2 : nmOne c1 i j = Txt.item (wdF c1 j) 0 := if_neg (by omega)
        have hw1 := wdF_pos (c1 := c1) (k := j) (by omega)
        have hw2 := wdF_len (c1 := c1) (k := j) (by omega)
        obtain ⟨nw, hnw⟩ : ∃ n, (wdF c1 j).length = n := ⟨_, rfl⟩
        rw [hnw] at hw1 hw2
        dsimp only
        k_steps
        rename Fr _ _ _ _ => F8
        rename News _ _ _ _ => N8
        refine ⟨_, _, rfl, F8, N8, ?_⟩
        show StrsAre _ (_ ++ nmIn dl c1 i (j + 1))
        rw [e, e2, ← List.append_assoc]
        exact strs_snoc hzs
      · rename Fr _ _ _ _ => F8
        rename News _ _ _ _ => N8
        rename List.getD _ _ _ ≠ _ => hdj
        rw [hjn] at hdj
        have e : nmIn dl c1 i (j + 1) = nmIn dl c1 i j := nmIn_no (by omega)
        refine ⟨_, _, rfl, F8, N8, ?_⟩
        show StrsAre _ (_ ++ nmIn dl c1 i (j + 1))
        rw [e]
        exact hzs
  case fin =>
    intro ys hys D h9 tk9 F9 N9 off
    clear F2 N2 hrg
    dsimp only [Off1] at off
    dsimp only
    k_steps
    refine Stop.go ?_
    rename Fr _ _ _ _ => F10
    rename News _ _ _ _ => N10
    rw [← hnm] at hys
    refine ne_strsK (vs := nvs.toList) ⟨_, (N10 (nl, W.listOf nvs kn) (by k_mem)).1, rfl, kn, by simp⟩ hIn ⟨_, (N10 (D, lst ys) (by k_mem)).1, rfl, _, rfl⟩ hys hok (un_le hun (by decide)) ?_
    k_steps
    refine Stop.go ?_
    exact hQ _ _ F10 (news_sub N10 (by dsimp only [lcells, List.cons_append, List.nil_append]; lcg_sub))
end Mine
end

section
theorem Mine.offLw9 : True := by
  w_top off
  trivial
open PySem PySem.W PyProof.Rows PySem.Spec PySem.Calls PyProof.Rows.LCg
set_option Elab.async false
set_option maxRecDepth 100000
set_option maxHeartbeats 2000000
namespace Mine
set_option pp.deepTerms false
set_option pp.maxSteps 6000
noncomputable def nearB (dl : List Int) (j i : Nat) : Bool := dl.getD i 0 - dl.getD j 0 == 0 || dl.getD i 0 - dl.getD j 0 == 1
theorem near_any {d : Int} {b : Bool} (h : (([0, 1] : List Int).any fun x => x == d) = b) : (d == 0 || d == 1) = b := by
  rw [← h]
  show _ = ((0 : Int) == d || ((1 : Int) == d || false))
  rw [Bool.or_false, show (d == 0) = ((0 : Int) == d) from Bool.beq_comm, show (d == 1) = ((1 : Int) == d) from Bool.beq_comm]
noncomputable def nearIn (dl : List Int) (j n : Nat) : Nat := ((List.range n).filter (nearB dl j)).length
noncomputable def nearOut (dl : List Int) (n : Nat) : Nat := ((List.range n).map (fun j => nearIn dl j j)).sum
theorem nearIn_yes {dl : List Int} {i j : Nat} (h : nearB dl j i = true) : nearIn dl j (i + 1) = nearIn dl j i + 1 := by
  unfold nearIn
  rw [List.range_succ, List.filter_append, List.filter_cons_of_pos (by exact h), List.length_append]
  rfl
theorem nearIn_no {dl : List Int} {i j : Nat} (h : nearB dl j i = false) : nearIn dl j (i + 1) = nearIn dl j i := by
  unfold nearIn
  rw [List.range_succ, List.filter_append, List.filter_cons_of_neg (by rw [h]; decide), List.length_append]
  rfl
theorem nearOut_succ (dl : List Int) (n : Nat) : nearOut dl (n + 1) = nearOut dl n + nearIn dl n n := by
  unfold nearOut
  rw [List.range_succ, List.map_append, List.sum_append]
  rfl
local macro_rules | `(tactic| walk_at "exec Assign cons ListComp") => `(tactic| refine Stop.out ?_)
local macro_rules | `(tactic| walk_at "execs cons") => `(tactic| with_reducible refine st_if ?_)
theorem law_9 {w : World} {vp : Program} {vl : List Str} {mean : ExcName → Option Value} {mg mb : Str → Option Value} {A : Around} {s : Shared} {g : Heap} {L Dd nl : Nat} {R : Result → Shared → Prop} (hh : A.handled = none) (hdp : A.depth + 120 < recursionLimit) (hun : A.units + 1500 < cLine)
    (KX : (hd.heap_1 w.params).In g) (T : Top vp vl mean mg mb g) {dvs : Array Value} {dn : Nat} {p : Nat} {oX oW oD oR oP oC : Obj} {tp : Tok} (hoP : oP.data = .cell (some (.int (p : Int) tp))) (hoD : oD.data = .cell (some (.ref Dd)))
    (hp : p = 4 ∨ p = 6) {dl : List Int} (hId : IntsAre dvs.toList dl) (hdl : dl.length = p) (hdb : ∀ i, i < p → 0 ≤ dl.getD i 0 ∧ dl.getD i 0 ≤ 100) {ps : Array Value}
    (l93 : 93 < L) (n1 : Ne8 L Dd) {sg : Str} {ts : Tok} {o1 o2 o3 o4 o5 o6 : Option Value}
    (F : Fr g L s.heap (fun nm => if nm = Str.ofString "named" then some (.ref nl) else if nm = Str.ofString "signs" then some (.str sg ts) else if nm = Str.ofString "word" then o2 else if nm = Str.ofString "place" then o1 else if nm = Str.ofString "places" then o3 else if nm = Str.ofString "heard" then o4 else if nm = Str.ofString "page" then o5 else if nm = Str.ofString "script" then o6 else none))
    (N : News g L s.heap ((Dd, W.listOf dvs dn) :: lcells L oX oW oD oR oP oC ++ [(93, tabObj ps)]))
    (hQ : ∀ h' tk (D : Nat) ys, ys.length = nearOut dl p → Dd ≠ D → Ne8 L D → Fr g L h' (fun nm => if nm = Str.ofString "near" then some (.ref D) else if nm = Str.ofString "named" then some (.ref nl) else if nm = Str.ofString "signs" then some (.str sg ts) else if nm = Str.ofString "word" then o2 else if nm = Str.ofString "place" then o1 else if nm = Str.ofString "places" then o3 else if nm = Str.ofString "heard" then o4 else if nm = Str.ofString "page" then o5 else if nm = Str.ofString "script" then o6 else none) →
      News g L h' ((D, lst ys) :: (Dd, W.listOf dvs dn) :: lcells L oX oW oD oR oP oC ++ [(93, tabObj ps)]) → LRest w A L R 15 ⟨h', s.gens, s.drawn, tk, s.os⟩) :
    LRest w A L R 14 s := by
  unfold LRest
  obtain ⟨_, dp, fr, gd, un⟩ := A; cases hh; dsimp only at hdp hun; revert KX; k_fill; intro KX
  obtain ⟨h, G0, d0, tk0, os0⟩ := s
  dsimp only at F N hQ
  dsimp only [lbody, lenv, lawX, List.drop]
  dsimp only [lcells, List.cons_append, List.nil_append] at N
  try k_fold
  have hp6 : p ≤ 6 := le6 hp
  k_steps
  refine Stop.go ?_
  refine assign_lc2 (h₀ := g) (L := L) (m := (fun nm => if nm = Str.ofString "named" then some (.ref nl) else if nm = Str.ofString "signs" then some (.str sg ts) else if nm = Str.ofString "word" then o2 else if nm = Str.ofString "place" then o1 else if nm = Str.ofString "places" then o3 else if nm = Str.ofString "heard" then o4 else if nm = Str.ofString "page" then o5 else if nm = Str.ofString "script" then o6 else none)) (by rfl) (by with_unfolding_all rfl) (by with_unfolding_all rfl) (by decide) (by rfl) (by decide) (by rfl) (by rfl) (by decide) (by rfl) (by rfl) ?_
  k_steps
  rename IsRange _ _ _ _ _ _ _ _ => hrg
  rename Fr _ _ _ _ => F2
  rename News _ _ _ _ => N2
  refine ⟨_, _, _, _, p, _, fun i ys => ys.length = nearOut dl i, rfl, rfl, F2, N2, hrg, by omega, rfl, ?fin, ?turn⟩
  case turn =>
    clear F2 N2
    intro i ys I oI C oC8 D m₂ t h3 tk3 E' hi hys hC hm F3 N3 off ne
    k_steps
    rename IsRange _ _ _ _ _ _ _ _ => hrg2
    rename Fr _ _ _ _ => F4
    rename News _ _ _ _ => N4
    revert N4 F4
    rename Fr _ _ _ _ => F3
    rename News _ _ _ _ => N3
    clear F3 N3
    intro F4 N4
    have e0 : (0 : Int) + (i : Int) = (i : Int) := Int.zero_add _
    have hrg3 := hrg2
    rw [e0] at hrg3
    refine ⟨_, _, _, _, i, fun j zs => zs.length = nearOut dl i + nearIn dl i j, rfl, hrg3, by omega, _, _, rfl, F4, N4, hys, ?j1, ?t2⟩
    case j1 =>
      intro zs hz
      show zs.length = _
      rw [nearOut_succ]
      exact hz
    case t2 =>
      clear F4 N4 hrg hrg2 hrg3
      intro j zs I2 oI2 oC9 m₃ t2 h5 tk5 E2 hj hzs hC9 hmx hmy F5 N5 ne2 off2
      have hjn : (0 + (j : Int)).toNat = j := by omega
      have hin : (0 + (i : Int)).toNat = i := by omega
      have hb1 := hdb i hi
      have hb2 := hdb j (by omega)
      dsimp only [Off3] at off
      k_steps
      · rename (List.any _ _) = true => hany
        rw [hjn, hin] at hany
        have e : nearIn dl i (j + 1) = nearIn dl i j + 1 := nearIn_yes (near_any hany)
        rename Fr _ _ _ _ => F8
        rename News _ _ _ _ => N8
        refine ⟨_, _, rfl, F8, news_sub N8 (by lcg_sub), ?_⟩
        show (zs ++ [_]).length = _ + nearIn dl i (j + 1)
        rw [e, List.length_append, hzs]
        rfl
      · rename (List.any _ _) = false => hany
        rw [hjn, hin] at hany
        have e : nearIn dl i (j + 1) = nearIn dl i j := nearIn_no (near_any hany)
        rename Fr _ _ _ _ => F8
        rename News _ _ _ _ => N8
        refine ⟨_, _, rfl, F8, news_sub N8 (by lcg_sub), ?_⟩
        show zs.length = _ + nearIn dl i (j + 1)
        rw [e]
        exact hzs
  case fin =>
    intro ys hys D h9 tk9 F9 N9 off
    clear F2 N2 hrg
    obtain ⟨f1, f2, f3, f4, f5, f6, f7, f8, _⟩ := off
    dsimp only
    k_steps
    refine Stop.go ?_
    exact hQ _ _ D ys hys f1 ⟨f2, f3, f4, f5, f6, f7, f8⟩ F9 N9
end Mine
end

section
theorem Mine.offLwA : True := by
  w_top off
  trivial
local macro_rules | `(tactic| walk_at "none such") => `(tactic| fail)
local macro_rules | `(tactic| walk_at "none such") => `(tactic| fail)
local macro_rules | `(tactic| walk_at "none such") => `(tactic| fail)
open PySem PySem.W PyProof.Rows PySem.Spec PySem.Calls PyProof.Rows.LCg
set_option Elab.async false
set_option maxRecDepth 100000
set_option maxHeartbeats 2000000
namespace Mine
set_option pp.deepTerms false
set_option pp.maxSteps 6000
local macro_rules | `(tactic| walk_at "call ref") => `(tactic| refine Stop.out ?_)
local macro_rules | `(tactic| walk_at "call builtin:sum") => `(tactic| refine Stop.out ?_)
local macro_rules | `(tactic| walk_at "compareOp Eq ref ref") => `(tactic| refine Stop.out ?_)
theorem law_10 {w : World} {vp : Program} {vl : List Str} {mean : ExcName → Option Value} {mg mb : Str → Option Value} {A : Around} {s : Shared} {g : Heap} {L Dd nl Dn : Nat} {R : Result → Shared → Prop} (hh : A.handled = none) (hdp : A.depth + 120 < recursionLimit) (hun : A.units + 1500 < cLine)
    (KX : (hd.heap_1 w.params).In g) (T : Top vp vl mean mg mb g) {dvs : Array Value} {dn : Nat} {ys : List Value} {p : Nat} {oX oW oD oR oP oC : Obj} (hoD : oD.data = .cell (some (.ref Dd)))
    (hp : p = 4 ∨ p = 6) {dl : List Int} (hId : IntsAre dvs.toList dl) (hdl : dl.length = p) {ps : Array Value} (hys : ys.length = nearOut dl p) (hyb : nearOut dl p ≤ 100) (hG : AllBare s.gens)
    (l93 : 93 < L) (n1 : Ne8 L Dd) (n2 : Ne8 L Dn) (n3 : Dd ≠ Dn) {sg : Str} (hsl : sg.length ≤ 100) (hs1 : (depF sg.cps.toList).1.sum = (nearOut dl p : Int)) (hs2 : bounceF sg = some dl.sum) (hs3 : backF sg = some dl) {ts : Tok} {o1 o2 o3 o4 o5 o6 : Option Value}
    (F : Fr g L s.heap (fun nm => if nm = Str.ofString "near" then some (.ref Dn) else if nm = Str.ofString "named" then some (.ref nl) else if nm = Str.ofString "signs" then some (.str sg ts) else if nm = Str.ofString "word" then o2 else if nm = Str.ofString "place" then o1 else if nm = Str.ofString "places" then o3 else if nm = Str.ofString "heard" then o4 else if nm = Str.ofString "page" then o5 else if nm = Str.ofString "script" then o6 else none))
    (N : News g L s.heap ((Dn, lst ys) :: (Dd, W.listOf dvs dn) :: lcells L oX oW oD oR oP oC ++ [(93, tabObj ps)]))
    (hQ : ∀ h' tk G, Kept g h' → h'.get? 93 = some (tabObj ps) → AllBare G → R (.ok (.ret (.bool true))) ⟨h', G, s.drawn, tk, s.os⟩) :
    LRest w A L R 15 s := by
  unfold LRest
  obtain ⟨_, dp, fr, gd, un⟩ := A; cases hh; dsimp only at hdp hun; revert KX; k_fill; intro KX
  obtain ⟨h, G0, d0, tk0, os0⟩ := s
  dsimp only at F N
  dsimp only [lbody, lenv, lawX, List.drop]
  dsimp only [lcells, List.cons_append, List.nil_append] at N
  try k_fold
  have hp6 : p ≤ 6 := le6 hp
  k_steps
  refine Stop.go ?_
  rename Fr _ _ _ _ => F2
  rename News _ _ _ _ => N2
  refine depths_spec rfl (dp_le hdp (by decide)) (un_le hun (by decide)) (KX.keeps F2.keep) (T.keeps F2.keep) (by exact hsl) ?_
  intro Da avs an h4 tk4 hIa hDa hDn hk4
  have N4 : News g L h4 ((Da, W.listOf avs an) :: _) := news_put hDa (fun q => by
    subst q
    obtain ⟨o, _, _, e, _⟩ := F2.ns
    rw [e] at hDn; cases hDn) (by
    cases q : g.get? Da with
    | none => rfl
    | some o => have := F2.keep _ _ q; rw [hDn] at this; cases this) (news_kept N2 hk4)
  have F4 := fr_kept F2 hk4
  clear F2 N2 hDa hDn hk4
  dsimp only
  k_steps
  refine Stop.go ?_
  have hIa2 : (⟨h4, G0, d0, tk4, os0⟩ : Shared).heap.IsList Da avs.toList.toArray := ⟨_, (N4 _ (.head _)).1, rfl, an, by simp⟩
  refine LSm.sum_ints F4 N4 rfl hIa2 hIa ?_
  intro h5 tk5 t5 F5 N5
  clear F4 N4 hIa2
  rw [hs1]
  dsimp only
  k_steps
  have hyz : ys.toArray.size = nearOut dl p := by rw [List.size_toArray]; exact hys
  refine len_list (items := ys.toArray) (News.isList N5 (.tail _ (.head _))) (by rw [hyz]; omega) ?_
  rw [hyz]
  dsimp only
  k_steps
  · exact absurd rfl (by assumption)
  refine Stop.go ?_
  clear hIa
  rename Fr _ _ _ _ => F6
  rename News _ _ _ _ => N6
  refine bounce_spec rfl (dp_le hdp (by decide)) (un_le hun (by decide)) (KX.keeps F6.keep) (T.keeps F6.keep) hsl hs2 ?_
  intro t7 h7 tk7 hk7
  have N7 := news_kept N6 hk7
  have F7 := fr_kept F6 hk7
  clear F6 N6 hk7
  dsimp only
  k_steps
  refine Stop.go ?_
  have hIa3 := (⟨_, (N7 (Dd, W.listOf dvs dn) (by k_mem)).1, rfl, dn, by simp⟩ : Heap.IsList _ Dd dvs.toList.toArray)
  refine LSm.sum_ints F7 N7 rfl hIa3 hId ?_
  intro h8 tk8 t8 F8 N8
  clear F7 N7 hIa3
  dsimp only
  k_steps
  · exact absurd rfl (by assumption)
  refine Stop.go ?_
  rename Fr _ _ _ _ => F9
  rename News _ _ _ _ => N9
  refine back_spec rfl (dp_le hdp (by decide)) (un_le hun (by decide)) (KX.keeps F9.keep) (T.keeps F9.keep) hsl hs3 ?_
  intro Db bvs bn h10 tk10 hIb hDb hDn2 hk10
  have N10 : News g L h10 ((Db, W.listOf bvs bn) :: _) := news_put hDb (fun q => by
    subst q
    obtain ⟨o, _, _, e, _⟩ := F9.ns
    rw [e] at hDn2; cases hDn2) (by
    cases q : g.get? Db with
    | none => rfl
    | some o => have := F9.keep _ _ q; rw [hDn2] at this; cases this) (news_kept N9 hk10)
  have F10 := fr_kept F9 hk10
  clear F9 N9 hDb hDn2 hk10
  dsimp only
  k_steps
  refine Stop.go ?_
  have hIb2 := (⟨_, (N10 (Db, W.listOf bvs bn) (.head _)).1, rfl, bn, by simp⟩ : Heap.IsList _ Db bvs.toList.toArray)
  have hIb3 := (⟨_, (N10 (Dd, W.listOf dvs dn) (by k_mem)).1, rfl, dn, by simp⟩ : Heap.IsList _ Dd dvs.toList.toArray)
  refine eq_intsK hIb2 hIb hIb3 hId (un_le hun (by decide)) ?_
  clear hIb2 hIb3 hIb
  rw [decide_eq_true rfl]
  (try dsimp only)
  k_steps
  exact hQ _ _ _ (fun b o e => F10.keep b o e) (N10 (93, tabObj ps) (by k_mem)).1 hG
end Mine
end

section
theorem Mine.offSpc : True := by
  w_top off
  trivial
open PySem PySem.W PyProof.Rows PySem.Spec PySem.Calls PyProof.Rows.LCg
set_option Elab.async false
set_option maxRecDepth 100000
set_option maxHeartbeats 1000000
namespace Mine
set_option pp.deepTerms false
set_option pp.maxSteps 6000
structure ReadOk (c1 c2 : Int) (p : Nat) (rest : Nat → List Nat) (lnn : Nat → Int) : Prop where
  r0 : rest 0 = (pageF c1 c2 p).cps.toList
  l0 : lnn 0 = 1
  hr : ∀ i, i < p → outF (rest i) (lnn i) = ((wdF c1 i).cps.toList, rest (i + 1), lnn (i + 1))
  rp : rest p = []
  lp : lnn p = 1 + Txt.count (pageF c1 c2 p) (Str.ofString "\n")
structure RowOk (rw : Str) (c1 : Int) (p : Nat) (dl : List Int) (sg : Str) (nm : List Str) : Prop where
  hd : dl = (depF rw.cps.toList).1
  hpl : (plcN rw rw.length).length = p
  hsl : ∀ q ∈ plcN rw rw.length, Brk (Txt.slice rw none (some q)) ∧ (Txt.slice rw none (some q)).length ≤ 12
  hsw : swpOut (p + 1) (waitS rw c1 p) (Str.ofString "") [] p = some ([], sg, nm)
  hsb : Brk sg
  hsl2 : sg.length ≤ 100
  hck : chkF sg.cps.toList = true
  hdl : dl.length = p
  hnm : nm = nmOut dl c1 p p
  hok : ∀ y ∈ nm, PyData.strOk y = true
  hdb : ∀ i, i < p → 0 ≤ dl.getD i 0 ∧ dl.getD i 0 ≤ 100
  hs1 : (depF sg.cps.toList).1.sum = (nearOut dl p : Int)
  hs2 : bounceF sg = some dl.sum
  hs3 : backF sg = some dl
  hyb : nearOut dl p ≤ 100
noncomputable abbrev InC (c : Int) : Prop := 0 ≤ c ∧ c < 5000
theorem law_spec_of (hread : ∀ c1 c2 p, InC c1 → InC c2 → p = 4 ∨ p = 6 → (∃ rest lnn, ReadOk c1 c2 p rest lnn) ∧ (pageF c1 c2 p).length ≤ 100)
    (hrow : ∀ c0 c1 p, InC c0 → InC c1 → p = 4 ∨ p = 6 → ∃ dl sg nm, RowOk (rowS c0 p (2 * p)) c1 p dl sg nm) : LawSpec := by
  intro w vp vl mean mg mb s sl vs ns KX T codeHd h93 hG hL hI hlen
  have keep : Kept (gh93 s.heap) s.heap := fun b o e => of_hideAll _ e
  have hd1 : callerA.depth + 120 < recursionLimit := by decide
  have hu1 : callerA.units + 1500 < cLine := by decide
  have hd2 : callerA.depth + 80 < recursionLimit := by decide
  have hu2 : callerA.units + 1000 < cLine := by decide
  refine law_1 rfl hd2 hu2 KX T keep (Nat.le_of_eq (hideAll_size _ _)) h93 ?hg hL hI hlen ?_
  case hg => exact hideAll_none _ (.head _)
  intro h1 tk1 Dc cvs kc c0 c1 c2 p tp oX oW oD oR oP oC hoX hoW hoD hoR hoP hoC hIc hc0 hc1 hc2 hp F1 N1 lD l93
  have hp6 : p ≤ 6 := by omega
  obtain ⟨⟨rest, lnn, RD⟩, hpg⟩ := hread c1 c2 p hc1 hc2 hp
  obtain ⟨dl, sg, nm, RW⟩ := hrow c0 c1 p hc0 hc1 hp
  refine law_2 rfl hd2 hu2 KX T hoX hoW hoD hoR hoP hoC hIc hc0 hc1 hc2 hp F1 N1 lD l93 ?_
  clear F1 N1
  intro h2 tk2 Dd Dw dvs dn wvs tr oW' oD' oR' hoD' hoR' hoW' hId hIw n1 n2 n3 F2 N2
  rw [← RW.hd] at hId
  refine law_3 (dvs' := []) rfl hd2 hu2 KX T hoC hoW' hIc hc2 hp hIw lD l93 n1 n2 n3 F2 N2 ?_
  clear F2 N2
  intro h3 tk3 tpg F3 N3
  refine law_4 (c0 := c0) rfl hd2 hu2 KX T codeHd hoX hoW' hp hIw RD.r0 RD.l0 RD.hr RD.rp RD.lp lD l93 n1 n2 n3 F3 N3 ?_
  clear F3 N3
  intro h4 tk4 S Dh hvs oX' ps t5 pos t6 k6 Z hoX' hIh hpos hdr hZ hZS hDa n5 n4 F4 N4
  have N4b := news_sub (news := (Dh, lst hvs) :: (Dw, lst wvs) :: (Dd, W.listOf dvs dn) :: lcells s.heap.objs.size oX' oW' oD' oR' oP oC ++ ((93, tabObj ps) :: S.led (lnn p) t5 (W.listOf #[] 0) pos t6 k6)) N4 (fun q hq => by
    rcases List.mem_cons.mp hq with rfl | hq
    · exact .head _
    rcases List.mem_cons.mp hq with rfl | hq
    · exact .tail _ (.head _)
    rcases List.mem_cons.mp hq with rfl | hq
    · exact .tail _ (.tail _ (.head _))
    · exact .tail _ (.tail _ (.tail _ (.tail _ hq))))
  clear N4
  have hrl : (rowS c0 p (2 * p)).length = 2 * p := rowS_len _ _ _
  refine law_5a rfl hd1 hu1 KX T S hoX' hoR' hp hrl RW.hpl RW.hsl hIh l93 n1 n2 n3.1 n4 ⟨n5.1, n5.2.1⟩ ⟨hZ.1, hZ.2.1, hZ.2.2.2⟩ hZS hDa hG F4 N4b ?_
  clear F4 N4b
  intro h5 tk5 D pvs hpv hDb n6 n7 F5 N5
  refine law_5b rfl hd1 hu1 KX T S hoX' hoR' hp hrl RW.hpl RW.hsl hIh l93 n1 n2 n3.1 n4 ⟨n5.1, n5.2.1⟩ ⟨hZ.1, hZ.2.1, hZ.2.2.2⟩ hZS hDa hpv hDb n6 n7 hG F5 N5 ?_
  clear F5 N5
  intro h6 tk6 G6 vs6 kp6 o1 o2 hG6 hvs6 F6 N6
  refine law_7 rfl hd1 hu1 KX T S hpg hoX' hoP hp hvs6 RW.hsw RW.hsb RW.hsl2 RW.hck hpos hdr l93 n1 n2 n3.1 ⟨hZ.1, hZ.2.1, hZ.2.2.2⟩ hZS hG6 F6 N6 ?_
  clear F6 N6
  intro h7 tk7 G7 nl nvs kn ts hG7 hIn hZn F7 N7
  refine law_8 rfl hd1 hu1 KX T hoP hoW' hoD' hp hId RW.hdl hIw hIn RW.hnm RW.hok l93 n1 n2 n3.1 ⟨hZ.1, hZ.2.1, hZ.2.2.2⟩ hZn F7 N7 ?_
  clear F7 N7
  intro h8 tk8 F8 N8
  refine law_9 rfl hd1 hu1 KX T hoP hoD' hp hId RW.hdl RW.hdb l93 n1 F8 N8 ?_
  clear F8 N8
  intro h9 tk9 Dn ys hys n8 n9 F9 N9
  refine law_10 rfl hd1 hu1 KX T hoD' hp hId RW.hdl hys RW.hyb hG7 l93 n1 n9 n8 RW.hsl2 RW.hs1 RW.hs2 RW.hs3 F9 N9 ?_
  intro h10 tk10 G10 hk10 hg10 hG10
  exact ⟨rfl, hk10, ⟨_, hg10⟩, rfl, hG10⟩
end Mine
end

section
theorem Mine.offRea : True := by
  w_top off
  trivial
open PySem PySem.W PyProof.Rows PySem.Spec PySem.Calls PyProof.Rows.LCg
set_option Elab.async false
set_option maxRecDepth 100000
set_option maxHeartbeats 1000000
namespace Mine
theorem item_abc : ∀ k, k < 6 → Txt.item (Str.ofString "abcdef") (0 + ((k : Nat) : Int)) = ⟨#[97 + k]⟩ := by decide +kernel
theorem suf_form (j : Int) : ∃ s, s ∈ [[], [32], [9], [10, 32]] ∧ sufF j = ⟨s.toArray⟩ := by
  unfold sufF
  split
  · exact ⟨[], by decide, by decide +kernel⟩
  split
  · exact ⟨[32], by decide, by decide +kernel⟩
  split
  · exact ⟨[9], by decide, by decide +kernel⟩
  · exact ⟨[10, 32], by decide, by decide +kernel⟩
theorem wd_form (c1 : Int) {k : Nat} (hk : k < 6) : ∃ s, s ∈ [[], [32], [9], [10, 32]] ∧ wdF c1 k = ⟨((97 + k) :: s).toArray⟩ := by
  obtain ⟨s, hs, e⟩ := suf_form ((c1.fdiv (4 ^ (0 + (k : Int)).toNat)).fmod 4)
  refine ⟨s, hs, ?_⟩
  unfold wdF
  rw [e, item_abc k hk]
  show Str.mk (#[97 + k] ++ s.toArray) = _
  simp
/-- the list view of a word: no quote, no backslash, 1 to 3 signs -/
theorem wd_list (c1 : Int) {k : Nat} (hk : k < 6) : ∃ c r, (wdF c1 k).cps.toList = c :: r ∧ (c :: r).length ≤ 3 ∧ ∀ d ∈ c :: r, d ≠ 34 ∧ d ≠ 92 := by
  obtain ⟨s, hs, e⟩ := wd_form c1 hk
  refine ⟨97 + k, s, by rw [e], ?_, ?_⟩
  · simp only [List.mem_cons, List.not_mem_nil, or_false] at hs
    rcases hs with rfl | rfl | rfl | rfl <;> simp
  · intro d hd
    simp only [List.mem_cons, List.not_mem_nil, or_false] at hs
    rcases List.mem_cons.mp hd with rfl | hd
    · omega
    · rcases hs with rfl | rfl | rfl | rfl
      · cases hd
      · simp at hd; omega
      · simp at hd; omega
      · simp at hd; omega
theorem glue_list (sep : Str) (l : List Str) (acc : Array Nat) : (l.foldl (fun acc p => acc ++ sep.cps ++ p.cps) acc).toList = acc.toList ++ l.flatMap (fun p => sep.cps.toList ++ p.cps.toList) := by
  induction l generalizing acc with
  | nil => simp
  | cons p r ih => rw [List.foldl_cons, ih]; simp
theorem join_list (sep x : Str) (r : List Str) : (Txt.join sep (x :: r)).cps.toList = x.cps.toList ++ r.flatMap (fun p => sep.cps.toList ++ p.cps.toList) := by
  show (Builtin.Str.glued sep (x :: r)).cps.toList = _
  unfold Builtin.Str.glued
  rw [glue_list]
  rfl
theorem join_none (l : List Str) : (Txt.join (Str.ofString "") l).cps.toList = l.flatMap (fun p => p.cps.toList) := by
  have e : (Str.ofString "").cps.toList = [] := by decide
  cases l with
  | nil => decide
  | cons x r => rw [join_list, e]; simp
theorem escB_list (c : Nat) : (escB c).cps.toList = [92, c] := by
  have e : Str.ofString "\\" = ⟨#[92]⟩ := by decide
  unfold escB
  rw [e]; rfl
theorem escQ_list {c : Nat} (h : c ≠ 34) : (escQ c).cps.toList = [c] := by
  unfold escQ
  rw [if_neg h]
theorem word_bare {x : Str} {v : Int} (hv : v ≠ 0) : (wordF x v).cps.toList = x.cps.toList.flatMap (fun c => [92, c]) := by
  unfold wordF
  rw [if_pos hv, join_none]
  induction x.cps.toList with
  | nil => rfl
  | cons c r ih => rw [List.map_cons, List.flatMap_cons, ih, escB_list, List.flatMap_cons]
theorem word_quot {x : Str} (hx : ∀ d ∈ x.cps.toList, d ≠ 34 ∧ d ≠ 92) : (wordF x 0).cps.toList = 34 :: (x.cps.toList ++ [34]) := by
  unfold wordF
  rw [if_neg (by simp)]
  have e : Str.ofString "\"" = ⟨#[34]⟩ := by decide
  rw [e, cps_toList_append, cps_toList_append, join_none]
  show [34] ++ _ ++ [34] = _
  rw [List.append_assoc]
  show 34 :: (_ ++ [34]) = _
  congr 2
  revert hx
  generalize x.cps.toList = l
  intro hx
  induction l with
  | nil => rfl
  | cons c r ih => rw [List.map_cons, List.flatMap_cons, ih (fun d hd => hx d (.tail _ hd)), escQ_list (hx c (.head _)).1]; rfl
theorem lnF_one (ln : Int) (c : Nat) : lnF ln [c] = ln + (if c = 10 then 1 else 0) := by
  unfold lnF
  by_cases h : c = 10
  · subst h; rfl
  · rw [if_neg (by simpa using h), if_neg h]; omega
theorem quo_read (l : List Nat) (hl : ∀ d ∈ l, d ≠ 34 ∧ d ≠ 92) (tail tok : List Nat) (ln : Int) : ∃ ln', quoF (l ++ 34 :: tail) tok ln = (tok ++ l, tail, ln') := by
  induction l generalizing tok ln with
  | nil => exact ⟨_, by rw [List.append_nil, List.nil_append]; unfold quoF; rw [if_pos rfl]⟩
  | cons c r ih =>
    obtain ⟨ln', e⟩ := ih (fun d hd => hl d (.tail _ hd)) (tok ++ [c]) (lnF ln [c])
    refine ⟨ln', ?_⟩
    rw [List.cons_append]
    unfold quoF
    rw [if_neg (hl c (.head _)).1, if_neg (hl c (.head _)).2, e]
    simp
theorem bar_read (l tail tok : List Nat) (ln : Int) : ∃ ln', barF (l.flatMap (fun c => [92, c]) ++ tail) tok ln = barF tail (tok ++ l) ln' := by
  induction l generalizing tok ln with
  | nil => exact ⟨ln, by simp⟩
  | cons c r ih =>
    obtain ⟨ln', e⟩ := ih (tok ++ [c]) (lnF (lnF ln [92]) [c])
    refine ⟨ln', ?_⟩
    rw [List.flatMap_cons]
    show barF (92 :: c :: (r.flatMap (fun c => [92, c]) ++ tail)) tok ln = _
    rw [barF]
    rw [if_neg (by decide), if_pos rfl]
    (try dsimp only)
    rw [e]
    simp
noncomputable abbrev LnOk (xs : List Nat) (ln : Int) (r : List Nat × List Nat × Int) : Prop := r.2.2 + cnt 10 r.2.1 = ln + cnt 10 xs
theorem quo_ln (xs tok : List Nat) (ln : Int) : LnOk xs ln (quoF xs tok ln) := by
  induction xs, tok, ln using quoF.induct with
  | case1 tok ln => rfl
  | case2 tok ln r => unfold quoF LnOk; rw [if_pos rfl, lnF_one, cnt_cons]; simp only []; omega
  | case3 tok ln h => unfold quoF LnOk; rw [if_neg (by decide), if_pos rfl]; simp only [lnF_one, cnt_cons, cnt_nil]; omega
  | case4 tok ln d r' h ih =>
    unfold quoF; rw [if_neg (by decide), if_pos rfl]; dsimp only; unfold LnOk at ih ⊢; rw [ih]; simp only [lnF_one, cnt_cons]; omega
  | case5 tok ln c r h1 h2 ih => unfold quoF; rw [if_neg h1, if_neg h2]; unfold LnOk at ih ⊢; rw [ih]; simp only [lnF_one, cnt_cons]; omega
theorem bar_ln (xs tok : List Nat) (ln : Int) : LnOk xs ln (barF xs tok ln) := by
  induction xs, tok, ln using barF.induct with
  | case1 tok ln => rfl
  | case2 tok ln c r h => unfold barF LnOk; rw [if_pos h, lnF_one, cnt_cons]; simp only []; omega
  | case3 tok ln h1 => unfold barF LnOk; rw [if_neg (by decide), if_pos rfl]; simp only [lnF_one, cnt_cons, cnt_nil]; omega
  | case4 tok ln d r' h ih =>
    unfold barF; rw [if_neg (by decide), if_pos rfl]; dsimp only; unfold LnOk at ih ⊢; rw [ih]; simp only [lnF_one, cnt_cons]; omega
  | case5 tok ln c r h1 h2 ih => unfold barF; rw [if_neg h1, if_neg h2]; unfold LnOk at ih ⊢; rw [ih]; simp only [lnF_one, cnt_cons]; omega
theorem out_ln (xs : List Nat) (ln : Int) : LnOk xs ln (outF xs ln) := by
  induction xs generalizing ln with
  | nil => rfl
  | cons c r ih =>
    unfold outF
    split
    · have := ih (lnF ln [c]); unfold LnOk at this ⊢; rw [this]; simp only [lnF_one, cnt_cons]; omega
    split
    · have := quo_ln r [] (lnF ln [c]); unfold LnOk at this ⊢; rw [this]; simp only [lnF_one, cnt_cons]; omega
    split
    · rename_i h; subst h
      cases r with
      | nil => unfold LnOk; simp only [lnF_one, cnt_cons, cnt_nil]; omega
      | cons d r' => dsimp only; have := bar_ln r' [d] (lnF (lnF ln [92]) [d]); unfold LnOk at this ⊢; rw [this]; simp only [lnF_one, cnt_cons]; omega
    · have := bar_ln r [c] (lnF ln [c]); unfold LnOk at this ⊢; rw [this]; simp only [lnF_one, cnt_cons]; omega
noncomputable def jT (ws : List (List Nat)) : List Nat := ws.flatMap (fun y => 10 :: y)
noncomputable def jL : List (List Nat) → List Nat
  | [] => []
  | x :: r => x ++ jT r
theorem page_list (l : List Str) : (Txt.join (Str.ofString "\n") l).cps.toList = jL (l.map (·.cps.toList)) := by
  have e : (Str.ofString "\n").cps.toList = [10] := by decide
  cases l with
  | nil => decide
  | cons x r =>
    rw [join_list, e, List.map_cons]
    show _ = x.cps.toList ++ (r.map (·.cps.toList)).flatMap (fun y => 10 :: y)
    rw [List.flatMap_map]
    rfl
theorem jT_len (ws : List (List Nat)) (h : ∀ w ∈ ws, w.length ≤ 8) : (jT ws).length ≤ 9 * ws.length := by
  induction ws with
  | nil => exact Nat.zero_le _
  | cons x r ih =>
    have h1 := ih (fun w hw => h w (.tail _ hw))
    have h2 := h x (.head _)
    unfold jT at h1 ⊢
    rw [List.flatMap_cons, List.length_append, List.length_cons, List.length_cons]
    omega
theorem jL_len (ws : List (List Nat)) (h : ∀ w ∈ ws, w.length ≤ 8) : (jL ws).length ≤ 9 * ws.length := by
  cases ws with
  | nil => exact Nat.zero_le _
  | cons x r =>
    have h1 := jT_len r (fun w hw => h w (.tail _ hw))
    have h2 := h x (.head _)
    unfold jL
    rw [List.length_append, List.length_cons]
    omega
theorem fmod2 (c : Int) : c.fmod 2 = 0 ∨ c.fmod 2 ≠ 0 := by by_cases h : c.fmod 2 = 0; exact .inl h; exact .inr h
theorem flat_len (l : List Nat) : (l.flatMap (fun c => [92, c])).length = 2 * l.length := by
  induction l with
  | nil => rfl
  | cons c r ih => rw [List.flatMap_cons, List.length_append, ih]; simp only [List.length_cons, List.length_nil]; omega
theorem out_nl (r : List Nat) (ln : Int) : outF (10 :: r) ln = outF r (lnF ln [10]) := by
  rw [outF.eq_def]
  dsimp only
  rw [if_pos (by decide)]
theorem bar_nl (r tok : List Nat) (ln : Int) : barF (10 :: r) tok ln = (tok, r, lnF ln [10]) := by
  rw [barF.eq_def]
  dsimp only
  rw [if_pos (by decide)]
theorem read_ok (c1 c2 : Int) (p : Nat) (hp : p = 4 ∨ p = 6) : (∃ rest lnn, ReadOk c1 c2 p rest lnn) ∧ (pageF c1 c2 p).length ≤ 100 := by
  have hp6 : p ≤ 6 := by omega
  have hp0 : 0 < p := by omega
  let f : Nat → List Nat := fun k => (wordF (wdF c1 k) (c2.fmod 2)).cps.toList
  have hpg : (pageF c1 c2 p).cps.toList = jL ((List.range p).map f) := by
    unfold pageF
    rw [page_list, List.map_map]
    rfl
  have hdr : ∀ i, i < p → ((List.range p).map f).drop i = f i :: ((List.range p).map f).drop (i + 1) := fun i hi => by
    rw [List.drop_eq_getElem_cons (by simpa using hi)]
    simp
  have hend : ((List.range p).map f).drop p = [] := List.drop_of_length_le (by simp)
  have main : ∀ rest : Nat → List Nat, rest 0 = jL ((List.range p).map f) → rest p = [] → (∀ i, i < p → ∀ ln, ∃ ln', outF (rest i) ln = ((wdF c1 i).cps.toList, rest (i + 1), ln')) → ∃ rest lnn, ReadOk c1 c2 p rest lnn := by
    intro rest h0 h1 h2
    refine ⟨rest, fun i => 1 + cnt 10 (rest 0) - cnt 10 (rest i), by rw [h0, hpg], by show 1 + _ - _ = _; omega, ?_, h1, ?_⟩
    · intro i hi
      obtain ⟨ln', e⟩ := h2 i hi (1 + cnt 10 (rest 0) - cnt 10 (rest i))
      have z := out_ln (rest i) (1 + cnt 10 (rest 0) - cnt 10 (rest i))
      rw [e] at z ⊢
      unfold LnOk at z
      dsimp only at z ⊢
      have : ln' = 1 + cnt 10 (rest 0) - cnt 10 (rest (i + 1)) := by omega
      rw [this]
    · have e : Str.ofString "\n" = ⟨#[10]⟩ := by decide
      show 1 + cnt 10 (rest 0) - cnt 10 (rest p) = _
      rw [e, count_cnt, hpg, h0, h1, cnt_nil]
      omega
  refine ⟨?_, ?_⟩
  · rcases fmod2 c2 with hv | hv
    · refine main (fun i => if i = 0 then jL ((List.range p).map f) else jT (((List.range p).map f).drop i)) rfl ?_ ?_
      · (try dsimp only); rw [if_neg (by omega), hend]; rfl
      · intro i hi ln
        obtain ⟨c, r, e1, e2, e3⟩ := wd_list c1 (Nat.lt_of_lt_of_le hi hp6)
        have ef : f i = 34 :: ((c :: r) ++ [34]) := by
          show (wordF (wdF c1 i) (c2.fmod 2)).cps.toList = _
          rw [hv, word_quot (by rw [e1]; exact e3), e1]
        have e4 : ∀ ln, ∃ ln', outF (f i ++ jT (((List.range p).map f).drop (i + 1))) ln = (c :: r, jT (((List.range p).map f).drop (i + 1)), ln') := by
          intro ln
          obtain ⟨ln', e⟩ := quo_read (c :: r) e3 (jT (((List.range p).map f).drop (i + 1))) [] (lnF ln [34])
          refine ⟨ln', ?_⟩
          rw [ef, List.cons_append, List.append_assoc]
          unfold outF
          rw [if_neg (by decide), if_pos rfl]
          exact e
        rw [e1]
        (try dsimp only)
        rw [if_neg (by omega : ¬ i + 1 = 0)]
        by_cases h0 : i = 0
        · rw [if_pos h0]
          subst h0
          have z := hdr 0 hi
          rw [List.drop_zero] at z
          rw [z]
          exact e4 ln
        · rw [if_neg h0, hdr i hi]
          obtain ⟨ln', e⟩ := e4 (lnF ln [10])
          refine ⟨ln', ?_⟩
          rw [← e]
          show outF (10 :: _ ++ _) ln = _
          exact out_nl _ _
    · refine main (fun i => jL (((List.range p).map f).drop i)) rfl ?_ ?_
      · (try dsimp only); rw [hend]; rfl
      · intro i hi ln
        obtain ⟨c, r, e1, e2, e3⟩ := wd_list c1 (Nat.lt_of_lt_of_le hi hp6)
        have ef : f i = 92 :: c :: r.flatMap (fun c => [92, c]) := by
          show (wordF (wdF c1 i) (c2.fmod 2)).cps.toList = _
          rw [word_bare hv, e1]
          rfl
        rw [e1]
        (try dsimp only)
        rw [hdr i hi]
        show ∃ ln', outF (f i ++ jT _) ln = _
        rw [ef]
        obtain ⟨ln', e⟩ := bar_read r (jT (((List.range p).map f).drop (i + 1))) [c] (lnF (lnF ln [92]) [c])
        show ∃ ln', outF (92 :: c :: (r.flatMap (fun c => [92, c]) ++ jT _)) ln = _
        unfold outF
        rw [if_neg (by decide), if_neg (by decide), if_pos rfl]
        (try dsimp only)
        rw [e]
        by_cases hl : i + 1 < p
        · rw [hdr _ hl]
          refine ⟨lnF ln' [10], ?_⟩
          show barF (10 :: (f (i + 1) ++ jT _)) _ _ = _
          exact bar_nl _ _ _
        · have : i + 1 = p := by omega
          rw [this, hend]
          exact ⟨ln', by show barF [] _ _ = _; unfold barF; rfl⟩
  · have hw : ∀ w ∈ (List.range p).map f, w.length ≤ 8 := by
      intro w hw
      obtain ⟨i, hi, rfl⟩ := List.mem_map.mp hw
      obtain ⟨c, r, e1, e2, e3⟩ := wd_list c1 (Nat.lt_of_lt_of_le (List.mem_range.mp hi) hp6)
      show (wordF (wdF c1 i) (c2.fmod 2)).cps.toList.length ≤ 8
      rcases fmod2 c2 with hv | hv
      · rw [hv, word_quot (by rw [e1]; exact e3), e1]
        simp only [List.length_cons, List.length_append, List.length_nil] at e2 ⊢
        omega
      · rw [word_bare hv, e1, flat_len]
        omega
    have z := jL_len _ hw
    rw [← hpg, List.length_map, List.length_range] at z
    have : (pageF c1 c2 p).length = (pageF c1 c2 p).cps.toList.length := (Array.length_toList).symm
    omega
end Mine
end

section
theorem Mine.offPln : True := by
  w_top off
  trivial
open PySem PySem.W PyProof.Rows PySem.Spec PySem.Calls PyProof.Rows.LCg
set_option Elab.async false
set_option maxRecDepth 100000
set_option maxHeartbeats 1000000
namespace Mine
/-- a remark in the queue: (0, _) the closing sign, (1, k) the whole word k, (d + 2, k) the letter k behind d marks -/
noncomputable abbrev AT : Type := Nat × Nat
noncomputable def ltL : Nat → Nat → List Nat
  | 0, k => [97 + k]
  | d + 1, k => 35 :: 32 :: ltL d k
noncomputable def ltS (d k : Nat) : Str := ⟨(ltL d k).toArray⟩
noncomputable def con (c1 : Int) : AT → Str
  | (0, _) => Str.ofString ")"
  | (1, k) => wdF c1 k
  | (d + 2, k) => ltS d k
noncomputable def okT : AT → Bool
  | (0, _) => true
  | (1, k) => decide (k < 6)
  | (d + 2, k) => decide (d < 10) && decide (k < 6)
noncomputable def aIn : Nat → List AT → List Nat → List AT → Nat → Option (List AT × List Nat × List AT × Nat)
  | 0, q, sg, nm, hd => some (q, sg, nm, hd)
  | _ + 1, [], _, _, _ => none
  | n + 1, t :: q, sg, nm, hd =>
    if q.length ≤ 50 ∧ sg.length ≤ 100 ∧ nm.length ≤ 50 ∧ okT t = true ∧ hd ≤ 100 then
      match t with
      | (0, _) => aIn n q (sg ++ [41]) nm hd
      | (1, k) => aIn n (q ++ [(0, 0)]) (sg ++ [40]) (nm ++ [(1, k)]) (hd + 1)
      | (2, k) => aIn n (q ++ [(0, 0)]) (sg ++ [40]) (nm ++ [(2, k)]) (hd + 1)
      | (d + 3, k) => aIn n (q ++ [(d + 2, k)]) sg nm (hd + 1)
    else none
noncomputable def aOut : Nat → List AT → List Nat → List AT → Nat → Option (List AT × List Nat × List AT)
  | 0, q, sg, nm, _ => some (q, sg, nm)
  | n + 1, q, sg, nm, wt =>
    if wt ≤ 50 then
      match aIn wt q sg nm 0 with
      | none => none
      | some (q', sg', nm', hd') => aOut n q' sg' nm' hd'
    else none
theorem lt_facts : ∀ d, d < 10 → ∀ k, k < 6 → (ltS d k ≠ Str.ofString ")" ∧ (ltS d k).length ≤ 100 ∧ comF (ltS d k) = ltS (d + 1) k) := by decide +kernel
theorem lt_mark : ∀ d, d < 10 → ∀ k, k < 6 → (Txt.startswith (ltS (d + 1) k) (Str.ofString "# ") = true ∧ Txt.slice (ltS (d + 1) k) (some 2) none = ltS d k) := by decide +kernel
theorem lt_zero : ∀ k, k < 6 → Txt.startswith (ltS 0 k) (Str.ofString "# ") = false ∧ PyData.strOk (ltS 0 k) = true := by decide +kernel
theorem wd_facts0 : ∀ k, k < 6 → ∀ s ∈ [[], [32], [9], [10, 32]], ((⟨((97 + k) :: s).toArray⟩ : Str) ≠ Str.ofString ")" ∧ (⟨((97 + k) :: s).toArray⟩ : Str).length ≤ 100 ∧ Txt.startswith ⟨((97 + k) :: s).toArray⟩ (Str.ofString "# ") = false ∧
    comF ⟨((97 + k) :: s).toArray⟩ = ltS 1 k ∧ Txt.item ⟨((97 + k) :: s).toArray⟩ 0 = ltS 0 k ∧ PyData.strOk ⟨((97 + k) :: s).toArray⟩ = true) := by decide +kernel
theorem wd_facts (c1 : Int) {k : Nat} (hk : k < 6) : wdF c1 k ≠ Str.ofString ")" ∧ (wdF c1 k).length ≤ 100 ∧ Txt.startswith (wdF c1 k) (Str.ofString "# ") = false ∧ comF (wdF c1 k) = ltS 1 k ∧ Txt.item (wdF c1 k) 0 = ltS 0 k ∧ PyData.strOk (wdF c1 k) = true := by
  obtain ⟨s, hs, e⟩ := wd_form c1 hk
  rw [e]
  exact wd_facts0 k hk s hs
theorem cl_facts : (Str.ofString ")").length ≤ 100 := by decide
theorem sg_open (sg : List Nat) : (⟨sg.toArray⟩ : Str) ++ Str.ofString "(" = ⟨(sg ++ [40]).toArray⟩ := by
  have e : Str.ofString "(" = ⟨#[40]⟩ := by decide
  rw [e]
  show Str.mk (sg.toArray ++ #[40]) = _
  simp
theorem sg_close (sg : List Nat) : (⟨sg.toArray⟩ : Str) ++ Str.ofString ")" = ⟨(sg ++ [41]).toArray⟩ := by
  have e : Str.ofString ")" = ⟨#[41]⟩ := by decide
  rw [e]
  show Str.mk (sg.toArray ++ #[41]) = _
  simp
theorem sg_len (sg : List Nat) : (⟨sg.toArray⟩ : Str).length = sg.length := List.size_toArray
theorem sim_in (c1 : Int) (n : Nat) : ∀ q sg nm hd q' sg' nm' hd', aIn n q sg nm hd = some (q', sg', nm', hd') →
    swpIn n (q.map (con c1)) ⟨sg.toArray⟩ (nm.map (con c1)) hd = some (q'.map (con c1), ⟨sg'.toArray⟩, nm'.map (con c1), hd') := by
  induction n with
  | zero =>
    intro q sg nm hd q' sg' nm' hd' h
    unfold aIn at h
    cases h
    rfl
  | succ n ih =>
    intro q sg nm hd q' sg' nm' hd' h
    cases q with
    | nil => unfold aIn at h; cases h
    | cons t q =>
      unfold aIn at h
      split at h
      rotate_left
      · cases h
      rename _ ∧ _ => hb
      obtain ⟨b1, b2, b3, b4, b5⟩ := hb
      have hl : (con c1 t).length ≤ 100 := by
        obtain ⟨a, k⟩ := t
        match a, b4 with
        | 0, _ => exact cl_facts
        | 1, b4 => exact (wd_facts c1 (by simpa [okT] using b4)).2.1
        | d + 2, b4 => simp only [okT, Bool.and_eq_true, decide_eq_true_eq] at b4; exact (lt_facts d b4.1 k b4.2).2.1
      rw [List.map_cons]
      unfold swpIn
      rw [if_pos ⟨by rw [List.length_map]; exact b1, by rw [sg_len]; exact b2, by rw [List.length_map]; exact b3, hl, b5⟩]
      split at h
      · rename_i k
        rw [if_pos (show con c1 (0, k) = Str.ofString ")" from rfl), sg_close]
        exact ih _ _ _ _ _ _ _ _ h
      · rename_i k
        simp only [okT, decide_eq_true_eq] at b4
        have m := wd_facts c1 b4
        rw [if_neg (show ¬ con c1 (1, k) = Str.ofString ")" from m.1), if_neg (show ¬ Txt.startswith (con c1 (1, k)) (Str.ofString "# ") = true from by rw [show Txt.startswith (con c1 (1, k)) (Str.ofString "# ") = false from m.2.2.1]; decide)]
        have z := ih _ _ _ _ _ _ _ _ h
        rw [List.map_append, List.map_append, ← sg_open] at z
        exact z
      · rename_i k
        simp only [okT, Bool.and_eq_true, decide_eq_true_eq] at b4
        rw [if_neg (show ¬ con c1 (2, k) = Str.ofString ")" from (lt_facts 0 b4.1 k b4.2).1), if_neg (show ¬ Txt.startswith (con c1 (2, k)) (Str.ofString "# ") = true from by rw [show Txt.startswith (con c1 (2, k)) (Str.ofString "# ") = false from (lt_zero k b4.2).1]; decide)]
        have z := ih _ _ _ _ _ _ _ _ h
        rw [List.map_append, List.map_append, ← sg_open] at z
        exact z
      · rename_i d k
        simp only [okT, Bool.and_eq_true, decide_eq_true_eq] at b4
        have m := lt_mark d (by omega) k b4.2
        rw [if_neg (show ¬ con c1 (d + 3, k) = Str.ofString ")" from (lt_facts (d + 1) b4.1 k b4.2).1), if_pos (show Txt.startswith (con c1 (d + 3, k)) (Str.ofString "# ") = true from m.1)]
        have e : Txt.slice (con c1 (d + 3, k)) (some 2) none = con c1 (d + 2, k) := m.2
        rw [e]
        have z := ih _ _ _ _ _ _ _ _ h
        rw [List.map_append] at z
        exact z
theorem sim_out (c1 : Int) (n : Nat) : ∀ q sg nm wt q' sg' nm', aOut n q sg nm wt = some (q', sg', nm') →
    swpOut n (q.map (con c1)) ⟨sg.toArray⟩ (nm.map (con c1)) wt = some (q'.map (con c1), ⟨sg'.toArray⟩, nm'.map (con c1)) := by
  induction n with
  | zero =>
    intro q sg nm wt q' sg' nm' h
    unfold aOut at h
    cases h
    rfl
  | succ n ih =>
    intro q sg nm wt q' sg' nm' h
    unfold aOut at h
    unfold swpOut
    split at h
    rotate_left
    · cases h
    rename wt ≤ 50 => hw
    rw [if_pos hw]
    split at h
    · cases h
    · rename_i q2 sg2 nm2 hd2 e
      rw [sim_in c1 _ _ _ _ _ _ _ _ _ e]
      exact ih _ _ _ _ _ _ _ h
noncomputable def remD : Nat → Str → Nat
  | 0, _ => 0
  | n + 1, a => if chkF a.cps.toList = true then 0 else remD n (a ++ Str.ofString ")") + 1
noncomputable def comN : Nat → Str → Str
  | 0, b => b
  | n + 1, b => comN n (comF b)
theorem rem_is (n : Nat) : ∀ a b, remF n a b = comN (remD n a) b := by
  induction n with
  | zero => intro a b; rfl
  | succ n ih =>
    intro a b
    unfold remF remD
    split
    · rfl
    · rw [ih]; rfl
theorem comN_lt {k : Nat} (hk : k < 6) (d : Nat) : ∀ e, e + d < 10 → comN d (ltS e k) = ltS (e + d) k := by
  induction d with
  | zero => intro e _; rfl
  | succ d ih =>
    intro e he
    unfold comN
    rw [(lt_facts e (by omega) k hk).2.2, ih _ (by omega)]
    congr 1
    omega
noncomputable def tkA (d k : Nat) : AT := if d = 0 then (1, k) else (d + 2, k)
theorem comN_wd (c1 : Int) {k : Nat} (hk : k < 6) {d : Nat} (hd : d < 10) : comN d (wdF c1 k) = con c1 (tkA d k) := by
  unfold tkA
  cases d with
  | zero => rfl
  | succ d =>
    rw [if_neg (Nat.succ_ne_zero d)]
    unfold comN
    rw [(wd_facts c1 hk).2.2.2.1, comN_lt hk d 1 (by omega)]
    show ltS (1 + d) k = ltS (d + 1) k
    rw [Nat.add_comm]
noncomputable abbrev slA (r : Str) (q : Int) : Str := Txt.slice r none (some q)
noncomputable def aWait (r : Str) (p : Nat) : List AT := List.zipWith (fun q k => tkA (remD (slA r q).length (slA r q)) k) (plcN r r.length) (List.range p)
theorem zip_congr {α β γ : Type} {f g : α → β → γ} : ∀ {l : List α} {m : List β}, (∀ a ∈ l, ∀ b ∈ m, f a b = g a b) → List.zipWith f l m = List.zipWith g l m
  | [], _, _ => rfl
  | _ :: _, [], _ => rfl
  | a :: l, b :: m, h => by
    rw [List.zipWith_cons_cons, List.zipWith_cons_cons, h a (.head _) b (.head _), zip_congr fun x hx y hy => h x (.tail _ hx) y (.tail _ hy)]
theorem wait_is (r : Str) (c1 : Int) {p : Nat} (hp : p ≤ 6) (hd : ∀ q ∈ plcN r r.length, remD (slA r q).length (slA r q) < 10) : waitS r c1 p = (aWait r p).map (con c1) := by
  unfold waitS aWait
  rw [List.zipWith_map_right, List.map_zipWith]
  refine zip_congr fun q hq k hk => ?_
  rw [rem_is]
  exact comN_wd c1 (Nat.lt_of_lt_of_le (List.mem_range.mp hk) hp) (hd q hq)
noncomputable def anmOne (i j : Nat) : AT := if i = 0 then (1, j) else (2, j)
noncomputable def anm (dl : List Int) (p : Nat) : List AT := (List.range p).flatMap (fun (i : Nat) => ((List.range p).filter (fun j => dl.getD j 0 == (i : Int))).map (anmOne i))
theorem nm_one (c1 : Int) (i : Nat) {j : Nat} (hj : j < 6) : nmOne c1 i j = con c1 (anmOne i j) := by
  unfold nmOne anmOne
  split
  · rfl
  · exact (wd_facts c1 hj).2.2.2.2.1
theorem nm_is (dl : List Int) (c1 : Int) {p : Nat} (hp : p ≤ 6) : nmOut dl c1 p p = (anm dl p).map (con c1) := by
  unfold nmOut anm
  rw [List.map_flatMap]
  have key : ∀ i, nmIn dl c1 i p = (((List.range p).filter (fun j => dl.getD j 0 == (i : Int))).map (anmOne i)).map (con c1) := by
    intro i
    unfold nmIn
    rw [List.map_map]
    refine List.map_congr_left fun j hj => ?_
    exact nm_one c1 i (Nat.lt_of_lt_of_le (List.mem_range.mp (List.mem_filter.mp hj).1) hp)
  exact congrArg (List.flatMap · (List.range p)) (funext key)
theorem nm_ok (dl : List Int) (c1 : Int) {p : Nat} (hp : p ≤ 6) : ∀ y ∈ nmOut dl c1 p p, PyData.strOk y = true := by
  intro y hy
  unfold nmOut nmIn at hy
  obtain ⟨i, _, hy⟩ := List.mem_flatMap.mp hy
  obtain ⟨j, hj, rfl⟩ := List.mem_map.mp hy
  have h6 := Nat.lt_of_lt_of_le (List.mem_range.mp (List.mem_filter.mp hj).1) hp
  rw [nm_one c1 i h6]
  unfold anmOne
  split
  · exact (wd_facts c1 h6).2.2.2.2.2
  · exact (lt_zero j h6).2
noncomputable def brkL (l : List Nat) : Bool := l.all fun c => c == 40 || c == 41
theorem brk_of {x : Str} (h : brkL x.cps.toList = true) : Brk x := fun c hc => by simpa using List.all_eq_true.mp h c hc
noncomputable def sgOk (dl : List Int) (p : Nat) (sg : List Nat) (nm : List AT) : Bool :=
  brkL sg && decide (sg.length ≤ 100) && chkF sg && decide (nm = anm dl p) && decide ((depF sg).1.sum = (nearOut dl p : Int)) && decide (bounceF ⟨sg.toArray⟩ = some dl.sum) && decide (backF ⟨sg.toArray⟩ = some dl)
noncomputable def rowB (p : Nat) (r : Str) : Bool :=
  decide ((plcN r r.length).length = p) && (plcN r r.length).all (fun q => brkL (slA r q).cps.toList && decide ((slA r q).length ≤ 12) && decide (remD (slA r q).length (slA r q) < 10)) &&
  decide ((depF r.cps.toList).1.length = p) && (List.range p).all (fun i => decide (0 ≤ (depF r.cps.toList).1.getD i 0 ∧ (depF r.cps.toList).1.getD i 0 ≤ 100)) && decide (nearOut (depF r.cps.toList).1 p ≤ 100) &&
  (match aOut (p + 1) (aWait r p) [] [] p with
  | some (q, sg, nm) => q.isEmpty && sgOk (depF r.cps.toList).1 p sg nm
  | none => false)
theorem row_of {p : Nat} {r : Str} (hp : p ≤ 6) (h : rowB p r = true) (c1 : Int) : ∃ dl sg nm, RowOk r c1 p dl sg nm := by
  unfold rowB at h
  simp only [Bool.and_eq_true, decide_eq_true_eq] at h
  obtain ⟨⟨⟨⟨⟨h1, h2⟩, h3⟩, h4⟩, h5⟩, h6⟩ := h
  split at h6
  rotate_left
  · cases h6
  rename_i q sg nm e
  simp only [Bool.and_eq_true, sgOk, decide_eq_true_eq] at h6
  obtain ⟨hq, ⟨⟨⟨⟨⟨g1, g2⟩, g3⟩, g4⟩, g5⟩, g6⟩, g7⟩ := h6
  cases List.isEmpty_iff.mp hq
  have h2' : ∀ q ∈ plcN r r.length, brkL (slA r q).cps.toList = true ∧ (slA r q).length ≤ 12 ∧ remD (slA r q).length (slA r q) < 10 := fun q hq => by
    have z := List.all_eq_true.mp h2 q hq
    simp only [Bool.and_eq_true, decide_eq_true_eq] at z
    exact ⟨z.1.1, z.1.2, z.2⟩
  refine ⟨_, ⟨sg.toArray⟩, nm.map (con c1), ⟨rfl, h1, fun q hq => ⟨brk_of (h2' q hq).1, (h2' q hq).2.1⟩, ?_, brk_of g1, by rw [sg_len]; exact g2, g3, h3, by rw [g4, nm_is _ c1 hp], by rw [g4, ← nm_is _ c1 hp]; exact nm_ok _ c1 hp, ?_, g5, g6, g7, h5⟩⟩
  · rw [wait_is r c1 hp fun q hq => (h2' q hq).2.2]
    exact sim_out c1 _ _ [] [] _ _ _ _ e
  · intro i hi
    exact of_decide_eq_true (List.all_eq_true.mp h4 i (List.mem_range.mpr hi))
noncomputable def nO : List Nat → Nat
  | [] => 0
  | n :: r => if n = 40 then nO r + 1 else nO r
theorem nO_cnt (l : List Nat) : cnt 40 l = (nO l : Int) := by
  induction l with
  | nil => rfl
  | cons n r ih =>
    rw [cnt_cons, ih]
    show _ = ((if n = 40 then nO r + 1 else nO r : Nat) : Int)
    split <;> omega
/-- all rows that can come out -/
noncomputable def rowsL (p : Nat) : Nat → List (List Nat)
  | 0 => [[]]
  | k + 1 => (rowsL p k).flatMap fun l => (if nO l < p then [l ++ [40]] else []) ++ (if nO l < p ∧ 2 * nO l = k then [] else [l ++ [41]])
theorem row_mem (n : Int) (p : Nat) : ∀ k, ∃ l, l ∈ rowsL p k ∧ rowS n p k = ⟨l.toArray⟩
  | 0 => ⟨[], List.mem_singleton.mpr rfl, by show Str.ofString "" = _; decide⟩
  | k + 1 => by
    obtain ⟨l, hl, e⟩ := row_mem n p k
    have ec : Txt.count (rowS n p k) (Str.ofString "(") = (nO l : Int) := by
      have e1 : Str.ofString "(" = ⟨#[40]⟩ := by decide
      rw [e, e1, count_cnt]
      exact nO_cnt l
    by_cases h : Txt.count (rowS n p k) (Str.ofString "(") < (p : Int) ∧ ((n.fdiv (2 ^ (0 + (k : Int)).toNat)).fmod 2 = 1 ∨ 2 * Txt.count (rowS n p k) (Str.ofString "(") = 0 + (k : Int))
    · refine ⟨l ++ [40], ?_, ?_⟩
      · unfold rowsL
        refine List.mem_flatMap.mpr ⟨l, hl, List.mem_append_left _ ?_⟩
        rw [if_pos (by omega)]
        exact .head _
      · rw [← sg_open, ← e]
        exact if_pos h
    · refine ⟨l ++ [41], ?_, ?_⟩
      · unfold rowsL
        refine List.mem_flatMap.mpr ⟨l, hl, List.mem_append_right _ ?_⟩
        rw [if_neg (fun q => h ⟨by omega, .inr (by omega)⟩)]
        exact .head _
      · rw [← sg_close, ← e]
        exact if_neg h
noncomputable def rowC (p : Nat) (l : List Nat) : Bool := rowB p ⟨l.toArray⟩
theorem all_step {l : List (List Nat)} {f : List Nat → Bool} (n k : Nat) (h1 : ((l.drop k).take n).all f = true) (h2 : (l.drop (k + n)).all f = true) : (l.drop k).all f = true := by
  rw [← List.take_append_drop n (l.drop k), List.all_append, h1, List.drop_drop, h2]
  rfl
theorem all_four : (rowsL 4 8).all (rowC 4) = true := by decide +kernel
theorem six_0 : (((rowsL 6 12).drop 0).take 12).all (rowC 6) = true := by decide +kernel
theorem six_1 : (((rowsL 6 12).drop 12).take 12).all (rowC 6) = true := by decide +kernel
theorem six_2 : (((rowsL 6 12).drop 24).take 12).all (rowC 6) = true := by decide +kernel
theorem six_3 : (((rowsL 6 12).drop 36).take 12).all (rowC 6) = true := by decide +kernel
theorem six_4 : (((rowsL 6 12).drop 48).take 12).all (rowC 6) = true := by decide +kernel
theorem six_5 : (((rowsL 6 12).drop 60).take 12).all (rowC 6) = true := by decide +kernel
theorem six_6 : (((rowsL 6 12).drop 72).take 12).all (rowC 6) = true := by decide +kernel
theorem six_7 : (((rowsL 6 12).drop 84).take 12).all (rowC 6) = true := by decide +kernel
theorem six_8 : (((rowsL 6 12).drop 96).take 12).all (rowC 6) = true := by decide +kernel
theorem six_9 : (((rowsL 6 12).drop 108).take 12).all (rowC 6) = true := by decide +kernel
theorem six_10 : (((rowsL 6 12).drop 120).take 12).all (rowC 6) = true := by decide +kernel
theorem six_end : ((rowsL 6 12).drop 132).all (rowC 6) = true := by decide +kernel
theorem all_six : (rowsL 6 12).all (rowC 6) = true := all_step 12 0 six_0 (all_step 12 12 six_1 (all_step 12 24 six_2 (all_step 12 36 six_3 (all_step 12 48 six_4 (all_step 12 60 six_5 (all_step 12 72 six_6 (all_step 12 84 six_7 (all_step 12 96 six_8 (all_step 12 108 six_9 (all_step 12 120 six_10 (six_end)))))))))))
theorem row_ok (c0 c1 : Int) (p : Nat) (hp : p = 4 ∨ p = 6) : ∃ dl sg nm, RowOk (rowS c0 p (2 * p)) c1 p dl sg nm := by
  refine row_of (by omega) ?_ c1
  rcases hp with rfl | rfl
  · obtain ⟨l, hl, e⟩ := row_mem c0 4 8
    exact e ▸ List.all_eq_true.mp all_four l hl
  · obtain ⟨l, hl, e⟩ := row_mem c0 6 12
    exact e ▸ List.all_eq_true.mp all_six l hl
theorem law_spec : LawSpec := law_spec_of (fun c1 c2 p _ _ hp => read_ok c1 c2 p hp) (fun c0 c1 p _ _ hp => row_ok c0 c1 p hp)
end Mine
end

theorem PySem.Challenge.cw_re0075_01_holds : PySem.Challenge.rw_re0075_01.Holds := by
  exact Mine.law_plug Mine.law_spec
