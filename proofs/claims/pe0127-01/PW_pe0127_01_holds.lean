import PyProof.Rows.All
import Wide.All
import OpenK.AllK
import Wide.FinOn
import PySem.Challenge.RW_pe0127_01
set_option Elab.async false
section
open PySem PySem.W PyProof.Rows
namespace Mine
set_option maxRecDepth 100000 in
set_option maxHeartbeats 8000000 in
open_top hd for PySem.Challenge.rw_pe0127_01
end Mine
end

section
open PySem PySem.W PyProof.Rows PySem.Calls
set_option maxRecDepth 100000
namespace Mine
abbrev Ar (dd : Nat) (fr : Option (List Env)) (gs : Option (List Code)) (uu : Nat) : Around := ⟨none, dd, fr, gs, uu⟩
abbrev NoE : Value → Shared → Prop := fun _ _ => False

section
variable {prog : Program} {w : World} {A : Around} {s : Shared} {K : Frag} {R : Result → Shared → Prop} {p : Program} {loose : List Str} {mean : ExcName → Option Value} {mg mb : Str → Option Value}
  {name qual : Str} {params : Arguments} {body : List Stmt} {scope : Scope} {dV kV doc pm cdv ct oc : Value} {an od : Option Addr} {osl : Array (Option Value)} {f : Addr} {args : Args} {binds : List (Str × Value)}

/-- a plain def of the top is called: its frame lies behind all that stands -/
theorem fcall (binds : List (Str × Value)) (X : K.In s.heap) (T : Top p loose mean mg mb s.heap) (hroom : A.depth < 1000)
    (ho : K.lookup f = some ⟨oc, od, .func (fnOf name qual params body scope dV kV doc pm an cdv ct), osl⟩) (hcd : codeIn K cdv qual = true)
    (hbind : ∀ S, peek K S (bindArgs (fnOf name qual params body scope dV kV doc pm an cdv ct) args) = some binds)
    (hloc : (binds.all fun y => decide (scope.names.lookup y.1 = some .local)) = true)
    (hcell : ∀ x ∈ scope.names, x.2 ≠ .cell)
    (h : ∀ h₁ L tk, Fr s.heap L h₁ (fun y => binds.reverse.lookup y) →
      wpAny (model prog w) (A.deeper (envOf qual scope L f cdv)) (execs body (envOf qual scope L f cdv))
        (fun fl s' => R (.ok (.ret (match fl with | .ret v => v | _ => .none))) s') NoE { s with heap := h₁, toks := tk })
    (hco : scope.isCoroutine = false := by rfl) (hgen : scope.isGenerator = false := by rfl) (hk : scope.kind = .function := by rfl) :
    codeAny (model prog w) A (.call (.ref f) args) R s := by
  refine codeAny_call_def (fd := fnOf name qual params body scope dV kV doc pm an cdv ct) (body := body) (binds := binds) hroom (X _ _ ho) rfl T.nolimit (codeRec_of X hcd) rfl (kp_binds X hbind) hcell (locs hloc) (fun h₁ hns hk₁ => ?_) hco hgen hk
  exact wpAny_mono (h h₁ s.heap.objs.size _ ⟨hns, hk₁, Nat.le_refl _⟩) (fun _ _ x => x) (fun _ _ x => x.elim)
end

section
variable {prog : Program} {w : World} {A : Around} {s : Shared} {K : Frag} {R : Result → Shared → Prop} {p : Program} {loose : List Str} {mean : ExcName → Option Value} {mg mb : Str → Option Value}
  {name qual : Str} {params : Arguments} {body : List Stmt} {scope : Scope} {dV kV doc pm cdv ct oc : Value} {an od : Option Addr} {osl : Array (Option Value)} {f : Addr} {args : Args}

/-- a plain def of the top is called that may turn one object -/
theorem fcallM (binds : List (Str × Value)) {a : Addr} {o : Obj} (ha : s.heap.get? a = some o) (X : K.In (s.heap.hide a)) (T : Top p loose mean mg mb (s.heap.hide a)) (hroom : A.depth < 1000)
    (ho : K.lookup f = some ⟨oc, od, .func (fnOf name qual params body scope dV kV doc pm an cdv ct), osl⟩) (hcd : codeIn K cdv qual = true)
    (hbind : ∀ S, peek K S (bindArgs (fnOf name qual params body scope dV kV doc pm an cdv ct) args) = some binds)
    (hloc : (binds.all fun y => decide (scope.names.lookup y.1 = some .local)) = true)
    (hcell : ∀ x ∈ scope.names, x.2 ≠ .cell)
    (h : ∀ h₁ L tk, Fr (s.heap.hide a) L h₁ (fun y => binds.reverse.lookup y) → News (s.heap.hide a) L h₁ [(a, o)] →
      wpAny (model prog w) (A.deeper (envOf qual scope L f cdv)) (execs body (envOf qual scope L f cdv))
        (fun fl s' => R (.ok (.ret (match fl with | .ret v => v | _ => .none))) s') NoE { s with heap := h₁, toks := tk })
    (hco : scope.isCoroutine = false := by rfl) (hgen : scope.isGenerator = false := by rfl) (hk : scope.kind = .function := by rfl) :
    codeAny (model prog w) A (.call (.ref f) args) R s := by
  have st : ∀ b ob, (s.heap.hide a).get? b = some ob → s.heap.get? b = some ob := fun b ob e => Heap.of_hide e
  have X' : K.In s.heap := X.keeps st
  refine codeAny_call_def (fd := fnOf name qual params body scope dV kV doc pm an cdv ct) (body := body) (binds := binds) hroom (X' _ _ ho) rfl (T.nolimit.keeps st) (codeRec_of X' hcd) rfl (kp_binds X' hbind) hcell (locs hloc) (fun h₁ hns hk₁ => ?_) hco hgen hk
  refine wpAny_mono (h h₁ s.heap.objs.size _ ⟨hns, fun b ob e => hk₁ b ob (st b ob e), Nat.le_of_eq (Heap.hide_size _ _)⟩ ?_) (fun _ _ x => x) (fun _ _ x => x.elim)
  intro q hq
  rw [List.mem_singleton.mp hq]
  exact ⟨hk₁ _ _ ha, Nat.ne_of_lt (Heap.lt_size ha), Heap.hide_self _ _⟩
end

/-- what is known of a frame's names -/
def Has (m : Str → Option Value) : List (Str × Value) → Prop
  | [] => True
  | (x, v) :: r => m x = some v ∧ Has m r
def over (l : List (Str × Value)) (m : Str → Option Value) : Str → Option Value := fun y => match l with
  | [] => m y
  | (x, v) :: r => if y = x then some v else over r m y
theorem Has.over {m : Str → Option Value} : ∀ {l : List (Str × Value)}, Has m l → m = over l m
  | [], _ => rfl
  | (x, v) :: r, h => by
    funext y
    unfold Mine.over
    by_cases e : y = x
    · rw [if_pos e, e]; exact h.1
    · rw [if_neg e]; exact congrFun (Has.over h.2) y
theorem Has.fr {g h : Heap} {L : Addr} {m : Str → Option Value} {l : List (Str × Value)} (F : Fr g L h m) (x : Has m l) : Fr g L h (Mine.over l m) := x.over ▸ F

def Stop (P : Prop) : Prop := P
theorem Stop.mk {P : Prop} (h : Stop P) : P := h
theorem Stop.go {P : Prop} (h : P) : Stop P := h

/-- what a turn of a loop leaves -/
def Turn (g : Heap) (L : Addr) (J : (Str → Option Value) → List (Addr × Obj) → Prop) (wr : List Addr) (own : List (Addr × Obj)) (s s' : Shared) : Prop :=
  ∃ h' tk m' news', s' = { s with heap := h', toks := tk } ∧ Fr g L h' m' ∧ News g L h' (news' ++ own) ∧ (∀ p ∈ news', p.1 ∉ wr) ∧ J m' news'
def TurnQ (g : Heap) (L : Addr) (J : (Str → Option Value) → List (Addr × Obj) → Prop) (wr : List Addr) (own : List (Addr × Obj)) (s : Shared) (Q : Flow → Shared → Prop) (f : Flow) (s' : Shared) : Prop :=
  match f with
  | .ret v => Q (.ret v) s'
  | .brk => Q .next s'
  | _ => Turn g L J wr own s s'
theorem Turn.mk {g : Heap} {L : Addr} {J : (Str → Option Value) → List (Addr × Obj) → Prop} {wr : List Addr} {own : List (Addr × Obj)} {s : Shared} {h' : Heap} {tk : Nat} {m' : Str → Option Value} {all news' : List (Addr × Obj)}
    (F : Fr g L h' m') (N : News g L h' all) (hn : ∀ p ∈ news', p ∈ all) (ho : ∀ p ∈ own, p ∈ all) (hw : ∀ p ∈ news', p.1 ∉ wr) (hJ : J m' news') :
    Turn g L J wr own s { s with heap := h', toks := tk } :=
  ⟨h', tk, m', news', rfl, F, fun p hp => N p ((List.mem_append.mp hp).elim (hn p) (ho p)), hw, hJ⟩

section
variable {prog : Program} {w : World} {A : Around} {s : Shared} {g : Heap} {L : Addr} {env : Env} {m₀ : Str → Option Value} {news₀ : List (Addr × Obj)} {body : List Stmt} {pos : Pos} {Q : Flow → Shared → Prop}

theorem while_fr {test : Expr} (hL : env.locals = L) (I : Nat → (Str → Option Value) → List (Addr × Obj) → Prop) (n₀ : Nat) (F : Fr g L s.heap m₀) (N : News g L s.heap news₀) (h0 : I n₀ m₀ news₀)
    (turn : ∀ n m news h tk, I n m news → Fr g L h m → News g L h news →
      wpAny (model prog w) A (isTrue test env (eval test env)) (fun b s₂ => if b then
        wpAny (model prog w) A (execs body env) (TurnQ g L (fun m' news' => ∃ n', n' < n ∧ I n' m' news') [] [] s Q) NoE s₂ else Q .next s₂) NoE { s with heap := h, toks := tk }) :
    wpAny (model prog w) A (exec (.While test body [] pos) env) Q NoE s := by
  subst hL
  refine wpAny_While (codeAny_whileLoop (fun n s' => ∃ h tk m news, s' = { s with heap := h, toks := tk } ∧ Fr g env.locals h m ∧ News g env.locals h news ∧ I n m news) ?_ n₀ ⟨s.heap, s.toks, m₀, news₀, rfl, F, N, h0⟩)
  rintro n s' ⟨h, tk, m, news, rfl, F', N', hI⟩
  refine wpAny_mono (turn n m news h tk hI F' N') (fun b s₂ hb => ?_) fun _ _ e => e.elim
  cases b with
  | false => exact wpAny_execs_nil hb
  | true =>
    refine wpAny_mono hb (fun f s₃ h₃ => ?_) fun _ _ e => e.elim
    have fin : Turn g env.locals (fun m' news' => ∃ n', n' < n ∧ I n' m' news') [] [] s s₃ → ∃ k, k < n ∧ ∃ h tk m news, s₃ = { s with heap := h, toks := tk } ∧ Fr g env.locals h m ∧ News g env.locals h news ∧ I k m news := by
      rintro ⟨h', tk', m', news', rfl, F₃, N₃, _, n', hlt, hI'⟩
      exact ⟨n', hlt, h', tk', m', news', rfl, F₃, fun p hp => N₃ p (List.mem_append_left _ hp), hI'⟩
    cases f with
    | next => exact fin h₃
    | cont => exact fin h₃
    | brk => exact h₃
    | ret v => exact h₃

/-- a for over any walked source (ktu_loop, with the error side never reached); the target is stored by the turn itself -/
theorem for_frO {target : Expr} (hL : env.locals = L) {I : Addr} {fp wr : List Addr} {n : Nat} {P : Nat → Value → Prop} {St : Nat → Heap → Prop} (W : Walks prog w A I fp wr n P St)
    (hLf : L ∉ fp) (hwr : ∀ b ∈ wr, g.get? b = none) (hnw : ∀ p ∈ news₀, p.1 ∉ wr)
    (hst : St 0 s.heap) (F : Fr g L s.heap m₀) (N : News g L s.heap news₀)
    (J : Nat → (Str → Option Value) → List (Addr × Obj) → Prop) (h0 : J 0 m₀ news₀)
    (step : ∀ i v m news own h tk, i < n → P i v → J i m news → (∀ p ∈ news, p.1 ∉ wr) → (∀ p ∈ own, p.1 ∈ fp) → St (i + 1) h → (∀ b ∈ fp, ∀ o, h.get? b = some o → g.get? b = none → (b, o) ∈ own) → Fr g L h m → News g L h (news ++ own) →
      wpAny (model prog w) A (assign target env v) (fun _ s₂ => wpAny (model prog w) A (execs body env) (TurnQ g L (J (i + 1)) wr own s Q) NoE s₂) NoE { s with heap := h, toks := tk })
    (done : ∀ m news h tk, J n m news → Fr g L h m → News g L h news → Q .next { s with heap := h, toks := tk })
    (ht : ∀ v, letOwnedTupleGo target (.ref I) v = pure () := by intro _; rfl) :
    codeAny (model prog w) A (.forLoop target (.ref I) body [] env) (fun r s' => match r with | .ok f => Q f s' | .error e => cameBackBy (model prog w) A env NoE e s') s := by
  subst hL
  have swap : ∀ {h : Heap} {a b : List (Addr × Obj)}, News g env.locals h (a ++ b) → News g env.locals h (b ++ a) := fun N q hq => N q ((List.mem_append.mp hq).elim (List.mem_append_right _) (List.mem_append_left _))
  refine ktu_loop (KTurns.ofWalks W fun i v s' Q' E' _ q => wpAny_of_eq (ht v) q) hLf hwr hnw hst F N J h0 (fun i v m news h tk own hi hP hJ hn hs _ hin hSt F' N' => ?_) fun h tk m news F' N' _ hJ => done m news h tk hJ F' N'
  refine wpAny_mono (step i v m news own h tk hi hP hJ hn hs hSt (fun b hb o e hg => hin b hb hg o e) F' (swap N')) (fun _ _ k => wpAny_mono k (fun f s' hf => ?_) fun _ _ x => x.elim) fun _ _ x => x.elim
  have back : Turn g env.locals (J (i + 1)) wr own s s' → LoopStepU g env.locals wr own (J (i + 1)) { s with heap := h, toks := tk } .next s' := by
    rintro ⟨h', tk', m', news', rfl, F2, N2, off, j⟩
    exact .intro F2 (swap N2) off j
  cases f with
  | ret _ => exact .ret hf
  | brk => exact .brk hf
  | next => exact .next (back hf)
  | cont => exact .cont (back hf)

/-- the address that is next is not in the frame, nor in the ledger -/
theorem next_off (F : Fr g L s.heap m₀) (N : News g L s.heap news₀) : s.heap.objs.size ≠ L ∧ g.get? s.heap.objs.size = none ∧ ∀ p ∈ news₀, p.1 ≠ s.heap.objs.size :=
  ⟨Nat.ne_of_gt F.ns.lt, next_is_new F, fun p hp => Nat.ne_of_lt (Heap.lt_size (N p hp).1)⟩

/-- the loop over a list that stands -/
theorem iter_listO {target : Expr} (hL : env.locals = L) {l : Addr} {vs : List Value} (hh : A.handled = none) (hl : s.heap.IsList l vs.toArray) (hlL : l ≠ L)
    (F : Fr g L s.heap m₀) (N : News g L s.heap news₀)
    (J : Nat → (Str → Option Value) → List (Addr × Obj) → Prop) (h0 : J 0 m₀ news₀)
    (step : ∀ i v m news own h tk I, (∀ b o, s.heap.get? b = some o → b ≠ I) → vs[i]? = some v → J i m news → (∀ p ∈ news, p.1 ≠ I) → (∀ p ∈ own, p.1 = I ∨ p.1 = l) → (∃ o, (I, o) ∈ own) → Fr g L h m → News g L h (news ++ own) →
      wpAny (model prog w) A (assign target env v) (fun _ s₂ => wpAny (model prog w) A (execs body env) (TurnQ g L (J (i + 1)) [I] own s Q) NoE s₂) NoE { s with heap := h, toks := tk })
    (done : ∀ m news h tk, J vs.length m news → Fr g L h m → News g L h news → Q .next { s with heap := h, toks := tk })
    (ht : ∀ I v, letOwnedTupleGo target (.ref I) v = pure () := by intro _ _; rfl) :
    wpAny (model prog w) A (pyIter (.ref l)) (fun it s₂ => codeAny (model prog w) A (.forLoop target it body [] env) (fun r s' => match r with | .ok f => Q f s' | .error e => cameBackBy (model prog w) A env NoE e s') s₂) NoE s := by
  obtain ⟨nL, nG, nN⟩ := next_off F N
  have old : ∀ b o, s.heap.get? b = some o → b ≠ s.heap.objs.size := fun b o e => Nat.ne_of_lt (Heap.lt_size e)
  have W := Walks.list (prog := prog) (w := w) hh _ l (hl.elim fun o e => old l o e.1) vs.toArray
  rw [List.size_toArray] at W
  refine wpAny_pyIter_list hl (for_frO hL W (by simp [nL.symm, hlL.symm]) (by simp [nG]) (by simpa using nN) ?_ (F.push _) (N.grown fun b o e => Heap.get?_push_of_some _ e) J h0 ?_ (fun m news h tk => done m news h tk) (ht _))
  · exact ⟨⟨_, Heap.get?_push_size _ rfl, rfl, rfl⟩, hl.push _⟩
  · intro i v m news own h tk _ hP hJ hn hs hSt hin F' N'
    obtain ⟨o, e, _⟩ := hSt.1
    exact step i v m news own h tk _ old (by simpa using hP) hJ (by simpa using hn) (by simpa using hs) ⟨o, hin _ (.head _) o e nG⟩ F' N'

theorem iter_list {target : Expr} (hL : env.locals = L) {l : Addr} {vs : List Value} (hh : A.handled = none) (hl : s.heap.IsList l vs.toArray) (hlL : l ≠ L)
    (F : Fr g L s.heap m₀) (N : News g L s.heap news₀)
    (J : Nat → (Str → Option Value) → List (Addr × Obj) → Prop) (h0 : J 0 m₀ news₀)
    (step : ∀ i v m news own h tk I, (∀ b o, s.heap.get? b = some o → b ≠ I) → vs[i]? = some v → J i m news → (∀ p ∈ news, p.1 ≠ I) → (∀ p ∈ own, p.1 = I ∨ p.1 = l) → Fr g L h m → News g L h (news ++ own) →
      wpAny (model prog w) A (assign target env v) (fun _ s₂ => wpAny (model prog w) A (execs body env) (TurnQ g L (J (i + 1)) [I] own s Q) NoE s₂) NoE { s with heap := h, toks := tk })
    (done : ∀ m news h tk, J vs.length m news → Fr g L h m → News g L h news → Q .next { s with heap := h, toks := tk })
    (ht : ∀ I v, letOwnedTupleGo target (.ref I) v = pure () := by intro _ _; rfl) :
    wpAny (model prog w) A (pyIter (.ref l)) (fun it s₂ => codeAny (model prog w) A (.forLoop target it body [] env) (fun r s' => match r with | .ok f => Q f s' | .error e => cameBackBy (model prog w) A env NoE e s') s₂) NoE s :=
  iter_listO hL hh hl hlL F N J h0 (fun i v m news own h tk I a b c d e _ => step i v m news own h tk I a b c d e) done ht

/-- the loop over range(n) -/
theorem iter_rangeO {target : Expr} (hL : env.locals = L) {r : Addr} {n : Nat} {t u v : Tok} (hh : A.handled = none) (hr : IsRange s.heap r 0 (n : Int) 1 t u v) (hn : n < 2 ^ 62)
    (F : Fr g L s.heap m₀) (N : News g L s.heap news₀)
    (J : Nat → (Str → Option Value) → List (Addr × Obj) → Prop) (h0 : J 0 m₀ news₀)
    (step : ∀ (i : Nat) tv m news own h tk I, (∀ b o, s.heap.get? b = some o → b ≠ I) → i < n → J i m news → (∀ p ∈ news, p.1 ≠ I) → (∀ p ∈ own, p.1 = I) → (∃ o, (I, o) ∈ own) → Fr g L h m → News g L h (news ++ own) →
      wpAny (model prog w) A (assign target env (.int (i : Int) tv)) (fun _ s₂ => wpAny (model prog w) A (execs body env) (TurnQ g L (J (i + 1)) [I] own s Q) NoE s₂) NoE { s with heap := h, toks := tk })
    (done : ∀ m news h tk, J n m news → Fr g L h m → News g L h news → Q .next { s with heap := h, toks := tk })
    (ht : ∀ I v, letOwnedTupleGo target (.ref I) v = pure () := by intro _ _; rfl) :
    wpAny (model prog w) A (pyIter (.ref r)) (fun it s₂ => codeAny (model prog w) A (.forLoop target it body [] env) (fun r s' => match r with | .ok f => Q f s' | .error e => cameBackBy (model prog w) A env NoE e s') s₂) NoE s := by
  obtain ⟨nL, nG, nN⟩ := next_off F N
  have hsz : Builtin.Range.rangeSize 0 (n : Int) 1 = (n : Int) := by rw [rangeSize_one]; omega
  refine wpAny_pyIter_range hr (small_one (by decide) (by decide) (by omega) (by omega)) (for_frO hL (LCg.range_walks hh 0 n) (by simpa using nL.symm) (by simp [nG]) (by simpa using nN) ?_
    (F.push _) (N.grown fun b o e => Heap.get?_push_of_some _ e) J h0 ?_ (fun m news h tk => done m news h tk) (ht _))
  · rw [hsz]
    simpa [IsRangeIter] using Heap.get?_push_size s.heap (o := { cls := .type "range_iterator", data := .fields #[rawInt 0, rawInt (n : Int), rawInt 1] }) rfl
  · rintro i _ m news own h tk hi ⟨tv, rfl⟩ hJ hn hs hSt hin F' N'
    rw [Int.zero_add]
    exact step i tv m news own h tk _ (fun b o e => Nat.ne_of_lt (Heap.lt_size e)) hi hJ (by simpa using hn) (by simpa using hs) ⟨_, hin _ (.head _) _ hSt nG⟩ F' N'

theorem iter_range {target : Expr} (hL : env.locals = L) {r : Addr} {n : Nat} {t u v : Tok} (hh : A.handled = none) (hr : IsRange s.heap r 0 (n : Int) 1 t u v) (hn : n < 2 ^ 62)
    (F : Fr g L s.heap m₀) (N : News g L s.heap news₀)
    (J : Nat → (Str → Option Value) → List (Addr × Obj) → Prop) (h0 : J 0 m₀ news₀)
    (step : ∀ (i : Nat) tv m news own h tk I, (∀ b o, s.heap.get? b = some o → b ≠ I) → i < n → J i m news → (∀ p ∈ news, p.1 ≠ I) → (∀ p ∈ own, p.1 = I) → Fr g L h m → News g L h (news ++ own) →
      wpAny (model prog w) A (assign target env (.int (i : Int) tv)) (fun _ s₂ => wpAny (model prog w) A (execs body env) (TurnQ g L (J (i + 1)) [I] own s Q) NoE s₂) NoE { s with heap := h, toks := tk })
    (done : ∀ m news h tk, J n m news → Fr g L h m → News g L h news → Q .next { s with heap := h, toks := tk })
    (ht : ∀ I v, letOwnedTupleGo target (.ref I) v = pure () := by intro _ _; rfl) :
    wpAny (model prog w) A (pyIter (.ref r)) (fun it s₂ => codeAny (model prog w) A (.forLoop target it body [] env) (fun r s' => match r with | .ok f => Q f s' | .error e => cameBackBy (model prog w) A env NoE e s') s₂) NoE s :=
  iter_rangeO hL hh hr hn F N J h0 (fun i tv m news own h tk I a b c d e _ => step i tv m news own h tk I a b c d e) done ht
end
end Mine
end

section
open PySem PySem.W PyProof.Rows PySem.Calls
set_option maxRecDepth 100000
namespace Mine
theorem afresh_MBis : True := by
  w_top off
  trivial
local macro_rules | `(tactic| walk_at "exec While Compare cons nil") => `(tactic| refine Stop.mk ?_)
local macro_rules | `(tactic| walk_at "GO") => `(tactic| w_strict (repeat' (first | (k_unfold; (try dsimp only)) | walk1 | (dsimp only; walk1))))
variable {w : World} {dd : Nat} {fr : Option (List Env)} {gs : Option (List Code)} {uu : Nat} {mg mb : Str → Option Value}
  {p : Program} {loose : List Str} {mean : ExcName → Option Value} {s : Shared} {R : Result → Shared → Prop}

theorem mid_fdiv (a b : Nat) : ((a : Int) + (b : Int)).fdiv 2 = (((a + b) / 2 : Nat) : Int) := by
  rw [Int.fdiv_eq_ediv_of_nonneg _ (by decide)]; omega
/-- the text at a place, as its list of signs -/
abbrev tx (ss : List Str) (i : Nat) : List Nat := (ss.getD i Str.empty).cps.toList
/-- where a row that falls apart at one place does so -/
def Cut (P : Nat → Prop) (lo n r : Nat) : Prop := lo ≤ r ∧ r ≤ n ∧ (∀ i, lo ≤ i → i < r → P i) ∧ ∀ i, r ≤ i → i < n → ¬ P i

set_option maxHeartbeats 4000000 in
theorem bisect_left_c {a : Addr} {vs : List Value} {ss : List Str} {x : Str} {t : Tok}
    (X : (hd.heap_39 w.params).In s.heap) (T : Top p loose mean mg mb s.heap) (hdp : dd < 900)
    (hl : s.heap.IsList a vs.toArray) (hs : StrsAre vs ss) (hlen : ss.length < 100)
    (hmono : ∀ i j, i ≤ j → j < ss.length → tx ss j < x.cps.toList → tx ss i < x.cps.toList)
    (h : ∀ h' tk (r : Nat) t', s.heap.StaysIn h' → Cut (fun i => tx ss i < x.cps.toList) 0 ss.length r → R (.ok (.ret (.int r t'))) { s with heap := h', toks := tk }) :
    codeAny (model Challenge.rw_pe0127_01.row.prog w) (Ar dd fr gs uu) (.call (.ref 48) ⟨[.ref a, .str x t], []⟩) R s := by
  have hlv : vs.length = ss.length := hs.length
  revert X
  k_fill
  intro X
  refine' fcall [("a", .ref a), ("x", .str x t), ("lo", .int 0 232), ("hi", .none), ("key", .none)] X T ?k8 ?k6 ?k7 ?k9 ?kB ?c5 ?_ ?c2 ?c3 ?c4
  case k6 => k_is
  case k7 => k_is
  case k8 => show dd < 1000; omega
  case k9 => intro S; exact rfl
  case kB => exact rfl
  case c2 => exact rfl
  case c3 => exact rfl
  case c4 => exact rfl
  case c5 => decide
  intro h₁ L tk F
  have N : News s.heap L h₁ [] := News.nil
  walk_at "GO"
  refine Stop.go ?_
  rename Fr _ _ _ _ => F
  rename News _ _ _ _ => N
  refine while_fr (L := L) rfl (fun n m news => ∃ (lo hi : Nat) (tl th : Tok), Has m [("lo", .int lo tl), ("hi", .int hi th), ("a", .ref a), ("x", .str x t), ("key", .none)] ∧ lo ≤ hi ∧ hi ≤ ss.length ∧ n = hi - lo ∧
     (∀ i, i < lo → tx ss i < x.cps.toList) ∧ (∀ i, hi ≤ i → i < ss.length → ¬ tx ss i < x.cps.toList)) ss.length F N ?_ ?_
  · exact ⟨0, ss.length, _, _, ⟨rfl, rfl, rfl, rfl, rfl, trivial⟩, by omega, by omega, rfl, by omega, by omega⟩
  · rintro n m news hh1 tk1 ⟨lo, hi, tl, th, hm, h1, h2, rfl, h3, h4⟩ F N
    replace F := hm.fr F
    replace N : News s.heap L hh1 [] := News.nil
    walk_at "GO"
    · rename Fr _ _ _ _ => F
      have e := mid_fdiv lo hi
      simp only [e] at F ⊢
      refine item_strsA (hl.at (F.keep _)) (by assumption) (by omega) (by omega) (by omega) (fun t' => ?_)
      walk_at "GO"
      · rename Fr _ _ _ _ => F
        rename News _ _ _ _ => N
        rename ((_ : List Nat) < _) => hlt
        simp only [TurnQ]
        refine Turn.mk (news' := []) F N (by simp) (by simp) (by simp) ⟨hi - ((lo + hi) / 2 + 1), by omega, (lo + hi) / 2 + 1, hi, _, _, ⟨rfl, rfl, rfl, rfl, rfl, trivial⟩, by omega, by omega, rfl, fun i hi' => ?_, h4⟩
        exact hmono i ((lo + hi) / 2) (by omega) (by omega) hlt
      · rename Fr _ _ _ _ => F
        rename News _ _ _ _ => N
        rename (¬ (_ : List Nat) < _) => hlt
        simp only [TurnQ]
        refine Turn.mk (news' := []) F N (by simp) (by simp) (by simp) ⟨(lo + hi) / 2 - lo, by omega, lo, (lo + hi) / 2, _, _, ⟨rfl, rfl, rfl, rfl, rfl, trivial⟩, by omega, by omega, rfl, h3, fun i hi' hi2 hc => ?_⟩
        exact hlt (hmono ((lo + hi) / 2) i hi' hi2 hc)
    · rename Fr _ _ _ _ => F
      exact h _ _ _ _ F.keep ⟨by omega, by omega, fun i _ hi => h3 i hi, fun i hi => h4 i (by omega)⟩
set_option maxHeartbeats 4000000 in
theorem bisect_right_c {a : Addr} {vs : List Value} {ss : List Str} {x : Str} {t tlo : Tok} {args : Args}
    (hargs : args = ⟨[.ref a, .str x t, .int 0 tlo, .none], []⟩ ∨ (args = ⟨[.ref a, .str x t], []⟩ ∧ tlo = 218))
    (X : (hd.heap_39 w.params).In s.heap) (T : Top p loose mean mg mb s.heap) (hdp : dd < 900)
    (hl : s.heap.IsList a vs.toArray) (hs : StrsAre vs ss) (hlen : ss.length < 100)
    (hmono : ∀ i j, i ≤ j → j < ss.length → ¬ x.cps.toList < tx ss j → ¬ x.cps.toList < tx ss i)
    (h : ∀ h' tk (r : Nat) t', s.heap.StaysIn h' → Cut (fun i => ¬ x.cps.toList < tx ss i) 0 ss.length r → R (.ok (.ret (.int r t'))) { s with heap := h', toks := tk }) :
    codeAny (model Challenge.rw_pe0127_01.row.prog w) (Ar dd fr gs uu) (.call (.ref 39) args) R s := by
  have hlv : vs.length = ss.length := hs.length
  revert X
  k_fill
  intro X
  refine' fcall [("a", .ref a), ("x", .str x t), ("lo", .int 0 tlo), ("hi", .none), ("key", .none)] X T ?k8 ?k6 ?k7 ?k9 ?kB ?c5 ?_ ?c2 ?c3 ?c4
  case k6 => k_is
  case k7 => k_is
  case k8 => show dd < 1000; omega
  case k9 => intro S; rcases hargs with rfl | ⟨rfl, rfl⟩ <;> exact rfl
  case kB => exact rfl
  case c2 => exact rfl
  case c3 => exact rfl
  case c4 => exact rfl
  case c5 => decide
  intro h₁ L tk F
  have N : News s.heap L h₁ [] := News.nil
  walk_at "GO"
  refine Stop.go ?_
  rename Fr _ _ _ _ => F
  rename News _ _ _ _ => N
  refine while_fr (L := L) rfl (fun n m news => ∃ (lo hi : Nat) (tl th : Tok), Has m [("lo", .int lo tl), ("hi", .int hi th), ("a", .ref a), ("x", .str x t), ("key", .none)] ∧ lo ≤ hi ∧ hi ≤ ss.length ∧ n = hi - lo ∧
     (∀ i, i < lo → ¬ x.cps.toList < tx ss i) ∧ (∀ i, hi ≤ i → i < ss.length → ¬ ¬ x.cps.toList < tx ss i)) ss.length F N ?_ ?_
  · exact ⟨0, ss.length, _, _, ⟨rfl, rfl, rfl, rfl, rfl, trivial⟩, by omega, by omega, rfl, by omega, by omega⟩
  · rintro n m news hh1 tk1 ⟨lo, hi, tl, th, hm, h1, h2, rfl, h3, h4⟩ F N
    replace F := hm.fr F
    replace N : News s.heap L hh1 [] := News.nil
    walk_at "GO"
    · rename Fr _ _ _ _ => F
      have e := mid_fdiv lo hi
      simp only [e] at F ⊢
      refine item_strsA (hl.at (F.keep _)) (by assumption) (by omega) (by omega) (by omega) (fun t' => ?_)
      walk_at "GO"
      · rename Fr _ _ _ _ => F
        rename News _ _ _ _ => N
        rename ((_ : List Nat) < _) => hlt
        simp only [TurnQ]
        refine Turn.mk (news' := []) F N (by simp) (by simp) (by simp) ⟨(lo + hi) / 2 - lo, by omega, lo, (lo + hi) / 2, _, _, ⟨rfl, rfl, rfl, rfl, rfl, trivial⟩, by omega, by omega, rfl, h3, fun i hi' hi2 hc => ?_⟩
        exact hmono ((lo + hi) / 2) i hi' hi2 hc hlt
      · rename Fr _ _ _ _ => F
        rename News _ _ _ _ => N
        rename (¬ (_ : List Nat) < _) => hlt
        simp only [TurnQ]
        refine Turn.mk (news' := []) F N (by simp) (by simp) (by simp) ⟨hi - ((lo + hi) / 2 + 1), by omega, (lo + hi) / 2 + 1, hi, _, _, ⟨rfl, rfl, rfl, rfl, rfl, trivial⟩, by omega, by omega, rfl, fun i hi' => ?_, h4⟩
        exact hmono i ((lo + hi) / 2) (by omega) (by omega) hlt
    · rename Fr _ _ _ _ => F
      exact h _ _ _ _ F.keep ⟨by omega, by omega, fun i _ hi => h3 i hi, fun i hi => h4 i (by omega)⟩

end Mine
end

section
open PySem PySem.W PyProof.Rows PySem.Calls
set_option maxRecDepth 100000
namespace Mine
theorem afresh_MIns : True := by
  w_top off
  trivial
local macro_rules | `(tactic| walk_at "call ref") => `(tactic| refine Stop.mk ?_)
local macro_rules | `(tactic| walk_at "call builtin:list.insert") => `(tactic| refine Stop.mk ?_)
local macro_rules | `(tactic| walk_at "GO") => `(tactic| w_strict (repeat' (first | (k_unfold; (try dsimp only)) | walk1 | (dsimp only; walk1))))
variable {w : World} {dd : Nat} {fr : Option (List Env)} {gs : Option (List Code)} {uu : Nat} {mg mb : Str → Option Value}
  {p : Program} {loose : List Str} {mean : ExcName → Option Value} {s : Shared} {R : Result → Shared → Prop}

set_option maxHeartbeats 4000000 in
theorem insort_right_c {a : Addr} {vs : List Value} {n : Nat} {ss : List Str} {x : Str} {t : Tok}
    (ha : s.heap.get? a = some (listOf vs.toArray n)) (X : (hd.heap_39 w.params).In (s.heap.hide a)) (T : Top p loose mean mg mb (s.heap.hide a)) (hdp : dd < 800)
    (hs : StrsAre vs ss) (hlen : ss.length < 100)
    (hmono : ∀ i j, i ≤ j → j < ss.length → ¬ x.cps.toList < tx ss j → ¬ x.cps.toList < tx ss i)
    (h : ∀ h' tk (r : Nat), (s.heap.hide a).StaysIn h' → Cut (fun i => ¬ x.cps.toList < tx ss i) 0 ss.length r → h'.get? a = some (listOf (vs.take r ++ .str x t :: vs.drop r).toArray (n + 1)) →
      R (.ok (.ret .none)) { s with heap := h', toks := tk }) :
    codeAny (model Challenge.rw_pe0127_01.row.prog w) (Ar dd fr gs uu) (.call (.ref 30) ⟨[.ref a, .str x t], []⟩) R s := by
  have hlv : vs.length = ss.length := hs.length
  revert X
  k_fill
  intro X
  refine' fcallM [("a", .ref a), ("x", .str x t), ("lo", .int 0 205), ("hi", .none), ("key", .none)] ha X T ?k8 ?k6 ?k7 ?k9 ?kB ?c5 ?_ ?c2 ?c3 ?c4
  case k6 => k_is
  case k7 => k_is
  case k8 => show dd < 1000; omega
  case k9 => intro S; exact rfl
  case kB => exact rfl
  case c2 => exact rfl
  case c3 => exact rfl
  case c4 => exact rfl
  case c5 => decide
  intro h₁ L tk F N
  walk_at "GO"
  refine Stop.go ?_
  refine wpAny_call (bisect_right_c (tlo := 205) (.inl rfl) (X.keeps F.keep) (T.keeps F.keep) (by show dd + 1 < 900; omega) (N.isList (.head _)) hs hlen hmono fun h' tk' r t' st hc => ?_)
  dsimp only
  replace F := F.kept st
  replace N : News (s.heap.hide a) L h' [(a, listOf vs.toArray n)] := fun p hp => ⟨st _ _ (N p hp).1, (N p hp).2⟩
  walk_at "GO"
  refine Stop.go ?_
  rename Fr _ _ _ _ => F
  rename News _ _ _ _ => N
  obtain ⟨hc1, hc2, _⟩ := id hc
  have e : kl_ins vs (r : Int) (.str x t) = vs.take r ++ .str x t :: vs.drop r := by
    unfold kl_ins
    rw [if_neg (by omega)]
    have : min ((r : Int)).toNat vs.length = r := by omega
    rw [this]
  refine kl_insert F N (by simp [Builtin.List.listFitsIndex]; omega) e (.head (by simp)) (by rw [sizeLine_eq]; show vs.length ≤ _; omega) fun h'' F'' N'' => ?_
  walk_at "GO"
  exact h _ _ r F''.keep hc (N''.get (.head _))
end Mine
end

section
open PySem PySem.W PyProof.Rows PySem.Calls PySem.Builtin PySem.Builtin.Str
set_option maxRecDepth 100000
namespace Mine

theorem gives_find4 (x y : PySem.Str) (i j : Nat) (hj : j ≤ x.length) (t u v z : Tok) : Gives («str.find» ⟨[.str x t, .str y u, .int i v, .int j z], []⟩) (.int (match occurrences x y i j 1 with | k :: _ => (k : Int) | [] => -1)) := by
  have e1 : fromIndex x.length (i : Int) = i := by unfold fromIndex; rw [if_neg (by omega)]; omega
  have e2 : min (fromIndex x.length (j : Int)) x.length = j := by unfold fromIndex; rw [if_neg (by omega)]; omega
  show Gives (match occurrences x y (fromIndex x.length i) (min (fromIndex x.length j) x.length) 1 with | k :: _ => retInt k | [] => (do rule "str.find.not-found"; retInt (-1))) _
  rw [e1, e2]
  cases occurrences x y i j 1 with
  | nil => exact .rule (.of_eq rfl)
  | cons k _ => exact .of_eq rfl

section
variable {prog : Program} {w : World} {A : Around} {E : Value → Shared → Prop} {s : Shared} {Q : Value → Shared → Prop}
theorem find4 {x y : PySem.Str} {i j : Nat} {t u v z : Tok} (hj : j ≤ x.length) (hq : Q (.int (match occurrences x y i j 1 with | k :: _ => (k : Int) | [] => -1) s.toks) { s with toks := s.toks + 1 }) :
    wpAny (model prog w) A (call (.builtin "str.find") [.str x t, .str y u, .int i v, .int j z]) Q E s :=
  call_gives F.slot_str_find (typeIs_str _ _ _) F.entry_str_find (F.args_str_find_4 _ _ _ _) (gives_find4 x y i j hj t u v z) hq

theorem item_last {value slice : Expr} {a : Addr} {l : List Value} {u : Tok} {x : Value} (hl : s.heap.IsList a (l ++ [x]).toArray) (hlen : l.length < 100) (h : Q x s)
    (hs : subscripted slice false (.ref a) (.int (-1) u) = operate [.ref a, .int (-1) u] (getItem (.ref a) (.int (-1) u)) := by with_unfolding_all rfl) (hg : ∀ r, letTemporaryGo value (.ref a) r = pure () := by intro _; with_unfolding_all rfl) :
    wpAny (model prog w) A (subscriptTail value slice (.ref a) (.int (-1) u)) Q E s := by
  refine subscriptTail_builtin hl.typeIs slot_list_getitem.lookup (wpAny_getItem_list_neg hl (by decide) ?_ (by decide) ?_ h) hs hg
  · simp only [List.size_toArray, List.length_append, List.length_cons, List.length_nil]; omega
  · have e : (-1 + (((l ++ [x]).toArray.size : Nat) : Int)).toNat = l.length := by
      simp only [List.size_toArray, List.length_append, List.length_cons, List.length_nil]; omega
    rw [e]; simp
end

theorem strs_append_inv : ∀ {ss ts : List PySem.Str} {vs : List Value}, StrsAre vs (ss ++ ts) → ∃ v1 v2, vs = v1 ++ v2 ∧ StrsAre v1 ss ∧ StrsAre v2 ts
  | [], _, vs, h => ⟨[], vs, rfl, .nil, h⟩
  | s :: ss, ts, _, h => by
    obtain ⟨t, vs', rfl, h'⟩ := h.cons_inv
    obtain ⟨v1, v2, rfl, a, b⟩ := strs_append_inv h'
    exact ⟨.str s t :: v1, v2, rfl, .cons s t a, b⟩

/-- what the loop over the pieces answers -/
def scan (got : PySem.Str) (e : Nat) : List PySem.Str → Nat → Bool
  | [], _ => true
  | w :: r, st => match occurrences got w st e 1 with
    | [] => false
    | i :: _ => scan got e r (i + w.length)
/-- what _ellipsis_match answers where the pattern falls into f, ms and l -/
def ellM (f : PySem.Str) (ms : List PySem.Str) (l got : PySem.Str) : Bool :=
  Txt.startswith got f && Txt.endswith got l && decide (f.length + l.length ≤ got.length) &&
    scan got (got.length - l.length) ((if f.length = 0 then [f] else []) ++ ms ++ (if l.length = 0 then [l] else [])) f.length
end Mine
end

section
open PySem PySem.W PyProof.Rows PySem.Calls
set_option maxRecDepth 100000
namespace Mine
theorem afresh_MEll : True := by
  w_top off
  trivial
local macro_rules | `(tactic| walk_at "call ref") => `(tactic| refine Stop.mk ?_)
local macro_rules | `(tactic| walk_at "exec If Name cons nil") => `(tactic| refine Stop.mk ?_)
local macro_rules | `(tactic| walk_at "pyIter ref") => `(tactic| refine Stop.mk ?_)
local macro_rules | `(tactic| walk_at "exec For Name Name cons nil") => `(tactic| refine Stop.mk ?_)
local macro_rules | `(tactic| walk_at "call builtin:str.split") => `(tactic| refine Stop.mk ?_)
local macro_rules | `(tactic| walk_at "delItem ref int") => `(tactic| refine Stop.mk ?_)
local macro_rules | `(tactic| walk_at "subscriptTail Name Constant ref int") => `(tactic| refine Stop.mk ?_)
local macro_rules | `(tactic| walk_at "subscriptTail Name UnaryOp ref int") => `(tactic| refine Stop.mk ?_)
local macro_rules | `(tactic| walk_at "call builtin:str.find") => `(tactic| refine Stop.mk ?_)
local macro_rules | `(tactic| walk_at "GO") => `(tactic| w_strict (repeat' (first | (k_unfold; (try dsimp only)) | walk1 | (dsimp only; walk1))))
variable {w : World} {dd : Nat} {fr : Option (List Env)} {gs : Option (List Code)} {uu : Nat} {mg mb : Str → Option Value}
  {p : Program} {loose : List Str} {mean : ExcName → Option Value} {s : Shared} {R : Result → Shared → Prop}

theorem len_listN {prog : Program} {A : Around} {E : Value → Shared → Prop} {a : Addr} {l : List Value} {n : Nat} {Q : Value → Shared → Prop} (hl : s.heap.IsList a l.toArray) (hn : l.length = n) (hb : n < 10000)
    (h : Q (.int n (s.toks + 1)) { s with toks := s.toks + 1 + 1 }) : wpAny (model prog w) A (call (.builtin "len") [.ref a]) Q E s := by
  subst hn
  exact len_list hl (by simp; omega) (by simpa using h)
theorem seqIndex_last (n : Nat) : seqIndex? (-1) (n + 1) = some n := by
  rw [PySem.seqIndex_neg (by decide) (by omega)]
  congr 1
  omega
theorem seqIndex_first (n : Nat) : seqIndex? 0 (n + 1) = some 0 := by
  rw [StrLaws.seqIndex_nonneg (by decide) (by omega)]
  rfl
theorem startswith_nil {x y : Str} (h : y.length = 0) : Txt.startswith x y = true := by
  have hy : y.cps.toList = [] := by have := h; unfold Str.length at this; simpa using this
  unfold Txt.startswith
  rw [StrLaws.subAt_eq, h, hy]
  simp
theorem endswith_nil {x y : Str} (h : y.length = 0) : Txt.endswith x y = true := by
  have hy : y.cps.toList = [] := by have := h; unfold Str.length at this; simpa using this
  unfold Txt.endswith
  rw [StrLaws.subAt_eq, h, hy]
  simp

set_option maxHeartbeats 8000000 in
theorem ell_c {want got : Str} {t u : Tok}
    (X : (hd.heap_39 w.params).In s.heap) (T : Top p loose mean mg mb s.heap) (hdp : dd < 900)
    (hw : want.length ≤ 100) (hg : got.length ≤ 100)
    {f l : Str} {ms : List Str} (hsp : Txt.split want "..." = f :: (ms ++ [l])) (hne : (Builtin.Str.occurrences want "..." 0 want.length 1).isEmpty = false) (hms : ms.length < 10) (hfl : f.length ≤ 100) (hll : l.length ≤ 100) (hml : ∀ y ∈ ms, y.length ≤ 100)
    (h : ∀ h' tk, s.heap.StaysIn h' → R (.ok (.ret (.bool (ellM f ms l got)))) { s with heap := h', toks := tk }) :
    codeAny (model Challenge.rw_pe0127_01.row.prog w) (Ar dd fr gs uu) (.call (.ref 21) ⟨[.str want t, .str got u], []⟩) R s := by
  revert X
  k_fill
  intro X
  refine' fcall [("want", .str want t), ("got", .str got u)] X T ?k8 ?k6 ?k7 ?k9 ?kB ?c5 ?_ ?c2 ?c3 ?c4
  case k6 => k_is
  case k7 => k_is
  case k8 => show dd < 1000; omega
  case k9 => intro S; exact rfl
  case kB => exact rfl
  case c2 => exact rfl
  case c3 => exact rfl
  case c4 => exact rfl
  case c5 => decide
  intro h₁ L tk F
  have N : News s.heap L h₁ [] := News.nil
  walk_at "GO"
  refine Stop.go ?_
  refine KSpl.split1 F N (by decide) (fun D lt h' k e hS F N hlt => ?_) (by rw [sizeLine_eq]; omega)
  rw [hsp] at e
  rw [e] at hS
  clear hlt
  generalize strValues lt = vs at hS N
  obtain ⟨t0, vr, rfl, hS1⟩ := hS.cons_inv
  obtain ⟨vm, vl, rfl, hSm, hSl⟩ := strs_append_inv hS1
  obtain ⟨tl, vn, rfl, hSl'⟩ := hSl.cons_inv
  obtain rfl := hSl'.nil_inv
  have hlv := hSm.length
  clear hS hS1 hSl hSl' e
  walk_at "GO"
  rename Fr _ _ _ _ => F
  rename News _ _ _ _ => N
  refine len_listN (n := ms.length + 2) (N.isList (.head _)) (by simp; omega) (by omega) ?_
  walk_at "GO"
  refine Stop.go ?_
  rename Fr _ _ _ _ => F
  rename News _ _ _ _ => N
  refine item_listL (N.isList (.tail _ (.head _))) (by decide) (by decide) rfl ?_
  walk_at "GO"
  refine Stop.go ?_
  rename Fr _ _ _ _ => F
  rename News _ _ _ _ => N
  refine wpAny_mono (Q := fun fl s' => Stop (match fl with
    | .next => ∃ h' tk' m vs1 n1 tS tE, s' = { s with heap := h', toks := tk' } ∧ Fr s.heap L h' m ∧ Has m [("ws", .ref D), ("got", .str got u), ("startpos", .int f.length tS), ("endpos", .int got.length tE)] ∧
        News s.heap L h' [(D, listOf (vs1 ++ [.str l tl]).toArray n1)] ∧ StrsAre vs1 ((if f.length = 0 then [f] else []) ++ ms) ∧ Txt.startswith got f = true
    | .ret v => v = .bool false ∧ Txt.startswith got f = false ∧ ∃ h' tk', s' = { s with heap := h', toks := tk' } ∧ s.heap.StaysIn h'
    | _ => False)) (E := NoE) ?_ ?_ (fun _ _ x => x)
  · refine wpAny_If ?_
    walk_at "GO"
    · refine Stop.go ?_
      rename Fr _ _ _ _ => F
      rename News _ _ _ _ => N
      rename (_ ≠ (0 : Int)) => hf0
      refine delItem_second F N (by k_ne) (by simp) (by decide) (k := 0) (by rw [List.size_toArray, List.length_cons]; exact seqIndex_first _) (fun h' F N => ?_) (by rw [sizeLine_eq]; simp; omega)
      walk_at "GO"
      refine Stop.go ⟨_, _, _, vm, _, _, _, rfl, F, ⟨rfl, rfl, rfl, rfl, trivial⟩, fun p hp => N p (.tail _ hp), ?_, by assumption⟩
      rw [if_neg (by omega)]
      exact hSm
    · exact Stop.go ⟨rfl, by assumption, _, _, rfl, F.keep⟩
    · rename (_ = (0 : Int)) => hf0
      have hf1 : f.length = 0 := by omega
      refine Stop.go ⟨_, _, _, .str f t0 :: vm, _, _, _, rfl, F, ⟨rfl, rfl, by rw [hf1]; rfl, rfl, trivial⟩, fun p hp => N p (.tail _ hp), ?_, startswith_nil hf1⟩
      rw [if_pos hf1]
      exact .cons f t0 hSm
  · intro fl s' hs'
    replace hs' := Stop.mk hs'
    clear F N
    cases fl with
    | brk => exact hs'.elim
    | cont => exact hs'.elim
    | ret v =>
      obtain ⟨rfl, hst, h', tk', rfl, hk⟩ := hs'
      have e : ellM f ms l got = false := by unfold ellM; rw [hst]; rfl
      rw [e] at h
      exact h _ _ hk
    | next =>
      obtain ⟨h', tk', m, vs1, n1, tS, tE, rfl, F, hm, N, hS1, hst⟩ := hs'
      replace F := hm.fr F
      have hl1 := hS1.length
      have hl2 : ((if f.length = 0 then [f] else []) ++ ms).length ≤ ms.length + 1 := by split <;> simp
      dsimp only
      walk_at "GO"
      refine Stop.go ?_
      refine item_last (N.isList (.head _)) (by omega) ?_
      walk_at "GO"
      refine Stop.go ?_
      rename Fr _ _ _ _ => F
      rename News _ _ _ _ => N
      refine wpAny_mono (Q := fun fl s' => Stop (match fl with
        | .next => ∃ h' tk' m vs2 n2 tS tE, s' = { s with heap := h', toks := tk' } ∧ Fr s.heap L h' m ∧ Has m [("ws", .ref D), ("got", .str got u), ("startpos", .int f.length tS), ("endpos", .int (got.length - l.length : Nat) tE)] ∧
            News s.heap L h' [(D, listOf vs2.toArray n2)] ∧ StrsAre vs2 ((if f.length = 0 then [f] else []) ++ ms ++ (if l.length = 0 then [l] else [])) ∧ Txt.endswith got l = true
        | .ret v => v = .bool false ∧ Txt.endswith got l = false ∧ ∃ h' tk', s' = { s with heap := h', toks := tk' } ∧ s.heap.StaysIn h'
        | _ => False)) (E := NoE) ?_ ?_ (fun _ _ x => x)
      · refine wpAny_If ?_
        walk_at "GO"
        · refine Stop.go ?_
          rename Fr _ _ _ _ => F
          rename News _ _ _ _ => N
          rename (_ ≠ (0 : Int)) => hl0
          rename (Txt.endswith got l = true) => hen
          have hle : l.length ≤ got.length := by
            unfold Txt.endswith at hen
            simp only [Bool.and_eq_true, decide_eq_true_eq] at hen
            omega
          refine delItem_head F N (by simp) (by decide) (k := vs1.length) (by rw [List.size_toArray, List.length_append]; exact seqIndex_last _) (fun h' F N => ?_) (by rw [sizeLine_eq]; simp; omega)
          walk_at "GO"
          have e : ((vs1 ++ [Value.str l tl]).toArray.toList.eraseIdx vs1.length) = vs1 := by
            show (vs1 ++ [Value.str l tl]).eraseIdx vs1.length = vs1
            rw [List.eraseIdx_append_of_length_le (Nat.le_refl _)]; simp
          rw [e] at N
          have ei : ((got.length : Int) - (l.length : Int)) = ((got.length - l.length : Nat) : Int) := by omega
          simp only [ei] at F
          refine Stop.go ⟨_, _, _, vs1, _, _, _, rfl, F, ⟨rfl, rfl, rfl, rfl, trivial⟩, N, ?_, hen⟩
          · rw [if_neg (by omega : ¬ l.length = 0), List.append_nil]
            exact hS1
        · exact Stop.go ⟨rfl, by assumption, _, _, rfl, F.keep⟩
        · rename (_ = (0 : Int)) => hl0
          have hl3 : l.length = 0 := by omega
          refine Stop.go ⟨_, _, _, vs1 ++ [.str l tl], _, _, _, rfl, F, ⟨rfl, rfl, rfl, by rw [hl3]; rfl, trivial⟩, N, ?_, endswith_nil hl3⟩
          rw [if_pos hl3]
          exact hS1.append' (.cons l tl .nil)
      · intro fl s' hs'
        replace hs' := Stop.mk hs'
        clear F N
        cases fl with
        | brk => exact hs'.elim
        | cont => exact hs'.elim
        | ret v =>
          obtain ⟨rfl, hen, h', tk', rfl, hk⟩ := hs'
          have e : ellM f ms l got = false := by unfold ellM; rw [hst, hen]; rfl
          rw [e] at h
          exact h _ _ hk
        | next =>
          obtain ⟨h', tk', m, vs2, n2, tS, tE, rfl, F, hm, N, hS2, hen⟩ := hs'
          replace F := hm.fr F
          have hle : l.length ≤ got.length := by
            unfold Txt.endswith at hen
            simp only [Bool.and_eq_true, decide_eq_true_eq] at hen
            omega
          dsimp only
          walk_at "GO"
          · rename (_ > _) => hgt
            have e : ellM f ms l got = false := by
              unfold ellM
              rw [hst, hen, decide_eq_false (by omega)]; rfl
            rw [e] at h
            exact h _ _ F.keep
          · refine Stop.go ?_
            rename (¬ _ > _) => hgt
            have e : ellM f ms l got = scan got (got.length - l.length) ((if f.length = 0 then [f] else []) ++ ms ++ (if l.length = 0 then [l] else [])) f.length := by
              unfold ellM
              rw [hst, hen, decide_eq_true (by omega)]; rfl
            rw [e] at h
            clear e hS1
            generalize hws : (if f.length = 0 then [f] else []) ++ ms ++ (if l.length = 0 then [l] else []) = ws at hS2 h
            have hwl : ∀ y ∈ ws, y.length ≤ 100 := by
              intro y hy
              rw [← hws] at hy
              simp only [List.mem_append] at hy
              rcases hy with (hy | hy) | hy
              · split at hy <;> simp_all
              · exact hml y hy
              · split at hy <;> simp_all
            refine wpAny_For ?_
            walk_at "GO"
            refine Stop.go ?_
            refine iter_list (L := L) rfl rfl (N.isList (.head _)) (N _ (.head _)).2.1 F N
              (fun i m news => ∃ (st : Nat) (tS : Tok), Has m [("got", .str got u), ("startpos", .int st tS), ("endpos", .int (got.length - l.length : Nat) tE)] ∧ scan got (got.length - l.length) (ws.drop i) st = scan got (got.length - l.length) ws f.length) ⟨f.length, tS, ⟨rfl, rfl, rfl, trivial⟩, rfl⟩ ?_ ?_
            · intro i v m news own h₂ tk₂ I hI hv hJ hnI hown F N
              obtain ⟨st, tS, hm, hsc⟩ := hJ
              obtain ⟨y, ty, rfl, hy⟩ := hS2.item i v hv
              replace F := hm.fr F
              have hyl := hwl y (List.mem_of_getElem? hy)
              have hdr : ws.drop i = y :: ws.drop (i + 1) := by
                obtain ⟨hi, he⟩ := List.getElem?_eq_some_iff.mp hy
                rw [List.drop_eq_getElem_cons hi, he]
              rw [hdr] at hsc
              simp only [scan] at hsc
              walk_at "GO"
              refine Stop.go ?_
              refine find4 (by omega) ?_
              cases hoc : Builtin.Str.occurrences got y st (got.length - l.length) 1 with
              | nil =>
                rw [hoc] at hsc
                simp only at hsc
                dsimp only
                walk_at "GO"
                rename Fr _ _ _ _ => F
                rw [← hsc] at h
                exact h _ _ F.keep
              | cons k r =>
                rw [hoc] at hsc
                simp only at hsc
                dsimp only
                walk_at "GO"
                rename Fr _ _ _ _ => F
                rename News _ _ _ _ => N
                simp only [TurnQ]
                exact Turn.mk (news' := []) F N (by simp) (fun p hp => List.mem_append_right _ hp) (by simp) ⟨k + y.length, _, ⟨rfl, rfl, rfl, trivial⟩, hsc⟩
            · intro m news h₂ tk₂ hJ F N
              obtain ⟨st, tS, hm, hsc⟩ := hJ
              walk_at "GO"
              rw [hS2.length, List.drop_length] at hsc
              rw [← hsc] at h
              exact h _ _ F.keep

set_option maxHeartbeats 4000000 in
theorem ell_no_c {want got : Str} {t u : Tok}
    (X : (hd.heap_39 w.params).In s.heap) (T : Top p loose mean mg mb s.heap) (hdp : dd < 900)
    (hne : (Builtin.Str.occurrences want "..." 0 want.length 1).isEmpty = true)
    (h : ∀ h' tk, s.heap.StaysIn h' → R (.ok (.ret (.bool (want == got)))) { s with heap := h', toks := tk }) :
    codeAny (model Challenge.rw_pe0127_01.row.prog w) (Ar dd fr gs uu) (.call (.ref 21) ⟨[.str want t, .str got u], []⟩) R s := by
  revert X
  k_fill
  intro X
  refine' fcall [("want", .str want t), ("got", .str got u)] X T ?k8 ?k6 ?k7 ?k9 ?kB ?c5 ?_ ?c2 ?c3 ?c4
  case k6 => k_is
  case k7 => k_is
  case k8 => show dd < 1000; omega
  case k9 => intro S; exact rfl
  case kB => exact rfl
  case c2 => exact rfl
  case c3 => exact rfl
  case c4 => exact rfl
  case c5 => decide
  intro h₁ L tk F
  have N : News s.heap L h₁ [] := News.nil
  walk_at "GO"
  exact h _ _ F.keep
end Mine
end

section
open PySem PySem.W PyProof.Rows PySem.Calls
set_option maxRecDepth 100000
namespace Mine
theorem afresh_MDue : True := by
  w_top off
  trivial
local macro_rules | `(tactic| walk_at "call ref") => `(tactic| refine Stop.mk ?_)
local macro_rules | `(tactic| walk_at "newList") => `(tactic| refine Stop.mk ?_)
local macro_rules | `(tactic| walk_at "pyIter ref") => `(tactic| refine Stop.mk ?_)
local macro_rules | `(tactic| walk_at "call builtin:list.append") => `(tactic| refine Stop.mk ?_)
local macro_rules | `(tactic| walk_at "call builtin:sorted") => `(tactic| refine Stop.mk ?_)
local macro_rules | `(tactic| walk_at "exec For Name Name cons nil") => `(tactic| refine Stop.mk ?_)
local macro_rules | `(tactic| walk_at "GO") => `(tactic| w_strict (repeat' (first | (k_unfold; (try dsimp only)) | walk1 | (dsimp only; walk1))))
variable {w : World} {dd : Nat} {fr : Option (List Env)} {gs : Option (List Code)} {uu : Nat} {mg mb : Str → Option Value}
  {p : Program} {loose : List Str} {mean : ExcName → Option Value} {s : Shared} {R : Result → Shared → Prop}

/-- what the three dots would stand for in a text -/
def dueS (first last y : Str) : Str := Txt.slice y (some (first.length : Int)) (some ((first.length : Int) + ((y.length : Int) - (first.length : Int) - (last.length : Int))))
def dueF (first last y : Str) : Option Str := if (first ++ dueS first last y ++ last == y) = true then some (dueS first last y) else none
theorem take_succ_filterMap {α β : Type} (f : α → Option β) {l : List α} {i : Nat} {y : α} (h : l[i]? = some y) : (l.take (i + 1)).filterMap f = (l.take i).filterMap f ++ (f y).toList := by
  rw [List.take_add_one, h, List.filterMap_append]
  cases e : f y <;> simp [e]
theorem strs_push {its : List Value} {ss : List Str} (h : StrsAre its ss) (y : Str) (t : Tok) : StrsAre (its ++ [.str y t]) (ss ++ [y]) := h.append' (.cons y t .nil)

set_option maxHeartbeats 8000000 in
theorem due_c {a : Addr} {vs : List Value} {ts : List Str} {first last : Str} {t u : Tok}
    (X : (hd.heap_39 w.params).In s.heap) (T : Top p loose mean mg mb s.heap) (hdp : dd < 900)
    (hl : s.heap.IsList a vs.toArray) (hs : StrsAre vs ts) (hlen : ts.length < 60) (hts : ∀ y ∈ ts, y.length ≤ 100) (hf1 : first.length ≤ 100) (hl1 : last.length ≤ 100)
    (h : ∀ h' tk D vs' ss', s.heap.StaysIn h' → s.heap.get? D = none → h'.IsList D vs'.toArray → StrsAre vs' ss' → ss'.Perm (ts.filterMap (dueF first last)) → sortedS ss' = true → R (.ok (.ret (.ref D))) { s with heap := h', toks := tk }) :
    codeAny (model Challenge.rw_pe0127_01.row.prog w) (Ar dd fr gs uu) (.call (.ref 74) ⟨[.ref a, .str first t, .str last u], []⟩) R s := by
  revert X
  k_fill
  intro X
  refine' fcall [("texts", .ref a), ("first", .str first t), ("last", .str last u)] X T ?k8 ?k6 ?k7 ?k9 ?kB ?c5 ?_ ?c2 ?c3 ?c4
  case k6 => k_is
  case k7 => k_is
  case k8 => show dd < 1000; omega
  case k9 => intro S; exact rfl
  case kB => exact rfl
  case c2 => exact rfl
  case c3 => exact rfl
  case c4 => exact rfl
  case c5 => decide
  intro h₁ L tk F
  have N : News s.heap L h₁ [] := News.nil
  walk_at "GO"
  refine Stop.go ?_
  refine newList_K F N fun D h' F N hlt => ?_
  clear hlt
  walk_at "GO"
  refine Stop.go ?_
  refine wpAny_For ?_
  walk_at "GO"
  refine Stop.go ?_
  rename Fr _ _ _ _ => F
  rename News _ _ _ _ => N
  have hDa : D ≠ a := fun e => by
    obtain ⟨o, ho, _⟩ := hl
    have := (N _ (.head _)).2.2
    dsimp only at this
    rw [e, ho] at this
    cases this
  refine iter_list (L := L) rfl rfl (hl.at (F.keep _)) (fun e => by
      obtain ⟨o, ho, _⟩ := hl
      exact absurd (Nat.lt_of_lt_of_le (Heap.lt_size ho) F.above) (e ▸ Nat.lt_irrefl _)) F N
    (fun i m news => ∃ its n, Has m [("texts", .ref a), ("first", .str first t), ("last", .str last u), ("due", .ref D)] ∧ news = [(D, listOf its.toArray n)] ∧ StrsAre its ((ts.take i).filterMap (dueF first last))) ⟨[], _, ⟨rfl, rfl, rfl, rfl, trivial⟩, rfl, .nil⟩ ?_ ?_
  · intro i v m news own h₂ tk₂ I hI hv hJ hnI hown F N
    obtain ⟨its, n, hm, rfl, hS⟩ := hJ
    obtain ⟨y, ty, rfl, hy⟩ := hs.item i v hv
    replace F := hm.fr F
    have hyl := hts y (List.mem_of_getElem? hy)
    have hil : its.length ≤ 60 := by
      rw [hS.length]
      have := List.length_filterMap_le (dueF first last) (ts.take i)
      have h2 := List.length_take_le' i ts
      omega
    have hoD : ∀ q ∈ own, q.1 ≠ D := fun q hq e => by
      rcases hown q hq with e2 | e2
      · exact hnI (D, _) (.head _) (e ▸ e2)
      · exact hDa (e ▸ e2)
    simp only [List.cons_append, List.nil_append] at N
    walk_at "GO"
    · refine Stop.go ?_
      rename Fr _ _ _ _ => F
      rename News _ _ _ _ => N
      rename (_ = true) => hc
      refine append_K F N (.head hoD) (fun h' F N => ?_) (by rw [sizeLine_eq]; simp; omega)
      walk_at "GO"
      simp only [TurnQ]
      refine Turn.mk (news' := [(D, _)]) F N (fun q hq => by rw [List.mem_singleton.mp hq]; exact .head _) (fun q hq => .tail _ hq) (fun q hq => by rw [List.mem_singleton.mp hq]; simpa using hnI (D, _) (.head _)) ⟨_, _, ⟨rfl, rfl, rfl, rfl, trivial⟩, by rw [List.push_toArray], ?_⟩
      rw [take_succ_filterMap _ hy]
      have e : dueF first last y = some (dueS first last y) := if_pos hc
      rw [e]
      exact strs_push hS _ _
    · rename Fr _ _ _ _ => F
      rename News _ _ _ _ => N
      rename (_ = false) => hc
      simp only [TurnQ]
      refine Turn.mk (news' := [(D, _)]) F N (fun q hq => by rw [List.mem_singleton.mp hq]; exact .head _) (fun q hq => .tail _ hq) (fun q hq => by rw [List.mem_singleton.mp hq]; simpa using hnI (D, _) (.head _)) ⟨its, n, ⟨rfl, rfl, rfl, rfl, trivial⟩, rfl, ?_⟩
      rw [take_succ_filterMap _ hy]
      have e : dueF first last y = none := if_neg (by unfold dueS; rw [hc]; decide)
      rw [e]
      simpa using hS
  · intro m news h₂ tk₂ hJ F N
    obtain ⟨its, n, hm, rfl, hS⟩ := hJ
    replace F := hm.fr F
    rw [hs.length, List.take_length] at hS
    have hil : its.length ≤ 60 := by
      rw [hS.length]
      have := List.length_filterMap_le (dueF first last) ts
      omega
    walk_at "GO"
    refine Stop.go ?_
    refine sorted_N_str F N (N.isList (.head _)) hS (by omega) fun h' vs' ss' e F' N' hS' hp' hs' => ?_
    walk_at "GO"
    exact h _ _ _ vs' ss' F'.keep (N' _ (.head _)).2.2 (N'.isList (.head _)) hS' hp' hs'
end Mine
end

section
open PySem PySem.W PyProof.Rows PySem.Calls
set_option maxRecDepth 100000
namespace Mine
local macro_rules | `(tactic| walk_at "pad0") => `(tactic| skip)
theorem afresh_MTold : True := by
  w_top off
  trivial
local macro_rules | `(tactic| walk_at "call ref") => `(tactic| refine Stop.mk ?_)
local macro_rules | `(tactic| walk_at "newList") => `(tactic| refine Stop.mk ?_)
local macro_rules | `(tactic| walk_at "pyIter ref") => `(tactic| refine Stop.mk ?_)
local macro_rules | `(tactic| walk_at "call builtin:list.append") => `(tactic| refine Stop.mk ?_)
local macro_rules | `(tactic| walk_at "call builtin:sorted") => `(tactic| refine Stop.mk ?_)
local macro_rules | `(tactic| walk_at "exec For Name Name cons nil") => `(tactic| refine Stop.mk ?_)
local macro_rules | `(tactic| walk_at "GO") => `(tactic| w_strict (repeat' (first | (k_unfold; (try dsimp only)) | walk1 | (dsimp only; walk1))))
variable {w : World} {dd : Nat} {fr : Option (List Env)} {gs : Option (List Code)} {uu : Nat} {mg mb : Str → Option Value}
  {p : Program} {loose : List Str} {mean : ExcName → Option Value} {s : Shared} {R : Result → Shared → Prop}

def toldS (first last y : Str) : Str := Txt.slice y (some (first.length : Int)) (some ((y.length : Int) - (last.length : Int)))
def toldF (f : Str) (ms : List Str) (l first last y : Str) : Option Str := if ellM f ms l y = true then some (toldS first last y) else none

set_option maxHeartbeats 8000000 in
theorem told_c {a : Addr} {vs : List Value} {ts : List Str} {pattern first last : Str} {t0 t u : Tok}
    (X : (hd.heap_39 w.params).In s.heap) (T : Top p loose mean mg mb s.heap) (hdp : dd < 800)
    (hl : s.heap.IsList a vs.toArray) (hs : StrsAre vs ts) (hlen : ts.length < 60) (hts : ∀ y ∈ ts, y.length ≤ 100) (hf1 : first.length ≤ 100) (hl1 : last.length ≤ 100)
    (hw : pattern.length ≤ 100) {f l : Str} {ms : List Str} (hsp : Txt.split pattern "..." = f :: (ms ++ [l])) (hne : (Builtin.Str.occurrences pattern "..." 0 pattern.length 1).isEmpty = false) (hms : ms.length < 10) (hfl : f.length ≤ 100) (hll : l.length ≤ 100) (hml : ∀ y ∈ ms, y.length ≤ 100)
    (h : ∀ h' tk D vs' ss', s.heap.StaysIn h' → h'.IsList D vs'.toArray → StrsAre vs' ss' → ss'.Perm (ts.filterMap (toldF f ms l first last)) → sortedS ss' = true → R (.ok (.ret (.ref D))) { s with heap := h', toks := tk }) :
    codeAny (model Challenge.rw_pe0127_01.row.prog w) (Ar dd fr gs uu) (.call (.ref 86) ⟨[.ref a, .str pattern t0, .str first t, .str last u], []⟩) R s := by
  revert X
  k_fill
  intro X
  refine' fcall [("texts", .ref a), ("pattern", .str pattern t0), ("first", .str first t), ("last", .str last u)] X T ?k8 ?k6 ?k7 ?k9 ?kB ?c5 ?_ ?c2 ?c3 ?c4
  case k6 => k_is
  case k7 => k_is
  case k8 => show dd < 1000; omega
  case k9 => intro S; exact rfl
  case kB => exact rfl
  case c2 => exact rfl
  case c3 => exact rfl
  case c4 => exact rfl
  case c5 => decide
  intro h₁ L tk F
  have N : News s.heap L h₁ [] := News.nil
  walk_at "GO"
  refine Stop.go ?_
  refine newList_K F N fun D h' F N hlt => ?_
  clear hlt
  walk_at "GO"
  refine Stop.go ?_
  refine wpAny_For ?_
  walk_at "GO"
  refine Stop.go ?_
  rename Fr _ _ _ _ => F
  rename News _ _ _ _ => N
  have hDa : D ≠ a := fun e => by
    obtain ⟨o, ho, _⟩ := hl
    have := (N _ (.head _)).2.2
    dsimp only at this
    rw [e, ho] at this
    cases this
  refine iter_list (L := L) rfl rfl (hl.at (F.keep _)) (fun e => by
      obtain ⟨o, ho, _⟩ := hl
      exact absurd (Nat.lt_of_lt_of_le (Heap.lt_size ho) F.above) (e ▸ Nat.lt_irrefl _)) F N
    (fun i m news => ∃ its n, Has m [("texts", .ref a), ("pattern", .str pattern t0), ("first", .str first t), ("last", .str last u), ("told", .ref D)] ∧ news = [(D, listOf its.toArray n)] ∧ StrsAre its ((ts.take i).filterMap (toldF f ms l first last))) ⟨[], _, ⟨rfl, rfl, rfl, rfl, rfl, trivial⟩, rfl, .nil⟩ ?_ ?_
  · intro i v m news own h₂ tk₂ I hI hv hJ hnI hown F N
    obtain ⟨its, n, hm, rfl, hS⟩ := hJ
    obtain ⟨y, ty, rfl, hy⟩ := hs.item i v hv
    replace F := hm.fr F
    have hyl := hts y (List.mem_of_getElem? hy)
    have hil : its.length ≤ 60 := by
      rw [hS.length]
      have := List.length_filterMap_le (toldF f ms l first last) (ts.take i)
      have h2 := List.length_take_le' i ts
      omega
    have hoD : ∀ q ∈ own, q.1 ≠ D := fun q hq e => by
      rcases hown q hq with e2 | e2
      · exact hnI (D, _) (.head _) (e ▸ e2)
      · exact hDa (e ▸ e2)
    simp only [List.cons_append, List.nil_append] at N
    walk_at "GO"
    refine Stop.go ?_
    rename Fr _ _ _ _ => F
    rename News _ _ _ _ => N
    refine wpAny_call (ell_c (X.keeps F.keep) (T.keeps F.keep) (by show dd + 1 < 900; omega) hw hyl hsp hne hms hfl hll hml fun h' tk' st => ?_)
    dsimp only
    replace F := F.kept st
    replace N : News s.heap L h' _ := fun p hp => ⟨st _ _ (N p hp).1, (N p hp).2⟩
    cases hb : ellM f ms l y with
    | true =>
      walk_at "GO"
      refine Stop.go ?_
      rename Fr _ _ _ _ => F
      rename News _ _ _ _ => N
      refine append_K F N (.head hoD) (fun h' F N => ?_) (by rw [sizeLine_eq]; simp; omega)
      walk_at "GO"
      simp only [TurnQ]
      refine Turn.mk (news' := [(D, _)]) F N (fun q hq => by rw [List.mem_singleton.mp hq]; exact .head _) (fun q hq => .tail _ hq) (fun q hq => by rw [List.mem_singleton.mp hq]; simpa using hnI (D, _) (.head _)) ⟨_, _, ⟨rfl, rfl, rfl, rfl, rfl, trivial⟩, by rw [List.push_toArray], ?_⟩
      rw [take_succ_filterMap _ hy]
      have e : toldF f ms l first last y = some (toldS first last y) := if_pos hb
      rw [e]
      exact strs_push hS _ _
    | false =>
      walk_at "GO"
      rename Fr _ _ _ _ => F
      rename News _ _ _ _ => N
      simp only [TurnQ]
      refine Turn.mk (news' := [(D, _)]) F N (fun q hq => by rw [List.mem_singleton.mp hq]; exact .head _) (fun q hq => .tail _ hq) (fun q hq => by rw [List.mem_singleton.mp hq]; simpa using hnI (D, _) (.head _)) ⟨its, n, ⟨rfl, rfl, rfl, rfl, rfl, trivial⟩, rfl, ?_⟩
      rw [take_succ_filterMap _ hy]
      have e : toldF f ms l first last y = none := if_neg (by rw [hb]; decide)
      rw [e]
      simpa using hS
  · intro m news h₂ tk₂ hJ F N
    obtain ⟨its, n, hm, rfl, hS⟩ := hJ
    replace F := hm.fr F
    rw [hs.length, List.take_length] at hS
    have hil : its.length ≤ 60 := by
      rw [hS.length]
      have := List.length_filterMap_le (toldF f ms l first last) ts
      omega
    walk_at "GO"
    refine Stop.go ?_
    refine sorted_N_str F N (N.isList (.head _)) hS (by omega) fun h' vs' ss' e F' N' hS' hp' hs' => ?_
    walk_at "GO"
    exact h _ _ _ vs' ss' F'.keep (N'.isList (.head _)) hS' hp' hs'
end Mine
end

section
open PySem PySem.W PyProof.Rows PySem.Calls
namespace Mine

/-- a row of texts that rises -/
abbrev Srt (ss : List Str) : Prop := ss.Pairwise (fun a b => ¬ b.cps.toList < a.cps.toList)

theorem str_eq {a b : Str} (h : a.cps.toList = b.cps.toList) : a = b := by
  obtain ⟨⟨a⟩⟩ := a
  obtain ⟨⟨b⟩⟩ := b
  simp at h
  rw [h]

theorem srt_of_rising : ∀ (p : Str) (l : List Str), risingS p l = true → Srt (p :: l)
  | p, [], _ => by simp
  | p, x :: r, h => by
    have h' : (!Spec.ltCps x.cps.toList p.cps.toList && risingS x r) = true := h
    rw [Bool.and_eq_true, ltCps_eq] at h'
    have h1 : ¬ x.cps.toList < p.cps.toList := by simpa using h'.1
    have ih := srt_of_rising x r h'.2
    refine List.pairwise_cons.mpr ⟨fun y hy => ?_, ih⟩
    rcases List.mem_cons.mp hy with rfl | hy
    · exact h1
    · have h2 := (List.pairwise_cons.mp ih).1 y hy
      exact fun hc => h1 (Std.lt_of_le_of_lt (a := x.cps.toList) (b := y.cps.toList) h2 hc)
theorem srt_of_sortedS : ∀ {l : List Str}, sortedS l = true → Srt l
  | [], _ => .nil
  | x :: r, h => srt_of_rising x r h

theorem srt_unique : ∀ {l₁ l₂ : List Str}, l₁.Perm l₂ → Srt l₁ → Srt l₂ → l₁ = l₂
  | [], l₂, hp, _, _ => (List.nil_perm.mp hp).symm
  | a :: r, [], hp, _, _ => absurd hp.length_eq (by simp)
  | a :: r, b :: t, hp, h1, h2 => by
    have hab : a = b := by
      have ha : a ∈ b :: t := hp.mem_iff.mp (.head _)
      have hb : b ∈ a :: r := hp.mem_iff.mpr (.head _)
      rcases List.mem_cons.mp ha with e | ha
      · exact e
      rcases List.mem_cons.mp hb with e | hb
      · exact e.symm
      have h3 := (List.pairwise_cons.mp h1).1 b hb
      have h4 := (List.pairwise_cons.mp h2).1 a ha
      exact str_eq (List.le_antisymm (as := a.cps.toList) (bs := b.cps.toList) h3 h4)
    subst hab
    rw [srt_unique (List.Perm.cons_inv hp) (List.pairwise_cons.mp h1).2 (List.pairwise_cons.mp h2).2]

theorem srt_get {ss : List Str} (h : Srt ss) {i j : Nat} (hij : i ≤ j) (hj : j < ss.length) : ¬ tx ss j < tx ss i := by
  rcases Nat.eq_or_lt_of_le hij with rfl | hlt
  · exact List.lt_irrefl _
  · have := (List.pairwise_iff_getElem.mp h) i j (by omega) hj hlt
    simp only [tx, List.getD_eq_getElem?_getD, List.getElem?_eq_getElem hj, List.getElem?_eq_getElem (show i < ss.length by omega), Option.getD_some]
    exact this
theorem srt_mono_r {ss : List Str} (h : Srt ss) (x : List Nat) : ∀ i j, i ≤ j → j < ss.length → ¬ x < tx ss j → ¬ x < tx ss i := fun _ _ hij hj hn hc =>
  hn (Std.lt_of_lt_of_le hc (srt_get h hij hj))
theorem srt_mono_l {ss : List Str} (h : Srt ss) (x : List Nat) : ∀ i j, i ≤ j → j < ss.length → tx ss j < x → tx ss i < x := fun _ _ hij hj hc =>
  Std.lt_of_le_of_lt (srt_get h hij hj) hc

theorem perm_insert {α : Type} (l : List α) (x : α) (r : Nat) : (l.take r ++ x :: l.drop r).Perm (x :: l) := by
  have := (List.perm_middle (a := x) (l₁ := l.take r) (l₂ := l.drop r))
  rwa [List.take_append_drop] at this
theorem mem_take_idx {ss : List Str} {r : Nat} {y : Str} (hy : y ∈ ss.take r) : ∃ i, i < r ∧ i < ss.length ∧ tx ss i = y.cps.toList := by
  obtain ⟨i, hi, rfl⟩ := List.getElem_of_mem hy
  simp only [List.length_take] at hi
  refine ⟨i, by omega, by omega, ?_⟩
  simp [tx, List.getD_eq_getElem?_getD, List.getElem?_eq_getElem (show i < ss.length by omega)]
theorem mem_drop_idx {ss : List Str} {r : Nat} {y : Str} (hy : y ∈ ss.drop r) : ∃ i, r ≤ i ∧ i < ss.length ∧ tx ss i = y.cps.toList := by
  obtain ⟨i, hi, rfl⟩ := List.getElem_of_mem hy
  simp only [List.length_drop] at hi
  refine ⟨r + i, by omega, by omega, ?_⟩
  simp [tx, List.getD_eq_getElem?_getD, List.getElem?_eq_getElem (show r + i < ss.length by omega)]
theorem srt_insert {ss : List Str} {x : Str} {r : Nat} (h : Srt ss) (hc : Cut (fun i => ¬ x.cps.toList < tx ss i) 0 ss.length r) : Srt (ss.take r ++ x :: ss.drop r) := by
  obtain ⟨_, _, h3, h4⟩ := hc
  dsimp only at h3 h4
  refine List.pairwise_append.mpr ⟨h.sublist (List.take_sublist _ _), List.pairwise_cons.mpr ⟨fun y hy => ?_, h.sublist (List.drop_sublist _ _)⟩, fun y hy z hz => ?_⟩
  · obtain ⟨i, hi, hi2, e⟩ := mem_drop_idx hy
    have := h4 i hi hi2
    rw [e] at this
    exact fun hc => this fun hc2 => List.lt_irrefl _ (List.lt_trans hc hc2)
  · obtain ⟨i, hi, hi2, e⟩ := mem_take_idx hy
    have h5 := h3 i (Nat.zero_le _) hi
    rw [e] at h5
    rcases List.mem_cons.mp hz with rfl | hz
    · exact h5
    · obtain ⟨j, hj, hj2, e'⟩ := mem_drop_idx hz
      have := srt_get h (show i ≤ j by omega) hj2
      rwa [e, e'] at this
end Mine
end

section
open PySem PySem.W PyProof.Rows PySem.Calls
set_option maxRecDepth 100000
namespace Mine
local macro_rules | `(tactic| walk_at "pad0") => `(tactic| skip)
local macro_rules | `(tactic| walk_at "pad1") => `(tactic| skip)
theorem afresh_MRow : True := by
  w_top off
  trivial
local macro_rules | `(tactic| walk_at "call ref") => `(tactic| refine Stop.mk ?_)
local macro_rules | `(tactic| walk_at "newList") => `(tactic| refine Stop.mk ?_)
local macro_rules | `(tactic| walk_at "pyIter ref") => `(tactic| refine Stop.mk ?_)
local macro_rules | `(tactic| walk_at "exec For Name Name cons nil") => `(tactic| refine Stop.mk ?_)
local macro_rules | `(tactic| walk_at "exec For Name Call cons nil") => `(tactic| refine Stop.mk ?_)
local macro_rules | `(tactic| walk_at "call type:range") => `(tactic| refine Stop.mk ?_)
local macro_rules | `(tactic| walk_at "GO") => `(tactic| w_strict (repeat' (first | (k_unfold; (try dsimp only)) | walk1 | (dsimp only; walk1))))
variable {w : World} {dd : Nat} {fr : Option (List Env)} {gs : Option (List Code)} {uu : Nat} {mg mb : Str → Option Value}
  {p : Program} {loose : List Str} {mean : ExcName → Option Value} {s : Shared} {R : Result → Shared → Prop}

theorem range_K {prog : Program} {A : Around} {E : Value → Shared → Prop} {g : Heap} {L : Addr} {m : Str → Option Value} {news : List (Addr × Obj)} {n : Nat} {t : Tok} {Q : Value → Shared → Prop} (F : Fr g L s.heap m) (N : News g L s.heap news)
    (h : ∀ r t u v h' tk, Fr g L h' m → News g L h' news → IsRange h' r 0 (n : Int) 1 t u v → s.heap.StaysIn h' → Q (.ref r) { s with heap := h', toks := tk }) : wpAny (model prog w) A (call (.type "range") [.int (n : Int) t]) Q E s := by
  refine call_range_1 (h _ _ _ _ _ _ (F.push _) (fun q hq => News.push F N _ rfl q (.tail _ hq)) (Heap.get?_push_size _ rfl) fun b o e => Heap.get?_push_of_some _ e)
/-- a word turned at a place -/
def turnS (y : Str) (k : Nat) : Str := Txt.slice y (some (k : Int)) none ++ "$" ++ Txt.slice y none (some (k : Int))
def turns (y : Str) : List Str := (List.range (y.length + 1)).map (turnS y)

theorem turns_take {ts : List Str} {i : Nat} {y : Str} (hy : ts[i]? = some y) : (ts.take (i + 1)).flatMap turns = (ts.take i).flatMap turns ++ turns y := by
  rw [List.take_add_one, hy]
  simp
theorem turns_le (ts : List Str) (i : Nat) : ((ts.take i).flatMap turns).length ≤ (ts.flatMap turns).length := by
  conv => rhs; rw [← List.take_append_drop i ts, List.flatMap_append, List.length_append]
  omega

set_option maxHeartbeats 8000000 in
theorem row_c {a : Addr} {vs : List Value} {ts : List Str}
    (X : (hd.heap_39 w.params).In s.heap) (T : Top p loose mean mg mb s.heap) (hdp : dd < 700)
    (hl : s.heap.IsList a vs.toArray) (hs : StrsAre vs ts) (hts : ∀ y ∈ ts, y.length ≤ 100) (hsum : (ts.flatMap turns).length < 64)
    (h : ∀ h' tk D vs' ss', s.heap.StaysIn h' → s.heap.get? D = none → h'.IsList D vs'.toArray → StrsAre vs' ss' → ss'.Perm (ts.flatMap turns) → Srt ss' → R (.ok (.ret (.ref D))) { s with heap := h', toks := tk }) :
    codeAny (model Challenge.rw_pe0127_01.row.prog w) (Ar dd fr gs uu) (.call (.ref 62) ⟨[.ref a], []⟩) R s := by
  revert X
  k_fill
  intro X
  refine' fcall [("texts", .ref a)] X T ?k8 ?k6 ?k7 ?k9 ?kB ?c5 ?_ ?c2 ?c3 ?c4
  case k6 => k_is
  case k7 => k_is
  case k8 => show dd < 1000; omega
  case k9 => intro S; exact rfl
  case kB => exact rfl
  case c2 => exact rfl
  case c3 => exact rfl
  case c4 => exact rfl
  case c5 => decide
  intro h₁ L tk F
  have N : News s.heap L h₁ [] := News.nil
  walk_at "GO"
  refine Stop.go ?_
  refine newList_K F N fun D h' F N hlt => ?_
  clear hlt
  walk_at "GO"
  refine Stop.go ?_
  refine wpAny_For ?_
  walk_at "GO"
  refine Stop.go ?_
  rename Fr _ _ _ _ => F
  rename News _ _ _ _ => N
  have hD0 : s.heap.get? D = none := (N _ (.head _)).2.2
  have hDL : D ≠ L := (N _ (.head _)).2.1
  have hDa : D ≠ a := fun e => by
    obtain ⟨o, ho, _⟩ := hl
    rw [e, ho] at hD0
    cases hD0
  refine iter_list (L := L) rfl rfl (hl.at (F.keep _)) (fun e => by
      obtain ⟨o, ho, _⟩ := hl
      exact absurd (Nat.lt_of_lt_of_le (Heap.lt_size ho) F.above) (e ▸ Nat.lt_irrefl _)) F N
    (fun i m news => ∃ its n ss, Has m [("texts", .ref a), ("row", .ref D)] ∧ news = [(D, listOf its.toArray n)] ∧ StrsAre its ss ∧ ss.Perm ((ts.take i).flatMap turns) ∧ Srt ss) ⟨[], _, [], ⟨rfl, rfl, trivial⟩, rfl, .nil, .nil, .nil⟩ ?_ ?_
  · intro i v m news own h₂ tk₂ I hI hv hJ hnI hown F N
    obtain ⟨its, n, ss, hm, rfl, hS, hP, hR⟩ := hJ
    obtain ⟨y, ty, rfl, hy⟩ := hs.item i v hv
    replace F := hm.fr F
    have hyl := hts y (List.mem_of_getElem? hy)
    have hoD : ∀ q ∈ own, q.1 ≠ D := fun q hq e => by
      rcases hown q hq with e2 | e2
      · exact hnI (D, _) (.head _) (e ▸ e2)
      · exact hDa (e ▸ e2)
    simp only [List.cons_append, List.nil_append] at N
    have hDI : D ≠ I := hnI (D, _) (.head _)
    clear hnI
    walk_at "GO"
    refine Stop.go ?_
    refine wpAny_For ?_
    walk_at "GO"
    refine Stop.go ?_
    rename Fr _ _ _ _ => F
    rename News _ _ _ _ => N
    refine range_K (n := y.length + 1) F N fun r tr ur vr h' tk' F N hr _ => ?_
    refine Stop.go ?_
    have ht1 := turns_le ts (i + 1)
    rw [turns_take hy, List.length_append] at ht1
    have ht2 : (turns y).length = y.length + 1 := by simp [turns]
    refine iter_range (L := L) (n := y.length + 1) rfl rfl hr (by omega) F N
      (fun k m news => ∃ its n ss, Has m [("texts", .ref a), ("row", .ref D), ("text", .str y ty)] ∧ news = (D, listOf its.toArray n) :: own ∧ StrsAre its ss ∧ ss.Perm ((ts.take i).flatMap turns ++ (List.range k).map (turnS y)) ∧ Srt ss) ⟨its, n, ss, ⟨rfl, rfl, rfl, trivial⟩, rfl, hS, by simpa using hP, hR⟩ ?_ ?_
    · clear F N hm hS hP hR hr
      intro k tv m news own₂ h₃ tk₃ I₂ hI₂ hk hJ hnI hown₂ F N
      obtain ⟨its, n, ss, hm, rfl, hS, hP, hR⟩ := hJ
      replace F := hm.fr F
      simp only [List.cons_append] at N
      have hsl : ss.length = ((ts.take i).flatMap turns).length + k := by rw [hP.length_eq]; simp
      walk_at "GO"
      refine Stop.go ?_
      rename Fr _ _ _ _ => F
      rename News _ _ _ _ => N
      have hoD2 : ∀ q ∈ own ++ own₂, q.1 ≠ D := fun q hq e => by
        rcases List.mem_append.mp hq with hq | hq
        · exact hoD q hq e
        · exact hnI (D, _) (.head _) (e ▸ hown₂ q hq)
      have hst : ∀ b o, s.heap.get? b = some o → (Heap.hide _ D).get? b = some o := fun b o e => (Heap.hide_ne _ (fun q => by rw [q, hD0] at e; cases e)).trans (F.keep b o e)
      refine wpAny_call (insort_right_c (N _ (.head _)).1 (X.keeps hst) (T.keeps hst) (by show dd + 1 < 800; omega) hS (by omega) (srt_mono_r hR _) fun h' tk' r st hc hnew => ?_)
      dsimp only
      have hkeep : ∀ b o, b ≠ D → _ → h'.get? b = some o := fun b o hb e => st b o ((Heap.hide_ne _ hb).trans e)
      obtain ⟨its', hnew', hS'⟩ : ∃ its', h'.get? D = some (listOf its'.toArray (n + 1)) ∧ StrsAre its' (ss.take r ++ turnS y k :: ss.drop r) := ⟨_, hnew, (hS.take' r).append' (.cons _ _ (hS.drop' r))⟩
      clear hnew
      replace F : Fr s.heap L h' _ := ⟨F.ns.at' fun o e => hkeep _ o (Ne.symm hDL) e, fun b o e => st b o (hst b o e), F.above⟩
      replace N : News s.heap L h' ((D, listOf its'.toArray (n + 1)) :: (own ++ own₂)) := fun q hq => by
        rcases List.mem_cons.mp hq with rfl | hq
        · exact ⟨hnew', hDL, hD0⟩
        · exact ⟨hkeep _ _ (hoD2 q hq) (N q (.tail _ hq)).1, (N q (.tail _ hq)).2⟩
      walk_at "GO"
      simp only [TurnQ]
      refine Turn.mk (news' := (D, listOf its'.toArray (n + 1)) :: own) F N (fun q hq => ?_) (fun q hq => .tail _ (List.mem_append_right _ hq)) (fun q hq => ?_) ⟨its', n + 1, _, ⟨rfl, rfl, rfl, trivial⟩, rfl, hS', ?_, srt_insert hR hc⟩
      · rcases List.mem_cons.mp hq with rfl | hq
        · exact .head _
        · exact .tail _ (List.mem_append_left _ hq)
      · rcases List.mem_cons.mp hq with rfl | hq
        · simpa using hnI (D, _) (.head _)
        · simpa using hnI q (.tail _ hq)
      · refine (perm_insert ss _ r).trans ?_
        rw [List.range_succ, List.map_append, ← List.append_assoc]
        exact (hP.cons _).trans (List.perm_append_singleton _ _).symm
    · clear F N hm hS hP hR hr
      intro m news h₃ tk₃ hJ F N
      obtain ⟨its, n, ss, hm, rfl, hS, hP, hR⟩ := hJ
      replace F := hm.fr F
      walk_at "GO"
      simp only [TurnQ]
      refine Turn.mk (news' := [(D, _)]) F N (fun q hq => by rw [List.mem_singleton.mp hq]; exact .head _) (fun q hq => .tail _ hq) (fun q hq => by rw [List.mem_singleton.mp hq]; simpa using hDI) ⟨its, n, ss, ⟨rfl, rfl, trivial⟩, rfl, hS, ?_, hR⟩
      rw [turns_take hy]
      exact hP
  · intro m news h₂ tk₂ hJ F N
    obtain ⟨its, n, ss, hm, rfl, hS, hP, hR⟩ := hJ
    replace F := hm.fr F
    rw [hs.length, List.take_length] at hP
    walk_at "GO"
    exact h _ _ _ its ss F.keep (N _ (.head _)).2.2 (N.isList (.head _)) hS hP hR
end Mine
end

section
open PySem PySem.W PyProof.Rows PySem.Calls PySem.SeqAt
set_option maxRecDepth 100000
namespace Mine
section
variable {prog : Program} {w : World} {A : Around} {s : Shared} {K : Frag} {R : Result → Shared → Prop} {p : Program} {loose : List Str} {mean : ExcName → Option Value} {mg mb : Str → Option Value}
  {name qual : Str} {params : Arguments} {body : List Stmt} {scope : Scope} {dV kV doc pm cdv ct oc : Value} {an od : Option Addr} {osl : Array (Option Value)} {f : Addr} {args : Args}

/-- a def of the top whose names are kept in cells is called; the base g is part of what stands, news₀ the rest that may turn -/
theorem fcallC (binds : List (Str × Value)) {g : Heap} {news₀ : List (Addr × Obj)} (st : ∀ b o, g.get? b = some o → s.heap.get? b = some o) (hgs : g.objs.size = s.heap.objs.size) (N₀ : ∀ q ∈ news₀, s.heap.get? q.1 = some q.2 ∧ g.get? q.1 = none)
    (X₀ : K.In g) (T₀ : Top p loose mean mg mb g) (hroom : A.depth < 1000)
    (ho : K.lookup f = some ⟨oc, od, .func (fnOf name qual params body scope dV kV doc pm an cdv ct), osl⟩) (hcd : codeIn K cdv qual = true)
    (hbind : ∀ S, peek K S (bindArgs (fnOf name qual params body scope dV kV doc pm an cdv ct) args) = some binds)
    (hkind : (binds.all fun y => scope.names.lookup y.1 == some .local || scope.names.lookup y.1 == some .cell) = true)
    (hnd : ((cellsFrom 0 scope.names []).map (·.1)).Nodup)
    (h : ∀ h₁ L tk cells, Fr g L h₁ (bindL (envOfC qual scope L f cdv).kindOf binds fun _ => none) → News g L h₁ (cells ++ news₀) → (∀ q ∈ news₀, q.1 < L) →
      CellsAre (bindC (envOfC qual scope L f cdv).kindOf binds fun _ => none) (cellsFrom (L + 1) scope.names []) cells →
      wpAny (model prog w) (A.deeper (envOfC qual scope L f cdv)) (execs body (envOfC qual scope L f cdv))
        (fun fl s' => R (.ok (.ret (match fl with | .ret v => v | _ => .none))) s') NoE { s with heap := h₁, toks := tk })
    (hco : scope.isCoroutine = false := by rfl) (hgen : scope.isGenerator = false := by rfl) (hk : scope.kind = .function := by rfl) :
    codeAny (model prog w) A (.call (.ref f) args) R s := by
  have X := X₀.keeps st
  refine codeAny_call_function (fd := fnOf name qual params body scope dV kV doc pm an cdv ct) (body := body) hroom (X _ _ ho) rfl hco hgen rfl (codeRec_of X hcd) (kp_binds X hbind _ _ _ _ ?_)
  refine wpAny_newFunctionEnv_cells hk (kindsX hkind _) fun env' he s' x => ?_
  subst he
  refine ⟨(T₀.nolimit.keeps st).keeps x.toInCall.keep, codeAny_func ?_⟩
  obtain ⟨h₁, tk, rfl, _⟩ := x.done
  have hk₁ := x.toInCall.keep
  obtain ⟨cells, NC, Y⟩ := Cl.news (h₀ := s.heap) (Nat.le_refl _) fun n c hm => ⟨x.cell n c (lookup_of_mem_nodup (cellsFrom_names scope.names 0 (s.heap.objs.size + 1) [] [] rfl ▸ hnd) hm), x.above n c hm⟩
  refine wpAny_mono (h h₁ s.heap.objs.size tk cells ⟨x.toInCall.ns, fun b o e => hk₁ b o (st b o e), Nat.le_of_eq hgs⟩ (fun q hq => ?_) (fun q hq => Heap.lt_size (N₀ q hq).1) Y) (fun _ _ y => y) fun _ _ y => y.elim
  rcases List.mem_append.mp hq with hq | hq
  · refine ⟨(NC q hq).1, (NC q hq).2.1, ?_⟩
    cases e : g.get? q.1 with
    | none => rfl
    | some o => have := st _ _ e; rw [(NC q hq).2.2] at this; cases this
  · exact ⟨hk₁ _ _ (N₀ q hq).1, Nat.ne_of_lt (Heap.lt_size (N₀ q hq).1), (N₀ q hq).2⟩
end

/-- what a turn of a comprehension leaves -/
def CEnd (h₀ : Heap) (L : Addr) (m : Str → Option Value) (s : Shared) (I : Addr) (oI : Obj) (C : Addr) (oC : Obj) (D : Addr) (oD : Obj) (news : List (Addr × Obj)) (P : Value → Prop) (y : Value) (s₂ : Shared) : Prop :=
  ∃ h' tk, s₂ = { s with heap := h', toks := tk } ∧ Fr h₀ L h' m ∧ News h₀ L h' ((I, oI) :: (C, oC) :: (D, oD) :: news) ∧ P y
theorem CEnd.mk {h₀ : Heap} {L : Addr} {m : Str → Option Value} {s : Shared} {I : Addr} {oI : Obj} {C : Addr} {oC : Obj} {D : Addr} {oD : Obj} {news all : List (Addr × Obj)} {P : Value → Prop} {y : Value} {h' : Heap} {tk : Nat}
    (F : Fr h₀ L h' m) (N : News h₀ L h' all) (sub : ∀ q ∈ (I, oI) :: (C, oC) :: (D, oD) :: news, q ∈ all) (hP : P y) : CEnd h₀ L m s I oI C oC D oD news P y { s with heap := h', toks := tk } :=
  ⟨h', tk, rfl, F, fun q hq => N q (sub q hq), hP⟩

section
variable {prog : Program} {w : World} {A : Around} {h₀ : Heap} {L : Addr} {m : Str → Option Value} {env : Env} {ct elt : Expr} {x : Str} {scope : Scope} {cl : List (Str × Addr)} {s : Shared} {S : List (Addr × Obj) → Prop} {P : Nat → Value → Prop} {Fin : List Value → List (Addr × Obj) → Prop} {news : List (Addr × Obj)}

theorem restT {n : Nat} (J : Nat → List Value → Prop) (hS : S news) (h0 : J 0 [])
    (turn : ∀ i v I oI C oC D m₂ ys h tk, i < n → P i v → J i ys → LCg.NsObj oC m₂ → m₂ x = some v → Fr h₀ L h m → News h₀ L h ((I, oI) :: (C, oC) :: (D, LCg.lst ys) :: news) →
      wpAny (model prog w) A (isTrue ct (compEnvC scope cl C env) (eval ct (compEnvC scope cl C env))) (fun b s' => if b = true then
        wpAny (model prog w) A (eval elt (compEnvC scope cl C env)) (CEnd h₀ L m s I oI C oC D (LCg.lst ys) news (fun y => J (i + 1) (ys ++ [y]))) NoE s'
        else CEnd h₀ L m s I oI C oC D (LCg.lst ys) news (fun _ => J (i + 1) ys) Value.none s') NoE { s with heap := h, toks := tk })
    (fin : ∀ ys, J n ys → Fin ys news) : LCt.CompRestT prog w A h₀ L m env ct elt x scope cl s S P Fin n 0 [] news := by
  have key : ∀ (j i : Nat) (ys : List Value), i + j = n → J i ys → LCt.CompRestT prog w A h₀ L m env ct elt x scope cl s S P Fin j i ys news := by
    intro j
    induction j with
    | zero => intro i ys hi hy; exact LCt.CompRestT.zero (fin ys (by rw [← (show i = n by omega)]; exact hy))
    | succ j ih =>
      intro i ys hi hy
      refine LCt.CompRestT.succ ?_
      intro v I oI C oC D m₂ h tk E' hv hC hx F N off ne
      refine wpAny_mono (turn i v I oI C oC D m₂ ys h tk (by omega) hv hy hC hx F N) (fun b s₂ hq => ?_) fun _ _ e => e.elim
      cases b with
      | true =>
        simp only [if_true] at hq ⊢
        refine wpAny_mono hq (fun y s₃ hr => ?_) fun _ _ e => e.elim
        obtain ⟨h', tk', rfl, F', N', hJ⟩ := hr
        exact ⟨h', tk', news, rfl, F', N', off, hS, ih (i + 1) _ (by omega) hJ⟩
      | false =>
        simp only [Bool.false_eq_true, if_false] at hq ⊢
        obtain ⟨h', tk', rfl, F', N', hJ⟩ := hq
        exact ⟨h', tk', news, rfl, F', N', off, hS, ih (i + 1) _ (by omega) hJ⟩
  exact key n 0 [] (by omega) h0

theorem restU {n : Nat} (J : Nat → List Value → Prop) (hS : S news) (h0 : J 0 [])
    (turn : ∀ i v I oI C oC D m₂ ys h tk, i < n → P i v → J i ys → LCg.NsObj oC m₂ → m₂ x = some v → Fr h₀ L h m → News h₀ L h ((I, oI) :: (C, oC) :: (D, LCg.lst ys) :: news) →
      wpAny (model prog w) A (eval elt (compEnvC scope cl C env)) (CEnd h₀ L m s I oI C oC D (LCg.lst ys) news (fun y => J (i + 1) (ys ++ [y]))) NoE { s with heap := h, toks := tk })
    (fin : ∀ ys, J n ys → Fin ys news) : LCg.CompRest prog w A h₀ L m env elt x scope cl s S P Fin n 0 [] news := by
  have key : ∀ (j i : Nat) (ys : List Value), i + j = n → J i ys → LCg.CompRest prog w A h₀ L m env elt x scope cl s S P Fin j i ys news := by
    intro j
    induction j with
    | zero => intro i ys hi hy; exact LCg.CompRest.zero (fin ys (by rw [← (show i = n by omega)]; exact hy))
    | succ j ih =>
      intro i ys hi hy
      refine LCg.CompRest.succ ?_
      intro v I oI C oC D m₂ h tk E' hv hC hx F N off ne
      refine wpAny_mono (turn i v I oI C oC D m₂ ys h tk (by omega) hv hy hC hx F N) (fun y s₃ hr => ?_) fun _ _ e => e.elim
      obtain ⟨h', tk', rfl, F', N', hJ⟩ := hr
      exact ⟨h', tk', news, rfl, F', N', off, hS, ih (i + 1) _ (by omega) hJ⟩
  exact key n 0 [] (by omega) h0
end

section
variable {prog : Program} {w : World} {A : Around} {E : Value → Shared → Prop} {s : Shared} {l b : Addr} {Q : Value → Shared → Prop}
/-- a list against the empty one -/
theorem ne_nil {vs : List Value} (hl : s.heap.IsList l vs.toArray) (hb : s.heap.IsList b #[]) (hu : A.units < cLine) (h : Q (.bool (!vs.isEmpty)) s) : wpAny (model prog w) A (compareOp .NotEq (.ref l) (.ref b)) Q E s := by
  refine cmp_ofNotEq ?_
  cases vs with
  | nil => exact RcNeAt.lists (e := fun _ => true) hl hb rfl hu (fun j h1 _ => absurd h1 (Nat.not_lt_zero _)) prog w E Q h
  | cons v r => exact RcNeAt.lists_lengths hl hb (by simp) hu prog w E Q h
theorem ne_strs {vs ws : List Value} {ss ts : List Str} (hl : s.heap.IsList l vs.toArray) (hb : s.heap.IsList b ws.toArray) (hS : StrsAre vs ss) (hT : StrsAre ws ts) (hu : A.units < cLine) (h : Q (.bool (!decide (ss = ts))) s) :
    wpAny (model prog w) A (compareOp .NotEq (.ref l) (.ref b)) Q E s := by
  refine cmp_ofNotEq ?_
  have e1 := hS.length
  have e2 := hT.length
  by_cases hn : ss.length = ts.length
  · have hsz : vs.toArray.size = ws.toArray.size := by simp; omega
    refine RcNeAt.lists (e := fun j => ss.getD j Str.empty == ts.getD j Str.empty) hl hb hsz hu (fun j h1 h2 => ?_) prog w E Q ?_
    · simp only [List.size_toArray] at h1 h2
      obtain ⟨t1, ht1⟩ := hS.get j (ss[j]'(by omega)) (by simp)
      obtain ⟨t2, ht2⟩ := hT.get j (ts[j]'(by omega)) (by simp)
      have q1 : vs.toArray[j] = .str (ss.getD j Str.empty) t1 := by
        have := (List.getElem?_eq_some_iff.mp ht1).2
        simp only [List.getElem_toArray, this, List.getD_eq_getElem?_getD, List.getElem?_eq_getElem (show j < ss.length by omega), Option.getD_some]
      have q2 : ws.toArray[j] = .str (ts.getD j Str.empty) t2 := by
        have := (List.getElem?_eq_some_iff.mp ht2).2
        simp only [List.getElem_toArray, this, List.getD_eq_getElem?_getD, List.getElem?_eq_getElem (show j < ts.length by omega), Option.getD_some]
      rw [q1, q2]
      exact EqAt.str_str _ _ _ _
    · have : (List.range vs.toArray.size).all (fun j => ss.getD j Str.empty == ts.getD j Str.empty) = decide (ss = ts) := by
        rw [Bool.eq_iff_iff]
        simp only [List.all_eq_true, List.mem_range, beq_iff_eq, decide_eq_true_eq, List.size_toArray]
        constructor
        · intro hj
          apply List.ext_getElem hn
          intro i h1 h2
          have := hj i (by omega)
          simpa [List.getD_eq_getElem?_getD, List.getElem?_eq_getElem h1, List.getElem?_eq_getElem h2] using this
        · rintro rfl _ _
          rfl
      rw [this]
      exact h
  · have hne : ¬ ss = ts := fun e => hn (by rw [e])
    rw [decide_eq_false hne] at h
    exact RcNeAt.lists_lengths hl hb (by simp; omega) hu prog w E Q h
end
end Mine
end

section
open PySem PySem.W PyProof.Rows PySem.Calls
set_option maxRecDepth 100000
namespace Mine
local macro_rules | `(tactic| walk_at "pad0") => `(tactic| skip)
theorem afresh_MHolds : True := by
  w_top off
  trivial
local macro_rules | `(tactic| walk_at "call ref") => `(tactic| refine Stop.mk ?_)
local macro_rules | `(tactic| walk_at "eval ListComp") => `(tactic| refine Stop.mk ?_)
local macro_rules | `(tactic| walk_at "pyIter ref") => `(tactic| refine Stop.mk ?_)
local macro_rules | `(tactic| walk_at "call type:range") => `(tactic| refine Stop.mk ?_)
local macro_rules | `(tactic| walk_at "CompSrcT") => `(tactic| refine Stop.mk ?_)
local macro_rules | `(tactic| walk_at "CompSrcT ref") => `(tactic| refine Stop.mk ?_)
local macro_rules | `(tactic| walk_at "compareOp NotEq ref ref") => `(tactic| refine Stop.mk ?_)
local macro_rules | `(tactic| walk_at "newList") => `(tactic| refine Stop.mk ?_)
local macro_rules | `(tactic| walk_at "CEnd") => `(tactic| refine Stop.mk ?_)
local macro_rules | `(tactic| walk_at "GO") => `(tactic| w_strict (repeat' (first | (k_unfold; (try dsimp only)) | walk1 | (dsimp only; walk1))))
variable {w : World} {dd : Nat} {fr : Option (List Env)} {gs : Option (List Code)} {uu : Nat} {mg mb : Str → Option Value}
  {p : Program} {loose : List Str} {mean : ExcName → Option Value} {s : Shared} {R : Result → Shared → Prop}

def holdsB (gap one two : Str) (i : Nat) : Bool :=
  (Txt.slice gap (some (i : Int)) (some ((i : Int) + (one.length : Int))) == one) && !(Builtin.Str.occurrences (Txt.slice gap (some ((i : Int) + (one.length : Int))) none) two 0 (Txt.slice gap (some ((i : Int) + (one.length : Int))) none).length 1).isEmpty

def holdsL (gap one two : Str) : Bool := (List.range (gap.length + 1)).any (holdsB gap one two)

set_option maxHeartbeats 8000000 in
theorem holds_c {gap one two : Str} {t u v : Tok}
    (X : (hd.heap_39 w.params).In s.heap) (T : Top p loose mean mg mb s.heap) (hdp : dd < 900) (huu : uu < 5000) (h1 : gap.length ≤ 100) (h2 : one.length ≤ 100) (h3 : two.length ≤ 100)
    (h : ∀ h' tk, s.heap.StaysIn h' → R (.ok (.ret (.bool (holdsL gap one two)))) { s with heap := h', toks := tk }) :
    codeAny (model Challenge.rw_pe0127_01.row.prog w) (Ar dd fr gs uu) (.call (.ref 79) ⟨[.str gap t, .str one u, .str two v], []⟩) R s := by
  revert X
  k_fill
  intro X
  refine' fcallC [("gap", .str gap t), ("one", .str one u), ("two", .str two v)] (g := s.heap) (news₀ := []) (fun _ _ e => e) rfl (by simp) X T ?k8 ?k6 ?k7 ?k9 ?kB ?c5 ?_ ?c2 ?c3 ?c4
  case k6 => k_is
  case k7 => k_is
  case k8 => show dd < 1000; omega
  case k9 => intro S; exact rfl
  case kB => exact rfl
  case c2 => exact rfl
  case c3 => exact rfl
  case c4 => exact rfl
  case c5 => decide +kernel
  intro h₁ L tk cells F N _ Y
  obtain ⟨o1, o2, o3, rfl, d1, d2, d3⟩ := CellsAre.three Y
  clear Y
  simp only [List.cons_append, List.nil_append] at N
  replace d1 : o1.data = .cell (some (.str two v)) := d1
  replace d2 : o2.data = .cell (some (.str one u)) := d2
  replace d3 : o3.data = .cell (some (.str gap t)) := d3
  walk_at "GO"
  refine Stop.go ?_
  refine LCt.ListComp_T F (by with_unfolding_all rfl) (by decide) rfl (by decide) rfl ?_
  walk_at "GO"
  refine Stop.go ?_
  refine range_K (n := gap.length + 1) F N fun r tr ur vr h' tk' F N hr _ => ?_
  walk_at "GO"
  refine Stop.go ?_
  refine LCt.CompSrcT.range (n := gap.length + 1) rfl F N hr (small_one (by decide) (by decide) (by omega) (by omega)) (by rw [rangeSize_one]; split <;> omega) (by rw [sizeLine_eq]; omega) (fun g => ?_)
  refine restT (fun i ys => ys.length = ((List.range i).filter (holdsB gap one two)).length) trivial rfl ?_ ?_
  · intro i v I oI C oC D m₂ ys h₂ tk₂ hi hP hJ hC hx F N
    obtain ⟨ti, rfl⟩ := hP
    rw [Int.zero_add] at hx
    have hr := List.range_succ (n := i)
    walk_at "GO"
    · refine Stop.go ?_
      rename Fr _ _ _ _ => F
      rename News _ _ _ _ => N
      refine CEnd.mk F N (fun q hq => hq) ?_
      rename ((_ == one) = true) => q1
      rename (List.isEmpty _ = true) => q2
      have hb : holdsB gap one two i = false := by unfold holdsB; rw [q1, q2]; rfl
      rw [hr, List.filter_append, List.length_append, ← hJ]
      simp [hb]
    · refine Stop.go ?_
      rename Fr _ _ _ _ => F
      rename News _ _ _ _ => N
      refine CEnd.mk F N (fun q hq => hq) ?_
      rename ((_ == one) = true) => q1
      rename (List.isEmpty _ = false) => q2
      have hb : holdsB gap one two i = true := by unfold holdsB; rw [q1, q2]; rfl
      rw [hr, List.filter_append, List.length_append, List.length_append, ← hJ]
      simp [hb]
    · refine Stop.go ?_
      rename Fr _ _ _ _ => F
      rename News _ _ _ _ => N
      refine CEnd.mk F N (fun q hq => hq) ?_
      rename ((_ == one) = false) => q1
      have hb : holdsB gap one two i = false := by unfold holdsB; rw [q1]; rfl
      rw [hr, List.filter_append, List.length_append, ← hJ]
      simp [hb]
  · intro ys hJ D h₂ tk₂ F N off
    walk_at "GO"
    refine Stop.go ?_
    refine newList_K F N fun D2 h' F N hlt => ?_
    walk_at "GO"
    refine Stop.go ?_
    refine ne_nil (N.isList (.tail _ (.head _))) (N.isList (.head _)) (by show uu + 3 < 9900; omega) ?_
    have e : (!ys.isEmpty) = holdsL gap one two := by
      unfold holdsL
      rw [Bool.eq_iff_iff, List.any_eq_true, Bool.not_eq_true', List.isEmpty_eq_false_iff]
      constructor
      · intro hne
        cases hf : (List.range (gap.length + 1)).filter (holdsB gap one two) with
        | nil => rw [hf] at hJ; exact absurd (List.length_eq_zero_iff.mp hJ) hne
        | cons i r => have hm : i ∈ (List.range (gap.length + 1)).filter (holdsB gap one two) := by rw [hf]; exact .head _
                      exact ⟨i, (List.mem_filter.mp hm).1, (List.mem_filter.mp hm).2⟩
      · rintro ⟨i, hi, hb⟩ rfl
        have hm := List.mem_filter.mpr ⟨hi, hb⟩
        rw [List.length_eq_zero_iff.mp hJ.symm] at hm
        cases hm
    rw [e]
    walk_at "GO"
    exact h _ _ F.keep
end Mine
end

section
open PySem PySem.W PyProof.Rows PySem.Calls
set_option maxRecDepth 100000
namespace Mine
theorem afresh_MKey : True := by
  w_top off
  trivial
local macro_rules | `(tactic| walk_at "exec While Compare cons nil") => `(tactic| refine Stop.mk ?_)
local macro_rules | `(tactic| walk_at "call ref") => `(tactic| refine Stop.mk ?_)
local macro_rules | `(tactic| walk_at "callWith ref") => `(tactic| refine Stop.mk ?_)
local macro_rules | `(tactic| walk_at "subscriptTail Name Name ref int") => `(tactic| refine Stop.mk ?_)
local macro_rules | `(tactic| walk_at "GO") => `(tactic| w_strict (repeat' (first | (k_unfold; (try dsimp only)) | walk1 | (dsimp only; walk1))))
variable {w : World} {dd : Nat} {fr : Option (List Env)} {gs : Option (List Code)} {uu : Nat} {mg mb : Str → Option Value}
  {p : Program} {loose : List Str} {mean : ExcName → Option Value} {s : Shared} {R : Result → Shared → Prop}

theorem callWith_fn {M : Model} {A : Around} {E : Value → Shared → Prop} {Q : Value → Shared → Prop} {env : Env} {pos : Pos} {f : Addr} {e : Expr} {fc : Value} {fdc : Option Addr} {fdat : FuncData} {fsl : Array (Option Value)}
    (h : wpAny M A (spliced (backTo pos (starEach [e] env))) (fun vs s₁ => Stop (s₁.heap.get? f = some ⟨fc, fdc, .func fdat, fsl⟩ ∧ wpAny M A (call (.ref f) vs) Q E s₁)) E s)
    (he : starEach [e] env = [(false, eval e env)] := by rfl) :
    wpAny M A (callWith pos (.ref f) [] (backTo pos (starEach [e] env)) []) Q E s := by
  have he' : starEach [e] env = (false, eval e env) :: starEach [] env := he
  rw [he'] at h ⊢
  refine callWith_of (P := fun h => h.get? f = some ⟨fc, fdc, .func fdat, fsl⟩) rfl (fun h ho => ⟨.frame, .inl rfl, (Looks.ld (part := none) ho).andThen .now⟩) (evalArgs_plain ?_)
  exact wpAny_mono h (fun vs s₁ h₁ => Stop.mk h₁) fun _ _ x => x

set_option maxHeartbeats 4000000 in
theorem bisect_right_k {a f : Addr} {vs : List Value} {ss : List Str} {x : Str} {t tlo : Tok} {lo₀ : Nat} {kf : Str → Str} {fc : Value} {fdc : Option Addr} {fdat : FuncData} {fsl : Array (Option Value)}
    (X : (hd.heap_39 w.params).In s.heap) (T : Top p loose mean mg mb s.heap) (hdp : dd < 800)
    (hl : s.heap.IsList a vs.toArray) (hs : StrsAre vs ss) (hlen : ss.length < 100) (hlo₀ : lo₀ ≤ ss.length)
    (hfo : s.heap.get? f = some ⟨fc, fdc, .func fdat, fsl⟩)
    (hkey : ∀ (s' : Shared) (dd' : Nat) (fr' : Option (List Env)) (uu' : Nat) (y : Str) (ty : Tok) (Q : Value → Shared → Prop), s.heap.StaysIn s'.heap → dd' < 900 → y ∈ ss → (∀ h' tk t', s'.heap.StaysIn h' → Q (.str (kf y) t') { s' with heap := h', toks := tk }) →
      wpAny (model Challenge.rw_pe0127_01.row.prog w) (Ar dd' fr' gs uu') (call (.ref f) [.str y ty]) Q NoE s')
    (hmono : ∀ i j, i ≤ j → j < ss.length → ¬ x.cps.toList < (kf (ss.getD j Str.empty)).cps.toList → ¬ x.cps.toList < (kf (ss.getD i Str.empty)).cps.toList)
    (h : ∀ h' tk (r : Nat) t', s.heap.StaysIn h' → Cut (fun i => ¬ x.cps.toList < (kf (ss.getD i Str.empty)).cps.toList) lo₀ ss.length r → R (.ok (.ret (.int r t'))) { s with heap := h', toks := tk }) :
    codeAny (model Challenge.rw_pe0127_01.row.prog w) (Ar dd fr gs uu) (.call (.ref 39) ⟨[.ref a, .str x t, .int lo₀ tlo], [("key", .ref f)]⟩) R s := by
  have hlv : vs.length = ss.length := hs.length
  revert X
  k_fill
  intro X
  refine' fcall [("a", .ref a), ("x", .str x t), ("lo", .int lo₀ tlo), ("hi", .none), ("key", .ref f)] X T ?k8 ?k6 ?k7 ?k9 ?kB ?c5 ?_ ?c2 ?c3 ?c4
  case k6 => k_is
  case k7 => k_is
  case k8 => show dd < 1000; omega
  case k9 => intro S; exact rfl
  case kB => exact rfl
  case c2 => exact rfl
  case c3 => exact rfl
  case c4 => exact rfl
  case c5 => decide
  intro h₁ L tk F
  have N : News s.heap L h₁ [] := News.nil
  walk_at "GO"
  refine Stop.go ?_
  rename Fr _ _ _ _ => F
  rename News _ _ _ _ => N
  refine while_fr (L := L) rfl (fun n m news => ∃ (lo hi : Nat) (tl th : Tok), Has m [("lo", .int lo tl), ("hi", .int hi th), ("a", .ref a), ("x", .str x t), ("key", .ref f)] ∧ lo₀ ≤ lo ∧ lo ≤ hi ∧ hi ≤ ss.length ∧ n = hi - lo ∧
     (∀ i, lo₀ ≤ i → i < lo → ¬ x.cps.toList < (kf (ss.getD i Str.empty)).cps.toList) ∧ (∀ i, hi ≤ i → i < ss.length → ¬ ¬ x.cps.toList < (kf (ss.getD i Str.empty)).cps.toList)) (ss.length - lo₀) F N ?_ ?_
  · exact ⟨lo₀, ss.length, _, _, ⟨rfl, rfl, rfl, rfl, rfl, trivial⟩, by omega, by omega, by omega, rfl, by omega, by omega⟩
  · rintro n m news hh1 tk1 ⟨lo, hi, tl, th, hm, h0, h1, h2, rfl, h3, h4⟩ F N
    replace F := hm.fr F
    replace N : News s.heap L hh1 [] := News.nil
    walk_at "GO"
    · refine Stop.go ?_
      rename Fr _ _ _ _ => F
      have e := mid_fdiv lo hi
      simp only [e] at F ⊢
      refine callWith_fn (fc := fc) (fdc := fdc) (fdat := fdat) (fsl := fsl) ?_
      walk_at "GO"
      refine Stop.go ?_
      rename Fr _ _ _ _ => F
      refine item_strsA (hl.at (F.keep _)) (by assumption) (by omega) (by omega) (by omega) (fun t' => ?_)
      walk_at "GO"
      rename Fr _ _ _ _ => F
      have hmem : ss.getD ((((lo + hi) / 2 : Nat) : Int)).toNat Str.empty ∈ ss := by
        rw [Int.toNat_natCast, List.getD_eq_getElem?_getD, List.getElem?_eq_getElem (show (lo + hi) / 2 < ss.length by omega)]
        exact List.getElem_mem _
      refine Stop.go ⟨F.keep _ _ hfo, ?_⟩
      refine hkey _ (dd + 1) _ _ _ _ _ F.keep (by omega) hmem fun h' tk' t'' st => ?_
      replace F := F.kept st
      replace N : News s.heap L h' [] := News.nil
      walk_at "GO"
      · rename Fr _ _ _ _ => F
        rename News _ _ _ _ => N
        rename ((_ : List Nat) < _) => hlt
        simp only [TurnQ]
        refine Turn.mk (news' := []) F N (by simp) (by simp) (by simp) ⟨(lo + hi) / 2 - lo, by omega, lo, (lo + hi) / 2, _, _, ⟨rfl, rfl, rfl, rfl, rfl, trivial⟩, by omega, by omega, by omega, rfl, h3, fun i hi' hi2 hc => ?_⟩
        exact hmono ((lo + hi) / 2) i hi' hi2 hc hlt
      · rename Fr _ _ _ _ => F
        rename News _ _ _ _ => N
        rename (¬ (_ : List Nat) < _) => hlt
        simp only [TurnQ]
        refine Turn.mk (news' := []) F N (by simp) (by simp) (by simp) ⟨hi - ((lo + hi) / 2 + 1), by omega, (lo + hi) / 2 + 1, hi, _, _, ⟨rfl, rfl, rfl, rfl, rfl, trivial⟩, by omega, by omega, by omega, rfl, fun i _ hi' => ?_, h4⟩
        exact hmono i ((lo + hi) / 2) (by omega) (by omega) hlt
    · rename Fr _ _ _ _ => F
      exact h _ _ _ _ F.keep ⟨by omega, by omega, fun i hi0 hi => h3 i hi0 hi, fun i hi => h4 i (by omega)⟩
end Mine
end

section
open PySem PySem.W PyProof.Rows PySem.Calls
set_option maxRecDepth 100000
namespace Mine

/-- the table of a def's inner code: empty, or with the one lambda's -/
def TabOK (pos : Pos) (qual : Str) (ps : Array Value) (h : Heap) : Prop := ps = #[] ∨ ∃ c', ps = #[rawInt pos.line, rawInt pos.col, .ref c'] ∧ h.CodeRec (.ref c') qual
theorem TabOK.keeps {pos : Pos} {qual : Str} {ps : Array Value} {h h' : Heap} (x : TabOK pos qual ps h) (hk : ∀ b o, h.get? b = some o → h'.get? b = some o) : TabOK pos qual ps h' := by
  rcases x with e | ⟨c', e, r⟩
  · exact .inl e
  · exact .inr ⟨c', e, r.keeps hk⟩

theorem codeRec_hide {h : Heap} {c' P : Addr} {q : Str} (x : h.CodeRec (.ref c') q) (hne : c' ≠ P) : (h.hide P).CodeRec (.ref c') q := by
  obtain ⟨c, o, vs, t, e, g, r⟩ := x
  cases e
  exact ⟨c', o, vs, t, rfl, (Heap.hide_ne _ hne).trans g, r⟩

section
variable {M : Model} {A : Around} {E : Value → Shared → Prop} {s : Shared} {h₀ : Heap} {L a c P : Addr} {m mg mb : Str → Option Value} {cn : Str} {cs : Scope} {ccd : Value} {cl : List (Str × Addr)} {q₁ : Addr × Obj}
  {p : Program} {loose : List Str} {mean : ExcName → Option Value} {params : Arguments} {body : Expr} {scope : Scope} {ps : Array Value} {pos : Pos} {clos : List (Str × Addr)} {qual : Str}

def CodeObj (ox : Obj) (qual : Str) : Prop := ∃ vs t, ox.data = .fields vs ∧ vs[1]? = some (.str qual t)
/-- what the making of the lambda did to the table -/
def TabNew (pos : Pos) (qual : Str) (ps ps' : Array Value) (h₀ : Heap) (c' cx : Addr) (ox : Obj) (b : Addr) : Prop :=
  (ps' = ps ∧ ps = #[rawInt pos.line, rawInt pos.col, .ref c'] ∧ h₀.CodeRec (.ref c') qual) ∨ (ps' = #[rawInt pos.line, rawInt pos.col, .ref c'] ∧ cx = c' ∧ b < c' ∧ CodeObj ox qual)

theorem lam_make {Q : Value → Shared → Prop} (F : Fr h₀ L s.heap m) (N : News h₀ L s.heap [q₁, (P, tabObj ps)]) (hq : q₁.1 ≠ P) (T : Top p loose mean mg mb h₀) (C : CodeHd h₀ c P) (hcd : ccd = .ref c)
    (hdef : defaultsOf params (envX cn cs L a ccd cl) = ([], [])) (hqual : (envX cn cs L a ccd cl).qual ++ "<lambda>" = qual)
    (hcl : closureFor scope (envX cn cs L a ccd cl) = pure clos) (hT : TabOK pos qual ps h₀)
    (h : ∀ f c' ctv ps' h' tk cx ox, Fr h₀ L h' m → News h₀ L h' [(f, kla_obj "<lambda>" qual params body scope clos ((mg "__name__").getD .none) c' ctv), (cx, ox), q₁, (P, tabObj ps')] →
      h'.CodeRec (.ref c') qual → TabNew pos qual ps ps' h₀ c' cx ox q₁.1 → Q (.ref f) { s with heap := h', toks := tk }) :
    wpAny M A (eval (.Lambda params body scope pos) (envX cn cs L a ccd cl)) Q E s := by
  subst hqual
  refine kla_eval hdef ?_
  rcases hT with rfl | ⟨c', rfl, hrec⟩
  · refine kla_nest F N T C hcd (.tail hq (.head (by simp))) trivial rfl hcl fun f c' oc vs t ctv h' tk F' N' d1 d2 hlt hlt2 => ?_
    have hrec : h'.CodeRec (.ref c') _ := ⟨c', oc, vs, t, rfl, (N' (c', oc) (.tail _ (.head _))).1, d1, d2⟩
    exact h f c' ctv _ h' tk c' oc F' N' hrec (.inr ⟨rfl, rfl, hlt _ (.head _), vs, t, d1, d2⟩)
  · refine kla_hit F N T C hcd (.tail _ (.head _)) trivial (by show (if _ then _ else _) = _; rw [if_pos (by simp)]) hcl fun f ctv h' tk F' N' hlt => ?_
    refine h f c' ctv _ h' tk q₁.1 q₁.2 F' (fun q hq => ?_) (hrec.keeps F'.keep) (.inl ⟨rfl, rfl, hrec⟩)
    rcases List.mem_cons.mp hq with rfl | hq
    · exact N' _ (.head _)
    · rcases List.mem_cons.mp hq with rfl | hq
      · exact N' _ (.tail _ (.head _))
      · exact N' _ (.tail _ hq)
end

section
variable {prog : Program} {w : World} {A : Around} {s : Shared} {R : Result → Shared → Prop}
/-- a lambda of the call's own is called -/
theorem lam_call {name qual : Str} {params : Arguments} {body : Expr} {scope : Scope} {cl : List (Str × Addr)} {pm ctv : Value} {c' f : Addr} {args : Args} (binds : List (Str × Value))
    (ho : s.heap.get? f = some (kla_obj name qual params body scope cl pm c' ctv)) (hcd : s.heap.CodeRec (.ref c') qual) (hlim : s.heap.NoLimit) (hroom : A.depth < 1000)
    (hbind : bindArgs (kla_fn name qual params body scope cl pm (.ref c') ctv) args = pure binds)
    (hloc : (binds.all fun y => decide (scope.names.lookup y.1 = some .local)) = true) (hcell : ∀ x ∈ scope.names, x.2 ≠ .cell)
    (h : ∀ h₁ L tk, Fr s.heap L h₁ (fun y => binds.reverse.lookup y) →
      wpAny (model prog w) (A.deeper (envX qual scope L f (.ref c') cl)) (eval body (envX qual scope L f (.ref c') cl)) (fun v s' => R (.ok (.ret v)) s') NoE { s with heap := h₁, toks := tk })
    (hco : scope.isCoroutine = false := by rfl) (hgen : scope.isGenerator = false := by rfl) (hk : scope.kind = .function := by rfl) :
    codeAny (model prog w) A (.call (.ref f) args) R s := by
  refine kla_callFunE hroom ho rfl hco hgen rfl hcd ?_
  rw [hbind]
  refine wpAny_pure (wpAny_newFunctionEnv hcell (locs hloc) (fun h₁ hns hsb => ⟨hlim.fresh _ hsb, ?_⟩) hk)
  show codeAny _ _ (.expr body (envX qual scope s.heap.objs.size f (.ref c') cl)) _ _
  have hk₁ : ∀ b o, s.heap.get? b = some o → h₁.get? b = some o := fun b o e => hsb.extBut b o (Nat.ne_of_lt (Heap.lt_size e)) (Heap.get?_push_of_some _ e)
  exact kla_codeExpr (wpAny_mono (h h₁ s.heap.objs.size _ ⟨hns, hk₁, Nat.le_refl _⟩) (fun _ _ x => x) fun _ _ x => x.elim)

theorem xname_F {M : Model} {E : Value → Shared → Prop} {g : Heap} {L a c : Addr} {m : Str → Option Value} {cn : Str} {cs : Scope} {ccd : Value} {cl : List (Str × Addr)} {x : Str} {pos : Pos} {v : Value} {Q : Value → Shared → Prop}
    (F : Fr g L s.heap m) (hc : cl.lookup x = some c) (ho : g.IsCell c (some v)) (h : Q v s)
    (hk : cs.kind = .function := by rfl) (hx : (envX cn cs L a ccd cl).kindOf x = some .free := by rfl) (hb : (x == ("__debug__" : Str)) = false := by decide) (hn : (x == ("__classdict__" : Str)) = false := by decide) :
    wpAny M A (eval (.Name x pos) (envX cn cs L a ccd cl)) Q E s := wpAny_Name (wpAny_loadName_free hk hx hc (ho.keeps F.keep) h hn) hb
end
end Mine
end

section
open PySem PySem.W PyProof.Rows PySem.Calls
namespace Mine
open Builtin Builtin.Str in
theorem sl_idx (a b n : Nat) : strSliceIndices (some (a : Int)) (some (b : Int)) 1 n = strSliceIndices (some ((min a n : Nat) : Int)) (some ((min b n : Nat) : Int)) 1 n := by
  unfold strSliceIndices
  simp only [show (1 : Int) > 0 by decide, if_true]
  rw [if_neg (by omega : ¬ ((a : Int) < 0)), if_neg (by omega : ¬ ((b : Int) < 0)), if_neg (by omega : ¬ (((min a n : Nat) : Int) < 0)), if_neg (by omega : ¬ (((min b n : Nat) : Int) < 0))]
  congr 1 <;> omega
theorem sl_ss (y : Str) (a b : Nat) : (Txt.slice y (some (a : Int)) (some (b : Int))).cps.toList = (y.cps.toList.drop a).take (b - a) := by
  have e0 : Txt.slice y (some (a : Int)) (some (b : Int)) = Txt.slice y (some ((min a y.length : Nat) : Int)) (some ((min b y.length : Nat) : Int)) := by
    unfold Txt.slice; rw [sl_idx]
  have hl : y.cps.toList.length = y.length := by simp [Str.length]
  by_cases hab : min a y.length ≤ min b y.length
  · have e := StrLaws.sliceText_nat y hab (Nat.min_le_right _ _)
    rw [e0]
    show (StrLaws.sliceText y _ _).cps.toList = _
    rw [e]
    simp only
    by_cases ha : a ≤ y.length
    · rw [Nat.min_eq_left ha]
      by_cases hb : b ≤ y.length
      · rw [Nat.min_eq_left hb]
      · rw [Nat.min_eq_right (by omega), List.take_of_length_le (by rw [List.length_drop]; omega), List.take_of_length_le (by rw [List.length_drop]; omega)]
    · rw [Nat.min_eq_right (by omega : y.length ≤ a), List.drop_of_length_le (by omega : y.cps.toList.length ≤ y.length), List.drop_of_length_le (by omega : y.cps.toList.length ≤ a)]
      simp
  · have hba : b ≤ a := by omega
    have h0 : b - a = 0 := by omega
    rw [h0, List.take_zero, e0]
    generalize hA : min a y.length = A at *
    generalize hB : min b y.length = B at *
    have e : Builtin.Str.strSliceIndices (some (A : Int)) (some (B : Int)) 1 y.length = [] := by
      unfold Builtin.Str.strSliceIndices sliceRange
      simp only [show (1 : Int) > 0 by decide, if_true]
      rw [if_neg (by omega : ¬ ((A : Int) < 0)), if_neg (by omega : ¬ ((B : Int) < 0))]
      rw [if_neg (by omega)]
      rfl
    unfold Txt.slice
    rw [e]
    split
    · rename_i hq
      have : 0 = y.length := by simpa using hq
      omega
    · rfl
theorem sl_to (y : Str) (n : Nat) : (Txt.slice y none (some (n : Int))).cps.toList = y.cps.toList.take n := by
  have e : Txt.slice y none (some (n : Int)) = Txt.slice y (some ((0 : Nat) : Int)) (some (n : Int)) := by
    unfold Txt.slice; rw [StrLaws.sliceIdx_none_lo]; rfl
  rw [e, sl_ss]; simp
theorem sl_from (y : Str) (n : Nat) : (Txt.slice y (some (n : Int)) none).cps.toList = y.cps.toList.drop n := by
  have e : Txt.slice y (some (n : Int)) none = Txt.slice y (some (n : Int)) (some (y.length : Int)) := by
    unfold Txt.slice; rw [StrLaws.sliceIdx_none_hi]
  rw [e, sl_ss, List.take_of_length_le (by rw [List.length_drop]; simp [Str.length])]

theorem take_lt : ∀ (n : Nat) (a b : List Nat), a.take n < b.take n → a < b
  | 0, a, b, h => by simp at h
  | n + 1, [], [], h => by simp at h
  | n + 1, [], y :: b, _ => by simp
  | n + 1, x :: a, [], h => by simp at h
  | n + 1, x :: a, y :: b, h => by
    simp only [List.take_succ_cons, List.cons_lt_cons_iff] at h ⊢
    exact h.imp id fun h => ⟨h.1, take_lt n a b h.2⟩
theorem key_mono {ss : List Str} (h : Srt ss) (x : List Nat) (n : Nat) : ∀ i j, i ≤ j → j < ss.length → ¬ x < (Txt.slice (ss.getD j Str.empty) none (some (n : Int))).cps.toList → ¬ x < (Txt.slice (ss.getD i Str.empty) none (some (n : Int))).cps.toList := by
  intro i j hij hj hn hc
  rw [sl_to] at hn hc
  have h1 := srt_get h hij hj
  exact hn (Std.lt_of_lt_of_le hc fun h2 => h1 (take_lt n _ _ h2))
end Mine
end

section
open PySem PySem.W PyProof.Rows PySem.Calls
set_option maxRecDepth 100000
namespace Mine
theorem afresh_MBeh : True := by
  w_top off
  trivial
local macro_rules | `(tactic| walk_at "call ref") => `(tactic| refine Stop.mk ?_)
local macro_rules | `(tactic| walk_at "eval ListComp") => `(tactic| refine Stop.mk ?_)
local macro_rules | `(tactic| walk_at "eval Lambda") => `(tactic| refine Stop.mk ?_)
local macro_rules | `(tactic| walk_at "CompSrcT") => `(tactic| refine Stop.mk ?_)
local macro_rules | `(tactic| walk_at "CompSrcT ref") => `(tactic| refine Stop.mk ?_)
local macro_rules | `(tactic| walk_at "CompSrc") => `(tactic| refine Stop.mk ?_)
local macro_rules | `(tactic| walk_at "CompSrc ref") => `(tactic| refine Stop.mk ?_)
local macro_rules | `(tactic| walk_at "CEnd") => `(tactic| refine Stop.mk ?_)
local macro_rules | `(tactic| walk_at "eval Name") => `(tactic| (k_here; k_dflt (refine' xname_F ?F ?v ?w ?_ ?a ?b; (case a => rfl); (case b => rfl); (case F => k_asm); (case v => rfl); (case w => k_asm); k_whole)))
local macro_rules | `(tactic| walk_at "call builtin:len") => `(tactic| ((with_reducible show wpAny _ _ (call (Value.builtin "len") [Value.ref _]) _ _ _); refine Stop.mk ?_))
local macro_rules | `(tactic| walk_at "subscriptTail Name Slice ref ref") => `(tactic| refine Stop.mk ?_)
local macro_rules | `(tactic| walk_at "GO") => `(tactic| w_strict (repeat' (first | (k_unfold; (try dsimp only)) | walk1 | (dsimp only; walk1))))
variable {w : World} {dd : Nat} {fr : Option (List Env)} {gs : Option (List Code)} {uu : Nat} {mg mb : Str → Option Value}
  {p : Program} {loose : List Str} {mean : ExcName → Option Value} {s : Shared} {R : Result → Shared → Prop}

def lamQual : Str := (("_law_behind" : Str) ++ (".<locals>." : Str)) ++ ("<lambda>" : Str)
def lamPos : Pos := ⟨94, 44, 94, 77⟩
theorem count_cut {ss : List Str} {x : List Nat} {r : Nat} (h : Cut (fun i => tx ss i < x) 0 ss.length r) : (ss.filter fun y => decide (y.cps.toList < x)).length = r := by
  obtain ⟨_, h2, h3, h4⟩ := h
  dsimp only at h3 h4
  have e : ss.filter (fun y => decide (y.cps.toList < x)) = ss.take r := by
    conv => lhs; rw [← List.take_append_drop r ss]
    rw [List.filter_append]
    have e1 : (ss.take r).filter (fun y => decide (y.cps.toList < x)) = ss.take r := by
      rw [List.filter_eq_self]
      intro y hy
      obtain ⟨i, hi, _, e⟩ := mem_take_idx hy
      have := h3 i (Nat.zero_le _) hi
      rw [e] at this
      simpa using this
    have e2 : (ss.drop r).filter (fun y => decide (y.cps.toList < x)) = [] := by
      rw [List.filter_eq_nil_iff]
      intro y hy
      obtain ⟨i, hi, hi2, e⟩ := mem_drop_idx hy
      have := h4 i hi hi2
      rw [e] at this
      simpa using this
    rw [e1, e2, List.append_nil]
  rw [e, List.length_take]
  omega

theorem filter_take_succ {α : Type} (f : α → Bool) {l : List α} {i : Nat} {y : α} (h : l[i]? = some y) : (l.take (i + 1)).filter f = (l.take i).filter f ++ (if f y = true then [y] else []) := by
  rw [List.take_add_one, h, List.filter_append]
  cases e : f y <;> simp [e]

theorem kms_nat (l : List Value) {a b : Nat} (ha : a ≤ l.length) (hb : b ≤ l.length) : kms_pick l.toArray.toList (some (a : Int)) (some (b : Int)) = (l.drop a).take (b - a) := by
  unfold kms_pick kms_lo kms_hi
  simp only [if_neg (by omega : ¬ ((a : Int) < 0)), if_neg (by omega : ¬ ((b : Int) < 0)), Int.toNat_natCast, Nat.min_eq_left ha, Nat.min_eq_left hb]

set_option maxHeartbeats 8000000 in
theorem behind_c {a : Addr} {vs : List Value} {ss : List Str} {head : Str} {t : Tok} {ps : Array Value}
    (X : (hd.heap_39 w.params).In (s.heap.hide 64)) (T : Top p loose mean mg mb (s.heap.hide 64)) (C0 : CodeHd (s.heap.hide 64) 66 64) (h64 : s.heap.get? 64 = some (tabObj ps)) (hT : TabOK lamPos lamQual ps (s.heap.hide 64)) (hdp : dd < 700) (huu : uu < 5000)
    (hl : (s.heap.hide 64).IsList a vs.toArray) (hs : StrsAre vs ss) (hlen : ss.length < 64) (hR : Srt ss) (hts : ∀ y ∈ ss, y.length ≤ 100) (hhd : head.length ≤ 100)
    (h : ∀ h' tk D ps' vs' low high, (s.heap.hide 64).StaysIn h' → h'.get? 64 = some (tabObj ps') → (ps' = ps ∨ ∃ c' o, s.heap.objs.size ≤ c' ∧ ps' = #[rawInt lamPos.line, rawInt lamPos.col, .ref c'] ∧ h'.get? c' = some o ∧ CodeObj o lamQual) →
      h'.IsList D vs'.toArray → StrsAre vs' (((ss.drop low).take (high - low)).map fun y => Txt.slice y (some (head.length : Int)) none) →
      Cut (fun i => tx ss i < head.cps.toList) 0 ss.length low → Cut (fun i => ¬ head.cps.toList < (Txt.slice (ss.getD i Str.empty) none (some (head.length : Int))).cps.toList) low ss.length high → R (.ok (.ret (.ref D))) { s with heap := h', toks := tk }) :
    codeAny (model Challenge.rw_pe0127_01.row.prog w) (Ar dd fr gs uu) (.call (.ref 67) ⟨[.ref a, .str head t], []⟩) R s := by
  revert X
  k_fill
  intro X
  refine' fcallC [("row", .ref a), ("head", .str head t)] (g := s.heap.hide 64) (news₀ := [(64, tabObj ps)]) (fun _ _ e => Heap.of_hide e) (Heap.hide_size _ _) (fun q hq => by rw [List.mem_singleton.mp hq]; exact ⟨h64, Heap.hide_self _ _⟩) X T ?k8 ?k6 ?k7 ?k9 ?kB ?c5 ?_ ?c2 ?c3 ?c4
  case k6 => k_is
  case k7 => k_is
  case k8 => show dd < 1000; omega
  case k9 => intro S; exact rfl
  case kB => exact rfl
  case c2 => exact rfl
  case c3 => exact rfl
  case c4 => exact rfl
  case c5 => decide +kernel
  intro h₁ L tk cells F N hL Y
  obtain ⟨o1, rfl, d1⟩ := CellsAre.one Y
  clear Y
  simp only [List.cons_append, List.nil_append] at N
  replace d1 : o1.data = .cell (some (.str head t)) := d1
  walk_at "GO"
  refine Stop.go ?_
  refine wpAny_call (bisect_left_c (X.keeps F.keep) (T.keeps F.keep) (by show dd + 1 < 900; omega) (hl.at (F.keep _)) hs (by omega) (srt_mono_l hR _) fun h' tk' low tlow st hcl => ?_)
  dsimp only
  replace F := F.kept st
  replace N : News _ L h' _ := fun p hp => ⟨st _ _ (N p hp).1, (N p hp).2⟩
  walk_at "GO"
  refine Stop.go ?_
  rename Fr _ _ _ _ => F
  rename News _ _ _ _ => N
  have hL64 : (64 : Nat) < L := hL _ (.head _)
  have hLne : (L + 1 : Nat) ≠ 64 := Nat.ne_of_gt (Nat.lt_succ_of_lt hL64)
  refine lam_make (pos := lamPos) (qual := lamQual) F N hLne T C0 rfl rfl rfl rfl hT fun f c' ctv ps' h' tk' cx ox F N hrec hT' => ?_
  walk_at "GO"
  refine Stop.go ?_
  have hcell : h'.IsCell (L + 1) (some (.str head t)) := ⟨o1, N.get (.tail _ (.tail _ (.head _))), d1⟩
  refine wpAny_call (bisect_right_k (kf := fun y => Txt.slice y none (some (head.length : Int))) (X.keeps F.keep) (T.keeps F.keep) (by show dd + 1 < 800; omega) (hl.at (F.keep _)) hs (by omega) hcl.2.1 (N.get (.head _)) ?_ (key_mono hR _ _) fun h₂ tk₂ high thigh st hch => ?_)
  · intro s' dd' fr' uu' y ty Q st hdd hy hQ
    refine wpAny_call (lam_call [("turned", .str y ty)] (st _ _ (N.get (.head _))) (hrec.keeps st) ((T.nolimit.keeps F.keep).keeps st) (by show dd' < 1000; omega) rfl rfl (by decide) fun h₃ L₃ tk₃ F₃ => ?_)
    have X₃ := (X.keeps F.keep).keeps st
    have T₃ := (T.keeps F.keep).keeps st
    have hcell₃ := hcell.keeps st
    have hyl := hts y hy
    clear F N
    have N₃ : News s'.heap L₃ h₃ [] := News.nil
    walk_at "GO"
    rename Fr _ _ _ _ => F
    exact hQ _ _ _ F.keep
  · dsimp only
    replace F := F.kept st
    replace N : News _ L h₂ _ := fun p hp => ⟨st _ _ (N p hp).1, (N p hp).2⟩
    replace N : News (s.heap.hide 64) L h₂ [(cx, ox), (L + 1, o1), (64, tabObj ps')] := fun p hp => N p (.tail _ hp)
    walk_at "GO"
    refine Stop.go ?_
    rename Fr _ _ _ _ => F
    rename News _ _ _ _ => N
    refine LCt.ListComp_T F (by with_unfolding_all rfl) (by decide) rfl (by decide) rfl ?_
    walk_at "GO"
    refine Stop.go ?_
    refine LCt.CompSrcT.base rfl F N hl (by rw [sizeLine_eq]; have := hs.length; simp; omega) (fun g => ?_)
    refine restT (fun i ys => ys.length = ((ss.take i).filter (fun y => decide (y.cps.toList < head.cps.toList))).length) (.inl hl) rfl ?_ ?_
    · intro i v I oI C oC D m₂ ys h₃ tk₃ hi hP hJ hC hx F N
      obtain ⟨y, ty, rfl, hy⟩ := hs.item i v (by simpa using hP)
      walk_at "GO"
      · refine Stop.go (CEnd.mk F N (fun q hq => hq) ?_)
        rename ((_ : List Nat) < _) => hlt
        rw [filter_take_succ _ hy, List.length_append, List.length_append, ← hJ, if_pos (decide_eq_true hlt)]
        rfl
      · refine Stop.go (CEnd.mk F N (fun q hq => hq) ?_)
        rename (¬ (_ : List Nat) < _) => hlt
        rw [filter_take_succ _ hy, List.length_append, ← hJ, if_neg (by simpa using hlt)]
        rfl
    · intro ys hJ D h₃ tk₃ F N off
      have hJ' : ys.length = low := by
        rw [hJ, List.size_toArray, hs.length, List.take_length]
        exact count_cut hcl
      walk_at "GO"
      refine Stop.go ?_
      refine len_listN (n := low) (N.isList (.head _)) hJ' (by have := hcl.2.1; omega) ?_
      have hle : low ≤ high := hch.1
      have hle2 : high ≤ ss.length := hch.2.1
      walk_at "GO"
      · exact absurd rfl (by assumption : (low : Int) ≠ (low : Int))
      refine Stop.go ?_
      refine LCg.ListComp_U F (by with_unfolding_all rfl) (by decide) rfl (by decide) rfl ?_
      walk_at "GO"
      refine Stop.go ?_
      have hvl := hs.length
      refine kms_slice_lit (zs := (vs.drop low).take (high - low)) F N (hl.at (F.keep _)) (IsPart.int _ _) (IsPart.int _ _) (kms_nat vs (by omega) (by omega)) (fun D' h' F N _ => ?_) (by with_unfolding_all rfl) (by intro r; with_unfolding_all rfl) (by rw [sizeLine_eq]; simp; omega)
      have hs' : StrsAre ((vs.drop low).take (high - low)) ((ss.drop low).take (high - low)) := (hs.drop' low).take' _
      have hs'l : ((vs.drop low).take (high - low)).length ≤ 64 := by rw [List.length_take, List.length_drop]; omega
      have hs'm : ∀ y ∈ (ss.drop low).take (high - low), y.length ≤ 100 := fun y hy => hts y (List.mem_of_mem_drop (List.mem_of_mem_take hy))
      generalize (vs.drop low).take (high - low) = zs at N hs' hs'l
      generalize hss' : (ss.drop low).take (high - low) = ss' at hs' hs'm
      refine Stop.go ?_
      refine LCg.CompSrc.ledger rfl F N (.head _) (by rw [sizeLine_eq]; simp; omega) (fun g => ?_)
      refine restU (fun i ys => StrsAre ys ((ss'.take i).map fun y => Txt.slice y (some (head.length : Int)) none)) ?_ .nil ?_ ?_
      · exact .inr ⟨_, .head _, rfl, _, rfl⟩
      · intro i v I oI C oC D₂ m₂ ys h₃ tk₃ hi hP hJ hC hx F N
        obtain ⟨y, ty, rfl, hy⟩ := hs'.item i v (by simpa using hP)
        have hyl := hs'm y (List.mem_of_getElem? hy)
        walk_at "GO"
        rename Fr _ _ _ _ => F
        rename News _ _ _ _ => N
        refine Stop.go (CEnd.mk F N (fun q hq => hq) ?_)
        rw [List.take_add_one, hy, List.map_append]
        exact strs_push hJ _ _
      · intro ys hJ D h₃ tk₃ F N off
        walk_at "GO"
        refine h _ _ _ ps' ys low high F.keep (N.get (.tail _ (.tail _ (.tail _ (.tail _ (.tail _ (.head _))))))) ?_ (N.isList (.head _)) ?_ hcl hch
        · rcases hT' with ⟨rfl, _⟩ | ⟨rfl, rfl, hlt, hco⟩
          · exact .inl rfl
          · exact .inr ⟨_, ox, Nat.le_trans (Nat.le_trans (Nat.le_of_eq (Heap.hide_size _ _).symm) F.above) (Nat.le_of_lt (Nat.lt_of_succ_lt hlt)), rfl, N.get (.tail _ (.tail _ (.tail _ (.head _)))), hco⟩
        · rw [List.size_toArray, hs'.length, List.take_length, ← hss'] at hJ
          exact hJ
end Mine
end

section
open PySem PySem.W PyProof.Rows PySem.Calls
set_option maxRecDepth 100000
namespace Mine
local macro_rules | `(tactic| walk_at "pad0") => `(tactic| skip)
local macro_rules | `(tactic| walk_at "pad1") => `(tactic| skip)
local macro_rules | `(tactic| walk_at "pad2") => `(tactic| skip)
local macro_rules | `(tactic| walk_at "pad3") => `(tactic| skip)
local macro_rules | `(tactic| walk_at "pad4") => `(tactic| skip)
local macro_rules | `(tactic| walk_at "pad5") => `(tactic| skip)
theorem afresh_MWords : True := by
  w_top off
  trivial
local macro_rules | `(tactic| walk_at "call ref") => `(tactic| refine Stop.mk ?_)
local macro_rules | `(tactic| walk_at "pyIter ref") => `(tactic| refine Stop.mk ?_)
local macro_rules | `(tactic| walk_at "exec For Name BinOp cons nil") => `(tactic| refine Stop.mk ?_)
local macro_rules | `(tactic| walk_at "newList") => `(tactic| refine Stop.mk ?_)
local macro_rules | `(tactic| walk_at "call builtin:list.append") => `(tactic| refine Stop.mk ?_)
local macro_rules | `(tactic| walk_at "subscriptTail Name BinOp ref int") => `(tactic| refine Stop.mk ?_)
local macro_rules | `(tactic| walk_at "GO") => `(tactic| w_strict (repeat' (first | (k_unfold; (try dsimp only)) | walk1 | (dsimp only; walk1))))
variable {w : World} {dd : Nat} {fr : Option (List Env)} {gs : Option (List Code)} {uu : Nat} {mg mb : Str → Option Value}
  {p : Program} {loose : List Str} {mean : ExcName → Option Value} {s : Shared} {R : Result → Shared → Prop}

def pieces : List Str := ["", "a", "\n", "ab", "ba", "aa", ".a", "..b"]
theorem pieces_are (a b c d e f g h : Tok) : StrsAre [.str "" a, .str "a" b, .str "\n" c, .str "ab" d, .str "ba" e, .str "aa" f, .str ".a" g, .str "..b" h] pieces :=
  .cons _ _ (.cons _ _ (.cons _ _ (.cons _ _ (.cons _ _ (.cons _ _ (.cons _ _ (.cons _ _ .nil)))))))
structure Word where
  a : Str
  b : Str
  c : Str
def WordAt (q : Addr × Obj) (d : Word) : Prop := ∃ t u v n, q.2 = listOf #[.str d.a t, .str d.b u, .str d.c v] n
def WordsAre (os : List (Addr × Obj)) (ds : List Word) : Prop := os.length = ds.length ∧ ∀ (i : Nat) q d, os[i]? = some q → ds[i]? = some d → WordAt q d
theorem WordsAre.nil : WordsAre [] [] := ⟨rfl, fun i q d h => by simp at h⟩
theorem WordsAre.push {os : List (Addr × Obj)} {ds : List Word} {q : Addr × Obj} {d : Word} (h : WordsAre os ds) (hq : WordAt q d) : WordsAre (os ++ [q]) (ds ++ [d]) := by
  refine ⟨by simp [h.1], fun i q' d' h1 h2 => ?_⟩
  rcases Nat.lt_trichotomy i os.length with hi | hi | hi
  · rw [List.getElem?_append_left hi] at h1
    rw [List.getElem?_append_left (h.1 ▸ hi)] at h2
    exact h.2 i q' d' h1 h2
  · subst hi
    rw [List.getElem?_concat_length] at h1
    rw [h.1, List.getElem?_concat_length] at h2
    cases h1
    cases h2
    exact hq
  · rw [List.getElem?_eq_none (by simp; omega)] at h1
    cases h1
def wordOf (x : Int) : Word := ⟨pieces.getD ((x.fmod 512).fmod 8).toNat .empty, pieces.getD (((x.fmod 512).fdiv 8).fmod 8).toNat .empty, pieces.getD ((x.fmod 512).fdiv 64).toNat .empty⟩

theorem word_bounds (x : Int) : (0 ≤ (x.fmod 512).fmod 8 ∧ (x.fmod 512).fmod 8 < 8) ∧ (0 ≤ ((x.fmod 512).fdiv 8).fmod 8 ∧ ((x.fmod 512).fdiv 8).fmod 8 < 8) ∧ 0 ≤ (x.fmod 512).fdiv 64 ∧ (x.fmod 512).fdiv 64 < 8 := by
  simp only [Int.fmod_eq_emod_of_nonneg _ (show (0 : Int) ≤ 512 by decide), Int.fmod_eq_emod_of_nonneg _ (show (0 : Int) ≤ 8 by decide), Int.fdiv_eq_ediv_of_nonneg _ (show (0 : Int) ≤ 8 by decide), Int.fdiv_eq_ediv_of_nonneg _ (show (0 : Int) ≤ 64 by decide)]
  omega
theorem ints_len {vs : List Value} {ns : List Int} (h : IntsAre vs ns) : vs.length = ns.length := by
  induction h with
  | nil => rfl
  | cons n t _ ih => simp [ih]

set_option maxHeartbeats 8000000 in
theorem words_c {a : Addr} {vs : List Value} {ns : List Int}
    (X : (hd.heap_39 w.params).In s.heap) (T : Top p loose mean mg mb s.heap) (hdp : dd < 700)
    (hl : s.heap.IsList a vs.toArray) (hs : IntsAre vs ns) (hlen : ns.length < 64)
    (h : ∀ h' tk D os, s.heap.StaysIn h' → h'.IsList D (os.map fun q => Value.ref q.1).toArray → s.heap.get? D = none → (∀ q ∈ os, h'.get? q.1 = some q.2 ∧ s.heap.get? q.1 = none) → WordsAre os (([321, 261, 97] ++ ns.take 4).map wordOf) → R (.ok (.ret (.ref D))) { s with heap := h', toks := tk }) :
    codeAny (model Challenge.rw_pe0127_01.row.prog w) (Ar dd fr gs uu) (.call (.ref 55) ⟨[.ref a], []⟩) R s := by
  revert X
  k_fill
  intro X
  refine' fcall [("script", .ref a)] X T ?k8 ?k6 ?k7 ?k9 ?kB ?c5 ?_ ?c2 ?c3 ?c4
  case k6 => k_is
  case k7 => k_is
  case k8 => show dd < 1000; omega
  case k9 => intro S; exact rfl
  case kB => exact rfl
  case c2 => exact rfl
  case c3 => exact rfl
  case c4 => exact rfl
  case c5 => decide
  intro h₁ L tk F
  have N : News s.heap L h₁ [] := News.nil
  walk_at "GO"
  refine Stop.go ?_
  refine newList_K F N fun P h' F N hlt => ?_
  clear hlt
  obtain ⟨pv, hPS, N⟩ : ∃ pv, StrsAre pv pieces ∧ News s.heap L h' [(P, listOf (List.toArray pv) 0)] := ⟨_, pieces_are _ _ _ _ _ _ _ _, N⟩
  walk_at "GO"
  refine Stop.go ?_
  rename Fr _ _ _ _ => F
  rename News _ _ _ _ => N
  refine newList_K F N fun W h' F N hlt => ?_
  have hWP : P ≠ W := Nat.ne_of_lt (hlt _ (.head _))
  clear hlt
  walk_at "GO"
  refine Stop.go ?_
  refine wpAny_For ?_
  walk_at "GO"
  refine Stop.go ?_
  rename Fr _ _ _ _ => F
  rename News _ _ _ _ => N
  refine newList_K F N fun B h' F N hlt => ?_
  clear hlt
  walk_at "GO"
  refine Stop.go ?_
  rename Fr _ _ _ _ => F
  rename News _ _ _ _ => N
  rename IntsAre _ ([321, 261, 97] ++ List.take 4 ns) => hI
  rename List Value => ws
  rename Addr => D
  have hDW : W ≠ D := Nat.ne_of_lt (by omega)
  have hDP : P ≠ D := Nat.ne_of_lt (by omega)
  have hDL : D ≠ L := (N _ (.head _)).2.1
  refine iter_listO (L := L) (news₀ := [(W, listOf #[] 0), (P, listOf (List.toArray pv) 0)]) rfl rfl (N.isList (.head _)) hDL F (fun q hq => N q (.tail _ (.tail _ (.tail _ hq))))
    (fun i m news => ∃ its n os, Has m [("parts", .ref P), ("words", .ref W)] ∧ news = (W, listOf (List.toArray its) n) :: (P, listOf (List.toArray pv) 0) :: os ∧ its = os.map (fun q => Value.ref q.1) ∧ WordsAre os ((([321, 261, 97] ++ ns.take 4).take i).map wordOf) ∧ ∀ q ∈ os, q.1 ≠ W) ⟨[], 0, [], ⟨rfl, rfl, trivial⟩, rfl, rfl, WordsAre.nil, by simp⟩ ?_ ?_
  · clear F N
    intro i v m news own h₂ tk₂ I hI2 hv hJ hnI hown hIo F N
    obtain ⟨its, n, os, hm, rfl, hit, hW, hoW⟩ := hJ
    obtain ⟨x, tx, rfl, hx⟩ := hI.at i v hv
    replace F := hm.fr F
    simp only [List.cons_append] at N
    have hb := word_bounds x
    have hpl : pieces.length = 8 := rfl
    walk_at "GO"
    refine Stop.go ?_
    rename Fr _ _ _ _ => F
    rename News _ _ _ _ => N
    refine item_strsA (N.isList (.tail _ (.head _))) hPS (by omega) (by omega) (by omega) (fun t1 => ?_)
    walk_at "GO"
    refine Stop.go ?_
    rename Fr _ _ _ _ => F
    rename News _ _ _ _ => N
    refine item_strsA (N.isList (.tail _ (.head _))) hPS (by omega) (by omega) (by omega) (fun t2 => ?_)
    walk_at "GO"
    refine Stop.go ?_
    rename Fr _ _ _ _ => F
    rename News _ _ _ _ => N
    refine item_strsA (N.isList (.tail _ (.head _))) hPS (by omega) (by omega) (by omega) (fun t3 => ?_)
    walk_at "GO"
    refine Stop.go ?_
    rename Fr _ _ _ _ => F
    rename News _ _ _ _ => N
    refine newList_K F N (fun Z h' F N hlt => ?_) (by rw [sizeLine_eq]; simp)
    walk_at "GO"
    refine Stop.go ?_
    obtain ⟨zo, hzo, N⟩ : ∃ zo, WordAt (Z, zo) (wordOf x) ∧ News s.heap L h' ((Z, zo) :: (W, listOf (List.toArray its) n) :: (P, listOf (List.toArray pv) 0) :: (os ++ own)) := ⟨_, ⟨t1, t2, t3, 0, rfl⟩, N⟩
    have hZW : Z ≠ W := Nat.ne_of_gt (hlt _ (.head _))
    have hZI : ∀ q ∈ own, q.1 ≠ Z := fun q hq => Nat.ne_of_lt (hlt q (.tail _ (.tail _ (List.mem_append_right _ hq))))
    have hoW2 : ∀ q ∈ (P, listOf (List.toArray pv) 0) :: (os ++ own), q.1 ≠ W := fun q hq e => by
      rcases List.mem_cons.mp hq with rfl | hq
      · exact hWP e
      · rcases List.mem_append.mp hq with hq | hq
        · exact hoW q hq e
        · rcases hown q hq with e2 | e2
          · exact hnI (W, _) (.head _) (e.symm.trans e2)
          · exact hDW (e.symm.trans e2)
    have hil : its.length ≤ 7 := by
      have h1 := hW.1
      rw [List.length_map, List.length_take] at h1
      rw [hit, List.length_map, h1]
      simp
      omega
    refine append_K F N (.tail hZW (.head hoW2)) (fun h' F N => ?_) (by rw [sizeLine_eq]; simp; omega)
    rw [List.push_toArray] at N
    walk_at "GO"
    simp only [TurnQ]
    refine Turn.mk (news' := (W, listOf (List.toArray (its ++ [Value.ref Z])) (n + 1)) :: (P, listOf (List.toArray pv) 0) :: (os ++ [(Z, zo)])) F N ?_ ?_ ?_ ⟨its ++ [Value.ref Z], n + 1, os ++ [(Z, zo)], ⟨rfl, rfl, trivial⟩, rfl, ?_, ?_, ?_⟩
    · intro q hq
      rcases List.mem_cons.mp hq with rfl | hq
      · exact .tail _ (.head _)
      rcases List.mem_cons.mp hq with rfl | hq
      · exact .tail _ (.tail _ (.head _))
      rcases List.mem_append.mp hq with hq | hq
      · exact .tail _ (.tail _ (.tail _ (List.mem_append_left _ hq)))
      · rw [List.mem_singleton.mp hq]; exact .head _
    · intro q hq
      exact .tail _ (.tail _ (.tail _ (List.mem_append_right _ hq)))
    · intro q hq
      rcases List.mem_cons.mp hq with rfl | hq
      · simpa using hnI (W, _) (.head _)
      rcases List.mem_cons.mp hq with rfl | hq
      · simpa using hnI _ (.tail _ (.head _))
      rcases List.mem_append.mp hq with hq | hq
      · simpa using hnI q (.tail _ (.tail _ hq))
      · rw [List.mem_singleton.mp hq]
        obtain ⟨oI, hIo⟩ := hIo
        exact fun e => hZI _ hIo (List.mem_singleton.mp e).symm
    · rw [hit, List.map_append]; rfl
    · have ht : ([321, 261, 97] ++ ns.take 4).take (i + 1) = ([321, 261, 97] ++ ns.take 4).take i ++ [x] := by rw [List.take_add_one, hx]; rfl
      show WordsAre (os ++ [(Z, zo)]) ((([321, 261, 97] ++ ns.take 4).take (i + 1)).map wordOf)
      rw [ht, List.map_append]
      exact hW.push hzo
    · intro q hq
      rcases List.mem_append.mp hq with hq | hq
      · exact hoW q hq
      · rw [List.mem_singleton.mp hq]; exact hZW
  · intro m news h₂ tk₂ hJ F N
    obtain ⟨its, n, os, hm, rfl, hit, hW, hoW⟩ := hJ
    replace F := hm.fr F
    rw [ints_len hI, List.take_length] at hW
    walk_at "GO"
    refine h _ _ _ os F.keep (hit ▸ N.isList (.head _)) (N _ (.head _)).2.2 (fun q hq => ⟨(N q (.tail _ (.tail _ hq))).1, (N q (.tail _ (.tail _ hq))).2.2⟩) hW
end Mine
end

section
open PySem PySem.W PyProof.Rows PySem.Calls PyProof.Rows.LCg
set_option maxRecDepth 100000
namespace Mine

/- A list comprehension with two generators: no rule of the library covers it. One theorem, `level`, walks either of its two loops;
   `tail` is what a turn does behind the storing of its target (append the element | start the inner loop). -/
abbrev Two (elt t1 i1 t2 i2 : Expr) (scope : Scope) (pos : Pos) : Expr := .ListComp elt [⟨t1, i1, [], 0⟩, ⟨t2, i2, [], 0⟩] scope pos
/-- a turn, read by its parts -/
def turnOf (p : Pos) (t : Expr) (it : Value) (env : Env) (tail : Sem Fin) : Sem Fin :=
  standAt p >>= fun _ => pyNext it >>= fun r => match r with
    | none => pure (.done .next)
    | some v => letOwnedTupleGo t it v >>= fun _ => assign t env v >>= fun _ => tail
def tail1 (e elt : Expr) (it acc : Value) (env : Env) : Sem Fin :=
  (eval elt env >>= fun x => call (.builtin "list.append") [acc, x] >>= fun _ => pure ()) >>= fun _ => again (.compLoop e 1 it acc env)
def tail0 (e i2 : Expr) (it acc : Value) (env : Env) : Sem Fin :=
  eval i2 env >>= fun x => standAt i2.pos >>= fun _ => foldedSetIterable i2 env x >>= fun x => holding [x] (pyIter x) >>= fun j =>
    runOwn (.compStart e 1 j acc env) env >>= fun _ => again (.compLoop e 0 it acc env)
theorem turn1_eq (elt t1 i1 t2 i2 : Expr) (scope : Scope) (pos : Pos) (it acc : Value) (env : Env) :
    compTurn (Two elt t1 i1 t2 i2 scope pos) 1 it acc env = turnOf i2.pos t2 it env (tail1 (Two elt t1 i1 t2 i2 scope pos) elt it acc env) := by rfl
theorem turn0_eq (elt t1 i1 t2 i2 : Expr) (scope : Scope) (pos : Pos) (it acc : Value) (env : Env) :
    compTurn (Two elt t1 i1 t2 i2 scope pos) 0 it acc env = turnOf i1.pos t1 it env (tail0 (Two elt t1 i1 t2 i2 scope pos) i2 it acc env) := by rfl
theorem start1_eq (elt t1 i1 t2 i2 : Expr) (scope : Scope) (pos : Pos) (it acc : Value) (env : Env) :
    compStart (Two elt t1 i1 t2 i2 scope pos) 1 it acc env = (ask >>= fun k => if k.params.followText "comprehension-iter-twice" = true then again (.compLoop (Two elt t1 i1 t2 i2 scope pos) 1 it acc env) else
      rule "comprehension.iter-twice" >>= fun _ => standAt i2.pos >>= fun _ => pyIter it >>= fun j => again (.compLoop (Two elt t1 i1 t2 i2 scope pos) 1 j acc env)) := by rfl

section
variable {prog : Program} {w : World} {A : Around} {R : Result → Shared → Prop} {s : Shared} {elt t1 i1 t2 i2 : Expr} {scope : Scope} {pos : Pos} {it acc : Value} {env : Env}

/-- the inner loop is started upon what is an iterator already -/
theorem start1 (h0 : codeAny (model prog w) A (.compLoop (Two elt t1 i1 t2 i2 scope pos) 1 it acc env) R s)
    (self : ∀ Q : Value → Shared → Prop, Q it s → wpAny (model prog w) A (pyIter it) Q NoE s) :
    codeAny (model prog w) A (.compStart (Two elt t1 i1 t2 i2 scope pos) 1 it acc env) R s := by
  have go : ∀ E, wpAny (model prog w) (A.under (.compStart (Two elt t1 i1 t2 i2 scope pos) 1 it acc env)) (compStart (Two elt t1 i1 t2 i2 scope pos) 1 it acc env)
      (fun fin s' => match fin with | .done f => R (.ok f) s' | .again c => c.quiet = true ∧ codeAny (model prog w) A c R s') E s := fun E => by
    rw [start1_eq]
    refine wpAny_bind (wpAny_askSetting (wpAny_ite ?_))
    split
    · exact wpAny_pure ⟨rfl, h0⟩
    · exact wpAny_bind (wpAny_rule (wpAny_bind (wpAny_standAt (wpAny_bind (wpAny_mono (self _ h0) (fun _ _ q => wpAny_pure ⟨rfl, q⟩) fun _ _ x => x.elim)))))
  exact codeAny_of_tree (wpAny_notedAt (go _))
end

/-- the iterator I, the frame C and the list D of a comprehension stand apart: from each other, from the frame L, from what stood, from the rest of the ledger -/
structure Apart (h₀ : Heap) (L I C D : Addr) (rest : List (Addr × Obj)) : Prop where
  ic : I ≠ C
  idd : I ≠ D
  cd : C ≠ D
  new : ∀ a, a = I ∨ a = C ∨ a = D → a ≠ L ∧ h₀.get? a = none
  off : ∀ p ∈ rest, p.1 ≠ I ∧ p.1 ≠ C ∧ p.1 ≠ D

/-- how it stands between two turns: `ys` is made so far, the names of the comprehension's frame are told by `Kp` -/
def Between (h₀ : Heap) (L : Addr) (m : Str → Option Value) (s : Shared) (C D : Addr) (rest : List (Addr × Obj)) (Kp : (Str → Option Value) → Prop) (J : List Value → Prop) (s' : Shared) : Prop :=
  ∃ h tk ys k, s' = { s with heap := h, toks := tk } ∧ Fr h₀ L h m ∧ h.Ns C k ∧ Kp k ∧ News h₀ L h ((D, lst ys) :: rest) ∧ J ys

theorem news_put {h₀ h : Heap} {L a : Addr} {o : Obj} {news : List (Addr × Obj)} (e : h.get? a = some o) (n : a ≠ L ∧ h₀.get? a = none) (N : News h₀ L h news) : News h₀ L h ((a, o) :: news) :=
  fun p hp => (List.mem_cons.mp hp).elim (fun q => q ▸ ⟨e, n⟩) (N p)
theorem news_same {h₀ h h' : Heap} {L c : Addr} {news : List (Addr × Obj)} (hs : Heap.SameBut c h h') (off : ∀ p ∈ news, p.1 ≠ c) (N : News h₀ L h news) : News h₀ L h' news :=
  fun p hp => ⟨(hs.2 _ (off p hp)).trans (N p hp).1, (N p hp).2⟩
theorem off_cons {a b : Addr} {o : Obj} {news : List (Addr × Obj)} (h : a ≠ b) (off : ∀ p ∈ news, p.1 ≠ b) : ∀ p ∈ (a, o) :: news, p.1 ≠ b :=
  fun p hp => (List.mem_cons.mp hp).elim (fun q => q ▸ h) (off p)

section
variable {prog : Program} {w : World} {A : Around} {R : Result → Shared → Prop} {s s₀ : Shared} {h₀ : Heap} {L I C D : Addr} {m : Str → Option Value} {elt t1 i1 t2 i2 : Expr} {x : Str} {px p : Pos} {scope : Scope} {cl : List (Str × Addr)} {pos : Pos} {env : Env}
  {fp : List Addr} {n d : Nat} {P : Nat → Value → Prop} {St : Nat → Heap → Prop} {rest : List (Addr × Obj)} {Kp : (Str → Option Value) → Prop} {J : Nat → List Value → Prop} {tail : Sem Fin}

/-- one loop of a comprehension, the outer one or the inner one -/
theorem level (W : Walks prog w A I fp [I] n P St) (ap : Apart h₀ L I C D rest) (hC : C ∉ fp) (sees : ∀ i h, St i h → ∃ o, h.get? I = some o)
    (back : ∀ i h h' o, St i h → h.get? I = some o → h'.get? I = some o → (∀ b o, h₀.get? b = some o → h'.get? b = some o) → News h₀ L h' rest → St i h')
    (hx : scope.names.lookup x = some .local) (hkind : scope.kind = .function) (hKp : ∀ k v, Kp k → Kp fun z => if z = x then some v else k z)
    (eq : compTurn (Two elt t1 i1 t2 i2 scope pos) d (.ref I) (.ref D) (compEnvC scope cl C env) = turnOf p (.Name x px) (.ref I) (compEnvC scope cl C env) tail)
    (hst : St 0 s₀.heap) (b : Between h₀ L m s C D rest Kp (J 0) s₀)
    (turn : ∀ i v oI oC k ys h tk, i < n → P i v → J i ys → NsObj oC k → Kp k → k x = some v → Fr h₀ L h m → News h₀ L h ((C, oC) :: (I, oI) :: (D, lst ys) :: rest) →
      wpAny (model prog w) A tail (fun fin s' => fin = .again (.compLoop (Two elt t1 i1 t2 i2 scope pos) d (.ref I) (.ref D) (compEnvC scope cl C env)) ∧ Between h₀ L m s C D ((I, oI) :: rest) Kp (J (i + 1)) s') NoE { s with heap := h, toks := tk })
    (fin : ∀ s', Between h₀ L m s C D rest Kp (J n) s' → R (.ok .next) s') :
    codeAny (model prog w) A (.compLoop (Two elt t1 i1 t2 i2 scope pos) d (.ref I) (.ref D) (compEnvC scope cl C env)) R s₀ := by
  have offI := fun q hq => (ap.off q hq).1
  have offC := fun q hq => (ap.off q hq).2.1
  have nI := ap.new I (.inl rfl)
  have nC := ap.new C (.inr (.inl rfl))
  have other : ∀ {h h' : Heap} {k}, (∀ b o, b ∉ [I] → h.get? b = some o → h'.get? b = some o) → h.Ns C k → h'.Ns C k := fun hk q => q.at' fun o e => hk _ o (by simpa using ap.ic.symm) e
  refine codeAny_loop rfl (fun j s' => ∃ i, i ≤ n ∧ j = n - i ∧ St i s'.heap ∧ Between h₀ L m s C D rest Kp (J i) s') (fun j s' hj => ?_) n ⟨0, Nat.zero_le n, rfl, hst, b⟩
  obtain ⟨i, hin, rfl, hi, h, tk, ys, k, rfl, F, ns, hk, N, hJ⟩ := hj
  show wpAny _ _ ((compTurn (Two elt t1 i1 t2 i2 scope pos) d (.ref I) (.ref D) (compEnvC scope cl C env)).onRaise _) _ _ _
  refine wpAny_noted ?_
  rw [eq]
  refine wpAny_bind (wpAny_standAt (wpAny_bind ?_))
  rcases Nat.lt_or_eq_of_le hin with hlt | rfl
  · refine W.item i _ _ _ hlt hi fun v h₁ tk₁ hv hi₁ hk₁ => wpAny_bind (wpAny_of_eq rfl (wpAny_bind (wpAny_assign_Name (wpAny_storeName_local (lookup_relabel_local hx) (other hk₁ ns) (fun h₂ ns₂ same => ?_) (by simp [compEnvC, relabel, hkind])))))
    have hi₂ : St (i + 1) h₂ := W.frame _ _ _ hi₁ fun b hb o e => (same.2 b fun q => hC ((show b = C from q) ▸ hb)).trans e
    obtain ⟨oI, eI⟩ := sees _ _ hi₂
    obtain ⟨oC, eC, nsC⟩ := ns_obj ns₂
    have N₂ : News h₀ L h₂ ((D, lst ys) :: rest) := news_same same (off_cons ap.cd.symm offC) (news_but N hk₁ (off_cons ap.idd.symm offI))
    refine wpAny_mono (turn i v oI oC _ ys h₂ _ hlt hv hJ nsC (hKp k v hk) (if_pos rfl) ((fr_but F hk₁ nI.1.symm nI.2).change same nC.1 nC.2) (news_put eC nC (news_put eI nI N₂))) (fun f s' hf => ?_) fun _ _ z => z.elim
    obtain ⟨rfl, h₃, tk₃, ys₃, k₃, rfl, F₃, ns₃, hk₃, N₃, hJ₃⟩ := hf
    refine ⟨rfl, n - (i + 1), by omega, i + 1, hlt, rfl, back _ _ _ oI hi₂ eI (N₃ _ (.tail _ (.head _))).1 F₃.keep fun q hq => N₃ q (.tail _ (.tail _ hq)), h₃, tk₃, ys₃, k₃, rfl, F₃, ns₃, hk₃, fun q hq => N₃ q ?_, hJ₃⟩
    exact (List.mem_cons.mp hq).elim (fun z => z ▸ .head _) fun z => .tail _ (.tail _ z)
  · exact W.done _ _ _ hi fun h₁ tk₁ hk₁ => wpAny_pure (fin _ ⟨h₁, tk₁, ys, k, rfl, fr_but F hk₁ nI.1.symm nI.2, other hk₁ ns, hk, news_but N hk₁ (off_cons ap.idd.symm offI), hJ⟩)

/-- the list and the frame of a comprehension are made -/
theorem comp_new {M : Model} {E : Value → Shared → Prop} {news : List (Addr × Obj)} {Q : Value → Env → Shared → Prop} (hcell : ∀ y ∈ scope.names, y.2 ≠ .cell) (hkind : scope.kind = .function) (F : Fr h₀ L s.heap m) (N : News h₀ L s.heap news)
    (k : ∀ C D h tk cenv, cenv.locals = C → { cenv with scope := relabel scope env } = compEnvC scope cl C env → (∀ b, b < s.heap.objs.size → b ≠ C ∧ b ≠ D) → (∀ b o, s.heap.get? b = some o → h.get? b = some o) → C ≠ D →
      (∀ a, a = C ∨ a = D → a ≠ L ∧ h₀.get? a = none) → Fr h₀ L h m → h.Ns C (fun _ => none) → News h₀ L h ((D, lst []) :: news) → Q (.ref D) cenv { s with heap := h, toks := tk }) :
    wpAny M A (newList []) (fun acc s₁ => wpAny M A (newFunctionEnv scope env.globals cl [] env.qual none .none (some env)) (fun cenv s₂ => Q acc cenv s₂) E s₁) E s := by
  refine wpAny_newObj_type (wpAny_newFunctionEnv hcell (fun _ h => nomatch h) (fun h ns same => ?_) hkind)
  have size := Heap.size_push s.heap { cls := .type "list", dict := none, data := .seq ([] : List Value).toArray }
  have fresh : ∀ a, s.heap.objs.size ≤ a → a ≠ L ∧ h₀.get? a = none := fun a ha => ⟨fun q => absurd (q ▸ F.ns.lt) (Nat.not_lt.mpr ha), Heap.get?_none_of_le (Nat.le_trans F.above (Nat.le_trans (Nat.le_of_lt F.ns.lt) ha))⟩
  have far : ∀ b, b < s.heap.objs.size + 1 → b ≠ (s.heap.push { cls := .type "list", dict := none, data := .seq ([] : List Value).toArray }).objs.size := fun b hb => size ▸ Nat.ne_of_lt hb
  have keep : ∀ b o, s.heap.get? b = some o → h.get? b = some o := fun b o e => (same.2 b (far b (Nat.lt_succ_of_lt (Heap.lt_size e)))).trans (Heap.get?_push_of_some _ (Heap.get?_push_of_some _ e))
  have hD : h.get? s.heap.objs.size = some (lst []) := (same.2 _ (far _ (Nat.lt_succ_self _))).trans (Heap.get?_push_of_some _ (Heap.get?_push_size _ rfl))
  refine k _ _ h _ _ rfl rfl (fun b hb => ⟨far b (Nat.lt_succ_of_lt hb), Nat.ne_of_lt hb⟩) keep (far _ (Nat.lt_succ_self _)).symm (fun a ha => fresh a ?_) (F.keeps keep) ns (news_put hD (fresh _ (Nat.le_refl _)) (N.grown keep))
  rcases ha with rfl | rfl
  · exact size ▸ Nat.le_succ _
  · exact Nat.le_refl _
end
/-- what one evaluation inside the comprehension leaves -/
def CEnd2 (h₀ : Heap) (L : Addr) (m : Str → Option Value) (s : Shared) (C : Addr) (oC : Obj) (rest : List (Addr × Obj)) (P : Value → Heap → Prop) (y : Value) (s₂ : Shared) : Prop :=
  ∃ h' tk, s₂ = { s with heap := h', toks := tk } ∧ Fr h₀ L h' m ∧ News h₀ L h' ((C, oC) :: rest) ∧ P y h'
theorem CEnd2.mk {h₀ : Heap} {L : Addr} {m : Str → Option Value} {s : Shared} {C : Addr} {oC : Obj} {rest all : List (Addr × Obj)} {P : Value → Heap → Prop} {y : Value} {h' : Heap} {tk : Nat}
    (F : Fr h₀ L h' m) (N : News h₀ L h' all) (sub : ∀ q ∈ (C, oC) :: rest, q ∈ all) (hP : P y h') : CEnd2 h₀ L m s C oC rest P y { s with heap := h', toks := tk } :=
  ⟨h', tk, rfl, F, fun q hq => N q (sub q hq), hP⟩


section
variable {prog : Program} {w : World} {A : Around} {s : Shared} {h₀ : Heap} {L : Addr} {m : Str → Option Value} {elt i1 i2 : Expr} {x y : Str} {scope : Scope} {cl : List (Str × Addr)} {pos : Pos} {env : Env}

def Src2 (prog : Program) (w : World) (A : Around) (h₀ : Heap) (L : Addr) (m : Str → Option Value) (env : Env) (elt i2 : Expr) (x y : Str) (scope : Scope) (cl : List (Str × Addr)) (Q : Value → Shared → Prop) (xv : Value) (s : Shared) : Prop :=
  ∃ (ax : Addr) (its : Array Value) (news : List (Addr × Obj)) (len : Nat → Nat) (J : Nat → Nat → List Value → Prop), xv = .ref ax ∧ A.handled = none ∧ Fr h₀ L s.heap m ∧ News h₀ L s.heap news ∧ SrcAt h₀ ax its news ∧ J 0 0 [] ∧ (∀ i k ys, J i k ys → ys.length ≤ sizeLine) ∧ (∀ i, len i < 2 ^ 62) ∧
    (∀ i v C oC m₂ h tk rest, its[i]? = some v → NsObj oC m₂ → m₂ x = some v → Fr h₀ L h m → News h₀ L h ((C, oC) :: rest) →
      wpAny (model prog w) A (eval i2 (compEnvC scope cl C env)) (CEnd2 h₀ L m s C oC rest fun rv h' => ∃ r t u v, rv = .ref r ∧ IsRange h' r 0 (len i : Int) 1 t u v) NoE { s with heap := h, toks := tk }) ∧
    (∀ i v (k : Nat) tv C oC m₂ ys h tk rest, its[i]? = some v → k < len i → J i k ys → NsObj oC m₂ → m₂ x = some v → m₂ y = some (.int (k : Int) tv) → Fr h₀ L h m → News h₀ L h ((C, oC) :: rest) →
      wpAny (model prog w) A (eval elt (compEnvC scope cl C env)) (CEnd2 h₀ L m s C oC rest fun e _ => J i (k + 1) (ys ++ [e])) NoE { s with heap := h, toks := tk }) ∧
    (∀ i v ys, its[i]? = some v → J i (len i) ys → J (i + 1) 0 ys) ∧ (∀ ys, J its.size 0 ys → FinE h₀ L m s Q ys news)

theorem ListComp_two {px py : Pos} {Q : Value → Shared → Prop} (_F₀ : Fr h₀ L s.heap m)
    (hclos : closureFor scope env = pure cl) (hcell : ∀ y ∈ scope.names, y.2 ≠ .cell) (hkind : scope.kind = .function)
    (hnames : ∀ y ∈ scope.names, y.2 = .local → scope.names.lookup y.1 = some .local) (hx : scope.names.lookup x = some .local) (hy : scope.names.lookup y = some .local) (hyx : x ≠ y)
    (h : wpAny (model prog w) A (eval i1 env) (Src2 prog w A h₀ L m env elt i2 x y scope cl Q) NoE s)
    (hs : ∀ x, foldedSetIterable i1 env x = pure x := by intro _; rfl) (hs2 : ∀ C x, foldedSetIterable i2 (compEnvC scope cl C env) x = pure x := by intro _ _; rfl) :
    wpAny (model prog w) A (eval (.ListComp elt [⟨.Name x px, i1, [], 0⟩, ⟨.Name y py, i2, [], 0⟩] scope pos) env) Q NoE s := by
  rw [eval_ListComp]
  refine wpAny_comprehension_free (use := none) rfl hs hclos hkind hnames (wpAny_mono h (fun xv s₁ src => ?_) fun _ _ z => z)
  obtain ⟨ax, its, news, len, J, rfl, hh, F₁, N₁, S, hJ0, hsz, hlen, tI, tE, hnext, hfin⟩ := src
  have hl := S.list F₁.keep N₁
  obtain ⟨nL, nG, nN⟩ := next_off F₁ N₁
  have hax : ax < s₁.heap.objs.size := hl.elim fun o e => Heap.lt_size e.1
  refine wpAny_pyIter_list hl ?_
  have W := Walks.list (prog := prog) (w := w) hh s₁.heap.objs.size ax (Nat.ne_of_lt hax) its
  have up : ∀ b o, s₁.heap.get? b = some o → (s₁.heap.push { cls := .type "list_iterator", data := .fields #[.ref ax, .int 0 0] }).get? b = some o := fun b o e => Heap.get?_push_of_some _ e
  refine comp_new hcell hkind (F₁.keeps up) (N₁.grown up) fun C D h tk cenv eL eC far keep cd new F ns N => ?_
  have lt : ∀ b, b ≤ s₁.heap.objs.size → b ≠ C ∧ b ≠ D := fun b hb => far b (by show b < (s₁.heap.push _).objs.size; rw [Heap.size_push]; exact Nat.lt_succ_of_le hb)
  have nC := new C (.inl rfl)
  have nD := new D (.inr rfl)
  have ap : Apart h₀ L s₁.heap.objs.size C D news :=
    ⟨(lt _ (Nat.le_refl _)).1, (lt _ (Nat.le_refl _)).2, cd, fun a ha => ha.elim (fun q => q ▸ ⟨nL, nG⟩) (new a), fun p hp => ⟨nN p hp, lt _ (Nat.le_of_lt (Heap.lt_size (N₁ p hp).1))⟩⟩
  have hst := W.frame 0 _ h ⟨⟨_, Heap.get?_push_size _ rfl, rfl, rfl⟩, hl.push _⟩ fun b _ o e => keep b o e
  rw [eC, eL]
  generalize s₁.heap.objs.size = I at *
  have loop : codeAny (model prog w) A (.compLoop (Two elt (.Name x px) i1 (.Name y py) i2 scope pos) 0 (.ref I) (.ref D) (compEnvC scope cl C env))
      (compPost (model prog w) A NoE none Q (.ref D) C) { s₁ with heap := h, toks := tk } := by
    refine level (J := fun i => J i 0) (Kp := fun _ => True) W ap ?_ (fun i h st => st.1.elim fun o e => ⟨o, e.1⟩) (fun i h h' o st e e' kp N' => list_st i h h' o _ st e e' kp N' S)
      hx hkind (fun _ _ _ => trivial) (turn0_eq ..) hst ⟨h, tk, [], _, rfl, F, ns, trivial, N, hJ0⟩ (fun i v oI oC k ys h₂ tk₂ _ hv hJ nsC _ hkx F₂ N₂ => ?_) ?_
    · intro hm
      rcases List.mem_cons.mp hm with q | q
      · exact ap.ic q.symm
      · exact (lt ax (Nat.le_of_lt hax)).1 (List.mem_singleton.mp q).symm
    · refine wpAny_bind (wpAny_mono (tI i v C oC k h₂ tk₂ _ hv nsC hkx F₂ N₂) (fun rv s₄ hr => ?_) fun _ _ z => z.elim)
      obtain ⟨h₄, tk₄, rfl, F₄, N₄, r, a, b, c, rfl, hr⟩ := hr
      obtain ⟨jL, jG, jN⟩ := next_off (s := { s₁ with heap := h₄, toks := tk₄ }) F₄ N₄
      have short : len i < 2 ^ 62 := hlen i
      have hsize : Builtin.Range.rangeSize 0 (len i : Int) 1 = (len i : Int) := by rw [rangeSize_one]; omega
      have grow : ∀ b o, h₄.get? b = some o → (h₄.push { cls := .type "range_iterator", data := .fields #[rawInt 0, rawInt (len i : Int), rawInt 1] }).get? b = some o := fun b o e => Heap.get?_push_of_some _ e
      have N₅ := N₄.grown grow
      have it₅ : IsRangeIter (h₄.push { cls := .type "range_iterator", data := .fields #[rawInt 0, rawInt (len i : Int), rawInt 1] }) h₄.objs.size 0 (len i : Int) 1 := Heap.get?_push_size _ rfl
      refine wpAny_bind (wpAny_standAt (wpAny_bind (wpAny_of_eq (hs2 C _) (wpAny_bind (wpAny_holding (wpAny_pyIter_range hr (small_one (by decide) (by decide) (by omega) (by omega)) ?_))))))
      rw [hsize]
      have V := range_walks (prog := prog) (w := w) (I := h₄.objs.size) hh 0 (len i)
      have ap₂ : Apart h₀ L h₄.objs.size C D ((I, oI) :: news) :=
        ⟨(jN (C, oC) (.head _)).symm, (jN (D, lst ys) (.tail _ (.tail _ (.head _)))).symm, cd, fun a ha => ha.elim (fun q => q ▸ ⟨jL, jG⟩) (new a), fun p hp => (List.mem_cons.mp hp).elim
          (fun q => q ▸ ⟨jN (I, oI) (.tail _ (.head _)), ap.ic, ap.idd⟩) fun q => ⟨jN p (.tail _ (.tail _ (.tail _ q))), (ap.off p q).2⟩⟩
      have inner : codeAny (model prog w) A (.compLoop (Two elt (.Name x px) i1 (.Name y py) i2 scope pos) 1 (.ref h₄.objs.size) (.ref D) (compEnvC scope cl C env))
          (fun r s' => r = .ok .next ∧ Between h₀ L m s₁ C D ((I, oI) :: news) (fun _ => True) (J (i + 1) 0) s') { s₁ with heap := h₄.push { cls := .type "range_iterator", data := .fields #[rawInt 0, rawInt (len i : Int), rawInt 1] }, toks := tk₄ } := by
        refine level (J := J i) (Kp := fun k => k x = some v) V ap₂ (fun q => ap₂.ic (List.mem_singleton.mp q).symm) (fun _ _ st => ⟨_, st⟩) (fun j h h' o st e e' kp N' => range_st j h h' o _ st e e' kp N' trivial)
          hy hkind (fun k u hk => (if_neg hyx).trans hk) (turn1_eq ..) (by simpa using it₅) ⟨_, _, ys, k, rfl, F₄.keeps grow, nsC.ns (N₅ _ (.head _)).1, hkx, fun q hq => N₅ q ?_, hJ⟩ ?_ ?_
        · rcases List.mem_cons.mp hq with q | q
          · exact q ▸ .tail _ (.tail _ (.head _))
          · exact (List.mem_cons.mp q).elim (fun z => z ▸ .tail _ (.head _)) fun z => .tail _ (.tail _ (.tail _ z))
        · rintro j _ oJ oC' k' ys' h₆ tk₆ hj ⟨t, rfl⟩ hJ' nsC' hkx' hky F₆ N₆
          rw [Int.zero_add] at hky
          refine wpAny_bind (wpAny_bind (wpAny_mono (tE i v j t C oC' k' ys' h₆ tk₆ _ hv hj hJ' nsC' hkx' hky F₆ N₆) (fun u s₇ hu => wpAny_bind ?_) fun _ _ z => z.elim))
          obtain ⟨h₇, tk₇, rfl, F₇, N₇, hJ₇⟩ := hu
          refine append_at (hsz := by show ys'.toArray.size ≤ sizeLine; rw [List.size_toArray]; exact hsz _ _ _ hJ') (N₇ (D, lst ys') (.tail _ (.tail _ (.head _)))).1 fun h₈ same hD => ?_
          refine wpAny_pure (wpAny_pure ⟨rfl, h₈, tk₇, ys' ++ [u], k', rfl, F₇.change same nD.1 nD.2, (nsC'.ns (N₇ (C, oC') (.head _)).1).sameBut same cd, hkx', ?_, hJ₇⟩)
          refine news_put (hD.trans (congrArg some (lst_snoc ys' u))) nD (news_same same (off_cons ap₂.idd fun p hp => (ap₂.off p hp).2.2) fun q hq => N₇ q ?_)
          exact (List.mem_cons.mp hq).elim (fun z => z ▸ .tail _ (.head _)) fun z => .tail _ (.tail _ (.tail _ z))
        · rintro s' ⟨h₆, tk₆, ys₆, k₆, rfl, F₆, ns₆, _, N₆, hJ₆⟩
          exact ⟨rfl, h₆, tk₆, ys₆, k₆, rfl, F₆, ns₆, trivial, N₆, hnext i v ys₆ hv hJ₆⟩
      refine wpAny_bind (wpAny_runOwn (codeAny_mono (start1 inner fun Q' q => V.self 0 _ _ _ (by simpa using it₅) q) ?_))
      rintro r s₅ ⟨rfl, b₅⟩
      exact wpAny_pure ⟨rfl, b₅⟩
    · rintro s' ⟨h₂, tk₂, ys, k, rfl, F₂, ns₂, _, N₂, hJ⟩
      exact ⟨k, ns₂, fun h' same => hfin ys hJ D h' tk₂ (F₂.change same nC.1 nC.2) (news_same same (off_cons cd.symm fun p hp => (ap.off p hp).2.1) N₂) (Off3.one (Off3.of ap.off))⟩
  exact codeAny_compStart_list loop (W.self 0 _ _ _ hst loop)
end
end Mine
end

section
open PySem PySem.W PyProof.Rows PySem.Calls
set_option maxRecDepth 100000
namespace Mine
def Word.text (d : Word) : Str := Txt.join "" [d.a, d.b, d.c]
def Word.ok (d : Word) : Prop := d.a ∈ pieces ∧ d.b ∈ pieces ∧ d.c ∈ pieces
theorem getD_mem {α : Type} {l : List α} {i : Nat} {z : α} (h : i < l.length) : l.getD i z ∈ l := by
  rw [List.getD_eq_getElem?_getD, List.getElem?_eq_getElem h]
  exact List.getElem_mem h
theorem wordOf_ok (x : Int) : (wordOf x).ok := by
  have h := word_bounds x
  have e : pieces.length = 8 := rfl
  exact ⟨getD_mem (by omega), getD_mem (by omega), getD_mem (by omega)⟩
/-- what holds of all words -/
theorem word_all (P : Str → Str → Str → Bool) (h : (pieces.all fun a => pieces.all fun b => pieces.all fun c => P a b c) = true) {d : Word} (hd : d.ok) : P d.a d.b d.c = true := by
  rw [List.all_eq_true] at h
  have h1 := h _ hd.1
  rw [List.all_eq_true] at h1
  have h2 := h1 _ hd.2.1
  rw [List.all_eq_true] at h2
  exact h2 _ hd.2.2
theorem word_joinOk {d : Word} (hd : d.ok) : JoinOk "" [d.a, d.b, d.c] = true := word_all (fun a b c => JoinOk "" [a, b, c]) (by decide +kernel) hd
theorem word_len {d : Word} (hd : d.ok) : d.text.length ≤ 9 := by
  have := word_all (fun a b c => decide ((Txt.join "" [a, b, c]).length ≤ 9)) (by decide +kernel) hd
  exact of_decide_eq_true this
theorem piece_len {a : Str} (h : a ∈ pieces) : a.length ≤ 3 := by
  have : (pieces.all fun a => decide (a.length ≤ 3)) = true := by decide +kernel
  rw [List.all_eq_true] at this
  simpa using this a h
theorem word_text {d : Word} (hd : d.ok) : d.text = d.a ++ d.b ++ d.c := by
  have := word_all (fun a b c => Txt.join "" [a, b, c] == a ++ b ++ c) (by decide +kernel) hd
  exact eq_of_beq this
def words (ns : List Int) : List Word := ([321, 261, 97] ++ ns.take 4).map wordOf
theorem words_ok {ns : List Int} {d : Word} (h : d ∈ words ns) : d.ok := by
  obtain ⟨x, _, rfl⟩ := List.mem_map.mp h
  exact wordOf_ok x
theorem words_len (ns : List Int) : 3 ≤ (words ns).length ∧ (words ns).length ≤ 7 := by
  simp [words]
  omega
theorem texts_turns (ns : List Int) : (((words ns).map Word.text).flatMap turns).length < 64 := by
  have e : (words ns).map Word.text = ([321, 261, 97].map fun x => (wordOf x).text) ++ ((ns.take 4).map fun x => (wordOf x).text)   := by rw [words, List.map_map, List.map_append]; rfl
  rw [e, List.flatMap_append, List.length_append]
  have h1 : (([321, 261, 97].map fun x => (wordOf x).text).flatMap turns).length = 14 := by decide +kernel
  have h2 : ∀ l : List Int, ((l.map fun x => (wordOf x).text).flatMap turns).length ≤ 10 * l.length := by
    intro l
    induction l with
    | nil => simp
    | cons x r ih =>
      have := word_len (wordOf_ok x)
      simp only [List.map_cons, List.flatMap_cons, List.length_append, List.length_cons]
      have e2 : (turns (wordOf x).text).length = (wordOf x).text.length + 1 := by simp [turns]
      omega
  have := h2 (ns.take 4)
  have h3 : (ns.take 4).length ≤ 4 := by simp; omega
  omega
end Mine
end

section
open PySem PySem.W PyProof.Rows PySem.Calls
set_option maxRecDepth 100000
namespace Mine
theorem LObj {h : Heap} {a : Addr} {arr : Array Value} (hl : h.IsList a arr) : ∃ o, h.get? a = some o ∧ o.cls = .type "list" ∧ ∃ n, o.data = .seq arr n := hl
theorem mem5 {α : Type} {q a b c d e : α} {l : List α} (h : q ∈ l) : q ∈ a :: b :: c :: d :: e :: l := .tail _ (.tail _ (.tail _ (.tail _ (.tail _ h))))
theorem mem5_mono {α : Type} {q a b c d e : α} {l r : List α} (h : q ∈ a :: b :: c :: d :: e :: l) : q ∈ a :: b :: c :: d :: e :: (l ++ r) := by
  simp only [List.mem_cons, List.mem_append] at h ⊢
  rcases h with h | h | h | h | h | h <;> simp [h]
theorem mem5_cases {α : Type} {q a b c d e : α} {l : List α} (h : q ∈ a :: b :: c :: d :: e :: l) : q = a ∨ q = b ∨ q = c ∨ q = d ∨ q = e ∨ q ∈ l := by simpa using h
theorem mem_5_6 {α : Type} {q a b c d e f : α} (h : q ∈ [a, b, c, d, e]) : q ∈ [a, b, c, d, e, f] := by
  simp only [List.mem_cons, List.not_mem_nil, or_false] at h ⊢
  rcases h with h | h | h | h | h <;> simp [h]
theorem off1_mem {D : Addr} {l : List (Addr × Obj)} (x : LCg.Off1 D l) : ∀ p ∈ l, p.1 ≠ D := by
  induction l with
  | nil => intro p h; cases h
  | cons q r ih =>
    intro p h
    rcases List.mem_cons.mp h with rfl | h
    · exact x.1
    · exact ih x.2 p h
theorem off_new {h : Heap} {a b : Addr} {o : Obj} (hb : h.get? b = some o) (ha : h.get? a = none) : a ≠ b := fun e => by rw [e, hb] at ha; cases ha

theorem news_fresh {g h h' : Heap} {L : Addr} {m : Str → Option Value} {l : List (Addr × Obj)} (F : Fr g L h m) (hl : ∀ q ∈ l, h'.get? q.1 = some q.2 ∧ h.get? q.1 = none) : News g L h' l := fun q hq => by
  refine ⟨(hl q hq).1, ?_, ?_⟩
  · obtain ⟨o, _, _, ho, _⟩ := F.ns
    exact off_new ho (hl q hq).2
  · cases e : g.get? q.1 with
    | none => rfl
    | some o => have := F.keep _ _ e; rw [(hl q hq).2] at this; cases this

section
variable {prog : Program} {w : World} {A : Around} {h₀ : Heap} {L : Addr} {m : Str → Option Value} {env : Env} {ct elt : Expr} {x : Str} {scope : Scope} {cl : List (Str × Addr)} {Fin : Shared → List Value → List (Addr × Obj) → Prop} {ax : Addr} {its : List Value} {news : List (Addr × Obj)} {s₁ : Shared}
theorem srcU (hh : A.handled = none) (F : Fr h₀ L s₁.heap m) (N : News h₀ L s₁.heap news) (S : LCg.SrcAt h₀ ax its.toArray news) (hsz : its.length < 1000)
    (h : ∀ g, LCg.CompRest prog w A h₀ L m env elt x scope cl { s₁ with heap := g } (LCg.SrcAt h₀ ax its.toArray) (fun i v => its.toArray[i]? = some v) (Fin { s₁ with heap := g }) its.toArray.size 0 [] news) :
    LCg.CompSrc prog w A h₀ L m env elt x scope cl Fin (.ref ax) s₁ := .inl ⟨ax, its.toArray, news, rfl, hh, F, N, S, by rw [sizeLine_eq]; simp; omega, fun _ ⟨g, e⟩ => e ▸ h g⟩
theorem srcT (hh : A.handled = none) (F : Fr h₀ L s₁.heap m) (N : News h₀ L s₁.heap news) (S : LCg.SrcAt h₀ ax its.toArray news) (hsz : its.length < 1000)
    (h : ∀ g, LCt.CompRestT prog w A h₀ L m env ct elt x scope cl { s₁ with heap := g } (LCg.SrcAt h₀ ax its.toArray) (fun i v => its.toArray[i]? = some v) (Fin { s₁ with heap := g }) its.toArray.size 0 [] news) :
    LCt.CompSrcT prog w A h₀ L m env ct elt x scope cl Fin (.ref ax) s₁ := .inl ⟨ax, its.toArray, news, rfl, hh, F, N, S, by rw [sizeLine_eq]; simp; omega, fun _ ⟨g, e⟩ => e ▸ h g⟩
end

theorem word_join {prog : Program} {w : World} {A : Around} {E : Value → Shared → Prop} {s : Shared} {q : Addr × Obj} {d : Word} {t : Tok} {Q : Value → Shared → Prop} (hg : s.heap.get? q.1 = some q.2) (hd : WordAt q d) (ho : d.ok)
    (h : ∀ t' k, Q (.str d.text t') { s with toks := k }) : wpAny (model prog w) A (call (.builtin "str.join") [.str "" t, .ref q.1]) Q E s := by
  obtain ⟨t, u, v, n, e⟩ := hd
  exact SC.join (l := [(d.a, t), (d.b, u), (d.c, v)]) ⟨q.2, hg, by rw [e], n, by rw [e]; rfl⟩ rfl (word_joinOk ho) h

section
variable {prog : Program} {w : World} {A : Around} {E : Value → Shared → Prop} {s : Shared} {Q : Value → Shared → Prop} {value slice : Expr} {u : Tok}
theorem word_list {h : Heap} {q : Addr × Obj} {d : Word} (hg : h.get? q.1 = some q.2) (hd : WordAt q d) : ∃ vs, h.IsList q.1 (List.toArray vs) ∧ StrsAre vs [d.a, d.b, d.c] := by
  obtain ⟨t, u, v, n, e⟩ := hd
  exact ⟨[.str d.a t, .str d.b u, .str d.c v], ⟨q.2, hg, by rw [e], n, by rw [e]⟩, .cons _ _ (.cons _ _ (.cons _ _ .nil))⟩
theorem word_item {q : Addr × Obj} {d : Word} (hg : s.heap.get? q.1 = some q.2) (hd : WordAt q d) {k : Int} (h0 : 0 ≤ k) (h3 : k < 3) (h : ∀ t', Q (.str ([d.a, d.b, d.c].getD k.toNat Str.empty) t') s)
    (hs : subscripted slice false (.ref q.1) (.int k u) = operate [.ref q.1, .int k u] (getItem (.ref q.1) (.int k u)) := by with_unfolding_all rfl) (hgo : ∀ r, letTemporaryGo value (.ref q.1) r = pure () := by intro _; with_unfolding_all rfl) :
    wpAny (model prog w) A (subscriptTail value slice (.ref q.1) (.int k u)) Q E s := by
  obtain ⟨vs, hl, hS⟩ := word_list hg hd
  exact item_strsA hl hS h0 (by simpa using h3) (by omega) h hs hgo
theorem word_item0 {q : Addr × Obj} {d : Word} (hg : s.heap.get? q.1 = some q.2) (hd : WordAt q d) (h : ∀ t', Q (.str d.a t') s)
    (hs : subscripted slice false (.ref q.1) (.int 0 u) = operate [.ref q.1, .int 0 u] (getItem (.ref q.1) (.int 0 u)) := by with_unfolding_all rfl) (hgo : ∀ r, letTemporaryGo value (.ref q.1) r = pure () := by intro _; with_unfolding_all rfl) :
    wpAny (model prog w) A (subscriptTail value slice (.ref q.1) (.int 0 u)) Q E s := word_item hg hd (by decide) (by decide) h hs hgo
theorem word_item1 {q : Addr × Obj} {d : Word} (hg : s.heap.get? q.1 = some q.2) (hd : WordAt q d) (h : ∀ t', Q (.str d.b t') s)
    (hs : subscripted slice false (.ref q.1) (.int 1 u) = operate [.ref q.1, .int 1 u] (getItem (.ref q.1) (.int 1 u)) := by with_unfolding_all rfl) (hgo : ∀ r, letTemporaryGo value (.ref q.1) r = pure () := by intro _; with_unfolding_all rfl) :
    wpAny (model prog w) A (subscriptTail value slice (.ref q.1) (.int 1 u)) Q E s := word_item hg hd (by decide) (by decide) h hs hgo
theorem word_item2 {q : Addr × Obj} {d : Word} (hg : s.heap.get? q.1 = some q.2) (hd : WordAt q d) (h : ∀ t', Q (.str d.c t') s)
    (hs : subscripted slice false (.ref q.1) (.int 2 u) = operate [.ref q.1, .int 2 u] (getItem (.ref q.1) (.int 2 u)) := by with_unfolding_all rfl) (hgo : ∀ r, letTemporaryGo value (.ref q.1) r = pure () := by intro _; with_unfolding_all rfl) :
    wpAny (model prog w) A (subscriptTail value slice (.ref q.1) (.int 2 u)) Q E s := word_item hg hd (by decide) (by decide) h hs hgo
theorem words_item {W : Addr} {os : List (Addr × Obj)} (hl : s.heap.IsList W (os.map fun q => Value.ref q.1).toArray) {k : Nat} {q : Addr × Obj} (hq : os[k]? = some q) (hos : os.length < 1000) (h : Q (.ref q.1) s)
    (hs : subscripted slice false (.ref W) (.int (k : Int) u) = operate [.ref W, .int (k : Int) u] (getItem (.ref W) (.int (k : Int) u)) := by with_unfolding_all rfl) (hgo : ∀ r, letTemporaryGo value (.ref W) r = pure () := by intro _; with_unfolding_all rfl) :
    wpAny (model prog w) A (subscriptTail value slice (.ref W) (.int (k : Int) u)) Q E s := by
  have hk := (List.getElem?_eq_some_iff.mp hq).1
  exact item_listL hl (by omega) (by omega) (by rw [Int.toNat_natCast, List.getElem?_map, hq]; rfl) h hs hgo
theorem words_prev {W : Addr} {os : List (Addr × Obj)} (hl : s.heap.IsList W (os.map fun q => Value.ref q.1).toArray) {k : Nat} (hk : k < os.length) (hos : os.length < 1000) (h : ∀ (q : Addr × Obj) (j : Nat), os[j]? = some q → Q (.ref q.1) s)
    (hs : subscripted slice false (.ref W) (.int ((k : Int) - 1) u) = operate [.ref W, .int ((k : Int) - 1) u] (getItem (.ref W) (.int ((k : Int) - 1) u)) := by with_unfolding_all rfl) (hgo : ∀ r, letTemporaryGo value (.ref W) r = pure () := by intro _; with_unfolding_all rfl) :
    wpAny (model prog w) A (subscriptTail value slice (.ref W) (.int ((k : Int) - 1) u)) Q E s := by
  by_cases h0 : k = 0
  · subst h0
    have hj : os[os.length - 1]? = some (os[os.length - 1]'(by omega)) := List.getElem?_eq_getElem (by omega)
    refine kde_neg (j := os.length - 1) hl (by omega) (by omega) ?_ (by rw [List.getElem?_map, hj]; rfl) (h _ _ hj) hs
    rw [List.length_map]
    obtain ⟨n, hn⟩ : ∃ n, os.length = n + 1 := ⟨os.length - 1, by omega⟩
    rw [hn]
    exact seqIndex_last n
  · have hj : os[k - 1]? = some (os[k - 1]'(by omega)) := List.getElem?_eq_getElem (by omega)
    refine item_listL hl (by omega) (by omega) ?_ (h _ _ hj) hs hgo
    have e : ((k : Int) - 1).toNat = k - 1 := by omega
    rw [e, List.getElem?_map, hj]
    rfl
end

/-- the table of _law_behind, as the ledger bears it -/
def TabR (ps : Array Value) (rest : List (Addr × Obj)) : Prop := ps = #[] ∨ ∃ c' o, ps = #[rawInt lamPos.line, rawInt lamPos.col, .ref c'] ∧ (c', o) ∈ rest ∧ CodeObj o lamQual
theorem TabR.ok {g h : Heap} {L : Addr} {ps : Array Value} {rest : List (Addr × Obj)} (x : TabR ps rest) (N : News g L h rest) (f : ∀ p ∈ rest, p.1 ≠ 64) : TabOK lamPos lamQual ps (h.hide 64) := by
  rcases x with e | ⟨c', o, e, hm, vs, t, d1, d2⟩
  · exact .inl e
  · exact .inr ⟨c', e, c', o, vs, t, rfl, (Heap.hide_ne _ (f _ hm)).trans (N _ hm).1, d1, d2⟩
theorem TabR.mono {ps : Array Value} {r r' : List (Addr × Obj)} (x : TabR ps r) (h : ∀ q ∈ r, q ∈ r') : TabR ps r' := by
  rcases x with e | ⟨c', o, e, hm, hc⟩
  · exact .inl e
  · exact .inr ⟨c', o, e, h _ hm, hc⟩
/-- the tail of the ledger holds what stands, and lies off some addresses -/
structure Tail (av : List Addr) (R : List (Addr × Obj)) (ps : Array Value) (rest : List (Addr × Obj)) : Prop where
  sub : ∀ q ∈ R, q ∈ rest
  off : ∀ p ∈ rest, p.1 ∉ av
  tab : TabR ps rest
end Mine
end

section
open PySem PySem.W PyProof.Rows PySem.Calls StrLaws Builtin.Str
set_option maxRecDepth 100000
namespace Mine
theorem cps_app (a b : PySem.Str) : (a ++ b).cps.toList = a.cps.toList ++ b.cps.toList := by
  show (a.cps ++ b.cps).toList = _
  simp
theorem cps_len (a : PySem.Str) : a.cps.toList.length = a.length := by simp [PySem.Str.length]

/-- the first place where a text occurs, if any -/
theorem occ_at (x y : PySem.Str) (lo hi : Nat) :
    (occurrences x y lo hi 1 = [] ∧ ∀ i, lo ≤ i → ¬ StrLaws.At x y hi i) ∨
    ∃ i r, occurrences x y lo hi 1 = i :: r ∧ lo ≤ i ∧ StrLaws.At x y hi i ∧ ∀ k, lo ≤ k → k < i → ¬ StrLaws.At x y hi k := by
  obtain ⟨none', away⟩ | ⟨pre, i, post, cut, head, here, away⟩ := occ_first x y hi 1 (Nat.le_refl 1) (List.range' lo (hi + 1 - lo)) lo (by simp only [List.mem_range'_1]; omega)
  · exact .inl ⟨by rw [occ_eq, none'], fun k hk at' => away k (List.mem_range'_1.mpr ⟨hk, by have := at'.1; omega⟩) at'⟩
  · obtain ⟨hi', before⟩ := range'_split_from cut
    rw [← Array.getElem?_toList, ← List.head?_eq_getElem?, List.head?_eq_some_iff] at head
    obtain ⟨r, e⟩ := head
    exact .inr ⟨i, r, by rw [occ_eq, e], hi', here, fun k h1 h2 => away k (before k h1 h2)⟩

/-- a text stands at a place -/
def AtL (X Y : List Nat) (hi i : Nat) : Prop := i + Y.length ≤ hi ∧ (X.drop i).take Y.length = Y
theorem at_iff (x y : PySem.Str) (hi i : Nat) : StrLaws.At x y hi i ↔ AtL x.cps.toList y.cps.toList hi i := by
  unfold StrLaws.At AtL
  rw [subAt_eq, beq_iff_eq, cps_len]
theorem occ_ne (x y : PySem.Str) (lo hi : Nat) : (occurrences x y lo hi 1).isEmpty = false ↔ ∃ i, lo ≤ i ∧ AtL x.cps.toList y.cps.toList hi i := by
  rcases occ_at x y lo hi with ⟨e, hn⟩ | ⟨i, r, e, h1, h2, _⟩
  · rw [e]
    simp only [List.isEmpty_nil, Bool.true_eq_false, false_iff]
    rintro ⟨i, h1, h2⟩
    exact hn i h1 ((at_iff ..).mpr h2)
  · rw [e]
    simp only [List.isEmpty_cons, true_iff]
    exact ⟨i, h1, (at_iff ..).mp h2⟩

/-- the pieces stand one behind the other -/
def Ex (X : List Nat) (hi : Nat) : List PySem.Str → Nat → Prop
  | [], _ => True
  | w :: r, st => ∃ i, st ≤ i ∧ AtL X w.cps.toList hi i ∧ Ex X hi r (i + w.length)
theorem Ex.mono {X : List Nat} {hi : Nat} : ∀ {ws : List PySem.Str} {a b : Nat}, a ≤ b → Ex X hi ws b → Ex X hi ws a
  | [], _, _, _, _ => trivial
  | _ :: _, _, _, h, ⟨i, h1, h2⟩ => ⟨i, Nat.le_trans h h1, h2⟩
theorem scan_iff (x : PySem.Str) (hi : Nat) : ∀ (ws : List PySem.Str) (st : Nat), scan x hi ws st = true ↔ Ex x.cps.toList hi ws st
  | [], st => by simp [scan, Ex]
  | w :: r, st => by
    unfold scan Ex
    rcases occ_at x w st hi with ⟨e, hn⟩ | ⟨i, l, e, h1, h2, h3⟩
    · rw [e]
      simp only [Bool.false_eq_true, false_iff]
      rintro ⟨i, a, b, _⟩
      exact hn i a ((at_iff ..).mpr b)
    · rw [e]
      simp only
      rw [scan_iff x hi r]
      constructor
      · exact fun h => ⟨i, h1, (at_iff ..).mp h2, h⟩
      · rintro ⟨j, a, b, c⟩
        have hij : i ≤ j := Nat.not_lt.mp fun hlt => h3 j a hlt ((at_iff ..).mpr b)
        exact Ex.mono (by omega) c
theorem ex_nil_head {X : List Nat} {hi st : Nat} {w : PySem.Str} {r : List PySem.Str} (hw : w.length = 0) (hst : st ≤ hi) : Ex X hi (w :: r) st ↔ Ex X hi r st := by
  have hl : w.cps.toList = [] := List.eq_nil_of_length_eq_zero (by rw [cps_len, hw])
  constructor
  · rintro ⟨i, h1, _, h3⟩
    exact Ex.mono (by omega) h3
  · intro h
    refine ⟨st, Nat.le_refl _, ?_, by rw [hw]; exact h⟩
    rw [hl]
    exact ⟨by simpa using hst, by simp⟩
theorem ex_nil_tail {X : List Nat} {hi : Nat} {w : PySem.Str} (hw : w.length = 0) : ∀ {ms : List PySem.Str} {st : Nat}, st ≤ hi → (Ex X hi (ms ++ [w]) st ↔ Ex X hi ms st)
  | [], st, h => by
    show Ex X hi (w :: []) st ↔ _
    rw [ex_nil_head hw h]
  | m :: r, st, h => by
    show (∃ i, st ≤ i ∧ AtL X m.cps.toList hi i ∧ Ex X hi (r ++ [w]) (i + m.length)) ↔ ∃ i, st ≤ i ∧ AtL X m.cps.toList hi i ∧ Ex X hi r (i + m.length)
    constructor
    · rintro ⟨i, h1, h2, h3⟩
      exact ⟨i, h1, h2, (ex_nil_tail hw (by have := h2.1; rw [cps_len] at this; exact this)).mp h3⟩
    · rintro ⟨i, h1, h2, h3⟩
      exact ⟨i, h1, h2, (ex_nil_tail hw (by have := h2.1; rw [cps_len] at this; exact this)).mpr h3⟩
theorem scan_pads (x f l : PySem.Str) (ms : List PySem.Str) {st hi : Nat} (h : st ≤ hi) : scan x hi ((if f.length = 0 then [f] else []) ++ ms ++ (if l.length = 0 then [l] else [])) st = true ↔ Ex x.cps.toList hi ms st := by
  rw [scan_iff]
  have h1 : ∀ a : List PySem.Str, Ex x.cps.toList hi (a ++ (if l.length = 0 then [l] else [])) st ↔ Ex x.cps.toList hi a st := by
    intro a
    by_cases hl : l.length = 0
    · rw [if_pos hl]; exact ex_nil_tail hl h
    · rw [if_neg hl, List.append_nil]
  rw [h1]
  by_cases hf : f.length = 0
  · rw [if_pos hf]; exact ex_nil_head hf h
  · rw [if_neg hf]; rfl

theorem told_cps {f l y : PySem.Str} (h : l.length ≤ y.length) : (toldS f l y).cps.toList = (y.cps.toList.drop f.length).take (y.length - l.length - f.length) := by
  unfold toldS
  have e : (y.length : Int) - (l.length : Int) = ((y.length - l.length : Nat) : Int) := by omega
  rw [e, sl_ss]
theorem due_told (f l y : PySem.Str) : dueS f l y = toldS f l y := by
  unfold dueS toldS
  congr 2
  omega
theorem ends_iff (f l y : PySem.Str) : (Txt.startswith y f && Txt.endswith y l && decide (f.length + l.length ≤ y.length)) = (f ++ toldS f l y ++ l == y) := by
  rw [Bool.eq_iff_iff, beq_iff_eq]
  simp only [Bool.and_eq_true, decide_eq_true_eq, Txt.startswith, Txt.endswith, subAt_eq, beq_iff_eq, Nat.zero_add, List.drop_zero]
  have hy := cps_len y
  have hf := cps_len f
  have hl := cps_len l
  constructor
  · rintro ⟨⟨⟨_, h1⟩, ⟨_, h2⟩⟩, h3⟩
    apply str_eq
    rw [cps_app, cps_app, told_cps (by omega)]
    have h2' : y.cps.toList.drop (y.length - l.length) = l.cps.toList := by
      rw [← h2, List.take_of_length_le (by rw [List.length_drop]; omega)]
    conv => lhs; rw [← h1, ← h2']
    have e1 : (y.cps.toList.take f.length) ++ ((y.cps.toList.drop f.length).take (y.length - l.length - f.length)) = y.cps.toList.take (y.length - l.length) := by
      rw [← List.take_add]
      congr 1
      omega
    rw [e1, List.take_append_drop]
  · intro h
    have h1 : (f ++ toldS f l y ++ l).cps.toList = y.cps.toList := by rw [h]
    rw [cps_app, cps_app] at h1
    have h2 := congrArg List.length h1
    simp only [List.length_append] at h2
    refine ⟨⟨⟨by omega, ?_⟩, ⟨by omega, ?_⟩⟩, by omega⟩
    · rw [← h1, List.append_assoc, List.take_left' hf]
    · rw [← h1, List.drop_left' (by rw [List.length_append]; omega), List.take_of_length_le (by omega)]

theorem at_gap {F G E W : List Nat} {i : Nat} (hi : F.length ≤ i) : AtL (F ++ G ++ E) W (F.length + G.length) i ↔ AtL G W G.length (i - F.length) := by
  unfold AtL
  by_cases hb : i + W.length ≤ F.length + G.length
  · have e : ((F ++ G ++ E).drop i).take W.length = (G.drop (i - F.length)).take W.length := by
      rw [List.append_assoc, List.drop_append, List.drop_of_length_le hi, List.nil_append, List.drop_append, List.take_append]
      have : W.length - (G.drop (i - F.length)).length = 0 := by rw [List.length_drop]; omega
      rw [this, List.take_zero, List.append_nil]
    rw [e]
    constructor
    · exact fun h => ⟨by omega, h.2⟩
    · exact fun h => ⟨hb, h.2⟩
  · constructor
    · exact fun h => absurd h.1 hb
    · exact fun h => absurd h.1 (by omega)
theorem ex_gap {F G E : List Nat} : ∀ {ms : List PySem.Str} {st : Nat}, Ex (F ++ G ++ E) (F.length + G.length) ms (F.length + st) ↔ Ex G G.length ms st
  | [], _ => Iff.rfl
  | w :: r, st => by
    constructor
    · rintro ⟨i, h1, h2, h3⟩
      refine ⟨i - F.length, by omega, (at_gap (by omega)).mp h2, ?_⟩
      have e : i + w.length = F.length + (i - F.length + w.length) := by omega
      rw [e] at h3
      exact ex_gap.mp h3
    · rintro ⟨i, h1, h2, h3⟩
      refine ⟨F.length + i, by omega, (at_gap (by omega)).mpr (by rw [Nat.add_sub_cancel_left]; exact h2), ?_⟩
      have e : F.length + i + w.length = F.length + (i + w.length) := by omega
      rw [e]
      exact ex_gap.mpr h3
theorem told_gen (P : PySem.Str → Bool) (y f l : PySem.Str) (ms : List PySem.Str) (hP : ∀ gap : PySem.Str, P gap = true ↔ Ex gap.cps.toList gap.length ms 0) : toldF f ms l f l y = (dueF f l y).filter P := by
  unfold toldF dueF
  rw [due_told]
  cases hc : (f ++ toldS f l y ++ l == y) with
  | false =>
    have hne : ellM f ms l y = false := by unfold ellM; rw [ends_iff, hc]; rfl
    rw [hne]
    rfl
  | true =>
    have he := eq_of_beq hc
    have h1 : (f ++ toldS f l y ++ l).cps.toList = y.cps.toList := by rw [he]
    rw [cps_app, cps_app] at h1
    have h2 := congrArg List.length h1
    simp only [List.length_append, cps_len] at h2
    have hs : ellM f ms l y = true ↔ P (toldS f l y) = true := by
      unfold ellM
      rw [ends_iff, hc, Bool.true_and, scan_pads _ _ _ _ (by omega), hP, ← h1]
      have e1 : y.length - l.length = f.cps.toList.length + (toldS f l y).cps.toList.length := by rw [cps_len, cps_len]; omega
      have e2 : f.length = f.cps.toList.length + 0 := by rw [cps_len]; rfl
      rw [e1, e2, ex_gap, cps_len]
    simp only [if_true, Option.filter]
    by_cases hb : P (toldS f l y) = true
    · rw [if_pos (hs.mpr hb), if_pos hb]
    · rw [if_neg (fun h => hb (hs.mp h)), if_neg hb]
theorem told1 (y f l : PySem.Str) : toldF f [] l f l y = (dueF f l y).filter fun _ => true := told_gen _ y f l [] (fun gap => by simp [Ex])
theorem told2 (y f i l : PySem.Str) : toldF f [i] l f l y = (dueF f l y).filter fun gap => !(occurrences gap i 0 gap.length 1).isEmpty := told_gen _ y f l [i] (fun gap => by
  rw [Bool.not_eq_true', occ_ne]
  simp [Ex])
theorem at_drop {G W : List Nat} {p q : Nat} (hp : p ≤ G.length) : AtL (G.drop p) W (G.drop p).length q ↔ AtL G W G.length (p + q) := by
  unfold AtL
  rw [List.drop_drop, List.length_drop]
  constructor
  · exact fun h => ⟨by have := h.1; omega, h.2⟩
  · exact fun h => ⟨by have := h.1; omega, h.2⟩
theorem holds_iff (gap i j : PySem.Str) : holdsL gap i j = true ↔ Ex gap.cps.toList gap.length [i, j] 0 := by
  have hg := cps_len gap
  have hi := cps_len i
  have hb : ∀ p, holdsB gap i j p = true ↔ ((gap.cps.toList.drop p).take i.length = i.cps.toList ∧ ∃ q, AtL (gap.cps.toList.drop (p + i.length)) j.cps.toList (gap.cps.toList.drop (p + i.length)).length q) := by
    intro p
    unfold holdsB
    have e : (p : Int) + (i.length : Int) = ((p + i.length : Nat) : Int) := by omega
    rw [e, Bool.and_eq_true, beq_iff_eq, Bool.not_eq_true', occ_ne, ← cps_len (Txt.slice gap (some ((p + i.length : Nat) : Int)) none), sl_from]
    refine and_congr ⟨fun h => ?_, fun h => ?_⟩ ⟨fun ⟨q, _, h⟩ => ⟨q, h⟩, fun ⟨q, h⟩ => ⟨q, Nat.zero_le _, h⟩⟩
    · have h' := congrArg (fun z : PySem.Str => z.cps.toList) h
      rw [sl_ss, Nat.add_sub_cancel_left] at h'
      exact h'
    · apply str_eq
      rw [sl_ss, Nat.add_sub_cancel_left]
      exact h
  unfold holdsL
  rw [List.any_eq_true]
  constructor
  · rintro ⟨p, hp, h⟩
    obtain ⟨h1, q, h2⟩ := (hb p).mp h
    have hp' : p ≤ gap.length := by have := List.mem_range.mp hp; omega
    have hl := congrArg List.length h1
    simp only [List.length_take, List.length_drop] at hl
    have hpi : p + i.length ≤ gap.length := by omega
    refine ⟨p, Nat.zero_le _, ⟨by omega, by rw [hi]; exact h1⟩, p + i.length + q, by omega, ?_, trivial⟩
    rw [at_drop (by omega), hg] at h2
    exact h2
  · rintro ⟨p, _, h1, q, hq, h2, _⟩
    have h1l := h1.1
    refine ⟨p, List.mem_range.mpr (by omega), (hb p).mpr ⟨by have := h1.2; rw [hi] at this; exact this, q - (p + i.length), ?_⟩⟩
    rw [at_drop (by omega), hg]
    have e : p + i.length + (q - (p + i.length)) = q := by omega
    rw [e]
    exact h2
theorem told3 (y f i j l : PySem.Str) : toldF f [i, j] l f l y = (dueF f l y).filter fun gap => holdsL gap i j := told_gen _ y f l [i, j] (fun gap => holds_iff gap i j)
end Mine
end

section
open PySem PySem.W PyProof.Rows PySem.Calls StrLaws Builtin.Str
set_option maxRecDepth 100000
namespace Mine
def dots : PySem.Str := "..."
theorem dots_cps : dots.cps.toList = [46, 46, 46] := by decide +kernel
theorem dots_len : dots.length = 3 := by decide +kernel
def glueL : List PySem.Str → List Nat
  | [] => []
  | [l] => l.cps.toList
  | f :: r => f.cps.toList ++ [46, 46, 46] ++ glueL r
theorem piece_in {F : PySem.Str} (h : F ∈ pieces) : ∀ t, t < F.length → ((F.cps.toList ++ [46, 46, 46]).drop t).take 3 ≠ [46, 46, 46] := by
  have h0 : (pieces.all fun F => (List.range F.length).all fun t => decide (((F.cps.toList ++ [46, 46, 46]).drop t).take 3 ≠ [46, 46, 46])) = true := by decide +kernel
  rw [List.all_eq_true] at h0
  have h1 := h0 F h
  rw [List.all_eq_true] at h1
  exact fun t ht => of_decide_eq_true (h1 t (List.mem_range.mpr ht))
theorem piece_end {F : PySem.Str} (h : F ∈ pieces) (t : Nat) : (F.cps.toList.drop t).take 3 ≠ [46, 46, 46] := by
  have h0 : (pieces.all fun F => decide (F.cps.toList.take 3 ≠ [46, 46, 46]) && decide (F.length ≤ 3)) = true := by decide +kernel
  rw [List.all_eq_true] at h0
  have h1 := h0 F h
  rw [Bool.and_eq_true] at h1
  have h2 := of_decide_eq_true h1.1
  have h3 := of_decide_eq_true h1.2
  have hl := cps_len F
  intro e
  cases t with
  | zero => exact h2 e
  | succ t =>
    have := congrArg List.length e
    simp only [List.length_take, List.length_drop, List.length_cons, List.length_nil] at this
    omega
theorem chain_parts {x : PySem.Str} : ∀ (ps : List PySem.Str) (P : List Nat) (cuts : List Nat) (a fin : Nat), ps ≠ [] → (∀ q ∈ ps, q ∈ pieces) → x.cps.toList = P ++ glueL ps → P.length = a → ChainG x dots x.length a cuts fin → (∀ k, fin ≤ k → ¬ StrLaws.At x dots x.length k) → partsFrom x dots.length a cuts = ps
  | [], _, _, _, _, h, _, _, _, _, _ => absurd rfl h
  | [l], P, cuts, a, fin, _, hq, hx, ha, hc, hn => by
    have hlp := hq l (.head _)
    have none : ∀ k, a ≤ k → ¬ StrLaws.At x dots x.length k := by
      intro k hk hA
      have h2 := ((at_iff ..).mp hA).2
      rw [dots_cps, hx] at h2
      have e : (P ++ glueL [l]).drop k = l.cps.toList.drop (k - a) := by
        rw [List.drop_append, List.drop_of_length_le (by omega), List.nil_append, ha]; rfl
      rw [e] at h2
      exact piece_end hlp _ h2
    cases cuts with
    | nil =>
      show [strSub x a x.length] = [l]
      congr 1
      apply str_eq
      rw [strSub_toList, hx, List.drop_append, List.drop_of_length_le (by omega), List.nil_append, ha, Nat.sub_self, List.drop_zero]
      have hlen := congrArg List.length hx
      rw [cps_len, List.length_append, ha] at hlen
      exact List.take_of_length_le (by omega)
    | cons c r => exact absurd hc.2.1 (none c hc.1)
  | f :: g :: r, P, cuts, a, fin, _, hq, hx, ha, hc, hn => by
    have hfp := hq f (.head _)
    have hfl := cps_len f
    have hfs : f.cps.size = f.length := rfl
    have hx' : x.cps.toList = P ++ (f.cps.toList ++ [46, 46, 46] ++ glueL (g :: r)) := hx
    have hlen := congrArg List.length hx'
    simp only [cps_len, List.length_append, List.length_cons, List.length_nil] at hlen
    have hdr : ∀ t, x.cps.toList.drop (a + t) = (f.cps.toList ++ [46, 46, 46] ++ glueL (g :: r)).drop t := by
      intro t
      rw [hx', List.drop_append, List.drop_of_length_le (by omega), List.nil_append]
      congr 1
      omega
    have hat : StrLaws.At x dots x.length (a + f.length) := by
      rw [at_iff, dots_cps]
      refine ⟨by simp; omega, ?_⟩
      rw [hdr, List.append_assoc, List.drop_left' hfl]
      rfl
    have hno : ∀ k, a ≤ k → k < a + f.length → ¬ StrLaws.At x dots x.length k := by
      intro k h1 h2 hA
      have h3 := ((at_iff ..).mp hA).2
      obtain ⟨t, rfl⟩ : ∃ t, k = a + t := ⟨k - a, by omega⟩
      rw [dots_cps, hdr] at h3
      have e : ((f.cps.toList ++ [46, 46, 46] ++ glueL (g :: r)).drop t).take 3 = ((f.cps.toList ++ [46, 46, 46]).drop t).take 3 := by
        rw [List.drop_append_of_le_length (by simp; omega), List.take_append_of_le_length (by simp; omega)]
      exact piece_in hfp t (by omega) (e ▸ h3)
    cases cuts with
    | nil =>
      have : fin = a := hc
      exact absurd hat (hn _ (by omega))
    | cons c rc =>
      have hca : c = a + f.length := by
        rcases Nat.lt_trichotomy c (a + f.length) with h | h | h
        · exact absurd hc.2.1 (hno c hc.1 h)
        · exact h
        · exact absurd hat (hc.2.2.1 _ (by omega) h)
      subst hca
      show strSub x a (a + f.length) :: partsFrom x dots.length (a + f.length + dots.length) rc = f :: g :: r
      have e1 : strSub x a (a + f.length) = f := by
        apply str_eq
        have h0 := hdr 0
        rw [Nat.add_zero] at h0
        rw [strSub_toList, h0, List.drop_zero, Nat.add_sub_cancel_left, List.append_assoc, List.take_left' hfl]
      rw [e1]
      congr 1
      refine chain_parts (g :: r) (P ++ (f.cps.toList ++ [46, 46, 46])) rc _ fin (by simp) (fun q hq' => hq q (.tail _ hq')) ?_ ?_ hc.2.2.2 hn
      · rw [hx']; simp only [List.append_assoc]
      · rw [dots_len]; simp; omega
theorem split_gen {x : PySem.Str} {f g : PySem.Str} {r : List PySem.Str} (hq : ∀ q ∈ f :: g :: r, q ∈ pieces) (hx : x.cps.toList = glueL (f :: g :: r)) : Txt.split x dots = f :: g :: r ∧ (occurrences x dots 0 x.length 1).isEmpty = false := by
  obtain ⟨fin, hc, hn⟩ := occ_tight x dots (by rw [dots_len]; decide)
  have hp := chain_parts (f :: g :: r) [] _ 0 fin (by simp) hq (by rw [hx]; rfl) rfl hc hn
  have hfl := cps_len f
  have hfs : f.cps.size = f.length := rfl
  have hx' : x.cps.toList = f.cps.toList ++ [46, 46, 46] ++ glueL (g :: r) := hx
  have hlen := congrArg List.length hx'
  simp only [cps_len, List.length_append, List.length_cons, List.length_nil] at hlen
  constructor
  · unfold Txt.split
    have h1 : ¬ x.length < dots.length := by rw [dots_len]; omega
    have h2 : ¬ Builtin.Str.strKind x < Builtin.Str.strKind dots := by
      have : Builtin.Str.strKind dots = 1 := by decide +kernel
      rw [this]
      unfold Builtin.Str.strKind
      split
      · decide
      · split <;> decide
    rw [if_neg (by simp [h1, h2])]
    have h3 : occurrences x dots 0 x.length (x.length + 1) ≠ [] := by
      intro e
      rw [e] at hp
      have := congrArg List.length hp
      simp [partsFrom] at this
    rw [if_neg (by simpa using h3), partsBetween_eq]
    exact hp
  · rw [occ_ne]
    refine ⟨f.length, Nat.zero_le _, ?_⟩
    rw [dots_cps, hx']
    refine ⟨by simp; omega, ?_⟩
    rw [List.append_assoc, List.drop_left' hfl]
    rfl
theorem split1 {f l : PySem.Str} (hf : f ∈ pieces) (hl : l ∈ pieces) : Txt.split (f ++ "..." ++ l) "..." = f :: ([] ++ [l]) ∧ (occurrences (f ++ "..." ++ l) "..." 0 (f ++ "..." ++ l).length 1).isEmpty = false :=
  split_gen (x := f ++ dots ++ l) (f := f) (g := l) (r := []) (by simp [hf, hl]) (by rw [cps_app, cps_app, dots_cps]; rfl)
theorem split2 {f i l : PySem.Str} (hf : f ∈ pieces) (hi : i ∈ pieces) (hl : l ∈ pieces) : Txt.split (f ++ "..." ++ i ++ "..." ++ l) "..." = f :: ([i] ++ [l]) ∧ (occurrences (f ++ "..." ++ i ++ "..." ++ l) "..." 0 (f ++ "..." ++ i ++ "..." ++ l).length 1).isEmpty = false :=
  split_gen (x := f ++ dots ++ i ++ dots ++ l) (f := f) (g := i) (r := [l]) (by simp [hf, hi, hl]) (by simp only [glueL, cps_app, dots_cps, List.append_assoc])
theorem split3 {f i j l : PySem.Str} (hf : f ∈ pieces) (hi : i ∈ pieces) (hj : j ∈ pieces) (hl : l ∈ pieces) : Txt.split (f ++ "..." ++ i ++ "..." ++ j ++ "..." ++ l) "..." = f :: ([i, j] ++ [l]) ∧ (occurrences (f ++ "..." ++ i ++ "..." ++ j ++ "..." ++ l) "..." 0 (f ++ "..." ++ i ++ "..." ++ j ++ "..." ++ l).length 1).isEmpty = false :=
  split_gen (x := f ++ dots ++ i ++ dots ++ j ++ dots ++ l) (f := f) (g := i) (r := [j, l]) (by simp [hf, hi, hj, hl]) (by simp only [glueL, cps_app, dots_cps, List.append_assoc])
end Mine
end

section
open PySem PySem.W PyProof.Rows PySem.Calls
set_option maxRecDepth 100000
namespace Mine
theorem turn_cps (y : Str) (k : Nat) : (turnS y k).cps.toList = y.cps.toList.drop k ++ 36 :: y.cps.toList.take k := by
  unfold turnS
  rw [cps_app, cps_app, sl_from, sl_to]
  have : ("$" : Str).cps.toList = [36] := by decide +kernel
  rw [this]
  simp
theorem take_lt_of : ∀ (H x : List Nat), x.take H.length < H → x < H
  | [], x, h => by simp at h
  | a :: H, [], _ => by simp
  | a :: H, b :: x, h => by
    simp only [List.length_cons, List.take_succ_cons, List.cons_lt_cons_iff] at h ⊢
    exact h.imp id fun h => ⟨h.1, take_lt_of H x h.2⟩
theorem app_lt : ∀ (H a b : List Nat), H ++ a < H ++ b ↔ a < b
  | [], _, _ => Iff.rfl
  | h :: H, a, b => by
    simp only [List.cons_append, List.cons_lt_cons_iff, Nat.lt_irrefl, false_or, true_and]
    exact app_lt H a b
theorem pre_eq {H x : List Nat} (h1 : ¬ x < H) (h2 : ¬ H < x.take H.length) : x.take H.length = H := by
  have h3 : ¬ x.take H.length < H := fun h => h1 (take_lt_of H x h)
  exact List.le_antisymm h2 h3
theorem pre_not_lt {H x : List Nat} (h : x.take H.length = H) : ¬ x < H := by
  intro hlt
  have e : x = H ++ x.drop H.length := by conv => lhs; rw [← List.take_append_drop H.length x, h]
  rw [e] at hlt
  have h2 : H ++ x.drop H.length < H ++ [] := by simpa using hlt
  rw [app_lt] at h2
  simp at h2
theorem split36 : ∀ (A L B F : List Nat), 36 ∉ A → 36 ∉ L → ((A ++ 36 :: B).take (L.length + 1 + F.length) = L ++ 36 :: F ↔ A = L ∧ B.take F.length = F)
  | [], [], B, F, _, _ => by
    have e : ([] : List Nat).length + 1 + F.length = F.length + 1 := by simp; omega
    rw [e]
    simp
  | [], l :: L, B, F, _, h => by
    have e : (l :: L).length + 1 + F.length = (L.length + 1 + F.length) + 1 := by simp; omega
    rw [e]
    have h36 : (36 : Nat) ≠ l := fun e => h (e ▸ List.mem_cons_self ..)
    simp [h36]
  | a :: A, [], B, F, h, _ => by
    have e : ([] : List Nat).length + 1 + F.length = F.length + 1 := by simp; omega
    rw [e]
    have h36 : a ≠ 36 := fun e => h (e ▸ List.mem_cons_self ..)
    simp [h36]
  | a :: A, l :: L, B, F, h1, h2 => by
    have e : (l :: L).length + 1 + F.length = (L.length + 1 + F.length) + 1 := by simp; omega
    rw [e]
    have ih := split36 A L B F (fun h => h1 (.tail _ h)) (fun h => h2 (.tail _ h))
    simp only [List.cons_append, List.take_succ_cons, List.cons.injEq]
    rw [ih]
    exact and_assoc.symm
theorem filter_range_one (m : Nat) (c : Bool) : ∀ N, (List.range N).filter (fun k => decide (k = m) && c) = if m < N ∧ c = true then [m] else []
  | 0 => by simp
  | N + 1 => by
    rw [List.range_succ, List.filter_append, filter_range_one m c N]
    cases c with
    | false => simp
    | true =>
      by_cases h1 : m < N
      · rw [if_pos ⟨h1, rfl⟩, if_pos ⟨by omega, rfl⟩]
        have : ¬ N = m := by omega
        simp [this]
      · rw [if_neg (fun h => h1 h.1)]
        by_cases h2 : N = m
        · subst h2; simp
        · rw [if_neg (fun h => by have := h.1; omega)]
          simp [h2]
theorem no36 {d : Word} (hd : d.ok) : 36 ∉ d.text.cps.toList := by
  have := word_all (fun a b c => decide (36 ∉ (Txt.join "" [a, b, c]).cps.toList)) (by decide +kernel) hd
  exact of_decide_eq_true this
theorem piece36 {a : Str} (h : a ∈ pieces) : 36 ∉ a.cps.toList := by
  have : (pieces.all fun a => decide (36 ∉ a.cps.toList)) = true := by decide +kernel
  rw [List.all_eq_true] at this
  exact of_decide_eq_true (this a h)
theorem sorted_range {ss : List Str} {low high : Nat} {p : Str → Bool} (hlh : low ≤ high) (hhs : high ≤ ss.length)
    (h1 : ∀ i, i < low → p (ss.getD i Str.empty) = false) (h2 : ∀ i, low ≤ i → i < high → p (ss.getD i Str.empty) = true) (h3 : ∀ i, high ≤ i → i < ss.length → p (ss.getD i Str.empty) = false) :
    (ss.drop low).take (high - low) = ss.filter p := by
  have gd : ∀ i (hi : i < ss.length), ss.getD i Str.empty = ss[i] := fun i hi => by rw [List.getD_eq_getElem?_getD, List.getElem?_eq_getElem hi]; rfl
  have e : ss = ss.take low ++ ((ss.drop low).take (high - low) ++ ss.drop high) := by
    have : ss.drop high = (ss.drop low).drop (high - low) := by rw [List.drop_drop]; congr 1; omega
    rw [this, List.take_append_drop, List.take_append_drop]
  conv => rhs; rw [e]
  rw [List.filter_append, List.filter_append]
  have f1 : (ss.take low).filter p = [] := by
    rw [List.filter_eq_nil_iff]
    intro y hy
    obtain ⟨i, hi, rfl⟩ := List.getElem_of_mem hy
    simp only [List.length_take] at hi
    have := h1 i (by omega)
    rw [gd i (by omega)] at this
    rw [List.getElem_take, this]
    decide
  have f3 : (ss.drop high).filter p = [] := by
    rw [List.filter_eq_nil_iff]
    intro y hy
    obtain ⟨i, hi, rfl⟩ := List.getElem_of_mem hy
    simp only [List.length_drop] at hi
    have := h3 (high + i) (by omega) (by omega)
    rw [gd _ (by omega)] at this
    rw [List.getElem_drop, this]
    decide
  have f2 : ((ss.drop low).take (high - low)).filter p = (ss.drop low).take (high - low) := by
    rw [List.filter_eq_self]
    intro y hy
    obtain ⟨i, hi, rfl⟩ := List.getElem_of_mem hy
    simp only [List.length_take, List.length_drop] at hi
    have := h2 (low + i) (by omega) (by omega)
    rw [gd _ (by omega)] at this
    rw [List.getElem_take, List.getElem_drop, this]
  rw [f1, f2, f3, List.nil_append, List.append_nil]
end Mine
end

section
open PySem PySem.W PyProof.Rows PySem.Calls
set_option maxRecDepth 100000
namespace Mine
theorem dollar_cps : ("$" : Str).cps.toList = [36] := by decide +kernel
theorem head_cps (l f : Str) : (l ++ "$" ++ f).cps.toList = l.cps.toList ++ 36 :: f.cps.toList := by
  rw [cps_app, cps_app, dollar_cps]; simp
def preB (H : List Nat) (z : Str) : Bool := decide (z.cps.toList.take H.length = H)
set_option maxHeartbeats 1000000 in
theorem turn_due {t f l : Str} (ht : 36 ∉ t.cps.toList) (hl : 36 ∉ l.cps.toList) :
    ((turns t).filter (preB (l ++ "$" ++ f).cps.toList)).map (fun z => Txt.slice z (some ((l ++ "$" ++ f).length : Int)) none) = (dueF f l t).toList := by
  have htl := cps_len t
  have hll := cps_len l
  have hfl := cps_len f
  have hn : (l ++ "$" ++ f).length = l.length + 1 + f.length := by rw [← cps_len, head_cps]; simp [PySem.Str.length]; omega
  have hH : (l ++ "$" ++ f).cps.toList.length = l.cps.toList.length + 1 + f.cps.toList.length := by rw [cps_len, hn, hll, hfl]
  have hp : ∀ k, k < t.length + 1 → preB (l ++ "$" ++ f).cps.toList (turnS t k) = (decide (k = t.length - l.length) && (f ++ toldS f l t ++ l == t)) := by
    intro k hk
    unfold preB
    rw [turn_cps, hH, head_cps]
    have h36 : 36 ∉ t.cps.toList.drop k := fun h => ht (List.mem_of_mem_drop h)
    rw [Bool.eq_iff_iff, decide_eq_true_eq, split36 _ _ _ _ h36 hl, Bool.and_eq_true, decide_eq_true_eq, ← ends_iff]
    simp only [Bool.and_eq_true, decide_eq_true_eq, Txt.startswith, Txt.endswith, StrLaws.subAt_eq, beq_iff_eq, Nat.zero_add, List.drop_zero]
    constructor
    · rintro ⟨h1, h2⟩
      have h1l := congrArg List.length h1
      rw [List.length_drop] at h1l
      have h2l := congrArg List.length h2
      rw [List.take_take, List.length_take] at h2l
      have hk' : k = t.length - l.length := by omega
      refine ⟨hk', ⟨⟨by omega, ?_⟩, by omega, ?_⟩, by omega⟩
      · rw [List.take_take, Nat.min_eq_left (by omega), hfl] at h2
        exact h2
      · rw [← hk', h1, List.take_of_length_le (by omega)]
    · rintro ⟨rfl, ⟨⟨_, h1⟩, _, h2⟩, h3⟩
      rw [List.take_of_length_le (by rw [List.length_drop]; omega)] at h2
      refine ⟨h2, ?_⟩
      rw [List.take_take, Nat.min_eq_left (by omega), hfl]
      exact h1
  have e1 : (turns t).filter (preB (l ++ "$" ++ f).cps.toList) = ((List.range (t.length + 1)).filter (fun k => decide (k = t.length - l.length) && (f ++ toldS f l t ++ l == t))).map (turnS t) := by
    unfold turns
    rw [List.filter_map]
    congr 1
    apply List.filter_congr
    intro k hk
    exact hp k (List.mem_range.mp hk)
  rw [e1, filter_range_one]
  unfold dueF
  rw [due_told]
  by_cases hc : (f ++ toldS f l t ++ l == t) = true
  · rw [if_pos ⟨by omega, hc⟩, if_pos hc]
    refine congrArg (fun z => [z]) (str_eq ?_)
    have hc' := hc
    rw [← ends_iff] at hc'
    simp only [Bool.and_eq_true, decide_eq_true_eq, Txt.startswith, Txt.endswith, StrLaws.subAt_eq, beq_iff_eq, Nat.zero_add, List.drop_zero] at hc'
    obtain ⟨⟨⟨_, h1⟩, _, h2⟩, h3⟩ := hc'
    rw [List.take_of_length_le (by rw [List.length_drop]; omega)] at h2
    rw [sl_from, turn_cps, h2, hn, told_cps (by omega)]
    have e2 : l.length + 1 + f.length = l.cps.toList.length + (1 + f.length) := by omega
    rw [e2, ← List.drop_drop, List.drop_left, Nat.add_comm 1, List.drop_succ_cons, List.drop_take]
  · rw [if_neg (fun h => hc h.2), if_neg hc]
    rfl
theorem behind_law {ns : List Int} {ss due : List Str} {first last : Str} {low high : Nat} (hp : ss.Perm (((words ns).map Word.text).flatMap turns)) (hs : Srt ss) (hf : first ∈ pieces) (hl : last ∈ pieces)
    (hd : due.Perm (((words ns).map Word.text).filterMap (dueF first last))) (hds : sortedS due = true)
    (hlow : Cut (fun i => tx ss i < (last ++ "$" ++ first).cps.toList) 0 ss.length low)
    (hhigh : Cut (fun i => ¬ (last ++ "$" ++ first).cps.toList < (Txt.slice (ss.getD i Str.empty) none (some ((last ++ "$" ++ first).length : Int))).cps.toList) low ss.length high) :
    (((ss.drop low).take (high - low)).map fun y => Txt.slice y (some ((last ++ "$" ++ first).length : Int)) none) = due := by
  have e1 : (ss.drop low).take (high - low) = ss.filter (preB (last ++ "$" ++ first).cps.toList) := by
    obtain ⟨_, a2, a3, a4⟩ := hlow
    obtain ⟨b1, b2, b3, b4⟩ := hhigh
    dsimp only at a3 a4 b3 b4
    refine sorted_range b1 b2 (fun i hi => ?_) (fun i h1 h2 => ?_) (fun i h1 h2 => ?_)
    · refine decide_eq_false fun h => ?_
      exact pre_not_lt h (a3 i (Nat.zero_le _) hi)
    · refine decide_eq_true ?_
      have h4 := b3 i h1 h2
      rw [sl_to] at h4
      rw [← cps_len] at h4
      exact pre_eq (a4 i h1 (by omega)) h4
    · refine decide_eq_false fun h => ?_
      have h4 := Classical.not_not.mp (b4 i h1 h2)
      rw [sl_to, ← cps_len, h] at h4
      exact List.lt_irrefl _ h4
  rw [e1]
  refine srt_unique ?_ ?_ (srt_of_sortedS hds)
  · refine (((hp.filter _).map _).trans ?_).trans hd.symm
    have e2 : ∀ ts : List Str, (∀ t ∈ ts, 36 ∉ t.cps.toList) → (((ts.flatMap turns).filter (preB (last ++ "$" ++ first).cps.toList)).map fun y => Txt.slice y (some ((last ++ "$" ++ first).length : Int)) none) = ts.filterMap (dueF first last) := by
      intro ts
      induction ts with
      | nil => intro _; rfl
      | cons t r ih =>
        intro h
        rw [List.flatMap_cons, List.filter_append, List.map_append, turn_due (h t (.head _)) (piece36 hl), ih fun z hz => h z (.tail _ hz), List.filterMap_cons]
        cases dueF first last t <;> rfl
    rw [e2]
    intro t ht
    obtain ⟨d, hd, rfl⟩ := List.mem_map.mp ht
    exact no36 (words_ok hd)
  · refine List.pairwise_map.mpr ?_
    have hsf : Srt (ss.filter (preB (last ++ "$" ++ first).cps.toList)) := hs.sublist List.filter_sublist
    refine hsf.imp_of_mem fun {a b} ha hb hab hlt => hab ?_
    have pa := of_decide_eq_true (List.mem_filter.mp ha).2
    have pb := of_decide_eq_true (List.mem_filter.mp hb).2
    rw [sl_from, sl_from, ← cps_len] at hlt
    have ea : a.cps.toList = (last ++ "$" ++ first).cps.toList ++ a.cps.toList.drop (last ++ "$" ++ first).cps.toList.length := by
      conv => lhs; rw [← List.take_append_drop (last ++ "$" ++ first).cps.toList.length a.cps.toList, pa]
    have eb : b.cps.toList = (last ++ "$" ++ first).cps.toList ++ b.cps.toList.drop (last ++ "$" ++ first).cps.toList.length := by
      conv => lhs; rw [← List.take_append_drop (last ++ "$" ++ first).cps.toList.length b.cps.toList, pb]
    rw [ea, eb, app_lt]
    exact hlt
end Mine
end

section
open PySem PySem.W PyProof.Rows PySem.Calls
set_option maxRecDepth 100000
namespace Mine
theorem end_cps (y : Str) : (y ++ "$").cps.toList = y.cps.toList ++ [36] := by rw [cps_app, dollar_cps]
def eqB (H : List Nat) (z : Str) : Bool := decide (z.cps.toList = H)
theorem app36 {A B Y : List Nat} (hA : 36 ∉ A) (hY : 36 ∉ Y) : A ++ 36 :: B = Y ++ [36] ↔ A = Y ∧ B = [] := by
  constructor
  · intro h
    have h2 : (A ++ 36 :: B).take (Y.length + 1 + ([] : List Nat).length) = Y ++ [36] := by
      rw [h, List.take_of_length_le (by simp)]
    have h3 := (split36 A Y B [] hA hY).mp h2
    refine ⟨h3.1, ?_⟩
    have h4 := congrArg List.length h
    rw [h3.1] at h4
    simp only [List.length_append, List.length_cons, List.length_nil] at h4
    exact List.eq_nil_of_length_eq_zero (by omega)
  · rintro ⟨rfl, rfl⟩
    rfl
theorem turn_count {t y : Str} (ht : 36 ∉ t.cps.toList) (hy : 36 ∉ y.cps.toList) : ((turns t).filter (eqB (y ++ "$").cps.toList)).length = if (t == y) = true then 1 else 0 := by
  have htl := cps_len t
  have e1 : (turns t).filter (eqB (y ++ "$").cps.toList) = ((List.range (t.length + 1)).filter (fun k => decide (k = 0) && (t == y))).map (turnS t) := by
    unfold turns
    rw [List.filter_map]
    congr 1
    apply List.filter_congr
    intro k hk
    have hk := List.mem_range.mp hk
    show eqB (y ++ "$").cps.toList (turnS t k) = _
    unfold eqB
    rw [turn_cps, end_cps, Bool.eq_iff_iff, decide_eq_true_eq, app36 (fun h => ht (List.mem_of_mem_drop h)) hy, Bool.and_eq_true, decide_eq_true_eq, beq_iff_eq]
    constructor
    · rintro ⟨h1, h2⟩
      have h2l := congrArg List.length h2
      rw [List.length_take, List.length_nil] at h2l
      have hk0 : k = 0 ∨ t.length = 0 := by omega
      have hk00 : k = 0 := by omega
      subst hk00
      exact ⟨rfl, str_eq (by simpa using h1)⟩
    · rintro ⟨rfl, rfl⟩
      simp
  rw [e1, filter_range_one]
  by_cases hc : (t == y) = true
  · rw [if_pos ⟨by omega, hc⟩, if_pos hc]; rfl
  · rw [if_neg (fun h => hc h.2), if_neg hc]; rfl
theorem count_law {ns : List Int} {ss : List Str} {y : Str} {r l : Nat} (hp : ss.Perm (((words ns).map Word.text).flatMap turns)) (_hs : Srt ss) (hy : y ∈ (words ns).map Word.text)
    (hr : Cut (fun i => ¬ (y ++ "$").cps.toList < tx ss i) 0 ss.length r) (hl : Cut (fun i => tx ss i < (y ++ "$").cps.toList) 0 ss.length l) :
    (r : Int) - (l : Int) = ((((words ns).map Word.text).filter (fun z => z == y)).length : Int) := by
  obtain ⟨_, a2, a3, a4⟩ := hl
  obtain ⟨_, b2, b3, b4⟩ := hr
  dsimp only at a3 a4 b3 b4
  have hlr : l ≤ r := by
    apply Nat.not_lt.mp
    intro h
    have h1 := a3 r (Nat.zero_le _) h
    have h2 := Classical.not_not.mp (b4 r (Nat.le_refl _) (by omega))
    exact List.lt_irrefl _ (List.lt_trans h1 h2)
  have e1 : (ss.drop l).take (r - l) = ss.filter (eqB (y ++ "$").cps.toList) := by
    refine sorted_range hlr b2 (fun i hi => ?_) (fun i h1 h2 => ?_) (fun i h1 h2 => ?_)
    · refine decide_eq_false fun h => ?_
      have := a3 i (Nat.zero_le _) hi
      unfold tx at this
      rw [h] at this
      exact List.lt_irrefl _ this
    · exact decide_eq_true (List.le_antisymm (b3 i (Nat.zero_le _) h2) (a4 i h1 (by omega)))
    · refine decide_eq_false fun h => ?_
      have := Classical.not_not.mp (b4 i h1 h2)
      unfold tx at this
      rw [h] at this
      exact List.lt_irrefl _ this
  have e2 := congrArg List.length e1
  rw [List.length_take, List.length_drop, (hp.filter _).length_eq] at e2
  have h36 : ∀ t ∈ (words ns).map Word.text, 36 ∉ t.cps.toList := fun t ht => by
    obtain ⟨d, hd, rfl⟩ := List.mem_map.mp ht
    exact no36 (words_ok hd)
  have e3 : ∀ ts : List Str, (∀ t ∈ ts, 36 ∉ t.cps.toList) → ((ts.flatMap turns).filter (eqB (y ++ "$").cps.toList)).length = (ts.filter (fun z => z == y)).length := by
    intro ts
    induction ts with
    | nil => intro _; rfl
    | cons t q ih =>
      intro h
      rw [List.flatMap_cons, List.filter_append, List.length_append, turn_count (h t (.head _)) (h36 y hy), ih fun z hz => h z (.tail _ hz), List.filter_cons]
      by_cases hc : (t == y) = true
      · rw [if_pos hc, if_pos hc, List.length_cons]; omega
      · rw [if_neg hc, if_neg hc]; omega
  rw [e3 _ h36] at e2
  omega
end Mine
end

section
open PySem PySem.W PyProof.Rows PySem.Calls
set_option maxRecDepth 100000
namespace Mine
theorem len_app (a b : Str) : (a ++ b).length = a.length + b.length := by
  show (a.cps ++ b.cps).size = a.cps.size + b.cps.size
  simp
theorem turn_len {y : Str} {k : Nat} : (turnS y k).length ≤ 2 * y.length + 1 := by
  rw [← cps_len, turn_cps, ← cps_len y]
  simp
  omega
theorem turns_len {ts : List Str} (h : ∀ y ∈ ts, y.length ≤ 9) {z : Str} (hz : z ∈ ts.flatMap turns) : z.length ≤ 100 := by
  obtain ⟨y, hy, hz⟩ := List.mem_flatMap.mp hz
  obtain ⟨k, hk, rfl⟩ := List.mem_map.mp hz
  have := h y hy
  have := turn_len (y := y) (k := k)
  omega
theorem due_len {ts due : List Str} {f l : Str} (hd : due.Perm (ts.filterMap (dueF f l))) (ht : ∀ y ∈ ts, y.length ≤ 9) : ∀ y ∈ due, y.length ≤ 100 := by
  intro y hy
  obtain ⟨z, hz, e⟩ := List.mem_filterMap.mp (hd.mem_iff.mp hy)
  unfold dueF at e
  split at e
  · rename_i hc
    have hc := eq_of_beq hc
    cases e
    have h1 : (f ++ dueS f l z ++ l).length = z.length := by rw [hc]
    rw [len_app, len_app] at h1
    have := ht z hz
    omega
  · cases e
theorem filterMap_cong {ts : List Str} {F G : Str → Option Str} (h : ∀ y ∈ ts, F y = G y) : ts.filterMap F = ts.filterMap G := by
  induction ts with
  | nil => rfl
  | cons y r ih => rw [List.filterMap_cons, List.filterMap_cons, h y (.head _), ih fun z hz => h z (.tail _ hz)]
theorem filterMap_filter' (F : Str → Option Str) (P : Str → Bool) : ∀ ts : List Str, ts.filterMap (fun y => (F y).filter P) = (ts.filterMap F).filter P
  | [] => rfl
  | y :: r => by
    have ih := filterMap_filter' F P r
    rw [List.filterMap_cons, List.filterMap_cons]
    cases e : F y with
    | none => exact ih
    | some z =>
      cases hP : P z with
      | true => rw [List.filter_cons, if_pos hP, ← ih]; simp [Option.filter, hP]
      | false => rw [List.filter_cons, if_neg (by rw [hP]; decide), ← ih]; simp [Option.filter, hP]
theorem srt_filter {l : List Str} (P : Str → Bool) (h : Srt l) : Srt (l.filter P) := h.sublist List.filter_sublist
theorem told_law {ts due t : List Str} {f l : Str} {ms : List Str} (P : Str → Bool) (h : ∀ y ∈ ts, toldF f ms l f l y = (dueF f l y).filter P) (hd : due.Perm (ts.filterMap (dueF f l))) (hds : sortedS due = true)
    (ht : t.Perm (ts.filterMap (toldF f ms l f l))) (hts : sortedS t = true) : t = due.filter P := by
  refine srt_unique ?_ (srt_of_sortedS hts) (srt_filter P (srt_of_sortedS hds))
  have e : ts.filterMap (toldF f ms l f l) = (ts.filterMap (dueF f l)).filter P := by
    rw [← filterMap_filter']
    exact filterMap_cong h
  rw [e] at ht
  exact ht.trans (hd.filter P).symm
theorem no_dots {d : Word} (hd : d.ok) : (Builtin.Str.occurrences d.text "..." 0 d.text.length 1).isEmpty = true :=
  word_all (fun a b c => (Builtin.Str.occurrences (Txt.join "" [a, b, c]) "..." 0 (Txt.join "" [a, b, c]).length 1).isEmpty) (by decide +kernel) hd
end Mine
end

section
open PySem PySem.W PyProof.Rows PySem.Calls
set_option maxRecDepth 100000
namespace Mine
theorem afresh_MLaw : True := by
  w_top off
  trivial
local macro_rules | `(tactic| walk_at "call ref") => `(tactic| refine Stop.mk ?_)
local macro_rules | `(tactic| walk_at "pyIter ref") => `(tactic| refine Stop.mk ?_)
local macro_rules | `(tactic| walk_at "exec Assign Name ListComp") => `(tactic| refine Stop.mk ?_)
local macro_rules | `(tactic| walk_at "eval ListComp") => `(tactic| refine Stop.mk ?_)
local macro_rules | `(tactic| walk_at "CompSrc") => `(tactic| refine Stop.mk ?_)
local macro_rules | `(tactic| walk_at "CompSrc ref") => `(tactic| refine Stop.mk ?_)
local macro_rules | `(tactic| walk_at "call builtin:str.join") => `(tactic| refine Stop.mk ?_)
local macro_rules | `(tactic| walk_at "CEnd") => `(tactic| refine Stop.mk ?_)
local macro_rules | `(tactic| walk_at "Src2") => `(tactic| refine Stop.mk ?_)
local macro_rules | `(tactic| walk_at "Src2 ref") => `(tactic| refine Stop.mk ?_)
local macro_rules | `(tactic| walk_at "CEnd2") => `(tactic| refine Stop.mk ?_)
local macro_rules | `(tactic| walk_at "CEnd2 ref") => `(tactic| refine Stop.mk ?_)
local macro_rules | `(tactic| walk_at "CEnd2 str") => `(tactic| refine Stop.mk ?_)
local macro_rules | `(tactic| walk_at "call type:range") => `(tactic| refine Stop.mk ?_)
local macro_rules | `(tactic| walk_at "call builtin:sorted") => `(tactic| refine Stop.mk ?_)
local macro_rules | `(tactic| walk_at "compareOp NotEq ref ref") => `(tactic| refine Stop.mk ?_)
local macro_rules | `(tactic| walk_at "exec For Name Call cons nil") => `(tactic| refine Stop.mk ?_)
local macro_rules | `(tactic| walk_at "exec For Name List cons nil") => `(tactic| refine Stop.mk ?_)
local macro_rules | `(tactic| walk_at "exec For Name Name cons nil") => `(tactic| refine Stop.mk ?_)
local macro_rules | `(tactic| walk_at "call builtin:len") => `(tactic| ((with_reducible show wpAny _ _ (call (Value.builtin "len") [Value.ref _]) _ _ _); refine Stop.mk ?_))
local macro_rules | `(tactic| walk_at "CompSrcT") => `(tactic| refine Stop.mk ?_)
local macro_rules | `(tactic| walk_at "CompSrcT ref") => `(tactic| refine Stop.mk ?_)
local macro_rules | `(tactic| walk_at "newList") => `(tactic| refine Stop.mk ?_)
local macro_rules | `(tactic| walk_at "subscriptTail Name Name ref int") => `(tactic| refine Stop.mk ?_)
local macro_rules | `(tactic| walk_at "subscriptTail Name BinOp ref int") => `(tactic| refine Stop.mk ?_)
local macro_rules | `(tactic| walk_at "subscriptTail Name Constant ref int") => `(tactic| refine Stop.mk ?_)
local macro_rules | `(tactic| walk_at "subscriptTail Subscript Constant ref int") => `(tactic| refine Stop.mk ?_)
local macro_rules | `(tactic| k_all) => `(tactic| assumption)
local macro_rules | `(tactic| walk_at "GO") => `(tactic| w_strict (repeat' (first | (k_unfold; (try dsimp only)) | walk1 | (dsimp only; walk1))))

set_option maxHeartbeats 20000000 in
theorem law_holds : PySem.Challenge.rw_pe0127_01.Holds := by
  refine hd ?_
  w_strict k_go0
  rename Fr _ _ _ _ => F
  rename News _ _ _ _ => N
  rename Below _ _ _ _ => Bel
  rename CodeHd _ _ _ => C0
  rename IntsAre _ _ => hI
  rename Heap.IsList (ghostOf _ _) _ _ => hl
  rename Top _ _ _ _ _ (ghostOf _ _) => T
  rename Frag.In _ (ghostOf _ _) => X
  rename List Int => ns
  rename List Value => vs
  rename ¬ (_ : Int) < (ns.length : Int) => hlen
  rename_i h₁ tk₁ oI oK oT oW dI dK dT dW X0 l0
  dsimp only at C0
  replace dI : oI.data = .cell none := dI
  replace dK : oK.data = .cell none := dK
  replace dT : oT.data = .cell none := dT
  replace dW : oW.data = .cell none := dW
  clear X0
  rename Shared => s₁
  generalize s₁.heap.objs.size = L at *
  generalize ghostOf s₁.heap [(66, 64)] = g at *
  refine wpAny_mono (E := NoE) ?_ (fun _ _ x => x) (fun _ _ x => x.elim)
  walk_at "GO"
  refine Stop.go ?_
  refine wpAny_call (words_c (X.keeps F.keep) (T.keeps F.keep) (by decide) (hl.at (F.keep _)) hI (by omega) fun h' tk' W os st hWl hWn hos hW => ?_)
  dsimp only
  obtain ⟨oWl, gW, cW, nW, eW⟩ := LObj hWl
  have hnew : ∀ q ∈ (W, oWl) :: os, h'.get? q.1 = some q.2 ∧ h₁.get? q.1 = none := fun p hp => by
    rcases List.mem_cons.mp hp with rfl | hp
    · exact ⟨gW, hWn⟩
    · exact hos p hp
  have f4 : ∀ p ∈ (W, oWl) :: os, _ := fun p hp => off_new (N.get (.head _)) (hnew p hp).2
  have f3 : ∀ p ∈ (W, oWl) :: os, _ := fun p hp => off_new (N.get (.tail _ (.head _))) (hnew p hp).2
  have f2 : ∀ p ∈ (W, oWl) :: os, _ := fun p hp => off_new (N.get (.tail _ (.tail _ (.head _)))) (hnew p hp).2
  have f1 : ∀ p ∈ (W, oWl) :: os, _ := fun p hp => off_new (N.get (.tail _ (.tail _ (.tail _ (.head _))))) (hnew p hp).2
  have f5 : ∀ p ∈ (W, oWl) :: os, _ := fun p hp => off_new (N.get (.tail _ (.tail _ (.tail _ (.tail _ (.head _)))))) (hnew p hp).2
  have N2 := news_fresh F hnew
  obtain ⟨m0, F⟩ : ∃ m0, Fr g L h' m0 := ⟨_, F.kept st⟩
  replace N := (show News _ _ h' _ from fun p hp => ⟨st _ _ (N p hp).1, (N p hp).2⟩).append N2
  clear N2
  simp only [List.cons_append, List.nil_append] at N
  clear hWl hWn
  clear hnew hos gW st
  have hWm : (W, oWl) ∈ (W, oWl) :: os := .head _
  have hosm : ∀ q ∈ os, q ∈ (W, oWl) :: os := fun q hq => .tail _ hq
  generalize (W, oWl) :: os = R1 at N f1 f2 f3 f4 f5 hWm hosm
  walk_at "GO"
  refine Stop.go ?_
  rename Fr _ _ _ _ => F
  rename News _ _ _ _ => N
  rename_i h' oW dW
  have hol : os.length = (words ns).length := hW.1
  have hwl := words_len ns
  refine srcU (its := os.map fun q => Value.ref q.1) rfl F N (.inr ⟨oWl, mem5 hWm, cW, nW, eW⟩) (by simp; omega) (fun gg => ?_)
  refine restU (fun i ys => StrsAre ys (((words ns).take i).map Word.text)) (.inr ⟨oWl, mem5 hWm, cW, nW, eW⟩) .nil ?_ ?_
  · intro i v I oIt C oC D m₂ ys h₂ tk₂ hi hP hJ hC hx F N
    obtain ⟨q, hq, rfl⟩ : ∃ q, os[i]? = some q ∧ v = .ref q.1 := by
      have : (os.map fun q => Value.ref q.1)[i]? = some v := by simpa using hP
      rw [List.getElem?_map] at this
      cases e : os[i]? with
      | none => rw [e] at this; cases this
      | some q => rw [e] at this; exact ⟨q, rfl, (Option.some.inj this).symm⟩
    have hil : i < (words ns).length := by rw [← hol]; exact (List.getElem?_eq_some_iff.mp hq).1
    have hdi : (words ns)[i]? = some (words ns)[i] := List.getElem?_eq_getElem hil
    have hwa := hW.2 i q _ hq hdi
    have hdo := words_ok (List.getElem_mem hil)
    walk_at "GO"
    refine Stop.go ?_
    rename Fr _ _ _ _ => F
    rename News _ _ _ _ => N
    refine word_join (q := q) (N q (.tail _ (.tail _ (.tail _ (mem5 (hosm q (List.mem_of_getElem? hq))))))).1 hwa hdo (fun t' k => ?_)
    walk_at "GO"
    refine Stop.go (CEnd.mk F N (fun q hq => hq) ?_)
    rw [List.take_add_one, hdi, List.map_append]
    exact strs_push hJ _ _
  · intro ys hJ Tx h₂ tk₂ F N off
    rw [List.size_toArray, List.length_map, hol, List.take_length] at hJ
    walk_at "GO"
    refine Stop.go ?_
    have hts100 : ∀ y ∈ (words ns).map Word.text, y.length ≤ 100 := fun y hy => by
      obtain ⟨d, hd, rfl⟩ := List.mem_map.mp hy
      have := word_len (words_ok hd)
      omega
    have hTn : ∀ p ∈ (L + 1 + 1 + 1 + 1, oI) :: (L + 1 + 1 + 1, oK) :: (L + 1 + 1, oT) :: (L + 1, oW) :: (64, tabObj #[]) :: R1, p.1 ≠ Tx := off1_mem off
    refine wpAny_call (row_c (X.keeps F.keep) (T.keeps F.keep) (by decide) (N.isList (.head _)) hJ hts100 (texts_turns ns) fun h₃ tk₃ Rw vr ss st hRn hRl hrs hrp hrr => ?_)
    dsimp only
    obtain ⟨oR, gR, cR, nR, eR⟩ := LObj hRl
    have oTx : ∃ o, o = LCg.lst ys := ⟨_, rfl⟩
    obtain ⟨oTx, eTx⟩ := oTx
    rw [← eTx] at N
    have cTx : oTx.cls = .type "list" := by rw [eTx]
    have dTx : ∃ n, oTx.data = .seq ys.toArray n := by rw [eTx]; exact ⟨_, rfl⟩
    have hcut : ∀ b ob, (b, ob) ∈ (L + 1 + 1 + 1 + 1, oI) :: (L + 1 + 1 + 1, oK) :: (L + 1 + 1, oT) :: (L + 1, oW) :: (64, tabObj #[]) :: R1 → (∀ p ∈ R1, p.1 ≠ b) → ∀ p ∈ (Tx, oTx) :: (Rw, oR) :: R1, p.1 ≠ b := fun b ob hb h1 p hp => by
      rcases List.mem_cons.mp hp with rfl | hp
      · exact Ne.symm (hTn _ hb)
      rcases List.mem_cons.mp hp with rfl | hp
      · exact off_new (N.get (.tail _ hb)) hRn
      · exact h1 p hp
    replace f1 := hcut _ _ (.tail _ (.tail _ (.tail _ (.head _)))) f1
    replace f2 := hcut _ _ (.tail _ (.tail _ (.head _))) f2
    replace f3 := hcut _ _ (.tail _ (.head _)) f3
    replace f4 := hcut _ _ (.head _) f4
    replace f5 := hcut _ _ (.tail _ (.tail _ (.tail _ (.tail _ (.head _))))) f5
    have NR := news_fresh (l := [(Rw, oR)]) F (h' := h₃) (fun q hq => by rw [List.mem_singleton.mp hq]; exact ⟨gR, hRn⟩)
    replace F := F.kept st
    replace N : News g L h₃ ((L + 1 + 1 + 1 + 1, oI) :: (L + 1 + 1 + 1, oK) :: (L + 1 + 1, oT) :: (L + 1, oW) :: (64, tabObj #[]) :: (Tx, oTx) :: (Rw, oR) :: R1) := fun p hp => by
      have N' : ∀ p ∈ _, _ := fun p hp => (⟨st _ _ (N p hp).1, (N p hp).2⟩ : h₃.get? p.1 = some p.2 ∧ p.1 ≠ L ∧ g.get? p.1 = none)
      simp only [List.mem_cons] at hp
      rcases hp with rfl | rfl | rfl | rfl | rfl | rfl | rfl | hp
      · exact N' _ (.tail _ (.head _))
      · exact N' _ (.tail _ (.tail _ (.head _)))
      · exact N' _ (.tail _ (.tail _ (.tail _ (.head _))))
      · exact N' _ (.tail _ (.tail _ (.tail _ (.tail _ (.head _)))))
      · exact N' _ (.tail _ (.tail _ (.tail _ (.tail _ (.tail _ (.head _))))))
      · exact N' _ (.head _)
      · exact NR _ (.head _)
      · exact N' _ (.tail _ (mem5 hp))
    clear NR off hTn hcut gR hRl hRn st
    have hTm : (Tx, oTx) ∈ (Tx, oTx) :: (Rw, oR) :: R1 := .head _
    have hRm : (Rw, oR) ∈ (Tx, oTx) :: (Rw, oR) :: R1 := .tail _ (.head _)
    replace hWm : (W, oWl) ∈ (Tx, oTx) :: (Rw, oR) :: R1 := .tail _ (.tail _ hWm)
    replace hosm : ∀ q ∈ os, q ∈ (Tx, oTx) :: (Rw, oR) :: R1 := fun q hq => .tail _ (.tail _ (hosm q hq))
    clear eTx
    generalize (Tx, oTx) :: (Rw, oR) :: R1 = R2 at N f1 f2 f3 f4 f5 hTm hRm hWm hosm
    walk_at "GO"
    refine Stop.go ?_
    rename Fr _ _ _ _ => F
    rename News _ _ _ _ => N
    generalize hts : (words ns).map Word.text = ts at *
    have hyl := hJ.length
    have htl : ts.length = (words ns).length := by rw [← hts, List.length_map]
    have hsum : (ts.flatMap turns).length < 64 := hts ▸ texts_turns ns
    have hgl : ∀ i, (ts.getD i Str.empty).length ≤ 100 := fun i => by
      rw [List.getD_eq_getElem?_getD]
      cases e : ts[i]? with
      | none => exact Nat.zero_le _
      | some y => exact hts100 y (List.mem_of_getElem? e)
    refine ListComp_two F (by with_unfolding_all rfl) (by decide) rfl (by decide) rfl rfl (by decide) ?_
    walk_at "GO"
    refine Stop.go ?_
    refine ⟨Tx, ys.toArray, _, fun i => (ts.getD i Str.empty).length + 1, fun i k zs => StrsAre zs ((ts.take i).flatMap turns ++ (List.range k).map (turnS (ts.getD i Str.empty))) ∧ k ≤ (ts.getD i Str.empty).length + 1, rfl, rfl, F, N, .inr ⟨oTx, mem5 hTm, cTx, dTx⟩, ⟨.nil, Nat.zero_le _⟩, ?_, ?_, ?_, ?_, ?_, ?_⟩
    · rintro i k zs ⟨hz, hk⟩
      have h1 := turns_le ts i
      have h2 := hgl i
      rw [sizeLine_eq, hz.length, List.length_append, List.length_map, List.length_range]
      omega
    · intro i
      have h2 := hgl i
      dsimp only
      omega
    · intro i v C oC m₂ h tk rest hv hC hx F N
      obtain ⟨y, ty, rfl, hy⟩ := hJ.item i v (by simpa using hv)
      have hyl := hts100 y (List.mem_of_getElem? hy)
      have eyd : ts.getD i Str.empty = y := by rw [List.getD_eq_getElem?_getD, hy]; rfl
      simp only [eyd]
      walk_at "GO"
      refine Stop.go ?_
      refine range_K (n := y.length + 1) F N fun r tr ur vr h' tk' F N hr _ => ?_
      walk_at "GO"
      refine Stop.go (CEnd2.mk F N (fun q hq => hq) ⟨r, tr, ur, vr, rfl, hr⟩)
    · intro i v k tv C oC m₂ zs h tk rest hv hk hj hC hx hy2 F N
      obtain ⟨y, ty, rfl, hy⟩ := hJ.item i v (by simpa using hv)
      have hyl := hts100 y (List.mem_of_getElem? hy)
      have eyd : ts.getD i Str.empty = y := by rw [List.getD_eq_getElem?_getD, hy]; rfl
      simp only [eyd] at hk hj ⊢
      walk_at "GO"
      refine Stop.go ?_
      rename Fr _ _ _ _ => F
      rename News _ _ _ _ => N
      refine CEnd2.mk F N (fun q hq => hq) ⟨?_, hk⟩
      rw [List.range_succ, List.map_append, ← List.append_assoc]
      exact strs_push hj.1 _ _
    · intro i v zs hv hz
      obtain ⟨y, ty, rfl, hy⟩ := hJ.item i v (by simpa using hv)
      have eyd : ts.getD i Str.empty = y := by rw [List.getD_eq_getElem?_getD, hy]; rfl
      simp only [eyd] at hz
      refine ⟨?_, Nat.zero_le _⟩
      rw [turns_take hy, List.range_zero, List.map_nil, List.append_nil]
      exact hz.1
    · intro zs hz D h₄ tk₄ F N off
      have hz1 := hz.1
      clear hz
      rw [List.size_toArray, hyl, List.take_length, List.range_zero, List.map_nil, List.append_nil] at hz1
      walk_at "GO"
      refine Stop.go ?_
      refine sorted_N_str F N (N.isList (.head _)) hz1 (by rw [hz1.length]; exact hsum) fun h' vs' ss' e F N hS' hp' hs' => ?_
      have ess : ss' = ss := srt_unique (hp'.trans hrp.symm) (srt_of_sortedS hs') hrr
      subst ess
      have hDf := off1_mem off
      walk_at "GO"
      refine Stop.go ?_
      have hRl : h'.IsList Rw vr.toArray := ⟨oR, (N.get (.tail _ (.tail _ (mem5 hRm)))), cR, nR, eR⟩
      refine ne_strs hRl (N.isList (.head _)) hrs hS' (by show 4 + 3 < 9900; omega) ?_
      rw [decide_eq_true (rfl : ss' = ss')]
      replace N : News g L h' ((L + 1 + 1 + 1 + 1, oI) :: (L + 1 + 1 + 1, oK) :: (L + 1 + 1, oT) :: (L + 1, oW) :: (64, tabObj #[]) :: R2) := fun p hp => N p (.tail _ (.tail _ hp))
      clear off hDf hz1 hS' hp' hs'
      walk_at "GO"
      refine Stop.go ?_
      refine wpAny_For ?_
      walk_at "GO"
      refine Stop.go ?_
      have hWl : h'.IsList W (os.map fun q => Value.ref q.1).toArray := ⟨oWl, N.get (mem5 hWm), cW, nW, eW⟩
      refine len_listN (n := os.length) hWl (by simp) (by omega) ?_
      walk_at "GO"
      refine Stop.go ?_
      refine range_K (n := os.length) F N fun r tr ur vr2 h₅ tk₅ F N hr _ => ?_
      walk_at "GO"
      refine Stop.go ?_
      refine iter_rangeO (L := L) (n := os.length) rfl rfl hr (by omega) F N
        (fun i m news => ∃ oI oK oT ps rest vI vK vT, Has m [("texts", .ref Tx), ("row", .ref Rw)] ∧ news = (L + 1 + 1 + 1 + 1, oI) :: (L + 1 + 1 + 1, oK) :: (L + 1 + 1, oT) :: (L + 1, oW) :: (64, tabObj ps) :: rest ∧
          oI.data = .cell vI ∧ oK.data = .cell vK ∧ oT.data = .cell vT ∧ Tail [L + 1 + 1 + 1 + 1, L + 1 + 1 + 1, L + 1 + 1, L + 1, 64] R2 ps rest)
        ⟨oI, oK, oT, #[], R2, _, _, _, ⟨rfl, rfl, trivial⟩, rfl, dI, dK, dT, ⟨fun _ h => h, fun p hp hq => ?_, .inl rfl⟩⟩ ?_ ?_
      · simp only [List.mem_cons, List.not_mem_nil, or_false] at hq
        rcases hq with e | e | e | e | e
        · exact f4 p hp e
        · exact f3 p hp e
        · exact f2 p hp e
        · exact f1 p hp e
        · exact f5 p hp e
      · clear F N dI dK dT hr hWl f1 f2 f3 f4 f5
        intro k tk0 m news own h₆ tk₆ I hI2 hk hJK hnI hown hIo F N
        obtain ⟨oI, oK, oT, ps, rest, vI, vK, vT, hm, rfl, dI, dK, dT, hT⟩ := hJK
        replace F := hm.fr F
        simp only [List.cons_append] at N
        have fall : ∀ b ob, (b, ob) ∈ (L + 1 + 1 + 1 + 1, oI) :: (L + 1 + 1 + 1, oK) :: (L + 1 + 1, oT) :: (L + 1, oW) :: (64, tabObj ps) :: rest → b ∈ [L + 1 + 1 + 1 + 1, L + 1 + 1 + 1, L + 1 + 1, L + 1, 64] → ∀ p ∈ rest ++ own, p.1 ≠ b := fun b ob hb hb2 p hp e => by
          rcases List.mem_append.mp hp with hp | hp
          · exact hT.off p hp (e ▸ hb2)
          · exact hnI _ hb (e.symm.trans (hown p hp))
        have f3 := fall (L + 1 + 1 + 1) oK (.tail _ (.head _)) (by simp)
        have hkq : os[k]? = some (os[k]'hk) := List.getElem?_eq_getElem hk
        have hWb : (W, oWl) ∈ rest ++ own := List.mem_append_left _ (hT.sub _ hWm)
        have hosb : ∀ q ∈ os, q ∈ rest ++ own := fun q hq => List.mem_append_left _ (hT.sub _ (hosm q hq))
        obtain ⟨B, hB⟩ : ∃ B, B = rest ++ own := ⟨_, rfl⟩
        rw [← hB] at N f3 hWb hosb fall
        walk_at "GO"
        refine Stop.go ?_
        refine wpAny_For ?_
        walk_at "GO"
        refine Stop.go ?_
        rename Fr _ _ _ _ => F
        rename News _ _ _ _ => N
        rename_i h₇ oK₂ dK₂
        refine words_item (os := os) (k := k) ⟨oWl, N.get (mem5 hWb), cW, nW, eW⟩ hkq (by omega) ?_
        walk_at "GO"
        refine Stop.go ?_
        refine words_prev (os := os) (k := k) ⟨oWl, N.get (mem5 hWb), cW, nW, eW⟩ hk (by omega) (fun q2 j hq2 => ?_)
        walk_at "GO"
        refine Stop.go ?_
        refine newList_K F N fun D2 h' F N hlt => ?_
        walk_at "GO"
        refine Stop.go ?_
        have hD2l := N.isList (.head _)
        have hD2L : D2 ≠ L := (N _ (.head _)).2.1
        have hD2c : ∀ b ob, (b, ob) ∈ (L + 1 + 1 + 1 + 1, oI) :: (L + 1 + 1 + 1, oK₂) :: (L + 1 + 1, oT) :: (L + 1, oW) :: (64, tabObj ps) :: B → b ≠ D2 := fun b ob hb => Nat.ne_of_lt (hlt _ hb)
        replace N : News g L h' ((L + 1 + 1 + 1 + 1, oI) :: (L + 1 + 1 + 1, oK₂) :: (L + 1 + 1, oT) :: (L + 1, oW) :: (64, tabObj ps) :: B) := fun p hp => N p (.tail _ hp)
        have hgc : ∀ b ob, (b, ob) ∈ (L + 1 + 1 + 1 + 1, oI) :: (L + 1 + 1 + 1, oK₂) :: (L + 1 + 1, oT) :: (L + 1, oW) :: (64, tabObj ps) :: B → h'.get? b = some ob := fun b ob hb => (N _ hb).1
        obtain ⟨d1, hd1, hw1⟩ : ∃ d, d ∈ words ns ∧ WordAt (os[k]'hk) d := by
          have hd : (words ns)[k]? = some ((words ns)[k]'(hol ▸ hk)) := List.getElem?_eq_getElem _
          exact ⟨_, List.mem_of_getElem? hd, hW.2 k _ _ hkq hd⟩
        obtain ⟨d2, hd2, hw2⟩ : ∃ d, d ∈ words ns ∧ WordAt q2 d := by
          have hj := (List.getElem?_eq_some_iff.mp hq2).1
          have hd : (words ns)[j]? = some ((words ns)[j]'(hol ▸ hj)) := List.getElem?_eq_getElem _
          exact ⟨_, List.mem_of_getElem? hd, hW.2 j _ _ hq2 hd⟩
        have hq1m : os[k]'hk ∈ os := List.getElem_mem hk
        have hq2m : q2 ∈ os := List.mem_of_getElem? hq2
        generalize os[k]'hk = q1 at *
        refine iter_listO (vs := [.ref q1.1, .ref q2.1]) (L := L) rfl rfl hD2l hD2L F N
          (fun j m news => ∃ oI ps rest vI, Has m [("texts", .ref Tx), ("row", .ref Rw)] ∧ news = (L + 1 + 1 + 1 + 1, oI) :: (L + 1 + 1 + 1, oK₂) :: (L + 1 + 1, oT) :: (L + 1, oW) :: (64, tabObj ps) :: (rest ++ own) ∧
            oI.data = .cell vI ∧ Tail [L + 1 + 1 + 1 + 1, L + 1 + 1 + 1, L + 1 + 1, L + 1, 64, I] R2 ps rest)
          ⟨oI, ps, rest, vI, ⟨rfl, rfl, trivial⟩, by rw [hB], dI, ⟨hT.sub, fun p hp hq => ?_, hT.tab⟩⟩ ?_ ?_
        · have h1 := hT.off p hp
          have h2 := hnI p (mem5 hp)
          simp only [List.mem_cons, List.not_mem_nil, or_false] at hq h1
          rcases hq with e | e | e | e | e | e
          · exact h1 (.inl e)
          · exact h1 (.inr (.inl e))
          · exact h1 (.inr (.inr (.inl e)))
          · exact h1 (.inr (.inr (.inr (.inl e))))
          · exact h1 (.inr (.inr (.inr (.inr e))))
          · exact h2 e
        · have hnIc : ∀ b ob, (b, ob) ∈ (L + 1 + 1 + 1 + 1, oI) :: (L + 1 + 1 + 1, oK) :: (L + 1 + 1, oT) :: (L + 1, oW) :: (64, tabObj ps) :: rest → b ≠ I := fun b ob hb => hnI _ hb
          clear hm hnI hT F N dI
          intro j v m news own₂ h₈ tk₈ I₂ hI₂ hv hJ2 hnI₂ hown₂ hIo₂ F N
          obtain ⟨oI₂, ps₂, rest₂, vI₂, hm, rfl, dI, hT⟩ := hJ2
          replace F := hm.fr F
          obtain ⟨qo, od, rfl, hqo, hwo, hod⟩ : ∃ qo od, v = .ref qo.1 ∧ qo ∈ os ∧ WordAt qo od ∧ od ∈ words ns := by
            rcases j with _ | _ | j
            · exact ⟨q1, d1, by simpa using hv.symm, hq1m, hw1, hd1⟩
            · exact ⟨q2, d2, by simpa using hv.symm, hq2m, hw2, hd2⟩
            · simp at hv
          have o1 := words_ok hd1
          have oo := words_ok hod
          have l1a := piece_len o1.1
          have l1b := piece_len o1.2.1
          have lob := piece_len oo.2.1
          have loc := piece_len oo.2.2
          simp only [List.cons_append] at N
          have fall2 : ∀ b ob ob2, (b, ob) ∈ (L + 1 + 1 + 1 + 1, oI) :: (L + 1 + 1 + 1, oK) :: (L + 1 + 1, oT) :: (L + 1, oW) :: (64, tabObj ps) :: rest → b ∈ [L + 1 + 1 + 1 + 1, L + 1 + 1 + 1, L + 1 + 1, L + 1, 64] →
              (b, ob2) ∈ (L + 1 + 1 + 1 + 1, oI₂) :: (L + 1 + 1 + 1, oK₂) :: (L + 1 + 1, oT) :: (L + 1, oW) :: (64, tabObj ps₂) :: (rest₂ ++ own) → b ≠ D2 → ∀ p ∈ rest₂ ++ own ++ own₂, p.1 ≠ b := fun b ob ob2 hb hb2 hb3 hbD p hp e => by
            rcases List.mem_append.mp hp with hp | hp
            · rcases List.mem_append.mp hp with hp | hp
              · exact hT.off p hp (mem_5_6 (e ▸ hb2))
              · exact hnIc _ _ hb (e.symm.trans (hown p hp))
            · rcases hown₂ p hp with e2 | e2
              · exact hnI₂ _ hb3 (e.symm.trans e2)
              · exact hbD (e.symm.trans e2)
          have f4 := fall2 _ _ _ (.head _) (by simp) (.head _) (hD2c _ _ (.head _))
          have f5 := fall2 _ _ _ (.tail _ (.tail _ (.tail _ (.tail _ (.head _))))) (by simp) (.tail _ (.tail _ (.tail _ (.tail _ (.head _))))) (hD2c _ _ (.tail _ (.tail _ (.tail _ (.tail _ (.head _))))))
          have hin : ∀ q ∈ R2, q ∈ rest₂ ++ own ++ own₂ := fun q hq => List.mem_append_left _ (List.mem_append_left _ (hT.sub q hq))
          have hTb := hin _ hTm
          have hRb := hin _ hRm
          have hWb := hin _ hWm
          have hosb : ∀ q ∈ os, q ∈ rest₂ ++ own ++ own₂ := fun q hq => hin _ (hosm q hq)
          have hTab := hT.tab.mono (r' := rest₂ ++ own ++ own₂) fun q hq => List.mem_append_left _ (List.mem_append_left _ hq)
          obtain ⟨B₂, hB₂⟩ : ∃ B₂, B₂ = rest₂ ++ own ++ own₂ := ⟨_, rfl⟩
          rw [← hB₂] at N f4 f5 hTb hRb hWb hosb hTab
          walk_at "GO"
          refine Stop.go ?_
          rename Fr _ _ _ _ => F
          rename News _ _ _ _ => N
          refine words_item (os := os) (k := k) ⟨oWl, N.get (mem5 hWb), cW, nW, eW⟩ hkq (by omega) ?_
          walk_at "GO"
          refine Stop.go ?_
          refine word_item0 (q := q1) (d := d1) (N.get (mem5 (hosb _ hq1m))) hw1 (fun t1 => ?_)
          walk_at "GO"
          refine Stop.go ?_
          rename Fr _ _ _ _ => F
          rename News _ _ _ _ => N
          refine word_item1 (q := qo) (d := od) (N.get (mem5 (hosb _ hqo))) hwo (fun t2 => ?_)
          walk_at "GO"
          refine Stop.go ?_
          rename Fr _ _ _ _ => F
          rename News _ _ _ _ => N
          rename_i h₁₀ oI₃ dI₃
          refine word_item2 (q := qo) (d := od) (N.get (mem5 (hosb _ hqo))) hwo (fun t3 => ?_)
          walk_at "GO"
          refine Stop.go ?_
          rename Fr _ _ _ _ => F
          rename News _ _ _ _ => N
          refine wpAny_call (due_c (X.keeps F.keep) (T.keeps F.keep) (by decide) ⟨oTx, N.get (mem5 hTb), cTx, dTx⟩ hJ (by omega) hts100 (by omega) (by omega) fun h' tk' Dd vd due st hDn hDl hds hdp hdsrt => ?_)
          dsimp only
          obtain ⟨oD, gD, cD, nD, eD⟩ := LObj hDl
          have ND := news_fresh (l := [(Dd, oD)]) F (h' := h') (fun q hq => by rw [List.mem_singleton.mp hq]; exact ⟨gD, hDn⟩)
          have hD64 : Dd ≠ 64 := off_new (N.get (.tail _ (.tail _ (.tail _ (.tail _ (.head _)))))) hDn
          replace F := F.kept st
          replace N := ND.append (show News g L h' _ from fun p hp => ⟨st _ _ (N p hp).1, (N p hp).2⟩)
          simp only [List.cons_append, List.nil_append] at N
          clear ND hDn hDl gD st
          have hdl : due.length ≤ 7 := by
            rw [hdp.length_eq]
            have := List.length_filterMap_le (dueF d1.a od.c) ts
            omega
          walk_at "GO"
          refine Stop.go ?_
          rename Fr _ _ _ _ => F
          rename News _ _ _ _ => N
          rename_i h₉ ta ka aa tb kb ab
          have h64m : (64, tabObj ps₂) ∈ (Dd, oD) :: (L + 1 + 1 + 1 + 1, oI₃) :: (L + 1 + 1 + 1, oK₂) :: (L + 1 + 1, oT) :: (L + 1, oW) :: (64, tabObj ps₂) :: B₂ := .tail _ (.tail _ (.tail _ (.tail _ (.tail _ (.head _)))))
          have hg64 : g.get? 64 = none := (N _ h64m).2.2
          have hL64 : L ≠ 64 := Ne.symm (N _ h64m).2.1
          have hkeep : ∀ b o, g.get? b = some o → (h₉.hide 64).get? b = some o := fun b o e => (Heap.hide_ne _ (fun q => by rw [q, hg64] at e; cases e)).trans (F.keep b o e)
          have hN64 : ∀ p ∈ (Dd, oD) :: (L + 1 + 1 + 1 + 1, oI₃) :: (L + 1 + 1 + 1, oK₂) :: (L + 1 + 1, oT) :: (L + 1, oW) :: B₂, p.1 ≠ 64 := fun p hp => by
            simp only [List.mem_cons] at hp
            rcases hp with rfl | rfl | rfl | rfl | rfl | hp
            · exact hD64
            · exact Nat.ne_of_gt (by omega)
            · exact Nat.ne_of_gt (by omega)
            · exact Nat.ne_of_gt (by omega)
            · exact Nat.ne_of_gt (by omega)
            · exact f5 p hp
          have hsl : ss'.length < 64 := by rw [hrp.length_eq]; exact hsum
          have ht9 : ∀ y ∈ ts, y.length ≤ 9 := fun y hy => by
            rw [← hts] at hy
            obtain ⟨d, hd, rfl⟩ := List.mem_map.mp hy
            exact word_len (words_ok hd)
          refine wpAny_call (behind_c (ps := ps₂) (X.keeps hkeep) (T.keeps hkeep) (C0.keeps hkeep) (N.get h64m) (hTab.ok (fun p hp => N p (.tail _ (mem5 hp))) f5) (by decide) (by decide) ⟨oR, (Heap.hide_ne _ (f5 _ hRb)).trans (N.get (.tail _ (mem5 hRb))), cR, nR, eR⟩ hrs hsl hrr (fun y hy => turns_len ht9 (hrp.mem_iff.mp hy)) (by rw [len_app, len_app]; show _ + 1 + _ ≤ 100; omega)
            fun h' tk' Db ps' vb low high st h64' htab hbl hbs hlow hhigh => ?_)
          dsimp only
          have hst : ∀ b o, b ≠ 64 → h₉.get? b = some o → h'.get? b = some o := fun b o hb e => st b o ((Heap.hide_ne _ hb).trans e)
          obtain ⟨cx, ox, hcx, htx⟩ : ∃ cx ox, (h'.get? cx = some ox ∧ cx ≠ L ∧ g.get? cx = none) ∧ ((ps' = ps₂ ∧ (cx, ox) = (Tx, oTx)) ∨ (h₉.objs.size ≤ cx ∧ ps' = #[rawInt lamPos.line, rawInt lamPos.col, .ref cx] ∧ CodeObj ox lamQual)) := by
            rcases htab with e | ⟨c', o, hc1, hc2, hc3, hc4⟩
            · exact ⟨Tx, oTx, ⟨hst _ _ (f5 _ hTb) (N.get (.tail _ (mem5 hTb))), (N _ (.tail _ (mem5 hTb))).2⟩, .inl ⟨e, rfl⟩⟩
            · refine ⟨c', o, ⟨hc3, Nat.ne_of_gt (Nat.lt_of_lt_of_le F.ns.lt hc1), ?_⟩, .inr ⟨hc1, hc2, hc4⟩⟩
              cases e : g.get? c' with
              | none => rfl
              | some o' => exact absurd (Heap.lt_size (F.keep _ _ e)) (Nat.not_lt.mpr hc1)
          have hszN : ∀ p ∈ (Dd, oD) :: (L + 1 + 1 + 1 + 1, oI₃) :: (L + 1 + 1 + 1, oK₂) :: (L + 1 + 1, oT) :: (L + 1, oW) :: (64, tabObj ps₂) :: B₂, p.1 < h₉.objs.size := fun p hp => Heap.lt_size (N p hp).1
          replace F : Fr g L h' _ := ⟨F.ns.at' (fun o e => hst _ o hL64 e), fun b o e => st b o (hkeep b o e), F.above⟩
          replace N : News g L h' ((cx, ox) :: (Dd, oD) :: (L + 1 + 1 + 1 + 1, oI₃) :: (L + 1 + 1 + 1, oK₂) :: (L + 1 + 1, oT) :: (L + 1, oW) :: (64, tabObj ps') :: B₂) := fun p hp => by
            have N' : ∀ p ∈ (Dd, oD) :: (L + 1 + 1 + 1 + 1, oI₃) :: (L + 1 + 1 + 1, oK₂) :: (L + 1 + 1, oT) :: (L + 1, oW) :: B₂, h'.get? p.1 = some p.2 ∧ p.1 ≠ L ∧ g.get? p.1 = none := fun p hp => by
              have hp' : p ∈ (Dd, oD) :: (L + 1 + 1 + 1 + 1, oI₃) :: (L + 1 + 1 + 1, oK₂) :: (L + 1 + 1, oT) :: (L + 1, oW) :: (64, tabObj ps₂) :: B₂ := by
                simp only [List.mem_cons] at hp ⊢
                rcases hp with h | h | h | h | h | h <;> simp [h]
              exact ⟨hst _ _ (hN64 p hp) (N p hp').1, (N p hp').2⟩
            simp only [List.mem_cons] at hp
            rcases hp with rfl | rfl | rfl | rfl | rfl | rfl | rfl | hp
            · exact hcx
            · exact N' _ (.head _)
            · exact N' _ (.tail _ (.head _))
            · exact N' _ (.tail _ (.tail _ (.head _)))
            · exact N' _ (.tail _ (.tail _ (.tail _ (.head _))))
            · exact N' _ (.tail _ (.tail _ (.tail _ (.tail _ (.head _)))))
            · exact ⟨h64', Ne.symm hL64, hg64⟩
            · exact N' _ (mem5 hp)
          have hbe := behind_law (hts ▸ hrp) hrr o1.1 oo.2.2 (hts ▸ hdp) hdsrt hlow hhigh
          rw [hbe] at hbs
          clear hcx st hst hkeep hN64 h64m hlow hhigh hbe htab
          walk_at "GO"
          refine Stop.go ?_
          refine ne_strs hbl ⟨oD, N.get (.tail _ (.head _)), cD, nD, eD⟩ hbs hds (by show 4 + 3 < 9900; omega) ?_
          rw [decide_eq_true (rfl : due = due)]
          walk_at "GO"
          refine Stop.go ?_
          have hdue := due_len hdp ht9
          have s1 := split1 o1.1 oo.2.2
          have s2 := split2 o1.1 oo.2.1 oo.2.2
          have s3 := split3 o1.1 oo.2.1 o1.2.1 oo.2.2
          refine wpAny_call (told_c (X.keeps F.keep) (T.keeps F.keep) (by decide) ⟨oTx, N.get (.tail _ (.tail _ (mem5 hTb))), cTx, dTx⟩ hJ (by omega) hts100 (by omega) (by omega) (by rw [len_app, len_app]; show _ + 3 + _ ≤ 100; omega) s1.1 s1.2 (by simp) (by omega) (by omega) (fun y hy => by cases hy) fun h' tk' D vt tt st hDl htS htP htO => ?_)
          dsimp only
          replace F := F.kept st
          replace N : News g L h' _ := fun p hp => ⟨st _ _ (N p hp).1, (N p hp).2⟩
          have hte := told_law (fun _ => true) (fun y _ => told1 y _ _) hdp hdsrt htP htO
          clear st htP htO
          rw [List.filter_eq_self.mpr (fun _ _ => rfl)] at hte
          replace hte := hte.symm
          subst hte
          walk_at "GO"
          refine Stop.go ?_
          refine ne_strs hDl ⟨oD, N.get (.tail _ (.head _)), cD, nD, eD⟩ htS hds (by show 4 + 3 < 9900; omega) ?_
          rw [decide_eq_true (rfl : due = due)]
          clear hDl htS
          walk_at "GO"
          refine Stop.go ?_
          refine srcT (its := vd) rfl F N (.inr ⟨oD, .tail _ (.head _), cD, nD, eD⟩) (by have := hds.length; omega) (fun gg => ?_)
          refine restT (fun i ys => StrsAre ys ((due.take i).filter fun gap => !(Builtin.Str.occurrences gap od.b 0 gap.length 1).isEmpty)) (.inr ⟨oD, .tail _ (.head _), cD, nD, eD⟩) .nil ?_ ?_
          · intro i v I oIt C oC D m₂ ys h₂ tk₂ hi hP hJ5 hC hx F N
            obtain ⟨y, ty, rfl, hy⟩ := hds.item i v (by simpa using hP)
            have hyl9 := hdue y (List.mem_of_getElem? hy)
            walk_at "GO"
            · rename (List.isEmpty _ = true) => hb
              refine Stop.go (CEnd.mk F N (fun q hq => hq) ?_)
              rw [filter_take_succ _ hy, if_neg (by rw [hb]; decide), List.append_nil]
              exact hJ5
            · rename (List.isEmpty _ = false) => hb
              refine Stop.go (CEnd.mk F N (fun q hq => hq) ?_)
              rw [filter_take_succ _ hy, if_pos (by rw [hb]; rfl)]
              exact strs_push hJ5 _ _
          · intro wv hwS Dw h₂ tk₂ F N off
            rw [List.size_toArray, hds.length, List.take_length] at hwS
            clear off
            walk_at "GO"
            refine Stop.go ?_
            refine wpAny_call (told_c (X.keeps F.keep) (T.keeps F.keep) (by decide) ⟨oTx, N.get (.tail _ (.tail _ (.tail _ (mem5 hTb)))), cTx, dTx⟩ hJ (by omega) hts100 (by omega) (by omega) (by rw [len_app, len_app, len_app, len_app]; show _ + 3 + _ + 3 + _ ≤ 100; omega) s2.1 s2.2 (by simp) (by omega) (by omega) (fun y hy => by rw [List.mem_singleton.mp hy]; omega) fun h' tk' D vt tt st hDl htS htP htO => ?_)
            dsimp only
            replace F := F.kept st
            replace N : News g L h' _ := fun p hp => ⟨st _ _ (N p hp).1, (N p hp).2⟩
            have hte := told_law (fun gap => !(Builtin.Str.occurrences gap od.b 0 gap.length 1).isEmpty) (fun y _ => told2 y _ _ _) hdp hdsrt htP htO
            clear st htP htO
            subst hte
            walk_at "GO"
            refine Stop.go ?_
            refine ne_strs hDl (N.isList (.head _)) htS hwS (by show 4 + 3 < 9900; omega) ?_
            rw [decide_eq_true rfl]
            clear hDl htS
            walk_at "GO"
            refine Stop.go ?_
            refine srcT (its := vd) rfl F N (.inr ⟨oD, .tail _ (.tail _ (.head _)), cD, nD, eD⟩) (by have := hds.length; omega) (fun gg => ?_)
            refine restT (fun i ys => StrsAre ys ((due.take i).filter fun gap => holdsL gap od.b d1.b)) (.inr ⟨oD, .tail _ (.tail _ (.head _)), cD, nD, eD⟩) .nil ?_ ?_
            · intro i v I oIt C oC D m₂ ys h₂ tk₂ hi hP hJ5 hC hx F N
              obtain ⟨y, ty, rfl, hy⟩ := hds.item i v (by simpa using hP)
              have hyl9 := hdue y (List.mem_of_getElem? hy)
              walk_at "GO"
              refine Stop.go ?_
              refine words_item (os := os) (k := k) ⟨oWl, N.get (.tail _ (.tail _ (.tail _ (.tail _ (.tail _ (.tail _ (mem5 hWb))))))), cW, nW, eW⟩ hkq (by omega) ?_
              walk_at "GO"
              refine Stop.go ?_
              refine word_item1 (q := q1) (d := d1) (N.get (.tail _ (.tail _ (.tail _ (.tail _ (.tail _ (.tail _ (mem5 (hosb _ hq1m))))))))) hw1 (fun t4 => ?_)
              walk_at "GO"
              refine Stop.go ?_
              refine wpAny_call (holds_c (X.keeps F.keep) (T.keeps F.keep) (by decide) (by decide) hyl9 (by omega) (by omega) fun h' tk' st => ?_)
              dsimp only
              replace F := F.kept st
              replace N : News g L h' _ := fun p hp => ⟨st _ _ (N p hp).1, (N p hp).2⟩
              cases hb : holdsL y od.b d1.b with
              | true =>
                walk_at "GO"
                refine Stop.go (CEnd.mk F N (fun q hq => hq) ?_)
                rw [filter_take_succ _ hy, if_pos hb]
                exact strs_push hJ5 _ _
              | false =>
                walk_at "GO"
                refine Stop.go (CEnd.mk F N (fun q hq => hq) ?_)
                rw [filter_take_succ _ hy, if_neg (by rw [hb]; decide), List.append_nil]
                exact hJ5
            · intro bv hbS2 Dq h₃ tk₃ F N off
              rw [List.size_toArray, hds.length, List.take_length] at hbS2
              clear off
              have hms3 : ∀ y ∈ [od.b, d1.b], y.length ≤ 100 := fun y hy => by
                simp only [List.mem_cons, List.not_mem_nil, or_false] at hy
                rcases hy with rfl | rfl <;> omega
              walk_at "GO"
              refine Stop.go ?_
              refine words_item (os := os) (k := k) ⟨oWl, N.get (.tail _ (.tail _ (.tail _ (.tail _ (mem5 hWb))))), cW, nW, eW⟩ hkq (by omega) ?_
              walk_at "GO"
              refine Stop.go ?_
              refine word_item1 (q := q1) (d := d1) (N.get (.tail _ (.tail _ (.tail _ (.tail _ (mem5 (hosb _ hq1m))))))) hw1 (fun t4 => ?_)
              walk_at "GO"
              refine Stop.go ?_
              refine wpAny_call (told_c (X.keeps F.keep) (T.keeps F.keep) (by decide) ⟨oTx, N.get (.tail _ (.tail _ (.tail _ (.tail _ (mem5 hTb))))), cTx, dTx⟩ hJ (by omega) hts100 (by omega) (by omega) (by rw [len_app, len_app, len_app, len_app, len_app, len_app]; show _ + 3 + _ + 3 + _ + 3 + _ ≤ 100; omega) s3.1 s3.2 (by simp) (by omega) (by omega) (hms3) fun h' tk' D vt tt st hDl htS htP htO => ?_)
              dsimp only
              replace F := F.kept st
              replace N : News g L h' _ := fun p hp => ⟨st _ _ (N p hp).1, (N p hp).2⟩
              have hte := told_law (fun gap => holdsL gap od.b d1.b) (fun y _ => told3 y _ _ _ _) hdp hdsrt htP htO
              clear st htP htO
              subst hte
              walk_at "GO"
              refine Stop.go ?_
              refine ne_strs hDl (N.isList (.head _)) htS hbS2 (by show 4 + 3 < 9900; omega) ?_
              rw [decide_eq_true rfl]
              clear hDl htS
              walk_at "GO"
              simp only [TurnQ]
              subst hB₂
              obtain ⟨oI1, hIo⟩ := hIo
              obtain ⟨oI2, hIo₂⟩ := hIo₂
              obtain ⟨rest₃, hr3a, hr3s, hr3o, hr3t, hr3I⟩ : ∃ rest₃, (∀ p ∈ rest₃, p ∈ (cx, ox) :: rest₂) ∧ (∀ p ∈ rest₂, p ∈ rest₃) ∧ (∀ p ∈ rest₃, p.1 ∉ [L + 1 + 1 + 1 + 1, L + 1 + 1 + 1, L + 1 + 1, L + 1, 64, I]) ∧ TabR ps' rest₃ ∧ (∀ p ∈ rest₃, p.1 ≠ I₂) := by
                rcases htx with ⟨rfl, _⟩ | ⟨hge, hps, hco⟩
                · exact ⟨rest₂, fun p hp => .tail _ hp, fun p hp => hp, hT.off, hT.tab, fun p hp => hnI₂ p (mem5 (List.mem_append_left _ hp))⟩
                · have hgt : ∀ b ob, (b, ob) ∈ (Dd, oD) :: (L + 1 + 1 + 1 + 1, oI₃) :: (L + 1 + 1 + 1, oK₂) :: (L + 1 + 1, oT) :: (L + 1, oW) :: (64, tabObj ps₂) :: (rest₂ ++ own ++ own₂) → cx ≠ b := fun b ob hb => Nat.ne_of_gt (Nat.lt_of_lt_of_le (hszN _ hb) hge)
                  refine ⟨(cx, ox) :: rest₂, fun p hp => hp, fun p hp => .tail _ hp, fun p hp => ?_, .inr ⟨cx, ox, hps, .head _, hco⟩, fun p hp => ?_⟩
                  · rcases List.mem_cons.mp hp with rfl | hp
                    · intro hq
                      simp only [List.mem_cons, List.not_mem_nil, or_false] at hq
                      rcases hq with e | e | e | e | e | e
                      · exact hgt _ _ (.tail _ (.head _)) e
                      · exact hgt _ _ (.tail _ (.tail _ (.head _))) e
                      · exact hgt _ _ (.tail _ (.tail _ (.tail _ (.head _)))) e
                      · exact hgt _ _ (.tail _ (.tail _ (.tail _ (.tail _ (.head _))))) e
                      · exact hgt _ _ (.tail _ (.tail _ (.tail _ (.tail _ (.tail _ (.head _)))))) e
                      · exact hgt _ _ (.tail _ (mem5 (List.mem_append_left _ (List.mem_append_right _ hIo)))) e
                    · exact hT.off p hp
                  · rcases List.mem_cons.mp hp with rfl | hp
                    · exact hgt _ _ (.tail _ (mem5 (List.mem_append_right _ hIo₂)))
                    · exact hnI₂ p (mem5 (List.mem_append_left _ hp))
              refine Turn.mk (news' := (L + 1 + 1 + 1 + 1, oI₃) :: (L + 1 + 1 + 1, oK₂) :: (L + 1 + 1, oT) :: (L + 1, oW) :: (64, tabObj ps') :: (rest₃ ++ own)) F N (fun q hq => ?_) (fun q hq => .tail _ (.tail _ (.tail _ (.tail _ (mem5 (List.mem_append_right _ hq)))))) (fun q hq => ?_)
                ⟨oI₃, ps', rest₃, _, ⟨rfl, rfl, trivial⟩, rfl, dI₃, ⟨fun q hq => hr3s q (hT.sub q hq), hr3o, hr3t⟩⟩
              · rcases mem5_cases hq with e | e | e | e | e | hq
                · rw [e]; exact .tail _ (.tail _ (.tail _ (.tail _ (.head _))))
                · rw [e]; exact .tail _ (.tail _ (.tail _ (.tail _ (.tail _ (.head _)))))
                · rw [e]; exact .tail _ (.tail _ (.tail _ (.tail _ (.tail _ (.tail _ (.head _))))))
                · rw [e]; exact .tail _ (.tail _ (.tail _ (.tail _ (.tail _ (.tail _ (.tail _ (.head _)))))))
                · rw [e]; exact .tail _ (.tail _ (.tail _ (.tail _ (.tail _ (.tail _ (.tail _ (.tail _ (.head _))))))))
                · rcases List.mem_append.mp hq with hq | hq
                  · rcases List.mem_cons.mp (hr3a q hq) with e | hq
                    · rw [e]; exact .tail _ (.tail _ (.head _))
                    · exact .tail _ (.tail _ (.tail _ (.tail _ (mem5 (List.mem_append_left _ (List.mem_append_left _ hq))))))
                  · exact .tail _ (.tail _ (.tail _ (.tail _ (mem5 (List.mem_append_left _ (List.mem_append_right _ hq))))))
              · rcases mem5_cases hq with e | e | e | e | e | hq
                · rw [e]; simpa using hnI₂ (L + 1 + 1 + 1 + 1, oI₂) (.head _)
                · rw [e]; simpa using hnI₂ (L + 1 + 1 + 1, oK₂) (.tail _ (.head _))
                · rw [e]; simpa using hnI₂ (L + 1 + 1, oT) (.tail _ (.tail _ (.head _)))
                · rw [e]; simpa using hnI₂ (L + 1, oW) (.tail _ (.tail _ (.tail _ (.head _))))
                · rw [e]; simpa using hnI₂ (64, tabObj ps₂) (.tail _ (.tail _ (.tail _ (.tail _ (.head _)))))
                · rcases List.mem_append.mp hq with hq | hq
                  · simpa using hr3I q hq
                  · simpa using hnI₂ q (mem5 (List.mem_append_right _ hq))
        · rintro m news h₈ tk₈ ⟨oI₂, ps₂, rest₂, vI₂, hm, rfl, dI, hT₂⟩ F N
          replace F := hm.fr F
          walk_at "GO"
          simp only [TurnQ]
          refine Turn.mk (news' := (L + 1 + 1 + 1 + 1, oI₂) :: (L + 1 + 1 + 1, oK₂) :: (L + 1 + 1, oT) :: (L + 1, oW) :: (64, tabObj ps₂) :: rest₂) F N (fun q hq => mem5_mono hq) (fun q hq => mem5 (List.mem_append_right _ hq)) (fun q hq => ?_) ⟨oI₂, oK₂, oT, ps₂, rest₂, _, _, _, ⟨rfl, rfl, trivial⟩, rfl, dI, dK₂, dT, ⟨hT₂.sub, fun p hp hq => hT₂.off p hp (mem_5_6 hq), hT₂.tab⟩⟩
          rcases mem5_cases hq with e | e | e | e | e | hq
          · rw [e]; simpa using hnI (L + 1 + 1 + 1 + 1, oI) (.head _)
          · rw [e]; simpa using hnI (L + 1 + 1 + 1, oK) (.tail _ (.head _))
          · rw [e]; simpa using hnI (L + 1 + 1, oT) (.tail _ (.tail _ (.head _)))
          · rw [e]; simpa using hnI (L + 1, oW) (.tail _ (.tail _ (.tail _ (.head _))))
          · rw [e]; simpa using hnI (64, tabObj ps) (.tail _ (.tail _ (.tail _ (.tail _ (.head _)))))
          · exact fun e => hT₂.off q hq (by rw [List.mem_singleton.mp e]; simp)
      · clear F N dI dK dT hr hWl f1 f2 f3 f4 f5
        rintro m news h₆ tk₆ ⟨oI, oK, oT, ps, rest, vI, vK, vT, hm, rfl, dI, dK, dT, hT⟩ F N
        replace F := hm.fr F
        have f2 : ∀ p ∈ rest, p.1 ≠ L + 1 + 1 := fun p hp e => hT.off p hp (by simp [e])
        walk_at "GO"
        refine Stop.go ?_
        refine wpAny_For ?_
        walk_at "GO"
        refine Stop.go ?_
        have hTmr := hT.sub _ hTm
        have hRmr := hT.sub _ hRm
        have hTl : h₆.IsList Tx ys.toArray := ⟨oTx, N.get (mem5 hTmr), cTx, dTx⟩
        have hTL : Tx ≠ L := (N _ (mem5 hTmr)).2.1
        have hT2 : Tx ≠ L + 1 + 1 := f2 _ hTmr
        have g2 := N.get (.tail _ (.tail _ (.head _)))
        refine iter_listO (L := L) rfl rfl hTl hTL F N
          (fun i m news => ∃ oT vT, Has m [("texts", .ref Tx), ("row", .ref Rw)] ∧ news = (L + 1 + 1 + 1 + 1, oI) :: (L + 1 + 1 + 1, oK) :: (L + 1 + 1, oT) :: (L + 1, oW) :: (64, tabObj ps) :: rest ∧ oT.data = .cell vT)
          ⟨oT, vT, ⟨rfl, rfl, trivial⟩, rfl, dT⟩ ?_ ?_
        · intro i v m news own h₇ tk₇ I hI2 hv hJ3 hnI hown hIo F N
          obtain ⟨oT, vT, hm, rfl, dT⟩ := hJ3
          obtain ⟨y, ty, rfl, hy⟩ := hJ.item i v hv
          replace F := hm.fr F
          have hyl9 := hts100 y (List.mem_of_getElem? hy)
          have fI : (L + 1 + 1) ≠ I := hI2 _ _ g2
          simp only [List.cons_append] at N
          have f2 : ∀ p ∈ rest ++ own, p.1 ≠ L + 1 + 1 := fun p hp e => by
            rcases List.mem_append.mp hp with hp | hp
            · exact f2 p hp e
            · rcases hown p hp with e2 | e2
              · exact fI (e.symm.trans e2)
              · exact hT2 (e2.symm.trans e)
          have hTb : (Tx, oTx) ∈ rest ++ own := List.mem_append_left _ hTmr
          have hRb : (Rw, oR) ∈ rest ++ own := List.mem_append_left _ hRmr
          obtain ⟨B, hB⟩ : ∃ B, B = rest ++ own := ⟨_, rfl⟩
          rw [← hB] at N f2 hTb hRb
          have hdot : (Builtin.Str.occurrences y "..." 0 y.length 1).isEmpty = true := by
            have hym := List.mem_of_getElem? hy
            rw [← hts] at hym
            obtain ⟨d, hd, rfl⟩ := List.mem_map.mp hym
            exact no_dots (words_ok hd)
          walk_at "GO"
          refine Stop.go ?_
          rename Fr _ _ _ _ => F
          rename News _ _ _ _ => N
          rename_i h₈ oT₂ dT₂
          refine srcT (its := ys) rfl F N (.inr ⟨oTx, mem5 hTb, cTx, dTx⟩) (by omega) (fun gg => ?_)
          refine restT (fun i zs => zs.length = ((ts.take i).filter (fun z => z == y)).length) (.inr ⟨oTx, mem5 hTb, cTx, dTx⟩) rfl ?_ ?_
          · intro i v I oIt C oC D m₂ zs h₂ tk₂ hi hP hJ2 hC hx F N
            obtain ⟨z, tz, rfl, hz⟩ := hJ.item i v (by simpa using hP)
            walk_at "GO"
            · refine Stop.go (CEnd.mk F N (fun q hq => hq) ?_)
              rename ((z == y) = true) => hb
              rw [filter_take_succ _ hz, List.length_append, List.length_append, ← hJ2, if_pos hb]
              rfl
            · refine Stop.go (CEnd.mk F N (fun q hq => hq) ?_)
              rename ((z == y) = false) => hb
              rw [filter_take_succ _ hz, List.length_append, ← hJ2, if_neg (by rw [hb]; decide)]
              rfl
          · intro zs hJ2 Ds h₂ tk₂ F N off
            rw [List.size_toArray, hyl, List.take_length] at hJ2
            walk_at "GO"
            refine Stop.go ?_
            refine LCt.ListComp_T F (by with_unfolding_all rfl) (by decide) rfl (by decide) rfl ?_
            walk_at "GO"
            refine Stop.go ?_
            refine srcT (its := ys) rfl F N (.inr ⟨oTx, .tail _ (mem5 hTb), cTx, dTx⟩) (by omega) (fun gg => ?_)
            refine restT (fun i zs => zs = []) (.inr ⟨oTx, .tail _ (mem5 hTb), cTx, dTx⟩) rfl ?_ ?_
            · intro i v I oIt C oC D m₂ ws h₃ tk₃ hi hP hJ4 hC hx F N
              obtain ⟨z, tz, rfl, hz⟩ := hJ.item i v (by simpa using hP)
              walk_at "GO"
              refine Stop.go ?_
              refine wpAny_call (ell_no_c (X.keeps F.keep) (T.keeps F.keep) (by decide) hdot fun h' tk' st => ?_)
              dsimp only
              replace F := F.kept st
              replace N : News g L h' _ := fun p hp => ⟨st _ _ (N p hp).1, (N p hp).2⟩
              have ebb : (y == z) = (z == y) := by rw [Bool.eq_iff_iff, beq_iff_eq, beq_iff_eq]; exact eq_comm
              rw [ebb]
              walk_at "GO"
              · rename (((z == y) != (z == y)) = true) => hb
                simp at hb
              · exact Stop.go (CEnd.mk F N (fun q hq => hq) hJ4)
            · intro ws hJ4 De h₃ tk₃ F N off2
              subst hJ4
              walk_at "GO"
              refine Stop.go ?_
              refine newList_K F N fun D2 h' F N hlt => ?_
              walk_at "GO"
              refine Stop.go ?_
              refine ne_nil (N.isList (.tail _ (.head _))) (N.isList (.head _)) (by show 4 + 3 < 9900; omega) ?_
              replace N : News g L h' ((Ds, LCg.lst zs) :: (L + 1 + 1 + 1 + 1, oI) :: (L + 1 + 1 + 1, oK) :: (L + 1 + 1, oT₂) :: (L + 1, oW) :: (64, tabObj ps) :: B) := fun p hp => N p (.tail _ (.tail _ hp))
              clear off2 hlt
              walk_at "GO"
              refine Stop.go ?_
              have hsl : ss'.length < 100 := by rw [hrp.length_eq]; omega
              refine wpAny_call (bisect_right_c (.inr ⟨rfl, rfl⟩) (X.keeps F.keep) (T.keeps F.keep) (by decide) ⟨oR, N.get (.tail _ (mem5 hRb)), cR, nR, eR⟩ hrs hsl (srt_mono_r hrr _) fun h' tk' r1 tr1 st hc1 => ?_)
              dsimp only
              replace F := F.kept st
              replace N : News g L h' _ := fun p hp => ⟨st _ _ (N p hp).1, (N p hp).2⟩
              walk_at "GO"
              refine Stop.go ?_
              refine wpAny_call (bisect_left_c (X.keeps F.keep) (T.keeps F.keep) (by decide) ⟨oR, N.get (.tail _ (mem5 hRb)), cR, nR, eR⟩ hrs hsl (srt_mono_l hrr _) fun h' tk' r2 tr2 st hc2 => ?_)
              dsimp only
              replace F := F.kept st
              replace N : News g L h' _ := fun p hp => ⟨st _ _ (N p hp).1, (N p hp).2⟩
              walk_at "GO"
              refine Stop.go ?_
              refine len_listN (n := (ts.filter (fun z => z == y)).length) (N.isList (.head _)) hJ2 (by have := List.length_filter_le (fun z => z == y) ts; omega) ?_
              have hct := count_law (hts ▸ hrp) hrr (hts ▸ List.mem_of_getElem? hy) hc1 hc2
              rw [hts] at hct
              walk_at "GO"
              · rename ((_ : Int) ≠ _) => hne
                exact absurd hct hne
              · simp only [TurnQ]
                subst hB
                refine Turn.mk (news' := (L + 1 + 1 + 1 + 1, oI) :: (L + 1 + 1 + 1, oK) :: (L + 1 + 1, oT₂) :: (L + 1, oW) :: (64, tabObj ps) :: rest) F N (fun q hq => .tail _ (mem5_mono hq)) (fun q hq => .tail _ (mem5 (List.mem_append_right _ hq))) (fun q hq => ?_) ⟨oT₂, _, ⟨rfl, rfl, trivial⟩, rfl, dT₂⟩
                rcases mem5_cases hq with e | e | e | e | e | hq
                · rw [e]; simpa using hnI (L + 1 + 1 + 1 + 1, oI) (.head _)
                · rw [e]; simpa using hnI (L + 1 + 1 + 1, oK) (.tail _ (.head _))
                · rw [e]; simpa using fI
                · rw [e]; simpa using hnI (L + 1, oW) (.tail _ (.tail _ (.tail _ (.head _))))
                · rw [e]; simpa using hnI (64, tabObj ps) (.tail _ (.tail _ (.tail _ (.tail _ (.head _)))))
                · simpa using hnI q (mem5 hq)
        · rintro m news h₇ tk₇ ⟨oT, vT, hm, rfl, dT⟩ F N
          replace F := hm.fr F
          walk_at "GO"
          dsimp only
          w_strict wrow_close
end Mine
end

theorem PySem.Challenge.cw_pe0127_01_holds : PySem.Challenge.rw_pe0127_01.Holds := by
  exact Mine.law_holds
