import PyProof.Rows.All
import Wide.All
import OpenK.AllK
import Wide.FinOn
import PySem.Challenge.RW_pe0007_01
open PySem PySem.W PyProof.Rows PySem.Calls PySem.Spec
set_option Elab.async false
set_option compiler.extract_closed false
set_option linter.unusedVariables false
set_option linter.unusedSimpArgs false
namespace Mine
/-! relations between values and plain data, told by a ledger -/
abbrev Led := List (Addr × Obj)
noncomputable def RI (_ : Led) (v : Value) (i : Int) : Prop := ∃ t, v = .int i t
inductive RA {α : Type} (R : Led → Value → α → Prop) (news : Led) : List Value → List α → Prop
  | nil : RA R news [] []
  | cons {v : Value} {vs : List Value} {x : α} {xs : List α} : R news v x → RA R news vs xs → RA R news (v :: vs) (x :: xs)
noncomputable def RL {α : Type} (R : Led → Value → α → Prop) (news : Led) (v : Value) (xs : List α) : Prop :=
  ∃ a vs n, v = .ref a ∧ (a, PySem.W.listOf (List.toArray vs) n) ∈ news ∧ RA R news vs xs
noncomputable def RP {α β : Type} (R : Led → Value → α → Prop) (S : Led → Value → β → Prop) (news : Led) (v : Value) (p : α × β) : Prop :=
  ∃ a v1 v2 n, v = .ref a ∧ (a, PySem.W.listOf (List.toArray [v1, v2]) n) ∈ news ∧ R news v1 p.1 ∧ S news v2 p.2
noncomputable def Mono {α : Type} (R : Led → Value → α → Prop) : Prop := ∀ (n n' : Led) (v : Value) (x : α), (∀ p ∈ n, p ∈ n') → R n v x → R n' v x
theorem RI.mono : Mono RI := fun _ _ _ _ _ h => h
theorem RA.mono {α : Type} {R : Led → Value → α → Prop} (hR : Mono R) {n n' : Led} (hs : ∀ p ∈ n, p ∈ n') : ∀ {vs : List Value} {xs : List α}, RA R n vs xs → RA R n' vs xs
  | _, _, .nil => .nil
  | _, _, .cons h r => .cons (hR _ _ _ _ hs h) (RA.mono hR hs r)
theorem RL.mono {α : Type} {R : Led → Value → α → Prop} (hR : Mono R) : Mono (RL R) := fun _ _ _ _ hs ⟨a, vs, n, e, hm, h⟩ => ⟨a, vs, n, e, hs _ hm, h.mono hR hs⟩
theorem RP.mono {α β : Type} {R : Led → Value → α → Prop} {S : Led → Value → β → Prop} (hR : Mono R) (hS : Mono S) : Mono (RP R S) :=
  fun _ _ _ _ hs ⟨a, v1, v2, n, e, hm, h1, h2⟩ => ⟨a, v1, v2, n, e, hs _ hm, hR _ _ _ _ hs h1, hS _ _ _ _ hs h2⟩
section
variable {α : Type} {R : Led → Value → α → Prop} {news : Led}
theorem RA.length {vs : List Value} {xs : List α} (h : RA R news vs xs) : vs.length = xs.length := by
  induction h with
  | nil => rfl
  | cons _ _ ih => simp [ih]
theorem RA.append {vs ws : List Value} {xs ys : List α} (h : RA R news vs xs) (k : RA R news ws ys) : RA R news (vs ++ ws) (xs ++ ys) := by
  induction h with
  | nil => exact k
  | cons h _ ih => exact .cons h ih
theorem RA.get {vs : List Value} {xs : List α} (h : RA R news vs xs) : ∀ {i : Nat} {x : α}, xs[i]? = some x → ∃ v, vs[i]? = some v ∧ R news v x := by
  induction h with
  | nil => intro i x e; simp at e
  | cons h _ ih =>
    intro i x e
    cases i with
    | zero => simp at e; subst e; exact ⟨_, rfl, h⟩
    | succ i => simpa using ih (i := i) (x := x) (by simpa using e)
theorem RA.get' {vs : List Value} {xs : List α} (h : RA R news vs xs) : ∀ {i : Nat} {v : Value}, vs[i]? = some v → ∃ x, xs[i]? = some x ∧ R news v x := by
  induction h with
  | nil => intro i x e; simp at e
  | cons h _ ih =>
    intro i x e
    cases i with
    | zero => simp at e; subst e; exact ⟨_, rfl, h⟩
    | succ i => simpa using ih (i := i) (v := x) (by simpa using e)
theorem RA.take {vs : List Value} {xs : List α} (h : RA R news vs xs) : ∀ k : Nat, RA R news (vs.take k) (xs.take k) := by
  induction h with
  | nil => intro k; simp; exact .nil
  | cons h _ ih =>
    intro k
    cases k with
    | zero => exact .nil
    | succ k => exact .cons h (ih k)
theorem RA.drop {vs : List Value} {xs : List α} (h : RA R news vs xs) : ∀ k : Nat, RA R news (vs.drop k) (xs.drop k) := by
  induction h with
  | nil => intro k; simp; exact .nil
  | cons h r ih =>
    intro k
    cases k with
    | zero => exact .cons h r
    | succ k => exact ih k
theorem RA.reverse {vs : List Value} {xs : List α} (h : RA R news vs xs) : RA R news vs.reverse xs.reverse := by
  induction h with
  | nil => exact .nil
  | cons h _ ih => simpa using ih.append (.cons h .nil)
end
theorem RA.ints {news : Led} {vs : List Value} {xs : List Int} (h : RA RI news vs xs) : IntsAre vs xs := by
  induction h with
  | nil => exact .nil
  | cons h _ ih => obtain ⟨t, rfl⟩ := h; exact .cons _ _ ih
theorem RA.ofInts {news : Led} {vs : List Value} {xs : List Int} (h : IntsAre vs xs) : RA RI news vs xs := by
  induction h with
  | nil => exact .nil
  | cons n t _ ih => exact .cons ⟨t, rfl⟩ ih
theorem News.sub {h₀ h : Heap} {L : Addr} {n n' : Led} (N : News h₀ L h n) (hs : ∀ p ∈ n', p ∈ n) : News h₀ L h n' := fun p hp => N p (hs p hp)

/-! the call of a def of the text's own, from a site -/
section
variable {prog : Program} {w : World} {dp un : Nat} {gd : Option (List Code)} {cn : Str} {cs : Scope} {L a : Addr} {ccd : Value} {cl : List (Str × Addr)} {outer : List Env} {A₀ : Around} {base h₀ : Heap}
  {m : Str → Option Value} {news : Led} {s : Shared} {Q E : Value → Shared → Prop} {K : Frag} {p : Program} {loose : List Str} {mean : ExcName → Option Value} {mg mb : Str → Option Value}
noncomputable def Back (h₀ : Heap) (L : Addr) (m : Str → Option Value) (g : Heap) (Q : Value → Shared → Prop) (fl : Flow) (s' : Shared) : Prop :=
  ∃ L' m' news', Fr g L' s'.heap m' ∧ News g L' s'.heap news' ∧ (Fr h₀ L s'.heap m → News h₀ L s'.heap news' → Q (match fl with | .ret v => v | _ => .none) s')
theorem Back.mk {g : Heap} {L' : Addr} {m' : Str → Option Value} {news' : Led} {fl : Flow} {s' : Shared} (F : Fr g L' s'.heap m') (N : News g L' s'.heap news')
    (k : Fr h₀ L s'.heap m → News h₀ L s'.heap news' → Q (match fl with | .ret v => v | _ => .none) s') : Back h₀ L m g Q fl s' := ⟨L', m', news', F, N, k⟩
theorem enter {name qual : Str} {params : Arguments} {body : List Stmt} {scope : Scope} {dV kV doc pm cdv ct oc : Value} {an od : Option Addr} {osl : Array (Option Value)} {f : Addr} {pos : List Value} {kw : List (Str × Value)} {binds : List (Str × Value)}
    (B : Below A₀ base outer h₀) (F : Fr h₀ L s.heap m) (X : K.In h₀) (N : News h₀ L s.heap news) (T : Top p loose mean mg mb h₀) (hk : cs.kind = .function)
    (ho : K.lookup f = some ⟨oc, od, .func (fnOf name qual params body scope dV kV doc pm an cdv ct), osl⟩) (hcd : codeIn K cdv qual = true) (hd : dp + 1 ≤ 400)
    (hbind : BindsTo s (fnOf name qual params body scope dV kV doc pm an cdv ct) ⟨pos, kw⟩ binds) (hloc : ∀ y ∈ binds, scope.names.lookup y.1 = some .local)
    (hcell : ∀ x ∈ scope.names, x.2 ≠ .cell) (hco : scope.isCoroutine = false) (hgen : scope.isGenerator = false) (hk' : scope.kind = .function)
    (h : ∀ g L' h₁, Fr g L' h₁ (fun y => binds.reverse.lookup y) → News g L' h₁ news → Below (ktrTop dp un gd cn cs L a ccd cl outer) base (envX cn cs L a ccd cl :: outer) g → K.In g → Top p loose mean mg mb g → (∀ q ∈ news, q.1 < L') →
      wpAny (model prog w) (ktrTop (dp + 1) (un + 3) gd qual scope L' f cdv [] (envX cn cs L a ccd cl :: outer)) (execs body (envX qual scope L' f cdv [])) (Back h₀ L m g Q) (fun _ _ => False) { s with heap := h₁, toks := s.toks + binds.length }) :
    wpAny (model prog w) (ktrTop dp un gd cn cs L a ccd cl outer) (call (.ref f) pos kw) Q E s := by
  refine wpAny_call (callX_plain (cl := []) B F N T.nolimit rfl rfl hk ((X.keeps F.keep) _ _ ho) rfl (codeRec_of (X.keeps F.keep) hcd) (by show dp < recursionLimit; simp only [recursionLimit]; omega) hbind hloc (fun g L' h₁ FG F' N' B' st lt => ?_) hcell hco hgen hk')
  refine wpAny_mono (h g L' h₁ F' N' B' (X.keeps st) (T.keeps st) lt) (fun fl s' hb => ?_) fun _ _ x => x.elim
  obtain ⟨L'', m', news', F'', N'', k⟩ := hb
  exact ⟨L'', m', news', F'', N'', k⟩
end

/-! steps -/
section
variable {prog : Program} {w : World} {A : Around} {E : Value → Shared → Prop} {s : Shared} {h₀ : Heap} {L : Addr} {news : Led} {m : Str → Option Value}
theorem isListOf {l : Addr} {vs : List Value} {n : Nat} (N : News h₀ L s.heap news) (hm : (l, PySem.W.listOf vs.toArray n) ∈ news) : s.heap.IsList l vs.toArray := ⟨_, (N _ hm).1, rfl, n, rfl⟩
theorem itemL {value slice : PySem.Expr} {l : Addr} {vs : List Value} {n : Nat} {k : Int} {u : Tok} {v : Value} {Q : Value → Shared → Prop} (N : News h₀ L s.heap news) (hm : (l, PySem.W.listOf vs.toArray n) ∈ news)
    (h0 : 0 ≤ k) (hhi : k < 2 ^ 63) (hx : vs[k.toNat]? = some v) (h : Q v s)
    (hs : subscripted slice false (.ref l) (.int k u) = operate [.ref l, .int k u] (getItem (.ref l) (.int k u)) := by with_unfolding_all rfl) :
    wpAny (model prog w) A (subscriptTail value slice (.ref l) (.int k u)) Q E s :=
  tail_any (isListOf N hm).typeIs slot_list_getitem.lookup (wpAny_getItem_list (isListOf N hm) h0 hhi (by simpa using hx) h) hs
end

section
variable {prog : Program} {w : World} {A : Around} {E : Value → Shared → Prop} {s : Shared} {h₀ : Heap} {L : Addr} {news : Led} {m : Str → Option Value}
theorem lenL {l : Addr} {vs : List Value} {n : Nat} {Q : Value → Shared → Prop} (N : News h₀ L s.heap news) (hm : (l, PySem.W.listOf vs.toArray n) ∈ news) (hfit : vs.length < 2 ^ 62)
    (h : Q (.int (vs.length : Nat) (s.toks + 1)) { s with toks := s.toks + 1 + 1 }) : wpAny (model prog w) A (call (.builtin "len") [.ref l]) Q E s :=
  Calls.call_len_list (isListOf N hm) (by rw [List.size_toArray]; omega) (by rw [List.size_toArray]; exact h)
end
/-! the search by halves -/
noncomputable def bis (p : Nat → Bool) : Nat → Nat → Nat → Nat
  | 0, lo, _ => lo
  | f + 1, lo, hi => if lo < hi then (if p ((lo + hi) / 2) then bis p f ((lo + hi) / 2 + 1) hi else bis p f lo ((lo + hi) / 2)) else lo
theorem bis_fuel (p : Nat → Bool) : ∀ (f f' lo hi : Nat), hi - lo ≤ f → hi - lo ≤ f' → bis p f lo hi = bis p f' lo hi := by
  intro f
  induction f with
  | zero =>
    intro f' lo hi h _
    have hn : ¬ lo < hi := by omega
    cases f' with
    | zero => rfl
    | succ f' => simp [bis, hn]
  | succ f ih =>
    intro f' lo hi h h'
    by_cases hlt : lo < hi
    · cases f' with
      | zero => omega
      | succ f' =>
        simp only [bis, hlt, if_true]
        rw [ih f' _ _ (by omega) (by omega), ih f' lo _ (by omega) (by omega)]
    · cases f' with
      | zero => simp [bis, hlt]
      | succ f' => simp [bis, hlt]
noncomputable def bisect (p : Nat → Bool) (lo hi : Nat) : Nat := bis p (hi - lo) lo hi
theorem bisect_ge {p : Nat → Bool} {lo hi : Nat} (h : ¬ lo < hi) : bisect p lo hi = lo := by
  have : hi - lo = 0 := by omega
  rw [bisect, this]; rfl
theorem bisect_up {p : Nat → Bool} {lo hi : Nat} (h : lo < hi) (hp : p ((lo + hi) / 2) = true) : bisect p lo hi = bisect p ((lo + hi) / 2 + 1) hi := by
  obtain ⟨k, hk⟩ : ∃ k, hi - lo = k + 1 := ⟨hi - lo - 1, by omega⟩
  rw [bisect, hk]
  simp only [bis, h, hp, if_true]
  exact bis_fuel p _ _ _ _ (by omega) (by omega)
theorem bisect_down {p : Nat → Bool} {lo hi : Nat} (h : lo < hi) (hp : p ((lo + hi) / 2) = false) : bisect p lo hi = bisect p lo ((lo + hi) / 2) := by
  obtain ⟨k, hk⟩ : ∃ k, hi - lo = k + 1 := ⟨hi - lo - 1, by omega⟩
  rw [bisect, hk]
  simp only [bis, h, hp, if_true, Bool.false_eq_true, if_false]
  exact bis_fuel p _ _ _ _ (by omega) (by omega)
theorem mid_eq (lo hi : Nat) : Int.fdiv ((lo : Int) + (hi : Int)) 2 = (((lo + hi) / 2 : Nat) : Int) := by
  rw [Int.fdiv_eq_ediv_of_nonneg _ (by decide)]
  omega
noncomputable def fdAt (K : Frag) (f : Addr) : FuncData := match K.lookup f with | some ⟨_, _, .func fd, _⟩ => fd | _ => default
/-- what is asked along the way -/
noncomputable def btr (p : Nat → Bool) (vs : List Value) : Nat → Nat → Nat → List Value
  | 0, _, _ => []
  | f + 1, lo, hi => if lo < hi then vs.getD ((lo + hi) / 2) .none :: (if p ((lo + hi) / 2) then btr p vs f ((lo + hi) / 2 + 1) hi else btr p vs f lo ((lo + hi) / 2)) else []
theorem btr_fuel (p : Nat → Bool) (vs : List Value) : ∀ (f f' lo hi : Nat), hi - lo ≤ f → hi - lo ≤ f' → btr p vs f lo hi = btr p vs f' lo hi := by
  intro f
  induction f with
  | zero =>
    intro f' lo hi h _
    have hn : ¬ lo < hi := by omega
    cases f' with
    | zero => rfl
    | succ f' => simp [btr, hn]
  | succ f ih =>
    intro f' lo hi h h'
    by_cases hlt : lo < hi
    · cases f' with
      | zero => omega
      | succ f' =>
        simp only [btr, hlt, if_true]
        rw [ih f' _ _ (by omega) (by omega), ih f' lo _ (by omega) (by omega)]
    · cases f' with
      | zero => simp [btr, hlt]
      | succ f' => simp [btr, hlt]
noncomputable def btrace (p : Nat → Bool) (vs : List Value) (lo hi : Nat) : List Value := btr p vs (hi - lo) lo hi
theorem btrace_ge {p : Nat → Bool} {vs : List Value} {lo hi : Nat} (h : ¬ lo < hi) : btrace p vs lo hi = [] := by
  have : hi - lo = 0 := by omega
  rw [btrace, this]; rfl
theorem btrace_up {p : Nat → Bool} {vs : List Value} {lo hi : Nat} (h : lo < hi) (hp : p ((lo + hi) / 2) = true) : btrace p vs lo hi = vs.getD ((lo + hi) / 2) .none :: btrace p vs ((lo + hi) / 2 + 1) hi := by
  obtain ⟨k, hk⟩ : ∃ k, hi - lo = k + 1 := ⟨hi - lo - 1, by omega⟩
  rw [btrace, hk]
  simp only [btr, h, hp, if_true]
  rw [btr_fuel p vs k (hi - ((lo + hi) / 2 + 1)) _ _ (by omega) (by omega)]; rfl
theorem btrace_down {p : Nat → Bool} {vs : List Value} {lo hi : Nat} (h : lo < hi) (hp : p ((lo + hi) / 2) = false) : btrace p vs lo hi = vs.getD ((lo + hi) / 2) .none :: btrace p vs lo ((lo + hi) / 2) := by
  obtain ⟨k, hk⟩ : ∃ k, hi - lo = k + 1 := ⟨hi - lo - 1, by omega⟩
  rw [btrace, hk]
  simp only [btr, h, hp, if_true, Bool.false_eq_true, if_false]
  rw [btr_fuel p vs k ((lo + hi) / 2 - lo) _ _ (by omega) (by omega)]; rfl
/-- a key: a def that is called upon the items, the ledger grows by what it was asked -/
structure KeyOK (prog : Program) (w : World) (K : Frag) (q : Addr) (dm um : Nat) (G : List Value → Led) (vs : List Value) (kx : Nat → Value → Prop) : Prop where
  fn : ∀ (tr : List Value) (h₀ h : Heap) (L : Addr), K.In h → News h₀ L h (G tr) → FnAt q h
  run : ∀ (i : Nat) (v : Value) (tr : List Value) (dp un : Nat) (gd : Option (List Code)) (cn : Str) (cs : Scope) (L a : Addr) (ccd : Value) (cl : List (Str × Addr)) (outer : List Env) (A₀ : Around) (base h₀ : Heap)
    (m : Str → Option Value) (s : Shared) (Q E : Value → Shared → Prop) (p : Program) (loose : List Str) (mean : ExcName → Option Value) (mg mb : Str → Option Value),
    vs[i]? = some v → Below A₀ base outer h₀ → Fr h₀ L s.heap m → K.In h₀ → News h₀ L s.heap (G tr) → Top p loose mean mg mb h₀ → cs.kind = .function → dp ≤ dm → un ≤ um →
    (∀ r h' tk', kx i r → Fr h₀ L h' m → News h₀ L h' (G (tr ++ [v])) → Q r { s with heap := h', toks := tk' }) →
    wpAny (model prog w) (ktrTop dp un gd cn cs L a ccd cl outer) (call (.ref q) [v]) Q E s
theorem KeyOK.use {prog : Program} {w : World} {K : Frag} {q : Addr} {dm um : Nat} {G : List Value → Led} {vs : List Value} {kx : Nat → Value → Prop} (KC : KeyOK prog w K q dm um G vs kx)
    {i : Nat} {v : Value} {tr : List Value} {dp un : Nat} {gd : Option (List Code)} {cn : Str} {cs : Scope} {L a : Addr} {ccd : Value} {cl : List (Str × Addr)} {outer : List Env} {A₀ : Around} {base h₀ : Heap}
    {m : Str → Option Value} {s : Shared} {Q E : Value → Shared → Prop} {p : Program} {loose : List Str} {mean : ExcName → Option Value} {mg mb : Str → Option Value}
    (hv : vs[i]? = some v) (B : Below A₀ base outer h₀) (F : Fr h₀ L s.heap m) (X : K.In h₀) (N : News h₀ L s.heap (G tr)) (T : Top p loose mean mg mb h₀) (hk : cs.kind = .function) (hd : dp ≤ dm) (hu : un ≤ um)
    (ret : ∀ r h' tk', kx i r → Fr h₀ L h' m → News h₀ L h' (G (tr ++ [v])) → Q r { s with heap := h', toks := tk' }) :
    wpAny (model prog w) (ktrTop dp un gd cn cs L a ccd cl outer) (call (.ref q) [v]) Q E s :=
  KC.run i v tr dp un gd cn cs L a ccd cl outer A₀ base h₀ m s Q E p loose mean mg mb hv B F X N T hk hd hu ret
theorem getD_some {vs : List Value} {i : Nat} (h : i < vs.length) : vs[i]? = some (vs.getD i .none) := by simp [h]
section
variable {prog : Program} {w : World} {A : Around} {E : Value → Shared → Prop} {s : Shared} {h₀ : Heap} {L : Addr} {rest : Led} {m : Str → Option Value}
theorem insertL {l : Addr} {vs : List Value} {n : Nat} {x : Int} {u : Tok} {y : Value} {Q : Value → Shared → Prop} (F : Fr h₀ L s.heap m) (N : News h₀ L s.heap ((l, PySem.W.listOf vs.toArray n) :: rest)) (off : ∀ p ∈ rest, p.1 ≠ l)
    (h0 : 0 ≤ x) (h1 : x.toNat ≤ vs.length) (hz : vs.length ≤ 1000) (h : ∀ h', Fr h₀ L h' m → News h₀ L h' ((l, PySem.W.listOf (vs.take x.toNat ++ y :: vs.drop x.toNat).toArray (n + 1)) :: rest) → Q .none { s with heap := h' }) :
    wpAny (model prog w) A (call (.builtin "list.insert") [.ref l, .int x u, y]) Q E s := by
  refine kl_insert F N ?_ ?_ (Upd.head off) ?_ h
  · unfold Builtin.List.listFitsIndex; simp; omega
  · show kl_ins vs x y = _
    unfold kl_ins
    rw [if_neg (by omega), Nat.min_eq_left h1]
  · show vs.length ≤ sizeLine
    rw [sizeLine_eq]; omega
theorem appendL {l : Addr} {vs : List Value} {n : Nat} {y : Value} {Q : Value → Shared → Prop} (F : Fr h₀ L s.heap m) (N : News h₀ L s.heap ((l, PySem.W.listOf vs.toArray n) :: rest)) (off : ∀ p ∈ rest, p.1 ≠ l)
    (hz : vs.length ≤ 1000) (h : ∀ h', Fr h₀ L h' m → News h₀ L h' ((l, PySem.W.listOf (vs ++ [y]).toArray (n + 1)) :: rest) → Q .none { s with heap := h' }) :
    wpAny (model prog w) A (call (.builtin "list.append") [.ref l, y]) Q E s := by
  refine append_K F N (Upd.head off) (fun h' F' N' => h h' F' ?_) ?_
  · rw [← List.push_toArray]; exact N'
  · show vs.toArray.size ≤ sizeLine
    rw [sizeLine_eq, List.size_toArray]; omega
end
/-! a halt for the walk -/
noncomputable def Stop (P : Prop) : Prop := P
theorem Stop.go {P : Prop} (h : P) : Stop P := h
theorem Stop.at {P : Prop} (h : Stop P) : P := h
section
variable {M : Model} {A : Around} {E : Value → Shared → Prop} {s : Shared} {env : Env}
theorem execs_stop {st : Stmt} {rest : List Stmt} {Q : Flow → Shared → Prop} (h : Stop (wpAny M A (exec st env) (fun f s' => match f with | .next => wpAny M A (execs rest env) Q E s' | f => Q f s') E s)) :
    wpAny M A (execs (st :: rest) env) Q E s := wpAny_execs_cons h
end
/-! names of a frame, told one by one -/
theorem upd_eq {m : Str → Option Value} {x : Str} {v : Option Value} : (fun y => if y = x then v else m y) x = v := if_pos rfl
theorem upd_ne {m : Str → Option Value} {x y : Str} {v w : Option Value} (hn : decide (y = x) = false) (h : m y = w) : (fun z => if z = x then v else m z) y = w := by
  show (if y = x then v else m y) = w
  rw [if_neg (of_decide_eq_false hn)]; exact h
end Mine
namespace Mine
open SeqAt MeetsSeq MeetsSeq2 MeetsSeq3 SeqRoads2
open AutoSeq1 (wpAny_loadPart')
theorem FnAt.ofK {K : Frag} {q : Addr} {h : Heap} (X : K.In h) (e : fnIn K q = true) : FnAt q h := by
  unfold fnIn at e
  split at e
  · rename_i ho; exact ⟨_, _, _, _, X _ _ ho⟩
  · cases e
/-! lists compared by < -/
noncomputable def LtAt (A : Around) (s : Shared) (y x : Value) (b : Bool) : Prop :=
  ∀ (prog : Program) (w : World) (E : Value → Shared → Prop) (Q : Value → Shared → Prop), Q (.bool b) s → wpAny (model prog w) A (richCompare .Lt y x) Q E s
noncomputable def lexAt (n1 n2 : Nat) (e t : Nat → Bool) : Nat → Nat → Bool
  | 0, _ => decide (n1 < n2)
  | k + 1, i => if e i then lexAt n1 n2 e t k (i + 1) else t i
theorem lt_loopAt (l b : Addr) (items items2 : Array Value) (n n2 : Nat) (dd dd2 : Option Addr) (sl sl2 : Array (Option Value)) (e t : Nat → Bool) (k : Nat) :
    ∀ i : Nat, min items.size items2.size - i = k → Meets (Builtin.«list.__eq__.loop» ⟨[.ref l, .ref b, rawInt i, rawInt 0], []⟩)
      (fun A R s => s.heap.get? l = some { cls := .type "list", dict := dd, data := .seq items n, slots := sl } ∧ s.heap.get? b = some { cls := .type "list", dict := dd2, data := .seq items2 n2, slots := sl2 } ∧
        (∀ j (h1 : j < items.size) (h2 : j < items2.size), EqAt A.in1 s items[j] items2[j] (e j)) ∧ (∀ j (h1 : j < items.size) (h2 : j < items2.size), LtAt A.in1 s items[j] items2[j] (t j)) ∧
        R (.ok (.ret (.bool (lexAt items.size items2.size e t k i)))) s) := by
  induction k with
  | zero =>
    intro i hk prog w A R s h
    obtain ⟨hp, g, d, tk, os⟩ := s; obtain ⟨hl, hb, he, ht, h⟩ := h
    wp_walk using wpAny_loadPart' hl, wpAny_loadPart' hb
    have hi : items[((i : Nat) : Int).toNat]? = none ∨ items2[((i : Nat) : Int).toNat]? = none := by simp; omega
    rcases hi1 : items[((i : Nat) : Int).toNat]? with _ | x
    · dsimp only
      wp_walk using wpAny_loadPart' hl, wpAny_loadPart' hb
      exact h
    · rcases hi2 : items2[((i : Nat) : Int).toNat]? with _ | y
      · dsimp only
        wp_walk using wpAny_loadPart' hl, wpAny_loadPart' hb
        exact h
      · rw [hi1, hi2] at hi
        rcases hi with hi | hi <;> cases hi
  | succ k ih =>
    intro i hk prog w A R s h
    obtain ⟨hp, g, d, tk, os⟩ := s; obtain ⟨hl, hb, he, ht, h⟩ := h
    wp_walk using wpAny_loadPart' hl, wpAny_loadPart' hb
    have hlt : i < items.size := by omega
    have hlt2 : i < items2.size := by omega
    have hi1 : items[((i : Nat) : Int).toNat]? = some items[i] := by simp [hlt]
    have hi2 : items2[((i : Nat) : Int).toNat]? = some items2[i] := by simp [hlt2]
    have hc : ((i : Int) + 1) = ((i + 1 : Nat) : Int) := by push_cast; rfl
    rw [hi1, hi2]
    refine wpAny_bind (he i hlt hlt2 prog w _ _ ?_)
    cases hb' : e i with
    | true =>
      simp only [lexAt, hb', if_true] at h
      wp_walk
      rw [hc]
      exact ⟨plainId_quiet plain_eq_loop _, codeAny_builtin entry_eq_loop (by
        rw [Around.under_plainId plain_eq_loop _]
        exact ih (i + 1) (by omega) prog w A R _ ⟨hl, hb, he, ht, h⟩)⟩
    | false =>
      simp only [lexAt, hb', Bool.false_eq_true, if_false] at h
      wp_walk using wpAny_loadPart' hl, wpAny_loadPart' hb
      rw [hi1, hi2]
      dsimp only
      refine wpAny_bind (ht i hlt hlt2 prog w _ _ ?_)
      wp_walk
      exact h
theorem list_ltAt (l b : Addr) (items items2 : Array Value) (n n2 : Nat) (dd dd2 : Option Addr) (sl sl2 : Array (Option Value)) (e t : Nat → Bool) :
    Meets (Builtin.«list.__lt__» ⟨[.ref l, .ref b], []⟩)
      (fun A R s => s.heap.get? l = some { cls := .type "list", dict := dd, data := .seq items n, slots := sl } ∧ s.heap.get? b = some { cls := .type "list", dict := dd2, data := .seq items2 n2, slots := sl2 } ∧
        (∀ j (h1 : j < items.size) (h2 : j < items2.size), EqAt A.in1 s items[j] items2[j] (e j)) ∧ (∀ j (h1 : j < items.size) (h2 : j < items2.size), LtAt A.in1 s items[j] items2[j] (t j)) ∧
        R (.ok (.ret (.bool (lexAt items.size items2.size e t (min items.size items2.size) 0)))) s) := by
  intro prog w A R s h
  obtain ⟨hp, g, d, tk, os⟩ := s; obtain ⟨hl, hb, he, ht, h⟩ := h
  have f3 := AutoSeq1.sub_list_list
  wp_walk using wpAny_loadPart' hl, wpAny_loadPart' hb
  exact ⟨plainId_quiet plain_eq_loop _, codeAny_builtin entry_eq_loop (by
    rw [Around.under_plainId plain_eq_loop _]
    exact lt_loopAt l b items items2 n n2 dd dd2 sl sl2 e t _ 0 rfl prog w A R _ ⟨hl, hb, he, ht, h⟩)⟩
section
variable {A : Around} {s : Shared}
theorem LtAt.ints (a : Int) (t : Tok) (b : Int) (u : Tok) : LtAt A s (.int a t) (.int b u) (decide (a < b)) := fun _ _ _ _ h => lt_int h
/-- the sort's own question -/
theorem oneLt_lists {prog : Program} {w : World} {E : Value → Shared → Prop} {Q : Bool → Shared → Prop} {l b : Addr} {items items2 : Array Value} {e t : Nat → Bool} (hl : s.heap.IsList l items) (hb : s.heap.IsList b items2) (hu : A.units < cLine)
    (he : ∀ j (h1 : j < items.size) (h2 : j < items2.size), EqAt A.in1 s items[j] items2[j] (e j)) (ht : ∀ j (h1 : j < items.size) (h2 : j < items2.size), LtAt A.in1 s items[j] items2[j] (t j))
    (h : Q (lexAt items.size items2.size e t (min items.size items2.size) 0) s) : wpAny (model prog w) A (keyLt' oneType' (.ref l) (.ref b)) Q E s := by
  obtain ⟨⟨cls, dd, data, sl⟩, ho, hc, n, hd⟩ := id hl
  obtain ⟨⟨cls2, dd2, data2, sl2⟩, ho2, hc2, n2, hd2⟩ := id hb
  simp only at hc hd hc2 hd2
  subst hc hd hc2 hd2
  rw [keyLt'_oneType, oneLt'_eq]
  simp only [if_true]
  refine wpAny_bind (wpAny_cRoomFor hu ?_)
  refine wpAny_bind (wpAny_callSpecialIfBound?_slot (T := "list") (name := "__lt__") (id := "list.__lt__") ⟨_, ho, rfl⟩ F.slot_list_lt
    (call_meets F.slot_list_lt ⟨_, ho, rfl⟩ F.entry_list_lt (F.args_list_lt_2 _ _) (list_ltAt l b items items2 n n2 dd dd2 sl sl2 e t) ⟨ho, ho2, he, ht, ?_⟩))
  exact wpAny_truthy_bool h
end
/-! typed: what == and < give of values that stand for plain data -/
noncomputable def Fun {α : Type} (R : Led → Value → α → Prop) : Prop := ∀ (h₀ h : Heap) (L : Addr) (news : Led) (v : Value) (x y : α), News h₀ L h news → R news v x → R news v y → x = y
noncomputable def EqR {α : Type} [DecidableEq α] (R : Led → Value → α → Prop) (d : Nat) : Prop :=
  ∀ (A : Around) (s : Shared) (h₀ : Heap) (L : Addr) (news : Led) (v w : Value) (x y : α), News h₀ L s.heap news → R news v x → R news w y → A.units + d < cLine → EqAt A s v w (decide (x = y))
noncomputable def LtR {α : Type} (R : Led → Value → α → Prop) (lt : α → α → Bool) (d : Nat) : Prop :=
  ∀ (A : Around) (s : Shared) (h₀ : Heap) (L : Addr) (news : Led) (v w : Value) (x y : α), News h₀ L s.heap news → R news v x → R news w y → A.units + d < cLine → LtAt A s v w (lt x y)
theorem RI.fun : Fun RI := fun _ _ _ _ _ _ _ _ ⟨t, e⟩ ⟨t', e'⟩ => by rw [e] at e'; cases e'; rfl
theorem RI.eqR (d : Nat) : EqR RI d := fun A s _ _ _ _ _ x y _ ⟨t, e⟩ ⟨t', e'⟩ _ => by
  subst e e'
  have h := EqAt.int_int (A := A) (s := s) x t y t'
  have e : (x == y) = decide (x = y) := by by_cases h : x = y <;> simp [h]
  rw [e] at h; exact h
theorem RI.ltR (d : Nat) : LtR RI (fun x y => decide (x < y)) d := fun A s _ _ _ _ _ x y _ ⟨t, e⟩ ⟨t', e'⟩ _ => by subst e e'; exact LtAt.ints x t y t'
theorem RA.fun {α : Type} {R : Led → Value → α → Prop} (hR : Fun R) {h₀ h : Heap} {L : Addr} {news : Led} (N : News h₀ L h news) : ∀ {vs : List Value} {xs ys : List α}, RA R news vs xs → RA R news vs ys → xs = ys
  | _, _, _, .nil, .nil => rfl
  | _, _, _, .cons h r, .cons h' r' => by rw [hR _ _ _ _ _ _ _ N h h', RA.fun hR N r r']
theorem seq_inj {h₀ h : Heap} {L : Addr} {news : Led} {a : Addr} {vs ws : List Value} {n n' : Nat} (N : News h₀ L h news) (h1 : (a, PySem.W.listOf vs.toArray n) ∈ news) (h2 : (a, PySem.W.listOf ws.toArray n') ∈ news) : vs = ws := by
  have e := (N _ h1).1
  rw [(N _ h2).1] at e
  have e := Option.some.inj e
  injection e with _ _ e _
  injection e with e _
  exact (congrArg Array.toList e).symm
theorem RL.fun {α : Type} {R : Led → Value → α → Prop} (hR : Fun R) : Fun (RL R) := fun h₀ h L news v xs ys N ⟨a, vs, n, e, hm, hr⟩ ⟨a', vs', n', e', hm', hr'⟩ => by
  subst e
  injection e' with e'
  subst e'
  have := seq_inj N hm hm'
  subst this
  exact RA.fun hR N hr hr'
noncomputable def lexL {α : Type} [DecidableEq α] (lt : α → α → Bool) : List α → List α → Bool
  | [], [] => false
  | [], _ :: _ => true
  | _ :: _, [] => false
  | x :: xs, y :: ys => if x = y then lexL lt xs ys else lt x y
theorem all_range {n : Nat} {α : Type} [DecidableEq α] (d : α) : ∀ {xs ys : List α}, xs.length = n → ys.length = n → ((List.range n).all fun j => decide (xs.getD j d = ys.getD j d)) = decide (xs = ys) := by
  intro xs ys h1 h2
  rw [Bool.eq_iff_iff]
  simp only [List.all_eq_true, List.mem_range, decide_eq_true_eq]
  constructor
  · intro h
    refine List.ext_getElem (by omega) fun i a b => ?_
    have := h i (by omega)
    simpa [a, b] using this
  · rintro rfl i _; rfl
section
variable {α : Type} [DecidableEq α] [Inhabited α] {R : Led → Value → α → Prop} {d : Nat}
theorem RA.eqAt {h₀ : Heap} {L : Addr} {news : Led} {A : Around} {s : Shared} {vs ws : List Value} {xs ys : List α} (hR : EqR R d) (N : News h₀ L s.heap news) (hv : RA R news vs xs) (hw : RA R news ws ys) (hu : A.units + d < cLine)
    (j : Nat) (h1 : j < vs.toArray.size) (h2 : j < ws.toArray.size) : EqAt A s vs.toArray[j] ws.toArray[j] (decide (xs.getD j default = ys.getD j default)) := by
  have h1' : j < vs.length := by simpa using h1
  have h2' : j < ws.length := by simpa using h2
  obtain ⟨x, e1, r1⟩ := hv.get' (i := j) (v := vs[j]) (by simp [h1'])
  obtain ⟨y, e2, r2⟩ := hw.get' (i := j) (v := ws[j]) (by simp [h2'])
  have ex : xs.getD j default = x := by simp [e1]
  have ey : ys.getD j default = y := by simp [e2]
  rw [ex, ey]
  simpa using hR A s h₀ L news _ _ x y N r1 r2 hu
theorem RL.rc (hR : EqR R d) {A : Around} {s : Shared} {h₀ : Heap} {L : Addr} {news : Led} {v w : Value} {xs ys : List α} (N : News h₀ L s.heap news) (hv : RL R news v xs) (hw : RL R news w ys) (hu : A.units + (d + 1) < cLine) :
    RcAt A s v w (decide (xs = ys)) := by
  obtain ⟨a, vs, n, rfl, hm, hr⟩ := hv
  obtain ⟨b, ws, n', rfl, hm', hr'⟩ := hw
  have l1 := hr.length
  have l2 := hr'.length
  by_cases hsz : xs.length = ys.length
  · have := RcAt.lists (A := A) (isListOf N hm) (isListOf N hm') (by simp; omega) (by omega) (RA.eqAt hR N hr hr' (A := A.in1) (by show A.units + 1 + d < cLine; omega))
    rw [List.size_toArray, all_range default (by omega) (by omega)] at this
    exact this
  · have := RcAt.lists_lengths (A := A) (isListOf N hm) (isListOf N hm') (by simp; omega) (by omega)
    rw [decide_eq_false (by intro e; exact hsz (congrArg List.length e))]
    exact this
theorem RL.ne (hR : EqR R d) {A : Around} {s : Shared} {h₀ : Heap} {L : Addr} {news : Led} {v w : Value} {xs ys : List α} (N : News h₀ L s.heap news) (hv : RL R news v xs) (hw : RL R news w ys) (hu : A.units + (d + 1) < cLine) :
    RcNeAt A s v w (!decide (xs = ys)) := by
  obtain ⟨a, vs, n, rfl, hm, hr⟩ := hv
  obtain ⟨b, ws, n', rfl, hm', hr'⟩ := hw
  have l1 := hr.length
  have l2 := hr'.length
  by_cases hsz : xs.length = ys.length
  · have := RcNeAt.lists (A := A) (isListOf N hm) (isListOf N hm') (by simp; omega) (by omega) (RA.eqAt hR N hr hr' (A := A.in1) (by show A.units + 1 + d < cLine; omega))
    rw [List.size_toArray, all_range default (by omega) (by omega)] at this
    exact this
  · have := RcNeAt.lists_lengths (A := A) (isListOf N hm) (isListOf N hm') (by simp; omega) (by omega)
    rw [decide_eq_false (by intro e; exact hsz (congrArg List.length e))]
    exact this
theorem RL.eqR (hR : EqR R d) (hF : Fun R) : EqR (RL R) (d + 1) := fun A s h₀ L news v w xs ys N hv hw hu => by
  have h := RL.rc hR N hv hw hu
  obtain ⟨a, vs, n, rfl, hm, hr⟩ := id hv
  obtain ⟨b, ws, n', rfl, hm', hr'⟩ := id hw
  by_cases hab : a = b
  · subst hab
    have := RL.fun hF _ _ _ _ _ _ _ N hv hw
    rw [decide_eq_true this]
    exact EqAt.same _
  · exact EqAt.of_refs hab h
end
section
variable {α β : Type} [DecidableEq α] [DecidableEq β] {R : Led → Value → α → Prop} {S : Led → Value → β → Prop} {d : Nat}
noncomputable def lexP (la : α → α → Bool) (lb : β → β → Bool) (p q : α × β) : Bool := if p.1 = q.1 then (if p.2 = q.2 then false else lb p.2 q.2) else la p.1 q.1
theorem RP.items {h₀ : Heap} {L : Addr} {news : Led} {A : Around} {s : Shared} {v1 v2 w1 w2 : Value} {p q : α × β} (hR : EqR R d) (hS : EqR S d) (N : News h₀ L s.heap news) (h1 : R news v1 p.1) (h2 : S news v2 p.2) (k1 : R news w1 q.1) (k2 : S news w2 q.2) (hu : A.units + d < cLine)
    (j : Nat) (a : j < [v1, v2].toArray.size) (b : j < [w1, w2].toArray.size) : EqAt A s [v1, v2].toArray[j] [w1, w2].toArray[j] ((fun j => match j with | 0 => decide (p.1 = q.1) | _ => decide (p.2 = q.2)) j) := by
  match j, a with
  | 0, _ => exact hR A s h₀ L news _ _ _ _ N h1 k1 hu
  | 1, _ => exact hS A s h₀ L news _ _ _ _ N h2 k2 hu
theorem RP.ask {la : α → α → Bool} {lb : β → β → Bool} (hR : EqR R d) (hS : EqR S d) (lR : LtR R la d) (lS : LtR S lb d) {prog : Program} {w : World} {E : Value → Shared → Prop} {Q : Bool → Shared → Prop} {A : Around} {s : Shared} {h₀ : Heap} {L : Addr} {news : Led} {v u : Value} {p q : α × β}
    (N : News h₀ L s.heap news) (hv : RP R S news v p) (hw : RP R S news u q) (hu : A.units + (d + 1) < cLine) (h : Q (lexP la lb p q) s) : wpAny (model prog w) A (keyLt' oneType' v u) Q E s := by
  obtain ⟨a, v1, v2, n, rfl, hm, h1, h2⟩ := id hv
  obtain ⟨b, w1, w2, n', rfl, hm', k1, k2⟩ := id hw
  refine oneLt_lists (t := fun j => match j with | 0 => la p.1 q.1 | _ => lb p.2 q.2) (isListOf N hm) (isListOf N hm') (by omega) (RP.items hR hS N h1 h2 k1 k2 (A := A.in1) (by show A.units + 1 + d < cLine; omega)) (fun j a b => ?_) ?_
  · match j, a with
    | 0, _ => exact lR A.in1 s h₀ L news _ _ _ _ N h1 k1 (by show A.units + 1 + d < cLine; omega)
    | 1, _ => exact lS A.in1 s h₀ L news _ _ _ _ N h2 k2 (by show A.units + 1 + d < cLine; omega)
  · have e : lexAt [v1, v2].toArray.size [w1, w2].toArray.size (fun j => match j with | 0 => decide (p.1 = q.1) | _ => decide (p.2 = q.2)) (fun j => match j with | 0 => la p.1 q.1 | _ => lb p.2 q.2) (min [v1, v2].toArray.size [w1, w2].toArray.size) 0 = lexP la lb p q := by
      show lexAt 2 2 _ _ 2 0 = _
      simp only [lexAt, lexP]
      by_cases h1 : p.1 = q.1 <;> by_cases h2 : p.2 = q.2 <;> simp [h1, h2]
    rw [e]; exact h
end
end Mine
namespace Mine
/-- a slice of a plain list -/
noncomputable def pick {α : Type} (l : List α) (lo hi : Option Int) : List α := (l.drop (kms_lo lo l.length)).take (kms_hi hi l.length - kms_lo lo l.length)
theorem RA.pick {α : Type} {R : Led → Value → α → Prop} {news : Led} {vs : List Value} {xs : List α} (h : RA R news vs xs) (lo hi : Option Int) : RA R news (pick vs lo hi) (Mine.pick xs lo hi) := by
  unfold Mine.pick
  rw [h.length]
  exact (h.drop _).take _
theorem pick_len {α : Type} (l : List α) (lo hi : Option Int) : (pick l lo hi).length ≤ l.length := by
  unfold pick
  rw [List.length_take, List.length_drop]; omega
noncomputable def ROpt {α : Type} (R : Led → Value → α → Prop) (news : Led) (v : Value) : Option α → Prop
  | none => v = .none
  | some x => R news v x
section
variable {prog : Program} {w : World} {A : Around} {E : Value → Shared → Prop} {s : Shared} {h₀ : Heap} {L : Addr} {news : Led} {m : Str → Option Value} {Q : Value → Shared → Prop}
theorem sliceL {value slice : PySem.Expr} {l : Addr} {vs : List Value} {n : Nat} {vl vu : Value} {lo hi : Option Int} (F : Fr h₀ L s.heap m) (N : News h₀ L s.heap news) (hm : (l, PySem.W.listOf vs.toArray n) ∈ news) (pl : IsPart vl lo) (pu : IsPart vu hi) (hz : vs.length ≤ 2000)
    (h : ∀ D h', Fr h₀ L h' m → News h₀ L h' ((D, PySem.W.listOf (pick vs lo hi).toArray 0) :: news) → (∀ p ∈ news, p.1 < D) → Q (.ref D) { s with heap := h' })
    (hs : subscripted slice false (.ref l) (.ref s.heap.objs.size) = operate [.ref s.heap.objs.size, .ref l] (getItem (.ref l) (.ref s.heap.objs.size))) (ht : ∀ r, letTemporaryGo value (.ref l) r = pure ()) :
    wpAny (model prog w) A (subscriptTail value slice (.ref l) (.ref s.heap.objs.size)) Q E { s with heap := s.heap.push { cls := .type "slice", data := .fields #[vl, vu, .none] } } :=
  kms_slice_lit F N (isListOf N hm) pl pu rfl h hs ht (by rw [List.size_toArray, sizeLine_eq]; omega)
theorem addL {l b : Addr} {vs ws : List Value} {n n' : Nat} (F : Fr h₀ L s.heap m) (N : News h₀ L s.heap news) (hm : (l, PySem.W.listOf vs.toArray n) ∈ news) (hb : (b, PySem.W.listOf ws.toArray n') ∈ news) (hz : vs.length + ws.length ≤ 4000)
    (h : ∀ D h', Fr h₀ L h' m → News h₀ L h' ((D, PySem.W.listOf (vs ++ ws).toArray 0) :: news) → (∀ p ∈ news, p.1 < D) → Q (.ref D) { s with heap := h' }) :
    wpAny (model prog w) A (binaryOp .Add (.ref l) (.ref b)) Q E s :=
  kmk_add_lit F N (isListOf N hm) (isListOf N hb) rfl h (by show vs.length + ws.length ≤ sizeLine; rw [sizeLine_eq]; omega)
end
section
variable {prog : Program} {w : World} {A : Around} {E : Value → Shared → Prop} {s : Shared} {h₀ : Heap} {L : Addr} {rest : Led} {m : Str → Option Value}
end
theorem KeyOK.imp {prog : Program} {w : World} {K : Frag} {q : Addr} {dm um : Nat} {G : List Value → Led} {vs : List Value} {kx ky : Nat → Value → Prop} (KC : KeyOK prog w K q dm um G vs kx) (h : ∀ i v r, vs[i]? = some v → kx i r → ky i r) : KeyOK prog w K q dm um G vs ky where
  fn := KC.fn
  run := fun i v tr dp un gd cn cs L a ccd cl outer A₀ base h₀ m s Q E p loose mean mg mb hv B F X N T hk hd hu ret =>
    KC.run i v tr dp un gd cn cs L a ccd cl outer A₀ base h₀ m s Q E p loose mean mg mb hv B F X N T hk hd hu fun r h' tk' hr => ret r h' tk' (h i v r hv hr)
end Mine
namespace Mine
/-! a for over a list of the ledger, by an invariant over the frame's map and the ledger -/
noncomputable def LEnd (h₀ : Heap) (L : Addr) (s : Shared) (I : Addr) (oI : Obj) (keep : Addr × Obj) (J : (Str → Option Value) → Led → Prop) (s₂ : Shared) : Prop :=
  ∃ h' tk m' news', s₂ = { s with heap := h', toks := tk } ∧ Fr h₀ L h' m' ∧ News h₀ L h' ((I, oI) :: news') ∧ (∀ p ∈ news', p.1 ≠ I) ∧ keep ∈ news' ∧ J m' news'
noncomputable def LPost (h₀ : Heap) (L : Addr) (s : Shared) (I : Addr) (oI : Obj) (keep : Addr × Obj) (J : (Str → Option Value) → Led → Prop) (Q : Flow → Shared → Prop) (f : Flow) (s₂ : Shared) : Prop :=
  match f with
  | .ret v => Q (.ret v) s₂
  | .brk => Q .next s₂
  | _ => LEnd h₀ L s I oI keep J s₂
theorem LPost.next {h₀ : Heap} {L : Addr} {s : Shared} {I : Addr} {oI : Obj} {keep : Addr × Obj} {J : (Str → Option Value) → Led → Prop} {Q : Flow → Shared → Prop} {h' : Heap} {tk : Nat} {m' : Str → Option Value} {all : Led}
    (F : Fr h₀ L h' m') (N : News h₀ L h' all) (news' : Led) (sub : ∀ p ∈ (I, oI) :: news', p ∈ all) (off : ∀ p ∈ news', p.1 ≠ I) (hk : keep ∈ news') (j : J m' news') : LPost h₀ L s I oI keep J Q .next { s with heap := h', toks := tk } :=
  ⟨h', tk, m', news', rfl, F, fun p hp => N p (sub p hp), off, hk, j⟩
section
variable {prog : Program} {w : World} {A : Around} {E : Value → Shared → Prop} {s : Shared} {env : Env} {h₀ : Heap} {target : Expr} {body : List Stmt} {Q : Flow → Shared → Prop}
theorem forL {ax : Addr} {vs : List Value} {n : Nat} {m₀ : Str → Option Value} {news : Led} (J : Nat → (Str → Option Value) → Led → Prop)
    (hh : A.handled = none) (F : Fr h₀ env.locals s.heap m₀) (N : News h₀ env.locals s.heap news) (hm : (ax, PySem.W.listOf vs.toArray n) ∈ news) (h0 : J 0 m₀ news)
    (turn : ∀ i v I oI m₁ news₁ h tk, vs[i]? = some v → J i m₁ news₁ → (ax, PySem.W.listOf vs.toArray n) ∈ news₁ → (∀ p ∈ news₁, p.1 ≠ I) → Fr h₀ env.locals h m₁ → News h₀ env.locals h ((I, oI) :: news₁) →
      wpAny (model prog w) A (assign target env v) (fun _ s₂ => wpAny (model prog w) A (execs body env) (LPost h₀ env.locals s I oI (ax, PySem.W.listOf vs.toArray n) (J (i + 1)) Q) E s₂) E { s with heap := h, toks := tk })
    (done : ∀ m₁ news₁ h tk, J vs.length m₁ news₁ → Fr h₀ env.locals h m₁ → News h₀ env.locals h news₁ → Q .next { s with heap := h, toks := tk }) :
    wpAny (model prog w) A (pyIter (.ref ax)) (fun it s₂ => TurnsAt prog w A h₀ env target body Q E it s₂) E s := by
  refine iter_listTurns hh F N hm rfl rfl (fun I hI => ?_)
  have key : ∀ (k i : Nat) (m₁ : Str → Option Value) (news₁ : Led), i + k = vs.length → J i m₁ news₁ → (ax, PySem.W.listOf vs.toArray n) ∈ news₁ → (∀ p ∈ news₁, p.1 ≠ I) →
      ItemsRest prog w A E h₀ env target body Q s [(I, "list_iterator")] [(ax, PySem.W.listOf vs.toArray n)] ((vs.drop i).map .val) m₁ news₁ := by
    intro k
    induction k with
    | zero =>
      intro i m₁ news₁ hi hJ hm₁ off
      rw [List.drop_eq_nil_of_le (by omega)]
      have : i = vs.length := by omega
      subst this
      exact ItemsRest.zero fun h tk F' N' => done m₁ news₁ h tk hJ F' N'
    | succ k ih =>
      intro i m₁ news₁ hi hJ hm₁ off
      have hlt : i < vs.length := by omega
      rw [List.drop_eq_getElem_cons hlt, List.map_cons]
      refine ItemsRest.val fun h tk F' => ?_
      intro oI _
      intro N'
      refine wpAny_mono (turn i vs[i] I oI m₁ news₁ h tk (by simp [hlt]) hJ hm₁ off F' N') (fun _ s₂ h₂ => wpAny_mono h₂ (fun f s₃ h₃ => ?_) fun _ _ e => e) fun _ _ e => e
      have fin : LEnd h₀ env.locals s I oI (ax, PySem.W.listOf vs.toArray n) (J (i + 1)) s₃ → UnrEndW h₀ env.locals { s with heap := h, toks := tk } [(I, oI)] (fun m' n' => SubL [(ax, PySem.W.listOf vs.toArray n)] n' ∧ ItemsRest prog w A E h₀ env target body Q s [(I, "list_iterator")] [(ax, PySem.W.listOf vs.toArray n)] ((vs.drop (i + 1)).map .val) m' n') s₃ := by
        rintro ⟨h', tk', m', news', e, F₃, N₃, off₃, hm₃, hJ₃⟩
        exact ⟨h', tk', m', news', e, F₃, N₃, fun p hp q hq => by rw [List.mem_singleton.mp hq]; exact off₃ p hp, ⟨hm₃, trivial⟩, ih (i + 1) m' news' (by omega) hJ₃ hm₃ off₃⟩
      cases f with
      | ret v => exact h₃
      | brk => exact h₃
      | next => exact fin h₃
      | cont => exact fin h₃
  have := key vs.length 0 m₀ news (by omega) h0 hm (fun p hp => Nat.ne_of_lt (hI p hp))
  rw [List.drop_zero] at this
  exact this
end
/-! comprehensions over a list of the ledger -/
open LCg in
theorem srcAt {h₀ : Heap} {ax : Addr} {vs : List Value} {n : Nat} {news : Led} (h : (ax, PySem.W.listOf vs.toArray n) ∈ news) : SrcAt h₀ ax vs.toArray news := .inr ⟨_, h, rfl, _, rfl⟩
section
open LCg
variable {prog : Program} {w : World} {A : Around} {s : Shared} {h₀ : Heap} {L : Addr} {m : Str → Option Value} {env : Env} {ct elt : Expr} {x : Str} {scope : Scope} {cl : List (Str × Addr)} {S : Led → Prop} {P : Nat → Value → Prop} {Fin : List Value → Led → Prop}
theorem restT {N : Nat} (J : Nat → List Value → Led → Prop)
    (turn : ∀ i v I oI C oC D m₂ h tk (E' : Value → Shared → Prop) ys news₁, i < N → P i v → J i ys news₁ → NsObj oC m₂ → m₂ x = some v → Fr h₀ L h m → News h₀ L h ((I, oI) :: (C, oC) :: (D, lst ys) :: news₁) → (∀ p ∈ news₁, p.1 ≠ I ∧ p.1 ≠ C ∧ p.1 ≠ D) → ((@Ne Nat I C) ∧ (@Ne Nat I D) ∧ (@Ne Nat C D)) →
      wpAny (model prog w) A (isTrue ct (compEnvC scope cl C env) (eval ct (compEnvC scope cl C env))) (fun ok s' => if ok = true then
        wpAny (model prog w) A (eval elt (compEnvC scope cl C env)) (CompEnd h₀ L m { s with heap := h, toks := tk } I oI C oC D (lst ys) S (fun y news' => J (i + 1) (ys ++ [y]) news')) E' s'
        else CompEnd h₀ L m { s with heap := h, toks := tk } I oI C oC D (lst ys) S (fun _ news' => J (i + 1) ys news') Value.none s') E' { s with heap := h, toks := tk })
    (fin : ∀ ys news', J N ys news' → Fin ys news') : ∀ (k i : Nat) (ys : List Value) (news₁ : Led), i + k = N → J i ys news₁ → LCt.CompRestT prog w A h₀ L m env ct elt x scope cl s S P Fin k i ys news₁ := by
  intro k
  induction k with
  | zero =>
    intro i ys news₁ hi hJ
    have : i = N := by omega
    subst this
    exact LCt.CompRestT.zero (fin ys news₁ hJ)
  | succ k ih =>
    intro i ys news₁ hi hJ
    refine LCt.CompRestT.succ ?_
    intro v I oI C oC D m₂ h tk E' hv hC hx F N' off ne
    refine wpAny_mono (turn i v I oI C oC D m₂ h tk E' ys news₁ (by omega) hv hJ hC hx F N' off.mem ne) (fun ok s' h' => ?_) fun _ _ e => e
    cases ok with
    | true =>
      simp only [if_true] at h' ⊢
      refine wpAny_mono h' (fun y s₂ h₂ => ?_) fun _ _ e => e
      obtain ⟨h₃, tk₃, news₃, e, F₃, N₃, off₃, hS₃, hJ₃⟩ := h₂
      exact ⟨h₃, tk₃, news₃, e, F₃, N₃, off₃, hS₃, ih (i + 1) _ news₃ (by omega) hJ₃⟩
    | false =>
      simp only [Bool.false_eq_true, if_false] at h' ⊢
      obtain ⟨h₃, tk₃, news₃, e, F₃, N₃, off₃, hS₃, hJ₃⟩ := h'
      exact ⟨h₃, tk₃, news₃, e, F₃, N₃, off₃, hS₃, ih (i + 1) _ news₃ (by omega) hJ₃⟩
theorem restU {N : Nat} (J : Nat → List Value → Led → Prop)
    (turn : ∀ i v I oI C oC D m₂ h tk (E' : Value → Shared → Prop) ys news₁, i < N → P i v → J i ys news₁ → NsObj oC m₂ → m₂ x = some v → Fr h₀ L h m → News h₀ L h ((I, oI) :: (C, oC) :: (D, lst ys) :: news₁) → (∀ p ∈ news₁, p.1 ≠ I ∧ p.1 ≠ C ∧ p.1 ≠ D) → ((@Ne Nat I C) ∧ (@Ne Nat I D) ∧ (@Ne Nat C D)) →
      wpAny (model prog w) A (eval elt (compEnvC scope cl C env)) (CompEnd h₀ L m { s with heap := h, toks := tk } I oI C oC D (lst ys) S (fun y news' => J (i + 1) (ys ++ [y]) news')) E' { s with heap := h, toks := tk })
    (fin : ∀ ys news', J N ys news' → Fin ys news') : ∀ (k i : Nat) (ys : List Value) (news₁ : Led), i + k = N → J i ys news₁ → LCg.CompRest prog w A h₀ L m env elt x scope cl s S P Fin k i ys news₁ := by
  intro k
  induction k with
  | zero =>
    intro i ys news₁ hi hJ
    have : i = N := by omega
    subst this
    exact LCg.CompRest.zero (fin ys news₁ hJ)
  | succ k ih =>
    intro i ys news₁ hi hJ
    refine LCg.CompRest.succ ?_
    intro v I oI C oC D m₂ h tk E' hv hC hx F N' off ne
    refine wpAny_mono (turn i v I oI C oC D m₂ h tk E' ys news₁ (by omega) hv hJ hC hx F N' off.mem ne) (fun y s₂ h₂ => ?_) fun _ _ e => e
    obtain ⟨h₃, tk₃, news₃, e, F₃, N₃, off₃, hS₃, hJ₃⟩ := h₂
    exact ⟨h₃, tk₃, news₃, e, F₃, N₃, off₃, hS₃, ih (i + 1) _ news₃ (by omega) hJ₃⟩
theorem compEnd {I C D : Addr} {s₁ : Shared} {oI oC oD : Obj} {rest : Value → Led → Prop} {y : Value} {h' : Heap} {tk : Nat} {all : Led} (F : Fr h₀ L h' m) (N : News h₀ L h' all) (news' : Led)
    (sub : ∀ p ∈ (I, oI) :: (C, oC) :: (D, oD) :: news', p ∈ all) (off : ∀ p ∈ news', p.1 ≠ I ∧ p.1 ≠ C ∧ p.1 ≠ D) (hS : S news') (r : rest y news') :
    CompEnd h₀ L m s₁ I oI C oC D oD S rest y { s₁ with heap := h', toks := tk } := CompEnd.intro F N news' sub (Off3.of off) hS r
theorem off1 {D : Addr} : ∀ {l : Led}, Off1 D l → ∀ p ∈ l, p.1 ≠ D
  | [], _, _, h => nomatch h
  | _ :: _, x, p, h => by
    rcases List.mem_cons.mp h with rfl | h
    · exact x.1
    · exact off1 x.2 p h
end
end Mine
namespace Mine
/-! the sort's tree of questions: asked of a total order it gives the items in order -/
noncomputable def Kwp {α : Type} (N : Nat) (c : Nat → Nat → Bool) : KasT α → (α → Prop) → Prop
  | .ret a, Q => Q a
  | .ask i j k, Q => i < N ∧ j < N ∧ Kwp N c (k (c i j)) Q
theorem Kwp.mono {α : Type} {N : Nat} {c : Nat → Nat → Bool} {Q Q' : α → Prop} (h : ∀ a, Q a → Q' a) : ∀ (t : KasT α), Kwp N c t Q → Kwp N c t Q'
  | .ret a, x => h a x
  | .ask i j k, x => ⟨x.1, x.2.1, Kwp.mono h (k (c i j)) x.2.2⟩
theorem Kwp.bind {α β : Type} {N : Nat} {c : Nat → Nat → Bool} {f : α → KasT β} {Q : β → Prop} : ∀ (t : KasT α), Kwp N c t (fun a => Kwp N c (f a) Q) → Kwp N c (t.bind f) Q
  | .ret _, x => x
  | .ask i j k, x => ⟨x.1, x.2.1, Kwp.bind (k (c i j)) x.2.2⟩
theorem Kwp.wp {α : Type} {N : Nat} {c : Nat → Nat → Bool} {cmp : Nat → Nat → (Bool → Shared → Prop) → Shared → Prop} {s : Shared} (hc : ∀ i j (C : Bool → Shared → Prop), i < N → j < N → C (c i j) s → cmp i j C s) {Q : α → Shared → Prop} :
    ∀ (t : KasT α), Kwp N c t (fun a => Q a s) → t.kasWp cmp Q s
  | .ret _, x => x
  | .ask i j k, x => hc i j _ x.1 x.2.1 (Kwp.wp hc (k (c i j)) x.2.2)
structure Ord (c : Nat → Nat → Bool) : Prop where
  tr : ∀ a b d, c b a = false → c d b = false → c d a = false
  as : ∀ a b, c a b = true → c b a = false
  irr : ∀ a, c a a = false
abbrev at0 (p : Array Nat) (i : Nat) : Nat := p.getD i 0
structure Good (N : Nat) (p : Array Nat) : Prop where
  perm : p.Perm (List.range N).toArray
theorem Good.size {N : Nat} {p : Array Nat} (h : Good N p) : p.size = N := by have := h.perm.size_eq; simpa using this
theorem Good.lt {N : Nat} {p : Array Nat} (h : Good N p) {i : Nat} (hi : i < N) : at0 p i < N := by
  have hs := h.size
  have hi' : i < p.size := by omega
  have : p[i] ∈ (List.range N).toArray := h.perm.mem_iff.mp (Array.getElem_mem hi')
  have e : at0 p i = p[i] := by simp [at0, Array.getD, hi']
  rw [e]
  simpa using this
theorem Good.rev {N : Nat} {p : Array Nat} (h : Good N p) (i j : Nat) : Good N (kas_rev p i j) := ⟨(mirror_perm _ _ _ _).trans h.perm⟩
theorem Good.bub {N : Nat} {p : Array Nat} (h : Good N p) (k d : Nat) : Good N (bubble p k d) := ⟨(bubble_perm _ _ _).trans h.perm⟩
theorem getD_of {p q : Array Nat} {i j : Nat} (h : p[i]? = q[j]?) : at0 p i = at0 q j := by
  unfold at0
  rw [Array.getD_eq_getD_getElem?, Array.getD_eq_getD_getElem?, h]
theorem at_rev {N : Nat} {p : Array Nat} (h : Good N p) {i j : Nat} (hj : j ≤ N) (k : Nat) : at0 (kas_rev p i j) k = if i ≤ k ∧ k < j then at0 p (i + j - 1 - k) else at0 p k := by
  have e := getElem?_mirror_all (xs := p) (i := i) (j := j) (by rw [h.size]; exact hj) k
  unfold kas_rev
  split <;> rename_i hk
  · rw [if_pos hk] at e; exact getD_of e
  · rw [if_neg hk] at e; exact getD_of e
theorem at_bub {N : Nat} {p : Array Nat} (h : Good N p) {k d : Nat} (hk : k < N) (hd : d ≤ k) (i : Nat) : at0 (bubble p k d) i = if i = k - d then at0 p k else if k - d < i ∧ i ≤ k then at0 p (i - 1) else at0 p i := by
  have e := getElem?_bubble (xs := p) (by rw [h.size]; exact hk) d hd i
  split <;> rename_i h1
  · rw [if_pos h1] at e; exact getD_of e
  · rw [if_neg h1] at e
    split <;> rename_i h2
    · rw [if_pos h2] at e; exact getD_of e
    · rw [if_neg h2] at e; exact getD_of e
section
variable {N : Nat} {c : Nat → Nat → Bool}
noncomputable def Asc (c : Nat → Nat → Bool) (p : Array Nat) (n : Nat) : Prop := ∀ i j, i ≤ j → j < n → c (at0 p j) (at0 p i) = false
noncomputable def Dsc (c : Nat → Nat → Bool) (p : Array Nat) (n : Nat) : Prop := ∀ i j, i ≤ j → j < n → c (at0 p i) (at0 p j) = false
noncomputable def Eqs (c : Nat → Nat → Bool) (p : Array Nat) (a b : Nat) : Prop := ∀ i j, a ≤ i → i < b → a ≤ j → j < b → c (at0 p i) (at0 p j) = false
theorem asc_succ (O : Ord c) {p : Array Nat} {n : Nat} (h : Asc c p n) (hn : 1 ≤ n) (hc : c (at0 p n) (at0 p (n - 1)) = false) : Asc c p (n + 1) := by
  intro i j hij hj
  by_cases hjn : j < n
  · exact h i j hij hjn
  · have : j = n := by omega
    subst this
    by_cases hin : i = j
    · subst hin; exact O.irr _
    · exact O.tr _ _ _ (h i (j - 1) (by omega) (by omega)) hc
theorem kas_asc_ok (O : Ord c) {p : Array Nat} (G : Good N p) : ∀ (f n : Nat), 1 ≤ n → n + f ≤ N → Asc c p n →
    Kwp N c (kas_asc p f n) (fun r => n ≤ r ∧ r ≤ n + f ∧ Asc c p r ∧ (r = n + f ∨ c (at0 p r) (at0 p (r - 1)) = true)) := by
  intro f
  induction f with
  | zero => intro n h1 h2 h; exact ⟨Nat.le_refl _, Nat.le_refl _, h, .inl rfl⟩
  | succ f ih =>
    intro n h1 h2 h
    refine ⟨G.lt (by omega), G.lt (by omega), ?_⟩
    show Kwp N c (if c (at0 p n) (at0 p (n - 1)) = true then .ret n else kas_asc p f (n + 1)) _
    cases hc : c (at0 p n) (at0 p (n - 1)) with
    | true => exact ⟨Nat.le_refl _, by omega, h, .inr hc⟩
    | false =>
      refine Kwp.mono (fun r hr => ?_) _ (ih (n + 1) (by omega) (by omega) (asc_succ O h h1 hc))
      exact ⟨by omega, by omega, hr.2.2.1, hr.2.2.2.imp (fun e => by omega) id⟩
theorem dsc_succ (O : Ord c) {p : Array Nat} {n : Nat} (h : Dsc c p n) (hn : 1 ≤ n) (hc : c (at0 p (n - 1)) (at0 p n) = false) : Dsc c p (n + 1) := by
  intro i j hij hj
  by_cases hjn : j < n
  · exact h i j hij hjn
  · have : j = n := by omega
    subst this
    by_cases hin : i = j
    · subst hin; exact O.irr _
    · exact O.tr _ _ _ hc (h i (j - 1) (by omega) (by omega))
/-- to turn round a stretch of like ones changes no order -/
theorem dsc_rev (O : Ord c) {p : Array Nat} (G : Good N p) {a n m : Nat} (hn : n ≤ N) (he : Eqs c p a n) (h : Dsc c p m) : Dsc c (kas_rev p a n) m := by
  have like : ∀ i, c (at0 (kas_rev p a n) i) (at0 p i) = false ∧ c (at0 p i) (at0 (kas_rev p a n) i) = false := by
    intro i
    rw [at_rev G hn]
    split <;> rename_i hi
    · exact ⟨he _ _ (by omega) (by omega) (by omega) (by omega), he _ _ (by omega) (by omega) (by omega) (by omega)⟩
    · exact ⟨O.irr _, O.irr _⟩
  intro i j hij hj
  exact O.tr _ _ _ (O.tr _ _ _ (like j).2 (h i j hij hj)) (like i).1
theorem kas_desc_ok (O : Ord c) : ∀ (f : Nat) (p : Array Nat) (n q : Nat), Good N p → q + 1 ≤ n → n + f ≤ N → Dsc c p n → Eqs c p (n - (q + 1)) n →
    Kwp N c (kas_desc f p n q) (fun r => Good N r.1 ∧ n ≤ r.2.1 ∧ r.2.1 ≤ n + f ∧ Dsc c r.1 r.2.1 ∧ r.2.2 + 1 ≤ r.2.1 ∧ Eqs c r.1 (r.2.1 - (r.2.2 + 1)) r.2.1) := by
  intro f
  induction f with
  | zero => intro p n q G hq hn h he; exact ⟨G, Nat.le_refl _, Nat.le_refl _, h, hq, he⟩
  | succ f ih =>
    intro p n q G hq hn h he
    have up : ∀ {r : Array Nat × Nat × Nat}, (Good N r.1 ∧ n + 1 ≤ r.2.1 ∧ r.2.1 ≤ n + 1 + f ∧ Dsc c r.1 r.2.1 ∧ r.2.2 + 1 ≤ r.2.1 ∧ Eqs c r.1 (r.2.1 - (r.2.2 + 1)) r.2.1) → (Good N r.1 ∧ n ≤ r.2.1 ∧ r.2.1 ≤ n + (f + 1) ∧ Dsc c r.1 r.2.1 ∧ r.2.2 + 1 ≤ r.2.1 ∧ Eqs c r.1 (r.2.1 - (r.2.2 + 1)) r.2.1) :=
      fun x => ⟨x.1, by omega, by omega, x.2.2.2⟩
    have one : ∀ (p' : Array Nat), Eqs c p' (n + 1 - (0 + 1)) (n + 1) := fun p' i j a b d e => by
      have hi : i = n := by omega
      have hj : j = n := by omega
      subst hi hj; exact O.irr _
    refine ⟨G.lt (by omega), G.lt (by omega), ?_⟩
    show Kwp N c (if c (at0 p n) (at0 p (n - 1)) = true then (if q > 0 then kas_desc f (kas_rev p (n - (q + 1)) n) (n + 1) 0 else kas_desc f p (n + 1) 0)
      else .ask (at0 p (n - 1)) (at0 p n) fun d => if d = true then .ret (p, n, q) else kas_desc f p (n + 1) (q + 1)) _
    cases hc : c (at0 p n) (at0 p (n - 1)) with
    | true =>
      rw [if_pos rfl]
      have hd := dsc_succ O h (by omega) (O.as _ _ hc)
      by_cases hq0 : q > 0
      · rw [if_pos hq0]
        refine Kwp.mono (fun r hr => up hr) _ (ih _ (n + 1) 0 (G.rev _ _) (by omega) (by omega) (dsc_rev O G (by omega) he hd) (one _))
      · rw [if_neg hq0]
        exact Kwp.mono (fun r hr => up hr) _ (ih p (n + 1) 0 G (by omega) (by omega) hd (one _))
    | false =>
      rw [if_neg (by simp)]
      refine ⟨G.lt (by omega), G.lt (by omega), ?_⟩
      cases hd : c (at0 p (n - 1)) (at0 p n) with
      | true => exact ⟨G, Nat.le_refl _, (by show n ≤ n + (f + 1); omega), h, hq, he⟩
      | false =>
        show Kwp N c (kas_desc f p (n + 1) (q + 1)) _
        refine Kwp.mono (fun r hr => up hr) _ (ih p (n + 1) (q + 1) G (by omega) (by omega) (dsc_succ O h (by omega) hd) ?_)
        have hnn : n - (q + 1) = n + 1 - (q + 1 + 1) := by omega
        intro i j a b d e
        by_cases hi : i < n
        · by_cases hj : j < n
          · exact he i j (by omega) hi (by omega) hj
          · have : j = n := by omega
            subst this
            exact O.tr _ _ _ hd (he i (j - 1) (by omega) hi (by omega) (by omega))
        · have : i = n := by omega
          subst this
          by_cases hj : j < i
          · exact O.tr _ _ _ (he (i - 1) j (by omega) (by omega) (by omega) hj) hc
          · have : j = i := by omega
            subst this
            exact O.irr _
theorem asc_of_rev {p : Array Nat} (G : Good N p) {n : Nat} (hn : n ≤ N) (h : Dsc c p n) : Asc c (kas_rev p 0 n) n := by
  intro i j hij hj
  rw [at_rev G hn, at_rev G hn, if_pos (by omega), if_pos (by omega)]
  exact h _ _ (by omega) (by omega)
theorem kas_tail3_ok (O : Ord c) {p : Array Nat} (G : Good N p) {n : Nat} (h1 : 1 ≤ n) (hn : n ≤ N) (h : Dsc c p n) :
    Kwp N c (kas_tail3 n N p) (fun r => Good N r.2 ∧ 1 ≤ r.1 ∧ r.1 ≤ N ∧ Asc c r.2 r.1) := by
  refine Kwp.bind _ (Kwp.mono (fun m hm => ?_) _ (kas_asc_ok O (G.rev 0 n) (N - n) n h1 (by omega) (asc_of_rev G hn h)))
  exact ⟨G.rev 0 n, by omega, by omega, hm.2.2.1⟩
theorem kas_descPart_ok (O : Ord c) {p : Array Nat} (G : Good N p) {n : Nat} (h1 : 1 ≤ n) (hn : n + 1 ≤ N) (h : Dsc c p (n + 1)) :
    Kwp N c (kas_descPart n N p) (fun r => Good N r.2 ∧ 1 ≤ r.1 ∧ r.1 ≤ N ∧ Asc c r.2 r.1) := by
  refine Kwp.bind _ (Kwp.mono (fun r hr => ?_) _ (kas_desc_ok O (N - (n + 1)) p (n + 1) 0 G (by omega) (by omega) h (fun i j a b d e => by
    have hi : i = n := by omega
    have hj : j = n := by omega
    subst hi hj; exact O.irr _)))
  obtain ⟨G', a1, a2, hd, a3, he⟩ := hr
  by_cases hq : r.2.2 > 0
  · rw [if_pos hq]
    exact kas_tail3_ok O (G'.rev _ _) (by omega) (by omega) (dsc_rev O G' (by omega) he hd)
  · rw [if_neg hq]
    exact kas_tail3_ok O G' (by omega) (by omega) hd
theorem kas_count_ok (O : Ord c) {p : Array Nat} (G : Good N p) (hN : 1 ≤ N) :
    Kwp N c (kas_count N p) (fun r => Good N r.2 ∧ 1 ≤ r.1 ∧ r.1 ≤ N ∧ Asc c r.2 r.1) := by
  have h1 : Asc c p 1 := fun i j a b => by
    have hi : i = 0 := by omega
    have hj : j = 0 := by omega
    subst hi hj; exact O.irr _
  refine Kwp.bind _ (Kwp.mono (fun n hn => ?_) _ (kas_asc_ok O G (N - 1) 1 (Nat.le_refl _) (by omega) h1))
  obtain ⟨a1, a2, ha, hx⟩ := hn
  by_cases hnn : (n == N) = true
  · rw [if_pos hnn]
    exact ⟨G, by omega, by omega, ha⟩
  · rw [if_neg hnn]
    have hne : n ≠ N := by simpa using hnn
    have hlt : c (at0 p n) (at0 p (n - 1)) = true := hx.resolve_left (by omega)
    by_cases hn1 : n > 1
    · rw [if_pos hn1]
      refine ⟨G.lt (by omega), G.lt (by omega), ?_⟩
      show Kwp N c (if c (at0 p 0) (at0 p (n - 1)) = true then .ret (n, p) else kas_descPart n N (kas_rev p 0 n)) _
      cases hc : c (at0 p 0) (at0 p (n - 1)) with
      | true => exact ⟨G, by omega, by omega, ha⟩
      | false =>
        rw [if_neg (by simp)]
        have heq : Eqs c p 0 n := fun i j _ hi _ hj => by
          have e1 : c (at0 p (n - 1)) (at0 p j) = false := ha j (n - 1) (by omega) (by omega)
          have e2 : c (at0 p i) (at0 p 0) = false := ha 0 i (by omega) hi
          exact O.tr _ _ _ (O.tr _ _ _ e1 hc) e2
        have hd : Dsc c p (n + 1) := dsc_succ O (fun i j hij hj => heq i j (by omega) (by omega) (by omega) hj) (by omega) (O.as _ _ hlt)
        exact kas_descPart_ok O (G.rev 0 n) (by omega) (by omega) (dsc_rev O G (by omega) heq hd)
    · rw [if_neg hn1]
      have : n = 1 := by omega
      subst this
      exact kas_descPart_ok O G (Nat.le_refl _) (by omega) (dsc_succ O (fun i j a b => by
        have hi : i = 0 := by omega
        have hj : j = 0 := by omega
        subst hi hj; exact O.irr _) (Nat.le_refl _) (O.as _ _ hlt))
theorem kas_place_ok (O : Ord c) {p : Array Nat} (G : Good N p) {k : Nat} (hk : k < N) (ha : Asc c p k) : ∀ (f l r : Nat), l ≤ r → r ≤ k → r - l ≤ f → (∀ i, i < l → c (at0 p k) (at0 p i) = false) → (∀ i, r ≤ i → i < k → c (at0 p k) (at0 p i) = true) →
    Kwp N c (kas_place p k f l r) (fun l => l ≤ k ∧ (∀ i, i < l → c (at0 p k) (at0 p i) = false) ∧ (∀ i, l ≤ i → i < k → c (at0 p k) (at0 p i) = true)) := by
  intro f
  induction f with
  | zero =>
    intro l r h1 h2 h3 hl hr
    have : l = r := by omega
    subst this
    exact ⟨h2, hl, hr⟩
  | succ f ih =>
    intro l r h1 h2 h3 hl hr
    show Kwp N c (if l ≥ r then .ret l else .ask (at0 p k) (at0 p ((l + r) / 2)) fun c => if c = true then kas_place p k f l ((l + r) / 2) else kas_place p k f ((l + r) / 2 + 1) r) _
    by_cases hlr : l ≥ r
    · rw [if_pos hlr]
      have : l = r := by omega
      subst this
      exact ⟨h2, hl, hr⟩
    · rw [if_neg hlr]
      refine ⟨G.lt hk, G.lt (by omega), ?_⟩
      cases hc : c (at0 p k) (at0 p ((l + r) / 2)) with
      | true =>
        show Kwp N c (kas_place p k f l ((l + r) / 2)) _
        refine ih l ((l + r) / 2) (by omega) (by omega) (by omega) hl fun i hi hik => ?_
        cases hx : c (at0 p k) (at0 p i) with
        | true => rfl
        | false =>
          have : c (at0 p i) (at0 p ((l + r) / 2)) = false := ha _ _ hi hik
          rw [O.tr _ _ _ this hx] at hc
          cases hc
      | false =>
        show Kwp N c (kas_place p k f ((l + r) / 2 + 1) r) _
        refine ih ((l + r) / 2 + 1) r (by omega) h2 (by omega) (fun i hi => ?_) hr
        exact O.tr _ _ _ (ha i ((l + r) / 2) (by omega) (by omega)) hc
theorem kas_bin_ok (O : Ord c) : ∀ (f : Nat) (p : Array Nat) (k : Nat), Good N p → k + f = N → Asc c p k → Kwp N c (kas_bin f p k) (fun p => Good N p ∧ Asc c p N) := by
  intro f
  induction f with
  | zero =>
    intro p k G hk h
    have : k = N := by omega
    subst this
    exact ⟨G, h⟩
  | succ f ih =>
    intro p k G hk h
    refine Kwp.bind _ (Kwp.mono (fun l hl => ?_) _ (kas_place_ok O G (by omega) h k 0 k (Nat.zero_le _) (Nat.le_refl _) (by omega) (fun i hi => absurd hi (Nat.not_lt_zero _)) (fun i a b => absurd (Nat.lt_of_le_of_lt a b) (Nat.lt_irrefl _))))
    obtain ⟨hlk, h1, h2⟩ := hl
    refine ih _ (k + 1) (G.bub _ _) (by omega) fun i j hij hj => ?_
    rw [at_bub G (by omega) (by omega), at_bub G (by omega) (by omega)]
    have hkl : k - (k - l) = l := by omega
    rw [hkl]
    by_cases hjl : j = l
    · rw [if_pos hjl]
      by_cases hil : i = l
      · rw [if_pos hil]; exact O.irr _
      · rw [if_neg hil, if_neg (by omega)]; exact h1 i (by omega)
    · rw [if_neg hjl]
      by_cases hjk : l < j ∧ j ≤ k
      · rw [if_pos hjk]
        by_cases hil : i = l
        · rw [if_pos hil]; exact O.as _ _ (h2 (j - 1) (by omega) (by omega))
        · rw [if_neg hil]
          by_cases hik : l < i ∧ i ≤ k
          · rw [if_pos hik]; exact h _ _ (by omega) (by omega)
          · rw [if_neg hik]; exact h _ _ (by omega) (by omega)
      · rw [if_neg hjk, if_neg (by omega), if_neg (by omega)]; exact h _ _ hij (by omega)
theorem kas_sort_ok (O : Ord c) (hN : 1 ≤ N) : Kwp N c (kas_sort N) (fun p => Good N p ∧ Asc c p N) := by
  have G : Good N (List.range N).toArray := ⟨Array.Perm.refl _⟩
  refine Kwp.bind _ (Kwp.mono (fun r hr => ?_) _ (kas_count_ok O G hN))
  obtain ⟨G', a1, a2, ha⟩ := hr
  by_cases hlt : r.1 < N
  · rw [if_pos hlt]
    have : max r.1 1 = r.1 := by omega
    rw [this]
    exact kas_bin_ok O _ _ _ G' (by omega) ha
  · rw [if_neg hlt]
    have : r.1 = N := by omega
    exact ⟨G', this ▸ ha⟩
end
end Mine
namespace Mine
section
variable {prog : Program} {w : World} {A : Around} {E : Value → Shared → Prop} {s : Shared} {h₀ : Heap} {L : Addr} {rest : Led} {m : Str → Option Value}
theorem sort_short {l : Addr} {vs : List Value} {n : Nat} {Q : Value → Shared → Prop} (F : Fr h₀ L s.heap m) (N : News h₀ L s.heap ((l, PySem.W.listOf vs.toArray n) :: rest)) (off : ∀ p ∈ rest, p.1 ≠ l) (h2 : vs.length < 2)
    (h : ∀ h' c, Fr h₀ L h' m → News h₀ L h' ((l, PySem.W.listOf vs.toArray c) :: rest) → Q .none { s with heap := h' }) :
    wpAny (model prog w) A (call (.builtin "list.sort") [.ref l]) Q E s := by
  have nz := N _ (.head _)
  have ho : s.heap.get? l = some (seqObj "list" vs.toArray n) := nz.1
  have N₀ : News h₀ L s.heap rest := fun p hp => N p (.tail _ hp)
  have s1 := Heap.SameBut.update s.heap l (Obj.mapSeq fun _ => (#[] : Array Value))
  obtain ⟨e1, ho1⟩ : ∃ e1, (s.heap.update l (Obj.mapSeq fun _ => (#[] : Array Value))).get? l = some (seqObj "list" #[] e1) := ⟨_, get?_update_seq ho fun _ => #[]⟩
  have F3 : Fr h₀ L (((s.heap.update l (Obj.mapSeq fun _ => (#[] : Array Value))).push (seqObj "tuple" vs.toArray 0)).push (seqObj "list" #[] 0)) m := ((kas_fr F s1 nz.2.1 nz.2.2).push _).push _
  have N2 : News h₀ L (((s.heap.update l (Obj.mapSeq fun _ => (#[] : Array Value))).push (seqObj "tuple" vs.toArray 0)).push (seqObj "list" #[] 0)) rest :=
    (kas_news N₀ s1 off).grown fun b x e => Heap.get?_push_of_some _ (Heap.get?_push_of_some _ e)
  have ho3 : (((s.heap.update l (Obj.mapSeq fun _ => (#[] : Array Value))).push (seqObj "tuple" vs.toArray 0)).push (seqObj "list" #[] 0)).get? l = some (seqObj "list" #[] e1) := Heap.get?_push_of_some _ (Heap.get?_push_of_some _ ho1)
  have hsz : (2 : Nat) ≤ sizeLine := by rw [sizeLine_eq]; omega
  refine wpAny_call_entry slot_list_sort ⟨_, nz.1, rfl⟩ entry_list_sort ?_ (args_list_sort _)
  rw [list_sort_plain]
  refine wpAny_bind (listItems_at ho rfl ?_)
  refine wpAny_bind (listUpdate_at ho rfl ?_ (by rw [List.size_toArray]; omega) (Nat.zero_le _))
  refine wpAny_bind (seqEpoch_at ho1 rfl ?_)
  refine wpAny_bind (wpAny_newTuple ?_ (by show vs.length ≤ _; omega))
  refine wpAny_bind (wpAny_newList ?_ (Nat.zero_le _))
  refine wpAny_holding ?_
  show wpAny (model prog w) A.in1 _ _ E { s with heap := ((s.heap.update l (Obj.mapSeq fun _ => (#[] : Array Value))).push (seqObj "tuple" vs.toArray 0)).push (seqObj "list" #[] 0) }
  dsimp only
  have hn2 : vs.toArray.size < 2 := by rw [List.size_toArray]; exact h2
  rw [if_pos hn2, if_pos hn2]
  refine wpAny_bind (wpAny_pure ?_)
  refine wpAny_bind (wpAny_pure ?_)
  dsimp only
  have hout : (arrOf (SortSt.mk' general' (vs.toArray.zip vs.toArray) #[] 7 none)).map (·.2) = vs.toArray := by
    apply Array.toList_inj.mp
    show ((vs.toArray.zip vs.toArray).map (·.2)).toList = vs
    rw [Array.toList_map]
    have : (vs.toArray.zip vs.toArray).toList = vs.zip vs := by simp
    rw [this]
    exact List.map_snd_zip (Nat.le_refl _)
  rw [hout]
  have s2 := Heap.SameBut.update (((s.heap.update l (Obj.mapSeq fun _ => (#[] : Array Value))).push (seqObj "tuple" vs.toArray 0)).push (seqObj "list" #[] 0)) l (Obj.mapSeq fun _ => vs.toArray)
  obtain ⟨c2, hc2⟩ : ∃ c2, ((((s.heap.update l (Obj.mapSeq fun _ => (#[] : Array Value))).push (seqObj "tuple" vs.toArray 0)).push (seqObj "list" #[] 0)).update l (Obj.mapSeq fun _ => vs.toArray)).get? l = some (seqObj "list" vs.toArray c2) := ⟨_, get?_update_seq ho3 fun _ => vs.toArray⟩
  refine wpAny_bind (seqEpoch_at ho3 rfl ?_)
  refine wpAny_bind (listUpdate_at ho3 rfl ?_ (Nat.zero_le _) (by rw [List.size_toArray]; omega))
  simp only [bne_self_eq_false, Bool.false_eq_true, if_false]
  refine wpAny_pure ⟨_, rfl, h _ c2 (kas_fr F3 s2 nz.2.1 nz.2.2) fun p hp => ?_⟩
  rcases List.mem_cons.mp hp with rfl | hp
  · exact ⟨hc2, nz.2.1, nz.2.2⟩
  · exact ⟨(s2.2 p.1 (off p hp)).trans (N2 p hp).1, (N2 p hp).2⟩
end
/-- an order on plain data, by its strict question -/
structure LtOrd {α : Type} (lt : α → α → Bool) : Prop where
  tr : ∀ a b d, lt b a = false → lt d b = false → lt d a = false
  as : ∀ a b, lt a b = true → lt b a = false
  irr : ∀ a, lt a a = false
theorem LtOrd.ord {α : Type} {lt : α → α → Bool} (h : LtOrd lt) (X : Nat → α) : Ord (fun i j => lt (X i) (X j)) := ⟨fun _ _ _ => h.tr _ _ _, fun _ _ => h.as _ _, fun _ => h.irr _⟩
theorem RA.pickIdx {α : Type} {R : Led → Value → α → Prop} {led : Led} {vs : List Value} {xs : List α} (h : RA R led vs xs) (d : α) : ∀ (is : List Nat), (∀ i ∈ is, i < xs.length) → RA R led (is.map fun i => vs.getD i .none) (is.map fun i => xs.getD i d)
  | [], _ => .nil
  | i :: is, hi => by
    have h1 := hi i (.head _)
    obtain ⟨v, hv, hr⟩ := h.get (i := i) (x := xs.getD i d) (by simp [h1])
    refine .cons ?_ (RA.pickIdx h d is fun j hj => hi j (.tail _ hj))
    have : vs.getD i .none = v := by simp [hv]
    show R led (vs.getD i .none) (xs.getD i d)
    rw [this]; exact hr
theorem perm_map_getD {α : Type} (xs : List α) (d : α) {p : Array Nat} (h : Good xs.length p) : (p.toList.map fun i => xs.getD i d).Perm xs := by
  have h1 : p.toList.Perm (List.range xs.length) := by
    have := h.perm
    rw [Array.perm_iff_toList_perm] at this
    simpa using this
  refine (h1.map _).trans ?_
  have : (List.range xs.length).map (fun i => xs.getD i d) = xs := by
    refine List.ext_getElem (by simp) fun i a b => ?_
    simp at a
    simp [a]
  rw [this]
section
variable {α : Type} {R : Led → Value → α → Prop} {lt : α → α → Bool} {prog : Program} {w : World} {A : Around} {E : Value → Shared → Prop} {s : Shared} {h₀ : Heap} {L : Addr} {rest : Led} {m : Str → Option Value}
theorem sortL {l : Addr} {vs : List Value} {n : Nat} {xs : List α} {led : Led} {Q : Value → Shared → Prop} (d : α) (F : Fr h₀ L s.heap m) (N : News h₀ L s.heap ((l, PySem.W.listOf vs.toArray n) :: rest)) (off : ∀ p ∈ rest, p.1 ≠ l)
    (hsub : ∀ p ∈ led, p ∈ rest) (hR : RA R led vs xs) (h64 : xs.length < 64) (O : LtOrd lt)
    (hty : ∀ v x, R led v x → ∃ b ws n', v = .ref b ∧ (b, PySem.W.listOf (List.toArray ws) n') ∈ led)
    (ask : ∀ (s : Shared) (v u : Value) (x y : α) (C : Bool → Shared → Prop), News h₀ L s.heap led → R led v x → R led u y → C (lt x y) s → wpAny (model prog w) A.in1 (keyLt' oneType' v u) C (fun _ _ => False) s)
    (h : ∀ vs' ys h' c, Fr h₀ L h' m → News h₀ L h' ((l, PySem.W.listOf (List.toArray vs') c) :: rest) → RA R led vs' ys → ys.Perm xs → ys.Pairwise (fun a b => lt b a = false) → Q .none { s with heap := h' }) :
    wpAny (model prog w) A (call (.builtin "list.sort") [.ref l]) Q E s := by
  have hln := hR.length
  by_cases h2 : vs.length < 2
  · refine sort_short F N off h2 fun h' c F' N' => h vs xs h' c F' N' hR (List.Perm.refl _) ?_
    match xs, hln with
    | [], _ => exact .nil
    | [x], _ => exact .cons (fun _ h => nomatch h) .nil
    | _ :: _ :: _, e => simp at e; omega
  · have hN : News h₀ L s.heap led := fun p hp => N p (.tail _ (hsub p hp))
    refine kas_lsort (T := .type "list") F N (UpdF.head off) rfl (by show 2 ≤ vs.length; omega) (by show vs.length < 64; omega) (fun e1 h' F' N' v hv => ?_) rfl (fun e1 h' F' N' => ?_)
    · obtain ⟨i, hi⟩ := List.getElem?_of_mem (show v ∈ vs from hv)
      obtain ⟨x, _, hx⟩ := hR.get' hi
      obtain ⟨b, ws, n', rfl, hb⟩ := hty v x hx
      exact (Looks.ld (part := none) (N' _ (.tail _ (hsub _ hb))).1).andThen .now
    · have hN' : News h₀ L h' led := fun p hp => N' p (.tail _ (hsub p hp))
      show (kas_sort vs.length).kasWp (kas_ask prog w A.in1 oneType' vs) _ _
      refine Kwp.wp (N := vs.length) (c := fun i j => lt (xs.getD i d) (xs.getD j d)) (fun i j C hi hj hC => ?_) _ (Kwp.mono (fun p hp => ?_) _ (kas_sort_ok (O.ord fun i => xs.getD i d) (by omega)))
      · obtain ⟨v, hv, hr⟩ := hR.get (i := i) (x := xs.getD i d) (by simp [hln ▸ hi])
        obtain ⟨u, hu, hr'⟩ := hR.get (i := j) (x := xs.getD j d) (by simp [hln ▸ hj])
        have e1 : vs.getD i .none = v := by simp [hv]
        have e2 : vs.getD j .none = u := by simp [hu]
        unfold kas_ask
        rw [e1, e2]
        exact ask _ v u _ _ C hN' hr hr' hC
      · obtain ⟨G, ha⟩ := hp
        refine ⟨(l, seqObj "list" #[] e1) :: rest, fun o => (l, o) :: rest, F', N', UpdF.head off, fun h₃ c F₃ N₃ => h _ (p.toList.map fun i => xs.getD i d) h₃ c F₃ N₃ ?_ ?_ ?_⟩
        · refine hR.pickIdx d _ fun i hi => ?_
          rw [← hln]
          obtain ⟨j, hj⟩ := List.getElem?_of_mem hi
          have hjl : j < p.toList.length := (List.getElem?_eq_some_iff.mp hj).1
          have : at0 p j = i := by
            unfold at0
            rw [Array.getD_eq_getD_getElem?, ← Array.getElem?_toList, hj]; rfl
          rw [← this]
          exact G.lt (by rw [← G.size]; simpa using hjl)
        · exact perm_map_getD xs d (hln ▸ G)
        · rw [List.pairwise_iff_getElem]
          intro i j hi hj hij
          simp only [List.length_map, Array.length_toList] at hi hj
          have e := ha i j (Nat.le_of_lt hij) (by rw [← G.size]; exact hj)
          have a1 : at0 p i = p[i] := by simp [at0, Array.getD, hi]
          have a2 : at0 p j = p[j] := by simp [at0, Array.getD, hj]
          rw [a1, a2] at e
          simpa using e
end
end Mine
namespace Mine
/-! defs whose names are caught by a block within -/
section
variable {prog : Program} {w : World} {dp un : Nat} {gd : Option (List Code)} {cn : Str} {cs : Scope} {L a : Addr} {ccd : Value} {cl : List (Str × Addr)} {outer : List Env} {A₀ : Around} {base h₀ : Heap}
  {m : Str → Option Value} {news : Led} {s : Shared} {Q E : Value → Shared → Prop} {K : Frag} {p : Program} {loose : List Str} {mean : ExcName → Option Value} {mg mb : Str → Option Value}
theorem enterC {name qual : Str} {params : Arguments} {body : List Stmt} {scope : Scope} {dV kV doc pm cdv ct oc : Value} {an od : Option Addr} {osl : Array (Option Value)} {f : Addr} {pos : List Value} {kw : List (Str × Value)} {binds : List (Str × Value)} (cls : Addr → List (Str × Addr))
    (B : Below A₀ base outer h₀) (F : Fr h₀ L s.heap m) (X : K.In h₀) (N : News h₀ L s.heap news) (T : Top p loose mean mg mb h₀) (hk : cs.kind = .function)
    (ho : K.lookup f = some ⟨oc, od, .func (fnOf name qual params body scope dV kV doc pm an cdv ct), osl⟩) (hcd : codeIn K cdv qual = true) (hd : dp + 1 ≤ 400)
    (hbind : BindsTo s (fnOf name qual params body scope dV kV doc pm an cdv ct) ⟨pos, kw⟩ binds) (hkind : (binds.all fun y => scope.names.lookup y.1 == some .local || scope.names.lookup y.1 == some .cell) = true)
    (hcls : ∀ L', cellsFrom (L' + 1) scope.names [] = cls L')
    (hnd : ((cellsFrom 0 scope.names []).map (·.1)).Nodup) (hco : scope.isCoroutine = false) (hgen : scope.isGenerator = false) (hk' : scope.kind = .function)
    (h : ∀ g L' h₁ tk cells, Fr g L' h₁ (bindL (envOfC qual scope L' f cdv).kindOf binds fun _ => none) → News g L' h₁ (cells ++ news) → CellsAre (bindC (envOfC qual scope L' f cdv).kindOf binds fun _ => none) (cls L') cells →
      Below (ktrTop dp un gd cn cs L a ccd cl outer) base (envX cn cs L a ccd cl :: outer) g → K.In g → Top p loose mean mg mb g → (∀ q ∈ news, q.1 < L') →
      wpAny (model prog w) (ktrTop (dp + 1) (un + 3) gd qual scope L' f cdv (cls L') (envX cn cs L a ccd cl :: outer)) (execs body (envX qual scope L' f cdv (cls L'))) (Back h₀ L m g Q) (fun _ _ => False) { s with heap := h₁, toks := tk }) :
    wpAny (model prog w) (ktrTop dp un gd cn cs L a ccd cl outer) (call (.ref f) pos kw) Q E s := by
  obtain rfl : (fun L' => cellsFrom (L' + 1) scope.names []) = cls := funext hcls
  refine wpAny_call (callX_cells B F N T.nolimit rfl rfl hk ((X.keeps F.keep) _ _ ho) rfl (codeRec_of (X.keeps F.keep) hcd) (by show dp < recursionLimit; simp only [recursionLimit]; omega) hbind (kindsX hkind) hnd (fun g L' h₁ tk cells FG F' N' Y B' st lt => ?_) hco hgen hk')
  refine wpAny_mono (h g L' h₁ tk cells F' N' Y B' (X.keeps st) (T.keeps st) lt) (fun fl s' hb => ?_) fun _ _ x => x.elim
  obtain ⟨L'', m', news', F'', N'', k⟩ := hb
  exact ⟨L'', m', news', F'', N'', k⟩
end
section
variable {M : Model} {A : Around} {E : Value → Shared → Prop} {s : Shared} {h₀ : Heap} {L a : Addr} {m : Str → Option Value} {cn : Str} {cs : Scope} {ccd : Value} {cl : List (Str × Addr)} {x : Str} {v : Value} {Q : Unit → Shared → Prop} {rest : Led} {c : Addr} {o : Obj} {v₀ : Option Value}
theorem storeC (F : Fr h₀ L s.heap m) (N : News h₀ L s.heap ((c, o) :: rest)) (off : ∀ p ∈ rest, p.1 ≠ c) (hc : cl.lookup x = some c) (hd : o.data = .cell v₀)
    (h : ∀ h' o', Fr h₀ L h' m → News h₀ L h' ((c, o') :: rest) → o'.data = .cell (some v) → Q () { s with heap := h' })
    (hk : cs.kind = .function) (hx : (envX cn cs L a ccd cl).kindOf x = some .cell) : wpAny M A (storeName (envX cn cs L a ccd cl) x v) Q E s :=
  storeX_C F N hc (UpdF.head off) hd h hk hx
theorem stop_cell (hx : (envX cn cs L a ccd cl).kindOf x = some .cell) (h : Stop (wpAny M A (storeName (envX cn cs L a ccd cl) x v) Q E s)) : wpAny M A (storeName (envX cn cs L a ccd cl) x v) Q E s := h
end
/-! orders on plain data -/
structure TotOrd {α : Type} (lt : α → α → Bool) : Prop extends LtOrd lt where
  anti : ∀ a b, lt a b = false → lt b a = false → a = b
theorem ltI_tot : TotOrd (fun x y : Int => decide (x < y)) where
  tr := fun a b d h1 h2 => by simp at *; omega
  as := fun a b h => by simp at *; omega
  irr := fun a => by simp
  anti := fun a b h1 h2 => by simp at *; omega
theorem lexP_tot {α β : Type} [DecidableEq α] [DecidableEq β] {la : α → α → Bool} {lb : β → β → Bool} (OA : TotOrd la) (OB : TotOrd lb) : TotOrd (lexP la lb) where
  tr := by
    rintro ⟨a1, a2⟩ ⟨b1, b2⟩ ⟨d1, d2⟩ h1 h2
    simp only [lexP] at h1 h2 ⊢
    by_cases e1 : b1 = a1
    · subst e1
      by_cases e2 : d1 = b1
      · subst e2
        simp only [if_true] at h1 h2 ⊢
        by_cases f1 : d2 = a2
        · rw [if_pos f1]
        · rw [if_neg f1]
          by_cases g1 : b2 = a2
          · subst g1; rw [if_neg f1] at h2; exact h2
          · rw [if_neg g1] at h1
            by_cases g2 : d2 = b2
            · subst g2; exact h1
            · rw [if_neg g2] at h2; exact OB.tr _ _ _ h1 h2
      · simp only [if_neg e2] at h2 ⊢; exact h2
    · rw [if_neg e1] at h1
      by_cases e2 : d1 = b1
      · subst e2; rw [if_neg e1]; exact h1
      · rw [if_neg e2] at h2
        by_cases e3 : d1 = a1
        · subst e3; exact absurd (OA.anti _ _ h1 h2) e1
        · rw [if_neg e3]; exact OA.tr _ _ _ h1 h2
  as := by
    rintro ⟨a1, a2⟩ ⟨b1, b2⟩ h
    simp only [lexP] at h ⊢
    by_cases e1 : a1 = b1
    · subst e1
      simp only [if_true] at h ⊢
      by_cases e2 : a2 = b2
      · subst e2; simp at h
      · rw [if_neg e2] at h; rw [if_neg (Ne.symm e2)]; exact OB.as _ _ h
    · rw [if_neg e1] at h; rw [if_neg (Ne.symm e1)]; exact OA.as _ _ h
  irr := by rintro ⟨a1, a2⟩; simp [lexP]
  anti := by
    rintro ⟨a1, a2⟩ ⟨b1, b2⟩ h1 h2
    simp only [lexP] at h1 h2
    by_cases e1 : a1 = b1
    · subst e1
      simp only [if_true] at h1 h2
      by_cases e2 : a2 = b2
      · rw [e2]
      · rw [if_neg e2] at h1; rw [if_neg (Ne.symm e2)] at h2; rw [OB.anti _ _ h1 h2]
    · rw [if_neg e1] at h1; rw [if_neg (Ne.symm e1)] at h2; exact absurd (OA.anti _ _ h1 h2) e1
/-! a plain sort -/
section
variable {α : Type} {lt : α → α → Bool}
noncomputable def insF (lt : α → α → Bool) (x : α) : List α → List α
  | [] => [x]
  | y :: ys => if lt y x then y :: insF lt x ys else x :: y :: ys
noncomputable def isort (lt : α → α → Bool) : List α → List α
  | [] => []
  | x :: xs => insF lt x (isort lt xs)
theorem insF_perm (x : α) : ∀ l : List α, (insF lt x l).Perm (x :: l)
  | [] => List.Perm.refl _
  | y :: ys => by
    simp only [insF]
    split
    · exact ((insF_perm x ys).cons y).trans (List.Perm.swap x y ys)
    · exact List.Perm.refl _
theorem isort_perm : ∀ l : List α, (isort lt l).Perm l
  | [] => List.Perm.refl _
  | x :: xs => (insF_perm x _).trans ((isort_perm xs).cons x)
theorem insF_sorted (O : TotOrd lt) (x : α) : ∀ {l : List α}, l.Pairwise (fun a b => lt b a = false) → (insF lt x l).Pairwise (fun a b => lt b a = false)
  | [], _ => .cons (fun _ h => nomatch h) .nil
  | y :: ys, h => by
    cases h with
    | cons hy hs =>
      simp only [insF]
      split <;> rename_i hc
      · refine .cons (fun z hz => ?_) (insF_sorted O x hs)
        rcases List.mem_cons.mp ((insF_perm x ys).mem_iff.mp hz) with rfl | hz
        · exact O.as _ _ hc
        · exact hy z hz
      · have hc : lt y x = false := by simpa using hc
        refine .cons (fun z hz => ?_) (.cons hy hs)
        rcases List.mem_cons.mp hz with rfl | hz
        · exact hc
        · exact O.tr _ _ _ hc (hy z hz)
theorem isort_sorted (O : TotOrd lt) : ∀ l : List α, (isort lt l).Pairwise (fun a b => lt b a = false)
  | [] => .nil
  | x :: xs => insF_sorted O x (isort_sorted O xs)
theorem sorted_uniq (O : TotOrd lt) : ∀ {a b : List α}, a.Perm b → a.Pairwise (fun a b => lt b a = false) → b.Pairwise (fun a b => lt b a = false) → a = b := by
  intro a
  induction a with
  | nil => intro b h _ _; exact (List.nil_perm.mp h).symm
  | cons x xs ih =>
    intro b h ha hb
    cases b with
    | nil => exact absurd h.length_eq (by simp)
    | cons y ys =>
      cases ha with
      | cons hx hxs =>
        cases hb with
        | cons hy hys =>
          have e : x = y := by
            have m1 := h.mem_iff.mp (List.mem_cons_self (a := x) (l := xs))
            have m2 := h.mem_iff.mpr (List.mem_cons_self (a := y) (l := ys))
            rcases List.mem_cons.mp m1 with e | m1
            · exact e
            · rcases List.mem_cons.mp m2 with e | m2
              · exact e.symm
              · exact O.anti _ _ (hy x m1) (hx y m2)
          subst e
          rw [ih (List.Perm.cons_inv h) hxs hys]
theorem sorted_isort (O : TotOrd lt) {a b : List α} (h : a.Perm b) (ha : a.Pairwise (fun a b => lt b a = false)) : a = isort lt b := sorted_uniq O (h.trans (isort_perm b).symm) ha (isort_sorted O b)
end
end Mine
namespace Mine
theorem offC {c : Addr} {a : Addr × Obj} {l : Led} (h : a.1 ≠ c) (t : ∀ p ∈ l, p.1 ≠ c) : ∀ p ∈ a :: l, p.1 ≠ c := fun p hp => by
  rcases List.mem_cons.mp hp with rfl | hp
  · exact h
  · exact t p hp
theorem offA {c : Addr} {k l : Led} (h : ∀ p ∈ k, p.1 ≠ c) (t : ∀ p ∈ l, p.1 ≠ c) : ∀ p ∈ k ++ l, p.1 ≠ c := fun p hp => by
  rcases List.mem_append.mp hp with hp | hp
  · exact h p hp
  · exact t p hp
theorem offN {c : Addr} : ∀ p ∈ ([] : Led), p.1 ≠ c := fun _ h => nomatch h
section
variable {prog : Program} {w : World} {A : Around} {E : Value → Shared → Prop} {s : Shared} {h₀ : Heap} {L l : Addr} {m : Str → Option Value} {news led : Led} {vs : List Value} {ns : List Int} {Q : Value → Shared → Prop} {n : Nat}
noncomputable def isI (x : Int) : Value → Bool
  | .int k _ => decide (k = x)
  | _ => false
theorem sortedL (F : Fr h₀ L s.heap m) (N : News h₀ L s.heap news) (hm : (l, PySem.W.listOf vs.toArray n) ∈ news) (hI : RA RI led vs ns) (h64 : ns.length < 64)
    (h : ∀ D vs' c h', Fr h₀ L h' m → News h₀ L h' ((D, PySem.W.listOf (List.toArray vs') c) :: news) → (∀ q ∈ news, q.1 < D) → (∀ led', RA RI led' vs' (isort (fun x y : Int => decide (x < y)) ns)) → Q (.ref D) { s with heap := h' }) :
    wpAny (model prog w) A (call (.builtin "sorted") [.ref l]) Q E s := by
  refine kso_sorted F N (isListOf N hm) hI.ints h64 fun D vs' ns' c h' F' N' lt hi _ hp ho _ => h D vs' c h' F' N' lt ?_
  have e : ns' = isort (fun x y : Int => decide (x < y)) ns := sorted_isort ltI_tot hp (ho.imp fun {a b} h => by simpa using h)
  subst e
  exact fun led' => RA.ofInts hi
end
end Mine
namespace Mine
/-! a comprehension with two names over enumerate of a list: what stands in the ledger stays as it is -/
open LCg
section
variable {prog : Program} {w : World} {A : Around} {E : Value → Shared → Prop} {s : Shared} {h₀ : Heap} {L : Addr} {m : Str → Option Value} {env : Env}
/-- what one element's evaluation gives back -/
noncomputable def EnumEnd (h₀ : Heap) (L : Addr) (m : Str → Option Value) (s : Shared) (led : Led) (P : Value → Prop) (y : Value) (s' : Shared) : Prop :=
  ∃ h' tk, s' = { s with heap := h', toks := tk } ∧ Fr h₀ L h' m ∧ News h₀ L h' led ∧ P y
noncomputable def EnumTurn (prog : Program) (w : World) (A : Around) (h₀ : Heap) (L : Addr) (m : Str → Option Value) (env : Env) (elt : Expr) (a b : Str) (scope : Scope) (cl : List (Str × Addr)) (s : Shared) (items : Array Value) (news : Led) (PY : Nat → Value → Prop) (e it : Addr) : Prop :=
  ∀ (i : Nat) x (t : Tok) oe oi C oC D m₂ h tk (E' : Value → Shared → Prop) ys, items[i]? = some x → NsObj oC m₂ → m₂ a = some (.int i t) → m₂ b = some x → Fr h₀ L h m → News h₀ L h ((e, oe) :: (it, oi) :: (C, oC) :: (D, lst ys) :: news) →
    wpAny (model prog w) A (eval elt (compEnvC scope cl C env)) (EnumEnd h₀ L m { s with heap := h, toks := tk } ((e, oe) :: (it, oi) :: (C, oC) :: (D, lst ys) :: news) (PY i)) E' { s with heap := h, toks := tk }
end
end Mine
namespace Mine
open LCg
section
variable {prog : Program} {w : World} {A : Around} {E : Value → Shared → Prop} {s : Shared} {h₀ : Heap} {L : Addr} {m : Str → Option Value} {env : Env}
noncomputable def EnumFin (h₀ : Heap) (L : Addr) (m : Str → Option Value) (s : Shared) (y : Str) (Q : Flow → Shared → Prop) (items : Array Value) (news : Led) (PY : Nat → Value → Prop) : Prop :=
  ∀ D ys h tk, Fr h₀ L h (fun z => if z = y then some (.ref D) else m z) → News h₀ L h ((D, lst ys) :: news) → (∀ p ∈ news, p.1 ≠ D) → ys.length = items.size → (∀ i v, ys[i]? = some v → PY i v) → Q .next { s with heap := h, toks := tk }
noncomputable def EnumSrc (prog : Program) (w : World) (A : Around) (h₀ : Heap) (L : Addr) (m : Str → Option Value) (env : Env) (elt : Expr) (a b : Str) (scope : Scope) (cl : List (Str × Addr)) (y : Str) (Q : Flow → Shared → Prop) (xv : Value) (s₁ : Shared) : Prop :=
  ∃ (e it l : Addr) (items : Array Value) (n : Nat) (news : Led) (PY : Nat → Value → Prop), xv = .ref e ∧ A.handled = none ∧ e ≠ it ∧ (l, PySem.W.listOf items n) ∈ news ∧ items.size ≤ sizeLine ∧ IsEnum s₁.heap e it 0 .none ∧ s₁.heap.IsListIter it l 0 ∧
    Fr h₀ L s₁.heap m ∧ News h₀ L s₁.heap news ∧ L ≠ e ∧ L ≠ it ∧ h₀.get? e = none ∧ h₀.get? it = none ∧ (∀ p ∈ news, p.1 ≠ e ∧ p.1 ≠ it) ∧
    EnumTurn prog w A h₀ L m env elt a b scope cl s₁ items news PY e it ∧ EnumFin h₀ L m s₁ y Q items news PY
end
section
/-! slices with a step and sums: what they give is a number -/
variable {prog : Program} {w : World} {A : Around} {E : Value → Shared → Prop} {s : Shared} {h₀ : Heap} {L : Addr} {m : Str → Option Value} {news : Led}
noncomputable def stmtsOf : FuncBody → List Stmt
  | .stmts b => b
  | _ => []
theorem body_of {K : Frag} {f : Addr} {oc : Value} {od : Option Addr} {osl : Array (Option Value)} {fd : FuncData} (ho : K.lookup f = some ⟨oc, od, .func fd, osl⟩) {P : FuncData → Prop} (h : P fd) : P (fdAt K f) := by
  have e : fdAt K f = fd := by unfold fdAt; rw [ho]
  rw [e]; exact h
end
end Mine
namespace Mine
theorem foldl_take {α β : Type} (f : β → α → β) (b : β) (l : List α) {i : Nat} {x : α} (h : l[i]? = some x) : (l.take (i + 1)).foldl f b = f ((l.take i).foldl f b) x := by
  rw [List.take_add_one, h]; simp
theorem filter_take {α : Type} (f : α → Bool) (l : List α) {i : Nat} {x : α} (h : l[i]? = some x) : (l.take (i + 1)).filter f = (l.take i).filter f ++ (if f x then [x] else []) := by
  rw [List.take_add_one, h, List.filter_append]
  by_cases hf : f x <;> simp [hf]
theorem map_take {α β : Type} (f : α → β) (l : List α) {i : Nat} {x : α} (h : l[i]? = some x) : (l.take (i + 1)).map f = (l.take i).map f ++ [f x] := by
  rw [List.take_add_one, h]; simp
/-- a list that is new, ahead of what it holds -/
noncomputable def RLT {α : Type} (R : Led → Value → α → Prop) (tl : Led) (v : Value) (xs : List α) : Prop :=
  ∃ D ys n tl', tl = (D, PySem.W.listOf (List.toArray ys) n) :: tl' ∧ v = .ref D ∧ (∀ p ∈ tl', p.1 ≠ D) ∧ RA R tl' ys xs
theorem offP {a b d : Addr} {x : Addr × Obj} {l : Led} (h : x.1 ≠ a ∧ x.1 ≠ b ∧ x.1 ≠ d) (t : ∀ p ∈ l, p.1 ≠ a ∧ p.1 ≠ b ∧ p.1 ≠ d) : ∀ p ∈ x :: l, p.1 ≠ a ∧ p.1 ≠ b ∧ p.1 ≠ d := fun p hp => by
  rcases List.mem_cons.mp hp with rfl | hp
  · exact h
  · exact t p hp
theorem offS {c : Addr} {x : Addr × Obj} {l : Led} (h : c ≠ x.1) (t : ∀ p ∈ l, c ≠ p.1) : ∀ p ∈ x :: l, c ≠ p.1 := fun p hp => by
  rcases List.mem_cons.mp hp with rfl | hp
  · exact h
  · exact t p hp
/-- a list made by a comprehension over whole numbers, each item told by f -/
noncomputable def MapJ {α β : Type} (R : Led → Value → β → Prop) (base : Led) (f : α → β) (ws : List α) (i : Nat) (ys : List Value) (n₁ : Led) : Prop :=
  ∃ tl, n₁ = tl ++ base ∧ (∀ q ∈ base, ∀ p ∈ tl, q.1 ≠ p.1) ∧ RA R tl ys ((ws.take i).map f)
theorem MapJ.next {α β : Type} {R : Led → Value → β → Prop} (hR : Mono R) {base : Led} {f : α → β} {ws : List α} {i : Nat} {ys : List Value} {tl tl2 : Led} {b : α} {r : Value} (hb : ws[i]? = some b) (o : ∀ q ∈ base, ∀ p ∈ tl, q.1 ≠ p.1) (hY : RA R tl ys ((ws.take i).map f))
    (o2 : ∀ q ∈ base, ∀ p ∈ tl2, q.1 ≠ p.1) (hr : R tl2 r (f b)) : MapJ R base f ws (i + 1) (ys ++ [r]) ((tl2 ++ tl) ++ base) := by
  refine ⟨tl2 ++ tl, rfl, fun q hq p hp => ?_, ?_⟩
  · rcases List.mem_append.mp hp with hp | hp
    · exact o2 q hq p hp
    · exact o q hq p hp
  · rw [map_take f ws hb]
    exact (hY.mono hR fun q hq => List.mem_append_right _ hq).append (.cons (hR _ _ _ _ (fun q hq => List.mem_append_left _ hq) hr) .nil)
theorem with_fd {K : Frag} {f : Addr} {oc : Value} {od : Option Addr} {osl : Array (Option Value)} {fd : FuncData} {P : Prop} (ho : K.lookup f = some ⟨oc, od, .func fd, osl⟩) (h : fdAt K f = fd → P) : P :=
  h (by unfold fdAt; rw [ho])
theorem fd_to {x y : FuncData} {P : FuncData → Prop} (e : x = y) (h : P x) : P y := e ▸ h
theorem with_fdX {K : Frag} {h : Heap} {f : Addr} {oc : Value} {od : Option Addr} {osl : Array (Option Value)} {fd : FuncData} {P : Prop} (_ : K.In h) (ho : K.lookup f = some ⟨oc, od, .func fd, osl⟩) (k : fdAt K f = fd → P) : P := with_fd ho k
end Mine
namespace Mine
/-! a comprehension with two names over enumerate of a list: what stands in the ledger stays as it is -/
open LCg
section
variable {prog : Program} {w : World} {A : Around} {E : Value → Shared → Prop} {s : Shared} {h₀ : Heap} {L : Addr} {m : Str → Option Value} {env : Env}
/-- what one element's evaluation gives back -/
noncomputable def EnumEndG (h₀ : Heap) (L : Addr) (m : Str → Option Value) (s : Shared) (e it C D : Addr) (oe oi oC oD : Obj) (l : Addr × Obj) (J : Value → Led → Prop) (y : Value) (s' : Shared) : Prop :=
  ∃ h' tk news', s' = { s with heap := h', toks := tk } ∧ Fr h₀ L h' m ∧ News h₀ L h' ((e, oe) :: (it, oi) :: (C, oC) :: (D, oD) :: news') ∧ (∀ p ∈ news', p.1 ≠ e ∧ p.1 ≠ it ∧ p.1 ≠ C ∧ p.1 ≠ D) ∧ l ∈ news' ∧ J y news'
noncomputable def EnumTurnG (prog : Program) (w : World) (A : Around) (h₀ : Heap) (L : Addr) (m : Str → Option Value) (env : Env) (elt : Expr) (a b : Str) (scope : Scope) (cl : List (Str × Addr)) (s : Shared) (l : Addr) (items : Array Value) (n : Nat) (J : Nat → List Value → Led → Prop) (e it : Addr) : Prop :=
  ∀ (i : Nat) x (t : Tok) oe oi C oC D m₂ h tk (E' : Value → Shared → Prop) ys news₁, items[i]? = some x → J i ys news₁ → (l, PySem.W.listOf items n) ∈ news₁ → NsObj oC m₂ → m₂ a = some (.int i t) → m₂ b = some x → Fr h₀ L h m → News h₀ L h ((e, oe) :: (it, oi) :: (C, oC) :: (D, lst ys) :: news₁) →
    (∀ p ∈ news₁, p.1 ≠ e ∧ p.1 ≠ it ∧ p.1 ≠ C ∧ p.1 ≠ D) →
    wpAny (model prog w) A (eval elt (compEnvC scope cl C env)) (EnumEndG h₀ L m { s with heap := h, toks := tk } e it C D oe oi oC (lst ys) (l, PySem.W.listOf items n) (fun y news' => J (i + 1) (ys ++ [y]) news')) E' { s with heap := h, toks := tk }
theorem enumBlockG {elt iter : Expr} {a b : Str} {pa pb tp : Pos} {kk : Nat} {scope : Scope} {cl : List (Str × Addr)} {pos : Pos} {s₂ : Shared} {e it l : Addr} {items : Array Value} {n : Nat} {news : Led} {J : Nat → List Value → Led → Prop} {RR : Value → Addr → Result → Shared → Prop}
    (hh : A.handled = none) (hei : e ≠ it) (hm : (l, PySem.W.listOf items n) ∈ news) (hsz : items.size ≤ sizeLine) (he : IsEnum s₂.heap e it 0 .none) (hit : s₂.heap.IsListIter it l 0)
    (hcell : ∀ y ∈ scope.names, y.2 ≠ .cell) (hkind : scope.kind = .function) (hxa : scope.names.lookup a = some .local) (hxb : scope.names.lookup b = some .local) (hab : ¬ a = b)
    (F : Fr h₀ L s₂.heap m) (N : News h₀ L s₂.heap news) (hLe : L ≠ e) (hLi : L ≠ it) (he₀ : h₀.get? e = none) (hi₀ : h₀.get? it = none) (off : ∀ p ∈ news, p.1 ≠ e ∧ p.1 ≠ it)
    (h0 : J 0 [] news) (turn : EnumTurnG prog w A h₀ L m env elt a b scope cl s₂ l items n J e it)
    (hRR : ∀ D C h tk m' ys news', Fr h₀ L h m → News h₀ L h ((D, lst ys) :: news') → (∀ p ∈ news', p.1 ≠ D) → h.Ns C m' → h₀.get? C = none → C ≠ L → C ≠ D → (∀ p ∈ news', p.1 ≠ C) → ys.length = items.size → J items.size ys news' →
      RR (.ref D) C (.ok .next) { s₂ with heap := h, toks := tk }) :
    wpAny (model prog w) A (newList []) (fun acc s₃ => wpAny (model prog w) A (newFunctionEnv scope env.globals cl [] env.qual none .none (some env)) (fun cenv s₄ =>
      codeAny (model prog w) A (.compStart (.ListComp elt [⟨.Tuple [.Name a pa, .Name b pb] kk tp, iter, [], 0⟩] scope pos) 0 (.ref e) acc { cenv with scope := relabel scope env }) (RR acc cenv.locals) s₄) E s₃) E s₂ := by
  refine wpAny_newObj_type (wpAny_newFunctionEnv hcell (by intro y hy; simp at hy) (fun h₁ hns₁ hsb₁ => ?_) hkind)
  dsimp only at hns₁ hsb₁ ⊢
  generalize hH : s₂.heap.push { cls := .type "list", dict := none, data := .seq ([] : List Value).toArray } = H at hns₁ hsb₁ ⊢
  have hsize : H.objs.size = s₂.heap.objs.size + 1 := by rw [← hH, Heap.size_push]
  have hDltC : s₂.heap.objs.size < H.objs.size := by rw [hsize]; exact Nat.lt_succ_self _
  have hDC : s₂.heap.objs.size ≠ H.objs.size := Nat.ne_of_lt hDltC
  have lt : ∀ c o, s₂.heap.get? c = some o → c < s₂.heap.objs.size := fun c o x => Heap.lt_size x
  have up : ∀ c o, s₂.heap.get? c = some o → h₁.get? c = some o := fun c o x => hsb₁.extBut c o (Nat.ne_of_lt (Nat.lt_trans (lt c o x) hDltC)) (Heap.get?_push_of_some _ (hH ▸ Heap.get?_push_of_some _ x))
  have hacc : h₁.get? s₂.heap.objs.size = some (lst []) := hsb₁.extBut _ _ hDC (Heap.get?_push_of_some _ (hH ▸ Heap.get?_push_size _ rfl))
  have hLD : L < s₂.heap.objs.size := F.ns.lt
  have ltF := lt
  clear hsb₁ hH hsize
  generalize s₂.heap.objs.size = D at *
  generalize H.objs.size = C at *
  have neD : ∀ {c : Addr}, c < D → c ≠ D := fun h => Nat.ne_of_lt h
  have neC : ∀ {c : Addr}, c < D → c ≠ C := fun h => Nat.ne_of_lt (Nat.lt_trans h hDltC)
  have nil₀ : ∀ c, D ≤ c → h₀.get? c = none := fun c hc => by
    cases x : h₀.get? c with
    | none => rfl
    | some o => exact absurd (lt c o (F.keep c o x)) (Nat.not_lt.mpr hc)
  have hD₀ := nil₀ D (Nat.le_refl _)
  have hC₀ := nil₀ C (Nat.le_of_lt hDltC)
  have heD : e < D := lt _ _ he
  obtain ⟨oi₀, hoi₀, _⟩ := id hit
  have hiD : it < D := lt _ _ hoi₀
  have newsD : ∀ p ∈ news, p.1 < D := fun p hp => lt _ _ (N p hp).1
  have hle : l ≠ e := (off _ hm).1
  have hli : l ≠ it := (off _ hm).2
  have W := WalksT.enumerate (prog := prog) (w := w) (A := A) hh e it l hei hle hli items
  have loop : ∀ s₃ : Shared, s₃ = { s₂ with heap := h₁, toks := s₂.toks + ([] : List (Str × Value)).length } →
      codeAny (model prog w) A (.compLoop (.ListComp elt [⟨.Tuple [.Name a pa, .Name b pb] kk tp, iter, [], 0⟩] scope pos) 0 (.ref e) (.ref D) (compEnvC scope cl C env)) (RR (.ref D) C) s₃ := by
    rintro s₃ rfl
    refine kcp_loop (fun k s' => ∃ h' tk i ys m' news', s' = { s₂ with heap := h', toks := tk } ∧ i ≤ items.size ∧ k = items.size + 1 - i ∧ ys.length = i ∧ (∃ old, IsEnum h' e it (i : Nat) old) ∧ h'.IsListIter it l i ∧ Fr h₀ L h' m ∧ h'.Ns C m' ∧
      News h₀ L h' ((D, lst ys) :: news') ∧ (∀ p ∈ news', p.1 ≠ e ∧ p.1 ≠ it ∧ p.1 ≠ C ∧ p.1 ≠ D) ∧ (l, PySem.W.listOf items n) ∈ news' ∧ J i ys news') ?_ (items.size + 1)
      ⟨h₁, _, 0, [], _, news, rfl, Nat.zero_le _, rfl, rfl, ⟨_, up _ _ he⟩, hit.at fun o x => up _ o x, F.keeps up, hns₁, fun p hp => ?_, fun p hp => ⟨(off p hp).1, (off p hp).2, neC (newsD p hp), neD (newsD p hp)⟩, hm, h0⟩
    · rintro k s' ⟨h', tk, i, ys, m', news', rfl, hi, rfl, hyl, ⟨old, he'⟩, hit', F', hn', N', off', hm', hJ⟩
      have hlist : h'.IsList l items := ⟨_, (N' _ (.tail _ hm')).1, rfl, n, rfl⟩
      by_cases hlt : i < items.size
      · refine W.item i _ _ _ hlt ⟨⟨old, he'⟩, hit', hlist⟩ fun T vals h₂ tk₂ hPt _ hT hMid hk₂ => ?_
        obtain ⟨t, x, hx, rfl⟩ := hPt
        have hTw := W.apart i T h₂ hMid
        refine W.go _ _ _ i T _ _ _ hMid fun h₃ hst₃ hk₃ => ?_
        have hT₃ : h₃.IsTuple T #[.int i t, x] := hT.at fun o y => hk₃ T o hTw y
        have up₃ : ∀ c o, c ≠ e → c ≠ it → h'.get? c = some o → h₃.get? c = some o := fun c o h1 h2 y => hk₃ c o (by simp [h1, h2]) (hk₂ c o (by simp [h1, h2]) y)
        refine kcp_assign (env := compEnvC scope cl C env) hh hT₃ (lookup_relabel_local hxa) (lookup_relabel_local hxb) (by simp [compEnvC, relabel, hkind]) (hn'.at' fun o y => up₃ _ o ((neC heD).symm) ((neC hiD).symm) y) fun h₄ tk₄ hn₄ hs₄ => ?_
        have up₄ : ∀ c o, c ≠ e → c ≠ it → c ≠ C → h'.get? c = some o → h₄.get? c = some o := fun c o h1 h2 h3 y => hs₄ c o h3 (up₃ c o h1 h2 y)
        obtain ⟨⟨old', he₃⟩, hit₃, _⟩ := hst₃
        obtain ⟨oe, hoe, hoe'⟩ : ∃ oe : Obj, h₄.get? e = some oe ∧ ∀ h : Heap, h.get? e = some oe → ∃ old, IsEnum h e it ((i + 1 : Nat) : Int) old := ⟨_, hs₄ e _ (neC heD) he₃, fun _ y => ⟨_, y⟩⟩
        obtain ⟨oi, hoi, hoi'⟩ := hit₃
        have hoi₄ := hs₄ it _ (neC hiD) hoi
        obtain ⟨oC, heC, hoC⟩ := ns_obj hn₄
        have F₄ : Fr h₀ L h₄ m := ⟨F'.ns.at' fun o y => up₄ _ o hLe hLi (neC hLD) y, fun c o y => up₄ c o (fun q => by rw [q, he₀] at y; cases y) (fun q => by rw [q, hi₀] at y; cases y) (fun q => by rw [q, hC₀] at y; cases y) (F'.keep c o y), F'.above⟩
        have N₄ : News h₀ L h₄ ((e, oe) :: (it, oi) :: (C, oC) :: (D, lst ys) :: news') := fun q hq => by
          rcases List.mem_cons.mp hq with rfl | hq
          · exact ⟨hoe, Ne.symm hLe, he₀⟩
          · rcases List.mem_cons.mp hq with rfl | hq
            · exact ⟨hoi₄, Ne.symm hLi, hi₀⟩
            · rcases List.mem_cons.mp hq with rfl | hq
              · exact ⟨heC, (neC hLD).symm, hC₀⟩
              · have z := N' q hq
                rcases List.mem_cons.mp hq with rfl | hq
                · exact ⟨up₄ _ _ ((neD heD).symm) ((neD hiD).symm) hDC z.1, z.2⟩
                · exact ⟨up₄ _ _ (off' q hq).1 (off' q hq).2.1 (off' q hq).2.2.1 z.1, z.2⟩
        refine wpAny_mono (turn i x t oe oi C oC D _ h₄ _ _ ys news' hx hJ hm' hoC (by simp [hab]) (by simp) F₄ N₄ off') (fun y s₅ h₅ => ?_) fun _ _ z => z
        obtain ⟨h₅, tk₅, news₅, rfl, F₅, N₅, off₅, hm₅, hy⟩ := h₅
        have ze := (N₅ _ (.head _)).1
        have zi := (N₅ _ (.tail _ (.head _))).1
        have zC := (N₅ _ (.tail _ (.tail _ (.head _)))).1
        have zD := (N₅ _ (.tail _ (.tail _ (.tail _ (.head _))))).1
        refine append_at (hsz := by show ys.toArray.size ≤ sizeLine; rw [List.size_toArray, hyl]; exact Nat.le_trans hi hsz) zD fun h₆ hs₆ hD₆ => ?_
        refine ⟨items.size + 1 - (i + 1), by omega, h₆, tk₅, i + 1, ys ++ [y], _, news₅, rfl, hlt, rfl, by rw [List.length_append, List.length_singleton, hyl], hoe' h₆ (hs₆.extBut e _ (neD heD) ze), ⟨oi, hs₆.extBut it _ (neD hiD) zi, hoi'⟩,
          F₅.change hs₆ ((neD hLD).symm) hD₀, (hoC.ns zC).sameBut hs₆ (Ne.symm hDC), fun q hq => ?_, off₅, hm₅, hy⟩
        rcases List.mem_cons.mp hq with rfl | hq
        · exact ⟨hD₆.trans (congrArg some (lst_snoc ys y)), (neD hLD).symm, hD₀⟩
        · have z := N₅ q (.tail _ (.tail _ (.tail _ (.tail _ hq))))
          exact ⟨hs₆.extBut _ _ (off₅ q hq).2.2.2 z.1, z.2⟩
      · have hin : i = items.size := Nat.le_antisymm hi (Nat.not_lt.mp hlt)
        subst hin
        refine W.done _ _ _ ⟨⟨old, he'⟩, hit', hlist⟩ fun h₂ tk₂ hk₂ => ?_
        have up₂ : ∀ c o, c ≠ e → c ≠ it → h'.get? c = some o → h₂.get? c = some o := fun c o h1 h2 y => hk₂ c o (by simp [h1, h2]) y
        refine hRR D C h₂ tk₂ m' ys news' ⟨F'.ns.at' fun o y => up₂ _ o hLe hLi y, fun c o y => up₂ c o (fun q => by rw [q, he₀] at y; cases y) (fun q => by rw [q, hi₀] at y; cases y) (F'.keep c o y), F'.above⟩ (fun q hq => ?_) (fun p hp => (off' p hp).2.2.2)
          (hn'.at' fun o y => up₂ _ o ((neC heD).symm) ((neC hiD).symm) y) hC₀ ((neC hLD).symm) (Ne.symm hDC) (fun p hp => (off' p hp).2.2.1) hyl hJ
        have z := N' q hq
        rcases List.mem_cons.mp hq with rfl | hq
        · exact ⟨up₂ _ _ ((neD heD).symm) ((neD hiD).symm) z.1, z.2⟩
        · exact ⟨up₂ _ _ (off' q hq).1 (off' q hq).2.1 z.1, z.2⟩
    · rcases List.mem_cons.mp hp with rfl | hp
      · exact ⟨hacc, (neD hLD).symm, hD₀⟩
      · exact ⟨up _ _ (N p hp).1, (N p hp).2⟩
  exact codeAny_compStart_list (loop _ rfl) (W.self 0 _ _ _ ⟨⟨_, up _ _ he⟩, hit.at fun o x => up _ o x, ⟨_, ((N.grown up) _ hm).1, rfl, n, rfl⟩⟩ (loop _ rfl))
/-- behind the whole: the list D, what was made for it -/
noncomputable def EnumFinG (h₀ : Heap) (L : Addr) (m : Str → Option Value) (s : Shared) (Q : Value → Shared → Prop) (items : Array Value) (J : Nat → List Value → Led → Prop) : Prop :=
  ∀ D ys news' h tk, J items.size ys news' → Fr h₀ L h m → News h₀ L h ((D, lst ys) :: news') → (∀ p ∈ news', p.1 ≠ D) → ys.length = items.size → Q (.ref D) { s with heap := h, toks := tk }
noncomputable def EnumSrcG (prog : Program) (w : World) (A : Around) (h₀ : Heap) (L : Addr) (m : Str → Option Value) (env : Env) (elt : Expr) (a b : Str) (scope : Scope) (cl : List (Str × Addr)) (Q : Value → Shared → Prop) (xv : Value) (s₁ : Shared) : Prop :=
  ∃ (e it l : Addr) (items : Array Value) (n : Nat) (news : Led) (J : Nat → List Value → Led → Prop), xv = .ref e ∧ A.handled = none ∧ e ≠ it ∧ (l, PySem.W.listOf items n) ∈ news ∧ items.size ≤ sizeLine ∧ IsEnum s₁.heap e it 0 .none ∧ s₁.heap.IsListIter it l 0 ∧
    Fr h₀ L s₁.heap m ∧ News h₀ L s₁.heap news ∧ L ≠ e ∧ L ≠ it ∧ h₀.get? e = none ∧ h₀.get? it = none ∧ (∀ p ∈ news, p.1 ≠ e ∧ p.1 ≠ it) ∧ J 0 [] news ∧
    EnumTurnG prog w A h₀ L m env elt a b scope cl s₁ l items n J e it ∧ EnumFinG h₀ L m s₁ Q items J
theorem enumCallG {elt : Expr} {a b : Str} {scope : Scope} {cl : List (Str × Addr)} {Q : Value → Shared → Prop} {l : Addr} {vs : List Value} {n : Nat} {news : Led} (J : Nat → List Value → Led → Prop)
    (hh : A.handled = none) (F : Fr h₀ L s.heap m) (N : News h₀ L s.heap news) (hm : (l, PySem.W.listOf vs.toArray n) ∈ news) (hsz : vs.length ≤ 1000) (h0 : J 0 [] news)
    (turn : ∀ e it, EnumTurnG prog w A h₀ L m env elt a b scope cl s l vs.toArray n J e it) (fin : EnumFinG h₀ L m s Q vs.toArray J) :
    wpAny (model prog w) A (call (.type "enumerate") [.ref l]) (EnumSrcG prog w A h₀ L m env elt a b scope cl Q) E s := by
  refine call_enumerate_list (isListOf N hm) fun h' he hit _ hk => ?_
  have hl0 : L < s.heap.objs.size := F.ns.lt
  have lt : ∀ p ∈ news, p.1 < s.heap.objs.size := fun p hp => Heap.lt_size (N p hp).1
  have nil₀ : ∀ c, s.heap.objs.size ≤ c → h₀.get? c = none := fun c hc => by
    cases x : h₀.get? c with
    | none => rfl
    | some o => exact absurd (Heap.lt_size (F.keep c o x)) (Nat.not_lt.mpr hc)
  exact ⟨s.heap.objs.size + 1, s.heap.objs.size, l, vs.toArray, n, news, J, rfl, hh, Nat.succ_ne_self _, hm, by rw [List.size_toArray, sizeLine_eq]; omega, he, hit, F.keeps hk, N.grown hk, Nat.ne_of_lt (Nat.lt_succ_of_lt hl0), Nat.ne_of_lt hl0, nil₀ _ (Nat.le_succ _), nil₀ _ (Nat.le_refl _),
    fun p hp => ⟨Nat.ne_of_lt (Nat.lt_succ_of_lt (lt p hp)), Nat.ne_of_lt (lt p hp)⟩, h0, turn _ _, fin⟩
theorem enumComp {elt iter : Expr} {x x₂ : Str} {px px₂ tp : Pos} {tk} {scope : Scope} {cl : List (Str × Addr)} {pos : Pos} {Q : Value → Shared → Prop}
    (hclos : closureFor scope env = pure cl) (hcell : ∀ z ∈ scope.names, z.2 ≠ .cell) (hkind : scope.kind = .function)
    (hnames : ∀ z ∈ scope.names, z.2 = .local → scope.names.lookup z.1 = some .local) (hx : scope.names.lookup x = some .local) (hx₂ : scope.names.lookup x₂ = some .local) (hxx : ¬ x = x₂)
    (h : wpAny (model prog w) A (eval iter env) (EnumSrcG prog w A h₀ L m env elt x x₂ scope cl Q) E s)
    (hs : ∀ x, foldedSetIterable iter env x = pure x := by intro _; rfl) :
    wpAny (model prog w) A (eval (.ListComp elt [⟨.Tuple [.Name x px, .Name x₂ px₂] tk tp, iter, [], 0⟩] scope pos) env) Q E s := by
  rw [eval_ListComp]
  refine wpAny_comprehension_free (use := none) rfl hs hclos hkind hnames (wpAny_mono h (fun xv s₁ h₁ => ?_) fun _ _ e => e)
  obtain ⟨e, it, l, items, n, news, J, rfl, hh, hei, hm, hsz, he, hit, F, N, hLe, hLi, he₀, hi₀, off, h0, turn, fin⟩ := h₁
  refine wpAny_pyIter_enum he ?_
  refine enumBlockG hh hei hm hsz he hit hcell hkind hx hx₂ hxx F N hLe hLi he₀ hi₀ off h0 turn ?_
  intro D C h' tk m' ys news' F' N' oD hn hC₀ hCL hCD offC hlen hJ
  refine ⟨m', hn, fun h'' hs'' => fin D ys news' h'' _ hJ (F'.change hs'' hCL hC₀) (fun p hp => ?_) oD hlen⟩
  refine ⟨hs''.extBut _ _ ?_ (N' p hp).1, (N' p hp).2⟩
  rcases List.mem_cons.mp hp with rfl | hp
  · exact Ne.symm hCD
  · exact offC p hp
end
end Mine
namespace Mine
open LCg
section
variable {prog : Program} {w : World} {A : Around} {E : Value → Shared → Prop} {s : Shared} {h₀ : Heap} {L : Addr} {m : Str → Option Value} {env : Env}
/-- behind the whole, when the list is kept in a name -/
noncomputable def FinA (h₀ : Heap) (L : Addr) (m : Str → Option Value) (s : Shared) (y : Str) (Q : Flow → Shared → Prop) (k : Nat) (J : Nat → List Value → Led → Prop) : Prop :=
  ∀ D ys news' h tk, J k ys news' → Fr h₀ L h (fun z => if z = y then some (.ref D) else m z) → News h₀ L h ((D, lst ys) :: news') → (∀ p ∈ news', p.1 ≠ D) → ys.length = k → Q .next { s with heap := h, toks := tk }
noncomputable def FinV (h₀ : Heap) (L : Addr) (m : Str → Option Value) (s : Shared) (Q : Value → Shared → Prop) (k : Nat) (J : Nat → List Value → Led → Prop) : Prop :=
  ∀ D ys news' h tk, J k ys news' → Fr h₀ L h m → News h₀ L h ((D, lst ys) :: news') → (∀ p ∈ news', p.1 ≠ D) → ys.length = k → Q (.ref D) { s with heap := h, toks := tk }
noncomputable def EnumSrcA (prog : Program) (w : World) (A : Around) (h₀ : Heap) (L : Addr) (m : Str → Option Value) (env : Env) (elt : Expr) (a b : Str) (scope : Scope) (cl : List (Str × Addr)) (y : Str) (Q : Flow → Shared → Prop) (xv : Value) (s₁ : Shared) : Prop :=
  ∃ (e it l : Addr) (items : Array Value) (n : Nat) (news : Led) (J : Nat → List Value → Led → Prop), xv = .ref e ∧ A.handled = none ∧ e ≠ it ∧ (l, PySem.W.listOf items n) ∈ news ∧ items.size ≤ sizeLine ∧ IsEnum s₁.heap e it 0 .none ∧ s₁.heap.IsListIter it l 0 ∧
    Fr h₀ L s₁.heap m ∧ News h₀ L s₁.heap news ∧ L ≠ e ∧ L ≠ it ∧ h₀.get? e = none ∧ h₀.get? it = none ∧ (∀ p ∈ news, p.1 ≠ e ∧ p.1 ≠ it) ∧ J 0 [] news ∧
    EnumTurnG prog w A h₀ L m env elt a b scope cl s₁ l items n J e it ∧ FinA h₀ L m s₁ y Q items.size J
theorem enumCallA {elt : Expr} {a b : Str} {scope : Scope} {cl : List (Str × Addr)} {y : Str} {Q : Flow → Shared → Prop} {l : Addr} {vs : List Value} {n : Nat} {news : Led} (J : Nat → List Value → Led → Prop)
    (hh : A.handled = none) (F : Fr h₀ L s.heap m) (N : News h₀ L s.heap news) (hm : (l, PySem.W.listOf vs.toArray n) ∈ news) (hsz : vs.length ≤ 1000) (h0 : J 0 [] news)
    (turn : ∀ e it, EnumTurnG prog w A h₀ L m env elt a b scope cl s l vs.toArray n J e it) (fin : FinA h₀ L m s y Q vs.length J) :
    wpAny (model prog w) A (call (.type "enumerate") [.ref l]) (EnumSrcA prog w A h₀ L m env elt a b scope cl y Q) E s := by
  refine call_enumerate_list (isListOf N hm) fun h' he hit _ hk => ?_
  have hl0 : L < s.heap.objs.size := F.ns.lt
  have lt : ∀ p ∈ news, p.1 < s.heap.objs.size := fun p hp => Heap.lt_size (N p hp).1
  have nil₀ : ∀ c, s.heap.objs.size ≤ c → h₀.get? c = none := fun c hc => by
    cases x : h₀.get? c with
    | none => rfl
    | some o => exact absurd (Heap.lt_size (F.keep c o x)) (Nat.not_lt.mpr hc)
  exact ⟨s.heap.objs.size + 1, s.heap.objs.size, l, vs.toArray, n, news, J, rfl, hh, Nat.succ_ne_self _, hm, by rw [List.size_toArray, sizeLine_eq]; omega, he, hit, F.keeps hk, N.grown hk, Nat.ne_of_lt (Nat.lt_succ_of_lt hl0), Nat.ne_of_lt hl0, nil₀ _ (Nat.le_succ _), nil₀ _ (Nat.le_refl _),
    fun p hp => ⟨Nat.ne_of_lt (Nat.lt_succ_of_lt (lt p hp)), Nat.ne_of_lt (lt p hp)⟩, h0, turn _ _, by rw [List.size_toArray]; exact fin⟩
/-- the end of a comprehension that is kept in a name -/
theorem keepName {y : Str} {py : Pos} {D C : Addr} {ys : List Value} {news' : Led} {h' : Heap} {tk : Nat} {m' : Str → Option Value} {Q : Flow → Shared → Prop} {J : Nat → List Value → Led → Prop} {k : Nat} (hLe : env.locals = L)
    (hy : env.kindOf y = some .local) (hp : (env.scope.kind == .class || (env.scope.kind == .module && env.locals != env.globals)) = false)
    (fin : FinA h₀ L m s y Q k J) (F' : Fr h₀ L h' m) (N' : News h₀ L h' ((D, lst ys) :: news')) (oD : ∀ p ∈ news', p.1 ≠ D) (hn : h'.Ns C m') (hC₀ : h₀.get? C = none) (hCL : C ≠ L) (hCD : C ≠ D) (offC : ∀ p ∈ news', p.1 ≠ C) (hlen : ys.length = k) (hJ : J k ys news') :
    wpAny (model prog w) A (assign (.Name y py) env (.ref D)) (fun _ s'' => ∃ m, s''.heap.Ns C m ∧ ∀ h'', Heap.SameBut C s''.heap h'' → Q .next { s'' with heap := h'' }) E { s with heap := h', toks := tk } := by
  subst hLe
  refine wpAny_assign_Name (wpAny_storeName_local hy F'.ns (fun h₂ hn₂ hs₂ => ?_) hp)
  have hL₀ : h₀.get? env.locals = none := Heap.get?_none_of_le F'.above
  have F₂ : Fr h₀ env.locals h₂ (fun z => if z = y then some (.ref D) else m z) := F'.set hn₂ hs₂
  refine ⟨m', hn.sameBut hs₂ hCL, fun h'' hs'' => fin D ys news' h'' _ hJ (F₂.change hs'' hCL hC₀) (fun p hp => ?_) oD hlen⟩
  have z := (N'.set hs₂) p hp
  refine ⟨hs''.extBut _ _ ?_ z.1, z.2⟩
  rcases List.mem_cons.mp hp with rfl | hp
  · exact Ne.symm hCD
  · exact offC p hp
theorem enumAssignG {elt iter : Expr} {x x₂ y : Str} {px px₂ tp py : Pos} {tk} {scope : Scope} {cl : List (Str × Addr)} {pos spos : Pos} {Q : Flow → Shared → Prop} (hLe : env.locals = L)
    (hsw : swapsWith (.ListComp elt [⟨.Tuple [.Name x px, .Name x₂ px₂] tk tp, iter, [], 0⟩] scope pos) (some (.Name y py)) spos.line env = pure true)
    (hclos : closureFor scope env = pure cl) (hcell : ∀ z ∈ scope.names, z.2 ≠ .cell) (hkind : scope.kind = .function)
    (hnames : ∀ z ∈ scope.names, z.2 = .local → scope.names.lookup z.1 = some .local) (hx : scope.names.lookup x = some .local) (hx₂ : scope.names.lookup x₂ = some .local) (hxx : ¬ x = x₂)
    (hy : env.kindOf y = some .local) (hp : (env.scope.kind == .class || (env.scope.kind == .module && env.locals != env.globals)) = false)
    (h : wpAny (model prog w) A (eval iter env) (EnumSrcA prog w A h₀ L m env elt x x₂ scope cl y Q) E s)
    (hs : ∀ x, foldedSetIterable iter env x = pure x := by intro _; rfl) :
    wpAny (model prog w) A (exec (.Assign [.Name y py] (.ListComp elt [⟨.Tuple [.Name x px, .Name x₂ px₂] tk tp, iter, [], 0⟩] scope pos) spos) env) Q E s := by
  rw [exec_Assign_Name_used _ _ _ _ hsw]
  refine wpAny_bind (wpAny_standAt (wpAny_bind ?_))
  show wpAny _ A (do let _ ← comprehension (.ListComp elt [⟨.Tuple [.Name x px, .Name x₂ px₂] tk tp, iter, [], 0⟩] scope pos) scope env _ (newList []) false (eval iter env) (some (assign (.Name y py) env))) _ _ s
  refine wpAny_bind (wpAny_mono (wpAny_comprehension_free (use := some (assign (.Name y py) env)) (Q := fun _ s' => Q .next s') rfl hs hclos hkind hnames
    (wpAny_mono h (fun xv s₁ h₁ => ?_) fun _ _ e => e)) (fun _ s' hq => wpAny_pure (wpAny_pure hq)) fun _ _ e => e)
  obtain ⟨e, it, l, items, n, news, J, rfl, hh, hei, hm, hsz, he, hit, F, N, hLi', hLi, he₀, hi₀, off, h0, turn, fin⟩ := h₁
  refine wpAny_pyIter_enum he ?_
  refine enumBlockG hh hei hm hsz he hit hcell hkind hx hx₂ hxx F N hLi' hLi he₀ hi₀ off h0 turn ?_
  intro D C h' tk m' ys news' F' N' oD hn hC₀ hCL hCD offC hlen hJ
  exact keepName hLe hy hp fin F' N' oD hn hC₀ hCL hCD offC hlen hJ
/-! a comprehension with two names over a list of lists of two -/
noncomputable def PairTurn (prog : Program) (w : World) (A : Around) (h₀ : Heap) (L : Addr) (m : Str → Option Value) (env : Env) (elt : Expr) (a b : Str) (scope : Scope) (cl : List (Str × Addr)) (s : Shared) (l : Addr) (items : Array Value) (n : Nat) (J : Nat → List Value → Led → Prop) (I : Addr) : Prop :=
  ∀ (i : Nat) t v1 v2 k oI oC C oD D m₂ h tk (E' : Value → Shared → Prop) ys news₁, items[i]? = some (.ref t) → (t, PySem.W.listOf (List.toArray [v1, v2]) k) ∈ news₁ → J i ys news₁ → (l, PySem.W.listOf items n) ∈ news₁ → NsObj oC m₂ → m₂ a = some v1 → m₂ b = some v2 → oD = lst ys → Fr h₀ L h m → News h₀ L h ((I, oI) :: (C, oC) :: (D, oD) :: news₁) →
    (∀ p ∈ news₁, p.1 ≠ I ∧ p.1 ≠ C ∧ p.1 ≠ D) →
    wpAny (model prog w) A (eval elt (compEnvC scope cl C env)) (CompEnd h₀ L m { s with heap := h, toks := tk } I oI C oC D oD (fun n' => (l, PySem.W.listOf items n) ∈ n') (fun y news' => J (i + 1) (ys ++ [y]) news')) E' { s with heap := h, toks := tk }
theorem pairBlock {elt iter : Expr} {a b : Str} {pa pb tp : Pos} {kk : Nat} {scope : Scope} {cl : List (Str × Addr)} {pos : Pos} {s₂ : Shared} {I l : Addr} {items : Array Value} {n : Nat} {news : Led} {J : Nat → List Value → Led → Prop} {RR : Value → Addr → Result → Shared → Prop}
    (hh : A.handled = none) (hm : (l, PySem.W.listOf items n) ∈ news) (hsz : items.size ≤ sizeLine) (hit : s₂.heap.IsListIter I l 0)
    (hcell : ∀ y ∈ scope.names, y.2 ≠ .cell) (hkind : scope.kind = .function) (hxa : scope.names.lookup a = some .local) (hxb : scope.names.lookup b = some .local) (hab : ¬ a = b)
    (F : Fr h₀ L s₂.heap m) (N : News h₀ L s₂.heap news) (hLi : L ≠ I) (hi₀ : h₀.get? I = none) (off : ∀ p ∈ news, p.1 ≠ I)
    (h0 : J 0 [] news) (hpr : ∀ i ys news₁ x, J i ys news₁ → items[i]? = some x → ∃ t v1 v2 k, x = .ref t ∧ (t, PySem.W.listOf (List.toArray [v1, v2]) k) ∈ news₁)
    (turn : PairTurn prog w A h₀ L m env elt a b scope cl s₂ l items n J I)
    (hRR : ∀ D C h tk m' ys news', Fr h₀ L h m → News h₀ L h ((D, lst ys) :: news') → (∀ p ∈ news', p.1 ≠ D) → h.Ns C m' → h₀.get? C = none → C ≠ L → C ≠ D → (∀ p ∈ news', p.1 ≠ C) → ys.length = items.size → J items.size ys news' →
      RR (.ref D) C (.ok .next) { s₂ with heap := h, toks := tk }) :
    wpAny (model prog w) A (newList []) (fun acc s₃ => wpAny (model prog w) A (newFunctionEnv scope env.globals cl [] env.qual none .none (some env)) (fun cenv s₄ =>
      codeAny (model prog w) A (.compStart (.ListComp elt [⟨.Tuple [.Name a pa, .Name b pb] kk tp, iter, [], 0⟩] scope pos) 0 (.ref I) acc { cenv with scope := relabel scope env }) (RR acc cenv.locals) s₄) E s₃) E s₂ := by
  refine wpAny_newObj_type (wpAny_newFunctionEnv hcell (by intro y hy; simp at hy) (fun h₁ hns₁ hsb₁ => ?_) hkind)
  dsimp only at hns₁ hsb₁ ⊢
  generalize hH : s₂.heap.push { cls := .type "list", dict := none, data := .seq ([] : List Value).toArray } = H at hns₁ hsb₁ ⊢
  have hsize : H.objs.size = s₂.heap.objs.size + 1 := by rw [← hH, Heap.size_push]
  have hDltC : s₂.heap.objs.size < H.objs.size := by rw [hsize]; exact Nat.lt_succ_self _
  have hDC : s₂.heap.objs.size ≠ H.objs.size := Nat.ne_of_lt hDltC
  have lt : ∀ c o, s₂.heap.get? c = some o → c < s₂.heap.objs.size := fun c o x => Heap.lt_size x
  have up : ∀ c o, s₂.heap.get? c = some o → h₁.get? c = some o := fun c o x => hsb₁.extBut c o (Nat.ne_of_lt (Nat.lt_trans (lt c o x) hDltC)) (Heap.get?_push_of_some _ (hH ▸ Heap.get?_push_of_some _ x))
  have hacc : h₁.get? s₂.heap.objs.size = some (lst []) := hsb₁.extBut _ _ hDC (Heap.get?_push_of_some _ (hH ▸ Heap.get?_push_size _ rfl))
  have hLD : L < s₂.heap.objs.size := F.ns.lt
  clear hsb₁ hH hsize
  generalize s₂.heap.objs.size = D at *
  generalize H.objs.size = C at *
  have neD : ∀ {c : Addr}, c < D → c ≠ D := fun h => Nat.ne_of_lt h
  have neC : ∀ {c : Addr}, c < D → c ≠ C := fun h => Nat.ne_of_lt (Nat.lt_trans h hDltC)
  have nil₀ : ∀ c, D ≤ c → h₀.get? c = none := fun c hc => by
    cases x : h₀.get? c with
    | none => rfl
    | some o => exact absurd (lt c o (F.keep c o x)) (Nat.not_lt.mpr hc)
  have hD₀ := nil₀ D (Nat.le_refl _)
  have hC₀ := nil₀ C (Nat.le_of_lt hDltC)
  obtain ⟨oi₀, hoi₀, _⟩ := id hit
  have hiD : I < D := lt _ _ hoi₀
  have newsD : ∀ p ∈ news, p.1 < D := fun p hp => lt _ _ (N p hp).1
  have hlI : l ≠ I := off _ hm
  have hCI : I ≠ C := neC hiD
  have hDI : I ≠ D := neD hiD
  have hDL : D ≠ L := (neD hLD).symm
  have hCL : C ≠ L := (neC hLD).symm
  have W := Walks.list (prog := prog) (w := w) (A := A) hh I l hlI items
  obtain ⟨oC₁, heC₁, hoC₁⟩ := ns_obj hns₁
  have loop : ∀ s₃ : Shared, s₃ = { s₂ with heap := h₁, toks := s₂.toks + ([] : List (Str × Value)).length } →
      codeAny (model prog w) A (.compLoop (.ListComp elt [⟨.Tuple [.Name a pa, .Name b pb] kk tp, iter, [], 0⟩] scope pos) 0 (.ref I) (.ref D) (compEnvC scope cl C env)) (RR (.ref D) C) s₃ := by
    rintro s₃ rfl
    refine kcp_loop (fun k s' => ∃ h' tk i ys oC m' news', s' = { s₂ with heap := h', toks := tk } ∧ i ≤ items.size ∧ k = items.size + 1 - i ∧ ys.length = i ∧ h'.IsListIter I l i ∧ Fr h₀ L h' m ∧ NsObj oC m' ∧
      News h₀ L h' ((C, oC) :: (D, lst ys) :: news') ∧ (∀ p ∈ news', p.1 ≠ I ∧ p.1 ≠ C ∧ p.1 ≠ D) ∧ (l, PySem.W.listOf items n) ∈ news' ∧ J i ys news') ?_ (items.size + 1)
      ⟨h₁, _, 0, [], oC₁, _, news, rfl, Nat.zero_le _, rfl, rfl, hit.at fun o x => up _ o x, F.keeps up, hoC₁, fun p hp => ?_, fun p hp => ⟨off p hp, neC (newsD p hp), neD (newsD p hp)⟩, hm, h0⟩
    · rintro k s' ⟨h', tk, i, ys, oC, m', news', rfl, hi, rfl, hyl, hit', F', hn', N', off', hm', hJ⟩
      have hlist : h'.IsList l items := ⟨_, (N' _ (.tail _ (.tail _ hm'))).1, rfl, n, rfl⟩
      by_cases hlt : i < items.size
      · refine W.item i _ _ _ hlt ⟨hit', hlist⟩ fun x h₂ tk₂ hx hst₂ hk₂ => ?_
        obtain ⟨t, v1, v2, kt, rfl, hmt⟩ := hpr i ys news' x hJ hx
        obtain ⟨⟨oI, heI, hoI⟩, _⟩ := id hst₂
        have F₂ : Fr h₀ L h₂ m := fr_but F' hk₂ hLi hi₀
        have N₂ : News h₀ L h₂ ((I, oI) :: (C, oC) :: (D, lst ys) :: news') := fun p hp => by
          rcases List.mem_cons.mp hp with rfl | hp
          · exact ⟨heI, Ne.symm hLi, hi₀⟩
          · refine news_but N' hk₂ (fun p hp => ?_) p hp
            rcases List.mem_cons.mp hp with rfl | hp
            · exact Ne.symm hCI
            · rcases List.mem_cons.mp hp with rfl | hp
              · exact Ne.symm hDI
              · exact (off' p hp).1
        refine wpAny_letOwnedTupleGo_listiter hst₂.1 ?_
        refine kun_list F₂ N₂ (items := List.toArray [v1, v2]) (isListOf (n := kt) N₂ (.tail _ (.tail _ (.tail _ hmt)))) hh rfl rfl fun h₅ F₅ N₅ => ?_
        have hn₅ : h₅.Ns C m' := hn'.ns (N₅ (C, oC) (.tail _ (.head _))).1
        refine assignInOrder_cons (wpAny_assign_Name (wpAny_storeName_local (lookup_relabel_local hxa) hn₅ (fun h₆ hn₆ hs₆ => ?_) (by simp [compEnvC, relabel, hkind])))
        refine assignInOrder_cons (wpAny_assign_Name (wpAny_storeName_local (lookup_relabel_local hxb) hn₆ (fun h₃ hn₃ hs₃ => ?_) (by simp [compEnvC, relabel, hkind])))
        refine assignInOrder_nil ?_
        have old3 : ∀ b o, b ≠ C → h₅.get? b = some o → h₃.get? b = some o := fun b o hb e => hs₃.extBut b o hb (hs₆.extBut b o hb e)
        obtain ⟨oC₃, heC, hoC⟩ := ns_obj hn₃
        have F₃ : Fr h₀ L h₃ m := (F₅.change hs₆ hCL hC₀).change hs₃ hCL hC₀
        have N₃ : News h₀ L h₃ ((I, oI) :: (C, oC₃) :: (D, lst ys) :: news') := fun p hp => by
          rcases List.mem_cons.mp hp with rfl | hp
          · have z := N₅ _ (.head _)
            exact ⟨old3 _ _ hCI z.1, z.2⟩
          · rcases List.mem_cons.mp hp with rfl | hp
            · exact ⟨heC, hCL, hC₀⟩
            · have z := N₅ p (.tail _ (.tail _ hp))
              refine ⟨old3 _ _ ?_ z.1, z.2⟩
              rcases List.mem_cons.mp hp with rfl | hp
              · exact hDC
              · exact (off' p hp).2.1
        refine wpAny_mono (turn i t v1 v2 kt oI oC₃ C _ D _ h₃ _ _ ys news' hx hmt hJ hm' hoC (by simp [hab]) (by simp) rfl F₃ N₃ off') (fun y s₄ h₄ => ?_) fun _ _ e => e
        obtain ⟨h₄, tk₄, news₄, rfl, F₄, N₄, off₄, hS₄, R₄⟩ := h₄
        have zI := (N₄ (I, oI) List.mem_cons_self).1
        have zC := (N₄ (C, oC₃) (List.mem_cons_of_mem _ List.mem_cons_self)).1
        have zD := (N₄ (D, lst ys) (List.mem_cons_of_mem _ (List.mem_cons_of_mem _ List.mem_cons_self))).1
        have off4 := off₄.mem
        refine append_at (hsz := by show ys.toArray.size ≤ sizeLine; rw [List.size_toArray, hyl]; exact Nat.le_trans hi hsz) zD fun h₆ hs₆ hD₆ => ?_
        refine ⟨items.size + 1 - (i + 1), by omega, h₆, tk₄, i + 1, ys ++ [y], oC₃, _, news₄, rfl, hlt, rfl, by rw [List.length_append, List.length_singleton, hyl], ⟨oI, hs₆.extBut I _ hDI zI, hoI⟩,
          F₄.change hs₆ hDL hD₀, hoC, fun q hq => ?_, off4, hS₄, R₄⟩
        rcases List.mem_cons.mp hq with rfl | hq
        · exact ⟨hs₆.extBut _ _ (Ne.symm hDC) zC, hCL, hC₀⟩
        · rcases List.mem_cons.mp hq with rfl | hq
          · exact ⟨hD₆.trans (congrArg some (lst_snoc ys y)), hDL, hD₀⟩
          · have z := N₄ q (.tail _ (.tail _ (.tail _ hq)))
            exact ⟨hs₆.extBut _ _ (off4 q hq).2.2 z.1, z.2⟩
      · have hin : i = items.size := Nat.le_antisymm hi (Nat.not_lt.mp hlt)
        subst hin
        refine W.done _ _ _ ⟨hit', hlist⟩ fun h₂ tk₂ hk₂ => ?_
        have N₂ : News h₀ L h₂ ((C, oC) :: (D, lst ys) :: news') := news_but N' hk₂ (fun p hp => by
          rcases List.mem_cons.mp hp with rfl | hp
          · exact Ne.symm hCI
          · rcases List.mem_cons.mp hp with rfl | hp
            · exact Ne.symm hDI
            · exact (off' p hp).1)
        exact hRR D C h₂ tk₂ m' ys news' (fr_but F' hk₂ hLi hi₀) (fun q hq => N₂ q (.tail _ hq)) (fun p hp => (off' p hp).2.2) (hn'.ns (N₂ _ (.head _)).1) hC₀ hCL (Ne.symm hDC) (fun p hp => (off' p hp).2.1) hyl hJ
    · rcases List.mem_cons.mp hp with rfl | hp
      · exact ⟨heC₁, hCL, hC₀⟩
      · rcases List.mem_cons.mp hp with rfl | hp
        · exact ⟨hacc, hDL, hD₀⟩
        · exact ⟨up _ _ (N p hp).1, (N p hp).2⟩
  exact codeAny_compStart_list (loop _ rfl) (W.self 0 _ _ _ ⟨hit.at fun o x => up _ o x, ⟨_, ((N.grown up) _ hm).1, rfl, n, rfl⟩⟩ (loop _ rfl))
noncomputable def PairSrc (prog : Program) (w : World) (A : Around) (h₀ : Heap) (L : Addr) (m : Str → Option Value) (env : Env) (elt : Expr) (a b : Str) (scope : Scope) (cl : List (Str × Addr)) (fin : Shared → Nat → (Nat → List Value → Led → Prop) → Prop) (xv : Value) (s₁ : Shared) : Prop :=
  ∃ (l : Addr) (items : Array Value) (n : Nat) (news : Led) (J : Nat → List Value → Led → Prop), xv = .ref l ∧ A.handled = none ∧ (l, PySem.W.listOf items n) ∈ news ∧ items.size ≤ sizeLine ∧
    Fr h₀ L s₁.heap m ∧ News h₀ L s₁.heap news ∧ J 0 [] news ∧ (∀ i ys news₁ x, J i ys news₁ → items[i]? = some x → ∃ t v1 v2 k, x = .ref t ∧ (t, PySem.W.listOf (List.toArray [v1, v2]) k) ∈ news₁) ∧
    (∀ g I, PairTurn prog w A h₀ L m env elt a b scope cl { s₁ with heap := g } l items n J I) ∧ ∀ g, fin { s₁ with heap := g } items.size J
theorem pairSrc {elt : Expr} {a b : Str} {scope : Scope} {cl : List (Str × Addr)} {fin : Shared → Nat → (Nat → List Value → Led → Prop) → Prop} {l : Addr} {vs : List Value} {n : Nat} {news : Led} (J : Nat → List Value → Led → Prop)
    (hh : A.handled = none) (F : Fr h₀ L s.heap m) (N : News h₀ L s.heap news) (hm : (l, PySem.W.listOf vs.toArray n) ∈ news) (hsz : vs.length ≤ 1000) (h0 : J 0 [] news)
    (hpr : ∀ i ys news₁ x, J i ys news₁ → vs[i]? = some x → ∃ t v1 v2 k, x = .ref t ∧ (t, PySem.W.listOf (List.toArray [v1, v2]) k) ∈ news₁)
    (turn : ∀ g I, PairTurn prog w A h₀ L m env elt a b scope cl { s with heap := g } l vs.toArray n J I) (hf : ∀ g, fin { s with heap := g } vs.length J) :
    PairSrc prog w A h₀ L m env elt a b scope cl fin (.ref l) s :=
  ⟨l, vs.toArray, n, news, J, rfl, hh, hm, by rw [List.size_toArray, sizeLine_eq]; omega, F, N, h0, fun i ys n₁ x hJ hx => hpr i ys n₁ x hJ (by simpa using hx), turn, by rw [List.size_toArray]; exact hf⟩
theorem pairRun {elt iter : Expr} {a b : Str} {pa pb tp : Pos} {kk : Nat} {scope : Scope} {cl : List (Str × Addr)} {pos : Pos} {fin : Shared → Nat → (Nat → List Value → Led → Prop) → Prop} {RR : Value → Addr → Result → Shared → Prop} {xv : Value} {s₁ : Shared}
    (hcell : ∀ y ∈ scope.names, y.2 ≠ .cell) (hkind : scope.kind = .function) (hxa : scope.names.lookup a = some .local) (hxb : scope.names.lookup b = some .local) (hab : ¬ a = b)
    (S : PairSrc prog w A h₀ L m env elt a b scope cl fin xv s₁)
    (hRR : ∀ g k J D C h tk m' ys news', fin { s₁ with heap := g } k J → Fr h₀ L h m → News h₀ L h ((D, lst ys) :: news') → (∀ p ∈ news', p.1 ≠ D) → h.Ns C m' → h₀.get? C = none → C ≠ L → C ≠ D → (∀ p ∈ news', p.1 ≠ C) → ys.length = k → J k ys news' →
      RR (.ref D) C (.ok .next) { s₁ with heap := h, toks := tk }) :
    wpAny (model prog w) A (pyIter xv) (fun it s₂ => wpAny (model prog w) A (newList []) (fun acc s₃ => wpAny (model prog w) A (newFunctionEnv scope env.globals cl [] env.qual none .none (some env)) (fun cenv s₄ =>
      codeAny (model prog w) A (.compStart (.ListComp elt [⟨.Tuple [.Name a pa, .Name b pb] kk tp, iter, [], 0⟩] scope pos) 0 it acc { cenv with scope := relabel scope env }) (RR acc cenv.locals) s₄) E s₃) E s₂) E s₁ := by
  obtain ⟨l, items, n, news, J, rfl, hh, hm, hsz, F, N, h0, hpr, turn, hf⟩ := S
  have hl : s₁.heap.IsList l items := ⟨_, (N _ hm).1, rfl, n, rfl⟩
  refine wpAny_pyIter_list hl ?_
  have up : ∀ b o, s₁.heap.get? b = some o → (s₁.heap.push { cls := .type "list_iterator", data := .fields #[.ref l, .int 0 0] }).get? b = some o := fun b o e => Heap.get?_push_of_some _ e
  exact pairBlock hh hm hsz ⟨_, Heap.get?_push_size _ rfl, rfl, rfl⟩ hcell hkind hxa hxb hab (F.keeps up) (N.grown up) (Nat.ne_of_lt F.ns.lt) (next_is_new F) (fun p hp => Nat.ne_of_lt (Heap.lt_size (N p hp).1)) h0 hpr (turn _ _)
    fun D C h tk m' ys news' F' N' oD hn hC₀ hCL hCD offC hlen hJ => hRR s₁.heap _ J D C h tk m' ys news' (hf _) F' N' oD hn hC₀ hCL hCD offC hlen hJ
theorem pairComp {elt iter : Expr} {x x₂ : Str} {px px₂ tp : Pos} {tk} {scope : Scope} {cl : List (Str × Addr)} {pos : Pos} {Q : Value → Shared → Prop}
    (hclos : closureFor scope env = pure cl) (hcell : ∀ z ∈ scope.names, z.2 ≠ .cell) (hkind : scope.kind = .function)
    (hnames : ∀ z ∈ scope.names, z.2 = .local → scope.names.lookup z.1 = some .local) (hx : scope.names.lookup x = some .local) (hx₂ : scope.names.lookup x₂ = some .local) (hxx : ¬ x = x₂)
    (h : wpAny (model prog w) A (eval iter env) (PairSrc prog w A h₀ L m env elt x x₂ scope cl (fun s' k J => FinV h₀ L m s' Q k J)) E s)
    (hs : ∀ x, foldedSetIterable iter env x = pure x := by intro _; rfl) :
    wpAny (model prog w) A (eval (.ListComp elt [⟨.Tuple [.Name x px, .Name x₂ px₂] tk tp, iter, [], 0⟩] scope pos) env) Q E s := by
  rw [eval_ListComp]
  refine wpAny_comprehension_free (use := none) rfl hs hclos hkind hnames (wpAny_mono h (fun xv s₁ h₁ => ?_) fun _ _ e => e)
  refine pairRun hcell hkind hx hx₂ hxx h₁ ?_
  intro g k J D C h' tk m' ys news' fin F' N' oD hn hC₀ hCL hCD offC hlen hJ
  refine ⟨m', hn, fun h'' hs'' => fin D ys news' h'' _ hJ (F'.change hs'' hCL hC₀) (fun p hp => ?_) oD hlen⟩
  refine ⟨hs''.extBut _ _ ?_ (N' p hp).1, (N' p hp).2⟩
  rcases List.mem_cons.mp hp with rfl | hp
  · exact Ne.symm hCD
  · exact offC p hp
end
end Mine
namespace Mine
open LCg
/-! a comprehension over a range whose name is caught by a block within -/
section
variable {M : Model} {A : Around} {E : Value → Shared → Prop} {s : Shared}
theorem newEnv_cell {scope : Scope} {globals : Addr} {cl : List (Str × Addr)} {qual : Str} {env : Env} {x : Str} {Q : Env → Shared → Prop}
    (hp : ∀ h : Heap, pushCells h scope.names = h.push { cls := .type "cell", data := .cell none }) (hc : ∀ C : Nat, cellsFrom (C + 1) scope.names cl = (x, C + 1) :: cl)
    (hQ : Q (newEnv scope s.heap.objs.size globals ((x, s.heap.objs.size + 1) :: cl) qual none .none (some env) builtinsNs) { s with heap := (s.heap.push { cls := .type "dict", data := .dict #[] }).push { cls := .type "cell", data := .cell none } }) :
    wpAny M A (newFunctionEnv scope globals cl [] qual none .none (some env)) Q E s := by
  simp only [newFunctionEnv, Option.isSome_some, if_true]
  refine wpAny_bind (wpAny_alloc ?_)
  refine wpAny_bind (wpAny_layCells _ (fun name kind cells => by cases hkc : kind == NameKind.cell <;> simp) _ _ _ _ ?_)
  rw [show ({ s with heap := s.heap.push { cls := .type "dict", data := .dict #[] } } : Shared).heap.objs.size = s.heap.objs.size + 1 from Heap.size_push .., hc, hp, List.forIn_nil]
  exact wpAny_bind (wpAny_pure (wpAny_pure hQ))
end
section
variable {prog : Program} {w : World} {A : Around} {E : Value → Shared → Prop} {s : Shared} {h₀ : Heap} {L : Addr} {m : Str → Option Value} {env : Env}
noncomputable def CellEnd (h₀ : Heap) (L : Addr) (m : Str → Option Value) (s : Shared) (I C K D : Addr) (oI oC oK oD : Obj) (J : Value → Led → Prop) (y : Value) (s' : Shared) : Prop :=
  ∃ h' tk news', s' = { s with heap := h', toks := tk } ∧ Fr h₀ L h' m ∧ News h₀ L h' ((I, oI) :: (C, oC) :: (K, oK) :: (D, oD) :: news') ∧ (∀ p ∈ news', p.1 ≠ I ∧ p.1 ≠ C ∧ p.1 ≠ K ∧ p.1 ≠ D) ∧ J y news'
noncomputable def CellTurn (prog : Program) (w : World) (A : Around) (h₀ : Heap) (L : Addr) (m : Str → Option Value) (env : Env) (elt : Expr) (x : Str) (scope : Scope) (cl : List (Str × Addr)) (s : Shared) (n : Nat) (J : Nat → List Value → Led → Prop) : Prop :=
  ∀ (i : Nat) (t : Tok) I oI C oC K oK D oD h tk (E' : Value → Shared → Prop) ys news₁, i < n → J i ys news₁ → oK.data = .cell (some (.int (i : Int) t)) → oD = lst ys → Fr h₀ L h m → News h₀ L h ((I, oI) :: (C, oC) :: (K, oK) :: (D, oD) :: news₁) →
    (∀ p ∈ news₁, p.1 ≠ I ∧ p.1 ≠ C ∧ p.1 ≠ K ∧ p.1 ≠ D) →
    wpAny (model prog w) A (eval elt (compEnvC scope ((x, K) :: cl) C env)) (CellEnd h₀ L m { s with heap := h, toks := tk } I C K D oI oC oK oD (fun y news' => J (i + 1) (ys ++ [y]) news')) E' { s with heap := h, toks := tk }
end
end Mine
namespace Mine
/-! a for over enumerate of a list of the ledger, by an invariant -/
noncomputable def EEnd (h₀ : Heap) (L : Addr) (s : Shared) (I I2 : Addr) (oI oI2 : Obj) (keep : Addr × Obj) (J : (Str → Option Value) → Led → Prop) (s₂ : Shared) : Prop :=
  ∃ h' tk m' news', s₂ = { s with heap := h', toks := tk } ∧ Fr h₀ L h' m' ∧ News h₀ L h' ((I, oI) :: (I2, oI2) :: news') ∧ (∀ p ∈ news', p.1 ≠ I ∧ p.1 ≠ I2) ∧ keep ∈ news' ∧ J m' news'
noncomputable def EPost (h₀ : Heap) (L : Addr) (s : Shared) (I I2 : Addr) (oI oI2 : Obj) (keep : Addr × Obj) (J : (Str → Option Value) → Led → Prop) (Q : Flow → Shared → Prop) (f : Flow) (s₂ : Shared) : Prop :=
  match f with
  | .ret v => Q (.ret v) s₂
  | .brk => Q .next s₂
  | _ => EEnd h₀ L s I I2 oI oI2 keep J s₂
theorem EPost.next {h₀ : Heap} {L : Addr} {s : Shared} {I I2 : Addr} {oI oI2 : Obj} {keep : Addr × Obj} {J : (Str → Option Value) → Led → Prop} {Q : Flow → Shared → Prop} {h' : Heap} {tk : Nat} {m' : Str → Option Value} {all : Led}
    (F : Fr h₀ L h' m') (N : News h₀ L h' all) (news' : Led) (sub : ∀ p ∈ (I, oI) :: (I2, oI2) :: news', p ∈ all) (off : ∀ p ∈ news', p.1 ≠ I ∧ p.1 ≠ I2) (hk : keep ∈ news') (j : J m' news') : EPost h₀ L s I I2 oI oI2 keep J Q .next { s with heap := h', toks := tk } :=
  ⟨h', tk, m', news', rfl, F, fun p hp => N p (sub p hp), off, hk, j⟩
section
variable {prog : Program} {w : World} {A : Around} {E : Value → Shared → Prop} {s : Shared} {env : Env} {h₀ : Heap} {body : List Stmt} {Q : Flow → Shared → Prop}
theorem forE {a b : Str} {pa pb pos : Pos} {kk : Nat} {ax : Addr} {vs : List Value} {n : Nat} {m₀ : Str → Option Value} {news : Led} (J : Nat → (Str → Option Value) → Led → Prop)
    (hh : A.handled = none) (F : Fr h₀ env.locals s.heap m₀) (N : News h₀ env.locals s.heap news) (hm : (ax, PySem.W.listOf vs.toArray n) ∈ news) (h0 : J 0 m₀ news)
    (ha : env.kindOf a = some .local) (hb : env.kindOf b = some .local) (hp : (env.scope.kind == .class || (env.scope.kind == .module && env.locals != env.globals)) = false)
    (turn : ∀ i x t I I2 oI oI2 m₁ news₁ h tk, vs[i]? = some x → J i m₁ news₁ → (ax, PySem.W.listOf vs.toArray n) ∈ news₁ → (∀ p ∈ news₁, p.1 ≠ I ∧ p.1 ≠ I2) → Fr h₀ env.locals h (fun z => if z = b then some x else if z = a then some (.int (i : Nat) t) else m₁ z) → News h₀ env.locals h ((I, oI) :: (I2, oI2) :: news₁) →
      wpAny (model prog w) A (execs body env) (EPost h₀ env.locals s I I2 oI oI2 (ax, PySem.W.listOf vs.toArray n) (J (i + 1)) Q) E { s with heap := h, toks := tk })
    (done : ∀ m₁ news₁ h tk, J vs.length m₁ news₁ → Fr h₀ env.locals h m₁ → News h₀ env.locals h news₁ → Q .next { s with heap := h, toks := tk }) :
    wpAny (model prog w) A (call (.type "enumerate") [.ref ax]) (fun xv s₁ => wpAny (model prog w) A (pyIter xv) (fun it s₂ => TurnsAt prog w A h₀ env (.Tuple [.Name a pa, .Name b pb] kk pos) body Q E it s₂) E s₁) E s := by
  refine ktu_enum hh F N hm rfl rfl rfl (fun I hI => ?_)
  have key : ∀ (k i : Nat) (m₁ : Str → Option Value) (news₁ : Led), i + k = vs.length → J i m₁ news₁ → (ax, PySem.W.listOf vs.toArray n) ∈ news₁ → (∀ p ∈ news₁, p.1 ≠ I + 1 ∧ p.1 ≠ I) →
      ItemsRest prog w A E h₀ env (.Tuple [.Name a pa, .Name b pb] kk pos) body Q s [(I + 1, "enumerate"), (I, "list_iterator")] [(ax, PySem.W.listOf vs.toArray n)] (enumItems i (vs.drop i)) m₁ news₁ := by
    intro k
    induction k with
    | zero =>
      intro i m₁ news₁ hi hJ hm₁ off
      rw [List.drop_eq_nil_of_le (by omega)]
      have : i = vs.length := by omega
      subst this
      exact ItemsRest.zero fun h tk F' N' => done m₁ news₁ h tk hJ F' N'
    | succ k ih =>
      intro i m₁ news₁ hi hJ hm₁ off
      have hlt : i < vs.length := by omega
      rw [List.drop_eq_getElem_cons hlt]
      show ItemsRest prog w A E h₀ env (.Tuple [.Name a pa, .Name b pb] kk pos) body Q s _ _ (.pair (fun t => .int (i : Nat) t) vs[i] :: enumItems (i + 1) (vs.drop (i + 1))) m₁ news₁
      refine ItemsRest.pair fun T t h tk hT F' => ?_
      intro oE _
      intro oI _
      intro N'
      have N' : News h₀ env.locals h ((I + 1, oE) :: (I, oI) :: news₁) := N'
      refine assign_Tuple_tuple hh hT rfl rfl fun h₅ he => ?_
      have he' : ∀ c o, h.get? c = some o → h₅.get? c = some o := fun c o e => he c o (Nat.ne_of_lt (Heap.lt_size e)) e
      have F₅ := F'.keeps he'
      have N₅ := N'.grown he'
      refine assignInOrder_cons (wpAny_assign_Name (wpAny_storeName_local ha F₅.ns (fun h₆ hn₆ hs₆ => ?_) hp))
      have F₆ := F₅.set hn₆ hs₆
      have N₆ := N₅.set hs₆
      refine assignInOrder_cons (wpAny_assign_Name (wpAny_storeName_local hb F₆.ns (fun h₇ hn₇ hs₇ => ?_) hp))
      have F₇ := F₆.set hn₇ hs₇
      have N₇ := N₆.set hs₇
      refine assignInOrder_nil ?_
      refine wpAny_mono (turn i vs[i] t (I + 1) I oE oI m₁ news₁ h₇ _ (by simp [hlt]) hJ hm₁ off F₇ N₇) (fun f s₃ h₃ => ?_) fun _ _ e => e
      have fin : EEnd h₀ env.locals s (I + 1) I oE oI (ax, PySem.W.listOf vs.toArray n) (J (i + 1)) s₃ → UnrEndW h₀ env.locals { s with heap := h, toks := tk } [(I + 1, oE), (I, oI)] (fun m' n' => SubL [(ax, PySem.W.listOf vs.toArray n)] n' ∧ ItemsRest prog w A E h₀ env (.Tuple [.Name a pa, .Name b pb] kk pos) body Q s [(I + 1, "enumerate"), (I, "list_iterator")] [(ax, PySem.W.listOf vs.toArray n)] (enumItems (i + 1) (vs.drop (i + 1))) m' n') s₃ := by
        rintro ⟨h', tk', m', news', e, F₃, N₃, off₃, hm₃, hJ₃⟩
        refine ⟨h', tk', m', news', e, F₃, N₃, fun p hp q hq => ?_, ⟨hm₃, trivial⟩, ih (i + 1) m' news' (by omega) hJ₃ hm₃ off₃⟩
        rcases List.mem_cons.mp hq with rfl | hq
        · exact (off₃ p hp).1
        · rw [List.mem_singleton.mp hq]; exact (off₃ p hp).2
      cases f with
      | ret v => exact h₃
      | brk => exact h₃
      | next => exact fin h₃
      | cont => exact fin h₃
  have := key vs.length 0 m₀ news (by omega) h0 hm (fun p hp => ⟨Nat.ne_of_lt (Nat.lt_succ_of_lt (hI p hp)), Nat.ne_of_lt (hI p hp)⟩)
  rw [List.drop_zero] at this
  exact this
end
end Mine
namespace Mine
/-! each second item, and the list turned round -/
noncomputable def odds {α : Type} (l : List α) : List α := (List.range (l.length / 2)).filterMap fun i => l[2 * i + 1]?
theorem fm_map {α β : Type} {f : α → Option β} {g : α → β} : ∀ l : List α, (∀ i ∈ l, f i = some (g i)) → l.filterMap f = l.map g
  | [], _ => rfl
  | i :: l, h => by
    rw [List.filterMap_cons, h i (.head _), List.map_cons, fm_map l fun j hj => h j (.tail _ hj)]
theorem odds_eq {α : Type} (l : List α) (d : α) : odds l = (List.range (l.length / 2)).map fun i => l.getD (2 * i + 1) d := by
  refine fm_map _ fun i hi => ?_
  have : 2 * i + 1 < l.length := by have := List.mem_range.mp hi; omega
  simp [this]
theorem odds_len {α : Type} (l : List α) : (odds l).length = l.length / 2 := by
  cases l with
  | nil => simp [odds]
  | cons d l => rw [odds_eq _ d]; simp
theorem odds_get {α : Type} (l : List α) {i : Nat} (h : i < l.length / 2) : (odds l)[i]? = l[2 * i + 1]? := by
  cases hl : l with
  | nil => subst hl; simp at h
  | cons d r =>
    rw [← hl, odds_eq l d]
    have : 2 * i + 1 < l.length := by omega
    simp only [List.getElem?_map, List.getElem?_range h, Option.map_some]
    simp [this]
theorem RA.odds {α : Type} {R : Led → Value → α → Prop} {news : Led} {vs : List Value} {xs : List α} (h : RA R news vs xs) : RA R news (odds vs) (Mine.odds xs) := by
  have hln := h.length
  unfold Mine.odds
  rw [hln]
  have key : ∀ is : List Nat, (∀ i ∈ is, 2 * i + 1 < xs.length) → RA R news (is.filterMap fun i => vs[2 * i + 1]?) (is.filterMap fun i => xs[2 * i + 1]?) := by
    intro is
    induction is with
    | nil => intro _; exact .nil
    | cons i is ih =>
      intro hi
      have h1 := hi i (.head _)
      obtain ⟨v, hv, r⟩ := h.get (i := 2 * i + 1) (x := xs[2 * i + 1]) (by simp [h1])
      have hx : xs[2 * i + 1]? = some xs[2 * i + 1] := by simp [h1]
      rw [List.filterMap_cons, List.filterMap_cons, hv, hx]
      exact .cons r (ih fun j hj => hi j (.tail _ hj))
  exact key _ (fun i hi => by have := List.mem_range.mp hi; omega)
theorem pick_odds (vs : List Value) : (slicePick vs.toArray (some 1) none (some 2)).toList = odds vs := by
  unfold slicePick odds
  have e1 : (sliceBounds (some 1) none (some 2) vs.toArray.size) = (max 0 (min 1 (vs.length : Int)), (vs.length : Int), 2) := by
    simp [sliceBounds]
  rw [e1]
  dsimp only
  have e2 : sliceRange (max 0 (min 1 (vs.length : Int))) (vs.length : Int) 2 = (List.range (vs.length / 2)).map fun i => 2 * i + 1 := by
    unfold sliceRange
    have e3 : ((if (2 : Int) > 0 then (if max 0 (min 1 (vs.length : Int)) < (vs.length : Int) then ((vs.length : Int) - max 0 (min 1 (vs.length : Int)) + 2 - 1) / 2 else 0)
                     else (if max 0 (min 1 (vs.length : Int)) > (vs.length : Int) then (max 0 (min 1 (vs.length : Int)) - (vs.length : Int) - 2 - 1) / (-2) else 0)) : Int).toNat = vs.length / 2 := by
      rw [if_pos (by decide)]
      split <;> omega
    dsimp only
    rw [e3]
    refine List.map_congr_left fun i hi => ?_
    have := List.mem_range.mp hi
    omega
  rw [e2, List.filterMap_map]
  simp only [List.getElem?_toArray]
  rfl
theorem pick_rev (vs : List Value) : (slicePick vs.toArray none none (some (-1))).toList = vs.reverse := by
  rw [krv_pick]
section
variable {prog : Program} {w : World} {A : Around} {E : Value → Shared → Prop} {s : Shared} {h₀ : Heap} {L : Addr} {m : Str → Option Value} {news : Led}
theorem slice3X {value slice : PySem.Expr} {l : Addr} {vs zs : List Value} {n : Nat} {vl vu vk : Value} {lo hi st : Option Int} {ops : List Value} {Q : Value → Shared → Prop} (F : Fr h₀ L s.heap m) (N : News h₀ L s.heap news) (hm : (l, PySem.W.listOf vs.toArray n) ∈ news)
    (pl : IsPart vl lo) (pu : IsPart vu hi) (pk : IsPart vk st) (h0 : st ≠ some 0) (e : (slicePick vs.toArray lo hi st).toList = zs) (hz : vs.length ≤ 2000)
    (h : ∀ D h', Fr h₀ L h' m → News h₀ L h' ((D, PySem.W.listOf (List.toArray zs) 0) :: news) → (∀ p ∈ news, p.1 < D) → Q (.ref D) { s with heap := h' })
    (hs : subscripted slice false (.ref l) (.ref s.heap.objs.size) = operate ops (getItem (.ref l) (.ref s.heap.objs.size))) (ht : ∀ r, letTemporaryGo value (.ref l) r = pure ()) :
    wpAny (model prog w) A (subscriptTail value slice (.ref l) (.ref s.heap.objs.size)) Q E { s with heap := s.heap.push { cls := .type "slice", data := .fields #[vl, vu, vk] } } :=
  kmk_slice3_lit F N (isListOf N hm) pl pu pk h0 e h hs ht (by rw [List.size_toArray, sizeLine_eq]; omega)
end
end Mine
namespace Mine
section
variable {prog : Program} {w : World} {A : Around} {E : Value → Shared → Prop} {s : Shared} {h₀ : Heap} {L : Addr} {rest : Led} {m : Str → Option Value}
theorem extendL {l b : Addr} {vs ws : List Value} {n n2 : Nat} {Q : Value → Shared → Prop} (F : Fr h₀ L s.heap m) (N : News h₀ L s.heap ((l, PySem.W.listOf vs.toArray n) :: rest)) (off : ∀ p ∈ rest, p.1 ≠ l) (hb : (b, PySem.W.listOf ws.toArray n2) ∈ rest)
    (hz : vs.length + ws.length ≤ 1000) (h : ∀ h' c, Fr h₀ L h' m → News h₀ L h' ((l, PySem.W.listOf (vs ++ ws).toArray c) :: rest) → Q .none { s with heap := h' }) :
    wpAny (model prog w) A (call (.builtin "list.extend") [.ref l, .ref b]) Q E s := by
  have hd : ¬(!vs.toArray.isEmpty && Builtin.List.listTooLong (vs.toArray.size + ws.toArray.size)) = true := by
    unfold Builtin.List.listTooLong
    simp
    intro _; rw [sizeLine_eq]
    omega
  by_cases hw : ws = []
  · subst hw
    refine kxn_extend F N (.tail _ hb) rfl (Upd.head off) hd (by rw [sizeLine_eq]; show vs.length ≤ _; omega) (by rw [sizeLine_eq]; simp; omega) (fun h' F' N' => h h' n F' (by rw [List.append_nil]; exact N'))
  · refine kl_extend F N (.tail _ hb) rfl (by show ws.length ≠ 0; simpa using hw) (Upd.head off) hd (by rw [sizeLine_eq]; show vs.length ≤ _; omega) (by rw [sizeLine_eq]; simp; omega) (fun h' F' N' => h h' _ F' N')
end
end Mine
namespace Mine
/-! a for over a range, by an invariant -/
section
variable {prog : Program} {w : World} {A : Around} {E : Value → Shared → Prop} {s : Shared} {env : Env} {h₀ : Heap} {body : List Stmt} {Q : Flow → Shared → Prop}
theorem iter_rangeTurns {x : Str} {px : Pos} {r : Addr} {b : Int} {t u v : Tok} {n : Nat} {m₀ : Str → Option Value} {news : Led}
    (hh : A.handled = none) (F : Fr h₀ env.locals s.heap m₀) (N : News h₀ env.locals s.heap news) (hR : IsRange s.heap r 0 b 1 t u v) (hsm : Builtin.Range.small 0 b 1 = true) (hn : Builtin.Range.rangeSize 0 b 1 = ((n : Nat) : Int))
    (rest₀ : ∀ I : Addr, (∀ p ∈ news, p.1 < I) → ItemsRest prog w A E h₀ env (.Name x px) body Q s [(I, "range_iterator")] [] ((List.range n).map fun i => .tok (fun t => .int ((i : Nat) : Int) t)) m₀ news) :
    wpAny (model prog w) A (pyIter (.ref r)) (fun it s₂ => TurnsAt prog w A h₀ env (.Name x px) body Q E it s₂) E s := by
  refine wpAny_pyIter_range hR hsm ?_
  rw [hn]
  have W := (Walks.range (prog := prog) (w := w) (A := A) hh s.heap.objs.size 0 1 n).bound
  refine ktu_core (tk0 := s.toks) (keep := []) (KTurns.ofWalks W fun i v s Q E st q => wpAny_pure q) (by simp) (fun i v h hp => ?_) (fun i h st => ?_) (fun b hb => ?_) (fun b hb => by simpa using hb) (fun b hb => ?_) ?_ (fun p hp hI => ?_) ?_ (F.push _) (fun p hp => ⟨Heap.get?_push_of_some _ (N p hp).1, (N p hp).2⟩) trivial (rest₀ _ fun p hp => Heap.lt_size (N p hp).1)
  · obtain ⟨hi, t, rfl⟩ := hp
    refine ⟨.tok (fun t => .int ((i : Nat) : Int) t), by simp [hi], t, ?_⟩
    show Value.int (0 + (i : Int) * 1) t = _
    rw [Int.mul_one, Int.zero_add]
  · have st' : h.get? s.heap.objs.size = some _ := st
    exact ⟨[(s.heap.objs.size, _)], ⟨⟨rfl, rfl⟩, trivial⟩, fun p hp => by rw [List.mem_singleton.mp hp]; exact st'⟩
  · have hb' : b = s.heap.objs.size := by simpa using hb
    rw [hb']
    exact ⟨List.mem_cons_self .., next_is_new F⟩
  · have hb' : b = s.heap.objs.size := by simpa using hb
    exact .inl (by simp [hb'])
  · intro hI
    exact absurd F.ns.lt ((List.mem_singleton.mp hI) ▸ Nat.lt_irrefl _)
  · exact absurd (Heap.lt_size (N p hp).1) ((List.mem_singleton.mp hI) ▸ Nat.lt_irrefl _)
  · show IsRangeIter _ _ _ _ _
    show Heap.get? _ _ = some _
    rw [Heap.get?_push_size _ rfl]
    simp
theorem forR {x : Str} {px : Pos} {r : Addr} {b : Int} {t u v : Tok} {n : Nat} {m₀ : Str → Option Value} {news : Led} (J : Nat → (Str → Option Value) → Led → Prop)
    (hh : A.handled = none) (F : Fr h₀ env.locals s.heap m₀) (N : News h₀ env.locals s.heap news) (hR : IsRange s.heap r 0 b 1 t u v) (hsm : Builtin.Range.small 0 b 1 = true) (hn : Builtin.Range.rangeSize 0 b 1 = ((n : Nat) : Int)) (h0 : J 0 m₀ news) (any : Addr × Obj)
    (turn : ∀ i t I oI m₁ news₁ h tk, i < n → J i m₁ news₁ → (∀ p ∈ news₁, p.1 ≠ I) → Fr h₀ env.locals h m₁ → News h₀ env.locals h ((I, oI) :: news₁) →
      wpAny (model prog w) A (assign (.Name x px) env (.int (i : Nat) t)) (fun _ s₂ => wpAny (model prog w) A (execs body env) (LPost h₀ env.locals s I oI any (J (i + 1)) Q) E s₂) E { s with heap := h, toks := tk })
    (done : ∀ m₁ news₁ h tk, J n m₁ news₁ → Fr h₀ env.locals h m₁ → News h₀ env.locals h news₁ → Q .next { s with heap := h, toks := tk }) :
    wpAny (model prog w) A (pyIter (.ref r)) (fun it s₂ => TurnsAt prog w A h₀ env (.Name x px) body Q E it s₂) E s := by
  refine iter_rangeTurns hh F N hR hsm hn (fun I hI => ?_)
  have key : ∀ (k i : Nat) (m₁ : Str → Option Value) (news₁ : Led), i + k = n → J i m₁ news₁ → (∀ p ∈ news₁, p.1 ≠ I) →
      ItemsRest prog w A E h₀ env (.Name x px) body Q s [(I, "range_iterator")] [] (((List.range n).map fun i => Itm.tok (fun t => .int ((i : Nat) : Int) t)).drop i) m₁ news₁ := by
    intro k
    induction k with
    | zero =>
      intro i m₁ news₁ hi hJ off
      rw [List.drop_eq_nil_of_le (by simp; omega)]
      have : i = n := by omega
      subst this
      exact ItemsRest.zero fun h tk F' N' => done m₁ news₁ h tk hJ F' N'
    | succ k ih =>
      intro i m₁ news₁ hi hJ off
      have hlt : i < n := by omega
      rw [List.drop_eq_getElem_cons (by simp; exact hlt)]
      simp only [List.getElem_map, List.getElem_range]
      refine ItemsRest.tok fun t h tk F' => ?_
      intro oI _
      intro N'
      refine wpAny_mono (turn i t I oI m₁ news₁ h tk hlt hJ off F' N') (fun _ s₂ h₂ => wpAny_mono h₂ (fun f s₃ h₃ => ?_) fun _ _ e => e) fun _ _ e => e
      have fin : LEnd h₀ env.locals s I oI any (J (i + 1)) s₃ → UnrEndW h₀ env.locals { s with heap := h, toks := tk } [(I, oI)] (fun m' n' => SubL [] n' ∧ ItemsRest prog w A E h₀ env (.Name x px) body Q s [(I, "range_iterator")] [] (((List.range n).map fun i => Itm.tok (fun t => .int ((i : Nat) : Int) t)).drop (i + 1)) m' n') s₃ := by
        rintro ⟨h', tk', m', news', e, F₃, N₃, off₃, _, hJ₃⟩
        exact ⟨h', tk', m', news', e, F₃, N₃, fun p hp q hq => by rw [List.mem_singleton.mp hq]; exact off₃ p hp, trivial, ih (i + 1) m' news' (by omega) hJ₃ off₃⟩
      cases f with
      | ret v => exact h₃
      | brk => exact h₃
      | next => exact fin h₃
      | cont => exact fin h₃
  have := key n 0 m₀ news (by omega) h0 (fun p hp => Nat.ne_of_lt (hI p hp))
  rw [List.drop_zero] at this
  exact this
end
end Mine
namespace Mine
open LCg
section
variable {prog : Program} {w : World} {A : Around} {E : Value → Shared → Prop} {s : Shared} {h₀ : Heap} {L : Addr} {m : Str → Option Value} {env : Env}
noncomputable def CellSrc (prog : Program) (w : World) (A : Around) (h₀ : Heap) (L : Addr) (m : Str → Option Value) (env : Env) (elt : Expr) (x : Str) (scope : Scope) (cl : List (Str × Addr)) (Q : Value → Shared → Prop) (xv : Value) (s' : Shared) : Prop :=
  ∃ (r : Addr) (n : Nat) (news : Led) (J : Nat → List Value → Led → Prop) (b : Int) (t u v : Tok), xv = .ref r ∧ A.handled = none ∧ Fr h₀ L s'.heap m ∧ News h₀ L s'.heap news ∧ IsRange s'.heap r 0 b 1 t u v ∧ Builtin.Range.small 0 b 1 = true ∧ Builtin.Range.rangeSize 0 b 1 = ((n : Nat) : Int) ∧ n ≤ 100 ∧ J 0 [] news ∧
    (∀ g, CellTurn prog w A h₀ L m env elt x scope cl { s' with heap := g } n J) ∧ ∀ D ys news' h tk, J n ys news' → Fr h₀ L h m → News h₀ L h ((D, lst ys) :: news') → (∀ p ∈ news', p.1 ≠ D) → ys.length = n → Q (.ref D) { s' with heap := h, toks := tk }
theorem cellCompS {elt iter : Expr} {x : Str} {px : Pos} {scope : Scope} {cl : List (Str × Addr)} {pos : Pos} {Q : Value → Shared → Prop}
    (hclos : closureFor scope env = pure cl) (hkind : scope.kind = .function)
    (hnames : ∀ z ∈ scope.names, z.2 = .local → scope.names.lookup z.1 = some .local) (hx : ∀ C' K', (compEnvC scope ((x, K') :: cl) C' env).kindOf x = some .cell)
    (hp : ∀ h : Heap, pushCells h scope.names = h.push { cls := .type "cell", data := .cell none }) (hc : ∀ C : Nat, cellsFrom (C + 1) scope.names cl = (x, C + 1) :: cl)
    (hr : wpAny (model prog w) A (eval iter env) (CellSrc prog w A h₀ L m env elt x scope cl Q) E s)
    (hs : ∀ x, foldedSetIterable iter env x = pure x := by intro _; rfl) :
    wpAny (model prog w) A (eval (.ListComp elt [⟨.Name x px, iter, [], 0⟩] scope pos) env) Q E s := by
  rw [eval_ListComp]
  refine wpAny_comprehension_free (use := none) rfl hs hclos hkind hnames (wpAny_mono hr (fun xv s' h' => ?_) fun _ _ e => e)
  obtain ⟨r, n, news, J, b, t, u, v, rfl, hh, F, N, hR, hsm, hn, hsz, h0, turn, fin⟩ := h'
  refine wpAny_pyIter_range hR hsm ?_
  refine wpAny_newObj_type (newEnv_cell (x := x) hp hc ?_)
  dsimp only
  rw [hn]
  generalize hH1 : s'.heap.push { cls := .type "range_iterator", data := .fields #[rawInt 0, rawInt ((n : Nat) : Int), rawInt 1] } = H1
  generalize hH2 : H1.push { cls := .type "list", dict := none, data := .seq ([] : List Value).toArray } = H2
  have z1 : H1.objs.size = s'.heap.objs.size + 1 := by rw [← hH1, Heap.size_push]
  have z2 : H2.objs.size = s'.heap.objs.size + 2 := by rw [← hH2, Heap.size_push, z1]
  generalize hH3 : (H2.push { cls := .type "dict", data := .dict #[] }).push { cls := .type "cell", data := .cell none } = H3
  have up1 : ∀ c o, s'.heap.get? c = some o → H1.get? c = some o := fun c o e => hH1 ▸ Heap.get?_push_of_some _ e
  have up2 : ∀ c o, H1.get? c = some o → H2.get? c = some o := fun c o e => hH2 ▸ Heap.get?_push_of_some _ e
  have up3 : ∀ c o, H2.get? c = some o → H3.get? c = some o := fun c o e => hH3 ▸ Heap.get?_push_of_some _ (Heap.get?_push_of_some _ e)
  have up : ∀ c o, s'.heap.get? c = some o → H3.get? c = some o := fun c o e => up3 _ _ (up2 _ _ (up1 _ _ e))
  have hit : IsRangeIter H3 s'.heap.objs.size (0 + ((0 : Nat) : Int) * 1) ((n : Int) - ((0 : Nat) : Int)) 1 := by
    have e : H1.get? s'.heap.objs.size = some { cls := .type "range_iterator", data := .fields #[rawInt 0, rawInt ((n : Nat) : Int), rawInt 1] } := hH1 ▸ Heap.get?_push_size _ rfl
    show H3.get? _ = some _
    rw [up3 _ _ (up2 _ _ e)]
    simp
  have eD : H3.get? H1.objs.size = some (lst []) := up3 _ _ (hH2 ▸ Heap.get?_push_size _ rfl)
  have eC : H3.get? H2.objs.size = some { cls := .type "dict", data := .dict #[] } := hH3 ▸ Heap.get?_push_of_some _ (Heap.get?_push_size _ rfl)
  have eK : H3.get? (H2.objs.size + 1) = some { cls := .type "cell", data := .cell none } := by
    have : (H2.push { cls := .type "dict", data := .dict #[] }).objs.size = H2.objs.size + 1 := by rw [Heap.size_push]
    exact hH3 ▸ this ▸ Heap.get?_push_size _ rfl
  have lt : ∀ c o, s'.heap.get? c = some o → c < s'.heap.objs.size := fun c o x => Heap.lt_size x
  have hLI : L < s'.heap.objs.size := F.ns.lt
  have nil₀ : ∀ c, s'.heap.objs.size ≤ c → h₀.get? c = none := fun c hc => by
    cases x : h₀.get? c with
    | none => rfl
    | some o => exact absurd (lt c o (F.keep c o x)) (Nat.not_lt.mpr hc)
  have nsC : H3.Ns H2.objs.size (fun _ => none) := by
    have a := (Heap.Ns.new H2 (.type "dict")).keeps (h' := H3) (fun b o e => hH3 ▸ Heap.get?_push_of_some _ e)
    exact a
  have newsI : ∀ p ∈ news, p.1 < s'.heap.objs.size := fun p hp => lt _ _ (N p hp).1
  have F3 : Fr h₀ L H3 m := F.keeps up
  have N3 := N.grown up
  have hIlt : s'.heap.objs.size < H1.objs.size := by omega
  have hDlt : H1.objs.size < H2.objs.size := by omega
  clear hH1 hH2 hH3 z1 z2 up1 up2 up3 up
  generalize hI : s'.heap.objs.size = I at *
  generalize H1.objs.size = D at *
  generalize H2.objs.size = C at *
  have hCK : C < C + 1 := Nat.lt_succ_self _
  have hI₀ := nil₀ I (Nat.le_refl _)
  have hD₀ := nil₀ D (Nat.le_of_lt hIlt)
  have hC₀ := nil₀ C (Nat.le_of_lt (Nat.lt_trans hIlt hDlt))
  have hK₀ := nil₀ (C + 1) (Nat.le_of_lt (Nat.lt_trans (Nat.lt_trans hIlt hDlt) hCK))
  have ID : I ≠ D := Nat.ne_of_lt hIlt
  have IC : I ≠ C := Nat.ne_of_lt (Nat.lt_trans hIlt hDlt)
  have IK : I ≠ C + 1 := Nat.ne_of_lt (Nat.lt_trans (Nat.lt_trans hIlt hDlt) hCK)
  have DC : D ≠ C := Nat.ne_of_lt hDlt
  have DK : D ≠ C + 1 := Nat.ne_of_lt (Nat.lt_trans hDlt hCK)
  have CK : C ≠ C + 1 := Nat.ne_of_lt hCK
  have LI : L ≠ I := Nat.ne_of_lt hLI
  have LD : L ≠ D := Nat.ne_of_lt (Nat.lt_trans hLI hIlt)
  have LC : L ≠ C := Nat.ne_of_lt (Nat.lt_trans (Nat.lt_trans hLI hIlt) hDlt)
  have LK : L ≠ C + 1 := Nat.ne_of_lt (Nat.lt_trans (Nat.lt_trans (Nat.lt_trans hLI hIlt) hDlt) hCK)
  obtain ⟨oC₁, heC₁, hoC₁⟩ := ns_obj nsC
  have W := range_walks (prog := prog) (w := w) (A := A) (I := I) hh 0 n
  have loop : ∀ s₃ : Shared, s₃ = { s' with heap := H3 } →
      codeAny (model prog w) A (.compLoop (.ListComp elt [⟨.Name x px, iter, [], 0⟩] scope pos) 0 (.ref I) (.ref D) (compEnvC scope ((x, C + 1) :: cl) C env)) (compPost (model prog w) A E none Q (.ref D) C) s₃ := by
    rintro s₃ rfl
    refine kcp_loop (fun k s₄ => ∃ h' tk i ys oK v₀ news', s₄ = { s' with heap := h', toks := tk } ∧ i ≤ n ∧ k = n + 1 - i ∧ ys.length = i ∧ IsRangeIter h' I (0 + (i : Nat) * 1) ((n : Int) - (i : Nat)) 1 ∧ Fr h₀ L h' m ∧ oK.data = .cell v₀ ∧
      News h₀ L h' ((C, oC₁) :: (C + 1, oK) :: (D, lst ys) :: news') ∧ (∀ p ∈ news', p.1 ≠ I ∧ p.1 ≠ C ∧ p.1 ≠ C + 1 ∧ p.1 ≠ D) ∧ J i ys news') ?_ (n + 1)
      ⟨H3, s'.toks, 0, [], { cls := .type "cell", data := .cell none }, none, news, rfl, Nat.zero_le _, rfl, rfl, hit, F3, rfl, fun p hp => ?_, fun p hp => ⟨Nat.ne_of_lt (newsI p hp), Nat.ne_of_lt (Nat.lt_trans (newsI p hp) (Nat.lt_trans hIlt hDlt)), Nat.ne_of_lt (Nat.lt_trans (newsI p hp) (Nat.lt_trans (Nat.lt_trans hIlt hDlt) hCK)), Nat.ne_of_lt (Nat.lt_trans (newsI p hp) hIlt)⟩, h0⟩
    · rintro k s₄ ⟨h', tk, i, ys, oK, v₀, news', rfl, hi, rfl, hyl, hit', F', hdK, N', off', hJ⟩
      by_cases hlt : i < n
      · refine W.item i _ _ _ hlt hit' fun vx h₂ tk₂ hPv hst₂ hk₂ => ?_
        obtain ⟨t₂, rfl⟩ := hPv
        have F₂ : Fr h₀ L h₂ m := fr_but F' hk₂ LI hI₀
        have N₂ : News h₀ L h₂ ((C, oC₁) :: (C + 1, oK) :: (D, lst ys) :: news') := news_but N' hk₂ (fun p hp => by
          rcases List.mem_cons.mp hp with rfl | hp
          · exact Ne.symm IC
          · rcases List.mem_cons.mp hp with rfl | hp
            · exact Ne.symm IK
            · rcases List.mem_cons.mp hp with rfl | hp
              · exact Ne.symm ID
              · exact (off' p hp).1)
        show wpAny _ _ (pure ()) _ _ _
        refine wpAny_pure ?_
        refine wpAny_assign_Name (wpAny_storeName_cell hkind (hx C (C + 1)) (c := C + 1) (by simp [compEnvC]) ⟨oK, (N₂ _ (.tail _ (.head _))).1, hdK⟩ (fun h₃ hc₃ hs₃ => ?_))
        obtain ⟨oK₃, eK₃, dK₃⟩ := hc₃
        have hit₃ : h₃.get? I = h₂.get? I := by
          have e : h₂.get? I = some _ := hst₂
          rw [e]; exact hs₃.extBut _ _ IK e
        obtain ⟨oI, heI⟩ : ∃ oI, h₃.get? I = some oI := ⟨_, hit₃.trans hst₂⟩
        have F₃ : Fr h₀ L h₃ m := F₂.change hs₃ (Ne.symm LK) hK₀
        have N₃ : News h₀ L h₃ ((I, oI) :: (C, oC₁) :: (C + 1, oK₃) :: (D, lst ys) :: news') := fun p hp => by
          rcases List.mem_cons.mp hp with rfl | hp
          · exact ⟨heI, Ne.symm LI, hI₀⟩
          · rcases List.mem_cons.mp hp with rfl | hp
            · have z := N₂ _ (.head _); exact ⟨hs₃.extBut _ _ CK z.1, z.2⟩
            · rcases List.mem_cons.mp hp with rfl | hp
              · exact ⟨eK₃, Ne.symm LK, hK₀⟩
              · have z := N₂ p (.tail _ (.tail _ hp))
                refine ⟨hs₃.extBut _ _ ?_ z.1, z.2⟩
                rcases List.mem_cons.mp hp with rfl | hp
                · exact DK
                · exact (off' p hp).2.2.1
        have dK₃ : oK₃.data = .cell (some (.int (i : Int) t₂)) := by rw [dK₃]; simp
        refine wpAny_mono (turn s'.heap i t₂ I oI C oC₁ (C + 1) oK₃ D _ h₃ _ _ ys news' hlt hJ dK₃ rfl F₃ N₃ off') (fun y s₄ h₄ => ?_) fun _ _ e => e
        obtain ⟨h₄, tk₄, news₄, rfl, F₄, N₄, off₄, R₄⟩ := h₄
        have zI := (N₄ (I, oI) (.head _)).1
        have zC := (N₄ (C, oC₁) (.tail _ (.head _))).1
        have zK := (N₄ (C + 1, oK₃) (.tail _ (.tail _ (.head _)))).1
        have zD := (N₄ (D, lst ys) (.tail _ (.tail _ (.tail _ (.head _))))).1
        refine append_at (hsz := by show ys.toArray.size ≤ sizeLine; rw [List.size_toArray, sizeLine_eq]; omega) zD fun h₆ hs₆ hD₆ => ?_
        refine ⟨n + 1 - (i + 1), by omega, h₆, tk₄, i + 1, ys ++ [y], oK₃, _, news₄, rfl, hlt, rfl, by rw [List.length_append, List.length_singleton, hyl], ?_,
          F₄.change hs₆ (Ne.symm LD) hD₀, dK₃, fun q hq => ?_, off₄, R₄⟩
        · show h₆.get? I = some _
          rw [hs₆.extBut _ _ ID zI, ← heI, hit₃]; exact hst₂
        · rcases List.mem_cons.mp hq with rfl | hq
          · exact ⟨hs₆.extBut _ _ (Ne.symm DC) zC, Ne.symm LC, hC₀⟩
          · rcases List.mem_cons.mp hq with rfl | hq
            · exact ⟨hs₆.extBut _ _ (Ne.symm DK) zK, Ne.symm LK, hK₀⟩
            · rcases List.mem_cons.mp hq with rfl | hq
              · exact ⟨hD₆.trans (congrArg some (lst_snoc ys y)), Ne.symm LD, hD₀⟩
              · have z := N₄ q (.tail _ (.tail _ (.tail _ (.tail _ hq))))
                exact ⟨hs₆.extBut _ _ (off₄ q hq).2.2.2 z.1, z.2⟩
      · have hin : i = n := Nat.le_antisymm hi (Nat.not_lt.mp hlt)
        subst hin
        refine W.done _ _ _ hit' fun h₂ tk₂ hk₂ => ?_
        have N₂ : News h₀ L h₂ ((C, oC₁) :: (C + 1, oK) :: (D, lst ys) :: news') := news_but N' hk₂ (fun p hp => by
          rcases List.mem_cons.mp hp with rfl | hp
          · exact Ne.symm IC
          · rcases List.mem_cons.mp hp with rfl | hp
            · exact Ne.symm IK
            · rcases List.mem_cons.mp hp with rfl | hp
              · exact Ne.symm ID
              · exact (off' p hp).1)
        refine ⟨_, hoC₁.ns (N₂ _ (.head _)).1, fun h'' hs'' => fin D ys news' h'' _ hJ ((fr_but F' hk₂ LI hI₀).change hs'' (Ne.symm LC) hC₀) (fun p hp => ?_) (fun p hp => (off' p hp).2.2.2) hyl⟩
        have z := N₂ p (.tail _ (.tail _ hp))
        refine ⟨hs''.extBut _ _ ?_ z.1, z.2⟩
        rcases List.mem_cons.mp hp with rfl | hp
        · exact DC
        · exact (off' p hp).2.1
    · rcases List.mem_cons.mp hp with rfl | hp
      · exact ⟨heC₁, Ne.symm LC, hC₀⟩
      · rcases List.mem_cons.mp hp with rfl | hp
        · exact ⟨eK, Ne.symm LK, hK₀⟩
        · rcases List.mem_cons.mp hp with rfl | hp
          · exact ⟨eD, Ne.symm LD, hD₀⟩
          · exact N3 p hp
  exact codeAny_compStart_list (loop _ rfl) (W.self 0 _ _ _ hit (loop _ rfl))
end
end Mine
namespace Mine
set_option maxRecDepth 100000 in
set_option maxHeartbeats 8000000 in
open_top top for PySem.Challenge.rw_pe0007_01
end Mine
namespace Mine
theorem offD01 : True := by
  w_top off
  trivial
noncomputable def JI (p : Nat → Bool) (ns : List Int) (l : Addr) (x : Int) (tx : Tok) (news : Led) (k : Nat) (m₁ : Str → Option Value) (n₁ : Led) : Prop :=
  ∃ (lo' hi' : Nat) (t1 t2 : Tok), k = hi' - lo' ∧ hi' ≤ ns.length ∧ bisect p 0 ns.length = bisect p lo' hi' ∧
    m₁ (Str.ofString "a") = some (.ref l) ∧ m₁ (Str.ofString "x") = some (.int x tx) ∧ m₁ (Str.ofString "lo") = some (.int (lo' : Int) t1) ∧ m₁ (Str.ofString "hi") = some (.int (hi' : Int) t2) ∧ n₁ = news
noncomputable def JK (p : Nat → Bool) (vs : List Value) (l q : Addr) (x : Int) (tx : Tok) (G : List Value → Led) (tr : List Value) (lo hi : Nat) (k : Nat) (m₁ : Str → Option Value) (n₁ : Led) : Prop :=
  ∃ (lo' hi' : Nat) (t1 t2 : Tok) (tr' : List Value), k = hi' - lo' ∧ hi' ≤ vs.length ∧ bisect p lo hi = bisect p lo' hi' ∧ tr ++ btrace p vs lo hi = tr' ++ btrace p vs lo' hi' ∧
    m₁ (Str.ofString "a") = some (.ref l) ∧ m₁ (Str.ofString "x") = some (.int x tx) ∧ m₁ (Str.ofString "lo") = some (.int (lo' : Int) t1) ∧ m₁ (Str.ofString "hi") = some (.int (hi' : Int) t2) ∧ m₁ (Str.ofString "key") = some (.ref q) ∧ n₁ = G tr'
/-- a key that is asked a bounded number of times -/
structure KeyB (prog : Program) (w : World) (K : Frag) (q : Addr) (dm um bd : Nat) (G : List Value → Led) (vs : List Value) (kx : Nat → Value → Prop) : Prop where
  fn : ∀ (tr : List Value) (h₀ h : Heap) (L : Addr), K.In h → News h₀ L h (G tr) → FnAt q h
  run : ∀ (i : Nat) (v : Value) (tr : List Value) (dp un : Nat) (gd : Option (List Code)) (cn : Str) (cs : Scope) (L a : Addr) (ccd : Value) (cl : List (Str × Addr)) (outer : List Env) (A₀ : Around) (base h₀ : Heap)
    (m : Str → Option Value) (s : Shared) (Q E : Value → Shared → Prop) (p : Program) (loose : List Str) (mean : ExcName → Option Value) (mg mb : Str → Option Value),
    vs[i]? = some v → tr.length ≤ bd → Below A₀ base outer h₀ → Fr h₀ L s.heap m → K.In h₀ → News h₀ L s.heap (G tr) → Top p loose mean mg mb h₀ → cs.kind = .function → dp ≤ dm → un ≤ um →
    (∀ r h' tk', kx i r → Fr h₀ L h' m → News h₀ L h' (G (tr ++ [v])) → Q r { s with heap := h', toks := tk' }) →
    wpAny (model prog w) (ktrTop dp un gd cn cs L a ccd cl outer) (call (.ref q) [v]) Q E s
theorem KeyB.use {prog : Program} {w : World} {K : Frag} {q : Addr} {dm um bd : Nat} {G : List Value → Led} {vs : List Value} {kx : Nat → Value → Prop} (KC : KeyB prog w K q dm um bd G vs kx)
    {i : Nat} {v : Value} {tr : List Value} {dp un : Nat} {gd : Option (List Code)} {cn : Str} {cs : Scope} {L a : Addr} {ccd : Value} {cl : List (Str × Addr)} {outer : List Env} {A₀ : Around} {base h₀ : Heap}
    {m : Str → Option Value} {s : Shared} {Q E : Value → Shared → Prop} {p : Program} {loose : List Str} {mean : ExcName → Option Value} {mg mb : Str → Option Value}
    (hv : vs[i]? = some v) (hbd : tr.length ≤ bd) (B : Below A₀ base outer h₀) (F : Fr h₀ L s.heap m) (X : K.In h₀) (N : News h₀ L s.heap (G tr)) (T : Top p loose mean mg mb h₀) (hk : cs.kind = .function) (hd : dp ≤ dm) (hu : un ≤ um)
    (ret : ∀ r h' tk', kx i r → Fr h₀ L h' m → News h₀ L h' (G (tr ++ [v])) → Q r { s with heap := h', toks := tk' }) :
    wpAny (model prog w) (ktrTop dp un gd cn cs L a ccd cl outer) (call (.ref q) [v]) Q E s :=
  KC.run i v tr dp un gd cn cs L a ccd cl outer A₀ base h₀ m s Q E p loose mean mg mb hv hbd B F X N T hk hd hu ret
theorem KeyOK.toB {prog : Program} {w : World} {K : Frag} {q : Addr} {dm um bd : Nat} {G : List Value → Led} {vs : List Value} {kx : Nat → Value → Prop} (KC : KeyOK prog w K q dm um G vs kx) : KeyB prog w K q dm um bd G vs kx where
  fn := KC.fn
  run := fun i v tr dp un gd cn cs L a ccd cl outer A₀ base h₀ m s Q E p loose mean mg mb hv _ => KC.run i v tr dp un gd cn cs L a ccd cl outer A₀ base h₀ m s Q E p loose mean mg mb hv
theorem btrace_len (p : Nat → Bool) (vs : List Value) (lo hi : Nat) : (btrace p vs lo hi).length ≤ hi - lo := by
  have key : ∀ (f lo hi : Nat), hi - lo ≤ f → (btr p vs f lo hi).length ≤ hi - lo := by
    intro f
    induction f with
    | zero => intro lo hi h; simp [btr]
    | succ f ih =>
      intro lo hi h
      simp only [btr]
      by_cases hlt : lo < hi
      · rw [if_pos hlt, List.length_cons]
        split
        · have := ih ((lo + hi) / 2 + 1) hi (by omega); omega
        · have := ih lo ((lo + hi) / 2) (by omega); omega
      · rw [if_neg hlt]; simp
  exact key _ lo hi (Nat.le_refl _)
theorem bisect_le (p : Nat → Bool) : ∀ (lo hi : Nat), lo ≤ hi → bisect p lo hi ≤ hi := by
  have : ∀ (f lo hi : Nat), lo ≤ hi → bis p f lo hi ≤ hi := by
    intro f
    induction f with
    | zero => intro lo hi h; exact h
    | succ f ih =>
      intro lo hi h
      simp only [bis]
      split
      · split
        · exact ih _ _ (by omega)
        · exact Nat.le_trans (ih _ _ (by omega)) (by omega)
      · exact h
  exact fun lo hi h => this _ lo hi h
section
variable {w : World} {s : Shared}
set_option maxRecDepth 100000
theorem bd2_50 (X : (top.heap_39 w.params).In s.heap) (a x : Value) : BindsTo s (fdAt (top.heap_39 w.params) 50) ⟨[a, x], []⟩ [(Str.ofString "a", a), (Str.ofString "x", x), (Str.ofString "lo", .int 0 229), (Str.ofString "hi", .none), (Str.ofString "key", .none)] := kp_binds X (fun _ => by kernel_rfl)
theorem bd4_50 (X : (top.heap_39 w.params).In s.heap) (a x lo hi : Value) : BindsTo s (fdAt (top.heap_39 w.params) 50) ⟨[a, x, lo, hi], []⟩ [(Str.ofString "a", a), (Str.ofString "x", x), (Str.ofString "lo", lo), (Str.ofString "hi", hi), (Str.ofString "key", .none)] := kp_binds X (fun _ => by kernel_rfl)
theorem bd2k_50 (X : (top.heap_39 w.params).In s.heap) (a x k : Value) : BindsTo s (fdAt (top.heap_39 w.params) 50) ⟨[a, x], [(Str.ofString "key", k)]⟩ [(Str.ofString "a", a), (Str.ofString "x", x), (Str.ofString "lo", .int 0 229), (Str.ofString "hi", .none), (Str.ofString "key", k)] := kp_binds X (fun _ => by kernel_rfl)
theorem bd4k_50 (X : (top.heap_39 w.params).In s.heap) (a x lo hi k : Value) : BindsTo s (fdAt (top.heap_39 w.params) 50) ⟨[a, x, lo, hi], [(Str.ofString "key", k)]⟩ [(Str.ofString "a", a), (Str.ofString "x", x), (Str.ofString "lo", lo), (Str.ofString "hi", hi), (Str.ofString "key", k)] := kp_binds X (fun _ => by kernel_rfl)
theorem bd2_32 (X : (top.heap_39 w.params).In s.heap) (a x : Value) : BindsTo s (fdAt (top.heap_39 w.params) 32) ⟨[a, x], []⟩ [(Str.ofString "a", a), (Str.ofString "x", x), (Str.ofString "lo", .int 0 202), (Str.ofString "hi", .none), (Str.ofString "key", .none)] := kp_binds X (fun _ => by kernel_rfl)
theorem bd4_32 (X : (top.heap_39 w.params).In s.heap) (a x lo hi : Value) : BindsTo s (fdAt (top.heap_39 w.params) 32) ⟨[a, x, lo, hi], []⟩ [(Str.ofString "a", a), (Str.ofString "x", x), (Str.ofString "lo", lo), (Str.ofString "hi", hi), (Str.ofString "key", .none)] := kp_binds X (fun _ => by kernel_rfl)
theorem bd2k_32 (X : (top.heap_39 w.params).In s.heap) (a x k : Value) : BindsTo s (fdAt (top.heap_39 w.params) 32) ⟨[a, x], [(Str.ofString "key", k)]⟩ [(Str.ofString "a", a), (Str.ofString "x", x), (Str.ofString "lo", .int 0 202), (Str.ofString "hi", .none), (Str.ofString "key", k)] := kp_binds X (fun _ => by kernel_rfl)
theorem bd4k_32 (X : (top.heap_39 w.params).In s.heap) (a x lo hi k : Value) : BindsTo s (fdAt (top.heap_39 w.params) 32) ⟨[a, x, lo, hi], [(Str.ofString "key", k)]⟩ [(Str.ofString "a", a), (Str.ofString "x", x), (Str.ofString "lo", lo), (Str.ofString "hi", hi), (Str.ofString "key", k)] := kp_binds X (fun _ => by kernel_rfl)
theorem bd2_41 (X : (top.heap_39 w.params).In s.heap) (a x : Value) : BindsTo s (fdAt (top.heap_39 w.params) 41) ⟨[a, x], []⟩ [(Str.ofString "a", a), (Str.ofString "x", x), (Str.ofString "lo", .int 0 216), (Str.ofString "hi", .none), (Str.ofString "key", .none)] := kp_binds X (fun _ => by kernel_rfl)
theorem bd2k_41 (X : (top.heap_39 w.params).In s.heap) (a x k : Value) : BindsTo s (fdAt (top.heap_39 w.params) 41) ⟨[a, x], [(Str.ofString "key", k)]⟩ [(Str.ofString "a", a), (Str.ofString "x", x), (Str.ofString "lo", .int 0 216), (Str.ofString "hi", .none), (Str.ofString "key", k)] := kp_binds X (fun _ => by kernel_rfl)
theorem bd2_23 (X : (top.heap_39 w.params).In s.heap) (a x : Value) : BindsTo s (fdAt (top.heap_39 w.params) 23) ⟨[a, x], []⟩ [(Str.ofString "a", a), (Str.ofString "x", x), (Str.ofString "lo", .int 0 189), (Str.ofString "hi", .none), (Str.ofString "key", .none)] := kp_binds X (fun _ => by kernel_rfl)
theorem bd2k_23 (X : (top.heap_39 w.params).In s.heap) (a x k : Value) : BindsTo s (fdAt (top.heap_39 w.params) 23) ⟨[a, x], [(Str.ofString "key", k)]⟩ [(Str.ofString "a", a), (Str.ofString "x", x), (Str.ofString "lo", .int 0 189), (Str.ofString "hi", .none), (Str.ofString "key", k)] := kp_binds X (fun _ => by kernel_rfl)
end
local macro_rules | `(tactic| tb_start) => `(tactic| repeat (first | assumption | exact rfl | exact upd_eq | refine upd_ne (by decide) ?_))
local macro_rules | `(tactic| walk_at "eval Name") => `(tactic| (k_dflt (refine' nameX_L ?k1 ?k2 ?_ ?k4 ?k5; (case k4 => exact rfl); (case k5 => exact rfl); (case k1 => k_asm); (case k2 => tb_start))))
local macro_rules | `(tactic| walk_at "execs cons") => `(tactic| ((with_reducible show wpAny _ _ (execs (Stmt.While _ _ _ _ :: _) _) _ _ _); refine execs_stop ?_))
local macro_rules | `(tactic| walk_at "execs cons") => `(tactic| ((with_reducible show wpAny _ _ (execs (Stmt.For _ _ _ _ _ :: _) _) _ _ _); refine execs_stop ?_))
local macro_rules | `(tactic| walk_at "call ref") => `(tactic| ((with_reducible show wpAny _ _ (call (Value.ref _) _ _) _ _ _); refine Stop.at ?_))
local macro_rules | `(tactic| walk_at "call builtin:list.insert") => `(tactic| (refine Stop.at ?_))
local macro_rules | `(tactic| walk_at "call builtin:len") => `(tactic| ((with_reducible show wpAny _ _ (call (Value.builtin _) [Value.ref _]) _ _ _); refine lenL (by k_asm) (by assumption) (by omega) ?_))
local macro_rules | `(tactic| walk_at "callWith ref") => `(tactic| (first | refine callWith_F (KeyB.fn (by assumption) _ _ _ _ (Frag.In.keeps (by assumption) (Fr.keep (by k_asm))) (by k_asm)) ?_ | refine callWith_F (KeyB.fn (by assumption) [] _ _ _ (Frag.In.keeps (by assumption) (Fr.keep (by k_asm))) (by k_asm)) ?_ | refine callWith_F (KeyOK.fn (by assumption) _ _ _ _ (Frag.In.keeps (by assumption) (Fr.keep (by k_asm))) (by k_asm)) ?_ | refine callWith_F (KeyOK.fn (by assumption) [] _ _ _ (Frag.In.keeps (by assumption) (Fr.keep (by k_asm))) (by k_asm)) ?_))
local macro_rules | `(tactic| walk_at "And") => `(tactic| (first | refine ⟨KeyB.fn (by assumption) _ _ _ _ (Frag.In.keeps (by assumption) (Fr.keep (by k_asm))) (by k_asm), ?_⟩ | refine ⟨KeyB.fn (by assumption) [] _ _ _ (Frag.In.keeps (by assumption) (Fr.keep (by k_asm))) (by k_asm), ?_⟩ | refine ⟨KeyOK.fn (by assumption) _ _ _ _ (Frag.In.keeps (by assumption) (Fr.keep (by k_asm))) (by k_asm), ?_⟩ | refine ⟨KeyOK.fn (by assumption) [] _ _ _ (Frag.In.keeps (by assumption) (Fr.keep (by k_asm))) (by k_asm), ?_⟩))
local macro_rules | `(tactic| k_mem) => `(tactic| assumption)
local macro_rules | `(tactic| ktr_unf) => `(tactic| repeat' (first | (k_unfold; (try dsimp only)) | walk1 | (dsimp only; walk1)))
section
variable {w : World} {dp un : Nat} {gd : Option (List Code)} {cn : Str} {cs : Scope} {L a : Addr} {ccd : Value} {cl : List (Str × Addr)} {outer : List Env} {A₀ : Around} {base h₀ : Heap}
  {m : Str → Option Value} {news : Led} {s : Shared} {Q E : Value → Shared → Prop} {p : Program} {loose : List Str} {mean : ExcName → Option Value} {mg mb : Str → Option Value}
set_option maxRecDepth 100000 in
set_option maxHeartbeats 8000000 in
theorem bl_ints {l : Addr} {vs : List Value} {n : Nat} {ns : List Int} {x : Int} {tx tl : Tok} {pos : List Value} {kw : List (Str × Value)}
    (B : Below A₀ base outer h₀) (F : Fr h₀ L s.heap m) (X : (top.heap_39 w.params).In h₀) (N : News h₀ L s.heap news) (T : Top p loose mean mg mb h₀) (hk : cs.kind = .function)
    (hl : (l, PySem.W.listOf vs.toArray n) ∈ news) (hI : IntsAre vs ns) (hlen : ns.length ≤ 1000) (hdp : dp + 1 ≤ 400)
    (hb : BindsTo s (fdAt (top.heap_39 w.params) 50) ⟨pos, kw⟩ [(Str.ofString "a", .ref l), (Str.ofString "x", .int x tx), (Str.ofString "lo", .int 0 tl), (Str.ofString "hi", .none), (Str.ofString "key", .none)])
    (ret : ∀ t h' tk', Fr h₀ L h' m → News h₀ L h' news → Q (.int (bisect (fun i => decide (ns.getD i 0 < x)) 0 ns.length : Nat) t) { s with heap := h', toks := tk' }) :
    wpAny (model PySem.Challenge.rw_pe0007_01.row.prog w) (ktrTop dp un gd cn cs L a ccd cl outer) (call (.ref 50) pos kw) Q E s := by
  (have X' := X; revert X'; k_fill; intro _)
  k_dflt (refine' enter (binds := [(Str.ofString "a", .ref l), (Str.ofString "x", .int x tx), (Str.ofString "lo", .int 0 tl), (Str.ofString "hi", .none), (Str.ofString "key", .none)]) B F X N T hk ?ho ?hcd hdp ?hb ?hl ?hc ?co ?ge ?hk ?_; (case ho => k_is); (case hcd => k_is); (case hb => exact hb); (case hl => exact locs rfl); (case hc => decide); (case co => rfl); (case ge => rfl); (case hk => rfl))
  clear hb B F X N T hk
  intro g L' h₁ F' N' B' X' T' lt'
  k_fold
  have hln := hI.length
  ktr_unf
  refine Stop.go ?_
  refine While_inv (JI (fun i => decide (ns.getD i 0 < x)) ns l x tx news) (by k_asm) (by k_asm) ⟨0, vs.length, tl, _, rfl, by omega, by rw [hln], rfl, rfl, rfl, rfl, rfl⟩ ?_ PassesOwn.never
  rintro k m₁ n₁ h₂ tk₂ F₂ N₂ ⟨lo', hi', t1, t2, rfl, hle, heq, e1, e2, e3, e4, hn⟩
  subst hn
  ktr_unf
  all_goals (try simp only [mid_eq, Int.toNat_natCast] at *)
  · exact WhileStep.intro (by k_asm) (by k_asm) (by omega) ⟨(lo' + hi') / 2 + 1, hi', _, t2, rfl, hle, heq.trans (bisect_up (by omega) (decide_eq_true (by assumption))), by tb_start, by tb_start, by tb_start, by tb_start, rfl⟩
  · exact WhileStep.intro (by k_asm) (by k_asm) (by omega) ⟨lo', (lo' + hi') / 2, t1, _, rfl, by omega, heq.trans (bisect_down (by omega) (decide_eq_false (by omega))), by tb_start, by tb_start, by tb_start, by tb_start, rfl⟩
  · rw [bisect_ge (lo := lo') (by omega)] at heq
    exact Back.mk F₂ N₂ (heq ▸ ret _ _ _)
set_option maxRecDepth 100000 in
set_option maxHeartbeats 8000000 in
theorem br_ints {l : Addr} {vs : List Value} {n : Nat} {ns : List Int} {x : Int} {tx tl : Tok} {pos : List Value} {kw : List (Str × Value)}
    (B : Below A₀ base outer h₀) (F : Fr h₀ L s.heap m) (X : (top.heap_39 w.params).In h₀) (N : News h₀ L s.heap news) (T : Top p loose mean mg mb h₀) (hk : cs.kind = .function)
    (hl : (l, PySem.W.listOf vs.toArray n) ∈ news) (hI : IntsAre vs ns) (hlen : ns.length ≤ 1000) (hdp : dp + 1 ≤ 400)
    (hb : BindsTo s (fdAt (top.heap_39 w.params) 32) ⟨pos, kw⟩ [(Str.ofString "a", .ref l), (Str.ofString "x", .int x tx), (Str.ofString "lo", .int 0 tl), (Str.ofString "hi", .none), (Str.ofString "key", .none)])
    (ret : ∀ t h' tk', Fr h₀ L h' m → News h₀ L h' news → Q (.int (bisect (fun i => !decide (x < ns.getD i 0)) 0 ns.length : Nat) t) { s with heap := h', toks := tk' }) :
    wpAny (model PySem.Challenge.rw_pe0007_01.row.prog w) (ktrTop dp un gd cn cs L a ccd cl outer) (call (.ref 32) pos kw) Q E s := by
  (have X' := X; revert X'; k_fill; intro _)
  k_dflt (refine' enter (binds := [(Str.ofString "a", .ref l), (Str.ofString "x", .int x tx), (Str.ofString "lo", .int 0 tl), (Str.ofString "hi", .none), (Str.ofString "key", .none)]) B F X N T hk ?ho ?hcd hdp ?hb ?hl ?hc ?co ?ge ?hk ?_; (case ho => k_is); (case hcd => k_is); (case hb => exact hb); (case hl => exact locs rfl); (case hc => decide); (case co => rfl); (case ge => rfl); (case hk => rfl))
  clear hb B F X N T hk
  intro g L' h₁ F' N' B' X' T' lt'
  k_fold
  have hln := hI.length
  ktr_unf
  refine Stop.go ?_
  refine While_inv (JI (fun i => !decide (x < ns.getD i 0)) ns l x tx news) (by k_asm) (by k_asm) ⟨0, vs.length, tl, _, rfl, by omega, by rw [hln], rfl, rfl, rfl, rfl, rfl⟩ ?_ PassesOwn.never
  rintro k m₁ n₁ h₂ tk₂ F₂ N₂ ⟨lo', hi', t1, t2, rfl, hle, heq, e1, e2, e3, e4, hn⟩
  subst hn
  ktr_unf
  all_goals (try simp only [mid_eq, Int.toNat_natCast] at *)
  · exact WhileStep.intro (by k_asm) (by k_asm) (by omega) ⟨lo', (lo' + hi') / 2, t1, _, rfl, by omega, heq.trans (bisect_down (by omega) (by rw [decide_eq_true (by assumption)]; rfl)), by tb_start, by tb_start, by tb_start, by tb_start, rfl⟩
  · exact WhileStep.intro (by k_asm) (by k_asm) (by omega) ⟨(lo' + hi') / 2 + 1, hi', _, t2, rfl, hle, heq.trans (bisect_up (by omega) (by rw [decide_eq_false (by omega)]; rfl)), by tb_start, by tb_start, by tb_start, by tb_start, rfl⟩
  · rw [bisect_ge (lo := lo') (by omega)] at heq
    exact Back.mk F₂ N₂ (heq ▸ ret _ _ _)
set_option maxRecDepth 100000 in
set_option maxHeartbeats 8000000 in
theorem bl_key {l q : Addr} {vs : List Value} {n : Nat} {ks : List Int} {x : Int} {tx tl : Tok} {lo hi : Nat} {hv : Value} {bd : Nat} {tr : List Value} {G : List Value → Led} {pos : List Value} {kw : List (Str × Value)}
    (B : Below A₀ base outer h₀) (F : Fr h₀ L s.heap m) (X : (top.heap_39 w.params).In h₀) (N : News h₀ L s.heap (G tr)) (T : Top p loose mean mg mb h₀) (hk : cs.kind = .function)
    (KC : KeyB PySem.Challenge.rw_pe0007_01.row.prog w (top.heap_39 w.params) q (dp + 1) (un + 3) bd G vs (fun i r => ∃ t, r = .int (ks.getD i 0) t))
    (hl : ∀ tr, (l, PySem.W.listOf vs.toArray n) ∈ G tr) (hlen : vs.length ≤ 1000) (hhi : hi ≤ vs.length) (hbd : tr.length + (hi - lo) ≤ bd) (hv' : (hv = .none ∧ hi = vs.length) ∨ ∃ t, hv = .int (hi : Int) t) (hdp : dp + 1 ≤ 400)
    (hb : BindsTo s (fdAt (top.heap_39 w.params) 50) ⟨pos, kw⟩ [(Str.ofString "a", .ref l), (Str.ofString "x", .int x tx), (Str.ofString "lo", .int (lo : Int) tl), (Str.ofString "hi", hv), (Str.ofString "key", .ref q)])
    (ret : ∀ t h' tk', Fr h₀ L h' m → News h₀ L h' (G (tr ++ btrace (fun i => decide (ks.getD i 0 < x)) vs lo hi)) → Q (.int (bisect (fun i => decide (ks.getD i 0 < x)) lo hi : Nat) t) { s with heap := h', toks := tk' }) :
    wpAny (model PySem.Challenge.rw_pe0007_01.row.prog w) (ktrTop dp un gd cn cs L a ccd cl outer) (call (.ref 50) pos kw) Q E s := by
  (have X' := X; revert X'; k_fill; intro _)
  k_dflt (refine' enter (binds := [(Str.ofString "a", .ref l), (Str.ofString "x", .int x tx), (Str.ofString "lo", .int (lo : Int) tl), (Str.ofString "hi", hv), (Str.ofString "key", .ref q)]) B F X N T hk ?ho ?hcd hdp ?hb ?hl ?hc ?co ?ge ?hk ?_; (case ho => k_is); (case hcd => k_is); (case hb => exact hb); (case hl => exact locs rfl); (case hc => decide); (case co => rfl); (case ge => rfl); (case hk => rfl))
  clear hb B F X N T hk
  intro g L' h₁ F' N' B' X' T' lt'
  k_fold
  have hlo0 : (0 : Int) ≤ (lo : Int) := Int.natCast_nonneg _
  have hl' := hl tr
  rcases hv' with ⟨rfl, rfl⟩ | ⟨th, rfl⟩
  all_goals
    ktr_unf
    refine Stop.go ?_
    refine While_inv (JK (fun i => decide (ks.getD i 0 < x)) vs l q x tx G tr lo _) (by k_asm) (by k_asm) ⟨lo, _, tl, _, tr, rfl, hhi, rfl, rfl, rfl, rfl, rfl, rfl, rfl, rfl⟩ ?_ PassesOwn.never
    rintro k m₁ n₁ h₂ tk₂ F₂ N₂ ⟨lo', hi', t1, t2, tr', rfl, hle, heq, htr, e1, e2, e3, e4, e5, rfl⟩
    have hl2 := hl tr'
    have hbt : tr'.length ≤ bd := by
      have h1 := congrArg List.length htr
      rw [List.length_append, List.length_append] at h1
      have h2 := Nat.le_trans (Nat.add_le_add_left (btrace_len (fun i => decide (ks.getD i 0 < x)) vs lo _) tr.length) hbd
      exact Nat.le_trans (Nat.le_trans (Nat.le_add_right _ _) (Nat.le_of_eq h1.symm)) h2
    ktr_unf
    · have hv := getD_some (vs := vs) (i := (lo' + hi') / 2) (by omega)
      refine itemL (by k_asm) hl2 (by rw [mid_eq]; omega) (by rw [mid_eq]; omega) (by rw [mid_eq]; exact hv) ?_
      ktr_unf
      refine Stop.go ?_
      k_dflt (refine KeyB.use KC hv hbt B' (by k_asm) X' (by k_asm) T' rfl (Nat.le_refl _) (Nat.le_refl _) ?_)
      rintro r h₄ tk₄ ⟨t, rfl⟩ F₄ N₄
      ktr_unf
      all_goals (try simp only [mid_eq, Int.toNat_natCast] at *)
      · exact WhileStep.intro (by k_asm) (by k_asm) (by omega) ⟨(lo' + hi') / 2 + 1, hi', _, t2, tr' ++ [vs.getD ((lo' + hi') / 2) .none], rfl, hle, heq.trans (bisect_up (by omega) (decide_eq_true (by assumption))),
          htr.trans (by rw [btrace_up (by omega) (decide_eq_true (by assumption)), List.append_assoc]; rfl), by tb_start, by tb_start, by tb_start, by tb_start, by tb_start, rfl⟩
      · exact WhileStep.intro (by k_asm) (by k_asm) (by omega) ⟨lo', (lo' + hi') / 2, t1, _, tr' ++ [vs.getD ((lo' + hi') / 2) .none], rfl, by omega, heq.trans (bisect_down (by omega) (decide_eq_false (by omega))),
          htr.trans (by rw [btrace_down (by omega) (decide_eq_false (by omega)), List.append_assoc]; rfl), by tb_start, by tb_start, by tb_start, by tb_start, by tb_start, rfl⟩
    · rw [bisect_ge (lo := lo') (by omega)] at heq
      rw [btrace_ge (lo := lo') (by omega), List.append_nil] at htr
      exact Back.mk F₂ N₂ (by rw [← heq, ← htr]; exact ret _ _ _)
set_option maxRecDepth 100000 in
set_option maxHeartbeats 8000000 in
theorem br_key {l q : Addr} {vs : List Value} {n : Nat} {ks : List Int} {x : Int} {tx tl : Tok} {lo hi : Nat} {hv : Value} {bd : Nat} {tr : List Value} {G : List Value → Led} {pos : List Value} {kw : List (Str × Value)}
    (B : Below A₀ base outer h₀) (F : Fr h₀ L s.heap m) (X : (top.heap_39 w.params).In h₀) (N : News h₀ L s.heap (G tr)) (T : Top p loose mean mg mb h₀) (hk : cs.kind = .function)
    (KC : KeyB PySem.Challenge.rw_pe0007_01.row.prog w (top.heap_39 w.params) q (dp + 1) (un + 3) bd G vs (fun i r => ∃ t, r = .int (ks.getD i 0) t))
    (hl : ∀ tr, (l, PySem.W.listOf vs.toArray n) ∈ G tr) (hlen : vs.length ≤ 1000) (hhi : hi ≤ vs.length) (hbd : tr.length + (hi - lo) ≤ bd) (hv' : (hv = .none ∧ hi = vs.length) ∨ ∃ t, hv = .int (hi : Int) t) (hdp : dp + 1 ≤ 400)
    (hb : BindsTo s (fdAt (top.heap_39 w.params) 32) ⟨pos, kw⟩ [(Str.ofString "a", .ref l), (Str.ofString "x", .int x tx), (Str.ofString "lo", .int (lo : Int) tl), (Str.ofString "hi", hv), (Str.ofString "key", .ref q)])
    (ret : ∀ t h' tk', Fr h₀ L h' m → News h₀ L h' (G (tr ++ btrace (fun i => !decide (x < ks.getD i 0)) vs lo hi)) → Q (.int (bisect (fun i => !decide (x < ks.getD i 0)) lo hi : Nat) t) { s with heap := h', toks := tk' }) :
    wpAny (model PySem.Challenge.rw_pe0007_01.row.prog w) (ktrTop dp un gd cn cs L a ccd cl outer) (call (.ref 32) pos kw) Q E s := by
  (have X' := X; revert X'; k_fill; intro _)
  k_dflt (refine' enter (binds := [(Str.ofString "a", .ref l), (Str.ofString "x", .int x tx), (Str.ofString "lo", .int (lo : Int) tl), (Str.ofString "hi", hv), (Str.ofString "key", .ref q)]) B F X N T hk ?ho ?hcd hdp ?hb ?hl ?hc ?co ?ge ?hk ?_; (case ho => k_is); (case hcd => k_is); (case hb => exact hb); (case hl => exact locs rfl); (case hc => decide); (case co => rfl); (case ge => rfl); (case hk => rfl))
  clear hb B F X N T hk
  intro g L' h₁ F' N' B' X' T' lt'
  k_fold
  have hlo0 : (0 : Int) ≤ (lo : Int) := Int.natCast_nonneg _
  have hl' := hl tr
  rcases hv' with ⟨rfl, rfl⟩ | ⟨th, rfl⟩
  all_goals
    ktr_unf
    refine Stop.go ?_
    refine While_inv (JK (fun i => !decide (x < ks.getD i 0)) vs l q x tx G tr lo _) (by k_asm) (by k_asm) ⟨lo, _, tl, _, tr, rfl, hhi, rfl, rfl, rfl, rfl, rfl, rfl, rfl, rfl⟩ ?_ PassesOwn.never
    rintro k m₁ n₁ h₂ tk₂ F₂ N₂ ⟨lo', hi', t1, t2, tr', rfl, hle, heq, htr, e1, e2, e3, e4, e5, rfl⟩
    have hl2 := hl tr'
    have hbt : tr'.length ≤ bd := by
      have h1 := congrArg List.length htr
      rw [List.length_append, List.length_append] at h1
      have h2 := Nat.le_trans (Nat.add_le_add_left (btrace_len (fun i => !decide (x < ks.getD i 0)) vs lo _) tr.length) hbd
      exact Nat.le_trans (Nat.le_trans (Nat.le_add_right _ _) (Nat.le_of_eq h1.symm)) h2
    ktr_unf
    · have hv := getD_some (vs := vs) (i := (lo' + hi') / 2) (by omega)
      refine itemL (by k_asm) hl2 (by rw [mid_eq]; omega) (by rw [mid_eq]; omega) (by rw [mid_eq]; exact hv) ?_
      ktr_unf
      refine Stop.go ?_
      k_dflt (refine KeyB.use KC hv hbt B' (by k_asm) X' (by k_asm) T' rfl (Nat.le_refl _) (Nat.le_refl _) ?_)
      rintro r h₄ tk₄ ⟨t, rfl⟩ F₄ N₄
      ktr_unf
      all_goals (try simp only [mid_eq, Int.toNat_natCast] at *)
      · exact WhileStep.intro (by k_asm) (by k_asm) (by omega) ⟨lo', (lo' + hi') / 2, t1, _, tr' ++ [vs.getD ((lo' + hi') / 2) .none], rfl, by omega, heq.trans (bisect_down (by omega) (by rw [decide_eq_true (by assumption)]; rfl)),
          htr.trans (by rw [btrace_down (by omega) (by rw [decide_eq_true (by assumption)]; rfl), List.append_assoc]; rfl), by tb_start, by tb_start, by tb_start, by tb_start, by tb_start, rfl⟩
      · exact WhileStep.intro (by k_asm) (by k_asm) (by omega) ⟨(lo' + hi') / 2 + 1, hi', _, t2, tr' ++ [vs.getD ((lo' + hi') / 2) .none], rfl, hle, heq.trans (bisect_up (by omega) (by rw [decide_eq_false (by omega)]; rfl)),
          htr.trans (by rw [btrace_up (by omega) (by rw [decide_eq_false (by omega)]; rfl), List.append_assoc]; rfl), by tb_start, by tb_start, by tb_start, by tb_start, by tb_start, rfl⟩
    · rw [bisect_ge (lo := lo') (by omega)] at heq
      rw [btrace_ge (lo := lo') (by omega), List.append_nil] at htr
      exact Back.mk F₂ N₂ (by rw [← heq, ← htr]; exact ret _ _ _)
set_option maxRecDepth 100000 in
set_option maxHeartbeats 8000000 in
theorem il_ints {l : Addr} {vs : List Value} {n : Nat} {ns : List Int} {x : Int} {tx tl : Tok} {pos : List Value} {kw : List (Str × Value)}
    (B : Below A₀ base outer h₀) (F : Fr h₀ L s.heap m) (X : (top.heap_39 w.params).In h₀) (N : News h₀ L s.heap ((l, PySem.W.listOf vs.toArray n) :: news)) (T : Top p loose mean mg mb h₀) (hk : cs.kind = .function)
    (off : ∀ p ∈ news, p.1 ≠ l) (hI : IntsAre vs ns) (hlen : ns.length ≤ 900) (hdp : dp + 2 ≤ 400)
    (hb : BindsTo s (fdAt (top.heap_39 w.params) 41) ⟨pos, kw⟩ [(Str.ofString "a", .ref l), (Str.ofString "x", .int x tx), (Str.ofString "lo", .int 0 tl), (Str.ofString "hi", .none), (Str.ofString "key", .none)])
    (ret : ∀ h' tk', Fr h₀ L h' m → News h₀ L h' ((l, PySem.W.listOf (vs.take (bisect (fun i => decide (ns.getD i 0 < x)) 0 ns.length) ++ .int x tx :: vs.drop (bisect (fun i => decide (ns.getD i 0 < x)) 0 ns.length)).toArray (n + 1)) :: news) → Q .none { s with heap := h', toks := tk' }) :
    wpAny (model PySem.Challenge.rw_pe0007_01.row.prog w) (ktrTop dp un gd cn cs L a ccd cl outer) (call (.ref 41) pos kw) Q E s := by
  (have X' := X; revert X'; k_fill; intro _)
  k_dflt (refine' enter (binds := [(Str.ofString "a", .ref l), (Str.ofString "x", .int x tx), (Str.ofString "lo", .int 0 tl), (Str.ofString "hi", .none), (Str.ofString "key", .none)]) B F X N T hk ?ho ?hcd (by omega) ?hb ?hl ?hc ?co ?ge ?hk ?_; (case ho => k_is); (case hcd => k_is); (case hb => exact hb); (case hl => exact locs rfl); (case hc => decide); (case co => rfl); (case ge => rfl); (case hk => rfl))
  clear hb B F X N T hk
  intro g L' h₁ F' N' B' X' T' lt'
  k_fold
  have hln := hI.length
  ktr_unf
  refine Stop.go ?_
  k_dflt (refine bl_ints B' F' X' N' T' rfl (List.Mem.head _) hI (by omega) (by omega) (bd4_50 (Frag.In.keeps X' (Fr.keep F')) _ _ _ _) ?_)
  intro t h₂ tk₂ F₂ N₂
  have hmem : (l, PySem.W.listOf vs.toArray n) ∈ (l, PySem.W.listOf vs.toArray n) :: news := List.Mem.head _
  have hb2 : bisect (fun i => decide (ns.getD i 0 < x)) 0 ns.length ≤ ns.length := bisect_le _ _ _ (Nat.zero_le _)
  ktr_unf
  refine Stop.go ?_
  refine insertL (by k_asm) (by k_asm) off (Int.natCast_nonneg _) (by rw [Int.toNat_natCast]; omega) (by omega) ?_
  intro h₃ F₃ N₃
  ktr_unf
  exact Back.mk F₃ N₃ (ret _ _)
set_option maxRecDepth 100000 in
set_option maxHeartbeats 8000000 in
theorem ir_ints {l : Addr} {vs : List Value} {n : Nat} {ns : List Int} {x : Int} {tx tl : Tok} {pos : List Value} {kw : List (Str × Value)}
    (B : Below A₀ base outer h₀) (F : Fr h₀ L s.heap m) (X : (top.heap_39 w.params).In h₀) (N : News h₀ L s.heap ((l, PySem.W.listOf vs.toArray n) :: news)) (T : Top p loose mean mg mb h₀) (hk : cs.kind = .function)
    (off : ∀ p ∈ news, p.1 ≠ l) (hI : IntsAre vs ns) (hlen : ns.length ≤ 900) (hdp : dp + 2 ≤ 400)
    (hb : BindsTo s (fdAt (top.heap_39 w.params) 23) ⟨pos, kw⟩ [(Str.ofString "a", .ref l), (Str.ofString "x", .int x tx), (Str.ofString "lo", .int 0 tl), (Str.ofString "hi", .none), (Str.ofString "key", .none)])
    (ret : ∀ h' tk', Fr h₀ L h' m → News h₀ L h' ((l, PySem.W.listOf (vs.take (bisect (fun i => !decide (x < ns.getD i 0)) 0 ns.length) ++ .int x tx :: vs.drop (bisect (fun i => !decide (x < ns.getD i 0)) 0 ns.length)).toArray (n + 1)) :: news) → Q .none { s with heap := h', toks := tk' }) :
    wpAny (model PySem.Challenge.rw_pe0007_01.row.prog w) (ktrTop dp un gd cn cs L a ccd cl outer) (call (.ref 23) pos kw) Q E s := by
  (have X' := X; revert X'; k_fill; intro _)
  k_dflt (refine' enter (binds := [(Str.ofString "a", .ref l), (Str.ofString "x", .int x tx), (Str.ofString "lo", .int 0 tl), (Str.ofString "hi", .none), (Str.ofString "key", .none)]) B F X N T hk ?ho ?hcd (by omega) ?hb ?hl ?hc ?co ?ge ?hk ?_; (case ho => k_is); (case hcd => k_is); (case hb => exact hb); (case hl => exact locs rfl); (case hc => decide); (case co => rfl); (case ge => rfl); (case hk => rfl))
  clear hb B F X N T hk
  intro g L' h₁ F' N' B' X' T' lt'
  k_fold
  have hln := hI.length
  ktr_unf
  refine Stop.go ?_
  k_dflt (refine br_ints B' F' X' N' T' rfl (List.Mem.head _) hI (by omega) (by omega) (bd4_32 (Frag.In.keeps X' (Fr.keep F')) _ _ _ _) ?_)
  intro t h₂ tk₂ F₂ N₂
  have hmem : (l, PySem.W.listOf vs.toArray n) ∈ (l, PySem.W.listOf vs.toArray n) :: news := List.Mem.head _
  have hb2 : bisect (fun i => !decide (x < ns.getD i 0)) 0 ns.length ≤ ns.length := bisect_le _ _ _ (Nat.zero_le _)
  ktr_unf
  refine Stop.go ?_
  refine insertL (by k_asm) (by k_asm) off (Int.natCast_nonneg _) (by rw [Int.toNat_natCast]; omega) (by omega) ?_
  intro h₃ F₃ N₃
  ktr_unf
  exact Back.mk F₃ N₃ (ret _ _)
set_option maxRecDepth 100000 in
set_option maxHeartbeats 8000000 in
theorem il_key {l q : Addr} {vs : List Value} {n : Nat} {ks : List Int} {x : Int} {xv : Value} {tl : Tok} {pos : List Value} {kw : List (Str × Value)}
    (B : Below A₀ base outer h₀) (F : Fr h₀ L s.heap m) (X : (top.heap_39 w.params).In h₀) (N : News h₀ L s.heap ((l, PySem.W.listOf vs.toArray n) :: news)) (T : Top p loose mean mg mb h₀) (hk : cs.kind = .function)
    (off : ∀ p ∈ news, p.1 ≠ l) (hlen : vs.length ≤ 900) (hdp : dp + 2 ≤ 400)
    (KC : KeyOK PySem.Challenge.rw_pe0007_01.row.prog w (top.heap_39 w.params) q (dp + 2) (un + 6) (fun _ => ((l, PySem.W.listOf vs.toArray n) :: news)) vs (fun i r => ∃ t, r = .int (ks.getD i 0) t))
    (KX : KeyOK PySem.Challenge.rw_pe0007_01.row.prog w (top.heap_39 w.params) q (dp + 2) (un + 6) (fun _ => ((l, PySem.W.listOf vs.toArray n) :: news)) [xv] (fun _ r => ∃ t, r = .int x t))
    (hb : BindsTo s (fdAt (top.heap_39 w.params) 41) ⟨pos, kw⟩ [(Str.ofString "a", .ref l), (Str.ofString "x", xv), (Str.ofString "lo", .int 0 tl), (Str.ofString "hi", .none), (Str.ofString "key", .ref q)])
    (ret : ∀ h' tk', Fr h₀ L h' m → News h₀ L h' ((l, PySem.W.listOf (vs.take (bisect (fun i => decide (ks.getD i 0 < x)) 0 vs.length) ++ xv :: vs.drop (bisect (fun i => decide (ks.getD i 0 < x)) 0 vs.length)).toArray (n + 1)) :: news) → Q .none { s with heap := h', toks := tk' }) :
    wpAny (model PySem.Challenge.rw_pe0007_01.row.prog w) (ktrTop dp un gd cn cs L a ccd cl outer) (call (.ref 41) pos kw) Q E s := by
  (have X' := X; revert X'; k_fill; intro _)
  k_dflt (refine' enter (binds := [(Str.ofString "a", .ref l), (Str.ofString "x", xv), (Str.ofString "lo", .int 0 tl), (Str.ofString "hi", .none), (Str.ofString "key", .ref q)]) B F X N T hk ?ho ?hcd (by omega) ?hb ?hl ?hc ?co ?ge ?hk ?_; (case ho => k_is); (case hcd => k_is); (case hb => exact hb); (case hl => exact locs rfl); (case hc => decide); (case co => rfl); (case ge => rfl); (case hk => rfl))
  clear hb B F X N T hk
  intro g L' h₁ F' N' B' X' T' lt'
  k_fold
  ktr_unf
  refine Stop.go ?_
  k_dflt (refine KeyOK.use (i := 0) (tr := []) KX rfl B' (by k_asm) X' (by k_asm) T' rfl (by omega) (by omega) ?_)
  rintro r h₄ tk₄ ⟨tx, rfl⟩ F₄ N₄
  ktr_unf
  refine Stop.go ?_
  k_dflt (refine bl_key (tr := []) (lo := 0) (hi := vs.length) B' F₄ X' N₄ T' rfl (KC.toB (bd := vs.length)) (fun _ => List.Mem.head _) (by omega) (Nat.le_refl _) (by show 0 + _ ≤ _; omega) (.inl ⟨rfl, rfl⟩) (by omega) (bd4k_50 (Frag.In.keeps X' (Fr.keep F₄)) _ _ _ _ _) ?_)
  intro t h₂ tk₂ F₂ N₂
  have hmem : (l, PySem.W.listOf vs.toArray n) ∈ (l, PySem.W.listOf vs.toArray n) :: news := List.Mem.head _
  have hb2 : bisect (fun i => decide (ks.getD i 0 < x)) 0 vs.length ≤ vs.length := bisect_le _ _ _ (Nat.zero_le _)
  ktr_unf
  refine Stop.go ?_
  refine insertL (by k_asm) (by k_asm) off (Int.natCast_nonneg _) (by rw [Int.toNat_natCast]; omega) (by omega) ?_
  intro h₃ F₃ N₃
  ktr_unf
  exact Back.mk F₃ N₃ (ret _ _)
set_option maxRecDepth 100000 in
set_option maxHeartbeats 8000000 in
theorem ir_key {l q : Addr} {vs : List Value} {n : Nat} {ks : List Int} {x : Int} {xv : Value} {tl : Tok} {pos : List Value} {kw : List (Str × Value)}
    (B : Below A₀ base outer h₀) (F : Fr h₀ L s.heap m) (X : (top.heap_39 w.params).In h₀) (N : News h₀ L s.heap ((l, PySem.W.listOf vs.toArray n) :: news)) (T : Top p loose mean mg mb h₀) (hk : cs.kind = .function)
    (off : ∀ p ∈ news, p.1 ≠ l) (hlen : vs.length ≤ 900) (hdp : dp + 2 ≤ 400)
    (KC : KeyOK PySem.Challenge.rw_pe0007_01.row.prog w (top.heap_39 w.params) q (dp + 2) (un + 6) (fun _ => ((l, PySem.W.listOf vs.toArray n) :: news)) vs (fun i r => ∃ t, r = .int (ks.getD i 0) t))
    (KX : KeyOK PySem.Challenge.rw_pe0007_01.row.prog w (top.heap_39 w.params) q (dp + 2) (un + 6) (fun _ => ((l, PySem.W.listOf vs.toArray n) :: news)) [xv] (fun _ r => ∃ t, r = .int x t))
    (hb : BindsTo s (fdAt (top.heap_39 w.params) 23) ⟨pos, kw⟩ [(Str.ofString "a", .ref l), (Str.ofString "x", xv), (Str.ofString "lo", .int 0 tl), (Str.ofString "hi", .none), (Str.ofString "key", .ref q)])
    (ret : ∀ h' tk', Fr h₀ L h' m → News h₀ L h' ((l, PySem.W.listOf (vs.take (bisect (fun i => !decide (x < ks.getD i 0)) 0 vs.length) ++ xv :: vs.drop (bisect (fun i => !decide (x < ks.getD i 0)) 0 vs.length)).toArray (n + 1)) :: news) → Q .none { s with heap := h', toks := tk' }) :
    wpAny (model PySem.Challenge.rw_pe0007_01.row.prog w) (ktrTop dp un gd cn cs L a ccd cl outer) (call (.ref 23) pos kw) Q E s := by
  (have X' := X; revert X'; k_fill; intro _)
  k_dflt (refine' enter (binds := [(Str.ofString "a", .ref l), (Str.ofString "x", xv), (Str.ofString "lo", .int 0 tl), (Str.ofString "hi", .none), (Str.ofString "key", .ref q)]) B F X N T hk ?ho ?hcd (by omega) ?hb ?hl ?hc ?co ?ge ?hk ?_; (case ho => k_is); (case hcd => k_is); (case hb => exact hb); (case hl => exact locs rfl); (case hc => decide); (case co => rfl); (case ge => rfl); (case hk => rfl))
  clear hb B F X N T hk
  intro g L' h₁ F' N' B' X' T' lt'
  k_fold
  ktr_unf
  refine Stop.go ?_
  k_dflt (refine KeyOK.use (i := 0) (tr := []) KX rfl B' (by k_asm) X' (by k_asm) T' rfl (by omega) (by omega) ?_)
  rintro r h₄ tk₄ ⟨tx, rfl⟩ F₄ N₄
  ktr_unf
  refine Stop.go ?_
  k_dflt (refine br_key (tr := []) (lo := 0) (hi := vs.length) B' F₄ X' N₄ T' rfl (KC.toB (bd := vs.length)) (fun _ => List.Mem.head _) (by omega) (Nat.le_refl _) (by show 0 + _ ≤ _; omega) (.inl ⟨rfl, rfl⟩) (by omega) (bd4k_32 (Frag.In.keeps X' (Fr.keep F₄)) _ _ _ _ _) ?_)
  intro t h₂ tk₂ F₂ N₂
  have hmem : (l, PySem.W.listOf vs.toArray n) ∈ (l, PySem.W.listOf vs.toArray n) :: news := List.Mem.head _
  have hb2 : bisect (fun i => !decide (x < ks.getD i 0)) 0 vs.length ≤ vs.length := bisect_le _ _ _ (Nat.zero_le _)
  ktr_unf
  refine Stop.go ?_
  refine insertL (by k_asm) (by k_asm) off (Int.natCast_nonneg _) (by rw [Int.toNat_natCast]; omega) (by omega) ?_
  intro h₃ F₃ N₃
  ktr_unf
  exact Back.mk F₃ N₃ (ret _ _)
end
end Mine
namespace Mine
local macro_rules | `(tactic| tb_start) => `(tactic| repeat (first | assumption | exact rfl | exact upd_eq | refine upd_ne (by decide) ?_))
local macro_rules | `(tactic| walk_at "storeName") => `(tactic| (refine stop_cell (by rfl) (Stop.at ?_)))
local macro_rules | `(tactic| walk_at "call type:enumerate") => `(tactic| (refine Stop.at ?_))
local macro_rules | `(tactic| walk_at "call builtin:sum") => `(tactic| (refine Stop.at ?_))
local macro_rules | `(tactic| walk_at "EnumEnd") => `(tactic| (refine Stop.at ?_))
local macro_rules | `(tactic| walk_at "compareOp NotEq ref") => `(tactic| (refine Stop.at ?_))
local macro_rules | `(tactic| walk_at "execs cons") => `(tactic| ((with_reducible show wpAny _ _ (execs (Stmt.Assign [_] (Expr.ListComp _ [Comprehension.mk (Expr.Tuple _ _ _) _ _ _] _ _) _ :: _) _) _ _ _); refine execs_stop ?_))
local macro_rules | `(tactic| walk_at "subscriptTail Name Slice ref ref") => `(tactic| ((with_reducible show wpAny _ _ (subscriptTail _ (PySem.Expr.Slice _ none (some _) _) (Value.ref _) (Value.ref _)) _ _ _); refine Stop.at ?_))
local macro_rules | `(tactic| walk_at "call builtin:list.append") => `(tactic| (refine Stop.at ?_))
local macro_rules | `(tactic| walk_at "call builtin:list.sort") => `(tactic| (refine Stop.at ?_))
local macro_rules | `(tactic| walk_at "call builtin:sorted") => `(tactic| (refine Stop.at ?_))
local macro_rules | `(tactic| walk_at "compareOp NotIn int ref") => `(tactic| (refine Stop.at ?_))
local macro_rules | `(tactic| walk_at "execs cons") => `(tactic| ((with_reducible show wpAny _ _ (execs (Stmt.While _ _ _ _ :: _) _) _ _ _); refine execs_stop ?_))
local macro_rules | `(tactic| walk_at "execs cons") => `(tactic| ((with_reducible show wpAny _ _ (execs (Stmt.For _ _ _ _ _ :: _) _) _ _ _); refine execs_stop ?_))
local macro_rules | `(tactic| walk_at "call ref") => `(tactic| ((with_reducible show wpAny _ _ (call (Value.ref _) _ _) _ _ _); refine Stop.at ?_))
local macro_rules | `(tactic| walk_at "call builtin:list.insert") => `(tactic| (refine Stop.at ?_))
local macro_rules | `(tactic| walk_at "call builtin:len") => `(tactic| ((with_reducible show wpAny _ _ (call (Value.builtin _) [Value.ref _]) _ _ _); refine lenL (by k_asm) (by k_mem) (by omega) ?_))
local macro_rules | `(tactic| walk_at "callWith ref") => `(tactic| (first | refine callWith_F (KeyOK.fn (by assumption) _ _ _ _ (Frag.In.keeps (by assumption) (Fr.keep (by k_asm))) (by k_asm)) ?_ | refine callWith_F (KeyOK.fn (by assumption) [] _ _ _ (Frag.In.keeps (by assumption) (Fr.keep (by k_asm))) (by k_asm)) ?_))
local macro_rules | `(tactic| walk_at "And") => `(tactic| (first | refine ⟨KeyOK.fn (by assumption) _ _ _ _ (Frag.In.keeps (by assumption) (Fr.keep (by k_asm))) (by k_asm), ?_⟩ | refine ⟨KeyOK.fn (by assumption) [] _ _ _ (Frag.In.keeps (by assumption) (Fr.keep (by k_asm))) (by k_asm), ?_⟩))
local macro_rules | `(tactic| walk_at "compareOp Lt ref") => `(tactic| (refine Stop.at ?_))
local macro_rules | `(tactic| k_mem) => `(tactic| first | assumption | exact List.Mem.head _ | (refine List.Mem.tail _ ?_; k_mem))
local macro_rules | `(tactic| walk_at "compareOp Eq ref") => `(tactic| (refine Stop.at ?_))
local macro_rules | `(tactic| walk_at "setItem ref") => `(tactic| (refine Stop.at ?_))
local macro_rules | `(tactic| walk_at "pyIter ref") => `(tactic| (refine Stop.at ?_))
local macro_rules | `(tactic| walk_at "binaryOp Mult int int") => `(tactic| (refine Stop.at ?_))
local macro_rules | `(tactic| walk_at "CompSrcT") => `(tactic| (refine Stop.at ?_))
local macro_rules | `(tactic| walk_at "CompSrc") => `(tactic| (refine Stop.at ?_))
local macro_rules | `(tactic| walk_at "CompEnd") => `(tactic| (refine Stop.at ?_))
local macro_rules | `(tactic| walk_at "eval ListComp") => `(tactic| (refine Stop.at ?_))
local macro_rules | `(tactic| walk_at "newList") => `(tactic| (k_dflt (refine' newList_K ?k1 ?k2 ?_; (case k1 => k_asm); (case k2 => k_asm)); intro l' h' F' N' l1))
local macro_rules | `(tactic| walk_at "subscriptTail Name Slice ref ref") => `(tactic| ((with_reducible show wpAny _ _ (subscriptTail _ (PySem.Expr.Slice _ _ none _) (Value.ref _) (Value.ref _)) _ _ _); k_dflt (refine' sliceL ?F ?N ?l ?p ?q ?z ?_ ?s ?t; (case F => k_asm); (case N => k_asm); (case l => k_mem); (case p => first | exact IsPart.none | exact IsPart.int _ _); (case q => first | exact IsPart.none | exact IsPart.int _ _); (case s => with_unfolding_all rfl); (case t => (intro _; with_unfolding_all rfl)); (case z => omega)); intro D' h' F' N' l1))
local macro_rules | `(tactic| walk_at "binaryOp Add ref ref") => `(tactic| ((with_reducible show wpAny _ _ (binaryOp _ (Value.ref _) (Value.ref _)) _ _ _); refine Stop.at ?_))
local macro_rules | `(tactic| ktr_unf) => `(tactic| repeat' (first | (k_unfold; (try dsimp only)) | walk1 | (dsimp only; walk1)))
section
local macro_rules | `(tactic| walk_at "eval Name") => `(tactic| (k_dflt (refine' nameX_L ?k1 ?k2 ?_ ?k4 ?k5; (case k4 => exact rfl); (case k5 => exact rfl); (case k1 => k_asm); (case k2 => tb_start))))
local macro_rules | `(tactic| walk_at "eval Name") => `(tactic| (k_dflt (refine' nameX_C ?k1 ?k2 ?k3 ?k6 ?_ ?k4 ?k5 ?k7; (case k4 => exact rfl); (case k5 => exact rfl); (case k7 => decide); (case k1 => k_asm); (case k2 => exact rfl); (case k3 => k_mem); (case k6 => assumption))))
local macro_rules | `(tactic| walk_at "eval Name") => `(tactic| (k_dflt (refine' lcf_free ?k1 ?k2 ?k3 ?k6 ?_ ?k4 ?k5 ?k7 ?k8; (case k4 => exact rfl); (case k5 => exact rfl); (case k7 => decide); (case k8 => decide); (case k1 => k_asm); (case k2 => exact rfl); (case k3 => k_mem); (case k6 => assumption))))
theorem offE01a : True := by
  w_top off
  trivial
section
variable {w : World} {dp un : Nat} {gd : Option (List Code)} {cn : Str} {cs : Scope} {L a : Addr} {ccd : Value} {cl : List (Str × Addr)} {outer : List Env} {A₀ : Around} {base h₀ : Heap}
  {m : Str → Option Value} {news : Led} {s : Shared} {Q E : Value → Shared → Prop} {p : Program} {loose : List Str} {mean : ExcName → Option Value} {mg mb : Str → Option Value}
set_option maxRecDepth 100000 in
set_option maxHeartbeats 8000000 in
theorem value_call {e : Addr} {vs : List Value} {n : Nat} {v : Value}
    (B : Below A₀ base outer h₀) (F : Fr h₀ L s.heap m) (X : (top.heap_39 w.params).In h₀) (N : News h₀ L s.heap news) (T : Top p loose mean mg mb h₀) (hk : cs.kind = .function)
    (he : (e, PySem.W.listOf vs.toArray n) ∈ news) (h0 : vs[0]? = some v) (hdp : dp + 1 ≤ 400)
    (ret : ∀ h' tk', Fr h₀ L h' m → News h₀ L h' news → Q v { s with heap := h', toks := tk' }) :
    wpAny (model PySem.Challenge.rw_pe0007_01.row.prog w) (ktrTop dp un gd cn cs L a ccd cl outer) (call (.ref 57) [.ref e]) Q E s := by
  (have X' := X; revert X'; k_fill; intro hX9; clear hX9)
  k_dflt (refine' enter (binds := [((Str.ofString "entry"), .ref e)]) B F X N T hk ?ho ?hcd (by omega) ?hb ?hl ?hc ?co ?ge ?hk ?_; (case ho => k_is); (case hcd => k_is); (case hb => exact BindsTo.of_eq rfl); (case hl => exact locs rfl); (case hc => decide); (case co => rfl); (case ge => rfl); (case hk => rfl))
  intro g L' h₁ F' N' B' X' T' lt'
  k_fold
  ktr_unf
  refine itemL (by k_asm) he (by decide) (by decide) h0 ?_
  ktr_unf
  exact Back.mk F' N' (ret _ _)
/-- the first number of an entry -/
noncomputable def fst0 (e : List Int) : Int := e.getD 0 0
theorem value_key {led : Led} {vs : List Value} {es : List (List Int)} {dm um : Nat} (sub : ∀ p ∈ news, p ∈ led) (h : RA (RL RI) news vs es) (hne : ∀ e ∈ es, e ≠ []) (hdm : dm + 1 ≤ 400) :
    KeyOK PySem.Challenge.rw_pe0007_01.row.prog w (top.heap_39 w.params) 57 dm um (fun _ => led) vs (fun i r => ∃ t, r = .int ((es.map fst0).getD i 0) t) where
  fn := fun _ _ h _ X _ => FnAt.ofK X (by kernel_rfl)
  run := fun i v tr dp un gd cn cs L a ccd cl outer A₀ base h₀ m s Q E p loose mean mg mb hv B F X N T hk hd hu ret => by
    obtain ⟨x, hx, a', ws, n, rfl, hm, hr⟩ := h.get' hv
    have hx0 : x ≠ [] := hne x (List.mem_of_getElem? hx)
    cases hr with
    | nil => exact absurd rfl hx0
    | cons h1 h2 =>
      obtain ⟨t, rfl⟩ := h1
      refine value_call B F X N T hk (sub _ hm) rfl (by omega) fun h' tk' F' N' => ret _ _ _ ⟨t, ?_⟩ F' N'
      rename_i _ z zs
      have e : (es.map fst0).getD i 0 = z := by simp [hx, fst0]
      rw [e]
end
theorem offE01b : True := by
  w_top off
  trivial
/-- how many are less -/
noncomputable def lessN (xs : List Int) (x : Int) : Nat := (xs.filter fun v => decide (v < x)).length
section
variable {w : World} {dp un : Nat} {gd : Option (List Code)} {cn : Str} {cs : Scope} {L a : Addr} {ccd : Value} {cl : List (Str × Addr)} {outer : List Env} {A₀ : Around} {base h₀ : Heap}
  {m : Str → Option Value} {news : Led} {s : Shared} {Q E : Value → Shared → Prop} {p : Program} {loose : List Str} {mean : ExcName → Option Value} {mg mb : Str → Option Value}
set_option maxRecDepth 100000 in
set_option maxHeartbeats 8000000 in
theorem less_call {l : Addr} {vs : List Value} {n : Nat} {xs : List Int} {x : Int} {tx : Tok}
    (B : Below A₀ base outer h₀) (F : Fr h₀ L s.heap m) (X : (top.heap_39 w.params).In h₀) (N : News h₀ L s.heap news) (T : Top p loose mean mg mb h₀) (hk : cs.kind = .function)
    (hl : (l, PySem.W.listOf vs.toArray n) ∈ news) (hI : RA RI news vs xs) (hlen : xs.length ≤ 100) (hdp : dp + 2 ≤ 400) (hun : un + 20 ≤ 5000)
    (ret : ∀ t h' tk', Fr h₀ L h' m → News h₀ L h' news → Q (.int (lessN xs x : Nat) t) { s with heap := h', toks := tk' }) :
    wpAny (model PySem.Challenge.rw_pe0007_01.row.prog w) (ktrTop dp un gd cn cs L a ccd cl outer) (call (.ref 69) [.ref l, .int x tx]) Q E s := by
  (have X' := X; revert X'; k_fill; intro hX9; clear hX9)
  k_dflt (refine' enterC (binds := [((Str.ofString "values"), .ref l), ((Str.ofString "x"), .int x tx)]) (fun L => [((Str.ofString "x"), L + 1)]) B F X N T hk ?ho ?hcd (by omega) ?hb ?hl ?cls ?hc ?co ?ge ?hk ?_; (case ho => k_is); (case hcd => k_is); (case hb => exact BindsTo.of_eq rfl); (case hl => rfl); (case cls => exact fun _ => rfl); (case hc => decide); (case co => rfl); (case ge => rfl); (case hk => rfl))
  intro g L' h₁ tk cells F' N' Y' B' X' T' lt'
  k_fold
  have hln := hI.length
  have hcL := cLine_is
  obtain ⟨o1, rfl, d1⟩ := CellsAre.one Y'
  have d1 : o1.data = .cell (some (.int x tx)) := d1
  have N' : News g L' h₁ ((L' + 1, o1) :: news) := N'
  have hlm : (l, PySem.W.listOf vs.toArray n) ∈ (L' + 1, o1) :: news := .tail _ hl
  clear Y'
  ktr_unf
  refine Stop.go ?_
  k_dflt (refine LCt.ListComp_T (F₀ := by k_asm) (by with_unfolding_all rfl) (by decide) (by rfl) (by decide) (by rfl) ?_)
  ktr_unf
  refine Stop.go ?_
  refine LCt.CompSrcT.ledger rfl (by k_asm) (by k_asm) hlm (by rw [List.size_toArray, sizeLine_eq]; omega) ?_
  intro g₉
  refine restT (N := vs.length) (fun i ys n₁ => n₁ = (L' + 1, o1) :: news ∧ RA RI [] ys ((xs.take i).filter fun v => decide (v < x))) ?_ ?_ _ 0 [] _ (by simp) ⟨rfl, .nil⟩
  · rintro i v J oJ C oC D m₃ h₉ tk₉ E' ys n₁ hi hv ⟨rfl, hY⟩ hC hx F₉ N₉ off ne
    obtain ⟨b, hst, t₃, rfl⟩ := hI.get' (by simpa using hv)
    have hft := filter_take (fun v => decide (v < x)) _ hst
    ktr_unf
    · refine Stop.go ?_
      refine compEnd (by k_asm) (by k_asm) ((L' + 1, o1) :: news) (fun _ h => h) off (srcAt hlm) ⟨rfl, ?_⟩
      rw [hft, if_pos (decide_eq_true (by assumption))]
      exact hY.append (.cons ⟨_, rfl⟩ .nil)
    · refine Stop.go ?_
      refine compEnd (by k_asm) (by k_asm) ((L' + 1, o1) :: news) (fun _ h => h) off (srcAt hlm) ⟨rfl, ?_⟩
      rw [hft, if_neg (by simpa using (by assumption : ¬ b < x)), List.append_nil]
      exact hY
  · rintro ys n₁ ⟨rfl, hY⟩
    intro D h₇ tk₇ F₇ N₇ offD
    rw [List.take_of_length_le (Nat.le_of_eq hln.symm)] at hY
    have hYl : ys.length = lessN xs x := hY.length
    have hyl : ys.length ≤ 100 := by have h2 := List.length_filter_le (fun v => decide (v < x)) xs; have h3 : lessN xs x ≤ xs.length := h2; omega
    ktr_unf
    exact Back.mk F₇ N₇ (fun F N => hYl ▸ ret _ _ _ F (News.sub N fun q hq => .tail _ (.tail _ hq)))
end
section
theorem offE01c : True := by
  w_top off
  trivial
local macro_rules | `(tactic| walk_at "subscriptTail Name Constant ref int") => `(tactic| (refine Stop.at ?_))
local macro_rules | `(tactic| walk_at "subscriptTail Name BinOp ref int") => `(tactic| (refine Stop.at ?_))
local macro_rules | `(tactic| walk_at "subscriptTail Name Name ref int") => `(tactic| (refine Stop.at ?_))
/-- a number put into a row: behind its like if even, ahead of them if odd -/
noncomputable def putR (y : Int) (r : List Int) : List Int := r.take (bisect (fun i => !decide (y < r.getD i 0)) 0 r.length) ++ y :: r.drop (bisect (fun i => !decide (y < r.getD i 0)) 0 r.length)
noncomputable def putL (y : Int) (r : List Int) : List Int := r.take (bisect (fun i => decide (r.getD i 0 < y)) 0 r.length) ++ y :: r.drop (bisect (fun i => decide (r.getD i 0 < y)) 0 r.length)
noncomputable def putN (n : Int) (r : List Int) : List Int := if Int.fmod n 2 = 0 then putR (Int.fdiv n 3) r else putL (Int.fdiv n 3) r
/-- one of three rows of the numbers so far -/
noncomputable def rowF (ns : List Int) (k : Int) : List Int := ns.foldl (fun r n => if Int.fmod n 3 = k then putN n r else r) []
noncomputable def rowsF (ns : List Int) : List (List Int) := [rowF ns 0, rowF ns 1, rowF ns 2]
theorem putR_len (y : Int) (r : List Int) : (putR y r).length = r.length + 1 := by
  unfold putR
  rw [List.length_append, List.length_cons, List.length_take, List.length_drop]
  have := bisect_le (fun i => !decide (y < r.getD i 0)) 0 r.length (Nat.zero_le _)
  omega
theorem putL_len (y : Int) (r : List Int) : (putL y r).length = r.length + 1 := by
  unfold putL
  rw [List.length_append, List.length_cons, List.length_take, List.length_drop]
  have := bisect_le (fun i => decide (r.getD i 0 < y)) 0 r.length (Nat.zero_le _)
  omega
theorem putR_ok {led : Led} {vs : List Value} {y : Int} {r r' : List Int} (e : r' = putR y r) (h : RA RI led vs r) (t : Tok) : RA RI led (vs.take (bisect (fun i => !decide (y < r.getD i 0)) 0 r.length) ++ .int y t :: vs.drop (bisect (fun i => !decide (y < r.getD i 0)) 0 r.length)) r' := by
  subst e
  exact (h.take _).append (.cons ⟨t, rfl⟩ (h.drop _))
theorem putL_ok {led : Led} {vs : List Value} {y : Int} {r r' : List Int} (e : r' = putL y r) (h : RA RI led vs r) (t : Tok) : RA RI led (vs.take (bisect (fun i => decide (r.getD i 0 < y)) 0 r.length) ++ .int y t :: vs.drop (bisect (fun i => decide (r.getD i 0 < y)) 0 r.length)) r' := by
  subst e
  exact (h.take _).append (.cons ⟨t, rfl⟩ (h.drop _))
theorem rowF_snoc {ns : List Int} {i : Nat} {n k : Int} (h : ns[i]? = some n) : rowF (ns.take (i + 1)) k = if Int.fmod n 3 = k then putN n (rowF (ns.take i) k) else rowF (ns.take i) k := foldl_take _ _ _ h
theorem rowF_len (k : Int) : ∀ (ns : List Int), (rowF ns k).length ≤ ns.length := by
  have key : ∀ (ns r : List Int), (ns.foldl (fun r n => if Int.fmod n 3 = k then putN n r else r) r).length ≤ r.length + ns.length := by
    intro ns
    induction ns with
    | nil => intro r; simp
    | cons n ns ih =>
      intro r
      have h := ih (if Int.fmod n 3 = k then putN n r else r)
      have h2 : (if Int.fmod n 3 = k then putN n r else r).length ≤ r.length + 1 := by
        split
        · unfold putN
          split
          · rw [putR_len]; omega
          · rw [putL_len]; omega
        · omega
      simp only [List.foldl_cons, List.length_cons]
      omega
  intro ns
  have := key ns []
  simpa [rowF] using this
theorem mod3 (n : Int) : Int.fmod n 3 = 0 ∨ Int.fmod n 3 = 1 ∨ Int.fmod n 3 = 2 := by
  have h1 := Int.fmod_nonneg_of_pos n (show (0 : Int) < 3 by decide)
  have h2 := Int.fmod_lt_of_pos n (show (0 : Int) < 3 by decide)
  omega
/-- the loop's state: three rows that grow, the list of them -/
noncomputable def RowsJ (news : Led) (R a0 a1 a2 : Addr) (nR : Nat) (ns : List Int) (m₁ : Str → Option Value) (n₁ : Led) : Prop :=
  ∃ v0 v1 v2 c0 c1 c2, n₁ = (a0, PySem.W.listOf (List.toArray v0) c0) :: (a1, PySem.W.listOf (List.toArray v1) c1) :: (a2, PySem.W.listOf (List.toArray v2) c2) :: (R, PySem.W.listOf (List.toArray [.ref a0, .ref a1, .ref a2]) nR) :: news ∧
    RA RI [] v0 (rowF ns 0) ∧ RA RI [] v1 (rowF ns 1) ∧ RA RI [] v2 (rowF ns 2) ∧ m₁ (Str.ofString "rows") = some (.ref R)
theorem rp0 {x I y z : Addr × Obj} {r : Led} : ∀ q ∈ I :: x :: y :: z :: r, q ∈ x :: I :: y :: z :: r := fun q hq => by
  simp only [List.mem_cons] at hq ⊢; grind
theorem rp1 {x I y z : Addr × Obj} {r : Led} : ∀ q ∈ I :: x :: y :: z :: r, q ∈ y :: I :: x :: z :: r := fun q hq => by
  simp only [List.mem_cons] at hq ⊢; grind
theorem rp2 {x I y z : Addr × Obj} {r : Led} : ∀ q ∈ I :: x :: y :: z :: r, q ∈ z :: I :: x :: y :: r := fun q hq => by
  simp only [List.mem_cons] at hq ⊢; grind
theorem subNil {n : Led} : ∀ p ∈ ([] : Led), p ∈ n := fun _ h => nomatch h
theorem offNil {c : Addr} : ∀ p ∈ ([] : Led), c ≠ p.1 := fun _ h => nomatch h
section
variable {w : World} {dp un : Nat} {gd : Option (List Code)} {cn : Str} {cs : Scope} {L a : Addr} {ccd : Value} {cl : List (Str × Addr)} {outer : List Env} {A₀ : Around} {base h₀ : Heap}
  {m : Str → Option Value} {news : Led} {s : Shared} {Q E : Value → Shared → Prop} {p : Program} {loose : List Str} {mean : ExcName → Option Value} {mg mb : Str → Option Value}
set_option maxRecDepth 100000 in
set_option maxHeartbeats 8000000 in
theorem rows_call {l : Addr} {vs : List Value} {n : Nat} {ns : List Int}
    (B : Below A₀ base outer h₀) (F : Fr h₀ L s.heap m) (X : (top.heap_39 w.params).In h₀) (N : News h₀ L s.heap news) (T : Top p loose mean mg mb h₀) (hk : cs.kind = .function)
    (hl : (l, PySem.W.listOf vs.toArray n) ∈ news) (hI : RA RI news vs ns) (hlen : ns.length ≤ 100) (hdp : dp + 4 ≤ 400) (hun : un + 20 ≤ 5000)
    (ret : ∀ r tl h' tk', Fr h₀ L h' m → News h₀ L h' (tl ++ news) → (∀ q ∈ news, ∀ p ∈ tl, q.1 ≠ p.1) → RL (RL RI) tl r (rowsF ns) → Q r { s with heap := h', toks := tk' }) :
    wpAny (model PySem.Challenge.rw_pe0007_01.row.prog w) (ktrTop dp un gd cn cs L a ccd cl outer) (call (.ref 76) [.ref l]) Q E s := by
  (have X' := X; revert X'; k_fill; intro hX9; clear hX9)
  k_dflt (refine' enter (binds := [((Str.ofString "numbers"), .ref l)]) B F X N T hk ?ho ?hcd (by omega) ?hb ?hl ?hc ?co ?ge ?hk ?_; (case ho => k_is); (case hcd => k_is); (case hb => exact BindsTo.of_eq rfl); (case hl => exact locs rfl); (case hc => decide); (case co => rfl); (case ge => rfl); (case hk => rfl))
  intro g L' h₁ F' N' B' X' T' lt'
  k_fold
  have hln := hI.length
  have hcL := cLine_is
  ktr_unf
  rename_i a0 g0 lt0 a1 g1 lt1 a2 g2 lt2 R g3 ltR h₃ F₃ N₃
  have d01 : a0 ≠ a1 := Nat.ne_of_lt (lt1 _ (.head _))
  have d02 : a0 ≠ a2 := Nat.ne_of_lt (lt2 _ (.tail _ (.head _)))
  have d12 : a1 ≠ a2 := Nat.ne_of_lt (lt2 _ (.head _))
  have e0 : a0 ≠ R := Nat.ne_of_lt (ltR _ (.tail _ (.tail _ (.head _))))
  have e1 : a1 ≠ R := Nat.ne_of_lt (ltR _ (.tail _ (.head _)))
  have e2 : a2 ≠ R := Nat.ne_of_lt (ltR _ (.head _))
  have f0 : ∀ p ∈ news, p.1 ≠ a0 := fun p hp => Nat.ne_of_lt (lt0 p hp)
  have f1 : ∀ p ∈ news, p.1 ≠ a1 := fun p hp => Nat.ne_of_lt (lt1 p (.tail _ hp))
  have f2 : ∀ p ∈ news, p.1 ≠ a2 := fun p hp => Nat.ne_of_lt (lt2 p (.tail _ (.tail _ hp)))
  have fR : ∀ p ∈ news, p.1 ≠ R := fun p hp => Nat.ne_of_lt (ltR p (.tail _ (.tail _ (.tail _ hp))))
  refine Stop.go ?_
  refine For_turns F₃ ?_ (hE := PassesOwn.never)
  ktr_unf
  refine Stop.go ?_
  refine forL (fun i m₁ n₁ => RowsJ news R a0 a1 a2 0 (ns.take i) m₁ n₁) rfl (by k_asm)
    (News.sub N₃ (n' := (a0, PySem.W.listOf (List.toArray []) 0) :: (a1, PySem.W.listOf (List.toArray []) 0) :: (a2, PySem.W.listOf (List.toArray []) 0) :: (R, PySem.W.listOf (List.toArray [Value.ref a0, Value.ref a1, Value.ref a2]) 0) :: news) (fun q hq => by
      simp only [List.mem_cons] at hq ⊢; grind)) (.tail _ (.tail _ (.tail _ (.tail _ hl))))
    ⟨[], [], [], 0, 0, 0, rfl, .nil, .nil, .nil, by tb_start⟩ ?_ ?_
  · rintro i v I oI m₁ n₁ h₄ tk₄ hv ⟨v0, v1, v2, c0, c1, c2, rfl, h0, h1, h2, ers⟩ hm₁ off F₄ N₄
    obtain ⟨b, hst, t, rfl⟩ := hI.get' hv
    have J0 : a0 ≠ I := off _ (.head _)
    have J1 : a1 ≠ I := off _ (.tail _ (.head _))
    have J2 : a2 ≠ I := off _ (.tail _ (.tail _ (.head _)))
    have JR : R ≠ I := off _ (.tail _ (.tail _ (.tail _ (.head _))))
    have JN : ∀ p ∈ news, p.1 ≠ I := fun p hp => off _ (.tail _ (.tail _ (.tail _ (.tail _ hp))))
    have hi : i < ns.length := (List.getElem?_eq_some_iff.mp hst).1
    have k0 := rowF_len 0 (ns.take i)
    have k1 := rowF_len 1 (ns.take i)
    have k2 := rowF_len 2 (ns.take i)
    have kt : (ns.take i).length ≤ 100 := by rw [List.length_take]; omega
    clear lt0 lt1 lt2 ltR N₃ off
    ktr_unf
    all_goals (rename_i h₅ F₅ N₅ tk₅ hev)
    · rcases mod3 b with hc | hc | hc
      · refine Stop.go ?_
        k_dflt (refine itemL (v := .ref a0) N₅ (.tail _ (.tail _ (.tail _ (.tail _ (.head _))))) (by omega) (by omega) (by rw [hc]; rfl) ?_)
        ktr_unf
        refine Stop.go ?_
        have N₆ := News.sub N₅ (n' := (a0, PySem.W.listOf v0.toArray c0) :: (I, oI) :: (a1, PySem.W.listOf v1.toArray c1) :: (a2, PySem.W.listOf v2.toArray c2) :: (R, PySem.W.listOf (List.toArray [Value.ref a0, Value.ref a1, Value.ref a2]) 0) :: news) (fun q hq => by simp only [List.mem_cons] at hq ⊢; grind)
        k_dflt (refine ir_ints (l := a0) (vs := v0) (ns := rowF (ns.take i) 0) B' (by k_asm) X' N₆ T' rfl (offC J0.symm (offC d01.symm (offC d02.symm (offC e0.symm f0)))) h0.ints (by omega) (by omega) (bd2_23 (X'.keeps (Fr.keep F₅)) _ _) ?_)
        intro h₇ tk₇ F₇ N₇
        ktr_unf
        refine LPost.next F₇ N₇ _ rp0 (offC J0 (offC J1 (offC J2 (offC JR JN)))) (.tail _ (.tail _ (.tail _ (.tail _ hl)))) ?_
        exact ⟨_, _, _, _, _, _, rfl, putR_ok (by rw [rowF_snoc hst, if_pos hc]; unfold putN; rw [if_pos (by assumption)]) h0 _, (by rw [rowF_snoc hst, if_neg (by omega)]; exact h1), (by rw [rowF_snoc hst, if_neg (by omega)]; exact h2), by tb_start⟩
      · refine Stop.go ?_
        k_dflt (refine itemL (v := .ref a1) N₅ (.tail _ (.tail _ (.tail _ (.tail _ (.head _))))) (by omega) (by omega) (by rw [hc]; rfl) ?_)
        ktr_unf
        refine Stop.go ?_
        have N₆ := News.sub N₅ (n' := (a1, PySem.W.listOf v1.toArray c1) :: (I, oI) :: (a0, PySem.W.listOf v0.toArray c0) :: (a2, PySem.W.listOf v2.toArray c2) :: (R, PySem.W.listOf (List.toArray [Value.ref a0, Value.ref a1, Value.ref a2]) 0) :: news) (fun q hq => by simp only [List.mem_cons] at hq ⊢; grind)
        k_dflt (refine ir_ints (l := a1) (vs := v1) (ns := rowF (ns.take i) 1) B' (by k_asm) X' N₆ T' rfl (offC J1.symm (offC d01 (offC d12.symm (offC e1.symm f1)))) h1.ints (by omega) (by omega) (bd2_23 (X'.keeps (Fr.keep F₅)) _ _) ?_)
        intro h₇ tk₇ F₇ N₇
        ktr_unf
        refine LPost.next F₇ N₇ _ rp1 (offC J0 (offC J1 (offC J2 (offC JR JN)))) (.tail _ (.tail _ (.tail _ (.tail _ hl)))) ?_
        exact ⟨_, _, _, _, _, _, rfl, (by rw [rowF_snoc hst, if_neg (by omega)]; exact h0), putR_ok (by rw [rowF_snoc hst, if_pos hc]; unfold putN; rw [if_pos (by assumption)]) h1 _, (by rw [rowF_snoc hst, if_neg (by omega)]; exact h2), by tb_start⟩
      · refine Stop.go ?_
        k_dflt (refine itemL (v := .ref a2) N₅ (.tail _ (.tail _ (.tail _ (.tail _ (.head _))))) (by omega) (by omega) (by rw [hc]; rfl) ?_)
        ktr_unf
        refine Stop.go ?_
        have N₆ := News.sub N₅ (n' := (a2, PySem.W.listOf v2.toArray c2) :: (I, oI) :: (a0, PySem.W.listOf v0.toArray c0) :: (a1, PySem.W.listOf v1.toArray c1) :: (R, PySem.W.listOf (List.toArray [Value.ref a0, Value.ref a1, Value.ref a2]) 0) :: news) (fun q hq => by simp only [List.mem_cons] at hq ⊢; grind)
        k_dflt (refine ir_ints (l := a2) (vs := v2) (ns := rowF (ns.take i) 2) B' (by k_asm) X' N₆ T' rfl (offC J2.symm (offC d02 (offC d12 (offC e2.symm f2)))) h2.ints (by omega) (by omega) (bd2_23 (X'.keeps (Fr.keep F₅)) _ _) ?_)
        intro h₇ tk₇ F₇ N₇
        ktr_unf
        refine LPost.next F₇ N₇ _ rp2 (offC J0 (offC J1 (offC J2 (offC JR JN)))) (.tail _ (.tail _ (.tail _ (.tail _ hl)))) ?_
        exact ⟨_, _, _, _, _, _, rfl, (by rw [rowF_snoc hst, if_neg (by omega)]; exact h0), (by rw [rowF_snoc hst, if_neg (by omega)]; exact h1), putR_ok (by rw [rowF_snoc hst, if_pos hc]; unfold putN; rw [if_pos (by assumption)]) h2 _, by tb_start⟩
    · rcases mod3 b with hc | hc | hc
      · refine Stop.go ?_
        k_dflt (refine itemL (v := .ref a0) N₅ (.tail _ (.tail _ (.tail _ (.tail _ (.head _))))) (by omega) (by omega) (by rw [hc]; rfl) ?_)
        ktr_unf
        refine Stop.go ?_
        have N₆ := News.sub N₅ (n' := (a0, PySem.W.listOf v0.toArray c0) :: (I, oI) :: (a1, PySem.W.listOf v1.toArray c1) :: (a2, PySem.W.listOf v2.toArray c2) :: (R, PySem.W.listOf (List.toArray [Value.ref a0, Value.ref a1, Value.ref a2]) 0) :: news) (fun q hq => by simp only [List.mem_cons] at hq ⊢; grind)
        k_dflt (refine il_ints (l := a0) (vs := v0) (ns := rowF (ns.take i) 0) B' (by k_asm) X' N₆ T' rfl (offC J0.symm (offC d01.symm (offC d02.symm (offC e0.symm f0)))) h0.ints (by omega) (by omega) (bd2_41 (X'.keeps (Fr.keep F₅)) _ _) ?_)
        intro h₇ tk₇ F₇ N₇
        ktr_unf
        refine LPost.next F₇ N₇ _ rp0 (offC J0 (offC J1 (offC J2 (offC JR JN)))) (.tail _ (.tail _ (.tail _ (.tail _ hl)))) ?_
        exact ⟨_, _, _, _, _, _, rfl, putL_ok (by rw [rowF_snoc hst, if_pos hc]; unfold putN; rw [if_neg (by assumption)]) h0 _, (by rw [rowF_snoc hst, if_neg (by omega)]; exact h1), (by rw [rowF_snoc hst, if_neg (by omega)]; exact h2), by tb_start⟩
      · refine Stop.go ?_
        k_dflt (refine itemL (v := .ref a1) N₅ (.tail _ (.tail _ (.tail _ (.tail _ (.head _))))) (by omega) (by omega) (by rw [hc]; rfl) ?_)
        ktr_unf
        refine Stop.go ?_
        have N₆ := News.sub N₅ (n' := (a1, PySem.W.listOf v1.toArray c1) :: (I, oI) :: (a0, PySem.W.listOf v0.toArray c0) :: (a2, PySem.W.listOf v2.toArray c2) :: (R, PySem.W.listOf (List.toArray [Value.ref a0, Value.ref a1, Value.ref a2]) 0) :: news) (fun q hq => by simp only [List.mem_cons] at hq ⊢; grind)
        k_dflt (refine il_ints (l := a1) (vs := v1) (ns := rowF (ns.take i) 1) B' (by k_asm) X' N₆ T' rfl (offC J1.symm (offC d01 (offC d12.symm (offC e1.symm f1)))) h1.ints (by omega) (by omega) (bd2_41 (X'.keeps (Fr.keep F₅)) _ _) ?_)
        intro h₇ tk₇ F₇ N₇
        ktr_unf
        refine LPost.next F₇ N₇ _ rp1 (offC J0 (offC J1 (offC J2 (offC JR JN)))) (.tail _ (.tail _ (.tail _ (.tail _ hl)))) ?_
        exact ⟨_, _, _, _, _, _, rfl, (by rw [rowF_snoc hst, if_neg (by omega)]; exact h0), putL_ok (by rw [rowF_snoc hst, if_pos hc]; unfold putN; rw [if_neg (by assumption)]) h1 _, (by rw [rowF_snoc hst, if_neg (by omega)]; exact h2), by tb_start⟩
      · refine Stop.go ?_
        k_dflt (refine itemL (v := .ref a2) N₅ (.tail _ (.tail _ (.tail _ (.tail _ (.head _))))) (by omega) (by omega) (by rw [hc]; rfl) ?_)
        ktr_unf
        refine Stop.go ?_
        have N₆ := News.sub N₅ (n' := (a2, PySem.W.listOf v2.toArray c2) :: (I, oI) :: (a0, PySem.W.listOf v0.toArray c0) :: (a1, PySem.W.listOf v1.toArray c1) :: (R, PySem.W.listOf (List.toArray [Value.ref a0, Value.ref a1, Value.ref a2]) 0) :: news) (fun q hq => by simp only [List.mem_cons] at hq ⊢; grind)
        k_dflt (refine il_ints (l := a2) (vs := v2) (ns := rowF (ns.take i) 2) B' (by k_asm) X' N₆ T' rfl (offC J2.symm (offC d02 (offC d12 (offC e2.symm f2)))) h2.ints (by omega) (by omega) (bd2_41 (X'.keeps (Fr.keep F₅)) _ _) ?_)
        intro h₇ tk₇ F₇ N₇
        ktr_unf
        refine LPost.next F₇ N₇ _ rp2 (offC J0 (offC J1 (offC J2 (offC JR JN)))) (.tail _ (.tail _ (.tail _ (.tail _ hl)))) ?_
        exact ⟨_, _, _, _, _, _, rfl, (by rw [rowF_snoc hst, if_neg (by omega)]; exact h0), (by rw [rowF_snoc hst, if_neg (by omega)]; exact h1), putL_ok (by rw [rowF_snoc hst, if_pos hc]; unfold putN; rw [if_neg (by assumption)]) h2 _, by tb_start⟩
  · rintro m₂ n₂ h₈ tk₈ ⟨v0, v1, v2, c0, c1, c2, rfl, h0, h1, h2, ers⟩ F₈ N₈
    rw [List.take_of_length_le (Nat.le_of_eq hln.symm)] at h0 h1 h2
    have N₉ : News g L' h₈ ([(a0, PySem.W.listOf (List.toArray v0) c0), (a1, PySem.W.listOf (List.toArray v1) c1), (a2, PySem.W.listOf (List.toArray v2) c2), (R, PySem.W.listOf (List.toArray [Value.ref a0, Value.ref a1, Value.ref a2]) 0)] ++ news) := N₈
    ktr_unf
    refine Back.mk (by k_asm) N₉ (fun F N => ret (.ref R) _ _ _ F N (fun q hq => offS (f0 q hq) (offS (f1 q hq) (offS (f2 q hq) (offS (fR q hq) offNil)))) ⟨R, _, _, rfl, .tail _ (.tail _ (.tail _ (.head _))), .cons ⟨a0, v0, c0, rfl, .head _, h0.mono RI.mono subNil⟩ (.cons ⟨a1, v1, c1, rfl, .tail _ (.head _), h1.mono RI.mono subNil⟩ (.cons ⟨a2, v2, c2, rfl, .tail _ (.tail _ (.head _)), h2.mono RI.mono subNil⟩ .nil))⟩)
end
end
section
theorem offE01d : True := by
  w_top off
  trivial
local macro_rules | `(tactic| walk_at "subscriptTail Name Slice ref ref") => `(tactic| (refine Stop.at ?_))
local macro_rules | `(tactic| walk_at "subscriptTail Name Constant ref int") => `(tactic| (refine Stop.at ?_))
local macro_rules | `(tactic| walk_at "subscriptTail Name BinOp ref int") => `(tactic| (refine Stop.at ?_))
local macro_rules | `(tactic| walk_at "subscriptTail Name Name ref int") => `(tactic| (refine Stop.at ?_))
/-- the searches by halves in a list of numbers -/
noncomputable def bisL (xs : List Int) (v : Int) : Nat := bisect (fun i => decide (xs.getD i 0 < v)) 0 xs.length
noncomputable def bisR (xs : List Int) (v : Int) : Nat := bisect (fun i => !decide (v < xs.getD i 0)) 0 xs.length
/-- an entry of value, place in the row, place below, mark -/
noncomputable def entryF (row : List Int) (lower : List (List Int)) (v mark : Int) : List Int := [v, (bisL row v : Nat), (bisL (lower.map fst0) v : Nat), mark]
noncomputable def insR (e : List Int) (made : List (List Int)) : List (List Int) := made.take (bisR (made.map fst0) (fst0 e)) ++ e :: made.drop (bisR (made.map fst0) (fst0 e))
noncomputable def insL (e : List Int) (made : List (List Int)) : List (List Int) := made.take (bisL (made.map fst0) (fst0 e)) ++ e :: made.drop (bisL (made.map fst0) (fst0 e))
noncomputable def madeA (row : List Int) (lower : List (List Int)) : Nat → List (List Int)
  | 0 => []
  | i + 1 => insR (entryF row lower (row.getD i 0) ((i : Int) + 1)) (madeA row lower i)
noncomputable def madeB (row : List Int) (lower m1 : List (List Int)) : Nat → List (List Int)
  | 0 => m1
  | i + 1 => insL (entryF row lower (fst0 ((odds lower).getD i [])) (-1 - (i : Int))) (madeB row lower m1 i)
noncomputable def madeF (row : List Int) (lower : List (List Int)) : List (List Int) := madeB row lower (madeA row lower row.length) (odds lower).length
noncomputable def lowerN (rr : List (List Int)) : Nat → List (List Int)
  | 0 => []
  | i + 1 => madeF (rr.getD i []) (lowerN rr i)
noncomputable def listsF (rows : List (List Int)) : List (List (List Int)) := (List.range rows.length).map fun i => lowerN rows.reverse (i + 1)
theorem bisL_le (xs : List Int) (v : Int) : bisL xs v ≤ xs.length := bisect_le _ _ _ (Nat.zero_le _)
theorem bisR_le (xs : List Int) (v : Int) : bisR xs v ≤ xs.length := bisect_le _ _ _ (Nat.zero_le _)
theorem insR_len (e : List Int) (made : List (List Int)) : (insR e made).length = made.length + 1 := by
  have := bisR_le (made.map fst0) (fst0 e)
  unfold insR
  rw [List.length_append, List.length_cons, List.length_take, List.length_drop]
  rw [List.length_map] at this
  omega
theorem insL_len (e : List Int) (made : List (List Int)) : (insL e made).length = made.length + 1 := by
  have := bisL_le (made.map fst0) (fst0 e)
  unfold insL
  rw [List.length_append, List.length_cons, List.length_take, List.length_drop]
  rw [List.length_map] at this
  omega
theorem madeA_len (row : List Int) (lower : List (List Int)) : ∀ i, (madeA row lower i).length = i
  | 0 => rfl
  | i + 1 => by rw [madeA, insR_len, madeA_len row lower i]
theorem madeB_len (row : List Int) (lower m1 : List (List Int)) : ∀ i, (madeB row lower m1 i).length = m1.length + i
  | 0 => rfl
  | i + 1 => by rw [madeB, insL_len, madeB_len row lower m1 i]; omega
theorem madeF_len (row : List Int) (lower : List (List Int)) : (madeF row lower).length = row.length + lower.length / 2 := by
  rw [madeF, madeB_len, madeA_len, odds_len]
noncomputable def Four (es : List (List Int)) : Prop := ∀ e ∈ es, e.length = 4
theorem Four.ne {es : List (List Int)} (h : Four es) : ∀ e ∈ es, e ≠ [] := fun e he q => by have := h e he; rw [q] at this; cases this
theorem insR_four {e : List Int} {made : List (List Int)} (he : e.length = 4) (h : Four made) : Four (insR e made) := fun x hx => by
  unfold insR at hx
  rcases List.mem_append.mp hx with hx | hx
  · exact h x (List.mem_of_mem_take hx)
  · rcases List.mem_cons.mp hx with rfl | hx
    · exact he
    · exact h x (List.mem_of_mem_drop hx)
theorem insL_four {e : List Int} {made : List (List Int)} (he : e.length = 4) (h : Four made) : Four (insL e made) := fun x hx => by
  unfold insL at hx
  rcases List.mem_append.mp hx with hx | hx
  · exact h x (List.mem_of_mem_take hx)
  · rcases List.mem_cons.mp hx with rfl | hx
    · exact he
    · exact h x (List.mem_of_mem_drop hx)
theorem madeA_four (row : List Int) (lower : List (List Int)) : ∀ i, Four (madeA row lower i)
  | 0 => fun _ h => nomatch h
  | i + 1 => insR_four rfl (madeA_four row lower i)
theorem madeB_four (row : List Int) (lower m1 : List (List Int)) (h : Four m1) : ∀ i, Four (madeB row lower m1 i)
  | 0 => h
  | i + 1 => insL_four rfl (madeB_four row lower m1 h i)
theorem madeF_four (row : List Int) (lower : List (List Int)) : Four (madeF row lower) := madeB_four _ _ _ (madeA_four _ _ _) _
theorem lowerN_four (rr : List (List Int)) : ∀ i, Four (lowerN rr i)
  | 0 => fun _ h => nomatch h
  | _ + 1 => madeF_four _ _
theorem lowerN_len (rr : List (List Int)) (h : ∀ r ∈ rr, r.length ≤ 20) : ∀ i, (lowerN rr i).length ≤ 20 * i
  | 0 => Nat.le_refl _
  | i + 1 => by
    have h1 := lowerN_len rr h i
    have h2 : (rr.getD i []).length ≤ 20 := by
      by_cases hi : i < rr.length
      · have : rr.getD i [] = rr[i] := by simp [hi]
        rw [this]; exact h _ (List.getElem_mem hi)
      · have : rr.getD i [] = [] := by simp [hi]
        rw [this]; simp
    rw [lowerN, madeF_len]
    omega
theorem insR_ok {led : Led} {mv : List Value} {made : List (List Int)} {e : List Int} {ev : Value} (h : RA (RL RI) led mv made) (he : RL RI led ev e) :
    RA (RL RI) led (mv.take (bisR (made.map fst0) (fst0 e)) ++ ev :: mv.drop (bisR (made.map fst0) (fst0 e))) (insR e made) := (h.take _).append (.cons he (h.drop _))
theorem insL_ok {led : Led} {mv : List Value} {made : List (List Int)} {e : List Int} {ev : Value} (h : RA (RL RI) led mv made) (he : RL RI led ev e) :
    RA (RL RI) led (mv.take (bisL (made.map fst0) (fst0 e)) ++ ev :: mv.drop (bisL (made.map fst0) (fst0 e))) (insL e made) := (h.take _).append (.cons he (h.drop _))
theorem bisL_of {k : Nat} {ks : List Int} {v : Int} (h : k = ks.length) : bisect (fun i => decide (ks.getD i 0 < v)) 0 k = bisL ks v := by rw [h]; rfl
theorem bisR_of {k : Nat} {ks : List Int} {v : Int} (h : k = ks.length) : bisect (fun i => !decide (v < ks.getD i 0)) 0 k = bisR ks v := by rw [h]; rfl
/-- the state of the two loops that fill one list -/
noncomputable def MadeJ (base : Led) (Ma La ra b : Addr) (made : List (List Int)) (m₁ : Str → Option Value) (n₁ : Led) : Prop :=
  ∃ mv c tl, n₁ = (Ma, PySem.W.listOf (List.toArray mv) c) :: (tl ++ base) ∧ (∀ p ∈ tl, p.1 ≠ Ma) ∧ (∀ q ∈ base, ∀ p ∈ tl, q.1 ≠ p.1) ∧ RA (RL RI) tl mv made ∧
    m₁ (Str.ofString "made") = some (.ref Ma) ∧ m₁ (Str.ofString "row") = some (.ref ra) ∧ m₁ (Str.ofString "lower") = some (.ref b) ∧ m₁ (Str.ofString "lists") = some (.ref La)
/-- the state of the loop over the rows -/
noncomputable def ListsJ (base : Led) (La : Addr) (lists : List (List (List Int))) (low : List (List Int)) (m₁ : Str → Option Value) (n₁ : Led) : Prop :=
  ∃ lv c tl b, n₁ = (La, PySem.W.listOf (List.toArray lv) c) :: (tl ++ base) ∧ (∀ p ∈ tl, p.1 ≠ La) ∧ (∀ q ∈ base, ∀ p ∈ tl, q.1 ≠ p.1) ∧ RA (RL (RL RI)) tl lv lists ∧ RL (RL RI) tl (.ref b) low ∧
    m₁ (Str.ofString "lower") = some (.ref b) ∧ m₁ (Str.ofString "lists") = some (.ref La)
theorem listsP0 {x y z : Addr × Obj} {r : Led} : ∀ q ∈ x :: ([y] ++ z :: r), q ∈ z :: y :: x :: r := fun q hq => by
  simp only [List.mem_cons, List.mem_append, List.not_mem_nil, or_false] at hq ⊢; grind
theorem permA1 {y e a b : Addr × Obj} {tl r : Led} : ∀ q ∈ y :: e :: a :: b :: (tl ++ r), q ∈ e :: a :: b :: y :: (tl ++ r) := fun q hq => by
  simp only [List.mem_cons] at hq ⊢; grind
theorem permA2 {y e a b : Addr × Obj} {tl r : Led} : ∀ q ∈ a :: b :: y :: ((e :: tl) ++ r), q ∈ y :: e :: a :: b :: (tl ++ r) := fun q hq => by
  simp only [List.mem_cons, List.cons_append] at hq ⊢; grind
theorem value_key1 {w : World} {news led : Led} {ev : Value} {e : List Int} {dm um : Nat} (sub : ∀ p ∈ news, p ∈ led) (h : RL RI news ev e) (hne : e ≠ []) (hdm : dm + 1 ≤ 400) :
    KeyOK PySem.Challenge.rw_pe0007_01.row.prog w (top.heap_39 w.params) 57 dm um (fun _ => led) [ev] (fun _ r => ∃ t, r = .int (fst0 e) t) :=
  (value_key (es := [e]) sub (.cons h .nil) (fun x hx => by rw [List.mem_singleton.mp hx]; exact hne) hdm).imp fun i v r hi hr => by
    cases i with
    | zero => exact hr
    | succ i => simp at hi
theorem entry_ok {led : Led} {row : List Int} {low : List (List Int)} {v mark : Int} {t0 t1 t2 t3 : Tok} {p1 p2 : Nat} {en : Addr} {c : Nat} (h1 : p1 = bisL row v) (h2 : p2 = bisL (low.map fst0) v) (hm : (en, PySem.W.listOf (List.toArray [Value.int v t0, .int (p1 : Nat) t1, .int (p2 : Nat) t2, .int mark t3]) c) ∈ led) :
    RL RI led (.ref en) (entryF row low v mark) := ⟨en, _, c, rfl, hm, by subst h1 h2; exact .cons ⟨_, rfl⟩ (.cons ⟨_, rfl⟩ (.cons ⟨_, rfl⟩ (.cons ⟨_, rfl⟩ .nil)))⟩
theorem madeA_step {row : List Int} {low : List (List Int)} {j : Nat} {v : Int} (h : row[j]? = some v) : madeA row low (j + 1) = insR (entryF row low v ((j : Int) + 1)) (madeA row low j) := by
  have : row.getD j 0 = v := by simp [h]
  rw [madeA, this]
theorem madeB_step {row : List Int} {low m1 : List (List Int)} {j : Nat} {e : List Int} (h : (odds low)[j]? = some e) : madeB row low m1 (j + 1) = insL (entryF row low (fst0 e) (-1 - (j : Int))) (madeB row low m1 j) := by
  have : (odds low).getD j [] = e := by simp [h]
  rw [madeB, this]
theorem RA.first {led : Led} {vs : List Value} {xs : List Int} (h : RA RI led vs xs) (hne : xs ≠ []) : ∃ t, vs[0]? = some (.int (fst0 xs) t) := by
  cases h with
  | nil => exact absurd rfl hne
  | cons h1 h2 =>
    obtain ⟨t, rfl⟩ := h1
    exact ⟨t, by simp [fst0]⟩
theorem odds_mem {α : Type} {l : List α} {x : α} (h : x ∈ odds l) : x ∈ l := by
  unfold odds at h
  obtain ⟨i, _, hi⟩ := List.mem_filterMap.mp h
  exact List.mem_of_getElem? hi
theorem permB0 {o y : Addr × Obj} {tl r : Led} : ∀ q ∈ y :: (tl ++ (o :: r)), q ∈ o :: y :: (tl ++ r) := fun q hq => by
  simp only [List.mem_cons, List.mem_append] at hq ⊢; grind
theorem permB1 {i l y o : Addr × Obj} {tb tl r : Led} : ∀ q ∈ l :: i :: y :: o :: (tb ++ (tl ++ r)), q ∈ y :: (tb ++ (o :: i :: l :: (tl ++ r))) := fun q hq => by
  simp only [List.mem_cons, List.mem_append] at hq ⊢; grind
theorem permB2 {i l y o : Addr × Obj} {tb tl r : Led} : ∀ q ∈ i :: l :: ((y :: o :: (tb ++ tl)) ++ r), q ∈ l :: i :: y :: o :: (tb ++ (tl ++ r)) := fun q hq => by
  simp only [List.mem_cons, List.mem_append, List.cons_append] at hq ⊢; grind
theorem permB3 {l o : Addr × Obj} {tl r : Led} : ∀ q ∈ (l :: (tl ++ [o])) ++ r, q ∈ l :: (tl ++ (o :: r)) := fun q hq => by
  simp only [List.mem_cons, List.mem_append, List.cons_append, List.not_mem_nil, or_false] at hq ⊢; grind
section
variable {w : World} {dp un : Nat} {gd : Option (List Code)} {cn : Str} {cs : Scope} {L a : Addr} {ccd : Value} {cl : List (Str × Addr)} {outer : List Env} {A₀ : Around} {base h₀ : Heap}
  {m : Str → Option Value} {news : Led} {s : Shared} {Q E : Value → Shared → Prop} {p : Program} {loose : List Str} {mean : ExcName → Option Value} {mg mb : Str → Option Value}
set_option maxRecDepth 100000 in
set_option maxHeartbeats 8000000 in
theorem lists_call {l : Addr} {vs : List Value} {n : Nat} {rows : List (List Int)}
    (B : Below A₀ base outer h₀) (F : Fr h₀ L s.heap m) (X : (top.heap_39 w.params).In h₀) (N : News h₀ L s.heap news) (T : Top p loose mean mg mb h₀) (hk : cs.kind = .function)
    (hl : (l, PySem.W.listOf vs.toArray n) ∈ news) (hR : RA (RL RI) news vs rows) (hlen : rows.length ≤ 3) (hrows : ∀ r ∈ rows, r.length ≤ 20) (hdp : dp + 5 ≤ 400) (hun : un + 60 ≤ 5000)
    (ret : ∀ r tl h' tk', Fr h₀ L h' m → News h₀ L h' (tl ++ news) → (∀ q ∈ news, ∀ p ∈ tl, q.1 ≠ p.1) → RL (RL (RL RI)) tl r (listsF rows) → Q r { s with heap := h', toks := tk' }) :
    wpAny (model PySem.Challenge.rw_pe0007_01.row.prog w) (ktrTop dp un gd cn cs L a ccd cl outer) (call (.ref 83) [.ref l]) Q E s := by
  (have X' := X; revert X'; k_fill; intro hX9; clear hX9)
  k_dflt (refine' enter (binds := [((Str.ofString "rows"), .ref l)]) B F X N T hk ?ho ?hcd (by omega) ?hb ?hl ?hc ?co ?ge ?hk ?_; (case ho => k_is); (case hcd => k_is); (case hb => exact BindsTo.of_eq rfl); (case hl => exact locs rfl); (case hc => decide); (case co => rfl); (case ge => rfl); (case hk => rfl))
  intro g L' h₁ F' N' B' X' T' lt'
  k_fold
  have hln := hR.length
  have hcL := cLine_is
  ktr_unf
  rename_i La g0 ltL h₂ l0 g1 lt0 h₃ F₃ N₃
  have dL0 : La ≠ l0 := Nat.ne_of_lt (lt0 _ (.head _))
  have fL : ∀ p ∈ news, p.1 ≠ La := fun p hp => Nat.ne_of_lt (ltL p hp)
  have f0 : ∀ p ∈ news, p.1 ≠ l0 := fun p hp => Nat.ne_of_lt (lt0 p (.tail _ hp))
  clear ltL lt0
  refine Stop.go ?_
  refine For_turns F₃ ?_ (hE := PassesOwn.never)
  ktr_unf
  refine Stop.go ?_
  k_dflt (refine slice3X (by k_asm) (by k_asm) (.tail _ (.tail _ hl)) IsPart.none IsPart.none (IsPart.int _ _) (by decide) (pick_rev vs) (by omega) ?_ (by with_unfolding_all rfl) (by intro _; with_unfolding_all rfl))
  intro Rv h₄ F₄ N₄ ltR
  have dR0 : l0 ≠ Rv := Nat.ne_of_lt (ltR _ (.head _))
  have dRL : La ≠ Rv := Nat.ne_of_lt (ltR _ (.tail _ (.head _)))
  have fR : ∀ p ∈ news, p.1 ≠ Rv := fun p hp => Nat.ne_of_lt (ltR p (.tail _ (.tail _ hp)))
  ktr_unf
  refine Stop.go ?_
  have hRr := hR.reverse
  have hrr : ∀ r ∈ rows.reverse, r.length ≤ 20 := fun r hr => hrows r (List.mem_reverse.mp hr)
  have hrl : vs.reverse.length = rows.length := by rw [List.length_reverse, hln]
  have N₅ := News.sub N₄ (n' := (La, PySem.W.listOf (List.toArray []) 0) :: ([(l0, PySem.W.listOf (List.toArray []) 0)] ++ (Rv, PySem.W.listOf vs.reverse.toArray 0) :: news)) listsP0
  clear N₃ N₄ F₃
  refine forL (fun i m₁ n₁ => ListsJ ((Rv, PySem.W.listOf vs.reverse.toArray 0) :: news) La ((List.range i).map fun i => lowerN rows.reverse (i + 1)) (lowerN rows.reverse i) m₁ n₁) rfl (by k_asm) N₅ (.tail _ (.tail _ (.head _)))
    ⟨[], 0, _, l0, rfl, fun p hp => by rw [List.mem_singleton.mp hp]; exact dL0.symm, fun q hq p hp => by rw [List.mem_singleton.mp hp]; exact offC dR0.symm f0 q hq, .nil, ⟨l0, [], 0, rfl, .head _, .nil⟩, by tb_start, by tb_start⟩ ?_ ?_
  · clear N₅ F₄
    rintro i v I oI m₁ n₁ h₆ tk₆ hv ⟨lv, lc, tl, b, rfl, o1, o2, hLV, hB, e1, e2⟩ hm₁ off F₆ N₆
    obtain ⟨row, hst, ra, rwv, rn, rfl, hra, hrw⟩ := hRr.get' hv
    have hi3 : i < rows.length := by have := (List.getElem?_eq_some_iff.mp hst).1; rw [List.length_reverse] at this; exact this
    have hr20 : row.length ≤ 20 := hrr row (List.mem_of_getElem? hst)
    have hlow := lowerN_len rows.reverse hrr i
    have h4 := (lowerN_four rows.reverse i).ne
    have hrowd : rows.reverse.getD i [] = row := by simp [hst]
    generalize hlowd : lowerN rows.reverse i = low at hB hlow h4
    obtain ⟨_, bw, bn, hbe, hbm, hbw⟩ := hB
    cases hbe
    ktr_unf
    rename_i g2 Ma g3 ltM h₇ F₇ N₇
    have M1 : I ≠ Ma := Nat.ne_of_lt (ltM _ (.head _))
    have M2 : La ≠ Ma := Nat.ne_of_lt (ltM _ (.tail _ (.head _)))
    have M3 : ∀ p ∈ tl ++ (Rv, PySem.W.listOf vs.reverse.toArray 0) :: news, p.1 ≠ Ma := fun p hp => Nat.ne_of_lt (ltM p (.tail _ (.tail _ hp)))
    refine Stop.go ?_
    refine For_turns F₇ ?_ (hE := PassesOwn.never)
    ktr_unf
    refine Stop.go ?_
    clear ltM
    have hb2 : ∃ base2, base2 = (I, oI) :: (La, PySem.W.listOf lv.toArray lc) :: (tl ++ (Rv, PySem.W.listOf vs.reverse.toArray 0) :: news) := ⟨_, rfl⟩
    obtain ⟨base2, hb2⟩ := hb2
    have hraB : (ra, PySem.W.listOf rwv.toArray rn) ∈ base2 := by rw [hb2]; exact .tail _ (.tail _ (List.mem_append_right _ (.tail _ hra)))
    have hbB : (b, PySem.W.listOf bw.toArray bn) ∈ base2 := by rw [hb2]; exact .tail _ (.tail _ (List.mem_append_left _ hbm))
    have tlB : ∀ q ∈ tl, q ∈ base2 := fun q hq => by rw [hb2]; exact .tail _ (.tail _ (List.mem_append_left _ hq))
    have M4 : ∀ p ∈ base2, p.1 ≠ Ma := by rw [hb2]; exact offC M1 (offC M2 M3)
    rw [← hb2] at N₇
    have hrl20 : rwv.length = row.length := hrw.length
    have hbl := hbw.length
    refine forE (fun j m₂ n₂ => MadeJ base2 Ma La ra b (madeA row low j) m₂ n₂) rfl (by k_asm) N₇ (.tail _ hraB) ⟨[], 0, [], rfl, (fun _ h => nomatch h), (fun _ _ _ h => nomatch h), .nil, by tb_start, by tb_start, by tb_start, by tb_start⟩ rfl rfl rfl ?_ ?_
    · rintro j x t J1 J2 oJ1 oJ2 m₂ n₂ h₈ tk₈ hx ⟨mv, mc, tl2, rfl, p1, p2, hM, q1, q2, q3, q4⟩ hm₂ off2 F₈ N₈
      obtain ⟨v0, hv0, tv, rfl⟩ := hrw.get' hx
      have hmA := madeA_len row low j
      have hM4 := (madeA_four row low j).ne
      have hml := hM.length
      have hj20 : j < row.length := (List.getElem?_eq_some_iff.mp hv0).1
      have subB : ∀ q ∈ base2, q ∈ (J1, oJ1) :: (J2, oJ2) :: (Ma, PySem.W.listOf mv.toArray mc) :: (tl2 ++ base2) := fun q hq => .tail _ (.tail _ (.tail _ (List.mem_append_right _ hq)))
      have J1M : J1 ≠ Ma := Ne.symm (off2 _ (.head _)).1
      have J2M : J2 ≠ Ma := Ne.symm (off2 _ (.head _)).2
      have hraA := subB _ hraB
      have hbA := subB _ hbB
      ktr_unf
      refine Stop.go ?_
      k_dflt (refine bl_ints (l := ra) (x := v0) B' (by k_asm) X' (by k_asm) T' rfl hraA hrw.ints (by omega) (by omega) (bd2_50 (X'.keeps (Fr.keep F₈)) _ _) ?_)
      intro t₁ h₉ tk₉ F₉ N₉
      ktr_unf
      refine Stop.go ?_
      k_dflt (refine bl_key (l := b) (ks := low.map fst0) (x := v0) (lo := 0) (hi := bw.length) (hv := .none) (tr := []) (G := fun _ => (J1, oJ1) :: (J2, oJ2) :: (Ma, PySem.W.listOf mv.toArray mc) :: (tl2 ++ base2)) B' (by k_asm) X' N₉ T' rfl (KeyOK.toB (bd := 100) (value_key (fun q hq => subB _ (tlB _ hq)) hbw h4 (by omega))) (fun _ => hbA) (by omega) (Nat.le_refl _) (by show 0 + (bw.length - 0) ≤ 100; omega) (.inl ⟨rfl, rfl⟩) (by omega) (bd2k_50 (X'.keeps (Fr.keep F₉)) _ _ _) ?_)
      intro t₂ h₁₀ tk₁₀ F₁₀ N₁₀
      ktr_unf
      rename_i en g4 lt4 h₁₁ F₁₁ N₁₁
      refine Stop.go ?_
      obtain ⟨oe, N₁₁, hE⟩ : ∃ oe, News g L' h₁₁ ((en, oe) :: (J1, oJ1) :: (J2, oJ2) :: (Ma, PySem.W.listOf mv.toArray mc) :: (tl2 ++ base2)) ∧ ∀ led, (en, oe) ∈ led → RL RI led (.ref en) (entryF row low v0 ((j : Int) + 1)) :=
        ⟨_, N₁₁, fun led hm => entry_ok rfl (bisL_of (by rw [List.length_map, hbl])) hm⟩
      have E1 : J1 ≠ en := Nat.ne_of_lt (lt4 _ (.head _))
      have E2 : J2 ≠ en := Nat.ne_of_lt (lt4 _ (.tail _ (.head _)))
      have E3 : Ma ≠ en := Nat.ne_of_lt (lt4 _ (.tail _ (.tail _ (.head _))))
      have E4 : ∀ q ∈ base2, q.1 ≠ en := fun q hq => Nat.ne_of_lt (lt4 _ (.tail _ (.tail _ (.tail _ (List.mem_append_right _ hq)))))
      clear lt4
      have N₁₂ := News.sub N₁₁ permA1
      k_dflt (refine ir_key (l := Ma) (vs := mv) (ks := (madeA row low j).map fst0) (x := fst0 (entryF row low v0 ((j : Int) + 1))) (xv := .ref en) B' (by k_asm) X' N₁₂ T' rfl (offC E3.symm (offC J1M (offC J2M (offA p1 M4)))) (by omega) (by omega) (value_key (news := tl2) (fun q hq => .tail _ (.tail _ (.tail _ (.tail _ (List.mem_append_left _ hq))))) hM hM4 (by omega)) (value_key1 (news := [(en, oe)]) (fun q hq => by rw [List.mem_singleton.mp hq]; exact .tail _ (.head _)) (hE _ (.head _)) (List.cons_ne_nil _ _) (by omega)) (bd2k_23 (X'.keeps (Fr.keep F₁₁)) _ _ _) ?_)
      intro h₁₃ tk₁₃ F₁₃ N₁₃
      rw [bisR_of (by rw [List.length_map, hml])] at N₁₃
      ktr_unf
      exact EPost.next F₁₃ N₁₃ _ permA2 (fun q hq => by
        rcases List.mem_cons.mp hq with rfl | hq
        · exact ⟨J1M.symm, J2M.symm⟩
        · rcases List.mem_append.mp hq with hq | hq
          · rcases List.mem_cons.mp hq with rfl | hq
            · exact ⟨E1.symm, E2.symm⟩
            · exact off2 _ (.tail _ (List.mem_append_left _ hq))
          · exact off2 _ (.tail _ (List.mem_append_right _ hq))) (.tail _ (List.mem_append_right _ hraB))
        ⟨_, _, (en, oe) :: tl2, rfl, (fun q hq => by
          rcases List.mem_cons.mp hq with rfl | hq
          · exact E3.symm
          · exact p1 q hq), (fun q hq => offS (E4 q hq) (p2 q hq)), (madeA_step hv0).symm ▸ insR_ok (hM.mono (RL.mono RI.mono) (fun q hq => .tail _ hq)) (hE _ (.head _)), by tb_start, by tb_start, by tb_start, by tb_start⟩
    · clear N₇ F₇
      rintro m₂ n₂ h₁₄ tk₁₄ ⟨mvA, mcA, tlA, rfl, pA1, pA2, hMA, q1, q2, q3, q4⟩ F₁₄ N₁₄
      rw [hrl20] at hMA
      ktr_unf
      refine Stop.go ?_
      refine For_turns F₁₄ ?_ (hE := PassesOwn.never)
      ktr_unf
      refine Stop.go ?_
      k_dflt (refine slice3X (by k_asm) N₁₄ (.tail _ (List.mem_append_right _ hbB)) (IsPart.int _ _) IsPart.none (IsPart.int _ _) (by decide) (pick_odds bw) (by omega) ?_ (by with_unfolding_all rfl) (by intro _; with_unfolding_all rfl))
      intro Od h₁₅ F₁₅ N₁₅ ltO
      have D1 : Ma ≠ Od := Nat.ne_of_lt (ltO _ (.head _))
      have D2 : ∀ q ∈ tlA, q.1 ≠ Od := fun q hq => Nat.ne_of_lt (ltO _ (.tail _ (List.mem_append_left _ hq)))
      have D3 : ∀ q ∈ base2, q.1 ≠ Od := fun q hq => Nat.ne_of_lt (ltO _ (.tail _ (List.mem_append_right _ hq)))
      have M5 : ∀ p ∈ (Od, PySem.W.listOf (odds bw).toArray 0) :: base2, p.1 ≠ Ma := offC D1.symm M4
      have N₁₆ := News.sub N₁₅ permB0
      clear N₁₅ N₁₄ ltO
      ktr_unf
      refine Stop.go ?_
      refine forE (fun j m₂ n₂ => MadeJ ((Od, PySem.W.listOf (odds bw).toArray 0) :: base2) Ma La ra b (madeB row low (madeA row low row.length) j) m₂ n₂) rfl (by k_asm) N₁₆ (.tail _ (List.mem_append_right _ (.head _)))
        ⟨mvA, mcA, tlA, rfl, pA1, (fun q hq p hp => by
          rcases List.mem_cons.mp hq with rfl | hq
          · exact (D2 p hp).symm
          · exact pA2 q hq p hp), hMA, q1, q2, q3, q4⟩ rfl rfl rfl ?_ ?_
      · clear hMA pA2 pA1 N₁₆ F₁₅ F₁₄ q1 q2 q3 q4 D2
        rintro j x t J1 J2 oJ1 oJ2 m₂ n₂ h₈ tk₈ hx ⟨mv, mc, tl2, rfl, p1, p2, hM, q1, q2, q3, q4⟩ hm₂ off2 F₈ N₈
        obtain ⟨ce, hce, ca, cwv, cn', rfl, hca, hcw⟩ := hbw.odds.get' hx
        obtain ⟨tv, hcw0⟩ := hcw.first (h4 ce (odds_mem (List.mem_of_getElem? hce)))
        have hstep := madeB_step (row := row) (m1 := madeA row low row.length) hce
        generalize fst0 ce = v0 at hcw0 hstep
        have hmB := madeB_len row low (madeA row low row.length) j
        have hmA := madeA_len row low row.length
        have hM4 := (madeB_four row low _ (madeA_four row low row.length) j).ne
        have hml := hM.length
        have hjl : j < low.length / 2 := by have := (List.getElem?_eq_some_iff.mp hce).1; rw [odds_len] at this; exact this
        have subB : ∀ q ∈ base2, q ∈ (J1, oJ1) :: (J2, oJ2) :: (Ma, PySem.W.listOf mv.toArray mc) :: (tl2 ++ (Od, PySem.W.listOf (odds bw).toArray 0) :: base2) := fun q hq => .tail _ (.tail _ (.tail _ (List.mem_append_right _ (.tail _ hq))))
        have J1M : J1 ≠ Ma := Ne.symm (off2 _ (.head _)).1
        have J2M : J2 ≠ Ma := Ne.symm (off2 _ (.head _)).2
        have hraA := subB _ hraB
        have hbA := subB _ hbB
        have hcaA := subB _ (tlB _ hca)
        ktr_unf
        refine Stop.go ?_
        k_dflt (refine itemL (by k_asm) hcaA (by decide) (by decide) hcw0 ?_)
        ktr_unf
        refine Stop.go ?_
        k_dflt (refine bl_ints (l := ra) (x := v0) B' (by k_asm) X' (by k_asm) T' rfl hraA hrw.ints (by omega) (by omega) (bd2_50 (X'.keeps (Fr.keep (by k_asm))) _ _) ?_)
        intro t₁ h₉ tk₉ F₉ N₉
        ktr_unf
        refine Stop.go ?_
        k_dflt (refine bl_key (l := b) (ks := low.map fst0) (x := v0) (lo := 0) (hi := bw.length) (hv := .none) (tr := []) (G := fun _ => (J1, oJ1) :: (J2, oJ2) :: (Ma, PySem.W.listOf mv.toArray mc) :: (tl2 ++ (Od, PySem.W.listOf (odds bw).toArray 0) :: base2)) B' (by k_asm) X' N₉ T' rfl (KeyOK.toB (bd := 100) (value_key (fun q hq => subB _ (tlB _ hq)) hbw h4 (by omega))) (fun _ => hbA) (by omega) (Nat.le_refl _) (by show 0 + (bw.length - 0) ≤ 100; omega) (.inl ⟨rfl, rfl⟩) (by omega) (bd2k_50 (X'.keeps (Fr.keep F₉)) _ _ _) ?_)
        intro t₂ h₁₀ tk₁₀ F₁₀ N₁₀
        ktr_unf
        rename_i en g4 lt4 h₁₁ F₁₁ N₁₁
        refine Stop.go ?_
        obtain ⟨oe, N₁₁, hE⟩ : ∃ oe, News g L' h₁₁ ((en, oe) :: (J1, oJ1) :: (J2, oJ2) :: (Ma, PySem.W.listOf mv.toArray mc) :: (tl2 ++ (Od, PySem.W.listOf (odds bw).toArray 0) :: base2)) ∧ ∀ led, (en, oe) ∈ led → RL RI led (.ref en) (entryF row low v0 (-1 - (j : Int))) :=
          ⟨_, N₁₁, fun led hm => entry_ok rfl (bisL_of (by rw [List.length_map, hbl])) hm⟩
        have E1 : J1 ≠ en := Nat.ne_of_lt (lt4 _ (.head _))
        have E2 : J2 ≠ en := Nat.ne_of_lt (lt4 _ (.tail _ (.head _)))
        have E3 : Ma ≠ en := Nat.ne_of_lt (lt4 _ (.tail _ (.tail _ (.head _))))
        have E4 : ∀ q ∈ (Od, PySem.W.listOf (odds bw).toArray 0) :: base2, q.1 ≠ en := fun q hq => Nat.ne_of_lt (lt4 _ (.tail _ (.tail _ (.tail _ (List.mem_append_right _ hq)))))
        clear lt4
        have N₁₂ := News.sub N₁₁ permA1
        k_dflt (refine il_key (l := Ma) (vs := mv) (ks := (madeB row low (madeA row low row.length) j).map fst0) (x := fst0 (entryF row low v0 (-1 - (j : Int)))) (xv := .ref en) B' (by k_asm) X' N₁₂ T' rfl (offC E3.symm (offC J1M (offC J2M (offA p1 M5)))) (by omega) (by omega) (value_key (news := tl2) (fun q hq => .tail _ (.tail _ (.tail _ (.tail _ (List.mem_append_left _ hq))))) hM hM4 (by omega)) (value_key1 (news := [(en, oe)]) (fun q hq => by rw [List.mem_singleton.mp hq]; exact .tail _ (.head _)) (hE _ (.head _)) (List.cons_ne_nil _ _) (by omega)) (bd2k_41 (X'.keeps (Fr.keep F₁₁)) _ _ _) ?_)
        intro h₁₃ tk₁₃ F₁₃ N₁₃
        rw [bisL_of (by rw [List.length_map, hml])] at N₁₃
        ktr_unf
        exact EPost.next F₁₃ N₁₃ _ permA2 (fun q hq => by
          rcases List.mem_cons.mp hq with rfl | hq
          · exact ⟨J1M.symm, J2M.symm⟩
          · rcases List.mem_append.mp hq with hq | hq
            · rcases List.mem_cons.mp hq with rfl | hq
              · exact ⟨E1.symm, E2.symm⟩
              · exact off2 _ (.tail _ (List.mem_append_left _ hq))
            · exact off2 _ (.tail _ (List.mem_append_right _ hq))) (.tail _ (List.mem_append_right _ (.head _)))
          ⟨_, _, (en, oe) :: tl2, rfl, (fun q hq => by
            rcases List.mem_cons.mp hq with rfl | hq
            · exact E3.symm
            · exact p1 q hq), (fun q hq => offS (E4 q hq) (p2 q hq)), hstep.symm ▸ insL_ok (hM.mono (RL.mono RI.mono) (fun q hq => .tail _ hq)) (hE _ (.head _)), by tb_start, by tb_start, by tb_start, by tb_start⟩
      · rintro m₂ n₂ h₁₇ tk₁₇ ⟨mvB, mcB, tlB2, rfl, pB1, pB2, hMB, q1, q2, q3, q4⟩ F₁₇ N₁₇
        clear N₁₆ F₁₅ F₁₄ hMA
        have hodl : (odds bw).length = (odds low).length := hbw.odds.length
        rw [hodl] at hMB
        have hMB : RA (RL RI) tlB2 mvB (madeF row low) := hMB
        have hlvl : lv.length = i := by have := hLV.length; rw [List.length_map, List.length_range] at this; exact this
        subst hb2
        have hnext : lowerN rows.reverse (i + 1) = madeF row low := by rw [lowerN, hrowd, hlowd]
        have hLaM : (La, PySem.W.listOf lv.toArray lc) ∈ (Ma, PySem.W.listOf mvB.toArray mcB) :: (tlB2 ++ (Od, PySem.W.listOf (odds bw).toArray 0) :: (I, oI) :: (La, PySem.W.listOf lv.toArray lc) :: (tl ++ (Rv, PySem.W.listOf vs.reverse.toArray 0) :: news)) := .tail _ (List.mem_append_right _ (.tail _ (.tail _ (.head _))))
        ktr_unf
        refine Stop.go ?_
        have N₁₈ := News.sub N₁₇ permB1
        have tB : ∀ x ∈ (Od, PySem.W.listOf (odds bw).toArray 0) :: (I, oI) :: (La, PySem.W.listOf lv.toArray lc) :: (tl ++ (Rv, PySem.W.listOf vs.reverse.toArray 0) :: news), ∀ p ∈ tlB2, p.1 ≠ x.1 := fun x hx p hp => (pB2 x hx p hp).symm
        have LI : La ≠ I := off _ (.head _)
        have tBL : ∀ p ∈ tlB2, p.1 ≠ La := tB _ (.tail _ (.tail _ (.head _)))
        have tBI : ∀ p ∈ tlB2, p.1 ≠ I := tB _ (.tail _ (.head _))
        have dOL : Od ≠ La := (D3 _ (.tail _ (.head _))).symm
        have dOI : Od ≠ I := (D3 _ (.head _)).symm
        have offLa : ∀ p ∈ (I, oI) :: (Ma, PySem.W.listOf mvB.toArray mcB) :: (Od, PySem.W.listOf (odds bw).toArray 0) :: (tlB2 ++ (tl ++ (Rv, PySem.W.listOf vs.reverse.toArray 0) :: news)), p.1 ≠ La := offC LI.symm (offC M2.symm (offC dOL (offA tBL (offA o1 (offC dRL.symm fL)))))
        k_dflt (refine appendL (l := La) (vs := lv) (n := lc) F₁₇ N₁₈ offLa (by omega) ?_)
        intro h₁₉ F₁₉ N₁₉
        ktr_unf
        refine LPost.next (by k_asm) (by k_asm) _ permB2 (offC LI (offA (offC M1.symm (offC dOI (offA tBI (fun q hq => off _ (.tail _ (List.mem_append_left _ hq)))))) (fun q hq => off _ (.tail _ (List.mem_append_right _ hq)))))
          (.tail _ (List.mem_append_right _ (.head _)))
          ⟨_, _, (Ma, PySem.W.listOf mvB.toArray mcB) :: (Od, PySem.W.listOf (odds bw).toArray 0) :: (tlB2 ++ tl), Ma, rfl, offC M2.symm (offC dOL (offA tBL o1)), (fun q hq => offS (M3 q (List.mem_append_right _ hq)) (offS (D3 q (.tail _ (.tail _ (List.mem_append_right _ hq)))) (fun p hp => by
            rcases List.mem_append.mp hp with hp | hp
            · exact pB2 q (.tail _ (.tail _ (.tail _ (List.mem_append_right _ hq)))) p hp
            · exact o2 q hq p hp))), ?_, ⟨Ma, mvB, mcB, rfl, .head _, ?_⟩, by tb_start, by tb_start⟩
        · rw [List.range_succ, List.map_append]
          refine (hLV.mono (RL.mono (RL.mono RI.mono)) (fun q hq => .tail _ (.tail _ (List.mem_append_right _ hq)))).append (.cons ⟨Ma, mvB, mcB, rfl, .head _, ?_⟩ .nil)
          show RA (RL RI) _ mvB (lowerN rows.reverse (i + 1))
          rw [hnext]
          exact hMB.mono (RL.mono RI.mono) (fun q hq => .tail _ (.tail _ (List.mem_append_left _ hq)))
        · rw [lowerN, hrowd, hlowd]
          exact hMB.mono (RL.mono RI.mono) (fun q hq => .tail _ (.tail _ (List.mem_append_left _ hq)))
  · rintro m₂ n₂ h₈ tk₈ ⟨lv, lc, tl, b, rfl, o1, o2, hLV, hB, e1, e2⟩ F₈ N₈
    rw [hrl] at hLV
    clear N₅ F₄
    ktr_unf
    refine Back.mk (by k_asm) (News.sub N₈ (n' := ((La, PySem.W.listOf lv.toArray lc) :: (tl ++ [(Rv, PySem.W.listOf vs.reverse.toArray 0)])) ++ news) permB3) (fun F N => ret (.ref La) _ _ _ F N (fun q hq => offS (fL q hq) (fun p hp => by
      rcases List.mem_append.mp hp with hp | hp
      · exact o2 q (.tail _ hq) p hp
      · rw [List.mem_singleton.mp hp]; exact fR q hq)) ⟨La, lv, lc, rfl, .head _, hLV.mono (RL.mono (RL.mono RI.mono)) (fun q hq => .tail _ (List.mem_append_left _ hq))⟩)
end
end
section
theorem offE01e : True := by
  w_top off
  trivial
local macro_rules | `(tactic| walk_at "subscriptTail Name Slice ref ref") => `(tactic| (refine Stop.at ?_))
local macro_rules | `(tactic| walk_at "call builtin:list.extend") => `(tactic| (refine Stop.at ?_))
abbrev ltI : Int → Int → Bool := fun x y => decide (x < y)
/-- the pairs of value and mark -/
noncomputable def pairsA (row : List Int) (i : Nat) : List (Int × Int) := (List.range i).map fun k => (row.getD k 0, (k : Int) + 1)
noncomputable def pairsB (lo : List Int) (i : Nat) : List (Int × Int) := (List.range i).map fun k => ((odds lo).getD k 0, -1 - (k : Int))
noncomputable def bothF (row lo : List Int) : List (Int × Int) := isort (lexP ltI ltI) (pairsA row row.length ++ pairsB lo (odds lo).length)
noncomputable def dueEntry (row lo : List Int) (p : Int × Int) : List Int := [p.1, (lessN row p.1 : Nat), (lessN lo p.1 : Nat), p.2]
noncomputable def dueLowN (rr : List (List Int)) : Nat → List Int
  | 0 => []
  | i + 1 => (bothF (rr.getD i []) (dueLowN rr i)).map (·.1)
noncomputable def dueF (rows : List (List Int)) : List (List (List Int)) := (List.range rows.length).map fun i => (bothF (rows.reverse.getD i []) (dueLowN rows.reverse i)).map (dueEntry (rows.reverse.getD i []) (dueLowN rows.reverse i))
theorem bothF_len (row lo : List Int) : (bothF row lo).length = row.length + lo.length / 2 := by
  unfold bothF
  rw [(isort_perm _).length_eq, List.length_append]
  unfold pairsA pairsB
  rw [List.length_map, List.length_map, List.length_range, List.length_range, odds_len]
theorem dueLowN_len (rr : List (List Int)) (h : ∀ r ∈ rr, r.length ≤ 20) : ∀ i, (dueLowN rr i).length ≤ 20 * i
  | 0 => Nat.le_refl _
  | i + 1 => by
    have h1 := dueLowN_len rr h i
    have h2 : (rr.getD i []).length ≤ 20 := by
      by_cases hi : i < rr.length
      · have : rr.getD i [] = rr[i] := by simp [hi]
        rw [this]; exact h _ (List.getElem_mem hi)
      · have : rr.getD i [] = [] := by simp [hi]
        rw [this]; simp
    rw [dueLowN, List.length_map, bothF_len]
    omega
/-- a list of pairs that is being made by a comprehension -/
noncomputable def PairsJ (base : Led) (f : Nat → Int × Int) (i : Nat) (ys : List Value) (n₁ : Led) : Prop :=
  ∃ tl, n₁ = tl ++ base ∧ (∀ q ∈ base, ∀ p ∈ tl, q.1 ≠ p.1) ∧ RA (RP RI RI) tl ys ((List.range i).map f)
/-- the state of the loop over the rows -/
noncomputable def DueJ (base : Led) (La cR cL : Addr) (lists : List (List (List Int))) (low : List Int) (m₁ : Str → Option Value) (n₁ : Led) : Prop :=
  ∃ lv c tl b oR oL wR, n₁ = (La, PySem.W.listOf (List.toArray lv) c) :: (cR, oR) :: (cL, oL) :: (tl ++ base) ∧ (∀ p ∈ tl, p.1 ≠ La ∧ p.1 ≠ cR ∧ p.1 ≠ cL) ∧ (∀ q ∈ base, ∀ p ∈ tl, q.1 ≠ p.1) ∧ RA (RL (RL RI)) tl lv lists ∧ RL RI tl (.ref b) low ∧
    oR.data = .cell wR ∧ oL.data = .cell (some (.ref b)) ∧ m₁ (Str.ofString "lists") = some (.ref La)
theorem dueP0 {x y z u : Addr × Obj} {r : Led} : ∀ q ∈ u :: x :: y :: z :: r, q ∈ x :: y :: z :: u :: r := fun q hq => by
  simp only [List.mem_cons] at hq ⊢; grind
theorem dueP1 {x y z u v : Addr × Obj} {r : Led} : ∀ q ∈ z :: u :: x :: ([y] ++ v :: r), q ∈ v :: x :: y :: z :: u :: r := fun q hq => by
  simp only [List.mem_cons, List.mem_append, List.not_mem_nil, or_false] at hq ⊢; grind
theorem dueP2 {i l r o : Addr × Obj} {t : Led} : ∀ q ∈ r :: i :: l :: o :: t, q ∈ i :: l :: r :: o :: t := fun q hq => by
  simp only [List.mem_cons] at hq ⊢; grind
theorem enumEnd1 {h₀ : Heap} {L : Addr} {m : Str → Option Value} {s : Shared} {e it C D en : Addr} {oe oi oC oD ox : Obj} {l : Addr × Obj} {J : Value → Led → Prop} {y : Value} {h' : Heap} {tk : Nat} {n₁ : Led}
    (F : Fr h₀ L h' m) (N : News h₀ L h' ((en, ox) :: (e, oe) :: (it, oi) :: (C, oC) :: (D, oD) :: n₁)) (lt : ∀ p ∈ (e, oe) :: (it, oi) :: (C, oC) :: (D, oD) :: n₁, p.1 < en)
    (off : ∀ p ∈ n₁, p.1 ≠ e ∧ p.1 ≠ it ∧ p.1 ≠ C ∧ p.1 ≠ D) (hm : l ∈ n₁) (hJ : J y ((en, ox) :: n₁)) : EnumEndG h₀ L m s e it C D oe oi oC oD l J y { s with heap := h', toks := tk } := by
  refine ⟨h', tk, (en, ox) :: n₁, rfl, F, News.sub N (fun q hq => ?_), fun p hp => ?_, .tail _ hm, hJ⟩
  · simp only [List.mem_cons] at hq ⊢; grind
  · rcases List.mem_cons.mp hp with rfl | hp
    · exact ⟨Nat.ne_of_gt (lt _ (.head _)), Nat.ne_of_gt (lt _ (.tail _ (.head _))), Nat.ne_of_gt (lt _ (.tail _ (.tail _ (.head _)))), Nat.ne_of_gt (lt _ (.tail _ (.tail _ (.tail _ (.head _)))))⟩
    · exact off p hp
theorem pairs_next {base tl2 : Led} {f : Nat → Int × Int} {j : Nat} {ys : List Value} {en : Addr} {a b : Int} {t1 t2 : Tok} {n : Nat} (o : ∀ q ∈ base, ∀ p ∈ tl2, q.1 ≠ p.1) (hY : RA (RP RI RI) tl2 ys ((List.range j).map f)) (hb : ∀ q ∈ base, q.1 ≠ en) (hf : f j = (a, b)) :
    PairsJ base f (j + 1) (ys ++ [.ref en]) ((en, PySem.W.listOf (List.toArray [Value.int a t1, .int b t2]) n) :: (tl2 ++ base)) := by
  refine ⟨(en, _) :: tl2, rfl, fun q hq => offS (hb q hq) (o q hq), ?_⟩
  rw [List.range_succ, List.map_append]
  refine (hY.mono (RP.mono RI.mono RI.mono) (fun q hq => .tail _ hq)).append ?_
  rw [List.map_cons, List.map_nil, hf]
  exact .cons ⟨en, _, _, n, rfl, .head _, ⟨_, rfl⟩, ⟨_, rfl⟩⟩ .nil
theorem dueP3 {x o y : Addr × Obj} {tb ta r : Led} : ∀ q ∈ y :: x :: o :: (tb ++ (ta ++ r)), q ∈ x :: (tb ++ (o :: y :: (ta ++ r))) := fun q hq => by
  simp only [List.mem_cons, List.mem_append] at hq ⊢; grind
theorem dueP4 {d b x o c i l k : Addr × Obj} {t3 tb ta tl r : Led} : ∀ q ∈ l :: d :: b :: x :: o :: c :: i :: k :: (t3 ++ (tb ++ (ta ++ (tl ++ r)))), q ∈ d :: (t3 ++ (b :: x :: o :: (tb ++ (ta ++ (c :: i :: l :: k :: (tl ++ r)))))) := fun q hq => by
  simp only [List.mem_cons, List.mem_append] at hq ⊢; grind
theorem dueP5 {u d b x o c i l k : Addr × Obj} {ts : Led} : ∀ q ∈ k :: l :: u :: d :: b :: x :: o :: c :: i :: ts, q ∈ u :: l :: d :: b :: x :: o :: c :: i :: k :: ts := fun q hq => by
  simp only [List.mem_cons] at hq ⊢; grind
theorem dueP6 {u d b x o c i l k : Addr × Obj} {t3 tb ta tl r : Led} : ∀ q ∈ i :: l :: c :: k :: ((u :: d :: b :: x :: o :: (t3 ++ (tb ++ (ta ++ tl)))) ++ r), q ∈ k :: l :: u :: d :: b :: x :: o :: c :: i :: (t3 ++ (tb ++ (ta ++ (tl ++ r)))) := fun q hq => by
  simp only [List.mem_cons, List.mem_append, List.cons_append] at hq ⊢; grind
/-- the list of first numbers, as it is being made -/
theorem ask_pairs {prog : Program} {w : World} {A : Around} {led : Led} {s : Shared} {h₀ : Heap} {L : Addr} {v u : Value} {x y : Int × Int} {C : Bool → Shared → Prop} (hu : A.units + 5 < cLine) (hN : News h₀ L s.heap led) (hv : RP RI RI led v x) (hw : RP RI RI led u y) (hC : C (lexP ltI ltI x y) s) :
    wpAny (model prog w) A (keyLt' oneType' v u) C (fun _ _ => False) s := RP.ask (d := 4) (RI.eqR 4) (RI.eqR 4) (RI.ltR 4) (RI.ltR 4) hN hv hw hu hC
theorem pair_items {h₀ h : Heap} {L : Addr} {led news : Led} {vs : List Value} {ps : List (Int × Int)} {j : Nat} {t : Addr} {v1 v2 : Value} {k : Nat} (N : News h₀ L h news) (sub : ∀ q ∈ led, q ∈ news) (h2 : RA (RP RI RI) led vs ps) (hx : vs[j]? = some (.ref t)) (hm : (t, PySem.W.listOf (List.toArray [v1, v2]) k) ∈ news) :
    ∃ p t1 t2, ps[j]? = some p ∧ v1 = .int p.1 t1 ∧ v2 = .int p.2 t2 := by
  obtain ⟨p, hp, a, w1, w2, n, e, hm', ⟨t1, h1⟩, ⟨t2, h2⟩⟩ := h2.get' hx
  cases e
  have := seq_inj N hm (sub _ hm')
  injection this with e1 e2
  injection e2 with e2 _
  exact ⟨p, t1, t2, hp, e1.trans h1, e2.trans h2⟩
theorem compEnd1 {h₀ : Heap} {L : Addr} {m : Str → Option Value} {I C D en : Addr} {s₁ : Shared} {oI oC oD ox : Obj} {S : Led → Prop} {rest : Value → Led → Prop} {y : Value} {h' : Heap} {tk : Nat} {n₁ : Led} (F : Fr h₀ L h' m) (N : News h₀ L h' ((en, ox) :: (I, oI) :: (C, oC) :: (D, oD) :: n₁))
    (lt : ∀ p ∈ (I, oI) :: (C, oC) :: (D, oD) :: n₁, p.1 < en) (off : ∀ p ∈ n₁, p.1 ≠ I ∧ p.1 ≠ C ∧ p.1 ≠ D) (hS : S ((en, ox) :: n₁)) (r : rest y ((en, ox) :: n₁)) :
    LCg.CompEnd h₀ L m s₁ I oI C oC D oD S rest y { s₁ with heap := h', toks := tk } := by
  refine compEnd F N ((en, ox) :: n₁) (fun q hq => ?_) (fun p hp => ?_) hS r
  · simp only [List.mem_cons] at hq ⊢; grind
  · rcases List.mem_cons.mp hp with rfl | hp
    · exact ⟨Nat.ne_of_gt (lt _ (.head _)), Nat.ne_of_gt (lt _ (.tail _ (.head _))), Nat.ne_of_gt (lt _ (.tail _ (.tail _ (.head _))))⟩
    · exact off p hp
theorem due_entry_ok {led : Led} {row low : List Int} {p : Int × Int} {t0 t1 t2 t3 : Tok} {en : Addr} {c : Nat} (hm : (en, PySem.W.listOf (List.toArray [Value.int p.1 t0, .int (lessN row p.1 : Nat) t1, .int (lessN low p.1 : Nat) t2, .int p.2 t3]) c) ∈ led) : RL RI led (.ref en) (dueEntry row low p) :=
  ⟨en, _, c, rfl, hm, .cons ⟨_, rfl⟩ (.cons ⟨_, rfl⟩ (.cons ⟨_, rfl⟩ (.cons ⟨_, rfl⟩ .nil)))⟩
theorem dueP7 {l c k o : Addr × Obj} {tl r : Led} : ∀ q ∈ (l :: (tl ++ [o])) ++ r, q ∈ l :: c :: k :: (tl ++ (o :: r)) := fun q hq => by
  simp only [List.mem_cons, List.mem_append, List.cons_append, List.not_mem_nil, or_false] at hq ⊢; grind
section
variable {w : World} {dp un : Nat} {gd : Option (List Code)} {cn : Str} {cs : Scope} {L a : Addr} {ccd : Value} {cl : List (Str × Addr)} {outer : List Env} {A₀ : Around} {base h₀ : Heap}
  {m : Str → Option Value} {news : Led} {s : Shared} {Q E : Value → Shared → Prop} {p : Program} {loose : List Str} {mean : ExcName → Option Value} {mg mb : Str → Option Value}
set_option maxRecDepth 100000 in
set_option maxHeartbeats 40000000 in
theorem due_call {l : Addr} {vs : List Value} {n : Nat} {rows : List (List Int)}
    (B : Below A₀ base outer h₀) (F : Fr h₀ L s.heap m) (X : (top.heap_39 w.params).In h₀) (N : News h₀ L s.heap news) (T : Top p loose mean mg mb h₀) (hk : cs.kind = .function)
    (hl : (l, PySem.W.listOf vs.toArray n) ∈ news) (hR : RA (RL RI) news vs rows) (hlen : rows.length ≤ 3) (hrows : ∀ r ∈ rows, r.length ≤ 20) (hdp : dp + 5 ≤ 400) (hun : un + 60 ≤ 5000)
    (ret : ∀ r tl h' tk', Fr h₀ L h' m → News h₀ L h' (tl ++ news) → (∀ q ∈ news, ∀ p ∈ tl, q.1 ≠ p.1) → RL (RL (RL RI)) tl r (dueF rows) → Q r { s with heap := h', toks := tk' }) :
    wpAny (model PySem.Challenge.rw_pe0007_01.row.prog w) (ktrTop dp un gd cn cs L a ccd cl outer) (call (.ref 88) [.ref l]) Q E s := by
  (have X' := X; revert X'; k_fill; intro hX9; clear hX9)
  k_dflt (refine' enterC (binds := [((Str.ofString "rows"), .ref l)]) (fun L => [((Str.ofString "row"), L + 2), ((Str.ofString "lower"), L + 1)]) B F X N T hk ?ho ?hcd (by omega) ?hb ?hl ?cls ?hc ?co ?ge ?hk ?_; (case ho => k_is); (case hcd => k_is); (case hb => exact BindsTo.of_eq rfl); (case hl => rfl); (case cls => exact fun _ => rfl); (case hc => decide); (case co => rfl); (case ge => rfl); (case hk => rfl))
  intro g L' h₁ tk cells F' N' Y' B' X' T' lt'
  k_fold
  have hln := hR.length
  have hcL := cLine_is
  obtain ⟨oR, oL, rfl, dR, dL⟩ := CellsAre.two Y'
  have oc1 : ∀ p ∈ news, p.1 ≠ L' + 1 := fun p hp => Nat.ne_of_lt (Nat.lt_succ_of_lt (lt' p hp))
  have oc2 : ∀ p ∈ news, p.1 ≠ L' + 2 := fun p hp => Nat.ne_of_lt (Nat.lt_succ_of_lt (Nat.lt_succ_of_lt (lt' p hp)))
  have c12 : L' + 2 ≠ L' + 1 := Nat.ne_of_gt (Nat.lt_succ_self _)
  have N' : News g L' h₁ ((L' + 2, oR) :: (L' + 1, oL) :: news) := N'
  clear Y'
  ktr_unf
  rename_i La g0 ltL g1 Fx Nx l0 h₃ F₃ N₃ lt0
  have dL0 : La ≠ l0 := Nat.ne_of_lt (lt0 _ (.head _))
  have d20 : L' + 2 ≠ l0 := Nat.ne_of_lt (lt0 _ (.tail _ (.head _)))
  have d10 : L' + 1 ≠ l0 := Nat.ne_of_lt (lt0 _ (.tail _ (.tail _ (.head _))))
  have d2L : L' + 2 ≠ La := Nat.ne_of_lt (ltL _ (.head _))
  have d1L : L' + 1 ≠ La := Nat.ne_of_lt (ltL _ (.tail _ (.head _)))
  have fL : ∀ p ∈ news, p.1 ≠ La := fun p hp => Nat.ne_of_lt (ltL p (.tail _ (.tail _ hp)))
  have f0 : ∀ p ∈ news, p.1 ≠ l0 := fun p hp => Nat.ne_of_lt (lt0 p (.tail _ (.tail _ (.tail _ hp))))
  have N₄ := News.sub N₃ dueP0
  clear Fx Nx ltL lt0 N₃
  refine Stop.go ?_
  refine storeC F₃ N₄ (offC d10.symm (offC d1L.symm (offC c12 oc1))) rfl dL ?_ rfl rfl
  clear dL N₄ F₃
  intro h₅ oL F₅ N₅ dL
  ktr_unf
  refine Stop.go ?_
  refine For_turns F₅ ?_ (hE := PassesOwn.never)
  ktr_unf
  refine Stop.go ?_
  k_dflt (refine slice3X (by k_asm) (by k_asm) (.tail _ (.tail _ (.tail _ (.tail _ hl)))) IsPart.none IsPart.none (IsPart.int _ _) (by decide) (pick_rev vs) (by omega) ?_ (by with_unfolding_all rfl) (by intro _; with_unfolding_all rfl))
  intro Rv h₆ F₆ N₆ ltR
  have dR1 : L' + 1 ≠ Rv := Nat.ne_of_lt (ltR _ (.head _))
  have dR0 : l0 ≠ Rv := Nat.ne_of_lt (ltR _ (.tail _ (.head _)))
  have dRL : La ≠ Rv := Nat.ne_of_lt (ltR _ (.tail _ (.tail _ (.head _))))
  have dR2 : L' + 2 ≠ Rv := Nat.ne_of_lt (ltR _ (.tail _ (.tail _ (.tail _ (.head _)))))
  have fR : ∀ p ∈ news, p.1 ≠ Rv := fun p hp => Nat.ne_of_lt (ltR p (.tail _ (.tail _ (.tail _ (.tail _ hp)))))
  ktr_unf
  refine Stop.go ?_
  have hRr := hR.reverse
  have hrr : ∀ r ∈ rows.reverse, r.length ≤ 20 := fun r hr => hrows r (List.mem_reverse.mp hr)
  have hrl : vs.reverse.length = rows.length := by rw [List.length_reverse, hln]
  have N₇ : News g L' h₆ ((La, PySem.W.listOf (List.toArray []) 0) :: (L' + 2, oR) :: (L' + 1, oL) :: ([(l0, PySem.W.listOf (List.toArray []) 0)] ++ (Rv, PySem.W.listOf vs.reverse.toArray 0) :: news)) := News.sub N₆ dueP1
  clear N₅ N₆ F₅ ltR
  refine forL (fun i m₁ n₁ => DueJ ((Rv, PySem.W.listOf vs.reverse.toArray 0) :: news) La (L' + 2) (L' + 1) ((List.range i).map fun i => (bothF (rows.reverse.getD i []) (dueLowN rows.reverse i)).map (dueEntry (rows.reverse.getD i []) (dueLowN rows.reverse i))) (dueLowN rows.reverse i) m₁ n₁) rfl (by k_asm) N₇ (.tail _ (.tail _ (.tail _ (.tail _ (.head _)))))
    ⟨[], 0, _, l0, _, _, _, rfl, fun p hp => by rw [List.mem_singleton.mp hp]; exact ⟨dL0.symm, d20.symm, d10.symm⟩, fun q hq p hp => by rw [List.mem_singleton.mp hp]; exact offC dR0.symm f0 q hq, .nil, ⟨l0, [], 0, rfl, .head _, .nil⟩, dR, dL, by tb_start⟩ ?_ ?_
  · clear N₇ F₆ dR dL
    rintro i v I oI m₁ n₁ h₈ tk₈ hv ⟨lv, lc, tl, b, oR, oL, wR, rfl, o1, o2, hLV, hB, dR, dL, e2⟩ hm₁ off F₈ N₈
    obtain ⟨row, hst, ra, rwv, rn, rfl, hra, hrw⟩ := hRr.get' hv
    have hi3 : i < rows.length := by have := (List.getElem?_eq_some_iff.mp hst).1; rw [List.length_reverse] at this; exact this
    have hr20 : row.length ≤ 20 := hrr row (List.mem_of_getElem? hst)
    have hlow := dueLowN_len rows.reverse hrr i
    have hrowd : rows.reverse.getD i [] = row := by simp [hst]
    generalize hlowd : dueLowN rows.reverse i = low at hB hlow
    obtain ⟨_, bw, bn, hbe, hbm, hbw⟩ := hB
    cases hbe
    have IL : La ≠ I := off _ (.head _)
    have I2 : L' + 2 ≠ I := off _ (.tail _ (.head _))
    have I1 : L' + 1 ≠ I := off _ (.tail _ (.tail _ (.head _)))
    have IT : ∀ p ∈ tl, p.1 ≠ I := fun p hp => off _ (.tail _ (.tail _ (.tail _ (List.mem_append_left _ hp))))
    have IB : ∀ p ∈ (Rv, PySem.W.listOf vs.reverse.toArray 0) :: news, p.1 ≠ I := fun p hp => off _ (.tail _ (.tail _ (.tail _ (List.mem_append_right _ hp))))
    clear off
    ktr_unf
    refine Stop.go ?_
    have N₉ := News.sub N₈ dueP2
    have LaB : ∀ p ∈ (Rv, PySem.W.listOf vs.reverse.toArray 0) :: news, p.1 ≠ La := offC dRL.symm fL
    have cRB : ∀ p ∈ (Rv, PySem.W.listOf vs.reverse.toArray 0) :: news, p.1 ≠ L' + 2 := offC dR2.symm oc2
    have cLB : ∀ p ∈ (Rv, PySem.W.listOf vs.reverse.toArray 0) :: news, p.1 ≠ L' + 1 := offC dR1.symm oc1
    have t1 : ∀ p ∈ tl, p.1 ≠ La := fun p hp => (o1 p hp).1
    have t2 : ∀ p ∈ tl, p.1 ≠ L' + 2 := fun p hp => (o1 p hp).2.1
    have t3 : ∀ p ∈ tl, p.1 ≠ L' + 1 := fun p hp => (o1 p hp).2.2
    refine storeC F₈ N₉ (offC I2.symm (offC d2L.symm (offC c12.symm (offA t2 cRB)))) rfl dR ?_ rfl rfl
    clear dR N₉ N₈ F₈
    intro h₁₀ oR F₁₀ N₁₀ dR
    obtain ⟨base2, hb2⟩ : ∃ base2, base2 = (L' + 2, oR) :: (I, oI) :: (La, PySem.W.listOf lv.toArray lc) :: (L' + 1, oL) :: (tl ++ (Rv, PySem.W.listOf vs.reverse.toArray 0) :: news) := ⟨_, rfl⟩
    have hcR : (L' + 2, oR) ∈ base2 := by rw [hb2]; exact .head _
    have hcLo : (L' + 1, oL) ∈ base2 := by rw [hb2]; exact .tail _ (.tail _ (.tail _ (.head _)))
    have hLaB : (La, PySem.W.listOf lv.toArray lc) ∈ base2 := by rw [hb2]; exact .tail _ (.tail _ (.head _))
    have tlB : ∀ q ∈ tl, q ∈ base2 := fun q hq => by rw [hb2]; exact .tail _ (.tail _ (.tail _ (.tail _ (List.mem_append_left _ hq))))
    have hraB : (ra, PySem.W.listOf rwv.toArray rn) ∈ base2 := by rw [hb2]; exact .tail _ (.tail _ (.tail _ (.tail _ (List.mem_append_right _ (.tail _ hra)))))
    have hbB := tlB _ hbm
    rw [← hb2] at N₁₀
    have hrwl : rwv.length = row.length := hrw.length
    have hbl := hbw.length
    ktr_unf
    refine Stop.go ?_
    k_dflt (refine enumAssignG (h₀ := g) (m := m₁) rfl (by with_unfolding_all rfl) (by with_unfolding_all rfl) (by decide) (by rfl) (by decide) (by rfl) (by rfl) (by decide) (by rfl) (by rfl) ?_)
    ktr_unf
    refine Stop.go ?_
    k_dflt (refine enumCallA (fun j ys n₁ => PairsJ base2 (fun k => (row.getD k 0, (k : Int) + 1)) j ys n₁) rfl (by k_asm) (by k_asm) hraB (by omega) ⟨[], rfl, (fun _ _ _ h => nomatch h), .nil⟩ ?_ ?_)
    · intro e it
      rintro j x t oe oi C oC D m₂ h tk E' ys n₁ hx ⟨tl2, rfl, p1, hY⟩ hm₂ hC hk hv F₁₁ N₁₁ off₁₁
      obtain ⟨v0, hv0, tv, rfl⟩ := hrw.get' (by simpa using hx)
      ktr_unf
      rename_i en h₁₂ F₁₂ N₁₂ lt₁₂
      exact enumEnd1 F₁₂ N₁₂ lt₁₂ off₁₁ hm₂ (pairs_next p1 hY (fun q hq => Nat.ne_of_lt (lt₁₂ _ (.tail _ (.tail _ (.tail _ (.tail _ (List.mem_append_right _ hq))))))) (by simp [hv0]))
    · rintro Bo ys' n₂ h₁₁ tk₁₁ ⟨tlA, rfl, pA, hYA⟩ F₁₁ N₁₁ offB hyl
      rw [hrwl] at hYA
      have hYA : RA (RP RI RI) tlA ys' (pairsA row row.length) := hYA
      have BoB : ∀ p ∈ base2, p.1 ≠ Bo := fun p hp => offB p (List.mem_append_right _ hp)
      have BoA : ∀ p ∈ tlA, p.1 ≠ Bo := fun p hp => offB p (List.mem_append_left _ hp)
      clear F₁₀ N₁₀ offB
      have hcLo2 : (L' + 1, oL) ∈ (Bo, LCg.lst ys') :: (tlA ++ base2) := .tail _ (List.mem_append_right _ hcLo)
      have hbB2 : (b, PySem.W.listOf bw.toArray bn) ∈ (Bo, LCg.lst ys') :: (tlA ++ base2) := .tail _ (List.mem_append_right _ hbB)
      ktr_unf
      refine Stop.go ?_
      k_dflt (refine enumComp (h₀ := g) (L := L') (m := fun z => if z = Str.ofString "both" then some (.ref Bo) else m₁ z) (by with_unfolding_all rfl) (by decide) (by rfl) (by decide) (by rfl) (by rfl) (by decide) ?_)
      ktr_unf
      refine Stop.go ?_
      k_dflt (refine slice3X (by k_asm) (by k_asm) hbB2 (IsPart.int _ _) IsPart.none (IsPart.int _ _) (by decide) (pick_odds bw) (by omega) ?_ (by with_unfolding_all rfl) (by intro _; with_unfolding_all rfl))
      intro Od h₁₂ F₁₂ N₁₂ ltO
      have O1 : Bo ≠ Od := Nat.ne_of_lt (ltO _ (.head _))
      have O2 : ∀ q ∈ tlA, q.1 ≠ Od := fun q hq => Nat.ne_of_lt (ltO _ (.tail _ (List.mem_append_left _ hq)))
      have O3 : ∀ q ∈ base2, q.1 ≠ Od := fun q hq => Nat.ne_of_lt (ltO _ (.tail _ (List.mem_append_right _ hq)))
      clear ltO
      have hol := hbw.odds.length
      have hol2 := odds_len low
      ktr_unf
      refine Stop.go ?_
      k_dflt (refine enumCallG (fun j ys n₁ => PairsJ ((Od, PySem.W.listOf (odds bw).toArray 0) :: (Bo, LCg.lst ys') :: (tlA ++ base2)) (fun k => ((odds low).getD k 0, -1 - (k : Int))) j ys n₁) rfl (by k_asm) (by k_asm) (.head _) (by omega) ⟨[], rfl, (fun _ _ _ h => nomatch h), .nil⟩ ?_ ?_)
      · intro e it
        rintro j x t oe oi C oC D m₂ h tk E' ys n₁ hx ⟨tl2, rfl, p1, hY⟩ hm₂ hC hk hv F₁₃ N₁₃ off₁₃
        obtain ⟨v0, hv0, tv, rfl⟩ := hbw.odds.get' (by simpa using hx)
        ktr_unf
        rename_i en h₁₄ F₁₄ N₁₄ lt₁₄
        exact enumEnd1 F₁₄ N₁₄ lt₁₄ off₁₃ hm₂ (pairs_next p1 hY (fun q hq => Nat.ne_of_lt (lt₁₄ _ (.tail _ (.tail _ (.tail _ (.tail _ (List.mem_append_right _ hq))))))) (by simp [hv0]))
      · rintro Ex zs n₃ h₁₃ tk₁₃ ⟨tlB2, rfl, pB, hYB⟩ F₁₃ N₁₃ offE hzl
        rw [List.size_toArray] at hzl hYB
        rw [hol] at hYB
        have hYB : RA (RP RI RI) tlB2 zs (pairsB low (odds low).length) := hYB
        have E1 : Od ≠ Ex := offE _ (List.mem_append_right _ (.head _))
        have E2 : Bo ≠ Ex := offE _ (List.mem_append_right _ (.tail _ (.head _)))
        have E3 : ∀ q ∈ tlA, q.1 ≠ Ex := fun q hq => offE _ (List.mem_append_right _ (.tail _ (.tail _ (List.mem_append_left _ hq))))
        have E4 : ∀ q ∈ base2, q.1 ≠ Ex := fun q hq => offE _ (List.mem_append_right _ (.tail _ (.tail _ (List.mem_append_right _ hq))))
        have E5 : ∀ q ∈ tlB2, q.1 ≠ Ex := fun q hq => offE _ (List.mem_append_left _ hq)
        have B1 : ∀ p ∈ tlB2, p.1 ≠ Bo := fun p hp => (pB _ (.tail _ (.head _)) p hp).symm
        have B2 : ∀ q ∈ base2, ∀ p ∈ tlB2, q.1 ≠ p.1 := fun q hq => pB q (.tail _ (.tail _ (List.mem_append_right _ hq)))
        have B3 : ∀ q ∈ tlA, ∀ p ∈ tlB2, q.1 ≠ p.1 := fun q hq => pB q (.tail _ (.tail _ (List.mem_append_left _ hq)))
        have B4 : ∀ p ∈ tlB2, p.1 ≠ Od := fun p hp => (pB _ (.head _) p hp).symm
        have N₁₄ := News.sub N₁₃ dueP3
        clear offE pB N₁₃ N₁₂ F₁₂ N₁₁ F₁₁
        have hal := hYA.length
        ktr_unf
        refine Stop.go ?_
        have off2 : ∀ p ∈ (Ex, LCg.lst zs) :: (Od, PySem.W.listOf (odds bw).toArray 0) :: (tlB2 ++ (tlA ++ base2)), p.1 ≠ Bo := offC E2.symm (offC O1.symm (offA B1 (offA BoA BoB)))
        k_dflt (refine extendL (l := Bo) (b := Ex) (vs := ys') (ws := zs) (n := ys'.length) (n2 := zs.length) (by k_asm) N₁₄ off2 (.head _) (by have := hYB.length; simp only [pairsA, pairsB, List.length_map, List.length_range] at hal this; omega) ?_)
        intro h₁₅ bc F₁₅ N₁₅
        have hBoth : RA (RP RI RI) (tlB2 ++ tlA) (ys' ++ zs) (pairsA row row.length ++ pairsB low (odds low).length) := (hYA.mono (RP.mono RI.mono RI.mono) (fun q hq => List.mem_append_right _ hq)).append (hYB.mono (RP.mono RI.mono RI.mono) (fun q hq => List.mem_append_left _ hq))
        clear N₁₄
        ktr_unf
        refine Stop.go ?_
        have sub1 : ∀ p ∈ tlB2 ++ tlA, p ∈ (Ex, LCg.lst zs) :: (Od, PySem.W.listOf (odds bw).toArray 0) :: (tlB2 ++ (tlA ++ base2)) := fun q hq => by
          rcases List.mem_append.mp hq with hq | hq
          · exact .tail _ (.tail _ (List.mem_append_left _ hq))
          · exact .tail _ (.tail _ (List.mem_append_right _ (List.mem_append_left _ hq)))
        have h64 : (pairsA row row.length ++ pairsB low (odds low).length).length < 64 := by
          simp only [pairsA, pairsB, List.length_append, List.length_map, List.length_range]; omega
        k_dflt (refine sortL (R := RP RI RI) (led := tlB2 ++ tlA) (lt := lexP ltI ltI) (0, 0) F₁₅ N₁₅ off2 sub1 hBoth h64 (lexP_tot ltI_tot ltI_tot).toLtOrd ?_ ?_ ?_)
        · rintro v x ⟨b, v1, v2, n3, rfl, hm, _⟩
          exact ⟨b, [v1, v2], n3, rfl, hm⟩
        · intro s v u x y C hN hv hu hC
          exact ask_pairs (by show un + 3 + 1 + 5 < cLine; omega) hN hv hu hC
        · intro vs2 zs2 h₁₆ c2 F₁₆ N₁₆ hR2 hp ho
          have e : zs2 = bothF row low := sorted_isort (lexP_tot ltI_tot ltI_tot) hp ho
          subst e
          clear N₁₅ F₁₅ hBoth hp ho
          obtain ⟨base4, hb4⟩ : ∃ base4, base4 = (Bo, PySem.W.listOf vs2.toArray c2) :: (Ex, LCg.lst zs) :: (Od, PySem.W.listOf (odds bw).toArray 0) :: (tlB2 ++ (tlA ++ base2)) := ⟨_, rfl⟩
          have hLa4 : (La, PySem.W.listOf lv.toArray lc) ∈ base4 := by rw [hb4]; exact .tail _ (.tail _ (.tail _ (List.mem_append_right _ (List.mem_append_right _ hLaB))))
          have b24 : ∀ q ∈ base2, q ∈ base4 := fun q hq => by rw [hb4]; exact .tail _ (.tail _ (.tail _ (List.mem_append_right _ (List.mem_append_right _ hq))))
          have led4 : ∀ q ∈ tlB2 ++ tlA, q ∈ base4 := fun q hq => by rw [hb4]; exact .tail _ (sub1 q hq)
          have hBo4 : (Bo, PySem.W.listOf vs2.toArray c2) ∈ base4 := by rw [hb4]; exact .head _
          have hv2 := hR2.length
          have hbl2 := bothF_len row low
          rw [← hb4] at N₁₆
          ktr_unf
          refine Stop.go ?_
          k_dflt (refine pairComp (h₀ := g) (L := L') (m := fun z => if z = Str.ofString "both" then some (.ref Bo) else m₁ z) (by with_unfolding_all rfl) (by decide) (by rfl) (by decide) (by rfl) (by rfl) (by decide) ?_)
          ktr_unf
          k_dflt (refine pairSrc (fun j ys n₁ => MapJ (RL RI) base4 (dueEntry row low) (bothF row low) j ys n₁) rfl (by k_asm) (by k_asm) hBo4 (by omega) ⟨[], rfl, (fun _ _ _ h => nomatch h), .nil⟩ ?_ ?_ ?_)
          · rintro j ys n₁ x ⟨tl3, rfl, _, _⟩ hx
            obtain ⟨p0, _, a', v1, v2, nn, rfl, hm, _⟩ := hR2.get' hx
            exact ⟨a', v1, v2, nn, rfl, List.mem_append_right _ (led4 _ hm)⟩
          · intro g₉ J
            rintro j t v1 v2 kk oI' oC C oD D m₂ h tk E' ys n₁ hx hmt ⟨tl3, rfl, p3, hY3⟩ hm₂ hC hk hv hoD F₁₇ N₁₇ off₁₇
            have up : ∀ q ∈ base4, q ∈ (J, oI') :: (C, oC) :: (D, oD) :: (tl3 ++ base4) := fun q hq => .tail _ (.tail _ (.tail _ (List.mem_append_right _ hq)))
            obtain ⟨p0, u1, u2, hp0, rfl, rfl⟩ := pair_items N₁₇ (fun q hq => up q (led4 q hq)) hR2 (by simpa using hx) (.tail _ (.tail _ (.tail _ hmt)))
            have hcR4 := up _ (b24 _ hcR)
            have hcL4 := up _ (b24 _ hcLo)
            have hra4 := up _ (b24 _ hraB)
            have hb4' := up _ (b24 _ hbB)
            ktr_unf
            refine Stop.go ?_
            k_dflt (refine less_call (l := ra) (x := p0.1) B' (by k_asm) X' (by k_asm) T' rfl hra4 (RA.ofInts hrw.ints) (by omega) (by omega) (by omega) ?_)
            intro t₁ h₁₈ tk₁₈ F₁₈ N₁₈
            ktr_unf
            refine Stop.go ?_
            k_dflt (refine less_call (l := b) (x := p0.1) B' (by k_asm) X' (by k_asm) T' rfl hb4' (RA.ofInts hbw.ints) (by omega) (by omega) (by omega) ?_)
            intro t₂ h₁₉ tk₁₉ F₁₉ N₁₉
            ktr_unf
            rename_i en h₂₀ F₂₀ N₂₀ lt₂₀
            refine Stop.go ?_
            obtain ⟨ox, N₂₀, hE⟩ : ∃ ox, News g L' h₂₀ ((en, ox) :: (J, oI') :: (C, oC) :: (D, oD) :: (tl3 ++ base4)) ∧ ∀ led, (en, ox) ∈ led → RL RI led (.ref en) (dueEntry row low p0) := ⟨_, N₂₀, fun led hm => due_entry_ok hm⟩
            exact compEnd1 F₂₀ N₂₀ lt₂₀ off₁₇ (.tail _ hm₂) (MapJ.next (tl2 := [(en, ox)]) (RL.mono RI.mono) hp0 p3 hY3 (fun q hq p hp => by rw [List.mem_singleton.mp hp]; exact Nat.ne_of_lt (lt₂₀ _ (.tail _ (.tail _ (.tail _ (List.mem_append_right _ hq)))))) (hE _ (.head _)))
          · intro g₉
            rintro De es n₄ h₁₇ tk₁₇ ⟨tl3, rfl, p3, hY3⟩ F₁₇ N₁₇ offD hel
            rw [List.take_of_length_le (Nat.le_of_eq hv2.symm)] at hY3
            have hlvl : lv.length = i := by have := hLV.length; rw [List.length_map, List.length_range] at this; exact this
            have DeB : ∀ p ∈ base4, p.1 ≠ De := fun p hp => offD p (List.mem_append_right _ hp)
            have De3 : ∀ p ∈ tl3, p.1 ≠ De := fun p hp => offD p (List.mem_append_left _ hp)
            have t3B : ∀ q ∈ base4, ∀ p ∈ tl3, p.1 ≠ q.1 := fun q hq p hp => (p3 q hq p hp).symm
            have tBB : ∀ q ∈ base2, ∀ p ∈ tlB2, p.1 ≠ q.1 := fun q hq p hp => (B2 q hq p hp).symm
            have tAB : ∀ q ∈ base2, ∀ p ∈ tlA, p.1 ≠ q.1 := fun q hq p hp => (pA q hq p hp).symm
            have hLa5 : (La, PySem.W.listOf lv.toArray lc) ∈ (De, LCg.lst es) :: (tl3 ++ base4) := .tail _ (List.mem_append_right _ hLa4)
            have hIB : (I, oI) ∈ base2 := by rw [hb2]; exact .tail _ (.head _)
            have baseB : ∀ q ∈ (Rv, PySem.W.listOf vs.reverse.toArray 0) :: news, q ∈ base2 := fun q hq => by rw [hb2]; exact .tail _ (.tail _ (.tail _ (.tail _ (List.mem_append_right _ hq))))
            have G : ∀ x ∈ base2, De ≠ x.1 ∧ Bo ≠ x.1 ∧ Ex ≠ x.1 ∧ Od ≠ x.1 ∧ (∀ p ∈ tl3, p.1 ≠ x.1) ∧ (∀ p ∈ tlB2, p.1 ≠ x.1) ∧ (∀ p ∈ tlA, p.1 ≠ x.1) := fun x hx =>
              ⟨(DeB x (b24 x hx)).symm, (BoB x hx).symm, (E4 x hx).symm, (O3 x hx).symm, t3B x (b24 x hx), tBB x hx, tAB x hx⟩
            have hBoDe : Bo ≠ De := DeB _ hBo4
            clear DeB t3B tBB tAB p3 pA B2 BoB E4 O3 offD
            ktr_unf
            refine Stop.go ?_
            have N₁₇ := N₁₇
            obtain ⟨x1, x2, x3, x4, x5, x6, x7⟩ := G _ hLaB
            obtain ⟨y1, y2, y3, y4, y5, y6, y7⟩ := G _ hcR
            obtain ⟨z1, z2, z3, z4, z5, z6, z7⟩ := G _ hcLo
            obtain ⟨w1, w2, w3, w4, w5, w6, w7⟩ := G _ hIB
            rw [hb4, hb2] at N₁₇
            have N₁₈ := News.sub N₁₇ dueP4
            have offLa : ∀ p ∈ (De, LCg.lst es) :: (Bo, PySem.W.listOf vs2.toArray c2) :: (Ex, LCg.lst zs) :: (Od, PySem.W.listOf (odds bw).toArray 0) :: (L' + 2, oR) :: (I, oI) :: (L' + 1, oL) :: (tl3 ++ (tlB2 ++ (tlA ++ (tl ++ (Rv, PySem.W.listOf vs.reverse.toArray 0) :: news)))), p.1 ≠ La :=
              offC x1 (offC x2 (offC x3 (offC x4 (offC d2L (offC IL.symm (offC d1L (offA x5 (offA x6 (offA x7 (offA t1 LaB))))))))))
            k_dflt (refine appendL (l := La) (vs := lv) (n := lc) (by k_asm) N₁₈ offLa (by omega) ?_)
            intro h₁₈ F₁₈ N₁₉
            obtain ⟨base5, hb5⟩ : ∃ base5, base5 = (La, PySem.W.listOf (lv ++ [Value.ref De]).toArray (lc + 1)) :: (De, LCg.lst es) :: (Bo, PySem.W.listOf vs2.toArray c2) :: (Ex, LCg.lst zs) :: (Od, PySem.W.listOf (odds bw).toArray 0) :: (L' + 2, oR) :: (I, oI) :: (L' + 1, oL) :: (tl3 ++ (tlB2 ++ (tlA ++ (tl ++ (Rv, PySem.W.listOf vs.reverse.toArray 0) :: news)))) := ⟨_, rfl⟩
            have hBo5 : (Bo, PySem.W.listOf vs2.toArray c2) ∈ base5 := by rw [hb5]; exact .tail _ (.tail _ (.head _))
            have led5 : ∀ q ∈ tlB2 ++ tlA, q ∈ base5 := fun q hq => by
              rw [hb5]
              refine .tail _ (.tail _ (.tail _ (.tail _ (.tail _ (.tail _ (.tail _ (.tail _ (List.mem_append_right _ ?_))))))))
              rcases List.mem_append.mp hq with hq | hq
              · exact List.mem_append_left _ hq
              · exact List.mem_append_right _ (List.mem_append_left _ hq)
            rw [← hb5] at N₁₉
            clear N₁₈ N₁₇ N₁₆ F₁₇ F₁₆ offLa
            refine wpAny_execs_cons ?_
            refine wpAny_Assign_Name ?_
            k_dflt (refine pairComp (h₀ := g) (L := L') (m := fun z => if z = Str.ofString "both" then some (.ref Bo) else m₁ z) (by with_unfolding_all rfl) (by decide) (by rfl) (by decide) (by rfl) (by rfl) (by decide) ?_)
            ktr_unf
            k_dflt (refine pairSrc (fun j ys n₁ => n₁ = base5 ∧ RA RI [] ys (((bothF row low).take j).map (·.1))) rfl (by k_asm) (by k_asm) hBo5 (by omega) ⟨rfl, .nil⟩ ?_ ?_ ?_)
            · rintro j ys n₁ x ⟨rfl, _⟩ hx
              obtain ⟨p0, _, a', v1, v2, nn, rfl, hm, _⟩ := hR2.get' hx
              exact ⟨a', v1, v2, nn, rfl, led5 _ hm⟩
            · intro g₉ J
              rintro j t v1 v2 kk oI' oC C oD D m₂ h tk E' ys n₁ hx hmt ⟨rfl, hY4⟩ hm₂ hC hk hv hoD F₁₉ N₂₀ off₁₉
              obtain ⟨p0, u1, u2, hp0, rfl, rfl⟩ := pair_items N₂₀ (fun q hq => .tail _ (.tail _ (.tail _ (led5 q hq)))) hR2 (by simpa using hx) (.tail _ (.tail _ (.tail _ hmt)))
              ktr_unf
              refine Stop.go ?_
              exact compEnd (by k_asm) (by k_asm) n₁ (fun _ h => h) off₁₉ hm₂ ⟨rfl, by rw [map_take _ _ hp0]; exact hY4.append (.cons ⟨_, rfl⟩ .nil)⟩
            · intro g₉
              rintro Lo us n₅ h₂₀ tk₂₀ ⟨hn5, hU⟩ F₂₀ N₂₁ offLo hul
              subst hn5
              subst hb5
              rw [List.take_of_length_le (Nat.le_of_eq hv2.symm)] at hU
              have oLa : La ≠ Lo := offLo _ (.head _)
              have oDe : De ≠ Lo := offLo _ (.tail _ (.head _))
              have ocR : L' + 2 ≠ Lo := offLo _ (.tail _ (.tail _ (.tail _ (.tail _ (.tail _ (.head _))))))
              have oI1 : I ≠ Lo := offLo _ (.tail _ (.tail _ (.tail _ (.tail _ (.tail _ (.tail _ (.head _)))))))
              have ocL : L' + 1 ≠ Lo := offLo _ (.tail _ (.tail _ (.tail _ (.tail _ (.tail _ (.tail _ (.tail _ (.head _))))))))
              have oBs : ∀ q ∈ (Rv, PySem.W.listOf vs.reverse.toArray 0) :: news, q.1 ≠ Lo := fun q hq => offLo q (.tail _ (.tail _ (.tail _ (.tail _ (.tail _ (.tail _ (.tail _ (.tail _ (List.mem_append_right _ (List.mem_append_right _ (List.mem_append_right _ (List.mem_append_right _ hq))))))))))))
              have N₂₂ := News.sub N₂₁ dueP5
              have offcL : ∀ p ∈ (La, PySem.W.listOf (lv ++ [Value.ref De]).toArray (lc + 1)) :: (Lo, LCg.lst us) :: (De, LCg.lst es) :: (Bo, PySem.W.listOf vs2.toArray c2) :: (Ex, LCg.lst zs) :: (Od, PySem.W.listOf (odds bw).toArray 0) :: (L' + 2, oR) :: (I, oI) :: (tl3 ++ (tlB2 ++ (tlA ++ (tl ++ (Rv, PySem.W.listOf vs.reverse.toArray 0) :: news)))), p.1 ≠ L' + 1 :=
                offC d1L.symm (offC ocL.symm (offC z1 (offC z2 (offC z3 (offC z4 (offC c12 (offC I1.symm (offA z5 (offA z6 (offA z7 (offA t3 cLB)))))))))))
              clear offLo
              refine storeC F₂₀ N₂₂ offcL rfl dL ?_ rfl rfl
              intro h₂₁ oL' F₂₁ N₂₃ dL'
              refine wpAny_execs_nil ?_
              refine LPost.next F₂₁ N₂₃ _ dueP6 (offC IL (offC I2 (offC I1 (offA (offC oI1.symm (offC w1 (offC w2 (offC w3 (offC w4 (offA w5 (offA w6 (offA w7 IT)))))))) IB))))
                (.tail _ (.tail _ (.tail _ (List.mem_append_right _ (.head _)))))
                ⟨_, _, (Lo, LCg.lst us) :: (De, LCg.lst es) :: (Bo, PySem.W.listOf vs2.toArray c2) :: (Ex, LCg.lst zs) :: (Od, PySem.W.listOf (odds bw).toArray 0) :: (tl3 ++ (tlB2 ++ (tlA ++ tl))), Lo, oR, oL', _, rfl, ?_, ?_, ?_, ?_, dR, dL', by tb_start⟩
              · have a1 : ∀ p ∈ (Lo, LCg.lst us) :: (De, LCg.lst es) :: (Bo, PySem.W.listOf vs2.toArray c2) :: (Ex, LCg.lst zs) :: (Od, PySem.W.listOf (odds bw).toArray 0) :: (tl3 ++ (tlB2 ++ (tlA ++ tl))), p.1 ≠ La := offC oLa.symm (offC x1 (offC x2 (offC x3 (offC x4 (offA x5 (offA x6 (offA x7 t1)))))))
                have a2 : ∀ p ∈ (Lo, LCg.lst us) :: (De, LCg.lst es) :: (Bo, PySem.W.listOf vs2.toArray c2) :: (Ex, LCg.lst zs) :: (Od, PySem.W.listOf (odds bw).toArray 0) :: (tl3 ++ (tlB2 ++ (tlA ++ tl))), p.1 ≠ L' + 2 := offC ocR.symm (offC y1 (offC y2 (offC y3 (offC y4 (offA y5 (offA y6 (offA y7 t2)))))))
                have a3 : ∀ p ∈ (Lo, LCg.lst us) :: (De, LCg.lst es) :: (Bo, PySem.W.listOf vs2.toArray c2) :: (Ex, LCg.lst zs) :: (Od, PySem.W.listOf (odds bw).toArray 0) :: (tl3 ++ (tlB2 ++ (tlA ++ tl))), p.1 ≠ L' + 1 := offC ocL.symm (offC z1 (offC z2 (offC z3 (offC z4 (offA z5 (offA z6 (offA z7 t3)))))))
                exact fun p hp => ⟨a1 p hp, a2 p hp, a3 p hp⟩
              · intro q hq
                obtain ⟨v1, v2, v3, v4, v5, v6, v7⟩ := G q (baseB q hq)
                have a4 : ∀ p ∈ (Lo, LCg.lst us) :: (De, LCg.lst es) :: (Bo, PySem.W.listOf vs2.toArray c2) :: (Ex, LCg.lst zs) :: (Od, PySem.W.listOf (odds bw).toArray 0) :: (tl3 ++ (tlB2 ++ (tlA ++ tl))), p.1 ≠ q.1 := offC (oBs q hq).symm (offC v1 (offC v2 (offC v3 (offC v4 (offA v5 (offA v6 (offA v7 (fun p hp => (o2 q hq p hp).symm))))))))
                exact fun p hp => (a4 p hp).symm
              · rw [List.range_succ, List.map_append]
                refine (hLV.mono (RL.mono (RL.mono RI.mono)) (fun q hq => .tail _ (.tail _ (.tail _ (.tail _ (.tail _ (List.mem_append_right _ (List.mem_append_right _ (List.mem_append_right _ hq))))))))).append (.cons ⟨De, es, _, rfl, .tail _ (.head _), ?_⟩ .nil)
                show RA (RL RI) _ es ((bothF (rows.reverse.getD i []) (dueLowN rows.reverse i)).map (dueEntry (rows.reverse.getD i []) (dueLowN rows.reverse i)))
                rw [hrowd, hlowd]
                exact hY3.mono (RL.mono RI.mono) (fun q hq => .tail _ (.tail _ (.tail _ (.tail _ (.tail _ (List.mem_append_left _ hq))))))
              · refine ⟨Lo, us, _, rfl, .head _, ?_⟩
                rw [dueLowN, hrowd, hlowd]
                exact RA.ofInts hU.ints
  · rintro m₂ n₂ h₈ tk₈ ⟨lv, lc, tl, b, oR, oL, wR, rfl, o1, o2, hLV, hB, dR, dL, e2⟩ F₈ N₈
    rw [hrl] at hLV
    clear N₇ F₆
    ktr_unf
    refine Back.mk (by k_asm) (News.sub N₈ (n' := ((La, PySem.W.listOf lv.toArray lc) :: (tl ++ [(Rv, PySem.W.listOf vs.reverse.toArray 0)])) ++ news) dueP7) (fun F N => ret (.ref La) _ _ _ F N (fun q hq => offS (fL q hq) (fun p hp => by
      rcases List.mem_append.mp hp with hp | hp
      · exact o2 q (.tail _ hq) p hp
      · rw [List.mem_singleton.mp hp]; exact fR q hq)) ⟨La, lv, lc, rfl, .head _, hLV.mono (RL.mono (RL.mono RI.mono)) (fun q hq => .tail _ (List.mem_append_left _ hq))⟩)
end
end
section
theorem offE01f : True := by
  w_top off
  trivial
local macro_rules | `(tactic| walk_at "eval Lambda") => `(tactic| (refine Stop.at ?_))
/-- the one block that the def makes -/
noncomputable def lamOf : List Stmt → Arguments × Expr × Scope × Pos
  | [.Return (some (.Lambda p b s q)) _] => (p, b, s, q)
  | _ => default
noncomputable def noteLam (w : World) : Arguments × Expr × Scope × Pos := lamOf (stmtsOf (fdAt (top.heap_39 w.params) 64).body)
noncomputable def noteQual : Str := (Str.ofString "_law_noting" ++ ".<locals>.") ++ "<lambda>"
noncomputable def NoteCode (led : Led) (c : Addr) : Prop := ∃ oc vs t, (c, oc) ∈ led ∧ oc.data = .fields vs ∧ vs[1]? = some (.str noteQual t)
/-- the table of the def's code: empty, or with the block's code -/
noncomputable def NoteTab (w : World) (tb : Led) : Prop := tb = [(59, tabObj #[])] ∨ ∃ c oc vs t, tb = [(59, tabObj #[rawInt (noteLam w).2.2.2.line, rawInt (noteLam w).2.2.2.col, .ref c]), (c, oc)] ∧ oc.data = .fields vs ∧ vs[1]? = some (.str noteQual t)
noncomputable def NoteObj (w : World) (fo : Obj) (c1 c : Addr) : Prop := ∃ pm ctv, fo = kla_obj "<lambda>" noteQual (noteLam w).1 (noteLam w).2.1 (noteLam w).2.2.1 [(Str.ofString "noted", c1)] pm c ctv
theorem noteP1 {f c l t : Addr × Obj} {r : Led} : ∀ q ∈ f :: l :: ([t, c] ++ r), q ∈ f :: c :: l :: t :: r := fun q hq => by
  simp only [List.mem_cons, List.mem_append, List.not_mem_nil, or_false] at hq ⊢; grind
section
variable {w : World} {dp un : Nat} {gd : Option (List Code)} {cn : Str} {cs : Scope} {L a : Addr} {ccd : Value} {cl : List (Str × Addr)} {outer : List Env} {A₀ : Around} {base h₀ : Heap}
  {m : Str → Option Value} {news : Led} {s : Shared} {Q E : Value → Shared → Prop} {p : Program} {loose : List Str} {mean : ExcName → Option Value} {mg mb : Str → Option Value}
set_option maxRecDepth 100000 in
set_option maxHeartbeats 8000000 in
theorem noting_call {D : Addr} {tb : Led} (C : CodeHd base 63 59)
    (B : Below A₀ base outer h₀) (F : Fr h₀ L s.heap m) (X : (top.heap_39 w.params).In h₀) (N : News h₀ L s.heap (tb ++ news)) (T : Top p loose mean mg mb h₀) (hk : cs.kind = .function) (hT : NoteTab w tb) (htb : ∀ q ∈ news, ∀ p ∈ tb, q.1 ≠ p.1) (hdp : dp + 2 ≤ 400) (hun : un + 20 ≤ 5000)
    (ret : ∀ q fo c1 o1 c tb' h' tk', Fr h₀ L h' m → News h₀ L h' ((q, fo) :: (c1, o1) :: (tb' ++ news)) → NoteTab w tb' → NoteObj w fo c1 c → NoteCode tb' c → o1.data = .cell (some (.ref D)) → (∀ p ∈ tb' ++ news, p.1 ≠ q ∧ p.1 ≠ c1) → (∀ q ∈ news, ∀ p ∈ tb', q.1 ≠ p.1) → q ≠ c1 → Q (.ref q) { s with heap := h', toks := tk' }) :
    wpAny (model PySem.Challenge.rw_pe0007_01.row.prog w) (ktrTop dp un gd cn cs L a ccd cl outer) (call (.ref 64) [.ref D]) Q E s := by
  (have X' := X; revert X'; k_fill; intro hX9; clear hX9)
  k_dflt (refine' with_fdX (K := (top.heap_39 w.params)) (f := 64) X ?ho ?_; (case ho => k_is))
  intro hfd
  k_dflt (refine' enterC (binds := [((Str.ofString "noted"), .ref D)]) (fun L => [((Str.ofString "noted"), L + 1)]) B F X N T hk ?ho ?hcd (by omega) ?hb ?hl ?cls ?hc ?co ?ge ?hk ?_; (case ho => k_is); (case hcd => k_is); (case hb => exact BindsTo.of_eq rfl); (case hl => rfl); (case cls => exact fun _ => rfl); (case hc => decide); (case co => rfl); (case ge => rfl); (case hk => rfl))
  intro g L' h₁ tk cells F' N' Y' B' X' T' lt'
  k_fold
  have hcL := cLine_is
  have C' : CodeHd g 63 59 := CodeHd.keeps C (Below.stays B')
  obtain ⟨o1, rfl, d1⟩ := CellsAre.one Y'
  have d1 : o1.data = .cell (some (.ref D)) := d1
  have hlam : noteLam w = lamOf (stmtsOf (fdAt (top.heap_39 w.params) 64).body) := rfl
  rw [hfd] at hlam
  dsimp only [stmtsOf, fnOf, lamOf] at hlam
  have h59 : ∀ p ∈ news, p.1 ≠ 59 := by
    rcases hT with rfl | ⟨c, oc, vs, t, rfl, _, _⟩
    · exact fun p hp => htb p hp _ (.head _)
    · exact fun p hp => htb p hp _ (.head _)
  have l59 : 59 < L' := by
    rcases hT with rfl | ⟨c, oc, vs, t, rfl, _, _⟩
    · exact lt' _ (.head _)
    · exact lt' _ (.head _)
  have n59 : L' + 1 ≠ 59 := Nat.ne_of_gt (Nat.lt_succ_of_lt l59)
  have nL : ∀ p ∈ tb ++ news, p.1 ≠ L' + 1 := fun p hp => Nat.ne_of_lt (Nat.lt_succ_of_lt (lt' p hp))
  ktr_unf
  refine Stop.go ?_
  k_dflt (refine kla_eval rfl ?_)
  rcases hT with rfl | ⟨c, oc, vs, t, rfl, hd, hv⟩
  · have N' : News g L' h₁ ((L' + 1, o1) :: (59, tabObj #[]) :: news) := N'
    k_dflt (refine kla_nest F' N' T' C' rfl (UpdF.tail n59 (UpdF.head h59)) True.intro rfl rfl ?_)
    intro f c oc vs t ctv h₂ tk₂ F₂ N₂ hd hv lt1 lt2
    have a1 : L' + 1 < c := lt1 _ (.head _)
    have a2 : 59 < c := lt1 _ (.tail _ (.head _))
    have a3 : ∀ p ∈ news, p.1 < c := fun p hp => lt1 p (.tail _ (.tail _ hp))
    have hT' : NoteTab w [(59, tabObj #[rawInt (noteLam w).2.2.2.line, rawInt (noteLam w).2.2.2.col, .ref c]), (c, oc)] := .inr ⟨c, oc, vs, t, rfl, hd, hv⟩
    obtain ⟨fo, hfo, N₃⟩ : ∃ fo, NoteObj w fo (L' + 1) c ∧ News g L' h₂ ((f, fo) :: (L' + 1, o1) :: ([(59, tabObj #[rawInt (noteLam w).2.2.2.line, rawInt (noteLam w).2.2.2.col, .ref c]), (c, oc)] ++ news)) := by
      refine ⟨_, ⟨(mg "__name__").getD .none, ctv, rfl⟩, ?_⟩
      rw [hlam]
      exact News.sub N₂ noteP1
    exact Back.mk F₂ N₃ (fun F N => ret f fo (L' + 1) o1 c _ _ _ F N hT' hfo ⟨oc, vs, t, .tail _ (.head _), hd, hv⟩ d1 (fun p hp => by
      rcases List.mem_cons.mp hp with rfl | hp
      · exact ⟨Nat.ne_of_lt (Nat.lt_trans a2 lt2), n59.symm⟩
      · rcases List.mem_cons.mp hp with rfl | hp
        · exact ⟨Nat.ne_of_lt lt2, Nat.ne_of_gt a1⟩
        · exact ⟨Nat.ne_of_lt (Nat.lt_trans (a3 p hp) lt2), nL p (.tail _ hp)⟩) (fun q hq p hp => by
      rcases List.mem_cons.mp hp with rfl | hp
      · exact h59 q hq
      · rw [List.mem_singleton.mp hp]; exact Nat.ne_of_lt (a3 q hq)) (Nat.ne_of_gt (Nat.lt_trans a1 lt2)))
  · have N' : News g L' h₁ ((L' + 1, o1) :: ([(59, tabObj #[rawInt (noteLam w).2.2.2.line, rawInt (noteLam w).2.2.2.col, .ref c]), (c, oc)] ++ news)) := N'
    have hT' : NoteTab w [(59, tabObj #[rawInt (noteLam w).2.2.2.line, rawInt (noteLam w).2.2.2.col, .ref c]), (c, oc)] := .inr ⟨c, oc, vs, t, rfl, hd, hv⟩
    k_dflt (refine kla_hit (c' := c) F' N' T' C' rfl (.tail _ (.head _)) ?_ ?_ rfl ?_)
    · exact (show TriplesOk [rawInt _, rawInt _, .ref c] from True.intro)
    · rw [hlam]; rfl
    · intro f ctv h₂ tk₂ F₂ N₂ lt1
      have a1 : L' + 1 < f := lt1 _ (.head _)
      obtain ⟨fo, hfo, N₃⟩ : ∃ fo, NoteObj w fo (L' + 1) c ∧ News g L' h₂ ((f, fo) :: (L' + 1, o1) :: ([(59, tabObj #[rawInt (noteLam w).2.2.2.line, rawInt (noteLam w).2.2.2.col, .ref c]), (c, oc)] ++ news)) := by
        refine ⟨_, ⟨(mg "__name__").getD .none, ctv, rfl⟩, ?_⟩
        rw [hlam] at N₂ ⊢
        exact N₂
      exact Back.mk F₂ N₃ (fun F N => ret f fo (L' + 1) o1 c _ _ _ F N hT' hfo ⟨oc, vs, t, .tail _ (.head _), hd, hv⟩ d1 (fun p hp => ⟨Nat.ne_of_lt (lt1 p (.tail _ hp)), nL p hp⟩) (fun q hq p hp => htb q hq p hp) (Nat.ne_of_gt a1))
end
end
end
section
theorem offE01g : True := by
  w_top off
  trivial
local macro_rules | `(tactic| walk_at "subscriptTail Name Constant ref int") => `(tactic| (refine Stop.at ?_))
local macro_rules | `(tactic| walk_at "subscriptTail Name BinOp ref int") => `(tactic| (refine Stop.at ?_))
local macro_rules | `(tactic| walk_at "subscriptTail Name Name ref int") => `(tactic| (refine Stop.at ?_))
local macro_rules | `(tactic| walk_at "eval Name") => `(tactic| (k_dflt (refine' nameX_L (x := Str.ofString "entry") ?k1 ?k2 ?_ ?k4 ?k5; (case k4 => exact rfl); (case k5 => exact rfl); (case k1 => k_asm); (case k2 => exact rfl))))
local macro_rules | `(tactic| walk_at "eval Name") => `(tactic| (k_dflt (refine' nameX_F (x := Str.ofString "noted") ?k1 ?k2 ?k3 ?k6 ?_ ?k4 ?k5 ?k7 ?k8; (case k4 => exact rfl); (case k5 => exact rfl); (case k7 => decide); (case k8 => decide); (case k1 => k_asm); (case k2 => exact rfl); (case k3 => assumption); (case k6 => assumption))))
section
variable {w : World}
set_option maxRecDepth 100000 in
set_option maxHeartbeats 8000000 in
theorem note_key {q c1 c D : Addr} {fo o1 : Obj} {rest : Led} {vs : List Value} {es : List (List Int)} {dm um bd : Nat} (hfo : NoteObj w fo c1 c) (hq : (q, fo) ∈ rest) (hc1 : (c1, o1) ∈ rest) (hcd : NoteCode rest c) (d1 : o1.data = .cell (some (.ref D)))
    (offD : ∀ p ∈ rest, p.1 ≠ D) (h : RA (RL RI) rest vs es) (hne : ∀ e ∈ es, e ≠ []) (hdm : dm + 2 ≤ 400) (hum : um + 20 ≤ 5000) (hbd : bd ≤ 900) :
    KeyB PySem.Challenge.rw_pe0007_01.row.prog w (top.heap_39 w.params) q dm um bd (fun tr => (D, PySem.W.listOf tr.toArray tr.length) :: rest) vs (fun i r => ∃ t, r = .int ((es.map fst0).getD i 0) t) where
  fn := fun tr h₀ h L _ N => by
    obtain ⟨pm, ctv, rfl⟩ := hfo
    exact FnAt.of N (.tail _ hq)
  run := fun i v tr dp un gd cn cs L a ccd cl outer A₀ base h₀ m s Q E p loose mean mg mb hv hbt B F X N T hk hd hu ret => by
    (have X' := X; revert X'; k_fill; intro hX9; clear hX9)
    k_dflt (refine' with_fdX (K := (top.heap_39 w.params)) (f := 64) X ?ho ?_; (case ho => k_is))
    intro hfd
    have hlam : noteLam w = lamOf (stmtsOf (fdAt (top.heap_39 w.params) 64).body) := rfl
    rw [hfd] at hlam
    dsimp only [stmtsOf, fnOf, lamOf] at hlam
    obtain ⟨pm, ctv, rfl⟩ := hfo
    obtain ⟨oc, cvs, ct, hcm, hcd1, hcd2⟩ := hcd
    obtain ⟨x, hx, a', ws, n, rfl, hm, hr⟩ := h.get' hv
    have hx0 : x ≠ [] := hne x (List.mem_of_getElem? hx)
    obtain ⟨te, hw0⟩ := hr.first hx0
    have e0 : (es.map fst0).getD i 0 = fst0 x := by simp [hx]
    rw [hlam] at hq
    dsimp only at hq
    clear hlam hfd
    refine wpAny_call ?_
    k_dflt (refine kla_code (binds := [((Str.ofString "entry"), .ref a')]) B F X N T rfl rfl hk (.tail _ hq) (codeRec_news N (.tail _ hcm) hcd1 hcd2) (by show dp < recursionLimit; simp only [recursionLimit]; omega) rfl (locs rfl) ?_ rfl rfl rfl (by decide))
    intro g L' h₁ FG F' N' B' X' T'
    have hc1' : (c1, o1) ∈ (D, PySem.W.listOf tr.toArray tr.length) :: rest := .tail _ hc1
    have hm' : ∀ y, (a', PySem.W.listOf ws.toArray n) ∈ (D, y) :: rest := fun _ => .tail _ hm
    have offD' : ∀ p ∈ rest, p.1 ≠ D := offD
    clear hc1 hm B F X N T hk offD hq h hne hx hv hr
    refine wpAny_mono (E := fun _ _ => False) ?_ (fun _ _ h => h) (fun _ _ x => x.elim)
    k_fold
    show wpAny _ (ktrTop (dp + 1) (un + 3) gd noteQual _ L' q (Value.ref c) [(Str.ofString "noted", c1)] (envX cn cs L a ccd cl :: outer)) _ _ _ _
    ktr_unf
    refine Stop.go ?_
    k_dflt (refine appendL (l := D) (vs := tr) (n := tr.length) (by k_asm) (by k_asm) offD' (by omega) ?_)
    intro h₂ F₂ N₂
    ktr_unf
    refine Stop.go ?_
    k_dflt (refine itemL (by k_asm) (hm' _) (by decide) (by decide) hw0 ?_)
    ktr_unf
    refine leaveK_ F₂ N₂ (fun F N => ret _ _ _ ⟨te, by rw [e0]⟩ F ?_)
    rw [List.length_append, List.length_singleton]
    exact N
end
end
section
local macro_rules | `(tactic| walk_at "eval Name") => `(tactic| (k_dflt (refine' nameX_L ?k1 ?k2 ?_ ?k4 ?k5; (case k4 => exact rfl); (case k5 => exact rfl); (case k1 => k_asm); (case k2 => tb_start))))
local macro_rules | `(tactic| walk_at "eval Name") => `(tactic| (k_dflt (refine' nameX_C ?k1 ?k2 ?k3 ?k6 ?_ ?k4 ?k5 ?k7; (case k4 => exact rfl); (case k5 => exact rfl); (case k7 => decide); (case k1 => k_asm); (case k2 => exact rfl); (case k3 => k_mem); (case k6 => assumption))))
local macro_rules | `(tactic| walk_at "eval Name") => `(tactic| (k_dflt (refine' lcf_free ?k1 ?k2 ?k3 ?k6 ?_ ?k4 ?k5 ?k7 ?k8; (case k4 => exact rfl); (case k5 => exact rfl); (case k7 => decide); (case k8 => decide); (case k1 => k_asm); (case k2 => exact rfl); (case k3 => k_mem); (case k6 => assumption))))
section
theorem offE01h : True := by
  w_top off
  trivial
local macro_rules | `(tactic| walk_at "callWith ref") => `(tactic| (first | refine callWith_F (FnAt.ofK (Frag.In.keeps (by assumption) (Fr.keep (by k_asm))) (by kernel_rfl)) ?_ | refine callWith_F (KeyOK.fn (by assumption) _ _ _ _ (Frag.In.keeps (by assumption) (Fr.keep (by k_asm))) (by k_asm)) ?_ | refine callWith_F (KeyOK.fn (by assumption) [] _ _ _ (Frag.In.keeps (by assumption) (Fr.keep (by k_asm))) (by k_asm)) ?_))
local macro_rules | `(tactic| walk_at "And") => `(tactic| (first | refine ⟨FnAt.ofK (Frag.In.keeps (by assumption) (Fr.keep (by k_asm))) (by kernel_rfl), ?_⟩ | refine ⟨KeyOK.fn (by assumption) _ _ _ _ (Frag.In.keeps (by assumption) (Fr.keep (by k_asm))) (by k_asm), ?_⟩ | refine ⟨KeyOK.fn (by assumption) [] _ _ _ (Frag.In.keeps (by assumption) (Fr.keep (by k_asm))) (by k_asm), ?_⟩))
local macro_rules | `(tactic| walk_at "subscriptTail Name Constant ref int") => `(tactic| (refine Stop.at ?_))
local macro_rules | `(tactic| walk_at "subscriptTail Name BinOp ref int") => `(tactic| (refine Stop.at ?_))
local macro_rules | `(tactic| walk_at "subscriptTail Name Name ref int") => `(tactic| (refine Stop.at ?_))
local macro_rules | `(tactic| walk_at "subscriptTail Name Slice ref ref") => `(tactic| (refine Stop.at ?_))
/-- what the search by places reads at one row: what is told, and the place below -/
noncomputable def plEntry (x : Int) (row : List Int) (here below : List (List Int)) (place : Nat) : List Int := if place < here.length then here.getD place [] else [x, (row.length : Nat), (below.length : Nat), 0]
noncomputable def plTop (x : Int) (row : List Int) (here below : List (List Int)) (place : Nat) : Nat := ((plEntry x row here below place).getD 2 0).toNat
noncomputable def hereK (lists : List (List (List Int))) (k : Nat) : List (List Int) := lists.getD (2 - k) []
noncomputable def belowK (lists : List (List (List Int))) (k : Nat) : List (List Int) := if k < 2 then lists.getD (1 - k) [] else []
noncomputable def placeN (x y : Int) (rows : List (List Int)) (lists : List (List (List Int))) : Nat → Nat
  | 0 => bisL ((hereK lists 0).map fst0) y
  | k + 1 => bisect (fun i => decide (((belowK lists k).map fst0).getD i 0 < y)) (plTop x (rows.getD k []) (hereK lists k) (belowK lists k) (placeN x y rows lists k) - 1) (plTop x (rows.getD k []) (hereK lists k) (belowK lists k) (placeN x y rows lists k))
noncomputable def toldN (x y : Int) (rows : List (List Int)) (lists : List (List (List Int))) (k : Nat) : Int := (plEntry x (rows.getD k []) (hereK lists k) (belowK lists k) (placeN x y rows lists k)).getD 1 0
noncomputable def toldF (x y : Int) (rows : List (List Int)) (lists : List (List (List Int))) : List Int := (List.range 3).map (toldN x y rows lists)
/-- what the walk needs of the lists -/
noncomputable def ListsOK (rows : List (List Int)) (lists : List (List (List Int))) : Prop :=
  rows.length = 3 ∧ lists.length = 3 ∧ (∀ r ∈ rows, r.length ≤ 20) ∧ (∀ l ∈ lists, l.length ≤ 90) ∧ ∀ k, k < 3 → ∀ e ∈ hereK lists k, e.length = 4 ∧ 0 ≤ e.getD 2 0 ∧ e.getD 2 0 ≤ (belowK lists k).length
theorem btrace_pick {p : Nat → Bool} {vs : List Value} {lo hi : Nat} (h1 : lo = hi - 1) (h2 : hi ≤ vs.length) : btrace p vs lo hi = pick vs (some (lo : Int)) (some (hi : Int)) := by
  unfold pick
  have e1 : kms_lo (some (lo : Int)) vs.length = lo := by
    have : ¬ ((lo : Int) < 0) := by omega
    unfold kms_lo; simp [this]; omega
  have e2 : kms_hi (some (hi : Int)) vs.length = hi := by
    have : ¬ ((hi : Int) < 0) := by omega
    unfold kms_hi; simp [this]; omega
  rw [e1, e2]
  by_cases h : lo < hi
  · have hm : (lo + hi) / 2 = lo := by omega
    have hd : vs.drop lo = vs.getD lo .none :: vs.drop (lo + 1) := by
      rw [List.drop_eq_getElem_cons (by omega)]
      simp [show lo < vs.length by omega]
    have ht : hi - lo = 1 := by omega
    rw [ht, hd, List.take_succ_cons, List.take_zero]
    cases hp : p ((lo + hi) / 2) with
    | true => rw [btrace_up h hp, hm, btrace_ge (by omega)]
    | false => rw [btrace_down h hp, hm, btrace_ge (by omega)]
  · rw [btrace_ge h, show hi - lo = 0 by omega]; rfl
theorem shiftR {ks : List Int} {x : Int} {a b : Nat} : bisect (fun i => !decide (x < ks.getD i 0)) a b = bisect (fun i => decide (ks.getD i 0 < x + 1)) a b := by
  have : (fun i => !decide (x < ks.getD i 0)) = fun i => decide (ks.getD i 0 < x + 1) := by
    funext i
    rw [Bool.eq_iff_iff]
    simp
    omega
  rw [this]
theorem bisLR_of {k : Nat} {ks : List Int} {v : Int} (h : k = ks.length) : bisect (fun i => !decide (v < ks.getD i 0)) 0 k = bisL ks (v + 1) := by rw [shiftR, h]; rfl
noncomputable def forBody : List Stmt → List Stmt
  | _ :: _ :: .For _ _ b _ _ :: _ => b
  | _ => []
theorem tlP1 {a b : Addr × Obj} {tb r : Led} : ∀ q ∈ tb ++ (a :: b :: r), q ∈ a :: b :: (tb ++ r) := fun q hq => by
  simp only [List.mem_cons, List.mem_append] at hq ⊢; grind
theorem tlP2 {a b c d : Addr × Obj} {tb r : Led} : ∀ q ∈ a :: c :: d :: b :: (tb ++ r), q ∈ c :: d :: (tb ++ (a :: b :: r)) := fun q hq => by
  simp only [List.mem_cons, List.mem_append] at hq ⊢; grind
theorem eqRE : EqR (RL RI) 1 := RL.eqR (RI.eqR 0) RI.fun
theorem NoteCode.mono {a b : Led} {c : Addr} (h : NoteCode a c) (s : ∀ q ∈ a, q ∈ b) : NoteCode b c := let ⟨oc, vs, t, hm, r⟩ := h; ⟨oc, vs, t, s _ hm, r⟩
section
variable {w : World} {dp un : Nat} {gd : Option (List Code)} {cn : Str} {L a : Addr} {ccd : Value} {outer : List Env} {A₀ : Around} {base h₀ : Heap}
  {m : Str → Option Value} {news : Led} {s : Shared} {Q : Flow → Shared → Prop} {E : Value → Shared → Prop} {p : Program} {loose : List Str} {mean : ExcName → Option Value} {mg mb : Str → Option Value}
set_option maxRecDepth 100000 in
set_option maxHeartbeats 40000000 in
theorem tail_L {To ae ab : Addr} {tv we wb : List Value} {tc ne nb tp : Nat} {e0 e1 e3 x : Int} {u0 u1 u2 u3 tx : Tok} {below : List (List Int)} {tb news2 : Led} (C : CodeHd base 63 59)
    (B : Below A₀ base outer h₀) (F : Fr h₀ L s.heap m) (X : (top.heap_39 w.params).In h₀) (N : News h₀ L s.heap ((To, PySem.W.listOf tv.toArray tc) :: (tb ++ news2))) (T : Top p loose mean mg mb h₀) (hT : NoteTab w tb) (off : ∀ p ∈ tb ++ news2, p.1 ≠ To) (htb : ∀ q ∈ news2, ∀ p ∈ tb, q.1 ≠ p.1)
    (f1 : m (Str.ofString "told") = some (.ref To)) (f2 : m (Str.ofString "entry") = some (.ref ae)) (f3 : m (Str.ofString "below") = some (.ref ab)) (f4 : m (Str.ofString "x") = some (.int x tx)) (f5 : m (Str.ofString "search") = some (.ref 50))
    (hae : (ae, PySem.W.listOf we.toArray ne) ∈ news2) (hwe : we = [.int e0 u0, .int e1 u1, .int (tp : Nat) u2, .int e3 u3]) (htp : tp ≤ below.length)
    (hab : (ab, PySem.W.listOf wb.toArray nb) ∈ news2) (hB : RA (RL RI) news2 wb below) (hne : ∀ e ∈ below, e ≠ []) (hbl9 : below.length ≤ 90) (htv : tv.length ≤ 10) (hdp : dp + 5 ≤ 400) (hun : un + 50 ≤ 4500)
    (ret : ∀ h' tk' tb' t1 t2 m', Fr h₀ L h' m' → News h₀ L h' ((To, PySem.W.listOf (tv ++ [Value.int e1 t1]).toArray (tc + 1)) :: (tb' ++ news2)) → NoteTab w tb' → (∀ q ∈ news2, ∀ p ∈ tb', q.1 ≠ p.1) → (∀ p ∈ tb', p.1 ≠ To) → m' (Str.ofString "place") = some (.int (bisect (fun i => decide ((below.map fst0).getD i 0 < x)) (tp - 1) tp : Nat) t2) →
      (∀ y v, m y = some v → y ≠ Str.ofString "place" → y ≠ Str.ofString "noted" → y ≠ Str.ofString "bottom" → y ≠ Str.ofString "top" → m' y = some v) → Q .next { s with heap := h', toks := tk' }) :
    wpAny (model PySem.Challenge.rw_pe0007_01.row.prog w) (ktrTop dp un gd cn (fdAt (top.heap_39 w.params) 95).scope L a ccd [] outer) (execs ((forBody (stmtsOf (fdAt (top.heap_39 w.params) 95).body)).drop 3) (envX cn (fdAt (top.heap_39 w.params) 95).scope L a ccd [])) Q E s := by
  (have X' := X; revert X'; k_fill; intro hX9; clear hX9)
  k_dflt (refine' body_of (K := (top.heap_39 w.params)) (P := fun fd => wpAny (model PySem.Challenge.rw_pe0007_01.row.prog w) (ktrTop dp un gd cn fd.scope L a ccd [] outer) (execs ((forBody (stmtsOf fd.body)).drop 3) (envX cn fd.scope L a ccd [])) Q E s) ?ho ?_; (case ho => k_is))
  dsimp only [fnOf, stmtsOf, forBody, List.drop]
  have hcL := cLine_is
  have hae1 : we[1]? = some (.int e1 u1) := by rw [hwe]; rfl
  have hae2 : we[2]? = some (.int (tp : Nat) u2) := by rw [hwe]; rfl
  have hbl := hB.length
  have TN : ∀ p ∈ news2, p.1 ≠ To := fun p hp => off p (List.mem_append_right _ hp)
  have hae' : ∀ y, (ae, PySem.W.listOf we.toArray ne) ∈ (To, y) :: (tb ++ news2) := fun _ => .tail _ (List.mem_append_right _ hae)
  ktr_unf
  refine Stop.go ?_
  k_dflt (refine itemL (by k_asm) (hae' _) (by decide) (by decide) hae1 ?_)
  ktr_unf
  refine Stop.go ?_
  k_dflt (refine appendL (l := To) (vs := tv) (n := tc) F N off (by omega) ?_)
  intro h₁ F₁ N₁
  ktr_unf
  refine Stop.go ?_
  k_dflt (refine itemL (by k_asm) (hae' _) (by decide) (by decide) hae2 ?_)
  ktr_unf
  rename_i No g0 ltN h₂ F₂ N₂
  refine Stop.go ?_
  have hbot : (if (0 : Int) > (tp : Int) - 1 then (0 : Int) else (tp : Int) - 1) = ((tp - 1 : Nat) : Int) := by split <;> omega
  simp only [hbot] at F₂
  rw [hbot]
  have nT : To ≠ No := Nat.ne_of_lt (ltN _ (.head _))
  have nB : ∀ q ∈ tb, q.1 ≠ No := fun q hq => Nat.ne_of_lt (ltN q (.tail _ (List.mem_append_left _ hq)))
  have nN : ∀ q ∈ news2, q.1 ≠ No := fun q hq => Nat.ne_of_lt (ltN q (.tail _ (List.mem_append_right _ hq)))
  have N₃ := News.sub N₂ tlP1
  clear ltN N₂
  k_dflt (refine noting_call (D := No) (tb := tb) (news := (No, PySem.W.listOf (List.toArray []) 0) :: (To, PySem.W.listOf (tv ++ [Value.int e1 u1]).toArray (tc + 1)) :: news2) C B F₂ X N₃ T rfl hT (fun q hq p hp => by
    rcases List.mem_cons.mp hq with rfl | hq
    · exact (nB p hp).symm
    · rcases List.mem_cons.mp hq with rfl | hq
      · exact (off p (List.mem_append_left _ hp)).symm
      · exact htb q hq p hp) (by omega) (by omega) ?_)
  intro q fo c1 o1 c tb' h₄ tk₄ F₄ N₄ hT' hfo hcode d1 ap1 ap2 ap3
  have q1 : ∀ p ∈ tb', p.1 ≠ q := fun p hp => (ap1 p (List.mem_append_left _ hp)).1
  have c1' : ∀ p ∈ tb', p.1 ≠ c1 := fun p hp => (ap1 p (List.mem_append_left _ hp)).2
  have qN : No ≠ q := (ap1 _ (List.mem_append_right _ (.head _))).1
  have cN : No ≠ c1 := (ap1 _ (List.mem_append_right _ (.head _))).2
  have tN : ∀ p ∈ tb', p.1 ≠ No := fun p hp => (ap2 _ (.head _) p hp).symm
  have tT : ∀ p ∈ tb', p.1 ≠ To := fun p hp => (ap2 _ (.tail _ (.head _)) p hp).symm
  have tW : ∀ q ∈ news2, ∀ p ∈ tb', q.1 ≠ p.1 := fun q hq => ap2 q (.tail _ (.tail _ hq))
  clear N₃ ap1 ap2
  have N₅ := News.sub N₄ tlP2
  obtain ⟨rest, hrest⟩ : ∃ rest, rest = (q, fo) :: (c1, o1) :: (To, PySem.W.listOf (tv ++ [Value.int e1 u1]).toArray (tc + 1)) :: (tb' ++ news2) := ⟨_, rfl⟩
  rw [← hrest] at N₅
  have offNo : ∀ p ∈ rest, p.1 ≠ No := by rw [hrest]; exact offC qN.symm (offC cN.symm (offC nT (offA tN nN)))
  have rq : (q, fo) ∈ rest := by rw [hrest]; exact .head _
  have rc : (c1, o1) ∈ rest := by rw [hrest]; exact .tail _ (.head _)
  have rt : ∀ p ∈ tb', p ∈ rest := fun p hp => by rw [hrest]; exact .tail _ (.tail _ (.tail _ (List.mem_append_left _ hp)))
  have rn : ∀ p ∈ news2, p ∈ rest := fun p hp => by rw [hrest]; exact .tail _ (.tail _ (.tail _ (List.mem_append_right _ hp)))
  have hBr : RA (RL RI) rest wb below := hB.mono (RL.mono RI.mono) rn
  have KC : ∀ dm um, dm + 2 ≤ 400 → um + 20 ≤ 5000 → KeyB PySem.Challenge.rw_pe0007_01.row.prog w (top.heap_39 w.params) q dm um 5 (fun tr => (No, PySem.W.listOf tr.toArray tr.length) :: rest) wb (fun i r => ∃ t, r = .int ((below.map fst0).getD i 0) t) := fun dm um h1 h2 => note_key hfo rq rc (hcode.mono rt) d1 offNo hBr hne h1 h2 (by omega)
  have habR : ∀ y, (ab, PySem.W.listOf wb.toArray nb) ∈ (No, y) :: rest := fun _ => .tail _ (rn _ hab)
  clear N₄ hfo hcode d1 rc rq
  ktr_unf
  refine Stop.go ?_
  k_dflt (refine bl_key (l := ab) (ks := below.map fst0) (x := x) (lo := tp - 1) (hi := tp) (hv := .int (tp : Nat) u2) (tr := []) (bd := 5) (G := fun tr => (No, PySem.W.listOf tr.toArray tr.length) :: rest) B (by k_asm) X N₅ T rfl (KC _ _ (by omega) (by omega)) (fun _ => habR _) (by omega) (by omega) (by show 0 + (tp - (tp - 1)) ≤ 5; omega) (.inr ⟨u2, rfl⟩) (by omega) (bd4k_50 (X.keeps (Fr.keep (by k_asm))) _ _ _ _ _) ?_)
  intro t₅ h₅ tk₅ F₅ N₆
  clear N₅
  have htr : btrace (fun i => decide ((below.map fst0).getD i 0 < x)) wb (tp - 1) tp = pick wb (some ((tp - 1 : Nat) : Int)) (some (tp : Int)) := btrace_pick rfl (by omega)
  rw [List.nil_append, htr] at N₆
  have hpl := pick_len wb (some ((tp - 1 : Nat) : Int)) (some (tp : Int))
  ktr_unf
  refine Stop.go ?_
  k_dflt (refine sliceL (by k_asm) (by k_asm) (habR _) (IsPart.int _ _) (IsPart.int _ _) (by omega) ?_ (by with_unfolding_all rfl) (by intro _; with_unfolding_all rfl))
  intro Sl h₇ F₇ N₇ ltS
  show wpAny _ _ (compareOp CmpOp.NotEq (Value.ref No) (Value.ref Sl)) _ _ _
  have hpick := (hBr.pick (some ((tp - 1 : Nat) : Int)) (some (tp : Int)))
  refine RL.ne (R := RL RI) (xs := pick below (some ((tp - 1 : Nat) : Int)) (some (tp : Int))) (ys := pick below (some ((tp - 1 : Nat) : Int)) (some (tp : Int))) eqRE (by k_asm) ⟨No, _, _, rfl, .tail _ (.head _), hpick.mono (RL.mono RI.mono) (fun q hq => .tail _ (.tail _ hq))⟩ ⟨Sl, _, _, rfl, .head _, hpick.mono (RL.mono RI.mono) (fun q hq => .tail _ (.tail _ hq))⟩ (by show un + (1 + 1) < cLine; omega) _ _ _ _ ?_
  rw [decide_eq_true rfl]
  clear KC hpick hBr habR offNo
  walk1
  rw [if_neg (show ¬ ((!true) = true) from Bool.false_ne_true)]
  refine wpAny_execs_nil ?_
  refine wpAny_execs_nil ?_
  subst hrest
  exact ret _ _ tb' _ t₅ _ (by k_asm) (News.sub N₇ (fun q hq => .tail _ (.tail _ (.tail _ (.tail _ hq))))) hT' tW tT (by tb_start) (fun y v hy n1 n2 n3 n4 => (if_neg n1).trans ((if_neg n2).trans ((if_neg n3).trans ((if_neg n4).trans hy))))
set_option maxRecDepth 100000 in
set_option maxHeartbeats 40000000 in
theorem tail_R {To ae ab : Addr} {tv we wb : List Value} {tc ne nb tp : Nat} {e0 e1 e3 x : Int} {u0 u1 u2 u3 tx : Tok} {below : List (List Int)} {tb news2 : Led} (C : CodeHd base 63 59)
    (B : Below A₀ base outer h₀) (F : Fr h₀ L s.heap m) (X : (top.heap_39 w.params).In h₀) (N : News h₀ L s.heap ((To, PySem.W.listOf tv.toArray tc) :: (tb ++ news2))) (T : Top p loose mean mg mb h₀) (hT : NoteTab w tb) (off : ∀ p ∈ tb ++ news2, p.1 ≠ To) (htb : ∀ q ∈ news2, ∀ p ∈ tb, q.1 ≠ p.1)
    (f1 : m (Str.ofString "told") = some (.ref To)) (f2 : m (Str.ofString "entry") = some (.ref ae)) (f3 : m (Str.ofString "below") = some (.ref ab)) (f4 : m (Str.ofString "x") = some (.int x tx)) (f5 : m (Str.ofString "search") = some (.ref 32))
    (hae : (ae, PySem.W.listOf we.toArray ne) ∈ news2) (hwe : we = [.int e0 u0, .int e1 u1, .int (tp : Nat) u2, .int e3 u3]) (htp : tp ≤ below.length)
    (hab : (ab, PySem.W.listOf wb.toArray nb) ∈ news2) (hB : RA (RL RI) news2 wb below) (hne : ∀ e ∈ below, e ≠ []) (hbl9 : below.length ≤ 90) (htv : tv.length ≤ 10) (hdp : dp + 5 ≤ 400) (hun : un + 50 ≤ 4500)
    (ret : ∀ h' tk' tb' t1 t2 m', Fr h₀ L h' m' → News h₀ L h' ((To, PySem.W.listOf (tv ++ [Value.int e1 t1]).toArray (tc + 1)) :: (tb' ++ news2)) → NoteTab w tb' → (∀ q ∈ news2, ∀ p ∈ tb', q.1 ≠ p.1) → (∀ p ∈ tb', p.1 ≠ To) → m' (Str.ofString "place") = some (.int (bisect (fun i => decide ((below.map fst0).getD i 0 < (x + 1))) (tp - 1) tp : Nat) t2) →
      (∀ y v, m y = some v → y ≠ Str.ofString "place" → y ≠ Str.ofString "noted" → y ≠ Str.ofString "bottom" → y ≠ Str.ofString "top" → m' y = some v) → Q .next { s with heap := h', toks := tk' }) :
    wpAny (model PySem.Challenge.rw_pe0007_01.row.prog w) (ktrTop dp un gd cn (fdAt (top.heap_39 w.params) 95).scope L a ccd [] outer) (execs ((forBody (stmtsOf (fdAt (top.heap_39 w.params) 95).body)).drop 3) (envX cn (fdAt (top.heap_39 w.params) 95).scope L a ccd [])) Q E s := by
  (have X' := X; revert X'; k_fill; intro hX9; clear hX9)
  k_dflt (refine' body_of (K := (top.heap_39 w.params)) (P := fun fd => wpAny (model PySem.Challenge.rw_pe0007_01.row.prog w) (ktrTop dp un gd cn fd.scope L a ccd [] outer) (execs ((forBody (stmtsOf fd.body)).drop 3) (envX cn fd.scope L a ccd [])) Q E s) ?ho ?_; (case ho => k_is))
  dsimp only [fnOf, stmtsOf, forBody, List.drop]
  have hcL := cLine_is
  have hae1 : we[1]? = some (.int e1 u1) := by rw [hwe]; rfl
  have hae2 : we[2]? = some (.int (tp : Nat) u2) := by rw [hwe]; rfl
  have hbl := hB.length
  have TN : ∀ p ∈ news2, p.1 ≠ To := fun p hp => off p (List.mem_append_right _ hp)
  have hae' : ∀ y, (ae, PySem.W.listOf we.toArray ne) ∈ (To, y) :: (tb ++ news2) := fun _ => .tail _ (List.mem_append_right _ hae)
  ktr_unf
  refine Stop.go ?_
  k_dflt (refine itemL (by k_asm) (hae' _) (by decide) (by decide) hae1 ?_)
  ktr_unf
  refine Stop.go ?_
  k_dflt (refine appendL (l := To) (vs := tv) (n := tc) F N off (by omega) ?_)
  intro h₁ F₁ N₁
  ktr_unf
  refine Stop.go ?_
  k_dflt (refine itemL (by k_asm) (hae' _) (by decide) (by decide) hae2 ?_)
  ktr_unf
  rename_i No g0 ltN h₂ F₂ N₂
  refine Stop.go ?_
  have hbot : (if (0 : Int) > (tp : Int) - 1 then (0 : Int) else (tp : Int) - 1) = ((tp - 1 : Nat) : Int) := by split <;> omega
  simp only [hbot] at F₂
  rw [hbot]
  have nT : To ≠ No := Nat.ne_of_lt (ltN _ (.head _))
  have nB : ∀ q ∈ tb, q.1 ≠ No := fun q hq => Nat.ne_of_lt (ltN q (.tail _ (List.mem_append_left _ hq)))
  have nN : ∀ q ∈ news2, q.1 ≠ No := fun q hq => Nat.ne_of_lt (ltN q (.tail _ (List.mem_append_right _ hq)))
  have N₃ := News.sub N₂ tlP1
  clear ltN N₂
  k_dflt (refine noting_call (D := No) (tb := tb) (news := (No, PySem.W.listOf (List.toArray []) 0) :: (To, PySem.W.listOf (tv ++ [Value.int e1 u1]).toArray (tc + 1)) :: news2) C B F₂ X N₃ T rfl hT (fun q hq p hp => by
    rcases List.mem_cons.mp hq with rfl | hq
    · exact (nB p hp).symm
    · rcases List.mem_cons.mp hq with rfl | hq
      · exact (off p (List.mem_append_left _ hp)).symm
      · exact htb q hq p hp) (by omega) (by omega) ?_)
  intro q fo c1 o1 c tb' h₄ tk₄ F₄ N₄ hT' hfo hcode d1 ap1 ap2 ap3
  have q1 : ∀ p ∈ tb', p.1 ≠ q := fun p hp => (ap1 p (List.mem_append_left _ hp)).1
  have c1' : ∀ p ∈ tb', p.1 ≠ c1 := fun p hp => (ap1 p (List.mem_append_left _ hp)).2
  have qN : No ≠ q := (ap1 _ (List.mem_append_right _ (.head _))).1
  have cN : No ≠ c1 := (ap1 _ (List.mem_append_right _ (.head _))).2
  have tN : ∀ p ∈ tb', p.1 ≠ No := fun p hp => (ap2 _ (.head _) p hp).symm
  have tT : ∀ p ∈ tb', p.1 ≠ To := fun p hp => (ap2 _ (.tail _ (.head _)) p hp).symm
  have tW : ∀ q ∈ news2, ∀ p ∈ tb', q.1 ≠ p.1 := fun q hq => ap2 q (.tail _ (.tail _ hq))
  clear N₃ ap1 ap2
  have N₅ := News.sub N₄ tlP2
  obtain ⟨rest, hrest⟩ : ∃ rest, rest = (q, fo) :: (c1, o1) :: (To, PySem.W.listOf (tv ++ [Value.int e1 u1]).toArray (tc + 1)) :: (tb' ++ news2) := ⟨_, rfl⟩
  rw [← hrest] at N₅
  have offNo : ∀ p ∈ rest, p.1 ≠ No := by rw [hrest]; exact offC qN.symm (offC cN.symm (offC nT (offA tN nN)))
  have rq : (q, fo) ∈ rest := by rw [hrest]; exact .head _
  have rc : (c1, o1) ∈ rest := by rw [hrest]; exact .tail _ (.head _)
  have rt : ∀ p ∈ tb', p ∈ rest := fun p hp => by rw [hrest]; exact .tail _ (.tail _ (.tail _ (List.mem_append_left _ hp)))
  have rn : ∀ p ∈ news2, p ∈ rest := fun p hp => by rw [hrest]; exact .tail _ (.tail _ (.tail _ (List.mem_append_right _ hp)))
  have hBr : RA (RL RI) rest wb below := hB.mono (RL.mono RI.mono) rn
  have KC : ∀ dm um, dm + 2 ≤ 400 → um + 20 ≤ 5000 → KeyB PySem.Challenge.rw_pe0007_01.row.prog w (top.heap_39 w.params) q dm um 5 (fun tr => (No, PySem.W.listOf tr.toArray tr.length) :: rest) wb (fun i r => ∃ t, r = .int ((below.map fst0).getD i 0) t) := fun dm um h1 h2 => note_key hfo rq rc (hcode.mono rt) d1 offNo hBr hne h1 h2 (by omega)
  have habR : ∀ y, (ab, PySem.W.listOf wb.toArray nb) ∈ (No, y) :: rest := fun _ => .tail _ (rn _ hab)
  clear N₄ hfo hcode d1 rc rq
  ktr_unf
  refine Stop.go ?_
  k_dflt (refine br_key (l := ab) (ks := below.map fst0) (x := x) (lo := tp - 1) (hi := tp) (hv := .int (tp : Nat) u2) (tr := []) (bd := 5) (G := fun tr => (No, PySem.W.listOf tr.toArray tr.length) :: rest) B (by k_asm) X N₅ T rfl (KC _ _ (by omega) (by omega)) (fun _ => habR _) (by omega) (by omega) (by show 0 + (tp - (tp - 1)) ≤ 5; omega) (.inr ⟨u2, rfl⟩) (by omega) (bd4k_32 (X.keeps (Fr.keep (by k_asm))) _ _ _ _ _) ?_)
  intro t₅ h₅ tk₅ F₅ N₆
  rw [shiftR]
  clear N₅
  have htr : btrace (fun i => !decide (x < (below.map fst0).getD i 0)) wb (tp - 1) tp = pick wb (some ((tp - 1 : Nat) : Int)) (some (tp : Int)) := btrace_pick rfl (by omega)
  rw [List.nil_append, htr] at N₆
  have hpl := pick_len wb (some ((tp - 1 : Nat) : Int)) (some (tp : Int))
  ktr_unf
  refine Stop.go ?_
  k_dflt (refine sliceL (by k_asm) (by k_asm) (habR _) (IsPart.int _ _) (IsPart.int _ _) (by omega) ?_ (by with_unfolding_all rfl) (by intro _; with_unfolding_all rfl))
  intro Sl h₇ F₇ N₇ ltS
  show wpAny _ _ (compareOp CmpOp.NotEq (Value.ref No) (Value.ref Sl)) _ _ _
  have hpick := (hBr.pick (some ((tp - 1 : Nat) : Int)) (some (tp : Int)))
  refine RL.ne (R := RL RI) (xs := pick below (some ((tp - 1 : Nat) : Int)) (some (tp : Int))) (ys := pick below (some ((tp - 1 : Nat) : Int)) (some (tp : Int))) eqRE (by k_asm) ⟨No, _, _, rfl, .tail _ (.head _), hpick.mono (RL.mono RI.mono) (fun q hq => .tail _ (.tail _ hq))⟩ ⟨Sl, _, _, rfl, .head _, hpick.mono (RL.mono RI.mono) (fun q hq => .tail _ (.tail _ hq))⟩ (by show un + (1 + 1) < cLine; omega) _ _ _ _ ?_
  rw [decide_eq_true rfl]
  clear KC hpick hBr habR offNo
  walk1
  rw [if_neg (show ¬ ((!true) = true) from Bool.false_ne_true)]
  refine wpAny_execs_nil ?_
  refine wpAny_execs_nil ?_
  subst hrest
  exact ret _ _ tb' _ t₅ _ (by k_asm) (News.sub N₇ (fun q hq => .tail _ (.tail _ (.tail _ (.tail _ hq))))) hT' tW tT (by tb_start) (fun y v hy n1 n2 n3 n4 => (if_neg n1).trans ((if_neg n2).trans ((if_neg n3).trans ((if_neg n4).trans hy))))
end
end
section
theorem offE01i : True := by
  w_top off
  trivial
local macro_rules | `(tactic| walk_at "noneE01i0") => `(tactic| fail)
local macro_rules | `(tactic| walk_at "callWith ref") => `(tactic| (first | refine callWith_F (FnAt.ofK (Frag.In.keeps (by assumption) (Fr.keep (by k_asm))) (by kernel_rfl)) ?_ | refine callWith_F (KeyOK.fn (by assumption) _ _ _ _ (Frag.In.keeps (by assumption) (Fr.keep (by k_asm))) (by k_asm)) ?_ | refine callWith_F (KeyOK.fn (by assumption) [] _ _ _ (Frag.In.keeps (by assumption) (Fr.keep (by k_asm))) (by k_asm)) ?_))
local macro_rules | `(tactic| walk_at "And") => `(tactic| (first | refine ⟨FnAt.ofK (Frag.In.keeps (by assumption) (Fr.keep (by k_asm))) (by kernel_rfl), ?_⟩ | refine ⟨KeyOK.fn (by assumption) _ _ _ _ (Frag.In.keeps (by assumption) (Fr.keep (by k_asm))) (by k_asm), ?_⟩ | refine ⟨KeyOK.fn (by assumption) [] _ _ _ (Frag.In.keeps (by assumption) (Fr.keep (by k_asm))) (by k_asm), ?_⟩))
local macro_rules | `(tactic| walk_at "subscriptTail Name Constant ref int") => `(tactic| (refine Stop.at ?_))
local macro_rules | `(tactic| walk_at "subscriptTail Name BinOp ref int") => `(tactic| (refine Stop.at ?_))
local macro_rules | `(tactic| walk_at "subscriptTail Name Name ref int") => `(tactic| (refine Stop.at ?_))
local macro_rules | `(tactic| walk_at "execs cons") => `(tactic| ((with_reducible show wpAny _ _ (execs (Stmt.Expr _ _ :: _) _) _ _ _); refine Stop.at ?_))
noncomputable def PlacesJ (w : World) (news : Led) (To rl ll sf : Addr) (x : Int) (tx : Tok) (told : List Int) (place : Nat) (m₁ : Str → Option Value) (n₁ : Led) : Prop :=
  ∃ tv c tb tp, n₁ = (To, PySem.W.listOf (List.toArray tv) c) :: (tb ++ news) ∧ NoteTab w tb ∧ (∀ p ∈ tb, p.1 ≠ To) ∧ (∀ q ∈ news, ∀ p ∈ tb, q.1 ≠ p.1) ∧ RA RI [] tv told ∧ m₁ (Str.ofString "told") = some (.ref To) ∧ m₁ (Str.ofString "place") = some (.int (place : Nat) tp) ∧
    m₁ (Str.ofString "rows") = some (.ref rl) ∧ m₁ (Str.ofString "lists") = some (.ref ll) ∧ m₁ (Str.ofString "x") = some (.int x tx) ∧ m₁ (Str.ofString "search") = some (.ref sf)
theorem plP1 {i t : Addr × Obj} {tb r : Led} : ∀ q ∈ t :: (tb ++ (i :: r)), q ∈ i :: t :: (tb ++ r) := fun q hq => by
  simp only [List.mem_cons, List.mem_append] at hq ⊢; grind
theorem plP2 {e i t : Addr × Obj} {tb r : Led} : ∀ q ∈ t :: (tb ++ (e :: i :: r)), q ∈ e :: i :: t :: (tb ++ r) := fun q hq => by
  simp only [List.mem_cons, List.mem_append] at hq ⊢; grind
theorem plP3 {b e i t : Addr × Obj} {tb r : Led} : ∀ q ∈ t :: (tb ++ (e :: b :: i :: r)), q ∈ e :: b :: i :: t :: (tb ++ r) := fun q hq => by
  simp only [List.mem_cons, List.mem_append] at hq ⊢; grind
theorem RA.cons_inv {α : Type} {R : Led → Value → α → Prop} {led : Led} {we : List Value} {x : α} {e : List α} (h : RA R led we (x :: e)) : ∃ v vs, we = v :: vs ∧ R led v x ∧ RA R led vs e := by
  cases h with
  | cons a b => exact ⟨_, _, rfl, a, b⟩
theorem four_ints {led : Led} {we : List Value} {e : List Int} (h : RA RI led we e) (h4 : e.length = 4) : ∃ t0 t1 t2 t3, we = [.int (e.getD 0 0) t0, .int (e.getD 1 0) t1, .int (e.getD 2 0) t2, .int (e.getD 3 0) t3] := by
  obtain ⟨a, e, rfl⟩ := List.exists_cons_of_length_eq_add_one (n := 3) h4
  obtain ⟨b, e, rfl⟩ := List.exists_cons_of_length_eq_add_one (n := 2) (Nat.succ.inj h4)
  obtain ⟨c, e, rfl⟩ := List.exists_cons_of_length_eq_add_one (n := 1) (Nat.succ.inj (Nat.succ.inj h4))
  obtain ⟨d, e, rfl⟩ := List.exists_cons_of_length_eq_add_one (n := 0) (Nat.succ.inj (Nat.succ.inj (Nat.succ.inj h4)))
  have h5 : e = [] := List.length_eq_zero_iff.mp (Nat.succ.inj (Nat.succ.inj (Nat.succ.inj (Nat.succ.inj h4))))
  subst h5
  obtain ⟨_, _, rfl, ⟨t0, rfl⟩, h6⟩ := h.cons_inv
  obtain ⟨_, _, rfl, ⟨t1, rfl⟩, h7⟩ := h6.cons_inv
  obtain ⟨_, _, rfl, ⟨t2, rfl⟩, h8⟩ := h7.cons_inv
  obtain ⟨_, _, rfl, ⟨t3, rfl⟩, h9⟩ := h8.cons_inv
  cases h9
  exact ⟨t0, t1, t2, t3, rfl⟩
section
variable {w : World} {dp un : Nat} {gd : Option (List Code)} {cn : Str} {cs : Scope} {L a : Addr} {ccd : Value} {cl : List (Str × Addr)} {outer : List Env} {A₀ : Around} {base h₀ : Heap}
  {m : Str → Option Value} {news : Led} {s : Shared} {Q E : Value → Shared → Prop} {p : Program} {loose : List Str} {mean : ExcName → Option Value} {mg mb : Str → Option Value}
set_option maxRecDepth 100000 in
set_option maxHeartbeats 40000000 in
theorem places_L {rl ll : Addr} {rv lv : List Value} {rn ln : Nat} {rows : List (List Int)} {lists : List (List (List Int))} {x : Int} {tx : Tok} {tb : Led} (C : CodeHd base 63 59)
    (B : Below A₀ base outer h₀) (F : Fr h₀ L s.heap m) (X : (top.heap_39 w.params).In h₀) (N : News h₀ L s.heap (tb ++ news)) (T : Top p loose mean mg mb h₀) (hk : cs.kind = .function) (hT : NoteTab w tb) (htb : ∀ q ∈ news, ∀ p ∈ tb, q.1 ≠ p.1)
    (hrm : (rl, PySem.W.listOf rv.toArray rn) ∈ news) (hR : RA (RL RI) news rv rows) (hlm : (ll, PySem.W.listOf lv.toArray ln) ∈ news) (hLV : RA (RL (RL RI)) news lv lists) (hOK : ListsOK rows lists) (hdp : dp + 6 ≤ 400) (hun : un + 60 ≤ 4000)
    (ret : ∀ r tl tb' h' tk', Fr h₀ L h' m → News h₀ L h' (tl ++ (tb' ++ news)) → NoteTab w tb' → (∀ q ∈ news, ∀ p ∈ tb', q.1 ≠ p.1) → (∀ q ∈ tb' ++ news, ∀ p ∈ tl, q.1 ≠ p.1) → RL RI tl r (toldF x x rows lists) → Q r { s with heap := h', toks := tk' }) :
    wpAny (model PySem.Challenge.rw_pe0007_01.row.prog w) (ktrTop dp un gd cn cs L a ccd cl outer) (call (.ref 95) [.ref rl, .ref ll, .int x tx, .ref 50]) Q E s := by
  (have X' := X; revert X'; k_fill; intro hX9; clear hX9)
  k_dflt (refine' with_fdX (K := (top.heap_39 w.params)) (f := 95) X ?ho ?_; (case ho => k_is))
  intro hfd
  k_dflt (refine' enter (binds := [((Str.ofString "rows"), .ref rl), ((Str.ofString "lists"), .ref ll), ((Str.ofString "x"), .int x tx), ((Str.ofString "search"), .ref 50)]) B F X N T hk ?ho ?hcd (by omega) ?hb ?hl ?hc ?co ?ge ?hk ?_; (case ho => k_is); (case hcd => k_is); (case hb => exact BindsTo.of_eq rfl); (case hl => exact locs rfl); (case hc => decide); (case co => rfl); (case ge => rfl); (case hk => rfl))
  intro g L' h₁ F' N' B' X' T' lt'
  k_fold
  have hcL := cLine_is
  have C' : CodeHd g 63 59 := CodeHd.keeps C (Below.stays B')
  obtain ⟨hr3, hl3, hr20, hl90, hE⟩ := hOK
  have hrl := hR.length
  have hll := hLV.length
  obtain ⟨v2, hv2, a2, w2, n2, rfl, hm2, hw2⟩ := hLV.get (i := 2) (x := hereK lists 0) (by simp [hereK, hl3])
  ktr_unf
  rename_i To g0 ltT h₂ F₂ N₂
  refine Stop.go ?_
  k_dflt (refine itemL (by k_asm) (.tail _ (List.mem_append_right _ hlm)) (by decide) (by decide) hv2 ?_)
  have h490 : ∀ k, k < 3 → (hereK lists k).length ≤ 90 := fun k hk => by
    unfold hereK
    have : lists.getD (2 - k) [] = lists[2 - k] := by simp [show 2 - k < lists.length by omega]
    rw [this]; exact hl90 _ (List.getElem_mem _)
  have hne : ∀ k, k < 3 → ∀ e ∈ hereK lists k, e ≠ [] := fun k hk e he q => by have := (hE k hk e he).1; rw [q] at this; cases this
  have hw2l := hw2.length
  have h290 := h490 0 (by omega)
  have TB : ∀ p ∈ tb, p.1 ≠ To := fun p hp => Nat.ne_of_lt (ltT p (List.mem_append_left _ hp))
  have TN : ∀ p ∈ news, p.1 ≠ To := fun p hp => Nat.ne_of_lt (ltT p (List.mem_append_right _ hp))
  clear ltT
  ktr_unf
  refine Stop.go ?_
  k_dflt (refine bl_key (l := a2) (ks := (hereK lists 0).map fst0) (x := x) (lo := 0) (hi := w2.length) (hv := .none) (tr := []) (bd := 100) (G := fun _ => (To, PySem.W.listOf (List.toArray []) 0) :: (tb ++ news)) B' (by k_asm) X' N₂ T' rfl (KeyOK.toB (value_key (fun q hq => .tail _ (List.mem_append_right _ hq)) hw2 (hne 0 (by omega)) (by omega))) (fun _ => .tail _ (List.mem_append_right _ hm2)) (by omega) (Nat.le_refl _) (by show 0 + (w2.length - 0) ≤ 100; omega) (.inl ⟨rfl, rfl⟩) (by omega) (bd2k_50 (X'.keeps (Fr.keep (by k_asm))) _ _ _) ?_)
  intro t₁ h₃ tk₃ F₃ N₃
  rw [bisL_of (by rw [List.length_map, hw2l])]
  clear N₂ F₂
  ktr_unf
  rename_i h₄ F₄ N₄
  refine Stop.go ?_
  refine For_turns F₄ ?_ (hE := PassesOwn.never)
  ktr_unf
  rename_i h₅ tk₅ ra1 ra2 ra3 hRg F₅ N₅ _
  refine Stop.go ?_

  k_dflt (refine forR (n := 3) (fun i m₁ n₁ => PlacesJ w news To rl ll 50 x tx ((List.range i).map (toldN x x rows lists)) (placeN x x rows lists i) m₁ n₁) rfl F₅ N₅ hRg (by decide) (by decide) ⟨[], 0, tb, t₁, rfl, hT, TB, htb, .nil, by tb_start, by tb_start, by tb_start, by tb_start, by tb_start, by tb_start⟩ (rl, PySem.W.listOf rv.toArray rn) ?_ ?_)
  · clear hT TB htb hRg F₅ N₅ hm2 hw2 hw2l h290 hv2
    rintro i t I oI m₁ n₁ h tk hi ⟨tv, tc, tb, tp, rfl, hT, TB, htb, hTV, e1, e2, e3, e4, e5, e6⟩ off F N
    have hll3 : lists[2 - i]? = some (hereK lists i) := by
      unfold hereK
      simp [show 2 - i < lists.length by omega]
    obtain ⟨_, hvh, ah, wh, nh, rfl, hmh, hwh⟩ := hLV.get hll3
    obtain ⟨_, hvr, ar, wr, nr, rfl, hmr, hwr⟩ := hR.get (i := i) (x := rows.getD i []) (by simp [show i < rows.length by omega])
    have hhl := h490 i hi
    have hwhl := hwh.length
    have hwrl := hwr.length
    have hr20i : (rows.getD i []).length ≤ 20 := by
      have : rows.getD i [] = rows[i] := by simp [show i < rows.length by omega]
      rw [this]; exact hr20 _ (List.getElem_mem _)
    have htvl := hTV.length
    rw [List.length_map, List.length_range] at htvl
    have h2i : ((2 : Int) - (i : Int)).toNat = 2 - i := by omega
    have upN : ∀ q ∈ news, q ∈ (I, oI) :: (To, PySem.W.listOf tv.toArray tc) :: (tb ++ news) := fun q hq => .tail _ (.tail _ (List.mem_append_right _ hq))
    have hahL := upN _ hmh
    have harL := upN _ hmr
    have TI : To ≠ I := off _ (.head _)
    have TBI : ∀ p ∈ tb, p.1 ≠ I := fun p hp => off p (.tail _ (List.mem_append_left _ hp))
    have TNI : ∀ p ∈ news, p.1 ≠ I := fun p hp => off p (.tail _ (List.mem_append_right _ hp))
    ktr_unf
    refine Stop.go ?_
    k_dflt (refine itemL (by k_asm) (upN _ hlm) (by omega) (by omega) (by rw [h2i]; exact hvh) ?_)
    ktr_unf
    · rename_i h₆ F₆ N₆ hi2
      have hbk : lists[1 - i]? = some (belowK lists i) := by
        unfold belowK
        rw [if_pos (by omega)]
        simp [show 1 - i < lists.length by omega]
      obtain ⟨_, hvb, ab, wb, nb, rfl, hmb, hwb⟩ := hLV.get hbk
      have h1i : ((1 : Int) - (i : Int)).toNat = 1 - i := by omega
      have habL := upN _ hmb
      have hwbl := hwb.length
      have hbe : belowK lists i = hereK lists (i + 1) := by
        unfold belowK hereK
        rw [if_pos (by omega), show 2 - (i + 1) = 1 - i by omega]
      have hbl9 : (belowK lists i).length ≤ 90 := by rw [hbe]; exact h490 (i + 1) (by omega)
      have hneb : ∀ e ∈ belowK lists i, e ≠ [] := by rw [hbe]; exact hne (i + 1) (by omega)
      refine Stop.go ?_
      k_dflt (refine itemL (by k_asm) (upN _ hlm) (by omega) (by omega) (by rw [h1i]; exact hvb) ?_)
      ktr_unf
      · have hlt : placeN x x rows lists i < (hereK lists i).length := by omega
        have hpe : plEntry x (rows.getD i []) (hereK lists i) (belowK lists i) (placeN x x rows lists i) = (hereK lists i).getD (placeN x x rows lists i) [] := if_pos hlt
        obtain ⟨_, hve, ae, we, ne, rfl, hmae, hwae⟩ := hwh.get (i := placeN x x rows lists i) (x := (hereK lists i).getD (placeN x x rows lists i) []) (by simp [hlt])
        refine Stop.go ?_
        k_dflt (refine itemL (by k_asm) hahL (by omega) (by omega) (by rw [Int.toNat_natCast]; exact hve) ?_)
        ktr_unf
        have hEe := hE i hi ((hereK lists i).getD (placeN x x rows lists i) []) (by simp [hlt])
        obtain ⟨u0, u1, u2, u3, hwe⟩ := four_ints hwae hEe.1
        have htt : ((hereK lists i).getD (placeN x x rows lists i) []).getD 2 0 = ((plTop x (rows.getD i []) (hereK lists i) (belowK lists i) (placeN x x rows lists i) : Nat) : Int) := by unfold plTop; rw [hpe, Int.toNat_of_nonneg hEe.2.1]
        have htp : plTop x (rows.getD i []) (hereK lists i) (belowK lists i) (placeN x x rows lists i) ≤ (belowK lists i).length := by have := hEe.2.2; rw [htt] at this; exact Int.ofNat_le.mp this
        have ht1 : ((hereK lists i).getD (placeN x x rows lists i) []).getD 1 0 = toldN x x rows lists i := by unfold toldN; rw [hpe]
        rw [htt, ht1] at hwe
        refine Stop.go ?_
        k_dflt (refine fd_to (P := fun fd => wpAny (model PySem.Challenge.rw_pe0007_01.row.prog w) (ktrTop (dp + 1) (un + 3) gd (Str.ofString "_law_places") fd.scope L' 95 (.ref 94) [] (envX cn cs L a ccd cl :: outer)) (execs ((forBody (stmtsOf fd.body)).drop 3) (envX (Str.ofString "_law_places") fd.scope L' 95 (.ref 94) [])) _ _ _) hfd ?_)
        have upX : ∀ q ∈ news, q ∈ (I, oI) :: news := (fun q hq => .tail _ hq)
        have N₉ : News g L' _ ((To, PySem.W.listOf tv.toArray tc) :: (tb ++ (I, oI) :: news)) := News.sub (by k_asm) plP1
        k_dflt (refine tail_L (To := To) (ae := ae) (ab := ab) (tv := tv) (tc := tc) (wb := wb) (nb := nb) (tp := plTop x (rows.getD i []) (hereK lists i) (belowK lists i) (placeN x x rows lists i)) (e0 := _) (e1 := toldN x x rows lists i) (e3 := _) (x := x) (below := belowK lists i) (tb := tb) (news2 := (I, oI) :: news) C B' (by k_asm) X' N₉ T' hT (offA TB (offC TI.symm TN)) (fun q hq p hp => by rcases List.mem_cons.mp hq with rfl | hq; exact (TBI p hp).symm; exact htb q hq p hp) (by tb_start) (by tb_start) (by tb_start) (by tb_start) (by tb_start) (upX _ hmae) hwe htp (.tail _ hmb) (hwb.mono (RL.mono RI.mono) (fun q hq => .tail _ hq)) hneb hbl9 (by omega) (by omega) (by omega) ?_)
        intro h' tk' tb' t1 t2 m' F' N' hT' w1 w2 hp hm'
        refine LPost.next F' N' ((To, PySem.W.listOf (tv ++ [Value.int (toldN x x rows lists i) t1]).toArray (tc + 1)) :: (tb' ++ news)) (fun q hq => by simp only [List.mem_cons, List.mem_append] at hq ⊢; grind) (offC TI (offA (fun p hp => (w1 _ (.head _) p hp).symm) TNI)) (.tail _ (List.mem_append_right _ hrm))
          ⟨_, _, tb', t2, rfl, hT', w2, (fun q hq p hp => w1 q (upX q hq) p hp), ?_, hm' _ _ (by tb_start) (by decide) (by decide) (by decide) (by decide), hp, hm' _ _ (by tb_start) (by decide) (by decide) (by decide) (by decide), hm' _ _ (by tb_start) (by decide) (by decide) (by decide) (by decide), hm' _ _ (by tb_start) (by decide) (by decide) (by decide) (by decide), hm' _ _ (by tb_start) (by decide) (by decide) (by decide) (by decide)⟩
        rw [List.range_succ, List.map_append]
        exact hTV.append (.cons ⟨_, rfl⟩ .nil)
      · have hge : ¬ placeN x x rows lists i < (hereK lists i).length := by omega
        have hpe : plEntry x (rows.getD i []) (hereK lists i) (belowK lists i) (placeN x x rows lists i) = [x, ((rows.getD i []).length : Nat), ((belowK lists i).length : Nat), 0] := if_neg hge
        refine Stop.go ?_
        k_dflt (refine itemL (by k_asm) (upN _ hrm) (by omega) (by omega) (by rw [Int.toNat_natCast]; exact hvr) ?_)
        ktr_unf
        rename_i en g9 lt9 h₉ F₉ N₈
        have htt : ((belowK lists i).length : Nat) = plTop x (rows.getD i []) (hereK lists i) (belowK lists i) (placeN x x rows lists i) := by unfold plTop; rw [hpe]; rfl
        have htp : plTop x (rows.getD i []) (hereK lists i) (belowK lists i) (placeN x x rows lists i) ≤ (belowK lists i).length := Nat.le_of_eq htt.symm
        have ht1 : ((wr.length : Nat) : Int) = toldN x x rows lists i := by unfold toldN; rw [hpe, hwrl]; rfl
        obtain ⟨oe, we, u0, u1, u2, u3, hoe, hwe, N₈⟩ : ∃ oe we u0 u1 u2 u3, oe = PySem.W.listOf (List.toArray we) 0 ∧ we = [Value.int x u0, .int (toldN x x rows lists i) u1, .int ((plTop x (rows.getD i []) (hereK lists i) (belowK lists i) (placeN x x rows lists i) : Nat) : Int) u2, .int 0 u3] ∧ News g L' h₉ ((en, oe) :: (I, oI) :: (To, PySem.W.listOf tv.toArray tc) :: (tb ++ news)) := by
          rw [← htt, ← ht1, ← hwbl]
          exact ⟨_, _, _, _, _, _, rfl, rfl, N₈⟩
        subst hoe
        refine Stop.go ?_
        k_dflt (refine fd_to (P := fun fd => wpAny (model PySem.Challenge.rw_pe0007_01.row.prog w) (ktrTop (dp + 1) (un + 3) gd (Str.ofString "_law_places") fd.scope L' 95 (.ref 94) [] (envX cn cs L a ccd cl :: outer)) (execs ((forBody (stmtsOf fd.body)).drop 3) (envX (Str.ofString "_law_places") fd.scope L' 95 (.ref 94) [])) _ _ _) hfd ?_)
        have upX : ∀ q ∈ news, q ∈ (en, PySem.W.listOf (List.toArray we) 0) :: (I, oI) :: news := (fun q hq => .tail _ (.tail _ hq))
        have N₉ : News g L' _ ((To, PySem.W.listOf tv.toArray tc) :: (tb ++ (en, PySem.W.listOf (List.toArray we) 0) :: (I, oI) :: news)) := News.sub (by k_asm) plP2
        k_dflt (refine tail_L (To := To) (ae := en) (ab := ab) (tv := tv) (tc := tc) (wb := wb) (nb := nb) (tp := plTop x (rows.getD i []) (hereK lists i) (belowK lists i) (placeN x x rows lists i)) (e0 := _) (e1 := toldN x x rows lists i) (e3 := _) (x := x) (below := belowK lists i) (tb := tb) (news2 := (en, PySem.W.listOf (List.toArray we) 0) :: (I, oI) :: news) C B' (by k_asm) X' N₉ T' hT (offA TB (offC (Nat.ne_of_gt (lt9 _ (.tail _ (.head _)))) (offC TI.symm TN))) (fun q hq p hp => by rcases List.mem_cons.mp hq with rfl | hq; exact Nat.ne_of_gt (lt9 _ (.tail _ (.tail _ (List.mem_append_left _ hp)))); rcases List.mem_cons.mp hq with rfl | hq; exact (TBI p hp).symm; exact htb q hq p hp) (by tb_start) (by tb_start) (by tb_start) (by tb_start) (by tb_start) (.head _) hwe htp (.tail _ (.tail _ hmb)) (hwb.mono (RL.mono RI.mono) (fun q hq => .tail _ (.tail _ hq))) hneb hbl9 (by omega) (by omega) (by omega) ?_)
        intro h' tk' tb' t1 t2 m' F' N' hT' w1 w2 hp hm'
        refine LPost.next F' N' ((To, PySem.W.listOf (tv ++ [Value.int (toldN x x rows lists i) t1]).toArray (tc + 1)) :: (tb' ++ news)) (fun q hq => by simp only [List.mem_cons, List.mem_append] at hq ⊢; grind) (offC TI (offA (fun p hp => (w1 _ (.tail _ (.head _)) p hp).symm) TNI)) (.tail _ (List.mem_append_right _ hrm))
          ⟨_, _, tb', t2, rfl, hT', w2, (fun q hq p hp => w1 q (upX q hq) p hp), ?_, hm' _ _ (by tb_start) (by decide) (by decide) (by decide) (by decide), hp, hm' _ _ (by tb_start) (by decide) (by decide) (by decide) (by decide), hm' _ _ (by tb_start) (by decide) (by decide) (by decide) (by decide), hm' _ _ (by tb_start) (by decide) (by decide) (by decide) (by decide), hm' _ _ (by tb_start) (by decide) (by decide) (by decide) (by decide)⟩
        rw [List.range_succ, List.map_append]
        exact hTV.append (.cons ⟨_, rfl⟩ .nil)
    · rename_i g7 tk7 g8 hi2 Bl g6 ltB h₇ F₇ N₇ hpl
      have hi3 : i = 2 := by omega
      have hbk : belowK lists i = [] := if_neg (by omega)
      have hbl9 : (belowK lists i).length ≤ 90 := by rw [hbk]; exact Nat.zero_le _
      have hneb : ∀ e ∈ belowK lists i, e ≠ [] := by rw [hbk]; exact fun _ h => nomatch h
      have hnil : ∀ led, RA (RL RI) led ([] : List Value) (belowK lists i) := fun _ => by rw [hbk]; exact .nil
      have hwbl : (List.length ([] : List Value)) = (belowK lists i).length := by rw [hbk]; rfl
      have hlt : placeN x x rows lists i < (hereK lists i).length := by omega
      have hpe : plEntry x (rows.getD i []) (hereK lists i) (belowK lists i) (placeN x x rows lists i) = (hereK lists i).getD (placeN x x rows lists i) [] := if_pos hlt
      obtain ⟨_, hve, ae, we, ne, rfl, hmae, hwae⟩ := hwh.get (i := placeN x x rows lists i) (x := (hereK lists i).getD (placeN x x rows lists i) []) (by simp [hlt])
      refine Stop.go ?_
      k_dflt (refine itemL (by k_asm) (.tail _ hahL) (by omega) (by omega) (by rw [Int.toNat_natCast]; exact hve) ?_)
      ktr_unf
      have hEe := hE i hi ((hereK lists i).getD (placeN x x rows lists i) []) (by simp [hlt])
      obtain ⟨u0, u1, u2, u3, hwe⟩ := four_ints hwae hEe.1
      have htt : ((hereK lists i).getD (placeN x x rows lists i) []).getD 2 0 = ((plTop x (rows.getD i []) (hereK lists i) (belowK lists i) (placeN x x rows lists i) : Nat) : Int) := by unfold plTop; rw [hpe, Int.toNat_of_nonneg hEe.2.1]
      have htp : plTop x (rows.getD i []) (hereK lists i) (belowK lists i) (placeN x x rows lists i) ≤ (belowK lists i).length := by have := hEe.2.2; rw [htt] at this; exact Int.ofNat_le.mp this
      have ht1 : ((hereK lists i).getD (placeN x x rows lists i) []).getD 1 0 = toldN x x rows lists i := by unfold toldN; rw [hpe]
      rw [htt, ht1] at hwe
      refine Stop.go ?_
      k_dflt (refine fd_to (P := fun fd => wpAny (model PySem.Challenge.rw_pe0007_01.row.prog w) (ktrTop (dp + 1) (un + 3) gd (Str.ofString "_law_places") fd.scope L' 95 (.ref 94) [] (envX cn cs L a ccd cl :: outer)) (execs ((forBody (stmtsOf fd.body)).drop 3) (envX (Str.ofString "_law_places") fd.scope L' 95 (.ref 94) [])) _ _ _) hfd ?_)
      have upX : ∀ q ∈ news, q ∈ (Bl, PySem.W.listOf (List.toArray []) 0) :: (I, oI) :: news := (fun q hq => .tail _ (.tail _ hq))
      have N₉ : News g L' _ ((To, PySem.W.listOf tv.toArray tc) :: (tb ++ (Bl, PySem.W.listOf (List.toArray []) 0) :: (I, oI) :: news)) := News.sub (by k_asm) plP2
      k_dflt (refine tail_L (To := To) (ae := ae) (ab := Bl) (tv := tv) (tc := tc) (wb := []) (nb := 0) (tp := plTop x (rows.getD i []) (hereK lists i) (belowK lists i) (placeN x x rows lists i)) (e0 := _) (e1 := toldN x x rows lists i) (e3 := _) (x := x) (below := belowK lists i) (tb := tb) (news2 := (Bl, PySem.W.listOf (List.toArray []) 0) :: (I, oI) :: news) C B' (by k_asm) X' N₉ T' hT (offA TB (offC (Nat.ne_of_gt (ltB _ (.tail _ (.head _)))) (offC TI.symm TN))) (fun q hq p hp => by rcases List.mem_cons.mp hq with rfl | hq; exact Nat.ne_of_gt (ltB _ (.tail _ (.tail _ (List.mem_append_left _ hp)))); rcases List.mem_cons.mp hq with rfl | hq; exact (TBI p hp).symm; exact htb q hq p hp) (by tb_start) (by tb_start) (by tb_start) (by tb_start) (by tb_start) (upX _ hmae) hwe htp (.head _) (hnil _) hneb hbl9 (by omega) (by omega) (by omega) ?_)
      intro h' tk' tb' t1 t2 m' F' N' hT' w1 w2 hp hm'
      refine LPost.next F' N' ((To, PySem.W.listOf (tv ++ [Value.int (toldN x x rows lists i) t1]).toArray (tc + 1)) :: (tb' ++ news)) (fun q hq => by simp only [List.mem_cons, List.mem_append] at hq ⊢; grind) (offC TI (offA (fun p hp => (w1 _ (.tail _ (.head _)) p hp).symm) TNI)) (.tail _ (List.mem_append_right _ hrm))
        ⟨_, _, tb', t2, rfl, hT', w2, (fun q hq p hp => w1 q (upX q hq) p hp), ?_, hm' _ _ (by tb_start) (by decide) (by decide) (by decide) (by decide), hp, hm' _ _ (by tb_start) (by decide) (by decide) (by decide) (by decide), hm' _ _ (by tb_start) (by decide) (by decide) (by decide) (by decide), hm' _ _ (by tb_start) (by decide) (by decide) (by decide) (by decide), hm' _ _ (by tb_start) (by decide) (by decide) (by decide) (by decide)⟩
      rw [List.range_succ, List.map_append]
      exact hTV.append (.cons ⟨_, rfl⟩ .nil)
    · rename_i g7 tk7 g8 hi2 Bl g6 ltB h₇ F₇ N₇ hpl
      have hi3 : i = 2 := by omega
      have hbk : belowK lists i = [] := if_neg (by omega)
      have hbl9 : (belowK lists i).length ≤ 90 := by rw [hbk]; exact Nat.zero_le _
      have hneb : ∀ e ∈ belowK lists i, e ≠ [] := by rw [hbk]; exact fun _ h => nomatch h
      have hnil : ∀ led, RA (RL RI) led ([] : List Value) (belowK lists i) := fun _ => by rw [hbk]; exact .nil
      have hwbl : (List.length ([] : List Value)) = (belowK lists i).length := by rw [hbk]; rfl
      have hge : ¬ placeN x x rows lists i < (hereK lists i).length := by omega
      have hpe : plEntry x (rows.getD i []) (hereK lists i) (belowK lists i) (placeN x x rows lists i) = [x, ((rows.getD i []).length : Nat), ((belowK lists i).length : Nat), 0] := if_neg hge
      refine Stop.go ?_
      k_dflt (refine itemL (by k_asm) (.tail _ (upN _ hrm)) (by omega) (by omega) (by rw [Int.toNat_natCast]; exact hvr) ?_)
      ktr_unf
      rename_i en g9 lt9 h₉ F₉ N₈
      have htt : ((belowK lists i).length : Nat) = plTop x (rows.getD i []) (hereK lists i) (belowK lists i) (placeN x x rows lists i) := by unfold plTop; rw [hpe]; rfl
      have htp : plTop x (rows.getD i []) (hereK lists i) (belowK lists i) (placeN x x rows lists i) ≤ (belowK lists i).length := Nat.le_of_eq htt.symm
      have ht1 : ((wr.length : Nat) : Int) = toldN x x rows lists i := by unfold toldN; rw [hpe, hwrl]; rfl
      obtain ⟨oe, we, u0, u1, u2, u3, hoe, hwe, N₈⟩ : ∃ oe we u0 u1 u2 u3, oe = PySem.W.listOf (List.toArray we) 0 ∧ we = [Value.int x u0, .int (toldN x x rows lists i) u1, .int ((plTop x (rows.getD i []) (hereK lists i) (belowK lists i) (placeN x x rows lists i) : Nat) : Int) u2, .int 0 u3] ∧ News g L' h₉ ((en, oe) :: (Bl, PySem.W.listOf (List.toArray []) 0) :: (I, oI) :: (To, PySem.W.listOf tv.toArray tc) :: (tb ++ news)) := by
        rw [← htt, ← ht1, ← hwbl]
        exact ⟨_, _, _, _, _, _, rfl, rfl, N₈⟩
      subst hoe
      refine Stop.go ?_
      k_dflt (refine fd_to (P := fun fd => wpAny (model PySem.Challenge.rw_pe0007_01.row.prog w) (ktrTop (dp + 1) (un + 3) gd (Str.ofString "_law_places") fd.scope L' 95 (.ref 94) [] (envX cn cs L a ccd cl :: outer)) (execs ((forBody (stmtsOf fd.body)).drop 3) (envX (Str.ofString "_law_places") fd.scope L' 95 (.ref 94) [])) _ _ _) hfd ?_)
      have upX : ∀ q ∈ news, q ∈ (en, PySem.W.listOf (List.toArray we) 0) :: (Bl, PySem.W.listOf (List.toArray []) 0) :: (I, oI) :: news := (fun q hq => .tail _ (.tail _ (.tail _ hq)))
      have N₉ : News g L' _ ((To, PySem.W.listOf tv.toArray tc) :: (tb ++ (en, PySem.W.listOf (List.toArray we) 0) :: (Bl, PySem.W.listOf (List.toArray []) 0) :: (I, oI) :: news)) := News.sub (by k_asm) plP3
      k_dflt (refine tail_L (To := To) (ae := en) (ab := Bl) (tv := tv) (tc := tc) (wb := []) (nb := 0) (tp := plTop x (rows.getD i []) (hereK lists i) (belowK lists i) (placeN x x rows lists i)) (e0 := _) (e1 := toldN x x rows lists i) (e3 := _) (x := x) (below := belowK lists i) (tb := tb) (news2 := (en, PySem.W.listOf (List.toArray we) 0) :: (Bl, PySem.W.listOf (List.toArray []) 0) :: (I, oI) :: news) C B' (by k_asm) X' N₉ T' hT (offA TB (offC (Nat.ne_of_gt (lt9 _ (.tail _ (.tail _ (.head _))))) (offC (Nat.ne_of_gt (ltB _ (.tail _ (.head _)))) (offC TI.symm TN)))) (fun q hq p hp => by rcases List.mem_cons.mp hq with rfl | hq; exact Nat.ne_of_gt (lt9 _ (.tail _ (.tail _ (.tail _ (List.mem_append_left _ hp))))); rcases List.mem_cons.mp hq with rfl | hq; exact Nat.ne_of_gt (ltB _ (.tail _ (.tail _ (List.mem_append_left _ hp)))); rcases List.mem_cons.mp hq with rfl | hq; exact (TBI p hp).symm; exact htb q hq p hp) (by tb_start) (by tb_start) (by tb_start) (by tb_start) (by tb_start) (.head _) hwe htp (.tail _ (.head _)) (hnil _) hneb hbl9 (by omega) (by omega) (by omega) ?_)
      intro h' tk' tb' t1 t2 m' F' N' hT' w1 w2 hp hm'
      refine LPost.next F' N' ((To, PySem.W.listOf (tv ++ [Value.int (toldN x x rows lists i) t1]).toArray (tc + 1)) :: (tb' ++ news)) (fun q hq => by simp only [List.mem_cons, List.mem_append] at hq ⊢; grind) (offC TI (offA (fun p hp => (w1 _ (.tail _ (.tail _ (.head _))) p hp).symm) TNI)) (.tail _ (List.mem_append_right _ hrm))
        ⟨_, _, tb', t2, rfl, hT', w2, (fun q hq p hp => w1 q (upX q hq) p hp), ?_, hm' _ _ (by tb_start) (by decide) (by decide) (by decide) (by decide), hp, hm' _ _ (by tb_start) (by decide) (by decide) (by decide) (by decide), hm' _ _ (by tb_start) (by decide) (by decide) (by decide) (by decide), hm' _ _ (by tb_start) (by decide) (by decide) (by decide) (by decide), hm' _ _ (by tb_start) (by decide) (by decide) (by decide) (by decide)⟩
      rw [List.range_succ, List.map_append]
      exact hTV.append (.cons ⟨_, rfl⟩ .nil)
  · rintro m₂ n₂ h₈ tk₈ ⟨tv, tc, tb', tp, rfl, hT', TB', htb', hTV, e1, e2, e3, e4, e5, e6⟩ F₈ N₈
    ktr_unf
    refine Back.mk (by k_asm) (News.sub N₈ (n' := [(To, PySem.W.listOf tv.toArray tc)] ++ (tb' ++ news)) (fun _ h => h)) (fun F N => ret (.ref To) _ tb' _ _ F N hT' htb' (fun q hq p hp => by
      rw [List.mem_singleton.mp hp]
      rcases List.mem_append.mp hq with hq | hq
      · exact TB' q hq
      · exact TN q hq) ⟨To, tv, tc, rfl, .head _, RA.ofInts hTV.ints⟩)
set_option maxRecDepth 100000 in
set_option maxHeartbeats 40000000 in
theorem places_R {rl ll : Addr} {rv lv : List Value} {rn ln : Nat} {rows : List (List Int)} {lists : List (List (List Int))} {x : Int} {tx : Tok} {tb : Led} (C : CodeHd base 63 59)
    (B : Below A₀ base outer h₀) (F : Fr h₀ L s.heap m) (X : (top.heap_39 w.params).In h₀) (N : News h₀ L s.heap (tb ++ news)) (T : Top p loose mean mg mb h₀) (hk : cs.kind = .function) (hT : NoteTab w tb) (htb : ∀ q ∈ news, ∀ p ∈ tb, q.1 ≠ p.1)
    (hrm : (rl, PySem.W.listOf rv.toArray rn) ∈ news) (hR : RA (RL RI) news rv rows) (hlm : (ll, PySem.W.listOf lv.toArray ln) ∈ news) (hLV : RA (RL (RL RI)) news lv lists) (hOK : ListsOK rows lists) (hdp : dp + 6 ≤ 400) (hun : un + 60 ≤ 4000)
    (ret : ∀ r tl tb' h' tk', Fr h₀ L h' m → News h₀ L h' (tl ++ (tb' ++ news)) → NoteTab w tb' → (∀ q ∈ news, ∀ p ∈ tb', q.1 ≠ p.1) → (∀ q ∈ tb' ++ news, ∀ p ∈ tl, q.1 ≠ p.1) → RL RI tl r (toldF x (x + 1) rows lists) → Q r { s with heap := h', toks := tk' }) :
    wpAny (model PySem.Challenge.rw_pe0007_01.row.prog w) (ktrTop dp un gd cn cs L a ccd cl outer) (call (.ref 95) [.ref rl, .ref ll, .int x tx, .ref 32]) Q E s := by
  (have X' := X; revert X'; k_fill; intro hX9; clear hX9)
  k_dflt (refine' with_fdX (K := (top.heap_39 w.params)) (f := 95) X ?ho ?_; (case ho => k_is))
  intro hfd
  k_dflt (refine' enter (binds := [((Str.ofString "rows"), .ref rl), ((Str.ofString "lists"), .ref ll), ((Str.ofString "x"), .int x tx), ((Str.ofString "search"), .ref 32)]) B F X N T hk ?ho ?hcd (by omega) ?hb ?hl ?hc ?co ?ge ?hk ?_; (case ho => k_is); (case hcd => k_is); (case hb => exact BindsTo.of_eq rfl); (case hl => exact locs rfl); (case hc => decide); (case co => rfl); (case ge => rfl); (case hk => rfl))
  intro g L' h₁ F' N' B' X' T' lt'
  k_fold
  have hcL := cLine_is
  have C' : CodeHd g 63 59 := CodeHd.keeps C (Below.stays B')
  obtain ⟨hr3, hl3, hr20, hl90, hE⟩ := hOK
  have hrl := hR.length
  have hll := hLV.length
  obtain ⟨v2, hv2, a2, w2, n2, rfl, hm2, hw2⟩ := hLV.get (i := 2) (x := hereK lists 0) (by simp [hereK, hl3])
  ktr_unf
  rename_i To g0 ltT h₂ F₂ N₂
  refine Stop.go ?_
  k_dflt (refine itemL (by k_asm) (.tail _ (List.mem_append_right _ hlm)) (by decide) (by decide) hv2 ?_)
  have h490 : ∀ k, k < 3 → (hereK lists k).length ≤ 90 := fun k hk => by
    unfold hereK
    have : lists.getD (2 - k) [] = lists[2 - k] := by simp [show 2 - k < lists.length by omega]
    rw [this]; exact hl90 _ (List.getElem_mem _)
  have hne : ∀ k, k < 3 → ∀ e ∈ hereK lists k, e ≠ [] := fun k hk e he q => by have := (hE k hk e he).1; rw [q] at this; cases this
  have hw2l := hw2.length
  have h290 := h490 0 (by omega)
  have TB : ∀ p ∈ tb, p.1 ≠ To := fun p hp => Nat.ne_of_lt (ltT p (List.mem_append_left _ hp))
  have TN : ∀ p ∈ news, p.1 ≠ To := fun p hp => Nat.ne_of_lt (ltT p (List.mem_append_right _ hp))
  clear ltT
  ktr_unf
  refine Stop.go ?_
  k_dflt (refine br_key (l := a2) (ks := (hereK lists 0).map fst0) (x := x) (lo := 0) (hi := w2.length) (hv := .none) (tr := []) (bd := 100) (G := fun _ => (To, PySem.W.listOf (List.toArray []) 0) :: (tb ++ news)) B' (by k_asm) X' N₂ T' rfl (KeyOK.toB (value_key (fun q hq => .tail _ (List.mem_append_right _ hq)) hw2 (hne 0 (by omega)) (by omega))) (fun _ => .tail _ (List.mem_append_right _ hm2)) (by omega) (Nat.le_refl _) (by show 0 + (w2.length - 0) ≤ 100; omega) (.inl ⟨rfl, rfl⟩) (by omega) (bd2k_32 (X'.keeps (Fr.keep (by k_asm))) _ _ _) ?_)
  intro t₁ h₃ tk₃ F₃ N₃
  rw [bisLR_of (by rw [List.length_map, hw2l])]
  clear N₂ F₂
  ktr_unf
  rename_i h₄ F₄ N₄
  refine Stop.go ?_
  refine For_turns F₄ ?_ (hE := PassesOwn.never)
  ktr_unf
  rename_i h₅ tk₅ ra1 ra2 ra3 hRg F₅ N₅ _
  refine Stop.go ?_

  k_dflt (refine forR (n := 3) (fun i m₁ n₁ => PlacesJ w news To rl ll 32 x tx ((List.range i).map (toldN x (x + 1) rows lists)) (placeN x (x + 1) rows lists i) m₁ n₁) rfl F₅ N₅ hRg (by decide) (by decide) ⟨[], 0, tb, t₁, rfl, hT, TB, htb, .nil, by tb_start, by tb_start, by tb_start, by tb_start, by tb_start, by tb_start⟩ (rl, PySem.W.listOf rv.toArray rn) ?_ ?_)
  · clear hT TB htb hRg F₅ N₅ hm2 hw2 hw2l h290 hv2
    rintro i t I oI m₁ n₁ h tk hi ⟨tv, tc, tb, tp, rfl, hT, TB, htb, hTV, e1, e2, e3, e4, e5, e6⟩ off F N
    have hll3 : lists[2 - i]? = some (hereK lists i) := by
      unfold hereK
      simp [show 2 - i < lists.length by omega]
    obtain ⟨_, hvh, ah, wh, nh, rfl, hmh, hwh⟩ := hLV.get hll3
    obtain ⟨_, hvr, ar, wr, nr, rfl, hmr, hwr⟩ := hR.get (i := i) (x := rows.getD i []) (by simp [show i < rows.length by omega])
    have hhl := h490 i hi
    have hwhl := hwh.length
    have hwrl := hwr.length
    have hr20i : (rows.getD i []).length ≤ 20 := by
      have : rows.getD i [] = rows[i] := by simp [show i < rows.length by omega]
      rw [this]; exact hr20 _ (List.getElem_mem _)
    have htvl := hTV.length
    rw [List.length_map, List.length_range] at htvl
    have h2i : ((2 : Int) - (i : Int)).toNat = 2 - i := by omega
    have upN : ∀ q ∈ news, q ∈ (I, oI) :: (To, PySem.W.listOf tv.toArray tc) :: (tb ++ news) := fun q hq => .tail _ (.tail _ (List.mem_append_right _ hq))
    have hahL := upN _ hmh
    have harL := upN _ hmr
    have TI : To ≠ I := off _ (.head _)
    have TBI : ∀ p ∈ tb, p.1 ≠ I := fun p hp => off p (.tail _ (List.mem_append_left _ hp))
    have TNI : ∀ p ∈ news, p.1 ≠ I := fun p hp => off p (.tail _ (List.mem_append_right _ hp))
    ktr_unf
    refine Stop.go ?_
    k_dflt (refine itemL (by k_asm) (upN _ hlm) (by omega) (by omega) (by rw [h2i]; exact hvh) ?_)
    ktr_unf
    · rename_i h₆ F₆ N₆ hi2
      have hbk : lists[1 - i]? = some (belowK lists i) := by
        unfold belowK
        rw [if_pos (by omega)]
        simp [show 1 - i < lists.length by omega]
      obtain ⟨_, hvb, ab, wb, nb, rfl, hmb, hwb⟩ := hLV.get hbk
      have h1i : ((1 : Int) - (i : Int)).toNat = 1 - i := by omega
      have habL := upN _ hmb
      have hwbl := hwb.length
      have hbe : belowK lists i = hereK lists (i + 1) := by
        unfold belowK hereK
        rw [if_pos (by omega), show 2 - (i + 1) = 1 - i by omega]
      have hbl9 : (belowK lists i).length ≤ 90 := by rw [hbe]; exact h490 (i + 1) (by omega)
      have hneb : ∀ e ∈ belowK lists i, e ≠ [] := by rw [hbe]; exact hne (i + 1) (by omega)
      refine Stop.go ?_
      k_dflt (refine itemL (by k_asm) (upN _ hlm) (by omega) (by omega) (by rw [h1i]; exact hvb) ?_)
      ktr_unf
      · have hlt : placeN x (x + 1) rows lists i < (hereK lists i).length := by omega
        have hpe : plEntry x (rows.getD i []) (hereK lists i) (belowK lists i) (placeN x (x + 1) rows lists i) = (hereK lists i).getD (placeN x (x + 1) rows lists i) [] := if_pos hlt
        obtain ⟨_, hve, ae, we, ne, rfl, hmae, hwae⟩ := hwh.get (i := placeN x (x + 1) rows lists i) (x := (hereK lists i).getD (placeN x (x + 1) rows lists i) []) (by simp [hlt])
        refine Stop.go ?_
        k_dflt (refine itemL (by k_asm) hahL (by omega) (by omega) (by rw [Int.toNat_natCast]; exact hve) ?_)
        ktr_unf
        have hEe := hE i hi ((hereK lists i).getD (placeN x (x + 1) rows lists i) []) (by simp [hlt])
        obtain ⟨u0, u1, u2, u3, hwe⟩ := four_ints hwae hEe.1
        have htt : ((hereK lists i).getD (placeN x (x + 1) rows lists i) []).getD 2 0 = ((plTop x (rows.getD i []) (hereK lists i) (belowK lists i) (placeN x (x + 1) rows lists i) : Nat) : Int) := by unfold plTop; rw [hpe, Int.toNat_of_nonneg hEe.2.1]
        have htp : plTop x (rows.getD i []) (hereK lists i) (belowK lists i) (placeN x (x + 1) rows lists i) ≤ (belowK lists i).length := by have := hEe.2.2; rw [htt] at this; exact Int.ofNat_le.mp this
        have ht1 : ((hereK lists i).getD (placeN x (x + 1) rows lists i) []).getD 1 0 = toldN x (x + 1) rows lists i := by unfold toldN; rw [hpe]
        rw [htt, ht1] at hwe
        refine Stop.go ?_
        k_dflt (refine fd_to (P := fun fd => wpAny (model PySem.Challenge.rw_pe0007_01.row.prog w) (ktrTop (dp + 1) (un + 3) gd (Str.ofString "_law_places") fd.scope L' 95 (.ref 94) [] (envX cn cs L a ccd cl :: outer)) (execs ((forBody (stmtsOf fd.body)).drop 3) (envX (Str.ofString "_law_places") fd.scope L' 95 (.ref 94) [])) _ _ _) hfd ?_)
        have upX : ∀ q ∈ news, q ∈ (I, oI) :: news := (fun q hq => .tail _ hq)
        have N₉ : News g L' _ ((To, PySem.W.listOf tv.toArray tc) :: (tb ++ (I, oI) :: news)) := News.sub (by k_asm) plP1
        k_dflt (refine tail_R (To := To) (ae := ae) (ab := ab) (tv := tv) (tc := tc) (wb := wb) (nb := nb) (tp := plTop x (rows.getD i []) (hereK lists i) (belowK lists i) (placeN x (x + 1) rows lists i)) (e0 := _) (e1 := toldN x (x + 1) rows lists i) (e3 := _) (x := x) (below := belowK lists i) (tb := tb) (news2 := (I, oI) :: news) C B' (by k_asm) X' N₉ T' hT (offA TB (offC TI.symm TN)) (fun q hq p hp => by rcases List.mem_cons.mp hq with rfl | hq; exact (TBI p hp).symm; exact htb q hq p hp) (by tb_start) (by tb_start) (by tb_start) (by tb_start) (by tb_start) (upX _ hmae) hwe htp (.tail _ hmb) (hwb.mono (RL.mono RI.mono) (fun q hq => .tail _ hq)) hneb hbl9 (by omega) (by omega) (by omega) ?_)
        intro h' tk' tb' t1 t2 m' F' N' hT' w1 w2 hp hm'
        refine LPost.next F' N' ((To, PySem.W.listOf (tv ++ [Value.int (toldN x (x + 1) rows lists i) t1]).toArray (tc + 1)) :: (tb' ++ news)) (fun q hq => by simp only [List.mem_cons, List.mem_append] at hq ⊢; grind) (offC TI (offA (fun p hp => (w1 _ (.head _) p hp).symm) TNI)) (.tail _ (List.mem_append_right _ hrm))
          ⟨_, _, tb', t2, rfl, hT', w2, (fun q hq p hp => w1 q (upX q hq) p hp), ?_, hm' _ _ (by tb_start) (by decide) (by decide) (by decide) (by decide), hp, hm' _ _ (by tb_start) (by decide) (by decide) (by decide) (by decide), hm' _ _ (by tb_start) (by decide) (by decide) (by decide) (by decide), hm' _ _ (by tb_start) (by decide) (by decide) (by decide) (by decide), hm' _ _ (by tb_start) (by decide) (by decide) (by decide) (by decide)⟩
        rw [List.range_succ, List.map_append]
        exact hTV.append (.cons ⟨_, rfl⟩ .nil)
      · have hge : ¬ placeN x (x + 1) rows lists i < (hereK lists i).length := by omega
        have hpe : plEntry x (rows.getD i []) (hereK lists i) (belowK lists i) (placeN x (x + 1) rows lists i) = [x, ((rows.getD i []).length : Nat), ((belowK lists i).length : Nat), 0] := if_neg hge
        refine Stop.go ?_
        k_dflt (refine itemL (by k_asm) (upN _ hrm) (by omega) (by omega) (by rw [Int.toNat_natCast]; exact hvr) ?_)
        ktr_unf
        rename_i en g9 lt9 h₉ F₉ N₈
        have htt : ((belowK lists i).length : Nat) = plTop x (rows.getD i []) (hereK lists i) (belowK lists i) (placeN x (x + 1) rows lists i) := by unfold plTop; rw [hpe]; rfl
        have htp : plTop x (rows.getD i []) (hereK lists i) (belowK lists i) (placeN x (x + 1) rows lists i) ≤ (belowK lists i).length := Nat.le_of_eq htt.symm
        have ht1 : ((wr.length : Nat) : Int) = toldN x (x + 1) rows lists i := by unfold toldN; rw [hpe, hwrl]; rfl
        obtain ⟨oe, we, u0, u1, u2, u3, hoe, hwe, N₈⟩ : ∃ oe we u0 u1 u2 u3, oe = PySem.W.listOf (List.toArray we) 0 ∧ we = [Value.int x u0, .int (toldN x (x + 1) rows lists i) u1, .int ((plTop x (rows.getD i []) (hereK lists i) (belowK lists i) (placeN x (x + 1) rows lists i) : Nat) : Int) u2, .int 0 u3] ∧ News g L' h₉ ((en, oe) :: (I, oI) :: (To, PySem.W.listOf tv.toArray tc) :: (tb ++ news)) := by
          rw [← htt, ← ht1, ← hwbl]
          exact ⟨_, _, _, _, _, _, rfl, rfl, N₈⟩
        subst hoe
        refine Stop.go ?_
        k_dflt (refine fd_to (P := fun fd => wpAny (model PySem.Challenge.rw_pe0007_01.row.prog w) (ktrTop (dp + 1) (un + 3) gd (Str.ofString "_law_places") fd.scope L' 95 (.ref 94) [] (envX cn cs L a ccd cl :: outer)) (execs ((forBody (stmtsOf fd.body)).drop 3) (envX (Str.ofString "_law_places") fd.scope L' 95 (.ref 94) [])) _ _ _) hfd ?_)
        have upX : ∀ q ∈ news, q ∈ (en, PySem.W.listOf (List.toArray we) 0) :: (I, oI) :: news := (fun q hq => .tail _ (.tail _ hq))
        have N₉ : News g L' _ ((To, PySem.W.listOf tv.toArray tc) :: (tb ++ (en, PySem.W.listOf (List.toArray we) 0) :: (I, oI) :: news)) := News.sub (by k_asm) plP2
        k_dflt (refine tail_R (To := To) (ae := en) (ab := ab) (tv := tv) (tc := tc) (wb := wb) (nb := nb) (tp := plTop x (rows.getD i []) (hereK lists i) (belowK lists i) (placeN x (x + 1) rows lists i)) (e0 := _) (e1 := toldN x (x + 1) rows lists i) (e3 := _) (x := x) (below := belowK lists i) (tb := tb) (news2 := (en, PySem.W.listOf (List.toArray we) 0) :: (I, oI) :: news) C B' (by k_asm) X' N₉ T' hT (offA TB (offC (Nat.ne_of_gt (lt9 _ (.tail _ (.head _)))) (offC TI.symm TN))) (fun q hq p hp => by rcases List.mem_cons.mp hq with rfl | hq; exact Nat.ne_of_gt (lt9 _ (.tail _ (.tail _ (List.mem_append_left _ hp)))); rcases List.mem_cons.mp hq with rfl | hq; exact (TBI p hp).symm; exact htb q hq p hp) (by tb_start) (by tb_start) (by tb_start) (by tb_start) (by tb_start) (.head _) hwe htp (.tail _ (.tail _ hmb)) (hwb.mono (RL.mono RI.mono) (fun q hq => .tail _ (.tail _ hq))) hneb hbl9 (by omega) (by omega) (by omega) ?_)
        intro h' tk' tb' t1 t2 m' F' N' hT' w1 w2 hp hm'
        refine LPost.next F' N' ((To, PySem.W.listOf (tv ++ [Value.int (toldN x (x + 1) rows lists i) t1]).toArray (tc + 1)) :: (tb' ++ news)) (fun q hq => by simp only [List.mem_cons, List.mem_append] at hq ⊢; grind) (offC TI (offA (fun p hp => (w1 _ (.tail _ (.head _)) p hp).symm) TNI)) (.tail _ (List.mem_append_right _ hrm))
          ⟨_, _, tb', t2, rfl, hT', w2, (fun q hq p hp => w1 q (upX q hq) p hp), ?_, hm' _ _ (by tb_start) (by decide) (by decide) (by decide) (by decide), hp, hm' _ _ (by tb_start) (by decide) (by decide) (by decide) (by decide), hm' _ _ (by tb_start) (by decide) (by decide) (by decide) (by decide), hm' _ _ (by tb_start) (by decide) (by decide) (by decide) (by decide), hm' _ _ (by tb_start) (by decide) (by decide) (by decide) (by decide)⟩
        rw [List.range_succ, List.map_append]
        exact hTV.append (.cons ⟨_, rfl⟩ .nil)
    · rename_i g7 tk7 g8 hi2 Bl g6 ltB h₇ F₇ N₇ hpl
      have hi3 : i = 2 := by omega
      have hbk : belowK lists i = [] := if_neg (by omega)
      have hbl9 : (belowK lists i).length ≤ 90 := by rw [hbk]; exact Nat.zero_le _
      have hneb : ∀ e ∈ belowK lists i, e ≠ [] := by rw [hbk]; exact fun _ h => nomatch h
      have hnil : ∀ led, RA (RL RI) led ([] : List Value) (belowK lists i) := fun _ => by rw [hbk]; exact .nil
      have hwbl : (List.length ([] : List Value)) = (belowK lists i).length := by rw [hbk]; rfl
      have hlt : placeN x (x + 1) rows lists i < (hereK lists i).length := by omega
      have hpe : plEntry x (rows.getD i []) (hereK lists i) (belowK lists i) (placeN x (x + 1) rows lists i) = (hereK lists i).getD (placeN x (x + 1) rows lists i) [] := if_pos hlt
      obtain ⟨_, hve, ae, we, ne, rfl, hmae, hwae⟩ := hwh.get (i := placeN x (x + 1) rows lists i) (x := (hereK lists i).getD (placeN x (x + 1) rows lists i) []) (by simp [hlt])
      refine Stop.go ?_
      k_dflt (refine itemL (by k_asm) (.tail _ hahL) (by omega) (by omega) (by rw [Int.toNat_natCast]; exact hve) ?_)
      ktr_unf
      have hEe := hE i hi ((hereK lists i).getD (placeN x (x + 1) rows lists i) []) (by simp [hlt])
      obtain ⟨u0, u1, u2, u3, hwe⟩ := four_ints hwae hEe.1
      have htt : ((hereK lists i).getD (placeN x (x + 1) rows lists i) []).getD 2 0 = ((plTop x (rows.getD i []) (hereK lists i) (belowK lists i) (placeN x (x + 1) rows lists i) : Nat) : Int) := by unfold plTop; rw [hpe, Int.toNat_of_nonneg hEe.2.1]
      have htp : plTop x (rows.getD i []) (hereK lists i) (belowK lists i) (placeN x (x + 1) rows lists i) ≤ (belowK lists i).length := by have := hEe.2.2; rw [htt] at this; exact Int.ofNat_le.mp this
      have ht1 : ((hereK lists i).getD (placeN x (x + 1) rows lists i) []).getD 1 0 = toldN x (x + 1) rows lists i := by unfold toldN; rw [hpe]
      rw [htt, ht1] at hwe
      refine Stop.go ?_
      k_dflt (refine fd_to (P := fun fd => wpAny (model PySem.Challenge.rw_pe0007_01.row.prog w) (ktrTop (dp + 1) (un + 3) gd (Str.ofString "_law_places") fd.scope L' 95 (.ref 94) [] (envX cn cs L a ccd cl :: outer)) (execs ((forBody (stmtsOf fd.body)).drop 3) (envX (Str.ofString "_law_places") fd.scope L' 95 (.ref 94) [])) _ _ _) hfd ?_)
      have upX : ∀ q ∈ news, q ∈ (Bl, PySem.W.listOf (List.toArray []) 0) :: (I, oI) :: news := (fun q hq => .tail _ (.tail _ hq))
      have N₉ : News g L' _ ((To, PySem.W.listOf tv.toArray tc) :: (tb ++ (Bl, PySem.W.listOf (List.toArray []) 0) :: (I, oI) :: news)) := News.sub (by k_asm) plP2
      k_dflt (refine tail_R (To := To) (ae := ae) (ab := Bl) (tv := tv) (tc := tc) (wb := []) (nb := 0) (tp := plTop x (rows.getD i []) (hereK lists i) (belowK lists i) (placeN x (x + 1) rows lists i)) (e0 := _) (e1 := toldN x (x + 1) rows lists i) (e3 := _) (x := x) (below := belowK lists i) (tb := tb) (news2 := (Bl, PySem.W.listOf (List.toArray []) 0) :: (I, oI) :: news) C B' (by k_asm) X' N₉ T' hT (offA TB (offC (Nat.ne_of_gt (ltB _ (.tail _ (.head _)))) (offC TI.symm TN))) (fun q hq p hp => by rcases List.mem_cons.mp hq with rfl | hq; exact Nat.ne_of_gt (ltB _ (.tail _ (.tail _ (List.mem_append_left _ hp)))); rcases List.mem_cons.mp hq with rfl | hq; exact (TBI p hp).symm; exact htb q hq p hp) (by tb_start) (by tb_start) (by tb_start) (by tb_start) (by tb_start) (upX _ hmae) hwe htp (.head _) (hnil _) hneb hbl9 (by omega) (by omega) (by omega) ?_)
      intro h' tk' tb' t1 t2 m' F' N' hT' w1 w2 hp hm'
      refine LPost.next F' N' ((To, PySem.W.listOf (tv ++ [Value.int (toldN x (x + 1) rows lists i) t1]).toArray (tc + 1)) :: (tb' ++ news)) (fun q hq => by simp only [List.mem_cons, List.mem_append] at hq ⊢; grind) (offC TI (offA (fun p hp => (w1 _ (.tail _ (.head _)) p hp).symm) TNI)) (.tail _ (List.mem_append_right _ hrm))
        ⟨_, _, tb', t2, rfl, hT', w2, (fun q hq p hp => w1 q (upX q hq) p hp), ?_, hm' _ _ (by tb_start) (by decide) (by decide) (by decide) (by decide), hp, hm' _ _ (by tb_start) (by decide) (by decide) (by decide) (by decide), hm' _ _ (by tb_start) (by decide) (by decide) (by decide) (by decide), hm' _ _ (by tb_start) (by decide) (by decide) (by decide) (by decide), hm' _ _ (by tb_start) (by decide) (by decide) (by decide) (by decide)⟩
      rw [List.range_succ, List.map_append]
      exact hTV.append (.cons ⟨_, rfl⟩ .nil)
    · rename_i g7 tk7 g8 hi2 Bl g6 ltB h₇ F₇ N₇ hpl
      have hi3 : i = 2 := by omega
      have hbk : belowK lists i = [] := if_neg (by omega)
      have hbl9 : (belowK lists i).length ≤ 90 := by rw [hbk]; exact Nat.zero_le _
      have hneb : ∀ e ∈ belowK lists i, e ≠ [] := by rw [hbk]; exact fun _ h => nomatch h
      have hnil : ∀ led, RA (RL RI) led ([] : List Value) (belowK lists i) := fun _ => by rw [hbk]; exact .nil
      have hwbl : (List.length ([] : List Value)) = (belowK lists i).length := by rw [hbk]; rfl
      have hge : ¬ placeN x (x + 1) rows lists i < (hereK lists i).length := by omega
      have hpe : plEntry x (rows.getD i []) (hereK lists i) (belowK lists i) (placeN x (x + 1) rows lists i) = [x, ((rows.getD i []).length : Nat), ((belowK lists i).length : Nat), 0] := if_neg hge
      refine Stop.go ?_
      k_dflt (refine itemL (by k_asm) (.tail _ (upN _ hrm)) (by omega) (by omega) (by rw [Int.toNat_natCast]; exact hvr) ?_)
      ktr_unf
      rename_i en g9 lt9 h₉ F₉ N₈
      have htt : ((belowK lists i).length : Nat) = plTop x (rows.getD i []) (hereK lists i) (belowK lists i) (placeN x (x + 1) rows lists i) := by unfold plTop; rw [hpe]; rfl
      have htp : plTop x (rows.getD i []) (hereK lists i) (belowK lists i) (placeN x (x + 1) rows lists i) ≤ (belowK lists i).length := Nat.le_of_eq htt.symm
      have ht1 : ((wr.length : Nat) : Int) = toldN x (x + 1) rows lists i := by unfold toldN; rw [hpe, hwrl]; rfl
      obtain ⟨oe, we, u0, u1, u2, u3, hoe, hwe, N₈⟩ : ∃ oe we u0 u1 u2 u3, oe = PySem.W.listOf (List.toArray we) 0 ∧ we = [Value.int x u0, .int (toldN x (x + 1) rows lists i) u1, .int ((plTop x (rows.getD i []) (hereK lists i) (belowK lists i) (placeN x (x + 1) rows lists i) : Nat) : Int) u2, .int 0 u3] ∧ News g L' h₉ ((en, oe) :: (Bl, PySem.W.listOf (List.toArray []) 0) :: (I, oI) :: (To, PySem.W.listOf tv.toArray tc) :: (tb ++ news)) := by
        rw [← htt, ← ht1, ← hwbl]
        exact ⟨_, _, _, _, _, _, rfl, rfl, N₈⟩
      subst hoe
      refine Stop.go ?_
      k_dflt (refine fd_to (P := fun fd => wpAny (model PySem.Challenge.rw_pe0007_01.row.prog w) (ktrTop (dp + 1) (un + 3) gd (Str.ofString "_law_places") fd.scope L' 95 (.ref 94) [] (envX cn cs L a ccd cl :: outer)) (execs ((forBody (stmtsOf fd.body)).drop 3) (envX (Str.ofString "_law_places") fd.scope L' 95 (.ref 94) [])) _ _ _) hfd ?_)
      have upX : ∀ q ∈ news, q ∈ (en, PySem.W.listOf (List.toArray we) 0) :: (Bl, PySem.W.listOf (List.toArray []) 0) :: (I, oI) :: news := (fun q hq => .tail _ (.tail _ (.tail _ hq)))
      have N₉ : News g L' _ ((To, PySem.W.listOf tv.toArray tc) :: (tb ++ (en, PySem.W.listOf (List.toArray we) 0) :: (Bl, PySem.W.listOf (List.toArray []) 0) :: (I, oI) :: news)) := News.sub (by k_asm) plP3
      k_dflt (refine tail_R (To := To) (ae := en) (ab := Bl) (tv := tv) (tc := tc) (wb := []) (nb := 0) (tp := plTop x (rows.getD i []) (hereK lists i) (belowK lists i) (placeN x (x + 1) rows lists i)) (e0 := _) (e1 := toldN x (x + 1) rows lists i) (e3 := _) (x := x) (below := belowK lists i) (tb := tb) (news2 := (en, PySem.W.listOf (List.toArray we) 0) :: (Bl, PySem.W.listOf (List.toArray []) 0) :: (I, oI) :: news) C B' (by k_asm) X' N₉ T' hT (offA TB (offC (Nat.ne_of_gt (lt9 _ (.tail _ (.tail _ (.head _))))) (offC (Nat.ne_of_gt (ltB _ (.tail _ (.head _)))) (offC TI.symm TN)))) (fun q hq p hp => by rcases List.mem_cons.mp hq with rfl | hq; exact Nat.ne_of_gt (lt9 _ (.tail _ (.tail _ (.tail _ (List.mem_append_left _ hp))))); rcases List.mem_cons.mp hq with rfl | hq; exact Nat.ne_of_gt (ltB _ (.tail _ (.tail _ (List.mem_append_left _ hp)))); rcases List.mem_cons.mp hq with rfl | hq; exact (TBI p hp).symm; exact htb q hq p hp) (by tb_start) (by tb_start) (by tb_start) (by tb_start) (by tb_start) (.head _) hwe htp (.tail _ (.head _)) (hnil _) hneb hbl9 (by omega) (by omega) (by omega) ?_)
      intro h' tk' tb' t1 t2 m' F' N' hT' w1 w2 hp hm'
      refine LPost.next F' N' ((To, PySem.W.listOf (tv ++ [Value.int (toldN x (x + 1) rows lists i) t1]).toArray (tc + 1)) :: (tb' ++ news)) (fun q hq => by simp only [List.mem_cons, List.mem_append] at hq ⊢; grind) (offC TI (offA (fun p hp => (w1 _ (.tail _ (.tail _ (.head _))) p hp).symm) TNI)) (.tail _ (List.mem_append_right _ hrm))
        ⟨_, _, tb', t2, rfl, hT', w2, (fun q hq p hp => w1 q (upX q hq) p hp), ?_, hm' _ _ (by tb_start) (by decide) (by decide) (by decide) (by decide), hp, hm' _ _ (by tb_start) (by decide) (by decide) (by decide) (by decide), hm' _ _ (by tb_start) (by decide) (by decide) (by decide) (by decide), hm' _ _ (by tb_start) (by decide) (by decide) (by decide) (by decide), hm' _ _ (by tb_start) (by decide) (by decide) (by decide) (by decide)⟩
      rw [List.range_succ, List.map_append]
      exact hTV.append (.cons ⟨_, rfl⟩ .nil)
  · rintro m₂ n₂ h₈ tk₈ ⟨tv, tc, tb', tp, rfl, hT', TB', htb', hTV, e1, e2, e3, e4, e5, e6⟩ F₈ N₈
    ktr_unf
    refine Back.mk (by k_asm) (News.sub N₈ (n' := [(To, PySem.W.listOf tv.toArray tc)] ++ (tb' ++ news)) (fun _ h => h)) (fun F N => ret (.ref To) _ tb' _ _ F N hT' htb' (fun q hq p hp => by
      rw [List.mem_singleton.mp hp]
      rcases List.mem_append.mp hq with hq | hq
      · exact TB' q hq
      · exact TN q hq) ⟨To, tv, tc, rfl, .head _, RA.ofInts hTV.ints⟩)
end
end
/-! the plain law: searches by halves in lists in order -/
abbrev Srt (xs : List Int) : Prop := xs.Pairwise (· ≤ ·)
theorem bisect_spec (p : Nat → Bool) : ∀ (f lo hi : Nat), hi - lo ≤ f → lo ≤ hi → (∀ i j, lo ≤ i → i < j → j < hi → p j = true → p i = true) →
    lo ≤ bisect p lo hi ∧ bisect p lo hi ≤ hi ∧ (∀ i, lo ≤ i → i < bisect p lo hi → p i = true) ∧ (∀ i, bisect p lo hi ≤ i → i < hi → p i = false) := by
  intro f
  induction f with
  | zero =>
    intro lo hi h1 h2 _
    rw [bisect_ge (by omega)]
    exact ⟨Nat.le_refl _, h2, fun i a b => by omega, fun i a b => by omega⟩
  | succ f ih =>
    intro lo hi h1 h2 hm
    by_cases hlt : lo < hi
    · cases hp : p ((lo + hi) / 2) with
      | true =>
        rw [bisect_up hlt hp]
        obtain ⟨a, b, c, d⟩ := ih ((lo + hi) / 2 + 1) hi (by omega) (by omega) (fun i j x y z => hm i j (by omega) y z)
        refine ⟨by omega, b, fun i x y => ?_, d⟩
        by_cases hi' : i < (lo + hi) / 2
        · exact hm i ((lo + hi) / 2) x hi' (by omega) hp
        · by_cases he : i = (lo + hi) / 2
          · rw [he]; exact hp
          · exact c i (by omega) y
      | false =>
        rw [bisect_down hlt hp]
        obtain ⟨a, b, c, d⟩ := ih lo ((lo + hi) / 2) (by omega) (by omega) (fun i j x y z => hm i j x y (by omega))
        refine ⟨a, by omega, c, fun i x y => ?_⟩
        by_cases hi' : i < (lo + hi) / 2
        · exact d i x hi'
        · cases hq : p i with
          | false => rfl
          | true =>
            by_cases he : i = (lo + hi) / 2
            · rw [he, hp] at hq; cases hq
            · rw [hm ((lo + hi) / 2) i (by omega) (by omega) y hq] at hp; cases hp
    · rw [bisect_ge hlt]
      exact ⟨Nat.le_refl _, h2, fun i a b => by omega, fun i a b => by omega⟩
theorem getD0 {xs : List Int} {i : Nat} (h : i < xs.length) : xs.getD i 0 = xs[i] := by simp [h]
theorem Srt.get {xs : List Int} (h : Srt xs) {i j : Nat} (hij : i ≤ j) (hj : j < xs.length) : xs.getD i 0 ≤ xs.getD j 0 := by
  rw [getD0 (by omega), getD0 hj]
  by_cases he : i = j
  · subst he; exact Int.le_refl _
  · exact List.pairwise_iff_getElem.mp h i j (by omega) hj (by omega)
theorem bisL_spec {xs : List Int} (h : Srt xs) (v : Int) : ∀ i, i < xs.length → (i < bisL xs v ↔ xs.getD i 0 < v) := by
  obtain ⟨_, b, c, d⟩ := bisect_spec (fun i => decide (xs.getD i 0 < v)) xs.length 0 xs.length (by omega) (by omega) (fun i j _ hij hj hp => by
    have := h.get (i := i) (j := j) (by omega) hj
    have hp := of_decide_eq_true hp
    exact decide_eq_true (by omega))
  intro i hi
  constructor
  · intro hlt; exact of_decide_eq_true (c i (Nat.zero_le _) hlt)
  · intro hv
    by_cases hlt : i < bisL xs v
    · exact hlt
    · exact absurd hv (of_decide_eq_false (d i (Nat.le_of_not_lt hlt) hi))
theorem take_lt {xs : List Int} (h : Srt xs) (v : Int) : ∀ a ∈ xs.take (bisL xs v), a < v := fun a ha => by
  obtain ⟨i, hi, e⟩ := List.getElem_of_mem ha
  rw [List.length_take] at hi
  rw [List.getElem_take] at e
  have := (bisL_spec h v i (by omega)).mp (by omega)
  rw [getD0 (by omega), e] at this
  exact this
theorem drop_ge {xs : List Int} (h : Srt xs) (v : Int) : ∀ a ∈ xs.drop (bisL xs v), v ≤ a := fun a ha => by
  obtain ⟨i, hi, e⟩ := List.getElem_of_mem ha
  rw [List.length_drop] at hi
  rw [List.getElem_drop] at e
  have := (not_congr (bisL_spec h v (bisL xs v + i) (by omega))).mp (by omega)
  rw [getD0 (by omega), e] at this
  omega
theorem bisL_lessN {xs : List Int} (h : Srt xs) (v : Int) : bisL xs v = lessN xs v := by
  have e : xs.filter (fun a => decide (a < v)) = xs.take (bisL xs v) := by
    conv => lhs; rw [← List.take_append_drop (bisL xs v) xs]
    rw [List.filter_append, List.filter_eq_self.mpr (fun a ha => decide_eq_true (take_lt h v a ha)), List.filter_eq_nil_iff.mpr (fun a ha => by have := drop_ge h v a ha; simp; omega), List.append_nil]
  unfold lessN
  rw [e, List.length_take]
  have := bisL_le xs v
  omega
theorem bisR_eq (xs : List Int) (v : Int) : bisR xs v = bisL xs (v + 1) := bisLR_of rfl
theorem ins_srt {r : List Int} {y : Int} {b : Nat} (h : Srt r) (h1 : ∀ a ∈ r.take b, a ≤ y) (h2 : ∀ a ∈ r.drop b, y ≤ a) : Srt (r.take b ++ y :: r.drop b) := by
  refine List.pairwise_append.mpr ⟨h.sublist (List.take_sublist _ _), List.pairwise_cons.mpr ⟨h2, h.sublist (List.drop_sublist _ _)⟩, fun a ha c hc => ?_⟩
  rcases List.mem_cons.mp hc with rfl | hc
  · exact h1 a ha
  · exact Int.le_trans (h1 a ha) (h2 c hc)
theorem ins_perm {α : Type} (r : List α) (y : α) (b : Nat) : (r.take b ++ y :: r.drop b).Perm (y :: r) := by
  have := List.perm_middle (a := y) (l₁ := r.take b) (l₂ := r.drop b)
  rw [List.take_append_drop] at this
  exact this
theorem putL_srt {r : List Int} (h : Srt r) (y : Int) : Srt (putL y r) := ins_srt (b := bisL r y) h (fun a ha => Int.le_of_lt (take_lt h y a ha)) (drop_ge h y)
theorem putR_srt {r : List Int} (h : Srt r) (y : Int) : Srt (putR y r) := by
  have e : putR y r = r.take (bisR r y) ++ y :: r.drop (bisR r y) := rfl
  rw [e, bisR_eq]
  exact ins_srt h (fun a ha => by have := take_lt h (y + 1) a ha; omega) (fun a ha => by have := drop_ge h (y + 1) a ha; omega)
theorem putN_ok {r : List Int} (h : Srt r) (n : Int) : Srt (putN n r) ∧ (putN n r).Perm (Int.fdiv n 3 :: r) := by
  unfold putN
  split
  · exact ⟨putR_srt h _, ins_perm _ _ _⟩
  · exact ⟨putL_srt h _, ins_perm _ _ _⟩
theorem rowF_ok (k : Int) : ∀ (ns r : List Int), Srt r → Srt (ns.foldl (fun r n => if Int.fmod n 3 = k then putN n r else r) r) ∧
    (ns.foldl (fun r n => if Int.fmod n 3 = k then putN n r else r) r).Perm (r ++ (ns.filter fun n => decide (Int.fmod n 3 = k)).map fun n => Int.fdiv n 3) := by
  intro ns
  induction ns with
  | nil => intro r h; simp; exact h
  | cons n ns ih =>
    intro r h
    simp only [List.foldl_cons]
    by_cases hk : Int.fmod n 3 = k
    · rw [if_pos hk, List.filter_cons_of_pos (by simpa using hk), List.map_cons]
      obtain ⟨a, b⟩ := putN_ok h n
      obtain ⟨c, d⟩ := ih _ a
      refine ⟨c, d.trans ((b.append_right _).trans ?_)⟩
      exact List.perm_middle.symm
    · rw [if_neg hk, List.filter_cons_of_neg (by simpa using hk)]
      exact ih r h
theorem rowF_srt (ns : List Int) (k : Int) : Srt (rowF ns k) := (rowF_ok k ns [] .nil).1
theorem rowF_isort (ns : List Int) (k : Int) : rowF ns k = isort ltI ((ns.filter fun n => decide (Int.fmod n 3 = k)).map fun n => Int.fdiv n 3) := by
  obtain ⟨a, b⟩ := rowF_ok k ns [] .nil
  exact sorted_isort ltI_tot b (a.imp fun {x y} h => by simpa using h)
/-! the lists made are the lists due -/
theorem map_fst0_due (row lo : List Int) (Q : List (Int × Int)) : (Q.map (dueEntry row lo)).map fst0 = Q.map (·.1) := by
  rw [List.map_map]; rfl
theorem entry_due {row : List Int} {lower : List (List Int)} {lo : List Int} (hr : Srt row) (hl : Srt lo) (e : lower.map fst0 = lo) (v mark : Int) : entryF row lower v mark = dueEntry row lo (v, mark) := by
  unfold entryF dueEntry
  rw [e, bisL_lessN hr, bisL_lessN hl]
theorem insR_end {made : List (List Int)} {e : List Int} (h : ∀ a ∈ made.map fst0, a ≤ fst0 e) (hs : Srt (made.map fst0)) : insR e made = made ++ [e] := by
  have hb : bisR (made.map fst0) (fst0 e) = made.length := by
    rw [bisR_eq]
    have hle := bisL_le (made.map fst0) (fst0 e + 1)
    rw [List.length_map] at hle
    by_cases hlt : bisL (made.map fst0) (fst0 e + 1) < made.length
    · have := (not_congr (bisL_spec hs (fst0 e + 1) (bisL (made.map fst0) (fst0 e + 1)) (by rw [List.length_map]; exact hlt))).mp (by omega)
      rw [getD0 (by rw [List.length_map]; exact hlt)] at this
      have := h _ (List.getElem_mem (by rw [List.length_map]; exact hlt))
      omega
    · omega
  unfold insR
  rw [hb, List.take_length, List.drop_length]
theorem pairsA_srt {row : List Int} (hr : Srt row) {i : Nat} (hi : i ≤ row.length) : Srt ((pairsA row i).map (·.1)) := by
  unfold pairsA
  rw [List.map_map]
  refine List.pairwise_map.mpr ?_
  refine List.pairwise_lt_range.imp_of_mem ?_
  intro a b ha hb hab
  exact hr.get (Nat.le_of_lt hab) (by have := List.mem_range.mp hb; omega)
theorem madeA_due {row : List Int} {lower : List (List Int)} {lo : List Int} (hr : Srt row) (hl : Srt lo) (e : lower.map fst0 = lo) : ∀ i, i ≤ row.length → madeA row lower i = (pairsA row i).map (dueEntry row lo)
  | 0, _ => rfl
  | i + 1, hi => by
    have ih := madeA_due hr hl e i (by omega)
    rw [madeA, ih, entry_due hr hl e, insR_end]
    · unfold pairsA
      rw [List.range_succ, List.map_append, List.map_append]
      rfl
    · rw [map_fst0_due]
      intro a ha
      unfold pairsA at ha
      rw [List.map_map] at ha
      obtain ⟨j, hj, rfl⟩ := List.mem_map.mp ha
      exact hr.get (Nat.le_of_lt (List.mem_range.mp hj)) (by omega)
    · rw [map_fst0_due]
      exact pairsA_srt hr (by omega)
noncomputable def insLP (p : Int × Int) (Q : List (Int × Int)) : List (Int × Int) := Q.take (bisL (Q.map (·.1)) p.1) ++ p :: Q.drop (bisL (Q.map (·.1)) p.1)
noncomputable def pairQ (Q0 : List (Int × Int)) (lo : List Int) : Nat → List (Int × Int)
  | 0 => Q0
  | i + 1 => insLP ((odds lo).getD i 0, -1 - (i : Int)) (pairQ Q0 lo i)
theorem insL_map (row lo : List Int) (p : Int × Int) (Q : List (Int × Int)) : insL (dueEntry row lo p) (Q.map (dueEntry row lo)) = (insLP p Q).map (dueEntry row lo) := by
  unfold insL insLP
  rw [map_fst0_due, List.map_append, List.map_cons, List.map_take, List.map_drop]
  rfl
theorem odds_map {α β : Type} (f : α → β) (l : List α) : odds (l.map f) = (odds l).map f := by
  cases l with
  | nil => simp [odds]
  | cons d r =>
    rw [odds_eq _ (f d), odds_eq _ d, List.map_map, List.length_map]
    refine List.map_congr_left fun i hi => ?_
    have hi := List.mem_range.mp hi
    simp only [Function.comp]
    have h1 : 2 * i + 1 < (d :: r).length := by omega
    rw [List.getD_eq_getElem?_getD, List.getD_eq_getElem?_getD, List.getElem?_map, List.getElem?_eq_getElem h1]
    rfl
theorem madeB_due {row : List Int} {lower : List (List Int)} {lo : List Int} (hr : Srt row) (hl : Srt lo) (e : lower.map fst0 = lo) (Q0 : List (Int × Int)) : ∀ i, i ≤ (odds lower).length → madeB row lower (Q0.map (dueEntry row lo)) i = (pairQ Q0 lo i).map (dueEntry row lo)
  | 0, _ => rfl
  | i + 1, hi => by
    have ih := madeB_due hr hl e Q0 i (by omega)
    have hv : fst0 ((odds lower).getD i []) = (odds lo).getD i 0 := by
      rw [← e, odds_map]
      have : i < (odds lower).length := by omega
      simp [this]
    rw [madeB, ih, entry_due hr hl e, insL_map, hv]
    rfl
abbrev LexS (Q : List (Int × Int)) : Prop := Q.Pairwise fun a b => a.1 < b.1 ∨ (a.1 = b.1 ∧ a.2 ≤ b.2)
theorem LexS.srt {Q : List (Int × Int)} (h : LexS Q) : Srt (Q.map (·.1)) := List.pairwise_map.mpr (h.imp fun {a b} h => by omega)
theorem LexS.lex {Q : List (Int × Int)} (h : LexS Q) : Q.Pairwise fun a b => lexP ltI ltI b a = false := h.imp fun {a b} h => by
  unfold lexP
  by_cases h1 : b.1 = a.1
  · rw [if_pos h1]
    by_cases h2 : b.2 = a.2
    · rw [if_pos h2]
    · rw [if_neg h2]; simp; omega
  · rw [if_neg h1]; simp; omega
theorem insLP_ok {Q : List (Int × Int)} {p : Int × Int} (h : LexS Q) (hm : ∀ a ∈ Q, p.2 < a.2) : LexS (insLP p Q) ∧ (insLP p Q).Perm (p :: Q) := by
  refine ⟨?_, ins_perm _ _ _⟩
  have hs := h.srt
  unfold insLP
  refine List.pairwise_append.mpr ⟨h.sublist (List.take_sublist _ _), List.pairwise_cons.mpr ⟨fun a ha => ?_, h.sublist (List.drop_sublist _ _)⟩, fun a ha c hc => ?_⟩
  · have h1 := drop_ge hs p.1 a.1 (by rw [← List.map_drop]; exact List.mem_map_of_mem ha)
    have h2 := hm a (List.mem_of_mem_drop ha)
    omega
  · have h1 := take_lt hs p.1 a.1 (by rw [← List.map_take]; exact List.mem_map_of_mem ha)
    rcases List.mem_cons.mp hc with rfl | hc
    · exact .inl h1
    · have h2 := drop_ge hs p.1 c.1 (by rw [← List.map_drop]; exact List.mem_map_of_mem hc)
      exact .inl (by omega)
theorem pairsA_ok {row : List Int} (hr : Srt row) : LexS (pairsA row row.length) ∧ ∀ a ∈ pairsA row row.length, 1 ≤ a.2 := by
  unfold pairsA
  refine ⟨List.pairwise_map.mpr (List.pairwise_lt_range.imp_of_mem fun {a b} ha hb hab => ?_), fun a ha => ?_⟩
  · have := hr.get (Nat.le_of_lt hab) (List.mem_range.mp hb)
    simp only
    omega
  · obtain ⟨j, _, rfl⟩ := List.mem_map.mp ha
    simp only
    omega
theorem pairQ_ok {Q0 : List (Int × Int)} (lo : List Int) (h : LexS Q0) (h1 : ∀ a ∈ Q0, 1 ≤ a.2) : ∀ i, LexS (pairQ Q0 lo i) ∧ (pairQ Q0 lo i).Perm (Q0 ++ pairsB lo i) ∧ ∀ a ∈ pairQ Q0 lo i, -1 - (i : Int) < a.2
  | 0 => ⟨h, by unfold pairsB; simp; exact List.Perm.refl _, fun a ha => by have := h1 a ha; omega⟩
  | i + 1 => by
    obtain ⟨a, b, c⟩ := pairQ_ok lo h h1 i
    have ⟨d, e⟩ := insLP_ok (p := ((odds lo).getD i 0, -1 - (i : Int))) a c
    have hB : pairsB lo (i + 1) = pairsB lo i ++ [((odds lo).getD i 0, -1 - (i : Int))] := by
      unfold pairsB
      rw [List.range_succ, List.map_append]
      rfl
    refine ⟨d, ?_, fun q hq => ?_⟩
    · rw [hB, ← List.append_assoc]
      exact e.trans ((b.cons _).trans (List.perm_append_singleton _ _).symm)
    · rcases List.mem_cons.mp (e.mem_iff.mp hq) with rfl | hq
      · simp only; omega
      · have := c q hq; omega
theorem bothF_eq {row : List Int} (hr : Srt row) (lo : List Int) : bothF row lo = pairQ (pairsA row row.length) lo (odds lo).length ∧ LexS (bothF row lo) ∧ (bothF row lo).Perm (pairsA row row.length ++ pairsB lo (odds lo).length) := by
  obtain ⟨a1, a2⟩ := pairsA_ok hr
  obtain ⟨a, b, _⟩ := pairQ_ok lo a1 a2 (odds lo).length
  have e : pairQ (pairsA row row.length) lo (odds lo).length = bothF row lo := sorted_isort (lexP_tot ltI_tot ltI_tot) b a.lex
  exact ⟨e.symm, e ▸ a, e ▸ b⟩
theorem madeF_due {row : List Int} {lower : List (List Int)} {lo : List Int} (hr : Srt row) (hl : Srt lo) (e : lower.map fst0 = lo) : madeF row lower = (bothF row lo).map (dueEntry row lo) := by
  have ho : (odds lower).length = (odds lo).length := by rw [← e, odds_map, List.length_map]
  unfold madeF
  rw [madeA_due hr hl e row.length (Nat.le_refl _), madeB_due hr hl e _ _ (Nat.le_refl _), (bothF_eq hr lo).1, ho]
theorem lower_due {rr : List (List Int)} (h : ∀ r ∈ rr, Srt r) : ∀ i, (lowerN rr i).map fst0 = dueLowN rr i ∧ Srt (dueLowN rr i)
  | 0 => ⟨rfl, .nil⟩
  | i + 1 => by
    obtain ⟨a, b⟩ := lower_due h i
    have hr : Srt (rr.getD i []) := by
      by_cases hi : i < rr.length
      · have : rr.getD i [] = rr[i] := by simp [hi]
        rw [this]; exact h _ (List.getElem_mem hi)
      · have : rr.getD i [] = [] := by simp [hi]
        rw [this]; exact .nil
    rw [lowerN, dueLowN, madeF_due hr b a, map_fst0_due]
    exact ⟨rfl, (bothF_eq hr _).2.1.srt⟩
theorem getD_srt {rr : List (List Int)} (h : ∀ r ∈ rr, Srt r) (i : Nat) : Srt (rr.getD i []) := by
  by_cases hi : i < rr.length
  · have : rr.getD i [] = rr[i] := by simp [hi]
    rw [this]; exact h _ (List.getElem_mem hi)
  · have : rr.getD i [] = [] := by simp [hi]
    rw [this]; exact .nil
theorem lower_made {rr : List (List Int)} (h : ∀ r ∈ rr, Srt r) (i : Nat) : lowerN rr (i + 1) = (bothF (rr.getD i []) (dueLowN rr i)).map (dueEntry (rr.getD i []) (dueLowN rr i)) := by
  obtain ⟨a, b⟩ := lower_due h i
  rw [lowerN, madeF_due (getD_srt h i) b a]
theorem lists_due {rows : List (List Int)} (h : ∀ r ∈ rows, Srt r) : listsF rows = dueF rows := by
  unfold listsF dueF
  refine List.map_congr_left fun i _ => ?_
  exact lower_made (fun r hr => h r (List.mem_reverse.mp hr)) i
/-! the search by places tells what counting tells -/
theorem mem_row {row : List Int} (hr : Srt row) (lo : List Int) {a : Int} (ha : a ∈ row) : a ∈ (bothF row lo).map (·.1) := by
  obtain ⟨i, hi, e⟩ := List.getElem_of_mem ha
  have : (row.getD i 0, (i : Int) + 1) ∈ bothF row lo := (bothF_eq hr lo).2.2.mem_iff.mpr (List.mem_append_left _ (List.mem_map.mpr ⟨i, List.mem_range.mpr hi, rfl⟩))
  have h2 := List.mem_map_of_mem (f := (·.1)) this
  rw [getD0 hi, e] at h2
  exact h2
theorem mem_odd {row : List Int} (hr : Srt row) {lo : List Int} {i : Nat} (hi : 2 * i + 1 < lo.length) : lo.getD (2 * i + 1) 0 ∈ (bothF row lo).map (·.1) := by
  have ho : i < (odds lo).length := by rw [odds_len]; omega
  have : ((odds lo).getD i 0, -1 - (i : Int)) ∈ bothF row lo := (bothF_eq hr lo).2.2.mem_iff.mpr (List.mem_append_right _ (List.mem_map.mpr ⟨i, List.mem_range.mpr ho, rfl⟩))
  have h2 := List.mem_map_of_mem (f := (·.1)) this
  have e : (odds lo).getD i 0 = lo.getD (2 * i + 1) 0 := by
    rw [List.getD_eq_getElem?_getD, List.getD_eq_getElem?_getD, odds_get lo (by omega)]
  rw [← e]; exact h2
theorem step_core {lo : List Int} (hl : Srt lo) {y : Int} {top : Nat} (ht : top ≤ lo.length) (h1 : ∀ i, 2 * i + 1 < top → lo.getD (2 * i + 1) 0 < y) (h2 : bisL lo y ≤ top) :
    bisect (fun i => decide (lo.getD i 0 < y)) (top - 1) top = bisL lo y := by
  have sp := bisL_spec hl y
  have hc : top ≤ bisL lo y + 1 := by
    by_cases hlt : top ≤ bisL lo y + 1
    · exact hlt
    · exfalso
      by_cases hodd : bisL lo y % 2 = 1
      · have h3 := h1 (bisL lo y / 2) (by omega)
        rw [show 2 * (bisL lo y / 2) + 1 = bisL lo y by omega] at h3
        have := (sp (bisL lo y) (by omega)).mpr h3
        omega
      · have h3 := h1 (bisL lo y / 2) (by omega)
        rw [show 2 * (bisL lo y / 2) + 1 = bisL lo y + 1 by omega] at h3
        have := (sp (bisL lo y + 1) (by omega)).mpr h3
        omega
  obtain ⟨a, b, c, d⟩ := bisect_spec (fun i => decide (lo.getD i 0 < y)) top (top - 1) top (by omega) (by omega) (fun i j _ hij hj hp => by
    have := hl.get (i := i) (j := j) (by omega) (by omega)
    have hp := of_decide_eq_true hp
    exact decide_eq_true (by omega))
  generalize bisect (fun i => decide (lo.getD i 0 < y)) (top - 1) top = r at a b c d
  by_cases h3 : r < bisL lo y
  · have := of_decide_eq_false (d r (Nat.le_refl _) (by omega))
    exact absurd ((sp r (by omega)).mp h3) this
  · by_cases h4 : bisL lo y < r
    · have := of_decide_eq_true (c (bisL lo y) (by omega) h4)
      have := (sp (bisL lo y) (by omega)).mpr this
      omega
    · omega
theorem lessN_congr {xs : List Int} {u v : Int} (h : ∀ a ∈ xs, (a < u ↔ a < v)) : lessN xs u = lessN xs v := by
  unfold lessN
  have e : xs.filter (fun a => decide (a < u)) = xs.filter (fun a => decide (a < v)) := List.filter_congr (fun a ha => decide_eq_decide.mpr (h a ha))
  rw [e]
theorem step_law {row lo : List Int} (hr : Srt row) (hl : Srt lo) (x y : Int) (below : List (List Int)) (hb : below.length = lo.length) :
    (plEntry x row ((bothF row lo).map (dueEntry row lo)) below (bisL ((bothF row lo).map (·.1)) y)).getD 1 0 = (lessN row y : Nat) ∧
    bisect (fun i => decide (lo.getD i 0 < y)) (plTop x row ((bothF row lo).map (dueEntry row lo)) below (bisL ((bothF row lo).map (·.1)) y) - 1) (plTop x row ((bothF row lo).map (dueEntry row lo)) below (bisL ((bothF row lo).map (·.1)) y)) = bisL lo y := by
  have hK := (bothF_eq hr lo).2.1.srt
  have sp := bisL_spec hK y
  have hrow := fun a ha => mem_row hr lo (a := a) ha
  have hodd := fun i hi => mem_odd hr (lo := lo) (i := i) hi
  have hlen : ((bothF row lo).map (·.1)).length = (bothF row lo).length := List.length_map _
  unfold plTop plEntry
  rw [List.length_map]
  by_cases hlt : bisL ((bothF row lo).map (·.1)) y < (bothF row lo).length
  · rw [if_pos hlt]
    generalize hp : bisL ((bothF row lo).map (·.1)) y = place at *
    have e1 : ((bothF row lo).map (dueEntry row lo)).getD place [] = dueEntry row lo (bothF row lo)[place] := by simp [hlt]
    have e2 : ((bothF row lo).map (·.1)).getD place 0 = (bothF row lo)[place].1 := by simp [hlt]
    rw [e1]
    generalize (bothF row lo)[place] = q at e1 e2
    have hyv : y ≤ q.1 := by
      have := (not_congr (sp place (by omega))).mp (by omega)
      rw [e2] at this; omega
    have key : ∀ a ∈ (bothF row lo).map (·.1), a < q.1 → a < y := fun a ha hav => by
      obtain ⟨j, hj, e⟩ := List.getElem_of_mem ha
      by_cases hjp : j < place
      · have := (sp j hj).mp hjp
        rw [getD0 hj, e] at this; exact this
      · have := hK.get (i := place) (j := j) (by omega) hj
        rw [e2, getD0 hj, e] at this
        omega
    refine ⟨?_, ?_⟩
    · show ((lessN row q.1 : Nat) : Int) = _
      rw [lessN_congr (fun a ha => ⟨key a (hrow a ha), fun h => by omega⟩)]
    · show bisect _ (((lessN lo q.1 : Nat) : Int).toNat - 1) ((lessN lo q.1 : Nat) : Int).toNat = _
      rw [Int.toNat_natCast, ← bisL_lessN hl]
      have spv := bisL_spec hl q.1
      have hle := bisL_le lo q.1
      refine step_core hl hle (fun i hi => key _ (hodd i (by omega)) ((spv _ (by omega)).mp hi)) ?_
      by_cases h3 : bisL lo y ≤ bisL lo q.1
      · exact h3
      · exfalso
        have hly := bisL_le lo y
        have h4 := (bisL_spec hl y (bisL lo q.1) (by omega)).mp (by omega)
        have h5 := (spv (bisL lo q.1) (by omega)).mpr (by omega)
        omega
  · rw [if_neg hlt]
    have key : ∀ a ∈ (bothF row lo).map (·.1), a < y := fun a ha => by
      obtain ⟨j, hj, e⟩ := List.getElem_of_mem ha
      have := (sp j hj).mp (by omega)
      rw [getD0 hj, e] at this; exact this
    refine ⟨?_, ?_⟩
    · show ((row.length : Nat) : Int) = _
      have : lessN row y = row.length := by
        unfold lessN
        rw [List.filter_eq_self.mpr (fun a ha => decide_eq_true (key a (hrow a ha)))]
      rw [this]
    · show bisect _ (((below.length : Nat) : Int).toNat - 1) ((below.length : Nat) : Int).toNat = _
      rw [Int.toNat_natCast, hb]
      exact step_core hl (Nat.le_refl _) (fun i hi => key _ (hodd i hi)) (bisL_le lo y)
/-! the three rows -/
theorem rowsF_srt (ns : List Int) : ∀ r ∈ rowsF ns, Srt r := fun r hr => by
  unfold rowsF at hr
  rcases List.mem_cons.mp hr with rfl | hr
  · exact rowF_srt _ _
  · rcases List.mem_cons.mp hr with rfl | hr
    · exact rowF_srt _ _
    · rw [List.mem_singleton.mp hr]; exact rowF_srt _ _
section
variable {rows : List (List Int)} (h : ∀ r ∈ rows, Srt r) (h3 : rows.length = 3)
include h3 in
theorem here_lower {k : Nat} (hk : k < 3) : hereK (listsF rows) k = lowerN rows.reverse (3 - k) := by
  unfold hereK listsF
  rw [h3]
  simp [show 2 - k < 3 by omega]
  congr 1
  omega
include h3 in
theorem below_lower {k : Nat} (hk : k < 3) : belowK (listsF rows) k = lowerN rows.reverse (2 - k) := by
  unfold belowK
  by_cases h2 : k < 2
  · rw [if_pos h2]
    unfold listsF
    rw [h3]
    simp [show 1 - k < 3 by omega]
    congr 1
    omega
  · rw [if_neg h2]
    have : k = 2 := by omega
    subst this
    rfl
include h3 in
theorem row_rev {k : Nat} (hk : k < 3) : rows.reverse.getD (2 - k) [] = rows.getD k [] := by
  have h1 : 2 - k < rows.reverse.length := by rw [List.length_reverse]; omega
  rw [List.getD_eq_getElem?_getD, List.getD_eq_getElem?_getD, List.getElem?_reverse (by omega), h3]
  congr 2
  omega
include h h3 in
theorem here_due {k : Nat} (hk : k < 3) : hereK (listsF rows) k = (bothF (rows.getD k []) (dueLowN rows.reverse (2 - k))).map (dueEntry (rows.getD k []) (dueLowN rows.reverse (2 - k))) := by
  have hrr : ∀ r ∈ rows.reverse, Srt r := fun r hr => h r (List.mem_reverse.mp hr)
  rw [here_lower h3 hk, show 3 - k = 2 - k + 1 by omega, lower_made hrr, row_rev h3 hk]
include h h3 in
theorem place_law (x y : Int) : ∀ k, k < 3 → placeN x y rows (listsF rows) k = bisL ((hereK (listsF rows) k).map fst0) y ∧ toldN x y rows (listsF rows) k = (lessN (rows.getD k []) y : Nat) := by
  have hrr : ∀ r ∈ rows.reverse, Srt r := fun r hr => h r (List.mem_reverse.mp hr)
  have told : ∀ k, k < 3 → placeN x y rows (listsF rows) k = bisL ((hereK (listsF rows) k).map fst0) y → toldN x y rows (listsF rows) k = (lessN (rows.getD k []) y : Nat) ∧ bisect (fun i => decide (((belowK (listsF rows) k).map fst0).getD i 0 < y)) (plTop x (rows.getD k []) (hereK (listsF rows) k) (belowK (listsF rows) k) (placeN x y rows (listsF rows) k) - 1) (plTop x (rows.getD k []) (hereK (listsF rows) k) (belowK (listsF rows) k) (placeN x y rows (listsF rows) k)) = bisL ((belowK (listsF rows) k).map fst0) y := by
    intro k hk hp
    obtain ⟨a, b⟩ := lower_due hrr (2 - k)
    have hbl : (belowK (listsF rows) k).map fst0 = dueLowN rows.reverse (2 - k) := by rw [below_lower h3 hk, a]
    have hlen : (belowK (listsF rows) k).length = (dueLowN rows.reverse (2 - k)).length := by rw [← hbl, List.length_map]
    have hr : Srt (rows.getD k []) := getD_srt h k
    have sl := step_law hr b x y (belowK (listsF rows) k) hlen
    unfold toldN
    rw [hp, here_due h h3 hk, map_fst0_due, hbl]
    exact sl
  intro k
  induction k with
  | zero => intro hk; exact ⟨rfl, (told 0 hk rfl).1⟩
  | succ k ih =>
    intro hk
    obtain ⟨a, _⟩ := ih (by omega)
    have t := (told k (by omega) a).2
    have e : placeN x y rows (listsF rows) (k + 1) = bisL ((hereK (listsF rows) (k + 1)).map fst0) y := by
      have hb : belowK (listsF rows) k = hereK (listsF rows) (k + 1) := by rw [below_lower h3 (by omega), here_lower h3 hk, show 3 - (k + 1) = 2 - k by omega]
      rw [← hb, ← t]
      rfl
    exact ⟨e, (told (k + 1) hk e).1⟩
include h3 in
theorem map_range3 {β : Type} (f : List Int → β) : (List.range 3).map (fun k => f (rows.getD k [])) = rows.map f := by
  match rows, h3 with
  | [a, b, c], _ => rfl
include h h3 in
theorem told_law (x y : Int) : toldF x y rows (listsF rows) = rows.map fun r => ((lessN r y : Nat) : Int) := by
  unfold toldF
  rw [← map_range3 h3]
  exact List.map_congr_left fun k hk => (place_law h h3 x y k (List.mem_range.mp hk)).2
include h h3 in
theorem lists_ok (h20 : ∀ r ∈ rows, r.length ≤ 20) : ListsOK rows (listsF rows) := by
  have hrr : ∀ r ∈ rows.reverse, r.length ≤ 20 := fun r hr => h20 r (List.mem_reverse.mp hr)
  have hrs : ∀ r ∈ rows.reverse, Srt r := fun r hr => h r (List.mem_reverse.mp hr)
  refine ⟨h3, by unfold listsF; rw [List.length_map, List.length_range, h3], h20, fun l hl => ?_, fun k hk e he => ?_⟩
  · unfold listsF at hl
    obtain ⟨i, hi, rfl⟩ := List.mem_map.mp hl
    have := lowerN_len rows.reverse hrr (i + 1)
    have := List.mem_range.mp hi
    omega
  · rw [here_due h h3 hk] at he
    obtain ⟨p, _, rfl⟩ := List.mem_map.mp he
    obtain ⟨a, b⟩ := lower_due hrs (2 - k)
    have hbl : (belowK (listsF rows) k).length = (dueLowN rows.reverse (2 - k)).length := by rw [below_lower h3 hk, ← a, List.length_map]
    refine ⟨rfl, Int.natCast_nonneg _, ?_⟩
    show ((lessN (dueLowN rows.reverse (2 - k)) p.1 : Nat) : Int) ≤ _
    rw [hbl]
    exact Int.ofNat_le.mpr (List.length_filter_le _ _)
end
noncomputable def LawOK1 (ns : List Int) : Prop :=
  rowsF ns = ((List.range 3).map fun (k : Nat) => isort ltI ((ns.filter fun n => decide (Int.fmod n 3 = (k : Int))).map fun n => Int.fdiv n 3)) ∧ listsF (rowsF ns) = dueF (rowsF ns) ∧ ListsOK (rowsF ns) (listsF (rowsF ns)) ∧
  ∀ x y : Int, (rowsF ns).map (fun r => ((bisL r y : Nat) : Int)) = (rowsF ns).map (fun r => ((lessN r y : Nat) : Int)) ∧ toldF x y (rowsF ns) (listsF (rowsF ns)) = (rowsF ns).map (fun r => ((lessN r y : Nat) : Int))
theorem law_pure1 (ns : List Int) (hn : ns.length ≤ 20) : LawOK1 ns := by
  have hs := rowsF_srt ns
  have h3 : (rowsF ns).length = 3 := rfl
  refine ⟨?_, lists_due hs, lists_ok hs h3 (fun r hr => ?_), fun x y => ⟨List.map_congr_left fun r hr => by rw [bisL_lessN (hs r hr)], told_law hs h3 x y⟩⟩
  · show [rowF ns 0, rowF ns 1, rowF ns 2] = _
    rw [rowF_isort, rowF_isort, rowF_isort]
    rfl
  · unfold rowsF at hr
    rcases List.mem_cons.mp hr with rfl | hr
    · exact Nat.le_trans (rowF_len _ _) hn
    · rcases List.mem_cons.mp hr with rfl | hr
      · exact Nat.le_trans (rowF_len _ _) hn
      · rw [List.mem_singleton.mp hr]; exact Nat.le_trans (rowF_len _ _) hn
section
theorem offE01j : True := by
  w_top off
  trivial
local macro_rules | `(tactic| walk_at "compareOp NotEq ref ref") => `(tactic| (refine Stop.at ?_))
noncomputable def forBody5 : List Stmt → List Stmt
  | _ :: _ :: _ :: _ :: _ :: .For _ _ b _ _ :: _ => b
  | _ => []
theorem hfP1 {b l : Addr × Obj} {tb r : Led} : ∀ q ∈ tb ++ (l :: r), q ∈ b :: l :: (tb ++ r) := fun q hq => by
  simp only [List.mem_cons, List.mem_append] at hq ⊢; grind
theorem hfP2 {l : Addr × Obj} {tl tb r : Led} : ∀ q ∈ tb ++ r, q ∈ tl ++ (tb ++ (l :: r)) := fun q hq => by
  simp only [List.mem_cons, List.mem_append] at hq ⊢; grind
section
variable {w : World} {dp un : Nat} {gd : Option (List Code)} {cn : Str} {L a : Addr} {ccd : Value} {outer : List Env} {A₀ : Around} {base h₀ : Heap}
  {m : Str → Option Value} {news : Led} {s : Shared} {Q : Flow → Shared → Prop} {p : Program} {loose : List Str} {mean : ExcName → Option Value} {mg mb : Str → Option Value}
set_option maxRecDepth 100000 in
set_option maxHeartbeats 40000000 in
theorem half_R {rl ll : Addr} {rv lv : List Value} {rn ln : Nat} {rows : List (List Int)} {lists : List (List (List Int))} {x : Int} {tx : Tok} {oX : Obj} {tb news : Led} (C : CodeHd base 63 59)
    (B : Below A₀ base outer h₀) (F : Fr h₀ L s.heap m) (X : (top.heap_39 w.params).In h₀) (N : News h₀ L s.heap (tb ++ news)) (T : Top p loose mean mg mb h₀) (hT : NoteTab w tb) (htb : ∀ q ∈ news, ∀ p ∈ tb, q.1 ≠ p.1)
    (hcX : (L + 1, oX) ∈ news) (dX : oX.data = .cell (some (.int x tx))) (f1 : m (Str.ofString "rows") = some (.ref rl)) (f2 : m (Str.ofString "lists") = some (.ref ll)) (hrm : (rl, PySem.W.listOf rv.toArray rn) ∈ news) (hRV : RA (RL RI) news rv rows) (hlm : (ll, PySem.W.listOf lv.toArray ln) ∈ news) (hLV : RA (RL (RL RI)) news lv lists)
    (hOK : ListsOK rows lists) (pure : ∀ x y : Int, rows.map (fun r => ((bisL r y : Nat) : Int)) = rows.map (fun r => ((lessN r y : Nat) : Int)) ∧ toldF x y rows lists = rows.map (fun r => ((lessN r y : Nat) : Int))) (hdp : dp + 8 ≤ 400) (hun : un + 80 ≤ 4000)
    (ret : ∀ h' tk' m' tb', Fr h₀ L h' m' → News h₀ L h' (tb' ++ news) → NoteTab w tb' → (∀ q ∈ news, ∀ p ∈ tb', q.1 ≠ p.1) → m' (Str.ofString "rows") = some (.ref rl) → m' (Str.ofString "lists") = some (.ref ll) → Q .next { s with heap := h', toks := tk' }) :
    wpAny (model PySem.Challenge.rw_pe0007_01.row.prog w) (ktrTop dp un gd cn (fdAt (top.heap_39 w.params) 100).scope L a ccd [(Str.ofString "numbers", L + 2), (Str.ofString "x", L + 1)] outer)
      (execs ((forBody5 (stmtsOf (fdAt (top.heap_39 w.params) 100).body)).drop 3) (envX cn (fdAt (top.heap_39 w.params) 100).scope L a ccd [(Str.ofString "numbers", L + 2), (Str.ofString "x", L + 1)])) Q (fun _ _ => False) s := by
  (have X' := X; revert X'; k_fill; intro hX9; clear hX9)
  k_dflt (refine' with_fdX (K := (top.heap_39 w.params)) (f := 100) X ?ho ?_; (case ho => k_is))
  intro hfd
  k_dflt (refine' body_of (K := (top.heap_39 w.params)) (P := fun fd => wpAny (model PySem.Challenge.rw_pe0007_01.row.prog w) (ktrTop dp un gd cn fd.scope L a ccd [(Str.ofString "numbers", L + 2), (Str.ofString "x", L + 1)] outer)
      (execs ((forBody5 (stmtsOf fd.body)).drop 3) (envX cn fd.scope L a ccd [(Str.ofString "numbers", L + 2), (Str.ofString "x", L + 1)])) Q (fun _ _ => False) s) ?ho ?_; (case ho => k_is))
  dsimp only [fnOf, stmtsOf, forBody5, List.drop]
  have hcL := cLine_is
  have hrl := hRV.length
  have hr3 := hOK.1
  have h20 := hOK.2.2.1
  have upN : ∀ q ∈ news, q ∈ tb ++ news := fun q hq => List.mem_append_right _ hq
  have hrm1 := upN _ hrm
  have hcX1 := upN _ hcX
  ktr_unf
  refine Stop.go ?_
  refine LCg.CompSrc.ledger rfl (by k_asm) (by k_asm) hrm1 (by rw [List.size_toArray, sizeLine_eq]; omega) ?_
  intro g₁
  refine restU (N := rv.length) (fun i ys n₁ => n₁ = tb ++ news ∧ RA RI [] ys ((rows.take i).map fun r => ((lessN r (x + 1) : Nat) : Int))) ?_ ?_ _ 0 [] _ (by simp) ⟨rfl, .nil⟩
  · rintro i v I oI Cc oC D m₃ h tk E' ys n₁ hi hv ⟨rfl, hY⟩ hC hx F₉ N₉ off ne
    obtain ⟨r, hst, ra, wr, nr, rfl, hra, hwr⟩ := hRV.get' (by simpa using hv)
    have hcX2 : (L + 1, oX) ∈ (I, oI) :: (Cc, oC) :: (D, LCg.lst ys) :: (tb ++ news) := .tail _ (.tail _ (.tail _ hcX1))
    have hra2 : (ra, PySem.W.listOf wr.toArray nr) ∈ (I, oI) :: (Cc, oC) :: (D, LCg.lst ys) :: (tb ++ news) := .tail _ (.tail _ (.tail _ (upN _ hra)))
    have hr20 := h20 r (List.mem_of_getElem? hst)
    ktr_unf
    refine Stop.go ?_
    k_dflt (refine less_call (l := ra) (x := (x + 1)) B (by k_asm) X (by k_asm) T rfl hra2 (RA.ofInts hwr.ints) (by omega) (by omega) (by omega) ?_)
    intro t₁ h₁ tk₁ F₁ N₁
    ktr_unf
    refine Stop.go ?_
    exact compEnd (by k_asm) (by k_asm) (tb ++ news) (fun _ h => h) off (srcAt hrm1) ⟨rfl, by rw [map_take _ _ hst]; exact hY.append (.cons ⟨_, rfl⟩ .nil)⟩
  · rintro ys n₁ ⟨rfl, hY⟩
    rw [List.take_of_length_le (Nat.le_of_eq hrl.symm)] at hY
    intro Le h₁ tk₁ F₁ N₁ offL
    have leT : ∀ p ∈ tb, p.1 ≠ Le := fun p hp => off1 offL p (List.mem_append_left _ hp)
    have hrm2 : (rl, PySem.W.listOf rv.toArray rn) ∈ (Le, LCg.lst ys) :: (tb ++ news) := .tail _ hrm1
    ktr_unf
    refine Stop.go ?_
    k_dflt (refine LCg.ListComp_U (F₀ := by k_asm) (by with_unfolding_all rfl) (by decide) (by rfl) (by decide) (by rfl) ?_)
    ktr_unf
    refine Stop.go ?_
    refine LCg.CompSrc.ledger rfl (by k_asm) (by k_asm) hrm2 (by rw [List.size_toArray, sizeLine_eq]; omega) ?_
    intro g₂
    refine restU (N := rv.length) (fun i zs n₁ => n₁ = (Le, LCg.lst ys) :: (tb ++ news) ∧ RA RI [] zs ((rows.take i).map fun r => ((bisL r (x + 1) : Nat) : Int))) ?_ ?_ _ 0 [] _ (by simp) ⟨rfl, .nil⟩
    · rintro i v I oI Cc oC D m₃ h tk E' zs n₁ hi hv ⟨rfl, hZ⟩ hC hx F₉ N₉ off ne
      obtain ⟨r, hst, ra, wr, nr, rfl, hra, hwr⟩ := hRV.get' (by simpa using hv)
      have hcX2 : (L + 1, oX) ∈ (I, oI) :: (Cc, oC) :: (D, LCg.lst zs) :: (Le, LCg.lst ys) :: (tb ++ news) := .tail _ (.tail _ (.tail _ (.tail _ hcX1)))
      have hra2 : (ra, PySem.W.listOf wr.toArray nr) ∈ (I, oI) :: (Cc, oC) :: (D, LCg.lst zs) :: (Le, LCg.lst ys) :: (tb ++ news) := .tail _ (.tail _ (.tail _ (.tail _ (upN _ hra))))
      have hr20 := h20 r (List.mem_of_getElem? hst)
      ktr_unf
      refine Stop.go ?_
      k_dflt (refine br_ints (l := ra) (x := x) B (by k_asm) X (by k_asm) T rfl hra2 hwr.ints (by omega) (by omega) (bd2_32 (X.keeps (Fr.keep (by k_asm))) _ _) ?_)
      intro t₁ h₁ tk₁ F₁ N₁
      rw [shiftR]
      ktr_unf
      refine Stop.go ?_
      exact compEnd (by k_asm) (by k_asm) ((Le, LCg.lst ys) :: (tb ++ news)) (fun _ h => h) off (srcAt hrm2) ⟨rfl, by rw [map_take _ _ hst]; exact hZ.append (.cons ⟨_, rfl⟩ .nil)⟩
    · rintro zs n₁ ⟨rfl, hZ⟩
      rw [List.take_of_length_le (Nat.le_of_eq hrl.symm)] at hZ
      intro Bi h₂ tk₂ F₂ N₂ offB
      ktr_unf
      refine Stop.go ?_
      refine RL.ne (R := RI) (xs := rows.map fun r => ((bisL r (x + 1) : Nat) : Int)) (ys := rows.map fun r => ((lessN r (x + 1) : Nat) : Int)) (RI.eqR 0) (by k_asm) ⟨Bi, zs, _, rfl, .head _, RA.ofInts hZ.ints⟩ ⟨Le, ys, _, rfl, .tail _ (.head _), RA.ofInts hY.ints⟩ (by show un + (0 + 1) < cLine; omega) _ _ _ _ ?_
      rw [(pure x (x + 1)).1, decide_eq_true rfl]
      have N₃ := News.sub N₂ hfP1
      clear N₁ N₂ F₁ offB offL hrm2
      ktr_unf
      refine Stop.go ?_
      k_dflt (refine places_R (rl := rl) (ll := ll) (x := x) (tb := tb) (news := (Le, LCg.lst ys) :: news) C B (by k_asm) X N₃ T rfl hT (fun q hq p hp => by rcases List.mem_cons.mp hq with rfl | hq; exact (leT p hp).symm; exact htb q hq p hp) (.tail _ hrm) (hRV.mono (RL.mono RI.mono) (fun q hq => .tail _ hq)) (.tail _ hlm) (hLV.mono (RL.mono (RL.mono RI.mono)) (fun q hq => .tail _ hq)) hOK (by omega) (by omega) ?_)
      intro r tl tb' h₃ tk₃ F₃ N₄ hT' a1 a2 hr
      obtain ⟨ta, tv, tn, rfl, htm, hTV⟩ := hr
      ktr_unf
      refine Stop.go ?_
      refine RL.ne (R := RI) (xs := toldF x (x + 1) rows lists) (ys := rows.map fun r => ((lessN r (x + 1) : Nat) : Int)) (RI.eqR 0) (by k_asm) ⟨ta, tv, tn, rfl, List.mem_append_left _ htm, RA.ofInts hTV.ints⟩ ⟨Le, ys, _, rfl, List.mem_append_right _ (List.mem_append_right _ (.head _)), RA.ofInts hY.ints⟩ (by show un + (0 + 1) < cLine; omega) _ _ _ _ ?_
      rw [(pure x (x + 1)).2, decide_eq_true rfl]
      have N₅ := News.sub N₄ hfP2
      clear N₃ N₄ hTV htm a2
      walk1
      rw [if_neg (show ¬ ((!true) = true) from Bool.false_ne_true)]
      refine wpAny_execs_nil ?_
      refine wpAny_execs_nil ?_
      exact ret _ _ _ tb' (by k_asm) N₅ hT' (fun q hq => a1 q (.tail _ hq)) (by tb_start) (by tb_start)
set_option maxRecDepth 100000 in
set_option maxHeartbeats 40000000 in
theorem half_L {rl ll : Addr} {rv lv : List Value} {rn ln : Nat} {rows : List (List Int)} {lists : List (List (List Int))} {x : Int} {tx : Tok} {oX : Obj} {tb news : Led} (C : CodeHd base 63 59)
    (B : Below A₀ base outer h₀) (F : Fr h₀ L s.heap m) (X : (top.heap_39 w.params).In h₀) (N : News h₀ L s.heap (tb ++ news)) (T : Top p loose mean mg mb h₀) (hT : NoteTab w tb) (htb : ∀ q ∈ news, ∀ p ∈ tb, q.1 ≠ p.1)
    (hcX : (L + 1, oX) ∈ news) (dX : oX.data = .cell (some (.int x tx))) (f1 : m (Str.ofString "rows") = some (.ref rl)) (f2 : m (Str.ofString "lists") = some (.ref ll)) (hrm : (rl, PySem.W.listOf rv.toArray rn) ∈ news) (hRV : RA (RL RI) news rv rows) (hlm : (ll, PySem.W.listOf lv.toArray ln) ∈ news) (hLV : RA (RL (RL RI)) news lv lists)
    (hOK : ListsOK rows lists) (pure : ∀ x y : Int, rows.map (fun r => ((bisL r y : Nat) : Int)) = rows.map (fun r => ((lessN r y : Nat) : Int)) ∧ toldF x y rows lists = rows.map (fun r => ((lessN r y : Nat) : Int))) (hdp : dp + 8 ≤ 400) (hun : un + 80 ≤ 4000)
    (ret : ∀ h' tk' m' tb', Fr h₀ L h' m' → News h₀ L h' (tb' ++ news) → NoteTab w tb' → (∀ q ∈ news, ∀ p ∈ tb', q.1 ≠ p.1) → m' (Str.ofString "rows") = some (.ref rl) → m' (Str.ofString "lists") = some (.ref ll) → Q .next { s with heap := h', toks := tk' }) :
    wpAny (model PySem.Challenge.rw_pe0007_01.row.prog w) (ktrTop dp un gd cn (fdAt (top.heap_39 w.params) 100).scope L a ccd [(Str.ofString "numbers", L + 2), (Str.ofString "x", L + 1)] outer)
      (execs ((forBody5 (stmtsOf (fdAt (top.heap_39 w.params) 100).body)).drop 0) (envX cn (fdAt (top.heap_39 w.params) 100).scope L a ccd [(Str.ofString "numbers", L + 2), (Str.ofString "x", L + 1)])) Q (fun _ _ => False) s := by
  (have X' := X; revert X'; k_fill; intro hX9; clear hX9)
  k_dflt (refine' with_fdX (K := (top.heap_39 w.params)) (f := 100) X ?ho ?_; (case ho => k_is))
  intro hfd
  k_dflt (refine' body_of (K := (top.heap_39 w.params)) (P := fun fd => wpAny (model PySem.Challenge.rw_pe0007_01.row.prog w) (ktrTop dp un gd cn fd.scope L a ccd [(Str.ofString "numbers", L + 2), (Str.ofString "x", L + 1)] outer)
      (execs ((forBody5 (stmtsOf fd.body)).drop 0) (envX cn fd.scope L a ccd [(Str.ofString "numbers", L + 2), (Str.ofString "x", L + 1)])) Q (fun _ _ => False) s) ?ho ?_; (case ho => k_is))
  dsimp only [fnOf, stmtsOf, forBody5, List.drop]
  have hcL := cLine_is
  have hrl := hRV.length
  have hr3 := hOK.1
  have h20 := hOK.2.2.1
  have upN : ∀ q ∈ news, q ∈ tb ++ news := fun q hq => List.mem_append_right _ hq
  have hrm1 := upN _ hrm
  have hcX1 := upN _ hcX
  ktr_unf
  refine Stop.go ?_
  refine LCg.CompSrc.ledger rfl (by k_asm) (by k_asm) hrm1 (by rw [List.size_toArray, sizeLine_eq]; omega) ?_
  intro g₁
  refine restU (N := rv.length) (fun i ys n₁ => n₁ = tb ++ news ∧ RA RI [] ys ((rows.take i).map fun r => ((lessN r x : Nat) : Int))) ?_ ?_ _ 0 [] _ (by simp) ⟨rfl, .nil⟩
  · rintro i v I oI Cc oC D m₃ h tk E' ys n₁ hi hv ⟨rfl, hY⟩ hC hx F₉ N₉ off ne
    obtain ⟨r, hst, ra, wr, nr, rfl, hra, hwr⟩ := hRV.get' (by simpa using hv)
    have hcX2 : (L + 1, oX) ∈ (I, oI) :: (Cc, oC) :: (D, LCg.lst ys) :: (tb ++ news) := .tail _ (.tail _ (.tail _ hcX1))
    have hra2 : (ra, PySem.W.listOf wr.toArray nr) ∈ (I, oI) :: (Cc, oC) :: (D, LCg.lst ys) :: (tb ++ news) := .tail _ (.tail _ (.tail _ (upN _ hra)))
    have hr20 := h20 r (List.mem_of_getElem? hst)
    ktr_unf
    refine Stop.go ?_
    k_dflt (refine less_call (l := ra) (x := x) B (by k_asm) X (by k_asm) T rfl hra2 (RA.ofInts hwr.ints) (by omega) (by omega) (by omega) ?_)
    intro t₁ h₁ tk₁ F₁ N₁
    ktr_unf
    refine Stop.go ?_
    exact compEnd (by k_asm) (by k_asm) (tb ++ news) (fun _ h => h) off (srcAt hrm1) ⟨rfl, by rw [map_take _ _ hst]; exact hY.append (.cons ⟨_, rfl⟩ .nil)⟩
  · rintro ys n₁ ⟨rfl, hY⟩
    rw [List.take_of_length_le (Nat.le_of_eq hrl.symm)] at hY
    intro Le h₁ tk₁ F₁ N₁ offL
    have leT : ∀ p ∈ tb, p.1 ≠ Le := fun p hp => off1 offL p (List.mem_append_left _ hp)
    have hrm2 : (rl, PySem.W.listOf rv.toArray rn) ∈ (Le, LCg.lst ys) :: (tb ++ news) := .tail _ hrm1
    ktr_unf
    refine Stop.go ?_
    k_dflt (refine LCg.ListComp_U (F₀ := by k_asm) (by with_unfolding_all rfl) (by decide) (by rfl) (by decide) (by rfl) ?_)
    ktr_unf
    refine Stop.go ?_
    refine LCg.CompSrc.ledger rfl (by k_asm) (by k_asm) hrm2 (by rw [List.size_toArray, sizeLine_eq]; omega) ?_
    intro g₂
    refine restU (N := rv.length) (fun i zs n₁ => n₁ = (Le, LCg.lst ys) :: (tb ++ news) ∧ RA RI [] zs ((rows.take i).map fun r => ((bisL r x : Nat) : Int))) ?_ ?_ _ 0 [] _ (by simp) ⟨rfl, .nil⟩
    · rintro i v I oI Cc oC D m₃ h tk E' zs n₁ hi hv ⟨rfl, hZ⟩ hC hx F₉ N₉ off ne
      obtain ⟨r, hst, ra, wr, nr, rfl, hra, hwr⟩ := hRV.get' (by simpa using hv)
      have hcX2 : (L + 1, oX) ∈ (I, oI) :: (Cc, oC) :: (D, LCg.lst zs) :: (Le, LCg.lst ys) :: (tb ++ news) := .tail _ (.tail _ (.tail _ (.tail _ hcX1)))
      have hra2 : (ra, PySem.W.listOf wr.toArray nr) ∈ (I, oI) :: (Cc, oC) :: (D, LCg.lst zs) :: (Le, LCg.lst ys) :: (tb ++ news) := .tail _ (.tail _ (.tail _ (.tail _ (upN _ hra))))
      have hr20 := h20 r (List.mem_of_getElem? hst)
      ktr_unf
      refine Stop.go ?_
      k_dflt (refine bl_ints (l := ra) (x := x) B (by k_asm) X (by k_asm) T rfl hra2 hwr.ints (by omega) (by omega) (bd2_50 (X.keeps (Fr.keep (by k_asm))) _ _) ?_)
      intro t₁ h₁ tk₁ F₁ N₁
      skip
      ktr_unf
      refine Stop.go ?_
      exact compEnd (by k_asm) (by k_asm) ((Le, LCg.lst ys) :: (tb ++ news)) (fun _ h => h) off (srcAt hrm2) ⟨rfl, by rw [map_take _ _ hst]; exact hZ.append (.cons ⟨_, rfl⟩ .nil)⟩
    · rintro zs n₁ ⟨rfl, hZ⟩
      rw [List.take_of_length_le (Nat.le_of_eq hrl.symm)] at hZ
      intro Bi h₂ tk₂ F₂ N₂ offB
      ktr_unf
      refine Stop.go ?_
      refine RL.ne (R := RI) (xs := rows.map fun r => ((bisL r x : Nat) : Int)) (ys := rows.map fun r => ((lessN r x : Nat) : Int)) (RI.eqR 0) (by k_asm) ⟨Bi, zs, _, rfl, .head _, RA.ofInts hZ.ints⟩ ⟨Le, ys, _, rfl, .tail _ (.head _), RA.ofInts hY.ints⟩ (by show un + (0 + 1) < cLine; omega) _ _ _ _ ?_
      rw [(pure x x).1, decide_eq_true rfl]
      have N₃ := News.sub N₂ hfP1
      clear N₁ N₂ F₁ offB offL hrm2
      ktr_unf
      refine Stop.go ?_
      k_dflt (refine places_L (rl := rl) (ll := ll) (x := x) (tb := tb) (news := (Le, LCg.lst ys) :: news) C B (by k_asm) X N₃ T rfl hT (fun q hq p hp => by rcases List.mem_cons.mp hq with rfl | hq; exact (leT p hp).symm; exact htb q hq p hp) (.tail _ hrm) (hRV.mono (RL.mono RI.mono) (fun q hq => .tail _ hq)) (.tail _ hlm) (hLV.mono (RL.mono (RL.mono RI.mono)) (fun q hq => .tail _ hq)) hOK (by omega) (by omega) ?_)
      intro r tl tb' h₃ tk₃ F₃ N₄ hT' a1 a2 hr
      obtain ⟨ta, tv, tn, rfl, htm, hTV⟩ := hr
      ktr_unf
      refine Stop.go ?_
      refine RL.ne (R := RI) (xs := toldF x x rows lists) (ys := rows.map fun r => ((lessN r x : Nat) : Int)) (RI.eqR 0) (by k_asm) ⟨ta, tv, tn, rfl, List.mem_append_left _ htm, RA.ofInts hTV.ints⟩ ⟨Le, ys, _, rfl, List.mem_append_right _ (List.mem_append_right _ (.head _)), RA.ofInts hY.ints⟩ (by show un + (0 + 1) < cLine; omega) _ _ _ _ ?_
      rw [(pure x x).2, decide_eq_true rfl]
      have N₅ := News.sub N₄ hfP2
      clear N₃ N₄ hTV htm a2
      walk1
      rw [if_neg (show ¬ ((!true) = true) from Bool.false_ne_true)]
      refine wpAny_execs_nil ?_
      k_dflt (refine fd_to (P := fun fd => wpAny (model PySem.Challenge.rw_pe0007_01.row.prog w) (ktrTop dp un gd cn fd.scope L a ccd [(Str.ofString "numbers", L + 2), (Str.ofString "x", L + 1)] outer) (execs ((forBody5 (stmtsOf fd.body)).drop 3) (envX cn fd.scope L a ccd [(Str.ofString "numbers", L + 2), (Str.ofString "x", L + 1)])) _ _ _) hfd ?_)
      exact half_R (tb := tb') (news := news) C B (by k_asm) X N₅ T hT' (fun q hq => a1 q (.tail _ hq)) hcX dX (by tb_start) (by tb_start) hrm hRV hlm hLV hOK pure hdp hun (fun h' tk' m' tb' F N a b c d => ret h' tk' m' tb' F N a b c d)
end
end
section
theorem offE01k : True := by
  w_top off
  trivial
local macro_rules | `(tactic| walk_at "compareOp NotEq ref ref") => `(tactic| (refine Stop.at ?_))
/-- the state of the loop over the sought numbers -/
noncomputable def SoughtJ (w : World) (base : Led) (cX rl ll : Addr) (m₁ : Str → Option Value) (n₁ : Led) : Prop :=
  ∃ oX wX tb, n₁ = (cX, oX) :: (tb ++ base) ∧ oX.data = .cell wX ∧ NoteTab w tb ∧ (∀ p ∈ tb, p.1 ≠ cX) ∧ (∀ q ∈ base, ∀ p ∈ tb, q.1 ≠ p.1) ∧ m₁ (Str.ofString "rows") = some (.ref rl) ∧ m₁ (Str.ofString "lists") = some (.ref ll)
theorem sgP2 {x c m k : Addr × Obj} {tb r : Led} : ∀ q ∈ c :: (tb ++ (x :: r)), q ∈ x :: k :: m :: c :: (tb ++ r) := fun q hq => by
  simp only [List.mem_cons, List.mem_append] at hq ⊢; grind
theorem sgP3 {i c : Addr × Obj} {tb r : Led} : ∀ q ∈ c :: i :: (tb ++ r), q ∈ i :: c :: (tb ++ r) := fun q hq => by
  simp only [List.mem_cons] at hq ⊢; grind
theorem sgP4 {c i : Addr × Obj} {tb r : Led} : ∀ q ∈ tb ++ (c :: i :: r), q ∈ c :: i :: (tb ++ r) := fun q hq => by
  simp only [List.mem_cons, List.mem_append] at hq ⊢; grind
theorem sgP5 {c i : Addr × Obj} {tb r : Led} : ∀ q ∈ i :: c :: (tb ++ r), q ∈ tb ++ (c :: i :: r) := fun q hq => by
  simp only [List.mem_cons, List.mem_append] at hq ⊢; grind
section
variable {w : World} {dp un : Nat} {gd : Option (List Code)} {cn : Str} {L a : Addr} {ccd : Value} {outer : List Env} {A₀ : Around} {base h₀ : Heap}
  {m : Str → Option Value} {news : Led} {s : Shared} {Q : Flow → Shared → Prop} {E : Value → Shared → Prop} {p : Program} {loose : List Str} {mean : ExcName → Option Value} {mg mb : Str → Option Value}
set_option maxRecDepth 100000 in
set_option maxHeartbeats 40000000 in
theorem sought_loop {rl ll nl : Addr} {rv lv nv : List Value} {rn ln nn : Nat} {ns : List Int} {oX oN : Obj} {wX : Option Value} {tb news : Led} (C : CodeHd base 63 59)
    (B : Below A₀ base outer h₀) (F : Fr h₀ L s.heap m) (X : (top.heap_39 w.params).In h₀) (N : News h₀ L s.heap ((L + 1, oX) :: (tb ++ news))) (T : Top p loose mean mg mb h₀) (hT : NoteTab w tb) (offT : ∀ p ∈ tb, p.1 ≠ L + 1) (offN1 : ∀ p ∈ news, p.1 ≠ L + 1) (htb : ∀ q ∈ news, ∀ p ∈ tb, q.1 ≠ p.1)
    (dX : oX.data = .cell wX) (hoN : (L + 2, oN) ∈ news) (dN : oN.data = .cell (some (.ref nl))) (hnm : (nl, PySem.W.listOf nv.toArray nn) ∈ news) (hNV : RA RI news nv ns) (hn20 : ns.length ≤ 20)
    (f1 : m (Str.ofString "rows") = some (.ref rl)) (f2 : m (Str.ofString "lists") = some (.ref ll)) (hrm : (rl, PySem.W.listOf rv.toArray rn) ∈ news) (hRV : RA (RL RI) news rv (rowsF ns)) (hlm : (ll, PySem.W.listOf lv.toArray ln) ∈ news) (hLV : RA (RL (RL RI)) news lv (listsF (rowsF ns)))
    (pure : LawOK1 ns) (hdp : dp + 8 ≤ 400) (hun : un + 100 ≤ 4000)
    (ret : ∀ h' tk' m' n' tb', Fr h₀ L h' m' → NoteTab w tb' → News h₀ L h' (tb' ++ n') → Q (.ret (.bool true)) { s with heap := h', toks := tk' }) :
    wpAny (model PySem.Challenge.rw_pe0007_01.row.prog w) (ktrTop dp un gd cn (fdAt (top.heap_39 w.params) 100).scope L a ccd [(Str.ofString "numbers", L + 2), (Str.ofString "x", L + 1)] outer)
      (execs ((stmtsOf (fdAt (top.heap_39 w.params) 100).body).drop 5) (envX cn (fdAt (top.heap_39 w.params) 100).scope L a ccd [(Str.ofString "numbers", L + 2), (Str.ofString "x", L + 1)])) Q E s := by
  (have X' := X; revert X'; k_fill; intro hX9; clear hX9)
  k_dflt (refine' with_fdX (K := (top.heap_39 w.params)) (f := 100) X ?ho ?_; (case ho => k_is))
  intro hfd
  refine wpAny_mono (E := fun _ _ => False) ?_ (fun _ _ h => h) (fun _ _ x => x.elim)
  k_dflt (refine' body_of (K := (top.heap_39 w.params)) (P := fun fd => wpAny (model PySem.Challenge.rw_pe0007_01.row.prog w) (ktrTop dp un gd cn fd.scope L a ccd [(Str.ofString "numbers", L + 2), (Str.ofString "x", L + 1)] outer)
      (execs ((stmtsOf fd.body).drop 5) (envX cn fd.scope L a ccd [(Str.ofString "numbers", L + 2), (Str.ofString "x", L + 1)])) Q (fun _ _ => False) s) ?ho ?_; (case ho => k_is))
  dsimp only [fnOf, stmtsOf, List.drop]
  have hcL := cLine_is
  have hnl := hNV.length
  have hrl := hRV.length
  have offX : ∀ p ∈ tb ++ news, p.1 ≠ L + 1 := offA offT offN1
  have upN : ∀ q ∈ news, q ∈ (L + 1, oX) :: (tb ++ news) := fun q hq => .tail _ (List.mem_append_right _ hq)
  have hcN := upN _ hoN
  have hnlL := upN _ hnm
  ktr_unf
  refine Stop.go ?_
  refine For_turns F ?_ (hE := PassesOwn.never)
  ktr_unf
  rename_i Mo h₁ F₁ N₁ ltM
  refine Stop.go ?_
  obtain ⟨mv, N₁, hMV⟩ : ∃ mv : List Value, News h₀ L h₁ ((Mo, PySem.W.listOf mv.toArray 0) :: (L + 1, oX) :: (tb ++ news)) ∧ RA RI [] mv [-1] := ⟨_, N₁, .cons ⟨_, rfl⟩ .nil⟩
  have hml := hMV.length
  k_dflt (refine LCg.ListComp_U (F₀ := by k_asm) (by with_unfolding_all rfl) (by decide) (by rfl) (by decide) (by rfl) ?_)
  ktr_unf
  refine Stop.go ?_
  refine LCg.CompSrc.ledger rfl (by k_asm) (by k_asm) (.tail _ hnlL) (by rw [List.size_toArray, sizeLine_eq]; omega) ?_
  intro g₁
  refine restU (N := nv.length) (fun i ys n₁ => n₁ = (Mo, PySem.W.listOf mv.toArray 0) :: (L + 1, oX) :: (tb ++ news) ∧ RA RI [] ys ((ns.take i).map fun n => Int.fdiv n 3 + Int.fmod n 2)) ?_ ?_ _ 0 [] _ (by simp) ⟨rfl, .nil⟩
  · rintro i v I oI Cc oC D m₃ h tk E' ys n₁ hi hv ⟨rfl, hY⟩ hC hx F₉ N₉ off ne
    obtain ⟨b, hst, t₃, rfl⟩ := hNV.get' (by simpa using hv)
    ktr_unf
    refine Stop.go ?_
    exact compEnd (by k_asm) (by k_asm) ((Mo, PySem.W.listOf mv.toArray 0) :: (L + 1, oX) :: (tb ++ news)) (fun _ h => h) off (srcAt (.tail _ hnlL)) ⟨rfl, by rw [map_take _ _ hst]; exact hY.append (.cons ⟨_, rfl⟩ .nil)⟩
  · rintro ys n₁ ⟨rfl, hY⟩
    intro Co h₂ tk₂ F₂ N₂ offC
    rw [List.take_of_length_le (Nat.le_of_eq hnl.symm)] at hY
    have hyl := hY.length
    rw [List.length_map] at hyl
    ktr_unf
    refine Stop.go ?_
    k_dflt (refine addL (by k_asm) (by k_asm) (.tail _ (.head _)) (.head _) (by simp only [List.length_cons, List.length_nil] at hml; omega) ?_)
    intro Xs h₃ F₃ N₃ ltX
    have hXV := hMV.append hY
    have xX : L + 1 ≠ Xs := Nat.ne_of_lt (ltX _ (.tail _ (.tail _ (.head _))))
    have xT : ∀ p ∈ tb, p.1 ≠ Xs := fun p hp => Nat.ne_of_lt (ltX _ (.tail _ (.tail _ (.tail _ (List.mem_append_left _ hp)))))
    have xN : ∀ p ∈ news, p.1 ≠ Xs := fun p hp => Nat.ne_of_lt (ltX _ (.tail _ (.tail _ (.tail _ (List.mem_append_right _ hp)))))
    have N₄ := News.sub N₃ sgP2
    clear N₃ ltX offC N₂ F₂ N₁ F₁
    ktr_unf
    refine Stop.go ?_
    refine forL (fun i m₁ n₁ => SoughtJ w ((Xs, PySem.W.listOf (mv ++ ys).toArray 0) :: news) (L + 1) rl ll m₁ n₁) rfl (by k_asm) N₄ (.tail _ (List.mem_append_right _ (.head _))) ⟨oX, wX, tb, rfl, dX, hT, offT, (fun q hq p hp => by
      rcases List.mem_cons.mp hq with rfl | hq
      · exact (xT p hp).symm
      · exact htb q hq p hp), f1, f2⟩ ?_ ?_
    · clear dX hT offT N₄ F₃ hcN hnlL offX htb xT upN
      rintro i v I oI m₁ n₁ h₄ tk₄ hv ⟨oX, wX, tb, rfl, dX, hT, offT, htb, f1, f2⟩ hm₁ off F₄ N₄
      obtain ⟨x, hst, tx, rfl⟩ := hXV.get' hv
      have xI : L + 1 ≠ I := off _ (.head _)
      have tI : ∀ p ∈ tb, p.1 ≠ I := fun p hp => off p (.tail _ (List.mem_append_left _ hp))
      have nI : ∀ p ∈ (Xs, PySem.W.listOf (mv ++ ys).toArray 0) :: news, p.1 ≠ I := fun p hp => off p (.tail _ (List.mem_append_right _ hp))
      have nX : ∀ p ∈ (Xs, PySem.W.listOf (mv ++ ys).toArray 0) :: news, p.1 ≠ L + 1 := offC xX.symm offN1
      have tL := offT
      clear off
      ktr_unf
      refine Stop.go ?_
      have N₅ := News.sub N₄ sgP3
      refine storeC F₄ N₅ (offC xI.symm (offA offT nX)) rfl dX ?_ rfl rfl
      clear N₄ N₅ F₄ dX offT
      intro h₅ oX' F₅ N₆ dX'
      k_dflt (refine fd_to (P := fun fd => wpAny (model PySem.Challenge.rw_pe0007_01.row.prog w) (ktrTop dp un gd cn fd.scope L a ccd [(Str.ofString "numbers", L + 2), (Str.ofString "x", L + 1)] outer) (execs ((forBody5 (stmtsOf fd.body)).drop 0) (envX cn fd.scope L a ccd [(Str.ofString "numbers", L + 2), (Str.ofString "x", L + 1)])) _ _ _) hfd ?_)
      have up3 : ∀ q ∈ news, q ∈ (L + 1, oX') :: (I, oI) :: (Xs, PySem.W.listOf (mv ++ ys).toArray 0) :: news := fun q hq => .tail _ (.tail _ (.tail _ hq))
      k_dflt (refine half_L (rl := rl) (ll := ll) (x := x) (tx := tx) (tb := tb) (news := (L + 1, oX') :: (I, oI) :: (Xs, PySem.W.listOf (mv ++ ys).toArray 0) :: news) C B F₅ X (News.sub N₆ sgP4) T hT (fun q hq p hp => by rcases List.mem_cons.mp hq with rfl | hq; exact (tL p hp).symm; rcases List.mem_cons.mp hq with rfl | hq; exact (tI p hp).symm; exact htb q hq p hp) (.head _) dX' f1 f2 (up3 _ hrm) (hRV.mono (RL.mono RI.mono) up3) (up3 _ hlm) (hLV.mono (RL.mono (RL.mono RI.mono)) up3) pure.2.2.1 pure.2.2.2 hdp (by omega) ?_)
      intro h' tk' m' tb' F' N' hT' ap e1 e2
      exact LPost.next F' N' ((L + 1, oX') :: (tb' ++ (Xs, PySem.W.listOf (mv ++ ys).toArray 0) :: news)) sgP5 (offC xI (offA (fun p hp => (ap _ (.tail _ (.head _)) p hp).symm) nI)) (.tail _ (List.mem_append_right _ (.head _)))
        ⟨oX', _, tb', rfl, dX', hT', (fun p hp => (ap _ (.head _) p hp).symm), (fun q hq p hp => ap q (.tail _ (.tail _ hq)) p hp), e1, e2⟩
    · rintro m₂ n₂ h₈ tk₈ ⟨oX, wX, tb, rfl, dX, hT, offT, htb, f1, f2⟩ F₈ N₈
      ktr_unf
      exact ret _ _ _ _ tb F₈ hT (News.sub N₈ (fun q hq => .tail _ hq))
end
end
section
theorem offE01l : True := by
  w_top off
  trivial
local macro_rules | `(tactic| walk_at "compareOp NotEq ref ref") => `(tactic| (refine Stop.at ?_))
theorem lwP1 {n k t d c x b : Addr × Obj} : ∀ q ∈ [c, n, x, b], q ∈ [n, k, t, d, c, x, b] := fun q hq => by
  simp only [List.mem_cons] at hq ⊢; grind
theorem eqR3 : EqR (RL (RL RI)) 2 := RL.eqR (RL.eqR (RI.eqR 0) RI.fun) (RL.fun RI.fun)
noncomputable def lastNums : List Int := [8, 14, 9, 10, 17, 12, 8, 11]
theorem lwP2 {tl2 led : Led} {d d3 I C K D : Addr × Obj} : ∀ p ∈ I :: C :: K :: D :: (([d] ++ tl2) ++ led), p ∈ d :: d3 :: I :: C :: K :: D :: (tl2 ++ led) := fun p hp => by
  simp only [List.mem_cons, List.mem_append, List.not_mem_nil, or_false] at hp ⊢; grind
theorem rowsF_20 {ns : List Int} (hn : ns.length ≤ 20) : ∀ r ∈ rowsF ns, r.length ≤ 20 := fun r hr => by
  unfold rowsF at hr
  rcases List.mem_cons.mp hr with rfl | hr
  · exact Nat.le_trans (rowF_len _ _) hn
  · rcases List.mem_cons.mp hr with rfl | hr
    · exact Nat.le_trans (rowF_len _ _) hn
    · rw [List.mem_singleton.mp hr]; exact Nat.le_trans (rowF_len _ _) hn
theorem lwP3 {tl tl3 : Led} {a b x y : Addr × Obj} : ∀ p ∈ a :: ([b] ++ (tl3 ++ (tl ++ [x, y]))), p ∈ tl3 ++ (tl ++ [x, y, a, b]) := fun p hp => by
  simp only [List.mem_cons, List.mem_append, List.not_mem_nil, or_false] at hp ⊢; grind
section
variable {w : World} {dp un : Nat} {gd : Option (List Code)} {cn : Str} {L a : Addr} {ccd : Value} {outer : List Env} {A₀ : Around} {base h₀ : Heap}
  {m : Str → Option Value} {news : Led} {s : Shared} {Q : Flow → Shared → Prop} {E : Value → Shared → Prop} {p : Program} {loose : List Str} {mean : ExcName → Option Value} {mg mb : Str → Option Value}
set_option maxRecDepth 100000 in
set_option maxHeartbeats 40000000 in
theorem law_body {l : Addr} {vs : List Value} {ns : List Int} {o1 o2 : Obj} {w1 w2 : Option Value} (C : CodeHd base 63 59)
    (B : Below A₀ base outer h₀) (F : Fr h₀ L s.heap m) (X : (top.heap_39 w.params).In h₀) (N : News h₀ L s.heap [(L + 2, o1), (L + 1, o2), (59, tabObj #[])]) (T : Top p loose mean mg mb h₀) (l59 : 59 < L)
    (hms : m (Str.ofString "script") = some (.ref l)) (hl : h₀.IsList l vs.toArray) (hI : IntsAre vs ns) (hlen : ns.length ≤ 63) (d1 : o1.data = .cell w1) (d2 : o2.data = .cell w2) (hdp : dp + 10 ≤ 400) (hun : un + 120 ≤ 4000)
    (ret : ∀ h' tk' m' n' tb', Fr h₀ L h' m' → NoteTab w tb' → News h₀ L h' (tb' ++ n') → Q (.ret (.bool true)) { s with heap := h', toks := tk' }) :
    wpAny (model PySem.Challenge.rw_pe0007_01.row.prog w) (ktrTop dp un gd cn (fdAt (top.heap_39 w.params) 100).scope L a ccd [(Str.ofString "numbers", L + 2), (Str.ofString "x", L + 1)] outer)
      (execs (stmtsOf (fdAt (top.heap_39 w.params) 100).body) (envX cn (fdAt (top.heap_39 w.params) 100).scope L a ccd [(Str.ofString "numbers", L + 2), (Str.ofString "x", L + 1)])) Q E s := by
  (have X' := X; revert X'; k_fill; intro hX9; clear hX9)
  k_dflt (refine' with_fdX (K := (top.heap_39 w.params)) (f := 100) X ?ho ?_; (case ho => k_is))
  intro hfd
  refine wpAny_mono (E := fun _ _ => False) ?_ (fun _ _ h => h) (fun _ _ x => x.elim)
  k_dflt (refine' body_of (K := (top.heap_39 w.params)) (P := fun fd => wpAny (model PySem.Challenge.rw_pe0007_01.row.prog w) (ktrTop dp un gd cn fd.scope L a ccd [(Str.ofString "numbers", L + 2), (Str.ofString "x", L + 1)] outer)
      (execs (stmtsOf fd.body) (envX cn fd.scope L a ccd [(Str.ofString "numbers", L + 2), (Str.ofString "x", L + 1)])) Q (fun _ _ => False) s) ?ho ?_; (case ho => k_is))
  dsimp only [fnOf, stmtsOf]
  have hln := hI.length
  have hcL := cLine_is
  ktr_unf
  refine Stop.go ?_
  k_dflt (refine LCg.ListComp_U (F₀ := by k_asm) (by with_unfolding_all rfl) (by decide) (by rfl) (by decide) (by rfl) ?_)
  ktr_unf
  rename_i D₁ ws h₁ F₁ N₁ hW _ _ lt₁
  have hW : RA RI [] ws (ns.take 6) := RA.ofInts hW
  have hwl : ws.length ≤ 6 := by have := hW.length; rw [List.length_take] at this; omega
  refine Stop.go ?_
  refine LCg.CompSrc.ledger rfl (by k_asm) (by k_asm) (List.Mem.head _) (by rw [List.size_toArray, sizeLine_eq]; omega) ?_
  intro g₁
  refine restU (N := ws.length) (fun i ys n₁ => n₁ = [(D₁, PySem.W.listOf ws.toArray 0), (L + 2, o1), (L + 1, o2), (59, tabObj #[])] ∧ ∃ tn, (∀ led, RA RI led ys tn) ∧ ys.length = i) ?_ ?_ _ 0 [] _ (by simp) ⟨rfl, [], fun _ => .nil, rfl⟩
  · rintro i v I oI Cc oC D m₃ h₉ tk₉ E' ys n₁ hi hv ⟨rfl, tn, hY, hyl⟩ hC hx F₉ N₉ off ne
    obtain ⟨b, hst, t₃, rfl⟩ := hW.get' (by simpa using hv)
    ktr_unf
    refine Stop.go ?_
    refine compEnd (by k_asm) (by k_asm) [(D₁, PySem.W.listOf ws.toArray 0), (L + 2, o1), (L + 1, o2), (59, tabObj #[])] (fun _ h => h) off (srcAt (.head _)) ⟨rfl, tn ++ [_], fun led => (hY led).append (.cons ⟨_, rfl⟩ .nil), by rw [List.length_append, List.length_singleton, hyl]⟩
  · rintro tv n₁ ⟨rfl, tn, hT, htl⟩
    intro Tk h₂ tk₂ F₂ N₂ offT
    ktr_unf
    rename_i Kc h₃ F₃ N₃ ltK
    refine Stop.go ?_
    obtain ⟨kv, N₃, hKV⟩ : ∃ kv : List Value, News h₀ L h₃ [(Kc, PySem.W.listOf kv.toArray 0), (Tk, LCg.lst tv), (D₁, PySem.W.listOf ws.toArray 0), (L + 2, o1), (L + 1, o2), (59, tabObj #[])] ∧ ∀ led, RA RI led kv lastNums :=
      ⟨_, N₃, fun _ => .cons ⟨_, rfl⟩ (.cons ⟨_, rfl⟩ (.cons ⟨_, rfl⟩ (.cons ⟨_, rfl⟩ (.cons ⟨_, rfl⟩ (.cons ⟨_, rfl⟩ (.cons ⟨_, rfl⟩ (.cons ⟨_, rfl⟩ .nil)))))))⟩
    have hkl : kv.length = 8 := (hKV []).length
    k_dflt (refine addL (by k_asm) (by k_asm) (.tail _ (.head _)) (.head _) (by omega) ?_)
    intro Nb h₄ F₄ N₄ ltN
    have n2 : L + 2 ≠ Nb := Nat.ne_of_lt (ltN _ (.tail _ (.tail _ (.tail _ (.head _)))))
    have n1 : L + 1 ≠ Nb := Nat.ne_of_lt (ltN _ (.tail _ (.tail _ (.tail _ (.tail _ (.head _))))))
    have c21 : L + 2 ≠ L + 1 := Nat.ne_of_gt (Nat.lt_succ_self _)
    have c2 : L + 2 ≠ 59 := Nat.ne_of_gt (Nat.lt_succ_of_lt (Nat.lt_succ_of_lt l59))
    have c1 : L + 1 ≠ 59 := Nat.ne_of_gt (Nat.lt_succ_of_lt l59)
    have cN : Nb ≠ 59 := Nat.ne_of_gt (ltN _ (.tail _ (.tail _ (.tail _ (.tail _ (.tail _ (.head _)))))))
    obtain ⟨NS, hNS, hNl⟩ : ∃ NS : List Int, (∀ led, RA RI led (tv ++ kv) NS) ∧ NS.length ≤ 14 := by
      refine ⟨tn ++ lastNums, fun led => (hT led).append (hKV led), ?_⟩
      have h1 := (hT []).length
      rw [List.length_append]
      show tn.length + 8 ≤ 14
      omega
    have pure := law_pure1 NS (by omega)
    have N₅ := News.sub N₄ lwP1
    generalize tv ++ kv = nv at hNS N₅
    clear N₃ N₄ ltK ltN hKV hT offT
    ktr_unf
    refine Stop.go ?_
    refine storeC F₄ N₅ (offC n2.symm (offC c21.symm (offC c2.symm offN))) rfl d1 ?_ rfl rfl
    clear N₅ F₄ d1
    intro h₅ oN F₅ N₆ dN
    ktr_unf
    refine Stop.go ?_
    k_dflt (refine rows_call (l := Nb) (ns := NS) B (by k_asm) X (by k_asm) T rfl (.tail _ (.head _)) (hNS _) (by omega) (by omega) (by omega) ?_)
    intro r tl h₆ tk₆ F₆ N₇ ap hr
    obtain ⟨Rw, rv, rn, rfl, hrm, hRV⟩ := hr
    obtain ⟨led, hled⟩ : ∃ led, led = tl ++ [(L + 2, oN), (Nb, PySem.W.listOf nv.toArray 0), (L + 1, o2), (59, tabObj #[])] := ⟨_, rfl⟩
    have hnm : (L + 2, oN) ∈ led := by rw [hled]; exact List.mem_append_right _ (.head _)
    have hnb : (Nb, PySem.W.listOf nv.toArray 0) ∈ led := by rw [hled]; exact List.mem_append_right _ (.tail _ (.head _))
    have tlL : ∀ q ∈ tl, q ∈ led := fun q hq => by rw [hled]; exact List.mem_append_left _ hq
    have hrmL := tlL _ hrm
    rw [← hled] at N₇
    ktr_unf
    refine Stop.go ?_
    k_dflt (refine cellCompS (h₀ := h₀) (L := L) (m := fun y => if y = Str.ofString "rows" then some (.ref Rw) else m y) (by with_unfolding_all rfl) (by rfl) (by decide) (by intro _ _; rfl) (by intro _; rfl) (by intro _; rfl) ?_)
    ktr_unf
    rename_i h₇ F₇ N₈ h₈ tk₈ ra1 ra2 ra3 hRg F₉ N₉ _
    refine ⟨_, 3, led, fun i ys n₁ => MapJ (RL RI) led (fun k : Nat => isort ltI ((NS.filter fun n => decide (Int.fmod n 3 = (k : Int))).map fun n => Int.fdiv n 3)) (List.range 3) i ys n₁, 3, _, _, _, rfl, rfl, F₉, N₉, hRg, by decide, by decide, by decide, ⟨[], rfl, (fun _ _ _ h => nomatch h), .nil⟩, ?_, ?_⟩
    · intro g
      rintro i t I oI Cc oC Kc oK D oD h₁₀ tk₁₀ E' ys n₁ hi ⟨tl2, rfl, p2, hY⟩ hK rfl F₁₀ N₁₀ off
      have inN : (L + 2, oN) ∈ (I, oI) :: (Cc, oC) :: (Kc, oK) :: (D, LCg.lst ys) :: (tl2 ++ led) := .tail _ (.tail _ (.tail _ (.tail _ (List.mem_append_right _ hnm))))
      have inB : (Nb, PySem.W.listOf nv.toArray 0) ∈ (I, oI) :: (Cc, oC) :: (Kc, oK) :: (D, LCg.lst ys) :: (tl2 ++ led) := .tail _ (.tail _ (.tail _ (.tail _ (List.mem_append_right _ hnb))))
      have inK : (Kc, oK) ∈ (I, oI) :: (Cc, oC) :: (Kc, oK) :: (D, LCg.lst ys) :: (tl2 ++ led) := .tail _ (.tail _ (.head _))
      clear N₈ F₇ hRg F₉ N₉
      ktr_unf
      refine Stop.go ?_
      k_dflt (refine LCt.ListComp_T (F₀ := by k_asm) (by with_unfolding_all rfl) (by decide) (by rfl) (by decide) (by rfl) ?_)
      ktr_unf
      refine Stop.go ?_
      refine LCt.CompSrcT.ledger rfl (by k_asm) (by k_asm) inB (by rw [List.size_toArray, sizeLine_eq]; have := (hNS []).length; omega) ?_
      intro g₁₁
      refine restT (N := nv.length) (fun j zs n₁ => n₁ = (I, oI) :: (Cc, oC) :: (Kc, oK) :: (D, LCg.lst ys) :: (tl2 ++ led) ∧ RA RI [] zs (((NS.take j).filter fun n => decide (Int.fmod n 3 = (i : Int))).map fun n => Int.fdiv n 3)) ?_ ?_ _ 0 [] _ (by simp) ⟨rfl, .nil⟩
      · rintro j v J oJ C₂ oC₂ D₂ m₃ h₁₁ tk₁₁ E'' zs n₁ hj hv ⟨rfl, hZ⟩ hC₂ hx F₁₁ N₁₁ off₁ ne
        obtain ⟨b, hst, t₃, rfl⟩ := (hNS []).get' (by simpa using hv)
        have hft := filter_take (fun n => decide (Int.fmod n 3 = (i : Int))) _ hst
        have jnK : (Kc, oK) ∈ (J, oJ) :: (C₂, oC₂) :: (D₂, LCg.lst zs) :: (I, oI) :: (Cc, oC) :: (Kc, oK) :: (D, LCg.lst ys) :: (tl2 ++ led) := .tail _ (.tail _ (.tail _ inK))
        clear N₁₀ F₁₀
        ktr_unf
        · refine Stop.go ?_
          refine compEnd (by k_asm) (by k_asm) ((I, oI) :: (Cc, oC) :: (Kc, oK) :: (D, LCg.lst ys) :: (tl2 ++ led)) (fun _ h => h) off₁ (srcAt inB) ⟨rfl, ?_⟩
          rw [hft, if_pos (decide_eq_true (by assumption)), List.map_append]
          exact hZ.append (.cons ⟨_, rfl⟩ .nil)
        · refine Stop.go ?_
          refine compEnd (by k_asm) (by k_asm) ((I, oI) :: (Cc, oC) :: (Kc, oK) :: (D, LCg.lst ys) :: (tl2 ++ led)) (fun _ h => h) off₁ (srcAt inB) ⟨rfl, ?_⟩
          rename_i hne
          rw [hft, if_neg (fun h => hne (of_decide_eq_true h)), List.append_nil]
          exact hZ
      · rintro zs n₁ ⟨rfl, hZ⟩
        intro D₃ h₁₂ tk₁₂ F₁₂ N₁₂ off₂
        rw [List.take_of_length_le (Nat.le_of_eq (hNS []).length.symm)] at hZ
        have hzl := hZ.length
        have hzm : (((NS.filter fun n => decide (Int.fmod n 3 = (i : Int))).map fun n => Int.fdiv n 3)).length ≤ 14 := by rw [List.length_map]; exact Nat.le_trans (List.length_filter_le _ _) hNl
        clear N₁₀ F₁₀
        ktr_unf
        refine Stop.go ?_
        k_dflt (refine sortedL (by k_asm) (by k_asm) (.head _) hZ (by omega) ?_)
        intro D₅ vr cr h₁₃ F₁₃ N₁₃ lt₁₃ hVR
        ktr_unf
        have l1 : ∀ q ∈ led, q.1 ≠ D₅ := fun q hq => Nat.ne_of_lt (lt₁₃ q (.tail _ (.tail _ (.tail _ (.tail _ (.tail _ (List.mem_append_right _ hq)))))))
        refine ⟨h₁₃, _, ([(D₅, PySem.W.listOf vr.toArray cr)] ++ tl2) ++ led, rfl, F₁₃, News.sub N₁₃ lwP2, fun p hp => ?_, MapJ.next (RL.mono RI.mono) (by simp [hi]) p2 hY (fun q hq p hp => by rw [List.mem_singleton.mp hp]; exact l1 q hq) ⟨D₅, vr, cr, rfl, .head _, hVR _⟩⟩
        rcases List.mem_cons.mp hp with rfl | hp
        · exact ⟨Nat.ne_of_gt (lt₁₃ (I, oI) (.tail _ (.head _))), Nat.ne_of_gt (lt₁₃ (Cc, oC) (.tail _ (.tail _ (.head _)))), Nat.ne_of_gt (lt₁₃ (Kc, oK) (.tail _ (.tail _ (.tail _ (.head _))))), Nat.ne_of_gt (lt₁₃ (D, LCg.lst ys) (.tail _ (.tail _ (.tail _ (.tail _ (.head _))))))⟩
        · exact off p hp
    · rintro D₉ ys₉ news₉ h₉ tk₉ ⟨tl2, rfl, p2, hY⟩ F₁₁ N₁₁ off₁ hyl
      have hY : RA (RL RI) tl2 ys₉ ((List.range 3).map fun k : Nat => isort ltI ((NS.filter fun n => decide (Int.fmod n 3 = (k : Int))).map fun n => Int.fdiv n 3)) := hY
      clear N₈ F₇ hRg F₉ N₉
      ktr_unf
      refine Stop.go ?_
      refine RL.ne (R := RL RI) (xs := rowsF NS) (ys := (List.range 3).map fun k : Nat => isort ltI ((NS.filter fun n => decide (Int.fmod n 3 = (k : Int))).map fun n => Int.fdiv n 3)) eqRE (by k_asm) ⟨Rw, rv, rn, rfl, .tail _ (List.mem_append_right _ hrmL), hRV.mono (RL.mono RI.mono) (fun q hq => .tail _ (List.mem_append_right _ (tlL q hq)))⟩ ⟨D₉, ys₉, _, rfl, .head _, hY.mono (RL.mono RI.mono) (fun q hq => .tail _ (List.mem_append_left _ hq))⟩ (by show un + (1 + 1) < cLine; omega) _ _ _ _ ?_
      rw [decide_eq_true pure.1]
      have N₁₂ := News.sub N₁₁ (n' := led) (fun q hq => .tail _ (List.mem_append_right _ hq))
      clear N₁₁ hY off₁ p2
      walk1
      rw [if_neg (show ¬ ((!true) = true) from Bool.false_ne_true)]
      ktr_unf
      refine Stop.go ?_
      k_dflt (refine lists_call (l := Rw) (rows := rowsF NS) B (by k_asm) X (by k_asm) T rfl hrmL (hRV.mono (RL.mono RI.mono) tlL) (Nat.le_refl 3) (rowsF_20 (Nat.le_trans hNl (by decide))) (by omega) (by omega) ?_)
      intro r2 tl3 h₁₃ tk₁₃ F₁₃ N₁₃ ap3 hr2
      obtain ⟨Ll, lv, ln, rfl, hlm, hLV⟩ := hr2
      have hrm3 := List.mem_append_right tl3 hrmL
      ktr_unf
      refine Stop.go ?_
      k_dflt (refine due_call (l := Rw) (rows := rowsF NS) B (by k_asm) X (by k_asm) T rfl hrm3 (hRV.mono (RL.mono RI.mono) fun q hq => List.mem_append_right _ (tlL q hq)) (Nat.le_refl 3) (rowsF_20 (Nat.le_trans hNl (by decide))) (by omega) (by omega) ?_)
      intro r3 tl4 h₁₄ tk₁₄ F₁₄ N₁₄ ap4 hr3
      ktr_unf
      refine Stop.go ?_
      refine RL.ne (R := RL (RL RI)) (xs := listsF (rowsF NS)) (ys := dueF (rowsF NS)) eqR3 (by k_asm) ⟨Ll, lv, ln, rfl, List.mem_append_right _ (List.mem_append_left _ hlm), hLV.mono (RL.mono (RL.mono RI.mono)) (fun q hq => List.mem_append_right _ (List.mem_append_left _ hq))⟩ (RL.mono (RL.mono (RL.mono RI.mono)) _ _ _ _ (fun q hq => List.mem_append_left _ hq) hr3) (by show un + (2 + 1) < cLine; omega) _ _ _ _ ?_
      rw [decide_eq_true pure.2.1]
      have N₁₅ := News.sub N₁₄ (n' := tl3 ++ led) (fun q hq => List.mem_append_right _ hq)
      clear N₁₄ hr3 ap4
      walk1
      rw [if_neg (show ¬ ((!true) = true) from Bool.false_ne_true)]
      refine wpAny_execs_nil ?_
      have t1 : ∀ p ∈ tl, p.1 ≠ L + 1 := fun p hp => (ap (L + 1, o2) (.tail _ (.tail _ (.head _))) p hp).symm
      have t59 : ∀ p ∈ tl, p.1 ≠ 59 := fun p hp => (ap (59, tabObj #[]) (.tail _ (.tail _ (.tail _ (.head _)))) p hp).symm
      have hm1 : (L + 1, o2) ∈ led := by rw [hled]; exact List.mem_append_right _ (.tail _ (.tail _ (.head _)))
      have hm59 : (59, tabObj #[]) ∈ led := by rw [hled]; exact List.mem_append_right _ (.tail _ (.tail _ (.tail _ (.head _))))
      have u1 : ∀ p ∈ tl3, p.1 ≠ L + 1 := fun p hp => (ap3 (L + 1, o2) hm1 p hp).symm
      have u59 : ∀ p ∈ tl3, p.1 ≠ 59 := fun p hp => (ap3 (59, tabObj #[]) hm59 p hp).symm
      have N₁₆ : News h₀ L h₁₄ ((L + 1, o2) :: ([(59, tabObj #[])] ++ (tl3 ++ (tl ++ [(L + 2, oN), (Nb, PySem.W.listOf nv.toArray 0)])))) := News.sub N₁₅ (by rw [hled]; exact lwP3)
      clear N₁₅ hled hY
      k_dflt (refine fd_to (P := fun fd => wpAny (model PySem.Challenge.rw_pe0007_01.row.prog w) (ktrTop dp un gd cn fd.scope L a ccd [(Str.ofString "numbers", L + 2), (Str.ofString "x", L + 1)] outer) (execs ((stmtsOf fd.body).drop 5) (envX cn fd.scope L a ccd [(Str.ofString "numbers", L + 2), (Str.ofString "x", L + 1)])) Q (fun _ _ => False) _) hfd ?_)
      k_dflt (refine sought_loop (tb := [(59, tabObj #[])]) (news := (tl3 ++ (tl ++ [(L + 2, oN), (Nb, PySem.W.listOf nv.toArray 0)]))) (nl := Nb) (rl := Rw) (ll := Ll) (ns := NS) C B (by exact F₁₄) X (by exact N₁₆) T (.inl rfl) (offC c1.symm offN) (offA u1 (offA t1 (offC c21 (offC n1.symm offN)))) (fun q hq p hp => by rw [List.mem_singleton.mp hp]; exact (offA u59 (offA t59 (offC c2 (offC cN offN)))) q hq) d2 (List.mem_append_right _ (List.mem_append_right _ (.head _))) dN (List.mem_append_right _ (List.mem_append_right _ (.tail _ (.head _)))) (hNS _) (by omega) (by tb_start) (by tb_start) (List.mem_append_right _ (List.mem_append_left _ hrm)) (hRV.mono (RL.mono RI.mono) fun q hq => List.mem_append_right _ (List.mem_append_left _ hq)) (List.mem_append_left _ hlm) (hLV.mono (RL.mono (RL.mono RI.mono)) fun q hq => List.mem_append_left _ hq) pure (by omega) (by omega) ?_)
      exact fun h' tk' m' n' tb' F' hT' N' => ret h' tk' m' n' tb' F' hT' N'
end
end
end
end Mine
namespace Mine
theorem offH01 : True := by
  w_top off
  trivial
theorem law_head {w : World} {Q : Flow → Shared → Prop} {E : Value → Shared → Prop} {p : Program} {loose : List Str} {mean : ExcName → Option Value} {mg mb : Str → Option Value} {h₁ base h₀ : Heap} {L l : Addr} {m : Str → Option Value} {vs : List Value} {ns : List Int} {o1 o2 : Obj} {w1 w2 : Option Value}
    (C : CodeHd base 63 59) (B : Below callerA base [] h₀) (F : Fr h₀ L h₁ m) (X : (top.heap_39 w.params).In h₀) (N : News h₀ L h₁ [(L + 2, o1), (L + 1, o2), (59, tabObj #[])]) (T : Top p loose mean mg mb h₀) (l59 : 59 < L)
    (hms : m (Str.ofString "script") = some (.ref l)) (hl : h₀.IsList l vs.toArray) (hI : IntsAre vs ns) (hlen : ns.length ≤ 63) (d1 : o1.data = .cell w1) (d2 : o2.data = .cell w2) 
    (a : Addr) (ccd : Value) (s : Shared) (hs : s.heap = h₁) (ret : ∀ h' tk' m' n' tb', Fr h₀ L h' m' → NoteTab w tb' → News h₀ L h' (tb' ++ n') → Q (.ret (.bool true)) { s with heap := h', toks := tk' }) :
    wpAny (model PySem.Challenge.rw_pe0007_01.row.prog w) (ktrTop 302 7 (some []) (Str.ofString "law") (fdAt (top.heap_39 w.params) 100).scope L a ccd [(Str.ofString "numbers", L + 2), (Str.ofString "x", L + 1)] [])
      (execs (stmtsOf (fdAt (top.heap_39 w.params) 100).body) (envX (Str.ofString "law") (fdAt (top.heap_39 w.params) 100).scope L a ccd [(Str.ofString "numbers", L + 2), (Str.ofString "x", L + 1)])) Q E s := by
  subst hs
  exact law_body (dp := 302) (un := 7) C B F X N T l59 hms hl hI hlen d1 d2 (by omega) (by omega) ret
theorem law_headF {fd : FuncData} {w : World} {Q : Flow → Shared → Prop} {E : Value → Shared → Prop} {p : Program} {loose : List Str} {mean : ExcName → Option Value} {mg mb : Str → Option Value} {h₁ base h₀ : Heap} {L l : Addr} {m : Str → Option Value} {vs : List Value} {ns : List Int} {o1 o2 : Obj} {w1 w2 : Option Value} {a : Addr} {ccd : Value} {s : Shared} (hfd : fdAt (top.heap_39 w.params) 100 = fd)
    (C : CodeHd base 63 59) (B : Below callerA base [] h₀) (F : Fr h₀ L h₁ m) (X : (top.heap_39 w.params).In h₀) (N : News h₀ L h₁ [(L + 2, o1), (L + 1, o2), (59, tabObj #[])]) (T : Top p loose mean mg mb h₀) (l59 : 59 < L)
    (hms : m (Str.ofString "script") = some (.ref l)) (hl : h₀.IsList l vs.toArray) (hI : IntsAre vs ns) (hlen : ns.length ≤ 63) (d1 : o1.data = .cell w1) (d2 : o2.data = .cell w2) 
    (hs : s.heap = h₁) (ret : ∀ h' tk' m' n' tb', Fr h₀ L h' m' → NoteTab w tb' → News h₀ L h' (tb' ++ n') → Q (.ret (.bool true)) { s with heap := h', toks := tk' }) :
    wpAny (model PySem.Challenge.rw_pe0007_01.row.prog w) (ktrTop 302 7 (some []) (Str.ofString "law") fd.scope L a ccd [(Str.ofString "numbers", L + 2), (Str.ofString "x", L + 1)] [])
      (execs (stmtsOf fd.body) (envX (Str.ofString "law") fd.scope L a ccd [(Str.ofString "numbers", L + 2), (Str.ofString "x", L + 1)])) Q E s := by
  subst hfd
  exact law_head C B F X N T l59 hms hl hI hlen d1 d2 a ccd s hs ret
theorem grown_tab {w : World} {h₀ h' : Heap} {L : Addr} {tb n' : Led} (hT : NoteTab w tb) (N : News h₀ L h' (tb ++ n')) : GrownAll [(63, 59)] h' := by
  rcases hT with rfl | h
  · exact ⟨GrownAt.of N (.head _), trivial⟩
  · obtain ⟨c, oc, vs, t, rfl, _⟩ := h
    exact ⟨GrownAt.of N (.head _), trivial⟩
end Mine
set_option maxRecDepth 100000 in
set_option maxHeartbeats 8000000 in
theorem PySem.Challenge.cw_pe0007_01_holds : PySem.Challenge.rw_pe0007_01.Holds :=
  Mine.top (by
  w_strict (
    k_go0
    (all_goals try k_fold)
    k_dflt (refine' Mine.with_fdX (K := Mine.top.heap_39 _) (f := 100) (by assumption) ?ho ?_; (case ho => k_is))
    intro hfd
    k_dflt (refine Mine.law_headF hfd (by assumption : CodeHd _ _ _) (by assumption : Below callerA _ _ _) (by assumption : Fr _ _ _ _) (by assumption : (Mine.top.heap_39 _).In _) (by assumption : News _ _ _ _) (by assumption : Top _ _ _ _ _ _) (by assumption) (by rfl) (by assumption : Heap.IsList _ _ _) (by assumption : IntsAre _ _) (by omega) (by assumption) (by assumption) (by rfl) ?_)
    intro h' tk' m' n' tb' F' hT N'
    refine ⟨?_, Mine.grown_tab hT N'⟩
    clear N' hT hfd
    (try dsimp only)
    k_steps))
