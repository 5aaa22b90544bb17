import PyProof.Rows.All
import Wide.All
import OpenK.AllK
import Wide.FinOn
import PySem.Challenge.RW_pe0007_02
open PySem PySem.W PyProof.Rows PySem.Calls PySem.Spec
set_option Elab.async false
namespace Mine
/-! relations between values and plain data, told by a ledger -/
abbrev Led := List (Addr × Obj)
def RI (_ : Led) (v : Value) (i : Int) : Prop := ∃ t, v = .int i t
inductive RA {α : Type} (R : Led → Value → α → Prop) (news : Led) : List Value → List α → Prop
  | nil : RA R news [] []
  | cons {v : Value} {vs : List Value} {x : α} {xs : List α} : R news v x → RA R news vs xs → RA R news (v :: vs) (x :: xs)
def RL {α : Type} (R : Led → Value → α → Prop) (news : Led) (v : Value) (xs : List α) : Prop :=
  ∃ a vs n, v = .ref a ∧ (a, PySem.W.listOf (List.toArray vs) n) ∈ news ∧ RA R news vs xs
def RP {α β : Type} (R : Led → Value → α → Prop) (S : Led → Value → β → Prop) (news : Led) (v : Value) (p : α × β) : Prop :=
  ∃ a v1 v2 n, v = .ref a ∧ (a, PySem.W.listOf (List.toArray [v1, v2]) n) ∈ news ∧ R news v1 p.1 ∧ S news v2 p.2
def Mono {α : Type} (R : Led → Value → α → Prop) : Prop := ∀ (n n' : Led) (v : Value) (x : α), (∀ p ∈ n, p ∈ n') → R n v x → R n' v x
theorem RI.mono : Mono RI := fun _ _ _ _ _ h => h
theorem RA.mono {α : Type} {R : Led → Value → α → Prop} (hR : Mono R) {n n' : Led} (hs : ∀ p ∈ n, p ∈ n') : ∀ {vs : List Value} {xs : List α}, RA R n vs xs → RA R n' vs xs
  | _, _, .nil => .nil
  | _, _, .cons h r => .cons (hR _ _ _ _ hs h) (RA.mono hR hs r)
theorem RL.mono {α : Type} {R : Led → Value → α → Prop} (hR : Mono R) : Mono (RL R) := fun _ _ _ _ hs ⟨a, vs, n, e, hm, h⟩ => ⟨a, vs, n, e, hs _ hm, h.mono hR hs⟩
theorem RP.mono {α β : Type} {R : Led → Value → α → Prop} {S : Led → Value → β → Prop} (hR : Mono R) (hS : Mono S) : Mono (RP R S) :=
  fun _ _ _ _ hs ⟨a, v1, v2, n, e, hm, h1, h2⟩ => ⟨a, v1, v2, n, e, hs _ hm, hR _ _ _ _ hs h1, hS _ _ _ _ hs h2⟩
section
variable {α : Type} {R : Led → Value → α → Prop} {news : Led}
theorem RA.length {vs : List Value} {xs : List α} (h : RA R news vs xs) : vs.length = xs.length := by
  induction h with
  | nil => rfl
  | cons _ _ ih => simp [ih]
theorem RA.append {vs ws : List Value} {xs ys : List α} (h : RA R news vs xs) (k : RA R news ws ys) : RA R news (vs ++ ws) (xs ++ ys) := by
  induction h with
  | nil => exact k
  | cons h _ ih => exact .cons h ih
theorem RA.get {vs : List Value} {xs : List α} (h : RA R news vs xs) : ∀ {i : Nat} {x : α}, xs[i]? = some x → ∃ v, vs[i]? = some v ∧ R news v x := by
  induction h with
  | nil => intro i x e; simp at e
  | cons h _ ih =>
    intro i x e
    cases i with
    | zero => simp at e; subst e; exact ⟨_, rfl, h⟩
    | succ i => simpa using ih (i := i) (x := x) (by simpa using e)
theorem RA.get' {vs : List Value} {xs : List α} (h : RA R news vs xs) : ∀ {i : Nat} {v : Value}, vs[i]? = some v → ∃ x, xs[i]? = some x ∧ R news v x := by
  induction h with
  | nil => intro i x e; simp at e
  | cons h _ ih =>
    intro i x e
    cases i with
    | zero => simp at e; subst e; exact ⟨_, rfl, h⟩
    | succ i => simpa using ih (i := i) (v := x) (by simpa using e)
theorem RA.take {vs : List Value} {xs : List α} (h : RA R news vs xs) : ∀ k : Nat, RA R news (vs.take k) (xs.take k) := by
  induction h with
  | nil => intro k; simp; exact .nil
  | cons h _ ih =>
    intro k
    cases k with
    | zero => exact .nil
    | succ k => exact .cons h (ih k)
theorem RA.drop {vs : List Value} {xs : List α} (h : RA R news vs xs) : ∀ k : Nat, RA R news (vs.drop k) (xs.drop k) := by
  induction h with
  | nil => intro k; simp; exact .nil
  | cons h r ih =>
    intro k
    cases k with
    | zero => exact .cons h r
    | succ k => exact ih k
theorem RA.set {vs : List Value} {xs : List α} (h : RA R news vs xs) {v : Value} {x : α} (hv : R news v x) : ∀ k : Nat, RA R news (vs.set k v) (xs.set k x) := by
  induction h with
  | nil => intro k; simp; exact .nil
  | cons h r ih =>
    intro k
    cases k with
    | zero => exact .cons hv r
    | succ k => exact .cons h (ih k)
theorem RA.reverse {vs : List Value} {xs : List α} (h : RA R news vs xs) : RA R news vs.reverse xs.reverse := by
  induction h with
  | nil => exact .nil
  | cons h _ ih => simpa using ih.append (.cons h .nil)
end
theorem RA.ints {news : Led} {vs : List Value} {xs : List Int} (h : RA RI news vs xs) : IntsAre vs xs := by
  induction h with
  | nil => exact .nil
  | cons h _ ih => obtain ⟨t, rfl⟩ := h; exact .cons _ _ ih
theorem RA.ofInts {news : Led} {vs : List Value} {xs : List Int} (h : IntsAre vs xs) : RA RI news vs xs := by
  induction h with
  | nil => exact .nil
  | cons n t _ ih => exact .cons ⟨t, rfl⟩ ih
theorem News.sub {h₀ h : Heap} {L : Addr} {n n' : Led} (N : News h₀ L h n) (hs : ∀ p ∈ n', p ∈ n) : News h₀ L h n' := fun p hp => N p (hs p hp)

/-! the call of a def of the text's own, from a site -/
section
variable {prog : Program} {w : World} {dp un : Nat} {gd : Option (List Code)} {cn : Str} {cs : Scope} {L a : Addr} {ccd : Value} {cl : List (Str × Addr)} {outer : List Env} {A₀ : Around} {base h₀ : Heap}
  {m : Str → Option Value} {news : Led} {s : Shared} {Q E : Value → Shared → Prop} {K : Frag} {p : Program} {loose : List Str} {mean : ExcName → Option Value} {mg mb : Str → Option Value}
def Back (h₀ : Heap) (L : Addr) (m : Str → Option Value) (g : Heap) (Q : Value → Shared → Prop) (fl : Flow) (s' : Shared) : Prop :=
  ∃ L' m' news', Fr g L' s'.heap m' ∧ News g L' s'.heap news' ∧ (Fr h₀ L s'.heap m → News h₀ L s'.heap news' → Q (match fl with | .ret v => v | _ => .none) s')
theorem Back.mk {g : Heap} {L' : Addr} {m' : Str → Option Value} {news' : Led} {fl : Flow} {s' : Shared} (F : Fr g L' s'.heap m') (N : News g L' s'.heap news')
    (k : Fr h₀ L s'.heap m → News h₀ L s'.heap news' → Q (match fl with | .ret v => v | _ => .none) s') : Back h₀ L m g Q fl s' := ⟨L', m', news', F, N, k⟩
theorem enter {name qual : Str} {params : Arguments} {body : List Stmt} {scope : Scope} {dV kV doc pm cdv ct oc : Value} {an od : Option Addr} {osl : Array (Option Value)} {f : Addr} {pos : List Value} {kw : List (Str × Value)} {binds : List (Str × Value)}
    (B : Below A₀ base outer h₀) (F : Fr h₀ L s.heap m) (X : K.In h₀) (N : News h₀ L s.heap news) (T : Top p loose mean mg mb h₀) (hk : cs.kind = .function)
    (ho : K.lookup f = some ⟨oc, od, .func (fnOf name qual params body scope dV kV doc pm an cdv ct), osl⟩) (hcd : codeIn K cdv qual = true) (hd : dp + 1 ≤ 400)
    (hbind : BindsTo s (fnOf name qual params body scope dV kV doc pm an cdv ct) ⟨pos, kw⟩ binds) (hloc : ∀ y ∈ binds, scope.names.lookup y.1 = some .local)
    (hcell : ∀ x ∈ scope.names, x.2 ≠ .cell) (hco : scope.isCoroutine = false) (hgen : scope.isGenerator = false) (hk' : scope.kind = .function)
    (h : ∀ g L' h₁, Fr g L' h₁ (fun y => binds.reverse.lookup y) → News g L' h₁ news → Below (ktrTop dp un gd cn cs L a ccd cl outer) base (envX cn cs L a ccd cl :: outer) g → K.In g → Top p loose mean mg mb g → (∀ q ∈ news, q.1 < L') →
      wpAny (model prog w) (ktrTop (dp + 1) (un + 3) gd qual scope L' f cdv [] (envX cn cs L a ccd cl :: outer)) (execs body (envX qual scope L' f cdv [])) (Back h₀ L m g Q) (fun _ _ => False) { s with heap := h₁, toks := s.toks + binds.length }) :
    wpAny (model prog w) (ktrTop dp un gd cn cs L a ccd cl outer) (call (.ref f) pos kw) Q E s := by
  refine wpAny_call (callX_plain (cl := []) B F N T.nolimit rfl rfl hk ((X.keeps F.keep) _ _ ho) rfl (codeRec_of (X.keeps F.keep) hcd) (by show dp < recursionLimit; simp only [recursionLimit]; omega) hbind hloc (fun g L' h₁ FG F' N' B' st lt => ?_) hcell hco hgen hk')
  refine wpAny_mono (h g L' h₁ F' N' B' (X.keeps st) (T.keeps st) lt) (fun fl s' hb => ?_) fun _ _ x => x.elim
  obtain ⟨L'', m', news', F'', N'', k⟩ := hb
  exact ⟨L'', m', news', F'', N'', k⟩
end

/-! steps -/
section
variable {prog : Program} {w : World} {A : Around} {E : Value → Shared → Prop} {s : Shared} {h₀ : Heap} {L : Addr} {news : Led} {m : Str → Option Value}
theorem isListOf {l : Addr} {vs : List Value} {n : Nat} (N : News h₀ L s.heap news) (hm : (l, PySem.W.listOf vs.toArray n) ∈ news) : s.heap.IsList l vs.toArray := ⟨_, (N _ hm).1, rfl, n, rfl⟩
theorem itemL {value slice : PySem.Expr} {l : Addr} {vs : List Value} {n : Nat} {k : Int} {u : Tok} {v : Value} {Q : Value → Shared → Prop} (N : News h₀ L s.heap news) (hm : (l, PySem.W.listOf vs.toArray n) ∈ news)
    (h0 : 0 ≤ k) (hhi : k < 2 ^ 63) (hx : vs[k.toNat]? = some v) (h : Q v s)
    (hs : subscripted slice false (.ref l) (.int k u) = operate [.ref l, .int k u] (getItem (.ref l) (.int k u)) := by with_unfolding_all rfl) :
    wpAny (model prog w) A (subscriptTail value slice (.ref l) (.int k u)) Q E s :=
  tail_any (isListOf N hm).typeIs slot_list_getitem.lookup (wpAny_getItem_list (isListOf N hm) h0 hhi (by simpa using hx) h) hs
end

section
variable {prog : Program} {w : World} {A : Around} {E : Value → Shared → Prop} {s : Shared} {h₀ : Heap} {L : Addr} {news : Led} {m : Str → Option Value}
theorem lenL {l : Addr} {vs : List Value} {n : Nat} {Q : Value → Shared → Prop} (N : News h₀ L s.heap news) (hm : (l, PySem.W.listOf vs.toArray n) ∈ news) (hfit : vs.length < 2 ^ 62)
    (h : Q (.int (vs.length : Nat) (s.toks + 1)) { s with toks := s.toks + 1 + 1 }) : wpAny (model prog w) A (call (.builtin "len") [.ref l]) Q E s :=
  Calls.call_len_list (isListOf N hm) (by rw [List.size_toArray]; omega) (by rw [List.size_toArray]; exact h)
end
theorem intAt {vs : List Value} {ns : List Int} (hI : IntsAre vs ns) {i : Nat} (h : i < ns.length) : ∃ t, vs[i]? = some (.int (ns.getD i 0) t) := by
  have e : ns[i]? = some (ns.getD i 0) := by simp [h]
  exact hI.get i _ e
/-! the search by halves -/
def bis (p : Nat → Bool) : Nat → Nat → Nat → Nat
  | 0, lo, _ => lo
  | f + 1, lo, hi => if lo < hi then (if p ((lo + hi) / 2) then bis p f ((lo + hi) / 2 + 1) hi else bis p f lo ((lo + hi) / 2)) else lo
theorem bis_fuel (p : Nat → Bool) : ∀ (f f' lo hi : Nat), hi - lo ≤ f → hi - lo ≤ f' → bis p f lo hi = bis p f' lo hi := by
  intro f
  induction f with
  | zero =>
    intro f' lo hi h _
    have hn : ¬ lo < hi := by omega
    cases f' with
    | zero => rfl
    | succ f' => simp [bis, hn]
  | succ f ih =>
    intro f' lo hi h h'
    by_cases hlt : lo < hi
    · cases f' with
      | zero => omega
      | succ f' =>
        simp only [bis, hlt, if_true]
        rw [ih f' _ _ (by omega) (by omega), ih f' lo _ (by omega) (by omega)]
    · cases f' with
      | zero => simp [bis, hlt]
      | succ f' => simp [bis, hlt]
def bisect (p : Nat → Bool) (lo hi : Nat) : Nat := bis p (hi - lo) lo hi
theorem bisect_ge {p : Nat → Bool} {lo hi : Nat} (h : ¬ lo < hi) : bisect p lo hi = lo := by
  have : hi - lo = 0 := by omega
  rw [bisect, this]; rfl
theorem bisect_up {p : Nat → Bool} {lo hi : Nat} (h : lo < hi) (hp : p ((lo + hi) / 2) = true) : bisect p lo hi = bisect p ((lo + hi) / 2 + 1) hi := by
  obtain ⟨k, hk⟩ : ∃ k, hi - lo = k + 1 := ⟨hi - lo - 1, by omega⟩
  rw [bisect, hk]
  simp only [bis, h, hp, if_true]
  exact bis_fuel p _ _ _ _ (by omega) (by omega)
theorem bisect_down {p : Nat → Bool} {lo hi : Nat} (h : lo < hi) (hp : p ((lo + hi) / 2) = false) : bisect p lo hi = bisect p lo ((lo + hi) / 2) := by
  obtain ⟨k, hk⟩ : ∃ k, hi - lo = k + 1 := ⟨hi - lo - 1, by omega⟩
  rw [bisect, hk]
  simp only [bis, h, hp, if_true, Bool.false_eq_true, if_false]
  exact bis_fuel p _ _ _ _ (by omega) (by omega)
theorem mid_eq (lo hi : Nat) : Int.fdiv ((lo : Int) + (hi : Int)) 2 = (((lo + hi) / 2 : Nat) : Int) := by
  rw [Int.fdiv_eq_ediv_of_nonneg _ (by decide)]
  omega
def fdAt (K : Frag) (f : Addr) : FuncData := match K.lookup f with | some ⟨_, _, .func fd, _⟩ => fd | _ => default
/-- what is asked along the way -/
def btr (p : Nat → Bool) (vs : List Value) : Nat → Nat → Nat → List Value
  | 0, _, _ => []
  | f + 1, lo, hi => if lo < hi then vs.getD ((lo + hi) / 2) .none :: (if p ((lo + hi) / 2) then btr p vs f ((lo + hi) / 2 + 1) hi else btr p vs f lo ((lo + hi) / 2)) else []
theorem btr_fuel (p : Nat → Bool) (vs : List Value) : ∀ (f f' lo hi : Nat), hi - lo ≤ f → hi - lo ≤ f' → btr p vs f lo hi = btr p vs f' lo hi := by
  intro f
  induction f with
  | zero =>
    intro f' lo hi h _
    have hn : ¬ lo < hi := by omega
    cases f' with
    | zero => rfl
    | succ f' => simp [btr, hn]
  | succ f ih =>
    intro f' lo hi h h'
    by_cases hlt : lo < hi
    · cases f' with
      | zero => omega
      | succ f' =>
        simp only [btr, hlt, if_true]
        rw [ih f' _ _ (by omega) (by omega), ih f' lo _ (by omega) (by omega)]
    · cases f' with
      | zero => simp [btr, hlt]
      | succ f' => simp [btr, hlt]
def btrace (p : Nat → Bool) (vs : List Value) (lo hi : Nat) : List Value := btr p vs (hi - lo) lo hi
theorem btrace_ge {p : Nat → Bool} {vs : List Value} {lo hi : Nat} (h : ¬ lo < hi) : btrace p vs lo hi = [] := by
  have : hi - lo = 0 := by omega
  rw [btrace, this]; rfl
theorem btrace_up {p : Nat → Bool} {vs : List Value} {lo hi : Nat} (h : lo < hi) (hp : p ((lo + hi) / 2) = true) : btrace p vs lo hi = vs.getD ((lo + hi) / 2) .none :: btrace p vs ((lo + hi) / 2 + 1) hi := by
  obtain ⟨k, hk⟩ : ∃ k, hi - lo = k + 1 := ⟨hi - lo - 1, by omega⟩
  rw [btrace, hk]
  simp only [btr, h, hp, if_true]
  rw [btr_fuel p vs k (hi - ((lo + hi) / 2 + 1)) _ _ (by omega) (by omega)]; rfl
theorem btrace_down {p : Nat → Bool} {vs : List Value} {lo hi : Nat} (h : lo < hi) (hp : p ((lo + hi) / 2) = false) : btrace p vs lo hi = vs.getD ((lo + hi) / 2) .none :: btrace p vs lo ((lo + hi) / 2) := by
  obtain ⟨k, hk⟩ : ∃ k, hi - lo = k + 1 := ⟨hi - lo - 1, by omega⟩
  rw [btrace, hk]
  simp only [btr, h, hp, if_true, Bool.false_eq_true, if_false]
  rw [btr_fuel p vs k ((lo + hi) / 2 - lo) _ _ (by omega) (by omega)]; rfl
/-- a key: a def that is called upon the items, the ledger grows by what it was asked -/
structure KeyOK (prog : Program) (w : World) (K : Frag) (q : Addr) (dm um : Nat) (G : List Value → Led) (vs : List Value) (kx : Nat → Value → Prop) : Prop where
  fn : ∀ (tr : List Value) (h₀ h : Heap) (L : Addr), K.In h → News h₀ L h (G tr) → FnAt q h
  run : ∀ (i : Nat) (v : Value) (tr : List Value) (dp un : Nat) (gd : Option (List Code)) (cn : Str) (cs : Scope) (L a : Addr) (ccd : Value) (cl : List (Str × Addr)) (outer : List Env) (A₀ : Around) (base h₀ : Heap)
    (m : Str → Option Value) (s : Shared) (Q E : Value → Shared → Prop) (p : Program) (loose : List Str) (mean : ExcName → Option Value) (mg mb : Str → Option Value),
    vs[i]? = some v → Below A₀ base outer h₀ → Fr h₀ L s.heap m → K.In h₀ → News h₀ L s.heap (G tr) → Top p loose mean mg mb h₀ → cs.kind = .function → dp ≤ dm → un ≤ um →
    (∀ r h' tk', kx i r → Fr h₀ L h' m → News h₀ L h' (G (tr ++ [v])) → Q r { s with heap := h', toks := tk' }) →
    wpAny (model prog w) (ktrTop dp un gd cn cs L a ccd cl outer) (call (.ref q) [v]) Q E s
theorem KeyOK.use {prog : Program} {w : World} {K : Frag} {q : Addr} {dm um : Nat} {G : List Value → Led} {vs : List Value} {kx : Nat → Value → Prop} (KC : KeyOK prog w K q dm um G vs kx)
    {i : Nat} {v : Value} {tr : List Value} {dp un : Nat} {gd : Option (List Code)} {cn : Str} {cs : Scope} {L a : Addr} {ccd : Value} {cl : List (Str × Addr)} {outer : List Env} {A₀ : Around} {base h₀ : Heap}
    {m : Str → Option Value} {s : Shared} {Q E : Value → Shared → Prop} {p : Program} {loose : List Str} {mean : ExcName → Option Value} {mg mb : Str → Option Value}
    (hv : vs[i]? = some v) (B : Below A₀ base outer h₀) (F : Fr h₀ L s.heap m) (X : K.In h₀) (N : News h₀ L s.heap (G tr)) (T : Top p loose mean mg mb h₀) (hk : cs.kind = .function) (hd : dp ≤ dm) (hu : un ≤ um)
    (ret : ∀ r h' tk', kx i r → Fr h₀ L h' m → News h₀ L h' (G (tr ++ [v])) → Q r { s with heap := h', toks := tk' }) :
    wpAny (model prog w) (ktrTop dp un gd cn cs L a ccd cl outer) (call (.ref q) [v]) Q E s :=
  KC.run i v tr dp un gd cn cs L a ccd cl outer A₀ base h₀ m s Q E p loose mean mg mb hv B F X N T hk hd hu ret
theorem getD_some {vs : List Value} {i : Nat} (h : i < vs.length) : vs[i]? = some (vs.getD i .none) := by simp [h]
section
variable {prog : Program} {w : World} {A : Around} {E : Value → Shared → Prop} {s : Shared} {h₀ : Heap} {L : Addr} {rest : Led} {m : Str → Option Value}
theorem insertL {l : Addr} {vs : List Value} {n : Nat} {x : Int} {u : Tok} {y : Value} {Q : Value → Shared → Prop} (F : Fr h₀ L s.heap m) (N : News h₀ L s.heap ((l, PySem.W.listOf vs.toArray n) :: rest)) (off : ∀ p ∈ rest, p.1 ≠ l)
    (h0 : 0 ≤ x) (h1 : x.toNat ≤ vs.length) (hz : vs.length ≤ 1000) (h : ∀ h', Fr h₀ L h' m → News h₀ L h' ((l, PySem.W.listOf (vs.take x.toNat ++ y :: vs.drop x.toNat).toArray (n + 1)) :: rest) → Q .none { s with heap := h' }) :
    wpAny (model prog w) A (call (.builtin "list.insert") [.ref l, .int x u, y]) Q E s := by
  refine kl_insert F N ?_ ?_ (Upd.head off) ?_ h
  · unfold Builtin.List.listFitsIndex; simp; omega
  · show kl_ins vs x y = _
    unfold kl_ins
    rw [if_neg (by omega), Nat.min_eq_left h1]
  · show vs.length ≤ sizeLine
    rw [sizeLine_eq]; omega
theorem appendL {l : Addr} {vs : List Value} {n : Nat} {y : Value} {Q : Value → Shared → Prop} (F : Fr h₀ L s.heap m) (N : News h₀ L s.heap ((l, PySem.W.listOf vs.toArray n) :: rest)) (off : ∀ p ∈ rest, p.1 ≠ l)
    (hz : vs.length ≤ 1000) (h : ∀ h', Fr h₀ L h' m → News h₀ L h' ((l, PySem.W.listOf (vs ++ [y]).toArray (n + 1)) :: rest) → Q .none { s with heap := h' }) :
    wpAny (model prog w) A (call (.builtin "list.append") [.ref l, y]) Q E s := by
  refine append_K F N (Upd.head off) (fun h' F' N' => h h' F' ?_) ?_
  · rw [← List.push_toArray]; exact N'
  · show vs.toArray.size ≤ sizeLine
    rw [sizeLine_eq, List.size_toArray]; omega
end
/-! a halt for the walk -/
def Stop (P : Prop) : Prop := P
theorem Stop.go {P : Prop} (h : P) : Stop P := h
theorem Stop.at {P : Prop} (h : Stop P) : P := h
section
variable {M : Model} {A : Around} {E : Value → Shared → Prop} {s : Shared} {env : Env}
theorem execs_stop {st : Stmt} {rest : List Stmt} {Q : Flow → Shared → Prop} (h : Stop (wpAny M A (exec st env) (fun f s' => match f with | .next => wpAny M A (execs rest env) Q E s' | f => Q f s') E s)) :
    wpAny M A (execs (st :: rest) env) Q E s := wpAny_execs_cons h
end
/-! names of a frame, told one by one -/
theorem upd_eq {m : Str → Option Value} {x : Str} {v : Option Value} : (fun y => if y = x then v else m y) x = v := if_pos rfl
theorem upd_ne {m : Str → Option Value} {x y : Str} {v w : Option Value} (hn : decide (y = x) = false) (h : m y = w) : (fun z => if z = x then v else m z) y = w := by
  show (if y = x then v else m y) = w
  rw [if_neg (of_decide_eq_false hn)]; exact h
end Mine
namespace Mine
open SeqAt MeetsSeq MeetsSeq2 MeetsSeq3 SeqRoads2
open AutoSeq1 (wpAny_loadPart')
theorem FnAt.ofK {K : Frag} {q : Addr} {h : Heap} (X : K.In h) (e : fnIn K q = true) : FnAt q h := by
  unfold fnIn at e
  split at e
  · rename_i ho; exact ⟨_, _, _, _, X _ _ ho⟩
  · cases e
/-! lists compared by < -/
def LtAt (A : Around) (s : Shared) (y x : Value) (b : Bool) : Prop :=
  ∀ (prog : Program) (w : World) (E : Value → Shared → Prop) (Q : Value → Shared → Prop), Q (.bool b) s → wpAny (model prog w) A (richCompare .Lt y x) Q E s
def lexAt (n1 n2 : Nat) (e t : Nat → Bool) : Nat → Nat → Bool
  | 0, _ => decide (n1 < n2)
  | k + 1, i => if e i then lexAt n1 n2 e t k (i + 1) else t i
theorem lt_loopAt (l b : Addr) (items items2 : Array Value) (n n2 : Nat) (dd dd2 : Option Addr) (sl sl2 : Array (Option Value)) (e t : Nat → Bool) (k : Nat) :
    ∀ i : Nat, min items.size items2.size - i = k → Meets (Builtin.«list.__eq__.loop» ⟨[.ref l, .ref b, rawInt i, rawInt 0], []⟩)
      (fun A R s => s.heap.get? l = some { cls := .type "list", dict := dd, data := .seq items n, slots := sl } ∧ s.heap.get? b = some { cls := .type "list", dict := dd2, data := .seq items2 n2, slots := sl2 } ∧
        (∀ j (h1 : j < items.size) (h2 : j < items2.size), EqAt A.in1 s items[j] items2[j] (e j)) ∧ (∀ j (h1 : j < items.size) (h2 : j < items2.size), LtAt A.in1 s items[j] items2[j] (t j)) ∧
        R (.ok (.ret (.bool (lexAt items.size items2.size e t k i)))) s) := by
  induction k with
  | zero =>
    intro i hk prog w A R s h
    obtain ⟨hp, g, d, tk, os⟩ := s; obtain ⟨hl, hb, he, ht, h⟩ := h
    wp_walk using wpAny_loadPart' hl, wpAny_loadPart' hb
    have hi : items[((i : Nat) : Int).toNat]? = none ∨ items2[((i : Nat) : Int).toNat]? = none := by simp; omega
    rcases hi1 : items[((i : Nat) : Int).toNat]? with _ | x
    · dsimp only
      wp_walk using wpAny_loadPart' hl, wpAny_loadPart' hb
      exact h
    · rcases hi2 : items2[((i : Nat) : Int).toNat]? with _ | y
      · dsimp only
        wp_walk using wpAny_loadPart' hl, wpAny_loadPart' hb
        exact h
      · rw [hi1, hi2] at hi
        rcases hi with hi | hi <;> cases hi
  | succ k ih =>
    intro i hk prog w A R s h
    obtain ⟨hp, g, d, tk, os⟩ := s; obtain ⟨hl, hb, he, ht, h⟩ := h
    wp_walk using wpAny_loadPart' hl, wpAny_loadPart' hb
    have hlt : i < items.size := by omega
    have hlt2 : i < items2.size := by omega
    have hi1 : items[((i : Nat) : Int).toNat]? = some items[i] := by simp [hlt]
    have hi2 : items2[((i : Nat) : Int).toNat]? = some items2[i] := by simp [hlt2]
    have hc : ((i : Int) + 1) = ((i + 1 : Nat) : Int) := by push_cast; rfl
    rw [hi1, hi2]
    refine wpAny_bind (he i hlt hlt2 prog w _ _ ?_)
    cases hb' : e i with
    | true =>
      simp only [lexAt, hb', if_true] at h
      wp_walk
      rw [hc]
      exact ⟨plainId_quiet plain_eq_loop _, codeAny_builtin entry_eq_loop (by
        rw [Around.under_plainId plain_eq_loop _]
        exact ih (i + 1) (by omega) prog w A R _ ⟨hl, hb, he, ht, h⟩)⟩
    | false =>
      simp only [lexAt, hb', Bool.false_eq_true, if_false] at h
      wp_walk using wpAny_loadPart' hl, wpAny_loadPart' hb
      rw [hi1, hi2]
      dsimp only
      refine wpAny_bind (ht i hlt hlt2 prog w _ _ ?_)
      wp_walk
      exact h
theorem list_ltAt (l b : Addr) (items items2 : Array Value) (n n2 : Nat) (dd dd2 : Option Addr) (sl sl2 : Array (Option Value)) (e t : Nat → Bool) :
    Meets (Builtin.«list.__lt__» ⟨[.ref l, .ref b], []⟩)
      (fun A R s => s.heap.get? l = some { cls := .type "list", dict := dd, data := .seq items n, slots := sl } ∧ s.heap.get? b = some { cls := .type "list", dict := dd2, data := .seq items2 n2, slots := sl2 } ∧
        (∀ j (h1 : j < items.size) (h2 : j < items2.size), EqAt A.in1 s items[j] items2[j] (e j)) ∧ (∀ j (h1 : j < items.size) (h2 : j < items2.size), LtAt A.in1 s items[j] items2[j] (t j)) ∧
        R (.ok (.ret (.bool (lexAt items.size items2.size e t (min items.size items2.size) 0)))) s) := by
  intro prog w A R s h
  obtain ⟨hp, g, d, tk, os⟩ := s; obtain ⟨hl, hb, he, ht, h⟩ := h
  have f3 := AutoSeq1.sub_list_list
  wp_walk using wpAny_loadPart' hl, wpAny_loadPart' hb
  exact ⟨plainId_quiet plain_eq_loop _, codeAny_builtin entry_eq_loop (by
    rw [Around.under_plainId plain_eq_loop _]
    exact lt_loopAt l b items items2 n n2 dd dd2 sl sl2 e t _ 0 rfl prog w A R _ ⟨hl, hb, he, ht, h⟩)⟩
section
variable {A : Around} {s : Shared}
theorem LtAt.lists {l b : Addr} {items items2 : Array Value} {e t : Nat → Bool} (hl : s.heap.IsList l items) (hb : s.heap.IsList b items2) (hu : A.units < cLine)
    (he : ∀ j (h1 : j < items.size) (h2 : j < items2.size), EqAt A.in1 s items[j] items2[j] (e j)) (ht : ∀ j (h1 : j < items.size) (h2 : j < items2.size), LtAt A.in1 s items[j] items2[j] (t j)) :
    LtAt A s (.ref l) (.ref b) (lexAt items.size items2.size e t (min items.size items2.size) 0) := fun prog w E Q h => by
  obtain ⟨⟨cls, dd, data, sl⟩, ho, hc, n, hd⟩ := id hl
  obtain ⟨⟨cls2, dd2, data2, sl2⟩, ho2, hc2, n2, hd2⟩ := id hb
  simp only at hc hd hc2 hd2
  subst hc hd hc2 hd2
  exact richCompare_meets_room (op := .Lt) ⟨_, ho, rfl⟩ ⟨_, ho2, rfl⟩ F.slot_list_lt F.entry_list_lt (F.args_list_lt_2 _ _) (list_ltAt l b items items2 n n2 dd dd2 sl sl2 e t)
    ⟨ho, ho2, he, ht, show Value.bool _ ≠ Value.notImplemented ∧ Q (.bool _) s from ⟨(fun x => nomatch x), h⟩⟩ hu
theorem LtAt.ints (a : Int) (t : Tok) (b : Int) (u : Tok) : LtAt A s (.int a t) (.int b u) (decide (a < b)) := fun _ _ _ _ h => lt_int h
/-- the sort's own question -/
theorem oneLt_lists {prog : Program} {w : World} {E : Value → Shared → Prop} {Q : Bool → Shared → Prop} {l b : Addr} {items items2 : Array Value} {e t : Nat → Bool} (hl : s.heap.IsList l items) (hb : s.heap.IsList b items2) (hu : A.units < cLine)
    (he : ∀ j (h1 : j < items.size) (h2 : j < items2.size), EqAt A.in1 s items[j] items2[j] (e j)) (ht : ∀ j (h1 : j < items.size) (h2 : j < items2.size), LtAt A.in1 s items[j] items2[j] (t j))
    (h : Q (lexAt items.size items2.size e t (min items.size items2.size) 0) s) : wpAny (model prog w) A (keyLt' oneType' (.ref l) (.ref b)) Q E s := by
  obtain ⟨⟨cls, dd, data, sl⟩, ho, hc, n, hd⟩ := id hl
  obtain ⟨⟨cls2, dd2, data2, sl2⟩, ho2, hc2, n2, hd2⟩ := id hb
  simp only at hc hd hc2 hd2
  subst hc hd hc2 hd2
  rw [keyLt'_oneType, oneLt'_eq]
  simp only [if_true]
  refine wpAny_bind (wpAny_cRoomFor hu ?_)
  refine wpAny_bind (wpAny_callSpecialIfBound?_slot (T := "list") (name := "__lt__") (id := "list.__lt__") ⟨_, ho, rfl⟩ F.slot_list_lt
    (call_meets F.slot_list_lt ⟨_, ho, rfl⟩ F.entry_list_lt (F.args_list_lt_2 _ _) (list_ltAt l b items items2 n n2 dd dd2 sl sl2 e t) ⟨ho, ho2, he, ht, ?_⟩))
  exact wpAny_truthy_bool h
end
/-! typed: what == and < give of values that stand for plain data -/
def Fun {α : Type} (R : Led → Value → α → Prop) : Prop := ∀ (h₀ h : Heap) (L : Addr) (news : Led) (v : Value) (x y : α), News h₀ L h news → R news v x → R news v y → x = y
def EqR {α : Type} [DecidableEq α] (R : Led → Value → α → Prop) (d : Nat) : Prop :=
  ∀ (A : Around) (s : Shared) (h₀ : Heap) (L : Addr) (news : Led) (v w : Value) (x y : α), News h₀ L s.heap news → R news v x → R news w y → A.units + d < cLine → EqAt A s v w (decide (x = y))
def LtR {α : Type} (R : Led → Value → α → Prop) (lt : α → α → Bool) (d : Nat) : Prop :=
  ∀ (A : Around) (s : Shared) (h₀ : Heap) (L : Addr) (news : Led) (v w : Value) (x y : α), News h₀ L s.heap news → R news v x → R news w y → A.units + d < cLine → LtAt A s v w (lt x y)
theorem RI.fun : Fun RI := fun _ _ _ _ _ _ _ _ ⟨t, e⟩ ⟨t', e'⟩ => by rw [e] at e'; cases e'; rfl
theorem RI.eqR (d : Nat) : EqR RI d := fun A s _ _ _ _ _ x y _ ⟨t, e⟩ ⟨t', e'⟩ _ => by
  subst e e'
  have h := EqAt.int_int (A := A) (s := s) x t y t'
  have e : (x == y) = decide (x = y) := by by_cases h : x = y <;> simp [h]
  rw [e] at h; exact h
theorem RI.ltR (d : Nat) : LtR RI (fun x y => decide (x < y)) d := fun A s _ _ _ _ _ x y _ ⟨t, e⟩ ⟨t', e'⟩ _ => by subst e e'; exact LtAt.ints x t y t'
theorem RA.fun {α : Type} {R : Led → Value → α → Prop} (hR : Fun R) {h₀ h : Heap} {L : Addr} {news : Led} (N : News h₀ L h news) : ∀ {vs : List Value} {xs ys : List α}, RA R news vs xs → RA R news vs ys → xs = ys
  | _, _, _, .nil, .nil => rfl
  | _, _, _, .cons h r, .cons h' r' => by rw [hR _ _ _ _ _ _ _ N h h', RA.fun hR N r r']
theorem seq_inj {h₀ h : Heap} {L : Addr} {news : Led} {a : Addr} {vs ws : List Value} {n n' : Nat} (N : News h₀ L h news) (h1 : (a, PySem.W.listOf vs.toArray n) ∈ news) (h2 : (a, PySem.W.listOf ws.toArray n') ∈ news) : vs = ws := by
  have e := (N _ h1).1
  rw [(N _ h2).1] at e
  have e := Option.some.inj e
  injection e with _ _ e _
  injection e with e _
  exact (congrArg Array.toList e).symm
theorem RL.fun {α : Type} {R : Led → Value → α → Prop} (hR : Fun R) : Fun (RL R) := fun h₀ h L news v xs ys N ⟨a, vs, n, e, hm, hr⟩ ⟨a', vs', n', e', hm', hr'⟩ => by
  subst e
  injection e' with e'
  subst e'
  have := seq_inj N hm hm'
  subst this
  exact RA.fun hR N hr hr'
theorem RP.fun {α β : Type} {R : Led → Value → α → Prop} {S : Led → Value → β → Prop} (hR : Fun R) (hS : Fun S) : Fun (RP R S) := fun h₀ h L news v p q N ⟨a, v1, v2, n, e, hm, h1, h2⟩ ⟨a', w1, w2, n', e', hm', h1', h2'⟩ => by
  subst e
  injection e' with e'
  subst e'
  have := seq_inj N hm hm'
  injection this with e1 e2
  injection e2 with e2 _
  subst e1 e2
  exact Prod.ext (hR _ _ _ _ _ _ _ N h1 h1') (hS _ _ _ _ _ _ _ N h2 h2')
def lexL {α : Type} [DecidableEq α] (lt : α → α → Bool) : List α → List α → Bool
  | [], [] => false
  | [], _ :: _ => true
  | _ :: _, [] => false
  | x :: xs, y :: ys => if x = y then lexL lt xs ys else lt x y
theorem lexAt_lexL {α : Type} [DecidableEq α] (lt : α → α → Bool) (d : α) (n1 n2 : Nat) : ∀ (k i : Nat) (xs ys : List α), xs.length + i = n1 → ys.length + i = n2 → min n1 n2 - i = k →
    ∀ (X Y : Nat → α), (∀ j, j < xs.length → X (i + j) = xs.getD j d) → (∀ j, j < ys.length → Y (i + j) = ys.getD j d) → lexAt n1 n2 (fun j => decide (X j = Y j)) (fun j => lt (X j) (Y j)) k i = lexL lt xs ys := by
  intro k
  induction k with
  | zero =>
    intro i xs ys h1 h2 h3 X Y hX hY
    simp only [lexAt]
    cases xs with
    | nil =>
      cases ys with
      | nil => simp only [List.length_nil] at h1 h2; simp only [lexL]; rw [decide_eq_false (by omega)]
      | cons y ys => simp only [List.length_nil, List.length_cons] at h1 h2; simp only [lexL]; rw [decide_eq_true (by omega)]
    | cons x xs =>
      cases ys with
      | nil => simp only [List.length_nil, List.length_cons] at h1 h2; simp only [lexL]; rw [decide_eq_false (by omega)]
      | cons y ys => simp only [List.length_cons] at h1 h2; omega
  | succ k ih =>
    intro i xs ys h1 h2 h3 X Y hX hY
    cases xs with
    | nil => simp only [List.length_nil] at h1; omega
    | cons x xs =>
      cases ys with
      | nil => simp only [List.length_nil] at h2; omega
      | cons y ys =>
        have ex : X i = x := by have := hX 0 (by simp); simpa using this
        have ey : Y i = y := by have := hY 0 (by simp); simpa using this
        simp only [List.length_cons] at h1 h2
        simp only [lexAt, lexL, ex, ey, decide_eq_true_eq]
        by_cases hxy : x = y
        · rw [if_pos hxy, if_pos hxy]
          exact ih (i + 1) xs ys (by omega) (by omega) (by omega) X Y (fun j hj => by have := hX (j + 1) (by simp; omega); rw [show i + 1 + j = i + (j + 1) by omega, this]; simp) (fun j hj => by have := hY (j + 1) (by simp; omega); rw [show i + 1 + j = i + (j + 1) by omega, this]; simp)
        · rw [if_neg hxy, if_neg hxy]
theorem all_range {n : Nat} {α : Type} [DecidableEq α] (d : α) : ∀ {xs ys : List α}, xs.length = n → ys.length = n → ((List.range n).all fun j => decide (xs.getD j d = ys.getD j d)) = decide (xs = ys) := by
  intro xs ys h1 h2
  rw [Bool.eq_iff_iff]
  simp only [List.all_eq_true, List.mem_range, decide_eq_true_eq]
  constructor
  · intro h
    refine List.ext_getElem (by omega) fun i a b => ?_
    have := h i (by omega)
    simpa [a, b] using this
  · rintro rfl i _; rfl
section
variable {α : Type} [DecidableEq α] [Inhabited α] {R : Led → Value → α → Prop} {d : Nat}
theorem RA.eqAt {h₀ : Heap} {L : Addr} {news : Led} {A : Around} {s : Shared} {vs ws : List Value} {xs ys : List α} (hR : EqR R d) (N : News h₀ L s.heap news) (hv : RA R news vs xs) (hw : RA R news ws ys) (hu : A.units + d < cLine)
    (j : Nat) (h1 : j < vs.toArray.size) (h2 : j < ws.toArray.size) : EqAt A s vs.toArray[j] ws.toArray[j] (decide (xs.getD j default = ys.getD j default)) := by
  have h1' : j < vs.length := by simpa using h1
  have h2' : j < ws.length := by simpa using h2
  obtain ⟨x, e1, r1⟩ := hv.get' (i := j) (v := vs[j]) (by simp [h1'])
  obtain ⟨y, e2, r2⟩ := hw.get' (i := j) (v := ws[j]) (by simp [h2'])
  have ex : xs.getD j default = x := by simp [e1]
  have ey : ys.getD j default = y := by simp [e2]
  rw [ex, ey]
  simpa using hR A s h₀ L news _ _ x y N r1 r2 hu
theorem RL.rc (hR : EqR R d) {A : Around} {s : Shared} {h₀ : Heap} {L : Addr} {news : Led} {v w : Value} {xs ys : List α} (N : News h₀ L s.heap news) (hv : RL R news v xs) (hw : RL R news w ys) (hu : A.units + (d + 1) < cLine) :
    RcAt A s v w (decide (xs = ys)) := by
  obtain ⟨a, vs, n, rfl, hm, hr⟩ := hv
  obtain ⟨b, ws, n', rfl, hm', hr'⟩ := hw
  have l1 := hr.length
  have l2 := hr'.length
  by_cases hsz : xs.length = ys.length
  · have := RcAt.lists (A := A) (isListOf N hm) (isListOf N hm') (by simp; omega) (by omega) (RA.eqAt hR N hr hr' (A := A.in1) (by show A.units + 1 + d < cLine; omega))
    rw [List.size_toArray, all_range default (by omega) (by omega)] at this
    exact this
  · have := RcAt.lists_lengths (A := A) (isListOf N hm) (isListOf N hm') (by simp; omega) (by omega)
    rw [decide_eq_false (by intro e; exact hsz (congrArg List.length e))]
    exact this
theorem RL.ne (hR : EqR R d) {A : Around} {s : Shared} {h₀ : Heap} {L : Addr} {news : Led} {v w : Value} {xs ys : List α} (N : News h₀ L s.heap news) (hv : RL R news v xs) (hw : RL R news w ys) (hu : A.units + (d + 1) < cLine) :
    RcNeAt A s v w (!decide (xs = ys)) := by
  obtain ⟨a, vs, n, rfl, hm, hr⟩ := hv
  obtain ⟨b, ws, n', rfl, hm', hr'⟩ := hw
  have l1 := hr.length
  have l2 := hr'.length
  by_cases hsz : xs.length = ys.length
  · have := RcNeAt.lists (A := A) (isListOf N hm) (isListOf N hm') (by simp; omega) (by omega) (RA.eqAt hR N hr hr' (A := A.in1) (by show A.units + 1 + d < cLine; omega))
    rw [List.size_toArray, all_range default (by omega) (by omega)] at this
    exact this
  · have := RcNeAt.lists_lengths (A := A) (isListOf N hm) (isListOf N hm') (by simp; omega) (by omega)
    rw [decide_eq_false (by intro e; exact hsz (congrArg List.length e))]
    exact this
theorem RL.eqR (hR : EqR R d) (hF : Fun R) : EqR (RL R) (d + 1) := fun A s h₀ L news v w xs ys N hv hw hu => by
  have h := RL.rc hR N hv hw hu
  obtain ⟨a, vs, n, rfl, hm, hr⟩ := id hv
  obtain ⟨b, ws, n', rfl, hm', hr'⟩ := id hw
  by_cases hab : a = b
  · subst hab
    have := RL.fun hF _ _ _ _ _ _ _ N hv hw
    rw [decide_eq_true this]
    exact EqAt.same _
  · exact EqAt.of_refs hab h
theorem RL.ltR {lt : α → α → Bool} (hR : EqR R d) (hL : LtR R lt d) : LtR (RL R) (lexL lt) (d + 1) := fun A s h₀ L news v w xs ys N hv hw hu => by
  obtain ⟨a, vs, n, rfl, hm, hr⟩ := id hv
  obtain ⟨b, ws, n', rfl, hm', hr'⟩ := id hw
  have l1 := hr.length
  have l2 := hr'.length
  have := LtAt.lists (A := A) (t := fun j => lt (xs.getD j default) (ys.getD j default)) (isListOf N hm) (isListOf N hm') (by omega) (RA.eqAt hR N hr hr' (A := A.in1) (by show A.units + 1 + d < cLine; omega)) (fun j h1 h2 => by
    have h1' : j < vs.length := by simpa using h1
    have h2' : j < ws.length := by simpa using h2
    obtain ⟨x, e1, r1⟩ := hr.get' (i := j) (v := vs[j]) (by simp [h1'])
    obtain ⟨y, e2, r2⟩ := hr'.get' (i := j) (v := ws[j]) (by simp [h2'])
    have ex : xs.getD j default = x := by simp [e1]
    have ey : ys.getD j default = y := by simp [e2]
    show LtAt _ _ _ _ (lt (xs.getD j default) (ys.getD j default))
    rw [ex, ey]
    simpa using hL A.in1 s h₀ L news _ _ x y N r1 r2 (by show A.units + 1 + d < cLine; omega))
  rw [List.size_toArray, List.size_toArray, lexAt_lexL lt default _ _ _ 0 xs ys (by omega) (by omega) (by omega) (fun j => xs.getD j default) (fun j => ys.getD j default) (fun j _ => by simp) (fun j _ => by simp)] at this
  exact this
end
section
variable {α β : Type} [DecidableEq α] [DecidableEq β] {R : Led → Value → α → Prop} {S : Led → Value → β → Prop} {d : Nat}
def lexP (la : α → α → Bool) (lb : β → β → Bool) (p q : α × β) : Bool := if p.1 = q.1 then (if p.2 = q.2 then false else lb p.2 q.2) else la p.1 q.1
theorem RP.items {h₀ : Heap} {L : Addr} {news : Led} {A : Around} {s : Shared} {v1 v2 w1 w2 : Value} {p q : α × β} (hR : EqR R d) (hS : EqR S d) (N : News h₀ L s.heap news) (h1 : R news v1 p.1) (h2 : S news v2 p.2) (k1 : R news w1 q.1) (k2 : S news w2 q.2) (hu : A.units + d < cLine)
    (j : Nat) (a : j < [v1, v2].toArray.size) (b : j < [w1, w2].toArray.size) : EqAt A s [v1, v2].toArray[j] [w1, w2].toArray[j] ((fun j => match j with | 0 => decide (p.1 = q.1) | _ => decide (p.2 = q.2)) j) := by
  match j, a with
  | 0, _ => exact hR A s h₀ L news _ _ _ _ N h1 k1 hu
  | 1, _ => exact hS A s h₀ L news _ _ _ _ N h2 k2 hu
theorem RP.all (p q : α × β) : ((List.range 2).all fun j => match j with | 0 => decide (p.1 = q.1) | _ => decide (p.2 = q.2)) = decide (p = q) := by
  obtain ⟨a, b⟩ := p
  obtain ⟨c, e⟩ := q
  have : (List.range 2) = [0, 1] := rfl
  rw [this]
  by_cases h1 : a = c <;> by_cases h2 : b = e <;> simp [h1, h2]
theorem RP.rc (hR : EqR R d) (hS : EqR S d) {A : Around} {s : Shared} {h₀ : Heap} {L : Addr} {news : Led} {v w : Value} {p q : α × β} (N : News h₀ L s.heap news) (hv : RP R S news v p) (hw : RP R S news w q) (hu : A.units + (d + 1) < cLine) :
    RcAt A s v w (decide (p = q)) := by
  obtain ⟨a, v1, v2, n, rfl, hm, h1, h2⟩ := hv
  obtain ⟨b, w1, w2, n', rfl, hm', k1, k2⟩ := hw
  have := RcAt.lists (A := A) (isListOf N hm) (isListOf N hm') rfl (by omega) (RP.items hR hS N h1 h2 k1 k2 (A := A.in1) (by show A.units + 1 + d < cLine; omega))
  rw [← RP.all]
  exact this
theorem RP.eqR (hR : EqR R d) (hS : EqR S d) (fR : Fun R) (fS : Fun S) : EqR (RP R S) (d + 1) := fun A s h₀ L news v w p q N hv hw hu => by
  have h := RP.rc hR hS N hv hw hu
  obtain ⟨a, v1, v2, n, rfl, hm, h1, h2⟩ := id hv
  obtain ⟨b, w1, w2, n', rfl, hm', k1, k2⟩ := id hw
  by_cases hab : a = b
  · subst hab
    have := RP.fun fR fS _ _ _ _ _ _ _ N hv hw
    rw [decide_eq_true this]
    exact EqAt.same _
  · exact EqAt.of_refs hab h
theorem RP.ask {la : α → α → Bool} {lb : β → β → Bool} (hR : EqR R d) (hS : EqR S d) (lR : LtR R la d) (lS : LtR S lb d) {prog : Program} {w : World} {E : Value → Shared → Prop} {Q : Bool → Shared → Prop} {A : Around} {s : Shared} {h₀ : Heap} {L : Addr} {news : Led} {v u : Value} {p q : α × β}
    (N : News h₀ L s.heap news) (hv : RP R S news v p) (hw : RP R S news u q) (hu : A.units + (d + 1) < cLine) (h : Q (lexP la lb p q) s) : wpAny (model prog w) A (keyLt' oneType' v u) Q E s := by
  obtain ⟨a, v1, v2, n, rfl, hm, h1, h2⟩ := id hv
  obtain ⟨b, w1, w2, n', rfl, hm', k1, k2⟩ := id hw
  refine oneLt_lists (t := fun j => match j with | 0 => la p.1 q.1 | _ => lb p.2 q.2) (isListOf N hm) (isListOf N hm') (by omega) (RP.items hR hS N h1 h2 k1 k2 (A := A.in1) (by show A.units + 1 + d < cLine; omega)) (fun j a b => ?_) ?_
  · match j, a with
    | 0, _ => exact lR A.in1 s h₀ L news _ _ _ _ N h1 k1 (by show A.units + 1 + d < cLine; omega)
    | 1, _ => exact lS A.in1 s h₀ L news _ _ _ _ N h2 k2 (by show A.units + 1 + d < cLine; omega)
  · have e : lexAt [v1, v2].toArray.size [w1, w2].toArray.size (fun j => match j with | 0 => decide (p.1 = q.1) | _ => decide (p.2 = q.2)) (fun j => match j with | 0 => la p.1 q.1 | _ => lb p.2 q.2) (min [v1, v2].toArray.size [w1, w2].toArray.size) 0 = lexP la lb p q := by
      show lexAt 2 2 _ _ 2 0 = _
      simp only [lexAt, lexP]
      by_cases h1 : p.1 = q.1 <;> by_cases h2 : p.2 = q.2 <;> simp [h1, h2]
    rw [e]; exact h
end
end Mine
namespace Mine
/-- a slice of a plain list -/
def pick {α : Type} (l : List α) (lo hi : Option Int) : List α := (l.drop (kms_lo lo l.length)).take (kms_hi hi l.length - kms_lo lo l.length)
theorem pick_kms (l : List Value) (lo hi : Option Int) : kms_pick l lo hi = pick l lo hi := rfl
theorem RA.pick {α : Type} {R : Led → Value → α → Prop} {news : Led} {vs : List Value} {xs : List α} (h : RA R news vs xs) (lo hi : Option Int) : RA R news (pick vs lo hi) (Mine.pick xs lo hi) := by
  unfold Mine.pick
  rw [h.length]
  exact (h.drop _).take _
theorem pick_len {α : Type} (l : List α) (lo hi : Option Int) : (pick l lo hi).length ≤ l.length := by
  unfold pick
  rw [List.length_take, List.length_drop]; omega
def ROpt {α : Type} (R : Led → Value → α → Prop) (news : Led) (v : Value) : Option α → Prop
  | none => v = .none
  | some x => R news v x
section
variable {prog : Program} {w : World} {A : Around} {E : Value → Shared → Prop} {s : Shared} {h₀ : Heap} {L : Addr} {news : Led} {m : Str → Option Value} {Q : Value → Shared → Prop}
theorem sliceL {value slice : PySem.Expr} {l : Addr} {vs : List Value} {n : Nat} {vl vu : Value} {lo hi : Option Int} (F : Fr h₀ L s.heap m) (N : News h₀ L s.heap news) (hm : (l, PySem.W.listOf vs.toArray n) ∈ news) (pl : IsPart vl lo) (pu : IsPart vu hi) (hz : vs.length ≤ 2000)
    (h : ∀ D h', Fr h₀ L h' m → News h₀ L h' ((D, PySem.W.listOf (pick vs lo hi).toArray 0) :: news) → (∀ p ∈ news, p.1 < D) → Q (.ref D) { s with heap := h' })
    (hs : subscripted slice false (.ref l) (.ref s.heap.objs.size) = operate [.ref s.heap.objs.size, .ref l] (getItem (.ref l) (.ref s.heap.objs.size))) (ht : ∀ r, letTemporaryGo value (.ref l) r = pure ()) :
    wpAny (model prog w) A (subscriptTail value slice (.ref l) (.ref s.heap.objs.size)) Q E { s with heap := s.heap.push { cls := .type "slice", data := .fields #[vl, vu, .none] } } :=
  kms_slice_lit F N (isListOf N hm) pl pu rfl h hs ht (by rw [List.size_toArray, sizeLine_eq]; omega)
theorem addL {l b : Addr} {vs ws : List Value} {n n' : Nat} (F : Fr h₀ L s.heap m) (N : News h₀ L s.heap news) (hm : (l, PySem.W.listOf vs.toArray n) ∈ news) (hb : (b, PySem.W.listOf ws.toArray n') ∈ news) (hz : vs.length + ws.length ≤ 4000)
    (h : ∀ D h', Fr h₀ L h' m → News h₀ L h' ((D, PySem.W.listOf (vs ++ ws).toArray 0) :: news) → (∀ p ∈ news, p.1 < D) → Q (.ref D) { s with heap := h' }) :
    wpAny (model prog w) A (binaryOp .Add (.ref l) (.ref b)) Q E s :=
  kmk_add_lit F N (isListOf N hm) (isListOf N hb) rfl h (by show vs.length + ws.length ≤ sizeLine; rw [sizeLine_eq]; omega)
end
section
variable {prog : Program} {w : World} {A : Around} {E : Value → Shared → Prop} {s : Shared} {h₀ : Heap} {L : Addr} {rest : Led} {m : Str → Option Value}
theorem setItemL {l : Addr} {vs : List Value} {n : Nat} {k : Int} {t : Tok} {v : Value} {Q : Unit → Shared → Prop} (F : Fr h₀ L s.heap m) (N : News h₀ L s.heap ((l, PySem.W.listOf vs.toArray n) :: rest)) (off : ∀ p ∈ rest, p.1 ≠ l)
    (h0 : 0 ≤ k) (h1 : k.toNat < vs.length) (hz : vs.length ≤ 1000) (h : ∀ h', Fr h₀ L h' m → News h₀ L h' ((l, PySem.W.listOf (vs.set k.toNat v).toArray n) :: rest) → Q () { s with heap := h' }) :
    wpAny (model prog w) A (setItem (.ref l) (.int k t) v) Q E s := by
  have z := N (l, PySem.W.listOf vs.toArray n) (.head _)
  refine ki_setAt z.1 h0 (by omega) (by rw [List.size_toArray]; omega) (h _ (F.change (Heap.SameBut.update ..) z.2.1 z.2.2) (ki_turn (pre := []) (n' := n) _ N (fun _ h => nomatch h) off ?_ ?_))
  · apply Array.toList_inj.mp
    simp
  · simp
end
theorem RA.get2 {news : Led} {vs : List Value} {sts : List (List Int × Int)} (h : RA (RP (RL RI) RI) news vs sts) {i : Nat} (hi : i < sts.length) :
    ∃ a v1 t n, vs[i]? = some (.ref a) ∧ (a, PySem.W.listOf (List.toArray [v1, .int (sts.getD i ([], 0)).2 t]) n) ∈ news ∧ RL RI news v1 (sts.getD i ([], 0)).1 := by
  obtain ⟨v, hv, a, v1, v2, n, rfl, hm, h1, t, rfl⟩ := h.get (i := i) (x := sts.getD i ([], 0)) (by simp [hi])
  exact ⟨a, v1, t, n, hv, hm, h1⟩
theorem KeyOK.imp {prog : Program} {w : World} {K : Frag} {q : Addr} {dm um : Nat} {G : List Value → Led} {vs : List Value} {kx ky : Nat → Value → Prop} (KC : KeyOK prog w K q dm um G vs kx) (h : ∀ i v r, vs[i]? = some v → kx i r → ky i r) : KeyOK prog w K q dm um G vs ky where
  fn := KC.fn
  run := fun i v tr dp un gd cn cs L a ccd cl outer A₀ base h₀ m s Q E p loose mean mg mb hv B F X N T hk hd hu ret =>
    KC.run i v tr dp un gd cn cs L a ccd cl outer A₀ base h₀ m s Q E p loose mean mg mb hv B F X N T hk hd hu fun r h' tk' hr => ret r h' tk' (h i v r hv hr)
end Mine
namespace Mine
/-! a for over a list of the ledger, by an invariant over the frame's map and the ledger -/
def LEnd (h₀ : Heap) (L : Addr) (s : Shared) (I : Addr) (oI : Obj) (keep : Addr × Obj) (J : (Str → Option Value) → Led → Prop) (s₂ : Shared) : Prop :=
  ∃ h' tk m' news', s₂ = { s with heap := h', toks := tk } ∧ Fr h₀ L h' m' ∧ News h₀ L h' ((I, oI) :: news') ∧ (∀ p ∈ news', p.1 ≠ I) ∧ keep ∈ news' ∧ J m' news'
def LPost (h₀ : Heap) (L : Addr) (s : Shared) (I : Addr) (oI : Obj) (keep : Addr × Obj) (J : (Str → Option Value) → Led → Prop) (Q : Flow → Shared → Prop) (f : Flow) (s₂ : Shared) : Prop :=
  match f with
  | .ret v => Q (.ret v) s₂
  | .brk => Q .next s₂
  | _ => LEnd h₀ L s I oI keep J s₂
theorem LPost.next {h₀ : Heap} {L : Addr} {s : Shared} {I : Addr} {oI : Obj} {keep : Addr × Obj} {J : (Str → Option Value) → Led → Prop} {Q : Flow → Shared → Prop} {h' : Heap} {tk : Nat} {m' : Str → Option Value} {all : Led}
    (F : Fr h₀ L h' m') (N : News h₀ L h' all) (news' : Led) (sub : ∀ p ∈ (I, oI) :: news', p ∈ all) (off : ∀ p ∈ news', p.1 ≠ I) (hk : keep ∈ news') (j : J m' news') : LPost h₀ L s I oI keep J Q .next { s with heap := h', toks := tk } :=
  ⟨h', tk, m', news', rfl, F, fun p hp => N p (sub p hp), off, hk, j⟩
section
variable {prog : Program} {w : World} {A : Around} {E : Value → Shared → Prop} {s : Shared} {env : Env} {h₀ : Heap} {target : Expr} {body : List Stmt} {Q : Flow → Shared → Prop}
theorem forL {ax : Addr} {vs : List Value} {n : Nat} {m₀ : Str → Option Value} {news : Led} (J : Nat → (Str → Option Value) → Led → Prop)
    (hh : A.handled = none) (F : Fr h₀ env.locals s.heap m₀) (N : News h₀ env.locals s.heap news) (hm : (ax, PySem.W.listOf vs.toArray n) ∈ news) (h0 : J 0 m₀ news)
    (turn : ∀ i v I oI m₁ news₁ h tk, vs[i]? = some v → J i m₁ news₁ → (ax, PySem.W.listOf vs.toArray n) ∈ news₁ → (∀ p ∈ news₁, p.1 ≠ I) → Fr h₀ env.locals h m₁ → News h₀ env.locals h ((I, oI) :: news₁) →
      wpAny (model prog w) A (assign target env v) (fun _ s₂ => wpAny (model prog w) A (execs body env) (LPost h₀ env.locals s I oI (ax, PySem.W.listOf vs.toArray n) (J (i + 1)) Q) E s₂) E { s with heap := h, toks := tk })
    (done : ∀ m₁ news₁ h tk, J vs.length m₁ news₁ → Fr h₀ env.locals h m₁ → News h₀ env.locals h news₁ → Q .next { s with heap := h, toks := tk }) :
    wpAny (model prog w) A (pyIter (.ref ax)) (fun it s₂ => TurnsAt prog w A h₀ env target body Q E it s₂) E s := by
  refine iter_listTurns hh F N hm rfl rfl (fun I hI => ?_)
  have key : ∀ (k i : Nat) (m₁ : Str → Option Value) (news₁ : Led), i + k = vs.length → J i m₁ news₁ → (ax, PySem.W.listOf vs.toArray n) ∈ news₁ → (∀ p ∈ news₁, p.1 ≠ I) →
      ItemsRest prog w A E h₀ env target body Q s [(I, "list_iterator")] [(ax, PySem.W.listOf vs.toArray n)] ((vs.drop i).map .val) m₁ news₁ := by
    intro k
    induction k with
    | zero =>
      intro i m₁ news₁ hi hJ hm₁ off
      rw [List.drop_eq_nil_of_le (by omega)]
      have : i = vs.length := by omega
      subst this
      exact ItemsRest.zero fun h tk F' N' => done m₁ news₁ h tk hJ F' N'
    | succ k ih =>
      intro i m₁ news₁ hi hJ hm₁ off
      have hlt : i < vs.length := by omega
      rw [List.drop_eq_getElem_cons hlt, List.map_cons]
      refine ItemsRest.val fun h tk F' => ?_
      intro oI _
      intro N'
      refine wpAny_mono (turn i vs[i] I oI m₁ news₁ h tk (by simp [hlt]) hJ hm₁ off F' N') (fun _ s₂ h₂ => wpAny_mono h₂ (fun f s₃ h₃ => ?_) fun _ _ e => e) fun _ _ e => e
      have fin : LEnd h₀ env.locals s I oI (ax, PySem.W.listOf vs.toArray n) (J (i + 1)) s₃ → UnrEndW h₀ env.locals { s with heap := h, toks := tk } [(I, oI)] (fun m' n' => SubL [(ax, PySem.W.listOf vs.toArray n)] n' ∧ ItemsRest prog w A E h₀ env target body Q s [(I, "list_iterator")] [(ax, PySem.W.listOf vs.toArray n)] ((vs.drop (i + 1)).map .val) m' n') s₃ := by
        rintro ⟨h', tk', m', news', e, F₃, N₃, off₃, hm₃, hJ₃⟩
        exact ⟨h', tk', m', news', e, F₃, N₃, fun p hp q hq => by rw [List.mem_singleton.mp hq]; exact off₃ p hp, ⟨hm₃, trivial⟩, ih (i + 1) m' news' (by omega) hJ₃ hm₃ off₃⟩
      cases f with
      | ret v => exact h₃
      | brk => exact h₃
      | next => exact fin h₃
      | cont => exact fin h₃
  have := key vs.length 0 m₀ news (by omega) h0 hm (fun p hp => Nat.ne_of_lt (hI p hp))
  rw [List.drop_zero] at this
  exact this
end
/-! comprehensions over a list of the ledger -/
open LCg in
theorem srcAt {h₀ : Heap} {ax : Addr} {vs : List Value} {n : Nat} {news : Led} (h : (ax, PySem.W.listOf vs.toArray n) ∈ news) : SrcAt h₀ ax vs.toArray news := .inr ⟨_, h, rfl, _, rfl⟩
section
open LCg
variable {prog : Program} {w : World} {A : Around} {s : Shared} {h₀ : Heap} {L : Addr} {m : Str → Option Value} {env : Env} {ct elt : Expr} {x : Str} {scope : Scope} {cl : List (Str × Addr)} {S : Led → Prop} {P : Nat → Value → Prop} {Fin : List Value → Led → Prop}
theorem restT {N : Nat} (J : Nat → List Value → Led → Prop)
    (turn : ∀ i v I oI C oC D m₂ h tk (E' : Value → Shared → Prop) ys news₁, i < N → P i v → J i ys news₁ → NsObj oC m₂ → m₂ x = some v → Fr h₀ L h m → News h₀ L h ((I, oI) :: (C, oC) :: (D, lst ys) :: news₁) → (∀ p ∈ news₁, p.1 ≠ I ∧ p.1 ≠ C ∧ p.1 ≠ D) → ((@Ne Nat I C) ∧ (@Ne Nat I D) ∧ (@Ne Nat C D)) →
      wpAny (model prog w) A (isTrue ct (compEnvC scope cl C env) (eval ct (compEnvC scope cl C env))) (fun ok s' => if ok = true then
        wpAny (model prog w) A (eval elt (compEnvC scope cl C env)) (CompEnd h₀ L m { s with heap := h, toks := tk } I oI C oC D (lst ys) S (fun y news' => J (i + 1) (ys ++ [y]) news')) E' s'
        else CompEnd h₀ L m { s with heap := h, toks := tk } I oI C oC D (lst ys) S (fun _ news' => J (i + 1) ys news') Value.none s') E' { s with heap := h, toks := tk })
    (fin : ∀ ys news', J N ys news' → Fin ys news') : ∀ (k i : Nat) (ys : List Value) (news₁ : Led), i + k = N → J i ys news₁ → LCt.CompRestT prog w A h₀ L m env ct elt x scope cl s S P Fin k i ys news₁ := by
  intro k
  induction k with
  | zero =>
    intro i ys news₁ hi hJ
    have : i = N := by omega
    subst this
    exact LCt.CompRestT.zero (fin ys news₁ hJ)
  | succ k ih =>
    intro i ys news₁ hi hJ
    refine LCt.CompRestT.succ ?_
    intro v I oI C oC D m₂ h tk E' hv hC hx F N' off ne
    refine wpAny_mono (turn i v I oI C oC D m₂ h tk E' ys news₁ (by omega) hv hJ hC hx F N' off.mem ne) (fun ok s' h' => ?_) fun _ _ e => e
    cases ok with
    | true =>
      simp only [if_true] at h' ⊢
      refine wpAny_mono h' (fun y s₂ h₂ => ?_) fun _ _ e => e
      obtain ⟨h₃, tk₃, news₃, e, F₃, N₃, off₃, hS₃, hJ₃⟩ := h₂
      exact ⟨h₃, tk₃, news₃, e, F₃, N₃, off₃, hS₃, ih (i + 1) _ news₃ (by omega) hJ₃⟩
    | false =>
      simp only [Bool.false_eq_true, if_false] at h' ⊢
      obtain ⟨h₃, tk₃, news₃, e, F₃, N₃, off₃, hS₃, hJ₃⟩ := h'
      exact ⟨h₃, tk₃, news₃, e, F₃, N₃, off₃, hS₃, ih (i + 1) _ news₃ (by omega) hJ₃⟩
theorem restU {N : Nat} (J : Nat → List Value → Led → Prop)
    (turn : ∀ i v I oI C oC D m₂ h tk (E' : Value → Shared → Prop) ys news₁, i < N → P i v → J i ys news₁ → NsObj oC m₂ → m₂ x = some v → Fr h₀ L h m → News h₀ L h ((I, oI) :: (C, oC) :: (D, lst ys) :: news₁) → (∀ p ∈ news₁, p.1 ≠ I ∧ p.1 ≠ C ∧ p.1 ≠ D) → ((@Ne Nat I C) ∧ (@Ne Nat I D) ∧ (@Ne Nat C D)) →
      wpAny (model prog w) A (eval elt (compEnvC scope cl C env)) (CompEnd h₀ L m { s with heap := h, toks := tk } I oI C oC D (lst ys) S (fun y news' => J (i + 1) (ys ++ [y]) news')) E' { s with heap := h, toks := tk })
    (fin : ∀ ys news', J N ys news' → Fin ys news') : ∀ (k i : Nat) (ys : List Value) (news₁ : Led), i + k = N → J i ys news₁ → LCg.CompRest prog w A h₀ L m env elt x scope cl s S P Fin k i ys news₁ := by
  intro k
  induction k with
  | zero =>
    intro i ys news₁ hi hJ
    have : i = N := by omega
    subst this
    exact LCg.CompRest.zero (fin ys news₁ hJ)
  | succ k ih =>
    intro i ys news₁ hi hJ
    refine LCg.CompRest.succ ?_
    intro v I oI C oC D m₂ h tk E' hv hC hx F N' off ne
    refine wpAny_mono (turn i v I oI C oC D m₂ h tk E' ys news₁ (by omega) hv hJ hC hx F N' off.mem ne) (fun y s₂ h₂ => ?_) fun _ _ e => e
    obtain ⟨h₃, tk₃, news₃, e, F₃, N₃, off₃, hS₃, hJ₃⟩ := h₂
    exact ⟨h₃, tk₃, news₃, e, F₃, N₃, off₃, hS₃, ih (i + 1) _ news₃ (by omega) hJ₃⟩
theorem compEnd {I C D : Addr} {s₁ : Shared} {oI oC oD : Obj} {rest : Value → Led → Prop} {y : Value} {h' : Heap} {tk : Nat} {all : Led} (F : Fr h₀ L h' m) (N : News h₀ L h' all) (news' : Led)
    (sub : ∀ p ∈ (I, oI) :: (C, oC) :: (D, oD) :: news', p ∈ all) (off : ∀ p ∈ news', p.1 ≠ I ∧ p.1 ≠ C ∧ p.1 ≠ D) (hS : S news') (r : rest y news') :
    CompEnd h₀ L m s₁ I oI C oC D oD S rest y { s₁ with heap := h', toks := tk } := CompEnd.intro F N news' sub (Off3.of off) hS r
theorem off1 {D : Addr} : ∀ {l : Led}, Off1 D l → ∀ p ∈ l, p.1 ≠ D
  | [], _, _, h => nomatch h
  | _ :: _, x, p, h => by
    rcases List.mem_cons.mp h with rfl | h
    · exact x.1
    · exact off1 x.2 p h
end
end Mine
namespace Mine
/-! the sort's tree of questions: asked of a total order it gives the items in order -/
def Kwp {α : Type} (N : Nat) (c : Nat → Nat → Bool) : KasT α → (α → Prop) → Prop
  | .ret a, Q => Q a
  | .ask i j k, Q => i < N ∧ j < N ∧ Kwp N c (k (c i j)) Q
theorem Kwp.mono {α : Type} {N : Nat} {c : Nat → Nat → Bool} {Q Q' : α → Prop} (h : ∀ a, Q a → Q' a) : ∀ (t : KasT α), Kwp N c t Q → Kwp N c t Q'
  | .ret a, x => h a x
  | .ask i j k, x => ⟨x.1, x.2.1, Kwp.mono h (k (c i j)) x.2.2⟩
theorem Kwp.bind {α β : Type} {N : Nat} {c : Nat → Nat → Bool} {f : α → KasT β} {Q : β → Prop} : ∀ (t : KasT α), Kwp N c t (fun a => Kwp N c (f a) Q) → Kwp N c (t.bind f) Q
  | .ret _, x => x
  | .ask i j k, x => ⟨x.1, x.2.1, Kwp.bind (k (c i j)) x.2.2⟩
theorem Kwp.wp {α : Type} {N : Nat} {c : Nat → Nat → Bool} {cmp : Nat → Nat → (Bool → Shared → Prop) → Shared → Prop} {s : Shared} (hc : ∀ i j (C : Bool → Shared → Prop), i < N → j < N → C (c i j) s → cmp i j C s) {Q : α → Shared → Prop} :
    ∀ (t : KasT α), Kwp N c t (fun a => Q a s) → t.kasWp cmp Q s
  | .ret _, x => x
  | .ask i j k, x => hc i j _ x.1 x.2.1 (Kwp.wp hc (k (c i j)) x.2.2)
structure Ord (c : Nat → Nat → Bool) : Prop where
  tr : ∀ a b d, c b a = false → c d b = false → c d a = false
  as : ∀ a b, c a b = true → c b a = false
  irr : ∀ a, c a a = false
abbrev at0 (p : Array Nat) (i : Nat) : Nat := p.getD i 0
structure Good (N : Nat) (p : Array Nat) : Prop where
  perm : p.Perm (List.range N).toArray
theorem Good.size {N : Nat} {p : Array Nat} (h : Good N p) : p.size = N := by have := h.perm.size_eq; simpa using this
theorem Good.lt {N : Nat} {p : Array Nat} (h : Good N p) {i : Nat} (hi : i < N) : at0 p i < N := by
  have hs := h.size
  have hi' : i < p.size := by omega
  have : p[i] ∈ (List.range N).toArray := h.perm.mem_iff.mp (Array.getElem_mem hi')
  have e : at0 p i = p[i] := by simp [at0, Array.getD, hi']
  rw [e]
  simpa using this
theorem Good.rev {N : Nat} {p : Array Nat} (h : Good N p) (i j : Nat) : Good N (kas_rev p i j) := ⟨(mirror_perm _ _ _ _).trans h.perm⟩
theorem Good.bub {N : Nat} {p : Array Nat} (h : Good N p) (k d : Nat) : Good N (bubble p k d) := ⟨(bubble_perm _ _ _).trans h.perm⟩
theorem getD_of {p q : Array Nat} {i j : Nat} (h : p[i]? = q[j]?) : at0 p i = at0 q j := by
  unfold at0
  rw [Array.getD_eq_getD_getElem?, Array.getD_eq_getD_getElem?, h]
theorem at_rev {N : Nat} {p : Array Nat} (h : Good N p) {i j : Nat} (hj : j ≤ N) (k : Nat) : at0 (kas_rev p i j) k = if i ≤ k ∧ k < j then at0 p (i + j - 1 - k) else at0 p k := by
  have e := getElem?_mirror_all (xs := p) (i := i) (j := j) (by rw [h.size]; exact hj) k
  unfold kas_rev
  split <;> rename_i hk
  · rw [if_pos hk] at e; exact getD_of e
  · rw [if_neg hk] at e; exact getD_of e
theorem at_bub {N : Nat} {p : Array Nat} (h : Good N p) {k d : Nat} (hk : k < N) (hd : d ≤ k) (i : Nat) : at0 (bubble p k d) i = if i = k - d then at0 p k else if k - d < i ∧ i ≤ k then at0 p (i - 1) else at0 p i := by
  have e := getElem?_bubble (xs := p) (by rw [h.size]; exact hk) d hd i
  split <;> rename_i h1
  · rw [if_pos h1] at e; exact getD_of e
  · rw [if_neg h1] at e
    split <;> rename_i h2
    · rw [if_pos h2] at e; exact getD_of e
    · rw [if_neg h2] at e; exact getD_of e
section
variable {N : Nat} {c : Nat → Nat → Bool}
def Asc (c : Nat → Nat → Bool) (p : Array Nat) (n : Nat) : Prop := ∀ i j, i ≤ j → j < n → c (at0 p j) (at0 p i) = false
def Dsc (c : Nat → Nat → Bool) (p : Array Nat) (n : Nat) : Prop := ∀ i j, i ≤ j → j < n → c (at0 p i) (at0 p j) = false
def Eqs (c : Nat → Nat → Bool) (p : Array Nat) (a b : Nat) : Prop := ∀ i j, a ≤ i → i < b → a ≤ j → j < b → c (at0 p i) (at0 p j) = false
theorem asc_succ (O : Ord c) {p : Array Nat} {n : Nat} (h : Asc c p n) (hn : 1 ≤ n) (hc : c (at0 p n) (at0 p (n - 1)) = false) : Asc c p (n + 1) := by
  intro i j hij hj
  by_cases hjn : j < n
  · exact h i j hij hjn
  · have : j = n := by omega
    subst this
    by_cases hin : i = j
    · subst hin; exact O.irr _
    · exact O.tr _ _ _ (h i (j - 1) (by omega) (by omega)) hc
theorem kas_asc_ok (O : Ord c) {p : Array Nat} (G : Good N p) : ∀ (f n : Nat), 1 ≤ n → n + f ≤ N → Asc c p n →
    Kwp N c (kas_asc p f n) (fun r => n ≤ r ∧ r ≤ n + f ∧ Asc c p r ∧ (r = n + f ∨ c (at0 p r) (at0 p (r - 1)) = true)) := by
  intro f
  induction f with
  | zero => intro n h1 h2 h; exact ⟨Nat.le_refl _, Nat.le_refl _, h, .inl rfl⟩
  | succ f ih =>
    intro n h1 h2 h
    refine ⟨G.lt (by omega), G.lt (by omega), ?_⟩
    show Kwp N c (if c (at0 p n) (at0 p (n - 1)) = true then .ret n else kas_asc p f (n + 1)) _
    cases hc : c (at0 p n) (at0 p (n - 1)) with
    | true => exact ⟨Nat.le_refl _, by omega, h, .inr hc⟩
    | false =>
      refine Kwp.mono (fun r hr => ?_) _ (ih (n + 1) (by omega) (by omega) (asc_succ O h h1 hc))
      exact ⟨by omega, by omega, hr.2.2.1, hr.2.2.2.imp (fun e => by omega) id⟩
theorem dsc_succ (O : Ord c) {p : Array Nat} {n : Nat} (h : Dsc c p n) (hn : 1 ≤ n) (hc : c (at0 p (n - 1)) (at0 p n) = false) : Dsc c p (n + 1) := by
  intro i j hij hj
  by_cases hjn : j < n
  · exact h i j hij hjn
  · have : j = n := by omega
    subst this
    by_cases hin : i = j
    · subst hin; exact O.irr _
    · exact O.tr _ _ _ hc (h i (j - 1) (by omega) (by omega))
/-- to turn round a stretch of like ones changes no order -/
theorem dsc_rev (O : Ord c) {p : Array Nat} (G : Good N p) {a n m : Nat} (hn : n ≤ N) (he : Eqs c p a n) (h : Dsc c p m) : Dsc c (kas_rev p a n) m := by
  have like : ∀ i, c (at0 (kas_rev p a n) i) (at0 p i) = false ∧ c (at0 p i) (at0 (kas_rev p a n) i) = false := by
    intro i
    rw [at_rev G hn]
    split <;> rename_i hi
    · exact ⟨he _ _ (by omega) (by omega) (by omega) (by omega), he _ _ (by omega) (by omega) (by omega) (by omega)⟩
    · exact ⟨O.irr _, O.irr _⟩
  intro i j hij hj
  exact O.tr _ _ _ (O.tr _ _ _ (like j).2 (h i j hij hj)) (like i).1
theorem kas_desc_ok (O : Ord c) : ∀ (f : Nat) (p : Array Nat) (n q : Nat), Good N p → q + 1 ≤ n → n + f ≤ N → Dsc c p n → Eqs c p (n - (q + 1)) n →
    Kwp N c (kas_desc f p n q) (fun r => Good N r.1 ∧ n ≤ r.2.1 ∧ r.2.1 ≤ n + f ∧ Dsc c r.1 r.2.1 ∧ r.2.2 + 1 ≤ r.2.1 ∧ Eqs c r.1 (r.2.1 - (r.2.2 + 1)) r.2.1) := by
  intro f
  induction f with
  | zero => intro p n q G hq hn h he; exact ⟨G, Nat.le_refl _, Nat.le_refl _, h, hq, he⟩
  | succ f ih =>
    intro p n q G hq hn h he
    have up : ∀ {r : Array Nat × Nat × Nat}, (Good N r.1 ∧ n + 1 ≤ r.2.1 ∧ r.2.1 ≤ n + 1 + f ∧ Dsc c r.1 r.2.1 ∧ r.2.2 + 1 ≤ r.2.1 ∧ Eqs c r.1 (r.2.1 - (r.2.2 + 1)) r.2.1) → (Good N r.1 ∧ n ≤ r.2.1 ∧ r.2.1 ≤ n + (f + 1) ∧ Dsc c r.1 r.2.1 ∧ r.2.2 + 1 ≤ r.2.1 ∧ Eqs c r.1 (r.2.1 - (r.2.2 + 1)) r.2.1) :=
      fun x => ⟨x.1, by omega, by omega, x.2.2.2⟩
    have one : ∀ (p' : Array Nat), Eqs c p' (n + 1 - (0 + 1)) (n + 1) := fun p' i j a b d e => by
      have hi : i = n := by omega
      have hj : j = n := by omega
      subst hi hj; exact O.irr _
    refine ⟨G.lt (by omega), G.lt (by omega), ?_⟩
    show Kwp N c (if c (at0 p n) (at0 p (n - 1)) = true then (if q > 0 then kas_desc f (kas_rev p (n - (q + 1)) n) (n + 1) 0 else kas_desc f p (n + 1) 0)
      else .ask (at0 p (n - 1)) (at0 p n) fun d => if d = true then .ret (p, n, q) else kas_desc f p (n + 1) (q + 1)) _
    cases hc : c (at0 p n) (at0 p (n - 1)) with
    | true =>
      rw [if_pos rfl]
      have hd := dsc_succ O h (by omega) (O.as _ _ hc)
      by_cases hq0 : q > 0
      · rw [if_pos hq0]
        refine Kwp.mono (fun r hr => up hr) _ (ih _ (n + 1) 0 (G.rev _ _) (by omega) (by omega) (dsc_rev O G (by omega) he hd) (one _))
      · rw [if_neg hq0]
        exact Kwp.mono (fun r hr => up hr) _ (ih p (n + 1) 0 G (by omega) (by omega) hd (one _))
    | false =>
      rw [if_neg (by simp)]
      refine ⟨G.lt (by omega), G.lt (by omega), ?_⟩
      cases hd : c (at0 p (n - 1)) (at0 p n) with
      | true => exact ⟨G, Nat.le_refl _, (by show n ≤ n + (f + 1); omega), h, hq, he⟩
      | false =>
        show Kwp N c (kas_desc f p (n + 1) (q + 1)) _
        refine Kwp.mono (fun r hr => up hr) _ (ih p (n + 1) (q + 1) G (by omega) (by omega) (dsc_succ O h (by omega) hd) ?_)
        have hnn : n - (q + 1) = n + 1 - (q + 1 + 1) := by omega
        intro i j a b d e
        by_cases hi : i < n
        · by_cases hj : j < n
          · exact he i j (by omega) hi (by omega) hj
          · have : j = n := by omega
            subst this
            exact O.tr _ _ _ hd (he i (j - 1) (by omega) hi (by omega) (by omega))
        · have : i = n := by omega
          subst this
          by_cases hj : j < i
          · exact O.tr _ _ _ (he (i - 1) j (by omega) (by omega) (by omega) hj) hc
          · have : j = i := by omega
            subst this
            exact O.irr _
theorem asc_of_rev {p : Array Nat} (G : Good N p) {n : Nat} (hn : n ≤ N) (h : Dsc c p n) : Asc c (kas_rev p 0 n) n := by
  intro i j hij hj
  rw [at_rev G hn, at_rev G hn, if_pos (by omega), if_pos (by omega)]
  exact h _ _ (by omega) (by omega)
theorem kas_tail3_ok (O : Ord c) {p : Array Nat} (G : Good N p) {n : Nat} (h1 : 1 ≤ n) (hn : n ≤ N) (h : Dsc c p n) :
    Kwp N c (kas_tail3 n N p) (fun r => Good N r.2 ∧ 1 ≤ r.1 ∧ r.1 ≤ N ∧ Asc c r.2 r.1) := by
  refine Kwp.bind _ (Kwp.mono (fun m hm => ?_) _ (kas_asc_ok O (G.rev 0 n) (N - n) n h1 (by omega) (asc_of_rev G hn h)))
  exact ⟨G.rev 0 n, by omega, by omega, hm.2.2.1⟩
theorem kas_descPart_ok (O : Ord c) {p : Array Nat} (G : Good N p) {n : Nat} (h1 : 1 ≤ n) (hn : n + 1 ≤ N) (h : Dsc c p (n + 1)) :
    Kwp N c (kas_descPart n N p) (fun r => Good N r.2 ∧ 1 ≤ r.1 ∧ r.1 ≤ N ∧ Asc c r.2 r.1) := by
  refine Kwp.bind _ (Kwp.mono (fun r hr => ?_) _ (kas_desc_ok O (N - (n + 1)) p (n + 1) 0 G (by omega) (by omega) h (fun i j a b d e => by
    have hi : i = n := by omega
    have hj : j = n := by omega
    subst hi hj; exact O.irr _)))
  obtain ⟨G', a1, a2, hd, a3, he⟩ := hr
  by_cases hq : r.2.2 > 0
  · rw [if_pos hq]
    exact kas_tail3_ok O (G'.rev _ _) (by omega) (by omega) (dsc_rev O G' (by omega) he hd)
  · rw [if_neg hq]
    exact kas_tail3_ok O G' (by omega) (by omega) hd
theorem kas_count_ok (O : Ord c) {p : Array Nat} (G : Good N p) (hN : 1 ≤ N) :
    Kwp N c (kas_count N p) (fun r => Good N r.2 ∧ 1 ≤ r.1 ∧ r.1 ≤ N ∧ Asc c r.2 r.1) := by
  have h1 : Asc c p 1 := fun i j a b => by
    have hi : i = 0 := by omega
    have hj : j = 0 := by omega
    subst hi hj; exact O.irr _
  refine Kwp.bind _ (Kwp.mono (fun n hn => ?_) _ (kas_asc_ok O G (N - 1) 1 (Nat.le_refl _) (by omega) h1))
  obtain ⟨a1, a2, ha, hx⟩ := hn
  by_cases hnn : (n == N) = true
  · rw [if_pos hnn]
    exact ⟨G, by omega, by omega, ha⟩
  · rw [if_neg hnn]
    have hne : n ≠ N := by simpa using hnn
    have hlt : c (at0 p n) (at0 p (n - 1)) = true := hx.resolve_left (by omega)
    by_cases hn1 : n > 1
    · rw [if_pos hn1]
      refine ⟨G.lt (by omega), G.lt (by omega), ?_⟩
      show Kwp N c (if c (at0 p 0) (at0 p (n - 1)) = true then .ret (n, p) else kas_descPart n N (kas_rev p 0 n)) _
      cases hc : c (at0 p 0) (at0 p (n - 1)) with
      | true => exact ⟨G, by omega, by omega, ha⟩
      | false =>
        rw [if_neg (by simp)]
        have heq : Eqs c p 0 n := fun i j _ hi _ hj => by
          have e1 : c (at0 p (n - 1)) (at0 p j) = false := ha j (n - 1) (by omega) (by omega)
          have e2 : c (at0 p i) (at0 p 0) = false := ha 0 i (by omega) hi
          exact O.tr _ _ _ (O.tr _ _ _ e1 hc) e2
        have hd : Dsc c p (n + 1) := dsc_succ O (fun i j hij hj => heq i j (by omega) (by omega) (by omega) hj) (by omega) (O.as _ _ hlt)
        exact kas_descPart_ok O (G.rev 0 n) (by omega) (by omega) (dsc_rev O G (by omega) heq hd)
    · rw [if_neg hn1]
      have : n = 1 := by omega
      subst this
      exact kas_descPart_ok O G (Nat.le_refl _) (by omega) (dsc_succ O (fun i j a b => by
        have hi : i = 0 := by omega
        have hj : j = 0 := by omega
        subst hi hj; exact O.irr _) (Nat.le_refl _) (O.as _ _ hlt))
theorem kas_place_ok (O : Ord c) {p : Array Nat} (G : Good N p) {k : Nat} (hk : k < N) (ha : Asc c p k) : ∀ (f l r : Nat), l ≤ r → r ≤ k → r - l ≤ f → (∀ i, i < l → c (at0 p k) (at0 p i) = false) → (∀ i, r ≤ i → i < k → c (at0 p k) (at0 p i) = true) →
    Kwp N c (kas_place p k f l r) (fun l => l ≤ k ∧ (∀ i, i < l → c (at0 p k) (at0 p i) = false) ∧ (∀ i, l ≤ i → i < k → c (at0 p k) (at0 p i) = true)) := by
  intro f
  induction f with
  | zero =>
    intro l r h1 h2 h3 hl hr
    have : l = r := by omega
    subst this
    exact ⟨h2, hl, hr⟩
  | succ f ih =>
    intro l r h1 h2 h3 hl hr
    show Kwp N c (if l ≥ r then .ret l else .ask (at0 p k) (at0 p ((l + r) / 2)) fun c => if c = true then kas_place p k f l ((l + r) / 2) else kas_place p k f ((l + r) / 2 + 1) r) _
    by_cases hlr : l ≥ r
    · rw [if_pos hlr]
      have : l = r := by omega
      subst this
      exact ⟨h2, hl, hr⟩
    · rw [if_neg hlr]
      refine ⟨G.lt hk, G.lt (by omega), ?_⟩
      cases hc : c (at0 p k) (at0 p ((l + r) / 2)) with
      | true =>
        show Kwp N c (kas_place p k f l ((l + r) / 2)) _
        refine ih l ((l + r) / 2) (by omega) (by omega) (by omega) hl fun i hi hik => ?_
        cases hx : c (at0 p k) (at0 p i) with
        | true => rfl
        | false =>
          have : c (at0 p i) (at0 p ((l + r) / 2)) = false := ha _ _ hi hik
          rw [O.tr _ _ _ this hx] at hc
          cases hc
      | false =>
        show Kwp N c (kas_place p k f ((l + r) / 2 + 1) r) _
        refine ih ((l + r) / 2 + 1) r (by omega) h2 (by omega) (fun i hi => ?_) hr
        exact O.tr _ _ _ (ha i ((l + r) / 2) (by omega) (by omega)) hc
theorem kas_bin_ok (O : Ord c) : ∀ (f : Nat) (p : Array Nat) (k : Nat), Good N p → k + f = N → Asc c p k → Kwp N c (kas_bin f p k) (fun p => Good N p ∧ Asc c p N) := by
  intro f
  induction f with
  | zero =>
    intro p k G hk h
    have : k = N := by omega
    subst this
    exact ⟨G, h⟩
  | succ f ih =>
    intro p k G hk h
    refine Kwp.bind _ (Kwp.mono (fun l hl => ?_) _ (kas_place_ok O G (by omega) h k 0 k (Nat.zero_le _) (Nat.le_refl _) (by omega) (fun i hi => absurd hi (Nat.not_lt_zero _)) (fun i a b => absurd (Nat.lt_of_le_of_lt a b) (Nat.lt_irrefl _))))
    obtain ⟨hlk, h1, h2⟩ := hl
    refine ih _ (k + 1) (G.bub _ _) (by omega) fun i j hij hj => ?_
    rw [at_bub G (by omega) (by omega), at_bub G (by omega) (by omega)]
    have hkl : k - (k - l) = l := by omega
    rw [hkl]
    by_cases hjl : j = l
    · rw [if_pos hjl]
      by_cases hil : i = l
      · rw [if_pos hil]; exact O.irr _
      · rw [if_neg hil, if_neg (by omega)]; exact h1 i (by omega)
    · rw [if_neg hjl]
      by_cases hjk : l < j ∧ j ≤ k
      · rw [if_pos hjk]
        by_cases hil : i = l
        · rw [if_pos hil]; exact O.as _ _ (h2 (j - 1) (by omega) (by omega))
        · rw [if_neg hil]
          by_cases hik : l < i ∧ i ≤ k
          · rw [if_pos hik]; exact h _ _ (by omega) (by omega)
          · rw [if_neg hik]; exact h _ _ (by omega) (by omega)
      · rw [if_neg hjk, if_neg (by omega), if_neg (by omega)]; exact h _ _ hij (by omega)
theorem kas_sort_ok (O : Ord c) (hN : 1 ≤ N) : Kwp N c (kas_sort N) (fun p => Good N p ∧ Asc c p N) := by
  have G : Good N (List.range N).toArray := ⟨Array.Perm.refl _⟩
  refine Kwp.bind _ (Kwp.mono (fun r hr => ?_) _ (kas_count_ok O G hN))
  obtain ⟨G', a1, a2, ha⟩ := hr
  by_cases hlt : r.1 < N
  · rw [if_pos hlt]
    have : max r.1 1 = r.1 := by omega
    rw [this]
    exact kas_bin_ok O _ _ _ G' (by omega) ha
  · rw [if_neg hlt]
    have : r.1 = N := by omega
    exact ⟨G', this ▸ ha⟩
end
end Mine
namespace Mine
section
variable {prog : Program} {w : World} {A : Around} {E : Value → Shared → Prop} {s : Shared} {h₀ : Heap} {L : Addr} {rest : Led} {m : Str → Option Value}
theorem sort_short {l : Addr} {vs : List Value} {n : Nat} {Q : Value → Shared → Prop} (F : Fr h₀ L s.heap m) (N : News h₀ L s.heap ((l, PySem.W.listOf vs.toArray n) :: rest)) (off : ∀ p ∈ rest, p.1 ≠ l) (h2 : vs.length < 2)
    (h : ∀ h' c, Fr h₀ L h' m → News h₀ L h' ((l, PySem.W.listOf vs.toArray c) :: rest) → Q .none { s with heap := h' }) :
    wpAny (model prog w) A (call (.builtin "list.sort") [.ref l]) Q E s := by
  have nz := N _ (.head _)
  have ho : s.heap.get? l = some (seqObj "list" vs.toArray n) := nz.1
  have N₀ : News h₀ L s.heap rest := fun p hp => N p (.tail _ hp)
  have s1 := Heap.SameBut.update s.heap l (Obj.mapSeq fun _ => (#[] : Array Value))
  obtain ⟨e1, ho1⟩ : ∃ e1, (s.heap.update l (Obj.mapSeq fun _ => (#[] : Array Value))).get? l = some (seqObj "list" #[] e1) := ⟨_, get?_update_seq ho fun _ => #[]⟩
  have F3 : Fr h₀ L (((s.heap.update l (Obj.mapSeq fun _ => (#[] : Array Value))).push (seqObj "tuple" vs.toArray 0)).push (seqObj "list" #[] 0)) m := ((kas_fr F s1 nz.2.1 nz.2.2).push _).push _
  have N2 : News h₀ L (((s.heap.update l (Obj.mapSeq fun _ => (#[] : Array Value))).push (seqObj "tuple" vs.toArray 0)).push (seqObj "list" #[] 0)) rest :=
    (kas_news N₀ s1 off).grown fun b x e => Heap.get?_push_of_some _ (Heap.get?_push_of_some _ e)
  have ho3 : (((s.heap.update l (Obj.mapSeq fun _ => (#[] : Array Value))).push (seqObj "tuple" vs.toArray 0)).push (seqObj "list" #[] 0)).get? l = some (seqObj "list" #[] e1) := Heap.get?_push_of_some _ (Heap.get?_push_of_some _ ho1)
  have hsz : (2 : Nat) ≤ sizeLine := by rw [sizeLine_eq]; omega
  refine wpAny_call_entry slot_list_sort ⟨_, nz.1, rfl⟩ entry_list_sort ?_ (args_list_sort _)
  rw [list_sort_plain]
  refine wpAny_bind (listItems_at ho rfl ?_)
  refine wpAny_bind (listUpdate_at ho rfl ?_ (by rw [List.size_toArray]; omega) (Nat.zero_le _))
  refine wpAny_bind (seqEpoch_at ho1 rfl ?_)
  refine wpAny_bind (wpAny_newTuple ?_ (by show vs.length ≤ _; omega))
  refine wpAny_bind (wpAny_newList ?_ (Nat.zero_le _))
  refine wpAny_holding ?_
  show wpAny (model prog w) A.in1 _ _ E { s with heap := ((s.heap.update l (Obj.mapSeq fun _ => (#[] : Array Value))).push (seqObj "tuple" vs.toArray 0)).push (seqObj "list" #[] 0) }
  dsimp only
  have hn2 : vs.toArray.size < 2 := by rw [List.size_toArray]; exact h2
  rw [if_pos hn2, if_pos hn2]
  refine wpAny_bind (wpAny_pure ?_)
  refine wpAny_bind (wpAny_pure ?_)
  dsimp only
  have hout : (arrOf (SortSt.mk' general' (vs.toArray.zip vs.toArray) #[] 7 none)).map (·.2) = vs.toArray := by
    apply Array.toList_inj.mp
    show ((vs.toArray.zip vs.toArray).map (·.2)).toList = vs
    rw [Array.toList_map]
    have : (vs.toArray.zip vs.toArray).toList = vs.zip vs := by simp
    rw [this]
    exact List.map_snd_zip (Nat.le_refl _)
  rw [hout]
  have s2 := Heap.SameBut.update (((s.heap.update l (Obj.mapSeq fun _ => (#[] : Array Value))).push (seqObj "tuple" vs.toArray 0)).push (seqObj "list" #[] 0)) l (Obj.mapSeq fun _ => vs.toArray)
  obtain ⟨c2, hc2⟩ : ∃ c2, ((((s.heap.update l (Obj.mapSeq fun _ => (#[] : Array Value))).push (seqObj "tuple" vs.toArray 0)).push (seqObj "list" #[] 0)).update l (Obj.mapSeq fun _ => vs.toArray)).get? l = some (seqObj "list" vs.toArray c2) := ⟨_, get?_update_seq ho3 fun _ => vs.toArray⟩
  refine wpAny_bind (seqEpoch_at ho3 rfl ?_)
  refine wpAny_bind (listUpdate_at ho3 rfl ?_ (Nat.zero_le _) (by rw [List.size_toArray]; omega))
  simp only [bne_self_eq_false, Bool.false_eq_true, if_false]
  refine wpAny_pure ⟨_, rfl, h _ c2 (kas_fr F3 s2 nz.2.1 nz.2.2) fun p hp => ?_⟩
  rcases List.mem_cons.mp hp with rfl | hp
  · exact ⟨hc2, nz.2.1, nz.2.2⟩
  · exact ⟨(s2.2 p.1 (off p hp)).trans (N2 p hp).1, (N2 p hp).2⟩
end
/-- an order on plain data, by its strict question -/
structure LtOrd {α : Type} (lt : α → α → Bool) : Prop where
  tr : ∀ a b d, lt b a = false → lt d b = false → lt d a = false
  as : ∀ a b, lt a b = true → lt b a = false
  irr : ∀ a, lt a a = false
theorem LtOrd.ord {α : Type} {lt : α → α → Bool} (h : LtOrd lt) (X : Nat → α) : Ord (fun i j => lt (X i) (X j)) := ⟨fun _ _ _ => h.tr _ _ _, fun _ _ => h.as _ _, fun _ => h.irr _⟩
theorem RA.pickIdx {α : Type} {R : Led → Value → α → Prop} {led : Led} {vs : List Value} {xs : List α} (h : RA R led vs xs) (d : α) : ∀ (is : List Nat), (∀ i ∈ is, i < xs.length) → RA R led (is.map fun i => vs.getD i .none) (is.map fun i => xs.getD i d)
  | [], _ => .nil
  | i :: is, hi => by
    have h1 := hi i (.head _)
    obtain ⟨v, hv, hr⟩ := h.get (i := i) (x := xs.getD i d) (by simp [h1])
    refine .cons ?_ (RA.pickIdx h d is fun j hj => hi j (.tail _ hj))
    have : vs.getD i .none = v := by simp [hv]
    show R led (vs.getD i .none) (xs.getD i d)
    rw [this]; exact hr
theorem perm_map_getD {α : Type} (xs : List α) (d : α) {p : Array Nat} (h : Good xs.length p) : (p.toList.map fun i => xs.getD i d).Perm xs := by
  have h1 : p.toList.Perm (List.range xs.length) := by
    have := h.perm
    rw [Array.perm_iff_toList_perm] at this
    simpa using this
  refine (h1.map _).trans ?_
  have : (List.range xs.length).map (fun i => xs.getD i d) = xs := by
    refine List.ext_getElem (by simp) fun i a b => ?_
    simp at a
    simp [a]
  rw [this]
section
variable {α : Type} {R : Led → Value → α → Prop} {lt : α → α → Bool} {prog : Program} {w : World} {A : Around} {E : Value → Shared → Prop} {s : Shared} {h₀ : Heap} {L : Addr} {rest : Led} {m : Str → Option Value}
theorem sortL {l : Addr} {vs : List Value} {n : Nat} {xs : List α} {led : Led} {Q : Value → Shared → Prop} (d : α) (F : Fr h₀ L s.heap m) (N : News h₀ L s.heap ((l, PySem.W.listOf vs.toArray n) :: rest)) (off : ∀ p ∈ rest, p.1 ≠ l)
    (hsub : ∀ p ∈ led, p ∈ rest) (hR : RA R led vs xs) (h64 : xs.length < 64) (O : LtOrd lt)
    (hty : ∀ v x, R led v x → ∃ b ws n', v = .ref b ∧ (b, PySem.W.listOf (List.toArray ws) n') ∈ led)
    (ask : ∀ (s : Shared) (v u : Value) (x y : α) (C : Bool → Shared → Prop), News h₀ L s.heap led → R led v x → R led u y → C (lt x y) s → wpAny (model prog w) A.in1 (keyLt' oneType' v u) C (fun _ _ => False) s)
    (h : ∀ vs' ys h' c, Fr h₀ L h' m → News h₀ L h' ((l, PySem.W.listOf (List.toArray vs') c) :: rest) → RA R led vs' ys → ys.Perm xs → ys.Pairwise (fun a b => lt b a = false) → Q .none { s with heap := h' }) :
    wpAny (model prog w) A (call (.builtin "list.sort") [.ref l]) Q E s := by
  have hln := hR.length
  by_cases h2 : vs.length < 2
  · refine sort_short F N off h2 fun h' c F' N' => h vs xs h' c F' N' hR (List.Perm.refl _) ?_
    match xs, hln with
    | [], _ => exact .nil
    | [x], _ => exact .cons (fun _ h => nomatch h) .nil
    | _ :: _ :: _, e => simp at e; omega
  · have hN : News h₀ L s.heap led := fun p hp => N p (.tail _ (hsub p hp))
    refine kas_lsort (T := .type "list") F N (UpdF.head off) rfl (by show 2 ≤ vs.length; omega) (by show vs.length < 64; omega) (fun e1 h' F' N' v hv => ?_) rfl (fun e1 h' F' N' => ?_)
    · obtain ⟨i, hi⟩ := List.getElem?_of_mem (show v ∈ vs from hv)
      obtain ⟨x, _, hx⟩ := hR.get' hi
      obtain ⟨b, ws, n', rfl, hb⟩ := hty v x hx
      exact (Looks.ld (part := none) (N' _ (.tail _ (hsub _ hb))).1).andThen .now
    · have hN' : News h₀ L h' led := fun p hp => N' p (.tail _ (hsub p hp))
      show (kas_sort vs.length).kasWp (kas_ask prog w A.in1 oneType' vs) _ _
      refine Kwp.wp (N := vs.length) (c := fun i j => lt (xs.getD i d) (xs.getD j d)) (fun i j C hi hj hC => ?_) _ (Kwp.mono (fun p hp => ?_) _ (kas_sort_ok (O.ord fun i => xs.getD i d) (by omega)))
      · obtain ⟨v, hv, hr⟩ := hR.get (i := i) (x := xs.getD i d) (by simp [hln ▸ hi])
        obtain ⟨u, hu, hr'⟩ := hR.get (i := j) (x := xs.getD j d) (by simp [hln ▸ hj])
        have e1 : vs.getD i .none = v := by simp [hv]
        have e2 : vs.getD j .none = u := by simp [hu]
        unfold kas_ask
        rw [e1, e2]
        exact ask _ v u _ _ C hN' hr hr' hC
      · obtain ⟨G, ha⟩ := hp
        refine ⟨(l, seqObj "list" #[] e1) :: rest, fun o => (l, o) :: rest, F', N', UpdF.head off, fun h₃ c F₃ N₃ => h _ (p.toList.map fun i => xs.getD i d) h₃ c F₃ N₃ ?_ ?_ ?_⟩
        · refine hR.pickIdx d _ fun i hi => ?_
          rw [← hln]
          obtain ⟨j, hj⟩ := List.getElem?_of_mem hi
          have hjl : j < p.toList.length := (List.getElem?_eq_some_iff.mp hj).1
          have : at0 p j = i := by
            unfold at0
            rw [Array.getD_eq_getD_getElem?, ← Array.getElem?_toList, hj]; rfl
          rw [← this]
          exact G.lt (by rw [← G.size]; simpa using hjl)
        · exact perm_map_getD xs d (hln ▸ G)
        · rw [List.pairwise_iff_getElem]
          intro i j hi hj hij
          simp only [List.length_map, Array.length_toList] at hi hj
          have e := ha i j (Nat.le_of_lt hij) (by rw [← G.size]; exact hj)
          have a1 : at0 p i = p[i] := by simp [at0, Array.getD, hi]
          have a2 : at0 p j = p[j] := by simp [at0, Array.getD, hj]
          rw [a1, a2] at e
          simpa using e
end
end Mine
namespace Mine
/-! defs whose names are caught by a block within -/
section
variable {prog : Program} {w : World} {dp un : Nat} {gd : Option (List Code)} {cn : Str} {cs : Scope} {L a : Addr} {ccd : Value} {cl : List (Str × Addr)} {outer : List Env} {A₀ : Around} {base h₀ : Heap}
  {m : Str → Option Value} {news : Led} {s : Shared} {Q E : Value → Shared → Prop} {K : Frag} {p : Program} {loose : List Str} {mean : ExcName → Option Value} {mg mb : Str → Option Value}
theorem enterC {name qual : Str} {params : Arguments} {body : List Stmt} {scope : Scope} {dV kV doc pm cdv ct oc : Value} {an od : Option Addr} {osl : Array (Option Value)} {f : Addr} {pos : List Value} {kw : List (Str × Value)} {binds : List (Str × Value)} (cls : Addr → List (Str × Addr))
    (B : Below A₀ base outer h₀) (F : Fr h₀ L s.heap m) (X : K.In h₀) (N : News h₀ L s.heap news) (T : Top p loose mean mg mb h₀) (hk : cs.kind = .function)
    (ho : K.lookup f = some ⟨oc, od, .func (fnOf name qual params body scope dV kV doc pm an cdv ct), osl⟩) (hcd : codeIn K cdv qual = true) (hd : dp + 1 ≤ 400)
    (hbind : BindsTo s (fnOf name qual params body scope dV kV doc pm an cdv ct) ⟨pos, kw⟩ binds) (hkind : (binds.all fun y => scope.names.lookup y.1 == some .local || scope.names.lookup y.1 == some .cell) = true)
    (hcls : ∀ L', cellsFrom (L' + 1) scope.names [] = cls L')
    (hnd : ((cellsFrom 0 scope.names []).map (·.1)).Nodup) (hco : scope.isCoroutine = false) (hgen : scope.isGenerator = false) (hk' : scope.kind = .function)
    (h : ∀ g L' h₁ tk cells, Fr g L' h₁ (bindL (envOfC qual scope L' f cdv).kindOf binds fun _ => none) → News g L' h₁ (cells ++ news) → CellsAre (bindC (envOfC qual scope L' f cdv).kindOf binds fun _ => none) (cls L') cells →
      Below (ktrTop dp un gd cn cs L a ccd cl outer) base (envX cn cs L a ccd cl :: outer) g → K.In g → Top p loose mean mg mb g → (∀ q ∈ news, q.1 < L') →
      wpAny (model prog w) (ktrTop (dp + 1) (un + 3) gd qual scope L' f cdv (cls L') (envX cn cs L a ccd cl :: outer)) (execs body (envX qual scope L' f cdv (cls L'))) (Back h₀ L m g Q) (fun _ _ => False) { s with heap := h₁, toks := tk }) :
    wpAny (model prog w) (ktrTop dp un gd cn cs L a ccd cl outer) (call (.ref f) pos kw) Q E s := by
  obtain rfl : (fun L' => cellsFrom (L' + 1) scope.names []) = cls := funext hcls
  refine wpAny_call (callX_cells B F N T.nolimit rfl rfl hk ((X.keeps F.keep) _ _ ho) rfl (codeRec_of (X.keeps F.keep) hcd) (by show dp < recursionLimit; simp only [recursionLimit]; omega) hbind (kindsX hkind) hnd (fun g L' h₁ tk cells FG F' N' Y B' st lt => ?_) hco hgen hk')
  refine wpAny_mono (h g L' h₁ tk cells F' N' Y B' (X.keeps st) (T.keeps st) lt) (fun fl s' hb => ?_) fun _ _ x => x.elim
  obtain ⟨L'', m', news', F'', N'', k⟩ := hb
  exact ⟨L'', m', news', F'', N'', k⟩
end
section
variable {M : Model} {A : Around} {E : Value → Shared → Prop} {s : Shared} {h₀ : Heap} {L a : Addr} {m : Str → Option Value} {cn : Str} {cs : Scope} {ccd : Value} {cl : List (Str × Addr)} {x : Str} {v : Value} {Q : Unit → Shared → Prop} {rest : Led} {c : Addr} {o : Obj} {v₀ : Option Value}
theorem storeC (F : Fr h₀ L s.heap m) (N : News h₀ L s.heap ((c, o) :: rest)) (off : ∀ p ∈ rest, p.1 ≠ c) (hc : cl.lookup x = some c) (hd : o.data = .cell v₀)
    (h : ∀ h' o', Fr h₀ L h' m → News h₀ L h' ((c, o') :: rest) → o'.data = .cell (some v) → Q () { s with heap := h' })
    (hk : cs.kind = .function) (hx : (envX cn cs L a ccd cl).kindOf x = some .cell) : wpAny M A (storeName (envX cn cs L a ccd cl) x v) Q E s :=
  storeX_C F N hc (UpdF.head off) hd h hk hx
theorem stop_cell (hx : (envX cn cs L a ccd cl).kindOf x = some .cell) (h : Stop (wpAny M A (storeName (envX cn cs L a ccd cl) x v) Q E s)) : wpAny M A (storeName (envX cn cs L a ccd cl) x v) Q E s := h
end
/-! orders on plain data -/
structure TotOrd {α : Type} (lt : α → α → Bool) : Prop extends LtOrd lt where
  anti : ∀ a b, lt a b = false → lt b a = false → a = b
theorem ltI_tot : TotOrd (fun x y : Int => decide (x < y)) where
  tr := fun a b d h1 h2 => by simp at *; omega
  as := fun a b h => by simp at *; omega
  irr := fun a => by simp
  anti := fun a b h1 h2 => by simp at *; omega
theorem lexL_tot {α : Type} [DecidableEq α] {lt : α → α → Bool} (O : TotOrd lt) : TotOrd (lexL lt) where
  tr := by
    intro a
    induction a with
    | nil => intro b d _ _; cases d <;> rfl
    | cons x as ih =>
      intro b d h1 h2
      cases b with
      | nil => simp [lexL] at h1
      | cons y bs =>
        cases d with
        | nil => simp [lexL] at h2
        | cons z ds =>
          simp only [lexL] at h1 h2 ⊢
          by_cases hyx : y = x
          · subst hyx
            by_cases hzy : z = y
            · subst hzy; simp only [if_true] at h1 h2 ⊢; exact ih bs ds h1 h2
            · simp only [if_neg hzy] at h2 ⊢; exact h2
          · rw [if_neg hyx] at h1
            by_cases hzy : z = y
            · subst hzy; rw [if_neg hyx]; exact h1
            · rw [if_neg hzy] at h2
              by_cases hzx : z = x
              · subst hzx; exact absurd (O.anti _ _ h1 h2) hyx
              · rw [if_neg hzx]; exact O.tr _ _ _ h1 h2
  as := by
    intro a
    induction a with
    | nil => intro b h; cases b <;> simp [lexL] at h ⊢
    | cons x as ih =>
      intro b h
      cases b with
      | nil => simp [lexL] at h
      | cons y bs =>
        simp only [lexL] at h ⊢
        by_cases hxy : x = y
        · subst hxy; simp only [if_true] at h ⊢; exact ih bs h
        · rw [if_neg hxy] at h; rw [if_neg (Ne.symm hxy)]; exact O.as _ _ h
  irr := by
    intro a
    induction a with
    | nil => rfl
    | cons x as ih => simp only [lexL, if_true]; exact ih
  anti := by
    intro a
    induction a with
    | nil => intro b h1 h2; cases b with | nil => rfl | cons y bs => simp [lexL] at h1
    | cons x as ih =>
      intro b h1 h2
      cases b with
      | nil => simp [lexL] at h2
      | cons y bs =>
        simp only [lexL] at h1 h2
        by_cases hxy : x = y
        · subst hxy; simp only [if_true] at h1 h2; rw [ih bs h1 h2]
        · rw [if_neg hxy] at h1; rw [if_neg (Ne.symm hxy)] at h2; exact absurd (O.anti _ _ h1 h2) hxy
theorem lexP_tot {α β : Type} [DecidableEq α] [DecidableEq β] {la : α → α → Bool} {lb : β → β → Bool} (OA : TotOrd la) (OB : TotOrd lb) : TotOrd (lexP la lb) where
  tr := by
    rintro ⟨a1, a2⟩ ⟨b1, b2⟩ ⟨d1, d2⟩ h1 h2
    simp only [lexP] at h1 h2 ⊢
    by_cases e1 : b1 = a1
    · subst e1
      by_cases e2 : d1 = b1
      · subst e2
        simp only [if_true] at h1 h2 ⊢
        by_cases f1 : d2 = a2
        · rw [if_pos f1]
        · rw [if_neg f1]
          by_cases g1 : b2 = a2
          · subst g1; rw [if_neg f1] at h2; exact h2
          · rw [if_neg g1] at h1
            by_cases g2 : d2 = b2
            · subst g2; exact h1
            · rw [if_neg g2] at h2; exact OB.tr _ _ _ h1 h2
      · simp only [if_neg e2] at h2 ⊢; exact h2
    · rw [if_neg e1] at h1
      by_cases e2 : d1 = b1
      · subst e2; rw [if_neg e1]; exact h1
      · rw [if_neg e2] at h2
        by_cases e3 : d1 = a1
        · subst e3; exact absurd (OA.anti _ _ h1 h2) e1
        · rw [if_neg e3]; exact OA.tr _ _ _ h1 h2
  as := by
    rintro ⟨a1, a2⟩ ⟨b1, b2⟩ h
    simp only [lexP] at h ⊢
    by_cases e1 : a1 = b1
    · subst e1
      simp only [if_true] at h ⊢
      by_cases e2 : a2 = b2
      · subst e2; simp at h
      · rw [if_neg e2] at h; rw [if_neg (Ne.symm e2)]; exact OB.as _ _ h
    · rw [if_neg e1] at h; rw [if_neg (Ne.symm e1)]; exact OA.as _ _ h
  irr := by rintro ⟨a1, a2⟩; simp [lexP]
  anti := by
    rintro ⟨a1, a2⟩ ⟨b1, b2⟩ h1 h2
    simp only [lexP] at h1 h2
    by_cases e1 : a1 = b1
    · subst e1
      simp only [if_true] at h1 h2
      by_cases e2 : a2 = b2
      · rw [e2]
      · rw [if_neg e2] at h1; rw [if_neg (Ne.symm e2)] at h2; rw [OB.anti _ _ h1 h2]
    · rw [if_neg e1] at h1; rw [if_neg (Ne.symm e1)] at h2; exact absurd (OA.anti _ _ h1 h2) e1
/-! a plain sort -/
section
variable {α : Type} {lt : α → α → Bool}
def insF (lt : α → α → Bool) (x : α) : List α → List α
  | [] => [x]
  | y :: ys => if lt y x then y :: insF lt x ys else x :: y :: ys
def isort (lt : α → α → Bool) : List α → List α
  | [] => []
  | x :: xs => insF lt x (isort lt xs)
theorem insF_perm (x : α) : ∀ l : List α, (insF lt x l).Perm (x :: l)
  | [] => List.Perm.refl _
  | y :: ys => by
    simp only [insF]
    split
    · exact ((insF_perm x ys).cons y).trans (List.Perm.swap x y ys)
    · exact List.Perm.refl _
theorem isort_perm : ∀ l : List α, (isort lt l).Perm l
  | [] => List.Perm.refl _
  | x :: xs => (insF_perm x _).trans ((isort_perm xs).cons x)
theorem insF_sorted (O : TotOrd lt) (x : α) : ∀ {l : List α}, l.Pairwise (fun a b => lt b a = false) → (insF lt x l).Pairwise (fun a b => lt b a = false)
  | [], _ => .cons (fun _ h => nomatch h) .nil
  | y :: ys, h => by
    cases h with
    | cons hy hs =>
      simp only [insF]
      split <;> rename_i hc
      · refine .cons (fun z hz => ?_) (insF_sorted O x hs)
        rcases List.mem_cons.mp ((insF_perm x ys).mem_iff.mp hz) with rfl | hz
        · exact O.as _ _ hc
        · exact hy z hz
      · have hc : lt y x = false := by simpa using hc
        refine .cons (fun z hz => ?_) (.cons hy hs)
        rcases List.mem_cons.mp hz with rfl | hz
        · exact hc
        · exact O.tr _ _ _ hc (hy z hz)
theorem isort_sorted (O : TotOrd lt) : ∀ l : List α, (isort lt l).Pairwise (fun a b => lt b a = false)
  | [] => .nil
  | x :: xs => insF_sorted O x (isort_sorted O xs)
theorem sorted_uniq (O : TotOrd lt) : ∀ {a b : List α}, a.Perm b → a.Pairwise (fun a b => lt b a = false) → b.Pairwise (fun a b => lt b a = false) → a = b := by
  intro a
  induction a with
  | nil => intro b h _ _; exact (List.nil_perm.mp h).symm
  | cons x xs ih =>
    intro b h ha hb
    cases b with
    | nil => exact absurd h.length_eq (by simp)
    | cons y ys =>
      cases ha with
      | cons hx hxs =>
        cases hb with
        | cons hy hys =>
          have e : x = y := by
            have m1 := h.mem_iff.mp (List.mem_cons_self (a := x) (l := xs))
            have m2 := h.mem_iff.mpr (List.mem_cons_self (a := y) (l := ys))
            rcases List.mem_cons.mp m1 with e | m1
            · exact e
            · rcases List.mem_cons.mp m2 with e | m2
              · exact e.symm
              · exact O.anti _ _ (hy x m1) (hx y m2)
          subst e
          rw [ih (List.Perm.cons_inv h) hxs hys]
theorem sorted_isort (O : TotOrd lt) {a b : List α} (h : a.Perm b) (ha : a.Pairwise (fun a b => lt b a = false)) : a = isort lt b := sorted_uniq O (h.trans (isort_perm b).symm) ha (isort_sorted O b)
end
end Mine
namespace Mine
theorem offC {c : Addr} {a : Addr × Obj} {l : Led} (h : a.1 ≠ c) (t : ∀ p ∈ l, p.1 ≠ c) : ∀ p ∈ a :: l, p.1 ≠ c := fun p hp => by
  rcases List.mem_cons.mp hp with rfl | hp
  · exact h
  · exact t p hp
theorem offA {c : Addr} {k l : Led} (h : ∀ p ∈ k, p.1 ≠ c) (t : ∀ p ∈ l, p.1 ≠ c) : ∀ p ∈ k ++ l, p.1 ≠ c := fun p hp => by
  rcases List.mem_append.mp hp with hp | hp
  · exact h p hp
  · exact t p hp
theorem offN {c : Addr} : ∀ p ∈ ([] : Led), p.1 ≠ c := fun _ h => nomatch h
section
variable {prog : Program} {w : World} {A : Around} {E : Value → Shared → Prop} {s : Shared} {h₀ : Heap} {L l : Addr} {m : Str → Option Value} {news led : Led} {vs : List Value} {ns : List Int} {Q : Value → Shared → Prop} {n : Nat}
def isI (x : Int) : Value → Bool
  | .int k _ => decide (k = x)
  | _ => false
theorem any_isI {x : Int} (h : RA RI led vs ns) : vs.any (isI x) = decide (x ∈ ns) := by
  induction h with
  | nil => rfl
  | cons h _ ih =>
    obtain ⟨t, rfl⟩ := h
    rename_i k _ _
    simp only [List.any_cons, ih, isI, List.mem_cons]
    by_cases e : k = x
    · subst e; simp
    · have : ¬ x = k := fun h => e h.symm
      simp [e, this]
theorem notInL {x : Int} {t : Tok} (N : News h₀ L s.heap news) (hm : (l, PySem.W.listOf vs.toArray n) ∈ news) (hI : RA RI led vs ns) (h : Q (.bool (!decide (x ∈ ns))) s) :
    wpAny (model prog w) A (compareOp .NotIn (.int x t) (.ref l)) Q E s := by
  refine PySem.SeqAt.notIn_listAt (isI x) (isListOf N hm) (fun y hy => ?_) ?_
  · obtain ⟨i, hi⟩ := List.getElem?_of_mem (show y ∈ vs by simpa using hy)
    obtain ⟨k, _, t', rfl⟩ := hI.get' hi
    have h := PySem.SeqAt.EqAt.int_int (A := A.in1) (s := s) k t' x t
    have e : (k == x) = decide (k = x) := by by_cases h : k = x <;> simp [h]
    rw [e] at h
    exact h
  · have : vs.toArray.any (isI x) = decide (x ∈ ns) := by rw [← any_isI hI]; simp
    rw [this]; exact h
theorem sortedL (F : Fr h₀ L s.heap m) (N : News h₀ L s.heap news) (hm : (l, PySem.W.listOf vs.toArray n) ∈ news) (hI : RA RI led vs ns) (h64 : ns.length < 64)
    (h : ∀ D vs' c h', Fr h₀ L h' m → News h₀ L h' ((D, PySem.W.listOf (List.toArray vs') c) :: news) → (∀ q ∈ news, q.1 < D) → (∀ led', RA RI led' vs' (isort (fun x y : Int => decide (x < y)) ns)) → Q (.ref D) { s with heap := h' }) :
    wpAny (model prog w) A (call (.builtin "sorted") [.ref l]) Q E s := by
  refine kso_sorted F N (isListOf N hm) hI.ints h64 fun D vs' ns' c h' F' N' lt hi _ hp ho _ => h D vs' c h' F' N' lt ?_
  have e : ns' = isort (fun x y : Int => decide (x < y)) ns := sorted_isort ltI_tot hp (ho.imp fun {a b} h => by simpa using h)
  subst e
  exact fun led' => RA.ofInts hi
end
end Mine
namespace Mine
/-! a comprehension with two names over enumerate of a list: what stands in the ledger stays as it is -/
open LCg
section
variable {prog : Program} {w : World} {A : Around} {E : Value → Shared → Prop} {s : Shared} {h₀ : Heap} {L : Addr} {m : Str → Option Value} {env : Env}
/-- what one element's evaluation gives back -/
def EnumEnd (h₀ : Heap) (L : Addr) (m : Str → Option Value) (s : Shared) (led : Led) (P : Value → Prop) (y : Value) (s' : Shared) : Prop :=
  ∃ h' tk, s' = { s with heap := h', toks := tk } ∧ Fr h₀ L h' m ∧ News h₀ L h' led ∧ P y
def EnumTurn (prog : Program) (w : World) (A : Around) (h₀ : Heap) (L : Addr) (m : Str → Option Value) (env : Env) (elt : Expr) (a b : Str) (scope : Scope) (cl : List (Str × Addr)) (s : Shared) (items : Array Value) (news : Led) (PY : Nat → Value → Prop) (e it : Addr) : Prop :=
  ∀ (i : Nat) x (t : Tok) oe oi C oC D m₂ h tk (E' : Value → Shared → Prop) ys, items[i]? = some x → NsObj oC m₂ → m₂ a = some (.int i t) → m₂ b = some x → Fr h₀ L h m → News h₀ L h ((e, oe) :: (it, oi) :: (C, oC) :: (D, lst ys) :: news) →
    wpAny (model prog w) A (eval elt (compEnvC scope cl C env)) (EnumEnd h₀ L m { s with heap := h, toks := tk } ((e, oe) :: (it, oi) :: (C, oC) :: (D, lst ys) :: news) (PY i)) E' { s with heap := h, toks := tk }
theorem enumBlock {elt iter : Expr} {a b : Str} {pa pb tp : Pos} {kk : Nat} {scope : Scope} {cl : List (Str × Addr)} {pos : Pos} {s₂ : Shared} {e it l : Addr} {items : Array Value} {n : Nat} {news : Led} {PY : Nat → Value → Prop} {RR : Value → Addr → Result → Shared → Prop}
    (hh : A.handled = none) (hei : e ≠ it) (hm : (l, PySem.W.listOf items n) ∈ news) (hsz : items.size ≤ sizeLine) (he : IsEnum s₂.heap e it 0 .none) (hit : s₂.heap.IsListIter it l 0)
    (hcell : ∀ y ∈ scope.names, y.2 ≠ .cell) (hkind : scope.kind = .function) (hxa : scope.names.lookup a = some .local) (hxb : scope.names.lookup b = some .local) (hab : ¬ a = b)
    (F : Fr h₀ L s₂.heap m) (N : News h₀ L s₂.heap news) (hLe : L ≠ e) (hLi : L ≠ it) (he₀ : h₀.get? e = none) (hi₀ : h₀.get? it = none) (off : ∀ p ∈ news, p.1 ≠ e ∧ p.1 ≠ it)
    (turn : EnumTurn prog w A h₀ L m env elt a b scope cl s₂ items news PY e it)
    (hRR : ∀ D C h tk m' ys, Fr h₀ L h m → News h₀ L h ((D, lst ys) :: news) → (∀ p ∈ news, p.1 ≠ D) → h.Ns C m' → h₀.get? C = none → C ≠ L → C ≠ D → (∀ p ∈ news, p.1 ≠ C) → ys.length = items.size → (∀ i y, ys[i]? = some y → PY i y) →
      RR (.ref D) C (.ok .next) { s₂ with heap := h, toks := tk }) :
    wpAny (model prog w) A (newList []) (fun acc s₃ => wpAny (model prog w) A (newFunctionEnv scope env.globals cl [] env.qual none .none (some env)) (fun cenv s₄ =>
      codeAny (model prog w) A (.compStart (.ListComp elt [⟨.Tuple [.Name a pa, .Name b pb] kk tp, iter, [], 0⟩] scope pos) 0 (.ref e) acc { cenv with scope := relabel scope env }) (RR acc cenv.locals) s₄) E s₃) E s₂ := by
  refine wpAny_newObj_type (wpAny_newFunctionEnv hcell (by intro y hy; simp at hy) (fun h₁ hns₁ hsb₁ => ?_) hkind)
  dsimp only at hns₁ hsb₁ ⊢
  generalize hH : s₂.heap.push { cls := .type "list", dict := none, data := .seq ([] : List Value).toArray } = H at hns₁ hsb₁ ⊢
  have hsize : H.objs.size = s₂.heap.objs.size + 1 := by rw [← hH, Heap.size_push]
  have hDltC : s₂.heap.objs.size < H.objs.size := by rw [hsize]; exact Nat.lt_succ_self _
  have hDC : s₂.heap.objs.size ≠ H.objs.size := Nat.ne_of_lt hDltC
  have lt : ∀ c o, s₂.heap.get? c = some o → c < s₂.heap.objs.size := fun c o x => Heap.lt_size x
  have up : ∀ c o, s₂.heap.get? c = some o → h₁.get? c = some o := fun c o x => hsb₁.extBut c o (Nat.ne_of_lt (Nat.lt_trans (lt c o x) hDltC)) (Heap.get?_push_of_some _ (hH ▸ Heap.get?_push_of_some _ x))
  have hacc : h₁.get? s₂.heap.objs.size = some (lst []) := hsb₁.extBut _ _ hDC (Heap.get?_push_of_some _ (hH ▸ Heap.get?_push_size _ rfl))
  have hLD : L < s₂.heap.objs.size := F.ns.lt
  have ltF := lt
  clear hsb₁ hH hsize
  generalize s₂.heap.objs.size = D at *
  generalize H.objs.size = C at *
  have neD : ∀ {c : Addr}, c < D → c ≠ D := fun h => Nat.ne_of_lt h
  have neC : ∀ {c : Addr}, c < D → c ≠ C := fun h => Nat.ne_of_lt (Nat.lt_trans h hDltC)
  have nil₀ : ∀ c, D ≤ c → h₀.get? c = none := fun c hc => by
    cases x : h₀.get? c with
    | none => rfl
    | some o => exact absurd (lt c o (F.keep c o x)) (Nat.not_lt.mpr hc)
  have hD₀ := nil₀ D (Nat.le_refl _)
  have hC₀ := nil₀ C (Nat.le_of_lt hDltC)
  have heD : e < D := lt _ _ he
  obtain ⟨oi₀, hoi₀, _⟩ := id hit
  have hiD : it < D := lt _ _ hoi₀
  have newsD : ∀ p ∈ news, p.1 < D := fun p hp => lt _ _ (N p hp).1
  have hle : l ≠ e := (off _ hm).1
  have hli : l ≠ it := (off _ hm).2
  have W := WalksT.enumerate (prog := prog) (w := w) (A := A) hh e it l hei hle hli items
  have loop : ∀ s₃ : Shared, s₃ = { s₂ with heap := h₁, toks := s₂.toks + ([] : List (Str × Value)).length } →
      codeAny (model prog w) A (.compLoop (.ListComp elt [⟨.Tuple [.Name a pa, .Name b pb] kk tp, iter, [], 0⟩] scope pos) 0 (.ref e) (.ref D) (compEnvC scope cl C env)) (RR (.ref D) C) s₃ := by
    rintro s₃ rfl
    refine kcp_loop (fun k s' => ∃ h' tk i ys m', s' = { s₂ with heap := h', toks := tk } ∧ i ≤ items.size ∧ k = items.size + 1 - i ∧ ys.length = i ∧ (∃ old, IsEnum h' e it (i : Nat) old) ∧ h'.IsListIter it l i ∧ Fr h₀ L h' m ∧ h'.Ns C m' ∧
      News h₀ L h' ((D, lst ys) :: news) ∧ ∀ j y, ys[j]? = some y → PY j y) ?_ (items.size + 1)
      ⟨h₁, _, 0, [], _, rfl, Nat.zero_le _, rfl, rfl, ⟨_, up _ _ he⟩, hit.at fun o x => up _ o x, F.keeps up, hns₁, fun p hp => ?_, fun j y x => by simp at x⟩
    · rintro k s' ⟨h', tk, i, ys, m', rfl, hi, rfl, hyl, ⟨old, he'⟩, hit', F', hn', N', hP⟩
      have hlist : h'.IsList l items := ⟨_, (N' _ (.tail _ hm)).1, rfl, n, rfl⟩
      by_cases hlt : i < items.size
      · refine W.item i _ _ _ hlt ⟨⟨old, he'⟩, hit', hlist⟩ fun T vals h₂ tk₂ hPt _ hT hMid hk₂ => ?_
        obtain ⟨t, x, hx, rfl⟩ := hPt
        have hTw := W.apart i T h₂ hMid
        refine W.go _ _ _ i T _ _ _ hMid fun h₃ hst₃ hk₃ => ?_
        have hT₃ : h₃.IsTuple T #[.int i t, x] := hT.at fun o y => hk₃ T o hTw y
        have up₃ : ∀ c o, c ≠ e → c ≠ it → h'.get? c = some o → h₃.get? c = some o := fun c o h1 h2 y => hk₃ c o (by simp [h1, h2]) (hk₂ c o (by simp [h1, h2]) y)
        refine kcp_assign (env := compEnvC scope cl C env) hh hT₃ (lookup_relabel_local hxa) (lookup_relabel_local hxb) (by simp [compEnvC, relabel, hkind]) (hn'.at' fun o y => up₃ _ o ((neC heD).symm) ((neC hiD).symm) y) fun h₄ tk₄ hn₄ hs₄ => ?_
        have up₄ : ∀ c o, c ≠ e → c ≠ it → c ≠ C → h'.get? c = some o → h₄.get? c = some o := fun c o h1 h2 h3 y => hs₄ c o h3 (up₃ c o h1 h2 y)
        obtain ⟨⟨old', he₃⟩, hit₃, _⟩ := hst₃
        obtain ⟨oe, hoe, hoe'⟩ : ∃ oe : Obj, h₄.get? e = some oe ∧ ∀ h : Heap, h.get? e = some oe → ∃ old, IsEnum h e it ((i + 1 : Nat) : Int) old := ⟨_, hs₄ e _ (neC heD) he₃, fun _ y => ⟨_, y⟩⟩
        obtain ⟨oi, hoi, hoi'⟩ := hit₃
        have hoi₄ := hs₄ it _ (neC hiD) hoi
        obtain ⟨oC, heC, hoC⟩ := ns_obj hn₄
        have F₄ : Fr h₀ L h₄ m := ⟨F'.ns.at' fun o y => up₄ _ o hLe hLi (neC hLD) y, fun c o y => up₄ c o (fun q => by rw [q, he₀] at y; cases y) (fun q => by rw [q, hi₀] at y; cases y) (fun q => by rw [q, hC₀] at y; cases y) (F'.keep c o y), F'.above⟩
        have N₄ : News h₀ L h₄ ((e, oe) :: (it, oi) :: (C, oC) :: (D, lst ys) :: news) := fun q hq => by
          rcases List.mem_cons.mp hq with rfl | hq
          · exact ⟨hoe, Ne.symm hLe, he₀⟩
          · rcases List.mem_cons.mp hq with rfl | hq
            · exact ⟨hoi₄, Ne.symm hLi, hi₀⟩
            · rcases List.mem_cons.mp hq with rfl | hq
              · exact ⟨heC, (neC hLD).symm, hC₀⟩
              · have z := N' q hq
                rcases List.mem_cons.mp hq with rfl | hq
                · exact ⟨up₄ _ _ ((neD heD).symm) ((neD hiD).symm) hDC z.1, z.2⟩
                · exact ⟨up₄ _ _ (off q hq).1 (off q hq).2 (neC (newsD q hq)) z.1, z.2⟩
        refine wpAny_mono (turn i x t oe oi C oC D _ h₄ _ _ ys hx hoC (by simp [hab]) (by simp) F₄ N₄) (fun y s₅ h₅ => ?_) fun _ _ z => z
        obtain ⟨h₅, tk₅, rfl, F₅, N₅, hy⟩ := h₅
        have ze := (N₅ _ (.head _)).1
        have zi := (N₅ _ (.tail _ (.head _))).1
        have zC := (N₅ _ (.tail _ (.tail _ (.head _)))).1
        have zD := (N₅ _ (.tail _ (.tail _ (.tail _ (.head _))))).1
        refine append_at (hsz := by show ys.toArray.size ≤ sizeLine; rw [List.size_toArray, hyl]; exact Nat.le_trans hi hsz) zD fun h₆ hs₆ hD₆ => ?_
        refine ⟨items.size + 1 - (i + 1), by omega, h₆, tk₅, i + 1, ys ++ [y], _, rfl, hlt, rfl, by rw [List.length_append, List.length_singleton, hyl], hoe' h₆ (hs₆.extBut e _ (neD heD) ze), ⟨oi, hs₆.extBut it _ (neD hiD) zi, hoi'⟩,
          F₅.change hs₆ ((neD hLD).symm) hD₀, (hoC.ns zC).sameBut hs₆ (Ne.symm hDC), fun q hq => ?_, fun j z hz => ?_⟩
        · rcases List.mem_cons.mp hq with rfl | hq
          · exact ⟨hD₆.trans (congrArg some (lst_snoc ys y)), (neD hLD).symm, hD₀⟩
          · have z := N₅ q (.tail _ (.tail _ (.tail _ (.tail _ hq))))
            exact ⟨hs₆.extBut _ _ (neD (newsD q hq)) z.1, z.2⟩
        · by_cases hj : j < ys.length
          · rw [List.getElem?_append_left hj] at hz; exact hP j z hz
          · have : j = ys.length := by
              have := (List.getElem?_eq_some_iff.mp hz).1
              rw [List.length_append, List.length_singleton] at this
              omega
            subst this
            rw [List.getElem?_concat_length] at hz
            cases hz
            rw [hyl]; exact hy
      · have hin : i = items.size := Nat.le_antisymm hi (Nat.not_lt.mp hlt)
        subst hin
        refine W.done _ _ _ ⟨⟨old, he'⟩, hit', hlist⟩ fun h₂ tk₂ hk₂ => ?_
        have up₂ : ∀ c o, c ≠ e → c ≠ it → h'.get? c = some o → h₂.get? c = some o := fun c o h1 h2 y => hk₂ c o (by simp [h1, h2]) y
        refine hRR D C h₂ tk₂ m' ys ⟨F'.ns.at' fun o y => up₂ _ o hLe hLi y, fun c o y => up₂ c o (fun q => by rw [q, he₀] at y; cases y) (fun q => by rw [q, hi₀] at y; cases y) (F'.keep c o y), F'.above⟩ (fun q hq => ?_) (fun p hp => Nat.ne_of_lt (newsD p hp))
          (hn'.at' fun o y => up₂ _ o ((neC heD).symm) ((neC hiD).symm) y) hC₀ ((neC hLD).symm) (Ne.symm hDC) (fun p hp => neC (newsD p hp)) hyl hP
        have z := N' q hq
        rcases List.mem_cons.mp hq with rfl | hq
        · exact ⟨up₂ _ _ ((neD heD).symm) ((neD hiD).symm) z.1, z.2⟩
        · exact ⟨up₂ _ _ (off q hq).1 (off q hq).2 z.1, z.2⟩
    · rcases List.mem_cons.mp hp with rfl | hp
      · exact ⟨hacc, (neD hLD).symm, hD₀⟩
      · exact ⟨up _ _ (N p hp).1, (N p hp).2⟩
  exact codeAny_compStart_list (loop _ rfl) (W.self 0 _ _ _ ⟨⟨_, up _ _ he⟩, hit.at fun o x => up _ o x, ⟨_, ((N.grown up) _ hm).1, rfl, n, rfl⟩⟩ (loop _ rfl))
end
end Mine
namespace Mine
open LCg
section
variable {prog : Program} {w : World} {A : Around} {E : Value → Shared → Prop} {s : Shared} {h₀ : Heap} {L : Addr} {m : Str → Option Value} {env : Env}
def EnumFin (h₀ : Heap) (L : Addr) (m : Str → Option Value) (s : Shared) (y : Str) (Q : Flow → Shared → Prop) (items : Array Value) (news : Led) (PY : Nat → Value → Prop) : Prop :=
  ∀ D ys h tk, Fr h₀ L h (fun z => if z = y then some (.ref D) else m z) → News h₀ L h ((D, lst ys) :: news) → (∀ p ∈ news, p.1 ≠ D) → ys.length = items.size → (∀ i v, ys[i]? = some v → PY i v) → Q .next { s with heap := h, toks := tk }
def EnumSrc (prog : Program) (w : World) (A : Around) (h₀ : Heap) (L : Addr) (m : Str → Option Value) (env : Env) (elt : Expr) (a b : Str) (scope : Scope) (cl : List (Str × Addr)) (y : Str) (Q : Flow → Shared → Prop) (xv : Value) (s₁ : Shared) : Prop :=
  ∃ (e it l : Addr) (items : Array Value) (n : Nat) (news : Led) (PY : Nat → Value → Prop), xv = .ref e ∧ A.handled = none ∧ e ≠ it ∧ (l, PySem.W.listOf items n) ∈ news ∧ items.size ≤ sizeLine ∧ IsEnum s₁.heap e it 0 .none ∧ s₁.heap.IsListIter it l 0 ∧
    Fr h₀ L s₁.heap m ∧ News h₀ L s₁.heap news ∧ L ≠ e ∧ L ≠ it ∧ h₀.get? e = none ∧ h₀.get? it = none ∧ (∀ p ∈ news, p.1 ≠ e ∧ p.1 ≠ it) ∧
    EnumTurn prog w A h₀ L m env elt a b scope cl s₁ items news PY e it ∧ EnumFin h₀ L m s₁ y Q items news PY
theorem enumCall {elt : Expr} {a b : Str} {scope : Scope} {cl : List (Str × Addr)} {y : Str} {Q : Flow → Shared → Prop} {l : Addr} {vs : List Value} {n : Nat} {news : Led} (PY : Nat → Value → Prop)
    (hh : A.handled = none) (F : Fr h₀ L s.heap m) (N : News h₀ L s.heap news) (hm : (l, PySem.W.listOf vs.toArray n) ∈ news) (hsz : vs.length ≤ 1000)
    (turn : ∀ e it, EnumTurn prog w A h₀ L m env elt a b scope cl s vs.toArray news PY e it) (fin : EnumFin h₀ L m s y Q vs.toArray news PY) :
    wpAny (model prog w) A (call (.type "enumerate") [.ref l]) (EnumSrc prog w A h₀ L m env elt a b scope cl y Q) E s := by
  refine call_enumerate_list (isListOf N hm) fun h' he hit _ hk => ?_
  have hl0 : L < s.heap.objs.size := F.ns.lt
  have lt : ∀ p ∈ news, p.1 < s.heap.objs.size := fun p hp => Heap.lt_size (N p hp).1
  have nil₀ : ∀ c, s.heap.objs.size ≤ c → h₀.get? c = none := fun c hc => by
    cases x : h₀.get? c with
    | none => rfl
    | some o => exact absurd (Heap.lt_size (F.keep c o x)) (Nat.not_lt.mpr hc)
  exact ⟨s.heap.objs.size + 1, s.heap.objs.size, l, vs.toArray, n, news, PY, rfl, hh, Nat.succ_ne_self _, hm, by rw [List.size_toArray, sizeLine_eq]; omega, he, hit, F.keeps hk, N.grown hk, Nat.ne_of_lt (Nat.lt_succ_of_lt hl0), Nat.ne_of_lt hl0, nil₀ _ (Nat.le_succ _), nil₀ _ (Nat.le_refl _),
    fun p hp => ⟨Nat.ne_of_lt (Nat.lt_succ_of_lt (lt p hp)), Nat.ne_of_lt (lt p hp)⟩, turn _ _, fin⟩
theorem enumAssign {elt iter : Expr} {x x₂ y : Str} {px px₂ tp py : Pos} {tk} {scope : Scope} {cl : List (Str × Addr)} {pos spos : Pos} {Q : Flow → Shared → Prop} (hLe : env.locals = L)
    (hsw : swapsWith (.ListComp elt [⟨.Tuple [.Name x px, .Name x₂ px₂] tk tp, iter, [], 0⟩] scope pos) (some (.Name y py)) spos.line env = pure true)
    (hclos : closureFor scope env = pure cl) (hcell : ∀ z ∈ scope.names, z.2 ≠ .cell) (hkind : scope.kind = .function)
    (hnames : ∀ z ∈ scope.names, z.2 = .local → scope.names.lookup z.1 = some .local) (hx : scope.names.lookup x = some .local) (hx₂ : scope.names.lookup x₂ = some .local) (hxx : ¬ x = x₂)
    (hy : env.kindOf y = some .local) (hp : (env.scope.kind == .class || (env.scope.kind == .module && env.locals != env.globals)) = false)
    (h : wpAny (model prog w) A (eval iter env) (EnumSrc prog w A h₀ L m env elt x x₂ scope cl y Q) E s)
    (hs : ∀ x, foldedSetIterable iter env x = pure x := by intro _; rfl) :
    wpAny (model prog w) A (exec (.Assign [.Name y py] (.ListComp elt [⟨.Tuple [.Name x px, .Name x₂ px₂] tk tp, iter, [], 0⟩] scope pos) spos) env) Q E s := by
  subst hLe
  rw [exec_Assign_Name_used _ _ _ _ hsw]
  refine wpAny_bind (wpAny_standAt (wpAny_bind ?_))
  show wpAny _ A (do let _ ← comprehension (.ListComp elt [⟨.Tuple [.Name x px, .Name x₂ px₂] tk tp, iter, [], 0⟩] scope pos) scope env _ (newList []) false (eval iter env) (some (assign (.Name y py) env))) _ _ s
  refine wpAny_bind (wpAny_mono (wpAny_comprehension_free (use := some (assign (.Name y py) env)) (Q := fun _ s' => Q .next s') rfl hs hclos hkind hnames
    (wpAny_mono h (fun xv s₁ h₁ => ?_) fun _ _ e => e)) (fun _ s' hq => wpAny_pure (wpAny_pure hq)) fun _ _ e => e)
  obtain ⟨e, it, l, items, n, news, PY, rfl, hh, hei, hm, hsz, he, hit, F, N, hLe, hLi, he₀, hi₀, off, turn, fin⟩ := h₁
  refine wpAny_pyIter_enum he ?_
  refine enumBlock hh hei hm hsz he hit hcell hkind hx hx₂ hxx F N hLe hLi he₀ hi₀ off turn ?_
  intro D C h' tk m' ys F' N' oD hn hC₀ hCL hCD offC hlen hP
  show wpAny _ A (assign (.Name y py) env (.ref D)) _ _ _
  refine wpAny_assign_Name (wpAny_storeName_local hy F'.ns (fun h₂ hn₂ hs₂ => ?_) hp)
  have hL₀ : h₀.get? env.locals = none := Heap.get?_none_of_le F'.above
  have F₂ : Fr h₀ env.locals h₂ (fun z => if z = y then some (.ref D) else m z) := F'.set hn₂ hs₂
  refine ⟨m', hn.sameBut hs₂ hCL, fun h'' hs'' => fin D ys h'' _ (F₂.change hs'' hCL hC₀) (fun p hp => ?_) oD hlen hP⟩
  have z := (N'.set hs₂) p hp
  refine ⟨hs''.extBut _ _ ?_ z.1, z.2⟩
  rcases List.mem_cons.mp hp with rfl | hp
  · exact Ne.symm hCD
  · exact offC p hp
end
section
/-! slices with a step and sums: what they give is a number -/
variable {prog : Program} {w : World} {A : Around} {E : Value → Shared → Prop} {s : Shared} {h₀ : Heap} {L : Addr} {m : Str → Option Value} {news : Led}
theorem RA.ofMem {led : Led} {vs : List Value} {ns : List Int} (h : RA RI led vs ns) : ∀ zs : List Value, (∀ z ∈ zs, z ∈ vs) → ∃ zn, ∀ led', RA RI led' zs zn
  | [], _ => ⟨[], fun _ => .nil⟩
  | z :: zs, hz => by
    obtain ⟨i, hi⟩ := List.getElem?_of_mem (hz z (.head _))
    obtain ⟨k, _, t, rfl⟩ := h.get' hi
    obtain ⟨zn, hn⟩ := RA.ofMem h zs fun y hy => hz y (.tail _ hy)
    exact ⟨k :: zn, fun led' => .cons ⟨t, rfl⟩ (hn led')⟩
theorem slice3L {value slice : PySem.Expr} {l : Addr} {led : Led} {vs : List Value} {ns : List Int} {vl vu vk : Value} {lo hi st : Option Int} {ops : List Value} {Q : Value → Shared → Prop} (F : Fr h₀ L s.heap m) (N : News h₀ L s.heap news) (hl : s.heap.IsList l vs.toArray) (hI : RA RI led vs ns)
    (pl : IsPart vl lo) (pu : IsPart vu hi) (pk : IsPart vk st) (h0 : st ≠ some 0) (hz : vs.length ≤ 2000)
    (h : ∀ D zs zn h', Fr h₀ L h' m → News h₀ L h' ((D, PySem.W.listOf (List.toArray zs) 0) :: news) → (∀ p ∈ news, p.1 < D) → (∀ led', RA RI led' zs zn) → Q (.ref D) { s with heap := h' })
    (hs : subscripted slice false (.ref l) (.ref s.heap.objs.size) = operate ops (getItem (.ref l) (.ref s.heap.objs.size))) (ht : ∀ r, letTemporaryGo value (.ref l) r = pure ()) :
    wpAny (model prog w) A (subscriptTail value slice (.ref l) (.ref s.heap.objs.size)) Q E { s with heap := s.heap.push { cls := .type "slice", data := .fields #[vl, vu, vk] } } := by
  obtain ⟨zn, hn⟩ := RA.ofMem hI (slicePick vs.toArray lo hi st).toList (fun z hz => by
    unfold slicePick at hz
    obtain ⟨i, _, hi⟩ := List.mem_filterMap.mp (by simpa using hz)
    exact List.mem_of_getElem? (by simpa using hi))
  exact kmk_slice3_lit F N hl pl pu pk h0 rfl (fun D h' F' N' lt => h D _ zn h' F' N' lt hn) hs ht (by rw [List.size_toArray, sizeLine_eq]; omega)
theorem sumL {l : Addr} {led : Led} {vs : List Value} {n : Nat} {ns : List Int} {Q : Value → Shared → Prop} (F : Fr h₀ L s.heap m) (N : News h₀ L s.heap news) (hh : A.handled = none) (hm : (l, PySem.W.listOf vs.toArray n) ∈ news) (hI : RA RI led vs ns)
    (h : ∀ h' tk t', Fr h₀ L h' m → News h₀ L h' news → Q (.int ns.sum t') { s with heap := h', toks := tk }) : wpAny (model prog w) A (call (.builtin "sum") [.ref l]) Q E s :=
  PyProof.Rows.LSm.sum_ints F N hh (isListOf N hm) hI.ints h
def stmtsOf : FuncBody → List Stmt
  | .stmts b => b
  | _ => []
theorem body_of {K : Frag} {f : Addr} {oc : Value} {od : Option Addr} {osl : Array (Option Value)} {fd : FuncData} (ho : K.lookup f = some ⟨oc, od, .func fd, osl⟩) {P : FuncData → Prop} (h : P fd) : P (fdAt K f) := by
  have e : fdAt K f = fd := by unfold fdAt; rw [ho]
  rw [e]; exact h
theorem body_to {K : Frag} {f : Addr} {oc : Value} {od : Option Addr} {osl : Array (Option Value)} {fd : FuncData} (ho : K.lookup f = some ⟨oc, od, .func fd, osl⟩) {P : FuncData → Prop} (h : P (fdAt K f)) : P fd := by
  have e : fdAt K f = fd := by unfold fdAt; rw [ho]
  rw [← e]; exact h
end
end Mine
namespace Mine
set_option maxRecDepth 100000 in
set_option maxHeartbeats 8000000 in
open_top top for PySem.Challenge.rw_pe0007_02
end Mine
namespace Mine
def JI (p : Nat → Bool) (ns : List Int) (l : Addr) (x : Int) (tx : Tok) (news : Led) (k : Nat) (m₁ : Str → Option Value) (n₁ : Led) : Prop :=
  ∃ (lo' hi' : Nat) (t1 t2 : Tok), k = hi' - lo' ∧ hi' ≤ ns.length ∧ bisect p 0 ns.length = bisect p lo' hi' ∧
    m₁ (Str.ofString "a") = some (.ref l) ∧ m₁ (Str.ofString "x") = some (.int x tx) ∧ m₁ (Str.ofString "lo") = some (.int (lo' : Int) t1) ∧ m₁ (Str.ofString "hi") = some (.int (hi' : Int) t2) ∧ n₁ = news
def JK (p : Nat → Bool) (vs : List Value) (l q : Addr) (x : Int) (tx : Tok) (G : List Value → Led) (tr : List Value) (lo hi : Nat) (k : Nat) (m₁ : Str → Option Value) (n₁ : Led) : Prop :=
  ∃ (lo' hi' : Nat) (t1 t2 : Tok) (tr' : List Value), k = hi' - lo' ∧ hi' ≤ vs.length ∧ bisect p lo hi = bisect p lo' hi' ∧ tr ++ btrace p vs lo hi = tr' ++ btrace p vs lo' hi' ∧
    m₁ (Str.ofString "a") = some (.ref l) ∧ m₁ (Str.ofString "x") = some (.int x tx) ∧ m₁ (Str.ofString "lo") = some (.int (lo' : Int) t1) ∧ m₁ (Str.ofString "hi") = some (.int (hi' : Int) t2) ∧ m₁ (Str.ofString "key") = some (.ref q) ∧ n₁ = G tr'
theorem bisect_le (p : Nat → Bool) : ∀ (lo hi : Nat), lo ≤ hi → bisect p lo hi ≤ hi := by
  have : ∀ (f lo hi : Nat), lo ≤ hi → bis p f lo hi ≤ hi := by
    intro f
    induction f with
    | zero => intro lo hi h; exact h
    | succ f ih =>
      intro lo hi h
      simp only [bis]
      split
      · split
        · exact ih _ _ (by omega)
        · exact Nat.le_trans (ih _ _ (by omega)) (by omega)
      · exact h
  exact fun lo hi h => this _ lo hi h
section
variable {w : World} {s : Shared}
set_option maxRecDepth 100000
theorem bd2_50 (X : (top.heap_39 w.params).In s.heap) (a x : Value) : BindsTo s (fdAt (top.heap_39 w.params) 50) ⟨[a, x], []⟩ [(Str.ofString "a", a), (Str.ofString "x", x), (Str.ofString "lo", .int 0 229), (Str.ofString "hi", .none), (Str.ofString "key", .none)] := kp_binds X (fun _ => by kernel_rfl)
theorem bd4_50 (X : (top.heap_39 w.params).In s.heap) (a x lo hi : Value) : BindsTo s (fdAt (top.heap_39 w.params) 50) ⟨[a, x, lo, hi], []⟩ [(Str.ofString "a", a), (Str.ofString "x", x), (Str.ofString "lo", lo), (Str.ofString "hi", hi), (Str.ofString "key", .none)] := kp_binds X (fun _ => by kernel_rfl)
theorem bd2k_50 (X : (top.heap_39 w.params).In s.heap) (a x k : Value) : BindsTo s (fdAt (top.heap_39 w.params) 50) ⟨[a, x], [(Str.ofString "key", k)]⟩ [(Str.ofString "a", a), (Str.ofString "x", x), (Str.ofString "lo", .int 0 229), (Str.ofString "hi", .none), (Str.ofString "key", k)] := kp_binds X (fun _ => by kernel_rfl)
theorem bd4k_50 (X : (top.heap_39 w.params).In s.heap) (a x lo hi k : Value) : BindsTo s (fdAt (top.heap_39 w.params) 50) ⟨[a, x, lo, hi], [(Str.ofString "key", k)]⟩ [(Str.ofString "a", a), (Str.ofString "x", x), (Str.ofString "lo", lo), (Str.ofString "hi", hi), (Str.ofString "key", k)] := kp_binds X (fun _ => by kernel_rfl)
theorem bd2_32 (X : (top.heap_39 w.params).In s.heap) (a x : Value) : BindsTo s (fdAt (top.heap_39 w.params) 32) ⟨[a, x], []⟩ [(Str.ofString "a", a), (Str.ofString "x", x), (Str.ofString "lo", .int 0 202), (Str.ofString "hi", .none), (Str.ofString "key", .none)] := kp_binds X (fun _ => by kernel_rfl)
theorem bd4_32 (X : (top.heap_39 w.params).In s.heap) (a x lo hi : Value) : BindsTo s (fdAt (top.heap_39 w.params) 32) ⟨[a, x, lo, hi], []⟩ [(Str.ofString "a", a), (Str.ofString "x", x), (Str.ofString "lo", lo), (Str.ofString "hi", hi), (Str.ofString "key", .none)] := kp_binds X (fun _ => by kernel_rfl)
theorem bd2k_32 (X : (top.heap_39 w.params).In s.heap) (a x k : Value) : BindsTo s (fdAt (top.heap_39 w.params) 32) ⟨[a, x], [(Str.ofString "key", k)]⟩ [(Str.ofString "a", a), (Str.ofString "x", x), (Str.ofString "lo", .int 0 202), (Str.ofString "hi", .none), (Str.ofString "key", k)] := kp_binds X (fun _ => by kernel_rfl)
theorem bd4k_32 (X : (top.heap_39 w.params).In s.heap) (a x lo hi k : Value) : BindsTo s (fdAt (top.heap_39 w.params) 32) ⟨[a, x, lo, hi], [(Str.ofString "key", k)]⟩ [(Str.ofString "a", a), (Str.ofString "x", x), (Str.ofString "lo", lo), (Str.ofString "hi", hi), (Str.ofString "key", k)] := kp_binds X (fun _ => by kernel_rfl)
theorem bd2_41 (X : (top.heap_39 w.params).In s.heap) (a x : Value) : BindsTo s (fdAt (top.heap_39 w.params) 41) ⟨[a, x], []⟩ [(Str.ofString "a", a), (Str.ofString "x", x), (Str.ofString "lo", .int 0 216), (Str.ofString "hi", .none), (Str.ofString "key", .none)] := kp_binds X (fun _ => by kernel_rfl)
theorem bd2k_41 (X : (top.heap_39 w.params).In s.heap) (a x k : Value) : BindsTo s (fdAt (top.heap_39 w.params) 41) ⟨[a, x], [(Str.ofString "key", k)]⟩ [(Str.ofString "a", a), (Str.ofString "x", x), (Str.ofString "lo", .int 0 216), (Str.ofString "hi", .none), (Str.ofString "key", k)] := kp_binds X (fun _ => by kernel_rfl)
theorem bd2_23 (X : (top.heap_39 w.params).In s.heap) (a x : Value) : BindsTo s (fdAt (top.heap_39 w.params) 23) ⟨[a, x], []⟩ [(Str.ofString "a", a), (Str.ofString "x", x), (Str.ofString "lo", .int 0 189), (Str.ofString "hi", .none), (Str.ofString "key", .none)] := kp_binds X (fun _ => by kernel_rfl)
theorem bd2k_23 (X : (top.heap_39 w.params).In s.heap) (a x k : Value) : BindsTo s (fdAt (top.heap_39 w.params) 23) ⟨[a, x], [(Str.ofString "key", k)]⟩ [(Str.ofString "a", a), (Str.ofString "x", x), (Str.ofString "lo", .int 0 189), (Str.ofString "hi", .none), (Str.ofString "key", k)] := kp_binds X (fun _ => by kernel_rfl)
end
abbrev ltI : Int → Int → Bool := fun x y => decide (x < y)
def JK2 (p : Nat → Bool) (vs : List Value) (l q : Addr) (xv : Value) (news : Led) (k : Nat) (m₁ : Str → Option Value) (n₁ : Led) : Prop :=
  ∃ (lo' hi' : Nat) (t1 t2 : Tok), k = hi' - lo' ∧ hi' ≤ vs.length ∧ bisect p 0 vs.length = bisect p lo' hi' ∧
    m₁ (Str.ofString "a") = some (.ref l) ∧ m₁ (Str.ofString "x") = some xv ∧ m₁ (Str.ofString "lo") = some (.int (lo' : Int) t1) ∧ m₁ (Str.ofString "hi") = some (.int (hi' : Int) t2) ∧ m₁ (Str.ofString "key") = some (.ref q) ∧ n₁ = news
local macro_rules | `(tactic| tb_start) => `(tactic| repeat (first | assumption | exact rfl | exact upd_eq | refine upd_ne (by decide) ?_))
local macro_rules | `(tactic| walk_at "eval Name") => `(tactic| (k_dflt (refine' nameX_L ?k1 ?k2 ?_ ?k4 ?k5; (case k4 => exact rfl); (case k5 => exact rfl); (case k1 => k_asm); (case k2 => tb_start))))
local macro_rules | `(tactic| walk_at "execs cons") => `(tactic| ((with_reducible show wpAny _ _ (execs (Stmt.While _ _ _ _ :: _) _) _ _ _); refine execs_stop ?_))
local macro_rules | `(tactic| walk_at "execs cons") => `(tactic| ((with_reducible show wpAny _ _ (execs (Stmt.For _ _ _ _ _ :: _) _) _ _ _); refine execs_stop ?_))
local macro_rules | `(tactic| walk_at "call ref") => `(tactic| ((with_reducible show wpAny _ _ (call (Value.ref _) _ _) _ _ _); refine Stop.at ?_))
local macro_rules | `(tactic| walk_at "call builtin:list.insert") => `(tactic| (refine Stop.at ?_))
local macro_rules | `(tactic| walk_at "call builtin:len") => `(tactic| ((with_reducible show wpAny _ _ (call (Value.builtin _) [Value.ref _]) _ _ _); refine lenL (by k_asm) (by assumption) (by omega) ?_))
local macro_rules | `(tactic| walk_at "callWith ref") => `(tactic| (first | refine callWith_F (KeyOK.fn (by assumption) _ _ _ _ (Frag.In.keeps (by assumption) (Fr.keep (by k_asm))) (by k_asm)) ?_ | refine callWith_F (KeyOK.fn (by assumption) [] _ _ _ (Frag.In.keeps (by assumption) (Fr.keep (by k_asm))) (by k_asm)) ?_))
local macro_rules | `(tactic| walk_at "And") => `(tactic| (first | refine ⟨KeyOK.fn (by assumption) _ _ _ _ (Frag.In.keeps (by assumption) (Fr.keep (by k_asm))) (by k_asm), ?_⟩ | refine ⟨KeyOK.fn (by assumption) [] _ _ _ (Frag.In.keeps (by assumption) (Fr.keep (by k_asm))) (by k_asm), ?_⟩))
local macro_rules | `(tactic| walk_at "compareOp Lt ref") => `(tactic| (refine Stop.at ?_))
local macro_rules | `(tactic| k_mem) => `(tactic| assumption)
local macro_rules | `(tactic| ktr_unf) => `(tactic| repeat' (first | (k_unfold; (try dsimp only)) | walk1 | (dsimp only; walk1)))
section
variable {w : World} {dp un : Nat} {gd : Option (List Code)} {cn : Str} {cs : Scope} {L a : Addr} {ccd : Value} {cl : List (Str × Addr)} {outer : List Env} {A₀ : Around} {base h₀ : Heap}
  {m : Str → Option Value} {news : Led} {s : Shared} {Q E : Value → Shared → Prop} {p : Program} {loose : List Str} {mean : ExcName → Option Value} {mg mb : Str → Option Value}
set_option maxRecDepth 100000 in
set_option maxHeartbeats 8000000 in
theorem bl_ints {l : Addr} {vs : List Value} {n : Nat} {ns : List Int} {x : Int} {tx tl : Tok} {pos : List Value} {kw : List (Str × Value)}
    (B : Below A₀ base outer h₀) (F : Fr h₀ L s.heap m) (X : (top.heap_39 w.params).In h₀) (N : News h₀ L s.heap news) (T : Top p loose mean mg mb h₀) (hk : cs.kind = .function)
    (hl : (l, PySem.W.listOf vs.toArray n) ∈ news) (hI : IntsAre vs ns) (hlen : ns.length ≤ 1000) (hdp : dp + 1 ≤ 400)
    (hb : BindsTo s (fdAt (top.heap_39 w.params) 50) ⟨pos, kw⟩ [(Str.ofString "a", .ref l), (Str.ofString "x", .int x tx), (Str.ofString "lo", .int 0 tl), (Str.ofString "hi", .none), (Str.ofString "key", .none)])
    (ret : ∀ t h' tk', Fr h₀ L h' m → News h₀ L h' news → Q (.int (bisect (fun i => decide (ns.getD i 0 < x)) 0 ns.length : Nat) t) { s with heap := h', toks := tk' }) :
    wpAny (model PySem.Challenge.rw_pe0007_02.row.prog w) (ktrTop dp un gd cn cs L a ccd cl outer) (call (.ref 50) pos kw) Q E s := by
  (have X' := X; revert X'; k_fill; intro _)
  k_dflt (refine' enter (binds := [(Str.ofString "a", .ref l), (Str.ofString "x", .int x tx), (Str.ofString "lo", .int 0 tl), (Str.ofString "hi", .none), (Str.ofString "key", .none)]) B F X N T hk ?ho ?hcd hdp ?hb ?hl ?hc ?co ?ge ?hk ?_; (case ho => k_is); (case hcd => k_is); (case hb => exact hb); (case hl => exact locs rfl); (case hc => decide); (case co => rfl); (case ge => rfl); (case hk => rfl))
  clear hb B F X N T hk
  intro g L' h₁ F' N' B' X' T' lt'
  k_fold
  have hln := hI.length
  ktr_unf
  refine Stop.go ?_
  refine While_inv (JI (fun i => decide (ns.getD i 0 < x)) ns l x tx news) (by k_asm) (by k_asm) ⟨0, vs.length, tl, _, rfl, by omega, by rw [hln], rfl, rfl, rfl, rfl, rfl⟩ ?_ PassesOwn.never
  rintro k m₁ n₁ h₂ tk₂ F₂ N₂ ⟨lo', hi', t1, t2, rfl, hle, heq, e1, e2, e3, e4, hn⟩
  subst hn
  ktr_unf
  all_goals (try simp only [mid_eq, Int.toNat_natCast] at *)
  · exact WhileStep.intro (by k_asm) (by k_asm) (by omega) ⟨(lo' + hi') / 2 + 1, hi', _, t2, rfl, hle, heq.trans (bisect_up (by omega) (decide_eq_true (by assumption))), by tb_start, by tb_start, by tb_start, by tb_start, rfl⟩
  · exact WhileStep.intro (by k_asm) (by k_asm) (by omega) ⟨lo', (lo' + hi') / 2, t1, _, rfl, by omega, heq.trans (bisect_down (by omega) (decide_eq_false (by omega))), by tb_start, by tb_start, by tb_start, by tb_start, rfl⟩
  · rw [bisect_ge (lo := lo') (by omega)] at heq
    exact Back.mk F₂ N₂ (heq ▸ ret _ _ _)
set_option maxRecDepth 100000 in
set_option maxHeartbeats 8000000 in
theorem br_ints {l : Addr} {vs : List Value} {n : Nat} {ns : List Int} {x : Int} {tx tl : Tok} {pos : List Value} {kw : List (Str × Value)}
    (B : Below A₀ base outer h₀) (F : Fr h₀ L s.heap m) (X : (top.heap_39 w.params).In h₀) (N : News h₀ L s.heap news) (T : Top p loose mean mg mb h₀) (hk : cs.kind = .function)
    (hl : (l, PySem.W.listOf vs.toArray n) ∈ news) (hI : IntsAre vs ns) (hlen : ns.length ≤ 1000) (hdp : dp + 1 ≤ 400)
    (hb : BindsTo s (fdAt (top.heap_39 w.params) 32) ⟨pos, kw⟩ [(Str.ofString "a", .ref l), (Str.ofString "x", .int x tx), (Str.ofString "lo", .int 0 tl), (Str.ofString "hi", .none), (Str.ofString "key", .none)])
    (ret : ∀ t h' tk', Fr h₀ L h' m → News h₀ L h' news → Q (.int (bisect (fun i => !decide (x < ns.getD i 0)) 0 ns.length : Nat) t) { s with heap := h', toks := tk' }) :
    wpAny (model PySem.Challenge.rw_pe0007_02.row.prog w) (ktrTop dp un gd cn cs L a ccd cl outer) (call (.ref 32) pos kw) Q E s := by
  (have X' := X; revert X'; k_fill; intro _)
  k_dflt (refine' enter (binds := [(Str.ofString "a", .ref l), (Str.ofString "x", .int x tx), (Str.ofString "lo", .int 0 tl), (Str.ofString "hi", .none), (Str.ofString "key", .none)]) B F X N T hk ?ho ?hcd hdp ?hb ?hl ?hc ?co ?ge ?hk ?_; (case ho => k_is); (case hcd => k_is); (case hb => exact hb); (case hl => exact locs rfl); (case hc => decide); (case co => rfl); (case ge => rfl); (case hk => rfl))
  clear hb B F X N T hk
  intro g L' h₁ F' N' B' X' T' lt'
  k_fold
  have hln := hI.length
  ktr_unf
  refine Stop.go ?_
  refine While_inv (JI (fun i => !decide (x < ns.getD i 0)) ns l x tx news) (by k_asm) (by k_asm) ⟨0, vs.length, tl, _, rfl, by omega, by rw [hln], rfl, rfl, rfl, rfl, rfl⟩ ?_ PassesOwn.never
  rintro k m₁ n₁ h₂ tk₂ F₂ N₂ ⟨lo', hi', t1, t2, rfl, hle, heq, e1, e2, e3, e4, hn⟩
  subst hn
  ktr_unf
  all_goals (try simp only [mid_eq, Int.toNat_natCast] at *)
  · exact WhileStep.intro (by k_asm) (by k_asm) (by omega) ⟨lo', (lo' + hi') / 2, t1, _, rfl, by omega, heq.trans (bisect_down (by omega) (by rw [decide_eq_true (by assumption)]; rfl)), by tb_start, by tb_start, by tb_start, by tb_start, rfl⟩
  · exact WhileStep.intro (by k_asm) (by k_asm) (by omega) ⟨(lo' + hi') / 2 + 1, hi', _, t2, rfl, hle, heq.trans (bisect_up (by omega) (by rw [decide_eq_false (by omega)]; rfl)), by tb_start, by tb_start, by tb_start, by tb_start, rfl⟩
  · rw [bisect_ge (lo := lo') (by omega)] at heq
    exact Back.mk F₂ N₂ (heq ▸ ret _ _ _)
set_option maxRecDepth 100000 in
set_option maxHeartbeats 8000000 in
theorem bl_key {l q : Addr} {vs : List Value} {n : Nat} {ks : List (List Int)} {xs : List Int} {xv : Value} {tl : Tok} {pos : List Value} {kw : List (Str × Value)}
    (B : Below A₀ base outer h₀) (F : Fr h₀ L s.heap m) (X : (top.heap_39 w.params).In h₀) (N : News h₀ L s.heap news) (T : Top p loose mean mg mb h₀) (hk : cs.kind = .function)
    (KC : KeyOK PySem.Challenge.rw_pe0007_02.row.prog w (top.heap_39 w.params) q (dp + 1) (un + 3) (fun _ => news) vs (fun i r => RL RI news r (ks.getD i [])))
    (hl : (l, PySem.W.listOf vs.toArray n) ∈ news) (hx : RL RI news xv xs) (hlen : vs.length ≤ 1000) (hdp : dp + 1 ≤ 400) (hun : un + 20 ≤ 5000)
    (hb : BindsTo s (fdAt (top.heap_39 w.params) 50) ⟨pos, kw⟩ [(Str.ofString "a", .ref l), (Str.ofString "x", xv), (Str.ofString "lo", .int 0 tl), (Str.ofString "hi", .none), (Str.ofString "key", .ref q)])
    (ret : ∀ t h' tk', Fr h₀ L h' m → News h₀ L h' news → Q (.int (bisect (fun i => lexL ltI (ks.getD i []) xs) 0 vs.length : Nat) t) { s with heap := h', toks := tk' }) :
    wpAny (model PySem.Challenge.rw_pe0007_02.row.prog w) (ktrTop dp un gd cn cs L a ccd cl outer) (call (.ref 50) pos kw) Q E s := by
  (have X' := X; revert X'; k_fill; intro _)
  k_dflt (refine' enter (binds := [(Str.ofString "a", .ref l), (Str.ofString "x", xv), (Str.ofString "lo", .int 0 tl), (Str.ofString "hi", .none), (Str.ofString "key", .ref q)]) B F X N T hk ?ho ?hcd hdp ?hb ?hl ?hc ?co ?ge ?hk ?_; (case ho => k_is); (case hcd => k_is); (case hb => exact hb); (case hl => exact locs rfl); (case hc => decide); (case co => rfl); (case ge => rfl); (case hk => rfl))
  clear hb B F X N T hk
  intro g L' h₁ F' N' B' X' T' lt'
  k_fold
  have hcL := cLine_is
  ktr_unf
  refine Stop.go ?_
  refine While_inv (JK2 (fun i => lexL ltI (ks.getD i []) xs) vs l q xv news) (by k_asm) (by k_asm) ⟨0, vs.length, tl, _, rfl, Nat.le_refl _, rfl, rfl, rfl, rfl, rfl, rfl, rfl⟩ ?_ PassesOwn.never
  rintro k m₁ n₁ h₂ tk₂ F₂ N₂ ⟨lo', hi', t1, t2, rfl, hle, heq, e1, e2, e3, e4, e5, hn⟩
  subst hn
  ktr_unf
  · have hv := getD_some (vs := vs) (i := (lo' + hi') / 2) (by omega)
    refine itemL (by k_asm) hl (by rw [mid_eq]; omega) (by rw [mid_eq]; omega) (by rw [mid_eq]; exact hv) ?_
    ktr_unf
    refine Stop.go ?_
    k_dflt (refine KeyOK.use (tr := []) KC hv B' (by k_asm) X' (by k_asm) T' rfl (Nat.le_refl _) (Nat.le_refl _) ?_)
    intro r h₄ tk₄ hr F₄ N₄
    ktr_unf
    refine Stop.go ?_
    refine cmp_ofLt ?_
    refine RL.ltR (RI.eqR 0) (RI.ltR 0) _ _ _ _ _ _ _ _ _ N₄ hr hx (by show un + 3 + 1 < cLine; omega) _ _ _ _ ?_
    cases hc : lexL ltI (ks.getD ((lo' + hi') / 2) []) xs
    all_goals ktr_unf
    all_goals (try simp only [mid_eq, Int.toNat_natCast] at *)
    · exact WhileStep.intro (by k_asm) (by k_asm) (by omega) ⟨lo', (lo' + hi') / 2, t1, _, rfl, by omega, heq.trans (bisect_down (by omega) (hc)), by tb_start, by tb_start, by tb_start, by tb_start, by tb_start, rfl⟩
    · exact WhileStep.intro (by k_asm) (by k_asm) (by omega) ⟨(lo' + hi') / 2 + 1, hi', _, t2, rfl, hle, heq.trans (bisect_up (by omega) (hc)), by tb_start, by tb_start, by tb_start, by tb_start, by tb_start, rfl⟩
  · rw [bisect_ge (lo := lo') (by omega)] at heq
    exact Back.mk F₂ N₂ (heq ▸ ret _ _ _)
set_option maxRecDepth 100000 in
set_option maxHeartbeats 8000000 in
theorem br_key {l q : Addr} {vs : List Value} {n : Nat} {ks : List (List Int)} {xs : List Int} {xv : Value} {tl : Tok} {pos : List Value} {kw : List (Str × Value)}
    (B : Below A₀ base outer h₀) (F : Fr h₀ L s.heap m) (X : (top.heap_39 w.params).In h₀) (N : News h₀ L s.heap news) (T : Top p loose mean mg mb h₀) (hk : cs.kind = .function)
    (KC : KeyOK PySem.Challenge.rw_pe0007_02.row.prog w (top.heap_39 w.params) q (dp + 1) (un + 3) (fun _ => news) vs (fun i r => RL RI news r (ks.getD i [])))
    (hl : (l, PySem.W.listOf vs.toArray n) ∈ news) (hx : RL RI news xv xs) (hlen : vs.length ≤ 1000) (hdp : dp + 1 ≤ 400) (hun : un + 20 ≤ 5000)
    (hb : BindsTo s (fdAt (top.heap_39 w.params) 32) ⟨pos, kw⟩ [(Str.ofString "a", .ref l), (Str.ofString "x", xv), (Str.ofString "lo", .int 0 tl), (Str.ofString "hi", .none), (Str.ofString "key", .ref q)])
    (ret : ∀ t h' tk', Fr h₀ L h' m → News h₀ L h' news → Q (.int (bisect (fun i => !lexL ltI xs (ks.getD i [])) 0 vs.length : Nat) t) { s with heap := h', toks := tk' }) :
    wpAny (model PySem.Challenge.rw_pe0007_02.row.prog w) (ktrTop dp un gd cn cs L a ccd cl outer) (call (.ref 32) pos kw) Q E s := by
  (have X' := X; revert X'; k_fill; intro _)
  k_dflt (refine' enter (binds := [(Str.ofString "a", .ref l), (Str.ofString "x", xv), (Str.ofString "lo", .int 0 tl), (Str.ofString "hi", .none), (Str.ofString "key", .ref q)]) B F X N T hk ?ho ?hcd hdp ?hb ?hl ?hc ?co ?ge ?hk ?_; (case ho => k_is); (case hcd => k_is); (case hb => exact hb); (case hl => exact locs rfl); (case hc => decide); (case co => rfl); (case ge => rfl); (case hk => rfl))
  clear hb B F X N T hk
  intro g L' h₁ F' N' B' X' T' lt'
  k_fold
  have hcL := cLine_is
  ktr_unf
  refine Stop.go ?_
  refine While_inv (JK2 (fun i => !lexL ltI xs (ks.getD i [])) vs l q xv news) (by k_asm) (by k_asm) ⟨0, vs.length, tl, _, rfl, Nat.le_refl _, rfl, rfl, rfl, rfl, rfl, rfl, rfl⟩ ?_ PassesOwn.never
  rintro k m₁ n₁ h₂ tk₂ F₂ N₂ ⟨lo', hi', t1, t2, rfl, hle, heq, e1, e2, e3, e4, e5, hn⟩
  subst hn
  ktr_unf
  · have hv := getD_some (vs := vs) (i := (lo' + hi') / 2) (by omega)
    refine itemL (by k_asm) hl (by rw [mid_eq]; omega) (by rw [mid_eq]; omega) (by rw [mid_eq]; exact hv) ?_
    ktr_unf
    refine Stop.go ?_
    k_dflt (refine KeyOK.use (tr := []) KC hv B' (by k_asm) X' (by k_asm) T' rfl (Nat.le_refl _) (Nat.le_refl _) ?_)
    intro r h₄ tk₄ hr F₄ N₄
    ktr_unf
    refine Stop.go ?_
    refine cmp_ofLt ?_
    refine RL.ltR (RI.eqR 0) (RI.ltR 0) _ _ _ _ _ _ _ _ _ N₄ hx hr (by show un + 3 + 1 < cLine; omega) _ _ _ _ ?_
    cases hc : lexL ltI xs (ks.getD ((lo' + hi') / 2) [])
    all_goals ktr_unf
    all_goals (try simp only [mid_eq, Int.toNat_natCast] at *)
    · exact WhileStep.intro (by k_asm) (by k_asm) (by omega) ⟨(lo' + hi') / 2 + 1, hi', _, t2, rfl, hle, heq.trans (bisect_up (by omega) (show (!lexL ltI xs (ks.getD ((lo' + hi') / 2) [])) = true by rw [hc]; rfl)), by tb_start, by tb_start, by tb_start, by tb_start, by tb_start, rfl⟩
    · exact WhileStep.intro (by k_asm) (by k_asm) (by omega) ⟨lo', (lo' + hi') / 2, t1, _, rfl, by omega, heq.trans (bisect_down (by omega) (show (!lexL ltI xs (ks.getD ((lo' + hi') / 2) [])) = false by rw [hc]; rfl)), by tb_start, by tb_start, by tb_start, by tb_start, by tb_start, rfl⟩
  · rw [bisect_ge (lo := lo') (by omega)] at heq
    exact Back.mk F₂ N₂ (heq ▸ ret _ _ _)
set_option maxRecDepth 100000 in
set_option maxHeartbeats 8000000 in
theorem il_ints {l : Addr} {vs : List Value} {n : Nat} {ns : List Int} {x : Int} {tx tl : Tok} {pos : List Value} {kw : List (Str × Value)}
    (B : Below A₀ base outer h₀) (F : Fr h₀ L s.heap m) (X : (top.heap_39 w.params).In h₀) (N : News h₀ L s.heap ((l, PySem.W.listOf vs.toArray n) :: news)) (T : Top p loose mean mg mb h₀) (hk : cs.kind = .function)
    (off : ∀ p ∈ news, p.1 ≠ l) (hI : IntsAre vs ns) (hlen : ns.length ≤ 900) (hdp : dp + 2 ≤ 400)
    (hb : BindsTo s (fdAt (top.heap_39 w.params) 41) ⟨pos, kw⟩ [(Str.ofString "a", .ref l), (Str.ofString "x", .int x tx), (Str.ofString "lo", .int 0 tl), (Str.ofString "hi", .none), (Str.ofString "key", .none)])
    (ret : ∀ h' tk', Fr h₀ L h' m → News h₀ L h' ((l, PySem.W.listOf (vs.take (bisect (fun i => decide (ns.getD i 0 < x)) 0 ns.length) ++ .int x tx :: vs.drop (bisect (fun i => decide (ns.getD i 0 < x)) 0 ns.length)).toArray (n + 1)) :: news) → Q .none { s with heap := h', toks := tk' }) :
    wpAny (model PySem.Challenge.rw_pe0007_02.row.prog w) (ktrTop dp un gd cn cs L a ccd cl outer) (call (.ref 41) pos kw) Q E s := by
  (have X' := X; revert X'; k_fill; intro _)
  k_dflt (refine' enter (binds := [(Str.ofString "a", .ref l), (Str.ofString "x", .int x tx), (Str.ofString "lo", .int 0 tl), (Str.ofString "hi", .none), (Str.ofString "key", .none)]) B F X N T hk ?ho ?hcd (by omega) ?hb ?hl ?hc ?co ?ge ?hk ?_; (case ho => k_is); (case hcd => k_is); (case hb => exact hb); (case hl => exact locs rfl); (case hc => decide); (case co => rfl); (case ge => rfl); (case hk => rfl))
  clear hb B F X N T hk
  intro g L' h₁ F' N' B' X' T' lt'
  k_fold
  have hln := hI.length
  ktr_unf
  refine Stop.go ?_
  k_dflt (refine bl_ints B' F' X' N' T' rfl (List.Mem.head _) hI (by omega) (by omega) (bd4_50 (Frag.In.keeps X' (Fr.keep F')) _ _ _ _) ?_)
  intro t h₂ tk₂ F₂ N₂
  have hmem : (l, PySem.W.listOf vs.toArray n) ∈ (l, PySem.W.listOf vs.toArray n) :: news := List.Mem.head _
  have hb2 : bisect (fun i => decide (ns.getD i 0 < x)) 0 ns.length ≤ ns.length := bisect_le _ _ _ (Nat.zero_le _)
  ktr_unf
  refine Stop.go ?_
  refine insertL (by k_asm) (by k_asm) off (Int.natCast_nonneg _) (by rw [Int.toNat_natCast]; omega) (by omega) ?_
  intro h₃ F₃ N₃
  ktr_unf
  exact Back.mk F₃ N₃ (ret _ _)
set_option maxRecDepth 100000 in
set_option maxHeartbeats 8000000 in
theorem ir_ints {l : Addr} {vs : List Value} {n : Nat} {ns : List Int} {x : Int} {tx tl : Tok} {pos : List Value} {kw : List (Str × Value)}
    (B : Below A₀ base outer h₀) (F : Fr h₀ L s.heap m) (X : (top.heap_39 w.params).In h₀) (N : News h₀ L s.heap ((l, PySem.W.listOf vs.toArray n) :: news)) (T : Top p loose mean mg mb h₀) (hk : cs.kind = .function)
    (off : ∀ p ∈ news, p.1 ≠ l) (hI : IntsAre vs ns) (hlen : ns.length ≤ 900) (hdp : dp + 2 ≤ 400)
    (hb : BindsTo s (fdAt (top.heap_39 w.params) 23) ⟨pos, kw⟩ [(Str.ofString "a", .ref l), (Str.ofString "x", .int x tx), (Str.ofString "lo", .int 0 tl), (Str.ofString "hi", .none), (Str.ofString "key", .none)])
    (ret : ∀ h' tk', Fr h₀ L h' m → News h₀ L h' ((l, PySem.W.listOf (vs.take (bisect (fun i => !decide (x < ns.getD i 0)) 0 ns.length) ++ .int x tx :: vs.drop (bisect (fun i => !decide (x < ns.getD i 0)) 0 ns.length)).toArray (n + 1)) :: news) → Q .none { s with heap := h', toks := tk' }) :
    wpAny (model PySem.Challenge.rw_pe0007_02.row.prog w) (ktrTop dp un gd cn cs L a ccd cl outer) (call (.ref 23) pos kw) Q E s := by
  (have X' := X; revert X'; k_fill; intro _)
  k_dflt (refine' enter (binds := [(Str.ofString "a", .ref l), (Str.ofString "x", .int x tx), (Str.ofString "lo", .int 0 tl), (Str.ofString "hi", .none), (Str.ofString "key", .none)]) B F X N T hk ?ho ?hcd (by omega) ?hb ?hl ?hc ?co ?ge ?hk ?_; (case ho => k_is); (case hcd => k_is); (case hb => exact hb); (case hl => exact locs rfl); (case hc => decide); (case co => rfl); (case ge => rfl); (case hk => rfl))
  clear hb B F X N T hk
  intro g L' h₁ F' N' B' X' T' lt'
  k_fold
  have hln := hI.length
  ktr_unf
  refine Stop.go ?_
  k_dflt (refine br_ints B' F' X' N' T' rfl (List.Mem.head _) hI (by omega) (by omega) (bd4_32 (Frag.In.keeps X' (Fr.keep F')) _ _ _ _) ?_)
  intro t h₂ tk₂ F₂ N₂
  have hmem : (l, PySem.W.listOf vs.toArray n) ∈ (l, PySem.W.listOf vs.toArray n) :: news := List.Mem.head _
  have hb2 : bisect (fun i => !decide (x < ns.getD i 0)) 0 ns.length ≤ ns.length := bisect_le _ _ _ (Nat.zero_le _)
  ktr_unf
  refine Stop.go ?_
  refine insertL (by k_asm) (by k_asm) off (Int.natCast_nonneg _) (by rw [Int.toNat_natCast]; omega) (by omega) ?_
  intro h₃ F₃ N₃
  ktr_unf
  exact Back.mk F₃ N₃ (ret _ _)
set_option maxRecDepth 100000 in
set_option maxHeartbeats 8000000 in
theorem ir_key {l q : Addr} {vs : List Value} {n : Nat} {ks : List (List Int)} {xs : List Int} {xv : Value} {tl : Tok} {pos : List Value} {kw : List (Str × Value)}
    (B : Below A₀ base outer h₀) (F : Fr h₀ L s.heap m) (X : (top.heap_39 w.params).In h₀) (N : News h₀ L s.heap ((l, PySem.W.listOf vs.toArray n) :: news)) (T : Top p loose mean mg mb h₀) (hk : cs.kind = .function)
    (off : ∀ p ∈ news, p.1 ≠ l) (hlen : vs.length ≤ 900) (hdp : dp + 2 ≤ 400) (hun : un + 30 ≤ 5000)
    (KC : KeyOK PySem.Challenge.rw_pe0007_02.row.prog w (top.heap_39 w.params) q (dp + 2) (un + 6) (fun _ => ((l, PySem.W.listOf vs.toArray n) :: news)) vs (fun i r => RL RI ((l, PySem.W.listOf vs.toArray n) :: news) r (ks.getD i [])))
    (KX : KeyOK PySem.Challenge.rw_pe0007_02.row.prog w (top.heap_39 w.params) q (dp + 2) (un + 6) (fun _ => ((l, PySem.W.listOf vs.toArray n) :: news)) [xv] (fun _ r => RL RI ((l, PySem.W.listOf vs.toArray n) :: news) r xs))
    (hb : BindsTo s (fdAt (top.heap_39 w.params) 23) ⟨pos, kw⟩ [(Str.ofString "a", .ref l), (Str.ofString "x", xv), (Str.ofString "lo", .int 0 tl), (Str.ofString "hi", .none), (Str.ofString "key", .ref q)])
    (ret : ∀ h' tk', Fr h₀ L h' m → News h₀ L h' ((l, PySem.W.listOf (vs.take (bisect (fun i => !lexL ltI xs (ks.getD i [])) 0 vs.length) ++ xv :: vs.drop (bisect (fun i => !lexL ltI xs (ks.getD i [])) 0 vs.length)).toArray (n + 1)) :: news) → Q .none { s with heap := h', toks := tk' }) :
    wpAny (model PySem.Challenge.rw_pe0007_02.row.prog w) (ktrTop dp un gd cn cs L a ccd cl outer) (call (.ref 23) pos kw) Q E s := by
  (have X' := X; revert X'; k_fill; intro _)
  k_dflt (refine' enter (binds := [(Str.ofString "a", .ref l), (Str.ofString "x", xv), (Str.ofString "lo", .int 0 tl), (Str.ofString "hi", .none), (Str.ofString "key", .ref q)]) B F X N T hk ?ho ?hcd (by omega) ?hb ?hl ?hc ?co ?ge ?hk ?_; (case ho => k_is); (case hcd => k_is); (case hb => exact hb); (case hl => exact locs rfl); (case hc => decide); (case co => rfl); (case ge => rfl); (case hk => rfl))
  clear hb B F X N T hk
  intro g L' h₁ F' N' B' X' T' lt'
  k_fold
  ktr_unf
  refine Stop.go ?_
  k_dflt (refine KeyOK.use (i := 0) (tr := []) KX rfl B' (by k_asm) X' (by k_asm) T' rfl (by omega) (by omega) ?_)
  intro r h₄ tk₄ hr F₄ N₄
  ktr_unf
  refine Stop.go ?_
  k_dflt (refine br_key B' F₄ X' N₄ T' rfl KC (List.Mem.head _) hr (by omega) (by omega) (by omega) (bd4k_32 (Frag.In.keeps X' (Fr.keep F₄)) _ _ _ _ _) ?_)
  intro t h₂ tk₂ F₂ N₂
  have hmem : (l, PySem.W.listOf vs.toArray n) ∈ (l, PySem.W.listOf vs.toArray n) :: news := List.Mem.head _
  have hb2 : bisect (fun i => !lexL ltI xs (ks.getD i [])) 0 vs.length ≤ vs.length := bisect_le _ _ _ (Nat.zero_le _)
  ktr_unf
  refine Stop.go ?_
  refine insertL (by k_asm) (by k_asm) off (Int.natCast_nonneg _) (by rw [Int.toNat_natCast]; omega) (by omega) ?_
  intro h₃ F₃ N₃
  ktr_unf
  exact Back.mk F₃ N₃ (ret _ _)
end
end Mine
namespace Mine
local macro_rules | `(tactic| tb_start) => `(tactic| repeat (first | assumption | exact rfl | exact upd_eq | refine upd_ne (by decide) ?_))
local macro_rules | `(tactic| walk_at "eval Name") => `(tactic| (k_dflt (refine' nameX_L ?k1 ?k2 ?_ ?k4 ?k5; (case k4 => exact rfl); (case k5 => exact rfl); (case k1 => k_asm); (case k2 => tb_start))))
local macro_rules | `(tactic| walk_at "execs cons") => `(tactic| ((with_reducible show wpAny _ _ (execs (Stmt.While _ _ _ _ :: _) _) _ _ _); refine execs_stop ?_))
local macro_rules | `(tactic| walk_at "execs cons") => `(tactic| ((with_reducible show wpAny _ _ (execs (Stmt.For _ _ _ _ _ :: _) _) _ _ _); refine execs_stop ?_))
local macro_rules | `(tactic| walk_at "call ref") => `(tactic| ((with_reducible show wpAny _ _ (call (Value.ref _) _ _) _ _ _); refine Stop.at ?_))
local macro_rules | `(tactic| walk_at "call builtin:list.insert") => `(tactic| (refine Stop.at ?_))
local macro_rules | `(tactic| walk_at "call builtin:len") => `(tactic| ((with_reducible show wpAny _ _ (call (Value.builtin _) [Value.ref _]) _ _ _); refine lenL (by k_asm) (by assumption) (by omega) ?_))
local macro_rules | `(tactic| walk_at "callWith ref") => `(tactic| (first | refine callWith_F (KeyOK.fn (by assumption) _ _ _ _ (Frag.In.keeps (by assumption) (Fr.keep (by k_asm))) (by k_asm)) ?_ | refine callWith_F (KeyOK.fn (by assumption) [] _ _ _ (Frag.In.keeps (by assumption) (Fr.keep (by k_asm))) (by k_asm)) ?_))
local macro_rules | `(tactic| walk_at "And") => `(tactic| (first | refine ⟨KeyOK.fn (by assumption) _ _ _ _ (Frag.In.keeps (by assumption) (Fr.keep (by k_asm))) (by k_asm), ?_⟩ | refine ⟨KeyOK.fn (by assumption) [] _ _ _ (Frag.In.keeps (by assumption) (Fr.keep (by k_asm))) (by k_asm), ?_⟩))
local macro_rules | `(tactic| walk_at "compareOp Lt ref") => `(tactic| (refine Stop.at ?_))
local macro_rules | `(tactic| k_mem) => `(tactic| assumption)
local macro_rules | `(tactic| ktr_unf) => `(tactic| repeat' (first | (k_unfold; (try dsimp only)) | walk1 | (dsimp only; walk1)))
section
variable {w : World} {dp un : Nat} {gd : Option (List Code)} {cn : Str} {cs : Scope} {L a : Addr} {ccd : Value} {cl : List (Str × Addr)} {outer : List Env} {A₀ : Around} {base h₀ : Heap}
  {m : Str → Option Value} {news : Led} {s : Shared} {Q E : Value → Shared → Prop} {p : Program} {loose : List Str} {mean : ExcName → Option Value} {mg mb : Str → Option Value}
set_option maxRecDepth 100000 in
set_option maxHeartbeats 8000000 in
theorem row_call {e : Addr} {vs : List Value} {n : Nat} {v : Value}
    (B : Below A₀ base outer h₀) (F : Fr h₀ L s.heap m) (X : (top.heap_39 w.params).In h₀) (N : News h₀ L s.heap news) (T : Top p loose mean mg mb h₀) (hk : cs.kind = .function)
    (he : (e, PySem.W.listOf vs.toArray n) ∈ news) (h0 : vs[0]? = some v) (hdp : dp + 1 ≤ 400)
    (ret : ∀ h' tk', Fr h₀ L h' m → News h₀ L h' news → Q v { s with heap := h', toks := tk' }) :
    wpAny (model PySem.Challenge.rw_pe0007_02.row.prog w) (ktrTop dp un gd cn cs L a ccd cl outer) (call (.ref 57) [.ref e]) Q E s := by
  (have X' := X; revert X'; k_fill; intro _)
  k_dflt (refine' enter (binds := [(Str.ofString "state", .ref e)]) B F X N T hk ?ho ?hcd hdp ?hb ?hl ?hc ?co ?ge ?hk ?_; (case ho => k_is); (case hcd => k_is); (case hb => exact BindsTo.of_eq rfl); (case hl => exact locs rfl); (case hc => decide); (case co => rfl); (case ge => rfl); (case hk => rfl))
  intro g L' h₁ F' N' B' X' T' lt'
  k_fold
  ktr_unf
  refine itemL (by k_asm) he (by decide) (by decide) h0 ?_
  ktr_unf
  exact Back.mk F' N' (ret _ _)

theorem row_key {led : Led} {vs : List Value} {sts : List (List Int × Int)} {dm um : Nat} (sub : ∀ p ∈ news, p ∈ led) (h : RA (RP (RL RI) RI) news vs sts) (hdm : dm + 1 ≤ 400) :
    KeyOK PySem.Challenge.rw_pe0007_02.row.prog w (top.heap_39 w.params) 57 dm um (fun _ => led) vs (fun i r => RL RI led r ((sts.map (·.1)).getD i [])) where
  fn := fun _ _ h _ X _ => FnAt.ofK X (by kernel_rfl)
  run := fun i v tr dp un gd cn cs L a ccd cl outer A₀ base h₀ m s Q E p loose mean mg mb hv B F X N T hk hd hu ret => by
    obtain ⟨x, hx, a', v1, v2, n, rfl, hm, h1, h2⟩ := h.get' hv
    refine row_call B F X N T hk (sub _ hm) rfl (by omega) fun h' tk' F' N' => ret _ _ _ ?_ F' N'
    have e : (sts.map (·.1)).getD i [] = x.1 := by simp [hx]
    rw [e]
    exact RL.mono RI.mono _ _ _ _ sub h1
end
end Mine
namespace Mine
def movedRest (row : List Int) (place : Int) : List Int := pick row none (some place) ++ pick row (some (place + 1)) none
def movedPlace (row : List Int) (bead up : Int) : Int := if 0 < up then (bisect (fun i => !decide (bead < row.getD i 0)) 0 row.length : Int) - 1 else (bisect (fun i => decide (row.getD i 0 < bead)) 0 row.length : Int)
def movedIn (rest : List Int) (goal up : Int) : List Int :=
  if 0 < up then rest.take (bisect (fun i => !decide (goal < rest.getD i 0)) 0 rest.length) ++ goal :: rest.drop (bisect (fun i => !decide (goal < rest.getD i 0)) 0 rest.length)
  else rest.take (bisect (fun i => decide (rest.getD i 0 < goal)) 0 rest.length) ++ goal :: rest.drop (bisect (fun i => decide (rest.getD i 0 < goal)) 0 rest.length)
def movedF (row : List Int) (bead up : Int) : Option (List Int × Int) :=
  if bead + up < 0 ∨ bisect (fun i => decide ((movedRest row (movedPlace row bead up)).getD i 0 < bead + up)) 0 (movedRest row (movedPlace row bead up)).length < bisect (fun i => !decide (bead + up < (movedRest row (movedPlace row bead up)).getD i 0)) 0 (movedRest row (movedPlace row bead up)).length then none
  else some (movedIn (movedRest row (movedPlace row bead up)) (bead + up) up, if Int.fmod ((bisect (fun i => decide ((movedRest row (movedPlace row bead up)).getD i 0 < bead + up)) 0 (movedRest row (movedPlace row bead up)).length : Int) - movedPlace row bead up) 2 = 0 then 1 else -1)
local macro_rules | `(tactic| tb_start) => `(tactic| repeat (first | assumption | exact rfl | exact upd_eq | refine upd_ne (by decide) ?_))
local macro_rules | `(tactic| walk_at "eval Name") => `(tactic| (k_dflt (refine' nameX_L ?k1 ?k2 ?_ ?k4 ?k5; (case k4 => exact rfl); (case k5 => exact rfl); (case k1 => k_asm); (case k2 => tb_start))))
local macro_rules | `(tactic| walk_at "execs cons") => `(tactic| ((with_reducible show wpAny _ _ (execs (Stmt.While _ _ _ _ :: _) _) _ _ _); refine execs_stop ?_))
local macro_rules | `(tactic| walk_at "execs cons") => `(tactic| ((with_reducible show wpAny _ _ (execs (Stmt.For _ _ _ _ _ :: _) _) _ _ _); refine execs_stop ?_))
local macro_rules | `(tactic| walk_at "call ref") => `(tactic| ((with_reducible show wpAny _ _ (call (Value.ref _) _ _) _ _ _); refine Stop.at ?_))
local macro_rules | `(tactic| walk_at "call builtin:list.insert") => `(tactic| (refine Stop.at ?_))
local macro_rules | `(tactic| walk_at "call builtin:len") => `(tactic| ((with_reducible show wpAny _ _ (call (Value.builtin _) [Value.ref _]) _ _ _); refine lenL (by k_asm) (by k_mem) (by omega) ?_))
local macro_rules | `(tactic| walk_at "callWith ref") => `(tactic| (first | refine callWith_F (KeyOK.fn (by assumption) _ _ _ _ (Frag.In.keeps (by assumption) (Fr.keep (by k_asm))) (by k_asm)) ?_ | refine callWith_F (KeyOK.fn (by assumption) [] _ _ _ (Frag.In.keeps (by assumption) (Fr.keep (by k_asm))) (by k_asm)) ?_))
local macro_rules | `(tactic| walk_at "And") => `(tactic| (first | refine ⟨KeyOK.fn (by assumption) _ _ _ _ (Frag.In.keeps (by assumption) (Fr.keep (by k_asm))) (by k_asm), ?_⟩ | refine ⟨KeyOK.fn (by assumption) [] _ _ _ (Frag.In.keeps (by assumption) (Fr.keep (by k_asm))) (by k_asm), ?_⟩))
local macro_rules | `(tactic| walk_at "compareOp Lt ref") => `(tactic| (refine Stop.at ?_))
local macro_rules | `(tactic| k_mem) => `(tactic| first | assumption | exact List.Mem.head _ | (refine List.Mem.tail _ ?_; k_mem))
local macro_rules | `(tactic| walk_at "newList") => `(tactic| (k_dflt (refine' newList_K ?k1 ?k2 ?_; (case k1 => k_asm); (case k2 => k_asm)); intro l' h' F' N' l1))
local macro_rules | `(tactic| walk_at "subscriptTail Name Slice ref ref") => `(tactic| ((with_reducible show wpAny _ _ (subscriptTail _ (PySem.Expr.Slice _ _ none _) (Value.ref _) (Value.ref _)) _ _ _); k_dflt (refine' sliceL ?F ?N ?l ?p ?q ?z ?_ ?s ?t; (case F => k_asm); (case N => k_asm); (case l => k_mem); (case p => first | exact IsPart.none | exact IsPart.int _ _); (case q => first | exact IsPart.none | exact IsPart.int _ _); (case s => with_unfolding_all rfl); (case t => (intro _; with_unfolding_all rfl)); (case z => omega)); intro D' h' F' N' l1))
local macro_rules | `(tactic| walk_at "binaryOp Add ref ref") => `(tactic| ((with_reducible show wpAny _ _ (binaryOp _ (Value.ref _) (Value.ref _)) _ _ _); refine Stop.at ?_))
local macro_rules | `(tactic| ktr_unf) => `(tactic| repeat' (first | (k_unfold; (try dsimp only)) | walk1 | (dsimp only; walk1)))
section
variable {w : World} {dp un : Nat} {gd : Option (List Code)} {cn : Str} {cs : Scope} {L a : Addr} {ccd : Value} {cl : List (Str × Addr)} {outer : List Env} {A₀ : Around} {base h₀ : Heap}
  {m : Str → Option Value} {news : Led} {s : Shared} {Q E : Value → Shared → Prop} {p : Program} {loose : List Str} {mean : ExcName → Option Value} {mg mb : Str → Option Value}
set_option maxRecDepth 100000 in
set_option maxHeartbeats 8000000 in
theorem moved_call {l : Addr} {vs : List Value} {n : Nat} {row : List Int} {bead up : Int} {tb tu : Tok}
    (B : Below A₀ base outer h₀) (F : Fr h₀ L s.heap m) (X : (top.heap_39 w.params).In h₀) (N : News h₀ L s.heap news) (T : Top p loose mean mg mb h₀) (hk : cs.kind = .function)
    (hl : (l, PySem.W.listOf vs.toArray n) ∈ news) (hI : RA RI news vs row) (hlen : row.length ≤ 400) (hdp : dp + 3 ≤ 400)
    (ret : ∀ r tl h' tk', Fr h₀ L h' m → News h₀ L h' (tl ++ news) → (∀ q ∈ news, ∀ p ∈ tl, q.1 < p.1) → ROpt (RP (RL RI) RI) tl r (movedF row bead up) → Q r { s with heap := h', toks := tk' }) :
    wpAny (model PySem.Challenge.rw_pe0007_02.row.prog w) (ktrTop dp un gd cn cs L a ccd cl outer) (call (.ref 64) [.ref l, .int bead tb, .int up tu]) Q E s := by
  (have X' := X; revert X'; k_fill; intro _)
  k_dflt (refine' enter (binds := [(Str.ofString "row", .ref l), (Str.ofString "bead", .int bead tb), (Str.ofString "by", .int up tu)]) B F X N T hk ?ho ?hcd (by omega) ?hb ?hl ?hc ?co ?ge ?hk ?_; (case ho => k_is); (case hcd => k_is); (case hb => exact BindsTo.of_eq rfl); (case hl => exact locs rfl); (case hc => decide); (case co => rfl); (case ge => rfl); (case hk => rfl))
  intro g L' h₁ F' N' B' X' T' lt'
  k_fold
  have hln := hI.length
  ktr_unf
  · refine Stop.go ?_
    k_dflt (refine br_ints (tl := 202) B' F' X' N' T' rfl hl hI.ints (by omega) (by omega) (bd2_32 (Frag.In.keeps X' (Fr.keep F')) _ _) ?_)
    intro t h₂ tk₂ F₂ N₂
    have hp : (bisect (fun i => !decide (bead < row.getD i 0)) 0 row.length : Int) - 1 = movedPlace row bead up := (if_pos (by assumption)).symm
    have hup : 0 < up := by assumption
    clear F' N'
    ktr_unf
    simp only [hp] at *
    refine Stop.go ?_
    have hq1 := pick_len vs none (some (movedPlace row bead up))
    have hq2 := pick_len vs (some (movedPlace row bead up + 1)) none
    k_dflt (refine addL (by k_asm) (by k_asm) (by k_mem) (by k_mem) (by omega) ?_)
    intro D h₃ F₃ N₃ lt₃
    have N₄ := News.sub N₃ (n' := (D, _) :: news) (fun q hq => by rcases List.mem_cons.mp hq with rfl | hq; exact .head _; exact .tail _ (.tail _ (.tail _ hq)))
    have lt₄ : ∀ q ∈ news, q.1 < D := fun q hq => lt₃ q (.tail _ (.tail _ hq))
    have hR : RA RI news _ (movedRest row (movedPlace row bead up)) := (hI.pick none (some (movedPlace row bead up))).append (hI.pick (some (movedPlace row bead up + 1)) none)
    have hRl : (movedRest row (movedPlace row bead up)).length ≤ 800 := by rw [← hR.length, List.length_append]; omega
    clear N₃ lt₃ hq1 hq2
    generalize pick vs none (some (movedPlace row bead up)) ++ pick vs (some (movedPlace row bead up + 1)) none = ws at *
    have hwl := hR.length
    ktr_unf
    refine Stop.go ?_
    k_dflt (refine bl_ints (l := D) (tl := 229) B' (by k_asm) X' (by k_asm) T' rfl (.head _) hR.ints (by omega) (by omega) (bd2_50 (Frag.In.keeps X' (Fr.keep (by k_asm))) _ _) ?_)
    intro t₅ h₅ tk₅ F₅ N₅
    ktr_unf
    · exact Back.mk (by k_asm) (by k_asm) (fun F N => ret .none [] _ _ F (News.sub N (fun q hq => .tail _ hq)) (fun _ _ _ h => nomatch h) (by rw [movedF, if_pos (.inl (by assumption))]; rfl))
    · refine Stop.go ?_
      k_dflt (refine br_ints (l := D) (tl := 202) B' (by k_asm) X' (by k_asm) T' rfl (.head _) hR.ints (by omega) (by omega) (bd2_32 (Frag.In.keeps X' (Fr.keep (by k_asm))) _ _) ?_)
      intro t₆ h₆ tk₆ F₆ N₆
      ktr_unf
      · exact Back.mk (by k_asm) (by k_asm) (fun F N => ret .none [] _ _ F (News.sub N (fun q hq => .tail _ hq)) (fun _ _ _ h => nomatch h) (by rw [movedF, if_pos (.inr (by omega))]; rfl))
      · have hno : ¬ (bead + up < 0 ∨ bisect (fun i => decide ((movedRest row (movedPlace row bead up)).getD i 0 < bead + up)) 0 (movedRest row (movedPlace row bead up)).length < bisect (fun i => !decide (bead + up < (movedRest row (movedPlace row bead up)).getD i 0)) 0 (movedRest row (movedPlace row bead up)).length) := by omega
        refine Stop.go ?_
        k_dflt (refine ir_ints (l := D) (tl := 189) B' (by k_asm) X' (by k_asm) T' rfl (fun q hq => Nat.ne_of_lt (lt₄ q hq)) hR.ints (by omega) (by omega) (bd2_23 (Frag.In.keeps X' (Fr.keep (by k_asm))) _ _) ?_)
        intro h₇ tk₇ F₇ N₇
        ktr_unf
        all_goals
          rename_i l₉ h₉ F₉ N₉ lt₉
          refine Back.mk F₉ N₉ (fun F N => ret (.ref l₉) [_, _] _ _ F N ?_ ?_)
          · intro q hq p hp
            rcases List.mem_cons.mp hp with rfl | hp
            · exact lt₉ q (.tail _ hq)
            · rw [List.mem_singleton.mp hp]; exact lt₄ q hq
          · rw [movedF, if_neg hno]
            refine ⟨l₉, .ref D, _, 0, rfl, .head _, ⟨D, _, _, rfl, .tail _ (.head _), ?_⟩, ?_⟩
            · show RA RI _ _ (movedIn _ _ _)
              rw [movedIn, if_pos hup]
              exact RA.ofInts ((hR.take _).append (.cons ⟨_, rfl⟩ (hR.drop _))).ints
            · show RI _ _ (if _ then _ else _)
              first | (rw [if_pos (by assumption)]; exact ⟨_, rfl⟩) | (rw [if_neg (by assumption)]; exact ⟨_, rfl⟩)
  · refine Stop.go ?_
    k_dflt (refine bl_ints (tl := 229) B' F' X' N' T' rfl hl hI.ints (by omega) (by omega) (bd2_50 (Frag.In.keeps X' (Fr.keep F')) _ _) ?_)
    intro t h₂ tk₂ F₂ N₂
    have hp : (bisect (fun i => decide (row.getD i 0 < bead)) 0 row.length : Int) = movedPlace row bead up := (if_neg (by omega)).symm
    have hup : ¬ 0 < up := by omega
    clear F' N'
    ktr_unf
    simp only [hp] at *
    refine Stop.go ?_
    have hq1 := pick_len vs none (some (movedPlace row bead up))
    have hq2 := pick_len vs (some (movedPlace row bead up + 1)) none
    k_dflt (refine addL (by k_asm) (by k_asm) (by k_mem) (by k_mem) (by omega) ?_)
    intro D h₃ F₃ N₃ lt₃
    have N₄ := News.sub N₃ (n' := (D, _) :: news) (fun q hq => by rcases List.mem_cons.mp hq with rfl | hq; exact .head _; exact .tail _ (.tail _ (.tail _ hq)))
    have lt₄ : ∀ q ∈ news, q.1 < D := fun q hq => lt₃ q (.tail _ (.tail _ hq))
    have hR : RA RI news _ (movedRest row (movedPlace row bead up)) := (hI.pick none (some (movedPlace row bead up))).append (hI.pick (some (movedPlace row bead up + 1)) none)
    have hRl : (movedRest row (movedPlace row bead up)).length ≤ 800 := by rw [← hR.length, List.length_append]; omega
    clear N₃ lt₃ hq1 hq2
    generalize pick vs none (some (movedPlace row bead up)) ++ pick vs (some (movedPlace row bead up + 1)) none = ws at *
    have hwl := hR.length
    ktr_unf
    refine Stop.go ?_
    k_dflt (refine bl_ints (l := D) (tl := 229) B' (by k_asm) X' (by k_asm) T' rfl (.head _) hR.ints (by omega) (by omega) (bd2_50 (Frag.In.keeps X' (Fr.keep (by k_asm))) _ _) ?_)
    intro t₅ h₅ tk₅ F₅ N₅
    ktr_unf
    · exact Back.mk (by k_asm) (by k_asm) (fun F N => ret .none [] _ _ F (News.sub N (fun q hq => .tail _ hq)) (fun _ _ _ h => nomatch h) (by rw [movedF, if_pos (.inl (by assumption))]; rfl))
    · refine Stop.go ?_
      k_dflt (refine br_ints (l := D) (tl := 202) B' (by k_asm) X' (by k_asm) T' rfl (.head _) hR.ints (by omega) (by omega) (bd2_32 (Frag.In.keeps X' (Fr.keep (by k_asm))) _ _) ?_)
      intro t₆ h₆ tk₆ F₆ N₆
      ktr_unf
      · exact Back.mk (by k_asm) (by k_asm) (fun F N => ret .none [] _ _ F (News.sub N (fun q hq => .tail _ hq)) (fun _ _ _ h => nomatch h) (by rw [movedF, if_pos (.inr (by omega))]; rfl))
      · have hno : ¬ (bead + up < 0 ∨ bisect (fun i => decide ((movedRest row (movedPlace row bead up)).getD i 0 < bead + up)) 0 (movedRest row (movedPlace row bead up)).length < bisect (fun i => !decide (bead + up < (movedRest row (movedPlace row bead up)).getD i 0)) 0 (movedRest row (movedPlace row bead up)).length) := by omega
        refine Stop.go ?_
        k_dflt (refine il_ints (l := D) (tl := 216) B' (by k_asm) X' (by k_asm) T' rfl (fun q hq => Nat.ne_of_lt (lt₄ q hq)) hR.ints (by omega) (by omega) (bd2_41 (Frag.In.keeps X' (Fr.keep (by k_asm))) _ _) ?_)
        intro h₇ tk₇ F₇ N₇
        ktr_unf
        all_goals
          rename_i l₉ h₉ F₉ N₉ lt₉
          refine Back.mk F₉ N₉ (fun F N => ret (.ref l₉) [_, _] _ _ F N ?_ ?_)
          · intro q hq p hp
            rcases List.mem_cons.mp hp with rfl | hp
            · exact lt₉ q (.tail _ hq)
            · rw [List.mem_singleton.mp hp]; exact lt₄ q hq
          · rw [movedF, if_neg hno]
            refine ⟨l₉, .ref D, _, 0, rfl, .head _, ⟨D, _, _, rfl, .tail _ (.head _), ?_⟩, ?_⟩
            · show RA RI _ _ (movedIn _ _ _)
              rw [movedIn, if_neg hup]
              exact RA.ofInts ((hR.take _).append (.cons ⟨_, rfl⟩ (hR.drop _))).ints
            · show RI _ _ (if _ then _ else _)
              first | (rw [if_pos (by assumption)]; exact ⟨_, rfl⟩) | (rw [if_neg (by assumption)]; exact ⟨_, rfl⟩)
end
end Mine
namespace Mine
def keysOf (sts : List (List Int × Int)) : List (List Int) := sts.map (·.1)
def entPlace (sts : List (List Int × Int)) (row : List Int) : Nat := bisect (fun i => lexL ltI ((keysOf sts).getD i []) row) 0 sts.length
def entPut (sts : List (List Int × Int)) (row : List Int) : Nat := bisect (fun i => !lexL ltI row ((keysOf sts).getD i [])) 0 sts.length
def enteredF (sts : List (List Int × Int)) (row : List Int) (count : Int) : List (List Int × Int) :=
  if entPlace sts row < sts.length ∧ (sts.getD (entPlace sts row) ([], 0)).1 = row then sts.set (entPlace sts row) (row, (sts.getD (entPlace sts row) ([], 0)).2 + count)
  else sts.take (entPut sts row) ++ (row, count) :: sts.drop (entPut sts row)
theorem enteredF_len (sts : List (List Int × Int)) (row : List Int) (count : Int) : (enteredF sts row count).length ≤ sts.length + 1 := by
  unfold enteredF
  split
  · rw [List.length_set]; omega
  · rw [List.length_append, List.length_cons, List.length_take, List.length_drop]; omega
local macro_rules | `(tactic| tb_start) => `(tactic| repeat (first | assumption | exact rfl | exact upd_eq | refine upd_ne (by decide) ?_))
local macro_rules | `(tactic| walk_at "eval Name") => `(tactic| (k_dflt (refine' nameX_L ?k1 ?k2 ?_ ?k4 ?k5; (case k4 => exact rfl); (case k5 => exact rfl); (case k1 => k_asm); (case k2 => tb_start))))
local macro_rules | `(tactic| walk_at "execs cons") => `(tactic| ((with_reducible show wpAny _ _ (execs (Stmt.While _ _ _ _ :: _) _) _ _ _); refine execs_stop ?_))
local macro_rules | `(tactic| walk_at "execs cons") => `(tactic| ((with_reducible show wpAny _ _ (execs (Stmt.For _ _ _ _ _ :: _) _) _ _ _); refine execs_stop ?_))
local macro_rules | `(tactic| walk_at "call ref") => `(tactic| ((with_reducible show wpAny _ _ (call (Value.ref _) _ _) _ _ _); refine Stop.at ?_))
local macro_rules | `(tactic| walk_at "call builtin:list.insert") => `(tactic| (refine Stop.at ?_))
local macro_rules | `(tactic| walk_at "call builtin:len") => `(tactic| ((with_reducible show wpAny _ _ (call (Value.builtin _) [Value.ref _]) _ _ _); refine lenL (by k_asm) (by k_mem) (by omega) ?_))
local macro_rules | `(tactic| walk_at "callWith ref") => `(tactic| (first | refine callWith_F (KeyOK.fn (by assumption) _ _ _ _ (Frag.In.keeps (by assumption) (Fr.keep (by k_asm))) (by k_asm)) ?_ | refine callWith_F (KeyOK.fn (by assumption) [] _ _ _ (Frag.In.keeps (by assumption) (Fr.keep (by k_asm))) (by k_asm)) ?_))
local macro_rules | `(tactic| walk_at "And") => `(tactic| (first | refine ⟨KeyOK.fn (by assumption) _ _ _ _ (Frag.In.keeps (by assumption) (Fr.keep (by k_asm))) (by k_asm), ?_⟩ | refine ⟨KeyOK.fn (by assumption) [] _ _ _ (Frag.In.keeps (by assumption) (Fr.keep (by k_asm))) (by k_asm), ?_⟩))
local macro_rules | `(tactic| walk_at "compareOp Lt ref") => `(tactic| (refine Stop.at ?_))
local macro_rules | `(tactic| k_mem) => `(tactic| first | assumption | exact List.Mem.head _ | (refine List.Mem.tail _ ?_; k_mem))
local macro_rules | `(tactic| walk_at "compareOp Eq ref") => `(tactic| (refine Stop.at ?_))
local macro_rules | `(tactic| walk_at "setItem ref") => `(tactic| (refine Stop.at ?_))
local macro_rules | `(tactic| walk_at "newList") => `(tactic| (k_dflt (refine' newList_K ?k1 ?k2 ?_; (case k1 => k_asm); (case k2 => k_asm)); intro l' h' F' N' l1))
local macro_rules | `(tactic| walk_at "subscriptTail Name Slice ref ref") => `(tactic| ((with_reducible show wpAny _ _ (subscriptTail _ (PySem.Expr.Slice _ _ none _) (Value.ref _) (Value.ref _)) _ _ _); k_dflt (refine' sliceL ?F ?N ?l ?p ?q ?z ?_ ?s ?t; (case F => k_asm); (case N => k_asm); (case l => k_mem); (case p => first | exact IsPart.none | exact IsPart.int _ _); (case q => first | exact IsPart.none | exact IsPart.int _ _); (case s => with_unfolding_all rfl); (case t => (intro _; with_unfolding_all rfl)); (case z => omega)); intro D' h' F' N' l1))
local macro_rules | `(tactic| walk_at "binaryOp Add ref ref") => `(tactic| ((with_reducible show wpAny _ _ (binaryOp _ (Value.ref _) (Value.ref _)) _ _ _); refine Stop.at ?_))
local macro_rules | `(tactic| ktr_unf) => `(tactic| repeat' (first | (k_unfold; (try dsimp only)) | walk1 | (dsimp only; walk1)))
section
variable {w : World} {dp un : Nat} {gd : Option (List Code)} {cn : Str} {cs : Scope} {L a : Addr} {ccd : Value} {cl : List (Str × Addr)} {outer : List Env} {A₀ : Around} {base h₀ : Heap}
  {m : Str → Option Value} {news : Led} {s : Shared} {Q E : Value → Shared → Prop} {p : Program} {loose : List Str} {mean : ExcName → Option Value} {mg mb : Str → Option Value}
set_option maxRecDepth 100000 in
set_option maxHeartbeats 8000000 in
theorem entered_call {l : Addr} {led : Led} {rv : Value} {vs : List Value} {n : Nat} {sts : List (List Int × Int)} {row : List Int} {count : Int} {tc : Tok}
    (B : Below A₀ base outer h₀) (F : Fr h₀ L s.heap m) (X : (top.heap_39 w.params).In h₀) (N : News h₀ L s.heap ((l, PySem.W.listOf vs.toArray n) :: news)) (T : Top p loose mean mg mb h₀) (hk : cs.kind = .function)
    (off : ∀ p ∈ news, p.1 ≠ l) (hsub : ∀ p ∈ led, p ∈ news) (hS : RA (RP (RL RI) RI) led vs sts) (hrow : RL RI led rv row) (hlen : sts.length ≤ 800) (hdp : dp + 4 ≤ 400) (hun : un + 50 ≤ 5000)
    (ret : ∀ vs' n' tl h' tk', Fr h₀ L h' m → News h₀ L h' ((l, PySem.W.listOf (List.toArray vs') n') :: (tl ++ news)) → (∀ p ∈ tl, l < p.1) → (∀ q ∈ news, ∀ p ∈ tl, q.1 < p.1) → RA (RP (RL RI) RI) (tl ++ led) vs' (enteredF sts row count) → Q .none { s with heap := h', toks := tk' }) :
    wpAny (model PySem.Challenge.rw_pe0007_02.row.prog w) (ktrTop dp un gd cn cs L a ccd cl outer) (call (.ref 71) [.ref l, rv, .int count tc]) Q E s := by
  (have X' := X; revert X'; k_fill; intro _)
  k_dflt (refine' enter (binds := [(Str.ofString "states", .ref l), (Str.ofString "row", rv), (Str.ofString "count", .int count tc)]) B F X N T hk ?ho ?hcd (by omega) ?hb ?hl ?hc ?co ?ge ?hk ?_; (case ho => k_is); (case hcd => k_is); (case hb => exact BindsTo.of_eq rfl); (case hl => exact locs rfl); (case hc => decide); (case co => rfl); (case ge => rfl); (case hk => rfl))
  intro g L' h₁ F' N' B' X' T' lt'
  k_fold
  have hln := hS.length
  have hcL := cLine_is
  have hks : ∀ dm um, dm + 1 ≤ 400 → KeyOK PySem.Challenge.rw_pe0007_02.row.prog w (top.heap_39 w.params) 57 dm um (fun _ => ((l, PySem.W.listOf vs.toArray n) :: news)) vs (fun i r => RL RI ((l, PySem.W.listOf vs.toArray n) :: news) r ((keysOf sts).getD i [])) := fun dm um h => row_key (fun q hq => .tail _ (hsub q hq)) hS h
  have hrow' : RL RI ((l, PySem.W.listOf vs.toArray n) :: news) rv row := RL.mono RI.mono _ _ _ _ (fun q hq => .tail _ (hsub q hq)) hrow
  ktr_unf
  refine Stop.go ?_
  k_dflt (refine bl_key (tl := 229) B' F' X' N' T' rfl (hks _ _ (by omega)) (.head _) hrow' (by omega) (by omega) (by omega) (bd2k_50 (Frag.In.keeps X' (Fr.keep F')) _ _ _) ?_)
  intro t₂ h₂ tk₂ F₂ N₂
  have hpl : bisect (fun i => lexL ltI ((keysOf sts).getD i []) row) 0 vs.length = entPlace sts row := by rw [hln]; rfl
  rw [hpl]
  ktr_unf
  · obtain ⟨a', v1, t₃, n₃, hv, hm', h1⟩ := hS.get2 (i := entPlace sts row) (by omega)
    have hm := hsub _ hm'
    refine itemL (by k_asm) (.head _) (Int.natCast_nonneg _) (by omega) (by rw [Int.toNat_natCast]; exact hv) ?_
    ktr_unf
    refine itemL (by k_asm) (.tail _ hm) (by decide) (by decide) rfl ?_
    ktr_unf
    refine Stop.go ?_
    refine cmp_ofEq ?_
    refine RL.rc (RI.eqR 0) (by k_asm) (RL.mono RI.mono _ _ _ _ (fun q hq => .tail _ (hsub q hq)) h1) hrow' (by show un + 3 + 1 < cLine; omega) _ _ _ _ ?_
    ktr_unf
    · refine itemL (by k_asm) (.head _) (Int.natCast_nonneg _) (by omega) (by rw [Int.toNat_natCast]; exact hv) ?_
      ktr_unf
      refine itemL (by k_asm) (.tail _ hm) (by decide) (by decide) rfl ?_
      ktr_unf
      rename_i l₉ h₉ F₉ N₉ lt₉
      have N₁₀ := News.sub N₉ (n' := (l, PySem.W.listOf vs.toArray n) :: (l₉, _) :: news) (fun q hq => by
        rcases List.mem_cons.mp hq with rfl | hq
        · exact .tail _ (.head _)
        · rcases List.mem_cons.mp hq with rfl | hq
          · exact .head _
          · exact .tail _ (.tail _ hq))
      refine Stop.go ?_
      refine setItemL F₉ N₁₀ (fun q hq => by
        rcases List.mem_cons.mp hq with rfl | hq
        · exact Nat.ne_of_gt (lt₉ _ (.head _))
        · exact off q hq) (Int.natCast_nonneg _) (by rw [Int.toNat_natCast]; omega) (by omega) ?_
      intro h₁₁ F₁₁ N₁₁
      rw [Int.toNat_natCast] at N₁₁
      ktr_unf
      refine Back.mk F₁₁ N₁₁ (fun F N => ret _ _ [(l₉, _)] _ _ F N ?_ ?_ ?_)
      · intro q hq; rw [List.mem_singleton.mp hq]; exact lt₉ _ (.head _)
      · intro q hq p hp; rw [List.mem_singleton.mp hp]; exact lt₉ _ (.tail _ hq)
      · rw [enteredF, if_pos ⟨by omega, by assumption⟩]
        refine (hS.mono (RP.mono (RL.mono RI.mono) RI.mono) (fun q hq => .tail _ hq)).set (x := (row, (sts.getD (entPlace sts row) ([], 0)).2 + count)) ⟨l₉, rv, _, 0, rfl, .head _, RL.mono RI.mono _ _ _ _ (fun q hq => .tail _ hq) hrow, ⟨_, rfl⟩⟩ _
    · rename_i l₉ h₉ F₉ N₉ lt₉
      refine Stop.go ?_
      have N₁₀ := News.sub N₉ (n' := (l, PySem.W.listOf vs.toArray n) :: (l₉, PySem.W.listOf (List.toArray [rv, .int count tc]) 0) :: news) (fun q hq => by
        rcases List.mem_cons.mp hq with rfl | hq
        · exact .tail _ (.head _)
        · rcases List.mem_cons.mp hq with rfl | hq
          · exact .head _
          · exact .tail _ (.tail _ hq))
      have hsub2 : ∀ q ∈ led, q ∈ (l, PySem.W.listOf vs.toArray n) :: (l₉, PySem.W.listOf (List.toArray [rv, .int count tc]) 0) :: news := fun q hq => .tail _ (.tail _ (hsub q hq))
      have hent : RA (RP (RL RI) RI) ((l₉, PySem.W.listOf (List.toArray [rv, .int count tc]) 0) :: led) [.ref l₉] [(row, count)] := .cons ⟨l₉, rv, .int count tc, 0, rfl, .head _, RL.mono RI.mono _ _ _ _ (fun q hq => .tail _ hq) hrow, ⟨_, rfl⟩⟩ .nil
      k_dflt (refine ir_key (tl := 189) (xs := row) (ks := keysOf sts) (news := (l₉, PySem.W.listOf (List.toArray [rv, .int count tc]) 0) :: news) B' F₉ X' N₁₀ T' rfl (fun q hq => by
        rcases List.mem_cons.mp hq with rfl | hq
        · exact Nat.ne_of_gt (lt₉ _ (.head _))
        · exact off q hq) (by omega) (by omega) (by omega) (row_key hsub2 hS (by omega)) ((row_key (fun q hq => by
          rcases List.mem_cons.mp hq with rfl | hq
          · exact .tail _ (.head _)
          · exact .tail _ (.tail _ (hsub q hq))) hent (by omega)).imp fun i v r hi hr => by
          cases i with
          | zero => exact hr
          | succ i => simp at hi) (bd2k_23 (Frag.In.keeps X' (Fr.keep F₉)) _ _ _) ?_)
      intro h₁₁ tk₁₁ F₁₁ N₁₁
      have hpt : bisect (fun i => !lexL ltI row ((keysOf sts).getD i [])) 0 vs.length = entPut sts row := by rw [hln]; rfl
      rw [hpt] at N₁₁
      ktr_unf
      refine Back.mk F₁₁ N₁₁ (fun F N => ret _ _ [(l₉, PySem.W.listOf (List.toArray [rv, .int count tc]) 0)] _ _ F N ?_ ?_ ?_)
      · intro q hq; rw [List.mem_singleton.mp hq]; exact lt₉ _ (.head _)
      · intro q hq p hp; rw [List.mem_singleton.mp hp]; exact lt₉ _ (.tail _ hq)
      · rw [enteredF, if_neg (fun hc => absurd hc.2 (by assumption))]
        have hS' : RA (RP (RL RI) RI) ([(l₉, PySem.W.listOf (List.toArray [rv, .int count tc]) 0)] ++ led) vs sts := hS.mono (RP.mono (RL.mono RI.mono) RI.mono) (fun q hq => .tail _ hq)
        exact (hS'.take _).append (.cons (by cases hent with | cons h _ => exact h) (hS'.drop _))
  · rename_i l₉ h₉ F₉ N₉ lt₉
    refine Stop.go ?_
    have N₁₀ := News.sub N₉ (n' := (l, PySem.W.listOf vs.toArray n) :: (l₉, PySem.W.listOf (List.toArray [rv, .int count tc]) 0) :: news) (fun q hq => by
      rcases List.mem_cons.mp hq with rfl | hq
      · exact .tail _ (.head _)
      · rcases List.mem_cons.mp hq with rfl | hq
        · exact .head _
        · exact .tail _ (.tail _ hq))
    have hsub2 : ∀ q ∈ led, q ∈ (l, PySem.W.listOf vs.toArray n) :: (l₉, PySem.W.listOf (List.toArray [rv, .int count tc]) 0) :: news := fun q hq => .tail _ (.tail _ (hsub q hq))
    have hent : RA (RP (RL RI) RI) ((l₉, PySem.W.listOf (List.toArray [rv, .int count tc]) 0) :: led) [.ref l₉] [(row, count)] := .cons ⟨l₉, rv, .int count tc, 0, rfl, .head _, RL.mono RI.mono _ _ _ _ (fun q hq => .tail _ hq) hrow, ⟨_, rfl⟩⟩ .nil
    k_dflt (refine ir_key (tl := 189) (xs := row) (ks := keysOf sts) (news := (l₉, PySem.W.listOf (List.toArray [rv, .int count tc]) 0) :: news) B' F₉ X' N₁₀ T' rfl (fun q hq => by
      rcases List.mem_cons.mp hq with rfl | hq
      · exact Nat.ne_of_gt (lt₉ _ (.head _))
      · exact off q hq) (by omega) (by omega) (by omega) (row_key hsub2 hS (by omega)) ((row_key (fun q hq => by
        rcases List.mem_cons.mp hq with rfl | hq
        · exact .tail _ (.head _)
        · exact .tail _ (.tail _ (hsub q hq))) hent (by omega)).imp fun i v r hi hr => by
        cases i with
        | zero => exact hr
        | succ i => simp at hi) (bd2k_23 (Frag.In.keeps X' (Fr.keep F₉)) _ _ _) ?_)
    intro h₁₁ tk₁₁ F₁₁ N₁₁
    have hpt : bisect (fun i => !lexL ltI row ((keysOf sts).getD i [])) 0 vs.length = entPut sts row := by rw [hln]; rfl
    rw [hpt] at N₁₁
    ktr_unf
    refine Back.mk F₁₁ N₁₁ (fun F N => ret _ _ [(l₉, PySem.W.listOf (List.toArray [rv, .int count tc]) 0)] _ _ F N ?_ ?_ ?_)
    · intro q hq; rw [List.mem_singleton.mp hq]; exact lt₉ _ (.head _)
    · intro q hq p hp; rw [List.mem_singleton.mp hp]; exact lt₉ _ (.tail _ hq)
    · rw [enteredF, if_neg (by omega)]
      have hS' : RA (RP (RL RI) RI) ([(l₉, PySem.W.listOf (List.toArray [rv, .int count tc]) 0)] ++ led) vs sts := hS.mono (RP.mono (RL.mono RI.mono) RI.mono) (fun q hq => .tail _ hq)
      exact (hS'.take _).append (.cons (by cases hent with | cons h _ => exact h) (hS'.drop _))
end
end Mine
namespace Mine
def ledStep (up count : Int) (row : List Int) (made : List (List Int × Int)) (bead : Int) : List (List Int × Int) :=
  match movedF row bead up with
  | none => made
  | some p => enteredF made p.1 (p.2 * count)
def ledRow (up : Int) (made : List (List Int × Int)) (st : List Int × Int) : List (List Int × Int) := st.1.foldl (ledStep up st.2 st.1) made
def ledMade (sts : List (List Int × Int)) (up : Int) : List (List Int × Int) := sts.foldl (ledRow up) []
def ledF (sts : List (List Int × Int)) (up : Int) : List (List Int × Int) := (ledMade sts up).filter fun st => !decide (st.2 = 0)
theorem ledStep_len (up count : Int) (row : List Int) (made : List (List Int × Int)) (bead : Int) : (ledStep up count row made bead).length ≤ made.length + 1 := by
  unfold ledStep
  split
  · omega
  · exact enteredF_len _ _ _
theorem movedF_sign {row : List Int} {bead up : Int} {p : List Int × Int} (h : movedF row bead up = some p) : p.2 = 1 ∨ p.2 = -1 := by
  unfold movedF at h
  split at h
  · cases h
  · cases h
    dsimp only
    split
    · exact .inl rfl
    · exact .inr rfl
theorem foldl_take {α β : Type} (f : β → α → β) (b : β) (l : List α) {i : Nat} {x : α} (h : l[i]? = some x) : (l.take (i + 1)).foldl f b = f ((l.take i).foldl f b) x := by
  rw [List.take_add_one, h]; simp
theorem filter_take {α : Type} (f : α → Bool) (l : List α) {i : Nat} {x : α} (h : l[i]? = some x) : (l.take (i + 1)).filter f = (l.take i).filter f ++ (if f x then [x] else []) := by
  rw [List.take_add_one, h, List.filter_append]
  by_cases hf : f x <;> simp [hf]
/-- a list that is new, ahead of what it holds -/
def RLT {α : Type} (R : Led → Value → α → Prop) (tl : Led) (v : Value) (xs : List α) : Prop :=
  ∃ D ys n tl', tl = (D, PySem.W.listOf (List.toArray ys) n) :: tl' ∧ v = .ref D ∧ (∀ p ∈ tl', p.1 ≠ D) ∧ RA R tl' ys xs
theorem RLT.rl {α : Type} {R : Led → Value → α → Prop} (hR : Mono R) {tl : Led} {v : Value} {xs : List α} (h : RLT R tl v xs) : RL R tl v xs := by
  obtain ⟨D, ys, n, tl', rfl, rfl, _, hY⟩ := h
  exact ⟨D, ys, n, rfl, .head _, hY.mono hR fun q hq => .tail _ hq⟩
/-- the state of the loops: the list made, what is made for it, what stood before -/
def LedJ (news : Led) (la : Addr) (up : Int) (tu : Tok) (made : List (List Int × Int)) (own : Led) (m₁ : Str → Option Value) (n₁ : Led) : Prop :=
  ∃ vs' n' tl, n₁ = own ++ (la, PySem.W.listOf (List.toArray vs') n') :: (tl ++ news) ∧ (∀ p ∈ tl, la < p.1) ∧ (∀ q ∈ news, ∀ p ∈ tl, q.1 < p.1) ∧ (∀ q ∈ own, ∀ p ∈ tl, q.1 ≠ p.1) ∧
    RA (RP (RL RI) RI) tl vs' made ∧ m₁ (Str.ofString "made") = some (.ref la) ∧ m₁ (Str.ofString "by") = some (.int up tu)
local macro_rules | `(tactic| tb_start) => `(tactic| repeat (first | assumption | exact rfl | exact upd_eq | refine upd_ne (by decide) ?_))
local macro_rules | `(tactic| walk_at "eval Name") => `(tactic| (k_dflt (refine' nameX_L ?k1 ?k2 ?_ ?k4 ?k5; (case k4 => exact rfl); (case k5 => exact rfl); (case k1 => k_asm); (case k2 => tb_start))))
local macro_rules | `(tactic| walk_at "execs cons") => `(tactic| ((with_reducible show wpAny _ _ (execs (Stmt.While _ _ _ _ :: _) _) _ _ _); refine execs_stop ?_))
local macro_rules | `(tactic| walk_at "execs cons") => `(tactic| ((with_reducible show wpAny _ _ (execs (Stmt.For _ _ _ _ _ :: _) _) _ _ _); refine execs_stop ?_))
local macro_rules | `(tactic| walk_at "call ref") => `(tactic| ((with_reducible show wpAny _ _ (call (Value.ref _) _ _) _ _ _); refine Stop.at ?_))
local macro_rules | `(tactic| walk_at "call builtin:list.insert") => `(tactic| (refine Stop.at ?_))
local macro_rules | `(tactic| walk_at "call builtin:len") => `(tactic| ((with_reducible show wpAny _ _ (call (Value.builtin _) [Value.ref _]) _ _ _); refine lenL (by k_asm) (by k_mem) (by omega) ?_))
local macro_rules | `(tactic| walk_at "callWith ref") => `(tactic| (first | refine callWith_F (KeyOK.fn (by assumption) _ _ _ _ (Frag.In.keeps (by assumption) (Fr.keep (by k_asm))) (by k_asm)) ?_ | refine callWith_F (KeyOK.fn (by assumption) [] _ _ _ (Frag.In.keeps (by assumption) (Fr.keep (by k_asm))) (by k_asm)) ?_))
local macro_rules | `(tactic| walk_at "And") => `(tactic| (first | refine ⟨KeyOK.fn (by assumption) _ _ _ _ (Frag.In.keeps (by assumption) (Fr.keep (by k_asm))) (by k_asm), ?_⟩ | refine ⟨KeyOK.fn (by assumption) [] _ _ _ (Frag.In.keeps (by assumption) (Fr.keep (by k_asm))) (by k_asm), ?_⟩))
local macro_rules | `(tactic| walk_at "compareOp Lt ref") => `(tactic| (refine Stop.at ?_))
local macro_rules | `(tactic| k_mem) => `(tactic| first | assumption | exact List.Mem.head _ | (refine List.Mem.tail _ ?_; k_mem))
local macro_rules | `(tactic| walk_at "compareOp Eq ref") => `(tactic| (refine Stop.at ?_))
local macro_rules | `(tactic| walk_at "setItem ref") => `(tactic| (refine Stop.at ?_))
local macro_rules | `(tactic| walk_at "pyIter ref") => `(tactic| (refine Stop.at ?_))
local macro_rules | `(tactic| walk_at "binaryOp Mult int int") => `(tactic| (refine Stop.at ?_))
local macro_rules | `(tactic| walk_at "CompSrcT") => `(tactic| (refine Stop.at ?_))
local macro_rules | `(tactic| walk_at "CompSrc") => `(tactic| (refine Stop.at ?_))
local macro_rules | `(tactic| walk_at "CompEnd") => `(tactic| (refine Stop.at ?_))
local macro_rules | `(tactic| walk_at "eval ListComp") => `(tactic| (refine Stop.at ?_))
local macro_rules | `(tactic| walk_at "newList") => `(tactic| (k_dflt (refine' newList_K ?k1 ?k2 ?_; (case k1 => k_asm); (case k2 => k_asm)); intro l' h' F' N' l1))
local macro_rules | `(tactic| walk_at "subscriptTail Name Slice ref ref") => `(tactic| ((with_reducible show wpAny _ _ (subscriptTail _ (PySem.Expr.Slice _ _ none _) (Value.ref _) (Value.ref _)) _ _ _); k_dflt (refine' sliceL ?F ?N ?l ?p ?q ?z ?_ ?s ?t; (case F => k_asm); (case N => k_asm); (case l => k_mem); (case p => first | exact IsPart.none | exact IsPart.int _ _); (case q => first | exact IsPart.none | exact IsPart.int _ _); (case s => with_unfolding_all rfl); (case t => (intro _; with_unfolding_all rfl)); (case z => omega)); intro D' h' F' N' l1))
local macro_rules | `(tactic| walk_at "binaryOp Add ref ref") => `(tactic| ((with_reducible show wpAny _ _ (binaryOp _ (Value.ref _) (Value.ref _)) _ _ _); refine Stop.at ?_))
local macro_rules | `(tactic| ktr_unf) => `(tactic| repeat' (first | (k_unfold; (try dsimp only)) | walk1 | (dsimp only; walk1)))
section
variable {w : World} {dp un : Nat} {gd : Option (List Code)} {cn : Str} {cs : Scope} {L a : Addr} {ccd : Value} {cl : List (Str × Addr)} {outer : List Env} {A₀ : Around} {base h₀ : Heap}
  {m : Str → Option Value} {news : Led} {s : Shared} {Q E : Value → Shared → Prop} {p : Program} {loose : List Str} {mean : ExcName → Option Value} {mg mb : Str → Option Value}
set_option maxRecDepth 100000 in
set_option maxHeartbeats 8000000 in
theorem led_call {l : Addr} {vs : List Value} {n : Nat} {sts : List (List Int × Int)} {up : Int} {tu : Tok}
    (B : Below A₀ base outer h₀) (F : Fr h₀ L s.heap m) (X : (top.heap_39 w.params).In h₀) (N : News h₀ L s.heap news) (T : Top p loose mean mg mb h₀) (hk : cs.kind = .function)
    (hl : (l, PySem.W.listOf vs.toArray n) ∈ news) (hS : RA (RP (RL RI) RI) news vs sts) (hlen : sts.length ≤ 30) (hrows : ∀ st ∈ sts, st.1.length ≤ 20) (hdp : dp + 5 ≤ 400) (hun : un + 60 ≤ 5000)
    (ret : ∀ r tl h' tk', Fr h₀ L h' m → News h₀ L h' (tl ++ news) → (∀ q ∈ news, ∀ p ∈ tl, q.1 ≠ p.1) → RLT (RP (RL RI) RI) tl r (ledF sts up) → Q r { s with heap := h', toks := tk' }) :
    wpAny (model PySem.Challenge.rw_pe0007_02.row.prog w) (ktrTop dp un gd cn cs L a ccd cl outer) (call (.ref 76) [.ref l, .int up tu]) Q E s := by
  (have X' := X; revert X'; k_fill; intro hX9; clear hX9)
  k_dflt (refine' enter (binds := [(Str.ofString "states", .ref l), (Str.ofString "by", .int up tu)]) B F X N T hk ?ho ?hcd (by omega) ?hb ?hl ?hc ?co ?ge ?hk ?_; (case ho => k_is); (case hcd => k_is); (case hb => exact BindsTo.of_eq rfl); (case hl => exact locs rfl); (case hc => decide); (case co => rfl); (case ge => rfl); (case hk => rfl))
  intro g L' h₁ F' N' B' X' T' lt'
  k_fold
  have hln := hS.length
  have hcL := cLine_is
  ktr_unf
  rename_i la h₂ lta h₃ F₃ N₃
  refine Stop.go ?_
  refine For_turns F₃ ?_ (hE := PassesOwn.never)
  ktr_unf
  refine Stop.go ?_
  refine forL (fun i m₁ n₁ => LedJ news la up tu ((sts.take i).foldl (ledRow up) []) [] m₁ n₁ ∧ ((sts.take i).foldl (ledRow up) []).length ≤ 20 * i) rfl (by k_asm) (by k_asm) (.tail _ hl)
    ⟨⟨[], 0, [], rfl, (fun _ h => nomatch h), (fun _ _ _ h => nomatch h), (fun _ _ _ h => nomatch h), .nil, rfl, rfl⟩, Nat.le_refl _⟩ ?_ ?_
  · rintro i v I oI m₁ n₁ h₄ tk₄ hv ⟨⟨vs', n', tl, rfl, o1, o2, o3, hR, e1, e2⟩, hml⟩ hm₁ off F₄ N₄
    obtain ⟨st, hst, a', v1, v2, n₃, rfl, hm, h1, t₂, rfl⟩ := hS.get' hv
    k_dflt (refine kun_list (by k_asm) (by k_asm) (isListOf N₄ (.tail _ (.tail _ (List.mem_append_right _ hm)))) rfl rfl rfl ?_)
    intro h₅ F₅ N₅
    ktr_unf
    rename_i h₆ h₇ F₇ N₇
    obtain ⟨ra, ws, nr, rfl, hra, hws⟩ := h1
    have hst20 : st.1.length ≤ 20 := hrows st (List.mem_of_getElem? hst)
    have hi30 : i < sts.length := (List.getElem?_eq_some_iff.mp hst).1
    refine Stop.go ?_
    refine For_turns F₇ ?_ (hE := PassesOwn.never)
    ktr_unf
    refine Stop.go ?_
    refine forL (fun j m₂ n₂ => LedJ news la up tu ((st.1.take j).foldl (ledStep up st.2 st.1) ((sts.take i).foldl (ledRow up) [])) [(I, oI)] m₂ n₂ ∧ ((st.1.take j).foldl (ledStep up st.2 st.1) ((sts.take i).foldl (ledRow up) [])).length ≤ 20 * i + j ∧
        m₂ (Str.ofString "row") = some (.ref ra) ∧ m₂ (Str.ofString "count") = some (.int st.2 t₂)) rfl (by k_asm) (by k_asm) (.tail _ (.tail _ (List.mem_append_right _ hra)))
      ⟨⟨vs', n', tl, rfl, o1, o2, fun q hq p hp => by rw [List.mem_singleton.mp hq]; exact (off p (.tail _ (List.mem_append_left _ hp))).symm, hR, by tb_start, by tb_start⟩, hml, by tb_start, by tb_start⟩ ?_ ?_
    · rintro j v I2 oI2 m₂ n₂ h₈ tk₈ hv2 ⟨⟨vs2, n2, tl2, rfl, p1, p2, p3, hR2, f1, f2⟩, hml2, f3, f4⟩ hm₂ off2 F₈ N₈
      obtain ⟨b, hb, t, rfl⟩ := hws.get' hv2
      ktr_unf
      refine Stop.go ?_
      k_dflt (refine moved_call (l := ra) B' (by k_asm) X' (by k_asm) T' rfl (.tail _ hm₂) (RA.ofInts hws.ints) (by omega) (by omega) ?_)
      intro r tl₃ h₉ tk₉ F₉ N₉ fr₉ hr₉
      cases hmv : movedF st.1 b up with
      | none =>
        rw [hmv] at hr₉
        have hr₉ : r = .none := hr₉
        subst hr₉
        have hstep : (st.1.take (j + 1)).foldl (ledStep up st.2 st.1) ((sts.take i).foldl (ledRow up) []) = (st.1.take j).foldl (ledStep up st.2 st.1) ((sts.take i).foldl (ledRow up) []) := by
          rw [foldl_take _ _ _ hb]; unfold ledStep; rw [hmv]
        ktr_unf
        rename_i h₁₀ F₁₀ N₁₀
        exact LPost.next F₁₀ N₁₀ ([(I, oI)] ++ (la, _) :: (tl2 ++ news)) (fun p hp => List.mem_append_right _ hp) off2 hm₂ ⟨⟨vs2, n2, tl2, rfl, p1, p2, p3, hstep ▸ hR2, by tb_start, by tb_start⟩, by rw [hstep]; omega, by tb_start, by tb_start⟩
      | some pr =>
        rw [hmv] at hr₉
        obtain ⟨ma, w1, w2, nm, rfl, hma, hw1, tw, rfl⟩ := hr₉
        have hstep : (st.1.take (j + 1)).foldl (ledStep up st.2 st.1) ((sts.take i).foldl (ledRow up) []) = enteredF ((st.1.take j).foldl (ledStep up st.2 st.1) ((sts.take i).foldl (ledRow up) [])) pr.1 (pr.2 * st.2) := by
          rw [foldl_take _ _ _ hb]; unfold ledStep; rw [hmv]
        have hj20 : j < st.1.length := (List.getElem?_eq_some_iff.mp hb).1
        ktr_unf
        refine itemL (by k_asm) (List.mem_append_left _ hma) (by decide) (by decide) rfl ?_
        ktr_unf
        refine itemL (by k_asm) (List.mem_append_left _ hma) (by decide) (by decide) rfl ?_
        ktr_unf
        refine Stop.go ?_
        refine mul_int ?_ (IntMulOk.of_left (by rcases movedF_sign hmv with e | e <;> rw [e] <;> decide))
        ktr_unf
        rename_i h₁₀ F₁₀ N₁₀
        refine Stop.go ?_
        have laI : la ≠ I := off _ (.head _)
        have laI2 : la ≠ I2 := off2 _ (.tail _ (.head _))
        have N₁₁ := News.sub N₁₀ (n' := (la, PySem.W.listOf vs2.toArray n2) :: (tl₃ ++ (I2, oI2) :: (I, oI) :: (tl2 ++ news))) (fun q hq => by
          rcases List.mem_cons.mp hq with rfl | hq
          · exact List.mem_append_right _ (.tail _ (.tail _ (.head _)))
          · rcases List.mem_append.mp hq with hq | hq
            · exact List.mem_append_left _ hq
            · rcases List.mem_cons.mp hq with rfl | hq
              · exact List.mem_append_right _ (.head _)
              · rcases List.mem_cons.mp hq with rfl | hq
                · exact List.mem_append_right _ (.tail _ (.head _))
                · exact List.mem_append_right _ (.tail _ (.tail _ (.tail _ hq))))
        have offa : ∀ q ∈ tl₃ ++ (I2, oI2) :: (I, oI) :: (tl2 ++ news), q.1 ≠ la := fun q hq => by
          rcases List.mem_append.mp hq with hq | hq
          · exact Nat.ne_of_gt (fr₉ _ (.tail _ (.tail _ (.head _))) q hq)
          · rcases List.mem_cons.mp hq with rfl | hq
            · exact laI2.symm
            · rcases List.mem_cons.mp hq with rfl | hq
              · exact laI.symm
              · rcases List.mem_append.mp hq with hq | hq
                · exact Nat.ne_of_gt (p1 q hq)
                · exact Nat.ne_of_lt (lta q hq)
        have subb : ∀ q ∈ tl₃ ++ tl2, q ∈ tl₃ ++ (I2, oI2) :: (I, oI) :: (tl2 ++ news) := fun q hq => by
          rcases List.mem_append.mp hq with hq | hq
          · exact List.mem_append_left _ hq
          · exact List.mem_append_right _ (.tail _ (.tail _ (List.mem_append_left _ hq)))
        k_dflt (refine entered_call (led := tl₃ ++ tl2) B' F₁₀ X' N₁₁ T' rfl offa subb (hR2.mono (RP.mono (RL.mono RI.mono) RI.mono) (fun q hq => List.mem_append_right _ hq)) (RL.mono RI.mono _ _ _ _ (fun q hq => List.mem_append_left _ hq) hw1) (by omega) (by omega) (by omega) ?_)
        intro vs3 n3 tl4 h₁₂ tk₁₂ F₁₂ N₁₂ g1 g2 hR3
        ktr_unf
        have hlen3 := enteredF_len ((st.1.take j).foldl (ledStep up st.2 st.1) ((sts.take i).foldl (ledRow up) [])) pr.1 (pr.2 * st.2)
        refine LPost.next F₁₂ N₁₂ ([(I, oI)] ++ (la, PySem.W.listOf vs3.toArray n3) :: ((tl4 ++ (tl₃ ++ tl2)) ++ news)) (fun q hq => ?_) (fun q hq => ?_) ?_ ⟨⟨vs3, n3, tl4 ++ (tl₃ ++ tl2), rfl, fun q hq => ?_, fun q hq p hp => ?_, fun q hq p hp => ?_, hstep ▸ hR3, by tb_start, by tb_start⟩, by rw [hstep]; omega, by tb_start, by tb_start⟩
        · rcases List.mem_cons.mp hq with rfl | hq
          · exact .tail _ (List.mem_append_right _ (List.mem_append_right _ (.head _)))
          · rcases List.mem_cons.mp hq with rfl | hq
            · exact .tail _ (List.mem_append_right _ (List.mem_append_right _ (.tail _ (.head _))))
            · rcases List.mem_cons.mp hq with rfl | hq
              · exact .head _
              · rcases List.mem_append.mp hq with hq | hq
                · rcases List.mem_append.mp hq with hq | hq
                  · exact .tail _ (List.mem_append_left _ hq)
                  · rcases List.mem_append.mp hq with hq | hq
                    · exact .tail _ (List.mem_append_right _ (List.mem_append_left _ hq))
                    · exact .tail _ (List.mem_append_right _ (List.mem_append_right _ (.tail _ (.tail _ (List.mem_append_left _ hq)))))
                · exact .tail _ (List.mem_append_right _ (List.mem_append_right _ (.tail _ (.tail _ (List.mem_append_right _ hq)))))
        · rcases List.mem_cons.mp hq with rfl | hq
          · exact off2 _ (.head _)
          · rcases List.mem_cons.mp hq with rfl | hq
            · exact laI2
            · rcases List.mem_append.mp hq with hq | hq
              · rcases List.mem_append.mp hq with hq | hq
                · exact Nat.ne_of_gt (g2 _ (List.mem_append_right _ (.head _)) q hq)
                · rcases List.mem_append.mp hq with hq | hq
                  · exact Nat.ne_of_gt (fr₉ _ (.head _) q hq)
                  · exact off2 q (.tail _ (.tail _ (List.mem_append_left _ hq)))
              · exact off2 q (.tail _ (.tail _ (List.mem_append_right _ hq)))
        · exact .tail _ (.tail _ (List.mem_append_right _ hra))
        · rcases List.mem_append.mp hq with hq | hq
          · exact g1 q hq
          · rcases List.mem_append.mp hq with hq | hq
            · exact fr₉ _ (.tail _ (.tail _ (.head _))) q hq
            · exact p1 q hq
        · rcases List.mem_append.mp hp with hp | hp
          · exact g2 q (List.mem_append_right _ (.tail _ (.tail _ (List.mem_append_right _ hq)))) p hp
          · rcases List.mem_append.mp hp with hp | hp
            · exact fr₉ q (.tail _ (.tail _ (.tail _ (List.mem_append_right _ hq)))) p hp
            · exact p2 q hq p hp
        · rcases List.mem_append.mp hp with hp | hp
          · rw [List.mem_singleton.mp hq]
            exact Nat.ne_of_lt (g2 _ (List.mem_append_right _ (.tail _ (.head _))) p hp)
          · rcases List.mem_append.mp hp with hp | hp
            · rw [List.mem_singleton.mp hq]
              exact Nat.ne_of_lt (fr₉ _ (.tail _ (.head _)) p hp)
            · exact p3 q hq p hp
    · rintro m₂ n₂ h₈ tk₈ ⟨⟨vs2, n2, tl2, rfl, p1, p2, p3, hR2, f1, f2⟩, hml2, f3, f4⟩ F₈ N₈
      have hwl := hws.length
      have hstep : (sts.take (i + 1)).foldl (ledRow up) [] = (st.1.take ws.length).foldl (ledStep up st.2 st.1) ((sts.take i).foldl (ledRow up) []) := by
        have ht : st.1.take ws.length = st.1 := List.take_of_length_le (by omega)
        rw [foldl_take _ _ _ hst, ht]; rfl
      ktr_unf
      refine LPost.next F₈ N₈ ((la, PySem.W.listOf vs2.toArray n2) :: (tl2 ++ news)) (fun q hq => hq) (fun q hq => ?_) (.tail _ (List.mem_append_right _ hl)) ⟨⟨vs2, n2, tl2, rfl, p1, p2, (fun _ h => nomatch h), hstep ▸ hR2, f1, f2⟩, by rw [hstep]; omega⟩
      have laI : la ≠ I := off _ (.head _)
      rcases List.mem_cons.mp hq with rfl | hq
      · exact laI
      · rcases List.mem_append.mp hq with hq | hq
        · exact (p3 _ (.head _) q hq).symm
        · exact off q (.tail _ (List.mem_append_right _ hq))
  · rintro m₂ n₂ h₈ tk₈ ⟨⟨vs2, n2, tl2, rfl, p1, p2, p3, hR2, f1, f2⟩, hml2⟩ F₈ N₈
    have hvl := hR2.length
    have htk : sts.take vs.length = sts := List.take_of_length_le (Nat.le_of_eq hln.symm)
    rw [htk] at hR2 hml2 hvl
    have hR2 : RA (RP (RL RI) RI) tl2 vs2 (ledMade sts up) := hR2
    have hvl : vs2.length = (ledMade sts up).length := hvl
    have hml2 : (ledMade sts up).length ≤ 20 * vs.length := hml2
    ktr_unf
    refine Stop.go ?_
    k_dflt (refine LCt.ListComp_T (F₀ := by k_asm) (by with_unfolding_all rfl) (by decide) (by rfl) (by decide) (by rfl) ?_)
    ktr_unf
    refine Stop.go ?_
    refine LCt.CompSrcT.ledger rfl (by k_asm) (by k_asm) (List.Mem.head _) (by rw [List.size_toArray, sizeLine_eq]; omega) ?_
    intro g₉
    refine restT (N := vs2.length) (fun i ys n₁ => n₁ = (la, PySem.W.listOf vs2.toArray n2) :: (tl2 ++ news) ∧ RA (RP (RL RI) RI) tl2 ys (((ledMade sts up).take i).filter fun st => !decide (st.2 = 0))) ?_ ?_ _ 0 [] _ (by simp) ⟨rfl, .nil⟩
    · rintro i v I oI C oC D m₃ h₉ tk₉ E' ys n₁ hi hv ⟨rfl, hY⟩ hC hx F₉ N₉ off ne
      obtain ⟨st, hst, a', v1, v2, n₃, rfl, hm, h1, t₂, rfl⟩ := hR2.get' (by simpa using hv)
      have hft := filter_take (fun st : List Int × Int => !decide (st.2 = 0)) _ hst
      ktr_unf
      refine itemL (by k_asm) (.tail _ (.tail _ (.tail _ (.tail _ (List.mem_append_left _ hm))))) (by decide) (by decide) rfl ?_
      ktr_unf
      · refine Stop.go ?_
        refine compEnd (by k_asm) (by k_asm) ((la, PySem.W.listOf vs2.toArray n2) :: (tl2 ++ news)) (fun _ h => h) off (srcAt (.head _)) ⟨rfl, ?_⟩
        rw [hft, if_pos (by simpa using (by assumption : st.2 ≠ 0))]
        exact hY.append (.cons ⟨a', v1, _, _, rfl, hm, h1, ⟨_, rfl⟩⟩ .nil)
      · refine Stop.go ?_
        refine compEnd (by k_asm) (by k_asm) ((la, PySem.W.listOf vs2.toArray n2) :: (tl2 ++ news)) (fun _ h => h) off (srcAt (.head _)) ⟨rfl, ?_⟩
        rw [hft, if_neg (by simpa using (by assumption : st.2 = 0)), List.append_nil]
        exact hY
    · rintro ys n₁ ⟨rfl, hY⟩
      intro D h₉ tk₉ F₉ N₉ off
      rw [List.take_of_length_le (Nat.le_of_eq hvl.symm)] at hY
      refine Back.mk F₉ N₉ (fun F N => ret (.ref D) ((D, PySem.W.listOf ys.toArray ys.length) :: tl2) _ _ F (News.sub N (fun q hq => ?_)) (fun q hq p hp => ?_) ⟨D, ys, _, tl2, rfl, rfl, fun q hq => off1 off q (.tail _ (List.mem_append_left _ hq)), hY⟩)
      · rcases List.mem_cons.mp hq with rfl | hq
        · exact .head _
        · exact .tail _ (.tail _ hq)
      · rcases List.mem_cons.mp hp with rfl | hp
        · exact off1 off q (.tail _ (List.mem_append_right _ hq))
        · exact Nat.ne_of_lt (p2 q hq p hp)
end
end Mine
namespace Mine

def plainRest (row : List Int) (bead goal : Int) : List Int := isort ltI ((row.filter fun b => !decide (b = bead)) ++ [goal])
def btw (bead goal b : Int) : Bool := decide ((if goal < bead then goal else bead) < b) && decide (b < if goal > bead then goal else bead)
def plainBetween (row : List Int) (bead goal : Int) : List Int := row.filter (btw bead goal)
def plainStep (row : List Int) (up : Int) (made : List (List Int × Int)) (bead : Int) : List (List Int × Int) :=
  if 0 ≤ bead + up ∧ ¬ bead + up ∈ row then made ++ [(plainRest row bead (bead + up), if Int.fmod ((plainBetween row bead (bead + up)).length : Int) 2 = 0 then 1 else -1)] else made
def plainF (row : List Int) (up : Int) : List (List Int × Int) := isort (lexP (lexL ltI) ltI) (row.foldl (plainStep row up) [])
theorem plain_order {h₀ h : Heap} {L : Addr} {lp d5 d4 x d2 d g b i m : Addr × Obj} {rest : Led} (N : News h₀ L h (lp :: d5 :: d4 :: x :: d2 :: d :: g :: b :: i :: m :: rest)) : News h₀ L h (m :: lp :: d5 :: g :: b :: i :: rest) :=
  News.sub N (fun q hq => by simp only [List.mem_cons] at hq ⊢; grind)
theorem plain_back {lp d5 g b i m : Addr × Obj} {tl news : Led} : ∀ p ∈ i :: g :: b :: m :: ((lp :: d5 :: tl) ++ news), p ∈ m :: lp :: d5 :: g :: b :: i :: (tl ++ news) := fun p hp => by
  simp only [List.mem_cons, List.mem_append] at hp ⊢; grind
theorem offP {a b d : Addr} {x : Addr × Obj} {l : Led} (h : x.1 ≠ a ∧ x.1 ≠ b ∧ x.1 ≠ d) (t : ∀ p ∈ l, p.1 ≠ a ∧ p.1 ≠ b ∧ p.1 ≠ d) : ∀ p ∈ x :: l, p.1 ≠ a ∧ p.1 ≠ b ∧ p.1 ≠ d := fun p hp => by
  rcases List.mem_cons.mp hp with rfl | hp
  · exact h
  · exact t p hp
theorem offS {c : Addr} {x : Addr × Obj} {l : Led} (h : c ≠ x.1) (t : ∀ p ∈ l, c ≠ p.1) : ∀ p ∈ x :: l, c ≠ p.1 := fun p hp => by
  rcases List.mem_cons.mp hp with rfl | hp
  · exact h
  · exact t p hp
/-- the state of the loop -/
def PlainJ (news : Led) (c1 c2 la : Addr) (ra : Addr) (up : Int) (tu : Tok) (made : List (List Int × Int)) (own : Led) (m₁ : Str → Option Value) (n₁ : Led) : Prop :=
  ∃ o1 o2 w1 w2 vs' n' tl, n₁ = own ++ (c1, o1) :: (c2, o2) :: (la, PySem.W.listOf (List.toArray vs') n') :: (tl ++ news) ∧ o1.data = .cell w1 ∧ o2.data = .cell w2 ∧ (∀ p ∈ tl, p.1 ≠ la ∧ p.1 ≠ c1 ∧ p.1 ≠ c2) ∧ (∀ q ∈ news, ∀ p ∈ tl, q.1 ≠ p.1) ∧ (∀ q ∈ own, ∀ p ∈ tl, q.1 ≠ p.1) ∧
    RA (RP (RL RI) RI) tl vs' made ∧ m₁ (Str.ofString "made") = some (.ref la) ∧ m₁ (Str.ofString "by") = some (.int up tu) ∧ m₁ (Str.ofString "row") = some (.ref ra)
local macro_rules | `(tactic| tb_start) => `(tactic| repeat (first | assumption | exact rfl | exact upd_eq | refine upd_ne (by decide) ?_))
local macro_rules | `(tactic| walk_at "eval Name") => `(tactic| (k_dflt (refine' nameX_L ?k1 ?k2 ?_ ?k4 ?k5; (case k4 => exact rfl); (case k5 => exact rfl); (case k1 => k_asm); (case k2 => tb_start))))
local macro_rules | `(tactic| walk_at "eval Name") => `(tactic| (k_dflt (refine' nameX_C ?k1 ?k2 ?k3 ?k6 ?_ ?k4 ?k5 ?k7; (case k4 => exact rfl); (case k5 => exact rfl); (case k7 => decide); (case k1 => k_asm); (case k2 => exact rfl); (case k3 => k_mem); (case k6 => assumption))))
local macro_rules | `(tactic| walk_at "eval Name") => `(tactic| (k_dflt (refine' lcf_free ?k1 ?k2 ?k3 ?k6 ?_ ?k4 ?k5 ?k7 ?k8; (case k4 => exact rfl); (case k5 => exact rfl); (case k7 => decide); (case k8 => decide); (case k1 => k_asm); (case k2 => exact rfl); (case k3 => k_mem); (case k6 => assumption))))
local macro_rules | `(tactic| walk_at "storeName") => `(tactic| (refine stop_cell (by rfl) (Stop.at ?_)))
local macro_rules | `(tactic| walk_at "call builtin:list.append") => `(tactic| (refine Stop.at ?_))
local macro_rules | `(tactic| walk_at "call builtin:list.sort") => `(tactic| (refine Stop.at ?_))
local macro_rules | `(tactic| walk_at "call builtin:sorted") => `(tactic| (refine Stop.at ?_))
local macro_rules | `(tactic| walk_at "compareOp NotIn int ref") => `(tactic| (refine Stop.at ?_))
local macro_rules | `(tactic| walk_at "execs cons") => `(tactic| ((with_reducible show wpAny _ _ (execs (Stmt.While _ _ _ _ :: _) _) _ _ _); refine execs_stop ?_))
local macro_rules | `(tactic| walk_at "execs cons") => `(tactic| ((with_reducible show wpAny _ _ (execs (Stmt.For _ _ _ _ _ :: _) _) _ _ _); refine execs_stop ?_))
local macro_rules | `(tactic| walk_at "call ref") => `(tactic| ((with_reducible show wpAny _ _ (call (Value.ref _) _ _) _ _ _); refine Stop.at ?_))
local macro_rules | `(tactic| walk_at "call builtin:list.insert") => `(tactic| (refine Stop.at ?_))
local macro_rules | `(tactic| walk_at "call builtin:len") => `(tactic| ((with_reducible show wpAny _ _ (call (Value.builtin _) [Value.ref _]) _ _ _); refine lenL (by k_asm) (by k_mem) (by omega) ?_))
local macro_rules | `(tactic| walk_at "callWith ref") => `(tactic| (first | refine callWith_F (KeyOK.fn (by assumption) _ _ _ _ (Frag.In.keeps (by assumption) (Fr.keep (by k_asm))) (by k_asm)) ?_ | refine callWith_F (KeyOK.fn (by assumption) [] _ _ _ (Frag.In.keeps (by assumption) (Fr.keep (by k_asm))) (by k_asm)) ?_))
local macro_rules | `(tactic| walk_at "And") => `(tactic| (first | refine ⟨KeyOK.fn (by assumption) _ _ _ _ (Frag.In.keeps (by assumption) (Fr.keep (by k_asm))) (by k_asm), ?_⟩ | refine ⟨KeyOK.fn (by assumption) [] _ _ _ (Frag.In.keeps (by assumption) (Fr.keep (by k_asm))) (by k_asm), ?_⟩))
local macro_rules | `(tactic| walk_at "compareOp Lt ref") => `(tactic| (refine Stop.at ?_))
local macro_rules | `(tactic| k_mem) => `(tactic| first | assumption | exact List.Mem.head _ | (refine List.Mem.tail _ ?_; k_mem))
local macro_rules | `(tactic| walk_at "compareOp Eq ref") => `(tactic| (refine Stop.at ?_))
local macro_rules | `(tactic| walk_at "setItem ref") => `(tactic| (refine Stop.at ?_))
local macro_rules | `(tactic| walk_at "pyIter ref") => `(tactic| (refine Stop.at ?_))
local macro_rules | `(tactic| walk_at "binaryOp Mult int int") => `(tactic| (refine Stop.at ?_))
local macro_rules | `(tactic| walk_at "CompSrcT") => `(tactic| (refine Stop.at ?_))
local macro_rules | `(tactic| walk_at "CompSrc") => `(tactic| (refine Stop.at ?_))
local macro_rules | `(tactic| walk_at "CompEnd") => `(tactic| (refine Stop.at ?_))
local macro_rules | `(tactic| walk_at "eval ListComp") => `(tactic| (refine Stop.at ?_))
local macro_rules | `(tactic| walk_at "newList") => `(tactic| (k_dflt (refine' newList_K ?k1 ?k2 ?_; (case k1 => k_asm); (case k2 => k_asm)); intro l' h' F' N' l1))
local macro_rules | `(tactic| walk_at "subscriptTail Name Slice ref ref") => `(tactic| ((with_reducible show wpAny _ _ (subscriptTail _ (PySem.Expr.Slice _ _ none _) (Value.ref _) (Value.ref _)) _ _ _); k_dflt (refine' sliceL ?F ?N ?l ?p ?q ?z ?_ ?s ?t; (case F => k_asm); (case N => k_asm); (case l => k_mem); (case p => first | exact IsPart.none | exact IsPart.int _ _); (case q => first | exact IsPart.none | exact IsPart.int _ _); (case s => with_unfolding_all rfl); (case t => (intro _; with_unfolding_all rfl)); (case z => omega)); intro D' h' F' N' l1))
local macro_rules | `(tactic| walk_at "binaryOp Add ref ref") => `(tactic| ((with_reducible show wpAny _ _ (binaryOp _ (Value.ref _) (Value.ref _)) _ _ _); refine Stop.at ?_))
local macro_rules | `(tactic| ktr_unf) => `(tactic| repeat' (first | (k_unfold; (try dsimp only)) | walk1 | (dsimp only; walk1)))
section
variable {w : World} {dp un : Nat} {gd : Option (List Code)} {cn : Str} {cs : Scope} {L a : Addr} {ccd : Value} {cl : List (Str × Addr)} {outer : List Env} {A₀ : Around} {base h₀ : Heap}
  {m : Str → Option Value} {news : Led} {s : Shared} {Q E : Value → Shared → Prop} {p : Program} {loose : List Str} {mean : ExcName → Option Value} {mg mb : Str → Option Value}
set_option maxRecDepth 100000 in
set_option maxHeartbeats 8000000 in
theorem plain_call {l : Addr} {vs : List Value} {n : Nat} {row : List Int} {up : Int} {tu : Tok}
    (B : Below A₀ base outer h₀) (F : Fr h₀ L s.heap m) (X : (top.heap_39 w.params).In h₀) (N : News h₀ L s.heap news) (T : Top p loose mean mg mb h₀) (hk : cs.kind = .function)
    (hl : (l, PySem.W.listOf vs.toArray n) ∈ news) (hI : RA RI news vs row) (hlen : row.length ≤ 20) (hdp : dp + 5 ≤ 400) (hun : un + 60 ≤ 5000)
    (ret : ∀ r tl h' tk', Fr h₀ L h' m → News h₀ L h' (tl ++ news) → (∀ q ∈ news, ∀ p ∈ tl, q.1 ≠ p.1) → RL (RP (RL RI) RI) tl r (plainF row up) → Q r { s with heap := h', toks := tk' }) :
    wpAny (model PySem.Challenge.rw_pe0007_02.row.prog w) (ktrTop dp un gd cn cs L a ccd cl outer) (call (.ref 81) [.ref l, .int up tu]) Q E s := by
  (have X' := X; revert X'; k_fill; intro hX9; clear hX9)
  k_dflt (refine' enterC (binds := [(Str.ofString "row", .ref l), (Str.ofString "by", .int up tu)]) (fun L => [(Str.ofString "goal", L + 2), (Str.ofString "bead", L + 1)]) B F X N T hk ?ho ?hcd (by omega) ?hb ?hl ?cls ?hc ?co ?ge ?hk ?_; (case ho => k_is); (case hcd => k_is); (case hb => exact BindsTo.of_eq rfl); (case hl => rfl); (case cls => exact fun _ => rfl); (case hc => decide); (case co => rfl); (case ge => rfl); (case hk => rfl))
  intro g L' h₁ tk cells F' N' Y' B' X' T' lt'
  k_fold
  have hln := hI.length
  have hcL := cLine_is
  obtain ⟨o1, o2, rfl, d1, d2⟩ := CellsAre.two Y'
  have oc1 : ∀ p ∈ news, p.1 ≠ L' + 1 := fun p hp => Nat.ne_of_lt (Nat.lt_succ_of_lt (lt' p hp))
  have oc2 : ∀ p ∈ news, p.1 ≠ L' + 2 := fun p hp => Nat.ne_of_lt (Nat.lt_succ_of_lt (Nat.lt_succ_of_lt (lt' p hp)))
  ktr_unf
  rename_i la h₂ lta h₃ F₃ N₃
  refine Stop.go ?_
  refine For_turns F₃ ?_ (hE := PassesOwn.never)
  ktr_unf
  refine Stop.go ?_
  have l1 : L' + 2 ≠ la := Nat.ne_of_lt (lta _ (.head _))
  have l2 : L' + 1 ≠ la := Nat.ne_of_lt (lta _ (.tail _ (.head _)))
  have l3 : ∀ p ∈ news, p.1 ≠ la := fun p hp => Nat.ne_of_lt (lta _ (.tail _ (.tail _ hp)))
  refine forL (fun i m₁ n₁ => PlainJ news (L' + 2) (L' + 1) la l up tu ((row.take i).foldl (plainStep row up) []) [] m₁ n₁ ∧ ((row.take i).foldl (plainStep row up) []).length ≤ i) rfl (by k_asm)
    (News.sub N₃ (n' := (L' + 2, o1) :: (L' + 1, o2) :: (la, PySem.W.listOf (List.toArray []) 0) :: ([] ++ news)) (fun q hq => by
      rcases List.mem_cons.mp hq with rfl | hq
      · exact .tail _ (.head _)
      · rcases List.mem_cons.mp hq with rfl | hq
        · exact .tail _ (.tail _ (.head _))
        · rcases List.mem_cons.mp hq with rfl | hq
          · exact .head _
          · exact .tail _ (.tail _ (.tail _ hq)))) (.tail _ (.tail _ (.tail _ hl)))
    ⟨⟨o1, o2, _, _, [], 0, [], rfl, d1, d2, (fun _ h => nomatch h), (fun _ _ _ h => nomatch h), (fun _ _ _ h => nomatch h), .nil, rfl, rfl, rfl⟩, Nat.le_refl _⟩ ?_ ?_
  · rintro i v I oI m₁ n₁ h₄ tk₄ hv ⟨⟨q1, q2, w1, w2, vs', n', tl, rfl, e1, e2, o3, o4, o5, hR, f1, f2, f3⟩, hml⟩ hm₁ off F₄ N₄
    obtain ⟨bead, hst, t₂, rfl⟩ := hI.get' hv
    ktr_unf
    refine Stop.go ?_
    have I1 : L' + 2 ≠ I := off _ (.head _)
    have I2 : L' + 1 ≠ I := off _ (.tail _ (.head _))
    have I3 : la ≠ I := off _ (.tail _ (.tail _ (.head _)))
    have I4 : ∀ p ∈ tl, p.1 ≠ I := fun p hp => off _ (.tail _ (.tail _ (.tail _ (List.mem_append_left _ hp))))
    have I5 : ∀ p ∈ news, p.1 ≠ I := fun p hp => off _ (.tail _ (.tail _ (.tail _ (List.mem_append_right _ hp))))
    have c12 : L' + 2 ≠ L' + 1 := Nat.ne_of_gt (Nat.lt_succ_self _)
    have t1 : ∀ p ∈ tl, p.1 ≠ la := fun p hp => (o3 p hp).1
    have t2 : ∀ p ∈ tl, p.1 ≠ L' + 2 := fun p hp => (o3 p hp).2.1
    have t3 : ∀ p ∈ tl, p.1 ≠ L' + 1 := fun p hp => (o3 p hp).2.2
    have N₅ := News.sub N₄ (n' := (L' + 1, q2) :: (L' + 2, q1) :: (I, oI) :: (la, PySem.W.listOf vs'.toArray n') :: (tl ++ news)) (fun q hq => by
      simp only [List.mem_cons, List.nil_append] at hq ⊢; grind)
    refine storeC F₄ N₅ (offC c12 (offC I2.symm (offC l2.symm (offA t3 oc1)))) rfl e2 ?_ rfl rfl
    clear N₄ N₅ e2 off
    intro h₅ q3 F₅ N₅ e2
    ktr_unf
    refine Stop.go ?_
    have N₆ := News.sub N₅ (n' := (L' + 2, q1) :: (L' + 1, q3) :: (I, oI) :: (la, PySem.W.listOf vs'.toArray n') :: (tl ++ news)) (fun q hq => by
      simp only [List.mem_cons] at hq ⊢; grind)
    refine storeC F₅ N₆ (offC c12.symm (offC I1.symm (offC l1.symm (offA t2 oc2)))) rfl e1 ?_ rfl rfl
    clear N₅ N₆ e1
    intro h₆ q4 F₆ N₆ e1
    have hi20 : i < row.length := (List.getElem?_eq_some_iff.mp hst).1
    have hvs20 : vs'.length ≤ 20 := by have := hR.length; omega
    have hskip : ¬ (0 ≤ bead + up ∧ ¬ bead + up ∈ row) → (row.take (i + 1)).foldl (plainStep row up) [] = (row.take i).foldl (plainStep row up) [] := fun h => by rw [foldl_take _ _ _ hst]; exact if_neg h
    have PU : ∀ (d1 d2 d3 d4 : Addr × Obj) (Y : Addr), (∀ q ∈ d1 :: d2 :: d3 :: d4 :: (L' + 2, q4) :: (L' + 1, q3) :: (I, oI) :: (la, PySem.W.listOf vs'.toArray n') :: (tl ++ news), q.1 < Y) → la < Y ∧ I < Y ∧ L' + 1 < Y ∧ L' + 2 < Y ∧ ∀ q ∈ news, q.1 < Y := fun d1 d2 d3 d4 Y h =>
      ⟨h _ (.tail _ (.tail _ (.tail _ (.tail _ (.tail _ (.tail _ (.tail _ (.head _)))))))), h _ (.tail _ (.tail _ (.tail _ (.tail _ (.tail _ (.tail _ (.head _))))))), h _ (.tail _ (.tail _ (.tail _ (.tail _ (.tail _ (.head _)))))), h _ (.tail _ (.tail _ (.tail _ (.tail _ (.head _))))), fun q hq => h _ (.tail _ (.tail _ (.tail _ (.tail _ (.tail _ (.tail _ (.tail _ (.tail _ (List.mem_append_right _ hq)))))))))⟩
    have hlm : (l, PySem.W.listOf vs.toArray n) ∈ (L' + 2, q4) :: (L' + 1, q3) :: (I, oI) :: (la, PySem.W.listOf vs'.toArray n') :: (tl ++ news) := .tail _ (.tail _ (.tail _ (.tail _ (List.mem_append_right _ hl))))
    ktr_unf
    · refine Stop.go ?_
      refine notInL (by k_asm) hlm hI ?_
      by_cases hin : bead + up ∈ row
      · rw [show (!decide (bead + up ∈ row)) = false by simp [hin]]
        ktr_unf
        exact LPost.next F₆ N₆ ((L' + 2, q4) :: (L' + 1, q3) :: (la, PySem.W.listOf vs'.toArray n') :: (tl ++ news)) (fun q hq => by simp only [List.mem_cons] at hq ⊢; grind) (offC I1 (offC I2 (offC I3 (offA I4 I5)))) (.tail _ (.tail _ (.tail _ (List.mem_append_right _ hl))))
          ⟨⟨q4, q3, _, _, vs', n', tl, rfl, e1, e2, o3, o4, (fun _ h => nomatch h), hskip (fun h => h.2 hin) ▸ hR, f1, f2, f3⟩, by rw [hskip (fun h => h.2 hin)]; omega⟩
      · rw [show (!decide (bead + up ∈ row)) = true by simp [hin]]
        ktr_unf
        refine Stop.go ?_
        refine LCt.CompSrcT.ledger rfl (by k_asm) (by k_asm) hlm (by rw [List.size_toArray, sizeLine_eq]; omega) ?_
        intro g₉
        refine restT (N := vs.length) (fun i ys n₁ => n₁ = (L' + 2, q4) :: (L' + 1, q3) :: (I, oI) :: (la, PySem.W.listOf vs'.toArray n') :: (tl ++ news) ∧ RA RI [] ys ((row.take i).filter (btw bead (bead + up)))) ?_ ?_ _ 0 [] _ (by simp) ⟨rfl, .nil⟩
        · rintro i v J oJ C oC D m₃ h₉ tk₉ E' ys n₁ hi hv ⟨rfl, hY⟩ hC hx F₉ N₉ off ne
          obtain ⟨b, hst, t₃, rfl⟩ := hI.get' (by simpa using hv)
          have hft := filter_take (btw bead (bead + up)) _ hst
          ktr_unf
          · refine Stop.go ?_
            refine compEnd (by k_asm) (by k_asm) ((L' + 2, q4) :: (L' + 1, q3) :: (I, oI) :: (la, PySem.W.listOf vs'.toArray n') :: (tl ++ news)) (fun _ h => h) off (srcAt hlm) ⟨rfl, ?_⟩
            rw [hft, if_pos (by unfold btw; rw [Bool.and_eq_true]; exact ⟨decide_eq_true (by assumption), decide_eq_true (by assumption)⟩)]
            exact hY.append (.cons ⟨_, rfl⟩ .nil)
          · refine Stop.go ?_
            refine compEnd (by k_asm) (by k_asm) ((L' + 2, q4) :: (L' + 1, q3) :: (I, oI) :: (la, PySem.W.listOf vs'.toArray n') :: (tl ++ news)) (fun _ h => h) off (srcAt hlm) ⟨rfl, ?_⟩
            rw [hft, if_neg (by unfold btw; rw [Bool.and_eq_true]; exact fun h => absurd (of_decide_eq_true h.2) (by assumption)), List.append_nil]
            exact hY
          · refine Stop.go ?_
            refine compEnd (by k_asm) (by k_asm) ((L' + 2, q4) :: (L' + 1, q3) :: (I, oI) :: (la, PySem.W.listOf vs'.toArray n') :: (tl ++ news)) (fun _ h => h) off (srcAt hlm) ⟨rfl, ?_⟩
            rw [hft, if_neg (by unfold btw; rw [Bool.and_eq_true]; exact fun h => absurd (of_decide_eq_true h.1) (by assumption)), List.append_nil]
            exact hY
        · rintro ys n₁ ⟨rfl, hY⟩
          intro D h₇ tk₇ F₇ N₇ offD
          rw [List.take_of_length_le (Nat.le_of_eq hln.symm)] at hY
          have hYl : ys.length = (plainBetween row bead (bead + up)).length := hY.length
          have hyl : ys.length ≤ 20 := by have h2 := List.length_filter_le (btw bead (bead + up)) row; have h3 : (plainBetween row bead (bead + up)).length ≤ row.length := h2; omega
          clear F₆ N₆
          ktr_unf
          refine Stop.go ?_
          k_dflt (refine LCt.ListComp_T (F₀ := by k_asm) (by with_unfolding_all rfl) (by decide) (by rfl) (by decide) (by rfl) ?_)
          ktr_unf
          refine Stop.go ?_
          refine LCt.CompSrcT.ledger rfl (by k_asm) (by k_asm) (.tail _ hlm) (by rw [List.size_toArray, sizeLine_eq]; omega) ?_
          intro g₉
          refine restT (N := vs.length) (fun i zs n₁ => n₁ = (D, PySem.W.listOf ys.toArray ys.length) :: (L' + 2, q4) :: (L' + 1, q3) :: (I, oI) :: (la, PySem.W.listOf vs'.toArray n') :: (tl ++ news) ∧ RA RI [] zs ((row.take i).filter fun b => !decide (b = bead))) ?_ ?_ _ 0 [] _ (by simp) ⟨rfl, .nil⟩
          · rintro i v J oJ C oC D₃ m₃ h₉ tk₉ E' zs n₁ hi hv ⟨rfl, hY2⟩ hC hx F₉ N₉ off ne
            obtain ⟨b, hst, t₃, rfl⟩ := hI.get' (by simpa using hv)
            have hft := filter_take (fun b : Int => !decide (b = bead)) _ hst
            ktr_unf
            · refine Stop.go ?_
              refine compEnd (by k_asm) (by k_asm) ((D, PySem.W.listOf ys.toArray ys.length) :: (L' + 2, q4) :: (L' + 1, q3) :: (I, oI) :: (la, PySem.W.listOf vs'.toArray n') :: (tl ++ news)) (fun _ h => h) off (srcAt (.tail _ hlm)) ⟨rfl, ?_⟩
              rw [hft, if_pos (by simpa using (by assumption : b ≠ bead))]
              exact hY2.append (.cons ⟨_, rfl⟩ .nil)
            · refine Stop.go ?_
              refine compEnd (by k_asm) (by k_asm) ((D, PySem.W.listOf ys.toArray ys.length) :: (L' + 2, q4) :: (L' + 1, q3) :: (I, oI) :: (la, PySem.W.listOf vs'.toArray n') :: (tl ++ news)) (fun _ h => h) off (srcAt (.tail _ hlm)) ⟨rfl, ?_⟩
              rw [hft, if_neg (by simpa using (by assumption : b = bead)), List.append_nil]
              exact hY2
          · rintro zs n₁ ⟨rfl, hZ⟩
            intro D₂ h₈ tk₈ F₈ N₈ offD₂
            rw [List.take_of_length_le (Nat.le_of_eq hln.symm)] at hZ
            have hzl : zs.length ≤ 20 := by have := hZ.length; have h2 := List.length_filter_le (fun b : Int => !decide (b = bead)) row; omega
            ktr_unf
            refine Stop.go ?_
            k_dflt (refine addL (by k_asm) (by k_asm) (.tail _ (.head _)) (.head _) (by simp only [List.length_cons, List.length_nil]; omega) ?_)
            intro D₄ h₁₀ F₁₀ N₁₀ lt₁₀
            have hZ1 : ∀ t, RA RI [] (zs ++ [.int (bead + up) t]) ((row.filter fun b => !decide (b = bead)) ++ [bead + up]) := fun t => hZ.append (.cons ⟨_, rfl⟩ .nil)
            ktr_unf
            refine Stop.go ?_
            k_dflt (refine sortedL (by k_asm) (by k_asm) (.head _) (hZ1 _) (by have := (hZ1 0).length; simp only [List.length_append, List.length_cons, List.length_nil] at this ⊢; omega) ?_)
            intro D₅ vr cr h₁₁ F₁₁ N₁₁ lt₁₁ hVR
            have hstep : (row.take (i + 1)).foldl (plainStep row up) [] = (row.take i).foldl (plainStep row up) [] ++ [(plainRest row bead (bead + up), if Int.fmod ((plainBetween row bead (bead + up)).length : Int) 2 = 0 then 1 else -1)] := by
              rw [foldl_take _ _ _ hst]; exact if_pos ⟨by omega, hin⟩
            ktr_unf
            · rename_i lp h₁₂ F₁₂ N₁₂ lt₁₂
              refine Stop.go ?_
              obtain ⟨a1, a2, a3, a4, a5⟩ := PU _ _ _ _ lp (fun q hq => lt₁₂ q (.tail _ hq))
              obtain ⟨b1, b2, b3, b4, b5⟩ := PU _ _ _ _ D₅ lt₁₁
              k_dflt (refine appendL F₁₂ (plain_order N₁₂) (offC (Nat.ne_of_gt a1) (offC (Nat.ne_of_gt b1) (offC l1 (offC l2 (offC I3.symm (offA t1 l3)))))) (by omega) ?_)
              intro h₁₄ F₁₄ N₁₄
              ktr_unf
              refine LPost.next F₁₄ N₁₄ ((L' + 2, q4) :: (L' + 1, q3) :: (la, PySem.W.listOf (vs' ++ [Value.ref lp]).toArray (n' + 1)) :: (((lp, _) :: (D₅, PySem.W.listOf vr.toArray cr) :: tl) ++ news)) plain_back
                (offC I1 (offC I2 (offC I3 (offA (offC (Nat.ne_of_gt a2) (offC (Nat.ne_of_gt b2) I4)) I5)))) (.tail _ (.tail _ (.tail _ (List.mem_append_right _ hl))))
                ⟨⟨q4, q3, _, _, _, _, (lp, _) :: (D₅, PySem.W.listOf vr.toArray cr) :: tl, rfl, e1, e2, offP ⟨Nat.ne_of_gt a1, Nat.ne_of_gt a4, Nat.ne_of_gt a3⟩ (offP ⟨Nat.ne_of_gt b1, Nat.ne_of_gt b4, Nat.ne_of_gt b3⟩ o3), fun q hq => offS (Nat.ne_of_lt (a5 q hq)) (offS (Nat.ne_of_lt (b5 q hq)) (o4 q hq)), (fun _ h => nomatch h), ?_, by tb_start, by tb_start, by tb_start⟩, by rw [hstep]; simp only [List.length_append, List.length_cons, List.length_nil]; omega⟩
              rw [hstep, if_pos (by rw [← hYl]; assumption)]
              exact (hR.mono (RP.mono (RL.mono RI.mono) RI.mono) (fun q hq => .tail _ (.tail _ hq))).append (.cons ⟨lp, _, _, _, rfl, .head _, ⟨D₅, vr, cr, rfl, .tail _ (.head _), hVR _⟩, ⟨_, rfl⟩⟩ .nil)
            · rename_i lp h₁₂ F₁₂ N₁₂ lt₁₂
              refine Stop.go ?_
              obtain ⟨a1, a2, a3, a4, a5⟩ := PU _ _ _ _ lp (fun q hq => lt₁₂ q (.tail _ hq))
              obtain ⟨b1, b2, b3, b4, b5⟩ := PU _ _ _ _ D₅ lt₁₁
              k_dflt (refine appendL F₁₂ (plain_order N₁₂) (offC (Nat.ne_of_gt a1) (offC (Nat.ne_of_gt b1) (offC l1 (offC l2 (offC I3.symm (offA t1 l3)))))) (by omega) ?_)
              intro h₁₄ F₁₄ N₁₄
              ktr_unf
              refine LPost.next F₁₄ N₁₄ ((L' + 2, q4) :: (L' + 1, q3) :: (la, PySem.W.listOf (vs' ++ [Value.ref lp]).toArray (n' + 1)) :: (((lp, _) :: (D₅, PySem.W.listOf vr.toArray cr) :: tl) ++ news)) plain_back
                (offC I1 (offC I2 (offC I3 (offA (offC (Nat.ne_of_gt a2) (offC (Nat.ne_of_gt b2) I4)) I5)))) (.tail _ (.tail _ (.tail _ (List.mem_append_right _ hl))))
                ⟨⟨q4, q3, _, _, _, _, (lp, _) :: (D₅, PySem.W.listOf vr.toArray cr) :: tl, rfl, e1, e2, offP ⟨Nat.ne_of_gt a1, Nat.ne_of_gt a4, Nat.ne_of_gt a3⟩ (offP ⟨Nat.ne_of_gt b1, Nat.ne_of_gt b4, Nat.ne_of_gt b3⟩ o3), fun q hq => offS (Nat.ne_of_lt (a5 q hq)) (offS (Nat.ne_of_lt (b5 q hq)) (o4 q hq)), (fun _ h => nomatch h), ?_, by tb_start, by tb_start, by tb_start⟩, by rw [hstep]; simp only [List.length_append, List.length_cons, List.length_nil]; omega⟩
              rw [hstep, if_neg (by rw [← hYl]; assumption)]
              exact (hR.mono (RP.mono (RL.mono RI.mono) RI.mono) (fun q hq => .tail _ (.tail _ hq))).append (.cons ⟨lp, _, _, _, rfl, .head _, ⟨D₅, vr, cr, rfl, .tail _ (.head _), hVR _⟩, ⟨_, rfl⟩⟩ .nil)
    · exact LPost.next F₆ N₆ ((L' + 2, q4) :: (L' + 1, q3) :: (la, PySem.W.listOf vs'.toArray n') :: (tl ++ news)) (fun q hq => by simp only [List.mem_cons] at hq ⊢; grind) (offC I1 (offC I2 (offC I3 (offA I4 I5)))) (.tail _ (.tail _ (.tail _ (List.mem_append_right _ hl))))
          ⟨⟨q4, q3, _, _, vs', n', tl, rfl, e1, e2, o3, o4, (fun _ h => nomatch h), hskip (fun h => absurd h.1 (by omega)) ▸ hR, f1, f2, f3⟩, by rw [hskip (fun h => absurd h.1 (by omega))]; omega⟩
  · rintro m₂ n₂ h₈ tk₈ ⟨⟨q1, q2, w1, w2, vs', n', tl, rfl, e1, e2, o3, o4, o5, hR, f1, f2, f3⟩, hml⟩ F₈ N₈
    have hvl := hR.length
    have htk : row.take vs.length = row := List.take_of_length_le (Nat.le_of_eq hln.symm)
    rw [htk] at hR hml hvl
    ktr_unf
    refine Stop.go ?_
    have N₉ := News.sub N₈ (n' := (la, PySem.W.listOf vs'.toArray n') :: (tl ++ news)) (fun q hq => .tail _ (.tail _ hq))
    k_dflt (refine sortL (R := RP (RL RI) RI) (led := tl) (lt := lexP (lexL ltI) ltI) ([], 0) F₈ N₉ (offA (fun p hp => (o3 p hp).1) l3) (fun q hq => List.mem_append_left _ hq) hR (by omega) (lexP_tot (lexL_tot ltI_tot) ltI_tot).toLtOrd ?_ ?_ ?_)
    · rintro v x ⟨b, v1, v2, n3, rfl, hm, _⟩
      exact ⟨b, [v1, v2], n3, rfl, hm⟩
    · intro s v u x y C hN hv hu hC
      exact RP.ask (d := 4) (RL.eqR (RI.eqR 3) RI.fun) (RI.eqR 4) (RL.ltR (RI.eqR 3) (RI.ltR 3)) (RI.ltR 4) hN hv hu (by show un + 3 + 1 + (4 + 1) < cLine; omega) hC
    · intro vs2 ys h₁₀ c F₁₀ N₁₀ hR2 hp ho
      have e : ys = plainF row up := sorted_isort (lexP_tot (lexL_tot ltI_tot) ltI_tot) hp ho
      subst e
      ktr_unf
      refine Back.mk (by k_asm) (by k_asm) (fun F N => ret (.ref la) ((la, PySem.W.listOf vs2.toArray c) :: tl) _ _ F N (fun q hq => offS (l3 q hq) (o4 q hq)) ⟨la, vs2, _, rfl, .head _, hR2.mono (RP.mono (RL.mono RI.mono) RI.mono) (fun q hq => .tail _ hq)⟩)
end
end Mine
namespace Mine
def LawOK (row : List Int) (S T : Int) : Prop :=
  (∀ b ∈ [S, T, -S, -T], ledF [(row, 1)] b = plainF row b) ∧ (∀ b ∈ [S, T, -S, -T], (ledF [(row, 1)] b).length ≤ 30 ∧ ∀ st ∈ ledF [(row, 1)] b, st.1.length ≤ 20) ∧ (ledF (ledF [(row, 1)] (-S)) S).length ≤ 800 ∧
  ledF (ledF [(row, 1)] S) (-S) = enteredF (ledF (ledF [(row, 1)] (-S)) S) row S ∧ (S ≠ T → ledF (ledF [(row, 1)] S) (-T) = ledF (ledF [(row, 1)] (-T)) S) ∧ ledF (ledF [(row, 1)] (-S)) (-T) = ledF (ledF [(row, 1)] (-T)) (-S)
set_option maxRecDepth 100000 in
theorem law_aa : ∀ s ∈ [(0 : Int), 1, 2], ∀ t ∈ [(0 : Int), 1, 2], LawOK [0, 1, 2, 3 + 0, 3 + 0 + 1 + 0] (1 + s) (1 + t) := by unfold LawOK; decide +kernel
set_option maxRecDepth 100000 in
theorem law_ab : ∀ s ∈ [(0 : Int), 1, 2], ∀ t ∈ [(0 : Int), 1, 2], LawOK [0, 1, 2, 3 + 0, 3 + 0 + 1 + 1] (1 + s) (1 + t) := by unfold LawOK; decide +kernel
set_option maxRecDepth 100000 in
theorem law_ac : ∀ s ∈ [(0 : Int), 1, 2], ∀ t ∈ [(0 : Int), 1, 2], LawOK [0, 1, 2, 3 + 0, 3 + 0 + 1 + 2] (1 + s) (1 + t) := by unfold LawOK; decide +kernel
set_option maxRecDepth 100000 in
theorem law_ad : ∀ s ∈ [(0 : Int), 1, 2], ∀ t ∈ [(0 : Int), 1, 2], LawOK [0, 1, 2, 3 + 0, 3 + 0 + 1 + 3] (1 + s) (1 + t) := by unfold LawOK; decide +kernel
set_option maxRecDepth 100000 in
theorem law_ae : ∀ s ∈ [(0 : Int), 1, 2], ∀ t ∈ [(0 : Int), 1, 2], LawOK [0, 1, 2, 3 + 0, 3 + 0 + 1 + 4] (1 + s) (1 + t) := by unfold LawOK; decide +kernel
set_option maxRecDepth 100000 in
theorem law_af : ∀ s ∈ [(0 : Int), 1, 2], ∀ t ∈ [(0 : Int), 1, 2], LawOK [0, 1, 2, 3 + 0, 3 + 0 + 1 + 5] (1 + s) (1 + t) := by unfold LawOK; decide +kernel
set_option maxRecDepth 100000 in
theorem law_ba : ∀ s ∈ [(0 : Int), 1, 2], ∀ t ∈ [(0 : Int), 1, 2], LawOK [0, 1, 2, 3 + 1, 3 + 1 + 1 + 0] (1 + s) (1 + t) := by unfold LawOK; decide +kernel
set_option maxRecDepth 100000 in
theorem law_bb : ∀ s ∈ [(0 : Int), 1, 2], ∀ t ∈ [(0 : Int), 1, 2], LawOK [0, 1, 2, 3 + 1, 3 + 1 + 1 + 1] (1 + s) (1 + t) := by unfold LawOK; decide +kernel
set_option maxRecDepth 100000 in
theorem law_bc : ∀ s ∈ [(0 : Int), 1, 2], ∀ t ∈ [(0 : Int), 1, 2], LawOK [0, 1, 2, 3 + 1, 3 + 1 + 1 + 2] (1 + s) (1 + t) := by unfold LawOK; decide +kernel
set_option maxRecDepth 100000 in
theorem law_bd : ∀ s ∈ [(0 : Int), 1, 2], ∀ t ∈ [(0 : Int), 1, 2], LawOK [0, 1, 2, 3 + 1, 3 + 1 + 1 + 3] (1 + s) (1 + t) := by unfold LawOK; decide +kernel
set_option maxRecDepth 100000 in
theorem law_be : ∀ s ∈ [(0 : Int), 1, 2], ∀ t ∈ [(0 : Int), 1, 2], LawOK [0, 1, 2, 3 + 1, 3 + 1 + 1 + 4] (1 + s) (1 + t) := by unfold LawOK; decide +kernel
set_option maxRecDepth 100000 in
theorem law_bf : ∀ s ∈ [(0 : Int), 1, 2], ∀ t ∈ [(0 : Int), 1, 2], LawOK [0, 1, 2, 3 + 1, 3 + 1 + 1 + 5] (1 + s) (1 + t) := by unfold LawOK; decide +kernel
set_option maxRecDepth 100000 in
theorem law_ca : ∀ s ∈ [(0 : Int), 1, 2], ∀ t ∈ [(0 : Int), 1, 2], LawOK [0, 1, 2, 3 + 2, 3 + 2 + 1 + 0] (1 + s) (1 + t) := by unfold LawOK; decide +kernel
set_option maxRecDepth 100000 in
theorem law_cb : ∀ s ∈ [(0 : Int), 1, 2], ∀ t ∈ [(0 : Int), 1, 2], LawOK [0, 1, 2, 3 + 2, 3 + 2 + 1 + 1] (1 + s) (1 + t) := by unfold LawOK; decide +kernel
set_option maxRecDepth 100000 in
theorem law_cc : ∀ s ∈ [(0 : Int), 1, 2], ∀ t ∈ [(0 : Int), 1, 2], LawOK [0, 1, 2, 3 + 2, 3 + 2 + 1 + 2] (1 + s) (1 + t) := by unfold LawOK; decide +kernel
set_option maxRecDepth 100000 in
theorem law_cd : ∀ s ∈ [(0 : Int), 1, 2], ∀ t ∈ [(0 : Int), 1, 2], LawOK [0, 1, 2, 3 + 2, 3 + 2 + 1 + 3] (1 + s) (1 + t) := by unfold LawOK; decide +kernel
set_option maxRecDepth 100000 in
theorem law_ce : ∀ s ∈ [(0 : Int), 1, 2], ∀ t ∈ [(0 : Int), 1, 2], LawOK [0, 1, 2, 3 + 2, 3 + 2 + 1 + 4] (1 + s) (1 + t) := by unfold LawOK; decide +kernel
set_option maxRecDepth 100000 in
theorem law_cf : ∀ s ∈ [(0 : Int), 1, 2], ∀ t ∈ [(0 : Int), 1, 2], LawOK [0, 1, 2, 3 + 2, 3 + 2 + 1 + 5] (1 + s) (1 + t) := by unfold LawOK; decide +kernel
set_option maxRecDepth 100000 in
theorem law_da : ∀ s ∈ [(0 : Int), 1, 2], ∀ t ∈ [(0 : Int), 1, 2], LawOK [0, 1, 2, 3 + 3, 3 + 3 + 1 + 0] (1 + s) (1 + t) := by unfold LawOK; decide +kernel
set_option maxRecDepth 100000 in
theorem law_db : ∀ s ∈ [(0 : Int), 1, 2], ∀ t ∈ [(0 : Int), 1, 2], LawOK [0, 1, 2, 3 + 3, 3 + 3 + 1 + 1] (1 + s) (1 + t) := by unfold LawOK; decide +kernel
set_option maxRecDepth 100000 in
theorem law_dc : ∀ s ∈ [(0 : Int), 1, 2], ∀ t ∈ [(0 : Int), 1, 2], LawOK [0, 1, 2, 3 + 3, 3 + 3 + 1 + 2] (1 + s) (1 + t) := by unfold LawOK; decide +kernel
set_option maxRecDepth 100000 in
theorem law_dd : ∀ s ∈ [(0 : Int), 1, 2], ∀ t ∈ [(0 : Int), 1, 2], LawOK [0, 1, 2, 3 + 3, 3 + 3 + 1 + 3] (1 + s) (1 + t) := by unfold LawOK; decide +kernel
set_option maxRecDepth 100000 in
theorem law_de : ∀ s ∈ [(0 : Int), 1, 2], ∀ t ∈ [(0 : Int), 1, 2], LawOK [0, 1, 2, 3 + 3, 3 + 3 + 1 + 4] (1 + s) (1 + t) := by unfold LawOK; decide +kernel
set_option maxRecDepth 100000 in
theorem law_df : ∀ s ∈ [(0 : Int), 1, 2], ∀ t ∈ [(0 : Int), 1, 2], LawOK [0, 1, 2, 3 + 3, 3 + 3 + 1 + 5] (1 + s) (1 + t) := by unfold LawOK; decide +kernel
set_option maxRecDepth 100000 in
theorem law_ea : ∀ s ∈ [(0 : Int), 1, 2], ∀ t ∈ [(0 : Int), 1, 2], LawOK [0, 1, 2, 3 + 4, 3 + 4 + 1 + 0] (1 + s) (1 + t) := by unfold LawOK; decide +kernel
set_option maxRecDepth 100000 in
theorem law_eb : ∀ s ∈ [(0 : Int), 1, 2], ∀ t ∈ [(0 : Int), 1, 2], LawOK [0, 1, 2, 3 + 4, 3 + 4 + 1 + 1] (1 + s) (1 + t) := by unfold LawOK; decide +kernel
set_option maxRecDepth 100000 in
theorem law_ec : ∀ s ∈ [(0 : Int), 1, 2], ∀ t ∈ [(0 : Int), 1, 2], LawOK [0, 1, 2, 3 + 4, 3 + 4 + 1 + 2] (1 + s) (1 + t) := by unfold LawOK; decide +kernel
set_option maxRecDepth 100000 in
theorem law_ed : ∀ s ∈ [(0 : Int), 1, 2], ∀ t ∈ [(0 : Int), 1, 2], LawOK [0, 1, 2, 3 + 4, 3 + 4 + 1 + 3] (1 + s) (1 + t) := by unfold LawOK; decide +kernel
set_option maxRecDepth 100000 in
theorem law_ee : ∀ s ∈ [(0 : Int), 1, 2], ∀ t ∈ [(0 : Int), 1, 2], LawOK [0, 1, 2, 3 + 4, 3 + 4 + 1 + 4] (1 + s) (1 + t) := by unfold LawOK; decide +kernel
set_option maxRecDepth 100000 in
theorem law_ef : ∀ s ∈ [(0 : Int), 1, 2], ∀ t ∈ [(0 : Int), 1, 2], LawOK [0, 1, 2, 3 + 4, 3 + 4 + 1 + 5] (1 + s) (1 + t) := by unfold LawOK; decide +kernel
set_option maxRecDepth 100000 in
theorem law_fa : ∀ s ∈ [(0 : Int), 1, 2], ∀ t ∈ [(0 : Int), 1, 2], LawOK [0, 1, 2, 3 + 5, 3 + 5 + 1 + 0] (1 + s) (1 + t) := by unfold LawOK; decide +kernel
set_option maxRecDepth 100000 in
theorem law_fb : ∀ s ∈ [(0 : Int), 1, 2], ∀ t ∈ [(0 : Int), 1, 2], LawOK [0, 1, 2, 3 + 5, 3 + 5 + 1 + 1] (1 + s) (1 + t) := by unfold LawOK; decide +kernel
set_option maxRecDepth 100000 in
theorem law_fc : ∀ s ∈ [(0 : Int), 1, 2], ∀ t ∈ [(0 : Int), 1, 2], LawOK [0, 1, 2, 3 + 5, 3 + 5 + 1 + 2] (1 + s) (1 + t) := by unfold LawOK; decide +kernel
set_option maxRecDepth 100000 in
theorem law_fd : ∀ s ∈ [(0 : Int), 1, 2], ∀ t ∈ [(0 : Int), 1, 2], LawOK [0, 1, 2, 3 + 5, 3 + 5 + 1 + 3] (1 + s) (1 + t) := by unfold LawOK; decide +kernel
set_option maxRecDepth 100000 in
theorem law_fe : ∀ s ∈ [(0 : Int), 1, 2], ∀ t ∈ [(0 : Int), 1, 2], LawOK [0, 1, 2, 3 + 5, 3 + 5 + 1 + 4] (1 + s) (1 + t) := by unfold LawOK; decide +kernel
set_option maxRecDepth 100000 in
theorem law_ff : ∀ s ∈ [(0 : Int), 1, 2], ∀ t ∈ [(0 : Int), 1, 2], LawOK [0, 1, 2, 3 + 5, 3 + 5 + 1 + 5] (1 + s) (1 + t) := by unfold LawOK; decide +kernel
theorem in3 {s : Int} (h : 0 ≤ s ∧ s < 3) : s ∈ [(0 : Int), 1, 2] := by
  have : s = 0 ∨ s = 1 ∨ s = 2 := by omega
  rcases this with rfl | rfl | rfl <;> simp
theorem law_pure (x y s t : Int) (hx : 0 ≤ x ∧ x < 6) (hy : 0 ≤ y ∧ y < 6) (hs : 0 ≤ s ∧ s < 3) (ht : 0 ≤ t ∧ t < 3) : LawOK [0, 1, 2, 3 + x, 3 + x + 1 + y] (1 + s) (1 + t) := by
  have ex : x = 0 ∨ x = 1 ∨ x = 2 ∨ x = 3 ∨ x = 4 ∨ x = 5 := by omega
  have ey : y = 0 ∨ y = 1 ∨ y = 2 ∨ y = 3 ∨ y = 4 ∨ y = 5 := by omega
  have is := in3 hs
  have it := in3 ht
  rcases ex with rfl | rfl | rfl | rfl | rfl | rfl <;> rcases ey with rfl | rfl | rfl | rfl | rfl | rfl
  · exact law_aa s is t it
  · exact law_ab s is t it
  · exact law_ac s is t it
  · exact law_ad s is t it
  · exact law_ae s is t it
  · exact law_af s is t it
  · exact law_ba s is t it
  · exact law_bb s is t it
  · exact law_bc s is t it
  · exact law_bd s is t it
  · exact law_be s is t it
  · exact law_bf s is t it
  · exact law_ca s is t it
  · exact law_cb s is t it
  · exact law_cc s is t it
  · exact law_cd s is t it
  · exact law_ce s is t it
  · exact law_cf s is t it
  · exact law_da s is t it
  · exact law_db s is t it
  · exact law_dc s is t it
  · exact law_dd s is t it
  · exact law_de s is t it
  · exact law_df s is t it
  · exact law_ea s is t it
  · exact law_eb s is t it
  · exact law_ec s is t it
  · exact law_ed s is t it
  · exact law_ee s is t it
  · exact law_ef s is t it
  · exact law_fa s is t it
  · exact law_fb s is t it
  · exact law_fc s is t it
  · exact law_fd s is t it
  · exact law_fe s is t it
  · exact law_ff s is t it
end Mine
namespace Mine
theorem eqRP : EqR (RP (RL RI) RI) 2 := RP.eqR (RL.eqR (RI.eqR 0) RI.fun) (RI.eqR 1) (RL.fun RI.fun) RI.fun

local macro_rules | `(tactic| tb_start) => `(tactic| repeat (first | assumption | exact rfl | exact upd_eq | refine upd_ne (by decide) ?_))
local macro_rules | `(tactic| walk_at "eval Name") => `(tactic| (k_dflt (refine' nameX_L ?k1 ?k2 ?_ ?k4 ?k5; (case k4 => exact rfl); (case k5 => exact rfl); (case k1 => k_asm); (case k2 => tb_start))))
local macro_rules | `(tactic| walk_at "eval Name") => `(tactic| (k_dflt (refine' nameX_C ?k1 ?k2 ?k3 ?k6 ?_ ?k4 ?k5 ?k7; (case k4 => exact rfl); (case k5 => exact rfl); (case k7 => decide); (case k1 => k_asm); (case k2 => exact rfl); (case k3 => k_mem); (case k6 => assumption))))
local macro_rules | `(tactic| walk_at "eval Name") => `(tactic| (k_dflt (refine' lcf_free ?k1 ?k2 ?k3 ?k6 ?_ ?k4 ?k5 ?k7 ?k8; (case k4 => exact rfl); (case k5 => exact rfl); (case k7 => decide); (case k8 => decide); (case k1 => k_asm); (case k2 => exact rfl); (case k3 => k_mem); (case k6 => assumption))))
local macro_rules | `(tactic| walk_at "storeName") => `(tactic| (refine stop_cell (by rfl) (Stop.at ?_)))
local macro_rules | `(tactic| walk_at "call type:enumerate") => `(tactic| (refine Stop.at ?_))
local macro_rules | `(tactic| walk_at "call builtin:sum") => `(tactic| (refine Stop.at ?_))
local macro_rules | `(tactic| walk_at "EnumEnd") => `(tactic| (refine Stop.at ?_))
local macro_rules | `(tactic| walk_at "compareOp NotEq ref") => `(tactic| (refine Stop.at ?_))
local macro_rules | `(tactic| walk_at "execs cons") => `(tactic| ((with_reducible show wpAny _ _ (execs (Stmt.Assign [_] (Expr.ListComp _ [Comprehension.mk (Expr.Tuple _ _ _) _ _ _] _ _) _ :: _) _) _ _ _); refine execs_stop ?_))
local macro_rules | `(tactic| walk_at "subscriptTail Name Slice ref ref") => `(tactic| ((with_reducible show wpAny _ _ (subscriptTail _ (PySem.Expr.Slice _ none (some _) _) (Value.ref _) (Value.ref _)) _ _ _); refine Stop.at ?_))
local macro_rules | `(tactic| walk_at "call builtin:list.append") => `(tactic| (refine Stop.at ?_))
local macro_rules | `(tactic| walk_at "call builtin:list.sort") => `(tactic| (refine Stop.at ?_))
local macro_rules | `(tactic| walk_at "call builtin:sorted") => `(tactic| (refine Stop.at ?_))
local macro_rules | `(tactic| walk_at "compareOp NotIn int ref") => `(tactic| (refine Stop.at ?_))
local macro_rules | `(tactic| walk_at "execs cons") => `(tactic| ((with_reducible show wpAny _ _ (execs (Stmt.While _ _ _ _ :: _) _) _ _ _); refine execs_stop ?_))
local macro_rules | `(tactic| walk_at "execs cons") => `(tactic| ((with_reducible show wpAny _ _ (execs (Stmt.For _ _ _ _ _ :: _) _) _ _ _); refine execs_stop ?_))
local macro_rules | `(tactic| walk_at "call ref") => `(tactic| ((with_reducible show wpAny _ _ (call (Value.ref _) _ _) _ _ _); refine Stop.at ?_))
local macro_rules | `(tactic| walk_at "call builtin:list.insert") => `(tactic| (refine Stop.at ?_))
local macro_rules | `(tactic| walk_at "call builtin:len") => `(tactic| ((with_reducible show wpAny _ _ (call (Value.builtin _) [Value.ref _]) _ _ _); refine lenL (by k_asm) (by k_mem) (by omega) ?_))
local macro_rules | `(tactic| walk_at "callWith ref") => `(tactic| (first | refine callWith_F (KeyOK.fn (by assumption) _ _ _ _ (Frag.In.keeps (by assumption) (Fr.keep (by k_asm))) (by k_asm)) ?_ | refine callWith_F (KeyOK.fn (by assumption) [] _ _ _ (Frag.In.keeps (by assumption) (Fr.keep (by k_asm))) (by k_asm)) ?_))
local macro_rules | `(tactic| walk_at "And") => `(tactic| (first | refine ⟨KeyOK.fn (by assumption) _ _ _ _ (Frag.In.keeps (by assumption) (Fr.keep (by k_asm))) (by k_asm), ?_⟩ | refine ⟨KeyOK.fn (by assumption) [] _ _ _ (Frag.In.keeps (by assumption) (Fr.keep (by k_asm))) (by k_asm), ?_⟩))
local macro_rules | `(tactic| walk_at "compareOp Lt ref") => `(tactic| (refine Stop.at ?_))
local macro_rules | `(tactic| k_mem) => `(tactic| first | assumption | exact List.Mem.head _ | (refine List.Mem.tail _ ?_; k_mem))
local macro_rules | `(tactic| walk_at "compareOp Eq ref") => `(tactic| (refine Stop.at ?_))
local macro_rules | `(tactic| walk_at "setItem ref") => `(tactic| (refine Stop.at ?_))
local macro_rules | `(tactic| walk_at "pyIter ref") => `(tactic| (refine Stop.at ?_))
local macro_rules | `(tactic| walk_at "binaryOp Mult int int") => `(tactic| (refine Stop.at ?_))
local macro_rules | `(tactic| walk_at "CompSrcT") => `(tactic| (refine Stop.at ?_))
local macro_rules | `(tactic| walk_at "CompSrc") => `(tactic| (refine Stop.at ?_))
local macro_rules | `(tactic| walk_at "CompEnd") => `(tactic| (refine Stop.at ?_))
local macro_rules | `(tactic| walk_at "eval ListComp") => `(tactic| (refine Stop.at ?_))
local macro_rules | `(tactic| walk_at "newList") => `(tactic| (k_dflt (refine' newList_K ?k1 ?k2 ?_; (case k1 => k_asm); (case k2 => k_asm)); intro l' h' F' N' l1))
local macro_rules | `(tactic| walk_at "subscriptTail Name Slice ref ref") => `(tactic| ((with_reducible show wpAny _ _ (subscriptTail _ (PySem.Expr.Slice _ _ none _) (Value.ref _) (Value.ref _)) _ _ _); k_dflt (refine' sliceL ?F ?N ?l ?p ?q ?z ?_ ?s ?t; (case F => k_asm); (case N => k_asm); (case l => k_mem); (case p => first | exact IsPart.none | exact IsPart.int _ _); (case q => first | exact IsPart.none | exact IsPart.int _ _); (case s => with_unfolding_all rfl); (case t => (intro _; with_unfolding_all rfl)); (case z => omega)); intro D' h' F' N' l1))
local macro_rules | `(tactic| walk_at "binaryOp Add ref ref") => `(tactic| ((with_reducible show wpAny _ _ (binaryOp _ (Value.ref _) (Value.ref _)) _ _ _); refine Stop.at ?_))
local macro_rules | `(tactic| ktr_unf) => `(tactic| repeat' (first | (k_unfold; (try dsimp only)) | walk1 | (dsimp only; walk1)))
section
variable {w : World} {dp un : Nat} {gd : Option (List Code)} {cn : Str} {L a : Addr} {ccd : Value} {outer : List Env} {A₀ : Around} {base h₀ : Heap}
  {m : Str → Option Value} {news : Led} {s : Shared} {Q : Flow → Shared → Prop} {E : Value → Shared → Prop} {p : Program} {loose : List Str} {mean : ExcName → Option Value} {mg mb : Str → Option Value}
set_option maxRecDepth 100000 in
set_option maxHeartbeats 8000000 in
theorem law_tail {Ld a0 a2 a3 rl : Addr} {v1 : Value} {v0 v2 v3 : List Value} {nl k0 k2 k3 : Nat} {o4 : Obj} {S W : Int} {ts tt : Tok} {U DS DT : List (List Int × Int)} {row : List Int}
    (B : Below A₀ base outer h₀) (F : Fr h₀ L s.heap m) (X : (top.heap_39 w.params).In h₀) (N : News h₀ L s.heap news) (T : Top p loose mean mg mb h₀)
    (e1 : m (Str.ofString "s") = some (.int S ts)) (e2 : m (Str.ofString "t") = some (.int W tt)) (e3 : m (Str.ofString "led") = some (.ref Ld))
    (hLd : (Ld, PySem.W.listOf (List.toArray [.ref a0, v1, .ref a2, .ref a3]) nl) ∈ news) (hro : (L + 2, o4) ∈ news) (d1 : o4.data = .cell (some (.ref rl)))
    (hrow : RL RI news (.ref rl) row) (m0 : (a0, PySem.W.listOf v0.toArray k0) ∈ news) (R0 : RA (RP (RL RI) RI) news v0 U) (m2 : (a2, PySem.W.listOf v2.toArray k2) ∈ news) (R2 : RA (RP (RL RI) RI) news v2 DS) (m3 : (a3, PySem.W.listOf v3.toArray k3) ∈ news) (R3 : RA (RP (RL RI) RI) news v3 DT)
    (l0 : U.length ≤ 30 ∧ ∀ st ∈ U, st.1.length ≤ 20) (l2 : DS.length ≤ 30 ∧ ∀ st ∈ DS, st.1.length ≤ 20) (l3 : DT.length ≤ 30 ∧ ∀ st ∈ DT, st.1.length ≤ 20) (l4 : (ledF DS S).length ≤ 800)
    (q1 : ledF U (-S) = enteredF (ledF DS S) row S) (q2 : S ≠ W → ledF U (-W) = ledF DT S) (q3 : ledF DS (-W) = ledF DT (-S))
    (hdp : dp + 10 ≤ 400) (hun : un + 100 ≤ 5000) (ret : ∀ h' tk' m', Fr h₀ L h' m' → Q (.ret (.bool true)) { s with heap := h', toks := tk' }) :
    wpAny (model PySem.Challenge.rw_pe0007_02.row.prog w) (ktrTop dp un gd cn (fdAt (top.heap_39 w.params) 86).scope L a ccd [(Str.ofString "row", L + 2), (Str.ofString "taken", L + 1)] outer)
      (execs ((stmtsOf (fdAt (top.heap_39 w.params) 86).body).drop 9) (envX cn (fdAt (top.heap_39 w.params) 86).scope L a ccd [(Str.ofString "row", L + 2), (Str.ofString "taken", L + 1)])) Q E s := by
  (have X' := X; revert X'; k_fill; intro hX9; clear hX9)
  k_dflt (refine' body_of (P := fun fd => wpAny (model PySem.Challenge.rw_pe0007_02.row.prog w) (ktrTop dp un gd cn fd.scope L a ccd [(Str.ofString "row", L + 2), (Str.ofString "taken", L + 1)] outer)
      (execs ((stmtsOf fd.body).drop 9) (envX cn fd.scope L a ccd [(Str.ofString "row", L + 2), (Str.ofString "taken", L + 1)])) Q E s) ?ho ?_; (case ho => k_is))
  dsimp only [fnOf, stmtsOf, List.drop]
  have hcL := cLine_is
  ktr_unf
  k_dflt (refine itemL (by k_asm) hLd (by decide) (by decide) rfl ?_)
  ktr_unf
  k_dflt (refine itemL (by k_asm) hLd (by decide) (by decide) rfl ?_)
  ktr_unf
  k_dflt (refine itemL (by k_asm) hLd (by decide) (by decide) rfl ?_)
  ktr_unf
  refine Stop.go ?_
  k_dflt (refine led_call (l := a2) (sts := DS) B (by k_asm) X (by k_asm) T rfl m2 R2 l2.1 l2.2 (by omega) (by omega) ?_)
  rintro r tl4 h₁₅ tk₁₅ F₁₅ N₁₅ ap4 ⟨bl, bv, bk, tl5, rfl, rfl, offb, hB⟩
  generalize hLS : ledF DS S = LS at hB l4 q1
  ktr_unf
  refine Stop.go ?_
  have ofb : ∀ p ∈ tl5 ++ news, p.1 ≠ bl := fun q hq => by
    rcases List.mem_append.mp hq with hq | hq
    · exact offb q hq
    · exact ap4 q hq _ (.head _)
  k_dflt (refine entered_call (l := bl) (led := tl5 ++ news) (news := tl5 ++ news) (row := row) B (by k_asm) X (by k_asm) T rfl ofb (fun _ h => h) (hB.mono (RP.mono (RL.mono RI.mono) RI.mono) (fun q hq => List.mem_append_left _ hq)) (RL.mono RI.mono _ _ _ _ (fun q hq => List.mem_append_right _ hq) hrow) l4 (by omega) (by omega) ?_)
  intro bv' bn' tl6 h₁₆ tk₁₆ F₁₆ N₁₆ _ ap6 hB9
  have hB' := hB9.mono (RP.mono (RL.mono RI.mono) RI.mono) (n' := (bl, PySem.W.listOf bv'.toArray bn') :: (tl6 ++ (tl5 ++ news))) (fun q hq => .tail _ hq)
  rw [← q1] at hB'
  have sub1 : ∀ q ∈ news, q ∈ (bl, PySem.W.listOf bv'.toArray bn') :: (tl6 ++ (tl5 ++ news)) := fun q hq => .tail _ (List.mem_append_right _ (List.mem_append_right _ hq))
  have hb : (bl, PySem.W.listOf bv'.toArray bn') ∈ (bl, PySem.W.listOf bv'.toArray bn') :: (tl6 ++ (tl5 ++ news)) := .head _
  generalize (bl, PySem.W.listOf bv'.toArray bn') :: (tl6 ++ (tl5 ++ news)) = news2 at N₁₆ hB' sub1 hb
  clear hB9 ap6 ofb ap4 offb hB q1 l4 hLS LS
  ktr_unf
  refine Stop.go ?_
  k_dflt (refine led_call (l := a0) (sts := U) B (by k_asm) X (by k_asm) T rfl (sub1 _ m0) (R0.mono (RP.mono (RL.mono RI.mono) RI.mono) sub1) l0.1 l0.2 (by omega) (by omega) ?_)
  intro r tl7 h₁₇ tk₁₇ F₁₇ N₁₇ ap7 hr7
  have hr7 := hr7.rl (RP.mono (RL.mono RI.mono) RI.mono)
  generalize ledF U (-S) = US at hr7 hB'
  ktr_unf
  refine Stop.go ?_
  refine RL.ne (R := RP (RL RI) RI) (xs := US) (ys := US) eqRP (by k_asm) (RL.mono (RP.mono (RL.mono RI.mono) RI.mono) _ _ _ _ (fun q hq => List.mem_append_left _ hq) hr7) ⟨bl, bv', bn', rfl, List.mem_append_right _ hb, hB'.mono (RP.mono (RL.mono RI.mono) RI.mono) (fun q hq => List.mem_append_right _ hq)⟩ (by show un + (2 + 1) < cLine; omega) _ _ _ _ ?_
  rw [decide_eq_true rfl]
  have sub2 : ∀ q ∈ news, q ∈ tl7 ++ news2 := fun q hq => List.mem_append_right _ (sub1 q hq)
  generalize tl7 ++ news2 = news3 at N₁₇ sub2
  clear ap7 hr7 hB' hb N₁₆ sub1
  ktr_unf
  · refine Stop.go ?_
    rename_i hne
    k_dflt (refine led_call (l := a0) (sts := U) B (by k_asm) X (by k_asm) T rfl (sub2 _ m0) (R0.mono (RP.mono (RL.mono RI.mono) RI.mono) sub2) l0.1 l0.2 (by omega) (by omega) ?_)
    intro r20 tl20 h20 tk20 F20 N20 ap20 hr20
    replace hr20 := hr20.rl (RP.mono (RL.mono RI.mono) RI.mono)
    have sub20 : ∀ q ∈ news, q ∈ tl20 ++ news3 := fun q hq => List.mem_append_right _ (sub2 q hq)
    ktr_unf
    refine Stop.go ?_
    k_dflt (refine led_call (l := a3) (sts := DT) B (by k_asm) X (by k_asm) T rfl (sub20 _ m3) (R3.mono (RP.mono (RL.mono RI.mono) RI.mono) sub20) l3.1 l3.2 (by omega) (by omega) ?_)
    intro r21 tl21 h21 tk21 F21 N21 ap21 hr21
    replace hr21 := hr21.rl (RP.mono (RL.mono RI.mono) RI.mono)
    ktr_unf
    refine Stop.go ?_
    refine RL.ne (R := RP (RL RI) RI) (xs := (ledF U (-W))) (ys := (ledF DT S)) eqRP (by k_asm) (RL.mono (RP.mono (RL.mono RI.mono) RI.mono) _ _ _ _ (fun q hq => List.mem_append_right _ (List.mem_append_left _ hq)) hr20) (RL.mono (RP.mono (RL.mono RI.mono) RI.mono) _ _ _ _ (fun q hq => List.mem_append_left _ hq) hr21) (by show un + (2 + 1) < cLine; omega) _ _ _ _ ?_
    rw [q2 hne, decide_eq_true rfl]
    have sub3 : ∀ q ∈ news, q ∈ tl21 ++ (tl20 ++ news3) := fun q hq => List.mem_append_right _ (sub20 q hq)
    generalize tl21 ++ (tl20 ++ news3) = news4 at N21 sub3
    clear hr20 hr21 N20 ap20 ap21 sub20
    ktr_unf
    refine Stop.go ?_
    k_dflt (refine led_call (l := a2) (sts := DS) B (by k_asm) X (by k_asm) T rfl (sub3 _ m2) (R2.mono (RP.mono (RL.mono RI.mono) RI.mono) sub3) l2.1 l2.2 (by omega) (by omega) ?_)
    intro r30 tl30 h30 tk30 F30 N30 ap30 hr30
    replace hr30 := hr30.rl (RP.mono (RL.mono RI.mono) RI.mono)
    have sub30 : ∀ q ∈ news, q ∈ tl30 ++ news4 := fun q hq => List.mem_append_right _ (sub3 q hq)
    ktr_unf
    refine Stop.go ?_
    k_dflt (refine led_call (l := a3) (sts := DT) B (by k_asm) X (by k_asm) T rfl (sub30 _ m3) (R3.mono (RP.mono (RL.mono RI.mono) RI.mono) sub30) l3.1 l3.2 (by omega) (by omega) ?_)
    intro r31 tl31 h31 tk31 F31 N31 ap31 hr31
    replace hr31 := hr31.rl (RP.mono (RL.mono RI.mono) RI.mono)
    ktr_unf
    refine Stop.go ?_
    refine RL.rc (R := RP (RL RI) RI) (xs := (ledF DS (-W))) (ys := (ledF DT (-S))) eqRP (by k_asm) (RL.mono (RP.mono (RL.mono RI.mono) RI.mono) _ _ _ _ (fun q hq => List.mem_append_right _ (List.mem_append_left _ hq)) hr30) (RL.mono (RP.mono (RL.mono RI.mono) RI.mono) _ _ _ _ (fun q hq => List.mem_append_left _ hq) hr31) (by show un + (2 + 1) < cLine; omega) _ _ _ _ ?_
    rw [q3, decide_eq_true rfl]
    ktr_unf
    exact ret _ _ _ (by k_asm)
  · refine Stop.go ?_
    k_dflt (refine led_call (l := a2) (sts := DS) B (by k_asm) X (by k_asm) T rfl (sub2 _ m2) (R2.mono (RP.mono (RL.mono RI.mono) RI.mono) sub2) l2.1 l2.2 (by omega) (by omega) ?_)
    intro r30 tl30 h30 tk30 F30 N30 ap30 hr30
    replace hr30 := hr30.rl (RP.mono (RL.mono RI.mono) RI.mono)
    have sub30 : ∀ q ∈ news, q ∈ tl30 ++ news3 := fun q hq => List.mem_append_right _ (sub2 q hq)
    ktr_unf
    refine Stop.go ?_
    k_dflt (refine led_call (l := a3) (sts := DT) B (by k_asm) X (by k_asm) T rfl (sub30 _ m3) (R3.mono (RP.mono (RL.mono RI.mono) RI.mono) sub30) l3.1 l3.2 (by omega) (by omega) ?_)
    intro r31 tl31 h31 tk31 F31 N31 ap31 hr31
    replace hr31 := hr31.rl (RP.mono (RL.mono RI.mono) RI.mono)
    ktr_unf
    refine Stop.go ?_
    refine RL.rc (R := RP (RL RI) RI) (xs := (ledF DS (-W))) (ys := (ledF DT (-S))) eqRP (by k_asm) (RL.mono (RP.mono (RL.mono RI.mono) RI.mono) _ _ _ _ (fun q hq => List.mem_append_right _ (List.mem_append_left _ hq)) hr30) (RL.mono (RP.mono (RL.mono RI.mono) RI.mono) _ _ _ _ (fun q hq => List.mem_append_left _ hq) hr31) (by show un + (2 + 1) < cLine; omega) _ _ _ _ ?_
    rw [q3, decide_eq_true rfl]
    ktr_unf
    exact ret _ _ _ (by k_asm)
end
end Mine
namespace Mine
theorem with_fd {K : Frag} {f : Addr} {oc : Value} {od : Option Addr} {osl : Array (Option Value)} {fd : FuncData} {P : Prop} (ho : K.lookup f = some ⟨oc, od, .func fd, osl⟩) (h : fdAt K f = fd → P) : P :=
  h (by unfold fdAt; rw [ho])
theorem fd_to {x y : FuncData} {P : FuncData → Prop} (e : x = y) (h : P x) : P y := e ▸ h
/-- a list made by a comprehension over whole numbers, each item told by f -/
def MapJ {α : Type} (R : Led → Value → α → Prop) (base : Led) (f : Int → α) (ws : List Int) (i : Nat) (ys : List Value) (n₁ : Led) : Prop :=
  ∃ tl, n₁ = tl ++ base ∧ (∀ q ∈ base, ∀ p ∈ tl, q.1 ≠ p.1) ∧ RA R tl ys ((ws.take i).map f)
theorem MapJ.next {α : Type} {R : Led → Value → α → Prop} (hR : Mono R) {base : Led} {f : Int → α} {ws : List Int} {i : Nat} {ys : List Value} {tl tl2 : Led} {b : Int} {r : Value} (hb : ws[i]? = some b) (o : ∀ q ∈ base, ∀ p ∈ tl, q.1 ≠ p.1) (hY : RA R tl ys ((ws.take i).map f))
    (o2 : ∀ q ∈ base, ∀ p ∈ tl2, q.1 ≠ p.1) (hr : R tl2 r (f b)) : MapJ R base f ws (i + 1) (ys ++ [r]) ((tl2 ++ tl) ++ base) := by
  refine ⟨tl2 ++ tl, rfl, fun q hq p hp => ?_, ?_⟩
  · rcases List.mem_append.mp hp with hp | hp
    · exact o2 q hq p hp
    · exact o q hq p hp
  · have e : (ws.take (i + 1)).map f = (ws.take i).map f ++ [f b] := by rw [List.take_add_one, hb]; simp
    rw [e]
    exact (hY.mono hR fun q hq => List.mem_append_right _ hq).append (.cons (hR _ _ _ _ (fun q hq => List.mem_append_left _ hq) hr) .nil)
theorem mapSub {tl tl2 base : Led} {x y I C D : Addr × Obj} : ∀ p ∈ I :: C :: D :: ((tl2 ++ tl) ++ base), p ∈ tl2 ++ (x :: y :: I :: C :: D :: (tl ++ base)) := fun p hp => by
  simp only [List.mem_cons, List.mem_append] at hp ⊢; grind
theorem mapSub' {tl tl2 base : Led} {I C D : Addr × Obj} : ∀ p ∈ I :: C :: D :: ((tl2 ++ tl) ++ base), p ∈ tl2 ++ (I :: C :: D :: (tl ++ base)) := fun p hp => by
  simp only [List.mem_cons, List.mem_append] at hp ⊢; grind
theorem mapOff {tl2 n₁ : Led} {I C D : Addr} (off : ∀ p ∈ n₁, p.1 ≠ I ∧ p.1 ≠ C ∧ p.1 ≠ D) (a : ∀ p ∈ tl2, I ≠ p.1) (b : ∀ p ∈ tl2, C ≠ p.1) (d : ∀ p ∈ tl2, D ≠ p.1) : ∀ p ∈ tl2 ++ n₁, p.1 ≠ I ∧ p.1 ≠ C ∧ p.1 ≠ D := fun p hp => by
  rcases List.mem_append.mp hp with hp | hp
  · exact ⟨(a p hp).symm, (b p hp).symm, (d p hp).symm⟩
  · exact off p hp
theorem eqRR : EqR (RL (RP (RL RI) RI)) 3 := RL.eqR (RP.eqR (RL.eqR (RI.eqR 0) RI.fun) (RI.eqR 1) (RL.fun RI.fun) RI.fun) (RP.fun (RL.fun RI.fun) RI.fun)
theorem pickW {h₀ h : Heap} {L : Addr} {a b d e : Addr × Obj} (N : News h₀ L h [a, b, d, e]) : News h₀ L h [b, d, a] := fun q hq => N q (by
  rcases List.mem_cons.mp hq with rfl | hq
  · exact .tail _ (.head _)
  · rcases List.mem_cons.mp hq with rfl | hq
    · exact .tail _ (.tail _ (.head _))
    · exact List.mem_singleton.mp hq ▸ .head _)
theorem pick3 {h₀ h : Heap} {L : Addr} {a b d e f g : Addr × Obj} (N : News h₀ L h [a, b, d, e, f, g]) : News h₀ L h [g, a, b] := fun q hq => N q (by
  rcases List.mem_cons.mp hq with rfl | hq
  · exact .tail _ (.tail _ (.tail _ (.tail _ (.tail _ (.head _)))))
  · rcases List.mem_cons.mp hq with rfl | hq
    · exact .head _
    · exact .tail _ (List.mem_singleton.mp hq ▸ .head _))
local macro_rules | `(tactic| tb_start) => `(tactic| repeat (first | assumption | exact rfl | exact upd_eq | refine upd_ne (by decide) ?_))
local macro_rules | `(tactic| walk_at "eval Name") => `(tactic| (k_dflt (refine' nameX_L ?k1 ?k2 ?_ ?k4 ?k5; (case k4 => exact rfl); (case k5 => exact rfl); (case k1 => k_asm); (case k2 => tb_start))))
local macro_rules | `(tactic| walk_at "eval Name") => `(tactic| (k_dflt (refine' nameX_C ?k1 ?k2 ?k3 ?k6 ?_ ?k4 ?k5 ?k7; (case k4 => exact rfl); (case k5 => exact rfl); (case k7 => decide); (case k1 => k_asm); (case k2 => exact rfl); (case k3 => k_mem); (case k6 => assumption))))
local macro_rules | `(tactic| walk_at "eval Name") => `(tactic| (k_dflt (refine' lcf_free ?k1 ?k2 ?k3 ?k6 ?_ ?k4 ?k5 ?k7 ?k8; (case k4 => exact rfl); (case k5 => exact rfl); (case k7 => decide); (case k8 => decide); (case k1 => k_asm); (case k2 => exact rfl); (case k3 => k_mem); (case k6 => assumption))))
local macro_rules | `(tactic| walk_at "storeName") => `(tactic| (refine stop_cell (by rfl) (Stop.at ?_)))
local macro_rules | `(tactic| walk_at "call type:enumerate") => `(tactic| (refine Stop.at ?_))
local macro_rules | `(tactic| walk_at "call builtin:sum") => `(tactic| (refine Stop.at ?_))
local macro_rules | `(tactic| walk_at "execs cons") => `(tactic| ((with_reducible show wpAny _ _ (execs (Stmt.Assign [_] (Expr.Subscript _ _ _) _ :: _) _) _ _ _); refine Stop.at ?_))
local macro_rules | `(tactic| walk_at "EnumEnd") => `(tactic| (refine Stop.at ?_))
local macro_rules | `(tactic| walk_at "compareOp NotEq ref") => `(tactic| (refine Stop.at ?_))
local macro_rules | `(tactic| walk_at "execs cons") => `(tactic| ((with_reducible show wpAny _ _ (execs (Stmt.Assign [_] (Expr.ListComp _ [Comprehension.mk (Expr.Tuple _ _ _) _ _ _] _ _) _ :: _) _) _ _ _); refine execs_stop ?_))
local macro_rules | `(tactic| walk_at "subscriptTail Name Slice ref ref") => `(tactic| ((with_reducible show wpAny _ _ (subscriptTail _ (PySem.Expr.Slice _ none (some _) _) (Value.ref _) (Value.ref _)) _ _ _); refine Stop.at ?_))
local macro_rules | `(tactic| walk_at "call builtin:list.append") => `(tactic| (refine Stop.at ?_))
local macro_rules | `(tactic| walk_at "call builtin:list.sort") => `(tactic| (refine Stop.at ?_))
local macro_rules | `(tactic| walk_at "call builtin:sorted") => `(tactic| (refine Stop.at ?_))
local macro_rules | `(tactic| walk_at "compareOp NotIn int ref") => `(tactic| (refine Stop.at ?_))
local macro_rules | `(tactic| walk_at "execs cons") => `(tactic| ((with_reducible show wpAny _ _ (execs (Stmt.While _ _ _ _ :: _) _) _ _ _); refine execs_stop ?_))
local macro_rules | `(tactic| walk_at "execs cons") => `(tactic| ((with_reducible show wpAny _ _ (execs (Stmt.For _ _ _ _ _ :: _) _) _ _ _); refine execs_stop ?_))
local macro_rules | `(tactic| walk_at "call ref") => `(tactic| ((with_reducible show wpAny _ _ (call (Value.ref _) _ _) _ _ _); refine Stop.at ?_))
local macro_rules | `(tactic| walk_at "call builtin:list.insert") => `(tactic| (refine Stop.at ?_))
local macro_rules | `(tactic| walk_at "call builtin:len") => `(tactic| ((with_reducible show wpAny _ _ (call (Value.builtin _) [Value.ref _]) _ _ _); refine lenL (by k_asm) (by k_mem) (by omega) ?_))
local macro_rules | `(tactic| walk_at "callWith ref") => `(tactic| (first | refine callWith_F (KeyOK.fn (by assumption) _ _ _ _ (Frag.In.keeps (by assumption) (Fr.keep (by k_asm))) (by k_asm)) ?_ | refine callWith_F (KeyOK.fn (by assumption) [] _ _ _ (Frag.In.keeps (by assumption) (Fr.keep (by k_asm))) (by k_asm)) ?_))
local macro_rules | `(tactic| walk_at "And") => `(tactic| (first | refine ⟨KeyOK.fn (by assumption) _ _ _ _ (Frag.In.keeps (by assumption) (Fr.keep (by k_asm))) (by k_asm), ?_⟩ | refine ⟨KeyOK.fn (by assumption) [] _ _ _ (Frag.In.keeps (by assumption) (Fr.keep (by k_asm))) (by k_asm), ?_⟩))
local macro_rules | `(tactic| walk_at "compareOp Lt ref") => `(tactic| (refine Stop.at ?_))
local macro_rules | `(tactic| k_mem) => `(tactic| first | assumption | exact List.Mem.head _ | (refine List.Mem.tail _ ?_; k_mem))
local macro_rules | `(tactic| walk_at "compareOp Eq ref") => `(tactic| (refine Stop.at ?_))
local macro_rules | `(tactic| walk_at "setItem ref") => `(tactic| (refine Stop.at ?_))
local macro_rules | `(tactic| walk_at "pyIter ref") => `(tactic| (refine Stop.at ?_))
local macro_rules | `(tactic| walk_at "binaryOp Mult int int") => `(tactic| (refine Stop.at ?_))
local macro_rules | `(tactic| walk_at "CompSrcT") => `(tactic| (refine Stop.at ?_))
local macro_rules | `(tactic| walk_at "CompSrc") => `(tactic| (refine Stop.at ?_))
local macro_rules | `(tactic| walk_at "CompEnd") => `(tactic| (refine Stop.at ?_))
local macro_rules | `(tactic| walk_at "eval ListComp") => `(tactic| (refine Stop.at ?_))
local macro_rules | `(tactic| walk_at "newList") => `(tactic| (k_dflt (refine' newList_K ?k1 ?k2 ?_; (case k1 => k_asm); (case k2 => k_asm)); intro l' h' F' N' l1))
local macro_rules | `(tactic| walk_at "subscriptTail Name Slice ref ref") => `(tactic| ((with_reducible show wpAny _ _ (subscriptTail _ (PySem.Expr.Slice _ _ none _) (Value.ref _) (Value.ref _)) _ _ _); k_dflt (refine' sliceL ?F ?N ?l ?p ?q ?z ?_ ?s ?t; (case F => k_asm); (case N => k_asm); (case l => k_mem); (case p => first | exact IsPart.none | exact IsPart.int _ _); (case q => first | exact IsPart.none | exact IsPart.int _ _); (case s => with_unfolding_all rfl); (case t => (intro _; with_unfolding_all rfl)); (case z => omega)); intro D' h' F' N' l1))
local macro_rules | `(tactic| walk_at "binaryOp Add ref ref") => `(tactic| ((with_reducible show wpAny _ _ (binaryOp _ (Value.ref _) (Value.ref _)) _ _ _); refine Stop.at ?_))
local macro_rules | `(tactic| ktr_unf) => `(tactic| repeat' (first | (k_unfold; (try dsimp only)) | walk1 | (dsimp only; walk1)))
section
variable {w : World} {dp un : Nat} {gd : Option (List Code)} {cn : Str} {L a : Addr} {ccd : Value} {outer : List Env} {A₀ : Around} {base h₀ : Heap}
  {m : Str → Option Value} {news : Led} {s : Shared} {Q : Flow → Shared → Prop} {E : Value → Shared → Prop} {p : Program} {loose : List Str} {mean : ExcName → Option Value} {mg mb : Str → Option Value}
set_option maxRecDepth 100000 in
set_option maxHeartbeats 8000000 in
theorem law_body {l : Addr} {vs : List Value} {ns : List Int} {o1 o2 : Obj} {w1 w2 : Option Value}
    (B : Below A₀ base outer h₀) (F : Fr h₀ L s.heap m) (X : (top.heap_39 w.params).In h₀) (N : News h₀ L s.heap [(L + 2, o1), (L + 1, o2)]) (T : Top p loose mean mg mb h₀)
    (hms : m (Str.ofString "script") = some (.ref l)) (hl : h₀.IsList l vs.toArray) (hI : IntsAre vs ns) (hlen : ns.length ≤ 63) (d1 : o1.data = .cell w1) (d2 : o2.data = .cell w2) (hdp : dp + 10 ≤ 400) (hun : un + 100 ≤ 5000)
    (pure : ∀ x y s t : Int, (0 ≤ x ∧ x < 6) → (0 ≤ y ∧ y < 6) → (0 ≤ s ∧ s < 3) → (0 ≤ t ∧ t < 3) → LawOK [0, 1, 2, 3 + x, 3 + x + 1 + y] (1 + s) (1 + t))
    (ret : ∀ h' tk' m', Fr h₀ L h' m' → Q (.ret (.bool true)) { s with heap := h', toks := tk' }) :
    wpAny (model PySem.Challenge.rw_pe0007_02.row.prog w) (ktrTop dp un gd cn (fdAt (top.heap_39 w.params) 86).scope L a ccd [(Str.ofString "row", L + 2), (Str.ofString "taken", L + 1)] outer)
      (execs (stmtsOf (fdAt (top.heap_39 w.params) 86).body) (envX cn (fdAt (top.heap_39 w.params) 86).scope L a ccd [(Str.ofString "row", L + 2), (Str.ofString "taken", L + 1)])) Q E s := by
  (have X' := X; revert X'; k_fill; intro hX9; clear hX9)
  k_dflt (refine' body_of (P := fun fd => wpAny (model PySem.Challenge.rw_pe0007_02.row.prog w) (ktrTop dp un gd cn fd.scope L a ccd [(Str.ofString "row", L + 2), (Str.ofString "taken", L + 1)] outer)
      (execs (stmtsOf fd.body) (envX cn fd.scope L a ccd [(Str.ofString "row", L + 2), (Str.ofString "taken", L + 1)])) Q E s) ?ho ?_; (case ho => k_is))
  dsimp only [fnOf, stmtsOf]
  k_dflt (refine' with_fd (K := top.heap_39 w.params) (f := 86) ?ho ?_; (case ho => k_is))
  intro hfd
  have hln := hI.length
  have hcL := cLine_is
  ktr_unf
  refine Stop.go ?_
  k_dflt (refine LCg.ListComp_U (F₀ := by k_asm) (by with_unfolding_all rfl) (by decide) (by rfl) (by decide) (by rfl) ?_)
  ktr_unf
  rename_i D₁ ws h₁ F₁ N₁ hW _ _ lt₁
  have hW : RA RI [] ws (ns.take 63) := RA.ofInts hW
  have hwl : ws.length ≤ 63 := by have := hW.length; rw [List.length_take] at this; omega
  refine Stop.go ?_
  refine LCg.CompSrc.ledger rfl (by k_asm) (by k_asm) (List.Mem.head _) (by rw [List.size_toArray, sizeLine_eq]; omega) ?_
  intro g₁
  refine restU (N := ws.length) (fun i ys n₁ => n₁ = [(D₁, PySem.W.listOf ws.toArray 0), (L + 2, o1), (L + 1, o2)] ∧ ∃ tn, (∀ led, RA RI led ys tn) ∧ ys.length = i) ?_ ?_ _ 0 [] _ (by simp) ⟨rfl, [], fun _ => .nil, rfl⟩
  · rintro i v I oI C oC D m₃ h₉ tk₉ E' ys n₁ hi hv ⟨rfl, tn, hY, hyl⟩ hC hx F₉ N₉ off ne
    obtain ⟨b, hst, t₃, rfl⟩ := hW.get' (by simpa using hv)
    ktr_unf
    refine Stop.go ?_
    refine compEnd (by k_asm) (by k_asm) [(D₁, PySem.W.listOf ws.toArray 0), (L + 2, o1), (L + 1, o2)] (fun _ h => h) off (srcAt (.head _)) ⟨rfl, tn ++ [_], fun led => (hY led).append (.cons ⟨_, rfl⟩ .nil), by rw [List.length_append, List.length_singleton, hyl]⟩
  · rintro tv n₁ ⟨rfl, tn, hT, htl⟩
    intro Tk h₂ tk₂ F₂ N₂ offT
    have c21 : L + 2 ≠ L + 1 := Nat.ne_of_gt (Nat.lt_succ_self _)
    have T1 : L + 1 ≠ Tk := off1 offT _ (.tail _ (.tail _ (.head _)))
    have T2 : L + 2 ≠ Tk := off1 offT _ (.tail _ (.head _))
    ktr_unf
    refine Stop.go ?_
    have N₃ := News.sub N₂ (n' := [(L + 1, o2), (Tk, PySem.W.listOf tv.toArray tv.length), (L + 2, o1)]) (fun q hq => by
      simp only [List.mem_cons] at hq ⊢; grind)
    refine storeC F₂ N₃ (offC T1.symm (offC c21 offN)) rfl d2 ?_ rfl rfl
    clear N₂ N₃ d2 lt₁ offT
    intro h₃ o3 F₃ N₃ d2
    ktr_unf
    refine Stop.go ?_
    k_dflt (refine enumAssign (h₀ := h₀) (m := m) rfl (by with_unfolding_all rfl) (by with_unfolding_all rfl) (by decide) (by rfl) (by decide) (by rfl) (by rfl) (by decide) (by rfl) (by rfl) ?_)
    ktr_unf
    refine Stop.go ?_
    k_dflt (refine enumCall (fun _ v => ∃ k t, v = .int k t) rfl (by k_asm) (by k_asm) (.head _) (by show 4 ≤ 1000; omega) ?_ ?_)
    · intro e it
      intro i x t oe oi C oC D m₂ h tk E' ys hx hC hk hn F₉ N₉
      have hxi : ∃ k t, x = .int k t := by
        match i, hx with
        | 0, hx => cases hx; exact ⟨_, _, rfl⟩
        | 1, hx => cases hx; exact ⟨_, _, rfl⟩
        | 2, hx => cases hx; exact ⟨_, _, rfl⟩
        | 3, hx => cases hx; exact ⟨_, _, rfl⟩
        | _ + 4, hx => cases hx
      obtain ⟨k, t', rfl⟩ := hxi
      ktr_unf
      refine Stop.go ?_
      k_dflt (refine slice3L (by k_asm) (by k_asm) (isListOf (n := tv.length) (by k_asm) (by k_mem)) (hT []) (IsPart.int _ _) IsPart.none (IsPart.int _ _) (by decide) (by omega) ?_ (by with_unfolding_all rfl) (by intro _; with_unfolding_all rfl))
      intro Ds zs zn h₅ F₅ N₅ lt₅ hZ
      ktr_unf
      refine Stop.go ?_
      k_dflt (refine sumL (by k_asm) (by k_asm) rfl (.head _) (hZ []) ?_)
      intro h₆ tk₆ t₆ F₆ N₆
      ktr_unf
      refine Stop.go ?_
      exact ⟨_, _, rfl, F₆, fun q hq => N₆ q (.tail _ hq), _, _, rfl⟩
    · intro Nu nv h₄ tk₄ F₄ N₄ offN₄ hnl hnP
      match nv, hnl, hnP, N₄ with
      | [v0, v1, v2, v3], _, hnP, N₄ =>
      obtain ⟨n0, u0, rfl⟩ := hnP 0 v0 rfl
      obtain ⟨n1, u1, rfl⟩ := hnP 1 v1 rfl
      obtain ⟨n2, u2, rfl⟩ := hnP 2 v2 rfl
      obtain ⟨n3, u3, rfl⟩ := hnP 3 v3 rfl
      have hx : 0 ≤ Int.fmod n0 6 ∧ Int.fmod n0 6 < 6 := ⟨Int.fmod_nonneg_of_pos _ (by decide), Int.fmod_lt_of_pos _ (by decide)⟩
      have hy : 0 ≤ Int.fmod n1 6 ∧ Int.fmod n1 6 < 6 := ⟨Int.fmod_nonneg_of_pos _ (by decide), Int.fmod_lt_of_pos _ (by decide)⟩
      have hs : 0 ≤ Int.fmod n2 3 ∧ Int.fmod n2 3 < 3 := ⟨Int.fmod_nonneg_of_pos _ (by decide), Int.fmod_lt_of_pos _ (by decide)⟩
      have ht : 0 ≤ Int.fmod n3 3 ∧ Int.fmod n3 3 < 3 := ⟨Int.fmod_nonneg_of_pos _ (by decide), Int.fmod_lt_of_pos _ (by decide)⟩
      ktr_unf
      rename_i rl h₆ F₆ N₆ lt₆
      refine Stop.go ?_
      have hrow : ∀ t0 t1 t2 t3 t4 led, RA RI led [Value.int 0 t0, Value.int 1 t1, Value.int 2 t2, Value.int (3 + Int.fmod n0 6) t3, Value.int (3 + Int.fmod n0 6 + 1 + Int.fmod n1 6) t4] [0, 1, 2, 3 + Int.fmod n0 6, 3 + Int.fmod n0 6 + 1 + Int.fmod n1 6] :=
        fun _ _ _ _ _ _ => .cons ⟨_, rfl⟩ (.cons ⟨_, rfl⟩ (.cons ⟨_, rfl⟩ (.cons ⟨_, rfl⟩ (.cons ⟨_, rfl⟩ .nil))))
      obtain ⟨rv, N₇, hRV⟩ : ∃ rv : List Value, News h₀ L h₆ [(L + 2, o1), (rl, PySem.W.listOf rv.toArray 0), (Nu, LCg.lst [Value.int n0 u0, Value.int n1 u1, Value.int n2 u2, Value.int n3 u3])] ∧ ∀ led, RA RI led rv [0, 1, 2, 3 + Int.fmod n0 6, 3 + Int.fmod n0 6 + 1 + Int.fmod n1 6] :=
        ⟨_, pick3 N₆, hrow _ _ _ _ _⟩
      have r1 : rl ≠ L + 2 := Nat.ne_of_gt (lt₆ _ (.tail _ (.tail _ (.tail _ (.tail _ (.head _))))))
      have r2 : Nu ≠ L + 2 := Ne.symm (offN₄ _ (.tail _ (.tail _ (.tail _ (.head _)))))
      have r3 : Nu ≠ rl := Nat.ne_of_lt (lt₆ _ (.head _))
      refine storeC F₆ N₇ (offC r1 (offC r2 offN)) rfl d1 ?_ rfl rfl
      clear N₆ N₇ d1 lt₆
      intro h₇ o4 F₇ N₇ d1
      ktr_unf
      rename_i wl h₈ ltw h₉ F₉ N₉
      refine Stop.go ?_
      have hways : ∀ t0 t1 t2 t3 led, RA RI led [Value.int (1 + Int.fmod n2 3) t0, Value.int (1 + Int.fmod n3 3) t1, Value.int (-(1 + Int.fmod n2 3)) t2, Value.int (-(1 + Int.fmod n3 3)) t3] [1 + Int.fmod n2 3, 1 + Int.fmod n3 3, -(1 + Int.fmod n2 3), -(1 + Int.fmod n3 3)] :=
        fun _ _ _ _ _ => .cons ⟨_, rfl⟩ (.cons ⟨_, rfl⟩ (.cons ⟨_, rfl⟩ (.cons ⟨_, rfl⟩ .nil)))
      obtain ⟨wv, N₁₀, hWV⟩ : ∃ wv : List Value, News h₀ L h₉ [(L + 2, o4), (rl, PySem.W.listOf rv.toArray 0), (wl, PySem.W.listOf wv.toArray 0)] ∧ ∀ led, RA RI led wv [1 + Int.fmod n2 3, 1 + Int.fmod n3 3, -(1 + Int.fmod n2 3), -(1 + Int.fmod n3 3)] :=
        ⟨_, pickW N₉, hways _ _ _ _⟩
      clear N₉ hways hrow
      have hwv4 := (hWV []).length
      have hok := pure (Int.fmod n0 6) (Int.fmod n1 6) (Int.fmod n2 3) (Int.fmod n3 3) hx hy hs ht
      refine LCg.CompSrc.ledger rfl F₉ N₁₀ (.tail _ (.tail _ (.head _))) (by rw [List.size_toArray, sizeLine_eq, hwv4]; show 4 ≤ _; decide) ?_
      intro g₂
      refine restU (N := wv.length) (MapJ (RL (RP (RL RI) RI)) [(L + 2, o4), (rl, PySem.W.listOf rv.toArray 0), (wl, PySem.W.listOf wv.toArray 0)] (fun b => ledF [([0, 1, 2, 3 + Int.fmod n0 6, 3 + Int.fmod n0 6 + 1 + Int.fmod n1 6], 1)] b) [1 + Int.fmod n2 3, 1 + Int.fmod n3 3, -(1 + Int.fmod n2 3), -(1 + Int.fmod n3 3)]) ?_ ?_ _ 0 [] _ (by simp) ⟨[], rfl, (fun _ _ _ h => nomatch h), .nil⟩
      · rintro i v I oI C oC D m₃ h tk E' ys n₁ hi hv ⟨tl, rfl, o1, hY⟩ hC hx F N off ne
        obtain ⟨b, hst, t₃, rfl⟩ := (hWV []).get' (by simpa using hv)
        have hrm : (L + 2, o4) ∈ tl ++ [(L + 2, o4), (rl, PySem.W.listOf rv.toArray 0), (wl, PySem.W.listOf wv.toArray 0)] := List.mem_append_right _ (.head _)
        ktr_unf
        refine Stop.go ?_
        have hrl : (rl, PySem.W.listOf rv.toArray 0) ∈ tl ++ [(L + 2, o4), (rl, PySem.W.listOf rv.toArray 0), (wl, PySem.W.listOf wv.toArray 0)] := List.mem_append_right _ (.tail _ (.head _))
        k_dflt (refine led_call (sts := [([0, 1, 2, 3 + Int.fmod n0 6, 3 + Int.fmod n0 6 + 1 + Int.fmod n1 6], 1)]) B (by k_asm) X (by k_asm) T rfl (.head _) (.cons ⟨_, _, _, 0, rfl, .tail _ (.head _), ⟨rl, rv, 0, rfl, .tail _ (.tail _ (.tail _ (.tail _ (.tail _ hrl)))), hRV _⟩, ⟨_, rfl⟩⟩ .nil) (by show 1 ≤ 30; omega) (fun st hst => by rw [List.mem_singleton.mp hst]; show 5 ≤ 20; omega) (by omega) (by omega) ?_)
        intro r tl2 h₁₂ tk₁₂ F₁₂ N₁₂ ap hr
        ktr_unf
        refine Stop.go ?_
        exact compEnd F₁₂ N₁₂ ((tl2 ++ tl) ++ [(L + 2, o4), (rl, PySem.W.listOf rv.toArray 0), (wl, PySem.W.listOf wv.toArray 0)]) mapSub (by rw [List.append_assoc]; exact mapOff off (ap _ (.tail _ (.tail _ (.head _)))) (ap _ (.tail _ (.tail _ (.tail _ (.head _))))) (ap _ (.tail _ (.tail _ (.tail _ (.tail _ (.head _)))))))
          (srcAt (List.mem_append_right _ (.tail _ (.tail _ (.head _))))) (MapJ.next (RL.mono (RP.mono (RL.mono RI.mono) RI.mono)) hst o1 hY (fun q hq p hp => ap q (.tail _ (.tail _ (.tail _ (.tail _ (.tail _ (List.mem_append_right _ hq)))))) p hp) (hr.rl (RP.mono (RL.mono RI.mono) RI.mono)))
      · rintro lv n₁ ⟨tl, rfl, o5, hLV⟩
        intro Ld h₁₁ tk₁₁ F₁₁ N₁₁ offL
        rw [hwv4] at hLV
        have hLV : RA (RL (RP (RL RI) RI)) tl lv ([1 + Int.fmod n2 3, 1 + Int.fmod n3 3, -(1 + Int.fmod n2 3), -(1 + Int.fmod n3 3)].map fun b => ledF [([0, 1, 2, 3 + Int.fmod n0 6, 3 + Int.fmod n0 6 + 1 + Int.fmod n1 6], 1)] b) := hLV
        ktr_unf
        refine Stop.go ?_
        k_dflt (refine LCg.ListComp_U (F₀ := by k_asm) (by with_unfolding_all rfl) (by decide) (by rfl) (by decide) (by rfl) ?_)
        ktr_unf
        refine Stop.go ?_
        refine LCg.CompSrc.ledger rfl (by k_asm) (by k_asm) (.tail _ (List.mem_append_right _ (.tail _ (.tail _ (.head _))))) (by rw [List.size_toArray, sizeLine_eq, hwv4]; show 4 ≤ _; decide) ?_
        intro g₃
        refine restU (N := wv.length) (MapJ (RL (RP (RL RI) RI)) ((Ld, PySem.W.listOf lv.toArray lv.length) :: (tl ++ [(L + 2, o4), (rl, PySem.W.listOf rv.toArray 0), (wl, PySem.W.listOf wv.toArray 0)])) (fun b => plainF [0, 1, 2, 3 + Int.fmod n0 6, 3 + Int.fmod n0 6 + 1 + Int.fmod n1 6] b) [1 + Int.fmod n2 3, 1 + Int.fmod n3 3, -(1 + Int.fmod n2 3), -(1 + Int.fmod n3 3)]) ?_ ?_ _ 0 [] _ (by simp) ⟨[], rfl, (fun _ _ _ h => nomatch h), .nil⟩
        · rintro i v I oI C oC D m₃ h tk E' ys n₁ hi hv ⟨tl3, rfl, o1, hY⟩ hC hx F N off ne
          obtain ⟨b, hst, t₃, rfl⟩ := (hWV []).get' (by simpa using hv)
          have hrm : (L + 2, o4) ∈ tl3 ++ (Ld, PySem.W.listOf lv.toArray lv.length) :: (tl ++ [(L + 2, o4), (rl, PySem.W.listOf rv.toArray 0), (wl, PySem.W.listOf wv.toArray 0)]) := List.mem_append_right _ (.tail _ (List.mem_append_right _ (.head _)))
          have hrl : (rl, PySem.W.listOf rv.toArray 0) ∈ tl3 ++ (Ld, PySem.W.listOf lv.toArray lv.length) :: (tl ++ [(L + 2, o4), (rl, PySem.W.listOf rv.toArray 0), (wl, PySem.W.listOf wv.toArray 0)]) := List.mem_append_right _ (.tail _ (List.mem_append_right _ (.tail _ (.head _))))
          ktr_unf
          refine Stop.go ?_
          k_dflt (refine plain_call (row := [0, 1, 2, 3 + Int.fmod n0 6, 3 + Int.fmod n0 6 + 1 + Int.fmod n1 6]) (l := rl) B (by k_asm) X (by k_asm) T rfl (.tail _ (.tail _ (.tail _ hrl))) (hRV _) (by show 5 ≤ 20; omega) (by omega) (by omega) ?_)
          intro r tl2 h₁₂ tk₁₂ F₁₂ N₁₂ ap hr
          ktr_unf
          refine Stop.go ?_
          exact compEnd F₁₂ N₁₂ ((tl2 ++ tl3) ++ (Ld, PySem.W.listOf lv.toArray lv.length) :: (tl ++ [(L + 2, o4), (rl, PySem.W.listOf rv.toArray 0), (wl, PySem.W.listOf wv.toArray 0)])) mapSub' (by rw [List.append_assoc]; exact mapOff off (ap _ (.head _)) (ap _ (.tail _ (.head _))) (ap _ (.tail _ (.tail _ (.head _)))))
            (srcAt (List.mem_append_right _ (.tail _ (List.mem_append_right _ (.tail _ (.tail _ (.head _))))))) (MapJ.next (RL.mono (RP.mono (RL.mono RI.mono) RI.mono)) hst o1 hY (fun q hq p hp => ap q (.tail _ (.tail _ (.tail _ (List.mem_append_right _ hq)))) p hp) hr)
        · rintro pv n₁ ⟨tl3, rfl, o6, hPV⟩
          intro Pd h₁₃ tk₁₃ F₁₃ N₁₃ offP
          rw [hwv4] at hPV
          have hPV : RA (RL (RP (RL RI) RI)) tl3 pv ([1 + Int.fmod n2 3, 1 + Int.fmod n3 3, -(1 + Int.fmod n2 3), -(1 + Int.fmod n3 3)].map fun b => plainF [0, 1, 2, 3 + Int.fmod n0 6, 3 + Int.fmod n0 6 + 1 + Int.fmod n1 6] b) := hPV
          have heq : ([1 + Int.fmod n2 3, 1 + Int.fmod n3 3, -(1 + Int.fmod n2 3), -(1 + Int.fmod n3 3)].map fun b => ledF [([0, 1, 2, 3 + Int.fmod n0 6, 3 + Int.fmod n0 6 + 1 + Int.fmod n1 6], 1)] b) = [1 + Int.fmod n2 3, 1 + Int.fmod n3 3, -(1 + Int.fmod n2 3), -(1 + Int.fmod n3 3)].map fun b => plainF [0, 1, 2, 3 + Int.fmod n0 6, 3 + Int.fmod n0 6 + 1 + Int.fmod n1 6] b := List.map_congr_left hok.1
          ktr_unf
          refine Stop.go ?_
          refine RL.ne (R := RL (RP (RL RI) RI)) (xs := [1 + Int.fmod n2 3, 1 + Int.fmod n3 3, -(1 + Int.fmod n2 3), -(1 + Int.fmod n3 3)].map fun b => ledF [([0, 1, 2, 3 + Int.fmod n0 6, 3 + Int.fmod n0 6 + 1 + Int.fmod n1 6], 1)] b) (ys := [1 + Int.fmod n2 3, 1 + Int.fmod n3 3, -(1 + Int.fmod n2 3), -(1 + Int.fmod n3 3)].map fun b => plainF [0, 1, 2, 3 + Int.fmod n0 6, 3 + Int.fmod n0 6 + 1 + Int.fmod n1 6] b) eqRR (by k_asm) ⟨Ld, lv, _, rfl, .tail _ (List.mem_append_right _ (.head _)), hLV.mono (RL.mono (RP.mono (RL.mono RI.mono) RI.mono)) (fun q hq => .tail _ (List.mem_append_right _ (.tail _ (List.mem_append_left _ hq))))⟩ ⟨Pd, pv, _, rfl, .head _, hPV.mono (RL.mono (RP.mono (RL.mono RI.mono) RI.mono)) (fun q hq => .tail _ (List.mem_append_left _ hq))⟩ (by show un + (3 + 1) < cLine; omega) _ _ _ _ ?_
          rw [heq, decide_eq_true rfl]
          have N₁₄ := News.sub N₁₃ (n' := (Ld, PySem.W.listOf lv.toArray lv.length) :: (tl ++ [(L + 2, o4), (rl, PySem.W.listOf rv.toArray 0)])) (fun q hq => .tail _ (List.mem_append_right _ (by
            rcases List.mem_cons.mp hq with rfl | hq
            · exact .head _
            · rcases List.mem_append.mp hq with hq | hq
              · exact .tail _ (List.mem_append_left _ hq)
              · refine .tail _ (List.mem_append_right _ ?_)
                rcases List.mem_cons.mp hq with rfl | hq
                · exact .head _
                · exact .tail _ (List.mem_singleton.mp hq ▸ .head _))))
          clear N₁₃ hPV o6 offP
          match lv, hLV, N₁₄ with
          | _, .cons q0 (.cons q1 (.cons q2 (.cons q3 .nil))), N₁₄ =>
          obtain ⟨a0, v0, k0, rfl, m0, R0⟩ := q0
          obtain ⟨a2, v2, k2, rfl, m2, R2⟩ := q2
          obtain ⟨a3, v3, k3, rfl, m3, R3⟩ := q3
          clear heq
          ktr_unf
          refine Stop.go ?_
          obtain ⟨_, okL, ok4, okq1, okq2, okq3⟩ := hok
          have mm : ∀ x : Addr × Obj, ∀ q ∈ tl, q ∈ x :: (tl ++ [(L + 2, o4), (rl, PySem.W.listOf rv.toArray 0)]) := fun _ q hq => .tail _ (List.mem_append_left _ hq)
          k_dflt (refine fd_to (P := fun fd => wpAny (model PySem.Challenge.rw_pe0007_02.row.prog w) (ktrTop dp un gd cn fd.scope L a ccd [(Str.ofString "row", L + 2), (Str.ofString "taken", L + 1)] outer) (execs ((stmtsOf fd.body).drop 9) (envX cn fd.scope L a ccd [(Str.ofString "row", L + 2), (Str.ofString "taken", L + 1)])) Q E _) hfd ?_)
          k_dflt (refine law_tail (Ld := Ld) (S := 1 + Int.fmod n2 3) (W := 1 + Int.fmod n3 3) (rl := rl) B (by k_asm) X (by k_asm) T (by tb_start) (by tb_start) (by tb_start) (.head _) (.tail _ (List.mem_append_right _ (.head _))) d1 ⟨rl, rv, 0, rfl, .tail _ (List.mem_append_right _ (.tail _ (.head _))), hRV _⟩ (mm _ _ m0) (R0.mono (RP.mono (RL.mono RI.mono) RI.mono) (mm _)) (mm _ _ m2) (R2.mono (RP.mono (RL.mono RI.mono) RI.mono) (mm _)) (mm _ _ m3) (R3.mono (RP.mono (RL.mono RI.mono) RI.mono) (mm _)) (okL _ (.head _)) (okL _ (.tail _ (.tail _ (.head _)))) (okL _ (.tail _ (.tail _ (.tail _ (.head _))))) ok4 okq1 okq2 okq3 hdp hun (fun h' tk' m' F' => ret h' tk' m' F'))
end
end Mine
namespace Mine
theorem with_fdX {K : Frag} {h : Heap} {f : Addr} {oc : Value} {od : Option Addr} {osl : Array (Option Value)} {fd : FuncData} {P : Prop} (_ : K.In h) (ho : K.lookup f = some ⟨oc, od, .func fd, osl⟩) (k : fdAt K f = fd → P) : P := with_fd ho k
theorem law_head {w : World} {Q : Flow → Shared → Prop} {E : Value → Shared → Prop} {p : Program} {loose : List Str} {mean : ExcName → Option Value} {mg mb : Str → Option Value} {h₁ base h₀ : Heap} {L l : Addr} {m : Str → Option Value} {vs : List Value} {ns : List Int} {o1 o2 : Obj} {w1 w2 : Option Value}
    (B : Below callerA base [] h₀) (F : Fr h₀ L h₁ m) (X : (top.heap_39 w.params).In h₀) (N : News h₀ L h₁ [(L + 2, o1), (L + 1, o2)]) (T : Top p loose mean mg mb h₀)
    (hms : m (Str.ofString "script") = some (.ref l)) (hl : h₀.IsList l vs.toArray) (hI : IntsAre vs ns) (hlen : ns.length ≤ 63) (d1 : o1.data = .cell w1) (d2 : o2.data = .cell w2) 
    (a : Addr) (ccd : Value) (s : Shared) (hs : s.heap = h₁) (ret : ∀ h' tk' m', Fr h₀ L h' m' → Q (.ret (.bool true)) { s with heap := h', toks := tk' }) :
    wpAny (model PySem.Challenge.rw_pe0007_02.row.prog w) (ktrTop 302 7 (some []) (Str.ofString "law") (fdAt (top.heap_39 w.params) 86).scope L a ccd [(Str.ofString "row", L + 2), (Str.ofString "taken", L + 1)] [])
      (execs (stmtsOf (fdAt (top.heap_39 w.params) 86).body) (envX (Str.ofString "law") (fdAt (top.heap_39 w.params) 86).scope L a ccd [(Str.ofString "row", L + 2), (Str.ofString "taken", L + 1)])) Q E s := by
  subst hs
  exact law_body (dp := 302) (un := 7) B F X N T hms hl hI hlen d1 d2 (by omega) (by omega) law_pure ret
end Mine
set_option maxRecDepth 100000 in
set_option maxHeartbeats 8000000 in
theorem PySem.Challenge.cw_pe0007_02_holds : PySem.Challenge.rw_pe0007_02.Holds :=
  Mine.top (by
  w_strict (
    k_go0
    (all_goals try k_fold)
    k_dflt (refine' Mine.with_fdX (K := Mine.top.heap_39 _) (f := 86) (by assumption) ?ho ?_; (case ho => k_is))
    intro hfd
    have key := Mine.law_head (Q := qk) (E := ek) (by assumption : Below callerA _ _ _) (by assumption : Fr _ _ _ _) (by assumption : (Mine.top.heap_39 _).In _) (by assumption : News _ _ _ _) (by assumption : Top _ _ _ _ _ _) rfl (by assumption : Heap.IsList _ _ _) (by assumption : IntsAre _ _) (by omega) (by assumption) (by assumption)
    simp only [hfd] at key
    refine key _ _ _ rfl ?_
    intro h' tk' m' F'
    k_steps))
