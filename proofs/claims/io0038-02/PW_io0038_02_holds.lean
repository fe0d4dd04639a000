import PyProof.Rows.All
import Wide.All
import OpenK.AllK
import Wide.FinOn
import Lean
import PySem.Challenge.RW_io0038_02
open PySem PySem.W PyProof.Rows PySem.Calls
set_option Elab.async false
set_option maxRecDepth 100000
set_option maxHeartbeats 8000000
namespace Mine
set_option maxRecDepth 100000 in
set_option maxHeartbeats 8000000 in
open_top hd for PySem.Challenge.rw_io0038_02
example : True := by w_top off; trivial
section
noncomputable abbrev P := PySem.Challenge.rw_io0038_02.row.prog
noncomputable abbrev V := Mine.hd.view_39
abbrev TopH (h : Heap) : Prop := ∃ mean mg mb, Top V (looseW V []) mean mg mb h
abbrev AA (dp : Nat) (outer : List Env) (gd : Option (List Code)) (un : Nat) : Around := { handled := none, depth := dp, frames := some outer, guards := gd, units := un }

/-- what a call of a def without a change hands back -/
def Ret (s : Shared) (Post : Value → Heap → Prop) (r : Result) (s' : Shared) : Prop :=
  ∃ v h' tk, r = .ok (.ret v) ∧ s' = { s with heap := h', toks := tk } ∧ s.heap.StaysIn h' ∧ Post v h'

/-- entering a def of the text -/
theorem enter {w : World} {A : Around} {R : Result → Shared → Prop} {s : Shared} {name qual : Str} {params : Arguments} {body : List Stmt} {scope : Scope} {dV kV doc pm cdv ct oc : Value} {an od : Option Addr} {osl : Array (Option Value)} {f : Addr} {args : Args} {binds : List (Str × Value)}
    (X : (Mine.hd.heap_39 w.params).In s.heap) (T : TopH s.heap)
    (ho : (Mine.hd.heap_39 w.params).lookup f = some ⟨oc, od, .func (fnOf name qual params body scope dV kV doc pm an cdv ct), osl⟩) (hcd : codeIn (Mine.hd.heap_39 w.params) cdv qual = true) (hroom : A.depth < recursionLimit)
    (hbind : BindsTo s (fnOf name qual params body scope dV kV doc pm an cdv ct) args binds) (hloc : ∀ y ∈ binds, scope.names.lookup y.1 = some .local)
    (h : ∀ L' h₁ mean mg mb, Fr s.heap L' h₁ (fun y => binds.reverse.lookup y) → News s.heap L' h₁ [] → Top V (looseW V []) mean mg mb s.heap →
      wpAny (model P w) (A.deeper (envOf qual scope L' f cdv)) (execs body (envOf qual scope L' f cdv))
        (fun fl s' => R (.ok (.ret (match fl with | .ret v => v | _ => .none))) s')
        (fun _ _ => False)
        { s with heap := h₁, toks := s.toks + binds.length })
    (hco : scope.isCoroutine = false) (hgen : scope.isGenerator = false) (hk : scope.kind = .function) (hcell : ∀ x ∈ scope.names, x.2 ≠ .cell) :
    codeAny (model P w) A (.call (.ref f) args) R s := by
  obtain ⟨mean, mg, mb, T⟩ := T
  refine codeAny_call_def (fd := fnOf name qual params body scope dV kV doc pm an cdv ct) (body := body) (binds := binds) hroom (X _ _ ho) rfl T.nolimit (codeRec_of X hcd) rfl hbind hcell hloc (fun h₁ hns hk₁ => ?_) hco hgen hk
  exact wpAny_mono (h _ h₁ mean mg mb ⟨hns, hk₁, Nat.le_refl _⟩ (fun _ hp => nomatch hp) T) (fun _ _ x => x) fun _ _ x => x.elim

section
variable {prog : Program} {w : World} {A : Around} {E : Value → Shared → Prop} {s : Shared}
theorem truthy_list_ne {l : Addr} {items : Array Value} {texts : List Str} {Q : Bool → Shared → Prop} (hl : s.heap.IsList l items) (hi : StrsAre items.toList texts) (hne : texts ≠ []) (hfit : texts.length ≤ 2 ^ 24)
    (h : ∀ tk, Q true { s with toks := tk }) : wpAny (model prog w) A (truthy (.ref l)) Q E s := by
  have hlen := StrsAre.length hi
  refine wpAny_truthy_list hl (by rw [Array.length_toList] at hlen; omega) ?_
  have : items.isEmpty = false := by
    cases items with
    | mk xs => cases xs with
      | nil => cases texts with
        | nil => exact absurd rfl hne
        | cons _ _ => cases hi
      | cons _ _ => rfl
  rw [this]
  exact h _
theorem truthy_list_nil {l : Addr} {Q : Bool → Shared → Prop} (hl : s.heap.IsList l #[])
    (h : ∀ tk, Q false { s with toks := tk }) : wpAny (model prog w) A (truthy (.ref l)) Q E s := by
  refine wpAny_truthy_list hl (by decide) ?_
  exact h _
theorem truthy_tup_nil {l : Addr} {Q : Bool → Shared → Prop} (hl : IsTup s.heap l #[])
    (h : ∀ tk, Q false { s with toks := tk }) : wpAny (model prog w) A (truthy (.ref l)) Q E s := by
  refine truthy_tuple hl (by decide) ?_
  exact h _
theorem ret_of {s s' : Shared} {v : Value} {Post : Value → Heap → Prop} (hs : s.heap.StaysIn s'.heap) (hp : Post v s'.heap) (he : s' = { s with heap := s'.heap, toks := s'.toks }) : Ret s Post (.ok (.ret v)) s' :=
  ⟨v, s'.heap, s'.toks, rfl, he, hs, hp⟩
end
section
variable {prog : Program} {w : World} {A : Around} {E : Value → Shared → Prop} {s : Shared}
theorem notin_sup_none {t : Addr} {sup : Str} {u : Tok} {Q : Value → Shared → Prop} (ht : IsTup s.heap t #[.none, .str sup u]) (h : Q (.bool false) s) :
    wpAny (model prog w) A (compareOp .NotIn .none (.ref t)) Q E s := by
  refine SeqAt.notIn_tupleAt (fun y => match y with | .none => true | _ => false) ht (fun y hy => ?_) (by simpa using h)
  have hy' : y = .none ∨ y = .str sup u := by simpa using hy
  rcases hy' with rfl | rfl
  · exact SeqAt.EqAt.same _
  · exact SeqAt.EqAt.str_none _ _
theorem notin_sup_same {t : Addr} {sup : Str} {u tk : Tok} {Q : Value → Shared → Prop} (ht : IsTup s.heap t #[.none, .str sup u]) (h : Q (.bool false) s) :
    wpAny (model prog w) A (compareOp .NotIn (.str sup tk) (.ref t)) Q E s := by
  refine SeqAt.notIn_tupleAt (fun y => match y with | .none => false | _ => true) ht (fun y hy => ?_) (by simpa using h)
  have hy' : y = .none ∨ y = .str sup u := by simpa using hy
  rcases hy' with rfl | rfl
  · exact SeqAt.EqAt.none_str _ _
  · have := SeqAt.EqAt.str_str (A := A.in1) (s := s) sup u sup tk
    rwa [show (sup == sup) = true from by simp] at this
theorem notin_sup_tup {t l : Addr} {sup : Str} {u : Tok} {items : Array Value} {Q : Value → Shared → Prop} (ht : IsTup s.heap t #[.none, .str sup u]) (hl : IsTup s.heap l items) (hu : A.units + 1 < cLine) (h : Q (.bool true) s) :
    wpAny (model prog w) A (compareOp .NotIn (.ref l) (.ref t)) Q E s := by
  refine SeqAt.notIn_tupleAt (fun _ => false) ht (fun y hy => ?_) (by simpa using h)
  have hy' : y = .none ∨ y = .str sup u := by simpa using hy
  rcases hy' with rfl | rfl
  · exact SeqAt.EqAt.none_tuple hl hu
  · exact SeqAt.EqAt.str_tuple _ _ hl hu
end
/-- a metavar or a dest that says nothing -/
def Hidden (v : Value) : Prop := v = .none ∨ ∃ t, v = .str "==SUPPRESS==" t
theorem Hidden.none : Hidden .none := .inl rfl
theorem Hidden.handed {v : Value} (h : Hidden v) : W.handedIn v = true := by
  rcases h with rfl | ⟨_, rfl⟩ <;> rfl
theorem Hidden.sup {t : Tok} : Hidden (.str "==SUPPRESS==" t) := .inr ⟨t, rfl⟩
/-- an empty list or tuple -/
def Empty (h : Heap) (o : Addr) : Prop := h.IsList o #[] ∨ IsTup h o #[]
theorem Empty.keeps {h h' : Heap} {o : Addr} (k : h.StaysIn h') (e : Empty h o) : Empty h' o := e.elim (fun x => .inl (stays_list k x)) fun x => .inr (stays_tup k x)
section
variable {prog : Program} {w : World} {A : Around} {E : Value → Shared → Prop} {s : Shared}
theorem truthy_empty {l : Addr} {Q : Bool → Shared → Prop} (hl : Empty s.heap l)
    (h : ∀ tk, Q false { s with toks := tk }) : wpAny (model prog w) A (truthy (.ref l)) Q E s := by
  rcases hl with hl | hl
  · exact truthy_list_nil hl h
  · exact truthy_tup_nil hl h
theorem notin_sup_hidden {t : Addr} {v : Value} {u : Tok} {Q : Value → Shared → Prop} (ht : IsTup s.heap t #[.none, .str "==SUPPRESS==" u]) (hv : Hidden v) (h : Q (.bool false) s) :
    wpAny (model prog w) A (compareOp .NotIn v (.ref t)) Q E s := by
  rcases hv with rfl | ⟨_, rfl⟩
  · exact notin_sup_none ht h
  · exact notin_sup_same ht h
end
theorem isi_nested_same {v t : Value} {dep : Int} {tk : Tok} {Q : Fin → Shared → Prop} {M : Model} {A : Around} {E : Value → Shared → Prop} {s : Shared} (ht : Looks M s.heap (typeOf v) t) (h : Q (.done (.ret (.bool true))) s) :
    wpAny M A (Builtin.«isinstance.nested» ⟨[v, t, .int dep tk], []⟩) Q E s := by
  obtain ⟨hh, g, d, tt, os⟩ := s
  unfold Builtin.«isinstance.nested»
  refine wpAny_bind (ht.at ?_)
  rw [if_pos (by simp)]
  exact wpAny_bind (wpAny_rule (wpAny_bind (wpAny_pure (wpAny_pure h))))
section
variable {prog : Program} {w : World} {A : Around} {E : Value → Shared → Prop} {s : Shared}
theorem isi_tuple {l : Addr} {items : Array Value} {Q : Value → Shared → Prop} (hl : IsTup s.heap l items) (h : Q (.bool true) s) :
    wpAny (model prog w) A (call (.builtin "isinstance") [.ref l, .type "tuple"]) Q E s :=
  call_isinstance (S := fun _ R s => (∀ M, Looks M s.heap (typeOf (.ref l)) (.type "tuple")) ∧ R (.ok (.ret (.bool true))) s)
    (fun _ _ _ _ _ hs => isinstance_outer (isi_nested_same (hs.1 _) hs.2) (fun e => nomatch e))
    ⟨fun M A Q E s' k q => wpAny_typeOf (by obtain ⟨o, ho, hc, _⟩ := hl; exact ⟨o, k _ _ ho, hc⟩) q, h⟩
theorem len_tup {l : Addr} {items : Array Value} {Q : Value → Shared → Prop} (hl : IsTup s.heap l items) (hsz : items.size ≤ 2 ^ 24) (h : ∀ t tk, Q (.int items.size t) { s with toks := tk }) :
    wpAny (model prog w) A (call (.builtin "len") [.ref l]) Q E s :=
  len_tuple hl (by omega) (h _ _)
end

theorem join_len (sep : Str) : ∀ ts : List Str, (Txt.join sep ts).length ≤ (ts.map (·.length)).sum + ts.length * sep.length
  | [] => by show (Str.mk #[]).length ≤ _; exact Nat.zero_le _
  | [x] => by show x.length ≤ _; simp
  | x :: y :: r => by
    have ih := join_len sep (y :: r)
    have e : Txt.join sep (x :: y :: r) = x ++ sep ++ Txt.join sep (y :: r) := by
      show Builtin.Str.glued sep (x :: y :: r) = x ++ sep ++ Builtin.Str.glued sep (y :: r)
      rw [StrLaws.glued_eq_join, StrLaws.glued_eq_join]; rfl
    rw [e, Str.length_append, Str.length_append, List.map_cons, List.sum_cons, List.length_cons, Nat.succ_mul]
    omega
theorem join_len_le {sep : Str} {ts : List Str} (hs : sep.length ≤ 2) (hw : (ts.map (·.length)).sum + ts.length ≤ 100000) : (Txt.join sep ts).length ≤ 300000 := by
  have h1 := join_len sep ts
  have h2 : ts.length * sep.length ≤ ts.length * 2 := Nat.mul_le_mul_left _ hs
  omega
section
variable {prog : Program} {w : World} {A : Around} {E : Value → Shared → Prop} {s : Shared}
theorem mod_brace {y : Str} {tF t : Tok} {Q : Value → Shared → Prop} (hy : y.length ≤ 1000000)
    (h : ∀ t' k, Q (.str ("{" ++ y ++ "}") t') { s with toks := k }) : wpAny (model prog w) A (binaryOp .Mod (.str "{%s}" tF) (.str y t)) Q E s := by
  have hF : ("{%s}" : Str) = Str.mk #[123, 37, 115, 125] := by decide +kernel
  refine KPc.mod_str (T := fun z => "{" ++ z ++ "}") hF hy (fun z hz => ?_) h
  kpc_run_s
end

theorem le_big {a : Nat} (h : a ≤ 100000) : a ≤ 1048576 := Nat.le_trans h (by decide)

/-- a name's value set in a list of names -/
def mset (x : Str) (v : Value) : List (Str × Value) → List (Str × Value)
  | [] => [(x, v)]
  | (y, u) :: r => if x == y then (y, v) :: r else (y, u) :: mset x v r
theorem mset_at (x : Str) (v : Value) (y : Str) : ∀ l : List (Str × Value), List.lookup y (mset x v l) = if y = x then some v else List.lookup y l
  | [] => by
    unfold mset
    by_cases h : y = x
    · subst h; simp [List.lookup]
    · rw [if_neg h]; simp [List.lookup, show (y == x) = false from by simpa using h]
  | (z, u) :: r => by
    unfold mset
    by_cases hz : x = z
    · subst hz
      simp only [BEq.rfl, if_true]
      by_cases h : y = x
      · subst h; simp [List.lookup]
      · rw [if_neg h]; simp [List.lookup, show (y == x) = false from by simpa using h]
    · rw [if_neg (by simpa using hz)]
      by_cases h : y = z
      · subst h
        rw [if_neg (fun e => hz e.symm)]
        simp [List.lookup]
      · rw [List.lookup_cons, List.lookup_cons, show (y == z) = false from by simpa using h]
        exact mset_at x v y r
section
variable {prog : Program} {w : World} {A : Around} {E : Value → Shared → Prop} {s : Shared}
theorem item_at {value slice : PySem.Expr} {l : Addr} {vs : Array Value} {k : Int} {u : Tok} {v : Value} {Q : Value → Shared → Prop}
    (hl : s.heap.IsList l vs) (h0 : 0 ≤ k) (hhi : k < 2 ^ 63) (hx : vs[k.toNat]? = some v) (h : Q v s)
    (hs : subscripted slice false (.ref l) (.int k u) = operate [.ref l, .int k u] (getItem (.ref l) (.int k u)) := by with_unfolding_all rfl) :
    wpAny (model prog w) A (subscriptTail value slice (.ref l) (.int k u)) Q E s :=
  tail_any hl.typeIs F.slot_list_getitem.lookup (wpAny_getItem_list hl h0 hhi hx h) hs
end
section
variable {prog : Program} {w : World} {A : Around} {E : Value → Shared → Prop} {s : Shared}
end
section
variable {prog : Program} {w : World} {A : Around} {E : Value → Shared → Prop} {s : Shared} {h₀ : Heap} {L : Addr} {m : Str → Option Value} {news : List (Addr × Obj)}
end
def nth : List Value → Nat → Option Value
  | [], _ => none
  | x :: _, 0 => some x
  | _ :: r, k + 1 => nth r k
theorem nth_eq : ∀ (l : List Value) (k : Nat), nth l k = l[k]?
  | [], k => by simp [nth]
  | x :: r, 0 => by simp [nth]
  | x :: r, k + 1 => by rw [nth, nth_eq r k]; simp
theorem item_nth {prog : Program} {w : World} {A : Around} {E : Value → Shared → Prop} {s : Shared} {value slice : PySem.Expr} {l : Addr} {vs : Array Value} {k : Int} {u : Tok} {v : Value} {Q : Value → Shared → Prop}
    (hl : s.heap.IsList l vs) (h0 : 0 ≤ k) (hhi : k < 2 ^ 63) (hx : nth vs.toList k.toNat = some v) (h : Q v s)
    (hs : subscripted slice false (.ref l) (.int k u) = operate [.ref l, .int k u] (getItem (.ref l) (.int k u)) := by with_unfolding_all rfl) :
    wpAny (model prog w) A (subscriptTail value slice (.ref l) (.int k u)) Q E s :=
  item_at hl h0 hhi (by rw [nth_eq, Array.getElem?_toList] at hx; exact hx) h hs
theorem en_all {x D : Addr} {o : Obj} {l : List (Addr × Obj)} (h : ∀ p ∈ l, p.1 < D) (m : (x, o) ∈ l) : D ≠ x := Nat.ne_of_gt (h _ m)
theorem room0 {dp a R : Nat} (h : dp + a < R) : dp < R := Nat.lt_of_le_of_lt (Nat.le_add_right dp a) h
theorem room1 {dp a k R : Nat} (h : dp + a < R) (hk : Nat.ble (1 + k) a = true) : dp + 1 + k < R := by
  have := Nat.le_of_ble_eq_true hk
  omega
theorem room3 {un a k R : Nat} (h : un + a < R) (hk : Nat.ble (3 + k) a = true) : un + 3 + k < R := by
  have := Nat.le_of_ble_eq_true hk
  omega

end
section
theorem join_snoc' (sep a : Str) (l : List Str) : Txt.join sep (l ++ [a]) = if l = [] then a else Txt.join sep l ++ sep ++ a := by
  show Builtin.Str.glued sep (l ++ [a]) = if l = [] then a else Builtin.Str.glued sep l ++ sep ++ a
  rw [StrLaws.glued_eq_join, StrLaws.glued_eq_join]
  exact PyProof.Rows.FinIter.join_snoc sep a l
theorem str_empty : Str.ofString "" = Str.empty := by decide +kernel
theorem StrsAre.snoc {vs : List Value} {ys : List Str} (h : StrsAre vs ys) (y : Str) (t : Tok) : StrsAre (vs ++ [.str y t]) (ys ++ [y]) := by
  induction h with
  | nil => exact .cons _ _ .nil
  | cons _ _ _ ih => exact .cons _ _ ih
end
section
/-- a turn's end: what it hands back, or the next turn's state -/
def TurnH (h₀ : Heap) (L : Addr) (s : Shared) (Q : Flow → Shared → Prop) (St' : Heap → Prop) (J' : (Str → Option Value) → Heap → Prop) (f : Flow) (s' : Shared) : Prop :=
  match f with
  | .ret v => Q (.ret v) s'
  | .brk => Q .next s'
  | _ => ∃ h' tk' m', s' = { s with heap := h', toks := tk' } ∧ St' h' ∧ Fr h₀ L h' m' ∧ J' m' h'
theorem TurnH.intro {h₀ : Heap} {L : Addr} {s : Shared} {Q : Flow → Shared → Prop} {St' : Heap → Prop} {J' : (Str → Option Value) → Heap → Prop} {h' : Heap} {tk' : Nat} {m' : Str → Option Value}
    (F : Fr h₀ L h' m') (st : St' h') (j : J' m' h') : TurnH h₀ L s Q St' J' .next { s with heap := h', toks := tk' } := ⟨h', tk', m', rfl, st, F, j⟩
section
variable {prog : Program} {w : World} {A : Around} {s : Shared} {env : Env} {h₀ : Heap} {E : Value → Shared → Prop} {Q : Flow → Shared → Prop}
theorem loop_heap {x : Str} {px : Pos} {body : List Stmt} {I : Addr} {fp wr : List Addr} {n : Nat} {P : Nat → Value → Prop} {St : Nat → Heap → Prop} {m₀ : Str → Option Value}
    (J : Nat → (Str → Option Value) → Heap → Prop) (W : Walks prog w A I fp wr n P St) (hx : env.kindOf x = some .local)
    (hp : (env.scope.kind == .class || (env.scope.kind == .module && env.locals != env.globals)) = false)
    (hLf : env.locals ∉ fp) (hwr : ∀ b ∈ wr, h₀.get? b = none) (hst : St 0 s.heap) (F : Fr h₀ env.locals s.heap m₀) (h0 : J 0 m₀ s.heap)
    (hJ : ∀ i m h h', J i m h → (∀ b o, b ∉ wr → b ≠ env.locals → h.get? b = some o → h'.get? b = some o) → J i m h')
    (turn : ∀ i v m₁ h tk, i < n → P i v → J i m₁ h → St (i + 1) h → Fr h₀ env.locals h (fun y => if y = x then some v else m₁ y) →
      wpAny (model prog w) A (execs body env) (TurnH h₀ env.locals s Q (St (i + 1)) (J (i + 1))) E { s with heap := h, toks := tk })
    (done : ∀ m₁ h tk, J n m₁ h → Fr h₀ env.locals h m₁ → Q .next { s with heap := h, toks := tk })
    (hE : PassesOwn (model prog w) A env E) :
    codeAny (model prog w) A (.forLoop (.Name x px) (.ref I) body [] env) (fun r s' => match r with | .ok f => Q f s' | .error e => cameBackBy (model prog w) A env E e s') s := by
  have hLw : env.locals ∉ wr := fun h => hLf (W.sub _ h)
  have old : ∀ b o, h₀.get? b = some o → b ∉ wr := fun b o e hb => by rw [hwr b hb] at e; cases e
  refine codeAny_forLoop (fun k s' => ∃ h' tk m' i, s' = { s with heap := h', toks := tk } ∧ St i h' ∧ Fr h₀ env.locals h' m' ∧ J i m' h' ∧ i ≤ n ∧ k = n + 1 - i) ?_ (n + 1)
    ⟨s.heap, s.toks, m₀, 0, rfl, hst, F, h0, Nat.zero_le _, rfl⟩
  rintro k s' ⟨h', tk, m', i, rfl, hst', F', hJ', hi, rfl⟩
  have next : ∀ h₁ : Heap, (∀ b o, b ∉ wr → h'.get? b = some o → h₁.get? b = some o) → Fr h₀ env.locals h₁ m' := fun h₁ hk₁ =>
    ⟨F'.ns.at' fun o e => hk₁ _ o hLw e, fun b o e => hk₁ b o (old b o e) (F'.keep b o e), F'.above⟩
  by_cases hlt : i < n
  · refine W.item i _ _ _ hlt hst' fun v h₁ tk₁ hP hst₁ hk₁ => ?_
    have F₁ := next h₁ hk₁
    refine wpAny_assign_Name (wpAny_storeName_local hx F₁.ns (fun h₂ hn₂ hs₂ => ?_) hp)
    have F₂ := F₁.set hn₂ hs₂
    have hst₂ : St (i + 1) h₂ := W.frame _ _ _ hst₁ fun b hb o e => (hs₂.2 b fun q => hLf (q ▸ hb)).trans e
    have hJ₂ : J i m' h₂ := hJ i m' h' h₂ hJ' fun b o hb hL e => (hs₂.2 b hL).trans (hk₁ b o hb e)
    refine wpAny_passesOwn hE (wpAny_mono (turn i v m' h₂ _ hlt hP hJ₂ hst₂ F₂) (fun f s₃ h₃ => ?_) fun _ _ e => e)
    cases f with
    | ret v => exact h₃
    | brk => exact h₃
    | cont =>
      obtain ⟨h₃', tk₃, m₂, rfl, st₃, F₃, J₃⟩ := h₃
      exact ⟨n + 1 - (i + 1), by omega, h₃', tk₃, m₂, i + 1, rfl, st₃, F₃, J₃, hlt, rfl⟩
    | next =>
      obtain ⟨h₃', tk₃, m₂, rfl, st₃, F₃, J₃⟩ := h₃
      exact ⟨n + 1 - (i + 1), by omega, h₃', tk₃, m₂, i + 1, rfl, st₃, F₃, J₃, hlt, rfl⟩
  · have hin : i = n := by omega
    subst hin
    refine W.done _ _ _ hst' fun h₁ tk₁ hk₁ => wpAny_execs_nil ?_
    exact done m' h₁ tk₁ (hJ _ _ _ _ hJ' fun b o hb _ e => hk₁ b o hb e) (next h₁ hk₁)

theorem Fr.ne_list {L l : Addr} {h : Heap} {m : Str → Option Value} {items : Array Value} (F : Fr h₀ L h m) (hl : h.IsList l items) : l ≠ L := by
  intro e
  obtain ⟨o, es, ep, ho, hd, _⟩ := F.ns
  obtain ⟨o', ho', _, n, hd'⟩ := hl
  rw [e, ho] at ho'
  cases ho'
  rw [hd] at hd'
  cases hd'

/-- for x in range(..), a step of c -/
theorem iter_range {x : Str} {px : Pos} {body : List Stmt} {r : Addr} {a b c : Int} {t u v : Tok} {n : Nat} {m₀ : Str → Option Value}
    (J : Nat → (Str → Option Value) → Heap → Prop) (hr : IsRange s.heap r a b c t u v) (hsm : Builtin.Range.small a b c = true) (hn : Builtin.Range.rangeSize a b c = ((n : Nat) : Int)) (F : Fr h₀ env.locals s.heap m₀) (h0 : J 0 m₀ s.heap)
    (hJ : ∀ i m h h', J i m h → (∀ b o, b ≠ s.heap.objs.size → b ≠ env.locals → h.get? b = some o → h'.get? b = some o) → J i m h')
    (turn : ∀ (i : Nat) m₁ h tk t, i < n → J i m₁ h → IsRangeIter h s.heap.objs.size (a + ((i + 1 : Nat) : Int) * c) ((n : Int) - ((i + 1 : Nat) : Int)) c → h₀.get? s.heap.objs.size = none → s.heap.objs.size ≠ env.locals → Fr h₀ env.locals h (fun y => if y = x then some (.int (a + (i : Int) * c) t) else m₁ y) →
      wpAny (model prog w) A (execs body env) (TurnH h₀ env.locals s Q (fun h' => IsRangeIter h' s.heap.objs.size (a + ((i + 1 : Nat) : Int) * c) ((n : Int) - ((i + 1 : Nat) : Int)) c) (J (i + 1))) E { s with heap := h, toks := tk })
    (done : ∀ m₁ h tk, J n m₁ h → Fr h₀ env.locals h m₁ → Q .next { s with heap := h, toks := tk })
    (hh : A.handled = none := by rfl) (hx : env.kindOf x = some .local := by rfl)
    (hp : (env.scope.kind == .class || (env.scope.kind == .module && env.locals != env.globals)) = false := by rfl)
    (hE : PassesOwn (model prog w) A env E := by passes_own) :
    wpAny (model prog w) A (pyIter (.ref r)) (fun it s₂ => codeAny (model prog w) A (.forLoop (.Name x px) it body [] env) (fun r s' => match r with | .ok f => Q f s' | .error e => cameBackBy (model prog w) A env E e s') s₂) E s := by
  refine wpAny_pyIter_range hr hsm ?_
  have hIL : s.heap.objs.size ≠ env.locals := Nat.ne_of_gt F.ns.lt
  have W := Walks.range (prog := prog) (w := w) hh s.heap.objs.size a c n
  have st0 : (fun (i : Nat) (h : Heap) => IsRangeIter h s.heap.objs.size (a + (i : Nat) * c) ((n : Int) - (i : Nat)) c) 0 (s.heap.push { cls := .type "range_iterator", data := .fields #[rawInt a, rawInt (Builtin.Range.rangeSize a b c), rawInt c] }) := by
    have e : (s.heap.push { cls := .type "range_iterator", data := .fields #[rawInt a, rawInt (Builtin.Range.rangeSize a b c), rawInt c] }).get? s.heap.objs.size = some _ := Heap.get?_push_size _ rfl
    show IsRangeIter _ _ (a + ((0 : Nat) : Int) * c) ((n : Int) - ((0 : Nat) : Int)) c
    rw [show a + ((0 : Nat) : Int) * c = a from by simp, show (n : Int) - ((0 : Nat) : Int) = (n : Int) from by simp, ← hn]
    exact e
  refine loop_heap (s := { s with heap := s.heap.push { cls := .type "range_iterator", data := .fields #[rawInt a, rawInt (Builtin.Range.rangeSize a b c), rawInt c] } }) J W hx hp ?_ ?_ st0 (F.push _) (hJ _ _ _ _ h0 fun b o _ _ e => Heap.get?_push_of_some _ e) ?_ ?_ ?_ hE
  · intro hm
    exact hIL (List.mem_singleton.mp hm).symm
  · intro b hb
    rw [List.mem_singleton.mp hb]
    exact none_at_size F
  · intro i m h h' j k
    exact hJ i m h h' j fun b o hb hL e => k b o (by simpa using hb) hL e
  · rintro i v m₁ h tk hi ⟨t, rfl⟩ j st F₁
    exact turn i m₁ h tk t hi j st (none_at_size F) hIL F₁
  · intro m₁ h tk j F₁
    exact done m₁ h tk j F₁
end

section
variable {prog : Program} {w : World} {A : Around} {s : Shared} {env : Env} {h₀ : Heap} {E : Value → Shared → Prop} {Q : Flow → Shared → Prop}
theorem Fr.ne_tup {L l : Addr} {h : Heap} {m : Str → Option Value} {items : Array Value} (F : Fr h₀ L h m) (hl : IsTup h l items) : l ≠ L := by
  intro e
  obtain ⟨o, es, ep, ho, hd, _⟩ := F.ns
  obtain ⟨o', ho', _, n, hd'⟩ := hl
  rw [e, ho] at ho'
  cases ho'
  rw [hd] at hd'
  cases hd'
/-- for x in a tuple -/
theorem iter_tup {x : Str} {px : Pos} {body : List Stmt} {l : Addr} {items : Array Value} {m₀ : Str → Option Value}
    (J : Nat → (Str → Option Value) → Heap → Prop) (hl : IsTup s.heap l items) (F : Fr h₀ env.locals s.heap m₀) (h0 : J 0 m₀ s.heap)
    (hJ : ∀ i m h h', J i m h → (∀ b o, b ≠ s.heap.objs.size → b ≠ env.locals → h.get? b = some o → h'.get? b = some o) → J i m h')
    (turn : ∀ i v m₁ h tk, items[i]? = some v → J i m₁ h → h.IsTupleIter s.heap.objs.size l (i + 1) → IsTup h l items → h₀.get? s.heap.objs.size = none → s.heap.objs.size ≠ env.locals → Fr h₀ env.locals h (fun y => if y = x then some v else m₁ y) →
      wpAny (model prog w) A (execs body env) (TurnH h₀ env.locals s Q (fun h' => h'.IsTupleIter s.heap.objs.size l (i + 1) ∧ IsTup h' l items) (J (i + 1))) E { s with heap := h, toks := tk })
    (done : ∀ m₁ h tk, J items.size m₁ h → Fr h₀ env.locals h m₁ → Q .next { s with heap := h, toks := tk })
    (hh : A.handled = none := by rfl) (hx : env.kindOf x = some .local := by rfl)
    (hp : (env.scope.kind == .class || (env.scope.kind == .module && env.locals != env.globals)) = false := by rfl)
    (hE : PassesOwn (model prog w) A env E := by passes_own) :
    wpAny (model prog w) A (pyIter (.ref l)) (fun it s₂ => codeAny (model prog w) A (.forLoop (.Name x px) it body [] env) (fun r s' => match r with | .ok f => Q f s' | .error e => cameBackBy (model prog w) A env E e s') s₂) E s := by
  refine wpAny_pyIter_tuple hl ?_
  have hne : l ≠ s.heap.objs.size := by obtain ⟨o, ho, _⟩ := hl; exact Nat.ne_of_lt (Heap.lt_size ho)
  have hIL : s.heap.objs.size ≠ env.locals := Nat.ne_of_gt F.ns.lt
  have W := Walks.tuple (prog := prog) (w := w) hh s.heap.objs.size l hne items
  have st0 : (fun (i : Nat) (h : Heap) => h.IsTupleIter s.heap.objs.size l i ∧ h.IsTuple l items) 0 (s.heap.push { cls := .type "tuple_iterator", data := .fields #[.ref l, .int 0 0] }) :=
    ⟨⟨_, Heap.get?_push_size _ rfl, rfl, rfl⟩, stays_tup (fun b o e => Heap.get?_push_of_some _ e) hl⟩
  refine loop_heap (s := { s with heap := s.heap.push { cls := .type "tuple_iterator", data := .fields #[.ref l, .int 0 0] } }) J W hx hp ?_ ?_ st0 (F.push _) (hJ _ _ _ _ h0 fun b o _ _ e => Heap.get?_push_of_some _ e) ?_ ?_ ?_ hE
  · intro hm
    rcases List.mem_cons.mp hm with e | hm
    · exact hIL e.symm
    · exact Fr.ne_tup F hl (List.mem_singleton.mp hm).symm
  · intro b hb
    rw [List.mem_singleton.mp hb]
    exact none_at_size F
  · intro i m h h' j k
    exact hJ i m h h' j fun b o hb hL e => k b o (by simpa using hb) hL e
  · intro i v m₁ h tk hi hP j st F₁
    exact turn i v m₁ h tk hP j st.1 st.2 (none_at_size F) hIL F₁
  · intro m₁ h tk j F₁
    exact done m₁ h tk j F₁
end
theorem News.stays {h₀ h h' : Heap} {L : Addr} {news : List (Addr × Obj)} (N : News h₀ L h news) (k : h.StaysIn h') : News h₀ L h' news := fun p hp => ⟨k _ _ (N p hp).1, (N p hp).2⟩
theorem News.but {h₀ h h' : Heap} {L I : Addr} {news : List (Addr × Obj)} (N : News h₀ L h news) (hI : ∀ p ∈ news, p.1 ≠ I) (k : ∀ b o, b ≠ I → b ≠ L → h.get? b = some o → h'.get? b = some o) : News h₀ L h' news := fun p hp => ⟨k _ _ (hI p hp) (N p hp).2.1 (N p hp).1, (N p hp).2⟩
theorem News.old {h₀ h : Heap} {L : Addr} {news : List (Addr × Obj)} (N : News h₀ L h news) : ∀ p ∈ news, p.1 ≠ h.objs.size := fun p hp => Nat.ne_of_lt (Heap.lt_size (N p hp).1)
theorem News.add {h₀ h : Heap} {L : Addr} {p : Addr × Obj} {news : List (Addr × Obj)} (N : News h₀ L h news) (a : h.get? p.1 = some p.2) (b : p.1 ≠ L) (c : h₀.get? p.1 = none) : News h₀ L h (p :: news) := fun q hq => by
  rcases List.mem_cons.mp hq with rfl | hq
  · exact ⟨a, b, c⟩
  · exact N q hq
/-- a call of a def by its contract -/
theorem call_of {w : World} {A : Around} {s : Shared} {E : Value → Shared → Prop} {Q : Value → Shared → Prop} {h₀ : Heap} {L : Addr} {m : Str → Option Value} {news : List (Addr × Obj)} {f : Value} {args : List Value} {Post : Value → Heap → Prop}
    (hc : codeAny (model P w) A (.call f ⟨args, []⟩) (Ret s Post) s) (F : Fr h₀ L s.heap m) (N : News h₀ L s.heap news)
    (h : ∀ v h' tk, Fr h₀ L h' m → News h₀ L h' news → s.heap.StaysIn h' → Post v h' → Q v { s with heap := h', toks := tk }) :
    wpAny (model P w) A (call f args) Q E s := by
  refine wpAny_call (codeAny_mono hc ?_)
  rintro r s' ⟨v, h', tk, rfl, rfl, hs, hp⟩
  exact h v h' tk (F.keeps hs) (News.stays N hs) hs hp
theorem call_at {w : World} {A₀ : Around} {dp un : Nat} {outer : List Env} {gd : Option (List Code)} {base h₀ : Heap} {cn : Str} {cs : Scope} {L a : Addr} {ccd : Value} {s : Shared} {E : Value → Shared → Prop} {Q : Value → Shared → Prop} {m : Str → Option Value} {news : List (Addr × Obj)} {f : Value} {args : List Value} {Post : Value → Heap → Prop}
    (B : Below A₀ base outer h₀) (F : Fr h₀ L s.heap m) (N : News h₀ L s.heap news) (hA : A₀ = AA dp outer gd un) (hk : cs.kind = .function)
    (hc : Below (AA (dp + 1) (envOf cn cs L a ccd :: outer) gd (un + 3)) base (envOf cn cs L a ccd :: outer) s.heap → codeAny (model P w) (AA (dp + 1) (envOf cn cs L a ccd :: outer) gd (un + 3)) (.call f ⟨args, []⟩) (Ret s Post) s)
    (h : ∀ v h' tk, Fr h₀ L h' m → News h₀ L h' news → s.heap.StaysIn h' → Post v h' → Q v { s with heap := h', toks := tk }) :
    wpAny (model P w) (A₀.deeper (envOf cn cs L a ccd)) (call f args) Q E s := by
  subst hA
  exact call_of (hc (Below.push B F hk)) F N h
theorem News.fresh {h₀ h h' : Heap} {L l : Addr} {m : Str → Option Value} {o : Obj} {news : List (Addr × Obj)} (F : Fr h₀ L h m) (N : News h₀ L h' news) (hn : h.get? l = none) (hl : h'.get? l = some o) : News h₀ L h' ((l, o) :: news) := by
  refine News.add N hl ?_ ?_
  · intro e
    obtain ⟨oL, es, ep, hL, _⟩ := F.ns
    rw [← show l = L from e, hn] at hL
    cases hL
  · cases q : h₀.get? l with
    | none => rfl
    | some o' => have := F.keep _ _ q; rw [hn] at this; cases this
/-- a block that goes on, by what holds of its names and its ledger -/
def Goes (h₀ : Heap) (L : Addr) (s : Shared) (LED : List (Addr × Obj)) (C : (Str → Option Value) → Prop) (fl : Flow) (s' : Shared) : Prop :=
  fl = .next ∧ ∃ h' tk m', s' = { s with heap := h', toks := tk } ∧ Fr h₀ L h' m' ∧ News h₀ L h' LED ∧ C m'
theorem Goes.intro {h₀ h' : Heap} {L : Addr} {s : Shared} {LED news : List (Addr × Obj)} {C : (Str → Option Value) → Prop} {m' : Str → Option Value} {tk : Nat} (F : Fr h₀ L h' m') (N : News h₀ L h' news) (hs : ∀ p ∈ LED, p ∈ news) (c : C m') : Goes h₀ L s LED C .next { s with heap := h', toks := tk } :=
  ⟨rfl, h', tk, m', rfl, F, fun p hp => N p (hs p hp), c⟩
end
section
def bodyOf : Stmt → List Stmt
  | .FunctionDef _ _ b _ _ _ _ _ _ _ => b
  | _ => []
def scopeOf : Stmt → Scope
  | .FunctionDef _ _ _ _ _ _ s _ _ _ => s
  | _ => default
def forBody : Stmt → List Stmt
  | .For _ _ b _ _ => b
  | _ => []
noncomputable def lawD (k : Nat) : Stmt := PySem.Challenge.pw_io0038_02.main.body.getD k (.Pass default)
noncomputable def stOf (k j : Nat) : Stmt := (bodyOf (lawD k)).getD j (.Pass default)
end
section
section
open Builtin Builtin.Str
theorem mp_owner : Manifest.owners.lookup (String.ofList ['p', 'a', 'm'].reverse) = some Manifest.sig_map := by kernel_rfl
theorem mp_slot_next : Slot "map" "__next__" "map.__next__" :=
  .of (owner := "map") (n := "__next__") (by rw [typeLookup_type, builtinLookup_eq_fast]; kernel_rfl) (by decide +kernel) (by decide +kernel) (by decide +kernel)
    (by first | exact .inl (by decide +kernel) | exact .inr (by decide +kernel)) (by rw [isSubtype_type]; kernel_rfl)
theorem mp_entry_next : entryFor table "map.__next__" = some Builtin.«map.__next__» := entryFor_of_tree (by kernel_rfl)
theorem mp_args_next (a : Value) : argsOk "map.__next__" ⟨[a], []⟩ := by
  unfold argsOk; rw [signature?_of (id := "map.__next__") (n := ['_', '_', 't', 'x', 'e', 'n', '_', '_']) (o := ['p', 'a', 'm']) (by kernel_rfl) mp_owner]; kernel_rfl
theorem mp_slot_iter : Slot "map" "__iter__" "map.__iter__" :=
  .of (owner := "map") (n := "__iter__") (by rw [typeLookup_type, builtinLookup_eq_fast]; kernel_rfl) (by decide +kernel) (by decide +kernel) (by decide +kernel)
    (by first | exact .inl (by decide +kernel) | exact .inr (by decide +kernel)) (by rw [isSubtype_type]; kernel_rfl)
theorem mp_entry_iter : entryFor table "map.__iter__" = some Builtin.«dict_keyiterator.__iter__» :=
  entryFor_alias (id' := "dict_keyiterator.__iter__") (by kernel_rfl) (by first | rfl | decide +kernel | (unfold String.splitOn; simp +decide [String.splitOnAux])) (by decide +kernel) (by kernel_rfl)
theorem mp_args_iter (a : Value) : argsOk "map.__iter__" ⟨[a], []⟩ := by
  unfold argsOk; rw [signature?_of (id := "map.__iter__") (n := ['_', '_', 'r', 'e', 't', 'i', '_', '_']) (o := ['p', 'a', 'm']) (by kernel_rfl) mp_owner]; kernel_rfl
theorem mp_slot_init : Slot "map" "__init__" "object.__init__" :=
  .of (owner := "object") (n := "__init__") (by rw [typeLookup_type, builtinLookup_eq_fast]; kernel_rfl) (by decide +kernel) (by decide +kernel) (by decide +kernel)
    (by first | exact .inl (by decide +kernel) | exact .inr (by decide +kernel)) (by rw [isSubtype_type]; kernel_rfl)
theorem mp_mro : mroOf (.type "map") = pure [.type "map", .type "object"] := by rw [mroOf_type]; kernel_rfl
theorem mp_lookup_new : typeLookup (.type "map") "__new__" = pure (some (.builtin "map.__new__")) := by rw [typeLookup_type, builtinLookup_eq_fast]; kernel_rfl
theorem mp_called : TypeCalled "map" "map.__new__" "object.__init__" :=
  ⟨by decide +kernel, by decide +kernel, ⟨_, _, mp_mro⟩, madeBy_type mp_mro mp_lookup_new (by decide +kernel), by decide +kernel, by rw [isSubtype_type]; kernel_rfl, mp_slot_init⟩
theorem mp_typeCall (a b : Value) : checkTypeCall "map" ⟨[a, b], []⟩ = pure () := by kernel_rfl
theorem mp_newCall (a b : Value) : checkBuiltinCall "map.__new__" ⟨[.type "map", a, b], []⟩ = pure () := by kernel_rfl
theorem mp_entry_new : entryFor table "map.__new__" = some Builtin.«map.__new__» := entryFor_of_tree (by kernel_rfl)
theorem mp_sub : isSubtype (.type "map") (.type "map") = pure true := by rw [isSubtype_type]; kernel_rfl
theorem mp_nolen : typeLookup (.type "map") "__len__" = pure none := by rw [typeLookup_type, builtinLookup_eq_fast]; kernel_rfl
theorem mp_nohint : typeLookup (.type "map") "__length_hint__" = pure none := by rw [typeLookup_type, builtinLookup_eq_fast]; kernel_rfl

abbrev IsMap (h : Heap) (z TI : Addr) (f : Value) : Prop := h.get? z = some { cls := .type "map", dict := none, data := .fields #[.ref TI, f], slots := #[] }
abbrev IsOne (h : Heap) (T : Addr) (a : Value) : Prop := h.get? T = some { cls := .type "tuple", data := .seq #[a] }

/-- str(v) gives y, the heap may grow -/
def StrGives (prog : Program) (w : World) (A : Around) (s : Shared) (v : Value) (y : Str) : Prop :=
  ∀ (Q : Value → Shared → Prop) (E : Value → Shared → Prop), (∀ h' t tk, s.toks ≤ tk → s.heap.StaysIn h' → Q (.str y t) { s with heap := h', toks := tk }) → wpAny (model prog w) A (call (.type "str") [v]) Q E s
section
variable {prog : Program} {w : World} {A : Around} {E : Value → Shared → Prop} {s : Shared}
theorem map_next_item {z TI i l : Addr} {k : Nat} {xs : Array Value} {x : Value} {y : Str} {Q : Value → Shared → Prop}
    (hz : IsMap s.heap z TI (.type "str")) (hTI : IsOne s.heap TI (.ref i)) (hi : s.heap.IsListIter i l k) (hl : s.heap.IsList l xs) (hx : xs[k]? = some x) (hiz : z ≠ i)
    (hs : ∀ h', Heap.SameBut i s.heap h' → StrGives prog w A { s with heap := h' } x y)
    (hQ : ∀ h₁ h' t tk, h₁.IsListIter i l (k + 1) → Heap.SameBut i s.heap h₁ → h₁.StaysIn h' → s.toks ≤ tk → Q (.str y t) { s with heap := h', toks := tk }) :
    wpAny (model prog w) A (Builtin.«map.__next__» ⟨[.ref z], []⟩) (fun fin s' => ∃ v, fin = .done (.ret v) ∧ Q v s') E s := by
  show wpAny _ _ (field (.ref z) 0 >>= _) _ _ _
  refine wpAny_bind (wpAny_field hz rfl (x := .ref TI) rfl ?_)
  refine wpAny_bind (wpAny_seqItems hTI rfl ?_)
  show wpAny _ _ (forIn (#[Value.ref i] : Array Value) _ _ >>= _) _ _ _
  refine wpAny_bind ?_
  simp only [List.forIn_toArray, List.forIn_cons, List.forIn_nil]
  refine wpAny_bind (wpAny_bind (wpAny_holding ?_))
  refine wpAny_nextOf_list_item hi hl hx fun h₁ hi₁ hs₁ => ?_
  refine wpAny_pure (wpAny_pure ?_)
  refine wpAny_bind (wpAny_field (hs₁.extBut _ _ hiz hz) rfl (x := .type "str") rfl ?_)
  refine wpAny_bind (wpAny_holding ?_)
  refine hs h₁ hs₁ _ _ fun h' t tk htk hk => ?_
  refine wpAny_bind (wpAny_letGo ?_)
  exact wpAny_pure ⟨_, rfl, hQ h₁ h' t tk hi₁ hs₁ hk htk⟩

theorem map_next_end {z TI i l : Addr} {k : Nat} {xs : Array Value} {Q : Fin → Shared → Prop} (hh : A.handled = none)
    (hz : IsMap s.heap z TI (.type "str")) (hTI : IsOne s.heap TI (.ref i)) (hi : s.heap.IsListIter i l k) (hl : s.heap.IsList l xs) (hx : xs[k]? = none)
    (hE : ∀ h' e, Heap.ExtBut i s.heap h' → (∃ o, h'.get? e = some o ∧ o.cls = .type "StopIteration") → E (.ref e) { s with heap := h' }) :
    wpAny (model prog w) A (Builtin.«map.__next__» ⟨[.ref z], []⟩) Q E s := by
  show wpAny _ _ (field (.ref z) 0 >>= _) _ _ _
  refine wpAny_bind (wpAny_field hz rfl (x := .ref TI) rfl ?_)
  refine wpAny_bind (wpAny_seqItems hTI rfl ?_)
  show wpAny _ _ (forIn (#[Value.ref i] : Array Value) _ _ >>= _) _ _ _
  refine wpAny_bind ?_
  simp only [List.forIn_toArray, List.forIn_cons, List.forIn_nil]
  refine wpAny_bind (wpAny_bind (wpAny_holding ?_))
  exact wpAny_nextOf_list_end hh hi hl hx fun h' e hk he => hE h' e hk he

/-- what holds of the heap along the walk: all of h0 but the inner iterator -/
def MapSt (h0 : Heap) (i l : Addr) (k : Nat) (s : Shared) : Prop := (∀ b o, b ≠ i → h0.get? b = some o → s.heap.get? b = some o) ∧ s.heap.IsListIter i l k

theorem mapWalks (hh : A.handled = none) (h0 : Heap) (z TI i l : Addr) (xs : Array Value) (ys : Nat → Str)
    (hz : IsMap h0 z TI (.type "str")) (hTI : IsOne h0 TI (.ref i)) (hl : h0.IsList l xs) (hi : i < h0.objs.size) (nz : z ≠ i) (nT : TI ≠ i) (nl : l ≠ i)
    (hs : ∀ (k : Nat) x, xs[k]? = some x → ∀ s : Shared, (∀ b o, b ≠ i → h0.get? b = some o → s.heap.get? b = some o) → StrGives prog w A.in1 s x (ys k)) :
    WalksS prog w A z (List.range h0.objs.size) [i] (fun a b => b = a) xs.size (fun k v => ∃ t, v = .str (ys k) t) (MapSt h0 i l) where
  sub := fun b hb => by
    obtain rfl : b = i := by simpa using hb
    exact List.mem_range.mpr hi
  grefl := fun _ => rfl
  gtrans := fun _ _ _ h1 h2 => h2.trans h1
  frame := fun k s h' tk st _ hk => by
    refine ⟨fun b o hb e => hk b (List.mem_range.mpr (Heap.lt_size e)) o (st.1 b o hb e), ?_⟩
    obtain ⟨o, ho, r⟩ := st.2
    exact ⟨o, hk i (List.mem_range.mpr hi) o ho, r⟩
  item := fun k s Q E hk st hQ => by
    obtain ⟨st1, st2⟩ := st
    have hx : xs[k]? = some xs[k] := Array.getElem?_eq_getElem hk
    have hz' : IsMap s.heap z TI (.type "str") := st1 _ _ nz hz
    have hT : s.TypeIs (.ref z) "map" := ⟨_, hz', rfl⟩
    unfold pyNext
    refine wpAny_bind (wpAny_attempt (wpAny_callSpecial?_slot (name := Str.ofString "__next__") hT mp_slot_next
      (wpAny_call_entry mp_slot_next hT mp_entry_next (map_next_item (y := ys k) (Q := fun v s' => wpAny (model prog w) A (pure (some v)) Q E s') hz' (st1 _ _ nT hTI) st2 (hl.at fun o e => st1 _ _ nl e) hx nz (fun h' hs' => ?_) fun h₁ h' t tk a1 a2 a3 a4 => ?_) (mp_args_next _))))
    · exact hs k _ hx _ fun b o hb e => hs'.extBut _ _ hb (st1 b o hb e)
    · refine wpAny_pure (hQ _ _ ⟨t, rfl⟩ ⟨fun b o hb e => a3 _ _ (a2.extBut _ _ hb (st1 b o hb e)), ?_⟩ ⟨fun b o hb e => a3 _ _ (a2.extBut _ _ (by simpa using hb) e), rfl, rfl, rfl, a4⟩)
      obtain ⟨o, ho, r⟩ := a1
      exact ⟨o, a3 _ _ ho, r⟩
  done := fun s Q E st hQ => by
    obtain ⟨st1, st2⟩ := st
    have hx : xs[xs.size]? = none := Array.getElem?_eq_none (Nat.le_refl _)
    have hz' : IsMap s.heap z TI (.type "str") := st1 _ _ nz hz
    have hT : s.TypeIs (.ref z) "map" := ⟨_, hz', rfl⟩
    unfold pyNext
    refine wpAny_bind (wpAny_attempt (wpAny_callSpecial?_slot (name := Str.ofString "__next__") hT mp_slot_next
      (wpAny_call_entry mp_slot_next hT mp_entry_next (map_next_end (by exact hh) hz' (st1 _ _ nT hTI) st2 (hl.at fun o e => st1 _ _ nl e) hx (fun h' e hk he => ?_)) (mp_args_next _))))
    obtain ⟨o, ho, hc⟩ := he
    refine wpAny_bind (wpAny_isInstance (T := "StopIteration") (b := true) ⟨o, ho, hc⟩ isSubtype_stop ?_)
    exact wpAny_pure (hQ _ ⟨fun b o hb e => hk _ _ (by simpa using hb) e, rfl, rfl, rfl, Nat.le_refl _⟩)
  self := fun k s Q E st hQ => by
    have hz' : IsMap s.heap z TI (.type "str") := st.1 _ _ nz hz
    have hT : s.TypeIs (.ref z) "map" := ⟨_, hz', rfl⟩
    refine wpAny_pyIter_slot hT mp_slot_iter (wpAny_call_entry mp_slot_iter hT mp_entry_iter ?_ (mp_args_iter _))
    show wpAny _ _ (ret (.ref z)) _ _ s
    exact wpAny_pure ⟨_, rfl, "map", _, hT, mp_slot_next.lookup, hQ⟩

theorem collect_map {I : Addr} {fp wr : List Addr} {G : Array GenState → Array GenState → Prop} {n : Nat} {P : Nat → Value → Prop} {St : Nat → Shared → Prop} {Q : List Value → Shared → Prop}
    (W : WalksS prog w A.in1 I fp wr G n P St) (hT : ∀ i s, St i s → s.TypeIs (.ref I) "map") (hst : St 0 s) (hfp : ∀ b ∈ fp, b < s.heap.objs.size) (hI : I ∈ fp)
    (hQ : ∀ s' acc, Moved wr G s s' → ItemsOf P acc n → Q acc.toList s') (hn : n ≤ sizeLine) : wpAny (model prog w) A (collect (.ref I)) Q E s := by
  have hSf : s.heap.objs.size ∉ fp := fun hm => Nat.lt_irrefl _ (hfp _ hm)
  have hSI : s.heap.objs.size ≠ I := fun e => hSf (e ▸ hI)
  unfold collect
  refine wpAny_bind (wpAny_runValue (codeAny_builtin F.entry_proto_collect ?_))
  rw [Around.under_plainId F.plain_proto_collect _]
  show wpAny _ A.in1 (newList [] >>= fun l => again (.builtin "list.__iadd__" ⟨[l, .ref I], []⟩)) _ _ s
  refine wpAny_bind (wpAny_newObj_type ?_)
  refine wpAny_pure ⟨plainId_quiet F.plain_list_iadd _, codeAny_builtin F.entry_list_iadd ?_⟩
  rw [Around.under_plainId F.plain_list_iadd _]
  have hst₁ := W.frame 0 s (s.heap.push { cls := .type "list", data := .seq ([] : List Value).toArray }) s.toks hst (Nat.le_refl _) fun b _ o e => Heap.get?_push_of_some _ e
  show wpAny _ A.in1 (Builtin.List.listExtendWith (.ref s.heap.objs.size) (.ref I) (.ref s.heap.objs.size)) _ _ _
  unfold Builtin.List.listExtendWith
  refine wpAny_bind (wpAny_typeOf (hT 0 _ hst₁) ?_)
  have h1 : Builtin.List.listSameRef (.ref s.heap.objs.size) (.ref I) = false := by simp [Builtin.List.listSameRef, hSI]
  have h2 : (Value.type "map" == Value.type "list") = false := by decide
  have h3 : (Value.type "map" == Value.type "tuple") = false := by decide
  simp only [h1, h2, h3, Bool.or_false, Bool.false_eq_true, if_false]
  refine wpAny_bind (W.self 0 _ _ _ hst₁ ?_)
  refine wpAny_bind (wpAny_holding ?_)
  unfold Builtin.List.listLengthHint
  refine wpAny_bind (wpAny_specialOf (hT 0 _ hst₁) mp_nolen ?_)
  show wpAny _ A.in1 (specialOf (Value.ref I) (Str.ofString "__length_hint__") >>= _) _ _ _
  refine wpAny_bind (wpAny_specialOf (hT 0 _ hst₁) mp_nohint ?_)
  refine wpAny_pure ?_
  show wpAny _ A.in1 (rule "list.extend.makes-room" >>= fun _ => Builtin.List.listTouch (.ref s.heap.objs.size) >>= fun _ =>
    again (.builtin "list.extend.loop" ⟨[.ref s.heap.objs.size, .ref I, .ref s.heap.objs.size], []⟩)) _ _ _
  refine wpAny_bind (wpAny_rule ?_)
  have hS₁ : (s.heap.push { cls := .type "list", data := .seq ([] : List Value).toArray }).get? s.heap.objs.size = some { cls := .type "list", data := .seq ([] : List Value).toArray } := Heap.get?_push_size _ rfl
  refine wpAny_bind ?_
  show wpAny _ A.in1 (updateSeq s.heap.objs.size (·.push .none) >>= fun _ => updateSeq s.heap.objs.size (·.pop)) _ _ _
  refine wpAny_bind (wpAny_updateSeq hS₁ rfl ?_)
  have hS₂ := Heap.get?_update_self (Obj.mapSeq (·.push Value.none)) hS₁ rfl
  refine wpAny_updateSeq hS₂ rfl ?_
  have hS₃ := Heap.get?_update_self (Obj.mapSeq (·.pop)) hS₂ rfl
  have oth : ∀ b o, b ≠ s.heap.objs.size → (s.heap.push { cls := .type "list", data := .seq ([] : List Value).toArray }).get? b = some o →
      (((s.heap.push { cls := .type "list", data := .seq ([] : List Value).toArray }).update s.heap.objs.size (Obj.mapSeq (·.push Value.none))).update s.heap.objs.size (Obj.mapSeq (·.pop))).get? b = some o :=
    fun b o hb e => (Heap.get?_update_other _ _ (Ne.symm hb)).trans ((Heap.get?_update_other _ _ (Ne.symm hb)).trans e)
  refine wpAny_pure ⟨plainId_quiet F.plain_extend_loop _, codeAny_extend_loopS W hn _ hSf _ n 0 _ _ _ rfl (Nat.zero_le _)
    (W.frame 0 ({ s with heap := s.heap.push { cls := .type "list", data := .seq ([] : List Value).toArray } } : Shared) _ s.toks hst₁ (Nat.le_refl _) fun b hb o e => oth b o (fun h => hSf (h ▸ hb)) e) hS₃ (ItemsOf.nil P) fun s' acc' c' hm hS' hacc => ?_⟩
  show wpAny _ A (load s.heap.objs.size >>= _) _ _ s'
  refine wpAny_bind (wpAny_load hS' ?_)
  refine wpAny_pure (hQ s' acc' (Moved.drop_new (o := { cls := .type "list", data := .seq ([] : List Value).toArray }) (tk := s.toks) (Moved.trans W.gtrans ((Moved.refl W.grefl).then_heap (by first | exact Nat.le_refl _ | exact Nat.le_succ _ | omega) fun b o hb e => ?_) hm) (Nat.le_refl _)) hacc)
  exact oth b o (fun h => hb (h ▸ List.mem_cons_self)) e

/-- sep.join(map(str, ..)) -/
theorem join_map {x : Str} {t : Tok} (hh : A.handled = none) {z TI i l : Addr} {xs : Array Value} {ys : List Str} {Q : Value → Shared → Prop}
    (hz : IsMap s.heap z TI (.type "str")) (hTI : IsOne s.heap TI (.ref i)) (hi : s.heap.IsListIter i l 0) (hl : s.heap.IsList l xs) (nz : z ≠ i) (nT : TI ≠ i) (nl : l ≠ i) (hlen : xs.size = ys.length)
    (hs : ∀ (k : Nat) x y, xs[k]? = some x → ys[k]? = some y → ∀ s' : Shared, (∀ b o, b ≠ i → s.heap.get? b = some o → s'.heap.get? b = some o) → StrGives prog w A.in1.in1.in1.in1 s' x y)
    (hok : JoinOk x ys = true) (hn : ys.length ≤ sizeLine)
    (hq : ∀ h' t' tk, (∀ b o, b ≠ i → s.heap.get? b = some o → h'.get? b = some o) → Q (.str (Txt.join x ys) t') { s with heap := h', toks := tk }) :
    wpAny (model prog w) A (call (.builtin "str.join") [.str x t, .ref z]) Q E s := by
  have hT : s.TypeIs (.ref z) "map" := ⟨_, hz, rfl⟩
  have hilt : i < s.heap.objs.size := by obtain ⟨o, ho, _⟩ := hi; exact Heap.lt_size ho
  have hy : ∀ k (hk : k < xs.size), ys[k]? = some (ys.getD k Str.empty) := fun k hk => by
    rw [List.getD_eq_getElem?_getD, List.getElem?_eq_getElem (by omega)]; rfl
  have W : WalksS prog w A.in1.in1 z (List.range s.heap.objs.size) [i] (fun a b => b = a) xs.size (fun k v => ∃ t, v = .str (ys.getD k Str.empty) t) (MapSt s.heap i l) :=
    mapWalks (A := A.in1.in1) hh s.heap z TI i l xs (fun k => ys.getD k Str.empty) hz hTI hl hilt nz nT nl fun k x hx s' hk => by
      have hlt : k < xs.size := by
        rcases Nat.lt_or_ge k xs.size with h | h
        · exact h
        · rw [Array.getElem?_eq_none h] at hx; cases hx
      have hG := hs k x _ hx (hy k hlt) s' hk
      intro Q E hQ
      exact wpAny_of_in1 (hG Q E hQ)
  have hst : MapSt s.heap i l 0 s := ⟨fun _ _ _ e => e, hi⟩
  refine wpAny_call (codeAny_call_builtin F.slot_str_join.plain F.entry_str_join (F.slot_str_join.check _ _ _ _ _ _ _ _ (typeIs_str _ _ _) (F.args_str_join_2 _ _) ?_))
  rw [join_tree_other]
  refine wpAny_bind (wpAny_typeOf hT ?_)
  show wpAny _ A.in1 ((pyIter (.ref z)).tryCatch _ >>= fun it => collect it >>= fun items => joinTail x items) _ _ s
  refine wpAny_bind (wpAny_tryCatch (W.of_in1.self 0 s _ _ hst ?_))
  refine wpAny_bind (collect_map W (fun k s st => ⟨_, st.1 _ _ nz hz, rfl⟩) hst (fun b hb => List.mem_range.mp hb) (List.mem_range.mpr (Heap.lt_size hz)) (fun s' acc hm hacc => ?_) (by rw [hlen]; exact hn))
  obtain ⟨L, hL⟩ := exists_strValues acc.toList fun v hv => by
    obtain ⟨j, hj, rfl⟩ := Array.mem_iff_getElem.mp (Array.mem_toList_iff.mp hv)
    obtain ⟨t, e⟩ := hacc.2 j _ (Array.getElem?_eq_getElem hj)
    exact ⟨_, t, e⟩
  have hLy : L.map (·.1) = ys := by
    have hlL : L.length = acc.size := by
      have := congrArg List.length hL
      simpa [strValues] using this
    apply List.ext_getElem?
    intro k
    rcases Nat.lt_or_ge k ys.length with hk | hk
    · have hk' : k < acc.size := by rw [hacc.1, hlen]; exact hk
      obtain ⟨t, e⟩ := hacc.2 k _ (Array.getElem?_eq_getElem hk')
      have e2 : (strValues L)[k]? = some acc[k] := by rw [hL]; simp [hk']
      rw [e] at e2
      rw [List.getElem?_map]
      unfold strValues at e2
      rw [List.getElem?_map] at e2
      rw [hy k (by rw [hlen]; exact hk)]
      cases hLk : L[k]? with
      | none => rw [hLk] at e2; cases e2
      | some p =>
        rw [hLk] at e2
        simp only [Option.map_some, Option.some.injEq, Value.str.injEq] at e2 ⊢
        exact e2.1
    · rw [List.getElem?_eq_none (by rw [List.length_map, hlL, hacc.1, hlen]; exact hk), List.getElem?_eq_none hk]
  rw [← hL]
  rw [← hLy] at hok
  have hok' := hok
  unfold JoinOk at hok
  rw [Bool.not_eq_true'] at hok
  have g : Gives (joinTail x (strValues L)) (joinMade x L) := by
    have g0 := gives_joinTail x L hok
    cases L with
    | nil => exact g0
    | cons p r => cases r with
      | nil => exact g0
      | cons q r' => exact g0
  obtain ⟨mh, mg, md, mo, mt⟩ := hm
  have hs' : s' = { s with heap := s'.heap, toks := s'.toks } := by
    obtain ⟨h, gg, d, t, o⟩ := s'
    simp only at mg md mo
    subst mg md mo
    rfl
  refine g prog w A (wants Q E) s' (post_join L ⟨joinFit_length hok, fun t' k => ?_⟩)
  rw [hs', hLy]
  exact hq _ _ _ fun b o hb e => mh b o (by simpa using hb) e

abbrev mapH1 (h : Heap) (l : Addr) : Heap := h.push { cls := .type "list_iterator", data := .fields #[.ref l, .int 0 0] }
abbrev mapH2 (h : Heap) (l : Addr) : Heap := (mapH1 h l).push { cls := .type "tuple", data := .seq #[.ref h.objs.size] }
abbrev mapH3 (h : Heap) (l : Addr) (f : Value) : Heap := (mapH2 h l).push { cls := .type "map", data := .fields #[.ref (mapH1 h l).objs.size, f] }
theorem meets_map_new (l : Addr) (f : Value) (xs : Array Value) :
    Meets (Builtin.«map.__new__» ⟨[.type "map", f, .ref l], []⟩) (fun _ R s => s.heap.IsList l xs ∧
      R (.ok (.ret (.ref (mapH2 s.heap l).objs.size))) { s with heap := mapH3 s.heap l f }) :=
  .of_wp fun prog w A R s h => by
    obtain ⟨hp, g, d, tk, os⟩ := s; obtain ⟨hl1, h⟩ := h
    have hsub := mp_sub
    have hL1 : Heap.IsList (Shared.heap ⟨hp, g, d, tk, os⟩) l xs := hl1
    wp_walk using wpAny_pyIter_list hL1
    exact ⟨_, rfl, h⟩

theorem call_map {l : Addr} {f : Value} {xs : Array Value} {Q : Value → Shared → Prop} (hl : s.heap.IsList l xs)
    (h : ∀ h', IsMap h' (s.heap.objs.size + 2) (s.heap.objs.size + 1) f → IsOne h' (s.heap.objs.size + 1) (.ref s.heap.objs.size) → h'.IsListIter s.heap.objs.size l 0 →
      s.heap.StaysIn h' → Q (.ref (s.heap.objs.size + 2)) { s with heap := h' }) :
    wpAny (model prog w) A (call (.type "map") [f, .ref l]) Q E s := by
  refine callType_new mp_called (by decide) (mp_typeCall _ _) (mp_newCall _ _) (fun obj => F.args_object_init_3 obj _ _) mp_entry_new
    (meets_map_new l f xs) ⟨hl, ?_⟩
  have z1 : (mapH1 s.heap l).objs.size = s.heap.objs.size + 1 := Heap.size_push ..
  have z2 : (mapH2 s.heap l).objs.size = s.heap.objs.size + 2 := by rw [Heap.size_push, z1]
  have g3 : (mapH3 s.heap l f).get? (mapH2 s.heap l).objs.size = some _ := Heap.get?_push_size _ rfl
  have g2 : (mapH3 s.heap l f).get? (mapH1 s.heap l).objs.size = some _ := Heap.get?_push_of_some _ (Heap.get?_push_size _ rfl)
  have g1 : (mapH3 s.heap l f).get? s.heap.objs.size = some _ := Heap.get?_push_of_some _ (Heap.get?_push_of_some _ (Heap.get?_push_size _ rfl))
  show _ ∧ _
  rw [z2, z1] at g3
  rw [z1] at g2
  rw [z2]
  exact ⟨⟨_, g3, rfl⟩, h _ g3 g2 ⟨_, g1, rfl, rfl⟩ fun c o x => Heap.get?_push_of_some _ (Heap.get?_push_of_some _ (Heap.get?_push_of_some _ x))⟩
end
end
/-- a map object over str and a list stands ready -/
def MapReady (h₀ : Heap) (L : Addr) (h : Heap) (news : List (Addr × Obj)) (z l : Addr) (xs : Array Value) : Prop :=
  ∃ TI i, IsMap h z TI (.type "str") ∧ IsOne h TI (.ref i) ∧ h.IsListIter i l 0 ∧ h.IsList l xs ∧ z ≠ i ∧ TI ≠ i ∧ l ≠ i ∧ i ≠ L ∧ h₀.get? i = none ∧ ∀ p ∈ news, p.1 ≠ i
section
variable {prog : Program} {w : World} {A : Around} {E : Value → Shared → Prop} {s : Shared} {h₀ : Heap} {L : Addr} {m : Str → Option Value} {news : List (Addr × Obj)}
theorem map_N {l : Addr} {xs : Array Value} {Q : Value → Shared → Prop} (F : Fr h₀ L s.heap m) (N : News h₀ L s.heap news) (hl : s.heap.IsList l xs)
    (h : ∀ h' z, Fr h₀ L h' m → News h₀ L h' news → MapReady h₀ L h' news z l xs → Q (.ref z) { s with heap := h' }) :
    wpAny (model prog w) A (call (.type "map") [.type "str", .ref l]) Q E s := by
  refine call_map hl fun h' a1 a2 a3 a4 => ?_
  have nL : s.heap.objs.size ≠ L := Nat.ne_of_gt F.ns.lt
  obtain ⟨o, ho, _⟩ := id hl
  refine h h' _ (F.keeps a4) (fun p hp => ⟨a4 _ _ (N p hp).1, (N p hp).2⟩) ⟨s.heap.objs.size + 1, s.heap.objs.size, a1, a2, a3, stays_list a4 hl, neN (a := s.heap.objs.size + 2) (b := s.heap.objs.size) (by omega), neN (a := s.heap.objs.size + 1) (b := s.heap.objs.size) (by omega), Nat.ne_of_lt (Heap.lt_size ho), nL, none_at_size F, fun p hp => Nat.ne_of_lt (Heap.lt_size (N p hp).1)⟩
end

end
section
section
open Builtin Builtin.Str
/-- a value that is no text -/
def NoStr (h : Heap) (v : Value) (T : String) : Prop :=
  (∃ n t, v = .int n t ∧ T = "int") ∨ (v = .none ∧ T = "NoneType") ∨ (∃ b, v = .bool b ∧ T = "bool") ∨
  (∃ a o, v = .ref a ∧ h.get? a = some o ∧ o.cls = .type T ∧ (T = "list" ∨ T = "tuple" ∨ T = "dict") ∧ ∀ p, o.data ≠ .prim p)
variable {M : Model} {A : Around} {E : Value → Shared → Prop} {s : Shared}
theorem NoStr.typeIs {v : Value} {T : String} (h : NoStr s.heap v T) : s.TypeIs v T := by
  rcases h with ⟨n, t, rfl, rfl⟩ | ⟨rfl, rfl⟩ | ⟨b, rfl, rfl⟩ | ⟨a, o, rfl, ho, hc, _, _⟩
  · exact typeIs_int s n t
  · exact rfl
  · exact rfl
  · exact ⟨o, ho, hc⟩
theorem NoStr.asStr {v : Value} {T : String} {Q : Option Str → Shared → Prop} (h : NoStr s.heap v T) (hq : Q none s) : wpAny M A (asStr? v) Q E s := by
  rcases h with ⟨n, t, rfl, rfl⟩ | ⟨rfl, rfl⟩ | ⟨b, rfl, rfl⟩ | ⟨a, o, rfl, ho, hc, _, hp⟩
  · exact wpAny_bind (wpAny_pure (wpAny_pure hq))
  · exact wpAny_bind (wpAny_pure (wpAny_pure hq))
  · exact wpAny_bind (wpAny_pure (wpAny_pure hq))
  · unfold asStr?
    refine wpAny_bind (wpAny_load ho ?_)
    cases hd : o.data with
    | prim p => exact absurd hd (hp p)
    | _ => exact wpAny_pure hq
theorem join_loop_bad {v : Value} {T : String} {post : List Value} {Q : Array Str → Shared → Prop} (hv : NoStr s.heap v T) (hA : A.handled = none)
    (hE : ∀ h' tk e, Heap.NewExc s.heap h' e "TypeError" → E (.ref e) { s with heap := h', toks := tk }) :
    ∀ (l : List (Str × Tok)) (k : Nat) (acc : Array Str), k + l.length ≤ 9 → wpAny M A (forIn ((strValues l ++ v :: post).zipIdx k) acc joinBody) Q E s
  | [], k, acc, hk => by
    show wpAny M A (forIn ((v, k) :: post.zipIdx (k + 1)) acc joinBody : Sem (Array Str)) Q E s
    rw [List.forIn_cons]
    refine wpAny_bind ?_
    show wpAny M A (asStr? v >>= _) _ _ s
    refine wpAny_bind (hv.asStr ?_)
    refine wpAny_bind (wpAny_rule ?_)
    refine wpAny_bind (wpAny_typeNameOf' hv.typeIs ?_ ?_)
    · rcases hv with ⟨n, t, rfl, rfl⟩ | ⟨rfl, rfl⟩ | ⟨b, rfl, rfl⟩ | ⟨a, o, rfl, ho, hc, (rfl | rfl | rfl), hp⟩ <;> decide
    · refine wpAny_bind (wpAny_raiseErrorMade plainExc_TypeError hA hE ?_)
      have hT : T = "int" ∨ T = "NoneType" ∨ T = "bool" ∨ T = "list" ∨ T = "tuple" ∨ T = "dict" := by
        rcases hv with ⟨n, t, rfl, rfl⟩ | ⟨rfl, rfl⟩ | ⟨b, rfl, rfl⟩ | ⟨a, o, rfl, ho, hc, hT, hp⟩
        · exact .inl rfl
        · exact .inr (.inl rfl)
        · exact .inr (.inr (.inl rfl))
        · exact .inr (.inr (.inr hT))
      have hk' : k ≤ 9 := by simp at hk; omega
      clear hE hv hk
      rw [sizeLine_eq]
      refine Nat.le_trans (m := 1000) ?_ (by decide)
      rcases (by omega : k = 0 ∨ k = 1 ∨ k = 2 ∨ k = 3 ∨ k = 4 ∨ k = 5 ∨ k = 6 ∨ k = 7 ∨ k = 8 ∨ k = 9) with rfl | rfl | rfl | rfl | rfl | rfl | rfl | rfl | rfl | rfl <;>
        rcases hT with rfl | rfl | rfl | rfl | rfl | rfl <;> decide +kernel
  | p :: l, k, acc, hk => by
    show wpAny M A (forIn ((Value.str p.1 p.2, k) :: (strValues l ++ v :: post).zipIdx (k + 1)) acc joinBody : Sem (Array Str)) Q E s
    rw [List.forIn_cons]
    show wpAny M A (forIn ((strValues l ++ v :: post).zipIdx (k + 1)) (acc.push p.1) joinBody : Sem (Array Str)) Q E s
    exact join_loop_bad hv hA hE l (k + 1) _ (by simp at hk; omega)
/-- sep.join of a list or tuple that holds a value that is no text -/
theorem join_bad {prog : Program} {w : World} {x : Str} {t : Tok} {D : Addr} {items : Array Value} {v : Value} {T : String} {l : List (Str × Tok)} {post : List Value} {Q : Value → Shared → Prop}
    (hl : s.heap.IsList D items ∨ IsTup s.heap D items) (hi : items.toList = strValues l ++ v :: post) (hlen : l.length ≤ 9) (hv : NoStr s.heap v T) (hA : A.handled = none)
    (hE : ∀ h' tk e, Heap.NewExc s.heap h' e "TypeError" → E (.ref e) { s with heap := h', toks := tk }) :
    wpAny (model prog w) A (call (.builtin "str.join") [.str x t, .ref D]) Q E s := by
  have m : Meets (Builtin.«str.join» ⟨[.str x t, .ref D], []⟩) (fun A R s => (s.heap.IsList D items ∨ IsTup s.heap D items) ∧ NoStr s.heap v T ∧ raisesNew "TypeError" A R s) := by
    obtain ⟨other, htree⟩ := join_tree x t D
    rintro prog w A R s ⟨hl, hv, hA, hE⟩
    rw [htree]
    have bad : ∀ QQ : PySem.Fin → Shared → Prop, wpAny (model prog w) A.in1 (joinTail x items.toList) QQ (fun e s' => R (.error e) s') s := by
      intro QQ
      rw [hi]
      unfold joinTail
      have rest : wpAny (model prog w) A.in1 (joinRest x (strValues l ++ v :: post)) QQ (fun e s' => R (.error e) s') s := by
        unfold joinRest
        exact wpAny_bind (join_loop_bad (A := A.in1) (E := fun e s' => R (.error e) s') hv hA hE l 0 _ (by omega))
      cases l with
      | nil =>
        cases post with
        | nil =>
          show wpAny _ _ (if isExactStr v = true then _ else _) _ _ _
          rw [if_neg ?_]
          · exact rest
          · rcases hv with ⟨n, t, rfl, rfl⟩ | ⟨rfl, rfl⟩ | ⟨b, rfl, rfl⟩ | ⟨a, o, rfl, _⟩ <;> simp [isExactStr]
        | cons y r => exact rest
      | cons p l => cases l with
        | nil => exact rest
        | cons q l => exact rest
    rcases hl with hl | hl
    · refine wpAny_bind (wpAny_typeOf hl.typeIs ?_)
      show wpAny _ _ (do
          match ← seqItems? (.ref D) with
          | some xs => joinTail x xs.toList
          | none => unsupported "internal:str.join") _ _ s
      obtain ⟨o, ho, hc, n, hdata⟩ := hl
      unfold seqItems?
      refine wpAny_bind (wpAny_bind (wpAny_load ho ?_))
      rw [hdata]
      exact wpAny_pure (bad _)
    · refine wpAny_bind (wpAny_typeOf hl.typeIs ?_)
      show wpAny _ _ (do
          match ← seqItems? (.ref D) with
          | some xs => joinTail x xs.toList
          | none => unsupported "internal:str.join") _ _ s
      obtain ⟨o, ho, hc, n, hdata⟩ := hl
      unfold seqItems?
      refine wpAny_bind (wpAny_bind (wpAny_load ho ?_))
      rw [hdata]
      exact wpAny_pure (bad _)
  exact call_meets PySem.F.slot_str_join (typeIs_str s x t) PySem.F.entry_str_join (PySem.F.args_str_join_2 _ _) m ⟨hl, hv, hA, hE⟩
end

end
section
def freshOf (h h' : Heap) : List (Addr × Obj) := (List.range h'.objs.size).filterMap fun a => match h.get? a with
  | none => (h'.get? a).map fun o => (a, o)
  | some _ => none
theorem mem_fresh {h h' : Heap} {p : Addr × Obj} (hp : p ∈ freshOf h h') : h.get? p.1 = none ∧ h'.get? p.1 = some p.2 := by
  obtain ⟨a, _, e⟩ := List.mem_filterMap.mp hp
  split at e
  · rename_i q
    cases hq : h'.get? a with
    | none => rw [hq] at e; cases e
    | some o => rw [hq] at e; cases e; exact ⟨q, hq⟩
  · cases e
theorem fresh_mem {h h' : Heap} {a : Addr} {o : Obj} (e : h.get? a = none) (e' : h'.get? a = some o) : (a, o) ∈ freshOf h h' :=
  List.mem_filterMap.mpr ⟨a, List.mem_range.mpr (Heap.lt_size e'), by rw [e, e']; rfl⟩

def keepOnly (h : Heap) (p : Addr → Bool) : Heap := hideAll h ((List.range h.objs.size).filter fun a => !p a)
theorem keepOnly_get {h : Heap} {p : Addr → Bool} {a : Addr} {o : Obj} (e : h.get? a = some o) (hp : p a = true) : (keepOnly h p).get? a = some o :=
  hideAll_get _ e fun hm => by
    have := (List.mem_filter.mp hm).2
    rw [hp] at this; cases this
theorem keepOnly_of {h : Heap} {p : Addr → Bool} {a : Addr} {o : Obj} (e : (keepOnly h p).get? a = some o) : h.get? a = some o ∧ p a = true := by
  refine ⟨of_hideAll _ e, ?_⟩
  cases hp : p a with
  | true => rfl
  | false =>
    have hlt : a < h.objs.size := Heap.lt_size (of_hideAll _ e)
    have hm : a ∈ (List.range h.objs.size).filter fun a => !p a := List.mem_filter.mpr ⟨List.mem_range.mpr hlt, by rw [hp]; rfl⟩
    have := hideAll_none (h := h) _ hm
    unfold keepOnly at e
    rw [this] at e; cases e

section
variable {h₀ h h' g₀ : Heap} {L : Addr} {m : Str → Option Value} {Z act news : List (Addr × Obj)} {v : Value} {d : PyData}
end

end
section
/-- a turn's end of a comprehension: the act's ledger stays, the data's grows -/
def CTurn (h₀ : Heap) (L : Addr) (m : Str → Option Value) (s : Shared) (front act Z : List (Addr × Obj)) (inv : Value → List (Addr × Obj) → Prop) (y : Value) (s₂ : Shared) : Prop :=
  ∃ h' tk' Z', s₂ = { s with heap := h', toks := tk' } ∧ Fr h₀ L h' m ∧ News h₀ L h' (front ++ (act ++ Z')) ∧ (∀ p ∈ Z', p ∈ Z ∨ s.heap.get? p.1 = none) ∧ inv y Z'
section
variable {g h : Heap} {Z : List (Addr × Obj)} {x : Addr} {ds : List PyData}
end

end
section
section
open PySem.SeqAt PySem.AutoSeq1 PySem.MeetsSeq
variable {A : Around} {s : Shared}
theorem dict_declines_none (l : Addr) (es : Array DictEntry) (n : Nat) (dd : Option Addr) (sl : Array (Option Value)) :
    Meets (Builtin.«dict.__eq__» ⟨[.ref l, .none], []⟩) (fun _ R s => s.heap.get? l = some { cls := .type "dict", dict := dd, data := .dict es n, slots := sl } ∧ R (.ok (.ret .notImplemented)) s) :=
  .of_wp fun prog w A R s h => by obtain ⟨hp, g, d, tk, os⟩ := s; obtain ⟨hl, h⟩ := h; have f1 := PySem.F.sub_NoneType_dict; wp_walk using wpAny_loadPart' hl; exact ⟨_, rfl, h⟩
theorem dict_declines_str (l : Addr) (es : Array DictEntry) (n : Nat) (dd : Option Addr) (sl : Array (Option Value)) (b : Str) (u : Tok) :
    Meets (Builtin.«dict.__eq__» ⟨[.ref l, .str b u], []⟩) (fun _ R s => s.heap.get? l = some { cls := .type "dict", dict := dd, data := .dict es n, slots := sl } ∧ R (.ok (.ret .notImplemented)) s) :=
  .of_wp fun prog w A R s h => by obtain ⟨hp, g, d, tk, os⟩ := s; obtain ⟨hl, h⟩ := h; have f1 := PySem.F.sub_str_dict; wp_walk using wpAny_loadPart' hl; exact ⟨_, rfl, h⟩
theorem str_declines_dict (b : Str) (u : Tok) (l : Addr) (es : Array DictEntry) (n : Nat) (dd : Option Addr) (sl : Array (Option Value)) :
    Meets (Builtin.«str.__eq__» ⟨[.str b u, .ref l], []⟩) (fun _ R s => s.heap.get? l = some { cls := .type "dict", dict := dd, data := .dict es n, slots := sl } ∧ R (.ok (.ret .notImplemented)) s) :=
  .of_wp fun prog w A R s h => by obtain ⟨hp, g, d, tk, os⟩ := s; obtain ⟨hl, h⟩ := h; wp_walk using wpAny_loadPart' hl, wpAny_load hl; exact ⟨_, rfl, h⟩
theorem eq_none_dict {l : Addr} {es : Array DictEntry} {n : Nat} {dd : Option Addr} {sl : Array (Option Value)} (ho : s.heap.get? l = some { cls := .type "dict", dict := dd, data := .dict es n, slots := sl }) (hu : A.units < cLine) : SeqAt.EqAt A s .none (.ref l) false := fun prog w E Q h => by
  unfold eqBool
  refine wpAny_holding ?_
  refine wpAny_ite_split (fun hab => absurd (eq_of_beq hab) nofun) (fun _ => ?_)
  refine wpAny_bind (rc_eq_decline_or (k := false) rfl ⟨_, ho, rfl⟩ (by decide) PySem.F.sub_dict_NoneType PySem.F.slot_NoneType_eq PySem.F.slot_dict_eq_refl
    (fun _ hq => call_gives PySem.F.slot_NoneType_eq rfl PySem.F.entry_NoneType_eq (PySem.F.args_NoneType_eq_2 _ _) (NoneType___eq___none_ref_0 l) hq)
    (fun _ hq => call_meets PySem.F.slot_dict_eq_refl ⟨_, ho, rfl⟩ PySem.F.entry_dict_eq (PySem.F.args_dict_eq_2 _ _) (dict_declines_none l es n dd sl) ⟨ho, hq⟩)
    (fun _ hq => wpAny_of_eq (rfl : isSame .none (.ref l) = pure false) hq) (.inr hu) (wpAny_truthy_bool h))
theorem eq_str_dict {l : Addr} {es : Array DictEntry} {n : Nat} {dd : Option Addr} {sl : Array (Option Value)} (b : Str) (u : Tok) (ho : s.heap.get? l = some { cls := .type "dict", dict := dd, data := .dict es n, slots := sl }) (hu : A.units < cLine) : SeqAt.EqAt A s (.str b u) (.ref l) false := fun prog w E Q h => by
  unfold eqBool
  refine wpAny_holding ?_
  refine wpAny_ite_split (fun hab => absurd (eq_of_beq hab) nofun) (fun _ => ?_)
  refine wpAny_bind (rc_eq_decline_or (k := false) (typeIs_str s b u) ⟨_, ho, rfl⟩ (by decide) PySem.F.sub_dict_str PySem.F.slot_str_eq PySem.F.slot_dict_eq_refl
    (fun _ hq => call_meets PySem.F.slot_str_eq (typeIs_str s b u) PySem.F.entry_str_eq (PySem.F.args_str_eq_2 _ _) (str_declines_dict b u l es n dd sl) ⟨ho, hq⟩)
    (fun _ hq => call_meets PySem.F.slot_dict_eq_refl ⟨_, ho, rfl⟩ PySem.F.entry_dict_eq (PySem.F.args_dict_eq_2 _ _) (dict_declines_str l es n dd sl b u) ⟨ho, hq⟩)
    (fun _ hq => wpAny_of_eq (rfl : isSame (.str b u) (.ref l) = pure false) hq) (.inr hu) (wpAny_truthy_bool h))
end

end
section
/-- the things of law 02 -/
inductive Th
  | s (x : Str)
  | n (i : Int)
  | none
  | b (c : Bool)
  | lst
  | tup
  | dct
def Th.shown : Th → Str
  | .s x => x
  | .n i => toString i
  | .none => "None"
  | .b c => if c then "True" else "False"
  | .lst => "['h', 1]"
  | .tup => "('i', '')"
  | .dct => "{'j': 2}"
def Th.d : Th → PyData
  | .s x => .str x
  | .n i => .int i
  | .none => .none
  | .b c => .bool c
  | .lst => .list [.str "h", .int 1]
  | .tup => .tuple [.str "i", .str ""]
  | .dct => .dict [(.str "j", .int 2)]
def Th.isStr : Th → Bool
  | .s _ => true
  | _ => false
/-- v is the thing t -/
inductive IsTh (h : Heap) : Value → Th → Prop
  | s (x : Str) (t : Tok) : IsTh h (.str x t) (.s x)
  | n (i : Int) (t : Tok) : IsTh h (.int i t) (.n i)
  | none : IsTh h .none .none
  | b (c : Bool) : IsTh h (.bool c) (.b c)
  | lst {a : Addr} {o : Obj} {t1 t2 : Tok} {k : Nat} (ho : h.get? a = some o) (hc : o.cls = .type "list") (hd : o.data = .seq #[.str "h" t1, .int 1 t2] k) : IsTh h (.ref a) .lst
  | tup {a : Addr} {t1 t2 : Tok} (ho : IsTup h a #[.str "i" t1, .str "" t2]) : IsTh h (.ref a) .tup
  | dct {a : Addr} {o : Obj} {hs : Int} {t1 t2 : Tok} {k : Nat} (ho : h.get? a = some o) (hc : o.cls = .type "dict") (hd : o.data = .dict #[{ hash := hs, key := .str "j" t1, val := .int 2 t2 }] k) (lo : (a == sysModules) = false) : IsTh h (.ref a) .dct
theorem IsTh.keeps {h h' : Heap} {v : Value} {t : Th} (k : h.StaysIn h') (x : IsTh h v t) : IsTh h' v t := by
  cases x with
  | s x t => exact .s x t
  | n i t => exact .n i t
  | none => exact .none
  | b c => exact .b c
  | lst ho hc hd => exact .lst (k _ _ ho) hc hd
  | tup ho => exact .tup (stays_tup k ho)
  | dct ho hc hd lo => exact .dct (k _ _ ho) hc hd lo
section
variable {prog : Program} {w : World} {A : Around} {s : Shared}
theorem reads_lst {h : Heap} {a : Addr} {o : Obj} {t1 t2 : Tok} {k : Nat} (ho : h.get? a = some o) (hc : o.cls = .type "list") (hd : o.data = .seq #[.str "h" t1, .int 1 t2] k) : Reads h (.ref a) Th.lst.d [a] :=
  .list ho hc hd (.cons (.str _ _) (.cons (.int _ _) .nil))
theorem reads_tup {h : Heap} {a : Addr} {t1 t2 : Tok} (ho : IsTup h a #[.str "i" t1, .str "" t2]) : Reads h (.ref a) Th.tup.d [] := by
  obtain ⟨o, ho, hc, n, hd⟩ := ho
  exact .tuple ho hc hd (.cons (.str _ _) (.cons (.str _ _) .nil))
theorem reads_dct {h : Heap} {a : Addr} {o : Obj} {hs : Int} {t1 t2 : Tok} {k : Nat} (ho : h.get? a = some o) (hc : o.cls = .type "dict") (hd : o.data = .dict #[{ hash := hs, key := .str "j" t1, val := .int 2 t2 }] k) : Reads h (.ref a) Th.dct.d [a] :=
  .dict (kvs := [(.str "j", .int 2)]) ho hc hd (.cons (.str _ _) .nil) (.cons (.int _ _) .nil)
theorem wp_toks {α : Type} {M : Model} {t : Sem α} {Q : α → Shared → Prop} {E : Value → Shared → Prop} (h : wpAny M A t Q E s) : wpAny M A t (fun a s' => s.toks ≤ s'.toks ∧ Q a s') E s := fun Γ p hΓ =>
  Sem.wp_mono M Γ t (fun _ _ _ x => x) (fun _ _ _ x => x.2) p s (Sem.wp_toks M Γ s.toks t _ _ p s (Nat.le_refl _) (h Γ p hΓ))
theorem shown_lst : Th.lst.d.shown = Th.lst.shown := by decide +kernel
theorem shown_tup : Th.tup.d.shown = Th.tup.shown := by decide +kernel
theorem shown_dct : Th.dct.d.shown = Th.dct.shown := by decide +kernel
/-- a reference's text, the number of texts only grows -/
theorem strGives_ref {a : Addr} {d : PyData} {as : List Addr} {y : Str} (r : Reads s.heap (.ref a) d as) (hy : d.shown = y) (hs : d.showable = true) (hsm : d.hasDict = true → sysModules ∉ as) (hg : A.guards = some []) (hu : A.units + (d.depth + 3) < cLine) (hsz : d.shown.length ≤ sizeLine) : StrGives prog w A s (.ref a) y := by
  subst hy
  intro Q E hQ
  have h := str_of_reads (prog := prog) (w := w) (A := A) (E := E) (Q := fun v s' => ∃ h' t tk, v = .str d.shown t ∧ s.heap.StaysIn h' ∧ s' = { s with heap := h', toks := tk }) r hs hsm hg hu (fun _ _ e => e) (fun h' u tk k => ⟨h', u, tk, rfl, k, rfl⟩) hsz
  refine wpAny_mono (wp_toks h) ?_ fun _ _ e => e
  rintro v s' ⟨ht, h', t, tk, rfl, k, rfl⟩
  exact hQ h' t tk ht k
/-- nothing is asked of the module table: a dict of ours has another address -/
def SysOk (_ : Heap) : Prop := True
/-- str of a thing gives its text -/
theorem IsTh.str {v : Value} {t : Th} (x : IsTh s.heap v t) (hn : ∀ i, t = .n i → i.natAbs.log2 < 1920) (hsys : SysOk s.heap) (hg : A.guards = some []) (hu : A.units + 10 < cLine) : StrGives prog w A s v t.shown := by
  have big : ∀ n : Nat, n ≤ 1000 → n ≤ sizeLine := fun n h => by rw [sizeLine_eq]; omega
  cases x with
  | s x t => exact fun Q E hQ => PySem.P.str_of_str (hQ s.heap t s.toks (Nat.le_refl _) fun _ _ e => e)
  | n i t => exact fun Q E hQ => PySem.P.str_of_int (hn i rfl) (hQ s.heap _ _ (Nat.le_succ _) fun _ _ e => e)
  | none => exact fun Q E hQ => PySem.P.str_of_none (hQ s.heap _ _ (Nat.le_succ _) fun _ _ e => e)
  | b c => exact fun Q E hQ => PySem.P.str_of_bool (hQ s.heap _ _ (Nat.le_succ _) fun _ _ e => e)
  | lst ho hc hd => exact strGives_ref (reads_lst ho hc hd) shown_lst (by decide +kernel) (fun e => absurd e (by decide +kernel)) hg (Nat.lt_of_le_of_lt (Nat.add_le_add_left (show Th.lst.d.depth + 3 ≤ 10 by decide +kernel) _) hu) (big _ (by decide +kernel))
  | tup ho => exact strGives_ref (reads_tup ho) shown_tup (by decide +kernel) (fun e => absurd e (by decide +kernel)) hg (Nat.lt_of_le_of_lt (Nat.add_le_add_left (show Th.tup.d.depth + 3 ≤ 10 by decide +kernel) _) hu) (big _ (by decide +kernel))
  | @dct a o0 hs t1 t2 k ho hc hd lo =>
    refine strGives_ref (reads_dct ho hc hd) shown_dct (by decide +kernel) (fun _ hm => ?_) hg (Nat.lt_of_le_of_lt (Nat.add_le_add_left (show Th.dct.d.depth + 3 ≤ 10 by decide +kernel) _) hu) (big _ (by decide +kernel))
    have e : sysModules = a := by simpa using hm
    rw [← e] at lo
    exact absurd lo (by decide)
end

end
section
section
variable {prog : Program} {w : World} {A : Around} {E : Value → Shared → Prop} {s : Shared}
theorem IsTh.handed {h : Heap} {v : Value} {t : Th} (x : IsTh h v t) : W.handedIn v = true := by cases x <;> rfl
theorem IsTh.eqNone {v : Value} {t : Th} (x : IsTh s.heap v t) (h1 : t ≠ .none) (hu : A.units < cLine) : SeqAt.EqAt A s .none v false := by
  cases x with
  | s x t => exact SeqAt.EqAt.none_str _ _
  | n i t => exact SeqAt.EqAt.none_int _ _
  | none => exact absurd rfl h1
  | b c => exact SeqAt.EqAt.none_bool _
  | lst ho hc hd => exact SeqAt.EqAt.none_list ⟨_, ho, hc, _, hd⟩ hu
  | tup ho => exact SeqAt.EqAt.none_tuple ho hu
  | @dct a o _ _ _ _ ho hc hd =>
    obtain ⟨c, d, dt, sl⟩ := o
    dsimp only at hc hd
    subst hc hd
    exact eq_none_dict ho hu
theorem IsTh.eqStr {v : Value} {t : Th} {b : Str} {u : Tok} (x : IsTh s.heap v t) (h1 : t ≠ .s b) (hu : A.units < cLine) : SeqAt.EqAt A s (.str b u) v false := by
  cases x with
  | s x t =>
    have := SeqAt.EqAt.str_str (A := A) (s := s) b u x t
    rwa [show (b == x) = false from by simpa using fun e : b = x => h1 (by rw [e])] at this
  | n i t => exact SeqAt.EqAt.str_int _ _ _ _
  | none => exact SeqAt.EqAt.str_none _ _
  | b c => exact SeqAt.EqAt.str_bool _ _ _
  | lst ho hc hd => exact SeqAt.EqAt.str_list _ _ ⟨_, ho, hc, _, hd⟩ hu
  | tup ho => exact SeqAt.EqAt.str_tuple _ _ ho hu
  | @dct a o _ _ _ _ ho hc hd =>
    obtain ⟨c, d, dt, sl⟩ := o
    dsimp only at hc hd
    subst hc hd
    exact eq_str_dict _ _ ho hu
theorem notin_thing {l : Addr} {v : Value} {t : Th} {sup : Str} {u : Tok} {Q : Value → Shared → Prop} (ht : IsTup s.heap l #[.none, .str sup u]) (x : IsTh s.heap v t) (h1 : t ≠ .none) (h2 : t ≠ .s sup) (hu : A.units + 1 < cLine) (h : Q (.bool true) s) :
    wpAny (model prog w) A (compareOp .NotIn v (.ref l)) Q E s := by
  refine SeqAt.notIn_tupleAt (fun _ => false) ht (fun y hy => ?_) (by simpa using h)
  have hy' : y = .none ∨ y = .str sup u := by simpa using hy
  rcases hy' with rfl | rfl
  · exact x.eqNone h1 hu
  · exact x.eqStr h2 hu
theorem isi_thing {K : Frag} {v : Value} {t : Th} {Q : Value → Shared → Prop} (X : K.In s.heap) (x : IsTh s.heap v t) (h1 : t ≠ .tup) (h : ∀ tk, Q (.bool false) { s with toks := tk }) : wpAny (model prog w) A (call (.builtin "isinstance") [v, .type "tuple"]) Q E s := by
  cases x with
  | s x t => exact W.kia_one W.kitx_str X trivial (by first | rfl | decide +kernel) (fun e => nomatch e) h
  | n i t => exact W.kia_one W.kitx_int X trivial (by first | rfl | decide +kernel) (fun e => nomatch e) h
  | none => exact W.kia_one W.kitx_none X trivial (by first | rfl | decide +kernel) (fun e => nomatch e) h
  | b c => exact W.kia_one W.kitx_bool X trivial (by first | rfl | decide +kernel) (fun e => nomatch e) h
  | lst ho hc hd => exact W.kia_one W.kitx_list X ⟨_, ho, hc⟩ (by first | rfl | decide +kernel) (fun e => nomatch e) h
  | tup ho => exact absurd rfl h1
  | dct ho hc hd => exact W.kia_one W.kitx_dict X ⟨_, ho, hc⟩ (by first | rfl | decide +kernel) (fun e => nomatch e) h
end

end
section
/-- the values of a list are things -/
inductive ThsAre (h : Heap) : List Value → List Th → Prop
  | nil : ThsAre h [] []
  | cons {v : Value} {t : Th} {vs : List Value} {ts : List Th} : IsTh h v t → ThsAre h vs ts → ThsAre h (v :: vs) (t :: ts)
theorem ThsAre.length {h : Heap} {vs : List Value} {ts : List Th} (x : ThsAre h vs ts) : vs.length = ts.length := by
  induction x with
  | nil => rfl
  | cons _ _ ih => simp [ih]
theorem ThsAre.keeps {h h' : Heap} {vs : List Value} {ts : List Th} (k : h.StaysIn h') (x : ThsAre h vs ts) : ThsAre h' vs ts := by
  induction x with
  | nil => exact .nil
  | cons a _ ih => exact .cons (a.keeps k) ih
theorem ThsAre.at {h : Heap} {vs : List Value} {ts : List Th} (x : ThsAre h vs ts) : ∀ (k : Nat) (v : Value), vs[k]? = some v → ∃ t, ts[k]? = some t ∧ IsTh h v t := by
  induction x with
  | nil => intro k v e; simp at e
  | cons a _ ih =>
    intro k v e
    cases k with
    | zero => simp at e; subst e; exact ⟨_, rfl, a⟩
    | succ k => simpa using ih k v (by simpa using e)
section
variable {prog : Program} {w : World} {A : Around} {E : Value → Shared → Prop} {s : Shared} {h₀ : Heap} {L : Addr} {m : Str → Option Value} {news : List (Addr × Obj)}
theorem join_map_T {x : Str} {t : Tok} {z l : Addr} {xs : Array Value} {ths : List Th} {Q : Value → Shared → Prop} (F : Fr h₀ L s.heap m) (N : News h₀ L s.heap news) (MR : MapReady h₀ L s.heap news z l xs) (hh : A.handled = none)
    (hi : ThsAre h₀ xs.toList ths) (hn : ∀ i, Th.n i ∈ ths → i.natAbs.log2 < 1920) (hsys : SysOk h₀) (hg : A.guards = some []) (hu : A.units + 20 < cLine) (hsep : x.length ≤ 16) (hw : ((ths.map Th.shown).map (·.length)).sum + (ths.map Th.shown).length ≤ 1048576)
    (hq : ∀ h' t' tk, Fr h₀ L h' m → News h₀ L h' news → Q (.str (Txt.join x (ths.map Th.shown)) t') { s with heap := h', toks := tk }) :
    wpAny (model prog w) A (call (.builtin "str.join") [.str x t, .ref z]) Q E s := by
  obtain ⟨TI, i, m1, m2, m3, m4, n1, n2, n3, n4, n5, n6⟩ := MR
  have hlen := hi.length
  rw [Array.length_toList] at hlen
  refine join_map hh m1 m2 m3 m4 n1 n2 n3 (by rw [List.length_map]; exact hlen) (fun k v y hv hy s' hk => ?_) (joinOk_of_weight hw hsep) (by rw [sizeLine_eq]; omega) fun h' t' tk hk => ?_
  · obtain ⟨th, h1, h2⟩ := hi.at k v (by rw [Array.getElem?_toList]; exact hv)
    have hy' : y = th.shown := by rw [List.getElem?_map, h1] at hy; simpa using hy.symm
    subst hy'
    have st : h₀.StaysIn s'.heap := fun b o e => hk b o (fun q => by rw [q, n5] at e; cases e) (F.keep b o e)
    refine IsTh.str (h2.keeps st) (fun j hj => hn j (by rw [← hj]; exact List.mem_of_getElem? h1)) ?_ hg (by show A.units + 1 + 1 + 1 + 1 + 10 < cLine; omega)
    exact trivial
  · obtain ⟨oL, es, ep, hL, r⟩ := F.ns
    refine hq h' t' tk ⟨⟨oL, es, ep, hk _ _ (Ne.symm n4) hL, r⟩, fun b o e => hk b o (fun q => by rw [q, n5] at e; cases e) (F.keep b o e), F.above⟩ fun p hp => ⟨hk _ _ (n6 p hp) (N p hp).1, (N p hp).2⟩
end
theorem SysOk.keeps {h h' : Heap} (k : h.StaysIn h') (x : SysOk h) : SysOk h' := trivial
theorem ths_ne {h : Heap} {vs : List Value} {ts : List Th} (x : ThsAre h vs ts) (hne : ts ≠ []) : vs ≠ [] := by
  cases x with
  | nil => exact absurd rfl hne
  | cons _ _ => exact List.cons_ne_nil _ _
theorem truthy_ths {prog : Program} {w : World} {A : Around} {E : Value → Shared → Prop} {s : Shared} {l : Addr} {items : Array Value} {ts : List Th} {h : Heap} {Q : Bool → Shared → Prop} (hl : s.heap.IsList l items) (hi : ThsAre h items.toList ts) (hne : ts ≠ []) (hfit : ts.length ≤ 1000)
    (hq : ∀ tk, Q true { s with toks := tk }) : wpAny (model prog w) A (truthy (.ref l)) Q E s := by
  have hlen := hi.length
  rw [Array.length_toList] at hlen
  refine wpAny_truthy_list hl (by omega) ?_
  have : items.isEmpty = false := by
    cases items with
    | mk xs => cases xs with
      | nil => exact absurd rfl (ths_ne hi hne)
      | cons _ _ => rfl
  rw [this]
  exact hq _

end
section
section
open Builtin Builtin.Str
variable {prog : Program} {w : World} {A : Around} {E : Value → Shared → Prop} {s : Shared} {x : Str} {t : Tok} {c : Bool}
theorem rmul_bool (c : Bool) (x : Str) (t : Tok) : Gives (Builtin.«int.__rmul__» ⟨[.bool c, .str x t], []⟩) (.val (Value.notImplemented)) :=
  .of_wp fun M A E s Q h => by obtain ⟨hp, g, d, tk, os⟩ := s; wp_walk; exact ⟨_, rfl, h⟩
theorem rep_bool (c : Bool) (x : Str) (t : Tok) : Gives (Builtin.«str.__mul__» ⟨[.str x t, .bool c], []⟩) (if c then .val (.str x t) else .str Str.empty) := by
  cases c
  · show Gives (do rule s!"str.{"__mul__"}.none"; retStr Str.empty) _
    exact .rule (.of_eq rfl)
  · show Gives (do rule s!"str.{"__mul__"}.unchanged"; ret (.str x t)) _
    exact .rule (.of_eq rfl)
theorem mul_bool {Q : Value → Shared → Prop} (h : ∀ t' k, Q (.str (if c then x else Str.empty) t') { s with toks := k }) : wpAny (model prog w) A (binaryOp .Mult (.str x t) (.bool c)) Q E s :=
  wpAny_binaryOp_repeat (T := "str") (U := "bool") (by decide) (fun s' => typeIs_str s' x t) (fun s' => rfl) noFill_str_mul F.fills_bool_mul F.slot_bool_rmul repeat_str F.slot_bool_index.lookup
    (call_gives F.slot_bool_rmul rfl F.entry_int_rmul (F.args_int_rmul_2 _ _) (rmul_bool c x t)
      ⟨rfl, call_gives F.slot_str_mul (typeIs_str s x t) F.entry_str_mul (F.args_str_mul_2 _ _) (rep_bool c x t) (by
        cases c
        · exact ⟨by decide, h _ _⟩
        · exact h t s.toks)⟩)
end
theorem add_le {prog : Program} {w : World} {A : Around} {E : Value → Shared → Prop} {s : Shared} {x y : Str} {t u : Tok} {Q : Value → Shared → Prop} {K L : Nat} (hx : x.length ≤ K) (hy : y.length ≤ L) (hs : K + L ≤ 16777216) (h : ∀ t' k, (x ++ y).length ≤ K + L → Q (.str (x ++ y) t') { s with toks := k }) : wpAny (model prog w) A (binaryOp .Add (.str x t) (.str y u)) Q E s :=
  W.KXadd.add hx hy hs fun t' k hl => h t' k (Nat.le_trans hl.2 (Nat.add_le_add hx hy))
theorem len_if {c : Bool} {x : Str} {K : Nat} (h : x.length ≤ K) : (if c then x else Str.empty).length ≤ K := by
  cases c
  · exact Nat.zero_le _
  · exact h
theorem iadd_le {prog : Program} {w : World} {A : Around} {E : Value → Shared → Prop} {s : Shared} {x y : Str} {t u : Tok} {Q : Value → Shared → Prop} {K L : Nat} (hx : x.length ≤ K) (hy : y.length ≤ L) (hs : K + L ≤ 16777216) (h : ∀ t' k, (x ++ y).length ≤ K + L → Q (.str (x ++ y) t') { s with toks := k }) : wpAny (model prog w) A (inplaceOp .Add (.str x t) (.str y u)) Q E s :=
  SB.iadd (fun t' k => h t' k (by rw [Str.length_append]; omega)) (by rw [sizeLine_eq]; omega)

end
section
local macro_rules | `(tactic| k_mem) => `(tactic| ((with_reducible_and_instances (repeat constructor); done)))
local macro_rules | `(tactic| k_room) => `(tactic| first | exact Mine.room0 (by assumption) | ktr_room)
local macro_rules | `(tactic| k_lt $_h:ident) => `(tactic| skip)
local macro_rules | `(tactic| k_ne) => `(tactic| (refine W.neN ?_; (try dsimp only); first | (with_reducible assumption) | (with_reducible exact Ne.symm (by assumption)) | exact Mine.ne_all (by with_reducible assumption) (by ((with_reducible_and_instances (repeat constructor); done))) | exact Mine.en_all (by with_reducible assumption) (by ((with_reducible_and_instances (repeat constructor); done))) | omega))
local macro_rules | `(tactic| k_handed) => `(tactic| exact Mine.Hidden.handed (by assumption))
section
local macro_rules | `(tactic| walk_at "binaryOp Mult str bool") => `(tactic| ((with_reducible show wpAny _ _ (binaryOp Operator.Mult (Value.str _ _) (Value.bool _)) _ _ _); refine Mine.mul_bool ?_; intro t8 k8))
local macro_rules | `(tactic| walk_at "binaryOp Add str str") => `(tactic| ((with_reducible show wpAny _ _ (binaryOp Operator.Add (Value.str _ _) (Value.str _ _)) _ _ _); refine Mine.add_le (by (first | (with_reducible assumption) | exact Mine.len_if (Nat.le_trans (Txt.slice_le _ _ _) (show _ ≤ 9 by decide +kernel)) | exact Mine.len_if (show _ ≤ 9 by decide +kernel) | exact Nat.le_of_eq (by assumption))) (by (first | (with_reducible assumption) | exact Mine.len_if (Nat.le_trans (Txt.slice_le _ _ _) (show _ ≤ 9 by decide +kernel)) | exact Mine.len_if (show _ ≤ 9 by decide +kernel) | exact Nat.le_of_eq (by assumption))) (by decide) ?_; intro t8 k8 hl8))
section

def figT (n : Int) : Str := ((if decide (n < 0) = true then Str.ofString "-" else Str.empty) ++ if decide (0 < (if n < 0 then -n else n).fdiv 10) = true then Txt.slice (Str.ofString "123456789") (some ((if n < 0 then -n else n).fdiv 10 - 1)) (some ((if n < 0 then -n else n).fdiv 10)) else Str.empty) ++ Txt.item (Str.ofString "0123456789") ((if n < 0 then -n else n).fmod 10)
theorem fig_all : ∀ k : Fin 199, figT ((k.val : Int) - 99) = Str.ofString (toString ((k.val : Int) - 99)) := by decide +kernel
theorem fig_text {n : Int} (h1 : -99 ≤ n) (h2 : n ≤ 99) : figT n = Str.ofString (toString n) := by
  have h := fig_all ⟨(n + 99).toNat, by omega⟩
  have e : (((n + 99).toNat : Nat) : Int) - 99 = n := by omega
  simp only [e] at h
  exact h
theorem law_figures {w : World} {dp un : Nat} {outer : List Env} {gd : Option (List Code)} {base : Heap} {s : Shared} {n : Int} {tn : Tok}
   (X : (Mine.hd.heap_39 w.params).In s.heap) (T : TopH s.heap) (B : Below (AA dp outer gd un) base outer s.heap) (hd : dp + 10 < recursionLimit) (hu : un + 100 < cLine)
   (h1 : -99 ≤ n) (h2 : n ≤ 99) :
   codeAny (model P w) (AA dp outer gd un) (.call (.ref 84) ⟨[.int n tn], []⟩) (Ret s fun v h' => ∃ t, v = .str (toString n) t) s := by
  refine' Mine.enter (binds := [(Str.ofString "n", .int n tn)]) (by with_reducible assumption) (by assumption) ?k6 ?k7 ?k8 ?k9 ?kB ?_ ?c2 ?c3 ?c4 ?c5
  (((case k6 => k_is); (case k7 => k_is); (case k8 => exact Mine.room0 (by assumption)); (case k9 => exact BindsTo.of_eq rfl); (case kB => exact locs rfl); (case c5 => decide); (case c2 => rfl); (case c3 => rfl); (case c4 => rfl); intro L'q4 h₁q4 meanq4 mgq4 mbq4 Fq4 Nq4 T'q4; dsimp only [List.reverse, List.reverseAux, List.length] at Fq4 ⊢; k_fold))
  (repeat' (((first | ((fail_if_success (with_reducible show wpAny _ _ (exec (Stmt.While _ _ _ _) _) _ _ _)); (fail_if_success (with_reducible show wpAny _ _ (exec (Stmt.For _ _ _ _ _) _) _ _ _)); (fail_if_success (with_reducible show wpAny _ _ (eval (PySem.Expr.ListComp _ _ _ _) _) _ _ _)); (fail_if_success (with_reducible show wpAny _ _ (exec (PySem.Stmt.Assign _ (PySem.Expr.ListComp _ _ _ _) _) _) _ _ _)); (fail_if_success (with_reducible show wpAny _ _ (call (Value.ref _) _) _ _ _)); (fail_if_success (with_reducible show wpAny _ _ (pyIter (Value.ref _)) _ _ _)); (fail_if_success (show LCg.CompSrc _ _ _ _ _ _ _ _ _ _ _ _ _ _)); first | (k_unfold; (try dsimp only)) | (k_end; wrow_close) | walk1 | (dsimp only; walk1) | (leave1; (try dsimp only)))))))
  (((try k_unfold); (try dsimp only); refine Mine.ret_of (Fr.keep (by assumption)) ?_ rfl))
  exact ⟨_, congrArg (fun z => Value.str z _) (fig_text h1 h2)⟩

end
end
section

def Told (h h' : Heap) (v : Value) (items : Array Value) : Prop := ∃ l k, v = .ref l ∧ h'.get? l = some (W.listOf items k) ∧ h.get? l = none
theorem told_of {h₀ h' : Heap} {L l : Addr} {news : List (Addr × Obj)} {items : Array Value} {k : Nat} (N : News h₀ L h' news) (hm : (l, W.listOf items k) ∈ news) : Told h₀ h' (.ref l) items := ⟨l, k, rfl, (N _ hm).1, (N _ hm).2.2⟩
def toldScope : Scope := { kind := ScopeKind.function, names := [(Str.ofString "options", NameKind.local), (Str.ofString "metavar", NameKind.local), (Str.ofString "nargs", NameKind.local), (Str.ofString "dest", NameKind.local), (Str.ofString "choices", NameKind.local), (Str.ofString "action", NameKind.local), (Str.ofString "_AttributeHolder", NameKind.globalImplicit), (Str.ofString "_get_action_name", NameKind.globalImplicit), (Str.ofString "TypeError", NameKind.globalImplicit)], isGenerator := false, isCoroutine := false }
def actLed (P : Params) (x dd : Addr) (o m n d c : Value) (k1 k2 k3 k4 k5 : Nat) : List (Addr × Obj) :=
  [(x, W.instObj 59 dd), (dd, W.dictOf [{ hash := PyData.keyHash P (Str.ofString "option_strings"), key := Value.str (Str.ofString "option_strings") k1, val := o }, { hash := PyData.keyHash P (Str.ofString "metavar"), key := Value.str (Str.ofString "metavar") k2, val := m }, { hash := PyData.keyHash P (Str.ofString "nargs"), key := Value.str (Str.ofString "nargs") k3, val := n }, { hash := PyData.keyHash P (Str.ofString "dest"), key := Value.str (Str.ofString "dest") k4, val := d }, { hash := PyData.keyHash P (Str.ofString "choices"), key := Value.str (Str.ofString "choices") k5, val := c }] 5)]
/-- a name that is given: the call of `_get_action_name` by what it hands back -/
theorem law_told_ok {w : World} {dp un : Nat} {outer : List Env} {gd : Option (List Code)} {base : Heap} {s : Shared} {o m n d c : Value} {Post : Value → Prop}
   (X : (Mine.hd.heap_39 w.params).In s.heap) (T : TopH s.heap) (B : Below (AA dp outer gd un) base outer s.heap) (hd : dp + 10 < recursionLimit) (hu : un + 100 < cLine)
   (h : ∀ (L' : Addr) (h' : Heap) (tk : Nat) (x dd : Addr) (mp : Str → Option Value) (k1 k2 k3 k4 k5 : Nat) (mean : ExcName → Option Value) (mg mb : Str → Option Value) (QQ EE : Value → Shared → Prop), Top V (looseW V []) mean mg mb s.heap → Fr s.heap L' h' mp → News s.heap L' h' (actLed w.params x dd o m n d c k1 k2 k3 k4 k5) →
      (∀ v h'' tk'', Fr s.heap L' h'' mp → News s.heap L' h'' (actLed w.params x dd o m n d c k1 k2 k3 k4 k5) → Post v → QQ v { s with heap := h'', toks := tk'' }) →
      wpAny (model P w) ((AA dp outer gd un).deeper (envOf (Str.ofString "_law_told") toldScope L' 77 (.ref 76))) (call (.ref 70) [.ref x]) QQ EE { s with heap := h', toks := tk }) :
   codeAny (model P w) (AA dp outer gd un) (.call (.ref 77) ⟨[o, m, n, d, c], []⟩) (Ret s fun v h' => ∃ y, Post y ∧ Told s.heap h' v #[y]) s := by
  refine' Mine.enter (binds := [(Str.ofString "options", o), (Str.ofString "metavar", m), (Str.ofString "nargs", n), (Str.ofString "dest", d), (Str.ofString "choices", c)]) (by with_reducible assumption) (by assumption) ?k6 ?k7 ?k8 ?k9 ?kB ?_ ?c2 ?c3 ?c4 ?c5
  (((case k6 => k_is); (case k7 => k_is); (case k8 => exact Mine.room0 (by assumption)); (case k9 => exact BindsTo.of_eq rfl); (case kB => exact locs rfl); (case c5 => decide); (case c2 => rfl); (case c3 => rfl); (case c4 => rfl); intro L'q10 h₁q10 meanq10 mgq10 mbq10 Fq10 Nq10 T'q10; dsimp only [List.reverse, List.reverseAux, List.length] at Fq10 ⊢; k_fold))
  (repeat' (((first | ((fail_if_success (with_reducible show wpAny _ _ (exec (Stmt.While _ _ _ _) _) _ _ _)); (fail_if_success (with_reducible show wpAny _ _ (exec (Stmt.For _ _ _ _ _) _) _ _ _)); (fail_if_success (with_reducible show wpAny _ _ (eval (PySem.Expr.ListComp _ _ _ _) _) _ _ _)); (fail_if_success (with_reducible show wpAny _ _ (exec (PySem.Stmt.Assign _ (PySem.Expr.ListComp _ _ _ _) _) _) _ _ _)); (fail_if_success (with_reducible show wpAny _ _ (call (Value.ref _) _) _ _ _)); (fail_if_success (with_reducible show wpAny _ _ (pyIter (Value.ref _)) _ _ _)); (fail_if_success (show LCg.CompSrc _ _ _ _ _ _ _ _ _ _ _ _ _ _)); first | (k_unfold; (try dsimp only)) | (k_end; wrow_close) | walk1 | (dsimp only; walk1) | (leave1; (try dsimp only)))))))
  walk1
  (repeat' (((first | ((fail_if_success (with_reducible show wpAny _ _ (exec (Stmt.While _ _ _ _) _) _ _ _)); (fail_if_success (with_reducible show wpAny _ _ (exec (Stmt.For _ _ _ _ _) _) _ _ _)); (fail_if_success (with_reducible show wpAny _ _ (eval (PySem.Expr.ListComp _ _ _ _) _) _ _ _)); (fail_if_success (with_reducible show wpAny _ _ (exec (PySem.Stmt.Assign _ (PySem.Expr.ListComp _ _ _ _) _) _) _ _ _)); (fail_if_success (with_reducible show wpAny _ _ (call (Value.ref _) _) _ _ _)); (fail_if_success (with_reducible show wpAny _ _ (pyIter (Value.ref _)) _ _ _)); (fail_if_success (show LCg.CompSrc _ _ _ _ _ _ _ _ _ _ _ _ _ _)); first | (k_unfold; (try dsimp only)) | (k_end; wrow_close) | walk1 | (dsimp only; walk1) | (leave1; (try dsimp only)))))))
  refine h _ _ _ _ _ _ _ _ _ _ _ _ _ _ _ _ (by assumption) (by assumption) (by assumption) ?_
  intro v h2 tk2 F2 N2 hp
  unfold actLed at N2
  (repeat' (((first | ((fail_if_success (with_reducible show wpAny _ _ (exec (Stmt.While _ _ _ _) _) _ _ _)); (fail_if_success (with_reducible show wpAny _ _ (exec (Stmt.For _ _ _ _ _) _) _ _ _)); (fail_if_success (with_reducible show wpAny _ _ (eval (PySem.Expr.ListComp _ _ _ _) _) _ _ _)); (fail_if_success (with_reducible show wpAny _ _ (exec (PySem.Stmt.Assign _ (PySem.Expr.ListComp _ _ _ _) _) _) _ _ _)); (fail_if_success (with_reducible show wpAny _ _ (call (Value.ref _) _) _ _ _)); (fail_if_success (with_reducible show wpAny _ _ (pyIter (Value.ref _)) _ _ _)); (fail_if_success (show LCg.CompSrc _ _ _ _ _ _ _ _ _ _ _ _ _ _)); first | (k_unfold; (try dsimp only)) | (k_end; wrow_close) | walk1 | (dsimp only; walk1) | (leave1; (try dsimp only)))))))
  (((try k_unfold); (try dsimp only); refine Mine.ret_of (Fr.keep (by assumption)) ?_ rfl))
  rename News _ _ _ _ => N9
  exact ⟨_, hp, told_of N9 (by k_mem)⟩

end
section

theorem law_told_A {w : World} {dp un : Nat} {outer : List Env} {gd : Option (List Code)} {base : Heap} {s : Shared} {o : Addr} {m n d c : Value} {items : Array Value} {texts : List Str}
   (X : (Mine.hd.heap_39 w.params).In s.heap) (T : TopH s.heap) (B : Below (AA dp outer gd un) base outer s.heap) (hd : dp + 10 < recursionLimit) (hu : un + 100 < cLine)
   (hl : s.heap.IsList o items) (hi : StrsAre items.toList texts) (hne : texts ≠ []) (hw : (texts.map (·.length)).sum + texts.length ≤ 100000) :
   codeAny (model P w) (AA dp outer gd un) (.call (.ref 77) ⟨[.ref o, m, n, d, c], []⟩) (Ret s fun v h' => ∃ y, (∃ t, y = .str (Txt.join "/" texts) t) ∧ Told s.heap h' v #[y]) s := by
  refine law_told_ok X T B hd hu ?_
  intro L' h' tk x dd mp k1 k2 k3 k4 k5 mean mg mb QQ EE T' F N hq
  unfold toldScope
  have N' := N
  unfold actLed at N
  have hd8 : dp + 1 + 1 < recursionLimit := by omega
  (repeat' (first | ((((with_reducible show wpAny _ _ (truthy (Value.ref _)) _ _ _); first | (refine Mine.truthy_list_ne (by (first | assumption | exact News.isList (by assumption) (by k_mem) | exact stays_list (Fr.keep (by assumption)) (by assumption) | exact stays_list (Fr.keep (by assumption)) (stays_list (Fr.keep (by assumption)) (by assumption)))) (by assumption) (by assumption) (by omega) ?_; intro tk1q19) | (refine Mine.truthy_list_nil (by (first | assumption | exact News.isList (by assumption) (by k_mem) | exact stays_list (Fr.keep (by assumption)) (by assumption) | exact stays_list (Fr.keep (by assumption)) (stays_list (Fr.keep (by assumption)) (by assumption)))) ?_; intro tk1q19) | (refine Mine.truthy_tup_nil (by (first | assumption | exact News.isTup (by assumption) (by k_mem) | exact stays_tup (Fr.keep (by assumption)) (by assumption) | exact stays_tup (Fr.keep (by assumption)) (stays_tup (Fr.keep (by assumption)) (by assumption)))) ?_; intro tk1q19) | (refine Mine.truthy_empty (by (first | assumption | exact Or.inl (News.isList (by assumption) (by k_mem)) | exact Or.inr (News.isTup (by assumption) (by k_mem)) | exact Mine.Empty.keeps (Fr.keep (by assumption)) (by assumption) | exact Mine.Empty.keeps (Fr.keep (by assumption)) (Mine.Empty.keeps (Fr.keep (by assumption)) (by assumption)))) ?_; intro tk1q19)))) | ((((with_reducible show wpAny _ _ (call (Value.builtin "str.join") [Value.str _ _, Value.ref _]) _ _ _); first | (refine join_listW (by (first | assumption | exact News.isList (by assumption) (by k_mem) | exact stays_list (Fr.keep (by assumption)) (by assumption) | exact stays_list (Fr.keep (by assumption)) (stays_list (Fr.keep (by assumption)) (by assumption)))) (by assumption) (by decide) (Mine.le_big (by assumption)) ?_; intro t2q24 tk2q24) | (refine join_tupleW (by (first | assumption | exact News.isTup (by assumption) (by k_mem) | exact stays_tup (Fr.keep (by assumption)) (by assumption) | exact stays_tup (Fr.keep (by assumption)) (stays_tup (Fr.keep (by assumption)) (by assumption)))) (by assumption) (by decide) (Mine.le_big (by assumption)) ?_; intro t2q24 tk2q24)))) | ((((with_reducible show wpAny _ _ (compareOp CmpOp.NotIn (Value.str _ _) (Value.ref _)) _ _ _); first | refine Mine.notin_sup_same (by (first | assumption | exact News.isTup (by assumption) (by k_mem) | exact stays_tup (Fr.keep (by assumption)) (by assumption) | exact stays_tup (Fr.keep (by assumption)) (stays_tup (Fr.keep (by assumption)) (by assumption)))) ?_ | refine Mine.notin_sup_str (by (first | assumption | exact News.isTup (by assumption) (by k_mem) | exact stays_tup (Fr.keep (by assumption)) (by assumption) | exact stays_tup (Fr.keep (by assumption)) (stays_tup (Fr.keep (by assumption)) (by assumption)))) (by assumption) ?_))) | ((((with_reducible show wpAny _ _ (compareOp CmpOp.NotIn Value.none (Value.ref _)) _ _ _); refine Mine.notin_sup_none (by (first | assumption | exact News.isTup (by assumption) (by k_mem) | exact stays_tup (Fr.keep (by assumption)) (by assumption) | exact stays_tup (Fr.keep (by assumption)) (stays_tup (Fr.keep (by assumption)) (by assumption)))) ?_))) | ((((with_reducible show wpAny _ _ (compareOp CmpOp.NotIn (Value.ref _) (Value.ref _)) _ _ _); refine Mine.notin_sup_tup (by (first | assumption | exact News.isTup (by assumption) (by k_mem) | exact stays_tup (Fr.keep (by assumption)) (by assumption) | exact stays_tup (Fr.keep (by assumption)) (stays_tup (Fr.keep (by assumption)) (by assumption)))) (by (first | assumption | exact News.isTup (by assumption) (by k_mem) | exact stays_tup (Fr.keep (by assumption)) (by assumption) | exact stays_tup (Fr.keep (by assumption)) (stays_tup (Fr.keep (by assumption)) (by assumption)))) (by ktr_units) ?_))) | ((((with_reducible show wpAny _ _ (compareOp CmpOp.NotIn _ (Value.ref _)) _ _ _); refine Mine.notin_sup_hidden (by (first | assumption | exact News.isTup (by assumption) (by k_mem) | exact stays_tup (Fr.keep (by assumption)) (by assumption) | exact stays_tup (Fr.keep (by assumption)) (stays_tup (Fr.keep (by assumption)) (by assumption)))) (by first | assumption | exact Mine.Hidden.none | exact Mine.Hidden.sup) ?_))) | ((((with_reducible show wpAny _ _ (call (Value.builtin "isinstance") [Value.ref _, Value.type "tuple"]) _ _ _); refine Mine.isi_tuple (by (first | assumption | exact News.isTup (by assumption) (by k_mem) | exact stays_tup (Fr.keep (by assumption)) (by assumption) | exact stays_tup (Fr.keep (by assumption)) (stays_tup (Fr.keep (by assumption)) (by assumption)))) ?_))) | ((((with_reducible show wpAny _ _ (call (Value.builtin "len") [Value.ref _]) _ _ _); refine Mine.len_tup (by (first | assumption | exact News.isTup (by assumption) (by k_mem) | exact stays_tup (Fr.keep (by assumption)) (by assumption) | exact stays_tup (Fr.keep (by assumption)) (stays_tup (Fr.keep (by assumption)) (by assumption)))) (by first | assumption | (first | exact Nat.le_of_ble_eq_true rfl | (show _ ≤ 2 ^ 24; (try have hlen9 := StrsAre.length (by assumption)); (try simp only [Array.length_toList] at *); omega) | decide)) ?_; intro t2q39 tk2q39))) | ((((with_reducible show wpAny _ _ (binaryOp Operator.Mod (Value.str _ _) (Value.ref _)) _ _ _); refine Mine.mod_pair (by (first | assumption | exact News.isTup (by assumption) (by k_mem) | exact stays_tup (Fr.keep (by assumption)) (by assumption) | exact stays_tup (Fr.keep (by assumption)) (stays_tup (Fr.keep (by assumption)) (by assumption)))) (by omega) (by omega) ?_; intro t2q42 tk2q42))) | ((((with_reducible show wpAny _ _ (binaryOp Operator.Mod (Value.str _ _) (Value.str _ _)) _ _ _); refine Mine.mod_brace (Nat.le_trans (Mine.join_len_le (by decide) (by assumption)) (by decide)) ?_; intro t2q44 tk2q44))) | (k_unfold; (try dsimp only)) | (k_end; wrow_close) | walk1 | (dsimp only; walk1) | (leave1; (try dsimp only))))
  exact hq _ _ _ (by assumption) (by assumption) ⟨_, rfl⟩

end
section
local macro_rules | `(tactic| k_handed) => `(tactic| exact Mine.IsTh.handed (by assumption))
section

/-- a thing as a metavar, but for None, the text that hides and a tuple -/
theorem law_told_T {w : World} {dp un : Nat} {outer : List Env} {gd : Option (List Code)} {base : Heap} {s : Shared} {o : Addr} {v n d c : Value} {t : Th}
   (X : (Mine.hd.heap_39 w.params).In s.heap) (T : TopH s.heap) (B : Below (AA dp outer gd un) base outer s.heap) (hd : dp + 10 < recursionLimit) (hu : un + 100 < cLine)
   (hl : Empty s.heap o) (hx : IsTh s.heap v t) (h1 : t ≠ .none) (h2 : t ≠ .s "==SUPPRESS==") (h3 : t ≠ .tup) :
   codeAny (model P w) (AA dp outer gd un) (.call (.ref 77) ⟨[.ref o, v, n, d, c], []⟩) (Ret s fun r h' => ∃ y, y = v ∧ Told s.heap h' r #[y]) s := by
  refine law_told_ok X T B hd hu ?_
  intro L' h' tk x dd mp k1 k2 k3 k4 k5 mean mg mb QQ EE T' F N hq
  unfold toldScope
  have N' := N
  unfold actLed at N
  have hd8 : dp + 1 + 1 < recursionLimit := by omega
  (repeat' (first | ((((with_reducible show wpAny _ _ (truthy (Value.ref _)) _ _ _); first | (refine Mine.truthy_list_ne (by (first | assumption | exact News.isList (by assumption) (by k_mem) | exact stays_list (Fr.keep (by assumption)) (by assumption) | exact stays_list (Fr.keep (by assumption)) (stays_list (Fr.keep (by assumption)) (by assumption)))) (by assumption) (by assumption) (by omega) ?_; intro tk1q46) | (refine Mine.truthy_list_nil (by (first | assumption | exact News.isList (by assumption) (by k_mem) | exact stays_list (Fr.keep (by assumption)) (by assumption) | exact stays_list (Fr.keep (by assumption)) (stays_list (Fr.keep (by assumption)) (by assumption)))) ?_; intro tk1q46) | (refine Mine.truthy_tup_nil (by (first | assumption | exact News.isTup (by assumption) (by k_mem) | exact stays_tup (Fr.keep (by assumption)) (by assumption) | exact stays_tup (Fr.keep (by assumption)) (stays_tup (Fr.keep (by assumption)) (by assumption)))) ?_; intro tk1q46) | (refine Mine.truthy_empty (by (first | assumption | exact Or.inl (News.isList (by assumption) (by k_mem)) | exact Or.inr (News.isTup (by assumption) (by k_mem)) | exact Mine.Empty.keeps (Fr.keep (by assumption)) (by assumption) | exact Mine.Empty.keeps (Fr.keep (by assumption)) (Mine.Empty.keeps (Fr.keep (by assumption)) (by assumption)))) ?_; intro tk1q46)))) | ((((with_reducible show wpAny _ _ (compareOp CmpOp.NotIn Value.none (Value.ref _)) _ _ _); refine Mine.notin_sup_none (by (first | assumption | exact News.isTup (by assumption) (by k_mem) | exact stays_tup (Fr.keep (by assumption)) (by assumption) | exact stays_tup (Fr.keep (by assumption)) (stays_tup (Fr.keep (by assumption)) (by assumption)))) ?_))) | ((((with_reducible show wpAny _ _ (compareOp CmpOp.NotIn _ (Value.ref _)) _ _ _); refine Mine.notin_sup_hidden (by (first | assumption | exact News.isTup (by assumption) (by k_mem) | exact stays_tup (Fr.keep (by assumption)) (by assumption) | exact stays_tup (Fr.keep (by assumption)) (stays_tup (Fr.keep (by assumption)) (by assumption)))) (by first | assumption | exact Mine.Hidden.none | exact Mine.Hidden.sup) ?_))) | ((((with_reducible show wpAny _ _ (compareOp CmpOp.NotIn _ (Value.ref _)) _ _ _); refine Mine.notin_thing (by (first | assumption | exact News.isTup (by assumption) (by k_mem) | exact stays_tup (Fr.keep (by assumption)) (by assumption) | exact stays_tup (Fr.keep (by assumption)) (stays_tup (Fr.keep (by assumption)) (by assumption)))) (by (first | (with_reducible assumption) | exact Mine.IsTh.keeps (Fr.keep (by assumption)) (by with_reducible assumption) | exact Mine.IsTh.keeps (Fr.keep (by assumption)) (Mine.IsTh.keeps (Fr.keep (by assumption)) (by with_reducible assumption)))) (by assumption) (by assumption) (by ktr_units) ?_))) | ((((with_reducible show wpAny _ _ (call (Value.builtin "isinstance") [_, Value.type "tuple"]) _ _ _); refine Mine.isi_thing (by exact Frag.In.keeps (by assumption) (Fr.keep (by assumption))) (by (first | (with_reducible assumption) | exact Mine.IsTh.keeps (Fr.keep (by assumption)) (by with_reducible assumption) | exact Mine.IsTh.keeps (Fr.keep (by assumption)) (Mine.IsTh.keeps (Fr.keep (by assumption)) (by with_reducible assumption)))) (by assumption) ?_; intro tk3q58))) | (k_unfold; (try dsimp only)) | (k_end; wrow_close) | walk1 | (dsimp only; walk1) | (leave1; (try dsimp only))))
  rename News _ _ _ _ => N9
  exact hq _ _ _ (by assumption) (fun p hp => N9 p (by repeat' (first | exact hp | refine List.Mem.tail _ ?_))) rfl
/-- a thing as a dest, the metavar hidden -/
theorem law_told_D {w : World} {dp un : Nat} {outer : List Env} {gd : Option (List Code)} {base : Heap} {s : Shared} {o : Addr} {m v n c : Value} {t : Th}
   (X : (Mine.hd.heap_39 w.params).In s.heap) (T : TopH s.heap) (B : Below (AA dp outer gd un) base outer s.heap) (hd : dp + 10 < recursionLimit) (hu : un + 100 < cLine)
   (hl : Empty s.heap o) (hm : Hidden m) (hx : IsTh s.heap v t) (h1 : t ≠ .none) (h2 : t ≠ .s "==SUPPRESS==") :
   codeAny (model P w) (AA dp outer gd un) (.call (.ref 77) ⟨[.ref o, m, n, v, c], []⟩) (Ret s fun r h' => ∃ y, y = v ∧ Told s.heap h' r #[y]) s := by
  refine law_told_ok X T B hd hu ?_
  intro L' h' tk x dd mp k1 k2 k3 k4 k5 mean mg mb QQ EE T' F N hq
  unfold toldScope
  have N' := N
  unfold actLed at N
  have hd8 : dp + 1 + 1 < recursionLimit := by omega
  (repeat' (first | ((((with_reducible show wpAny _ _ (truthy (Value.ref _)) _ _ _); first | (refine Mine.truthy_list_ne (by (first | assumption | exact News.isList (by assumption) (by k_mem) | exact stays_list (Fr.keep (by assumption)) (by assumption) | exact stays_list (Fr.keep (by assumption)) (stays_list (Fr.keep (by assumption)) (by assumption)))) (by assumption) (by assumption) (by omega) ?_; intro tk1q61) | (refine Mine.truthy_list_nil (by (first | assumption | exact News.isList (by assumption) (by k_mem) | exact stays_list (Fr.keep (by assumption)) (by assumption) | exact stays_list (Fr.keep (by assumption)) (stays_list (Fr.keep (by assumption)) (by assumption)))) ?_; intro tk1q61) | (refine Mine.truthy_tup_nil (by (first | assumption | exact News.isTup (by assumption) (by k_mem) | exact stays_tup (Fr.keep (by assumption)) (by assumption) | exact stays_tup (Fr.keep (by assumption)) (stays_tup (Fr.keep (by assumption)) (by assumption)))) ?_; intro tk1q61) | (refine Mine.truthy_empty (by (first | assumption | exact Or.inl (News.isList (by assumption) (by k_mem)) | exact Or.inr (News.isTup (by assumption) (by k_mem)) | exact Mine.Empty.keeps (Fr.keep (by assumption)) (by assumption) | exact Mine.Empty.keeps (Fr.keep (by assumption)) (Mine.Empty.keeps (Fr.keep (by assumption)) (by assumption)))) ?_; intro tk1q61)))) | ((((with_reducible show wpAny _ _ (compareOp CmpOp.NotIn Value.none (Value.ref _)) _ _ _); refine Mine.notin_sup_none (by (first | assumption | exact News.isTup (by assumption) (by k_mem) | exact stays_tup (Fr.keep (by assumption)) (by assumption) | exact stays_tup (Fr.keep (by assumption)) (stays_tup (Fr.keep (by assumption)) (by assumption)))) ?_))) | ((((with_reducible show wpAny _ _ (compareOp CmpOp.NotIn _ (Value.ref _)) _ _ _); refine Mine.notin_sup_hidden (by (first | assumption | exact News.isTup (by assumption) (by k_mem) | exact stays_tup (Fr.keep (by assumption)) (by assumption) | exact stays_tup (Fr.keep (by assumption)) (stays_tup (Fr.keep (by assumption)) (by assumption)))) (by first | assumption | exact Mine.Hidden.none | exact Mine.Hidden.sup) ?_))) | ((((with_reducible show wpAny _ _ (compareOp CmpOp.NotIn _ (Value.ref _)) _ _ _); refine Mine.notin_thing (by (first | assumption | exact News.isTup (by assumption) (by k_mem) | exact stays_tup (Fr.keep (by assumption)) (by assumption) | exact stays_tup (Fr.keep (by assumption)) (stays_tup (Fr.keep (by assumption)) (by assumption)))) (by (first | (with_reducible assumption) | exact Mine.IsTh.keeps (Fr.keep (by assumption)) (by with_reducible assumption) | exact Mine.IsTh.keeps (Fr.keep (by assumption)) (Mine.IsTh.keeps (Fr.keep (by assumption)) (by with_reducible assumption)))) (by assumption) (by assumption) (by ktr_units) ?_))) | ((((with_reducible show wpAny _ _ (call (Value.builtin "isinstance") [_, Value.type "tuple"]) _ _ _); refine Mine.isi_thing (by exact Frag.In.keeps (by assumption) (Fr.keep (by assumption))) (by (first | (with_reducible assumption) | exact Mine.IsTh.keeps (Fr.keep (by assumption)) (by with_reducible assumption) | exact Mine.IsTh.keeps (Fr.keep (by assumption)) (Mine.IsTh.keeps (Fr.keep (by assumption)) (by with_reducible assumption)))) (by assumption) ?_; intro tk3q73))) | (k_unfold; (try dsimp only)) | (k_end; wrow_close) | walk1 | (dsimp only; walk1) | (leave1; (try dsimp only))))
  rename News _ _ _ _ => N9
  exact hq _ _ _ (by assumption) (fun p hp => N9 p (by repeat' (first | exact hp | refine List.Mem.tail _ ?_))) rfl

end
section

/-- a tuple of texts as a metavar, joined -/
theorem law_told_F {w : World} {dp un : Nat} {outer : List Env} {gd : Option (List Code)} {base : Heap} {s : Shared} {o m : Addr} {n d c : Value} {items : Array Value} {texts : List Str}
   (X : (Mine.hd.heap_39 w.params).In s.heap) (T : TopH s.heap) (B : Below (AA dp outer gd un) base outer s.heap) (hd : dp + 10 < recursionLimit) (hu : un + 100 < cLine)
   (hl0 : Empty s.heap o) (hl : IsTup s.heap m items) (hi : StrsAre items.toList texts) (hw : (texts.map (·.length)).sum + texts.length ≤ 100000) (hn : n = .none ∨ (∃ i t, n = .int i t) ∨ (∃ x t, n = .str x t ∧ x ≠ "+" ∧ (x = "*" → texts.length ≠ 2))) :
   codeAny (model P w) (AA dp outer gd un) (.call (.ref 77) ⟨[.ref o, .ref m, n, d, c], []⟩) (Ret s fun r h' => ∃ y, (∃ t, y = .str (Txt.join ", " texts) t) ∧ Told s.heap h' r #[y]) s := by
  refine law_told_ok X T B hd hu ?_
  intro L' h' tk x dd mp k1 k2 k3 k4 k5 mean mg mb QQ EE T' F N hq
  unfold toldScope
  have N' := N
  unfold actLed at N
  have hd8 : dp + 1 + 1 < recursionLimit := by omega
  (repeat' (first | ((((with_reducible show wpAny _ _ (truthy (Value.ref _)) _ _ _); first | (refine Mine.truthy_list_ne (by (first | assumption | exact News.isList (by assumption) (by k_mem) | exact stays_list (Fr.keep (by assumption)) (by assumption) | exact stays_list (Fr.keep (by assumption)) (stays_list (Fr.keep (by assumption)) (by assumption)))) (by assumption) (by assumption) (by omega) ?_; intro tk1q76) | (refine Mine.truthy_list_nil (by (first | assumption | exact News.isList (by assumption) (by k_mem) | exact stays_list (Fr.keep (by assumption)) (by assumption) | exact stays_list (Fr.keep (by assumption)) (stays_list (Fr.keep (by assumption)) (by assumption)))) ?_; intro tk1q76) | (refine Mine.truthy_tup_nil (by (first | assumption | exact News.isTup (by assumption) (by k_mem) | exact stays_tup (Fr.keep (by assumption)) (by assumption) | exact stays_tup (Fr.keep (by assumption)) (stays_tup (Fr.keep (by assumption)) (by assumption)))) ?_; intro tk1q76) | (refine Mine.truthy_empty (by (first | assumption | exact Or.inl (News.isList (by assumption) (by k_mem)) | exact Or.inr (News.isTup (by assumption) (by k_mem)) | exact Mine.Empty.keeps (Fr.keep (by assumption)) (by assumption) | exact Mine.Empty.keeps (Fr.keep (by assumption)) (Mine.Empty.keeps (Fr.keep (by assumption)) (by assumption)))) ?_; intro tk1q76)))) | ((((with_reducible show wpAny _ _ (call (Value.builtin "str.join") [Value.str _ _, Value.ref _]) _ _ _); first | (refine join_listW (by (first | assumption | exact News.isList (by assumption) (by k_mem) | exact stays_list (Fr.keep (by assumption)) (by assumption) | exact stays_list (Fr.keep (by assumption)) (stays_list (Fr.keep (by assumption)) (by assumption)))) (by assumption) (by decide) (Mine.le_big (by assumption)) ?_; intro t2q81 tk2q81) | (refine join_tupleW (by (first | assumption | exact News.isTup (by assumption) (by k_mem) | exact stays_tup (Fr.keep (by assumption)) (by assumption) | exact stays_tup (Fr.keep (by assumption)) (stays_tup (Fr.keep (by assumption)) (by assumption)))) (by assumption) (by decide) (Mine.le_big (by assumption)) ?_; intro t2q81 tk2q81)))) | ((((with_reducible show wpAny _ _ (compareOp CmpOp.NotIn (Value.str _ _) (Value.ref _)) _ _ _); first | refine Mine.notin_sup_same (by (first | assumption | exact News.isTup (by assumption) (by k_mem) | exact stays_tup (Fr.keep (by assumption)) (by assumption) | exact stays_tup (Fr.keep (by assumption)) (stays_tup (Fr.keep (by assumption)) (by assumption)))) ?_ | refine Mine.notin_sup_str (by (first | assumption | exact News.isTup (by assumption) (by k_mem) | exact stays_tup (Fr.keep (by assumption)) (by assumption) | exact stays_tup (Fr.keep (by assumption)) (stays_tup (Fr.keep (by assumption)) (by assumption)))) (by assumption) ?_))) | ((((with_reducible show wpAny _ _ (compareOp CmpOp.NotIn Value.none (Value.ref _)) _ _ _); refine Mine.notin_sup_none (by (first | assumption | exact News.isTup (by assumption) (by k_mem) | exact stays_tup (Fr.keep (by assumption)) (by assumption) | exact stays_tup (Fr.keep (by assumption)) (stays_tup (Fr.keep (by assumption)) (by assumption)))) ?_))) | ((((with_reducible show wpAny _ _ (compareOp CmpOp.NotIn (Value.ref _) (Value.ref _)) _ _ _); refine Mine.notin_sup_tup (by (first | assumption | exact News.isTup (by assumption) (by k_mem) | exact stays_tup (Fr.keep (by assumption)) (by assumption) | exact stays_tup (Fr.keep (by assumption)) (stays_tup (Fr.keep (by assumption)) (by assumption)))) (by (first | assumption | exact News.isTup (by assumption) (by k_mem) | exact stays_tup (Fr.keep (by assumption)) (by assumption) | exact stays_tup (Fr.keep (by assumption)) (stays_tup (Fr.keep (by assumption)) (by assumption)))) (by ktr_units) ?_))) | ((((with_reducible show wpAny _ _ (compareOp CmpOp.NotIn _ (Value.ref _)) _ _ _); refine Mine.notin_sup_hidden (by (first | assumption | exact News.isTup (by assumption) (by k_mem) | exact stays_tup (Fr.keep (by assumption)) (by assumption) | exact stays_tup (Fr.keep (by assumption)) (stays_tup (Fr.keep (by assumption)) (by assumption)))) (by first | assumption | exact Mine.Hidden.none | exact Mine.Hidden.sup) ?_))) | ((((with_reducible show wpAny _ _ (call (Value.builtin "isinstance") [Value.ref _, Value.type "tuple"]) _ _ _); refine Mine.isi_tuple (by (first | assumption | exact News.isTup (by assumption) (by k_mem) | exact stays_tup (Fr.keep (by assumption)) (by assumption) | exact stays_tup (Fr.keep (by assumption)) (stays_tup (Fr.keep (by assumption)) (by assumption)))) ?_))) | ((((with_reducible show wpAny _ _ (call (Value.builtin "len") [Value.ref _]) _ _ _); refine Mine.len_tup (by (first | assumption | exact News.isTup (by assumption) (by k_mem) | exact stays_tup (Fr.keep (by assumption)) (by assumption) | exact stays_tup (Fr.keep (by assumption)) (stays_tup (Fr.keep (by assumption)) (by assumption)))) (by first | assumption | (first | exact Nat.le_of_ble_eq_true rfl | (show _ ≤ 2 ^ 24; (try have hlen9 := StrsAre.length (by assumption)); (try simp only [Array.length_toList] at *); omega) | decide)) ?_; intro t2q96 tk2q96))) | ((((with_reducible show wpAny _ _ (binaryOp Operator.Mod (Value.str _ _) (Value.ref _)) _ _ _); refine Mine.mod_pair (by (first | assumption | exact News.isTup (by assumption) (by k_mem) | exact stays_tup (Fr.keep (by assumption)) (by assumption) | exact stays_tup (Fr.keep (by assumption)) (stays_tup (Fr.keep (by assumption)) (by assumption)))) (by omega) (by omega) ?_; intro t2q99 tk2q99))) | ((((with_reducible show wpAny _ _ (binaryOp Operator.Mod (Value.str _ _) (Value.str _ _)) _ _ _); refine Mine.mod_brace (Nat.le_trans (Mine.join_len_le (by decide) (by assumption)) (by decide)) ?_; intro t2q101 tk2q101))) | (k_unfold; (try dsimp only)) | (k_end; wrow_close) | walk1 | (dsimp only; walk1) | (leave1; (try dsimp only))))
  rcases hn with rfl | ⟨i, ti, rfl⟩ | ⟨x, tx, rfl, hx1, hx2⟩
  all_goals (repeat' (first | ((((with_reducible show wpAny _ _ (truthy (Value.ref _)) _ _ _); first | (refine Mine.truthy_list_ne (by (first | assumption | exact News.isList (by assumption) (by k_mem) | exact stays_list (Fr.keep (by assumption)) (by assumption) | exact stays_list (Fr.keep (by assumption)) (stays_list (Fr.keep (by assumption)) (by assumption)))) (by assumption) (by assumption) (by omega) ?_; intro tk1q103) | (refine Mine.truthy_list_nil (by (first | assumption | exact News.isList (by assumption) (by k_mem) | exact stays_list (Fr.keep (by assumption)) (by assumption) | exact stays_list (Fr.keep (by assumption)) (stays_list (Fr.keep (by assumption)) (by assumption)))) ?_; intro tk1q103) | (refine Mine.truthy_tup_nil (by (first | assumption | exact News.isTup (by assumption) (by k_mem) | exact stays_tup (Fr.keep (by assumption)) (by assumption) | exact stays_tup (Fr.keep (by assumption)) (stays_tup (Fr.keep (by assumption)) (by assumption)))) ?_; intro tk1q103) | (refine Mine.truthy_empty (by (first | assumption | exact Or.inl (News.isList (by assumption) (by k_mem)) | exact Or.inr (News.isTup (by assumption) (by k_mem)) | exact Mine.Empty.keeps (Fr.keep (by assumption)) (by assumption) | exact Mine.Empty.keeps (Fr.keep (by assumption)) (Mine.Empty.keeps (Fr.keep (by assumption)) (by assumption)))) ?_; intro tk1q103)))) | ((((with_reducible show wpAny _ _ (call (Value.builtin "str.join") [Value.str _ _, Value.ref _]) _ _ _); first | (refine join_listW (by (first | assumption | exact News.isList (by assumption) (by k_mem) | exact stays_list (Fr.keep (by assumption)) (by assumption) | exact stays_list (Fr.keep (by assumption)) (stays_list (Fr.keep (by assumption)) (by assumption)))) (by assumption) (by decide) (Mine.le_big (by assumption)) ?_; intro t2q108 tk2q108) | (refine join_tupleW (by (first | assumption | exact News.isTup (by assumption) (by k_mem) | exact stays_tup (Fr.keep (by assumption)) (by assumption) | exact stays_tup (Fr.keep (by assumption)) (stays_tup (Fr.keep (by assumption)) (by assumption)))) (by assumption) (by decide) (Mine.le_big (by assumption)) ?_; intro t2q108 tk2q108)))) | ((((with_reducible show wpAny _ _ (compareOp CmpOp.NotIn (Value.str _ _) (Value.ref _)) _ _ _); first | refine Mine.notin_sup_same (by (first | assumption | exact News.isTup (by assumption) (by k_mem) | exact stays_tup (Fr.keep (by assumption)) (by assumption) | exact stays_tup (Fr.keep (by assumption)) (stays_tup (Fr.keep (by assumption)) (by assumption)))) ?_ | refine Mine.notin_sup_str (by (first | assumption | exact News.isTup (by assumption) (by k_mem) | exact stays_tup (Fr.keep (by assumption)) (by assumption) | exact stays_tup (Fr.keep (by assumption)) (stays_tup (Fr.keep (by assumption)) (by assumption)))) (by assumption) ?_))) | ((((with_reducible show wpAny _ _ (compareOp CmpOp.NotIn Value.none (Value.ref _)) _ _ _); refine Mine.notin_sup_none (by (first | assumption | exact News.isTup (by assumption) (by k_mem) | exact stays_tup (Fr.keep (by assumption)) (by assumption) | exact stays_tup (Fr.keep (by assumption)) (stays_tup (Fr.keep (by assumption)) (by assumption)))) ?_))) | ((((with_reducible show wpAny _ _ (compareOp CmpOp.NotIn (Value.ref _) (Value.ref _)) _ _ _); refine Mine.notin_sup_tup (by (first | assumption | exact News.isTup (by assumption) (by k_mem) | exact stays_tup (Fr.keep (by assumption)) (by assumption) | exact stays_tup (Fr.keep (by assumption)) (stays_tup (Fr.keep (by assumption)) (by assumption)))) (by (first | assumption | exact News.isTup (by assumption) (by k_mem) | exact stays_tup (Fr.keep (by assumption)) (by assumption) | exact stays_tup (Fr.keep (by assumption)) (stays_tup (Fr.keep (by assumption)) (by assumption)))) (by ktr_units) ?_))) | ((((with_reducible show wpAny _ _ (compareOp CmpOp.NotIn _ (Value.ref _)) _ _ _); refine Mine.notin_sup_hidden (by (first | assumption | exact News.isTup (by assumption) (by k_mem) | exact stays_tup (Fr.keep (by assumption)) (by assumption) | exact stays_tup (Fr.keep (by assumption)) (stays_tup (Fr.keep (by assumption)) (by assumption)))) (by first | assumption | exact Mine.Hidden.none | exact Mine.Hidden.sup) ?_))) | ((((with_reducible show wpAny _ _ (call (Value.builtin "isinstance") [Value.ref _, Value.type "tuple"]) _ _ _); refine Mine.isi_tuple (by (first | assumption | exact News.isTup (by assumption) (by k_mem) | exact stays_tup (Fr.keep (by assumption)) (by assumption) | exact stays_tup (Fr.keep (by assumption)) (stays_tup (Fr.keep (by assumption)) (by assumption)))) ?_))) | ((((with_reducible show wpAny _ _ (call (Value.builtin "len") [Value.ref _]) _ _ _); refine Mine.len_tup (by (first | assumption | exact News.isTup (by assumption) (by k_mem) | exact stays_tup (Fr.keep (by assumption)) (by assumption) | exact stays_tup (Fr.keep (by assumption)) (stays_tup (Fr.keep (by assumption)) (by assumption)))) (by first | assumption | (first | exact Nat.le_of_ble_eq_true rfl | (show _ ≤ 2 ^ 24; (try have hlen9 := StrsAre.length (by assumption)); (try simp only [Array.length_toList] at *); omega) | decide)) ?_; intro t2q123 tk2q123))) | ((((with_reducible show wpAny _ _ (binaryOp Operator.Mod (Value.str _ _) (Value.ref _)) _ _ _); refine Mine.mod_pair (by (first | assumption | exact News.isTup (by assumption) (by k_mem) | exact stays_tup (Fr.keep (by assumption)) (by assumption) | exact stays_tup (Fr.keep (by assumption)) (stays_tup (Fr.keep (by assumption)) (by assumption)))) (by omega) (by omega) ?_; intro t2q126 tk2q126))) | ((((with_reducible show wpAny _ _ (binaryOp Operator.Mod (Value.str _ _) (Value.str _ _)) _ _ _); refine Mine.mod_brace (Nat.le_trans (Mine.join_len_le (by decide) (by assumption)) (by decide)) ?_; intro t2q128 tk2q128))) | (k_unfold; (try dsimp only)) | (k_end; wrow_close) | walk1 | (dsimp only; walk1) | (leave1; (try dsimp only))))
  all_goals first | (rename News _ _ _ _ => N9; exact hq _ _ _ (by assumption) (fun p hp => N9 p (by repeat' (first | exact hp | refine List.Mem.tail _ ?_))) ⟨_, rfl⟩) | skip
  all_goals exfalso
  all_goals (rename @Eq Bool _ true => ha)
  all_goals first | exact hx1 (eq_of_beq ha) | (rename @Eq Int _ 2 => hb; have hlen := StrsAre.length hi; rw [Array.length_toList] at hlen; exact hx2 (eq_of_beq ha) (by omega))

end
section

/-- the choices, each as its text -/
theorem law_told_C {w : World} {dp un : Nat} {outer : List Env} {base : Heap} {s : Shared} {o c : Addr} {m n d : Value} {items : Array Value} {ths : List Th}
   (X : (Mine.hd.heap_39 w.params).In s.heap) (T : TopH s.heap) (B : Below (AA dp outer (some []) un) base outer s.heap) (hd : dp + 10 < recursionLimit) (hu : un + 100 < cLine)
   (hl0 : Empty s.heap o) (hm : Hidden m) (hdd : Hidden d) (hl : s.heap.IsList c items) (hi : ThsAre s.heap items.toList ths) (hne : ths ≠ []) (hlen : ths.length ≤ 1000) (hn : ∀ i, Th.n i ∈ ths → i.natAbs.log2 < 1920) (hsys : SysOk s.heap) (hw : ((ths.map Th.shown).map (·.length)).sum + (ths.map Th.shown).length ≤ 100000) :
   codeAny (model P w) (AA dp outer (some []) un) (.call (.ref 77) ⟨[.ref o, m, n, d, .ref c], []⟩) (Ret s fun r h' => ∃ y, (∃ t, y = .str ("{" ++ Txt.join "," (ths.map Th.shown) ++ "}") t) ∧ Told s.heap h' r #[y]) s := by
  refine law_told_ok X T B hd hu ?_
  intro L' h' tk x dd mp k1 k2 k3 k4 k5 mean mg mb QQ EE T' F N hq
  unfold toldScope
  have N' := N
  unfold actLed at N
  have hd8 : dp + 1 + 1 < recursionLimit := by omega
  (repeat' (first | ((((with_reducible show wpAny _ _ (truthy (Value.ref _)) _ _ _); refine Mine.truthy_ths (by (first | assumption | exact News.isList (by assumption) (by k_mem) | exact stays_list (Fr.keep (by assumption)) (by assumption) | exact stays_list (Fr.keep (by assumption)) (stays_list (Fr.keep (by assumption)) (by assumption)))) (by assumption) (by assumption) (by assumption) ?_; intro tk3q130))) | ((((with_reducible show wpAny _ _ (truthy (Value.ref _)) _ _ _); first | (refine Mine.truthy_list_ne (by (first | assumption | exact News.isList (by assumption) (by k_mem) | exact stays_list (Fr.keep (by assumption)) (by assumption) | exact stays_list (Fr.keep (by assumption)) (stays_list (Fr.keep (by assumption)) (by assumption)))) (by assumption) (by assumption) (by omega) ?_; intro tk1q132) | (refine Mine.truthy_list_nil (by (first | assumption | exact News.isList (by assumption) (by k_mem) | exact stays_list (Fr.keep (by assumption)) (by assumption) | exact stays_list (Fr.keep (by assumption)) (stays_list (Fr.keep (by assumption)) (by assumption)))) ?_; intro tk1q132) | (refine Mine.truthy_tup_nil (by (first | assumption | exact News.isTup (by assumption) (by k_mem) | exact stays_tup (Fr.keep (by assumption)) (by assumption) | exact stays_tup (Fr.keep (by assumption)) (stays_tup (Fr.keep (by assumption)) (by assumption)))) ?_; intro tk1q132) | (refine Mine.truthy_empty (by (first | assumption | exact Or.inl (News.isList (by assumption) (by k_mem)) | exact Or.inr (News.isTup (by assumption) (by k_mem)) | exact Mine.Empty.keeps (Fr.keep (by assumption)) (by assumption) | exact Mine.Empty.keeps (Fr.keep (by assumption)) (Mine.Empty.keeps (Fr.keep (by assumption)) (by assumption)))) ?_; intro tk1q132)))) | ((((with_reducible show wpAny _ _ (compareOp CmpOp.NotIn Value.none (Value.ref _)) _ _ _); refine Mine.notin_sup_none (by (first | assumption | exact News.isTup (by assumption) (by k_mem) | exact stays_tup (Fr.keep (by assumption)) (by assumption) | exact stays_tup (Fr.keep (by assumption)) (stays_tup (Fr.keep (by assumption)) (by assumption)))) ?_))) | ((((with_reducible show wpAny _ _ (compareOp CmpOp.NotIn _ (Value.ref _)) _ _ _); refine Mine.notin_sup_hidden (by (first | assumption | exact News.isTup (by assumption) (by k_mem) | exact stays_tup (Fr.keep (by assumption)) (by assumption) | exact stays_tup (Fr.keep (by assumption)) (stays_tup (Fr.keep (by assumption)) (by assumption)))) (by first | assumption | exact Mine.Hidden.none | exact Mine.Hidden.sup) ?_))) | ((((with_reducible show wpAny _ _ (call (Value.type "map") [Value.type "str", Value.ref _]) _ _ _); refine Mine.map_N (by assumption) (by assumption) (by (first | assumption | exact News.isList (by assumption) (by k_mem) | exact stays_list (Fr.keep (by assumption)) (by assumption) | exact stays_list (Fr.keep (by assumption)) (stays_list (Fr.keep (by assumption)) (by assumption)))) ?_; intro h1q141 z1q141 F1q141 N1q141 MR1q141))) | ((((with_reducible show wpAny _ _ (call (Value.builtin "str.join") [Value.str _ _, Value.ref _]) _ _ _); refine Mine.join_map_T (by assumption) (by assumption) (by assumption) rfl (by (first | (with_reducible assumption) | exact Mine.ThsAre.keeps (Fr.keep (by assumption)) (by with_reducible assumption) | exact Mine.ThsAre.keeps (Fr.keep (by assumption)) (Mine.ThsAre.keeps (Fr.keep (by assumption)) (by with_reducible assumption)))) (by assumption) (by (first | (with_reducible assumption) | exact Mine.SysOk.keeps (Fr.keep (by assumption)) (by with_reducible assumption))) rfl (by ktr_units) (by decide) (Mine.le_big (by assumption)) ?_; intro h2q143 t2q143 tk2q143 F2q143 N2q143))) | ((((with_reducible show wpAny _ _ (binaryOp Operator.Mod (Value.str _ _) (Value.str _ _)) _ _ _); refine Mine.mod_brace (Nat.le_trans (Mine.join_len_le (by decide) (by assumption)) (by decide)) ?_; intro t2q146 tk2q146))) | (k_unfold; (try dsimp only)) | (k_end; wrow_close) | walk1 | (dsimp only; walk1) | (leave1; (try dsimp only))))
  rename News _ _ _ _ => N9
  exact hq _ _ _ (by assumption) (fun p hp => N9 p (by repeat' (first | exact hp | refine List.Mem.tail _ ?_))) ⟨_, rfl⟩

end
section

/-- nothing that names it -/
theorem law_told_N {w : World} {dp un : Nat} {outer : List Env} {gd : Option (List Code)} {base : Heap} {s : Shared} {o c : Addr} {m n d : Value}
   (X : (Mine.hd.heap_39 w.params).In s.heap) (T : TopH s.heap) (B : Below (AA dp outer gd un) base outer s.heap) (hd : dp + 10 < recursionLimit) (hu : un + 100 < cLine)
   (hl0 : Empty s.heap o) (hm : Hidden m) (hdd : Hidden d) (hl : Empty s.heap c) :
   codeAny (model P w) (AA dp outer gd un) (.call (.ref 77) ⟨[.ref o, m, n, d, .ref c], []⟩) (Ret s fun r h' => ∃ y, y = .none ∧ Told s.heap h' r #[y]) s := by
  refine law_told_ok X T B hd hu ?_
  intro L' h' tk x dd mp k1 k2 k3 k4 k5 mean mg mb QQ EE T' F N hq
  unfold toldScope
  have N' := N
  unfold actLed at N
  have hd8 : dp + 1 + 1 < recursionLimit := by omega
  (repeat' (first | ((((with_reducible show wpAny _ _ (truthy (Value.ref _)) _ _ _); refine Mine.truthy_ths (by (first | assumption | exact News.isList (by assumption) (by k_mem) | exact stays_list (Fr.keep (by assumption)) (by assumption) | exact stays_list (Fr.keep (by assumption)) (stays_list (Fr.keep (by assumption)) (by assumption)))) (by assumption) (by assumption) (by assumption) ?_; intro tk3q148))) | ((((with_reducible show wpAny _ _ (truthy (Value.ref _)) _ _ _); first | (refine Mine.truthy_list_ne (by (first | assumption | exact News.isList (by assumption) (by k_mem) | exact stays_list (Fr.keep (by assumption)) (by assumption) | exact stays_list (Fr.keep (by assumption)) (stays_list (Fr.keep (by assumption)) (by assumption)))) (by assumption) (by assumption) (by omega) ?_; intro tk1q150) | (refine Mine.truthy_list_nil (by (first | assumption | exact News.isList (by assumption) (by k_mem) | exact stays_list (Fr.keep (by assumption)) (by assumption) | exact stays_list (Fr.keep (by assumption)) (stays_list (Fr.keep (by assumption)) (by assumption)))) ?_; intro tk1q150) | (refine Mine.truthy_tup_nil (by (first | assumption | exact News.isTup (by assumption) (by k_mem) | exact stays_tup (Fr.keep (by assumption)) (by assumption) | exact stays_tup (Fr.keep (by assumption)) (stays_tup (Fr.keep (by assumption)) (by assumption)))) ?_; intro tk1q150) | (refine Mine.truthy_empty (by (first | assumption | exact Or.inl (News.isList (by assumption) (by k_mem)) | exact Or.inr (News.isTup (by assumption) (by k_mem)) | exact Mine.Empty.keeps (Fr.keep (by assumption)) (by assumption) | exact Mine.Empty.keeps (Fr.keep (by assumption)) (Mine.Empty.keeps (Fr.keep (by assumption)) (by assumption)))) ?_; intro tk1q150)))) | ((((with_reducible show wpAny _ _ (compareOp CmpOp.NotIn Value.none (Value.ref _)) _ _ _); refine Mine.notin_sup_none (by (first | assumption | exact News.isTup (by assumption) (by k_mem) | exact stays_tup (Fr.keep (by assumption)) (by assumption) | exact stays_tup (Fr.keep (by assumption)) (stays_tup (Fr.keep (by assumption)) (by assumption)))) ?_))) | ((((with_reducible show wpAny _ _ (compareOp CmpOp.NotIn _ (Value.ref _)) _ _ _); refine Mine.notin_sup_hidden (by (first | assumption | exact News.isTup (by assumption) (by k_mem) | exact stays_tup (Fr.keep (by assumption)) (by assumption) | exact stays_tup (Fr.keep (by assumption)) (stays_tup (Fr.keep (by assumption)) (by assumption)))) (by first | assumption | exact Mine.Hidden.none | exact Mine.Hidden.sup) ?_))) | ((((with_reducible show wpAny _ _ (call (Value.type "map") [Value.type "str", Value.ref _]) _ _ _); refine Mine.map_N (by assumption) (by assumption) (by (first | assumption | exact News.isList (by assumption) (by k_mem) | exact stays_list (Fr.keep (by assumption)) (by assumption) | exact stays_list (Fr.keep (by assumption)) (stays_list (Fr.keep (by assumption)) (by assumption)))) ?_; intro h1q159 z1q159 F1q159 N1q159 MR1q159))) | ((((with_reducible show wpAny _ _ (call (Value.builtin "str.join") [Value.str _ _, Value.ref _]) _ _ _); refine Mine.join_map_T (by assumption) (by assumption) (by assumption) rfl (by (first | (with_reducible assumption) | exact Mine.ThsAre.keeps (Fr.keep (by assumption)) (by with_reducible assumption) | exact Mine.ThsAre.keeps (Fr.keep (by assumption)) (Mine.ThsAre.keeps (Fr.keep (by assumption)) (by with_reducible assumption)))) (by assumption) (by (first | (with_reducible assumption) | exact Mine.SysOk.keeps (Fr.keep (by assumption)) (by with_reducible assumption))) rfl (by ktr_units) (by decide) (Mine.le_big (by assumption)) ?_; intro h2q161 t2q161 tk2q161 F2q161 N2q161))) | ((((with_reducible show wpAny _ _ (binaryOp Operator.Mod (Value.str _ _) (Value.str _ _)) _ _ _); refine Mine.mod_brace (Nat.le_trans (Mine.join_len_le (by decide) (by assumption)) (by decide)) ?_; intro t2q164 tk2q164))) | (k_unfold; (try dsimp only)) | (k_end; wrow_close) | walk1 | (dsimp only; walk1) | (leave1; (try dsimp only))))
  rename News _ _ _ _ => N9
  exact hq _ _ _ (by assumption) (fun p hp => N9 p (by repeat' (first | exact hp | refine List.Mem.tail _ ?_))) rfl

end
end
section
/-- h' has all that h has, but for the slots of the frames fs -/
def Grown (fs : List Addr) (h h' : Heap) : Prop := ∃ g, W.KtsTurn fs h g ∧ g.StaysIn h'
theorem Grown.of_stays {fs : List Addr} {h h' : Heap} (k : h.StaysIn h') : Grown fs h h' := ⟨h, .refl, k⟩
/-- all that h has stays, but for slots -/
def Slotted (h h' : Heap) : Prop := ∀ b o, h.get? b = some o → ∃ sl, h'.get? b = some { o with slots := sl }
theorem Grown.slotted {fs : List Addr} {h h' : Heap} (k : Grown fs h h') : Slotted h h' := fun b o e => by
  obtain ⟨g, T, S⟩ := k
  obtain ⟨sl, hs⟩ := T.up e
  exact ⟨sl, S _ _ hs⟩
theorem Slotted.isList {h h' : Heap} {l : Addr} {items : Array Value} (k : Slotted h h') (x : h.IsList l items) : h'.IsList l items := by
  obtain ⟨o, ho, hc, n, hd⟩ := x
  obtain ⟨sl, hs⟩ := k _ _ ho
  exact ⟨_, hs, hc, n, hd⟩
theorem Slotted.isTup {h h' : Heap} {l : Addr} {items : Array Value} (k : Slotted h h') (x : IsTup h l items) : IsTup h' l items := by
  obtain ⟨o, ho, hc, n, hd⟩ := x
  obtain ⟨sl, hs⟩ := k _ _ ho
  exact ⟨_, hs, hc, n, hd⟩
theorem IsTh.slots {h h' : Heap} {v : Value} {t : Th} (k : Slotted h h') (x : IsTh h v t) : IsTh h' v t := by
  cases x with
  | s x t => exact .s x t
  | n i t => exact .n i t
  | none => exact .none
  | b c => exact .b c
  | lst ho hc hd => obtain ⟨sl, hs⟩ := k _ _ ho; exact .lst hs hc hd
  | tup ho => exact .tup (k.isTup ho)
  | dct ho hc hd lo => obtain ⟨sl, hs⟩ := k _ _ ho; exact .dct hs hc hd lo
theorem ThsAre.slots {h h' : Heap} {vs : List Value} {ts : List Th} (k : Slotted h h') (x : ThsAre h vs ts) : ThsAre h' vs ts := by
  induction x with
  | nil => exact .nil
  | cons a _ ih => exact .cons (a.slots k) ih
theorem SysOk.slots {h h' : Heap} (k : Slotted h h') (x : SysOk h) : SysOk h' := trivial
abbrev framesOf (outer : List Env) : List Addr := outer.filterMap (·.frame)
/-- the ground below the frames, and that the frames are dicts -/
structure Gnd (w : World) (base : Heap) (outer : List Env) (h : Heap) : Prop where
  X : (Mine.hd.heap_39 w.params).In base
  T : TopH base
  D : W.KtsDicts (framesOf outer) h
/-- what a call hands back whose callees may have raised -/
def RetS (fs : List Addr) (s : Shared) (Post : Value → Heap → Prop) (r : Result) (s' : Shared) : Prop :=
  ∃ v h' tk, r = .ok (.ret v) ∧ s' = { s with heap := h', toks := tk } ∧ Grown fs s.heap h' ∧ Post v h'
theorem Ret.toS {fs : List Addr} {s : Shared} {Post : Value → Heap → Prop} {r : Result} {s' : Shared} (x : Ret s Post r s') : RetS fs s Post r s' := by
  obtain ⟨v, h', tk, a, b, c, d⟩ := x
  exact ⟨v, h', tk, a, b, .of_stays c, d⟩
theorem Ret.mono {s : Shared} {Post Post' : Value → Heap → Prop} {r : Result} {s' : Shared} (x : Ret s Post r s') (k : ∀ v h, Post v h → Post' v h) : Ret s Post' r s' := by
  obtain ⟨v, h', tk, a, b, c, d⟩ := x
  exact ⟨v, h', tk, a, b, c, k _ _ d⟩
theorem RetS.mono {fs : List Addr} {s : Shared} {Post Post' : Value → Heap → Prop} {r : Result} {s' : Shared} (x : RetS fs s Post r s') (k : ∀ v h, Post v h → Post' v h) : RetS fs s Post' r s' := by
  obtain ⟨v, h', tk, a, b, c, d⟩ := x
  exact ⟨v, h', tk, a, b, c, k _ _ d⟩
theorem retS_of {fs : List Addr} {s s' : Shared} {v : Value} {Post : Value → Heap → Prop} {g : Heap} (T : W.KtsTurn fs s.heap g) (hs : g.StaysIn s'.heap) (hp : Post v s'.heap) (he : s' = { s with heap := s'.heap, toks := s'.toks }) : RetS fs s Post (.ok (.ret v)) s' :=
  ⟨v, s'.heap, s'.toks, rfl, he, ⟨g, T, hs⟩, hp⟩
/-- the call of a def whose callees may have raised, from a frame with frames below it -/
theorem call_S {w : World} {A₀ : Around} {dp un : Nat} {outer : List Env} {gd : Option (List Code)} {base h₀ : Heap} {cn : Str} {cs : Scope} {L a : Addr} {ccd : Value} {s : Shared} {E : Value → Shared → Prop} {Q : Value → Shared → Prop} {m : Str → Option Value} {news : List (Addr × Obj)} {f : Value} {args : List Value} {Post : Value → Heap → Prop}
    (B : Below A₀ base outer h₀) (F : Fr h₀ L s.heap m) (N : News h₀ L s.heap news) (D : Gnd w base outer h₀) (hA : A₀ = AA dp outer gd un) (hk : cs.kind = .function)
    (hc : Below (AA (dp + 1) (envOf cn cs L a ccd :: outer) gd (un + 3)) base (envOf cn cs L a ccd :: outer) s.heap → Gnd w base (envOf cn cs L a ccd :: outer) s.heap →
      codeAny (model P w) (AA (dp + 1) (envOf cn cs L a ccd :: outer) gd (un + 3)) (.call f ⟨args, []⟩) (RetS (framesOf (envOf cn cs L a ccd :: outer)) s Post) s)
    (h : ∀ g v h' tk, W.KtsTurn (framesOf outer) h₀ g → Fr g L h' m → News g L h' news → Below A₀ base outer g → Gnd w base outer g → Slotted s.heap h' → Post v h' → Q v { s with heap := h', toks := tk }) :
    wpAny (model P w) (A₀.deeper (envOf cn cs L a ccd)) (call f args) Q E s := by
  subst hA
  have B' := Below.push (name := cn) (a := a) (cd := ccd) B F hk
  have D' : W.KtsDicts (framesOf (envOf cn cs L a ccd :: outer)) s.heap := fun b hb => by
    rcases W.kts_mem hb with rfl | hb
    · obtain ⟨oL, es, ep, hL, hd, _⟩ := F.ns
      exact ⟨oL, es, ep, hL, hd⟩
    · obtain ⟨o, es, n, ho, hd⟩ := D.D b hb
      exact ⟨o, es, n, F.keep _ _ ho, hd⟩
  refine wpAny_call (codeAny_mono (hc B' ⟨D.X, D.T, D'⟩) ?_)
  rintro r s' ⟨v, h', tk, rfl, rfl, ⟨G, T, S⟩, hp⟩
  have nL₀ : h₀.get? L = none := W.kts_self F
  obtain ⟨T₁, S₁⟩ := W.kts_turn_at (h := h') (fs := framesOf outer) (g := h₀)
    (fun b hb => by
      obtain ⟨_, o, ho, _⟩ := B.frames.mem hb
      exact ⟨o, ho⟩)
    (fun b o e nm => S _ _ (T.other b o (F.keep b o e) (fun q => by
      rcases W.kts_mem q with z | z
      · rw [z, nL₀] at e; cases e
      · exact nm z)))
    (fun b o e _ => by
      obtain ⟨sl, hs⟩ := T.up (F.keep b o e)
      exact ⟨sl, S _ _ hs⟩)
  refine h _ v h' tk T₁ ⟨?_, S₁, by rw [T₁.size]; exact F.above⟩ (fun p hp => ⟨?_, (N p hp).2.1, T₁.none_ _ (N p hp).2.2⟩) ⟨B.stack, fun b o e => T₁.other b o (B.stays b o e) (fun hm => by
      rw [(B.frames.mem hm).1] at e; cases e), B.frames.of_keeps fun b o e _ => by
      obtain ⟨sl, hs⟩ := T₁.up e
      exact ⟨_, hs, rfl⟩⟩ ⟨D.X, D.T, D.D.turn T₁⟩ (Grown.slotted ⟨G, T, S⟩) hp
  · obtain ⟨oL, es, ep, hL, hLd, hLk, hLf⟩ := F.ns
    obtain ⟨sl, hs⟩ := T.up hL
    exact ⟨_, es, ep, S _ _ hs, hLd, hLk, hLf⟩
  · refine S _ _ (T.other _ _ (N p hp).1 fun q => ?_)
    rcases W.kts_mem q with z | z
    · exact (N p hp).2.1 z
    · obtain ⟨_, o, ho, _⟩ := B.frames.mem z
      have := (N p hp).2.2
      rw [ho] at this; cases this
theorem turn_none {fs : List Addr} {h g : Heap} {b : Addr} (T : W.KtsTurn fs h g) (e : g.get? b = none) : h.get? b = none := by
  cases q : h.get? b with
  | none => rfl
  | some o => obtain ⟨sl, hs⟩ := T.up q; rw [e] at hs; cases hs

end
section

/-- a name that is refused: the call raises TypeError -/
theorem law_told_bad {w : World} {dp un : Nat} {outer : List Env} {gd : Option (List Code)} {base : Heap} {s : Shared} {o m n d c : Value} 
   (X : (Mine.hd.heap_39 w.params).In s.heap) (T : TopH s.heap) (B : Below (AA dp outer gd un) base outer s.heap) (G : Gnd w base outer s.heap) (hd : dp + 10 < recursionLimit) (hu : un + 100 < cLine)
   (h : ∀ (L' : Addr) (h' : Heap) (tk : Nat) (x dd : Addr) (mp : Str → Option Value) (k1 k2 k3 k4 k5 : Nat) (mean : ExcName → Option Value) (mg mb : Str → Option Value) (QQ EE : Value → Shared → Prop), Top V (looseW V []) mean mg mb s.heap → Fr s.heap L' h' mp → News s.heap L' h' (actLed w.params x dd o m n d c k1 k2 k3 k4 k5) →
      (∀ e news G h'' tk'', Fr s.heap L' G mp → W.RaisedSN base G (envOf (Str.ofString "_law_told") toldScope L' 77 (.ref 76) :: outer) e (.type "TypeError") news h'' → G.UpToSlots h'' → EE (.ref e) { s with heap := h'', toks := tk'' }) →
      wpAny (model P w) ((AA dp outer gd un).deeper (envOf (Str.ofString "_law_told") toldScope L' 77 (.ref 76))) (call (.ref 70) [.ref x]) QQ EE { s with heap := h', toks := tk }) :
   codeAny (model P w) (AA dp outer gd un) (.call (.ref 77) ⟨[o, m, n, d, c], []⟩) (RetS (framesOf outer) s fun v h' => Told s.heap h' v #[]) s := by
  refine' Mine.enter (binds := [(Str.ofString "options", o), (Str.ofString "metavar", m), (Str.ofString "nargs", n), (Str.ofString "dest", d), (Str.ofString "choices", c)]) (by with_reducible assumption) (by assumption) ?k6 ?k7 ?k8 ?k9 ?kB ?_ ?c2 ?c3 ?c4 ?c5
  (((case k6 => k_is); (case k7 => k_is); (case k8 => exact Mine.room0 (by assumption)); (case k9 => exact BindsTo.of_eq rfl); (case kB => exact locs rfl); (case c5 => decide); (case c2 => rfl); (case c3 => rfl); (case c4 => rfl); intro L'q165 h₁q165 meanq165 mgq165 mbq165 Fq165 Nq165 T'q165; dsimp only [List.reverse, List.reverseAux, List.length] at Fq165 ⊢; k_fold))
  (repeat' (((first | ((fail_if_success (with_reducible show wpAny _ _ (exec (Stmt.While _ _ _ _) _) _ _ _)); (fail_if_success (with_reducible show wpAny _ _ (exec (Stmt.For _ _ _ _ _) _) _ _ _)); (fail_if_success (with_reducible show wpAny _ _ (eval (PySem.Expr.ListComp _ _ _ _) _) _ _ _)); (fail_if_success (with_reducible show wpAny _ _ (exec (PySem.Stmt.Assign _ (PySem.Expr.ListComp _ _ _ _) _) _) _ _ _)); (fail_if_success (with_reducible show wpAny _ _ (call (Value.ref _) _) _ _ _)); (fail_if_success (with_reducible show wpAny _ _ (pyIter (Value.ref _)) _ _ _)); (fail_if_success (show LCg.CompSrc _ _ _ _ _ _ _ _ _ _ _ _ _ _)); first | (k_unfold; (try dsimp only)) | (k_end; wrow_close) | walk1 | (dsimp only; walk1) | (leave1; (try dsimp only)))))))
  walk1
  (repeat' (((first | ((fail_if_success (with_reducible show wpAny _ _ (exec (Stmt.While _ _ _ _) _) _ _ _)); (fail_if_success (with_reducible show wpAny _ _ (exec (Stmt.For _ _ _ _ _) _) _ _ _)); (fail_if_success (with_reducible show wpAny _ _ (eval (PySem.Expr.ListComp _ _ _ _) _) _ _ _)); (fail_if_success (with_reducible show wpAny _ _ (exec (PySem.Stmt.Assign _ (PySem.Expr.ListComp _ _ _ _) _) _) _ _ _)); (fail_if_success (with_reducible show wpAny _ _ (call (Value.ref _) _) _ _ _)); (fail_if_success (with_reducible show wpAny _ _ (pyIter (Value.ref _)) _ _ _)); (fail_if_success (show LCg.CompSrc _ _ _ _ _ _ _ _ _ _ _ _ _ _)); first | (k_unfold; (try dsimp only)) | (k_end; wrow_close) | walk1 | (dsimp only; walk1) | (leave1; (try dsimp only)))))))
  refine h _ _ _ _ _ _ _ _ _ _ _ _ _ _ _ _ (by assumption) (by assumption) (by assumption) ?_
  intro e news G2 h2 tk2 FG R U
  obtain ⟨XB, ⟨meanB, mgB, mbB, TB⟩, D⟩ := G
  try dsimp only
  refine' W.caught_SN0 (T' := "TypeError") (g₀ := s.heap) R FG B U XB TB D .refl ?ex PyProof.Rows.Boot.«TypeError» ?hn PySem.F.isExc_TypeError PySem.F.notTuple_TypeError ?hs ?_
  case ex => k_is
  case hn => decide
  case hs => rw [isSubtype_type]; kernel_rfl
  clear FG R U
  intro h3 g3 T3 F3 N3 B3 X3 P3 D3
  clear X T
  (repeat' (((first | ((fail_if_success (with_reducible show wpAny _ _ (exec (Stmt.While _ _ _ _) _) _ _ _)); (fail_if_success (with_reducible show wpAny _ _ (exec (Stmt.For _ _ _ _ _) _) _ _ _)); (fail_if_success (with_reducible show wpAny _ _ (eval (PySem.Expr.ListComp _ _ _ _) _) _ _ _)); (fail_if_success (with_reducible show wpAny _ _ (exec (PySem.Stmt.Assign _ (PySem.Expr.ListComp _ _ _ _) _) _) _ _ _)); (fail_if_success (with_reducible show wpAny _ _ (call (Value.ref _) _) _ _ _)); (fail_if_success (with_reducible show wpAny _ _ (pyIter (Value.ref _)) _ _ _)); (fail_if_success (show LCg.CompSrc _ _ _ _ _ _ _ _ _ _ _ _ _ _)); first | (k_unfold; (try dsimp only)) | (k_end; wrow_close) | walk1 | (dsimp only; walk1) | (leave1; (try dsimp only)))))))
  ((try k_unfold); (try dsimp only); refine Mine.retS_of (by assumption) (Fr.keep (by assumption)) ?_ rfl)
  rename News _ _ _ _ => N9
  exact ⟨_, _, rfl, (N9 _ (by k_mem)).1, turn_none (by assumption) (N9 _ (by k_mem)).2.2⟩

end
section
theorem IsTh.noStr {h : Heap} {v : Value} {t : Th} (x : IsTh h v t) (ht : t.isStr = false) : ∃ T, NoStr h v T := by
  cases x with
  | s x t => cases ht
  | n i t => exact ⟨_, .inl ⟨_, _, rfl, rfl⟩⟩
  | none => exact ⟨_, .inr (.inl ⟨rfl, rfl⟩)⟩
  | b c => exact ⟨_, .inr (.inr (.inl ⟨_, rfl, rfl⟩))⟩
  | lst ho hc hd => exact ⟨_, .inr (.inr (.inr ⟨_, _, rfl, ho, hc, .inl rfl, fun p q => by rw [hd] at q; cases q⟩))⟩
  | tup ho =>
    obtain ⟨o, ho, hc, n, hd⟩ := ho
    exact ⟨_, .inr (.inr (.inr ⟨_, _, rfl, ho, hc, .inr (.inl rfl), fun p q => by rw [hd] at q; cases q⟩))⟩
  | dct ho hc hd => exact ⟨_, .inr (.inr (.inr ⟨_, _, rfl, ho, hc, .inr (.inr rfl), fun p q => by rw [hd] at q; cases q⟩))⟩
theorem ThsAre.texts {h : Heap} {vs : List Value} {ts : List Th} (x : ThsAre h vs ts) (ht : ts.all Th.isStr = true) : StrsAre vs (ts.map Th.shown) := by
  induction x with
  | nil => exact .nil
  | cons a _ ih =>
    rw [List.all_cons, Bool.and_eq_true] at ht
    cases a with
    | s x t => exact .cons _ _ (ih ht.2)
    | _ => exact absurd ht.1 (by simp [Th.isStr])
theorem ThsAre.split {h : Heap} {vs : List Value} {ts : List Th} (x : ThsAre h vs ts) (ht : ts.all Th.isStr = false) : ∃ l v T post, vs = strValues l ++ v :: post ∧ l.length < ts.length ∧ NoStr h v T := by
  induction x with
  | nil => cases ht
  | @cons v t vs ts a _ ih =>
    cases hb : t.isStr with
    | false =>
      obtain ⟨T, hT⟩ := a.noStr hb
      exact ⟨[], v, T, vs, rfl, Nat.succ_pos _, hT⟩
    | true =>
      rw [List.all_cons, hb, Bool.true_and] at ht
      obtain ⟨l, v', T, post, e, hl, hT⟩ := ih ht
      cases a with
      | s x t => exact ⟨(x, t) :: l, v', T, post, by rw [e]; rfl, Nat.succ_lt_succ hl, hT⟩
      | _ => cases hb
theorem NoStr.keeps {h h' : Heap} {v : Value} {T : String} (k : h.StaysIn h') (x : NoStr h v T) : NoStr h' v T := by
  rcases x with x | x | x | ⟨a, o, e, ho, r⟩
  · exact .inl x
  · exact .inr (.inl x)
  · exact .inr (.inr (.inl x))
  · exact .inr (.inr (.inr ⟨a, o, e, k _ _ ho, r⟩))
theorem truthy_list_any {prog : Program} {w : World} {A : Around} {E : Value → Shared → Prop} {s : Shared} {l : Addr} {items : Array Value} {Q : Bool → Shared → Prop} (hl : s.heap.IsList l items) (hne : items.isEmpty = false) (hfit : items.size ≤ 1000)
    (hq : ∀ tk, Q true { s with toks := tk }) : wpAny (model prog w) A (truthy (.ref l)) Q E s := by
  refine wpAny_truthy_list hl (by omega) ?_
  rw [hne]
  exact hq _

end
section
section
open PySem.W Builtin Builtin.Str
variable {prog : Program} {w : World} {A : Around} {E : Value → Shared → Prop} {s : Shared}
/-- str of a thing within a format -/
theorem IsTh.strOf {v : Value} {t : Th} (x : IsTh s.heap v t) (hn : ∀ i, t = .n i → i.natAbs.log2 < 1920) (hsys : SysOk s.heap) (hg : A.guards = some []) (hu : A.units + 10 < cLine) {Q : Value → Shared → Prop}
    (hQ : ∀ h' t' tk, s.heap.StaysIn h' → Q (.str t.shown t') { s with heap := h', toks := tk }) : wpAny (model prog w) A (Builtin.Str.strOf v) Q E s := by
  have big : ∀ n : Nat, n ≤ 1000 → n ≤ sizeLine := fun n h => by rw [sizeLine_eq]; omega
  have id' : s.heap.StaysIn s.heap := fun _ _ e => e
  cases x with
  | s x t => exact wpAny_pure (hQ s.heap t s.toks id')
  | n i t => exact KPc.strOf_int (hn i rfl) (hQ s.heap _ _ id')
  | none => exact wpAny_strOf_gives rfl (typeIs_none s) F.slot_NoneType_str F.slot_NoneType_repr F.entry_NoneType_repr (F.args_NoneType_repr_1 _) gives_none_repr (hQ s.heap _ _ id') (hsz := by decide)
  | b c => exact wpAny_strOf_gives rfl (PySem.typeIs_bool s c) F.slot_bool_str F.slot_bool_repr F.entry_bool_repr (F.args_bool_repr_1 _) (gives_bool_repr c) (hQ s.heap _ _ id') (hsz := by cases c <;> decide)
  | lst ho hc hd =>
    refine strOf_of_reads (reads_lst ho hc hd) (by decide +kernel) (fun e => absurd e (by decide +kernel)) hg (Nat.lt_of_le_of_lt (Nat.add_le_add_left (show Th.lst.d.depth + 1 ≤ 10 by decide +kernel) _) hu) id' (fun h' u tk k => ?_) (big _ (by decide +kernel))
    rw [shown_lst]; exact hQ h' u tk k
  | tup ho =>
    refine strOf_of_reads (reads_tup ho) (by decide +kernel) (fun e => absurd e (by decide +kernel)) hg (Nat.lt_of_le_of_lt (Nat.add_le_add_left (show Th.tup.d.depth + 1 ≤ 10 by decide +kernel) _) hu) id' (fun h' u tk k => ?_) (big _ (by decide +kernel))
    rw [shown_tup]; exact hQ h' u tk k
  | @dct a o0 hs t1 t2 k ho hc hd lo =>
    refine strOf_of_reads (reads_dct ho hc hd) (by decide +kernel) (fun _ hm => ?_) hg (Nat.lt_of_le_of_lt (Nat.add_le_add_left (show Th.dct.d.depth + 1 ≤ 10 by decide +kernel) _) hu) id' (fun h' u tk k => ?_) (big _ (by decide +kernel))
    · have e : sysModules = a := by simpa using hm
      rw [← e] at lo
      exact absurd lo (by decide)
    rw [shown_dct]; exact hQ h' u tk k
/-- what str needs of a thing -/
structure Sayable (h : Heap) (v : Value) (t : Th) : Prop where
  is : IsTh h v t
  fits : ∀ i, t = .n i → i.natAbs.log2 < 1920
  short : t.shown.length ≤ 1000000
theorem Sayable.keeps {h h' : Heap} {v : Value} {t : Th} (k : h.StaysIn h') (x : Sayable h v t) : Sayable h' v t := ⟨x.is.keeps k, x.fits, x.short⟩
abbrev pctF : Str := Str.mk #[37, 115, 91, 44, 32, 37, 115, 93]
theorem pct_ok {tF : Tok} {b : Addr} {v1 v2 : Value} {x y : Th} {Q : PySem.Fin → Shared → Prop} (hb : IsTup s.heap b #[v1, v2]) (hx : Sayable s.heap v1 x) (hy : Sayable s.heap v2 y) (hsys : SysOk s.heap) (hg : A.guards = some []) (hu : A.units + 20 < cLine)
    (hQ : ∀ h' t' tk, s.heap.StaysIn h' → Q (.done (.ret (.str (x.shown ++ "[, " ++ y.shown ++ "]") t'))) { s with heap := h', toks := tk }) :
    wpAny (model prog w) A (percentFormat (.str pctF tF) pctF (.ref b)) Q E s := by
  obtain ⟨o, ho, hc, n, hd⟩ := hb
  obtain ⟨hx, hx1, hx2⟩ := hx
  obtain ⟨hy, hy1, hy2⟩ := hy
  unfold percentFormat
  refine wpAny_bind (wpAny_isInstance (T := "tuple") ⟨o, ho, hc⟩ KPt.sub_tt ?_)
  refine wpAny_bind (KPt.asStr_ref ho hd ?_)
  refine wpAny_bind (KPt.fills_ref ⟨o, ho, hc⟩ ?_)
  intro _
  kpc_if
  refine wpAny_bind (wpAny_seqItems ho hd ?_)
  refine wpAny_bind (wpAny_pure ?_)
  refine wpAny_bind ?_
  rw [KPc.range_list]
  refine KPc.start ?_
  intro w0 g0
  refine KPc.turn ?_; kpc_check; (repeat kpc_if)
  refine wpAny_bind ?_; refine wpAny_holding ?_; (repeat kpc_if)
  refine wpAny_bind (hx.strOf hx1 hsys hg (by omega) fun h1 t1 k1 st1 => ?_)
  refine wpAny_bind (wpAny_of_eq (a := some _) rfl ?_)
  refine wpAny_pure ?_; refine wpAny_pure ?_; kpt_piece
  refine KPc.turn ?_; kpc_check; (repeat kpc_if)
  refine wpAny_pure ?_; kpt_piece
  refine KPc.turn ?_; kpc_check; (repeat kpc_if)
  refine wpAny_bind ?_; refine wpAny_holding ?_; (repeat kpc_if)
  refine wpAny_bind ((hy.keeps st1).strOf hy1 (hsys.keeps st1) hg (by omega) fun h2 t2 k2 st2 => ?_)
  refine wpAny_bind (wpAny_of_eq (a := some _) rfl ?_)
  refine wpAny_pure ?_; refine wpAny_pure ?_; kpt_piece
  refine KPc.turn ?_; kpc_check; (repeat kpc_if)
  refine wpAny_pure ?_; kpt_piece
  refine KPc.turn ?_; kpc_check; (repeat kpc_if)
  refine wpAny_pure ?_; kpc_if
  refine KPc.finish_ok (by kpc_g) (by decide +kernel) rfl ?_
  exact fun t k => hQ h2 t k fun b o e => st2 b o (st1 b o e)
theorem newExc_after {h h₁ h' : Heap} {e : Addr} {cls : String} (k : h.StaysIn h₁) (x : Heap.NewExc h₁ h' e cls) : Heap.NewExc h h' e cls := ⟨fun b o q => x.keeps b o (k b o q), (by
  cases q : h.get? e with
  | none => rfl
  | some o => have := k _ _ q; rw [x.new] at this; cases this), x.there⟩
/-- too few or too many for the two places -/
theorem pct_bad {tF : Tok} {b : Addr} {items : Array Value} {ts : List Th} {Q : PySem.Fin → Shared → Prop} (hb : IsTup s.heap b items) (hi : ThsAre s.heap items.toList ts) (hn : ∀ i, Th.n i ∈ ts → i.natAbs.log2 < 1920) (hw : ∀ x ∈ ts, x.shown.length ≤ 1000000) (hl : ts.length ≠ 2) (hsys : SysOk s.heap) (hg : A.guards = some []) (hA : A.handled = none) (hu : A.units + 20 < cLine)
    (hE : ∀ h' tk e, Heap.NewExc s.heap h' e "TypeError" → E (.ref e) { s with heap := h', toks := tk }) :
    wpAny (model prog w) A (percentFormat (.str pctF tF) pctF (.ref b)) Q E s := by
  obtain ⟨o, ho, hc, n, hd⟩ := hb
  obtain ⟨items⟩ := items
  unfold percentFormat
  refine wpAny_bind (wpAny_isInstance (T := "tuple") ⟨o, ho, hc⟩ KPt.sub_tt ?_)
  refine wpAny_bind (KPt.asStr_ref ho hd ?_)
  refine wpAny_bind (KPt.fills_ref ⟨o, ho, hc⟩ ?_)
  intro _
  kpc_if
  refine wpAny_bind (wpAny_seqItems ho hd ?_)
  refine wpAny_bind (wpAny_pure ?_)
  refine wpAny_bind ?_
  rw [KPc.range_list]
  refine KPc.start ?_
  intro w0 g0
  dsimp only at hi
  cases hi with
  | nil =>
    refine KPc.turn ?_; kpc_check; (repeat kpc_if)
    unfold notEnoughArguments
    refine wpAny_bind (wpAny_bind (wpAny_rule ?_))
    refine wpAny_raiseErrorWords plainExc_TypeError hA ?_
    · exact hE
  | @cons v1 x _ ts hx hi =>
    have hx1 : ∀ i, x = Th.n i → i.natAbs.log2 < 1920 := fun i e => hn i (by rw [e]; exact .head _)
    have hx2 := hw x (.head _)
    refine KPc.turn ?_; kpc_check; (repeat kpc_if)
    refine wpAny_bind ?_; refine wpAny_holding ?_; (repeat kpc_if)
    refine wpAny_bind (hx.strOf hx1 hsys hg (by omega) fun h1 t1 k1 st1 => ?_)
    refine wpAny_bind (wpAny_of_eq (a := some _) rfl ?_)
    refine wpAny_pure ?_; refine wpAny_pure ?_; kpt_piece
    refine KPc.turn ?_; kpc_check; (repeat kpc_if)
    refine wpAny_pure ?_; kpt_piece
    cases hi with
    | nil =>
      refine KPc.turn ?_; kpc_check; (repeat kpc_if)
      unfold notEnoughArguments
      refine wpAny_bind (wpAny_bind (wpAny_rule ?_))
      refine wpAny_raiseErrorWords plainExc_TypeError hA ?_
      · exact fun h' tk e x => hE h' tk e (newExc_after st1 x)
    | @cons v2 y _ ts hy hi =>
      have hy1 : ∀ i, y = Th.n i → i.natAbs.log2 < 1920 := fun i e => hn i (by rw [e]; exact .tail _ (.head _))
      have hy2 := hw y (.tail _ (.head _))
      refine KPc.turn ?_; kpc_check; (repeat kpc_if)
      refine wpAny_bind ?_; refine wpAny_holding ?_; (repeat kpc_if)
      refine wpAny_bind ((hy.keeps st1).strOf hy1 (hsys.keeps st1) hg (by omega) fun h2 t2 k2 st2 => ?_)
      refine wpAny_bind (wpAny_of_eq (a := some _) rfl ?_)
      refine wpAny_pure ?_; refine wpAny_pure ?_; kpt_piece
      refine KPc.turn ?_; kpc_check; (repeat kpc_if)
      refine wpAny_pure ?_; kpt_piece
      refine KPc.turn ?_; kpc_check; (repeat kpc_if)
      refine wpAny_pure ?_
      cases hi with
      | nil => exact absurd rfl hl
      | cons hz hi =>
        kpc_if
        refine wpAny_bind (wpAny_rule ?_)
        refine wpAny_bind ?_
        refine wpAny_raiseErrorWords plainExc_TypeError hA ?_
        · exact fun h' tk e x => hE h' tk e (newExc_after (fun b o e => st2 b o (st1 b o e)) x)
end
section
variable {prog : Program} {w : World} {A : Around} {E : Value → Shared → Prop} {s : Shared}
theorem pct_is : ("%s[, %s]" : Str) = pctF := by decide +kernel
theorem mod_ok {tF : Tok} {b : Addr} {v1 v2 : Value} {x y : Th} {Q : Value → Shared → Prop} (hb : IsTup s.heap b #[v1, v2]) (hx : Sayable s.heap v1 x) (hy : Sayable s.heap v2 y) (hsys : SysOk s.heap) (hg : A.guards = some []) (hu : A.units + 30 < cLine)
    (hQ : ∀ h' t' tk, s.heap.StaysIn h' → Q (.str (x.shown ++ "[, " ++ y.shown ++ "]") t') { s with heap := h', toks := tk }) : wpAny (model prog w) A (binaryOp .Mod (.str "%s[, %s]" tF) (.ref b)) Q E s := by
  have hT : s.TypeIs (.ref b) "tuple" := by
    obtain ⟨o, ho, hc, _⟩ := hb
    exact ⟨o, ho, hc⟩
  rw [pct_is]
  refine W.KPt.bin_left (T := "str") (U := "tuple") (op := .Mod) (by decide) (typeIs_str s _ tF) hT F.fills_str_mod W.KPt.fills_tuple F.slot_str_mod
    (call_meets F.slot_str_mod (typeIs_str s _ tF) F.entry_str_mod (F.args_str_mod_2 _ _) (S := fun A R s => IsTup s.heap b #[v1, v2] ∧ Sayable s.heap v1 x ∧ Sayable s.heap v2 y ∧ SysOk s.heap ∧ A.guards = some [] ∧ A.units + 25 < cLine ∧
      ∀ h' t' tk, s.heap.StaysIn h' → R (.ok (.ret (.str (x.shown ++ "[, " ++ y.shown ++ "]") t'))) { s with heap := h', toks := tk }) ?_ ⟨hb, hx, hy, hsys, hg, ?_, fun h' t' tk k => ⟨(fun e => nomatch e), hQ h' t' tk k⟩⟩)
  · refine Meets.of_wp fun prog w A R s h => ?_
    rw [W.KPt.entry_is_r]
    obtain ⟨hb, hx, hy, hsys, hg, hu, hq⟩ := h
    exact pct_ok hb hx hy hsys hg (by show A.units + 1 + 20 < cLine; omega) fun h' t' tk k => ⟨_, rfl, hq h' t' tk k⟩
  · first | omega | (show A.units + 1 + 25 < cLine; omega)
theorem mod_bad {tF : Tok} {b : Addr} {items : Array Value} {ts : List Th} {Q : Value → Shared → Prop} (hb : IsTup s.heap b items) (hi : ThsAre s.heap items.toList ts) (hn : ∀ i, Th.n i ∈ ts → i.natAbs.log2 < 1920) (hw : ∀ x ∈ ts, x.shown.length ≤ 1000000) (hl : ts.length ≠ 2) (hsys : SysOk s.heap) (hg : A.guards = some []) (hA : A.handled = none) (hu : A.units + 30 < cLine)
    (hE : ∀ h' tk e, Heap.NewExc s.heap h' e "TypeError" → E (.ref e) { s with heap := h', toks := tk }) : wpAny (model prog w) A (binaryOp .Mod (.str "%s[, %s]" tF) (.ref b)) Q E s := by
  have hT : s.TypeIs (.ref b) "tuple" := by
    obtain ⟨o, ho, hc, _⟩ := hb
    exact ⟨o, ho, hc⟩
  rw [pct_is]
  refine W.KPt.bin_left (T := "str") (U := "tuple") (op := .Mod) (by decide) (typeIs_str s _ tF) hT F.fills_str_mod W.KPt.fills_tuple F.slot_str_mod
    (call_meets F.slot_str_mod (typeIs_str s _ tF) F.entry_str_mod (F.args_str_mod_2 _ _) (S := fun A R s => IsTup s.heap b items ∧ ThsAre s.heap items.toList ts ∧ SysOk s.heap ∧ A.guards = some [] ∧ A.handled = none ∧ A.units + 25 < cLine ∧
      ∀ h' tk e, Heap.NewExc s.heap h' e "TypeError" → R (.error (.ref e)) { s with heap := h', toks := tk }) ?_ ⟨hb, hi, hsys, hg, hA, ?_, hE⟩)
  · refine Meets.of_wp fun prog w A R s h => ?_
    rw [W.KPt.entry_is_r]
    obtain ⟨hb, hi, hsys, hg, hA, hu, hq⟩ := h
    exact pct_bad hb hi hn hw hl hsys hg hA (by show A.units + 1 + 20 < cLine; omega) hq
  · first | omega | (show A.units + 1 + 25 < cLine; omega)
end

end
section
local macro_rules | `(tactic| k_handed) => `(tactic| exact Mine.IsTh.handed (by assumption))
section

/-- options that are no texts -/
theorem law_told_J {w : World} {dp un : Nat} {outer : List Env} {gd : Option (List Code)} {base : Heap} {s : Shared} {o : Addr} {m n d c : Value} {items : Array Value} {l : List (Str × Tok)} {v0 : Value} {T0 : String} {post : List Value}
   (X : (Mine.hd.heap_39 w.params).In s.heap) (T : TopH s.heap) (B : Below (AA dp outer gd un) base outer s.heap) (G : Gnd w base outer s.heap) (hd : dp + 10 < recursionLimit) (hu : un + 100 < cLine)
   (hl : s.heap.IsList o items) (hi : items.toList = strValues l ++ v0 :: post) (hlen : l.length ≤ 9) (hsz : items.size ≤ 1000) (hv : NoStr s.heap v0 T0) :
   codeAny (model P w) (AA dp outer gd un) (.call (.ref 77) ⟨[.ref o, m, n, d, c], []⟩) (RetS (framesOf outer) s fun r h' => Told s.heap h' r #[]) s := by
  refine law_told_bad X T B G hd hu ?_
  intro L' h' tk x dd mp k1 k2 k3 k4 k5 mean mg mb QQ EE T' F N hq
  clear G
  unfold toldScope
  have N' := N
  unfold actLed at N
  have hd8 : dp + 1 + 1 < recursionLimit := by omega
  have hne : items.isEmpty = false := by
    cases items with
    | mk xs => cases xs with
      | nil => simp at hi
      | cons _ _ => rfl
  (repeat' (first | ((((with_reducible show wpAny _ _ (leaving _ (Value.ref _)) _ _ _); refine W.leave_newS (by assumption) (by assumption) (by assumption) (by assumption) ?_; intro hzq173 Rzq173 RNzq173 Uzq173; (try dsimp only at Rzq173 Uzq173 ⊢)))) | ((((with_reducible show wpAny _ _ (truthy (Value.ref _)) _ _ _); refine Mine.truthy_list_any (by (first | assumption | exact News.isList (by assumption) (by k_mem) | exact stays_list (Fr.keep (by assumption)) (by assumption) | exact stays_list (Fr.keep (by assumption)) (stays_list (Fr.keep (by assumption)) (by assumption)))) (by assumption) (by assumption) ?_; intro tk1q174))) | ((((with_reducible show wpAny _ _ (truthy (Value.ref _)) _ _ _); first | (refine Mine.truthy_list_ne (by (first | assumption | exact News.isList (by assumption) (by k_mem) | exact stays_list (Fr.keep (by assumption)) (by assumption) | exact stays_list (Fr.keep (by assumption)) (stays_list (Fr.keep (by assumption)) (by assumption)))) (by assumption) (by assumption) (by omega) ?_; intro tk1q176) | (refine Mine.truthy_list_nil (by (first | assumption | exact News.isList (by assumption) (by k_mem) | exact stays_list (Fr.keep (by assumption)) (by assumption) | exact stays_list (Fr.keep (by assumption)) (stays_list (Fr.keep (by assumption)) (by assumption)))) ?_; intro tk1q176) | (refine Mine.truthy_tup_nil (by (first | assumption | exact News.isTup (by assumption) (by k_mem) | exact stays_tup (Fr.keep (by assumption)) (by assumption) | exact stays_tup (Fr.keep (by assumption)) (stays_tup (Fr.keep (by assumption)) (by assumption)))) ?_; intro tk1q176) | (refine Mine.truthy_empty (by (first | assumption | exact Or.inl (News.isList (by assumption) (by k_mem)) | exact Or.inr (News.isTup (by assumption) (by k_mem)) | exact Mine.Empty.keeps (Fr.keep (by assumption)) (by assumption) | exact Mine.Empty.keeps (Fr.keep (by assumption)) (Mine.Empty.keeps (Fr.keep (by assumption)) (by assumption)))) ?_; intro tk1q176)))) | ((((with_reducible show wpAny _ _ (compareOp CmpOp.NotIn (Value.ref _) (Value.ref _)) _ _ _); refine Mine.notin_sup_tup (by (first | assumption | exact News.isTup (by assumption) (by k_mem) | exact stays_tup (Fr.keep (by assumption)) (by assumption) | exact stays_tup (Fr.keep (by assumption)) (stays_tup (Fr.keep (by assumption)) (by assumption)))) (by (first | assumption | exact News.isTup (by assumption) (by k_mem) | exact stays_tup (Fr.keep (by assumption)) (by assumption) | exact stays_tup (Fr.keep (by assumption)) (stays_tup (Fr.keep (by assumption)) (by assumption)))) (by ktr_units) ?_))) | ((((with_reducible show wpAny _ _ (call (Value.builtin "isinstance") [Value.ref _, Value.type "tuple"]) _ _ _); refine Mine.isi_tuple (by (first | assumption | exact News.isTup (by assumption) (by k_mem) | exact stays_tup (Fr.keep (by assumption)) (by assumption) | exact stays_tup (Fr.keep (by assumption)) (stays_tup (Fr.keep (by assumption)) (by assumption)))) ?_))) | ((((with_reducible show wpAny _ _ (call (Value.builtin "len") [Value.ref _]) _ _ _); refine Mine.len_tup (by (first | assumption | exact News.isTup (by assumption) (by k_mem) | exact stays_tup (Fr.keep (by assumption)) (by assumption) | exact stays_tup (Fr.keep (by assumption)) (stays_tup (Fr.keep (by assumption)) (by assumption)))) (by first | assumption | (first | exact Nat.le_of_ble_eq_true rfl | (show _ ≤ 2 ^ 24; (try have hlen9 := StrsAre.length (by assumption)); (try simp only [Array.length_toList] at *); omega) | decide)) ?_; intro t2q186 tk2q186))) | ((((with_reducible show wpAny _ _ (call (Value.builtin "str.join") [Value.str _ _, Value.ref _]) _ _ _); refine Mine.join_bad (by first | exact Or.inl (by (first | assumption | exact News.isList (by assumption) (by k_mem) | exact stays_list (Fr.keep (by assumption)) (by assumption) | exact stays_list (Fr.keep (by assumption)) (stays_list (Fr.keep (by assumption)) (by assumption)))) | exact Or.inr (by (first | assumption | exact News.isTup (by assumption) (by k_mem) | exact stays_tup (Fr.keep (by assumption)) (by assumption) | exact stays_tup (Fr.keep (by assumption)) (stays_tup (Fr.keep (by assumption)) (by assumption))))) (by assumption) (by assumption) (Mine.NoStr.keeps (Fr.keep (by assumption)) (Mine.NoStr.keeps (Fr.keep (by assumption)) (by assumption))) rfl ?_; intro hxq189 tkxq189 exq189 Nxq189))) | (k_unfold; (try dsimp only)) | (k_end; wrow_close) | walk1 | (dsimp only; walk1) | (leave1; (try dsimp only))))
  exact hq _ _ _ _ _ (by assumption) (by assumption) (by assumption)

end
section

/-- a tuple as a metavar that is joined and holds what is no text -/
theorem law_told_K {w : World} {dp un : Nat} {outer : List Env} {gd : Option (List Code)} {base : Heap} {s : Shared} {o m : Addr} {n d c : Value} {items : Array Value} {l : List (Str × Tok)} {v0 : Value} {T0 : String} {post : List Value}
   (X : (Mine.hd.heap_39 w.params).In s.heap) (T : TopH s.heap) (B : Below (AA dp outer gd un) base outer s.heap) (G : Gnd w base outer s.heap) (hd : dp + 10 < recursionLimit) (hu : un + 100 < cLine)
   (hl0 : Empty s.heap o) (hl : IsTup s.heap m items) (hi : items.toList = strValues l ++ v0 :: post) (hlen : l.length ≤ 9) (hsz : items.size ≤ 1000) (hv : NoStr s.heap v0 T0) (hn : n = .none ∨ (∃ i t, n = .int i t) ∨ (∃ x t, n = .str x t ∧ x ≠ "+" ∧ (x = "*" → items.size ≠ 2))) :
   codeAny (model P w) (AA dp outer gd un) (.call (.ref 77) ⟨[.ref o, .ref m, n, d, c], []⟩) (RetS (framesOf outer) s fun r h' => Told s.heap h' r #[]) s := by
  refine law_told_bad X T B G hd hu ?_
  intro L' h' tk x dd mp k1 k2 k3 k4 k5 mean mg mb QQ EE T' F N hq
  clear G
  unfold toldScope
  have N' := N
  unfold actLed at N
  have hd8 : dp + 1 + 1 < recursionLimit := by omega
  have hsz9 : items.size ≤ 2 ^ 24 := by omega
  (repeat' (first | ((((with_reducible show wpAny _ _ (leaving _ (Value.ref _)) _ _ _); refine W.leave_newS (by assumption) (by assumption) (by assumption) (by assumption) ?_; intro hzq193 Rzq193 RNzq193 Uzq193; (try dsimp only at Rzq193 Uzq193 ⊢)))) | ((((with_reducible show wpAny _ _ (truthy (Value.ref _)) _ _ _); refine Mine.truthy_list_any (by (first | assumption | exact News.isList (by assumption) (by k_mem) | exact stays_list (Fr.keep (by assumption)) (by assumption) | exact stays_list (Fr.keep (by assumption)) (stays_list (Fr.keep (by assumption)) (by assumption)))) (by assumption) (by assumption) ?_; intro tk1q194))) | ((((with_reducible show wpAny _ _ (truthy (Value.ref _)) _ _ _); first | (refine Mine.truthy_list_ne (by (first | assumption | exact News.isList (by assumption) (by k_mem) | exact stays_list (Fr.keep (by assumption)) (by assumption) | exact stays_list (Fr.keep (by assumption)) (stays_list (Fr.keep (by assumption)) (by assumption)))) (by assumption) (by assumption) (by omega) ?_; intro tk1q196) | (refine Mine.truthy_list_nil (by (first | assumption | exact News.isList (by assumption) (by k_mem) | exact stays_list (Fr.keep (by assumption)) (by assumption) | exact stays_list (Fr.keep (by assumption)) (stays_list (Fr.keep (by assumption)) (by assumption)))) ?_; intro tk1q196) | (refine Mine.truthy_tup_nil (by (first | assumption | exact News.isTup (by assumption) (by k_mem) | exact stays_tup (Fr.keep (by assumption)) (by assumption) | exact stays_tup (Fr.keep (by assumption)) (stays_tup (Fr.keep (by assumption)) (by assumption)))) ?_; intro tk1q196) | (refine Mine.truthy_empty (by (first | assumption | exact Or.inl (News.isList (by assumption) (by k_mem)) | exact Or.inr (News.isTup (by assumption) (by k_mem)) | exact Mine.Empty.keeps (Fr.keep (by assumption)) (by assumption) | exact Mine.Empty.keeps (Fr.keep (by assumption)) (Mine.Empty.keeps (Fr.keep (by assumption)) (by assumption)))) ?_; intro tk1q196)))) | ((((with_reducible show wpAny _ _ (compareOp CmpOp.NotIn (Value.ref _) (Value.ref _)) _ _ _); refine Mine.notin_sup_tup (by (first | assumption | exact News.isTup (by assumption) (by k_mem) | exact stays_tup (Fr.keep (by assumption)) (by assumption) | exact stays_tup (Fr.keep (by assumption)) (stays_tup (Fr.keep (by assumption)) (by assumption)))) (by (first | assumption | exact News.isTup (by assumption) (by k_mem) | exact stays_tup (Fr.keep (by assumption)) (by assumption) | exact stays_tup (Fr.keep (by assumption)) (stays_tup (Fr.keep (by assumption)) (by assumption)))) (by ktr_units) ?_))) | ((((with_reducible show wpAny _ _ (call (Value.builtin "isinstance") [Value.ref _, Value.type "tuple"]) _ _ _); refine Mine.isi_tuple (by (first | assumption | exact News.isTup (by assumption) (by k_mem) | exact stays_tup (Fr.keep (by assumption)) (by assumption) | exact stays_tup (Fr.keep (by assumption)) (stays_tup (Fr.keep (by assumption)) (by assumption)))) ?_))) | ((((with_reducible show wpAny _ _ (call (Value.builtin "len") [Value.ref _]) _ _ _); refine Mine.len_tup (by (first | assumption | exact News.isTup (by assumption) (by k_mem) | exact stays_tup (Fr.keep (by assumption)) (by assumption) | exact stays_tup (Fr.keep (by assumption)) (stays_tup (Fr.keep (by assumption)) (by assumption)))) (by first | assumption | (first | exact Nat.le_of_ble_eq_true rfl | (show _ ≤ 2 ^ 24; (try have hlen9 := StrsAre.length (by assumption)); (try simp only [Array.length_toList] at *); omega) | decide)) ?_; intro t2q206 tk2q206))) | ((((with_reducible show wpAny _ _ (call (Value.builtin "str.join") [Value.str _ _, Value.ref _]) _ _ _); refine Mine.join_bad (by first | exact Or.inl (by (first | assumption | exact News.isList (by assumption) (by k_mem) | exact stays_list (Fr.keep (by assumption)) (by assumption) | exact stays_list (Fr.keep (by assumption)) (stays_list (Fr.keep (by assumption)) (by assumption)))) | exact Or.inr (by (first | assumption | exact News.isTup (by assumption) (by k_mem) | exact stays_tup (Fr.keep (by assumption)) (by assumption) | exact stays_tup (Fr.keep (by assumption)) (stays_tup (Fr.keep (by assumption)) (by assumption))))) (by assumption) (by assumption) (Mine.NoStr.keeps (Fr.keep (by assumption)) (Mine.NoStr.keeps (Fr.keep (by assumption)) (by assumption))) rfl ?_; intro hxq209 tkxq209 exq209 Nxq209))) | (k_unfold; (try dsimp only)) | (k_end; wrow_close) | walk1 | (dsimp only; walk1) | (leave1; (try dsimp only))))
  rcases hn with rfl | ⟨i, ti, rfl⟩ | ⟨x, tx, rfl, hx1, hx2⟩
  all_goals (repeat' (first | ((((with_reducible show wpAny _ _ (leaving _ (Value.ref _)) _ _ _); refine W.leave_newS (by assumption) (by assumption) (by assumption) (by assumption) ?_; intro hzq213 Rzq213 RNzq213 Uzq213; (try dsimp only at Rzq213 Uzq213 ⊢)))) | ((((with_reducible show wpAny _ _ (truthy (Value.ref _)) _ _ _); refine Mine.truthy_list_any (by (first | assumption | exact News.isList (by assumption) (by k_mem) | exact stays_list (Fr.keep (by assumption)) (by assumption) | exact stays_list (Fr.keep (by assumption)) (stays_list (Fr.keep (by assumption)) (by assumption)))) (by assumption) (by assumption) ?_; intro tk1q214))) | ((((with_reducible show wpAny _ _ (truthy (Value.ref _)) _ _ _); first | (refine Mine.truthy_list_ne (by (first | assumption | exact News.isList (by assumption) (by k_mem) | exact stays_list (Fr.keep (by assumption)) (by assumption) | exact stays_list (Fr.keep (by assumption)) (stays_list (Fr.keep (by assumption)) (by assumption)))) (by assumption) (by assumption) (by omega) ?_; intro tk1q216) | (refine Mine.truthy_list_nil (by (first | assumption | exact News.isList (by assumption) (by k_mem) | exact stays_list (Fr.keep (by assumption)) (by assumption) | exact stays_list (Fr.keep (by assumption)) (stays_list (Fr.keep (by assumption)) (by assumption)))) ?_; intro tk1q216) | (refine Mine.truthy_tup_nil (by (first | assumption | exact News.isTup (by assumption) (by k_mem) | exact stays_tup (Fr.keep (by assumption)) (by assumption) | exact stays_tup (Fr.keep (by assumption)) (stays_tup (Fr.keep (by assumption)) (by assumption)))) ?_; intro tk1q216) | (refine Mine.truthy_empty (by (first | assumption | exact Or.inl (News.isList (by assumption) (by k_mem)) | exact Or.inr (News.isTup (by assumption) (by k_mem)) | exact Mine.Empty.keeps (Fr.keep (by assumption)) (by assumption) | exact Mine.Empty.keeps (Fr.keep (by assumption)) (Mine.Empty.keeps (Fr.keep (by assumption)) (by assumption)))) ?_; intro tk1q216)))) | ((((with_reducible show wpAny _ _ (compareOp CmpOp.NotIn (Value.ref _) (Value.ref _)) _ _ _); refine Mine.notin_sup_tup (by (first | assumption | exact News.isTup (by assumption) (by k_mem) | exact stays_tup (Fr.keep (by assumption)) (by assumption) | exact stays_tup (Fr.keep (by assumption)) (stays_tup (Fr.keep (by assumption)) (by assumption)))) (by (first | assumption | exact News.isTup (by assumption) (by k_mem) | exact stays_tup (Fr.keep (by assumption)) (by assumption) | exact stays_tup (Fr.keep (by assumption)) (stays_tup (Fr.keep (by assumption)) (by assumption)))) (by ktr_units) ?_))) | ((((with_reducible show wpAny _ _ (call (Value.builtin "isinstance") [Value.ref _, Value.type "tuple"]) _ _ _); refine Mine.isi_tuple (by (first | assumption | exact News.isTup (by assumption) (by k_mem) | exact stays_tup (Fr.keep (by assumption)) (by assumption) | exact stays_tup (Fr.keep (by assumption)) (stays_tup (Fr.keep (by assumption)) (by assumption)))) ?_))) | ((((with_reducible show wpAny _ _ (call (Value.builtin "len") [Value.ref _]) _ _ _); refine Mine.len_tup (by (first | assumption | exact News.isTup (by assumption) (by k_mem) | exact stays_tup (Fr.keep (by assumption)) (by assumption) | exact stays_tup (Fr.keep (by assumption)) (stays_tup (Fr.keep (by assumption)) (by assumption)))) (by first | assumption | (first | exact Nat.le_of_ble_eq_true rfl | (show _ ≤ 2 ^ 24; (try have hlen9 := StrsAre.length (by assumption)); (try simp only [Array.length_toList] at *); omega) | decide)) ?_; intro t2q226 tk2q226))) | ((((with_reducible show wpAny _ _ (call (Value.builtin "str.join") [Value.str _ _, Value.ref _]) _ _ _); refine Mine.join_bad (by first | exact Or.inl (by (first | assumption | exact News.isList (by assumption) (by k_mem) | exact stays_list (Fr.keep (by assumption)) (by assumption) | exact stays_list (Fr.keep (by assumption)) (stays_list (Fr.keep (by assumption)) (by assumption)))) | exact Or.inr (by (first | assumption | exact News.isTup (by assumption) (by k_mem) | exact stays_tup (Fr.keep (by assumption)) (by assumption) | exact stays_tup (Fr.keep (by assumption)) (stays_tup (Fr.keep (by assumption)) (by assumption))))) (by assumption) (by assumption) (Mine.NoStr.keeps (Fr.keep (by assumption)) (Mine.NoStr.keeps (Fr.keep (by assumption)) (by assumption))) rfl ?_; intro hxq229 tkxq229 exq229 Nxq229))) | (k_unfold; (try dsimp only)) | (k_end; wrow_close) | walk1 | (dsimp only; walk1) | (leave1; (try dsimp only))))
  all_goals first | exact hq _ _ _ _ _ (by assumption) (by assumption) (by assumption) | skip
  all_goals exfalso
  all_goals (rename @Eq Bool _ true => ha)
  all_goals first | exact hx1 (eq_of_beq ha) | (rename @Eq Int _ 2 => hb; exact hx2 (eq_of_beq ha) (by omega))

end
section

/-- a pair for * or + -/
theorem law_told_P {w : World} {dp un : Nat} {outer : List Env} {base : Heap} {s : Shared} {o m : Addr} {n d c : Value} {tn : Tok} {v1 v2 : Value} {x y : Th}
   (X : (Mine.hd.heap_39 w.params).In s.heap) (T : TopH s.heap) (B : Below (AA dp outer (some []) un) base outer s.heap) (hd : dp + 10 < recursionLimit) (hu : un + 100 < cLine)
   (hl0 : Empty s.heap o) (hl : IsTup s.heap m #[v1, v2]) (hx : Sayable s.heap v1 x) (hy : Sayable s.heap v2 y) (hsys : SysOk s.heap) (hn : n = .str "*" tn ∨ n = .str "+" tn) :
   codeAny (model P w) (AA dp outer (some []) un) (.call (.ref 77) ⟨[.ref o, .ref m, n, d, c], []⟩) (Ret s fun r h' => ∃ y0, (∃ t, y0 = .str (x.shown ++ "[, " ++ y.shown ++ "]") t) ∧ Told s.heap h' r #[y0]) s := by
  refine law_told_ok X T B hd hu ?_
  intro L' h' tk x dd mp k1 k2 k3 k4 k5 mean mg mb QQ EE T' F N hq
  unfold toldScope
  have N' := N
  unfold actLed at N
  have hd8 : dp + 1 + 1 < recursionLimit := by omega
  rcases hn with rfl | rfl
  all_goals (repeat' (first | ((((with_reducible show wpAny _ _ (leaving _ (Value.ref _)) _ _ _); refine W.leave_newS (by assumption) (by assumption) (by assumption) (by assumption) ?_; intro hzq233 Rzq233 RNzq233 Uzq233; (try dsimp only at Rzq233 Uzq233 ⊢)))) | ((((with_reducible show wpAny _ _ (binaryOp Operator.Mod (Value.str _ _) (Value.ref _)) _ _ _); refine Mine.mod_bad (by (first | assumption | exact News.isTup (by assumption) (by k_mem) | exact stays_tup (Fr.keep (by assumption)) (by assumption) | exact stays_tup (Fr.keep (by assumption)) (stays_tup (Fr.keep (by assumption)) (by assumption)))) (Mine.ThsAre.keeps (Fr.keep (by assumption)) (Mine.ThsAre.keeps (Fr.keep (by assumption)) (by assumption))) (by assumption) (by assumption) (by assumption) (Mine.SysOk.keeps (Fr.keep (by assumption)) (Mine.SysOk.keeps (Fr.keep (by assumption)) (by assumption))) rfl rfl (by ktr_units) ?_; intro hxq234 tkxq234 exq234 Nxq234))) | ((((with_reducible show wpAny _ _ (binaryOp Operator.Mod (Value.str _ _) (Value.ref _)) _ _ _); refine Mine.mod_ok (by (first | assumption | exact News.isTup (by assumption) (by k_mem) | exact stays_tup (Fr.keep (by assumption)) (by assumption) | exact stays_tup (Fr.keep (by assumption)) (stays_tup (Fr.keep (by assumption)) (by assumption)))) (Mine.Sayable.keeps (Fr.keep (by assumption)) (Mine.Sayable.keeps (Fr.keep (by assumption)) (by assumption))) (Mine.Sayable.keeps (Fr.keep (by assumption)) (Mine.Sayable.keeps (Fr.keep (by assumption)) (by assumption))) (Mine.SysOk.keeps (Fr.keep (by assumption)) (Mine.SysOk.keeps (Fr.keep (by assumption)) (by assumption))) rfl (by ktr_units) ?_; intro h9q236 t9q236 tk9q236 st9q236; (have F9 := Fr.keeps (by assumption) st9q236); (have N9 := Mine.News.stays (by assumption) st9q236)))) | ((((with_reducible show wpAny _ _ (truthy (Value.ref _)) _ _ _); first | (refine Mine.truthy_list_ne (by (first | assumption | exact News.isList (by assumption) (by k_mem) | exact stays_list (Fr.keep (by assumption)) (by assumption) | exact stays_list (Fr.keep (by assumption)) (stays_list (Fr.keep (by assumption)) (by assumption)))) (by assumption) (by assumption) (by omega) ?_; intro tk1q238) | (refine Mine.truthy_list_nil (by (first | assumption | exact News.isList (by assumption) (by k_mem) | exact stays_list (Fr.keep (by assumption)) (by assumption) | exact stays_list (Fr.keep (by assumption)) (stays_list (Fr.keep (by assumption)) (by assumption)))) ?_; intro tk1q238) | (refine Mine.truthy_tup_nil (by (first | assumption | exact News.isTup (by assumption) (by k_mem) | exact stays_tup (Fr.keep (by assumption)) (by assumption) | exact stays_tup (Fr.keep (by assumption)) (stays_tup (Fr.keep (by assumption)) (by assumption)))) ?_; intro tk1q238) | (refine Mine.truthy_empty (by (first | assumption | exact Or.inl (News.isList (by assumption) (by k_mem)) | exact Or.inr (News.isTup (by assumption) (by k_mem)) | exact Mine.Empty.keeps (Fr.keep (by assumption)) (by assumption) | exact Mine.Empty.keeps (Fr.keep (by assumption)) (Mine.Empty.keeps (Fr.keep (by assumption)) (by assumption)))) ?_; intro tk1q238)))) | ((((with_reducible show wpAny _ _ (compareOp CmpOp.NotIn (Value.ref _) (Value.ref _)) _ _ _); refine Mine.notin_sup_tup (by (first | assumption | exact News.isTup (by assumption) (by k_mem) | exact stays_tup (Fr.keep (by assumption)) (by assumption) | exact stays_tup (Fr.keep (by assumption)) (stays_tup (Fr.keep (by assumption)) (by assumption)))) (by (first | assumption | exact News.isTup (by assumption) (by k_mem) | exact stays_tup (Fr.keep (by assumption)) (by assumption) | exact stays_tup (Fr.keep (by assumption)) (stays_tup (Fr.keep (by assumption)) (by assumption)))) (by ktr_units) ?_))) | ((((with_reducible show wpAny _ _ (call (Value.builtin "isinstance") [Value.ref _, Value.type "tuple"]) _ _ _); refine Mine.isi_tuple (by (first | assumption | exact News.isTup (by assumption) (by k_mem) | exact stays_tup (Fr.keep (by assumption)) (by assumption) | exact stays_tup (Fr.keep (by assumption)) (stays_tup (Fr.keep (by assumption)) (by assumption)))) ?_))) | ((((with_reducible show wpAny _ _ (call (Value.builtin "len") [Value.ref _]) _ _ _); refine Mine.len_tup (by (first | assumption | exact News.isTup (by assumption) (by k_mem) | exact stays_tup (Fr.keep (by assumption)) (by assumption) | exact stays_tup (Fr.keep (by assumption)) (stays_tup (Fr.keep (by assumption)) (by assumption)))) (by first | assumption | (first | exact Nat.le_of_ble_eq_true rfl | (show _ ≤ 2 ^ 24; (try have hlen9 := StrsAre.length (by assumption)); (try simp only [Array.length_toList] at *); omega) | decide)) ?_; intro t2q248 tk2q248))) | (k_unfold; (try dsimp only)) | (k_end; wrow_close) | walk1 | (dsimp only; walk1) | (leave1; (try dsimp only))))
  all_goals first | (rename News _ _ _ _ => N9; exact hq _ _ _ (by assumption) (fun p hp => N9 p (by repeat' (first | exact hp | refine List.Mem.tail _ ?_))) ⟨_, rfl⟩) | skip
  all_goals (exfalso; rename @Ne Int _ 2 => hz; exact hz rfl)

end
section

/-- no pair for + -/
theorem law_told_Q {w : World} {dp un : Nat} {outer : List Env} {base : Heap} {s : Shared} {o m : Addr} {d c : Value} {tn : Tok} {items : Array Value} {ts : List Th}
   (X : (Mine.hd.heap_39 w.params).In s.heap) (T : TopH s.heap) (B : Below (AA dp outer (some []) un) base outer s.heap) (G : Gnd w base outer s.heap) (hd : dp + 10 < recursionLimit) (hu : un + 100 < cLine)
   (hl0 : Empty s.heap o) (hl : IsTup s.heap m items) (hi : ThsAre s.heap items.toList ts) (hn : ∀ i, Th.n i ∈ ts → i.natAbs.log2 < 1920) (hw : ∀ x ∈ ts, x.shown.length ≤ 1000000) (hlen : ts.length ≠ 2) (hsz : items.size ≤ 2 ^ 24) (hsys : SysOk s.heap) :
   codeAny (model P w) (AA dp outer (some []) un) (.call (.ref 77) ⟨[.ref o, .ref m, .str "+" tn, d, c], []⟩) (RetS (framesOf outer) s fun r h' => Told s.heap h' r #[]) s := by
  refine law_told_bad X T B G hd hu ?_
  intro L' h' tk x dd mp k1 k2 k3 k4 k5 mean mg mb QQ EE T' F N hq
  clear G
  unfold toldScope
  have N' := N
  unfold actLed at N
  have hd8 : dp + 1 + 1 < recursionLimit := by omega
  (repeat' (first | ((((with_reducible show wpAny _ _ (leaving _ (Value.ref _)) _ _ _); refine W.leave_newS (by assumption) (by assumption) (by assumption) (by assumption) ?_; intro hzq252 Rzq252 RNzq252 Uzq252; (try dsimp only at Rzq252 Uzq252 ⊢)))) | ((((with_reducible show wpAny _ _ (binaryOp Operator.Mod (Value.str _ _) (Value.ref _)) _ _ _); refine Mine.mod_bad (by (first | assumption | exact News.isTup (by assumption) (by k_mem) | exact stays_tup (Fr.keep (by assumption)) (by assumption) | exact stays_tup (Fr.keep (by assumption)) (stays_tup (Fr.keep (by assumption)) (by assumption)))) (Mine.ThsAre.keeps (Fr.keep (by assumption)) (Mine.ThsAre.keeps (Fr.keep (by assumption)) (by assumption))) (by assumption) (by assumption) (by assumption) (Mine.SysOk.keeps (Fr.keep (by assumption)) (Mine.SysOk.keeps (Fr.keep (by assumption)) (by assumption))) rfl rfl (by ktr_units) ?_; intro hxq253 tkxq253 exq253 Nxq253))) | ((((with_reducible show wpAny _ _ (binaryOp Operator.Mod (Value.str _ _) (Value.ref _)) _ _ _); refine Mine.mod_ok (by (first | assumption | exact News.isTup (by assumption) (by k_mem) | exact stays_tup (Fr.keep (by assumption)) (by assumption) | exact stays_tup (Fr.keep (by assumption)) (stays_tup (Fr.keep (by assumption)) (by assumption)))) (Mine.Sayable.keeps (Fr.keep (by assumption)) (Mine.Sayable.keeps (Fr.keep (by assumption)) (by assumption))) (Mine.Sayable.keeps (Fr.keep (by assumption)) (Mine.Sayable.keeps (Fr.keep (by assumption)) (by assumption))) (Mine.SysOk.keeps (Fr.keep (by assumption)) (Mine.SysOk.keeps (Fr.keep (by assumption)) (by assumption))) rfl (by ktr_units) ?_; intro h9q255 t9q255 tk9q255 st9q255; (have F9 := Fr.keeps (by assumption) st9q255); (have N9 := Mine.News.stays (by assumption) st9q255)))) | ((((with_reducible show wpAny _ _ (truthy (Value.ref _)) _ _ _); first | (refine Mine.truthy_list_ne (by (first | assumption | exact News.isList (by assumption) (by k_mem) | exact stays_list (Fr.keep (by assumption)) (by assumption) | exact stays_list (Fr.keep (by assumption)) (stays_list (Fr.keep (by assumption)) (by assumption)))) (by assumption) (by assumption) (by omega) ?_; intro tk1q257) | (refine Mine.truthy_list_nil (by (first | assumption | exact News.isList (by assumption) (by k_mem) | exact stays_list (Fr.keep (by assumption)) (by assumption) | exact stays_list (Fr.keep (by assumption)) (stays_list (Fr.keep (by assumption)) (by assumption)))) ?_; intro tk1q257) | (refine Mine.truthy_tup_nil (by (first | assumption | exact News.isTup (by assumption) (by k_mem) | exact stays_tup (Fr.keep (by assumption)) (by assumption) | exact stays_tup (Fr.keep (by assumption)) (stays_tup (Fr.keep (by assumption)) (by assumption)))) ?_; intro tk1q257) | (refine Mine.truthy_empty (by (first | assumption | exact Or.inl (News.isList (by assumption) (by k_mem)) | exact Or.inr (News.isTup (by assumption) (by k_mem)) | exact Mine.Empty.keeps (Fr.keep (by assumption)) (by assumption) | exact Mine.Empty.keeps (Fr.keep (by assumption)) (Mine.Empty.keeps (Fr.keep (by assumption)) (by assumption)))) ?_; intro tk1q257)))) | ((((with_reducible show wpAny _ _ (compareOp CmpOp.NotIn (Value.ref _) (Value.ref _)) _ _ _); refine Mine.notin_sup_tup (by (first | assumption | exact News.isTup (by assumption) (by k_mem) | exact stays_tup (Fr.keep (by assumption)) (by assumption) | exact stays_tup (Fr.keep (by assumption)) (stays_tup (Fr.keep (by assumption)) (by assumption)))) (by (first | assumption | exact News.isTup (by assumption) (by k_mem) | exact stays_tup (Fr.keep (by assumption)) (by assumption) | exact stays_tup (Fr.keep (by assumption)) (stays_tup (Fr.keep (by assumption)) (by assumption)))) (by ktr_units) ?_))) | ((((with_reducible show wpAny _ _ (call (Value.builtin "isinstance") [Value.ref _, Value.type "tuple"]) _ _ _); refine Mine.isi_tuple (by (first | assumption | exact News.isTup (by assumption) (by k_mem) | exact stays_tup (Fr.keep (by assumption)) (by assumption) | exact stays_tup (Fr.keep (by assumption)) (stays_tup (Fr.keep (by assumption)) (by assumption)))) ?_))) | ((((with_reducible show wpAny _ _ (call (Value.builtin "len") [Value.ref _]) _ _ _); refine Mine.len_tup (by (first | assumption | exact News.isTup (by assumption) (by k_mem) | exact stays_tup (Fr.keep (by assumption)) (by assumption) | exact stays_tup (Fr.keep (by assumption)) (stays_tup (Fr.keep (by assumption)) (by assumption)))) (by first | assumption | (first | exact Nat.le_of_ble_eq_true rfl | (show _ ≤ 2 ^ 24; (try have hlen9 := StrsAre.length (by assumption)); (try simp only [Array.length_toList] at *); omega) | decide)) ?_; intro t2q267 tk2q267))) | (k_unfold; (try dsimp only)) | (k_end; wrow_close) | walk1 | (dsimp only; walk1) | (leave1; (try dsimp only))))
  all_goals exact hq _ _ _ _ _ (by assumption) (by assumption) (by assumption)

end
end
section
local macro_rules | `(tactic| walk_at "binaryOp Add str str") => `(tactic| ((with_reducible show wpAny _ _ (binaryOp Operator.Add (Value.str _ _) (Value.str _ _)) _ _ _); refine Mine.add_le (by assumption) (by assumption) (by decide) ?_; intro t8 k8 hl8))
local macro_rules | `(tactic| walk_at "inplaceOp Add str str") => `(tactic| ((with_reducible show wpAny _ _ (inplaceOp Operator.Add (Value.str _ _) (Value.str _ _)) _ _ _); refine Mine.iadd_le (by assumption) (by assumption) (by decide) ?_; intro t8 k8 hl8))
section

theorem join_step (mark y : Str) {l : List Str} (h : l ≠ []) : Txt.join mark (l ++ [y]) = Txt.join mark l ++ (mark ++ y) := by
  rw [join_snoc', if_neg h, Str.append_assoc]
theorem join_nil (mark : Str) : Txt.join mark [] = Str.ofString "" := by rw [str_empty]; rfl
theorem join_first (mark y : Str) : Str.ofString "" ++ y = Txt.join mark ([] ++ [y]) := by
  rw [join_snoc', if_pos rfl, str_empty]
  exact W.KPc.empty_app y
theorem take_getD {texts : List Str} {i : Nat} (h : i < texts.length) : texts.take (i + 1) = texts.take i ++ [texts.getD ((i : Int)).toNat Str.empty] := by
  rw [List.take_add_one, Int.toNat_natCast, List.getElem?_eq_getElem h, List.getD_eq_getElem?_getD, List.getElem?_eq_getElem h]
  rfl
theorem getD_len {texts : List Str} (hw : ∀ y ∈ texts, y.length ≤ 1000) (i : Nat) : (texts.getD ((i : Int)).toNat Str.empty).length ≤ 1000 := by
  rw [List.getD_eq_getElem?_getD]
  cases e : texts[((i : Int)).toNat]? with
  | none => exact Nat.zero_le _
  | some y => exact hw y (List.mem_of_getElem? e)
theorem row_len {mark : Str} {texts : List Str} (hm : mark.length ≤ 16) (hw : ∀ y ∈ texts, y.length ≤ 1000) (hlen : texts.length ≤ 4) : (Txt.join mark texts).length ≤ 10000 := by
  have h := join_len mark texts
  have h1 : texts.length * mark.length ≤ 4 * 16 := Nat.mul_le_mul hlen hm
  have h2 : ∀ (l : List Str), (∀ y ∈ l, y.length ≤ 1000) → (l.map (·.length)).sum ≤ l.length * 1000 := by
    intro l
    induction l with
    | nil => intro _; simp
    | cons a l ih =>
      intro hl
      have := ih fun y hy => hl y (.tail _ hy)
      have ha := hl a (.head _)
      simp only [List.map_cons, List.sum_cons, List.length_cons]
      omega
  have := h2 texts hw
  omega
theorem nilAt {h₀ h : Heap} {L : Addr} {m : Str → Option Value} (_F : Fr h₀ L h m) : News h₀ L h [] := fun _ hp => nomatch hp
theorem law_row {w : World} {dp un : Nat} {outer : List Env} {gd : Option (List Code)} {base : Heap} {s : Shared} {l : Addr} {mark : Str} {tm : Tok} {items : Array Value} {texts : List Str}
   (X : (Mine.hd.heap_39 w.params).In s.heap) (T : TopH s.heap) (B : Below (AA dp outer gd un) base outer s.heap) (hd : dp + 10 < recursionLimit) (hu : un + 100 < cLine)
   (hl : s.heap.IsList l items) (hi : StrsAre items.toList texts) (hlen : texts.length ≤ 4) (hm : mark.length ≤ 16) (hw : ∀ y ∈ texts, y.length ≤ 1000) :
   codeAny (model P w) (AA dp outer gd un) (.call (.ref 98) ⟨[.str mark tm, .ref l], []⟩) (Ret s fun v h' => ∃ t, v = .str (Txt.join mark texts) t) s := by
  have hsz : items.size = texts.length := by have := StrsAre.length hi; rwa [Array.length_toList] at this
  refine' Mine.enter (binds := [(Str.ofString "mark", .str mark tm), (Str.ofString "texts", .ref l)]) (by with_reducible assumption) (by assumption) ?k6 ?k7 ?k8 ?k9 ?kB ?_ ?c2 ?c3 ?c4 ?c5
  (((case k6 => k_is); (case k7 => k_is); (case k8 => exact Mine.room0 (by assumption)); (case k9 => exact BindsTo.of_eq rfl); (case kB => exact locs rfl); (case c5 => decide); (case c2 => rfl); (case c3 => rfl); (case c4 => rfl); intro L'q270 h₁q270 meanq270 mgq270 mbq270 Fq270 Nq270 T'q270; dsimp only [List.reverse, List.reverseAux, List.length] at Fq270 ⊢; k_fold))
  (repeat' (((first | ((fail_if_success (with_reducible show wpAny _ _ (exec (Stmt.While _ _ _ _) _) _ _ _)); (fail_if_success (with_reducible show wpAny _ _ (exec (Stmt.For _ _ _ _ _) _) _ _ _)); (fail_if_success (with_reducible show wpAny _ _ (eval (PySem.Expr.ListComp _ _ _ _) _) _ _ _)); (fail_if_success (with_reducible show wpAny _ _ (exec (PySem.Stmt.Assign _ (PySem.Expr.ListComp _ _ _ _) _) _) _ _ _)); (fail_if_success (with_reducible show wpAny _ _ (call (Value.ref _) _) _ _ _)); (fail_if_success (with_reducible show wpAny _ _ (pyIter (Value.ref _)) _ _ _)); (fail_if_success (show LCg.CompSrc _ _ _ _ _ _ _ _ _ _ _ _ _ _)); first | (k_unfold; (try dsimp only)) | (k_end; wrow_close) | walk1 | (dsimp only; walk1) | (leave1; (try dsimp only)))))))
  refine wpAny_For ?_
  (repeat' (((first | ((fail_if_success (with_reducible show wpAny _ _ (exec (Stmt.While _ _ _ _) _) _ _ _)); (fail_if_success (with_reducible show wpAny _ _ (exec (Stmt.For _ _ _ _ _) _) _ _ _)); (fail_if_success (with_reducible show wpAny _ _ (eval (PySem.Expr.ListComp _ _ _ _) _) _ _ _)); (fail_if_success (with_reducible show wpAny _ _ (exec (PySem.Stmt.Assign _ (PySem.Expr.ListComp _ _ _ _) _) _) _ _ _)); (fail_if_success (with_reducible show wpAny _ _ (call (Value.ref _) _) _ _ _)); (fail_if_success (with_reducible show wpAny _ _ (pyIter (Value.ref _)) _ _ _)); (fail_if_success (show LCg.CompSrc _ _ _ _ _ _ _ _ _ _ _ _ _ _)); first | (k_unfold; (try dsimp only)) | (k_end; wrow_close) | walk1 | (dsimp only; walk1) | (leave1; (try dsimp only)))))))
  rename News _ _ _ _ => NL
  rename Fr _ _ _ _ => FL
  rename IsRange _ _ _ _ _ _ _ _ => hrng
  rename StrsAre _ _ => hi
  refine iter_range (n := texts.length) (fun i m h => ∃ t ex, m = fun y => List.lookup y ((Str.ofString "texts", Value.ref l) :: (Str.ofString "mark", Value.str mark tm) :: (Str.ofString "row", Value.str (Txt.join mark (texts.take i)) t) :: ex)) hrng (small_one (by omega) (by omega) (by omega) (by omega)) (by rw [rangeSize_nat]; omega) FL ?h0 ?_ ?_ ?_
  case h0 =>
    exact ⟨_, [], by rw [List.take_zero, join_nil]; (((simp only [← Mine.mset_at]); rfl))⟩
  · intro i m h h' hj hk
    exact hj
  · intro i m₁ h tk t hi' hj hI hI0 hIL F₁
    obtain ⟨t0, ex, rfl⟩ := hj
    have htk := take_getD hi'
    have hyl := getD_len hw i
    have hrl := row_len (mark := mark) (texts := texts.take i) hm (fun y hy => hw y (List.mem_of_mem_take hy)) (by rw [List.length_take]; omega)
    simp only [Int.mul_one, Int.zero_add] at F₁
    have N₁ := News.add (nilAt F₁) (p := (_, _)) hI hIL hI0
    clear NL FL
    (repeat' (((first | ((fail_if_success (with_reducible show wpAny _ _ (exec (Stmt.While _ _ _ _) _) _ _ _)); (fail_if_success (with_reducible show wpAny _ _ (exec (Stmt.For _ _ _ _ _) _) _ _ _)); (fail_if_success (with_reducible show wpAny _ _ (eval (PySem.Expr.ListComp _ _ _ _) _) _ _ _)); (fail_if_success (with_reducible show wpAny _ _ (exec (PySem.Stmt.Assign _ (PySem.Expr.ListComp _ _ _ _) _) _) _ _ _)); (fail_if_success (with_reducible show wpAny _ _ (call (Value.ref _) _) _ _ _)); (fail_if_success (with_reducible show wpAny _ _ (pyIter (Value.ref _)) _ _ _)); (fail_if_success (show LCg.CompSrc _ _ _ _ _ _ _ _ _ _ _ _ _ _)); first | (k_unfold; (try dsimp only)) | (k_end; wrow_close) | walk1 | (dsimp only; walk1) | (leave1; (try dsimp only)))))))
    · rename (i : Int) = 0 => hz
      have e : Txt.join mark (texts.take (i + 1)) = Txt.join mark (texts.take i) ++ texts.getD ((i : Int)).toNat Str.empty := by
        obtain rfl : i = 0 := by omega
        rw [htk, List.take_zero, join_nil, join_first]
      rename News _ _ _ _ => N9
      exact TurnH.intro (by assumption) (N9 _ (.head _)).1 ⟨_, _, by rw [e]; (((simp only [← Mine.mset_at]); rfl))⟩
    · rename (i : Int) ≠ 0 => hz
      have e : Txt.join mark (texts.take (i + 1)) = Txt.join mark (texts.take i) ++ (mark ++ texts.getD ((i : Int)).toNat Str.empty) := by
        rw [htk]
        refine join_step mark _ fun q => ?_
        have := congrArg List.length q
        rw [List.length_take, List.length_nil] at this
        omega
      rename News _ _ _ _ => N9
      exact TurnH.intro (by assumption) (N9 _ (.head _)).1 ⟨_, _, by rw [e]; (((simp only [← Mine.mset_at]); rfl))⟩
  · intro m₁ h tk hj F₁
    obtain ⟨t0, ex, rfl⟩ := hj
    rw [List.take_length] at F₁
    clear NL FL
    (repeat' (((first | ((fail_if_success (with_reducible show wpAny _ _ (exec (Stmt.While _ _ _ _) _) _ _ _)); (fail_if_success (with_reducible show wpAny _ _ (exec (Stmt.For _ _ _ _ _) _) _ _ _)); (fail_if_success (with_reducible show wpAny _ _ (eval (PySem.Expr.ListComp _ _ _ _) _) _ _ _)); (fail_if_success (with_reducible show wpAny _ _ (exec (PySem.Stmt.Assign _ (PySem.Expr.ListComp _ _ _ _) _) _) _ _ _)); (fail_if_success (with_reducible show wpAny _ _ (call (Value.ref _) _) _ _ _)); (fail_if_success (with_reducible show wpAny _ _ (pyIter (Value.ref _)) _ _ _)); (fail_if_success (show LCg.CompSrc _ _ _ _ _ _ _ _ _ _ _ _ _ _)); first | (k_unfold; (try dsimp only)) | (k_end; wrow_close) | walk1 | (dsimp only; walk1) | (leave1; (try dsimp only)))))))
    (((try k_unfold); (try dsimp only); refine Mine.ret_of (Fr.keep (by assumption)) ?_ rfl))
    exact ⟨_, rfl⟩

end
end
section
/-- the items of a list that holds one text, nothing, or none -/
inductive Flat : Array Value → List PyData → Prop
  | nil : Flat #[] []
  | str (x : Str) (t : Tok) : Flat #[.str x t] [.str x]
  | none : Flat #[.none] [.none]
def ToldD (h h' : Heap) (v : Value) (D : List PyData) : Prop := ∃ l items k, v = .ref l ∧ h'.get? l = some (W.listOf items k) ∧ h.get? l = none ∧ Flat items D
theorem Told.flat {h h' : Heap} {v : Value} {items : Array Value} {D : List PyData} (x : Told h h' v items) (f : Flat items D) : ToldD h h' v D := by
  obtain ⟨l, k, e, a, b⟩ := x
  exact ⟨l, items, k, e, a, b, f⟩
/-- what holds of the things alone -/
structure Pl (ths : List Th) : Prop where
  len : ths.length ≤ 4
  num : ∀ i, Th.n i ∈ ths → i.natAbs.log2 < 1920
  short : ∀ x ∈ ths, x.shown.length ≤ 1000
theorem Pl.sum {ths : List Th} (p : Pl ths) : ((ths.map Th.shown).map (·.length)).sum + (ths.map Th.shown).length ≤ 100000 := by
  have h2 : ∀ (l : List Th), (∀ y ∈ l, y.shown.length ≤ 1000) → ((l.map Th.shown).map (·.length)).sum ≤ l.length * 1000 := by
    intro l
    induction l with
    | nil => intro _; simp
    | cons a l ih =>
      intro hl
      have := ih fun y hy => hl y (.tail _ hy)
      have ha := hl a (.head _)
      simp only [List.map_cons, List.sum_cons, List.length_cons]
      omega
  have := h2 ths p.short
  have := p.len
  rw [List.length_map]
  omega
def dueJ (mark : Str) (ths : List Th) : List PyData := if ths.all Th.isStr = true then [.str (Txt.join mark (ths.map Th.shown))] else []
def dueO (ths : List Th) : List PyData := if ths = [] then [.str "d"] else dueJ "/" ths
def dueP : List Th → List PyData
  | [x, y] => [.str (x.shown ++ "[, " ++ y.shown ++ "]")]
  | _ => []
/-- the kinds of nargs -/
inductive Nk
  | no | star | plus | int (i : Int)
inductive IsNk : Value → Nk → Prop
  | no : IsNk .none .no
  | star (t : Tok) : IsNk (.str "*" t) .star
  | plus (t : Tok) : IsNk (.str "+" t) .plus
  | int (i : Int) (t : Tok) : IsNk (.int i t) (.int i)
def dueM (ths : List Th) : Nk → List PyData
  | .plus => dueP ths
  | .star => if ths.length = 2 then dueP ths else dueJ ", " ths
  | _ => dueJ ", " ths
def dueC (ths : List Th) : List PyData := if ths = [] then [.none] else [.str ("{" ++ Txt.join "," (ths.map Th.shown) ++ "}")]
theorem thsAre_nil {h : Heap} {items : Array Value} (x : ThsAre h items.toList []) : items = #[] := by
  obtain ⟨l⟩ := items
  cases x
  rfl
section
variable {w : World} {dp un : Nat} {outer : List Env} {base : Heap} {s : Shared} {o m : Addr} {ths : List Th} {items : Array Value}
theorem ThsAre.len {h : Heap} (hi : ThsAre h items.toList ths) : items.size = ths.length := by
  have := hi.length
  rwa [Array.length_toList] at this
theorem Pl.split {h : Heap} (p : Pl ths) (hi : ThsAre h items.toList ths) (ht : ths.all Th.isStr = false) : ∃ l v T post, items.toList = strValues l ++ v :: post ∧ l.length ≤ 9 ∧ NoStr h v T := by
  obtain ⟨l, v, T, post, e, hl, hv⟩ := hi.split ht
  exact ⟨l, v, T, post, e, by have := p.len; omega, hv⟩
/-- the things as options -/
theorem told1 {n c : Value} {td : Tok} (X : (Mine.hd.heap_39 w.params).In s.heap) (T : TopH s.heap) (B : Below (AA dp outer (some []) un) base outer s.heap) (G : Gnd w base outer s.heap) (hd : dp + 10 < recursionLimit) (hu : un + 100 < cLine)
    (hl : s.heap.IsList o items) (hi : ThsAre s.heap items.toList ths) (p : Pl ths) :
    codeAny (model P w) (AA dp outer (some []) un) (.call (.ref 77) ⟨[.ref o, .none, n, .str "d" td, c], []⟩) (RetS (framesOf outer) s fun r h' => ToldD s.heap h' r (dueO ths)) s := by
  have hlen := hi.len
  by_cases h0 : ths = []
  · subst h0
    obtain rfl := thsAre_nil hi
    refine codeAny_mono (law_told_D (t := .s "d") X T B hd hu (.inl hl) .none (.s "d" td) nofun (fun e => absurd (Th.s.inj e) (by decide))) fun r s' h => h.toS.mono ?_
    rintro v h ⟨y, rfl, ht⟩
    exact ht.flat (.str _ _)
  · rw [dueO, if_neg h0]
    cases hs : ths.all Th.isStr with
    | true =>
      rw [dueJ, if_pos hs]
      refine codeAny_mono (law_told_A X T B hd hu hl (hi.texts hs) (by simpa using h0) p.sum) fun r s' h => h.toS.mono ?_
      rintro v h ⟨y, ⟨t, rfl⟩, ht⟩
      exact ht.flat (.str _ _)
    | false =>
      rw [dueJ, if_neg (by simp [hs])]
      obtain ⟨l, v, T0, post, e, hl9, hv⟩ := p.split hi hs
      refine codeAny_mono (law_told_J X T B G hd hu hl e hl9 (by have := p.len; omega) hv) fun r s' h => h.mono ?_
      intro v h ht
      exact ht.flat .nil
theorem ThsAre.two {h : Heap} {vs : List Value} (hi : ThsAre h vs ths) (h2 : ths.length = 2) : ∃ v1 v2 x y, vs = [v1, v2] ∧ ths = [x, y] ∧ IsTh h v1 x ∧ IsTh h v2 y := by
  cases hi with
  | nil => cases h2
  | cons a hi => cases hi with
    | nil => cases h2
    | cons b hi => cases hi with
      | nil => exact ⟨_, _, _, _, rfl, rfl, a, b⟩
      | cons c hi => simp at h2
theorem dueP_none (h2 : ths.length ≠ 2) : dueP ths = [] := by
  cases ths with
  | nil => rfl
  | cons a l => cases l with
    | nil => rfl
    | cons b l => cases l with
      | nil => exact absurd rfl h2
      | cons c l => rfl
theorem told2P {n d c : Value} {tn : Tok} (X : (Mine.hd.heap_39 w.params).In s.heap) (T : TopH s.heap) (B : Below (AA dp outer (some []) un) base outer s.heap) (hd : dp + 10 < recursionLimit) (hu : un + 100 < cLine)
    (hl0 : Empty s.heap o) (hl : IsTup s.heap m items) (hi : ThsAre s.heap items.toList ths) (p : Pl ths) (hsys : SysOk s.heap) (h2 : ths.length = 2) (hn : n = .str "*" tn ∨ n = .str "+" tn) :
    codeAny (model P w) (AA dp outer (some []) un) (.call (.ref 77) ⟨[.ref o, .ref m, n, d, c], []⟩) (RetS (framesOf outer) s fun r h' => ToldD s.heap h' r (dueP ths)) s := by
  obtain ⟨v1, v2, x, y, e1, e2, h1, h3⟩ := hi.two h2
  subst e2
  obtain ⟨items⟩ := items
  dsimp only at e1
  subst e1
  refine codeAny_mono (law_told_P X T B hd hu hl0 hl ⟨h1, fun i e => p.num i (by rw [e]; exact .head _), Nat.le_trans (p.short x (.head _)) (by decide)⟩ ⟨h3, fun i e => p.num i (by rw [e]; exact .tail _ (.head _)), Nat.le_trans (p.short y (.tail _ (.head _))) (by decide)⟩ hsys hn) fun r s' h => h.toS.mono ?_
  rintro v h ⟨y, ⟨t, rfl⟩, ht⟩
  exact ht.flat (.str _ _)
theorem told2R {n d c : Value} (X : (Mine.hd.heap_39 w.params).In s.heap) (T : TopH s.heap) (B : Below (AA dp outer (some []) un) base outer s.heap) (G : Gnd w base outer s.heap) (hd : dp + 10 < recursionLimit) (hu : un + 100 < cLine)
    (hl0 : Empty s.heap o) (hl : IsTup s.heap m items) (hi : ThsAre s.heap items.toList ths) (p : Pl ths) (hn : n = .none ∨ (∃ i t, n = .int i t) ∨ (∃ x t, n = .str x t ∧ x ≠ "+" ∧ (x = "*" → ths.length ≠ 2))) :
    codeAny (model P w) (AA dp outer (some []) un) (.call (.ref 77) ⟨[.ref o, .ref m, n, d, c], []⟩) (RetS (framesOf outer) s fun r h' => ToldD s.heap h' r (dueJ ", " ths)) s := by
  have hlen := hi.len
  have hp := p.len
  cases hs : ths.all Th.isStr with
  | true =>
    rw [dueJ, if_pos hs]
    refine codeAny_mono (law_told_F X T B hd hu hl0 hl (hi.texts hs) p.sum (by rw [List.length_map]; exact hn)) fun r s' h => h.toS.mono ?_
    rintro v h ⟨y, ⟨t, rfl⟩, ht⟩
    exact ht.flat (.str _ _)
  | false =>
    rw [dueJ, if_neg (by simp [hs])]
    obtain ⟨l, v, T0, post, e, hl9, hv⟩ := p.split hi hs
    refine codeAny_mono (law_told_K X T B G hd hu hl0 hl e hl9 (by omega) hv (by rw [hlen]; exact hn)) fun r s' h => h.mono ?_
    intro v h ht
    exact ht.flat .nil
theorem told2Q {d c : Value} {tn : Tok} (X : (Mine.hd.heap_39 w.params).In s.heap) (T : TopH s.heap) (B : Below (AA dp outer (some []) un) base outer s.heap) (G : Gnd w base outer s.heap) (hd : dp + 10 < recursionLimit) (hu : un + 100 < cLine)
    (hl0 : Empty s.heap o) (hl : IsTup s.heap m items) (hi : ThsAre s.heap items.toList ths) (p : Pl ths) (hsys : SysOk s.heap) :
    codeAny (model P w) (AA dp outer (some []) un) (.call (.ref 77) ⟨[.ref o, .ref m, .str "+" tn, d, c], []⟩) (RetS (framesOf outer) s fun r h' => ToldD s.heap h' r (dueP ths)) s := by
  by_cases h2 : ths.length = 2
  · exact told2P X T B hd hu hl0 hl hi p hsys h2 (.inr rfl)
  · have hlen := hi.len
    have hp := p.len
    rw [dueP_none h2]
    refine codeAny_mono (law_told_Q X T B G hd hu hl0 hl hi p.num (fun x hx => Nat.le_trans (p.short x hx) (by decide)) h2 (by omega) hsys) fun r s' h => h.mono ?_
    intro v h ht
    exact ht.flat .nil
/-- the things as a tuple of metavars -/
theorem told2 {n d c : Value} {k : Nk} (X : (Mine.hd.heap_39 w.params).In s.heap) (T : TopH s.heap) (B : Below (AA dp outer (some []) un) base outer s.heap) (G : Gnd w base outer s.heap) (hd : dp + 10 < recursionLimit) (hu : un + 100 < cLine)
    (hl0 : Empty s.heap o) (hl : IsTup s.heap m items) (hi : ThsAre s.heap items.toList ths) (p : Pl ths) (hsys : SysOk s.heap) (hk : IsNk n k) :
    codeAny (model P w) (AA dp outer (some []) un) (.call (.ref 77) ⟨[.ref o, .ref m, n, d, c], []⟩) (RetS (framesOf outer) s fun r h' => ToldD s.heap h' r (dueM ths k)) s := by
  cases hk with
  | no => exact told2R X T B G hd hu hl0 hl hi p (.inl rfl)
  | int i t => exact told2R X T B G hd hu hl0 hl hi p (.inr (.inl ⟨_, _, rfl⟩))
  | plus t => exact told2Q X T B G hd hu hl0 hl hi p hsys
  | star t =>
    rw [dueM]
    by_cases h2 : ths.length = 2
    · rw [if_pos h2]; exact told2P X T B hd hu hl0 hl hi p hsys h2 (.inl rfl)
    · rw [if_neg h2]; exact told2R X T B G hd hu hl0 hl hi p (.inr (.inr ⟨_, _, rfl, by decide, fun _ => h2⟩))
/-- the things as choices -/
theorem told3 {n d mv : Value} (X : (Mine.hd.heap_39 w.params).In s.heap) (T : TopH s.heap) (B : Below (AA dp outer (some []) un) base outer s.heap) (hd : dp + 10 < recursionLimit) (hu : un + 100 < cLine)
    (hl0 : Empty s.heap o) (hm : Hidden mv) (hdd : Hidden d) (hl : s.heap.IsList m items) (hi : ThsAre s.heap items.toList ths) (p : Pl ths) (hsys : SysOk s.heap) :
    codeAny (model P w) (AA dp outer (some []) un) (.call (.ref 77) ⟨[.ref o, mv, n, d, .ref m], []⟩) (Ret s fun r h' => ToldD s.heap h' r (dueC ths)) s := by
  by_cases h0 : ths = []
  · subst h0
    obtain rfl := thsAre_nil hi
    refine codeAny_mono (law_told_N X T B hd hu hl0 hm hdd (.inl hl)) fun r s' h => h.mono ?_
    rintro v h ⟨y, rfl, ht⟩
    exact ht.flat .none
  · rw [dueC, if_neg h0]
    refine codeAny_mono (law_told_C X T B hd hu hl0 hm hdd hl hi h0 (by have := p.len; omega) p.num hsys p.sum) fun r s' h => h.mono ?_
    rintro v h ⟨y, ⟨t, rfl⟩, ht⟩
    exact ht.flat (.str _ _)
end

end
section
def Th.ty : Th → String
  | .s _ => "str"
  | .n _ => "int"
  | .none => "NoneType"
  | .b _ => "bool"
  | .lst => "list"
  | .tup => "tuple"
  | .dct => "dict"
section
variable {prog : Program} {w : World} {A : Around} {E : Value → Shared → Prop} {s : Shared}
theorem IsTh.typeIs {v : Value} {t : Th} (x : IsTh s.heap v t) : s.TypeIs v t.ty := by
  cases x with
  | s x t => exact typeIs_str s x t
  | n i t => exact typeIs_int s i t
  | none => exact rfl
  | b c => exact rfl
  | lst ho hc hd => exact ⟨_, ho, hc⟩
  | tup ho => obtain ⟨o, ho, hc, _⟩ := ho; exact ⟨o, ho, hc⟩
  | dct ho hc hd => exact ⟨_, ho, hc⟩
theorem IsTh.type {v : Value} {t : Th} {Q : Value → Shared → Prop} (x : IsTh s.heap v t) (h : Q (.type t.ty) s) : wpAny (model prog w) A (call (.type "type") [v]) Q E s :=
  call_type_of x.typeIs (by cases t <;> (dsimp only [Th.ty]; decide)) h
theorem ty_isNot {t : Th} {Q : Value → Shared → Prop} (h : Q (.bool (!t.isStr)) s) : wpAny (model prog w) A (compareOp .IsNot (.type t.ty) (.type "str")) Q E s := by
  cases t with
  | s _ => exact wpAny_isNot_self (by rfl) h
  | _ => exact wpAny_isNot_other (by rfl) (by dsimp only [Th.ty]; decide) h
theorem ty_isNot_t {t : Th} {Q : Value → Shared → Prop} (hb : t.isStr = true) (h : Q (.bool false) s) : wpAny (model prog w) A (compareOp .IsNot (.type t.ty) (.type "str")) Q E s := ty_isNot (by rw [hb]; exact h)
theorem ty_isNot_f {t : Th} {Q : Value → Shared → Prop} (hb : t.isStr = false) (h : Q (.bool true) s) : wpAny (model prog w) A (compareOp .IsNot (.type t.ty) (.type "str")) Q E s := ty_isNot (by rw [hb]; exact h)
end
/-- a comprehension with a test, by an invariant over what it has taken -/
theorem filt_rest {prog : Program} {w : World} {A : Around} {h₀ : Heap} {L : Addr} {m : Str → Option Value} {env : Env} {ct elt : PySem.Expr} {x : Str} {scope : Scope} {cl : List (Str × Addr)} {s : Shared} {S : List (Addr × Obj) → Prop} {P : Nat → Value → Prop} {Fin : List Value → List (Addr × Obj) → Prop} {news : List (Addr × Obj)} {n : Nat} (Inv : Nat → List Value → Prop)
    (turn : ∀ i v I oI C oC D m₂ ys h tk (E' : Value → Shared → Prop), i < n → P i v → Inv i ys → LCg.NsObj oC m₂ → m₂ x = some v → Fr h₀ L h m → News h₀ L h ((I, oI) :: (C, oC) :: (D, LCg.lst ys) :: news) → LCg.Off3 I C D news → ((@Ne Nat I C) ∧ (@Ne Nat I D) ∧ (@Ne Nat C D)) →
      wpAny (model prog w) A (isTrue ct (compEnvC scope cl C env) (eval ct (compEnvC scope cl C env))) (fun ok s' => if ok = true then
        wpAny (model prog w) A (eval elt (compEnvC scope cl C env)) (LCg.CompEnd h₀ L m { s with heap := h, toks := tk } I oI C oC D (LCg.lst ys) S (fun y news' => news' = news ∧ Inv (i + 1) (ys ++ [y]))) E' s'
        else LCg.CompEnd h₀ L m { s with heap := h, toks := tk } I oI C oC D (LCg.lst ys) S (fun _ news' => news' = news ∧ Inv (i + 1) ys) Value.none s') E' { s with heap := h, toks := tk })
    (h0 : Inv 0 []) (fin : ∀ ys : List Value, Inv n ys → Fin ys news) : LCt.CompRestT prog w A h₀ L m env ct elt x scope cl s S P Fin n 0 [] news := by
  have key : ∀ (j i : Nat) (ys : List Value), i + j = n → Inv i ys → LCt.CompRestT prog w A h₀ L m env ct elt x scope cl s S P Fin j i ys news := by
    intro j
    induction j with
    | zero =>
      intro i ys hi hy
      have : i = n := by omega
      subst this
      exact LCt.CompRestT.zero (fin ys hy)
    | succ j ih =>
      intro i ys hi hy
      refine LCt.CompRestT.succ ?_
      intro v I oI C oC D m₂ h tk E' hv hC hx F N off ne
      refine wpAny_mono (turn i v I oI C oC D m₂ ys h tk E' (by omega) hv hy hC hx F N off ne) (fun ok s₂ hq => ?_) fun _ _ e => e
      cases ok with
      | true =>
        simp only [if_true] at hq ⊢
        refine wpAny_mono hq (fun y s₃ hz => ?_) fun _ _ e => e
        obtain ⟨h', tk', nw, e, F', N', off', hS, rfl, hy'⟩ := hz
        exact ⟨h', tk', _, e, F', N', off', hS, ih (i + 1) _ (by omega) hy'⟩
      | false =>
        simp only [Bool.false_eq_true, if_false] at hq ⊢
        obtain ⟨h', tk', nw, e, F', N', off', hS, rfl, hy'⟩ := hq
        exact ⟨h', tk', _, e, F', N', off', hS, ih (i + 1) _ (by omega) hy'⟩
  exact key n 0 [] (by omega) h0

end
section
def emptyH : Heap := { objs := #[] }
theorem emptyH_none (b : Addr) : emptyH.get? b = none := rfl
theorem frE {h : Heap} {L : Addr} {m : Str → Option Value} (n : h.Ns L m) : Fr emptyH L h m := ⟨n, (fun b o e => by rw [emptyH_none] at e; cases e), Nat.zero_le _⟩
/-- a base that calls with raising callees may have turned -/
structure Rel (w : World) (A₀ : Around) (base hB : Heap) (outer : List Env) (g : Heap) : Prop where
  T : W.KtsTurn (framesOf outer) hB g
  B : Below A₀ base outer g
  G : Gnd w base outer g
def TurnS (w : World) (A₀ : Around) (base hB : Heap) (outer : List Env) (L : Addr) (s : Shared) (Q : Flow → Shared → Prop) (LED : List (Addr × Obj)) (Inv : (Str → Option Value) → Prop) (f : Flow) (s' : Shared) : Prop :=
  match f with
  | .ret v => Q (.ret v) s'
  | .brk => Q .next s'
  | _ => ∃ g h' tk' m', s' = { s with heap := h', toks := tk' } ∧ Rel w A₀ base hB outer g ∧ Fr g L h' m' ∧ News g L h' LED ∧ Inv m'
theorem TurnS.intro {w : World} {A₀ : Around} {base hB g : Heap} {outer : List Env} {L : Addr} {s : Shared} {Q : Flow → Shared → Prop} {LED news : List (Addr × Obj)} {Inv : (Str → Option Value) → Prop} {h' : Heap} {tk' : Nat} {m' : Str → Option Value}
    (R : Rel w A₀ base hB outer g) (F : Fr g L h' m') (N : News g L h' news) (hs : ∀ p ∈ LED, p ∈ news) (j : Inv m') : TurnS w A₀ base hB outer L s Q LED Inv .next { s with heap := h', toks := tk' } := ⟨g, h', tk', m', rfl, R, F, fun p hp => N p (hs p hp), j⟩
/-- for x in a tuple, the turns calling what may raise within -/
theorem iter_tupS {prog : Program} {w : World} {A A₀ : Around} {s : Shared} {env : Env} {base hB h₀ : Heap} {outer : List Env} {E : Value → Shared → Prop} {Q : Flow → Shared → Prop} {x : Str} {px : Pos} {body : List Stmt} {l : Addr} {items : Array Value} {k : Nat} {m₀ : Str → Option Value} {LED : List (Addr × Obj)}
    (Inv : Nat → (Str → Option Value) → Prop) (hl : (l, ({ cls := .type "tuple", data := .seq items k } : Obj)) ∈ LED) (R : Rel w A₀ base hB outer h₀) (F : Fr h₀ env.locals s.heap m₀) (N : News h₀ env.locals s.heap LED) (h0 : Inv 0 m₀)
    (turn : ∀ g I oI i v m₁ h tk, Rel w A₀ base hB outer g → items[i]? = some v → Inv i m₁ → Fr g env.locals h (fun y => if y = x then some v else m₁ y) → News g env.locals h ((I, oI) :: LED) →
      wpAny (model prog w) A (execs body env) (TurnS w A₀ base hB outer env.locals s Q ((I, oI) :: LED) (Inv (i + 1))) E { s with heap := h, toks := tk })
    (done : ∀ g m₁ h tk, Rel w A₀ base hB outer g → Inv items.size m₁ → Fr g env.locals h m₁ → News g env.locals h LED → Q .next { s with heap := h, toks := tk })
    (hh : A.handled = none := by rfl) (hx : env.kindOf x = some .local := by rfl)
    (hp : (env.scope.kind == .class || (env.scope.kind == .module && env.locals != env.globals)) = false := by rfl)
    (hE : PassesOwn (model prog w) A env E := by passes_own) :
    wpAny (model prog w) A (pyIter (.ref l)) (fun it s₂ => codeAny (model prog w) A (.forLoop (.Name x px) it body [] env) (fun r s' => match r with | .ok f => Q f s' | .error e => cameBackBy (model prog w) A env E e s') s₂) E s := by
  have isT : ∀ {g h : Heap}, News g env.locals h LED → IsTup h l items := fun n => ⟨_, (n _ hl).1, rfl, _, rfl⟩
  have hBn : hB.get? s.heap.objs.size = none := turn_none R.T (none_at_size F)
  have old := News.old N
  refine iter_tup (h₀ := emptyH) (fun i m h => Inv i m ∧ ∃ g, Rel w A₀ base hB outer g ∧ g.StaysIn h ∧ g.objs.size ≤ env.locals ∧ News g env.locals h LED) (isT N) (frE F.ns) ⟨h0, h₀, R, F.keep, F.above, N⟩ ?_ ?_ ?_ hh hx hp hE
  · rintro i m h h' ⟨hi, g, Rg, kg, ab, Ng⟩ hk
    refine ⟨hi, g, Rg, fun b o e => hk b o ?_ ?_ (kg b o e), ab, News.but Ng old hk⟩
    · rintro rfl
      rw [Rg.T.none_ _ hBn] at e; cases e
    · rintro rfl
      exact absurd (Nat.lt_of_lt_of_le (Heap.lt_size e) ab) (Nat.lt_irrefl _)
  · rintro i v m₁ h tk hv ⟨hi, g, Rg, kg, ab, Ng⟩ hI hT _ hIL F₁
    obtain ⟨oI, hoI, hIr⟩ := id hI
    have N₂ : News g env.locals h ((s.heap.objs.size, oI) :: LED) := News.add Ng hoI hIL (Rg.T.none_ _ hBn)
    refine wpAny_mono (turn g _ oI i v m₁ h tk Rg hv hi ⟨F₁.ns, kg, ab⟩ N₂) (fun f s' hq => ?_) fun _ _ e => e
    cases f with
    | ret v => exact hq
    | brk => exact hq
    | cont =>
      obtain ⟨g', h', tk', m', rfl, R', F', N', j⟩ := hq
      have N'' : News g' env.locals h' LED := fun p hp => N' p (.tail _ hp)
      exact ⟨h', tk', m', rfl, ⟨⟨oI, (N' _ (.head _)).1, hIr⟩, isT N''⟩, frE F'.ns, j, g', R', F'.keep, F'.above, N''⟩
    | next =>
      obtain ⟨g', h', tk', m', rfl, R', F', N', j⟩ := hq
      have N'' : News g' env.locals h' LED := fun p hp => N' p (.tail _ hp)
      exact ⟨h', tk', m', rfl, ⟨⟨oI, (N' _ (.head _)).1, hIr⟩, isT N''⟩, frE F'.ns, j, g', R', F'.keep, F'.above, N''⟩
  · rintro m₁ h tk ⟨hi, g, Rg, kg, ab, Ng⟩ F₁
    exact done g m₁ h tk Rg hi ⟨F₁.ns, kg, ab⟩ Ng

end
section
/-- the arguments of `_law_holds`, in a heap -/
structure HC (w : World) (base : Heap) (outer : List Env) (ths : List Th) (ta sa : Addr) (items sits : Array Value) (h : Heap) : Prop where
  X : (Mine.hd.heap_39 w.params).In h
  T : TopH h
  G : Gnd w base outer h
  L : h.IsList ta items
  I : ThsAre h items.toList ths
  LS : h.IsList sa sits
  sys : SysOk h
theorem slotted_turn {fs : List Addr} {h g : Heap} (T : W.KtsTurn fs h g) : Slotted h g := fun _ _ e => T.up e
theorem HC.turn {w : World} {A : Around} {base h g : Heap} {outer : List Env} {ths : List Th} {ta sa : Addr} {items sits : Array Value} (c : HC w base outer ths ta sa items sits h) (TT : W.KtsTurn (framesOf outer) h g) (B : Below A base outer g) (G : Gnd w base outer g) : HC w base outer ths ta sa items sits g where
  X := Frag.In.keeps G.X B.stays
  T := by obtain ⟨_, _, _, T⟩ := G.T; exact ⟨_, _, _, Top.keeps T B.stays⟩
  G := G
  L := (slotted_turn TT).isList c.L
  I := c.I.slots (slotted_turn TT)
  LS := (slotted_turn TT).isList c.LS
  sys := c.sys.slots (slotted_turn TT)
section
variable {prog : Program} {w : World} {A : Around} {E : Value → Shared → Prop} {s : Shared} {Q : Value → Shared → Prop}
theorem flat_eq {A : Around} {items items2 : Array Value} {D : List PyData} (hf : Flat items D) (hf2 : Flat items2 D) : items.size = items2.size ∧ ∀ j (h1 : j < items.size) (h2 : j < items2.size), SeqAt.EqAt A s items[j] items2[j] true := by
  cases hf with
  | nil => cases hf2; exact ⟨rfl, fun j h1 _ => absurd h1 (Nat.not_lt_zero _)⟩
  | str x t =>
    cases hf2 with
    | str _ t2 =>
      refine ⟨rfl, fun j h1 h2 => ?_⟩
      obtain rfl : j = 0 := Nat.lt_one_iff.mp h1
      have := SeqAt.EqAt.str_str (A := A) (s := s) x t x t2
      rwa [show (x == x) = true from by simp] at this
  | none =>
    cases hf2
    refine ⟨rfl, fun j h1 h2 => ?_⟩
    obtain rfl : j = 0 := Nat.lt_one_iff.mp h1
    exact SeqAt.EqAt.same _
/-- the told list against the due one -/
theorem ne_told {l d : Addr} {items items2 : Array Value} {D : List PyData} (hl : s.heap.IsList l items) (hf : Flat items D) (hd : s.heap.IsList d items2) (hf2 : Flat items2 D) (hu : A.units < cLine) (h : Q (.bool false) s) : wpAny (model prog w) A (compareOp .NotEq (.ref l) (.ref d)) Q E s := by
  obtain ⟨h1, h2⟩ := flat_eq (A := A.in1) (s := s) hf hf2
  refine SeqAt.RcNeAt.lists (e := fun _ => true) hl hd h1 hu h2 prog w E Q ?_
  rw [show ((List.range items.size).all fun _ => true) = true from List.all_eq_true.mpr fun _ _ => rfl]
  exact h
theorem eq_told {l d : Addr} {items items2 : Array Value} {D : List PyData} (hl : s.heap.IsList l items) (hf : Flat items D) (hd : s.heap.IsList d items2) (hf2 : Flat items2 D) (hu : A.units < cLine) (h : Q (.bool true) s) : wpAny (model prog w) A (compareOp .Eq (.ref l) (.ref d)) Q E s := by
  obtain ⟨h1, h2⟩ := flat_eq (A := A.in1) (s := s) hf hf2
  refine SeqAt.eq_listAt (e := fun _ => true) hl hd h1 hu h2 ?_
  rw [show ((List.range items.size).all fun _ => true) = true from List.all_eq_true.mpr fun _ _ => rfl]
  exact h
/-- a list against the empty one -/
theorem eq_nil {l d : Addr} {items : Array Value} {b : Bool} (hl : s.heap.IsList l items) (hd : s.heap.IsList d #[]) (hb : b = items.isEmpty) (hu : A.units < cLine) (h : Q (.bool b) s) : wpAny (model prog w) A (compareOp .Eq (.ref l) (.ref d)) Q E s := by
  subst hb
  cases he : items.isEmpty with
  | true =>
    have : items = #[] := by simpa using he
    subst this
    exact SeqAt.eq_listAt (e := fun _ => true) hl hd rfl hu (fun j h1 _ => absurd h1 (Nat.not_lt_zero _)) h
  | false =>
    rw [he] at h
    refine SeqAt.eq_list_lengthsAt hl hd ?_ hu h
    have : items ≠ #[] := by simpa using he
    simpa [bne_iff_ne] using this
theorem ne_nil {l d : Addr} {items : Array Value} {b : Bool} (hl : s.heap.IsList l items) (hd : s.heap.IsList d #[]) (hb : b = !items.isEmpty) (hu : A.units < cLine) (h : Q (.bool b) s) : wpAny (model prog w) A (compareOp .NotEq (.ref l) (.ref d)) Q E s := by
  subst hb
  cases he : items.isEmpty with
  | true =>
    rw [he] at h
    have : items = #[] := by simpa using he
    subst this
    exact SeqAt.RcNeAt.lists (e := fun _ => true) hl hd rfl hu (fun j h1 _ => absurd h1 (Nat.not_lt_zero _)) prog w E Q h
  | false =>
    rw [he] at h
    refine SeqAt.RcNeAt.lists_lengths hl hd ?_ hu prog w E Q h
    have : items ≠ #[] := by simpa using he
    simpa [bne_iff_ne] using this
theorem ThsAre.empty {h : Heap} {ths : List Th} {items : Array Value} (hi : ThsAre h items.toList ths) : items.isEmpty = ths.isEmpty := by
  have := hi.len
  rw [Bool.eq_iff_iff]
  constructor
  · intro e
    have e : items = #[] := by simpa using e
    subst e
    simpa using this.symm
  · intro e
    have e : ths = [] := by simpa using e
    subst e
    simpa using this
end
theorem getD_len2 {texts : List Str} (hw : ∀ y ∈ texts, y.length ≤ 1000) (i : Nat) : (texts.getD i Str.empty).length ≤ 1000 := getD_len hw i
section
variable {ths : List Th} {mark : Str} {t : Tok} {items : Array Value} {i : Int}
theorem flat_J_t (h : true = ths.all Th.isStr) : Flat #[.str (Txt.join mark (ths.map Th.shown)) t] (dueJ mark ths) := by
  rw [dueJ, if_pos h.symm]; exact .str _ _
theorem flat_J_f (h : false = ths.all Th.isStr) : Flat #[] (dueJ mark ths) := by
  rw [dueJ, if_neg (by rw [← h]; simp)]; exact .nil
theorem flat_P (hl : items.size = ths.length) (h2 : (items.size : Int) = 2) : Flat #[.str ((ths.map Th.shown).getD 0 Str.empty ++ "[, " ++ (ths.map Th.shown).getD 1 Str.empty ++ "]") t] (dueP ths) := by
  have h2 : ths.length = 2 := by omega
  cases ths with
  | nil => cases h2
  | cons x l => cases l with
    | nil => cases h2
    | cons y l => cases l with
      | nil => exact .str _ _
      | cons z l => simp at h2
theorem flat_M_plus (hl : items.size = ths.length) (h2 : (items.size : Int) = 2) : Flat #[.str ((ths.map Th.shown).getD 0 Str.empty ++ "[, " ++ (ths.map Th.shown).getD 1 Str.empty ++ "]") t] (dueM ths .plus) := flat_P hl h2
theorem flat_M_plusf (hl : items.size = ths.length) (h2 : ¬ (items.size : Int) = 2) : Flat #[] (dueM ths .plus) := by
  show Flat #[] (dueP ths)
  rw [dueP_none (by omega)]; exact .nil
theorem flat_M_star (hl : items.size = ths.length) (h2 : (items.size : Int) = 2) : Flat #[.str ((ths.map Th.shown).getD 0 Str.empty ++ "[, " ++ (ths.map Th.shown).getD 1 Str.empty ++ "]") t] (dueM ths .star) := by
  rw [dueM, if_pos (by omega)]; exact flat_P hl h2
theorem flat_star_J {its : Array Value} (hl : items.size = ths.length) (h2 : ¬ (items.size : Int) = 2) (h : Flat its (dueJ ", " ths)) : Flat its (dueM ths .star) := by
  rw [dueM, if_neg (by omega)]; exact h
end
/-- a call of `_law_told` in `_law_holds` -/
theorem call_told {w : World} {A₀ : Around} {dp un : Nat} {outer : List Env} {gd : Option (List Code)} {base hB h₀ : Heap} {ths : List Th} {ta sa : Addr} {items sits : Array Value} {cn : Str} {cs : Scope} {L a : Addr} {ccd : Value} {s : Shared} {E : Value → Shared → Prop} {Q : Value → Shared → Prop} {m : Str → Option Value} {news : List (Addr × Obj)} {f : Value} {args : List Value} {D : List PyData}
    (R : Rel w A₀ base hB outer h₀) (hc : HC w base outer ths ta sa items sits h₀) (F : Fr h₀ L s.heap m) (N : News h₀ L s.heap news) (hA : A₀ = AA dp outer gd un) (hk : cs.kind = .function)
    (hcall : Below (AA (dp + 1) (envOf cn cs L a ccd :: outer) gd (un + 3)) base (envOf cn cs L a ccd :: outer) s.heap → Gnd w base (envOf cn cs L a ccd :: outer) s.heap →
      codeAny (model P w) (AA (dp + 1) (envOf cn cs L a ccd :: outer) gd (un + 3)) (.call f ⟨args, []⟩) (RetS (framesOf (envOf cn cs L a ccd :: outer)) s fun r h' => ToldD s.heap h' r D) s)
    (h : ∀ g l its k h' tk, Rel w A₀ base hB outer g → HC w base outer ths ta sa items sits g → Fr g L h' m → News g L h' ((l, W.listOf its k) :: news) → Flat its D → Q (.ref l) { s with heap := h', toks := tk }) :
    wpAny (model P w) (A₀.deeper (envOf cn cs L a ccd)) (call f args) Q E s := by
  refine call_S R.B F N R.G hA hk hcall fun g v h' tk T F' N' B' G' sl hp => ?_
  obtain ⟨l, its, k, rfl, h1, h2, hf⟩ := hp
  have h0 : h₀.get? l = none := by
    cases q : h₀.get? l with
    | none => rfl
    | some o => have := F.keep _ _ q; rw [h2] at this; cases this
  refine h g l its k h' tk ⟨R.T.trans T, B', G'⟩ (hc.turn T B' G') F' (News.add N' h1 ?_ (T.none_ _ h0)) hf
  intro e
  obtain ⟨oL, es, ep, hL, _⟩ := F.ns
  rw [← show l = L from e, h2] at hL
  cases hL
theorem tuple_of {prog : Program} {w : World} {A : Around} {E : Value → Shared → Prop} {s : Shared} {h₀ : Heap} {L : Addr} {m : Str → Option Value} {news : List (Addr × Obj)} {l : Addr} {items : Array Value} {Q : Value → Shared → Prop} (F : Fr h₀ L s.heap m) (N : News h₀ L s.heap news) (hl : s.heap.IsList l items) (hsz : items.size ≤ 100)
    (h : ∀ D h', Fr h₀ L h' m → News h₀ L h' ((D, ({ cls := .type "tuple", data := .seq items } : Obj)) :: news) → Q (.ref D) { s with heap := h' }) : wpAny (model prog w) A (call (.type "tuple") [.ref l]) Q E s := by
  refine call_tuple_list hl (fun h' hk => ?_) (by rw [sizeLine_eq]; omega)
  have F' : Fr h₀ L h' m := F.keeps hk
  have N' : News h₀ L h' news := fun p hp => ⟨hk _ _ (N p hp).1, (N p hp).2⟩
  refine h _ _ (F'.push _) ?_
  intro p hp
  rcases List.mem_cons.mp hp with rfl | hp
  · exact ⟨Heap.get?_push_size _ rfl, Nat.ne_of_gt F'.ns.lt, none_at_end F'⟩
  · exact ⟨Heap.get?_push_of_some _ (N' p hp).1, (N' p hp).2⟩
theorem item_strs {prog : Program} {w : World} {A : Around} {E : Value → Shared → Prop} {s : Shared} {value slice : PySem.Expr} {l : Addr} {vs : Array Value} {texts : List Str} {k : Int} {u : Tok} {Q : Value → Shared → Prop}
    (hl : s.heap.IsList l vs) (hi : StrsAre vs.toList texts) (k0 : Nat) (hk : k = (k0 : Int)) (hlt : k0 < texts.length) (hn : texts.length ≤ 100) (h : ∀ t, Q (.str (texts.getD k0 Str.empty) t) s)
    (hs : subscripted slice false (.ref l) (.int k u) = operate [.ref l, .int k u] (getItem (.ref l) (.int k u)) := by with_unfolding_all rfl) :
    wpAny (model prog w) A (subscriptTail value slice (.ref l) (.int k u)) Q E s := by
  subst hk
  obtain ⟨y, t, h1, h2⟩ : ∃ y t, vs.toList[k0]? = some (.str y t) ∧ texts[k0]? = some y := by
    have key : ∀ {vs : List Value} {ts : List Str}, StrsAre vs ts → ∀ k, k < ts.length → ∃ y t, vs[k]? = some (.str y t) ∧ ts[k]? = some y := by
      intro vs ts h
      induction h with
      | nil => intro k hk; exact absurd hk (Nat.not_lt_zero _)
      | cons x t _ ih =>
        intro k hk
        cases k with
        | zero => exact ⟨_, _, rfl, rfl⟩
        | succ k => simpa using ih k (by simpa using hk)
    exact key hi k0 hlt
  refine item_at hl (by omega) (by omega) (v := .str y t) (by rw [Int.toNat_natCast, ← Array.getElem?_toList]; exact h1) ?_ hs
  have := h t
  rwa [List.getD_eq_getElem?_getD, h2, Option.getD_some] at this

end
section
/-- a text's or an int's token is told -/
def Solid (v : Value) : Prop := (∀ x t, v = .str x t → t ≠ 0) ∧ ∀ i t, v = .int i t → t ≠ 0
theorem Solid.str {x : Str} {t : Tok} (h : t ≠ 0) : Solid (.str x t) := ⟨fun _ _ e => by cases e; exact h, (fun _ _ e => nomatch e)⟩
theorem Solid.int {i : Int} {t : Tok} (h : t ≠ 0) : Solid (.int i t) := ⟨(fun _ _ e => nomatch e), fun _ _ e => by cases e; exact h⟩
theorem Solid.none : Solid .none := ⟨(fun _ _ e => nomatch e), (fun _ _ e => nomatch e)⟩
theorem Solid.bool {b : Bool} : Solid (.bool b) := ⟨(fun _ _ e => nomatch e), (fun _ _ e => nomatch e)⟩
theorem Solid.ref {a : Addr} : Solid (.ref a) := ⟨(fun _ _ e => nomatch e), (fun _ _ e => nomatch e)⟩

end
section
section
variable {prog : Program} {w : World} {A : Around} {E : Value → Shared → Prop} {s : Shared} {Q : Value → Shared → Prop}
theorem IsTh.same {M : Model} {Q : Bool → Shared → Prop} {v : Value} {t : Th} (x : IsTh s.heap v t) (hs : Solid v) (h : Q true s) : wpAny M A (isSame v v) Q E s := by
  cases x with
  | s x t =>
    have h0 := hs.1 _ _ rfl
    refine wpAny_of_eq (a := true) ?_ h
    simp [isSame, isSame.created, h0]
  | n i t =>
    have h0 := hs.2 _ _ rfl
    cases hi : smallInt i with
    | true =>
      show wpAny _ _ (if (i == i && smallInt i) = true then isSame.cachedInt t t else _) _ _ _
      rw [if_pos (by simp [hi])]
      unfold isSame.cachedInt
      rw [if_neg (by simp [h0])]
      exact wpAny_bind (wpAny_rule (wpAny_pure h))
    | false =>
      refine wpAny_of_eq (a := true) ?_ h
      simp [isSame, isSame.created, h0, hi]
  | none => exact wpAny_of_eq (a := true) rfl h
  | b c => exact wpAny_of_eq (a := true) (by simp [isSame]) h
  | lst => exact wpAny_isSame_ref_self h
  | tup => exact wpAny_isSame_ref_self h
  | dct => exact wpAny_isSame_ref_self h
theorem IsTh.isNotSelf {v : Value} {t : Th} (x : IsTh s.heap v t) (hs : Solid v) (h : Q (.bool false) s) : wpAny (model prog w) A (compareOp .IsNot v v) Q E s := by
  show wpAny _ _ (isSame v v >>= fun b => pure (Value.bool (!b))) _ _ _
  exact wpAny_bind (x.same hs (wpAny_pure h))
theorem IsTh.isNone {v : Value} {t : Th} (x : IsTh s.heap v t) (hn : t ≠ .none) (h : Q (.bool false) s) : wpAny (model prog w) A (compareOp .Is v .none) Q E s := by
  cases x with
  | none => exact absurd rfl hn
  | _ => exact wpAny_is_other (by rfl) (by intro x; cases x) h
end
section
open PySem.SeqAt PySem.AutoSeq1 PySem.MeetsSeq
theorem rc_dict_str {A : Around} {s : Shared} {l : Addr} {es : Array DictEntry} {n : Nat} {dd : Option Addr} {sl : Array (Option Value)} (b : Str) (u : Tok) (ho : s.heap.get? l = some { cls := .type "dict", dict := dd, data := .dict es n, slots := sl }) (hu : A.units < cLine) : SeqAt.RcAt A s (.ref l) (.str b u) false := fun prog w E Q h =>
  rc_eq_decline_or (k := false) ⟨_, ho, rfl⟩ (typeIs_str s b u) (by decide) PySem.F.sub_str_dict PySem.F.slot_dict_eq_refl PySem.F.slot_str_eq
    (fun _ hq => call_meets PySem.F.slot_dict_eq_refl ⟨_, ho, rfl⟩ PySem.F.entry_dict_eq (PySem.F.args_dict_eq_2 _ _) (dict_declines_str l es n dd sl b u) ⟨ho, hq⟩)
    (fun _ hq => call_meets PySem.F.slot_str_eq (typeIs_str s b u) PySem.F.entry_str_eq (PySem.F.args_str_eq_2 _ _) (str_declines_dict b u l es n dd sl) ⟨ho, hq⟩)
    (fun _ hq => wpAny_of_eq (rfl : isSame (.ref l) (.str b u) = pure false) hq) (.inr hu) h
end
/-- v == a text, v on the left -/
theorem IsTh.eqSup {prog : Program} {w : World} {A : Around} {E : Value → Shared → Prop} {s : Shared} {Q : Value → Shared → Prop} {v : Value} {t : Th} {b : Str} {u : Tok} (x : IsTh s.heap v t) (h1 : t ≠ .s b) (hu : A.units < cLine) (h : Q (.bool false) s) : wpAny (model prog w) A (compareOp .Eq v (.str b u)) Q E s := by
  cases x with
  | s x t =>
    have := SeqAt.RcAt.str_str (A := A) (s := s) x t b u
    rw [show (x == b) = false from by simpa using fun e : x = b => h1 (by rw [e])] at this
    exact this prog w E Q h
  | n i t => exact SeqAt.RcAt.int_str i t b u prog w E Q h
  | none => exact SeqAt.RcAt.none_str b u prog w E Q h
  | b c => exact SeqAt.RcAt.bool_str c b u prog w E Q h
  | lst ho hc hd => exact SeqAt.RcAt.list_str b u ⟨_, ho, hc, _, hd⟩ hu prog w E Q h
  | tup ho => exact SeqAt.RcAt.tuple_str b u ho hu prog w E Q h
  | @dct a o _ _ _ _ ho hc hd =>
    obtain ⟨c, d, dt, sl⟩ := o
    dsimp only at hc hd
    subst hc hd
    exact rc_dict_str b u ho hu prog w E Q h
def Th.isTup : Th → Bool
  | .tup => true
  | _ => false
theorem ty_is_tupB {prog : Program} {w : World} {A : Around} {E : Value → Shared → Prop} {s : Shared} {t : Th} {b : Bool} {Q : Value → Shared → Prop} (hb : t.isTup = b) (h : Q (.bool b) s) : wpAny (model prog w) A (compareOp .Is (.type t.ty) (.type "tuple")) Q E s := by
  subst hb
  cases t with
  | tup => exact wpAny_is_self (by rfl) h
  | _ => exact wpAny_is_other (by rfl) (by dsimp only [Th.ty]; decide) h

end
section
local macro_rules | `(tactic| k_handed) => `(tactic| exact Mine.IsTh.handed (by assumption))
local macro_rules | `(tactic| walk_at "binaryOp Add str str") => `(tactic| ((with_reducible show wpAny _ _ (binaryOp Operator.Add (Value.str _ _) (Value.str _ _)) _ _ _); refine Mine.add_le (by (first | (with_reducible assumption) | exact Mine.getD_len2 (by assumption) _ | exact Nat.le_of_ble_eq_true rfl | (show _ ≤ 9; decide +kernel))) (by (first | (with_reducible assumption) | exact Mine.getD_len2 (by assumption) _ | exact Nat.le_of_ble_eq_true rfl | (show _ ≤ 9; decide +kernel))) (by decide) ?_; intro t8 k8 hl8))
section

noncomputable def forSt (k j i : Nat) : Stmt := (forBody (stOf k j)).getD i (.Pass default)
noncomputable abbrev envH (L : Addr) : Env := envOf (Str.ofString "_law_holds") (scopeOf (lawD 13)) L 103 (.ref 102)
/-- a statement that leaves a list in `due` -/
def DueIs (g : Heap) (L : Addr) (s : Shared) (LED : List (Addr × Obj)) (m : Str → Option Value) (D : List PyData) (f : Flow) (s' : Shared) : Prop :=
  f = .next ∧ ∃ h' tk d its k, s' = { s with heap := h', toks := tk } ∧ Fr g L h' (fun y => if y = Str.ofString "due" then some (.ref d) else m y) ∧ News g L h' ((d, W.listOf its k) :: LED) ∧ Flat its D
theorem DueIs.intro {g h' : Heap} {L d : Addr} {s : Shared} {LED news : List (Addr × Obj)} {m m' : Str → Option Value} {D : List PyData} {tk k : Nat} {its : Array Value} (F : Fr g L h' m') (hm : m' = fun y => if y = Str.ofString "due" then some (.ref d) else m y) (N : News g L h' news) (hd : (d, W.listOf its k) ∈ news) (hs : ∀ p ∈ LED, p ∈ news) (f : Flat its D) : DueIs g L s LED m D .next { s with heap := h', toks := tk } :=
  ⟨rfl, h', tk, d, its, k, rfl, hm ▸ F, fun p hp => by
    rcases List.mem_cons.mp hp with rfl | hp
    · exact N _ hd
    · exact N p (hs p hp), f⟩
theorem due_due (d d' : Value) (m : Str → Option Value) : (fun y => if y = Str.ofString "due" then some d' else if y = Str.ofString "due" then some d else m y) = fun y => if y = Str.ofString "due" then some d' else m y := by
  funext y
  split <;> rfl
section
variable {w : World} {dp un : Nat} {outer : List Env} {base hB g : Heap} {s : Shared} {ta sa L : Addr} {items sits : Array Value} {ths : List Th} {b : Bool} {nv : Value} {k : Nk} {ex : List (Str × Value)} {LED : List (Addr × Obj)} {Q : Flow → Shared → Prop}
theorem turn0 (R : Rel w (AA dp outer (some []) un) base hB outer g) (hc : HC w base outer ths ta sa items sits g) (hd : dp + 30 < recursionLimit) (hu : un + 300 < cLine)
   (his : StrsAre sits.toList (ths.map Th.shown)) (p : Pl ths) (hb : b = ths.all Th.isStr)
   (F : Fr g L s.heap (fun y => if y = Str.ofString "nargs" then some nv else List.lookup y ((Str.ofString "shown", .ref sa) :: (Str.ofString "things", .ref ta) :: (Str.ofString "plain", .bool b) :: ex))) (N : News g L s.heap LED) :
   wpAny (model P w) ((AA dp outer (some []) un).deeper (envH L)) (exec (forSt 13 3 0) (envH L))
      (DueIs g L s LED (fun y => if y = Str.ofString "nargs" then some nv else List.lookup y ((Str.ofString "shown", .ref sa) :: (Str.ofString "things", .ref ta) :: (Str.ofString "plain", .bool b) :: ex)) (dueJ ", " ths))
      (fun _ _ => False) s := by
  obtain ⟨X, ⟨mean, mg, mb, T⟩, G, hl, hi, hls, hsys⟩ := id hc
  have B := R.B
  have hm4 : (ths.map Th.shown).length ≤ 4 := by rw [List.length_map]; exact p.len
  have hw4 : ∀ y ∈ ths.map Th.shown, y.length ≤ 1000 := fun y hy => by
    obtain ⟨x, hx, rfl⟩ := List.mem_map.mp hy
    exact p.short x hx
  unfold envH
  conv in (forSt _ _ _) => whnf
  conv in (occs := *) (scopeOf _) => all_goals whnf
  show wpAny (model P w) _ _ _ _ _
  k_fold
  cases b
  all_goals (repeat' (first | ((((with_reducible show wpAny _ _ (call (Value.type "type") [_]) _ _ _); refine Mine.IsTh.type (Mine.IsTh.keeps (Fr.keep (by assumption)) (by assumption)) ?_))) | ((((with_reducible show wpAny _ _ (compareOp CmpOp.IsNot (Value.type _) (Value.type _)) _ _ _); first | refine Mine.ty_isNot_t (by assumption) ?_ | refine Mine.ty_isNot_f (by assumption) ?_))) | ((((with_reducible show wpAny _ _ (compareOp CmpOp.Eq (Value.ref _) (Value.ref _)) _ _ _); first | refine Mine.eq_nil (by (first | assumption | exact News.isList (by assumption) (by k_mem) | exact stays_list (Fr.keep (by assumption)) (by assumption) | exact stays_list (Fr.keep (by assumption)) (stays_list (Fr.keep (by assumption)) (by assumption)))) (by (first | assumption | exact News.isList (by assumption) (by k_mem) | exact stays_list (Fr.keep (by assumption)) (by assumption) | exact stays_list (Fr.keep (by assumption)) (stays_list (Fr.keep (by assumption)) (by assumption)))) (by with_reducible assumption) (by ktr_units) ?_ | refine Mine.eq_told (by (first | assumption | exact News.isList (by assumption) (by k_mem) | exact stays_list (Fr.keep (by assumption)) (by assumption) | exact stays_list (Fr.keep (by assumption)) (stays_list (Fr.keep (by assumption)) (by assumption)))) (by assumption) (by (first | assumption | exact News.isList (by assumption) (by k_mem) | exact stays_list (Fr.keep (by assumption)) (by assumption) | exact stays_list (Fr.keep (by assumption)) (stays_list (Fr.keep (by assumption)) (by assumption)))) (by (with_reducible first | assumption | exact Mine.flat_J_t (by with_reducible assumption) | exact Mine.flat_J_f (by with_reducible assumption) | exact Mine.flat_M_no (by with_reducible assumption) | exact Mine.flat_M_nof (by with_reducible assumption) | exact Mine.flat_M_int (by with_reducible assumption) | exact Mine.flat_M_intf (by with_reducible assumption) | exact Mine.flat_M_plus (by with_reducible assumption) (by with_reducible assumption) | exact Mine.flat_M_plusf (by with_reducible assumption) (by with_reducible assumption) | exact Mine.flat_M_star (by with_reducible assumption) (by with_reducible assumption) | exact Mine.flat_M_starf (by with_reducible assumption) (by with_reducible assumption) (by with_reducible assumption) | exact Mine.flat_M_starn (by with_reducible assumption) (by with_reducible assumption) (by with_reducible assumption))) (by ktr_units) ?_))) | ((((with_reducible show wpAny _ _ (compareOp CmpOp.NotEq (Value.ref _) (Value.ref _)) _ _ _); first | refine Mine.ne_nil (by (first | assumption | exact News.isList (by assumption) (by k_mem) | exact stays_list (Fr.keep (by assumption)) (by assumption) | exact stays_list (Fr.keep (by assumption)) (stays_list (Fr.keep (by assumption)) (by assumption)))) (by (first | assumption | exact News.isList (by assumption) (by k_mem) | exact stays_list (Fr.keep (by assumption)) (by assumption) | exact stays_list (Fr.keep (by assumption)) (stays_list (Fr.keep (by assumption)) (by assumption)))) (by with_reducible assumption) (by ktr_units) ?_ | refine Mine.ne_told (by (first | assumption | exact News.isList (by assumption) (by k_mem) | exact stays_list (Fr.keep (by assumption)) (by assumption) | exact stays_list (Fr.keep (by assumption)) (stays_list (Fr.keep (by assumption)) (by assumption)))) (by assumption) (by (first | assumption | exact News.isList (by assumption) (by k_mem) | exact stays_list (Fr.keep (by assumption)) (by assumption) | exact stays_list (Fr.keep (by assumption)) (stays_list (Fr.keep (by assumption)) (by assumption)))) (by (with_reducible first | assumption | exact Mine.flat_J_t (by with_reducible assumption) | exact Mine.flat_J_f (by with_reducible assumption) | exact Mine.flat_M_no (by with_reducible assumption) | exact Mine.flat_M_nof (by with_reducible assumption) | exact Mine.flat_M_int (by with_reducible assumption) | exact Mine.flat_M_intf (by with_reducible assumption) | exact Mine.flat_M_plus (by with_reducible assumption) (by with_reducible assumption) | exact Mine.flat_M_plusf (by with_reducible assumption) (by with_reducible assumption) | exact Mine.flat_M_star (by with_reducible assumption) (by with_reducible assumption) | exact Mine.flat_M_starf (by with_reducible assumption) (by with_reducible assumption) (by with_reducible assumption) | exact Mine.flat_M_starn (by with_reducible assumption) (by with_reducible assumption) (by with_reducible assumption))) (by ktr_units) ?_))) | ((((with_reducible show wpAny _ _ (call (Value.type "tuple") [Value.ref _]) _ _ _); refine Mine.tuple_of (by assumption) (by assumption) (by (first | assumption | exact News.isList (by assumption) (by k_mem) | exact stays_list (Fr.keep (by assumption)) (by assumption) | exact stays_list (Fr.keep (by assumption)) (stays_list (Fr.keep (by assumption)) (by assumption)))) (by assumption) ?_; intro D7q298 h7q298 F7q298 N7q298))) | ((((with_reducible show wpAny _ _ (subscriptTail _ _ (Value.ref _) (Value.int _ _)) _ _ _); first | refine Mine.item_strs (by (first | assumption | exact News.isList (by assumption) (by k_mem) | exact stays_list (Fr.keep (by assumption)) (by assumption) | exact stays_list (Fr.keep (by assumption)) (stays_list (Fr.keep (by assumption)) (by assumption)))) (by with_reducible assumption) 0 rfl (by omega) (by omega) ?_ (by with_unfolding_all rfl) | refine Mine.item_strs (by (first | assumption | exact News.isList (by assumption) (by k_mem) | exact stays_list (Fr.keep (by assumption)) (by assumption) | exact stays_list (Fr.keep (by assumption)) (stays_list (Fr.keep (by assumption)) (by assumption)))) (by with_reducible assumption) 1 rfl (by omega) (by omega) ?_ (by with_unfolding_all rfl); intro t9q300))) | (((first | ((fail_if_success (with_reducible show wpAny _ _ (exec (Stmt.While _ _ _ _) _) _ _ _)); (fail_if_success (with_reducible show wpAny _ _ (exec (Stmt.For _ _ _ _ _) _) _ _ _)); (fail_if_success (with_reducible show wpAny _ _ (eval (PySem.Expr.ListComp _ _ _ _) _) _ _ _)); (fail_if_success (with_reducible show wpAny _ _ (exec (PySem.Stmt.Assign _ (PySem.Expr.ListComp _ _ _ _) _) _) _ _ _)); (fail_if_success (with_reducible show wpAny _ _ (call (Value.ref _) _) _ _ _)); (fail_if_success (with_reducible show wpAny _ _ (pyIter (Value.ref _)) _ _ _)); (fail_if_success (show LCg.CompSrc _ _ _ _ _ _ _ _ _ _ _ _ _ _)); first | (k_unfold; (try dsimp only)) | (k_end; wrow_close) | walk1 | (dsimp only; walk1) | (leave1; (try dsimp only))))))))
  · exact DueIs.intro (by assumption) rfl (by assumption) (.head _) (fun p hp => .tail _ hp) (flat_J_f (by assumption))
  ((refine' Mine.call_at (by assumption) (by assumption) (by assumption) (by rfl) (by rfl) (fun BB => Mine.law_row ?Xq304 ?Tq304 BB ?hdq304 ?huq304 ?hlq304 ?hiq304 ?hlenq304 ?hmq304 ?hwq304) ?_; (case Xq304 => (first | (with_reducible assumption) | exact Frag.In.keeps (by assumption) (Fr.keep (by assumption)) | exact ⟨_, _, _, Top.keeps (by assumption) (Fr.keep (by assumption))⟩)); (case Tq304 => (first | (with_reducible assumption) | exact Frag.In.keeps (by assumption) (Fr.keep (by assumption)) | exact ⟨_, _, _, Top.keeps (by assumption) (Fr.keep (by assumption))⟩)); (case hdq304 => exact Mine.room1 (by assumption) rfl); (case huq304 => exact Mine.room3 (by assumption) rfl); (case hlq304 => (first | assumption | exact News.isList (by assumption) (by k_mem) | exact stays_list (Fr.keep (by assumption)) (by assumption) | exact stays_list (Fr.keep (by assumption)) (stays_list (Fr.keep (by assumption)) (by assumption)))); (case hiq304 => assumption); (case hlenq304 => assumption); (case hmq304 => decide +kernel); (case hwq304 => assumption); (rintro v2q304 h2q304 tk2q304 F2q304 N2q304 st2q304 ⟨t2q304, hv2q304⟩); subst hv2q304))
  (repeat' (first | ((((with_reducible show wpAny _ _ (call (Value.type "type") [_]) _ _ _); refine Mine.IsTh.type (Mine.IsTh.keeps (Fr.keep (by assumption)) (by assumption)) ?_))) | ((((with_reducible show wpAny _ _ (compareOp CmpOp.IsNot (Value.type _) (Value.type _)) _ _ _); first | refine Mine.ty_isNot_t (by assumption) ?_ | refine Mine.ty_isNot_f (by assumption) ?_))) | ((((with_reducible show wpAny _ _ (compareOp CmpOp.Eq (Value.ref _) (Value.ref _)) _ _ _); first | refine Mine.eq_nil (by (first | assumption | exact News.isList (by assumption) (by k_mem) | exact stays_list (Fr.keep (by assumption)) (by assumption) | exact stays_list (Fr.keep (by assumption)) (stays_list (Fr.keep (by assumption)) (by assumption)))) (by (first | assumption | exact News.isList (by assumption) (by k_mem) | exact stays_list (Fr.keep (by assumption)) (by assumption) | exact stays_list (Fr.keep (by assumption)) (stays_list (Fr.keep (by assumption)) (by assumption)))) (by with_reducible assumption) (by ktr_units) ?_ | refine Mine.eq_told (by (first | assumption | exact News.isList (by assumption) (by k_mem) | exact stays_list (Fr.keep (by assumption)) (by assumption) | exact stays_list (Fr.keep (by assumption)) (stays_list (Fr.keep (by assumption)) (by assumption)))) (by assumption) (by (first | assumption | exact News.isList (by assumption) (by k_mem) | exact stays_list (Fr.keep (by assumption)) (by assumption) | exact stays_list (Fr.keep (by assumption)) (stays_list (Fr.keep (by assumption)) (by assumption)))) (by (with_reducible first | assumption | exact Mine.flat_J_t (by with_reducible assumption) | exact Mine.flat_J_f (by with_reducible assumption) | exact Mine.flat_M_no (by with_reducible assumption) | exact Mine.flat_M_nof (by with_reducible assumption) | exact Mine.flat_M_int (by with_reducible assumption) | exact Mine.flat_M_intf (by with_reducible assumption) | exact Mine.flat_M_plus (by with_reducible assumption) (by with_reducible assumption) | exact Mine.flat_M_plusf (by with_reducible assumption) (by with_reducible assumption) | exact Mine.flat_M_star (by with_reducible assumption) (by with_reducible assumption) | exact Mine.flat_M_starf (by with_reducible assumption) (by with_reducible assumption) (by with_reducible assumption) | exact Mine.flat_M_starn (by with_reducible assumption) (by with_reducible assumption) (by with_reducible assumption))) (by ktr_units) ?_))) | ((((with_reducible show wpAny _ _ (compareOp CmpOp.NotEq (Value.ref _) (Value.ref _)) _ _ _); first | refine Mine.ne_nil (by (first | assumption | exact News.isList (by assumption) (by k_mem) | exact stays_list (Fr.keep (by assumption)) (by assumption) | exact stays_list (Fr.keep (by assumption)) (stays_list (Fr.keep (by assumption)) (by assumption)))) (by (first | assumption | exact News.isList (by assumption) (by k_mem) | exact stays_list (Fr.keep (by assumption)) (by assumption) | exact stays_list (Fr.keep (by assumption)) (stays_list (Fr.keep (by assumption)) (by assumption)))) (by with_reducible assumption) (by ktr_units) ?_ | refine Mine.ne_told (by (first | assumption | exact News.isList (by assumption) (by k_mem) | exact stays_list (Fr.keep (by assumption)) (by assumption) | exact stays_list (Fr.keep (by assumption)) (stays_list (Fr.keep (by assumption)) (by assumption)))) (by assumption) (by (first | assumption | exact News.isList (by assumption) (by k_mem) | exact stays_list (Fr.keep (by assumption)) (by assumption) | exact stays_list (Fr.keep (by assumption)) (stays_list (Fr.keep (by assumption)) (by assumption)))) (by (with_reducible first | assumption | exact Mine.flat_J_t (by with_reducible assumption) | exact Mine.flat_J_f (by with_reducible assumption) | exact Mine.flat_M_no (by with_reducible assumption) | exact Mine.flat_M_nof (by with_reducible assumption) | exact Mine.flat_M_int (by with_reducible assumption) | exact Mine.flat_M_intf (by with_reducible assumption) | exact Mine.flat_M_plus (by with_reducible assumption) (by with_reducible assumption) | exact Mine.flat_M_plusf (by with_reducible assumption) (by with_reducible assumption) | exact Mine.flat_M_star (by with_reducible assumption) (by with_reducible assumption) | exact Mine.flat_M_starf (by with_reducible assumption) (by with_reducible assumption) (by with_reducible assumption) | exact Mine.flat_M_starn (by with_reducible assumption) (by with_reducible assumption) (by with_reducible assumption))) (by ktr_units) ?_))) | ((((with_reducible show wpAny _ _ (call (Value.type "tuple") [Value.ref _]) _ _ _); refine Mine.tuple_of (by assumption) (by assumption) (by (first | assumption | exact News.isList (by assumption) (by k_mem) | exact stays_list (Fr.keep (by assumption)) (by assumption) | exact stays_list (Fr.keep (by assumption)) (stays_list (Fr.keep (by assumption)) (by assumption)))) (by assumption) ?_; intro D7q323 h7q323 F7q323 N7q323))) | ((((with_reducible show wpAny _ _ (subscriptTail _ _ (Value.ref _) (Value.int _ _)) _ _ _); first | refine Mine.item_strs (by (first | assumption | exact News.isList (by assumption) (by k_mem) | exact stays_list (Fr.keep (by assumption)) (by assumption) | exact stays_list (Fr.keep (by assumption)) (stays_list (Fr.keep (by assumption)) (by assumption)))) (by with_reducible assumption) 0 rfl (by omega) (by omega) ?_ (by with_unfolding_all rfl) | refine Mine.item_strs (by (first | assumption | exact News.isList (by assumption) (by k_mem) | exact stays_list (Fr.keep (by assumption)) (by assumption) | exact stays_list (Fr.keep (by assumption)) (stays_list (Fr.keep (by assumption)) (by assumption)))) (by with_reducible assumption) 1 rfl (by omega) (by omega) ?_ (by with_unfolding_all rfl); intro t9q325))) | (((first | ((fail_if_success (with_reducible show wpAny _ _ (exec (Stmt.While _ _ _ _) _) _ _ _)); (fail_if_success (with_reducible show wpAny _ _ (exec (Stmt.For _ _ _ _ _) _) _ _ _)); (fail_if_success (with_reducible show wpAny _ _ (eval (PySem.Expr.ListComp _ _ _ _) _) _ _ _)); (fail_if_success (with_reducible show wpAny _ _ (exec (PySem.Stmt.Assign _ (PySem.Expr.ListComp _ _ _ _) _) _) _ _ _)); (fail_if_success (with_reducible show wpAny _ _ (call (Value.ref _) _) _ _ _)); (fail_if_success (with_reducible show wpAny _ _ (pyIter (Value.ref _)) _ _ _)); (fail_if_success (show LCg.CompSrc _ _ _ _ _ _ _ _ _ _ _ _ _ _)); first | (k_unfold; (try dsimp only)) | (k_end; wrow_close) | walk1 | (dsimp only; walk1) | (leave1; (try dsimp only))))))))
  exact DueIs.intro (by assumption) rfl (by assumption) (.head _) (fun p hp => .tail _ hp) (flat_J_t (by assumption))
theorem turn1 (R : Rel w (AA dp outer (some []) un) base hB outer g) (hc : HC w base outer ths ta sa items sits g) (hd : dp + 30 < recursionLimit) (hu : un + 300 < cLine)
   (his : StrsAre sits.toList (ths.map Th.shown)) (p : Pl ths) (hk : IsNk nv k) {d : Addr} {its : Array Value} {kd : Nat} (hf : Flat its (dueJ ", " ths))
   (F : Fr g L s.heap (fun y => if y = Str.ofString "due" then some (.ref d) else if y = Str.ofString "nargs" then some nv else List.lookup y ((Str.ofString "shown", .ref sa) :: (Str.ofString "things", .ref ta) :: (Str.ofString "plain", .bool b) :: ex))) (N : News g L s.heap ((d, W.listOf its kd) :: LED)) :
   wpAny (model P w) ((AA dp outer (some []) un).deeper (envH L)) (exec (forSt 13 3 1) (envH L))
      (DueIs g L s LED (fun y => if y = Str.ofString "nargs" then some nv else List.lookup y ((Str.ofString "shown", .ref sa) :: (Str.ofString "things", .ref ta) :: (Str.ofString "plain", .bool b) :: ex)) (dueM ths k))
      (fun _ _ => False) s := by
  obtain ⟨X, ⟨mean, mg, mb, T⟩, G, hl, hi, hls, hsys⟩ := id hc
  have hlen := hi.len
  have hp4 := p.len
  have hml : (ths.map Th.shown).length = items.size := by rw [List.length_map, hlen]
  have hsz : items.size ≤ 100 := by omega
  have hw4 : ∀ y ∈ ths.map Th.shown, y.length ≤ 1000 := fun y hy => by
    obtain ⟨x, hx, rfl⟩ := List.mem_map.mp hy
    exact p.short x hx
  unfold envH
  conv in (forSt _ _ _) => whnf
  conv in (occs := *) (scopeOf _) => all_goals whnf
  show wpAny (model P w) _ _ _ _ _
  k_fold
  cases hk
  all_goals (repeat' (first | ((((with_reducible show wpAny _ _ (call (Value.type "type") [_]) _ _ _); refine Mine.IsTh.type (Mine.IsTh.keeps (Fr.keep (by assumption)) (by assumption)) ?_))) | ((((with_reducible show wpAny _ _ (compareOp CmpOp.IsNot (Value.type _) (Value.type _)) _ _ _); first | refine Mine.ty_isNot_t (by assumption) ?_ | refine Mine.ty_isNot_f (by assumption) ?_))) | ((((with_reducible show wpAny _ _ (compareOp CmpOp.Eq (Value.ref _) (Value.ref _)) _ _ _); first | refine Mine.eq_nil (by (first | assumption | exact News.isList (by assumption) (by k_mem) | exact stays_list (Fr.keep (by assumption)) (by assumption) | exact stays_list (Fr.keep (by assumption)) (stays_list (Fr.keep (by assumption)) (by assumption)))) (by (first | assumption | exact News.isList (by assumption) (by k_mem) | exact stays_list (Fr.keep (by assumption)) (by assumption) | exact stays_list (Fr.keep (by assumption)) (stays_list (Fr.keep (by assumption)) (by assumption)))) (by with_reducible assumption) (by ktr_units) ?_ | refine Mine.eq_told (by (first | assumption | exact News.isList (by assumption) (by k_mem) | exact stays_list (Fr.keep (by assumption)) (by assumption) | exact stays_list (Fr.keep (by assumption)) (stays_list (Fr.keep (by assumption)) (by assumption)))) (by assumption) (by (first | assumption | exact News.isList (by assumption) (by k_mem) | exact stays_list (Fr.keep (by assumption)) (by assumption) | exact stays_list (Fr.keep (by assumption)) (stays_list (Fr.keep (by assumption)) (by assumption)))) (by (with_reducible first | assumption | exact Mine.flat_J_t (by with_reducible assumption) | exact Mine.flat_J_f (by with_reducible assumption) | exact Mine.flat_M_no (by with_reducible assumption) | exact Mine.flat_M_nof (by with_reducible assumption) | exact Mine.flat_M_int (by with_reducible assumption) | exact Mine.flat_M_intf (by with_reducible assumption) | exact Mine.flat_M_plus (by with_reducible assumption) (by with_reducible assumption) | exact Mine.flat_M_plusf (by with_reducible assumption) (by with_reducible assumption) | exact Mine.flat_M_star (by with_reducible assumption) (by with_reducible assumption) | exact Mine.flat_M_starf (by with_reducible assumption) (by with_reducible assumption) (by with_reducible assumption) | exact Mine.flat_M_starn (by with_reducible assumption) (by with_reducible assumption) (by with_reducible assumption))) (by ktr_units) ?_))) | ((((with_reducible show wpAny _ _ (compareOp CmpOp.NotEq (Value.ref _) (Value.ref _)) _ _ _); first | refine Mine.ne_nil (by (first | assumption | exact News.isList (by assumption) (by k_mem) | exact stays_list (Fr.keep (by assumption)) (by assumption) | exact stays_list (Fr.keep (by assumption)) (stays_list (Fr.keep (by assumption)) (by assumption)))) (by (first | assumption | exact News.isList (by assumption) (by k_mem) | exact stays_list (Fr.keep (by assumption)) (by assumption) | exact stays_list (Fr.keep (by assumption)) (stays_list (Fr.keep (by assumption)) (by assumption)))) (by with_reducible assumption) (by ktr_units) ?_ | refine Mine.ne_told (by (first | assumption | exact News.isList (by assumption) (by k_mem) | exact stays_list (Fr.keep (by assumption)) (by assumption) | exact stays_list (Fr.keep (by assumption)) (stays_list (Fr.keep (by assumption)) (by assumption)))) (by assumption) (by (first | assumption | exact News.isList (by assumption) (by k_mem) | exact stays_list (Fr.keep (by assumption)) (by assumption) | exact stays_list (Fr.keep (by assumption)) (stays_list (Fr.keep (by assumption)) (by assumption)))) (by (with_reducible first | assumption | exact Mine.flat_J_t (by with_reducible assumption) | exact Mine.flat_J_f (by with_reducible assumption) | exact Mine.flat_M_no (by with_reducible assumption) | exact Mine.flat_M_nof (by with_reducible assumption) | exact Mine.flat_M_int (by with_reducible assumption) | exact Mine.flat_M_intf (by with_reducible assumption) | exact Mine.flat_M_plus (by with_reducible assumption) (by with_reducible assumption) | exact Mine.flat_M_plusf (by with_reducible assumption) (by with_reducible assumption) | exact Mine.flat_M_star (by with_reducible assumption) (by with_reducible assumption) | exact Mine.flat_M_starf (by with_reducible assumption) (by with_reducible assumption) (by with_reducible assumption) | exact Mine.flat_M_starn (by with_reducible assumption) (by with_reducible assumption) (by with_reducible assumption))) (by ktr_units) ?_))) | ((((with_reducible show wpAny _ _ (call (Value.type "tuple") [Value.ref _]) _ _ _); refine Mine.tuple_of (by assumption) (by assumption) (by (first | assumption | exact News.isList (by assumption) (by k_mem) | exact stays_list (Fr.keep (by assumption)) (by assumption) | exact stays_list (Fr.keep (by assumption)) (stays_list (Fr.keep (by assumption)) (by assumption)))) (by assumption) ?_; intro D7q344 h7q344 F7q344 N7q344))) | ((((with_reducible show wpAny _ _ (subscriptTail _ _ (Value.ref _) (Value.int _ _)) _ _ _); first | refine Mine.item_strs (by (first | assumption | exact News.isList (by assumption) (by k_mem) | exact stays_list (Fr.keep (by assumption)) (by assumption) | exact stays_list (Fr.keep (by assumption)) (stays_list (Fr.keep (by assumption)) (by assumption)))) (by with_reducible assumption) 0 rfl (by omega) (by omega) ?_ (by with_unfolding_all rfl) | refine Mine.item_strs (by (first | assumption | exact News.isList (by assumption) (by k_mem) | exact stays_list (Fr.keep (by assumption)) (by assumption) | exact stays_list (Fr.keep (by assumption)) (stays_list (Fr.keep (by assumption)) (by assumption)))) (by with_reducible assumption) 1 rfl (by omega) (by omega) ?_ (by with_unfolding_all rfl); intro t9q346))) | (((first | ((fail_if_success (with_reducible show wpAny _ _ (exec (Stmt.While _ _ _ _) _) _ _ _)); (fail_if_success (with_reducible show wpAny _ _ (exec (Stmt.For _ _ _ _ _) _) _ _ _)); (fail_if_success (with_reducible show wpAny _ _ (eval (PySem.Expr.ListComp _ _ _ _) _) _ _ _)); (fail_if_success (with_reducible show wpAny _ _ (exec (PySem.Stmt.Assign _ (PySem.Expr.ListComp _ _ _ _) _) _) _ _ _)); (fail_if_success (with_reducible show wpAny _ _ (call (Value.ref _) _) _ _ _)); (fail_if_success (with_reducible show wpAny _ _ (pyIter (Value.ref _)) _ _ _)); (fail_if_success (show LCg.CompSrc _ _ _ _ _ _ _ _ _ _ _ _ _ _)); first | (k_unfold; (try dsimp only)) | (k_end; wrow_close) | walk1 | (dsimp only; walk1) | (leave1; (try dsimp only))))))))
  all_goals first
    | (exfalso; omega)
    | exact DueIs.intro (by assumption) rfl (by assumption) (.head _) (fun p hp => .tail _ hp) hf
    | exact DueIs.intro (by assumption) (due_due _ _ _) (by assumption) (.head _) (fun p hp => .tail _ (.tail _ hp)) (flat_M_star (by assumption) (by assumption))
    | exact DueIs.intro (by assumption) (due_due _ _ _) (by assumption) (.head _) (fun p hp => .tail _ (.tail _ hp)) (flat_M_plus (by assumption) (by assumption))
    | exact DueIs.intro (by assumption) (due_due _ _ _) (by assumption) (.head _) (fun p hp => .tail _ (.tail _ hp)) (flat_M_plusf (by assumption) (by assumption))
    | exact DueIs.intro (by assumption) rfl (by assumption) (.head _) (fun p hp => .tail _ hp) (flat_star_J (by assumption) (by assumption) hf)
theorem turn2 (R : Rel w (AA dp outer (some []) un) base hB outer g) (hc : HC w base outer ths ta sa items sits g) (hd : dp + 30 < recursionLimit) (hu : un + 300 < cLine)
   (p : Pl ths) (hk : IsNk nv k) {d : Addr} {its : Array Value} {kd : Nat} (hf : Flat its (dueM ths k))
   (F : Fr g L s.heap (fun y => if y = Str.ofString "due" then some (.ref d) else if y = Str.ofString "nargs" then some nv else List.lookup y ((Str.ofString "shown", .ref sa) :: (Str.ofString "things", .ref ta) :: (Str.ofString "plain", .bool b) :: ex))) (N : News g L s.heap ((d, W.listOf its kd) :: LED)) :
   wpAny (model P w) ((AA dp outer (some []) un).deeper (envH L)) (exec (forSt 13 3 2) (envH L))
      (TurnS w (AA dp outer (some []) un) base hB outer L s Q LED fun m' => ∃ ex', m' = fun y => List.lookup y ((Str.ofString "shown", .ref sa) :: (Str.ofString "things", .ref ta) :: (Str.ofString "plain", .bool b) :: ex'))
      (fun _ _ => False) s := by
  obtain ⟨X, ⟨mean, mg, mb, T⟩, G, hl, hi, hls, hsys⟩ := id hc
  have hlen := hi.len
  have hp4 := p.len
  have hsz : items.size ≤ 100 := by omega
  unfold envH
  conv in (forSt _ _ _) => whnf
  conv in (occs := *) (scopeOf _) => all_goals whnf
  show wpAny (model P w) _ _ _ _ _
  k_fold
  (repeat' (first | ((((with_reducible show wpAny _ _ (call (Value.type "type") [_]) _ _ _); refine Mine.IsTh.type (Mine.IsTh.keeps (Fr.keep (by assumption)) (by assumption)) ?_))) | ((((with_reducible show wpAny _ _ (compareOp CmpOp.IsNot (Value.type _) (Value.type _)) _ _ _); first | refine Mine.ty_isNot_t (by assumption) ?_ | refine Mine.ty_isNot_f (by assumption) ?_))) | ((((with_reducible show wpAny _ _ (compareOp CmpOp.Eq (Value.ref _) (Value.ref _)) _ _ _); first | refine Mine.eq_nil (by (first | assumption | exact News.isList (by assumption) (by k_mem) | exact stays_list (Fr.keep (by assumption)) (by assumption) | exact stays_list (Fr.keep (by assumption)) (stays_list (Fr.keep (by assumption)) (by assumption)))) (by (first | assumption | exact News.isList (by assumption) (by k_mem) | exact stays_list (Fr.keep (by assumption)) (by assumption) | exact stays_list (Fr.keep (by assumption)) (stays_list (Fr.keep (by assumption)) (by assumption)))) (by with_reducible assumption) (by ktr_units) ?_ | refine Mine.eq_told (by (first | assumption | exact News.isList (by assumption) (by k_mem) | exact stays_list (Fr.keep (by assumption)) (by assumption) | exact stays_list (Fr.keep (by assumption)) (stays_list (Fr.keep (by assumption)) (by assumption)))) (by assumption) (by (first | assumption | exact News.isList (by assumption) (by k_mem) | exact stays_list (Fr.keep (by assumption)) (by assumption) | exact stays_list (Fr.keep (by assumption)) (stays_list (Fr.keep (by assumption)) (by assumption)))) (by (with_reducible first | assumption | exact Mine.flat_J_t (by with_reducible assumption) | exact Mine.flat_J_f (by with_reducible assumption) | exact Mine.flat_M_no (by with_reducible assumption) | exact Mine.flat_M_nof (by with_reducible assumption) | exact Mine.flat_M_int (by with_reducible assumption) | exact Mine.flat_M_intf (by with_reducible assumption) | exact Mine.flat_M_plus (by with_reducible assumption) (by with_reducible assumption) | exact Mine.flat_M_plusf (by with_reducible assumption) (by with_reducible assumption) | exact Mine.flat_M_star (by with_reducible assumption) (by with_reducible assumption) | exact Mine.flat_M_starf (by with_reducible assumption) (by with_reducible assumption) (by with_reducible assumption) | exact Mine.flat_M_starn (by with_reducible assumption) (by with_reducible assumption) (by with_reducible assumption))) (by ktr_units) ?_))) | ((((with_reducible show wpAny _ _ (compareOp CmpOp.NotEq (Value.ref _) (Value.ref _)) _ _ _); first | refine Mine.ne_nil (by (first | assumption | exact News.isList (by assumption) (by k_mem) | exact stays_list (Fr.keep (by assumption)) (by assumption) | exact stays_list (Fr.keep (by assumption)) (stays_list (Fr.keep (by assumption)) (by assumption)))) (by (first | assumption | exact News.isList (by assumption) (by k_mem) | exact stays_list (Fr.keep (by assumption)) (by assumption) | exact stays_list (Fr.keep (by assumption)) (stays_list (Fr.keep (by assumption)) (by assumption)))) (by with_reducible assumption) (by ktr_units) ?_ | refine Mine.ne_told (by (first | assumption | exact News.isList (by assumption) (by k_mem) | exact stays_list (Fr.keep (by assumption)) (by assumption) | exact stays_list (Fr.keep (by assumption)) (stays_list (Fr.keep (by assumption)) (by assumption)))) (by assumption) (by (first | assumption | exact News.isList (by assumption) (by k_mem) | exact stays_list (Fr.keep (by assumption)) (by assumption) | exact stays_list (Fr.keep (by assumption)) (stays_list (Fr.keep (by assumption)) (by assumption)))) (by (with_reducible first | assumption | exact Mine.flat_J_t (by with_reducible assumption) | exact Mine.flat_J_f (by with_reducible assumption) | exact Mine.flat_M_no (by with_reducible assumption) | exact Mine.flat_M_nof (by with_reducible assumption) | exact Mine.flat_M_int (by with_reducible assumption) | exact Mine.flat_M_intf (by with_reducible assumption) | exact Mine.flat_M_plus (by with_reducible assumption) (by with_reducible assumption) | exact Mine.flat_M_plusf (by with_reducible assumption) (by with_reducible assumption) | exact Mine.flat_M_star (by with_reducible assumption) (by with_reducible assumption) | exact Mine.flat_M_starf (by with_reducible assumption) (by with_reducible assumption) (by with_reducible assumption) | exact Mine.flat_M_starn (by with_reducible assumption) (by with_reducible assumption) (by with_reducible assumption))) (by ktr_units) ?_))) | ((((with_reducible show wpAny _ _ (call (Value.type "tuple") [Value.ref _]) _ _ _); refine Mine.tuple_of (by assumption) (by assumption) (by (first | assumption | exact News.isList (by assumption) (by k_mem) | exact stays_list (Fr.keep (by assumption)) (by assumption) | exact stays_list (Fr.keep (by assumption)) (stays_list (Fr.keep (by assumption)) (by assumption)))) (by assumption) ?_; intro D7q365 h7q365 F7q365 N7q365))) | ((((with_reducible show wpAny _ _ (subscriptTail _ _ (Value.ref _) (Value.int _ _)) _ _ _); first | refine Mine.item_strs (by (first | assumption | exact News.isList (by assumption) (by k_mem) | exact stays_list (Fr.keep (by assumption)) (by assumption) | exact stays_list (Fr.keep (by assumption)) (stays_list (Fr.keep (by assumption)) (by assumption)))) (by with_reducible assumption) 0 rfl (by omega) (by omega) ?_ (by with_unfolding_all rfl) | refine Mine.item_strs (by (first | assumption | exact News.isList (by assumption) (by k_mem) | exact stays_list (Fr.keep (by assumption)) (by assumption) | exact stays_list (Fr.keep (by assumption)) (stays_list (Fr.keep (by assumption)) (by assumption)))) (by with_reducible assumption) 1 rfl (by omega) (by omega) ?_ (by with_unfolding_all rfl); intro t9q367))) | (((first | ((fail_if_success (with_reducible show wpAny _ _ (exec (Stmt.While _ _ _ _) _) _ _ _)); (fail_if_success (with_reducible show wpAny _ _ (exec (Stmt.For _ _ _ _ _) _) _ _ _)); (fail_if_success (with_reducible show wpAny _ _ (eval (PySem.Expr.ListComp _ _ _ _) _) _ _ _)); (fail_if_success (with_reducible show wpAny _ _ (exec (PySem.Stmt.Assign _ (PySem.Expr.ListComp _ _ _ _) _) _) _ _ _)); (fail_if_success (with_reducible show wpAny _ _ (call (Value.ref _) _) _ _ _)); (fail_if_success (with_reducible show wpAny _ _ (pyIter (Value.ref _)) _ _ _)); (fail_if_success (show LCg.CompSrc _ _ _ _ _ _ _ _ _ _ _ _ _ _)); first | (k_unfold; (try dsimp only)) | (k_end; wrow_close) | walk1 | (dsimp only; walk1) | (leave1; (try dsimp only))))))))
  ((refine' Mine.call_told (by assumption) (by assumption) (by assumption) (by assumption) (by rfl) (by rfl) (fun BB GG => Mine.told2 ?Xq371 ?Tq371 BB GG ?hdq371 ?huq371 ?hl0q371 ?hlq371 ?hiq371 ?pq371 ?hsq371 ?hkq371) ?_; (case Xq371 => (first | (with_reducible assumption) | exact Frag.In.keeps (by assumption) (Fr.keep (by assumption)) | exact ⟨_, _, _, Top.keeps (by assumption) (Fr.keep (by assumption))⟩)); (case Tq371 => (first | (with_reducible assumption) | exact Frag.In.keeps (by assumption) (Fr.keep (by assumption)) | exact ⟨_, _, _, Top.keeps (by assumption) (Fr.keep (by assumption))⟩)); (case hdq371 => exact Mine.room1 (by assumption) rfl); (case huq371 => exact Mine.room3 (by assumption) rfl); (case hl0q371 => (first | assumption | exact Or.inl (News.isList (by assumption) (by k_mem)) | exact Or.inr (News.isTup (by assumption) (by k_mem)) | exact Mine.Empty.keeps (Fr.keep (by assumption)) (by assumption) | exact Mine.Empty.keeps (Fr.keep (by assumption)) (Mine.Empty.keeps (Fr.keep (by assumption)) (by assumption)))); (case hlq371 => (first | assumption | exact News.isTup (by assumption) (by k_mem) | exact stays_tup (Fr.keep (by assumption)) (by assumption) | exact stays_tup (Fr.keep (by assumption)) (stays_tup (Fr.keep (by assumption)) (by assumption)))); (case hiq371 => (first | (with_reducible assumption) | exact Mine.ThsAre.keeps (Fr.keep (by assumption)) (by with_reducible assumption) | exact Mine.ThsAre.keeps (Fr.keep (by assumption)) (Mine.ThsAre.keeps (Fr.keep (by assumption)) (by with_reducible assumption)))); (case pq371 => assumption); (case hsq371 => (first | (with_reducible assumption) | exact Mine.SysOk.keeps (Fr.keep (by assumption)) (by with_reducible assumption))); (case hkq371 => first | assumption | exact Mine.IsNk.no | exact Mine.IsNk.star _ | exact Mine.IsNk.plus _ | exact Mine.IsNk.int _ _); (intro g1q371 l1q371 its1q371 k1q371 h1q371 tk1q371 R1q371 HC1q371 F1q371 N1q371 hf1q371); (obtain ⟨X1, ⟨mean1, mg1, mb1, T1⟩, G1, hl1, hi1, hls1, hsys1⟩ := id HC1q371)))
  walk1
  (((with_reducible show wpAny _ _ (compareOp CmpOp.NotEq (Value.ref _) (Value.ref _)) _ _ _); first | refine Mine.ne_nil (by (first | assumption | exact News.isList (by assumption) (by k_mem) | exact stays_list (Fr.keep (by assumption)) (by assumption) | exact stays_list (Fr.keep (by assumption)) (stays_list (Fr.keep (by assumption)) (by assumption)))) (by (first | assumption | exact News.isList (by assumption) (by k_mem) | exact stays_list (Fr.keep (by assumption)) (by assumption) | exact stays_list (Fr.keep (by assumption)) (stays_list (Fr.keep (by assumption)) (by assumption)))) (by with_reducible assumption) (by ktr_units) ?_ | refine Mine.ne_told (by (first | assumption | exact News.isList (by assumption) (by k_mem) | exact stays_list (Fr.keep (by assumption)) (by assumption) | exact stays_list (Fr.keep (by assumption)) (stays_list (Fr.keep (by assumption)) (by assumption)))) (by assumption) (by (first | assumption | exact News.isList (by assumption) (by k_mem) | exact stays_list (Fr.keep (by assumption)) (by assumption) | exact stays_list (Fr.keep (by assumption)) (stays_list (Fr.keep (by assumption)) (by assumption)))) (by (with_reducible first | assumption | exact Mine.flat_J_t (by with_reducible assumption) | exact Mine.flat_J_f (by with_reducible assumption) | exact Mine.flat_M_no (by with_reducible assumption) | exact Mine.flat_M_nof (by with_reducible assumption) | exact Mine.flat_M_int (by with_reducible assumption) | exact Mine.flat_M_intf (by with_reducible assumption) | exact Mine.flat_M_plus (by with_reducible assumption) (by with_reducible assumption) | exact Mine.flat_M_plusf (by with_reducible assumption) (by with_reducible assumption) | exact Mine.flat_M_star (by with_reducible assumption) (by with_reducible assumption) | exact Mine.flat_M_starf (by with_reducible assumption) (by with_reducible assumption) (by with_reducible assumption) | exact Mine.flat_M_starn (by with_reducible assumption) (by with_reducible assumption) (by with_reducible assumption))) (by ktr_units) ?_))
  (repeat' (first | ((((with_reducible show wpAny _ _ (call (Value.type "type") [_]) _ _ _); refine Mine.IsTh.type (Mine.IsTh.keeps (Fr.keep (by assumption)) (by assumption)) ?_))) | ((((with_reducible show wpAny _ _ (compareOp CmpOp.IsNot (Value.type _) (Value.type _)) _ _ _); first | refine Mine.ty_isNot_t (by assumption) ?_ | refine Mine.ty_isNot_f (by assumption) ?_))) | ((((with_reducible show wpAny _ _ (compareOp CmpOp.Eq (Value.ref _) (Value.ref _)) _ _ _); first | refine Mine.eq_nil (by (first | assumption | exact News.isList (by assumption) (by k_mem) | exact stays_list (Fr.keep (by assumption)) (by assumption) | exact stays_list (Fr.keep (by assumption)) (stays_list (Fr.keep (by assumption)) (by assumption)))) (by (first | assumption | exact News.isList (by assumption) (by k_mem) | exact stays_list (Fr.keep (by assumption)) (by assumption) | exact stays_list (Fr.keep (by assumption)) (stays_list (Fr.keep (by assumption)) (by assumption)))) (by with_reducible assumption) (by ktr_units) ?_ | refine Mine.eq_told (by (first | assumption | exact News.isList (by assumption) (by k_mem) | exact stays_list (Fr.keep (by assumption)) (by assumption) | exact stays_list (Fr.keep (by assumption)) (stays_list (Fr.keep (by assumption)) (by assumption)))) (by assumption) (by (first | assumption | exact News.isList (by assumption) (by k_mem) | exact stays_list (Fr.keep (by assumption)) (by assumption) | exact stays_list (Fr.keep (by assumption)) (stays_list (Fr.keep (by assumption)) (by assumption)))) (by (with_reducible first | assumption | exact Mine.flat_J_t (by with_reducible assumption) | exact Mine.flat_J_f (by with_reducible assumption) | exact Mine.flat_M_no (by with_reducible assumption) | exact Mine.flat_M_nof (by with_reducible assumption) | exact Mine.flat_M_int (by with_reducible assumption) | exact Mine.flat_M_intf (by with_reducible assumption) | exact Mine.flat_M_plus (by with_reducible assumption) (by with_reducible assumption) | exact Mine.flat_M_plusf (by with_reducible assumption) (by with_reducible assumption) | exact Mine.flat_M_star (by with_reducible assumption) (by with_reducible assumption) | exact Mine.flat_M_starf (by with_reducible assumption) (by with_reducible assumption) (by with_reducible assumption) | exact Mine.flat_M_starn (by with_reducible assumption) (by with_reducible assumption) (by with_reducible assumption))) (by ktr_units) ?_))) | ((((with_reducible show wpAny _ _ (compareOp CmpOp.NotEq (Value.ref _) (Value.ref _)) _ _ _); first | refine Mine.ne_nil (by (first | assumption | exact News.isList (by assumption) (by k_mem) | exact stays_list (Fr.keep (by assumption)) (by assumption) | exact stays_list (Fr.keep (by assumption)) (stays_list (Fr.keep (by assumption)) (by assumption)))) (by (first | assumption | exact News.isList (by assumption) (by k_mem) | exact stays_list (Fr.keep (by assumption)) (by assumption) | exact stays_list (Fr.keep (by assumption)) (stays_list (Fr.keep (by assumption)) (by assumption)))) (by with_reducible assumption) (by ktr_units) ?_ | refine Mine.ne_told (by (first | assumption | exact News.isList (by assumption) (by k_mem) | exact stays_list (Fr.keep (by assumption)) (by assumption) | exact stays_list (Fr.keep (by assumption)) (stays_list (Fr.keep (by assumption)) (by assumption)))) (by assumption) (by (first | assumption | exact News.isList (by assumption) (by k_mem) | exact stays_list (Fr.keep (by assumption)) (by assumption) | exact stays_list (Fr.keep (by assumption)) (stays_list (Fr.keep (by assumption)) (by assumption)))) (by (with_reducible first | assumption | exact Mine.flat_J_t (by with_reducible assumption) | exact Mine.flat_J_f (by with_reducible assumption) | exact Mine.flat_M_no (by with_reducible assumption) | exact Mine.flat_M_nof (by with_reducible assumption) | exact Mine.flat_M_int (by with_reducible assumption) | exact Mine.flat_M_intf (by with_reducible assumption) | exact Mine.flat_M_plus (by with_reducible assumption) (by with_reducible assumption) | exact Mine.flat_M_plusf (by with_reducible assumption) (by with_reducible assumption) | exact Mine.flat_M_star (by with_reducible assumption) (by with_reducible assumption) | exact Mine.flat_M_starf (by with_reducible assumption) (by with_reducible assumption) (by with_reducible assumption) | exact Mine.flat_M_starn (by with_reducible assumption) (by with_reducible assumption) (by with_reducible assumption))) (by ktr_units) ?_))) | ((((with_reducible show wpAny _ _ (call (Value.type "tuple") [Value.ref _]) _ _ _); refine Mine.tuple_of (by assumption) (by assumption) (by (first | assumption | exact News.isList (by assumption) (by k_mem) | exact stays_list (Fr.keep (by assumption)) (by assumption) | exact stays_list (Fr.keep (by assumption)) (stays_list (Fr.keep (by assumption)) (by assumption)))) (by assumption) ?_; intro D7q399 h7q399 F7q399 N7q399))) | ((((with_reducible show wpAny _ _ (subscriptTail _ _ (Value.ref _) (Value.int _ _)) _ _ _); first | refine Mine.item_strs (by (first | assumption | exact News.isList (by assumption) (by k_mem) | exact stays_list (Fr.keep (by assumption)) (by assumption) | exact stays_list (Fr.keep (by assumption)) (stays_list (Fr.keep (by assumption)) (by assumption)))) (by with_reducible assumption) 0 rfl (by omega) (by omega) ?_ (by with_unfolding_all rfl) | refine Mine.item_strs (by (first | assumption | exact News.isList (by assumption) (by k_mem) | exact stays_list (Fr.keep (by assumption)) (by assumption) | exact stays_list (Fr.keep (by assumption)) (stays_list (Fr.keep (by assumption)) (by assumption)))) (by with_reducible assumption) 1 rfl (by omega) (by omega) ?_ (by with_unfolding_all rfl); intro t9q401))) | (((first | ((fail_if_success (with_reducible show wpAny _ _ (exec (Stmt.While _ _ _ _) _) _ _ _)); (fail_if_success (with_reducible show wpAny _ _ (exec (Stmt.For _ _ _ _ _) _) _ _ _)); (fail_if_success (with_reducible show wpAny _ _ (eval (PySem.Expr.ListComp _ _ _ _) _) _ _ _)); (fail_if_success (with_reducible show wpAny _ _ (exec (PySem.Stmt.Assign _ (PySem.Expr.ListComp _ _ _ _) _) _) _ _ _)); (fail_if_success (with_reducible show wpAny _ _ (call (Value.ref _) _) _ _ _)); (fail_if_success (with_reducible show wpAny _ _ (pyIter (Value.ref _)) _ _ _)); (fail_if_success (show LCg.CompSrc _ _ _ _ _ _ _ _ _ _ _ _ _ _)); first | (k_unfold; (try dsimp only)) | (k_end; wrow_close) | walk1 | (dsimp only; walk1) | (leave1; (try dsimp only))))))))
  exact TurnS.intro (by assumption) (by assumption) (by assumption) (fun p hp => by repeat' (first | exact hp | refine List.Mem.tail _ ?_)) ⟨_, by (((simp only [← Mine.mset_at]); rfl))⟩
theorem body_is : forBody (stOf 13 3) = [forSt 13 3 0, forSt 13 3 1, forSt 13 3 2] := rfl
theorem turnH (R : Rel w (AA dp outer (some []) un) base hB outer g) (hc : HC w base outer ths ta sa items sits g) (hd : dp + 30 < recursionLimit) (hu : un + 300 < cLine)
   (his : StrsAre sits.toList (ths.map Th.shown)) (p : Pl ths) (hb : b = ths.all Th.isStr) (hk : IsNk nv k)
   (F : Fr g L s.heap (fun y => if y = Str.ofString "nargs" then some nv else List.lookup y ((Str.ofString "shown", .ref sa) :: (Str.ofString "things", .ref ta) :: (Str.ofString "plain", .bool b) :: ex))) (N : News g L s.heap LED) :
   wpAny (model P w) ((AA dp outer (some []) un).deeper (envH L)) (execs (forBody (stOf 13 3)) (envH L))
      (TurnS w (AA dp outer (some []) un) base hB outer L s Q LED fun m' => ∃ ex', m' = fun y => List.lookup y ((Str.ofString "shown", .ref sa) :: (Str.ofString "things", .ref ta) :: (Str.ofString "plain", .bool b) :: ex'))
      (fun _ _ => False) s := by
  rw [body_is]
  refine wpAny_execs_cons (wpAny_mono (turn0 R hc hd hu his p hb F N) ?_ fun _ _ e => e)
  rintro f s' ⟨rfl, h1, tk1, d1, its1, k1, rfl, F1, N1, f1⟩
  refine wpAny_execs_cons (wpAny_mono (turn1 R hc hd hu his p hk f1 F1 N1) ?_ fun _ _ e => e)
  rintro f s' ⟨rfl, h2, tk2, d2, its2, k2, rfl, F2, N2, f2⟩
  refine wpAny_execs_cons (wpAny_mono (turn2 (Q := Q) (hB := hB) R hc hd hu p hk f2 F2 N2) ?_ fun _ _ e => e)
  intro f s' hq
  cases f with
  | next => exact wpAny_execs_nil hq
  | brk => exact hq
  | ret v => exact hq
  | cont => exact hq
end

end
section

theorem flat_O {ths : List Th} {its : Array Value} (h : ths ≠ []) (f : Flat its (dueJ "/" ths)) : Flat its (dueO ths) := by rw [dueO, if_neg h]; exact f
theorem flat_O0 {ths : List Th} {t : Tok} (h : ths = []) : Flat #[.str "d" t] (dueO ths) := by rw [dueO, if_pos h]; exact .str _ _
/-- a statement that goes on, the base turned, the names as they were -/
def GoneOn (w : World) (A₀ : Around) (base hB : Heap) (outer : List Env) (ths : List Th) (ta sa : Addr) (items sits : Array Value) (L : Addr) (s : Shared) (LED : List (Addr × Obj)) (m : Str → Option Value) (f : Flow) (s' : Shared) : Prop :=
  f = .next ∧ ∃ g h' tk, s' = { s with heap := h', toks := tk } ∧ Rel w A₀ base hB outer g ∧ HC w base outer ths ta sa items sits g ∧ Fr g L h' m ∧ News g L h' LED
theorem GoneOn.intro {w : World} {A₀ : Around} {base hB : Heap} {outer : List Env} {ths : List Th} {ta sa : Addr} {items sits : Array Value} {L : Addr} {s : Shared} {LED news : List (Addr × Obj)} {m : Str → Option Value} {g h' : Heap} {tk : Nat} (R : Rel w A₀ base hB outer g) (hc : HC w base outer ths ta sa items sits g) (F : Fr g L h' m) (N : News g L h' news) (hs : ∀ p ∈ LED, p ∈ news) : GoneOn w A₀ base hB outer ths ta sa items sits L s LED m .next { s with heap := h', toks := tk } :=
  ⟨rfl, g, h', tk, rfl, R, hc, F, fun p hp => N p (hs p hp)⟩
section
variable {w : World} {dp un : Nat} {outer : List Env} {base hB g : Heap} {s : Shared} {ta sa L : Addr} {items sits : Array Value} {ths : List Th} {b : Bool} {LED : List (Addr × Obj)} {ex : List (Str × Value)}
theorem hold1 (R : Rel w (AA dp outer (some []) un) base hB outer g) (hc : HC w base outer ths ta sa items sits g) (hd : dp + 30 < recursionLimit) (hu : un + 300 < cLine)
   (his : StrsAre sits.toList (ths.map Th.shown)) (p : Pl ths) (hb : b = ths.all Th.isStr)
   (F : Fr g L s.heap (fun y => List.lookup y ((Str.ofString "shown", .ref sa) :: (Str.ofString "things", .ref ta) :: (Str.ofString "plain", .bool b) :: ex))) (N : News g L s.heap LED) :
   wpAny (model P w) ((AA dp outer (some []) un).deeper (envH L)) (exec (stOf 13 1) (envH L))
      (DueIs g L s LED (fun y => List.lookup y ((Str.ofString "shown", .ref sa) :: (Str.ofString "things", .ref ta) :: (Str.ofString "plain", .bool b) :: ex)) (dueJ "/" ths))
      (fun _ _ => False) s := by
  obtain ⟨X, ⟨mean, mg, mb, T⟩, G, hl, hi, hls, hsys⟩ := id hc
  have B := R.B
  have hm4 : (ths.map Th.shown).length ≤ 4 := by rw [List.length_map]; exact p.len
  have hw4 : ∀ y ∈ ths.map Th.shown, y.length ≤ 1000 := fun y hy => by
    obtain ⟨x, hx, rfl⟩ := List.mem_map.mp hy
    exact p.short x hx
  unfold envH
  conv in (stOf _ _) => whnf
  conv in (occs := *) (scopeOf _) => all_goals whnf
  show wpAny (model P w) _ _ _ _ _
  k_fold
  cases b
  all_goals (repeat' (first | ((((with_reducible show wpAny _ _ (call (Value.type "type") [_]) _ _ _); refine Mine.IsTh.type (Mine.IsTh.keeps (Fr.keep (by assumption)) (by assumption)) ?_))) | ((((with_reducible show wpAny _ _ (compareOp CmpOp.IsNot (Value.type _) (Value.type _)) _ _ _); first | refine Mine.ty_isNot_t (by assumption) ?_ | refine Mine.ty_isNot_f (by assumption) ?_))) | ((((with_reducible show wpAny _ _ (compareOp CmpOp.Eq (Value.ref _) (Value.ref _)) _ _ _); first | refine Mine.eq_nil (by (first | assumption | exact News.isList (by assumption) (by k_mem) | exact stays_list (Fr.keep (by assumption)) (by assumption) | exact stays_list (Fr.keep (by assumption)) (stays_list (Fr.keep (by assumption)) (by assumption)))) (by (first | assumption | exact News.isList (by assumption) (by k_mem) | exact stays_list (Fr.keep (by assumption)) (by assumption) | exact stays_list (Fr.keep (by assumption)) (stays_list (Fr.keep (by assumption)) (by assumption)))) (by with_reducible assumption) (by ktr_units) ?_ | refine Mine.eq_told (by (first | assumption | exact News.isList (by assumption) (by k_mem) | exact stays_list (Fr.keep (by assumption)) (by assumption) | exact stays_list (Fr.keep (by assumption)) (stays_list (Fr.keep (by assumption)) (by assumption)))) (by assumption) (by (first | assumption | exact News.isList (by assumption) (by k_mem) | exact stays_list (Fr.keep (by assumption)) (by assumption) | exact stays_list (Fr.keep (by assumption)) (stays_list (Fr.keep (by assumption)) (by assumption)))) (by (with_reducible first | assumption | exact Mine.flat_J_t (by with_reducible assumption) | exact Mine.flat_J_f (by with_reducible assumption) | exact Mine.flat_M_no (by with_reducible assumption) | exact Mine.flat_M_nof (by with_reducible assumption) | exact Mine.flat_M_int (by with_reducible assumption) | exact Mine.flat_M_intf (by with_reducible assumption) | exact Mine.flat_M_plus (by with_reducible assumption) (by with_reducible assumption) | exact Mine.flat_M_plusf (by with_reducible assumption) (by with_reducible assumption) | exact Mine.flat_M_star (by with_reducible assumption) (by with_reducible assumption) | exact Mine.flat_M_starf (by with_reducible assumption) (by with_reducible assumption) (by with_reducible assumption) | exact Mine.flat_M_starn (by with_reducible assumption) (by with_reducible assumption) (by with_reducible assumption))) (by ktr_units) ?_))) | ((((with_reducible show wpAny _ _ (compareOp CmpOp.NotEq (Value.ref _) (Value.ref _)) _ _ _); first | refine Mine.ne_nil (by (first | assumption | exact News.isList (by assumption) (by k_mem) | exact stays_list (Fr.keep (by assumption)) (by assumption) | exact stays_list (Fr.keep (by assumption)) (stays_list (Fr.keep (by assumption)) (by assumption)))) (by (first | assumption | exact News.isList (by assumption) (by k_mem) | exact stays_list (Fr.keep (by assumption)) (by assumption) | exact stays_list (Fr.keep (by assumption)) (stays_list (Fr.keep (by assumption)) (by assumption)))) (by with_reducible assumption) (by ktr_units) ?_ | refine Mine.ne_told (by (first | assumption | exact News.isList (by assumption) (by k_mem) | exact stays_list (Fr.keep (by assumption)) (by assumption) | exact stays_list (Fr.keep (by assumption)) (stays_list (Fr.keep (by assumption)) (by assumption)))) (by assumption) (by (first | assumption | exact News.isList (by assumption) (by k_mem) | exact stays_list (Fr.keep (by assumption)) (by assumption) | exact stays_list (Fr.keep (by assumption)) (stays_list (Fr.keep (by assumption)) (by assumption)))) (by (with_reducible first | assumption | exact Mine.flat_J_t (by with_reducible assumption) | exact Mine.flat_J_f (by with_reducible assumption) | exact Mine.flat_M_no (by with_reducible assumption) | exact Mine.flat_M_nof (by with_reducible assumption) | exact Mine.flat_M_int (by with_reducible assumption) | exact Mine.flat_M_intf (by with_reducible assumption) | exact Mine.flat_M_plus (by with_reducible assumption) (by with_reducible assumption) | exact Mine.flat_M_plusf (by with_reducible assumption) (by with_reducible assumption) | exact Mine.flat_M_star (by with_reducible assumption) (by with_reducible assumption) | exact Mine.flat_M_starf (by with_reducible assumption) (by with_reducible assumption) (by with_reducible assumption) | exact Mine.flat_M_starn (by with_reducible assumption) (by with_reducible assumption) (by with_reducible assumption))) (by ktr_units) ?_))) | ((((with_reducible show wpAny _ _ (call (Value.type "tuple") [Value.ref _]) _ _ _); refine Mine.tuple_of (by assumption) (by assumption) (by (first | assumption | exact News.isList (by assumption) (by k_mem) | exact stays_list (Fr.keep (by assumption)) (by assumption) | exact stays_list (Fr.keep (by assumption)) (stays_list (Fr.keep (by assumption)) (by assumption)))) (by assumption) ?_; intro D7q421 h7q421 F7q421 N7q421))) | ((((with_reducible show wpAny _ _ (subscriptTail _ _ (Value.ref _) (Value.int _ _)) _ _ _); first | refine Mine.item_strs (by (first | assumption | exact News.isList (by assumption) (by k_mem) | exact stays_list (Fr.keep (by assumption)) (by assumption) | exact stays_list (Fr.keep (by assumption)) (stays_list (Fr.keep (by assumption)) (by assumption)))) (by with_reducible assumption) 0 rfl (by omega) (by omega) ?_ (by with_unfolding_all rfl) | refine Mine.item_strs (by (first | assumption | exact News.isList (by assumption) (by k_mem) | exact stays_list (Fr.keep (by assumption)) (by assumption) | exact stays_list (Fr.keep (by assumption)) (stays_list (Fr.keep (by assumption)) (by assumption)))) (by with_reducible assumption) 1 rfl (by omega) (by omega) ?_ (by with_unfolding_all rfl); intro t9q423))) | (((first | ((fail_if_success (with_reducible show wpAny _ _ (exec (Stmt.While _ _ _ _) _) _ _ _)); (fail_if_success (with_reducible show wpAny _ _ (exec (Stmt.For _ _ _ _ _) _) _ _ _)); (fail_if_success (with_reducible show wpAny _ _ (eval (PySem.Expr.ListComp _ _ _ _) _) _ _ _)); (fail_if_success (with_reducible show wpAny _ _ (exec (PySem.Stmt.Assign _ (PySem.Expr.ListComp _ _ _ _) _) _) _ _ _)); (fail_if_success (with_reducible show wpAny _ _ (call (Value.ref _) _) _ _ _)); (fail_if_success (with_reducible show wpAny _ _ (pyIter (Value.ref _)) _ _ _)); (fail_if_success (show LCg.CompSrc _ _ _ _ _ _ _ _ _ _ _ _ _ _)); first | (k_unfold; (try dsimp only)) | (k_end; wrow_close) | walk1 | (dsimp only; walk1) | (leave1; (try dsimp only))))))))
  · exact DueIs.intro (by assumption) rfl (by assumption) (.head _) (fun p hp => .tail _ hp) (flat_J_f (by assumption))
  ((refine' Mine.call_at (by assumption) (by assumption) (by assumption) (by rfl) (by rfl) (fun BB => Mine.law_row ?Xq427 ?Tq427 BB ?hdq427 ?huq427 ?hlq427 ?hiq427 ?hlenq427 ?hmq427 ?hwq427) ?_; (case Xq427 => (first | (with_reducible assumption) | exact Frag.In.keeps (by assumption) (Fr.keep (by assumption)) | exact ⟨_, _, _, Top.keeps (by assumption) (Fr.keep (by assumption))⟩)); (case Tq427 => (first | (with_reducible assumption) | exact Frag.In.keeps (by assumption) (Fr.keep (by assumption)) | exact ⟨_, _, _, Top.keeps (by assumption) (Fr.keep (by assumption))⟩)); (case hdq427 => exact Mine.room1 (by assumption) rfl); (case huq427 => exact Mine.room3 (by assumption) rfl); (case hlq427 => (first | assumption | exact News.isList (by assumption) (by k_mem) | exact stays_list (Fr.keep (by assumption)) (by assumption) | exact stays_list (Fr.keep (by assumption)) (stays_list (Fr.keep (by assumption)) (by assumption)))); (case hiq427 => assumption); (case hlenq427 => assumption); (case hmq427 => decide +kernel); (case hwq427 => assumption); (rintro v2q427 h2q427 tk2q427 F2q427 N2q427 st2q427 ⟨t2q427, hv2q427⟩); subst hv2q427))
  (repeat' (first | ((((with_reducible show wpAny _ _ (call (Value.type "type") [_]) _ _ _); refine Mine.IsTh.type (Mine.IsTh.keeps (Fr.keep (by assumption)) (by assumption)) ?_))) | ((((with_reducible show wpAny _ _ (compareOp CmpOp.IsNot (Value.type _) (Value.type _)) _ _ _); first | refine Mine.ty_isNot_t (by assumption) ?_ | refine Mine.ty_isNot_f (by assumption) ?_))) | ((((with_reducible show wpAny _ _ (compareOp CmpOp.Eq (Value.ref _) (Value.ref _)) _ _ _); first | refine Mine.eq_nil (by (first | assumption | exact News.isList (by assumption) (by k_mem) | exact stays_list (Fr.keep (by assumption)) (by assumption) | exact stays_list (Fr.keep (by assumption)) (stays_list (Fr.keep (by assumption)) (by assumption)))) (by (first | assumption | exact News.isList (by assumption) (by k_mem) | exact stays_list (Fr.keep (by assumption)) (by assumption) | exact stays_list (Fr.keep (by assumption)) (stays_list (Fr.keep (by assumption)) (by assumption)))) (by with_reducible assumption) (by ktr_units) ?_ | refine Mine.eq_told (by (first | assumption | exact News.isList (by assumption) (by k_mem) | exact stays_list (Fr.keep (by assumption)) (by assumption) | exact stays_list (Fr.keep (by assumption)) (stays_list (Fr.keep (by assumption)) (by assumption)))) (by assumption) (by (first | assumption | exact News.isList (by assumption) (by k_mem) | exact stays_list (Fr.keep (by assumption)) (by assumption) | exact stays_list (Fr.keep (by assumption)) (stays_list (Fr.keep (by assumption)) (by assumption)))) (by (with_reducible first | assumption | exact Mine.flat_J_t (by with_reducible assumption) | exact Mine.flat_J_f (by with_reducible assumption) | exact Mine.flat_M_no (by with_reducible assumption) | exact Mine.flat_M_nof (by with_reducible assumption) | exact Mine.flat_M_int (by with_reducible assumption) | exact Mine.flat_M_intf (by with_reducible assumption) | exact Mine.flat_M_plus (by with_reducible assumption) (by with_reducible assumption) | exact Mine.flat_M_plusf (by with_reducible assumption) (by with_reducible assumption) | exact Mine.flat_M_star (by with_reducible assumption) (by with_reducible assumption) | exact Mine.flat_M_starf (by with_reducible assumption) (by with_reducible assumption) (by with_reducible assumption) | exact Mine.flat_M_starn (by with_reducible assumption) (by with_reducible assumption) (by with_reducible assumption))) (by ktr_units) ?_))) | ((((with_reducible show wpAny _ _ (compareOp CmpOp.NotEq (Value.ref _) (Value.ref _)) _ _ _); first | refine Mine.ne_nil (by (first | assumption | exact News.isList (by assumption) (by k_mem) | exact stays_list (Fr.keep (by assumption)) (by assumption) | exact stays_list (Fr.keep (by assumption)) (stays_list (Fr.keep (by assumption)) (by assumption)))) (by (first | assumption | exact News.isList (by assumption) (by k_mem) | exact stays_list (Fr.keep (by assumption)) (by assumption) | exact stays_list (Fr.keep (by assumption)) (stays_list (Fr.keep (by assumption)) (by assumption)))) (by with_reducible assumption) (by ktr_units) ?_ | refine Mine.ne_told (by (first | assumption | exact News.isList (by assumption) (by k_mem) | exact stays_list (Fr.keep (by assumption)) (by assumption) | exact stays_list (Fr.keep (by assumption)) (stays_list (Fr.keep (by assumption)) (by assumption)))) (by assumption) (by (first | assumption | exact News.isList (by assumption) (by k_mem) | exact stays_list (Fr.keep (by assumption)) (by assumption) | exact stays_list (Fr.keep (by assumption)) (stays_list (Fr.keep (by assumption)) (by assumption)))) (by (with_reducible first | assumption | exact Mine.flat_J_t (by with_reducible assumption) | exact Mine.flat_J_f (by with_reducible assumption) | exact Mine.flat_M_no (by with_reducible assumption) | exact Mine.flat_M_nof (by with_reducible assumption) | exact Mine.flat_M_int (by with_reducible assumption) | exact Mine.flat_M_intf (by with_reducible assumption) | exact Mine.flat_M_plus (by with_reducible assumption) (by with_reducible assumption) | exact Mine.flat_M_plusf (by with_reducible assumption) (by with_reducible assumption) | exact Mine.flat_M_star (by with_reducible assumption) (by with_reducible assumption) | exact Mine.flat_M_starf (by with_reducible assumption) (by with_reducible assumption) (by with_reducible assumption) | exact Mine.flat_M_starn (by with_reducible assumption) (by with_reducible assumption) (by with_reducible assumption))) (by ktr_units) ?_))) | ((((with_reducible show wpAny _ _ (call (Value.type "tuple") [Value.ref _]) _ _ _); refine Mine.tuple_of (by assumption) (by assumption) (by (first | assumption | exact News.isList (by assumption) (by k_mem) | exact stays_list (Fr.keep (by assumption)) (by assumption) | exact stays_list (Fr.keep (by assumption)) (stays_list (Fr.keep (by assumption)) (by assumption)))) (by assumption) ?_; intro D7q446 h7q446 F7q446 N7q446))) | ((((with_reducible show wpAny _ _ (subscriptTail _ _ (Value.ref _) (Value.int _ _)) _ _ _); first | refine Mine.item_strs (by (first | assumption | exact News.isList (by assumption) (by k_mem) | exact stays_list (Fr.keep (by assumption)) (by assumption) | exact stays_list (Fr.keep (by assumption)) (stays_list (Fr.keep (by assumption)) (by assumption)))) (by with_reducible assumption) 0 rfl (by omega) (by omega) ?_ (by with_unfolding_all rfl) | refine Mine.item_strs (by (first | assumption | exact News.isList (by assumption) (by k_mem) | exact stays_list (Fr.keep (by assumption)) (by assumption) | exact stays_list (Fr.keep (by assumption)) (stays_list (Fr.keep (by assumption)) (by assumption)))) (by with_reducible assumption) 1 rfl (by omega) (by omega) ?_ (by with_unfolding_all rfl); intro t9q448))) | (((first | ((fail_if_success (with_reducible show wpAny _ _ (exec (Stmt.While _ _ _ _) _) _ _ _)); (fail_if_success (with_reducible show wpAny _ _ (exec (Stmt.For _ _ _ _ _) _) _ _ _)); (fail_if_success (with_reducible show wpAny _ _ (eval (PySem.Expr.ListComp _ _ _ _) _) _ _ _)); (fail_if_success (with_reducible show wpAny _ _ (exec (PySem.Stmt.Assign _ (PySem.Expr.ListComp _ _ _ _) _) _) _ _ _)); (fail_if_success (with_reducible show wpAny _ _ (call (Value.ref _) _) _ _ _)); (fail_if_success (with_reducible show wpAny _ _ (pyIter (Value.ref _)) _ _ _)); (fail_if_success (show LCg.CompSrc _ _ _ _ _ _ _ _ _ _ _ _ _ _)); first | (k_unfold; (try dsimp only)) | (k_end; wrow_close) | walk1 | (dsimp only; walk1) | (leave1; (try dsimp only))))))))
  exact DueIs.intro (by assumption) rfl (by assumption) (.head _) (fun p hp => .tail _ hp) (flat_J_t (by assumption))
theorem hold2 (R : Rel w (AA dp outer (some []) un) base hB outer g) (hc : HC w base outer ths ta sa items sits g) (hd : dp + 30 < recursionLimit) (hu : un + 300 < cLine)
   (p : Pl ths) {d : Addr} {its : Array Value} {kd : Nat} (hf : Flat its (dueJ "/" ths))
   (F : Fr g L s.heap (fun y => if y = Str.ofString "due" then some (.ref d) else List.lookup y ((Str.ofString "shown", .ref sa) :: (Str.ofString "things", .ref ta) :: (Str.ofString "plain", .bool b) :: ex))) (N : News g L s.heap ((d, W.listOf its kd) :: LED)) :
   wpAny (model P w) ((AA dp outer (some []) un).deeper (envH L)) (exec (stOf 13 2) (envH L))
      (GoneOn w (AA dp outer (some []) un) base hB outer ths ta sa items sits L s LED (fun y => if y = Str.ofString "due" then some (.ref d) else List.lookup y ((Str.ofString "shown", .ref sa) :: (Str.ofString "things", .ref ta) :: (Str.ofString "plain", .bool b) :: ex)))
      (fun _ _ => False) s := by
  obtain ⟨X, ⟨mean, mg, mb, T⟩, G, hl, hi, hls, hsys⟩ := id hc
  have hlen := hi.len
  have hem := hi.empty
  unfold envH
  conv in (stOf _ _) => whnf
  conv in (occs := *) (scopeOf _) => all_goals whnf
  show wpAny (model P w) _ _ _ _ _
  k_fold
  (repeat' (first | ((((with_reducible show wpAny _ _ (call (Value.type "type") [_]) _ _ _); refine Mine.IsTh.type (Mine.IsTh.keeps (Fr.keep (by assumption)) (by assumption)) ?_))) | ((((with_reducible show wpAny _ _ (compareOp CmpOp.IsNot (Value.type _) (Value.type _)) _ _ _); first | refine Mine.ty_isNot_t (by assumption) ?_ | refine Mine.ty_isNot_f (by assumption) ?_))) | ((((with_reducible show wpAny _ _ (compareOp CmpOp.Eq (Value.ref _) (Value.ref _)) _ _ _); first | refine Mine.eq_nil (by (first | assumption | exact News.isList (by assumption) (by k_mem) | exact stays_list (Fr.keep (by assumption)) (by assumption) | exact stays_list (Fr.keep (by assumption)) (stays_list (Fr.keep (by assumption)) (by assumption)))) (by (first | assumption | exact News.isList (by assumption) (by k_mem) | exact stays_list (Fr.keep (by assumption)) (by assumption) | exact stays_list (Fr.keep (by assumption)) (stays_list (Fr.keep (by assumption)) (by assumption)))) (by with_reducible assumption) (by ktr_units) ?_ | refine Mine.eq_told (by (first | assumption | exact News.isList (by assumption) (by k_mem) | exact stays_list (Fr.keep (by assumption)) (by assumption) | exact stays_list (Fr.keep (by assumption)) (stays_list (Fr.keep (by assumption)) (by assumption)))) (by assumption) (by (first | assumption | exact News.isList (by assumption) (by k_mem) | exact stays_list (Fr.keep (by assumption)) (by assumption) | exact stays_list (Fr.keep (by assumption)) (stays_list (Fr.keep (by assumption)) (by assumption)))) (by (with_reducible first | assumption | exact Mine.flat_J_t (by with_reducible assumption) | exact Mine.flat_J_f (by with_reducible assumption) | exact Mine.flat_M_no (by with_reducible assumption) | exact Mine.flat_M_nof (by with_reducible assumption) | exact Mine.flat_M_int (by with_reducible assumption) | exact Mine.flat_M_intf (by with_reducible assumption) | exact Mine.flat_M_plus (by with_reducible assumption) (by with_reducible assumption) | exact Mine.flat_M_plusf (by with_reducible assumption) (by with_reducible assumption) | exact Mine.flat_M_star (by with_reducible assumption) (by with_reducible assumption) | exact Mine.flat_M_starf (by with_reducible assumption) (by with_reducible assumption) (by with_reducible assumption) | exact Mine.flat_M_starn (by with_reducible assumption) (by with_reducible assumption) (by with_reducible assumption))) (by ktr_units) ?_))) | ((((with_reducible show wpAny _ _ (compareOp CmpOp.NotEq (Value.ref _) (Value.ref _)) _ _ _); first | refine Mine.ne_nil (by (first | assumption | exact News.isList (by assumption) (by k_mem) | exact stays_list (Fr.keep (by assumption)) (by assumption) | exact stays_list (Fr.keep (by assumption)) (stays_list (Fr.keep (by assumption)) (by assumption)))) (by (first | assumption | exact News.isList (by assumption) (by k_mem) | exact stays_list (Fr.keep (by assumption)) (by assumption) | exact stays_list (Fr.keep (by assumption)) (stays_list (Fr.keep (by assumption)) (by assumption)))) (by with_reducible assumption) (by ktr_units) ?_ | refine Mine.ne_told (by (first | assumption | exact News.isList (by assumption) (by k_mem) | exact stays_list (Fr.keep (by assumption)) (by assumption) | exact stays_list (Fr.keep (by assumption)) (stays_list (Fr.keep (by assumption)) (by assumption)))) (by assumption) (by (first | assumption | exact News.isList (by assumption) (by k_mem) | exact stays_list (Fr.keep (by assumption)) (by assumption) | exact stays_list (Fr.keep (by assumption)) (stays_list (Fr.keep (by assumption)) (by assumption)))) (by (with_reducible first | assumption | exact Mine.flat_J_t (by with_reducible assumption) | exact Mine.flat_J_f (by with_reducible assumption) | exact Mine.flat_M_no (by with_reducible assumption) | exact Mine.flat_M_nof (by with_reducible assumption) | exact Mine.flat_M_int (by with_reducible assumption) | exact Mine.flat_M_intf (by with_reducible assumption) | exact Mine.flat_M_plus (by with_reducible assumption) (by with_reducible assumption) | exact Mine.flat_M_plusf (by with_reducible assumption) (by with_reducible assumption) | exact Mine.flat_M_star (by with_reducible assumption) (by with_reducible assumption) | exact Mine.flat_M_starf (by with_reducible assumption) (by with_reducible assumption) (by with_reducible assumption) | exact Mine.flat_M_starn (by with_reducible assumption) (by with_reducible assumption) (by with_reducible assumption))) (by ktr_units) ?_))) | ((((with_reducible show wpAny _ _ (call (Value.type "tuple") [Value.ref _]) _ _ _); refine Mine.tuple_of (by assumption) (by assumption) (by (first | assumption | exact News.isList (by assumption) (by k_mem) | exact stays_list (Fr.keep (by assumption)) (by assumption) | exact stays_list (Fr.keep (by assumption)) (stays_list (Fr.keep (by assumption)) (by assumption)))) (by assumption) ?_; intro D7q467 h7q467 F7q467 N7q467))) | ((((with_reducible show wpAny _ _ (subscriptTail _ _ (Value.ref _) (Value.int _ _)) _ _ _); first | refine Mine.item_strs (by (first | assumption | exact News.isList (by assumption) (by k_mem) | exact stays_list (Fr.keep (by assumption)) (by assumption) | exact stays_list (Fr.keep (by assumption)) (stays_list (Fr.keep (by assumption)) (by assumption)))) (by with_reducible assumption) 0 rfl (by omega) (by omega) ?_ (by with_unfolding_all rfl) | refine Mine.item_strs (by (first | assumption | exact News.isList (by assumption) (by k_mem) | exact stays_list (Fr.keep (by assumption)) (by assumption) | exact stays_list (Fr.keep (by assumption)) (stays_list (Fr.keep (by assumption)) (by assumption)))) (by with_reducible assumption) 1 rfl (by omega) (by omega) ?_ (by with_unfolding_all rfl); intro t9q469))) | (((first | ((fail_if_success (with_reducible show wpAny _ _ (exec (Stmt.While _ _ _ _) _) _ _ _)); (fail_if_success (with_reducible show wpAny _ _ (exec (Stmt.For _ _ _ _ _) _) _ _ _)); (fail_if_success (with_reducible show wpAny _ _ (eval (PySem.Expr.ListComp _ _ _ _) _) _ _ _)); (fail_if_success (with_reducible show wpAny _ _ (exec (PySem.Stmt.Assign _ (PySem.Expr.ListComp _ _ _ _) _) _) _ _ _)); (fail_if_success (with_reducible show wpAny _ _ (call (Value.ref _) _) _ _ _)); (fail_if_success (with_reducible show wpAny _ _ (pyIter (Value.ref _)) _ _ _)); (fail_if_success (show LCg.CompSrc _ _ _ _ _ _ _ _ _ _ _ _ _ _)); first | (k_unfold; (try dsimp only)) | (k_end; wrow_close) | walk1 | (dsimp only; walk1) | (leave1; (try dsimp only))))))))
  ((refine' Mine.call_told (by assumption) (by assumption) (by assumption) (by assumption) (by rfl) (by rfl) (fun BB GG => Mine.told1 ?Xq473 ?Tq473 BB GG ?hdq473 ?huq473 ?hlq473 ?hiq473 ?pq473) ?_; (case Xq473 => (first | (with_reducible assumption) | exact Frag.In.keeps (by assumption) (Fr.keep (by assumption)) | exact ⟨_, _, _, Top.keeps (by assumption) (Fr.keep (by assumption))⟩)); (case Tq473 => (first | (with_reducible assumption) | exact Frag.In.keeps (by assumption) (Fr.keep (by assumption)) | exact ⟨_, _, _, Top.keeps (by assumption) (Fr.keep (by assumption))⟩)); (case hdq473 => exact Mine.room1 (by assumption) rfl); (case huq473 => exact Mine.room3 (by assumption) rfl); (case hlq473 => (first | assumption | exact News.isList (by assumption) (by k_mem) | exact stays_list (Fr.keep (by assumption)) (by assumption) | exact stays_list (Fr.keep (by assumption)) (stays_list (Fr.keep (by assumption)) (by assumption)))); (case hiq473 => (first | (with_reducible assumption) | exact Mine.ThsAre.keeps (Fr.keep (by assumption)) (by with_reducible assumption) | exact Mine.ThsAre.keeps (Fr.keep (by assumption)) (Mine.ThsAre.keeps (Fr.keep (by assumption)) (by with_reducible assumption)))); (case pq473 => assumption); (intro g1q473 l1q473 its1q473 k1q473 h1q473 tk1q473 R1q473 HC1q473 F1q473 N1q473 hf1q473); (obtain ⟨X1, ⟨mean1, mg1, mb1, T1⟩, G1, hl1, hi1, hls1, hsys1⟩ := id HC1q473)))
  by_cases h0 : ths = []
  · have hne : false = !items.isEmpty := by rw [hem, h0]; rfl
    (repeat' (first | ((((with_reducible show wpAny _ _ (compareOp CmpOp.NotEq (Value.ref _) (Value.ref _)) _ _ _); first | refine Mine.ne_nil (by (first | assumption | exact News.isList (by assumption) (by k_mem) | exact stays_list (Fr.keep (by assumption)) (by assumption) | exact stays_list (Fr.keep (by assumption)) (stays_list (Fr.keep (by assumption)) (by assumption)))) (by (first | assumption | exact News.isList (by assumption) (by k_mem) | exact stays_list (Fr.keep (by assumption)) (by assumption) | exact stays_list (Fr.keep (by assumption)) (stays_list (Fr.keep (by assumption)) (by assumption)))) (by with_reducible assumption) (by ktr_units) ?_ | refine Mine.ne_told (by (first | assumption | exact News.isList (by assumption) (by k_mem) | exact stays_list (Fr.keep (by assumption)) (by assumption) | exact stays_list (Fr.keep (by assumption)) (stays_list (Fr.keep (by assumption)) (by assumption)))) (by assumption) (by (first | assumption | exact News.isList (by assumption) (by k_mem) | exact stays_list (Fr.keep (by assumption)) (by assumption) | exact stays_list (Fr.keep (by assumption)) (stays_list (Fr.keep (by assumption)) (by assumption)))) (by (with_reducible first | assumption | exact Mine.flat_J_t (by with_reducible assumption) | exact Mine.flat_J_f (by with_reducible assumption) | exact Mine.flat_M_no (by with_reducible assumption) | exact Mine.flat_M_nof (by with_reducible assumption) | exact Mine.flat_M_int (by with_reducible assumption) | exact Mine.flat_M_intf (by with_reducible assumption) | exact Mine.flat_M_plus (by with_reducible assumption) (by with_reducible assumption) | exact Mine.flat_M_plusf (by with_reducible assumption) (by with_reducible assumption) | exact Mine.flat_M_star (by with_reducible assumption) (by with_reducible assumption) | exact Mine.flat_M_starf (by with_reducible assumption) (by with_reducible assumption) (by with_reducible assumption) | exact Mine.flat_M_starn (by with_reducible assumption) (by with_reducible assumption) (by with_reducible assumption))) (by ktr_units) ?_))) | ((((fail_if_success (with_reducible show wpAny _ _ (compareOp CmpOp.NotEq (Value.ref _) (Value.ref _)) _ _ _)); ((first | ((fail_if_success (with_reducible show wpAny _ _ (exec (Stmt.While _ _ _ _) _) _ _ _)); (fail_if_success (with_reducible show wpAny _ _ (exec (Stmt.For _ _ _ _ _) _) _ _ _)); (fail_if_success (with_reducible show wpAny _ _ (eval (PySem.Expr.ListComp _ _ _ _) _) _ _ _)); (fail_if_success (with_reducible show wpAny _ _ (exec (PySem.Stmt.Assign _ (PySem.Expr.ListComp _ _ _ _) _) _) _ _ _)); (fail_if_success (with_reducible show wpAny _ _ (call (Value.ref _) _) _ _ _)); (fail_if_success (with_reducible show wpAny _ _ (pyIter (Value.ref _)) _ _ _)); (fail_if_success (show LCg.CompSrc _ _ _ _ _ _ _ _ _ _ _ _ _ _)); first | (k_unfold; (try dsimp only)) | (k_end; wrow_close) | walk1 | (dsimp only; walk1) | (leave1; (try dsimp only))))))))))
    refine Mine.ne_told (by (first | assumption | exact News.isList (by assumption) (by k_mem) | exact stays_list (Fr.keep (by assumption)) (by assumption) | exact stays_list (Fr.keep (by assumption)) (stays_list (Fr.keep (by assumption)) (by assumption)))) (by assumption) (by (first | assumption | exact News.isList (by assumption) (by k_mem) | exact stays_list (Fr.keep (by assumption)) (by assumption) | exact stays_list (Fr.keep (by assumption)) (stays_list (Fr.keep (by assumption)) (by assumption)))) (flat_O0 h0) (by ktr_units) ?_
    (repeat' (first | ((((with_reducible show wpAny _ _ (compareOp CmpOp.NotEq (Value.ref _) (Value.ref _)) _ _ _); first | refine Mine.ne_nil (by (first | assumption | exact News.isList (by assumption) (by k_mem) | exact stays_list (Fr.keep (by assumption)) (by assumption) | exact stays_list (Fr.keep (by assumption)) (stays_list (Fr.keep (by assumption)) (by assumption)))) (by (first | assumption | exact News.isList (by assumption) (by k_mem) | exact stays_list (Fr.keep (by assumption)) (by assumption) | exact stays_list (Fr.keep (by assumption)) (stays_list (Fr.keep (by assumption)) (by assumption)))) (by with_reducible assumption) (by ktr_units) ?_ | refine Mine.ne_told (by (first | assumption | exact News.isList (by assumption) (by k_mem) | exact stays_list (Fr.keep (by assumption)) (by assumption) | exact stays_list (Fr.keep (by assumption)) (stays_list (Fr.keep (by assumption)) (by assumption)))) (by assumption) (by (first | assumption | exact News.isList (by assumption) (by k_mem) | exact stays_list (Fr.keep (by assumption)) (by assumption) | exact stays_list (Fr.keep (by assumption)) (stays_list (Fr.keep (by assumption)) (by assumption)))) (by (with_reducible first | assumption | exact Mine.flat_J_t (by with_reducible assumption) | exact Mine.flat_J_f (by with_reducible assumption) | exact Mine.flat_M_no (by with_reducible assumption) | exact Mine.flat_M_nof (by with_reducible assumption) | exact Mine.flat_M_int (by with_reducible assumption) | exact Mine.flat_M_intf (by with_reducible assumption) | exact Mine.flat_M_plus (by with_reducible assumption) (by with_reducible assumption) | exact Mine.flat_M_plusf (by with_reducible assumption) (by with_reducible assumption) | exact Mine.flat_M_star (by with_reducible assumption) (by with_reducible assumption) | exact Mine.flat_M_starf (by with_reducible assumption) (by with_reducible assumption) (by with_reducible assumption) | exact Mine.flat_M_starn (by with_reducible assumption) (by with_reducible assumption) (by with_reducible assumption))) (by ktr_units) ?_))) | ((((fail_if_success (with_reducible show wpAny _ _ (compareOp CmpOp.NotEq (Value.ref _) (Value.ref _)) _ _ _)); ((first | ((fail_if_success (with_reducible show wpAny _ _ (exec (Stmt.While _ _ _ _) _) _ _ _)); (fail_if_success (with_reducible show wpAny _ _ (exec (Stmt.For _ _ _ _ _) _) _ _ _)); (fail_if_success (with_reducible show wpAny _ _ (eval (PySem.Expr.ListComp _ _ _ _) _) _ _ _)); (fail_if_success (with_reducible show wpAny _ _ (exec (PySem.Stmt.Assign _ (PySem.Expr.ListComp _ _ _ _) _) _) _ _ _)); (fail_if_success (with_reducible show wpAny _ _ (call (Value.ref _) _) _ _ _)); (fail_if_success (with_reducible show wpAny _ _ (pyIter (Value.ref _)) _ _ _)); (fail_if_success (show LCg.CompSrc _ _ _ _ _ _ _ _ _ _ _ _ _ _)); first | (k_unfold; (try dsimp only)) | (k_end; wrow_close) | walk1 | (dsimp only; walk1) | (leave1; (try dsimp only))))))))))
    exact GoneOn.intro (by assumption) (by assumption) (by assumption) (by assumption) (fun p hp => by repeat' (first | exact hp | refine List.Mem.tail _ ?_))
  · have hne : true = !items.isEmpty := by rw [hem]; cases ths with
      | nil => exact absurd rfl h0
      | cons _ _ => rfl
    have hf2 := flat_O h0 hf
    (repeat' (first | ((((with_reducible show wpAny _ _ (compareOp CmpOp.NotEq (Value.ref _) (Value.ref _)) _ _ _); first | refine Mine.ne_nil (by (first | assumption | exact News.isList (by assumption) (by k_mem) | exact stays_list (Fr.keep (by assumption)) (by assumption) | exact stays_list (Fr.keep (by assumption)) (stays_list (Fr.keep (by assumption)) (by assumption)))) (by (first | assumption | exact News.isList (by assumption) (by k_mem) | exact stays_list (Fr.keep (by assumption)) (by assumption) | exact stays_list (Fr.keep (by assumption)) (stays_list (Fr.keep (by assumption)) (by assumption)))) (by with_reducible assumption) (by ktr_units) ?_ | refine Mine.ne_told (by (first | assumption | exact News.isList (by assumption) (by k_mem) | exact stays_list (Fr.keep (by assumption)) (by assumption) | exact stays_list (Fr.keep (by assumption)) (stays_list (Fr.keep (by assumption)) (by assumption)))) (by assumption) (by (first | assumption | exact News.isList (by assumption) (by k_mem) | exact stays_list (Fr.keep (by assumption)) (by assumption) | exact stays_list (Fr.keep (by assumption)) (stays_list (Fr.keep (by assumption)) (by assumption)))) (by (with_reducible first | assumption | exact Mine.flat_J_t (by with_reducible assumption) | exact Mine.flat_J_f (by with_reducible assumption) | exact Mine.flat_M_no (by with_reducible assumption) | exact Mine.flat_M_nof (by with_reducible assumption) | exact Mine.flat_M_int (by with_reducible assumption) | exact Mine.flat_M_intf (by with_reducible assumption) | exact Mine.flat_M_plus (by with_reducible assumption) (by with_reducible assumption) | exact Mine.flat_M_plusf (by with_reducible assumption) (by with_reducible assumption) | exact Mine.flat_M_star (by with_reducible assumption) (by with_reducible assumption) | exact Mine.flat_M_starf (by with_reducible assumption) (by with_reducible assumption) (by with_reducible assumption) | exact Mine.flat_M_starn (by with_reducible assumption) (by with_reducible assumption) (by with_reducible assumption))) (by ktr_units) ?_))) | ((((fail_if_success (with_reducible show wpAny _ _ (compareOp CmpOp.NotEq (Value.ref _) (Value.ref _)) _ _ _)); ((first | ((fail_if_success (with_reducible show wpAny _ _ (exec (Stmt.While _ _ _ _) _) _ _ _)); (fail_if_success (with_reducible show wpAny _ _ (exec (Stmt.For _ _ _ _ _) _) _ _ _)); (fail_if_success (with_reducible show wpAny _ _ (eval (PySem.Expr.ListComp _ _ _ _) _) _ _ _)); (fail_if_success (with_reducible show wpAny _ _ (exec (PySem.Stmt.Assign _ (PySem.Expr.ListComp _ _ _ _) _) _) _ _ _)); (fail_if_success (with_reducible show wpAny _ _ (call (Value.ref _) _) _ _ _)); (fail_if_success (with_reducible show wpAny _ _ (pyIter (Value.ref _)) _ _ _)); (fail_if_success (show LCg.CompSrc _ _ _ _ _ _ _ _ _ _ _ _ _ _)); first | (k_unfold; (try dsimp only)) | (k_end; wrow_close) | walk1 | (dsimp only; walk1) | (leave1; (try dsimp only))))))))))
    exact GoneOn.intro (by assumption) (by assumption) (by assumption) (by assumption) (fun p hp => by repeat' (first | exact hp | refine List.Mem.tail _ ?_))
end

end
section

section
variable {w : World} {dp un : Nat} {outer : List Env} {base hB g : Heap} {s : Shared} {ta sa L : Addr} {items sits : Array Value} {ths : List Th} {b : Bool} {LED : List (Addr × Obj)} {ex : List (Str × Value)}
def OneIs (g : Heap) (L : Addr) (s : Shared) (m : Str → Option Value) (D : List PyData) (f : Flow) (s' : Shared) : Prop :=
  f = .next ∧ ∃ h' tk v, s' = { s with heap := h', toks := tk } ∧ Fr g L h' (fun y => if y = Str.ofString "due" then some v else m y) ∧ Flat #[v] D
theorem flat_handed {v : Value} {D : List PyData} (hf : Flat #[v] D) : W.handedIn v = true := by cases hf <;> rfl
theorem flat_C {t : Tok} (h : ths ≠ []) : Flat #[.str ("{" ++ Txt.join "," (ths.map Th.shown) ++ "}") t] (dueC ths) := by rw [dueC, if_neg h]; exact .str _ _
theorem flat_C0 (h : ths = []) : Flat #[.none] (dueC ths) := by rw [dueC, if_pos h]; exact .none
theorem hold4 (hc : HC w base outer ths ta sa items sits g) (B : Below (AA dp outer (some []) un) base outer g) (hd : dp + 30 < recursionLimit) (hu : un + 300 < cLine)
   (his : StrsAre sits.toList (ths.map Th.shown)) (p : Pl ths)
   (F : Fr g L s.heap (fun y => List.lookup y ((Str.ofString "shown", .ref sa) :: (Str.ofString "things", .ref ta) :: ex))) :
   wpAny (model P w) ((AA dp outer (some []) un).deeper (envH L)) (exec (stOf 13 4) (envH L))
      (OneIs g L s (fun y => List.lookup y ((Str.ofString "shown", .ref sa) :: (Str.ofString "things", .ref ta) :: ex)) (dueC ths)) (fun _ _ => False) s := by
  obtain ⟨X, ⟨mean, mg, mb, T⟩, G, hl, hi, hls, hsys⟩ := id hc
  have hlen := hi.len
  have hem := hi.empty
  have N := nilAt F
  have hm4 : (ths.map Th.shown).length ≤ 4 := by rw [List.length_map]; exact p.len
  have hw4 : ∀ y ∈ ths.map Th.shown, y.length ≤ 1000 := fun y hy => by
    obtain ⟨x, hx, rfl⟩ := List.mem_map.mp hy
    exact p.short x hx
  have hjl := row_len (mark := ",") (by decide +kernel) hw4 hm4
  unfold envH
  conv in (stOf _ _) => whnf
  conv in (occs := *) (scopeOf _) => all_goals whnf
  show wpAny (model P w) _ _ _ _ _
  k_fold
  by_cases h0 : ths = []
  · have hne : false = !items.isEmpty := by rw [hem, h0]; rfl
    (repeat' (first | ((((with_reducible show wpAny _ _ (call (Value.type "type") [_]) _ _ _); refine Mine.IsTh.type (Mine.IsTh.keeps (Fr.keep (by assumption)) (by assumption)) ?_))) | ((((with_reducible show wpAny _ _ (compareOp CmpOp.IsNot (Value.type _) (Value.type _)) _ _ _); first | refine Mine.ty_isNot_t (by assumption) ?_ | refine Mine.ty_isNot_f (by assumption) ?_))) | ((((with_reducible show wpAny _ _ (compareOp CmpOp.Eq (Value.ref _) (Value.ref _)) _ _ _); first | refine Mine.eq_nil (by (first | assumption | exact News.isList (by assumption) (by k_mem) | exact stays_list (Fr.keep (by assumption)) (by assumption) | exact stays_list (Fr.keep (by assumption)) (stays_list (Fr.keep (by assumption)) (by assumption)))) (by (first | assumption | exact News.isList (by assumption) (by k_mem) | exact stays_list (Fr.keep (by assumption)) (by assumption) | exact stays_list (Fr.keep (by assumption)) (stays_list (Fr.keep (by assumption)) (by assumption)))) (by with_reducible assumption) (by ktr_units) ?_ | refine Mine.eq_told (by (first | assumption | exact News.isList (by assumption) (by k_mem) | exact stays_list (Fr.keep (by assumption)) (by assumption) | exact stays_list (Fr.keep (by assumption)) (stays_list (Fr.keep (by assumption)) (by assumption)))) (by assumption) (by (first | assumption | exact News.isList (by assumption) (by k_mem) | exact stays_list (Fr.keep (by assumption)) (by assumption) | exact stays_list (Fr.keep (by assumption)) (stays_list (Fr.keep (by assumption)) (by assumption)))) (by (with_reducible first | assumption | exact Mine.flat_J_t (by with_reducible assumption) | exact Mine.flat_J_f (by with_reducible assumption) | exact Mine.flat_M_no (by with_reducible assumption) | exact Mine.flat_M_nof (by with_reducible assumption) | exact Mine.flat_M_int (by with_reducible assumption) | exact Mine.flat_M_intf (by with_reducible assumption) | exact Mine.flat_M_plus (by with_reducible assumption) (by with_reducible assumption) | exact Mine.flat_M_plusf (by with_reducible assumption) (by with_reducible assumption) | exact Mine.flat_M_star (by with_reducible assumption) (by with_reducible assumption) | exact Mine.flat_M_starf (by with_reducible assumption) (by with_reducible assumption) (by with_reducible assumption) | exact Mine.flat_M_starn (by with_reducible assumption) (by with_reducible assumption) (by with_reducible assumption))) (by ktr_units) ?_))) | ((((with_reducible show wpAny _ _ (compareOp CmpOp.NotEq (Value.ref _) (Value.ref _)) _ _ _); first | refine Mine.ne_nil (by (first | assumption | exact News.isList (by assumption) (by k_mem) | exact stays_list (Fr.keep (by assumption)) (by assumption) | exact stays_list (Fr.keep (by assumption)) (stays_list (Fr.keep (by assumption)) (by assumption)))) (by (first | assumption | exact News.isList (by assumption) (by k_mem) | exact stays_list (Fr.keep (by assumption)) (by assumption) | exact stays_list (Fr.keep (by assumption)) (stays_list (Fr.keep (by assumption)) (by assumption)))) (by with_reducible assumption) (by ktr_units) ?_ | refine Mine.ne_told (by (first | assumption | exact News.isList (by assumption) (by k_mem) | exact stays_list (Fr.keep (by assumption)) (by assumption) | exact stays_list (Fr.keep (by assumption)) (stays_list (Fr.keep (by assumption)) (by assumption)))) (by assumption) (by (first | assumption | exact News.isList (by assumption) (by k_mem) | exact stays_list (Fr.keep (by assumption)) (by assumption) | exact stays_list (Fr.keep (by assumption)) (stays_list (Fr.keep (by assumption)) (by assumption)))) (by (with_reducible first | assumption | exact Mine.flat_J_t (by with_reducible assumption) | exact Mine.flat_J_f (by with_reducible assumption) | exact Mine.flat_M_no (by with_reducible assumption) | exact Mine.flat_M_nof (by with_reducible assumption) | exact Mine.flat_M_int (by with_reducible assumption) | exact Mine.flat_M_intf (by with_reducible assumption) | exact Mine.flat_M_plus (by with_reducible assumption) (by with_reducible assumption) | exact Mine.flat_M_plusf (by with_reducible assumption) (by with_reducible assumption) | exact Mine.flat_M_star (by with_reducible assumption) (by with_reducible assumption) | exact Mine.flat_M_starf (by with_reducible assumption) (by with_reducible assumption) (by with_reducible assumption) | exact Mine.flat_M_starn (by with_reducible assumption) (by with_reducible assumption) (by with_reducible assumption))) (by ktr_units) ?_))) | ((((with_reducible show wpAny _ _ (call (Value.type "tuple") [Value.ref _]) _ _ _); refine Mine.tuple_of (by assumption) (by assumption) (by (first | assumption | exact News.isList (by assumption) (by k_mem) | exact stays_list (Fr.keep (by assumption)) (by assumption) | exact stays_list (Fr.keep (by assumption)) (stays_list (Fr.keep (by assumption)) (by assumption)))) (by assumption) ?_; intro D7q522 h7q522 F7q522 N7q522))) | ((((with_reducible show wpAny _ _ (subscriptTail _ _ (Value.ref _) (Value.int _ _)) _ _ _); first | refine Mine.item_strs (by (first | assumption | exact News.isList (by assumption) (by k_mem) | exact stays_list (Fr.keep (by assumption)) (by assumption) | exact stays_list (Fr.keep (by assumption)) (stays_list (Fr.keep (by assumption)) (by assumption)))) (by with_reducible assumption) 0 rfl (by omega) (by omega) ?_ (by with_unfolding_all rfl) | refine Mine.item_strs (by (first | assumption | exact News.isList (by assumption) (by k_mem) | exact stays_list (Fr.keep (by assumption)) (by assumption) | exact stays_list (Fr.keep (by assumption)) (stays_list (Fr.keep (by assumption)) (by assumption)))) (by with_reducible assumption) 1 rfl (by omega) (by omega) ?_ (by with_unfolding_all rfl); intro t9q524))) | (((first | ((fail_if_success (with_reducible show wpAny _ _ (exec (Stmt.While _ _ _ _) _) _ _ _)); (fail_if_success (with_reducible show wpAny _ _ (exec (Stmt.For _ _ _ _ _) _) _ _ _)); (fail_if_success (with_reducible show wpAny _ _ (eval (PySem.Expr.ListComp _ _ _ _) _) _ _ _)); (fail_if_success (with_reducible show wpAny _ _ (exec (PySem.Stmt.Assign _ (PySem.Expr.ListComp _ _ _ _) _) _) _ _ _)); (fail_if_success (with_reducible show wpAny _ _ (call (Value.ref _) _) _ _ _)); (fail_if_success (with_reducible show wpAny _ _ (pyIter (Value.ref _)) _ _ _)); (fail_if_success (show LCg.CompSrc _ _ _ _ _ _ _ _ _ _ _ _ _ _)); first | (k_unfold; (try dsimp only)) | (k_end; wrow_close) | walk1 | (dsimp only; walk1) | (leave1; (try dsimp only))))))))
    exact ⟨rfl, _, _, _, rfl, by assumption, flat_C0 h0⟩
  · have hne : true = !items.isEmpty := by rw [hem]; cases ths with
      | nil => exact absurd rfl h0
      | cons _ _ => rfl
    (repeat' (first | ((((with_reducible show wpAny _ _ (call (Value.type "type") [_]) _ _ _); refine Mine.IsTh.type (Mine.IsTh.keeps (Fr.keep (by assumption)) (by assumption)) ?_))) | ((((with_reducible show wpAny _ _ (compareOp CmpOp.IsNot (Value.type _) (Value.type _)) _ _ _); first | refine Mine.ty_isNot_t (by assumption) ?_ | refine Mine.ty_isNot_f (by assumption) ?_))) | ((((with_reducible show wpAny _ _ (compareOp CmpOp.Eq (Value.ref _) (Value.ref _)) _ _ _); first | refine Mine.eq_nil (by (first | assumption | exact News.isList (by assumption) (by k_mem) | exact stays_list (Fr.keep (by assumption)) (by assumption) | exact stays_list (Fr.keep (by assumption)) (stays_list (Fr.keep (by assumption)) (by assumption)))) (by (first | assumption | exact News.isList (by assumption) (by k_mem) | exact stays_list (Fr.keep (by assumption)) (by assumption) | exact stays_list (Fr.keep (by assumption)) (stays_list (Fr.keep (by assumption)) (by assumption)))) (by with_reducible assumption) (by ktr_units) ?_ | refine Mine.eq_told (by (first | assumption | exact News.isList (by assumption) (by k_mem) | exact stays_list (Fr.keep (by assumption)) (by assumption) | exact stays_list (Fr.keep (by assumption)) (stays_list (Fr.keep (by assumption)) (by assumption)))) (by assumption) (by (first | assumption | exact News.isList (by assumption) (by k_mem) | exact stays_list (Fr.keep (by assumption)) (by assumption) | exact stays_list (Fr.keep (by assumption)) (stays_list (Fr.keep (by assumption)) (by assumption)))) (by (with_reducible first | assumption | exact Mine.flat_J_t (by with_reducible assumption) | exact Mine.flat_J_f (by with_reducible assumption) | exact Mine.flat_M_no (by with_reducible assumption) | exact Mine.flat_M_nof (by with_reducible assumption) | exact Mine.flat_M_int (by with_reducible assumption) | exact Mine.flat_M_intf (by with_reducible assumption) | exact Mine.flat_M_plus (by with_reducible assumption) (by with_reducible assumption) | exact Mine.flat_M_plusf (by with_reducible assumption) (by with_reducible assumption) | exact Mine.flat_M_star (by with_reducible assumption) (by with_reducible assumption) | exact Mine.flat_M_starf (by with_reducible assumption) (by with_reducible assumption) (by with_reducible assumption) | exact Mine.flat_M_starn (by with_reducible assumption) (by with_reducible assumption) (by with_reducible assumption))) (by ktr_units) ?_))) | ((((with_reducible show wpAny _ _ (compareOp CmpOp.NotEq (Value.ref _) (Value.ref _)) _ _ _); first | refine Mine.ne_nil (by (first | assumption | exact News.isList (by assumption) (by k_mem) | exact stays_list (Fr.keep (by assumption)) (by assumption) | exact stays_list (Fr.keep (by assumption)) (stays_list (Fr.keep (by assumption)) (by assumption)))) (by (first | assumption | exact News.isList (by assumption) (by k_mem) | exact stays_list (Fr.keep (by assumption)) (by assumption) | exact stays_list (Fr.keep (by assumption)) (stays_list (Fr.keep (by assumption)) (by assumption)))) (by with_reducible assumption) (by ktr_units) ?_ | refine Mine.ne_told (by (first | assumption | exact News.isList (by assumption) (by k_mem) | exact stays_list (Fr.keep (by assumption)) (by assumption) | exact stays_list (Fr.keep (by assumption)) (stays_list (Fr.keep (by assumption)) (by assumption)))) (by assumption) (by (first | assumption | exact News.isList (by assumption) (by k_mem) | exact stays_list (Fr.keep (by assumption)) (by assumption) | exact stays_list (Fr.keep (by assumption)) (stays_list (Fr.keep (by assumption)) (by assumption)))) (by (with_reducible first | assumption | exact Mine.flat_J_t (by with_reducible assumption) | exact Mine.flat_J_f (by with_reducible assumption) | exact Mine.flat_M_no (by with_reducible assumption) | exact Mine.flat_M_nof (by with_reducible assumption) | exact Mine.flat_M_int (by with_reducible assumption) | exact Mine.flat_M_intf (by with_reducible assumption) | exact Mine.flat_M_plus (by with_reducible assumption) (by with_reducible assumption) | exact Mine.flat_M_plusf (by with_reducible assumption) (by with_reducible assumption) | exact Mine.flat_M_star (by with_reducible assumption) (by with_reducible assumption) | exact Mine.flat_M_starf (by with_reducible assumption) (by with_reducible assumption) (by with_reducible assumption) | exact Mine.flat_M_starn (by with_reducible assumption) (by with_reducible assumption) (by with_reducible assumption))) (by ktr_units) ?_))) | ((((with_reducible show wpAny _ _ (call (Value.type "tuple") [Value.ref _]) _ _ _); refine Mine.tuple_of (by assumption) (by assumption) (by (first | assumption | exact News.isList (by assumption) (by k_mem) | exact stays_list (Fr.keep (by assumption)) (by assumption) | exact stays_list (Fr.keep (by assumption)) (stays_list (Fr.keep (by assumption)) (by assumption)))) (by assumption) ?_; intro D7q543 h7q543 F7q543 N7q543))) | ((((with_reducible show wpAny _ _ (subscriptTail _ _ (Value.ref _) (Value.int _ _)) _ _ _); first | refine Mine.item_strs (by (first | assumption | exact News.isList (by assumption) (by k_mem) | exact stays_list (Fr.keep (by assumption)) (by assumption) | exact stays_list (Fr.keep (by assumption)) (stays_list (Fr.keep (by assumption)) (by assumption)))) (by with_reducible assumption) 0 rfl (by omega) (by omega) ?_ (by with_unfolding_all rfl) | refine Mine.item_strs (by (first | assumption | exact News.isList (by assumption) (by k_mem) | exact stays_list (Fr.keep (by assumption)) (by assumption) | exact stays_list (Fr.keep (by assumption)) (stays_list (Fr.keep (by assumption)) (by assumption)))) (by with_reducible assumption) 1 rfl (by omega) (by omega) ?_ (by with_unfolding_all rfl); intro t9q545))) | (((first | ((fail_if_success (with_reducible show wpAny _ _ (exec (Stmt.While _ _ _ _) _) _ _ _)); (fail_if_success (with_reducible show wpAny _ _ (exec (Stmt.For _ _ _ _ _) _) _ _ _)); (fail_if_success (with_reducible show wpAny _ _ (eval (PySem.Expr.ListComp _ _ _ _) _) _ _ _)); (fail_if_success (with_reducible show wpAny _ _ (exec (PySem.Stmt.Assign _ (PySem.Expr.ListComp _ _ _ _) _) _) _ _ _)); (fail_if_success (with_reducible show wpAny _ _ (call (Value.ref _) _) _ _ _)); (fail_if_success (with_reducible show wpAny _ _ (pyIter (Value.ref _)) _ _ _)); (fail_if_success (show LCg.CompSrc _ _ _ _ _ _ _ _ _ _ _ _ _ _)); first | (k_unfold; (try dsimp only)) | (k_end; wrow_close) | walk1 | (dsimp only; walk1) | (leave1; (try dsimp only))))))))
    ((refine' Mine.call_at (by assumption) (by assumption) (by assumption) (by rfl) (by rfl) (fun BB => Mine.law_row ?Xq549 ?Tq549 BB ?hdq549 ?huq549 ?hlq549 ?hiq549 ?hlenq549 ?hmq549 ?hwq549) ?_; (case Xq549 => (first | (with_reducible assumption) | exact Frag.In.keeps (by assumption) (Fr.keep (by assumption)) | exact ⟨_, _, _, Top.keeps (by assumption) (Fr.keep (by assumption))⟩)); (case Tq549 => (first | (with_reducible assumption) | exact Frag.In.keeps (by assumption) (Fr.keep (by assumption)) | exact ⟨_, _, _, Top.keeps (by assumption) (Fr.keep (by assumption))⟩)); (case hdq549 => exact Mine.room1 (by assumption) rfl); (case huq549 => exact Mine.room3 (by assumption) rfl); (case hlq549 => (first | assumption | exact News.isList (by assumption) (by k_mem) | exact stays_list (Fr.keep (by assumption)) (by assumption) | exact stays_list (Fr.keep (by assumption)) (stays_list (Fr.keep (by assumption)) (by assumption)))); (case hiq549 => assumption); (case hlenq549 => assumption); (case hmq549 => decide +kernel); (case hwq549 => assumption); (rintro v2q549 h2q549 tk2q549 F2q549 N2q549 st2q549 ⟨t2q549, hv2q549⟩); subst hv2q549))
    (repeat' (first | ((((with_reducible show wpAny _ _ (call (Value.type "type") [_]) _ _ _); refine Mine.IsTh.type (Mine.IsTh.keeps (Fr.keep (by assumption)) (by assumption)) ?_))) | ((((with_reducible show wpAny _ _ (compareOp CmpOp.IsNot (Value.type _) (Value.type _)) _ _ _); first | refine Mine.ty_isNot_t (by assumption) ?_ | refine Mine.ty_isNot_f (by assumption) ?_))) | ((((with_reducible show wpAny _ _ (compareOp CmpOp.Eq (Value.ref _) (Value.ref _)) _ _ _); first | refine Mine.eq_nil (by (first | assumption | exact News.isList (by assumption) (by k_mem) | exact stays_list (Fr.keep (by assumption)) (by assumption) | exact stays_list (Fr.keep (by assumption)) (stays_list (Fr.keep (by assumption)) (by assumption)))) (by (first | assumption | exact News.isList (by assumption) (by k_mem) | exact stays_list (Fr.keep (by assumption)) (by assumption) | exact stays_list (Fr.keep (by assumption)) (stays_list (Fr.keep (by assumption)) (by assumption)))) (by with_reducible assumption) (by ktr_units) ?_ | refine Mine.eq_told (by (first | assumption | exact News.isList (by assumption) (by k_mem) | exact stays_list (Fr.keep (by assumption)) (by assumption) | exact stays_list (Fr.keep (by assumption)) (stays_list (Fr.keep (by assumption)) (by assumption)))) (by assumption) (by (first | assumption | exact News.isList (by assumption) (by k_mem) | exact stays_list (Fr.keep (by assumption)) (by assumption) | exact stays_list (Fr.keep (by assumption)) (stays_list (Fr.keep (by assumption)) (by assumption)))) (by (with_reducible first | assumption | exact Mine.flat_J_t (by with_reducible assumption) | exact Mine.flat_J_f (by with_reducible assumption) | exact Mine.flat_M_no (by with_reducible assumption) | exact Mine.flat_M_nof (by with_reducible assumption) | exact Mine.flat_M_int (by with_reducible assumption) | exact Mine.flat_M_intf (by with_reducible assumption) | exact Mine.flat_M_plus (by with_reducible assumption) (by with_reducible assumption) | exact Mine.flat_M_plusf (by with_reducible assumption) (by with_reducible assumption) | exact Mine.flat_M_star (by with_reducible assumption) (by with_reducible assumption) | exact Mine.flat_M_starf (by with_reducible assumption) (by with_reducible assumption) (by with_reducible assumption) | exact Mine.flat_M_starn (by with_reducible assumption) (by with_reducible assumption) (by with_reducible assumption))) (by ktr_units) ?_))) | ((((with_reducible show wpAny _ _ (compareOp CmpOp.NotEq (Value.ref _) (Value.ref _)) _ _ _); first | refine Mine.ne_nil (by (first | assumption | exact News.isList (by assumption) (by k_mem) | exact stays_list (Fr.keep (by assumption)) (by assumption) | exact stays_list (Fr.keep (by assumption)) (stays_list (Fr.keep (by assumption)) (by assumption)))) (by (first | assumption | exact News.isList (by assumption) (by k_mem) | exact stays_list (Fr.keep (by assumption)) (by assumption) | exact stays_list (Fr.keep (by assumption)) (stays_list (Fr.keep (by assumption)) (by assumption)))) (by with_reducible assumption) (by ktr_units) ?_ | refine Mine.ne_told (by (first | assumption | exact News.isList (by assumption) (by k_mem) | exact stays_list (Fr.keep (by assumption)) (by assumption) | exact stays_list (Fr.keep (by assumption)) (stays_list (Fr.keep (by assumption)) (by assumption)))) (by assumption) (by (first | assumption | exact News.isList (by assumption) (by k_mem) | exact stays_list (Fr.keep (by assumption)) (by assumption) | exact stays_list (Fr.keep (by assumption)) (stays_list (Fr.keep (by assumption)) (by assumption)))) (by (with_reducible first | assumption | exact Mine.flat_J_t (by with_reducible assumption) | exact Mine.flat_J_f (by with_reducible assumption) | exact Mine.flat_M_no (by with_reducible assumption) | exact Mine.flat_M_nof (by with_reducible assumption) | exact Mine.flat_M_int (by with_reducible assumption) | exact Mine.flat_M_intf (by with_reducible assumption) | exact Mine.flat_M_plus (by with_reducible assumption) (by with_reducible assumption) | exact Mine.flat_M_plusf (by with_reducible assumption) (by with_reducible assumption) | exact Mine.flat_M_star (by with_reducible assumption) (by with_reducible assumption) | exact Mine.flat_M_starf (by with_reducible assumption) (by with_reducible assumption) (by with_reducible assumption) | exact Mine.flat_M_starn (by with_reducible assumption) (by with_reducible assumption) (by with_reducible assumption))) (by ktr_units) ?_))) | ((((with_reducible show wpAny _ _ (call (Value.type "tuple") [Value.ref _]) _ _ _); refine Mine.tuple_of (by assumption) (by assumption) (by (first | assumption | exact News.isList (by assumption) (by k_mem) | exact stays_list (Fr.keep (by assumption)) (by assumption) | exact stays_list (Fr.keep (by assumption)) (stays_list (Fr.keep (by assumption)) (by assumption)))) (by assumption) ?_; intro D7q568 h7q568 F7q568 N7q568))) | ((((with_reducible show wpAny _ _ (subscriptTail _ _ (Value.ref _) (Value.int _ _)) _ _ _); first | refine Mine.item_strs (by (first | assumption | exact News.isList (by assumption) (by k_mem) | exact stays_list (Fr.keep (by assumption)) (by assumption) | exact stays_list (Fr.keep (by assumption)) (stays_list (Fr.keep (by assumption)) (by assumption)))) (by with_reducible assumption) 0 rfl (by omega) (by omega) ?_ (by with_unfolding_all rfl) | refine Mine.item_strs (by (first | assumption | exact News.isList (by assumption) (by k_mem) | exact stays_list (Fr.keep (by assumption)) (by assumption) | exact stays_list (Fr.keep (by assumption)) (stays_list (Fr.keep (by assumption)) (by assumption)))) (by with_reducible assumption) 1 rfl (by omega) (by omega) ?_ (by with_unfolding_all rfl); intro t9q570))) | (((first | ((fail_if_success (with_reducible show wpAny _ _ (exec (Stmt.While _ _ _ _) _) _ _ _)); (fail_if_success (with_reducible show wpAny _ _ (exec (Stmt.For _ _ _ _ _) _) _ _ _)); (fail_if_success (with_reducible show wpAny _ _ (eval (PySem.Expr.ListComp _ _ _ _) _) _ _ _)); (fail_if_success (with_reducible show wpAny _ _ (exec (PySem.Stmt.Assign _ (PySem.Expr.ListComp _ _ _ _) _) _) _ _ _)); (fail_if_success (with_reducible show wpAny _ _ (call (Value.ref _) _) _ _ _)); (fail_if_success (with_reducible show wpAny _ _ (pyIter (Value.ref _)) _ _ _)); (fail_if_success (show LCg.CompSrc _ _ _ _ _ _ _ _ _ _ _ _ _ _)); first | (k_unfold; (try dsimp only)) | (k_end; wrow_close) | walk1 | (dsimp only; walk1) | (leave1; (try dsimp only))))))))
    exact ⟨rfl, _, _, _, rfl, by assumption, flat_C h0⟩
theorem hold5 (hc : HC w base outer ths ta sa items sits g) (B : Below (AA dp outer (some []) un) base outer g) (hd : dp + 30 < recursionLimit) (hu : un + 300 < cLine)
   (p : Pl ths) {v : Value} (hf : Flat #[v] (dueC ths))
   (F : Fr g L s.heap (fun y => if y = Str.ofString "due" then some v else List.lookup y ((Str.ofString "shown", .ref sa) :: (Str.ofString "things", .ref ta) :: ex))) :
   wpAny (model P w) ((AA dp outer (some []) un).deeper (envH L)) (exec (stOf 13 5) (envH L))
      (fun f s' => f = .ret (.bool true) ∧ ∃ h' tk, s' = { s with heap := h', toks := tk } ∧ g.StaysIn h') (fun _ _ => False) s := by
  obtain ⟨X, ⟨mean, mg, mb, T⟩, G, hl, hi, hls, hsys⟩ := id hc
  have N := nilAt F
  have hv : W.handedIn v = true := flat_handed hf
  unfold envH
  conv in (stOf _ _) => whnf
  conv in (occs := *) (scopeOf _) => all_goals whnf
  show wpAny (model P w) _ _ _ _ _
  k_fold
  (repeat' (first | ((((with_reducible show wpAny _ _ (call (Value.type "type") [_]) _ _ _); refine Mine.IsTh.type (Mine.IsTh.keeps (Fr.keep (by assumption)) (by assumption)) ?_))) | ((((with_reducible show wpAny _ _ (compareOp CmpOp.IsNot (Value.type _) (Value.type _)) _ _ _); first | refine Mine.ty_isNot_t (by assumption) ?_ | refine Mine.ty_isNot_f (by assumption) ?_))) | ((((with_reducible show wpAny _ _ (compareOp CmpOp.Eq (Value.ref _) (Value.ref _)) _ _ _); first | refine Mine.eq_nil (by (first | assumption | exact News.isList (by assumption) (by k_mem) | exact stays_list (Fr.keep (by assumption)) (by assumption) | exact stays_list (Fr.keep (by assumption)) (stays_list (Fr.keep (by assumption)) (by assumption)))) (by (first | assumption | exact News.isList (by assumption) (by k_mem) | exact stays_list (Fr.keep (by assumption)) (by assumption) | exact stays_list (Fr.keep (by assumption)) (stays_list (Fr.keep (by assumption)) (by assumption)))) (by with_reducible assumption) (by ktr_units) ?_ | refine Mine.eq_told (by (first | assumption | exact News.isList (by assumption) (by k_mem) | exact stays_list (Fr.keep (by assumption)) (by assumption) | exact stays_list (Fr.keep (by assumption)) (stays_list (Fr.keep (by assumption)) (by assumption)))) (by assumption) (by (first | assumption | exact News.isList (by assumption) (by k_mem) | exact stays_list (Fr.keep (by assumption)) (by assumption) | exact stays_list (Fr.keep (by assumption)) (stays_list (Fr.keep (by assumption)) (by assumption)))) (by (with_reducible first | assumption | exact Mine.flat_J_t (by with_reducible assumption) | exact Mine.flat_J_f (by with_reducible assumption) | exact Mine.flat_M_no (by with_reducible assumption) | exact Mine.flat_M_nof (by with_reducible assumption) | exact Mine.flat_M_int (by with_reducible assumption) | exact Mine.flat_M_intf (by with_reducible assumption) | exact Mine.flat_M_plus (by with_reducible assumption) (by with_reducible assumption) | exact Mine.flat_M_plusf (by with_reducible assumption) (by with_reducible assumption) | exact Mine.flat_M_star (by with_reducible assumption) (by with_reducible assumption) | exact Mine.flat_M_starf (by with_reducible assumption) (by with_reducible assumption) (by with_reducible assumption) | exact Mine.flat_M_starn (by with_reducible assumption) (by with_reducible assumption) (by with_reducible assumption))) (by ktr_units) ?_))) | ((((with_reducible show wpAny _ _ (compareOp CmpOp.NotEq (Value.ref _) (Value.ref _)) _ _ _); first | refine Mine.ne_nil (by (first | assumption | exact News.isList (by assumption) (by k_mem) | exact stays_list (Fr.keep (by assumption)) (by assumption) | exact stays_list (Fr.keep (by assumption)) (stays_list (Fr.keep (by assumption)) (by assumption)))) (by (first | assumption | exact News.isList (by assumption) (by k_mem) | exact stays_list (Fr.keep (by assumption)) (by assumption) | exact stays_list (Fr.keep (by assumption)) (stays_list (Fr.keep (by assumption)) (by assumption)))) (by with_reducible assumption) (by ktr_units) ?_ | refine Mine.ne_told (by (first | assumption | exact News.isList (by assumption) (by k_mem) | exact stays_list (Fr.keep (by assumption)) (by assumption) | exact stays_list (Fr.keep (by assumption)) (stays_list (Fr.keep (by assumption)) (by assumption)))) (by assumption) (by (first | assumption | exact News.isList (by assumption) (by k_mem) | exact stays_list (Fr.keep (by assumption)) (by assumption) | exact stays_list (Fr.keep (by assumption)) (stays_list (Fr.keep (by assumption)) (by assumption)))) (by (with_reducible first | assumption | exact Mine.flat_J_t (by with_reducible assumption) | exact Mine.flat_J_f (by with_reducible assumption) | exact Mine.flat_M_no (by with_reducible assumption) | exact Mine.flat_M_nof (by with_reducible assumption) | exact Mine.flat_M_int (by with_reducible assumption) | exact Mine.flat_M_intf (by with_reducible assumption) | exact Mine.flat_M_plus (by with_reducible assumption) (by with_reducible assumption) | exact Mine.flat_M_plusf (by with_reducible assumption) (by with_reducible assumption) | exact Mine.flat_M_star (by with_reducible assumption) (by with_reducible assumption) | exact Mine.flat_M_starf (by with_reducible assumption) (by with_reducible assumption) (by with_reducible assumption) | exact Mine.flat_M_starn (by with_reducible assumption) (by with_reducible assumption) (by with_reducible assumption))) (by ktr_units) ?_))) | ((((with_reducible show wpAny _ _ (call (Value.type "tuple") [Value.ref _]) _ _ _); refine Mine.tuple_of (by assumption) (by assumption) (by (first | assumption | exact News.isList (by assumption) (by k_mem) | exact stays_list (Fr.keep (by assumption)) (by assumption) | exact stays_list (Fr.keep (by assumption)) (stays_list (Fr.keep (by assumption)) (by assumption)))) (by assumption) ?_; intro D7q589 h7q589 F7q589 N7q589))) | ((((with_reducible show wpAny _ _ (subscriptTail _ _ (Value.ref _) (Value.int _ _)) _ _ _); first | refine Mine.item_strs (by (first | assumption | exact News.isList (by assumption) (by k_mem) | exact stays_list (Fr.keep (by assumption)) (by assumption) | exact stays_list (Fr.keep (by assumption)) (stays_list (Fr.keep (by assumption)) (by assumption)))) (by with_reducible assumption) 0 rfl (by omega) (by omega) ?_ (by with_unfolding_all rfl) | refine Mine.item_strs (by (first | assumption | exact News.isList (by assumption) (by k_mem) | exact stays_list (Fr.keep (by assumption)) (by assumption) | exact stays_list (Fr.keep (by assumption)) (stays_list (Fr.keep (by assumption)) (by assumption)))) (by with_reducible assumption) 1 rfl (by omega) (by omega) ?_ (by with_unfolding_all rfl); intro t9q591))) | (((first | ((fail_if_success (with_reducible show wpAny _ _ (exec (Stmt.While _ _ _ _) _) _ _ _)); (fail_if_success (with_reducible show wpAny _ _ (exec (Stmt.For _ _ _ _ _) _) _ _ _)); (fail_if_success (with_reducible show wpAny _ _ (eval (PySem.Expr.ListComp _ _ _ _) _) _ _ _)); (fail_if_success (with_reducible show wpAny _ _ (exec (PySem.Stmt.Assign _ (PySem.Expr.ListComp _ _ _ _) _) _) _ _ _)); (fail_if_success (with_reducible show wpAny _ _ (call (Value.ref _) _) _ _ _)); (fail_if_success (with_reducible show wpAny _ _ (pyIter (Value.ref _)) _ _ _)); (fail_if_success (show LCg.CompSrc _ _ _ _ _ _ _ _ _ _ _ _ _ _)); first | (k_unfold; (try dsimp only)) | (k_end; wrow_close) | walk1 | (dsimp only; walk1) | (leave1; (try dsimp only))))))))
  ((refine' Mine.call_at (by assumption) (by assumption) (by assumption) (by rfl) (by rfl) (fun BB => Mine.told3 ?Xq595 ?Tq595 BB ?hdq595 ?huq595 ?hl0q595 ?hmq595 ?hddq595 ?hlq595 ?hiq595 ?pq595 ?hsq595) ?_; (case Xq595 => (first | (with_reducible assumption) | exact Frag.In.keeps (by assumption) (Fr.keep (by assumption)) | exact ⟨_, _, _, Top.keeps (by assumption) (Fr.keep (by assumption))⟩)); (case Tq595 => (first | (with_reducible assumption) | exact Frag.In.keeps (by assumption) (Fr.keep (by assumption)) | exact ⟨_, _, _, Top.keeps (by assumption) (Fr.keep (by assumption))⟩)); (case hdq595 => exact Mine.room1 (by assumption) rfl); (case huq595 => exact Mine.room3 (by assumption) rfl); (case hl0q595 => (first | assumption | exact Or.inl (News.isList (by assumption) (by k_mem)) | exact Or.inr (News.isTup (by assumption) (by k_mem)) | exact Mine.Empty.keeps (Fr.keep (by assumption)) (by assumption) | exact Mine.Empty.keeps (Fr.keep (by assumption)) (Mine.Empty.keeps (Fr.keep (by assumption)) (by assumption)))); (case hmq595 => first | assumption | exact Mine.Hidden.none | exact Mine.Hidden.sup); (case hddq595 => first | assumption | exact Mine.Hidden.none | exact Mine.Hidden.sup); (case hlq595 => (first | assumption | exact News.isList (by assumption) (by k_mem) | exact stays_list (Fr.keep (by assumption)) (by assumption) | exact stays_list (Fr.keep (by assumption)) (stays_list (Fr.keep (by assumption)) (by assumption)))); (case hiq595 => (first | (with_reducible assumption) | exact Mine.ThsAre.keeps (Fr.keep (by assumption)) (by with_reducible assumption) | exact Mine.ThsAre.keeps (Fr.keep (by assumption)) (Mine.ThsAre.keeps (Fr.keep (by assumption)) (by with_reducible assumption)))); (case pq595 => assumption); (case hsq595 => (first | (with_reducible assumption) | exact Mine.SysOk.keeps (Fr.keep (by assumption)) (by with_reducible assumption))); (rintro v1q595 h1q595 tk1q595 F1q595 N1q595 st1q595 ⟨l1q595, its1q595, k1q595, hv1q595, hl1q595, hl2q595, hf1q595⟩); subst hv1q595; (have N2 := Mine.News.fresh (by assumption) N1q595 hl2q595 hl1q595); clear N1q595))
  (repeat' (first | ((((with_reducible show wpAny _ _ (call (Value.type "type") [_]) _ _ _); refine Mine.IsTh.type (Mine.IsTh.keeps (Fr.keep (by assumption)) (by assumption)) ?_))) | ((((with_reducible show wpAny _ _ (compareOp CmpOp.IsNot (Value.type _) (Value.type _)) _ _ _); first | refine Mine.ty_isNot_t (by assumption) ?_ | refine Mine.ty_isNot_f (by assumption) ?_))) | ((((with_reducible show wpAny _ _ (compareOp CmpOp.Eq (Value.ref _) (Value.ref _)) _ _ _); first | refine Mine.eq_nil (by (first | assumption | exact News.isList (by assumption) (by k_mem) | exact stays_list (Fr.keep (by assumption)) (by assumption) | exact stays_list (Fr.keep (by assumption)) (stays_list (Fr.keep (by assumption)) (by assumption)))) (by (first | assumption | exact News.isList (by assumption) (by k_mem) | exact stays_list (Fr.keep (by assumption)) (by assumption) | exact stays_list (Fr.keep (by assumption)) (stays_list (Fr.keep (by assumption)) (by assumption)))) (by with_reducible assumption) (by ktr_units) ?_ | refine Mine.eq_told (by (first | assumption | exact News.isList (by assumption) (by k_mem) | exact stays_list (Fr.keep (by assumption)) (by assumption) | exact stays_list (Fr.keep (by assumption)) (stays_list (Fr.keep (by assumption)) (by assumption)))) (by assumption) (by (first | assumption | exact News.isList (by assumption) (by k_mem) | exact stays_list (Fr.keep (by assumption)) (by assumption) | exact stays_list (Fr.keep (by assumption)) (stays_list (Fr.keep (by assumption)) (by assumption)))) (by (with_reducible first | assumption | exact Mine.flat_J_t (by with_reducible assumption) | exact Mine.flat_J_f (by with_reducible assumption) | exact Mine.flat_M_no (by with_reducible assumption) | exact Mine.flat_M_nof (by with_reducible assumption) | exact Mine.flat_M_int (by with_reducible assumption) | exact Mine.flat_M_intf (by with_reducible assumption) | exact Mine.flat_M_plus (by with_reducible assumption) (by with_reducible assumption) | exact Mine.flat_M_plusf (by with_reducible assumption) (by with_reducible assumption) | exact Mine.flat_M_star (by with_reducible assumption) (by with_reducible assumption) | exact Mine.flat_M_starf (by with_reducible assumption) (by with_reducible assumption) (by with_reducible assumption) | exact Mine.flat_M_starn (by with_reducible assumption) (by with_reducible assumption) (by with_reducible assumption))) (by ktr_units) ?_))) | ((((with_reducible show wpAny _ _ (compareOp CmpOp.NotEq (Value.ref _) (Value.ref _)) _ _ _); first | refine Mine.ne_nil (by (first | assumption | exact News.isList (by assumption) (by k_mem) | exact stays_list (Fr.keep (by assumption)) (by assumption) | exact stays_list (Fr.keep (by assumption)) (stays_list (Fr.keep (by assumption)) (by assumption)))) (by (first | assumption | exact News.isList (by assumption) (by k_mem) | exact stays_list (Fr.keep (by assumption)) (by assumption) | exact stays_list (Fr.keep (by assumption)) (stays_list (Fr.keep (by assumption)) (by assumption)))) (by with_reducible assumption) (by ktr_units) ?_ | refine Mine.ne_told (by (first | assumption | exact News.isList (by assumption) (by k_mem) | exact stays_list (Fr.keep (by assumption)) (by assumption) | exact stays_list (Fr.keep (by assumption)) (stays_list (Fr.keep (by assumption)) (by assumption)))) (by assumption) (by (first | assumption | exact News.isList (by assumption) (by k_mem) | exact stays_list (Fr.keep (by assumption)) (by assumption) | exact stays_list (Fr.keep (by assumption)) (stays_list (Fr.keep (by assumption)) (by assumption)))) (by (with_reducible first | assumption | exact Mine.flat_J_t (by with_reducible assumption) | exact Mine.flat_J_f (by with_reducible assumption) | exact Mine.flat_M_no (by with_reducible assumption) | exact Mine.flat_M_nof (by with_reducible assumption) | exact Mine.flat_M_int (by with_reducible assumption) | exact Mine.flat_M_intf (by with_reducible assumption) | exact Mine.flat_M_plus (by with_reducible assumption) (by with_reducible assumption) | exact Mine.flat_M_plusf (by with_reducible assumption) (by with_reducible assumption) | exact Mine.flat_M_star (by with_reducible assumption) (by with_reducible assumption) | exact Mine.flat_M_starf (by with_reducible assumption) (by with_reducible assumption) (by with_reducible assumption) | exact Mine.flat_M_starn (by with_reducible assumption) (by with_reducible assumption) (by with_reducible assumption))) (by ktr_units) ?_))) | ((((with_reducible show wpAny _ _ (call (Value.type "tuple") [Value.ref _]) _ _ _); refine Mine.tuple_of (by assumption) (by assumption) (by (first | assumption | exact News.isList (by assumption) (by k_mem) | exact stays_list (Fr.keep (by assumption)) (by assumption) | exact stays_list (Fr.keep (by assumption)) (stays_list (Fr.keep (by assumption)) (by assumption)))) (by assumption) ?_; intro D7q617 h7q617 F7q617 N7q617))) | ((((with_reducible show wpAny _ _ (subscriptTail _ _ (Value.ref _) (Value.int _ _)) _ _ _); first | refine Mine.item_strs (by (first | assumption | exact News.isList (by assumption) (by k_mem) | exact stays_list (Fr.keep (by assumption)) (by assumption) | exact stays_list (Fr.keep (by assumption)) (stays_list (Fr.keep (by assumption)) (by assumption)))) (by with_reducible assumption) 0 rfl (by omega) (by omega) ?_ (by with_unfolding_all rfl) | refine Mine.item_strs (by (first | assumption | exact News.isList (by assumption) (by k_mem) | exact stays_list (Fr.keep (by assumption)) (by assumption) | exact stays_list (Fr.keep (by assumption)) (stays_list (Fr.keep (by assumption)) (by assumption)))) (by with_reducible assumption) 1 rfl (by omega) (by omega) ?_ (by with_unfolding_all rfl); intro t9q619))) | (((first | ((fail_if_success (with_reducible show wpAny _ _ (exec (Stmt.While _ _ _ _) _) _ _ _)); (fail_if_success (with_reducible show wpAny _ _ (exec (Stmt.For _ _ _ _ _) _) _ _ _)); (fail_if_success (with_reducible show wpAny _ _ (eval (PySem.Expr.ListComp _ _ _ _) _) _ _ _)); (fail_if_success (with_reducible show wpAny _ _ (exec (PySem.Stmt.Assign _ (PySem.Expr.ListComp _ _ _ _) _) _) _ _ _)); (fail_if_success (with_reducible show wpAny _ _ (call (Value.ref _) _) _ _ _)); (fail_if_success (with_reducible show wpAny _ _ (pyIter (Value.ref _)) _ _ _)); (fail_if_success (show LCg.CompSrc _ _ _ _ _ _ _ _ _ _ _ _ _ _)); first | (k_unfold; (try dsimp only)) | (k_end; wrow_close) | walk1 | (dsimp only; walk1) | (leave1; (try dsimp only))))))))
  exact Fr.keep (by assumption)
end

end
section

def PlainIs (g : Heap) (L : Addr) (s : Shared) (m : Str → Option Value) (b : Bool) (f : Flow) (s' : Shared) : Prop :=
  f = .next ∧ ∃ h' tk, s' = { s with heap := h', toks := tk } ∧ Fr g L h' (fun y => if y = Str.ofString "plain" then some (.bool b) else m y)
section
variable {w : World} {dp un : Nat} {outer : List Env} {base hB g : Heap} {s : Shared} {ta sa L : Addr} {items sits : Array Value} {ths : List Th} {b : Bool} {LED : List (Addr × Obj)} {ex : List (Str × Value)}
theorem hold0 (hc : HC w base outer ths ta sa items sits g) (B : Below (AA dp outer (some []) un) base outer g) (hd : dp + 30 < recursionLimit) (hu : un + 300 < cLine)
   (p : Pl ths) (F : Fr g L s.heap (fun y => List.lookup y ((Str.ofString "shown", .ref sa) :: (Str.ofString "things", .ref ta) :: []))) (N : News g L s.heap []) :
   wpAny (model P w) ((AA dp outer (some []) un).deeper (envH L)) (exec (stOf 13 0) (envH L))
      (PlainIs g L s (fun y => List.lookup y ((Str.ofString "shown", .ref sa) :: (Str.ofString "things", .ref ta) :: [])) (ths.all Th.isStr)) (fun _ _ => False) s := by
  obtain ⟨X, ⟨mean, mg, mb, T⟩, G, hl, hi, hls, hsys⟩ := id hc
  have hlen := hi.len
  have hp4 := p.len
  unfold envH
  conv in (stOf _ _) => whnf
  conv in (occs := *) (scopeOf _) => all_goals whnf
  show wpAny (model P w) _ _ _ _ _
  k_fold
  (repeat' (((first | ((fail_if_success (with_reducible show wpAny _ _ (exec (Stmt.While _ _ _ _) _) _ _ _)); (fail_if_success (with_reducible show wpAny _ _ (exec (Stmt.For _ _ _ _ _) _) _ _ _)); (fail_if_success (with_reducible show wpAny _ _ (eval (PySem.Expr.ListComp _ _ _ _) _) _ _ _)); (fail_if_success (with_reducible show wpAny _ _ (exec (PySem.Stmt.Assign _ (PySem.Expr.ListComp _ _ _ _) _) _) _ _ _)); (fail_if_success (with_reducible show wpAny _ _ (call (Value.ref _) _) _ _ _)); (fail_if_success (with_reducible show wpAny _ _ (pyIter (Value.ref _)) _ _ _)); (fail_if_success (show LCg.CompSrc _ _ _ _ _ _ _ _ _ _ _ _ _ _)); first | (k_unfold; (try dsimp only)) | (k_end; wrow_close) | walk1 | (dsimp only; walk1) | (leave1; (try dsimp only)))))))
  k_dflt (refine LCt.ListComp_T (F₀ := by k_asm) (by with_unfolding_all rfl) (by decide) (by rfl) (by decide) (by rfl) ?_)
  (repeat' (((first | ((fail_if_success (with_reducible show wpAny _ _ (exec (Stmt.While _ _ _ _) _) _ _ _)); (fail_if_success (with_reducible show wpAny _ _ (exec (Stmt.For _ _ _ _ _) _) _ _ _)); (fail_if_success (with_reducible show wpAny _ _ (eval (PySem.Expr.ListComp _ _ _ _) _) _ _ _)); (fail_if_success (with_reducible show wpAny _ _ (exec (PySem.Stmt.Assign _ (PySem.Expr.ListComp _ _ _ _) _) _) _ _ _)); (fail_if_success (with_reducible show wpAny _ _ (call (Value.ref _) _) _ _ _)); (fail_if_success (with_reducible show wpAny _ _ (pyIter (Value.ref _)) _ _ _)); (fail_if_success (show LCg.CompSrc _ _ _ _ _ _ _ _ _ _ _ _ _ _)); first | (k_unfold; (try dsimp only)) | (k_end; wrow_close) | walk1 | (dsimp only; walk1) | (leave1; (try dsimp only)))))))
  rename News _ _ _ _ => NL
  rename ThsAre _ _ _ => hi
  refine LCt.CompSrcT.base (by rfl) (by k_asm) NL (by assumption) (by rw [sizeLine_eq]; omega) ?_
  intro g'
  refine filt_rest (fun i ys => (ys = [] ↔ (ths.take i).all Th.isStr = true)) ?_ (by simp) ?_
  · intro i v I oI C oC D m₂ ys h tk E' hi' hP hInv hC hx F N off ne
    obtain ⟨t, ht, hv⟩ := hi.at i v (by rw [Array.getElem?_toList]; exact hP)
    simp only [LCg.Off3, and_true] at off
    have htk : ths.take (i + 1) = ths.take i ++ [t] := by rw [List.take_add_one, ht]; rfl
    cases hb : t.isStr
    all_goals (repeat' (first | ((((with_reducible show wpAny _ _ (call (Value.type "type") [_]) _ _ _); refine Mine.IsTh.type (Mine.IsTh.keeps (Fr.keep (by assumption)) (by assumption)) ?_))) | ((((with_reducible show wpAny _ _ (compareOp CmpOp.IsNot (Value.type _) (Value.type _)) _ _ _); first | refine Mine.ty_isNot_t (by assumption) ?_ | refine Mine.ty_isNot_f (by assumption) ?_))) | ((((with_reducible show wpAny _ _ (compareOp CmpOp.Eq (Value.ref _) (Value.ref _)) _ _ _); first | refine Mine.eq_nil (by (first | assumption | exact News.isList (by assumption) (by k_mem) | exact stays_list (Fr.keep (by assumption)) (by assumption) | exact stays_list (Fr.keep (by assumption)) (stays_list (Fr.keep (by assumption)) (by assumption)))) (by (first | assumption | exact News.isList (by assumption) (by k_mem) | exact stays_list (Fr.keep (by assumption)) (by assumption) | exact stays_list (Fr.keep (by assumption)) (stays_list (Fr.keep (by assumption)) (by assumption)))) (by with_reducible assumption) (by ktr_units) ?_ | refine Mine.eq_told (by (first | assumption | exact News.isList (by assumption) (by k_mem) | exact stays_list (Fr.keep (by assumption)) (by assumption) | exact stays_list (Fr.keep (by assumption)) (stays_list (Fr.keep (by assumption)) (by assumption)))) (by assumption) (by (first | assumption | exact News.isList (by assumption) (by k_mem) | exact stays_list (Fr.keep (by assumption)) (by assumption) | exact stays_list (Fr.keep (by assumption)) (stays_list (Fr.keep (by assumption)) (by assumption)))) (by (with_reducible first | assumption | exact Mine.flat_J_t (by with_reducible assumption) | exact Mine.flat_J_f (by with_reducible assumption) | exact Mine.flat_M_no (by with_reducible assumption) | exact Mine.flat_M_nof (by with_reducible assumption) | exact Mine.flat_M_int (by with_reducible assumption) | exact Mine.flat_M_intf (by with_reducible assumption) | exact Mine.flat_M_plus (by with_reducible assumption) (by with_reducible assumption) | exact Mine.flat_M_plusf (by with_reducible assumption) (by with_reducible assumption) | exact Mine.flat_M_star (by with_reducible assumption) (by with_reducible assumption) | exact Mine.flat_M_starf (by with_reducible assumption) (by with_reducible assumption) (by with_reducible assumption) | exact Mine.flat_M_starn (by with_reducible assumption) (by with_reducible assumption) (by with_reducible assumption))) (by ktr_units) ?_))) | ((((with_reducible show wpAny _ _ (compareOp CmpOp.NotEq (Value.ref _) (Value.ref _)) _ _ _); first | refine Mine.ne_nil (by (first | assumption | exact News.isList (by assumption) (by k_mem) | exact stays_list (Fr.keep (by assumption)) (by assumption) | exact stays_list (Fr.keep (by assumption)) (stays_list (Fr.keep (by assumption)) (by assumption)))) (by (first | assumption | exact News.isList (by assumption) (by k_mem) | exact stays_list (Fr.keep (by assumption)) (by assumption) | exact stays_list (Fr.keep (by assumption)) (stays_list (Fr.keep (by assumption)) (by assumption)))) (by with_reducible assumption) (by ktr_units) ?_ | refine Mine.ne_told (by (first | assumption | exact News.isList (by assumption) (by k_mem) | exact stays_list (Fr.keep (by assumption)) (by assumption) | exact stays_list (Fr.keep (by assumption)) (stays_list (Fr.keep (by assumption)) (by assumption)))) (by assumption) (by (first | assumption | exact News.isList (by assumption) (by k_mem) | exact stays_list (Fr.keep (by assumption)) (by assumption) | exact stays_list (Fr.keep (by assumption)) (stays_list (Fr.keep (by assumption)) (by assumption)))) (by (with_reducible first | assumption | exact Mine.flat_J_t (by with_reducible assumption) | exact Mine.flat_J_f (by with_reducible assumption) | exact Mine.flat_M_no (by with_reducible assumption) | exact Mine.flat_M_nof (by with_reducible assumption) | exact Mine.flat_M_int (by with_reducible assumption) | exact Mine.flat_M_intf (by with_reducible assumption) | exact Mine.flat_M_plus (by with_reducible assumption) (by with_reducible assumption) | exact Mine.flat_M_plusf (by with_reducible assumption) (by with_reducible assumption) | exact Mine.flat_M_star (by with_reducible assumption) (by with_reducible assumption) | exact Mine.flat_M_starf (by with_reducible assumption) (by with_reducible assumption) (by with_reducible assumption) | exact Mine.flat_M_starn (by with_reducible assumption) (by with_reducible assumption) (by with_reducible assumption))) (by ktr_units) ?_))) | ((((with_reducible show wpAny _ _ (call (Value.type "tuple") [Value.ref _]) _ _ _); refine Mine.tuple_of (by assumption) (by assumption) (by (first | assumption | exact News.isList (by assumption) (by k_mem) | exact stays_list (Fr.keep (by assumption)) (by assumption) | exact stays_list (Fr.keep (by assumption)) (stays_list (Fr.keep (by assumption)) (by assumption)))) (by assumption) ?_; intro D7q642 h7q642 F7q642 N7q642))) | ((((with_reducible show wpAny _ _ (subscriptTail _ _ (Value.ref _) (Value.int _ _)) _ _ _); first | refine Mine.item_strs (by (first | assumption | exact News.isList (by assumption) (by k_mem) | exact stays_list (Fr.keep (by assumption)) (by assumption) | exact stays_list (Fr.keep (by assumption)) (stays_list (Fr.keep (by assumption)) (by assumption)))) (by with_reducible assumption) 0 rfl (by omega) (by omega) ?_ (by with_unfolding_all rfl) | refine Mine.item_strs (by (first | assumption | exact News.isList (by assumption) (by k_mem) | exact stays_list (Fr.keep (by assumption)) (by assumption) | exact stays_list (Fr.keep (by assumption)) (stays_list (Fr.keep (by assumption)) (by assumption)))) (by with_reducible assumption) 1 rfl (by omega) (by omega) ?_ (by with_unfolding_all rfl); intro t9q644))) | (((first | ((fail_if_success (with_reducible show wpAny _ _ (exec (Stmt.While _ _ _ _) _) _ _ _)); (fail_if_success (with_reducible show wpAny _ _ (exec (Stmt.For _ _ _ _ _) _) _ _ _)); (fail_if_success (with_reducible show wpAny _ _ (eval (PySem.Expr.ListComp _ _ _ _) _) _ _ _)); (fail_if_success (with_reducible show wpAny _ _ (exec (PySem.Stmt.Assign _ (PySem.Expr.ListComp _ _ _ _) _) _) _ _ _)); (fail_if_success (with_reducible show wpAny _ _ (call (Value.ref _) _) _ _ _)); (fail_if_success (with_reducible show wpAny _ _ (pyIter (Value.ref _)) _ _ _)); (fail_if_success (show LCg.CompSrc _ _ _ _ _ _ _ _ _ _ _ _ _ _)); first | (k_unfold; (try dsimp only)) | (k_end; wrow_close) | walk1 | (dsimp only; walk1) | (leave1; (try dsimp only))))))))
    · rw [htk, List.all_append]; simp [hb]
    · rw [htk, List.all_append]; simp [hb, hInv]
  · intro ys hInv
    rw [List.take_of_length_le (by omega)] at hInv
    have hpl : ths.all Th.isStr = ys.toArray.isEmpty := by
      rw [Bool.eq_iff_iff, ← hInv]
      simp
    (repeat' (first | ((((with_reducible show wpAny _ _ (call (Value.type "type") [_]) _ _ _); refine Mine.IsTh.type (Mine.IsTh.keeps (Fr.keep (by assumption)) (by assumption)) ?_))) | ((((with_reducible show wpAny _ _ (compareOp CmpOp.IsNot (Value.type _) (Value.type _)) _ _ _); first | refine Mine.ty_isNot_t (by assumption) ?_ | refine Mine.ty_isNot_f (by assumption) ?_))) | ((((with_reducible show wpAny _ _ (compareOp CmpOp.Eq (Value.ref _) (Value.ref _)) _ _ _); first | refine Mine.eq_nil (by (first | assumption | exact News.isList (by assumption) (by k_mem) | exact stays_list (Fr.keep (by assumption)) (by assumption) | exact stays_list (Fr.keep (by assumption)) (stays_list (Fr.keep (by assumption)) (by assumption)))) (by (first | assumption | exact News.isList (by assumption) (by k_mem) | exact stays_list (Fr.keep (by assumption)) (by assumption) | exact stays_list (Fr.keep (by assumption)) (stays_list (Fr.keep (by assumption)) (by assumption)))) (by with_reducible assumption) (by ktr_units) ?_ | refine Mine.eq_told (by (first | assumption | exact News.isList (by assumption) (by k_mem) | exact stays_list (Fr.keep (by assumption)) (by assumption) | exact stays_list (Fr.keep (by assumption)) (stays_list (Fr.keep (by assumption)) (by assumption)))) (by assumption) (by (first | assumption | exact News.isList (by assumption) (by k_mem) | exact stays_list (Fr.keep (by assumption)) (by assumption) | exact stays_list (Fr.keep (by assumption)) (stays_list (Fr.keep (by assumption)) (by assumption)))) (by (with_reducible first | assumption | exact Mine.flat_J_t (by with_reducible assumption) | exact Mine.flat_J_f (by with_reducible assumption) | exact Mine.flat_M_no (by with_reducible assumption) | exact Mine.flat_M_nof (by with_reducible assumption) | exact Mine.flat_M_int (by with_reducible assumption) | exact Mine.flat_M_intf (by with_reducible assumption) | exact Mine.flat_M_plus (by with_reducible assumption) (by with_reducible assumption) | exact Mine.flat_M_plusf (by with_reducible assumption) (by with_reducible assumption) | exact Mine.flat_M_star (by with_reducible assumption) (by with_reducible assumption) | exact Mine.flat_M_starf (by with_reducible assumption) (by with_reducible assumption) (by with_reducible assumption) | exact Mine.flat_M_starn (by with_reducible assumption) (by with_reducible assumption) (by with_reducible assumption))) (by ktr_units) ?_))) | ((((with_reducible show wpAny _ _ (compareOp CmpOp.NotEq (Value.ref _) (Value.ref _)) _ _ _); first | refine Mine.ne_nil (by (first | assumption | exact News.isList (by assumption) (by k_mem) | exact stays_list (Fr.keep (by assumption)) (by assumption) | exact stays_list (Fr.keep (by assumption)) (stays_list (Fr.keep (by assumption)) (by assumption)))) (by (first | assumption | exact News.isList (by assumption) (by k_mem) | exact stays_list (Fr.keep (by assumption)) (by assumption) | exact stays_list (Fr.keep (by assumption)) (stays_list (Fr.keep (by assumption)) (by assumption)))) (by with_reducible assumption) (by ktr_units) ?_ | refine Mine.ne_told (by (first | assumption | exact News.isList (by assumption) (by k_mem) | exact stays_list (Fr.keep (by assumption)) (by assumption) | exact stays_list (Fr.keep (by assumption)) (stays_list (Fr.keep (by assumption)) (by assumption)))) (by assumption) (by (first | assumption | exact News.isList (by assumption) (by k_mem) | exact stays_list (Fr.keep (by assumption)) (by assumption) | exact stays_list (Fr.keep (by assumption)) (stays_list (Fr.keep (by assumption)) (by assumption)))) (by (with_reducible first | assumption | exact Mine.flat_J_t (by with_reducible assumption) | exact Mine.flat_J_f (by with_reducible assumption) | exact Mine.flat_M_no (by with_reducible assumption) | exact Mine.flat_M_nof (by with_reducible assumption) | exact Mine.flat_M_int (by with_reducible assumption) | exact Mine.flat_M_intf (by with_reducible assumption) | exact Mine.flat_M_plus (by with_reducible assumption) (by with_reducible assumption) | exact Mine.flat_M_plusf (by with_reducible assumption) (by with_reducible assumption) | exact Mine.flat_M_star (by with_reducible assumption) (by with_reducible assumption) | exact Mine.flat_M_starf (by with_reducible assumption) (by with_reducible assumption) (by with_reducible assumption) | exact Mine.flat_M_starn (by with_reducible assumption) (by with_reducible assumption) (by with_reducible assumption))) (by ktr_units) ?_))) | ((((with_reducible show wpAny _ _ (call (Value.type "tuple") [Value.ref _]) _ _ _); refine Mine.tuple_of (by assumption) (by assumption) (by (first | assumption | exact News.isList (by assumption) (by k_mem) | exact stays_list (Fr.keep (by assumption)) (by assumption) | exact stays_list (Fr.keep (by assumption)) (stays_list (Fr.keep (by assumption)) (by assumption)))) (by assumption) ?_; intro D7q663 h7q663 F7q663 N7q663))) | ((((with_reducible show wpAny _ _ (subscriptTail _ _ (Value.ref _) (Value.int _ _)) _ _ _); first | refine Mine.item_strs (by (first | assumption | exact News.isList (by assumption) (by k_mem) | exact stays_list (Fr.keep (by assumption)) (by assumption) | exact stays_list (Fr.keep (by assumption)) (stays_list (Fr.keep (by assumption)) (by assumption)))) (by with_reducible assumption) 0 rfl (by omega) (by omega) ?_ (by with_unfolding_all rfl) | refine Mine.item_strs (by (first | assumption | exact News.isList (by assumption) (by k_mem) | exact stays_list (Fr.keep (by assumption)) (by assumption) | exact stays_list (Fr.keep (by assumption)) (stays_list (Fr.keep (by assumption)) (by assumption)))) (by with_reducible assumption) 1 rfl (by omega) (by omega) ?_ (by with_unfolding_all rfl); intro t9q665))) | (((first | ((fail_if_success (with_reducible show wpAny _ _ (exec (Stmt.While _ _ _ _) _) _ _ _)); (fail_if_success (with_reducible show wpAny _ _ (exec (Stmt.For _ _ _ _ _) _) _ _ _)); (fail_if_success (with_reducible show wpAny _ _ (eval (PySem.Expr.ListComp _ _ _ _) _) _ _ _)); (fail_if_success (with_reducible show wpAny _ _ (exec (PySem.Stmt.Assign _ (PySem.Expr.ListComp _ _ _ _) _) _) _ _ _)); (fail_if_success (with_reducible show wpAny _ _ (call (Value.ref _) _) _ _ _)); (fail_if_success (with_reducible show wpAny _ _ (pyIter (Value.ref _)) _ _ _)); (fail_if_success (show LCg.CompSrc _ _ _ _ _ _ _ _ _ _ _ _ _ _)); first | (k_unfold; (try dsimp only)) | (k_end; wrow_close) | walk1 | (dsimp only; walk1) | (leave1; (try dsimp only))))))))
    exact ⟨rfl, _, _, rfl, by assumption⟩
end
theorem items_nk {v : Value} {i : Nat} {t1 t2 t3 : Tok} {z : Int} (hv : (#[.none, .str "*" t1, .str "+" t2, .int z t3] : Array Value)[i]? = some v) : ∃ k, IsNk v k := by
  rcases i with _ | _ | _ | _ | i
  · simp at hv; subst hv; exact ⟨_, .no⟩
  · simp at hv; subst hv; exact ⟨_, .star _⟩
  · simp at hv; subst hv; exact ⟨_, .plus _⟩
  · simp at hv; subst hv; exact ⟨_, .int _ _⟩
  · simp at hv
section
variable {w : World} {dp un : Nat} {outer : List Env} {base hB g : Heap} {s : Shared} {ta sa L : Addr} {items sits : Array Value} {ths : List Th} {b : Bool} {LED : List (Addr × Obj)} {ex : List (Str × Value)} {dv : Value}
/-- the loop and what is behind it -/
theorem hold3 (hcB : HC w base outer ths ta sa items sits hB) (R : Rel w (AA dp outer (some []) un) base hB outer g) (hc : HC w base outer ths ta sa items sits g) (hd : dp + 30 < recursionLimit) (hu : un + 300 < cLine)
   (his : StrsAre sits.toList (ths.map Th.shown)) (p : Pl ths) (hb : b = ths.all Th.isStr)
   (F : Fr g L s.heap (fun y => if y = Str.ofString "due" then some dv else List.lookup y ((Str.ofString "shown", .ref sa) :: (Str.ofString "things", .ref ta) :: (Str.ofString "plain", .bool b) :: []))) (N : News g L s.heap LED) :
   wpAny (model P w) ((AA dp outer (some []) un).deeper (envH L)) (exec (stOf 13 3) (envH L))
      (fun f s' => f = .next ∧ ∃ g' h' tk ex', s' = { s with heap := h', toks := tk } ∧ Rel w (AA dp outer (some []) un) base hB outer g' ∧ HC w base outer ths ta sa items sits g' ∧ Fr g' L h' (fun y => List.lookup y ((Str.ofString "shown", .ref sa) :: (Str.ofString "things", .ref ta) :: (Str.ofString "plain", .bool b) :: ex'))) (fun _ _ => False) s := by
  obtain ⟨X, ⟨mean, mg, mb, T⟩, G, hl, hi, hls, hsys⟩ := id hc
  have hlen := hi.len
  have hp4 := p.len
  have hsz : items.size ≤ 100 := by omega
  unfold envH
  conv in (stOf _ _) => whnf
  conv in (occs := *) (scopeOf _) => all_goals whnf
  show wpAny (model P w) _ _ _ _ _
  k_fold
  refine wpAny_For ?_
  (repeat' (((first | ((fail_if_success (with_reducible show wpAny _ _ (exec (Stmt.While _ _ _ _) _) _ _ _)); (fail_if_success (with_reducible show wpAny _ _ (exec (Stmt.For _ _ _ _ _) _) _ _ _)); (fail_if_success (with_reducible show wpAny _ _ (eval (PySem.Expr.ListComp _ _ _ _) _) _ _ _)); (fail_if_success (with_reducible show wpAny _ _ (exec (PySem.Stmt.Assign _ (PySem.Expr.ListComp _ _ _ _) _) _) _ _ _)); (fail_if_success (with_reducible show wpAny _ _ (call (Value.ref _) _) _ _ _)); (fail_if_success (with_reducible show wpAny _ _ (pyIter (Value.ref _)) _ _ _)); (fail_if_success (show LCg.CompSrc _ _ _ _ _ _ _ _ _ _ _ _ _ _)); first | (k_unfold; (try dsimp only)) | (k_end; wrow_close) | walk1 | (dsimp only; walk1) | (leave1; (try dsimp only)))))))
  rename News _ _ _ _ => NL
  rename Fr _ _ _ _ => FL
  refine iter_tupS (fun _ m => ∃ ex', m = fun y => List.lookup y ((Str.ofString "shown", .ref sa) :: (Str.ofString "things", .ref ta) :: (Str.ofString "plain", .bool b) :: ex')) (.head _) R FL NL ⟨_, by (((simp only [← Mine.mset_at]); rfl))⟩ ?_ ?_
  · intro g I oI i v m₁ h tk Rg hv hj F1 N1
    obtain ⟨ex, rfl⟩ := hj
    obtain ⟨k, hk⟩ := items_nk hv
    exact turnH Rg (hcB.turn Rg.T Rg.B Rg.G) hd hu his p hb hk F1 N1
  · intro g m₁ h tk Rg hj F1 N1
    obtain ⟨ex, rfl⟩ := hj
    exact ⟨rfl, g, h, tk, ex, rfl, Rg, hcB.turn Rg.T Rg.B Rg.G, F1⟩
/-- `_law_holds` says True -/
theorem law_hold (hc : HC w base outer ths ta sa items sits s.heap) (B : Below (AA dp outer (some []) un) base outer s.heap) (hd : dp + 30 < recursionLimit) (hu : un + 300 < cLine)
   (his : StrsAre sits.toList (ths.map Th.shown)) (p : Pl ths) :
   codeAny (model P w) (AA dp outer (some []) un) (.call (.ref 103) ⟨[.ref ta, .ref sa], []⟩) (RetS (framesOf outer) s fun v _ => v = .bool true) s := by
  refine' Mine.enter (binds := [(Str.ofString "things", .ref ta), (Str.ofString "shown", .ref sa)]) hc.X hc.T ?k6 ?k7 ?k8 ?k9 ?kB ?_ ?c2 ?c3 ?c4 ?c5
  (((case k6 => k_is); (case k7 => k_is); (case k8 => exact Mine.room0 (by assumption)); (case k9 => exact BindsTo.of_eq rfl); (case kB => exact locs rfl); (case c5 => decide); (case c2 => rfl); (case c3 => rfl); (case c4 => rfl); intro L'q672 h₁q672 meanq672 mgq672 mbq672 Fq672 Nq672 T'q672; dsimp only [List.reverse, List.reverseAux, List.length] at Fq672 ⊢; k_fold))
  rename News _ _ _ _ => N
  rename Fr _ _ _ _ => F
  show wpAny (model P w) _ (execs [stOf 13 0, stOf 13 1, stOf 13 2, stOf 13 3, stOf 13 4, stOf 13 5] (envH _)) _ _ _
  refine wpAny_execs_cons (wpAny_mono (hold0 hc B hd hu p F N) ?_ fun _ _ e => e)
  rintro f s' ⟨rfl, h1, tk1, rfl, F1⟩
  have e1 : (fun y => if y = Str.ofString "plain" then some (Value.bool (ths.all Th.isStr)) else List.lookup y ((Str.ofString "shown", Value.ref sa) :: (Str.ofString "things", Value.ref ta) :: [])) = fun y => List.lookup y ((Str.ofString "shown", Value.ref sa) :: (Str.ofString "things", Value.ref ta) :: (Str.ofString "plain", .bool (ths.all Th.isStr)) :: []) := by (((simp only [← Mine.mset_at]); rfl))
  rw [e1] at F1
  have R : Rel w (AA dp outer (some []) un) base s.heap outer s.heap := ⟨.refl, B, hc.G⟩
  refine wpAny_execs_cons (wpAny_mono (hold1 R hc hd hu his p rfl F1 (nilAt F1)) ?_ fun _ _ e => e)
  rintro f s' ⟨rfl, h2, tk2, d, its, k, rfl, F2, N2, f2⟩
  refine wpAny_execs_cons (wpAny_mono (hold2 R hc hd hu p f2 F2 N2) ?_ fun _ _ e => e)
  rintro f s' ⟨rfl, g3, h3, tk3, rfl, R3, hc3, F3, N3⟩
  refine wpAny_execs_cons (wpAny_mono (hold3 hc R3 hc3 hd hu his p rfl F3 N3) ?_ fun _ _ e => e)
  rintro f s' ⟨rfl, g4, h4, tk4, ex4, rfl, R4, hc4, F4⟩
  refine wpAny_execs_cons (wpAny_mono (hold4 hc4 R4.B hd hu his p F4) ?_ fun _ _ e => e)
  rintro f s' ⟨rfl, h5, tk5, v5, rfl, F5, f5⟩
  refine wpAny_execs_cons (wpAny_mono (hold5 hc4 R4.B hd hu p f5 F5) ?_ fun _ _ e => e)
  rintro f s' ⟨rfl, h6, tk6, rfl, st6⟩
  exact ⟨_, h6, tk6, rfl, rfl, ⟨g4, R4.T, st6⟩, rfl⟩
end

end
end
section
section
variable {prog : Program} {w : World} {A : Around} {s : Shared} {env : Env} {h₀ : Heap} {E : Value → Shared → Prop} {Q : Flow → Shared → Prop}
/-- for x, y in a list of pairs -/
theorem iter_pair {x x₂ : Str} {px px₂ tp : Pos} {tk1} {body : List Stmt} {l : Addr} {items : Array Value} {m₀ : Str → Option Value}
    (J : Nat → (Str → Option Value) → Heap → Prop) (hl : s.heap.IsList l items) (F : Fr h₀ env.locals s.heap m₀) (h0 : J 0 m₀ s.heap)
    (hJ : ∀ i m h h', J i m h → (∀ b o, b ≠ s.heap.objs.size → b ≠ env.locals → h.get? b = some o → h'.get? b = some o) → J i m h')
    (pairs : ∀ i v m h, items[i]? = some v → J i m h → ∃ t v₁ v₂, v = .ref t ∧ IsTup h t #[v₁, v₂])
    (turn : ∀ i t v₁ v₂ m₁ h tk, items[i]? = some (.ref t) → IsTup h t #[v₁, v₂] → J i m₁ h → h.IsListIter s.heap.objs.size l (i + 1) → h.IsList l items → h₀.get? s.heap.objs.size = none → s.heap.objs.size ≠ env.locals → Fr h₀ env.locals h (fun y => if y = x₂ then some v₂ else if y = x then some v₁ else m₁ y) →
      wpAny (model prog w) A (execs body env) (TurnH h₀ env.locals s Q (fun h' => h'.IsListIter s.heap.objs.size l (i + 1) ∧ h'.IsList l items) (J (i + 1))) E { s with heap := h, toks := tk })
    (done : ∀ m₁ h tk, J items.size m₁ h → Fr h₀ env.locals h m₁ → Q .next { s with heap := h, toks := tk })
    (hh : A.handled = none := by rfl) (hx : env.kindOf x = some .local := by rfl) (hx₂ : env.kindOf x₂ = some .local := by rfl)
    (hp : (env.scope.kind == .class || (env.scope.kind == .module && env.locals != env.globals)) = false := by rfl)
    (hE : PassesOwn (model prog w) A env E := by passes_own) :
    wpAny (model prog w) A (pyIter (.ref l)) (fun it s₂ => codeAny (model prog w) A (.forLoop (.Tuple [.Name x px, .Name x₂ px₂] tk1 tp) it body [] env) (fun r s' => match r with | .ok f => Q f s' | .error e => cameBackBy (model prog w) A env E e s') s₂) E s := by
  refine wpAny_pyIter_list hl ?_
  generalize hI : s.heap.objs.size = I at *
  have hne : l ≠ I := by obtain ⟨o, ho, _⟩ := hl; rw [← hI]; exact Nat.ne_of_lt (Heap.lt_size ho)
  have hIL : I ≠ env.locals := by rw [← hI]; exact Nat.ne_of_gt F.ns.lt
  have hI0 : h₀.get? I = none := by rw [← hI]; exact none_at_size F
  have hlL : l ≠ env.locals := Fr.ne_list F hl
  have W := Walks.list (prog := prog) (w := w) hh I l hne items
  have st0 : (fun (i : Nat) (h : Heap) => h.IsListIter I l i ∧ h.IsList l items) 0 (s.heap.push { cls := .type "list_iterator", data := .fields #[.ref l, .int 0 0] }) :=
    ⟨⟨_, by rw [← hI]; exact Heap.get?_push_size _ rfl, rfl, rfl⟩, hl.at fun o e => Heap.get?_push_of_some _ e⟩
  have up : ∀ b o, s.heap.get? b = some o → (s.heap.push { cls := .type "list_iterator", data := .fields #[.ref l, .int 0 0] }).get? b = some o := fun b o e => Heap.get?_push_of_some _ e
  have J0 := hJ _ _ _ _ h0 fun b o _ _ e => up b o e
  have F0 := F.push { cls := .type "list_iterator", data := .fields #[.ref l, .int 0 0] }
  generalize s.heap.push { cls := .type "list_iterator", data := .fields #[.ref l, .int 0 0] } = H0 at *
  refine codeAny_forLoop_any (fun k s' => ∃ h' tk m' i, s' = { s with heap := h', toks := tk } ∧ (h'.IsListIter I l i ∧ h'.IsList l items) ∧ Fr h₀ env.locals h' m' ∧ J i m' h' ∧ i ≤ items.size ∧ k = items.size + 1 - i) ?_ (items.size + 1)
    ⟨H0, s.toks, m₀, 0, rfl, st0, F0, J0, Nat.zero_le _, rfl⟩
  rintro k s' ⟨h', tk, m', i, rfl, hst', F', hJ', hi, rfl⟩
  have next : ∀ h₁ : Heap, (∀ b o, b ∉ [I] → h'.get? b = some o → h₁.get? b = some o) → Fr h₀ env.locals h₁ m' := fun h₁ hk₁ =>
    ⟨F'.ns.at' fun o e => hk₁ _ o (by simpa using Ne.symm hIL) e, fun b o e => hk₁ b o (by simp; rintro rfl; rw [hI0] at e; cases e) (F'.keep b o e), F'.above⟩
  by_cases hlt : i < items.size
  · refine W.item i _ _ _ hlt hst' fun v h₁ tk₁ hP hst₁ hk₁ => ?_
    obtain ⟨t, v₁, v₂, rfl, ht'⟩ := pairs i v m' h' hP hJ'
    have F₁ := next h₁ hk₁
    have htI : t ≠ I := by
      rintro rfl
      obtain ⟨o, ho, hc, _⟩ := hst'.1
      obtain ⟨o', ho', hc', _⟩ := ht'
      rw [ho] at ho'; cases ho'
      rw [hc] at hc'
      exact absurd hc' (by decide)
    have htL : t ≠ env.locals := Fr.ne_tup F' ht'
    have ht₁ : IsTup h₁ t #[v₁, v₂] := by obtain ⟨o, ho, r⟩ := ht'; exact ⟨o, hk₁ _ _ (by simpa using htI) ho, r⟩
    refine wpAny_letOwnedTupleGo_listiter hst₁.1 ?_
    refine assign_Tuple_tuple hh ht₁ rfl rfl fun h₅ he => ?_
    have he' : ∀ b o, h₁.get? b = some o → h₅.get? b = some o := fun b o e => he b o (Nat.ne_of_lt (Heap.lt_size e)) e
    refine assignInOrder_cons (wpAny_assign_Name (wpAny_storeName_local hx (F₁.ns.at' fun o e => he' _ o e) (fun h₆ hn₆ hs₆ => ?_) hp))
    refine assignInOrder_cons (wpAny_assign_Name (wpAny_storeName_local hx₂ hn₆ (fun h₂ hn₂ hs₂ => ?_) hp))
    refine assignInOrder_nil ?_
    have old : ∀ b o, b ≠ env.locals → h₁.get? b = some o → h₂.get? b = some o := fun b o hb e => (hs₂.2 b hb).trans ((hs₆.2 b hb).trans (he' b o e))
    have F₂ : Fr h₀ env.locals h₂ (fun y => if y = x₂ then some v₂ else if y = x then some v₁ else m' y) := ⟨hn₂, fun b o e => old b o (Nat.ne_of_lt (Nat.lt_of_lt_of_le (Heap.lt_size e) F'.above)) (F₁.keep b o e), F'.above⟩
    have hJ₂ : J i m' h₂ := hJ i m' h' h₂ hJ' fun b o hb hL e => old b o hL (hk₁ b o (by simpa using hb) e)
    have hst₂ : h₂.IsListIter I l (i + 1) ∧ h₂.IsList l items := W.frame _ _ _ hst₁ fun b hb o e => old b o (by
      rintro rfl
      simp at hb
      rcases hb with e | e
      · exact hIL e.symm
      · exact hlL e.symm) e
    have ht₂ : IsTup h₂ t #[v₁, v₂] := by obtain ⟨o, ho, r⟩ := ht₁; exact ⟨o, old _ _ htL ho, r⟩
    refine wpAny_passesOwn hE (wpAny_mono (turn i t v₁ v₂ m' h₂ _ hP ht₂ hJ₂ hst₂.1 hst₂.2 hI0 hIL F₂) (fun f s₃ h₃ => ?_) fun _ _ e => e)
    cases f with
    | ret v => exact h₃
    | brk => exact h₃
    | cont =>
      obtain ⟨h₃', tk₃, m₂, rfl, st₃, F₃, J₃⟩ := h₃
      exact ⟨items.size + 1 - (i + 1), by omega, h₃', tk₃, m₂, i + 1, rfl, st₃, F₃, J₃, hlt, rfl⟩
    | next =>
      obtain ⟨h₃', tk₃, m₂, rfl, st₃, F₃, J₃⟩ := h₃
      exact ⟨items.size + 1 - (i + 1), by omega, h₃', tk₃, m₂, i + 1, rfl, st₃, F₃, J₃, hlt, rfl⟩
  · have hin : i = items.size := by omega
    subst hin
    refine W.done _ _ _ hst' fun h₁ tk₁ hk₁ => wpAny_execs_nil ?_
    exact done m' h₁ tk₁ (hJ _ _ _ _ hJ' fun b o hb _ e => hk₁ b o (by simpa using hb) e) (next h₁ hk₁)
end

end
section
local macro_rules | `(tactic| k_handed) => `(tactic| exact Mine.IsTh.handed (by assumption))
section

noncomputable abbrev envA (L : Addr) : Env := envOf (Str.ofString "_law_alone") (scopeOf (lawD 14)) L 110 (.ref 109)
section
variable {w : World} {dp un : Nat} {outer : List Env} {gd : Option (List Code)} {h₀ : Heap} {s : Shared} {L l : Addr} {v : Value} {t : Th} {bt : Str} {tb ty : Tok} {kl : Nat} {ex : List (Str × Value)} {LED : List (Addr × Obj)}
/-- a thing that hides -/
theorem alturnH (X : (Mine.hd.heap_39 w.params).In h₀) (TT : TopH h₀) (hu : un + 200 < cLine) (hv : Hidden v)
   (F : Fr h₀ L s.heap (fun y => if y = Str.ofString "behind" then some (.str bt tb) else if y = Str.ofString "told" then some (.ref l) else List.lookup y ((Str.ofString "thing", v) :: ex))) (N : News h₀ L s.heap ((l, W.listOf #[.str bt ty] kl) :: LED)) :
   wpAny (model P w) ((AA dp outer gd un).deeper (envA L)) (execs (forBody (stOf 14 0)) (envA L))
      (Goes h₀ L s ((l, W.listOf #[.str bt ty] kl) :: LED) fun m' => ∃ ex', m' = fun y => List.lookup y ((Str.ofString "thing", v) :: ex')) (fun _ _ => False) s := by
  obtain ⟨mean, mg, mb, T⟩ := TT
  have hf : Flat #[.str bt ty] [.str bt] := .str _ _
  unfold envA
  conv in (forBody _) => whnf
  conv in (occs := *) (scopeOf _) => all_goals whnf
  show wpAny (model P w) _ _ _ _ _
  k_fold
  rcases hv with rfl | ⟨tv, rfl⟩
  all_goals (repeat' (first | ((((with_reducible show wpAny _ _ (call (Value.type "type") [_]) _ _ _); refine Mine.IsTh.type (Mine.IsTh.keeps (Fr.keep (by assumption)) (by assumption)) ?_))) | ((((with_reducible show wpAny _ _ (compareOp CmpOp.NotEq (Value.ref _) (Value.ref _)) _ _ _); refine Mine.ne_told (by (first | assumption | exact News.isList (by assumption) (by k_mem) | exact stays_list (Fr.keep (by assumption)) (by assumption) | exact stays_list (Fr.keep (by assumption)) (stays_list (Fr.keep (by assumption)) (by assumption)))) (by assumption) (by (first | assumption | exact News.isList (by assumption) (by k_mem) | exact stays_list (Fr.keep (by assumption)) (by assumption) | exact stays_list (Fr.keep (by assumption)) (stays_list (Fr.keep (by assumption)) (by assumption)))) (Mine.Flat.str _ _) (by ktr_units) ?_))) | ((((with_reducible show wpAny _ _ (compareOp CmpOp.Is _ Value.none) _ _ _); refine Mine.IsTh.isNone (Mine.IsTh.keeps (Fr.keep (by assumption)) (by assumption)) (by assumption) ?_))) | ((((with_reducible show wpAny _ _ (compareOp CmpOp.Is (Value.type _) (Value.type _)) _ _ _); refine Mine.ty_is_tupB (by assumption) ?_))) | ((((with_reducible show wpAny _ _ (compareOp CmpOp.IsNot _ _) _ _ _); refine Mine.IsTh.isNotSelf (Mine.IsTh.keeps (Fr.keep (by assumption)) (by assumption)) (by assumption) ?_))) | ((((with_reducible show wpAny _ _ (compareOp CmpOp.Eq _ (Value.str _ _)) _ _ _); refine Mine.IsTh.eqSup (Mine.IsTh.keeps (Fr.keep (by assumption)) (by assumption)) (by assumption) (by ktr_units) ?_))) | ((((with_reducible show wpAny _ _ (compareOp CmpOp.Eq (Value.ref _) (Value.ref _)) _ _ _); refine Mine.eq_nil (b := false) (by (first | assumption | exact News.isList (by assumption) (by k_mem) | exact stays_list (Fr.keep (by assumption)) (by assumption) | exact stays_list (Fr.keep (by assumption)) (stays_list (Fr.keep (by assumption)) (by assumption)))) (by (first | assumption | exact News.isList (by assumption) (by k_mem) | exact stays_list (Fr.keep (by assumption)) (by assumption) | exact stays_list (Fr.keep (by assumption)) (stays_list (Fr.keep (by assumption)) (by assumption)))) rfl (by ktr_units) ?_))) | ((((with_reducible show wpAny _ _ (subscriptTail _ _ (Value.ref _) (Value.int _ _)) _ _ _); refine Mine.item_nth (by (first | assumption | exact News.isList (by assumption) (by k_mem) | exact stays_list (Fr.keep (by assumption)) (by assumption) | exact stays_list (Fr.keep (by assumption)) (stays_list (Fr.keep (by assumption)) (by assumption)))) (by decide) (by decide) rfl ?_ (by with_unfolding_all rfl)))) | (((first | ((fail_if_success (with_reducible show wpAny _ _ (exec (Stmt.While _ _ _ _) _) _ _ _)); (fail_if_success (with_reducible show wpAny _ _ (exec (Stmt.For _ _ _ _ _) _) _ _ _)); (fail_if_success (with_reducible show wpAny _ _ (eval (PySem.Expr.ListComp _ _ _ _) _) _ _ _)); (fail_if_success (with_reducible show wpAny _ _ (exec (PySem.Stmt.Assign _ (PySem.Expr.ListComp _ _ _ _) _) _) _ _ _)); (fail_if_success (with_reducible show wpAny _ _ (call (Value.ref _) _) _ _ _)); (fail_if_success (with_reducible show wpAny _ _ (pyIter (Value.ref _)) _ _ _)); (fail_if_success (show LCg.CompSrc _ _ _ _ _ _ _ _ _ _ _ _ _ _)); first | (k_unfold; (try dsimp only)) | (k_end; wrow_close) | walk1 | (dsimp only; walk1) | (leave1; (try dsimp only))))))))
  all_goals (refine Goes.intro (by assumption) (by assumption) (fun p hp => ?_) ⟨_, by (((simp only [← Mine.mset_at]); rfl))⟩; repeat' (first | exact hp | refine List.Mem.tail _ ?_))
/-- a tuple as a metavar -/
theorem alturnT (X : (Mine.hd.heap_39 w.params).In h₀) (TT : TopH h₀) (hu : un + 200 < cLine) (hx : IsTh h₀ v .tup)
   (F : Fr h₀ L s.heap (fun y => if y = Str.ofString "behind" then some (.str "d" tb) else if y = Str.ofString "told" then some (.ref l) else List.lookup y ((Str.ofString "thing", v) :: ex))) (N : News h₀ L s.heap ((l, W.listOf #[.str "i, " ty] kl) :: LED)) :
   wpAny (model P w) ((AA dp outer gd un).deeper (envA L)) (execs (forBody (stOf 14 0)) (envA L))
      (Goes h₀ L s ((l, W.listOf #[.str "i, " ty] kl) :: LED) fun m' => ∃ ex', m' = fun y => List.lookup y ((Str.ofString "thing", v) :: ex')) (fun _ _ => False) s := by
  obtain ⟨mean, mg, mb, T⟩ := TT
  have hf : Flat #[.str "i, " ty] [.str "i, "] := .str _ _
  have hn : Th.tup ≠ .none := nofun
  have hs : Th.tup ≠ .s "==SUPPRESS==" := nofun
  have htp : Th.tup.isTup = true := rfl
  have hhv := hx.handed
  unfold envA
  conv in (forBody _) => whnf
  conv in (occs := *) (scopeOf _) => all_goals whnf
  show wpAny (model P w) _ _ _ _ _
  k_fold
  (repeat' (first | ((((with_reducible show wpAny _ _ (call (Value.type "type") [_]) _ _ _); refine Mine.IsTh.type (Mine.IsTh.keeps (Fr.keep (by assumption)) (by assumption)) ?_))) | ((((with_reducible show wpAny _ _ (compareOp CmpOp.NotEq (Value.ref _) (Value.ref _)) _ _ _); refine Mine.ne_told (by (first | assumption | exact News.isList (by assumption) (by k_mem) | exact stays_list (Fr.keep (by assumption)) (by assumption) | exact stays_list (Fr.keep (by assumption)) (stays_list (Fr.keep (by assumption)) (by assumption)))) (by assumption) (by (first | assumption | exact News.isList (by assumption) (by k_mem) | exact stays_list (Fr.keep (by assumption)) (by assumption) | exact stays_list (Fr.keep (by assumption)) (stays_list (Fr.keep (by assumption)) (by assumption)))) (Mine.Flat.str _ _) (by ktr_units) ?_))) | ((((with_reducible show wpAny _ _ (compareOp CmpOp.Is _ Value.none) _ _ _); refine Mine.IsTh.isNone (Mine.IsTh.keeps (Fr.keep (by assumption)) (by assumption)) (by assumption) ?_))) | ((((with_reducible show wpAny _ _ (compareOp CmpOp.Is (Value.type _) (Value.type _)) _ _ _); refine Mine.ty_is_tupB (by assumption) ?_))) | ((((with_reducible show wpAny _ _ (compareOp CmpOp.IsNot _ _) _ _ _); refine Mine.IsTh.isNotSelf (Mine.IsTh.keeps (Fr.keep (by assumption)) (by assumption)) (by assumption) ?_))) | ((((with_reducible show wpAny _ _ (compareOp CmpOp.Eq _ (Value.str _ _)) _ _ _); refine Mine.IsTh.eqSup (Mine.IsTh.keeps (Fr.keep (by assumption)) (by assumption)) (by assumption) (by ktr_units) ?_))) | ((((with_reducible show wpAny _ _ (compareOp CmpOp.Eq (Value.ref _) (Value.ref _)) _ _ _); refine Mine.eq_nil (b := false) (by (first | assumption | exact News.isList (by assumption) (by k_mem) | exact stays_list (Fr.keep (by assumption)) (by assumption) | exact stays_list (Fr.keep (by assumption)) (stays_list (Fr.keep (by assumption)) (by assumption)))) (by (first | assumption | exact News.isList (by assumption) (by k_mem) | exact stays_list (Fr.keep (by assumption)) (by assumption) | exact stays_list (Fr.keep (by assumption)) (stays_list (Fr.keep (by assumption)) (by assumption)))) rfl (by ktr_units) ?_))) | ((((with_reducible show wpAny _ _ (subscriptTail _ _ (Value.ref _) (Value.int _ _)) _ _ _); refine Mine.item_nth (by (first | assumption | exact News.isList (by assumption) (by k_mem) | exact stays_list (Fr.keep (by assumption)) (by assumption) | exact stays_list (Fr.keep (by assumption)) (stays_list (Fr.keep (by assumption)) (by assumption)))) (by decide) (by decide) rfl ?_ (by with_unfolding_all rfl)))) | (((first | ((fail_if_success (with_reducible show wpAny _ _ (exec (Stmt.While _ _ _ _) _) _ _ _)); (fail_if_success (with_reducible show wpAny _ _ (exec (Stmt.For _ _ _ _ _) _) _ _ _)); (fail_if_success (with_reducible show wpAny _ _ (eval (PySem.Expr.ListComp _ _ _ _) _) _ _ _)); (fail_if_success (with_reducible show wpAny _ _ (exec (PySem.Stmt.Assign _ (PySem.Expr.ListComp _ _ _ _) _) _) _ _ _)); (fail_if_success (with_reducible show wpAny _ _ (call (Value.ref _) _) _ _ _)); (fail_if_success (with_reducible show wpAny _ _ (pyIter (Value.ref _)) _ _ _)); (fail_if_success (show LCg.CompSrc _ _ _ _ _ _ _ _ _ _ _ _ _ _)); first | (k_unfold; (try dsimp only)) | (k_end; wrow_close) | walk1 | (dsimp only; walk1) | (leave1; (try dsimp only))))))))
  all_goals (refine Goes.intro (by assumption) (by assumption) (fun p hp => ?_) ⟨_, by (((simp only [← Mine.mset_at]); rfl))⟩; repeat' (first | exact hp | refine List.Mem.tail _ ?_))
/-- no tuple, and it does not hide -/
theorem alturnE (X : (Mine.hd.heap_39 w.params).In h₀) (TT : TopH h₀) (hu : un + 200 < cLine) (hx : IsTh h₀ v t) (hn : t ≠ .none) (hs : t ≠ .s "==SUPPRESS==") (htp : t.isTup = false) (hso : Solid v)
   (F : Fr h₀ L s.heap (fun y => if y = Str.ofString "behind" then some (.str bt tb) else if y = Str.ofString "told" then some (.ref l) else List.lookup y ((Str.ofString "thing", v) :: ex))) (N : News h₀ L s.heap ((l, W.listOf #[v] kl) :: LED)) :
   wpAny (model P w) ((AA dp outer gd un).deeper (envA L)) (execs (forBody (stOf 14 0)) (envA L))
      (Goes h₀ L s ((l, W.listOf #[v] kl) :: LED) fun m' => ∃ ex', m' = fun y => List.lookup y ((Str.ofString "thing", v) :: ex')) (fun _ _ => False) s := by
  obtain ⟨mean, mg, mb, T⟩ := TT
  have hhv := hx.handed
  unfold envA
  conv in (forBody _) => whnf
  conv in (occs := *) (scopeOf _) => all_goals whnf
  show wpAny (model P w) _ _ _ _ _
  k_fold
  (repeat' (first | ((((with_reducible show wpAny _ _ (call (Value.type "type") [_]) _ _ _); refine Mine.IsTh.type (Mine.IsTh.keeps (Fr.keep (by assumption)) (by assumption)) ?_))) | ((((with_reducible show wpAny _ _ (compareOp CmpOp.NotEq (Value.ref _) (Value.ref _)) _ _ _); refine Mine.ne_told (by (first | assumption | exact News.isList (by assumption) (by k_mem) | exact stays_list (Fr.keep (by assumption)) (by assumption) | exact stays_list (Fr.keep (by assumption)) (stays_list (Fr.keep (by assumption)) (by assumption)))) (by assumption) (by (first | assumption | exact News.isList (by assumption) (by k_mem) | exact stays_list (Fr.keep (by assumption)) (by assumption) | exact stays_list (Fr.keep (by assumption)) (stays_list (Fr.keep (by assumption)) (by assumption)))) (Mine.Flat.str _ _) (by ktr_units) ?_))) | ((((with_reducible show wpAny _ _ (compareOp CmpOp.Is _ Value.none) _ _ _); refine Mine.IsTh.isNone (Mine.IsTh.keeps (Fr.keep (by assumption)) (by assumption)) (by assumption) ?_))) | ((((with_reducible show wpAny _ _ (compareOp CmpOp.Is (Value.type _) (Value.type _)) _ _ _); refine Mine.ty_is_tupB (by assumption) ?_))) | ((((with_reducible show wpAny _ _ (compareOp CmpOp.IsNot _ _) _ _ _); refine Mine.IsTh.isNotSelf (Mine.IsTh.keeps (Fr.keep (by assumption)) (by assumption)) (by assumption) ?_))) | ((((with_reducible show wpAny _ _ (compareOp CmpOp.Eq _ (Value.str _ _)) _ _ _); refine Mine.IsTh.eqSup (Mine.IsTh.keeps (Fr.keep (by assumption)) (by assumption)) (by assumption) (by ktr_units) ?_))) | ((((with_reducible show wpAny _ _ (compareOp CmpOp.Eq (Value.ref _) (Value.ref _)) _ _ _); refine Mine.eq_nil (b := false) (by (first | assumption | exact News.isList (by assumption) (by k_mem) | exact stays_list (Fr.keep (by assumption)) (by assumption) | exact stays_list (Fr.keep (by assumption)) (stays_list (Fr.keep (by assumption)) (by assumption)))) (by (first | assumption | exact News.isList (by assumption) (by k_mem) | exact stays_list (Fr.keep (by assumption)) (by assumption) | exact stays_list (Fr.keep (by assumption)) (stays_list (Fr.keep (by assumption)) (by assumption)))) rfl (by ktr_units) ?_))) | ((((with_reducible show wpAny _ _ (subscriptTail _ _ (Value.ref _) (Value.int _ _)) _ _ _); refine Mine.item_nth (by (first | assumption | exact News.isList (by assumption) (by k_mem) | exact stays_list (Fr.keep (by assumption)) (by assumption) | exact stays_list (Fr.keep (by assumption)) (stays_list (Fr.keep (by assumption)) (by assumption)))) (by decide) (by decide) rfl ?_ (by with_unfolding_all rfl)))) | (((first | ((fail_if_success (with_reducible show wpAny _ _ (exec (Stmt.While _ _ _ _) _) _ _ _)); (fail_if_success (with_reducible show wpAny _ _ (exec (Stmt.For _ _ _ _ _) _) _ _ _)); (fail_if_success (with_reducible show wpAny _ _ (eval (PySem.Expr.ListComp _ _ _ _) _) _ _ _)); (fail_if_success (with_reducible show wpAny _ _ (exec (PySem.Stmt.Assign _ (PySem.Expr.ListComp _ _ _ _) _) _) _ _ _)); (fail_if_success (with_reducible show wpAny _ _ (call (Value.ref _) _) _ _ _)); (fail_if_success (with_reducible show wpAny _ _ (pyIter (Value.ref _)) _ _ _)); (fail_if_success (show LCg.CompSrc _ _ _ _ _ _ _ _ _ _ _ _ _ _)); first | (k_unfold; (try dsimp only)) | (k_end; wrow_close) | walk1 | (dsimp only; walk1) | (leave1; (try dsimp only))))))))
  all_goals (refine Goes.intro (by assumption) (by assumption) (fun p hp => ?_) ⟨_, by (((simp only [← Mine.mset_at]); rfl))⟩; repeat' (first | exact hp | refine List.Mem.tail _ ?_))
/-- a tuple as a dest -/
theorem alturnU (X : (Mine.hd.heap_39 w.params).In h₀) (TT : TopH h₀) (hu : un + 200 < cLine) (hx : IsTh h₀ v .tup) (hso : Solid v)
   (F : Fr h₀ L s.heap (fun y => if y = Str.ofString "behind" then some (.str "{c}" tb) else if y = Str.ofString "told" then some (.ref l) else List.lookup y ((Str.ofString "thing", v) :: ex))) (N : News h₀ L s.heap ((l, W.listOf #[v] kl) :: LED)) :
   wpAny (model P w) ((AA dp outer gd un).deeper (envA L)) (execs (forBody (stOf 14 0)) (envA L))
      (Goes h₀ L s ((l, W.listOf #[v] kl) :: LED) fun m' => ∃ ex', m' = fun y => List.lookup y ((Str.ofString "thing", v) :: ex')) (fun _ _ => False) s := by
  obtain ⟨mean, mg, mb, T⟩ := TT
  have hn : Th.tup ≠ .none := nofun
  have hs : Th.tup ≠ .s "==SUPPRESS==" := nofun
  have htp : Th.tup.isTup = true := rfl
  have hhv := hx.handed
  unfold envA
  conv in (forBody _) => whnf
  conv in (occs := *) (scopeOf _) => all_goals whnf
  show wpAny (model P w) _ _ _ _ _
  k_fold
  (repeat' (first | ((((with_reducible show wpAny _ _ (call (Value.type "type") [_]) _ _ _); refine Mine.IsTh.type (Mine.IsTh.keeps (Fr.keep (by assumption)) (by assumption)) ?_))) | ((((with_reducible show wpAny _ _ (compareOp CmpOp.NotEq (Value.ref _) (Value.ref _)) _ _ _); refine Mine.ne_told (by (first | assumption | exact News.isList (by assumption) (by k_mem) | exact stays_list (Fr.keep (by assumption)) (by assumption) | exact stays_list (Fr.keep (by assumption)) (stays_list (Fr.keep (by assumption)) (by assumption)))) (by assumption) (by (first | assumption | exact News.isList (by assumption) (by k_mem) | exact stays_list (Fr.keep (by assumption)) (by assumption) | exact stays_list (Fr.keep (by assumption)) (stays_list (Fr.keep (by assumption)) (by assumption)))) (Mine.Flat.str _ _) (by ktr_units) ?_))) | ((((with_reducible show wpAny _ _ (compareOp CmpOp.Is _ Value.none) _ _ _); refine Mine.IsTh.isNone (Mine.IsTh.keeps (Fr.keep (by assumption)) (by assumption)) (by assumption) ?_))) | ((((with_reducible show wpAny _ _ (compareOp CmpOp.Is (Value.type _) (Value.type _)) _ _ _); refine Mine.ty_is_tupB (by assumption) ?_))) | ((((with_reducible show wpAny _ _ (compareOp CmpOp.IsNot _ _) _ _ _); refine Mine.IsTh.isNotSelf (Mine.IsTh.keeps (Fr.keep (by assumption)) (by assumption)) (by assumption) ?_))) | ((((with_reducible show wpAny _ _ (compareOp CmpOp.Eq _ (Value.str _ _)) _ _ _); refine Mine.IsTh.eqSup (Mine.IsTh.keeps (Fr.keep (by assumption)) (by assumption)) (by assumption) (by ktr_units) ?_))) | ((((with_reducible show wpAny _ _ (compareOp CmpOp.Eq (Value.ref _) (Value.ref _)) _ _ _); refine Mine.eq_nil (b := false) (by (first | assumption | exact News.isList (by assumption) (by k_mem) | exact stays_list (Fr.keep (by assumption)) (by assumption) | exact stays_list (Fr.keep (by assumption)) (stays_list (Fr.keep (by assumption)) (by assumption)))) (by (first | assumption | exact News.isList (by assumption) (by k_mem) | exact stays_list (Fr.keep (by assumption)) (by assumption) | exact stays_list (Fr.keep (by assumption)) (stays_list (Fr.keep (by assumption)) (by assumption)))) rfl (by ktr_units) ?_))) | ((((with_reducible show wpAny _ _ (subscriptTail _ _ (Value.ref _) (Value.int _ _)) _ _ _); refine Mine.item_nth (by (first | assumption | exact News.isList (by assumption) (by k_mem) | exact stays_list (Fr.keep (by assumption)) (by assumption) | exact stays_list (Fr.keep (by assumption)) (stays_list (Fr.keep (by assumption)) (by assumption)))) (by decide) (by decide) rfl ?_ (by with_unfolding_all rfl)))) | (((first | ((fail_if_success (with_reducible show wpAny _ _ (exec (Stmt.While _ _ _ _) _) _ _ _)); (fail_if_success (with_reducible show wpAny _ _ (exec (Stmt.For _ _ _ _ _) _) _ _ _)); (fail_if_success (with_reducible show wpAny _ _ (eval (PySem.Expr.ListComp _ _ _ _) _) _ _ _)); (fail_if_success (with_reducible show wpAny _ _ (exec (PySem.Stmt.Assign _ (PySem.Expr.ListComp _ _ _ _) _) _) _ _ _)); (fail_if_success (with_reducible show wpAny _ _ (call (Value.ref _) _) _ _ _)); (fail_if_success (with_reducible show wpAny _ _ (pyIter (Value.ref _)) _ _ _)); (fail_if_success (show LCg.CompSrc _ _ _ _ _ _ _ _ _ _ _ _ _ _)); first | (k_unfold; (try dsimp only)) | (k_end; wrow_close) | walk1 | (dsimp only; walk1) | (leave1; (try dsimp only))))))))
  all_goals (refine Goes.intro (by assumption) (by assumption) (fun p hp => ?_) ⟨_, by (((simp only [← Mine.mset_at]); rfl))⟩; repeat' (first | exact hp | refine List.Mem.tail _ ?_))
end

end
end
section
theorem tup_inj {h : Heap} {t : Addr} {a b : Array Value} (x : IsTup h t a) (y : IsTup h t b) : a = b := by
  obtain ⟨o, ho, _, n, hd⟩ := x
  obtain ⟨o', ho', _, n', hd'⟩ := y
  rw [ho] at ho'; cases ho'
  rw [hd] at hd'; cases hd'
  rfl
theorem pair_inj {a b c d : Value} (h : (#[a, b] : Array Value) = #[c, d]) : a = c ∧ b = d := by simpa using h
section
variable {w : World} {dp un : Nat} {outer : List Env} {gd : Option (List Code)} {h₀ : Heap} {s : Shared} {L D t1 t2 l1 l2 : Addr} {v y1 y2 : Value} {td tc : Tok} {kD k1 k2 n1 n2 : Nat} {ex : List (Str × Value)} {LED : List (Addr × Obj)} {m₀ : Str → Option Value} {E : Value → Shared → Prop} {Q : Flow → Shared → Prop} {px px₂ tp : Pos} {tk1}
theorem alloop (F : Fr h₀ L s.heap m₀) (hm : m₀ = fun y => List.lookup y ((Str.ofString "thing", v) :: ex)) (N : News h₀ L s.heap LED)
    (hD : (D, W.listOf #[.ref t1, .ref t2] kD) ∈ LED) (h1 : (t1, ({ cls := .type "tuple", data := .seq #[.ref l1, .str "d" td] n1 } : Obj)) ∈ LED) (h2 : (t2, ({ cls := .type "tuple", data := .seq #[.ref l2, .str "{c}" tc] n2 } : Obj)) ∈ LED)
    (hl1 : (l1, W.listOf #[y1] k1) ∈ LED) (hl2 : (l2, W.listOf #[y2] k2) ∈ LED)
    (turn1 : ∀ (s' : Shared) ex (LED' : List (Addr × Obj)), Fr h₀ L s'.heap (fun y => if y = Str.ofString "behind" then some (.str "d" td) else if y = Str.ofString "told" then some (.ref l1) else List.lookup y ((Str.ofString "thing", v) :: ex)) → News h₀ L s'.heap ((l1, W.listOf #[y1] k1) :: LED') →
      wpAny (model P w) ((AA dp outer gd un).deeper (envA L)) (execs (forBody (stOf 14 0)) (envA L)) (Goes h₀ L s' ((l1, W.listOf #[y1] k1) :: LED') fun m' => ∃ ex', m' = fun y => List.lookup y ((Str.ofString "thing", v) :: ex')) (fun _ _ => False) s')
    (turn2 : ∀ (s' : Shared) ex (LED' : List (Addr × Obj)), Fr h₀ L s'.heap (fun y => if y = Str.ofString "behind" then some (.str "{c}" tc) else if y = Str.ofString "told" then some (.ref l2) else List.lookup y ((Str.ofString "thing", v) :: ex)) → News h₀ L s'.heap ((l2, W.listOf #[y2] k2) :: LED') →
      wpAny (model P w) ((AA dp outer gd un).deeper (envA L)) (execs (forBody (stOf 14 0)) (envA L)) (Goes h₀ L s' ((l2, W.listOf #[y2] k2) :: LED') fun m' => ∃ ex', m' = fun y => List.lookup y ((Str.ofString "thing", v) :: ex')) (fun _ _ => False) s')
    (done : ∀ h tk m', Fr h₀ L h m' → Q .next { s with heap := h, toks := tk }) (hE : PassesOwn (model P w) ((AA dp outer gd un).deeper (envA L)) (envA L) E) :
    wpAny (model P w) ((AA dp outer gd un).deeper (envA L)) (pyIter (.ref D)) (fun it s₂ => codeAny (model P w) ((AA dp outer gd un).deeper (envA L)) (.forLoop (.Tuple [.Name (Str.ofString "told") px, .Name (Str.ofString "behind") px₂] tk1 tp) it (forBody (stOf 14 0)) [] (envA L)) (fun r s' => match r with | .ok f => Q f s' | .error e => cameBackBy (model P w) ((AA dp outer gd un).deeper (envA L)) (envA L) E e s') s₂) E s := by
  subst hm
  have tupAt : ∀ {h : Heap} {t : Addr} {n : Nat} {its : Array Value}, News h₀ L h LED → (t, ({ cls := .type "tuple", data := .seq its n } : Obj)) ∈ LED → IsTup h t its := fun N hm => ⟨_, (N _ hm).1, rfl, _, rfl⟩
  refine iter_pair (env := envA L) (items := #[.ref t1, .ref t2]) (fun i m h => (∃ ex, m = fun y => List.lookup y ((Str.ofString "thing", v) :: ex)) ∧ News h₀ L h LED) (News.isList N hD) F ⟨⟨_, rfl⟩, N⟩ ?_ ?_ ?_ ?_ rfl rfl rfl rfl hE
  · intro i m h h' hj hk
    exact ⟨hj.1, News.but hj.2 (News.old N) hk⟩
  · intro i v' m h hv hj
    rcases i with _ | _ | i
    · simp at hv; subst hv; exact ⟨_, _, _, rfl, tupAt hj.2 h1⟩
    · simp at hv; subst hv; exact ⟨_, _, _, rfl, tupAt hj.2 h2⟩
    · simp at hv
  · intro i t v₁ v₂ m₁ h tk hv ht hj hI hl hI0 hIL F₁
    obtain ⟨⟨ex, rfl⟩, N₁⟩ := hj
    obtain ⟨oI, hoI, hIr⟩ := id hI
    have N₂ := News.add N₁ (p := (_, oI)) hoI hIL hI0
    rcases i with _ | _ | i
    · simp at hv; subst hv
      obtain ⟨rfl, rfl⟩ := pair_inj (tup_inj (tupAt N₁ h1) ht)
      refine wpAny_mono (turn1 _ ex _ F₁ (fun p hp => by
        rcases List.mem_cons.mp hp with rfl | hp
        · exact N₁ _ hl1
        · exact N₂ p hp)) (fun fl s' hg => ?_) (fun _ _ e => e.elim)
      obtain ⟨rfl, h', tk', m', rfl, F', N', ex', rfl⟩ := hg
      exact TurnH.intro F' ⟨⟨oI, (N' _ (.tail _ (.head _))).1, hIr⟩, News.isList (fun p hp => N' p (.tail _ (.tail _ hp))) hD⟩ ⟨⟨ex', rfl⟩, fun p hp => N' p (.tail _ (.tail _ hp))⟩
    · simp at hv; subst hv
      obtain ⟨rfl, rfl⟩ := pair_inj (tup_inj (tupAt N₁ h2) ht)
      refine wpAny_mono (turn2 _ ex _ F₁ (fun p hp => by
        rcases List.mem_cons.mp hp with rfl | hp
        · exact N₁ _ hl2
        · exact N₂ p hp)) (fun fl s' hg => ?_) (fun _ _ e => e.elim)
      obtain ⟨rfl, h', tk', m', rfl, F', N', ex', rfl⟩ := hg
      exact TurnH.intro F' ⟨⟨oI, (N' _ (.tail _ (.head _))).1, hIr⟩, News.isList (fun p hp => N' p (.tail _ (.tail _ hp))) hD⟩ ⟨⟨ex', rfl⟩, fun p hp => N' p (.tail _ (.tail _ hp))⟩
    · simp at hv
  · intro m₁ h tk hj F₁
    exact done h tk m₁ F₁
end

end
section
local macro_rules | `(tactic| k_handed) => `(tactic| exact Mine.IsTh.handed (by assumption))
section

section
variable {w : World} {dp un : Nat} {outer : List Env} {base : Heap} {s : Shared} {o c : Addr} {v n d mv : Value} {t : Th} {td tc : Tok}
theorem told4H (X : (Mine.hd.heap_39 w.params).In s.heap) (T : TopH s.heap) (B : Below (AA dp outer (some []) un) base outer s.heap) (hd : dp + 10 < recursionLimit) (hu : un + 100 < cLine) (hl : Empty s.heap o) (hm : Hidden mv) {cv : Value} :
    codeAny (model P w) (AA dp outer (some []) un) (.call (.ref 77) ⟨[.ref o, mv, n, .str "d" td, cv], []⟩) (Ret s fun r h' => ∃ y, y = .str "d" td ∧ Told s.heap h' r #[y]) s :=
  law_told_D (t := .s "d") X T B hd hu hl hm (.s "d" td) nofun (fun e => absurd (Th.s.inj e) (by decide))
theorem told4T {cv : Value} (X : (Mine.hd.heap_39 w.params).In s.heap) (T : TopH s.heap) (B : Below (AA dp outer (some []) un) base outer s.heap) (hd : dp + 10 < recursionLimit) (hu : un + 100 < cLine) (hl : Empty s.heap o) (hx : IsTh s.heap v .tup) :
    codeAny (model P w) (AA dp outer (some []) un) (.call (.ref 77) ⟨[.ref o, v, .none, d, cv], []⟩) (Ret s fun r h' => ∃ y, (∃ t, y = .str "i, " t) ∧ Told s.heap h' r #[y]) s := by
  cases hx with
  | @tup _ t1 t2 ho =>
    have e : Txt.join ", " ["i", ""] = "i, " := by decide +kernel
    refine codeAny_mono (law_told_F X T B hd hu hl ho (.cons "i" t1 (.cons "" t2 .nil)) (by decide +kernel) (.inl rfl)) fun r s' h => h.mono ?_
    rintro v h ⟨y, ⟨t, rfl⟩, ht⟩
    rw [e] at ht
    exact ⟨_, ⟨t, rfl⟩, ht⟩
theorem told4E {cv : Value} (X : (Mine.hd.heap_39 w.params).In s.heap) (T : TopH s.heap) (B : Below (AA dp outer (some []) un) base outer s.heap) (hd : dp + 10 < recursionLimit) (hu : un + 100 < cLine) (hl : Empty s.heap o) (hx : IsTh s.heap v t) (hn : t ≠ .none) (hs : t ≠ .s "==SUPPRESS==") (htp : t.isTup = false) :
    codeAny (model P w) (AA dp outer (some []) un) (.call (.ref 77) ⟨[.ref o, v, n, d, cv], []⟩) (Ret s fun r h' => Told s.heap h' r #[v]) s := by
  refine codeAny_mono (law_told_T X T B hd hu hl hx hn hs (fun e => by rw [e] at htp; cases htp)) fun r s' h => h.mono ?_
  rintro v h ⟨y, rfl, ht⟩
  exact ht
theorem told5E {cv : Value} (X : (Mine.hd.heap_39 w.params).In s.heap) (T : TopH s.heap) (B : Below (AA dp outer (some []) un) base outer s.heap) (hd : dp + 10 < recursionLimit) (hu : un + 100 < cLine) (hl : Empty s.heap o) (hm : Hidden mv) (hx : IsTh s.heap v t) (hn : t ≠ .none) (hs : t ≠ .s "==SUPPRESS==") :
    codeAny (model P w) (AA dp outer (some []) un) (.call (.ref 77) ⟨[.ref o, mv, n, v, cv], []⟩) (Ret s fun r h' => Told s.heap h' r #[v]) s := by
  refine codeAny_mono (law_told_D X T B hd hu hl hm hx hn hs) fun r s' h => h.mono ?_
  rintro v h ⟨y, rfl, ht⟩
  exact ht
theorem told5H (X : (Mine.hd.heap_39 w.params).In s.heap) (T : TopH s.heap) (B : Below (AA dp outer (some []) un) base outer s.heap) (hd : dp + 10 < recursionLimit) (hu : un + 100 < cLine) (hl : Empty s.heap o) (hm : Hidden mv) (hdd : Hidden d) (hc : s.heap.IsList c #[.str "c" tc]) (hsys : SysOk s.heap) :
    codeAny (model P w) (AA dp outer (some []) un) (.call (.ref 77) ⟨[.ref o, mv, n, d, .ref c], []⟩) (Ret s fun r h' => ∃ y, (∃ t, y = .str "{c}" t) ∧ Told s.heap h' r #[y]) s := by
  have e : ("{" ++ Txt.join "," ([Th.s "c"].map Th.shown) ++ "}" : Str) = "{c}" := by decide +kernel
  refine codeAny_mono (law_told_C (ths := [.s "c"]) X T B hd hu hl hm hdd hc (.cons (.s "c" tc) .nil) nofun (by decide) (fun i h => by simp at h) hsys (by decide +kernel)) fun r s' h => h.mono ?_
  rintro v h ⟨y, ⟨t, rfl⟩, ht⟩
  rw [e] at ht
  exact ⟨_, ⟨t, rfl⟩, ht⟩
theorem aloneH (X : (Mine.hd.heap_39 w.params).In s.heap) (TT : TopH s.heap) (B : Below (AA dp outer (some []) un) base outer s.heap) (hd : dp + 30 < recursionLimit) (hu : un + 300 < cLine) (hsys : SysOk s.heap) (hv : Hidden v) :
    codeAny (model P w) (AA dp outer (some []) un) (.call (.ref 110) ⟨[v], []⟩) (Ret s fun v _ => v = .bool true) s := by
  have hhv := hv.handed
  refine' Mine.enter (binds := [(Str.ofString "thing", v)]) X TT ?hak6 ?hak7 ?hak8 ?hak9 ?hakB ?_ ?hac2 ?hac3 ?hac4 ?hac5
  case hak6 => k_is
  case hak7 => k_is
  case hak8 => exact Mine.room0 (by assumption)
  case hak9 => exact BindsTo.of_eq rfl
  case hakB => exact locs rfl
  case hac5 => decide
  case hac2 => rfl
  case hac3 => rfl
  case hac4 => rfl
  intro L' h₁ mean mg mb F N T'
  dsimp only [List.reverse, List.reverseAux, List.length] at F ⊢
  k_fold
  (repeat' (((first | ((fail_if_success (with_reducible show wpAny _ _ (exec (Stmt.While _ _ _ _) _) _ _ _)); (fail_if_success (with_reducible show wpAny _ _ (exec (Stmt.For _ _ _ _ _) _) _ _ _)); (fail_if_success (with_reducible show wpAny _ _ (eval (PySem.Expr.ListComp _ _ _ _) _) _ _ _)); (fail_if_success (with_reducible show wpAny _ _ (exec (PySem.Stmt.Assign _ (PySem.Expr.ListComp _ _ _ _) _) _) _ _ _)); (fail_if_success (with_reducible show wpAny _ _ (call (Value.ref _) _) _ _ _)); (fail_if_success (with_reducible show wpAny _ _ (pyIter (Value.ref _)) _ _ _)); (fail_if_success (show LCg.CompSrc _ _ _ _ _ _ _ _ _ _ _ _ _ _)); first | (k_unfold; (try dsimp only)) | (k_end; wrow_close) | walk1 | (dsimp only; walk1) | (leave1; (try dsimp only)))))))
  refine wpAny_For ?_
  (repeat' (((first | ((fail_if_success (with_reducible show wpAny _ _ (exec (Stmt.While _ _ _ _) _) _ _ _)); (fail_if_success (with_reducible show wpAny _ _ (exec (Stmt.For _ _ _ _ _) _) _ _ _)); (fail_if_success (with_reducible show wpAny _ _ (eval (PySem.Expr.ListComp _ _ _ _) _) _ _ _)); (fail_if_success (with_reducible show wpAny _ _ (exec (PySem.Stmt.Assign _ (PySem.Expr.ListComp _ _ _ _) _) _) _ _ _)); (fail_if_success (with_reducible show wpAny _ _ (call (Value.ref _) _) _ _ _)); (fail_if_success (with_reducible show wpAny _ _ (pyIter (Value.ref _)) _ _ _)); (fail_if_success (show LCg.CompSrc _ _ _ _ _ _ _ _ _ _ _ _ _ _)); first | (k_unfold; (try dsimp only)) | (k_end; wrow_close) | walk1 | (dsimp only; walk1) | (leave1; (try dsimp only)))))))
  refine' Mine.call_at (by assumption) (by assumption) (by assumption) (by rfl) (by rfl) (fun BB => Mine.told4H ?hbX ?hbT BB ?hbd ?hbu ?hbl ?hbm) ?_
  case hbX => (first | (with_reducible assumption) | exact Frag.In.keeps (by assumption) (Fr.keep (by assumption)) | exact ⟨_, _, _, Top.keeps (by assumption) (Fr.keep (by assumption))⟩)
  case hbT => (first | (with_reducible assumption) | exact Frag.In.keeps (by assumption) (Fr.keep (by assumption)) | exact ⟨_, _, _, Top.keeps (by assumption) (Fr.keep (by assumption))⟩)
  case hbd => exact Mine.room1 (by assumption) rfl
  case hbu => exact Mine.room3 (by assumption) rfl
  case hbl => (first | assumption | exact Or.inl (News.isList (by assumption) (by k_mem)) | exact Or.inr (News.isTup (by assumption) (by k_mem)) | exact Mine.Empty.keeps (Fr.keep (by assumption)) (by assumption) | exact Mine.Empty.keeps (Fr.keep (by assumption)) (Mine.Empty.keeps (Fr.keep (by assumption)) (by assumption)))
  case hbm => first | assumption | exact Mine.Hidden.none | exact Mine.Hidden.sup
  rintro v1hb h1hb tk1hb F1hb N1hb st1hb ⟨y1hb, hyhb, ⟨l1hb, k1hb, hv1hb, hl1hb, hl2hb⟩⟩
  subst hv1hb
  subst hyhb
  have N2hb := News.fresh (by assumption) N1hb hl2hb hl1hb
  clear N1hb
  (repeat' (((first | ((fail_if_success (with_reducible show wpAny _ _ (exec (Stmt.While _ _ _ _) _) _ _ _)); (fail_if_success (with_reducible show wpAny _ _ (exec (Stmt.For _ _ _ _ _) _) _ _ _)); (fail_if_success (with_reducible show wpAny _ _ (eval (PySem.Expr.ListComp _ _ _ _) _) _ _ _)); (fail_if_success (with_reducible show wpAny _ _ (exec (PySem.Stmt.Assign _ (PySem.Expr.ListComp _ _ _ _) _) _) _ _ _)); (fail_if_success (with_reducible show wpAny _ _ (call (Value.ref _) _) _ _ _)); (fail_if_success (with_reducible show wpAny _ _ (pyIter (Value.ref _)) _ _ _)); (fail_if_success (show LCg.CompSrc _ _ _ _ _ _ _ _ _ _ _ _ _ _)); first | (k_unfold; (try dsimp only)) | (k_end; wrow_close) | walk1 | (dsimp only; walk1) | (leave1; (try dsimp only)))))))
  refine' Mine.call_at (by assumption) (by assumption) (by assumption) (by rfl) (by rfl) (fun BB => Mine.told5H ?hcX ?hcT BB ?hcd ?hcu ?hcl ?hcm ?hcdd ?hcc ?hcs) ?_
  case hcX => (first | (with_reducible assumption) | exact Frag.In.keeps (by assumption) (Fr.keep (by assumption)) | exact ⟨_, _, _, Top.keeps (by assumption) (Fr.keep (by assumption))⟩)
  case hcT => (first | (with_reducible assumption) | exact Frag.In.keeps (by assumption) (Fr.keep (by assumption)) | exact ⟨_, _, _, Top.keeps (by assumption) (Fr.keep (by assumption))⟩)
  case hcd => exact Mine.room1 (by assumption) rfl
  case hcu => exact Mine.room3 (by assumption) rfl
  case hcl => (first | assumption | exact Or.inl (News.isList (by assumption) (by k_mem)) | exact Or.inr (News.isTup (by assumption) (by k_mem)) | exact Mine.Empty.keeps (Fr.keep (by assumption)) (by assumption) | exact Mine.Empty.keeps (Fr.keep (by assumption)) (Mine.Empty.keeps (Fr.keep (by assumption)) (by assumption)))
  case hcm => first | assumption | exact Mine.Hidden.none | exact Mine.Hidden.sup
  case hcdd => first | assumption | exact Mine.Hidden.none | exact Mine.Hidden.sup
  case hcc => (first | assumption | exact News.isList (by assumption) (by k_mem) | exact stays_list (Fr.keep (by assumption)) (by assumption) | exact stays_list (Fr.keep (by assumption)) (stays_list (Fr.keep (by assumption)) (by assumption)))
  case hcs => (first | (with_reducible assumption) | exact Mine.SysOk.keeps (Fr.keep (by assumption)) (by with_reducible assumption))
  rintro v1hc h1hc tk1hc F1hc N1hc st1hc ⟨y1hc, ⟨t1hc, hyhc⟩, ⟨l1hc, k1hc, hv1hc, hl1hc, hl2hc⟩⟩
  subst hv1hc
  subst hyhc
  have N2hc := News.fresh (by assumption) N1hc hl2hc hl1hc
  clear N1hc
  (repeat' (((first | ((fail_if_success (with_reducible show wpAny _ _ (exec (Stmt.While _ _ _ _) _) _ _ _)); (fail_if_success (with_reducible show wpAny _ _ (exec (Stmt.For _ _ _ _ _) _) _ _ _)); (fail_if_success (with_reducible show wpAny _ _ (eval (PySem.Expr.ListComp _ _ _ _) _) _ _ _)); (fail_if_success (with_reducible show wpAny _ _ (exec (PySem.Stmt.Assign _ (PySem.Expr.ListComp _ _ _ _) _) _) _ _ _)); (fail_if_success (with_reducible show wpAny _ _ (call (Value.ref _) _) _ _ _)); (fail_if_success (with_reducible show wpAny _ _ (pyIter (Value.ref _)) _ _ _)); (fail_if_success (show LCg.CompSrc _ _ _ _ _ _ _ _ _ _ _ _ _ _)); first | (k_unfold; (try dsimp only)) | (k_end; wrow_close) | walk1 | (dsimp only; walk1) | (leave1; (try dsimp only)))))))
  rename News _ _ _ _ => NL
  rename Fr _ _ _ _ => FL
  refine alloop (v := v) FL rfl NL (by k_mem) (by k_mem) (by k_mem) (by k_mem) (by k_mem) ?_ ?_ ?_ ?_
  · intro s' ex LED' F N
    exact alturnH X TT (by omega) hv F N
  · intro s' ex LED' F N
    exact alturnH X TT (by omega) hv F N
  · intro h tk m' F9
    have N9 := nilAt F9
    clear NL FL
    (repeat' (((first | ((fail_if_success (with_reducible show wpAny _ _ (exec (Stmt.While _ _ _ _) _) _ _ _)); (fail_if_success (with_reducible show wpAny _ _ (exec (Stmt.For _ _ _ _ _) _) _ _ _)); (fail_if_success (with_reducible show wpAny _ _ (eval (PySem.Expr.ListComp _ _ _ _) _) _ _ _)); (fail_if_success (with_reducible show wpAny _ _ (exec (PySem.Stmt.Assign _ (PySem.Expr.ListComp _ _ _ _) _) _) _ _ _)); (fail_if_success (with_reducible show wpAny _ _ (call (Value.ref _) _) _ _ _)); (fail_if_success (with_reducible show wpAny _ _ (pyIter (Value.ref _)) _ _ _)); (fail_if_success (show LCg.CompSrc _ _ _ _ _ _ _ _ _ _ _ _ _ _)); first | (k_unfold; (try dsimp only)) | (k_end; wrow_close) | walk1 | (dsimp only; walk1) | (leave1; (try dsimp only)))))))
    (((try k_unfold); (try dsimp only); refine Mine.ret_of (Fr.keep (by assumption)) ?_ rfl))
    rfl
  · passes_own
theorem aloneT (X : (Mine.hd.heap_39 w.params).In s.heap) (TT : TopH s.heap) (B : Below (AA dp outer (some []) un) base outer s.heap) (hd : dp + 30 < recursionLimit) (hu : un + 300 < cLine) (hsys : SysOk s.heap) (hx : IsTh s.heap v .tup) (hso : Solid v) :
    codeAny (model P w) (AA dp outer (some []) un) (.call (.ref 110) ⟨[v], []⟩) (Ret s fun v _ => v = .bool true) s := by
  have hhv := hx.handed
  have hn : Th.tup ≠ .none := nofun
  have hs : Th.tup ≠ .s "==SUPPRESS==" := nofun
  refine' Mine.enter (binds := [(Str.ofString "thing", v)]) X TT ?tak6 ?tak7 ?tak8 ?tak9 ?takB ?_ ?tac2 ?tac3 ?tac4 ?tac5
  case tak6 => k_is
  case tak7 => k_is
  case tak8 => exact Mine.room0 (by assumption)
  case tak9 => exact BindsTo.of_eq rfl
  case takB => exact locs rfl
  case tac5 => decide
  case tac2 => rfl
  case tac3 => rfl
  case tac4 => rfl
  intro L' h₁ mean mg mb F N T'
  dsimp only [List.reverse, List.reverseAux, List.length] at F ⊢
  k_fold
  (repeat' (((first | ((fail_if_success (with_reducible show wpAny _ _ (exec (Stmt.While _ _ _ _) _) _ _ _)); (fail_if_success (with_reducible show wpAny _ _ (exec (Stmt.For _ _ _ _ _) _) _ _ _)); (fail_if_success (with_reducible show wpAny _ _ (eval (PySem.Expr.ListComp _ _ _ _) _) _ _ _)); (fail_if_success (with_reducible show wpAny _ _ (exec (PySem.Stmt.Assign _ (PySem.Expr.ListComp _ _ _ _) _) _) _ _ _)); (fail_if_success (with_reducible show wpAny _ _ (call (Value.ref _) _) _ _ _)); (fail_if_success (with_reducible show wpAny _ _ (pyIter (Value.ref _)) _ _ _)); (fail_if_success (show LCg.CompSrc _ _ _ _ _ _ _ _ _ _ _ _ _ _)); first | (k_unfold; (try dsimp only)) | (k_end; wrow_close) | walk1 | (dsimp only; walk1) | (leave1; (try dsimp only)))))))
  refine wpAny_For ?_
  (repeat' (((first | ((fail_if_success (with_reducible show wpAny _ _ (exec (Stmt.While _ _ _ _) _) _ _ _)); (fail_if_success (with_reducible show wpAny _ _ (exec (Stmt.For _ _ _ _ _) _) _ _ _)); (fail_if_success (with_reducible show wpAny _ _ (eval (PySem.Expr.ListComp _ _ _ _) _) _ _ _)); (fail_if_success (with_reducible show wpAny _ _ (exec (PySem.Stmt.Assign _ (PySem.Expr.ListComp _ _ _ _) _) _) _ _ _)); (fail_if_success (with_reducible show wpAny _ _ (call (Value.ref _) _) _ _ _)); (fail_if_success (with_reducible show wpAny _ _ (pyIter (Value.ref _)) _ _ _)); (fail_if_success (show LCg.CompSrc _ _ _ _ _ _ _ _ _ _ _ _ _ _)); first | (k_unfold; (try dsimp only)) | (k_end; wrow_close) | walk1 | (dsimp only; walk1) | (leave1; (try dsimp only)))))))
  refine' Mine.call_at (by assumption) (by assumption) (by assumption) (by rfl) (by rfl) (fun BB => Mine.told4T ?tbX ?tbT BB ?tbd ?tbu ?tbl ?tbx) ?_
  case tbX => (first | (with_reducible assumption) | exact Frag.In.keeps (by assumption) (Fr.keep (by assumption)) | exact ⟨_, _, _, Top.keeps (by assumption) (Fr.keep (by assumption))⟩)
  case tbT => (first | (with_reducible assumption) | exact Frag.In.keeps (by assumption) (Fr.keep (by assumption)) | exact ⟨_, _, _, Top.keeps (by assumption) (Fr.keep (by assumption))⟩)
  case tbd => exact Mine.room1 (by assumption) rfl
  case tbu => exact Mine.room3 (by assumption) rfl
  case tbl => (first | assumption | exact Or.inl (News.isList (by assumption) (by k_mem)) | exact Or.inr (News.isTup (by assumption) (by k_mem)) | exact Mine.Empty.keeps (Fr.keep (by assumption)) (by assumption) | exact Mine.Empty.keeps (Fr.keep (by assumption)) (Mine.Empty.keeps (Fr.keep (by assumption)) (by assumption)))
  case tbx => first | assumption | exact Mine.IsTh.keeps (Fr.keep (by assumption)) (by assumption)
  rintro v1tb h1tb tk1tb F1tb N1tb st1tb ⟨y1tb, ⟨t1tb, hytb⟩, ⟨l1tb, k1tb, hv1tb, hl1tb, hl2tb⟩⟩
  subst hv1tb
  subst hytb
  have N2tb := News.fresh (by assumption) N1tb hl2tb hl1tb
  clear N1tb
  (repeat' (((first | ((fail_if_success (with_reducible show wpAny _ _ (exec (Stmt.While _ _ _ _) _) _ _ _)); (fail_if_success (with_reducible show wpAny _ _ (exec (Stmt.For _ _ _ _ _) _) _ _ _)); (fail_if_success (with_reducible show wpAny _ _ (eval (PySem.Expr.ListComp _ _ _ _) _) _ _ _)); (fail_if_success (with_reducible show wpAny _ _ (exec (PySem.Stmt.Assign _ (PySem.Expr.ListComp _ _ _ _) _) _) _ _ _)); (fail_if_success (with_reducible show wpAny _ _ (call (Value.ref _) _) _ _ _)); (fail_if_success (with_reducible show wpAny _ _ (pyIter (Value.ref _)) _ _ _)); (fail_if_success (show LCg.CompSrc _ _ _ _ _ _ _ _ _ _ _ _ _ _)); first | (k_unfold; (try dsimp only)) | (k_end; wrow_close) | walk1 | (dsimp only; walk1) | (leave1; (try dsimp only)))))))
  refine' Mine.call_at (by assumption) (by assumption) (by assumption) (by rfl) (by rfl) (fun BB => Mine.told5E ?tcX ?tcT BB ?tcd ?tcu ?tcl ?tcm ?tcx ?tcn ?tcs) ?_
  case tcX => (first | (with_reducible assumption) | exact Frag.In.keeps (by assumption) (Fr.keep (by assumption)) | exact ⟨_, _, _, Top.keeps (by assumption) (Fr.keep (by assumption))⟩)
  case tcT => (first | (with_reducible assumption) | exact Frag.In.keeps (by assumption) (Fr.keep (by assumption)) | exact ⟨_, _, _, Top.keeps (by assumption) (Fr.keep (by assumption))⟩)
  case tcd => exact Mine.room1 (by assumption) rfl
  case tcu => exact Mine.room3 (by assumption) rfl
  case tcl => (first | assumption | exact Or.inl (News.isList (by assumption) (by k_mem)) | exact Or.inr (News.isTup (by assumption) (by k_mem)) | exact Mine.Empty.keeps (Fr.keep (by assumption)) (by assumption) | exact Mine.Empty.keeps (Fr.keep (by assumption)) (Mine.Empty.keeps (Fr.keep (by assumption)) (by assumption)))
  case tcm => first | assumption | exact Mine.Hidden.none | exact Mine.Hidden.sup
  case tcx => first | assumption | exact Mine.IsTh.keeps (Fr.keep (by assumption)) (by assumption)
  case tcn => exact hn
  case tcs => exact hs
  rintro v1tc h1tc tk1tc F1tc N1tc st1tc ⟨l1tc, k1tc, hv1tc, hl1tc, hl2tc⟩
  subst hv1tc
  have N2tc := News.fresh (by assumption) N1tc hl2tc hl1tc
  clear N1tc
  (repeat' (((first | ((fail_if_success (with_reducible show wpAny _ _ (exec (Stmt.While _ _ _ _) _) _ _ _)); (fail_if_success (with_reducible show wpAny _ _ (exec (Stmt.For _ _ _ _ _) _) _ _ _)); (fail_if_success (with_reducible show wpAny _ _ (eval (PySem.Expr.ListComp _ _ _ _) _) _ _ _)); (fail_if_success (with_reducible show wpAny _ _ (exec (PySem.Stmt.Assign _ (PySem.Expr.ListComp _ _ _ _) _) _) _ _ _)); (fail_if_success (with_reducible show wpAny _ _ (call (Value.ref _) _) _ _ _)); (fail_if_success (with_reducible show wpAny _ _ (pyIter (Value.ref _)) _ _ _)); (fail_if_success (show LCg.CompSrc _ _ _ _ _ _ _ _ _ _ _ _ _ _)); first | (k_unfold; (try dsimp only)) | (k_end; wrow_close) | walk1 | (dsimp only; walk1) | (leave1; (try dsimp only)))))))
  rename News _ _ _ _ => NL
  rename Fr _ _ _ _ => FL
  refine alloop (v := v) FL rfl NL (by k_mem) (by k_mem) (by k_mem) (by k_mem) (by k_mem) ?_ ?_ ?_ ?_
  · intro s' ex LED' F N
    exact alturnT X TT (by omega) hx F N
  · intro s' ex LED' F N
    exact alturnU X TT (by omega) hx hso F N
  · intro h tk m' F9
    have N9 := nilAt F9
    clear NL FL
    (repeat' (((first | ((fail_if_success (with_reducible show wpAny _ _ (exec (Stmt.While _ _ _ _) _) _ _ _)); (fail_if_success (with_reducible show wpAny _ _ (exec (Stmt.For _ _ _ _ _) _) _ _ _)); (fail_if_success (with_reducible show wpAny _ _ (eval (PySem.Expr.ListComp _ _ _ _) _) _ _ _)); (fail_if_success (with_reducible show wpAny _ _ (exec (PySem.Stmt.Assign _ (PySem.Expr.ListComp _ _ _ _) _) _) _ _ _)); (fail_if_success (with_reducible show wpAny _ _ (call (Value.ref _) _) _ _ _)); (fail_if_success (with_reducible show wpAny _ _ (pyIter (Value.ref _)) _ _ _)); (fail_if_success (show LCg.CompSrc _ _ _ _ _ _ _ _ _ _ _ _ _ _)); first | (k_unfold; (try dsimp only)) | (k_end; wrow_close) | walk1 | (dsimp only; walk1) | (leave1; (try dsimp only)))))))
    (((try k_unfold); (try dsimp only); refine Mine.ret_of (Fr.keep (by assumption)) ?_ rfl))
    rfl
  · passes_own
theorem aloneE (X : (Mine.hd.heap_39 w.params).In s.heap) (TT : TopH s.heap) (B : Below (AA dp outer (some []) un) base outer s.heap) (hd : dp + 30 < recursionLimit) (hu : un + 300 < cLine) (hsys : SysOk s.heap) (hx : IsTh s.heap v t) (hn : t ≠ .none) (hs : t ≠ .s "==SUPPRESS==") (htp : t.isTup = false) (hso : Solid v) :
    codeAny (model P w) (AA dp outer (some []) un) (.call (.ref 110) ⟨[v], []⟩) (Ret s fun v _ => v = .bool true) s := by
  have hhv := hx.handed
  refine' Mine.enter (binds := [(Str.ofString "thing", v)]) X TT ?eak6 ?eak7 ?eak8 ?eak9 ?eakB ?_ ?eac2 ?eac3 ?eac4 ?eac5
  case eak6 => k_is
  case eak7 => k_is
  case eak8 => exact Mine.room0 (by assumption)
  case eak9 => exact BindsTo.of_eq rfl
  case eakB => exact locs rfl
  case eac5 => decide
  case eac2 => rfl
  case eac3 => rfl
  case eac4 => rfl
  intro L' h₁ mean mg mb F N T'
  dsimp only [List.reverse, List.reverseAux, List.length] at F ⊢
  k_fold
  (repeat' (((first | ((fail_if_success (with_reducible show wpAny _ _ (exec (Stmt.While _ _ _ _) _) _ _ _)); (fail_if_success (with_reducible show wpAny _ _ (exec (Stmt.For _ _ _ _ _) _) _ _ _)); (fail_if_success (with_reducible show wpAny _ _ (eval (PySem.Expr.ListComp _ _ _ _) _) _ _ _)); (fail_if_success (with_reducible show wpAny _ _ (exec (PySem.Stmt.Assign _ (PySem.Expr.ListComp _ _ _ _) _) _) _ _ _)); (fail_if_success (with_reducible show wpAny _ _ (call (Value.ref _) _) _ _ _)); (fail_if_success (with_reducible show wpAny _ _ (pyIter (Value.ref _)) _ _ _)); (fail_if_success (show LCg.CompSrc _ _ _ _ _ _ _ _ _ _ _ _ _ _)); first | (k_unfold; (try dsimp only)) | (k_end; wrow_close) | walk1 | (dsimp only; walk1) | (leave1; (try dsimp only)))))))
  refine wpAny_For ?_
  (repeat' (((first | ((fail_if_success (with_reducible show wpAny _ _ (exec (Stmt.While _ _ _ _) _) _ _ _)); (fail_if_success (with_reducible show wpAny _ _ (exec (Stmt.For _ _ _ _ _) _) _ _ _)); (fail_if_success (with_reducible show wpAny _ _ (eval (PySem.Expr.ListComp _ _ _ _) _) _ _ _)); (fail_if_success (with_reducible show wpAny _ _ (exec (PySem.Stmt.Assign _ (PySem.Expr.ListComp _ _ _ _) _) _) _ _ _)); (fail_if_success (with_reducible show wpAny _ _ (call (Value.ref _) _) _ _ _)); (fail_if_success (with_reducible show wpAny _ _ (pyIter (Value.ref _)) _ _ _)); (fail_if_success (show LCg.CompSrc _ _ _ _ _ _ _ _ _ _ _ _ _ _)); first | (k_unfold; (try dsimp only)) | (k_end; wrow_close) | walk1 | (dsimp only; walk1) | (leave1; (try dsimp only)))))))
  refine' Mine.call_at (by assumption) (by assumption) (by assumption) (by rfl) (by rfl) (fun BB => Mine.told4E ?ebX ?ebT BB ?ebd ?ebu ?ebl ?ebx ?ebn ?ebs ?ebp) ?_
  case ebX => (first | (with_reducible assumption) | exact Frag.In.keeps (by assumption) (Fr.keep (by assumption)) | exact ⟨_, _, _, Top.keeps (by assumption) (Fr.keep (by assumption))⟩)
  case ebT => (first | (with_reducible assumption) | exact Frag.In.keeps (by assumption) (Fr.keep (by assumption)) | exact ⟨_, _, _, Top.keeps (by assumption) (Fr.keep (by assumption))⟩)
  case ebd => exact Mine.room1 (by assumption) rfl
  case ebu => exact Mine.room3 (by assumption) rfl
  case ebl => (first | assumption | exact Or.inl (News.isList (by assumption) (by k_mem)) | exact Or.inr (News.isTup (by assumption) (by k_mem)) | exact Mine.Empty.keeps (Fr.keep (by assumption)) (by assumption) | exact Mine.Empty.keeps (Fr.keep (by assumption)) (Mine.Empty.keeps (Fr.keep (by assumption)) (by assumption)))
  case ebx => first | assumption | exact Mine.IsTh.keeps (Fr.keep (by assumption)) (by assumption)
  case ebn => exact hn
  case ebs => exact hs
  case ebp => exact htp
  rintro v1eb h1eb tk1eb F1eb N1eb st1eb ⟨l1eb, k1eb, hv1eb, hl1eb, hl2eb⟩
  subst hv1eb
  have N2eb := News.fresh (by assumption) N1eb hl2eb hl1eb
  clear N1eb
  (repeat' (((first | ((fail_if_success (with_reducible show wpAny _ _ (exec (Stmt.While _ _ _ _) _) _ _ _)); (fail_if_success (with_reducible show wpAny _ _ (exec (Stmt.For _ _ _ _ _) _) _ _ _)); (fail_if_success (with_reducible show wpAny _ _ (eval (PySem.Expr.ListComp _ _ _ _) _) _ _ _)); (fail_if_success (with_reducible show wpAny _ _ (exec (PySem.Stmt.Assign _ (PySem.Expr.ListComp _ _ _ _) _) _) _ _ _)); (fail_if_success (with_reducible show wpAny _ _ (call (Value.ref _) _) _ _ _)); (fail_if_success (with_reducible show wpAny _ _ (pyIter (Value.ref _)) _ _ _)); (fail_if_success (show LCg.CompSrc _ _ _ _ _ _ _ _ _ _ _ _ _ _)); first | (k_unfold; (try dsimp only)) | (k_end; wrow_close) | walk1 | (dsimp only; walk1) | (leave1; (try dsimp only)))))))
  refine' Mine.call_at (by assumption) (by assumption) (by assumption) (by rfl) (by rfl) (fun BB => Mine.told5E ?ecX ?ecT BB ?ecd ?ecu ?ecl ?ecm ?ecx ?ecn ?ecs) ?_
  case ecX => (first | (with_reducible assumption) | exact Frag.In.keeps (by assumption) (Fr.keep (by assumption)) | exact ⟨_, _, _, Top.keeps (by assumption) (Fr.keep (by assumption))⟩)
  case ecT => (first | (with_reducible assumption) | exact Frag.In.keeps (by assumption) (Fr.keep (by assumption)) | exact ⟨_, _, _, Top.keeps (by assumption) (Fr.keep (by assumption))⟩)
  case ecd => exact Mine.room1 (by assumption) rfl
  case ecu => exact Mine.room3 (by assumption) rfl
  case ecl => (first | assumption | exact Or.inl (News.isList (by assumption) (by k_mem)) | exact Or.inr (News.isTup (by assumption) (by k_mem)) | exact Mine.Empty.keeps (Fr.keep (by assumption)) (by assumption) | exact Mine.Empty.keeps (Fr.keep (by assumption)) (Mine.Empty.keeps (Fr.keep (by assumption)) (by assumption)))
  case ecm => first | assumption | exact Mine.Hidden.none | exact Mine.Hidden.sup
  case ecx => first | assumption | exact Mine.IsTh.keeps (Fr.keep (by assumption)) (by assumption)
  case ecn => exact hn
  case ecs => exact hs
  rintro v1ec h1ec tk1ec F1ec N1ec st1ec ⟨l1ec, k1ec, hv1ec, hl1ec, hl2ec⟩
  subst hv1ec
  have N2ec := News.fresh (by assumption) N1ec hl2ec hl1ec
  clear N1ec
  (repeat' (((first | ((fail_if_success (with_reducible show wpAny _ _ (exec (Stmt.While _ _ _ _) _) _ _ _)); (fail_if_success (with_reducible show wpAny _ _ (exec (Stmt.For _ _ _ _ _) _) _ _ _)); (fail_if_success (with_reducible show wpAny _ _ (eval (PySem.Expr.ListComp _ _ _ _) _) _ _ _)); (fail_if_success (with_reducible show wpAny _ _ (exec (PySem.Stmt.Assign _ (PySem.Expr.ListComp _ _ _ _) _) _) _ _ _)); (fail_if_success (with_reducible show wpAny _ _ (call (Value.ref _) _) _ _ _)); (fail_if_success (with_reducible show wpAny _ _ (pyIter (Value.ref _)) _ _ _)); (fail_if_success (show LCg.CompSrc _ _ _ _ _ _ _ _ _ _ _ _ _ _)); first | (k_unfold; (try dsimp only)) | (k_end; wrow_close) | walk1 | (dsimp only; walk1) | (leave1; (try dsimp only)))))))
  rename News _ _ _ _ => NL
  rename Fr _ _ _ _ => FL
  refine alloop (v := v) FL rfl NL (by k_mem) (by k_mem) (by k_mem) (by k_mem) (by k_mem) ?_ ?_ ?_ ?_
  · intro s' ex LED' F N
    exact alturnE X TT (by omega) hx hn hs htp hso F N
  · intro s' ex LED' F N
    exact alturnE X TT (by omega) hx hn hs htp hso F N
  · intro h tk m' F9
    have N9 := nilAt F9
    clear NL FL
    (repeat' (((first | ((fail_if_success (with_reducible show wpAny _ _ (exec (Stmt.While _ _ _ _) _) _ _ _)); (fail_if_success (with_reducible show wpAny _ _ (exec (Stmt.For _ _ _ _ _) _) _ _ _)); (fail_if_success (with_reducible show wpAny _ _ (eval (PySem.Expr.ListComp _ _ _ _) _) _ _ _)); (fail_if_success (with_reducible show wpAny _ _ (exec (PySem.Stmt.Assign _ (PySem.Expr.ListComp _ _ _ _) _) _) _ _ _)); (fail_if_success (with_reducible show wpAny _ _ (call (Value.ref _) _) _ _ _)); (fail_if_success (with_reducible show wpAny _ _ (pyIter (Value.ref _)) _ _ _)); (fail_if_success (show LCg.CompSrc _ _ _ _ _ _ _ _ _ _ _ _ _ _)); first | (k_unfold; (try dsimp only)) | (k_end; wrow_close) | walk1 | (dsimp only; walk1) | (leave1; (try dsimp only)))))))
    (((try k_unfold); (try dsimp only); refine Mine.ret_of (Fr.keep (by assumption)) ?_ rfl))
    rfl
  · passes_own
/-- `_law_alone` says True -/
theorem law_alone (X : (Mine.hd.heap_39 w.params).In s.heap) (TT : TopH s.heap) (B : Below (AA dp outer (some []) un) base outer s.heap) (hd : dp + 30 < recursionLimit) (hu : un + 300 < cLine) (hsys : SysOk s.heap) (hx : IsTh s.heap v t) (hso : Solid v) :
    codeAny (model P w) (AA dp outer (some []) un) (.call (.ref 110) ⟨[v], []⟩) (Ret s fun v _ => v = .bool true) s := by
  by_cases hn : t = .none
  · subst hn
    cases hx
    exact aloneH X TT B hd hu hsys .none
  by_cases hs : t = .s "==SUPPRESS=="
  · subst hs
    cases hx
    exact aloneH X TT B hd hu hsys .sup
  cases htp : t.isTup with
  | true =>
    have : t = .tup := by cases t <;> first | rfl | cases htp
    subst this
    exact aloneT X TT B hd hu hsys hx hso
  | false => exact aloneE X TT B hd hu hsys hx hn hs htp hso
end

end
end
section
/-! defs with cells: entry, and calls out of them -/
theorem below_pushC {A : Around} {base h₀ h : Heap} {outer : List Env} {L a : Addr} {m : Str → Option Value} {name : Str} {scope : Scope} {cd : Value}
    (K : Below A base outer h₀) (F : Fr h₀ L h m) (hk : scope.kind = .function) : Below (A.deeper (envOfC name scope L a cd)) base (envOfC name scope L a cd :: outer) h := by
  have hnew : base.get? L = none := by
    cases hq : base.get? L with
    | none => rfl
    | some o => exact absurd (Nat.lt_of_lt_of_le (Heap.lt_size (K.stays L o hq)) F.above) (Nat.lt_irrefl _)
  refine ⟨Around.frames_deeper K.stack, fun b o e => F.keep b o (K.stays b o e), ?_⟩
  exact .cons (by show scope.kind ≠ .module; rw [hk]; decide) rfl F.ns hnew (K.frames.of_keeps fun b o e _ => ⟨o, F.keep b o e, rfl⟩)
theorem call_atC {w : World} {A₀ : Around} {dp un : Nat} {outer : List Env} {gd : Option (List Code)} {base h₀ : Heap} {cn : Str} {cs : Scope} {L a : Addr} {ccd : Value} {s : Shared} {E : Value → Shared → Prop} {Q : Value → Shared → Prop} {m : Str → Option Value} {news : List (Addr × Obj)} {f : Value} {args : List Value} {Post : Value → Heap → Prop}
    (B : Below A₀ base outer h₀) (F : Fr h₀ L s.heap m) (N : News h₀ L s.heap news) (hA : A₀ = AA dp outer gd un) (hk : cs.kind = .function)
    (hc : Below (AA (dp + 1) (envOfC cn cs L a ccd :: outer) gd (un + 3)) base (envOfC cn cs L a ccd :: outer) s.heap → codeAny (model P w) (AA (dp + 1) (envOfC cn cs L a ccd :: outer) gd (un + 3)) (.call f ⟨args, []⟩) (Ret s Post) s)
    (h : ∀ v h' tk, Fr h₀ L h' m → News h₀ L h' news → s.heap.StaysIn h' → Post v h' → Q v { s with heap := h', toks := tk }) :
    wpAny (model P w) (A₀.deeper (envOfC cn cs L a ccd)) (call f args) Q E s := by
  subst hA
  exact call_of (hc (below_pushC B F hk)) F N h

end
section

def thTexts : List Str := ["a", "", "b c", "-d", "/", ", ", "{e}", "f[, g]", "==SUPPRESS==", "None"]
def thOf (k : Nat) (n : Int) : Th :=
  if k < 10 then .s (thTexts.getD k Str.empty) else if k = 10 then .n n else if k = 11 then .none else if k = 12 then .b (decide (0 < n)) else if k = 13 then .lst else if k = 14 then .tup else .dct
def PairAt (g : Heap) (v : Value) (th : Th) : Prop := ∃ a tv t, v = .ref a ∧ IsTup g a #[tv, .str th.shown t] ∧ IsTh g tv th ∧ Solid tv
/-- v is made since h, a pair of the thing and its text -/
def PairNew (h h' : Heap) (v : Value) (th : Th) : Prop := ∀ g' : Heap, (∀ a o, h.get? a = none → h'.get? a = some o → g'.get? a = some o) → PairAt g' v th
theorem thOf_lt {k : Nat} {n : Int} (h : k < 10) : thOf k n = .s (thTexts.getD k Str.empty) := if_pos h
theorem thOf_at {k j n : Int} (h : k - 10 = j) : thOf k.toNat n = thOf (10 + j).toNat n := by rw [show k = 10 + j from by omega]
theorem pair_mk {g : Heap} {a : Addr} {n : Nat} {tv : Value} {x : Str} {t : Tok} {th : Th} (ha : g.get? a = some { cls := .type "tuple", data := .seq #[tv, .str x t] n }) (hx : x = th.shown) (hi : IsTh g tv th) (hs : Solid tv) : PairAt g (.ref a) th := by
  subst hx
  exact ⟨_, _, _, rfl, ⟨_, ha, rfl, _, rfl⟩, hi, hs⟩
theorem shown_pos {n : Int} (h : 0 < n) : Str.ofString "True" = (Th.b (decide (0 < n))).shown := by rw [decide_eq_true h]; rfl
theorem shown_neg {n : Int} (h : ¬ 0 < n) : Str.ofString "False" = (Th.b (decide (0 < n))).shown := by rw [decide_eq_false h]; rfl
theorem dct_at {prog : Program} {w : World} {g : Heap} {a : Addr} {o : Obj} {t1 t2 : Tok} (hd : o.IsDictOf (PySem.strKind prog w) (strPairs [(.str "j" t1, .int 2 t2)])) (ha : g.get? a = some o) (lo : (a == sysModules) = false) : IsTh g (.ref a) .dct := by
  obtain ⟨es, ep, hx, hdat, _, hp, _⟩ := hd
  obtain ⟨es⟩ := es
  cases es with
  | nil => cases hp
  | cons e es =>
    obtain ⟨hs, ky, vl⟩ := e
    cases hp with
    | cons h1 h2 h3 =>
      cases es with
      | cons _ _ => cases h3
      | nil =>
        obtain ⟨t, e⟩ := Value.isStrOf_shape h1
        dsimp only at e h2
        subst e h2
        exact .dct ha hx.1 hdat lo
theorem newAt {h₀ h' g' : Heap} {L a : Addr} {o : Obj} {news : List (Addr × Obj)} (N : News h₀ L h' news) (hg : ∀ a o, h₀.get? a = none → h'.get? a = some o → g'.get? a = some o) (hm : (a, o) ∈ news) : g'.get? a = some o := hg _ _ (N _ hm).2.2 (N _ hm).1
/-- the ten texts, their tokens told -/
def Ten (its : Array Value) : Prop := ∀ k : Nat, k < 10 → ∃ t, its[k]? = some (.str (thTexts.getD k Str.empty) t) ∧ t ≠ 0
theorem Ten.mk {t0 t1 t2 t3 t4 t5 t6 t7 t8 t9 : Tok} (h : t0 ≠ 0 ∧ t1 ≠ 0 ∧ t2 ≠ 0 ∧ t3 ≠ 0 ∧ t4 ≠ 0 ∧ t5 ≠ 0 ∧ t6 ≠ 0 ∧ t7 ≠ 0 ∧ t8 ≠ 0 ∧ t9 ≠ 0) : Ten #[.str "a" t0, .str "" t1, .str "b c" t2, .str "-d" t3, .str "/" t4, .str ", " t5, .str "{e}" t6, .str "f[, g]" t7, .str "==SUPPRESS==" t8, .str "None" t9]
  | 0, _ => ⟨_, rfl, h.1⟩
  | 1, _ => ⟨_, rfl, h.2.1⟩
  | 2, _ => ⟨_, rfl, h.2.2.1⟩
  | 3, _ => ⟨_, rfl, h.2.2.2.1⟩
  | 4, _ => ⟨_, rfl, h.2.2.2.2.1⟩
  | 5, _ => ⟨_, rfl, h.2.2.2.2.2.1⟩
  | 6, _ => ⟨_, rfl, h.2.2.2.2.2.2.1⟩
  | 7, _ => ⟨_, rfl, h.2.2.2.2.2.2.2.1⟩
  | 8, _ => ⟨_, rfl, h.2.2.2.2.2.2.2.2.1⟩
  | 9, _ => ⟨_, rfl, h.2.2.2.2.2.2.2.2.2⟩
theorem item10 {prog : Program} {w : World} {A : Around} {E : Value → Shared → Prop} {s : Shared} {value slice : PySem.Expr} {l : Addr} {its : Array Value} {k : Int} {u : Tok} {Q : Value → Shared → Prop}
    (hl : s.heap.IsList l its) (h : Ten its) (hk0 : 0 ≤ k) (hk : k < 10) (hq : ∀ t, t ≠ 0 → Q (.str (thTexts.getD k.toNat Str.empty) t) s)
    (hs : subscripted slice false (.ref l) (.int k u) = operate [.ref l, .int k u] (getItem (.ref l) (.int k u)) := by with_unfolding_all rfl) :
    wpAny (model prog w) A (subscriptTail value slice (.ref l) (.int k u)) Q E s := by
  obtain ⟨t, h1, h2⟩ := h k.toNat (by omega)
  exact item_at hl hk0 (by omega) h1 (hq t h2) hs
noncomputable abbrev envT (L : Addr) : Env := envOf (Str.ofString "_law_thing") (scopeOf (lawD 11)) L 91 (.ref 90)
def TenIs (g : Heap) (L : Addr) (s : Shared) (m : Str → Option Value) (f : Flow) (s' : Shared) : Prop :=
  f = .next ∧ ∃ h' tk D its kD, s' = { s with heap := h', toks := tk } ∧ Fr g L h' (fun y => if y = Str.ofString "texts" then some (.ref D) else m y) ∧ News g L h' [(D, W.listOf its kD)] ∧ Ten its
theorem TenIs.intro {g h' : Heap} {L D : Addr} {s : Shared} {m : Str → Option Value} {tk kD : Nat} {its : Array Value} (F : Fr g L h' (fun y => if y = Str.ofString "texts" then some (.ref D) else m y)) (N : News g L h' [(D, W.listOf its kD)]) (t : Ten its) : TenIs g L s m .next { s with heap := h', toks := tk } := ⟨rfl, _, _, _, _, _, rfl, F, N, t⟩
def StepIs (g : Heap) (L : Addr) (s : Shared) (m : Str → Option Value) (f : Flow) (s' : Shared) : Prop :=
  f = .next ∧ ∃ h' tk, s' = { s with heap := h', toks := tk } ∧ Fr g L h' m
theorem StepIs.intro {g h' : Heap} {L : Addr} {s : Shared} {m : Str → Option Value} {tk : Nat} (F : Fr g L h' m) : StepIs g L s m .next { s with heap := h', toks := tk } := ⟨rfl, _, _, rfl, F⟩
/-- a statement that hands back the pair -/
def PairIs (g : Heap) (s : Shared) (th : Th) (f : Flow) (s' : Shared) : Prop :=
  ∃ v h' tk, f = .ret v ∧ s' = { s with heap := h', toks := tk } ∧ g.StaysIn h' ∧ PairNew g h' v th
theorem PairIs.intro {g h' : Heap} {L : Addr} {s : Shared} {th : Th} {v : Value} {tk : Nat} {m : Str → Option Value} {news : List (Addr × Obj)} (F : Fr g L h' m) (_N : News g L h' news) (p : PairNew g h' v th) : PairIs g s th (.ret v) { s with heap := h', toks := tk } := ⟨v, h', tk, rfl, rfl, F.keep, p⟩
section
variable {w : World} {dp un : Nat} {outer : List Env} {gd : Option (List Code)} {base g : Heap} {s : Shared} {k n : Int} {tk tn : Tok} {L D : Addr} {its : Array Value} {kD : Nat} {m : Str → Option Value}
theorem thing0 {st : Stmt} (hst : st = stOf 11 0) (X : (Mine.hd.heap_39 w.params).In g) (TT : TopH g) (hpos : 0 < s.toks) (F : Fr g L s.heap m) :
   wpAny (model P w) ((AA dp outer gd un).deeper (envT L)) (exec st (envT L)) (TenIs g L s m) (fun _ _ => False) s := by
  subst hst
  obtain ⟨mean, mg, mb, T⟩ := TT
  have N := nilAt F
  unfold envT
  conv in (stOf _ _) => whnf
  conv in (occs := *) (scopeOf _) => all_goals whnf
  show wpAny (model P w) _ _ _ _ _
  k_fold
  (repeat' (((first | ((fail_if_success (with_reducible show wpAny _ _ (exec (Stmt.While _ _ _ _) _) _ _ _)); (fail_if_success (with_reducible show wpAny _ _ (exec (Stmt.For _ _ _ _ _) _) _ _ _)); (fail_if_success (with_reducible show wpAny _ _ (eval (PySem.Expr.ListComp _ _ _ _) _) _ _ _)); (fail_if_success (with_reducible show wpAny _ _ (exec (PySem.Stmt.Assign _ (PySem.Expr.ListComp _ _ _ _) _) _) _ _ _)); (fail_if_success (with_reducible show wpAny _ _ (call (Value.ref _) _) _ _ _)); (fail_if_success (with_reducible show wpAny _ _ (pyIter (Value.ref _)) _ _ _)); (fail_if_success (show LCg.CompSrc _ _ _ _ _ _ _ _ _ _ _ _ _ _)); first | (k_unfold; (try dsimp only)) | (k_end; wrow_close) | walk1 | (dsimp only; walk1) | (leave1; (try dsimp only)))))))
  exact TenIs.intro (by assumption) (by assumption) (Ten.mk ⟨Nat.ne_of_gt hpos, Nat.succ_ne_zero _, Nat.succ_ne_zero _, Nat.succ_ne_zero _, Nat.succ_ne_zero _, Nat.succ_ne_zero _, Nat.succ_ne_zero _, Nat.succ_ne_zero _, Nat.succ_ne_zero _, Nat.succ_ne_zero _⟩)
theorem thing1 {st : Stmt} (hst : st = stOf 11 1) (X : (Mine.hd.heap_39 w.params).In g) (TT : TopH g) (hk0 : 0 ≤ k) (hk : k < 10) (ht : Ten its)
   (F : Fr g L s.heap (fun y => if y = Str.ofString "texts" then some (.ref D) else List.lookup y ((Str.ofString "n", .int n tn) :: (Str.ofString "k", .int k tk) :: []))) (N : News g L s.heap [(D, W.listOf its kD)]) :
   wpAny (model P w) ((AA dp outer gd un).deeper (envT L)) (exec st (envT L)) (PairIs g s (thOf k.toNat n)) (fun _ _ => False) s := by
  subst hst
  obtain ⟨mean, mg, mb, T⟩ := TT
  unfold envT
  conv in (stOf _ _) => whnf
  conv in (occs := *) (scopeOf _) => all_goals whnf
  show wpAny (model P w) _ _ _ _ _
  k_fold
  (repeat' (first | ((((with_reducible show wpAny _ _ (subscriptTail _ _ (Value.ref _) (Value.int _ _)) _ _ _); refine Mine.item10 (by (first | assumption | exact News.isList (by assumption) (by k_mem) | exact stays_list (Fr.keep (by assumption)) (by assumption) | exact stays_list (Fr.keep (by assumption)) (stays_list (Fr.keep (by assumption)) (by assumption)))) (by with_reducible assumption) (by with_reducible assumption) (by with_reducible assumption) ?_ (by with_unfolding_all rfl); intro t9q796 ht9q796))) | (((first | ((fail_if_success (with_reducible show wpAny _ _ (exec (Stmt.While _ _ _ _) _) _ _ _)); (fail_if_success (with_reducible show wpAny _ _ (exec (Stmt.For _ _ _ _ _) _) _ _ _)); (fail_if_success (with_reducible show wpAny _ _ (eval (PySem.Expr.ListComp _ _ _ _) _) _ _ _)); (fail_if_success (with_reducible show wpAny _ _ (exec (PySem.Stmt.Assign _ (PySem.Expr.ListComp _ _ _ _) _) _) _ _ _)); (fail_if_success (with_reducible show wpAny _ _ (call (Value.ref _) _) _ _ _)); (fail_if_success (with_reducible show wpAny _ _ (pyIter (Value.ref _)) _ _ _)); (fail_if_success (show LCg.CompSrc _ _ _ _ _ _ _ _ _ _ _ _ _ _)); first | (k_unfold; (try dsimp only)) | (k_end; wrow_close) | walk1 | (dsimp only; walk1) | (leave1; (try dsimp only))))))))
  refine PairIs.intro (by assumption) (by assumption) ?_
  rename News _ _ _ _ => N9
  intro g' hg
  rw [thOf_lt (by omega)]
  exact ⟨_, _, _, rfl, ⟨_, newAt N9 hg (.head _), rfl, _, rfl⟩, .s _ _, .str (by assumption)⟩
theorem thing1n {st : Stmt} (hst : st = stOf 11 1) (X : (Mine.hd.heap_39 w.params).In g) (TT : TopH g) (hk : ¬ k < 10)
   (F : Fr g L s.heap (fun y => if y = Str.ofString "texts" then some (.ref D) else List.lookup y ((Str.ofString "n", .int n tn) :: (Str.ofString "k", .int k tk) :: []))) :
   wpAny (model P w) ((AA dp outer gd un).deeper (envT L)) (exec st (envT L)) (StepIs g L s (fun y => if y = Str.ofString "texts" then some (.ref D) else List.lookup y ((Str.ofString "n", .int n tn) :: (Str.ofString "k", .int k tk) :: []))) (fun _ _ => False) s := by
  subst hst
  obtain ⟨mean, mg, mb, T⟩ := TT
  have N := nilAt F
  unfold envT
  conv in (stOf _ _) => whnf
  conv in (occs := *) (scopeOf _) => all_goals whnf
  show wpAny (model P w) _ _ _ _ _
  k_fold
  (repeat' (((first | ((fail_if_success (with_reducible show wpAny _ _ (exec (Stmt.While _ _ _ _) _) _ _ _)); (fail_if_success (with_reducible show wpAny _ _ (exec (Stmt.For _ _ _ _ _) _) _ _ _)); (fail_if_success (with_reducible show wpAny _ _ (eval (PySem.Expr.ListComp _ _ _ _) _) _ _ _)); (fail_if_success (with_reducible show wpAny _ _ (exec (PySem.Stmt.Assign _ (PySem.Expr.ListComp _ _ _ _) _) _) _ _ _)); (fail_if_success (with_reducible show wpAny _ _ (call (Value.ref _) _) _ _ _)); (fail_if_success (with_reducible show wpAny _ _ (pyIter (Value.ref _)) _ _ _)); (fail_if_success (show LCg.CompSrc _ _ _ _ _ _ _ _ _ _ _ _ _ _)); first | (k_unfold; (try dsimp only)) | (k_end; wrow_close) | walk1 | (dsimp only; walk1) | (leave1; (try dsimp only)))))))
  exact StepIs.intro (by assumption)
theorem thing2 {st : Stmt} (hst : st = stOf 11 2) (X : (Mine.hd.heap_39 w.params).In g) (TT : TopH g) (B : Below (AA dp outer gd un) base outer g) (hd : dp + 20 < recursionLimit) (hu : un + 200 < cLine) (htn : tn ≠ 0) (hk : ¬ k < 10) (hk1 : k < 16) (h1 : -99 ≤ n) (h2 : n ≤ 99)
   (F : Fr g L s.heap (fun y => if y = Str.ofString "texts" then some (.ref D) else List.lookup y ((Str.ofString "n", .int n tn) :: (Str.ofString "k", .int k tk) :: []))) :
   wpAny (model P w) ((AA dp outer gd un).deeper (envT L)) (exec st (envT L)) (PairIs g s (thOf k.toNat n)) (fun _ _ => False) s := by
  subst hst
  obtain ⟨mean, mg, mb, T⟩ := TT
  have N := nilAt F
  unfold envT
  conv in (stOf _ _) => whnf
  conv in (occs := *) (scopeOf _) => all_goals whnf
  show wpAny (model P w) _ _ _ _ _
  k_fold
  (repeat' (((first | ((fail_if_success (with_reducible show wpAny _ _ (exec (Stmt.While _ _ _ _) _) _ _ _)); (fail_if_success (with_reducible show wpAny _ _ (exec (Stmt.For _ _ _ _ _) _) _ _ _)); (fail_if_success (with_reducible show wpAny _ _ (eval (PySem.Expr.ListComp _ _ _ _) _) _ _ _)); (fail_if_success (with_reducible show wpAny _ _ (exec (PySem.Stmt.Assign _ (PySem.Expr.ListComp _ _ _ _) _) _) _ _ _)); (fail_if_success (with_reducible show wpAny _ _ (call (Value.ref _) _) _ _ _)); (fail_if_success (with_reducible show wpAny _ _ (pyIter (Value.ref _)) _ _ _)); (fail_if_success (show LCg.CompSrc _ _ _ _ _ _ _ _ _ _ _ _ _ _)); first | (k_unfold; (try dsimp only)) | (k_end; wrow_close) | walk1 | (dsimp only; walk1) | (leave1; (try dsimp only)))))))
  ((refine' Mine.call_at (by assumption) (by assumption) (by assumption) (by rfl) (by rfl) (fun BB => Mine.law_figures ?Xq803 ?Tq803 BB ?hdq803 ?huq803 ?hlq803 ?hiq803) ?_; (case Xq803 => (first | (with_reducible assumption) | exact Frag.In.keeps (by assumption) (Fr.keep (by assumption)) | exact ⟨_, _, _, Top.keeps (by assumption) (Fr.keep (by assumption))⟩)); (case Tq803 => (first | (with_reducible assumption) | exact Frag.In.keeps (by assumption) (Fr.keep (by assumption)) | exact ⟨_, _, _, Top.keeps (by assumption) (Fr.keep (by assumption))⟩)); (case hdq803 => exact Mine.room1 (by assumption) rfl); (case huq803 => exact Mine.room3 (by assumption) rfl); (case hlq803 => assumption); (case hiq803 => assumption); (rintro v2q803 h2q803 tk2q803 F2q803 N2q803 st2q803 ⟨t2q803, hv2q803⟩); subst hv2q803))
  (repeat' (((first | ((fail_if_success (with_reducible show wpAny _ _ (exec (Stmt.While _ _ _ _) _) _ _ _)); (fail_if_success (with_reducible show wpAny _ _ (exec (Stmt.For _ _ _ _ _) _) _ _ _)); (fail_if_success (with_reducible show wpAny _ _ (eval (PySem.Expr.ListComp _ _ _ _) _) _ _ _)); (fail_if_success (with_reducible show wpAny _ _ (exec (PySem.Stmt.Assign _ (PySem.Expr.ListComp _ _ _ _) _) _) _ _ _)); (fail_if_success (with_reducible show wpAny _ _ (call (Value.ref _) _) _ _ _)); (fail_if_success (with_reducible show wpAny _ _ (pyIter (Value.ref _)) _ _ _)); (fail_if_success (show LCg.CompSrc _ _ _ _ _ _ _ _ _ _ _ _ _ _)); first | (k_unfold; (try dsimp only)) | (k_end; wrow_close) | walk1 | (dsimp only; walk1) | (leave1; (try dsimp only)))))))
  all_goals refine PairIs.intro (by assumption) (by assumption) ?_
  all_goals rename News _ _ _ _ => N9
  all_goals (rename (k - 10 = _) => hk; rw [thOf_at hk]; intro g' hg)
  all_goals first
    | exact pair_mk (newAt N9 hg (by k_mem)) rfl (.n _ _) (.int htn)
    | exact pair_mk (newAt N9 hg (by k_mem)) rfl .none .none
    | (rename (0 : Int) < n => hp; exact pair_mk (newAt N9 hg (by k_mem)) (shown_pos hp) (.b _) .bool)
    | (rename ¬ (0 : Int) < n => hp; exact pair_mk (newAt N9 hg (by k_mem)) (shown_neg hp) (.b _) .bool)
    | exact pair_mk (newAt N9 hg (by k_mem)) rfl (.lst (newAt N9 hg (by k_mem)) rfl rfl) .ref
    | exact pair_mk (newAt N9 hg (by k_mem)) rfl (.tup ⟨_, newAt N9 hg (by k_mem), rfl, _, rfl⟩) .ref
    | exact pair_mk (newAt N9 hg (by k_mem)) rfl (dct_at (by assumption) (newAt N9 hg (by k_mem)) (by assumption)) .ref
end

end
section

section
variable {w : World} {dp un : Nat} {outer : List Env} {gd : Option (List Code)} {base g : Heap} {s : Shared} {k n : Int} {tk tn : Tok} {L D : Addr} {its : Array Value} {kD : Nat} {m : Str → Option Value}
theorem PairIs.ret {th : Th} {f : Flow} {s' : Shared} {h1 : Heap} {t1 : Nat} (p : PairIs s.heap { s with heap := h1, toks := t1 } th f s') : Ret s (fun v h' => PairNew s.heap h' v th) (.ok (.ret (match f with | .ret v => v | _ => .none))) s' := by
  obtain ⟨v, h', tk, rfl, rfl, st, p⟩ := p
  exact ⟨v, h', tk, rfl, rfl, st, p⟩
theorem law_thing (X : (Mine.hd.heap_39 w.params).In s.heap) (T : TopH s.heap) (B : Below (AA dp outer gd un) base outer s.heap) (hd : dp + 20 < recursionLimit) (hu : un + 200 < cLine)
   (htn : tn ≠ 0) (hk0 : 0 ≤ k) (hk1 : k < 16) (h1 : -99 ≤ n) (h2 : n ≤ 99) :
   codeAny (model P w) (AA dp outer gd un) (.call (.ref 91) ⟨[.int k tk, .int n tn], []⟩) (Ret s fun v h' => PairNew s.heap h' v (thOf k.toNat n)) s := by
  refine' Mine.enter (binds := [(Str.ofString "k", .int k tk), (Str.ofString "n", .int n tn)]) X T ?k6 ?k7 ?k8 ?k9 ?kB ?_ ?c2 ?c3 ?c4 ?c5
  (((case k6 => k_is); (case k7 => k_is); (case k8 => exact Mine.room0 (by assumption)); (case k9 => exact BindsTo.of_eq rfl); (case kB => exact locs rfl); (case c5 => decide); (case c2 => rfl); (case c3 => rfl); (case c4 => rfl); intro L'q808 h₁q808 meanq808 mgq808 mbq808 Fq808 Nq808 T'q808; dsimp only [List.reverse, List.reverseAux, List.length] at Fq808 ⊢))
  rename Fr _ _ _ _ => F
  show wpAny (model P w) ((AA dp outer gd un).deeper (envT _)) (execs [stOf 11 0, stOf 11 1, stOf 11 2] (envT _)) _ _ _
  generalize e0 : stOf 11 0 = st0
  generalize e1 : stOf 11 1 = st1
  generalize e2 : stOf 11 2 = st2
  refine wpAny_execs_cons (wpAny_mono (thing0 (w := w) e0.symm X T ?hp F) ?_ fun _ _ e => e)
  case hp => exact Nat.succ_pos _
  rintro f s' ⟨rfl, h3, tk3, D, its, kD, rfl, F3, N3, ht⟩
  by_cases hk : k < 10
  · refine wpAny_execs_cons (wpAny_mono (thing1 (w := w) e1.symm X T hk0 hk ht F3 N3) ?_ fun _ _ e => e)
    rintro f s' hp
    have := hp.ret
    obtain ⟨v, h', tk, rfl, rfl, st, p⟩ := hp
    exact this
  · refine wpAny_execs_cons (wpAny_mono (thing1n (w := w) e1.symm X T hk F3) ?_ fun _ _ e => e)
    rintro f s' ⟨rfl, h4, tk4, rfl, F4⟩
    refine wpAny_execs_cons (wpAny_mono (thing2 (w := w) e2.symm X T B hd hu htn hk hk1 h1 h2 F4) ?_ fun _ _ e => e)
    rintro f s' hp
    have := hp.ret
    obtain ⟨v, h', tk, rfl, rfl, st, p⟩ := hp
    exact this
end

end
section
/-- a comprehension over a range, by an invariant over what it has made -/
theorem comp_rng {prog : Program} {w : World} {A : Around} {h₀ : Heap} {L : Addr} {m : Str → Option Value} {env : Env} {elt : PySem.Expr} {x : Str} {scope : Scope} {cl : List (Str × Addr)} {Fin : Shared → List Value → List (Addr × Obj) → Prop} {r : Addr} {b : Int} {t u v : Tok} {n : Nat} {act Z₀ : List (Addr × Obj)} {s₁ : Shared}
    (Inv : Nat → List Value → List (Addr × Obj) → Prop)
    (hh : A.handled = none) (F : Fr h₀ L s₁.heap m) (N : News h₀ L s₁.heap (act ++ Z₀)) (hr : IsRange s₁.heap r 0 b 1 t u v) (hsm : Builtin.Range.small 0 b 1 = true) (hn : Builtin.Range.rangeSize 0 b 1 = ((n : Nat) : Int)) (hsz : n ≤ 100000) (h0 : Inv 0 [] Z₀)
    (turn : ∀ g i t I oI C oC D m₂ ys Z h tk (E' : Value → Shared → Prop), i < n → LCg.NsObj oC m₂ → m₂ x = some (.int (0 + (i : Int)) t) → Fr h₀ L h m → News h₀ L h ((I, oI) :: (C, oC) :: (D, LCg.lst ys) :: (act ++ Z)) → LCg.Off3 I C D act → ((@Ne Nat I C) ∧ (@Ne Nat I D) ∧ (@Ne Nat C D)) → Inv i ys Z →
      wpAny (model prog w) A (eval elt (compEnvC scope cl C env)) (CTurn h₀ L m { s₁ with heap := h, toks := tk, gens := g } [(I, oI), (C, oC), (D, LCg.lst ys)] act Z (fun y Z' => Inv (i + 1) (ys ++ [y]) Z')) E' { s₁ with heap := h, toks := tk, gens := g })
    (fin : ∀ g ys Z, ys.length = n → Inv n ys Z → Fin { s₁ with heap := g } ys (act ++ Z)) :
    LCg.CompSrc prog w A h₀ L m env elt x scope cl Fin (.ref r) s₁ := by
  refine LCg.CompSrc.range (n := n) hh F N hr hsm hn (by rw [sizeLine_eq]; omega) fun g => ?_
  have key : ∀ (j i : Nat) (ys : List Value) (Z : List (Addr × Obj)), i + j = n → ys.length = i → Inv i ys Z →
      LCg.CompRest prog w A h₀ L m env elt x scope cl { s₁ with heap := g } (fun _ => True) (fun i v => ∃ t, v = .int (0 + (i : Int)) t) (Fin { s₁ with heap := g }) j i ys (act ++ Z) := by
    intro j
    induction j with
    | zero =>
      intro i ys Z hi hl hI
      obtain rfl : i = n := by omega
      exact LCg.CompRest.zero (fin g ys Z hl hI)
    | succ j ih =>
      intro i ys Z hi hl hI
      refine LCg.CompRest.succ ?_
      rintro v I oI C oC D m₂ h tk E' ⟨t, rfl⟩ hC hx F N off ne
      refine wpAny_mono (turn _ i t I oI C oC D m₂ ys Z h tk E' (by omega) hC hx F N (LCg.Off3.of fun p hp => LCg.Off3.mem off p (List.mem_append_left _ hp)) ne hI) (fun y s₂ hq => ?_) fun _ _ e => e
      obtain ⟨h', tk', Z', e, F', N', hZ, hI'⟩ := hq
      refine ⟨h', tk', act ++ Z', e, F', N', ?_, trivial, ih (i + 1) _ _ (by omega) (by simp [hl]) hI'⟩
      refine LCg.Off3.of fun p hp => ?_
      rcases List.mem_append.mp hp with hp | hp
      · exact LCg.Off3.mem off p (List.mem_append_left _ hp)
      rcases hZ p hp with hp | hp
      · exact LCg.Off3.mem off p (List.mem_append_right _ hp)
      · have hp' : h.get? p.1 = none := hp
        have far : ∀ (q : Addr × Obj), q ∈ (I, oI) :: (C, oC) :: (D, LCg.lst ys) :: (act ++ Z) → p.1 ≠ q.1 := fun q hq e => by
          have := (N q hq).1
          rw [← e, hp'] at this; cases this
        exact ⟨far _ (.head _), far _ (.tail _ (.head _)), far _ (.tail _ (.tail _ (.head _)))⟩
  exact key n 0 [] Z₀ (by omega) rfl h0
/-- a pair, its objects in a ledger -/
def PairVia (Z : List (Addr × Obj)) (v : Value) (th : Th) : Prop := ∀ g : Heap, (∀ p ∈ Z, g.get? p.1 = some p.2) → PairAt g v th
theorem PairVia.more {Z Z' : List (Addr × Obj)} {v : Value} {th : Th} (p : PairVia Z v th) (hs : ∀ q ∈ Z, q ∈ Z') : PairVia Z' v th := fun g hg => p g fun q hq => hg q (hs q hq)
theorem PairNew.via {h h' : Heap} {v : Value} {th : Th} (p : PairNew h h' v th) : PairVia (freshOf h h') v th := fun g hg => p g fun _ _ e e' => hg _ (fresh_mem e e')
inductive PairsVia (Z : List (Addr × Obj)) : List Value → List Th → Prop
  | nil : PairsVia Z [] []
  | cons {v th vs ths} : PairVia Z v th → PairsVia Z vs ths → PairsVia Z (v :: vs) (th :: ths)
theorem PairsVia.more {Z Z' : List (Addr × Obj)} {vs : List Value} {ths : List Th} (p : PairsVia Z vs ths) (hs : ∀ q ∈ Z, q ∈ Z') : PairsVia Z' vs ths := by
  induction p with
  | nil => exact .nil
  | cons a _ ih => exact .cons (a.more hs) ih
theorem PairsVia.snoc {Z : List (Addr × Obj)} {vs : List Value} {ths : List Th} {v : Value} {th : Th} (p : PairsVia Z vs ths) (q : PairVia Z v th) : PairsVia Z (vs ++ [v]) (ths ++ [th]) := by
  induction p with
  | nil => exact .cons q .nil
  | cons a _ ih => exact .cons a ih
theorem PairsVia.length {Z : List (Addr × Obj)} {vs : List Value} {ths : List Th} (p : PairsVia Z vs ths) : vs.length = ths.length := by
  induction p with
  | nil => rfl
  | cons _ _ ih => simp [ih]
theorem PairsVia.at {Z : List (Addr × Obj)} {vs : List Value} {ths : List Th} (p : PairsVia Z vs ths) : ∀ (k : Nat) (v : Value), vs[k]? = some v → ∃ th, ths[k]? = some th ∧ PairVia Z v th := by
  induction p with
  | nil => intro k v h; simp at h
  | cons a _ ih =>
    intro k v h
    cases k with
    | zero => simp at h; subst h; exact ⟨_, rfl, a⟩
    | succ k => simpa using ih k v (by simpa using h)

end
section
theorem keepOnly_mem {h : Heap} {Z : List (Addr × Obj)} {a : Addr} {o : Obj} (k : ∀ p ∈ Z, h.get? p.1 = some p.2) (e : (keepOnly h fun a => Z.any fun p => p.1 == a).get? a = some o) : (a, o) ∈ Z := by
  obtain ⟨e1, e2⟩ := keepOnly_of e
  obtain ⟨p, hp, hx⟩ := List.any_eq_true.mp e2
  obtain rfl : p.1 = a := by simpa using hx
  rw [k p hp] at e1
  cases e1
  exact hp
/-- a value that is the thing in any heap that holds the ledger -/
def ThVia (Z : List (Addr × Obj)) (v : Value) (th : Th) : Prop := Solid v ∧ ∀ g : Heap, (∀ p ∈ Z, g.get? p.1 = some p.2) → IsTh g v th
theorem PairVia.open {h : Heap} {Z : List (Addr × Obj)} {v : Value} {th : Th} (p : PairVia Z v th) (k : ∀ p ∈ Z, h.get? p.1 = some p.2) :
    ∃ a o tv t n, v = .ref a ∧ (a, o) ∈ Z ∧ o.cls = .type "tuple" ∧ o.data = .seq #[tv, .str th.shown t] n ∧ ThVia Z tv th := by
  obtain ⟨a, tv, t, rfl, ⟨o, ho, hc, n, hd⟩, hi, hs⟩ := p _ fun q hq => keepOnly_get (p := fun a => Z.any fun p => p.1 == a) (k q hq) (List.any_eq_true.mpr ⟨q, hq, by simp⟩)
  refine ⟨a, o, tv, t, n, rfl, keepOnly_mem k ho, hc, hd, hs, fun g hg => ?_⟩
  obtain ⟨a', tv', t', e, ⟨o', ho', _, n', hd'⟩, hi', _⟩ := p g hg
  cases e
  rw [hg _ (keepOnly_mem k ho)] at ho'
  cases ho'
  rw [hd] at hd'
  cases hd'
  exact hi'
/-- a comprehension over pairs, by an invariant -/
theorem comp_pair {prog : Program} {w : World} {A : Around} {h₀ : Heap} {L : Addr} {m : Str → Option Value} {env : Env} {elt : PySem.Expr} {x x₂ : Str} {scope : Scope} {cl : List (Str × Addr)} {Fin : Shared → List Value → List (Addr × Obj) → Prop} {ax : Addr} {ys : List Value} {ths : List Th} {act Z : List (Addr × Obj)} {s₁ : Shared}
    (Inv : Nat → List Value → Prop)
    (hh : A.handled = none) (F : Fr h₀ L s₁.heap m) (N : News h₀ L s₁.heap ((ax, LCg.lst ys) :: (act ++ Z))) (hp : PairsVia Z ys ths) (hsz : ths.length ≤ 4) (h0 : Inv 0 [])
    (turn : ∀ g i th v t I oI C oC D m₂ zs h tk (E' : Value → Shared → Prop), ths[i]? = some th → ThVia Z v th → LCg.NsObj oC m₂ → m₂ x = some v → m₂ x₂ = some (.str th.shown t) → Fr h₀ L h m → News h₀ L h ((I, oI) :: (C, oC) :: (D, LCg.lst zs) :: (ax, LCg.lst ys) :: (act ++ Z)) → LCg.Off3 I C D ((ax, LCg.lst ys) :: (act ++ Z)) → ((@Ne Nat I C) ∧ (@Ne Nat I D) ∧ (@Ne Nat C D)) → Inv i zs →
      wpAny (model prog w) A (eval elt (compEnvC scope cl C env)) (LCg.CompEnd h₀ L m { s₁ with heap := h, toks := tk, gens := g } I oI C oC D (LCg.lst zs) (LCg.SrcAt h₀ ax ys.toArray) (fun y news' => news' = (ax, LCg.lst ys) :: (act ++ Z) ∧ Inv (i + 1) (zs ++ [y]))) E' { s₁ with heap := h, toks := tk, gens := g })
    (fin : ∀ g zs, Inv ths.length zs → Fin { s₁ with heap := g } zs ((ax, LCg.lst ys) :: (act ++ Z))) :
    LCp.SrcLP prog w A h₀ L m env elt x x₂ scope cl Fin (.ref ax) s₁ := by
  have hlen := hp.length
  refine LCp.SrcLP.ledger (its := ys.toArray) (k := ys.length) hh F N (.head _) (by rw [sizeLine_eq, List.size_toArray]; omega) fun g => ?_
  have key : ∀ (j i : Nat) (zs : List Value), i + j = ys.toArray.size → Inv i zs →
      LCp.CompRestP prog w A h₀ L m env elt x x₂ scope cl { s₁ with heap := g } (LCg.SrcAt h₀ ax ys.toArray) (fun i v => ys.toArray[i]? = some v) (Fin { s₁ with heap := g }) j i zs ((ax, LCg.lst ys) :: (act ++ Z)) := by
    intro j
    induction j with
    | zero =>
      intro i zs hi hI
      obtain rfl : i = ths.length := by rw [List.size_toArray] at hi; omega
      exact LCp.CompRestP.zero (fin g zs hI)
    | succ j ih =>
      intro i zs hi hI
      refine LCp.CompRestP.succ ?_
      intro v hv
      obtain ⟨th, hth, pv⟩ := hp.at i v (by simpa using hv)
      obtain ⟨a, o, tv, t, n, rfl, hm, hc, hd, tvia⟩ := pv.open fun p hp => (N p (.tail _ (List.mem_append_right _ hp))).1
      refine ⟨a, o, tv, _, n, rfl, .tail _ (List.mem_append_right _ hm), hc, hd, ?_⟩
      intro I oI C oC D m₂ h tk E' hC hx hx2 F1 N1 off ne
      refine wpAny_mono (turn _ i th tv t I oI C oC D m₂ zs h tk E' hth tvia hC hx hx2 F1 N1 off ne hI) (fun y s₂ hq => ?_) fun _ _ e => e
      obtain ⟨h', tk', nw, e, F', N', off', hS, rfl, hI'⟩ := hq
      exact ⟨h', tk', _, e, F', N', off', hS, ih (i + 1) _ (by omega) hI'⟩
  exact key ys.toArray.size 0 [] (by omega) h0
inductive ThsVia (Z : List (Addr × Obj)) : List Value → List Th → Prop
  | nil : ThsVia Z [] []
  | cons {v th vs ths} : ThVia Z v th → ThsVia Z vs ths → ThsVia Z (v :: vs) (th :: ths)
theorem ThsVia.snoc {Z : List (Addr × Obj)} {vs : List Value} {ths : List Th} {v : Value} {th : Th} (p : ThsVia Z vs ths) (q : ThVia Z v th) : ThsVia Z (vs ++ [v]) (ths ++ [th]) := by
  induction p with
  | nil => exact .cons q .nil
  | cons a _ ih => exact .cons a ih
theorem ThsVia.are {Z : List (Addr × Obj)} {vs : List Value} {ths : List Th} {g : Heap} (p : ThsVia Z vs ths) (k : ∀ p ∈ Z, g.get? p.1 = some p.2) : ThsAre g vs ths := by
  induction p with
  | nil => exact .nil
  | cons a _ ih => exact .cons (a.2 g k) ih
theorem ths_snoc {ths : List Th} {i : Nat} {th : Th} (h : ths[i]? = some th) : ths.take (i + 1) = ths.take i ++ [th] := by
  rw [List.take_add_one, h]; rfl

end
section
/-- a call whose callees may have raised, from the lowest frame, whatever its env -/
theorem call_S0X {w : World} {A₀ : Around} {dp un : Nat} {gd : Option (List Code)} {base h₀ : Heap} {env : Env} {L : Addr} {s : Shared} {E : Value → Shared → Prop} {Q : Value → Shared → Prop} {m : Str → Option Value} {news : List (Addr × Obj)} {f : Value} {args : List Value} {Post : Value → Heap → Prop}
    (hf : env.frame = some L) (B : Below A₀ base [] h₀) (D : Gnd w base [] h₀) (F : Fr h₀ L s.heap m) (N : News h₀ L s.heap news) (hA : A₀ = AA dp [] gd un) (hk : env.scope.kind = .function)
    (hc : Below (A₀.deeper env) base [env] s.heap → Gnd w base [env] s.heap → codeAny (model P w) (A₀.deeper env) (.call f ⟨args, []⟩) (RetS (framesOf [env]) s Post) s)
    (h : ∀ v h' tk, Fr h₀ L h' m → News h₀ L h' news → Post v h' → Q v { s with heap := h', toks := tk }) :
    wpAny (model P w) (A₀.deeper env) (call f args) Q E s := by
  have fe : framesOf [env] = [L] := by simp [framesOf, hf]
  obtain ⟨oL, es, ep, hL, hLd, hLk, hLf⟩ := F.ns
  have D' : W.KtsDicts (framesOf [env]) s.heap := fun b hb => by
    rw [fe] at hb
    rw [List.mem_singleton.mp hb]
    exact ⟨oL, es, ep, hL, hLd⟩
  refine wpAny_call (codeAny_mono (hc (W.pushX B F hf hk) ⟨D.X, D.T, D'⟩) ?_)
  rintro r s' ⟨v, h', tk, rfl, rfl, ⟨G, T, S⟩, hp⟩
  rw [fe] at T
  have nL₀ : h₀.get? L = none := W.kts_self F
  have up : ∀ b o, b ≠ L → s.heap.get? b = some o → h'.get? b = some o := fun b o hb e => S _ _ (T.other b o e fun q => hb (List.mem_singleton.mp q))
  refine h v h' tk ⟨?_, fun b o e => up b o (fun q => by rw [q, nL₀] at e; cases e) (F.keep b o e), F.above⟩ (fun p hp => ⟨up _ _ (N p hp).2.1 (N p hp).1, (N p hp).2⟩) hp
  obtain ⟨sl, hs⟩ := T.up hL
  exact ⟨_, es, ep, S _ _ hs, hLd, hLk, hLf⟩

end
section

noncomputable abbrev envL (L a : Addr) (cd : Value) : Env := envOfC (Str.ofString "law") (scopeOf (lawD 15)) L a cd
/-- x and y are told -/
def XY (h₀ : Heap) (L : Addr) (s : Shared) (LED : List (Addr × Obj)) (m : Str → Option Value) (f : Flow) (s' : Shared) : Prop :=
  f = .next ∧ ∃ h' tk ox oy x y tx ty, s' = { s with heap := h', toks := tk } ∧ Fr h₀ L h' m ∧ News h₀ L h' (LED ++ [(L + 1 + 1, oy), (L + 1, ox)]) ∧ ox.data = .cell (some (.int x tx)) ∧ oy.data = .cell (some (.int y ty))
theorem XY.intro {h₀ h' : Heap} {L : Addr} {s : Shared} {LED news : List (Addr × Obj)} {m : Str → Option Value} {tk : Nat} {ox oy : Obj} {x y : Int} {tx ty : Tok} (F : Fr h₀ L h' m) (N : News h₀ L h' news) (hs : ∀ p ∈ LED ++ [(L + 1 + 1, oy), (L + 1, ox)], p ∈ news) (hx : ox.data = .cell (some (.int x tx))) (hy : oy.data = .cell (some (.int y ty))) : XY h₀ L s LED m .next { s with heap := h', toks := tk } :=
  ⟨rfl, h', tk, ox, oy, x, y, tx, ty, rfl, F, fun p hp => N p (hs p hp), hx, hy⟩
section
variable {w : World} {h₀ : Heap} {s : Shared} {L a D I le : Addr} {cd : Value} {ws : List Value} {ns : List Int} {kD : Nat} {oI oe ox oy : Obj} {vx vy : Option Value} {i : Nat} {tk : Tok} {m1 : Str → Option Value}
theorem lawb0 {st : Stmt} (hst : st = forSt 15 1 0) (X : (Mine.hd.heap_39 w.params).In h₀) (TT : TopH h₀) (hNums : IntsAre ws ns) (hlen : ns.length ≤ 67) (hi : 2 * i < ns.length)
   (F : Fr h₀ L s.heap (fun y => if y = Str.ofString "k" then some (.int (0 + (i : Int) * 2) tk) else if y = Str.ofString "numbers" then some (.ref D) else m1 y))
   (N : News h₀ L s.heap [(I, oI), (D, W.listOf ws.toArray kD), (le, oe), (L + 1 + 1, oy), (L + 1, ox)]) (hx : ox.data = .cell vx) (hy : oy.data = .cell vy)
   (n1 : @Ne Addr I (L + 1 + 1)) (n2 : @Ne Addr I (L + 1)) (n3 : @Ne Addr D (L + 1 + 1)) (n4 : @Ne Addr D (L + 1)) (n5 : @Ne Addr le (L + 1 + 1)) (n6 : @Ne Addr le (L + 1)) :
   wpAny (model P w) (callerA.deeper (envL L a cd)) (exec st (envL L a cd)) (XY h₀ L s [(I, oI), (D, W.listOf ws.toArray kD), (le, oe)] (fun y => if y = Str.ofString "k" then some (.int (0 + (i : Int) * 2) tk) else if y = Str.ofString "numbers" then some (.ref D) else m1 y)) (fun _ _ => False) s := by
  subst hst
  obtain ⟨mean, mg, mb, T⟩ := TT
  have hnl := hNums.length
  have hm0 : 0 ≤ (0 + (i : Int) * 2 + 1).fmod (ns.length : Int) := Int.fmod_nonneg_of_pos _ (by omega)
  have hm1 : (0 + (i : Int) * 2 + 1).fmod (ns.length : Int) < (ns.length : Int) := Int.fmod_lt_of_pos _ (by omega)
  unfold envL
  conv in (forSt _ _ _) => whnf
  conv in (occs := *) (scopeOf _) => all_goals whnf
  show wpAny (model P w) _ _ _ _ _
  k_fold
  (repeat' (((first | ((fail_if_success (with_reducible show wpAny _ _ (exec (Stmt.While _ _ _ _) _) _ _ _)); (fail_if_success (with_reducible show wpAny _ _ (exec (Stmt.For _ _ _ _ _) _) _ _ _)); (fail_if_success (with_reducible show wpAny _ _ (eval (PySem.Expr.ListComp _ _ _ _) _) _ _ _)); (fail_if_success (with_reducible show wpAny _ _ (exec (PySem.Stmt.Assign _ (PySem.Expr.ListComp _ _ _ _) _) _) _ _ _)); (fail_if_success (with_reducible show wpAny _ _ (call (Value.ref _) _) _ _ _)); (fail_if_success (with_reducible show wpAny _ _ (pyIter (Value.ref _)) _ _ _)); (fail_if_success (show LCg.CompSrc _ _ _ _ _ _ _ _ _ _ _ _ _ _)); first | (k_unfold; (try dsimp only)) | (k_end; wrow_close) | walk1 | (dsimp only; walk1) | (leave1; (try dsimp only)))))))
  rename News _ _ _ _ => N9
  exact XY.intro (by assumption) N9 (fun p hp => by repeat' (first | exact hp | refine List.Mem.tail _ ?_)) (by assumption) (by assumption)
end

end
section

def GoodTh (t : Th) : Prop := (∀ i, t = .n i → i.natAbs.log2 < 1920) ∧ t.shown.length ≤ 1000
theorem texts_short : ∀ k : Fin 10, (thTexts.getD k.val Str.empty).length ≤ 1000 := by decide +kernel
theorem nums_short : ∀ k : Fin 199, ((k.val : Int) - 99).natAbs.log2 < 1920 ∧ (Str.ofString (toString ((k.val : Int) - 99))).length ≤ 1000 := by decide +kernel
theorem thOf_good {k : Nat} {n : Int} (h1 : -99 ≤ n) (h2 : n ≤ 99) : GoodTh (thOf k n) := by
  unfold thOf
  split
  · rename_i h
    exact ⟨(fun i e => by cases e), texts_short ⟨k, h⟩⟩
  split
  · have h := nums_short ⟨(n + 99).toNat, by omega⟩
    have e : (((n + 99).toNat : Nat) : Int) - 99 = n := by omega
    simp only [e] at h
    exact ⟨fun i e => by cases e; exact h.1, h.2⟩
  split
  · exact ⟨(fun i e => by cases e), by decide +kernel⟩
  split
  · refine ⟨(fun i e => by cases e), ?_⟩
    generalize decide (0 < n) = c
    cases c <;> decide +kernel
  split
  · exact ⟨(fun i e => by cases e), by decide +kernel⟩
  split
  · exact ⟨(fun i e => by cases e), by decide +kernel⟩
  · exact ⟨(fun i e => by cases e), by decide +kernel⟩
/-- the pairs are made -/
def PairsIs (h₀ : Heap) (L : Addr) (s : Shared) (LED : List (Addr × Obj)) (m : Str → Option Value) (f : Flow) (s' : Shared) : Prop :=
  f = .next ∧ ∃ h' tk D ys ths Z, s' = { s with heap := h', toks := tk } ∧ Fr h₀ L h' (fun y => if y = Str.ofString "pairs" then some (.ref D) else m y) ∧ News h₀ L h' ((D, LCg.lst ys) :: (LED ++ Z)) ∧ ths.length ≤ 4 ∧ (∀ t ∈ ths, GoodTh t) ∧ PairsVia Z ys ths
theorem PairsIs.intro {h₀ h' : Heap} {L D : Addr} {s : Shared} {LED Z : List (Addr × Obj)} {m : Str → Option Value} {tk : Nat} {ys : List Value} {ths : List Th} (F : Fr h₀ L h' (fun y => if y = Str.ofString "pairs" then some (.ref D) else m y)) (N : News h₀ L h' ((D, LCg.lst ys) :: (LED ++ Z))) (hl : ths.length ≤ 4) (hg : ∀ t ∈ ths, GoodTh t) (p : PairsVia Z ys ths) : PairsIs h₀ L s LED m .next { s with heap := h', toks := tk } :=
  ⟨rfl, h', tk, D, ys, ths, Z, rfl, F, N, hl, hg, p⟩
theorem turn_law {h₀ h h' : Heap} {L : Addr} {s : Shared} {m : Str → Option Value} {f1 f2 f3 : Addr × Obj} {act Z : List (Addr × Obj)} {v : Value} {th : Th} {ths : List Th} {ys : List Value} {i : Nat} {tk : Nat}
    (F : Fr h₀ L h' m) (N : News h₀ L h' (f1 :: f2 :: f3 :: (act ++ Z))) (F0 : Fr h₀ L h m) (hp2 : PairNew h h' v th) (hl : ths.length = i) (hg : ∀ t ∈ ths, GoodTh t) (hg2 : GoodTh th) (hp : PairsVia Z ys ths) (hs : s.heap = h) :
    CTurn h₀ L m s [f1, f2, f3] act Z (fun y Z' => ∃ ths : List Th, ths.length = i + 1 ∧ (∀ t ∈ ths, GoodTh t) ∧ PairsVia Z' (ys ++ [y]) ths) v { s with heap := h', toks := tk } := by
  refine ⟨h', tk, Z ++ freshOf h h', rfl, F, ?_, ?_, ths ++ [th], by simp [hl], ?_, ?_⟩
  · intro p hp
    have hN : p ∈ f1 :: f2 :: f3 :: (act ++ Z) ∨ p ∈ freshOf h h' := by
      simp only [List.cons_append, List.nil_append, List.mem_cons, List.mem_append] at hp ⊢
      rcases hp with h | h | h | h | h | h
      · exact .inl (.inl h)
      · exact .inl (.inr (.inl h))
      · exact .inl (.inr (.inr (.inl h)))
      · exact .inl (.inr (.inr (.inr (.inl h))))
      · exact .inl (.inr (.inr (.inr (.inr h))))
      · exact .inr h
    rcases hN with hN | hN
    · exact N p hN
    · obtain ⟨e1, e2⟩ := mem_fresh hN
      exact News.fresh F0 (news := []) (fun _ hq => nomatch hq) e1 e2 p (.head _)
  · intro p hp
    rcases List.mem_append.mp hp with hp | hp
    · exact .inl hp
    · exact .inr (hs ▸ (mem_fresh hp).1)
  · intro t ht
    rcases List.mem_append.mp ht with ht | ht
    · exact hg t ht
    · rw [List.mem_singleton.mp ht]; exact hg2
  · exact (hp.more fun q hq => List.mem_append_left _ hq).snoc (hp2.via.more fun q hq => List.mem_append_right _ hq)
section
variable {w : World} {base h₀ : Heap} {s : Shared} {L a a1 D I le : Addr} {cd : Value} {ws : List Value} {ns : List Int} {kD : Nat} {oI oe ox oy : Obj} {x y : Int} {tx ty : Tok} {i : Nat} {tk : Tok} {m : Str → Option Value} {l1 : Addr × Obj}
theorem lawb1 {st : Stmt} (hst : st = forSt 15 1 1) (X : (Mine.hd.heap_39 w.params).In h₀) (TT : TopH h₀) (B : Below callerA base [] h₀)
   (F : Fr h₀ L s.heap m)
   (N : News h₀ L s.heap [(I, oI), (D, W.listOf ws.toArray kD), (le, oe), (L + 1 + 1, oy), (L + 1, ox)]) (hx : ox.data = .cell (some (.int x tx))) (hy : oy.data = .cell (some (.int y ty))) :
   wpAny (model P w) (callerA.deeper (envL L a cd)) (exec st (envL L a cd)) (PairsIs h₀ L s [(I, oI), (D, W.listOf ws.toArray kD), (le, oe), (L + 1 + 1, oy), (L + 1, ox)] m) (fun _ _ => False) s := by
  subst hst
  obtain ⟨mean, mg, mb, T⟩ := id TT
  unfold envL
  conv in (forSt _ _ _) => whnf
  conv in (occs := *) (scopeOf _) => all_goals whnf
  show wpAny (model P w) _ _ _ _ _
  k_fold
  k_dflt (refine LCg.Assign_ListComp_U (F₀ := by k_asm) (by rfl) (by with_unfolding_all rfl) (by with_unfolding_all rfl) (by decide) (by rfl) (by decide) (by rfl) (by rfl) (by rfl) ?_)
  (repeat' (((first | ((fail_if_success (with_reducible show wpAny _ _ (exec (Stmt.While _ _ _ _) _) _ _ _)); (fail_if_success (with_reducible show wpAny _ _ (exec (Stmt.For _ _ _ _ _) _) _ _ _)); (fail_if_success (with_reducible show wpAny _ _ (eval (PySem.Expr.ListComp _ _ _ _) _) _ _ _)); (fail_if_success (with_reducible show wpAny _ _ (exec (PySem.Stmt.Assign _ (PySem.Expr.ListComp _ _ _ _) _) _) _ _ _)); (fail_if_success (with_reducible show wpAny _ _ (call (Value.ref _) _) _ _ _)); (fail_if_success (with_reducible show wpAny _ _ (pyIter (Value.ref _)) _ _ _)); (fail_if_success (show LCg.CompSrc _ _ _ _ _ _ _ _ _ _ _ _ _ _)); first | (k_unfold; (try dsimp only)) | (k_end; wrow_close) | walk1 | (dsimp only; walk1) | (leave1; (try dsimp only)))))))
  have hq0 : 0 ≤ x.fmod 5 := Int.fmod_nonneg_of_pos _ (by decide)
  have hq3 : x.fmod 5 < 5 := Int.fmod_lt_of_pos _ (by decide)
  generalize hn : x.fmod 5 = nn at *
  obtain ⟨n, rfl⟩ : ∃ n : Nat, nn = (n : Int) := ⟨nn.toNat, by omega⟩
  rename IsRange _ _ _ _ _ _ _ _ => hrng
  refine comp_rng (n := n) (act := [(I, oI), (D, W.listOf ws.toArray kD), (le, oe), (L + 1 + 1, oy), (L + 1, ox)]) (Z₀ := []) (fun i ys Z => ∃ ths : List Th, ths.length = i ∧ (∀ t ∈ ths, GoodTh t) ∧ PairsVia Z ys ths) (by rfl) (by assumption) (by rw [List.append_nil]; assumption) hrng (small_one (by omega) (by omega) (by omega) (by omega)) (by rw [rangeSize_nat]; omega) (by omega) ⟨[], rfl, (fun _ h => nomatch h), .nil⟩ ?_ ?_
  · rintro g' i t I oI C oC D m₂ ys Z h tk E' hi hC hx F N off ne ⟨ths, hl, hg, hp⟩
    have hz : (16 : Int) ^ (0 + (i : Int)).toNat ≠ 0 := Int.pow_ne_zero (by decide)
    (repeat' (((first | ((fail_if_success (with_reducible show wpAny _ _ (exec (Stmt.While _ _ _ _) _) _ _ _)); (fail_if_success (with_reducible show wpAny _ _ (exec (Stmt.For _ _ _ _ _) _) _ _ _)); (fail_if_success (with_reducible show wpAny _ _ (eval (PySem.Expr.ListComp _ _ _ _) _) _ _ _)); (fail_if_success (with_reducible show wpAny _ _ (exec (PySem.Stmt.Assign _ (PySem.Expr.ListComp _ _ _ _) _) _) _ _ _)); (fail_if_success (with_reducible show wpAny _ _ (call (Value.ref _) _) _ _ _)); (fail_if_success (with_reducible show wpAny _ _ (pyIter (Value.ref _)) _ _ _)); (fail_if_success (show LCg.CompSrc _ _ _ _ _ _ _ _ _ _ _ _ _ _)); first | (k_unfold; (try dsimp only)) | (k_end; wrow_close) | walk1 | (dsimp only; walk1) | (leave1; (try dsimp only)))))))
    · exact absurd (by assumption) hz
    have k0 : 0 ≤ (y.fdiv (16 ^ (0 + (i : Int)).toNat)).fmod 16 := Int.fmod_nonneg_of_pos _ (by decide)
    have k1 : (y.fdiv (16 ^ (0 + (i : Int)).toNat)).fmod 16 < 16 := Int.fmod_lt_of_pos _ (by decide)
    have b0 : 0 ≤ (x.fdiv 5).fmod 199 := Int.fmod_nonneg_of_pos _ (by decide)
    have b1 : (x.fdiv 5).fmod 199 < 199 := Int.fmod_lt_of_pos _ (by decide)
    have b2 : -99 ≤ (x.fdiv 5).fmod 199 - 99 := by omega
    have b3 : (x.fdiv 5).fmod 199 - 99 ≤ 99 := by omega
    generalize (x.fdiv 5).fmod 199 - 99 = nv at *
    generalize (y.fdiv (16 ^ (0 + (i : Int)).toNat)).fmod 16 = kv at *
    refine' Mine.call_atC (dp := callerA.depth) (un := 4) (gd := some []) (outer := []) B (by assumption) (by assumption) ?tA ?tk (fun BB => Mine.law_thing (w := w) ?tX ?tT BB ?td ?tu ?tn k0 k1 b2 b3) ?_
    case tA => rfl
    case tk => rfl
    case tX => (first | (with_reducible assumption) | exact Frag.In.keeps (by assumption) (Fr.keep (by assumption)) | exact ⟨_, _, _, Top.keeps (by assumption) (Fr.keep (by assumption))⟩)
    case tT => (first | (with_reducible assumption) | exact Frag.In.keeps (by assumption) (Fr.keep (by assumption)) | exact ⟨_, _, _, Top.keeps (by assumption) (Fr.keep (by assumption))⟩)
    case td => decide
    case tu => ktr_units
    case tn => exact Nat.succ_ne_zero _
    intro v2 h2 tk2 F2 N2 st2 hp2
    dsimp only at hp2 N2 ⊢
    have hg2 := thOf_good (k := kv.toNat) b2 b3
    exact turn_law (s := { s with heap := h, toks := tk, gens := g' }) F2 N2 (by assumption) hp2 hl hg hg2 hp rfl
  · rintro g' ys Z hlen ⟨ths, hl, hg, hp⟩
    (repeat' (((first | ((fail_if_success (with_reducible show wpAny _ _ (exec (Stmt.While _ _ _ _) _) _ _ _)); (fail_if_success (with_reducible show wpAny _ _ (exec (Stmt.For _ _ _ _ _) _) _ _ _)); (fail_if_success (with_reducible show wpAny _ _ (eval (PySem.Expr.ListComp _ _ _ _) _) _ _ _)); (fail_if_success (with_reducible show wpAny _ _ (exec (PySem.Stmt.Assign _ (PySem.Expr.ListComp _ _ _ _) _) _) _ _ _)); (fail_if_success (with_reducible show wpAny _ _ (call (Value.ref _) _) _ _ _)); (fail_if_success (with_reducible show wpAny _ _ (pyIter (Value.ref _)) _ _ _)); (fail_if_success (show LCg.CompSrc _ _ _ _ _ _ _ _ _ _ _ _ _ _)); first | (k_unfold; (try dsimp only)) | (k_end; wrow_close) | walk1 | (dsimp only; walk1) | (leave1; (try dsimp only)))))))
    exact PairsIs.intro (by assumption) (by assumption) (by omega) hg hp
end

end
section

theorem inv_take {ths : List Th} {zs : List Value} {Z : List (Addr × Obj)} (h : ThsVia Z zs (ths.take ths.length)) : ThsVia Z zs ths := by rwa [List.take_length] at h
/-- a statement that goes on -/
def Goes2 (h₀ : Heap) (L : Addr) (s : Shared) (LED : List (Addr × Obj)) (m : Str → Option Value) (f : Flow) (s' : Shared) : Prop :=
  f = .next ∧ ∃ h' tk, s' = { s with heap := h', toks := tk } ∧ Fr h₀ L h' m ∧ News h₀ L h' LED
theorem Goes2.intro {h₀ h' : Heap} {L : Addr} {s : Shared} {LED news : List (Addr × Obj)} {m : Str → Option Value} {tk : Nat} (F : Fr h₀ L h' m) (N : News h₀ L h' news) (hs : ∀ p ∈ LED, p ∈ news) : Goes2 h₀ L s LED m .next { s with heap := h', toks := tk } := ⟨rfl, h', tk, rfl, F, fun p hp => N p (hs p hp)⟩
theorem news_swap {h₀ h : Heap} {L : Addr} {p q : Addr × Obj} {act Z : List (Addr × Obj)} (N : News h₀ L h (p :: q :: (act ++ Z))) : News h₀ L h (q :: (p :: act ++ Z)) := fun r hr => N r (by
  simp only [List.cons_append, List.mem_cons] at hr ⊢
  rcases hr with h | h | h
  · exact .inr (.inl h)
  · exact .inl h
  · exact .inr (.inr h))
theorem mem_law {p q r : Addr × Obj} {act Z : List (Addr × Obj)} {x : Addr × Obj} (h : x ∈ q :: (act ++ Z)) : x ∈ p :: q :: (r :: act ++ Z) := by
  simp only [List.cons_append, List.mem_cons] at h ⊢
  rcases h with h | h
  · exact .inr (.inl h)
  · exact .inr (.inr (.inr h))
theorem ground_law {w : World} {h₀ : Heap} (X : (Mine.hd.heap_39 w.params).In h₀) (TT : TopH h₀) : Gnd w h₀ [] h₀ := ⟨X, TT, W.ktsDicts_nil⟩
theorem pl_law {ths : List Th} (hl : ths.length ≤ 4) (hg : ∀ t ∈ ths, GoodTh t) : Pl ths := ⟨hl, fun i h => (hg _ h).1 i rfl, fun t h => (hg t h).2⟩
theorem hc_law {w : World} {h₀ h : Heap} {L ta sa : Addr} {m : Str → Option Value} {news Z : List (Addr × Obj)} {env : Env} {zs ss : List Value} {ths : List Th} (X : (Mine.hd.heap_39 w.params).In h₀) (TT : TopH h₀) (F : Fr h₀ L h m) (N : News h₀ L h news) (hsys : SysOk h₀) (G : Gnd w h₀ [env] h)
    (m1 : (ta, LCg.lst zs) ∈ news) (hI : ThsVia Z zs ths) (m2 : (sa, LCg.lst ss) ∈ news) (hZ : ∀ p ∈ Z, p ∈ news) : HC w h₀ [env] ths ta sa zs.toArray ss.toArray h where
  X := Frag.In.keeps X F.keep
  T := by obtain ⟨_, _, _, T⟩ := TT; exact ⟨_, _, _, Top.keeps T F.keep⟩
  G := G
  L := ⟨_, (N _ m1).1, rfl, _, rfl⟩
  I := hI.are fun p hp => (N p (hZ p hp)).1
  LS := ⟨_, (N _ m2).1, rfl, _, rfl⟩
  sys := hsys.keeps F.keep
section
variable {w : World} {base h₀ : Heap} {s : Shared} {L a Pa : Addr} {cd : Value} {ys : List Value} {ths : List Th} {act Z : List (Addr × Obj)} {m : Str → Option Value}
theorem lawb2 {st : Stmt} (hst : st = forSt 15 1 2) (X : (Mine.hd.heap_39 w.params).In h₀) (TT : TopH h₀) (B : Below callerA h₀ [] h₀) (hsys : SysOk h₀)
   (hl : ths.length ≤ 4) (hg : ∀ t ∈ ths, GoodTh t) (hp : PairsVia Z ys ths)
   (F : Fr h₀ L s.heap (fun y => if y = Str.ofString "pairs" then some (.ref Pa) else m y))
   (N : News h₀ L s.heap ((Pa, LCg.lst ys) :: (act ++ Z))) :
   wpAny (model P w) (callerA.deeper (envL L a cd)) (exec st (envL L a cd)) (Goes2 h₀ L s ((Pa, LCg.lst ys) :: (act ++ Z)) (fun y => if y = Str.ofString "pairs" then some (.ref Pa) else m y)) (fun _ _ => False) s := by
  subst hst
  obtain ⟨mean, mg, mb, T⟩ := id TT
  unfold envL
  conv in (forSt _ _ _) => whnf
  conv in (occs := *) (scopeOf _) => all_goals whnf
  show wpAny (model P w) _ _ _ _ _
  k_fold
  (repeat' (((first | ((fail_if_success (with_reducible show wpAny _ _ (exec (Stmt.While _ _ _ _) _) _ _ _)); (fail_if_success (with_reducible show wpAny _ _ (exec (Stmt.For _ _ _ _ _) _) _ _ _)); (fail_if_success (with_reducible show wpAny _ _ (eval (PySem.Expr.ListComp _ _ _ _) _) _ _ _)); (fail_if_success (with_reducible show wpAny _ _ (exec (PySem.Stmt.Assign _ (PySem.Expr.ListComp _ _ _ _) _) _) _ _ _)); (fail_if_success (with_reducible show wpAny _ _ (call (Value.ref _) _) _ _ _)); (fail_if_success (with_reducible show wpAny _ _ (pyIter (Value.ref _)) _ _ _)); (fail_if_success (show LCg.CompSrc _ _ _ _ _ _ _ _ _ _ _ _ _ _)); first | (k_unfold; (try dsimp only)) | (k_end; wrow_close) | walk1 | (dsimp only; walk1) | (leave1; (try dsimp only)))))))
  k_dflt (refine LCp.ListComp_P (F₀ := by k_asm) (by with_unfolding_all rfl) (by decide) (by rfl) (by decide) (by rfl) (by rfl) (by decide) ?_)
  (repeat' (((first | ((fail_if_success (with_reducible show wpAny _ _ (exec (Stmt.While _ _ _ _) _) _ _ _)); (fail_if_success (with_reducible show wpAny _ _ (exec (Stmt.For _ _ _ _ _) _) _ _ _)); (fail_if_success (with_reducible show wpAny _ _ (eval (PySem.Expr.ListComp _ _ _ _) _) _ _ _)); (fail_if_success (with_reducible show wpAny _ _ (exec (PySem.Stmt.Assign _ (PySem.Expr.ListComp _ _ _ _) _) _) _ _ _)); (fail_if_success (with_reducible show wpAny _ _ (call (Value.ref _) _) _ _ _)); (fail_if_success (with_reducible show wpAny _ _ (pyIter (Value.ref _)) _ _ _)); (fail_if_success (show LCg.CompSrc _ _ _ _ _ _ _ _ _ _ _ _ _ _)); first | (k_unfold; (try dsimp only)) | (k_end; wrow_close) | walk1 | (dsimp only; walk1) | (leave1; (try dsimp only)))))))
  refine comp_pair (act := act) (Z := Z) (ths := ths) (fun i zs => ThsVia Z zs (ths.take i)) (by rfl) (by assumption) (by assumption) hp hl .nil ?_ ?_
  · rintro g' i th v t I oI C oC D m₂ zs h tk E' hth hv hC hx hx2 F N off ne hI
    (repeat' (((first | ((fail_if_success (with_reducible show wpAny _ _ (exec (Stmt.While _ _ _ _) _) _ _ _)); (fail_if_success (with_reducible show wpAny _ _ (exec (Stmt.For _ _ _ _ _) _) _ _ _)); (fail_if_success (with_reducible show wpAny _ _ (eval (PySem.Expr.ListComp _ _ _ _) _) _ _ _)); (fail_if_success (with_reducible show wpAny _ _ (exec (PySem.Stmt.Assign _ (PySem.Expr.ListComp _ _ _ _) _) _) _ _ _)); (fail_if_success (with_reducible show wpAny _ _ (call (Value.ref _) _) _ _ _)); (fail_if_success (with_reducible show wpAny _ _ (pyIter (Value.ref _)) _ _ _)); (fail_if_success (show LCg.CompSrc _ _ _ _ _ _ _ _ _ _ _ _ _ _)); first | (k_unfold; (try dsimp only)) | (k_end; wrow_close) | walk1 | (dsimp only; walk1) | (leave1; (try dsimp only)))))))
    exact LCg.CompEnd.intro F N _ (fun p hp => hp) off (.inr ⟨_, .head _, rfl, _, rfl⟩) ⟨rfl, by rw [ths_snoc hth]; exact hI.snoc hv⟩
  rintro g' zs hI
  replace hI := inv_take hI
  (repeat' (((first | ((fail_if_success (with_reducible show wpAny _ _ (exec (Stmt.While _ _ _ _) _) _ _ _)); (fail_if_success (with_reducible show wpAny _ _ (exec (Stmt.For _ _ _ _ _) _) _ _ _)); (fail_if_success (with_reducible show wpAny _ _ (eval (PySem.Expr.ListComp _ _ _ _) _) _ _ _)); (fail_if_success (with_reducible show wpAny _ _ (exec (PySem.Stmt.Assign _ (PySem.Expr.ListComp _ _ _ _) _) _) _ _ _)); (fail_if_success (with_reducible show wpAny _ _ (call (Value.ref _) _) _ _ _)); (fail_if_success (with_reducible show wpAny _ _ (pyIter (Value.ref _)) _ _ _)); (fail_if_success (show LCg.CompSrc _ _ _ _ _ _ _ _ _ _ _ _ _ _)); first | (k_unfold; (try dsimp only)) | (k_end; wrow_close) | walk1 | (dsimp only; walk1) | (leave1; (try dsimp only)))))))
  rename News _ _ _ _ => N1
  replace N1 := news_swap N1
  k_dflt (refine LCp.ListComp_P (F₀ := by k_asm) (by with_unfolding_all rfl) (by decide) (by rfl) (by decide) (by rfl) (by rfl) (by decide) ?_)
  (repeat' (((first | ((fail_if_success (with_reducible show wpAny _ _ (exec (Stmt.While _ _ _ _) _) _ _ _)); (fail_if_success (with_reducible show wpAny _ _ (exec (Stmt.For _ _ _ _ _) _) _ _ _)); (fail_if_success (with_reducible show wpAny _ _ (eval (PySem.Expr.ListComp _ _ _ _) _) _ _ _)); (fail_if_success (with_reducible show wpAny _ _ (exec (PySem.Stmt.Assign _ (PySem.Expr.ListComp _ _ _ _) _) _) _ _ _)); (fail_if_success (with_reducible show wpAny _ _ (call (Value.ref _) _) _ _ _)); (fail_if_success (with_reducible show wpAny _ _ (pyIter (Value.ref _)) _ _ _)); (fail_if_success (show LCg.CompSrc _ _ _ _ _ _ _ _ _ _ _ _ _ _)); first | (k_unfold; (try dsimp only)) | (k_end; wrow_close) | walk1 | (dsimp only; walk1) | (leave1; (try dsimp only)))))))
  refine comp_pair (act := (_, LCg.lst zs) :: act) (Z := Z) (ths := ths) (fun i zs => StrsAre zs ((ths.take i).map Th.shown)) (by rfl) (by assumption) N1 hp hl .nil ?_ ?_
  · rintro g' i th v t I oI C oC D m₂ zs h tk E' hth hv hC hx hx2 F N off ne hI
    (repeat' (((first | ((fail_if_success (with_reducible show wpAny _ _ (exec (Stmt.While _ _ _ _) _) _ _ _)); (fail_if_success (with_reducible show wpAny _ _ (exec (Stmt.For _ _ _ _ _) _) _ _ _)); (fail_if_success (with_reducible show wpAny _ _ (eval (PySem.Expr.ListComp _ _ _ _) _) _ _ _)); (fail_if_success (with_reducible show wpAny _ _ (exec (PySem.Stmt.Assign _ (PySem.Expr.ListComp _ _ _ _) _) _) _ _ _)); (fail_if_success (with_reducible show wpAny _ _ (call (Value.ref _) _) _ _ _)); (fail_if_success (with_reducible show wpAny _ _ (pyIter (Value.ref _)) _ _ _)); (fail_if_success (show LCg.CompSrc _ _ _ _ _ _ _ _ _ _ _ _ _ _)); first | (k_unfold; (try dsimp only)) | (k_end; wrow_close) | walk1 | (dsimp only; walk1) | (leave1; (try dsimp only)))))))
    exact LCg.CompEnd.intro F N _ (fun p hp => hp) off (.inr ⟨_, .head _, rfl, _, rfl⟩) ⟨rfl, by rw [ths_snoc hth, List.map_append]; exact StrsAre.snoc hI _ _⟩
  rintro g' zs2 hS
  rw [List.take_length] at hS
  (repeat' (((first | ((fail_if_success (with_reducible show wpAny _ _ (exec (Stmt.While _ _ _ _) _) _ _ _)); (fail_if_success (with_reducible show wpAny _ _ (exec (Stmt.For _ _ _ _ _) _) _ _ _)); (fail_if_success (with_reducible show wpAny _ _ (eval (PySem.Expr.ListComp _ _ _ _) _) _ _ _)); (fail_if_success (with_reducible show wpAny _ _ (exec (PySem.Stmt.Assign _ (PySem.Expr.ListComp _ _ _ _) _) _) _ _ _)); (fail_if_success (with_reducible show wpAny _ _ (call (Value.ref _) _) _ _ _)); (fail_if_success (with_reducible show wpAny _ _ (pyIter (Value.ref _)) _ _ _)); (fail_if_success (show LCg.CompSrc _ _ _ _ _ _ _ _ _ _ _ _ _ _)); first | (k_unfold; (try dsimp only)) | (k_end; wrow_close) | walk1 | (dsimp only; walk1) | (leave1; (try dsimp only)))))))
  rename News _ _ _ _ => N2
  rename Fr _ _ _ _ => F2
  have D := ground_law (w := w) X TT
  refine call_S0X (Post := fun v _ => v = .bool true) rfl B D F2 N2 (dp := callerA.depth) (un := 4) (gd := some []) rfl rfl ?_ ?_
  · intro BB GG
    exact law_hold (ths := ths) (hc_law (w := w) X TT F2 N2 hsys GG (.tail _ (.tail _ (.head _))) hI (.head _) fun p hp => .tail _ (.tail _ (.tail _ (List.mem_append_right _ hp)))) BB (by decide) (by ktr_units) hS (pl_law hl hg)
  · rintro v h3 tk3 F3 N3 rfl
    (repeat' (((first | ((fail_if_success (with_reducible show wpAny _ _ (exec (Stmt.While _ _ _ _) _) _ _ _)); (fail_if_success (with_reducible show wpAny _ _ (exec (Stmt.For _ _ _ _ _) _) _ _ _)); (fail_if_success (with_reducible show wpAny _ _ (eval (PySem.Expr.ListComp _ _ _ _) _) _ _ _)); (fail_if_success (with_reducible show wpAny _ _ (exec (PySem.Stmt.Assign _ (PySem.Expr.ListComp _ _ _ _) _) _) _ _ _)); (fail_if_success (with_reducible show wpAny _ _ (call (Value.ref _) _) _ _ _)); (fail_if_success (with_reducible show wpAny _ _ (pyIter (Value.ref _)) _ _ _)); (fail_if_success (show LCg.CompSrc _ _ _ _ _ _ _ _ _ _ _ _ _ _)); first | (k_unfold; (try dsimp only)) | (k_end; wrow_close) | walk1 | (dsimp only; walk1) | (leave1; (try dsimp only)))))))
    exact Goes2.intro (by assumption) N3 fun p hp => mem_law hp
end

end
section

section
variable {w : World} {base h₀ : Heap} {s : Shared} {L a Pa : Addr} {cd v v2 : Value} {t : Th} {ys : List Value} {ths : List Th} {act Z LED : List (Addr × Obj)} {m : Str → Option Value}
theorem lawturn {b : List Stmt} (hb : b = forBody (forSt 15 1 3)) (X : (Mine.hd.heap_39 w.params).In h₀) (TT : TopH h₀) (B : Below callerA h₀ [] h₀) (hsys : SysOk h₀)
   (hx : IsTh s.heap v t) (hso : Solid v)
   (F : Fr h₀ L s.heap (fun y => if y = Str.ofString "text" then some v2 else if y = Str.ofString "thing" then some v else m y))
   (N : News h₀ L s.heap LED) :
   wpAny (model P w) (callerA.deeper (envL L a cd)) (execs b (envL L a cd)) (Goes2 h₀ L s LED (fun y => if y = Str.ofString "text" then some v2 else if y = Str.ofString "thing" then some v else m y)) (fun _ _ => False) s := by
  subst hb
  obtain ⟨mean, mg, mb, T⟩ := id TT
  have hhv := hx.handed
  unfold envL
  conv in (forBody _) => whnf
  conv in (occs := *) (scopeOf _) => all_goals whnf
  show wpAny (model P w) _ _ _ _ _
  k_fold
  (repeat' (((first | ((fail_if_success (with_reducible show wpAny _ _ (exec (Stmt.While _ _ _ _) _) _ _ _)); (fail_if_success (with_reducible show wpAny _ _ (exec (Stmt.For _ _ _ _ _) _) _ _ _)); (fail_if_success (with_reducible show wpAny _ _ (eval (PySem.Expr.ListComp _ _ _ _) _) _ _ _)); (fail_if_success (with_reducible show wpAny _ _ (exec (PySem.Stmt.Assign _ (PySem.Expr.ListComp _ _ _ _) _) _) _ _ _)); (fail_if_success (with_reducible show wpAny _ _ (call (Value.ref _) _) _ _ _)); (fail_if_success (with_reducible show wpAny _ _ (pyIter (Value.ref _)) _ _ _)); (fail_if_success (show LCg.CompSrc _ _ _ _ _ _ _ _ _ _ _ _ _ _)); first | (k_unfold; (try dsimp only)) | (k_end; wrow_close) | walk1 | (dsimp only; walk1) | (leave1; (try dsimp only)))))))
  rename News _ _ _ _ => N2
  rename Fr _ _ _ _ => F2
  refine' Mine.call_atC (dp := callerA.depth) (un := 4) (gd := some []) (outer := []) B F2 N2 ?tA ?tk (fun BB => Mine.law_alone (w := w) ?tX ?tT BB ?td ?tu ?ts hx hso) ?_
  case tA => rfl
  case tk => rfl
  case tX => exact Frag.In.keeps X F2.keep
  case tT => exact ⟨_, _, _, Top.keeps T F2.keep⟩
  case td => decide
  case tu => ktr_units
  case ts => exact hsys.keeps F2.keep
  rintro v3 h3 tk3 F3 N3 st3 rfl
  (repeat' (((first | ((fail_if_success (with_reducible show wpAny _ _ (exec (Stmt.While _ _ _ _) _) _ _ _)); (fail_if_success (with_reducible show wpAny _ _ (exec (Stmt.For _ _ _ _ _) _) _ _ _)); (fail_if_success (with_reducible show wpAny _ _ (eval (PySem.Expr.ListComp _ _ _ _) _) _ _ _)); (fail_if_success (with_reducible show wpAny _ _ (exec (PySem.Stmt.Assign _ (PySem.Expr.ListComp _ _ _ _) _) _) _ _ _)); (fail_if_success (with_reducible show wpAny _ _ (call (Value.ref _) _) _ _ _)); (fail_if_success (with_reducible show wpAny _ _ (pyIter (Value.ref _)) _ _ _)); (fail_if_success (show LCg.CompSrc _ _ _ _ _ _ _ _ _ _ _ _ _ _)); first | (k_unfold; (try dsimp only)) | (k_end; wrow_close) | walk1 | (dsimp only; walk1) | (leave1; (try dsimp only)))))))
  exact Goes2.intro (by assumption) N3 fun p hp => hp
theorem lawb3 {st : Stmt} (hst : st = forSt 15 1 3) (X : (Mine.hd.heap_39 w.params).In h₀) (TT : TopH h₀) (B : Below callerA h₀ [] h₀) (hsys : SysOk h₀)
   (hl : ths.length ≤ 4) (hp : PairsVia Z ys ths)
   (F : Fr h₀ L s.heap (fun y => if y = Str.ofString "pairs" then some (.ref Pa) else m y))
   (N : News h₀ L s.heap ((Pa, LCg.lst ys) :: (act ++ Z))) :
   wpAny (model P w) (callerA.deeper (envL L a cd)) (exec st (envL L a cd)) (fun f s' => ∃ m', (∀ y, y ≠ Str.ofString "thing" → y ≠ Str.ofString "text" → m' y = if y = Str.ofString "pairs" then some (.ref Pa) else m y) ∧ Goes2 h₀ L s act m' f s') (fun _ _ => False) s := by
  subst hst
  obtain ⟨mean, mg, mb, T⟩ := id TT
  unfold envL
  conv in (forSt _ _ _) => whnf
  conv in (occs := *) (scopeOf _) => all_goals whnf
  show wpAny (model P w) _ _ _ _ _
  k_fold
  refine wpAny_For ?_
  (repeat' (((first | ((fail_if_success (with_reducible show wpAny _ _ (exec (Stmt.While _ _ _ _) _) _ _ _)); (fail_if_success (with_reducible show wpAny _ _ (exec (Stmt.For _ _ _ _ _) _) _ _ _)); (fail_if_success (with_reducible show wpAny _ _ (eval (PySem.Expr.ListComp _ _ _ _) _) _ _ _)); (fail_if_success (with_reducible show wpAny _ _ (exec (PySem.Stmt.Assign _ (PySem.Expr.ListComp _ _ _ _) _) _) _ _ _)); (fail_if_success (with_reducible show wpAny _ _ (call (Value.ref _) _) _ _ _)); (fail_if_success (with_reducible show wpAny _ _ (pyIter (Value.ref _)) _ _ _)); (fail_if_success (show LCg.CompSrc _ _ _ _ _ _ _ _ _ _ _ _ _ _)); first | (k_unfold; (try dsimp only)) | (k_end; wrow_close) | walk1 | (dsimp only; walk1) | (leave1; (try dsimp only)))))))
  rename News _ _ _ _ => N2
  rename Fr _ _ _ _ => F2
  refine iter_pair (fun _ m' h => (∀ y, y ≠ Str.ofString "thing" → y ≠ Str.ofString "text" → m' y = if y = Str.ofString "pairs" then some (.ref Pa) else m y) ∧ News h₀ L h ((Pa, LCg.lst ys) :: (act ++ Z))) (News.isList N2 (.head _)) F2 ⟨fun y _ _ => rfl, N2⟩ ?_ ?_ ?_ ?_
  · rintro i m' h h' ⟨hm, N1⟩ hk
    exact ⟨hm, News.but N1 (fun q hq => Nat.ne_of_lt (Heap.lt_size (N2 q hq).1)) hk⟩
  · rintro i v m' h hv ⟨hm, N1⟩
    obtain ⟨th, hth, pv⟩ := hp.at i v (by simpa using hv)
    obtain ⟨a, o, tv, t, n, rfl, hm, hc, hd, tvia⟩ := pv.open fun p hp => (N1 p (.tail _ (List.mem_append_right _ hp))).1
    exact ⟨a, tv, _, rfl, o, (N1 _ (.tail _ (List.mem_append_right _ hm))).1, hc, n, hd⟩
  · rintro i t v₁ v₂ m' h tk hv ht ⟨hm, N1⟩ hI hL hI0 hIL F1
    obtain ⟨th, hth, pv⟩ := hp.at i _ (by simpa using hv)
    obtain ⟨a', o, tv, t', n, e, hmm, hc, hd, tvia⟩ := pv.open fun p hp => (N1 p (.tail _ (List.mem_append_right _ hp))).1
    cases e
    have e2 := tup_inj ht ⟨o, (N1 _ (.tail _ (List.mem_append_right _ hmm))).1, hc, n, hd⟩
    obtain ⟨rfl, rfl⟩ := pair_inj e2
    obtain ⟨oI, hoI, hIr⟩ := id hI
    have N3 := News.add N1 (p := (_, oI)) hoI hIL hI0
    have hth2 := tvia.2 _ fun p hp => (N1 p (.tail _ (List.mem_append_right _ hp))).1
    refine wpAny_mono (lawturn (w := w) (a := a) (cd := cd) rfl X TT B hsys (s := { s with heap := h, toks := tk }) hth2 tvia.1 F1 N3) ?_ (fun _ _ e => e.elim)
    rintro f s' ⟨rfl, h4, tk4, rfl, F4, N4⟩
    refine TurnH.intro F4 ⟨⟨oI, (N4 _ (.head _)).1, hIr⟩, News.isList N4 (.tail _ (.head _))⟩ ⟨fun y h1 h2 => ?_, fun p hp => N4 p (.tail _ hp)⟩
    dsimp only
    rw [if_neg h2, if_neg h1]
    exact hm y h1 h2
  · rintro m' h tk ⟨hm, N1⟩ F1
    exact ⟨m', hm, Goes2.intro F1 N1 fun p hp => .tail _ (List.mem_append_left _ hp)⟩
end

end
section
/-- what a turn of law leaves -/
def LTurn (h₀ : Heap) (L : Addr) (s : Shared) (LED : List (Addr × Obj)) (D : Addr) (f : Flow) (s' : Shared) : Prop :=
  f = .next ∧ ∃ h' tk m ox oy vx vy, s' = { s with heap := h', toks := tk } ∧ Fr h₀ L h' m ∧ News h₀ L h' (LED ++ [(L + 1 + 1, oy), (L + 1, ox)]) ∧ m (Str.ofString "numbers") = some (.ref D) ∧ ox.data = .cell vx ∧ oy.data = .cell vy
section
variable {w : World} {h₀ : Heap} {s : Shared} {L a D I le : Addr} {cd : Value} {ws : List Value} {ns : List Int} {kD : Nat} {oI oe ox oy : Obj} {vx vy : Option Value} {i : Nat} {tk : Tok} {m : Str → Option Value}
theorem turn02 {b : List Stmt} (hb : b = [forSt 15 1 0, forSt 15 1 1, forSt 15 1 2, forSt 15 1 3]) (X : (Mine.hd.heap_39 w.params).In h₀) (TT : TopH h₀) (B : Below callerA h₀ [] h₀) (hsys : SysOk h₀) (hNums : IntsAre ws ns) (hlen : ns.length ≤ 67) (hi : 2 * i < ns.length)
   (hm : m (Str.ofString "numbers") = some (.ref D))
   (F : Fr h₀ L s.heap (fun y => if y = Str.ofString "k" then some (.int (0 + (i : Int) * 2) tk) else m y))
   (N : News h₀ L s.heap [(I, oI), (D, W.listOf ws.toArray kD), (le, oe), (L + 1 + 1, oy), (L + 1, ox)]) (hx : ox.data = .cell vx) (hy : oy.data = .cell vy)
   (n1 : @Ne Addr I (L + 1 + 1)) (n2 : @Ne Addr I (L + 1)) (n3 : @Ne Addr D (L + 1 + 1)) (n4 : @Ne Addr D (L + 1)) (n5 : @Ne Addr le (L + 1 + 1)) (n6 : @Ne Addr le (L + 1)) :
   wpAny (model P w) (callerA.deeper (envL L a cd)) (execs b (envL L a cd)) (LTurn h₀ L s [(I, oI), (D, W.listOf ws.toArray kD), (le, oe)] D) (fun _ _ => False) s := by
  subst hb
  generalize e0 : forSt 15 1 0 = st0
  generalize e1 : forSt 15 1 1 = st1
  generalize e2 : forSt 15 1 2 = st2
  generalize e3 : forSt 15 1 3 = st3
  have em : m = fun y => if y = Str.ofString "numbers" then some (.ref D) else m y := by
    funext y
    split
    · rename_i h; rw [h]; exact hm
    · rfl
  rw [em] at F
  refine wpAny_execs_cons (wpAny_mono (lawb0 (w := w) e0.symm X TT hNums hlen hi F N hx hy n1 n2 n3 n4 n5 n6) ?_ fun _ _ e => e)
  rintro f s' ⟨rfl, h1, tk1, ox1, oy1, x, y, tx, ty, rfl, F1, N1, hx1, hy1⟩
  refine wpAny_execs_cons (wpAny_mono (lawb1 (w := w) e1.symm X TT B F1 N1 hx1 hy1) ?_ fun _ _ e => e)
  rintro f s' ⟨rfl, h2, tk2, Pa, ys, ths, Z, rfl, F2, N2, hl, hg, hp⟩
  refine wpAny_execs_cons (wpAny_mono (lawb2 (w := w) e2.symm X TT B hsys hl hg hp F2 N2) ?_ fun _ _ e => e)
  rintro f s' ⟨rfl, h3, tk3, rfl, F3, N3⟩
  refine wpAny_execs_cons (wpAny_mono (lawb3 (w := w) e3.symm X TT B hsys hl hp F3 N3) ?_ fun _ _ e => e)
  rintro f s' ⟨m', hm', rfl, h4, tk4, rfl, F4, N4⟩
  refine wpAny_execs_nil ?_
  refine ⟨rfl, h4, tk4, m', ox1, oy1, _, _, rfl, F4, N4, ?_, hx1, hy1⟩
  rw [hm' _ (by decide +kernel) (by decide +kernel), if_neg (by decide +kernel), if_neg (by decide +kernel), if_pos rfl]
theorem small_two {b : Int} (hb : 0 ≤ b) (hb' : b < 100) : Builtin.Range.small 0 b 2 = true := by
  have : ∀ k : Fin 100, Builtin.Range.small 0 (k.val : Int) 2 = true := by decide +kernel
  have h := this ⟨b.toNat, by omega⟩
  rwa [show ((b.toNat : Nat) : Int) = b from by omega] at h
theorem size_two {l : Nat} (h : l < 100) : ∃ n : Nat, Builtin.Range.rangeSize 0 (l : Int) 2 = (n : Int) ∧ ∀ i, i < n → 2 * i < l := by
  refine ⟨(l + 1) / 2, ?_, fun i hi => by omega⟩
  unfold Builtin.Range.rangeSize
  rw [if_pos (by decide)]
  split <;> omega
theorem loop02 {r : Addr} {t u v : Tok} {px : Pos} {bd : List Stmt} {E : Value → Shared → Prop} {Q : Flow → Shared → Prop} (hb : bd = [forSt 15 1 0, forSt 15 1 1, forSt 15 1 2, forSt 15 1 3]) (X : (Mine.hd.heap_39 w.params).In h₀) (TT : TopH h₀) (B : Below callerA h₀ [] h₀) (hsys : SysOk h₀) (hNums : IntsAre ws ns) (hlen : ns.length ≤ 67)
   (hr : IsRange s.heap r 0 (ns.length : Int) 2 t u v) (hm : m (Str.ofString "numbers") = some (.ref D)) (F : Fr h₀ L s.heap m)
   (N : News h₀ L s.heap [(D, W.listOf ws.toArray kD), (le, oe), (L + 1 + 1, oy), (L + 1, ox)]) (hx : ox.data = .cell vx) (hy : oy.data = .cell vy)
   (n3 : @Ne Addr D (L + 1 + 1)) (n4 : @Ne Addr D (L + 1)) (n5 : @Ne Addr le (L + 1 + 1)) (n6 : @Ne Addr le (L + 1))
   (done : ∀ h tk m', Fr h₀ L h m' → Q .next { s with heap := h, toks := tk })
   (hE : PassesOwn (model P w) (callerA.deeper (envL L a cd)) (envL L a cd) E) :
    wpAny (model P w) (callerA.deeper (envL L a cd)) (pyIter (.ref r)) (fun it s₂ => codeAny (model P w) (callerA.deeper (envL L a cd)) (.forLoop (.Name (Str.ofString "k") px) it bd [] (envL L a cd))
      (fun r s' => match r with | .ok f => Q f s' | .error e => cameBackBy (model P w) (callerA.deeper (envL L a cd)) (envL L a cd) E e s') s₂) E s := by
  obtain ⟨n, hn, hni⟩ := size_two (l := ns.length) (by omega)
  have hlt : ∀ p ∈ [(D, W.listOf ws.toArray kD), (le, oe), (L + 1 + 1, oy), (L + 1, ox)], p.1 < s.heap.objs.size := fun p hp => Heap.lt_size (N p hp).1
  have q1 : L + 1 + 1 < s.heap.objs.size := hlt (L + 1 + 1, oy) (.tail _ (.tail _ (.head _)))
  have q2 : L + 1 < s.heap.objs.size := hlt (L + 1, ox) (.tail _ (.tail _ (.tail _ (.head _))))
  have q3 : D < s.heap.objs.size := hlt _ (.head _)
  have q4 : le < s.heap.objs.size := hlt (le, oe) (.tail _ (.head _))
  refine iter_range (n := n) (h₀ := h₀) (env := envL L a cd) (fun _ m h => ∃ ox oy vx vy, m (Str.ofString "numbers") = some (.ref D) ∧ News h₀ L h [(D, W.listOf ws.toArray kD), (le, oe), (L + 1 + 1, oy), (L + 1, ox)] ∧ ox.data = .cell vx ∧ oy.data = .cell vy) hr (small_two (by omega) (by omega)) hn F ⟨ox, oy, vx, vy, hm, N, hx, hy⟩ ?_ ?_ ?_ rfl rfl rfl hE
  · rintro i m h h' ⟨ox, oy, vx, vy, hm, N1, hx, hy⟩ hk
    refine ⟨ox, oy, vx, vy, hm, News.but N1 (fun q hq => ?_) hk, hx, hy⟩
    simp only [List.mem_cons, List.not_mem_nil, or_false] at hq
    rcases hq with rfl | rfl | rfl | rfl
    · exact Nat.ne_of_lt q3
    · exact Nat.ne_of_lt q4
    · exact Nat.ne_of_lt q1
    · exact Nat.ne_of_lt q2
  · rintro i m₁ h tk t hi ⟨ox, oy, vx, vy, hm, N1, hx, hy⟩ hI hI0 hIL F₁
    have N2 := News.add N1 (p := (_, _)) hI hIL hI0
    refine wpAny_mono (turn02 (w := w) (a := a) (cd := cd) (s := { s with heap := h, toks := tk }) hb X TT B hsys hNums hlen (hni i hi) hm F₁ N2 hx hy (Nat.ne_of_gt q1) (Nat.ne_of_gt q2) n3 n4 n5 n6) ?_ fun _ _ e => e.elim
    rintro f s' ⟨rfl, h', tk', m', ox', oy', vx', vy', rfl, F', N', hm', hx', hy'⟩
    exact TurnH.intro F' (N' _ (.head _)).1 ⟨ox', oy', vx', vy', hm', fun p hp => N' p (.tail _ hp), hx', hy'⟩
  · rintro m₁ h tk ⟨ox, oy, vx, vy, hm, N1, hx, hy⟩ F₁
    exact done h tk m₁ F₁
end

end
section

theorem law_holds : PySem.Challenge.rw_io0038_02.Holds := Mine.hd (by
  k_go0
  (all_goals try k_fold)
  (repeat' (((first | ((fail_if_success (with_reducible show wpAny _ _ (exec (Stmt.While _ _ _ _) _) _ _ _)); (fail_if_success (with_reducible show wpAny _ _ (exec (Stmt.For _ _ _ _ _) _) _ _ _)); (fail_if_success (with_reducible show wpAny _ _ (eval (PySem.Expr.ListComp _ _ _ _) _) _ _ _)); (fail_if_success (with_reducible show wpAny _ _ (exec (PySem.Stmt.Assign _ (PySem.Expr.ListComp _ _ _ _) _) _) _ _ _)); (fail_if_success (with_reducible show wpAny _ _ (call (Value.ref _) _) _ _ _)); (fail_if_success (with_reducible show wpAny _ _ (pyIter (Value.ref _)) _ _ _)); (fail_if_success (show LCg.CompSrc _ _ _ _ _ _ _ _ _ _ _ _ _ _)); first | (k_unfold; (try dsimp only)) | (k_end; wrow_close) | walk1 | (dsimp only; walk1) | (leave1; (try dsimp only)))))))
  refine wpAny_For ?_
  (repeat' (((first | ((fail_if_success (with_reducible show wpAny _ _ (exec (Stmt.While _ _ _ _) _) _ _ _)); (fail_if_success (with_reducible show wpAny _ _ (exec (Stmt.For _ _ _ _ _) _) _ _ _)); (fail_if_success (with_reducible show wpAny _ _ (eval (PySem.Expr.ListComp _ _ _ _) _) _ _ _)); (fail_if_success (with_reducible show wpAny _ _ (exec (PySem.Stmt.Assign _ (PySem.Expr.ListComp _ _ _ _) _) _) _ _ _)); (fail_if_success (with_reducible show wpAny _ _ (call (Value.ref _) _) _ _ _)); (fail_if_success (with_reducible show wpAny _ _ (pyIter (Value.ref _)) _ _ _)); (fail_if_success (show LCg.CompSrc _ _ _ _ _ _ _ _ _ _ _ _ _ _)); first | (k_unfold; (try dsimp only)) | (k_end; wrow_close) | walk1 | (dsimp only; walk1) | (leave1; (try dsimp only)))))))
  rename News _ _ _ _ => NL
  rename Fr _ _ _ _ => FL
  rename IntsAre _ (_ ++ _) => hNums
  rename ¬ _ < _ => hmost
  rename Below _ _ _ _ => KB
  rename IsRange _ _ _ _ _ _ _ _ => hrng
  have hnl := hNums.length
  refine loop02 (w := _) rfl (by assumption) ⟨_, _, _, by assumption⟩ KB trivial hNums (by simp at hmost ⊢; omega) (by rw [List.length_append]; exact hrng) rfl FL NL (by assumption) (by assumption) (by k_ne) (by k_ne) (by k_ne) (by k_ne) ?_ (by passes_own)
  intro h tk m' F1
  have N1 := nilAt F1
  clear NL FL
  (repeat' (((first | ((fail_if_success (with_reducible show wpAny _ _ (exec (Stmt.While _ _ _ _) _) _ _ _)); (fail_if_success (with_reducible show wpAny _ _ (exec (Stmt.For _ _ _ _ _) _) _ _ _)); (fail_if_success (with_reducible show wpAny _ _ (eval (PySem.Expr.ListComp _ _ _ _) _) _ _ _)); (fail_if_success (with_reducible show wpAny _ _ (exec (PySem.Stmt.Assign _ (PySem.Expr.ListComp _ _ _ _) _) _) _ _ _)); (fail_if_success (with_reducible show wpAny _ _ (call (Value.ref _) _) _ _ _)); (fail_if_success (with_reducible show wpAny _ _ (pyIter (Value.ref _)) _ _ _)); (fail_if_success (show LCg.CompSrc _ _ _ _ _ _ _ _ _ _ _ _ _ _)); first | (k_unfold; (try dsimp only)) | (k_end; wrow_close) | walk1 | (dsimp only; walk1) | (leave1; (try dsimp only))))))))

end
end
end Mine

theorem PySem.Challenge.cw_io0038_02_holds : PySem.Challenge.rw_io0038_02.Holds :=
  Mine.law_holds
