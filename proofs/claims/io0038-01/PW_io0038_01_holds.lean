import PyProof.Rows.All
import Wide.All
import OpenK.AllK
import Wide.FinOn
import Lean
import PySem.Challenge.RW_io0038_01
open PySem PySem.W PyProof.Rows PySem.Calls
set_option Elab.async false
set_option maxRecDepth 100000
set_option maxHeartbeats 8000000
namespace Mine
set_option maxRecDepth 100000 in
set_option maxHeartbeats 8000000 in
open_top hd for PySem.Challenge.rw_io0038_01
example : True := by w_top off; trivial
noncomputable abbrev P := PySem.Challenge.rw_io0038_01.row.prog
noncomputable abbrev V := Mine.hd.view_39
abbrev TopH (h : Heap) : Prop := ∃ mean mg mb, Top V (looseW V []) mean mg mb h
abbrev AA (dp : Nat) (outer : List Env) (gd : Option (List Code)) (un : Nat) : Around := { handled := none, depth := dp, frames := some outer, guards := gd, units := un }

/-- what a call of a def without a change hands back -/
def Ret (s : Shared) (Post : Value → Heap → Prop) (r : Result) (s' : Shared) : Prop :=
  ∃ v h' tk, r = .ok (.ret v) ∧ s' = { s with heap := h', toks := tk } ∧ s.heap.StaysIn h' ∧ Post v h'

/-- entering a def of the text -/
theorem enter {w : World} {A : Around} {R : Result → Shared → Prop} {s : Shared} {name qual : Str} {params : Arguments} {body : List Stmt} {scope : Scope} {dV kV doc pm cdv ct oc : Value} {an od : Option Addr} {osl : Array (Option Value)} {f : Addr} {args : Args} {binds : List (Str × Value)}
    (X : (Mine.hd.heap_39 w.params).In s.heap) (T : TopH s.heap)
    (ho : (Mine.hd.heap_39 w.params).lookup f = some ⟨oc, od, .func (fnOf name qual params body scope dV kV doc pm an cdv ct), osl⟩) (hcd : codeIn (Mine.hd.heap_39 w.params) cdv qual = true) (hroom : A.depth < recursionLimit)
    (hbind : BindsTo s (fnOf name qual params body scope dV kV doc pm an cdv ct) args binds) (hloc : ∀ y ∈ binds, scope.names.lookup y.1 = some .local)
    (h : ∀ L' h₁ mean mg mb, Fr s.heap L' h₁ (fun y => binds.reverse.lookup y) → News s.heap L' h₁ [] → Top V (looseW V []) mean mg mb s.heap →
      wpAny (model P w) (A.deeper (envOf qual scope L' f cdv)) (execs body (envOf qual scope L' f cdv))
        (fun fl s' => R (.ok (.ret (match fl with | .ret v => v | _ => .none))) s')
        (fun _ _ => False)
        { s with heap := h₁, toks := s.toks + binds.length })
    (hco : scope.isCoroutine = false) (hgen : scope.isGenerator = false) (hk : scope.kind = .function) (hcell : ∀ x ∈ scope.names, x.2 ≠ .cell) :
    codeAny (model P w) A (.call (.ref f) args) R s := by
  obtain ⟨mean, mg, mb, T⟩ := T
  refine codeAny_call_def (fd := fnOf name qual params body scope dV kV doc pm an cdv ct) (body := body) (binds := binds) hroom (X _ _ ho) rfl T.nolimit (codeRec_of X hcd) rfl hbind hcell hloc (fun h₁ hns hk₁ => ?_) hco hgen hk
  exact wpAny_mono (h _ h₁ mean mg mb ⟨hns, hk₁, Nat.le_refl _⟩ (fun _ hp => nomatch hp) T) (fun _ _ x => x) fun _ _ x => x.elim

section
variable {prog : Program} {w : World} {A : Around} {E : Value → Shared → Prop} {s : Shared}
theorem truthy_list_ne {l : Addr} {items : Array Value} {texts : List Str} {Q : Bool → Shared → Prop} (hl : s.heap.IsList l items) (hi : StrsAre items.toList texts) (hne : texts ≠ []) (hfit : texts.length ≤ 2 ^ 24)
    (h : ∀ tk, Q true { s with toks := tk }) : wpAny (model prog w) A (truthy (.ref l)) Q E s := by
  have hlen := StrsAre.length hi
  refine wpAny_truthy_list hl (by rw [Array.length_toList] at hlen; omega) ?_
  have : items.isEmpty = false := by
    cases items with
    | mk xs => cases xs with
      | nil => cases texts with
        | nil => exact absurd rfl hne
        | cons _ _ => cases hi
      | cons _ _ => rfl
  rw [this]
  exact h _
theorem truthy_list_nil {l : Addr} {Q : Bool → Shared → Prop} (hl : s.heap.IsList l #[])
    (h : ∀ tk, Q false { s with toks := tk }) : wpAny (model prog w) A (truthy (.ref l)) Q E s := by
  refine wpAny_truthy_list hl (by decide) ?_
  exact h _
theorem truthy_tup_nil {l : Addr} {Q : Bool → Shared → Prop} (hl : IsTup s.heap l #[])
    (h : ∀ tk, Q false { s with toks := tk }) : wpAny (model prog w) A (truthy (.ref l)) Q E s := by
  refine truthy_tuple hl (by decide) ?_
  exact h _
theorem ret_of {s s' : Shared} {v : Value} {Post : Value → Heap → Prop} (hs : s.heap.StaysIn s'.heap) (hp : Post v s'.heap) (he : s' = { s with heap := s'.heap, toks := s'.toks }) : Ret s Post (.ok (.ret v)) s' :=
  ⟨v, s'.heap, s'.toks, rfl, he, hs, hp⟩
end
section
variable {prog : Program} {w : World} {A : Around} {E : Value → Shared → Prop} {s : Shared}
theorem eqAt_none_none {A : Around} {s : Shared} : SeqAt.EqAt A s .none .none true := SeqAt.EqAt.same _
theorem notin_sup_str {t : Addr} {x sup : Str} {tk u : Tok} {Q : Value → Shared → Prop} (ht : IsTup s.heap t #[.none, .str sup u]) (hx : x ≠ sup) (h : Q (.bool true) s) :
    wpAny (model prog w) A (compareOp .NotIn (.str x tk) (.ref t)) Q E s := by
  refine SeqAt.notIn_tupleAt (fun _ => false) ht (fun y hy => ?_) (by simpa using h)
  have hy' : y = .none ∨ y = .str sup u := by simpa using hy
  rcases hy' with rfl | rfl
  · exact SeqAt.EqAt.none_str _ _
  · have := SeqAt.EqAt.str_str (A := A.in1) (s := s) sup u x tk
    rwa [show (sup == x) = false from by simpa using fun e : sup = x => hx e.symm] at this
theorem notin_sup_none {t : Addr} {sup : Str} {u : Tok} {Q : Value → Shared → Prop} (ht : IsTup s.heap t #[.none, .str sup u]) (h : Q (.bool false) s) :
    wpAny (model prog w) A (compareOp .NotIn .none (.ref t)) Q E s := by
  refine SeqAt.notIn_tupleAt (fun y => match y with | .none => true | _ => false) ht (fun y hy => ?_) (by simpa using h)
  have hy' : y = .none ∨ y = .str sup u := by simpa using hy
  rcases hy' with rfl | rfl
  · exact SeqAt.EqAt.same _
  · exact SeqAt.EqAt.str_none _ _
theorem notin_sup_same {t : Addr} {sup : Str} {u tk : Tok} {Q : Value → Shared → Prop} (ht : IsTup s.heap t #[.none, .str sup u]) (h : Q (.bool false) s) :
    wpAny (model prog w) A (compareOp .NotIn (.str sup tk) (.ref t)) Q E s := by
  refine SeqAt.notIn_tupleAt (fun y => match y with | .none => false | _ => true) ht (fun y hy => ?_) (by simpa using h)
  have hy' : y = .none ∨ y = .str sup u := by simpa using hy
  rcases hy' with rfl | rfl
  · exact SeqAt.EqAt.none_str _ _
  · have := SeqAt.EqAt.str_str (A := A.in1) (s := s) sup u sup tk
    rwa [show (sup == sup) = true from by simp] at this
theorem notin_sup_tup {t l : Addr} {sup : Str} {u : Tok} {items : Array Value} {Q : Value → Shared → Prop} (ht : IsTup s.heap t #[.none, .str sup u]) (hl : IsTup s.heap l items) (hu : A.units + 1 < cLine) (h : Q (.bool true) s) :
    wpAny (model prog w) A (compareOp .NotIn (.ref l) (.ref t)) Q E s := by
  refine SeqAt.notIn_tupleAt (fun _ => false) ht (fun y hy => ?_) (by simpa using h)
  have hy' : y = .none ∨ y = .str sup u := by simpa using hy
  rcases hy' with rfl | rfl
  · exact SeqAt.EqAt.none_tuple hl hu
  · exact SeqAt.EqAt.str_tuple _ _ hl hu
end
/-- a metavar or a dest that says nothing -/
def Hidden (v : Value) : Prop := v = .none ∨ ∃ t, v = .str "==SUPPRESS==" t
theorem Hidden.none : Hidden .none := .inl rfl
theorem Hidden.handed {v : Value} (h : Hidden v) : W.handedIn v = true := by
  rcases h with rfl | ⟨_, rfl⟩ <;> rfl
theorem Hidden.sup {t : Tok} : Hidden (.str "==SUPPRESS==" t) := .inr ⟨t, rfl⟩
/-- an empty list or tuple -/
def Empty (h : Heap) (o : Addr) : Prop := h.IsList o #[] ∨ IsTup h o #[]
theorem Empty.keeps {h h' : Heap} {o : Addr} (k : h.StaysIn h') (e : Empty h o) : Empty h' o := e.elim (fun x => .inl (stays_list k x)) fun x => .inr (stays_tup k x)
section
variable {prog : Program} {w : World} {A : Around} {E : Value → Shared → Prop} {s : Shared}
theorem truthy_empty {l : Addr} {Q : Bool → Shared → Prop} (hl : Empty s.heap l)
    (h : ∀ tk, Q false { s with toks := tk }) : wpAny (model prog w) A (truthy (.ref l)) Q E s := by
  rcases hl with hl | hl
  · exact truthy_list_nil hl h
  · exact truthy_tup_nil hl h
theorem notin_sup_hidden {t : Addr} {v : Value} {u : Tok} {Q : Value → Shared → Prop} (ht : IsTup s.heap t #[.none, .str "==SUPPRESS==" u]) (hv : Hidden v) (h : Q (.bool false) s) :
    wpAny (model prog w) A (compareOp .NotIn v (.ref t)) Q E s := by
  rcases hv with rfl | ⟨_, rfl⟩
  · exact notin_sup_none ht h
  · exact notin_sup_same ht h
end
theorem isi_nested_same {v t : Value} {dep : Int} {tk : Tok} {Q : Fin → Shared → Prop} {M : Model} {A : Around} {E : Value → Shared → Prop} {s : Shared} (ht : Looks M s.heap (typeOf v) t) (h : Q (.done (.ret (.bool true))) s) :
    wpAny M A (Builtin.«isinstance.nested» ⟨[v, t, .int dep tk], []⟩) Q E s := by
  obtain ⟨hh, g, d, tt, os⟩ := s
  unfold Builtin.«isinstance.nested»
  refine wpAny_bind (ht.at ?_)
  rw [if_pos (by simp)]
  exact wpAny_bind (wpAny_rule (wpAny_bind (wpAny_pure (wpAny_pure h))))
section
variable {prog : Program} {w : World} {A : Around} {E : Value → Shared → Prop} {s : Shared}
theorem isi_tuple {l : Addr} {items : Array Value} {Q : Value → Shared → Prop} (hl : IsTup s.heap l items) (h : Q (.bool true) s) :
    wpAny (model prog w) A (call (.builtin "isinstance") [.ref l, .type "tuple"]) Q E s :=
  call_isinstance (S := fun _ R s => (∀ M, Looks M s.heap (typeOf (.ref l)) (.type "tuple")) ∧ R (.ok (.ret (.bool true))) s)
    (fun _ _ _ _ _ hs => isinstance_outer (isi_nested_same (hs.1 _) hs.2) (fun e => nomatch e))
    ⟨fun M A Q E s' k q => wpAny_typeOf (by obtain ⟨o, ho, hc, _⟩ := hl; exact ⟨o, k _ _ ho, hc⟩) q, h⟩
theorem len_tup {l : Addr} {items : Array Value} {Q : Value → Shared → Prop} (hl : IsTup s.heap l items) (hsz : items.size ≤ 2 ^ 24) (h : ∀ t tk, Q (.int items.size t) { s with toks := tk }) :
    wpAny (model prog w) A (call (.builtin "len") [.ref l]) Q E s :=
  len_tuple hl (by omega) (h _ _)
theorem mod_pair {x y : Str} {tF t u : Tok} {b : Addr} {Q : Value → Shared → Prop} (hb : IsTup s.heap b #[.str x t, .str y u]) (hx : x.length ≤ 1000000) (hy : y.length ≤ 1000000)
    (h : ∀ t' k, Q (.str (x ++ "[, " ++ y ++ "]") t') { s with toks := k }) : wpAny (model prog w) A (binaryOp .Mod (.str "%s[, %s]" tF) (.ref b)) Q E s := by
  have hT : s.TypeIs (.ref b) "tuple" := by
    obtain ⟨o, ho, hc, _⟩ := hb
    exact ⟨o, ho, hc⟩
  have hF : ("%s[, %s]" : Str) = Str.mk #[37, 115, 91, 44, 32, 37, 115, 93] := by decide +kernel
  rw [hF]
  have hm : Meets (Builtin.«str.__mod__» ⟨[.str (Str.mk #[37, 115, 91, 44, 32, 37, 115, 93]) tF, .ref b], []⟩) (fun _ R s => IsTup s.heap b #[.str x t, .str y u] ∧ ∀ t' k, R (.ok (.ret (.str (x ++ "[, " ++ y ++ "]") t'))) { s with toks := k }) := by
    kpt_run
  exact KPt.bin_left (T := "str") (U := "tuple") (op := .Mod) (by decide) (typeIs_str s _ tF) hT F.fills_str_mod KPt.fills_tuple F.slot_str_mod
    (call_meets F.slot_str_mod (typeIs_str s _ tF) F.entry_str_mod (F.args_str_mod_2 _ _) hm ⟨hb, fun t' k => ⟨(fun e => nomatch e), h t' k⟩⟩)
end

theorem join_len (sep : Str) : ∀ ts : List Str, (Txt.join sep ts).length ≤ (ts.map (·.length)).sum + ts.length * sep.length
  | [] => by show (Str.mk #[]).length ≤ _; exact Nat.zero_le _
  | [x] => by show x.length ≤ _; simp
  | x :: y :: r => by
    have ih := join_len sep (y :: r)
    have e : Txt.join sep (x :: y :: r) = x ++ sep ++ Txt.join sep (y :: r) := by
      show Builtin.Str.glued sep (x :: y :: r) = x ++ sep ++ Builtin.Str.glued sep (y :: r)
      rw [StrLaws.glued_eq_join, StrLaws.glued_eq_join]; rfl
    rw [e, Str.length_append, Str.length_append, List.map_cons, List.sum_cons, List.length_cons, Nat.succ_mul]
    omega
theorem join_len_le {sep : Str} {ts : List Str} (hs : sep.length ≤ 2) (hw : (ts.map (·.length)).sum + ts.length ≤ 100000) : (Txt.join sep ts).length ≤ 300000 := by
  have h1 := join_len sep ts
  have h2 : ts.length * sep.length ≤ ts.length * 2 := Nat.mul_le_mul_left _ hs
  omega
section
variable {prog : Program} {w : World} {A : Around} {E : Value → Shared → Prop} {s : Shared}
theorem mod_brace {y : Str} {tF t : Tok} {Q : Value → Shared → Prop} (hy : y.length ≤ 1000000)
    (h : ∀ t' k, Q (.str ("{" ++ y ++ "}") t') { s with toks := k }) : wpAny (model prog w) A (binaryOp .Mod (.str "{%s}" tF) (.str y t)) Q E s := by
  have hF : ("{%s}" : Str) = Str.mk #[123, 37, 115, 125] := by decide +kernel
  refine KPc.mod_str (T := fun z => "{" ++ z ++ "}") hF hy (fun z hz => ?_) h
  kpc_run_s
end

theorem le_big {a : Nat} (h : a ≤ 100000) : a ≤ 1048576 := Nat.le_trans h (by decide)

/-- a name's value set in a list of names -/
def mset (x : Str) (v : Value) : List (Str × Value) → List (Str × Value)
  | [] => [(x, v)]
  | (y, u) :: r => if x == y then (y, v) :: r else (y, u) :: mset x v r
theorem mset_at (x : Str) (v : Value) (y : Str) : ∀ l : List (Str × Value), List.lookup y (mset x v l) = if y = x then some v else List.lookup y l
  | [] => by
    unfold mset
    by_cases h : y = x
    · subst h; simp [List.lookup]
    · rw [if_neg h]; simp [List.lookup, show (y == x) = false from by simpa using h]
  | (z, u) :: r => by
    unfold mset
    by_cases hz : x = z
    · subst hz
      simp only [BEq.rfl, if_true]
      by_cases h : y = x
      · subst h; simp [List.lookup]
      · rw [if_neg h]; simp [List.lookup, show (y == x) = false from by simpa using h]
    · rw [if_neg (by simpa using hz)]
      by_cases h : y = z
      · subst h
        rw [if_neg (fun e => hz e.symm)]
        simp [List.lookup]
      · rw [List.lookup_cons, List.lookup_cons, show (y == z) = false from by simpa using h]
        exact mset_at x v y r
section
variable {prog : Program} {w : World} {A : Around} {E : Value → Shared → Prop} {s : Shared}
theorem item_at {value slice : PySem.Expr} {l : Addr} {vs : Array Value} {k : Int} {u : Tok} {v : Value} {Q : Value → Shared → Prop}
    (hl : s.heap.IsList l vs) (h0 : 0 ≤ k) (hhi : k < 2 ^ 63) (hx : vs[k.toNat]? = some v) (h : Q v s)
    (hs : subscripted slice false (.ref l) (.int k u) = operate [.ref l, .int k u] (getItem (.ref l) (.int k u)) := by with_unfolding_all rfl) :
    wpAny (model prog w) A (subscriptTail value slice (.ref l) (.int k u)) Q E s :=
  tail_any hl.typeIs F.slot_list_getitem.lookup (wpAny_getItem_list hl h0 hhi hx h) hs
end
section
variable {prog : Program} {w : World} {A : Around} {E : Value → Shared → Prop} {s : Shared}
end
section
variable {prog : Program} {w : World} {A : Around} {E : Value → Shared → Prop} {s : Shared} {h₀ : Heap} {L : Addr} {m : Str → Option Value} {news : List (Addr × Obj)}
theorem add_arraysL {l b : Addr} {its its2 : Array Value} {Q : Value → Shared → Prop} (F : Fr h₀ L s.heap m) (N : News h₀ L s.heap news) (hl : s.heap.IsList l its) (hb : s.heap.IsList b its2) (hsz : its.size + its2.size ≤ sizeLine)
    (h : ∀ D h', Fr h₀ L h' m → News h₀ L h' ((D, ({ cls := .type "list", data := .seq (its.toList ++ its2.toList).toArray } : Obj)) :: news) → (∀ p ∈ news, p.1 < D) → Q (.ref D) { s with heap := h' }) :
    wpAny (model prog w) A (binaryOp .Add (.ref l) (.ref b)) Q E s :=
  add_arrays F N hl hb (fun h' F' N' => h _ h' F' N' fun p hp => Heap.lt_size (N p hp).1) hsz
end
def nth : List Value → Nat → Option Value
  | [], _ => none
  | x :: _, 0 => some x
  | _ :: r, k + 1 => nth r k
theorem nth_eq : ∀ (l : List Value) (k : Nat), nth l k = l[k]?
  | [], k => by simp [nth]
  | x :: r, 0 => by simp [nth]
  | x :: r, k + 1 => by rw [nth, nth_eq r k]; simp
theorem item_nth {prog : Program} {w : World} {A : Around} {E : Value → Shared → Prop} {s : Shared} {value slice : PySem.Expr} {l : Addr} {vs : Array Value} {k : Int} {u : Tok} {v : Value} {Q : Value → Shared → Prop}
    (hl : s.heap.IsList l vs) (h0 : 0 ≤ k) (hhi : k < 2 ^ 63) (hx : nth vs.toList k.toNat = some v) (h : Q v s)
    (hs : subscripted slice false (.ref l) (.int k u) = operate [.ref l, .int k u] (getItem (.ref l) (.int k u)) := by with_unfolding_all rfl) :
    wpAny (model prog w) A (subscriptTail value slice (.ref l) (.int k u)) Q E s :=
  item_at hl h0 hhi (by rw [nth_eq, Array.getElem?_toList] at hx; exact hx) h hs
theorem ne_all {x D : Addr} {o : Obj} {l : List (Addr × Obj)} (h : ∀ p ∈ l, p.1 < D) (m : (x, o) ∈ l) : x ≠ D := Nat.ne_of_lt (h _ m)
theorem en_all {x D : Addr} {o : Obj} {l : List (Addr × Obj)} (h : ∀ p ∈ l, p.1 < D) (m : (x, o) ∈ l) : D ≠ x := Nat.ne_of_gt (h _ m)
theorem all_lt {D : Addr} {l l' : List (Addr × Obj)} (h : ∀ p ∈ l, p.1 < D) (hs : ∀ p ∈ l', p ∈ l) : ∀ q ∈ l', q.1 ≠ D := fun q hq => Nat.ne_of_lt (h q (hs q hq))
theorem room0 {dp a R : Nat} (h : dp + a < R) : dp < R := Nat.lt_of_le_of_lt (Nat.le_add_right dp a) h
theorem room1 {dp a k R : Nat} (h : dp + a < R) (hk : Nat.ble (1 + k) a = true) : dp + 1 + k < R := by
  have := Nat.le_of_ble_eq_true hk
  omega
theorem room3 {un a k R : Nat} (h : un + a < R) (hk : Nat.ble (3 + k) a = true) : un + 3 + k < R := by
  have := Nat.le_of_ble_eq_true hk
  omega

theorem join_snoc' (sep a : Str) (l : List Str) : Txt.join sep (l ++ [a]) = if l = [] then a else Txt.join sep l ++ sep ++ a := by
  show Builtin.Str.glued sep (l ++ [a]) = if l = [] then a else Builtin.Str.glued sep l ++ sep ++ a
  rw [StrLaws.glued_eq_join, StrLaws.glued_eq_join]
  exact PyProof.Rows.FinIter.join_snoc sep a l
theorem str_empty : Str.ofString "" = Str.empty := by decide +kernel
theorem item_nat (x : Str) (i : Nat) (h : i < x.length) : (Txt.item x (i : Int)).cps.toList = (x.cps.toList.drop i).take 1 := by
  unfold Txt.item Txt.charAt seqIndex?
  have h' : i < x.cps.size := h
  simp only [show ¬ ((i : Int) < 0) from by omega, if_false]
  rw [if_pos (by simp; exact h)]
  simp only [Option.bind_some, Int.toNat_natCast]
  rw [Array.getElem?_eq_getElem h']
  rw [List.drop_eq_getElem_cons (by simpa using h')]
  simp
theorem slice_clip (x : Str) (i j : Nat) (hj : x.length ≤ j) : Txt.slice x (some (i : Int)) (some (j : Int)) = Txt.slice x (some (i : Int)) (some (x.length : Int)) := by
  have : Builtin.Str.strSliceIndices (some (i : Int)) (some (j : Int)) 1 x.length = Builtin.Str.strSliceIndices (some (i : Int)) (some (x.length : Int)) 1 x.length := by
    unfold Builtin.Str.strSliceIndices
    simp only [show ¬ ((j : Int) < 0) from by omega, show ¬ ((x.length : Int) < 0) from by omega, if_false]
    rw [show min (j : Int) (x.length : Int) = x.length from by omega, show min (x.length : Int) (x.length : Int) = x.length from by omega]
    rfl
  unfold Txt.slice
  rw [this]
theorem slice_nat (x : Str) (i j : Nat) (h : i ≤ j) (hi : i ≤ x.length) : (Txt.slice x (some (i : Int)) (some (j : Int))).cps.toList = (x.cps.toList.drop i).take (j - i) := by
  rcases Nat.le_total j x.length with hj | hj
  · have e := eq_of_beq (slice_closesL (x := x) (i := (i : Int)) (j := (j : Int)) (by omega) (by omega) (by omega))
    rw [e]
    simp only [Int.toNat_natCast]
    rw [show ((j : Int) - (i : Int)).toNat = j - i from by omega]
  · rw [slice_clip x i j hj]
    have e := eq_of_beq (slice_closesL (x := x) (i := (i : Int)) (j := (x.length : Int)) (by omega) (by omega) (by omega))
    rw [e]
    simp only [Int.toNat_natCast]
    rw [show ((x.length : Int) - (i : Int)).toNat = x.length - i from by omega]
    have hl : (x.cps.toList.drop i).length = x.length - i := by simp [Str.length]
    rw [List.take_of_length_le (by omega), List.take_of_length_le (by omega)]
theorem str_ext {a b : Str} (h : a.cps.toList = b.cps.toList) : a = b := Str.ext' (Array.toList_inj.mp h)
theorem toList_append (a b : Str) : (a ++ b).cps.toList = a.cps.toList ++ b.cps.toList := by rw [Str.cps_append]; simp
theorem StrsAre.snoc {vs : List Value} {ys : List Str} (h : StrsAre vs ys) (y : Str) (t : Tok) : StrsAre (vs ++ [.str y t]) (ys ++ [y]) := by
  induction h with
  | nil => exact .cons _ _ .nil
  | cons _ _ _ ih => exact .cons _ _ ih
/-- a turn's end: what it hands back, or the next turn's state -/
def TurnH (h₀ : Heap) (L : Addr) (s : Shared) (Q : Flow → Shared → Prop) (St' : Heap → Prop) (J' : (Str → Option Value) → Heap → Prop) (f : Flow) (s' : Shared) : Prop :=
  match f with
  | .ret v => Q (.ret v) s'
  | .brk => Q .next s'
  | _ => ∃ h' tk' m', s' = { s with heap := h', toks := tk' } ∧ St' h' ∧ Fr h₀ L h' m' ∧ J' m' h'
theorem TurnH.intro {h₀ : Heap} {L : Addr} {s : Shared} {Q : Flow → Shared → Prop} {St' : Heap → Prop} {J' : (Str → Option Value) → Heap → Prop} {h' : Heap} {tk' : Nat} {m' : Str → Option Value}
    (F : Fr h₀ L h' m') (st : St' h') (j : J' m' h') : TurnH h₀ L s Q St' J' .next { s with heap := h', toks := tk' } := ⟨h', tk', m', rfl, st, F, j⟩
theorem TurnH.ret {h₀ : Heap} {L : Addr} {s s' : Shared} {Q : Flow → Shared → Prop} {St' : Heap → Prop} {J' : (Str → Option Value) → Heap → Prop} {v : Value} (q : Q (.ret v) s') : TurnH h₀ L s Q St' J' (.ret v) s' := q

section
variable {prog : Program} {w : World} {A : Around} {s : Shared} {env : Env} {h₀ : Heap} {E : Value → Shared → Prop} {Q : Flow → Shared → Prop}
theorem loop_heap {x : Str} {px : Pos} {body : List Stmt} {I : Addr} {fp wr : List Addr} {n : Nat} {P : Nat → Value → Prop} {St : Nat → Heap → Prop} {m₀ : Str → Option Value}
    (J : Nat → (Str → Option Value) → Heap → Prop) (W : Walks prog w A I fp wr n P St) (hx : env.kindOf x = some .local)
    (hp : (env.scope.kind == .class || (env.scope.kind == .module && env.locals != env.globals)) = false)
    (hLf : env.locals ∉ fp) (hwr : ∀ b ∈ wr, h₀.get? b = none) (hst : St 0 s.heap) (F : Fr h₀ env.locals s.heap m₀) (h0 : J 0 m₀ s.heap)
    (hJ : ∀ i m h h', J i m h → (∀ b o, b ∉ wr → b ≠ env.locals → h.get? b = some o → h'.get? b = some o) → J i m h')
    (turn : ∀ i v m₁ h tk, i < n → P i v → J i m₁ h → St (i + 1) h → Fr h₀ env.locals h (fun y => if y = x then some v else m₁ y) →
      wpAny (model prog w) A (execs body env) (TurnH h₀ env.locals s Q (St (i + 1)) (J (i + 1))) E { s with heap := h, toks := tk })
    (done : ∀ m₁ h tk, J n m₁ h → Fr h₀ env.locals h m₁ → Q .next { s with heap := h, toks := tk })
    (hE : PassesOwn (model prog w) A env E) :
    codeAny (model prog w) A (.forLoop (.Name x px) (.ref I) body [] env) (fun r s' => match r with | .ok f => Q f s' | .error e => cameBackBy (model prog w) A env E e s') s := by
  have hLw : env.locals ∉ wr := fun h => hLf (W.sub _ h)
  have old : ∀ b o, h₀.get? b = some o → b ∉ wr := fun b o e hb => by rw [hwr b hb] at e; cases e
  refine codeAny_forLoop (fun k s' => ∃ h' tk m' i, s' = { s with heap := h', toks := tk } ∧ St i h' ∧ Fr h₀ env.locals h' m' ∧ J i m' h' ∧ i ≤ n ∧ k = n + 1 - i) ?_ (n + 1)
    ⟨s.heap, s.toks, m₀, 0, rfl, hst, F, h0, Nat.zero_le _, rfl⟩
  rintro k s' ⟨h', tk, m', i, rfl, hst', F', hJ', hi, rfl⟩
  have next : ∀ h₁ : Heap, (∀ b o, b ∉ wr → h'.get? b = some o → h₁.get? b = some o) → Fr h₀ env.locals h₁ m' := fun h₁ hk₁ =>
    ⟨F'.ns.at' fun o e => hk₁ _ o hLw e, fun b o e => hk₁ b o (old b o e) (F'.keep b o e), F'.above⟩
  by_cases hlt : i < n
  · refine W.item i _ _ _ hlt hst' fun v h₁ tk₁ hP hst₁ hk₁ => ?_
    have F₁ := next h₁ hk₁
    refine wpAny_assign_Name (wpAny_storeName_local hx F₁.ns (fun h₂ hn₂ hs₂ => ?_) hp)
    have F₂ := F₁.set hn₂ hs₂
    have hst₂ : St (i + 1) h₂ := W.frame _ _ _ hst₁ fun b hb o e => (hs₂.2 b fun q => hLf (q ▸ hb)).trans e
    have hJ₂ : J i m' h₂ := hJ i m' h' h₂ hJ' fun b o hb hL e => (hs₂.2 b hL).trans (hk₁ b o hb e)
    refine wpAny_passesOwn hE (wpAny_mono (turn i v m' h₂ _ hlt hP hJ₂ hst₂ F₂) (fun f s₃ h₃ => ?_) fun _ _ e => e)
    cases f with
    | ret v => exact h₃
    | brk => exact h₃
    | cont =>
      obtain ⟨h₃', tk₃, m₂, rfl, st₃, F₃, J₃⟩ := h₃
      exact ⟨n + 1 - (i + 1), by omega, h₃', tk₃, m₂, i + 1, rfl, st₃, F₃, J₃, hlt, rfl⟩
    | next =>
      obtain ⟨h₃', tk₃, m₂, rfl, st₃, F₃, J₃⟩ := h₃
      exact ⟨n + 1 - (i + 1), by omega, h₃', tk₃, m₂, i + 1, rfl, st₃, F₃, J₃, hlt, rfl⟩
  · have hin : i = n := by omega
    subst hin
    refine W.done _ _ _ hst' fun h₁ tk₁ hk₁ => wpAny_execs_nil ?_
    exact done m' h₁ tk₁ (hJ _ _ _ _ hJ' fun b o hb _ e => hk₁ b o hb e) (next h₁ hk₁)

theorem Fr.ne_list {L l : Addr} {h : Heap} {m : Str → Option Value} {items : Array Value} (F : Fr h₀ L h m) (hl : h.IsList l items) : l ≠ L := by
  intro e
  obtain ⟨o, es, ep, ho, hd, _⟩ := F.ns
  obtain ⟨o', ho', _, n, hd'⟩ := hl
  rw [e, ho] at ho'
  cases ho'
  rw [hd] at hd'
  cases hd'

/-- for x in a list -/
theorem iter_list {x : Str} {px : Pos} {body : List Stmt} {l : Addr} {items : Array Value} {m₀ : Str → Option Value}
    (J : Nat → (Str → Option Value) → Heap → Prop) (hl : s.heap.IsList l items) (F : Fr h₀ env.locals s.heap m₀) (h0 : J 0 m₀ s.heap)
    (hJ : ∀ i m h h', J i m h → (∀ b o, b ≠ s.heap.objs.size → b ≠ env.locals → h.get? b = some o → h'.get? b = some o) → J i m h')
    (turn : ∀ i v m₁ h tk, items[i]? = some v → J i m₁ h → h.IsListIter s.heap.objs.size l (i + 1) → h.IsList l items → h₀.get? s.heap.objs.size = none → s.heap.objs.size ≠ env.locals → Fr h₀ env.locals h (fun y => if y = x then some v else m₁ y) →
      wpAny (model prog w) A (execs body env) (TurnH h₀ env.locals s Q (fun h' => h'.IsListIter s.heap.objs.size l (i + 1) ∧ h'.IsList l items) (J (i + 1))) E { s with heap := h, toks := tk })
    (done : ∀ m₁ h tk, J items.size m₁ h → Fr h₀ env.locals h m₁ → Q .next { s with heap := h, toks := tk })
    (hh : A.handled = none := by rfl) (hx : env.kindOf x = some .local := by rfl)
    (hp : (env.scope.kind == .class || (env.scope.kind == .module && env.locals != env.globals)) = false := by rfl)
    (hE : PassesOwn (model prog w) A env E := by passes_own) :
    wpAny (model prog w) A (pyIter (.ref l)) (fun it s₂ => codeAny (model prog w) A (.forLoop (.Name x px) it body [] env) (fun r s' => match r with | .ok f => Q f s' | .error e => cameBackBy (model prog w) A env E e s') s₂) E s := by
  refine wpAny_pyIter_list hl ?_
  have hne : l ≠ s.heap.objs.size := by obtain ⟨o, ho, _⟩ := hl; exact Nat.ne_of_lt (Heap.lt_size ho)
  have hIL : s.heap.objs.size ≠ env.locals := Nat.ne_of_gt F.ns.lt
  have W := Walks.list (prog := prog) (w := w) hh s.heap.objs.size l hne items
  have st0 : (fun (i : Nat) (h : Heap) => h.IsListIter s.heap.objs.size l i ∧ h.IsList l items) 0 (s.heap.push { cls := .type "list_iterator", data := .fields #[.ref l, .int 0 0] }) :=
    ⟨⟨_, Heap.get?_push_size _ rfl, rfl, rfl⟩, hl.at fun o e => Heap.get?_push_of_some _ e⟩
  refine loop_heap (s := { s with heap := s.heap.push { cls := .type "list_iterator", data := .fields #[.ref l, .int 0 0] } }) J W hx hp ?_ ?_ st0 (F.push _) (hJ _ _ _ _ h0 fun b o _ _ e => Heap.get?_push_of_some _ e) ?_ ?_ ?_ hE
  · intro hm
    rcases List.mem_cons.mp hm with e | hm
    · exact hIL e.symm
    · exact Fr.ne_list F hl (List.mem_singleton.mp hm).symm
  · intro b hb
    rw [List.mem_singleton.mp hb]
    exact none_at_size F
  · intro i m h h' j k
    exact hJ i m h h' j fun b o hb hL e => k b o (by simpa using hb) hL e
  · intro i v m₁ h tk hi hP j st F₁
    exact turn i v m₁ h tk hP j st.1 st.2 (none_at_size F) hIL F₁
  · intro m₁ h tk j F₁
    exact done m₁ h tk j F₁

end

/-- a comprehension's elements, each by what holds of it -/
theorem comp_rest {prog : Program} {w : World} {A : Around} {h₀ : Heap} {L : Addr} {m : Str → Option Value} {env : Env} {elt : PySem.Expr} {x : Str} {scope : Scope} {cl : List (Str × Addr)} {s : Shared} {S : List (Addr × Obj) → Prop} {P : Nat → Value → Prop} {Fin : List Value → List (Addr × Obj) → Prop} {news : List (Addr × Obj)} {n : Nat} (R : Nat → Value → Prop)
    (turn : ∀ i v I oI C oC D m₂ ys h tk (E' : Value → Shared → Prop), i < n → P i v → LCg.NsObj oC m₂ → m₂ x = some v → Fr h₀ L h m → News h₀ L h ((I, oI) :: (C, oC) :: (D, LCg.lst ys) :: news) → LCg.Off3 I C D news → ((@Ne Nat I C) ∧ (@Ne Nat I D) ∧ (@Ne Nat C D)) →
      wpAny (model prog w) A (eval elt (compEnvC scope cl C env)) (LCg.CompEnd h₀ L m { s with heap := h, toks := tk } I oI C oC D (LCg.lst ys) S (fun y news' => news' = news ∧ R i y)) E' { s with heap := h, toks := tk })
    (fin : ∀ ys : List Value, ys.length = n → (∀ i (h : i < ys.length), R i ys[i]) → Fin ys news) : LCg.CompRest prog w A h₀ L m env elt x scope cl s S P Fin n 0 [] news := by
  have key : ∀ (j i : Nat) (ys : List Value), i + j = n → ys.length = i → (∀ k (h : k < ys.length), R k ys[k]) → LCg.CompRest prog w A h₀ L m env elt x scope cl s S P Fin j i ys news := by
    intro j
    induction j with
    | zero =>
      intro i ys hi hl hy
      exact LCg.CompRest.zero (fin ys (by omega) hy)
    | succ j ih =>
      intro i ys hi hl hy
      refine LCg.CompRest.succ ?_
      intro v I oI C oC D m₂ h tk E' hv hC hx F N off ne
      refine wpAny_mono (turn i v I oI C oC D m₂ ys h tk E' (by omega) hv hC hx F N off ne) (fun y s₂ hq => ?_) fun _ _ e => e
      obtain ⟨h', tk', nw, e, F', N', off', hS, rfl, hy'⟩ := hq
      refine ⟨h', tk', _, e, F', N', off', hS, ih (i + 1) _ (by omega) (by simp [hl]) ?_⟩
      intro k hk
      rcases Nat.lt_or_ge k ys.length with hlt | hge
      · rw [List.getElem_append_left hlt]; exact hy k hlt
      · have : k = ys.length := by simp at hk; omega
        subst this
        rw [List.getElem_append_right (Nat.le_refl _)]
        simpa [hl] using hy'
  exact key n 0 [] (by omega) rfl (fun k hk => absurd hk (Nat.not_lt_zero _))
section
variable {prog : Program} {w : World} {A : Around} {s : Shared} {env : Env} {h₀ : Heap} {E : Value → Shared → Prop} {Q : Flow → Shared → Prop}
end
theorem News.stays {h₀ h h' : Heap} {L : Addr} {news : List (Addr × Obj)} (N : News h₀ L h news) (k : h.StaysIn h') : News h₀ L h' news := fun p hp => ⟨k _ _ (N p hp).1, (N p hp).2⟩
theorem News.but {h₀ h h' : Heap} {L I : Addr} {news : List (Addr × Obj)} (N : News h₀ L h news) (hI : ∀ p ∈ news, p.1 ≠ I) (k : ∀ b o, b ≠ I → b ≠ L → h.get? b = some o → h'.get? b = some o) : News h₀ L h' news := fun p hp => ⟨k _ _ (hI p hp) (N p hp).2.1 (N p hp).1, (N p hp).2⟩
theorem News.old {h₀ h : Heap} {L : Addr} {news : List (Addr × Obj)} (N : News h₀ L h news) : ∀ p ∈ news, p.1 ≠ h.objs.size := fun p hp => Nat.ne_of_lt (Heap.lt_size (N p hp).1)
theorem News.add {h₀ h : Heap} {L : Addr} {p : Addr × Obj} {news : List (Addr × Obj)} (N : News h₀ L h news) (a : h.get? p.1 = some p.2) (b : p.1 ≠ L) (c : h₀.get? p.1 = none) : News h₀ L h (p :: news) := fun q hq => by
  rcases List.mem_cons.mp hq with rfl | hq
  · exact ⟨a, b, c⟩
  · exact N q hq
/-- a call of a def by its contract -/
theorem call_of {w : World} {A : Around} {s : Shared} {E : Value → Shared → Prop} {Q : Value → Shared → Prop} {h₀ : Heap} {L : Addr} {m : Str → Option Value} {news : List (Addr × Obj)} {f : Value} {args : List Value} {Post : Value → Heap → Prop}
    (hc : codeAny (model P w) A (.call f ⟨args, []⟩) (Ret s Post) s) (F : Fr h₀ L s.heap m) (N : News h₀ L s.heap news)
    (h : ∀ v h' tk, Fr h₀ L h' m → News h₀ L h' news → s.heap.StaysIn h' → Post v h' → Q v { s with heap := h', toks := tk }) :
    wpAny (model P w) A (call f args) Q E s := by
  refine wpAny_call (codeAny_mono hc ?_)
  rintro r s' ⟨v, h', tk, rfl, rfl, hs, hp⟩
  exact h v h' tk (F.keeps hs) (News.stays N hs) hs hp
theorem call_at {w : World} {A₀ : Around} {dp un : Nat} {outer : List Env} {gd : Option (List Code)} {base h₀ : Heap} {cn : Str} {cs : Scope} {L a : Addr} {ccd : Value} {s : Shared} {E : Value → Shared → Prop} {Q : Value → Shared → Prop} {m : Str → Option Value} {news : List (Addr × Obj)} {f : Value} {args : List Value} {Post : Value → Heap → Prop}
    (B : Below A₀ base outer h₀) (F : Fr h₀ L s.heap m) (N : News h₀ L s.heap news) (hA : A₀ = AA dp outer gd un) (hk : cs.kind = .function)
    (hc : Below (AA (dp + 1) (envOf cn cs L a ccd :: outer) gd (un + 3)) base (envOf cn cs L a ccd :: outer) s.heap → codeAny (model P w) (AA (dp + 1) (envOf cn cs L a ccd :: outer) gd (un + 3)) (.call f ⟨args, []⟩) (Ret s Post) s)
    (h : ∀ v h' tk, Fr h₀ L h' m → News h₀ L h' news → s.heap.StaysIn h' → Post v h' → Q v { s with heap := h', toks := tk }) :
    wpAny (model P w) (A₀.deeper (envOf cn cs L a ccd)) (call f args) Q E s := by
  subst hA
  exact call_of (hc (Below.push B F hk)) F N h
theorem News.fresh {h₀ h h' : Heap} {L l : Addr} {m : Str → Option Value} {o : Obj} {news : List (Addr × Obj)} (F : Fr h₀ L h m) (N : News h₀ L h' news) (hn : h.get? l = none) (hl : h'.get? l = some o) : News h₀ L h' ((l, o) :: news) := by
  refine News.add N hl ?_ ?_
  · intro e
    obtain ⟨oL, es, ep, hL, _⟩ := F.ns
    rw [← show l = L from e, hn] at hL
    cases hL
  · cases q : h₀.get? l with
    | none => rfl
    | some o' => have := F.keep _ _ q; rw [hn] at this; cases this
/-- an item of a list at an open place, by what holds of all its items -/
theorem item_any {prog : Program} {w : World} {A : Around} {s : Shared} {E : Value → Shared → Prop} {value slice : PySem.Expr} {l : Addr} {vs : Array Value} {k : Int} {u : Tok} {Q : Value → Shared → Prop} (C : Value → Prop)
    (hl : s.heap.IsList l vs) (h0 : 0 ≤ k) (hk : k < (vs.size : Int)) (hn : vs.size ≤ 100) (hC : ∀ v ∈ vs.toList, C v) (h : ∀ v, C v → Q v s)
    (hs : subscripted slice false (.ref l) (.int k u) = operate [.ref l, .int k u] (getItem (.ref l) (.int k u)) := by with_unfolding_all rfl) :
    wpAny (model prog w) A (subscriptTail value slice (.ref l) (.int k u)) Q E s := by
  have hk' : k.toNat < vs.size := by omega
  exact item_at hl h0 (by omega) (Array.getElem?_eq_getElem hk') (h _ (hC _ (by simp))) hs
def NargsOk (k : Nat) (n : Value) : Prop := n = .none ∨ (∃ i t, n = .int i t) ∨ (∃ x t, n = .str x t ∧ x ≠ "+" ∧ (x = "*" → k ≠ 2))
theorem NargsOk.str {k : Nat} {x : Str} {t : Tok} (h : x ≠ "+") (h' : x = "*" → k ≠ 2) : NargsOk k (.str x t) := .inr (.inr ⟨x, t, rfl, h, h'⟩)
theorem item_nargs {prog : Program} {w : World} {A : Around} {s : Shared} {E : Value → Shared → Prop} {value slice : PySem.Expr} {l : Addr} {vs : Array Value} {k : Int} {u : Tok} {its : List Value} {ps : List Str} {Q : Value → Shared → Prop} (_hS : StrsAre its ps)
    (hl : s.heap.IsList l vs) (h0 : 0 ≤ k) (hk : k < (vs.size : Int)) (hn : vs.size ≤ 100) (hC : ∀ v ∈ vs.toList, NargsOk ps.length v) (h : ∀ v, NargsOk ps.length v → Q v s)
    (hs : subscripted slice false (.ref l) (.int k u) = operate [.ref l, .int k u] (getItem (.ref l) (.int k u)) := by with_unfolding_all rfl) :
    wpAny (model prog w) A (subscriptTail value slice (.ref l) (.int k u)) Q E s := item_any (NargsOk ps.length) hl h0 hk hn hC h hs
theorem item_hidden {prog : Program} {w : World} {A : Around} {s : Shared} {E : Value → Shared → Prop} {value slice : PySem.Expr} {l : Addr} {k : Int} {u t : Tok} {Q : Value → Shared → Prop}
    (hl : s.heap.IsList l #[.none, .str "==SUPPRESS==" t]) (h0 : 0 ≤ k) (hk : k < 2) (h : ∀ v, Hidden v → Q v s)
    (hs : subscripted slice false (.ref l) (.int k u) = operate [.ref l, .int k u] (getItem (.ref l) (.int k u)) := by with_unfolding_all rfl) :
    wpAny (model prog w) A (subscriptTail value slice (.ref l) (.int k u)) Q E s := item_any Hidden hl h0 (by simpa using hk) (Nat.le_of_ble_eq_true rfl) (fun v hv => by
      simp at hv
      rcases hv with rfl | rfl
      · exact Hidden.none
      · exact Hidden.sup) h hs
theorem nargs_all4 {k : Nat} {i : Int} {t1 t2 t4 : Tok} {z : Str} (hz : z ≠ "+") (hz' : z = "*" → k ≠ 2) : ∀ v ∈ (#[.none, .str "?" t1, .int i t2, .str z t4] : Array Value).toList, NargsOk k v := by
  intro v hv
  simp at hv
  rcases hv with rfl | rfl | rfl | rfl
  · exact .inl rfl
  · exact .str (by decide) (fun e => absurd e (by decide))
  · exact .inr (.inl ⟨_, _, rfl⟩)
  · exact .str hz hz'

/-- v is d in every heap that holds g and what was made between h and h' -/
def Made (g h h' : Heap) (v : Value) (d : PyData) : Prop :=
  ∀ g' : Heap, g.StaysIn g' → (∀ a o, h.get? a = none → h'.get? a = some o → g'.get? a = some o) → ∃ as, Reads g' v d as

def freshOf (h h' : Heap) : List (Addr × Obj) := (List.range h'.objs.size).filterMap fun a => match h.get? a with
  | none => (h'.get? a).map fun o => (a, o)
  | some _ => none
theorem mem_fresh {h h' : Heap} {p : Addr × Obj} (hp : p ∈ freshOf h h') : h.get? p.1 = none ∧ h'.get? p.1 = some p.2 := by
  obtain ⟨a, _, e⟩ := List.mem_filterMap.mp hp
  split at e
  · rename_i q
    cases hq : h'.get? a with
    | none => rw [hq] at e; cases e
    | some o => rw [hq] at e; cases e; exact ⟨q, hq⟩
  · cases e
theorem fresh_mem {h h' : Heap} {a : Addr} {o : Obj} (e : h.get? a = none) (e' : h'.get? a = some o) : (a, o) ∈ freshOf h h' :=
  List.mem_filterMap.mpr ⟨a, List.mem_range.mpr (Heap.lt_size e'), by rw [e, e']; rfl⟩

def keepOnly (h : Heap) (p : Addr → Bool) : Heap := hideAll h ((List.range h.objs.size).filter fun a => !p a)
theorem keepOnly_get {h : Heap} {p : Addr → Bool} {a : Addr} {o : Obj} (e : h.get? a = some o) (hp : p a = true) : (keepOnly h p).get? a = some o :=
  hideAll_get _ e fun hm => by
    have := (List.mem_filter.mp hm).2
    rw [hp] at this; cases this
theorem keepOnly_of {h : Heap} {p : Addr → Bool} {a : Addr} {o : Obj} (e : (keepOnly h p).get? a = some o) : h.get? a = some o ∧ p a = true := by
  refine ⟨of_hideAll _ e, ?_⟩
  cases hp : p a with
  | true => rfl
  | false =>
    have hlt : a < h.objs.size := Heap.lt_size (of_hideAll _ e)
    have hm : a ∈ (List.range h.objs.size).filter fun a => !p a := List.mem_filter.mpr ⟨List.mem_range.mpr hlt, by rw [hp]; rfl⟩
    have := hideAll_none (h := h) _ hm
    unfold keepOnly at e
    rw [this] at e; cases e

/-- the heap of g₀ and of a ledger alone -/
def dataHeap (h g₀ : Heap) (Z : List (Addr × Obj)) : Heap := keepOnly h fun a => (g₀.get? a).isSome || Z.any fun p => p.1 == a
section
variable {h₀ h h' g₀ : Heap} {L : Addr} {m : Str → Option Value} {Z act news : List (Addr × Obj)} {v : Value} {d : PyData}
theorem dataHeap_in : (dataHeap h g₀ Z).StaysIn h := fun _ _ e => (keepOnly_of e).1
theorem dataHeap_base (k : g₀.StaysIn h) : g₀.StaysIn (dataHeap h g₀ Z) := fun b o e => keepOnly_get (k b o e) (by rw [e]; rfl)
theorem dataHeap_led (k : ∀ p ∈ Z, h.get? p.1 = some p.2) : ∀ p ∈ Z, (dataHeap h g₀ Z).get? p.1 = some p.2 := fun p hp =>
  keepOnly_get (k p hp) (by rw [Bool.or_eq_true]; exact .inr (List.any_eq_true.mpr ⟨p, hp, by simp⟩))
theorem dataHeap_out {H : Heap} (k0 : g₀.StaysIn h) (k : ∀ p ∈ Z, h.get? p.1 = some p.2) (a : g₀.StaysIn H) (b : ∀ p ∈ Z, H.get? p.1 = some p.2) : (dataHeap h g₀ Z).StaysIn H := fun x o e => by
  obtain ⟨e1, e2⟩ := keepOnly_of e
  rw [Bool.or_eq_true] at e2
  rcases e2 with e2 | e2
  · obtain ⟨o', ho'⟩ := Option.isSome_iff_exists.mp e2
    have := k0 x o' ho'
    rw [e1] at this
    cases this
    exact a x o ho'
  · obtain ⟨p, hp, hx⟩ := List.any_eq_true.mp e2
    have hx' : p.1 = x := by simpa using hx
    have h1 := k p hp
    rw [hx', e1] at h1
    cases h1
    have h2 := b p hp
    rw [hx'] at h2
    exact h2

/-- a result over the ledger is made since the base -/
theorem made_of (N : News h₀ L h' news) (r : ReadsVia g₀ news v d) : Made g₀ h₀ h' v d := fun g' hk hn =>
  r g' hk fun p hp => hn _ _ (N p hp).2.2 (N p hp).1
theorem made_old {as : List Addr} (r : Reads g₀ v d as) : Made g₀ h₀ h' v d := fun _ hk _ => ⟨as, Reads.keeps hk r⟩

theorem rv_list {a : Addr} {items : Array Value} {n : Nat} {ds : List PyData} (hm : (a, W.listOf items n) ∈ news) (r : ReadsViaAll g₀ news items.toList ds) : ReadsVia g₀ news (.ref a) (.list ds) := fun h hk hn => by
  obtain ⟨as, ra⟩ := r h hk hn
  exact ⟨a :: as, .list (hn _ hm) rfl rfl ra⟩
theorem rv_all_more {news' : List (Addr × Obj)} {vs : List Value} {ds : List PyData} (r : ReadsViaAll g₀ news vs ds) (hs : ∀ p ∈ news, p ∈ news') : ReadsViaAll g₀ news' vs ds := fun h hk hn => r h hk fun p hp => hn p (hs p hp)
end

theorem call_data {w : World} {A₀ : Around} {dp un : Nat} {outer : List Env} {gd : Option (List Code)} {base h₀ g₀ : Heap} {cn : Str} {cs : Scope} {L a : Addr} {ccd : Value} {s : Shared} {E : Value → Shared → Prop} {Q : Value → Shared → Prop} {m : Str → Option Value} {act Z : List (Addr × Obj)} {f : Value} {args : List Value} {d : PyData}
    (B : Below A₀ base outer h₀) (F : Fr h₀ L s.heap m) (N : News h₀ L s.heap (act ++ Z)) (hA : A₀ = AA dp outer gd un) (hk : cs.kind = .function) (hg : g₀.StaysIn h₀)
    (hc : ∀ g : Heap, g.StaysIn s.heap → g₀.StaysIn g → (∀ p ∈ Z, g.get? p.1 = some p.2) → Below (AA (dp + 1) (envOf cn cs L a ccd :: outer) gd (un + 3)) base (envOf cn cs L a ccd :: outer) s.heap →
      codeAny (model P w) (AA (dp + 1) (envOf cn cs L a ccd :: outer) gd (un + 3)) (.call f ⟨args, []⟩) (Ret s fun v h' => Made g s.heap h' v d) s)
    (h : ∀ v h' tk Y, Fr h₀ L h' m → News h₀ L h' (act ++ (Z ++ Y)) → (∀ p ∈ Y, s.heap.get? p.1 = none) → s.heap.StaysIn h' → ReadsVia g₀ (Z ++ Y) v d → Q v { s with heap := h', toks := tk }) :
    wpAny (model P w) (A₀.deeper (envOf cn cs L a ccd)) (call f args) Q E s := by
  have k0 : g₀.StaysIn s.heap := fun b o e => F.keep b o (hg b o e)
  have kZ : ∀ p ∈ Z, s.heap.get? p.1 = some p.2 := fun p hp => (N p (List.mem_append_right _ hp)).1
  refine call_at B F N hA hk (fun BB => hc (dataHeap s.heap g₀ Z) dataHeap_in (dataHeap_base k0) (dataHeap_led kZ) BB) fun v h' tk F' N' st hm => ?_
  refine h v h' tk (freshOf s.heap h') F' ?_ (fun p hp => (mem_fresh hp).1) st ?_
  · intro p hp
    rcases List.mem_append.mp hp with hp | hp
    · exact N' p (List.mem_append_left _ hp)
    rcases List.mem_append.mp hp with hp | hp
    · exact N' p (List.mem_append_right _ hp)
    obtain ⟨e1, e2⟩ := mem_fresh hp
    exact News.fresh F (news := []) (fun _ hq => nomatch hq) e1 e2 p (.head _)
  · intro H h1 h2
    refine hm H (dataHeap_out k0 kZ h1 fun p hp => h2 p (List.mem_append_left _ hp)) fun x o e e' => ?_
    exact h2 _ (List.mem_append_right _ (fresh_mem e e'))

theorem Made.before {g h₀ h h' : Heap} {v : Value} {d : PyData} (k : h₀.StaysIn h) (m : Made g h h' v d) : Made g h₀ h' v d := fun g' hk hn =>
  m g' hk fun a o e e' => hn a o (by
    cases q : h₀.get? a with
    | none => rfl
    | some o' => have := k _ _ q; rw [e] at this; cases this) e'
theorem Made.after {g h h' h'' : Heap} {v : Value} {d : PyData} (k : h'.StaysIn h'') (m : Made g h h' v d) : Made g h h'' v d := fun g' hk hn =>
  m g' hk fun a o e e' => hn a o e (k _ _ e')

/-! the plain law of 01: reading the name of a tree gives the tree -/
inductive Kd | c | p | o | t
deriving DecidableEq
inductive Tr | word (w : List Nat) | node (k : Kd) (ts : List Tr)

def mkw (l : List Nat) : PyData := .str ⟨l.toArray⟩
def kdS : Kd → Str
  | .c => "c" | .p => "p" | .o => "o" | .t => "t"
def glue (sep : List Nat) : List (List Nat) → List Nat
  | [] => []
  | [x] => x
  | x :: y :: r => x ++ sep ++ glue sep (y :: r)
mutual
def Tr.nm : Tr → List Nat
  | .word w => w
  | .node k ts => match k with
    | .c => 123 :: (glue [44] (nms ts) ++ [125])
    | .p => glue [91, 44, 32] (nms ts) ++ [93]
    | .o => glue [47] (nms ts)
    | .t => glue [44, 32] (nms ts)
def nms : List Tr → List (List Nat)
  | [] => []
  | t :: ts => t.nm :: nms ts
end
mutual
def Tr.dt : Tr → PyData
  | .word w => mkw w
  | .node k ts => .list (.str (kdS k) :: dts ts)
def dts : List Tr → List PyData
  | [] => []
  | t :: ts => t.dt :: dts ts
end
def isK (k : Kd) : Tr → Bool
  | .word _ => false
  | .node k' _ => k == k'
def isW (l : List Nat) : Prop := ∀ x ∈ l, x = 97 ∨ x = 98 ∨ x = 45
def okK : Kd → List Tr → Prop
  | .c, ts => ts ≠ []
  | .p, ts => ∃ a b, ts = [a, b] ∧ isK .o a = false ∧ isK .t a = false
  | .o, ts => 2 ≤ ts.length ∧ ∀ a ∈ ts, isK .o a = false ∧ isK .t a = false
  | .t, ts => 2 ≤ ts.length ∧ ∀ a ∈ ts, isK .t a = false
mutual
def Tr.ok : Tr → Prop
  | .word w => isW w
  | .node k ts => oks ts ∧ okK k ts
def oks : List Tr → Prop
  | [] => True
  | t :: ts => t.ok ∧ oks ts
end

inductive Cur | w (l : List Nat) | d (x : PyData)
def Cur.dt : Cur → PyData
  | .w l => mkw l
  | .d x => x
structure Lv where
  s : Nat
  l1 : List PyData
  l2 : List PyData
  l3 : List PyData
  cur : Cur
def one (k : Kd) (ps : List PyData) : PyData := match ps with
  | [x] => x
  | ps => .list (.str (kdS k) :: ps)
abbrev PS := List Lv × List Nat
def pstep : PS → Option PS
  | (lv :: lvs, c :: r) =>
    if c = 47 ∨ c = 44 ∨ c = 125 ∨ c = 93 then
      let l3 := lv.l3 ++ [lv.cur.dt]
      if c = 47 then some (⟨lv.s, lv.l1, lv.l2, l3, .w []⟩ :: lvs, r)
      else
        let l2 := lv.l2 ++ [one .o l3]
        if c = 44 ∧ r.head? = some 32 then some (⟨lv.s, lv.l1, l2, [], .w []⟩ :: lvs, r.tail)
        else
          let l1 := lv.l1 ++ [one .t l2]
          if c = 44 then some (⟨lv.s, l1, [], [], .w []⟩ :: lvs, r)
          else match lvs with
            | [] => none
            | up :: ups =>
              if lv.s = 123 ∧ c = 125 then some ({ up with cur := .d (.list (.str (kdS .c) :: l1)) } :: ups, r)
              else if lv.s = 91 ∧ c = 93 ∧ l1.length = 1 then some ({ up with cur := .d (.list (.str (kdS .p) :: up.cur.dt :: l1)) } :: ups, r)
              else none
    else match lv.cur with
      | .w l =>
        if c = 123 ∧ l = [] then some (⟨123, [], [], [], .w []⟩ :: lv :: lvs, r)
        else if c = 91 ∧ r.head? = some 44 ∧ r.tail.head? = some 32 then some (⟨91, [], [], [], .w []⟩ :: lv :: lvs, r.tail.tail)
        else if c = 97 ∨ c = 98 ∨ c = 45 then some ({ lv with cur := .w (l ++ [c]) } :: lvs, r)
        else none
      | .d _ =>
        if c = 91 ∧ r.head? = some 44 ∧ r.tail.head? = some 32 then some (⟨91, [], [], [], .w []⟩ :: lv :: lvs, r.tail.tail)
        else none
  | _ => none
inductive Steps : PS → PS → Prop
  | refl (x) : Steps x x
  | step {x y z} : pstep x = some y → Steps y z → Steps x z
theorem Steps.trans {x y z : PS} (a : Steps x y) (b : Steps y z) : Steps x z := by
  induction a with
  | refl => exact b
  | step e _ ih => exact .step e (ih b)
theorem Steps.one {x y : PS} (e : pstep x = some y) : Steps x y := .step e (.refl _)
/-- a state that is on the way to an end without a rest, and has a rest itself, has a next one on the way -/
theorem Steps.next {x : PS} {ls : List Lv} (h : Steps x (ls, [])) (hx : x.2 ≠ []) : ∃ y, pstep x = some y ∧ Steps y (ls, []) := by
  cases h with
  | refl => exact absurd rfl hx
  | step e h => exact ⟨_, e, h⟩

/-- reading a word's signs -/
theorem read_word (w : List Nat) (hw : isW w) : ∀ (l : List Nat) (lv : Lv) (lvs : List Lv) (r : List Nat), lv.cur = .w l → Steps (lv :: lvs, w ++ r) ({ lv with cur := .w (l ++ w) } :: lvs, r) := by
  induction w with
  | nil =>
    intro l lv lvs r h
    rw [List.append_nil, ← h]
    exact .refl _
  | cons c w ih =>
    intro l lv lvs r h
    have hc := hw c (.head _)
    refine .step (y := ({ lv with cur := .w (l ++ [c]) } :: lvs, w ++ r)) ?_ ?_
    · show pstep (lv :: lvs, c :: (w ++ r)) = _
      rcases hc with rfl | rfl | rfl <;> simp [pstep, h]
    · have := ih (fun x hx => hw x (.tail _ hx)) (l ++ [c]) { lv with cur := .w (l ++ [c]) } lvs r rfl
      simpa [List.append_assoc] using this

def nosp (l : List Nat) : Prop := l.head? ≠ some 32
theorem nosp_app {a b : List Nat} (ha : nosp a) (hb : nosp b) : nosp (a ++ b) := by
  cases a with
  | nil => exact hb
  | cons x r => exact ha
theorem nosp_glue {sep : List Nat} (hs : nosp sep) : ∀ xs : List (List Nat), (∀ x ∈ xs, nosp x) → nosp (glue sep xs)
  | [], _ => by simp [nosp, glue]
  | [x], h => h x (.head _)
  | x :: y :: r, h => nosp_app (nosp_app (h x (.head _)) hs) (nosp_glue hs (y :: r) fun z hz => h z (.tail _ hz))
theorem nms_eq (ts : List Tr) : nms ts = ts.map Tr.nm := by
  induction ts with
  | nil => rfl
  | cons t ts ih => rw [nms, ih]; rfl
theorem dts_eq (ts : List Tr) : dts ts = ts.map Tr.dt := by
  induction ts with
  | nil => rfl
  | cons t ts ih => rw [dts, ih]; rfl
theorem oks_all {ts : List Tr} (h : oks ts) : ∀ t ∈ ts, t.ok := by
  induction ts with
  | nil => intro t ht; cases ht
  | cons t ts ih =>
    rw [oks] at h
    intro u hu
    cases hu with
    | head => exact h.1
    | tail _ hu => exact ih h.2 u hu
mutual
theorem nm_nosp : ∀ T : Tr, T.ok → nosp T.nm
  | .word w, h => by
    rw [Tr.ok] at h
    rw [Tr.nm]
    cases w with
    | nil => simp [nosp]
    | cons x r => rcases h x (.head _) with rfl | rfl | rfl <;> simp [nosp]
  | .node k ts, h => by
    rw [Tr.ok] at h
    have ih := nms_nosp ts h.1
    cases k <;> rw [Tr.nm]
    · simp [nosp]
    · exact nosp_app (nosp_glue (by simp [nosp]) _ ih) (by simp [nosp])
    · exact nosp_glue (by simp [nosp]) _ ih
    · exact nosp_glue (by simp [nosp]) _ ih
theorem nms_nosp : ∀ ts : List Tr, oks ts → ∀ x ∈ nms ts, nosp x
  | [], _ => by intro x hx; rw [nms] at hx; cases hx
  | t :: ts, h => by
    rw [oks] at h
    intro x hx
    rw [nms] at hx
    cases hx with
    | head => exact nm_nosp t h.1
    | tail _ hx => exact nms_nosp ts h.2 x hx
end

def RA (T : Tr) : Prop := ∀ (lv : Lv) (lvs : List Lv) (r : List Nat), lv.cur = .w [] → ∃ cur : Cur, cur.dt = T.dt ∧ Steps (lv :: lvs, T.nm ++ r) (⟨lv.s, lv.l1, lv.l2, lv.l3, cur⟩ :: lvs, r)
def RB (T : Tr) : Prop := ∀ (lv : Lv) (lvs : List Lv) (r : List Nat), lv.cur = .w [] → lv.l3 = [] → ∃ l3, ∃ cur : Cur, one .o (l3 ++ [cur.dt]) = T.dt ∧ Steps (lv :: lvs, T.nm ++ r) (⟨lv.s, lv.l1, lv.l2, l3, cur⟩ :: lvs, r)
def RC (T : Tr) : Prop := ∀ (lv : Lv) (lvs : List Lv) (r : List Nat), lv.cur = .w [] → lv.l3 = [] → lv.l2 = [] → ∃ l2 l3, ∃ cur : Cur, one .t (l2 ++ [one .o (l3 ++ [cur.dt])]) = T.dt ∧ Steps (lv :: lvs, T.nm ++ r) (⟨lv.s, lv.l1, l2, l3, cur⟩ :: lvs, r)
def RR (T : Tr) : Prop := (isK .o T = false → isK .t T = false → RA T) ∧ (isK .t T = false → RB T) ∧ RC T
theorem RA.b {T : Tr} (h : RA T) : RB T := fun lv lvs r hc h3 => by
  obtain ⟨cur, e, st⟩ := h lv lvs r hc
  refine ⟨[], cur, e, ?_⟩
  rw [h3] at st; exact st
theorem RB.c {T : Tr} (h : RB T) : RC T := fun lv lvs r hc h3 h2 => by
  obtain ⟨l3, cur, e, st⟩ := h lv lvs r hc h3
  refine ⟨[], l3, cur, e, ?_⟩
  rw [h2] at st; exact st

theorem read_o : ∀ (ts : List Tr), ts ≠ [] → (∀ t ∈ ts, RA t) → ∀ (lv : Lv) (lvs : List Lv) (r : List Nat), lv.cur = .w [] →
    ∃ l3, ∃ cur : Cur, l3 ++ [cur.dt] = lv.l3 ++ dts ts ∧ Steps (lv :: lvs, glue [47] (nms ts) ++ r) (⟨lv.s, lv.l1, lv.l2, l3, cur⟩ :: lvs, r)
  | [], h, _, _, _, _, _ => absurd rfl h
  | [t], _, h, lv, lvs, r, hc => by
    obtain ⟨cur, e, st⟩ := h t (.head _) lv lvs r hc
    refine ⟨lv.l3, cur, ?_, st⟩
    rw [dts, dts, e]
  | t :: u :: ts, _, h, lv, lvs, r, hc => by
    obtain ⟨cur, e, st⟩ := h t (.head _) lv lvs ([47] ++ glue [47] (nms (u :: ts)) ++ r) hc
    obtain ⟨l3, cur2, e2, st2⟩ := read_o (u :: ts) (by simp) (fun x hx => h x (.tail _ hx)) ⟨lv.s, lv.l1, lv.l2, lv.l3 ++ [cur.dt], .w []⟩ lvs r rfl
    refine ⟨l3, cur2, ?_, ?_⟩
    · rw [e2, dts, e]; simp [dts]
    · have e3 : glue [47] (nms (t :: u :: ts)) ++ r = t.nm ++ ([47] ++ glue [47] (nms (u :: ts)) ++ r) := by
        simp [nms, glue]
      rw [e3]
      refine st.trans (.step ?_ st2)
      simp [pstep]
theorem read_t : ∀ (ts : List Tr), ts ≠ [] → (∀ t ∈ ts, RB t) → ∀ (lv : Lv) (lvs : List Lv) (r : List Nat), lv.cur = .w [] → lv.l3 = [] →
    ∃ l2 l3, ∃ cur : Cur, l2 ++ [one .o (l3 ++ [cur.dt])] = lv.l2 ++ dts ts ∧ Steps (lv :: lvs, glue [44, 32] (nms ts) ++ r) (⟨lv.s, lv.l1, l2, l3, cur⟩ :: lvs, r)
  | [], h, _, _, _, _, _, _ => absurd rfl h
  | [t], _, h, lv, lvs, r, hc, h3 => by
    obtain ⟨l3, cur, e, st⟩ := h t (.head _) lv lvs r hc h3
    refine ⟨lv.l2, l3, cur, ?_, st⟩
    rw [dts, dts, e]
  | t :: u :: ts, _, h, lv, lvs, r, hc, h3 => by
    obtain ⟨l3, cur, e, st⟩ := h t (.head _) lv lvs ([44, 32] ++ glue [44, 32] (nms (u :: ts)) ++ r) hc h3
    obtain ⟨l2, l32, cur2, e2, st2⟩ := read_t (u :: ts) (by simp) (fun x hx => h x (.tail _ hx)) ⟨lv.s, lv.l1, lv.l2 ++ [one .o (l3 ++ [cur.dt])], [], .w []⟩ lvs r rfl rfl
    refine ⟨l2, l32, cur2, ?_, ?_⟩
    · rw [e2, dts, e]; simp [dts]
    · have e3 : glue [44, 32] (nms (t :: u :: ts)) ++ r = t.nm ++ ([44, 32] ++ glue [44, 32] (nms (u :: ts)) ++ r) := by
        simp [nms, glue]
      rw [e3]
      refine st.trans (.step ?_ st2)
      simp [pstep]
theorem read_c : ∀ (ts : List Tr), ts ≠ [] → (∀ t ∈ ts, RC t) → oks ts → ∀ (s : Nat) (l1 : List PyData) (lvs : List Lv) (r : List Nat), nosp r →
    ∃ l1' l2 l3, ∃ cur : Cur, l1' ++ [one .t (l2 ++ [one .o (l3 ++ [cur.dt])])] = l1 ++ dts ts ∧ Steps (⟨s, l1, [], [], .w []⟩ :: lvs, glue [44] (nms ts) ++ r) (⟨s, l1', l2, l3, cur⟩ :: lvs, r)
  | [], h, _, _, _, _, _, _, _ => absurd rfl h
  | [t], _, h, _, s, l1, lvs, r, _ => by
    obtain ⟨l2, l3, cur, e, st⟩ := h t (.head _) ⟨s, l1, [], [], .w []⟩ lvs r rfl rfl rfl
    refine ⟨l1, l2, l3, cur, ?_, st⟩
    rw [dts, dts, e]
  | t :: u :: ts, _, h, ho, s, l1, lvs, r, hr => by
    obtain ⟨l2, l3, cur, e, st⟩ := h t (.head _) ⟨s, l1, [], [], .w []⟩ lvs ([44] ++ glue [44] (nms (u :: ts)) ++ r) rfl rfl rfl
    rw [oks] at ho
    obtain ⟨l1', l22, l32, cur2, e2, st2⟩ := read_c (u :: ts) (by simp) (fun x hx => h x (.tail _ hx)) ho.2 s (l1 ++ [one .t (l2 ++ [one .o (l3 ++ [cur.dt])])]) lvs r hr
    refine ⟨l1', l22, l32, cur2, ?_, ?_⟩
    · rw [e2, dts, e]; simp [dts]
    · have e3 : glue [44] (nms (t :: u :: ts)) ++ r = t.nm ++ ([44] ++ glue [44] (nms (u :: ts)) ++ r) := by
        simp [nms, glue]
      rw [e3]
      refine st.trans (.step ?_ st2)
      have hn : nosp (glue [44] (nms (u :: ts)) ++ r) := nosp_app (nosp_glue (by simp [nosp]) _ (nms_nosp _ ho.2)) hr
      have hn' : ¬ (glue [44] (nms (u :: ts)) ++ r).head? = some 32 := hn
      show pstep (_ :: lvs, 44 :: (glue [44] (nms (u :: ts)) ++ r)) = _
      simp only [pstep, hn']
      simp
mutual
theorem read_tr : ∀ T : Tr, T.ok → RR T
  | .word w, h => by
    rw [Tr.ok] at h
    have a : RA (.word w) := fun lv lvs r hc => by
      refine ⟨.w ([] ++ w), by rw [Tr.dt]; rfl, ?_⟩
      rw [Tr.nm]
      exact read_word w h [] lv lvs r hc
    exact ⟨fun _ _ => a, fun _ => a.b, a.b.c⟩
  | .node k ts, h => by
    rw [Tr.ok] at h
    obtain ⟨ho, h⟩ := h
    have ih := read_trs ts ho
    cases k with
    | c =>
      have a : RA (.node .c ts) := fun lv lvs r hc => by
        obtain ⟨l1', l2, l3, cur, e, st⟩ := read_c ts h (fun t ht => (ih t ht).2.2) ho 123 [] (lv :: lvs) (125 :: r) (by simp [nosp])
        refine ⟨.d (.list (.str (kdS .c) :: (l1' ++ [one .t (l2 ++ [one .o (l3 ++ [cur.dt])])]))), by rw [e, Tr.dt]; rfl, ?_⟩
        have e3 : Tr.nm (.node .c ts) ++ r = 123 :: (glue [44] (nms ts) ++ 125 :: r) := by rw [Tr.nm]; simp
        rw [e3]
        refine .step (y := (⟨123, [], [], [], .w []⟩ :: lv :: lvs, glue [44] (nms ts) ++ 125 :: r)) (by simp [pstep, hc]) (st.trans (.one ?_))
        simp [pstep]
      exact ⟨fun _ _ => a, fun _ => a.b, a.b.c⟩
    | p =>
      obtain ⟨x, y, rfl, hx1, hx2⟩ := h
      have a : RA (.node .p [x, y]) := fun lv lvs r hc => by
        obtain ⟨cur, e, st⟩ := (ih x (.head _)).1 hx1 hx2 lv lvs ([91, 44, 32] ++ (y.nm ++ 93 :: r)) hc
        obtain ⟨l2, l3, cur2, e2, st2⟩ := (ih y (.tail _ (.head _))).2.2 ⟨91, [], [], [], .w []⟩ (⟨lv.s, lv.l1, lv.l2, lv.l3, cur⟩ :: lvs) (93 :: r) rfl rfl rfl
        refine ⟨.d (.list (.str (kdS .p) :: cur.dt :: ([] ++ [one .t (l2 ++ [one .o (l3 ++ [cur2.dt])])]))), by rw [e, e2, Tr.dt]; rfl, ?_⟩
        have e3 : Tr.nm (.node .p [x, y]) ++ r = x.nm ++ ([91, 44, 32] ++ (y.nm ++ 93 :: r)) := by rw [Tr.nm]; simp [nms, glue]
        rw [e3]
        refine st.trans (.step (y := (⟨91, [], [], [], .w []⟩ :: ⟨lv.s, lv.l1, lv.l2, lv.l3, cur⟩ :: lvs, y.nm ++ 93 :: r)) ?_ (st2.trans (.one ?_)))
        · cases cur <;> simp [pstep]
        · simp [pstep]
      exact ⟨fun _ _ => a, fun _ => a.b, a.b.c⟩
    | o =>
      have b : RB (.node .o ts) := fun lv lvs r hc h3 => by
        obtain ⟨l3, cur, e, st⟩ := read_o ts (fun e => by rw [e] at h; exact absurd h.1 (by decide)) (fun t ht => (ih t ht).1 (h.2 t ht).1 (h.2 t ht).2) lv lvs r hc
        refine ⟨l3, cur, ?_, ?_⟩
        · rw [e, h3, List.nil_append, Tr.dt, dts_eq]
          match ts, h.1 with
          | x :: y :: r, _ => rfl
        · rw [Tr.nm]; exact st
      exact ⟨fun h' => absurd h' (by simp [isK]), fun _ => b, b.c⟩
    | t =>
      have c : RC (.node .t ts) := fun lv lvs r hc h3 h2 => by
        obtain ⟨l2, l3, cur, e, st⟩ := read_t ts (fun e => by rw [e] at h; exact absurd h.1 (by decide)) (fun t ht => (ih t ht).2.1 (h.2 t ht)) lv lvs r hc h3
        refine ⟨l2, l3, cur, ?_, ?_⟩
        · rw [e, h2, List.nil_append, Tr.dt, dts_eq]
          match ts, h.1 with
          | x :: y :: r, _ => rfl
        · rw [Tr.nm]; exact st
      exact ⟨fun _ h' => absurd h' (by simp [isK]), fun h' => absurd h' (by simp [isK]), c⟩
theorem read_trs : ∀ ts : List Tr, oks ts → ∀ t ∈ ts, RR t
  | [], _ => fun _ ht => nomatch ht
  | u :: us, h => by
    rw [oks] at h
    intro t ht
    cases ht with
    | head => exact read_tr u h.1
    | tail _ ht => exact read_trs us h.2 t ht
end
def lv0 : Lv := ⟨0, [], [], [], .w []⟩
/-- the reader's way through the name of choices -/
theorem read_all {ts : List Tr} (h : oks ts) (hne : ts ≠ []) : ∃ cur : Cur, cur.dt = Tr.dt (.node .c ts) ∧ Steps ([lv0], Tr.nm (.node .c ts)) ([⟨0, [], [], [], cur⟩], []) := by
  obtain ⟨cur, e, st⟩ := (read_tr (.node .c ts) (by rw [Tr.ok]; exact ⟨h, hne⟩)).1 (by simp [isK]) (by simp [isK]) lv0 [] [] rfl
  rw [List.append_nil] at st
  exact ⟨cur, e, st⟩

/-! measures of trees -/
mutual
def Tr.wt : Tr → Nat
  | .word w => 1 + w.length
  | .node _ ts => 1 + wts ts
def wts : List Tr → Nat
  | [] => 0
  | t :: ts => t.wt + wts ts
end
theorem wt_pos (T : Tr) : 1 ≤ T.wt := by cases T <;> (rw [Tr.wt]; omega)
theorem wts_append : ∀ xs ys : List Tr, wts (xs ++ ys) = wts xs + wts ys
  | [], ys => by rw [List.nil_append, wts]; omega
  | x :: xs, ys => by rw [List.cons_append, wts, wts, wts_append xs ys]; omega
theorem wts_len : ∀ xs : List Tr, xs.length ≤ wts xs
  | [] => Nat.zero_le _
  | x :: xs => by have := wts_len xs; have := wt_pos x; rw [wts, List.length_cons]; omega
theorem wt_mem {T : Tr} : ∀ {xs : List Tr}, T ∈ xs → T.wt ≤ wts xs
  | x :: xs, h => by
    rw [wts]
    cases h with
    | head => omega
    | tail _ h => have := wt_mem h; omega
theorem glue_len (sep : List Nat) (hs : sep.length ≤ 3) : ∀ xs : List (List Nat), (glue sep xs).length ≤ (xs.map (·.length)).sum + 3 * xs.length
  | [] => by simp [glue]
  | [x] => by simp [glue]
  | x :: y :: r => by
    have := glue_len sep hs (y :: r)
    simp only [glue, List.length_append, List.map_cons, List.sum_cons, List.length_cons] at this ⊢
    omega
mutual
theorem nm_len : ∀ T : Tr, T.nm.length + 5 ≤ 8 * T.wt
  | .word w => by rw [Tr.nm, Tr.wt]; omega
  | .node k ts => by
    have ih := nms_len ts
    have g1 := glue_len [44] (by simp) (nms ts)
    have g2 := glue_len [91, 44, 32] (by simp) (nms ts)
    have g3 := glue_len [47] (by simp) (nms ts)
    have g4 := glue_len [44, 32] (by simp) (nms ts)
    rw [Tr.wt]
    cases k <;> rw [Tr.nm] <;> (try simp only [List.length_cons, List.length_append, List.length_nil]) <;> omega
theorem nms_len : ∀ ts : List Tr, ((nms ts).map (·.length)).sum + 5 * (nms ts).length ≤ 8 * wts ts
  | [] => by simp [nms]
  | t :: ts => by
    have h1 := nm_len t
    have h2 := nms_len ts
    rw [nms, wts]
    simp only [List.map_cons, List.sum_cons, List.length_cons]
    omega
end
mutual
theorem dt_depth : ∀ T : Tr, T.dt.depth ≤ T.wt
  | .word w => by rw [Tr.dt, Tr.wt]; simp [mkw, PyData.depth]
  | .node k ts => by
    have ih := dts_depth ts
    rw [Tr.dt, Tr.wt]
    simp only [PyData.depth, PyData.depthAll]
    omega
theorem dts_depth : ∀ ts : List Tr, PyData.depthAll (dts ts) ≤ wts ts
  | [] => by simp [dts, PyData.depthAll]
  | t :: ts => by
    have h1 := dt_depth t
    have h2 := dts_depth ts
    rw [dts, wts]
    simp only [PyData.depthAll]
    omega
end
theorem mkw_lay {w : List Nat} (h : isW w) : (mkw w).canLay0 = true := by
  simp only [mkw, PyData.canLay0, PyData.strOk, Array.all_eq_true_iff_forall_mem, List.mem_toArray]
  intro x hx
  rcases h x hx with rfl | rfl | rfl <;> decide
mutual
theorem dt_lay : ∀ T : Tr, T.ok → T.dt.canLay0 = true
  | .word w, h => by rw [Tr.dt]; rw [Tr.ok] at h; exact mkw_lay h
  | .node k ts, h => by
    rw [Tr.ok] at h
    have ih := dts_lay ts h.1
    rw [Tr.dt]
    have hk : PyData.strOk (kdS k) = true := by cases k <;> decide +kernel
    simp [PyData.canLay0, PyData.canLayAll0, ih, hk]
theorem dts_lay : ∀ ts : List Tr, oks ts → PyData.canLayAll0 (dts ts) = true
  | [], _ => by simp [dts, PyData.canLayAll0]
  | t :: ts, h => by
    rw [oks] at h
    have h1 := dt_lay t h.1
    have h2 := dts_lay ts h.2
    rw [dts]
    simp [PyData.canLayAll0, h1, h2]
end
/-- the pieces of a tree in a row of its kind -/
def flat (k : Kd) : Tr → List Tr
  | .word w => [.word w]
  | .node k' us => if k = k' then us else [.node k' us]
theorem flat_wt (k : Kd) (T : Tr) : wts (flat k T) ≤ T.wt := by
  cases T with
  | word w => rw [flat]; simp [wts]
  | node k' us =>
    rw [flat]
    split
    · rw [Tr.wt]; omega
    · simp [wts]
theorem flats_wt (k : Kd) : ∀ ts : List Tr, wts (ts.flatMap (flat k)) ≤ wts ts
  | [] => by simp [wts]
  | t :: ts => by
    have h1 := flat_wt k t
    have h2 := flats_wt k ts
    rw [List.flatMap_cons, wts_append, wts]; omega
/-- a row of its kind -/
def rowT (k : Kd) (ts : List Tr) : Tr :=
  match ts.flatMap (flat k) with
  | [T] => T
  | us => .node k us
theorem rowT_dt (k : Kd) (ts : List Tr) : (rowT k ts).dt = one k (dts (ts.flatMap (flat k))) := by
  unfold rowT
  match h : ts.flatMap (flat k) with
  | [] => rw [Tr.dt]; simp [dts, one]
  | [T] => simp [dts, one]
  | x :: y :: r => rw [Tr.dt]; simp [dts, one]
theorem dts_append (xs ys : List Tr) : dts (xs ++ ys) = dts xs ++ dts ys := by simp [dts_eq]
theorem dts_length (xs : List Tr) : (dts xs).length = xs.length := by simp [dts_eq]
theorem kdS_inj {a b : Kd} (h : kdS a = kdS b) : a = b := by
  cases a <;> cases b <;> first | rfl | (exfalso; revert h; decide +kernel)
abbrev lS (l : List Nat) : Str := ⟨l.toArray⟩
def nmS (T : Tr) : Str := lS T.nm
theorem lS_append (a b : List Nat) : lS (a ++ b) = lS a ++ lS b := by
  apply str_ext; rw [toList_append]
theorem join_cons2 (sep x y : Str) (r : List Str) : Txt.join sep (x :: y :: r) = x ++ sep ++ Txt.join sep (y :: r) := by
  show Builtin.Str.glued sep (x :: y :: r) = x ++ sep ++ Builtin.Str.glued sep (y :: r)
  rw [StrLaws.glued_eq_join, StrLaws.glued_eq_join]; rfl
theorem lS_glue (sep : List Nat) : ∀ xs : List (List Nat), lS (glue sep xs) = Txt.join (lS sep) (xs.map lS)
  | [] => rfl
  | [x] => rfl
  | x :: y :: r => by
    rw [glue, List.map_cons, List.map_cons, join_cons2, lS_append, lS_append, lS_glue sep (y :: r)]; rfl
theorem sep_o : ("/" : Str) = lS [47] := by decide +kernel
theorem sep_c : ("," : Str) = lS [44] := by decide +kernel
theorem sep_t : (", " : Str) = lS [44, 32] := by decide +kernel
theorem sep_b : ("{" : Str) = lS [123] := by decide +kernel
theorem sep_e : ("}" : Str) = lS [125] := by decide +kernel
theorem sep_p : ("[, " : Str) = lS [91, 44, 32] := by decide +kernel
theorem sep_q : ("]" : Str) = lS [93] := by decide +kernel
theorem map_nms (ts : List Tr) : (nms ts).map lS = ts.map nmS := by rw [nms_eq, List.map_map]; rfl
theorem nmS_c (ts : List Tr) : nmS (.node .c ts) = "{" ++ Txt.join "," (ts.map nmS) ++ "}" := by
  rw [nmS, Tr.nm, sep_b, sep_c, sep_e, ← map_nms, ← lS_glue, ← lS_append, ← lS_append]; simp
theorem nmS_p (a b : Tr) : nmS (.node .p [a, b]) = nmS a ++ "[, " ++ nmS b ++ "]" := by
  rw [nmS, Tr.nm, sep_p, sep_q, nmS, nmS, ← lS_append, ← lS_append, ← lS_append]
  simp [nms, glue]
theorem glue_app (sep : List Nat) : ∀ {xs ys : List (List Nat)}, xs ≠ [] → ys ≠ [] → glue sep (xs ++ ys) = glue sep xs ++ sep ++ glue sep ys
  | [], _, h, _ => absurd rfl h
  | [x], [], _, h => absurd rfl h
  | [x], y :: r, _, _ => rfl
  | x :: y :: r, ys, _, h => by
    have ih := glue_app sep (xs := y :: r) (ys := ys) (by simp) h
    show glue sep (x :: y :: (r ++ ys)) = _
    rw [glue, glue]
    rw [show y :: (r ++ ys) = (y :: r) ++ ys from rfl, ih]
    simp [List.append_assoc]
theorem node_pos {k : Kd} {us : List Tr} (h : Tr.ok (.node k us)) : 0 < us.length := by
  rw [Tr.ok] at h
  obtain ⟨_, h⟩ := h
  cases k <;> unfold okK at h
  · cases us with
    | nil => exact absurd rfl h
    | cons _ _ => simp
  · obtain ⟨a, b, rfl, _⟩ := h; simp
  · omega
  · omega
def sepK : Kd → List Nat
  | .o => [47]
  | _ => [44, 32]
theorem flat_ne {k : Kd} {T : Tr} (h : T.ok) : flat k T ≠ [] := by
  cases T with
  | word w => rw [flat]; simp
  | node k' us =>
    rw [flat]; split
    · have := node_pos h; intro e; rw [e] at this; simp at this
    · simp
theorem nms_append (xs ys : List Tr) : nms (xs ++ ys) = nms xs ++ nms ys := by simp [nms_eq]
theorem flat_glue {k : Kd} (hk : k = .o ∨ k = .t) {T : Tr} (_h : T.ok) : glue (sepK k) (nms (flat k T)) = T.nm := by
  cases T with
  | word w => rw [flat]; simp [nms, glue]
  | node k' us =>
    rw [flat]; split
    · rename_i e; subst e
      rcases hk with rfl | rfl <;> (rw [Tr.nm]; rfl)
    · simp [nms, glue]
theorem flats_ne {k : Kd} : ∀ {ts : List Tr}, oks ts → ts ≠ [] → ts.flatMap (flat k) ≠ []
  | [], _, h => absurd rfl h
  | t :: ts, ho, _ => by
    rw [oks] at ho
    rw [List.flatMap_cons]
    intro e
    exact flat_ne (k := k) ho.1 (List.append_eq_nil_iff.mp e).1
theorem flats_glue {k : Kd} (hk : k = .o ∨ k = .t) : ∀ {ts : List Tr}, oks ts → glue (sepK k) (nms (ts.flatMap (flat k))) = glue (sepK k) (nms ts)
  | [], _ => rfl
  | [t], ho => by
    rw [oks] at ho
    rw [List.flatMap_cons, List.flatMap_nil, List.append_nil, flat_glue hk ho.1]; simp [nms, glue]
  | t :: u :: ts, ho => by
    rw [oks] at ho
    have ih := flats_glue hk (ts := u :: ts) ho.2
    have n1 : nms (flat k t) ≠ [] := by rw [nms_eq]; intro e; exact flat_ne (k := k) ho.1 (List.map_eq_nil_iff.mp e)
    have n2 : nms ((u :: ts).flatMap (flat k)) ≠ [] := by rw [nms_eq]; intro e; exact flats_ne (k := k) ho.2 (by simp) (List.map_eq_nil_iff.mp e)
    rw [List.flatMap_cons, nms_append, glue_app _ n1 n2, ih, flat_glue hk ho.1]
    simp [nms, glue]
theorem rowT_nm {k : Kd} (hk : k = .o ∨ k = .t) {ts : List Tr} (ho : oks ts) : (rowT k ts).nm = glue (sepK k) (nms ts) := by
  rw [← flats_glue hk ho]
  unfold rowT
  match h : ts.flatMap (flat k) with
  | [] => rcases hk with rfl | rfl <;> (rw [Tr.nm]; rfl)
  | [T] => simp [nms, glue]
  | x :: y :: r => rcases hk with rfl | rfl <;> (rw [Tr.nm]; rfl)
theorem rowT_nmS_o {ts : List Tr} (ho : oks ts) : nmS (rowT .o ts) = Txt.join "/" (ts.map nmS) := by
  rw [nmS, rowT_nm (.inl rfl) ho, sep_o, ← map_nms, ← lS_glue]; rfl
theorem rowT_nmS_t {ts : List Tr} (ho : oks ts) : nmS (rowT .t ts) = Txt.join ", " (ts.map nmS) := by
  rw [nmS, rowT_nm (.inr rfl) ho, sep_t, ← map_nms, ← lS_glue]; rfl
theorem oks_of {ts : List Tr} (h : ∀ t ∈ ts, t.ok) : oks ts := by
  induction ts with
  | nil => rw [oks]; trivial
  | cons t ts ih => rw [oks]; exact ⟨h t (.head _), ih fun u hu => h u (.tail _ hu)⟩
theorem flat_ok {k : Kd} {T : Tr} (h : T.ok) : ∀ u ∈ flat k T, u.ok := by
  cases T with
  | word w => rw [flat]; intro u hu; rw [List.mem_singleton.mp hu]; exact h
  | node k' us =>
    rw [flat]; split
    · rw [Tr.ok] at h; exact oks_all h.1
    · intro u hu; rw [List.mem_singleton.mp hu]; exact h
/-- what a row may hold: kinds of its pieces -/
theorem flat_kind {k : Kd} {T : Tr} (h : T.ok) (hk : k = .o ∨ k = .t) (ht : k = .o → isK .t T = false) : ∀ u ∈ flat k T, isK k u = false ∧ (k = .o → isK .t u = false) := by
  cases T with
  | word w => rw [flat]; intro u hu; rw [List.mem_singleton.mp hu]; exact ⟨rfl, fun _ => rfl⟩
  | node k' us =>
    rw [flat]; split
    · rename_i e; subst e
      rw [Tr.ok] at h
      intro u hu
      rcases hk with rfl | rfl
      · exact ⟨(h.2.2 u hu).1, fun _ => (h.2.2 u hu).2⟩
      · exact ⟨h.2.2 u hu, fun e => nomatch e⟩
    · rename_i e
      intro u hu; rw [List.mem_singleton.mp hu]
      exact ⟨by simpa [isK] using e, ht⟩
theorem rowT_ok {k : Kd} (hk : k = .o ∨ k = .t) {ts : List Tr} (ho : oks ts) (hne : ts ≠ []) (ht : k = .o → ∀ T ∈ ts, isK .t T = false) : (rowT k ts).ok := by
  have h1 : ∀ u ∈ ts.flatMap (flat k), u.ok ∧ isK k u = false ∧ (k = .o → isK .t u = false) := fun u hu => by
    obtain ⟨T, hT, hu⟩ := List.mem_flatMap.mp hu
    exact ⟨flat_ok (oks_all ho T hT) u hu, flat_kind (oks_all ho T hT) hk (fun e => ht e T hT) u hu⟩
  have h2 := flats_ne (k := k) ho hne
  unfold rowT
  match h : ts.flatMap (flat k) with
  | [] => exact absurd h h2
  | [T] => exact (h1 T (by rw [h]; exact .head _)).1
  | x :: y :: r =>
    rw [h] at h1
    rw [Tr.ok]
    refine ⟨oks_of fun u hu => (h1 u hu).1, ?_⟩
    rcases hk with rfl | rfl
    · exact ⟨by simp, fun u hu => ⟨(h1 u hu).2.1, (h1 u hu).2.2 rfl⟩⟩
    · exact ⟨by simp, fun u hu => (h1 u hu).2.1⟩
theorem rowT_wt (k : Kd) (ts : List Tr) : (rowT k ts).wt ≤ 1 + wts ts := by
  have h := flats_wt k ts
  unfold rowT
  match e : ts.flatMap (flat k) with
  | [] => show (Tr.node k []).wt ≤ _; rw [Tr.wt, wts]; omega
  | [T] => rw [e, wts, wts] at h; show T.wt ≤ _; omega
  | x :: y :: r => rw [e] at h; show (Tr.node k (x :: y :: r)).wt ≤ _; rw [Tr.wt]; omega
def nodeD (T : Tr) : PyData := .list [T.dt, .str (nmS T)]
theorem nmS_len (T : Tr) : (nmS T).length = T.nm.length := by simp [nmS, Str.length]
theorem nmS_le (T : Tr) : (nmS T).length + 5 ≤ 8 * T.wt := by rw [nmS_len]; exact nm_len T
theorem nmS_word (l : List Nat) : nmS (.word l) = ⟨l.toArray⟩ := by rw [nmS, Tr.nm]
theorem nmS_sum : ∀ ts : List Tr, ((ts.map nmS).map (·.length)).sum + 5 * (ts.map nmS).length ≤ 8 * wts ts
  | [] => by simp
  | t :: ts => by
    have h1 := nmS_le t
    have h2 := nmS_sum ts
    rw [wts]
    simp only [List.map_cons, List.sum_cons, List.length_cons] at h2 ⊢
    omega
theorem nmS_hw {ts : List Tr} (h : wts ts ≤ 10000) : ((ts.map nmS).map (·.length)).sum + (ts.map nmS).length ≤ 100000 := by
  have := nmS_sum ts; omega
theorem nmS_ne {ts : List Tr} (h : ts ≠ []) : ts.map nmS ≠ [] := by simpa using h

/-- for x in a list, the iterator's address named -/
theorem iter_list2 {prog : Program} {w : World} {A : Around} {s : Shared} {env : Env} {h₀ : Heap} {E : Value → Shared → Prop} {Q : Flow → Shared → Prop} {x : Str} {px : Pos} {body : List Stmt} {l : Addr} {items : Array Value} {m₀ : Str → Option Value}
    (J : Addr → Nat → (Str → Option Value) → Heap → Prop) (hl : s.heap.IsList l items) (F : Fr h₀ env.locals s.heap m₀) (h0 : ∀ I, I = s.heap.objs.size → J I 0 m₀ s.heap)
    (hJ : ∀ I i m h h', J I i m h → (∀ b o, b ≠ I → b ≠ env.locals → h.get? b = some o → h'.get? b = some o) → J I i m h')
    (turn : ∀ I i v m₁ h tk, items[i]? = some v → J I i m₁ h → h.IsListIter I l (i + 1) → h.IsList l items → h₀.get? I = none → I ≠ env.locals → Fr h₀ env.locals h (fun y => if y = x then some v else m₁ y) →
      wpAny (model prog w) A (execs body env) (TurnH h₀ env.locals s Q (fun h' => h'.IsListIter I l (i + 1) ∧ h'.IsList l items) (J I (i + 1))) E { s with heap := h, toks := tk })
    (done : ∀ I m₁ h tk, J I items.size m₁ h → Fr h₀ env.locals h m₁ → Q .next { s with heap := h, toks := tk })
    (hh : A.handled = none := by rfl) (hx : env.kindOf x = some .local := by rfl)
    (hp : (env.scope.kind == .class || (env.scope.kind == .module && env.locals != env.globals)) = false := by rfl)
    (hE : PassesOwn (model prog w) A env E := by passes_own) :
    wpAny (model prog w) A (pyIter (.ref l)) (fun it s₂ => codeAny (model prog w) A (.forLoop (.Name x px) it body [] env) (fun r s' => match r with | .ok f => Q f s' | .error e => cameBackBy (model prog w) A env E e s') s₂) E s :=
  iter_list (J _) hl F (h0 _ rfl) (hJ _) (fun i v m₁ h tk a b c d e f g => turn _ i v m₁ h tk a b c d e f g) (fun m₁ h tk a b => done _ m₁ h tk a b) hh hx hp hE
theorem ra_at {g : Heap} : ∀ {vs : List Value} {ds : List PyData} {as : List Addr} (i : Nat) (v : Value), ReadsAll g vs ds as → vs[i]? = some v → ∃ d bs, ds[i]? = some d ∧ Reads g v d bs
  | _, _, _, i, v, .nil, h => by simp at h
  | _, _, _, 0, v, .cons r _, h => by
    simp at h; subst h
    exact ⟨_, _, rfl, r⟩
  | _, _, _, i + 1, v, .cons _ rs, h => by
    simp at h
    obtain ⟨d, bs, h1, h2⟩ := ra_at i v rs h
    exact ⟨d, bs, by simpa using h1, h2⟩
theorem ra_append {g : Heap} : ∀ {vs ws : List Value} {xs ys : List PyData} {as bs : List Addr}, ReadsAll g vs xs as → ReadsAll g ws ys bs → ReadsAll g (vs ++ ws) (xs ++ ys) (as ++ bs)
  | _, _, _, _, _, _, .nil, h => h
  | _, _, _, _, _, _, .cons r rs, h => by
    have := ReadsAll.cons r (ra_append rs h)
    simpa [List.append_assoc] using this
theorem reads_list {g h : Heap} {v : Value} {ds : List PyData} {as : List Addr} (hg : g.StaysIn h) (r : Reads g v (.list ds) as) : ∃ x vs as', v = .ref x ∧ h.IsList x vs ∧ ReadsAll g vs.toList ds as' := by
  cases r with
  | list h1 h2 h3 h4 => exact ⟨_, _, _, rfl, ⟨_, hg _ _ h1, h2, _, h3⟩, h4⟩
theorem reads_str {g : Heap} {v : Value} {x : Str} {as : List Addr} (r : Reads g v (.str x) as) : ∃ t, v = .str x t := by
  cases r; exact ⟨_, rfl⟩
theorem reads_head {g h : Heap} {v : Value} {x : Str} {ds : List PyData} {as : List Addr} (hg : g.StaysIn h) (r : Reads g v (.list (.str x :: ds)) as) :
    ∃ a t vs as', v = .ref a ∧ h.IsList a (.str x t :: vs).toArray ∧ ReadsAll g vs ds as' := by
  obtain ⟨a, vs, as', rfl, h1, h2⟩ := reads_list hg r
  obtain ⟨vs⟩ := vs
  cases h2 with
  | cons r rs =>
    obtain ⟨t, rfl⟩ := reads_str r
    exact ⟨a, t, _, _, rfl, h1, rs⟩
theorem slice_tail (x : Value) (vs : List Value) : slicePick (x :: vs).toArray (some 1) none none = vs.toArray := by
  have h := W.kmk_pick_nat (lo := some 1) (hi := none) (x :: vs).toArray (a := 1) (b := vs.length + 1) (by
    simp only [sliceBounds, Option.getD_none, show (1 : Int) > 0 by decide, if_true, if_neg (show ¬ ((1 : Int) < 0) by omega), List.size_toArray, List.length_cons]
    simp
    omega)
  rw [h]; simp

/-- a turn's end of a comprehension: the act's ledger stays, the data's grows -/
def CTurn (h₀ : Heap) (L : Addr) (m : Str → Option Value) (s : Shared) (front act Z : List (Addr × Obj)) (inv : Value → List (Addr × Obj) → Prop) (y : Value) (s₂ : Shared) : Prop :=
  ∃ h' tk' Z', s₂ = { s with heap := h', toks := tk' } ∧ Fr h₀ L h' m ∧ News h₀ L h' (front ++ (act ++ Z')) ∧ (∀ p ∈ Z', p ∈ Z ∨ s.heap.get? p.1 = none) ∧ inv y Z'
theorem CTurn.intro {h₀ : Heap} {L : Addr} {m : Str → Option Value} {s : Shared} {front act Z news : List (Addr × Obj)} {inv : Value → List (Addr × Obj) → Prop} {y : Value} {h' : Heap} {tk' : Nat}
    (F : Fr h₀ L h' m) (N : News h₀ L h' news) (Z' : List (Addr × Obj)) (hs : ∀ p ∈ front ++ (act ++ Z'), p ∈ news) (hz : ∀ p ∈ Z', p ∈ Z ∨ s.heap.get? p.1 = none) (i : inv y Z') : CTurn h₀ L m s front act Z inv y { s with heap := h', toks := tk' } :=
  ⟨h', tk', Z', rfl, F, fun p hp => N p (hs p hp), hz, i⟩
/-- a comprehension over a list, by an invariant over what it has made -/
theorem comp_src {prog : Program} {w : World} {A : Around} {h₀ : Heap} {L : Addr} {m : Str → Option Value} {env : Env} {elt : PySem.Expr} {x : Str} {scope : Scope} {cl : List (Str × Addr)} {Fin : Shared → List Value → List (Addr × Obj) → Prop} {ax : Addr} {its : Array Value} {act Z₀ : List (Addr × Obj)} {s₁ : Shared}
    (Inv : Nat → List Value → List (Addr × Obj) → Prop)
    (hh : A.handled = none) (F : Fr h₀ L s₁.heap m) (N : News h₀ L s₁.heap (act ++ Z₀)) (hs : LCg.SrcAt h₀ ax its act) (hsz : its.size ≤ 100000) (h0 : Inv 0 [] Z₀)
    (turn : ∀ g i v I oI C oC D m₂ ys Z h tk (E' : Value → Shared → Prop), its[i]? = some v → LCg.NsObj oC m₂ → m₂ x = some v → Fr h₀ L h m → News h₀ L h ((I, oI) :: (C, oC) :: (D, LCg.lst ys) :: (act ++ Z)) → LCg.Off3 I C D act → ((@Ne Nat I C) ∧ (@Ne Nat I D) ∧ (@Ne Nat C D)) → Inv i ys Z →
      wpAny (model prog w) A (eval elt (compEnvC scope cl C env)) (CTurn h₀ L m { s₁ with heap := h, toks := tk, gens := g } [(I, oI), (C, oC), (D, LCg.lst ys)] act Z (fun y Z' => Inv (i + 1) (ys ++ [y]) Z')) E' { s₁ with heap := h, toks := tk, gens := g })
    (fin : ∀ g ys Z, ys.length = its.size → Inv its.size ys Z → Fin { s₁ with heap := g } ys (act ++ Z)) :
    LCg.CompSrc prog w A h₀ L m env elt x scope cl Fin (.ref ax) s₁ := by
  refine .inl ⟨ax, its, act ++ Z₀, rfl, hh, F, N, ?_, by rw [sizeLine_eq]; omega, ?_⟩
  · rcases hs with hs | ⟨o, ho, r⟩
    · exact .inl hs
    · exact .inr ⟨o, List.mem_append_left _ ho, r⟩
  rintro s₂ ⟨g, rfl⟩
  have key : ∀ (j i : Nat) (ys : List Value) (Z : List (Addr × Obj)), i + j = its.size → ys.length = i → Inv i ys Z →
      LCg.CompRest prog w A h₀ L m env elt x scope cl { s₁ with heap := g } (LCg.SrcAt h₀ ax its) (fun i v => its[i]? = some v) (Fin { s₁ with heap := g }) j i ys (act ++ Z) := by
    intro j
    induction j with
    | zero =>
      intro i ys Z hi hl hI
      have : i = its.size := by omega
      subst this
      exact LCg.CompRest.zero (fin g ys Z hl hI)
    | succ j ih =>
      intro i ys Z hi hl hI
      refine LCg.CompRest.succ ?_
      intro v I oI C oC D m₂ h tk E' hv hC hx F N off ne
      refine wpAny_mono (turn _ i v I oI C oC D m₂ ys Z h tk E' hv hC hx F N (LCg.Off3.of fun p hp => LCg.Off3.mem off p (List.mem_append_left _ hp)) ne hI) (fun y s₂ hq => ?_) fun _ _ e => e
      obtain ⟨h', tk', Z', e, F', N', hZ, hI'⟩ := hq
      refine ⟨h', tk', act ++ Z', e, F', N', ?_, ?_, ih (i + 1) _ _ (by omega) (by simp [hl]) hI'⟩
      · refine LCg.Off3.of fun p hp => ?_
        rcases List.mem_append.mp hp with hp | hp
        · exact LCg.Off3.mem off p (List.mem_append_left _ hp)
        rcases hZ p hp with hp | hp
        · exact LCg.Off3.mem off p (List.mem_append_right _ hp)
        · have hp' : h.get? p.1 = none := hp
          refine ⟨fun e => ?_, fun e => ?_, fun e => ?_⟩
          · have := (N (I, oI) (.head _)).1; rw [← e, hp'] at this; cases this
          · have := (N (C, oC) (.tail _ (.head _))).1; rw [← e, hp'] at this; cases this
          · have := (N (D, LCg.lst ys) (.tail _ (.tail _ (.head _)))).1; rw [← e, hp'] at this; cases this
      · rcases hs with hs | ⟨o, ho, r⟩
        · exact .inl hs
        · exact .inr ⟨o, List.mem_append_left _ ho, r⟩
  exact key its.size 0 [] Z₀ (by omega) rfl h0
section
variable {g h : Heap} {Z : List (Addr × Obj)} {x : Addr} {ds : List PyData}
theorem rva_snoc {vs : List Value} {v : Value} {d : PyData} (r : ReadsViaAll g Z vs ds) (r1 : ReadsVia g Z v d) : ReadsViaAll g Z (vs ++ [v]) (ds ++ [d]) := fun H hg hz => by
  obtain ⟨as, ra⟩ := r H hg hz
  obtain ⟨bs, rb⟩ := r1 H hg hz
  exact ⟨_, ra_append ra (.cons rb .nil)⟩
end

section
open PySem.P
variable {prog : Program} {w : World} {A : Around} {E : Value → Shared → Prop} {s : Shared}
theorem iadd_list_call {a b : Value} {Q : Value → Shared → Prop} (ha : s.TypeIs a "list") (hb : s.TypeIs b "list")
    (hc : wpAny (model prog w) A (call (.builtin "list.__iadd__") [a, b]) Q E s) : wpAny (model prog w) A (inplaceOp .Add a b) Q E s := by
  unfold inplaceOp
  refine wpAny_holding ?_
  have hfi : fillsInplaceSlot (.type "list") "add" (Operator.Add == .Add) = pure false := by
    unfold fillsInplaceSlot
    show (typeLookup (.type "list") (dunderI "add") >>= fun fi => pure (fi.isSome && !isSeqSlot fi)) = pure false
    rw [F.slot_list_iadd.lookup]
    simp only [pure_bind]
    rw [show (Option.isSome (some (Value.builtin "list.__iadd__")) && !isSeqSlot (some (Value.builtin "list.__iadd__"))) = false from by decide +kernel]
  have hsi : seqSlot? (.type "list") (dunderI "add") = pure (some (.builtin "list.__iadd__")) := PySem.seqSlot_of F.slot_list_iadd.lookup (by decide +kernel)
  refine wpAny_bind (wpAny_typeOf ha (wpAny_bind (wpAny_of_eq hfi ?_)))
  show wpAny (model prog w) A (if false = true then _ else _) Q E s
  rw [if_neg Bool.false_ne_true]
  refine wpAny_bind (wpAny_binaryOp1_none (nm := "add") ha hb noFill_list_add ?_)
  refine wpAny_bind (wpAny_of_eq hsi ?_)
  refine wpAny_bind (wpAny_rule ?_)
  exact hc
variable {h₀ h : Heap} {L D b : Addr} {m : Str → Option Value} {news news' : List (Addr × Obj)} {its its2 : Array Value} {n n2 : Nat}
theorem iadd_made {Q : Value → Shared → Prop} (F : Fr h₀ L s.heap m) (N : News h₀ L s.heap news) (hb : (b, W.listOf its2 n2) ∈ news) (hne : 0 < its2.size)
    (U : W.Upd D (W.listOf its n) (W.listOf (its ++ its2) (n + 1)) news news') (hz : its.size + its2.size ≤ 1000000)
    (h : ∀ h', Fr h₀ L h' m → News h₀ L h' news' → Q (.ref D) { s with heap := h' }) : wpAny (model prog w) A (inplaceOp .Add (.ref D) (.ref b)) Q E s := by
  obtain ⟨pre, post, rfl, rfl, a, c⟩ := U.split
  have z := N (D, W.listOf its n) (List.mem_append.mpr (.inr (.head _)))
  refine iadd_list_call ⟨_, z.1, rfl⟩ ⟨_, (N _ hb).1, rfl⟩ ?_
  have hd : ¬(!its.isEmpty && Builtin.List.listTooLong (its.size + its2.size)) = true := by
    have : Builtin.List.listTooLong (its.size + its2.size) = false := by
      unfold Builtin.List.listTooLong
      rw [sizeLine_eq]
      simp
      omega
    rw [this]; simp
  refine call_meets PySem.F.slot_list_iadd ⟨_, z.1, rfl⟩ PySem.F.entry_list_iadd (PySem.F.args_list_iadd_2 _ _) (PySem.AutoSeq1.list___iadd___list_list_0 D its n b its2 n2 hd (by rw [sizeLine_eq]; omega) (by rw [sizeLine_eq]; omega)) ⟨z.1, (N _ hb).1, h _ (F.change (Heap.SameBut.update ..) z.2.1 z.2.2) (W.kl_turn _ N a c ?_ ?_)⟩
  · rfl
  · rw [Array.size_append]; omega
end
section
variable {prog : Program} {w : World} {A : Around} {E : Value → Shared → Prop} {s : Shared}
theorem item_last {value slice : PySem.Expr} {l : Addr} {vs : Array Value} {u : Tok} {v : Value} {Q : Value → Shared → Prop}
    (hl : s.heap.IsList l vs) (hx : vs.toList.getLast? = some v) (h : Q v s)
    (hs : subscripted slice false (.ref l) (.int (-1) u) = operate [.ref l, .int (-1) u] (getItem (.ref l) (.int (-1) u)) := by with_unfolding_all rfl) :
    wpAny (model prog w) A (subscriptTail value slice (.ref l) (.int (-1) u)) Q E s := by
  refine tail_any hl.typeIs F.slot_list_getitem.lookup ?_ hs
  have hp : 0 < vs.size := by
    rw [List.getLast?_eq_getElem?] at hx
    have := List.getElem?_eq_some_iff.mp hx
    obtain ⟨h1, _⟩ := this
    rw [Array.length_toList] at h1; omega
  refine wpAny_getItem_list_neg hl (k := -1) (by decide) (by omega) (by decide) ?_ h
  rw [List.getLast?_eq_getElem?, Array.length_toList, Array.getElem?_toList] at hx
  rw [show ((-1 : Int) + (vs.size : Int)).toNat = vs.size - 1 from by omega]
  exact hx
end

def bodyOf : Stmt → List Stmt
  | .FunctionDef _ _ b _ _ _ _ _ _ _ => b
  | _ => []
def scopeOf : Stmt → Scope
  | .FunctionDef _ _ _ _ _ _ s _ _ _ => s
  | _ => default
def forBody : Stmt → List Stmt
  | .For _ _ b _ _ => b
  | _ => []
noncomputable def lawD (k : Nat) : Stmt := PySem.Challenge.pw_io0038_01.main.body.getD k (.Pass default)
noncomputable def stOf (k j : Nat) : Stmt := (bodyOf (lawD k)).getD j (.Pass default)
def whBody : Stmt → List Stmt
  | .While _ b _ _ => b
  | _ => []

section
open Builtin Builtin.Str
theorem mp_owner : Manifest.owners.lookup (String.ofList ['p', 'a', 'm'].reverse) = some Manifest.sig_map := by kernel_rfl
theorem mp_slot_next : Slot "map" "__next__" "map.__next__" :=
  .of (owner := "map") (n := "__next__") (by rw [typeLookup_type, builtinLookup_eq_fast]; kernel_rfl) (by decide +kernel) (by decide +kernel) (by decide +kernel)
    (by first | exact .inl (by decide +kernel) | exact .inr (by decide +kernel)) (by rw [isSubtype_type]; kernel_rfl)
theorem mp_entry_next : entryFor table "map.__next__" = some Builtin.«map.__next__» := entryFor_of_tree (by kernel_rfl)
theorem mp_args_next (a : Value) : argsOk "map.__next__" ⟨[a], []⟩ := by
  unfold argsOk; rw [signature?_of (id := "map.__next__") (n := ['_', '_', 't', 'x', 'e', 'n', '_', '_']) (o := ['p', 'a', 'm']) (by kernel_rfl) mp_owner]; kernel_rfl
theorem mp_slot_iter : Slot "map" "__iter__" "map.__iter__" :=
  .of (owner := "map") (n := "__iter__") (by rw [typeLookup_type, builtinLookup_eq_fast]; kernel_rfl) (by decide +kernel) (by decide +kernel) (by decide +kernel)
    (by first | exact .inl (by decide +kernel) | exact .inr (by decide +kernel)) (by rw [isSubtype_type]; kernel_rfl)
theorem mp_entry_iter : entryFor table "map.__iter__" = some Builtin.«dict_keyiterator.__iter__» :=
  entryFor_alias (id' := "dict_keyiterator.__iter__") (by kernel_rfl) (by first | rfl | decide +kernel | (unfold String.splitOn; simp +decide [String.splitOnAux])) (by decide +kernel) (by kernel_rfl)
theorem mp_args_iter (a : Value) : argsOk "map.__iter__" ⟨[a], []⟩ := by
  unfold argsOk; rw [signature?_of (id := "map.__iter__") (n := ['_', '_', 'r', 'e', 't', 'i', '_', '_']) (o := ['p', 'a', 'm']) (by kernel_rfl) mp_owner]; kernel_rfl
theorem mp_slot_init : Slot "map" "__init__" "object.__init__" :=
  .of (owner := "object") (n := "__init__") (by rw [typeLookup_type, builtinLookup_eq_fast]; kernel_rfl) (by decide +kernel) (by decide +kernel) (by decide +kernel)
    (by first | exact .inl (by decide +kernel) | exact .inr (by decide +kernel)) (by rw [isSubtype_type]; kernel_rfl)
theorem mp_mro : mroOf (.type "map") = pure [.type "map", .type "object"] := by rw [mroOf_type]; kernel_rfl
theorem mp_lookup_new : typeLookup (.type "map") "__new__" = pure (some (.builtin "map.__new__")) := by rw [typeLookup_type, builtinLookup_eq_fast]; kernel_rfl
theorem mp_called : TypeCalled "map" "map.__new__" "object.__init__" :=
  ⟨by decide +kernel, by decide +kernel, ⟨_, _, mp_mro⟩, madeBy_type mp_mro mp_lookup_new (by decide +kernel), by decide +kernel, by rw [isSubtype_type]; kernel_rfl, mp_slot_init⟩
theorem mp_typeCall (a b : Value) : checkTypeCall "map" ⟨[a, b], []⟩ = pure () := by kernel_rfl
theorem mp_newCall (a b : Value) : checkBuiltinCall "map.__new__" ⟨[.type "map", a, b], []⟩ = pure () := by kernel_rfl
theorem mp_entry_new : entryFor table "map.__new__" = some Builtin.«map.__new__» := entryFor_of_tree (by kernel_rfl)
theorem mp_sub : isSubtype (.type "map") (.type "map") = pure true := by rw [isSubtype_type]; kernel_rfl
theorem mp_nolen : typeLookup (.type "map") "__len__" = pure none := by rw [typeLookup_type, builtinLookup_eq_fast]; kernel_rfl
theorem mp_nohint : typeLookup (.type "map") "__length_hint__" = pure none := by rw [typeLookup_type, builtinLookup_eq_fast]; kernel_rfl

abbrev IsMap (h : Heap) (z TI : Addr) (f : Value) : Prop := h.get? z = some { cls := .type "map", dict := none, data := .fields #[.ref TI, f], slots := #[] }
abbrev IsOne (h : Heap) (T : Addr) (a : Value) : Prop := h.get? T = some { cls := .type "tuple", data := .seq #[a] }

/-- str(v) gives y, the heap may grow -/
def StrGives (prog : Program) (w : World) (A : Around) (s : Shared) (v : Value) (y : Str) : Prop :=
  ∀ (Q : Value → Shared → Prop) (E : Value → Shared → Prop), (∀ h' t tk, s.toks ≤ tk → s.heap.StaysIn h' → Q (.str y t) { s with heap := h', toks := tk }) → wpAny (model prog w) A (call (.type "str") [v]) Q E s
theorem StrGives.str {prog : Program} {w : World} {A : Around} {s : Shared} {x : Str} {t : Tok} : StrGives prog w A s (.str x t) x := fun _ _ h => PySem.P.str_of_str (h s.heap t s.toks (Nat.le_refl _) fun _ _ e => e)

section
variable {prog : Program} {w : World} {A : Around} {E : Value → Shared → Prop} {s : Shared}
theorem map_next_item {z TI i l : Addr} {k : Nat} {xs : Array Value} {x : Value} {y : Str} {Q : Value → Shared → Prop}
    (hz : IsMap s.heap z TI (.type "str")) (hTI : IsOne s.heap TI (.ref i)) (hi : s.heap.IsListIter i l k) (hl : s.heap.IsList l xs) (hx : xs[k]? = some x) (hiz : z ≠ i)
    (hs : ∀ h', Heap.SameBut i s.heap h' → StrGives prog w A { s with heap := h' } x y)
    (hQ : ∀ h₁ h' t tk, h₁.IsListIter i l (k + 1) → Heap.SameBut i s.heap h₁ → h₁.StaysIn h' → s.toks ≤ tk → Q (.str y t) { s with heap := h', toks := tk }) :
    wpAny (model prog w) A (Builtin.«map.__next__» ⟨[.ref z], []⟩) (fun fin s' => ∃ v, fin = .done (.ret v) ∧ Q v s') E s := by
  show wpAny _ _ (field (.ref z) 0 >>= _) _ _ _
  refine wpAny_bind (wpAny_field hz rfl (x := .ref TI) rfl ?_)
  refine wpAny_bind (wpAny_seqItems hTI rfl ?_)
  show wpAny _ _ (forIn (#[Value.ref i] : Array Value) _ _ >>= _) _ _ _
  refine wpAny_bind ?_
  simp only [List.forIn_toArray, List.forIn_cons, List.forIn_nil]
  refine wpAny_bind (wpAny_bind (wpAny_holding ?_))
  refine wpAny_nextOf_list_item hi hl hx fun h₁ hi₁ hs₁ => ?_
  refine wpAny_pure (wpAny_pure ?_)
  refine wpAny_bind (wpAny_field (hs₁.extBut _ _ hiz hz) rfl (x := .type "str") rfl ?_)
  refine wpAny_bind (wpAny_holding ?_)
  refine hs h₁ hs₁ _ _ fun h' t tk htk hk => ?_
  refine wpAny_bind (wpAny_letGo ?_)
  exact wpAny_pure ⟨_, rfl, hQ h₁ h' t tk hi₁ hs₁ hk htk⟩

theorem map_next_end {z TI i l : Addr} {k : Nat} {xs : Array Value} {Q : Fin → Shared → Prop} (hh : A.handled = none)
    (hz : IsMap s.heap z TI (.type "str")) (hTI : IsOne s.heap TI (.ref i)) (hi : s.heap.IsListIter i l k) (hl : s.heap.IsList l xs) (hx : xs[k]? = none)
    (hE : ∀ h' e, Heap.ExtBut i s.heap h' → (∃ o, h'.get? e = some o ∧ o.cls = .type "StopIteration") → E (.ref e) { s with heap := h' }) :
    wpAny (model prog w) A (Builtin.«map.__next__» ⟨[.ref z], []⟩) Q E s := by
  show wpAny _ _ (field (.ref z) 0 >>= _) _ _ _
  refine wpAny_bind (wpAny_field hz rfl (x := .ref TI) rfl ?_)
  refine wpAny_bind (wpAny_seqItems hTI rfl ?_)
  show wpAny _ _ (forIn (#[Value.ref i] : Array Value) _ _ >>= _) _ _ _
  refine wpAny_bind ?_
  simp only [List.forIn_toArray, List.forIn_cons, List.forIn_nil]
  refine wpAny_bind (wpAny_bind (wpAny_holding ?_))
  exact wpAny_nextOf_list_end hh hi hl hx fun h' e hk he => hE h' e hk he

/-- what holds of the heap along the walk: all of h0 but the inner iterator -/
def MapSt (h0 : Heap) (i l : Addr) (k : Nat) (s : Shared) : Prop := (∀ b o, b ≠ i → h0.get? b = some o → s.heap.get? b = some o) ∧ s.heap.IsListIter i l k

theorem mapWalks (hh : A.handled = none) (h0 : Heap) (z TI i l : Addr) (xs : Array Value) (ys : Nat → Str)
    (hz : IsMap h0 z TI (.type "str")) (hTI : IsOne h0 TI (.ref i)) (hl : h0.IsList l xs) (hi : i < h0.objs.size) (nz : z ≠ i) (nT : TI ≠ i) (nl : l ≠ i)
    (hs : ∀ (k : Nat) x, xs[k]? = some x → ∀ s : Shared, (∀ b o, b ≠ i → h0.get? b = some o → s.heap.get? b = some o) → StrGives prog w A.in1 s x (ys k)) :
    WalksS prog w A z (List.range h0.objs.size) [i] (fun a b => b = a) xs.size (fun k v => ∃ t, v = .str (ys k) t) (MapSt h0 i l) where
  sub := fun b hb => by
    obtain rfl : b = i := by simpa using hb
    exact List.mem_range.mpr hi
  grefl := fun _ => rfl
  gtrans := fun _ _ _ h1 h2 => h2.trans h1
  frame := fun k s h' tk st _ hk => by
    refine ⟨fun b o hb e => hk b (List.mem_range.mpr (Heap.lt_size e)) o (st.1 b o hb e), ?_⟩
    obtain ⟨o, ho, r⟩ := st.2
    exact ⟨o, hk i (List.mem_range.mpr hi) o ho, r⟩
  item := fun k s Q E hk st hQ => by
    obtain ⟨st1, st2⟩ := st
    have hx : xs[k]? = some xs[k] := Array.getElem?_eq_getElem hk
    have hz' : IsMap s.heap z TI (.type "str") := st1 _ _ nz hz
    have hT : s.TypeIs (.ref z) "map" := ⟨_, hz', rfl⟩
    unfold pyNext
    refine wpAny_bind (wpAny_attempt (wpAny_callSpecial?_slot (name := Str.ofString "__next__") hT mp_slot_next
      (wpAny_call_entry mp_slot_next hT mp_entry_next (map_next_item (y := ys k) (Q := fun v s' => wpAny (model prog w) A (pure (some v)) Q E s') hz' (st1 _ _ nT hTI) st2 (hl.at fun o e => st1 _ _ nl e) hx nz (fun h' hs' => ?_) fun h₁ h' t tk a1 a2 a3 a4 => ?_) (mp_args_next _))))
    · exact hs k _ hx _ fun b o hb e => hs'.extBut _ _ hb (st1 b o hb e)
    · refine wpAny_pure (hQ _ _ ⟨t, rfl⟩ ⟨fun b o hb e => a3 _ _ (a2.extBut _ _ hb (st1 b o hb e)), ?_⟩ ⟨fun b o hb e => a3 _ _ (a2.extBut _ _ (by simpa using hb) e), rfl, rfl, rfl, a4⟩)
      obtain ⟨o, ho, r⟩ := a1
      exact ⟨o, a3 _ _ ho, r⟩
  done := fun s Q E st hQ => by
    obtain ⟨st1, st2⟩ := st
    have hx : xs[xs.size]? = none := Array.getElem?_eq_none (Nat.le_refl _)
    have hz' : IsMap s.heap z TI (.type "str") := st1 _ _ nz hz
    have hT : s.TypeIs (.ref z) "map" := ⟨_, hz', rfl⟩
    unfold pyNext
    refine wpAny_bind (wpAny_attempt (wpAny_callSpecial?_slot (name := Str.ofString "__next__") hT mp_slot_next
      (wpAny_call_entry mp_slot_next hT mp_entry_next (map_next_end (by exact hh) hz' (st1 _ _ nT hTI) st2 (hl.at fun o e => st1 _ _ nl e) hx (fun h' e hk he => ?_)) (mp_args_next _))))
    obtain ⟨o, ho, hc⟩ := he
    refine wpAny_bind (wpAny_isInstance (T := "StopIteration") (b := true) ⟨o, ho, hc⟩ isSubtype_stop ?_)
    exact wpAny_pure (hQ _ ⟨fun b o hb e => hk _ _ (by simpa using hb) e, rfl, rfl, rfl, Nat.le_refl _⟩)
  self := fun k s Q E st hQ => by
    have hz' : IsMap s.heap z TI (.type "str") := st.1 _ _ nz hz
    have hT : s.TypeIs (.ref z) "map" := ⟨_, hz', rfl⟩
    refine wpAny_pyIter_slot hT mp_slot_iter (wpAny_call_entry mp_slot_iter hT mp_entry_iter ?_ (mp_args_iter _))
    show wpAny _ _ (ret (.ref z)) _ _ s
    exact wpAny_pure ⟨_, rfl, "map", _, hT, mp_slot_next.lookup, hQ⟩

theorem collect_map {I : Addr} {fp wr : List Addr} {G : Array GenState → Array GenState → Prop} {n : Nat} {P : Nat → Value → Prop} {St : Nat → Shared → Prop} {Q : List Value → Shared → Prop}
    (W : WalksS prog w A.in1 I fp wr G n P St) (hT : ∀ i s, St i s → s.TypeIs (.ref I) "map") (hst : St 0 s) (hfp : ∀ b ∈ fp, b < s.heap.objs.size) (hI : I ∈ fp)
    (hQ : ∀ s' acc, Moved wr G s s' → ItemsOf P acc n → Q acc.toList s') (hn : n ≤ sizeLine) : wpAny (model prog w) A (collect (.ref I)) Q E s := by
  have hSf : s.heap.objs.size ∉ fp := fun hm => Nat.lt_irrefl _ (hfp _ hm)
  have hSI : s.heap.objs.size ≠ I := fun e => hSf (e ▸ hI)
  unfold collect
  refine wpAny_bind (wpAny_runValue (codeAny_builtin F.entry_proto_collect ?_))
  rw [Around.under_plainId F.plain_proto_collect _]
  show wpAny _ A.in1 (newList [] >>= fun l => again (.builtin "list.__iadd__" ⟨[l, .ref I], []⟩)) _ _ s
  refine wpAny_bind (wpAny_newObj_type ?_)
  refine wpAny_pure ⟨plainId_quiet F.plain_list_iadd _, codeAny_builtin F.entry_list_iadd ?_⟩
  rw [Around.under_plainId F.plain_list_iadd _]
  have hst₁ := W.frame 0 s (s.heap.push { cls := .type "list", data := .seq ([] : List Value).toArray }) s.toks hst (Nat.le_refl _) fun b _ o e => Heap.get?_push_of_some _ e
  show wpAny _ A.in1 (Builtin.List.listExtendWith (.ref s.heap.objs.size) (.ref I) (.ref s.heap.objs.size)) _ _ _
  unfold Builtin.List.listExtendWith
  refine wpAny_bind (wpAny_typeOf (hT 0 _ hst₁) ?_)
  have h1 : Builtin.List.listSameRef (.ref s.heap.objs.size) (.ref I) = false := by simp [Builtin.List.listSameRef, hSI]
  have h2 : (Value.type "map" == Value.type "list") = false := by decide
  have h3 : (Value.type "map" == Value.type "tuple") = false := by decide
  simp only [h1, h2, h3, Bool.or_false, Bool.false_eq_true, if_false]
  refine wpAny_bind (W.self 0 _ _ _ hst₁ ?_)
  refine wpAny_bind (wpAny_holding ?_)
  unfold Builtin.List.listLengthHint
  refine wpAny_bind (wpAny_specialOf (hT 0 _ hst₁) mp_nolen ?_)
  show wpAny _ A.in1 (specialOf (Value.ref I) (Str.ofString "__length_hint__") >>= _) _ _ _
  refine wpAny_bind (wpAny_specialOf (hT 0 _ hst₁) mp_nohint ?_)
  refine wpAny_pure ?_
  show wpAny _ A.in1 (rule "list.extend.makes-room" >>= fun _ => Builtin.List.listTouch (.ref s.heap.objs.size) >>= fun _ =>
    again (.builtin "list.extend.loop" ⟨[.ref s.heap.objs.size, .ref I, .ref s.heap.objs.size], []⟩)) _ _ _
  refine wpAny_bind (wpAny_rule ?_)
  have hS₁ : (s.heap.push { cls := .type "list", data := .seq ([] : List Value).toArray }).get? s.heap.objs.size = some { cls := .type "list", data := .seq ([] : List Value).toArray } := Heap.get?_push_size _ rfl
  refine wpAny_bind ?_
  show wpAny _ A.in1 (updateSeq s.heap.objs.size (·.push .none) >>= fun _ => updateSeq s.heap.objs.size (·.pop)) _ _ _
  refine wpAny_bind (wpAny_updateSeq hS₁ rfl ?_)
  have hS₂ := Heap.get?_update_self (Obj.mapSeq (·.push Value.none)) hS₁ rfl
  refine wpAny_updateSeq hS₂ rfl ?_
  have hS₃ := Heap.get?_update_self (Obj.mapSeq (·.pop)) hS₂ rfl
  have oth : ∀ b o, b ≠ s.heap.objs.size → (s.heap.push { cls := .type "list", data := .seq ([] : List Value).toArray }).get? b = some o →
      (((s.heap.push { cls := .type "list", data := .seq ([] : List Value).toArray }).update s.heap.objs.size (Obj.mapSeq (·.push Value.none))).update s.heap.objs.size (Obj.mapSeq (·.pop))).get? b = some o :=
    fun b o hb e => (Heap.get?_update_other _ _ (Ne.symm hb)).trans ((Heap.get?_update_other _ _ (Ne.symm hb)).trans e)
  refine wpAny_pure ⟨plainId_quiet F.plain_extend_loop _, codeAny_extend_loopS W hn _ hSf _ n 0 _ _ _ rfl (Nat.zero_le _)
    (W.frame 0 ({ s with heap := s.heap.push { cls := .type "list", data := .seq ([] : List Value).toArray } } : Shared) _ s.toks hst₁ (Nat.le_refl _) fun b hb o e => oth b o (fun h => hSf (h ▸ hb)) e) hS₃ (ItemsOf.nil P) fun s' acc' c' hm hS' hacc => ?_⟩
  show wpAny _ A (load s.heap.objs.size >>= _) _ _ s'
  refine wpAny_bind (wpAny_load hS' ?_)
  refine wpAny_pure (hQ s' acc' (Moved.drop_new (o := { cls := .type "list", data := .seq ([] : List Value).toArray }) (tk := s.toks) (Moved.trans W.gtrans ((Moved.refl W.grefl).then_heap (by first | exact Nat.le_refl _ | exact Nat.le_succ _ | omega) fun b o hb e => ?_) hm) (Nat.le_refl _)) hacc)
  exact oth b o (fun h => hb (h ▸ List.mem_cons_self)) e

/-- sep.join(map(str, ..)) -/
theorem join_map {x : Str} {t : Tok} (hh : A.handled = none) {z TI i l : Addr} {xs : Array Value} {ys : List Str} {Q : Value → Shared → Prop}
    (hz : IsMap s.heap z TI (.type "str")) (hTI : IsOne s.heap TI (.ref i)) (hi : s.heap.IsListIter i l 0) (hl : s.heap.IsList l xs) (nz : z ≠ i) (nT : TI ≠ i) (nl : l ≠ i) (hlen : xs.size = ys.length)
    (hs : ∀ (k : Nat) x y, xs[k]? = some x → ys[k]? = some y → ∀ s' : Shared, (∀ b o, b ≠ i → s.heap.get? b = some o → s'.heap.get? b = some o) → StrGives prog w A.in1.in1.in1.in1 s' x y)
    (hok : JoinOk x ys = true) (hn : ys.length ≤ sizeLine)
    (hq : ∀ h' t' tk, (∀ b o, b ≠ i → s.heap.get? b = some o → h'.get? b = some o) → Q (.str (Txt.join x ys) t') { s with heap := h', toks := tk }) :
    wpAny (model prog w) A (call (.builtin "str.join") [.str x t, .ref z]) Q E s := by
  have hT : s.TypeIs (.ref z) "map" := ⟨_, hz, rfl⟩
  have hilt : i < s.heap.objs.size := by obtain ⟨o, ho, _⟩ := hi; exact Heap.lt_size ho
  have hy : ∀ k (hk : k < xs.size), ys[k]? = some (ys.getD k Str.empty) := fun k hk => by
    rw [List.getD_eq_getElem?_getD, List.getElem?_eq_getElem (by omega)]; rfl
  have W : WalksS prog w A.in1.in1 z (List.range s.heap.objs.size) [i] (fun a b => b = a) xs.size (fun k v => ∃ t, v = .str (ys.getD k Str.empty) t) (MapSt s.heap i l) :=
    mapWalks (A := A.in1.in1) hh s.heap z TI i l xs (fun k => ys.getD k Str.empty) hz hTI hl hilt nz nT nl fun k x hx s' hk => by
      have hlt : k < xs.size := by
        rcases Nat.lt_or_ge k xs.size with h | h
        · exact h
        · rw [Array.getElem?_eq_none h] at hx; cases hx
      have hG := hs k x _ hx (hy k hlt) s' hk
      intro Q E hQ
      exact wpAny_of_in1 (hG Q E hQ)
  have hst : MapSt s.heap i l 0 s := ⟨fun _ _ _ e => e, hi⟩
  refine wpAny_call (codeAny_call_builtin F.slot_str_join.plain F.entry_str_join (F.slot_str_join.check _ _ _ _ _ _ _ _ (typeIs_str _ _ _) (F.args_str_join_2 _ _) ?_))
  rw [join_tree_other]
  refine wpAny_bind (wpAny_typeOf hT ?_)
  show wpAny _ A.in1 ((pyIter (.ref z)).tryCatch _ >>= fun it => collect it >>= fun items => joinTail x items) _ _ s
  refine wpAny_bind (wpAny_tryCatch (W.of_in1.self 0 s _ _ hst ?_))
  refine wpAny_bind (collect_map W (fun k s st => ⟨_, st.1 _ _ nz hz, rfl⟩) hst (fun b hb => List.mem_range.mp hb) (List.mem_range.mpr (Heap.lt_size hz)) (fun s' acc hm hacc => ?_) (by rw [hlen]; exact hn))
  obtain ⟨L, hL⟩ := exists_strValues acc.toList fun v hv => by
    obtain ⟨j, hj, rfl⟩ := Array.mem_iff_getElem.mp (Array.mem_toList_iff.mp hv)
    obtain ⟨t, e⟩ := hacc.2 j _ (Array.getElem?_eq_getElem hj)
    exact ⟨_, t, e⟩
  have hLy : L.map (·.1) = ys := by
    have hlL : L.length = acc.size := by
      have := congrArg List.length hL
      simpa [strValues] using this
    apply List.ext_getElem?
    intro k
    rcases Nat.lt_or_ge k ys.length with hk | hk
    · have hk' : k < acc.size := by rw [hacc.1, hlen]; exact hk
      obtain ⟨t, e⟩ := hacc.2 k _ (Array.getElem?_eq_getElem hk')
      have e2 : (strValues L)[k]? = some acc[k] := by rw [hL]; simp [hk']
      rw [e] at e2
      rw [List.getElem?_map]
      unfold strValues at e2
      rw [List.getElem?_map] at e2
      rw [hy k (by rw [hlen]; exact hk)]
      cases hLk : L[k]? with
      | none => rw [hLk] at e2; cases e2
      | some p =>
        rw [hLk] at e2
        simp only [Option.map_some, Option.some.injEq, Value.str.injEq] at e2 ⊢
        exact e2.1
    · rw [List.getElem?_eq_none (by rw [List.length_map, hlL, hacc.1, hlen]; exact hk), List.getElem?_eq_none hk]
  rw [← hL]
  rw [← hLy] at hok
  have hok' := hok
  unfold JoinOk at hok
  rw [Bool.not_eq_true'] at hok
  have g : Gives (joinTail x (strValues L)) (joinMade x L) := by
    have g0 := gives_joinTail x L hok
    cases L with
    | nil => exact g0
    | cons p r => cases r with
      | nil => exact g0
      | cons q r' => exact g0
  obtain ⟨mh, mg, md, mo, mt⟩ := hm
  have hs' : s' = { s with heap := s'.heap, toks := s'.toks } := by
    obtain ⟨h, gg, d, t, o⟩ := s'
    simp only at mg md mo
    subst mg md mo
    rfl
  refine g prog w A (wants Q E) s' (post_join L ⟨joinFit_length hok, fun t' k => ?_⟩)
  rw [hs', hLy]
  exact hq _ _ _ fun b o hb e => mh b o (by simpa using hb) e

abbrev mapH1 (h : Heap) (l : Addr) : Heap := h.push { cls := .type "list_iterator", data := .fields #[.ref l, .int 0 0] }
abbrev mapH2 (h : Heap) (l : Addr) : Heap := (mapH1 h l).push { cls := .type "tuple", data := .seq #[.ref h.objs.size] }
abbrev mapH3 (h : Heap) (l : Addr) (f : Value) : Heap := (mapH2 h l).push { cls := .type "map", data := .fields #[.ref (mapH1 h l).objs.size, f] }
theorem meets_map_new (l : Addr) (f : Value) (xs : Array Value) :
    Meets (Builtin.«map.__new__» ⟨[.type "map", f, .ref l], []⟩) (fun _ R s => s.heap.IsList l xs ∧
      R (.ok (.ret (.ref (mapH2 s.heap l).objs.size))) { s with heap := mapH3 s.heap l f }) :=
  .of_wp fun prog w A R s h => by
    obtain ⟨hp, g, d, tk, os⟩ := s; obtain ⟨hl1, h⟩ := h
    have hsub := mp_sub
    have hL1 : Heap.IsList (Shared.heap ⟨hp, g, d, tk, os⟩) l xs := hl1
    wp_walk using wpAny_pyIter_list hL1
    exact ⟨_, rfl, h⟩

theorem call_map {l : Addr} {f : Value} {xs : Array Value} {Q : Value → Shared → Prop} (hl : s.heap.IsList l xs)
    (h : ∀ h', IsMap h' (s.heap.objs.size + 2) (s.heap.objs.size + 1) f → IsOne h' (s.heap.objs.size + 1) (.ref s.heap.objs.size) → h'.IsListIter s.heap.objs.size l 0 →
      s.heap.StaysIn h' → Q (.ref (s.heap.objs.size + 2)) { s with heap := h' }) :
    wpAny (model prog w) A (call (.type "map") [f, .ref l]) Q E s := by
  refine callType_new mp_called (by decide) (mp_typeCall _ _) (mp_newCall _ _) (fun obj => F.args_object_init_3 obj _ _) mp_entry_new
    (meets_map_new l f xs) ⟨hl, ?_⟩
  have z1 : (mapH1 s.heap l).objs.size = s.heap.objs.size + 1 := Heap.size_push ..
  have z2 : (mapH2 s.heap l).objs.size = s.heap.objs.size + 2 := by rw [Heap.size_push, z1]
  have g3 : (mapH3 s.heap l f).get? (mapH2 s.heap l).objs.size = some _ := Heap.get?_push_size _ rfl
  have g2 : (mapH3 s.heap l f).get? (mapH1 s.heap l).objs.size = some _ := Heap.get?_push_of_some _ (Heap.get?_push_size _ rfl)
  have g1 : (mapH3 s.heap l f).get? s.heap.objs.size = some _ := Heap.get?_push_of_some _ (Heap.get?_push_of_some _ (Heap.get?_push_size _ rfl))
  show _ ∧ _
  rw [z2, z1] at g3
  rw [z1] at g2
  rw [z2]
  exact ⟨⟨_, g3, rfl⟩, h _ g3 g2 ⟨_, g1, rfl, rfl⟩ fun c o x => Heap.get?_push_of_some _ (Heap.get?_push_of_some _ (Heap.get?_push_of_some _ x))⟩
end
end
/-- a map object over str and a list stands ready -/
def MapReady (h₀ : Heap) (L : Addr) (h : Heap) (news : List (Addr × Obj)) (z l : Addr) (xs : Array Value) : Prop :=
  ∃ TI i, IsMap h z TI (.type "str") ∧ IsOne h TI (.ref i) ∧ h.IsListIter i l 0 ∧ h.IsList l xs ∧ z ≠ i ∧ TI ≠ i ∧ l ≠ i ∧ i ≠ L ∧ h₀.get? i = none ∧ ∀ p ∈ news, p.1 ≠ i
section
variable {prog : Program} {w : World} {A : Around} {E : Value → Shared → Prop} {s : Shared} {h₀ : Heap} {L : Addr} {m : Str → Option Value} {news : List (Addr × Obj)}
theorem map_N {l : Addr} {xs : Array Value} {Q : Value → Shared → Prop} (F : Fr h₀ L s.heap m) (N : News h₀ L s.heap news) (hl : s.heap.IsList l xs)
    (h : ∀ h' z, Fr h₀ L h' m → News h₀ L h' news → MapReady h₀ L h' news z l xs → Q (.ref z) { s with heap := h' }) :
    wpAny (model prog w) A (call (.type "map") [.type "str", .ref l]) Q E s := by
  refine call_map hl fun h' a1 a2 a3 a4 => ?_
  have nL : s.heap.objs.size ≠ L := Nat.ne_of_gt F.ns.lt
  obtain ⟨o, ho, _⟩ := id hl
  refine h h' _ (F.keeps a4) (fun p hp => ⟨a4 _ _ (N p hp).1, (N p hp).2⟩) ⟨s.heap.objs.size + 1, s.heap.objs.size, a1, a2, a3, stays_list a4 hl, neN (a := s.heap.objs.size + 2) (b := s.heap.objs.size) (by omega), neN (a := s.heap.objs.size + 1) (b := s.heap.objs.size) (by omega), Nat.ne_of_lt (Heap.lt_size ho), nL, none_at_size F, fun p hp => Nat.ne_of_lt (Heap.lt_size (N p hp).1)⟩
theorem join_map_N {x : Str} {t : Tok} {z l : Addr} {xs : Array Value} {ys : List Str} {Q : Value → Shared → Prop} (F : Fr h₀ L s.heap m) (N : News h₀ L s.heap news) (MR : MapReady h₀ L s.heap news z l xs) (hh : A.handled = none)
    (hi : StrsAre xs.toList ys) (hsep : x.length ≤ 16) (hw : (ys.map (·.length)).sum + ys.length ≤ 1048576)
    (hq : ∀ h' t' tk, Fr h₀ L h' m → News h₀ L h' news → Q (.str (Txt.join x ys) t') { s with heap := h', toks := tk }) :
    wpAny (model prog w) A (call (.builtin "str.join") [.str x t, .ref z]) Q E s := by
  obtain ⟨TI, i, m1, m2, m3, m4, n1, n2, n3, n4, n5, n6⟩ := MR
  have hlen := StrsAre.length hi
  rw [Array.length_toList] at hlen
  refine join_map hh m1 m2 m3 m4 n1 n2 n3 hlen (fun k v y hv hy s' _ => ?_) (joinOk_of_weight hw hsep) (by rw [sizeLine_eq]; omega) fun h' t' tk hk => ?_
  · have : ∃ t, v = .str y t := by
      have key : ∀ (vs : List Value) (zs : List Str), StrsAre vs zs → ∀ k : Nat, vs[k]? = some v → zs[k]? = some y → ∃ t, v = .str y t := by
        intro vs zs hz
        induction hz with
        | nil => intro k hk _; simp at hk
        | cons =>
          rename_i ih
          intro k hk hy
          cases k with
          | zero => simp at hk hy; subst hk hy; exact ⟨_, rfl⟩
          | succ k => exact ih k (by simpa using hk) (by simpa using hy)
      exact key _ _ hi k (by rw [Array.getElem?_toList]; exact hv) hy
    obtain ⟨t, rfl⟩ := this
    exact StrGives.str
  · obtain ⟨oL, es, ep, hL, r⟩ := F.ns
    refine hq h' t' tk ⟨⟨oL, es, ep, hk _ _ (Ne.symm n4) hL, r⟩, fun b o e => hk b o (fun q => by rw [q, n5] at e; cases e) (F.keep b o e), F.above⟩ fun p hp => ⟨hk _ _ (n6 p hp) (N p hp).1, (N p hp).2⟩
end

/-! defs with cells: entry, and calls out of them -/
theorem enterC {w : World} {A : Around} {R : Result → Shared → Prop} {s : Shared} {name : Str} {params : Arguments} {body : List Stmt} {scope : Scope} {dV kV doc pm cdv ct oc : Value} {an od : Option Addr} {osl : Array (Option Value)} {f : Addr} {args : List Value} {binds : List (Str × Value)}
    (X : (Mine.hd.heap_39 w.params).In s.heap) (T : TopH s.heap)
    (ho : (Mine.hd.heap_39 w.params).lookup f = some ⟨oc, od, .func (fnOf name name params body scope dV kV doc pm an cdv ct), osl⟩) (hcd : codeIn (Mine.hd.heap_39 w.params) cdv name = true) (hroom : A.depth < recursionLimit)
    (hfd : fnOf name name params body scope dV kV doc pm an cdv ct = Calls.docDef name params body scope pm cdv doc)
    (hbind : bindArgs (Calls.docDef name params body scope pm cdv doc) ⟨args, []⟩ = pure binds)
    (hkind : ∀ x ∈ binds, scope.names.lookup x.1 = some .local ∨ (scope.names.lookup x.1 = some .cell ∧ ((cellsFrom (s.heap.objs.size + 1) scope.names []).lookup x.1).isSome = true))
    (hnd : ((cellsFrom 0 scope.names []).map (·.1)).Nodup)
    (h : ∀ h₁ tk cells mean mg mb, Fr s.heap s.heap.objs.size h₁ (bindL (envOfC name scope s.heap.objs.size f cdv).kindOf binds fun _ => none) → News s.heap s.heap.objs.size h₁ cells →
      CellsAre (bindC (envOfC name scope s.heap.objs.size f cdv).kindOf binds fun _ => none) (cellsFrom (s.heap.objs.size + 1) scope.names []) cells → Top V (looseW V []) mean mg mb s.heap →
      wpAny (model P w) (A.deeper (envOfC name scope s.heap.objs.size f cdv)) (execs body (envOfC name scope s.heap.objs.size f cdv))
        (fun fl s' => R (.ok (.ret (match fl with | .ret v => v | _ => .none))) s')
        (fun _ _ => False)
        { s with heap := h₁, toks := tk })
    (hco : scope.isCoroutine = false) (hgen : scope.isGenerator = false) (hk : scope.kind = .function) :
    codeAny (model P w) A (.call (.ref f) ⟨args, []⟩) R s := by
  obtain ⟨mean, mg, mb, T⟩ := T
  refine call_cellsN hroom (X _ _ ho) (by rw [hfd]) T.nolimit (codeRec_of X hcd) hbind hkind hnd (fun h₁ tk cells F N C => ?_) hco hgen hk
  exact wpAny_mono (h h₁ tk cells mean mg mb F N C T) (fun _ _ x => x) fun _ _ x => x.elim

theorem below_pushC {A : Around} {base h₀ h : Heap} {outer : List Env} {L a : Addr} {m : Str → Option Value} {name : Str} {scope : Scope} {cd : Value}
    (K : Below A base outer h₀) (F : Fr h₀ L h m) (hk : scope.kind = .function) : Below (A.deeper (envOfC name scope L a cd)) base (envOfC name scope L a cd :: outer) h := by
  have hnew : base.get? L = none := by
    cases hq : base.get? L with
    | none => rfl
    | some o => exact absurd (Nat.lt_of_lt_of_le (Heap.lt_size (K.stays L o hq)) F.above) (Nat.lt_irrefl _)
  refine ⟨Around.frames_deeper K.stack, fun b o e => F.keep b o (K.stays b o e), ?_⟩
  exact .cons (by show scope.kind ≠ .module; rw [hk]; decide) rfl F.ns hnew (K.frames.of_keeps fun b o e _ => ⟨o, F.keep b o e, rfl⟩)
theorem call_atC {w : World} {A₀ : Around} {dp un : Nat} {outer : List Env} {gd : Option (List Code)} {base h₀ : Heap} {cn : Str} {cs : Scope} {L a : Addr} {ccd : Value} {s : Shared} {E : Value → Shared → Prop} {Q : Value → Shared → Prop} {m : Str → Option Value} {news : List (Addr × Obj)} {f : Value} {args : List Value} {Post : Value → Heap → Prop}
    (B : Below A₀ base outer h₀) (F : Fr h₀ L s.heap m) (N : News h₀ L s.heap news) (hA : A₀ = AA dp outer gd un) (hk : cs.kind = .function)
    (hc : Below (AA (dp + 1) (envOfC cn cs L a ccd :: outer) gd (un + 3)) base (envOfC cn cs L a ccd :: outer) s.heap → codeAny (model P w) (AA (dp + 1) (envOfC cn cs L a ccd :: outer) gd (un + 3)) (.call f ⟨args, []⟩) (Ret s Post) s)
    (h : ∀ v h' tk, Fr h₀ L h' m → News h₀ L h' news → s.heap.StaysIn h' → Post v h' → Q v { s with heap := h', toks := tk }) :
    wpAny (model P w) (A₀.deeper (envOfC cn cs L a ccd)) (call f args) Q E s := by
  subst hA
  exact call_of (hc (below_pushC B F hk)) F N h

theorem sign3 (x : Int) : (Txt.charAt (Str.ofString "ab-") (x.fmod 3)).getD 0 = 97 ∨ (Txt.charAt (Str.ofString "ab-") (x.fmod 3)).getD 0 = 98 ∨ (Txt.charAt (Str.ofString "ab-") (x.fmod 3)).getD 0 = 45 := by
  have h0 : 0 ≤ x.fmod 3 := Int.fmod_nonneg_of_pos _ (by decide)
  have h3 : x.fmod 3 < 3 := Int.fmod_lt_of_pos _ (by decide)
  generalize x.fmod 3 = y at *
  rcases (by omega : y = 0 ∨ y = 1 ∨ y = 2) with rfl | rfl | rfl
  · left; decide +kernel
  · right; left; decide +kernel
  · right; right; decide +kernel

section
local macro_rules | `(tactic| walk_at "my_mem") => `(tactic| (with_reducible_and_instances (repeat constructor); done))
local macro_rules | `(tactic| k_mem) => `(tactic| walk_at "my_mem")
local macro_rules | `(tactic| k_room) => `(tactic| first | exact Mine.room0 (by assumption) | ktr_room)
local macro_rules | `(tactic| walk_at "my_list") => `(tactic| first | assumption | exact News.isList (by assumption) (by k_mem) | exact stays_list (Fr.keep (by assumption)) (by assumption) | exact stays_list (Fr.keep (by assumption)) (stays_list (Fr.keep (by assumption)) (by assumption)))
local macro_rules | `(tactic| k_lt $_h:ident) => `(tactic| skip)
local macro_rules | `(tactic| k_ne) => `(tactic| (refine W.neN ?_; (try dsimp only); first | (with_reducible assumption) | (with_reducible exact Ne.symm (by assumption)) | exact Mine.ne_all (by with_reducible assumption) (by walk_at "my_mem") | exact Mine.en_all (by with_reducible assumption) (by walk_at "my_mem") | omega))
local macro_rules | `(tactic| k_handed) => `(tactic| exact Mine.Hidden.handed (by assumption))
def nameScope : Scope := { kind := ScopeKind.function, names := [(Str.ofString "options", NameKind.local), (Str.ofString "metavar", NameKind.local), (Str.ofString "nargs", NameKind.local), (Str.ofString "dest", NameKind.local), (Str.ofString "choices", NameKind.local), (Str.ofString "action", NameKind.local), (Str.ofString "_AttributeHolder", NameKind.globalImplicit), (Str.ofString "_get_action_name", NameKind.globalImplicit)], isGenerator := false, isCoroutine := false }
def actLed (P : Params) (x dd : Addr) (o m n d c : Value) (k1 k2 k3 k4 k5 : Nat) : List (Addr × Obj) :=
  [(x, W.instObj 59 dd), (dd, W.dictOf [{ hash := PyData.keyHash P (Str.ofString "option_strings"), key := Value.str (Str.ofString "option_strings") k1, val := o }, { hash := PyData.keyHash P (Str.ofString "metavar"), key := Value.str (Str.ofString "metavar") k2, val := m }, { hash := PyData.keyHash P (Str.ofString "nargs"), key := Value.str (Str.ofString "nargs") k3, val := n }, { hash := PyData.keyHash P (Str.ofString "dest"), key := Value.str (Str.ofString "dest") k4, val := d }, { hash := PyData.keyHash P (Str.ofString "choices"), key := Value.str (Str.ofString "choices") k5, val := c }] 5)]
theorem law_name_start {w : World} {dp un : Nat} {outer : List Env} {gd : Option (List Code)} {base : Heap} {s : Shared} {o m n d c : Value} {R : Result → Shared → Prop}
   (X : (Mine.hd.heap_39 w.params).In s.heap) (T : TopH s.heap) (B : Below (AA dp outer gd un) base outer s.heap) (hd : dp + 10 < recursionLimit) (hu : un + 100 < cLine)
   (h : ∀ (L' : Addr) (h' : Heap) (tk : Nat) (x dd : Addr) (mp : Str → Option Value) (k1 k2 k3 k4 k5 : Nat) (mean : ExcName → Option Value) (mg mb : Str → Option Value), Top V (looseW V []) mean mg mb s.heap → Fr s.heap L' h' mp → News s.heap L' h' (actLed w.params x dd o m n d c k1 k2 k3 k4 k5) →
      wpAny (model P w) ((AA dp outer gd un).deeper (envOf (Str.ofString "_law_name") nameScope L' 77 (.ref 76))) (call (.ref 70) [.ref x]) (fun v s' => R (.ok (.ret v)) s') (fun _ _ => False) { s with heap := h', toks := tk }) :
   codeAny (model P w) (AA dp outer gd un) (.call (.ref 77) ⟨[o, m, n, d, c], []⟩) R s := by
  refine' Mine.enter (binds := [(Str.ofString "options", o), (Str.ofString "metavar", m), (Str.ofString "nargs", n), (Str.ofString "dest", d), (Str.ofString "choices", c)]) (by with_reducible assumption) (by assumption) ?k6 ?k7 ?k8 ?k9 ?kB ?_ ?c2 ?c3 ?c4 ?c5
  (((case k6 => k_is); (case k7 => k_is); (case k8 => exact Mine.room0 (by assumption)); (case k9 => exact BindsTo.of_eq rfl); (case kB => exact locs rfl); (case c5 => decide); (case c2 => rfl); (case c3 => rfl); (case c4 => rfl); intro L'q1 h₁q1 meanq1 mgq1 mbq1 Fq1 Nq1 T'q1; dsimp only [List.reverse, List.reverseAux, List.length] at Fq1 ⊢; k_fold))
  (repeat' (((first | ((fail_if_success (with_reducible show wpAny _ _ (exec (Stmt.While _ _ _ _) _) _ _ _)); (fail_if_success (with_reducible show wpAny _ _ (exec (Stmt.For _ _ _ _ _) _) _ _ _)); (fail_if_success (with_reducible show wpAny _ _ (eval (PySem.Expr.ListComp _ _ _ _) _) _ _ _)); (fail_if_success (with_reducible show wpAny _ _ (exec (PySem.Stmt.Assign _ (PySem.Expr.ListComp _ _ _ _) _) _) _ _ _)); (fail_if_success (with_reducible show wpAny _ _ (call (Value.ref _) _) _ _ _)); (fail_if_success (with_reducible show wpAny _ _ (pyIter (Value.ref _)) _ _ _)); (fail_if_success (show LCg.CompSrc _ _ _ _ _ _ _ _ _ _ _ _ _ _)); first | (k_unfold; (try dsimp only)) | (k_end; wrow_close) | walk1 | (dsimp only; walk1) | (leave1; (try dsimp only)))))))
  walk1
  (repeat' (((first | ((fail_if_success (with_reducible show wpAny _ _ (exec (Stmt.While _ _ _ _) _) _ _ _)); (fail_if_success (with_reducible show wpAny _ _ (exec (Stmt.For _ _ _ _ _) _) _ _ _)); (fail_if_success (with_reducible show wpAny _ _ (eval (PySem.Expr.ListComp _ _ _ _) _) _ _ _)); (fail_if_success (with_reducible show wpAny _ _ (exec (PySem.Stmt.Assign _ (PySem.Expr.ListComp _ _ _ _) _) _) _ _ _)); (fail_if_success (with_reducible show wpAny _ _ (call (Value.ref _) _) _ _ _)); (fail_if_success (with_reducible show wpAny _ _ (pyIter (Value.ref _)) _ _ _)); (fail_if_success (show LCg.CompSrc _ _ _ _ _ _ _ _ _ _ _ _ _ _)); first | (k_unfold; (try dsimp only)) | (k_end; wrow_close) | walk1 | (dsimp only; walk1) | (leave1; (try dsimp only)))))))
  exact h _ _ _ _ _ _ _ _ _ _ _ _ _ _ (by assumption) (by assumption) (by assumption)

section
theorem law_name_A {w : World} {dp un : Nat} {outer : List Env} {gd : Option (List Code)} {base : Heap} {s : Shared} {o : Addr} {m n d c : Value} {items : Array Value} {texts : List Str}
   (X : (Mine.hd.heap_39 w.params).In s.heap) (T : TopH s.heap) (B : Below (AA dp outer gd un) base outer s.heap) (hd : dp + 10 < recursionLimit) (hu : un + 100 < cLine)
   (hl : s.heap.IsList o items) (hi : StrsAre items.toList texts) (hne : texts ≠ []) (hw : (texts.map (·.length)).sum + texts.length ≤ 100000) :
   codeAny (model P w) (AA dp outer gd un) (.call (.ref 77) ⟨[.ref o, m, n, d, c], []⟩) (Ret s fun v _ => ∃ t, v = .str (Txt.join "/" texts) t) s := by
  refine law_name_start X T B hd hu ?_
  intro L' h' tk x dd mp k1 k2 k3 k4 k5 mean mg mb T' F N
  unfold nameScope
  unfold actLed at N
  have hd8 : dp + 1 + 1 < recursionLimit := by omega
  (repeat' (first | ((((with_reducible show wpAny _ _ (truthy (Value.ref _)) _ _ _); first | (refine Mine.truthy_list_ne (by walk_at "my_list") (by assumption) (by assumption) (by omega) ?_; intro tk1q7) | (refine Mine.truthy_list_nil (by walk_at "my_list") ?_; intro tk1q7) | (refine Mine.truthy_tup_nil (by (first | assumption | exact News.isTup (by assumption) (by k_mem) | exact stays_tup (Fr.keep (by assumption)) (by assumption) | exact stays_tup (Fr.keep (by assumption)) (stays_tup (Fr.keep (by assumption)) (by assumption)))) ?_; intro tk1q7) | (refine Mine.truthy_empty (by (first | assumption | exact Or.inl (News.isList (by assumption) (by k_mem)) | exact Or.inr (News.isTup (by assumption) (by k_mem)) | exact Mine.Empty.keeps (Fr.keep (by assumption)) (by assumption) | exact Mine.Empty.keeps (Fr.keep (by assumption)) (Mine.Empty.keeps (Fr.keep (by assumption)) (by assumption)))) ?_; intro tk1q7)))) | ((((with_reducible show wpAny _ _ (call (Value.builtin "str.join") [Value.str _ _, Value.ref _]) _ _ _); first | (refine join_listW (by walk_at "my_list") (by assumption) (by decide) (Mine.le_big (by assumption)) ?_; intro t2q10 tk2q10) | (refine join_tupleW (by (first | assumption | exact News.isTup (by assumption) (by k_mem) | exact stays_tup (Fr.keep (by assumption)) (by assumption) | exact stays_tup (Fr.keep (by assumption)) (stays_tup (Fr.keep (by assumption)) (by assumption)))) (by assumption) (by decide) (Mine.le_big (by assumption)) ?_; intro t2q10 tk2q10)))) | ((((with_reducible show wpAny _ _ (compareOp CmpOp.NotIn (Value.str _ _) (Value.ref _)) _ _ _); first | refine Mine.notin_sup_same (by (first | assumption | exact News.isTup (by assumption) (by k_mem) | exact stays_tup (Fr.keep (by assumption)) (by assumption) | exact stays_tup (Fr.keep (by assumption)) (stays_tup (Fr.keep (by assumption)) (by assumption)))) ?_ | refine Mine.notin_sup_str (by (first | assumption | exact News.isTup (by assumption) (by k_mem) | exact stays_tup (Fr.keep (by assumption)) (by assumption) | exact stays_tup (Fr.keep (by assumption)) (stays_tup (Fr.keep (by assumption)) (by assumption)))) (by assumption) ?_))) | ((((with_reducible show wpAny _ _ (compareOp CmpOp.NotIn Value.none (Value.ref _)) _ _ _); refine Mine.notin_sup_none (by (first | assumption | exact News.isTup (by assumption) (by k_mem) | exact stays_tup (Fr.keep (by assumption)) (by assumption) | exact stays_tup (Fr.keep (by assumption)) (stays_tup (Fr.keep (by assumption)) (by assumption)))) ?_))) | ((((with_reducible show wpAny _ _ (compareOp CmpOp.NotIn (Value.ref _) (Value.ref _)) _ _ _); refine Mine.notin_sup_tup (by (first | assumption | exact News.isTup (by assumption) (by k_mem) | exact stays_tup (Fr.keep (by assumption)) (by assumption) | exact stays_tup (Fr.keep (by assumption)) (stays_tup (Fr.keep (by assumption)) (by assumption)))) (by (first | assumption | exact News.isTup (by assumption) (by k_mem) | exact stays_tup (Fr.keep (by assumption)) (by assumption) | exact stays_tup (Fr.keep (by assumption)) (stays_tup (Fr.keep (by assumption)) (by assumption)))) (by ktr_units) ?_))) | ((((with_reducible show wpAny _ _ (compareOp CmpOp.NotIn _ (Value.ref _)) _ _ _); refine Mine.notin_sup_hidden (by (first | assumption | exact News.isTup (by assumption) (by k_mem) | exact stays_tup (Fr.keep (by assumption)) (by assumption) | exact stays_tup (Fr.keep (by assumption)) (stays_tup (Fr.keep (by assumption)) (by assumption)))) (by first | assumption | exact Mine.Hidden.none | exact Mine.Hidden.sup) ?_))) | ((((with_reducible show wpAny _ _ (call (Value.builtin "isinstance") [Value.ref _, Value.type "tuple"]) _ _ _); refine Mine.isi_tuple (by (first | assumption | exact News.isTup (by assumption) (by k_mem) | exact stays_tup (Fr.keep (by assumption)) (by assumption) | exact stays_tup (Fr.keep (by assumption)) (stays_tup (Fr.keep (by assumption)) (by assumption)))) ?_))) | ((((with_reducible show wpAny _ _ (call (Value.builtin "len") [Value.ref _]) _ _ _); refine Mine.len_tup (by (first | assumption | exact News.isTup (by assumption) (by k_mem) | exact stays_tup (Fr.keep (by assumption)) (by assumption) | exact stays_tup (Fr.keep (by assumption)) (stays_tup (Fr.keep (by assumption)) (by assumption)))) (by (first | exact Nat.le_of_ble_eq_true rfl | (show _ ≤ 2 ^ 24; (try have hlen9 := StrsAre.length (by assumption)); (try simp only [Array.length_toList] at *); omega) | decide)) ?_; intro t2q24 tk2q24))) | ((((with_reducible show wpAny _ _ (binaryOp Operator.Mod (Value.str _ _) (Value.ref _)) _ _ _); refine Mine.mod_pair (by (first | assumption | exact News.isTup (by assumption) (by k_mem) | exact stays_tup (Fr.keep (by assumption)) (by assumption) | exact stays_tup (Fr.keep (by assumption)) (stays_tup (Fr.keep (by assumption)) (by assumption)))) (by omega) (by omega) ?_; intro t2q27 tk2q27))) | ((((with_reducible show wpAny _ _ (binaryOp Operator.Mod (Value.str _ _) (Value.str _ _)) _ _ _); refine Mine.mod_brace (Nat.le_trans (Mine.join_len_le (by decide) (by assumption)) (by decide)) ?_; intro t2q29 tk2q29))) | (k_unfold; (try dsimp only)) | (k_end; wrow_close) | walk1 | (dsimp only; walk1) | (leave1; (try dsimp only))))
  all_goals ((((try k_unfold); (try dsimp only); refine Mine.ret_of (Fr.keep (by assumption)) ?_ rfl)); exact ⟨_, rfl⟩)

theorem law_name_B {w : World} {dp un : Nat} {outer : List Env} {gd : Option (List Code)} {base : Heap} {s : Shared} {o : Addr} {x : Str} {t : Tok} {n d c : Value}
   (X : (Mine.hd.heap_39 w.params).In s.heap) (T : TopH s.heap) (B : Below (AA dp outer gd un) base outer s.heap) (hd : dp + 10 < recursionLimit) (hu : un + 100 < cLine)
   (hl : Empty s.heap o) (hx : x ≠ "==SUPPRESS==") :
   codeAny (model P w) (AA dp outer gd un) (.call (.ref 77) ⟨[.ref o, .str x t, n, d, c], []⟩) (Ret s fun v _ => v = .str x t) s := by
  refine law_name_start X T B hd hu ?_
  intro L' h' tk x dd mp k1 k2 k3 k4 k5 mean mg mb T' F N
  unfold nameScope
  unfold actLed at N
  have hd8 : dp + 1 + 1 < recursionLimit := by omega
  (repeat' (first | ((((with_reducible show wpAny _ _ (truthy (Value.ref _)) _ _ _); first | (refine Mine.truthy_list_ne (by walk_at "my_list") (by assumption) (by assumption) (by omega) ?_; intro tk1q32) | (refine Mine.truthy_list_nil (by walk_at "my_list") ?_; intro tk1q32) | (refine Mine.truthy_tup_nil (by (first | assumption | exact News.isTup (by assumption) (by k_mem) | exact stays_tup (Fr.keep (by assumption)) (by assumption) | exact stays_tup (Fr.keep (by assumption)) (stays_tup (Fr.keep (by assumption)) (by assumption)))) ?_; intro tk1q32) | (refine Mine.truthy_empty (by (first | assumption | exact Or.inl (News.isList (by assumption) (by k_mem)) | exact Or.inr (News.isTup (by assumption) (by k_mem)) | exact Mine.Empty.keeps (Fr.keep (by assumption)) (by assumption) | exact Mine.Empty.keeps (Fr.keep (by assumption)) (Mine.Empty.keeps (Fr.keep (by assumption)) (by assumption)))) ?_; intro tk1q32)))) | ((((with_reducible show wpAny _ _ (call (Value.builtin "str.join") [Value.str _ _, Value.ref _]) _ _ _); first | (refine join_listW (by walk_at "my_list") (by assumption) (by decide) (Mine.le_big (by assumption)) ?_; intro t2q35 tk2q35) | (refine join_tupleW (by (first | assumption | exact News.isTup (by assumption) (by k_mem) | exact stays_tup (Fr.keep (by assumption)) (by assumption) | exact stays_tup (Fr.keep (by assumption)) (stays_tup (Fr.keep (by assumption)) (by assumption)))) (by assumption) (by decide) (Mine.le_big (by assumption)) ?_; intro t2q35 tk2q35)))) | ((((with_reducible show wpAny _ _ (compareOp CmpOp.NotIn (Value.str _ _) (Value.ref _)) _ _ _); first | refine Mine.notin_sup_same (by (first | assumption | exact News.isTup (by assumption) (by k_mem) | exact stays_tup (Fr.keep (by assumption)) (by assumption) | exact stays_tup (Fr.keep (by assumption)) (stays_tup (Fr.keep (by assumption)) (by assumption)))) ?_ | refine Mine.notin_sup_str (by (first | assumption | exact News.isTup (by assumption) (by k_mem) | exact stays_tup (Fr.keep (by assumption)) (by assumption) | exact stays_tup (Fr.keep (by assumption)) (stays_tup (Fr.keep (by assumption)) (by assumption)))) (by assumption) ?_))) | ((((with_reducible show wpAny _ _ (compareOp CmpOp.NotIn Value.none (Value.ref _)) _ _ _); refine Mine.notin_sup_none (by (first | assumption | exact News.isTup (by assumption) (by k_mem) | exact stays_tup (Fr.keep (by assumption)) (by assumption) | exact stays_tup (Fr.keep (by assumption)) (stays_tup (Fr.keep (by assumption)) (by assumption)))) ?_))) | ((((with_reducible show wpAny _ _ (compareOp CmpOp.NotIn (Value.ref _) (Value.ref _)) _ _ _); refine Mine.notin_sup_tup (by (first | assumption | exact News.isTup (by assumption) (by k_mem) | exact stays_tup (Fr.keep (by assumption)) (by assumption) | exact stays_tup (Fr.keep (by assumption)) (stays_tup (Fr.keep (by assumption)) (by assumption)))) (by (first | assumption | exact News.isTup (by assumption) (by k_mem) | exact stays_tup (Fr.keep (by assumption)) (by assumption) | exact stays_tup (Fr.keep (by assumption)) (stays_tup (Fr.keep (by assumption)) (by assumption)))) (by ktr_units) ?_))) | ((((with_reducible show wpAny _ _ (compareOp CmpOp.NotIn _ (Value.ref _)) _ _ _); refine Mine.notin_sup_hidden (by (first | assumption | exact News.isTup (by assumption) (by k_mem) | exact stays_tup (Fr.keep (by assumption)) (by assumption) | exact stays_tup (Fr.keep (by assumption)) (stays_tup (Fr.keep (by assumption)) (by assumption)))) (by first | assumption | exact Mine.Hidden.none | exact Mine.Hidden.sup) ?_))) | ((((with_reducible show wpAny _ _ (call (Value.builtin "isinstance") [Value.ref _, Value.type "tuple"]) _ _ _); refine Mine.isi_tuple (by (first | assumption | exact News.isTup (by assumption) (by k_mem) | exact stays_tup (Fr.keep (by assumption)) (by assumption) | exact stays_tup (Fr.keep (by assumption)) (stays_tup (Fr.keep (by assumption)) (by assumption)))) ?_))) | ((((with_reducible show wpAny _ _ (call (Value.builtin "len") [Value.ref _]) _ _ _); refine Mine.len_tup (by (first | assumption | exact News.isTup (by assumption) (by k_mem) | exact stays_tup (Fr.keep (by assumption)) (by assumption) | exact stays_tup (Fr.keep (by assumption)) (stays_tup (Fr.keep (by assumption)) (by assumption)))) (by (first | exact Nat.le_of_ble_eq_true rfl | (show _ ≤ 2 ^ 24; (try have hlen9 := StrsAre.length (by assumption)); (try simp only [Array.length_toList] at *); omega) | decide)) ?_; intro t2q49 tk2q49))) | ((((with_reducible show wpAny _ _ (binaryOp Operator.Mod (Value.str _ _) (Value.ref _)) _ _ _); refine Mine.mod_pair (by (first | assumption | exact News.isTup (by assumption) (by k_mem) | exact stays_tup (Fr.keep (by assumption)) (by assumption) | exact stays_tup (Fr.keep (by assumption)) (stays_tup (Fr.keep (by assumption)) (by assumption)))) (by omega) (by omega) ?_; intro t2q52 tk2q52))) | ((((with_reducible show wpAny _ _ (binaryOp Operator.Mod (Value.str _ _) (Value.str _ _)) _ _ _); refine Mine.mod_brace (Nat.le_trans (Mine.join_len_le (by decide) (by assumption)) (by decide)) ?_; intro t2q54 tk2q54))) | (k_unfold; (try dsimp only)) | (k_end; wrow_close) | walk1 | (dsimp only; walk1) | (leave1; (try dsimp only))))
  all_goals ((((try k_unfold); (try dsimp only); refine Mine.ret_of (Fr.keep (by assumption)) ?_ rfl)); rfl)

theorem law_name_C {w : World} {dp un : Nat} {outer : List Env} {gd : Option (List Code)} {base : Heap} {s : Shared} {o : Addr} {x : Str} {t : Tok} {m n c : Value}
   (X : (Mine.hd.heap_39 w.params).In s.heap) (T : TopH s.heap) (B : Below (AA dp outer gd un) base outer s.heap) (hd : dp + 10 < recursionLimit) (hu : un + 100 < cLine)
   (hl : Empty s.heap o) (hm : Hidden m) (hx : x ≠ "==SUPPRESS==") :
   codeAny (model P w) (AA dp outer gd un) (.call (.ref 77) ⟨[.ref o, m, n, .str x t, c], []⟩) (Ret s fun v _ => v = .str x t) s := by
  refine law_name_start X T B hd hu ?_
  intro L' h' tk x dd mp k1 k2 k3 k4 k5 mean mg mb T' F N
  unfold nameScope
  unfold actLed at N
  have hd8 : dp + 1 + 1 < recursionLimit := by omega
  (repeat' (first | ((((with_reducible show wpAny _ _ (truthy (Value.ref _)) _ _ _); first | (refine Mine.truthy_list_ne (by walk_at "my_list") (by assumption) (by assumption) (by omega) ?_; intro tk1q57) | (refine Mine.truthy_list_nil (by walk_at "my_list") ?_; intro tk1q57) | (refine Mine.truthy_tup_nil (by (first | assumption | exact News.isTup (by assumption) (by k_mem) | exact stays_tup (Fr.keep (by assumption)) (by assumption) | exact stays_tup (Fr.keep (by assumption)) (stays_tup (Fr.keep (by assumption)) (by assumption)))) ?_; intro tk1q57) | (refine Mine.truthy_empty (by (first | assumption | exact Or.inl (News.isList (by assumption) (by k_mem)) | exact Or.inr (News.isTup (by assumption) (by k_mem)) | exact Mine.Empty.keeps (Fr.keep (by assumption)) (by assumption) | exact Mine.Empty.keeps (Fr.keep (by assumption)) (Mine.Empty.keeps (Fr.keep (by assumption)) (by assumption)))) ?_; intro tk1q57)))) | ((((with_reducible show wpAny _ _ (call (Value.builtin "str.join") [Value.str _ _, Value.ref _]) _ _ _); first | (refine join_listW (by walk_at "my_list") (by assumption) (by decide) (Mine.le_big (by assumption)) ?_; intro t2q60 tk2q60) | (refine join_tupleW (by (first | assumption | exact News.isTup (by assumption) (by k_mem) | exact stays_tup (Fr.keep (by assumption)) (by assumption) | exact stays_tup (Fr.keep (by assumption)) (stays_tup (Fr.keep (by assumption)) (by assumption)))) (by assumption) (by decide) (Mine.le_big (by assumption)) ?_; intro t2q60 tk2q60)))) | ((((with_reducible show wpAny _ _ (compareOp CmpOp.NotIn (Value.str _ _) (Value.ref _)) _ _ _); first | refine Mine.notin_sup_same (by (first | assumption | exact News.isTup (by assumption) (by k_mem) | exact stays_tup (Fr.keep (by assumption)) (by assumption) | exact stays_tup (Fr.keep (by assumption)) (stays_tup (Fr.keep (by assumption)) (by assumption)))) ?_ | refine Mine.notin_sup_str (by (first | assumption | exact News.isTup (by assumption) (by k_mem) | exact stays_tup (Fr.keep (by assumption)) (by assumption) | exact stays_tup (Fr.keep (by assumption)) (stays_tup (Fr.keep (by assumption)) (by assumption)))) (by assumption) ?_))) | ((((with_reducible show wpAny _ _ (compareOp CmpOp.NotIn Value.none (Value.ref _)) _ _ _); refine Mine.notin_sup_none (by (first | assumption | exact News.isTup (by assumption) (by k_mem) | exact stays_tup (Fr.keep (by assumption)) (by assumption) | exact stays_tup (Fr.keep (by assumption)) (stays_tup (Fr.keep (by assumption)) (by assumption)))) ?_))) | ((((with_reducible show wpAny _ _ (compareOp CmpOp.NotIn (Value.ref _) (Value.ref _)) _ _ _); refine Mine.notin_sup_tup (by (first | assumption | exact News.isTup (by assumption) (by k_mem) | exact stays_tup (Fr.keep (by assumption)) (by assumption) | exact stays_tup (Fr.keep (by assumption)) (stays_tup (Fr.keep (by assumption)) (by assumption)))) (by (first | assumption | exact News.isTup (by assumption) (by k_mem) | exact stays_tup (Fr.keep (by assumption)) (by assumption) | exact stays_tup (Fr.keep (by assumption)) (stays_tup (Fr.keep (by assumption)) (by assumption)))) (by ktr_units) ?_))) | ((((with_reducible show wpAny _ _ (compareOp CmpOp.NotIn _ (Value.ref _)) _ _ _); refine Mine.notin_sup_hidden (by (first | assumption | exact News.isTup (by assumption) (by k_mem) | exact stays_tup (Fr.keep (by assumption)) (by assumption) | exact stays_tup (Fr.keep (by assumption)) (stays_tup (Fr.keep (by assumption)) (by assumption)))) (by first | assumption | exact Mine.Hidden.none | exact Mine.Hidden.sup) ?_))) | ((((with_reducible show wpAny _ _ (call (Value.builtin "isinstance") [Value.ref _, Value.type "tuple"]) _ _ _); refine Mine.isi_tuple (by (first | assumption | exact News.isTup (by assumption) (by k_mem) | exact stays_tup (Fr.keep (by assumption)) (by assumption) | exact stays_tup (Fr.keep (by assumption)) (stays_tup (Fr.keep (by assumption)) (by assumption)))) ?_))) | ((((with_reducible show wpAny _ _ (call (Value.builtin "len") [Value.ref _]) _ _ _); refine Mine.len_tup (by (first | assumption | exact News.isTup (by assumption) (by k_mem) | exact stays_tup (Fr.keep (by assumption)) (by assumption) | exact stays_tup (Fr.keep (by assumption)) (stays_tup (Fr.keep (by assumption)) (by assumption)))) (by (first | exact Nat.le_of_ble_eq_true rfl | (show _ ≤ 2 ^ 24; (try have hlen9 := StrsAre.length (by assumption)); (try simp only [Array.length_toList] at *); omega) | decide)) ?_; intro t2q74 tk2q74))) | ((((with_reducible show wpAny _ _ (binaryOp Operator.Mod (Value.str _ _) (Value.ref _)) _ _ _); refine Mine.mod_pair (by (first | assumption | exact News.isTup (by assumption) (by k_mem) | exact stays_tup (Fr.keep (by assumption)) (by assumption) | exact stays_tup (Fr.keep (by assumption)) (stays_tup (Fr.keep (by assumption)) (by assumption)))) (by omega) (by omega) ?_; intro t2q77 tk2q77))) | ((((with_reducible show wpAny _ _ (binaryOp Operator.Mod (Value.str _ _) (Value.str _ _)) _ _ _); refine Mine.mod_brace (Nat.le_trans (Mine.join_len_le (by decide) (by assumption)) (by decide)) ?_; intro t2q79 tk2q79))) | (k_unfold; (try dsimp only)) | (k_end; wrow_close) | walk1 | (dsimp only; walk1) | (leave1; (try dsimp only))))
  all_goals ((((try k_unfold); (try dsimp only); refine Mine.ret_of (Fr.keep (by assumption)) ?_ rfl)); rfl)

theorem law_name_E {w : World} {dp un : Nat} {outer : List Env} {gd : Option (List Code)} {base : Heap} {s : Shared} {o m : Addr} {d c : Value} {x y nx : Str} {t u nt : Tok}
   (X : (Mine.hd.heap_39 w.params).In s.heap) (T : TopH s.heap) (B : Below (AA dp outer gd un) base outer s.heap) (hd : dp + 10 < recursionLimit) (hu : un + 100 < cLine)
   (hl0 : Empty s.heap o) (hl : IsTup s.heap m #[.str x t, .str y u]) (hn : nx = "*" ∨ nx = "+") (hw : x.length + y.length ≤ 100000) :
   codeAny (model P w) (AA dp outer gd un) (.call (.ref 77) ⟨[.ref o, .ref m, .str nx nt, d, c], []⟩) (Ret s fun v _ => ∃ t, v = .str (x ++ "[, " ++ y ++ "]") t) s := by
  rcases hn with rfl | rfl
  all_goals refine law_name_start X T B hd hu ?_
  all_goals intro L' h' tk x dd mp k1 k2 k3 k4 k5 mean mg mb T' F N
  all_goals unfold nameScope
  all_goals unfold actLed at N
  all_goals have hd8 : dp + 1 + 1 < recursionLimit := by omega
  all_goals (repeat' (first | ((((with_reducible show wpAny _ _ (truthy (Value.ref _)) _ _ _); first | (refine Mine.truthy_list_ne (by walk_at "my_list") (by assumption) (by assumption) (by omega) ?_; intro tk1q82) | (refine Mine.truthy_list_nil (by walk_at "my_list") ?_; intro tk1q82) | (refine Mine.truthy_tup_nil (by (first | assumption | exact News.isTup (by assumption) (by k_mem) | exact stays_tup (Fr.keep (by assumption)) (by assumption) | exact stays_tup (Fr.keep (by assumption)) (stays_tup (Fr.keep (by assumption)) (by assumption)))) ?_; intro tk1q82) | (refine Mine.truthy_empty (by (first | assumption | exact Or.inl (News.isList (by assumption) (by k_mem)) | exact Or.inr (News.isTup (by assumption) (by k_mem)) | exact Mine.Empty.keeps (Fr.keep (by assumption)) (by assumption) | exact Mine.Empty.keeps (Fr.keep (by assumption)) (Mine.Empty.keeps (Fr.keep (by assumption)) (by assumption)))) ?_; intro tk1q82)))) | ((((with_reducible show wpAny _ _ (call (Value.builtin "str.join") [Value.str _ _, Value.ref _]) _ _ _); first | (refine join_listW (by walk_at "my_list") (by assumption) (by decide) (Mine.le_big (by assumption)) ?_; intro t2q85 tk2q85) | (refine join_tupleW (by (first | assumption | exact News.isTup (by assumption) (by k_mem) | exact stays_tup (Fr.keep (by assumption)) (by assumption) | exact stays_tup (Fr.keep (by assumption)) (stays_tup (Fr.keep (by assumption)) (by assumption)))) (by assumption) (by decide) (Mine.le_big (by assumption)) ?_; intro t2q85 tk2q85)))) | ((((with_reducible show wpAny _ _ (compareOp CmpOp.NotIn (Value.str _ _) (Value.ref _)) _ _ _); first | refine Mine.notin_sup_same (by (first | assumption | exact News.isTup (by assumption) (by k_mem) | exact stays_tup (Fr.keep (by assumption)) (by assumption) | exact stays_tup (Fr.keep (by assumption)) (stays_tup (Fr.keep (by assumption)) (by assumption)))) ?_ | refine Mine.notin_sup_str (by (first | assumption | exact News.isTup (by assumption) (by k_mem) | exact stays_tup (Fr.keep (by assumption)) (by assumption) | exact stays_tup (Fr.keep (by assumption)) (stays_tup (Fr.keep (by assumption)) (by assumption)))) (by assumption) ?_))) | ((((with_reducible show wpAny _ _ (compareOp CmpOp.NotIn Value.none (Value.ref _)) _ _ _); refine Mine.notin_sup_none (by (first | assumption | exact News.isTup (by assumption) (by k_mem) | exact stays_tup (Fr.keep (by assumption)) (by assumption) | exact stays_tup (Fr.keep (by assumption)) (stays_tup (Fr.keep (by assumption)) (by assumption)))) ?_))) | ((((with_reducible show wpAny _ _ (compareOp CmpOp.NotIn (Value.ref _) (Value.ref _)) _ _ _); refine Mine.notin_sup_tup (by (first | assumption | exact News.isTup (by assumption) (by k_mem) | exact stays_tup (Fr.keep (by assumption)) (by assumption) | exact stays_tup (Fr.keep (by assumption)) (stays_tup (Fr.keep (by assumption)) (by assumption)))) (by (first | assumption | exact News.isTup (by assumption) (by k_mem) | exact stays_tup (Fr.keep (by assumption)) (by assumption) | exact stays_tup (Fr.keep (by assumption)) (stays_tup (Fr.keep (by assumption)) (by assumption)))) (by ktr_units) ?_))) | ((((with_reducible show wpAny _ _ (compareOp CmpOp.NotIn _ (Value.ref _)) _ _ _); refine Mine.notin_sup_hidden (by (first | assumption | exact News.isTup (by assumption) (by k_mem) | exact stays_tup (Fr.keep (by assumption)) (by assumption) | exact stays_tup (Fr.keep (by assumption)) (stays_tup (Fr.keep (by assumption)) (by assumption)))) (by first | assumption | exact Mine.Hidden.none | exact Mine.Hidden.sup) ?_))) | ((((with_reducible show wpAny _ _ (call (Value.builtin "isinstance") [Value.ref _, Value.type "tuple"]) _ _ _); refine Mine.isi_tuple (by (first | assumption | exact News.isTup (by assumption) (by k_mem) | exact stays_tup (Fr.keep (by assumption)) (by assumption) | exact stays_tup (Fr.keep (by assumption)) (stays_tup (Fr.keep (by assumption)) (by assumption)))) ?_))) | ((((with_reducible show wpAny _ _ (call (Value.builtin "len") [Value.ref _]) _ _ _); refine Mine.len_tup (by (first | assumption | exact News.isTup (by assumption) (by k_mem) | exact stays_tup (Fr.keep (by assumption)) (by assumption) | exact stays_tup (Fr.keep (by assumption)) (stays_tup (Fr.keep (by assumption)) (by assumption)))) (by (first | exact Nat.le_of_ble_eq_true rfl | (show _ ≤ 2 ^ 24; (try have hlen9 := StrsAre.length (by assumption)); (try simp only [Array.length_toList] at *); omega) | decide)) ?_; intro t2q99 tk2q99))) | ((((with_reducible show wpAny _ _ (binaryOp Operator.Mod (Value.str _ _) (Value.ref _)) _ _ _); refine Mine.mod_pair (by (first | assumption | exact News.isTup (by assumption) (by k_mem) | exact stays_tup (Fr.keep (by assumption)) (by assumption) | exact stays_tup (Fr.keep (by assumption)) (stays_tup (Fr.keep (by assumption)) (by assumption)))) (by omega) (by omega) ?_; intro t2q102 tk2q102))) | ((((with_reducible show wpAny _ _ (binaryOp Operator.Mod (Value.str _ _) (Value.str _ _)) _ _ _); refine Mine.mod_brace (Nat.le_trans (Mine.join_len_le (by decide) (by assumption)) (by decide)) ?_; intro t2q104 tk2q104))) | (k_unfold; (try dsimp only)) | (k_end; wrow_close) | walk1 | (dsimp only; walk1) | (leave1; (try dsimp only))))
  all_goals (try ((((try k_unfold); (try dsimp only); refine Mine.ret_of (Fr.keep (by assumption)) ?_ rfl)); exact ⟨_, rfl⟩))
  all_goals (exfalso; rename _ ≠ (2 : Int) => hb; exact hb rfl)

theorem law_name_F {w : World} {dp un : Nat} {outer : List Env} {gd : Option (List Code)} {base : Heap} {s : Shared} {o m : Addr} {n d c : Value} {items : Array Value} {texts : List Str}
   (X : (Mine.hd.heap_39 w.params).In s.heap) (T : TopH s.heap) (B : Below (AA dp outer gd un) base outer s.heap) (hd : dp + 10 < recursionLimit) (hu : un + 100 < cLine)
   (hl0 : Empty s.heap o) (hl : IsTup s.heap m items) (hi : StrsAre items.toList texts) (hw : (texts.map (·.length)).sum + texts.length ≤ 100000) (hn : n = .none ∨ (∃ i t, n = .int i t) ∨ (∃ x t, n = .str x t ∧ x ≠ "+" ∧ (x = "*" → texts.length ≠ 2))) :
   codeAny (model P w) (AA dp outer gd un) (.call (.ref 77) ⟨[.ref o, .ref m, n, d, c], []⟩) (Ret s fun v _ => ∃ t, v = .str (Txt.join ", " texts) t) s := by
  refine law_name_start X T B hd hu ?_
  intro L' h' tk x dd mp k1 k2 k3 k4 k5 mean mg mb T' F N
  unfold nameScope
  unfold actLed at N
  have hd8 : dp + 1 + 1 < recursionLimit := by omega
  (repeat' (first | ((((with_reducible show wpAny _ _ (truthy (Value.ref _)) _ _ _); first | (refine Mine.truthy_list_ne (by walk_at "my_list") (by assumption) (by assumption) (by omega) ?_; intro tk1q107) | (refine Mine.truthy_list_nil (by walk_at "my_list") ?_; intro tk1q107) | (refine Mine.truthy_tup_nil (by (first | assumption | exact News.isTup (by assumption) (by k_mem) | exact stays_tup (Fr.keep (by assumption)) (by assumption) | exact stays_tup (Fr.keep (by assumption)) (stays_tup (Fr.keep (by assumption)) (by assumption)))) ?_; intro tk1q107) | (refine Mine.truthy_empty (by (first | assumption | exact Or.inl (News.isList (by assumption) (by k_mem)) | exact Or.inr (News.isTup (by assumption) (by k_mem)) | exact Mine.Empty.keeps (Fr.keep (by assumption)) (by assumption) | exact Mine.Empty.keeps (Fr.keep (by assumption)) (Mine.Empty.keeps (Fr.keep (by assumption)) (by assumption)))) ?_; intro tk1q107)))) | ((((with_reducible show wpAny _ _ (call (Value.builtin "str.join") [Value.str _ _, Value.ref _]) _ _ _); first | (refine join_listW (by walk_at "my_list") (by assumption) (by decide) (Mine.le_big (by assumption)) ?_; intro t2q110 tk2q110) | (refine join_tupleW (by (first | assumption | exact News.isTup (by assumption) (by k_mem) | exact stays_tup (Fr.keep (by assumption)) (by assumption) | exact stays_tup (Fr.keep (by assumption)) (stays_tup (Fr.keep (by assumption)) (by assumption)))) (by assumption) (by decide) (Mine.le_big (by assumption)) ?_; intro t2q110 tk2q110)))) | ((((with_reducible show wpAny _ _ (compareOp CmpOp.NotIn (Value.str _ _) (Value.ref _)) _ _ _); first | refine Mine.notin_sup_same (by (first | assumption | exact News.isTup (by assumption) (by k_mem) | exact stays_tup (Fr.keep (by assumption)) (by assumption) | exact stays_tup (Fr.keep (by assumption)) (stays_tup (Fr.keep (by assumption)) (by assumption)))) ?_ | refine Mine.notin_sup_str (by (first | assumption | exact News.isTup (by assumption) (by k_mem) | exact stays_tup (Fr.keep (by assumption)) (by assumption) | exact stays_tup (Fr.keep (by assumption)) (stays_tup (Fr.keep (by assumption)) (by assumption)))) (by assumption) ?_))) | ((((with_reducible show wpAny _ _ (compareOp CmpOp.NotIn Value.none (Value.ref _)) _ _ _); refine Mine.notin_sup_none (by (first | assumption | exact News.isTup (by assumption) (by k_mem) | exact stays_tup (Fr.keep (by assumption)) (by assumption) | exact stays_tup (Fr.keep (by assumption)) (stays_tup (Fr.keep (by assumption)) (by assumption)))) ?_))) | ((((with_reducible show wpAny _ _ (compareOp CmpOp.NotIn (Value.ref _) (Value.ref _)) _ _ _); refine Mine.notin_sup_tup (by (first | assumption | exact News.isTup (by assumption) (by k_mem) | exact stays_tup (Fr.keep (by assumption)) (by assumption) | exact stays_tup (Fr.keep (by assumption)) (stays_tup (Fr.keep (by assumption)) (by assumption)))) (by (first | assumption | exact News.isTup (by assumption) (by k_mem) | exact stays_tup (Fr.keep (by assumption)) (by assumption) | exact stays_tup (Fr.keep (by assumption)) (stays_tup (Fr.keep (by assumption)) (by assumption)))) (by ktr_units) ?_))) | ((((with_reducible show wpAny _ _ (compareOp CmpOp.NotIn _ (Value.ref _)) _ _ _); refine Mine.notin_sup_hidden (by (first | assumption | exact News.isTup (by assumption) (by k_mem) | exact stays_tup (Fr.keep (by assumption)) (by assumption) | exact stays_tup (Fr.keep (by assumption)) (stays_tup (Fr.keep (by assumption)) (by assumption)))) (by first | assumption | exact Mine.Hidden.none | exact Mine.Hidden.sup) ?_))) | ((((with_reducible show wpAny _ _ (call (Value.builtin "isinstance") [Value.ref _, Value.type "tuple"]) _ _ _); refine Mine.isi_tuple (by (first | assumption | exact News.isTup (by assumption) (by k_mem) | exact stays_tup (Fr.keep (by assumption)) (by assumption) | exact stays_tup (Fr.keep (by assumption)) (stays_tup (Fr.keep (by assumption)) (by assumption)))) ?_))) | ((((with_reducible show wpAny _ _ (call (Value.builtin "len") [Value.ref _]) _ _ _); refine Mine.len_tup (by (first | assumption | exact News.isTup (by assumption) (by k_mem) | exact stays_tup (Fr.keep (by assumption)) (by assumption) | exact stays_tup (Fr.keep (by assumption)) (stays_tup (Fr.keep (by assumption)) (by assumption)))) (by (first | exact Nat.le_of_ble_eq_true rfl | (show _ ≤ 2 ^ 24; (try have hlen9 := StrsAre.length (by assumption)); (try simp only [Array.length_toList] at *); omega) | decide)) ?_; intro t2q124 tk2q124))) | ((((with_reducible show wpAny _ _ (binaryOp Operator.Mod (Value.str _ _) (Value.ref _)) _ _ _); refine Mine.mod_pair (by (first | assumption | exact News.isTup (by assumption) (by k_mem) | exact stays_tup (Fr.keep (by assumption)) (by assumption) | exact stays_tup (Fr.keep (by assumption)) (stays_tup (Fr.keep (by assumption)) (by assumption)))) (by omega) (by omega) ?_; intro t2q127 tk2q127))) | ((((with_reducible show wpAny _ _ (binaryOp Operator.Mod (Value.str _ _) (Value.str _ _)) _ _ _); refine Mine.mod_brace (Nat.le_trans (Mine.join_len_le (by decide) (by assumption)) (by decide)) ?_; intro t2q129 tk2q129))) | (k_unfold; (try dsimp only)) | (k_end; wrow_close) | walk1 | (dsimp only; walk1) | (leave1; (try dsimp only))))
  rcases hn with rfl | ⟨i, ti, rfl⟩ | ⟨x, tx, rfl, hx1, hx2⟩
  all_goals (repeat' (first | ((((with_reducible show wpAny _ _ (truthy (Value.ref _)) _ _ _); first | (refine Mine.truthy_list_ne (by walk_at "my_list") (by assumption) (by assumption) (by omega) ?_; intro tk1q131) | (refine Mine.truthy_list_nil (by walk_at "my_list") ?_; intro tk1q131) | (refine Mine.truthy_tup_nil (by (first | assumption | exact News.isTup (by assumption) (by k_mem) | exact stays_tup (Fr.keep (by assumption)) (by assumption) | exact stays_tup (Fr.keep (by assumption)) (stays_tup (Fr.keep (by assumption)) (by assumption)))) ?_; intro tk1q131) | (refine Mine.truthy_empty (by (first | assumption | exact Or.inl (News.isList (by assumption) (by k_mem)) | exact Or.inr (News.isTup (by assumption) (by k_mem)) | exact Mine.Empty.keeps (Fr.keep (by assumption)) (by assumption) | exact Mine.Empty.keeps (Fr.keep (by assumption)) (Mine.Empty.keeps (Fr.keep (by assumption)) (by assumption)))) ?_; intro tk1q131)))) | ((((with_reducible show wpAny _ _ (call (Value.builtin "str.join") [Value.str _ _, Value.ref _]) _ _ _); first | (refine join_listW (by walk_at "my_list") (by assumption) (by decide) (Mine.le_big (by assumption)) ?_; intro t2q134 tk2q134) | (refine join_tupleW (by (first | assumption | exact News.isTup (by assumption) (by k_mem) | exact stays_tup (Fr.keep (by assumption)) (by assumption) | exact stays_tup (Fr.keep (by assumption)) (stays_tup (Fr.keep (by assumption)) (by assumption)))) (by assumption) (by decide) (Mine.le_big (by assumption)) ?_; intro t2q134 tk2q134)))) | ((((with_reducible show wpAny _ _ (compareOp CmpOp.NotIn (Value.str _ _) (Value.ref _)) _ _ _); first | refine Mine.notin_sup_same (by (first | assumption | exact News.isTup (by assumption) (by k_mem) | exact stays_tup (Fr.keep (by assumption)) (by assumption) | exact stays_tup (Fr.keep (by assumption)) (stays_tup (Fr.keep (by assumption)) (by assumption)))) ?_ | refine Mine.notin_sup_str (by (first | assumption | exact News.isTup (by assumption) (by k_mem) | exact stays_tup (Fr.keep (by assumption)) (by assumption) | exact stays_tup (Fr.keep (by assumption)) (stays_tup (Fr.keep (by assumption)) (by assumption)))) (by assumption) ?_))) | ((((with_reducible show wpAny _ _ (compareOp CmpOp.NotIn Value.none (Value.ref _)) _ _ _); refine Mine.notin_sup_none (by (first | assumption | exact News.isTup (by assumption) (by k_mem) | exact stays_tup (Fr.keep (by assumption)) (by assumption) | exact stays_tup (Fr.keep (by assumption)) (stays_tup (Fr.keep (by assumption)) (by assumption)))) ?_))) | ((((with_reducible show wpAny _ _ (compareOp CmpOp.NotIn (Value.ref _) (Value.ref _)) _ _ _); refine Mine.notin_sup_tup (by (first | assumption | exact News.isTup (by assumption) (by k_mem) | exact stays_tup (Fr.keep (by assumption)) (by assumption) | exact stays_tup (Fr.keep (by assumption)) (stays_tup (Fr.keep (by assumption)) (by assumption)))) (by (first | assumption | exact News.isTup (by assumption) (by k_mem) | exact stays_tup (Fr.keep (by assumption)) (by assumption) | exact stays_tup (Fr.keep (by assumption)) (stays_tup (Fr.keep (by assumption)) (by assumption)))) (by ktr_units) ?_))) | ((((with_reducible show wpAny _ _ (compareOp CmpOp.NotIn _ (Value.ref _)) _ _ _); refine Mine.notin_sup_hidden (by (first | assumption | exact News.isTup (by assumption) (by k_mem) | exact stays_tup (Fr.keep (by assumption)) (by assumption) | exact stays_tup (Fr.keep (by assumption)) (stays_tup (Fr.keep (by assumption)) (by assumption)))) (by first | assumption | exact Mine.Hidden.none | exact Mine.Hidden.sup) ?_))) | ((((with_reducible show wpAny _ _ (call (Value.builtin "isinstance") [Value.ref _, Value.type "tuple"]) _ _ _); refine Mine.isi_tuple (by (first | assumption | exact News.isTup (by assumption) (by k_mem) | exact stays_tup (Fr.keep (by assumption)) (by assumption) | exact stays_tup (Fr.keep (by assumption)) (stays_tup (Fr.keep (by assumption)) (by assumption)))) ?_))) | ((((with_reducible show wpAny _ _ (call (Value.builtin "len") [Value.ref _]) _ _ _); refine Mine.len_tup (by (first | assumption | exact News.isTup (by assumption) (by k_mem) | exact stays_tup (Fr.keep (by assumption)) (by assumption) | exact stays_tup (Fr.keep (by assumption)) (stays_tup (Fr.keep (by assumption)) (by assumption)))) (by (first | exact Nat.le_of_ble_eq_true rfl | (show _ ≤ 2 ^ 24; (try have hlen9 := StrsAre.length (by assumption)); (try simp only [Array.length_toList] at *); omega) | decide)) ?_; intro t2q148 tk2q148))) | ((((with_reducible show wpAny _ _ (binaryOp Operator.Mod (Value.str _ _) (Value.ref _)) _ _ _); refine Mine.mod_pair (by (first | assumption | exact News.isTup (by assumption) (by k_mem) | exact stays_tup (Fr.keep (by assumption)) (by assumption) | exact stays_tup (Fr.keep (by assumption)) (stays_tup (Fr.keep (by assumption)) (by assumption)))) (by omega) (by omega) ?_; intro t2q151 tk2q151))) | ((((with_reducible show wpAny _ _ (binaryOp Operator.Mod (Value.str _ _) (Value.str _ _)) _ _ _); refine Mine.mod_brace (Nat.le_trans (Mine.join_len_le (by decide) (by assumption)) (by decide)) ?_; intro t2q153 tk2q153))) | (k_unfold; (try dsimp only)) | (k_end; wrow_close) | walk1 | (dsimp only; walk1) | (leave1; (try dsimp only))))
  all_goals (try ((((try k_unfold); (try dsimp only); refine Mine.ret_of (Fr.keep (by assumption)) ?_ rfl)); exact ⟨_, rfl⟩))
  all_goals exfalso
  all_goals (rename @Eq Bool _ true => ha)
  all_goals first | exact hx1 (eq_of_beq ha) | (rename @Eq Int _ 2 => hb; have hlen := StrsAre.length hi; rw [Array.length_toList] at hlen; exact hx2 (eq_of_beq ha) (by omega))

section
theorem law_name_D {w : World} {dp un : Nat} {outer : List Env} {gd : Option (List Code)} {base : Heap} {s : Shared} {o c : Addr} {m n d : Value} {items : Array Value} {texts : List Str}
   (X : (Mine.hd.heap_39 w.params).In s.heap) (T : TopH s.heap) (B : Below (AA dp outer gd un) base outer s.heap) (hd : dp + 10 < recursionLimit) (hu : un + 100 < cLine)
   (hl0 : Empty s.heap o) (hm : Hidden m) (hdd : Hidden d) (hl : s.heap.IsList c items) (hi : StrsAre items.toList texts) (hne : texts ≠ []) (hw : (texts.map (·.length)).sum + texts.length ≤ 100000) :
   codeAny (model P w) (AA dp outer gd un) (.call (.ref 77) ⟨[.ref o, m, n, d, .ref c], []⟩) (Ret s fun v _ => ∃ t, v = .str ("{" ++ Txt.join "," texts ++ "}") t) s := by
  refine law_name_start X T B hd hu ?_
  intro L' h' tk x dd mp k1 k2 k3 k4 k5 mean mg mb T' F N
  unfold nameScope
  unfold actLed at N
  have hd8 : dp + 1 + 1 < recursionLimit := by omega
  (repeat' (first | ((((with_reducible show wpAny _ _ (call (Value.type "map") [Value.type "str", Value.ref _]) _ _ _); refine Mine.map_N (by assumption) (by assumption) (by walk_at "my_list") ?_; intro h1q156 z1q156 F1q156 N1q156 MR1q156))) | ((((with_reducible show wpAny _ _ (call (Value.builtin "str.join") [Value.str _ _, Value.ref _]) _ _ _); refine Mine.join_map_N (by assumption) (by assumption) (by assumption) rfl (by assumption) (by decide) (Mine.le_big (by assumption)) ?_; intro h2q157 t2q157 tk2q157 F2q157 N2q157))) | ((((with_reducible show wpAny _ _ (truthy (Value.ref _)) _ _ _); first | (refine Mine.truthy_list_ne (by walk_at "my_list") (by assumption) (by assumption) (by omega) ?_; intro tk1q158) | (refine Mine.truthy_list_nil (by walk_at "my_list") ?_; intro tk1q158) | (refine Mine.truthy_tup_nil (by (first | assumption | exact News.isTup (by assumption) (by k_mem) | exact stays_tup (Fr.keep (by assumption)) (by assumption) | exact stays_tup (Fr.keep (by assumption)) (stays_tup (Fr.keep (by assumption)) (by assumption)))) ?_; intro tk1q158) | (refine Mine.truthy_empty (by (first | assumption | exact Or.inl (News.isList (by assumption) (by k_mem)) | exact Or.inr (News.isTup (by assumption) (by k_mem)) | exact Mine.Empty.keeps (Fr.keep (by assumption)) (by assumption) | exact Mine.Empty.keeps (Fr.keep (by assumption)) (Mine.Empty.keeps (Fr.keep (by assumption)) (by assumption)))) ?_; intro tk1q158)))) | ((((with_reducible show wpAny _ _ (call (Value.builtin "str.join") [Value.str _ _, Value.ref _]) _ _ _); first | (refine join_listW (by walk_at "my_list") (by assumption) (by decide) (Mine.le_big (by assumption)) ?_; intro t2q161 tk2q161) | (refine join_tupleW (by (first | assumption | exact News.isTup (by assumption) (by k_mem) | exact stays_tup (Fr.keep (by assumption)) (by assumption) | exact stays_tup (Fr.keep (by assumption)) (stays_tup (Fr.keep (by assumption)) (by assumption)))) (by assumption) (by decide) (Mine.le_big (by assumption)) ?_; intro t2q161 tk2q161)))) | ((((with_reducible show wpAny _ _ (compareOp CmpOp.NotIn (Value.str _ _) (Value.ref _)) _ _ _); first | refine Mine.notin_sup_same (by (first | assumption | exact News.isTup (by assumption) (by k_mem) | exact stays_tup (Fr.keep (by assumption)) (by assumption) | exact stays_tup (Fr.keep (by assumption)) (stays_tup (Fr.keep (by assumption)) (by assumption)))) ?_ | refine Mine.notin_sup_str (by (first | assumption | exact News.isTup (by assumption) (by k_mem) | exact stays_tup (Fr.keep (by assumption)) (by assumption) | exact stays_tup (Fr.keep (by assumption)) (stays_tup (Fr.keep (by assumption)) (by assumption)))) (by assumption) ?_))) | ((((with_reducible show wpAny _ _ (compareOp CmpOp.NotIn Value.none (Value.ref _)) _ _ _); refine Mine.notin_sup_none (by (first | assumption | exact News.isTup (by assumption) (by k_mem) | exact stays_tup (Fr.keep (by assumption)) (by assumption) | exact stays_tup (Fr.keep (by assumption)) (stays_tup (Fr.keep (by assumption)) (by assumption)))) ?_))) | ((((with_reducible show wpAny _ _ (compareOp CmpOp.NotIn (Value.ref _) (Value.ref _)) _ _ _); refine Mine.notin_sup_tup (by (first | assumption | exact News.isTup (by assumption) (by k_mem) | exact stays_tup (Fr.keep (by assumption)) (by assumption) | exact stays_tup (Fr.keep (by assumption)) (stays_tup (Fr.keep (by assumption)) (by assumption)))) (by (first | assumption | exact News.isTup (by assumption) (by k_mem) | exact stays_tup (Fr.keep (by assumption)) (by assumption) | exact stays_tup (Fr.keep (by assumption)) (stays_tup (Fr.keep (by assumption)) (by assumption)))) (by ktr_units) ?_))) | ((((with_reducible show wpAny _ _ (compareOp CmpOp.NotIn _ (Value.ref _)) _ _ _); refine Mine.notin_sup_hidden (by (first | assumption | exact News.isTup (by assumption) (by k_mem) | exact stays_tup (Fr.keep (by assumption)) (by assumption) | exact stays_tup (Fr.keep (by assumption)) (stays_tup (Fr.keep (by assumption)) (by assumption)))) (by first | assumption | exact Mine.Hidden.none | exact Mine.Hidden.sup) ?_))) | ((((with_reducible show wpAny _ _ (call (Value.builtin "isinstance") [Value.ref _, Value.type "tuple"]) _ _ _); refine Mine.isi_tuple (by (first | assumption | exact News.isTup (by assumption) (by k_mem) | exact stays_tup (Fr.keep (by assumption)) (by assumption) | exact stays_tup (Fr.keep (by assumption)) (stays_tup (Fr.keep (by assumption)) (by assumption)))) ?_))) | ((((with_reducible show wpAny _ _ (call (Value.builtin "len") [Value.ref _]) _ _ _); refine Mine.len_tup (by (first | assumption | exact News.isTup (by assumption) (by k_mem) | exact stays_tup (Fr.keep (by assumption)) (by assumption) | exact stays_tup (Fr.keep (by assumption)) (stays_tup (Fr.keep (by assumption)) (by assumption)))) (by (first | exact Nat.le_of_ble_eq_true rfl | (show _ ≤ 2 ^ 24; (try have hlen9 := StrsAre.length (by assumption)); (try simp only [Array.length_toList] at *); omega) | decide)) ?_; intro t2q175 tk2q175))) | ((((with_reducible show wpAny _ _ (binaryOp Operator.Mod (Value.str _ _) (Value.ref _)) _ _ _); refine Mine.mod_pair (by (first | assumption | exact News.isTup (by assumption) (by k_mem) | exact stays_tup (Fr.keep (by assumption)) (by assumption) | exact stays_tup (Fr.keep (by assumption)) (stays_tup (Fr.keep (by assumption)) (by assumption)))) (by omega) (by omega) ?_; intro t2q178 tk2q178))) | ((((with_reducible show wpAny _ _ (binaryOp Operator.Mod (Value.str _ _) (Value.str _ _)) _ _ _); refine Mine.mod_brace (Nat.le_trans (Mine.join_len_le (by decide) (by assumption)) (by decide)) ?_; intro t2q180 tk2q180))) | (k_unfold; (try dsimp only)) | (k_end; wrow_close) | walk1 | (dsimp only; walk1) | (leave1; (try dsimp only))))
  all_goals ((((try k_unfold); (try dsimp only); refine Mine.ret_of (Fr.keep (by assumption)) ?_ rfl)); exact ⟨_, rfl⟩)

end
section
theorem strs_word : ∀ (ys : List Value), (∀ i (h : i < ys.length), ∃ c t, ys[i] = .str ⟨#[c]⟩ t ∧ (c = 97 ∨ c = 98 ∨ c = 45)) → ∃ texts l, StrsAre ys texts ∧ texts.length = ys.length ∧ (texts.map (·.length)).sum = ys.length ∧ l.length = ys.length ∧ isW l ∧ Txt.join "" texts = ⟨l.toArray⟩
  | [], _ => ⟨[], [], .nil, rfl, rfl, rfl, (fun _ h => nomatch h), rfl⟩
  | y :: ys, h => by
    obtain ⟨c, t, hy, hc⟩ := h 0 (by simp)
    obtain ⟨texts, l, h1, h2, h3, h4, h5, h6⟩ := strs_word ys fun i hi => h (i + 1) (Nat.succ_lt_succ hi)
    simp only [List.getElem_cons_zero] at hy
    subst hy
    refine ⟨⟨#[c]⟩ :: texts, c :: l, .cons _ _ h1, by simp [h2], by rw [List.map_cons, List.sum_cons, h3, List.length_cons]; exact Nat.add_comm _ _, by simp [h4], (fun x hx => by cases hx with | head => exact hc | tail _ hx => exact h5 x hx), ?_⟩
    cases texts with
    | nil => simp at h2; cases ys with
      | nil => cases l with
        | nil => rfl
        | cons _ _ => simp at h4
      | cons _ _ => simp at h2
    | cons z r =>
      have e : Txt.join "" (⟨#[c]⟩ :: z :: r) = ⟨#[c]⟩ ++ "" ++ Txt.join "" (z :: r) := by
        show Builtin.Str.glued "" (⟨#[c]⟩ :: z :: r) = ⟨#[c]⟩ ++ "" ++ Builtin.Str.glued "" (z :: r)
        rw [StrLaws.glued_eq_join, StrLaws.glued_eq_join]; rfl
      rw [e, h6]
      apply str_ext
      rw [toList_append, toList_append]
      simp
      decide +kernel
theorem made_word {h₀ h' : Heap} {L a : Addr} {news : List (Addr × Obj)} {x y : Str} {t u : Tok} {l : List Nat} {n : Nat} {g : Heap} (N : News h₀ L h' news) (hm : (a, W.listOf #[.str x t, .str y u] n) ∈ news) (hx : x = ⟨l.toArray⟩) (hy : y = ⟨l.toArray⟩) : Made g h₀ h' (.ref a) (nodeD (.word l)) := by
  subst hx; subst hy
  refine made_of N (rv_list hm ?_)
  rw [show Tr.dt (.word l) = mkw l from by rw [Tr.dt]]
  exact .cons (.str _ _) (.cons (.str _ _) .nil)
theorem law_word {w : World} {dp un : Nat} {outer : List Env} {gd : Option (List Code)} {base : Heap} {s : Shared} {q : Int} {tq : Tok}
   (X : (Mine.hd.heap_39 w.params).In s.heap) (T' : TopH s.heap) (B : Below (AA dp outer gd un) base outer s.heap) (hd : dp + 30 < recursionLimit) (hu : un + 300 < cLine) :
   codeAny (model P w) (AA dp outer gd un) (.call (.ref 82) ⟨[.int q tq], []⟩) (Ret s fun v h' => ∃ l, isW l ∧ l.length ≤ 2 ∧ ∀ g, Made g s.heap h' v (nodeD (.word l))) s := by
  refine' Mine.enterC (binds := [(Str.ofString "q", .int q tq)]) (by with_reducible assumption) (by assumption) ?k6 ?k7 ?k8 ?k9 ?kA ?kB ?kC ?_ ?c2 ?c3 ?c4
  case k6 => k_is
  case k7 => k_is
  case k8 => ktr_room
  case k9 => rfl
  case kA => rfl
  case kB => exact kinds_of (by kinds_ok)
  case kC => decide
  case c2 => rfl
  case c3 => rfl
  case c4 => rfl
  intro h₁ tk cells mean mg mb F N C T'
  cells_open C
  k_fold
  replace F : Fr s.heap s.heap.objs.size h₁ (fun _ => none) := F
  (repeat' (((first | ((fail_if_success (with_reducible show wpAny _ _ (exec (Stmt.While _ _ _ _) _) _ _ _)); (fail_if_success (with_reducible show wpAny _ _ (exec (Stmt.For _ _ _ _ _) _) _ _ _)); (fail_if_success (with_reducible show wpAny _ _ (eval (PySem.Expr.ListComp _ _ _ _) _) _ _ _)); (fail_if_success (with_reducible show wpAny _ _ (exec (PySem.Stmt.Assign _ (PySem.Expr.ListComp _ _ _ _) _) _) _ _ _)); (fail_if_success (with_reducible show wpAny _ _ (call (Value.ref _) _) _ _ _)); (fail_if_success (with_reducible show wpAny _ _ (pyIter (Value.ref _)) _ _ _)); (fail_if_success (show LCg.CompSrc _ _ _ _ _ _ _ _ _ _ _ _ _ _)); first | (k_unfold; (try dsimp only)) | (k_end; wrow_close) | walk1 | (dsimp only; walk1) | (leave1; (try dsimp only)))))))
  k_dflt (refine LCg.ListComp_U (F₀ := by k_asm) (by with_unfolding_all rfl) (by decide) (by rfl) (by decide) (by rfl) ?_)
  (repeat' (((first | ((fail_if_success (with_reducible show wpAny _ _ (exec (Stmt.While _ _ _ _) _) _ _ _)); (fail_if_success (with_reducible show wpAny _ _ (exec (Stmt.For _ _ _ _ _) _) _ _ _)); (fail_if_success (with_reducible show wpAny _ _ (eval (PySem.Expr.ListComp _ _ _ _) _) _ _ _)); (fail_if_success (with_reducible show wpAny _ _ (exec (PySem.Stmt.Assign _ (PySem.Expr.ListComp _ _ _ _) _) _) _ _ _)); (fail_if_success (with_reducible show wpAny _ _ (call (Value.ref _) _) _ _ _)); (fail_if_success (with_reducible show wpAny _ _ (pyIter (Value.ref _)) _ _ _)); (fail_if_success (show LCg.CompSrc _ _ _ _ _ _ _ _ _ _ _ _ _ _)); first | (k_unfold; (try dsimp only)) | (k_end; wrow_close) | walk1 | (dsimp only; walk1) | (leave1; (try dsimp only)))))))
  have hq0 : 0 ≤ (q.fdiv 3).fmod 3 := Int.fmod_nonneg_of_pos _ (by decide)
  have hq3 : (q.fdiv 3).fmod 3 < 3 := Int.fmod_lt_of_pos _ (by decide)
  generalize hn : (q.fdiv 3).fmod 3 = nn at *
  obtain ⟨n, rfl⟩ : ∃ n : Nat, nn = (n : Int) := ⟨nn.toNat, by omega⟩
  refine LCg.CompSrc.range (n := n) (by rfl) (by k_asm) (by k_asm) (by assumption) ?hsm ?hsz (by rw [sizeLine_eq]; omega) ?_
  case hsm => rcases (by omega : n = 0 ∨ n = 1 ∨ n = 2) with rfl | rfl | rfl <;> rfl
  case hsz => rcases (by omega : n = 0 ∨ n = 1 ∨ n = 2) with rfl | rfl | rfl <;> rfl
  intro g'
  refine comp_rest (fun i y => ∃ c t, y = .str ⟨#[c]⟩ t ∧ (c = 97 ∨ c = 98 ∨ c = 45)) ?_ ?_
  · intro i v I oI C oC D m₂ ys h tk E' hi hP hC hx F N off ne
    obtain ⟨t, rfl⟩ := hP
    have hi2 : i = 0 ∨ i = 1 := by omega
    rcases hi2 with rfl | rfl
    all_goals try rw [show ((0 : Int) + ((0 : Nat) : Int)) = 0 from rfl] at *
    all_goals try rw [show ((0 : Int) + ((1 : Nat) : Int)) = 1 from rfl] at *
    simp only [LCg.Off3, and_true] at off
    (repeat' (((first | ((fail_if_success (with_reducible show wpAny _ _ (exec (Stmt.While _ _ _ _) _) _ _ _)); (fail_if_success (with_reducible show wpAny _ _ (exec (Stmt.For _ _ _ _ _) _) _ _ _)); (fail_if_success (with_reducible show wpAny _ _ (eval (PySem.Expr.ListComp _ _ _ _) _) _ _ _)); (fail_if_success (with_reducible show wpAny _ _ (exec (PySem.Stmt.Assign _ (PySem.Expr.ListComp _ _ _ _) _) _) _ _ _)); (fail_if_success (with_reducible show wpAny _ _ (call (Value.ref _) _) _ _ _)); (fail_if_success (with_reducible show wpAny _ _ (pyIter (Value.ref _)) _ _ _)); (fail_if_success (show LCg.CompSrc _ _ _ _ _ _ _ _ _ _ _ _ _ _)); first | (k_unfold; (try dsimp only)) | (k_end; wrow_close) | walk1 | (dsimp only; walk1) | (leave1; (try dsimp only)))))))
    all_goals first | exact sign3 _ | exact LCg.CompEnd.intro (by assumption) (by assumption) _ (fun p hp => hp) off trivial ⟨rfl, _, _, rfl, sign3 _⟩
  · intro ys hlen hR
    obtain ⟨texts, l, hS, htl, hsum, hll, hisw, hj⟩ := strs_word ys hR
    have hw : (texts.map (·.length)).sum + texts.length ≤ 100000 := by rw [hsum, htl]; omega
    repeat' (first | ((((with_reducible show wpAny _ _ (call (Value.builtin "str.join") [Value.str _ _, Value.ref _]) _ _ _); first | (refine join_listW (by walk_at "my_list") (by assumption) (by decide) (Mine.le_big (by assumption)) ?_; intro t2q188 tk2q188) | (refine join_tupleW (by (first | assumption | exact News.isTup (by assumption) (by k_mem) | exact stays_tup (Fr.keep (by assumption)) (by assumption) | exact stays_tup (Fr.keep (by assumption)) (stays_tup (Fr.keep (by assumption)) (by assumption)))) (by assumption) (by decide) (Mine.le_big (by assumption)) ?_; intro t2q188 tk2q188)))) | (((first | ((fail_if_success (with_reducible show wpAny _ _ (exec (Stmt.While _ _ _ _) _) _ _ _)); (fail_if_success (with_reducible show wpAny _ _ (exec (Stmt.For _ _ _ _ _) _) _ _ _)); (fail_if_success (with_reducible show wpAny _ _ (eval (PySem.Expr.ListComp _ _ _ _) _) _ _ _)); (fail_if_success (with_reducible show wpAny _ _ (exec (PySem.Stmt.Assign _ (PySem.Expr.ListComp _ _ _ _) _) _) _ _ _)); (fail_if_success (with_reducible show wpAny _ _ (call (Value.ref _) _) _ _ _)); (fail_if_success (with_reducible show wpAny _ _ (pyIter (Value.ref _)) _ _ _)); (fail_if_success (show LCg.CompSrc _ _ _ _ _ _ _ _ _ _ _ _ _ _)); first | (k_unfold; (try dsimp only)) | (k_end; wrow_close) | walk1 | (dsimp only; walk1) | (leave1; (try dsimp only)))))))
    all_goals have hwl : (Txt.join "" texts).length ≤ 2 := (by rw [hj]; simp [Str.length]; omega)
    all_goals have hwx : Txt.join "" texts ≠ "==SUPPRESS==" := (by rw [hj]; intro e; have e2 := congrArg Str.length e; have e3 : Str.length ("==SUPPRESS==" : Str) = 12 := (by decide +kernel); rw [e3] at e2; simp [Str.length] at e2; omega)
    · ((refine' Mine.call_atC (by assumption) (by assumption) (by assumption) (by rfl) (by rfl) (fun BB => Mine.law_name_B ?Xq191 ?Tq191 BB ?hdq191 ?huq191 ?hlq191 ?hxq191) ?_; (case Xq191 => (first | (with_reducible assumption) | exact Frag.In.keeps (by assumption) (Fr.keep (by assumption)) | exact ⟨_, _, _, Top.keeps (by assumption) (Fr.keep (by assumption))⟩)); (case Tq191 => (first | (with_reducible assumption) | exact Frag.In.keeps (by assumption) (Fr.keep (by assumption)) | exact ⟨_, _, _, Top.keeps (by assumption) (Fr.keep (by assumption))⟩)); (case hdq191 => exact Mine.room1 (by assumption) rfl); (case huq191 => exact Mine.room3 (by assumption) rfl); (case hlq191 => (first | assumption | exact Or.inl (News.isList (by assumption) (by k_mem)) | exact Or.inr (News.isTup (by assumption) (by k_mem)) | exact Mine.Empty.keeps (Fr.keep (by assumption)) (by assumption) | exact Mine.Empty.keeps (Fr.keep (by assumption)) (Mine.Empty.keeps (Fr.keep (by assumption)) (by assumption)))); (case hxq191 => assumption); (rintro v2q191 h2q191 tk2q191 F2q191 N2q191 st2q191 hv2q191); subst hv2q191))
      (repeat' (((first | ((fail_if_success (with_reducible show wpAny _ _ (exec (Stmt.While _ _ _ _) _) _ _ _)); (fail_if_success (with_reducible show wpAny _ _ (exec (Stmt.For _ _ _ _ _) _) _ _ _)); (fail_if_success (with_reducible show wpAny _ _ (eval (PySem.Expr.ListComp _ _ _ _) _) _ _ _)); (fail_if_success (with_reducible show wpAny _ _ (exec (PySem.Stmt.Assign _ (PySem.Expr.ListComp _ _ _ _) _) _) _ _ _)); (fail_if_success (with_reducible show wpAny _ _ (call (Value.ref _) _) _ _ _)); (fail_if_success (with_reducible show wpAny _ _ (pyIter (Value.ref _)) _ _ _)); (fail_if_success (show LCg.CompSrc _ _ _ _ _ _ _ _ _ _ _ _ _ _)); first | (k_unfold; (try dsimp only)) | (k_end; wrow_close) | walk1 | (dsimp only; walk1) | (leave1; (try dsimp only)))))))
      (((try k_unfold); (try dsimp only); refine Mine.ret_of (Fr.keep (by assumption)) ?_ rfl))
      exact ⟨l, hisw, by omega, fun g => made_word (by assumption) (by k_mem) hj hj⟩
    · ((refine' Mine.call_atC (by assumption) (by assumption) (by assumption) (by rfl) (by rfl) (fun BB => Mine.law_name_A ?Xq198 ?Tq198 BB ?hdq198 ?huq198 ?hlq198 ?hiq198 ?hneq198 ?hwq198) ?_; (case Xq198 => (first | (with_reducible assumption) | exact Frag.In.keeps (by assumption) (Fr.keep (by assumption)) | exact ⟨_, _, _, Top.keeps (by assumption) (Fr.keep (by assumption))⟩)); (case Tq198 => (first | (with_reducible assumption) | exact Frag.In.keeps (by assumption) (Fr.keep (by assumption)) | exact ⟨_, _, _, Top.keeps (by assumption) (Fr.keep (by assumption))⟩)); (case hdq198 => exact Mine.room1 (by assumption) rfl); (case huq198 => exact Mine.room3 (by assumption) rfl); (case hlq198 => walk_at "my_list"); (case hiq198 => exact StrsAre.cons _ _ StrsAre.nil); (case hneq198 => simp); (case hwq198 => first | (simp; omega) | skip); (rintro v2q198 h2q198 tk2q198 F2q198 N2q198 st2q198 ⟨t2q198, hv2q198⟩); subst hv2q198))
      (repeat' (((first | ((fail_if_success (with_reducible show wpAny _ _ (exec (Stmt.While _ _ _ _) _) _ _ _)); (fail_if_success (with_reducible show wpAny _ _ (exec (Stmt.For _ _ _ _ _) _) _ _ _)); (fail_if_success (with_reducible show wpAny _ _ (eval (PySem.Expr.ListComp _ _ _ _) _) _ _ _)); (fail_if_success (with_reducible show wpAny _ _ (exec (PySem.Stmt.Assign _ (PySem.Expr.ListComp _ _ _ _) _) _) _ _ _)); (fail_if_success (with_reducible show wpAny _ _ (call (Value.ref _) _) _ _ _)); (fail_if_success (with_reducible show wpAny _ _ (pyIter (Value.ref _)) _ _ _)); (fail_if_success (show LCg.CompSrc _ _ _ _ _ _ _ _ _ _ _ _ _ _)); first | (k_unfold; (try dsimp only)) | (k_end; wrow_close) | walk1 | (dsimp only; walk1) | (leave1; (try dsimp only)))))))
      (((try k_unfold); (try dsimp only); refine Mine.ret_of (Fr.keep (by assumption)) ?_ rfl))
      exact ⟨l, hisw, by omega, fun g => made_word (by assumption) (by k_mem) hj hj⟩
    · ((refine' Mine.call_atC (by assumption) (by assumption) (by assumption) (by rfl) (by rfl) (fun BB => Mine.law_name_C ?Xq204 ?Tq204 BB ?hdq204 ?huq204 ?hlq204 ?hmq204 ?hxq204) ?_; (case Xq204 => (first | (with_reducible assumption) | exact Frag.In.keeps (by assumption) (Fr.keep (by assumption)) | exact ⟨_, _, _, Top.keeps (by assumption) (Fr.keep (by assumption))⟩)); (case Tq204 => (first | (with_reducible assumption) | exact Frag.In.keeps (by assumption) (Fr.keep (by assumption)) | exact ⟨_, _, _, Top.keeps (by assumption) (Fr.keep (by assumption))⟩)); (case hdq204 => exact Mine.room1 (by assumption) rfl); (case huq204 => exact Mine.room3 (by assumption) rfl); (case hlq204 => (first | assumption | exact Or.inl (News.isList (by assumption) (by k_mem)) | exact Or.inr (News.isTup (by assumption) (by k_mem)) | exact Mine.Empty.keeps (Fr.keep (by assumption)) (by assumption) | exact Mine.Empty.keeps (Fr.keep (by assumption)) (Mine.Empty.keeps (Fr.keep (by assumption)) (by assumption)))); (case hmq204 => first | assumption | exact Mine.Hidden.none | exact Mine.Hidden.sup); (case hxq204 => assumption); (rintro v2q204 h2q204 tk2q204 F2q204 N2q204 st2q204 hv2q204); subst hv2q204))
      (repeat' (((first | ((fail_if_success (with_reducible show wpAny _ _ (exec (Stmt.While _ _ _ _) _) _ _ _)); (fail_if_success (with_reducible show wpAny _ _ (exec (Stmt.For _ _ _ _ _) _) _ _ _)); (fail_if_success (with_reducible show wpAny _ _ (eval (PySem.Expr.ListComp _ _ _ _) _) _ _ _)); (fail_if_success (with_reducible show wpAny _ _ (exec (PySem.Stmt.Assign _ (PySem.Expr.ListComp _ _ _ _) _) _) _ _ _)); (fail_if_success (with_reducible show wpAny _ _ (call (Value.ref _) _) _ _ _)); (fail_if_success (with_reducible show wpAny _ _ (pyIter (Value.ref _)) _ _ _)); (fail_if_success (show LCg.CompSrc _ _ _ _ _ _ _ _ _ _ _ _ _ _)); first | (k_unfold; (try dsimp only)) | (k_end; wrow_close) | walk1 | (dsimp only; walk1) | (leave1; (try dsimp only)))))))
      (((try k_unfold); (try dsimp only); refine Mine.ret_of (Fr.keep (by assumption)) ?_ rfl))
      exact ⟨l, hisw, by omega, fun g => made_word (by assumption) (by k_mem) hj hj⟩
    · ((refine' Mine.call_atC (by assumption) (by assumption) (by assumption) (by rfl) (by rfl) (fun BB => Mine.law_name_C ?Xq211 ?Tq211 BB ?hdq211 ?huq211 ?hlq211 ?hmq211 ?hxq211) ?_; (case Xq211 => (first | (with_reducible assumption) | exact Frag.In.keeps (by assumption) (Fr.keep (by assumption)) | exact ⟨_, _, _, Top.keeps (by assumption) (Fr.keep (by assumption))⟩)); (case Tq211 => (first | (with_reducible assumption) | exact Frag.In.keeps (by assumption) (Fr.keep (by assumption)) | exact ⟨_, _, _, Top.keeps (by assumption) (Fr.keep (by assumption))⟩)); (case hdq211 => exact Mine.room1 (by assumption) rfl); (case huq211 => exact Mine.room3 (by assumption) rfl); (case hlq211 => (first | assumption | exact Or.inl (News.isList (by assumption) (by k_mem)) | exact Or.inr (News.isTup (by assumption) (by k_mem)) | exact Mine.Empty.keeps (Fr.keep (by assumption)) (by assumption) | exact Mine.Empty.keeps (Fr.keep (by assumption)) (Mine.Empty.keeps (Fr.keep (by assumption)) (by assumption)))); (case hmq211 => first | assumption | exact Mine.Hidden.none | exact Mine.Hidden.sup); (case hxq211 => assumption); (rintro v2q211 h2q211 tk2q211 F2q211 N2q211 st2q211 hv2q211); subst hv2q211))
      (repeat' (((first | ((fail_if_success (with_reducible show wpAny _ _ (exec (Stmt.While _ _ _ _) _) _ _ _)); (fail_if_success (with_reducible show wpAny _ _ (exec (Stmt.For _ _ _ _ _) _) _ _ _)); (fail_if_success (with_reducible show wpAny _ _ (eval (PySem.Expr.ListComp _ _ _ _) _) _ _ _)); (fail_if_success (with_reducible show wpAny _ _ (exec (PySem.Stmt.Assign _ (PySem.Expr.ListComp _ _ _ _) _) _) _ _ _)); (fail_if_success (with_reducible show wpAny _ _ (call (Value.ref _) _) _ _ _)); (fail_if_success (with_reducible show wpAny _ _ (pyIter (Value.ref _)) _ _ _)); (fail_if_success (show LCg.CompSrc _ _ _ _ _ _ _ _ _ _ _ _ _ _)); first | (k_unfold; (try dsimp only)) | (k_end; wrow_close) | walk1 | (dsimp only; walk1) | (leave1; (try dsimp only)))))))
      (((try k_unfold); (try dsimp only); refine Mine.ret_of (Fr.keep (by assumption)) ?_ rfl))
      exact ⟨l, hisw, by omega, fun g => made_word (by assumption) (by k_mem) hj hj⟩

end
end
section
local macro_rules | `(tactic| walk_at "my_sub") => `(tactic| ((with_reducible show wpAny _ _ (subscriptTail _ _ (Value.ref _) (Value.int _ _)) _ _ _); k_dflt (first | (refine' Mine.item_nth ?qa ?qb ?qc ?qd ?_ ?qe; (case qa => walk_at "my_list"); (case qb => decide); (case qc => decide); (case qd => rfl); (case qe => with_unfolding_all rfl)) | (refine' Mine.item_at ?qa ?qb ?qc ?qd ?_ ?qe; (case qa => walk_at "my_list"); (case qb => decide); (case qc => decide); (case qd => assumption); (case qe => with_unfolding_all rfl)))))
local macro_rules | `(tactic| walk_at "my_fit") => `(tactic| (first | exact Nat.le_of_ble_eq_true rfl | decide | (rw [sizeLine_eq]; (try simp only [Array.size_append, Array.size_push, List.size_toArray, List.length_append, List.length_cons, List.length_nil]); omega) | ((try simp only [Array.size_append, Array.size_push, List.size_toArray, List.length_append, List.length_cons, List.length_nil]); omega)))
local macro_rules | `(tactic| walk_at "call builtin:len") => `(tactic| ((with_reducible show wpAny _ _ (call (Value.builtin "len") [Value.ref _]) _ _ _); refine len_list (by walk_at "my_list") (by walk_at "my_fit") ?_))
local macro_rules | `(tactic| walk_at "subscriptTail") => `(tactic| walk_at "my_sub")
local macro_rules | `(tactic| walk_at "subscriptTail Name Constant ref int") => `(tactic| walk_at "my_sub")
local macro_rules | `(tactic| walk_at "subscriptTail Subscript Constant ref int") => `(tactic| walk_at "my_sub")
local macro_rules | `(tactic| walk_at "subscriptTail Name Slice ref ref") => `(tactic| ((with_reducible show wpAny _ _ (subscriptTail _ (PySem.Expr.Slice _ _ none _) (Value.ref _) (Value.ref _)) _ _ _); refine' W.kmk_slice ?F ?N ?l ?p ?q ?_ ?s ?t ?z; (case F => assumption); (case N => assumption); (case l => walk_at "my_list"); (case p => first | exact IsPart.none | exact IsPart.int _ _); (case q => first | exact IsPart.none | exact IsPart.int _ _); (case s => with_unfolding_all rfl); (case t => (intro _; with_unfolding_all rfl)); (case z => walk_at "my_fit"); intro D8 h8 F8 N8 l8; (try rw [Mine.slice_tail] at N8); (try k_lt l8)))
local macro_rules | `(tactic| walk_at "binaryOp Add ref ref") => `(tactic| ((with_reducible show wpAny _ _ (binaryOp Operator.Add (Value.ref _) (Value.ref _)) _ _ _); k_dflt (refine' Mine.add_arraysL ?k1 ?k2 ?k3 ?k4 ?k5 ?_; (case k1 => assumption); (case k2 => assumption); (case k3 => walk_at "my_list"); (case k4 => walk_at "my_list"); (case k5 => walk_at "my_fit")); intro D8 h5 F5 N5 l8; (try k_lt l8)))
local macro_rules | `(tactic| walk_at "inplaceOp Add ref ref") => `(tactic| ((with_reducible show wpAny _ _ (inplaceOp Operator.Add (Value.ref _) (Value.ref _)) _ _ _); refine' Mine.iadd_made ?k1 ?k2 ?k3 ?k4 ?k5 ?k6 ?_; (case k1 => assumption); (case k2 => assumption); (case k3 => k_mem); (case k5 => k_upd); (case k4 => walk_at "my_fit"); (case k6 => walk_at "my_fit"); intro h5 F5 N5))
local macro_rules | `(tactic| walk_at "call type:type") => `(tactic| ((with_reducible show wpAny _ _ (call (Value.type "type") [Value.ref _]) _ _ _); refine call_type_of (Heap.IsList.typeIs (by walk_at "my_list")) (by decide) ?_))
def oneS (x : Str) : List PyData → PyData
  | [d] => d
  | ds => .list (.str x :: ds)
theorem oneS_eq (k : Kd) (ds : List PyData) : oneS (kdS k) ds = one k ds := by
  unfold oneS one; rfl
theorem ra_size {g : Heap} {items : Array Value} {ds : List PyData} {as : List Addr} (hr : ReadsAll g items.toList ds as) : items.size = ds.length := by
  have := SeqAt.ReadsAll.length _ _ _ hr; rwa [Array.length_toList] at this
theorem rva_old {g : Heap} {news : List (Addr × Obj)} {vs : List Value} {ds : List PyData} {as : List Addr} (r : ReadsAll g vs ds as) : ReadsViaAll g news vs ds := fun _ hk _ => ⟨as, ReadsAll.keeps hk r⟩
theorem oneS_ne {x : Str} {ds : List PyData} (h : ¬ ds.length = 1) : oneS x ds = .list (.str x :: ds) := by
  match ds, h with
  | [], _ => rfl
  | [_], h => exact absurd rfl h
  | _ :: _ :: _, _ => rfl
theorem law_one {w : World} {dp un : Nat} {outer : List Env} {gd : Option (List Code)} {base g : Heap} {s : Shared} {x : Str} {tx : Tok} {a : Addr} {items : Array Value} {ds : List PyData} {as : List Addr}
   (X : (Mine.hd.heap_39 w.params).In s.heap) (T' : TopH s.heap) (B : Below (AA dp outer gd un) base outer s.heap) (hd : dp + 10 < recursionLimit) (hu : un + 100 < cLine)
   (hg : g.StaysIn s.heap) (hl : s.heap.IsList a items) (hr : ReadsAll g items.toList ds as) (hsz : ds.length ≤ 1000000) :
   codeAny (model P w) (AA dp outer gd un) (.call (.ref 96) ⟨[.str x tx, .ref a], []⟩) (Ret s fun v h' => Made g s.heap h' v (oneS x ds)) s := by
  have hn := ra_size hr
  by_cases h1 : ds.length = 1
  · obtain ⟨d, rfl⟩ : ∃ d, ds = [d] := by
      match ds, h1 with
      | [d], _ => exact ⟨d, rfl⟩
    obtain ⟨v, rfl⟩ : ∃ v, items = #[v] := by
      match items, hn with
      | ⟨[v]⟩, _ => exact ⟨v, rfl⟩
    refine' Mine.enter (binds := [(Str.ofString "kind", .str x tx), (Str.ofString "parts", .ref a)]) (by with_reducible assumption) (by assumption) ?k6 ?k7 ?k8 ?k9 ?kB ?_ ?c2 ?c3 ?c4 ?c5
    (((case k6 => k_is); (case k7 => k_is); (case k8 => exact Mine.room0 (by assumption)); (case k9 => exact BindsTo.of_eq rfl); (case kB => exact locs rfl); (case c5 => decide); (case c2 => rfl); (case c3 => rfl); (case c4 => rfl); intro L'q218 h₁q218 meanq218 mgq218 mbq218 Fq218 Nq218 T'q218; dsimp only [List.reverse, List.reverseAux, List.length] at Fq218 ⊢; k_fold))
    (repeat' (((first | ((fail_if_success (with_reducible show wpAny _ _ (exec (Stmt.While _ _ _ _) _) _ _ _)); (fail_if_success (with_reducible show wpAny _ _ (exec (Stmt.For _ _ _ _ _) _) _ _ _)); (fail_if_success (with_reducible show wpAny _ _ (eval (PySem.Expr.ListComp _ _ _ _) _) _ _ _)); (fail_if_success (with_reducible show wpAny _ _ (exec (PySem.Stmt.Assign _ (PySem.Expr.ListComp _ _ _ _) _) _) _ _ _)); (fail_if_success (with_reducible show wpAny _ _ (call (Value.ref _) _) _ _ _)); (fail_if_success (with_reducible show wpAny _ _ (pyIter (Value.ref _)) _ _ _)); (fail_if_success (show LCg.CompSrc _ _ _ _ _ _ _ _ _ _ _ _ _ _)); first | (k_unfold; (try dsimp only)) | (k_end; wrow_close) | walk1 | (dsimp only; walk1) | (leave1; (try dsimp only)))))))
    · (((try k_unfold); (try dsimp only); refine Mine.ret_of (Fr.keep (by assumption)) ?_ rfl))
      cases hr with
      | cons ra rs => exact made_old ra
    · rename _ ≠ (1 : Int) => hbad
      exact absurd rfl hbad
  · refine' Mine.enter (binds := [(Str.ofString "kind", .str x tx), (Str.ofString "parts", .ref a)]) (by with_reducible assumption) (by assumption) ?k6' ?k7' ?k8' ?k9' ?kB' ?_ ?c2' ?c3' ?c4' ?c5'
    (case k6' => k_is); (case k7' => k_is); (case k8' => ktr_room); (case k9' => exact BindsTo.of_eq rfl); (case kB' => exact locs rfl); (case c5' => decide); (case c2' => rfl); (case c3' => rfl); (case c4' => rfl); intro L' h₁ mean mg mb F N T'; dsimp only [List.reverse, List.reverseAux, List.length] at F ⊢; k_fold
    (repeat' (((first | ((fail_if_success (with_reducible show wpAny _ _ (exec (Stmt.While _ _ _ _) _) _ _ _)); (fail_if_success (with_reducible show wpAny _ _ (exec (Stmt.For _ _ _ _ _) _) _ _ _)); (fail_if_success (with_reducible show wpAny _ _ (eval (PySem.Expr.ListComp _ _ _ _) _) _ _ _)); (fail_if_success (with_reducible show wpAny _ _ (exec (PySem.Stmt.Assign _ (PySem.Expr.ListComp _ _ _ _) _) _) _ _ _)); (fail_if_success (with_reducible show wpAny _ _ (call (Value.ref _) _) _ _ _)); (fail_if_success (with_reducible show wpAny _ _ (pyIter (Value.ref _)) _ _ _)); (fail_if_success (show LCg.CompSrc _ _ _ _ _ _ _ _ _ _ _ _ _ _)); first | (k_unfold; (try dsimp only)) | (k_end; wrow_close) | walk1 | (dsimp only; walk1) | (leave1; (try dsimp only)))))))
    (((try k_unfold); (try dsimp only); refine Mine.ret_of (Fr.keep (by assumption)) ?_ rfl))
    rw [oneS_ne h1]
    exact made_of (by assumption) (.list (.head _) (.cons (.str _ _) (rva_old hr)))

section
variable {prog : Program} {w : World} {A : Around} {E : Value → Shared → Prop} {s : Shared} {h₀ h : Heap} {L D : Addr} {m : Str → Option Value} {news news' : List (Addr × Obj)} {its : Array Value} {n : Nat}
theorem append_U {x : Value} {Q : Value → Shared → Prop} (F : Fr h₀ L s.heap m) (N : News h₀ L s.heap news)
    (U : W.Upd D (W.listOf its n) (W.listOf (its.push x) (n + 1)) news news') (hz : its.size ≤ 1000000)
    (h : ∀ h', Fr h₀ L h' m → News h₀ L h' news' → Q .none { s with heap := h' }) : wpAny (model prog w) A (call (.builtin "list.append") [.ref D, x]) Q E s := by
  obtain ⟨pre, post, rfl, rfl, a, c⟩ := U.split
  have z := N (D, W.listOf its n) (List.mem_append.mpr (.inr (.head _)))
  refine call_meets PySem.F.slot_list_append ⟨_, z.1, rfl⟩ PySem.F.entry_list_append (PySem.F.args_list_append_2 _ _) (PySem.list_append D its n x (by rw [sizeLine_eq]; omega)) ⟨z.1, h _ (F.change (Heap.SameBut.update ..) z.2.1 z.2.2) (W.kl_turn _ N a c ?_ ?_)⟩
  · rfl
  · rw [Array.size_push]; omega
theorem set_U {k : Int} {t : Tok} {v : Value} {q : List Value} {Q : Unit → Shared → Prop} (F : Fr h₀ L s.heap m) (N : News h₀ L s.heap news) (h0 : 0 ≤ k) (hfit : k < 2 ^ 63) (U : W.Upd D (W.listOf its n) (W.listOf q.toArray n) news news') (e : W.ki_setL its.toList k.toNat v = some q)
    (h : ∀ h', Fr h₀ L h' m → News h₀ L h' news' → Q () { s with heap := h' }) : wpAny (model prog w) A (setItem (.ref D) (.int k t) v) Q E s := W.ki_set F N h0 hfit e U h
theorem pop_U {p : List Value} {y : Value} {Q : Value → Shared → Prop} (F : Fr h₀ L s.heap m) (N : News h₀ L s.heap news) (U : W.Upd D (W.listOf its n) (W.listOf p.toArray (n + 1)) news news') (e : W.kl_last its.toList = some (p, y))
    (hz : its.toList.length ≤ sizeLine) (h : ∀ h', Fr h₀ L h' m → News h₀ L h' news' → Q y { s with heap := h' }) : wpAny (model prog w) A (call (.builtin "list.pop") [.ref D]) Q E s := W.kl_pop F N e U hz h
theorem sign_at {value slice : PySem.Expr} {x c : Str} {t u : Tok} {i : Int} {Q : Value → Shared → Prop} (hc : Txt.item x i = c) (h0 : 0 ≤ i) (h1 : i < (x.length : Int)) (hn : x.length ≤ 100000) (h : Q (.str c s.toks) { s with toks := s.toks + 1 })
    (hs : subscripted slice false (.str x t) (.int i u) = operate [.str x t, .int i u] (getItem (.str x t) (.int i u)) := by with_unfolding_all rfl)
    (ht : ∀ r, letTemporaryGo value (.str x t) r = pure () := by intro _; with_unfolding_all rfl) :
    wpAny (model prog w) A (subscriptTail value slice (.str x t) (.int i u)) Q E s :=
  W.KXi.item rfl (by omega) h1 (by omega) (fun _ => by rw [hc]; exact h) hs ht
theorem in_lit {x y : Str} {t u : Tok} {b : Bool} {Q : Value → Shared → Prop} (hb : (!(Builtin.Str.occurrences x y 0 x.length 1).isEmpty) = b) (h : Q (.bool b) s) : wpAny (model prog w) A (compareOp .In (.str y u) (.str x t)) Q E s :=
  PyProof.Rows.in_str (by rw [hb]; exact h)
end
/-- the value of a level's text or data -/
def CurIs (g : Heap) (Z : List (Addr × Obj)) (v : Value) : Cur → Prop
  | .w l => ∃ t, v = .str ⟨l.toArray⟩ t
  | .d x => (∃ a, v = .ref a) ∧ (∃ ds, x = .list ds) ∧ ReadsVia g Z v x
theorem CurIs.reads {g : Heap} {Z : List (Addr × Obj)} {v : Value} {c : Cur} (h : CurIs g Z v c) : ReadsVia g Z v c.dt := by
  cases c with
  | w l => obtain ⟨t, rfl⟩ := h; exact .str _ _
  | d x => exact h.2.2
theorem CurIs.more {g : Heap} {Z Z' : List (Addr × Obj)} {v : Value} {c : Cur} (h : CurIs g Z v c) (hs : ∀ p ∈ Z, p ∈ Z') : CurIs g Z' v c := by
  cases c with
  | w l => exact h
  | d x => exact ⟨h.1, h.2.1, h.2.2.more hs⟩
def sgn (s : Nat) : Str := if s = 0 then "" else ⟨#[s]⟩
/-- one level's four objects -/
def lvLed (a p1 p2 p3 : Addr) (sg : Str) (ts : Tok) (vc : Value) (i1 i2 i3 : Array Value) (n n1 n2 n3 : Nat) : List (Addr × Obj) :=
  [(a, W.listOf #[.str sg ts, .ref p1, .ref p2, .ref p3, vc] n), (p1, W.listOf i1 n1), (p2, W.listOf i2 n2), (p3, W.listOf i3 n3)]
inductive Levels (g : Heap) (Z : List (Addr × Obj)) : List Lv → List Value → List (Addr × Obj) → Prop
  | nil : Levels g Z [] [] []
  | cons {lv : Lv} {lvs : List Lv} {vs : List Value} {M : List (Addr × Obj)} {a p1 p2 p3 : Addr} {ts : Tok} {vc : Value} {i1 i2 i3 : Array Value} {n n1 n2 n3 : Nat}
      (r1 : ReadsViaAll g Z i1.toList lv.l1) (r2 : ReadsViaAll g Z i2.toList lv.l2) (r3 : ReadsViaAll g Z i3.toList lv.l3) (rc : CurIs g Z vc lv.cur) (tail : Levels g Z lvs vs M) :
      Levels g Z (lv :: lvs) (.ref a :: vs) ((a, W.listOf #[.str (sgn lv.s) ts, .ref p1, .ref p2, .ref p3, vc] n) :: (p1, W.listOf i1 n1) :: (p2, W.listOf i2 n2) :: (p3, W.listOf i3 n3) :: M)
theorem rva_up {g : Heap} {Z Z' : List (Addr × Obj)} {vs : List Value} {ds : List PyData} (r : ReadsViaAll g Z vs ds) (hs : ∀ p ∈ Z, p ∈ Z') : ReadsViaAll g Z' vs ds := fun h hk hn => r h hk fun p hp => hn p (hs p hp)
theorem Levels.more {g : Heap} {Z Z' : List (Addr × Obj)} {lvs : List Lv} {vs : List Value} {M : List (Addr × Obj)} (h : Levels g Z lvs vs M) (hs : ∀ p ∈ Z, p ∈ Z') : Levels g Z' lvs vs M := by
  induction h with
  | nil => exact .nil
  | cons r1 r2 r3 rc _ ih => exact .cons (rva_up r1 hs) (rva_up r2 hs) (rva_up r3 hs) (rc.more hs) ih
theorem Levels.len {g : Heap} {Z : List (Addr × Obj)} {lvs : List Lv} {vs : List Value} {M : List (Addr × Obj)} (h : Levels g Z lvs vs M) : vs.length = lvs.length := by
  induction h with
  | nil => rfl
  | cons _ _ _ _ _ ih => simp [ih]
/-- the levels' objects are apart, and apart from the data -/
def Dis (M Z : List (Addr × Obj)) : Prop := (M.map (·.1)).Nodup ∧ ∀ p ∈ M, ∀ q ∈ Z, q.1 ≠ p.1
theorem Dis.tail {p : Addr × Obj} {M Z : List (Addr × Obj)} (h : Dis (p :: M) Z) : Dis M Z := by
  obtain ⟨h1, h2⟩ := h
  rw [List.map_cons, List.nodup_cons] at h1
  exact ⟨h1.2, fun q hq => h2 q (.tail _ hq)⟩
theorem Dis.head {p : Addr × Obj} {M Z : List (Addr × Obj)} (h : Dis (p :: M) Z) : ∀ q ∈ M ++ Z, q.1 ≠ p.1 := by
  obtain ⟨h1, h2⟩ := h
  rw [List.map_cons, List.nodup_cons] at h1
  intro q hq
  rcases List.mem_append.mp hq with hq | hq
  · intro e; exact h1.1 (List.mem_map.mpr ⟨q, hq, e⟩)
  · exact h2 p (.head _) q hq
theorem Dis.cons {p : Addr × Obj} {M Z : List (Addr × Obj)} (h : Dis M Z) (h2 : ∀ q ∈ M ++ Z, q.1 ≠ p.1) : Dis (p :: M) Z := by
  refine ⟨?_, ?_⟩
  · rw [List.map_cons, List.nodup_cons]
    refine ⟨fun hm => ?_, h.1⟩
    obtain ⟨q, hq, e⟩ := List.mem_map.mp hm
    exact h2 q (List.mem_append_left _ hq) e
  · intro q hq
    cases hq with
    | head => exact fun r hr => h2 r (List.mem_append_right _ hr)
    | tail _ hq => exact h.2 q hq
theorem Dis.data {M Z Z' : List (Addr × Obj)} (h : Dis M Z) (h2 : ∀ p ∈ M, ∀ q ∈ Z', q ∈ Z ∨ q.1 ≠ p.1) : Dis M Z' := ⟨h.1, fun p hp q hq => (h2 p hp q hq).elim (h.2 p hp q) id⟩
def Bnd (b : Nat) (lvs : List Lv) : Prop := lvs.length ≤ b + 1 ∧ ∀ lv ∈ lvs, lv.l1.length ≤ b ∧ lv.l2.length ≤ b ∧ lv.l3.length ≤ b ∧ ∀ l, lv.cur = .w l → l.length ≤ b
theorem Bnd.mono {b b' : Nat} {lvs : List Lv} (h : Bnd b lvs) (hb : b ≤ b') : Bnd b' lvs := ⟨by have := h.1; omega, fun lv hl => by
  obtain ⟨h1, h2, h3, h4⟩ := h.2 lv hl
  exact ⟨by omega, by omega, by omega, fun l e => by have := h4 l e; omega⟩⟩
/-- the reader's state -/
def RSt (g : Heap) (T : Str) (tT : Tok) (LV : Addr) (i : Nat) (lvs : List Lv) (m : Str → Option Value) (news : List (Addr × Obj)) : Prop :=
  ∃ ti ex vs nL M Z, m = (fun y => List.lookup y ((Str.ofString "text", .str T tT) :: (Str.ofString "levels", .ref LV) :: (Str.ofString "i", .int (i : Int) ti) :: ex)) ∧
    news = (LV, W.listOf vs.reverse.toArray nL) :: (M ++ Z) ∧ Levels g Z lvs vs M ∧ Dis ((LV, W.listOf vs.reverse.toArray nL) :: M) Z ∧ Bnd i lvs
def RTurn (h₀ : Heap) (L : Addr) (s : Shared) (J : (Str → Option Value) → List (Addr × Obj) → Prop) (f : Flow) (s' : Shared) : Prop :=
  (f = .next ∨ f = .cont) ∧ ∃ h' tk m' news', s' = { s with heap := h', toks := tk } ∧ Fr h₀ L h' m' ∧ News h₀ L h' news' ∧ J m' news'
theorem RTurn.next {h₀ h' : Heap} {L : Addr} {s : Shared} {J : (Str → Option Value) → List (Addr × Obj) → Prop} {tk : Nat} {m' : Str → Option Value} {news' : List (Addr × Obj)} (F : Fr h₀ L h' m') (N : News h₀ L h' news') (j : J m' news') : RTurn h₀ L s J .next { s with heap := h', toks := tk } := ⟨.inl rfl, h', tk, m', news', rfl, F, N, j⟩
theorem RTurn.cont {h₀ h' : Heap} {L : Addr} {s : Shared} {J : (Str → Option Value) → List (Addr × Obj) → Prop} {tk : Nat} {m' : Str → Option Value} {news' : List (Addr × Obj)} (F : Fr h₀ L h' m') (N : News h₀ L h' news') (j : J m' news') : RTurn h₀ L s J .cont { s with heap := h', toks := tk } := ⟨.inr rfl, h', tk, m', news', rfl, F, N, j⟩
theorem rva_len {g h : Heap} {Z : List (Addr × Obj)} {its : Array Value} {ds : List PyData} (r : ReadsViaAll g Z its.toList ds) (k0 : g.StaysIn h) (k : ∀ p ∈ Z, h.get? p.1 = some p.2) : its.size = ds.length := by
  obtain ⟨as, ra⟩ := r (dataHeap h g Z) (dataHeap_base k0) (dataHeap_led k)
  exact ra_size ra
theorem bnd_top {b : Nat} {lv lv' : Lv} {lvs : List Lv} (h : Bnd b (lv :: lvs)) (h' : lv'.l1.length ≤ b + 1 ∧ lv'.l2.length ≤ b + 1 ∧ lv'.l3.length ≤ b + 1 ∧ ∀ l, lv'.cur = .w l → l.length ≤ b + 1) : Bnd (b + 1) (lv' :: lvs) := by
  refine ⟨by have := h.1; simp only [List.length_cons] at this ⊢; omega, fun x hx => ?_⟩
  cases hx with
  | head => exact h'
  | tail _ hx => exact (h.mono (Nat.le_succ b)).2 x (.tail _ hx)
theorem cur_empty {g : Heap} {Z : List (Addr × Obj)} {t : Tok} : CurIs g Z (.str (Str.ofString "") t) (.w []) := ⟨t, by rw [show Str.ofString "" = (⟨[].toArray⟩ : Str) from by decide +kernel]⟩
theorem mem5 {α : Type} {a b c d e f g h i : α} {M : List α} : ∀ p, p ∈ e :: a :: b :: c :: d :: f :: g :: h :: i :: M → p ∈ a :: d :: c :: b :: e :: f :: g :: h :: i :: M := by
  intro p hp
  simp only [List.mem_cons] at hp ⊢
  rcases hp with h | h | h | h | h | h | h | h | h | h <;> simp [h]
theorem allLt_ne {d : Addr} {l : List (Addr × Obj)} (h : W.AllLt d l) : ∀ q ∈ l, q.1 ≠ d := fun q hq => Nat.ne_of_lt (W.kst_ltOf h q hq)
theorem slice3_ne {T : Str} {i : Nat} {x : Nat} {d : Str} {k : Nat} (hi : i < T.length) (hc : Txt.item T (i : Int) = ⟨#[x]⟩) (hd : d.cps.toList.head? ≠ some x) : Txt.slice T (some ((i : Int) + 1 - 1)) (some ((i : Int) + 1 + (k : Int))) ≠ d := by
  intro e
  apply hd
  rw [← e, show (i : Int) + 1 - 1 = (i : Int) from by omega, show (i : Int) + 1 + (k : Int) = ((i + 1 + k : Nat) : Int) from by omega, slice_nat T i (i + 1 + k) (by omega) (by omega)]
  have h1 := congrArg (fun s => s.cps.toList) hc
  simp only at h1
  rw [item_nat T i hi] at h1
  have h2 : (T.cps.toList.drop i).take (i + 1 + k - i) = x :: ((T.cps.toList.drop (i + 1)).take k) := by
    have hl : i < T.cps.toList.length := by simpa [Str.length] using hi
    rw [List.drop_eq_getElem_cons hl] at h1 ⊢
    have : i + 1 + k - i = k + 1 := by omega
    rw [this, List.take_succ_cons]
    simp at h1
    rw [← h1]
    simp
  rw [h2]
  rfl
theorem cur_more {g : Heap} {Z : List (Addr × Obj)} {t : Tok} {l : List Nat} {c : Nat} {x : Str} (h : x = ⟨#[c]⟩) : CurIs g Z (.str (⟨l.toArray⟩ ++ x) t) (.w (l ++ [c])) :=
  ⟨t, by rw [h]; exact congrArg (fun z => Value.str z t) (lS_append l [c]).symm⟩
theorem tail_up {h : Heap} {M Z Y : List (Addr × Obj)} {x : Addr} {o : Obj} (h1 : ∀ q ∈ M ++ Z, q.1 ≠ x) (hY : ∀ p ∈ Y, h.get? p.1 = none) (hx : h.get? x = some o) : ∀ q ∈ M ++ (Z ++ Y), q.1 ≠ x := by
  intro q hq
  rcases List.mem_append.mp hq with hq | hq
  · exact h1 q (List.mem_append_left _ hq)
  rcases List.mem_append.mp hq with hq | hq
  · exact h1 q (List.mem_append_right _ hq)
  · intro e
    have := hY q hq
    rw [e, hx] at this; cases this
theorem Dis.up {h : Heap} {M Z Y : List (Addr × Obj)} (hd : Dis M Z) (hY : ∀ p ∈ Y, h.get? p.1 = none) (k : ∀ p ∈ M, h.get? p.1 = some p.2) : Dis M (Z ++ Y) :=
  hd.data fun p hp q hq => (List.mem_append.mp hq).imp id fun hq e => by
    have := hY q hq
    rw [e, k p hp] at this; cases this
theorem mem_sw {α : Type} {a b c d e f : α} {M : List α} : ∀ p, p ∈ b :: c :: d :: e :: a :: M → p ∈ a :: b :: c :: d :: e :: f :: M := by
  intro p hp
  simp only [List.mem_cons] at hp ⊢
  rcases hp with h | h | h | h | h | h <;> simp [h]
theorem law_one_via {w : World} {dp un : Nat} {outer : List Env} {gd : Option (List Code)} {base g g₀ : Heap} {s : Shared} {x : Str} {tx : Tok} {a : Addr} {items : Array Value} {ds : List PyData} {Z : List (Addr × Obj)}
   (X : (Mine.hd.heap_39 w.params).In s.heap) (T' : TopH s.heap) (B : Below (AA dp outer gd un) base outer s.heap) (hd : dp + 10 < recursionLimit) (hu : un + 100 < cLine)
   (hg : g.StaysIn s.heap) (hgg : g₀.StaysIn g) (hZ : ∀ p ∈ Z, g.get? p.1 = some p.2) (hr : ReadsViaAll g₀ Z items.toList ds) (hl : s.heap.IsList a items) (hsz : ds.length ≤ 1000000) :
   codeAny (model P w) (AA dp outer gd un) (.call (.ref 96) ⟨[.str x tx, .ref a], []⟩) (Ret s fun v h' => Made g s.heap h' v (oneS x ds)) s := by
  obtain ⟨as, ra⟩ := hr g hgg hZ
  exact law_one X T' B hd hu hg hl ra hsz
theorem mem_sw2 {α : Type} {a b c d e f g : α} {M : List α} : ∀ p, p ∈ c :: d :: e :: a :: b :: M → p ∈ a :: b :: c :: d :: e :: f :: g :: M := by
  intro p hp
  simp only [List.mem_cons] at hp ⊢
  rcases hp with h | h | h | h | h | h <;> simp [h]
theorem kl_last_snoc (l : List Value) (y : Value) : W.kl_last (l ++ [y]) = some (l, y) := by
  induction l with
  | nil => rfl
  | cons x l ih => rw [List.cons_append, W.kl_last, ih]
theorem kl_last_rev (r : List Value) (y : Value) : W.kl_last (y :: r).reverse.toArray.toList = some (r.reverse, y) := by
  rw [List.toList_toArray, List.reverse_cons]; exact kl_last_snoc _ _
theorem notin_two {prog : Program} {w : World} {A : Around} {E : Value → Shared → Prop} {s : Shared} {l : Addr} {x y1 y2 : Str} {t t1 t2 : Tok} {Q : Value → Shared → Prop} (hl : s.heap.IsList l #[.str y1 t1, .str y2 t2]) (hx : x = y1 ∨ x = y2) (h : Q (.bool false) s) :
    wpAny (model prog w) A (compareOp .NotIn (.str x t) (.ref l)) Q E s := by
  refine SeqAt.notIn_listAt (fun y => match y with | .str z _ => z == x | _ => false) hl (fun y hy => ?_) ?_
  · have hy' : y = .str y1 t1 ∨ y = .str y2 t2 := by simpa using hy
    rcases hy' with rfl | rfl
    · exact SeqAt.EqAt.str_str (A := A.in1) (s := s) y1 t1 x t
    · exact SeqAt.EqAt.str_str (A := A.in1) (s := s) y2 t2 x t
  · rcases hx with rfl | rfl
    · simpa using h
    · simpa using h
theorem dis4 {b c d e : Addr × Obj} {M Z : List (Addr × Obj)} (h : Dis (b :: c :: d :: e :: M) Z) :
    ((c.1 ≠ b.1 ∧ d.1 ≠ b.1 ∧ e.1 ≠ b.1) ∧ (d.1 ≠ c.1 ∧ e.1 ≠ c.1) ∧ e.1 ≠ d.1) ∧
    (∀ q ∈ M ++ Z, q.1 ≠ b.1) ∧ (∀ q ∈ M ++ Z, q.1 ≠ c.1) ∧ (∀ q ∈ M ++ Z, q.1 ≠ d.1) ∧ (∀ q ∈ M ++ Z, q.1 ≠ e.1) ∧ Dis M Z := by
  have h2 := h.head
  have h3 := h.tail.head
  have h4 := h.tail.tail.head
  have h5 := h.tail.tail.tail.head
  exact ⟨⟨⟨h2 _ (by simp), h2 _ (by simp), h2 _ (by simp)⟩, ⟨h3 _ (by simp), h3 _ (by simp)⟩, h4 _ (by simp)⟩, fun q hq => h2 q (.tail _ (.tail _ (.tail _ hq))), fun q hq => h3 q (.tail _ (.tail _ hq)), fun q hq => h4 q (.tail _ hq), h5, h.tail.tail.tail.tail⟩
theorem Dis.d {M Z : List (Addr × Obj)} {D : Addr} {o : Obj} (h : Dis M Z) (hD : ∀ q ∈ M ++ Z, q.1 ≠ D) : Dis M ((D, o) :: Z) := ⟨h.1, fun p hp q hq => by
  cases hq with
  | head => exact Ne.symm (hD p (List.mem_append_left _ hp))
  | tail _ hq => exact h.2 p hp q hq⟩
theorem bnd_pop {b : Nat} {lv up up' : Lv} {lvs : List Lv} (h : Bnd b (lv :: up :: lvs)) (e1 : up'.l1 = up.l1) (e2 : up'.l2 = up.l2) (e3 : up'.l3 = up.l3) (e4 : ∀ l, up'.cur ≠ .w l) : Bnd (b + 1) (up' :: lvs) := by
  refine ⟨by have := h.1; simp only [List.length_cons] at this ⊢; omega, fun x hx => ?_⟩
  cases hx with
  | head =>
    obtain ⟨h1, h2, h3, _⟩ := h.2 up (.tail _ (.head _))
    exact ⟨by rw [e1]; omega, by rw [e2]; omega, by rw [e3]; omega, fun l e => absurd e (e4 l)⟩
  | tail _ hx => exact (h.mono (Nat.le_succ b)).2 x (.tail _ (.tail _ hx))
theorem pop_news {h₀ h : Heap} {L : Addr} {x1 x2 x3 x4 x5 x6 x7 x8 d LV a2 q1 q2 q3 : Addr × Obj} {M Z : List (Addr × Obj)} (N : News h₀ L h (d :: x1 :: x2 :: x3 :: x4 :: LV :: x5 :: x6 :: x7 :: x8 :: a2 :: q1 :: q2 :: q3 :: (M ++ Z))) : News h₀ L h (LV :: a2 :: q1 :: q2 :: q3 :: (M ++ (d :: Z))) := fun p hp => N p (by
  simp only [List.mem_cons, List.mem_append] at hp ⊢
  rcases hp with h | h | h | h | h | h | h | h <;> simp [h])
def LtIs (s : Shared) (h : Heap) (c : Prop) (b : Bool) (s₂ : Shared) : Prop := (b = true ↔ c) ∧ ∃ tk', s₂ = { s with heap := h, toks := tk' }
theorem sg_eq {sg x : Str} {c d : Nat} (hsg : sg = ⟨#[c]⟩) (hx : x = ⟨#[d]⟩) (h : (sg == x) = true) : c = d := by
  have h := eq_of_beq h
  rw [hsg, hx] at h
  simpa using h
theorem sg_ne {sg x : Str} {c d : Nat} (hsg : sg = ⟨#[c]⟩) (hx : x = ⟨#[d]⟩) (h : (sg == x) = false) : c ≠ d := by
  rintro rfl
  rw [hsg, hx] at h
  simp at h
theorem ne_of_beq_false {a b : Str} (h : (a == b) = false) : a ≠ b := by
  rintro rfl
  simp at h
section
variable {b : Nat} {lv : Lv} {d : PyData}
theorem bnd_snoc3 (h : lv.l1.length ≤ b ∧ lv.l2.length ≤ b ∧ lv.l3.length ≤ b ∧ ∀ l, lv.cur = .w l → l.length ≤ b) : (Lv.mk lv.s lv.l1 lv.l2 (lv.l3 ++ [d]) (.w [])).l1.length ≤ b + 1 ∧ (Lv.mk lv.s lv.l1 lv.l2 (lv.l3 ++ [d]) (.w [])).l2.length ≤ b + 1 ∧ (Lv.mk lv.s lv.l1 lv.l2 (lv.l3 ++ [d]) (.w [])).l3.length ≤ b + 1 ∧ ∀ l, (Lv.mk lv.s lv.l1 lv.l2 (lv.l3 ++ [d]) (.w [])).cur = .w l → l.length ≤ b + 1 :=
  ⟨Nat.le_succ_of_le h.1, Nat.le_succ_of_le h.2.1, by simp only [List.length_append, List.length_singleton]; exact Nat.succ_le_succ h.2.2.1, fun l e => by cases e; exact Nat.zero_le _⟩
theorem bnd_snoc2 (h : lv.l1.length ≤ b ∧ lv.l2.length ≤ b ∧ lv.l3.length ≤ b ∧ ∀ l, lv.cur = .w l → l.length ≤ b) : (Lv.mk lv.s lv.l1 (lv.l2 ++ [d]) [] (.w [])).l1.length ≤ b + 1 ∧ (Lv.mk lv.s lv.l1 (lv.l2 ++ [d]) [] (.w [])).l2.length ≤ b + 1 ∧ (Lv.mk lv.s lv.l1 (lv.l2 ++ [d]) [] (.w [])).l3.length ≤ b + 1 ∧ ∀ l, (Lv.mk lv.s lv.l1 (lv.l2 ++ [d]) [] (.w [])).cur = .w l → l.length ≤ b + 1 :=
  ⟨Nat.le_succ_of_le h.1, by simp only [List.length_append, List.length_singleton]; exact Nat.succ_le_succ h.2.1, Nat.zero_le _, fun l e => by cases e; exact Nat.zero_le _⟩
theorem bnd_snoc1 (h : lv.l1.length ≤ b ∧ lv.l2.length ≤ b ∧ lv.l3.length ≤ b ∧ ∀ l, lv.cur = .w l → l.length ≤ b) : (Lv.mk lv.s (lv.l1 ++ [d]) [] [] (.w [])).l1.length ≤ b + 1 ∧ (Lv.mk lv.s (lv.l1 ++ [d]) [] [] (.w [])).l2.length ≤ b + 1 ∧ (Lv.mk lv.s (lv.l1 ++ [d]) [] [] (.w [])).l3.length ≤ b + 1 ∧ ∀ l, (Lv.mk lv.s (lv.l1 ++ [d]) [] [] (.w [])).cur = .w l → l.length ≤ b + 1 :=
  ⟨by simp only [List.length_append, List.length_singleton]; exact Nat.succ_le_succ h.1, Nat.zero_le _, Nat.zero_le _, fun l e => by cases e; exact Nat.zero_le _⟩
end
theorem beq_false_of_ne {a b : Str} (h : a ≠ b) : (a == b) = false := by simpa using h
theorem beq_true_of_eq {a b : Str} (h : a = b) : (a == b) = true := by rw [h]; simp
theorem bnd_cur {b : Nat} {lv : Lv} {l : List Nat} {c : Nat} (h : lv.l1.length ≤ b ∧ lv.l2.length ≤ b ∧ lv.l3.length ≤ b ∧ ∀ l, lv.cur = .w l → l.length ≤ b) (hl : l.length ≤ b) : (Lv.mk lv.s lv.l1 lv.l2 lv.l3 (.w (l ++ [c]))).l1.length ≤ b + 1 ∧ (Lv.mk lv.s lv.l1 lv.l2 lv.l3 (.w (l ++ [c]))).l2.length ≤ b + 1 ∧ (Lv.mk lv.s lv.l1 lv.l2 lv.l3 (.w (l ++ [c]))).l3.length ≤ b + 1 ∧ ∀ l', (Lv.mk lv.s lv.l1 lv.l2 lv.l3 (.w (l ++ [c]))).cur = .w l' → l'.length ≤ b + 1 :=
  ⟨Nat.le_succ_of_le h.1, Nat.le_succ_of_le h.2.1, Nat.le_succ_of_le h.2.2.1, fun l' e => by cases e; simp only [List.length_append, List.length_singleton]; exact Nat.succ_le_succ hl⟩
inductive Apart (x y : Addr) : List Addr → Prop
  | hd {r : List Addr} : y ∈ r → Apart x y (x :: r)
  | hd' {r : List Addr} : x ∈ r → Apart x y (y :: r)
  | tl {z : Addr} {r : List Addr} : Apart x y r → Apart x y (z :: r)
inductive InLed (N : List (Addr × Obj)) : List Addr → Prop
  | nil : InLed N []
  | cons {x : Addr} {o : Obj} {r : List Addr} : (x, o) ∈ N → InLed N r → InLed N (x :: r)
theorem InLed.at {N : List (Addr × Obj)} {l : List Addr} (h : InLed N l) : ∀ x ∈ l, ∃ o, (x, o) ∈ N := by
  induction h with
  | nil => exact fun _ h => nomatch h
  | cons m _ ih =>
    intro x hx
    cases hx with
    | head => exact ⟨_, m⟩
    | tail _ hx => exact ih x hx
/-- the addresses l are apart, and apart from the ledgers M and Z, which are apart -/
structure Ap (l : List Addr) (M Z : List (Addr × Obj)) : Prop where
  pw : l.Pairwise (· ≠ ·)
  z : ∀ x ∈ l, ∀ q ∈ M ++ Z, q.1 ≠ x
  d : Dis M Z
theorem Ap.ne {l : List Addr} {M Z : List (Addr × Obj)} {x y : Addr} (h : Ap l M Z) (a : Apart x y l) : x ≠ y := by
  have hp := h.pw
  clear h
  induction a with
  | hd m => exact (List.pairwise_cons.mp hp).1 _ m
  | hd' m => exact Ne.symm ((List.pairwise_cons.mp hp).1 _ m)
  | tl _ ih => exact ih (List.pairwise_cons.mp hp).2
theorem Ap.zne {l : List Addr} {M Z : List (Addr × Obj)} {x : Addr} (h : Ap l M Z) (m : x ∈ l) : ∀ q ∈ M ++ Z, q.1 ≠ x := h.z x m
theorem Ap.grow {l : List Addr} {M Z L : List (Addr × Obj)} {D : Addr} (h : Ap l M Z) (hD : ∀ p ∈ L, p.1 < D) (hi : InLed L l) (hs : ∀ p ∈ M ++ Z, p ∈ L) : Ap (D :: l) M Z := by
  refine ⟨List.pairwise_cons.mpr ⟨fun y hy => ?_, h.pw⟩, fun x hx q hq => ?_, h.d⟩
  · obtain ⟨o, m⟩ := hi.at y hy
    exact Nat.ne_of_gt (hD _ m)
  · cases hx with
    | head => exact Nat.ne_of_lt (hD _ (hs q hq))
    | tail _ hx => exact h.z x hx q hq
theorem Ap.up {g : Heap} {l : List Addr} {M Z Y N : List (Addr × Obj)} {h₀ : Heap} {L : Addr} (h : Ap l M Z) (hN : News h₀ L g N) (hY : ∀ p ∈ Y, g.get? p.1 = none) (hi : InLed N l) (hs : ∀ p ∈ M, p ∈ N) : Ap l M (Z ++ Y) := by
  refine ⟨h.pw, fun x hx => ?_, h.d.up hY fun p hp => (hN p (hs p hp)).1⟩
  obtain ⟨o, m⟩ := hi.at x hx
  exact tail_up (h.z x hx) hY (hN _ m).1
theorem Ap.open {l : List Addr} {b c d e : Addr} {ob oc od oe : Obj} {M Z : List (Addr × Obj)} (h : Ap l ((b, ob) :: (c, oc) :: (d, od) :: (e, oe) :: M) Z) : Ap (b :: c :: d :: e :: l) M Z := by
  obtain ⟨hp, hz, hd⟩ := h
  obtain ⟨⟨⟨n1, n2, n3⟩, ⟨n4, n5⟩, n6⟩, z1, z2, z3, z4, hd'⟩ := dis4 hd
  refine ⟨?_, ?_, hd'⟩
  · refine List.pairwise_cons.mpr ⟨?_, List.pairwise_cons.mpr ⟨?_, List.pairwise_cons.mpr ⟨?_, List.pairwise_cons.mpr ⟨?_, hp⟩⟩⟩⟩
    · intro y hy
      simp only [List.mem_cons] at hy
      rcases hy with rfl | rfl | rfl | hy
      · exact Ne.symm n1
      · exact Ne.symm n2
      · exact Ne.symm n3
      · exact hz y hy (b, ob) (by simp)
    · intro y hy
      simp only [List.mem_cons] at hy
      rcases hy with rfl | rfl | hy
      · exact Ne.symm n4
      · exact Ne.symm n5
      · exact hz y hy (c, oc) (by simp)
    · intro y hy
      simp only [List.mem_cons] at hy
      rcases hy with rfl | hy
      · exact Ne.symm n6
      · exact hz y hy (d, od) (by simp)
    · exact fun y hy => hz y hy (e, oe) (by simp)
  · intro x hx q hq
    simp only [List.mem_cons] at hx
    rcases hx with rfl | rfl | rfl | rfl | hx
    · exact z1 q hq
    · exact z2 q hq
    · exact z3 q hq
    · exact z4 q hq
    · exact hz x hx q (by rcases List.mem_append.mp hq with h | h <;> simp [h])
/-- addresses picked out of l -/
inductive Pick (l : List Addr) : List Addr → Prop
  | nil : Pick l []
  | cons {x : Addr} {r : List Addr} : x ∈ l → (∀ y ∈ r, Apart x y l) → Pick l r → Pick l (x :: r)
theorem Ap.pick {l r : List Addr} {M Z : List (Addr × Obj)} (h : Ap l M Z) (p : Pick l r) : Ap r M Z := by
  induction p with
  | nil => exact ⟨.nil, fun _ h => (nomatch h), h.d⟩
  | cons m a _ ih =>
    refine ⟨List.pairwise_cons.mpr ⟨fun y hy => h.ne (a y hy), ih.pw⟩, fun x hx => ?_, h.d⟩
    cases hx with
    | head => exact h.z _ m
    | tail _ hx => exact ih.z x hx
theorem Ap.data {l : List Addr} {M Z : List (Addr × Obj)} {D : Addr} {o : Obj} (h : Ap (D :: l) M Z) : Ap l M ((D, o) :: Z) := by
  refine ⟨(List.pairwise_cons.mp h.pw).2, fun x hx q hq => ?_, h.d.d (h.z D (.head _))⟩
  rcases List.mem_append.mp hq with hq | hq
  · exact h.z x (.tail _ hx) q (List.mem_append_left _ hq)
  cases hq with
  | head => exact (List.pairwise_cons.mp h.pw).1 x hx
  | tail _ hq => exact h.z x (.tail _ hx) q (List.mem_append_right _ hq)
theorem Ap.dis : ∀ {ps : List (Addr × Obj)} {M Z : List (Addr × Obj)}, Ap (ps.map (·.1)) M Z → Dis (ps ++ M) Z
  | [], _, _, h => h.d
  | p :: ps, M, Z, h => by
    have h' : Ap (ps.map (·.1)) M Z := ⟨(List.pairwise_cons.mp h.pw).2, fun x hx => h.z x (.tail _ hx), h.d⟩
    refine (Ap.dis h').cons fun q hq => ?_
    have h1 := (List.pairwise_cons.mp h.pw).1
    rw [List.append_assoc] at hq
    rcases List.mem_append.mp hq with hq | hq
    · exact Ne.symm (h1 _ (List.mem_map_of_mem hq))
    · exact h.z p.1 (.head _) q hq
theorem Ap.of {ps : List (Addr × Obj)} {M Z : List (Addr × Obj)} (h : Dis (ps ++ M) Z) : Ap (ps.map (·.1)) M Z := by
  induction ps with
  | nil => exact ⟨.nil, fun _ h => (nomatch h), h⟩
  | cons p ps ih =>
    have ih := ih h.tail
    have h1 := h.head
    refine ⟨List.pairwise_cons.mpr ⟨fun y hy => ?_, ih.pw⟩, fun x hx q hq => ?_, ih.d⟩
    · obtain ⟨q, hq, rfl⟩ := List.mem_map.mp hy
      exact Ne.symm (h1 q (List.mem_append_left _ (List.mem_append_left _ hq)))
    · rcases List.mem_cons.mp hx with rfl | hx
      · refine h1 q ?_
        rcases List.mem_append.mp hq with h | h
        · exact List.mem_append_left _ (List.mem_append_right _ h)
        · exact List.mem_append_right _ h
      · exact ih.z x hx q hq
theorem rst_ap {g : Heap} {T : Str} {tT ti ts : Tok} {LV a p1 p2 p3 : Addr} {i n n1 n2 n3 nL : Nat} {lv : Lv} {lvs : List Lv} {m : Str → Option Value} {ex : List (Str × Value)} {vs : List Value} {M Z : List (Addr × Obj)} {vc : Value} {i1 i2 i3 : Array Value}
    (hm : m = fun y => List.lookup y ((Str.ofString "text", .str T tT) :: (Str.ofString "levels", .ref LV) :: (Str.ofString "i", .int (i : Int) ti) :: ex))
    (r1 : ReadsViaAll g Z i1.toList lv.l1) (r2 : ReadsViaAll g Z i2.toList lv.l2) (r3 : ReadsViaAll g Z i3.toList lv.l3) (rc : CurIs g Z vc lv.cur) (tail : Levels g Z lvs vs M)
    (h : Ap [LV, a, p1, p2, p3] M Z) (hb : Bnd i (lv :: lvs)) :
    RSt g T tT LV i (lv :: lvs) m ((LV, W.listOf (Value.ref a :: vs).reverse.toArray nL) :: (a, W.listOf #[.str (sgn lv.s) ts, .ref p1, .ref p2, .ref p3, vc] n) :: (p1, W.listOf i1 n1) :: (p2, W.listOf i2 n2) :: (p3, W.listOf i3 n3) :: (M ++ Z)) :=
  ⟨ti, ex, .ref a :: vs, nL, _, Z, hm, rfl, .cons r1 r2 r3 rc tail, Ap.dis (ps := [(LV, _), (a, _), (p1, _), (p2, _), (p3, _)]) h, hb⟩
/-- a new level put up -/
theorem rst_pushA {g : Heap} {T : Str} {tT ti ts ts' te : Tok} {LV a p1 p2 p3 b q1 q2 q3 : Addr} {i i' n n1 n2 n3 nL m0 m1 m2 m3 : Nat} {lv : Lv} {sg : Nat} {lvs : List Lv} {m : Str → Option Value} {ex : List (Str × Value)} {vs : List Value} {M Z : List (Addr × Obj)} {vc : Value} {i1 i2 i3 its : Array Value}
    (hm : m = fun y => List.lookup y ((Str.ofString "text", .str T tT) :: (Str.ofString "levels", .ref LV) :: (Str.ofString "i", .int (i' : Int) ti) :: ex))
    (r1 : ReadsViaAll g Z i1.toList lv.l1) (r2 : ReadsViaAll g Z i2.toList lv.l2) (r3 : ReadsViaAll g Z i3.toList lv.l3) (rc : CurIs g Z vc lv.cur) (tail : Levels g Z lvs vs M)
    (h : Ap [LV, b, q1, q2, q3, a, p1, p2, p3] M Z) (hb : Bnd i (lv :: lvs)) (hi : i + 1 ≤ i')
    (hits : its = (Value.ref a :: vs).reverse.toArray.push (.ref b)) (hsg : sg ≠ 0) :
    RSt g T tT LV i' (⟨sg, [], [], [], .w []⟩ :: lv :: lvs) m ((LV, W.listOf its nL) :: (b, W.listOf #[.str ⟨#[sg]⟩ ts', .ref q1, .ref q2, .ref q3, .str (Str.ofString "") te] m0) :: (q1, W.listOf #[] m1) :: (q2, W.listOf #[] m2) :: (q3, W.listOf #[] m3) ::
      (a, W.listOf #[.str (sgn lv.s) ts, .ref p1, .ref p2, .ref p3, vc] n) :: (p1, W.listOf i1 n1) :: (p2, W.listOf i2 n2) :: (p3, W.listOf i3 n3) :: (M ++ Z)) := by
  subst hits
  have e : (Value.ref a :: vs).reverse.toArray.push (.ref b) = (Value.ref b :: .ref a :: vs).reverse.toArray := by simp
  rw [e]
  refine ⟨ti, ex, .ref b :: .ref a :: vs, nL, (b, W.listOf #[.str ⟨#[sg]⟩ ts', .ref q1, .ref q2, .ref q3, .str (Str.ofString "") te] m0) :: (q1, W.listOf #[] m1) :: (q2, W.listOf #[] m2) :: (q3, W.listOf #[] m3) ::
      (a, W.listOf #[.str (sgn lv.s) ts, .ref p1, .ref p2, .ref p3, vc] n) :: (p1, W.listOf i1 n1) :: (p2, W.listOf i2 n2) :: (p3, W.listOf i3 n3) :: M, Z, hm, rfl, ?_, ?_, ?_⟩
  · have := Levels.cons (g := g) (Z := Z) (lv := ⟨sg, [], [], [], .w []⟩) (a := b) (p1 := q1) (p2 := q2) (p3 := q3) (ts := ts') (vc := .str (Str.ofString "") te) (i1 := #[]) (i2 := #[]) (i3 := #[]) (n := m0) (n1 := m1) (n2 := m2) (n3 := m3) .nil .nil .nil cur_empty (.cons r1 r2 r3 rc tail (a := a) (p1 := p1) (p2 := p2) (p3 := p3) (ts := ts) (n := n) (n1 := n1) (n2 := n2) (n3 := n3))
    simp only [sgn, if_neg hsg] at this
    exact this
  · exact Ap.dis (ps := [(LV, _), (b, _), (q1, _), (q2, _), (q3, _), (a, _), (p1, _), (p2, _), (p3, _)]) h
  · refine ⟨by have := hb.1; simp only [List.length_cons] at this ⊢; omega, fun x hx => ?_⟩
    cases hx with
    | head => exact ⟨Nat.zero_le _, Nat.zero_le _, Nat.zero_le _, fun l e => by cases e; exact Nat.zero_le _⟩
    | tail _ hx => exact (hb.mono (by omega)).2 x hx
theorem rst_init {g h₀ h : Heap} {L : Addr} {T : Str} {tT ti t1 t2 : Tok} {LV a p1 p2 p3 : Addr} {k0 k1 k2 k3 k4 : Nat} {m : Str → Option Value} {ex : List (Str × Value)}
    (_F : Fr h₀ L h m) (N : News h₀ L h [(LV, W.listOf #[.ref a] k0), (a, W.listOf #[.str (Str.ofString "") t1, .ref p1, .ref p2, .ref p3, .str (Str.ofString "") t2] k1), (p3, W.listOf #[] k4), (p2, W.listOf #[] k3), (p1, W.listOf #[] k2)])
    (hap : Ap [LV, a, p1, p2, p3] [] [])
    (hm : m = fun y => List.lookup y ((Str.ofString "text", .str T tT) :: (Str.ofString "levels", .ref LV) :: (Str.ofString "i", .int ((0 : Nat) : Int) ti) :: ex)) :
    ∃ news, News h₀ L h news ∧ RSt g T tT LV 0 [lv0] m news := by
  have R := rst_ap (g := g) (T := T) (tT := tT) (ti := ti) (ts := t1) (LV := LV) (a := a) (p1 := p1) (p2 := p2) (p3 := p3) (i := 0) (n := k1) (n1 := k2) (n2 := k3) (n3 := k4) (nL := k0) (lv := lv0) (lvs := []) (m := m) (ex := ex) (vs := []) (M := []) (Z := []) (vc := .str (Str.ofString "") t2) (i1 := #[]) (i2 := #[]) (i3 := #[])
    hm .nil .nil .nil cur_empty .nil hap ⟨by simp, fun x hx => by cases hx with | head => exact ⟨Nat.le_refl _, Nat.le_refl _, Nat.le_refl _, fun l e => by cases e; exact Nat.le_refl _⟩ | tail _ h => cases h⟩
  refine ⟨_, fun p hp => N p ?_, R⟩
  have e : sgn lv0.s = Str.ofString "" := rfl
  rw [e] at hp
  simp only [List.mem_cons, List.append_nil, List.reverse_cons, List.reverse_nil, List.nil_append, List.not_mem_nil, or_false] at hp ⊢
  rcases hp with h | h | h | h | h <;> simp [h]
theorem lz_of {T : Str} {i : Nat} {a : Addr} {vs : List Value} {lv : Lv} {lvs : List Lv} (hb : Bnd i (lv :: lvs)) (ht : vs.length = lvs.length) (hi : i < T.length) (hT : T.length ≤ 100000) : (Value.ref a :: vs).reverse.toArray.size ≤ 1000000 := by
  have := hb.1
  simp only [List.length_cons] at this
  simp; omega

section
theorem wts_take (ts : List Tr) (i : Nat) : wts (ts.take i) ≤ wts ts := by
  have h := wts_append (ts.take i) (ts.drop i)
  rw [List.take_append_drop] at h; omega
theorem law_row {w : World} {dp un : Nat} {outer : List Env} {gd : Option (List Code)} {base g : Heap} {s : Shared} {kd : Kd} {tx : Tok} {a : Addr} {items : Array Value} {ts : List Tr} {as : List Addr}
   (X : (Mine.hd.heap_39 w.params).In s.heap) (T' : TopH s.heap) (B : Below (AA dp outer gd un) base outer s.heap) (hd : dp + 20 < recursionLimit) (hu : un + 200 < cLine)
   (hg : g.StaysIn s.heap) (hl : s.heap.IsList a items) (hr : ReadsAll g items.toList (dts ts) as) (hsz : wts ts ≤ 100000) (hok : oks ts) :
   codeAny (model P w) (AA dp outer gd un) (.call (.ref 103) ⟨[.str (kdS kd) tx, .ref a], []⟩) (Ret s fun v h' => Made g s.heap h' v (rowT kd ts).dt) s := by
  have hn := ra_size hr
  refine' Mine.enter (binds := [(Str.ofString "kind", .str (kdS kd) tx), (Str.ofString "trees", .ref a)]) (by with_reducible assumption) (by assumption) ?k6 ?k7 ?k8 ?k9 ?kB ?_ ?c2 ?c3 ?c4 ?c5
  (((case k6 => k_is); (case k7 => k_is); (case k8 => exact Mine.room0 (by assumption)); (case k9 => exact BindsTo.of_eq rfl); (case kB => exact locs rfl); (case c5 => decide); (case c2 => rfl); (case c3 => rfl); (case c4 => rfl); intro L'q225 h₁q225 meanq225 mgq225 mbq225 Fq225 Nq225 T'q225; dsimp only [List.reverse, List.reverseAux, List.length] at Fq225 ⊢; k_fold))
  (repeat' (((first | ((fail_if_success (with_reducible show wpAny _ _ (exec (Stmt.While _ _ _ _) _) _ _ _)); (fail_if_success (with_reducible show wpAny _ _ (exec (Stmt.For _ _ _ _ _) _) _ _ _)); (fail_if_success (with_reducible show wpAny _ _ (eval (PySem.Expr.ListComp _ _ _ _) _) _ _ _)); (fail_if_success (with_reducible show wpAny _ _ (exec (PySem.Stmt.Assign _ (PySem.Expr.ListComp _ _ _ _) _) _) _ _ _)); (fail_if_success (with_reducible show wpAny _ _ (call (Value.ref _) _) _ _ _)); (fail_if_success (with_reducible show wpAny _ _ (pyIter (Value.ref _)) _ _ _)); (fail_if_success (show LCg.CompSrc _ _ _ _ _ _ _ _ _ _ _ _ _ _)); first | (k_unfold; (try dsimp only)) | (k_end; wrow_close) | walk1 | (dsimp only; walk1) | (leave1; (try dsimp only)))))))
  refine wpAny_For ?_
  (repeat' (((first | ((fail_if_success (with_reducible show wpAny _ _ (exec (Stmt.While _ _ _ _) _) _ _ _)); (fail_if_success (with_reducible show wpAny _ _ (exec (Stmt.For _ _ _ _ _) _) _ _ _)); (fail_if_success (with_reducible show wpAny _ _ (eval (PySem.Expr.ListComp _ _ _ _) _) _ _ _)); (fail_if_success (with_reducible show wpAny _ _ (exec (PySem.Stmt.Assign _ (PySem.Expr.ListComp _ _ _ _) _) _) _ _ _)); (fail_if_success (with_reducible show wpAny _ _ (call (Value.ref _) _) _ _ _)); (fail_if_success (with_reducible show wpAny _ _ (pyIter (Value.ref _)) _ _ _)); (fail_if_success (show LCg.CompSrc _ _ _ _ _ _ _ _ _ _ _ _ _ _)); first | (k_unfold; (try dsimp only)) | (k_end; wrow_close) | walk1 | (dsimp only; walk1) | (leave1; (try dsimp only)))))))
  rename News _ _ _ _ => NL
  rename Fr _ _ _ _ => FL
  refine iter_list2 (fun I i m h => ∃ p its k ex, News s.heap _ h [(p, W.listOf its k)] ∧ m = (fun y => List.lookup y ((Str.ofString "trees", .ref a) :: (Str.ofString "kind", .str (kdS kd) tx) :: (Str.ofString "parts", .ref p) :: ex)) ∧ p ≠ I ∧ ∃ as, ReadsAll g its.toList (dts ((ts.take i).flatMap (flat kd))) as) (stays_list FL.keep hl) FL (fun I hI => ⟨_, _, _, [], NL, by (((simp only [← Mine.mset_at]); rfl)), hI ▸ News.old NL _ (.head _), [], .nil⟩) ?_ ?_ ?_
  · rintro I i m h h' ⟨p, its, k, ex, hN, hm, hp, hR⟩ hk
    exact ⟨p, its, k, ex, News.but hN (fun q hq => by rw [List.mem_singleton.mp hq]; exact hp) hk, hm, hp, hR⟩
  · rintro I i v m₁ h tk hv ⟨p, its, k, ex, N₁, rfl, hpI, as', hR⟩ hI hli hI0 hIL F₁
    have hIp : I ≠ p := Ne.symm hpI
    obtain ⟨oI, hoI, hIr⟩ := id hI
    have N₂ := News.add N₁ (p := (I, oI)) hoI hIL hI0
    obtain ⟨d, bs, hd1, hd2⟩ := ra_at i v hr (by rw [Array.getElem?_toList]; exact hv)
    obtain ⟨T, hT1, rfl⟩ : ∃ T, ts[i]? = some T ∧ T.dt = d := by
      rw [dts_eq, List.getElem?_map] at hd1
      cases hT : ts[i]? with
      | none => rw [hT] at hd1; cases hd1
      | some T => rw [hT] at hd1; exact ⟨T, rfl, by simpa using hd1⟩
    have hTi : T ∈ ts := List.mem_of_getElem? hT1
    have hTok := oks_all hok T hTi
    have hTw := wt_mem hTi
    have hisz : its.size ≤ 100000 := by
      rw [ra_size hR, dts_length]
      exact Nat.le_trans (wts_len _) (Nat.le_trans (flats_wt _ _) (Nat.le_trans (wts_take _ _) hsz))
    have htk : ts.take (i + 1) = ts.take i ++ [T] := by rw [List.take_add_one, hT1]; rfl
    have hfl : dts ((ts.take (i + 1)).flatMap (flat kd)) = dts ((ts.take i).flatMap (flat kd)) ++ dts (flat kd T) := by rw [htk, List.flatMap_append, dts_append]; simp
    cases T with
    | word wd =>
      rw [Tr.dt] at hd2
      obtain ⟨tv, rfl⟩ := reads_str hd2
      (repeat' (((first | ((fail_if_success (with_reducible show wpAny _ _ (exec (Stmt.While _ _ _ _) _) _ _ _)); (fail_if_success (with_reducible show wpAny _ _ (exec (Stmt.For _ _ _ _ _) _) _ _ _)); (fail_if_success (with_reducible show wpAny _ _ (eval (PySem.Expr.ListComp _ _ _ _) _) _ _ _)); (fail_if_success (with_reducible show wpAny _ _ (exec (PySem.Stmt.Assign _ (PySem.Expr.ListComp _ _ _ _) _) _) _ _ _)); (fail_if_success (with_reducible show wpAny _ _ (call (Value.ref _) _) _ _ _)); (fail_if_success (with_reducible show wpAny _ _ (pyIter (Value.ref _)) _ _ _)); (fail_if_success (show LCg.CompSrc _ _ _ _ _ _ _ _ _ _ _ _ _ _)); first | (k_unfold; (try dsimp only)) | (k_end; wrow_close) | walk1 | (dsimp only; walk1) | (leave1; (try dsimp only)))))))
      rename News _ _ _ _ => N9
      rename Fr _ _ _ _ => F9
      refine TurnH.intro F9 ⟨⟨oI, (N9 (I, oI) (by k_mem)).1, hIr⟩, stays_list F9.keep hl⟩ ⟨p, _, _, _, fun q hq => by rw [List.mem_singleton.mp hq]; exact N9 _ (by k_mem), by (((simp only [← Mine.mset_at]); rfl)), hpI, ?_⟩
      rw [hfl, Array.toList_append]
      exact ⟨_, ra_append hR (.cons hd2 .nil)⟩
    | node k' us =>
      rw [Tr.dt] at hd2
      obtain ⟨x, tv, vs, bs', rfl, hx, hvs⟩ := reads_head hg hd2
      have hvl : vs.length = us.length := by rw [SeqAt.ReadsAll.length _ _ _ hvs, dts_length]
      have hul : 0 < us.length := node_pos hTok
      have hub : us.length ≤ 100000 := by rw [Tr.wt] at hTw; have := wts_len us; omega
      have hvb : vs.length ≤ 100000 := by omega
      (repeat' (((first | ((fail_if_success (with_reducible show wpAny _ _ (exec (Stmt.While _ _ _ _) _) _ _ _)); (fail_if_success (with_reducible show wpAny _ _ (exec (Stmt.For _ _ _ _ _) _) _ _ _)); (fail_if_success (with_reducible show wpAny _ _ (eval (PySem.Expr.ListComp _ _ _ _) _) _ _ _)); (fail_if_success (with_reducible show wpAny _ _ (exec (PySem.Stmt.Assign _ (PySem.Expr.ListComp _ _ _ _) _) _) _ _ _)); (fail_if_success (with_reducible show wpAny _ _ (call (Value.ref _) _) _ _ _)); (fail_if_success (with_reducible show wpAny _ _ (pyIter (Value.ref _)) _ _ _)); (fail_if_success (show LCg.CompSrc _ _ _ _ _ _ _ _ _ _ _ _ _ _)); first | (k_unfold; (try dsimp only)) | (k_end; wrow_close) | walk1 | (dsimp only; walk1) | (leave1; (try dsimp only)))))))
      · rename (kdS k' == kdS kd) = true => hk
        have hkk : kd = k' := (kdS_inj (eq_of_beq hk)).symm
        rename News _ _ _ _ => N9
        rename Fr _ _ _ _ => F9
        refine TurnH.intro F9 ⟨⟨oI, (N9 (I, oI) (by k_mem)).1, hIr⟩, stays_list F9.keep hl⟩ ⟨p, _, _, _, fun q hq => by rw [List.mem_singleton.mp hq]; exact N9 _ (by k_mem), by (((simp only [← Mine.mset_at]); rfl)), hpI, ?_⟩
        rw [hfl, Array.toList_append, flat, if_pos hkk]
        exact ⟨_, ra_append hR hvs⟩
      · rename (kdS k' == kdS kd) = false => hk
        have hkk : ¬ kd = k' := fun e => by rw [e] at hk; simp at hk
        rename News _ _ _ _ => N9
        rename Fr _ _ _ _ => F9
        refine TurnH.intro F9 ⟨⟨oI, (N9 (I, oI) (by k_mem)).1, hIr⟩, stays_list F9.keep hl⟩ ⟨p, _, _, _, fun q hq => by rw [List.mem_singleton.mp hq]; exact N9 _ (by k_mem), by (((simp only [← Mine.mset_at]); rfl)), hpI, ?_⟩
        rw [hfl, Array.toList_append, flat, if_neg hkk]
        exact ⟨_, ra_append hR (.cons hd2 .nil)⟩
  · rintro I m₁ h tk ⟨p, its, k, ex, N₁, rfl, hpI, as', hR⟩ F₁
    have hsz' : (dts (ts.flatMap (flat kd))).length ≤ 1000000 := by
      rw [dts_length]
      exact Nat.le_trans (wts_len _) (Nat.le_trans (flats_wt _ _) (Nat.le_trans hsz (by decide)))
    rw [hn, dts_length, List.take_length] at hR
    (repeat' (((first | ((fail_if_success (with_reducible show wpAny _ _ (exec (Stmt.While _ _ _ _) _) _ _ _)); (fail_if_success (with_reducible show wpAny _ _ (exec (Stmt.For _ _ _ _ _) _) _ _ _)); (fail_if_success (with_reducible show wpAny _ _ (eval (PySem.Expr.ListComp _ _ _ _) _) _ _ _)); (fail_if_success (with_reducible show wpAny _ _ (exec (PySem.Stmt.Assign _ (PySem.Expr.ListComp _ _ _ _) _) _) _ _ _)); (fail_if_success (with_reducible show wpAny _ _ (call (Value.ref _) _) _ _ _)); (fail_if_success (with_reducible show wpAny _ _ (pyIter (Value.ref _)) _ _ _)); (fail_if_success (show LCg.CompSrc _ _ _ _ _ _ _ _ _ _ _ _ _ _)); first | (k_unfold; (try dsimp only)) | (k_end; wrow_close) | walk1 | (dsimp only; walk1) | (leave1; (try dsimp only)))))))
    refine' Mine.call_at (by assumption) (by assumption) N₁ (by rfl) (by rfl) (fun BB => Mine.law_one (g := g) ?X ?T BB ?hd ?hu ?hg ?hl hR hsz') ?_
    case X => (first | (with_reducible assumption) | exact Frag.In.keeps (by assumption) (Fr.keep (by assumption)) | exact ⟨_, _, _, Top.keeps (by assumption) (Fr.keep (by assumption))⟩)
    case T => (first | (with_reducible assumption) | exact Frag.In.keeps (by assumption) (Fr.keep (by assumption)) | exact ⟨_, _, _, Top.keeps (by assumption) (Fr.keep (by assumption))⟩)
    case hd => exact Mine.room1 (by assumption) rfl
    case hu => exact Mine.room3 (by assumption) rfl
    case hg => exact fun b o e => F₁.keep b o (hg b o e)
    case hl => walk_at "my_list"
    intro v h' tk' F' N' st hv
    (repeat' (((first | ((fail_if_success (with_reducible show wpAny _ _ (exec (Stmt.While _ _ _ _) _) _ _ _)); (fail_if_success (with_reducible show wpAny _ _ (exec (Stmt.For _ _ _ _ _) _) _ _ _)); (fail_if_success (with_reducible show wpAny _ _ (eval (PySem.Expr.ListComp _ _ _ _) _) _ _ _)); (fail_if_success (with_reducible show wpAny _ _ (exec (PySem.Stmt.Assign _ (PySem.Expr.ListComp _ _ _ _) _) _) _ _ _)); (fail_if_success (with_reducible show wpAny _ _ (call (Value.ref _) _) _ _ _)); (fail_if_success (with_reducible show wpAny _ _ (pyIter (Value.ref _)) _ _ _)); (fail_if_success (show LCg.CompSrc _ _ _ _ _ _ _ _ _ _ _ _ _ _)); first | (k_unfold; (try dsimp only)) | (k_end; wrow_close) | walk1 | (dsimp only; walk1) | (leave1; (try dsimp only)))))))
    (((try k_unfold); (try dsimp only); refine Mine.ret_of (Fr.keep (by assumption)) ?_ rfl))
    rw [rowT_dt, ← oneS_eq]
    exact hv.before (fun b o e => F₁.keep b o e)
theorem law_rowL {w : World} {dp un : Nat} {outer : List Env} {gd : Option (List Code)} {base g g₀ : Heap} {s : Shared} {kd : Kd} {tx : Tok} {a : Addr} {ys : List Value} {ts : List Tr} {as : List Addr}
   (X : (Mine.hd.heap_39 w.params).In s.heap) (T' : TopH s.heap) (B : Below (AA dp outer gd un) base outer s.heap) (hd : dp + 20 < recursionLimit) (hu : un + 200 < cLine)
   (hg : g.StaysIn s.heap) (hgg : g₀.StaysIn g) (hr : ReadsAll g₀ ys (dts ts) as) (hl : s.heap.IsList a ys.toArray) (hsz : wts ts ≤ 10000) (hok : oks ts) :
   codeAny (model P w) (AA dp outer gd un) (.call (.ref 103) ⟨[.str (kdS kd) tx, .ref a], []⟩) (Ret s fun v h' => Made g s.heap h' v (rowT kd ts).dt) s :=
  law_row X T' B hd hu hg hl (ReadsAll.keeps hgg hr) (by omega) hok

section
def inK (K : Str) (k : Kd) : Bool := !(Builtin.Str.occurrences K (kdS k) 0 K.length 1).isEmpty
def shutT (f : Kd → Bool) : Tr → Tr
  | .word w => .word w
  | .node k us => if f k then .node .c [.node k us] else .node k us
theorem reads_node {g h : Heap} {v : Value} {T : Tr} {as : List Addr} (hg : g.StaysIn h) (r : Reads g v (nodeD T) as) : ∃ a vt t bs, v = .ref a ∧ h.IsList a #[vt, .str (nmS T) t] ∧ Reads g vt T.dt bs := by
  obtain ⟨a, vs, as', rfl, h1, h2⟩ := reads_list hg r
  obtain ⟨vs⟩ := vs
  cases h2 with
  | cons r1 r2 =>
    cases r2 with
    | cons r3 r4 =>
      cases r4
      obtain ⟨t, rfl⟩ := reads_str r3
      exact ⟨a, _, t, _, rfl, h1, r1⟩
theorem law_shut {w : World} {dp un : Nat} {outer : List Env} {gd : Option (List Code)} {base g : Heap} {s : Shared} {K : Str} {tK : Tok} {v : Value} {T : Tr} {as : List Addr}
   (X : (Mine.hd.heap_39 w.params).In s.heap) (T' : TopH s.heap) (B : Below (AA dp outer gd un) base outer s.heap) (hd : dp + 20 < recursionLimit) (hu : un + 200 < cLine)
   (hg : g.StaysIn s.heap) (hr : Reads g v (nodeD T) as) (hsz : T.wt ≤ 10000) :
   codeAny (model P w) (AA dp outer gd un) (.call (.ref 89) ⟨[v, .str K tK], []⟩) (Ret s fun v h' => Made g s.heap h' v (nodeD (shutT (inK K) T))) s := by
  obtain ⟨a, vt, tn, bs, rfl, hla, hrt⟩ := reads_node hg hr
  refine' Mine.enter (binds := [(Str.ofString "node", .ref a), (Str.ofString "kinds", .str K tK)]) (by with_reducible assumption) (by assumption) ?k6 ?k7 ?k8 ?k9 ?kB ?_ ?c2 ?c3 ?c4 ?c5
  (((case k6 => k_is); (case k7 => k_is); (case k8 => exact Mine.room0 (by assumption)); (case k9 => exact BindsTo.of_eq rfl); (case kB => exact locs rfl); (case c5 => decide); (case c2 => rfl); (case c3 => rfl); (case c4 => rfl); intro L'q245 h₁q245 meanq245 mgq245 mbq245 Fq245 Nq245 T'q245; dsimp only [List.reverse, List.reverseAux, List.length] at Fq245 ⊢; k_fold))
  cases T with
  | word wd =>
    rw [Tr.dt] at hrt
    obtain ⟨tv, rfl⟩ := reads_str hrt
    (repeat' (((first | ((fail_if_success (with_reducible show wpAny _ _ (exec (Stmt.While _ _ _ _) _) _ _ _)); (fail_if_success (with_reducible show wpAny _ _ (exec (Stmt.For _ _ _ _ _) _) _ _ _)); (fail_if_success (with_reducible show wpAny _ _ (eval (PySem.Expr.ListComp _ _ _ _) _) _ _ _)); (fail_if_success (with_reducible show wpAny _ _ (exec (PySem.Stmt.Assign _ (PySem.Expr.ListComp _ _ _ _) _) _) _ _ _)); (fail_if_success (with_reducible show wpAny _ _ (call (Value.ref _) _) _ _ _)); (fail_if_success (with_reducible show wpAny _ _ (pyIter (Value.ref _)) _ _ _)); (fail_if_success (show LCg.CompSrc _ _ _ _ _ _ _ _ _ _ _ _ _ _)); first | (k_unfold; (try dsimp only)) | (k_end; wrow_close) | walk1 | (dsimp only; walk1) | (leave1; (try dsimp only)))))))
    (((try k_unfold); (try dsimp only); refine Mine.ret_of (Fr.keep (by assumption)) ?_ rfl))
    exact made_old hr
  | node k us =>
    rw [Tr.dt] at hrt
    obtain ⟨x, tv, vs, bs', rfl, hx, hvs⟩ := reads_head hg hrt
    have hnl := nmS_le (.node k us)
    have hrt' : Reads g (.ref x) (Tr.dt (.node k us)) bs := by rw [Tr.dt]; exact hrt
    (repeat' (((first | ((fail_if_success (with_reducible show wpAny _ _ (exec (Stmt.While _ _ _ _) _) _ _ _)); (fail_if_success (with_reducible show wpAny _ _ (exec (Stmt.For _ _ _ _ _) _) _ _ _)); (fail_if_success (with_reducible show wpAny _ _ (eval (PySem.Expr.ListComp _ _ _ _) _) _ _ _)); (fail_if_success (with_reducible show wpAny _ _ (exec (PySem.Stmt.Assign _ (PySem.Expr.ListComp _ _ _ _) _) _) _ _ _)); (fail_if_success (with_reducible show wpAny _ _ (call (Value.ref _) _) _ _ _)); (fail_if_success (with_reducible show wpAny _ _ (pyIter (Value.ref _)) _ _ _)); (fail_if_success (show LCg.CompSrc _ _ _ _ _ _ _ _ _ _ _ _ _ _)); first | (k_unfold; (try dsimp only)) | (k_end; wrow_close) | walk1 | (dsimp only; walk1) | (leave1; (try dsimp only)))))))
    · rename List.isEmpty _ = true => hE
      (((try k_unfold); (try dsimp only); refine Mine.ret_of (Fr.keep (by assumption)) ?_ rfl))
      have hf : shutT (inK K) (.node k us) = .node k us := by rw [shutT, inK, hE]; rfl
      rw [hf]
      exact made_old hr
    · rename List.isEmpty _ = false => hE
      ((refine' Mine.call_at (by assumption) (by assumption) (by assumption) (by rfl) (by rfl) (fun BB => Mine.law_name_D ?Xq252 ?Tq252 BB ?hdq252 ?huq252 ?hl0q252 ?hmq252 ?hddq252 ?hlq252 ?hiq252 ?hneq252 ?hwq252) ?_; (case Xq252 => (first | (with_reducible assumption) | exact Frag.In.keeps (by assumption) (Fr.keep (by assumption)) | exact ⟨_, _, _, Top.keeps (by assumption) (Fr.keep (by assumption))⟩)); (case Tq252 => (first | (with_reducible assumption) | exact Frag.In.keeps (by assumption) (Fr.keep (by assumption)) | exact ⟨_, _, _, Top.keeps (by assumption) (Fr.keep (by assumption))⟩)); (case hdq252 => exact Mine.room1 (by assumption) rfl); (case huq252 => exact Mine.room3 (by assumption) rfl); (case hl0q252 => (first | assumption | exact Or.inl (News.isList (by assumption) (by k_mem)) | exact Or.inr (News.isTup (by assumption) (by k_mem)) | exact Mine.Empty.keeps (Fr.keep (by assumption)) (by assumption) | exact Mine.Empty.keeps (Fr.keep (by assumption)) (Mine.Empty.keeps (Fr.keep (by assumption)) (by assumption)))); (case hmq252 => first | assumption | exact Mine.Hidden.none | exact Mine.Hidden.sup); (case hddq252 => first | assumption | exact Mine.Hidden.none | exact Mine.Hidden.sup); (case hlq252 => walk_at "my_list"); (case hiq252 => first | assumption | exact StrsAre.cons _ _ StrsAre.nil); (case hneq252 => first | assumption | simp); (case hwq252 => first | assumption | (simp; omega) | (simp [PySem.Str.length]; omega)); (rintro v2q252 h2q252 tk2q252 F2q252 N2q252 st2q252 ⟨t2q252, hv2q252⟩); subst hv2q252))
      (repeat' (((first | ((fail_if_success (with_reducible show wpAny _ _ (exec (Stmt.While _ _ _ _) _) _ _ _)); (fail_if_success (with_reducible show wpAny _ _ (exec (Stmt.For _ _ _ _ _) _) _ _ _)); (fail_if_success (with_reducible show wpAny _ _ (eval (PySem.Expr.ListComp _ _ _ _) _) _ _ _)); (fail_if_success (with_reducible show wpAny _ _ (exec (PySem.Stmt.Assign _ (PySem.Expr.ListComp _ _ _ _) _) _) _ _ _)); (fail_if_success (with_reducible show wpAny _ _ (call (Value.ref _) _) _ _ _)); (fail_if_success (with_reducible show wpAny _ _ (pyIter (Value.ref _)) _ _ _)); (fail_if_success (show LCg.CompSrc _ _ _ _ _ _ _ _ _ _ _ _ _ _)); first | (k_unfold; (try dsimp only)) | (k_end; wrow_close) | walk1 | (dsimp only; walk1) | (leave1; (try dsimp only)))))))
      (((try k_unfold); (try dsimp only); refine Mine.ret_of (Fr.keep (by assumption)) ?_ rfl))
      have hf : shutT (inK K) (.node k us) = .node .c [.node k us] := by rw [shutT, inK, hE]; rfl
      rw [hf]
      rename News _ _ _ _ => N9
      refine made_of N9 (rv_list (by k_mem) ?_)
      refine .cons (rv_list (by k_mem) (.cons (.str _ _) (.cons (.old hrt') .nil))) (.cons ?_ .nil)
      rw [nmS_c]
      exact .str _ _
theorem shutT_wt (f : Kd → Bool) (T : Tr) : (shutT f T).wt ≤ 1 + T.wt := by
  cases T with
  | word w => rw [shutT]; omega
  | node k us => rw [shutT]; split <;> (rw [Tr.wt]; try rw [wts, wts]) <;> omega
theorem shutT_ok (f : Kd → Bool) {T : Tr} (h : T.ok) : (shutT f T).ok := by
  cases T with
  | word w => rw [shutT]; exact h
  | node k us =>
    rw [shutT]; split
    · rw [Tr.ok]; exact ⟨oks_of fun t ht => by rw [List.mem_singleton.mp ht]; exact h, by simp [okK]⟩
    · exact h
theorem shutT_kind {f : Kd → Bool} {T : Tr} {k : Kd} (hk : f k = true) (hc : k ≠ .c) : isK k (shutT f T) = false := by
  cases T with
  | word w => rw [shutT]; rfl
  | node k' us =>
    rw [shutT]; split
    · simp [isK, hc]
    · rename_i e
      simp only [isK, beq_eq_false_iff_ne]
      rintro rfl
      exact e hk
theorem inK_ot_o : inK "ot" .o = true := by decide +kernel
theorem inK_ot_t : inK "ot" .t = true := by decide +kernel
theorem inK_t_t : inK "t" .t = true := by decide +kernel

section
section
theorem dts_take_succ {ts : List Tr} {i : Nat} {T : Tr} (h : ts[i]? = some T) : dts (ts.take (i + 1)) = dts (ts.take i) ++ [T.dt] := by
  rw [List.take_add_one, h, dts_append]; rfl
theorem nms_take_succ {ts : List Tr} {i : Nat} {T : Tr} (h : ts[i]? = some T) : (ts.take (i + 1)).map nmS = (ts.take i).map nmS ++ [nmS T] := by
  rw [List.take_add_one, h, List.map_append]; rfl
theorem made_pair {g h₀ h' : Heap} {L l : Addr} {v : Value} {news : List (Addr × Obj)} {y : Str} {u : Tok} {n : Nat} {T : Tr} (N : News h₀ L h' news) (hm : (l, W.listOf #[v, .str y u] n) ∈ news) (ht : ReadsVia g news v T.dt) (hy : y = nmS T) : Made g h₀ h' (.ref l) (nodeD T) := by
  subst hy
  exact made_of N (rv_list hm (.cons ht (.cons (.str _ _) .nil)))
theorem rv_kind {g : Heap} {news : List (Addr × Obj)} {k : Kd} {v : Value} {ts : List Tr} (h : ReadsVia g news v (.list (.str (kdS k) :: dts ts))) : ReadsVia g news v (Tr.dt (.node k ts)) := by
  rw [Tr.dt]; exact h
theorem nodes_at {g h : Heap} {items : List Value} {ts : List Tr} {as : List Addr} {i : Nat} {v : Value} (hg : g.StaysIn h) (hr : ReadsAll g items (ts.map nodeD) as) (hv : items[i]? = some v) :
    ∃ T x vt t bs, ts[i]? = some T ∧ v = .ref x ∧ h.IsList x #[vt, .str (nmS T) t] ∧ Reads g vt T.dt bs := by
  obtain ⟨d, bs, h1, h2⟩ := ra_at i v hr hv
  rw [List.getElem?_map] at h1
  cases hT : ts[i]? with
  | none => rw [hT] at h1; cases h1
  | some T =>
    rw [hT] at h1
    have : nodeD T = d := by simpa using h1
    subst this
    obtain ⟨x, vt, t, bs', rfl, h3, h4⟩ := reads_node hg h2
    exact ⟨T, x, vt, t, bs', rfl, rfl, h3, h4⟩
theorem law_over2 {w : World} {dp un : Nat} {outer : List Env} {gd : Option (List Code)} {base g : Heap} {s : Shared} {a : Addr} {tk tq : Tok} {q : Int} {items : Array Value} {ts : List Tr} {as : List Addr}
   (X : (Mine.hd.heap_39 w.params).In s.heap) (T' : TopH s.heap) (B : Below (AA dp outer gd un) base outer s.heap) (hd : dp + 40 < recursionLimit) (hu : un + 400 < cLine)
   (hg : g.StaysIn s.heap) (hl : s.heap.IsList a items) (hr : ReadsAll g items.toList (ts.map nodeD) as) (hsz : wts ts ≤ 10000) (hok : oks ts) (hne : ts ≠ []) :
   codeAny (model P w) (AA dp outer gd un) (.call (.ref 108) ⟨[.ref a, .int 2 tk, .int q tq], []⟩) (Ret s fun v h' => Made g s.heap h' v (nodeD (.node .c ts))) s := by
  have hn : items.size = ts.length := by rw [ra_size hr, List.length_map]
  have htl := wts_len ts
  refine' Mine.enter (binds := [(Str.ofString "nodes", .ref a), (Str.ofString "kind", .int 2 tk), (Str.ofString "q", .int q tq)]) (by with_reducible assumption) (by assumption) ?k6 ?k7 ?k8 ?k9 ?kB ?_ ?c2 ?c3 ?c4 ?c5
  (((case k6 => k_is); (case k7 => k_is); (case k8 => exact Mine.room0 (by assumption)); (case k9 => exact BindsTo.of_eq rfl); (case kB => exact locs rfl); (case c5 => decide); (case c2 => rfl); (case c3 => rfl); (case c4 => rfl); intro L'q259 h₁q259 meanq259 mgq259 mbq259 Fq259 Nq259 T'q259; dsimp only [List.reverse, List.reverseAux, List.length] at Fq259 ⊢; k_fold))
  (repeat' (((first | ((fail_if_success (with_reducible show wpAny _ _ (exec (Stmt.While _ _ _ _) _) _ _ _)); (fail_if_success (with_reducible show wpAny _ _ (exec (Stmt.For _ _ _ _ _) _) _ _ _)); (fail_if_success (with_reducible show wpAny _ _ (eval (PySem.Expr.ListComp _ _ _ _) _) _ _ _)); (fail_if_success (with_reducible show wpAny _ _ (exec (PySem.Stmt.Assign _ (PySem.Expr.ListComp _ _ _ _) _) _) _ _ _)); (fail_if_success (with_reducible show wpAny _ _ (call (Value.ref _) _) _ _ _)); (fail_if_success (with_reducible show wpAny _ _ (pyIter (Value.ref _)) _ _ _)); (fail_if_success (show LCg.CompSrc _ _ _ _ _ _ _ _ _ _ _ _ _ _)); first | (k_unfold; (try dsimp only)) | (k_end; wrow_close) | walk1 | (dsimp only; walk1) | (leave1; (try dsimp only)))))))
  (k_dflt (refine LCg.Assign_ListComp_U (F₀ := by k_asm) (by rfl) (by with_unfolding_all rfl) (by with_unfolding_all rfl) (by decide) (by rfl) (by decide) (by rfl) (by rfl) (by rfl) ?_))
  (repeat' (((first | ((fail_if_success (with_reducible show wpAny _ _ (exec (Stmt.While _ _ _ _) _) _ _ _)); (fail_if_success (with_reducible show wpAny _ _ (exec (Stmt.For _ _ _ _ _) _) _ _ _)); (fail_if_success (with_reducible show wpAny _ _ (eval (PySem.Expr.ListComp _ _ _ _) _) _ _ _)); (fail_if_success (with_reducible show wpAny _ _ (exec (PySem.Stmt.Assign _ (PySem.Expr.ListComp _ _ _ _) _) _) _ _ _)); (fail_if_success (with_reducible show wpAny _ _ (call (Value.ref _) _) _ _ _)); (fail_if_success (with_reducible show wpAny _ _ (pyIter (Value.ref _)) _ _ _)); (fail_if_success (show LCg.CompSrc _ _ _ _ _ _ _ _ _ _ _ _ _ _)); first | (k_unfold; (try dsimp only)) | (k_end; wrow_close) | walk1 | (dsimp only; walk1) | (leave1; (try dsimp only)))))))
  refine comp_src (act := []) (Z₀ := []) (fun i ys Z => Z = [] ∧ ∃ as, ReadsAll g ys (dts (ts.take i)) as) (by rfl) (by assumption) (by assumption) (.inl hl) (by omega) ⟨rfl, _, .nil⟩ ?_ ?_
  · rintro g' i v I oI C oC D m₂ ys Z h tk' E' hv hC hx F N off ne ⟨rfl, as', hys⟩
    obtain ⟨T, x, vt, t, bs, hT, rfl, hxl, hrt⟩ := nodes_at hg hr (by rw [Array.getElem?_toList]; exact hv)
    (repeat' (((first | ((fail_if_success (with_reducible show wpAny _ _ (exec (Stmt.While _ _ _ _) _) _ _ _)); (fail_if_success (with_reducible show wpAny _ _ (exec (Stmt.For _ _ _ _ _) _) _ _ _)); (fail_if_success (with_reducible show wpAny _ _ (eval (PySem.Expr.ListComp _ _ _ _) _) _ _ _)); (fail_if_success (with_reducible show wpAny _ _ (exec (PySem.Stmt.Assign _ (PySem.Expr.ListComp _ _ _ _) _) _) _ _ _)); (fail_if_success (with_reducible show wpAny _ _ (call (Value.ref _) _) _ _ _)); (fail_if_success (with_reducible show wpAny _ _ (pyIter (Value.ref _)) _ _ _)); (fail_if_success (show LCg.CompSrc _ _ _ _ _ _ _ _ _ _ _ _ _ _)); first | (k_unfold; (try dsimp only)) | (k_end; wrow_close) | walk1 | (dsimp only; walk1) | (leave1; (try dsimp only)))))))
    refine CTurn.intro F N [] (fun p hp => hp) (fun p hp => nomatch hp) ⟨rfl, ?_⟩
    rw [dts_take_succ hT]
    exact ⟨_, ra_append hys (.cons hrt .nil)⟩
  · rintro g' ys Z hlen ⟨rfl, as', hys⟩
    rw [hn, List.take_length] at hys
    (repeat' (((first | ((fail_if_success (with_reducible show wpAny _ _ (exec (Stmt.While _ _ _ _) _) _ _ _)); (fail_if_success (with_reducible show wpAny _ _ (exec (Stmt.For _ _ _ _ _) _) _ _ _)); (fail_if_success (with_reducible show wpAny _ _ (eval (PySem.Expr.ListComp _ _ _ _) _) _ _ _)); (fail_if_success (with_reducible show wpAny _ _ (exec (PySem.Stmt.Assign _ (PySem.Expr.ListComp _ _ _ _) _) _) _ _ _)); (fail_if_success (with_reducible show wpAny _ _ (call (Value.ref _) _) _ _ _)); (fail_if_success (with_reducible show wpAny _ _ (pyIter (Value.ref _)) _ _ _)); (fail_if_success (show LCg.CompSrc _ _ _ _ _ _ _ _ _ _ _ _ _ _)); first | (k_unfold; (try dsimp only)) | (k_end; wrow_close) | walk1 | (dsimp only; walk1) | (leave1; (try dsimp only)))))))
    (k_dflt (refine LCg.Assign_ListComp_U (F₀ := by k_asm) (by rfl) (by with_unfolding_all rfl) (by with_unfolding_all rfl) (by decide) (by rfl) (by decide) (by rfl) (by rfl) (by rfl) ?_))
    (repeat' (((first | ((fail_if_success (with_reducible show wpAny _ _ (exec (Stmt.While _ _ _ _) _) _ _ _)); (fail_if_success (with_reducible show wpAny _ _ (exec (Stmt.For _ _ _ _ _) _) _ _ _)); (fail_if_success (with_reducible show wpAny _ _ (eval (PySem.Expr.ListComp _ _ _ _) _) _ _ _)); (fail_if_success (with_reducible show wpAny _ _ (exec (PySem.Stmt.Assign _ (PySem.Expr.ListComp _ _ _ _) _) _) _ _ _)); (fail_if_success (with_reducible show wpAny _ _ (call (Value.ref _) _) _ _ _)); (fail_if_success (with_reducible show wpAny _ _ (pyIter (Value.ref _)) _ _ _)); (fail_if_success (show LCg.CompSrc _ _ _ _ _ _ _ _ _ _ _ _ _ _)); first | (k_unfold; (try dsimp only)) | (k_end; wrow_close) | walk1 | (dsimp only; walk1) | (leave1; (try dsimp only)))))))
    refine comp_src (act := [_]) (Z₀ := []) (fun i ys Z => Z = [] ∧ StrsAre ys ((ts.take i).map nmS)) (by rfl) (by assumption) (by assumption) (.inl hl) (by omega) ⟨rfl, .nil⟩ ?_ ?_
    · rintro g' i v I oI C oC D m₂ ys Z h tk' E' hv hC hx F N off ne ⟨rfl, hys2⟩
      obtain ⟨T, x, vt, t, bs, hT, rfl, hxl, hrt⟩ := nodes_at hg hr (by rw [Array.getElem?_toList]; exact hv)
      (repeat' (((first | ((fail_if_success (with_reducible show wpAny _ _ (exec (Stmt.While _ _ _ _) _) _ _ _)); (fail_if_success (with_reducible show wpAny _ _ (exec (Stmt.For _ _ _ _ _) _) _ _ _)); (fail_if_success (with_reducible show wpAny _ _ (eval (PySem.Expr.ListComp _ _ _ _) _) _ _ _)); (fail_if_success (with_reducible show wpAny _ _ (exec (PySem.Stmt.Assign _ (PySem.Expr.ListComp _ _ _ _) _) _) _ _ _)); (fail_if_success (with_reducible show wpAny _ _ (call (Value.ref _) _) _ _ _)); (fail_if_success (with_reducible show wpAny _ _ (pyIter (Value.ref _)) _ _ _)); (fail_if_success (show LCg.CompSrc _ _ _ _ _ _ _ _ _ _ _ _ _ _)); first | (k_unfold; (try dsimp only)) | (k_end; wrow_close) | walk1 | (dsimp only; walk1) | (leave1; (try dsimp only)))))))
      refine CTurn.intro F N [] (fun p hp => hp) (fun p hp => nomatch hp) ⟨rfl, ?_⟩
      rw [nms_take_succ hT]
      exact Mine.StrsAre.snoc hys2 _ _
    · rintro g' ys2 Z hlen2 ⟨rfl, hys2⟩
      rw [hn, List.take_length] at hys2
      (repeat' (first | ((((with_reducible show wpAny _ _ (subscriptTail _ _ (Value.ref _) (Value.int _ _)) _ _ _); refine Mine.item_hidden (by walk_at "my_list") (Int.fmod_nonneg_of_pos _ (by decide)) (Int.fmod_lt_of_pos _ (by decide)) ?_; intro v8q275 hv8q275))) | (((first | ((fail_if_success (with_reducible show wpAny _ _ (exec (Stmt.While _ _ _ _) _) _ _ _)); (fail_if_success (with_reducible show wpAny _ _ (exec (Stmt.For _ _ _ _ _) _) _ _ _)); (fail_if_success (with_reducible show wpAny _ _ (eval (PySem.Expr.ListComp _ _ _ _) _) _ _ _)); (fail_if_success (with_reducible show wpAny _ _ (exec (PySem.Stmt.Assign _ (PySem.Expr.ListComp _ _ _ _) _) _) _ _ _)); (fail_if_success (with_reducible show wpAny _ _ (call (Value.ref _) _) _ _ _)); (fail_if_success (with_reducible show wpAny _ _ (pyIter (Value.ref _)) _ _ _)); (fail_if_success (show LCg.CompSrc _ _ _ _ _ _ _ _ _ _ _ _ _ _)); first | (k_unfold; (try dsimp only)) | (k_end; wrow_close) | walk1 | (dsimp only; walk1) | (leave1; (try dsimp only))))))))
      have hne2 := nmS_ne hne
      have hw2 := nmS_hw hsz
      ((refine' Mine.call_at (by assumption) (by assumption) (by assumption) (by rfl) (by rfl) (fun BB => Mine.law_name_D ?Xq277 ?Tq277 BB ?hdq277 ?huq277 ?hl0q277 ?hmq277 ?hddq277 ?hlq277 ?hiq277 ?hneq277 ?hwq277) ?_; (case Xq277 => (first | (with_reducible assumption) | exact Frag.In.keeps (by assumption) (Fr.keep (by assumption)) | exact ⟨_, _, _, Top.keeps (by assumption) (Fr.keep (by assumption))⟩)); (case Tq277 => (first | (with_reducible assumption) | exact Frag.In.keeps (by assumption) (Fr.keep (by assumption)) | exact ⟨_, _, _, Top.keeps (by assumption) (Fr.keep (by assumption))⟩)); (case hdq277 => exact Mine.room1 (by assumption) rfl); (case huq277 => exact Mine.room3 (by assumption) rfl); (case hl0q277 => (first | assumption | exact Or.inl (News.isList (by assumption) (by k_mem)) | exact Or.inr (News.isTup (by assumption) (by k_mem)) | exact Mine.Empty.keeps (Fr.keep (by assumption)) (by assumption) | exact Mine.Empty.keeps (Fr.keep (by assumption)) (Mine.Empty.keeps (Fr.keep (by assumption)) (by assumption)))); (case hmq277 => first | assumption | exact Mine.Hidden.none | exact Mine.Hidden.sup); (case hddq277 => first | assumption | exact Mine.Hidden.none | exact Mine.Hidden.sup); (case hlq277 => walk_at "my_list"); (case hiq277 => first | assumption | exact StrsAre.cons _ _ StrsAre.nil); (case hneq277 => first | assumption | simp); (case hwq277 => first | assumption | (simp; omega) | (simp [PySem.Str.length]; omega)); (rintro v2q277 h2q277 tk2q277 F2q277 N2q277 st2q277 ⟨t2q277, hv2q277⟩); subst hv2q277))
      (repeat' (((first | ((fail_if_success (with_reducible show wpAny _ _ (exec (Stmt.While _ _ _ _) _) _ _ _)); (fail_if_success (with_reducible show wpAny _ _ (exec (Stmt.For _ _ _ _ _) _) _ _ _)); (fail_if_success (with_reducible show wpAny _ _ (eval (PySem.Expr.ListComp _ _ _ _) _) _ _ _)); (fail_if_success (with_reducible show wpAny _ _ (exec (PySem.Stmt.Assign _ (PySem.Expr.ListComp _ _ _ _) _) _) _ _ _)); (fail_if_success (with_reducible show wpAny _ _ (call (Value.ref _) _) _ _ _)); (fail_if_success (with_reducible show wpAny _ _ (pyIter (Value.ref _)) _ _ _)); (fail_if_success (show LCg.CompSrc _ _ _ _ _ _ _ _ _ _ _ _ _ _)); first | (k_unfold; (try dsimp only)) | (k_end; wrow_close) | walk1 | (dsimp only; walk1) | (leave1; (try dsimp only)))))))
      (((try k_unfold); (try dsimp only); refine Mine.ret_of (Fr.keep (by assumption)) ?_ rfl))
      rename News _ _ _ _ => N9
      exact made_pair N9 (by k_mem) (rv_kind (ReadsVia.list (by k_mem) (.cons (.str _ _) (rva_old hys)))) (nmS_c ts).symm

end
section
theorem nodes_via {g h : Heap} {Z : List (Addr × Obj)} {items : List Value} {ts : List Tr} {i : Nat} {v : Value} (k0 : g.StaysIn h) (k : ∀ p ∈ Z, h.get? p.1 = some p.2) (hr : ReadsViaAll g Z items (ts.map nodeD)) (hv : items[i]? = some v) :
    ∃ T x vt t, ts[i]? = some T ∧ v = .ref x ∧ h.IsList x #[vt, .str (nmS T) t] ∧ ReadsVia g Z vt T.dt := by
  obtain ⟨as, ra⟩ := hr (dataHeap h g Z) (dataHeap_base k0) (dataHeap_led k)
  obtain ⟨T, x, vt, t, bs, h1, h2, h3, h4⟩ := nodes_at (dataHeap_in) ra hv
  exact ⟨T, x, vt, t, h1, h2, h3, fun H hg hz => ⟨_, Reads.keeps (dataHeap_out k0 k hg hz) h4⟩⟩
theorem nodes_take_succ {ts : List Tr} {i : Nat} {T : Tr} (h : ts[i]? = some T) : (ts.take (i + 1)).map nodeD = (ts.take i).map nodeD ++ [nodeD T] := by
  rw [List.take_add_one, h, List.map_append]; rfl
theorem rva_more {g : Heap} {news news' : List (Addr × Obj)} {vs : List Value} {ds : List PyData} (r : ReadsViaAll g news vs ds) (hs : ∀ p ∈ news, p ∈ news') : ReadsViaAll g news' vs ds := fun h hk hn => r h hk fun p hp => hn p (hs p hp)
theorem law_row_via {w : World} {dp un : Nat} {outer : List Env} {gd : Option (List Code)} {base g g₀ : Heap} {s : Shared} {kd : Kd} {tx : Tok} {a : Addr} {ys : List Value} {ts : List Tr} {Z : List (Addr × Obj)}
   (X : (Mine.hd.heap_39 w.params).In s.heap) (T' : TopH s.heap) (B : Below (AA dp outer gd un) base outer s.heap) (hd : dp + 20 < recursionLimit) (hu : un + 200 < cLine)
   (hg : g.StaysIn s.heap) (hgg : g₀.StaysIn g) (hZ : ∀ p ∈ Z, g.get? p.1 = some p.2) (hr : ReadsViaAll g₀ Z ys (dts ts)) (hl : s.heap.IsList a ys.toArray) (hsz : wts ts ≤ 100000) (hok : oks ts) :
   codeAny (model P w) (AA dp outer gd un) (.call (.ref 103) ⟨[.str (kdS kd) tx, .ref a], []⟩) (Ret s fun v h' => Made g s.heap h' v (rowT kd ts).dt) s := by
  obtain ⟨as, ra⟩ := hr g hgg hZ
  exact law_row X T' B hd hu hg hl ra hsz hok
theorem wts_shut (f : Kd → Bool) : ∀ ts : List Tr, wts (ts.map (shutT f)) ≤ wts ts + ts.length
  | [] => by simp [wts]
  | t :: ts => by
    have h1 := shutT_wt f t
    have h2 := wts_shut f ts
    rw [List.map_cons, wts, wts, List.length_cons]; omega
theorem oks_shut (f : Kd → Bool) {ts : List Tr} (h : oks ts) : oks (ts.map (shutT f)) := oks_of fun t ht => by
  obtain ⟨u, hu, rfl⟩ := List.mem_map.mp ht
  exact shutT_ok f (oks_all h u hu)
theorem law_over3 {w : World} {dp un : Nat} {outer : List Env} {gd : Option (List Code)} {base g : Heap} {s : Shared} {a : Addr} {tk tq : Tok} {q : Int} {items : Array Value} {ts : List Tr} {as : List Addr}
   (X : (Mine.hd.heap_39 w.params).In s.heap) (T' : TopH s.heap) (B : Below (AA dp outer gd un) base outer s.heap) (hd : dp + 40 < recursionLimit) (hu : un + 400 < cLine)
   (hg : g.StaysIn s.heap) (hl : s.heap.IsList a items) (hr : ReadsAll g items.toList (ts.map nodeD) as) (hsz : wts ts ≤ 5000) (hok : oks ts) (hne : ts ≠ []) :
   codeAny (model P w) (AA dp outer gd un) (.call (.ref 108) ⟨[.ref a, .int 3 tk, .int q tq], []⟩) (Ret s fun v h' => Made g s.heap h' v (nodeD (rowT .o (ts.map (shutT (inK "t")))))) s := by
  have hn : items.size = ts.length := by rw [ra_size hr, List.length_map]
  have htl := wts_len ts
  refine' Mine.enter (binds := [(Str.ofString "nodes", .ref a), (Str.ofString "kind", .int 3 tk), (Str.ofString "q", .int q tq)]) (by with_reducible assumption) (by assumption) ?k6 ?k7 ?k8 ?k9 ?kB ?_ ?c2 ?c3 ?c4 ?c5
  (((case k6 => k_is); (case k7 => k_is); (case k8 => exact Mine.room0 (by assumption)); (case k9 => exact BindsTo.of_eq rfl); (case kB => exact locs rfl); (case c5 => decide); (case c2 => rfl); (case c3 => rfl); (case c4 => rfl); intro L'q284 h₁q284 meanq284 mgq284 mbq284 Fq284 Nq284 T'q284; dsimp only [List.reverse, List.reverseAux, List.length] at Fq284 ⊢; k_fold))
  (repeat' (((first | ((fail_if_success (with_reducible show wpAny _ _ (exec (Stmt.While _ _ _ _) _) _ _ _)); (fail_if_success (with_reducible show wpAny _ _ (exec (Stmt.For _ _ _ _ _) _) _ _ _)); (fail_if_success (with_reducible show wpAny _ _ (eval (PySem.Expr.ListComp _ _ _ _) _) _ _ _)); (fail_if_success (with_reducible show wpAny _ _ (exec (PySem.Stmt.Assign _ (PySem.Expr.ListComp _ _ _ _) _) _) _ _ _)); (fail_if_success (with_reducible show wpAny _ _ (call (Value.ref _) _) _ _ _)); (fail_if_success (with_reducible show wpAny _ _ (pyIter (Value.ref _)) _ _ _)); (fail_if_success (show LCg.CompSrc _ _ _ _ _ _ _ _ _ _ _ _ _ _)); first | (k_unfold; (try dsimp only)) | (k_end; wrow_close) | walk1 | (dsimp only; walk1) | (leave1; (try dsimp only)))))))
  (k_dflt (refine LCg.Assign_ListComp_U (F₀ := by k_asm) (by rfl) (by with_unfolding_all rfl) (by with_unfolding_all rfl) (by decide) (by rfl) (by decide) (by rfl) (by rfl) (by rfl) ?_))
  (repeat' (((first | ((fail_if_success (with_reducible show wpAny _ _ (exec (Stmt.While _ _ _ _) _) _ _ _)); (fail_if_success (with_reducible show wpAny _ _ (exec (Stmt.For _ _ _ _ _) _) _ _ _)); (fail_if_success (with_reducible show wpAny _ _ (eval (PySem.Expr.ListComp _ _ _ _) _) _ _ _)); (fail_if_success (with_reducible show wpAny _ _ (exec (PySem.Stmt.Assign _ (PySem.Expr.ListComp _ _ _ _) _) _) _ _ _)); (fail_if_success (with_reducible show wpAny _ _ (call (Value.ref _) _) _ _ _)); (fail_if_success (with_reducible show wpAny _ _ (pyIter (Value.ref _)) _ _ _)); (fail_if_success (show LCg.CompSrc _ _ _ _ _ _ _ _ _ _ _ _ _ _)); first | (k_unfold; (try dsimp only)) | (k_end; wrow_close) | walk1 | (dsimp only; walk1) | (leave1; (try dsimp only)))))))
  refine comp_src (act := []) (Z₀ := []) (fun i ys Z => ReadsViaAll g Z ys (((ts.map (shutT (inK "t"))).take i).map nodeD)) (by rfl) (by assumption) (by assumption) (.inl hl) (by omega) .nil ?_ ?_
  · intro g' i v I oI C oC D m₂ ys Z h tk' E' hv hC hx F N off ne hys
    obtain ⟨d, bs, h1, h2⟩ := ra_at i v hr (by rw [Array.getElem?_toList]; exact hv)
    obtain ⟨T, hT, rfl⟩ : ∃ T, ts[i]? = some T ∧ nodeD T = d := by
      rw [List.getElem?_map] at h1
      cases hT : ts[i]? with
      | none => rw [hT] at h1; cases h1
      | some T => rw [hT] at h1; exact ⟨T, rfl, by simpa using h1⟩
    have hTw := wt_mem (List.mem_of_getElem? hT)
    (repeat' (((first | ((fail_if_success (with_reducible show wpAny _ _ (exec (Stmt.While _ _ _ _) _) _ _ _)); (fail_if_success (with_reducible show wpAny _ _ (exec (Stmt.For _ _ _ _ _) _) _ _ _)); (fail_if_success (with_reducible show wpAny _ _ (eval (PySem.Expr.ListComp _ _ _ _) _) _ _ _)); (fail_if_success (with_reducible show wpAny _ _ (exec (PySem.Stmt.Assign _ (PySem.Expr.ListComp _ _ _ _) _) _) _ _ _)); (fail_if_success (with_reducible show wpAny _ _ (call (Value.ref _) _) _ _ _)); (fail_if_success (with_reducible show wpAny _ _ (pyIter (Value.ref _)) _ _ _)); (fail_if_success (show LCg.CompSrc _ _ _ _ _ _ _ _ _ _ _ _ _ _)); first | (k_unfold; (try dsimp only)) | (k_end; wrow_close) | walk1 | (dsimp only; walk1) | (leave1; (try dsimp only)))))))
    refine' Mine.call_data (act := [_, _, _]) (Z := Z) (by assumption) F N (by rfl) (by rfl) hg (fun g2 hg2 hgg _ BB => Mine.law_shut ?X1 ?T1 BB ?hd1 ?hu1 hg2 (Reads.keeps hgg h2) ?hsz1) ?_
    case X1 => (first | (with_reducible assumption) | exact Frag.In.keeps (by assumption) (Fr.keep (by assumption)) | exact ⟨_, _, _, Top.keeps (by assumption) (Fr.keep (by assumption))⟩)
    case T1 => (first | (with_reducible assumption) | exact Frag.In.keeps (by assumption) (Fr.keep (by assumption)) | exact ⟨_, _, _, Top.keeps (by assumption) (Fr.keep (by assumption))⟩)
    case hd1 => exact Mine.room1 (by assumption) rfl
    case hu1 => exact Mine.room3 (by assumption) rfl
    case hsz1 => omega
    intro v1 h1' tk1 Y F1 N1 hY st1 hv1
    k_unfold
    dsimp only
    refine CTurn.intro F1 N1 (Z ++ Y) (fun p hp => hp) (fun p hp => (List.mem_append.mp hp).imp id (hY p)) ?_
    rw [nodes_take_succ (by rw [List.getElem?_map, hT]; rfl)]
    exact rva_snoc (rva_more hys fun p hp => List.mem_append_left _ hp) hv1
  · intro g' ys Z hlen hys
    rw [List.take_of_length_le (by rw [List.length_map]; omega)] at hys
    have htl' : (ts.map (shutT (inK "t"))).length = ys.length := by rw [List.length_map]; omega
    have hok' := oks_shut (inK "t") hok
    have hsz' := wts_shut (inK "t") ts
    have hne' : ts.map (shutT (inK "t")) ≠ [] := by simpa using hne
    generalize hts' : ts.map (shutT (inK "t")) = ts' at *
    (repeat' (((first | ((fail_if_success (with_reducible show wpAny _ _ (exec (Stmt.While _ _ _ _) _) _ _ _)); (fail_if_success (with_reducible show wpAny _ _ (exec (Stmt.For _ _ _ _ _) _) _ _ _)); (fail_if_success (with_reducible show wpAny _ _ (eval (PySem.Expr.ListComp _ _ _ _) _) _ _ _)); (fail_if_success (with_reducible show wpAny _ _ (exec (PySem.Stmt.Assign _ (PySem.Expr.ListComp _ _ _ _) _) _) _ _ _)); (fail_if_success (with_reducible show wpAny _ _ (call (Value.ref _) _) _ _ _)); (fail_if_success (with_reducible show wpAny _ _ (pyIter (Value.ref _)) _ _ _)); (fail_if_success (show LCg.CompSrc _ _ _ _ _ _ _ _ _ _ _ _ _ _)); first | (k_unfold; (try dsimp only)) | (k_end; wrow_close) | walk1 | (dsimp only; walk1) | (leave1; (try dsimp only)))))))
    (k_dflt (refine LCg.Assign_ListComp_U (F₀ := by k_asm) (by rfl) (by with_unfolding_all rfl) (by with_unfolding_all rfl) (by decide) (by rfl) (by decide) (by rfl) (by rfl) (by rfl) ?_))
    (repeat' (((first | ((fail_if_success (with_reducible show wpAny _ _ (exec (Stmt.While _ _ _ _) _) _ _ _)); (fail_if_success (with_reducible show wpAny _ _ (exec (Stmt.For _ _ _ _ _) _) _ _ _)); (fail_if_success (with_reducible show wpAny _ _ (eval (PySem.Expr.ListComp _ _ _ _) _) _ _ _)); (fail_if_success (with_reducible show wpAny _ _ (exec (PySem.Stmt.Assign _ (PySem.Expr.ListComp _ _ _ _) _) _) _ _ _)); (fail_if_success (with_reducible show wpAny _ _ (call (Value.ref _) _) _ _ _)); (fail_if_success (with_reducible show wpAny _ _ (pyIter (Value.ref _)) _ _ _)); (fail_if_success (show LCg.CompSrc _ _ _ _ _ _ _ _ _ _ _ _ _ _)); first | (k_unfold; (try dsimp only)) | (k_end; wrow_close) | walk1 | (dsimp only; walk1) | (leave1; (try dsimp only)))))))
    refine comp_src (act := [_]) (Z₀ := Z) (fun i ys Z' => Z' = Z ∧ ReadsViaAll g Z ys (dts (ts'.take i))) (by rfl) (by assumption) (by assumption) (.inr ⟨_, .head _, rfl, _, rfl⟩) (by rw [List.size_toArray]; omega) ⟨rfl, .nil⟩ ?_ ?_
    · rintro g' i v I oI C oC D m₂ ys2 Z2 h tk' E' hv hC hx F N off ne ⟨rfl, hys2⟩
      obtain ⟨T, x, vt, t, hT, rfl, hxl, hrt⟩ := nodes_via (fun b o e => F.keep b o (hg b o e)) (fun p hp => (N p (.tail _ (.tail _ (.tail _ (List.mem_append_right _ hp))))).1) hys (by simpa using hv)
      (repeat' (((first | ((fail_if_success (with_reducible show wpAny _ _ (exec (Stmt.While _ _ _ _) _) _ _ _)); (fail_if_success (with_reducible show wpAny _ _ (exec (Stmt.For _ _ _ _ _) _) _ _ _)); (fail_if_success (with_reducible show wpAny _ _ (eval (PySem.Expr.ListComp _ _ _ _) _) _ _ _)); (fail_if_success (with_reducible show wpAny _ _ (exec (PySem.Stmt.Assign _ (PySem.Expr.ListComp _ _ _ _) _) _) _ _ _)); (fail_if_success (with_reducible show wpAny _ _ (call (Value.ref _) _) _ _ _)); (fail_if_success (with_reducible show wpAny _ _ (pyIter (Value.ref _)) _ _ _)); (fail_if_success (show LCg.CompSrc _ _ _ _ _ _ _ _ _ _ _ _ _ _)); first | (k_unfold; (try dsimp only)) | (k_end; wrow_close) | walk1 | (dsimp only; walk1) | (leave1; (try dsimp only)))))))
      refine CTurn.intro F N Z2 (fun p hp => hp) (fun p hp => .inl hp) ⟨rfl, ?_⟩
      rw [dts_take_succ hT]
      exact rva_snoc hys2 hrt
    · rintro g' ys2 Z2 hlen2 ⟨rfl, hys2⟩
      rw [List.take_of_length_le (by rw [List.size_toArray]; omega)] at hys2
      (repeat' (((first | ((fail_if_success (with_reducible show wpAny _ _ (exec (Stmt.While _ _ _ _) _) _ _ _)); (fail_if_success (with_reducible show wpAny _ _ (exec (Stmt.For _ _ _ _ _) _) _ _ _)); (fail_if_success (with_reducible show wpAny _ _ (eval (PySem.Expr.ListComp _ _ _ _) _) _ _ _)); (fail_if_success (with_reducible show wpAny _ _ (exec (PySem.Stmt.Assign _ (PySem.Expr.ListComp _ _ _ _) _) _) _ _ _)); (fail_if_success (with_reducible show wpAny _ _ (call (Value.ref _) _) _ _ _)); (fail_if_success (with_reducible show wpAny _ _ (pyIter (Value.ref _)) _ _ _)); (fail_if_success (show LCg.CompSrc _ _ _ _ _ _ _ _ _ _ _ _ _ _)); first | (k_unfold; (try dsimp only)) | (k_end; wrow_close) | walk1 | (dsimp only; walk1) | (leave1; (try dsimp only)))))))
      (k_dflt (refine LCg.Assign_ListComp_U (F₀ := by k_asm) (by rfl) (by with_unfolding_all rfl) (by with_unfolding_all rfl) (by decide) (by rfl) (by decide) (by rfl) (by rfl) (by rfl) ?_))
      (repeat' (((first | ((fail_if_success (with_reducible show wpAny _ _ (exec (Stmt.While _ _ _ _) _) _ _ _)); (fail_if_success (with_reducible show wpAny _ _ (exec (Stmt.For _ _ _ _ _) _) _ _ _)); (fail_if_success (with_reducible show wpAny _ _ (eval (PySem.Expr.ListComp _ _ _ _) _) _ _ _)); (fail_if_success (with_reducible show wpAny _ _ (exec (PySem.Stmt.Assign _ (PySem.Expr.ListComp _ _ _ _) _) _) _ _ _)); (fail_if_success (with_reducible show wpAny _ _ (call (Value.ref _) _) _ _ _)); (fail_if_success (with_reducible show wpAny _ _ (pyIter (Value.ref _)) _ _ _)); (fail_if_success (show LCg.CompSrc _ _ _ _ _ _ _ _ _ _ _ _ _ _)); first | (k_unfold; (try dsimp only)) | (k_end; wrow_close) | walk1 | (dsimp only; walk1) | (leave1; (try dsimp only)))))))
      refine comp_src (act := [_, _]) (Z₀ := Z2) (fun i ys Z' => Z' = Z2 ∧ StrsAre ys ((ts'.take i).map nmS)) (by rfl) (by assumption) (by assumption) (.inr ⟨_, .tail _ (.head _), rfl, _, rfl⟩) (by rw [List.size_toArray]; omega) ⟨rfl, .nil⟩ ?_ ?_
      · rintro g' i v I oI C oC D m₂ ys3 Z3 h tk' E' hv hC hx F N off ne ⟨rfl, hys3⟩
        obtain ⟨T, x, vt, t, hT, rfl, hxl, hrt⟩ := nodes_via (fun b o e => F.keep b o (hg b o e)) (fun p hp => (N p (.tail _ (.tail _ (.tail _ (List.mem_append_right _ hp))))).1) hys (by simpa using hv)
        (repeat' (((first | ((fail_if_success (with_reducible show wpAny _ _ (exec (Stmt.While _ _ _ _) _) _ _ _)); (fail_if_success (with_reducible show wpAny _ _ (exec (Stmt.For _ _ _ _ _) _) _ _ _)); (fail_if_success (with_reducible show wpAny _ _ (eval (PySem.Expr.ListComp _ _ _ _) _) _ _ _)); (fail_if_success (with_reducible show wpAny _ _ (exec (PySem.Stmt.Assign _ (PySem.Expr.ListComp _ _ _ _) _) _) _ _ _)); (fail_if_success (with_reducible show wpAny _ _ (call (Value.ref _) _) _ _ _)); (fail_if_success (with_reducible show wpAny _ _ (pyIter (Value.ref _)) _ _ _)); (fail_if_success (show LCg.CompSrc _ _ _ _ _ _ _ _ _ _ _ _ _ _)); first | (k_unfold; (try dsimp only)) | (k_end; wrow_close) | walk1 | (dsimp only; walk1) | (leave1; (try dsimp only)))))))
        refine CTurn.intro F N Z3 (fun p hp => hp) (fun p hp => .inl hp) ⟨rfl, ?_⟩
        rw [nms_take_succ hT]
        exact Mine.StrsAre.snoc hys3 _ _
      · rintro g' ys3 Z3 hlen3 ⟨rfl, hys3⟩
        rw [List.take_of_length_le (by rw [List.size_toArray]; omega)] at hys3
        (repeat' (((first | ((fail_if_success (with_reducible show wpAny _ _ (exec (Stmt.While _ _ _ _) _) _ _ _)); (fail_if_success (with_reducible show wpAny _ _ (exec (Stmt.For _ _ _ _ _) _) _ _ _)); (fail_if_success (with_reducible show wpAny _ _ (eval (PySem.Expr.ListComp _ _ _ _) _) _ _ _)); (fail_if_success (with_reducible show wpAny _ _ (exec (PySem.Stmt.Assign _ (PySem.Expr.ListComp _ _ _ _) _) _) _ _ _)); (fail_if_success (with_reducible show wpAny _ _ (call (Value.ref _) _) _ _ _)); (fail_if_success (with_reducible show wpAny _ _ (pyIter (Value.ref _)) _ _ _)); (fail_if_success (show LCg.CompSrc _ _ _ _ _ _ _ _ _ _ _ _ _ _)); first | (k_unfold; (try dsimp only)) | (k_end; wrow_close) | walk1 | (dsimp only; walk1) | (leave1; (try dsimp only)))))))
        have hne2 := nmS_ne hne'
        have hw2 := nmS_hw (ts := ts') (by omega)
        refine' Mine.call_data (act := [_, _, _]) (Z := Z3) (by assumption) (by assumption) (by assumption) (by rfl) (by rfl) hg (fun g2 hg2 hgg hZ BB => Mine.law_row_via (kd := Kd.o) ?X2 ?T2 BB ?hd2 ?hu2 hg2 hgg hZ hys2 ?hl2 ?hsz2 hok') ?_
        case X2 => (first | (with_reducible assumption) | exact Frag.In.keeps (by assumption) (Fr.keep (by assumption)) | exact ⟨_, _, _, Top.keeps (by assumption) (Fr.keep (by assumption))⟩)
        case T2 => (first | (with_reducible assumption) | exact Frag.In.keeps (by assumption) (Fr.keep (by assumption)) | exact ⟨_, _, _, Top.keeps (by assumption) (Fr.keep (by assumption))⟩)
        case hd2 => exact Mine.room1 (by assumption) rfl
        case hu2 => exact Mine.room3 (by assumption) rfl
        case hl2 => walk_at "my_list"
        case hsz2 => omega
        intro v3 h3 tk3 Y3 F3 N3 hY3 st3 hv3
        simp only [List.nil_append, List.cons_append] at N3
        (repeat' (((first | ((fail_if_success (with_reducible show wpAny _ _ (exec (Stmt.While _ _ _ _) _) _ _ _)); (fail_if_success (with_reducible show wpAny _ _ (exec (Stmt.For _ _ _ _ _) _) _ _ _)); (fail_if_success (with_reducible show wpAny _ _ (eval (PySem.Expr.ListComp _ _ _ _) _) _ _ _)); (fail_if_success (with_reducible show wpAny _ _ (exec (PySem.Stmt.Assign _ (PySem.Expr.ListComp _ _ _ _) _) _) _ _ _)); (fail_if_success (with_reducible show wpAny _ _ (call (Value.ref _) _) _ _ _)); (fail_if_success (with_reducible show wpAny _ _ (pyIter (Value.ref _)) _ _ _)); (fail_if_success (show LCg.CompSrc _ _ _ _ _ _ _ _ _ _ _ _ _ _)); first | (k_unfold; (try dsimp only)) | (k_end; wrow_close) | walk1 | (dsimp only; walk1) | (leave1; (try dsimp only)))))))
        ((refine' Mine.call_at (by assumption) (by assumption) (by assumption) (by rfl) (by rfl) (fun BB => Mine.law_name_A ?Xq314 ?Tq314 BB ?hdq314 ?huq314 ?hlq314 ?hiq314 ?hneq314 ?hwq314) ?_; (case Xq314 => (first | (with_reducible assumption) | exact Frag.In.keeps (by assumption) (Fr.keep (by assumption)) | exact ⟨_, _, _, Top.keeps (by assumption) (Fr.keep (by assumption))⟩)); (case Tq314 => (first | (with_reducible assumption) | exact Frag.In.keeps (by assumption) (Fr.keep (by assumption)) | exact ⟨_, _, _, Top.keeps (by assumption) (Fr.keep (by assumption))⟩)); (case hdq314 => exact Mine.room1 (by assumption) rfl); (case huq314 => exact Mine.room3 (by assumption) rfl); (case hlq314 => walk_at "my_list"); (case hiq314 => assumption); (case hneq314 => assumption); (case hwq314 => assumption); (rintro v2q314 h2q314 tk2q314 F2q314 N2q314 st2q314 ⟨t2q314, hv2q314⟩); subst hv2q314))
        (repeat' (((first | ((fail_if_success (with_reducible show wpAny _ _ (exec (Stmt.While _ _ _ _) _) _ _ _)); (fail_if_success (with_reducible show wpAny _ _ (exec (Stmt.For _ _ _ _ _) _) _ _ _)); (fail_if_success (with_reducible show wpAny _ _ (eval (PySem.Expr.ListComp _ _ _ _) _) _ _ _)); (fail_if_success (with_reducible show wpAny _ _ (exec (PySem.Stmt.Assign _ (PySem.Expr.ListComp _ _ _ _) _) _) _ _ _)); (fail_if_success (with_reducible show wpAny _ _ (call (Value.ref _) _) _ _ _)); (fail_if_success (with_reducible show wpAny _ _ (pyIter (Value.ref _)) _ _ _)); (fail_if_success (show LCg.CompSrc _ _ _ _ _ _ _ _ _ _ _ _ _ _)); first | (k_unfold; (try dsimp only)) | (k_end; wrow_close) | walk1 | (dsimp only; walk1) | (leave1; (try dsimp only)))))))
        (((try k_unfold); (try dsimp only); refine Mine.ret_of (Fr.keep (by assumption)) ?_ rfl))
        rename News _ _ _ _ => N9
        rw [hts']
        exact made_pair N9 (by k_mem) (hv3.more (fun p hp => by repeat' (first | exact hp | refine List.Mem.tail _ ?_))) (rowT_nmS_o hok').symm

section
theorem sign_pmI (k : Int) : Txt.item "*+" (k.fmod 2) = "*" ∨ Txt.item "*+" (k.fmod 2) = "+" := by
  have h0 := Int.fmod_nonneg_of_pos k (b := 2) (by decide)
  have h1 := Int.fmod_lt_of_pos k (b := 2) (by decide)
  generalize k.fmod 2 = z at *
  have : z = 0 ∨ z = 1 := by omega
  rcases this with rfl | rfl
  · exact .inl (by decide +kernel)
  · exact .inr (by decide +kernel)
theorem law_over1 {w : World} {dp un : Nat} {outer : List Env} {gd : Option (List Code)} {base g : Heap} {s : Shared} {a : Addr} {tk tq : Tok} {q : Int} {items : Array Value} {ts : List Tr} {as : List Addr} {T0 TL : Tr}
   (X : (Mine.hd.heap_39 w.params).In s.heap) (T' : TopH s.heap) (B : Below (AA dp outer gd un) base outer s.heap) (hd : dp + 40 < recursionLimit) (hu : un + 400 < cLine)
   (hg : g.StaysIn s.heap) (hl : s.heap.IsList a items) (hr : ReadsAll g items.toList (ts.map nodeD) as) (hsz : wts ts ≤ 5000) (hok : oks ts) (h0 : ts[0]? = some T0) (hL : ts.getLast? = some TL) :
   codeAny (model P w) (AA dp outer gd un) (.call (.ref 108) ⟨[.ref a, .int 1 tk, .int q tq], []⟩) (Ret s fun v h' => Made g s.heap h' v (nodeD (.node .p [shutT (inK "ot") T0, TL]))) s := by
  have hn : items.size = ts.length := by rw [ra_size hr, List.length_map]
  have htl := wts_len ts
  have hlen : items.toList.length = ts.length := by rw [Array.length_toList]; exact hn
  obtain ⟨v0, hv0⟩ : ∃ v, items[0]? = some v := by
    have : 0 < ts.length := (List.getElem?_eq_some_iff.mp h0).1
    exact ⟨_, Array.getElem?_eq_getElem (by omega)⟩
  obtain ⟨vL, hvL⟩ : ∃ v, items.toList.getLast? = some v := by
    have : 0 < ts.length := (List.getElem?_eq_some_iff.mp h0).1
    exact ⟨_, List.getLast?_eq_some_getLast (by intro e; rw [e] at hlen; simp at hlen; omega)⟩
  have hr0 : ∃ bs, Reads g v0 (nodeD T0) bs := by
    obtain ⟨d, bs, h1, h2⟩ := ra_at 0 v0 hr (by rw [Array.getElem?_toList]; exact hv0)
    rw [List.getElem?_map, h0] at h1
    simp at h1; subst h1
    exact ⟨bs, h2⟩
  have hrL : ∃ bs, Reads g vL (nodeD TL) bs := by
    rw [List.getLast?_eq_getElem?] at hvL
    obtain ⟨d, bs, h1, h2⟩ := ra_at _ vL hr hvL
    rw [List.getLast?_eq_getElem?] at hL
    rw [List.getElem?_map, hlen, hL] at h1
    simp at h1; subst h1
    exact ⟨bs, h2⟩
  obtain ⟨bs0, hr0⟩ := hr0
  obtain ⟨bsL, hrL⟩ := hrL
  have hw0 := wt_mem (List.mem_of_getElem? h0)
  have hwL := wt_mem (List.mem_of_getLast? hL)
  refine' Mine.enter (binds := [(Str.ofString "nodes", .ref a), (Str.ofString "kind", .int 1 tk), (Str.ofString "q", .int q tq)]) (by with_reducible assumption) (by assumption) ?k6 ?k7 ?k8 ?k9 ?kB ?_ ?c2 ?c3 ?c4 ?c5
  (((case k6 => k_is); (case k7 => k_is); (case k8 => exact Mine.room0 (by assumption)); (case k9 => exact BindsTo.of_eq rfl); (case kB => exact locs rfl); (case c5 => decide); (case c2 => rfl); (case c3 => rfl); (case c4 => rfl); intro L'q320 h₁q320 meanq320 mgq320 mbq320 Fq320 Nq320 T'q320; dsimp only [List.reverse, List.reverseAux, List.length] at Fq320 ⊢; k_fold))
  (repeat' (first | ((((with_reducible show wpAny _ _ (subscriptTail _ _ (Value.ref _) (Value.int (-1) _)) _ _ _); refine Mine.item_last (by walk_at "my_list") (by assumption) ?_))) | (((first | ((fail_if_success (with_reducible show wpAny _ _ (exec (Stmt.While _ _ _ _) _) _ _ _)); (fail_if_success (with_reducible show wpAny _ _ (exec (Stmt.For _ _ _ _ _) _) _ _ _)); (fail_if_success (with_reducible show wpAny _ _ (eval (PySem.Expr.ListComp _ _ _ _) _) _ _ _)); (fail_if_success (with_reducible show wpAny _ _ (exec (PySem.Stmt.Assign _ (PySem.Expr.ListComp _ _ _ _) _) _) _ _ _)); (fail_if_success (with_reducible show wpAny _ _ (call (Value.ref _) _) _ _ _)); (fail_if_success (with_reducible show wpAny _ _ (pyIter (Value.ref _)) _ _ _)); (fail_if_success (show LCg.CompSrc _ _ _ _ _ _ _ _ _ _ _ _ _ _)); first | (k_unfold; (try dsimp only)) | (k_end; wrow_close) | walk1 | (dsimp only; walk1) | (leave1; (try dsimp only))))))))
  refine' Mine.call_data (act := []) (Z := []) (by assumption) (by assumption) (by assumption) (by rfl) (by rfl) hg (fun g2 hg2 hgg _ BB => Mine.law_shut ?X1 ?T1 BB ?hd1 ?hu1 hg2 (Reads.keeps hgg hr0) ?hsz1) ?_
  case X1 => (first | (with_reducible assumption) | exact Frag.In.keeps (by assumption) (Fr.keep (by assumption)) | exact ⟨_, _, _, Top.keeps (by assumption) (Fr.keep (by assumption))⟩)
  case T1 => (first | (with_reducible assumption) | exact Frag.In.keeps (by assumption) (Fr.keep (by assumption)) | exact ⟨_, _, _, Top.keeps (by assumption) (Fr.keep (by assumption))⟩)
  case hd1 => exact Mine.room1 (by assumption) rfl
  case hu1 => exact Mine.room3 (by assumption) rfl
  case hsz1 => omega
  intro v1 h1' tk1 Z F1 N1 hY st1 hv1
  simp only [List.nil_append] at N1 hv1
  (repeat' (first | ((((with_reducible show wpAny _ _ (subscriptTail _ _ (Value.ref _) (Value.int (-1) _)) _ _ _); refine Mine.item_last (by walk_at "my_list") (by assumption) ?_))) | (((first | ((fail_if_success (with_reducible show wpAny _ _ (exec (Stmt.While _ _ _ _) _) _ _ _)); (fail_if_success (with_reducible show wpAny _ _ (exec (Stmt.For _ _ _ _ _) _) _ _ _)); (fail_if_success (with_reducible show wpAny _ _ (eval (PySem.Expr.ListComp _ _ _ _) _) _ _ _)); (fail_if_success (with_reducible show wpAny _ _ (exec (PySem.Stmt.Assign _ (PySem.Expr.ListComp _ _ _ _) _) _) _ _ _)); (fail_if_success (with_reducible show wpAny _ _ (call (Value.ref _) _) _ _ _)); (fail_if_success (with_reducible show wpAny _ _ (pyIter (Value.ref _)) _ _ _)); (fail_if_success (show LCg.CompSrc _ _ _ _ _ _ _ _ _ _ _ _ _ _)); first | (k_unfold; (try dsimp only)) | (k_end; wrow_close) | walk1 | (dsimp only; walk1) | (leave1; (try dsimp only))))))))
  obtain ⟨ts', hts'⟩ : ∃ ts', ts' = [shutT (inK "ot") T0, TL] := ⟨_, rfl⟩
  have hys : ReadsViaAll g Z [v1, vL] (ts'.map nodeD) := by
    rw [hts']
    exact .cons hv1 (.cons (.old hrL) .nil)
  have hlt : ts'.length = 2 := by rw [hts']; rfl
  have hzz := shutT_wt (inK "ot") T0
  have hsz' : wts ts' ≤ 10001 := by rw [hts', wts, wts, wts]; omega
  (k_dflt (refine LCg.Assign_ListComp_U (F₀ := by k_asm) (by rfl) (by with_unfolding_all rfl) (by with_unfolding_all rfl) (by decide) (by rfl) (by decide) (by rfl) (by rfl) (by rfl) ?_))
  (repeat' (((first | ((fail_if_success (with_reducible show wpAny _ _ (exec (Stmt.While _ _ _ _) _) _ _ _)); (fail_if_success (with_reducible show wpAny _ _ (exec (Stmt.For _ _ _ _ _) _) _ _ _)); (fail_if_success (with_reducible show wpAny _ _ (eval (PySem.Expr.ListComp _ _ _ _) _) _ _ _)); (fail_if_success (with_reducible show wpAny _ _ (exec (PySem.Stmt.Assign _ (PySem.Expr.ListComp _ _ _ _) _) _) _ _ _)); (fail_if_success (with_reducible show wpAny _ _ (call (Value.ref _) _) _ _ _)); (fail_if_success (with_reducible show wpAny _ _ (pyIter (Value.ref _)) _ _ _)); (fail_if_success (show LCg.CompSrc _ _ _ _ _ _ _ _ _ _ _ _ _ _)); first | (k_unfold; (try dsimp only)) | (k_end; wrow_close) | walk1 | (dsimp only; walk1) | (leave1; (try dsimp only)))))))
  refine comp_src (act := [_]) (Z₀ := Z) (fun i ys Z' => Z' = Z ∧ ReadsViaAll g Z ys (dts (ts'.take i))) (by rfl) (by assumption) (by assumption) (.inr ⟨_, .head _, rfl, _, rfl⟩) (Nat.le_of_ble_eq_true rfl) ⟨rfl, .nil⟩ ?_ ?_
  · rintro g' i v I oI C oC D m₂ ys2 Z2 h tk' E' hv hC hx F N off ne ⟨rfl, hys2⟩
    obtain ⟨T, x, vt, t, hT, rfl, hxl, hrt⟩ := nodes_via (fun b o e => F.keep b o (hg b o e)) (fun p hp => (N p (.tail _ (.tail _ (.tail _ (List.mem_append_right _ hp))))).1) hys (by rw [← Array.getElem?_toList] at hv; exact hv)
    (repeat' (((first | ((fail_if_success (with_reducible show wpAny _ _ (exec (Stmt.While _ _ _ _) _) _ _ _)); (fail_if_success (with_reducible show wpAny _ _ (exec (Stmt.For _ _ _ _ _) _) _ _ _)); (fail_if_success (with_reducible show wpAny _ _ (eval (PySem.Expr.ListComp _ _ _ _) _) _ _ _)); (fail_if_success (with_reducible show wpAny _ _ (exec (PySem.Stmt.Assign _ (PySem.Expr.ListComp _ _ _ _) _) _) _ _ _)); (fail_if_success (with_reducible show wpAny _ _ (call (Value.ref _) _) _ _ _)); (fail_if_success (with_reducible show wpAny _ _ (pyIter (Value.ref _)) _ _ _)); (fail_if_success (show LCg.CompSrc _ _ _ _ _ _ _ _ _ _ _ _ _ _)); first | (k_unfold; (try dsimp only)) | (k_end; wrow_close) | walk1 | (dsimp only; walk1) | (leave1; (try dsimp only)))))))
    refine CTurn.intro F N Z2 (fun p hp => hp) (fun p hp => .inl hp) ⟨rfl, ?_⟩
    rw [dts_take_succ hT]
    exact rva_snoc hys2 hrt
  · rintro g' ys2 Z2 hlen2 ⟨rfl, hys2⟩
    rw [List.take_of_length_le (by rw [hlt]; exact Nat.le_refl _)] at hys2
    (repeat' (((first | ((fail_if_success (with_reducible show wpAny _ _ (exec (Stmt.While _ _ _ _) _) _ _ _)); (fail_if_success (with_reducible show wpAny _ _ (exec (Stmt.For _ _ _ _ _) _) _ _ _)); (fail_if_success (with_reducible show wpAny _ _ (eval (PySem.Expr.ListComp _ _ _ _) _) _ _ _)); (fail_if_success (with_reducible show wpAny _ _ (exec (PySem.Stmt.Assign _ (PySem.Expr.ListComp _ _ _ _) _) _) _ _ _)); (fail_if_success (with_reducible show wpAny _ _ (call (Value.ref _) _) _ _ _)); (fail_if_success (with_reducible show wpAny _ _ (pyIter (Value.ref _)) _ _ _)); (fail_if_success (show LCg.CompSrc _ _ _ _ _ _ _ _ _ _ _ _ _ _)); first | (k_unfold; (try dsimp only)) | (k_end; wrow_close) | walk1 | (dsimp only; walk1) | (leave1; (try dsimp only)))))))
    (k_dflt (refine LCg.Assign_ListComp_U (F₀ := by k_asm) (by rfl) (by with_unfolding_all rfl) (by with_unfolding_all rfl) (by decide) (by rfl) (by decide) (by rfl) (by rfl) (by rfl) ?_))
    (repeat' (((first | ((fail_if_success (with_reducible show wpAny _ _ (exec (Stmt.While _ _ _ _) _) _ _ _)); (fail_if_success (with_reducible show wpAny _ _ (exec (Stmt.For _ _ _ _ _) _) _ _ _)); (fail_if_success (with_reducible show wpAny _ _ (eval (PySem.Expr.ListComp _ _ _ _) _) _ _ _)); (fail_if_success (with_reducible show wpAny _ _ (exec (PySem.Stmt.Assign _ (PySem.Expr.ListComp _ _ _ _) _) _) _ _ _)); (fail_if_success (with_reducible show wpAny _ _ (call (Value.ref _) _) _ _ _)); (fail_if_success (with_reducible show wpAny _ _ (pyIter (Value.ref _)) _ _ _)); (fail_if_success (show LCg.CompSrc _ _ _ _ _ _ _ _ _ _ _ _ _ _)); first | (k_unfold; (try dsimp only)) | (k_end; wrow_close) | walk1 | (dsimp only; walk1) | (leave1; (try dsimp only)))))))
    refine comp_src (act := [_, _]) (Z₀ := Z2) (fun i ys Z' => Z' = Z2 ∧ StrsAre ys ((ts'.take i).map nmS)) (by rfl) (by assumption) (by assumption) (.inr ⟨_, .tail _ (.head _), rfl, _, rfl⟩) (Nat.le_of_ble_eq_true rfl) ⟨rfl, .nil⟩ ?_ ?_
    · rintro g' i v I oI C oC D m₂ ys3 Z3 h tk' E' hv hC hx F N off ne ⟨rfl, hys3⟩
      obtain ⟨T, x, vt, t, hT, rfl, hxl, hrt⟩ := nodes_via (fun b o e => F.keep b o (hg b o e)) (fun p hp => (N p (.tail _ (.tail _ (.tail _ (List.mem_append_right _ hp))))).1) hys (by rw [← Array.getElem?_toList] at hv; exact hv)
      (repeat' (((first | ((fail_if_success (with_reducible show wpAny _ _ (exec (Stmt.While _ _ _ _) _) _ _ _)); (fail_if_success (with_reducible show wpAny _ _ (exec (Stmt.For _ _ _ _ _) _) _ _ _)); (fail_if_success (with_reducible show wpAny _ _ (eval (PySem.Expr.ListComp _ _ _ _) _) _ _ _)); (fail_if_success (with_reducible show wpAny _ _ (exec (PySem.Stmt.Assign _ (PySem.Expr.ListComp _ _ _ _) _) _) _ _ _)); (fail_if_success (with_reducible show wpAny _ _ (call (Value.ref _) _) _ _ _)); (fail_if_success (with_reducible show wpAny _ _ (pyIter (Value.ref _)) _ _ _)); (fail_if_success (show LCg.CompSrc _ _ _ _ _ _ _ _ _ _ _ _ _ _)); first | (k_unfold; (try dsimp only)) | (k_end; wrow_close) | walk1 | (dsimp only; walk1) | (leave1; (try dsimp only)))))))
      refine CTurn.intro F N Z3 (fun p hp => hp) (fun p hp => .inl hp) ⟨rfl, ?_⟩
      rw [nms_take_succ hT]
      exact Mine.StrsAre.snoc hys3 _ _
    · rintro g' ys3 Z3 hlen3 ⟨rfl, hys3⟩
      rw [List.take_of_length_le (by rw [hlt]; exact Nat.le_refl _)] at hys3
      obtain ⟨t1, t2, rfl⟩ : ∃ t1 t2, ys3 = [.str (nmS (shutT (inK "ot") T0)) t1, .str (nmS TL) t2] := by
        rw [hts'] at hys3
        cases hys3 with
        | cons y1 t1 r => cases r with
          | cons y2 t2 r => cases r; exact ⟨_, _, rfl⟩
      have hl2 : ys2.length = 2 := hlen2
      (repeat' (((first | ((fail_if_success (with_reducible show wpAny _ _ (exec (Stmt.While _ _ _ _) _) _ _ _)); (fail_if_success (with_reducible show wpAny _ _ (exec (Stmt.For _ _ _ _ _) _) _ _ _)); (fail_if_success (with_reducible show wpAny _ _ (eval (PySem.Expr.ListComp _ _ _ _) _) _ _ _)); (fail_if_success (with_reducible show wpAny _ _ (exec (PySem.Stmt.Assign _ (PySem.Expr.ListComp _ _ _ _) _) _) _ _ _)); (fail_if_success (with_reducible show wpAny _ _ (call (Value.ref _) _) _ _ _)); (fail_if_success (with_reducible show wpAny _ _ (pyIter (Value.ref _)) _ _ _)); (fail_if_success (show LCg.CompSrc _ _ _ _ _ _ _ _ _ _ _ _ _ _)); first | (k_unfold; (try dsimp only)) | (k_end; wrow_close) | walk1 | (dsimp only; walk1) | (leave1; (try dsimp only)))))))
      have hpm := sign_pmI q
      have hn1 := nmS_le (shutT (inK "ot") T0)
      have hn2 := nmS_le TL
      ((refine' Mine.call_at (by assumption) (by assumption) (by assumption) (by rfl) (by rfl) (fun BB => Mine.law_name_E ?Xq343 ?Tq343 BB ?hdq343 ?huq343 ?hl0q343 ?hlq343 ?hnq343 ?hwq343) ?_; (case Xq343 => (first | (with_reducible assumption) | exact Frag.In.keeps (by assumption) (Fr.keep (by assumption)) | exact ⟨_, _, _, Top.keeps (by assumption) (Fr.keep (by assumption))⟩)); (case Tq343 => (first | (with_reducible assumption) | exact Frag.In.keeps (by assumption) (Fr.keep (by assumption)) | exact ⟨_, _, _, Top.keeps (by assumption) (Fr.keep (by assumption))⟩)); (case hdq343 => exact Mine.room1 (by assumption) rfl); (case huq343 => exact Mine.room3 (by assumption) rfl); (case hl0q343 => (first | assumption | exact Or.inl (News.isList (by assumption) (by k_mem)) | exact Or.inr (News.isTup (by assumption) (by k_mem)) | exact Mine.Empty.keeps (Fr.keep (by assumption)) (by assumption) | exact Mine.Empty.keeps (Fr.keep (by assumption)) (Mine.Empty.keeps (Fr.keep (by assumption)) (by assumption)))); (case hlq343 => (first | assumption | exact News.isTup (by assumption) (by k_mem) | exact stays_tup (Fr.keep (by assumption)) (by assumption) | exact stays_tup (Fr.keep (by assumption)) (stays_tup (Fr.keep (by assumption)) (by assumption)))); (case hnq343 => assumption); (case hwq343 => omega); (rintro v2q343 h2q343 tk2q343 F2q343 N2q343 st2q343 ⟨t2q343, hv2q343⟩); subst hv2q343))
      (repeat' (((first | ((fail_if_success (with_reducible show wpAny _ _ (exec (Stmt.While _ _ _ _) _) _ _ _)); (fail_if_success (with_reducible show wpAny _ _ (exec (Stmt.For _ _ _ _ _) _) _ _ _)); (fail_if_success (with_reducible show wpAny _ _ (eval (PySem.Expr.ListComp _ _ _ _) _) _ _ _)); (fail_if_success (with_reducible show wpAny _ _ (exec (PySem.Stmt.Assign _ (PySem.Expr.ListComp _ _ _ _) _) _) _ _ _)); (fail_if_success (with_reducible show wpAny _ _ (call (Value.ref _) _) _ _ _)); (fail_if_success (with_reducible show wpAny _ _ (pyIter (Value.ref _)) _ _ _)); (fail_if_success (show LCg.CompSrc _ _ _ _ _ _ _ _ _ _ _ _ _ _)); first | (k_unfold; (try dsimp only)) | (k_end; wrow_close) | walk1 | (dsimp only; walk1) | (leave1; (try dsimp only)))))))
      (((try k_unfold); (try dsimp only); refine Mine.ret_of (Fr.keep (by assumption)) ?_ rfl))
      rename News _ _ _ _ => N9
      refine made_pair N9 (by k_mem) (rv_kind (ReadsVia.list (by k_mem) (.cons (.str _ _) ?_))) (nmS_p _ _).symm
      rw [hts'] at hys2
      exact rva_more hys2 (fun p hp => by repeat' (first | exact hp | refine List.Mem.tail _ ?_))

end
end
section
theorem law_over4 {w : World} {dp un : Nat} {outer : List Env} {gd : Option (List Code)} {base g : Heap} {s : Shared} {a : Addr} {tk tq : Tok} {q : Int} {items : Array Value} {ts : List Tr} {as : List Addr}
   (X : (Mine.hd.heap_39 w.params).In s.heap) (T' : TopH s.heap) (B : Below (AA dp outer gd un) base outer s.heap) (hd : dp + 40 < recursionLimit) (hu : un + 400 < cLine)
   (hg : g.StaysIn s.heap) (hl : s.heap.IsList a items) (hr : ReadsAll g items.toList (ts.map nodeD) as) (hsz : wts ts ≤ 10000) (hok : oks ts) (hne : ts ≠ []) :
   codeAny (model P w) (AA dp outer gd un) (.call (.ref 108) ⟨[.ref a, .int 4 tk, .int q tq], []⟩) (Ret s fun v h' => Made g s.heap h' v (nodeD (rowT .t ts))) s := by
  have hn : items.size = ts.length := by rw [ra_size hr, List.length_map]
  have htl := wts_len ts
  refine' Mine.enter (binds := [(Str.ofString "nodes", .ref a), (Str.ofString "kind", .int 4 tk), (Str.ofString "q", .int q tq)]) (by with_reducible assumption) (by assumption) ?k6 ?k7 ?k8 ?k9 ?kB ?_ ?c2 ?c3 ?c4 ?c5
  (((case k6 => k_is); (case k7 => k_is); (case k8 => exact Mine.room0 (by assumption)); (case k9 => exact BindsTo.of_eq rfl); (case kB => exact locs rfl); (case c5 => decide); (case c2 => rfl); (case c3 => rfl); (case c4 => rfl); intro L'q351 h₁q351 meanq351 mgq351 mbq351 Fq351 Nq351 T'q351; dsimp only [List.reverse, List.reverseAux, List.length] at Fq351 ⊢; k_fold))
  (repeat' (((first | ((fail_if_success (with_reducible show wpAny _ _ (exec (Stmt.While _ _ _ _) _) _ _ _)); (fail_if_success (with_reducible show wpAny _ _ (exec (Stmt.For _ _ _ _ _) _) _ _ _)); (fail_if_success (with_reducible show wpAny _ _ (eval (PySem.Expr.ListComp _ _ _ _) _) _ _ _)); (fail_if_success (with_reducible show wpAny _ _ (exec (PySem.Stmt.Assign _ (PySem.Expr.ListComp _ _ _ _) _) _) _ _ _)); (fail_if_success (with_reducible show wpAny _ _ (call (Value.ref _) _) _ _ _)); (fail_if_success (with_reducible show wpAny _ _ (pyIter (Value.ref _)) _ _ _)); (fail_if_success (show LCg.CompSrc _ _ _ _ _ _ _ _ _ _ _ _ _ _)); first | (k_unfold; (try dsimp only)) | (k_end; wrow_close) | walk1 | (dsimp only; walk1) | (leave1; (try dsimp only)))))))
  (k_dflt (refine LCg.Assign_ListComp_U (F₀ := by k_asm) (by rfl) (by with_unfolding_all rfl) (by with_unfolding_all rfl) (by decide) (by rfl) (by decide) (by rfl) (by rfl) (by rfl) ?_))
  (repeat' (((first | ((fail_if_success (with_reducible show wpAny _ _ (exec (Stmt.While _ _ _ _) _) _ _ _)); (fail_if_success (with_reducible show wpAny _ _ (exec (Stmt.For _ _ _ _ _) _) _ _ _)); (fail_if_success (with_reducible show wpAny _ _ (eval (PySem.Expr.ListComp _ _ _ _) _) _ _ _)); (fail_if_success (with_reducible show wpAny _ _ (exec (PySem.Stmt.Assign _ (PySem.Expr.ListComp _ _ _ _) _) _) _ _ _)); (fail_if_success (with_reducible show wpAny _ _ (call (Value.ref _) _) _ _ _)); (fail_if_success (with_reducible show wpAny _ _ (pyIter (Value.ref _)) _ _ _)); (fail_if_success (show LCg.CompSrc _ _ _ _ _ _ _ _ _ _ _ _ _ _)); first | (k_unfold; (try dsimp only)) | (k_end; wrow_close) | walk1 | (dsimp only; walk1) | (leave1; (try dsimp only)))))))
  refine comp_src (act := []) (Z₀ := []) (fun i ys Z => Z = [] ∧ ∃ as, ReadsAll g ys (dts (ts.take i)) as) (by rfl) (by assumption) (by assumption) (.inl hl) (by omega) ⟨rfl, _, .nil⟩ ?_ ?_
  · rintro g' i v I oI C oC D m₂ ys Z h tk' E' hv hC hx F N off ne ⟨rfl, as', hys⟩
    obtain ⟨T, x, vt, t, bs, hT, rfl, hxl, hrt⟩ := nodes_at hg hr (by rw [Array.getElem?_toList]; exact hv)
    (repeat' (((first | ((fail_if_success (with_reducible show wpAny _ _ (exec (Stmt.While _ _ _ _) _) _ _ _)); (fail_if_success (with_reducible show wpAny _ _ (exec (Stmt.For _ _ _ _ _) _) _ _ _)); (fail_if_success (with_reducible show wpAny _ _ (eval (PySem.Expr.ListComp _ _ _ _) _) _ _ _)); (fail_if_success (with_reducible show wpAny _ _ (exec (PySem.Stmt.Assign _ (PySem.Expr.ListComp _ _ _ _) _) _) _ _ _)); (fail_if_success (with_reducible show wpAny _ _ (call (Value.ref _) _) _ _ _)); (fail_if_success (with_reducible show wpAny _ _ (pyIter (Value.ref _)) _ _ _)); (fail_if_success (show LCg.CompSrc _ _ _ _ _ _ _ _ _ _ _ _ _ _)); first | (k_unfold; (try dsimp only)) | (k_end; wrow_close) | walk1 | (dsimp only; walk1) | (leave1; (try dsimp only)))))))
    refine CTurn.intro F N [] (fun p hp => hp) (fun p hp => nomatch hp) ⟨rfl, ?_⟩
    rw [dts_take_succ hT]
    exact ⟨_, ra_append hys (.cons hrt .nil)⟩
  · rintro g' ys Z hlen ⟨rfl, as', hys⟩
    rw [hn, List.take_length] at hys
    (repeat' (((first | ((fail_if_success (with_reducible show wpAny _ _ (exec (Stmt.While _ _ _ _) _) _ _ _)); (fail_if_success (with_reducible show wpAny _ _ (exec (Stmt.For _ _ _ _ _) _) _ _ _)); (fail_if_success (with_reducible show wpAny _ _ (eval (PySem.Expr.ListComp _ _ _ _) _) _ _ _)); (fail_if_success (with_reducible show wpAny _ _ (exec (PySem.Stmt.Assign _ (PySem.Expr.ListComp _ _ _ _) _) _) _ _ _)); (fail_if_success (with_reducible show wpAny _ _ (call (Value.ref _) _) _ _ _)); (fail_if_success (with_reducible show wpAny _ _ (pyIter (Value.ref _)) _ _ _)); (fail_if_success (show LCg.CompSrc _ _ _ _ _ _ _ _ _ _ _ _ _ _)); first | (k_unfold; (try dsimp only)) | (k_end; wrow_close) | walk1 | (dsimp only; walk1) | (leave1; (try dsimp only)))))))
    (k_dflt (refine LCg.Assign_ListComp_U (F₀ := by k_asm) (by rfl) (by with_unfolding_all rfl) (by with_unfolding_all rfl) (by decide) (by rfl) (by decide) (by rfl) (by rfl) (by rfl) ?_))
    (repeat' (((first | ((fail_if_success (with_reducible show wpAny _ _ (exec (Stmt.While _ _ _ _) _) _ _ _)); (fail_if_success (with_reducible show wpAny _ _ (exec (Stmt.For _ _ _ _ _) _) _ _ _)); (fail_if_success (with_reducible show wpAny _ _ (eval (PySem.Expr.ListComp _ _ _ _) _) _ _ _)); (fail_if_success (with_reducible show wpAny _ _ (exec (PySem.Stmt.Assign _ (PySem.Expr.ListComp _ _ _ _) _) _) _ _ _)); (fail_if_success (with_reducible show wpAny _ _ (call (Value.ref _) _) _ _ _)); (fail_if_success (with_reducible show wpAny _ _ (pyIter (Value.ref _)) _ _ _)); (fail_if_success (show LCg.CompSrc _ _ _ _ _ _ _ _ _ _ _ _ _ _)); first | (k_unfold; (try dsimp only)) | (k_end; wrow_close) | walk1 | (dsimp only; walk1) | (leave1; (try dsimp only)))))))
    refine comp_src (act := [_]) (Z₀ := []) (fun i ys Z => Z = [] ∧ StrsAre ys ((ts.take i).map nmS)) (by rfl) (by assumption) (by assumption) (.inl hl) (by omega) ⟨rfl, .nil⟩ ?_ ?_
    · rintro g' i v I oI C oC D m₂ ys Z h tk' E' hv hC hx F N off ne ⟨rfl, hys2⟩
      obtain ⟨T, x, vt, t, bs, hT, rfl, hxl, hrt⟩ := nodes_at hg hr (by rw [Array.getElem?_toList]; exact hv)
      (repeat' (((first | ((fail_if_success (with_reducible show wpAny _ _ (exec (Stmt.While _ _ _ _) _) _ _ _)); (fail_if_success (with_reducible show wpAny _ _ (exec (Stmt.For _ _ _ _ _) _) _ _ _)); (fail_if_success (with_reducible show wpAny _ _ (eval (PySem.Expr.ListComp _ _ _ _) _) _ _ _)); (fail_if_success (with_reducible show wpAny _ _ (exec (PySem.Stmt.Assign _ (PySem.Expr.ListComp _ _ _ _) _) _) _ _ _)); (fail_if_success (with_reducible show wpAny _ _ (call (Value.ref _) _) _ _ _)); (fail_if_success (with_reducible show wpAny _ _ (pyIter (Value.ref _)) _ _ _)); (fail_if_success (show LCg.CompSrc _ _ _ _ _ _ _ _ _ _ _ _ _ _)); first | (k_unfold; (try dsimp only)) | (k_end; wrow_close) | walk1 | (dsimp only; walk1) | (leave1; (try dsimp only)))))))
      refine CTurn.intro F N [] (fun p hp => hp) (fun p hp => nomatch hp) ⟨rfl, ?_⟩
      rw [nms_take_succ hT]
      exact Mine.StrsAre.snoc hys2 _ _
    · rintro g' ys2 Z hlen2 ⟨rfl, hys2⟩
      rw [hn, List.take_length] at hys2
      (repeat' (first | ((((with_reducible show wpAny _ _ (subscriptTail _ _ (Value.ref _) (Value.int _ _)) _ _ _); refine Mine.item_nargs (by assumption) (by walk_at "my_list") (by exact Int.fmod_nonneg_of_pos _ (by decide)) (by exact Int.fmod_lt_of_pos _ (by decide)) (by exact Nat.le_of_ble_eq_true rfl) (by first | exact Mine.nargs_all4 (by decide) (fun e => absurd e (by decide)) | (refine Mine.nargs_all4 (by decide) (fun _ => ?_); (have hlen9 := StrsAre.length (by assumption)); (simp only [List.size_toArray] at *); omega)) ?_; intro v6q367 hv6q367))) | (((first | ((fail_if_success (with_reducible show wpAny _ _ (exec (Stmt.While _ _ _ _) _) _ _ _)); (fail_if_success (with_reducible show wpAny _ _ (exec (Stmt.For _ _ _ _ _) _) _ _ _)); (fail_if_success (with_reducible show wpAny _ _ (eval (PySem.Expr.ListComp _ _ _ _) _) _ _ _)); (fail_if_success (with_reducible show wpAny _ _ (exec (PySem.Stmt.Assign _ (PySem.Expr.ListComp _ _ _ _) _) _) _ _ _)); (fail_if_success (with_reducible show wpAny _ _ (call (Value.ref _) _) _ _ _)); (fail_if_success (with_reducible show wpAny _ _ (pyIter (Value.ref _)) _ _ _)); (fail_if_success (show LCg.CompSrc _ _ _ _ _ _ _ _ _ _ _ _ _ _)); first | (k_unfold; (try dsimp only)) | (k_end; wrow_close) | walk1 | (dsimp only; walk1) | (leave1; (try dsimp only))))))))
      · have hne2 := nmS_ne hne
        have hw2 := nmS_hw hsz
        ((refine' Mine.call_data (Z := []) (by assumption) (by assumption) (by rw [List.append_nil]; assumption) (by rfl) (by rfl) (by assumption) (fun g2 hg2 hgg _ BB => Mine.law_rowL (kd := Kd.t) ?Xq369 ?Tq369 BB ?hdq369 ?huq369 hg2 hgg ?hrq369 ?hlq369 ?hszq369 ?hokq369) ?_; (case Xq369 => (first | (with_reducible assumption) | exact Frag.In.keeps (by assumption) (Fr.keep (by assumption)) | exact ⟨_, _, _, Top.keeps (by assumption) (Fr.keep (by assumption))⟩)); (case Tq369 => (first | (with_reducible assumption) | exact Frag.In.keeps (by assumption) (Fr.keep (by assumption)) | exact ⟨_, _, _, Top.keeps (by assumption) (Fr.keep (by assumption))⟩)); (case hdq369 => exact Mine.room1 (by assumption) rfl); (case huq369 => exact Mine.room3 (by assumption) rfl); (case hrq369 => assumption); (case hlq369 => walk_at "my_list"); (case hszq369 => assumption); (case hokq369 => assumption); (intro v3q369 h3q369 tk3q369 Y3q369 F3q369 N3q369 hY3q369 st3q369 hv3q369; simp only [List.nil_append, List.cons_append] at N3q369)))
        (repeat' (((first | ((fail_if_success (with_reducible show wpAny _ _ (exec (Stmt.While _ _ _ _) _) _ _ _)); (fail_if_success (with_reducible show wpAny _ _ (exec (Stmt.For _ _ _ _ _) _) _ _ _)); (fail_if_success (with_reducible show wpAny _ _ (eval (PySem.Expr.ListComp _ _ _ _) _) _ _ _)); (fail_if_success (with_reducible show wpAny _ _ (exec (PySem.Stmt.Assign _ (PySem.Expr.ListComp _ _ _ _) _) _) _ _ _)); (fail_if_success (with_reducible show wpAny _ _ (call (Value.ref _) _) _ _ _)); (fail_if_success (with_reducible show wpAny _ _ (pyIter (Value.ref _)) _ _ _)); (fail_if_success (show LCg.CompSrc _ _ _ _ _ _ _ _ _ _ _ _ _ _)); first | (k_unfold; (try dsimp only)) | (k_end; wrow_close) | walk1 | (dsimp only; walk1) | (leave1; (try dsimp only)))))))
        ((refine' Mine.call_at (by assumption) (by assumption) (by assumption) (by rfl) (by rfl) (fun BB => Mine.law_name_F ?Xq374 ?Tq374 BB ?hdq374 ?huq374 ?hl0q374 ?hlq374 ?hiq374 ?hwq374 ?hnq374) ?_; (case Xq374 => (first | (with_reducible assumption) | exact Frag.In.keeps (by assumption) (Fr.keep (by assumption)) | exact ⟨_, _, _, Top.keeps (by assumption) (Fr.keep (by assumption))⟩)); (case Tq374 => (first | (with_reducible assumption) | exact Frag.In.keeps (by assumption) (Fr.keep (by assumption)) | exact ⟨_, _, _, Top.keeps (by assumption) (Fr.keep (by assumption))⟩)); (case hdq374 => exact Mine.room1 (by assumption) rfl); (case huq374 => exact Mine.room3 (by assumption) rfl); (case hl0q374 => (first | assumption | exact Or.inl (News.isList (by assumption) (by k_mem)) | exact Or.inr (News.isTup (by assumption) (by k_mem)) | exact Mine.Empty.keeps (Fr.keep (by assumption)) (by assumption) | exact Mine.Empty.keeps (Fr.keep (by assumption)) (Mine.Empty.keeps (Fr.keep (by assumption)) (by assumption)))); (case hlq374 => (first | assumption | exact News.isTup (by assumption) (by k_mem) | exact stays_tup (Fr.keep (by assumption)) (by assumption) | exact stays_tup (Fr.keep (by assumption)) (stays_tup (Fr.keep (by assumption)) (by assumption)))); (case hiq374 => assumption); (case hwq374 => assumption); (case hnq374 => assumption); (rintro v2q374 h2q374 tk2q374 F2q374 N2q374 st2q374 ⟨t2q374, hv2q374⟩); subst hv2q374))
        (repeat' (((first | ((fail_if_success (with_reducible show wpAny _ _ (exec (Stmt.While _ _ _ _) _) _ _ _)); (fail_if_success (with_reducible show wpAny _ _ (exec (Stmt.For _ _ _ _ _) _) _ _ _)); (fail_if_success (with_reducible show wpAny _ _ (eval (PySem.Expr.ListComp _ _ _ _) _) _ _ _)); (fail_if_success (with_reducible show wpAny _ _ (exec (PySem.Stmt.Assign _ (PySem.Expr.ListComp _ _ _ _) _) _) _ _ _)); (fail_if_success (with_reducible show wpAny _ _ (call (Value.ref _) _) _ _ _)); (fail_if_success (with_reducible show wpAny _ _ (pyIter (Value.ref _)) _ _ _)); (fail_if_success (show LCg.CompSrc _ _ _ _ _ _ _ _ _ _ _ _ _ _)); first | (k_unfold; (try dsimp only)) | (k_end; wrow_close) | walk1 | (dsimp only; walk1) | (leave1; (try dsimp only)))))))
        (((try k_unfold); (try dsimp only); refine Mine.ret_of (Fr.keep (by assumption)) ?_ rfl))
        rename News _ _ _ _ => N9
        rename ReadsVia _ _ _ _ => hv9
        exact made_pair N9 (by k_mem) (hv9.more (fun p hp => by repeat' (first | exact hp | refine List.Mem.tail _ ?_))) (rowT_nmS_t hok).symm
      · have hne2 := nmS_ne hne
        have hw2 := nmS_hw hsz
        ((refine' Mine.call_data (Z := []) (by assumption) (by assumption) (by rw [List.append_nil]; assumption) (by rfl) (by rfl) (by assumption) (fun g2 hg2 hgg _ BB => Mine.law_rowL (kd := Kd.t) ?Xq382 ?Tq382 BB ?hdq382 ?huq382 hg2 hgg ?hrq382 ?hlq382 ?hszq382 ?hokq382) ?_; (case Xq382 => (first | (with_reducible assumption) | exact Frag.In.keeps (by assumption) (Fr.keep (by assumption)) | exact ⟨_, _, _, Top.keeps (by assumption) (Fr.keep (by assumption))⟩)); (case Tq382 => (first | (with_reducible assumption) | exact Frag.In.keeps (by assumption) (Fr.keep (by assumption)) | exact ⟨_, _, _, Top.keeps (by assumption) (Fr.keep (by assumption))⟩)); (case hdq382 => exact Mine.room1 (by assumption) rfl); (case huq382 => exact Mine.room3 (by assumption) rfl); (case hrq382 => assumption); (case hlq382 => walk_at "my_list"); (case hszq382 => assumption); (case hokq382 => assumption); (intro v3q382 h3q382 tk3q382 Y3q382 F3q382 N3q382 hY3q382 st3q382 hv3q382; simp only [List.nil_append, List.cons_append] at N3q382)))
        (repeat' (((first | ((fail_if_success (with_reducible show wpAny _ _ (exec (Stmt.While _ _ _ _) _) _ _ _)); (fail_if_success (with_reducible show wpAny _ _ (exec (Stmt.For _ _ _ _ _) _) _ _ _)); (fail_if_success (with_reducible show wpAny _ _ (eval (PySem.Expr.ListComp _ _ _ _) _) _ _ _)); (fail_if_success (with_reducible show wpAny _ _ (exec (PySem.Stmt.Assign _ (PySem.Expr.ListComp _ _ _ _) _) _) _ _ _)); (fail_if_success (with_reducible show wpAny _ _ (call (Value.ref _) _) _ _ _)); (fail_if_success (with_reducible show wpAny _ _ (pyIter (Value.ref _)) _ _ _)); (fail_if_success (show LCg.CompSrc _ _ _ _ _ _ _ _ _ _ _ _ _ _)); first | (k_unfold; (try dsimp only)) | (k_end; wrow_close) | walk1 | (dsimp only; walk1) | (leave1; (try dsimp only)))))))
        ((refine' Mine.call_at (by assumption) (by assumption) (by assumption) (by rfl) (by rfl) (fun BB => Mine.law_name_F ?Xq387 ?Tq387 BB ?hdq387 ?huq387 ?hl0q387 ?hlq387 ?hiq387 ?hwq387 ?hnq387) ?_; (case Xq387 => (first | (with_reducible assumption) | exact Frag.In.keeps (by assumption) (Fr.keep (by assumption)) | exact ⟨_, _, _, Top.keeps (by assumption) (Fr.keep (by assumption))⟩)); (case Tq387 => (first | (with_reducible assumption) | exact Frag.In.keeps (by assumption) (Fr.keep (by assumption)) | exact ⟨_, _, _, Top.keeps (by assumption) (Fr.keep (by assumption))⟩)); (case hdq387 => exact Mine.room1 (by assumption) rfl); (case huq387 => exact Mine.room3 (by assumption) rfl); (case hl0q387 => (first | assumption | exact Or.inl (News.isList (by assumption) (by k_mem)) | exact Or.inr (News.isTup (by assumption) (by k_mem)) | exact Mine.Empty.keeps (Fr.keep (by assumption)) (by assumption) | exact Mine.Empty.keeps (Fr.keep (by assumption)) (Mine.Empty.keeps (Fr.keep (by assumption)) (by assumption)))); (case hlq387 => (first | assumption | exact News.isTup (by assumption) (by k_mem) | exact stays_tup (Fr.keep (by assumption)) (by assumption) | exact stays_tup (Fr.keep (by assumption)) (stays_tup (Fr.keep (by assumption)) (by assumption)))); (case hiq387 => assumption); (case hwq387 => assumption); (case hnq387 => assumption); (rintro v2q387 h2q387 tk2q387 F2q387 N2q387 st2q387 ⟨t2q387, hv2q387⟩); subst hv2q387))
        (repeat' (((first | ((fail_if_success (with_reducible show wpAny _ _ (exec (Stmt.While _ _ _ _) _) _ _ _)); (fail_if_success (with_reducible show wpAny _ _ (exec (Stmt.For _ _ _ _ _) _) _ _ _)); (fail_if_success (with_reducible show wpAny _ _ (eval (PySem.Expr.ListComp _ _ _ _) _) _ _ _)); (fail_if_success (with_reducible show wpAny _ _ (exec (PySem.Stmt.Assign _ (PySem.Expr.ListComp _ _ _ _) _) _) _ _ _)); (fail_if_success (with_reducible show wpAny _ _ (call (Value.ref _) _) _ _ _)); (fail_if_success (with_reducible show wpAny _ _ (pyIter (Value.ref _)) _ _ _)); (fail_if_success (show LCg.CompSrc _ _ _ _ _ _ _ _ _ _ _ _ _ _)); first | (k_unfold; (try dsimp only)) | (k_end; wrow_close) | walk1 | (dsimp only; walk1) | (leave1; (try dsimp only)))))))
        (((try k_unfold); (try dsimp only); refine Mine.ret_of (Fr.keep (by assumption)) ?_ rfl))
        rename News _ _ _ _ => N9
        rename ReadsVia _ _ _ _ => hv9
        exact made_pair N9 (by k_mem) (hv9.more (fun p hp => by repeat' (first | exact hp | refine List.Mem.tail _ ?_))) (rowT_nmS_t hok).symm

end
end
end
theorem call_dataE {w : World} {A₀ : Around} {dp un : Nat} {outer : List Env} {gd : Option (List Code)} {base h₀ g₀ : Heap} {cn : Str} {cs : Scope} {L a : Addr} {ccd : Value} {s : Shared} {E : Value → Shared → Prop} {Q : Value → Shared → Prop} {m : Str → Option Value} {act Z : List (Addr × Obj)} {f : Value} {args : List Value} {α : Type} {PP : α → Prop} {d : α → PyData}
    (B : Below A₀ base outer h₀) (F : Fr h₀ L s.heap m) (N : News h₀ L s.heap (act ++ Z)) (hA : A₀ = AA dp outer gd un) (hk : cs.kind = .function) (hg : g₀.StaysIn h₀)
    (hc : ∀ g : Heap, g.StaysIn s.heap → g₀.StaysIn g → (∀ p ∈ Z, g.get? p.1 = some p.2) → Below (AA (dp + 1) (envOf cn cs L a ccd :: outer) gd (un + 3)) base (envOf cn cs L a ccd :: outer) s.heap →
      codeAny (model P w) (AA (dp + 1) (envOf cn cs L a ccd :: outer) gd (un + 3)) (.call f ⟨args, []⟩) (Ret s fun v h' => ∃ x, PP x ∧ Made g s.heap h' v (d x)) s)
    (h : ∀ v h' tk Y x, PP x → Fr h₀ L h' m → News h₀ L h' (act ++ (Z ++ Y)) → (∀ p ∈ Y, s.heap.get? p.1 = none) → s.heap.StaysIn h' → ReadsVia g₀ (Z ++ Y) v (d x) → Q v { s with heap := h', toks := tk }) :
    wpAny (model P w) (A₀.deeper (envOf cn cs L a ccd)) (call f args) Q E s := by
  have k0 : g₀.StaysIn s.heap := fun b o e => F.keep b o (hg b o e)
  have kZ : ∀ p ∈ Z, s.heap.get? p.1 = some p.2 := fun p hp => (N p (List.mem_append_right _ hp)).1
  refine call_at B F N hA hk (fun BB => hc (dataHeap s.heap g₀ Z) dataHeap_in (dataHeap_base k0) (dataHeap_led kZ) BB) fun v h' tk F' N' st hm => ?_
  obtain ⟨x, hx, hm⟩ := hm
  refine h v h' tk (freshOf s.heap h') x hx F' ?_ (fun p hp => (mem_fresh hp).1) st ?_
  · intro p hp
    rcases List.mem_append.mp hp with hp | hp
    · exact N' p (List.mem_append_left _ hp)
    rcases List.mem_append.mp hp with hp | hp
    · exact N' p (List.mem_append_right _ hp)
    obtain ⟨e1, e2⟩ := mem_fresh hp
    exact News.fresh F (news := []) (fun _ hq => nomatch hq) e1 e2 p (.head _)
  · intro H h1 h2
    refine hm H (dataHeap_out k0 kZ h1 fun p hp => h2 p (List.mem_append_left _ hp)) fun x o e e' => ?_
    exact h2 _ (List.mem_append_right _ (fresh_mem e e'))
theorem Ret.mono {s : Shared} {P1 P2 : Value → Heap → Prop} {r : Result} {s' : Shared} (h : Ret s P1 r s') (k : ∀ v h', P1 v h' → P2 v h') : Ret s P2 r s' := by
  obtain ⟨v, h', tk, h1, h2, h3, h4⟩ := h
  exact ⟨v, h', tk, h1, h2, h3, k _ _ h4⟩
/-- what one action over the last names is -/
def Good (κ : Int) (us : List Tr) (T : Tr) : Prop := T.ok ∧ (T.wt ≤ 4 + wts us ∨ (κ = 1 ∧ us.length = 1 ∧ T.wt ≤ 2 + 2 * wts us))
theorem law_over_any {w : World} {dp un : Nat} {outer : List Env} {gd : Option (List Code)} {base g g₀ : Heap} {s : Shared} {a : Addr} {tk tq : Tok} {κ q : Int} {vs : List Value} {us : List Tr} {Z : List (Addr × Obj)}
   (X : (Mine.hd.heap_39 w.params).In s.heap) (T' : TopH s.heap) (B : Below (AA dp outer gd un) base outer s.heap) (hd : dp + 40 < recursionLimit) (hu : un + 400 < cLine)
   (hg : g.StaysIn s.heap) (hgg : g₀.StaysIn g) (hZ : ∀ p ∈ Z, g.get? p.1 = some p.2) (hr : ReadsViaAll g₀ Z vs (us.map nodeD)) (hl : s.heap.IsList a vs.toArray) (hsz : wts us ≤ 5000) (hok : oks us) (hne : us ≠ []) (h3 : us.length ≤ 3)
   (hκ : κ = 1 ∨ κ = 2 ∨ κ = 3 ∨ κ = 4) (h12 : κ = 1 → us.length ≤ 2) :
   codeAny (model P w) (AA dp outer gd un) (.call (.ref 108) ⟨[.ref a, .int κ tk, .int q tq], []⟩) (Ret s fun v h' => ∃ T, Good κ us T ∧ Made g s.heap h' v (nodeD T)) s := by
  obtain ⟨as, ra⟩ := hr g hgg hZ
  have ra' : ReadsAll g vs.toArray.toList (us.map nodeD) as := ra
  rcases hκ with rfl | rfl | rfl | rfl
  · obtain ⟨T0, h0⟩ : ∃ T0, us[0]? = some T0 := ⟨_, List.getElem?_eq_getElem (by cases us with | nil => exact absurd rfl hne | cons _ _ => simp)⟩
    obtain ⟨TL, hL⟩ : ∃ TL, us.getLast? = some TL := ⟨_, List.getLast?_eq_some_getLast hne⟩
    have o0 := oks_all hok T0 (List.mem_of_getElem? h0)
    have oL := oks_all hok TL (List.mem_of_getLast? hL)
    refine codeAny_mono (law_over1 X T' B hd hu hg hl ra' hsz hok h0 hL) fun r s' h => h.mono fun v h' hm => ⟨_, ⟨?_, ?_⟩, hm⟩
    · rw [Tr.ok]
      refine ⟨oks_of fun t ht => ?_, ⟨_, _, rfl, shutT_kind inK_ot_o (by decide), shutT_kind inK_ot_t (by decide)⟩⟩
      simp at ht
      rcases ht with rfl | rfl
      · exact shutT_ok _ o0
      · exact oL
    · have hw := shutT_wt (inK "ot") T0
      have h12' := h12 rfl
      match us, hne, h12', h0, hL with
      | [x], _, _, h0, hL =>
        simp at h0 hL; subst h0; subst hL
        right
        refine ⟨rfl, rfl, ?_⟩
        simp only [Tr.wt, wts]; omega
      | [x, y], _, _, h0, hL =>
        simp at h0 hL; subst h0; subst hL
        left
        simp only [Tr.wt, wts]; omega
  · refine codeAny_mono (law_over2 X T' B hd hu hg hl ra' (by omega) hok hne) fun r s' h => h.mono fun v h' hm => ⟨_, ⟨?_, ?_⟩, hm⟩
    · rw [Tr.ok]; exact ⟨hok, hne⟩
    · left; rw [Tr.wt]; omega
  · refine codeAny_mono (law_over3 X T' B hd hu hg hl ra' hsz hok hne) fun r s' h => h.mono fun v h' hm => ⟨_, ⟨?_, ?_⟩, hm⟩
    · refine rowT_ok (.inl rfl) (oks_shut _ hok) (by simpa using hne) fun _ T hT => ?_
      obtain ⟨u, _, rfl⟩ := List.mem_map.mp hT
      exact shutT_kind inK_t_t (by decide)
    · left
      have h1 := rowT_wt .o (us.map (shutT (inK "t")))
      have h2 := wts_shut (inK "t") us
      omega
  · refine codeAny_mono (law_over4 X T' B hd hu hg hl ra' (by omega) hok hne) fun r s' h => h.mono fun v h' hm => ⟨_, ⟨?_, ?_⟩, hm⟩
    · exact rowT_ok (.inr rfl) hok hne (fun e => nomatch e)
    · left
      have h1 := rowT_wt .t us
      omega

def selN (start stop step : Int) (i : Nat) : Bool :=
  if step > 0 then start ≤ i && i < stop && (i - start) % step == 0
  else stop < i && i ≤ start && (start - i) % (-step) == 0
theorem sel_take {α : Type} (l : List α) (j : Nat) : ∀ (k : Nat), ((l.zipIdx k).filterMap fun p => if selN (j : Int) ((l.length + k : Nat) : Int) 1 p.2 then none else some p.1) = l.take (j - k) := by
  induction l with
  | nil => intro k; simp
  | cons x l ih =>
    intro k
    have ih := ih (k + 1)
    rw [List.zipIdx_cons, List.filterMap_cons]
    have e : (x :: l).length + k = l.length + (k + 1) := by simp; omega
    rw [e, ih]
    have hm : ((k : Int) - (j : Int)) % 1 = 0 := Int.emod_one _
    by_cases h : j ≤ k
    · have hs : selN (j : Int) ((l.length + (k + 1) : Nat) : Int) 1 k = true := by
        simp only [selN, show (1 : Int) > 0 by decide, if_true, hm]
        simp; omega
      simp only [hs, if_true]
      rw [show j - (k + 1) = 0 from by omega, show j - k = 0 from by omega]
      simp
    · have hs : selN (j : Int) ((l.length + (k + 1) : Nat) : Int) 1 k = false := by
        simp only [selN, show (1 : Int) > 0 by decide, if_true, hm]
        simp; omega
      simp only [hs]
      rw [show j - k = (j - (k + 1)) + 1 from by omega, List.take_succ_cons]
      rfl
section
variable {prog : Program} {w : World} {A : Around} {E : Value → Shared → Prop} {s : Shared}
theorem upd_via {l : Addr} {items : Array Value} {n : Nat} {f : Array Value → Array Value} {t : Array Value} {Q : Unit → Shared → Prop} (hl : s.heap.get? l = some (W.listOf items n)) (hf : f items = t) (hz : items.size ≤ sizeLine)
    (hs : ∀ f : Array Value → Array Value, f items = t → (f items).size ≤ sizeLine + 1) (h : ∀ f : Array Value → Array Value, f items = t → Q () { s with heap := s.heap.update l (Obj.mapSeq f) }) :
    wpAny (model prog w) A (Builtin.List.listUpdate (.ref l) f) Q E s := by
  show wpAny (model prog w) A (updateSeq l f) Q E s
  exact wpAny_updateSeq hl rfl (h f hf) hz (hs f hf)
theorem delItem_from {l sl : Addr} {items : Array Value} {n : Nat} {k : Int} {u : Tok} {j : Nat} {Q : Unit → Shared → Prop} (hl : s.heap.get? l = some (W.listOf items n))
    (hs : s.heap.IsSliceOf sl (.int k u) .none .none) (hb : sliceBounds (some k) none none items.size = ((j : Int), (items.size : Int), 1)) (hz : items.size ≤ 1000000)
    (h : ∀ f : Array Value → Array Value, f items = (items.toList.take j).toArray → Q () { s with heap := s.heap.update l (Obj.mapSeq f) }) :
    wpAny (model prog w) A (delItem (.ref l) (.ref sl)) Q E s := by
  obtain ⟨os, hos, hcs, hds⟩ := id hs
  have hTs : s.TypeIs (.ref sl) "slice" := ⟨os, hos, hcs⟩
  have hTl : s.TypeIs (.ref l) "list" := ⟨_, hl, rfl⟩
  refine wpAny_delItem_slot hTl (by decide) PySem.F.slot_list_delitem ?_
  refine wpAny_call_entry PySem.F.slot_list_delitem hTl PySem.F.entry_list_delitem ?_ (PySem.F.args_list_delitem_2 _ _)
  show wpAny _ _ (Builtin.List.listSubscript? (.ref sl) >>= _) _ _ s
  refine wpAny_bind ?_
  unfold Builtin.List.listSubscript?
  refine wpAny_bind (wpAny_specialOf hTs slice_no_index ?_)
  simp only [Option.isNone_none, if_true]
  refine wpAny_pure ?_
  show wpAny _ _ (typeOf (.ref sl) >>= _) _ _ s
  refine wpAny_bind (wpAny_typeOf hTs ?_)
  rw [if_neg (by decide)]
  rw [listSliceParts_eq]
  refine wpAny_bind (wpAny_bind (wpAny_field hos hds (x := .none) rfl (wpAny_bind (wpAny_listPart .none ?_))))
  rw [if_neg (show ¬ ((rawPart none == rawInt 0) = true) from Bool.false_ne_true)]
  refine wpAny_bind (wpAny_field hos hds (x := .int k u) rfl (wpAny_bind (wpAny_listPart (.int k u) ?_)))
  refine wpAny_bind (wpAny_field hos hds (x := .none) rfl (wpAny_bind (wpAny_listPart .none (wpAny_pure ?_))))
  refine wpAny_bind (m := Builtin.List.listItems (.ref l)) ?_
  unfold Builtin.List.listItems
  refine wpAny_bind (wpAny_seqItems hl rfl (wpAny_pure ?_))
  refine wpAny_bind (wpAny_of_eq (sliceIndices_raw (some k) none none items.size (by simp)) ?_)
  rw [hb]
  refine wpAny_bind (wpAny_rule ?_)
  have hf : ∀ f : Array Value → Array Value, f items = (items.toList.take j).toArray → (f items).size ≤ sizeLine + 1 := by
    intro f e
    rw [e, List.size_toArray, List.length_take, Array.length_toList, sizeLine_eq]; omega
  have e0 := congrArg List.toArray (sel_take items.toList j 0)
  rw [Nat.add_zero, Array.length_toList, Nat.sub_zero] at e0
  refine wpAny_bind ?_
  refine upd_via (items := items) hl e0 (by rw [sizeLine_eq]; omega) hf ?_
  intro f e
  refine wpAny_bind (wpAny_letGo ?_)
  exact wpAny_pure ⟨_, rfl, h f e⟩
end
section
variable {prog : Program} {w : World} {A : Around} {E : Value → Shared → Prop} {s : Shared} {h₀ : Heap} {L D : Addr} {m : Str → Option Value} {news news' : List (Addr × Obj)} {its : Array Value} {n : Nat}
theorem del_U {k : Int} {u : Tok} {j : Nat} {Q : Unit → Shared → Prop} (F : Fr h₀ L s.heap m) (N : News h₀ L s.heap news) (hb : sliceBounds (some k) none none its.size = ((j : Int), (its.size : Int), 1)) (hlt : j < its.size)
    (U : W.Upd D (W.listOf its n) (W.listOf (its.toList.take j).toArray (n + 1)) news news') (hz : its.size ≤ 1000000)
    (h : ∀ h', Fr h₀ L h' m → News h₀ L h' news' → Q () { s with heap := h' }) :
    wpAny (model prog w) A (delItem (.ref D) (.ref s.heap.objs.size)) Q E { s with heap := s.heap.push { cls := .type "slice", data := .fields #[.int k u, .none, .none] } } := by
  obtain ⟨pre, post, rfl, rfl, a, c⟩ := U.split
  have N2 : News h₀ L (s.heap.push { cls := .type "slice", data := .fields #[.int k u, .none, .none] }) (pre ++ (D, W.listOf its n) :: post) := N.grown fun _ _ e => Heap.get?_push_of_some _ e
  have F2 := F.push { cls := .type "slice", data := .fields #[.int k u, .none, .none] }
  have z := N2 (D, W.listOf its n) (List.mem_append.mpr (.inr (.head _)))
  refine delItem_from (s := { s with heap := s.heap.push { cls := .type "slice", data := .fields #[.int k u, .none, .none] } }) z.1 (Heap.IsSliceOf.new ..) hb hz fun f e => h _ (F2.change (Heap.SameBut.update ..) z.2.1 z.2.2) (W.kl_turn f N2 a c ?_ ?_)
  · exact e
  · rw [List.size_toArray, List.length_take, Array.length_toList]; omega
end
theorem slice_last {k : Int} {m n : Nat} (hk : k = -(m : Int)) (hm : 1 ≤ m) : sliceBounds (some k) none none n = (((n - m : Nat) : Int), (n : Int), 1) := by
  subst hk
  simp only [sliceBounds, Option.getD_none, show (1 : Int) > 0 by decide, if_true, if_pos (show -(m : Int) < 0 by omega)]
  congr 1
  omega
theorem pick_last {k : Int} {m : Nat} {its : Array Value} (hk : k = -(m : Int)) (hm : 1 ≤ m) : slicePick its (some k) none none = (its.toList.drop (its.size - m)).toArray := by
  rw [W.kmk_pick_nat its (slice_last hk hm), List.take_of_length_le (by rw [List.length_drop, Array.length_toList]; omega)]

/-- the stack behind so many numbers -/
def Stk (b : Nat) (ts : List Tr) : Prop := oks ts ∧ wts ts ≤ 8 * b ∧ ts.length ≤ b ∧ (b ≠ 0 → ts ≠ [])
theorem oks_append {xs ys : List Tr} (h1 : oks xs) (h2 : oks ys) : oks (xs ++ ys) := oks_of fun t ht => (List.mem_append.mp ht).elim (oks_all h1 t) (oks_all h2 t)
theorem oks_word {ts : List Tr} {l : List Nat} (h : oks ts) (hl : isW l) : oks (ts ++ [Tr.word l]) := oks_append h (oks_of fun t ht => by rw [List.mem_singleton.mp ht, Tr.ok]; exact hl)
theorem wts_word {ts : List Tr} {l : List Nat} (hl : l.length ≤ 2) : wts (ts ++ [Tr.word l]) ≤ wts ts + 3 := by
  rw [wts_append, wts, wts, Tr.wt]; omega
theorem stk_word {b : Nat} {ts : List Tr} {l : List Nat} (h : Stk b ts) (hw : isW l) (hl : l.length ≤ 2) : Stk (b + 1) (ts ++ [Tr.word l]) := by
  obtain ⟨h1, h2, h3, h4⟩ := h
  have := wts_word (ts := ts) hl
  exact ⟨oks_word h1 hw, by omega, by simp; omega, fun _ => by simp⟩
theorem stk_over {b m : Nat} {κ : Int} {ts : List Tr} {l : List Nat} {T : Tr} (h : Stk b ts) (hw : isW l) (hl : l.length ≤ 2) (hm : 1 ≤ m) (hκ : κ = 1 → m = 2) (hG : Good κ ((ts ++ [Tr.word l]).drop ((ts ++ [Tr.word l]).length - m)) T) :
    Stk (b + 1) ((ts ++ [Tr.word l]).take ((ts ++ [Tr.word l]).length - m) ++ [T]) := by
  obtain ⟨h1, h2, h3, h4⟩ := h
  have hw3 := wts_word (ts := ts) hl
  have ho := oks_word h1 hw
  generalize hts : ts ++ [Tr.word l] = t1 at *
  have hlen : t1.length = ts.length + 1 := by rw [← hts]; simp
  obtain ⟨g1, g2⟩ := hG
  have hsp := wts_append (t1.take (t1.length - m)) (t1.drop (t1.length - m))
  rw [List.take_append_drop] at hsp
  refine ⟨oks_append (oks_of fun t ht => oks_all ho t (List.mem_of_mem_take ht)) (oks_of fun t ht => by rw [List.mem_singleton.mp ht]; exact g1), ?_, ?_, fun _ => by simp⟩
  · rw [wts_append, wts, wts]
    rcases g2 with g2 | ⟨e1, e2, g2⟩
    · omega
    · have hm2 := hκ e1
      rw [List.length_drop] at e2
      have ht0 : ts.length = 0 := by omega
      have hb : b = 0 := by
        false_or_by_contra
        rename_i hb
        exact h4 hb (List.eq_nil_of_length_eq_zero ht0)
      have hj : t1.length - m = 0 := by omega
      rw [hj] at hsp g2 ⊢
      simp only [List.take_zero, wts, List.drop_zero] at hsp g2 ⊢
      have : wts ts = 0 := by rw [List.eq_nil_of_length_eq_zero ht0]; rfl
      omega
  · rw [List.length_append, List.length_take, List.length_singleton]; omega

section
local macro_rules | `(tactic| walk_at "my_apart") => `(tactic| first | (refine Mine.Apart.hd ?_; walk_at "my_mem") | (refine Mine.Apart.hd' ?_; walk_at "my_mem") | (refine Mine.Apart.tl ?_; walk_at "my_apart"))
local macro_rules | `(tactic| walk_at "my_ne") => `(tactic| first | (refine Mine.Ap.ne (by with_reducible assumption) ?_; walk_at "my_apart") | k_ne)
local macro_rules | `(tactic| walk_at "my_tail") => `(tactic| first | exact Mine.Ap.zne (by with_reducible assumption) (by walk_at "my_mem") | exact Mine.all_lt (by with_reducible assumption) (by ((intro pq395 hpq395; repeat' (first | exact hpq395 | refine List.Mem.tail _ ?_)))))
local macro_rules | `(tactic| walk_at "my_all") => `(tactic| first | exact List.forall_mem_nil _ | walk_at "my_tail" | (refine' List.forall_mem_cons.mpr ⟨?a, ?b⟩; (case a => walk_at "my_ne"); (case b => walk_at "my_all")))
local macro_rules | `(tactic| walk_at "my_upd") => `(tactic| first | (refine' W.Upd.head ?a; (case a => walk_at "my_all")) | (refine' W.Upd.tail ?a ?b; (case a => walk_at "my_ne"); (case b => walk_at "my_upd")))
theorem Ap.four {LV a p1 p2 p3 b q1 q2 q3 : Addr} {M Z L1 L2 L3 L4 : List (Addr × Obj)} (h : Ap [LV, a, p1, p2, p3] M Z)
    (h1 : ∀ p ∈ L1, p.1 < q1) (h2 : ∀ p ∈ L2, p.1 < q2) (h3 : ∀ p ∈ L3, p.1 < q3) (h4 : ∀ p ∈ L4, p.1 < b)
    (i1 : InLed L1 [LV, a, p1, p2, p3]) (i2 : InLed L2 [q1, LV, a, p1, p2, p3]) (i3 : InLed L3 [q2, q1, LV, a, p1, p2, p3]) (i4 : InLed L4 [q3, q2, q1, LV, a, p1, p2, p3])
    (s1 : ∀ p ∈ M ++ Z, p ∈ L1) (s2 : ∀ p ∈ M ++ Z, p ∈ L2) (s3 : ∀ p ∈ M ++ Z, p ∈ L3) (s4 : ∀ p ∈ M ++ Z, p ∈ L4) : Ap [LV, b, q1, q2, q3, a, p1, p2, p3] M Z :=
  ((((h.grow h1 i1 s1).grow h2 i2 s2).grow h3 i3 s3).grow h4 i4 s4).pick (by (repeat' (first | exact Mine.Pick.nil | (refine Mine.Pick.cons (by walk_at "my_mem") ?_ ?_) | exact List.forall_mem_nil _ | (refine List.forall_mem_cons.mpr ⟨by walk_at "my_apart", ?_⟩))))
theorem Ap.init {LV a p1 p2 p3 : Addr} {L2 L3 L4 L5 : List (Addr × Obj)} (h2 : ∀ p ∈ L2, p.1 < p2) (h3 : ∀ p ∈ L3, p.1 < p3) (h4 : ∀ p ∈ L4, p.1 < a) (h5 : ∀ p ∈ L5, p.1 < LV)
    (i2 : InLed L2 [p1]) (i3 : InLed L3 [p2, p1]) (i4 : InLed L4 [p3, p2, p1]) (i5 : InLed L5 [a, p3, p2, p1]) : Ap [LV, a, p1, p2, p3] [] [] := by
  have h1 : Ap [p1] [] [] := ⟨List.pairwise_singleton _ _, fun _ _ _ h => (nomatch h), ⟨List.nodup_nil, fun _ h => (nomatch h)⟩⟩
  exact ((((h1.grow h2 i2 (fun _ h => nomatch h)).grow h3 i3 (fun _ h => nomatch h)).grow h4 i4 (fun _ h => nomatch h)).grow h5 i5 (fun _ h => nomatch h)).pick (by (repeat' (first | exact Mine.Pick.nil | (refine Mine.Pick.cons (by walk_at "my_mem") ?_ ?_) | exact List.forall_mem_nil _ | (refine List.forall_mem_cons.mpr ⟨by walk_at "my_apart", ?_⟩))))

theorem rd_close {w : World} {dp un : Nat} {outer : List Env} {gd : Option (List Code)} {base g h₀ : Heap} {s : Shared} {L a' cd' : Addr} {T : Str} {tT : Tok} {LV : Addr} {i : Nat} {lv : Lv} {lvs : List Lv} {m : Str → Option Value} {news : List (Addr × Obj)} {J : (Str → Option Value) → List (Addr × Obj) → Prop} {sg : Str} {c : Nat}
   (X : (Mine.hd.heap_39 w.params).In h₀) (TT : TopH h₀) (B : Below (AA dp outer gd un) base outer h₀) (hd : dp + 30 < recursionLimit) (hu : un + 300 < cLine) (hg : g.StaysIn h₀)
   (F : Fr h₀ L s.heap m) (N : News h₀ L s.heap news) (hst : RSt g T tT LV i (lv :: lvs) m news) (hi : i < T.length) (hT : T.length ≤ 100000) (hc : Txt.item T (i : Int) = sg) (hsg : sg = ⟨#[c]⟩) (hcc : c = 47 ∨ c = 44 ∨ c = 125 ∨ c = 93)
   (h47 : c = 47 → ∀ m n, RSt g T tT LV (i + 1) (⟨lv.s, lv.l1, lv.l2, lv.l3 ++ [lv.cur.dt], .w []⟩ :: lvs) m n → J m n)
   (h44b : c = 44 → Txt.slice T (some ((i : Int) + 1 - 1)) (some ((i : Int) + 1 + 1)) = ", " → ∀ m n, RSt g T tT LV (i + 2) (⟨lv.s, lv.l1, lv.l2 ++ [one .o (lv.l3 ++ [lv.cur.dt])], [], .w []⟩ :: lvs) m n → J m n)
   (hbl : Txt.slice T (some ((i : Int) + 1 - 1)) (some ((i : Int) + 1 + 1)) = ", " → c = 44)
   (h44 : c = 44 → Txt.slice T (some ((i : Int) + 1 - 1)) (some ((i : Int) + 1 + 1)) ≠ ", " → ∀ m n, RSt g T tT LV (i + 1) (⟨lv.s, lv.l1 ++ [one .t (lv.l2 ++ [one .o (lv.l3 ++ [lv.cur.dt])])], [], [], .w []⟩ :: lvs) m n → J m n)
   (hcl : c ≠ 47 → c ≠ 44 → ∃ up ups, lvs = up :: ups ∧ (c = 125 → lv.s = 123 ∧ ∀ m n, RSt g T tT LV (i + 1) ({ up with cur := .d (.list (.str (kdS .c) :: (lv.l1 ++ [one .t (lv.l2 ++ [one .o (lv.l3 ++ [lv.cur.dt])])]))) } :: ups) m n → J m n) ∧
     (c = 93 → lv.s = 91 ∧ (lv.l1 ++ [one .t (lv.l2 ++ [one .o (lv.l3 ++ [lv.cur.dt])])]).length = 1 ∧ ∀ m n, RSt g T tT LV (i + 1) ({ up with cur := .d (.list (.str (kdS .p) :: up.cur.dt :: (lv.l1 ++ [one .t (lv.l2 ++ [one .o (lv.l3 ++ [lv.cur.dt])])]))) } :: ups) m n → J m n)) :
   wpAny (model P w) ((AA dp outer gd un).deeper (envOf (Str.ofString "_law_read") (scopeOf (lawD 15)) L a' (.ref cd'))) (execs (whBody (stOf 15 2)) (envOf (Str.ofString "_law_read") (scopeOf (lawD 15)) L a' (.ref cd')))
     (RTurn h₀ L s J) (fun _ _ => False) s := by
  obtain ⟨ti, ex, vs, nL, M, Z, rfl, rfl, hlv, hdis, hb⟩ := hst
  cases hlv with
  | @cons _ _ vs' M a p1 p2 p3 ts vc i1 i2 i3 n n1 n2 n3 r1 r2 r3 rc tail =>
  have hap : Ap [LV, a, p1, p2, p3] M Z := Ap.of (ps := [(LV, _), (a, _), (p1, _), (p2, _), (p3, _)]) hdis
  simp only [List.cons_append] at N
  have hk0 : g.StaysIn s.heap := fun b o e => F.keep b o (hg b o e)
  have hkZ : ∀ p ∈ Z, s.heap.get? p.1 = some p.2 := fun p hp => (N p (.tail _ (.tail _ (.tail _ (.tail _ (.tail _ (List.mem_append_right _ hp))))))).1
  have hz1 := rva_len r1 hk0 hkZ
  have hz2 := rva_len r2 hk0 hkZ
  have hz3 := rva_len r3 hk0 hkZ
  have hb' := hb
  obtain ⟨hb1, hb2⟩ := hb
  have hb3 := hb2 lv (.head _)
  have hlast : (Value.ref a :: vs').reverse.toArray.toList.getLast? = some (.ref a) := by simp
  have hvl := tail.len
  simp only [List.length_cons] at hb1 hvl
  have hLz : (Value.ref a :: vs').reverse.toArray.size ≤ 1000000 := by simp; omega
  obtain ⟨mean, mg, mb, TT⟩ := TT
  conv in (whBody _) => whnf
  conv in (occs := *) (scopeOf _) => all_goals whnf
  show wpAny (model P w) _ _ _ _ _
  k_fold
  have hin : (!(Builtin.Str.occurrences (Str.ofString "/,}]") sg 0 (Str.ofString "/,}]").length 1).isEmpty) = true := by
    subst hsg; rcases hcc with rfl | rfl | rfl | rfl <;> decide +kernel
  (repeat' (((first | ((((with_reducible show wpAny _ _ (call (Value.builtin "list.append") [Value.ref _, _]) _ _ _); refine Mine.append_U (by with_reducible assumption) (by with_reducible assumption) (by walk_at "my_upd") (by walk_at "my_fit") ?_; intro h5q400 F5q400 N5q400))) | ((((with_reducible show wpAny _ _ (setItem (Value.ref _) (Value.int _ _) _) _ _ _); refine Mine.set_U (by with_reducible assumption) (by with_reducible assumption) (by decide) (by decide) (by walk_at "my_upd") (by rfl) ?_; intro h5q401 F5q401 N5q401))) | ((((with_reducible show wpAny _ _ (subscriptTail _ _ (Value.str _ _) (Value.int _ _)) _ _ _); refine Mine.sign_at (by with_reducible assumption) (by omega) (by omega) (by with_reducible assumption) ?_))) | ((((with_reducible show wpAny _ _ (compareOp CmpOp.In (Value.str _ _) (Value.str _ _)) _ _ _); first | refine Mine.in_lit (by with_reducible assumption) ?_ | refine Mine.in_lit (b := true) (by decide +kernel) ?_ | refine Mine.in_lit (b := false) (by decide +kernel) ?_))) | ((((with_reducible show wpAny _ _ (subscriptTail _ _ (Value.ref _) (Value.int (-1) _)) _ _ _); refine Mine.item_last (by walk_at "my_list") (by with_reducible assumption) ?_))) | ((((with_reducible show wpAny _ _ (compareOp CmpOp.NotIn (Value.str _ _) (Value.ref _)) _ _ _); refine Mine.notin_two (by walk_at "my_list") (by decide +kernel) ?_))) | ((((with_reducible show wpAny _ _ (call (Value.builtin "list.pop") [Value.ref _]) _ _ _); refine Mine.pop_U (by with_reducible assumption) (by with_reducible assumption) (by walk_at "my_upd") (by exact Mine.kl_last_rev _ _) (by (rw [sizeLine_eq]; (simp only [List.toList_toArray, List.length_reverse, List.length_cons] at *); omega)) ?_; intro h5q406 F5q406 N5q406))) | ((first | ((fail_if_success (with_reducible show wpAny _ _ (exec (Stmt.While _ _ _ _) _) _ _ _)); (fail_if_success (with_reducible show wpAny _ _ (exec (Stmt.For _ _ _ _ _) _) _ _ _)); (fail_if_success (with_reducible show wpAny _ _ (eval (PySem.Expr.ListComp _ _ _ _) _) _ _ _)); (fail_if_success (with_reducible show wpAny _ _ (exec (PySem.Stmt.Assign _ (PySem.Expr.ListComp _ _ _ _) _) _) _ _ _)); (fail_if_success (with_reducible show wpAny _ _ (call (Value.ref _) _) _ _ _)); (fail_if_success (with_reducible show wpAny _ _ (pyIter (Value.ref _)) _ _ _)); (fail_if_success (show LCg.CompSrc _ _ _ _ _ _ _ _ _ _ _ _ _ _)); first | (k_unfold; (try dsimp only)) | (k_end; wrow_close) | walk1 | (dsimp only; walk1) | (leave1; (try dsimp only)))))))))
  · rename (_ == _) = true => hq
    have hq := sg_eq (d := 47) hsg (by decide +kernel) hq
    dsimp only
    rename News _ _ _ _ => N9
    rename Fr _ _ _ _ => F9
    refine RTurn.cont F9 N9 (h47 hq _ _ (rst_ap (ti := _) (ex := _) (by (((simp only [← Mine.mset_at]); rfl))) r1 r2 ?_ cur_empty tail hap ?_))
    · rw [Array.toList_push]; exact rva_snoc r3 rc.reads
    · exact bnd_top hb' (bnd_snoc3 hb3)
  rename (_ == _) = false => hq47
  have hc47 := sg_ne (d := 47) hsg (by decide +kernel) hq47
  have r3' : ReadsViaAll g Z (i3.push vc).toList (lv.l3 ++ [lv.cur.dt]) := by rw [Array.toList_push]; exact rva_snoc r3 rc.reads
  rename News _ _ _ _ => NB
  refine' Mine.call_data (act := _ :: _ :: _ :: _ :: _ :: M) (Z := Z) (by assumption) (by assumption) NB (by rfl) (by rfl) hg (fun g2 hg2 hgg hZ BB => Mine.law_one_via ?X1 ?T1 BB ?hd1 ?hu1 hg2 hgg hZ r3' ?hl1 ?hsz1) ?_
  case X1 => (first | (with_reducible assumption) | exact Frag.In.keeps (by assumption) (Fr.keep (by assumption)) | exact ⟨_, _, _, Top.keeps (by assumption) (Fr.keep (by assumption))⟩)
  case T1 => (first | (with_reducible assumption) | exact Frag.In.keeps (by assumption) (Fr.keep (by assumption)) | exact ⟨_, _, _, Top.keeps (by assumption) (Fr.keep (by assumption))⟩)
  case hd1 => exact Mine.room1 (by assumption) rfl
  case hu1 => exact Mine.room3 (by assumption) rfl
  case hl1 => walk_at "my_list"
  case hsz1 => rw [List.length_append, List.length_singleton]; omega
  intro v1 h1' tk1 Y1 F1 N1 hY1 st1 hv1
  simp only [List.cons_append] at N1
  replace hap := hap.up NB hY1 (by (repeat' (first | exact Mine.InLed.nil | refine Mine.InLed.cons (by walk_at "my_mem") ?_))) (fun p hp => (.tail _ (.tail _ (.tail _ (.tail _ (.tail _ (List.mem_append_left _ hp)))))))
  replace r1 := rva_up r1 (fun p hp => List.mem_append_left Y1 hp)
  replace r2 := rva_up r2 (fun p hp => List.mem_append_left Y1 hp)
  replace tail := tail.more (fun p hp => List.mem_append_left Y1 hp)
  have r2' : ReadsViaAll g (Z ++ Y1) (i2.push v1).toList (lv.l2 ++ [one .o (lv.l3 ++ [lv.cur.dt])]) := by rw [Array.toList_push]; exact rva_snoc r2 hv1
  clear NB hY1 hk0 hkZ
  generalize Z ++ Y1 = Z1 at *
  (repeat' (((first | ((((with_reducible show wpAny _ _ (call (Value.builtin "list.append") [Value.ref _, _]) _ _ _); refine Mine.append_U (by with_reducible assumption) (by with_reducible assumption) (by walk_at "my_upd") (by walk_at "my_fit") ?_; intro h5q414 F5q414 N5q414))) | ((((with_reducible show wpAny _ _ (setItem (Value.ref _) (Value.int _ _) _) _ _ _); refine Mine.set_U (by with_reducible assumption) (by with_reducible assumption) (by decide) (by decide) (by walk_at "my_upd") (by rfl) ?_; intro h5q415 F5q415 N5q415))) | ((((with_reducible show wpAny _ _ (subscriptTail _ _ (Value.str _ _) (Value.int _ _)) _ _ _); refine Mine.sign_at (by with_reducible assumption) (by omega) (by omega) (by with_reducible assumption) ?_))) | ((((with_reducible show wpAny _ _ (compareOp CmpOp.In (Value.str _ _) (Value.str _ _)) _ _ _); first | refine Mine.in_lit (by with_reducible assumption) ?_ | refine Mine.in_lit (b := true) (by decide +kernel) ?_ | refine Mine.in_lit (b := false) (by decide +kernel) ?_))) | ((((with_reducible show wpAny _ _ (subscriptTail _ _ (Value.ref _) (Value.int (-1) _)) _ _ _); refine Mine.item_last (by walk_at "my_list") (by with_reducible assumption) ?_))) | ((((with_reducible show wpAny _ _ (compareOp CmpOp.NotIn (Value.str _ _) (Value.ref _)) _ _ _); refine Mine.notin_two (by walk_at "my_list") (by decide +kernel) ?_))) | ((((with_reducible show wpAny _ _ (call (Value.builtin "list.pop") [Value.ref _]) _ _ _); refine Mine.pop_U (by with_reducible assumption) (by with_reducible assumption) (by walk_at "my_upd") (by exact Mine.kl_last_rev _ _) (by (rw [sizeLine_eq]; (simp only [List.toList_toArray, List.length_reverse, List.length_cons] at *); omega)) ?_; intro h5q420 F5q420 N5q420))) | ((first | ((fail_if_success (with_reducible show wpAny _ _ (exec (Stmt.While _ _ _ _) _) _ _ _)); (fail_if_success (with_reducible show wpAny _ _ (exec (Stmt.For _ _ _ _ _) _) _ _ _)); (fail_if_success (with_reducible show wpAny _ _ (eval (PySem.Expr.ListComp _ _ _ _) _) _ _ _)); (fail_if_success (with_reducible show wpAny _ _ (exec (PySem.Stmt.Assign _ (PySem.Expr.ListComp _ _ _ _) _) _) _ _ _)); (fail_if_success (with_reducible show wpAny _ _ (call (Value.ref _) _) _ _ _)); (fail_if_success (with_reducible show wpAny _ _ (pyIter (Value.ref _)) _ _ _)); (fail_if_success (show LCg.CompSrc _ _ _ _ _ _ _ _ _ _ _ _ _ _)); first | (k_unfold; (try dsimp only)) | (k_end; wrow_close) | walk1 | (dsimp only; walk1) | (leave1; (try dsimp only)))))))))
  · rename (_ == _) = true => hq
    have hq := eq_of_beq hq
    (try k_unfold)
    (try dsimp only)
    rename News _ _ _ _ => N9
    rename Fr _ _ _ _ => F9
    rename ∀ p : Addr × Obj, p ∈ _ → p.1 < _ => hl9
    have hap9 := (hap.grow hl9 (by (repeat' (first | exact Mine.InLed.nil | refine Mine.InLed.cons (by walk_at "my_mem") ?_))) (by ((intro pq423 hpq423; repeat' (first | exact hpq423 | refine List.Mem.tail _ ?_))))).pick (r := [LV, a, p1, p2, _]) (by (repeat' (first | exact Mine.Pick.nil | (refine Mine.Pick.cons (by walk_at "my_mem") ?_ ?_) | exact List.forall_mem_nil _ | (refine List.forall_mem_cons.mpr ⟨by walk_at "my_apart", ?_⟩))))
    refine RTurn.cont F9 (fun p hp => N9 p (mem_sw p hp)) (h44b (hbl hq) hq _ _ (rst_ap (ti := _) (ex := _) (by (((simp only [← Mine.mset_at]); rfl))) r1 r2' .nil cur_empty tail hap9 ?_))
    exact (bnd_top hb' (bnd_snoc2 hb3)).mono (Nat.le_succ _)
  rename (_ == _) = false => hq
  have hsl := ne_of_beq_false hq
  clear hq
  rename News _ _ _ _ => NB
  rename ∀ p : Addr × Obj, p ∈ _ → p.1 < _ => hl9
  replace hap := hap.grow hl9 (by (repeat' (first | exact Mine.InLed.nil | refine Mine.InLed.cons (by walk_at "my_mem") ?_))) (by ((intro pq427 hpq427; repeat' (first | exact hpq427 | refine List.Mem.tail _ ?_))))
  clear hl9
  refine' Mine.call_data (act := _ :: _ :: _ :: _ :: _ :: _ :: M) (Z := Z1) (by assumption) (by assumption) NB (by rfl) (by rfl) hg (fun g2 hg2 hgg hZ BB => Mine.law_one_via ?X2 ?T2 BB ?hd2 ?hu2 hg2 hgg hZ r2' ?hl2 ?hsz2) ?_
  case X2 => (first | (with_reducible assumption) | exact Frag.In.keeps (by assumption) (Fr.keep (by assumption)) | exact ⟨_, _, _, Top.keeps (by assumption) (Fr.keep (by assumption))⟩)
  case T2 => (first | (with_reducible assumption) | exact Frag.In.keeps (by assumption) (Fr.keep (by assumption)) | exact ⟨_, _, _, Top.keeps (by assumption) (Fr.keep (by assumption))⟩)
  case hd2 => exact Mine.room1 (by assumption) rfl
  case hu2 => exact Mine.room3 (by assumption) rfl
  case hl2 => walk_at "my_list"
  case hsz2 => rw [List.length_append, List.length_singleton]; omega
  intro v2 h2' tk2 Y2 F2 N2 hY2 st2 hv2
  simp only [List.cons_append] at N2
  replace hap := hap.up NB hY2 (by (repeat' (first | exact Mine.InLed.nil | refine Mine.InLed.cons (by walk_at "my_mem") ?_))) (fun p hp => (.tail _ (.tail _ (.tail _ (.tail _ (.tail _ (.tail _ (List.mem_append_left _ hp))))))))
  replace r1 := rva_up r1 (fun p hp => List.mem_append_left Y2 hp)
  replace tail := tail.more (fun p hp => List.mem_append_left Y2 hp)
  have r1' : ReadsViaAll g (Z1 ++ Y2) (i1.push v2).toList (lv.l1 ++ [one .t (lv.l2 ++ [one .o (lv.l3 ++ [lv.cur.dt])])]) := by rw [Array.toList_push]; exact rva_snoc r1 hv2
  clear NB hY2
  generalize Z1 ++ Y2 = Z2 at *
  (repeat' ((fail_if_success (with_reducible show wpAny _ _ (compareOp CmpOp.NotIn (Value.str _ _) (Value.ref _)) _ _ _)); (((first | ((((with_reducible show wpAny _ _ (call (Value.builtin "list.append") [Value.ref _, _]) _ _ _); refine Mine.append_U (by with_reducible assumption) (by with_reducible assumption) (by walk_at "my_upd") (by walk_at "my_fit") ?_; intro h5q433 F5q433 N5q433))) | ((((with_reducible show wpAny _ _ (setItem (Value.ref _) (Value.int _ _) _) _ _ _); refine Mine.set_U (by with_reducible assumption) (by with_reducible assumption) (by decide) (by decide) (by walk_at "my_upd") (by rfl) ?_; intro h5q434 F5q434 N5q434))) | ((((with_reducible show wpAny _ _ (subscriptTail _ _ (Value.str _ _) (Value.int _ _)) _ _ _); refine Mine.sign_at (by with_reducible assumption) (by omega) (by omega) (by with_reducible assumption) ?_))) | ((((with_reducible show wpAny _ _ (compareOp CmpOp.In (Value.str _ _) (Value.str _ _)) _ _ _); first | refine Mine.in_lit (by with_reducible assumption) ?_ | refine Mine.in_lit (b := true) (by decide +kernel) ?_ | refine Mine.in_lit (b := false) (by decide +kernel) ?_))) | ((((with_reducible show wpAny _ _ (subscriptTail _ _ (Value.ref _) (Value.int (-1) _)) _ _ _); refine Mine.item_last (by walk_at "my_list") (by with_reducible assumption) ?_))) | ((((with_reducible show wpAny _ _ (compareOp CmpOp.NotIn (Value.str _ _) (Value.ref _)) _ _ _); refine Mine.notin_two (by walk_at "my_list") (by decide +kernel) ?_))) | ((((with_reducible show wpAny _ _ (call (Value.builtin "list.pop") [Value.ref _]) _ _ _); refine Mine.pop_U (by with_reducible assumption) (by with_reducible assumption) (by walk_at "my_upd") (by exact Mine.kl_last_rev _ _) (by (rw [sizeLine_eq]; (simp only [List.toList_toArray, List.length_reverse, List.length_cons] at *); omega)) ?_; intro h5q439 F5q439 N5q439))) | ((first | ((fail_if_success (with_reducible show wpAny _ _ (exec (Stmt.While _ _ _ _) _) _ _ _)); (fail_if_success (with_reducible show wpAny _ _ (exec (Stmt.For _ _ _ _ _) _) _ _ _)); (fail_if_success (with_reducible show wpAny _ _ (eval (PySem.Expr.ListComp _ _ _ _) _) _ _ _)); (fail_if_success (with_reducible show wpAny _ _ (exec (PySem.Stmt.Assign _ (PySem.Expr.ListComp _ _ _ _) _) _) _ _ _)); (fail_if_success (with_reducible show wpAny _ _ (call (Value.ref _) _) _ _ _)); (fail_if_success (with_reducible show wpAny _ _ (pyIter (Value.ref _)) _ _ _)); (fail_if_success (show LCg.CompSrc _ _ _ _ _ _ _ _ _ _ _ _ _ _)); first | (k_unfold; (try dsimp only)) | (k_end; wrow_close) | walk1 | (dsimp only; walk1) | (leave1; (try dsimp only))))))))))
  · rename (_ == _) = true => hq
    have hq := sg_eq (d := 44) hsg (by decide +kernel) hq
    (try k_unfold)
    (try dsimp only)
    rename News _ _ _ _ => N9
    rename Fr _ _ _ _ => F9
    rename ∀ p : Addr × Obj, p ∈ _ → p.1 < _ => hl9
    refine RTurn.cont F9 (fun p hp => N9 p (mem_sw2 p hp)) (h44 hq hsl _ _ (rst_ap (ti := _) (ex := _) (by (((simp only [← Mine.mset_at]); rfl))) r1' .nil .nil cur_empty tail ?_ ?_))
    · exact (hap.grow hl9 (by (repeat' (first | exact Mine.InLed.nil | refine Mine.InLed.cons (by walk_at "my_mem") ?_))) (by ((intro pq443 hpq443; repeat' (first | exact hpq443 | refine List.Mem.tail _ ?_))))).pick (by (repeat' (first | exact Mine.Pick.nil | (refine Mine.Pick.cons (by walk_at "my_mem") ?_ ?_) | exact List.forall_mem_nil _ | (refine List.forall_mem_cons.mpr ⟨by walk_at "my_apart", ?_⟩))))
    · exact bnd_top hb' (bnd_snoc1 hb3)
  rename (_ == _) = false => hq44
  have hc44 := sg_ne (d := 44) hsg (by decide +kernel) hq44
  obtain ⟨up, ups, hups, h125, h93⟩ := hcl hc47 hc44
  subst hups
  rename News _ _ _ _ => N2
  rename ∀ p : Addr × Obj, p ∈ _ → p.1 < _ => hl9
  replace hap := hap.grow hl9 (by (repeat' (first | exact Mine.InLed.nil | refine Mine.InLed.cons (by walk_at "my_mem") ?_))) (by ((intro pq446 hpq446; repeat' (first | exact hpq446 | refine List.Mem.tail _ ?_))))
  clear hl9
  cases tail with
  | @cons _ _ vs2 M2 a2 q1 q2 q3 ts2 vc2 j1 j2 j3 k k1 k2 k3 s1 s2 s3 sc tail2 =>
  simp only [List.cons_append] at N2
  replace hap := hap.open
  have hlast2 : (Value.ref a2 :: vs2).reverse.toArray.toList.getLast? = some (.ref a2) := by simp
  rcases hcc with hcc | hcc | hcc | hcc
  · exact absurd hcc hc47
  · exact absurd hcc hc44
  · obtain ⟨hls, hJ⟩ := h125 hcc
    subst hcc
    have hx : sg = Str.ofString "}" := by rw [hsg]; decide +kernel
    subst hx
    have hs3 : sgn lv.s = "{" := by rw [hls]; decide +kernel
    rw [hs3] at N2 ⊢
    (repeat' (((first | ((((with_reducible show wpAny _ _ (call (Value.builtin "list.append") [Value.ref _, _]) _ _ _); refine Mine.append_U (by with_reducible assumption) (by with_reducible assumption) (by walk_at "my_upd") (by walk_at "my_fit") ?_; intro h5q449 F5q449 N5q449))) | ((((with_reducible show wpAny _ _ (setItem (Value.ref _) (Value.int _ _) _) _ _ _); refine Mine.set_U (by with_reducible assumption) (by with_reducible assumption) (by decide) (by decide) (by walk_at "my_upd") (by rfl) ?_; intro h5q450 F5q450 N5q450))) | ((((with_reducible show wpAny _ _ (subscriptTail _ _ (Value.str _ _) (Value.int _ _)) _ _ _); refine Mine.sign_at (by with_reducible assumption) (by omega) (by omega) (by with_reducible assumption) ?_))) | ((((with_reducible show wpAny _ _ (compareOp CmpOp.In (Value.str _ _) (Value.str _ _)) _ _ _); first | refine Mine.in_lit (by with_reducible assumption) ?_ | refine Mine.in_lit (b := true) (by decide +kernel) ?_ | refine Mine.in_lit (b := false) (by decide +kernel) ?_))) | ((((with_reducible show wpAny _ _ (subscriptTail _ _ (Value.ref _) (Value.int (-1) _)) _ _ _); refine Mine.item_last (by walk_at "my_list") (by with_reducible assumption) ?_))) | ((((with_reducible show wpAny _ _ (compareOp CmpOp.NotIn (Value.str _ _) (Value.ref _)) _ _ _); refine Mine.notin_two (by walk_at "my_list") (by decide +kernel) ?_))) | ((((with_reducible show wpAny _ _ (call (Value.builtin "list.pop") [Value.ref _]) _ _ _); refine Mine.pop_U (by with_reducible assumption) (by with_reducible assumption) (by walk_at "my_upd") (by exact Mine.kl_last_rev _ _) (by (rw [sizeLine_eq]; (simp only [List.toList_toArray, List.length_reverse, List.length_cons] at *); omega)) ?_; intro h5q455 F5q455 N5q455))) | ((first | ((fail_if_success (with_reducible show wpAny _ _ (exec (Stmt.While _ _ _ _) _) _ _ _)); (fail_if_success (with_reducible show wpAny _ _ (exec (Stmt.For _ _ _ _ _) _) _ _ _)); (fail_if_success (with_reducible show wpAny _ _ (eval (PySem.Expr.ListComp _ _ _ _) _) _ _ _)); (fail_if_success (with_reducible show wpAny _ _ (exec (PySem.Stmt.Assign _ (PySem.Expr.ListComp _ _ _ _) _) _) _ _ _)); (fail_if_success (with_reducible show wpAny _ _ (call (Value.ref _) _) _ _ _)); (fail_if_success (with_reducible show wpAny _ _ (pyIter (Value.ref _)) _ _ _)); (fail_if_success (show LCg.CompSrc _ _ _ _ _ _ _ _ _ _ _ _ _ _)); first | (k_unfold; (try dsimp only)) | (k_end; wrow_close) | walk1 | (dsimp only; walk1) | (leave1; (try dsimp only)))))))))
    (try k_unfold)
    (try dsimp only)
    rename News _ _ _ _ => N9
    rename Fr _ _ _ _ => F9
    rename ∀ p : Addr × Obj, p ∈ _ → p.1 < _ => hl9
    have hap9 := ((hap.grow hl9 (by (repeat' (first | exact Mine.InLed.nil | refine Mine.InLed.cons (by walk_at "my_mem") ?_))) (by ((intro pq458 hpq458; repeat' (first | exact hpq458 | refine List.Mem.tail _ ?_))))).pick (r := [_, LV, a2, q1, q2, q3]) (by (repeat' (first | exact Mine.Pick.nil | (refine Mine.Pick.cons (by walk_at "my_mem") ?_ ?_) | exact List.forall_mem_nil _ | (refine List.forall_mem_cons.mpr ⟨by walk_at "my_apart", ?_⟩)))))
    refine RTurn.next F9 (pop_news N9) (hJ _ _ (rst_ap (ti := _) (ex := _) (by (((simp only [← Mine.mset_at]); rfl))) (rva_up s1 fun p hp => .tail _ hp) (rva_up s2 fun p hp => .tail _ hp) (rva_up s3 fun p hp => .tail _ hp) ⟨⟨_, rfl⟩, ⟨_, rfl⟩, ReadsVia.list (.head _) ?_⟩ (tail2.more fun p hp => .tail _ hp) hap9.data (bnd_pop hb' rfl rfl rfl (fun l e => by cases e))))
    exact .cons (.str _ _) (rva_up r1' fun p hp => .tail _ hp)
  · obtain ⟨hls, hone, hJ⟩ := h93 hcc
    subst hcc
    have hx : sg = Str.ofString "]" := by rw [hsg]; decide +kernel
    subst hx
    have hs3 : sgn lv.s = "[" := by rw [hls]; decide +kernel
    rw [hs3] at N2 ⊢
    (repeat' (((first | ((((with_reducible show wpAny _ _ (call (Value.builtin "list.append") [Value.ref _, _]) _ _ _); refine Mine.append_U (by with_reducible assumption) (by with_reducible assumption) (by walk_at "my_upd") (by walk_at "my_fit") ?_; intro h5q463 F5q463 N5q463))) | ((((with_reducible show wpAny _ _ (setItem (Value.ref _) (Value.int _ _) _) _ _ _); refine Mine.set_U (by with_reducible assumption) (by with_reducible assumption) (by decide) (by decide) (by walk_at "my_upd") (by rfl) ?_; intro h5q464 F5q464 N5q464))) | ((((with_reducible show wpAny _ _ (subscriptTail _ _ (Value.str _ _) (Value.int _ _)) _ _ _); refine Mine.sign_at (by with_reducible assumption) (by omega) (by omega) (by with_reducible assumption) ?_))) | ((((with_reducible show wpAny _ _ (compareOp CmpOp.In (Value.str _ _) (Value.str _ _)) _ _ _); first | refine Mine.in_lit (by with_reducible assumption) ?_ | refine Mine.in_lit (b := true) (by decide +kernel) ?_ | refine Mine.in_lit (b := false) (by decide +kernel) ?_))) | ((((with_reducible show wpAny _ _ (subscriptTail _ _ (Value.ref _) (Value.int (-1) _)) _ _ _); refine Mine.item_last (by walk_at "my_list") (by with_reducible assumption) ?_))) | ((((with_reducible show wpAny _ _ (compareOp CmpOp.NotIn (Value.str _ _) (Value.ref _)) _ _ _); refine Mine.notin_two (by walk_at "my_list") (by decide +kernel) ?_))) | ((((with_reducible show wpAny _ _ (call (Value.builtin "list.pop") [Value.ref _]) _ _ _); refine Mine.pop_U (by with_reducible assumption) (by with_reducible assumption) (by walk_at "my_upd") (by exact Mine.kl_last_rev _ _) (by (rw [sizeLine_eq]; (simp only [List.toList_toArray, List.length_reverse, List.length_cons] at *); omega)) ?_; intro h5q469 F5q469 N5q469))) | ((first | ((fail_if_success (with_reducible show wpAny _ _ (exec (Stmt.While _ _ _ _) _) _ _ _)); (fail_if_success (with_reducible show wpAny _ _ (exec (Stmt.For _ _ _ _ _) _) _ _ _)); (fail_if_success (with_reducible show wpAny _ _ (eval (PySem.Expr.ListComp _ _ _ _) _) _ _ _)); (fail_if_success (with_reducible show wpAny _ _ (exec (PySem.Stmt.Assign _ (PySem.Expr.ListComp _ _ _ _) _) _) _ _ _)); (fail_if_success (with_reducible show wpAny _ _ (call (Value.ref _) _) _ _ _)); (fail_if_success (with_reducible show wpAny _ _ (pyIter (Value.ref _)) _ _ _)); (fail_if_success (show LCg.CompSrc _ _ _ _ _ _ _ _ _ _ _ _ _ _)); first | (k_unfold; (try dsimp only)) | (k_end; wrow_close) | walk1 | (dsimp only; walk1) | (leave1; (try dsimp only)))))))))
    · exfalso
      rename _ ≠ (1 : Int) => hbad
      apply hbad
      rw [Array.size_push, hz1]
      simp at hone
      rw [hone]; rfl
    (try k_unfold)
    (try dsimp only)
    rename News _ _ _ _ => N9
    rename Fr _ _ _ _ => F9
    rename ∀ p : Addr × Obj, p ∈ _ → p.1 < _ => hl9
    have hap9 := ((hap.grow hl9 (by (repeat' (first | exact Mine.InLed.nil | refine Mine.InLed.cons (by walk_at "my_mem") ?_))) (by ((intro pq472 hpq472; repeat' (first | exact hpq472 | refine List.Mem.tail _ ?_))))).pick (r := [_, LV, a2, q1, q2, q3]) (by (repeat' (first | exact Mine.Pick.nil | (refine Mine.Pick.cons (by walk_at "my_mem") ?_ ?_) | exact List.forall_mem_nil _ | (refine List.forall_mem_cons.mpr ⟨by walk_at "my_apart", ?_⟩)))))
    refine RTurn.next F9 (pop_news N9) (hJ _ _ (rst_ap (ti := _) (ex := _) (by (((simp only [← Mine.mset_at]); rfl))) (rva_up s1 fun p hp => .tail _ hp) (rva_up s2 fun p hp => .tail _ hp) (rva_up s3 fun p hp => .tail _ hp) ⟨⟨_, rfl⟩, ⟨_, rfl⟩, ReadsVia.list (.head _) ?_⟩ (tail2.more fun p hp => .tail _ hp) hap9.data (bnd_pop hb' rfl rfl rfl (fun l e => by cases e))))
    exact .cons (.str _ _) (.cons (sc.reads.more fun p hp => .tail _ hp) (rva_up r1' fun p hp => .tail _ hp))

theorem rd_sign {w : World} {dp un : Nat} {outer : List Env} {gd : Option (List Code)} {base g h₀ : Heap} {s : Shared} {L a' cd' : Addr} {T : Str} {tT : Tok} {LV : Addr} {i : Nat} {lv : Lv} {lvs : List Lv} {m : Str → Option Value} {news : List (Addr × Obj)} {l : List Nat} {sg : Str} {c : Nat}
   (X : (Mine.hd.heap_39 w.params).In h₀) (TT : TopH h₀) (B : Below (AA dp outer gd un) base outer h₀) (hd : dp + 30 < recursionLimit) (hu : un + 300 < cLine) (hg : g.StaysIn h₀)
   (F : Fr h₀ L s.heap m) (N : News h₀ L s.heap news) (hst : RSt g T tT LV i (lv :: lvs) m news) (hi : i < T.length) (hT : T.length ≤ 100000) (hc : Txt.item T (i : Int) = sg) (hsg : sg = ⟨#[c]⟩) (hcc : c = 97 ∨ c = 98 ∨ c = 45) (hcur : lv.cur = .w l) :
   wpAny (model P w) ((AA dp outer gd un).deeper (envOf (Str.ofString "_law_read") (scopeOf (lawD 15)) L a' (.ref cd'))) (execs (whBody (stOf 15 2)) (envOf (Str.ofString "_law_read") (scopeOf (lawD 15)) L a' (.ref cd')))
     (RTurn h₀ L s (RSt g T tT LV (i + 1) ({ lv with cur := .w (l ++ [c]) } :: lvs))) (fun _ _ => False) s := by
  obtain ⟨ti, ex, vs, nL, M, Z, rfl, rfl, hlv, hdis, hb⟩ := hst
  cases hlv with
  | @cons _ _ vs' M a p1 p2 p3 ts vc i1 i2 i3 n n1 n2 n3 r1 r2 r3 rc tail =>
  have hap : Ap [LV, a, p1, p2, p3] M Z := Ap.of (ps := [(LV, _), (a, _), (p1, _), (p2, _), (p3, _)]) hdis
  simp only [List.cons_append] at N
  have hlast : (Value.ref a :: vs').reverse.toArray.toList.getLast? = some (.ref a) := by simp
  obtain ⟨mean, mg, mb, TT⟩ := TT
  rw [hcur] at rc
  obtain ⟨tc, rfl⟩ := rc
  have hlc := (hb.2 lv (.head _)).2.2.2 l hcur
  have hno : (Txt.slice T (some ((i : Int) + 1 - 1)) (some ((i : Int) + 1 + 2)) == Str.ofString "[, ") = false := beq_false_of_ne (slice3_ne (k := 2) hi (hc.trans hsg) (by rcases hcc with rfl | rfl | rfl <;> decide +kernel))
  have hlen : sg.length = 1 := by rw [hsg]; rfl
  have hin : (!(Builtin.Str.occurrences (Str.ofString "/,}]") sg 0 (Str.ofString "/,}]").length 1).isEmpty) = false := by
    subst hsg; rcases hcc with rfl | rfl | rfl <;> decide +kernel
  have hin2 : (!(Builtin.Str.occurrences (Str.ofString "ab-") sg 0 (Str.ofString "ab-").length 1).isEmpty) = true := by
    subst hsg; rcases hcc with rfl | rfl | rfl <;> decide +kernel
  have hbr : (sg == Str.ofString "{") = false := by
    subst hsg; rcases hcc with rfl | rfl | rfl <;> decide +kernel
  conv in (whBody _) => whnf
  conv in (occs := *) (scopeOf _) => all_goals whnf
  show wpAny (model P w) _ _ _ _ _
  k_fold
  (repeat' (((first | ((((with_reducible show wpAny _ _ (call (Value.builtin "list.append") [Value.ref _, _]) _ _ _); refine Mine.append_U (by with_reducible assumption) (by with_reducible assumption) (by walk_at "my_upd") (by walk_at "my_fit") ?_; intro h5q477 F5q477 N5q477))) | ((((with_reducible show wpAny _ _ (setItem (Value.ref _) (Value.int _ _) _) _ _ _); refine Mine.set_U (by with_reducible assumption) (by with_reducible assumption) (by decide) (by decide) (by walk_at "my_upd") (by rfl) ?_; intro h5q478 F5q478 N5q478))) | ((((with_reducible show wpAny _ _ (subscriptTail _ _ (Value.str _ _) (Value.int _ _)) _ _ _); refine Mine.sign_at (by with_reducible assumption) (by omega) (by omega) (by with_reducible assumption) ?_))) | ((((with_reducible show wpAny _ _ (compareOp CmpOp.In (Value.str _ _) (Value.str _ _)) _ _ _); first | refine Mine.in_lit (by with_reducible assumption) ?_ | refine Mine.in_lit (b := true) (by decide +kernel) ?_ | refine Mine.in_lit (b := false) (by decide +kernel) ?_))) | ((((with_reducible show wpAny _ _ (subscriptTail _ _ (Value.ref _) (Value.int (-1) _)) _ _ _); refine Mine.item_last (by walk_at "my_list") (by with_reducible assumption) ?_))) | ((((with_reducible show wpAny _ _ (compareOp CmpOp.NotIn (Value.str _ _) (Value.ref _)) _ _ _); refine Mine.notin_two (by walk_at "my_list") (by decide +kernel) ?_))) | ((((with_reducible show wpAny _ _ (call (Value.builtin "list.pop") [Value.ref _]) _ _ _); refine Mine.pop_U (by with_reducible assumption) (by with_reducible assumption) (by walk_at "my_upd") (by exact Mine.kl_last_rev _ _) (by (rw [sizeLine_eq]; (simp only [List.toList_toArray, List.length_reverse, List.length_cons] at *); omega)) ?_; intro h5q483 F5q483 N5q483))) | ((first | ((fail_if_success (with_reducible show wpAny _ _ (exec (Stmt.While _ _ _ _) _) _ _ _)); (fail_if_success (with_reducible show wpAny _ _ (exec (Stmt.For _ _ _ _ _) _) _ _ _)); (fail_if_success (with_reducible show wpAny _ _ (eval (PySem.Expr.ListComp _ _ _ _) _) _ _ _)); (fail_if_success (with_reducible show wpAny _ _ (exec (PySem.Stmt.Assign _ (PySem.Expr.ListComp _ _ _ _) _) _) _ _ _)); (fail_if_success (with_reducible show wpAny _ _ (call (Value.ref _) _) _ _ _)); (fail_if_success (with_reducible show wpAny _ _ (pyIter (Value.ref _)) _ _ _)); (fail_if_success (show LCg.CompSrc _ _ _ _ _ _ _ _ _ _ _ _ _ _)); first | (k_unfold; (try dsimp only)) | (k_end; wrow_close) | walk1 | (dsimp only; walk1) | (leave1; (try dsimp only)))))))))
  rename News _ _ _ _ => N9
  rename Fr _ _ _ _ => F9
  refine RTurn.next F9 N9 (rst_ap (ti := _) (ex := _) (by (((simp only [← Mine.mset_at]); rfl))) r1 r2 r3 (cur_more hsg) tail hap ?_)
  exact bnd_top hb (bnd_cur (hb.2 lv (.head _)) hlc)

theorem rd_open {w : World} {dp un : Nat} {outer : List Env} {gd : Option (List Code)} {base g h₀ : Heap} {s : Shared} {L a' cd' : Addr} {T : Str} {tT : Tok} {LV : Addr} {i : Nat} {lv : Lv} {lvs : List Lv} {m : Str → Option Value} {news : List (Addr × Obj)}
   (X : (Mine.hd.heap_39 w.params).In h₀) (TT : TopH h₀) (B : Below (AA dp outer gd un) base outer h₀) (hd : dp + 30 < recursionLimit) (hu : un + 300 < cLine) (hg : g.StaysIn h₀)
   (F : Fr h₀ L s.heap m) (N : News h₀ L s.heap news) (hst : RSt g T tT LV i (lv :: lvs) m news) (hi : i < T.length) (hT : T.length ≤ 100000) (hc : Txt.item T (i : Int) = "{") (hcur : lv.cur = .w []) :
   wpAny (model P w) ((AA dp outer gd un).deeper (envOf (Str.ofString "_law_read") (scopeOf (lawD 15)) L a' (.ref cd'))) (execs (whBody (stOf 15 2)) (envOf (Str.ofString "_law_read") (scopeOf (lawD 15)) L a' (.ref cd')))
     (RTurn h₀ L s (RSt g T tT LV (i + 1) (⟨123, [], [], [], .w []⟩ :: lv :: lvs))) (fun _ _ => False) s := by
  obtain ⟨ti, ex, vs, nL, M, Z, rfl, rfl, hlv, hdis, hb⟩ := hst
  cases hlv with
  | @cons _ _ vs' M a p1 p2 p3 ts vc i1 i2 i3 n n1 n2 n3 r1 r2 r3 rc tail =>
  have hap : Ap [LV, a, p1, p2, p3] M Z := Ap.of (ps := [(LV, _), (a, _), (p1, _), (p2, _), (p3, _)]) hdis
  simp only [List.cons_append] at N
  have hlast : (Value.ref a :: vs').reverse.toArray.toList.getLast? = some (.ref a) := by simp
  have hLz : (Value.ref a :: vs').reverse.toArray.size ≤ 1000000 := lz_of hb tail.len hi hT
  obtain ⟨mean, mg, mb, TT⟩ := TT
  rw [hcur] at rc
  obtain ⟨tc, rfl⟩ := rc
  conv in (whBody _) => whnf
  conv in (occs := *) (scopeOf _) => all_goals whnf
  show wpAny (model P w) _ _ _ _ _
  k_fold
  (repeat' (((first | ((((with_reducible show wpAny _ _ (call (Value.builtin "list.append") [Value.ref _, _]) _ _ _); refine Mine.append_U (by with_reducible assumption) (by with_reducible assumption) (by walk_at "my_upd") (by walk_at "my_fit") ?_; intro h5q488 F5q488 N5q488))) | ((((with_reducible show wpAny _ _ (setItem (Value.ref _) (Value.int _ _) _) _ _ _); refine Mine.set_U (by with_reducible assumption) (by with_reducible assumption) (by decide) (by decide) (by walk_at "my_upd") (by rfl) ?_; intro h5q489 F5q489 N5q489))) | ((((with_reducible show wpAny _ _ (subscriptTail _ _ (Value.str _ _) (Value.int _ _)) _ _ _); refine Mine.sign_at (by with_reducible assumption) (by omega) (by omega) (by with_reducible assumption) ?_))) | ((((with_reducible show wpAny _ _ (compareOp CmpOp.In (Value.str _ _) (Value.str _ _)) _ _ _); first | refine Mine.in_lit (by with_reducible assumption) ?_ | refine Mine.in_lit (b := true) (by decide +kernel) ?_ | refine Mine.in_lit (b := false) (by decide +kernel) ?_))) | ((((with_reducible show wpAny _ _ (subscriptTail _ _ (Value.ref _) (Value.int (-1) _)) _ _ _); refine Mine.item_last (by walk_at "my_list") (by with_reducible assumption) ?_))) | ((((with_reducible show wpAny _ _ (compareOp CmpOp.NotIn (Value.str _ _) (Value.ref _)) _ _ _); refine Mine.notin_two (by walk_at "my_list") (by decide +kernel) ?_))) | ((((with_reducible show wpAny _ _ (call (Value.builtin "list.pop") [Value.ref _]) _ _ _); refine Mine.pop_U (by with_reducible assumption) (by with_reducible assumption) (by walk_at "my_upd") (by exact Mine.kl_last_rev _ _) (by (rw [sizeLine_eq]; (simp only [List.toList_toArray, List.length_reverse, List.length_cons] at *); omega)) ?_; intro h5q494 F5q494 N5q494))) | ((first | ((fail_if_success (with_reducible show wpAny _ _ (exec (Stmt.While _ _ _ _) _) _ _ _)); (fail_if_success (with_reducible show wpAny _ _ (exec (Stmt.For _ _ _ _ _) _) _ _ _)); (fail_if_success (with_reducible show wpAny _ _ (eval (PySem.Expr.ListComp _ _ _ _) _) _ _ _)); (fail_if_success (with_reducible show wpAny _ _ (exec (PySem.Stmt.Assign _ (PySem.Expr.ListComp _ _ _ _) _) _) _ _ _)); (fail_if_success (with_reducible show wpAny _ _ (call (Value.ref _) _) _ _ _)); (fail_if_success (with_reducible show wpAny _ _ (pyIter (Value.ref _)) _ _ _)); (fail_if_success (show LCg.CompSrc _ _ _ _ _ _ _ _ _ _ _ _ _ _)); first | (k_unfold; (try dsimp only)) | (k_end; wrow_close) | walk1 | (dsimp only; walk1) | (leave1; (try dsimp only)))))))))
  · have rc : CurIs g Z (.str ⟨#[]⟩ tc) lv.cur := by rw [hcur]; exact ⟨tc, rfl⟩
    (try k_unfold)
    (try dsimp only)
    rename News _ _ _ _ => N9
    rename Fr _ _ _ _ => F9
    refine RTurn.next F9 (fun p hp => N9 p (mem5 p hp)) (rst_pushA (ti := _) (ex := _) (by (((simp only [← Mine.mset_at]); rfl))) r1 r2 r3 rc tail ?_ hb (by omega) rfl (by decide))
    exact hap.four (by with_reducible assumption) (by with_reducible assumption) (by with_reducible assumption) (by with_reducible assumption) (by (repeat' (first | exact Mine.InLed.nil | refine Mine.InLed.cons (by walk_at "my_mem") ?_))) (by (repeat' (first | exact Mine.InLed.nil | refine Mine.InLed.cons (by walk_at "my_mem") ?_))) (by (repeat' (first | exact Mine.InLed.nil | refine Mine.InLed.cons (by walk_at "my_mem") ?_))) (by (repeat' (first | exact Mine.InLed.nil | refine Mine.InLed.cons (by walk_at "my_mem") ?_))) (by ((intro pq501 hpq501; repeat' (first | exact hpq501 | refine List.Mem.tail _ ?_)))) (by ((intro pq502 hpq502; repeat' (first | exact hpq502 | refine List.Mem.tail _ ?_)))) (by ((intro pq503 hpq503; repeat' (first | exact hpq503 | refine List.Mem.tail _ ?_)))) (by ((intro pq504 hpq504; repeat' (first | exact hpq504 | refine List.Mem.tail _ ?_))))

theorem rd_bra {w : World} {dp un : Nat} {outer : List Env} {gd : Option (List Code)} {base g h₀ : Heap} {s : Shared} {L a' cd' : Addr} {T : Str} {tT : Tok} {LV : Addr} {i : Nat} {lv : Lv} {lvs : List Lv} {m : Str → Option Value} {news : List (Addr × Obj)}
   (X : (Mine.hd.heap_39 w.params).In h₀) (TT : TopH h₀) (B : Below (AA dp outer gd un) base outer h₀) (hd : dp + 30 < recursionLimit) (hu : un + 300 < cLine) (hg : g.StaysIn h₀)
   (F : Fr h₀ L s.heap m) (N : News h₀ L s.heap news) (hst : RSt g T tT LV i (lv :: lvs) m news) (hi : i < T.length) (hT : T.length ≤ 100000) (hc : Txt.item T (i : Int) = "[") (hsl : Txt.slice T (some ((i : Int) + 1 - 1)) (some ((i : Int) + 1 + 2)) = "[, ") :
   wpAny (model P w) ((AA dp outer gd un).deeper (envOf (Str.ofString "_law_read") (scopeOf (lawD 15)) L a' (.ref cd'))) (execs (whBody (stOf 15 2)) (envOf (Str.ofString "_law_read") (scopeOf (lawD 15)) L a' (.ref cd')))
     (RTurn h₀ L s (RSt g T tT LV (i + 3) (⟨91, [], [], [], .w []⟩ :: lv :: lvs))) (fun _ _ => False) s := by
  obtain ⟨ti, ex, vs, nL, M, Z, rfl, rfl, hlv, hdis, hb⟩ := hst
  cases hlv with
  | @cons _ _ vs' M a p1 p2 p3 ts vc i1 i2 i3 n n1 n2 n3 r1 r2 r3 rc tail =>
  have hap : Ap [LV, a, p1, p2, p3] M Z := Ap.of (ps := [(LV, _), (a, _), (p1, _), (p2, _), (p3, _)]) hdis
  simp only [List.cons_append] at N
  have hlast : (Value.ref a :: vs').reverse.toArray.toList.getLast? = some (.ref a) := by simp
  have hLz : (Value.ref a :: vs').reverse.toArray.size ≤ 1000000 := lz_of hb tail.len hi hT
  obtain ⟨mean, mg, mb, TT⟩ := TT
  have hslB : (Txt.slice T (some ((i : Int) + 1 - 1)) (some ((i : Int) + 1 + 2)) == Str.ofString "[, ") = true := beq_true_of_eq hsl
  conv in (whBody _) => whnf
  conv in (occs := *) (scopeOf _) => all_goals whnf
  show wpAny (model P w) _ _ _ _ _
  k_fold
  (repeat' (((first | ((((with_reducible show wpAny _ _ (call (Value.builtin "list.append") [Value.ref _, _]) _ _ _); refine Mine.append_U (by with_reducible assumption) (by with_reducible assumption) (by walk_at "my_upd") (by walk_at "my_fit") ?_; intro h5q507 F5q507 N5q507))) | ((((with_reducible show wpAny _ _ (setItem (Value.ref _) (Value.int _ _) _) _ _ _); refine Mine.set_U (by with_reducible assumption) (by with_reducible assumption) (by decide) (by decide) (by walk_at "my_upd") (by rfl) ?_; intro h5q508 F5q508 N5q508))) | ((((with_reducible show wpAny _ _ (subscriptTail _ _ (Value.str _ _) (Value.int _ _)) _ _ _); refine Mine.sign_at (by with_reducible assumption) (by omega) (by omega) (by with_reducible assumption) ?_))) | ((((with_reducible show wpAny _ _ (compareOp CmpOp.In (Value.str _ _) (Value.str _ _)) _ _ _); first | refine Mine.in_lit (by with_reducible assumption) ?_ | refine Mine.in_lit (b := true) (by decide +kernel) ?_ | refine Mine.in_lit (b := false) (by decide +kernel) ?_))) | ((((with_reducible show wpAny _ _ (subscriptTail _ _ (Value.ref _) (Value.int (-1) _)) _ _ _); refine Mine.item_last (by walk_at "my_list") (by with_reducible assumption) ?_))) | ((((with_reducible show wpAny _ _ (compareOp CmpOp.NotIn (Value.str _ _) (Value.ref _)) _ _ _); refine Mine.notin_two (by walk_at "my_list") (by decide +kernel) ?_))) | ((((with_reducible show wpAny _ _ (call (Value.builtin "list.pop") [Value.ref _]) _ _ _); refine Mine.pop_U (by with_reducible assumption) (by with_reducible assumption) (by walk_at "my_upd") (by exact Mine.kl_last_rev _ _) (by (rw [sizeLine_eq]; (simp only [List.toList_toArray, List.length_reverse, List.length_cons] at *); omega)) ?_; intro h5q513 F5q513 N5q513))) | ((first | ((fail_if_success (with_reducible show wpAny _ _ (exec (Stmt.While _ _ _ _) _) _ _ _)); (fail_if_success (with_reducible show wpAny _ _ (exec (Stmt.For _ _ _ _ _) _) _ _ _)); (fail_if_success (with_reducible show wpAny _ _ (eval (PySem.Expr.ListComp _ _ _ _) _) _ _ _)); (fail_if_success (with_reducible show wpAny _ _ (exec (PySem.Stmt.Assign _ (PySem.Expr.ListComp _ _ _ _) _) _) _ _ _)); (fail_if_success (with_reducible show wpAny _ _ (call (Value.ref _) _) _ _ _)); (fail_if_success (with_reducible show wpAny _ _ (pyIter (Value.ref _)) _ _ _)); (fail_if_success (show LCg.CompSrc _ _ _ _ _ _ _ _ _ _ _ _ _ _)); first | (k_unfold; (try dsimp only)) | (k_end; wrow_close) | walk1 | (dsimp only; walk1) | (leave1; (try dsimp only)))))))))
  ·
    (try k_unfold)
    (try dsimp only)
    rename News _ _ _ _ => N9
    rename Fr _ _ _ _ => F9
    refine RTurn.next F9 (fun p hp => N9 p (mem5 p hp)) (rst_pushA (ti := _) (ex := _) (by (((simp only [← Mine.mset_at]); rfl))) r1 r2 r3 rc tail ?_ hb (by omega) rfl (by decide))
    exact hap.four (by with_reducible assumption) (by with_reducible assumption) (by with_reducible assumption) (by with_reducible assumption) (by (repeat' (first | exact Mine.InLed.nil | refine Mine.InLed.cons (by walk_at "my_mem") ?_))) (by (repeat' (first | exact Mine.InLed.nil | refine Mine.InLed.cons (by walk_at "my_mem") ?_))) (by (repeat' (first | exact Mine.InLed.nil | refine Mine.InLed.cons (by walk_at "my_mem") ?_))) (by (repeat' (first | exact Mine.InLed.nil | refine Mine.InLed.cons (by walk_at "my_mem") ?_))) (by ((intro pq520 hpq520; repeat' (first | exact hpq520 | refine List.Mem.tail _ ?_)))) (by ((intro pq521 hpq521; repeat' (first | exact hpq521 | refine List.Mem.tail _ ?_)))) (by ((intro pq522 hpq522; repeat' (first | exact hpq522 | refine List.Mem.tail _ ?_)))) (by ((intro pq523 hpq523; repeat' (first | exact hpq523 | refine List.Mem.tail _ ?_))))

theorem RTurn.mono {h₀ : Heap} {L : Addr} {s : Shared} {J J' : (Str → Option Value) → List (Addr × Obj) → Prop} {f : Flow} {s' : Shared} (h : RTurn h₀ L s J f s') (k : ∀ m n, J m n → J' m n) : RTurn h₀ L s J' f s' := by
  obtain ⟨hf, h', tk, m', news', e, F, N, j⟩ := h
  exact ⟨hf, h', tk, m', news', e, F, N, k _ _ j⟩
theorem item_of {T : Str} {i : Nat} {c : Nat} {r : List Nat} (h : T.cps.toList.drop i = c :: r) : i < T.length ∧ Txt.item T (i : Int) = ⟨#[c]⟩ ∧ r = T.cps.toList.drop (i + 1) := by
  have hi : i < T.length := by
    have := congrArg List.length h
    rw [List.length_drop] at this
    simp [Str.length] at this ⊢
    omega
  refine ⟨hi, ?_, ?_⟩
  · apply str_ext
    rw [item_nat T i hi, h]; rfl
  · rw [← List.drop_drop, h]; rfl
theorem slice_two {T : Str} {i : Nat} {c : Nat} {r : List Nat} (h : T.cps.toList.drop i = c :: r) : (Txt.slice T (some ((i : Int) + 1 - 1)) (some ((i : Int) + 1 + 1))).cps.toList = c :: r.take 1 := by
  have hi := (item_of h).1
  rw [show (i : Int) + 1 - 1 = (i : Int) from by omega, show (i : Int) + 1 + 1 = ((i + 2 : Nat) : Int) from by omega, slice_nat T i (i + 2) (by omega) (by omega), h, show i + 2 - i = 2 from by omega]
  rfl
theorem slice_three {T : Str} {i : Nat} {c : Nat} {r : List Nat} (h : T.cps.toList.drop i = c :: r) : (Txt.slice T (some ((i : Int) + 1 - 1)) (some ((i : Int) + 1 + 2))).cps.toList = c :: r.take 2 := by
  have hi := (item_of h).1
  rw [show (i : Int) + 1 - 1 = (i : Int) from by omega, show (i : Int) + 1 + 2 = ((i + 3 : Nat) : Int) from by omega, slice_nat T i (i + 3) (by omega) (by omega), h, show i + 3 - i = 3 from by omega]
  rfl
theorem cps_comma : (", " : Str).cps.toList = [44, 32] := by decide +kernel
theorem cps_bra : ("[, " : Str).cps.toList = [91, 44, 32] := by decide +kernel
theorem rd_turn {w : World} {dp un : Nat} {outer : List Env} {gd : Option (List Code)} {base g h₀ : Heap} {s : Shared} {L a' cd' : Addr} {T : Str} {tT : Tok} {LV : Addr} {i : Nat} {lvs lvs' : List Lv} {r' : List Nat} {m : Str → Option Value} {news : List (Addr × Obj)}
   (X : (Mine.hd.heap_39 w.params).In h₀) (TT : TopH h₀) (B : Below (AA dp outer gd un) base outer h₀) (hd : dp + 30 < recursionLimit) (hu : un + 300 < cLine) (hg : g.StaysIn h₀)
   (F : Fr h₀ L s.heap m) (N : News h₀ L s.heap news) (hst : RSt g T tT LV i lvs m news) (hT : T.length ≤ 100000) (hp : pstep (lvs, T.cps.toList.drop i) = some (lvs', r')) :
   wpAny (model P w) ((AA dp outer gd un).deeper (envOf (Str.ofString "_law_read") (scopeOf (lawD 15)) L a' (.ref cd'))) (execs (whBody (stOf 15 2)) (envOf (Str.ofString "_law_read") (scopeOf (lawD 15)) L a' (.ref cd')))
     (RTurn h₀ L s (fun m' news' => ∃ i', i < i' ∧ i' ≤ T.length ∧ r' = T.cps.toList.drop i' ∧ RSt g T tT LV i' lvs' m' news')) (fun _ _ => False) s := by
  match lvs, hp, hst with
  | [], hp, _ => simp [pstep] at hp
  | lv :: lvs, hp, hst =>
  cases hdr : T.cps.toList.drop i with
  | nil => rw [hdr] at hp; simp [pstep] at hp
  | cons c r =>
  rw [hdr] at hp
  obtain ⟨hi, hc, hr⟩ := item_of hdr
  have h2 := slice_two hdr
  have h3 := slice_three hdr
  have hTl : T.cps.toList.length = T.length := by simp [Str.length]
  have fin : ∀ (j : Nat) (lvs2 : List Lv) (r2 : List Nat), i < j → j ≤ T.length → r2 = T.cps.toList.drop j → (lvs2, r2) = (lvs', r') → ∀ m' news', RSt g T tT LV j lvs2 m' news' → ∃ i', i < i' ∧ i' ≤ T.length ∧ r' = T.cps.toList.drop i' ∧ RSt g T tT LV i' lvs' m' news' := by
    intro j lvs2 r2 h1 h2 h3 h4 m' news' h5
    cases h4
    exact ⟨j, h1, h2, h3, h5⟩
  by_cases hcc : c = 47 ∨ c = 44 ∨ c = 125 ∨ c = 93
  · refine wpAny_mono (rd_close (J := fun m' news' => ∃ i', i < i' ∧ i' ≤ T.length ∧ r' = T.cps.toList.drop i' ∧ RSt g T tT LV i' lvs' m' news') X TT B hd hu hg F N hst hi hT rfl hc hcc ?_ ?_ ?_ ?_ ?_) (fun _ _ h => h) fun _ _ e => e
    · rintro rfl m n
      simp [pstep] at hp
      exact fin _ _ r (by omega) (by omega) hr (by rw [hp.1, hp.2]) m n
    · rintro rfl hs m n
      rw [hs, cps_comma] at h2
      obtain ⟨r2, rfl⟩ : ∃ r2, r = 32 :: r2 := by
        cases r with
        | nil => simp at h2
        | cons x r2 => simp at h2; exact ⟨r2, by rw [h2]⟩
      simp [pstep] at hp
      have hr2 : r2 = T.cps.toList.drop (i + 2) := by rw [show i + 2 = i + 1 + 1 from rfl, ← List.drop_drop, ← hr]; rfl
      have hlt : i + 2 ≤ T.length := by
        have := congrArg List.length hdr
        rw [List.length_drop, hTl] at this
        simp at this; omega
      exact fin _ _ r2 (by omega) hlt hr2 (by rw [← hp.1, ← hp.2]) m n
    · intro hs
      rw [hs, cps_comma] at h2
      simp at h2
      exact h2.1.symm
    · rintro rfl hs m n
      have hs' : r.head? ≠ some 32 := by
        intro e
        apply hs
        apply str_ext
        rw [h2, cps_comma]
        cases r with
        | nil => simp at e
        | cons x r2 => simp at e; simp [e]
      simp [pstep, hs'] at hp
      exact fin _ _ r (by omega) (by omega) hr (by rw [hp.1, hp.2]) m n
    · intro c47 c44
      rcases hcc with hcc | hcc | hcc | hcc
      · exact absurd hcc c47
      · exact absurd hcc c44
      · subst hcc
        match lvs, hp with
        | [], hp => simp [pstep] at hp
        | up :: ups, hp =>
          by_cases hs : lv.s = 123
          · simp [pstep, hs] at hp
            refine ⟨up, ups, rfl, fun _ => ⟨hs, fun m n => ?_⟩, fun e => absurd e (by decide)⟩
            exact fin _ _ r (by omega) (by omega) hr (by rw [← hp.1, ← hp.2]) m n
          · simp [pstep, hs] at hp
      · subst hcc
        match lvs, hp with
        | [], hp => simp [pstep] at hp
        | up :: ups, hp =>
          by_cases hs : lv.s = 91 ∧ (lv.l1 ++ [one .t (lv.l2 ++ [one .o (lv.l3 ++ [lv.cur.dt])])]).length = 1
          · have hs2 := hs.2
            simp [pstep, hs.1] at hp
            simp at hs2
            simp [hs2] at hp
            refine ⟨up, ups, rfl, fun e => absurd e (by decide), fun _ => ⟨hs.1, hs.2, fun m n => ?_⟩⟩
            exact fin _ _ r (by omega) (by omega) hr (by rw [← hp.1, ← hp.2]; simp [hs2]) m n
          · exfalso
            simp [pstep] at hp
            simp at hs
            exact hs hp.1.1 hp.1.2
  have bra : ∀ (hb : c = 91 ∧ r.head? = some 44 ∧ r.tail.head? = some 32), (⟨91, [], [], [], .w []⟩ :: lv :: lvs, r.tail.tail) = (lvs', r') → wpAny (model P w) ((AA dp outer gd un).deeper (envOf (Str.ofString "_law_read") (scopeOf (lawD 15)) L a' (.ref cd'))) (execs (whBody (stOf 15 2)) (envOf (Str.ofString "_law_read") (scopeOf (lawD 15)) L a' (.ref cd')))
     (RTurn h₀ L s (fun m' news' => ∃ i', i < i' ∧ i' ≤ T.length ∧ r' = T.cps.toList.drop i' ∧ RSt g T tT LV i' lvs' m' news')) (fun _ _ => False) s := by
    rintro ⟨rfl, hb1, hb2⟩ he
    obtain ⟨r2, rfl⟩ : ∃ r2, r = 44 :: 32 :: r2 := by
      match r, hb1, hb2 with
      | x :: y :: r2, h1, h2 => simp at h1 h2; exact ⟨r2, by rw [h1, h2]⟩
      | [x], _, h2 => simp at h2
      | [], h1, _ => simp at h1
    have hr2 : r2 = T.cps.toList.drop (i + 3) := by rw [show i + 3 = i + 1 + 2 from rfl, ← List.drop_drop, ← hr]; rfl
    have hlt : i + 3 ≤ T.length := by
      have := congrArg List.length hdr
      rw [List.length_drop, hTl] at this
      simp at this; omega
    refine wpAny_mono (rd_bra X TT B hd hu hg F N hst hi hT (by rw [hc]; decide +kernel) (str_ext (by rw [h3, cps_bra]; rfl))) (fun f s' h => h.mono (fin _ _ r2 (by omega) hlt hr2 he)) fun _ _ e => e
  rw [pstep, if_neg hcc] at hp
  cases hcur : lv.cur with
  | w l =>
    rw [hcur] at hp
    simp only at hp
    by_cases b1 : c = 123 ∧ l = []
    · rw [if_pos b1] at hp
      obtain ⟨rfl, rfl⟩ := b1
      refine wpAny_mono (rd_open X TT B hd hu hg F N hst hi hT (by rw [hc]; decide +kernel) hcur) (fun f s' h => h.mono (fin _ _ r (by omega) (by omega) hr (by simpa using hp))) fun _ _ e => e
    · rw [if_neg b1] at hp
      by_cases b2 : c = 91 ∧ r.head? = some 44 ∧ r.tail.head? = some 32
      · rw [if_pos b2] at hp
        exact bra b2 (by simpa using hp)
      · rw [if_neg b2] at hp
        by_cases b3 : c = 97 ∨ c = 98 ∨ c = 45
        · rw [if_pos b3] at hp
          refine wpAny_mono (rd_sign X TT B hd hu hg F N hst hi hT rfl hc b3 hcur) (fun f s' h => h.mono (fin _ _ r (by omega) (by omega) hr (by simpa using hp))) fun _ _ e => e
        · rw [if_neg b3] at hp; cases hp
  | d x =>
    rw [hcur] at hp
    simp only at hp
    by_cases b2 : c = 91 ∧ r.head? = some 44 ∧ r.tail.head? = some 32
    · rw [if_pos b2] at hp
      exact bra b2 (by simpa using hp)
    · rw [if_neg b2] at hp; cases hp

theorem law_read {w : World} {dp un : Nat} {outer : List Env} {gd : Option (List Code)} {base g : Heap} {s : Shared} {T : Str} {tT : Tok} {cur : Cur}
   (X : (Mine.hd.heap_39 w.params).In s.heap) (T' : TopH s.heap) (B : Below (AA dp outer gd un) base outer s.heap) (hd : dp + 40 < recursionLimit) (hu : un + 400 < cLine)
   (hg : g.StaysIn s.heap) (hT : T.length ≤ 100000) (hst : Steps ([lv0], T.cps.toList) ([⟨0, [], [], [], cur⟩], [])) :
   codeAny (model P w) (AA dp outer gd un) (.call (.ref 115) ⟨[.str T tT], []⟩) (Ret s fun v h' => Made g s.heap h' v cur.dt) s := by
  refine' Mine.enter (binds := [(Str.ofString "text", .str T tT)]) (by with_reducible assumption) (by assumption) ?k6 ?k7 ?k8 ?k9 ?kB ?_ ?c2 ?c3 ?c4 ?c5
  (((case k6 => k_is); (case k7 => k_is); (case k8 => exact Mine.room0 (by assumption)); (case k9 => exact BindsTo.of_eq rfl); (case kB => exact locs rfl); (case c5 => decide); (case c2 => rfl); (case c3 => rfl); (case c4 => rfl); intro L'q524 h₁q524 meanq524 mgq524 mbq524 Fq524 Nq524 T'q524; dsimp only [List.reverse, List.reverseAux, List.length] at Fq524 ⊢; k_fold))
  (repeat' (((first | ((((with_reducible show wpAny _ _ (call (Value.builtin "list.append") [Value.ref _, _]) _ _ _); refine Mine.append_U (by with_reducible assumption) (by with_reducible assumption) (by walk_at "my_upd") (by walk_at "my_fit") ?_; intro h5q527 F5q527 N5q527))) | ((((with_reducible show wpAny _ _ (setItem (Value.ref _) (Value.int _ _) _) _ _ _); refine Mine.set_U (by with_reducible assumption) (by with_reducible assumption) (by decide) (by decide) (by walk_at "my_upd") (by rfl) ?_; intro h5q528 F5q528 N5q528))) | ((((with_reducible show wpAny _ _ (subscriptTail _ _ (Value.str _ _) (Value.int _ _)) _ _ _); refine Mine.sign_at (by with_reducible assumption) (by omega) (by omega) (by with_reducible assumption) ?_))) | ((((with_reducible show wpAny _ _ (compareOp CmpOp.In (Value.str _ _) (Value.str _ _)) _ _ _); first | refine Mine.in_lit (by with_reducible assumption) ?_ | refine Mine.in_lit (b := true) (by decide +kernel) ?_ | refine Mine.in_lit (b := false) (by decide +kernel) ?_))) | ((((with_reducible show wpAny _ _ (subscriptTail _ _ (Value.ref _) (Value.int (-1) _)) _ _ _); refine Mine.item_last (by walk_at "my_list") (by with_reducible assumption) ?_))) | ((((with_reducible show wpAny _ _ (compareOp CmpOp.NotIn (Value.str _ _) (Value.ref _)) _ _ _); refine Mine.notin_two (by walk_at "my_list") (by decide +kernel) ?_))) | ((((with_reducible show wpAny _ _ (call (Value.builtin "list.pop") [Value.ref _]) _ _ _); refine Mine.pop_U (by with_reducible assumption) (by with_reducible assumption) (by walk_at "my_upd") (by exact Mine.kl_last_rev _ _) (by (rw [sizeLine_eq]; (simp only [List.toList_toArray, List.length_reverse, List.length_cons] at *); omega)) ?_; intro h5q533 F5q533 N5q533))) | ((first | ((fail_if_success (with_reducible show wpAny _ _ (exec (Stmt.While _ _ _ _) _) _ _ _)); (fail_if_success (with_reducible show wpAny _ _ (exec (Stmt.For _ _ _ _ _) _) _ _ _)); (fail_if_success (with_reducible show wpAny _ _ (eval (PySem.Expr.ListComp _ _ _ _) _) _ _ _)); (fail_if_success (with_reducible show wpAny _ _ (exec (PySem.Stmt.Assign _ (PySem.Expr.ListComp _ _ _ _) _) _) _ _ _)); (fail_if_success (with_reducible show wpAny _ _ (call (Value.ref _) _) _ _ _)); (fail_if_success (with_reducible show wpAny _ _ (pyIter (Value.ref _)) _ _ _)); (fail_if_success (show LCg.CompSrc _ _ _ _ _ _ _ _ _ _ _ _ _ _)); first | (k_unfold; (try dsimp only)) | (k_end; wrow_close) | walk1 | (dsimp only; walk1) | (leave1; (try dsimp only)))))))))
  rename News _ _ _ _ => N1
  rename Fr _ _ _ _ => F1
  refine Exists.elim (rst_init (g := g) (T := T) (tT := tT) F1 N1 (Ap.init (by with_reducible assumption) (by with_reducible assumption) (by with_reducible assumption) (by with_reducible assumption) (by (repeat' (first | exact Mine.InLed.nil | refine Mine.InLed.cons (by walk_at "my_mem") ?_))) (by (repeat' (first | exact Mine.InLed.nil | refine Mine.InLed.cons (by walk_at "my_mem") ?_))) (by (repeat' (first | exact Mine.InLed.nil | refine Mine.InLed.cons (by walk_at "my_mem") ?_))) (by (repeat' (first | exact Mine.InLed.nil | refine Mine.InLed.cons (by walk_at "my_mem") ?_)))) (ti := _) (ex := []) (by (((simp only [← Mine.mset_at]); rfl)))) ?_
  rintro news0 ⟨N0, R0⟩
  refine While_inv2 (n₀ := T.length) (fun n m news => ∃ LV i lvs, n = T.length - i ∧ i ≤ T.length ∧ Steps (lvs, T.cps.toList.drop i) ([⟨0, [], [], [], cur⟩], []) ∧ RSt g T tT LV i lvs m news) F1 N0 ⟨_, 0, [lv0], rfl, Nat.zero_le _, hst, R0⟩ ?_ ?_
  · rintro n m₁ news₁ h₁ tk₁ F₁ N₁ ⟨LV, i, lvs, rfl, hi, hst, R⟩
    have R' := R
    obtain ⟨ti, ex, vs, nL, M, Z, rfl, hnews, hlv, hdis, hb⟩ := R
    refine wpAny_mono (Q := LtIs s h₁ (i < T.length)) ?_ ?_ (fun _ _ e => e)
    · (repeat' (((first | ((((with_reducible show wpAny _ _ (call (Value.builtin "list.append") [Value.ref _, _]) _ _ _); refine Mine.append_U (by with_reducible assumption) (by with_reducible assumption) (by walk_at "my_upd") (by walk_at "my_fit") ?_; intro h5q542 F5q542 N5q542))) | ((((with_reducible show wpAny _ _ (setItem (Value.ref _) (Value.int _ _) _) _ _ _); refine Mine.set_U (by with_reducible assumption) (by with_reducible assumption) (by decide) (by decide) (by walk_at "my_upd") (by rfl) ?_; intro h5q543 F5q543 N5q543))) | ((((with_reducible show wpAny _ _ (subscriptTail _ _ (Value.str _ _) (Value.int _ _)) _ _ _); refine Mine.sign_at (by with_reducible assumption) (by omega) (by omega) (by with_reducible assumption) ?_))) | ((((with_reducible show wpAny _ _ (compareOp CmpOp.In (Value.str _ _) (Value.str _ _)) _ _ _); first | refine Mine.in_lit (by with_reducible assumption) ?_ | refine Mine.in_lit (b := true) (by decide +kernel) ?_ | refine Mine.in_lit (b := false) (by decide +kernel) ?_))) | ((((with_reducible show wpAny _ _ (subscriptTail _ _ (Value.ref _) (Value.int (-1) _)) _ _ _); refine Mine.item_last (by walk_at "my_list") (by with_reducible assumption) ?_))) | ((((with_reducible show wpAny _ _ (compareOp CmpOp.NotIn (Value.str _ _) (Value.ref _)) _ _ _); refine Mine.notin_two (by walk_at "my_list") (by decide +kernel) ?_))) | ((((with_reducible show wpAny _ _ (call (Value.builtin "list.pop") [Value.ref _]) _ _ _); refine Mine.pop_U (by with_reducible assumption) (by with_reducible assumption) (by walk_at "my_upd") (by exact Mine.kl_last_rev _ _) (by (rw [sizeLine_eq]; (simp only [List.toList_toArray, List.length_reverse, List.length_cons] at *); omega)) ?_; intro h5q548 F5q548 N5q548))) | ((first | ((fail_if_success (with_reducible show wpAny _ _ (exec (Stmt.While _ _ _ _) _) _ _ _)); (fail_if_success (with_reducible show wpAny _ _ (exec (Stmt.For _ _ _ _ _) _) _ _ _)); (fail_if_success (with_reducible show wpAny _ _ (eval (PySem.Expr.ListComp _ _ _ _) _) _ _ _)); (fail_if_success (with_reducible show wpAny _ _ (exec (PySem.Stmt.Assign _ (PySem.Expr.ListComp _ _ _ _) _) _) _ _ _)); (fail_if_success (with_reducible show wpAny _ _ (call (Value.ref _) _) _ _ _)); (fail_if_success (with_reducible show wpAny _ _ (pyIter (Value.ref _)) _ _ _)); (fail_if_success (show LCg.CompSrc _ _ _ _ _ _ _ _ _ _ _ _ _ _)); first | (k_unfold; (try dsimp only)) | (k_end; wrow_close) | walk1 | (dsimp only; walk1) | (leave1; (try dsimp only)))))))))
      exact ⟨by simp, _, rfl⟩
    · rintro b s₂ ⟨hb', tk', rfl⟩
      by_cases hlt : i < T.length
      · rw [if_pos (hb'.mpr hlt)]
        have hne : T.cps.toList.drop i ≠ [] := by
          intro e
          have := congrArg List.length e
          rw [List.length_drop] at this
          simp [Str.length] at this hlt; omega
        obtain ⟨⟨lvs', r'⟩, hp, hst'⟩ := hst.next hne
        refine wpAny_mono (rd_turn X T' B (by omega) (by omega) hg F₁ N₁ R' hT hp) (fun f s' hg => ?_) (fun _ _ e => e.elim)
        obtain ⟨hf, h', tk', m', news', rfl, F', N', i', h1, h2, rfl, R'⟩ := hg
        rcases hf with rfl | rfl
        · exact ⟨h', tk', m', news', T.length - i', rfl, F', N', by omega, LV, i', lvs', rfl, h2, hst', R'⟩
        · exact ⟨h', tk', m', news', T.length - i', rfl, F', N', by omega, LV, i', lvs', rfl, h2, hst', R'⟩
      · have hbf : b = false := by
          cases b with
          | false => rfl
          | true => exact absurd (hb'.mp rfl) hlt
        subst hbf
        simp only [Bool.false_eq_true, if_false]
        have hi' : i = T.length := by omega
        subst hi'
        have hnil : T.cps.toList.drop T.length = [] := List.drop_of_length_le (by simp [Str.length])
        rw [hnil] at hst
        cases hst with
        | step e _ => simp [pstep] at e
        | refl =>
        cases hlv with
        | @cons _ _ vs' M a p1 p2 p3 ts vc i1 i2 i3 n n1 n2 n3 r1 r2 r3 rc tail =>
        cases tail
        subst hnews
        simp only [List.cons_append, List.nil_append] at N₁
        have hk0 : g.StaysIn h₁ := fun b o e => F₁.keep b o (hg b o e)
        have hkZ : ∀ p ∈ Z, h₁.get? p.1 = some p.2 := fun p hp => (N₁ p (.tail _ (.tail _ (.tail _ (.tail _ (.tail _ hp)))))).1
        obtain rfl := Array.eq_empty_of_size_eq_zero (rva_len r1 hk0 hkZ)
        obtain rfl := Array.eq_empty_of_size_eq_zero (rva_len r2 hk0 hkZ)
        obtain rfl := Array.eq_empty_of_size_eq_zero (rva_len r3 hk0 hkZ)
        have e0 : sgn (Lv.mk 0 [] [] [] cur).s = Str.ofString "" := rfl
        rw [e0] at N₁
        have hrc := rc.reads
        clear hdis R' hb rc r1 r2 r3 hk0 hkZ R0 hnil
        (repeat' (((first | ((((with_reducible show wpAny _ _ (call (Value.builtin "list.append") [Value.ref _, _]) _ _ _); refine Mine.append_U (by with_reducible assumption) (by with_reducible assumption) (by walk_at "my_upd") (by walk_at "my_fit") ?_; intro h5q552 F5q552 N5q552))) | ((((with_reducible show wpAny _ _ (setItem (Value.ref _) (Value.int _ _) _) _ _ _); refine Mine.set_U (by with_reducible assumption) (by with_reducible assumption) (by decide) (by decide) (by walk_at "my_upd") (by rfl) ?_; intro h5q553 F5q553 N5q553))) | ((((with_reducible show wpAny _ _ (subscriptTail _ _ (Value.str _ _) (Value.int _ _)) _ _ _); refine Mine.sign_at (by with_reducible assumption) (by omega) (by omega) (by with_reducible assumption) ?_))) | ((((with_reducible show wpAny _ _ (compareOp CmpOp.In (Value.str _ _) (Value.str _ _)) _ _ _); first | refine Mine.in_lit (by with_reducible assumption) ?_ | refine Mine.in_lit (b := true) (by decide +kernel) ?_ | refine Mine.in_lit (b := false) (by decide +kernel) ?_))) | ((((with_reducible show wpAny _ _ (subscriptTail _ _ (Value.ref _) (Value.int (-1) _)) _ _ _); refine Mine.item_last (by walk_at "my_list") (by with_reducible assumption) ?_))) | ((((with_reducible show wpAny _ _ (compareOp CmpOp.NotIn (Value.str _ _) (Value.ref _)) _ _ _); refine Mine.notin_two (by walk_at "my_list") (by decide +kernel) ?_))) | ((((with_reducible show wpAny _ _ (call (Value.builtin "list.pop") [Value.ref _]) _ _ _); refine Mine.pop_U (by with_reducible assumption) (by with_reducible assumption) (by walk_at "my_upd") (by exact Mine.kl_last_rev _ _) (by (rw [sizeLine_eq]; (simp only [List.toList_toArray, List.length_reverse, List.length_cons] at *); omega)) ?_; intro h5q558 F5q558 N5q558))) | ((first | ((fail_if_success (with_reducible show wpAny _ _ (exec (Stmt.While _ _ _ _) _) _ _ _)); (fail_if_success (with_reducible show wpAny _ _ (exec (Stmt.For _ _ _ _ _) _) _ _ _)); (fail_if_success (with_reducible show wpAny _ _ (eval (PySem.Expr.ListComp _ _ _ _) _) _ _ _)); (fail_if_success (with_reducible show wpAny _ _ (exec (PySem.Stmt.Assign _ (PySem.Expr.ListComp _ _ _ _) _) _) _ _ _)); (fail_if_success (with_reducible show wpAny _ _ (call (Value.ref _) _) _ _ _)); (fail_if_success (with_reducible show wpAny _ _ (pyIter (Value.ref _)) _ _ _)); (fail_if_success (show LCg.CompSrc _ _ _ _ _ _ _ _ _ _ _ _ _ _)); first | (k_unfold; (try dsimp only)) | (k_end; wrow_close) | walk1 | (dsimp only; walk1) | (leave1; (try dsimp only)))))))))
        (((try k_unfold); (try dsimp only); refine Mine.ret_of (Fr.keep (by assumption)) ?_ rfl))
        rename News _ _ _ _ => N9
        exact made_of N9 (hrc.more (fun p hp => by repeat' (first | exact hp | refine List.Mem.tail _ ?_)))
  · passes_own

section
def LTurn (h₀ : Heap) (L a1 p : Addr) (LED : List (Addr × Obj)) (b : Nat) (s : Shared) (fl : Flow) (s' : Shared) : Prop :=
  fl = .next ∧ ∃ h' tk' ex' vs' n' Z' ts', s' = { s with heap := h', toks := tk' } ∧ Fr h₀ L h' (fun y => List.lookup y ((Str.ofString "script", .ref a1) :: (Str.ofString "stack", .ref p) :: ex')) ∧
    News h₀ L h' ((p, W.listOf vs' n') :: (LED ++ Z')) ∧ (∀ q ∈ LED ++ Z', q.1 ≠ p) ∧ (∀ q ∈ LED, ∀ z ∈ Z', z.1 ≠ q.1) ∧ Stk (b + 1) ts' ∧ ReadsViaAll h₀ Z' vs'.toList (ts'.map nodeD)
theorem LTurn.intro {h₀ : Heap} {L a1 p : Addr} {LED : List (Addr × Obj)} {b : Nat} {s : Shared} {h' : Heap} {tk' : Nat} {m : Str → Option Value} {ex' : List (Str × Value)} {vs' : Array Value} {n' : Nat} {Z' : List (Addr × Obj)} {ts' : List Tr}
    (F : Fr h₀ L h' m) (hm : m = fun y => List.lookup y ((Str.ofString "script", .ref a1) :: (Str.ofString "stack", .ref p) :: ex')) (N : News h₀ L h' ((p, W.listOf vs' n') :: (LED ++ Z'))) (hp : ∀ q ∈ LED ++ Z', q.1 ≠ p) (hz : ∀ q ∈ LED, ∀ z ∈ Z', z.1 ≠ q.1) (hs : Stk (b + 1) ts') (hr : ReadsViaAll h₀ Z' vs'.toList (ts'.map nodeD)) :
    LTurn h₀ L a1 p LED b s .next { s with heap := h', toks := tk' } := ⟨rfl, h', tk', ex', vs', n', Z', ts', rfl, hm ▸ F, N, hp, hz, hs, hr⟩
theorem led_up {h : Heap} {LED Z Y : List (Addr × Obj)} (h1 : ∀ q ∈ LED, ∀ z ∈ Z, z.1 ≠ q.1) (hY : ∀ p ∈ Y, h.get? p.1 = none) (k : ∀ q ∈ LED, h.get? q.1 = some q.2) : ∀ q ∈ LED, ∀ z ∈ Z ++ Y, z.1 ≠ q.1 := by
  intro q hq z hz
  rcases List.mem_append.mp hz with hz | hz
  · exact h1 q hq z hz
  · intro e
    have := hY z hz
    rw [e, k q hq] at this; cases this
theorem ra_drop {g : Heap} : ∀ (j : Nat) {vs : List Value} {ds : List PyData} {as : List Addr}, ReadsAll g vs ds as → ∃ bs, ReadsAll g (vs.drop j) (ds.drop j) bs
  | 0, _, _, _, h => ⟨_, h⟩
  | _ + 1, _, _, _, .nil => ⟨_, .nil⟩
  | j + 1, _, _, _, .cons _ rs => ra_drop j rs
theorem ra_take {g : Heap} : ∀ (j : Nat) {vs : List Value} {ds : List PyData} {as : List Addr}, ReadsAll g vs ds as → ∃ bs, ReadsAll g (vs.take j) (ds.take j) bs
  | 0, _, _, _, _ => ⟨_, .nil⟩
  | _ + 1, _, _, _, .nil => ⟨_, .nil⟩
  | j + 1, _, _, _, .cons r rs => by
    obtain ⟨bs, h⟩ := ra_take j rs
    exact ⟨_, .cons r h⟩
theorem rva_drop {g : Heap} {Z : List (Addr × Obj)} {vs : List Value} {ds : List PyData} (j : Nat) (h : ReadsViaAll g Z vs ds) : ReadsViaAll g Z (vs.drop j) (ds.drop j) := fun H a b => by
  obtain ⟨as, ra⟩ := h H a b; exact ra_drop j ra
theorem rva_take {g : Heap} {Z : List (Addr × Obj)} {vs : List Value} {ds : List PyData} (j : Nat) (h : ReadsViaAll g Z vs ds) : ReadsViaAll g Z (vs.take j) (ds.take j) := fun H a b => by
  obtain ⟨as, ra⟩ := h H a b; exact ra_take j ra
theorem oks_drop {ts : List Tr} (j : Nat) (h : oks ts) : oks (ts.drop j) := oks_of fun t ht => oks_all h t (List.mem_of_mem_drop ht)
theorem wts_drop (ts : List Tr) (j : Nat) : wts (ts.drop j) ≤ wts ts := by
  have h := wts_append (ts.take j) (ts.drop j)
  rw [List.take_append_drop] at h; omega
local macro_rules | `(tactic| walk_at "my_all") => `(tactic| with_reducible assumption)
def IntIs (P : Nat → Prop) (s : Shared) (v : Value) (s' : Shared) : Prop := ∃ (m : Nat) (t : Tok) (tk : Nat), v = .int (m : Int) t ∧ P m ∧ s' = { s with toks := tk }
theorem int_join {M : Model} {A : Around} {E : Value → Shared → Prop} {X : Sem Value} {Q : Value → Shared → Prop} {s : Shared} (P : Nat → Prop) (h1 : wpAny M A X (IntIs P s) E s)
    (h2 : ∀ (m : Nat) (t : Tok) (tk : Nat), P m → Q (.int (m : Int) t) { s with toks := tk }) : wpAny M A X Q E s :=
  wpAny_mono h1 (by rintro v s' ⟨m, t, tk, rfl, hp, rfl⟩; exact h2 m t tk hp) (fun _ _ e => e)
theorem hmn (x : Int) (h : 0 ≤ x) : 1 + x = ((1 + x.toNat : Nat) : Int) := by omega
theorem hmn1 (n : Nat) : 1 ≤ 1 + n := by omega
theorem hmn3 {x : Int} (h : x < 3) : 1 + x.toNat ≤ 3 := by omega
theorem turn01 {w : World} {base h₀ : Heap} {L a cd' : Addr} {s : Shared} {a1 : Addr} {ex : List (Str × Value)} {p : Addr} {vs : Array Value} {n b : Nat} {k : Int} {tk : Tok} {LED Z : List (Addr × Obj)} {ts : List Tr}
    (B : Below callerA base [] h₀) (X : (Mine.hd.heap_39 w.params).In h₀) (TT : TopH h₀)
    (F : Fr h₀ L s.heap (fun y => if y = Str.ofString "x" then some (.int k tk) else List.lookup y ((Str.ofString "script", .ref a1) :: (Str.ofString "stack", .ref p) :: ex)))
    (N : News h₀ L s.heap ((p, W.listOf vs n) :: (LED ++ Z))) (hp : ∀ q ∈ LED ++ Z, q.1 ≠ p) (hLZ : ∀ q ∈ LED, ∀ z ∈ Z, z.1 ≠ q.1) (hst : Stk b ts) (hb64 : b ≤ 100) (hr : ReadsViaAll h₀ Z vs.toList (ts.map nodeD)) :
    wpAny (model P w) (callerA.deeper (envOf (Str.ofString "law") (scopeOf (lawD 16)) L a (.ref cd'))) (execs (forBody (stOf 16 1)) (envOf (Str.ofString "law") (scopeOf (lawD 16)) L a (.ref cd')))
      (LTurn h₀ L a1 p LED b s) (fun _ _ => False) s := by
  have hk0 : h₀.StaysIn s.heap := F.keep
  have hsz : vs.size = ts.length := by
    have hkZ : ∀ p ∈ Z, s.heap.get? p.1 = some p.2 := fun q hq => (N q (.tail _ (List.mem_append_right _ hq))).1
    have := rva_len hr hk0 hkZ
    rwa [List.length_map] at this
  have hst' := hst
  obtain ⟨hs1, hs2, hs3, hs4⟩ := hst
  obtain ⟨mean, mg, mb, TT⟩ := TT
  conv in (forBody _) => whnf
  conv in (occs := *) (scopeOf _) => all_goals whnf
  show wpAny (model P w) _ _ _ _ _
  k_fold
  (repeat' (((first | ((((with_reducible show wpAny _ _ (call (Value.builtin "list.append") [Value.ref _, _]) _ _ _); refine Mine.append_U (by with_reducible assumption) (by with_reducible assumption) (by walk_at "my_upd") (by walk_at "my_fit") ?_; intro h5q563 F5q563 N5q563))) | ((((with_reducible show wpAny _ _ (setItem (Value.ref _) (Value.int _ _) _) _ _ _); refine Mine.set_U (by with_reducible assumption) (by with_reducible assumption) (by decide) (by decide) (by walk_at "my_upd") (by rfl) ?_; intro h5q564 F5q564 N5q564))) | ((((with_reducible show wpAny _ _ (subscriptTail _ _ (Value.str _ _) (Value.int _ _)) _ _ _); refine Mine.sign_at (by with_reducible assumption) (by omega) (by omega) (by with_reducible assumption) ?_))) | ((((with_reducible show wpAny _ _ (compareOp CmpOp.In (Value.str _ _) (Value.str _ _)) _ _ _); first | refine Mine.in_lit (by with_reducible assumption) ?_ | refine Mine.in_lit (b := true) (by decide +kernel) ?_ | refine Mine.in_lit (b := false) (by decide +kernel) ?_))) | ((((with_reducible show wpAny _ _ (subscriptTail _ _ (Value.ref _) (Value.int (-1) _)) _ _ _); refine Mine.item_last (by walk_at "my_list") (by with_reducible assumption) ?_))) | ((((with_reducible show wpAny _ _ (compareOp CmpOp.NotIn (Value.str _ _) (Value.ref _)) _ _ _); refine Mine.notin_two (by walk_at "my_list") (by decide +kernel) ?_))) | ((((with_reducible show wpAny _ _ (call (Value.builtin "list.pop") [Value.ref _]) _ _ _); refine Mine.pop_U (by with_reducible assumption) (by with_reducible assumption) (by walk_at "my_upd") (by exact Mine.kl_last_rev _ _) (by (rw [sizeLine_eq]; (simp only [List.toList_toArray, List.length_reverse, List.length_cons] at *); omega)) ?_; intro h5q569 F5q569 N5q569))) | ((first | ((fail_if_success (with_reducible show wpAny _ _ (exec (Stmt.While _ _ _ _) _) _ _ _)); (fail_if_success (with_reducible show wpAny _ _ (exec (Stmt.For _ _ _ _ _) _) _ _ _)); (fail_if_success (with_reducible show wpAny _ _ (eval (PySem.Expr.ListComp _ _ _ _) _) _ _ _)); (fail_if_success (with_reducible show wpAny _ _ (exec (PySem.Stmt.Assign _ (PySem.Expr.ListComp _ _ _ _) _) _) _ _ _)); (fail_if_success (with_reducible show wpAny _ _ (call (Value.ref _) _) _ _ _)); (fail_if_success (with_reducible show wpAny _ _ (pyIter (Value.ref _)) _ _ _)); (fail_if_success (show LCg.CompSrc _ _ _ _ _ _ _ _ _ _ _ _ _ _)); first | (k_unfold; (try dsimp only)) | (k_end; wrow_close) | walk1 | (dsimp only; walk1) | (leave1; (try dsimp only)))))))))
  refine' Mine.call_dataE (act := _ :: LED) (Z := Z) (PP := fun l => isW l ∧ l.length ≤ 2) (d := fun l => nodeD (.word l)) (by assumption) (by assumption) N (by rfl) (by rfl) (fun _ _ e => e) (fun g2 hg2 hgg hZ BB => codeAny_mono (Mine.law_word ?X1 ?T1 BB ?hd1 ?hu1) (fun r s' h => h.mono fun v h' ⟨l, a1, a2, a3⟩ => ⟨l, ⟨a1, a2⟩, a3 g2⟩)) ?_
  case X1 => (first | (with_reducible assumption) | exact Frag.In.keeps (by assumption) (Fr.keep (by assumption)) | exact ⟨_, _, _, Top.keeps (by assumption) (Fr.keep (by assumption))⟩)
  case T1 => (first | (with_reducible assumption) | exact Frag.In.keeps (by assumption) (Fr.keep (by assumption)) | exact ⟨_, _, _, Top.keeps (by assumption) (Fr.keep (by assumption))⟩)
  case hd1 => decide
  case hu1 => ktr_units
  rintro v1 h1 tk1 Y1 l ⟨hlw, hl2⟩ F1 N1 hY1 st1 hv1
  have hp1 := tail_up hp hY1 (N _ (.head _)).1
  have hz1 := led_up hLZ hY1 (fun q hq => (N q (.tail _ (List.mem_append_left _ hq))).1)
  have hr1 : ReadsViaAll h₀ (Z ++ Y1) (vs.push v1).toList ((ts ++ [Tr.word l]).map nodeD) := by
    rw [Array.toList_push, List.map_append]
    exact rva_snoc (rva_up hr fun q hq => List.mem_append_left _ hq) hv1
  have hs1sz : (vs.push v1).size = (ts ++ [Tr.word l]).length := by rw [Array.size_push, hsz]; simp
  have hstw := stk_word hst' hlw hl2
  have ho1 := oks_word hs1 hlw
  have hw1 := wts_word (ts := ts) hl2
  have hlen1 : (ts ++ [Tr.word l]).length = ts.length + 1 := by simp
  simp only [List.cons_append] at N1
  clear hY1 hp hLZ hr hv1 N F
  generalize Z ++ Y1 = Z1 at *
  (repeat' ((fail_if_success (with_reducible show wpAny _ _ (eval (PySem.Expr.IfExp _ _ _ _) _) _ _ _)); (((first | ((((with_reducible show wpAny _ _ (call (Value.builtin "list.append") [Value.ref _, _]) _ _ _); refine Mine.append_U (by with_reducible assumption) (by with_reducible assumption) (by walk_at "my_upd") (by walk_at "my_fit") ?_; intro h5q575 F5q575 N5q575))) | ((((with_reducible show wpAny _ _ (setItem (Value.ref _) (Value.int _ _) _) _ _ _); refine Mine.set_U (by with_reducible assumption) (by with_reducible assumption) (by decide) (by decide) (by walk_at "my_upd") (by rfl) ?_; intro h5q576 F5q576 N5q576))) | ((((with_reducible show wpAny _ _ (subscriptTail _ _ (Value.str _ _) (Value.int _ _)) _ _ _); refine Mine.sign_at (by with_reducible assumption) (by omega) (by omega) (by with_reducible assumption) ?_))) | ((((with_reducible show wpAny _ _ (compareOp CmpOp.In (Value.str _ _) (Value.str _ _)) _ _ _); first | refine Mine.in_lit (by with_reducible assumption) ?_ | refine Mine.in_lit (b := true) (by decide +kernel) ?_ | refine Mine.in_lit (b := false) (by decide +kernel) ?_))) | ((((with_reducible show wpAny _ _ (subscriptTail _ _ (Value.ref _) (Value.int (-1) _)) _ _ _); refine Mine.item_last (by walk_at "my_list") (by with_reducible assumption) ?_))) | ((((with_reducible show wpAny _ _ (compareOp CmpOp.NotIn (Value.str _ _) (Value.ref _)) _ _ _); refine Mine.notin_two (by walk_at "my_list") (by decide +kernel) ?_))) | ((((with_reducible show wpAny _ _ (call (Value.builtin "list.pop") [Value.ref _]) _ _ _); refine Mine.pop_U (by with_reducible assumption) (by with_reducible assumption) (by walk_at "my_upd") (by exact Mine.kl_last_rev _ _) (by (rw [sizeLine_eq]; (simp only [List.toList_toArray, List.length_reverse, List.length_cons] at *); omega)) ?_; intro h5q581 F5q581 N5q581))) | ((first | ((fail_if_success (with_reducible show wpAny _ _ (exec (Stmt.While _ _ _ _) _) _ _ _)); (fail_if_success (with_reducible show wpAny _ _ (exec (Stmt.For _ _ _ _ _) _) _ _ _)); (fail_if_success (with_reducible show wpAny _ _ (eval (PySem.Expr.ListComp _ _ _ _) _) _ _ _)); (fail_if_success (with_reducible show wpAny _ _ (exec (PySem.Stmt.Assign _ (PySem.Expr.ListComp _ _ _ _) _) _) _ _ _)); (fail_if_success (with_reducible show wpAny _ _ (call (Value.ref _) _) _ _ _)); (fail_if_success (with_reducible show wpAny _ _ (pyIter (Value.ref _)) _ _ _)); (fail_if_success (show LCg.CompSrc _ _ _ _ _ _ _ _ _ _ _ _ _ _)); first | (k_unfold; (try dsimp only)) | (k_end; wrow_close) | walk1 | (dsimp only; walk1) | (leave1; (try dsimp only))))))))))
  · refine int_join (fun m => 1 ≤ m ∧ m ≤ 3 ∧ (k.fmod 5 = 1 → m = 2)) ?_ ?_
    · (repeat' (((first | ((((with_reducible show wpAny _ _ (call (Value.builtin "list.append") [Value.ref _, _]) _ _ _); refine Mine.append_U (by with_reducible assumption) (by with_reducible assumption) (by walk_at "my_upd") (by walk_at "my_fit") ?_; intro h5q585 F5q585 N5q585))) | ((((with_reducible show wpAny _ _ (setItem (Value.ref _) (Value.int _ _) _) _ _ _); refine Mine.set_U (by with_reducible assumption) (by with_reducible assumption) (by decide) (by decide) (by walk_at "my_upd") (by rfl) ?_; intro h5q586 F5q586 N5q586))) | ((((with_reducible show wpAny _ _ (subscriptTail _ _ (Value.str _ _) (Value.int _ _)) _ _ _); refine Mine.sign_at (by with_reducible assumption) (by omega) (by omega) (by with_reducible assumption) ?_))) | ((((with_reducible show wpAny _ _ (compareOp CmpOp.In (Value.str _ _) (Value.str _ _)) _ _ _); first | refine Mine.in_lit (by with_reducible assumption) ?_ | refine Mine.in_lit (b := true) (by decide +kernel) ?_ | refine Mine.in_lit (b := false) (by decide +kernel) ?_))) | ((((with_reducible show wpAny _ _ (subscriptTail _ _ (Value.ref _) (Value.int (-1) _)) _ _ _); refine Mine.item_last (by walk_at "my_list") (by with_reducible assumption) ?_))) | ((((with_reducible show wpAny _ _ (compareOp CmpOp.NotIn (Value.str _ _) (Value.ref _)) _ _ _); refine Mine.notin_two (by walk_at "my_list") (by decide +kernel) ?_))) | ((((with_reducible show wpAny _ _ (call (Value.builtin "list.pop") [Value.ref _]) _ _ _); refine Mine.pop_U (by with_reducible assumption) (by with_reducible assumption) (by walk_at "my_upd") (by exact Mine.kl_last_rev _ _) (by (rw [sizeLine_eq]; (simp only [List.toList_toArray, List.length_reverse, List.length_cons] at *); omega)) ?_; intro h5q591 F5q591 N5q591))) | ((first | ((fail_if_success (with_reducible show wpAny _ _ (exec (Stmt.While _ _ _ _) _) _ _ _)); (fail_if_success (with_reducible show wpAny _ _ (exec (Stmt.For _ _ _ _ _) _) _ _ _)); (fail_if_success (with_reducible show wpAny _ _ (eval (PySem.Expr.ListComp _ _ _ _) _) _ _ _)); (fail_if_success (with_reducible show wpAny _ _ (exec (PySem.Stmt.Assign _ (PySem.Expr.ListComp _ _ _ _) _) _) _ _ _)); (fail_if_success (with_reducible show wpAny _ _ (call (Value.ref _) _) _ _ _)); (fail_if_success (with_reducible show wpAny _ _ (pyIter (Value.ref _)) _ _ _)); (fail_if_success (show LCg.CompSrc _ _ _ _ _ _ _ _ _ _ _ _ _ _)); first | (k_unfold; (try dsimp only)) | (k_end; wrow_close) | walk1 | (dsimp only; walk1) | (leave1; (try dsimp only)))))))))
      · exact ⟨2, _, _, rfl, ⟨by decide, by decide, fun _ => rfl⟩, rfl⟩
      · rename k.fmod 5 ≠ 1 => hk1
        exact ⟨_, _, _, congrArg (fun z => Value.int z _) (hmn _ (Int.fmod_nonneg_of_pos (k.fdiv 5) (b := 3) (by decide))), ⟨hmn1 _, hmn3 (Int.fmod_lt_of_pos (k.fdiv 5) (b := 3) (by decide)), fun e => absurd e hk1⟩, rfl⟩
    rintro m tkm tkk ⟨hm1, hm3, hm2⟩
    (repeat' ((fail_if_success (with_reducible show wpAny _ _ (eval (PySem.Expr.IfExp _ _ _ _) _) _ _ _)); (((first | ((((with_reducible show wpAny _ _ (call (Value.builtin "list.append") [Value.ref _, _]) _ _ _); refine Mine.append_U (by with_reducible assumption) (by with_reducible assumption) (by walk_at "my_upd") (by walk_at "my_fit") ?_; intro h5q595 F5q595 N5q595))) | ((((with_reducible show wpAny _ _ (setItem (Value.ref _) (Value.int _ _) _) _ _ _); refine Mine.set_U (by with_reducible assumption) (by with_reducible assumption) (by decide) (by decide) (by walk_at "my_upd") (by rfl) ?_; intro h5q596 F5q596 N5q596))) | ((((with_reducible show wpAny _ _ (subscriptTail _ _ (Value.str _ _) (Value.int _ _)) _ _ _); refine Mine.sign_at (by with_reducible assumption) (by omega) (by omega) (by with_reducible assumption) ?_))) | ((((with_reducible show wpAny _ _ (compareOp CmpOp.In (Value.str _ _) (Value.str _ _)) _ _ _); first | refine Mine.in_lit (by with_reducible assumption) ?_ | refine Mine.in_lit (b := true) (by decide +kernel) ?_ | refine Mine.in_lit (b := false) (by decide +kernel) ?_))) | ((((with_reducible show wpAny _ _ (subscriptTail _ _ (Value.ref _) (Value.int (-1) _)) _ _ _); refine Mine.item_last (by walk_at "my_list") (by with_reducible assumption) ?_))) | ((((with_reducible show wpAny _ _ (compareOp CmpOp.NotIn (Value.str _ _) (Value.ref _)) _ _ _); refine Mine.notin_two (by walk_at "my_list") (by decide +kernel) ?_))) | ((((with_reducible show wpAny _ _ (call (Value.builtin "list.pop") [Value.ref _]) _ _ _); refine Mine.pop_U (by with_reducible assumption) (by with_reducible assumption) (by walk_at "my_upd") (by exact Mine.kl_last_rev _ _) (by (rw [sizeLine_eq]; (simp only [List.toList_toArray, List.length_reverse, List.length_cons] at *); omega)) ?_; intro h5q601 F5q601 N5q601))) | ((first | ((fail_if_success (with_reducible show wpAny _ _ (exec (Stmt.While _ _ _ _) _) _ _ _)); (fail_if_success (with_reducible show wpAny _ _ (exec (Stmt.For _ _ _ _ _) _) _ _ _)); (fail_if_success (with_reducible show wpAny _ _ (eval (PySem.Expr.ListComp _ _ _ _) _) _ _ _)); (fail_if_success (with_reducible show wpAny _ _ (exec (PySem.Stmt.Assign _ (PySem.Expr.ListComp _ _ _ _) _) _) _ _ _)); (fail_if_success (with_reducible show wpAny _ _ (call (Value.ref _) _) _ _ _)); (fail_if_success (with_reducible show wpAny _ _ (pyIter (Value.ref _)) _ _ _)); (fail_if_success (show LCg.CompSrc _ _ _ _ _ _ _ _ _ _ _ _ _ _)); first | (k_unfold; (try dsimp only)) | (k_end; wrow_close) | walk1 | (dsimp only; walk1) | (leave1; (try dsimp only))))))))))
    have hk : (-((m : Nat) : Int)) = -((m : Nat) : Int) := rfl
    rename News _ _ _ _ => N9
    rename Fr _ _ _ _ => F9
    rw [pick_last hk hm1] at N9
    rename k.fmod 5 ≠ 0 => hk0'
    have hkp := Int.fmod_nonneg_of_pos k (b := 5) (by decide)
    have hkl := Int.fmod_lt_of_pos k (b := 5) (by decide)
    refine' Mine.del_U F9 N9 (slice_last hk hm1) ?q1a ?q2a ?q3a ?_
    case q2a => walk_at "my_upd"
    case q1a => omega
    case q3a => omega
    intro h5 F5 N5
    (repeat' (((first | ((((with_reducible show wpAny _ _ (call (Value.builtin "list.append") [Value.ref _, _]) _ _ _); refine Mine.append_U (by with_reducible assumption) (by with_reducible assumption) (by walk_at "my_upd") (by walk_at "my_fit") ?_; intro h5q605 F5q605 N5q605))) | ((((with_reducible show wpAny _ _ (setItem (Value.ref _) (Value.int _ _) _) _ _ _); refine Mine.set_U (by with_reducible assumption) (by with_reducible assumption) (by decide) (by decide) (by walk_at "my_upd") (by rfl) ?_; intro h5q606 F5q606 N5q606))) | ((((with_reducible show wpAny _ _ (subscriptTail _ _ (Value.str _ _) (Value.int _ _)) _ _ _); refine Mine.sign_at (by with_reducible assumption) (by omega) (by omega) (by with_reducible assumption) ?_))) | ((((with_reducible show wpAny _ _ (compareOp CmpOp.In (Value.str _ _) (Value.str _ _)) _ _ _); first | refine Mine.in_lit (by with_reducible assumption) ?_ | refine Mine.in_lit (b := true) (by decide +kernel) ?_ | refine Mine.in_lit (b := false) (by decide +kernel) ?_))) | ((((with_reducible show wpAny _ _ (subscriptTail _ _ (Value.ref _) (Value.int (-1) _)) _ _ _); refine Mine.item_last (by walk_at "my_list") (by with_reducible assumption) ?_))) | ((((with_reducible show wpAny _ _ (compareOp CmpOp.NotIn (Value.str _ _) (Value.ref _)) _ _ _); refine Mine.notin_two (by walk_at "my_list") (by decide +kernel) ?_))) | ((((with_reducible show wpAny _ _ (call (Value.builtin "list.pop") [Value.ref _]) _ _ _); refine Mine.pop_U (by with_reducible assumption) (by with_reducible assumption) (by walk_at "my_upd") (by exact Mine.kl_last_rev _ _) (by (rw [sizeLine_eq]; (simp only [List.toList_toArray, List.length_reverse, List.length_cons] at *); omega)) ?_; intro h5q611 F5q611 N5q611))) | ((first | ((fail_if_success (with_reducible show wpAny _ _ (exec (Stmt.While _ _ _ _) _) _ _ _)); (fail_if_success (with_reducible show wpAny _ _ (exec (Stmt.For _ _ _ _ _) _) _ _ _)); (fail_if_success (with_reducible show wpAny _ _ (eval (PySem.Expr.ListComp _ _ _ _) _) _ _ _)); (fail_if_success (with_reducible show wpAny _ _ (exec (PySem.Stmt.Assign _ (PySem.Expr.ListComp _ _ _ _) _) _) _ _ _)); (fail_if_success (with_reducible show wpAny _ _ (call (Value.ref _) _) _ _ _)); (fail_if_success (with_reducible show wpAny _ _ (pyIter (Value.ref _)) _ _ _)); (fail_if_success (show LCg.CompSrc _ _ _ _ _ _ _ _ _ _ _ _ _ _)); first | (k_unfold; (try dsimp only)) | (k_end; wrow_close) | walk1 | (dsimp only; walk1) | (leave1; (try dsimp only)))))))))
    rename News _ _ _ _ => N8
    refine' Mine.call_dataE (act := _ :: _ :: LED) (Z := Z1) (PP := Good (k.fmod 5) ((ts ++ [Tr.word l]).drop ((ts ++ [Tr.word l]).length - m))) (d := nodeD) (by assumption) (by assumption) N8 (by rfl) (by rfl) (fun _ _ e => e) (fun g2 hg2 hgg hZ BB => Mine.law_over_any (us := (ts ++ [Tr.word l]).drop ((ts ++ [Tr.word l]).length - m)) ?X2a ?T2a BB ?hd2a ?hu2a hg2 hgg hZ ?hr2a ?hl2a ?hs2a ?ho2a ?hn2a ?h32a ?hk2a ?h12a) ?_
    case X2a => (first | (with_reducible assumption) | exact Frag.In.keeps (by assumption) (Fr.keep (by assumption)) | exact ⟨_, _, _, Top.keeps (by assumption) (Fr.keep (by assumption))⟩)
    case T2a => (first | (with_reducible assumption) | exact Frag.In.keeps (by assumption) (Fr.keep (by assumption)) | exact ⟨_, _, _, Top.keeps (by assumption) (Fr.keep (by assumption))⟩)
    case hd2a => decide
    case hu2a => ktr_units
    case hl2a => walk_at "my_list"
    case hr2a => rw [List.map_drop, hs1sz]; exact rva_drop _ hr1
    case hs2a => exact Nat.le_trans (wts_drop _ _) (by omega)
    case ho2a => exact oks_drop _ ho1
    case hn2a =>
      intro e
      have := congrArg List.length e
      rw [List.length_drop, List.length_nil] at this
      omega
    case h32a => rw [List.length_drop]; omega
    case hk2a => omega
    case h12a => intro e; have h2 := hm2 e; rw [List.length_drop]; omega
    intro v2 h2 tk2 Y2 T2 hG F2 N2 hY2 st2 hv2
    have hp2 := tail_up hp1 hY2 (N8 _ (.tail _ (.head _))).1
    have hz2 := led_up hz1 hY2 (fun q hq => (N8 q (.tail _ (.tail _ (List.mem_append_left _ hq)))).1)
    have hr2 : ReadsViaAll h₀ (Z1 ++ Y2) (((vs.push v1).toList.take ((vs.push v1).size - m)).toArray.push v2).toList (((ts ++ [Tr.word l]).take ((ts ++ [Tr.word l]).length - m) ++ [T2]).map nodeD) := by
      rw [Array.toList_push, List.map_append, List.map_take]
      refine rva_snoc (rva_up ?_ fun q hq => List.mem_append_left _ hq) hv2
      rw [← hs1sz]
      exact rva_take _ hr1
    have hst2 := stk_over hst' hlw hl2 hm1 hm2 hG
    simp only [List.cons_append] at N2
    have hsz9 : ((vs.push v1).toList.take ((vs.push v1).size - m)).length ≤ 1000000 := by rw [List.length_take, Array.length_toList]; omega
    clear hY2 N8
    generalize Z1 ++ Y2 = Z2 at *
    generalize ((vs.push v1).toList.take ((vs.push v1).size - m)) = VT at *
    (repeat' (((first | ((((with_reducible show wpAny _ _ (call (Value.builtin "list.append") [Value.ref _, _]) _ _ _); refine Mine.append_U (by with_reducible assumption) (by with_reducible assumption) (by walk_at "my_upd") (by walk_at "my_fit") ?_; intro h5q617 F5q617 N5q617))) | ((((with_reducible show wpAny _ _ (setItem (Value.ref _) (Value.int _ _) _) _ _ _); refine Mine.set_U (by with_reducible assumption) (by with_reducible assumption) (by decide) (by decide) (by walk_at "my_upd") (by rfl) ?_; intro h5q618 F5q618 N5q618))) | ((((with_reducible show wpAny _ _ (subscriptTail _ _ (Value.str _ _) (Value.int _ _)) _ _ _); refine Mine.sign_at (by with_reducible assumption) (by omega) (by omega) (by with_reducible assumption) ?_))) | ((((with_reducible show wpAny _ _ (compareOp CmpOp.In (Value.str _ _) (Value.str _ _)) _ _ _); first | refine Mine.in_lit (by with_reducible assumption) ?_ | refine Mine.in_lit (b := true) (by decide +kernel) ?_ | refine Mine.in_lit (b := false) (by decide +kernel) ?_))) | ((((with_reducible show wpAny _ _ (subscriptTail _ _ (Value.ref _) (Value.int (-1) _)) _ _ _); refine Mine.item_last (by walk_at "my_list") (by with_reducible assumption) ?_))) | ((((with_reducible show wpAny _ _ (compareOp CmpOp.NotIn (Value.str _ _) (Value.ref _)) _ _ _); refine Mine.notin_two (by walk_at "my_list") (by decide +kernel) ?_))) | ((((with_reducible show wpAny _ _ (call (Value.builtin "list.pop") [Value.ref _]) _ _ _); refine Mine.pop_U (by with_reducible assumption) (by with_reducible assumption) (by walk_at "my_upd") (by exact Mine.kl_last_rev _ _) (by (rw [sizeLine_eq]; (simp only [List.toList_toArray, List.length_reverse, List.length_cons] at *); omega)) ?_; intro h5q623 F5q623 N5q623))) | ((first | ((fail_if_success (with_reducible show wpAny _ _ (exec (Stmt.While _ _ _ _) _) _ _ _)); (fail_if_success (with_reducible show wpAny _ _ (exec (Stmt.For _ _ _ _ _) _) _ _ _)); (fail_if_success (with_reducible show wpAny _ _ (eval (PySem.Expr.ListComp _ _ _ _) _) _ _ _)); (fail_if_success (with_reducible show wpAny _ _ (exec (PySem.Stmt.Assign _ (PySem.Expr.ListComp _ _ _ _) _) _) _ _ _)); (fail_if_success (with_reducible show wpAny _ _ (call (Value.ref _) _) _ _ _)); (fail_if_success (with_reducible show wpAny _ _ (pyIter (Value.ref _)) _ _ _)); (fail_if_success (show LCg.CompSrc _ _ _ _ _ _ _ _ _ _ _ _ _ _)); first | (k_unfold; (try dsimp only)) | (k_end; wrow_close) | walk1 | (dsimp only; walk1) | (leave1; (try dsimp only)))))))))
    rename News _ _ _ _ => N7
    rename Fr _ _ _ _ => F7
    exact LTurn.intro F7 (by (((simp only [← Mine.mset_at]); rfl))) (fun q hq => N7 q (.tail _ hq)) hp2 hz2 hst2 hr2
  · rename News _ _ _ _ => N7
    rename Fr _ _ _ _ => F7
    exact LTurn.intro F7 (by (((simp only [← Mine.mset_at]); rfl))) N7 hp1 hz1 hstw hr1

end
end
theorem loop01 {w : World} {base h₀ : Heap} {L a cd' : Addr} {s : Shared} {a1 p D : Addr} {e : Addr × Obj} {ws : List Value} {ns : List Int} {m : Str → Option Value} {kD n0 : Nat} {px : Pos} {E : Value → Shared → Prop} {Q : Flow → Shared → Prop}
    (B : Below callerA base [] h₀) (X : (Mine.hd.heap_39 w.params).In h₀) (TT : TopH h₀)
    (F : Fr h₀ L s.heap m) (hm : m = fun y => List.lookup y ((Str.ofString "script", .ref a1) :: (Str.ofString "stack", .ref p) :: []))
    (N : News h₀ L s.heap [(D, W.listOf ws.toArray kD), e, (p, W.listOf #[] n0)]) (h1 : D ≠ p) (h2 : e.1 ≠ p) (hNums : IntsAre ws ns) (hlen : ns.length ≤ 64)
    (done : ∀ h tk ex vs n Z ts, Fr h₀ L h (fun y => List.lookup y ((Str.ofString "script", .ref a1) :: (Str.ofString "stack", .ref p) :: ex)) → News h₀ L h ((p, W.listOf vs n) :: Z) → (∀ q ∈ Z, q.1 ≠ p) → Stk ns.length ts → ReadsViaAll h₀ Z vs.toList (ts.map nodeD) → Q .next { s with heap := h, toks := tk })
    (hE : PassesOwn (model P w) (callerA.deeper (envOf (Str.ofString "law") (scopeOf (lawD 16)) L a (.ref cd'))) (envOf (Str.ofString "law") (scopeOf (lawD 16)) L a (.ref cd')) E) :
    wpAny (model P w) (callerA.deeper (envOf (Str.ofString "law") (scopeOf (lawD 16)) L a (.ref cd'))) (pyIter (.ref D)) (fun it s₂ => codeAny (model P w) (callerA.deeper (envOf (Str.ofString "law") (scopeOf (lawD 16)) L a (.ref cd'))) (.forLoop (.Name (Str.ofString "x") px) it (forBody (stOf 16 1)) [] (envOf (Str.ofString "law") (scopeOf (lawD 16)) L a (.ref cd')))
      (fun r s' => match r with | .ok f => Q f s' | .error e => cameBackBy (model P w) (callerA.deeper (envOf (Str.ofString "law") (scopeOf (lawD 16)) L a (.ref cd'))) (envOf (Str.ofString "law") (scopeOf (lawD 16)) L a (.ref cd')) E e s') s₂) E s := by
  have hsz : ws.toArray.size = ns.length := by rw [List.size_toArray]; exact hNums.length
  refine iter_list2 (h₀ := h₀) (items := ws.toArray) (fun I i m h => ∃ vs n Z ts ex, m = (fun y => List.lookup y ((Str.ofString "script", .ref a1) :: (Str.ofString "stack", .ref p) :: ex)) ∧ News h₀ L h ((p, W.listOf vs n) :: ([(D, W.listOf ws.toArray kD), e] ++ Z)) ∧ (∀ q ∈ [(D, W.listOf ws.toArray kD), e] ++ Z, q.1 ≠ p) ∧ (∀ q ∈ [(D, W.listOf ws.toArray kD), e], ∀ z ∈ Z, z.1 ≠ q.1) ∧ p ≠ I ∧ (∀ q ∈ [(D, W.listOf ws.toArray kD), e] ++ Z, q.1 ≠ I) ∧ Stk i ts ∧ ReadsViaAll h₀ Z vs.toList (ts.map nodeD))
    (News.isList N (.head _)) F ?_ ?_ ?_ ?_ rfl ?_ ?_ hE
  · rintro I rfl
    refine ⟨#[], n0, [], [], [], hm, fun q hq => N q ?_, ?_, (fun _ _ z hz => nomatch hz), Nat.ne_of_lt (Heap.lt_size (N _ (.tail _ (.tail _ (.head _)))).1), ?_, ⟨by rw [oks]; trivial, by simp [wts], by simp, fun h => absurd rfl h⟩, .nil⟩
    · simp only [List.append_nil, List.mem_cons, List.not_mem_nil, or_false] at hq ⊢
      rcases hq with h | h | h <;> simp [h]
    · intro q hq
      simp only [List.append_nil, List.mem_cons, List.not_mem_nil, or_false] at hq
      rcases hq with rfl | rfl
      · exact h1
      · exact h2
    · intro q hq
      simp only [List.append_nil, List.mem_cons, List.not_mem_nil, or_false] at hq
      rcases hq with rfl | rfl
      · exact Nat.ne_of_lt (Heap.lt_size (N _ (.head _)).1)
      · exact Nat.ne_of_lt (Heap.lt_size (N _ (.tail _ (.head _))).1)
  · rintro I i m h h' ⟨vs, n, Z, ts, ex, rfl, N1, hp, hz, hpI, hqI, hs, hr⟩ hk
    refine ⟨vs, n, Z, ts, ex, rfl, News.but N1 (fun q hq => ?_) hk, hp, hz, hpI, hqI, hs, hr⟩
    cases hq with
    | head => exact hpI
    | tail _ hq => exact hqI q hq
  · rintro I i v m₁ h tk hv ⟨vs, n, Z, ts, ex, rfl, N1, hp, hz, hpI, hqI, hs, hr⟩ hI hli hI0 hIL F₁
    obtain ⟨oI, hoI, hIr⟩ := id hI
    obtain ⟨k, t, rfl, hk⟩ := IntsAre.at hNums i v (by simpa using hv)
    have hi : i < ns.length := by
      rw [← hsz]
      exact (Array.getElem?_eq_some_iff.mp hv).1
    have N2 : News h₀ L h ((p, W.listOf vs n) :: ((I, oI) :: [(D, W.listOf ws.toArray kD), e] ++ Z)) := by
      intro q hq
      simp only [List.cons_append, List.mem_cons] at hq
      rcases hq with rfl | rfl | hq
      · exact N1 _ (.head _)
      · exact ⟨hoI, hIL, hI0⟩
      · exact N1 q (List.mem_cons_of_mem _ (by simpa using hq))
    refine wpAny_mono (turn01 B X TT F₁ N2 ?_ ?_ hs (by omega) hr) (fun fl s' hg => ?_) (fun _ _ e => e.elim)
    · intro q hq
      cases hq with
      | head => exact Ne.symm hpI
      | tail _ hq => exact hp q hq
    · intro q hq z hz'
      cases hq with
      | head => exact hqI z (List.mem_append_right _ hz')
      | tail _ hq => exact hz q hq z hz'
    · obtain ⟨rfl, h', tk', ex', vs', n', Z', ts', rfl, F', N', hp', hz', hs', hr'⟩ := hg
      refine TurnH.intro F' ⟨⟨oI, (N' (I, oI) (.tail _ (.head _))).1, hIr⟩, News.isList N' (.tail _ (.tail _ (.head _)))⟩ ⟨vs', n', Z', ts', ex', rfl, ?_, ?_, ?_, hpI, ?_, hs', hr'⟩
      · intro q hq
        cases hq with
        | head => exact N' _ (.head _)
        | tail _ hq => exact N' q (.tail _ (.tail _ hq))
      · exact fun q hq => hp' q (.tail _ hq)
      · exact fun q hq => hz' q (.tail _ hq)
      · intro q hq
        rcases List.mem_append.mp hq with hq | hq
        · exact hqI q (List.mem_append_left _ hq)
        · exact hz' (I, oI) (.head _) q hq
  · rintro I m₁ h tk ⟨vs, n, Z, ts, ex, rfl, N1, hp, hz, hpI, hqI, hs, hr⟩ F₁
    rw [hsz] at hs
    exact done h tk ex vs n Z ts F₁ (fun q hq => by
      cases hq with
      | head => exact N1 _ (.head _)
      | tail _ hq => exact N1 q (.tail _ (List.mem_append_right _ hq))) (fun q hq => hp q (List.mem_append_right _ hq)) hs hr
  · rfl
  · rfl
def InvD (h₀ : Heap) (Z : List (Addr × Obj)) (ts : List Tr) (i : Nat) (ys : List Value) (Z' : List (Addr × Obj)) : Prop := Z' = Z ∧ ReadsViaAll h₀ Z ys (dts (ts.take i))
theorem comp_srcD {prog : Program} {w : World} {A : Around} {h₀ : Heap} {L : Addr} {m : Str → Option Value} {env : Env} {elt : PySem.Expr} {x : Str} {scope : Scope} {cl : List (Str × Addr)} {Fin : Shared → List Value → List (Addr × Obj) → Prop} {ax : Addr} {its : Array Value} {act Z₀ : List (Addr × Obj)} {s₁ : Shared} (ts : List Tr)
    (hh : A.handled = none) (F : Fr h₀ L s₁.heap m) (N : News h₀ L s₁.heap (act ++ Z₀)) (hs : LCg.SrcAt h₀ ax its act) (hsz : its.size ≤ 100000)
    (turn : ∀ g i v I oI C oC D m₂ ys Z h tk (E' : Value → Shared → Prop), its[i]? = some v → LCg.NsObj oC m₂ → m₂ x = some v → Fr h₀ L h m → News h₀ L h ((I, oI) :: (C, oC) :: (D, LCg.lst ys) :: (act ++ Z)) → LCg.Off3 I C D act → ((@Ne Nat I C) ∧ (@Ne Nat I D) ∧ (@Ne Nat C D)) → InvD h₀ Z₀ ts i ys Z →
      wpAny (model prog w) A (eval elt (compEnvC scope cl C env)) (CTurn h₀ L m { s₁ with heap := h, toks := tk, gens := g } [(I, oI), (C, oC), (D, LCg.lst ys)] act Z (fun y Z' => InvD h₀ Z₀ ts (i + 1) (ys ++ [y]) Z')) E' { s₁ with heap := h, toks := tk, gens := g })
    (fin : ∀ g ys Z, ys.length = its.size → InvD h₀ Z₀ ts its.size ys Z → Fin { s₁ with heap := g } ys (act ++ Z)) :
    LCg.CompSrc prog w A h₀ L m env elt x scope cl Fin (.ref ax) s₁ :=
  comp_src (InvD h₀ Z₀ ts) hh F N hs hsz ⟨rfl, .nil⟩ turn fin

section
theorem law_holds : PySem.Challenge.rw_io0038_01.Holds := Mine.hd (by
  k_go0
  (all_goals try k_fold)
  (repeat' (((first | ((fail_if_success (with_reducible show wpAny _ _ (exec (Stmt.While _ _ _ _) _) _ _ _)); (fail_if_success (with_reducible show wpAny _ _ (exec (Stmt.For _ _ _ _ _) _) _ _ _)); (fail_if_success (with_reducible show wpAny _ _ (eval (PySem.Expr.ListComp _ _ _ _) _) _ _ _)); (fail_if_success (with_reducible show wpAny _ _ (exec (PySem.Stmt.Assign _ (PySem.Expr.ListComp _ _ _ _) _) _) _ _ _)); (fail_if_success (with_reducible show wpAny _ _ (call (Value.ref _) _) _ _ _)); (fail_if_success (with_reducible show wpAny _ _ (pyIter (Value.ref _)) _ _ _)); (fail_if_success (show LCg.CompSrc _ _ _ _ _ _ _ _ _ _ _ _ _ _)); first | (k_unfold; (try dsimp only)) | (k_end; wrow_close) | walk1 | (dsimp only; walk1) | (leave1; (try dsimp only)))))))
  refine wpAny_For ?_
  (repeat' (((first | ((fail_if_success (with_reducible show wpAny _ _ (exec (Stmt.While _ _ _ _) _) _ _ _)); (fail_if_success (with_reducible show wpAny _ _ (exec (Stmt.For _ _ _ _ _) _) _ _ _)); (fail_if_success (with_reducible show wpAny _ _ (eval (PySem.Expr.ListComp _ _ _ _) _) _ _ _)); (fail_if_success (with_reducible show wpAny _ _ (exec (PySem.Stmt.Assign _ (PySem.Expr.ListComp _ _ _ _) _) _) _ _ _)); (fail_if_success (with_reducible show wpAny _ _ (call (Value.ref _) _) _ _ _)); (fail_if_success (with_reducible show wpAny _ _ (pyIter (Value.ref _)) _ _ _)); (fail_if_success (show LCg.CompSrc _ _ _ _ _ _ _ _ _ _ _ _ _ _)); first | (k_unfold; (try dsimp only)) | (k_end; wrow_close) | walk1 | (dsimp only; walk1) | (leave1; (try dsimp only)))))))
  rename News _ _ _ _ => NL
  rename Fr _ _ _ _ => FL
  rename IntsAre _ (_ ++ _) => hNums
  rename ¬ _ < _ => hmost
  rename Below _ _ _ _ => KB
  have hnl := hNums.length
  refine loop01 KB (by assumption) ⟨_, _, _, by assumption⟩ FL (by (((simp only [← Mine.mset_at]); rfl))) NL (by k_ne) (by k_ne) hNums (by simp at hmost ⊢; omega) ?_ (by passes_own)
  intro h tk ex vs n Z ts F1 N1 hp hs hr
  clear NL FL
  have hk0 := F1.keep
  have hvs : vs.size = ts.length := by
    have := rva_len hr hk0 (fun q hq => (N1 q (.tail _ hq)).1)
    rwa [List.length_map] at this
  have hne : ts ≠ [] := hs.2.2.2 (by simp)
  have hne2 := nmS_ne hne
  simp only [List.length_append, List.length_singleton] at hs
  have hl64 := hmost
  (repeat' (((first | ((fail_if_success (with_reducible show wpAny _ _ (exec (Stmt.While _ _ _ _) _) _ _ _)); (fail_if_success (with_reducible show wpAny _ _ (exec (Stmt.For _ _ _ _ _) _) _ _ _)); (fail_if_success (with_reducible show wpAny _ _ (eval (PySem.Expr.ListComp _ _ _ _) _) _ _ _)); (fail_if_success (with_reducible show wpAny _ _ (exec (PySem.Stmt.Assign _ (PySem.Expr.ListComp _ _ _ _) _) _) _ _ _)); (fail_if_success (with_reducible show wpAny _ _ (call (Value.ref _) _) _ _ _)); (fail_if_success (with_reducible show wpAny _ _ (pyIter (Value.ref _)) _ _ _)); (fail_if_success (show LCg.CompSrc _ _ _ _ _ _ _ _ _ _ _ _ _ _)); first | (k_unfold; (try dsimp only)) | (k_end; wrow_close) | walk1 | (dsimp only; walk1) | (leave1; (try dsimp only)))))))
  k_dflt (refine LCg.ListComp_U (F₀ := by k_asm) (by with_unfolding_all rfl) (by decide) (by rfl) (by decide) (by rfl) ?_)
  (repeat' (((first | ((fail_if_success (with_reducible show wpAny _ _ (exec (Stmt.While _ _ _ _) _) _ _ _)); (fail_if_success (with_reducible show wpAny _ _ (exec (Stmt.For _ _ _ _ _) _) _ _ _)); (fail_if_success (with_reducible show wpAny _ _ (eval (PySem.Expr.ListComp _ _ _ _) _) _ _ _)); (fail_if_success (with_reducible show wpAny _ _ (exec (PySem.Stmt.Assign _ (PySem.Expr.ListComp _ _ _ _) _) _) _ _ _)); (fail_if_success (with_reducible show wpAny _ _ (call (Value.ref _) _) _ _ _)); (fail_if_success (with_reducible show wpAny _ _ (pyIter (Value.ref _)) _ _ _)); (fail_if_success (show LCg.CompSrc _ _ _ _ _ _ _ _ _ _ _ _ _ _)); first | (k_unfold; (try dsimp only)) | (k_end; wrow_close) | walk1 | (dsimp only; walk1) | (leave1; (try dsimp only)))))))
  obtain ⟨hs1, hs2, hs3, hs4⟩ := hs
  refine comp_src (act := [_, _]) (Z₀ := Z) (fun i ys Z' => Z' = Z ∧ StrsAre ys ((ts.take i).map nmS)) (by rfl) (by assumption) (by assumption) (.inr ⟨_, .tail _ (.head _), rfl, _, rfl⟩) (by omega) ⟨rfl, .nil⟩ ?_ ?_
  · rintro g' i v I oI C oC D m₂ ys2 Z2 h tk' E' hv hC hx F N off ne ⟨rfl, hys2⟩
    obtain ⟨T, x, vt, t, hT, rfl, hxl, hrt⟩ := nodes_via F.keep (fun q hq => (N q (.tail _ (.tail _ (.tail _ (List.mem_append_right _ hq))))).1) hr (by rw [Array.getElem?_toList]; exact hv)
    (repeat' (((first | ((fail_if_success (with_reducible show wpAny _ _ (exec (Stmt.While _ _ _ _) _) _ _ _)); (fail_if_success (with_reducible show wpAny _ _ (exec (Stmt.For _ _ _ _ _) _) _ _ _)); (fail_if_success (with_reducible show wpAny _ _ (eval (PySem.Expr.ListComp _ _ _ _) _) _ _ _)); (fail_if_success (with_reducible show wpAny _ _ (exec (PySem.Stmt.Assign _ (PySem.Expr.ListComp _ _ _ _) _) _) _ _ _)); (fail_if_success (with_reducible show wpAny _ _ (call (Value.ref _) _) _ _ _)); (fail_if_success (with_reducible show wpAny _ _ (pyIter (Value.ref _)) _ _ _)); (fail_if_success (show LCg.CompSrc _ _ _ _ _ _ _ _ _ _ _ _ _ _)); first | (k_unfold; (try dsimp only)) | (k_end; wrow_close) | walk1 | (dsimp only; walk1) | (leave1; (try dsimp only)))))))
    refine CTurn.intro F N Z2 (fun p hp => hp) (fun p hp => .inl hp) ⟨rfl, ?_⟩
    rw [nms_take_succ hT]
    exact Mine.StrsAre.snoc hys2 _ _
  · rintro g' ys2 Z2 hlen2 ⟨rfl, hys2⟩
    rw [List.take_of_length_le (by omega)] at hys2
    (repeat' (((first | ((fail_if_success (with_reducible show wpAny _ _ (exec (Stmt.While _ _ _ _) _) _ _ _)); (fail_if_success (with_reducible show wpAny _ _ (exec (Stmt.For _ _ _ _ _) _) _ _ _)); (fail_if_success (with_reducible show wpAny _ _ (eval (PySem.Expr.ListComp _ _ _ _) _) _ _ _)); (fail_if_success (with_reducible show wpAny _ _ (exec (PySem.Stmt.Assign _ (PySem.Expr.ListComp _ _ _ _) _) _) _ _ _)); (fail_if_success (with_reducible show wpAny _ _ (call (Value.ref _) _) _ _ _)); (fail_if_success (with_reducible show wpAny _ _ (pyIter (Value.ref _)) _ _ _)); (fail_if_success (show LCg.CompSrc _ _ _ _ _ _ _ _ _ _ _ _ _ _)); first | (k_unfold; (try dsimp only)) | (k_end; wrow_close) | walk1 | (dsimp only; walk1) | (leave1; (try dsimp only)))))))
    have hw2 := nmS_hw (ts := ts) (by omega)
    ((refine' Mine.call_at (by assumption) (by assumption) (by assumption) (by rfl) (by rfl) (fun BB => Mine.law_name_D ?Xq640 ?Tq640 BB ?hdq640 ?huq640 ?hl0q640 ?hmq640 ?hddq640 ?hlq640 ?hiq640 ?hneq640 ?hwq640) ?_; (case Xq640 => (first | (with_reducible assumption) | exact Frag.In.keeps (by assumption) (Fr.keep (by assumption)) | exact ⟨_, _, _, Top.keeps (by assumption) (Fr.keep (by assumption))⟩)); (case Tq640 => (first | (with_reducible assumption) | exact Frag.In.keeps (by assumption) (Fr.keep (by assumption)) | exact ⟨_, _, _, Top.keeps (by assumption) (Fr.keep (by assumption))⟩)); (case hdq640 => decide); (case huq640 => ktr_units); (case hl0q640 => (first | assumption | exact Or.inl (News.isList (by assumption) (by k_mem)) | exact Or.inr (News.isTup (by assumption) (by k_mem)) | exact Mine.Empty.keeps (Fr.keep (by assumption)) (by assumption) | exact Mine.Empty.keeps (Fr.keep (by assumption)) (Mine.Empty.keeps (Fr.keep (by assumption)) (by assumption)))); (case hmq640 => first | assumption | exact Mine.Hidden.none | exact Mine.Hidden.sup); (case hddq640 => first | assumption | exact Mine.Hidden.none | exact Mine.Hidden.sup); (case hlq640 => walk_at "my_list"); (case hiq640 => first | assumption | exact StrsAre.cons _ _ StrsAre.nil); (case hneq640 => first | assumption | simp); (case hwq640 => assumption); (rintro v2q640 h2q640 tk2q640 F2q640 N2q640 st2q640 ⟨t2q640, hv2q640⟩); subst hv2q640))
    (repeat' (((first | ((fail_if_success (with_reducible show wpAny _ _ (exec (Stmt.While _ _ _ _) _) _ _ _)); (fail_if_success (with_reducible show wpAny _ _ (exec (Stmt.For _ _ _ _ _) _) _ _ _)); (fail_if_success (with_reducible show wpAny _ _ (eval (PySem.Expr.ListComp _ _ _ _) _) _ _ _)); (fail_if_success (with_reducible show wpAny _ _ (exec (PySem.Stmt.Assign _ (PySem.Expr.ListComp _ _ _ _) _) _) _ _ _)); (fail_if_success (with_reducible show wpAny _ _ (call (Value.ref _) _) _ _ _)); (fail_if_success (with_reducible show wpAny _ _ (pyIter (Value.ref _)) _ _ _)); (fail_if_success (show LCg.CompSrc _ _ _ _ _ _ _ _ _ _ _ _ _ _)); first | (k_unfold; (try dsimp only)) | (k_end; wrow_close) | walk1 | (dsimp only; walk1) | (leave1; (try dsimp only)))))))
    rw [← nmS_c ts]
    obtain ⟨cur, hcd, hsteps⟩ := read_all hs1 hne
    have hstp : Steps ([lv0], (nmS (Tr.node .c ts)).cps.toList) ([⟨0, [], [], [], cur⟩], []) := by simpa [nmS] using hsteps
    have hnl2 := nmS_le (Tr.node .c ts)
    rw [Tr.wt] at hnl2
    refine' Mine.call_data (act := [_, _, _]) (Z := Z2) (by assumption) (by assumption) (by assumption) (by rfl) (by rfl) (fun _ _ e => e) (fun g2 hg2 hgg hZ BB => Mine.law_read (cur := cur) ?X1 ?T1 BB ?hd1 ?hu1 hg2 ?hT1 hstp) ?_
    case X1 => (first | (with_reducible assumption) | exact Frag.In.keeps (by assumption) (Fr.keep (by assumption)) | exact ⟨_, _, _, Top.keeps (by assumption) (Fr.keep (by assumption))⟩)
    case T1 => (first | (with_reducible assumption) | exact Frag.In.keeps (by assumption) (Fr.keep (by assumption)) | exact ⟨_, _, _, Top.keeps (by assumption) (Fr.keep (by assumption))⟩)
    case hd1 => decide
    case hu1 => ktr_units
    case hT1 => omega
    intro v3 h3 tk3 Y3 F3 N3 hY3 st3 hv3
    simp only [List.cons_append, List.nil_append] at N3
    replace hr := rva_up hr (fun q hq => List.mem_append_left Y3 hq)
    rw [hcd, Tr.dt] at hv3
    have hlay : (PyData.list (.str (kdS .c) :: dts ts)).canLay0 = true := by
      have := dt_lay (.node .c ts) (by rw [Tr.ok]; exact ⟨hs1, hne⟩)
      rwa [Tr.dt] at this
    have hdep : (PyData.list (.str (kdS .c) :: dts ts)).depth ≤ 1 + wts ts := by
      have := dt_depth (.node .c ts)
      rwa [Tr.dt, Tr.wt] at this
    clear hY3 hsteps hstp
    generalize Z2 ++ Y3 = Z3 at *
    (repeat' (((first | ((fail_if_success (with_reducible show wpAny _ _ (exec (Stmt.While _ _ _ _) _) _ _ _)); (fail_if_success (with_reducible show wpAny _ _ (exec (Stmt.For _ _ _ _ _) _) _ _ _)); (fail_if_success (with_reducible show wpAny _ _ (eval (PySem.Expr.ListComp _ _ _ _) _) _ _ _)); (fail_if_success (with_reducible show wpAny _ _ (exec (PySem.Stmt.Assign _ (PySem.Expr.ListComp _ _ _ _) _) _) _ _ _)); (fail_if_success (with_reducible show wpAny _ _ (call (Value.ref _) _) _ _ _)); (fail_if_success (with_reducible show wpAny _ _ (pyIter (Value.ref _)) _ _ _)); (fail_if_success (show LCg.CompSrc _ _ _ _ _ _ _ _ _ _ _ _ _ _)); first | (k_unfold; (try dsimp only)) | (k_end; wrow_close) | walk1 | (dsimp only; walk1) | (leave1; (try dsimp only)))))))
    k_dflt (refine LCg.ListComp_U (F₀ := by k_asm) (by with_unfolding_all rfl) (by decide) (by rfl) (by decide) (by rfl) ?_)
    (repeat' (((first | ((fail_if_success (with_reducible show wpAny _ _ (exec (Stmt.While _ _ _ _) _) _ _ _)); (fail_if_success (with_reducible show wpAny _ _ (exec (Stmt.For _ _ _ _ _) _) _ _ _)); (fail_if_success (with_reducible show wpAny _ _ (eval (PySem.Expr.ListComp _ _ _ _) _) _ _ _)); (fail_if_success (with_reducible show wpAny _ _ (exec (PySem.Stmt.Assign _ (PySem.Expr.ListComp _ _ _ _) _) _) _ _ _)); (fail_if_success (with_reducible show wpAny _ _ (call (Value.ref _) _) _ _ _)); (fail_if_success (with_reducible show wpAny _ _ (pyIter (Value.ref _)) _ _ _)); (fail_if_success (show LCg.CompSrc _ _ _ _ _ _ _ _ _ _ _ _ _ _)); first | (k_unfold; (try dsimp only)) | (k_end; wrow_close) | walk1 | (dsimp only; walk1) | (leave1; (try dsimp only)))))))
    refine comp_srcD ts (act := [_, _, _, _]) (Z₀ := Z3) (by rfl) (by assumption) (by assumption) (.inr ⟨_, .tail _ (.tail _ (.tail _ (.head _))), rfl, _, rfl⟩) (by omega) ?_ ?_
    · rintro g' i v I oI C oC D m₂ ys4 Z4 h tk' E' hv hC hx F N off ne ⟨rfl, hys4⟩
      obtain ⟨T, x, vt, t, hT, rfl, hxl, hrt⟩ := nodes_via F.keep (fun q hq => (N q (.tail _ (.tail _ (.tail _ (List.mem_append_right _ hq))))).1) hr (by rw [Array.getElem?_toList]; exact hv)
      (repeat' (((first | ((fail_if_success (with_reducible show wpAny _ _ (exec (Stmt.While _ _ _ _) _) _ _ _)); (fail_if_success (with_reducible show wpAny _ _ (exec (Stmt.For _ _ _ _ _) _) _ _ _)); (fail_if_success (with_reducible show wpAny _ _ (eval (PySem.Expr.ListComp _ _ _ _) _) _ _ _)); (fail_if_success (with_reducible show wpAny _ _ (exec (PySem.Stmt.Assign _ (PySem.Expr.ListComp _ _ _ _) _) _) _ _ _)); (fail_if_success (with_reducible show wpAny _ _ (call (Value.ref _) _) _ _ _)); (fail_if_success (with_reducible show wpAny _ _ (pyIter (Value.ref _)) _ _ _)); (fail_if_success (show LCg.CompSrc _ _ _ _ _ _ _ _ _ _ _ _ _ _)); first | (k_unfold; (try dsimp only)) | (k_end; wrow_close) | walk1 | (dsimp only; walk1) | (leave1; (try dsimp only)))))))
      refine CTurn.intro F N Z4 (fun p hp => hp) (fun p hp => .inl hp) ⟨rfl, ?_⟩
      rw [dts_take_succ hT]
      exact rva_snoc hys4 hrt
    · rintro g' ys4 Z4 hlen4 ⟨rfl, hys4⟩
      rw [List.take_of_length_le (by omega)] at hys4
      (repeat' (((first | ((fail_if_success (with_reducible show wpAny _ _ (exec (Stmt.While _ _ _ _) _) _ _ _)); (fail_if_success (with_reducible show wpAny _ _ (exec (Stmt.For _ _ _ _ _) _) _ _ _)); (fail_if_success (with_reducible show wpAny _ _ (eval (PySem.Expr.ListComp _ _ _ _) _) _ _ _)); (fail_if_success (with_reducible show wpAny _ _ (exec (PySem.Stmt.Assign _ (PySem.Expr.ListComp _ _ _ _) _) _) _ _ _)); (fail_if_success (with_reducible show wpAny _ _ (call (Value.ref _) _) _ _ _)); (fail_if_success (with_reducible show wpAny _ _ (pyIter (Value.ref _)) _ _ _)); (fail_if_success (show LCg.CompSrc _ _ _ _ _ _ _ _ _ _ _ _ _ _)); first | (k_unfold; (try dsimp only)) | (k_end; wrow_close) | walk1 | (dsimp only; walk1) | (leave1; (try dsimp only)))))))
      rename News _ _ _ _ => N9
      rename Fr _ _ _ _ => F9
      have h600 : (PyData.list (.str (kdS .c) :: dts ts)).depth ≤ 600 := by omega
      have hcl : callerA.units + 3 + 600 < cLine := by decide
      refine' compareEq_via (da := .list (.str (kdS .c) :: dts ts)) (db := .list (.str (kdS .c) :: dts ts)) ?xa ?xb F9 N9 hlay hlay ?xu ?_
      case xa => exact hv3.more (fun p hp => by repeat' (first | exact hp | refine List.Mem.tail _ ?_))
      case xb => exact ReadsVia.list (by k_mem) (.cons (.str _ _) (rva_more hys4 (fun p hp => by repeat' (first | exact hp | refine List.Mem.tail _ ?_))))
      case xu =>
        rw [Nat.min_self]
        exact Nat.lt_of_le_of_lt (Nat.add_le_add_left h600 _) hcl
      rw [SeqAt.eqv_refl _ hlay]
      (repeat' (((first | ((fail_if_success (with_reducible show wpAny _ _ (exec (Stmt.While _ _ _ _) _) _ _ _)); (fail_if_success (with_reducible show wpAny _ _ (exec (Stmt.For _ _ _ _ _) _) _ _ _)); (fail_if_success (with_reducible show wpAny _ _ (eval (PySem.Expr.ListComp _ _ _ _) _) _ _ _)); (fail_if_success (with_reducible show wpAny _ _ (exec (PySem.Stmt.Assign _ (PySem.Expr.ListComp _ _ _ _) _) _) _ _ _)); (fail_if_success (with_reducible show wpAny _ _ (call (Value.ref _) _) _ _ _)); (fail_if_success (with_reducible show wpAny _ _ (pyIter (Value.ref _)) _ _ _)); (fail_if_success (show LCg.CompSrc _ _ _ _ _ _ _ _ _ _ _ _ _ _)); first | (k_unfold; (try dsimp only)) | (k_end; wrow_close) | walk1 | (dsimp only; walk1) | (leave1; (try dsimp only))))))))

end
end
end
end
end Mine

theorem PySem.Challenge.cw_io0038_01_holds : PySem.Challenge.rw_io0038_01.Holds :=
  Mine.law_holds
